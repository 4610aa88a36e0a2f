import PyProof.Rows.All
import Wide.All
import OpenK.AllK
import Wide.FinOn
import PySem.Challenge.RW_br6006_01
open PySem PySem.W PyProof.Rows
set_option Elab.async false
set_option maxRecDepth 100000
namespace Mine
set_option maxHeartbeats 8000000 in
open_top hd01 for PySem.Challenge.rw_br6006_01
end Mine
open PySem.Spec
namespace Mine

/-! names as numbers (base 256, the first sign lowest) -/
def dec : Nat → Nat → List Nat
  | 0, n => [n]
  | f + 1, n => match Nat.beq n 0 with
    | true => []
    | false => (n % 256) :: dec f (n / 256)
def enc : List Nat → Nat
  | [] => 0
  | c :: l => c + 256 * enc l
theorem enc_dec : ∀ f n, enc (dec f n) = n
  | 0, n => by simp [dec, enc]
  | f + 1, n => by
    unfold dec
    cases h : Nat.beq n 0 with
    | true => simp only [enc]; exact (Nat.eq_of_beq_eq_true h).symm
    | false =>
      simp only [enc, enc_dec f]
      omega
def nm (n : Nat) : Str := ⟨(dec 40 n).toArray⟩
theorem nm_inj {a b : Nat} (h : nm a = nm b) : a = b := by
  have h1 : dec 40 a = dec 40 b := by
    have := congrArg (fun x : Str => x.cps.toList) h
    simpa [nm] using this
  rw [← enc_dec 40 a, ← enc_dec 40 b, h1]

/-! the built-ins that the programs call -/
inductive Bi where
  | len | sorted | min | max | abs | range | list | tuple | enumerate

def Bi.val : Bi → Value
  | .len => .builtin "len" | .sorted => .builtin "sorted" | .min => .builtin "min" | .max => .builtin "max" | .abs => .builtin "abs"
  | .range => .type "range" | .list => .type "list" | .tuple => .type "tuple" | .enumerate => .type "enumerate"

/-! pure values -/
inductive AV where
  | none
  | bool (b : Bool)
  | int (i : Int)
  | str (s : Str)
  | lst (vs : List AV)
  | tup (vs : List AV)
  | rng (a b c : Int)
  | fn (a : Addr)
  | cls (a : Addr)
  | bi (k : Bi)

abbrev Wd := Addr → Option Obj
def Wd.le (W W' : Wd) : Prop := ∀ b o, W b = some o → W' b = some o
def Sub (W : Wd) (h : Heap) : Prop := ∀ b o, W b = some o → h.get? b = some o
abbrev KeepH (h h' : Heap) : Prop := ∀ b o, h.get? b = some o → h'.get? b = some o
/-- the world grown by all that is new -/
def ext (W : Wd) (h h' : Heap) : Wd := fun b => match h.get? b with
  | some _ => W b
  | none => h'.get? b
theorem KeepH.refl (h : Heap) : KeepH h h := fun _ _ e => e
theorem KeepH.trans {h h' h'' : Heap} (a : KeepH h h') (b : KeepH h' h'') : KeepH h h'' := fun x o e => b x o (a x o e)
theorem KeepH.push (h : Heap) (o : Obj) : KeepH h (h.push o) := fun _ _ e => Heap.get?_push_of_some _ e
theorem KeepH.sameBut {h h' : Heap} {a : Addr} (hs : Heap.SameBut a h h') (ha : h.get? a = none) : KeepH h h' := fun b o e => (hs.2 b (by rintro rfl; rw [ha] at e; cases e)).trans e
theorem Wd.le_refl (W : Wd) : W.le W := fun _ _ e => e
theorem Wd.le.trans {W W' W'' : Wd} (a : W.le W') (b : W'.le W'') : W.le W'' := fun x o e => b x o (a x o e)
theorem ext_sub {W : Wd} {h h' : Heap} (hs : Sub W h) (k : KeepH h h') : Sub (ext W h h') h' := fun b o e => by
  unfold ext at e
  split at e
  · exact k _ _ (hs _ _ e)
  · exact e
theorem ext_le {W : Wd} {h h' : Heap} (hs : Sub W h) : W.le (ext W h h') := fun b o e => by
  unfold ext
  rw [hs _ _ e]
  exact e
theorem ext_ext {W : Wd} {h h₁ h₂ : Heap} (k₁ : KeepH h h₁) (k₂ : KeepH h₁ h₂) : (ext (ext W h h₁) h₁ h₂).le (ext W h h₂) := fun b o e => by
  unfold ext at e ⊢
  cases q : h.get? b with
  | some x =>
    rw [k₁ _ _ q] at e
    simpa [q] using e
  | none =>
    simp only [q] at e
    cases q1 : h₁.get? b with
    | some x => rw [q1] at e; simp only [] at e; rw [← e]; exact k₂ _ _ q1
    | none => rw [q1] at e; exact e
theorem ext_new {W : Wd} {h h' : Heap} {a : Addr} (ha : h.get? a = none) : ext W h h' a = h'.get? a := by
  unfold ext; rw [ha]
theorem ext_mono {W : Wd} {h h₁ h₂ : Heap} (k₂ : KeepH h₁ h₂) : (ext W h h₁).le (ext W h h₂) := fun b o e => by
  unfold ext at e ⊢
  cases q : h.get? b with
  | some x => simpa [q] using e
  | none => simp only [q] at e; exact k₂ _ _ e
theorem ext_self {W : Wd} {h : Heap} (hs : Sub W h) : (ext W h h).le W := fun b o e => by
  unfold ext at e
  cases q : h.get? b with
  | some x => simpa [q] using e
  | none => simp only [q] at e; cases e

mutual
inductive VR (W : Wd) : AV → Value → Prop where
  | none : VR W .none .none
  | bool (b : Bool) : VR W (.bool b) (.bool b)
  | int (i : Int) (t : Tok) : VR W (.int i) (.int i t)
  | str (s : Str) (t : Tok) : VR W (.str s) (.str s t)
  | lst {a : Addr} {o : Obj} {items : Array Value} {n : Nat} {vs : List AV} : W a = some o → o.cls = .type "list" → o.data = .seq items n → VRs W vs items.toList → VR W (.lst vs) (.ref a)
  | tup {a : Addr} {o : Obj} {items : Array Value} {n : Nat} {vs : List AV} : W a = some o → o.cls = .type "tuple" → o.data = .seq items n → VRs W vs items.toList → VR W (.tup vs) (.ref a)
  | rng {r : Addr} {a b c : Int} {t u v : Tok} : W r = some { cls := .type "range", dict := none, data := .fields #[.int a t, .int b u, .int c v], slots := #[] } → VR W (.rng a b c) (.ref r)
  | fn (a : Addr) : VR W (.fn a) (.ref a)
  | cls (a : Addr) : VR W (.cls a) (.ref a)
  | bi (k : Bi) : VR W (.bi k) k.val
inductive VRs (W : Wd) : List AV → List Value → Prop where
  | nil : VRs W [] []
  | cons {x : AV} {v : Value} {xs : List AV} {vs : List Value} : VR W x v → VRs W xs vs → VRs W (x :: xs) (v :: vs)
end

mutual
theorem VR.mono {W W' : Wd} (k : W.le W') : ∀ {x : AV} {v : Value}, VR W x v → VR W' x v
  | _, _, .none => .none
  | _, _, .bool b => .bool b
  | _, _, .int i t => .int i t
  | _, _, .str s t => .str s t
  | _, _, .lst h c d r => .lst (k _ _ h) c d (VRs.mono k r)
  | _, _, .tup h c d r => .tup (k _ _ h) c d (VRs.mono k r)
  | _, _, .rng h => .rng (k _ _ h)
  | _, _, .fn a => .fn a
  | _, _, .cls a => .cls a
  | _, _, .bi k => .bi k
theorem VRs.mono {W W' : Wd} (k : W.le W') : ∀ {x : List AV} {v : List Value}, VRs W x v → VRs W' x v
  | _, _, .nil => .nil
  | _, _, .cons h r => .cons (VR.mono k h) (VRs.mono k r)
end
theorem VRs.length {W : Wd} : ∀ {xs : List AV} {vs : List Value}, VRs W xs vs → vs.length = xs.length
  | _, _, .nil => rfl
  | _, _, .cons _ r => by simp [VRs.length r]
theorem VRs.get {W : Wd} : ∀ {xs : List AV} {vs : List Value}, VRs W xs vs → ∀ {i : Nat} {v : Value}, vs[i]? = some v → ∃ x, xs[i]? = some x ∧ VR W x v
  | _, _, .nil, _, _, e => by simp at e
  | _, _, .cons h r, 0, _, e => by simp at e; subst e; exact ⟨_, rfl, h⟩
  | _, _, .cons h r, i + 1, _, e => by simp at e; obtain ⟨x, q, s⟩ := VRs.get r e; exact ⟨x, by simpa using q, s⟩
theorem VRs.at {W : Wd} : ∀ {xs : List AV} {vs : List Value}, VRs W xs vs → ∀ {i : Nat} {x : AV}, xs[i]? = some x → ∃ v, vs[i]? = some v ∧ VR W x v
  | _, _, .nil, _, _, e => by simp at e
  | _, _, .cons h r, 0, _, e => by simp at e; subst e; exact ⟨_, rfl, h⟩
  | _, _, .cons h r, i + 1, _, e => by simp at e; obtain ⟨x, q, s⟩ := VRs.at r e; exact ⟨x, by simpa using q, s⟩
theorem VRs.append {W : Wd} : ∀ {xs : List AV} {vs : List Value}, VRs W xs vs → ∀ {ys : List AV} {us : List Value}, VRs W ys us → VRs W (xs ++ ys) (vs ++ us)
  | _, _, .nil, _, _, h => h
  | _, _, .cons a r, _, _, h => .cons a (VRs.append r h)

/-! the same as the library's pure data -/
mutual
def toP : AV → PyData
  | .none => .none
  | .bool b => .bool b
  | .int i => .int i
  | .str s => .str s
  | .lst vs => .list (toPs vs)
  | .tup vs => .tuple (toPs vs)
  | _ => .none
def toPs : List AV → List PyData
  | [] => []
  | x :: r => toP x :: toPs r
end
mutual
def isP : AV → Bool
  | .none => true
  | .bool _ => true
  | .int _ => true
  | .str s => PyData.strOk s
  | .lst vs => isPs vs
  | .tup vs => isPs vs
  | _ => false
def isPs : List AV → Bool
  | [] => true
  | x :: r => isP x && isPs r
end
mutual
theorem VR.reads {W : Wd} {h : Heap} (hs : Sub W h) : ∀ {x : AV} {v : Value}, VR W x v → isP x = true → ∃ as, Reads h v (toP x) as
  | _, _, .none, _ => ⟨_, Reads.none⟩
  | _, _, .bool b, _ => ⟨_, Reads.bool b⟩
  | _, _, .int i t, _ => ⟨_, Reads.int i t⟩
  | _, _, .str s t, _ => ⟨_, Reads.str s t⟩
  | _, _, .lst e c d r, k => by
    obtain ⟨as, q⟩ := VRs.reads hs r (by simpa [isP] using k)
    simp only [toP]
    exact ⟨_, reads_list_at (hs _ _ e) c d q⟩
  | _, _, .tup e c d r, k => by
    obtain ⟨as, q⟩ := VRs.reads hs r (by simpa [isP] using k)
    simp only [toP]
    exact ⟨_, reads_tuple_at (hs _ _ e) c d q⟩
  | _, _, .rng _, k => by simp [isP] at k
  | _, _, .fn _, k => by simp [isP] at k
  | _, _, .cls _, k => by simp [isP] at k
  | _, _, .bi _, k => by simp [isP] at k
theorem VRs.reads {W : Wd} {h : Heap} (hs : Sub W h) : ∀ {x : List AV} {v : List Value}, VRs W x v → isPs x = true → ∃ as, ReadsAll h v (toPs x) as
  | _, _, .nil, _ => ⟨_, ReadsAll.nil⟩
  | _, _, .cons a r, k => by
    simp only [isPs, Bool.and_eq_true] at k
    obtain ⟨as, p⟩ := VR.reads hs a k.1
    obtain ⟨bs, q⟩ := VRs.reads hs r k.2
    simp only [toPs]
    exact ⟨_, ReadsAll.cons p q⟩
end
mutual
theorem canLay_toP : ∀ x : AV, isP x = true → (toP x).canLay0 = true
  | .none, _ => by simp [toP, PyData.canLay0]
  | .bool _, _ => by simp [toP, PyData.canLay0]
  | .int _, _ => by simp [toP, PyData.canLay0]
  | .str s, k => by simpa [toP, PyData.canLay0, isP] using k
  | .lst vs, k => by simp only [toP, PyData.canLay0]; exact canLay_toPs vs (by simpa [isP] using k)
  | .tup vs, k => by simp only [toP, PyData.canLay0]; exact canLay_toPs vs (by simpa [isP] using k)
  | .rng .., k => by simp [isP] at k
  | .fn _, k => by simp [isP] at k
  | .cls _, k => by simp [isP] at k
  | .bi _, k => by simp [isP] at k
theorem canLay_toPs : ∀ x : List AV, isPs x = true → PyData.canLayAll0 (toPs x) = true
  | [], _ => by simp [toPs, PyData.canLayAll0]
  | x :: r, k => by
    simp only [isPs, Bool.and_eq_true] at k
    simp only [toPs, PyData.canLayAll0, canLay_toP x k.1, canLay_toPs r k.2, Bool.and_self]
end
/-! depth, reckoned so that short data need no look -/
mutual
def dep : AV → Nat
  | .lst vs => deps vs + 1
  | .tup vs => deps vs + 1
  | _ => 0
def deps : List AV → Nat
  | [] => 0
  | x :: r => max (dep x) (deps r)
end
mutual
theorem depth_toP : ∀ x : AV, (toP x).depth ≤ dep x
  | .none => by simp [toP, PyData.depth]
  | .bool _ => by simp [toP, PyData.depth]
  | .int _ => by simp [toP, PyData.depth]
  | .str s => by simp [toP, PyData.depth]
  | .lst vs => by simp only [toP, PyData.depth, dep]; have := depth_toPs vs; omega
  | .tup vs => by simp only [toP, PyData.depth, dep]; have := depth_toPs vs; omega
  | .rng .. => by simp [toP, PyData.depth]
  | .fn _ => by simp [toP, PyData.depth]
  | .cls _ => by simp [toP, PyData.depth]
  | .bi _ => by simp [toP, PyData.depth]
theorem depth_toPs : ∀ x : List AV, PyData.depthAll (toPs x) ≤ deps x
  | [] => by simp [toPs, PyData.depthAll]
  | x :: r => by
    simp only [toPs, PyData.depthAll, deps]
    have a := depth_toP x
    have b := depth_toPs r
    omega
end
end Mine
namespace Mine

/-! the syntax that is walked -/
inductive Tgt where
  | one (n : Nat) (p : Pos)
  | tup (ns : List (Nat × Pos)) (k : Nat) (p : Pos)
abbrev Ks := List (Nat × NameKind)
mutual
inductive AE where
  | cst (c : Const) (k : Nat) (p : Pos)
  | nm (n : Nat) (p : Pos)
  | bin (l : AE) (op : Operator) (r : AE) (p : Pos)
  | cmp (l : AE) (op : CmpOp) (r : AE) (p : Pos)
  | bop (op : BoolOp) (es : AEs) (p : Pos)
  | neg (e : AE) (p : Pos)
  | nt (e : AE) (p : Pos)
  | ife (t b o : AE) (p : Pos)
  | lst (es : AEs) (p : Pos)
  | tup (es : AEs) (k : Nat) (p : Pos)
  | sub (e i : AE) (p : Pos)
  | slc (e : AE) (lo hi : AO) (q p : Pos)
  | call (f : Nat) (fp : Pos) (args : AEs) (p : Pos)
  | sm (o : Nat) (op : Pos) (name : Nat) (ap : Pos) (args : AEs) (p : Pos)
  | comp (elt : AE) (t : Tgt) (iter : AE) (ifs : AEs) (ks : Ks) (p : Pos)
  | comp2 (elt : AE) (t : Tgt) (iter : AE) (t2 : Tgt) (iter2 : AE) (ks : Ks) (p : Pos)
inductive AEs where
  | nil
  | cons (e : AE) (es : AEs)
inductive AO where
  | none
  | some (e : AE)
end
def Tgt.toExpr : Tgt → Expr
  | .one n p => .Name (Mine.nm n) p
  | .tup ns k p => .Tuple (ns.map fun x => .Name (Mine.nm x.1) x.2) k p
def Ks.names (ks : Ks) : List (Str × NameKind) := ks.map fun x => (Mine.nm x.1, x.2)
def Ks.scope (ks : Ks) : Scope := { kind := .function, names := Ks.names ks, isGenerator := false, isCoroutine := false, more := [] }
mutual
def AE.toExpr : AE → Expr
  | .cst c k p => .Constant c k p
  | .nm n p => .Name (Mine.nm n) p
  | .bin l op r p => .BinOp l.toExpr op r.toExpr p
  | .cmp l op r p => .Compare l.toExpr [op] [r.toExpr] p
  | .bop op es p => .BoolOp op es.toExprs p
  | .neg e p => .UnaryOp .USub e.toExpr p
  | .nt e p => .UnaryOp .Not e.toExpr p
  | .ife t b o p => .IfExp t.toExpr b.toExpr o.toExpr p
  | .lst es p => .List es.toExprs p
  | .tup es k p => .Tuple es.toExprs k p
  | .sub e i p => .Subscript e.toExpr i.toExpr p
  | .slc e lo hi q p => .Subscript e.toExpr (.Slice lo.toOpt hi.toOpt none q) p
  | .call f fp args p => .Call (.Name (Mine.nm f) fp) args.toExprs [] p
  | .sm o op name ap args p => .Call (.Attribute (.Name (Mine.nm o) op) (Mine.nm name) ap) args.toExprs [] p
  | .comp elt t iter ifs ks p => .ListComp elt.toExpr [⟨t.toExpr, iter.toExpr, ifs.toExprs, 0⟩] (Ks.scope ks) p
  | .comp2 elt t iter t2 iter2 ks p => .ListComp elt.toExpr [⟨t.toExpr, iter.toExpr, [], 0⟩, ⟨t2.toExpr, iter2.toExpr, [], 0⟩] (Ks.scope ks) p
def AEs.toExprs : AEs → List Expr
  | .nil => []
  | .cons e es => e.toExpr :: es.toExprs
def AO.toOpt : AO → Option Expr
  | .none => Option.none
  | .some e => Option.some e.toExpr
end

/-! values of names -/
abbrev Rho := List (Nat × AV)
def look : Rho → Nat → Option AV
  | [], _ => none
  | (m, v) :: r, n => match Nat.beq m n with
    | true => some v
    | false => look r n
theorem look_cons (m : Nat) (v : AV) (r : Rho) (n : Nat) : look ((m, v) :: r) n = if m = n then some v else look r n := by
  show (match Nat.beq m n with | true => some v | false => look r n) = _
  by_cases h : m = n
  · subst h; simp
  · have : Nat.beq m n = false := by
      cases q : Nat.beq m n with
      | false => rfl
      | true => exact absurd (Nat.eq_of_beq_eq_true q) h
    rw [this, if_neg h]
def kindIn (ks : Ks) (n : Nat) : Option NameKind := match ks with
  | [] => none
  | (m, k) :: r => match Nat.beq m n with
    | true => some k
    | false => kindIn r n
theorem kindIn_lookup (n : Nat) : ∀ ks : Ks, (Ks.names ks).lookup (nm n) = kindIn ks n
  | [] => rfl
  | (m, k) :: r => by
    show List.lookup (nm n) ((nm m, k) :: Ks.names r) = _
    rw [List.lookup_cons]
    unfold kindIn
    cases q : Nat.beq m n with
    | true =>
      have := Nat.eq_of_beq_eq_true q
      subst this
      simp
    | false =>
      have : (nm n == nm m) = false := by
        apply beq_eq_false_iff_ne.mpr
        intro e
        have := nm_inj e
        subst this
        simp at q
      rw [this]
      exact kindIn_lookup n r

/-! what the operators give -/
def small (b : Int) : Bool := Nat.blt b.natAbs 18446744073709551616
def binI (op : Operator) (a b : Int) : Option AV := match op with
  | .Add => some (.int (a + b))
  | .Sub => some (.int (a - b))
  | .Mult => match small a || small b with | true => some (.int (a * b)) | false => none
  | .FloorDiv => match small b && !(b == 0) with | true => some (.int (Int.fdiv a b)) | false => none
  | .Mod => match b == 0 with | true => none | false => some (.int (Int.fmod a b))
  | .Pow => match small a && decide (0 ≤ b) && decide (b ≤ 1000000) with | true => some (.int (a ^ b.toNat)) | false => none
  | _ => none
def b2i (b : Bool) : Int := if b = true then 1 else 0
def binAV (op : Operator) (a b : AV) : Option AV := match a, b with
  | .int a, .int b => binI op a b
  | .int a, .bool b => match op with
    | .Add => some (.int (a + b2i b))
    | .Sub => some (.int (a - b2i b))
    | _ => none
  | .lst xs, .lst ys => match op with
    | .Add => if xs.length + ys.length ≤ 16777216 then some (.lst (xs ++ ys)) else none
    | _ => none
  | _, _ => none
def eqAV (a b : AV) : Option Bool := match isP a && isP b && Nat.ble (dep a) 64 && Nat.ble (dep b) 64 with
  | true => some (PyData.eqv (toP a) (toP b))
  | false => none
def inAV (a : AV) (c : AV) : Option Bool := match c with
  | .lst xs => match isP a && isPs xs && Nat.ble (dep a) 40 with
    | true => some ((toPs xs).any fun y => PyData.eqv y (toP a))
    | false => none
  | .tup xs => match isP a && isPs xs && Nat.ble (dep a) 40 with
    | true => some ((toPs xs).any fun y => PyData.eqv y (toP a))
    | false => none
  | _ => none
def isAV (a b : AV) : Option Bool := match a, b with
  | .none, .none => some true
  | .int _, .none => some false
  | .bool _, .none => some false
  | .str _, .none => some false
  | .lst _, .none => some false
  | .tup _, .none => some false
  | .bool a, .bool b => some (a == b)
  | _, _ => none
def cmpAV (op : CmpOp) (a b : AV) : Option AV := match op with
  | .Eq => (eqAV a b).map .bool
  | .NotEq => (eqAV a b).map fun x => .bool !x
  | .In => (inAV a b).map .bool
  | .NotIn => (inAV a b).map fun x => .bool !x
  | .Is => (isAV a b).map .bool
  | .IsNot => (isAV a b).map fun x => .bool !x
  | .Lt => match a, b with | .int a, .int b => some (.bool (decide (a < b))) | _, _ => none
  | .LtE => match a, b with | .int a, .int b => some (.bool (decide (a ≤ b))) | _, _ => none
  | .Gt => match a, b with | .int a, .int b => some (.bool (decide (a > b))) | _, _ => none
  | .GtE => match a, b with | .int a, .int b => some (.bool (decide (a ≥ b))) | _, _ => none
def truth : AV → Option Bool
  | .bool b => some b
  | .none => some false
  | .lst vs => if vs.length < 4611686018427387904 then some (!vs.isEmpty) else none
  | _ => none
def rangeVals (a b c : Int) : Option (List Int) := match PySem.Builtin.Range.small a b c && decide (0 ≤ Builtin.Range.rangeSize a b c) with
  | true => some (rangeInts a c (Builtin.Range.rangeSize a b c).toNat)
  | false => none
def iterVals : AV → Option (List AV)
  | .lst vs => some vs
  | .tup vs => some vs
  | .rng a b c => (rangeVals a b c).map fun l => l.map .int
  | _ => none
def nth : List AV → Int → Option AV
  | xs, i => match decide (0 ≤ i) with
    | true => if i < 9223372036854775808 then xs[i.toNat]? else none
    | false => if -(xs.length : Int) ≤ i ∧ -9223372036854775808 ≤ i then xs[(i + xs.length).toNat]? else none
def subAV (e i : AV) : Option AV := match e, i with
  | .lst xs, .int i => nth xs i
  | .tup xs, .int i => nth xs i
  | _, _ => none
def pick (xs : List AV) (lo hi : Option Int) : List AV :=
  (sliceRange (sliceBounds lo hi none xs.length).1 (sliceBounds lo hi none xs.length).2.1 (sliceBounds lo hi none xs.length).2.2).filterMap fun i => xs[i]?
def partAV : Option AV → Option (Option Int)
  | none => some none
  | some (.int i) => some (some i)
  | some .none => some none
  | _ => none

/-! built-ins -/
def asInt : AV → Option Int
  | .int i => some i
  | _ => none
def intsOf : List AV → Option (List Int)
  | [] => some []
  | x :: r => match asInt x, intsOf r with
    | some i, some l => some (i :: l)
    | _, _ => none
def ins (x : Int) : List Int → List Int
  | [] => [x]
  | y :: r => match decide (x ≤ y) with
    | true => x :: y :: r
    | false => y :: ins x r
def isort : List Int → List Int
  | [] => []
  | x :: r => ins x (isort r)
def least : Int → List Int → Int
  | m, [] => m
  | m, x :: r => least (if x < m then x else m) r
def biAV (k : Bi) (args : List AV) : Option AV := match k, args with
  | .len, [.lst vs] => if vs.length < 4611686018427387904 then some (.int vs.length) else none
  | .len, [.tup vs] => if vs.length < 4611686018427387904 then some (.int vs.length) else none
  | .abs, [.int i] => some (.int (if i < 0 then -i else i))
  | .min, [.int a, .int b] => some (.int (if b < a then b else a))
  | .max, [.int a, .int b] => some (.int (if b > a then b else a))
  | .min, [.lst vs] => match intsOf vs with
    | some (x :: l) => some (.int (least x l))
    | _ => none
  | .sorted, [.lst vs] => match intsOf vs with
    | some l => if l.length < 64 then some (.lst ((isort l).map .int)) else none
    | _ => none
  | .range, [.int b] => some (.rng 0 b 1)
  | .range, [.int a, .int b] => some (.rng a b 1)
  | .range, [.int a, .int b, .int c] => match small c && !(c == 0) with | true => some (.rng a b c) | false => none
  | .list, [.rng a b c] => match rangeVals a b c with
    | some l => if l.length ≤ 16777216 then some (.lst (l.map .int)) else none
    | none => none
  | .list, [.lst vs] => if vs.length ≤ 16777216 then some (.lst vs) else none
  | .list, [.tup vs] => if vs.length ≤ 16777216 then some (.lst vs) else none
  | .tuple, [.rng a b c] => match rangeVals a b c with
    | some l => if l.length ≤ 16777216 then some (.tup (l.map .int)) else none
    | none => none
  | _, _ => none

/-! the evaluator -/
structure Cfg where
  G : Rho
  fn : Addr → Option (List AV → Option AV)
  /-- static methods: class, name, function -/
  sm : Addr → Nat → Option Addr
def bindAll : List Nat → List AV → Rho → Option Rho
  | [], [], ρ => some ρ
  | n :: ns, v :: vs, ρ => bindAll ns vs ((n, v) :: ρ)
  | _, _, _ => none
def bindT (t : Tgt) (v : AV) (ρ : Rho) : Option Rho := match t with
  | .one n _ => some ((n, v) :: ρ)
  | .tup ns _ _ => match v with
    | .tup vs => bindAll (ns.map (·.1)) vs ρ
    | _ => none
def cenv (G : Rho) (ρ : Rho) : Ks → Rho
  | [] => []
  | (n, k) :: r => match k with
    | .free => (match look ρ n with | some v => (n, v) :: cenv G ρ r | none => cenv G ρ r)
    | .globalImplicit => (match look G n with | some v => (n, v) :: cenv G ρ r | none => cenv G ρ r)
    | _ => cenv G ρ r
def tnames : Tgt → List Nat
  | .one n _ => [n]
  | .tup ns _ _ => ns.map (·.1)
def memN (n : Nat) : List Nat → Bool
  | [] => false
  | m :: r => match Nat.beq m n with
    | true => true
    | false => memN n r
def frees : Ks → List Nat
  | [] => []
  | (n, k) :: r => match k with
    | .free => n :: frees r
    | _ => frees r
def cDbg : Nat := 1759315279424080076639
def cCD : Nat := 7556217219641643337622556467039
/-- a comprehension's table of names is as the walk wants it -/
def compOk (cn : List Nat) (ks : Ks) (ts : List Nat) : Bool :=
  ks.all (fun x => match x.2 with | .free => memN x.1 cn && !(Nat.beq x.1 cCD) | .local => true | .globalImplicit => true | _ => false) && ts.all (fun n => kindIn ks n == some .local && !(Nat.beq n cDbg)) && ks.all (fun x => kindIn ks x.1 == some x.2)
def mapF (f : AV → Option (Option AV)) : List AV → Option (List AV)
  | [] => some []
  | x :: r => match f x with
    | none => none
    | some none => mapF f r
    | some (some y) => match mapF f r with
      | some l => some (y :: l)
      | none => none
def catF (f : AV → Option (List AV)) : List AV → Option (List AV)
  | [] => some []
  | x :: r => match f x with
    | none => none
    | some l => match catF f r with
      | some l' => some (l ++ l')
      | none => none
def nargs : AEs → Nat → Bool
  | .nil, _ => true
  | .cons _ es, n + 1 => nargs es n
  | .cons _ _, 0 => false
mutual
def aeval (C : Cfg) : AE → (cn : List Nat) → Rho → Option AV
  | .cst c _ _, _, _ => match c with
    | .none => some .none
    | .bool b => some (.bool b)
    | .int i => some (.int i)
    | .str s => some (.str s)
    | _ => none
  | .nm n _, _, ρ => look ρ n
  | .bin l op r _, cn, ρ => match aeval C l cn ρ with
    | some a => match aeval C r cn ρ with
      | some b => binAV op a b
      | none => none
    | none => none
  | .cmp l op r _, cn, ρ => match aeval C l cn ρ with
    | some a => match aeval C r cn ρ with
      | some b => cmpAV op a b
      | none => none
    | none => none
  | .bop op es _, cn, ρ => abop C op es cn ρ
  | .neg e _, cn, ρ => match aeval C e cn ρ with
    | some (.int i) => some (.int (-i))
    | _ => none
  | .nt e _, cn, ρ => match aeval C e cn ρ with
    | some a => (truth a).map fun b => .bool !b
    | none => none
  | .ife t b o _, cn, ρ => match aeval C t cn ρ with
    | some a => match truth a with
      | some true => aeval C b cn ρ
      | some false => aeval C o cn ρ
      | none => none
    | none => none
  | .lst es _, cn, ρ => match aevals C es cn ρ with
    | some vs => if vs.length ≤ 16777216 then some (.lst vs) else none
    | none => none
  | .tup es _ _, cn, ρ => match aevals C es cn ρ with
    | some vs => if vs.length ≤ 16777216 then some (.tup vs) else none
    | none => none
  | .sub e i _, cn, ρ => match aeval C e cn ρ with
    | some a => match aeval C i cn ρ with
      | some b => subAV a b
      | none => none
    | none => none
  | .slc e lo hi _ _, cn, ρ => match aeval C e cn ρ with
    | some (.lst xs) => match aopt C lo cn ρ with
      | some l => match aopt C hi cn ρ with
        | some h => if xs.length ≤ 16777216 then some (.lst (pick xs l h)) else none
        | none => none
      | none => none
    | _ => none
  | .call f _ args _, cn, ρ => match look ρ f with
    | some (.bi k) => match aevals C args cn ρ with
      | some vs => biAV k vs
      | none => none
    | some (.fn a) => match aevals C args cn ρ with
      | some vs => match C.fn a with
        | some F => F vs
        | none => none
      | none => none
    | _ => none
  | .sm o _ name ap args p, cn, ρ => match look ρ o with
    | some (.cls c) => match (match Nat.beq ap.endLine p.line && nargs args 20 with | true => C.sm c name | false => none) with
      | some a => match aevals C args cn ρ with
        | some vs => match C.fn a with
          | some F => F vs
          | none => none
        | none => none
      | none => none
    | _ => none
  | .comp elt t iter ifs ks _, cn, ρ => match compOk cn ks (tnames t) with
    | true => match aeval C iter cn ρ with
      | some it => match iterVals it with
        | some xs => match mapF (fun v => match bindT t v (cenv C.G ρ ks) with
            | some ρ' => match atests C ifs (frees ks) ρ' with
              | some true => (aeval C elt (frees ks) ρ').map some
              | some false => some none
              | none => none
            | none => none) xs with
          | some l => if xs.length ≤ 16777216 then some (.lst l) else none
          | none => none
        | none => none
      | none => none
    | false => none
  | .comp2 elt t iter t2 iter2 ks _, cn, ρ => match compOk cn ks (tnames t ++ tnames t2) && (tnames t2).all (fun n => !memN n (tnames t)) with
    | true => match aeval C iter cn ρ with
      | some it => match iterVals it with
        | some xs => match catF (fun v => match bindT t v (cenv C.G ρ ks) with
            | some ρ' => match aeval C iter2 (frees ks) ρ' with
              | some it2 => match iterVals it2 with
                | some ys => mapF (fun u => match bindT t2 u ρ' with
                    | some ρ₂ => (aeval C elt (frees ks) ρ₂).map some
                    | none => none) ys
                | none => none
              | none => none
            | none => none) xs with
          | some l => if l.length ≤ 16777216 then some (.lst l) else none
          | none => none
        | none => none
      | none => none
    | false => none
def aevals (C : Cfg) : AEs → List Nat → Rho → Option (List AV)
  | .nil, _, _ => some []
  | .cons e es, cn, ρ => match aeval C e cn ρ with
    | some v => match aevals C es cn ρ with
      | some vs => some (v :: vs)
      | none => none
    | none => none
def abop (C : Cfg) (op : BoolOp) : AEs → List Nat → Rho → Option AV
  | .nil, _, _ => none
  | .cons e .nil, cn, ρ => aeval C e cn ρ
  | .cons e (.cons e' es), cn, ρ => match aeval C e cn ρ with
    | some v => match truth v with
      | some t => match op, t with
        | .And, false => some v
        | .Or, true => some v
        | _, _ => abop C op (.cons e' es) cn ρ
      | none => none
    | none => none
def aopt (C : Cfg) : AO → List Nat → Rho → Option (Option Int)
  | .none, _, _ => some none
  | .some e, cn, ρ => match aeval C e cn ρ with
    | some (.int i) => some (some i)
    | some .none => some none
    | _ => none
def atests (C : Cfg) : AEs → List Nat → Rho → Option Bool
  | .nil, _, _ => some true
  | .cons e es, cn, ρ => match aeval C e cn ρ with
    | some v => match truth v with
      | some true => atests C es cn ρ
      | some false => some false
      | none => none
    | none => none
end
end Mine
namespace Mine

structure Room (A : Around) (d : Nat) : Prop where
  handled : A.handled = none
  depth : A.depth + d < 600
  units : A.units + 100 * d + 300 < cLine

section
variable {prog : Program} {w : World} {A : Around} {s : Shared} {W : Wd}

/-- the tree comes back with r, and all that stood stands -/
def Ev (prog : Program) (w : World) (A : Around) (W : Wd) (s : Shared) (t : Sem Value) (r : AV) : Prop :=
  ∀ (Q E : Value → Shared → Prop), (∀ v h' tk, KeepH s.heap h' → VR (ext W s.heap h') r v → Q v { s with heap := h', toks := tk }) → wpAny (model prog w) A t Q E s

theorem Ev.of_le {W' : Wd} {t : Sem Value} {r : AV} (h : Ev prog w A W' s t r) (k : ∀ h', KeepH s.heap h' → (ext W' s.heap h').le (ext W s.heap h')) : Ev prog w A W s t r :=
  fun Q E q => h Q E fun v h' tk kh hv => q v h' tk kh (hv.mono (k h' kh))

theorem fresh_none {h : Heap} {a : Addr} (ha : h.objs.size ≤ a) : h.get? a = none := Heap.get?_none_of_le ha
theorem fresh_size (h : Heap) : h.get? h.objs.size = none := Heap.get?_none_of_le (Nat.le_refl _)

/-! operators on ints -/
theorem small_lt {b : Int} (h : small b = true) : b.natAbs < 2 ^ 64 := Nat.le_of_ble_eq_true h
theorem noPylong64 {x y : Int} (h : y.natAbs < 2 ^ 64) : Builtin.divisionGoesByPylong x y = false := by
  refine PyProof.noPylong_of_log2 ?_
  have : y.natAbs.log2 < 64 := by
    by_cases h0 : y.natAbs = 0
    · rw [h0]; decide
    · exact (Nat.log2_lt h0).mpr h
  omega
theorem binI_ok {op : Operator} {a b : Int} {t u : Tok} {r : AV} (e : binI op a b = some r) : Ev prog w A W s (binaryOp op (.int a t) (.int b u)) r := by
  intro Q E q
  have fin : ∀ (i : Int), r = .int i → Q (.int i s.toks) { s with toks := s.toks + 1 } := fun i hi => by
    subst hi
    exact q _ _ _ (KeepH.refl _) (.int _ _)
  cases op <;> simp only [binI] at e <;> try cases e
  · exact add_int (fin _ rfl)
  · exact sub_int (fin _ rfl)
  · split at e
    · rename_i h
      cases e
      refine mul_int (fin _ rfl) ?_
      rcases Bool.or_eq_true_iff.mp h with h | h
      · exact IntMulOk.of_left (intBits_le_64 (by have := small_lt h; omega) (by have := small_lt h; omega))
      · exact IntMulOk.of_right (intBits_le_64 (by have := small_lt h; omega) (by have := small_lt h; omega))
    · cases e
  · split at e
    · cases e
    · rename_i h
      cases e
      exact mod_int' (by simpa using h) (fin _ rfl)
  · split at e
    · rename_i h
      cases e
      simp only [Bool.and_eq_true, decide_eq_true_eq] at h
      exact pow_int h.1.2 (bits_mul_le (small_lt h.1.1) h.1.2 h.2) (fin _ rfl)
    · cases e
  · split at e
    · rename_i h
      cases e
      simp only [Bool.and_eq_true, Bool.not_eq_true', beq_eq_false_iff_ne] at h
      exact floordiv_int h.2 (fin _ rfl) (.inl (noPylong64 (small_lt h.1)))
    · cases e
end
end Mine
namespace Mine

section
variable {prog : Program} {w : World} {A : Around} {s : Shared} {W : Wd}

theorem inv_lst {W : Wd} {vs : List AV} {v : Value} (h : VR W (.lst vs) v) : ∃ a o items n, v = .ref a ∧ W a = some o ∧ o.cls = .type "list" ∧ o.data = .seq items n ∧ VRs W vs items.toList := by
  cases h with
  | lst a b c d => exact ⟨_, _, _, _, rfl, a, b, c, d⟩
theorem inv_tup {W : Wd} {vs : List AV} {v : Value} (h : VR W (.tup vs) v) : ∃ a o items n, v = .ref a ∧ W a = some o ∧ o.cls = .type "tuple" ∧ o.data = .seq items n ∧ VRs W vs items.toList := by
  cases h with
  | tup a b c d => exact ⟨_, _, _, _, rfl, a, b, c, d⟩
theorem inv_rng {W : Wd} {a b c : Int} {v : Value} (h : VR W (.rng a b c) v) : ∃ r t u v', v = .ref r ∧ W r = some { cls := .type "range", dict := none, data := .fields #[.int a t, .int b u, .int c v'], slots := #[] } := by
  cases h with
  | rng a => exact ⟨_, _, _, _, rfl, a⟩
theorem isList_of {W : Wd} {h : Heap} {a : Addr} {o : Obj} {items : Array Value} {n : Nat} (hs : Sub W h) (e : W a = some o) (c : o.cls = .type "list") (d : o.data = .seq items n) : h.IsList a items := ⟨o, hs _ _ e, c, n, d⟩
theorem isTup_of {W : Wd} {h : Heap} {a : Addr} {o : Obj} {items : Array Value} {n : Nat} (hs : Sub W h) (e : W a = some o) (c : o.cls = .type "tuple") (d : o.data = .seq items n) : h.IsTuple a items := ⟨o, hs _ _ e, c, n, d⟩

theorem addlist {l b : Addr} {i1 i2 : Array Value} {Q E : Value → Shared → Prop} (hl : s.heap.IsList l i1) (hb : s.heap.IsList b i2) (hsz : i1.size + i2.size ≤ sizeLine)
    (h : Q (.ref s.heap.objs.size) { s with heap := s.heap.push { cls := .type "list", data := .seq (i1 ++ i2) } }) : wpAny (model prog w) A (binaryOp .Add (.ref l) (.ref b)) Q E s := by
  obtain ⟨⟨cls, dd, data, sl⟩, ho, hc, n, hd⟩ := id hl
  obtain ⟨⟨cls2, dd2, data2, sl2⟩, ho2, hc2, n2, hd2⟩ := id hb
  simp only at hc hd hc2 hd2
  subst hc hd hc2 hd2
  exact concat_meets ⟨_, ho, rfl⟩ ⟨_, ho2, rfl⟩ noFill_list_add seq_list_add PySem.F.slot_list_add PySem.F.entry_list_add (PySem.F.args_list_add_2 _ _) (list_addW l b i1 i2 n n2 dd dd2 sl sl2 hsz) ⟨ho, ho2, h⟩

theorem vr_new_list {h h' : Heap} {a : Addr} {items : Array Value} {n : Nat} {vs : List AV} (ha : h.get? a = none) (e : h'.get? a = some { cls := .type "list", data := .seq items n }) (hv : VRs (ext W h h') vs items.toList) :
    VR (ext W h h') (.lst vs) (.ref a) := .lst ((ext_new ha).trans e) rfl rfl hv
theorem vr_new_tuple {h h' : Heap} {a : Addr} {items : Array Value} {n : Nat} {vs : List AV} (ha : h.get? a = none) (e : h'.get? a = some { cls := .type "tuple", data := .seq items n }) (hv : VRs (ext W h h') vs items.toList) :
    VR (ext W h h') (.tup vs) (.ref a) := .tup ((ext_new ha).trans e) rfl rfl hv

theorem binAV_ok {op : Operator} {a b : AV} {va vb : Value} {r : AV} (hs : Sub W s.heap) (ha : VR W a va) (hb : VR W b vb) (e : binAV op a b = some r) : Ev prog w A W s (binaryOp op va vb) r := by
  cases ha with
  | int a t =>
    cases hb with
    | int b u => exact binI_ok e
    | bool b =>
      intro Q E q
      have fin : ∀ (i : Int), r = .int i → Q (.int i s.toks) { s with toks := s.toks + 1 } := fun i hi => by
        subst hi
        exact q _ _ _ (KeepH.refl _) (.int _ _)
      cases op <;> simp only [binAV] at e <;> try cases e
      · exact PySem.add_int_bool (fin _ rfl)
      · exact IntBool.sub_int_bool (fin _ rfl)
    | _ => simp [binAV] at e
  | lst e1 c1 d1 r1 =>
    rename_i xs
    cases hb with
    | lst e2 c2 d2 r2 =>
      rename_i ys
      cases op <;> simp only [binAV] at e <;> try cases e
      split at e
      · rename_i hsz
        cases e
        intro Q E q
        have l1 := VRs.length r1
        have l2 := VRs.length r2
        refine addlist (isList_of hs e1 c1 d1) (isList_of hs e2 c2 d2) (by simp only [Array.length_toList] at l1 l2; show _ ≤ 2 ^ 24; omega) (q _ _ s.toks (KeepH.push _ _) ?_)
        refine vr_new_list (fresh_size _) (Heap.get?_push_size _ rfl) ?_
        rw [Array.toList_append]
        exact VRs.append (VRs.mono (ext_le hs) r1) (VRs.mono (ext_le hs) r2)
      · cases e
    | _ => simp [binAV] at e
  | _ => simp [binAV] at e

theorem bool_fin {t : Sem Value} {b : Bool} (h : ∀ (Q E : Value → Shared → Prop), Q (.bool b) s → wpAny (model prog w) A t Q E s) : Ev prog w A W s t (.bool b) :=
  fun Q E q => h Q E (q _ _ s.toks (KeepH.refl _) (.bool _))

theorem eqAV_parts {a b : AV} {r : Bool} (e : eqAV a b = some r) : isP a = true ∧ isP b = true ∧ dep a ≤ 64 ∧ dep b ≤ 64 ∧ r = PyData.eqv (toP a) (toP b) := by
  unfold eqAV at e
  split at e
  · rename_i h
    simp only [Bool.and_eq_true] at h
    cases e
    exact ⟨h.1.1.1, h.1.1.2, Nat.le_of_ble_eq_true h.1.2, Nat.le_of_ble_eq_true h.2, rfl⟩
  · cases e
theorem shaped_of {a : AV} (h : isP a = true) (hd : dep a ≤ 64) : SeqAt.shaped (toP a) = true := by
  unfold SeqAt.shaped
  rw [canLay_toP a h, Bool.true_and]
  exact decide_eq_true (Nat.le_trans (depth_toP a) hd)

theorem inAV_parts {a c : AV} {r : Bool} (e : inAV a c = some r) : ∃ xs, (c = .lst xs ∨ c = .tup xs) ∧ isP a = true ∧ isPs xs = true ∧ dep a ≤ 40 ∧ r = (toPs xs).any fun y => PyData.eqv y (toP a) := by
  cases c with
  | lst xs =>
    simp only [inAV] at e
    split at e
    · rename_i h
      simp only [Bool.and_eq_true] at h
      cases e
      exact ⟨xs, .inl rfl, h.1.1, h.1.2, Nat.le_of_ble_eq_true h.2, rfl⟩
    · cases e
  | tup xs =>
    simp only [inAV] at e
    split at e
    · rename_i h
      simp only [Bool.and_eq_true] at h
      cases e
      exact ⟨xs, .inr rfl, h.1.1, h.1.2, Nat.le_of_ble_eq_true h.2, rfl⟩
    · cases e
  | _ => simp [inAV] at e

theorem isAV_ok {a b : AV} {va vb : Value} {r : Bool} (ha : VR W a va) (hb : VR W b vb) (e : isAV a b = some r) : plainIs va vb = true ∧ (va == vb) = r := by
  cases ha <;> cases hb <;> simp only [isAV] at e <;> cases e <;> first | exact ⟨rfl, rfl⟩ | skip
  all_goals (refine ⟨rfl, ?_⟩; rename_i x y; cases x <;> cases y <;> rfl)

theorem cmpAV_ok {d : Nat} (R : Room A d) {op : CmpOp} {a b : AV} {va vb : Value} {r : AV} (hs : Sub W s.heap) (ha : VR W a va) (hb : VR W b vb) (e : cmpAV op a b = some r) : Ev prog w A W s (compareOp op va vb) r := by
  have hu := R.units
  cases op with
  | Eq =>
    simp only [cmpAV, Option.map_eq_some_iff] at e
    obtain ⟨x, e, rfl⟩ := e
    obtain ⟨p1, p2, p3, p4, rfl⟩ := eqAV_parts e
    obtain ⟨as, ra⟩ := VR.reads hs ha p1
    obtain ⟨bs, rb⟩ := VR.reads hs hb p2
    exact bool_fin fun Q E q => eq_dataH ra rb (shaped_of p1 p3) (shaped_of p2 p4) (by omega) q
  | NotEq =>
    simp only [cmpAV, Option.map_eq_some_iff] at e
    obtain ⟨x, e, rfl⟩ := e
    obtain ⟨p1, p2, p3, p4, rfl⟩ := eqAV_parts e
    obtain ⟨as, ra⟩ := VR.reads hs ha p1
    obtain ⟨bs, rb⟩ := VR.reads hs hb p2
    exact bool_fin fun Q E q => ne_dataH ra rb (shaped_of p1 p3) (shaped_of p2 p4) (by omega) q
  | In =>
    simp only [cmpAV, Option.map_eq_some_iff] at e
    obtain ⟨x, e, rfl⟩ := e
    obtain ⟨xs, hx, p1, p2, p3, rfl⟩ := inAV_parts e
    obtain ⟨as, ra⟩ := VR.reads hs ha p1
    have hm : A.units + 1 + min (PyData.depthAll (toPs xs)) (toP a).depth < cLine := by
      have h1 := Nat.min_le_right (PyData.depthAll (toPs xs)) (toP a).depth
      have h2 := depth_toP a
      omega
    rcases hx with rfl | rfl
    · obtain ⟨bs, rb⟩ := VR.reads hs hb (by simpa [isP] using p2)
      simp only [toP] at rb
      exact bool_fin fun Q E q => SeqAt.in_list_reads rb ra (canLay_toPs xs p2) (canLay_toP a p1) hm q
    · obtain ⟨bs, rb⟩ := VR.reads hs hb (by simpa [isP] using p2)
      simp only [toP] at rb
      exact bool_fin fun Q E q => SeqAt.in_tuple_reads rb ra (canLay_toPs xs p2) (canLay_toP a p1) hm q
  | NotIn =>
    simp only [cmpAV, Option.map_eq_some_iff] at e
    obtain ⟨x, e, rfl⟩ := e
    obtain ⟨xs, hx, p1, p2, p3, rfl⟩ := inAV_parts e
    obtain ⟨as, ra⟩ := VR.reads hs ha p1
    have hm : A.units + 1 + min (PyData.depthAll (toPs xs)) (toP a).depth < cLine := by
      have h1 := Nat.min_le_right (PyData.depthAll (toPs xs)) (toP a).depth
      have h2 := depth_toP a
      omega
    rcases hx with rfl | rfl
    · obtain ⟨bs, rb⟩ := VR.reads hs hb (by simpa [isP] using p2)
      simp only [toP] at rb
      exact bool_fin fun Q E q => SeqAt.notIn_list_reads rb ra (canLay_toPs xs p2) (canLay_toP a p1) hm q
    · obtain ⟨bs, rb⟩ := VR.reads hs hb (by simpa [isP] using p2)
      simp only [toP] at rb
      exact bool_fin fun Q E q => SeqAt.notIn_tuple_reads rb ra (canLay_toPs xs p2) (canLay_toP a p1) hm q
  | Is =>
    simp only [cmpAV, Option.map_eq_some_iff] at e
    obtain ⟨x, e, rfl⟩ := e
    obtain ⟨h1, h2⟩ := isAV_ok ha hb e
    exact bool_fin fun Q E q => wpAny_is_plain h1 (by rw [h2]; exact q)
  | IsNot =>
    simp only [cmpAV, Option.map_eq_some_iff] at e
    obtain ⟨x, e, rfl⟩ := e
    obtain ⟨h1, h2⟩ := isAV_ok ha hb e
    exact bool_fin fun Q E q => wpAny_isNot_plain h1 (by rw [h2]; exact q)
  | Lt =>
    cases ha <;> cases hb <;> simp only [cmpAV] at e <;> cases e
    exact bool_fin fun Q E q => lt_int q
  | LtE =>
    cases ha <;> cases hb <;> simp only [cmpAV] at e <;> cases e
    exact bool_fin fun Q E q => le_int q
  | Gt =>
    cases ha <;> cases hb <;> simp only [cmpAV] at e <;> cases e
    exact bool_fin fun Q E q => gt_int q
  | GtE =>
    cases ha <;> cases hb <;> simp only [cmpAV] at e <;> cases e
    exact bool_fin fun Q E q => ge_int q

theorem isEmpty_eq {vs : List AV} {items : Array Value} (r : VRs W vs items.toList) : (!items.isEmpty) = !vs.isEmpty := by
  have l := VRs.length r
  simp only [Array.length_toList] at l
  congr 1
  cases vs with
  | nil => simpa [Array.isEmpty] using l
  | cons x xs =>
    simp only [List.length_cons] at l
    simp [Array.isEmpty, l]
/-- truth -/
theorem truth_ok {a : AV} {v : Value} {b : Bool} (hs : Sub W s.heap) (ha : VR W a v) (e : truth a = some b) (Q : Bool → Shared → Prop) (E : Value → Shared → Prop)
    (q : ∀ tk, Q b { s with toks := tk }) : wpAny (model prog w) A (truthy v) Q E s := by
  cases ha with
  | none => simp only [truth] at e; cases e; exact truthy_none (q s.toks)
  | bool b => simp only [truth] at e; cases e; exact wpAny_truthy_bool (q s.toks)
  | lst e1 c1 d1 r1 =>
    simp only [truth] at e
    split at e
    · rename_i hlt
      cases e
      have l1 := VRs.length r1
      refine wpAny_truthy_list (isList_of hs e1 c1 d1) (by simp only [Array.length_toList] at l1; omega) ?_
      rw [isEmpty_eq r1]
      exact q _
    · cases e
  | _ => simp [truth] at e
end
end Mine
namespace Mine

section
variable {prog : Program} {w : World} {A : Around} {s : Shared} {W : Wd}

theorem getD_of_list {items : Array Value} {vs : List AV} {i : Nat} {x : AV} (r : VRs W vs items.toList) (e : vs[i]? = some x) : ∃ v, items[i]? = some v ∧ VR W x v := by
  obtain ⟨v, q, h⟩ := VRs.at r e
  exact ⟨v, by simpa using q, h⟩

theorem sub_ok {value slice : Expr} {a b r : AV} {va vb : Value} (hs : Sub W s.heap) (ha : VR W a va) (hb : VR W b vb) (e : subAV a b = some r)
    (hns : ∀ x y z q, slice ≠ .Slice x y z q) : Ev prog w A W s (subscriptTail value slice va vb) r := by
  have hsub : ∀ (o i : Value), subscripted slice false o i = operate [o, i] (getItem o i) := fun o i => by
    unfold subscripted
    split
    · exact absurd rfl (hns _ _ _ _)
    · rename_i h; cases h
    · rfl
  cases ha with
  | lst e1 c1 d1 r1 =>
    cases hb with
    | int i t =>
      simp only [subAV, nth] at e
      intro Q E q
      split at e
      · rename_i h0
        simp only [decide_eq_true_eq] at h0
        split at e
        · rename_i h1
          obtain ⟨v, hv, hvr⟩ := getD_of_list r1 e
          exact tail_any (isList_of hs e1 c1 d1).typeIs slot_list_getitem.lookup (wpAny_getItem_list (isList_of hs e1 c1 d1) h0 h1 hv (q v s.heap s.toks (KeepH.refl _) (hvr.mono (ext_le hs)))) (hsub _ _)
        · cases e
      · rename_i h0
        simp only [decide_eq_false_iff_not] at h0
        split at e
        · rename_i h1
          obtain ⟨v, hv, hvr⟩ := getD_of_list r1 e
          have l1 := VRs.length r1
          simp only [Array.length_toList] at l1
          exact tail_any (isList_of hs e1 c1 d1).typeIs slot_list_getitem.lookup (wpAny_getItem_list_neg (isList_of hs e1 c1 d1) (by omega) (by rw [l1]; exact h1.1) h1.2 (by rw [l1]; exact hv) (q v s.heap s.toks (KeepH.refl _) (hvr.mono (ext_le hs)))) (hsub _ _)
        · cases e
    | _ => simp [subAV] at e
  | tup e1 c1 d1 r1 =>
    cases hb with
    | int i t =>
      simp only [subAV, nth] at e
      intro Q E q
      have l1 := VRs.length r1
      simp only [Array.length_toList] at l1
      split at e
      · rename_i h0
        simp only [decide_eq_true_eq] at h0
        split at e
        · rename_i h1
          obtain ⟨v, hv, hvr⟩ := getD_of_list r1 e
          have hlt : i.toNat < _ := (Array.getElem?_eq_some_iff.mp hv).1
          refine tail_any (isTup_of hs e1 c1 d1).typeIs F.slot_tuple_getitem.lookup (getItem_tuple (j := i.toNat) (isTup_of hs e1 c1 d1) (by omega) h1 ?_ hv (q v s.heap s.toks (KeepH.refl _) (hvr.mono (ext_le hs)))) (hsub _ _)
          unfold seqIndex?
          simp only [show ¬ (i < 0) by omega, if_false]
          rw [if_pos (by simp; omega)]
        · cases e
      · rename_i h0
        simp only [decide_eq_false_iff_not] at h0
        split at e
        · rename_i h1
          obtain ⟨v, hv, hvr⟩ := getD_of_list r1 e
          rw [← l1] at hv
          have hlt : (i + _).toNat < _ := (Array.getElem?_eq_some_iff.mp hv).1
          refine tail_any (isTup_of hs e1 c1 d1).typeIs F.slot_tuple_getitem.lookup (getItem_tuple (j := (i + _).toNat) (isTup_of hs e1 c1 d1) (by omega) (by omega) ?_ hv (q v s.heap s.toks (KeepH.refl _) (hvr.mono (ext_le hs)))) (hsub _ _)
          unfold seqIndex?
          simp only [show (i < 0) by omega, if_true]
          rw [if_pos (by simp; omega)]
        · cases e
    | _ => simp [subAV] at e
  | _ => simp [subAV] at e

theorem filterMap_VRs {items : List Value} {vs : List AV} (r : VRs W vs items) : ∀ is : List Nat, VRs W (is.filterMap fun i => vs[i]?) (is.filterMap fun i => items[i]?)
  | [] => .nil
  | i :: is => by
    simp only [List.filterMap_cons]
    have l := VRs.length r
    cases h : vs[i]? with
    | none =>
      have : items[i]? = none := by
        rw [List.getElem?_eq_none_iff] at h ⊢; omega
      rw [this]
      exact filterMap_VRs r is
    | some x =>
      obtain ⟨v, hv, hvr⟩ := VRs.at r h
      rw [hv]
      exact .cons hvr (filterMap_VRs r is)
theorem pick_VRs {items : Array Value} {vs : List AV} (r : VRs W vs items.toList) (lo hi : Option Int) : VRs W (pick vs lo hi) (slicePick items lo hi none).toList := by
  unfold pick slicePick
  have l := VRs.length r
  simp only [Array.length_toList] at l
  rw [l]
  simpa using filterMap_VRs r _
end
end Mine
namespace Mine

section
variable {prog : Program} {w : World} {A : Around} {s : Shared} {W : Wd}

/-! sorted ints -/
theorem ins_perm (x : Int) : ∀ l, (ins x l).Perm (x :: l)
  | [] => List.Perm.refl _
  | y :: r => by
    unfold ins
    split
    · exact List.Perm.refl _
    · exact ((ins_perm x r).cons y).trans (List.Perm.swap x y r)
theorem isort_perm : ∀ l, (isort l).Perm l
  | [] => List.Perm.refl _
  | x :: r => (ins_perm x _).trans ((isort_perm r).cons x)
theorem ins_sorted (x : Int) : ∀ l : List Int, l.Pairwise (· ≤ ·) → (ins x l).Pairwise (· ≤ ·)
  | [], _ => by simp [ins]
  | y :: r, h => by
    unfold ins
    split
    · rename_i q
      simp only [decide_eq_true_eq] at q
      refine List.Pairwise.cons (fun z hz => ?_) h
      rcases List.mem_cons.mp hz with rfl | hz
      · exact q
      · exact Int.le_trans q ((List.pairwise_cons.mp h).1 z hz)
    · rename_i q
      simp only [decide_eq_false_iff_not, Int.not_le] at q
      have hr := List.pairwise_cons.mp h
      refine List.Pairwise.cons (fun z hz => ?_) (ins_sorted x r hr.2)
      rcases List.mem_cons.mp ((ins_perm x r).mem_iff.mp hz) with rfl | hz
      · exact Int.le_of_lt q
      · exact hr.1 z hz
theorem isort_sorted : ∀ l : List Int, (isort l).Pairwise (· ≤ ·)
  | [] => List.Pairwise.nil
  | x :: r => ins_sorted x _ (isort_sorted r)
theorem sorted_unique : ∀ (l l' : List Int), l.Perm l' → l.Pairwise (· ≤ ·) → l'.Pairwise (· ≤ ·) → l = l'
  | [], l', p, _, _ => by have := p.length_eq; cases l' with | nil => rfl | cons => simp at this
  | x :: r, [], p, _, _ => by have := p.length_eq; simp at this
  | x :: r, y :: r', p, h, h' => by
    have hx := List.pairwise_cons.mp h
    have hy := List.pairwise_cons.mp h'
    have e : x = y := by
      have a : x ∈ y :: r' := p.mem_iff.mp (by simp)
      have b : y ∈ x :: r := p.mem_iff.mpr (by simp)
      rcases List.mem_cons.mp a with a | a
      · exact a
      · rcases List.mem_cons.mp b with b | b
        · exact b.symm
        · exact Int.le_antisymm (hx.1 y b) (hy.1 x a)
    subst e
    rw [sorted_unique r r' ((List.perm_cons x).mp p) hx.2 hy.2]

theorem intsOf_are : ∀ {xs : List AV} {vs : List Value} {l : List Int}, VRs W xs vs → intsOf xs = some l → IntsAre vs l
  | [], _, l, .nil, e => by simp [intsOf] at e; subst e; exact .nil
  | x :: r, _, l, .cons h hr, e => by
    simp only [intsOf] at e
    split at e
    · rename_i i l' h1 h2
      cases e
      cases h <;> simp [asInt] at h1
      subst h1
      exact .cons _ _ (intsOf_are hr h2)
    · cases e
theorem ints_VRs {vs : List Value} {l : List Int} (h : IntsAre vs l) : VRs W (l.map AV.int) vs := by
  induction h with
  | nil => exact .nil
  | cons n t _ ih => exact .cons (.int n t) ih
theorem least_mem : ∀ (l : List Int) (m : Int), least m l ∈ m :: l
  | [], m => by simp [least]
  | x :: r, m => by
    have := least_mem r (if x < m then x else m)
    simp only [least]
    rcases List.mem_cons.mp this with h | h
    · rw [h]; split <;> simp
    · simp [h]
theorem least_le : ∀ (l : List Int) (m : Int), ∀ a ∈ m :: l, least m l ≤ a
  | [], m, a, h => by simp at h; simp [least, h]
  | x :: r, m, a, h => by
    simp only [least]
    have := least_le r (if x < m then x else m)
    have h0 := this _ (List.mem_cons_self)
    revert this h0
    generalize least (if x < m then x else m) r = z
    intro this h0
    rcases List.mem_cons.mp h with rfl | h
    · split at h0 <;> omega
    · rcases List.mem_cons.mp h with rfl | h
      · split at h0 <;> omega
      · exact this a (List.mem_cons_of_mem _ h)

/-! tuple(range(..)) -/
theorem collect_range {r : Addr} {a b c : Int} {t u v : Tok} {n : Nat} {Q : List Value → Shared → Prop} {E : Value → Shared → Prop} (hh : A.handled = none) (hr : IsRange s.heap r a b c t u v) (hsmall : PySem.Builtin.Range.small a b c = true)
    (hn : PySem.Builtin.Range.rangeSize a b c = n) (hlen : n ≤ 2 ^ 24)
    (hQ : ∀ h' tk acc, KeepH s.heap h' → ItemsOf (fun i v => ∃ t, v = Value.int (a + i * c) t) acc n → Q acc.toList { s with heap := h', toks := tk }) : wpAny (model prog w) A (collect (.ref r)) Q E s := by
  unfold collect
  refine wpAny_bind (wpAny_runValue (codeAny_builtin F.entry_proto_collect ?_))
  rw [Around.under_plainId F.plain_proto_collect _]
  show wpAny _ A.in1 (newList [] >>= fun l => again (.builtin "list.__iadd__" ⟨[l, .ref r], []⟩)) _ _ s
  refine wpAny_bind (wpAny_newObj_type ?_)
  refine wpAny_pure ⟨plainId_quiet F.plain_list_iadd _, codeAny_builtin F.entry_list_iadd ?_⟩
  rw [Around.under_plainId F.plain_list_iadd _]
  show wpAny _ A.in1 (PySem.Builtin.List.listExtendWith (.ref s.heap.objs.size) (.ref r) (.ref s.heap.objs.size)) _ _ _
  have hS : (s.heap.push { cls := .type "list", data := .seq ([] : List Value).toArray }).get? s.heap.objs.size = some { cls := .type "list", data := .seq #[] 0 } := Heap.get?_push_size _ rfl
  have fin' : ∀ h' tk acc c', (∀ b o, b ≠ s.heap.objs.size → (s.heap.push { cls := .type "list", data := .seq ([] : List Value).toArray }).get? b = some o → h'.get? b = some o) →
      h'.get? s.heap.objs.size = some { cls := .type "list", dict := none, data := .seq acc c', slots := #[] } → ItemsOf (fun i v => ∃ t, v = Value.int (a + i * c) t) acc n →
      wpAny (model prog w) A (match Value.ref s.heap.objs.size with
      | Value.ref a => do
        match (← load a).data with
          | Data.seq xs _ => pure xs.toList
          | _ => unsupported "internal:collect"
      | _ => unsupported "internal:collect") Q E { s with heap := h', toks := tk } := fun h' tk acc c' hk hS' hi => by
    show wpAny _ A (load s.heap.objs.size >>= _) _ _ _
    refine wpAny_bind (wpAny_load hS' (wpAny_pure ?_))
    exact hQ h' tk acc (fun b o e => hk b o (Nat.ne_of_lt (Heap.lt_size e)) (Heap.get?_push_of_some _ e)) hi
  refine wpAny_mono (wpAny_extend_range (A := A) (R := fun r' s' => r' = .ok (.ret (.ref s.heap.objs.size)) ∧ ∃ h' tk acc c', s' = { s with heap := h', toks := tk } ∧ (∀ b o, b ≠ s.heap.objs.size → (s.heap.push { cls := .type "list", data := .seq ([] : List Value).toArray }).get? b = some o → h'.get? b = some o) ∧
      h'.get? s.heap.objs.size = some { cls := .type "list", dict := none, data := .seq acc c', slots := #[] } ∧ ItemsOf (fun i v => ∃ t, v = Value.int (a + i * c) t) acc n)
    (s := { s with heap := s.heap.push { cls := .type "list", data := .seq ([] : List Value).toArray } }) hh (Heap.get?_push_of_some _ hr) hsmall hn hlen _ _ 0 hS
      (fun h' tk acc c' hk hS' hi => ⟨rfl, h', tk, acc, c', rfl, hk, hS', hi⟩)) (fun fin s' h => ?_) (fun e s' h => ?_)
  · cases fin with
    | done f =>
      obtain ⟨e, h', tk, acc, c', rfl, h1, h2, h3⟩ := h
      cases e
      exact fin' h' tk acc c' h1 h2 h3
    | again c' => exact ⟨h.1, codeAny_mono h.2 fun r s'' hr => by obtain ⟨rfl, h', tk, acc, c', rfl, h1, h2, h3⟩ := hr; exact fin' h' tk acc c' h1 h2 h3⟩
  · exact absurd h.1 (by simp)

theorem range_ints {a c : Int} {n : Nat} {acc : Array Value} (hi : ItemsOf (fun i v => ∃ t, v = Value.int (a + i * c) t) acc n) : VRs W ((rangeInts a c n).map AV.int) acc.toList := by
  obtain ⟨h1, h2⟩ := hi
  have key : ∀ (k : Nat) (l : List Value) (j : Nat), l.length = k → (∀ i v, l[i]? = some v → ∃ t, v = Value.int (a + ((j + i : Nat) : Int) * c) t) → VRs W ((List.range' j k).map fun (i : Nat) => AV.int (a + (i : Nat) * c)) l := by
    intro k
    induction k with
    | zero => intro l j hl _; cases l with | nil => exact .nil | cons => simp at hl
    | succ k ih =>
      intro l j hl hg
      cases l with
      | nil => simp at hl
      | cons v l =>
        rw [List.range'_succ, List.map_cons]
        obtain ⟨t, e⟩ := hg 0 v rfl
        subst e
        refine .cons (.int _ _) (ih l (j + 1) (by simpa using hl) fun i v hv => ?_)
        obtain ⟨t, e⟩ := hg (i + 1) v (by simpa using hv)
        exact ⟨t, by rw [e]; congr 3; omega⟩
  have := key n acc.toList 0 (by simpa using h1) (fun i v hv => by
    obtain ⟨t, e⟩ := h2 i v (by simpa using hv)
    exact ⟨t, by rw [e, Nat.zero_add]⟩)
  unfold rangeInts
  rw [List.map_map, List.range_eq_range']
  exact this

theorem tuple_new_range {r : Addr} {a b c : Int} {t u v : Tok} {n : Nat} (hsmall : PySem.Builtin.Range.small a b c = true) (hn : PySem.Builtin.Range.rangeSize a b c = n) (hlen : n ≤ 2 ^ 24) :
    MeetsIn prog w (Builtin.«tuple.__new__» ⟨[.type "tuple", .ref r], []⟩)
      (fun A R s => A.handled = none ∧ IsRange s.heap r a b c t u v ∧ ∀ (h' : Heap) tk (acc : Array Value), KeepH s.heap h' → ItemsOf (fun i v => ∃ t, v = Value.int (a + i * c) t) acc n → R (.ok (.ret (.ref h'.objs.size))) { s with heap := h'.push { cls := .type "tuple", data := .seq acc }, toks := tk }) :=
  .of_wp fun A R s h => by
    obtain ⟨hp, g, d, tk, os⟩ := s; obtain ⟨hh, ht, h⟩ := h
    have hsub := sub_tuple_self
    have hinit := init_tuple_lookup
    have hmh := madeHere_tuple
    have hT : Shared.TypeIs ⟨hp, g, d, tk, os⟩ (.ref r) "range" := ⟨_, ht, rfl⟩
    wp_walk using AutoSeq1.wpAny_loadPart' ht, wpAny_typeOf hT, collect_range (A := A.in1) hh ht hsmall hn hlen
    intro h' tk' acc hk hi
    show wpAny _ _ (Builtin.Tuple.tupleExact acc.toList.toArray >>= fun v => ret v) _ _ _
    unfold Builtin.Tuple.tupleExact
    have hz : acc.size ≤ sizeLine := by rw [hi.1]; exact hlen
    refine wpAny_bind (wpAny_newObj_type ?_ (by show acc.toList.toArray.size ≤ sizeLine; simpa using hz))
    refine wpAny_pure ⟨_, rfl, ?_⟩
    have e : acc.toList.toArray = acc := by simp
    rw [e]
    exact h h' tk' acc hk hi
end
end Mine
namespace Mine

section
variable {prog : Program} {w : World} {A : Around} {s : Shared} {W : Wd}

theorem int_fin {t : Sem Value} {i : Int} (h : ∀ (Q E : Value → Shared → Prop), (∀ v h' tk, KeepH s.heap h' → (∃ u, v = .int i u) → Q v { s with heap := h', toks := tk }) → wpAny (model prog w) A t Q E s) : Ev prog w A W s t (.int i) :=
  fun Q E q => h Q E fun v h' tk k e => by obtain ⟨u, rfl⟩ := e; exact q _ _ _ k (.int _ _)

theorem rangeVals_parts {a b c : Int} {l : List Int} (e : rangeVals a b c = some l) : PySem.Builtin.Range.small a b c = true ∧ ∃ n : Nat, PySem.Builtin.Range.rangeSize a b c = (n : Int) ∧ l = rangeInts a c n := by
  unfold rangeVals at e
  split at e
  · rename_i h
    simp only [Bool.and_eq_true, decide_eq_true_eq] at h
    cases e
    exact ⟨h.1, _, (Int.toNat_of_nonneg h.2).symm, rfl⟩
  · cases e

theorem vrs_one {x : AV} {vs : List Value} (h : VRs W [x] vs) : ∃ v, vs = [v] ∧ VR W x v := by
  cases h with | cons a r => cases r; exact ⟨_, rfl, a⟩
theorem vrs_two {x y : AV} {vs : List Value} (h : VRs W [x, y] vs) : ∃ u v, vs = [u, v] ∧ VR W x u ∧ VR W y v := by
  cases h with | cons a r => cases r with | cons b r => cases r; exact ⟨_, _, rfl, a, b⟩
theorem vrs_three {x y z : AV} {vs : List Value} (h : VRs W [x, y, z] vs) : ∃ u v q, vs = [u, v, q] ∧ VR W x u ∧ VR W y v ∧ VR W z q := by
  cases h with | cons a r => cases r with | cons b r => cases r with | cons c r => cases r; exact ⟨_, _, _, rfl, a, b, c⟩

theorem biAV_ok {d : Nat} (R : Room A d) {k : Bi} {args : List AV} {vs : List Value} {r : AV} (hs : Sub W s.heap) (ha : VRs W args vs) (e : biAV k args = some r) : Ev prog w A W s (call k.val vs) r := by
  have hh := R.handled
  unfold biAV at e
  split at e
  · -- len list
    obtain ⟨v, rfl, h⟩ := vrs_one ha
    split at e
    · rename_i hlt
      cases e
      obtain ⟨a, o, items, n, rfl, e1, c1, d1, r1⟩ := inv_lst h
      have l1 := VRs.length r1
      simp only [Array.length_toList] at l1
      refine int_fin fun Q E q => Calls.call_len_list (isList_of hs e1 c1 d1) (by rw [l1]; omega) ?_
      exact q _ _ _ (KeepH.refl _) ⟨_, by rw [l1]⟩
    · cases e
  · -- len tuple
    obtain ⟨v, rfl, h⟩ := vrs_one ha
    split at e
    · rename_i hlt
      cases e
      obtain ⟨a, o, items, n, rfl, e1, c1, d1, r1⟩ := inv_tup h
      have l1 := VRs.length r1
      simp only [Array.length_toList] at l1
      refine int_fin fun Q E q => len_tuple (isTup_of hs e1 c1 d1) (by rw [l1]; omega) ?_
      exact q _ _ _ (KeepH.refl _) ⟨_, by rw [l1]⟩
    · cases e
  · -- abs
    obtain ⟨v, rfl, h⟩ := vrs_one ha
    cases h
    cases e
    exact int_fin fun Q E q => call_abs_int fun u tk => q _ _ _ (KeepH.refl _) ⟨_, rfl⟩
  · -- min of two
    obtain ⟨u, v, rfl, h1, h2⟩ := vrs_two ha
    cases h1
    cases h2
    cases e
    refine int_fin fun Q E q => min_two_ints hh fun h' tk k => ?_
    refine q _ _ _ k ?_
    split
    · exact ⟨_, rfl⟩
    · exact ⟨_, rfl⟩
  · -- max of two
    obtain ⟨u, v, rfl, h1, h2⟩ := vrs_two ha
    cases h1
    cases h2
    cases e
    refine int_fin fun Q E q => max_two_ints hh fun h' tk k => ?_
    refine q _ _ _ k ?_
    split
    · exact ⟨_, rfl⟩
    · exact ⟨_, rfl⟩
  · -- min of a list
    obtain ⟨v, rfl, h⟩ := vrs_one ha
    split at e
    · rename_i x l hl
      cases e
      obtain ⟨a, o, items, n, rfl, e1, c1, d1, r1⟩ := inv_lst h
      have hi := intsOf_are r1 hl
      obtain ⟨xs, ex⟩ := hi.allInts.items
      have hns : x :: l = xs.toList.map (·.1) := by rw [← hi.numsOf, ← nums_intItems, ← ex]
      have hsz : 0 < xs.size := by
        have := congrArg List.length hns
        simp at this; omega
      have hl' := isList_of hs e1 c1 d1
      have ex' : items = intItems xs := by simpa using ex
      rw [ex'] at hl'
      refine int_fin fun Q E q => min_intList hh hl' hsz fun v h' tk hv hk => ?_
      obtain ⟨t, rfl⟩ := intItems_at hv
      obtain ⟨g1, g2⟩ := argBest_lt (numAt xs) (xs.size - 1)
      refine q _ _ _ hk ⟨t, ?_⟩
      congr 1
      have m1 : numAt xs (argBest (fun i j => decide (numAt xs i < numAt xs j)) (xs.size - 1)) ∈ x :: l := by
        rw [hns, numAt_eq]; exact getD_mem (by rw [List.length_map, Array.length_toList]; omega)
      have m2 : ∀ z ∈ x :: l, numAt xs (argBest (fun i j => decide (numAt xs i < numAt xs j)) (xs.size - 1)) ≤ z := by
        intro z hz
        rw [hns] at hz
        obtain ⟨j, hj, rfl⟩ := mem_getD hz
        rw [List.length_map, Array.length_toList] at hj
        rw [← numAt_eq]; exact g2 j (by omega)
      exact Int.le_antisymm (m2 _ (least_mem l x)) (least_le l x _ m1)
    · cases e
  · -- sorted
    obtain ⟨v, rfl, h⟩ := vrs_one ha
    split at e
    · rename_i l hl
      split at e
      · rename_i h64
        cases e
        obtain ⟨a, o, items, n, rfl, e1, c1, d1, r1⟩ := inv_lst h
        have hi := intsOf_are r1 hl
        intro Q E q
        have hlen := hi.length
        refine sorted_ints (vs := items.toList) (by simpa using isList_of hs e1 c1 d1) hi (by omega) fun out ns' a1 a2 a3 => ?_
        obtain ⟨e', he⟩ := sortedAll_at s.heap items.toList out
        have k : KeepH s.heap (sortedAll s.heap items.toList out) := fun _ _ => sortedAll_old
        refine q _ _ s.toks k (vr_new_list (fresh_none (Nat.le_succ _)) he ?_)
        have : isort l = ns' := sorted_unique _ _ ((isort_perm l).trans a2.symm) (isort_sorted l) a3
        rw [this]
        exact ints_VRs a1
      · cases e
    · cases e
  · -- range 1
    obtain ⟨v, rfl, h⟩ := vrs_one ha
    cases h
    cases e
    intro Q E q
    refine call_range_1 (q _ _ _ (KeepH.push _ _) (.rng ((ext_new (fresh_size _)).trans (Heap.get?_push_size _ rfl))))
  · -- range 2
    obtain ⟨u, v, rfl, h1, h2⟩ := vrs_two ha
    cases h1
    cases h2
    cases e
    intro Q E q
    refine call_range_2 (q _ _ _ (KeepH.push _ _) (.rng ((ext_new (fresh_size _)).trans (Heap.get?_push_size _ rfl))))
  · -- range 3
    obtain ⟨u, v, q', rfl, h1, h2, h3⟩ := vrs_three ha
    cases h1
    cases h2
    cases h3
    split at e
    · rename_i hc
      simp only [Bool.and_eq_true, Bool.not_eq_true', beq_eq_false_iff_ne] at hc
      cases e
      intro Q E q
      exact PySem.call_range_3 hc.2 (q _ _ _ (KeepH.push _ _) (.rng ((ext_new (fresh_size _)).trans (Heap.get?_push_size _ rfl)))) (.inl (noPylong64 (small_lt hc.1)))
    · cases e
  · -- list of a range
    obtain ⟨v, rfl, h⟩ := vrs_one ha
    split at e
    · rename_i l hl
      split at e
      · rename_i hlen
        cases e
        obtain ⟨hsm, n, hn, rfl⟩ := rangeVals_parts hl
        obtain ⟨r', t, u, v', rfl, hr⟩ := inv_rng h
        rw [rangeInts_length] at hlen
        intro Q E q
        refine call_list_range hh (hs _ _ hr) hsm hn hlen fun h' tk acc' c' k e1 hi => ?_
        exact q _ _ _ k (vr_new_list (fresh_size _) e1 (range_ints hi))
      · cases e
    · cases e
  · -- list of a list
    obtain ⟨v, rfl, h⟩ := vrs_one ha
    split at e
    · rename_i hlen
      cases e
      obtain ⟨a, o, items, n, rfl, e1, c1, d1, r1⟩ := inv_lst h
      have l1 := VRs.length r1
      simp only [Array.length_toList] at l1
      intro Q E q
      refine call_list_seq a (.inl rfl) (hs _ _ e1) c1 d1 (fun h' c' k e2 => ?_) (by show _ ≤ 2 ^ 24; omega)
      exact q _ _ s.toks k (vr_new_list (fresh_size _) e2 (VRs.mono (ext_le hs) r1))
    · cases e
  · -- list of a tuple
    obtain ⟨v, rfl, h⟩ := vrs_one ha
    split at e
    · rename_i hlen
      cases e
      obtain ⟨a, o, items, n, rfl, e1, c1, d1, r1⟩ := inv_tup h
      have l1 := VRs.length r1
      simp only [Array.length_toList] at l1
      intro Q E q
      refine call_list_seq a (.inr rfl) (hs _ _ e1) c1 d1 (fun h' c' k e2 => ?_) (by show _ ≤ 2 ^ 24; omega)
      exact q _ _ s.toks k (vr_new_list (fresh_size _) e2 (VRs.mono (ext_le hs) r1))
    · cases e
  · -- tuple of a range
    obtain ⟨v, rfl, h⟩ := vrs_one ha
    split at e
    · rename_i l hl
      split at e
      · rename_i hlen
        cases e
        obtain ⟨hsm, n, hn, rfl⟩ := rangeVals_parts hl
        obtain ⟨r', t, u, v', rfl, hr⟩ := inv_rng h
        rw [rangeInts_length] at hlen
        intro Q E q
        refine callType_newIn F.called_tuple (by decide) (F.typeCall_tuple_1 _) (F.newCall_tuple_1 _) (fun obj => F.args_object_init_2 obj _) F.entry_tuple_new
          (tuple_new_range hsm hn hlen) ⟨hh, hs _ _ hr, fun h' tk acc k hi => ⟨⟨_, Heap.get?_push_size _ rfl, rfl⟩, ?_⟩⟩
        have k2 : KeepH s.heap (h'.push { cls := .type "tuple", data := .seq acc }) := k.trans (KeepH.push _ _)
        refine q _ _ tk k2 (vr_new_tuple ?_ (Heap.get?_push_size _ rfl) (range_ints hi))
        cases hq : s.heap.get? h'.objs.size with
        | none => rfl
        | some o => exact absurd (Heap.lt_size (k _ _ hq)) (Nat.lt_irrefl _)
      · cases e
    · cases e
  · cases e
end
end Mine
namespace Mine

theorem nm_dbg : nm cDbg = ("__debug__" : Str) := by decide +kernel
theorem nm_cd : nm cCD = ("__classdict__" : Str) := by decide +kernel
theorem beq_false {a b : Nat} (h : Nat.beq a b = false) : a ≠ b := fun e => by subst e; simp at h

theorem memN_iff {n : Nat} : ∀ {l : List Nat}, memN n l = true ↔ n ∈ l
  | [] => by simp [memN]
  | m :: r => by
    unfold memN
    cases q : Nat.beq m n with
    | true => have := Nat.eq_of_beq_eq_true q; subst this; simp
    | false =>
      have hne := beq_false q
      simp only [memN_iff (l := r), List.mem_cons]
      constructor
      · exact .inr
      · rintro (h | h)
        · exact absurd h.symm hne
        · exact h
theorem mem_frees {n : Nat} : ∀ {ks : Ks}, n ∈ frees ks ↔ (n, NameKind.free) ∈ ks
  | [] => by simp [frees]
  | (m, k) :: r => by
    have ih := mem_frees (n := n) (ks := r)
    cases k <;> simp [frees, ih]
theorem look_cenv {G ρ : Rho} {n : Nat} {r : AV} : ∀ {ks : Ks}, look (cenv G ρ ks) n = some r → ((n, NameKind.free) ∈ ks ∧ look ρ n = some r) ∨ ((n, NameKind.globalImplicit) ∈ ks ∧ look G n = some r)
  | [], h => by simp [cenv, look] at h
  | (m, k) :: ks, h => by
    have up : look (cenv G ρ ks) n = some r → ((n, NameKind.free) ∈ (m, k) :: ks ∧ look ρ n = some r) ∨ ((n, NameKind.globalImplicit) ∈ (m, k) :: ks ∧ look G n = some r) := fun h => by
      rcases look_cenv h with h | h
      · exact .inl ⟨List.mem_cons_of_mem _ h.1, h.2⟩
      · exact .inr ⟨List.mem_cons_of_mem _ h.1, h.2⟩
    cases k <;> simp only [cenv] at h
    case free =>
      split at h
      · rename_i v hv
        rw [look_cons] at h
        split at h
        · rename_i e
          subst e
          cases h
          exact .inl ⟨List.mem_cons_self, hv⟩
        · exact up h
      · exact up h
    case globalImplicit =>
      split at h
      · rename_i v hv
        rw [look_cons] at h
        split at h
        · rename_i e
          subst e
          cases h
          exact .inr ⟨List.mem_cons_self, hv⟩
        · exact up h
      · exact up h
    all_goals exact up h

def relKind (env : Env) (x : Str) (k : NameKind) : NameKind := if (k == NameKind.free && env.scope.kind == .function && env.kindOf x == some .cell) = true then .cell else k
theorem relabel_lookup (env : Env) (x : Str) : ∀ names : List (Str × NameKind),
    (names.map fun (n, k) => if (k == NameKind.free && env.scope.kind == .function && env.kindOf n == some .cell) = true then (n, NameKind.cell) else (n, k)).lookup x = (names.lookup x).map (relKind env x)
  | [] => rfl
  | (m, k) :: r => by
    have ih := relabel_lookup env x r
    have e : (if (k == NameKind.free && env.scope.kind == .function && env.kindOf m == some .cell) = true then (m, NameKind.cell) else (m, k)) = (m, relKind env m k) := by
      unfold relKind
      split <;> rfl
    show List.lookup x ((if (k == NameKind.free && env.scope.kind == .function && env.kindOf m == some .cell) = true then (m, NameKind.cell) else (m, k)) :: List.map _ r) = _
    rw [e, List.lookup_cons, List.lookup_cons]
    cases h : x == m with
    | true =>
      have : x = m := by simpa using h
      subst this
      rfl
    | false => exact ih

theorem closure_ok (env : Env) : ∀ (names : List (Str × NameKind)) (cs : List (Str × Addr)), (∀ x, (x, NameKind.free) ∈ names → ∃ c, env.cells.lookup x = some c) →
    ∃ cl, (forIn names cs fun (x : Str × NameKind) (r : List (Str × Addr)) => (match x with
      | (name, kind) => if (kind == NameKind.free) = true then do let a ← cellOf env name; pure (ForInStep.yield ((name, a) :: r)) else pure (ForInStep.yield r) : Sem (ForInStep (List (Str × Addr))))) = pure cl ∧
      (∀ x, (x, NameKind.free) ∈ names → cl.lookup x = env.cells.lookup x) ∧ (∀ x, (x, NameKind.free) ∉ names → cl.lookup x = cs.lookup x)
  | [], cs, _ => ⟨cs, by simp, by simp, by simp⟩
  | (m, k) :: r, cs, h => by
    by_cases hk : k = .free
    · subst hk
      obtain ⟨c, hc⟩ := h m (by simp)
      obtain ⟨cl, e1, e2, e3⟩ := closure_ok env r ((m, c) :: cs) fun x hx => h x (by simp [hx])
      refine ⟨cl, ?_, fun x hx => ?_, fun x hx => ?_⟩
      · rw [List.forIn_cons]
        have : cellOf env m = pure c := by unfold cellOf; rw [hc]
        simp only [BEq.rfl, if_true, this, pure_bind]
        exact e1
      · by_cases hr : (x, NameKind.free) ∈ r
        · exact e2 x hr
        · have : x = m := by simp [hr] at hx; exact hx
          subst this
          rw [e3 x hr, List.lookup_cons]
          simp [hc]
      · have hr : (x, NameKind.free) ∉ r := fun q => hx (by simp [q])
        have hm : (x == m) = false := by
          simp at hx
          simpa using hx.1
        rw [e3 x hr, List.lookup_cons, hm]
    · obtain ⟨cl, e1, e2, e3⟩ := closure_ok env r cs fun x hx => h x (by simp [hx])
      have hb : (k == NameKind.free) = false := by simpa using hk
      refine ⟨cl, ?_, fun x hx => ?_, fun x hx => ?_⟩
      · rw [List.forIn_cons]
        simp only [hb, Bool.false_eq_true, if_false, pure_bind]
        exact e1
      · have hr : (x, NameKind.free) ∈ r := by
          rcases List.mem_cons.mp hx with q | q
          · cases q; exact absurd rfl hk
          · exact q
        exact e2 x hr
      · exact e3 x fun q => hx (by simp [q])
theorem closureFor_ok {env : Env} {ks : Ks} {cn : List Nat} (h1 : ∀ n, memN n cn = true → ∃ c, env.cells.lookup (nm n) = some c) (h2 : ∀ n, (n, NameKind.free) ∈ ks → memN n cn = true) :
    ∃ cl, closureFor (Ks.scope ks) env = pure cl ∧ ∀ n, (n, NameKind.free) ∈ ks → cl.lookup (nm n) = env.cells.lookup (nm n) := by
  have hm : ∀ n k, (nm n, k) ∈ Ks.names ks ↔ (n, k) ∈ ks := fun n k => by
    constructor
    · intro h
      obtain ⟨⟨m, k'⟩, hm, e⟩ := List.mem_map.mp h
      have e1 : nm m = nm n := congrArg Prod.fst e
      have e2 : k' = k := congrArg Prod.snd e
      rw [← nm_inj e1, ← e2]; exact hm
    · intro h
      exact List.mem_map.mpr ⟨(n, k), h, rfl⟩
  obtain ⟨cl, e1, e2, _⟩ := closure_ok env (Ks.names ks) [] (fun x hx => by
    obtain ⟨⟨m, k'⟩, hmem, e⟩ := List.mem_map.mp hx
    have ex : nm m = x := congrArg Prod.fst e
    have ek : k' = .free := congrArg Prod.snd e
    subst ex ek
    exact h1 m (h2 m hmem))
  refine ⟨cl, ?_, fun n hn => e2 _ ((hm n _).mpr hn)⟩
  unfold closureFor
  show (do let r ← forIn (Ks.names ks) [] _; pure r) = _
  simp only [bind_pure]
  exact e1

section
variable {prog : Program} {w : World} {h₀ : Heap}

/-- what is known of names -/
structure RdOk (prog : Program) (w : World) (env : Env) (W : Wd) (h : Heap) (cn : List Nat) (ρ : Rho) : Prop where
  val : ∀ n r, look ρ n = some r → ∃ v, VR W r v ∧ nm n ≠ ("__debug__" : Str) ∧ Looks (model prog w) h (loadName env (nm n)) v
  cell : ∀ n, memN n cn = true → ∃ c, env.cells.lookup (nm n) = some c ∧ ∀ r, look ρ n = some r → nm n ≠ ("__debug__" : Str) ∧ ∃ v, VR W r v ∧ h.IsCell c (some v)
  kind : env.scope.kind = .function
  glob : env.globals = mainGlobals
  blt : env.builtins = builtinsNs
theorem RdOk.mono {env : Env} {W W' : Wd} {h h' : Heap} {cn : List Nat} {ρ : Rho} (x : RdOk prog w env W h cn ρ) (hw : W.le W') (k : KeepH h h') : RdOk prog w env W' h' cn ρ where
  val := fun n r e => let ⟨v, a, b, c⟩ := x.val n r e; ⟨v, a.mono hw, b, c.keeps k⟩
  cell := fun n e => let ⟨c, a, b⟩ := x.cell n e; ⟨c, a, fun r q => let ⟨d, v, p, t⟩ := b r q; ⟨d, v, p.mono hw, t.keeps k⟩⟩
  kind := x.kind
  glob := x.glob
  blt := x.blt

/-- what is known of the program's globals -/
structure GlobOk (prog : Program) (w : World) (h₀ : Heap) (G : Rho) : Prop where
  val : ∀ n r, look G n = some r → ∃ v, VR (fun b => h₀.get? b) r v ∧ nm n ≠ ("__debug__" : Str) ∧ ∀ env : Env, env.globals = mainGlobals → env.builtins = builtinsNs → Looks (model prog w) h₀ (loadGlobal env (nm n)) v

theorem loadName_glob {env : Env} {x : Str} (hk : env.scope.kind = .function) (hx : env.kindOf x = some .globalImplicit) : loadName env x = loadGlobal env x := by
  unfold loadName
  have h1 : env.scope.kind.isAnnotationScope = false := by rw [hk]; rfl
  have h2 : env.blockKind = .function := by unfold Env.blockKind; rw [h1, hk]; rfl
  simp only [h1, Bool.false_and, Bool.false_eq_true, if_false, h2, hx]
end
end Mine
namespace Mine

section
variable {prog : Program} {w : World} {A : Around} {h₀ : Heap}

theorem letGo_ok {M : Model} {E : Value → Shared → Prop} {s : Shared} {target : Expr} {I : Addr} {v : Value} {o : Obj} {T : String} {Q : Unit → Shared → Prop} (ho : s.heap.get? I = some o) (hc : o.cls = .type T)
    (hT : ["enumerate", "zip", "dict_itemiterator", "dict_reverseitemiterator", "odict_iterator", "itertools.zip_longest", "itertools.pairwise"].contains T = false) (q : Q () s) :
    wpAny M A (letOwnedTupleGo target (.ref I) v) Q E s := by
  have key : ∀ a, wpAny M A (do
      let o ← load I
      match o.cls, o.data with
      | .type n, .fields vs =>
        if (["enumerate", "zip", "dict_itemiterator", "dict_reverseitemiterator", "odict_iterator", "itertools.zip_longest", "itertools.pairwise"].contains n && vs[0]? == some (rawInt a)) = true then do
          rule "for.unpacks-the-owned-tuple"
          updateField I 0 .none
        else pure ()
      | _, _ => pure () : Sem Unit) Q E s := fun a => by
    refine wpAny_bind (wpAny_load ho ?_)
    rw [hc]
    cases hd : o.data with
    | fields vs =>
      simp only
      rw [hT]
      exact wpAny_pure q
    | _ => exact wpAny_pure q
  unfold letOwnedTupleGo
  split
  · split
    · rename_i e
      cases e
      exact key _
    · exact wpAny_pure q
  · split
    · rename_i e
      cases e
      exact key _
    · exact wpAny_pure q
  · exact wpAny_pure q

/-- an iterator over the values xs -/
structure Itr (prog : Program) (w : World) (A : Around) (W : Wd) (h h' : Heap) (xs : List AV) (I : Addr) (fp : List Addr) (P : Nat → Value → Prop) (St : Nat → Heap → Prop) : Prop where
  new : h.get? I = none
  keep : KeepH h h'
  walks : Walks prog w A I fp [I] xs.length P St
  st : St 0 h'
  mem : I ∈ fp
  old : ∀ b ∈ fp, b = I ∨ ∃ o, W b = some o
  lt : ∀ b ∈ fp, b < h'.objs.size
  val : ∀ i v, P i v → ∃ x, xs[i]? = some x ∧ VR W x v
  go : ∀ i (s : Shared) target v (Q : Unit → Shared → Prop) E, St i s.heap → Q () s → wpAny (model prog w) A (letOwnedTupleGo target (.ref I) v) Q E s
  cls : ∀ i H, St i H → ∃ o T, H.get? I = some o ∧ o.cls = .type T ∧ (T = "list_iterator" ∨ T = "tuple_iterator" ∨ T = "range_iterator")

theorem iter_ok {d : Nat} {s : Shared} {W : Wd} (R : Room A d) {r : AV} {v : Value} {xs : List AV} (hs : Sub W s.heap) (hv : VR W r v) (e : iterVals r = some xs) (Q E : Value → Shared → Prop)
    (q : ∀ I h' fp P St, Itr prog w A W s.heap h' xs I fp P St → Q (.ref I) { s with heap := h' }) : wpAny (model prog w) A (pyIter v) Q E s := by
  have hh := R.handled
  cases hv with
  | lst e1 c1 d1 r1 =>
    cases e
    rename_i a o items n
    have hl := isList_of hs e1 c1 d1
    have hlt : a < s.heap.objs.size := Heap.lt_size (hs _ _ e1)
    have l1 := VRs.length r1
    simp only [Array.length_toList] at l1
    refine wpAny_pyIter_list hl (q s.heap.objs.size _ _ _ _ ⟨fresh_size _, KeepH.push _ _, l1 ▸ Walks.list hh s.heap.objs.size a (Nat.ne_of_lt hlt) items, ⟨⟨_, Heap.get?_push_size _ rfl, rfl, rfl⟩, hl.push _⟩, by simp, fun b hb => ?_, fun b hb => ?_, fun i v hp => ?_,
      fun i s' target v Q' E' st q' => ?_, fun i H st => ?_⟩)
    · rcases List.mem_cons.mp hb with rfl | hb
      · exact .inl rfl
      · rcases List.mem_cons.mp hb with rfl | hb
        · exact .inr ⟨_, e1⟩
        · cases hb
    · show b < (s.heap.push _).objs.size
      rw [Heap.size_push]
      rcases List.mem_cons.mp hb with rfl | hb
      · exact Nat.lt_succ_self _
      · rcases List.mem_cons.mp hb with rfl | hb
        · exact Nat.lt_succ_of_lt hlt
        · cases hb
    · exact VRs.get r1 (by simpa using hp)
    · obtain ⟨⟨o, ho, hc, _⟩, _⟩ := st
      exact letGo_ok ho hc (by decide) q'
    · obtain ⟨⟨o, ho, hc, _⟩, _⟩ := st
      exact ⟨o, _, ho, hc, .inl rfl⟩
  | tup e1 c1 d1 r1 =>
    cases e
    rename_i a o items n
    have hl := isTup_of hs e1 c1 d1
    have hlt : a < s.heap.objs.size := Heap.lt_size (hs _ _ e1)
    have l1 := VRs.length r1
    simp only [Array.length_toList] at l1
    refine wpAny_pyIter_tuple hl (q s.heap.objs.size _ _ _ _ ⟨fresh_size _, KeepH.push _ _, l1 ▸ Walks.tuple hh s.heap.objs.size a (Nat.ne_of_lt hlt) items, ⟨⟨_, Heap.get?_push_size _ rfl, rfl, rfl⟩, hl.push _⟩, by simp, fun b hb => ?_, fun b hb => ?_, fun i v hp => ?_,
      fun i s' target v Q' E' st q' => ?_, fun i H st => ?_⟩)
    · rcases List.mem_cons.mp hb with rfl | hb
      · exact .inl rfl
      · rcases List.mem_cons.mp hb with rfl | hb
        · exact .inr ⟨_, e1⟩
        · cases hb
    · show b < (s.heap.push _).objs.size
      rw [Heap.size_push]
      rcases List.mem_cons.mp hb with rfl | hb
      · exact Nat.lt_succ_self _
      · rcases List.mem_cons.mp hb with rfl | hb
        · exact Nat.lt_succ_of_lt hlt
        · cases hb
    · exact VRs.get r1 (by simpa using hp)
    · obtain ⟨⟨o, ho, hc, _⟩, _⟩ := st
      exact letGo_ok ho hc (by decide) q'
    · obtain ⟨⟨o, ho, hc, _⟩, _⟩ := st
      exact ⟨o, _, ho, hc, .inr (.inl rfl)⟩
  | rng e1 =>
    rename_i r' a b c t u v
    simp only [iterVals, Option.map_eq_some_iff] at e
    obtain ⟨l, hl, rfl⟩ := e
    obtain ⟨hsm, n, hn, rfl⟩ := rangeVals_parts hl
    have hlen : ((rangeInts a c n).map AV.int).length = n := by rw [List.length_map, rangeInts_length]
    refine wpAny_pyIter_range (hs _ _ e1) hsm (q s.heap.objs.size _ [s.heap.objs.size] (fun i v => i < n ∧ ∃ t, v = Value.int (a + (i : Nat) * c) t) (fun i h => IsRangeIter h s.heap.objs.size (a + (i : Nat) * c) ((n : Int) - (i : Nat)) c)
      ⟨fresh_size _, KeepH.push _ _, (by rw [hlen]; exact (Walks.range hh s.heap.objs.size a c n).bound), ?_, by simp, fun b hb => .inl (List.mem_singleton.mp hb), fun b hb => ?_, fun i v hp => ?_,
      fun i s' target v Q' E' st q' => ?_, fun i H st => ?_⟩)
    · show IsRangeIter _ _ _ _ _
      rw [hn]
      simpa using Heap.get?_push_size _ rfl
    · show b < (s.heap.push _).objs.size
      rw [Heap.size_push, List.mem_singleton.mp hb]
      exact Nat.lt_succ_self _
    · obtain ⟨hi, t, rfl⟩ := hp
      refine ⟨.int (a + (i : Nat) * c), ?_, .int _ _⟩
      rw [List.getElem?_map, rangeInts_get hi]
      rfl
    · exact letGo_ok st rfl (by decide) q'
    · exact ⟨_, _, st, rfl, .inr (.inr rfl)⟩
  | _ => simp [iterVals] at e
end
end Mine
namespace Mine

/-- names of a comprehension's own dict -/
def LocOk (m : Str → Option Value) (W : Wd) (ts : List Nat) (ρ ρc : Rho) : Prop :=
  ∀ n r, look ρ n = some r → (n ∈ ts ∧ ∃ v, m (nm n) = some v ∧ VR W r v) ∨ look ρc n = some r
theorem LocOk.base {m : Str → Option Value} {W : Wd} {ts : List Nat} {ρc : Rho} : LocOk m W ts ρc ρc := fun _ _ e => .inr e
theorem LocOk.mono {m : Str → Option Value} {W W' : Wd} {ts : List Nat} {ρ ρc : Rho} (x : LocOk m W ts ρ ρc) (k : W.le W') : LocOk m W' ts ρ ρc := fun n r e => (x n r e).imp (fun ⟨a, v, b, c⟩ => ⟨a, v, b, c.mono k⟩) id
theorem LocOk.put {m : Str → Option Value} {W : Wd} {ts : List Nat} {ρ ρc : Rho} (x : LocOk m W ts ρ ρc) {n₀ : Nat} {x₀ : AV} {v₀ : Value} (hn : n₀ ∈ ts) (hv : VR W x₀ v₀) :
    LocOk (fun y => if y = nm n₀ then some v₀ else m y) W ts ((n₀, x₀) :: ρ) ρc := fun n r e => by
  rw [look_cons] at e
  split at e
  · rename_i h
    subst h
    cases e
    exact .inl ⟨hn, v₀, by simp, hv⟩
  · rename_i h
    rcases x n r e with ⟨a, v, b, c⟩ | h2
    · refine .inl ⟨a, v, ?_, c⟩
      show (if nm n = nm n₀ then some v₀ else m (nm n)) = some v
      rw [if_neg fun q => h (nm_inj q).symm]
      exact b
    · exact .inr h2

section
variable {prog : Program} {w : World} {A : Around} {s : Shared}

structure CompEnv (cenv : Env) (ks : Ks) (ts : List Nat) (C : Addr) : Prop where
  loc : cenv.locals = C
  kind : cenv.scope.kind = .function
  names : ∀ n ∈ ts, cenv.kindOf (nm n) = some .local

theorem store_ok {cenv : Env} {ks : Ks} {ts : List Nat} {C : Addr} (X : CompEnv cenv ks ts C) {n : Nat} {v : Value} {m : Str → Option Value} (hn : n ∈ ts) (hm : s.heap.Ns C m) (Q : Unit → Shared → Prop) (E : Value → Shared → Prop)
    (q : ∀ h' tk, (∀ b o, b ≠ C → s.heap.get? b = some o → h'.get? b = some o) → h'.Ns C (fun y => if y = nm n then some v else m y) → Q () { s with heap := h', toks := tk }) :
    wpAny (model prog w) A (storeName cenv (nm n) v) Q E s := by
  obtain ⟨rfl, hk, hnames⟩ := X
  exact wpAny_storeName_local (hnames n hn) hm (fun h' hn' hs => q h' _ (fun b o hb e => hs.extBut b o hb e) hn') (by rw [hk]; rfl)

theorem bindAll_ok {cenv : Env} {ks : Ks} {ts : List Nat} {C : Addr} (X : CompEnv cenv ks ts C) {W : Wd} {ρc : Rho} : ∀ (ns : List (Nat × Pos)) (xs : List AV) (vs : List Value) (ρ ρ' : Rho) (m : Str → Option Value) (s : Shared) (Q : Unit → Shared → Prop) (E : Value → Shared → Prop),
    bindAll (ns.map (·.1)) xs ρ = some ρ' → (∀ x ∈ ns, x.1 ∈ ts) → VRs W xs vs → LocOk m W ts ρ ρc → s.heap.Ns C m →
    (∀ h' tk m', (∀ b o, b ≠ C → s.heap.get? b = some o → h'.get? b = some o) → h'.Ns C m' → LocOk m' W ts ρ' ρc → (∀ y, (∀ n ∈ ns.map (·.1), y ≠ nm n) → m' y = m y) → Q () { s with heap := h', toks := tk }) →
    wpAny (model prog w) A (assignInOrder ((assignEach (ns.map fun x => Expr.Name (Mine.nm x.1) x.2) cenv).map (·.2)) vs) Q E s
  | [], xs, vs, ρ, ρ', m, s, Q, E, e, _, hv, hl, hn, q => by
    cases hv with
    | cons => simp [bindAll] at e
    | nil =>
      simp only [List.map_nil, bindAll, Option.some.injEq] at e
      subst e
      exact wpAny_assignInOrder_none (q _ s.toks _ (fun _ _ _ e => e) hn hl fun _ _ => rfl)
  | (n, p) :: ns, xs, vs, ρ, ρ', m, s, Q, E, e, hts, hv, hl, hn, q => by
    cases hv with
    | nil => simp [bindAll] at e
    | cons h1 hr =>
      simp only [List.map_cons, bindAll] at e
      refine wpAny_assignInOrder_more (wpAny_assign_Name (store_ok X (hts _ List.mem_cons_self) hn _ _ fun h' tk k hn' => ?_))
      refine bindAll_ok X ns _ _ _ _ _ _ _ _ e (fun x hx => hts x (List.mem_cons_of_mem _ hx)) hr (hl.put (hts _ List.mem_cons_self) h1) hn' fun h'' tk' m' k' hn'' hl' hoff => ?_
      refine q h'' tk' m' (fun b o hb e => k' b o hb (k b o hb e)) hn'' hl' fun y hy => ?_
      rw [hoff y fun a ha => hy a (by simp only [List.map_cons]; exact List.mem_cons_of_mem _ ha)]
      exact if_neg (hy n (by simp))

theorem assignEach_len (cenv : Env) : ∀ (ns : List (Nat × Pos)), (assignEach (ns.map fun x => Expr.Name (Mine.nm x.1) x.2) cenv).length = ns.length ∧ (assignEach (ns.map fun x => Expr.Name (Mine.nm x.1) x.2) cenv).findIdx? (·.1) = none
  | [] => ⟨rfl, rfl⟩
  | (n, p) :: ns => by
    obtain ⟨a, b⟩ := assignEach_len cenv ns
    have e : assignEach (((n, p) :: ns).map fun x => Expr.Name (Mine.nm x.1) x.2) cenv = (false, assign (Expr.Name (nm n) p) cenv) :: assignEach (ns.map fun x => Expr.Name (Mine.nm x.1) x.2) cenv := rfl
    rw [e]
    refine ⟨by simp [a], ?_⟩
    rw [List.findIdx?_cons, b]
    rfl
theorem bindAll_len : ∀ (ns : List Nat) (xs : List AV) (ρ ρ' : Rho), bindAll ns xs ρ = some ρ' → ns.length = xs.length
  | [], [], _, _, _ => rfl
  | [], _ :: _, _, _, e => by simp [bindAll] at e
  | _ :: _, [], _, _, e => by simp [bindAll] at e
  | _ :: ns, _ :: xs, ρ, ρ', e => by simp only [bindAll] at e; simp [bindAll_len ns xs _ _ e]

theorem assign_ok {d : Nat} (R : Room A d) {cenv : Env} {ks : Ks} {ts : List Nat} {C : Addr} (X : CompEnv cenv ks ts C) {W : Wd} (hs : Sub W s.heap) {t : Tgt} {x : AV} {v : Value} {ρ ρ' ρc : Rho} {m : Str → Option Value}
    (e : bindT t x ρ = some ρ') (hts : ∀ n ∈ tnames t, n ∈ ts) (hv : VR W x v) (hl : LocOk m W ts ρ ρc) (hm : s.heap.Ns C m) (Q : Unit → Shared → Prop) (E : Value → Shared → Prop)
    (q : ∀ h' tk m', (∀ b o, b ≠ C → s.heap.get? b = some o → h'.get? b = some o) → h'.Ns C m' → LocOk m' W ts ρ' ρc → (∀ y, (∀ n ∈ tnames t, y ≠ nm n) → m' y = m y) → Q () { s with heap := h', toks := tk }) :
    wpAny (model prog w) A (assign t.toExpr cenv v) Q E s := by
  cases t with
  | one n p =>
    simp only [bindT, Option.some.injEq] at e
    subst e
    exact wpAny_assign_Name (store_ok X (hts n (by simp [tnames])) hm _ _ fun h' tk k hn' => q h' tk _ k hn' (hl.put (hts n (by simp [tnames])) hv) fun y hy => if_neg (hy n (by simp [tnames])))
  | tup ns k p =>
    cases hv with
    | tup e1 c1 d1 r1 =>
      simp only [bindT] at e
      rename_i items _ xs
      have l1 := VRs.length r1
      simp only [Array.length_toList] at l1
      have l2 := bindAll_len _ _ _ _ e
      rw [List.length_map] at l2
      have hz := assignEach_len cenv ns
      refine wpAny_assign_Tuple R.handled (isTup_of hs e1 c1 d1) (by rw [hz.1, l1, l2]) hz.2 fun h₁ hx₁ => ?_
      have hC : C ≠ s.heap.objs.size := Nat.ne_of_lt hm.lt
      refine bindAll_ok X ns _ _ _ _ _ _ _ _ e (fun x hx => hts _ (List.mem_map_of_mem hx)) r1 hl (hm.at' fun o e => hx₁ _ _ hC e) fun h' tk m' k hn' hl' hoff => ?_
      refine q h' tk m' (fun b o hb e => k b o hb (hx₁ b o ?_ e)) hn' hl' hoff
      exact Nat.ne_of_lt (Heap.lt_size e)
    | _ => simp [bindT] at e
end

/-- the names that a comprehension's body reads -/
theorem rd_comp {prog : Program} {w : World} {h₀ : Heap} {G : Rho} (hG : GlobOk prog w h₀ G) {env : Env} {W : Wd} {h : Heap} {cn : List Nat} {ρ : Rho} (X : RdOk prog w env W h cn ρ) {ks : Ks} {ts : List Nat} (ok : compOk cn ks ts = true)
    {cl : List (Str × Addr)} (hcl : ∀ n, (n, NameKind.free) ∈ ks → cl.lookup (nm n) = env.cells.lookup (nm n)) {C : Addr} {Wk : Wd} {H : Heap} (hb : Wd.le (fun b => h₀.get? b) Wk) (k0 : KeepH h₀ H) (hw : W.le Wk) (k : KeepH h H) {m : Str → Option Value} (hm : H.Ns C m) {ρ' : Rho}
    (hl : LocOk m Wk ts ρ' (cenv G ρ ks)) : RdOk prog w (compEnvC (Ks.scope ks) cl C env) Wk H (frees ks) ρ' := by
  unfold compOk at ok
  simp only [Bool.and_eq_true, List.all_eq_true] at ok
  obtain ⟨⟨ok1, ok2⟩, ok3⟩ := ok
  have kin : ∀ n kd, (n, kd) ∈ ks → kindIn ks n = some kd := fun n kd h => by simpa using ok3 _ h
  have kof : ∀ n kd, (n, kd) ∈ ks → (compEnvC (Ks.scope ks) cl C env).kindOf (nm n) = some (relKind env (nm n) kd) := fun n kd h => by
    show List.lookup (nm n) (List.map _ (Ks.names ks)) = _
    have := relabel_lookup env (nm n) (Ks.names ks)
    rw [kindIn_lookup, kin n kd h] at this
    exact this
  have fr : ∀ n, (n, NameKind.free) ∈ ks → memN n cn = true ∧ nm n ≠ ("__classdict__" : Str) := fun n h => by
    have := ok1 _ h
    simp only [Bool.and_eq_true, Bool.not_eq_true'] at this
    exact ⟨this.1, fun q => beq_false this.2 (nm_inj (q.trans nm_cd.symm))⟩
  have tsl : ∀ n ∈ ts, kindIn ks n = some .local ∧ nm n ≠ ("__debug__" : Str) := fun n h => by
    have := ok2 n h
    simp only [Bool.not_eq_true', beq_iff_eq] at this
    exact ⟨this.1, fun q => beq_false this.2 (nm_inj (q.trans nm_dbg.symm))⟩
  have hkind : (compEnvC (Ks.scope ks) cl C env).scope.kind = .function := rfl
  -- a free name
  have cellFact : ∀ n, (n, NameKind.free) ∈ ks → ∃ c, cl.lookup (nm n) = some c ∧ ∀ r, look ρ n = some r → nm n ≠ ("__debug__" : Str) ∧ ∃ v, VR Wk r v ∧ H.IsCell c (some v) := fun n h => by
    obtain ⟨c, e1, e2⟩ := X.cell n (fr n h).1
    exact ⟨c, (hcl n h).trans e1, fun r q => let ⟨d, v, p, t⟩ := e2 r q; ⟨d, v, p.mono hw, t.keeps k⟩⟩
  have tsFree : ∀ n, n ∈ ts → (n, NameKind.free) ∉ ks := fun n h q => by
    have := (tsl n h).1
    rw [kin n _ q] at this
    cases this
  refine ⟨fun n r e => ?_, fun n hn => ?_, hkind, X.glob, X.blt⟩
  · rcases hl n r e with ⟨hts, v, hv, hvr⟩ | e2
    · obtain ⟨h1, h2⟩ := tsl n hts
      refine ⟨v, hvr, h2, fun A Q E s ks' q => ?_⟩
      have hk2 : (compEnvC (Ks.scope ks) cl C env).kindOf (nm n) = some .local := by
        have := relabel_lookup env (nm n) (Ks.names ks)
        rw [kindIn_lookup, h1] at this
        exact this
      exact wpAny_loadName_local (env := compEnvC (Ks.scope ks) cl C env) hkind hk2 (hm.keeps ks') hv q
    · rcases look_cenv e2 with ⟨hm2, hr⟩ | ⟨hm2, hr⟩
      · obtain ⟨c, c1, c2⟩ := cellFact n hm2
        obtain ⟨d, v, hvr, hc⟩ := c2 r hr
        refine ⟨v, hvr, d, fun A Q E s ks' q => ?_⟩
        have hk2 := kof n _ hm2
        unfold relKind at hk2
        split at hk2
        · exact wpAny_loadName_cell (env := compEnvC (Ks.scope ks) cl C env) hkind hk2 c1 (hc.keeps ks') q
        · exact wpAny_loadName_free (env := compEnvC (Ks.scope ks) cl C env) hkind hk2 c1 (hc.keeps ks') q (by simpa using (fr n hm2).2)
      · obtain ⟨v, hvr, d, hlk⟩ := hG.val n r hr
        refine ⟨v, hvr.mono hb, d, ?_⟩
        have hk2 : (compEnvC (Ks.scope ks) cl C env).kindOf (nm n) = some .globalImplicit := by
          have := kof n _ hm2
          simpa [relKind] using this
        rw [loadName_glob hkind hk2]
        exact (hlk _ X.glob X.blt).keeps k0
  · have hf : (n, NameKind.free) ∈ ks := mem_frees.mp (memN_iff.mp hn)
    obtain ⟨c, c1, c2⟩ := cellFact n hf
    refine ⟨c, c1, fun r e => ?_⟩
    rcases hl n r e with ⟨hts, _⟩ | e2
    · exact absurd hf (tsFree n hts)
    · rcases look_cenv e2 with ⟨_, hr⟩ | ⟨hm2, hr⟩
      · exact c2 r hr
      · have := kin n _ hm2
        rw [kin n _ hf] at this
        cases this
end Mine
namespace Mine

theorem mapF_snoc {f : AV → Option (Option AV)} : ∀ {a : List AV} {la : List AV} {x : AV} {o : Option AV}, mapF f a = some la → f x = some o → mapF f (a ++ [x]) = some (la ++ o.toList)
  | [], la, x, o, h, e => by
    simp only [mapF, Option.some.injEq] at h
    subst h
    cases o <;> simp [mapF, e]
  | y :: r, la, x, o, h, e => by
    simp only [mapF, List.cons_append] at h ⊢
    split at h
    · cases h
    · exact mapF_snoc h e
    · split at h
      · rename_i l hl
        cases h
        rw [mapF_snoc hl e]
        rfl
      · cases h
theorem mapF_defined {f : AV → Option (Option AV)} : ∀ {xs l : List AV}, mapF f xs = some l → ∀ {i : Nat} {x : AV}, xs[i]? = some x → ∃ o, f x = some o
  | [], _, _, i, x, e => by simp at e
  | y :: r, l, h, i, x, e => by
    simp only [mapF] at h
    cases hf : f y with
    | none => rw [hf] at h; cases h
    | some o =>
      cases i with
      | zero => simp at e; subst e; exact ⟨o, hf⟩
      | succ i =>
        simp at e
        rw [hf] at h
        cases o with
        | none => exact mapF_defined h e
        | some z =>
          simp only at h
          split at h
          · rename_i l' hl
            exact mapF_defined hl e
          · cases h
theorem mapF_len {f : AV → Option (Option AV)} : ∀ {xs l : List AV}, mapF f xs = some l → l.length ≤ xs.length
  | [], l, h => by simp [mapF] at h; simp [h]
  | y :: r, l, h => by
    simp only [mapF] at h
    split at h
    · cases h
    · have := mapF_len h; simp; omega
    · split at h
      · rename_i l' hl
        cases h
        have := mapF_len hl
        simp; omega
      · cases h

section
variable (prog : Program) (w : World) (h₀ : Heap) (C : Cfg) (A : Around)
/-- a test comes back with b -/
def EvB (s : Shared) (t : Sem Bool) (b : Bool) : Prop :=
  ∀ (Q : Bool → Shared → Prop) (E : Value → Shared → Prop), (∀ h' tk, KeepH s.heap h' → Q b { s with heap := h', toks := tk }) → wpAny (model prog w) A t Q E s
def SE (e : AE) : Prop := ∀ (cn : List Nat) (ρ : Rho) (r : AV) (env : Env) (W : Wd) (s : Shared), RdOk prog w env W s.heap cn ρ → Wd.le (fun b => h₀.get? b) W → Sub W s.heap → aeval C e cn ρ = some r →
  Ev prog w A W s (eval e.toExpr env) r
def testTree (es : List Expr) (b : Bool) (env : Env) : Sem Bool :=
  forIn es b fun c r => if r = true then do let ok ← isTrue c env (eval c env); pure (ForInStep.yield ok) else pure (ForInStep.yield r)
def STs (es : AEs) : Prop := ∀ (cn : List Nat) (ρ : Rho) (b : Bool) (env : Env) (W : Wd) (s : Shared), RdOk prog w env W s.heap cn ρ → Wd.le (fun b => h₀.get? b) W → Sub W s.heap → atests C es cn ρ = some b →
  EvB prog w A s (testTree es.toExprs true env) b
end

theorem Sub.keep {W : Wd} {h h' : Heap} (x : Sub W h) (k : ∀ b o, W b = some o → h.get? b = some o → h'.get? b = some o) : Sub W h' := fun b o e => k b o e (x b o e)

/-- the state within a comprehension: hb the heap at its start, X what is hidden -/
structure CI (hb : Heap) (W : Wd) (Cd D : Addr) (X : List Addr) (H : Heap) (Wk : Wd) (ys : List AV) (m : Str → Option Value) : Prop where
  keep : KeepH hb H
  le : W.le Wk
  sub : Sub Wk H
  old : ∀ b o, Wk b = some o → (∃ o', hb.get? b = some o') → W b = some o
  hid : ∀ b ∈ X, Wk b = none ∧ hb.get? b = none
  here : ∀ b ∈ X, ∃ o, H.get? b = some o
  cX : Cd ∈ X
  dX : D ∈ X
  ne : Cd ≠ D
  acc : ∃ items, H.PlainList D items ∧ VRs Wk ys items.toList
  ns : H.Ns Cd m

section
variable {prog : Program} {w : World} {h₀ : Heap} {C : Cfg} {A : Around}

/-- nothing but hidden things changed -/
theorem CI.touch {hb : Heap} {W : Wd} {Cd D : Addr} {X : List Addr} {H H' : Heap} {Wk : Wd} {ys : List AV} {m m' : Str → Option Value} (x : CI hb W Cd D X H Wk ys m)
    (k : ∀ b o, b ∉ X → H.get? b = some o → H'.get? b = some o) (hX : ∀ b ∈ X, ∃ o, H'.get? b = some o) (hD : ∀ o, H.get? D = some o → H'.get? D = some o) (hn : H'.Ns Cd m') : CI hb W Cd D X H' Wk ys m' where
  keep := fun b o e => k b o (fun hm => by have := (x.hid b hm).2; rw [e] at this; cases this) (x.keep b o e)
  le := x.le
  sub := fun b o e => k b o (fun hm => by have := (x.hid b hm).1; rw [e] at this; cases this) (x.sub b o e)
  old := x.old
  hid := x.hid
  here := hX
  cX := x.cX
  dX := x.dX
  ne := x.ne
  acc := let ⟨items, p, v⟩ := x.acc; ⟨items, p.at hD, v⟩
  ns := hn
/-- an evaluation went by -/
theorem CI.grow {hb : Heap} {W : Wd} {Cd D : Addr} {X : List Addr} {H H' : Heap} {Wk : Wd} {ys : List AV} {m : Str → Option Value} (x : CI hb W Cd D X H Wk ys m) (k : KeepH H H') : CI hb W Cd D X H' (ext Wk H H') ys m where
  keep := x.keep.trans k
  le := x.le.trans (ext_le x.sub)
  sub := ext_sub x.sub k
  old := fun b o e ⟨o', q⟩ => by
    unfold ext at e
    rw [x.keep _ _ q] at e
    exact x.old b o e ⟨o', q⟩
  hid := fun b hm => by
    refine ⟨?_, (x.hid b hm).2⟩
    obtain ⟨o, ho⟩ := x.here b hm
    unfold ext
    rw [ho]
    exact (x.hid b hm).1
  here := fun b hm => let ⟨o, ho⟩ := x.here b hm; ⟨o, k _ _ ho⟩
  cX := x.cX
  dX := x.dX
  ne := x.ne
  acc := let ⟨items, p, v⟩ := x.acc; ⟨items, p.at fun o e => k _ _ e, VRs.mono (ext_le x.sub) v⟩
  ns := x.ns.keeps k
theorem CI.same {hb : Heap} {W : Wd} {Cd D : Addr} {X : List Addr} {H H' : Heap} {Wk : Wd} {ys : List AV} {m : Str → Option Value} (x : CI hb W Cd D X H Wk ys m) (k : KeepH H H') : CI hb W Cd D X H' Wk ys m where
  keep := x.keep.trans k
  le := x.le
  sub := fun b o e => k _ _ (x.sub b o e)
  old := x.old
  hid := x.hid
  here := fun b hm => let ⟨o, ho⟩ := x.here b hm; ⟨o, k _ _ ho⟩
  cX := x.cX
  dX := x.dX
  ne := x.ne
  acc := let ⟨items, p, v⟩ := x.acc; ⟨items, p.at fun o e => k _ _ e, v⟩
  ns := x.ns.keeps k
theorem CI.append {hb : Heap} {W : Wd} {Cd D : Addr} {X : List Addr} {H : Heap} {Wk : Wd} {ys : List AV} {m : Str → Option Value} {y : AV} {v : Value} (x : CI hb W Cd D X H Wk ys m) (hv : VR Wk y v) (hsz : ys.length ≤ sizeLine) {s : Shared} (hs : s.heap = H)
    (Q : Value → Shared → Prop) (E : Value → Shared → Prop) (q : ∀ H', CI hb W Cd D X H' Wk (ys ++ [y]) m → (∀ b o, b ≠ D → H.get? b = some o → H'.get? b = some o) → Q .none { s with heap := H' }) :
    wpAny (model prog w) A (call (.builtin "list.append") [.ref D, v]) Q E s := by
  subst hs
  obtain ⟨items, hp, hr⟩ := x.acc
  have l := VRs.length hr
  simp only [Array.length_toList] at l
  refine wpAny_list_append_plain (hsz := by omega) hp fun H' hp' hs' => ?_
  refine q H' ⟨?_, x.le, ?_, x.old, x.hid, ?_, x.cX, x.dX, x.ne, ⟨_, hp', ?_⟩, x.ns.sameBut hs' x.ne⟩ fun b o hb e => hs'.extBut b o hb e
  · exact fun b o e => hs'.extBut b o (fun hd => by have := (x.hid D x.dX).2; rw [← hd, e] at this; cases this) (x.keep b o e)
  · exact fun b o e => hs'.extBut b o (fun hd => by have := (x.hid D x.dX).1; rw [← hd, e] at this; cases this) (x.sub b o e)
  · intro b hm
    by_cases hd : b = D
    · subst hd; obtain ⟨n, e⟩ := hp'; exact ⟨_, e⟩
    · obtain ⟨o, ho⟩ := x.here b hm; exact ⟨o, hs'.extBut b o hd ho⟩
  · rw [Array.toList_push]
    exact VRs.append hr (.cons hv .nil)

theorem testTree_false (env : Env) : ∀ (es : List Expr) (s : Shared) (Q : Bool → Shared → Prop) (E : Value → Shared → Prop), Q false s → wpAny (model prog w) A (testTree es false env) Q E s
  | [], s, Q, E, q => by unfold testTree; rw [List.forIn_nil]; exact wpAny_pure q
  | e :: es, s, Q, E, q => by
    unfold testTree
    rw [List.forIn_cons]
    simp only [Bool.false_eq_true, if_false, pure_bind]
    exact testTree_false env es s Q E q

/-- the element function of a comprehension with one for -/
def elF (C : Cfg) (elt : AE) (t : Tgt) (ifs : AEs) (fr : List Nat) (ρ : Rho) (v : AV) : Option (Option AV) :=
  match bindT t v ρ with
  | some ρ' => match atests C ifs fr ρ' with
    | some true => (aeval C elt fr ρ').map some
    | some false => some none
    | none => none
  | none => none

/-- the innermost loop of a comprehension -/
theorem loopA {d : Nat} (R : Room A d) (hG : GlobOk prog w h₀ C.G) {elt : AE} {t : Tgt} {ifs : AEs} (hE : SE prog w h₀ C A elt) (hT : STs prog w h₀ C A ifs)
    {env : Env} {W : Wd} {hb : Heap} {cn : List Nat} {ρ : Rho} (rd : RdOk prog w env W hb cn ρ) (hbase : Wd.le (fun b => h₀.get? b) W) (k0 : KeepH h₀ hb) {ks : Ks} {ts : List Nat} (ok : compOk cn ks ts = true)
    {cl : List (Str × Addr)} (hcl : ∀ n, (n, NameKind.free) ∈ ks → cl.lookup (nm n) = env.cells.lookup (nm n)) {Cd D : Addr} (cx : CompEnv (compEnvC (Ks.scope ks) cl Cd env) ks ts Cd)
    {p ip : Pos} {gens : List Comprehension} {depth : Nat} {I : Addr}
    (hden : compTurn (.ListComp elt.toExpr gens (Ks.scope ks) p) depth (.ref I) (.ref D) (compEnvC (Ks.scope ks) cl Cd env) = (do
      standAt ip
      match ← pyNext (.ref I) with
      | none => pure (.done .next)
      | some v =>
        letOwnedTupleGo t.toExpr (.ref I) v
        assign t.toExpr (compEnvC (Ks.scope ks) cl Cd env) v
        let ok ← testTree ifs.toExprs true (compEnvC (Ks.scope ks) cl Cd env)
        if ok = true then
          (do let x ← eval elt.toExpr (compEnvC (Ks.scope ks) cl Cd env); let _ ← call (.builtin "list.append") [.ref D, x]; pure ())
          again (.compLoop (.ListComp elt.toExpr gens (Ks.scope ks) p) depth (.ref I) (.ref D) (compEnvC (Ks.scope ks) cl Cd env))
        else again (.compLoop (.ListComp elt.toExpr gens (Ks.scope ks) p) depth (.ref I) (.ref D) (compEnvC (Ks.scope ks) cl Cd env))))
    {xs : List AV} {fp : List Addr} {P : Nat → Value → Prop} {St : Nat → Heap → Prop} (wk : Walks prog w A I fp [I] xs.length P St)
    (go : ∀ i (s : Shared) target v (Q : Unit → Shared → Prop) E, St i s.heap → Q () s → wpAny (model prog w) A (letOwnedTupleGo target (.ref I) v) Q E s)
    (cls : ∀ i H, St i H → ∃ o, H.get? I = some o)
    {X : List Addr} (hXC : Cd ∈ X) (hXD : D ∈ X) (hIC : I ∉ X)
    {s : Shared} {Wk : Wd} {ys : List AV} {m : Str → Option Value} (ci : CI hb W Cd D (I :: X) s.heap Wk ys m) (hst : St 0 s.heap) (hfp : ∀ b ∈ fp, b = I ∨ ∃ o, Wk b = some o) (hval : ∀ i v, P i v → ∃ x, xs[i]? = some x ∧ VR Wk x v)
    {ρ0 : Rho} {ts0 : List Nat} (hloc : LocOk m Wk ts0 ρ0 (cenv C.G ρ ks)) (hdis : ∀ n ∈ tnames t, n ∉ ts0) (hs0 : ∀ n ∈ ts0, n ∈ ts) (hs1 : ∀ n ∈ tnames t, n ∈ ts)
    {l : List AV} (hf : mapF (elF C elt t ifs (frees ks) ρ0) xs = some l) (hsz : ys.length + l.length ≤ sizeLine) {RR : Result → Shared → Prop}
    (fin : ∀ H tk Wk' m', CI hb W Cd D X H Wk' (ys ++ l) m' → Wk.le Wk' → LocOk m' Wk' ts0 ρ0 (cenv C.G ρ ks) → (∀ b o, b ≠ Cd → b ≠ D → b ≠ I → s.heap.get? b = some o → H.get? b = some o) → RR (.ok .next) { s with heap := H, toks := tk }) :
    codeAny (model prog w) A (.compLoop (.ListComp elt.toExpr gens (Ks.scope ks) p) depth (.ref I) (.ref D) (compEnvC (Ks.scope ks) cl Cd env)) RR s := by
  have hlen := mapF_len hf
  have hIX0 := hIC
  have hID : I ≠ D := fun q => hIC (q ▸ hXD)
  have hIC : I ≠ Cd := fun q => hIC (q ▸ hXC)
  have hI : I ∈ I :: X := List.mem_cons_self
  refine codeAny_loop rfl (fun k s' => ∃ H tk i Wk' m' li, s' = { s with heap := H, toks := tk } ∧ i ≤ xs.length ∧ k = xs.length + 1 - i ∧ St i H ∧ CI hb W Cd D (I :: X) H Wk' (ys ++ li) m' ∧ Wk.le Wk' ∧
    mapF (elF C elt t ifs (frees ks) ρ0) (xs.take i) = some li ∧ LocOk m' Wk' ts0 ρ0 (cenv C.G ρ ks) ∧ (∀ b o, b ≠ Cd → b ≠ D → b ≠ I → s.heap.get? b = some o → H.get? b = some o)) (fun k s' hI' => ?_) (xs.length + 1)
    ⟨s.heap, s.toks, 0, Wk, m, [], rfl, Nat.zero_le _, rfl, hst, by rw [List.append_nil]; exact ci, Wd.le_refl _, by simp [mapF], hloc, fun _ _ _ _ _ e => e⟩
  show wpAny _ A ((compTurn (.ListComp elt.toExpr gens (Ks.scope ks) p) depth (.ref I) (.ref D) (compEnvC (Ks.scope ks) cl Cd env)).onRaise (fun x => do noteFrame x (compEnvC (Ks.scope ks) cl Cd env); theTreesLotGoes x)) _ _ s'
  obtain ⟨H, tk, i, Wk', m', li, rfl, hi, rfl, hst', ci', le', hli, hloc', hk'⟩ := hI'
  refine wpAny_noted ?_
  rw [hden]
  refine wpAny_bind (wpAny_standAt (wpAny_bind ?_))
  have hIX := ci'.hid I hI
  have fpD : D ∉ fp := fun hm => by
    rcases hfp D hm with e | ⟨o, e⟩
    · exact hID e.symm
    · have := (ci'.hid D ci'.dX).1; rw [le' _ _ e] at this; cases this
  have fpC : Cd ∉ fp := fun hm => by
    rcases hfp Cd hm with e | ⟨o, e⟩
    · exact hIC e.symm
    · have := (ci'.hid Cd ci'.cX).1; rw [le' _ _ e] at this; cases this
  by_cases hlt : i < xs.length
  · refine wk.item i _ _ _ hlt hst' fun v h₁ tk₁ hP hst₁ hk₁ => ?_
    have hk₁' : ∀ b o, b ≠ I → H.get? b = some o → h₁.get? b = some o := fun b o hb e => hk₁ b o (by simpa using hb) e
    have ci₁ : CI hb W Cd D (I :: X) h₁ Wk' (ys ++ li) m' := ci'.touch (fun b o hb e => hk₁' b o (fun q => hb (q ▸ hI)) e) (fun b hm => by
        by_cases hb : b = I
        · subst hb; exact cls _ _ hst₁
        · obtain ⟨o, ho⟩ := ci'.here b hm; exact ⟨o, hk₁' b o hb ho⟩) (fun o e => hk₁' _ _ (Ne.symm hID) e) (ci'.ns.at' fun o e => hk₁' _ _ (Ne.symm hIC) e)
    obtain ⟨x, hx, hvr⟩ := hval i v hP
    obtain ⟨o, ho⟩ := mapF_defined hf hx
    refine wpAny_bind (go _ _ _ _ _ _ hst₁ (wpAny_bind ?_))
    have ho' := ho
    unfold elF at ho
    split at ho
    · rename_i ρ' hρ'
      have hloc₀ : LocOk m' Wk' ts ρ0 (cenv C.G ρ ks) := fun n r e => (hloc' n r e).imp (fun ⟨a, b⟩ => ⟨hs0 _ a, b⟩) id
      refine assign_ok R cx ci₁.sub hρ' hs1 (hvr.mono le') hloc₀ ci₁.ns _ _ fun h₂ tk₂ m₂ k₂ hn₂ hl₂ hoff => ?_
      have ci₂ : CI hb W Cd D (I :: X) h₂ Wk' (ys ++ li) m₂ := ci₁.touch (fun b o hb e => k₂ b o (fun q => hb (q ▸ ci'.cX)) e) (fun b hm => by
          by_cases hb : b = Cd
          · subst hb; obtain ⟨o, _, _, e, _⟩ := hn₂; exact ⟨o, e⟩
          · obtain ⟨o, ho⟩ := ci₁.here b hm; exact ⟨o, k₂ b o hb ho⟩) (fun o e => k₂ _ _ ci'.ne.symm e) hn₂
      have hst₂ : St (i + 1) h₂ := wk.frame _ _ _ hst₁ fun b hb o e => k₂ b o (fun q => fpC (q ▸ hb)) e
      have hloc₂ : LocOk m₂ Wk' ts0 ρ0 (cenv C.G ρ ks) := fun n r e => by
        rcases hloc' n r e with ⟨a, v, b, c⟩ | h
        · refine .inl ⟨a, v, ?_, c⟩
          rw [hoff (nm n) fun n' hn' q => hdis n' hn' ((nm_inj q) ▸ a)]; exact b
        · exact .inr h
      have hk₂ : ∀ b o, b ≠ Cd → b ≠ D → b ≠ I → s.heap.get? b = some o → h₂.get? b = some o := fun b o h1 h2 h3 e => k₂ b o h1 (hk₁' b o h3 (hk' b o h1 h2 h3 e))
      have rd₂ : RdOk prog w (compEnvC (Ks.scope ks) cl Cd env) Wk' h₂ (frees ks) ρ' := rd_comp hG rd ok hcl (hbase.trans ci₂.le) (k0.trans ci₂.keep) ci₂.le ci₂.keep hn₂ hl₂
      have snoc : xs.take (i + 1) = xs.take i ++ [x] := by rw [List.take_add_one, hx]; rfl
      split at ho
      · -- the test holds
        rename_i hb
        refine wpAny_bind (hT _ _ _ _ _ _ rd₂ (hbase.trans ci₂.le) ci₂.sub hb _ _ fun h₃ tk₃ k₃ => ?_)
        rw [if_pos rfl]
        simp only [Option.map_eq_some_iff] at ho
        obtain ⟨y, hy, rfl⟩ := ho
        have ci₃ := ci₂.same k₃
        have rd₃ := rd₂.mono (Wd.le_refl _) k₃
        refine wpAny_bind (wpAny_bind (hE _ _ _ _ _ _ rd₃ (hbase.trans ci₂.le) ci₃.sub hy _ _ fun vy h₄ tk₄ k₄ hvy => ?_))
        have ci₄ := ci₃.grow k₄
        have hz : (ys ++ li).length ≤ sizeLine := by
          have := mapF_len hli
          have h5 := mapF_snoc hli ho'
          rw [← snoc] at h5
          -- li is no longer than l
          have hle : li.length ≤ l.length := by
            have : ∀ (a b la l : List AV), mapF (elF C elt t ifs (frees ks) ρ0) a = some la → mapF (elF C elt t ifs (frees ks) ρ0) (a ++ b) = some l → la.length ≤ l.length := by
              intro a b
              induction b generalizing a with
              | nil => intro la l h1 h2; rw [List.append_nil, h1] at h2; cases h2; exact Nat.le_refl _
              | cons z b ih =>
                intro la l h1 h2
                obtain ⟨o, ho⟩ := mapF_defined (i := a.length) h2 (x := z) (by simp)
                have h3 := mapF_snoc h1 ho
                have h4 := ih (a ++ [z]) _ l h3 (by simpa using h2)
                simp at h4; omega
            exact this (xs.take i) (xs.drop i) _ _ hli (by rw [List.take_append_drop]; exact hf)
          rw [List.length_append]; omega
        refine wpAny_bind (ci₄.append hvy hz rfl _ _ fun h₅ ci₅ k₅ => ?_)
        refine wpAny_pure (wpAny_pure ⟨rfl, xs.length + 1 - (i + 1), by omega, h₅, tk₄, i + 1, _, m₂, li ++ [y], rfl, hlt, rfl, ?_, by rw [← List.append_assoc]; exact ci₅, le'.trans (ext_le ci₃.sub), ?_, hloc₂.mono (ext_le ci₃.sub), fun b o h1 h2 h3 e => k₅ b o h2 (k₄ _ _ (k₃ _ _ (hk₂ b o h1 h2 h3 e)))⟩)
        · exact wk.frame _ _ _ hst₂ fun b hb o e => k₅ b o (fun q => fpD (q ▸ hb)) (k₄ _ _ (k₃ _ _ e))
        · rw [snoc]; exact mapF_snoc hli ho'
      · -- the test fails
        rename_i hb
        cases ho
        refine wpAny_bind (hT _ _ _ _ _ _ rd₂ (hbase.trans ci₂.le) ci₂.sub hb _ _ fun h₃ tk₃ k₃ => ?_)
        rw [if_neg Bool.false_ne_true]
        refine wpAny_pure ⟨rfl, xs.length + 1 - (i + 1), by omega, h₃, tk₃, i + 1, Wk', m₂, li, rfl, hlt, rfl, ?_, ci₂.same k₃, le', ?_, hloc₂, fun b o h1 h2 h3 e => k₃ _ _ (hk₂ b o h1 h2 h3 e)⟩
        · exact wk.frame _ _ _ hst₂ fun b _ o e => k₃ _ _ e
        · rw [snoc]
          have := mapF_snoc hli ho'
          simpa using this
      · cases ho
    · cases ho
  · obtain rfl : i = xs.length := Nat.le_antisymm hi (Nat.not_lt.mp hlt)
    refine wk.done _ _ _ hst' fun h₁ tk₁ hk₁ => wpAny_pure ?_
    have hk₁' : ∀ b o, b ≠ I → H.get? b = some o → h₁.get? b = some o := fun b o hb e => hk₁ b o (by simpa using hb) e
    have hn1 : ∀ b ∈ X, b ≠ I := fun b hb q => hIX0 (q ▸ hb)
    have hl : li = l := by
      rw [List.take_length, hf] at hli
      exact (Option.some.inj hli).symm
    subst hl
    refine fin h₁ tk₁ Wk' m' ⟨fun b o e => hk₁' b o (fun q => ?_) (ci'.keep b o e), ci'.le, fun b o e => hk₁' b o (fun q => ?_) (ci'.sub b o e), ci'.old, fun b hb => ci'.hid b (List.mem_cons_of_mem _ hb), fun b hb => ?_, hXC, hXD, ci'.ne, ?_, ci'.ns.at' fun o e => hk₁' _ _ (Ne.symm hIC) e⟩ le' hloc'
      fun b o h1 h2 h3 e => hk₁' b o h3 (hk' b o h1 h2 h3 e)
    · have := hIX.2; rw [← q, e] at this; cases this
    · have := hIX.1; rw [← q, e] at this; cases this
    · obtain ⟨o, ho⟩ := ci'.here b (List.mem_cons_of_mem _ hb)
      exact ⟨o, hk₁' b o (hn1 b hb) ho⟩
    · obtain ⟨items, hp, hv⟩ := ci'.acc
      exact ⟨items, hp.at fun o e => hk₁' _ _ (Ne.symm hID) e, hv⟩
end
end Mine
namespace Mine

section
variable {prog : Program} {w : World} {h₀ : Heap} {C : Cfg} {A : Around}

theorem folded_plain (e : AE) (env : Env) (x : Value) : foldedSetIterable e.toExpr env x = pure x := by cases e <;> rfl

theorem ks_kind (ks : Ks) : (Ks.scope ks).kind = .function := rfl
theorem ks_nocell {cn : List Nat} {ks : Ks} {ts : List Nat} (ok : compOk cn ks ts = true) : ∀ y ∈ (Ks.scope ks).names, y.2 ≠ .cell := fun y hy e => by
  obtain ⟨⟨n, k⟩, hm, rfl⟩ := List.mem_map.mp hy
  unfold compOk at ok
  simp only [Bool.and_eq_true, List.all_eq_true] at ok
  have := ok.1.1 _ hm
  have e' : k = .cell := e
  subst e'
  simp at this
theorem ks_local {cn : List Nat} {ks : Ks} {ts : List Nat} (ok : compOk cn ks ts = true) : ∀ x ∈ (Ks.scope ks).names, x.2 = .local → (Ks.scope ks).names.lookup x.1 = some .local := fun y hy e => by
  obtain ⟨⟨n, k⟩, hm, rfl⟩ := List.mem_map.mp hy
  unfold compOk at ok
  simp only [Bool.and_eq_true, List.all_eq_true] at ok
  have := ok.2 _ hm
  have e' : k = .local := e
  subst e'
  show (Ks.names ks).lookup (nm n) = _
  rw [kindIn_lookup]
  simpa using this
theorem compEnv_ok {cn : List Nat} {ks : Ks} {ts : List Nat} (ok : compOk cn ks ts = true) (cl : List (Str × Addr)) (Cd : Addr) (env : Env) : CompEnv (compEnvC (Ks.scope ks) cl Cd env) ks ts Cd where
  loc := rfl
  kind := rfl
  names := fun n hn => by
    unfold compOk at ok
    simp only [Bool.and_eq_true, List.all_eq_true] at ok
    have h1 := ok.1.2 n hn
    have h1' : kindIn ks n = some .local := by simpa using h1.1
    have := relabel_lookup env (nm n) (Ks.names ks)
    rw [kindIn_lookup, h1'] at this
    exact this
theorem free_in {cn : List Nat} {ks : Ks} {ts : List Nat} (ok : compOk cn ks ts = true) : ∀ n, (n, NameKind.free) ∈ ks → memN n cn = true := fun n hn => by
  unfold compOk at ok
  simp only [Bool.and_eq_true, List.all_eq_true] at ok
  have := ok.1.1 _ hn
  simp only [Bool.and_eq_true] at this
  exact this.1

theorem compTurn_one (elt : AE) (t : Tgt) (iter : AE) (ifs : AEs) (sc : Scope) (p : Pos) (I D : Addr) (env : Env) :
    compTurn (.ListComp elt.toExpr [⟨t.toExpr, iter.toExpr, ifs.toExprs, 0⟩] sc p) 0 (.ref I) (.ref D) env = (do
      standAt iter.toExpr.pos
      match ← pyNext (.ref I) with
      | none => pure (.done .next)
      | some v =>
        letOwnedTupleGo t.toExpr (.ref I) v
        assign t.toExpr env v
        let ok ← testTree ifs.toExprs true env
        if ok = true then
          (do let x ← eval elt.toExpr env; let _ ← call (.builtin "list.append") [.ref D, x]; pure ())
          again (.compLoop (.ListComp elt.toExpr [⟨t.toExpr, iter.toExpr, ifs.toExprs, 0⟩] sc p) 0 (.ref I) (.ref D) env)
        else again (.compLoop (.ListComp elt.toExpr [⟨t.toExpr, iter.toExpr, ifs.toExprs, 0⟩] sc p) 0 (.ref I) (.ref D) env)) := by
  rw [compTurn_list]
  rfl

/-- what holds when a comprehension's loop is over -/
def CPost (prog : Program) (w : World) (A : Around) (W : Wd) (s : Shared) (l : List AV) (use : Option (Value → Sem Unit)) (Q E : Value → Shared → Prop) : Prop :=
  ∀ (H : Heap) (tk : Nat) (Wk : Wd) (a Cd : Addr) (m : Str → Option Value) (items : Array Value), KeepH s.heap H → W.le Wk → Sub Wk H → (∀ b o, Wk b = some o → (∃ o', s.heap.get? b = some o') → W b = some o) →
    Wk Cd = none → s.heap.get? Cd = none → Wk a = none → s.heap.get? a = none → a ≠ Cd → H.PlainList a items → VRs Wk l items.toList → H.Ns Cd m →
    compPost (model prog w) A E use Q (.ref a) Cd (.ok .next) { s with heap := H, toks := tk }
/-- the tree comes back with a new list -/
def EvN (prog : Program) (w : World) (A : Around) (W : Wd) (s : Shared) (t : Sem Value) (l : List AV) : Prop :=
  ∀ (Q E : Value → Shared → Prop), (∀ a h' tk items, KeepH s.heap h' → s.heap.get? a = none → h'.PlainList a items → VRs (ext W s.heap h') l items.toList → Q (.ref a) { s with heap := h', toks := tk }) → wpAny (model prog w) A t Q E s
theorem EvN.ev {W : Wd} {s : Shared} {t : Sem Value} {l : List AV} (x : EvN prog w A W s t l) : Ev prog w A W s t (.lst l) := fun Q E q => x Q E fun a h' tk items k e hp hv => by
  obtain ⟨n, hp⟩ := hp
  exact q _ _ _ k (vr_new_list e hp hv)
theorem CPost.of_new {W : Wd} {s : Shared} {l : List AV} {Q E : Value → Shared → Prop} (hs : Sub W s.heap) (q : ∀ a h' tk items, KeepH s.heap h' → s.heap.get? a = none → h'.PlainList a items → VRs (ext W s.heap h') l items.toList → Q (.ref a) { s with heap := h', toks := tk }) :
    CPost prog w A W s l none Q E := fun H tk Wk a Cd m items kk le sub old c1 c2 a1 a2 ne hp hv hn => by
  refine ⟨m, hn, fun h' hs' => ?_⟩
  have kk0 : KeepH s.heap h' := fun b o e => hs'.extBut b o (fun q => by rw [q, c2] at e; cases e) (kk b o e)
  refine q a h' tk items kk0 a2 (hp.at fun o e => hs'.extBut _ _ ne e) (hv.mono fun b o e => ?_)
  have hne' : b ≠ Cd := fun q => by rw [q, c1] at e; cases e
  cases hb : s.heap.get? b with
  | some o' => exact ext_le hs _ _ (old b o e ⟨o', hb⟩)
  | none => rw [ext_new hb]; exact hs'.extBut b o hne' (sub b o e)

/-- the frame of a comprehension: its list and its dict -/
theorem comp_frame {d : Nat} (R : Room A d) (hG : GlobOk prog w h₀ C.G) {iter : AE} (hIter : SE prog w h₀ C A iter) {cn : List Nat} {ρ : Rho} {env : Env} {W : Wd} {s : Shared} (rd : RdOk prog w env W s.heap cn ρ)
    (hbase : Wd.le (fun b => h₀.get? b) W) (hs : Sub W s.heap) {ks : Ks} {ts : List Nat} (ok : compOk cn ks ts = true) {it : AV} {xs : List AV} (hit : aeval C iter cn ρ = some it) (hxs : iterVals it = some xs)
    {elt t : Expr} {ifs : List Expr} {rest : List Comprehension} {p : Pos} {l : List AV}
    (run : ∀ (W₁ : Wd) (hb : Heap) (I D Cd : Addr) (cl : List (Str × Addr)) (fp : List Addr) (P : Nat → Value → Prop) (St : Nat → Heap → Prop) (s₁ : Shared) (m : Str → Option Value) (RR : Result → Shared → Prop),
      W.le W₁ → KeepH s.heap hb → Sub W₁ hb → (∀ n, (n, NameKind.free) ∈ ks → cl.lookup (nm n) = env.cells.lookup (nm n)) → Walks prog w A I fp [I] xs.length P St →
      (∀ i (s : Shared) target v (Q : Unit → Shared → Prop) E, St i s.heap → Q () s → wpAny (model prog w) A (letOwnedTupleGo target (.ref I) v) Q E s) → (∀ i H, St i H → ∃ o, H.get? I = some o) →
      Cd ≠ D → I ≠ D → I ≠ Cd → CI hb W₁ Cd D [I, Cd, D] s₁.heap W₁ [] m → St 0 s₁.heap → (∀ b ∈ fp, b = I ∨ ∃ o, W₁ b = some o) → (∀ i v, P i v → ∃ x, xs[i]? = some x ∧ VR W₁ x v) →
      (∀ H tk Wk m', CI hb W₁ Cd D [Cd, D] H Wk l m' → RR (.ok .next) { s₁ with heap := H, toks := tk }) →
      codeAny (model prog w) A (.compLoop (.ListComp elt (⟨t, iter.toExpr, ifs, 0⟩ :: rest) (Ks.scope ks) p) 0 (.ref I) (.ref D) (compEnvC (Ks.scope ks) cl Cd env)) RR s₁) :
    ∀ (use : Option (Value → Sem Unit)) (Q E : Value → Shared → Prop), CPost prog w A W s l use Q E →
      wpAny (model prog w) A (comprehension (.ListComp elt (⟨t, iter.toExpr, ifs, 0⟩ :: rest) (Ks.scope ks) p) (Ks.scope ks) env (firstIterPos (⟨t, iter.toExpr, ifs, 0⟩ :: rest) p) (newList []) (firstAsync (⟨t, iter.toExpr, ifs, 0⟩ :: rest)) (firstIter (⟨t, iter.toExpr, ifs, 0⟩ :: rest) env) use) Q E s := by
  intro use Q E q
  obtain ⟨cl, hclos, hcl⟩ := closureFor_ok (env := env) (ks := ks) (cn := cn) (fun n hn => let ⟨c, a, _⟩ := rd.cell n hn; ⟨c, a⟩) (free_in ok)
  refine wpAny_comprehension_free (use := use) rfl (folded_plain iter env) hclos (ks_kind ks) (ks_local ok) ?_
  refine hIter _ _ _ _ _ _ rd hbase hs hit _ _ fun v h₁ tk₁ k₁ hv => ?_
  have hs₁ := ext_sub hs k₁
  refine iter_ok (s := { s with heap := h₁, toks := tk₁ }) R hs₁ hv hxs _ _ fun I h₂ fp P St X => ?_
  refine wpAny_newObj_type (wpAny_newFunctionEnv (ks_nocell ok) (by intro y hy; simp at hy) (fun h₄ hns hsb => ?_) (ks_kind ks))
  dsimp only at hns hsb ⊢
  generalize hH3 : h₂.push { cls := .type "list", dict := none, data := .seq ([] : List Value).toArray } = H3 at hns hsb ⊢
  have hC : H3.objs.size = h₂.objs.size + 1 := by rw [← hH3, Heap.size_push]
  have hDC : h₂.objs.size ≠ H3.objs.size := by rw [hC]; exact Nat.ne_of_lt (Nat.lt_succ_self _)
  have below : ∀ b o, h₂.get? b = some o → b ≠ H3.objs.size ∧ b ≠ h₂.objs.size := fun b o e => by
    have hb := Heap.lt_size e
    exact ⟨by rw [hC]; exact Nat.ne_of_lt (Nat.lt_succ_of_lt hb), Nat.ne_of_lt hb⟩
  have old : KeepH h₂ h₄ := fun b o e => hsb.extBut b o (below b o e).1 (Heap.get?_push_of_some _ (hH3 ▸ Heap.get?_push_of_some _ e))
  have hacc : h₄.PlainList h₂.objs.size #[] := ⟨_, hsb.extBut _ _ hDC (Heap.get?_push_of_some _ (hH3 ▸ Heap.get?_push_size _ rfl))⟩
  obtain ⟨oI, TI, hoI, hcI, hTI⟩ := X.cls 0 _ X.st
  have hIb := below I oI hoI
  have k₁₂ : KeepH h₁ h₂ := X.keep
  have fresh : ∀ a, h₂.objs.size ≤ a → h₁.get? a = none := fun a ha => by
    cases e : h₁.get? a with
    | none => rfl
    | some o => exact absurd (Heap.lt_size (k₁₂ _ _ e)) (Nat.not_lt.mpr ha)
  have hst₄ : St 0 h₄ := X.walks.frame _ _ _ X.st fun b _ o e => old b o e
  have hne : ∀ b, b ∈ [I, H3.objs.size, h₂.objs.size] → h₁.get? b = none := fun b hm => by
    rcases List.mem_cons.mp hm with rfl | hm
    · exact X.new
    · rcases List.mem_cons.mp hm with rfl | hm
      · exact fresh _ (by rw [hC]; exact Nat.le_succ _)
      · rw [List.mem_singleton.mp hm]; exact fresh _ (Nat.le_refl _)
  have W₁no : ∀ b, h₁.get? b = none → ext W s.heap h₁ b = none := fun b hb => by
    cases e : ext W s.heap h₁ b with
    | none => rfl
    | some o => rw [hs₁ _ _ e] at hb; cases hb
  obtain ⟨oC, _, _, hoC, _⟩ := id hns
  obtain ⟨nD, hoD⟩ := id hacc
  have ci : CI h₁ (ext W s.heap h₁) H3.objs.size h₂.objs.size [I, H3.objs.size, h₂.objs.size] h₄ (ext W s.heap h₁) [] (fun x => List.lookup x ([] : List (Str × Value)).reverse) :=
    ⟨k₁₂.trans old, Wd.le_refl _, fun b o e => old _ _ (k₁₂ _ _ (hs₁ _ _ e)), fun b o e _ => e, fun b hm => ⟨W₁no b (hne b hm), hne b hm⟩, fun b hm => by
      rcases List.mem_cons.mp hm with rfl | hm
      · exact ⟨_, old _ _ hoI⟩
      · rcases List.mem_cons.mp hm with rfl | hm
        · exact ⟨_, hoC⟩
        · rw [List.mem_singleton.mp hm]; exact ⟨_, hoD⟩, by simp, by simp, Ne.symm hDC, ⟨#[], hacc, .nil⟩, hns⟩
  have loop : ∀ s₃ : Shared, s₃ = { s with heap := h₄, toks := tk₁ + ([] : List (Str × Value)).length } →
      codeAny (model prog w) A (.compLoop (.ListComp elt (⟨t, iter.toExpr, ifs, 0⟩ :: rest) (Ks.scope ks) p) 0 (.ref I) (.ref h₂.objs.size) (compEnvC (Ks.scope ks) cl H3.objs.size env))
        (compPost (model prog w) A E use Q (.ref h₂.objs.size) H3.objs.size) s₃ := by
    rintro s₃ rfl
    refine run _ _ _ _ _ _ _ _ _ _ _ _ (ext_le hs) k₁ hs₁ hcl X.walks X.go (fun i H st => let ⟨o, _, a, _⟩ := X.cls i H st; ⟨o, a⟩) (Ne.symm hDC) hIb.2 hIb.1 ci hst₄ X.old X.val fun H tk Wk m' ci' => ?_
    obtain ⟨items, hp, hvs⟩ := ci'.acc
    have new0 : ∀ b, h₁.get? b = none → s.heap.get? b = none := fun b hb => by
      cases q : s.heap.get? b with
      | none => rfl
      | some o' => rw [k₁ _ _ q] at hb; cases hb
    refine q H tk Wk _ _ m' items (k₁.trans ci'.keep) ((ext_le hs).trans ci'.le) ci'.sub (fun b o e ⟨o', he⟩ => ?_) (ci'.hid _ ci'.cX).1 (new0 _ (ci'.hid _ ci'.cX).2) (ci'.hid _ ci'.dX).1 (new0 _ (ci'.hid _ ci'.dX).2) (Ne.symm ci'.ne) hp hvs ci'.ns
    have e1 := ci'.old b o e ⟨o', k₁ _ _ he⟩
    unfold ext at e1
    rw [he] at e1
    exact e1
  exact codeAny_compStart_list (loop _ rfl) (X.walks.self 0 _ _ _ hst₄ (loop _ rfl))

/-- a comprehension's soundness, with what is done with its list -/
def CS (prog : Program) (w : World) (h₀ : Heap) (C : Cfg) (A : Around) (e : AE) : Prop := ∀ (cn : List Nat) (ρ : Rho) (r : AV) (env : Env) (W : Wd) (s : Shared), RdOk prog w env W s.heap cn ρ → Wd.le (fun b => h₀.get? b) W → Sub W s.heap → aeval C e cn ρ = some r →
  ∃ l elt gens sc p, r = .lst l ∧ e.toExpr = .ListComp elt gens sc p ∧ ∀ (use : Option (Value → Sem Unit)) (Q E : Value → Shared → Prop), CPost prog w A W s l use Q E →
    wpAny (model prog w) A (comprehension e.toExpr sc env (firstIterPos gens p) (newList []) (firstAsync gens) (firstIter gens env) use) Q E s

theorem comp1_ok {d : Nat} (R : Room A d) (hG : GlobOk prog w h₀ C.G) (hbH : ∀ (W : Wd) (h : Heap), Wd.le (fun b => h₀.get? b) W → Sub W h → KeepH h₀ h) {elt : AE} {t : Tgt} {iter : AE} {ifs : AEs} {ks : Ks} {p : Pos} (hE : SE prog w h₀ C A elt) (hI : SE prog w h₀ C A iter) (hT : STs prog w h₀ C A ifs) :
    CS prog w h₀ C A (.comp elt t iter ifs ks p) := by
  intro cn ρ r env W s rd hbase hs e
  simp only [aeval] at e
  split at e
  · rename_i ok
    split at e
    · rename_i it hit
      split at e
      · rename_i xs hxs
        split at e
        · rename_i l hl
          split at e
          · rename_i hlen
            cases e
            refine ⟨l, _, _, _, _, rfl, rfl, ?_⟩
            refine comp_frame R hG hI rd hbase hs ok hit hxs fun W₁ hb I D Cd cl fp P St s₁ m RR hw kb hsb hcl wk go cls hCD hID hIC ci hst hfp hval fin => ?_
            refine loopA R hG hE hT (rd.mono hw kb) (hbase.trans hw) (hbH _ _ (hbase.trans hw) hsb) ok hcl (compEnv_ok ok cl Cd env) (compTurn_one elt t iter ifs (Ks.scope ks) p I D _) wk go cls (X := [Cd, D]) (by simp) (by simp) (by simp [hID, hIC]) ci hst hfp hval
              (ρ0 := cenv C.G ρ ks) (ts0 := []) LocOk.base (by simp) (by simp) (fun n h => h) (l := l) hl (by have := mapF_len hl; show _ ≤ 2 ^ 24; simp; omega) fun H tk Wk' m' ci' _ _ _ => ?_
            exact fin H tk Wk' m' (by simpa using ci')
          · cases e
        · cases e
      · cases e
    · cases e
  · cases e
theorem CS.new {e : AE} (x : CS prog w h₀ C A e) {cn : List Nat} {ρ : Rho} {r : AV} {env : Env} {W : Wd} {s : Shared} (rd : RdOk prog w env W s.heap cn ρ) (hb : Wd.le (fun b => h₀.get? b) W) (hs : Sub W s.heap) (h : aeval C e cn ρ = some r) :
    ∃ l, r = .lst l ∧ EvN prog w A W s (eval e.toExpr env) l := by
  obtain ⟨l, elt, gens, sc, p, rfl, he, g⟩ := x cn ρ r env W s rd hb hs h
  refine ⟨l, rfl, fun Q E q => ?_⟩
  have := g none Q E (CPost.of_new hs q)
  rw [he] at this ⊢
  exact this
theorem CS.se {e : AE} (x : CS prog w h₀ C A e) : SE prog w h₀ C A e := fun cn ρ r env W s rd hb hs h => by
  obtain ⟨l, rfl, g⟩ := x.new rd hb hs h
  exact g.ev
theorem CS.use {e : AE} (x : CS prog w h₀ C A e) {cn : List Nat} {ρ : Rho} {r : AV} {env : Env} {W : Wd} {s : Shared} (rd : RdOk prog w env W s.heap cn ρ) (hb : Wd.le (fun b => h₀.get? b) W) (hs : Sub W s.heap) (h : aeval C e cn ρ = some r) :
    ∃ l, r = .lst l ∧ ∀ (u : Value → Sem Unit) (Q : Unit → Shared → Prop) (E : Value → Shared → Prop), CPost prog w A W s l (some u) (fun _ => Q ()) E → wpAny (model prog w) A (evalThenUse e.toExpr env u) Q E s := by
  obtain ⟨l, elt, gens, sc, p, rfl, he, g⟩ := x cn ρ r env W s rd hb hs h
  refine ⟨l, rfl, fun u Q E q => ?_⟩
  have := g (some u) _ E q
  rw [he] at this ⊢
  rw [arm_evalThenUse_ListComp]
  exact wpAny_bind (wpAny_mono this (fun _ _ h => wpAny_pure h) fun _ _ h => h)
end
end Mine
namespace Mine

theorem catF_snoc {f : AV → Option (List AV)} : ∀ {a la : List AV} {x : AV} {o : List AV}, catF f a = some la → f x = some o → catF f (a ++ [x]) = some (la ++ o)
  | [], la, x, o, h, e => by
    simp only [catF, Option.some.injEq] at h
    subst h
    simp [catF, e]
  | y :: r, la, x, o, h, e => by
    simp only [catF, List.cons_append] at h ⊢
    split at h
    · cases h
    · split at h
      · rename_i l' hl
        cases h
        rw [catF_snoc hl e]
        simp
      · cases h
theorem catF_defined {f : AV → Option (List AV)} : ∀ {xs l : List AV}, catF f xs = some l → ∀ {i : Nat} {x : AV}, xs[i]? = some x → ∃ o, f x = some o
  | [], _, _, i, x, e => by simp at e
  | y :: r, l, h, i, x, e => by
    simp only [catF] at h
    cases hf : f y with
    | none => rw [hf] at h; cases h
    | some o =>
      cases i with
      | zero => simp at e; subst e; exact ⟨o, hf⟩
      | succ i =>
        simp at e
        rw [hf] at h
        simp only at h
        split at h
        · rename_i l' hl
          exact catF_defined hl e
        · cases h
theorem catF_take_le {f : AV → Option (List AV)} : ∀ (b a la l : List AV), catF f a = some la → catF f (a ++ b) = some l → la.length ≤ l.length
  | [], a, la, l, h1, h2 => by rw [List.append_nil, h1] at h2; cases h2; exact Nat.le_refl _
  | z :: b, a, la, l, h1, h2 => by
    obtain ⟨o, ho⟩ := catF_defined (i := a.length) h2 (x := z) (by simp)
    have h3 := catF_snoc h1 ho
    have h4 := catF_take_le b (a ++ [z]) _ l h3 (by simpa using h2)
    simp at h4; omega

section
variable {prog : Program} {w : World} {h₀ : Heap} {C : Cfg} {A : Around}

theorem compTurn_two (elt : AE) (t : Tgt) (iter : AE) (t2 : Tgt) (iter2 : AE) (sc : Scope) (p : Pos) (I D : Addr) (env : Env) :
    compTurn (.ListComp elt.toExpr [⟨t.toExpr, iter.toExpr, [], 0⟩, ⟨t2.toExpr, iter2.toExpr, [], 0⟩] sc p) 0 (.ref I) (.ref D) env = (do
      standAt iter.toExpr.pos
      match ← pyNext (.ref I) with
      | none => pure (.done .next)
      | some v =>
        letOwnedTupleGo t.toExpr (.ref I) v
        assign t.toExpr env v
        let x ← eval iter2.toExpr env
        standAt iter2.toExpr.pos
        let x ← foldedSetIterable iter2.toExpr env x
        let _ ← runOwn (.compStart (.ListComp elt.toExpr [⟨t.toExpr, iter.toExpr, [], 0⟩, ⟨t2.toExpr, iter2.toExpr, [], 0⟩] sc p) 1 (← holding [x] (pyIter x)) (.ref D) env) env
        again (.compLoop (.ListComp elt.toExpr [⟨t.toExpr, iter.toExpr, [], 0⟩, ⟨t2.toExpr, iter2.toExpr, [], 0⟩] sc p) 0 (.ref I) (.ref D) env)) := by rfl
theorem compTurn_in (elt : AE) (t : Tgt) (iter : AE) (t2 : Tgt) (iter2 : AE) (sc : Scope) (p : Pos) (I D : Addr) (env : Env) :
    compTurn (.ListComp elt.toExpr [⟨t.toExpr, iter.toExpr, [], 0⟩, ⟨t2.toExpr, iter2.toExpr, [], 0⟩] sc p) 1 (.ref I) (.ref D) env = (do
      standAt iter2.toExpr.pos
      match ← pyNext (.ref I) with
      | none => pure (.done .next)
      | some v =>
        letOwnedTupleGo t2.toExpr (.ref I) v
        assign t2.toExpr env v
        let ok ← testTree AEs.nil.toExprs true env
        if ok = true then
          (do let x ← eval elt.toExpr env; let _ ← call (.builtin "list.append") [.ref D, x]; pure ())
          again (.compLoop (.ListComp elt.toExpr [⟨t.toExpr, iter.toExpr, [], 0⟩, ⟨t2.toExpr, iter2.toExpr, [], 0⟩] sc p) 1 (.ref I) (.ref D) env)
        else again (.compLoop (.ListComp elt.toExpr [⟨t.toExpr, iter.toExpr, [], 0⟩, ⟨t2.toExpr, iter2.toExpr, [], 0⟩] sc p) 1 (.ref I) (.ref D) env)) := by rfl

theorem codeAny_compStart_list1 {elt : Expr} {g0 : Comprehension} {target iter : Expr} {ifs : List Expr} {rest : List Comprehension} {scope : Scope} {pos : Pos} {it acc : Value} {env : Env} {R : Result → Shared → Prop} {s : Shared}
    (h0 : codeAny (model prog w) A (.compLoop (.ListComp elt (g0 :: ⟨target, iter, ifs, 0⟩ :: rest) scope pos) 1 it acc env) R s)
    (h : wpAny (model prog w) A (pyIter it) (fun it' s' => codeAny (model prog w) A (.compLoop (.ListComp elt (g0 :: ⟨target, iter, ifs, 0⟩ :: rest) scope pos) 1 it' acc env) R s')
      (notedBy (model prog w) A env fun x s' => R (.error x) s') s) :
    codeAny (model prog w) A (.compStart (.ListComp elt (g0 :: ⟨target, iter, ifs, 0⟩ :: rest) scope pos) 1 it acc env) R s := by
  refine codeAny_of_tree ?_
  show wpAny _ _ ((compStart (.ListComp elt (g0 :: ⟨target, iter, ifs, 0⟩ :: rest) scope pos) 1 it acc env).onRaise (fun x => do noteFrame x env; standAt theWindowsPlace)) _ _ s
  refine wpAny_notedAt ?_
  unfold compStart
  show wpAny _ _ (ask >>= _) _ _ s
  refine wpAny_bind (wpAny_askSetting (wpAny_ite ?_))
  split
  · first
      | exact wpAny_bind (wpAny_pure (wpAny_pure (And.intro rfl h0)))
      | exact wpAny_pure (And.intro rfl h0)
  · first
      | exact wpAny_bind (wpAny_rule (wpAny_bind (wpAny_standAt (wpAny_bind (wpAny_mono h (fun it' s' h' => wpAny_pure (And.intro rfl h')) fun _ _ x => x)))))
      | (refine wpAny_bind (wpAny_rule ?_); show wpAny _ _ (standAt iter.pos >>= _) _ _ s; exact wpAny_bind (wpAny_standAt (wpAny_bind (wpAny_mono h (fun it' s' h' => wpAny_pure (And.intro rfl h')) fun _ _ x => x))))

theorem STs_nil : STs prog w h₀ C A .nil := fun cn ρ b env W s _ _ _ e Q E q => by
  simp only [atests, Option.some.injEq] at e
  subst e
  unfold testTree
  exact wpAny_pure (q _ s.toks (KeepH.refl _))

def elG (C : Cfg) (elt : AE) (t : Tgt) (t2 : Tgt) (iter2 : AE) (fr : List Nat) (ρ : Rho) (v : AV) : Option (List AV) :=
  match bindT t v ρ with
  | some ρ' => match aeval C iter2 fr ρ' with
    | some it2 => match iterVals it2 with
      | some ys => mapF (elF C elt t2 .nil fr ρ') ys
      | none => none
    | none => none
  | none => none

/-- the outer loop of a comprehension with two fors -/
theorem loopB {d : Nat} (R : Room A d) (hG : GlobOk prog w h₀ C.G) {elt : AE} {t t2 : Tgt} {iter iter2 : AE} (hE : SE prog w h₀ C A elt) (hI2 : SE prog w h₀ C A iter2)
    {env : Env} {W : Wd} {hb : Heap} {cn : List Nat} {ρ : Rho} (rd : RdOk prog w env W hb cn ρ) (hbase : Wd.le (fun b => h₀.get? b) W) (k0 : KeepH h₀ hb) {ks : Ks} (ok : compOk cn ks (tnames t ++ tnames t2) = true) (hdis : ∀ n ∈ tnames t2, n ∉ tnames t)
    {cl : List (Str × Addr)} (hcl : ∀ n, (n, NameKind.free) ∈ ks → cl.lookup (nm n) = env.cells.lookup (nm n)) {Cd D : Addr}
    {p : Pos} {I : Addr} {xs : List AV} {fp : List Addr} {P : Nat → Value → Prop} {St : Nat → Heap → Prop} (wk : Walks prog w A I fp [I] xs.length P St)
    (go : ∀ i (s : Shared) target v (Q : Unit → Shared → Prop) E, St i s.heap → Q () s → wpAny (model prog w) A (letOwnedTupleGo target (.ref I) v) Q E s)
    (cls : ∀ i H, St i H → ∃ o, H.get? I = some o) (hIC : I ≠ Cd) (hID : I ≠ D)
    {s : Shared} {Wk : Wd} {m : Str → Option Value} (ci : CI hb W Cd D [I, Cd, D] s.heap Wk [] m) (hst : St 0 s.heap) (hfp : ∀ b ∈ fp, b = I ∨ ∃ o, Wk b = some o) (hval : ∀ i v, P i v → ∃ x, xs[i]? = some x ∧ VR Wk x v)
    {l : List AV} (hf : catF (elG C elt t t2 iter2 (frees ks) (cenv C.G ρ ks)) xs = some l) (hsz : l.length ≤ sizeLine) {RR : Result → Shared → Prop}
    (fin : ∀ H tk Wk' m', CI hb W Cd D [Cd, D] H Wk' l m' → RR (.ok .next) { s with heap := H, toks := tk }) :
    codeAny (model prog w) A (.compLoop (.ListComp elt.toExpr [⟨t.toExpr, iter.toExpr, [], 0⟩, ⟨t2.toExpr, iter2.toExpr, [], 0⟩] (Ks.scope ks) p) 0 (.ref I) (.ref D) (compEnvC (Ks.scope ks) cl Cd env)) RR s := by
  have cx := compEnv_ok ok cl Cd env
  refine codeAny_loop rfl (fun k s' => ∃ H tk i Wk' m' li, s' = { s with heap := H, toks := tk } ∧ i ≤ xs.length ∧ k = xs.length + 1 - i ∧ St i H ∧ CI hb W Cd D [I, Cd, D] H Wk' li m' ∧ Wk.le Wk' ∧
    catF (elG C elt t t2 iter2 (frees ks) (cenv C.G ρ ks)) (xs.take i) = some li) (fun k s' hI' => ?_) (xs.length + 1)
    ⟨s.heap, s.toks, 0, Wk, m, [], rfl, Nat.zero_le _, rfl, hst, ci, Wd.le_refl _, by simp [catF]⟩
  show wpAny _ A ((compTurn (.ListComp elt.toExpr [⟨t.toExpr, iter.toExpr, [], 0⟩, ⟨t2.toExpr, iter2.toExpr, [], 0⟩] (Ks.scope ks) p) 0 (.ref I) (.ref D) (compEnvC (Ks.scope ks) cl Cd env)).onRaise (fun x => do noteFrame x (compEnvC (Ks.scope ks) cl Cd env); theTreesLotGoes x)) _ _ s'
  obtain ⟨H, tk, i, Wk', m', li, rfl, hi, rfl, hst', ci', le', hli⟩ := hI'
  refine wpAny_noted ?_
  rw [compTurn_two]
  refine wpAny_bind (wpAny_standAt (wpAny_bind ?_))
  have hI : I ∈ [I, Cd, D] := List.mem_cons_self
  have hIX := ci'.hid I hI
  have fpD : D ∉ fp := fun hm => by
    rcases hfp D hm with e | ⟨o, e⟩
    · exact hID e.symm
    · have := (ci'.hid D ci'.dX).1; rw [le' _ _ e] at this; cases this
  have fpC : Cd ∉ fp := fun hm => by
    rcases hfp Cd hm with e | ⟨o, e⟩
    · exact hIC e.symm
    · have := (ci'.hid Cd ci'.cX).1; rw [le' _ _ e] at this; cases this
  by_cases hlt : i < xs.length
  · refine wk.item i _ _ _ hlt hst' fun v h₁ tk₁ hP hst₁ hk₁ => ?_
    have hk₁' : ∀ b o, b ≠ I → H.get? b = some o → h₁.get? b = some o := fun b o hb e => hk₁ b o (by simpa using hb) e
    have ci₁ : CI hb W Cd D [I, Cd, D] h₁ Wk' li m' := ci'.touch (fun b o hb e => hk₁' b o (fun q => hb (q ▸ hI)) e) (fun b hm => by
        by_cases hb : b = I
        · subst hb; exact cls _ _ hst₁
        · obtain ⟨o, ho⟩ := ci'.here b hm; exact ⟨o, hk₁' b o hb ho⟩) (fun o e => hk₁' _ _ (Ne.symm hID) e) (ci'.ns.at' fun o e => hk₁' _ _ (Ne.symm hIC) e)
    obtain ⟨x, hx, hvr⟩ := hval i v hP
    obtain ⟨o, ho⟩ := catF_defined hf hx
    have ho' := ho
    refine wpAny_bind (go _ _ _ _ _ _ hst₁ (wpAny_bind ?_))
    unfold elG at ho
    split at ho
    · rename_i ρ' hρ'
      split at ho
      · rename_i it2 hit2
        split at ho
        · rename_i ys hys
          refine assign_ok (ks := ks) (ts := tnames t) R ⟨cx.loc, cx.kind, fun n h => cx.names n (List.mem_append.mpr (.inl h))⟩ ci₁.sub hρ' (fun n h => h) (hvr.mono le') LocOk.base ci₁.ns _ _ fun h₂ tk₂ m₂ k₂ hn₂ hl₂ hoff => ?_
          have ci₂ : CI hb W Cd D [I, Cd, D] h₂ Wk' li m₂ := ci₁.touch (fun b o hb e => k₂ b o (fun q => hb (q ▸ ci'.cX)) e) (fun b hm => by
              by_cases hb : b = Cd
              · subst hb; obtain ⟨o, _, _, e, _⟩ := hn₂; exact ⟨o, e⟩
              · obtain ⟨o, ho⟩ := ci₁.here b hm; exact ⟨o, k₂ b o hb ho⟩) (fun o e => k₂ _ _ ci'.ne.symm e) hn₂
          have hst₂ : St (i + 1) h₂ := wk.frame _ _ _ hst₁ fun b hb o e => k₂ b o (fun q => fpC (q ▸ hb)) e
          have hl₂' : LocOk m₂ Wk' (tnames t ++ tnames t2) ρ' (cenv C.G ρ ks) := fun n r e => (hl₂ n r e).imp (fun ⟨a, b⟩ => ⟨List.mem_append.mpr (.inl a), b⟩) id
          have rd₂ : RdOk prog w (compEnvC (Ks.scope ks) cl Cd env) Wk' h₂ (frees ks) ρ' := rd_comp hG rd ok hcl (hbase.trans ci₂.le) (k0.trans ci₂.keep) ci₂.le ci₂.keep hn₂ hl₂'
          have snoc : xs.take (i + 1) = xs.take i ++ [x] := by rw [List.take_add_one, hx]; rfl
          have hli' := catF_snoc hli ho'
          have hle : (li ++ o).length ≤ l.length := by
            rw [← snoc] at hli'
            exact catF_take_le (xs.drop (i + 1)) _ _ _ hli' (by rw [List.take_append_drop]; exact hf)
          refine wpAny_bind (hI2 _ _ _ _ _ _ rd₂ (hbase.trans ci₂.le) ci₂.sub hit2 _ _ fun v2 h₃ tk₃ k₃ hv2 => ?_)
          have ci₃ := ci₂.grow k₃
          have hst₃ : St (i + 1) h₃ := wk.frame _ _ _ hst₂ fun b _ o e => k₃ _ _ e
          refine wpAny_bind (wpAny_standAt ?_)
          rw [folded_plain]
          refine wpAny_bind (wpAny_pure (wpAny_bind (wpAny_holding ?_)))
          refine iter_ok (s := { s with heap := h₃, toks := tk₃ }) R ci₃.sub hv2 hys _ _ fun J h₄ fp2 P2 St2 X2 => ?_
          refine wpAny_bind (wpAny_runOwn ?_)
          have eA : A.mark none = A := rfl
          rw [eA]
          have ci₄ := ci₃.same X2.keep
          obtain ⟨oJ, TJ, hoJ, _, _⟩ := X2.cls 0 _ X2.st
          have hJX : J ∉ [I, Cd, D] := fun hm => by obtain ⟨o, ho⟩ := ci₃.here J hm; have := X2.new; rw [ho] at this; cases this
          have hJW : ext Wk' h₂ h₃ J = none := by
            cases e : ext Wk' h₂ h₃ J with
            | none => rfl
            | some o => have := X2.new; rw [ci₃.sub _ _ e] at this; cases this
          have hJb : hb.get? J = none := by
            cases e : hb.get? J with
            | none => rfl
            | some o => have := X2.new; rw [ci₃.keep _ _ e] at this; cases this
          have ci₄' : CI hb W Cd D (J :: [I, Cd, D]) h₄ (ext Wk' h₂ h₃) li m₂ := ⟨ci₄.keep, ci₄.le, ci₄.sub, ci₄.old, fun b hm => by
              rcases List.mem_cons.mp hm with rfl | hm
              · exact ⟨hJW, hJb⟩
              · exact ci₄.hid b hm, fun b hm => by
              rcases List.mem_cons.mp hm with rfl | hm
              · exact ⟨_, hoJ⟩
              · exact ci₄.here b hm, List.mem_cons_of_mem _ ci₄.cX, List.mem_cons_of_mem _ ci₄.dX, ci₄.ne, ci₄.acc, ci₄.ns⟩
          have hst₄ : St (i + 1) h₄ := wk.frame _ _ _ hst₃ fun b _ o e => X2.keep _ _ e
          have wle : Wk.le (ext Wk' h₂ h₃) := le'.trans (ext_le ci₂.sub)
          have loop : ∀ RR₂ : Result → Shared → Prop, (∀ H tk Wk'' m', CI hb W Cd D [I, Cd, D] H Wk'' (li ++ o) m' → (ext Wk' h₂ h₃).le Wk'' → (∀ b o, b ≠ Cd → b ≠ D → b ≠ J → h₄.get? b = some o → H.get? b = some o) → RR₂ (.ok .next) { s with heap := H, toks := tk }) →
              codeAny (model prog w) A (.compLoop (.ListComp elt.toExpr [⟨t.toExpr, iter.toExpr, [], 0⟩, ⟨t2.toExpr, iter2.toExpr, [], 0⟩] (Ks.scope ks) p) 1 (.ref J) (.ref D) (compEnvC (Ks.scope ks) cl Cd env)) RR₂ { s with heap := h₄, toks := tk₃ } := fun RR₂ fin2 => by
            refine loopA R hG hE STs_nil rd hbase k0 ok hcl cx (compTurn_in elt t iter t2 iter2 (Ks.scope ks) p J D _) X2.walks X2.go (fun i H st => let ⟨o, _, a, _⟩ := X2.cls i H st; ⟨o, a⟩) (X := [I, Cd, D]) ci₄.cX ci₄.dX hJX (s := { s with heap := h₄, toks := tk₃ }) ci₄' X2.st
              X2.old X2.val (ρ0 := ρ') (ts0 := tnames t) (hl₂.mono (ext_le ci₂.sub)) hdis (fun n h => List.mem_append.mpr (.inl h)) (fun n h => List.mem_append.mpr (.inr h)) (l := o) ho (by rw [List.length_append] at hle; omega) fun H tk Wk'' m'' c1 c2 _ c4 => ?_
            exact fin2 H tk Wk'' m'' c1 c2 c4
          refine codeAny_compStart_list1 (loop _ fun H tk Wk'' m'' c1 c2 c4 => ?_) (X2.walks.self 0 _ _ _ X2.st (loop _ fun H tk Wk'' m'' c1 c2 c4 => ?_))
          all_goals
            refine wpAny_pure ⟨rfl, xs.length + 1 - (i + 1), by omega, H, tk, i + 1, Wk'', m'', li ++ o, rfl, hlt, rfl, ?_, c1, wle.trans c2, ?_⟩
            · refine wk.frame _ _ _ hst₄ fun b hb o e => c4 b o (fun q => fpC (q ▸ hb)) (fun q => fpD (q ▸ hb)) (fun q => ?_) e
              subst q
              rcases hfp b hb with e' | ⟨o', e'⟩
              · exact hJX (e' ▸ hI)
              · rw [wle _ _ e'] at hJW; cases hJW
            · rw [snoc]; exact hli'
        · cases ho
      · cases ho
    · cases ho
  · obtain rfl : i = xs.length := Nat.le_antisymm hi (Nat.not_lt.mp hlt)
    refine wk.done _ _ _ hst' fun h₁ tk₁ hk₁ => wpAny_pure ?_
    have hk₁' : ∀ b o, b ≠ I → H.get? b = some o → h₁.get? b = some o := fun b o hb e => hk₁ b o (by simpa using hb) e
    have hl : li = l := by
      rw [List.take_length, hf] at hli
      exact (Option.some.inj hli).symm
    subst hl
    refine fin h₁ tk₁ Wk' m' ⟨fun b o e => hk₁' b o (fun q => ?_) (ci'.keep b o e), ci'.le, fun b o e => hk₁' b o (fun q => ?_) (ci'.sub b o e), ci'.old, fun b hb => ci'.hid b (List.mem_cons_of_mem _ hb), fun b hb => ?_, by simp, by simp, ci'.ne, ?_, ci'.ns.at' fun o e => hk₁' _ _ (Ne.symm hIC) e⟩
    · have := hIX.2; rw [← q, e] at this; cases this
    · have := hIX.1; rw [← q, e] at this; cases this
    · obtain ⟨o, ho⟩ := ci'.here b (List.mem_cons_of_mem _ hb)
      refine ⟨o, hk₁' b o (fun q => ?_) ho⟩
      subst q
      simp [hIC, hID] at hb
    · obtain ⟨items, hp, hv⟩ := ci'.acc
      exact ⟨items, hp.at fun o e => hk₁' _ _ (Ne.symm hID) e, hv⟩

theorem elF_nil (C : Cfg) (elt : AE) (t : Tgt) (fr : List Nat) (ρ : Rho) : elF C elt t .nil fr ρ = fun u => match bindT t u ρ with
    | some ρ₂ => (aeval C elt fr ρ₂).map some
    | none => none := by
  funext u
  unfold elF
  cases bindT t u ρ with
  | none => rfl
  | some ρ' => simp only [atests]

theorem comp2_ok {d : Nat} (R : Room A d) (hG : GlobOk prog w h₀ C.G) (hbH : ∀ (W : Wd) (h : Heap), Wd.le (fun b => h₀.get? b) W → Sub W h → KeepH h₀ h) {elt : AE} {t t2 : Tgt} {iter iter2 : AE} {ks : Ks} {p : Pos} (hE : SE prog w h₀ C A elt) (hI : SE prog w h₀ C A iter) (hI2 : SE prog w h₀ C A iter2) :
    CS prog w h₀ C A (.comp2 elt t iter t2 iter2 ks p) := by
  intro cn ρ r env W s rd hbase hs e
  simp only [aeval] at e
  split at e
  · rename_i ok
    simp only [Bool.and_eq_true, List.all_eq_true, Bool.not_eq_true'] at ok
    obtain ⟨ok, ok2⟩ := ok
    split at e
    · rename_i it hit
      split at e
      · rename_i xs hxs
        split at e
        · rename_i l hl
          split at e
          · rename_i hlen
            cases e
            refine ⟨l, _, _, _, _, rfl, rfl, ?_⟩
            refine comp_frame R hG hI rd hbase hs ok hit hxs fun W₁ hb I D Cd cl fp P St s₁ m RR hw kb hsb hcl wk go cls hCD hID hIC ci hst hfp hval fin => ?_
            refine loopB R hG hE hI2 (rd.mono hw kb) (hbase.trans hw) (hbH _ _ (hbase.trans hw) hsb) ok (fun n h q => ?_) hcl wk go cls hIC hID ci hst hfp hval (l := l) ?_ (by show _ ≤ 2 ^ 24; omega) fin
            · have := ok2 n h
              rw [memN_iff.mpr q] at this
              cases this
            · rw [← hl]
              exact congrFun (congrArg catF (funext fun v => by
                unfold elG
                cases bindT t v (cenv C.G ρ ks) with
                | none => rfl
                | some ρ' =>
                  first
                    | (simp only [elF_nil]; done)
                    | (simp only [elF_nil]
                       cases aeval C iter2 (frees ks) ρ' with
                       | none => rfl
                       | some it2 =>
                         dsimp only
                         cases iterVals it2 with
                         | none => rfl
                         | some ys => exact congrFun (congrArg mapF (funext fun u => by cases bindT t2 u ρ' <;> rfl)) ys))) xs
          · cases e
        · cases e
      · cases e
    · cases e
  · cases e
end
end Mine
namespace Mine

/-- a function of the program, as a law of pure values -/
def FnOK (prog : Program) (w : World) (h₀ : Heap) (d : Nat) (a : Addr) (F : List AV → Option AV) : Prop :=
  ∀ (A : Around), Room A d → ∀ (W : Wd) (s : Shared) (args : List AV) (vs : List Value) (r : AV), Wd.le (fun b => h₀.get? b) W → Sub W s.heap → VRs W args vs → F args = some r → Ev prog w A W s (call (.ref a) vs) r
/-- what is known of the program -/
structure Base (prog : Program) (w : World) (h₀ : Heap) (C : Cfg) (d : Nat) : Prop where
  glob : GlobOk prog w h₀ C.G
  fns : ∀ a F, C.fn a = some F → FnOK prog w h₀ d a F ∧ ∃ o fd, h₀.get? a = some o ∧ o.data = .func fd
  sm : ∀ c n a, C.sm c n = some a → ∀ (A : Around) (t : Sem Bool) (s : Shared) (Q : Value × List Value → Shared → Prop) (E : Value → Shared → Prop), KeepH h₀ s.heap → (∀ tk, Q (.ref a, []) { s with toks := tk }) → wpAny (model prog w) A (getMethod (.ref c) (nm n) t) Q E s

theorem Ev.mono {prog : Program} {w : World} {A : Around} {W W' : Wd} {s : Shared} {h : Heap} {t : Sem Value} {r : AV} {Q E : Value → Shared → Prop} (x : Ev prog w A W' s t r) (k : KeepH h s.heap) (hW : W' = ext W h s.heap)
    (q : ∀ v h' tk, KeepH h h' → VR (ext W h h') r v → Q v { s with heap := h', toks := tk }) : wpAny (model prog w) A t Q E s :=
  x Q E fun v h' tk k' hv => q v h' tk (k.trans k') (hv.mono (by subst hW; exact ext_ext k k'))

section
variable (prog : Program) (w : World) (h₀ : Heap) (C : Cfg) (A : Around)
def ST (e : AE) : Prop := ∀ (cn : List Nat) (ρ : Rho) (r : AV) (b : Bool) (env : Env) (W : Wd) (s : Shared), RdOk prog w env W s.heap cn ρ → Wd.le (fun b => h₀.get? b) W → Sub W s.heap → aeval C e cn ρ = some r → truth r = some b →
  EvB prog w A s (isTrue e.toExpr env (eval e.toExpr env)) b
def SEs (es : AEs) : Prop := ∀ (cn : List Nat) (ρ : Rho) (r : List AV) (env : Env) (W : Wd) (s : Shared) (p : Pos), RdOk prog w env W s.heap cn ρ → Wd.le (fun b => h₀.get? b) W → Sub W s.heap → aevals C es cn ρ = some r →
  ∀ (Q : List Value → Shared → Prop) (E : Value → Shared → Prop), (∀ vs h' tk, KeepH s.heap h' → VRs (ext W s.heap h') r vs → Q vs { s with heap := h', toks := tk }) →
    wpAny (model prog w) A (spliced (backTo p (starEach es.toExprs env))) Q E s
def SBop (op : BoolOp) (es : AEs) : Prop := ∀ (cn : List Nat) (ρ : Rho) (r : AV) (env : Env) (W : Wd) (s : Shared) (p : Pos), RdOk prog w env W s.heap cn ρ → Wd.le (fun b => h₀.get? b) W → Sub W s.heap → abop C op es cn ρ = some r →
  Ev prog w A W s (boolOp p op (evalEach es.toExprs env)) r
def SAll (op : BoolOp) (es : AEs) : Prop := ∀ (cn : List Nat) (ρ : Rho) (r : AV) (b : Bool) (env : Env) (W : Wd) (s : Shared), RdOk prog w env W s.heap cn ρ → Wd.le (fun b => h₀.get? b) W → Sub W s.heap → abop C op es cn ρ = some r → truth r = some b →
  EvB prog w A s (allTrue op es.toExprs env) b
def SOp (e : AO) : Prop := ∀ (cn : List Nat) (ρ : Rho) (r : Option Int) (env : Env) (W : Wd) (s : Shared), RdOk prog w env W s.heap cn ρ → Wd.le (fun b => h₀.get? b) W → Sub W s.heap → aopt C e cn ρ = some r →
  ∀ (Q : Value → Shared → Prop) (E : Value → Shared → Prop), (∀ v h' tk, KeepH s.heap h' → IsPart v r → Q v { s with heap := h', toks := tk }) → wpAny (model prog w) A (evalPart e.toOpt env) Q E s
end

section
variable {prog : Program} {w : World} {h₀ : Heap} {C : Cfg} {A : Around}

theorem se_cst (c : Const) (k : Nat) (p : Pos) : SE prog w h₀ C A (.cst c k p) := by
  intro cn ρ r env W s rd hb hs e Q E q
  simp only [aeval] at e
  simp only [AE.toExpr]
  split at e
  · cases e; exact wpAny_Constant_none (q _ s.heap s.toks (KeepH.refl _) .none)
  · cases e; exact wpAny_Constant_bool (q _ s.heap s.toks (KeepH.refl _) (.bool _))
  · cases e; exact fun _ _ _ => q _ s.heap _ (KeepH.refl _) (.int _ _)
  · cases e; exact wpAny_Constant_str (q _ s.heap _ (KeepH.refl _) (.str _ _))
  · cases e
theorem se_nm (n : Nat) (p : Pos) : SE prog w h₀ C A (.nm n p) := by
  intro cn ρ r env W s rd hb hs e Q E q
  simp only [aeval] at e
  obtain ⟨v, hv, hd, hl⟩ := rd.val n r e
  simp only [AE.toExpr]
  exact wpAny_Name (hl A Q E s (KeepH.refl _) (q v s.heap s.toks (KeepH.refl _) (hv.mono (ext_le hs)))) (by simpa using hd)

theorem noMarks (op : CmpOp) (e : AE) : behindInMarks op e.toExpr = false := by cases e <;> rfl

theorem two_ok {l r : AE} (hl : SE prog w h₀ C A l) (hr : SE prog w h₀ C A r) {cn : List Nat} {ρ : Rho} {a b : AV} {env : Env} {W : Wd} {s : Shared} (rd : RdOk prog w env W s.heap cn ρ) (hb : Wd.le (fun b => h₀.get? b) W) (hs : Sub W s.heap)
    (ea : aeval C l cn ρ = some a) (eb : aeval C r cn ρ = some b) {α : Type} {t : Value → Value → Sem α} {Q : α → Shared → Prop} {E : Value → Shared → Prop}
    (q : ∀ va vb h' tk, KeepH s.heap h' → VR (ext W s.heap h') a va → VR (ext W s.heap h') b vb → wpAny (model prog w) A (t va vb) Q E { s with heap := h', toks := tk }) :
    wpAny (model prog w) A (eval l.toExpr env) (fun x s₁ => wpAny (model prog w) A (eval r.toExpr env) (fun y s₂ => wpAny (model prog w) A (t x y) Q E s₂) E s₁) E s := by
  refine hl _ _ _ _ _ _ rd hb hs ea _ _ fun va h₁ tk₁ k₁ ha => ?_
  refine hr _ _ _ _ _ { s with heap := h₁, toks := tk₁ } (rd.mono (ext_le hs) k₁) (hb.trans (ext_le hs)) (ext_sub hs k₁) eb _ _ fun vb h₂ tk₂ k₂ hbv => ?_
  exact q va vb h₂ tk₂ (k₁.trans k₂) (ha.mono (ext_mono k₂)) (hbv.mono (ext_ext k₁ k₂))

theorem Ev.after {W : Wd} {s : Shared} {h : Heap} {tk : Nat} {t : Sem Value} {r : AV} (k : KeepH s.heap h) (x : Ev prog w A (ext W s.heap h) { s with heap := h, toks := tk } t r) {Q E : Value → Shared → Prop}
    (q : ∀ v h' tk, KeepH s.heap h' → VR (ext W s.heap h') r v → Q v { s with heap := h', toks := tk }) : wpAny (model prog w) A t Q E { s with heap := h, toks := tk } :=
  x Q E fun v h' tk' k' hv => q v h' tk' (k.trans k') (hv.mono (ext_ext k k'))

theorem se_bin {l r : AE} (op : Operator) (p : Pos) (hl : SE prog w h₀ C A l) (hr : SE prog w h₀ C A r) : SE prog w h₀ C A (.bin l op r p) := by
  intro cn ρ v env W s rd hb hs e Q E q
  simp only [aeval] at e
  split at e
  · rename_i a ea
    split at e
    · rename_i b eb
      simp only [AE.toExpr]
      exact wpAny_BinOp (two_ok hl hr rd hb hs ea eb fun va vb h' tk k ha hbv => (binAV_ok (ext_sub hs k) ha hbv e).after k q)
    · cases e
  · cases e
theorem se_cmp {d : Nat} (R : Room A d) {l r : AE} (op : CmpOp) (p : Pos) (hl : SE prog w h₀ C A l) (hr : SE prog w h₀ C A r) : SE prog w h₀ C A (.cmp l op r p) := by
  intro cn ρ v env W s rd hb hs e Q E q
  simp only [aeval] at e
  split at e
  · rename_i a ea
    split at e
    · rename_i b eb
      simp only [AE.toExpr]
      exact wpAny_Compare1 (two_ok hl hr rd hb hs ea eb fun va vb h' tk k ha hbv => (cmpAV_ok R (ext_sub hs k) ha hbv e).after k q) (noMarks _ _)
    · cases e
  · cases e
theorem st_cmp {d : Nat} (R : Room A d) {l r : AE} (op : CmpOp) (p : Pos) (hl : SE prog w h₀ C A l) (hr : SE prog w h₀ C A r) : ST prog w h₀ C A (.cmp l op r p) := by
  intro cn ρ v bb env W s rd hb hs e et Q E q
  simp only [aeval] at e
  split at e
  · rename_i a ea
    split at e
    · rename_i b eb
      simp only [AE.toExpr]
      refine wpAny_isTrue_Compare1 (two_ok hl hr rd hb hs ea eb (t := fun a b => compareOp op a b) (Q := fun c s₃ => wpAny (model prog w) A (truthy c) Q E s₃) fun va vb h' tk k ha hbv => (cmpAV_ok R (ext_sub hs k) ha hbv e).after k fun c h'' tk' k' hc => ?_) (noMarks _ _)
      exact truth_ok (ext_sub hs k') hc et _ _ fun tk => q _ _ k'
    · cases e
  · cases e
theorem st_of {e : AE} (h : SE prog w h₀ C A e) (he : ∀ env whole, isTrue e.toExpr env whole = (do let v ← whole; standAt e.toExpr.pos; holding [v] (truthy v))) : ST prog w h₀ C A e := by
  intro cn ρ v bb env W s rd hb hs e' et Q E q
  exact wpAny_isTrue_value (h _ _ _ _ _ _ rd hb hs e' _ _ fun c h' tk k hc => truth_ok (ext_sub hs k) hc et _ _ fun tk => q _ _ k) (he _ _)
theorem se_neg {x : AE} (p : Pos) (hx : SE prog w h₀ C A x) : SE prog w h₀ C A (.neg x p) := by
  intro cn ρ v env W s rd hb hs e Q E q
  simp only [aeval] at e
  split at e
  · rename_i i ea
    cases e
    simp only [AE.toExpr]
    refine wpAny_UnaryOp (hx _ _ _ _ _ _ rd hb hs ea _ _ fun c h' tk k hc => ?_)
    cases hc
    exact neg_int (q _ h' _ k (.int _ _))
  · cases e
theorem se_nt {x : AE} (p : Pos) (hx : SE prog w h₀ C A x) : SE prog w h₀ C A (.nt x p) := by
  intro cn ρ v env W s rd hb hs e Q E q
  simp only [aeval] at e
  split at e
  · rename_i a ea
    simp only [Option.map_eq_some_iff] at e
    obtain ⟨b, eb, rfl⟩ := e
    simp only [AE.toExpr]
    refine wpAny_UnaryOp (hx _ _ _ _ _ _ rd hb hs ea _ _ fun c h' tk k hc => ?_)
    exact not_value (truth_ok (ext_sub hs k) hc eb _ _ fun tk => q _ h' tk k (.bool _))
  · cases e
theorem st_nt {x : AE} (p : Pos) (hx : ST prog w h₀ C A x) : ST prog w h₀ C A (.nt x p) := by
  intro cn ρ v bb env W s rd hb hs e et Q E q
  simp only [aeval] at e
  split at e
  · rename_i a ea
    simp only [Option.map_eq_some_iff] at e
    obtain ⟨b, eb, rfl⟩ := e
    simp only [truth, Option.some.injEq] at et
    subst et
    simp only [AE.toExpr]
    exact wpAny_isTrue_Not (hx _ _ _ _ _ _ _ rd hb hs ea eb _ _ fun h' tk k => q h' tk k)
  · cases e
theorem ext_id {W : Wd} {s : Shared} {h : Heap} (hs : Sub W s.heap) (k : KeepH s.heap h) : (ext W h h).le (ext W s.heap h) := fun b o e => (ext_le hs) _ _ (ext_self (fun b o e => k _ _ (hs _ _ e)) _ _ e)
theorem se_again {e : AE} (h : SE prog w h₀ C A e) {cn : List Nat} {ρ : Rho} {r : AV} {env : Env} {W : Wd} {s : Shared} {h₁ : Heap} {tk : Nat} (k : KeepH s.heap h₁) (rd : RdOk prog w env W s.heap cn ρ) (hb : Wd.le (fun b => h₀.get? b) W) (hs : Sub W s.heap) (ea : aeval C e cn ρ = some r)
    {Q E : Value → Shared → Prop} (q : ∀ v h' tk, KeepH s.heap h' → VR (ext W s.heap h') r v → Q v { s with heap := h', toks := tk }) : wpAny (model prog w) A (eval e.toExpr env) Q E { s with heap := h₁, toks := tk } :=
  (h _ _ _ _ _ { s with heap := h₁, toks := tk } (rd.mono (ext_le hs) k) (hb.trans (ext_le hs)) (ext_sub hs k) ea).after k q
theorem st_again {e : AE} (h : ST prog w h₀ C A e) {cn : List Nat} {ρ : Rho} {r : AV} {b : Bool} {env : Env} {W : Wd} {s : Shared} {h₁ : Heap} {tk : Nat} (k : KeepH s.heap h₁) (rd : RdOk prog w env W s.heap cn ρ) (hb : Wd.le (fun b => h₀.get? b) W) (hs : Sub W s.heap) (ea : aeval C e cn ρ = some r) (eb : truth r = some b)
    {Q : Bool → Shared → Prop} {E : Value → Shared → Prop} (q : ∀ h' tk, KeepH s.heap h' → Q b { s with heap := h', toks := tk }) : wpAny (model prog w) A (isTrue e.toExpr env (eval e.toExpr env)) Q E { s with heap := h₁, toks := tk } :=
  h _ _ _ _ _ _ { s with heap := h₁, toks := tk } (rd.mono (ext_le hs) k) (hb.trans (ext_le hs)) (ext_sub hs k) ea eb _ _ fun h' tk' k' => q h' tk' (k.trans k')

theorem se_ife {t x y : AE} (p : Pos) (ht : ST prog w h₀ C A t) (hx : SE prog w h₀ C A x) (hy : SE prog w h₀ C A y) : SE prog w h₀ C A (.ife t x y p) := by
  intro cn ρ v env W s rd hb hs e Q E q
  simp only [aeval] at e
  split at e
  · rename_i a ea
    simp only [AE.toExpr]
    split at e
    · rename_i eb
      refine wpAny_IfExp (ht _ _ _ _ _ _ _ rd hb hs ea eb _ _ fun h' tk k => ?_)
      rw [if_pos rfl]
      exact se_again hx k rd hb hs e q
    · rename_i eb
      refine wpAny_IfExp (ht _ _ _ _ _ _ _ rd hb hs ea eb _ _ fun h' tk k => ?_)
      rw [if_neg (by decide)]
      exact se_again hy k rd hb hs e q
    · cases e
  · cases e
theorem st_ife {t x y : AE} (p : Pos) (ht : ST prog w h₀ C A t) (hx : ST prog w h₀ C A x) (hy : ST prog w h₀ C A y) : ST prog w h₀ C A (.ife t x y p) := by
  intro cn ρ v bb env W s rd hb hs e et Q E q
  simp only [aeval] at e
  split at e
  · rename_i a ea
    simp only [AE.toExpr]
    rw [arm_isTrue_IfExp]
    split at e
    · rename_i eb
      refine wpAny_bind (ht _ _ _ _ _ _ _ rd hb hs ea eb _ _ fun h' tk k => ?_)
      exact st_again hx k rd hb hs e et q
    · rename_i eb
      refine wpAny_bind (ht _ _ _ _ _ _ _ rd hb hs ea eb _ _ fun h' tk k => ?_)
      exact st_again hy k rd hb hs e et q
    · cases e
  · cases e

theorem keep_none {h h' : Heap} (k : KeepH h h') {a : Addr} (e : h'.get? a = none) : h.get? a = none := by
  cases q : h.get? a with
  | none => rfl
  | some o => rw [k _ _ q] at e; cases e
theorem vrs_seq {h h' : Heap} {W : Wd} {r : List AV} {vs : List Value} (hv : VRs (ext W h h') r vs) : VRs (ext W h h') r vs.toArray.toList := by simpa using hv
theorem se_lst {es : AEs} (p : Pos) (hes : SEs prog w h₀ C A es) : SE prog w h₀ C A (.lst es p) := by
  intro cn ρ v env W s rd hb hs e Q E q
  simp only [aeval] at e
  split at e
  · rename_i vs evs
    split at e
    · rename_i hlen
      cases e
      simp only [AE.toExpr]
      refine wpAny_List (hes _ _ _ _ _ _ p rd hb hs evs _ _ fun us h' tk k hv => ⟨?_, ?_⟩)
      · have := VRs.length hv; show us.length ≤ 2 ^ 24; omega
      · refine q _ _ _ (k.trans (KeepH.push _ _)) (vr_new_list (keep_none k (fresh_size h')) (Heap.get?_push_size _ rfl) (VRs.mono (ext_mono (KeepH.push _ _)) (vrs_seq hv)))
    · cases e
  · cases e
theorem se_tup {es : AEs} (k : Nat) (p : Pos) (hes : SEs prog w h₀ C A es) : SE prog w h₀ C A (.tup es k p) := by
  intro cn ρ v env W s rd hb hs e Q E q
  simp only [aeval] at e
  split at e
  · rename_i vs evs
    split at e
    · rename_i hlen
      cases e
      simp only [AE.toExpr]
      refine wpAny_Tuple (hes _ _ _ _ _ _ p rd hb hs evs _ _ fun us h' tk k hv => ⟨?_, ?_⟩)
      · have := VRs.length hv; show us.length ≤ 2 ^ 24; omega
      · refine q _ _ _ (k.trans (KeepH.push _ _)) (vr_new_tuple (keep_none k (fresh_size h')) (Heap.get?_push_size _ rfl) (VRs.mono (ext_mono (KeepH.push _ _)) (vrs_seq hv)))
    · cases e
  · cases e
end
end Mine
namespace Mine
section
variable {prog : Program} {w : World} {h₀ : Heap} {C : Cfg} {A : Around}

theorem se_sub {x y : AE} (p : Pos) (hx : SE prog w h₀ C A x) (hy : SE prog w h₀ C A y) : SE prog w h₀ C A (.sub x y p) := by
  intro cn ρ v env W s rd hb hs e Q E q
  simp only [aeval] at e
  split at e
  · rename_i a ea
    split at e
    · rename_i b eb
      simp only [AE.toExpr]
      refine Subscript_ (two_ok hx hy rd hb hs ea eb (t := fun a b => subscriptTail x.toExpr y.toExpr a b) fun va vb h' tk k ha hbv => (sub_ok (ext_sub hs k) ha hbv e ?_).after k q)
      intro a b c d
      cases y <;> exact fun h => by cases h
    · cases e
  · cases e

theorem slc_new {x : AE} {lo hi : AO} (r p : Pos) (hx : SE prog w h₀ C A x) (hlo : SOp prog w h₀ C A lo) (hhi : SOp prog w h₀ C A hi) {cn : List Nat} {ρ : Rho} {v : AV} {env : Env} {W : Wd} {s : Shared} (rd : RdOk prog w env W s.heap cn ρ) (hb : Wd.le (fun b => h₀.get? b) W) (hs : Sub W s.heap)
    (e : aeval C (.slc x lo hi r p) cn ρ = some v) : ∃ l, v = .lst l ∧ EvN prog w A W s (eval (AE.slc x lo hi r p).toExpr env) l := by
  simp only [aeval] at e
  split at e
  · rename_i xs ea
    split at e
    · rename_i l el
      split at e
      · rename_i u eu
        split at e
        · rename_i hlen
          cases e
          refine ⟨_, rfl, fun Q E q => ?_⟩
          simp only [AE.toExpr]
          refine Subscript_ (hx _ _ _ _ _ _ rd hb hs ea _ _ fun va h₁ tk₁ k₁ ha => wpAny_Slice ?_)
          refine hlo _ _ _ _ _ { s with heap := h₁, toks := tk₁ } (rd.mono (ext_le hs) k₁) (hb.trans (ext_le hs)) (ext_sub hs k₁) el _ _ fun vl h₂ tk₂ k₂ pl => ?_
          have k₁₂ := k₁.trans k₂
          refine hhi _ _ _ _ _ { s with heap := h₂, toks := tk₂ } (rd.mono (ext_le hs) k₁₂) (hb.trans (ext_le hs)) (ext_sub hs k₁₂) eu _ _ fun vu h₃ tk₃ k₃ pu => ?_
          have k₁₃ := k₁₂.trans k₃
          rw [evalPart_none]
          refine wpAny_pure ?_
          obtain ⟨a, o, items, n, rfl, e1, c1, d1, r1⟩ := inv_lst ha
          have hl : h₃.IsList a items := isList_of (ext_sub hs k₁₃) (ext_mono (k₂.trans k₃) _ _ e1) c1 d1
          have hsz := VRs.length r1
          simp only [Array.length_toList] at hsz
          refine tail_any (hl.push _).typeIs list_getitem_lookup (wpAny_getItem_list_slice (hl.push _) (Heap.IsSliceOf.new ..) pl pu .none (by simp) ?_ (by show _ ≤ 2 ^ 24; omega)) (ops := [.ref h₃.objs.size, .ref a]) rfl
          have kk := k₁₃.trans ((KeepH.push h₃ { cls := .type "slice", data := .fields #[vl, vu, .none] }).trans (KeepH.push _ { cls := .type "list", data := .seq (slicePick items l u none) }))
          refine q _ _ _ _ kk (keep_none (k₁₃.trans (KeepH.push _ _)) (fresh_size _)) ⟨_, Heap.get?_push_size _ rfl⟩ (pick_VRs (VRs.mono (ext_mono ?_) r1) l u)
          exact (k₂.trans k₃).trans ((KeepH.push _ _).trans (KeepH.push _ _))
        · cases e
      · cases e
    · cases e
  · cases e
theorem se_slc {x : AE} {lo hi : AO} (r p : Pos) (hx : SE prog w h₀ C A x) (hlo : SOp prog w h₀ C A lo) (hhi : SOp prog w h₀ C A hi) : SE prog w h₀ C A (.slc x lo hi r p) := by
  intro cn ρ v env W s rd hb hs e
  obtain ⟨l, rfl, g⟩ := slc_new r p hx hlo hhi rd hb hs e
  exact g.ev

theorem plainArgs (p : Pos) (env : Env) : ∀ es : AEs, (backTo p (starEach es.toExprs env)).any (·.1) = false
  | .nil => rfl
  | .cons e es => by
    have h : starEach (AEs.cons e es).toExprs env = (false, eval e.toExpr env) :: starEach es.toExprs env := by cases e <;> rfl
    rw [h]
    exact plainArgs p env es
theorem evalArgs_of (p : Pos) (env : Env) (es : AEs) (f : Value) {M : Model} {s : Shared} {Q : Args → Shared → Prop} {E : Value → Shared → Prop} (h : wpAny M A (spliced (backTo p (starEach es.toExprs env))) (fun vs s' => Q ⟨vs, []⟩ s') E s) :
    wpAny M A (evalArgs f true (backTo p (starEach es.toExprs env)) []) Q E s := by
  cases es with
  | nil =>
    have h2 : wpAny M A (spliced []) (fun vs s' => Q ⟨vs, []⟩ s') E s := h
    show wpAny M A (evalArgs f true [] []) Q E s
    unfold evalArgs
    show wpAny M A (spliced [] >>= _) Q E s
    refine wpAny_bind (wpAny_mono h2 (fun vs s' h' => ?_) fun _ _ x => x)
    refine wpAny_bind (wpAny_pure ?_)
    refine wpAny_holding ?_
    exact wpAny_bind (wpAny_pure (wpAny_bind (wpAny_pure (wpAny_pure h'))))
  | cons e es =>
    have h' : starEach (AEs.cons e es).toExprs env = (false, eval e.toExpr env) :: starEach es.toExprs env := by cases e <;> rfl
    rw [h'] at h ⊢
    exact Calls.evalArgs_plain h

theorem args_again {es : AEs} (h : SEs prog w h₀ C A es) {cn : List Nat} {ρ : Rho} {r : List AV} {env : Env} {W : Wd} {s : Shared} {h₁ : Heap} {tk : Nat} {p : Pos} (k : KeepH s.heap h₁) (rd : RdOk prog w env W s.heap cn ρ) (hb : Wd.le (fun b => h₀.get? b) W) (hs : Sub W s.heap) (ea : aevals C es cn ρ = some r)
    {Q : List Value → Shared → Prop} {E : Value → Shared → Prop} (q : ∀ vs h' tk, KeepH s.heap h' → VRs (ext W s.heap h') r vs → Q vs { s with heap := h', toks := tk }) : wpAny (model prog w) A (spliced (backTo p (starEach es.toExprs env))) Q E { s with heap := h₁, toks := tk } :=
  h _ _ _ _ _ { s with heap := h₁, toks := tk } p (rd.mono (ext_le hs) k) (hb.trans (ext_le hs)) (ext_sub hs k) ea _ _ fun vs h' tk' k' hv => q vs h' tk' (k.trans k') (VRs.mono (ext_ext k k') hv)

/-- a call of a function of the program -/
theorem callFn_ok {d : Nat} (R : Room A d) (B : Base prog w h₀ C d) {es : AEs} (hes : SEs prog w h₀ C A es) {a : Addr} {F : List AV → Option AV} (ha : C.fn a = some F) {cn : List Nat} {ρ : Rho} {vs : List AV} {r : AV} {env : Env} {W : Wd} {s : Shared} {h₁ : Heap} {tk : Nat} {p : Pos}
    (k : KeepH s.heap h₁) (rd : RdOk prog w env W s.heap cn ρ) (hb : Wd.le (fun b => h₀.get? b) W) (hs : Sub W s.heap) (ea : aevals C es cn ρ = some vs) (er : F vs = some r)
    {Q E : Value → Shared → Prop} (q : ∀ v h' tk, KeepH s.heap h' → VR (ext W s.heap h') r v → Q v { s with heap := h', toks := tk }) :
    wpAny (model prog w) A (callWith p (.ref a) [] (backTo p (starEach es.toExprs env)) []) Q E { s with heap := h₁, toks := tk } := by
  obtain ⟨hf, o, fd, ho, hd⟩ := B.fns a F ha
  refine Calls.callWith_function (o := o) (fd := fd) (evalArgs_of p env es _ (args_again hes k rd hb hs ea fun us h' tk' k' hv => ⟨⟨?_, hd⟩, ?_⟩))
  · exact k' _ _ (hs _ _ (hb _ _ ho))
  · exact (hf A R _ { s with heap := h', toks := tk' } _ _ _ (hb.trans (ext_le hs)) (ext_sub hs k') hv er).after k' q

theorem se_call {d : Nat} (R : Room A d) (B : Base prog w h₀ C d) {es : AEs} (f : Nat) (fp p : Pos) (hes : SEs prog w h₀ C A es) : SE prog w h₀ C A (.call f fp es p) := by
  intro cn ρ v env W s rd hb hs e Q E q
  simp only [aeval] at e
  simp only [AE.toExpr]
  have load : ∀ (r : AV), look ρ f = some r → ∀ (Q : Value → Shared → Prop) (E : Value → Shared → Prop), (∀ u, VR (ext W s.heap s.heap) r u → Q u s) → wpAny (model prog w) A (eval (.Name (nm f) fp) env) Q E s := fun r hr Q E q => by
    obtain ⟨u, hu, hd, hl⟩ := rd.val f r hr
    exact wpAny_Name (hl A Q E s (KeepH.refl _) (q u (hu.mono (ext_le hs)))) (by simpa using hd)
  have kw : ∀ p : Pos, backToKw p (keywordEach [] env) = [] := fun _ => rfl
  split at e
  · rename_i k hk
    split at e
    · rename_i vs ea
      refine wpAny_Call_ofName (load _ hk _ _ fun u hu => ?_)
      rw [kw]
      cases hu
      have fin : wpAny (model prog w) A (spliced (backTo p (starEach es.toExprs env))) (fun us s' => wpAny (model prog w) A (call k.val us) Q E s') E s :=
        args_again (s := s) (h₁ := s.heap) (tk := s.toks) hes (KeepH.refl _) rd hb hs ea fun us h' tk k' hv => (biAV_ok R (ext_sub hs k') hv e).after k' q
      cases k <;> first
        | exact Calls.callWith_builtin (plainArgs p env es) (evalArgs_of p env es _ fin)
        | exact PySem.callWith_type (plainArgs p env es) (evalArgs_of p env es _ fin)
    · cases e
  · rename_i a hk
    split at e
    · rename_i vs ea
      split at e
      · rename_i F hF
        refine wpAny_Call_ofName (load _ hk _ _ fun u hu => ?_)
        rw [kw]
        cases hu
        exact callFn_ok (s := s) (h₁ := s.heap) (tk := s.toks) R B hes hF (KeepH.refl _) rd hb hs ea e q
      · cases e
    · cases e
  · cases e

theorem nargs_len (env : Env) : ∀ (es : AEs) (n : Nat), nargs es n = true → es.toExprs.length ≤ n
  | .nil, n, _ => Nat.zero_le _
  | .cons e es, 0, h => by simp [nargs] at h
  | .cons e es, n + 1, h => by
    simp only [nargs] at h
    have := nargs_len env es n h
    simp only [AEs.toExprs, List.length_cons]
    omega
theorem se_sm {d : Nat} (R : Room A d) (B : Base prog w h₀ C d) {es : AEs} (o : Nat) (op : Pos) (name : Nat) (ap p : Pos) (hes : SEs prog w h₀ C A es) : SE prog w h₀ C A (.sm o op name ap es p) := by
  intro cn ρ v env W s rd hb hs e Q E q
  simp only [aeval] at e
  split at e
  · rename_i c hc
    split at e
    · rename_i a ha
      split at ha
      · rename_i hcond
        simp only [Bool.and_eq_true] at hcond
        obtain ⟨hline, hn⟩ := hcond
        split at e
        · rename_i vs ea
          split at e
          · rename_i F hF
            simp only [AE.toExpr]
            obtain ⟨u, hu, hd, hl⟩ := rd.val o _ hc
            have hform : methodCallForm (es.toExprs.length + 0) (backTo p (starEach es.toExprs env)) [] = true := by
              have h1 := nargs_len env es 20 hn
              have h2 := plainArgs p env es
              unfold methodCallForm
              have h3 : (backTo p (starEach es.toExprs env)).all (!·.1) = true := by
                rw [List.all_eq_true]
                intro x hx
                have := List.any_eq_false.mp h2 x hx
                simpa using this
              rw [h3]
              simp only [List.all_nil, Bool.true_and, List.isEmpty_nil, if_true, decide_eq_true_eq]
              omega
            show wpAny _ _ (do
              let ov ← attributeBase (.Name (nm o) op) (nm name) env (eval (.Name (nm o) op) env)
              standAt ap.atName
              methodCall (.Name (nm o) op) (nm name) ap p env ov (es.toExprs.length + 0) (backTo p (starEach es.toExprs env)) []) _ _ _
            refine wpAny_bind ?_
            show wpAny _ _ (eval (.Name (nm o) op) env) _ _ _
            refine wpAny_Name (hl A _ E s (KeepH.refl _) ?_) (by simpa using hd)
            cases hu
            refine wpAny_bind (wpAny_standAt ?_)
            unfold methodCall
            rw [hform]
            refine wpAny_bind (wpAny_holding ?_)
            show wpAny _ _ (getMethod (.ref c) (nm name) _) _ _ _
            refine B.sm _ _ _ ha A _ s _ _ (fun b o e => hs _ _ (hb _ _ e)) fun tk => ?_
            have hpos : methodCallPos true (.Name (nm o) op) env ap p = pure p := by
              unfold methodCallPos
              have : (ap.endLine == p.line) = true := by simpa using Nat.eq_of_beq_eq_true hline
              rw [this]
              rfl
            show wpAny _ _ (methodCallPos true _ env ap p >>= _) _ _ _
            rw [hpos]
            refine wpAny_bind (wpAny_pure ?_)
            exact callFn_ok (s := s) (h₁ := s.heap) (tk := tk) R B hes hF (KeepH.refl _) rd hb hs ea e q
          · cases e
        · cases e
      · cases ha
    · cases e
  · cases e
end
end Mine
namespace Mine
section
variable {prog : Program} {w : World} {h₀ : Heap} {C : Cfg} {A : Around}

theorem ses_nil : SEs prog w h₀ C A .nil := by
  intro cn ρ r env W s p rd hb hs e Q E q
  simp only [aevals, Option.some.injEq] at e
  subst e
  exact Calls.spliced_nil (q [] s.heap s.toks (KeepH.refl _) .nil)
theorem ses_cons {e : AE} {es : AEs} (he : SE prog w h₀ C A e) (hes : SEs prog w h₀ C A es) : SEs prog w h₀ C A (.cons e es) := by
  intro cn ρ r env W s p rd hb hs ev Q E q
  simp only [aevals] at ev
  split at ev
  · rename_i v e1
    split at ev
    · rename_i vs e2
      cases ev
      refine spliced_more (he _ _ _ _ _ _ rd hb hs e1 _ _ fun u h₁ tk k hu => ?_) (by show starEach (AEs.cons e es).toExprs env = _; cases e <;> rfl)
      refine hes _ _ _ _ _ { s with heap := h₁, toks := tk } p (rd.mono (ext_le hs) k) (hb.trans (ext_le hs)) (ext_sub hs k) e2 _ _ fun us h' tk' k' hv => ?_
      exact q _ h' tk' (k.trans k') (.cons (hu.mono (ext_mono k')) (VRs.mono (ext_ext k k') hv))
    · cases ev
  · cases ev
theorem sop_none : SOp prog w h₀ C A .none := by
  intro cn ρ r env W s rd hb hs e Q E q
  simp only [aopt, Option.some.injEq] at e
  subst e
  exact evalPart_none_step (q _ s.heap s.toks (KeepH.refl _) .none)
theorem sop_some {e : AE} (he : SE prog w h₀ C A e) : SOp prog w h₀ C A (.some e) := by
  intro cn ρ r env W s rd hb hs ev Q E q
  simp only [aopt] at ev
  split at ev
  · rename_i i e1
    cases ev
    exact evalPart_some_step (he _ _ _ _ _ _ rd hb hs e1 _ _ fun u h₁ tk k hu => by cases hu; exact q _ _ _ k (.int _ _))
  · rename_i e1
    cases ev
    exact evalPart_some_step (he _ _ _ _ _ _ rd hb hs e1 _ _ fun u h₁ tk k hu => by cases hu; exact q _ _ _ k .none)
  · cases ev
theorem sts_cons {e : AE} {es : AEs} (he : ST prog w h₀ C A e) (hes : STs prog w h₀ C A es) : STs prog w h₀ C A (.cons e es) := by
  intro cn ρ b env W s rd hb hs ev Q E q
  simp only [atests] at ev
  split at ev
  · rename_i v e1
    have go : ∀ t, truth v = some t → (∀ (h' : Heap) (tk : Nat), KeepH s.heap h' → wpAny (model prog w) A (testTree es.toExprs t env) Q E { s with heap := h', toks := tk }) → wpAny (model prog w) A (testTree (AEs.cons e es).toExprs true env) Q E s := fun t ht hq => by
      show wpAny (model prog w) A (forIn (e.toExpr :: es.toExprs) true _) Q E s
      rw [List.forIn_cons]
      simp only [if_true]
      refine wpAny_bind (wpAny_bind (he _ _ _ _ _ _ _ rd hb hs e1 ht _ _ fun h' tk k => wpAny_pure ?_))
      exact hq h' tk k
    split at ev
    · rename_i ht
      refine go _ ht fun h' tk k => ?_
      exact hes _ _ _ _ _ { s with heap := h', toks := tk } (rd.mono (ext_le hs) k) (hb.trans (ext_le hs)) (ext_sub hs k) ev _ _ fun h'' tk' k' => q h'' tk' (k.trans k')
    · rename_i ht
      cases ev
      exact go _ ht fun h' tk k => testTree_false env _ _ _ _ (q h' tk k)
    · cases ev
  · cases ev

theorem sbop_one {op : BoolOp} {e : AE} (he : SE prog w h₀ C A e) : SBop prog w h₀ C A op (.cons e .nil) := by
  intro cn ρ r env W s p rd hb hs ev
  simp only [abop] at ev
  exact he _ _ _ _ _ _ rd hb hs ev
theorem sbop_cons {op : BoolOp} {e e' : AE} {es : AEs} (he : SE prog w h₀ C A e) (hes : SBop prog w h₀ C A op (.cons e' es)) : SBop prog w h₀ C A op (.cons e (.cons e' es)) := by
  intro cn ρ r env W s p rd hb hs ev Q E q
  simp only [abop] at ev
  split at ev
  · rename_i v e1
    split at ev
    · rename_i t ht
      show wpAny (model prog w) A (do
        let v ← eval e.toExpr env
        standAt p
        let t ← holding [v] (truthy v)
        match op, t with
        | .And, false | .Or, true => pure v
        | _, _ => boolOp p op (evalEach (AEs.cons e' es).toExprs env)) Q E s
      have again : ∀ h' tk, KeepH s.heap h' → abop C op (.cons e' es) cn ρ = some r → wpAny (model prog w) A (boolOp p op (evalEach (AEs.cons e' es).toExprs env)) Q E { s with heap := h', toks := tk } := fun h' tk k ev =>
        (hes _ _ _ _ _ { s with heap := h', toks := tk } p (rd.mono (ext_le hs) k) (hb.trans (ext_le hs)) (ext_sub hs k) ev).after k q
      refine wpAny_bind (he _ _ _ _ _ _ rd hb hs e1 _ _ fun u h' tk k hu => wpAny_bind (wpAny_standAt (wpAny_bind (wpAny_holding (truth_ok (ext_sub hs k) hu ht _ _ fun tk' => ?_)))))
      cases op <;> cases t
      · cases ev; exact wpAny_pure (q _ _ _ k hu)
      · exact again _ _ k ev
      · exact again _ _ k ev
      · cases ev; exact wpAny_pure (q _ _ _ k hu)
    · cases ev
  · cases ev
theorem sall_one {op : BoolOp} {e : AE} (he : ST prog w h₀ C A e) : SAll prog w h₀ C A op (.cons e .nil) := by
  intro cn ρ r b env W s rd hb hs ev et Q E q
  simp only [abop] at ev
  show wpAny (model prog w) A (allTrue op (e.toExpr :: []) env) Q E s
  cases op
  · refine wpAny_allTrue_And_cons (he _ _ _ _ _ _ _ rd hb hs ev et _ _ fun h' tk k => ?_)
    cases b
    · exact q _ _ k
    · exact wpAny_allTrue_And_nil (q _ _ k)
  · refine wpAny_allTrue_Or_cons (he _ _ _ _ _ _ _ rd hb hs ev et _ _ fun h' tk k => ?_)
    cases b
    · exact wpAny_allTrue_Or_nil (q _ _ k)
    · exact q _ _ k
theorem sall_cons {op : BoolOp} {e e' : AE} {es : AEs} (he : ST prog w h₀ C A e) (hes : SAll prog w h₀ C A op (.cons e' es)) : SAll prog w h₀ C A op (.cons e (.cons e' es)) := by
  intro cn ρ r b env W s rd hb hs ev et Q E q
  simp only [abop] at ev
  split at ev
  · rename_i v e1
    split at ev
    · rename_i t ht
      show wpAny (model prog w) A (allTrue op (e.toExpr :: (AEs.cons e' es).toExprs) env) Q E s
      have again : ∀ h' tk, KeepH s.heap h' → abop C op (.cons e' es) cn ρ = some r → wpAny (model prog w) A (allTrue op (AEs.cons e' es).toExprs env) Q E { s with heap := h', toks := tk } := fun h' tk k ev =>
        hes _ _ _ _ _ _ { s with heap := h', toks := tk } (rd.mono (ext_le hs) k) (hb.trans (ext_le hs)) (ext_sub hs k) ev et _ _ fun h'' tk'' k'' => q _ _ (k.trans k'')
      cases op
      · refine wpAny_allTrue_And_cons (he _ _ _ _ _ _ _ rd hb hs e1 ht _ _ fun h' tk k => ?_)
        cases t
        · cases ev; rw [ht] at et; cases et; exact q _ _ k
        · exact again _ _ k ev
      · refine wpAny_allTrue_Or_cons (he _ _ _ _ _ _ _ rd hb hs e1 ht _ _ fun h' tk k => ?_)
        cases t
        · exact again _ _ k ev
        · cases ev; rw [ht] at et; cases et; exact q _ _ k
    · cases ev
  · cases ev
theorem sbop_nil {op : BoolOp} : SBop prog w h₀ C A op .nil := fun cn ρ r env W s p rd hb hs ev => by simp [abop] at ev
theorem sall_nil {op : BoolOp} : SAll prog w h₀ C A op .nil := fun cn ρ r b env W s rd hb hs ev => by simp [abop] at ev

theorem baseKeep (W : Wd) (h : Heap) (hb : Wd.le (fun b => h₀.get? b) W) (hs : Sub W h) : KeepH h₀ h := fun b o e => hs _ _ (hb _ _ e)

mutual
theorem se_ok {d : Nat} (R : Room A d) (B : Base prog w h₀ C d) : ∀ e : AE, SE prog w h₀ C A e
  | .cst c k p => se_cst c k p
  | .nm n p => se_nm n p
  | .bin l op r p => se_bin op p (se_ok R B l) (se_ok R B r)
  | .cmp l op r p => se_cmp R op p (se_ok R B l) (se_ok R B r)
  | .bop op es p => fun cn ρ r env W s rd hb hs e => sbop_ok R B op es cn ρ r env W s p rd hb hs (by simpa only [aeval] using e)
  | .neg e p => se_neg p (se_ok R B e)
  | .nt e p => se_nt p (se_ok R B e)
  | .ife t b o p => se_ife p (st_ok R B t) (se_ok R B b) (se_ok R B o)
  | .lst es p => se_lst p (ses_ok R B es)
  | .tup es k p => se_tup k p (ses_ok R B es)
  | .sub e i p => se_sub p (se_ok R B e) (se_ok R B i)
  | .slc e lo hi q p => se_slc q p (se_ok R B e) (sop_ok R B lo) (sop_ok R B hi)
  | .call f fp args p => se_call R B f fp p (ses_ok R B args)
  | .sm o op name ap args p => se_sm R B o op name ap p (ses_ok R B args)
  | .comp elt t iter ifs ks p => (comp1_ok R B.glob baseKeep (se_ok R B elt) (se_ok R B iter) (sts_ok R B ifs)).se
  | .comp2 elt t iter t2 iter2 ks p => (comp2_ok R B.glob baseKeep (se_ok R B elt) (se_ok R B iter) (se_ok R B iter2)).se
theorem st_ok {d : Nat} (R : Room A d) (B : Base prog w h₀ C d) : ∀ e : AE, ST prog w h₀ C A e
  | .cst c k p => st_of (se_cst c k p) fun _ _ => rfl
  | .nm n p => st_of (se_nm n p) fun _ _ => rfl
  | .bin l op r p => st_of (se_bin op p (se_ok R B l) (se_ok R B r)) fun _ _ => rfl
  | .cmp l op r p => st_cmp R op p (se_ok R B l) (se_ok R B r)
  | .bop op es p => fun cn ρ r b env W s rd hb hs e et => by
    show EvB prog w A s (allTrue op es.toExprs env) b
    exact sall_ok R B op es cn ρ r b env W s rd hb hs (by simpa only [aeval] using e) et
  | .neg e p => st_of (se_neg p (se_ok R B e)) fun _ _ => rfl
  | .nt e p => st_nt p (st_ok R B e)
  | .ife t b o p => st_ife p (st_ok R B t) (st_ok R B b) (st_ok R B o)
  | .lst es p => st_of (se_lst p (ses_ok R B es)) fun _ _ => rfl
  | .tup es k p => st_of (se_tup k p (ses_ok R B es)) fun _ _ => rfl
  | .sub e i p => st_of (se_sub p (se_ok R B e) (se_ok R B i)) fun _ _ => rfl
  | .slc e lo hi q p => st_of (se_slc q p (se_ok R B e) (sop_ok R B lo) (sop_ok R B hi)) fun _ _ => rfl
  | .call f fp args p => st_of (se_call R B f fp p (ses_ok R B args)) fun _ _ => rfl
  | .sm o op name ap args p => st_of (se_sm R B o op name ap p (ses_ok R B args)) fun _ _ => rfl
  | .comp elt t iter ifs ks p => st_of (comp1_ok R B.glob baseKeep (se_ok R B elt) (se_ok R B iter) (sts_ok R B ifs)).se fun _ _ => rfl
  | .comp2 elt t iter t2 iter2 ks p => st_of (comp2_ok R B.glob baseKeep (se_ok R B elt) (se_ok R B iter) (se_ok R B iter2)).se fun _ _ => rfl
theorem ses_ok {d : Nat} (R : Room A d) (B : Base prog w h₀ C d) : ∀ es : AEs, SEs prog w h₀ C A es
  | .nil => ses_nil
  | .cons e es => ses_cons (se_ok R B e) (ses_ok R B es)
theorem sts_ok {d : Nat} (R : Room A d) (B : Base prog w h₀ C d) : ∀ es : AEs, STs prog w h₀ C A es
  | .nil => STs_nil
  | .cons e es => sts_cons (st_ok R B e) (sts_ok R B es)
theorem sbop_ok {d : Nat} (R : Room A d) (B : Base prog w h₀ C d) (op : BoolOp) : ∀ es : AEs, SBop prog w h₀ C A op es
  | .nil => sbop_nil
  | .cons e .nil => sbop_one (se_ok R B e)
  | .cons e (.cons e' es) => sbop_cons (se_ok R B e) (sbop_ok R B op (.cons e' es))
theorem sall_ok {d : Nat} (R : Room A d) (B : Base prog w h₀ C d) (op : BoolOp) : ∀ es : AEs, SAll prog w h₀ C A op es
  | .nil => sall_nil
  | .cons e .nil => sall_one (st_ok R B e)
  | .cons e (.cons e' es) => sall_cons (st_ok R B e) (sall_ok R B op (.cons e' es))
theorem sop_ok {d : Nat} (R : Room A d) (B : Base prog w h₀ C d) : ∀ e : AO, SOp prog w h₀ C A e
  | .none => sop_none
  | .some e => sop_some (se_ok R B e)
end
end
end Mine
namespace Mine

/-! statements -/
mutual
inductive AS where
  | asg (n : Nat) (np : Pos) (e : AE) (p : Pos)
  | own (n : Nat) (np : Pos) (e : AE) (p : Pos)
  | tasg (ns : List (Nat × Pos)) (k : Nat) (tp : Pos) (e : AE) (p : Pos)
  | aug (n : Nat) (np : Pos) (op : Operator) (e : AE) (p : Pos)
  | ret (e : AE) (p : Pos)
  | ife (t : AE) (b o : ASs) (p : Pos)
  | fors (t : Tgt) (e : AE) (b : ASs) (p : Pos)
  | fore (i : Nat) (ip : Pos) (d : Nat) (dp : Pos) (k : Nat) (tp : Pos) (f : Nat) (fp : Pos) (e : AE) (cp : Pos) (b : ASs) (p : Pos)
  | whl (t : AE) (b : ASs) (p : Pos)
  | brk (p : Pos)
  | cont (p : Pos)
  | app (n : Nat) (np ap : Pos) (e : AE) (cp p : Pos)
  | rev (n : Nat) (np ap cp p : Pos)
inductive ASs where
  | nil
  | cons (a : AS) (r : ASs)
end
mutual
def AS.toStmt : AS → Stmt
  | .asg n np e p => .Assign [.Name (nm n) np] e.toExpr p
  | .own n np e p => .Assign [.Name (nm n) np] e.toExpr p
  | .tasg ns k tp e p => .Assign [.Tuple (ns.map fun x => .Name (nm x.1) x.2) k tp] e.toExpr p
  | .aug n np op e p => .AugAssign (.Name (nm n) np) op e.toExpr p
  | .ret e p => .Return (some e.toExpr) p
  | .ife t b o p => .If t.toExpr b.toStmts o.toStmts p
  | .fors t e b p => .For t.toExpr e.toExpr b.toStmts [] p
  | .fore i ip d dp k tp f fp e cp b p => .For (.Tuple [.Name (nm i) ip, .Name (nm d) dp] k tp) (.Call (.Name (nm f) fp) [e.toExpr] [] cp) b.toStmts [] p
  | .whl t b p => .While t.toExpr b.toStmts [] p
  | .brk p => .Break p
  | .cont p => .Continue p
  | .app n np ap e cp p => .Expr (.Call (.Attribute (.Name (nm n) np) "append" ap) [e.toExpr] [] cp) p
  | .rev n np ap cp p => .Expr (.Call (.Attribute (.Name (nm n) np) "reverse" ap) [] [] cp) p
def ASs.toStmts : ASs → List Stmt
  | .nil => []
  | .cons a r => a.toStmt :: r.toStmts
end

/-! states: values of names, and at most one list that is the frame's own -/
structure Sg where
  vals : Rho
  own : Option (Nat × List AV)
inductive Out where
  | next (σ : Sg)
  | brk (σ : Sg)
  | cont (σ : Sg)
  | ret (r : AV)
def scal : AV → Bool
  | .none => true
  | .bool _ => true
  | .int _ => true
  | .str _ => true
  | _ => false
def scals : List AV → Bool
  | [] => true
  | x :: r => scal x && scals r
/-- a name's value is put in its place -/
def updR (n : Nat) (v : AV) : Rho → Rho
  | [] => [(n, v)]
  | (m, u) :: r => match Nat.beq m n with
    | true => (n, v) :: r
    | false => (m, u) :: updR n v r
theorem look_upd (n : Nat) (v : AV) : ∀ (r : Rho) (k : Nat), look (updR n v r) k = if n = k then some v else look r k
  | [], k => by rw [updR, look_cons]
  | (m, u) :: r, k => by
    unfold updR
    cases q : Nat.beq m n with
    | true =>
      have := Nat.eq_of_beq_eq_true q
      subst this
      rw [look_cons, look_cons]
      split <;> rfl
    | false =>
      have hmn : m ≠ n := beq_false q
      show look ((m, u) :: updR n v r) k = _
      rw [look_cons, look_cons, look_upd n v r k]
      by_cases h1 : m = k
      · subst h1
        rw [if_pos rfl, if_neg (Ne.symm hmn), if_pos rfl]
      · rw [if_neg h1, if_neg h1]
def Sg.frz (σ : Sg) : Sg := match σ.own with
  | some (n, xs) => { vals := updR n (.lst xs) σ.vals, own := none }
  | none => σ
def Sg.ownIs (σ : Sg) (n : Nat) : Bool := match σ.own with
  | some (m, _) => Nat.beq m n
  | none => false
def rapp : Rho → Rho → Rho
  | [], b => b
  | x :: a, b => x :: rapp a b
def Sg.rho (G : Rho) (ks : Ks) (σ : Sg) : Rho := rapp σ.frz.vals (cenv G [] ks)
def cnOf : Ks → List Nat
  | [] => []
  | (n, k) :: r => match k with
    | .cell => n :: cnOf r
    | _ => cnOf r
def Sg.put (n : Nat) (v : AV) (σ : Sg) : Sg := { vals := updR n v σ.vals, own := match σ.ownIs n with | true => none | false => σ.own }
def setV (ks : Ks) (n : Nat) (v : AV) (σ : Sg) : Option Sg := match kindIn ks n with
  | some .local => some (σ.put n v)
  | some .cell => some (σ.put n v)
  | _ => none
def setVs (ks : Ks) : List Nat → List AV → Sg → Option Sg
  | [], [], σ => some σ
  | n :: ns, v :: vs, σ => match setV ks n v σ with
    | some σ' => setVs ks ns vs σ'
    | none => none
  | _, _, _ => none
def bindF (ks : Ks) (t : Tgt) (v : AV) (σ : Sg) : Option Sg := match t with
  | .one n _ => setV ks n v σ
  | .tup ns _ _ => match v with
    | .tup vs => setVs ks (ns.map (·.1)) vs σ
    | _ => none
/-- what a loop over e leaves of the own list -/
def forS (e : AE) (σ : Sg) : Sg := match e with
  | .nm n _ => match σ.ownIs n with
    | true => σ.frz
    | false => σ
  | _ => σ.frz
def evalS (C : Cfg) (ks : Ks) (e : AE) (σ : Sg) : Option (AV × Sg) := match aeval C e (cnOf ks) (σ.rho C.G ks) with
  | some r => match scal r with
    | true => some (r, σ)
    | false => some (r, σ.frz)
  | none => none
def evalB (C : Cfg) (ks : Ks) (e : AE) (σ : Sg) : Option Bool := match aeval C e (cnOf ks) (σ.rho C.G ks) with
  | some r => truth r
  | none => none
def iterF (bind : AV → Sg → Option Sg) (body : Sg → Option Out) : List AV → Sg → Option Out
  | [], σ => some (.next σ)
  | x :: xs, σ => match bind x σ with
    | some σ₁ => match body σ₁ with
      | some (.next σ₂) => iterF bind body xs σ₂
      | some (.cont σ₂) => iterF bind body xs σ₂
      | some (.brk σ₂) => some (.next σ₂)
      | some (.ret r) => some (.ret r)
      | none => none
    | none => none
def iterW (test : Sg → Option Bool) (body : Sg → Option Out) : Nat → Sg → Option Out
  | 0, _ => none
  | f + 1, σ => match test σ with
    | some true => match body σ with
      | some (.next σ₂) => iterW test body f σ₂
      | some (.cont σ₂) => iterW test body f σ₂
      | some (.brk σ₂) => some (.next σ₂)
      | some (.ret r) => some (.ret r)
      | none => none
    | some false => some (.next σ)
    | none => none
def fresh : AE → Bool
  | .slc .. => true
  | .comp .. => true
  | .comp2 .. => true
  | _ => false
def isTup : AE → Bool
  | .tup .. => true
  | _ => false
def enumAV : Nat → List AV → List AV
  | _, [] => []
  | i, x :: r => .tup [.int i, x] :: enumAV (i + 1) r
mutual
def aexec (C : Cfg) (fu : Nat) (ks : Ks) : AS → Sg → Option Out
  | .asg n _ e _, σ => match evalS C ks e σ with
    | some (r, σ₁) => (setV ks n r σ₁).map .next
    | none => none
  | .own n _ e _, σ => match fresh e && kindIn ks n == some .local with
    | true => match aeval C e (cnOf ks) (σ.rho C.G ks) with
      | some (.lst l) => if scals l = true ∧ l.length ≤ 16777216 then some (.next { vals := σ.frz.vals, own := some (n, l) }) else none
      | _ => none
    | false => none
  | .tasg ns _ _ e _, σ => match isTup e with
    | true => none
    | false => match evalS C ks e σ with
      | some (.tup vs, σ₁) => (setVs ks (ns.map (·.1)) vs σ₁).map .next
      | _ => none
  | .aug n _ op e _, σ => match look (σ.rho C.G ks) n, aeval C e (cnOf ks) (σ.rho C.G ks) with
    | some (.int a), some (.int b) => match op with
      | .Add => (setV ks n (.int (a + b)) σ).map .next
      | _ => none
    | _, _ => none
  | .ret e _, σ => match aeval C e (cnOf ks) (σ.rho C.G ks) with
    | some r => some (.ret r)
    | none => none
  | .ife t b o _, σ => match evalB C ks t σ with
    | some true => aexecs C fu ks b σ
    | some false => aexecs C fu ks o σ
    | none => none
  | .fors t e b _, σ => match aeval C e (cnOf ks) (σ.rho C.G ks) with
    | some it => match iterVals it with
      | some xs => iterF (bindF ks t) (aexecs C fu ks b) xs (forS e σ)
      | none => none
    | none => none
  | .fore i ip d dp k tp f _ e _ b _, σ => match look (σ.rho C.G ks) f with
    | some (.bi .enumerate) => match aeval C e (cnOf ks) (σ.rho C.G ks) with
      | some (.lst xs) => iterF (bindF ks (.tup [(i, ip), (d, dp)] k tp)) (aexecs C fu ks b) (enumAV 0 xs) σ.frz
      | _ => none
    | _ => none
  | .whl t b _, σ => iterW (evalB C ks t) (aexecs C fu ks b) fu σ
  | .brk _, σ => some (.brk σ)
  | .cont _, σ => some (.cont σ)
  | .app n _ ap e cp _, σ => match Nat.beq ap.endLine cp.line, σ.own, aeval C e (cnOf ks) (σ.rho C.G ks) with
    | true, some (m, xs), some r => match Nat.beq m n && scal r with
      | true => if xs.length ≤ 16777216 then some (.next { vals := σ.vals, own := some (m, xs ++ [r]) }) else none
      | false => none
    | _, _, _ => none
  | .rev n _ ap cp _, σ => match Nat.beq ap.endLine cp.line, σ.own with
    | true, some (m, xs) => match Nat.beq m n with
      | true => if xs.length ≤ 16777216 then some (.next { vals := σ.vals, own := some (m, xs.reverse) }) else none
      | false => none
    | _, _ => none
def aexecs (C : Cfg) (fu : Nat) (ks : Ks) : ASs → Sg → Option Out
  | .nil, σ => some (.next σ)
  | .cons a r, σ => match aexec C fu ks a σ with
    | some (.next σ₁) => aexecs C fu ks r σ₁
    | o => o
end

theorem scal_any {W W' : Wd} {r : AV} {v : Value} (h : scal r = true) (x : VR W r v) : VR W' r v := by
  cases x <;> first | exact .none | exact .bool _ | exact .int _ _ | exact .str _ _ | (simp [scal] at h)
theorem scals_any {W W' : Wd} : ∀ {r : List AV} {v : List Value}, scals r = true → VRs W r v → VRs W' r v
  | _, _, _, .nil => .nil
  | _, _, h, .cons a b => by
    simp only [scals, Bool.and_eq_true] at h
    exact .cons (scal_any h.1 a) (scals_any h.2 b)
theorem look_rapp : ∀ (a b : Rho) (n : Nat), look (rapp a b) n = match look a n with | some v => some v | none => look b n
  | [], b, n => rfl
  | (m, v) :: a, b, n => by
    rw [rapp, look_cons, look_cons, look_rapp a b n]
    split <;> rfl
theorem frz_rho (σ : Sg) (G : Rho) (ks : Ks) : σ.frz.rho G ks = σ.rho G ks := by
  obtain ⟨v, o⟩ := σ
  cases o with
  | none => rfl
  | some x => rfl
theorem frz_own (σ : Sg) : σ.frz.own = none := by
  obtain ⟨v, o⟩ := σ
  cases o <;> rfl
theorem frz_frz (σ : Sg) : σ.frz.frz = σ.frz := by
  obtain ⟨v, o⟩ := σ
  cases o <;> rfl
theorem mem_cnOf {n : Nat} : ∀ {ks : Ks}, n ∈ cnOf ks ↔ (n, NameKind.cell) ∈ ks
  | [] => by simp [cnOf]
  | (m, k) :: r => by
    have ih := mem_cnOf (n := n) (ks := r)
    cases k <;> simp [cnOf, ih]

theorem put_own {n k : Nat} {v : AV} {xs : List AV} {σ : Sg} (h : (σ.put n v).own = some (k, xs)) : σ.own = some (k, xs) ∧ k ≠ n := by
  obtain ⟨vals, own⟩ := σ
  cases own with
  | none => simp [Sg.put, Sg.ownIs] at h
  | some x =>
    obtain ⟨a, ys⟩ := x
    simp only [Sg.put, Sg.ownIs] at h
    cases q : Nat.beq a n with
    | true => rw [q] at h; cases h
    | false =>
      rw [q] at h
      cases h
      exact ⟨rfl, beq_false q⟩
theorem put_ownIs {n k : Nat} {v : AV} {σ : Sg} (h : (σ.put n v).ownIs k = false) (hk : k ≠ n) : σ.ownIs k = false := by
  obtain ⟨vals, own⟩ := σ
  cases own with
  | none => rfl
  | some x =>
    obtain ⟨a, ys⟩ := x
    simp only [Sg.put, Sg.ownIs] at h ⊢
    cases q : Nat.beq a n with
    | true =>
      have := Nat.eq_of_beq_eq_true q
      subst this
      cases q' : Nat.beq a k with
      | true => exact absurd (Nat.eq_of_beq_eq_true q').symm hk
      | false => rfl
    | false => rw [q] at h; exact h
theorem setV_eq {ks : Ks} {n : Nat} {r : AV} {σ σ' : Sg} (e : setV ks n r σ = some σ') : σ' = σ.put n r := by
  unfold setV at e
  split at e <;> first | (cases e; rfl) | cases e
theorem ns_list {h : Heap} {L D : Addr} {m : Str → Option Value} {items : Array Value} (hn : h.Ns L m) (hp : h.PlainList D items) : D ≠ L := fun q => by
  obtain ⟨n, a⟩ := hp
  obtain ⟨o, _, _, b, c, _⟩ := hn
  subst q
  rw [a] at b
  cases b
  cases c

/-! frames -/
structure EnvOk (env : Env) (ks : Ks) : Prop where
  kind : env.scope.kind = .function
  glob : env.globals = mainGlobals
  blt : env.builtins = builtinsNs
  kof : ∀ n, env.kindOf (nm n) = kindIn ks n
  uniq : ∀ n k, (n, k) ∈ ks → kindIn ks n = some k
  dbg : kindIn ks cDbg = none
  cell : ∀ n, kindIn ks n = some .cell → ∃ c, env.cells.lookup (nm n) = some c
  apart : ∀ n n' c, env.cells.lookup (nm n) = some c → env.cells.lookup (nm n') = some c → n = n'
  locs : ∀ n c, env.cells.lookup (nm n) = some c → c ≠ env.locals

structure FR (h₀ : Heap) (env : Env) (ks : Ks) (he : Heap) (W₀ : Wd) (X : List Addr) (W : Wd) (h : Heap) (σ : Sg) : Prop where
  keep : KeepH he h
  base : Wd.le (fun b => h₀.get? b) W
  le0 : W₀.le W
  sub : Sub W h
  old : ∀ b o, W b = some o → (∃ o', he.get? b = some o') → W₀ b = some o
  hid : ∀ b ∈ X, W b = none ∧ he.get? b = none ∧ ∃ o, h.get? b = some o
  locW : W env.locals = none
  locE : he.get? env.locals = none
  locX : env.locals ∉ X
  kinds : ∀ n r, look σ.vals n = some r → kindIn ks n = some .local ∨ kindIn ks n = some .cell
  loc : ∃ m, h.Ns env.locals m ∧ (∀ n r, look σ.vals n = some r → σ.ownIs n = false → kindIn ks n = some .local → ∃ v, m (nm n) = some v ∧ VR W r v) ∧
    (∀ n xs, σ.own = some (n, xs) → ∃ D items, kindIn ks n = some .local ∧ m (nm n) = some (.ref D) ∧ W D = none ∧ he.get? D = none ∧ D ∉ X ∧ h.PlainList D items ∧ VRs W xs items.toList ∧ scals xs = true)
  cell : ∀ n c, kindIn ks n = some .cell → env.cells.lookup (nm n) = some c → W c = none ∧ he.get? c = none ∧ c ∉ X ∧ ∃ ov, h.IsCell c ov ∧ ∀ r, look σ.vals n = some r → ∃ v, ov = some v ∧ VR W r v

section
variable {prog : Program} {w : World} {h₀ : Heap} {C : Cfg} {A : Around} {env : Env} {ks : Ks} {he : Heap} {W₀ : Wd} {X : List Addr} {W : Wd} {h : Heap} {σ : Sg}

theorem FR.ownLocal (F : FR h₀ env ks he W₀ X W h σ) {n : Nat} (e : σ.ownIs n = true) : kindIn ks n = some .local := by
  obtain ⟨m, _, _, ho⟩ := F.loc
  unfold Sg.ownIs at e
  split at e
  · rename_i k xs hk
    have := Nat.eq_of_beq_eq_true e
    subst this
    obtain ⟨_, _, a, _⟩ := ho _ _ hk
    exact a
  · cases e

/-- an evaluation went by -/
theorem FR.grow (F : FR h₀ env ks he W₀ X W h σ) {H : Heap} {Wk : Wd} (k : KeepH h H) (le : W.le Wk) (sub : Sub Wk H) (old : ∀ b o, Wk b = some o → (∃ o', h.get? b = some o') → W b = some o) (X' : List Addr) (hX : ∀ b ∈ X', Wk b = none ∧ h.get? b = none ∧ ∃ o, H.get? b = some o) :
    FR h₀ env ks he W₀ (X' ++ X) Wk H σ := by
  have none_of : ∀ b, W b = none → (∃ o, h.get? b = some o) → Wk b = none := fun b e1 e2 => by
    cases q : Wk b with
    | none => rfl
    | some o => rw [old b o q e2] at e1; cases e1
  have X'e : ∀ b ∈ X', he.get? b = none := fun b hb => by
    cases q : he.get? b with
    | none => rfl
    | some o => have := (hX b hb).2.1; rw [F.keep _ _ q] at this; cases this
  obtain ⟨m, hn, hl, ho⟩ := F.loc
  obtain ⟨oL, hL⟩ : ∃ o, h.get? env.locals = some o := by obtain ⟨o, _, _, e, _⟩ := id hn; exact ⟨o, e⟩
  have notX' : ∀ b o, h.get? b = some o → b ∉ X' := fun b o e hb => by have := (hX b hb).2.1; rw [e] at this; cases this
  refine ⟨F.keep.trans k, F.base.trans le, F.le0.trans le, sub, fun b o e ⟨o', q⟩ => F.old b o (old b o e ⟨o', F.keep _ _ q⟩) ⟨o', q⟩, fun b hb => ?_, none_of _ F.locW ⟨_, hL⟩, F.locE, fun hm => ?_, F.kinds, ⟨m, hn.keeps k, fun n r e1 e2 e3 => ?_, fun n xs e => ?_⟩, fun n c e1 e2 => ?_⟩
  · rcases List.mem_append.mp hb with hb | hb
    · exact ⟨(hX b hb).1, X'e b hb, (hX b hb).2.2⟩
    · obtain ⟨a, b', o, c⟩ := F.hid b hb
      exact ⟨none_of _ a ⟨o, c⟩, b', o, k _ _ c⟩
  · rcases List.mem_append.mp hm with hm | hm
    · exact notX' _ _ hL hm
    · exact F.locX hm
  · obtain ⟨v, a, b⟩ := hl n r e1 e2 e3
    exact ⟨v, a, b.mono le⟩
  · obtain ⟨D, items, a1, a2, a3, a4, a5, a6, a7, a8⟩ := ho n xs e
    obtain ⟨nn, hD⟩ := id a6
    refine ⟨D, items, a1, a2, none_of _ a3 ⟨_, hD⟩, a4, fun hm => ?_, a6.at fun o e => k _ _ e, VRs.mono le a7, a8⟩
    rcases List.mem_append.mp hm with hm | hm
    · exact notX' _ _ hD hm
    · exact a5 hm
  · obtain ⟨a1, a2, a3, ov, a4, a5⟩ := F.cell n c e1 e2
    obtain ⟨oc, hoc, _⟩ := id a4
    refine ⟨none_of _ a1 ⟨_, hoc⟩, a2, fun hm => ?_, ov, a4.keeps k, fun r e => let ⟨v, p, q⟩ := a5 r e; ⟨v, p, q.mono le⟩⟩
    rcases List.mem_append.mp hm with hm | hm
    · exact notX' _ _ hoc hm
    · exact a3 hm
/-- something hidden goes -/
theorem FR.drop {I : Addr} (F : FR h₀ env ks he W₀ (I :: X) W h σ) {H : Heap} (k : ∀ b o, b ≠ I → h.get? b = some o → H.get? b = some o) (hI' : I ∈ X → ∃ o, H.get? I = some o) : FR h₀ env ks he W₀ X W H σ := by
  have hI := F.hid I List.mem_cons_self
  obtain ⟨m, hn, hl, ho⟩ := F.loc
  have hLI : env.locals ≠ I := fun q => F.locX (q ▸ List.mem_cons_self)
  refine ⟨fun b o e => k b o (fun q => by rw [q, hI.2.1] at e; cases e) (F.keep b o e), F.base, F.le0, fun b o e => k b o (fun q => by rw [q, hI.1] at e; cases e) (F.sub b o e), F.old, fun b hb => ?_, F.locW, F.locE, fun hm => F.locX (List.mem_cons_of_mem _ hm), F.kinds,
    ⟨m, hn.at' fun o e => k _ _ hLI e, hl, fun n xs e => ?_⟩, fun n c e1 e2 => ?_⟩
  · obtain ⟨a, b', o, c⟩ := F.hid b (List.mem_cons_of_mem _ hb)
    refine ⟨a, b', ?_⟩
    by_cases q : b = I
    · subst q; exact hI' hb
    · exact ⟨o, k _ _ q c⟩
  · obtain ⟨D, items, a1, a2, a3, a4, a5, a6, a7, a8⟩ := ho n xs e
    exact ⟨D, items, a1, a2, a3, a4, fun hm => a5 (List.mem_cons_of_mem _ hm), a6.at fun o e => k _ _ (fun q => a5 (q ▸ List.mem_cons_self)) e, a7, a8⟩
  · obtain ⟨a1, a2, a3, ov, ⟨oc, h1, h2⟩, a5⟩ := F.cell n c e1 e2
    exact ⟨a1, a2, fun hm => a3 (List.mem_cons_of_mem _ hm), ov, ⟨oc, k _ _ (fun q => a3 (q ▸ List.mem_cons_self)) h1, h2⟩, a5⟩
end
end Mine
namespace Mine
section
variable {prog : Program} {w : World} {h₀ : Heap} {C : Cfg} {A : Around} {env : Env} {ks : Ks} {he : Heap} {W₀ : Wd} {X : List Addr} {W : Wd} {h : Heap} {σ : Sg}

/-- the own list becomes a value -/
theorem FR.freeze (F : FR h₀ env ks he W₀ X W h σ) : ∃ W₁, W.le W₁ ∧ FR h₀ env ks he W₀ X W₁ h σ.frz := by
  obtain ⟨vals, own⟩ := σ
  cases own with
  | none => exact ⟨W, Wd.le_refl W, F⟩
  | some x =>
    obtain ⟨n, xs⟩ := x
    obtain ⟨m, hn, hl, ho⟩ := F.loc
    obtain ⟨D, items, a1, a2, a3, a4, a5, ⟨nn, a6⟩, a7, a8⟩ := ho n xs rfl
    have hLD : env.locals ≠ D := Ne.symm (ns_list hn ⟨nn, a6⟩)
    let W₁ : Wd := fun b => if b = D then h.get? D else W b
    have le : W.le W₁ := fun b o e => by
      show (if b = D then _ else _) = _
      rw [if_neg (fun q => by rw [q, a3] at e; cases e)]
      exact e
    have off : ∀ b, b ≠ D → W₁ b = W b := fun b hb => if_neg hb
    refine ⟨W₁, le, F.keep, F.base.trans le, F.le0.trans le, fun b o e => ?_, fun b o e q => ?_, fun b hb => ?_, ?_, F.locE, F.locX, fun k r e => ?_, ⟨m, hn, fun k r e e2 e3 => ?_, fun k ys e => ?_⟩, fun k c e1 e2 => ?_⟩
    · by_cases q : b = D
      · subst q; simpa [W₁] using e
      · rw [off b q] at e; exact F.sub _ _ e
    · by_cases q' : b = D
      · subst q'; obtain ⟨o', q⟩ := q; rw [a4] at q; cases q
      · rw [off b q'] at e; exact F.old _ _ e q
    · obtain ⟨p, q, r⟩ := F.hid b hb
      exact ⟨by rw [off b fun q => a5 (q ▸ hb)]; exact p, q, r⟩
    · rw [off _ hLD]; exact F.locW
    · simp only [Sg.frz, look_upd] at e
      split at e
      · rename_i hk; subst hk; exact .inl a1
      · exact F.kinds k r e
    · simp only [Sg.frz, look_upd] at e
      split at e
      · rename_i hk
        subst hk
        cases e
        exact ⟨_, a2, .lst (o := { cls := .type "list", data := .seq items nn }) (by show (if _ then _ else _) = _; rw [if_pos rfl]; exact a6) rfl rfl (VRs.mono le a7)⟩
      · rename_i hk
        obtain ⟨v, p, q⟩ := hl k r e (by
          show Nat.beq n k = false
          cases q : Nat.beq n k with
          | false => rfl
          | true => exact absurd (Nat.eq_of_beq_eq_true q) hk) e3
        exact ⟨v, p, q.mono le⟩
    · simp [Sg.frz] at e
    · obtain ⟨b1, b2, b3, ov, b4, b5⟩ := F.cell k c e1 e2
      have hcD : c ≠ D := fun q => by
        obtain ⟨oc, p, r⟩ := id b4
        rw [q, a6] at p
        cases p
        cases r
      refine ⟨by rw [off _ hcD]; exact b1, b2, b3, ov, b4, fun r e => ?_⟩
      simp only [Sg.frz, look_upd] at e
      split at e
      · rename_i hk; subst hk; rw [a1] at e1; cases e1
      · obtain ⟨v, p, q⟩ := b5 r e
        exact ⟨v, p, q.mono le⟩

/-- what expressions read -/
theorem FR.rd (hG : GlobOk prog w h₀ C.G) (V : EnvOk env ks) (F : FR h₀ env ks he W₀ X W h σ) (hown : σ.own = none) : RdOk prog w env W h (cnOf ks) (σ.rho C.G ks) := by
  have hfrz : σ.frz = σ := by
    obtain ⟨v, o⟩ := σ
    cases hown
    rfl
  have dbg : ∀ n k, kindIn ks n = some k → nm n ≠ ("__debug__" : Str) := fun n k e q => by
    have := nm_inj (q.trans nm_dbg.symm)
    subst this
    rw [V.dbg] at e
    cases e
  have hk0 : KeepH h₀ h := baseKeep W h F.base F.sub
  obtain ⟨m, hn, hl, ho⟩ := F.loc
  have hoi : ∀ n, σ.ownIs n = false := fun n => by unfold Sg.ownIs; rw [hown]
  refine ⟨fun n r e => ?_, fun n hm => ?_, V.kind, V.glob, V.blt⟩
  · unfold Sg.rho at e
    rw [hfrz, look_rapp] at e
    split at e
    · rename_i r' e1
      cases e
      rcases F.kinds n r e1 with k1 | k1
      · obtain ⟨v, p, q⟩ := hl n r e1 (hoi n) k1
        exact ⟨v, q, dbg n _ k1, fun A Q E s ks' q => wpAny_loadName_local V.kind ((V.kof n).trans k1) (hn.keeps ks') p q⟩
      · obtain ⟨c, hc⟩ := V.cell n k1
        obtain ⟨b1, b2, b3, ov, b4, b5⟩ := F.cell n c k1 hc
        obtain ⟨v, p, q⟩ := b5 r e1
        subst p
        exact ⟨v, q, dbg n _ k1, fun A Q E s ks' q => wpAny_loadName_cell V.kind ((V.kof n).trans k1) hc (b4.keeps ks') q⟩
    · rcases look_cenv e with ⟨_, q⟩ | ⟨hm, q⟩
      · simp [look] at q
      · obtain ⟨v, hv, d, hlk⟩ := hG.val n r q
        have k1 := V.uniq n _ hm
        refine ⟨v, hv.mono F.base, d, ?_⟩
        rw [loadName_glob V.kind ((V.kof n).trans k1)]
        exact (hlk _ V.glob V.blt).keeps hk0
  · have k1 := V.uniq n _ (mem_cnOf.mp (memN_iff.mp hm))
    obtain ⟨c, hc⟩ := V.cell n k1
    refine ⟨c, hc, fun r e => ?_⟩
    unfold Sg.rho at e
    rw [hfrz, look_rapp] at e
    split at e
    · rename_i r' e1
      cases e
      obtain ⟨b1, b2, b3, ov, b4, b5⟩ := F.cell n c k1 hc
      obtain ⟨v, p, q⟩ := b5 r e1
      subst p
      exact ⟨dbg n _ k1, v, q, b4⟩
    · rcases look_cenv e with ⟨_, q⟩ | ⟨hm, q⟩
      · simp [look] at q
      · rw [V.uniq n _ hm] at k1; cases k1

/-- a value is stored -/
theorem store_FR (V : EnvOk env ks) {s : Shared} (F : FR h₀ env ks he W₀ X W s.heap σ) {n : Nat} {r : AV} {v : Value} {σ' : Sg} (hv : VR W r v) (e : setV ks n r σ = some σ') (Q : Unit → Shared → Prop) (E : Value → Shared → Prop)
    (q : ∀ h' tk, FR h₀ env ks he W₀ X W h' σ' → (∀ b o, b ∈ X → s.heap.get? b = some o → h'.get? b = some o) → Q () { s with heap := h', toks := tk }) : wpAny (model prog w) A (storeName env (nm n) v) Q E s := by
  obtain ⟨m, hn, hl, ho⟩ := F.loc
  have hσ := setV_eq e
  have own' : ∀ k xs, σ'.own = some (k, xs) → σ.own = some (k, xs) ∧ k ≠ n := fun k xs hk => put_own (hσ ▸ hk)
  have notOwn : ∀ k, k ≠ n → σ'.ownIs k = false → σ.ownIs k = false := fun k hk e => put_ownIs (hσ ▸ e) hk
  have vals' : σ'.vals = updR n r σ.vals := by rw [hσ]; rfl
  unfold setV at e
  split at e
  · rename_i k1
    refine wpAny_storeName_local ((V.kof n).trans k1) hn (fun h' hn' hs => ?_) (by rw [V.kind]; rfl)
    refine q h' _ ⟨?_, F.base, F.le0, ?_, F.old, fun b hb => ?_, F.locW, F.locE, F.locX, fun k r' e' => ?_, ⟨_, hn', fun k r' e1 e2 e3 => ?_, fun k xs e1 => ?_⟩, fun k c e1 e2 => ?_⟩ fun b o hb e => hs.extBut b o (fun q => F.locX (q ▸ hb)) e
    · exact fun b o e => hs.extBut b o (fun q => by rw [q, F.locE] at e; cases e) (F.keep b o e)
    · exact fun b o e => hs.extBut b o (fun q => by rw [q, F.locW] at e; cases e) (F.sub b o e)
    · obtain ⟨a, b', o, c⟩ := F.hid b hb
      exact ⟨a, b', o, hs.extBut b o (fun q => F.locX (q ▸ hb)) c⟩
    · rw [vals', look_upd] at e'
      split at e'
      · rename_i hk; subst hk; exact .inl k1
      · exact F.kinds k r' e'
    · rw [vals', look_upd] at e1
      split at e1
      · rename_i hk
        subst hk
        cases e1
        exact ⟨v, if_pos rfl, hv⟩
      · rename_i hk
        obtain ⟨u, p, q⟩ := hl k r' e1 (notOwn k (fun q => hk q.symm) e2) e3
        exact ⟨u, (if_neg fun q => hk (nm_inj q).symm).trans p, q⟩
    · obtain ⟨e2, hk⟩ := own' k xs e1
      obtain ⟨D, items, a1, a2, a3, a4, a5, ⟨nn, a6⟩, a7, a8⟩ := ho k xs e2
      have hLD : D ≠ env.locals := ns_list hn ⟨nn, a6⟩
      exact ⟨D, items, a1, (if_neg fun q => hk (nm_inj q)).trans a2, a3, a4, a5, ⟨nn, hs.extBut _ _ hLD a6⟩, a7, a8⟩
    · obtain ⟨b1, b2, b3, ov, b4, b5⟩ := F.cell k c e1 e2
      refine ⟨b1, b2, b3, ov, b4.sameBut hs (V.locs k c e2), fun r' e' => ?_⟩
      rw [vals', look_upd] at e'
      split at e'
      · rename_i hk; subst hk; rw [k1] at e1; cases e1
      · exact b5 r' e'
  · rename_i k1
    obtain ⟨c₀, hc₀⟩ := V.cell n k1
    obtain ⟨g1, g2, g3, gv, g4, g5⟩ := F.cell n c₀ k1 hc₀
    refine wpAny_storeName_cell V.kind ((V.kof n).trans k1) hc₀ g4 fun h' hc' hs => ?_
    have hcL : env.locals ≠ c₀ := fun q => V.locs n c₀ hc₀ q.symm
    refine q h' _ ⟨?_, F.base, F.le0, ?_, F.old, fun b hb => ?_, F.locW, F.locE, F.locX, fun k r' e' => ?_, ⟨m, hn.sameBut hs hcL, fun k r' e1 e2 e3 => ?_, fun k xs e1 => ?_⟩, fun k c e1 e2 => ?_⟩ fun b o hb e => hs.extBut b o (fun q => g3 (q ▸ hb)) e
    · exact fun b o e => hs.extBut b o (fun q => by rw [q, g2] at e; cases e) (F.keep b o e)
    · exact fun b o e => hs.extBut b o (fun q => by rw [q, g1] at e; cases e) (F.sub b o e)
    · obtain ⟨a, b', o, c⟩ := F.hid b hb
      exact ⟨a, b', o, hs.extBut b o (fun q => g3 (q ▸ hb)) c⟩
    · rw [vals', look_upd] at e'
      split at e'
      · rename_i hk; subst hk; exact .inr k1
      · exact F.kinds k r' e'
    · rw [vals', look_upd] at e1
      split at e1
      · rename_i hk
        subst hk
        rw [k1] at e3; cases e3
      · rename_i hk
        exact hl k r' e1 (notOwn k (fun q => hk q.symm) e2) e3
    · obtain ⟨e2, hk⟩ := own' k xs e1
      obtain ⟨D, items, a1, a2, a3, a4, a5, ⟨nn, a6⟩, a7, a8⟩ := ho k xs e2
      have hcD : D ≠ c₀ := fun q => by
        obtain ⟨oc, p, r⟩ := id g4
        rw [← q, a6] at p
        cases p
        cases r
      exact ⟨D, items, a1, a2, a3, a4, a5, ⟨nn, hs.extBut _ _ hcD a6⟩, a7, a8⟩
    · by_cases hk : k = n
      · subst hk
        rw [hc₀] at e2
        cases e2
        refine ⟨g1, g2, g3, _, hc', fun r' e' => ?_⟩
        rw [vals', look_upd, if_pos rfl] at e'
        cases e'
        exact ⟨v, rfl, hv⟩
      · obtain ⟨b1, b2, b3, ov, b4, b5⟩ := F.cell k c e1 e2
        have hcc : c ≠ c₀ := fun q => hk (V.apart k n c e2 (q ▸ hc₀))
        refine ⟨b1, b2, b3, ov, b4.sameBut hs hcc, fun r' e' => ?_⟩
        rw [vals', look_upd, if_neg fun q => hk q.symm] at e'
        exact b5 r' e'
  · cases e
end
end Mine
namespace Mine
section
variable {prog : Program} {w : World} {h₀ : Heap} {C : Cfg} {A : Around} {env : Env} {ks : Ks} {he : Heap} {W₀ : Wd} {X : List Addr} {W : Wd} {h : Heap} {σ : Sg}

theorem FR.step (F : FR h₀ env ks he W₀ X W h σ) {H : Heap} (k : KeepH h H) : FR h₀ env ks he W₀ X (ext W h H) H σ :=
  F.grow k (ext_le F.sub) (ext_sub F.sub k) (fun b o e ⟨o', q⟩ => by unfold ext at e; rw [q] at e; exact e) [] (by simp)
theorem FR.same (F : FR h₀ env ks he W₀ X W h σ) {H : Heap} (k : KeepH h H) : FR h₀ env ks he W₀ X W H σ :=
  F.grow k (Wd.le_refl _) (fun b o e => k _ _ (F.sub _ _ e)) (fun b o e _ => e) [] (by simp)

/-- a value, all own things being let go into the world -/
theorem evF_ok {d : Nat} (R : Room A d) (B : Base prog w h₀ C d) (V : EnvOk env ks) {s : Shared} (F : FR h₀ env ks he W₀ X W s.heap σ) {e : AE} {r : AV} (ev : aeval C e (cnOf ks) (σ.rho C.G ks) = some r) (Q E : Value → Shared → Prop)
    (q : ∀ v h' tk W', W.le W' → FR h₀ env ks he W₀ X W' h' σ.frz → VR W' r v → KeepH s.heap h' → Q v { s with heap := h', toks := tk }) : wpAny (model prog w) A (eval e.toExpr env) Q E s := by
  obtain ⟨W₁, le, F₁⟩ := F.freeze
  have rd := F₁.rd B.glob V (frz_own σ)
  rw [frz_rho] at rd
  exact se_ok R B e _ _ _ _ _ _ rd F₁.base F₁.sub ev _ _ fun v h' tk k hv => q v h' tk _ (le.trans (ext_le F₁.sub)) (F₁.step k) hv k
theorem evS_ok {d : Nat} (R : Room A d) (B : Base prog w h₀ C d) (V : EnvOk env ks) {s : Shared} (F : FR h₀ env ks he W₀ X W s.heap σ) {e : AE} {r : AV} {σ' : Sg} (ev : evalS C ks e σ = some (r, σ')) (Q E : Value → Shared → Prop)
    (q : ∀ v h' tk W', W.le W' → FR h₀ env ks he W₀ X W' h' σ' → VR W' r v → KeepH s.heap h' → Q v { s with heap := h', toks := tk }) : wpAny (model prog w) A (eval e.toExpr env) Q E s := by
  unfold evalS at ev
  split at ev
  · rename_i r' e1
    split at ev
    · rename_i hs
      cases ev
      obtain ⟨W₁, le, F₁⟩ := F.freeze
      have rd := F₁.rd B.glob V (frz_own _)
      rw [frz_rho] at rd
      exact se_ok R B e _ _ _ _ _ _ rd F₁.base F₁.sub e1 _ _ fun v h' tk k hv => q v h' tk W (Wd.le_refl _) (F.same k) (scal_any hs hv) k
    · cases ev
      exact evF_ok R B V F e1 Q E q
  · cases ev
theorem look_frz {n : Nat} (h : σ.ownIs n = false) : look σ.frz.vals n = look σ.vals n := by
  obtain ⟨vals, own⟩ := σ
  cases own with
  | none => rfl
  | some x =>
    obtain ⟨m, xs⟩ := x
    simp only [Sg.frz, look_upd]
    rw [if_neg (beq_false h)]
theorem FR.val1 (hG : GlobOk prog w h₀ C.G) (V : EnvOk env ks) (F : FR h₀ env ks he W₀ X W h σ) {n : Nat} {r : AV} (ho : σ.ownIs n = false) (e : look (σ.rho C.G ks) n = some r) : ∃ v, VR W r v ∧ nm n ≠ ("__debug__" : Str) ∧ Looks (model prog w) h (loadName env (nm n)) v := by
  have dbg : ∀ n k, kindIn ks n = some k → nm n ≠ ("__debug__" : Str) := fun n k e q => by
    have := nm_inj (q.trans nm_dbg.symm)
    subst this
    rw [V.dbg] at e
    cases e
  have hk0 : KeepH h₀ h := baseKeep W h F.base F.sub
  obtain ⟨m, hn, hl, _⟩ := F.loc
  unfold Sg.rho at e
  rw [look_rapp, look_frz ho] at e
  split at e
  · rename_i r' e1
    cases e
    rcases F.kinds n r e1 with k1 | k1
    · obtain ⟨v, p, q⟩ := hl n r e1 ho k1
      exact ⟨v, q, dbg n _ k1, fun A Q E s ks' q => wpAny_loadName_local V.kind ((V.kof n).trans k1) (hn.keeps ks') p q⟩
    · obtain ⟨c, hc⟩ := V.cell n k1
      obtain ⟨b1, b2, b3, ov, b4, b5⟩ := F.cell n c k1 hc
      obtain ⟨v, p, q⟩ := b5 r e1
      subst p
      exact ⟨v, q, dbg n _ k1, fun A Q E s ks' q => wpAny_loadName_cell V.kind ((V.kof n).trans k1) hc (b4.keeps ks') q⟩
  · rcases look_cenv e with ⟨_, q⟩ | ⟨hm, q⟩
    · simp [look] at q
    · obtain ⟨v, hv, d, hlk⟩ := hG.val n r q
      have k1 := V.uniq n _ hm
      refine ⟨v, hv.mono F.base, d, ?_⟩
      rw [loadName_glob V.kind ((V.kof n).trans k1)]
      exact (hlk _ V.glob V.blt).keeps hk0
theorem evFor_ok {d : Nat} (R : Room A d) (B : Base prog w h₀ C d) (V : EnvOk env ks) {s : Shared} (F : FR h₀ env ks he W₀ X W s.heap σ) {e : AE} {r : AV} (ev : aeval C e (cnOf ks) (σ.rho C.G ks) = some r) (Q E : Value → Shared → Prop)
    (q : ∀ v h' tk W', W.le W' → FR h₀ env ks he W₀ X W' h' (forS e σ) → VR W' r v → KeepH s.heap h' → Q v { s with heap := h', toks := tk }) : wpAny (model prog w) A (eval e.toExpr env) Q E s := by
  have other : forS e σ = σ.frz → wpAny (model prog w) A (eval e.toExpr env) Q E s := fun hf => by
    rw [hf] at q
    exact evF_ok R B V F ev Q E q
  cases e with
  | nm n p =>
    cases ho : σ.ownIs n with
    | true => exact other (by simp only [forS, ho])
    | false =>
      have hf : forS (.nm n p) σ = σ := by simp only [forS, ho]
      rw [hf] at q
      simp only [aeval] at ev
      obtain ⟨v, hv, hd, hl⟩ := F.val1 B.glob V ho ev
      exact wpAny_Name (hl A Q E s (KeepH.refl _) (q v s.heap s.toks W (Wd.le_refl _) F hv (KeepH.refl _))) (by simpa using hd)
  | _ => exact other rfl
theorem evB_ok {d : Nat} (R : Room A d) (B : Base prog w h₀ C d) (V : EnvOk env ks) {s : Shared} (F : FR h₀ env ks he W₀ X W s.heap σ) {e : AE} {b : Bool} (ev : evalB C ks e σ = some b) (Q : Bool → Shared → Prop) (E : Value → Shared → Prop)
    (q : ∀ h' tk, FR h₀ env ks he W₀ X W h' σ → KeepH s.heap h' → Q b { s with heap := h', toks := tk }) : wpAny (model prog w) A (isTrue e.toExpr env (eval e.toExpr env)) Q E s := by
  unfold evalB at ev
  split at ev
  · rename_i r e1
    obtain ⟨W₁, le, F₁⟩ := F.freeze
    have rd := F₁.rd B.glob V (frz_own _)
    rw [frz_rho] at rd
    exact st_ok R B e _ _ _ _ _ _ _ rd F₁.base F₁.sub e1 ev _ _ fun h' tk k => q h' tk (F.same k) k
  · cases ev

/-- what a statement comes to -/
def Post (h₀ : Heap) (env : Env) (ks : Ks) (he : Heap) (W₀ : Wd) (X : List Addr) (W' : Wd) (h' : Heap) (o : Out) (fl : Flow) : Prop := match o with
  | .next σ => fl = .next ∧ FR h₀ env ks he W₀ X W' h' σ
  | .brk σ => fl = .brk ∧ FR h₀ env ks he W₀ X W' h' σ
  | .cont σ => fl = .cont ∧ FR h₀ env ks he W₀ X W' h' σ
  | .ret r => ∃ v σ, fl = .ret v ∧ FR h₀ env ks he W₀ X W' h' σ ∧ VR W' r v
def KeepX (X : List Addr) (h h' : Heap) : Prop := ∀ b o, b ∈ X → h.get? b = some o → h'.get? b = some o
theorem KeepX.of {h h' : Heap} (k : KeepH h h') : KeepX X h h' := fun b o _ e => k b o e
theorem KeepX.trans {h h' h'' : Heap} (a : KeepX X h h') (b : KeepX X h' h'') : KeepX X h h'' := fun x o m e => b x o m (a x o m e)

variable (prog w h₀ C A env ks he W₀) in
def SX (fu : Nat) (a : AS) : Prop := ∀ (X : List Addr) (W : Wd) (s : Shared) (σ : Sg) (o : Out), FR h₀ env ks he W₀ X W s.heap σ → aexec C fu ks a σ = some o → ∀ (Q : Flow → Shared → Prop) (E : Value → Shared → Prop),
  (∀ fl h' tk W', W.le W' → KeepX X s.heap h' → Post h₀ env ks he W₀ X W' h' o fl → Q fl { s with heap := h', toks := tk }) → wpAny (model prog w) A (exec a.toStmt env) Q E s
variable (prog w h₀ C A env ks he W₀) in
def SXs (fu : Nat) (a : ASs) : Prop := ∀ (X : List Addr) (W : Wd) (s : Shared) (σ : Sg) (o : Out), FR h₀ env ks he W₀ X W s.heap σ → aexecs C fu ks a σ = some o → ∀ (Q : Flow → Shared → Prop) (E : Value → Shared → Prop),
  (∀ fl h' tk W', W.le W' → KeepX X s.heap h' → Post h₀ env ks he W₀ X W' h' o fl → Q fl { s with heap := h', toks := tk }) → wpAny (model prog w) A (execs a.toStmts env) Q E s

end
end Mine
namespace Mine
def isComp : AE → Bool
  | .comp .. => true
  | .comp2 .. => true
  | _ => false
theorem swaps_ok (e : AE) (t : Str) (p : Pos) (l : Nat) (env : Env) : ∃ b, swapsWith e.toExpr (some (.Name t p)) l env = pure b ∧ (b = true → isComp e = true) := by
  cases e <;> first | exact ⟨false, rfl, fun h => by cases h⟩ | exact ⟨_, rfl, fun _ => rfl⟩
section
variable {prog : Program} {w : World} {h₀ : Heap} {C : Cfg} {A : Around} {env : Env} {ks : Ks} {he : Heap} {W₀ : Wd} {X : List Addr} {W : Wd} {h : Heap} {σ : Sg}

theorem cs_ok {d : Nat} (R : Room A d) (B : Base prog w h₀ C d) : ∀ e : AE, isComp e = true → CS prog w h₀ C A e
  | .comp elt t iter ifs ks p, _ => comp1_ok R B.glob baseKeep (se_ok R B elt) (se_ok R B iter) (sts_ok R B ifs)
  | .comp2 elt t iter t2 iter2 ks p, _ => comp2_ok R B.glob baseKeep (se_ok R B elt) (se_ok R B iter) (se_ok R B iter2)
theorem new_ok {d : Nat} (R : Room A d) (B : Base prog w h₀ C d) {e : AE} (hf : fresh e = true) {cn : List Nat} {ρ : Rho} {r : AV} {env : Env} {W : Wd} {s : Shared} (rd : RdOk prog w env W s.heap cn ρ) (hb : Wd.le (fun b => h₀.get? b) W) (hs : Sub W s.heap) (h : aeval C e cn ρ = some r) :
    ∃ l, r = .lst l ∧ EvN prog w A W s (eval e.toExpr env) l := by
  cases e with
  | slc x lo hi q p => exact slc_new q p (se_ok R B x) (sop_ok R B lo) (sop_ok R B hi) rd hb hs h
  | comp elt t iter ifs ks p => exact (cs_ok R B (.comp elt t iter ifs ks p) rfl).new rd hb hs h
  | comp2 elt t iter t2 iter2 ks p => exact (cs_ok R B (.comp2 elt t iter t2 iter2 ks p) rfl).new rd hb hs h
  | _ => cases hf

/-- the comprehension's frame goes, a list stays as a value -/
theorem comp_store (V : EnvOk env ks) {s : Shared} (F : FR h₀ env ks he W₀ X W s.heap σ) {n : Nat} {np : Pos} {l : List AV} {σ' : Sg} (e : setV ks n (.lst l) σ = some σ') (Q E : Value → Shared → Prop)
    (q : ∀ h' tk W', W.le W' → KeepX X s.heap h' → FR h₀ env ks he W₀ X W' h' σ' → Q .none { s with heap := h', toks := tk }) : CPost prog w A W s l (some (assign (.Name (nm n) np) env)) Q E := by
  intro H tk Wk a Cd m items kk le sub old c1 c2 a1 a2 ne hp hv hn
  obtain ⟨nn, hpa⟩ := id hp
  let W₂ : Wd := fun b => if b = a then H.get? a else Wk b
  have off : ∀ b, b ≠ a → W₂ b = Wk b := fun b hb => if_neg hb
  have le2 : Wk.le W₂ := fun b o e => by rw [off b fun q => by rw [q, a1] at e; cases e]; exact e
  obtain ⟨oC, _, _, hC, _⟩ := id hn
  have F₂ : FR h₀ env ks he W₀ ([Cd] ++ X) W₂ H σ := F.grow kk (le.trans le2) (fun b o e => by
      by_cases q : b = a
      · subst q; simpa [W₂] using e
      · rw [off b q] at e; exact sub _ _ e) (fun b o e ⟨o', q⟩ => by
      by_cases q' : b = a
      · subst q'; rw [a2] at q; cases q
      · rw [off b q'] at e; exact old _ _ e ⟨o', q⟩) [Cd] (fun b hb => by
      rw [List.mem_singleton.mp hb]
      exact ⟨(off _ (Ne.symm ne)).trans c1, c2, _, hC⟩)
  show wpAny _ _ (assign (.Name (nm n) np) env (.ref a)) _ _ _
  refine wpAny_assign_Name (store_FR V F₂ (.lst (o := { cls := .type "list", data := .seq items nn }) (by show (if _ then _ else _) = _; rw [if_pos rfl]; exact hpa) rfl rfl (VRs.mono le2 hv)) e _ _ fun h' tk' F' k' => ?_)
  have hn' : h'.Ns Cd m := hn.at' fun o e => k' _ _ (by simp) e
  refine ⟨m, hn', fun h'' hs => ?_⟩
  have cX : Cd ∉ X := fun hm => by
    obtain ⟨o, ho⟩ := (F.hid Cd hm).2.2
    rw [ho] at c2; cases c2
  have kX : KeepX X s.heap h'' := fun b o hm e => hs.extBut b o (fun q => cX (q ▸ hm)) (k' b o (List.mem_append.mpr (.inr hm)) (kk _ _ e))
  refine q h'' tk' W₂ (le.trans le2) kX (FR.drop (I := Cd) F' (fun b o hb e => hs.extBut b o hb e) (fun hm => absurd hm cX))

/-- a new list becomes the frame's own -/
theorem store_own (V : EnvOk env ks) {s : Shared} (F : FR h₀ env ks he W₀ X W s.heap σ) (ho : σ.own = none) {n : Nat} {l : List AV} {D : Addr} {items : Array Value} (k1 : kindIn ks n = some .local) (hD : W D = none) (hE : he.get? D = none) (hX : D ∉ X) (hp : s.heap.PlainList D items) (hv : VRs W l items.toList) (hl : scals l = true) (Q : Unit → Shared → Prop) (E : Value → Shared → Prop)
    (q : ∀ h' tk, FR h₀ env ks he W₀ X W h' { vals := σ.vals, own := some (n, l) } → KeepX X s.heap h' → Q () { s with heap := h', toks := tk }) : wpAny (model prog w) A (storeName env (nm n) (.ref D)) Q E s := by
  obtain ⟨m, hn, hl', _⟩ := F.loc
  have hoi : ∀ k, σ.ownIs k = false := fun k => by unfold Sg.ownIs; rw [ho]
  refine wpAny_storeName_local ((V.kof n).trans k1) hn (fun h' hn' hs => ?_) (by rw [V.kind]; rfl)
  have hLD := ns_list hn hp
  refine q h' _ ⟨?_, F.base, F.le0, ?_, F.old, fun b hb => ?_, F.locW, F.locE, F.locX, F.kinds, ⟨_, hn', fun k r' e1 e2 e3 => ?_, fun k xs e1 => ?_⟩, fun k c e1 e2 => ?_⟩ fun b o hb e => hs.extBut b o (fun q => F.locX (q ▸ hb)) e
  · exact fun b o e => hs.extBut b o (fun q => by rw [q, F.locE] at e; cases e) (F.keep b o e)
  · exact fun b o e => hs.extBut b o (fun q => by rw [q, F.locW] at e; cases e) (F.sub b o e)
  · obtain ⟨a, b', o, c⟩ := F.hid b hb
    exact ⟨a, b', o, hs.extBut b o (fun q => F.locX (q ▸ hb)) c⟩
  · have hk : k ≠ n := fun q => by
      subst q
      simp [Sg.ownIs] at e2
    obtain ⟨u, p, q⟩ := hl' k r' e1 (hoi k) e3
    exact ⟨u, (if_neg fun q => hk (nm_inj q)).trans p, q⟩
  · cases e1
    obtain ⟨nn, a⟩ := hp
    exact ⟨D, items, k1, if_pos rfl, hD, hE, hX, ⟨nn, hs.extBut _ _ hLD a⟩, hv, hl⟩
  · obtain ⟨b1, b2, b3, ov, b4, b5⟩ := F.cell k c e1 e2
    exact ⟨b1, b2, b3, ov, b4.sameBut hs (V.locs k c e2), b5⟩
theorem comp_own (V : EnvOk env ks) {s : Shared} (F : FR h₀ env ks he W₀ X W s.heap σ) (ho : σ.own = none) {n : Nat} {np : Pos} {l : List AV} (k1 : kindIn ks n = some .local) (hl : scals l = true) (Q E : Value → Shared → Prop)
    (q : ∀ h' tk W', W.le W' → KeepX X s.heap h' → FR h₀ env ks he W₀ X W' h' { vals := σ.vals, own := some (n, l) } → Q .none { s with heap := h', toks := tk }) : CPost prog w A W s l (some (assign (.Name (nm n) np) env)) Q E := by
  intro H tk Wk a Cd m items kk le sub old c1 c2 a1 a2 ne hp hv hn
  obtain ⟨oC, _, _, hC, _⟩ := id hn
  have F₂ : FR h₀ env ks he W₀ ([Cd] ++ X) Wk H σ := F.grow kk le sub old [Cd] (fun b hb => by
      rw [List.mem_singleton.mp hb]
      exact ⟨c1, c2, _, hC⟩)
  have notX : ∀ b, s.heap.get? b = none → b ∉ X := fun b e hm => by
    obtain ⟨o, ho⟩ := (F.hid b hm).2.2
    rw [ho] at e; cases e
  have hE : he.get? a = none := keep_none F.keep a2
  show wpAny _ _ (assign (.Name (nm n) np) env (.ref a)) _ _ _
  refine wpAny_assign_Name (store_own V F₂ ho k1 a1 hE (by simp [ne, notX a a2]) hp hv hl _ _ fun h' tk' F' k' => ?_)
  have hn' : h'.Ns Cd m := hn.at' fun o e => k' _ _ (by simp) e
  refine ⟨m, hn', fun h'' hs => ?_⟩
  have cX := notX Cd c2
  have kX : KeepX X s.heap h'' := fun b o hm e => hs.extBut b o (fun q => cX (q ▸ hm)) (k' b o (List.mem_append.mpr (.inr hm)) (kk _ _ e))
  exact q h'' tk' Wk le kX (FR.drop (I := Cd) F' (fun b o hb e => hs.extBut b o hb e) (fun hm => absurd hm cX))

theorem sx_asg {d : Nat} (R : Room A d) (B : Base prog w h₀ C d) (V : EnvOk env ks) (fu n : Nat) (np : Pos) (e : AE) (p : Pos) : SX prog w h₀ C A env ks he W₀ fu (.asg n np e p) := by
  intro X W s σ o F ev Q E q
  simp only [aexec] at ev
  split at ev
  · rename_i r σ₁ e1
    rw [Option.map_eq_some_iff] at ev
    obtain ⟨σ', e2, rfl⟩ := ev
    simp only [AS.toStmt]
    obtain ⟨b, hb, hc⟩ := swaps_ok e (nm n) np p.line env
    cases b with
    | false =>
      refine wpAny_Assign_Name (evS_ok R B V F e1 _ _ fun v h' tk W' le F' hv k => ?_) hb
      refine store_FR (s := { s with heap := h', toks := tk }) V F' hv e2 _ _ fun h'' tk' F'' k' => ?_
      exact q _ _ _ _ le ((KeepX.of k).trans k') ⟨rfl, F''⟩
    | true =>
      have hcomp := hc rfl
      rw [exec_Assign_Name_used _ _ _ _ hb]
      obtain ⟨W₁, le, F₁⟩ := F.freeze
      have rd := F₁.rd B.glob V (frz_own _)
      rw [frz_rho] at rd
      unfold evalS at e1
      split at e1
      · rename_i r' e3
        obtain ⟨l, rfl, g⟩ := (cs_ok R B e hcomp).use rd F₁.base F₁.sub e3
        cases e1
        refine wpAny_bind (wpAny_standAt (wpAny_bind (g _ _ _ (comp_store V F₁ e2 _ _ fun h' tk W' le' k F' => wpAny_pure ?_))))
        exact q _ _ _ _ (le.trans le') k ⟨rfl, F'⟩
      · cases e1
  · cases ev

theorem sx_own {d : Nat} (R : Room A d) (B : Base prog w h₀ C d) (V : EnvOk env ks) (fu n : Nat) (np : Pos) (e : AE) (p : Pos) : SX prog w h₀ C A env ks he W₀ fu (.own n np e p) := by
  intro X W s σ o F ev Q E q
  simp only [aexec] at ev
  split at ev
  · rename_i hcond
    simp only [Bool.and_eq_true, beq_iff_eq] at hcond
    obtain ⟨hf, k1⟩ := hcond
    split at ev
    · rename_i l e1
      split at ev
      · rename_i hl
        cases ev
        simp only [AS.toStmt]
        obtain ⟨W₁, le, F₁⟩ := F.freeze
        have rd := F₁.rd B.glob V (frz_own _)
        rw [frz_rho] at rd
        obtain ⟨b, hb, hc⟩ := swaps_ok e (nm n) np p.line env
        cases b with
        | false =>
          obtain ⟨l', e', g⟩ := new_ok R B hf rd F₁.base F₁.sub e1
          cases e'
          refine wpAny_Assign_Name (g _ _ fun a h' tk items k a2 hp hv => ?_) hb
          have a1 : W₁ a = none := by
            cases q : W₁ a with
            | none => rfl
            | some o => rw [F₁.sub _ _ q] at a2; cases a2
          have aX : a ∉ X := fun hm => by
            obtain ⟨o, ho⟩ := (F₁.hid a hm).2.2
            rw [ho] at a2; cases a2
          refine store_own (s := { s with heap := h', toks := tk }) V (F₁.same k) (frz_own _) k1 a1 (keep_none F₁.keep a2) aX hp (scals_any hl.1 hv) hl.1 _ _ fun h'' tk' F'' k' => ?_
          exact q _ _ _ _ le ((KeepX.of k).trans k') ⟨rfl, F''⟩
        | true =>
          rw [exec_Assign_Name_used _ _ _ _ hb]
          obtain ⟨l', e', g⟩ := (cs_ok R B e (hc rfl)).use rd F₁.base F₁.sub e1
          cases e'
          refine wpAny_bind (wpAny_standAt (wpAny_bind (g _ _ _ (comp_own V F₁ (frz_own _) k1 hl.1 _ _ fun h' tk W' le' k F' => wpAny_pure ?_))))
          exact q _ _ _ _ (le.trans le') k ⟨rfl, F'⟩
      · cases ev
    · cases ev
  · cases ev
end
end Mine
namespace Mine
section
variable {prog : Program} {w : World} {h₀ : Heap} {C : Cfg} {A : Around} {env : Env} {ks : Ks} {he : Heap} {W₀ : Wd} {X : List Addr} {W : Wd} {h : Heap} {σ : Sg}

theorem setVs_ok (V : EnvOk env ks) : ∀ (ns : List (Nat × Pos)) (xs : List AV) (vs : List Value) (σ σ' : Sg) (s : Shared) (Q : Unit → Shared → Prop) (E : Value → Shared → Prop),
    setVs ks (ns.map (·.1)) xs σ = some σ' → VRs W xs vs → FR h₀ env ks he W₀ X W s.heap σ → (∀ h' tk, FR h₀ env ks he W₀ X W h' σ' → KeepX X s.heap h' → Q () { s with heap := h', toks := tk }) →
    wpAny (model prog w) A (assignInOrder ((assignEach (ns.map fun x => Expr.Name (Mine.nm x.1) x.2) env).map (·.2)) vs) Q E s
  | [], xs, vs, σ, σ', s, Q, E, e, hv, F, q => by
    cases hv with
    | cons => simp [setVs] at e
    | nil =>
      simp only [List.map_nil, setVs, Option.some.injEq] at e
      subst e
      exact wpAny_assignInOrder_none (q _ s.toks F (fun _ _ _ e => e))
  | (n, p) :: ns, xs, vs, σ, σ', s, Q, E, e, hv, F, q => by
    cases hv with
    | nil => simp [setVs] at e
    | cons h1 hr =>
      simp only [List.map_cons, setVs] at e
      split at e
      · rename_i σ₁ e1
        refine wpAny_assignInOrder_more (wpAny_assign_Name (store_FR V F h1 e1 _ _ fun h' tk F' k => ?_))
        exact setVs_ok V ns _ _ σ₁ σ' { s with heap := h', toks := tk } _ _ e hr F' fun h'' tk' F'' k' => q h'' tk' F'' (KeepX.trans k k')
      · cases e
theorem setVs_len (ks : Ks) : ∀ (ns : List Nat) (xs : List AV) (σ σ' : Sg), setVs ks ns xs σ = some σ' → ns.length = xs.length
  | [], [], _, _, _ => rfl
  | [], _ :: _, _, _, e => by simp [setVs] at e
  | _ :: _, [], _, _, e => by simp [setVs] at e
  | _ :: ns, _ :: xs, σ, σ', e => by
    simp only [setVs] at e
    split at e
    · simp [setVs_len ks ns xs _ _ e]
    · cases e
theorem tupF_ok {d : Nat} (R : Room A d) (V : EnvOk env ks) {s : Shared} (F : FR h₀ env ks he W₀ X W s.heap σ) {ns : List (Nat × Pos)} {k : Nat} {tp : Pos} {xs : List AV} {a : Addr} {items : Array Value} {σ' : Sg} (e : setVs ks (ns.map (·.1)) xs σ = some σ') (hT : s.heap.IsTuple a items) (hv : VRs W xs items.toList) (Q : Unit → Shared → Prop) (E : Value → Shared → Prop)
    (q : ∀ h' tk, FR h₀ env ks he W₀ X W h' σ' → KeepX X s.heap h' → Q () { s with heap := h', toks := tk }) : wpAny (model prog w) A (assign (.Tuple (ns.map fun x => .Name (nm x.1) x.2) k tp) env (.ref a)) Q E s := by
  have l1 := VRs.length hv
  simp only [Array.length_toList] at l1
  have l2 := setVs_len _ _ _ _ _ e
  rw [List.length_map] at l2
  have hz := assignEach_len env ns
  refine wpAny_assign_Tuple R.handled hT (by rw [hz.1, l1, l2]) hz.2 fun h₁ hx₁ => ?_
  have k₁ : KeepH s.heap h₁ := fun b o e => hx₁ b o (Nat.ne_of_lt (Heap.lt_size e)) e
  exact setVs_ok V ns _ _ _ _ { s with heap := h₁, toks := s.toks } _ _ e hv (F.same k₁) fun h' tk F' k => q h' tk F' ((KeepX.of k₁).trans k)
theorem bindF_ok {d : Nat} (R : Room A d) (V : EnvOk env ks) {s : Shared} (F : FR h₀ env ks he W₀ X W s.heap σ) {t : Tgt} {x : AV} {v : Value} {σ' : Sg} (e : bindF ks t x σ = some σ') (hv : VR W x v) (Q : Unit → Shared → Prop) (E : Value → Shared → Prop)
    (q : ∀ h' tk, FR h₀ env ks he W₀ X W h' σ' → KeepX X s.heap h' → Q () { s with heap := h', toks := tk }) : wpAny (model prog w) A (assign t.toExpr env v) Q E s := by
  cases t with
  | one n p => exact wpAny_assign_Name (store_FR V F hv e Q E q)
  | tup ns k p =>
    cases hv with
    | tup e1 c1 d1 r1 => exact tupF_ok R V F e (isTup_of F.sub e1 c1 d1) r1 Q E q
    | _ => simp [bindF] at e

theorem assignEach_tuple (elts : List Expr) (k : Nat) (p : Pos) (env : Env) (v : Value) : assignAll v ((assignEach [.Tuple elts k p] env).map (fun x => x.2)) = assign (.Tuple elts k p) env v := rfl
theorem sx_tasg {d : Nat} (R : Room A d) (B : Base prog w h₀ C d) (V : EnvOk env ks) (fu : Nat) (ns : List (Nat × Pos)) (k : Nat) (tp : Pos) (e : AE) (p : Pos) : SX prog w h₀ C A env ks he W₀ fu (.tasg ns k tp e p) := by
  intro X W s σ o F ev Q E q
  simp only [aexec] at ev
  split at ev
  · cases ev
  · rename_i ht
    split at ev
    · rename_i vs σ₁ e1
      rw [Option.map_eq_some_iff] at ev
      obtain ⟨σ', e2, rfl⟩ := ev
      simp only [AS.toStmt]
      refine wpAny_Assign_stores (evS_ok R B V F e1 _ _ fun v h' tk W' le F' hv kk => ?_) (by cases e <;> rfl) (by cases e <;> first | rfl | cases ht)
      obtain ⟨a, o, items, n, rfl, e3, c1, d1, r1⟩ := inv_tup hv
      rw [assignEach_tuple]
      exact tupF_ok (s := { s with heap := h', toks := tk }) R V F' e2 (isTup_of F'.sub e3 c1 d1) r1 _ _ fun h'' tk' F'' k' => q _ _ _ _ le ((KeepX.of kk).trans k') ⟨rfl, F''⟩
    · cases ev

theorem sx_ret {d : Nat} (R : Room A d) (B : Base prog w h₀ C d) (V : EnvOk env ks) (fu : Nat) (e : AE) (p : Pos) : SX prog w h₀ C A env ks he W₀ fu (.ret e p) := by
  intro X W s σ o F ev Q E q
  simp only [aexec] at ev
  split at ev
  · rename_i r e1
    cases ev
    exact wpAny_Return_some (evF_ok R B V F e1 _ _ fun v h' tk W' le F' hv k => q _ _ _ _ le (KeepX.of k) ⟨v, _, rfl, F', hv⟩)
  · cases ev
theorem sx_brk (fu : Nat) (p : Pos) : SX prog w h₀ C A env ks he W₀ fu (.brk p) := by
  intro X W s σ o F ev Q E q
  cases ev
  exact wpAny_Break (q _ s.heap s.toks W (Wd.le_refl _) (KeepX.of (KeepH.refl _)) ⟨rfl, F⟩)
theorem sx_cont (fu : Nat) (p : Pos) : SX prog w h₀ C A env ks he W₀ fu (.cont p) := by
  intro X W s σ o F ev Q E q
  cases ev
  exact wpAny_Continue (q _ s.heap s.toks W (Wd.le_refl _) (KeepX.of (KeepH.refl _)) ⟨rfl, F⟩)

theorem look_ok (B : Base prog w h₀ C d) (V : EnvOk env ks) {s : Shared} (F : FR h₀ env ks he W₀ X W s.heap σ) {n : Nat} {r : AV} (e : look (σ.rho C.G ks) n = some r) (hs : scal r = true) (Q : Value → Shared → Prop) (E : Value → Shared → Prop)
    (q : ∀ v, VR W r v → Q v s) : wpAny (model prog w) A (loadName env (nm n)) Q E s := by
  obtain ⟨W₁, le, F₁⟩ := F.freeze
  have rd := F₁.rd B.glob V (frz_own _)
  rw [frz_rho] at rd
  obtain ⟨v, hv, hd, hl⟩ := rd.val n r e
  exact hl A Q E s (KeepH.refl _) (q v (scal_any hs hv))
theorem sx_aug {d : Nat} (R : Room A d) (B : Base prog w h₀ C d) (V : EnvOk env ks) (fu : Nat) (n : Nat) (np : Pos) (op : Operator) (e : AE) (p : Pos) : SX prog w h₀ C A env ks he W₀ fu (.aug n np op e p) := by
  intro X W s σ o F ev Q E q
  simp only [aexec] at ev
  split at ev
  · rename_i a b e1 e2
    split at ev
    · rw [Option.map_eq_some_iff] at ev
      obtain ⟨σ', e3, rfl⟩ := ev
      refine wpAny_AugAssign_Name (look_ok B V F e1 rfl _ _ fun v hv => ?_)
      have e4 : evalS C ks e σ = some (.int b, σ) := by unfold evalS; rw [e2]; rfl
      refine evS_ok R B V F e4 _ _ fun u h' tk W' le F' hu k => ?_
      cases hv
      cases hu
      refine PySem.AutoIntOps.iadd_0 ?_
      show wpAny (model prog w) A (storeName env (nm n) (.int (a + b) tk)) _ _ _
      exact store_FR (s := { s with heap := h', toks := tk + 1 }) V F' (.int _ _) e3 _ _ fun h'' tk' F'' k' => q _ _ _ _ le ((KeepX.of k).trans k') ⟨rfl, F''⟩
    · cases ev
  · cases ev
end
end Mine
namespace Mine
section
variable {prog : Program} {w : World} {h₀ : Heap} {C : Cfg} {A : Around} {env : Env} {ks : Ks} {he : Heap} {W₀ : Wd} {X : List Addr} {W : Wd} {h : Heap} {σ : Sg}

theorem FR.touch {I : Addr} (F : FR h₀ env ks he W₀ (I :: X) W h σ) {H : Heap} (k : ∀ b o, b ≠ I → h.get? b = some o → H.get? b = some o) (hI' : ∃ o, H.get? I = some o) : FR h₀ env ks he W₀ (I :: X) W H σ := by
  have G := F.drop (H := H) k fun _ => hI'
  obtain ⟨m, hn, hl, ho⟩ := F.loc
  have hI := F.hid I List.mem_cons_self
  have hLI : env.locals ≠ I := fun q => F.locX (q ▸ List.mem_cons_self)
  refine ⟨G.keep, G.base, G.le0, G.sub, G.old, fun b hb => ?_, G.locW, G.locE, F.locX, G.kinds, ⟨m, hn.at' fun o e => k _ _ hLI e, hl, fun n xs e => ?_⟩, fun n c e1 e2 => ?_⟩
  · rcases List.mem_cons.mp hb with rfl | hb
    · exact ⟨hI.1, hI.2.1, hI'⟩
    · exact G.hid b hb
  · obtain ⟨D, items, a1, a2, a3, a4, a5, a6, a7, a8⟩ := ho n xs e
    exact ⟨D, items, a1, a2, a3, a4, a5, a6.at fun o e => k _ _ (fun q => a5 (q ▸ List.mem_cons_self)) e, a7, a8⟩
  · obtain ⟨a1, a2, a3, ov, ⟨oc, h1, h2⟩, a5⟩ := F.cell n c e1 e2
    exact ⟨a1, a2, a3, ov, ⟨oc, k _ _ (fun q => a3 (q ▸ List.mem_cons_self)) h1, h2⟩, a5⟩
/-- a new hidden thing -/
theorem FR.hide (F : FR h₀ env ks he W₀ X W h σ) {H : Heap} {I : Addr} (k : KeepH h H) (hI : h.get? I = none) (hI' : ∃ o, H.get? I = some o) : FR h₀ env ks he W₀ (I :: X) W H σ :=
  F.grow k (Wd.le_refl _) (fun b o e => k _ _ (F.sub _ _ e)) (fun b o e _ => e) [I] (fun b hb => by
    rw [List.mem_singleton.mp hb]
    refine ⟨?_, hI, hI'⟩
    cases q : W I with
    | none => rfl
    | some o => rw [F.sub _ _ q] at hI; cases hI)

theorem sx_ife {d : Nat} (R : Room A d) (B : Base prog w h₀ C d) (V : EnvOk env ks) (fu : Nat) (t : AE) {b o : ASs} (p : Pos) (hb : SXs prog w h₀ C A env ks he W₀ fu b) (ho : SXs prog w h₀ C A env ks he W₀ fu o) : SX prog w h₀ C A env ks he W₀ fu (.ife t b o p) := by
  intro X W s σ out F ev Q E q
  simp only [aexec] at ev
  split at ev
  · rename_i e1
    refine wpAny_If (evB_ok R B V F e1 _ _ fun h' tk F' k => ?_)
    rw [if_pos rfl]
    exact hb X W { s with heap := h', toks := tk } σ out F' ev _ _ fun fl h'' tk' W' le kx ps => q fl h'' tk' W' le ((KeepX.of k).trans kx) ps
  · rename_i e1
    refine wpAny_If (evB_ok R B V F e1 _ _ fun h' tk F' k => ?_)
    rw [if_neg (by decide)]
    exact ho X W { s with heap := h', toks := tk } σ out F' ev _ _ fun fl h'' tk' W' le kx ps => q fl h'' tk' W' le ((KeepX.of k).trans kx) ps
  · cases ev

theorem sxs_nil (fu : Nat) : SXs prog w h₀ C A env ks he W₀ fu .nil := by
  intro X W s σ out F ev Q E q
  cases ev
  exact wpAny_execs_nil (q _ s.heap s.toks W (Wd.le_refl _) (KeepX.of (KeepH.refl _)) ⟨rfl, F⟩)
theorem sxs_cons (fu : Nat) {a : AS} {r : ASs} (ha : SX prog w h₀ C A env ks he W₀ fu a) (hr : SXs prog w h₀ C A env ks he W₀ fu r) : SXs prog w h₀ C A env ks he W₀ fu (.cons a r) := by
  intro X W s σ out F ev Q E q
  simp only [aexecs] at ev
  show wpAny _ _ (execs (a.toStmt :: r.toStmts) env) _ _ _
  cases e1 : aexec C fu ks a σ with
  | none => rw [e1] at ev; cases ev
  | some o1 =>
    rw [e1] at ev
    refine wpAny_execs_cons (ha X W s σ o1 F e1 _ _ fun fl h' tk W' le kx ps => ?_)
    cases o1 with
    | next σ₁ =>
      obtain ⟨rfl, F'⟩ := ps
      exact hr X W' { s with heap := h', toks := tk } σ₁ out F' ev _ _ fun fl h'' tk' W'' le' kx' ps => q fl h'' tk' W'' (le.trans le') (kx.trans kx') ps
    | brk σ₁ =>
      cases ev
      obtain ⟨rfl, F'⟩ := ps
      exact q _ _ _ _ le kx ⟨rfl, F'⟩
    | cont σ₁ =>
      cases ev
      obtain ⟨rfl, F'⟩ := ps
      exact q _ _ _ _ le kx ⟨rfl, F'⟩
    | ret v =>
      cases ev
      obtain ⟨v', σ', rfl, F', hv⟩ := ps
      exact q _ _ _ _ le kx ⟨v', σ', rfl, F', hv⟩

theorem sx_whl {d : Nat} (R : Room A d) (B : Base prog w h₀ C d) (V : EnvOk env ks) (fu : Nat) (t : AE) {b : ASs} (p : Pos) (hb : SXs prog w h₀ C A env ks he W₀ fu b) : SX prog w h₀ C A env ks he W₀ fu (.whl t b p) := by
  intro X W s σ out F ev Q E q
  simp only [aexec] at ev
  refine wpAny_While (codeAny_whileLoop (fun k s' => ∃ H tk σ' W', s' = { s with heap := H, toks := tk } ∧ W.le W' ∧ KeepX X s.heap H ∧ FR h₀ env ks he W₀ X W' H σ' ∧ iterW (evalB C ks t) (aexecs C fu ks b) k σ' = some out)
    (fun k s' hI => ?_) fu ⟨s.heap, s.toks, σ, W, rfl, Wd.le_refl _, KeepX.of (KeepH.refl _), F, ev⟩)
  obtain ⟨H, tk, σ', W', rfl, le, kx, F', ev'⟩ := hI
  cases k with
  | zero => simp [iterW] at ev'
  | succ k =>
    simp only [iterW] at ev'
    split at ev'
    · rename_i e1
      refine evB_ok (s := { s with heap := H, toks := tk }) R B V F' e1 _ _ fun h₁ tk₁ F₁ k₁ => ?_
      rw [if_pos rfl]
      split at ev'
      · rename_i σ₂ e2
        refine hb X W' { s with heap := h₁, toks := tk₁ } σ' _ F₁ e2 _ _ fun fl h₂ tk₂ W₂ le₂ kx₂ ps => ?_
        obtain ⟨rfl, F₂⟩ := ps
        exact ⟨k, Nat.lt_succ_self _, h₂, tk₂, σ₂, W₂, rfl, le.trans le₂, (kx.trans (KeepX.of k₁)).trans kx₂, F₂, ev'⟩
      · rename_i σ₂ e2
        refine hb X W' { s with heap := h₁, toks := tk₁ } σ' _ F₁ e2 _ _ fun fl h₂ tk₂ W₂ le₂ kx₂ ps => ?_
        obtain ⟨rfl, F₂⟩ := ps
        exact ⟨k, Nat.lt_succ_self _, h₂, tk₂, σ₂, W₂, rfl, le.trans le₂, (kx.trans (KeepX.of k₁)).trans kx₂, F₂, ev'⟩
      · rename_i σ₂ e2
        cases ev'
        refine hb X W' { s with heap := h₁, toks := tk₁ } σ' _ F₁ e2 _ _ fun fl h₂ tk₂ W₂ le₂ kx₂ ps => ?_
        obtain ⟨rfl, F₂⟩ := ps
        exact q _ _ _ _ (le.trans le₂) ((kx.trans (KeepX.of k₁)).trans kx₂) ⟨rfl, F₂⟩
      · rename_i r e2
        cases ev'
        refine hb X W' { s with heap := h₁, toks := tk₁ } σ' _ F₁ e2 _ _ fun fl h₂ tk₂ W₂ le₂ kx₂ ps => ?_
        obtain ⟨v, σ₂, rfl, F₂, hv⟩ := ps
        exact q _ _ _ _ (le.trans le₂) ((kx.trans (KeepX.of k₁)).trans kx₂) ⟨v, σ₂, rfl, F₂, hv⟩
      · cases ev'
    · rename_i e1
      cases ev'
      refine evB_ok (s := { s with heap := H, toks := tk }) R B V F' e1 _ _ fun h₁ tk₁ F₁ k₁ => ?_
      rw [if_neg (by decide)]
      exact wpAny_execs_nil (q _ _ _ _ le (kx.trans (KeepX.of k₁)) ⟨rfl, F₁⟩)
    · cases ev'

theorem iterF_cons {bind : AV → Sg → Option Sg} {body : Sg → Option Out} {xs : List AV} {i : Nat} {x : AV} (hx : xs[i]? = some x) (σ : Sg) : iterF bind body (xs.drop i) σ = iterF bind body (x :: xs.drop (i + 1)) σ := by
  obtain ⟨hlt, e⟩ := List.getElem?_eq_some_iff.mp hx
  rw [List.drop_eq_getElem_cons hlt, e]

/-- the body of a loop, and what comes then -/
theorem turn_ok {fu : Nat} {b : ASs} (hb : SXs prog w h₀ C A env ks he W₀ fu b) {bind : AV → Sg → Option Sg} {rest : List AV} {σ₁ : Sg} {out : Out} {I : Addr} {s : Shared} (F : FR h₀ env ks he W₀ (I :: X) W s.heap σ₁)
    (ev : (match aexecs C fu ks b σ₁ with
      | some (.next σ₂) => iterF bind (aexecs C fu ks b) rest σ₂
      | some (.cont σ₂) => iterF bind (aexecs C fu ks b) rest σ₂
      | some (.brk σ₂) => some (.next σ₂)
      | some (.ret r) => some (.ret r)
      | none => none) = some out) (Q : Flow → Shared → Prop) (E : Value → Shared → Prop)
    (again : ∀ fl h' tk W' σ₂, fl = .next ∨ fl = .cont → W.le W' → KeepX (I :: X) s.heap h' → FR h₀ env ks he W₀ (I :: X) W' h' σ₂ → iterF bind (aexecs C fu ks b) rest σ₂ = some out → Q fl { s with heap := h', toks := tk })
    (stop : ∀ h' tk W' σ₂, W.le W' → KeepX (I :: X) s.heap h' → FR h₀ env ks he W₀ (I :: X) W' h' σ₂ → out = .next σ₂ → Q .brk { s with heap := h', toks := tk })
    (back : ∀ h' tk W' σ₂ v r, W.le W' → KeepX (I :: X) s.heap h' → FR h₀ env ks he W₀ (I :: X) W' h' σ₂ → VR W' r v → out = .ret r → Q (.ret v) { s with heap := h', toks := tk }) :
    wpAny (model prog w) A (execs b.toStmts env) Q E s := by
  split at ev
  · rename_i σ₂ e2
    refine hb _ W s σ₁ _ F e2 _ _ fun fl h₂ tk₂ W₂ le₂ kx₂ ps => ?_
    obtain ⟨rfl, F₂⟩ := ps
    exact again _ _ _ _ _ (.inl rfl) le₂ kx₂ F₂ ev
  · rename_i σ₂ e2
    refine hb _ W s σ₁ _ F e2 _ _ fun fl h₂ tk₂ W₂ le₂ kx₂ ps => ?_
    obtain ⟨rfl, F₂⟩ := ps
    exact again _ _ _ _ _ (.inr rfl) le₂ kx₂ F₂ ev
  · rename_i σ₂ e2
    cases ev
    refine hb _ W s σ₁ _ F e2 _ _ fun fl h₂ tk₂ W₂ le₂ kx₂ ps => ?_
    obtain ⟨rfl, F₂⟩ := ps
    exact stop _ _ _ _ le₂ kx₂ F₂ rfl
  · rename_i r e2
    cases ev
    refine hb _ W s σ₁ _ F e2 _ _ fun fl h₂ tk₂ W₂ le₂ kx₂ ps => ?_
    obtain ⟨v, σ₂, rfl, F₂, hv⟩ := ps
    exact back _ _ _ _ _ _ le₂ kx₂ F₂ hv rfl
  · cases ev

theorem sx_fors {d : Nat} (R : Room A d) (B : Base prog w h₀ C d) (V : EnvOk env ks) (fu : Nat) (t : Tgt) (e : AE) {b : ASs} (p : Pos) (hb : SXs prog w h₀ C A env ks he W₀ fu b) : SX prog w h₀ C A env ks he W₀ fu (.fors t e b p) := by
  intro X W s σ out F ev Q E q
  simp only [aexec] at ev
  split at ev
  · rename_i it e1
    split at ev
    · rename_i xs hxs
      simp only [AS.toStmt]
      refine wpAny_For (evFor_ok R B V F e1 _ _ fun v h₁ tk₁ W₁ le₁ F₁ hv k₁ => ?_) (folded_plain e env)
      refine iter_ok (s := { s with heap := h₁, toks := tk₁ }) R F₁.sub hv hxs _ _ fun I h₂ fp P St Y => ?_
      obtain ⟨oI, TI, hoI, hcI, hTI⟩ := Y.cls 0 _ Y.st
      have F₂ : FR h₀ env ks he W₀ (I :: X) W₁ h₂ (forS e σ) := F₁.hide Y.keep Y.new ⟨_, hoI⟩
      have nX : I ∉ X := fun hm => by
        obtain ⟨o, ho⟩ := (F₁.hid I hm).2.2
        have := Y.new; rw [ho] at this; cases this
      refine codeAny_forLoop_any (fun k s' => ∃ H tk i σ' W', s' = { s with heap := H, toks := tk } ∧ i ≤ xs.length ∧ k = xs.length + 1 - i ∧ St i H ∧ W₁.le W' ∧ KeepX X s.heap H ∧ FR h₀ env ks he W₀ (I :: X) W' H σ' ∧
        iterF (bindF ks t) (aexecs C fu ks b) (xs.drop i) σ' = some out) (fun k s' hI => ?_) (xs.length + 1) ⟨h₂, tk₁, 0, forS e σ, W₁, rfl, Nat.zero_le _, rfl, Y.st, Wd.le_refl _, (KeepX.of k₁).trans (KeepX.of Y.keep), F₂, ev⟩
      obtain ⟨H, tk, i, σ', W', rfl, hi, rfl, hst, le', kx, F', ev'⟩ := hI
      by_cases hlt : i < xs.length
      · refine Y.walks.item i _ _ _ hlt hst fun u h₃ tk₃ hP hst₃ hk₃ => ?_
        have hk₃' : ∀ b o, b ≠ I → H.get? b = some o → h₃.get? b = some o := fun b o hb e => hk₃ b o (by simpa using hb) e
        obtain ⟨o₃, _, ho₃, _⟩ := Y.cls _ _ hst₃
        have F₃ := F'.touch hk₃' ⟨_, ho₃⟩
        have kx₃ : KeepX X s.heap h₃ := fun b o hm e => hk₃' b o (fun q => nX (q ▸ hm)) (kx b o hm e)
        obtain ⟨x, hx, hvr⟩ := Y.val i u hP
        rw [iterF_cons hx] at ev'
        simp only [iterF] at ev'
        split at ev'
        · rename_i σ₁ e2
          refine Y.go _ { s with heap := h₃, toks := tk₃ } _ _ _ _ hst₃ ?_
          refine bindF_ok (s := { s with heap := h₃, toks := tk₃ }) R V F₃ e2 (hvr.mono le') _ _ fun h₄ tk₄ F₄ kx₄ => ?_
          have frame : ∀ {Wa Wb : Wd} {ha hb : Heap} {j : Nat}, W₁.le Wa → Wa.le Wb → Sub Wa ha → Sub Wb hb → KeepX (I :: X) ha hb → St j ha → St j hb := fun l1 l2 s1 s2 kk st => Y.walks.frame _ _ _ st fun b hm o eb => by
            rcases Y.old b hm with rfl | ⟨o', ho'⟩
            · exact kk _ _ List.mem_cons_self eb
            · have h1 := s1 _ _ (l1 _ _ ho')
              rw [eb] at h1
              cases h1
              exact s2 _ _ (l2 _ _ (l1 _ _ ho'))
          have hst₄ : St (i + 1) h₄ := frame le' (Wd.le_refl _) F₃.sub F₄.sub kx₄ hst₃
          have kx₄' : KeepX X s.heap h₄ := kx₃.trans fun b o hm e => kx₄ b o (List.mem_cons_of_mem _ hm) e
          refine turn_ok (s := { s with heap := h₄, toks := tk₄ }) hb F₄ ev' _ _ (fun fl h₅ tk₅ W₅ σ₂ hfl le₅ kx₅ F₅ ev₅ => ?_) (fun h₅ tk₅ W₅ σ₂ le₅ kx₅ F₅ ho => ?_) (fun h₅ tk₅ W₅ σ₂ v r le₅ kx₅ F₅ hv ho => ?_)
          · have st₅ : St (i + 1) h₅ := frame le' le₅ F₄.sub F₅.sub kx₅ hst₄
            have : ∃ m, m < xs.length + 1 - i ∧ ∃ H tk i σ' W', ({ s with heap := h₅, toks := tk₅ } : Shared) = { s with heap := H, toks := tk } ∧ i ≤ xs.length ∧ m = xs.length + 1 - i ∧ St i H ∧ W₁.le W' ∧ KeepX X s.heap H ∧ FR h₀ env ks he W₀ (I :: X) W' H σ' ∧
              iterF (bindF ks t) (aexecs C fu ks b) (xs.drop i) σ' = some out :=
              ⟨xs.length + 1 - (i + 1), by omega, h₅, tk₅, i + 1, σ₂, W₅, rfl, hlt, rfl, st₅, le'.trans le₅, kx₄'.trans fun b o hm e => kx₅ b o (List.mem_cons_of_mem _ hm) e, F₅, ev₅⟩
            rcases hfl with rfl | rfl
            · exact this
            · exact this
          · subst ho
            exact q _ _ _ W₅ ((le₁.trans le').trans le₅) (kx₄'.trans fun b o hm e => kx₅ b o (List.mem_cons_of_mem _ hm) e) ⟨rfl, F₅.drop (fun b o _ e => e) fun hm => absurd hm nX⟩
          · subst ho
            exact q _ _ _ W₅ ((le₁.trans le').trans le₅) (kx₄'.trans fun b o hm e => kx₅ b o (List.mem_cons_of_mem _ hm) e) ⟨v, σ₂, rfl, F₅.drop (fun b o _ e => e) fun hm => absurd hm nX, hv⟩
        · cases ev'
      · obtain rfl : i = xs.length := Nat.le_antisymm hi (Nat.not_lt.mp hlt)
        refine Y.walks.done _ _ _ hst fun h₃ tk₃ hk₃ => ?_
        have hk₃' : ∀ b o, b ≠ I → H.get? b = some o → h₃.get? b = some o := fun b o hb e => hk₃ b o (by simpa using hb) e
        rw [List.drop_length] at ev'
        cases ev'
        refine wpAny_execs_nil ?_
        exact q _ _ _ W' (le₁.trans le') (fun b o hm e => hk₃' b o (fun q => nX (q ▸ hm)) (kx b o hm e)) ⟨rfl, F'.drop hk₃' fun hm => absurd hm nX⟩
    · cases ev
  · cases ev
end
end Mine
namespace Mine
section
variable {prog : Program} {w : World} {h₀ : Heap} {C : Cfg} {A : Around} {env : Env} {ks : Ks} {he : Heap} {W₀ : Wd} {X : List Addr} {W : Wd} {h : Heap} {σ : Sg}

/-- the own list, and how it may change -/
theorem FR.upd (V : EnvOk env ks) (F : FR h₀ env ks he W₀ X W h σ) {n : Nat} {xs : List AV} (ho : σ.own = some (n, xs)) : ∃ D items, h.PlainList D items ∧ VRs W xs items.toList ∧ scals xs = true ∧ Looks (model prog w) h (loadName env (nm n)) (.ref D) ∧
    ∀ (H : Heap) (items' : Array Value) (xs' : List AV), (∀ b o, b ≠ D → h.get? b = some o → H.get? b = some o) → H.PlainList D items' → VRs W xs' items'.toList → scals xs' = true →
      FR h₀ env ks he W₀ X W H { vals := σ.vals, own := some (n, xs') } ∧ KeepX X h H := by
  obtain ⟨m, hn, hl, hown⟩ := F.loc
  obtain ⟨D, items, a1, a2, a3, a4, a5, a6, a7, a8⟩ := hown n xs ho
  refine ⟨D, items, a6, a7, a8, fun A Q E s ks' q => wpAny_loadName_local V.kind ((V.kof n).trans a1) (hn.keeps ks') a2 q, fun H items' xs' k hp hv hs => ?_⟩
  have hLD := ns_list hn a6
  have e1 : ∀ k, Sg.ownIs { vals := σ.vals, own := some (n, xs') } k = σ.ownIs k := fun k => by unfold Sg.ownIs; rw [ho]
  refine ⟨⟨fun b o e => k b o (fun q => by rw [q, a4] at e; cases e) (F.keep b o e), F.base, F.le0, fun b o e => k b o (fun q => by rw [q, a3] at e; cases e) (F.sub b o e), F.old, fun b hb => ?_, F.locW, F.locE, F.locX, F.kinds, ⟨m, hn.at' fun o e => k _ _ (Ne.symm hLD) e, fun k' r p q t => ?_, fun k' ys e => ?_⟩, fun k' c p q => ?_⟩, fun b o hm e => k b o (fun q => a5 (q ▸ hm)) e⟩
  · obtain ⟨p, q, o, r⟩ := F.hid b hb
    exact ⟨p, q, o, k b o (fun q => a5 (q ▸ hb)) r⟩
  · exact hl k' r p ((e1 k').symm.trans q) t
  · cases e
    exact ⟨D, items', a1, a2, a3, a4, a5, hp, hv, hs⟩
  · obtain ⟨b1, b2, b3, ov, ⟨oc, h1, h2⟩, b5⟩ := F.cell k' c p q
    refine ⟨b1, b2, b3, ov, ⟨oc, k _ _ (fun q => ?_) h1, h2⟩, b5⟩
    obtain ⟨nn, h3⟩ := a6
    rw [← q, h1] at h3
    cases h3
    cases h2

theorem VRs.reverse {W : Wd} : ∀ {xs : List AV} {vs : List Value}, VRs W xs vs → VRs W xs.reverse vs.reverse
  | _, _, .nil => .nil
  | _, _, .cons a b => by
    rw [List.reverse_cons, List.reverse_cons]
    exact VRs.append (VRs.reverse b) (.cons a .nil)
theorem scals_all : ∀ {xs : List AV}, scals xs = true ↔ ∀ x ∈ xs, scal x = true
  | [] => by simp [scals]
  | x :: r => by simp [scals, scals_all (xs := r)]
theorem scals_reverse {xs : List AV} (h : scals xs = true) : scals xs.reverse = true := scals_all.mpr fun x hx => scals_all.mp h x (List.mem_reverse.mp hx)
theorem scals_append {xs : List AV} {x : AV} (h : scals xs = true) (hx : scal x = true) : scals (xs ++ [x]) = true := scals_all.mpr fun y hy => by
  rcases List.mem_append.mp hy with h1 | h1
  · exact scals_all.mp h y h1
  · rw [List.mem_singleton.mp h1]; exact hx
theorem isPlainList {h : Heap} {D : Addr} {items : Array Value} (hp : h.PlainList D items) : h.IsList D items := let ⟨n, e⟩ := hp; ⟨_, e, rfl, n, rfl⟩

/-- a statement that calls a list's method -/
theorem meth_ok (V : EnvOk env ks) {s : Shared} {n : Nat} {np ap cp p : Pos} {name : Str} {id : String} {es : List Expr} {D : Addr} {items : Array Value} (hname : (name == ("super" : Str)) = false)
    (hld : Looks (model prog w) s.heap (loadName env (nm n)) (.ref D)) (hd : nm n ≠ ("__debug__" : Str)) (hp : s.heap.PlainList D items) (slot : Slot "list" name id) (hty : typeOf (.builtin id) = pure (.type "method_descriptor"))
    (hline : Nat.beq ap.endLine cp.line = true) (hform : methodCallForm (es.length + 0) (backTo cp (starEach es env)) [] = true) (hplain : (backTo cp (starEach es env)).any (·.1) = false) (Q : Flow → Shared → Prop) (E : Value → Shared → Prop)
    (q : wpAny (model prog w) A (evalArgs (.builtin id) true (backTo cp (starEach es env)) []) (fun a s₁ => wpAny (model prog w) A (call (.builtin id) ([.ref D] ++ a.pos) a.kw) (fun v s₂ => v = .none ∧ Q .next s₂) E s₁) E s) :
    wpAny (model prog w) A (exec (.Expr (.Call (.Attribute (.Name (nm n) np) name ap) es [] cp) p) env) Q E s := by
  refine wpAny_Expr ?_ (by unfold interactive; rw [V.kind]; rfl) rfl
  show wpAny _ _ (do
    let ov ← attributeBase (.Name (nm n) np) name env (eval (.Name (nm n) np) env)
    standAt ap.atName
    methodCall (.Name (nm n) np) name ap cp env ov (es.length + 0) (backTo cp (starEach es env)) []) _ _ _
  refine wpAny_bind ?_
  show wpAny _ _ (eval (.Name (nm n) np) env) _ _ _
  refine wpAny_Name (hld A _ E s (KeepH.refl _) ?_) (by simpa using hd)
  refine wpAny_bind (wpAny_standAt ?_)
  unfold methodCall
  rw [hform]
  refine wpAny_bind (wpAny_holding ?_)
  show wpAny _ _ (getMethod (.ref D) name _) _ _ _
  have ⟨nn, e⟩ := hp
  refine getMethod_list_of slot hty (isPlainList hp) ⟨_, e, rfl⟩ ?_
  have hpos : methodCallPos true (.Name (nm n) np) env ap cp = pure cp := by
    unfold methodCallPos
    have : (ap.endLine == cp.line) = true := by simpa using Nat.eq_of_beq_eq_true hline
    rw [this]
    rfl
  show wpAny _ _ (methodCallPos true _ env ap cp >>= _) _ _ _
  rw [hpos]
  refine wpAny_bind (wpAny_pure (Calls.callWith_builtin hplain (wpAny_mono q (fun a s₁ h₁ => wpAny_mono h₁ (fun v s₂ h₂ => ?_) fun _ _ x => x) fun _ _ x => x)))
  obtain ⟨rfl, h₂⟩ := h₂
  exact h₂

theorem notDbg (V : EnvOk env ks) {n : Nat} {k : NameKind} (h : kindIn ks n = some k) : nm n ≠ ("__debug__" : Str) := fun q => by
  have := nm_inj (q.trans nm_dbg.symm)
  subst this
  rw [V.dbg] at h
  cases h
theorem FR.ownKind (F : FR h₀ env ks he W₀ X W h σ) {n : Nat} {xs : List AV} (ho : σ.own = some (n, xs)) : kindIn ks n = some .local := by
  obtain ⟨m, hn, hl, hown⟩ := F.loc
  obtain ⟨D, items, a1, _⟩ := hown n xs ho
  exact a1

theorem sx_rev {d : Nat} (R : Room A d) (B : Base prog w h₀ C d) (V : EnvOk env ks) (fu n : Nat) (np ap cp p : Pos) : SX prog w h₀ C A env ks he W₀ fu (.rev n np ap cp p) := by
  intro X W s σ o F ev Q E q
  simp only [aexec] at ev
  split at ev
  · rename_i m xs hline ho
    split at ev
    · rename_i hmn
      have := Nat.eq_of_beq_eq_true hmn
      subst this
      split at ev
      · rename_i hsz
        cases ev
        obtain ⟨D, items, hp, hv, hsc, hld, g⟩ := F.upd (prog := prog) (w := w) V ho
        have l1 := VRs.length hv
        simp only [Array.length_toList] at l1
        obtain ⟨nn, e⟩ := id hp
        simp only [AS.toStmt]
        refine meth_ok V (by decide +kernel) hld (notDbg V (F.ownKind ho)) hp PySem.F.slot_list_reverse PySem.F.type_list_reverse hline (by rfl) (by rfl) _ _ ?_
        refine PyProof.Rows.evalArgs_empty ?_
        show wpAny _ _ (call (.builtin "list.reverse") [.ref D]) _ _ _
        refine call_meets PySem.F.slot_list_reverse ⟨_, e, rfl⟩ PySem.F.entry_list_reverse (PySem.F.args_list_reverse_1 _) (AutoSeq1.list_reverse_list_0 D items nn (by show _ ≤ 2 ^ 24; omega)) ⟨e, ?_⟩
        have hp' : (s.heap.update D (Obj.mapSeq fun x => x.reverse)).PlainList D items.toList.reverse.toArray :=
          ⟨nn, (Heap.get?_update_self _ e (by rw [mapSeq_reverse]; rfl)).trans (congrArg some (mapSeq_reverse items nn))⟩
        have hv' : VRs W xs.reverse items.toList.reverse.toArray.toList := VRs.reverse hv
        obtain ⟨F', kx⟩ := g _ _ _ (fun b o hb e => (Heap.SameBut.update ..).extBut b o hb e) hp' hv' (scals_reverse hsc)
        exact ⟨rfl, q _ _ _ W (Wd.le_refl _) kx ⟨rfl, F'⟩⟩
      · cases ev
    · cases ev
  · cases ev

theorem one_ok {d : Nat} (R : Room A d) (B : Base prog w h₀ C d) (V : EnvOk env ks) {s : Shared} (F : FR h₀ env ks he W₀ X W s.heap σ) {e : AE} {r : AV} (ev : aeval C e (cnOf ks) (σ.rho C.G ks) = some r) (f : Value) (cp : Pos) (Q : Args → Shared → Prop) (E : Value → Shared → Prop)
    (q : ∀ v h' tk W', W.le W' → FR h₀ env ks he W₀ X W' h' σ.frz → (scal r = true → FR h₀ env ks he W₀ X W h' σ) → VR W' r v → KeepH s.heap h' → Q ⟨[v], []⟩ { s with heap := h', toks := tk }) :
    wpAny (model prog w) A (evalArgs f true (backTo cp (starEach [e.toExpr] env)) []) Q E s := by
  obtain ⟨W₁, le, F₁⟩ := F.freeze
  have rd := F₁.rd B.glob V (frz_own σ)
  rw [frz_rho] at rd
  have e2 : aevals C (.cons e .nil) (cnOf ks) (σ.rho C.G ks) = some [r] := by simp only [aevals, ev]
  refine evalArgs_of cp env (.cons e .nil) f (ses_ok R B (.cons e .nil) _ _ _ _ _ _ cp rd F₁.base F₁.sub e2 _ _ fun vs h' tk k hv => ?_)
  obtain ⟨v, rfl, hv1⟩ := vrs_one hv
  exact q v h' tk _ (le.trans (ext_le F₁.sub)) (F₁.step k) (fun _ => F.same k) hv1 k

theorem sx_app {d : Nat} (R : Room A d) (B : Base prog w h₀ C d) (V : EnvOk env ks) (fu n : Nat) (np ap : Pos) (e : AE) (cp p : Pos) : SX prog w h₀ C A env ks he W₀ fu (.app n np ap e cp p) := by
  intro X W s σ o F ev Q E q
  simp only [aexec] at ev
  split at ev
  · rename_i m xs r hline ho e1
    split at ev
    · rename_i hc
      simp only [Bool.and_eq_true] at hc
      obtain ⟨hmn, hs⟩ := hc
      have := Nat.eq_of_beq_eq_true hmn
      subst this
      split at ev
      · rename_i hsz
        cases ev
        obtain ⟨D, items, hp, hv, hsc, hld, g⟩ := F.upd (prog := prog) (w := w) V ho
        have l1 := VRs.length hv
        simp only [Array.length_toList] at l1
        simp only [AS.toStmt]
        have hst : starEach [e.toExpr] env = [(false, eval e.toExpr env)] := by cases e <;> rfl
        refine meth_ok V (by decide +kernel) hld (notDbg V (F.ownKind ho)) hp slot_list_append type_list_append hline (by rw [hst]; rfl) (by rw [hst]; rfl) _ _ ?_
        refine one_ok R B V F e1 _ _ _ _ fun v h₁ tk₁ W₁ le₁ _ F₁ hvr k₁ => ?_
        show wpAny _ _ (call (.builtin "list.append") [.ref D, v]) _ _ _
        have hp₁ : h₁.PlainList D items := hp.at fun o e => k₁ _ _ e
        refine wpAny_list_append_plain (s := { s with heap := h₁, toks := tk₁ }) (hsz := by show _ ≤ 2 ^ 24; omega) hp₁ fun H hp' hsame => ?_
        have hvs : VRs W (xs ++ [r]) (items.push v).toList := by
          rw [Array.toList_push]
          exact VRs.append hv (.cons (scal_any hs hvr) .nil)
        obtain ⟨F', kx⟩ := g H (items.push v) (xs ++ [r]) (fun b o hb e => hsame.extBut b o hb (k₁ _ _ e)) hp' hvs (scals_append hsc hs)
        exact ⟨rfl, q _ _ _ W (Wd.le_refl _) kx ⟨rfl, F'⟩⟩
      · cases ev
    · cases ev
  · cases ev
end
end Mine
namespace Mine
section
variable {prog : Program} {w : World} {h₀ : Heap} {C : Cfg} {A : Around} {env : Env} {ks : Ks} {he : Heap} {W₀ : Wd} {X : List Addr} {W : Wd} {h : Heap} {σ : Sg}

theorem FR.touch2 {I J : Addr} (F : FR h₀ env ks he W₀ (I :: J :: X) W h σ) {H : Heap} (k : ∀ b o, b ≠ I → b ≠ J → h.get? b = some o → H.get? b = some o) (hI : ∃ o, H.get? I = some o) (hJ : ∃ o, H.get? J = some o) : FR h₀ env ks he W₀ (I :: J :: X) W H σ := by
  obtain ⟨m, hn, hl, ho⟩ := F.loc
  have xI := F.hid I List.mem_cons_self
  have xJ := F.hid J (List.mem_cons_of_mem _ List.mem_cons_self)
  have hLI : env.locals ≠ I := fun q => F.locX (q ▸ List.mem_cons_self)
  have hLJ : env.locals ≠ J := fun q => F.locX (q ▸ List.mem_cons_of_mem _ List.mem_cons_self)
  refine ⟨fun b o e => k b o (fun q => by rw [q, xI.2.1] at e; cases e) (fun q => by rw [q, xJ.2.1] at e; cases e) (F.keep b o e), F.base, F.le0, fun b o e => k b o (fun q => by rw [q, xI.1] at e; cases e) (fun q => by rw [q, xJ.1] at e; cases e) (F.sub b o e), F.old, fun b hb => ?_, F.locW, F.locE, F.locX, F.kinds, ⟨m, hn.at' fun o e => k _ _ hLI hLJ e, hl, fun n xs e => ?_⟩, fun n c e1 e2 => ?_⟩
  · obtain ⟨p, q, o, r⟩ := F.hid b hb
    refine ⟨p, q, ?_⟩
    by_cases eI : b = I
    · subst eI; exact hI
    · by_cases eJ : b = J
      · subst eJ; exact hJ
      · exact ⟨o, k _ _ eI eJ r⟩
  · obtain ⟨D, items, a1, a2, a3, a4, a5, a6, a7, a8⟩ := ho n xs e
    exact ⟨D, items, a1, a2, a3, a4, a5, a6.at fun o e => k _ _ (fun q => a5 (q ▸ List.mem_cons_self)) (fun q => a5 (q ▸ List.mem_cons_of_mem _ List.mem_cons_self)) e, a7, a8⟩
  · obtain ⟨a1, a2, a3, ov, ⟨oc, h1, h2⟩, a5⟩ := F.cell n c e1 e2
    exact ⟨a1, a2, a3, ov, ⟨oc, k _ _ (fun q => a3 (q ▸ List.mem_cons_self)) (fun q => a3 (q ▸ List.mem_cons_of_mem _ List.mem_cons_self)) h1, h2⟩, a5⟩

theorem FR.drop2 {I J : Addr} (F : FR h₀ env ks he W₀ (I :: J :: X) W h σ) {H : Heap} (k : ∀ b o, b ≠ I → b ≠ J → h.get? b = some o → H.get? b = some o) (hI : I ∉ X) (hJ : J ∉ X) : FR h₀ env ks he W₀ X W H σ := by
  obtain ⟨m, hn, hl, ho⟩ := F.loc
  have xI := F.hid I List.mem_cons_self
  have xJ := F.hid J (List.mem_cons_of_mem _ List.mem_cons_self)
  have hLI : env.locals ≠ I := fun q => F.locX (q ▸ List.mem_cons_self)
  have hLJ : env.locals ≠ J := fun q => F.locX (q ▸ List.mem_cons_of_mem _ List.mem_cons_self)
  have in2 : ∀ {b}, b ∈ X → b ∈ I :: J :: X := fun hb => List.mem_cons_of_mem _ (List.mem_cons_of_mem _ hb)
  refine ⟨fun b o e => k b o (fun q => by rw [q, xI.2.1] at e; cases e) (fun q => by rw [q, xJ.2.1] at e; cases e) (F.keep b o e), F.base, F.le0, fun b o e => k b o (fun q => by rw [q, xI.1] at e; cases e) (fun q => by rw [q, xJ.1] at e; cases e) (F.sub b o e), F.old, fun b hb => ?_, F.locW, F.locE, fun hm => F.locX (in2 hm), F.kinds, ⟨m, hn.at' fun o e => k _ _ hLI hLJ e, hl, fun n xs e => ?_⟩, fun n c e1 e2 => ?_⟩
  · obtain ⟨p, q, o, r⟩ := F.hid b (in2 hb)
    exact ⟨p, q, o, k _ _ (fun q => hI (q ▸ hb)) (fun q => hJ (q ▸ hb)) r⟩
  · obtain ⟨D, items, a1, a2, a3, a4, a5, a6, a7, a8⟩ := ho n xs e
    exact ⟨D, items, a1, a2, a3, a4, fun hm => a5 (in2 hm), a6.at fun o e => k _ _ (fun q => a5 (q ▸ List.mem_cons_self)) (fun q => a5 (q ▸ List.mem_cons_of_mem _ List.mem_cons_self)) e, a7, a8⟩
  · obtain ⟨a1, a2, a3, ov, ⟨oc, h1, h2⟩, a5⟩ := F.cell n c e1 e2
    exact ⟨a1, a2, fun hm => a3 (in2 hm), ov, ⟨oc, k _ _ (fun q => a3 (q ▸ List.mem_cons_self)) (fun q => a3 (q ▸ List.mem_cons_of_mem _ List.mem_cons_self)) h1, h2⟩, a5⟩

theorem enumAV_get : ∀ (xs : List AV) (k i : Nat) (x : AV), xs[i]? = some x → (enumAV k xs)[i]? = some (.tup [.int ((k + i : Nat) : Int), x])
  | [], k, i, x, e => by simp at e
  | y :: r, k, 0, x, e => by simp at e; subst e; rfl
  | y :: r, k, i + 1, x, e => by
    have := enumAV_get r (k + 1) i x (by simpa using e)
    rw [enumAV, List.getElem?_cons_succ, this, show k + 1 + i = k + (i + 1) by omega]
theorem enumAV_len : ∀ (xs : List AV) (k : Nat), (enumAV k xs).length = xs.length
  | [], _ => rfl
  | _ :: r, k => by simp [enumAV, enumAV_len r]

theorem sx_fore {d : Nat} (R : Room A d) (B : Base prog w h₀ C d) (V : EnvOk env ks) (fu : Nat) (i₀ : Nat) (ip : Pos) (d₀ : Nat) (dp : Pos) (k₀ : Nat) (tp : Pos) (f : Nat) (fp : Pos) (e : AE) (cp : Pos) {b : ASs} (p : Pos) (hb : SXs prog w h₀ C A env ks he W₀ fu b) :
    SX prog w h₀ C A env ks he W₀ fu (.fore i₀ ip d₀ dp k₀ tp f fp e cp b p) := by
  intro X W s σ out F ev Q E q
  simp only [aexec] at ev
  split at ev
  · rename_i hf
    split at ev
    · rename_i xs e1
      simp only [AS.toStmt]
      refine wpAny_For ?_ (fun x => rfl)
      refine wpAny_Call_ofName ?_
      have hlook : ∀ (Q : Value → Shared → Prop) (E : Value → Shared → Prop), Q (.type "enumerate") s → wpAny (model prog w) A (eval (.Name (nm f) fp) env) Q E s := fun Q E q => by
        obtain ⟨W₁, le, F₁⟩ := F.freeze
        have rd := F₁.rd B.glob V (frz_own _)
        rw [frz_rho] at rd
        obtain ⟨v, hv, hd, hl⟩ := rd.val f _ hf
        cases hv
        exact wpAny_Name (hl A Q E s (KeepH.refl _) q) (by simpa using hd)
      refine hlook _ _ ?_
      have hst : starEach [e.toExpr] env = [(false, eval e.toExpr env)] := by cases e <;> rfl
      show wpAny _ _ (callWith cp (.type "enumerate") [] (backTo cp (starEach [e.toExpr] env)) []) _ _ _
      refine PySem.callWith_type (by rw [hst]; rfl) (one_ok R B V F e1 _ _ _ _ fun v h₁ tk₁ W₁ le₁ F₁ _ hv k₁ => ?_)
      show wpAny _ _ (call (.type "enumerate") [v]) _ _ _
      obtain ⟨l, o, items, n, rfl, e3, c1, d1, r1⟩ := inv_lst hv
      have hL := isList_of F₁.sub e3 c1 d1
      have l1 := VRs.length r1
      simp only [Array.length_toList] at l1
      refine call_enumerate_list (s := { s with heap := h₁, toks := tk₁ }) hL fun h₂ he₂ hit₂ hz₂ hk₂ => ?_
      dsimp only at he₂ hit₂ hz₂ hk₂ ⊢
      generalize hen : h₁.objs.size + 1 = en at he₂ ⊢
      generalize hitt : h₁.objs.size = it at he₂ hit₂ ⊢
      have hei : en ≠ it := by omega
      refine wpAny_pyIter_enum (s := { s with heap := h₂, toks := tk₁ }) he₂ ?_
      have new_en : h₁.get? en = none := fresh_none (by omega)
      have new_it : h₁.get? it = none := fresh_none (by omega)
      obtain ⟨oit, hoit, _⟩ := id hit₂
      have F₂ : FR h₀ env ks he W₀ (en :: it :: X) W₁ h₂ σ.frz := F₁.grow hk₂ (Wd.le_refl _) (fun b o e => hk₂ _ _ (F₁.sub _ _ e)) (fun b o e _ => e) [en, it] (fun b hb => by
        have W1no : ∀ b, h₁.get? b = none → W₁ b = none := fun b hb => by
          cases q : W₁ b with
          | none => rfl
          | some o => rw [F₁.sub _ _ q] at hb; cases hb
        rcases List.mem_cons.mp hb with rfl | hb
        · exact ⟨W1no _ new_en, new_en, _, he₂⟩
        · rw [List.mem_singleton.mp hb]; exact ⟨W1no _ new_it, new_it, _, hoit⟩)
      have notX : ∀ b, h₁.get? b = none → b ∉ X := fun b hb hm => by
        obtain ⟨o, ho⟩ := (F₁.hid b hm).2.2
        rw [ho] at hb; cases hb
      have nE := notX _ new_en
      have nI := notX _ new_it
      have sub2 : ∀ {h h' : Heap}, KeepX (en :: it :: X) h h' → KeepX X h h' := fun k b o hm e => k b o (List.mem_cons_of_mem _ (List.mem_cons_of_mem _ hm)) e
      have drop2 : ∀ {W' : Wd} {H : Heap} {σ' : Sg}, FR h₀ env ks he W₀ (en :: it :: X) W' H σ' → FR h₀ env ks he W₀ X W' H σ' := fun F => (F.drop (H := _) (fun b o _ e => e) (fun hm => by
        rcases List.mem_cons.mp hm with q | hm
        · exact absurd q hei
        · exact absurd hm nE)).drop (fun b o _ e => e) (fun hm => absurd hm nI)
      refine codeAny_forLoop_any (fun k s' => ∃ H tk i σ' W' old, s' = { s with heap := H, toks := tk } ∧ i ≤ xs.length ∧ k = xs.length + 1 - i ∧ IsEnum H en it ((i : Nat) : Int) old ∧ H.IsListIter it l i ∧ W₁.le W' ∧ KeepX X s.heap H ∧ FR h₀ env ks he W₀ (en :: it :: X) W' H σ' ∧
        iterF (bindF ks (.tup [(i₀, ip), (d₀, dp)] k₀ tp)) (aexecs C fu ks b) ((enumAV 0 xs).drop i) σ' = some out) (fun k s' hI => ?_) (xs.length + 1) ⟨h₂, tk₁, 0, σ.frz, W₁, .none, rfl, Nat.zero_le _, rfl, he₂, hit₂, Wd.le_refl _, (KeepX.of k₁).trans (KeepX.of hk₂), F₂, ev⟩
      obtain ⟨H, tk, i, σ', W', old, rfl, hi, rfl, hen', hit', le', kx, F', ev'⟩ := hI
      have hlH : H.IsList l items := isList_of F'.sub (le' _ _ e3) c1 d1
      cases hx : xs[i]? with
      | none =>
        have hsz : i = xs.length := Nat.le_antisymm hi (by simpa using hx)
        refine wpAny_pyNext_enum_end (s := { s with heap := H, toks := tk }) R.handled hen' hit' hlH (by simp; omega) fun h₃ hk₃ => ?_
        have hd : (enumAV 0 xs).drop i = [] := by rw [hsz, ← enumAV_len xs 0, List.drop_length]
        rw [hd] at ev'
        cases ev'
        refine wpAny_execs_nil ?_
        have F₃ := F'.drop2 (H := h₃) (fun b o _ hb e => hk₃ b o hb e) nE nI
        exact q _ _ _ W' (le₁.trans le') (fun b o hm e => hk₃ b o (fun q => nI (q ▸ hm)) (kx b o hm e)) ⟨rfl, F₃⟩
      | some x =>
        obtain ⟨u, hu, hvr⟩ := VRs.at r1 hx
        have hu' : items[i]? = some u := by simpa using hu
        have hlt : i < xs.length := (List.getElem?_eq_some_iff.mp hx).1
        refine wpAny_pyNext_enum_item (s := { s with heap := H, toks := tk }) hen' hit' hlH hu' hei fun h₃ heo hit₃ ht₃ hz₃ hk₃ => ?_
        refine wpAny_letOwnedTupleGo_enum (s := { s with heap := h₃, toks := tk + 1 }) heo fun h₄ he₄ hs₄ => ?_
        have hT : H.objs.size ≠ en := fun q => by
          have h1 : en < H.objs.size := Heap.lt_size hen'
          omega
        have k₄ : ∀ b o, b ≠ en → b ≠ it → H.get? b = some o → h₄.get? b = some o := fun b o a c e => hs₄.extBut b o a (hk₃ b o a c e)
        obtain ⟨oi, hoi, _⟩ := id hit₃
        have hit₄ : h₄.IsListIter it l (i + 1) := hit₃.at fun o e => hs₄.extBut _ _ (Ne.symm hei) e
        have F₄ := F'.touch2 (H := h₄) k₄ ⟨_, he₄⟩ ⟨_, hs₄.extBut _ _ (Ne.symm hei) hoi⟩
        have kx₄ : KeepX X s.heap h₄ := fun b o hm e => k₄ b o (fun q => nE (q ▸ hm)) (fun q => nI (q ▸ hm)) (kx b o hm e)
        have ht₄ : h₄.IsTuple H.objs.size #[.int i tk, u] := ⟨_, hs₄.extBut _ _ hT ht₃, rfl, _, rfl⟩
        rw [iterF_cons (enumAV_get xs 0 i x hx)] at ev'
        simp only [iterF] at ev'
        split at ev'
        · rename_i σ₁ e2
          simp only [Nat.zero_add, bindF] at e2
          refine tupF_ok (s := { s with heap := h₄, toks := tk + 1 }) (ns := [(i₀, ip), (d₀, dp)]) R V F₄ e2 ht₄ (.cons (.int _ _) (.cons (hvr.mono le') .nil)) _ _ fun h₅ tk₅ F₅ kx₅ => ?_
          have stay : ∀ {ha hb : Heap} {j : Int} {ol : Value} {k : Nat}, KeepX (en :: it :: X) ha hb → IsEnum ha en it j ol ∧ ha.IsListIter it l k → IsEnum hb en it j ol ∧ hb.IsListIter it l k := fun kk st =>
            ⟨kk _ _ List.mem_cons_self st.1, st.2.at fun o e => kk _ _ (List.mem_cons_of_mem _ List.mem_cons_self) e⟩
          have hij : ((i + 1 : Nat) : Int) = (i : Int) + 1 := by push_cast; rfl
          have st₅ := stay kx₅ ⟨he₄, hit₄⟩
          have kx₅' : KeepX X s.heap h₅ := kx₄.trans (sub2 kx₅)
          refine turn_ok (s := { s with heap := h₅, toks := tk₅ }) hb F₅ ev' _ _ (fun fl h₆ tk₆ W₆ σ₂ hfl le₆ kx₆ F₆ ev₆ => ?_) (fun h₆ tk₆ W₆ σ₂ le₆ kx₆ F₆ ho => ?_) (fun h₆ tk₆ W₆ σ₂ v r le₆ kx₆ F₆ hv ho => ?_)
          · have st₆ := stay kx₆ st₅
            have : ∃ m, m < xs.length + 1 - i ∧ ∃ H tk i σ' W' old, ({ s with heap := h₆, toks := tk₆ } : Shared) = { s with heap := H, toks := tk } ∧ i ≤ xs.length ∧ m = xs.length + 1 - i ∧ IsEnum H en it ((i : Nat) : Int) old ∧ H.IsListIter it l i ∧ W₁.le W' ∧ KeepX X s.heap H ∧ FR h₀ env ks he W₀ (en :: it :: X) W' H σ' ∧
              iterF (bindF ks (.tup [(i₀, ip), (d₀, dp)] k₀ tp)) (aexecs C fu ks b) ((enumAV 0 xs).drop i) σ' = some out :=
              ⟨xs.length + 1 - (i + 1), by omega, h₆, tk₆, i + 1, σ₂, W₆, _, rfl, hlt, rfl, hij ▸ st₆.1, st₆.2, le'.trans le₆, kx₅'.trans (sub2 kx₆), F₆, ev₆⟩
            rcases hfl with rfl | rfl
            · exact this
            · exact this
          · subst ho
            exact q _ _ _ W₆ ((le₁.trans le').trans le₆) (kx₅'.trans (sub2 kx₆)) ⟨rfl, drop2 F₆⟩
          · subst ho
            exact q _ _ _ W₆ ((le₁.trans le').trans le₆) (kx₅'.trans (sub2 kx₆)) ⟨v, σ₂, rfl, drop2 F₆, hv⟩
        · cases ev'
    · cases ev
  · cases ev
end
end Mine
namespace Mine
section
variable {prog : Program} {w : World} {h₀ : Heap} {C : Cfg} {A : Around} {env : Env} {ks : Ks} {he : Heap} {W₀ : Wd}

mutual
theorem sx_ok {d : Nat} (R : Room A d) (B : Base prog w h₀ C d) (V : EnvOk env ks) (fu : Nat) : ∀ a : AS, SX prog w h₀ C A env ks he W₀ fu a
  | .asg n np e p => sx_asg R B V fu n np e p
  | .own n np e p => sx_own R B V fu n np e p
  | .tasg ns k tp e p => sx_tasg R B V fu ns k tp e p
  | .aug n np op e p => sx_aug R B V fu n np op e p
  | .ret e p => sx_ret R B V fu e p
  | .ife t b o p => sx_ife R B V fu t p (sxs_ok R B V fu b) (sxs_ok R B V fu o)
  | .fors t e b p => sx_fors R B V fu t e p (sxs_ok R B V fu b)
  | .fore i ip d dp k tp f fp e cp b p => sx_fore R B V fu i ip d dp k tp f fp e cp p (sxs_ok R B V fu b)
  | .whl t b p => sx_whl R B V fu t p (sxs_ok R B V fu b)
  | .brk p => sx_brk fu p
  | .cont p => sx_cont fu p
  | .app n np ap e cp p => sx_app R B V fu n np ap e cp p
  | .rev n np ap cp p => sx_rev R B V fu n np ap cp p
theorem sxs_ok {d : Nat} (R : Room A d) (B : Base prog w h₀ C d) (V : EnvOk env ks) (fu : Nat) : ∀ a : ASs, SXs prog w h₀ C A env ks he W₀ fu a
  | .nil => sxs_nil fu
  | .cons a r => sxs_cons fu (sx_ok R B V fu a) (sxs_ok R B V fu r)
end
end
end Mine
namespace Mine

def fnF (C : Cfg) (fu : Nat) (ks : Ks) (ps : List Nat) (b : ASs) (args : List AV) : Option AV := match bindAll ps args [] with
  | some ρ => match aexecs C fu ks b { vals := ρ, own := none } with
    | some (.ret r) => some r
    | some (.next _) => some .none
    | _ => none
  | none => none

structure FnAt (h₀ : Heap) (a : Addr) (ks : Ks) (ps : List Nat) (b : ASs) (o : Obj) (fd : FuncData) : Prop where
  obj : h₀.get? a = some o
  data : o.data = .func fd
  code : h₀.CodeRec fd.code fd.qualname
  body : fd.body = .stmts b.toStmts
  names : fd.scope.names = Ks.names ks
  kind : fd.scope.kind = .function
  gen : fd.scope.isGenerator = false
  cor : fd.scope.isCoroutine = false
  clo : fd.closure = []
  glob : fd.globals = mainGlobals
  blt : fd.builtins = builtinsNs
  bind : ∀ vs : List Value, vs.length = ps.length → bindArgs fd ⟨vs, []⟩ = pure ((ps.map nm).zip vs)
  uniq : ks.all (fun x => kindIn ks x.1 == some x.2) = true
  dbg : (kindIn ks cDbg == none) = true
  par : ps.all (fun n => kindIn ks n == some .local || kindIn ks n == some .cell) = true

theorem cells_has {n₀ : Nat} {x : Str} : ∀ (names : List (Str × NameKind)) (acc : List (Str × Addr)) (k : Nat), (acc.lookup x).isSome = true ∨ (x, NameKind.cell) ∈ names → ((cellsFrom k names acc).lookup x).isSome = true
  | [], acc, k, h => by
    rcases h with h | h
    · exact h
    · cases h
  | (m, kd) :: r, acc, k, h => by
    unfold cellsFrom
    split
    · refine cells_has (n₀ := n₀) r _ _ ?_
      rcases h with h | h
      · left
        rw [List.lookup_cons]
        split
        · rfl
        · exact h
      · rcases List.mem_cons.mp h with h | h
        · cases h
          left
          simp
        · exact .inr h
    · rename_i hk
      refine cells_has (n₀ := n₀) r _ _ ?_
      rcases h with h | h
      · exact .inl h
      · rcases List.mem_cons.mp h with h | h
        · cases h; exact absurd rfl hk
        · exact .inr h
theorem lookup_mem {x : Str} {c : Addr} : ∀ {cs : List (Str × Addr)}, cs.lookup x = some c → (x, c) ∈ cs
  | [], h => by cases h
  | (y, d) :: r, h => by
    rw [List.lookup_cons] at h
    split at h
    · rename_i e
      cases h
      rw [eq_of_beq e]
      exact List.mem_cons_self
    · exact List.mem_cons_of_mem _ (lookup_mem h)
theorem pair_apart {cs : List (Str × Addr)} (h : cs.Pairwise fun x y => x.2 ≠ y.2) {x y : Str} {c : Addr} (hx : (x, c) ∈ cs) (hy : (y, c) ∈ cs) : x = y := by
  induction cs with
  | nil => cases hx
  | cons z r ih =>
    rw [List.pairwise_cons] at h
    rcases List.mem_cons.mp hx with e1 | e1 <;> rcases List.mem_cons.mp hy with e2 | e2
    · rw [← e2] at e1; exact congrArg Prod.fst e1
    · subst e1; exact absurd rfl (h.1 (y, c) e2)
    · subst e2; exact absurd rfl (h.1 (x, c) e1)
    · exact ih h.2 e1 e2

/-- parameters, as the model binds them -/
theorem bind_loc {W : Wd} {kof : Str → Option NameKind} {ks : Ks} (hk : ∀ n, kof (nm n) = kindIn ks n) : ∀ (ps : List Nat) (args : List AV) (vs : List Value) (ρ₀ ρ : Rho) (m cm : Str → Option Value), bindAll ps args ρ₀ = some ρ → VRs W args vs →
    (∀ n ∈ ps, kindIn ks n = some .local ∨ kindIn ks n = some .cell) →
    (∀ n r, look ρ₀ n = some r → (kindIn ks n = some .local ∧ ∃ v, m (nm n) = some v ∧ VR W r v) ∨ (kindIn ks n = some .cell ∧ ∃ v, cm (nm n) = some v ∧ VR W r v)) →
    (∀ n r, look ρ n = some r → (kindIn ks n = some .local ∧ ∃ v, bindL kof ((ps.map nm).zip vs) m (nm n) = some v ∧ VR W r v) ∨ (kindIn ks n = some .cell ∧ ∃ v, bindC kof ((ps.map nm).zip vs) cm (nm n) = some v ∧ VR W r v))
  | [], args, vs, ρ₀, ρ, m, cm, e, hv, hp, h0 => by
    cases hv with
    | cons => simp [bindAll] at e
    | nil =>
      simp only [bindAll, Option.some.injEq] at e
      subst e
      exact h0
  | n :: ps, args, vs, ρ₀, ρ, m, cm, e, hv, hp, h0 => by
    cases hv with
    | nil => simp [bindAll] at e
    | cons h1 hr =>
      simp only [bindAll] at e
      simp only [List.map_cons, List.zip_cons_cons, bindL, bindC]
      refine bind_loc hk ps _ _ _ ρ _ _ e hr (fun k hk => hp k (List.mem_cons_of_mem _ hk)) fun k r er => ?_
      rw [hk n]
      rw [look_cons] at er
      have inj : ∀ {k}, k ≠ n → nm k ≠ nm n := fun h q => h (nm_inj q)
      rcases hp n List.mem_cons_self with hn | hn
      · simp only [hn, if_true]
        split at er
        · rename_i h
          subst h
          cases er
          exact .inl ⟨hn, _, by simp, h1⟩
        · rename_i h
          rcases h0 k r er with ⟨a, v, b, c⟩ | ⟨a, v, b, c⟩
          · exact .inl ⟨a, v, by rw [if_neg (inj (Ne.symm h))]; exact b, c⟩
          · exact .inr ⟨a, v, b, c⟩
      · have hne : ¬ (some NameKind.cell = some NameKind.local) := by decide
        simp only [hn, if_neg hne]
        split at er
        · rename_i h
          subst h
          cases er
          exact .inr ⟨hn, _, by simp, h1⟩
        · rename_i h
          rcases h0 k r er with ⟨a, v, b, c⟩ | ⟨a, v, b, c⟩
          · exact .inl ⟨a, v, b, c⟩
          · exact .inr ⟨a, v, by rw [if_neg (inj (Ne.symm h))]; exact b, c⟩
theorem bindAll_len' : ∀ (ns : List Nat) (xs : List AV) (ρ ρ' : Rho), bindAll ns xs ρ = some ρ' → ns.length = xs.length := bindAll_len

section
variable {prog : Program} {w : World} {h₀ : Heap} {C : Cfg}

theorem fn_ok {d : Nat} (B : Base prog w h₀ C d) (hlim : h₀.NoLimit) {a : Addr} {ks : Ks} {ps : List Nat} {b : ASs} {o : Obj} {fd : FuncData} (T : FnAt h₀ a ks ps b o fd) (fu : Nat) : FnOK prog w h₀ (d + 1) a (fnF C fu ks ps b) := by
  intro A R W s args vs r hbase hs hv e Q E q
  have k0 : KeepH h₀ s.heap := baseKeep W s.heap hbase hs
  unfold fnF at e
  split at e
  · rename_i ρ e1
    have hl1 := bindAll_len' _ _ _ _ e1
    have hl2 := VRs.length hv
    have par : ∀ n ∈ ps, kindIn ks n = some .local ∨ kindIn ks n = some .cell := fun n hn => by
      have := List.all_eq_true.mp T.par n hn
      simpa using this
    have uniq : ∀ n k, (n, k) ∈ ks → kindIn ks n = some k := fun n k hm => by
      have := List.all_eq_true.mp T.uniq _ hm
      simpa using this
    have memk : ∀ n k, kindIn ks n = some k → (nm n, k) ∈ fd.scope.names := fun n k h => by
      rw [← kindIn_lookup] at h
      rw [T.names]
      revert h
      generalize Ks.names ks = L
      induction L with
      | nil => intro h; cases h
      | cons z r ih =>
        obtain ⟨y, kd⟩ := z
        intro h
        rw [List.lookup_cons] at h
        split at h
        · rename_i e
          cases h
          rw [eq_of_beq e]
          exact List.mem_cons_self
        · exact List.mem_cons_of_mem _ (ih h)
    refine wpAny_call (codeAny_call_cells (o := o) (fd := fd) (body := b.toStmts) (binds := (ps.map nm).zip vs) (by have := R.depth; unfold recursionLimit; omega) (k0 _ _ T.obj) T.data (hlim.keeps k0) (T.code.keeps k0) T.body (T.bind vs (by omega)) T.clo (fun x hx => ?_) (fun s₁ I => ?_) T.cor T.gen T.kind)
    · obtain ⟨y, v⟩ := x
      have hy := (List.of_mem_zip hx).1
      obtain ⟨n, hn, rfl⟩ := List.mem_map.mp hy
      have hk : fd.scope.names.lookup (nm n) = kindIn ks n := by rw [T.names]; exact kindIn_lookup n ks
      rcases par n hn with h | h
      · exact .inl (hk.trans h)
      · exact .inr ⟨hk.trans h, cells_has (n₀ := n) _ _ _ (.inr (memk n _ h))⟩
    · have V : EnvOk (callEnvC fd s.heap.objs.size a) ks := ⟨T.kind, T.glob, T.blt, fun n => by
          show fd.scope.names.lookup (nm n) = _
          rw [T.names]; exact kindIn_lookup n ks, uniq, by have := T.dbg; simpa using this, fun n hn => by
          have := cells_has (n₀ := n) fd.scope.names [] (s.heap.objs.size + 1) (.inr (memk n _ hn))
          exact Option.isSome_iff_exists.mp this, fun n n' c h1 h2 => nm_inj (pair_apart I.apart (lookup_mem h1) (lookup_mem h2)), fun n c h1 q => by
          have := I.above _ _ (lookup_mem h1)
          rw [q] at this
          exact Nat.lt_irrefl _ this⟩
      obtain ⟨⟨h₁, tk₁, rfl⟩, hns, hkeep, hfresh⟩ := I.toInCall
      have hb := bind_loc (W := W) (kof := (callEnvC fd s.heap.objs.size a).kindOf) V.kof ps args vs [] ρ (fun _ => none) (fun _ => none) e1 hv par (by simp [look])
      have Wno : ∀ b, s.heap.get? b = none → W b = none := fun b hb => by
        cases q : W b with
        | none => rfl
        | some o => rw [hs _ _ q] at hb; cases hb
      have F : FR h₀ (callEnvC fd s.heap.objs.size a) ks s.heap W [] W h₁ { vals := ρ, own := none } := by
        refine ⟨hkeep, hbase, Wd.le_refl _, fun b o e => hkeep _ _ (hs _ _ e), fun b o e _ => e, by simp, Wno _ (fresh_none hfresh), fresh_none hfresh, by simp, fun n r e => (hb n r e).imp (·.1) (·.1), ⟨_, hns, fun n r e _ hk => ?_, fun n xs e => by cases e⟩, fun n c hk hc => ?_⟩
        · rcases hb n r e with ⟨_, v, p, q⟩ | ⟨h, _⟩
          · exact ⟨v, p, q⟩
          · rw [hk] at h; cases h
        · have hlt := I.above _ _ (lookup_mem hc)
          have hcn : s.heap.get? c = none := fresh_none (Nat.le_of_lt (Nat.lt_of_le_of_lt hfresh hlt))
          refine ⟨Wno _ hcn, hcn, by simp, _, I.cell _ _ hc, fun r e => ?_⟩
          rcases hb n r e with ⟨h, _⟩ | ⟨_, v, p, q⟩
          · rw [hk] at h; cases h
          · exact ⟨v, p, q⟩
      have R' : Room (A.deeper (callEnvC fd s.heap.objs.size a)) d := ⟨R.handled, by have := R.depth; show A.depth + 1 + d < 600; omega, by have := R.units; show A.units + 3 + 100 * d + 300 < cLine; omega⟩
      have fin : ∀ {W' : Wd} {h' : Heap} {σ : Sg} {u : Value} {x : AV} {tk : Nat}, FR h₀ (callEnvC fd s.heap.objs.size a) ks s.heap W [] W' h' σ → VR W' x u → r = x → Q u { s with heap := h', toks := tk } := fun {W' h' σ u x tk} F' hu hr => by
        subst hr
        refine q u h' tk F'.keep (hu.mono fun b o e => ?_)
        unfold ext
        cases hb : s.heap.get? b with
        | some o' => exact F'.old b o e ⟨o', hb⟩
        | none => exact F'.sub _ _ e
      split at e
      · rename_i r' e2
        cases e
        refine sxs_ok R' B V fu b [] W { s with heap := h₁, toks := tk₁ } _ _ F e2 _ _ fun fl h' tk W' le kx ps => ?_
        obtain ⟨v, σ', rfl, F', hvr⟩ := ps
        exact fin F' hvr rfl
      · rename_i σ' e2
        cases e
        refine sxs_ok R' B V fu b [] W { s with heap := h₁, toks := tk₁ } _ _ F e2 _ _ fun fl h' tk W' le kx ps => ?_
        obtain ⟨rfl, F'⟩ := ps
        exact fin F' .none rfl
      · cases e
  · cases e
end
end Mine
namespace Mine

/-! from the heap that the head tells of to the facts that the walk wants -/
def gl3 (K : Frag) (x : Str) : Option (Option Value) := match K.lookup mainGlobals with
  | some ⟨_, _, .dict es _, _⟩ => some (nsFind es x)
  | _ => none
theorem mg_of {K : Frag} {h : Heap} {mg : Str → Option Value} (X : K.In h) (hn : h.Ns mainGlobals mg) {x : Str} {r : Option Value} (e : gl3 K x = some r) : mg x = r := by
  unfold gl3 at e
  split at e
  · rename_i c d es n sl hk
    obtain ⟨o, es', ep, h1, h2, _, h3⟩ := hn
    rw [X _ _ hk] at h1
    cases h1
    cases h2
    rw [← h3 x]
    exact Option.some.inj e
  · cases e
def fdOf (K : Frag) (a : Addr) : Option FuncData := match K.lookup a with
  | some ⟨_, _, .func fd, _⟩ => some fd
  | _ => none
def FD (K : Frag) (a : Addr) : FuncData := (fdOf K a).getD default
def codeOk (K : Frag) (a : Addr) : Bool := match (FD K a).code with
  | .ref c => match K.lookup c with
    | some ⟨_, _, .fields vs, _⟩ => match (vs[1]? : Option Value) with
      | some (.str q _) => q == (FD K a).qualname
      | _ => false
    | _ => false
  | _ => false
theorem codeOk_rec {K : Frag} {h : Heap} {a : Addr} (X : K.In h) (e : codeOk K a = true) : h.CodeRec (FD K a).code (FD K a).qualname := by
  unfold codeOk at e
  split at e
  · rename_i c hc
    split at e
    · rename_i cl d vs sl hk
      split at e
      · rename_i q t hq
        exact ⟨c, _, vs, t, hc, X _ _ hk, rfl, by rw [hq, eq_of_beq e]⟩
      · cases e
    · cases e
  · cases e
theorem fdOf_get {K : Frag} {h : Heap} {a : Addr} (X : K.In h) (e : (fdOf K a).isSome = true) : ∃ o, h.get? a = some o ∧ o.data = .func (FD K a) := by
  unfold FD
  unfold fdOf at e ⊢
  split at e
  · rename_i c d fd sl hk
    exact ⟨_, X _ _ hk, rfl⟩
  · cases e
/-- a function of the program's heap -/
theorem fnAt_of {K : Frag} {h : Heap} (X : K.In h) {a : Addr} {ks : Ks} {ps : List Nat} {b : ASs} (e0 : (fdOf K a).isSome = true) (e1 : codeOk K a = true) (e2 : (FD K a).body = .stmts b.toStmts) (e3 : (FD K a).scope.names = Ks.names ks) (e4 : (FD K a).scope.kind = .function) (e5 : (FD K a).scope.isGenerator = false)
    (e6 : (FD K a).scope.isCoroutine = false) (e7 : (FD K a).closure = []) (e8 : (FD K a).globals = mainGlobals) (e9 : (FD K a).builtins = builtinsNs) (e10 : ∀ vs : List Value, vs.length = ps.length → bindArgs (FD K a) ⟨vs, []⟩ = pure ((ps.map nm).zip vs))
    (e11 : ks.all (fun x => kindIn ks x.1 == some x.2) = true) (e12 : (kindIn ks cDbg == none) = true) (e13 : ps.all (fun n => kindIn ks n == some .local || kindIn ks n == some .cell) = true) : ∃ o, FnAt h a ks ps b o (FD K a) := by
  obtain ⟨o, ho, hd⟩ := fdOf_get X e0
  exact ⟨o, ho, hd, codeOk_rec X e1, e2, e3, e4, e5, e6, e7, e8, e9, e10, e11, e12, e13⟩

/-- what is known of one global name -/
def GF (prog : Program) (w : World) (h₀ : Heap) (n : Nat) (r : AV) : Prop := ∃ v, VR (fun b => h₀.get? b) r v ∧ nm n ≠ ("__debug__" : Str) ∧ ∀ env : Env, env.globals = mainGlobals → env.builtins = builtinsNs → Looks (model prog w) h₀ (loadGlobal env (nm n)) v
theorem glob_of {prog : Program} {w : World} {h₀ : Heap} : ∀ {G : Rho}, (∀ p ∈ G, GF prog w h₀ p.1 p.2) → GlobOk prog w h₀ G
  | [], _ => ⟨fun n r e => by simp [look] at e⟩
  | (m, v) :: r, h => ⟨fun n x e => by
    rw [look_cons] at e
    split at e
    · rename_i q
      subst q
      cases e
      exact h _ List.mem_cons_self
    · exact (glob_of fun p hp => h p (List.mem_cons_of_mem _ hp)).val n x e⟩
theorem gf_glob {prog : Program} {w : World} {h₀ : Heap} {mg : Str → Option Value} (hn : h₀.Ns mainGlobals mg) {n : Nat} {r : AV} {v : Value} (hd : Nat.beq n cDbg = false) (e : mg (nm n) = some v) (hv : VR (fun b => h₀.get? b) r v) : GF prog w h₀ n r :=
  ⟨v, hv, fun q => beq_false hd (nm_inj (q.trans nm_dbg.symm)), fun env hg hb A Q E s k q => Calls.loadGlobal_global (env := env) (by rw [hg]; exact hn.keeps k) e q⟩
theorem gf_blt {prog : Program} {w : World} {h₀ : Heap} {mg mb : Str → Option Value} (hn : h₀.Ns mainGlobals mg) (hb : h₀.Ns builtinsNs mb) (hB : ∀ x : Str, x ≠ "__name__" → mb x = bootBuiltins x) {n : Nat} {k : Bi} (hd : Nat.beq n cDbg = false) (hnm : (nm n == ("__name__" : Str)) = false) (e : mg (nm n) = none) (e2 : bootBuiltins (nm n) = some k.val) : GF prog w h₀ n (.bi k) :=
  ⟨_, .bi k, fun q => beq_false hd (nm_inj (q.trans nm_dbg.symm)), fun env hg hb' A Q E s kk q => Calls.loadGlobal_builtin (env := env) (by rw [hg]; exact hn.keeps kk) e (by rw [hb']; exact hb.keeps kk) ((hB _ (by simpa using hnm)).trans e2) q⟩

/-- a static method of a class -/
theorem sm_of {prog : Program} {w : World} {h₀ : Heap} {K : Frag} (X : K.In h₀) {c p : Addr} {name : Str} {mc f : Value} {rest : List Value} (hg : specialIn K (.ref c) "__getattribute__" = some (some (.builtin "type.__getattribute__"))) (hr : readsIn K c mc = true)
    (e : findCls K (.ref c) mc name = some (.get (.builtin "staticmethod.__get__") (.ref p) .none (.ref c))) (hp : recIn K p "staticmethod" = some (f :: rest)) (hv : handedIn f = true)
    (A : Around) (t : Sem Bool) (s : Shared) (Q : Value × List Value → Shared → Prop) (E : Value → Shared → Prop) (k : KeepH h₀ s.heap) (q : ∀ tk, Q (f, []) { s with toks := tk }) : wpAny (model prog w) A (getMethod (.ref c) name t) Q E s :=
  method_cls (X.keeps k) hg (cls_bind (X.keeps k) hr e (wpAny_call (sm_get (s := { s with toks := s.toks + 1 }) (X.keeps k) hp (handed_on hv (q _)))))
/-- a tuple of the program's heap -/
def tupIn (K : Frag) (a : Addr) : Option (List Value) := match K.lookup a with
  | some ⟨.type "tuple", _, .seq items _, _⟩ => some items.toList
  | _ => none
theorem tup_of {K : Frag} {h : Heap} (X : K.In h) {a : Addr} {vs : List Value} {xs : List AV} (e : tupIn K a = some vs) (hv : VRs (fun b => h.get? b) xs vs) : VR (fun b => h.get? b) (.tup xs) (.ref a) := by
  unfold tupIn at e
  split at e
  · rename_i d items n sl hk
    cases e
    exact .tup (X _ _ hk) rfl rfl hv
  · cases e
end Mine
namespace Mine

/-! tables of functions -/
abbrev FTab := List (Addr × (List AV → Option AV))
def tabFn : FTab → Addr → Option (List AV → Option AV)
  | [], _ => none
  | (b, F) :: r, a => match Nat.beq b a with
    | true => some F
    | false => tabFn r a
def tabSm : List (Addr × Nat × Addr) → Addr → Nat → Option Addr
  | [], _, _ => none
  | (c, n, f) :: r, a, k => match Nat.beq c a && Nat.beq n k with
    | true => some f
    | false => tabSm r a k
theorem tabFn_mem : ∀ {L : FTab} {a : Addr} {F : List AV → Option AV}, tabFn L a = some F → (a, F) ∈ L
  | [], _, _, e => by cases e
  | (b, G) :: r, a, F, e => by
    unfold tabFn at e
    split at e
    · rename_i q
      cases e
      rw [Nat.eq_of_beq_eq_true q]
      exact List.mem_cons_self
    · exact List.mem_cons_of_mem _ (tabFn_mem e)
theorem tabSm_mem : ∀ {L : List (Addr × Nat × Addr)} {c : Addr} {n : Nat} {f : Addr}, tabSm L c n = some f → (c, n, f) ∈ L
  | [], _, _, _, e => by cases e
  | (b, m, g) :: r, c, n, f, e => by
    unfold tabSm at e
    split at e
    · rename_i q
      cases e
      simp only [Bool.and_eq_true] at q
      rw [Nat.eq_of_beq_eq_true q.1, Nat.eq_of_beq_eq_true q.2]
      exact List.mem_cons_self
    · exact List.mem_cons_of_mem _ (tabSm_mem e)
def SmFact (prog : Program) (w : World) (h₀ : Heap) (c : Addr) (n : Nat) (a : Addr) : Prop := ∀ (A : Around) (t : Sem Bool) (s : Shared) (Q : Value × List Value → Shared → Prop) (E : Value → Shared → Prop), KeepH h₀ s.heap → (∀ tk, Q (.ref a, []) { s with toks := tk }) → wpAny (model prog w) A (getMethod (.ref c) (nm n) t) Q E s
theorem base_of {prog : Program} {w : World} {h₀ : Heap} {G : Rho} {L : FTab} {S : List (Addr × Nat × Addr)} {d : Nat} (hG : GlobOk prog w h₀ G) (hL : ∀ x ∈ L, FnOK prog w h₀ d x.1 x.2 ∧ ∃ o fd, h₀.get? x.1 = some o ∧ o.data = .func fd)
    (hS : ∀ x ∈ S, SmFact prog w h₀ x.1 x.2.1 x.2.2) : Base prog w h₀ ⟨G, tabFn L, tabSm S⟩ d :=
  ⟨hG, fun a F e => hL _ (tabFn_mem e), fun c n a e => hS _ (tabSm_mem e)⟩
theorem FnOK.up {prog : Program} {w : World} {h₀ : Heap} {d d' : Nat} {a : Addr} {F : List AV → Option AV} (x : FnOK prog w h₀ d a F) (h : d ≤ d') : FnOK prog w h₀ d' a F := fun A R =>
  x A ⟨R.handled, by have := R.depth; omega, by have := R.units; omega⟩
theorem FnOK.sub {prog : Program} {w : World} {h₀ : Heap} {d : Nat} {a : Addr} {F F' : List AV → Option AV} (x : FnOK prog w h₀ d a F) (h : ∀ args r, F' args = some r → F args = some r) : FnOK prog w h₀ d a F' := fun A R W s args vs r hb hs hv e =>
  x A R W s args vs r hb hs hv (h _ _ e)

/-! evaluation, step by step -/
section
variable {C : Cfg} {fu : Nat} {ks : Ks} {σ σ₁ σ₂ : Sg} {cn : List Nat} {ρ : Rho}
theorem st_asg {n : Nat} {np p : Pos} {e : AE} {rest : ASs} {r : AV} (h1 : evalS C ks e σ = some (r, σ₁)) (h2 : setV ks n r σ₁ = some σ₂) : aexecs C fu ks (.cons (.asg n np e p) rest) σ = aexecs C fu ks rest σ₂ := by
  simp only [aexecs, aexec, h1, h2, Option.map_some]
theorem st_asgv {n : Nat} {np p : Pos} {e : AE} {rest : ASs} {r : AV} (h0 : σ.own = none) (h1 : aeval C e (cnOf ks) (σ.rho C.G ks) = some r) (h2 : setV ks n r σ = some σ₂) : aexecs C fu ks (.cons (.asg n np e p) rest) σ = aexecs C fu ks rest σ₂ := by
  refine st_asg (r := r) (σ₁ := σ) ?_ h2
  have hf : σ.frz = σ := by unfold Sg.frz; rw [h0]
  unfold evalS
  rw [h1, hf]
  dsimp only
  cases scal r <;> rfl
theorem st_ret {e : AE} {p : Pos} {rest : ASs} {r : AV} (h : aeval C e (cnOf ks) (σ.rho C.G ks) = some r) : aexecs C fu ks (.cons (.ret e p) rest) σ = some (.ret r) := by
  simp only [aexecs, aexec, h]
theorem st_if0 {t : AE} {b : ASs} {p : Pos} {rest : ASs} (h : evalB C ks t σ = some false) : aexecs C fu ks (.cons (.ife t b .nil p) rest) σ = aexecs C fu ks rest σ := by
  simp only [aexecs, aexec, h]
theorem st_ifF {t : AE} {b o : ASs} {p : Pos} {rest : ASs} (h : evalB C ks t σ = some false) {out : Out} (h2 : aexecs C fu ks o σ = some out) (h3 : ∀ σ', out ≠ .next σ') : aexecs C fu ks (.cons (.ife t b o p) rest) σ = some out := by
  simp only [aexecs, aexec, h, h2]
  cases out <;> first | rfl | exact absurd rfl (h3 _)
theorem st_ifT {t : AE} {b o : ASs} {p : Pos} {rest : ASs} (h : evalB C ks t σ = some true) {out : Out} (h2 : aexecs C fu ks b σ = some out) (h3 : ∀ σ', out ≠ .next σ') : aexecs C fu ks (.cons (.ife t b o p) rest) σ = some out := by
  simp only [aexecs, aexec, h, h2]
  cases out <;> first | rfl | exact absurd rfl (h3 _)
theorem st_ifTn {t : AE} {b o : ASs} {p : Pos} {rest : ASs} (h : evalB C ks t σ = some true) (h2 : aexecs C fu ks b σ = some (.next σ₁)) : aexecs C fu ks (.cons (.ife t b o p) rest) σ = aexecs C fu ks rest σ₁ := by
  simp only [aexecs, aexec, h, h2]
theorem st_ifFn {t : AE} {b o : ASs} {p : Pos} {rest : ASs} (h : evalB C ks t σ = some false) (h2 : aexecs C fu ks o σ = some (.next σ₁)) : aexecs C fu ks (.cons (.ife t b o p) rest) σ = aexecs C fu ks rest σ₁ := by
  simp only [aexecs, aexec, h, h2]
theorem st_for {t : Tgt} {e : AE} {b : ASs} {p : Pos} {rest : ASs} {it : AV} {xs : List AV} (h1 : aeval C e (cnOf ks) (σ.rho C.G ks) = some it) (h2 : iterVals it = some xs) (h3 : iterF (bindF ks t) (aexecs C fu ks b) xs (forS e σ) = some (.next σ₁)) : aexecs C fu ks (.cons (.fors t e b p) rest) σ = aexecs C fu ks rest σ₁ := by
  simp only [aexecs, aexec, h1, h2, h3]
theorem st_fore {i d k f : Nat} {ip dp tp fp cp p : Pos} {e : AE} {b : ASs} {rest : ASs} {xs : List AV} (h0 : look (σ.rho C.G ks) f = some (.bi .enumerate)) (h1 : aeval C e (cnOf ks) (σ.rho C.G ks) = some (.lst xs)) (h3 : iterF (bindF ks (.tup [(i, ip), (d, dp)] k tp)) (aexecs C fu ks b) (enumAV 0 xs) σ.frz = some (.next σ₁)) : aexecs C fu ks (.cons (.fore i ip d dp k tp f fp e cp b p) rest) σ = aexecs C fu ks rest σ₁ := by
  simp only [aexecs, aexec, h0, h1, h3]
theorem st_foreR {i d k f : Nat} {ip dp tp fp cp p : Pos} {e : AE} {b : ASs} {rest : ASs} {xs : List AV} {r : AV} (h0 : look (σ.rho C.G ks) f = some (.bi .enumerate)) (h1 : aeval C e (cnOf ks) (σ.rho C.G ks) = some (.lst xs)) (h3 : iterF (bindF ks (.tup [(i, ip), (d, dp)] k tp)) (aexecs C fu ks b) (enumAV 0 xs) σ.frz = some (.ret r)) : aexecs C fu ks (.cons (.fore i ip d dp k tp f fp e cp b p) rest) σ = some (.ret r) := by
  simp only [aexecs, aexec, h0, h1, h3]
theorem st_tasg {ns : List (Nat × Pos)} {k : Nat} {tp p : Pos} {e : AE} {rest : ASs} {vs : List AV} (ht : isTup e = false) (h1 : evalS C ks e σ = some (.tup vs, σ₁)) (h2 : setVs ks (ns.map (·.1)) vs σ₁ = some σ₂) : aexecs C fu ks (.cons (.tasg ns k tp e p) rest) σ = aexecs C fu ks rest σ₂ := by
  simp only [aexecs, aexec, ht, h1, h2, Option.map_some]
theorem st_forR {t : Tgt} {e : AE} {b : ASs} {p : Pos} {rest : ASs} {it : AV} {xs : List AV} {r : AV} (h1 : aeval C e (cnOf ks) (σ.rho C.G ks) = some it) (h2 : iterVals it = some xs) (h3 : iterF (bindF ks t) (aexecs C fu ks b) xs (forS e σ) = some (.ret r)) : aexecs C fu ks (.cons (.fors t e b p) rest) σ = some (.ret r) := by
  simp only [aexecs, aexec, h1, h2, h3]
theorem it_cons {bind : AV → Sg → Option Sg} {body : Sg → Option Out} {x : AV} {xs : List AV} (h1 : bind x σ = some σ₁) (h2 : body σ₁ = some (.next σ₂)) : iterF bind body (x :: xs) σ = iterF bind body xs σ₂ := by
  simp only [iterF, h1, h2]
theorem it_cont {bind : AV → Sg → Option Sg} {body : Sg → Option Out} {x : AV} {xs : List AV} (h1 : bind x σ = some σ₁) (h2 : body σ₁ = some (.cont σ₂)) : iterF bind body (x :: xs) σ = iterF bind body xs σ₂ := by
  simp only [iterF, h1, h2]
theorem it_brk {bind : AV → Sg → Option Sg} {body : Sg → Option Out} {x : AV} {xs : List AV} (h1 : bind x σ = some σ₁) (h2 : body σ₁ = some (.brk σ₂)) : iterF bind body (x :: xs) σ = some (.next σ₂) := by
  simp only [iterF, h1, h2]
theorem it_ret {bind : AV → Sg → Option Sg} {body : Sg → Option Out} {x r : AV} {xs : List AV} (h1 : bind x σ = some σ₁) (h2 : body σ₁ = some (.ret r)) : iterF bind body (x :: xs) σ = some (.ret r) := by
  simp only [iterF, h1, h2]

theorem ev_call {f : Nat} {fp p : Pos} {args : AEs} {a : Addr} {F : List AV → Option AV} {vs : List AV} {r : AV} (h1 : look ρ f = some (.fn a)) (h2 : aevals C args cn ρ = some vs) (h3 : C.fn a = some F) (h4 : F vs = some r) : aeval C (.call f fp args p) cn ρ = some r := by
  simp only [aeval, h1, h2, h3, h4]
theorem ev_bi {f : Nat} {fp p : Pos} {args : AEs} {k : Bi} {vs : List AV} {r : AV} (h1 : look ρ f = some (.bi k)) (h2 : aevals C args cn ρ = some vs) (h4 : biAV k vs = some r) : aeval C (.call f fp args p) cn ρ = some r := by
  simp only [aeval, h1, h2, h4]
theorem ev_sm {o : Nat} {op ap p : Pos} {name : Nat} {args : AEs} {c a : Addr} {F : List AV → Option AV} {vs : List AV} {r : AV} (h1 : look ρ o = some (.cls c)) (h0 : (Nat.beq ap.endLine p.line && nargs args 20) = true) (hs : C.sm c name = some a) (h2 : aevals C args cn ρ = some vs) (h3 : C.fn a = some F) (h4 : F vs = some r) : aeval C (.sm o op name ap args p) cn ρ = some r := by
  simp only [aeval, h1, h0, hs, h2, h3, h4]
theorem ev_cmp {l r : AE} {op : CmpOp} {p : Pos} {a b v : AV} (h1 : aeval C l cn ρ = some a) (h2 : aeval C r cn ρ = some b) (h3 : cmpAV op a b = some v) : aeval C (.cmp l op r p) cn ρ = some v := by
  simp only [aeval, h1, h2, h3]
theorem ev_bin {l r : AE} {op : Operator} {p : Pos} {a b v : AV} (h1 : aeval C l cn ρ = some a) (h2 : aeval C r cn ρ = some b) (h3 : binAV op a b = some v) : aeval C (.bin l op r p) cn ρ = some v := by
  simp only [aeval, h1, h2, h3]
theorem ev_sub {l r : AE} {p : Pos} {a b v : AV} (h1 : aeval C l cn ρ = some a) (h2 : aeval C r cn ρ = some b) (h3 : subAV a b = some v) : aeval C (.sub l r p) cn ρ = some v := by
  simp only [aeval, h1, h2, h3]
theorem ev_nm {n : Nat} {p : Pos} {v : AV} (h : look ρ n = some v) : aeval C (.nm n p) cn ρ = some v := by simp only [aeval, h]
theorem ev_or1 {e e' : AE} {es : AEs} {p : Pos} {v : AV} (h1 : aeval C e cn ρ = some v) (h2 : truth v = some true) : aeval C (.bop .Or (.cons e (.cons e' es)) p) cn ρ = some v := by
  simp only [aeval, abop, h1, h2]
theorem ev_or2 {e e' : AE} {p : Pos} {v u : AV} (h1 : aeval C e cn ρ = some v) (h2 : truth v = some false) (h3 : aeval C e' cn ρ = some u) : aeval C (.bop .Or (.cons e (.cons e' .nil)) p) cn ρ = some u := by
  simp only [aeval, abop, h1, h2, h3]
theorem ev_and1 {e e' : AE} {es : AEs} {p : Pos} {v : AV} (h1 : aeval C e cn ρ = some v) (h2 : truth v = some false) : aeval C (.bop .And (.cons e (.cons e' es)) p) cn ρ = some v := by
  simp only [aeval, abop, h1, h2]
theorem ev_and2 {e e' : AE} {p : Pos} {v u : AV} (h1 : aeval C e cn ρ = some v) (h2 : truth v = some true) (h3 : aeval C e' cn ρ = some u) : aeval C (.bop .And (.cons e (.cons e' .nil)) p) cn ρ = some u := by
  simp only [aeval, abop, h1, h2, h3]
theorem ev_B {e : AE} {v : AV} {b : Bool} (h1 : aeval C e (cnOf ks) (σ.rho C.G ks) = some v) (h2 : truth v = some b) : evalB C ks e σ = some b := by
  simp only [evalB, h1, h2]
theorem ev_ifT {t x y : AE} {p : Pos} {v r : AV} (h1 : aeval C t cn ρ = some v) (h2 : truth v = some true) (h3 : aeval C x cn ρ = some r) : aeval C (.ife t x y p) cn ρ = some r := by
  simp only [aeval, h1, h2, h3]
theorem ev_ifF {t x y : AE} {p : Pos} {v r : AV} (h1 : aeval C t cn ρ = some v) (h2 : truth v = some false) (h3 : aeval C y cn ρ = some r) : aeval C (.ife t x y p) cn ρ = some r := by
  simp only [aeval, h1, h2, h3]
theorem evs_nil : aevals C .nil cn ρ = some [] := by simp only [aevals]
theorem evs_cons {e : AE} {es : AEs} {v : AV} {vs : List AV} (h1 : aeval C e cn ρ = some v) (h2 : aevals C es cn ρ = some vs) : aevals C (.cons e es) cn ρ = some (v :: vs) := by simp only [aevals, h1, h2]
theorem ev_lst {es : AEs} {p : Pos} {vs : List AV} (h : aevals C es cn ρ = some vs) (hl : vs.length ≤ 16777216) : aeval C (.lst es p) cn ρ = some (.lst vs) := by simp only [aeval, h, if_pos hl]
theorem evalS_scal {e : AE} {r : AV} (h1 : aeval C e (cnOf ks) (σ.rho C.G ks) = some r) (h2 : scal r = true) : evalS C ks e σ = some (r, σ) := by
  simp only [evalS, h1, h2]
theorem st_app {n : Nat} {np ap cp p : Pos} {e : AE} {rest : ASs} {xs : List AV} {r : AV} (hl : Nat.beq ap.endLine cp.line = true) (ho : σ.own = some (n, xs)) (he : aeval C e (cnOf ks) (σ.rho C.G ks) = some r) (hs : scal r = true) (hlen : xs.length ≤ 16777216) :
    aexecs C fu ks (.cons (.app n np ap e cp p) rest) σ = aexecs C fu ks rest { vals := σ.vals, own := some (n, xs ++ [r]) } := by
  have hn : (Nat.beq n n && scal r) = true := by rw [hs]; simp
  simp only [aexecs, aexec, hl, ho, he, hn, if_pos hlen]
theorem st_rev {n : Nat} {np ap cp p : Pos} {rest : ASs} {xs : List AV} (hl : Nat.beq ap.endLine cp.line = true) (ho : σ.own = some (n, xs)) (hlen : xs.length ≤ 16777216) :
    aexecs C fu ks (.cons (.rev n np ap cp p) rest) σ = aexecs C fu ks rest { vals := σ.vals, own := some (n, xs.reverse) } := by
  have hn : Nat.beq n n = true := by simp
  simp only [aexecs, aexec, hl, ho, hn, if_pos hlen]
theorem st_own {n : Nat} {np p : Pos} {e : AE} {rest : ASs} {l : List AV} (h0 : (fresh e && kindIn ks n == some .local) = true) (h1 : aeval C e (cnOf ks) (σ.rho C.G ks) = some (.lst l)) (h2 : scals l = true ∧ l.length ≤ 16777216) :
    aexecs C fu ks (.cons (.own n np e p) rest) σ = aexecs C fu ks rest { vals := σ.frz.vals, own := some (n, l) } := by
  simp only [aexecs, aexec, h0, h1, if_pos h2]
theorem st_whl {t : AE} {b : ASs} {p : Pos} {rest : ASs} (h : iterW (evalB C ks t) (aexecs C fu ks b) fu σ = some (.next σ₁)) : aexecs C fu ks (.cons (.whl t b p) rest) σ = aexecs C fu ks rest σ₁ := by
  simp only [aexecs, aexec, h]
theorem iw_more {test : Sg → Option Bool} {body : Sg → Option Out} {f : Nat} (h1 : test σ = some true) (h2 : body σ = some (.next σ₁)) : iterW test body (f + 1) σ = iterW test body f σ₁ := by
  simp only [iterW, h1, h2]
theorem iw_stop {test : Sg → Option Bool} {body : Sg → Option Out} {f : Nat} (h1 : test σ = some false) : iterW test body (f + 1) σ = some (.next σ) := by
  simp only [iterW, h1]
theorem mul_small (l b : Int) (hb : small b = true) : binAV .Mult (.int l) (.int b) = some (.int (l * b)) := by
  show (match small l || small b with | true => some (AV.int (l * b)) | false => none) = _
  rw [hb, Bool.or_true]
theorem len_lst (vs : List AV) (h : vs.length < 4611686018427387904) : biAV .len [.lst vs] = some (.int vs.length) := if_pos h
theorem scals_ints : ∀ l : List Int, scals (l.map AV.int) = true
  | [] => rfl
  | _ :: l => by rw [List.map_cons, scals, scals_ints l]; rfl
theorem pick_take (vs : List AV) (k : Nat) : pick vs none (some (k : Int)) = vs.take k := by
  have e : sliceBounds none (some (k : Int)) none vs.length = (((0 : Nat) : Int), ((min k vs.length : Nat) : Int), 1) := by
    simp only [sliceBounds, Option.getD_none]
    have h2 : ¬ ((k : Int) < 0) := by omega
    simp only [h2, if_false, show (1 : Int) > 0 by decide, if_true]
    congr 2
    omega
  unfold pick
  rw [e]
  simp only
  rw [sliceRange_one, Nat.sub_zero]
  have := pick_run vs.toArray 0 (min k vs.length)
  simp only [List.getElem?_toArray, List.drop_zero] at this
  rw [this, List.take_eq_take_iff]
  omega
theorem at_one {C : Cfg} {e : AE} {fr : List Nat} {ρ : Rho} {v : AV} {b : Bool} (h : aeval C e fr ρ = some v) (ht : truth v = some b) : atests C (.cons e .nil) fr ρ = some b := by
  simp only [atests, h, ht]
  cases b <;> rfl
theorem mapF_all {f : AV → Option (Option AV)} {g : AV → AV} : ∀ {xs : List AV}, (∀ x ∈ xs, f x = some (some (g x))) → mapF f xs = some (xs.map g)
  | [], _ => rfl
  | x :: r, h => by
    simp only [mapF, h x List.mem_cons_self, mapF_all fun y hy => h y (List.mem_cons_of_mem _ hy), List.map_cons]
theorem mapF_filter {f : AV → Option (Option AV)} {b : AV → Bool} {g : AV → AV} : ∀ {xs : List AV}, (∀ x ∈ xs, f x = if b x = true then some (some (g x)) else some none) → mapF f xs = some ((xs.filter b).map g)
  | [], _ => rfl
  | x :: r, h => by
    have ih := mapF_filter (f := f) (b := b) (g := g) (xs := r) fun y hy => h y (List.mem_cons_of_mem _ hy)
    have hx := h x List.mem_cons_self
    cases hb : b x with
    | true =>
      rw [hb, if_pos rfl] at hx
      simp only [mapF, hx, ih, List.filter_cons, hb, if_true, List.map_cons]
    | false =>
      rw [hb, if_neg (by decide)] at hx
      simp only [mapF, hx, ih, List.filter_cons, hb, Bool.false_eq_true, if_false]
theorem ev_comp1 {elt : AE} {n : Nat} {np p : Pos} {iter : AE} {ks' : Ks} {it : AV} {xs : List AV} {g : AV → AV} (h0 : compOk cn ks' [n] = true) (h1 : aeval C iter cn ρ = some it) (h2 : iterVals it = some xs)
    (h3 : ∀ x ∈ xs, aeval C elt (frees ks') ((n, x) :: cenv C.G ρ ks') = some (g x)) (h4 : xs.length ≤ 16777216) : aeval C (.comp elt (.one n np) iter .nil ks' p) cn ρ = some (.lst (xs.map g)) := by
  have h5 : mapF (elF C elt (.one n np) .nil (frees ks') (cenv C.G ρ ks')) xs = some (xs.map g) := mapF_all fun x hx => by
    unfold elF
    simp only [bindT, atests, h3 x hx, Option.map_some]
  simp only [aeval, tnames, h0, h1, h2, if_pos h4]
  exact congrArg (fun o : Option (List AV) => match o with | some l => some (AV.lst l) | none => none) h5
theorem ev_compT {elt : AE} {t : Tgt} {p : Pos} {iter : AE} {ifs : AEs} {ks' : Ks} {it : AV} {xs : List AV} {b : AV → Bool} {g : AV → AV} {ρx : AV → Rho} (h0 : compOk cn ks' (tnames t) = true) (h1 : aeval C iter cn ρ = some it) (h2 : iterVals it = some xs)
    (hb : ∀ x ∈ xs, bindT t x (cenv C.G ρ ks') = some (ρx x)) (ht : ∀ x ∈ xs, atests C ifs (frees ks') (ρx x) = some (b x)) (h3 : ∀ x ∈ xs, b x = true → aeval C elt (frees ks') (ρx x) = some (g x)) (h4 : xs.length ≤ 16777216) :
    aeval C (.comp elt t iter ifs ks' p) cn ρ = some (.lst ((xs.filter b).map g)) := by
  have h5 : mapF (elF C elt t ifs (frees ks') (cenv C.G ρ ks')) xs = some ((xs.filter b).map g) := mapF_filter fun x hx => by
    unfold elF
    simp only [hb x hx, ht x hx]
    cases hbx : b x with
    | true => simp only [h3 x hx hbx, Option.map_some, if_true]
    | false => simp
  simp only [aeval, h0, h1, h2, if_pos h4]
  exact congrArg (fun o : Option (List AV) => match o with | some l => some (AV.lst l) | none => none) h5
theorem isPs_ints : ∀ l : List Int, isPs (l.map AV.int) = true
  | [] => rfl
  | _ :: l => by rw [List.map_cons, isPs, isPs_ints l]; rfl
theorem deps_ints : ∀ l : List Int, deps (l.map AV.int) = 0
  | [] => rfl
  | _ :: l => by rw [List.map_cons, deps, deps_ints l]; rfl
theorem toPs_ints : ∀ l : List Int, toPs (l.map AV.int) = l.map PyData.int
  | [] => rfl
  | _ :: l => by rw [List.map_cons, toPs, toPs_ints l]; rfl
theorem eqvAll_ints : ∀ a b : List Int, PyData.eqvAll (a.map PyData.int) (b.map PyData.int) = decide (a = b)
  | [], [] => rfl
  | [], _ :: _ => rfl
  | _ :: _, [] => rfl
  | x :: a, y :: b => by
    have h : PyData.eqvAll ((x :: a).map PyData.int) ((y :: b).map PyData.int) = (decide (x = y) && PyData.eqvAll (a.map PyData.int) (b.map PyData.int)) := by kernel_rfl
    rw [h, eqvAll_ints a b]
    by_cases h1 : x = y <;> by_cases h2 : a = b <;> simp [h1, h2]
theorem eqAV_ints (a b : List Int) : eqAV (.lst (a.map AV.int)) (.lst (b.map AV.int)) = some (decide (a = b)) := by
  unfold eqAV
  simp only [isP, dep, isPs_ints, deps_ints, toP, toPs_ints]
  exact congrArg some (eqvAll_ints a b)
theorem any_ints (x : Int) : ∀ l : List Int, ((l.map PyData.int).any fun y => PyData.eqv y (.int x)) = decide (x ∈ l)
  | [] => rfl
  | y :: l => by
    have h : PyData.eqv (.int y) (.int x) = decide (y = x) := by kernel_rfl
    rw [List.map_cons, List.any_cons, h, any_ints x l]
    by_cases h1 : y = x
    · subst h1; simp
    · by_cases h2 : x ∈ l <;> simp [h1, h2, Ne.symm h1, eq_comm]
theorem inAV_ints (x : Int) (l : List Int) : inAV (.int x) (.lst (l.map AV.int)) = some (decide (x ∈ l)) := by
  unfold inAV
  simp only [isP, dep, isPs_ints, toP, toPs_ints]
  exact congrArg some (any_ints x l)
theorem fnF_of {ps : List Nat} {b : ASs} {args : List AV} {ρ : Rho} {r : AV} (h1 : bindAll ps args [] = some ρ) (h2 : aexecs C fu ks b { vals := ρ, own := none } = some (.ret r)) : fnF C fu ks ps b args = some r := by
  simp only [fnF, h1, h2]
end
end Mine
namespace Mine
abbrev P := Pos.mk
-- weekday
def k59 : Ks := [(1918985593, .local), (448629993325, .local), (7954788, .local), (1953718640, .local)]
def p59 : List Nat := [1918985593, 448629993325, 7954788]
def b59 : ASs := (.cons (.asg 1953718640 (P 11 4 11 8) (.bin (.nm 1918985593 (P 11 11 11 15)) .Sub (.cmp (.nm 448629993325 (P 11 19 11 24)) .Lt (.cst (.int 3) 0 (P 11 27 11 28)) (P 11 19 11 28)) (P 11 11 11 29)) (P 11 4 11 29))
    (.cons (.ret (.bin (.bin (.bin (.bin (.bin (.bin (.bin (.nm 1953718640 (P 12 12 12 16)) .Add (.bin (.nm 1953718640 (P 12 19 12 23)) .FloorDiv (.cst (.int 4) 0 (P 12 27 12 28)) (P 12 19 12 28)) (P 12 12 12 28)) .Sub (.bin (.nm 1953718640 (P 12 31 12 35)) .FloorDiv (.cst (.int 100) 0 (P 12 39 12 42)) (P 12 31 12 42)) (P 12 12 12 42)) .Add (.bin (.nm 1953718640 (P 12 45 12 49)) .FloorDiv (.cst (.int 400) 0 (P 12 53 12 56)) (P 12 45 12 56)) (P 12 12 12 56)) .Add (.sub (.tup (.cons (.cst (.int 0) 0 (P 12 60 12 61)) (.cons (.cst (.int 3) 0 (P 12 63 12 64)) (.cons (.cst (.int 2) 0 (P 12 66 12 67)) (.cons (.cst (.int 5) 0 (P 12 69 12 70)) (.cons (.cst (.int 0) 0 (P 12 72 12 73)) (.cons (.cst (.int 3) 0 (P 12 75 12 76)) (.cons (.cst (.int 5) 0 (P 12 78 12 79)) (.cons (.cst (.int 1) 0 (P 12 81 12 82)) (.cons (.cst (.int 4) 0 (P 12 84 12 85)) (.cons (.cst (.int 6) 0 (P 12 87 12 88)) (.cons (.cst (.int 2) 0 (P 12 90 12 91)) (.cons (.cst (.int 4) 0 (P 12 93 12 94)) .nil)))))))))))) 0 (P 12 59 12 95)) (.bin (.nm 448629993325 (P 12 96 12 101)) .Sub (.cst (.int 1) 0 (P 12 104 12 105)) (P 12 96 12 105)) (P 12 59 12 106)) (P 12 12 12 106)) .Add (.nm 7954788 (P 12 109 12 112)) (P 12 12 12 112)) .Add (.cst (.int 6) 0 (P 12 115 12 116)) (P 12 12 12 116)) .Mod (.cst (.int 7) 0 (P 12 120 12 121)) (P 12 11 12 121)) (P 12 4 12 121))
    .nil))
-- _is_leap
def k188 : Ks := [(1918985593, .local)]
def p188 : List Nat := [1918985593]
def b188 : ASs := (.cons (.ret (.bop .Or (.cons (.cmp (.bin (.nm 1918985593 (P 79 11 79 15)) .Mod (.cst (.int 400) 0 (P 79 18 79 21)) (P 79 11 79 21)) .Eq (.cst (.int 0) 0 (P 79 25 79 26)) (P 79 11 79 26)) (.cons (.bop .And (.cons (.cmp (.bin (.nm 1918985593 (P 79 31 79 35)) .Mod (.cst (.int 4) 0 (P 79 38 79 39)) (P 79 31 79 39)) .Eq (.cst (.int 0) 0 (P 79 43 79 44)) (P 79 31 79 44)) (.cons (.cmp (.bin (.nm 1918985593 (P 79 49 79 53)) .Mod (.cst (.int 100) 0 (P 79 56 79 59)) (P 79 49 79 59)) .NotEq (.cst (.int 0) 0 (P 79 63 79 64)) (P 79 49 79 64)) .nil)) (P 79 31 79 64)) .nil)) (P 79 11 79 65)) (P 79 4 79 65))
    .nil)
-- _last_day_of_month
def k195 : Ks := [(1918985593, .local), (448629993325, .local), (8746382312468603244, .local), (1398358340, .globalImplicit), (8097865121121134943, .globalImplicit)]
def p195 : List Nat := [1918985593, 448629993325]
def b195 : ASs := (.cons (.asg 8746382312468603244 (P 81 4 81 12) (.sub (.nm 1398358340 (P 81 15 81 19)) (.bin (.nm 448629993325 (P 81 20 81 25)) .Sub (.cst (.int 1) 0 (P 81 28 81 29)) (P 81 20 81 29)) (P 81 15 81 30)) (P 81 4 81 30))
    (.cons (.ife (.bop .And (.cons (.cmp (.nm 448629993325 (P 82 7 82 12)) .Eq (.cst (.int 2) 0 (P 82 16 82 17)) (P 82 7 82 17)) (.cons (.call 8097865121121134943 (P 82 22 82 30) (.cons (.nm 1918985593 (P 82 31 82 35)) .nil) (P 82 22 82 36)) .nil)) (P 82 7 82 36)) (.cons (.aug 8746382312468603244 (P 83 8 83 16) .Add (.cst (.int 1) 0 (P 83 20 83 21)) (P 83 8 83 21))
    .nil) .nil (P 82 4 83 21))
    (.cons (.ret (.nm 8746382312468603244 (P 84 11 84 19)) (P 84 4 84 19))
    .nil)))
-- _get_nth_weekday_of_month
def k409 : Ks := [(1918985593, .local), (448629993325, .local), (129833893436393042354987364, .local), (119, .local), (500153084262, .local), (35737516074730935749741733239, .globalImplicit), (435611006324, .globalImplicit), (435526984050, .globalImplicit), (9099297285108723175472042020834298998910047, .globalImplicit)]
def p409 : List Nat := [1918985593, 448629993325, 129833893436393042354987364]
def b409 : ASs := (.cons (.asg 119 (P 464 8 464 9) (.bin (.bin (.nm 129833893436393042354987364 (P 464 13 464 24)) .Add (.cst (.int 6) 0 (P 464 27 464 28)) (P 464 13 464 28)) .Mod (.cst (.int 7) 0 (P 464 32 464 33)) (P 464 12 464 33)) (P 464 8 464 33))
    (.cons (.asg 500153084262 (P 465 8 465 13) (.bin (.bin (.bin (.nm 119 (P 465 17 465 18)) .Sub (.call 35737516074730935749741733239 (P 465 21 465 33) (.cons (.nm 1918985593 (P 465 34 465 38)) (.cons (.nm 448629993325 (P 465 40 465 45)) (.cons (.cst (.int 1) 0 (P 465 47 465 48)) .nil))) (P 465 21 465 49)) (P 465 17 465 49)) .Mod (.cst (.int 7) 0 (P 465 53 465 54)) (P 465 16 465 54)) .Add (.cst (.int 1) 0 (P 465 57 465 58)) (P 465 16 465 58)) (P 465 8 465 58))
    (.cons (.ret (.call 435611006324 (P 466 15 466 20) (.cons (.call 435526984050 (P 466 21 466 26) (.cons (.nm 500153084262 (P 466 27 466 32)) (.cons (.bin (.call 9099297285108723175472042020834298998910047 (P 466 34 466 52) (.cons (.nm 1918985593 (P 466 53 466 57)) (.cons (.nm 448629993325 (P 466 59 466 64)) .nil)) (P 466 34 466 65)) .Add (.cst (.int 1) 0 (P 466 68 466 69)) (P 466 34 466 69)) (.cons (.cst (.int 7) 0 (P 466 71 466 72)) .nil))) (P 466 21 466 73)) .nil) (P 466 15 466 74)) (P 466 8 466 74))
    .nil)))
-- _get_nearest_weekday
def k419 : Ks := [(1918985593, .local), (448629993325, .local), (7954788, .local), (8746382312468603244, .local), (34165556108420471, .local), (9099297285108723175472042020834298998910047, .globalImplicit), (7235949, .globalImplicit), (35737516074730935749741733239, .globalImplicit)]
def p419 : List Nat := [1918985593, 448629993325, 7954788]
def b419 : ASs := (.cons (.asg 8746382312468603244 (P 470 8 470 16) (.call 9099297285108723175472042020834298998910047 (P 470 19 470 37) (.cons (.nm 1918985593 (P 470 38 470 42)) (.cons (.nm 448629993325 (P 470 44 470 49)) .nil)) (P 470 19 470 50)) (P 470 8 470 50))
    (.cons (.asg 7954788 (P 471 8 471 11) (.call 7235949 (P 471 14 471 17) (.cons (.nm 7954788 (P 471 18 471 21)) (.cons (.nm 8746382312468603244 (P 471 23 471 31)) .nil)) (P 471 14 471 32)) (P 471 8 471 32))
    (.cons (.asg 34165556108420471 (P 472 8 472 15) (.call 35737516074730935749741733239 (P 472 18 472 30) (.cons (.nm 1918985593 (P 472 31 472 35)) (.cons (.nm 448629993325 (P 472 37 472 42)) (.cons (.nm 7954788 (P 472 44 472 47)) .nil))) (P 472 18 472 48)) (P 472 8 472 48))
    (.cons (.ife (.cmp (.nm 34165556108420471 (P 473 11 473 18)) .Lt (.cst (.int 5) 0 (P 473 21 473 22)) (P 473 11 473 22)) (.cons (.ret (.nm 7954788 (P 474 19 474 22)) (P 474 12 474 22))
    .nil) .nil (P 473 8 474 22))
    (.cons (.ife (.cmp (.nm 34165556108420471 (P 475 11 475 18)) .Eq (.cst (.int 5) 0 (P 475 22 475 23)) (P 475 11 475 23)) (.cons (.ife (.cmp (.nm 7954788 (P 476 15 476 18)) .Gt (.cst (.int 1) 0 (P 476 21 476 22)) (P 476 15 476 22)) (.cons (.ret (.bin (.nm 7954788 (P 477 23 477 26)) .Sub (.cst (.int 1) 0 (P 477 29 477 30)) (P 477 23 477 30)) (P 477 16 477 30))
    .nil) (.cons (.ret (.bin (.nm 7954788 (P 479 23 479 26)) .Add (.cst (.int 2) 0 (P 479 29 479 30)) (P 479 23 479 30)) (P 479 16 479 30))
    .nil) (P 476 12 479 30))
    .nil) .nil (P 475 8 479 30))
    (.cons (.ife (.cmp (.nm 7954788 (P 480 11 480 14)) .Lt (.nm 8746382312468603244 (P 480 17 480 25)) (P 480 11 480 25)) (.cons (.ret (.bin (.nm 7954788 (P 481 19 481 22)) .Add (.cst (.int 1) 0 (P 481 25 481 26)) (P 481 19 481 26)) (P 481 12 481 26))
    .nil) (.cons (.ret (.bin (.nm 7954788 (P 483 19 483 22)) .Sub (.cst (.int 2) 0 (P 483 25 483 26)) (P 483 19 483 26)) (P 483 12 483 26))
    .nil) (P 480 8 483 26))
    .nil))))))
-- _law_numbers
def k585 : Ks := [(128026154263411, .local), (2037277037, .local), (120, .local), (431349919590, .local), (1953718636, .local), (7234924, .globalImplicit)]
def p585 : List Nat := [128026154263411, 2037277037]
def b585 : ASs := (.cons (.own 431349919590 (P 801 4 801 9) (.comp (.nm 120 (P 801 13 801 14)) (.one 120 (P 801 19 801 20)) (.slc (.nm 128026154263411 (P 801 24 801 30)) .none (.some (.nm 2037277037 (P 801 32 801 36))) (P 801 31 801 36) (P 801 24 801 37)) .nil [(12334, .local), (120, .local)] (P 801 12 801 38)) (P 801 4 801 38))
    (.cons (.asg 1953718636 (P 802 4 802 8) (.bin (.cst (.int 7) 0 (P 802 11 802 12)) .Add (.call 7234924 (P 802 15 802 18) (.cons (.nm 128026154263411 (P 802 19 802 25)) .nil) (P 802 15 802 26)) (P 802 11 802 26)) (P 802 4 802 26))
    (.cons (.fors (.one 120 (P 803 8 803 9)) (.nm 128026154263411 (P 803 13 803 19)) (.cons (.asg 1953718636 (P 804 8 804 12) (.bin (.bin (.bin (.nm 1953718636 (P 804 16 804 20)) .Mult (.cst (.int 31) 0 (P 804 23 804 25)) (P 804 16 804 25)) .Add (.nm 120 (P 804 28 804 29)) (P 804 16 804 29)) .Mod (.cst (.int 2147483647) 0 (P 804 33 804 43)) (P 804 15 804 43)) (P 804 8 804 43))
    .nil) (P 803 4 804 43))
    (.cons (.whl (.cmp (.call 7234924 (P 805 10 805 13) (.cons (.nm 431349919590 (P 805 14 805 19)) .nil) (P 805 10 805 20)) .Lt (.nm 2037277037 (P 805 23 805 27)) (P 805 10 805 27)) (.cons (.asg 1953718636 (P 806 8 806 12) (.bin (.bin (.bin (.nm 1953718636 (P 806 16 806 20)) .Mult (.cst (.int 48271) 0 (P 806 23 806 28)) (P 806 16 806 28)) .Add (.cst (.int 11) 0 (P 806 31 806 33)) (P 806 16 806 33)) .Mod (.cst (.int 2147483647) 0 (P 806 37 806 47)) (P 806 15 806 47)) (P 806 8 806 47))
    (.cons (.app 431349919590 (P 807 8 807 13) (P 807 8 807 20) (.bin (.nm 1953718636 (P 807 21 807 25)) .FloorDiv (.cst (.int 13) 0 (P 807 29 807 31)) (P 807 21 807 31)) (P 807 8 807 32) (P 807 8 807 32))
    .nil)) (P 805 4 807 32))
    (.cons (.ret (.nm 431349919590 (P 808 11 808 16)) (P 808 4 808 16))
    .nil)))))
-- _law_rows
def k590 : Ks := [(1918985593, .cell), (448629993325, .cell), (435526984050, .globalImplicit)]
def p590 : List Nat := [1918985593, 448629993325]
def b590 : ASs := (.cons (.ret (.comp (.call 1953720684 (P 810 12 810 16) (.cons (.sm 8243122689144746595 (P 810 17 810 25) 655673469800784185511132567930183916947295881793699406243679 (P 810 17 810 51) (.cons (.nm 1918985593 (P 810 52 810 56)) (.cons (.nm 448629993325 (P 810 58 810 63)) (.cons (.nm 107 (P 810 65 810 66)) .nil))) (P 810 17 810 67)) .nil) (P 810 12 810 68)) (.one 107 (P 810 73 810 74)) (.call 435526984050 (P 810 78 810 83) (.cons (.cst (.int 7) 0 (P 810 84 810 85)) .nil) (P 810 78 810 86)) .nil [(12334, .local), (107, .local), (1953720684, .globalImplicit), (8243122689144746595, .globalImplicit), (448629993325, .free), (1918985593, .free)] (P 810 11 810 87)) (P 810 4 810 87))
    .nil)
-- _law_long
def k597 : Ks := [(1918985593, .local), (448629993325, .local)]
def p597 : List Nat := [1918985593, 448629993325]
def b597 : ASs := (.cons (.ife (.cmp (.nm 448629993325 (P 812 7 812 12)) .Eq (.cst (.int 2) 0 (P 812 16 812 17)) (P 812 7 812 17)) (.cons (.ret (.ife (.bop .And (.cons (.cmp (.bin (.nm 1918985593 (P 813 21 813 25)) .Mod (.cst (.int 4) 0 (P 813 28 813 29)) (P 813 21 813 29)) .Eq (.cst (.int 0) 0 (P 813 33 813 34)) (P 813 21 813 34)) (.cons (.bop .Or (.cons (.cmp (.bin (.nm 1918985593 (P 813 40 813 44)) .Mod (.cst (.int 100) 0 (P 813 47 813 50)) (P 813 40 813 50)) .Gt (.cst (.int 0) 0 (P 813 53 813 54)) (P 813 40 813 54)) (.cons (.cmp (.bin (.nm 1918985593 (P 813 58 813 62)) .Mod (.cst (.int 400) 0 (P 813 65 813 68)) (P 813 58 813 68)) .Eq (.cst (.int 0) 0 (P 813 72 813 73)) (P 813 58 813 73)) .nil)) (P 813 40 813 73)) .nil)) (P 813 21 813 74)) (.cst (.int 29) 0 (P 813 15 813 17)) (.cst (.int 28) 0 (P 813 80 813 82)) (P 813 15 813 82)) (P 813 8 813 82))
    .nil) .nil (P 812 4 813 82))
    (.cons (.ret (.ife (.cmp (.nm 448629993325 (P 814 17 814 22)) .In (.tup (.cons (.cst (.int 4) 0 (P 814 27 814 28)) (.cons (.cst (.int 6) 0 (P 814 30 814 31)) (.cons (.cst (.int 9) 0 (P 814 33 814 34)) (.cons (.cst (.int 11) 0 (P 814 36 814 38)) .nil)))) 0 (P 814 26 814 39)) (P 814 17 814 39)) (.cst (.int 30) 0 (P 814 11 814 13)) (.cst (.int 31) 0 (P 814 45 814 47)) (P 814 11 814 47)) (P 814 4 814 47))
    .nil))
-- _law_nearest
def k602 : Ks := [(1937207154, .local), (1735290732, .local), (125779768604014, .local), (7170401, .cell), (1802661751, .local), (500151969132, .cell), (7235949, .globalImplicit)]
def p602 : List Nat := [1937207154, 1735290732, 125779768604014]
def b602 : ASs := (.cons (.asg 7170401 (P 816 4 816 7) (.call 7235949 (P 816 10 816 13) (.cons (.nm 125779768604014 (P 816 14 816 20)) (.cons (.nm 1735290732 (P 816 22 816 26)) .nil)) (P 816 10 816 27)) (P 816 4 816 27))
    (.cons (.asg 1802661751 (P 817 4 817 8) (.comp2 (.nm 7954788 (P 817 12 817 15)) (.one 7827314 (P 817 20 817 23)) (.slc (.nm 1937207154 (P 817 27 817 31)) (.some (.cst (.int 1) 0 (P 817 32 817 33))) (.some (.cst (.int 6) 0 (P 817 34 817 35))) (P 817 32 817 35) (P 817 27 817 36)) (.one 7954788 (P 817 41 817 44)) (.nm 7827314 (P 817 48 817 51)) [(12334, .local), (7827314, .local), (7954788, .local)] (P 817 11 817 52)) (P 817 4 817 52))
    (.cons (.asg 500151969132 (P 818 4 818 9) (.call 7235949 (P 818 12 818 15) (.cons (.comp (.call 7561825 (P 818 17 818 20) (.cons (.bin (.nm 7954788 (P 818 21 818 24)) .Sub (.nm 7170401 (P 818 27 818 30)) (P 818 21 818 30)) .nil) (P 818 17 818 31)) (.one 7954788 (P 818 36 818 39)) (.nm 1802661751 (P 818 43 818 47)) .nil [(12334, .local), (7954788, .local), (7561825, .globalImplicit), (7170401, .free)] (P 818 16 818 48)) .nil) (P 818 12 818 49)) (P 818 4 818 49))
    (.cons (.ret (.comp (.nm 7954788 (P 819 12 819 15)) (.one 7954788 (P 819 20 819 23)) (.nm 1802661751 (P 819 27 819 31)) (.cons (.cmp (.call 7561825 (P 819 35 819 38) (.cons (.bin (.nm 7954788 (P 819 39 819 42)) .Sub (.nm 7170401 (P 819 45 819 48)) (P 819 39 819 48)) .nil) (P 819 35 819 49)) .Eq (.nm 500151969132 (P 819 53 819 58)) (P 819 35 819 58)) .nil) [(12334, .local), (7954788, .local), (7561825, .globalImplicit), (7170401, .free), (500151969132, .free)] (P 819 11 819 59)) (P 819 4 819 59))
    .nil))))
-- law
def k607 : Ks := [(128026154263411, .local), (431349919590, .local), (1918985593, .cell), (448629993325, .local), (126892467187565, .cell), (1937207154, .local), (1735290732, .local), (1684828020, .local), (112628529193316, .cell), (32503081525146214, .local), (125779768604014, .local), (35729072447573771365682080863, .globalImplicit), (435526984050, .globalImplicit), (1907972337815951338591, .globalImplicit), (110386908131187, .globalImplicit), (1953720684, .globalImplicit), (9099297285108723175472042020834298998910047, .globalImplicit), (7234924, .globalImplicit), (8097865121121134943, .globalImplicit), (2129981791643877076063, .globalImplicit), (8243122689144746595, .globalImplicit), (36039766677493441514851888223, .globalImplicit)]
def p607 : List Nat := [128026154263411]
def b607 : ASs := (.cons (.asg 431349919590 (P 821 4 821 9) (.call 35729072447573771365682080863 (P 821 12 821 24) (.cons (.nm 128026154263411 (P 821 25 821 31)) (.cons (.cst (.int 3) 0 (P 821 33 821 34)) .nil)) (P 821 12 821 35)) (P 821 4 821 35))
    (.cons (.asg 1918985593 (P 822 4 822 8) (.bin (.cst (.int 1600) 0 (P 822 11 822 15)) .Add (.bin (.sub (.nm 431349919590 (P 822 18 822 23)) (.cst (.int 0) 0 (P 822 24 822 25)) (P 822 18 822 26)) .Mod (.cst (.int 800) 0 (P 822 29 822 32)) (P 822 18 822 32)) (P 822 11 822 32)) (P 822 4 822 32))
    (.cons (.asg 126892467187565 (P 823 4 823 10) (.comp (.call 2129981791643877076063 (P 823 14 823 23) (.cons (.nm 1918985593 (P 823 24 823 28)) (.cons (.nm 448629993325 (P 823 30 823 35)) .nil)) (P 823 14 823 36)) (.one 448629993325 (P 823 41 823 46)) (.call 435526984050 (P 823 50 823 55) (.cons (.cst (.int 1) 0 (P 823 56 823 57)) (.cons (.cst (.int 13) 0 (P 823 59 823 61)) .nil)) (P 823 50 823 62)) .nil [(12334, .local), (448629993325, .local), (2129981791643877076063, .globalImplicit), (1918985593, .free)] (P 823 13 823 63)) (P 823 4 823 63))
    (.cons (.fors (.one 448629993325 (P 824 8 824 13)) (.call 435526984050 (P 824 17 824 22) (.cons (.cst (.int 1) 0 (P 824 23 824 24)) (.cons (.cst (.int 13) 0 (P 824 26 824 28)) .nil)) (P 824 17 824 29)) (.cons (.asg 1937207154 (P 825 8 825 12) (.sub (.nm 126892467187565 (P 825 15 825 21)) (.bin (.nm 448629993325 (P 825 22 825 27)) .Sub (.cst (.int 1) 0 (P 825 30 825 31)) (P 825 22 825 31)) (P 825 15 825 32)) (P 825 8 825 32))
    (.cons (.asg 1735290732 (P 826 8 826 12) (.call 1907972337815951338591 (P 826 15 826 24) (.cons (.nm 1918985593 (P 826 25 826 29)) (.cons (.nm 448629993325 (P 826 31 826 36)) .nil)) (P 826 15 826 37)) (P 826 8 826 37))
    (.cons (.ife (.bop .Or (.cons (.cmp (.call 110386908131187 (P 827 11 827 17) (.cons (.comp2 (.nm 7954788 (P 827 19 827 22)) (.one 7827314 (P 827 27 827 30)) (.nm 1937207154 (P 827 34 827 38)) (.one 7954788 (P 827 43 827 46)) (.nm 7827314 (P 827 50 827 53)) [(12334, .local), (7827314, .local), (7954788, .local)] (P 827 18 827 54)) .nil) (P 827 11 827 55)) .NotEq (.call 1953720684 (P 827 59 827 63) (.cons (.call 435526984050 (P 827 64 827 69) (.cons (.cst (.int 1) 0 (P 827 70 827 71)) (.cons (.bin (.nm 1735290732 (P 827 73 827 77)) .Add (.cst (.int 1) 0 (P 827 80 827 81)) (P 827 73 827 81)) .nil)) (P 827 64 827 82)) .nil) (P 827 59 827 83)) (P 827 11 827 83)) (.cons (.cmp (.call 9099297285108723175472042020834298998910047 (P 827 87 827 105) (.cons (.nm 1918985593 (P 827 106 827 110)) (.cons (.nm 448629993325 (P 827 112 827 117)) .nil)) (P 827 87 827 118)) .NotEq (.nm 1735290732 (P 827 122 827 126)) (P 827 87 827 126)) .nil)) (P 827 11 827 126)) (.cons (.ret (.cst (.bool false) 0 (P 828 19 828 24)) (P 828 12 828 24))
    .nil) .nil (P 827 8 828 24))
    (.cons (.ife (.bop .Or (.cons (.cmp (.comp (.nm 7827314 (P 829 12 829 15)) (.one 7827314 (P 829 20 829 23)) (.nm 1937207154 (P 829 27 829 31)) (.cons (.cmp (.call 7234924 (P 829 35 829 38) (.cons (.nm 7827314 (P 829 39 829 42)) .nil) (P 829 35 829 43)) .NotIn (.tup (.cons (.cst (.int 4) 0 (P 829 52 829 53)) (.cons (.cst (.int 5) 0 (P 829 55 829 56)) .nil)) 0 (P 829 51 829 57)) (P 829 35 829 57)) .nil) [(12334, .local), (7827314, .local), (7234924, .globalImplicit)] (P 829 11 829 58)) .NotEq (.lst .nil (P 829 62 829 64)) (P 829 11 829 64)) (.cons (.cmp (.call 7234924 (P 829 68 829 71) (.cons (.comp (.nm 7827314 (P 829 73 829 76)) (.one 7827314 (P 829 81 829 84)) (.nm 1937207154 (P 829 88 829 92)) (.cons (.cmp (.call 7234924 (P 829 96 829 99) (.cons (.nm 7827314 (P 829 100 829 103)) .nil) (P 829 96 829 104)) .Eq (.cst (.int 5) 0 (P 829 108 829 109)) (P 829 96 829 109)) .nil) [(12334, .local), (7827314, .local), (7234924, .globalImplicit)] (P 829 72 829 110)) .nil) (P 829 68 829 111)) .NotEq (.bin (.nm 1735290732 (P 829 115 829 119)) .Sub (.cst (.int 28) 0 (P 829 122 829 124)) (P 829 115 829 124)) (P 829 68 829 124)) .nil)) (P 829 11 829 124)) (.cons (.ret (.cst (.bool false) 0 (P 830 19 830 24)) (P 830 12 830 24))
    .nil) .nil (P 829 8 830 24))
    .nil)))) (P 824 4 830 24))
    (.cons (.ife (.cmp (.call 8097865121121134943 (P 831 7 831 15) (.cons (.nm 1918985593 (P 831 16 831 20)) .nil) (P 831 7 831 21)) .IsNot (.cmp (.call 1907972337815951338591 (P 831 30 831 39) (.cons (.nm 1918985593 (P 831 40 831 44)) (.cons (.cst (.int 2) 0 (P 831 46 831 47)) .nil)) (P 831 30 831 48)) .Eq (.cst (.int 29) 0 (P 831 52 831 54)) (P 831 30 831 54)) (P 831 7 831 55)) (.cons (.ret (.cst (.bool false) 0 (P 832 15 832 20)) (P 832 8 832 20))
    .nil) .nil (P 831 4 832 20))
    (.cons (.asg 1684828020 (P 833 4 833 8) (.lst (.cons (.tup (.cons (.cst (.int 4) 0 (P 833 13 833 14)) (.cons (.cst (.int 4) 0 (P 833 16 833 17)) .nil)) 0 (P 833 12 833 18)) (.cons (.tup (.cons (.cst (.int 6) 0 (P 833 21 833 22)) (.cons (.cst (.int 6) 0 (P 833 24 833 25)) .nil)) 0 (P 833 20 833 26)) (.cons (.tup (.cons (.cst (.int 8) 0 (P 833 29 833 30)) (.cons (.cst (.int 8) 0 (P 833 32 833 33)) .nil)) 0 (P 833 28 833 34)) (.cons (.tup (.cons (.cst (.int 10) 0 (P 833 37 833 39)) (.cons (.cst (.int 10) 0 (P 833 41 833 43)) .nil)) 0 (P 833 36 833 44)) (.cons (.tup (.cons (.cst (.int 12) 0 (P 833 47 833 49)) (.cons (.cst (.int 12) 0 (P 833 51 833 53)) .nil)) 0 (P 833 46 833 54)) (.cons (.tup (.cons (.cst (.int 5) 0 (P 833 57 833 58)) (.cons (.cst (.int 9) 0 (P 833 60 833 61)) .nil)) 0 (P 833 56 833 62)) (.cons (.tup (.cons (.cst (.int 9) 0 (P 833 65 833 66)) (.cons (.cst (.int 5) 0 (P 833 68 833 69)) .nil)) 0 (P 833 64 833 70)) (.cons (.tup (.cons (.cst (.int 7) 0 (P 833 73 833 74)) (.cons (.cst (.int 11) 0 (P 833 76 833 78)) .nil)) 0 (P 833 72 833 79)) (.cons (.tup (.cons (.cst (.int 11) 0 (P 833 82 833 84)) (.cons (.cst (.int 7) 0 (P 833 86 833 87)) .nil)) 0 (P 833 81 833 88)) (.cons (.tup (.cons (.cst (.int 3) 0 (P 833 91 833 92)) (.cons (.cst (.int 14) 0 (P 833 94 833 96)) .nil)) 0 (P 833 90 833 97)) (.cons (.tup (.cons (.cst (.int 2) 0 (P 833 100 833 101)) (.cons (.call 1907972337815951338591 (P 833 103 833 112) (.cons (.nm 1918985593 (P 833 113 833 117)) (.cons (.cst (.int 2) 0 (P 833 119 833 120)) .nil)) (P 833 103 833 121)) .nil)) 0 (P 833 99 833 122)) .nil))))))))))) (P 833 11 833 123)) (P 833 4 833 123))
    (.cons (.asg 112628529193316 (P 834 4 834 10) (.comp (.nm 107 (P 834 14 834 15)) (.one 107 (P 834 20 834 21)) (.call 435526984050 (P 834 25 834 30) (.cons (.cst (.int 7) 0 (P 834 31 834 32)) .nil) (P 834 25 834 33)) (.cons (.cmp (.cst (.int 4) 0 (P 834 37 834 38)) .In (.sub (.sub (.nm 126892467187565 (P 834 42 834 48)) (.cst (.int 3) 0 (P 834 49 834 50)) (P 834 42 834 51)) (.nm 107 (P 834 52 834 53)) (P 834 42 834 54)) (P 834 37 834 54)) .nil) [(12334, .local), (107, .local), (126892467187565, .free)] (P 834 13 834 55)) (P 834 4 834 55))
    (.cons (.ife (.cmp (.comp (.cst (.int 1) 0 (P 835 8 835 9)) (.tup [(448629993325, (P 835 14 835 19)), (7954788, (P 835 21 835 24))] 0 (P 835 14 835 24)) (.nm 1684828020 (P 835 28 835 32)) (.cons (.cmp (.nm 7954788 (P 835 36 835 39)) .NotIn (.sub (.sub (.nm 126892467187565 (P 835 47 835 53)) (.bin (.nm 448629993325 (P 835 54 835 59)) .Sub (.cst (.int 1) 0 (P 835 62 835 63)) (P 835 54 835 63)) (P 835 47 835 64)) (.sub (.nm 112628529193316 (P 835 65 835 71)) (.cst (.int 0) 0 (P 835 72 835 73)) (P 835 65 835 74)) (P 835 47 835 75)) (P 835 36 835 75)) .nil) [(12334, .local), (448629993325, .local), (7954788, .local), (112628529193316, .free), (126892467187565, .free)] (P 835 7 835 76)) .NotEq (.lst .nil (P 835 80 835 82)) (P 835 7 835 82)) (.cons (.ret (.cst (.bool false) 0 (P 836 15 836 20)) (P 836 8 836 20))
    .nil) .nil (P 835 4 836 20))
    (.cons (.asg 32503081525146214 (P 837 4 837 11) (.call 7234924 (P 837 14 837 17) (.cons (.comp (.cst (.int 1) 0 (P 837 19 837 20)) (.one 1937207154 (P 837 25 837 29)) (.nm 126892467187565 (P 837 33 837 39)) (.cons (.cmp (.cst (.int 13) 0 (P 837 43 837 45)) .In (.sub (.nm 1937207154 (P 837 49 837 53)) (.cst (.int 5) 0 (P 837 54 837 55)) (P 837 49 837 56)) (P 837 43 837 56)) .nil) [(12334, .local), (1937207154, .local)] (P 837 18 837 57)) .nil) (P 837 14 837 58)) (P 837 4 837 58))
    (.cons (.ife (.bop .Or (.cons (.cmp (.nm 32503081525146214 (P 838 7 838 14)) .Lt (.cst (.int 1) 0 (P 838 17 838 18)) (P 838 7 838 18)) (.cons (.cmp (.nm 32503081525146214 (P 838 22 838 29)) .Gt (.cst (.int 3) 0 (P 838 32 838 33)) (P 838 22 838 33)) .nil)) (P 838 7 838 33)) (.cons (.ret (.cst (.bool false) 0 (P 839 15 839 20)) (P 839 8 839 20))
    .nil) .nil (P 838 4 839 20))
    (.cons (.asg 448629993325 (P 840 4 840 9) (.bin (.cst (.int 1) 0 (P 840 12 840 13)) .Add (.bin (.sub (.nm 431349919590 (P 840 16 840 21)) (.cst (.int 1) 0 (P 840 22 840 23)) (P 840 16 840 24)) .Mod (.cst (.int 12) 0 (P 840 27 840 29)) (P 840 16 840 29)) (P 840 12 840 29)) (P 840 4 840 29))
    (.cons (.asg 125779768604014 (P 841 4 841 10) (.bin (.cst (.int 1) 0 (P 841 13 841 14)) .Add (.bin (.sub (.nm 431349919590 (P 841 17 841 22)) (.cst (.int 2) 0 (P 841 23 841 24)) (P 841 17 841 25)) .Mod (.cst (.int 31) 0 (P 841 28 841 30)) (P 841 17 841 30)) (P 841 13 841 30)) (P 841 4 841 30))
    (.cons (.ife (.cmp (.call 2129981791643877076063 (P 842 7 842 16) (.cons (.bin (.nm 1918985593 (P 842 17 842 21)) .Add (.cst (.int 400) 0 (P 842 24 842 27)) (P 842 17 842 27)) (.cons (.nm 448629993325 (P 842 29 842 34)) .nil)) (P 842 7 842 35)) .NotEq (.sub (.nm 126892467187565 (P 842 39 842 45)) (.bin (.nm 448629993325 (P 842 46 842 51)) .Sub (.cst (.int 1) 0 (P 842 54 842 55)) (P 842 46 842 55)) (P 842 39 842 56)) (P 842 7 842 56)) (.cons (.ret (.cst (.bool false) 0 (P 843 15 843 20)) (P 843 8 843 20))
    .nil) .nil (P 842 4 843 20))
    (.cons (.ret (.cmp (.lst (.cons (.sm 8243122689144746595 (P 844 12 844 20) 692959803327527360168466187692187841382687532895 (P 844 12 844 41) (.cons (.nm 1918985593 (P 844 42 844 46)) (.cons (.nm 448629993325 (P 844 48 844 53)) (.cons (.nm 125779768604014 (P 844 55 844 61)) .nil))) (P 844 12 844 62)) .nil) (P 844 11 844 63)) .Eq (.call 36039766677493441514851888223 (P 844 67 844 79) (.cons (.sub (.nm 126892467187565 (P 844 80 844 86)) (.bin (.nm 448629993325 (P 844 87 844 92)) .Sub (.cst (.int 1) 0 (P 844 95 844 96)) (P 844 87 844 96)) (P 844 80 844 97)) (.cons (.call 1907972337815951338591 (P 844 99 844 108) (.cons (.nm 1918985593 (P 844 109 844 113)) (.cons (.nm 448629993325 (P 844 115 844 120)) .nil)) (P 844 99 844 121)) (.cons (.nm 125779768604014 (P 844 123 844 129)) .nil))) (P 844 67 844 130)) (P 844 11 844 130)) (P 844 4 844 130))
    .nil))))))))))))))

end Mine
namespace Mine
def G1 : Rho := [(35737516074730935749741733239, .fn 59), (9099297285108723175472042020834298998910047, .fn 195), (8097865121121134943, .fn 188), (1398358340, .tup [.int 31, .int 28, .int 31, .int 30, .int 31, .int 30, .int 31, .int 31, .int 30, .int 31, .int 30, .int 31]), (2129981791643877076063, .fn 590), (1907972337815951338591, .fn 597), (36039766677493441514851888223, .fn 602), (35729072447573771365682080863, .fn 585), (8243122689144746595, .cls 501), (435526984050, .bi .range), (1953720684, .bi .list), (435611006324, .bi .tuple), (7235949, .bi .min), (110386908131187, .bi .sorted), (7234924, .bi .len), (7561825, .bi .abs)]
def sm1 : List (Addr × Nat × Addr) := [(501, 655673469800784185511132567930183916947295881793699406243679, 409), (501, 692959803327527360168466187692187841382687532895, 419)]

def dS (p : Int) : Int := p + Int.fdiv p 4 - Int.fdiv p 100 + Int.fdiv p 400
def tT (m : Int) : Int := [0, 3, 2, 5, 0, 3, 5, 1, 4, 6, 2, 4].getD (m - 1).toNat 0
/-- weekday -/
def wd (y m d : Int) : Int := Int.fmod (dS (y - b2i (decide (m < 3))) + tT m + d + 6) 7
def lp (y : Int) : Bool := decide (Int.fmod y 400 = 0) || (decide (Int.fmod y 4 = 0) && !decide (Int.fmod y 100 = 0))
def dM (m : Int) : Int := [31, 28, 31, 30, 31, 30, 31, 31, 30, 31, 30, 31].getD (m - 1).toNat 0
def lastD (y m : Int) : Int := if m = 2 ∧ lp y = true then 29 else dM m
def jd (y m : Int) : Int := wd y m 1
def rowI (j L k : Int) : List Int := (rangeVals (Int.fmod (Int.fmod (k + 6) 7 - j) 7 + 1) (L + 1) 7).getD []
def rowsL (j L : Int) : List AV := (rangeInts 0 1 7).map fun k => .lst ((rowI j L k).map .int)
def near (j L n : Int) : Int :=
  let d := if L < n then L else n
  let w := Int.fmod (j + d - 1) 7
  if w < 5 then d else if w = 5 then (if d > 1 then d - 1 else d + 2) else if d < L then d + 1 else d - 2

def C10 : Cfg := ⟨G1, tabFn [], tabSm sm1⟩
def F59 : List AV → Option AV
  | [.int y, .int m, .int d] => if 1 ≤ m ∧ m ≤ 12 then some (.int (wd y m d)) else none
  | _ => none
theorem months12 {m : Int} (h : 1 ≤ m ∧ m ≤ 12) : m = 1 ∨ m = 2 ∨ m = 3 ∨ m = 4 ∨ m = 5 ∨ m = 6 ∨ m = 7 ∨ m = 8 ∨ m = 9 ∨ m = 10 ∨ m = 11 ∨ m = 12 := by omega
theorem e59 (args : List AV) (r : AV) (h : F59 args = some r) : fnF C10 20 k59 p59 b59 args = some r := by
  unfold F59 at h
  split at h
  · split at h
    · rename_i y m d hm
      cases h
      rcases months12 hm with rfl | rfl | rfl | rfl | rfl | rfl | rfl | rfl | rfl | rfl | rfl | rfl <;> kernel_rfl
    · cases h
  · cases h
def F188 : List AV → Option AV
  | [.int y] => some (.bool (lp y))
  | _ => none
theorem e188 (args : List AV) (r : AV) (h : F188 args = some r) : fnF C10 20 k188 p188 b188 args = some r := by
  unfold F188 at h
  split at h
  · rename_i y
    cases h
    refine fnF_of (ρ := [(1918985593, .int y)]) (by kernel_rfl) (st_ret ?_)
    generalize hρ : Sg.rho C10.G k188 { vals := [(1918985593, AV.int y)], own := none } = ρ
    have h1 : aeval C10 (.cmp (.bin (.nm 1918985593 (P 79 11 79 15)) .Mod (.cst (.int 400) 0 (P 79 18 79 21)) (P 79 11 79 21)) .Eq (.cst (.int 0) 0 (P 79 25 79 26)) (P 79 11 79 26)) (cnOf k188) ρ = some (.bool (decide (Int.fmod y 400 = 0))) := by subst hρ; kernel_rfl
    have h2 : aeval C10 (.cmp (.bin (.nm 1918985593 (P 79 31 79 35)) .Mod (.cst (.int 4) 0 (P 79 38 79 39)) (P 79 31 79 39)) .Eq (.cst (.int 0) 0 (P 79 43 79 44)) (P 79 31 79 44)) (cnOf k188) ρ = some (.bool (decide (Int.fmod y 4 = 0))) := by subst hρ; kernel_rfl
    have h3 : aeval C10 (.cmp (.bin (.nm 1918985593 (P 79 49 79 53)) .Mod (.cst (.int 100) 0 (P 79 56 79 59)) (P 79 49 79 59)) .NotEq (.cst (.int 0) 0 (P 79 63 79 64)) (P 79 49 79 64)) (cnOf k188) ρ = some (.bool (!decide (Int.fmod y 100 = 0))) := by subst hρ; kernel_rfl
    unfold lp
    by_cases c1 : Int.fmod y 400 = 0
    · have := ev_or1 (es := .nil) (e' := .bop .And (.cons (.cmp (.bin (.nm 1918985593 (P 79 31 79 35)) .Mod (.cst (.int 4) 0 (P 79 38 79 39)) (P 79 31 79 39)) .Eq (.cst (.int 0) 0 (P 79 43 79 44)) (P 79 31 79 44)) (.cons (.cmp (.bin (.nm 1918985593 (P 79 49 79 53)) .Mod (.cst (.int 100) 0 (P 79 56 79 59)) (P 79 49 79 59)) .NotEq (.cst (.int 0) 0 (P 79 63 79 64)) (P 79 49 79 64)) .nil)) (P 79 31 79 64)) (p := P 79 11 79 65) h1 (by rw [truth, decide_eq_true c1])
      rw [decide_eq_true c1] at this ⊢
      exact this
    · by_cases c2 : Int.fmod y 4 = 0
      · have := ev_or2 (p := P 79 11 79 65) h1 (by rw [truth, decide_eq_false c1]) (ev_and2 (p := P 79 31 79 64) h2 (by rw [truth, decide_eq_true c2]) h3)
        rw [decide_eq_false c1, decide_eq_true c2]
        exact this
      · have := ev_or2 (p := P 79 11 79 65) h1 (by rw [truth, decide_eq_false c1]) (ev_and1 (es := .nil) (e' := .cmp (.bin (.nm 1918985593 (P 79 49 79 53)) .Mod (.cst (.int 100) 0 (P 79 56 79 59)) (P 79 49 79 59)) .NotEq (.cst (.int 0) 0 (P 79 63 79 64)) (P 79 49 79 64)) (p := P 79 31 79 64) h2 (by rw [truth, decide_eq_false c2]))
        rw [decide_eq_false c1, decide_eq_false c2]
        rw [decide_eq_false c2] at this
        exact this
  · cases h
end Mine
namespace Mine
def C11 : Cfg := ⟨G1, tabFn [(59, F59), (188, F188)], tabSm sm1⟩
def F195 : List AV → Option AV
  | [.int y, .int m] => if 1 ≤ m ∧ m ≤ 12 then some (.int (lastD y m)) else none
  | _ => none
theorem e195 (args : List AV) (r : AV) (h : F195 args = some r) : fnF C11 20 k195 p195 b195 args = some r := by
  unfold F195 at h
  split at h
  · split at h
    · rename_i y m hm
      cases h
      have two : fnF C11 20 k195 p195 b195 [.int y, .int 2] = some (.int (lastD y 2)) := by
        refine fnF_of (ρ := [(448629993325, .int 2), (1918985593, .int y)]) (by kernel_rfl) ?_
        unfold b195
        refine (st_asgv (r := .int 28) (σ₂ := { vals := [(448629993325, .int 2), (1918985593, .int y), (8746382312468603244, .int 28)], own := none }) rfl (by kernel_rfl) (by kernel_rfl)).trans ?_
        cases hl : lp y with
        | true =>
          refine (st_ifTn (σ₁ := { vals := [(448629993325, .int 2), (1918985593, .int y), (8746382312468603244, .int 29)], own := none }) (ev_B (ev_and2 (v := .bool true) (u := .bool (lp y)) (by kernel_rfl) (by kernel_rfl) (ev_call (vs := [.int y]) (a := 188) (F := F188) (by kernel_rfl) (by kernel_rfl) (by kernel_rfl) (by kernel_rfl))) (by rw [truth, hl])) (by kernel_rfl)).trans ?_
          refine st_ret ?_
          have : lastD y 2 = 29 := by unfold lastD; simp [hl]
          rw [this]
          kernel_rfl
        | false =>
          refine (st_if0 (ev_B (ev_and2 (v := .bool true) (u := .bool (lp y)) (by kernel_rfl) (by kernel_rfl) (ev_call (vs := [.int y]) (a := 188) (F := F188) (by kernel_rfl) (by kernel_rfl) (by kernel_rfl) (by kernel_rfl))) (by rw [truth, hl]))).trans ?_
          refine st_ret ?_
          have : lastD y 2 = 28 := by unfold lastD; simp [hl]; rfl
          rw [this]
          kernel_rfl
      rcases months12 hm with rfl | rfl | rfl | rfl | rfl | rfl | rfl | rfl | rfl | rfl | rfl | rfl <;> first | exact two | kernel_rfl
    · cases h
  · cases h

def F597 : List AV → Option AV := F195
theorem fmod_em (a b : Int) (h : 0 ≤ b) : Int.fmod a b = a % b := Int.fmod_eq_emod_of_nonneg a h
theorem e597 (args : List AV) (r : AV) (h : F597 args = some r) : fnF C10 20 k597 p597 b597 args = some r := by
  unfold F597 F195 at h
  split at h
  · split at h
    · rename_i y m hm
      cases h
      have two : fnF C10 20 k597 p597 b597 [.int y, .int 2] = some (.int (lastD y 2)) := by
        refine fnF_of (ρ := [(448629993325, .int 2), (1918985593, .int y)]) (by kernel_rfl) ?_
        unfold b597
        refine st_ifT (by kernel_rfl) ?_ (by intro σ' q; cases q)
        refine st_ret ?_
        have h1 : ∀ p q s t u, aeval C10 (.cmp (.bin (.nm 1918985593 p) .Mod (.cst (.int 4) 0 q) s) .Eq (.cst (.int 0) 0 t) u) (cnOf k597) (Sg.rho C10.G k597 { vals := [(448629993325, .int 2), (1918985593, .int y)], own := none }) = some (.bool (decide (Int.fmod y 4 = 0))) := by intro p q s t u; kernel_rfl
        have h2 : ∀ p q s t u, aeval C10 (.cmp (.bin (.nm 1918985593 p) .Mod (.cst (.int 100) 0 q) s) .Gt (.cst (.int 0) 0 t) u) (cnOf k597) (Sg.rho C10.G k597 { vals := [(448629993325, .int 2), (1918985593, .int y)], own := none }) = some (.bool (decide (Int.fmod y 100 > 0))) := by intro p q s t u; kernel_rfl
        have h3 : ∀ p q s t u, aeval C10 (.cmp (.bin (.nm 1918985593 p) .Mod (.cst (.int 400) 0 q) s) .Eq (.cst (.int 0) 0 t) u) (cnOf k597) (Sg.rho C10.G k597 { vals := [(448629993325, .int 2), (1918985593, .int y)], own := none }) = some (.bool (decide (Int.fmod y 400 = 0))) := by intro p q s t u; kernel_rfl
        have e4 := fmod_em y 4 (by omega)
        have e100 := fmod_em y 100 (by omega)
        have e400 := fmod_em y 400 (by omega)
        by_cases c4 : Int.fmod y 4 = 0
        · by_cases c100 : Int.fmod y 100 > 0
          · refine (ev_ifT (ev_and2 (h1 _ _ _ _ _) (by rw [truth, decide_eq_true c4]) (ev_or1 (h2 _ _ _ _ _) (by rw [truth, decide_eq_true c100]))) (by rw [truth, decide_eq_true c100]) (r := .int 29) (by kernel_rfl)).trans ?_
            have : lp y = true := by
              unfold lp
              rw [decide_eq_true c4, decide_eq_false (show ¬ Int.fmod y 100 = 0 by omega)]
              simp
            unfold lastD
            simp [this]
          · by_cases c400 : Int.fmod y 400 = 0
            · refine (ev_ifT (ev_and2 (h1 _ _ _ _ _) (by rw [truth, decide_eq_true c4]) (ev_or2 (h2 _ _ _ _ _) (by rw [truth, decide_eq_false c100]) (h3 _ _ _ _ _))) (by rw [truth, decide_eq_true c400]) (r := .int 29) (by kernel_rfl)).trans ?_
              have : lp y = true := by
                unfold lp
                rw [decide_eq_true c400]
                simp
              unfold lastD
              simp [this]
            · refine (ev_ifF (ev_and2 (h1 _ _ _ _ _) (by rw [truth, decide_eq_true c4]) (ev_or2 (h2 _ _ _ _ _) (by rw [truth, decide_eq_false c100]) (h3 _ _ _ _ _))) (by rw [truth, decide_eq_false c400]) (r := .int 28) (by kernel_rfl)).trans ?_
              have : lp y = false := by
                unfold lp
                rw [decide_eq_false c400, decide_eq_true (show Int.fmod y 100 = 0 by omega)]
                simp
              unfold lastD
              simp [this]
              rfl
        · refine (ev_ifF (ev_and1 (h1 _ _ _ _ _) (by rw [truth, decide_eq_false c4])) (by rw [truth, decide_eq_false c4]) (r := .int 28) (by kernel_rfl)).trans ?_
          have : lp y = false := by
            unfold lp
            rw [decide_eq_false c4, decide_eq_false (show ¬ Int.fmod y 400 = 0 by omega)]
            simp
          unfold lastD
          simp [this]
          rfl
      rcases months12 hm with rfl | rfl | rfl | rfl | rfl | rfl | rfl | rfl | rfl | rfl | rfl | rfl <;> first | exact two | kernel_rfl
    · cases h
  · cases h

theorem jd_range (y m : Int) : 0 ≤ jd y m ∧ jd y m ≤ 6 := by
  unfold jd wd
  rw [fmod_em _ 7 (by omega)]
  omega
theorem lastD_range {y m : Int} (hm : 1 ≤ m ∧ m ≤ 12) : lastD y m = 28 ∨ lastD y m = 29 ∨ lastD y m = 30 ∨ lastD y m = 31 := by
  unfold lastD
  split
  · exact .inr (.inl rfl)
  · rcases months12 hm with rfl | rfl | rfl | rfl | rfl | rfl | rfl | rfl | rfl | rfl | rfl | rfl <;> simp [dM]
theorem days7 {k : Int} (h : 0 ≤ k ∧ k ≤ 6) : k = 0 ∨ k = 1 ∨ k = 2 ∨ k = 3 ∨ k = 4 ∨ k = 5 ∨ k = 6 := by omega

def C12 : Cfg := ⟨G1, tabFn [(59, F59), (195, F195)], tabSm sm1⟩
def F409 : List AV → Option AV
  | [.int y, .int m, .int k] => if (1 ≤ m ∧ m ≤ 12) ∧ (0 ≤ k ∧ k ≤ 6) then some (.tup ((rowI (jd y m) (lastD y m) k).map .int)) else none
  | _ => none
theorem row_ok (j L k : Int) (hj : 0 ≤ j ∧ j ≤ 6) (hL : L = 28 ∨ L = 29 ∨ L = 30 ∨ L = 31) (hk : 0 ≤ k ∧ k ≤ 6) : biAV .tuple [.rng (Int.fmod (Int.fmod (k + 6) 7 - j) 7 + 1) (L + 1) 7] = some (.tup ((rowI j L k).map .int)) := by
  rcases days7 hj with rfl | rfl | rfl | rfl | rfl | rfl | rfl <;> rcases hL with rfl | rfl | rfl | rfl <;> rcases days7 hk with rfl | rfl | rfl | rfl | rfl | rfl | rfl <;> kernel_rfl
theorem e409 (args : List AV) (r : AV) (h : F409 args = some r) : fnF C12 20 k409 p409 b409 args = some r := by
  unfold F409 at h
  split at h
  · split at h
    · rename_i y m k hc
      obtain ⟨hm, hk⟩ := hc
      cases h
      refine fnF_of (ρ := [(129833893436393042354987364, .int k), (448629993325, .int m), (1918985593, .int y)]) (by kernel_rfl) ?_
      unfold b409
      have f59 : F59 [.int y, .int m, .int 1] = some (.int (jd y m)) := if_pos hm
      have f195 : F195 [.int y, .int m] = some (.int (lastD y m)) := if_pos hm
      refine (st_asgv (r := .int (Int.fmod (k + 6) 7)) (σ₂ := { vals := [(129833893436393042354987364, .int k), (448629993325, .int m), (1918985593, .int y), (119, .int (Int.fmod (k + 6) 7))], own := none }) rfl (by kernel_rfl) (by kernel_rfl)).trans ?_
      refine (st_asgv (r := .int (Int.fmod (Int.fmod (k + 6) 7 - jd y m) 7 + 1)) (σ₂ := { vals := [(129833893436393042354987364, .int k), (448629993325, .int m), (1918985593, .int y), (119, .int (Int.fmod (k + 6) 7)), (500153084262, .int (Int.fmod (Int.fmod (k + 6) 7 - jd y m) 7 + 1))], own := none }) rfl
        (ev_bin (a := .int (Int.fmod (Int.fmod (k + 6) 7 - jd y m) 7)) (b := .int 1) (ev_bin (a := .int (Int.fmod (k + 6) 7 - jd y m)) (b := .int 7) (ev_bin (a := .int (Int.fmod (k + 6) 7)) (b := .int (jd y m)) (by kernel_rfl) (ev_call (vs := [.int y, .int m, .int 1]) (a := 59) (F := F59) (by kernel_rfl) (by kernel_rfl) (by kernel_rfl) f59) (by kernel_rfl)) (by kernel_rfl) (by kernel_rfl)) (by kernel_rfl) (by kernel_rfl)) (by kernel_rfl)).trans ?_
      refine st_ret (ev_bi (k := .tuple) (vs := [.rng (Int.fmod (Int.fmod (k + 6) 7 - jd y m) 7 + 1) (lastD y m + 1) 7]) (by kernel_rfl) (evs_cons ?_ evs_nil) (row_ok _ _ _ (jd_range y m) (lastD_range hm) hk))
      refine ev_bi (k := .range) (vs := [.int (Int.fmod (Int.fmod (k + 6) 7 - jd y m) 7 + 1), .int (lastD y m + 1), .int 7]) (by kernel_rfl) (evs_cons (by kernel_rfl) (evs_cons ?_ (evs_cons (by kernel_rfl) evs_nil))) (by kernel_rfl)
      exact ev_bin (a := .int (lastD y m)) (b := .int 1) (ev_call (vs := [.int y, .int m]) (a := 195) (F := F195) (by kernel_rfl) (by kernel_rfl) (by kernel_rfl) f195) (by kernel_rfl) (by kernel_rfl)
    · cases h
  · cases h
end Mine
namespace Mine
def C13 : Cfg := ⟨G1, tabFn [(409, F409)], tabSm sm1⟩
def F590 : List AV → Option AV
  | [.int y, .int m] => if 1 ≤ m ∧ m ≤ 12 then some (.lst (rowsL (jd y m) (lastD y m))) else none
  | _ => none
theorem row_len (j L k : Int) (hj : 0 ≤ j ∧ j ≤ 6) (hL : L = 28 ∨ L = 29 ∨ L = 30 ∨ L = 31) (hk : 0 ≤ k ∧ k ≤ 6) : (rowI j L k).length ≤ 5 := by
  rcases days7 hj with rfl | rfl | rfl | rfl | rfl | rfl | rfl <;> rcases hL with rfl | rfl | rfl | rfl <;> rcases days7 hk with rfl | rfl | rfl | rfl | rfl | rfl | rfl <;> decide +kernel
theorem e590 (args : List AV) (r : AV) (h : F590 args = some r) : fnF C13 20 k590 p590 b590 args = some r := by
  unfold F590 at h
  split at h
  · split at h
    · rename_i y m hm
      cases h
      refine fnF_of (ρ := [(448629993325, .int m), (1918985593, .int y)]) (by kernel_rfl) (st_ret ?_)
      have hx : ∀ x ∈ (rangeInts 0 1 7).map AV.int, ∃ k, x = .int k ∧ 0 ≤ k ∧ k ≤ 6 := by
        intro x hx
        obtain ⟨k, hk, rfl⟩ := List.mem_map.mp hx
        refine ⟨k, rfl, ?_⟩
        have : ∀ k ∈ rangeInts 0 1 7, 0 ≤ k ∧ k ≤ 6 := by decide +kernel
        exact this k hk
      refine (ev_comp1 (it := .rng 0 7 1) (xs := (rangeInts 0 1 7).map AV.int) (g := fun v => match v with | .int k => .lst ((rowI (jd y m) (lastD y m) k).map AV.int) | _ => .none) (by kernel_rfl) (by kernel_rfl) (by kernel_rfl) (fun x hx' => ?_) (by decide +kernel)).trans ?_
      · obtain ⟨k, rfl, hk⟩ := hx x hx'
        have f409 : F409 [.int y, .int m, .int k] = some (.tup ((rowI (jd y m) (lastD y m) k).map AV.int)) := if_pos ⟨hm, hk⟩
        refine ev_bi (k := .list) (vs := [.tup ((rowI (jd y m) (lastD y m) k).map AV.int)]) (by kernel_rfl) (evs_cons ?_ evs_nil) ?_
        · exact ev_sm (c := 501) (a := 409) (F := F409) (vs := [.int y, .int m, .int k]) (by kernel_rfl) (by kernel_rfl) (by kernel_rfl) (by kernel_rfl) (by kernel_rfl) f409
        · have := row_len (jd y m) (lastD y m) k (jd_range y m) (lastD_range hm) hk
          exact if_pos (by rw [List.length_map]; omega)
      · rw [List.map_map]; rfl
    · cases h
  · cases h

theorem wd_jd (y m d : Int) : wd y m d = Int.fmod (jd y m + d - 1) 7 := by
  unfold jd wd
  rw [fmod_em _ 7 (by omega), fmod_em _ 7 (by omega), fmod_em _ 7 (by omega)]
  omega
def F419 : List AV → Option AV
  | [.int y, .int m, .int n] => if 1 ≤ m ∧ m ≤ 12 then some (.int (near (jd y m) (lastD y m) n)) else none
  | _ => none
theorem e419 (args : List AV) (r : AV) (h : F419 args = some r) : fnF C12 20 k419 p419 b419 args = some r := by
  unfold F419 at h
  split at h
  · split at h
    · rename_i y m n hm
      cases h
      generalize hL : lastD y m = L
      generalize hd : (if L < n then L else n) = d
      have f195 : F195 [.int y, .int m] = some (.int L) := by rw [← hL]; exact if_pos hm
      have f59 : F59 [.int y, .int m, .int d] = some (.int (Int.fmod (jd y m + d - 1) 7)) := by rw [← wd_jd]; exact if_pos hm
      unfold near
      rw [hd]
      dsimp only
      generalize hw : Int.fmod (jd y m + d - 1) 7 = W at f59 ⊢
      refine fnF_of (ρ := [(7954788, .int n), (448629993325, .int m), (1918985593, .int y)]) (by kernel_rfl) ?_
      unfold b419
      refine (st_asgv (r := .int L) (σ₂ := { vals := [(7954788, .int n), (448629993325, .int m), (1918985593, .int y), (8746382312468603244, .int L)], own := none }) rfl (ev_call (vs := [.int y, .int m]) (a := 195) (F := F195) (by kernel_rfl) (by kernel_rfl) (by kernel_rfl) f195) (by kernel_rfl)).trans ?_
      refine (st_asgv (r := .int d) (σ₂ := { vals := [(7954788, .int d), (448629993325, .int m), (1918985593, .int y), (8746382312468603244, .int L)], own := none }) rfl (by rw [← hd]; kernel_rfl) (by kernel_rfl)).trans ?_
      refine (st_asgv (r := .int W) (σ₂ := { vals := [(7954788, .int d), (448629993325, .int m), (1918985593, .int y), (8746382312468603244, .int L), (34165556108420471, .int W)], own := none }) rfl (ev_call (vs := [.int y, .int m, .int d]) (a := 59) (F := F59) (by kernel_rfl) (by kernel_rfl) (by kernel_rfl) f59) (by kernel_rfl)).trans ?_
      by_cases c1 : W < 5
      · rw [if_pos c1]
        exact st_ifT (ev_B (v := .bool (decide (W < 5))) (by kernel_rfl) (by rw [truth, decide_eq_true c1])) (st_ret (by kernel_rfl)) (by intro σ' q; cases q)
      · rw [if_neg c1]
        refine (st_if0 (ev_B (v := .bool (decide (W < 5))) (by kernel_rfl) (by rw [truth, decide_eq_false c1]))).trans ?_
        by_cases c2 : W = 5
        · rw [if_pos c2]
          refine st_ifT (ev_B (v := .bool (decide (W = 5))) (by kernel_rfl) (by rw [truth, decide_eq_true c2])) ?_ (by intro σ' q; cases q)
          by_cases c3 : d > 1
          · rw [if_pos c3]
            exact st_ifT (ev_B (v := .bool (decide (d > 1))) (by kernel_rfl) (by rw [truth, decide_eq_true c3])) (st_ret (by kernel_rfl)) (by intro σ' q; cases q)
          · rw [if_neg c3]
            exact st_ifF (ev_B (v := .bool (decide (d > 1))) (by kernel_rfl) (by rw [truth, decide_eq_false c3])) (st_ret (by kernel_rfl)) (by intro σ' q; cases q)
        · rw [if_neg c2]
          refine (st_if0 (ev_B (v := .bool (decide (W = 5))) (by kernel_rfl) (by rw [truth, decide_eq_false c2]))).trans ?_
          by_cases c3 : d < L
          · rw [if_pos c3]
            exact st_ifT (ev_B (v := .bool (decide (d < L))) (by kernel_rfl) (by rw [truth, decide_eq_true c3])) (st_ret (by kernel_rfl)) (by intro σ' q; cases q)
          · rw [if_neg c3]
            exact st_ifF (ev_B (v := .bool (decide (d < L))) (by kernel_rfl) (by rw [truth, decide_eq_false c3])) (st_ret (by kernel_rfl)) (by intro σ' q; cases q)
    · cases h
  · cases h

/-! the law's own count of the nearest -/
def wkL (j L : Int) : List Int := rowI j L 1 ++ rowI j L 2 ++ rowI j L 3 ++ rowI j L 4 ++ rowI j L 5
def absI (i : Int) : Int := if i < 0 then -i else i
def leastL : List Int → Int
  | [] => 0
  | x :: l => least x l
def nearAll (j L n : Int) : List Int :=
  let aim := if L < n then L else n
  (wkL j L).filter fun d => decide (absI (d - aim) = leastL ((wkL j L).map fun d => absI (d - aim)))
theorem near_one (j L : Int) (hj : 0 ≤ j ∧ j ≤ 6) (hL : L = 28 ∨ L = 29 ∨ L = 30 ∨ L = 31) : ∀ n ∈ rangeInts 1 1 31, nearAll j L n = [near j L n] := by
  rcases days7 hj with rfl | rfl | rfl | rfl | rfl | rfl | rfl <;> rcases hL with rfl | rfl | rfl | rfl <;> decide +kernel
theorem intsOf_map : ∀ l : List Int, intsOf (l.map AV.int) = some l
  | [] => rfl
  | x :: l => by
    rw [List.map_cons, intsOf, intsOf_map l]
    rfl
theorem min_ints (l : List Int) (h : l ≠ []) : biAV .min [.lst (l.map AV.int)] = some (.int (leastL l)) := by
  cases l with
  | nil => exact absurd rfl h
  | cons x l =>
    have := intsOf_map (x :: l)
    rw [List.map_cons] at this ⊢
    simp only [biAV, this, leastL]
theorem wk_ok (j L : Int) (hj : 0 ≤ j ∧ j ≤ 6) (hL : L = 28 ∨ L = 29 ∨ L = 30 ∨ L = 31) : wkL j L ≠ [] ∧ (wkL j L).length ≤ 31 := by
  rcases days7 hj with rfl | rfl | rfl | rfl | rfl | rfl | rfl <;> rcases hL with rfl | rfl | rfl | rfl <;> decide +kernel
theorem n602 (j L n : Int) (hj : 0 ≤ j ∧ j ≤ 6) (hL : L = 28 ∨ L = 29 ∨ L = 30 ∨ L = 31) (hn : 1 ≤ n ∧ n ≤ 31) : fnF C10 20 k602 p602 b602 [.lst (rowsL j L), .int L, .int n] = some (.lst [.int (near j L n)]) := by
  have hn' : n ∈ rangeInts 1 1 31 := by
    have : n = 1 + (((n - 1).toNat : Nat) : Int) * 1 := by omega
    have h2 : (rangeInts 1 1 31)[(n - 1).toNat]? = some (1 + (((n - 1).toNat : Nat) : Int) * 1) := rangeInts_get (by omega)
    rw [← this] at h2
    exact List.mem_of_getElem? h2
  have hone := near_one j L hj hL n hn'
  generalize ha : (if L < n then L else n) = aim
  have hone' : (wkL j L).filter (fun d => decide (absI (d - aim) = leastL ((wkL j L).map fun d => absI (d - aim)))) = [near j L n] := by rw [← hone, ← ha]; rfl
  obtain ⟨wne, wlen⟩ := wk_ok j L hj hL
  refine fnF_of (ρ := [(125779768604014, .int n), (1735290732, .int L), (1937207154, .lst (rowsL j L))]) (by kernel_rfl) ?_
  unfold b602
  refine (st_asgv (r := .int aim) (σ₂ := { vals := [(125779768604014, .int n), (1735290732, .int L), (1937207154, .lst (rowsL j L)), (7170401, .int aim)], own := none }) rfl (by rw [← ha]; kernel_rfl) (by kernel_rfl)).trans ?_
  refine (st_asgv (r := .lst ((wkL j L).map AV.int)) (σ₂ := { vals := [(125779768604014, .int n), (1735290732, .int L), (1937207154, .lst (rowsL j L)), (7170401, .int aim), (1802661751, .lst ((wkL j L).map AV.int))], own := none }) rfl ?_ (by kernel_rfl)).trans ?_
  · clear hone hone' hn' ha wne wlen
    rcases days7 hj with rfl | rfl | rfl | rfl | rfl | rfl | rfl <;> rcases hL with rfl | rfl | rfl | rfl <;> kernel_rfl
  generalize hwk : wkL j L = wk at *
  generalize hls : leastL (wk.map fun d => absI (d - aim)) = ls at *
  refine (st_asgv (r := .int ls) (σ₂ := { vals := [(125779768604014, .int n), (1735290732, .int L), (1937207154, .lst (rowsL j L)), (7170401, .int aim), (1802661751, .lst (wk.map AV.int)), (500151969132, .int ls)], own := none }) rfl ?_ (by kernel_rfl)).trans ?_
  · refine ev_bi (k := .min) (vs := [.lst ((wk.map AV.int).map fun v => match v with | .int d => .int (absI (d - aim)) | _ => .none)]) (by kernel_rfl) (evs_cons ?_ evs_nil) ?_
    · refine ev_comp1 (it := .lst (wk.map AV.int)) (by kernel_rfl) (by kernel_rfl) (by kernel_rfl) (fun x hx => ?_) (by rw [List.length_map]; omega)
      obtain ⟨d, hd, rfl⟩ := List.mem_map.mp hx
      kernel_rfl
    · rw [List.map_map]
      have := min_ints (wk.map fun d => absI (d - aim)) (by simpa using wne)
      rw [List.map_map, hls] at this
      exact this
  · refine st_ret ?_
    refine (ev_compT (it := .lst (wk.map AV.int)) (xs := wk.map AV.int) (b := fun v => match v with | .int d => decide (absI (d - aim) = ls) | _ => false) (g := fun v => v) (ρx := fun v => [(7954788, v), (7561825, .bi .abs), (7170401, .int aim), (500151969132, .int ls)]) (by kernel_rfl) (by kernel_rfl) (by kernel_rfl) (fun x hx => by kernel_rfl) (fun x hx => ?_) (fun x hx _ => by kernel_rfl) (by rw [List.length_map]; omega)).trans ?_
    · obtain ⟨d, hd, rfl⟩ := List.mem_map.mp hx
      refine at_one (v := .bool (decide (absI (d - aim) = ls))) (by kernel_rfl) rfl
    · rw [List.map_id', List.filter_map]
      have : wk.filter ((fun v => match v with | .int d => decide (absI (d - aim) = ls) | _ => false) ∘ AV.int) = [near j L n] := hone'
      rw [this]
      rfl
end Mine
namespace Mine
section
variable {S : AV} {k : Int}
def nW (S : AV) (k : Int) (tx : Option Int) (l : Int) (f : List Int) : Sg := match tx with
  | none => { vals := [(2037277037, .int k), (128026154263411, S), (1953718636, .int l)], own := some (431349919590, f.map AV.int) }
  | some x => { vals := [(2037277037, .int k), (128026154263411, S), (1953718636, .int l), (120, .int x)], own := some (431349919590, f.map AV.int) }
def nB1 : ASs := match b585 with
  | .cons _ (.cons _ (.cons (.fors _ _ b _) _)) => b
  | _ => .nil
def nB2 : ASs := match b585 with
  | .cons _ (.cons _ (.cons _ (.cons (.whl _ b _) _))) => b
  | _ => .nil
def nT2 : AE := match b585 with
  | .cons _ (.cons _ (.cons _ (.cons (.whl t _ _) _))) => t
  | _ => .cst .none 0 (P 0 0 0 0)
theorem num_bind (tx : Option Int) (l y : Int) (f : List Int) (p : Pos) : bindF k585 (.one 120 p) (.int y) (nW S k tx l f) = some (nW S k (some y) l f) := by
  cases tx <;> kernel_rfl
theorem num_body1 (l y : Int) (f : List Int) : ∃ l', aexecs C10 20 k585 nB1 (nW S k (some y) l f) = some (.next (nW S k (some y) l' f)) := by
  refine ⟨Int.fmod (l * 31 + y) 2147483647, ?_⟩
  unfold nB1
  refine (st_asg (evalS_scal (r := .int (Int.fmod (l * 31 + y) 2147483647)) (ev_bin (a := .int (l * 31 + y)) (b := .int 2147483647) (ev_bin (a := .int (l * 31)) (b := .int y) (ev_bin (a := .int l) (b := .int 31) (by kernel_rfl) (by kernel_rfl) (mul_small _ _ (by decide))) (by kernel_rfl) (by kernel_rfl)) (by kernel_rfl) (by kernel_rfl)) rfl) (σ₂ := nW S k (some y) (Int.fmod (l * 31 + y) 2147483647) f) (by kernel_rfl)).trans ?_
  kernel_rfl
theorem num_loop1 (p : Pos) : ∀ (ys : List Int) (tx : Option Int) (l : Int) (f : List Int), ∃ tx' l', iterF (bindF k585 (.one 120 p)) (aexecs C10 20 k585 nB1) (ys.map AV.int) (nW S k tx l f) = some (.next (nW S k tx' l' f))
  | [], tx, l, f => ⟨tx, l, rfl⟩
  | y :: ys, tx, l, f => by
    obtain ⟨l₁, h₁⟩ := num_body1 (S := S) (k := k) l y f
    obtain ⟨tx', l', h⟩ := num_loop1 p ys (some y) l₁ f
    exact ⟨tx', l', (it_cons (num_bind tx l y f p) h₁).trans h⟩
theorem num_look (tx : Option Int) (l : Int) (f : List Int) : look (Sg.rho C10.G k585 (nW S k tx l f)) 431349919590 = some (.lst (f.map AV.int)) ∧ look (Sg.rho C10.G k585 (nW S k tx l f)) 2037277037 = some (.int k) ∧ look (Sg.rho C10.G k585 (nW S k tx l f)) 7234924 = some (.bi .len) ∧ look (Sg.rho C10.G k585 (nW S k tx l f)) 1953718636 = some (.int l) := by
  cases tx <;> exact ⟨by kernel_rfl, by kernel_rfl, by kernel_rfl, by kernel_rfl⟩
theorem num_test (tx : Option Int) (l : Int) (f : List Int) (hf : f.length ≤ 100) : evalB C10 k585 nT2 (nW S k tx l f) = some (decide ((f.length : Int) < k)) := by
  obtain ⟨h1, h2, h3, h4⟩ := num_look (S := S) (k := k) tx l f
  unfold nT2
  refine ev_B (v := .bool (decide ((f.length : Int) < k))) (ev_cmp (a := .int f.length) (b := .int k) (ev_bi (k := .len) (vs := [.lst (f.map AV.int)]) h3 (evs_cons (ev_nm h1) evs_nil) ?_) (ev_nm h2) rfl) rfl
  rw [len_lst _ (by rw [List.length_map]; omega), List.length_map]
theorem num_body2 (tx : Option Int) (l : Int) (f : List Int) (hf : f.length ≤ 100) : ∃ l' y, aexecs C10 20 k585 nB2 (nW S k tx l f) = some (.next (nW S k tx l' (f ++ [y]))) := by
  refine ⟨Int.fmod (l * 48271 + 11) 2147483647, Int.fdiv (Int.fmod (l * 48271 + 11) 2147483647) 13, ?_⟩
  obtain ⟨h1, h2, h3, h4⟩ := num_look (S := S) (k := k) tx l f
  unfold nB2
  refine (st_asg (evalS_scal (r := .int (Int.fmod (l * 48271 + 11) 2147483647)) (ev_bin (a := .int (l * 48271 + 11)) (b := .int 2147483647) (ev_bin (a := .int (l * 48271)) (b := .int 11) (ev_bin (a := .int l) (b := .int 48271) (ev_nm h4) (by simp only [aeval]) (mul_small _ _ (by decide))) (by simp only [aeval]) rfl) (by simp only [aeval]) rfl) rfl) (σ₂ := nW S k tx (Int.fmod (l * 48271 + 11) 2147483647) f) (by cases tx <;> kernel_rfl)).trans ?_
  obtain ⟨g1, g2, g3, g4⟩ := num_look (S := S) (k := k) tx (Int.fmod (l * 48271 + 11) 2147483647) f
  refine (st_app (xs := f.map AV.int) (r := .int (Int.fdiv (Int.fmod (l * 48271 + 11) 2147483647) 13)) (by decide) (by cases tx <;> rfl) (ev_bin (ev_nm g4) (b := .int 13) (by simp only [aeval]) (by kernel_rfl)) rfl (by rw [List.length_map]; omega)).trans ?_
  cases tx <;> (simp only [aexecs, nW, List.map_append, List.map_cons, List.map_nil])
theorem num_loop2 : ∀ (n fu : Nat) (tx : Option Int) (l : Int) (f : List Int) (kk : Nat), k = kk → kk ≤ 100 → (f.length + n = kk ∨ (n = 0 ∧ kk ≤ f.length ∧ f.length ≤ 100)) → n < fu → ∃ l' f', iterW (evalB C10 k585 nT2) (aexecs C10 20 k585 nB2) fu (nW S k tx l f) = some (.next (nW S k tx l' (f ++ f'))) ∧ f'.length = n
  | 0, fu + 1, tx, l, f, kk, hk, hb, h, _ => by
    refine ⟨l, [], ?_, rfl⟩
    rw [List.append_nil]
    exact iw_stop ((num_test tx l f (by omega)).trans (by rw [decide_eq_false (by omega)]))
  | n + 1, fu + 1, tx, l, f, kk, hk, hb, h, hfu => by
    obtain ⟨l₁, y, h₁⟩ := num_body2 (S := S) (k := k) tx l f (by omega)
    obtain ⟨l', f', h2, h3⟩ := num_loop2 n fu tx l₁ (f ++ [y]) kk hk hb (by simp; omega) (by omega)
    refine ⟨l', y :: f', ?_, by simp [h3]⟩
    rw [show f ++ y :: f' = (f ++ [y]) ++ f' by simp]
    exact (iw_more ((num_test tx l f (by omega)).trans (by rw [decide_eq_true (by omega)])) h₁).trans h2
  | _, 0, _, _, _, _, _, _, _, h => absurd h (Nat.not_lt_zero _)
end
/-- _law_numbers tells as many ints as asked -/
theorem n585 (xs : List Int) (hx : xs.length ≤ 63) (k : Nat) (hk : k ≤ 16) : ∃ l : List Int, l.length = k ∧ fnF C10 20 k585 p585 b585 [.lst (xs.map AV.int), .int k] = some (.lst (l.map AV.int)) := by
  obtain ⟨tx, l₁, h1⟩ := num_loop1 (S := .lst (xs.map AV.int)) (k := (k : Int)) (P 803 8 803 9) xs none (7 + xs.length) (xs.take k)
  obtain ⟨l₂, f', h2, h3⟩ := num_loop2 (S := .lst (xs.map AV.int)) (k := (k : Int)) (k - (xs.take k).length) 20 tx l₁ (xs.take k) k rfl (by omega) (by rw [List.length_take]; omega) (by omega)
  refine ⟨xs.take k ++ f', by rw [List.length_append, List.length_take, h3, List.length_take]; omega, ?_⟩
  refine fnF_of (ρ := [(2037277037, .int k), (128026154263411, .lst (xs.map AV.int))]) (by kernel_rfl) ?_
  unfold b585
  have hs : aeval C10 (.slc (.nm 128026154263411 (P 801 24 801 30)) .none (.some (.nm 2037277037 (P 801 32 801 36))) (P 801 31 801 36) (P 801 24 801 37)) (cnOf k585) (Sg.rho C10.G k585 { vals := [(2037277037, .int k), (128026154263411, .lst (xs.map AV.int))], own := none }) = some (.lst ((xs.take k).map AV.int)) := by
    rw [List.map_take]
    have := pick_take (xs.map AV.int) k
    rw [← this]
    exact if_pos (by rw [List.length_map]; omega)
  refine (st_own (l := (xs.take k).map AV.int) (by kernel_rfl) ?_ ⟨scals_ints _, by rw [List.length_map, List.length_take]; omega⟩).trans ?_
  · refine (ev_comp1 (it := .lst ((xs.take k).map AV.int)) (xs := (xs.take k).map AV.int) (g := fun v => v) (by kernel_rfl) hs (by kernel_rfl) (fun x hx => by kernel_rfl) (by rw [List.length_map, List.length_take]; omega)).trans ?_
    rw [List.map_id']
  refine (st_asg (evalS_scal (r := .int (7 + xs.length)) (ev_bin (a := .int 7) (b := .int xs.length) (by kernel_rfl) (ev_bi (k := .len) (vs := [.lst (xs.map AV.int)]) (by kernel_rfl) (evs_cons (by kernel_rfl) evs_nil) ?_) (by kernel_rfl)) rfl) (σ₂ := nW (.lst (xs.map AV.int)) k none (7 + xs.length) (xs.take k)) (by kernel_rfl)).trans ?_
  · rw [len_lst _ (by rw [List.length_map]; omega), List.length_map]
  refine (st_for (it := .lst (xs.map AV.int)) (xs := xs.map AV.int) (by kernel_rfl) (by kernel_rfl) (σ₁ := nW (.lst (xs.map AV.int)) k tx l₁ (xs.take k)) h1).trans ?_
  refine (st_whl (σ₁ := nW (.lst (xs.map AV.int)) k tx l₂ (xs.take k ++ f')) h2).trans ?_
  exact st_ret (ev_nm (num_look tx l₂ _).1)
end Mine
namespace Mine
def ASs.ix : ASs → Nat → AS
  | .cons a _, 0 => a
  | .cons _ r, n + 1 => r.ix n
  | .nil, _ => .brk (P 0 0 0 0)
def AE.dft : AE := .cst .none 0 (P 0 0 0 0)
def AS.ex : AS → AE
  | .ife t _ _ _ => t
  | .whl t _ _ => t
  | .ret e _ => e
  | .asg _ _ e _ => e
  | .fors _ e _ _ => e
  | _ => AE.dft
def AS.bd : AS → ASs
  | .ife _ b _ _ => b
  | .whl _ b _ => b
  | .fors _ _ b _ => b
  | _ => .nil
def AE.op1 : AE → AE
  | .bop _ (.cons e _) _ => e
  | .cmp e _ _ _ => e
  | _ => AE.dft

/-! arithmetic of the calendar -/
theorem fdiv_em (a b : Int) (h : 0 ≤ b) : Int.fdiv a b = a / b := Int.fdiv_eq_ediv_of_nonneg a h
theorem lp_iff (y : Int) : lp y = true ↔ (y % 400 = 0 ∨ (y % 4 = 0 ∧ y % 100 ≠ 0)) := by
  unfold lp
  rw [fmod_em y 400 (by omega), fmod_em y 4 (by omega), fmod_em y 100 (by omega)]
  simp
theorem dS_prev (y : Int) : dS (y - 1) = dS y - 1 - (if lp y = true then 1 else 0) := by
  unfold dS
  rw [fdiv_em _ 4 (by omega), fdiv_em _ 100 (by omega), fdiv_em _ 400 (by omega), fdiv_em _ 4 (by omega), fdiv_em _ 100 (by omega), fdiv_em _ 400 (by omega)]
  by_cases h : lp y = true
  · rw [if_pos h]
    have := (lp_iff y).mp h
    omega
  · rw [if_neg h]
    have : ¬ (y % 400 = 0 ∨ (y % 4 = 0 ∧ y % 100 ≠ 0)) := fun q => h ((lp_iff y).mpr q)
    omega
theorem dS_400 (y : Int) : dS (y + 400) = dS y + 497 := by
  unfold dS
  rw [fdiv_em _ 4 (by omega), fdiv_em _ 100 (by omega), fdiv_em _ 400 (by omega), fdiv_em _ 4 (by omega), fdiv_em _ 100 (by omega), fdiv_em _ 400 (by omega)]
  omega
theorem lp_400 (y : Int) : lp (y + 400) = lp y := by
  have : (lp (y + 400) = true) ↔ (lp y = true) := by
    rw [lp_iff, lp_iff]
    omega
  cases h1 : lp (y + 400) <;> cases h2 : lp y <;> simp_all
def jc (a : Int) (b : Bool) (m : Int) : Int := if m < 3 then Int.fmod (a - 1 - (if b = true then 1 else 0) + tT m + 7) 7 else Int.fmod (a + tT m + 7) 7
def Lc (b : Bool) (m : Int) : Int := if m = 2 ∧ b = true then 29 else dM m
theorem jd_jc (y m : Int) : jd y m = jc (Int.fmod (dS y) 7) (lp y) m := by
  unfold jd wd jc
  rw [fmod_em (dS y) 7 (by omega)]
  by_cases h : m < 3
  · rw [if_pos h, decide_eq_true h]
    show Int.fmod (dS (y - 1) + tT m + 1 + 6) 7 = _
    rw [dS_prev, fmod_em _ 7 (by omega), fmod_em _ 7 (by omega)]
    split <;> omega
  · rw [if_neg h, decide_eq_false h]
    show Int.fmod (dS (y - 0) + tT m + 1 + 6) 7 = _
    rw [Int.sub_zero, fmod_em _ 7 (by omega), fmod_em _ 7 (by omega)]
    omega
theorem jd_400 (y m : Int) : jd (y + 400) m = jd y m := by
  rw [jd_jc, jd_jc, lp_400, dS_400]
  congr 1
  rw [fmod_em _ 7 (by omega), fmod_em _ 7 (by omega)]
  omega
theorem last_400 (y m : Int) : lastD (y + 400) m = lastD y m := by
  unfold lastD
  rw [lp_400]

def R1 (y m : Int) : AV := .lst (rowsL (jd y m) (lastD y m))
def MSl (y : Int) : List AV := (rangeInts 1 1 12).map fun m => R1 y m
def MSc (a : Int) (b : Bool) : List AV := (rangeInts 1 1 12).map fun m => .lst (rowsL (jc a b m) (Lc b m))
theorem MS_eq (y : Int) : MSl y = MSc (Int.fmod (dS y) 7) (lp y) := by
  unfold MSl MSc R1
  apply List.map_congr_left
  intro m _
  rw [jd_jc]
  rfl
theorem nth_MS (y m : Int) (hm : 1 ≤ m ∧ m ≤ 12) : nth (MSl y) (m - 1) = some (R1 y m) := by
  rcases months12 hm with rfl | rfl | rfl | rfl | rfl | rfl | rfl | rfl | rfl | rfl | rfl | rfl <;> kernel_rfl

def F585 : List AV → Option AV := fnF C10 20 k585 p585 b585
def F602 : List AV → Option AV := fnF C10 20 k602 p602 b602
def C14 : Cfg := ⟨G1, tabFn [(585, F585), (590, F590), (597, F597), (195, F195), (188, F188), (419, F419), (602, F602)], tabSm sm1⟩

/-! the loop over the months -/
def lB : ASs := (b607.ix 3).bd
def q1 : AE := ((lB.ix 2).ex).op1
def q2 : AE := (lB.ix 3).ex
def Sm (S F Yv Mv mo ro lo : AV) : Sg := { vals := [(128026154263411, S), (431349919590, F), (1918985593, Yv), (126892467187565, Mv), (448629993325, mo), (1937207154, ro), (1735290732, lo)], own := none }
theorem test1 (S F Yv Mv mo : AV) (j L : Int) (hj : 0 ≤ j ∧ j ≤ 6) (hL : L = 28 ∨ L = 29 ∨ L = 30 ∨ L = 31) : aeval C14 q1 (cnOf k607) (Sg.rho C14.G k607 (Sm S F Yv Mv mo (.lst (rowsL j L)) (.int L))) = some (.bool false) := by
  rcases days7 hj with rfl | rfl | rfl | rfl | rfl | rfl | rfl <;> rcases hL with rfl | rfl | rfl | rfl <;> kernel_rfl
theorem test2 (S F Yv Mv mo : AV) (j L : Int) (hj : 0 ≤ j ∧ j ≤ 6) (hL : L = 28 ∨ L = 29 ∨ L = 30 ∨ L = 31) : evalB C14 k607 q2 (Sm S F Yv Mv mo (.lst (rowsL j L)) (.int L)) = some false := by
  rcases days7 hj with rfl | rfl | rfl | rfl | rfl | rfl | rfl <;> rcases hL with rfl | rfl | rfl | rfl <;> kernel_rfl
theorem ne_int (L : Int) : cmpAV .NotEq (.int L) (.int L) = some (.bool false) := by
  have : cmpAV .NotEq (.int L) (.int L) = some (.bool (!decide (L = L))) := by kernel_rfl
  rw [this, decide_eq_true rfl]
  rfl
end Mine
namespace Mine
theorem body1 (S F : AV) (y m : Int) (ro lo : AV) (hm : 1 ≤ m ∧ m ≤ 12) : aexecs C14 20 k607 lB (Sm S F (.int y) (.lst (MSl y)) (.int m) ro lo) = some (.next (Sm S F (.int y) (.lst (MSl y)) (.int m) (R1 y m) (.int (lastD y m)))) := by
  have f597 : F597 [.int y, .int m] = some (.int (lastD y m)) := if_pos hm
  have f195 : F195 [.int y, .int m] = some (.int (lastD y m)) := if_pos hm
  unfold lB
  refine (st_asgv (r := R1 y m) (σ₂ := Sm S F (.int y) (.lst (MSl y)) (.int m) (R1 y m) lo) rfl (ev_sub (a := .lst (MSl y)) (b := .int (m - 1)) (by kernel_rfl) (by kernel_rfl) (nth_MS y m hm)) (by kernel_rfl)).trans ?_
  refine (st_asgv (r := .int (lastD y m)) (σ₂ := Sm S F (.int y) (.lst (MSl y)) (.int m) (R1 y m) (.int (lastD y m))) rfl (ev_call (vs := [.int y, .int m]) (a := 597) (F := F597) (by kernel_rfl) (by kernel_rfl) (by kernel_rfl) f597) (by kernel_rfl)).trans ?_
  refine (st_if0 (ev_B (ev_or2 (v := .bool false) (u := .bool false) (test1 S F (.int y) (.lst (MSl y)) (.int m) (jd y m) (lastD y m) (jd_range y m) (lastD_range hm)) rfl (ev_cmp (a := .int (lastD y m)) (b := .int (lastD y m)) (ev_call (vs := [.int y, .int m]) (a := 195) (F := F195) (by kernel_rfl) (by kernel_rfl) (by kernel_rfl) f195) (by kernel_rfl) (ne_int _))) rfl)).trans ?_
  refine (st_if0 (test2 S F (.int y) (.lst (MSl y)) (.int m) (jd y m) (lastD y m) (jd_range y m) (lastD_range hm))).trans ?_
  rfl
theorem body0 (S F : AV) (y m : Int) (hm : 1 ≤ m ∧ m ≤ 12) : aexecs C14 20 k607 lB { vals := [(128026154263411, S), (431349919590, F), (1918985593, .int y), (126892467187565, .lst (MSl y)), (448629993325, .int m)], own := none } = some (.next (Sm S F (.int y) (.lst (MSl y)) (.int m) (R1 y m) (.int (lastD y m)))) := by
  have f597 : F597 [.int y, .int m] = some (.int (lastD y m)) := if_pos hm
  have f195 : F195 [.int y, .int m] = some (.int (lastD y m)) := if_pos hm
  unfold lB
  refine (st_asgv (r := R1 y m) (σ₂ := { vals := [(128026154263411, S), (431349919590, F), (1918985593, .int y), (126892467187565, .lst (MSl y)), (448629993325, .int m), (1937207154, R1 y m)], own := none }) rfl (ev_sub (a := .lst (MSl y)) (b := .int (m - 1)) (by kernel_rfl) (by kernel_rfl) (nth_MS y m hm)) (by kernel_rfl)).trans ?_
  refine (st_asgv (r := .int (lastD y m)) (σ₂ := Sm S F (.int y) (.lst (MSl y)) (.int m) (R1 y m) (.int (lastD y m))) rfl (ev_call (vs := [.int y, .int m]) (a := 597) (F := F597) (by kernel_rfl) (by kernel_rfl) (by kernel_rfl) f597) (by kernel_rfl)).trans ?_
  refine (st_if0 (ev_B (ev_or2 (v := .bool false) (u := .bool false) (test1 S F (.int y) (.lst (MSl y)) (.int m) (jd y m) (lastD y m) (jd_range y m) (lastD_range hm)) rfl (ev_cmp (a := .int (lastD y m)) (b := .int (lastD y m)) (ev_call (vs := [.int y, .int m]) (a := 195) (F := F195) (by kernel_rfl) (by kernel_rfl) (by kernel_rfl) f195) (by kernel_rfl) (ne_int _))) rfl)).trans ?_
  refine (st_if0 (test2 S F (.int y) (.lst (MSl y)) (.int m) (jd y m) (lastD y m) (jd_range y m) (lastD_range hm))).trans ?_
  rfl
theorem loopM (S F : AV) (y : Int) (p : Pos) : ∀ (ms : List Int), (∀ m ∈ ms, 1 ≤ m ∧ m ≤ 12) → ∀ (mo ro lo : AV), ∃ mo' ro' lo', iterF (bindF k607 (.one 448629993325 p)) (aexecs C14 20 k607 lB) (ms.map AV.int) (Sm S F (.int y) (.lst (MSl y)) mo ro lo) = some (.next (Sm S F (.int y) (.lst (MSl y)) mo' ro' lo'))
  | [], _, mo, ro, lo => ⟨mo, ro, lo, rfl⟩
  | m :: ms, h, mo, ro, lo => by
    obtain ⟨mo', ro', lo', g⟩ := loopM S F y p ms (fun k hk => h k (List.mem_cons_of_mem _ hk)) (.int m) (R1 y m) (.int (lastD y m))
    exact ⟨mo', ro', lo', (it_cons (σ₁ := Sm S F (.int y) (.lst (MSl y)) (.int m) ro lo) (by kernel_rfl) (body1 S F y m ro lo (h m List.mem_cons_self))).trans g⟩

/-! the year's tests -/
def tV (b : Bool) : AV := .lst [.tup [.int 4, .int 4], .tup [.int 6, .int 6], .tup [.int 8, .int 8], .tup [.int 10, .int 10], .tup [.int 12, .int 12], .tup [.int 5, .int 9], .tup [.int 9, .int 5], .tup [.int 7, .int 11], .tup [.int 11, .int 7], .tup [.int 3, .int 14], .tup [.int 2, .int (Lc b 2)]]
def Sy (S F Yv Mv mo ro lo tv dv fv : AV) : Sg := { vals := [(128026154263411, S), (431349919590, F), (1918985593, Yv), (126892467187565, Mv), (448629993325, mo), (1937207154, ro), (1735290732, lo), (1684828020, tv), (112628529193316, dv), (32503081525146214, fv)], own := none }
def dV (a : Int) (b : Bool) : AV := (aeval C14 ((b607.ix 6).ex) (cnOf k607) (Sg.rho C14.G k607 (Sm .none .none .none (.lst (MSc a b)) .none .none .none))).getD .none
def fV (a : Int) (b : Bool) : AV := (aeval C14 ((b607.ix 8).ex) (cnOf k607) (Sg.rho C14.G k607 (Sm .none .none .none (.lst (MSc a b)) .none .none .none))).getD .none
theorem year6 (S F Yv mo ro lo tv : AV) (a : Int) (b : Bool) (ha : 0 ≤ a ∧ a ≤ 6) : aeval C14 ((b607.ix 6).ex) (cnOf k607) (Sg.rho C14.G k607 { vals := [(128026154263411, S), (431349919590, F), (1918985593, Yv), (126892467187565, .lst (MSc a b)), (448629993325, mo), (1937207154, ro), (1735290732, lo), (1684828020, tv)], own := none }) = some (dV a b) := by
  rcases days7 ha with rfl | rfl | rfl | rfl | rfl | rfl | rfl <;> cases b <;> kernel_rfl
theorem year7 (S F Yv mo ro lo : AV) (a : Int) (b : Bool) (ha : 0 ≤ a ∧ a ≤ 6) : evalB C14 k607 ((b607.ix 7).ex) { vals := [(128026154263411, S), (431349919590, F), (1918985593, Yv), (126892467187565, .lst (MSc a b)), (448629993325, mo), (1937207154, ro), (1735290732, lo), (1684828020, tV b), (112628529193316, dV a b)], own := none } = some false := by
  rcases days7 ha with rfl | rfl | rfl | rfl | rfl | rfl | rfl <;> cases b <;> kernel_rfl
theorem year8 (S F Yv mo ro lo tv dv : AV) (a : Int) (b : Bool) (ha : 0 ≤ a ∧ a ≤ 6) : aeval C14 ((b607.ix 8).ex) (cnOf k607) (Sg.rho C14.G k607 { vals := [(128026154263411, S), (431349919590, F), (1918985593, Yv), (126892467187565, .lst (MSc a b)), (448629993325, mo), (1937207154, ro), (1735290732, lo), (1684828020, tv), (112628529193316, dv)], own := none }) = some (fV a b) := by
  rcases days7 ha with rfl | rfl | rfl | rfl | rfl | rfl | rfl <;> cases b <;> kernel_rfl
theorem year9 (S F Yv Mv mo ro lo tv dv : AV) (a : Int) (b : Bool) (ha : 0 ≤ a ∧ a ≤ 6) : evalB C14 k607 ((b607.ix 9).ex) (Sy S F Yv Mv mo ro lo tv dv (fV a b)) = some false := by
  rcases days7 ha with rfl | rfl | rfl | rfl | rfl | rfl | rfl <;> cases b <;> kernel_rfl
theorem ne_rows (j L : Int) (hj : 0 ≤ j ∧ j ≤ 6) (hL : L = 28 ∨ L = 29 ∨ L = 30 ∨ L = 31) : cmpAV .NotEq (.lst (rowsL j L)) (.lst (rowsL j L)) = some (.bool false) := by
  rcases days7 hj with rfl | rfl | rfl | rfl | rfl | rfl | rfl <;> rcases hL with rfl | rfl | rfl | rfl <;> kernel_rfl
theorem eq_one (v : Int) : cmpAV .Eq (.lst [.int v]) (.lst [.int v]) = some (.bool true) := by
  have : cmpAV .Eq (.lst [.int v]) (.lst [.int v]) = some (.bool (decide (v = v) && true)) := by kernel_rfl
  rw [this, decide_eq_true rfl]
  rfl

theorem law1 (xs : List Int) (hx : xs.length ≤ 63) : fnF C14 20 k607 p607 b607 [.lst (xs.map AV.int)] = some (.bool true) := by
  obtain ⟨l, hl, h585⟩ := n585 xs hx 3 (by omega)
  obtain ⟨f0, f1, f2, rfl⟩ : ∃ f0 f1 f2, l = [f0, f1, f2] := by
    match l, hl with
    | [a, b, c], _ => exact ⟨a, b, c, rfl⟩
  generalize hS : AV.lst (xs.map AV.int) = S at h585
  refine fnF_of (ρ := [(128026154263411, S)]) (by kernel_rfl) ?_
  unfold b607
  refine (st_asgv (r := .lst [.int f0, .int f1, .int f2]) (σ₂ := { vals := [(128026154263411, S), (431349919590, .lst [.int f0, .int f1, .int f2])], own := none }) rfl (ev_call (vs := [S, .int 3]) (a := 585) (F := F585) (by kernel_rfl) (by kernel_rfl) (by kernel_rfl) h585) (by kernel_rfl)).trans ?_
  generalize hF : AV.lst [.int f0, .int f1, .int f2] = F
  generalize hy : 1600 + Int.fmod f0 800 = y
  refine (st_asgv (r := .int y) (σ₂ := { vals := [(128026154263411, S), (431349919590, F), (1918985593, .int y)], own := none }) rfl (by rw [← hy, ← hF]; kernel_rfl) (by kernel_rfl)).trans ?_
  refine (st_asgv (r := .lst (MSl y)) (σ₂ := { vals := [(128026154263411, S), (431349919590, F), (1918985593, .int y), (126892467187565, .lst (MSl y))], own := none }) rfl ?_ (by kernel_rfl)).trans ?_
  · refine (ev_comp1 (it := .rng 1 13 1) (xs := (rangeInts 1 1 12).map AV.int) (g := fun v => match v with | .int m => R1 y m | _ => .none) (by kernel_rfl) (by kernel_rfl) (by kernel_rfl) (fun x hx => ?_) (by decide +kernel)).trans ?_
    · obtain ⟨m, hm, rfl⟩ := List.mem_map.mp hx
      have hm' : 1 ≤ m ∧ m ≤ 12 := (show ∀ k ∈ rangeInts 1 1 12, 1 ≤ k ∧ k ≤ 12 by decide +kernel) m hm
      exact ev_call (vs := [.int y, .int m]) (a := 590) (F := F590) (by kernel_rfl) (by kernel_rfl) (by kernel_rfl) (if_pos hm')
    · rw [List.map_map]; rfl
  obtain ⟨mo, ro, lo, hloop⟩ := loopM S F y (P 824 8 824 13) (rangeInts 2 1 11) (by decide +kernel) (.int 1) (R1 y 1) (.int (lastD y 1))
  refine (st_for (it := .rng 1 13 1) (xs := (rangeInts 1 1 12).map AV.int) (σ₁ := Sm S F (.int y) (.lst (MSl y)) mo ro lo) (by kernel_rfl) (by kernel_rfl) ?_).trans ?_
  · refine (it_cons (x := .int 1) (xs := (rangeInts 2 1 11).map AV.int) (σ₁ := { vals := [(128026154263411, S), (431349919590, F), (1918985593, .int y), (126892467187565, .lst (MSl y)), (448629993325, .int 1)], own := none }) (by kernel_rfl) (body0 S F y 1 (by omega))).trans hloop
  have hle : aeval C14 ((b607.ix 4).ex) (cnOf k607) (Sg.rho C14.G k607 (Sm S F (.int y) (.lst (MSl y)) mo ro lo)) = some (.bool false) := by
    refine ev_cmp (a := .bool (lp y)) (b := .bool (decide (lastD y 2 = 29))) (ev_call (vs := [.int y]) (a := 188) (F := F188) (by kernel_rfl) (by kernel_rfl) (by kernel_rfl) (by kernel_rfl)) (ev_cmp (a := .int (lastD y 2)) (b := .int 29) (ev_call (vs := [.int y, .int 2]) (a := 597) (F := F597) (by kernel_rfl) (by kernel_rfl) (by kernel_rfl) (by kernel_rfl)) (by kernel_rfl) (by kernel_rfl)) ?_
    have : decide (lastD y 2 = 29) = lp y := by
      unfold lastD
      cases lp y <;> decide
    rw [this]
    cases lp y <;> rfl
  refine (st_if0 (ev_B hle rfl)).trans ?_
  have ha : 0 ≤ Int.fmod (dS y) 7 ∧ Int.fmod (dS y) 7 ≤ 6 := by rw [fmod_em _ 7 (by omega)]; omega
  have hms := MS_eq y
  refine (st_asgv (r := tV (lp y)) (σ₂ := { vals := [(128026154263411, S), (431349919590, F), (1918985593, .int y), (126892467187565, .lst (MSl y)), (448629993325, mo), (1937207154, ro), (1735290732, lo), (1684828020, tV (lp y))], own := none }) rfl (by kernel_rfl) (by kernel_rfl)).trans ?_
  refine (st_asgv (r := dV (Int.fmod (dS y) 7) (lp y)) (σ₂ := { vals := [(128026154263411, S), (431349919590, F), (1918985593, .int y), (126892467187565, .lst (MSl y)), (448629993325, mo), (1937207154, ro), (1735290732, lo), (1684828020, tV (lp y)), (112628529193316, dV (Int.fmod (dS y) 7) (lp y))], own := none }) rfl (by rw [hms]; exact year6 S F (.int y) mo ro lo (tV (lp y)) _ _ ha) (by kernel_rfl)).trans ?_
  refine (st_if0 (by rw [hms]; exact year7 S F (.int y) mo ro lo _ _ ha)).trans ?_
  refine (st_asgv (r := fV (Int.fmod (dS y) 7) (lp y)) (σ₂ := Sy S F (.int y) (.lst (MSl y)) mo ro lo (tV (lp y)) (dV (Int.fmod (dS y) 7) (lp y)) (fV (Int.fmod (dS y) 7) (lp y))) rfl (by rw [hms]; exact year8 S F (.int y) mo ro lo (tV (lp y)) _ _ _ ha) (by kernel_rfl)).trans ?_
  refine (st_if0 (year9 S F (.int y) (.lst (MSl y)) mo ro lo (tV (lp y)) (dV (Int.fmod (dS y) 7) (lp y)) _ _ ha)).trans ?_
  generalize tV (lp y) = tv
  generalize dV (Int.fmod (dS y) 7) (lp y) = dv
  generalize fV (Int.fmod (dS y) 7) (lp y) = fv
  generalize hm : 1 + Int.fmod f1 12 = m
  generalize hn : 1 + Int.fmod f2 31 = n
  have hm' : 1 ≤ m ∧ m ≤ 12 := by rw [fmod_em _ 12 (by omega)] at hm; omega
  have hn' : 1 ≤ n ∧ n ≤ 31 := by rw [fmod_em _ 31 (by omega)] at hn; omega
  refine (st_asgv (r := .int m) (σ₂ := Sy S F (.int y) (.lst (MSl y)) (.int m) ro lo tv dv fv) rfl (by rw [← hm, ← hF]; kernel_rfl) (by kernel_rfl)).trans ?_
  refine (st_asgv (r := .int n) (σ₂ := { vals := [(128026154263411, S), (431349919590, F), (1918985593, .int y), (126892467187565, .lst (MSl y)), (448629993325, .int m), (1937207154, ro), (1735290732, lo), (1684828020, tv), (112628529193316, dv), (32503081525146214, fv), (125779768604014, .int n)], own := none }) rfl (by rw [← hn, ← hF]; kernel_rfl) (by kernel_rfl)).trans ?_
  have f590 : F590 [.int (y + 400), .int m] = some (R1 y m) := by
    refine (if_pos hm').trans ?_
    rw [jd_400, last_400]
    rfl
  refine (st_if0 (ev_B (v := .bool false) (ev_cmp (a := R1 y m) (b := R1 y m) (ev_call (vs := [.int (y + 400), .int m]) (a := 590) (F := F590) (by kernel_rfl) (by kernel_rfl) (by kernel_rfl) f590) (ev_sub (a := .lst (MSl y)) (b := .int (m - 1)) (by kernel_rfl) (by kernel_rfl) (nth_MS y m hm')) (ne_rows _ _ (jd_range y m) (lastD_range hm'))) rfl)).trans ?_
  refine st_ret (ev_cmp (a := .lst [.int (near (jd y m) (lastD y m) n)]) (b := .lst [.int (near (jd y m) (lastD y m) n)]) (ev_lst (vs := [.int (near (jd y m) (lastD y m) n)]) (evs_cons ?_ evs_nil) (by simp)) ?_ (eq_one _))
  · exact ev_sm (c := 501) (a := 419) (F := F419) (vs := [.int y, .int m, .int n]) (by kernel_rfl) (by kernel_rfl) (by kernel_rfl) (by kernel_rfl) (by kernel_rfl) (if_pos hm')
  · exact ev_call (vs := [R1 y m, .int (lastD y m), .int n]) (a := 602) (F := F602) (by kernel_rfl) (evs_cons (ev_sub (a := .lst (MSl y)) (b := .int (m - 1)) (by kernel_rfl) (by kernel_rfl) (nth_MS y m hm')) (evs_cons (ev_call (vs := [.int y, .int m]) (a := 597) (F := F597) (by kernel_rfl) (by kernel_rfl) (by kernel_rfl) (if_pos hm')) (evs_cons (by kernel_rfl) evs_nil))) (by kernel_rfl) (n602 _ _ _ (jd_range y m) (lastD_range hm') hn')
end Mine
namespace Mine
section
variable {p : Params} {h : Heap}
theorem at59 (X : (hd01.heap_39 p).In h) : ∃ o, FnAt h 59 k59 p59 b59 o (FD (hd01.heap_39 p) 59) :=
  fnAt_of X (by kernel_rfl) (by kernel_rfl) (by kernel_rfl) (by kernel_rfl) (by kernel_rfl) (by kernel_rfl) (by kernel_rfl) (by kernel_rfl) (by kernel_rfl) (by kernel_rfl) (fun vs hl => match vs, hl with | [v0, v1, v2], _ => by kernel_rfl) (by kernel_rfl) (by kernel_rfl) (by kernel_rfl)
theorem at188 (X : (hd01.heap_39 p).In h) : ∃ o, FnAt h 188 k188 p188 b188 o (FD (hd01.heap_39 p) 188) :=
  fnAt_of X (by kernel_rfl) (by kernel_rfl) (by kernel_rfl) (by kernel_rfl) (by kernel_rfl) (by kernel_rfl) (by kernel_rfl) (by kernel_rfl) (by kernel_rfl) (by kernel_rfl) (fun vs hl => match vs, hl with | [v0], _ => by kernel_rfl) (by kernel_rfl) (by kernel_rfl) (by kernel_rfl)
theorem at195 (X : (hd01.heap_39 p).In h) : ∃ o, FnAt h 195 k195 p195 b195 o (FD (hd01.heap_39 p) 195) :=
  fnAt_of X (by kernel_rfl) (by kernel_rfl) (by kernel_rfl) (by kernel_rfl) (by kernel_rfl) (by kernel_rfl) (by kernel_rfl) (by kernel_rfl) (by kernel_rfl) (by kernel_rfl) (fun vs hl => match vs, hl with | [v0, v1], _ => by kernel_rfl) (by kernel_rfl) (by kernel_rfl) (by kernel_rfl)
theorem at409 (X : (hd01.heap_39 p).In h) : ∃ o, FnAt h 409 k409 p409 b409 o (FD (hd01.heap_39 p) 409) :=
  fnAt_of X (by kernel_rfl) (by kernel_rfl) (by kernel_rfl) (by kernel_rfl) (by kernel_rfl) (by kernel_rfl) (by kernel_rfl) (by kernel_rfl) (by kernel_rfl) (by kernel_rfl) (fun vs hl => match vs, hl with | [v0, v1, v2], _ => by kernel_rfl) (by kernel_rfl) (by kernel_rfl) (by kernel_rfl)
theorem at419 (X : (hd01.heap_39 p).In h) : ∃ o, FnAt h 419 k419 p419 b419 o (FD (hd01.heap_39 p) 419) :=
  fnAt_of X (by kernel_rfl) (by kernel_rfl) (by kernel_rfl) (by kernel_rfl) (by kernel_rfl) (by kernel_rfl) (by kernel_rfl) (by kernel_rfl) (by kernel_rfl) (by kernel_rfl) (fun vs hl => match vs, hl with | [v0, v1, v2], _ => by kernel_rfl) (by kernel_rfl) (by kernel_rfl) (by kernel_rfl)
theorem at585 (X : (hd01.heap_39 p).In h) : ∃ o, FnAt h 585 k585 p585 b585 o (FD (hd01.heap_39 p) 585) :=
  fnAt_of X (by kernel_rfl) (by kernel_rfl) (by kernel_rfl) (by kernel_rfl) (by kernel_rfl) (by kernel_rfl) (by kernel_rfl) (by kernel_rfl) (by kernel_rfl) (by kernel_rfl) (fun vs hl => match vs, hl with | [v0, v1], _ => by kernel_rfl) (by kernel_rfl) (by kernel_rfl) (by kernel_rfl)
theorem at590 (X : (hd01.heap_39 p).In h) : ∃ o, FnAt h 590 k590 p590 b590 o (FD (hd01.heap_39 p) 590) :=
  fnAt_of X (by kernel_rfl) (by kernel_rfl) (by kernel_rfl) (by kernel_rfl) (by kernel_rfl) (by kernel_rfl) (by kernel_rfl) (by kernel_rfl) (by kernel_rfl) (by kernel_rfl) (fun vs hl => match vs, hl with | [v0, v1], _ => by kernel_rfl) (by kernel_rfl) (by kernel_rfl) (by kernel_rfl)
theorem at597 (X : (hd01.heap_39 p).In h) : ∃ o, FnAt h 597 k597 p597 b597 o (FD (hd01.heap_39 p) 597) :=
  fnAt_of X (by kernel_rfl) (by kernel_rfl) (by kernel_rfl) (by kernel_rfl) (by kernel_rfl) (by kernel_rfl) (by kernel_rfl) (by kernel_rfl) (by kernel_rfl) (by kernel_rfl) (fun vs hl => match vs, hl with | [v0, v1], _ => by kernel_rfl) (by kernel_rfl) (by kernel_rfl) (by kernel_rfl)
theorem at602 (X : (hd01.heap_39 p).In h) : ∃ o, FnAt h 602 k602 p602 b602 o (FD (hd01.heap_39 p) 602) :=
  fnAt_of X (by kernel_rfl) (by kernel_rfl) (by kernel_rfl) (by kernel_rfl) (by kernel_rfl) (by kernel_rfl) (by kernel_rfl) (by kernel_rfl) (by kernel_rfl) (by kernel_rfl) (fun vs hl => match vs, hl with | [v0, v1, v2], _ => by kernel_rfl) (by kernel_rfl) (by kernel_rfl) (by kernel_rfl)
theorem at607 (X : (hd01.heap_39 p).In h) : ∃ o, FnAt h 607 k607 p607 b607 o (FD (hd01.heap_39 p) 607) :=
  fnAt_of X (by kernel_rfl) (by kernel_rfl) (by kernel_rfl) (by kernel_rfl) (by kernel_rfl) (by kernel_rfl) (by kernel_rfl) (by kernel_rfl) (by kernel_rfl) (by kernel_rfl) (fun vs hl => match vs, hl with | [v0], _ => by kernel_rfl) (by kernel_rfl) (by kernel_rfl) (by kernel_rfl)
end
end Mine
namespace Mine
section
variable {prog : Program} {w : World} {p : Params} {h : Heap} {mg mb : Str → Option Value}
theorem glob1 (X : (hd01.heap_39 p).In h) (hn : h.Ns mainGlobals mg) (hb : h.Ns builtinsNs mb) (hB : ∀ x : Str, x ≠ "__name__" → mb x = bootBuiltins x) : GlobOk prog w h G1 :=
  glob_of (List.forall_mem_cons.mpr ⟨gf_glob hn (v := .ref 59) (by decide) (mg_of X hn (r := some (.ref 59)) (by kernel_rfl)) (.fn 59),
    List.forall_mem_cons.mpr ⟨gf_glob hn (v := .ref 195) (by decide) (mg_of X hn (r := some (.ref 195)) (by kernel_rfl)) (.fn 195),
    List.forall_mem_cons.mpr ⟨gf_glob hn (v := .ref 188) (by decide) (mg_of X hn (r := some (.ref 188)) (by kernel_rfl)) (.fn 188),
    List.forall_mem_cons.mpr ⟨gf_glob hn (v := .ref 148) (by decide) (mg_of X hn (r := some (.ref 148)) (by kernel_rfl)) (tup_of X (vs := [.int 31 615, .int 28 616, .int 31 617, .int 30 618, .int 31 619, .int 30 620, .int 31 621, .int 31 622, .int 30 623, .int 31 624, .int 30 625, .int 31 626]) (by kernel_rfl) (.cons (.int _ _) (.cons (.int _ _) (.cons (.int _ _) (.cons (.int _ _) (.cons (.int _ _) (.cons (.int _ _) (.cons (.int _ _) (.cons (.int _ _) (.cons (.int _ _) (.cons (.int _ _) (.cons (.int _ _) (.cons (.int _ _) .nil))))))))))))),
    List.forall_mem_cons.mpr ⟨gf_glob hn (v := .ref 590) (by decide) (mg_of X hn (r := some (.ref 590)) (by kernel_rfl)) (.fn 590),
    List.forall_mem_cons.mpr ⟨gf_glob hn (v := .ref 597) (by decide) (mg_of X hn (r := some (.ref 597)) (by kernel_rfl)) (.fn 597),
    List.forall_mem_cons.mpr ⟨gf_glob hn (v := .ref 602) (by decide) (mg_of X hn (r := some (.ref 602)) (by kernel_rfl)) (.fn 602),
    List.forall_mem_cons.mpr ⟨gf_glob hn (v := .ref 585) (by decide) (mg_of X hn (r := some (.ref 585)) (by kernel_rfl)) (.fn 585),
    List.forall_mem_cons.mpr ⟨gf_glob hn (v := .ref 501) (by decide) (mg_of X hn (r := some (.ref 501)) (by kernel_rfl)) (.cls 501),
    List.forall_mem_cons.mpr ⟨gf_blt hn hb hB (k := .range) (by decide) (by decide +kernel) (mg_of X hn (r := none) (by kernel_rfl)) (by kernel_rfl),
    List.forall_mem_cons.mpr ⟨gf_blt hn hb hB (k := .list) (by decide) (by decide +kernel) (mg_of X hn (r := none) (by kernel_rfl)) (by kernel_rfl),
    List.forall_mem_cons.mpr ⟨gf_blt hn hb hB (k := .tuple) (by decide) (by decide +kernel) (mg_of X hn (r := none) (by kernel_rfl)) (by kernel_rfl),
    List.forall_mem_cons.mpr ⟨gf_blt hn hb hB (k := .min) (by decide) (by decide +kernel) (mg_of X hn (r := none) (by kernel_rfl)) (by kernel_rfl),
    List.forall_mem_cons.mpr ⟨gf_blt hn hb hB (k := .sorted) (by decide) (by decide +kernel) (mg_of X hn (r := none) (by kernel_rfl)) (by kernel_rfl),
    List.forall_mem_cons.mpr ⟨gf_blt hn hb hB (k := .len) (by decide) (by decide +kernel) (mg_of X hn (r := none) (by kernel_rfl)) (by kernel_rfl),
    List.forall_mem_cons.mpr ⟨gf_blt hn hb hB (k := .abs) (by decide) (by decide +kernel) (mg_of X hn (r := none) (by kernel_rfl)) (by kernel_rfl),
    List.forall_mem_nil _⟩⟩⟩⟩⟩⟩⟩⟩⟩⟩⟩⟩⟩⟩⟩⟩)
theorem sms1 (X : (hd01.heap_39 p).In h) : ∀ x ∈ sm1, SmFact prog w h x.1 x.2.1 x.2.2 :=
  List.forall_mem_cons.mpr ⟨fun A t s Q E k q => sm_of X (c := 501) (p := 411) (f := .ref 409) (mc := .type "type") (rest := [.bool false]) (by kernel_rfl) (by kernel_rfl) (by kernel_rfl) (by kernel_rfl) (by kernel_rfl) A t s Q E k q,
    List.forall_mem_cons.mpr ⟨fun A t s Q E k q => sm_of X (c := 501) (p := 421) (f := .ref 419) (mc := .type "type") (rest := [.bool false]) (by kernel_rfl) (by kernel_rfl) (by kernel_rfl) (by kernel_rfl) (by kernel_rfl) A t s Q E k q, List.forall_mem_nil _⟩⟩
theorem fnAt_fd {a : Addr} {ks : Ks} {ps : List Nat} {b : ASs} {fd : FuncData} (T : ∃ o, FnAt h a ks ps b o fd) : ∃ o fd, h.get? a = some o ∧ o.data = .func fd := let ⟨o, T⟩ := T; ⟨o, fd, T.obj, T.data⟩
theorem fn_at {C : Cfg} {d : Nat} (B : Base prog w h C d) (hl : h.NoLimit) {a : Addr} {ks : Ks} {ps : List Nat} {b : ASs} {fd : FuncData} (T : ∃ o, FnAt h a ks ps b o fd) (fu : Nat) : FnOK prog w h (d + 1) a (fnF C fu ks ps b) := let ⟨_, T⟩ := T; fn_ok B hl T fu
theorem law_ok1 (X : (hd01.heap_39 p).In h) (hn : h.Ns mainGlobals mg) (hb : h.Ns builtinsNs mb) (hB : ∀ x : Str, x ≠ "__name__" → mb x = bootBuiltins x) (hl : h.NoLimit) : FnOK prog w h 5 607 (fnF C14 20 k607 p607 b607) := by
  have hG := glob1 (prog := prog) (w := w) X hn hb hB
  have hS := sms1 (prog := prog) (w := w) X
  have B10 : Base prog w h C10 0 := base_of hG (List.forall_mem_nil _) hS
  have f59 : FnOK prog w h 1 59 F59 := (fn_at B10 hl (at59 X) 20).sub e59
  have f188 : FnOK prog w h 1 188 F188 := (fn_at B10 hl (at188 X) 20).sub e188
  have f597 : FnOK prog w h 1 597 F597 := (fn_at B10 hl (at597 X) 20).sub e597
  have f585 : FnOK prog w h 1 585 F585 := fn_at B10 hl (at585 X) 20
  have f602 : FnOK prog w h 1 602 F602 := fn_at B10 hl (at602 X) 20
  have B11 : Base prog w h C11 1 := base_of hG (List.forall_mem_cons.mpr ⟨⟨f59, fnAt_fd (at59 X)⟩, List.forall_mem_cons.mpr ⟨⟨f188, fnAt_fd (at188 X)⟩, List.forall_mem_nil _⟩⟩) hS
  have f195 : FnOK prog w h 2 195 F195 := (fn_at B11 hl (at195 X) 20).sub e195
  have B12 : Base prog w h C12 2 := base_of hG (List.forall_mem_cons.mpr ⟨⟨f59.up (by omega), fnAt_fd (at59 X)⟩, List.forall_mem_cons.mpr ⟨⟨f195, fnAt_fd (at195 X)⟩, List.forall_mem_nil _⟩⟩) hS
  have f409 : FnOK prog w h 3 409 F409 := (fn_at B12 hl (at409 X) 20).sub e409
  have f419 : FnOK prog w h 3 419 F419 := (fn_at B12 hl (at419 X) 20).sub e419
  have B13 : Base prog w h C13 3 := base_of hG (List.forall_mem_cons.mpr ⟨⟨f409, fnAt_fd (at409 X)⟩, List.forall_mem_nil _⟩) hS
  have f590 : FnOK prog w h 4 590 F590 := (fn_at B13 hl (at590 X) 20).sub e590
  have B14 : Base prog w h C14 4 := base_of hG (List.forall_mem_cons.mpr ⟨⟨f585.up (by omega), fnAt_fd (at585 X)⟩, List.forall_mem_cons.mpr ⟨⟨f590, fnAt_fd (at590 X)⟩, List.forall_mem_cons.mpr ⟨⟨f597.up (by omega), fnAt_fd (at597 X)⟩,
    List.forall_mem_cons.mpr ⟨⟨f195.up (by omega), fnAt_fd (at195 X)⟩, List.forall_mem_cons.mpr ⟨⟨f188.up (by omega), fnAt_fd (at188 X)⟩, List.forall_mem_cons.mpr ⟨⟨f419.up (by omega), fnAt_fd (at419 X)⟩, List.forall_mem_cons.mpr ⟨⟨f602.up (by omega), fnAt_fd (at602 X)⟩, List.forall_mem_nil _⟩⟩⟩⟩⟩⟩⟩) hS
  exact fn_at B14 hl (at607 X) 20
end
theorem room_caller : Room callerA 5 := ⟨rfl, by decide +kernel, by decide +kernel⟩
theorem end1 {prog : Program} {w : World} {p : Params} {s : Shared} {mg mb : Str → Option Value} (X : (hd01.heap_39 p).In s.heap) (hn : s.heap.Ns mainGlobals mg) (hb : s.heap.Ns builtinsNs mb) (hB : ∀ x : Str, x ≠ "__name__" → mb x = bootBuiltins x) (hl : s.heap.NoLimit)
    {fa : Addr} (hf : mg "law" = some (.ref fa)) {l : Addr} {vs : List Value} {xs : List Int} (hL : s.heap.IsList l vs.toArray) (hI : IntsAre vs xs) (hx : xs.length ≤ 63) (Q E : Value → Shared → Prop)
    (q : ∀ h' tk, KeepH s.heap h' → Q (.bool true) { s with heap := h', toks := tk }) : wpAny (model prog w) callerA (call (.ref fa) [.ref l]) Q E s := by
  have e := mg_of X hn (x := "law") (r := some (.ref 607)) (by kernel_rfl)
  rw [hf] at e
  cases e
  obtain ⟨o, ho, hc, n, hd⟩ := hL
  refine law_ok1 (prog := prog) (w := w) X hn hb hB hl callerA room_caller (fun b => s.heap.get? b) s [.lst (xs.map AV.int)] [.ref l] (.bool true) (Wd.le_refl _) (fun b o e => e) (.cons (.lst ho hc hd (ints_VRs hI)) .nil) (law1 xs hx) Q E fun v h' tk k hv => ?_
  cases hv
  exact q h' tk k
end Mine
open Mine in
set_option maxHeartbeats 8000000 in
theorem PySem.Challenge.cw_br6006_01_holds : PySem.Challenge.rw_br6006_01.Holds := by
  refine hd01 ?_
  k_fill
  intro w s₀ s₁ mg mb G Y fa o pm cd doc dV kV ho hd hcd hD hmg hg args vals as hpre hlay hrd hwl hlo
  have X := km_in_of Y
  clear hcd hD hd ho
  refine Ground.open G ?_
  intro T _ _ _ _
  clear G Y
  wrow_args hpre hlay hrd hwl hlo
  rename_i xs _ _ _ _ _ _ _ l vs _ hL _ _ _ hI _ hlen _
  refine end1 X T.g T.b T.builtins T.nolimit hmg hL hI (by omega) _ _ fun h' tk k => ?_
  exact GoodW.toG ⟨.inl ⟨.bool true, .bool true, [], rfl, fun _ => rfl, .bool true, by kernel_rfl, fun _ => ⟨List.nodup_nil, by simp⟩⟩, k, rfl, hg⟩
