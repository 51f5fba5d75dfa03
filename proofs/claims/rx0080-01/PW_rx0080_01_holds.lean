import PyProof.Rows.All
import PyProof.LetGo
import KE.KRevIter
import KE.BytesMake
import KE.KBytesWalk
import KE.KListMore
import KE.KSlice
import PyProof.SliceSyntax
import PyProof.CompFree
import PyProof.CompMap
import PyProof.CompUse
import PyProof.Rows.StrRules
import KE.KMinBuiltin
import KE.KSortTup
import PyProof.ZipIter
import PyProof.Rows.TupAssign
import PyProof.Rows.CatFin
import PyProof.StrBlockG
import PyProof.StrLawsIn
import PyProof.StrWalks
import PyProof.Rows.EqBoolInt
import PyProof.FString5
import PyProof.StrLawsNeg
import PyProof.Rows.SeqGenF
import PyProof.RaisesAny
import PyProof.IsiBase
import PyProof.AttrMissHeap
import PyProof.FString
import PyProof.Rows.ListDel
import PyProof.Rows.StrInSeq
import PyProof.Truth
import PyProof.ListIndexNeg
import PyProof.EqKinds
import PyProof.NeKinds
import PyProof.Rows.SeqIn
import PyProof.Rows.SumAny
import PyProof.WalkInts
import PyProof.MeetsSeq
import PyProof.Rows.StrInSeq3
import PyProof.AutoListH
import PyProof.StrOps2
import Open.Head
import Wide.Once
import Lean
import PySem.Challenge.RW_rx0080_01
open PySem PyProof.Rows
set_option Elab.async false
set_option compiler.extract_closed false
set_option genInjectivity false
set_option genSizeOf false
set_option maxRecDepth 100000
set_option linter.unusedVariables false
namespace Mine
noncomputable section
/-! MB -/
section
def tRfl : Lean.Syntax := Lean.Unhygienic.run do return (← `(tacticSeq| rfl)).raw
def tKrfl : Lean.Syntax := Lean.Unhygienic.run do return (← `(tacticSeq| kernel_rfl)).raw
def tWrfl : Lean.Syntax := Lean.Unhygienic.run do return (← `(tacticSeq| with_unfolding_all rfl)).raw
def tIrfl : Lean.Syntax := Lean.Unhygienic.run do return (← `(tacticSeq| (intro _; rfl))).raw
def tIIrfl : Lean.Syntax := Lean.Unhygienic.run do return (← `(tacticSeq| (intro _ _; rfl))).raw
def tTriv : Lean.Syntax := Lean.Unhygienic.run do return (← `(tacticSeq| trivial)).raw
def tDec : Lean.Syntax := Lean.Unhygienic.run do return (← `(tacticSeq| decide)).raw
theorem eq_top {i m k : Nat} (h : i + m = k) (hi : ¬ i < k) : i = k := Nat.le_antisymm (Nat.le.intro h) (Nat.not_lt.mp hi)
theorem eq_zero {i m k : Nat} (h : i + m = k) (hi : m = 0) : i = k := by rw [← h, hi]; rfl
theorem i_lt {a b : Nat} (h : a < b) : (a : Int) < b := Int.ofNat_lt.mpr h
theorem i_le {a b : Nat} (h : a ≤ b) : (a : Int) ≤ b := Int.ofNat_le.mpr h
theorem i_nlt {a b : Nat} (h : b ≤ a) : ¬ (a : Int) < b := Int.not_lt.mpr (i_le h)
theorem i_nle {a b : Nat} (h : b < a) : ¬ (a : Int) ≤ b := Int.not_le.mpr (i_lt h)
theorem i_ltn {a n : Nat} (h : a < n) : (a : Int) < @OfNat.ofNat Int n _ := Int.ofNat_lt.mpr h
theorem i_len {a n : Nat} (h : a ≤ n) : (a : Int) ≤ @OfNat.ofNat Int n _ := Int.ofNat_le.mpr h
theorem i_gtn {a n : Nat} (h : n < a) : @OfNat.ofNat Int n _ < (a : Int) := Int.ofNat_lt.mpr h
theorem i_gen {a n : Nat} (h : n ≤ a) : @OfNat.ofNat Int n _ ≤ (a : Int) := Int.ofNat_le.mpr h
theorem i_lo {a n : Nat} : -(@OfNat.ofNat Int n _) ≤ (a : Int) := Int.le_trans (Int.neg_nonpos_of_nonneg (Int.natCast_nonneg n)) (Int.natCast_nonneg a)
theorem u_lt {a k c : Nat} (h : a + k < c) : a < c := Nat.lt_of_le_of_lt (Nat.le_add_right _ _) h
theorem u_le {a k c : Nat} (h : a + k ≤ c) : a ≤ c := Nat.le_trans (Nat.le_add_right _ _) h
theorem d_lt {a k j c : Nat} (h : a + k < c) (g : j ≤ k) : a + j < c := Nat.lt_of_le_of_lt (Nat.add_le_add_left g _) h
theorem tN_lt {z : Int} {n : Nat} (h0 : 0 ≤ z) (h : z < n) : z.toNat < n := (Int.toNat_lt h0).mpr h
theorem tN_ltn {z : Int} {n : Nat} (h0 : 0 ≤ z) (h : z < @OfNat.ofNat Int n _) : z.toNat < n := (Int.toNat_lt h0).mpr h
theorem tN_eq {z : Int} (h : 0 ≤ z) : (z.toNat : Int) = z := Int.toNat_of_nonneg h
theorem tN_sym {z : Int} (h : 0 ≤ z) : z = (z.toNat : Int) := (Int.toNat_of_nonneg h).symm
theorem em0 {a b : Int} (h : 0 < b) : 0 ≤ a % b := Int.emod_nonneg _ (Int.ne_of_gt h)
theorem eml {a b : Int} (h : 0 < b) : a % b < b := Int.emod_lt_of_pos _ h
theorem gt_sub {a b : Nat} (h : a < b) : 0 < b - a := Nat.sub_pos_of_lt h
theorem ig_sub {a b : Nat} (h : a < b) : (0 : Int) < (b : Int) - a := Int.sub_pos_of_lt (i_lt h)
theorem add_sub' {a b : Nat} (h : a ≤ b) : a + (b - a) = b := Nat.add_sub_of_le h
theorem suc_add {k m n : Nat} (h : k + (m + 1) = n) : k + 1 + m = n := by rw [← h, Nat.add_assoc, Nat.add_comm 1]
theorem suc_lt {k m n : Nat} (h : k + (m + 1) = n) : k < n := Nat.lt_of_lt_of_eq (Nat.lt_add_of_pos_right (Nat.succ_pos m)) h
theorem eq_fin {k n : Nat} (h : k < n + 1) (g : ¬ k < n) : k = n := Nat.le_antisymm (Nat.le_of_lt_succ h) (Nat.not_lt.mp g)
theorem lt_ne {k n : Nat} (h : k < n + 1) (g : ¬ k = n) : k < n := Nat.lt_of_le_of_ne (Nat.le_of_lt_succ h) g
theorem md_lt {a b : Nat} (h : 0 < b) : a % b < b := Nat.mod_lt a h
theorem lb {a b : Nat} (h : Nat.ble a b = true) : a ≤ b := Nat.le_of_ble_eq_true h
theorem tn {a : Int} {b : Nat} (h : a = b) : a.toNat = b := by rw [h]; rfl
theorem half_lt {b n : Nat} (h : b < n) : (b - 1) / 2 < n := Nat.lt_of_le_of_lt (Nat.le_trans (Nat.div_le_self _ _) (Nat.sub_le _ _)) h
theorem half_dec {a p : Nat} (h : p < a) : (a - 1) / 2 < a := Nat.lt_of_le_of_lt (Nat.div_le_self _ _) (Nat.sub_one_lt (Nat.ne_zero_of_lt h))
theorem halfI {p : Int} (h : 0 ≤ p) : ((p - 1) / 2).toNat = (p.toNat - 1) / 2 := by
  obtain ⟨k, rfl⟩ := Int.eq_ofNat_of_zero_le h
  cases k with
  | zero => rfl
  | succ k =>
    show (((k : Int) + 1 - 1) / 2).toNat = (k + 1 - 1) / 2
    rw [Int.add_sub_cancel]
    rfl
theorem halfI_nn {p : Int} (h : 0 < p) : 0 ≤ (p - 1) / 2 := Int.ediv_nonneg (Int.sub_nonneg_of_le h) (by decide)
theorem halfI_lt {p n : Int} (h : 0 < p) (h2 : p < n) : (p - 1) / 2 < n := Int.lt_of_le_of_lt (Int.ediv_le_self _ (Int.sub_nonneg_of_le h)) (Int.lt_trans (Int.sub_lt_self _ (by decide)) h2)
theorem halfI_dec {p : Int} (h : 0 < p) : ((p - 1) / 2).toNat < p.toNat := by
  rw [halfI (Int.le_of_lt h)]; exact half_dec (Int.lt_toNat.mpr h : 0 < p.toNat)
theorem toNat_lt {a b : Int} (ha : 0 ≤ a) (h : a < b) : a.toNat < b.toNat := (Int.toNat_lt_toNat (Int.lt_of_le_of_lt ha h)).mpr h
theorem toNat_nlt {a b : Int} (h : ¬ a < b) : ¬ a.toNat < b.toNat := Nat.not_lt.mpr (Int.toNat_le_toNat (Int.not_lt.mp h))
theorem down_lt {n p q : Nat} (h : q < n) (hp : p < q) : n - q < n - p := Nat.sub_lt_sub_left (Nat.lt_trans hp h) hp
theorem lt_ch1 {p : Nat} : p < 2 * p + 1 := Nat.lt_succ_of_le (Nat.le_mul_of_pos_left p (by decide))
theorem lt_ch2 {p : Nat} : p < 2 * p + 2 := Nat.lt_succ_of_lt lt_ch1
theorem pred_lt {m : Nat} (h : 0 < m) : m - 1 < m := Nat.sub_one_lt (Nat.ne_of_gt h)
theorem pred_add {m : Nat} (h : 0 < m) : m = m - 1 + 1 := (Nat.succ_pred (Nat.ne_of_gt h)).symm
theorem cast_sub {a b : Nat} (h : b ≤ a) : ((a - b : Nat) : Int) = (a : Int) - b := Int.ofNat_sub h
theorem cast_pred {c : Nat} : ((c + 1 : Nat) : Int) - 1 = (c : Int) := Int.add_sub_cancel (c : Int) 1
theorem cast_up {k c : Nat} (h : c + 1 ≤ k) : ((k - (c + 1) : Nat) : Int) + 1 = ((k - c : Nat) : Int) := congrArg (fun n : Nat => (n : Int)) (Nat.sub_add_cancel (Nat.sub_pos_of_lt h) : k - c - 1 + 1 = k - c)
theorem bsw0 {i k c : Nat} (h : c + 1 ≤ k) : (i : Int) + k - 1 - ((k - (c + 1) : Nat) : Int) = ((i + c : Nat) : Int) := by rw [Int.ofNat_sub h]; push_cast; lia
theorem natAbs_small {b : Int} (h : 0 ≤ b) (h2 : b < 1073741824) : b.natAbs < 1073741824 := by lia
theorem ltN {a b n : Nat} (h : a < b) (h2 : b ≤ n) : (a : Int) < n := Int.ofNat_lt.mpr (Nat.lt_of_lt_of_le h h2)
theorem in_of {i m k : Nat} (h : i + m = k) (hi : i < k) : 0 < m := Nat.pos_of_ne_zero fun e => absurd hi (by rw [← h, e]; exact Nat.lt_irrefl _)
theorem step_eq {i m k : Nat} (h : i + m = k) (hi : i < k) : i + 1 + (m - 1) = k := by rw [Nat.add_assoc, Nat.add_comm 1, ← pred_add (in_of h hi)]; exact h
theorem in_lt {i m k : Nat} (h : i + m = k) (hm : ¬ m = 0) : i < k := by rw [← h]; exact Nat.lt_add_of_pos_right (Nat.pos_of_ne_zero hm)

noncomputable abbrev pw : Program := PySem.Challenge.pw_rx0080_01
noncomputable def stmtAt (i : Nat) : Stmt := pw.main.body.getD i (.Pass default)
noncomputable def fnBody : Stmt → List Stmt
  | .FunctionDef (body := b) .. => b
  | _ => []
noncomputable def fnScope : Stmt → Scope
  | .FunctionDef (scope := b) .. => b
  | _ => default
noncomputable def fnName : Stmt → Str
  | .FunctionDef (name := b) .. => b
  | _ => default
noncomputable def fnParams : Stmt → Arguments
  | .FunctionDef (args := b) .. => b
  | _ => default

/-- objects that nothing changes once they stand -/
noncomputable def Frz (o : Obj) : Prop := (o.cls = .type "tuple" ∧ ∃ vs n, o.data = .seq vs n) ∨ (o.cls = .type "code" ∧ ∃ vs, o.data = .fields vs)
noncomputable def Frozen (h h' : Heap) : Prop := ∀ b o, h.get? b = some o → Frz o → h'.get? b = some o

theorem lt_sizeN {h : Heap} {a : Nat} {o : Obj} (e : h.get? a = some o) : @LT.lt Nat _ a h.objs.size := Heap.lt_size e

structure Gd where
  h₁ : Heap
  mg : Str → Option Value
  mb : Str → Option Value
  P : Addr
  fa : Nat → Addr
  fc : Nat → Value
  fo : Nat → Obj
  fpm : Nat → Value
  fdoc : Nat → Value
  dd : Addr
  rx : Addr
  rxo : Obj
  sm : Addr

noncomputable def tabO (ps : Array Value) : Obj := { cls := .none, data := .fields ps }

structure FnOk (g : Gd) (i : Nat) : Prop where
  mg : g.mg (fnName (stmtAt i)) = some (.ref (g.fa i))
  get : g.h₁.get? (g.fa i) = some (g.fo i)
  data : (g.fo i).data = .func (Calls.docDef (fnName (stmtAt i)) (fnParams (stmtAt i)) (fnBody (stmtAt i)) (fnScope (stmtAt i)) (g.fpm i) (g.fc i) (g.fdoc i))
  code : g.h₁.CodeRec (g.fc i) (fnName (stmtAt i))

noncomputable def fnIds : List Nat := [2, 5, 8, 10, 11, 13, 14, 15, 16, 17, 18, 19, 20, 23, 24, 25, 26, 27]
inductive Bi : Str → Value → Prop
  | n_len : Bi "len" (.builtin "len")
  | n_range : Bi "range" (.type "range")
  | n_reversed : Bi "reversed" (.type "reversed")
  | n_bytearray : Bi "bytearray" (.type "bytearray")
  | n_bytes : Bi "bytes" (.type "bytes")
  | n_object : Bi "object" (.type "object")
  | n_isinstance : Bi "isinstance" (.builtin "isinstance")
  | n_str : Bi "str" (.type "str")
  | n_iter : Bi "iter" (.builtin "iter")
  | n_min : Bi "min" (.builtin "min")
  | n_zip : Bi "zip" (.type "zip")
  | n_sorted : Bi "sorted" (.builtin "sorted")
  | n_list : Bi "list" (.type "list")
  | n_sum : Bi "sum" (.builtin "sum")
structure Gd.Ok (g : Gd) : Prop where
  gl : g.h₁.Ns mainGlobals g.mg
  bl : g.h₁.Ns builtinsNs g.mb
  lim : g.h₁.NoLimit
  tab : g.h₁.get? g.P = some (tabO #[])
  fn : ∀ i ∈ fnIds, FnOk g i
  bi : ∀ x v, Bi x v → g.mg x = none ∧ g.mb x = some v
  nsm : g.mg (fnName (stmtAt 21)) = some (.ref (g.fa 21))
  nsg : g.h₁.get? (g.fa 21) = some (g.fo 21)
  nsd : (g.fo 21).data = .func { Calls.docDef (fnName (stmtAt 21)) (fnParams (stmtAt 21)) (fnBody (stmtAt 21)) (fnScope (stmtAt 21)) (g.fpm 21) (g.fc 21) (g.fdoc 21) with defaults := .ref g.dd }
  nsc : g.h₁.CodeRec (g.fc 21) (fnName (stmtAt 21))
  nst : ∃ n, g.h₁.get? g.dd = some { cls := .type "tuple", data := .seq #[.none] n }
  rxm : g.mg "_twin_re_1" = some (.ref g.rx)
  rxg : g.h₁.get? g.rx = some g.rxo
  rxd : g.rxo.dict = none
  rxf : g.rxo.cls = .type "re.Pattern" ∧ ∃ v0 v1 v3 v4 t2 t6 tp ws n, g.rxo.data = .fields #[v0, v1, .int 1 t2, v3, v4, .ref tp, .int 0 t6] ∧ g.h₁.get? tp = some { cls := .type "tuple", data := .seq ws n } ∧
    ws.toList.map (fun v => match v with | .int i _ => i | _ => 0) = [14, 14, 4, 1, 1, 9, 0, 64, 0, 1342177280, 0, 0, 0, 0, 0, 17, 0, 13, 11, 9, 0, 64, 0, 1342177280, 0, 0, 0, 0, 0, 17, 1, 1]
  smm : g.mg "_special_chars_map" = some (.ref g.sm)
  smf : g.sm ≠ g.P ∧ (g.sm == sysModules) = false ∧ ∃ f, g.h₁.IntMap g.sm f ∧ f 97 = none ∧ f 98 = none
  tcode : ∃ c, g.fc 10 = .ref c ∧ g.h₁.IsCode c g.P #[]
  bmod : ∃ bm ob, g.mg "__builtins__" = some (.ref bm) ∧ bm ≠ builtinsNs ∧ g.h₁.get? bm = some ob ∧ ob.cls = .type "module" ∧ ob.dict = some builtinsNs ∧ ob.data = .plain

/-- the state of the one table that grows -/
noncomputable def Tb (g : Gd) (h : Heap) : Prop := ∃ ps, h.get? g.P = some (tabO ps) ∧ TriplesOk ps.toList

structure Iv (g : Gd) (s : Shared) : Prop where
  ok : g.Ok
  ext : ∀ b o, g.h₁.get? b = some o → b ≠ g.P → s.heap.get? b = some o
  size : g.h₁.objs.size ≤ s.heap.objs.size
  tab : Tb g s.heap

structure After (g : Gd) (ms : List Addr) (s s' : Shared) : Prop where
  keep : ∀ b o, s.heap.get? b = some o → b ∉ ms → b ≠ g.P → s'.heap.get? b = some o
  frz : Frozen s.heap s'.heap
  size : s.heap.objs.size ≤ s'.heap.objs.size
  os : s'.os = s.os
  gens : AllBare s.gens → AllBare s'.gens

theorem After.refl (g : Gd) (ms : List Addr) (s : Shared) : After g ms s s := ⟨fun _ _ e _ _ => e, fun _ _ e _ => e, Nat.le_refl _, rfl, id⟩
theorem After.trans {g : Gd} {ms : List Addr} {s₁ s₂ s₃ : Shared} (x : After g ms s₁ s₂) (y : After g ms s₂ s₃) : After g ms s₁ s₃ :=
  ⟨fun b o e h1 h2 => y.keep b o (x.keep b o e h1 h2) h1 h2, fun b o e h => y.frz b o (x.frz b o e h) h, Nat.le_trans x.size y.size, y.os.trans x.os, fun h => y.gens (x.gens h)⟩

/-- an int's value -/
noncomputable def IsI (v : Value) (x : Int) : Prop := ∃ t, v = .int x t
inductive Ints : List Value → List Int → Prop
  | nil : Ints [] []
  | cons {v vs x xs} : IsI v x → Ints vs xs → Ints (v :: vs) (x :: xs)
noncomputable def IsS (v : Value) (x : Str) : Prop := ∃ t, v = .str x t
inductive Strs : List Value → List Str → Prop
  | nil : Strs [] []
  | cons {v vs x xs} : IsS v x → Strs vs xs → Strs (v :: vs) (x :: xs)

theorem Ints.length {vs xs} (h : Ints vs xs) : vs.length = xs.length := by induction h with | nil => rfl | cons _ _ ih => simp [ih]
theorem Ints.get {vs xs} (h : Ints vs xs) : ∀ {i : Nat} {x : Int}, xs[i]? = some x → ∃ t, vs[i]? = some (.int x t) := by
  induction h with
  | nil => intro i x e; simp at e
  | cons hv _ ih =>
    intro i x e
    cases i with
    | zero => simp at e; subst e; obtain ⟨t, rfl⟩ := hv; exact ⟨t, rfl⟩
    | succ i => simp at e; simpa using ih e
theorem Ints.set {vs xs} (h : Ints vs xs) (i : Nat) {v : Value} {x : Int} (hv : IsI v x) : Ints (vs.set i v) (xs.set i x) := by
  induction h generalizing i with
  | nil => exact .nil
  | cons hv' hr ih =>
    cases i with
    | zero => exact .cons hv hr
    | succ i => exact .cons hv' (ih i)
theorem Strs.length {vs xs} (h : Strs vs xs) : vs.length = xs.length := by induction h with | nil => rfl | cons _ _ ih => simp [ih]
theorem Strs.get {vs xs} (h : Strs vs xs) : ∀ {i : Nat} {x : Str}, xs[i]? = some x → ∃ t, vs[i]? = some (.str x t) := by
  induction h with
  | nil => intro i x e; simp at e
  | cons hv _ ih =>
    intro i x e
    cases i with
    | zero => simp at e; subst e; obtain ⟨t, rfl⟩ := hv; exact ⟨t, rfl⟩
    | succ i => simp at e; simpa using ih e

inductive At2 : List Str → List (Option Value) → Str → Value → Prop
  | here {ns vs x v} : At2 (x :: ns) (some v :: vs) x v
  | there {ns vs x v y w} : At2 ns vs x v → At2 (y :: ns) (w :: vs) x v
inductive Up2 : List Str → List (Option Value) → Str → Value → List (Option Value) → Prop
  | here {ns vs x v w} : Up2 (x :: ns) (w :: vs) x v (some v :: vs)
  | there {ns vs x v y w vs'} : Up2 ns vs x v vs' → Up2 (y :: ns) (w :: vs) x v (w :: vs')
theorem At2.mem {ns vs x v} (h : At2 ns vs x v) : x ∈ ns := by induction h with | here => exact .head _ | there _ ih => exact .tail _ ih
theorem Up2.mem {ns vs x v vs'} (h : Up2 ns vs x v vs') : x ∈ ns := by induction h with | here => exact .head _ | there _ ih => exact .tail _ ih
theorem Up2.at {ns vs x v vs'} (h : Up2 ns vs x v vs') (hn : ns.Nodup) : ∀ {y w}, At2 ns vs' y w → (y = x ∧ w = v) ∨ (y ≠ x ∧ At2 ns vs y w) := by
  induction h with
  | here =>
    intro y w hy
    cases hy with
    | here => exact .inl ⟨rfl, rfl⟩
    | there hy => exact .inr ⟨fun e => (List.nodup_cons.mp hn).1 (e ▸ hy.mem), .there hy⟩
  | there hu ih =>
    intro y w hy
    have hn' := List.nodup_cons.mp hn
    cases hy with
    | here => exact .inr ⟨fun e => hn'.1 (e ▸ hu.mem), .here⟩
    | there hy =>
      rcases ih hn'.2 hy with h | h
      · exact .inl h
      · exact .inr ⟨h.1, .there h.2⟩

/-- the kinds of things the ledger knows -/
inductive K where
  | ns (nl : List Str) (vs : List (Option Value))
  | ints (xs : List Int)
  | strs (xs : List Str)
  | list (vs : List Value)
  | pairs (ps : List (Int × Int))
  | liter (l : Addr) (i : Nat)
  | riter (x left step : Int)
  | siter (x : Str) (i : Nat)
  | cell (v : Option Value)
  | ba (b : Array UInt8)
  | raw (o : Obj)

noncomputable def listO (vs : List Value) (n : Nat) : Obj := { cls := .type "list", data := .seq vs.toArray n }
noncomputable def tupO (vs : List Value) (n : Nat) : Obj := { cls := .type "tuple", data := .seq vs.toArray n }
noncomputable def baO (b : Array UInt8) : Obj := { cls := .type "bytearray", data := .bytearray b 0 }
inductive Pairs (h : Heap) : List Value → List (Int × Int) → Prop
  | nil : Pairs h [] []
  | cons {b : Addr} {p : Int × Int} {t u : Tok} {n : Nat} {vs ps} : h.get? b = some (tupO [.int p.1 t, .int p.2 u] n) → Pairs h vs ps → Pairs h (.ref b :: vs) (p :: ps)
theorem Pairs.move {h h' : Heap} {vs ps} (x : Pairs h vs ps) (f : Frozen h h') : Pairs h' vs ps := by
  induction x with
  | nil => exact .nil
  | cons e _ ih => exact .cons (f _ _ e (.inl ⟨rfl, _, _, rfl⟩)) ih

noncomputable def K.At (h : Heap) (a : Addr) : K → Prop
  | .ns nl vs => nl.Nodup ∧ ∃ m, h.Ns a m ∧ ∀ x v, At2 nl vs x v → m x = some v
  | .ints xs => ∃ vs n, h.get? a = some (listO vs n) ∧ Ints vs xs
  | .strs xs => ∃ vs n, h.get? a = some (listO vs n) ∧ Strs vs xs
  | .list vs => ∃ n, h.get? a = some (listO vs n)
  | .pairs ps => ∃ vs n, h.get? a = some (listO vs n) ∧ Pairs h vs ps
  | .liter l i => h.IsListIter a l i
  | .riter x left step => IsRangeIter h a x left step
  | .siter x i => ∃ t, h.IsStrIter a "str_ascii_iterator" x t i
  | .cell v => h.IsCell a v
  | .ba b => h.get? a = some (baO b)
  | .raw o => h.get? a = some o
/-- what may change in place -/
noncomputable def K.soft : K → Prop
  | .raw _ => False
  | .ns .. => True
  | .ints .. => True
  | .strs .. => True
  | .list .. => True
  | .pairs .. => True
  | .liter .. => True
  | .riter .. => True
  | .siter .. => True
  | .cell .. => True
  | .ba .. => True

theorem frz_list {vs n} : ¬ Frz (listO vs n) := fun hf => by rcases hf with ⟨e, _⟩ | ⟨e, _⟩ <;> simp [listO] at e
theorem K.At.get {h : Heap} {a : Addr} {k : K} (h0 : K.At h a k) : ∃ o, h.get? a = some o ∧ (k.soft → ¬ Frz o) := by
  cases k with
  | ns nl vs =>
    obtain ⟨_, _, ⟨o, es, ep, ho, hd, _⟩, _⟩ := h0
    exact ⟨o, ho, fun _ hf => by rcases hf with ⟨_, vs, n, e⟩ | ⟨_, vs, e⟩ <;> rw [hd] at e <;> cases e⟩
  | «ints» _ => obtain ⟨_, _, ho, _⟩ := h0; exact ⟨_, ho, fun _ => frz_list⟩
  | «strs» _ => obtain ⟨_, _, ho, _⟩ := h0; exact ⟨_, ho, fun _ => frz_list⟩
  | «list» _ => obtain ⟨_, ho⟩ := h0; exact ⟨_, ho, fun _ => frz_list⟩
  | pairs _ => obtain ⟨_, _, ho, _⟩ := h0; exact ⟨_, ho, fun _ => frz_list⟩
  | liter _ _ => obtain ⟨_, ho, hc, _⟩ := h0; exact ⟨_, ho, fun _ hf => by rcases hf with ⟨e, _⟩ | ⟨e, _⟩ <;> rw [hc] at e <;> simp at e⟩
  | riter _ _ _ => exact ⟨_, h0, fun _ hf => by rcases hf with ⟨e, _⟩ | ⟨e, _⟩ <;> simp at e⟩
  | siter _ _ => obtain ⟨_, _, ho, hc, _⟩ := h0; exact ⟨_, ho, fun _ hf => by rcases hf with ⟨e, _⟩ | ⟨e, _⟩ <;> rw [hc] at e <;> simp at e⟩
  | cell _ => obtain ⟨o, ho, hd⟩ := h0; exact ⟨_, ho, fun _ hf => by rcases hf with ⟨_, vs, n, e⟩ | ⟨_, vs, e⟩ <;> rw [hd] at e <;> cases e⟩
  | ba _ => exact ⟨_, h0, fun _ hf => by rcases hf with ⟨e, _⟩ | ⟨e, _⟩ <;> simp [baO] at e⟩
  | raw _ => exact ⟨_, h0, fun h => h.elim⟩
theorem K.At.lt {h : Heap} {a : Addr} {k : K} (x : K.At h a k) : a < h.objs.size := let ⟨_, e, _⟩ := x.get; Heap.lt_size e
theorem K.At.move {h h' : Heap} {a : Addr} (e : ∀ o, h.get? a = some o → h'.get? a = some o) (hf : Frozen h h') {k : K} (h0 : K.At h a k) : K.At h' a k := by
  cases k with
  | ns _ _ => obtain ⟨hn, m, ⟨o, es, ep, ho, r⟩, hm⟩ := h0; exact ⟨hn, m, ⟨o, es, ep, e _ ho, r⟩, hm⟩
  | «ints» _ => obtain ⟨vs, n, ho, hi⟩ := h0; exact ⟨vs, n, e _ ho, hi⟩
  | «strs» _ => obtain ⟨vs, n, ho, hi⟩ := h0; exact ⟨vs, n, e _ ho, hi⟩
  | «list» _ => obtain ⟨n, ho⟩ := h0; exact ⟨n, e _ ho⟩
  | pairs _ => obtain ⟨vs, n, ho, hp⟩ := h0; exact ⟨vs, n, e _ ho, hp.move hf⟩
  | liter _ _ => obtain ⟨o, ho, r⟩ := h0; exact ⟨o, e _ ho, r⟩
  | riter _ _ _ => exact e _ h0
  | siter _ _ => obtain ⟨t, o, ho, r⟩ := h0; exact ⟨t, o, e _ ho, r⟩
  | cell _ => obtain ⟨o, ho, hd⟩ := h0; exact ⟨o, e _ ho, hd⟩
  | ba _ => exact e _ h0
  | raw _ => exact e _ h0

noncomputable abbrev Os := List (Addr × K)
inductive Mem : Os → Addr → K → Prop
  | here {os a k} : Mem ((a, k) :: os) a k
  | there {os a k p} : Mem os a k → Mem (p :: os) a k
inductive Up : Os → Addr → K → K → Os → Prop
  | here {os a k k'} : Up ((a, k) :: os) a k k' ((a, k') :: os)
  | there {os a k k' p os'} : Up os a k k' os' → Up (p :: os) a k k' (p :: os')
theorem Mem.mem {os a k} (h : Mem os a k) : (a, k) ∈ os := by induction h with | here => exact .head _ | there _ ih => exact .tail _ ih
theorem Up.mem {os a k k' os'} (h : Up os a k k' os') : (a, k) ∈ os := by induction h with | here => exact .head _ | there _ ih => exact .tail _ ih
theorem Up.map {os a k k' os'} (h : Up os a k k' os') : os'.map (·.1) = os.map (·.1) := by induction h with | here => rfl | there _ ih => simp [ih]
theorem Up.get {os a k k' os'} (h : Up os a k k' os') (hn : (os.map (·.1)).Nodup) : ∀ {p}, p ∈ os' → p = (a, k') ∨ (p.1 ≠ a ∧ p ∈ os) := by
  induction h with
  | here =>
    intro p hp
    rw [List.map_cons, List.nodup_cons] at hn
    rcases List.mem_cons.mp hp with rfl | hp
    · exact .inl rfl
    · exact .inr ⟨fun e => hn.1 (e ▸ List.mem_map_of_mem (f := (·.1)) hp), .tail _ hp⟩
  | there hu ih =>
    intro p hp
    rw [List.map_cons, List.nodup_cons] at hn
    rcases List.mem_cons.mp hp with rfl | hp
    · exact .inr ⟨fun e => hn.1 (e ▸ List.mem_map_of_mem (f := (·.1)) hu.mem), .head _⟩
    · rcases ih hn.2 hp with h | h
      · exact .inl h
      · exact .inr ⟨h.1, .tail _ h.2⟩

structure St (g : Gd) (s₀ : Shared) (ms : List Addr) (os : Os) (s : Shared) : Prop where
  inv : Iv g s
  aft : After g ms s₀ s
  «at» : ∀ p ∈ os, K.At s.heap p.1 p.2
  nod : (os.map (·.1)).Nodup
  own : ∀ p ∈ os, p.2.soft → p.1 ∈ ms ∨ s₀.heap.objs.size ≤ p.1
  low : ∀ p ∈ os, g.h₁.objs.size ≤ p.1
  base : g.h₁.objs.size ≤ s₀.heap.objs.size

section
variable {g : Gd} {s₀ s s' : Shared} {ms : List Addr} {os os' : Os}

theorem Tb.keep {h h' : Heap} (x : Tb g h) (e : ∀ o, h.get? g.P = some o → h'.get? g.P = some o) (_ : Frozen h h') : Tb g h' := let ⟨ps, p, q⟩ := x; ⟨ps, e _ p, q⟩
theorem Iv.P_lt (x : Iv g s) : g.P < g.h₁.objs.size := Heap.lt_size x.ok.tab
theorem Iv.get (x : Iv g s) {b : Addr} {o : Obj} (e : g.h₁.get? b = some o) (hne : o.data ≠ .fields #[]) : s.heap.get? b = some o :=
  x.ext b o e fun hb => by
    rw [hb, x.ok.tab] at e
    cases e
    exact hne rfl
theorem Iv.ns (x : Iv g s) {a : Addr} {m} (h : g.h₁.Ns a m) : s.heap.Ns a m :=
  let ⟨o, es, ep, ho, hd, r⟩ := h; ⟨o, es, ep, x.get ho (by rw [hd]; nofun), hd, r⟩
theorem Iv.lim (x : Iv g s) : s.heap.NoLimit := let ⟨mc, a, b⟩ := x.ok.lim; ⟨mc, x.ns a, b⟩
theorem Iv.codeRec (x : Iv g s) {cd : Value} {q : Str} (h : g.h₁.CodeRec cd q) : s.heap.CodeRec cd q :=
  let ⟨c, o, vs, t, e, ho, hd, hv⟩ := h
  ⟨c, o, vs, t, e, x.get ho (by rw [hd]; intro q; injection q with q; subst q; simp at hv), hd, hv⟩
theorem Iv.step (x : Iv g s) (hk : ∀ b o, s.heap.get? b = some o → b < g.h₁.objs.size → s'.heap.get? b = some o) (hz : s.heap.objs.size ≤ s'.heap.objs.size) (hf : Frozen s.heap s'.heap) : Iv g s' :=
  ⟨x.ok, fun b o e hb => hk b o (x.ext b o e hb) (Heap.lt_size e), Nat.le_trans x.size hz, x.tab.keep (fun o e => hk _ _ e x.P_lt) hf⟩

theorem St.mem (F : St g s₀ ms os s) {a : Addr} {k : K} (h : Mem os a k) : K.At s.heap a k := F.at _ h.mem

/-- a change in place -/
theorem St.update (F : St g s₀ ms os s) {a : Addr} {k k' : K} (hu : Up os a k k' os') (hs : Heap.SameBut a s.heap s'.heap) (hk : K.At s'.heap a k') (ho : s'.os = s.os) (hg : s'.gens = s.gens) (hsoft : autoParam (k.soft) tTriv) : St g s₀ ms os' s' := by
  have hm := hu.mem
  have hlow := F.low _ hm
  obtain ⟨o, hget, hfz⟩ := (F.at _ hm).get
  have hfz' : ¬ Frz o := hfz hsoft
  have fr : Frozen s.heap s'.heap := fun b o' e hf => by
    by_cases hb : b = a
    · subst hb
      have : o = o' := Option.some.inj (hget.symm.trans e)
      exact (hfz' (this ▸ hf)).elim
    · rw [hs.2 b hb]; exact e
  have hz : s.heap.objs.size ≤ s'.heap.objs.size := by rw [hs.1]; exact Nat.le_refl _
  have own := F.own _ hm hsoft
  refine ⟨F.inv.step (fun b o' e hb => ?_) hz fr, ⟨fun b o' e h1 h2 => ?_, fun b o' e hf => fr b o' (F.aft.frz b o' e hf) hf, Nat.le_trans F.aft.size hz, ho.trans F.aft.os, fun h => hg ▸ F.aft.gens h⟩, fun p hp => ?_, by rw [hu.map]; exact F.nod, fun p hp hsf => ?_, fun p hp => ?_, F.base⟩
  · rw [hs.2 b (by rintro rfl; exact Nat.lt_irrefl _ (Nat.lt_of_lt_of_le hb hlow))]; exact e
  · have hb : b ≠ a := by
      rintro rfl
      rcases own with h | h
      · exact h1 h
      · exact Nat.lt_irrefl _ (Nat.lt_of_lt_of_le (Heap.lt_size e) h)
    rw [hs.2 b hb]; exact F.aft.keep b o' e h1 h2
  · rcases hu.get F.nod hp with rfl | ⟨hne, hp'⟩
    · exact hk
    · exact (F.at _ hp').move (fun o e => by rw [hs.2 _ hne]; exact e) fr
  · rcases hu.get F.nod hp with rfl | ⟨_, hp'⟩
    · exact own
    · exact F.own _ hp' hsf
  · have : p.1 ∈ os.map (·.1) := by rw [← hu.map]; exact List.mem_map_of_mem hp
    obtain ⟨q, hq, e⟩ := List.mem_map.mp this
    rw [← e]; exact F.low q hq

/-- a new object -/
theorem St.push (F : St g s₀ ms os s) {o : Obj} {k : K} (hh : s'.heap = s.heap.push o) (hk : K.At (s.heap.push o) s.heap.objs.size k) (ho : s'.os = s.os) (hg : s'.gens = s.gens) : St g s₀ ms ((s.heap.objs.size, k) :: os) s' := by
  have hk' : ∀ b o', s.heap.get? b = some o' → s'.heap.get? b = some o' := fun b o' e => by rw [hh]; exact Heap.get?_push_of_some _ e
  have hz : s.heap.objs.size ≤ s'.heap.objs.size := by rw [hh, Heap.size_push]; exact Nat.le_succ _
  have fr : Frozen s.heap s'.heap := fun b o' e _ => hk' b o' e
  refine ⟨F.inv.step (fun b o' e _ => hk' b o' e) hz fr, ⟨fun b o' e h1 h2 => hk' _ _ (F.aft.keep b o' e h1 h2), fun b o' e hf => hk' _ _ (F.aft.frz b o' e hf), Nat.le_trans F.aft.size hz, ho.trans F.aft.os, fun h => hg ▸ F.aft.gens h⟩, ?_, ?_, ?_, ?_, F.base⟩
  · intro p hp
    rcases List.mem_cons.mp hp with rfl | hp
    · rw [hh]; exact hk
    · exact (F.at _ hp).move (fun o e => hk' _ _ e) fr
  · rw [List.map_cons]
    refine List.nodup_cons.mpr ⟨fun hm => ?_, F.nod⟩
    obtain ⟨p, hp, e⟩ := List.mem_map.mp hm
    exact Nat.lt_irrefl _ (e ▸ (F.at p hp).lt)
  · intro p hp hsf
    rcases List.mem_cons.mp hp with rfl | hp
    · exact .inr F.aft.size
    · exact F.own _ hp hsf
  · intro p hp
    rcases List.mem_cons.mp hp with rfl | hp
    · exact F.inv.size
    · exact F.low _ hp

theorem St.swap {p q : Addr × K} (F : St g s₀ ms (p :: q :: os) s) : St g s₀ ms (q :: p :: os) s := by
  have hs : ∀ x, x ∈ q :: p :: os → x ∈ p :: q :: os := fun x hx => by
    rcases List.mem_cons.mp hx with rfl | hx
    · exact .tail _ (.head _)
    · rcases List.mem_cons.mp hx with rfl | hx
      · exact .head _
      · exact .tail _ (.tail _ hx)
  refine ⟨F.inv, F.aft, fun x hx => F.at x (hs x hx), ?_, fun x hx => F.own x (hs x hx), fun x hx => F.low x (hs x hx), F.base⟩
  have h := F.nod
  simp only [List.map_cons, List.nodup_cons, List.mem_cons, not_or] at h ⊢
  exact ⟨⟨fun e => h.1.1 e.symm, h.2.1⟩, h.1.2, h.2.2⟩
/-- a new object, laid behind the frame -/
theorem St.pushB {p : Addr × K} (F : St g s₀ ms (p :: os) s) {o : Obj} {k : K} (hh : s'.heap = s.heap.push o) (hk : K.At (s.heap.push o) s.heap.objs.size k) (ho : s'.os = s.os) (hg : s'.gens = s.gens) : St g s₀ ms (p :: (s.heap.objs.size, k) :: os) s' := (F.push hh hk ho hg).swap

/-- the same heap -/
theorem St.same (F : St g s₀ ms os s) (hh : s'.heap = s.heap) (ho : s'.os = s.os) (hg : s'.gens = s.gens) : St g s₀ ms os s' := by
  have hk' : ∀ b o', s.heap.get? b = some o' → s'.heap.get? b = some o' := fun b o' e => by rw [hh]; exact e
  have fr : Frozen s.heap s'.heap := fun b o' e _ => hk' b o' e
  have hz : s.heap.objs.size ≤ s'.heap.objs.size := by rw [hh]; exact Nat.le_refl _
  exact ⟨F.inv.step (fun b o' e _ => hk' b o' e) hz fr, ⟨fun b o' e h1 h2 => hk' _ _ (F.aft.keep b o' e h1 h2), fun b o' e hf => hk' _ _ (F.aft.frz b o' e hf), Nat.le_trans F.aft.size hz, ho.trans F.aft.os, fun h => hg ▸ F.aft.gens h⟩,
    fun p hp => (F.at _ hp).move (fun o e => hk' _ _ e) fr, F.nod, F.own, F.low, F.base⟩

theorem St.sub (F : St g s₀ ms os s) (h : ∀ p ∈ os', p ∈ os) (hn : (os'.map (·.1)).Nodup) : St g s₀ ms os' s :=
  ⟨F.inv, F.aft, fun p hp => F.at p (h p hp), hn, fun p hp => F.own p (h p hp), fun p hp => F.low p (h p hp), F.base⟩

theorem St.tick (F : St g s₀ ms os s) (t : Nat) : St g s₀ ms os { s with toks := t } := F.same rfl rfl rfl

/-- a call that changes one thing of the ledger's at most -/
theorem St.after1 (F : St g s₀ ms os s) {a : Addr} {k k' : K} (hu : Up os a k k' os') (ha : After g [a] s s') (hi : Iv g s') (hk : K.At s'.heap a k') (hsoft : autoParam (k.soft) tTriv) : St g s₀ ms os' s' := by
  have hm := hu.mem
  have own := F.own _ hm hsoft
  refine ⟨hi, ⟨fun b o' e h1 h2 => ?_, fun b o' e hf => ha.frz b o' (F.aft.frz b o' e hf) hf, Nat.le_trans F.aft.size ha.size, ha.os.trans F.aft.os, fun h => ha.gens (F.aft.gens h)⟩, fun p hp => ?_, by rw [hu.map]; exact F.nod, fun p hp hsf => ?_, fun p hp => ?_, F.base⟩
  · refine ha.keep b o' (F.aft.keep b o' e h1 h2) (fun hb => ?_) h2
    have hb := List.mem_singleton.mp hb
    subst hb
    rcases own with h | h
    · exact h1 h
    · exact Nat.lt_irrefl _ (Nat.lt_of_lt_of_le (Heap.lt_size e) h)
  · rcases hu.get F.nod hp with rfl | ⟨hne, hp'⟩
    · exact hk
    · refine (F.at _ hp').move (fun o e => ha.keep _ o e (fun h => hne (List.mem_singleton.mp h)) (fun hP => ?_)) ha.frz
      have := F.low _ hp'
      have q := F.inv.P_lt
      rw [hP] at this
      exact Nat.lt_irrefl _ (Nat.lt_of_lt_of_le q this)
  · rcases hu.get F.nod hp with rfl | ⟨_, hp'⟩
    · exact own
    · exact F.own _ hp' hsf
  · have : p.1 ∈ os.map (·.1) := by rw [← hu.map]; exact List.mem_map_of_mem hp
    obtain ⟨q, hq, e⟩ := List.mem_map.mp this
    rw [← e]; exact F.low q hq
theorem St.after0 (F : St g s₀ ms os s) (ha : After g [] s s') (hi : Iv g s') : St g s₀ ms os s' := by
  refine ⟨hi, ⟨fun b o' e h1 h2 => ha.keep b o' (F.aft.keep b o' e h1 h2) (fun h => nomatch h) h2, fun b o' e hf => ha.frz b o' (F.aft.frz b o' e hf) hf, Nat.le_trans F.aft.size ha.size, ha.os.trans F.aft.os, fun h => ha.gens (F.aft.gens h)⟩,
    fun p hp => ?_, F.nod, F.own, F.low, F.base⟩
  refine (F.at p hp).move (fun o e => ha.keep p.1 o e (fun h => nomatch h) (fun hP => ?_)) ha.frz
  have h1 := F.low p hp
  have h2 := F.inv.P_lt
  rw [hP] at h1
  exact Nat.lt_irrefl _ (Nat.lt_of_lt_of_le h2 h1)
theorem St.add (F : St g s₀ ms os s) {a : Addr} {k : K} (hk : K.At s.heap a k) (hn : ∀ p ∈ os, p.1 ≠ a) (hl : s₀.heap.objs.size ≤ a) : St g s₀ ms ((a, k) :: os) s := by
  refine ⟨F.inv, F.aft, fun p hp => ?_, ?_, fun p hp hsf => ?_, fun p hp => ?_, F.base⟩
  · rcases List.mem_cons.mp hp with rfl | hp
    · exact hk
    · exact F.at _ hp
  · rw [List.map_cons]
    refine List.nodup_cons.mpr ⟨fun hm => ?_, F.nod⟩
    obtain ⟨p, hp, e⟩ := List.mem_map.mp hm
    exact hn p hp e
  · rcases List.mem_cons.mp hp with rfl | hp
    · exact .inr hl
    · exact F.own _ hp hsf
  · rcases List.mem_cons.mp hp with rfl | hp
    · exact Nat.le_trans F.base hl
    · exact F.low _ hp

inductive Del : Os → Addr → K → Os → Prop
  | here {os a k} : Del ((a, k) :: os) a k os
  | there {os a k p os'} : Del os a k os' → Del (p :: os) a k (p :: os')
theorem Del.mem {os a k os'} (h : Del os a k os') : (a, k) ∈ os := by induction h with | here => exact .head _ | there _ ih => exact .tail _ ih
theorem Del.sub {os a k os'} (h : Del os a k os') : ∀ {p}, p ∈ os' → p ∈ os := by
  induction h with
  | here => intro p hp; exact .tail _ hp
  | there _ ih =>
    intro p hp
    rcases List.mem_cons.mp hp with rfl | hp
    · exact .head _
    · exact .tail _ (ih hp)
theorem Del.nod {os a k os'} (h : Del os a k os') (hn : (os.map (·.1)).Nodup) : (os'.map (·.1)).Nodup ∧ ∀ p ∈ os', p.1 ≠ a := by
  induction h with
  | here =>
    rw [List.map_cons, List.nodup_cons] at hn
    exact ⟨hn.2, fun p hp e => hn.1 (e ▸ List.mem_map_of_mem (f := (·.1)) hp)⟩
  | there hd ih =>
    rw [List.map_cons, List.nodup_cons] at hn
    obtain ⟨h1, h2⟩ := ih hn.2
    refine ⟨?_, fun p hp => ?_⟩
    · rw [List.map_cons, List.nodup_cons]
      refine ⟨fun hm => ?_, h1⟩
      obtain ⟨q, hq, e⟩ := List.mem_map.mp hm
      exact hn.1 (e ▸ List.mem_map_of_mem (f := (·.1)) (hd.sub hq))
    · rcases List.mem_cons.mp hp with rfl | hp
      · intro e; exact hn.1 (e ▸ List.mem_map_of_mem (f := (·.1)) hd.mem)
      · exact h2 p hp
theorem St.drop (F : St g s₀ ms os s) {a : Addr} {k : K} (hd : Del os a k os') : St g s₀ ms os' s := F.sub (fun _ hp => hd.sub hp) (hd.nod F.nod).1
/-- an iterator that has ended: it is forgotten -/
theorem St.ended (F : St g s₀ ms os s) {a L : Addr} {k kL : K} (hd : Del os a k os') (hL : (L, kL) ∈ os') (hL0 : s₀.heap.objs.size ≤ L) (hx : Heap.ExtBut a s.heap s'.heap) (ho : s'.os = s.os) (hg : s'.gens = s.gens) (hsoft : autoParam (k.soft) tTriv) (hown : s₀.heap.objs.size ≤ a) : St g s₀ ms os' s' := by
  have hm := hd.mem
  obtain ⟨o, hget, hfz⟩ := (F.at _ hm).get
  have hfz' : ¬ Frz o := hfz hsoft
  have fr : Frozen s.heap s'.heap := fun b o' e hf => hx b o' (by
    rintro rfl
    have : o = o' := Option.some.inj (hget.symm.trans e)
    exact hfz' (this ▸ hf)) e
  obtain ⟨oL, hoL, _⟩ := (F.at _ (hd.sub hL)).get
  have hLz := lt_sizeN (hx L oL ((hd.nod F.nod).2 _ hL) hoL)
  have hbase := F.base
  refine ⟨⟨F.inv.ok, fun b o' e hb => ?_, by lia, F.inv.tab.keep (fun o' e => hx _ o' ?_ e) fr⟩, ⟨fun b o' e h1 h2 => ?_, fun b o' e hf => fr b o' (F.aft.frz b o' e hf) hf, by lia, ho.trans F.aft.os, fun h => hg ▸ F.aft.gens h⟩, fun p hp => ?_, (hd.nod F.nod).1, fun p hp => F.own _ (hd.sub hp), fun p hp => F.low _ (hd.sub hp), hbase⟩
  · refine hx b o' (by rintro rfl; have := lt_sizeN e; lia) (F.inv.ext b o' e hb)
  · have h1 : @LT.lt Nat _ g.P g.h₁.objs.size := F.inv.P_lt
    intro e
    have e' : @Eq Nat g.P a := e
    lia
  · refine hx b o' (by rintro rfl; have := lt_sizeN e; lia) (F.aft.keep b o' e h1 h2)
  · exact (F.at _ (hd.sub hp)).move (fun o e => hx _ _ ((hd.nod F.nod).2 _ hp) e) fr
end
end
/-! MW -/
section
open Sem (wp)

/-- codes that may hold a bytearray while they run: none of them lies below us -/
noncomputable def badIds : List String := ["bytearray.__contains__", "bytearray.__mod__", "bytearray.__rmod__", "_struct.pack_into.held", "bytearray.find.held"] ++ Builtin.Bytes.decodersThatHold
noncomputable def Cln : Code → Bool
  | .builtin id _ => !badIds.contains id
  | _ => true
noncomputable def AllCln (l : List (Code × Pos)) : Prop := ∀ x ∈ l, Cln x.1 = true

noncomputable abbrev NoE : Value → Shared → Prop := fun _ _ => False

/-- the logic's word, over contexts without such codes; shut: no tactic looks into it -/
@[irreducible] noncomputable def Wp {α : Type} (w : World) (A : Around) (t : Sem α) (Q : α → Shared → Prop) (E : Value → Shared → Prop) (s : Shared) : Prop :=
  ∀ Γ p, Γ.In A → AllCln ((Γ.code, p) :: Γ.below) → wp (model pw w) Γ t (fun a _ s' => Q a s') (fun e _ s' => E e s') p s
@[irreducible] noncomputable def Cd (w : World) (A : Around) (c : Code) (R : Result → Shared → Prop) (s : Shared) : Prop :=
  ∀ Γ p, Γ.code = c → Γ.Below A → AllCln Γ.below → wpCode (model pw w) Γ R p s

section
variable {α β : Type} {w : World} {A : Around} {E E' : Value → Shared → Prop} {s : Shared}
theorem Wp.iff {t : Sem α} {Q : α → Shared → Prop} : Wp w A t Q E s ↔ ∀ Γ p, Γ.In A → AllCln ((Γ.code, p) :: Γ.below) → wp (model pw w) Γ t (fun a _ s' => Q a s') (fun e _ s' => E e s') p s := by unfold Wp; exact Iff.rfl
theorem Cd.iff {c : Code} {R : Result → Shared → Prop} : Cd w A c R s ↔ ∀ Γ p, Γ.code = c → Γ.Below A → AllCln Γ.below → wpCode (model pw w) Γ R p s := by unfold Cd; exact Iff.rfl
theorem Wp.of {t : Sem α} {Q : α → Shared → Prop} (h : wpAny (model pw w) A t Q E s) : Wp w A t Q E s := Wp.iff.mpr fun Γ p hΓ _ => h Γ p hΓ
theorem Cd.of {c : Code} {R : Result → Shared → Prop} (h : codeAny (model pw w) A c R s) : Cd w A c R s := Cd.iff.mpr fun Γ p hc hΓ _ => h Γ p hc hΓ
theorem Wp.mono {t : Sem α} {Q Q' : α → Shared → Prop} (h : Wp w A t Q E s) (hQ : ∀ a s, Q a s → Q' a s) (hE : ∀ e s, E e s → E' e s) : Wp w A t Q' E' s :=
  Wp.iff.mpr fun Γ p hΓ hc => Sem.wp_mono _ Γ t (fun a _ s => hQ a s) (fun e _ s => hE e s) p s (Wp.iff.mp h Γ p hΓ hc)
theorem Wp.imp {t : Sem α} {Q Q' : α → Shared → Prop} (h : Wp w A t Q E s) (hQ : ∀ a s, Q a s → Q' a s) : Wp w A t Q' E s := h.mono hQ fun _ _ x => x
theorem Wp.pure {a : α} {Q : α → Shared → Prop} (h : Q a s) : Wp w A (Pure.pure a : Sem α) Q E s := .of (wpAny_pure h)
theorem AllCln.to {l : List (Code × Pos)} {c : Code} {p p' : Pos} (h : AllCln ((c, p) :: l)) : AllCln ((c, p') :: l) := fun x hx => by
  rcases List.mem_cons.mp hx with rfl | hx
  · exact h (c, p) (.head _)
  · exact h x (.tail _ hx)
theorem Wp.bind {m : Sem α} {f : α → Sem β} {Q : β → Shared → Prop} (h : Wp w A m (fun a s' => Wp w A (f a) Q E s') E s) : Wp w A (m >>= f) Q E s := Wp.iff.mpr fun Γ p hΓ hc => by
  rw [Sem.wp_bind']
  exact Sem.wp_mono _ Γ m (fun a p' s' h' => Wp.iff.mp h' Γ p' hΓ hc.to) (fun _ _ _ h' => h') p s (Wp.iff.mp h Γ p hΓ hc)
theorem Wp.holding {vs : List Value} {m : Sem α} {Q : α → Shared → Prop} (h : Wp w A m Q E s) : Wp w A (PySem.holding vs m) Q E s := Wp.iff.mpr fun Γ p hΓ hc => by rw [Sem.wp_holding]; exact Wp.iff.mp h Γ p hΓ hc
theorem Wp.keep {vs : List Value} {m : Sem α} {Q : α → Shared → Prop} (h : Wp w A m Q E s) : Wp w A (m.keep vs) Q E s := Wp.iff.mpr fun Γ p hΓ hc => by rw [Sem.wp_keep]; exact Wp.iff.mp h Γ p hΓ hc
theorem Wp.operate {vs : List Value} {m : Sem Value} {Q : Value → Shared → Prop} (h : Wp w A m Q E s) : Wp w A (PySem.operate vs m) Q E s := Wp.iff.mpr fun Γ p hΓ hc => by rw [Sem.wp_operate]; exact Wp.iff.mp h Γ p hΓ hc
theorem Wp.standAt {pos : Pos} {Q : Unit → Shared → Prop} (h : Q () s) : Wp w A (PySem.standAt pos) Q E s := .of (wpAny_standAt h)
theorem Wp.bindName {env : Env} {x : Str} {v : Value} {Q : Unit → Shared → Prop} (h : Wp w A (storeName env x v) Q E s) : Wp w A (PySem.bindName env x v) Q E s := Wp.iff.mpr fun Γ p hΓ hc => by rw [Sem.wp_bindName]; exact Wp.iff.mp h Γ p hΓ hc
theorem Wp.release {vs keep : List Value} {Q : Unit → Shared → Prop} (h : Q () s) : Wp w A (PySem.release vs keep) Q E s := Wp.iff.mpr fun Γ p hΓ hc => by rw [Sem.wp_release]; exact h
theorem Wp.onRaise {m : Sem α} {k : Value → Sem Unit} {Q : α → Shared → Prop} (h : Wp w A m Q NoE s) : Wp w A (m.onRaise k) Q E s := Wp.iff.mpr fun Γ p hΓ hc => by
  rw [Sem.wp_onRaise]
  exact Sem.wp_mono _ Γ m (fun _ _ _ h' => h') (fun e p' s' h' => h'.elim) p s (Wp.iff.mp h Γ p hΓ hc)
theorem Wp.eq {t t' : Sem α} {Q : α → Shared → Prop} (e : t = t') (h : Wp w A t' Q E s) : Wp w A t Q E s := e ▸ h
theorem Wp.val {t : Sem α} {a : α} {Q : α → Shared → Prop} (e : t = Pure.pure a) (h : Q a s) : Wp w A t Q E s := e ▸ Wp.pure h
theorem Cd.mono {c : Code} {R R' : Result → Shared → Prop} (h : Cd w A c R s) (hR : ∀ r s, R r s → R' r s) : Cd w A c R' s := Cd.iff.mpr fun Γ p hc hΓ hb => wpCode_mono hR (Cd.iff.mp h Γ p hc hΓ hb)
theorem Wp.run {c : Code} {h : Option Value} {Q : Flow → Shared → Prop} (hc : Cd w (A.mark h) c (fun r s' => match r with | .ok f => Q f s' | .error e => E e s') s) (hnb : h ≠ some byPass := by intro x; cases x) : Wp w A (PySem.run c h) Q E s :=
  Wp.iff.mpr fun Γ p hΓ hb => by rw [Sem.wp_run]; exact Cd.iff.mp hc _ p rfl (hΓ.enter c h p hnb) hb
theorem Wp.runValue {c : Code} {Q : Value → Shared → Prop} (hc : Cd w A c (fun r s' => match r with | .ok (.ret v) => Q v s' | .ok _ => False | .error e => E e s') s) : Wp w A (PySem.runValue c) Q E s :=
  Wp.iff.mpr fun Γ p hΓ hb => by rw [Sem.wp_runValue]; exact Cd.iff.mp hc _ p rfl (hΓ.enter c none p (by intro x; cases x)) hb
theorem Wp.call {f : Value} {pos : List Value} {kw : List (Str × Value)} {Q : Value → Shared → Prop}
    (hc : Cd w A (.call f ⟨pos, kw⟩) (fun r s' => match r with | .ok (.ret v) => Q v s' | .ok _ => False | .error e => E e s') s) : Wp w A (PySem.call f pos kw) Q E s := Wp.runValue hc
theorem Cd.tree {c : Code} {R : Result → Shared → Prop} (hcl : Cln c = true)
    (h : Wp w (A.under c) (denote table c) (fun fin s' => match fin with | .done f => R (.ok f) s' | .again c' => c'.quiet = true ∧ Cd w A c' R s') (fun e s' => R (.error e) s') s) : Cd w A c R s := Cd.iff.mpr fun Γ p hc hΓ hb => by
  rw [wpCode_iff_wp, hc]
  have hall : AllCln ((Γ.code, p) :: Γ.below) := fun x hx => by
    rcases List.mem_cons.mp hx with rfl | hx
    · rw [hc]; exact hcl
    · exact hb x hx
  refine Sem.wp_mono _ Γ _ (fun fin p' s' h' => ?_) (fun _ _ _ h' => h') p s (Wp.iff.mp h Γ p (hc ▸ hΓ.in) hall)
  cases fin with
  | done f => exact h'
  | again c' => exact ⟨h'.1, Cd.iff.mp h'.2 (Γ.goto c') p' rfl (hΓ.goto c') hb⟩
theorem Cd.loop {c : Code} {R : Result → Shared → Prop} (hcl : Cln c = true) (hq : c.quiet = true) (I : Nat → Shared → Prop)
    (turn : ∀ n s, I n s → Wp w (A.under c) (denote table c)
      (fun fin s' => match fin with
        | .done f => R (.ok f) s'
        | .again c' => (c' = c ∧ ∃ m, m < n ∧ I m s') ∨ (c'.quiet = true ∧ Cd w A c' R s')) (fun e s' => R (.error e) s') s)
    (n : Nat) (h : I n s) : Cd w A c R s := by
  induction n using Nat.strongRecOn generalizing s with
  | ind n ih =>
    refine Cd.tree hcl ((turn n s h).mono (fun fin s' hf => ?_) fun _ _ h' => h')
    cases fin with
    | done f => exact hf
    | again c' =>
      rcases hf with ⟨rfl, m, hm, hI⟩ | hf
      · exact ⟨hq, ih m hm hI⟩
      · exact hf

theorem Wp.runOwn {c : Code} {env : Env} {Q : Flow → Shared → Prop} (hc : Cd w A c (fun r s' => match r with | .ok f => Q f s' | .error e => False) s) : Wp w A (PySem.runOwn c env none) Q E s := by
  unfold PySem.runOwn
  exact Wp.onRaise (Wp.run (A := A) (Cd.mono hc fun r s' h => by cases r <;> exact h))

/-- the loops' codes -/
theorem wp_ifn {α : Type} {c : Prop} [Decidable c] {x y : Sem α} {Q : α → Shared → Prop} {E : Value → Shared → Prop} (h : ¬ c) (k : Wp w A y Q E s) : Wp w A (if c then x else y) Q E s := by rw [if_neg h]; exact k
theorem wp_ify {α : Type} {c : Prop} [Decidable c] {x y : Sem α} {Q : α → Shared → Prop} {E : Value → Shared → Prop} (h : c) (k : Wp w A x Q E s) : Wp w A (if c then x else y) Q E s := by rw [if_pos h]; exact k
theorem cd_while {test : Expr} {body orelse : List Stmt} {env : Env} {R : Result → Shared → Prop} (I : Nat → Shared → Prop)
    (turn : ∀ n s, I n s → Wp w A (isTrue test env (eval test env)) (fun b s₂ => if b then Wp w A (execs body env) (fun f s₃ => match f with
        | .next | .cont => ∃ m, m < n ∧ I m s₃
        | .brk => R (.ok .next) s₃
        | .ret v => R (.ok (.ret v)) s₃) NoE s₂ else Wp w A (execs orelse env) (fun f s₃ => R (.ok f) s₃) NoE s₂) NoE s)
    (n : Nat) (h : I n s) : Cd w A (.whileLoop test body orelse env) R s := by
  refine Cd.loop rfl rfl I (fun n s hI => ?_) n h
  show Wp w A ((whileTurn test body orelse env).onRaise (fun x => do noteFrame x env; theTreesLotGoes x)) _ _ s
  refine Wp.onRaise ?_
  unfold whileTurn
  refine Wp.bind ((turn n s hI).imp fun b s₂ h₂ => ?_)
  cases b with
  | false =>
    refine wp_ifn Bool.false_ne_true ?_
    have h₂ : Wp w A (execs orelse env) _ NoE s₂ := h₂
    exact Wp.bind (h₂.imp fun f s₃ h₃ => Wp.pure h₃)
  | true =>
    refine wp_ify rfl ?_
    have h₂ : Wp w A (execs body env) _ NoE s₂ := h₂
    refine Wp.bind (h₂.imp fun f s₃ h₃ => ?_)
    cases f with
    | next => exact Wp.pure (.inl ⟨rfl, h₃⟩)
    | cont => exact Wp.pure (.inl ⟨rfl, h₃⟩)
    | brk => exact Wp.pure h₃
    | ret v => exact Wp.pure h₃
theorem cd_block {stmts : List Stmt} {env : Env} {R : Result → Shared → Prop} (h : Wp w A (execs stmts env) (fun f s' => R (.ok f) s') NoE s) : Cd w A (.block stmts env) R s := by
  refine Cd.tree rfl ?_
  show Wp w A (do return Fin.done (← (execs stmts env).onRaise (fun x => do noteFrame x env; theTreesLotGoes x))) _ _ s
  exact Wp.bind (Wp.onRaise (h.imp fun f s' h' => Wp.pure h'))
theorem cd_for {target : Expr} {it : Value} {body orelse : List Stmt} {env : Env} {R : Result → Shared → Prop} (I : Nat → Shared → Prop)
    (turn : ∀ n s, I n s → Wp w A (pyNext it) (fun r s₁ => match r with
      | none => Wp w A (execs orelse env) (fun f s₃ => R (.ok f) s₃) NoE s₁
      | some v => Wp w A (letOwnedTupleGo target it v) (fun _ s₁' => Wp w A (assign target env v) (fun _ s₂ => Wp w A (execs body env) (fun f s₃ => match f with
          | .next | .cont => ∃ m, m < n ∧ I m s₃
          | .brk => R (.ok .next) s₃
          | .ret v => R (.ok (.ret v)) s₃) NoE s₂) NoE s₁') NoE s₁) NoE s)
    (n : Nat) (h : I n s) : Cd w A (.forLoop target it body orelse env) R s := by
  refine Cd.loop rfl rfl I (fun n s hI => ?_) n h
  show Wp w A ((forTurn target it body orelse env).onRaise (fun x => do noteFrame x env; theTreesLotGoes x)) _ _ s
  refine Wp.onRaise ?_
  unfold forTurn
  refine Wp.bind (Wp.standAt (Wp.bind (Wp.onRaise ((turn n s hI).imp fun r s₁ h₁ => ?_))))
  cases r with
  | none => exact Wp.pure (.inr ⟨rfl, cd_block h₁⟩)
  | some v =>
    refine Wp.bind (h₁.imp fun _ s₁' h₁' => Wp.bind (h₁'.imp fun _ s₂ h₂ => Wp.bind (h₂.imp fun f s₃ h₃ => ?_)))
    cases f with
    | next => exact Wp.pure (.inl ⟨rfl, h₃⟩)
    | cont => exact Wp.pure (.inl ⟨rfl, h₃⟩)
    | brk => exact Wp.pure h₃
    | ret v => exact Wp.pure h₃
theorem cd_func {body : List Stmt} {env : Env} {R : Result → Shared → Prop}
    (h : Wp w (A.deeper env) (execs body env) (fun f s' => R (.ok (.ret (match f with | .ret v => v | _ => .none))) s') NoE s) : Cd w A (.func body env) R s := by
  refine Cd.tree rfl ?_
  show Wp w (A.deeper env) (do point; match ← (execs body env).onRaise (leaving env) with | .ret v => ret v | _ => ret .none) _ _ s
  refine Wp.bind (.of (wpAny_point (Wp.bind (Wp.onRaise (h.imp fun f s' h' => ?_)))))
  cases f <;> exact Wp.pure h'
theorem cd_call_function {a : Addr} {args : Args} {o : Obj} {fd : FuncData} {body : List Stmt} {R : Result → Shared → Prop} (hroom : A.depth < recursionLimit)
    (ho : s.heap.get? a = some o) (hd' : o.data = .func fd) (hco : fd.scope.isCoroutine = false) (hgen : fd.scope.isGenerator = false) (hbody : fd.body = .stmts body) (hcd : s.heap.CodeRec fd.code fd.qualname)
    (h : Wp w A.in1 (bindArgs fd args) (fun binds s₁ =>
      Wp w A.in1 (newFunctionEnv fd.scope fd.globals fd.closure binds (fd.qualname ++ ".<locals>.") (some a) fd.code none fd.builtins)
        (fun env s₂ => s₂.heap.NoLimit ∧ Cd w A (.func body env) R s₂) (fun e s' => R (.error e) s') s₁) (fun e s' => R (.error e) s') s) :
    Cd w A (.call (.ref a) args) R s := by
  refine Cd.tree rfl ?_
  show Wp w A.in1 (callAny (.ref a) args) _ _ s
  unfold callAny
  dsimp only
  refine Wp.bind (.of (wpAny_load ho ?_))
  obtain ⟨c, oc, vs, tq, hc, hoc, hdc, hq⟩ := hcd
  rw [hd']
  dsimp only
  unfold callFunction
  rw [hco, hgen, hbody, hc]
  dsimp only
  rw [hc] at h
  refine Wp.bind (m := field (.ref c) 1) (.of (wpAny_field hoc hdc hq (Wp.bind (Wp.pure ?_))))
  exact Wp.bind (h.imp fun binds s₁ h₁ => Wp.bind (h₁.imp fun env s₂ h₂ => Wp.bind (.of (wpAny_enterFrame h₂.1 hroom (Wp.pure (And.intro rfl h₂.2))))))
end
end
/-! MR -/
section

structure En (env : Env) (L : Addr) (nl : List Str) : Prop where
  loc : env.locals = L
  kind : env.scope.kind = .function
  nm : ∀ x ∈ nl, env.kindOf x = some .local ∧ (x == ("__debug__" : Str)) = false
  glob : env.globals = mainGlobals
  blt : env.builtins = builtinsNs

section
variable {w : World} {A : Around} {E : Value → Shared → Prop} {g : Gd} {s₀ s : Shared} {ms : List Addr} {os os' : Os} {env : Env} {L : Addr} {nl : List Str} {vs vs' : List (Option Value)}

theorem St.ns (F : St g s₀ ms ((L, .ns nl vs) :: os) s) : ∃ m, s.heap.Ns L m ∧ ∀ x v, At2 nl vs x v → m x = some v := (F.at _ (.head _)).2

theorem e_loc {x : Str} {p : Pos} {v : Value} {Q : Value → Shared → Prop} (F : St g s₀ ms ((L, .ns nl vs) :: os) s) (e : En env L nl) (h : At2 nl vs x v) (q : Q v s) : Wp w A (eval (.Name x p) env) Q E s := by
  refine .of ?_
  obtain ⟨m, hn, hm⟩ := F.ns
  exact wpAny_Name (wpAny_loadName_local e.kind (e.nm x h.mem).1 (e.loc ▸ hn) (hm _ _ h) q) (e.nm x h.mem).2
theorem e_ldn {x : Str} {v : Value} {Q : Value → Shared → Prop} (F : St g s₀ ms ((L, .ns nl vs) :: os) s) (e : En env L nl) (h : At2 nl vs x v) (q : Q v s) : Wp w A (loadName env x) Q E s := by
  refine .of ?_
  obtain ⟨m, hn, hm⟩ := F.ns
  exact wpAny_loadName_local e.kind (e.nm x h.mem).1 (e.loc ▸ hn) (hm _ _ h) q
theorem e_glo {x : Str} {p : Pos} {v : Value} {Q : Value → Shared → Prop} (F : St g s₀ ms os s) (e : En env L nl) (hk : env.kindOf x = some .globalImplicit) (hd : (x == ("__debug__" : Str)) = false) (hv : g.mg x = some v) (q : Q v s) : Wp w A (eval (.Name x p) env) Q E s := .of (Calls.Name_function_global e.kind hk (Calls.loadGlobal_global (e.glob ▸ F.inv.ns F.inv.ok.gl) hv q) hd)
theorem e_blt {x : Str} {p : Pos} {v : Value} {Q : Value → Shared → Prop} (F : St g s₀ ms os s) (e : En env L nl) (hk : env.kindOf x = some .globalImplicit) (hd : (x == ("__debug__" : Str)) = false) (hn : g.mg x = none) (hv : g.mb x = some v) (q : Q v s) : Wp w A (eval (.Name x p) env) Q E s := .of (Calls.Name_function_global e.kind hk (Calls.loadGlobal_builtin (e.glob ▸ F.inv.ns F.inv.ok.gl) hn (e.blt ▸ F.inv.ns F.inv.ok.bl) hv q) hd)

theorem s_loc {x : Str} {v : Value} {Q : Unit → Shared → Prop} (F : St g s₀ ms ((L, .ns nl vs) :: os) s) (e : En env L nl) (hu : Up2 nl vs x v vs') (h : ∀ s', St g s₀ ms ((L, .ns nl vs') :: os) s' → Q () s') : Wp w A (storeName env x v) Q E s := by
  refine .of ?_
  obtain ⟨m, hn, hm⟩ := F.ns
  have hN : nl.Nodup := (F.at _ (.head _)).1
  refine wpAny_storeName_local (e.nm x hu.mem).1 (e.loc ▸ hn) (fun h' hn' hs' => ?_) (by rw [e.kind]; rfl)
  rw [e.loc] at hn' hs'
  refine h _ (F.update (k' := .ns nl vs') .here hs' ⟨hN, _, hn', fun y u hy => ?_⟩ rfl rfl)
  rcases hu.at hN hy with ⟨rfl, rfl⟩ | ⟨hne, hy'⟩
  · exact if_pos rfl
  · show (if y = x then some v else m y) = some u
    rw [if_neg hne]; exact hm _ _ hy'

/-- how the pieces of a body go on: words that no tactic copies -/
@[reducible] noncomputable def Nx (K : Flow → Shared → Prop) (N : Shared → Prop) : Flow → Shared → Prop := fun f s => match f with | .next => N s | f => K f s
@[reducible] noncomputable def Nj (J : Shared → Prop) : Flow → Shared → Prop := fun f s => f = .next ∧ J s
@[reducible] noncomputable def Lp (J B : Shared → Prop) (Q : Flow → Shared → Prop) : Flow → Shared → Prop := fun f s => match f with | .next | .cont => J s | .brk => B s | .ret v => Q (.ret v) s
@[reducible] noncomputable def Rf (J : Value → Shared → Prop) : Flow → Shared → Prop := fun f s => J (match f with | .ret v => v | _ => .none) s

theorem x_nil {Q : Flow → Shared → Prop} (h : Q .next s) : Wp w A (execs [] env) Q E s := .of (wpAny_execs_nil h)
theorem x_as {x : Str} {p' pos : Pos} {value : Expr} {rest : List Stmt} {Q : Flow → Shared → Prop} (h : Wp w A (eval value env) (fun v s₁ => Wp w A (storeName env x v) (fun _ s₂ => Wp w A (execs rest env) Q E s₂) E s₁) E s)
    (hs : autoParam (swapsWith value (some (.Name x p')) pos.line env = pure false) tRfl) : Wp w A (execs (.Assign [.Name x p'] value pos :: rest) env) Q E s := by
  rw [execs_cons, exec_Assign_Name env x p' value pos hs]
  refine Wp.bind (Wp.bind (Wp.standAt (Wp.bind (h.imp fun v s₁ h₁ => Wp.bind (Wp.standAt (Wp.bind ?_))))))
  exact Wp.bindName (h₁.imp fun _ s₂ h₂ => Wp.pure h₂)
/-- a branch that is known -/
theorem br_y {c : Bool} {body orelse : List Stmt} {Q : Flow → Shared → Prop} (h : c = true) (k : Wp w A (execs body env) Q E s) : Wp w A (execs (if c then body else orelse) env) Q E s := by subst h; exact k
theorem br_n {c : Bool} {body orelse : List Stmt} {Q : Flow → Shared → Prop} (h : c = false) (k : Wp w A (execs orelse env) Q E s) : Wp w A (execs (if c then body else orelse) env) Q E s := by subst h; exact k
theorem if_y {c : Bool} {p q : Prop} (h : c = true) (k : p) : if c then p else q := by subst h; exact k
theorem if_n {c : Bool} {p q : Prop} (h : c = false) (k : q) : if c then p else q := by subst h; exact k
theorem x_asub {o i : Expr} {p' pos : Pos} {value : Expr} {rest : List Stmt} {Q : Flow → Shared → Prop} (h : Wp w A (eval value env) (fun v s₁ => Wp w A (eval o env) (fun ov s₂ => Wp w A (eval i env) (fun iv s₃ => Wp w A (setItem ov iv v) (fun _ s₄ => Wp w A (execs rest env) Q E s₄) E s₃) E s₂) E s₁) E s)
    (hs : autoParam (swapsWith value (some (.Subscript o i p')) pos.line env = pure false) tRfl) : Wp w A (execs (.Assign [.Subscript o i p'] value pos :: rest) env) Q E s := by
  rw [execs_cons, exec_Assign_Subscript o i p' value pos hs]
  refine Wp.bind (Wp.bind (Wp.standAt (Wp.bind (h.imp fun v s₁ h₁ => Wp.bind ?_))))
  rw [assign_Subscript]
  refine Wp.bind (Wp.holding (h₁.imp fun ov s₂ h₂ => Wp.bind (Wp.holding (h₂.imp fun iv s₃ h₃ => Wp.bind (Wp.standAt (Wp.bind (Wp.holding (h₃.imp fun _ s₄ h₄ => Wp.release (Wp.pure h₄)))))))))
theorem x_aug {x : Str} {p' pos : Pos} {op : Operator} {value : Expr} {rest : List Stmt} {Q : Flow → Shared → Prop} (h : Wp w A (loadName env x) (fun old s₁ => Wp w A (eval value env) (fun v s₂ => Wp w A (inplaceOp op old v) (fun r s₃ => Wp w A (storeName env x r) (fun _ s₄ => Wp w A (execs rest env) Q E s₄) E s₃) E s₂) E s₁) E s) :
    Wp w A (execs (.AugAssign (.Name x p') op value pos :: rest) env) Q E s := by
  rw [execs_cons, exec_AugAssign_Name]
  exact Wp.bind (Wp.bind (Wp.standAt (Wp.bind (h.imp fun old s₁ h₁ => Wp.bind (Wp.holding (h₁.imp fun v s₂ h₂ => Wp.bind (Wp.standAt (Wp.bind (Wp.operate (h₂.imp fun r s₃ h₃ => Wp.bind (Wp.standAt (Wp.bind (Wp.bindName (h₃.imp fun _ s₄ h₄ => Wp.pure h₄))))))))))))))
theorem x_if {test : Expr} {body orelse rest : List Stmt} {pos : Pos} {Q : Flow → Shared → Prop}
    (h : Wp w A (isTrue test env (eval test env)) (fun b s₁ => Wp w A (execs (if b then body else orelse) env) (Nx Q fun s₂ => Wp w A (execs rest env) Q E s₂) E s₁) E s) :
    Wp w A (execs (.If test body orelse pos :: rest) env) Q E s := by
  rw [execs_cons, exec_If]
  refine Wp.bind (Wp.bind (Wp.standAt (Wp.bind (h.imp fun b s₁ h₁ => ?_))))
  cases b <;> exact h₁.imp fun f s₂ h₂ => by cases f <;> first | exact h₂ | exact Wp.pure h₂
/-- an if whose ways meet -/
theorem x_ifm {test : Expr} {body orelse rest : List Stmt} {pos : Pos} {Q : Flow → Shared → Prop} (P : Shared → Prop)
    (h : ∀ J : Shared → Prop, (∀ s, P s → J s) → Wp w A (isTrue test env (eval test env)) (fun b s₁ => Wp w A (execs (if b then body else orelse) env) (Nj J) E s₁) E s)
    (k : ∀ s₂, P s₂ → Wp w A (execs rest env) Q E s₂) : Wp w A (execs (.If test body orelse pos :: rest) env) Q E s := by
  exact x_if ((h P fun _ x => x).mono (fun b s₁ h₁ => h₁.mono (fun f s₂ ⟨e, hp⟩ => by subst e; exact k s₂ hp) fun _ _ x => x) fun _ _ x => x)
theorem x_cont {rest : List Stmt} {pos : Pos} {Q : Flow → Shared → Prop} (h : Q .cont s) : Wp w A (execs (.Continue pos :: rest) env) Q E s := .of (wpAny_execs_cons (wpAny_Continue h))
theorem x_brk {rest : List Stmt} {pos : Pos} {Q : Flow → Shared → Prop} (h : Q .brk s) : Wp w A (execs (.Break pos :: rest) env) Q E s := .of (wpAny_execs_cons (wpAny_Break h))
theorem x_ret {e : Expr} {rest : List Stmt} {pos : Pos} {Q : Flow → Shared → Prop} (h : Wp w A (eval e env) (fun v => Q (.ret v)) E s) : Wp w A (execs (.Return (some e) pos :: rest) env) Q E s := by
  rw [execs_cons, exec_Return_some]
  exact Wp.bind (Wp.bind (Wp.standAt (Wp.bind (h.imp fun v s₁ h₁ => Wp.pure (Wp.pure h₁)))))
theorem x_expr {e : Expr} {rest : List Stmt} {pos : Pos} {Q : Flow → Shared → Prop} (h : Wp w A (eval e env) (fun _ s₁ => Wp w A (execs rest env) Q E s₁) E s)
    (hi : autoParam (interactive env = false) tRfl) (hs : autoParam (swapsWith e none pos.line env = pure false) tRfl) : Wp w A (execs (.Expr e pos :: rest) env) Q E s := by
  rw [execs_cons, exec_Expr env e pos hi hs]
  exact Wp.bind (Wp.bind (Wp.standAt (Wp.bind (h.imp fun v s₁ h₁ => .of (wpAny_dropValue h₁)))))
/-- a while that raises nothing -/
theorem x_while {test : Expr} {body rest : List Stmt} {pos : Pos} {Q : Flow → Shared → Prop} (I : Nat → Shared → Prop) (n : Nat) (h : I n s)
    (turn : ∀ n s, I n s → ∀ J : Shared → Prop, (∀ m s₃, m < n → I m s₃ → J s₃) → Wp w A (isTrue test env (eval test env)) (fun b s₂ => if b then Wp w A (execs body env) (Lp J (fun s₃ => Wp w A (execs rest env) Q E s₃) Q) NoE s₂ else Wp w A (execs rest env) Q E s₂) NoE s) :
    Wp w A (execs (.While test body [] pos :: rest) env) Q E s := by
  rw [execs_cons, exec_While]
  refine Wp.bind (Wp.bind (Wp.standAt (Wp.runOwn (cd_while I (fun n s hI => (turn n s hI (fun s₃ => ∃ m, m < n ∧ I m s₃) fun m _ h1 h2 => ⟨m, h1, h2⟩).imp fun b s₂ h₂ => ?_) n h))))
  cases b with
  | true => exact h₂.imp fun f s₃ h₃ => by cases f <;> first | exact h₃ | exact Wp.pure h₃
  | false => exact x_nil h₂
theorem t_cmp {l r : Expr} {op : CmpOp} {pos : Pos} {whole : Sem Value} {Q : Bool → Shared → Prop}
    (h : Wp w A (eval l env) (fun a s₁ => Wp w A (eval r env) (fun b s₂ => Wp w A (compareOp op a b) (fun c s₃ => Wp w A (truthy c) Q E s₃) E s₂) E s₁) E s)
    (hm : autoParam (behindInMarks op r = false) tWrfl) : Wp w A (isTrue (.Compare l [op] [r] pos) env whole) Q E s := by
  rw [isTrue_Compare1, markedBehindIn_of_false hm]
  exact Wp.bind (h.imp fun a s₁ h₁ => Wp.bind (Wp.holding (h₁.imp fun b s₂ h₂ => Wp.bind (Wp.standAt (Wp.bind (Wp.operate (h₂.imp fun c s₃ h₃ => Wp.holding h₃)))))))
theorem e_bin {l r : Expr} {op : Operator} {pos : Pos} {Q : Value → Shared → Prop} (h : Wp w A (eval l env) (fun a s₁ => Wp w A (eval r env) (fun b s₂ => Wp w A (binaryOp op a b) Q E s₂) E s₁) E s) : Wp w A (eval (.BinOp l op r pos) env) Q E s := by
  rw [eval_BinOp]
  exact Wp.bind (h.imp fun a s₁ h₁ => Wp.bind (Wp.holding (h₁.imp fun b s₂ h₂ => Wp.bind (Wp.standAt (Wp.operate h₂)))))
theorem e_int {i : Int} {k : Nat} {pos : Pos} {Q : Value → Shared → Prop} (F : St g s₀ ms os s) (h : ∀ t s', St g s₀ ms os s' → Q (.int i t) s') : Wp w A (eval (.Constant (.int i) k pos) env) Q E s := .of (wpAny_Constant_int (h _ _ (F.tick _)))
theorem e_str {x : Str} {k : Nat} {pos : Pos} {Q : Value → Shared → Prop} (F : St g s₀ ms os s) (h : ∀ t s', St g s₀ ms os s' → Q (.str x t) s') : Wp w A (eval (.Constant (.str x) k pos) env) Q E s := .of (wpAny_Constant_str (h _ _ (F.tick _)))

theorem b_add {a b : Int} {t u : Tok} {Q : Value → Shared → Prop} (F : St g s₀ ms os s) (h : ∀ t s', St g s₀ ms os s' → Q (.int (a + b) t) s') : Wp w A (binaryOp .Add (.int a t) (.int b u)) Q E s := .of (wpAny_add_int (h _ _ (F.tick _)))
theorem b_sub {a b : Int} {t u : Tok} {Q : Value → Shared → Prop} (F : St g s₀ ms os s) (h : ∀ t s', St g s₀ ms os s' → Q (.int (a - b) t) s') : Wp w A (binaryOp .Sub (.int a t) (.int b u)) Q E s := .of (sub_int (h _ _ (F.tick _)))
theorem b_mul {a b : Int} {t u : Tok} {Q : Value → Shared → Prop} (F : St g s₀ ms os s) (h : ∀ t s', St g s₀ ms os s' → Q (.int (a * b) t) s') (hm : IntMulOk a b := by mul_fits) : Wp w A (binaryOp .Mult (.int a t) (.int b u)) Q E s := .of (mul_int (h _ _ (F.tick _)) hm)
theorem b_mod {a b : Int} {t u : Tok} {Q : Value → Shared → Prop} (F : St g s₀ ms os s) (hb : b ≠ 0) (h : ∀ t s', St g s₀ ms os s' → Q (.int (a.fmod b) t) s') : Wp w A (binaryOp .Mod (.int a t) (.int b u)) Q E s := .of (mod_int' hb (h _ _ (F.tick _)))
theorem b_shr1 {a : Int} {t u : Tok} {Q : Value → Shared → Prop} (F : St g s₀ ms os s) (h0 : 0 ≤ a) (h : ∀ t s', St g s₀ ms os s' → Q (.int (a / 2) t) s') : Wp w A (binaryOp .RShift (.int a t) (.int 1 u)) Q E s := .of (wpAny_rshift1_int h0 (h _ _ (F.tick _)))
theorem i_add {a b : Int} {t u : Tok} {Q : Value → Shared → Prop} (F : St g s₀ ms os s) (h : ∀ t s', St g s₀ ms os s' → Q (.int (a + b) t) s') : Wp w A (inplaceOp .Add (.int a t) (.int b u)) Q E s := .of (wpAny_iadd_int (h _ _ (F.tick _)))
theorem c_lt {a b : Int} {t u : Tok} {Q : Bool → Shared → Prop} (h : Q (decide (a < b)) s) : Wp w A (compareOp .Lt (.int a t) (.int b u)) (fun c s₃ => Wp w A (truthy c) Q E s₃) E s := .of (wpAny_lt_int (.of (wpAny_truthy_bool h)))
theorem c_gt {a b : Int} {t u : Tok} {Q : Bool → Shared → Prop} (h : Q (decide (b < a)) s) : Wp w A (compareOp .Gt (.int a t) (.int b u)) (fun c s₃ => Wp w A (truthy c) Q E s₃) E s := .of (gt_int (.of (wpAny_truthy_bool h)))
theorem t_and {x y : Expr} {pos : Pos} {whole : Sem Value} {Q : Bool → Shared → Prop} (h : Wp w A (isTrue x env (eval x env)) (fun b s₁ => if b then Wp w A (isTrue y env (eval y env)) Q E s₁ else Q false s₁) E s) : Wp w A (isTrue (.BoolOp .And [x, y] pos) env whole) Q E s := by
  rw [arm_isTrue_BoolOp]
  show Wp w A (do match BoolOp.And, ← isTrue x env (eval x env) with | .And, false => pure false | .Or, true => pure true | _, _ => allTrue .And [y] env) Q E s
  refine Wp.bind (h.imp fun b s₁ h₁ => ?_)
  cases b with
  | false => exact Wp.pure h₁
  | true =>
    show Wp w A (do match BoolOp.And, ← isTrue y env (eval y env) with | .And, false => pure false | .Or, true => pure true | _, _ => allTrue .And [] env) Q E s₁
    exact Wp.bind (h₁.imp fun b s₂ h₂ => by cases b <;> exact Wp.pure h₂)
theorem t_or {x y : Expr} {pos : Pos} {whole : Sem Value} {Q : Bool → Shared → Prop} (h : Wp w A (isTrue x env (eval x env)) (fun b s₁ => if b then Q true s₁ else Wp w A (isTrue y env (eval y env)) Q E s₁) E s) : Wp w A (isTrue (.BoolOp .Or [x, y] pos) env whole) Q E s := by
  rw [arm_isTrue_BoolOp]
  show Wp w A (do match BoolOp.Or, ← isTrue x env (eval x env) with | .And, false => pure false | .Or, true => pure true | _, _ => allTrue .Or [y] env) Q E s
  refine Wp.bind (h.imp fun b s₁ h₁ => ?_)
  cases b with
  | true => exact Wp.pure h₁
  | false =>
    show Wp w A (do match BoolOp.Or, ← isTrue y env (eval y env) with | .And, false => pure false | .Or, true => pure true | _, _ => allTrue .Or [] env) Q E s₁
    exact Wp.bind (h₁.imp fun b s₂ h₂ => by cases b <;> exact Wp.pure h₂)
theorem t_not {x : Expr} {pos : Pos} {whole : Sem Value} {Q : Bool → Shared → Prop} (h : Wp w A (isTrue x env (eval x env)) (fun b s₁ => Q (!b) s₁) E s) : Wp w A (isTrue (.UnaryOp .Not x pos) env whole) Q E s := by
  rw [arm_isTrue_UnaryOp]
  exact Wp.bind (h.imp fun b s₁ h₁ => Wp.pure h₁)
theorem t_val {e : Expr} {whole : Sem Value} {Q : Bool → Shared → Prop} (h : Wp w A whole (fun v s₁ => Wp w A (truthy v) Q E s₁) E s) (he : autoParam (isTrue e env whole = (do let v ← whole; standAt e.pos; holding [v] (truthy v))) tRfl) : Wp w A (isTrue e env whole) Q E s := by
  rw [he]
  exact Wp.bind (h.imp fun v s₁ h₁ => Wp.bind (Wp.standAt (Wp.holding h₁)))
theorem c_eq {a b : Int} {t u : Tok} {Q : Bool → Shared → Prop} (h : Q (a == b) s) : Wp w A (compareOp .Eq (.int a t) (.int b u)) (fun c s₃ => Wp w A (truthy c) Q E s₃) E s := .of (wpAny_eq_int (.of (wpAny_truthy_bool h)))
noncomputable def SubOn (w : World) (A : Around) (o i : Value) (Q : Value → Shared → Prop) (E : Value → Shared → Prop) (s : Shared) : Prop :=
  ∃ T id, typeLookup (.type T) "__getitem__" = pure (some (.builtin id)) ∧ s.TypeIs o T ∧ Wp w A (getItem o i) Q E s
/-- a subscript, its way of taking found late -/
theorem e_sub {value slice : Expr} {pos : Pos} {Q : Value → Shared → Prop}
    (h : Wp w A (eval value env) (fun o s₁ => Wp w A (eval slice env) (fun i s₂ => SubOn w A o i Q E s₂) E s₁) E s)
    (hs : autoParam (∀ o i, subscripted slice false o i = operate [o, i] (getItem o i)) tIIrfl)
 : Wp w A (eval (.Subscript value slice pos) env) Q E s := by
  rw [eval_Subscript]
  refine Wp.bind (h.imp fun o s₁ h₁ => Wp.bind (Wp.holding (h₁.imp fun i s₂ h₂ => Wp.bind (Wp.standAt ?_))))
  obtain ⟨T, id, hl, hT, hg⟩ := h₂
  rw [getitemInPython_of_ne hT.not_modules]
  have fin : Wp w A (subscripted slice false o i) (fun r s₃ => Wp w A (letTemporaryGo value o r >>= fun _ => pure r) Q E s₃) E s₂ := by
    rw [hs]
    exact Wp.operate (hg.imp fun r s₃ h₃ => Wp.bind (.of (wpAny_letTemporaryGo (Wp.pure h₃))))
  exact Wp.bind (Wp.bind (.of (wpAny_specialOf hT hl (Wp.pure (Wp.bind fin)))))
theorem listO_is {h : Heap} {a : Addr} {l : List Value} {n : Nat} (e : h.get? a = some (listO l n)) : h.IsList a l.toArray := ⟨_, e, rfl, n, rfl⟩
theorem ix_of {xs : List Int} {k : Int} (h0 : 0 ≤ k) (hk : k < xs.length) : xs[k.toNat]? = some (xs.getD k.toNat 0) := by
  have : k.toNat < xs.length := (Int.toNat_lt h0).mpr hk
  simp [this]
theorem sub_ints {l : Addr} {k : Int} {u : Tok} {xs : List Int} {Q : Value → Shared → Prop} (F : St g s₀ ms os s) (hm : Mem os l (.ints xs)) (h0 : 0 ≤ k) (hk : k < xs.length) (hz : xs.length < 2 ^ 62) (h : ∀ t, Q (.int (xs.getD k.toNat 0) t) s) : SubOn w A (.ref l) (.int k u) Q E s := by
  obtain ⟨l', n, ho, hi⟩ := F.mem hm
  obtain ⟨t, ht⟩ := hi.get (ix_of h0 hk)
  have hl := listO_is ho
  exact ⟨"list", "list.__getitem__", slot_list_getitem.lookup, hl.typeIs, .of (wpAny_getItem_list hl h0 (by lia) (by simpa using ht) (h t))⟩
/-- my own: the object stays a plain list -/
theorem set_list {l : Addr} {items : List Value} {n : Nat} {k : Int} {t : Tok} {v : Value} {Q : Unit → Shared → Prop} (ho : s.heap.get? l = some (listO items n))
    (h0 : 0 ≤ k) (hfit : k < 2 ^ 63) (hn : k < items.length)
    (hQ : ∀ h', (∃ n', h'.get? l = some (listO (items.set k.toNat v) n')) → Heap.SameBut l s.heap h' → Q () { s with heap := h' }) :
    Wp w A (setItem (.ref l) (.int k t) v) Q E s := by
  refine .of ?_
  have hl := listO_is ho
  unfold setItem
  refine wpAny_holding ?_
  refine wpAny_bind (wpAny_sequenceKey hl.typeIs (by decide) ?_)
  refine wpAny_bind (wpAny_callSpecial?_slot (name := Str.ofString "__setitem__") hl.typeIs slot_list_setitem
    (wpAny_call_entry slot_list_setitem hl.typeIs entry_list_setitem ?_ (args_list_setitem _ _ _)))
  show wpAny _ _ (Builtin.List.listSubscript? (.int k t) >>= _) _ _ s
  refine wpAny_bind (wpAny_listSubscript_int (fitsIndex_of h0 hfit) ?_)
  clear hfit
  obtain ⟨j, rfl⟩ := Int.eq_ofNat_of_zero_le h0
  have hj : j < items.toArray.size := by simp; lia
  have hx' : items.toArray[j]? = some items.toArray[j] := Array.getElem?_eq_getElem hj
  show wpAny _ _ ((seqItemAt l j >>= fun r => pure (r.map (j, ·))) >>= _) _ _ s
  refine wpAny_bind (wpAny_bind (wpAny_seqItemAt ho rfl (wpAny_pure ?_)))
  rw [hx']
  show wpAny _ _ (setSeqItemAt l j v >>= _) _ _ s
  have e : Obj.mapSeq (·.setIfInBounds j v) (listO items n) = listO (items.set j v) n := by
    simp [Obj.mapSeq, listO]
  have hfin : (s.heap.update l (Obj.mapSeq (·.setIfInBounds j v))).get? l = some (listO (items.set j v) n) := by
    rw [← e]
    exact Heap.get?_update_self _ ho (by rw [e]; rfl)
  refine wpAny_bind (wpAny_setSeqItemAt ho rfl ?_)
  first
    | exact wpAny_bind (wpAny_pure (wpAny_pure ⟨.none, rfl, wpAny_pure (hQ _ ⟨_, hfin⟩ (Heap.SameBut.update ..))⟩))
    | exact wpAny_pure ⟨.none, rfl, wpAny_pure (hQ _ ⟨_, hfin⟩ (Heap.SameBut.update ..))⟩
theorem set_ints {l : Addr} {k x : Int} {u t : Tok} {xs : List Int} {Q : Unit → Shared → Prop} (F : St g s₀ ms os s) (hu : Up os l (.ints xs) (.ints (xs.set k.toNat x)) os') (h0 : 0 ≤ k) (hk : k < xs.length) (hz : xs.length < 2 ^ 62) (h : ∀ s', St g s₀ ms os' s' → Q () s') : Wp w A (setItem (.ref l) (.int k u) (.int x t)) Q E s := by
  obtain ⟨l', n, ho, hi⟩ := F.at _ hu.mem
  refine set_list ho h0 (by lia) (by rw [hi.length]; exact hk) fun h' ⟨n', e⟩ hs => h _ (F.update hu hs ⟨_, n', e, hi.set _ ⟨t, rfl⟩⟩ rfl rfl)

/-! calls -/
noncomputable def Cbl (s : Shared) : Value → Prop
  | .builtin _ => True
  | .type _ => True
  | .ref a => ∃ o, s.heap.get? a = some o ∧ ((∃ fd, o.data = .func fd) ∨ (o.cls = .type "builtin_function_or_method" ∧ ∃ vs, o.data = .fields vs))
  | _ => False
/-- what is asked of a call: the callee is one of the kinds, the call goes through -/
noncomputable def Cw (w : World) (A : Around) (fv : Value) (args : List Value) (Q : Value → Shared → Prop) (E : Value → Shared → Prop) (s : Shared) : Prop := Cbl s fv ∧ Wp w A (call fv args) Q E s

theorem cw_any {pos : Pos} {fv : Value} {first : List Value} {args : List (Bool × Sem Value)} {Q : Value → Shared → Prop} (hplain : args.any (·.1) = false) (hlen : args.length ≤ 15)
    (h : Wp w A (evalArgs fv true args []) (fun a s₁ => a.kw = [] ∧ Cw w A fv (first ++ a.pos) Q E s₁) E s) : Wp w A (callWith pos fv first args []) Q E s := by
  unfold callWith
  refine Wp.bind (Wp.holding (h.imp fun a s₁ h₁ => Wp.bind (Wp.standAt ?_)))
  obtain ⟨hkw, hc, hq⟩ := h₁
  obtain ⟨ap, akw⟩ := a
  dsimp only at hkw hq ⊢
  subst hkw
  have tail : ∀ {t : Sem Value}, Wp w A t Q E s₁ → Wp w A (t >>= fun r => holding [r] point >>= fun _ => pure r) Q E s₁ :=
    fun ht => Wp.bind (ht.imp fun r s₂ hr => Wp.bind (Wp.holding (.of (wpAny_point (Wp.pure hr)))))
  rw [hplain]
  cases fv with
  | builtin id => exact Wp.bind (m := keeperOf _) (Wp.pure (tail hq))
  | type id => exact Wp.bind (m := keeperOf _) (Wp.pure (tail hq))
  | ref a =>
    obtain ⟨o, ho, hk⟩ := hc
    refine Wp.bind (m := keeperOf (.ref a)) ?_
    unfold keeperOf
    refine Wp.bind (.of (wpAny_load ho ?_))
    rcases hk with ⟨fd, hd⟩ | ⟨hcl, vs, hd⟩
    · rw [hd]
      refine Wp.pure ?_
      show Wp w A (if args.length + 2 * ([] : List (Option Str × Sem Value)).length > 30 then _ else _) Q E s₁
      rw [if_neg (by simp; lia)]
      exact tail (by unfold callMarked; exact Wp.keep hq)
    · rw [hd]
      show Wp w A (if (o.cls != .type "method") = true then _ else _) _ E s₁
      rw [hcl, if_pos (by decide)]
      exact Wp.pure (tail hq)
  | none => exact hc.elim
  | ellipsis => exact hc.elim
  | notImplemented => exact hc.elim
  | bool b => exact hc.elim
  | int i t => exact hc.elim
  | float i t => exact hc.elim
  | str i t => exact hc.elim
  | bytes i t => exact hc.elim
theorem ev_nil {Q : List Value → Shared → Prop} (h : Q [] s) : Wp w A (spliced []) Q E s := Wp.pure h
theorem ev_cons {x : Sem Value} {rest : List (Bool × Sem Value)} {Q : List Value → Shared → Prop}
    (h : Wp w A x (fun v s₁ => Wp w A (spliced rest) (fun vs s₂ => Q (v :: vs) s₂) E s₁) E s) : Wp w A (spliced ((false, x) :: rest)) Q E s := by
  rw [spliced]
  refine Wp.bind (h.imp fun v s₁ h₁ => ?_)
  simp only [Bool.false_eq_true, if_false]
  exact Wp.bind (Wp.pure (Wp.bind (Wp.holding (h₁.imp fun vs s₂ h₂ => Wp.pure h₂))))
theorem ev_plain {f : Value} {x : Sem Value} {rest : List (Bool × Sem Value)} {Q : Args → Shared → Prop}
    (h : Wp w A (spliced ((false, x) :: rest)) (fun vs s' => Q ⟨vs, []⟩ s') E s) : Wp w A (evalArgs f true ((false, x) :: rest) []) Q E s := by
  unfold evalArgs
  show Wp w A (spliced ((false, x) :: rest) >>= _) Q E s
  refine Wp.bind (h.imp fun vs s' h' => ?_)
  refine Wp.holding ?_
  exact Wp.bind (Wp.pure (Wp.bind (Wp.pure (Wp.pure h'))))
theorem e_call0 {f : Str} {p pos : Pos} {Q : Value → Shared → Prop} (h : Wp w A (eval (.Name f p) env) (fun fv s₁ => Cw w A fv [] Q E s₁) E s) :
    Wp w A (eval (.Call (.Name f p) [] [] pos) env) Q E s := by
  show Wp w A (do callWith pos (← eval (.Name f p) env) [] (backTo pos (starEach [] env)) (backToKw pos (keywordEach [] env))) Q E s
  exact Wp.bind (h.imp fun fv s₁ h₁ => cw_any (args := []) rfl (by simp) (.of (PySem.evalArgs_none ⟨rfl, by simpa using h₁⟩)))
theorem e_call1 {f : Str} {p pos : Pos} {e1 : Expr} {Q : Value → Shared → Prop} (h : Wp w A (eval (.Name f p) env) (fun fv s₁ => Wp w A (eval e1 env) (fun v1 s₂ => Cw w A fv [v1] Q E s₂) E s₁) E s)
    (hs : autoParam (backTo pos (starEach [e1] env) = [(false, eval e1 env)]) tRfl) :
    Wp w A (eval (.Call (.Name f p) [e1] [] pos) env) Q E s := by
  show Wp w A (do callWith pos (← eval (.Name f p) env) [] (backTo pos (starEach [e1] env)) (backToKw pos (keywordEach [] env))) Q E s
  rw [hs]
  exact Wp.bind (h.imp fun fv s₁ h₁ => cw_any rfl (by simp) (ev_plain (ev_cons (h₁.imp fun v1 s₂ h₂ => ev_nil ⟨rfl, by simpa using h₂⟩))))
theorem e_call2 {f : Str} {p pos : Pos} {e1 e2 : Expr} {Q : Value → Shared → Prop} (h : Wp w A (eval (.Name f p) env) (fun fv s₁ => Wp w A (eval e1 env) (fun v1 s₂ => Wp w A (eval e2 env) (fun v2 s₃ => Cw w A fv [v1, v2] Q E s₃) E s₂) E s₁) E s)
    (hs : autoParam (backTo pos (starEach [e1, e2] env) = [(false, eval e1 env), (false, eval e2 env)]) tRfl) :
    Wp w A (eval (.Call (.Name f p) [e1, e2] [] pos) env) Q E s := by
  show Wp w A (do callWith pos (← eval (.Name f p) env) [] (backTo pos (starEach [e1, e2] env)) (backToKw pos (keywordEach [] env))) Q E s
  rw [hs]
  exact Wp.bind (h.imp fun fv s₁ h₁ => cw_any rfl (by simp) (ev_plain (ev_cons (h₁.imp fun v1 s₂ h₂ => ev_cons (h₂.imp fun v2 s₃ h₃ => ev_nil ⟨rfl, by simpa using h₃⟩)))))
theorem e_call3 {f : Str} {p pos : Pos} {e1 e2 e3 : Expr} {Q : Value → Shared → Prop} (h : Wp w A (eval (.Name f p) env) (fun fv s₁ => Wp w A (eval e1 env) (fun v1 s₂ => Wp w A (eval e2 env) (fun v2 s₃ => Wp w A (eval e3 env) (fun v3 s₄ => Cw w A fv [v1, v2, v3] Q E s₄) E s₃) E s₂) E s₁) E s)
    (hs : autoParam (backTo pos (starEach [e1, e2, e3] env) = [(false, eval e1 env), (false, eval e2 env), (false, eval e3 env)]) tRfl) :
    Wp w A (eval (.Call (.Name f p) [e1, e2, e3] [] pos) env) Q E s := by
  show Wp w A (do callWith pos (← eval (.Name f p) env) [] (backTo pos (starEach [e1, e2, e3] env)) (backToKw pos (keywordEach [] env))) Q E s
  rw [hs]
  exact Wp.bind (h.imp fun fv s₁ h₁ => cw_any rfl (by simp) (ev_plain (ev_cons (h₁.imp fun v1 s₂ h₂ => ev_cons (h₂.imp fun v2 s₃ h₃ => ev_cons (h₃.imp fun v3 s₄ h₄ => ev_nil ⟨rfl, by simpa using h₄⟩))))))
/-- what a def of the text gives back -/
noncomputable def Spec (w : World) (A : Around) (f : Value) (args : List Value) (s : Shared) (P : Value → Shared → Prop) : Prop := Cd w A (.call f ⟨args, []⟩) (fun r s' => ∃ v, r = .ok (.ret v) ∧ P v s') s
theorem cw_fn {i : Nat} {args : List Value} {P : Value → Shared → Prop} {Q : Value → Shared → Prop} (I : Iv g s) (hi : i ∈ fnIds) (h : Spec w A (.ref (g.fa i)) args s P) (hq : ∀ v s', P v s' → Q v s') : Cw w A (.ref (g.fa i)) args Q E s := by
  refine ⟨⟨_, I.get (I.ok.fn i hi).get (by rw [(I.ok.fn i hi).data]; nofun), .inl ⟨_, (I.ok.fn i hi).data⟩⟩, Wp.call (Cd.mono h fun r s' hr => ?_)⟩
  obtain ⟨v, rfl, hp⟩ := hr
  exact hq v s' hp
theorem cw_bi {id : String} {args : List Value} {Q : Value → Shared → Prop} (h : Wp w A (call (.builtin id) args) Q E s) : Cw w A (.builtin id) args Q E s := by
  exact ⟨trivial, h⟩
theorem cw_ty {id : String} {args : List Value} {Q : Value → Shared → Prop} (h : Wp w A (call (.type id) args) Q E s) : Cw w A (.type id) args Q E s := by
  exact ⟨trivial, h⟩

theorem len_ints {l : Addr} {xs : List Int} {Q : Value → Shared → Prop} (F : St g s₀ ms os s) (hm : Mem os l (.ints xs)) (hz : xs.length < 2 ^ 62) (h : ∀ t s', St g s₀ ms os s' → Q (.int xs.length t) s') : Wp w A (call (.builtin "len") [.ref l]) Q E s := by
  refine .of ?_
  obtain ⟨l', n, ho, hi⟩ := F.mem hm
  refine Calls.call_len_list (listO_is ho) (by simp [hi.length]; lia) ?_
  have : (l'.toArray.size : Int) = xs.length := by simp [hi.length]
  rw [this]
  exact h _ _ (F.tick _)

/-! for -/
theorem x_for {target iter : Expr} {body rest : List Stmt} {pos : Pos} {Q : Flow → Shared → Prop}
    (h : Wp w A (eval iter env) (fun x s₁ => Wp w A (pyIter x) (fun it s₂ => ∃ (I : Nat → Shared → Prop) (n : Nat), I n s₂ ∧
      ∀ n s, I n s → ∀ J : Shared → Prop, (∀ m s₃, m < n → I m s₃ → J s₃) → Wp w A (pyNext it) (fun r s₁ => match r with
        | none => Wp w A (execs rest env) Q E s₁
        | some v => Wp w A (assign target env v) (fun _ s₂ => Wp w A (execs body env) (Lp J (fun s₃ => Wp w A (execs rest env) Q E s₃) Q) NoE s₂) NoE s₁) NoE s) E s₁) E s)
    (ht : autoParam (∀ it v, letOwnedTupleGo target it v = pure ()) tIIrfl)
    (hs : autoParam (∀ x, foldedSetIterable iter env x = pure x) tIrfl) :
    Wp w A (execs (.For target iter body [] pos :: rest) env) Q E s := by
  rw [execs_cons, exec_For]
  refine Wp.bind (Wp.bind (Wp.standAt (Wp.bind (h.imp fun x s₁ h₁ => Wp.bind (Wp.val (hs x) (Wp.bind (Wp.standAt (Wp.bind (Wp.holding (h₁.imp fun it s₂ h₂ => ?_))))))))))
  obtain ⟨I, n, hI, turn⟩ := h₂
  refine Wp.runOwn (cd_for I (fun n s hI => (turn n s hI (fun s₃ => ∃ m, m < n ∧ I m s₃) fun m _ h1 h2 => ⟨m, h1, h2⟩).imp fun r s₁ h₁ => ?_) n hI)
  cases r with
  | none => exact x_nil h₁
  | some v => exact Wp.val (ht it v) (h₁.imp fun _ s₂ h₂ => h₂.imp fun f s₃ h₃ => by cases f <;> first | exact h₃ | exact Wp.pure h₃)
theorem x_name {x : Str} {p : Pos} {v : Value} {Q : Unit → Shared → Prop} (h : Wp w A (storeName env x v) Q E s) : Wp w A (assign (.Name x p) env v) Q E s := by
  rw [PySem.assign_Name]
  exact Wp.bind (Wp.standAt (Wp.bindName h))
theorem it_range {r : Addr} {a b c : Int} {t u v : Tok} {Q : Value → Shared → Prop} {p₀ : Addr × K} (F : St g s₀ ms (p₀ :: os) s) (hr : IsRange s.heap r a b c t u v) (hsmall : Builtin.Range.small a b c = true) (h : ∀ it s', s₀.heap.objs.size ≤ it → St g s₀ ms (p₀ :: (it, .riter a (Builtin.Range.rangeSize a b c) c) :: os) s' → Q (.ref it) s') : Wp w A (pyIter (.ref r)) Q E s := .of (wpAny_pyIter_range hr hsmall (h _ _ F.aft.size (F.pushB rfl (Heap.get?_push_size _ rfl) rfl rfl)))
theorem nx_range {it L : Addr} {x left step : Int} {kL : K} {os₁ os₂ : Os} {Q : Option Value → Shared → Prop} (F : St g s₀ ms os s) (hh : A.handled = none) (hL : (L, kL) ∈ os₂) (hL0 : s₀.heap.objs.size ≤ L) (hit : s₀.heap.objs.size ≤ it) (hu : Up os it (.riter x left step) (.riter (x + step) (left - 1) step) os₁) (hd : Del os it (.riter x left step) os₂)
    (h1 : 0 < left → ∀ t s', St g s₀ ms os₁ s' → Q (some (.int x t)) s') (h2 : left ≤ 0 → ∀ s', St g s₀ ms os₂ s' → Q none s') : Wp w A (pyNext (.ref it)) Q E s := by
  refine .of ?_
  have hr : IsRangeIter s.heap it x left step := F.at _ hu.mem
  by_cases hl : 0 < left
  · exact wpAny_pyNext_range_item hr hl fun h' e hs => h1 hl _ _ (F.update hu hs e rfl rfl)
  · exact wpAny_pyNext_range_end hh hr (by lia) fun h' hx => h2 (by lia) _ (F.ended hd hL hL0 hx rfl rfl (hown := hit))
theorem it_ints {l : Addr} {xs : List Int} {Q : Value → Shared → Prop} {p₀ : Addr × K} (F : St g s₀ ms (p₀ :: os) s) (hm : Mem (p₀ :: os) l (.ints xs)) (h : ∀ it s', s₀.heap.objs.size ≤ it → St g s₀ ms (p₀ :: (it, .liter l 0) :: os) s' → Q (.ref it) s') : Wp w A (pyIter (.ref l)) Q E s := by
  refine .of ?_
  obtain ⟨l', n, ho, hi⟩ := F.mem hm
  exact wpAny_pyIter_list (listO_is ho) (h _ _ F.aft.size (F.pushB rfl ⟨_, Heap.get?_push_size _ rfl, rfl, rfl⟩ rfl rfl))
theorem nx_list {it l L : Addr} {i : Nat} {kL : K} {os₁ os₂ : Os} {vs : List Value} {n : Nat} {Q : Option Value → Shared → Prop} (F : St g s₀ ms os s) (hh : A.handled = none) (hL : (L, kL) ∈ os₂) (hL0 : s₀.heap.objs.size ≤ L) (hit : s₀.heap.objs.size ≤ it) (hl : s.heap.get? l = some (listO vs n)) (hu : Up os it (.liter l i) (.liter l (i + 1)) os₁) (hd : Del os it (.liter l i) os₂)
    (h1 : ∀ v, vs[i]? = some v → ∀ s', St g s₀ ms os₁ s' → Q (some v) s') (h2 : vs.length ≤ i → ∀ s', St g s₀ ms os₂ s' → Q none s') : Wp w A (pyNext (.ref it)) Q E s := by
  refine .of ?_
  have hr : s.heap.IsListIter it l i := F.at _ hu.mem
  by_cases hi : i < vs.length
  · exact wpAny_pyNext_list_item hr (listO_is hl) (x := vs[i]) (by simp [hi]) fun h' e hs => h1 _ (by simp [hi]) _ (F.update hu hs e rfl rfl)
  · exact wpAny_pyNext_list_end hh hr (listO_is hl) (by simp; lia) fun h' hx => h2 (by lia) _ (F.ended hd hL hL0 hx rfl rfl (hown := hit))
theorem nx_ints {it l L : Addr} {i : Nat} {kL : K} {os₁ os₂ : Os} {xs : List Int} {Q : Option Value → Shared → Prop} (F : St g s₀ ms os s) (hh : A.handled = none) (hL : (L, kL) ∈ os₂) (hL0 : s₀.heap.objs.size ≤ L) (hit : s₀.heap.objs.size ≤ it) (hl : Mem os l (.ints xs)) (hu : Up os it (.liter l i) (.liter l (i + 1)) os₁) (hd : Del os it (.liter l i) os₂)
    (h1 : i < xs.length → ∀ t s', St g s₀ ms os₁ s' → Q (some (.int (xs.getD i 0) t)) s') (h2 : xs.length ≤ i → ∀ s', St g s₀ ms os₂ s' → Q none s') : Wp w A (pyNext (.ref it)) Q E s := by
  obtain ⟨l', n, ho, hi⟩ := F.mem hl
  refine nx_list F hh hL hL0 hit ho hu hd (fun v hv s' F' => ?_) (fun h => h2 (by rw [← hi.length]; exact h))
  have hlt : i < xs.length := by
    rw [← hi.length]
    exact (List.getElem?_eq_some_iff.mp hv).1
  obtain ⟨t, ht⟩ := hi.get (i := i) (x := xs.getD i 0) (by simp [hlt])
  rw [ht] at hv
  cases hv
  exact h1 hlt t s' F'

/-! global names -/
theorem e_fn {x : Str} {p : Pos} {Q : Value → Shared → Prop} (i : Nat) (F : St g s₀ ms os s) (e : En env L nl) (q : Q (.ref (g.fa i)) s) (hi : autoParam (i ∈ fnIds) tDec) (hx : autoParam (fnName (stmtAt i) = x) tRfl) (hk : autoParam (env.kindOf x = some .globalImplicit) tKrfl) (hd : autoParam ((x == ("__debug__" : Str)) = false) tKrfl) : Wp w A (eval (.Name x p) env) Q E s := by
  exact e_glo F e hk hd (hx ▸ (F.inv.ok.fn i hi).mg) q
theorem e_bi {x : Str} {p : Pos} {v : Value} {Q : Value → Shared → Prop} (F : St g s₀ ms os s) (e : En env L nl) (hm : Bi x v) (q : Q v s) (hk : autoParam (env.kindOf x = some .globalImplicit) tKrfl) (hd : autoParam ((x == ("__debug__" : Str)) = false) tKrfl) : Wp w A (eval (.Name x p) env) Q E s := by
  exact e_blt F e hk hd (F.inv.ok.bi _ _ hm).1 (F.inv.ok.bi _ _ hm).2 q
end
end
/-! MH -/
section

noncomputable abbrev Gd.env (g : Gd) (i : Nat) (L : Addr) : Env := envOf (fnName (stmtAt i)) (fnScope (stmtAt i)) L (g.fa i) (g.fc i)


theorem At2.no : ∀ {nl : List Str} {k : Nat} {x : Str} {v : Value}, ¬ At2 nl (List.replicate k none) x v
  | _, 0, _, _, h => by cases h
  | _, k + 1, _, _, h => by
    rw [List.replicate_succ] at h
    cases h with
    | there h => exact At2.no h
theorem lookup_zip : ∀ {pn rest : List Str} {args : List Value} {k : Nat} {x : Str} {v : Value}, (pn ++ rest).Nodup → At2 (pn ++ rest) (args.map some ++ List.replicate k none) x v → pn.length = args.length → (pn.zip args).reverse.lookup x = some v
  | [], rest, [], k, x, v, _, h, _ => absurd h At2.no
  | p :: pn, rest, a :: args, k, x, v, hn, h, hl => by
    rw [List.cons_append, List.nodup_cons] at hn
    rw [List.zip_cons_cons, List.reverse_cons, List.lookup_append]
    rw [List.cons_append, List.map_cons, List.cons_append] at h
    cases h with
    | here =>
      have : ((pn.zip args).reverse.lookup p) = none := by
        rw [List.lookup_eq_none_iff]
        intro q hq
        have hq := List.mem_reverse.mp hq
        have := List.of_mem_zip (a := q.1) (b := q.2) hq
        rw [bne_iff_ne]
        rintro rfl
        exact hn.1 (List.mem_append.mpr (.inl this.1))
      rw [this]
      simp
    | there h =>
      rw [lookup_zip hn.2 h (by simpa using hl)]
      rfl
  | [], _, _ :: _, _, _, _, _, _, hl => by simp at hl
  | _ :: _, _, [], _, _, _, _, _, hl => by simp at hl

section
variable {w : World} {A : Around} {E : Value → Shared → Prop} {g : Gd} {s₀ s : Shared} {ms : List Addr} {os os' : Os}

theorem St.start (I : Iv g s) (h : ∀ p ∈ os, K.At s.heap p.1 p.2) (hn : (os.map (·.1)).Nodup) (hm : ∀ p ∈ os, p.2.soft → p.1 ∈ ms) (hl : ∀ p ∈ os, g.h₁.objs.size ≤ p.1) : St g s ms os s :=
  ⟨I, .refl .., h, hn, fun p hp hs => .inl (hm p hp hs), hl, I.size⟩

/-- a call of a plain def of the text -/
theorem enter {i : Nat} (nl : List Str) (vs0 : List (Option Value)) {pn rest : List Str} {args : List Value} {k : Nat} {R : Result → Shared → Prop} (I : Iv g s) (hA : A.depth < recursionLimit) (hi : i ∈ fnIds)
    (F : St g s ms os s)
    (hpn : (fnParams (stmtAt i)).args.map (·.arg) = pn) (hlen : pn.length = args.length)
    (hb : ∀ pm cd doc, bindArgs (Calls.docDef (fnName (stmtAt i)) (fnParams (stmtAt i)) (fnBody (stmtAt i)) (fnScope (stmtAt i)) pm cd doc) ⟨args, []⟩ = pure (((fnParams (stmtAt i)).args.map (·.arg)).zip args))
    (hnl : pn ++ rest = nl) (hvs : args.map some ++ List.replicate k none = vs0)
    (hnd : nl.Nodup) (hloc : nl.all (fun x => decide ((fnScope (stmtAt i)).names.lookup x = some .local) && !(x == ("__debug__" : Str))) = true)
    (hsc : ((fnScope (stmtAt i)).isCoroutine || (fnScope (stmtAt i)).isGenerator || (fnScope (stmtAt i)).names.any fun x => x.2 == .cell) = false) (hk : (fnScope (stmtAt i)).kind = .function)
    (h : ∀ L s', s.heap.objs.size ≤ L → St g s ms ((L, .ns nl vs0) :: os) s' → En (g.env i L) L nl →
      ∀ J : Value → Shared → Prop, (∀ v s', R (.ok (.ret v)) s' → J v s') → Wp w (A.deeper (g.env i L)) (execs (fnBody (stmtAt i)) (g.env i L)) (Rf J) NoE s') :
    Cd w A (.call (.ref (g.fa i)) ⟨args, []⟩) R s := by
  subst hnl hvs
  have fn := I.ok.fn i hi
  have hloc' : ∀ x ∈ pn ++ rest, (fnScope (stmtAt i)).names.lookup x = some .local ∧ (x == ("__debug__" : Str)) = false := fun x hx => by
    have := List.all_eq_true.mp hloc x hx
    simp only [Bool.and_eq_true, decide_eq_true_eq, Bool.not_eq_true'] at this
    exact this
  simp only [Bool.or_eq_false_iff] at hsc
  refine cd_call_function hA (I.get fn.get (by rw [fn.data]; nofun)) fn.data hsc.1.1 hsc.1.2 rfl (I.codeRec fn.code) ?_
  rw [hb]
  refine Wp.pure (.of (wpAny_newFunctionEnv ?_ ?_ (fun h₁ hns hsb => ⟨I.lim.fresh _ hsb, ?_⟩) hk))
  · intro x hx hc
    have := hsc.2
    rw [List.any_eq_false] at this
    exact this x hx (by rw [hc]; rfl)
  · intro x hx
    have := (List.of_mem_zip (a := x.1) (b := x.2) hx).1
    rw [hpn] at this
    exact (hloc' x.1 (List.mem_append.mpr (.inl this))).1
  · show Cd w A (.func (fnBody (stmtAt i)) (g.env i s.heap.objs.size)) R _
    refine cd_func (h s.heap.objs.size _ (Nat.le_refl _) ?_ ⟨rfl, hk, fun x hx => hloc' x hx, rfl, rfl⟩ (fun v s' => R (.ok (.ret v)) s') fun _ _ h => h)
    have hk' : ∀ b o, s.heap.get? b = some o → h₁.get? b = some o := fun b o e => hsb.extBut b o (Nat.ne_of_lt (Heap.lt_size e)) (Heap.get?_push_of_some _ e)
    have hz : s.heap.objs.size ≤ h₁.objs.size := Nat.le_of_lt hns.lt
    have fr : Frozen s.heap h₁ := fun b o e _ => hk' b o e
    refine ⟨I.step (fun b o e _ => hk' b o e) hz fr, ⟨fun b o e _ _ => hk' b o e, fr, hz, rfl, id⟩, fun p hp => ?_, ?_, fun p hp hsf => ?_, fun p hp => ?_, I.size⟩
    · rcases List.mem_cons.mp hp with rfl | hp
      · refine ⟨hnd, _, hns, fun x v hx => ?_⟩
        show ((((fnParams (stmtAt i)).args.map (·.arg)).zip args).reverse.lookup x) = some v
        rw [hpn]
        exact lookup_zip hnd hx hlen
      · exact (F.at _ hp).move (fun o e => hk' _ _ e) fr
    · rw [List.map_cons]
      refine List.nodup_cons.mpr ⟨fun hm => ?_, F.nod⟩
      obtain ⟨p, hp, e⟩ := List.mem_map.mp hm
      exact Nat.lt_irrefl _ (e ▸ (F.at p hp).lt)
    · rcases List.mem_cons.mp hp with rfl | hp
      · exact .inr (Nat.le_refl _)
      · exact F.own _ hp hsf
    · rcases List.mem_cons.mp hp with rfl | hp
      · exact I.size
      · exact F.low _ hp

noncomputable def sdF (x : Int) (sp : Nat) (xs : List Int) (p : Nat) : List Int :=
  if h : sp < p then
    if x < xs.getD ((p - 1) / 2) 0 then sdF x sp (xs.set p (xs.getD ((p - 1) / 2) 0)) ((p - 1) / 2) else xs.set p x
  else xs.set p x
termination_by p
decreasing_by exact half_dec h
end
end
set_option hygiene false
/-! EV1 -/
section
set_option hygiene false
/-! pure expressions, in one step -/
theorem ex1 {α : Type} {P : α → Prop} {G : Prop} (h : ∃ x0, P x0) (k : ∀ x0, P x0 → G) : G := h.elim fun x0 h => k x0 h
theorem ex2 {α β : Type} {P : α → β → Prop} {G : Prop} (h : ∃ x0 x1, P x0 x1) (k : ∀ x0 x1, P x0 x1 → G) : G := h.elim fun x0 h => ex1 h fun x1 h => k x0 x1 h
theorem exi2 {α β : Type} {P : α → β → Prop} (x0 : α) (x1 : β) (h : P x0 x1) : ∃ x0 x1, P x0 x1 := ⟨x0, x1, h⟩
theorem ex3 {α β γ : Type} {P : α → β → γ → Prop} {G : Prop} (h : ∃ x0 x1 x2, P x0 x1 x2) (k : ∀ x0 x1 x2, P x0 x1 x2 → G) : G := h.elim fun x0 h => ex2 h fun x1 x2 h => k x0 x1 x2 h
theorem exi3 {α β γ : Type} {P : α → β → γ → Prop} (x0 : α) (x1 : β) (x2 : γ) (h : P x0 x1 x2) : ∃ x0 x1 x2, P x0 x1 x2 := ⟨x0, exi2 x1 x2 h⟩
theorem ex4 {α β γ δ : Type} {P : α → β → γ → δ → Prop} {G : Prop} (h : ∃ x0 x1 x2 x3, P x0 x1 x2 x3) (k : ∀ x0 x1 x2 x3, P x0 x1 x2 x3 → G) : G := h.elim fun x0 h => ex3 h fun x1 x2 x3 h => k x0 x1 x2 x3 h
theorem exi4 {α β γ δ : Type} {P : α → β → γ → δ → Prop} (x0 : α) (x1 : β) (x2 : γ) (x3 : δ) (h : P x0 x1 x2 x3) : ∃ x0 x1 x2 x3, P x0 x1 x2 x3 := ⟨x0, exi3 x1 x2 x3 h⟩
theorem ex5 {α β γ δ ε : Type} {P : α → β → γ → δ → ε → Prop} {G : Prop} (h : ∃ x0 x1 x2 x3 x4, P x0 x1 x2 x3 x4) (k : ∀ x0 x1 x2 x3 x4, P x0 x1 x2 x3 x4 → G) : G := h.elim fun x0 h => ex4 h fun x1 x2 x3 x4 h => k x0 x1 x2 x3 x4 h
theorem exi5 {α β γ δ ε : Type} {P : α → β → γ → δ → ε → Prop} (x0 : α) (x1 : β) (x2 : γ) (x3 : δ) (x4 : ε) (h : P x0 x1 x2 x3 x4) : ∃ x0 x1 x2 x3 x4, P x0 x1 x2 x3 x4 := ⟨x0, exi4 x1 x2 x3 x4 h⟩
theorem ex6 {α β γ δ ε ζ : Type} {P : α → β → γ → δ → ε → ζ → Prop} {G : Prop} (h : ∃ x0 x1 x2 x3 x4 x5, P x0 x1 x2 x3 x4 x5) (k : ∀ x0 x1 x2 x3 x4 x5, P x0 x1 x2 x3 x4 x5 → G) : G := h.elim fun x0 h => ex5 h fun x1 x2 x3 x4 x5 h => k x0 x1 x2 x3 x4 x5 h
theorem exi6 {α β γ δ ε ζ : Type} {P : α → β → γ → δ → ε → ζ → Prop} (x0 : α) (x1 : β) (x2 : γ) (x3 : δ) (x4 : ε) (x5 : ζ) (h : P x0 x1 x2 x3 x4 x5) : ∃ x0 x1 x2 x3 x4 x5, P x0 x1 x2 x3 x4 x5 := ⟨x0, exi5 x1 x2 x3 x4 x5 h⟩
theorem ex7 {α β γ δ ε ζ η : Type} {P : α → β → γ → δ → ε → ζ → η → Prop} {G : Prop} (h : ∃ x0 x1 x2 x3 x4 x5 x6, P x0 x1 x2 x3 x4 x5 x6) (k : ∀ x0 x1 x2 x3 x4 x5 x6, P x0 x1 x2 x3 x4 x5 x6 → G) : G := h.elim fun x0 h => ex6 h fun x1 x2 x3 x4 x5 x6 h => k x0 x1 x2 x3 x4 x5 x6 h
theorem exi7 {α β γ δ ε ζ η : Type} {P : α → β → γ → δ → ε → ζ → η → Prop} (x0 : α) (x1 : β) (x2 : γ) (x3 : δ) (x4 : ε) (x5 : ζ) (x6 : η) (h : P x0 x1 x2 x3 x4 x5 x6) : ∃ x0 x1 x2 x3 x4 x5 x6, P x0 x1 x2 x3 x4 x5 x6 := ⟨x0, exi6 x1 x2 x3 x4 x5 x6 h⟩
theorem ex8 {α β γ δ ε ζ η θ : Type} {P : α → β → γ → δ → ε → ζ → η → θ → Prop} {G : Prop} (h : ∃ x0 x1 x2 x3 x4 x5 x6 x7, P x0 x1 x2 x3 x4 x5 x6 x7) (k : ∀ x0 x1 x2 x3 x4 x5 x6 x7, P x0 x1 x2 x3 x4 x5 x6 x7 → G) : G := h.elim fun x0 h => ex7 h fun x1 x2 x3 x4 x5 x6 x7 h => k x0 x1 x2 x3 x4 x5 x6 x7 h
theorem exi8 {α β γ δ ε ζ η θ : Type} {P : α → β → γ → δ → ε → ζ → η → θ → Prop} (x0 : α) (x1 : β) (x2 : γ) (x3 : δ) (x4 : ε) (x5 : ζ) (x6 : η) (x7 : θ) (h : P x0 x1 x2 x3 x4 x5 x6 x7) : ∃ x0 x1 x2 x3 x4 x5 x6 x7, P x0 x1 x2 x3 x4 x5 x6 x7 := ⟨x0, exi7 x1 x2 x3 x4 x5 x6 x7 h⟩
theorem ex9 {α β γ δ ε ζ η θ ι : Type} {P : α → β → γ → δ → ε → ζ → η → θ → ι → Prop} {G : Prop} (h : ∃ x0 x1 x2 x3 x4 x5 x6 x7 x8, P x0 x1 x2 x3 x4 x5 x6 x7 x8) (k : ∀ x0 x1 x2 x3 x4 x5 x6 x7 x8, P x0 x1 x2 x3 x4 x5 x6 x7 x8 → G) : G := h.elim fun x0 h => ex8 h fun x1 x2 x3 x4 x5 x6 x7 x8 h => k x0 x1 x2 x3 x4 x5 x6 x7 x8 h
theorem exi9 {α β γ δ ε ζ η θ ι : Type} {P : α → β → γ → δ → ε → ζ → η → θ → ι → Prop} (x0 : α) (x1 : β) (x2 : γ) (x3 : δ) (x4 : ε) (x5 : ζ) (x6 : η) (x7 : θ) (x8 : ι) (h : P x0 x1 x2 x3 x4 x5 x6 x7 x8) : ∃ x0 x1 x2 x3 x4 x5 x6 x7 x8, P x0 x1 x2 x3 x4 x5 x6 x7 x8 := ⟨x0, exi8 x1 x2 x3 x4 x5 x6 x7 x8 h⟩
theorem and2 {P0 P1 G : Prop} (h : P0 ∧ P1) (k : P0 → P1 → G) : G := k h.1 h.2
theorem and3 {P0 P1 P2 G : Prop} (h : P0 ∧ P1 ∧ P2) (k : P0 → P1 → P2 → G) : G := and2 h.2 (k h.1)
theorem and4 {P0 P1 P2 P3 G : Prop} (h : P0 ∧ P1 ∧ P2 ∧ P3) (k : P0 → P1 → P2 → P3 → G) : G := and3 h.2 (k h.1)
theorem and5 {P0 P1 P2 P3 P4 G : Prop} (h : P0 ∧ P1 ∧ P2 ∧ P3 ∧ P4) (k : P0 → P1 → P2 → P3 → P4 → G) : G := and4 h.2 (k h.1)
theorem and6 {P0 P1 P2 P3 P4 P5 G : Prop} (h : P0 ∧ P1 ∧ P2 ∧ P3 ∧ P4 ∧ P5) (k : P0 → P1 → P2 → P3 → P4 → P5 → G) : G := and5 h.2 (k h.1)
theorem and7 {P0 P1 P2 P3 P4 P5 P6 G : Prop} (h : P0 ∧ P1 ∧ P2 ∧ P3 ∧ P4 ∧ P5 ∧ P6) (k : P0 → P1 → P2 → P3 → P4 → P5 → P6 → G) : G := and6 h.2 (k h.1)
noncomputable def bodyOf : Stmt → List Stmt
  | .If _ b _ _ => b
  | .While _ b _ _ => b
  | .For _ _ b _ _ => b
  | _ => []
noncomputable def elseOf : Stmt → List Stmt
  | .If _ _ b _ => b
  | _ => []
noncomputable def at0 (l : List Stmt) (i : Nat) : Stmt := l.getD i (.Pass default)
structure Cx where
  w : World
  A : Around
  g : Gd
  s₀ : Shared
  ms : List Addr
  env : Env
  T : Os
/-- an expression that gives an int and changes nothing that the ledger tells -/
structure EvI (c : Cx) (e : Expr) (x : Int) : Prop where
  ev : ∀ {s : Shared} {Q E : Value → Shared → Prop}, St c.g c.s₀ c.ms c.T s → (∀ t s', St c.g c.s₀ c.ms c.T s' → Q (.int x t) s') → Wp c.w c.A (eval e c.env) Q E s
/-- one that gives this very value -/
structure EvV (c : Cx) (e : Expr) (v : Value) : Prop where
  ev : ∀ {s : Shared} {Q E : Value → Shared → Prop}, St c.g c.s₀ c.ms c.T s → (∀ s', St c.g c.s₀ c.ms c.T s' → Q v s') → Wp c.w c.A (eval e c.env) Q E s
/-- a test -/
structure Ts (c : Cx) (e : Expr) (b : Bool) : Prop where
  ev : ∀ {s : Shared} {Q : Bool → Shared → Prop} {E : Value → Shared → Prop}, St c.g c.s₀ c.ms c.T s → (∀ s', St c.g c.s₀ c.ms c.T s' → Q b s') → Wp c.w c.A (isTrue e c.env (eval e c.env)) Q E s
section
variable {w : World} {A : Around} {g : Gd} {s₀ : Shared} {ms : List Addr} {os os' : Os} {env : Env} {L : Addr} {nl : List Str} {vs : List (Option Value)} {c : Cx}
theorem vn {x : Str} {p : Pos} {v : Value} (e : En env L nl) (h : At2 nl vs x v) : EvV ⟨w, A, g, s₀, ms, env, (L, .ns nl vs) :: os⟩ (.Name x p) v := ⟨fun F q => e_loc F e h (q _ F)⟩
theorem EvV.int {e : Expr} {x : Int} {t : Tok} (h : EvV c e (.int x t)) : EvI c e x := ⟨fun F q => h.ev F fun s' F' => q t s' F'⟩
theorem vk {i : Int} {k : Nat} {p : Pos} : EvI c (.Constant (.int i) k p) i := ⟨fun F q => e_int F fun t s' F' => q t s' F'⟩
theorem EvI.add {l r : Expr} {a b : Int} {p : Pos} (h1 : EvI c l a) (h2 : EvI c r b) : EvI c (.BinOp l .Add r p) (a + b) := ⟨fun F q => e_bin (h1.ev F fun _ _ F1 => h2.ev F1 fun _ _ F2 => b_add F2 q)⟩
theorem EvI.sub {l r : Expr} {a b : Int} {p : Pos} (h1 : EvI c l a) (h2 : EvI c r b) : EvI c (.BinOp l .Sub r p) (a - b) := ⟨fun F q => e_bin (h1.ev F fun _ _ F1 => h2.ev F1 fun _ _ F2 => b_sub F2 q)⟩
theorem EvI.mul {l r : Expr} {a b : Int} {p : Pos} (h1 : EvI c l a) (h2 : EvI c r b) (hm : IntMulOk a b) : EvI c (.BinOp l .Mult r p) (a * b) := ⟨fun F q => e_bin (h1.ev F fun _ _ F1 => h2.ev F1 fun _ _ F2 => b_mul F2 q hm)⟩
theorem EvI.shr {l : Expr} {a : Int} {k : Nat} {p p' : Pos} (h1 : EvI c l a) (h0 : 0 ≤ a) : EvI c (.BinOp l .RShift (.Constant (.int 1) k p') p) (a / 2) := ⟨fun F q => e_bin (h1.ev F fun _ _ F1 => e_int F1 fun _ _ F2 => b_shr1 F2 h0 q)⟩
theorem EvV.item {m i : Expr} {l : Addr} {xs : List Int} {j : Int} {p : Pos} (h1 : EvV c m (.ref l)) (h2 : EvI c i j) (hm : Mem c.T l (.ints xs)) (h0 : 0 ≤ j) (hj : j < xs.length) (hz : xs.length < 2 ^ 62)
    (hs : autoParam (∀ o v, subscripted i false o v = operate [o, v] (getItem o v)) tIIrfl) : EvI c (.Subscript m i p) (xs.getD j.toNat 0) :=
  ⟨fun F q => e_sub (h1.ev F fun _ F1 => h2.ev F1 fun _ _ F2 => sub_ints F2 hm h0 hj hz fun t => q t _ F2) hs⟩
theorem EvI.lt {l r : Expr} {a b : Int} {p : Pos} (h1 : EvI c l a) (h2 : EvI c r b) (hm : autoParam (behindInMarks .Lt r = false) tWrfl) : Ts c (.Compare l [.Lt] [r] p) (decide (a < b)) := ⟨fun F q => t_cmp (h1.ev F fun _ _ F1 => h2.ev F1 fun _ _ F2 => c_lt (q _ F2)) hm⟩
theorem EvI.gt {l r : Expr} {a b : Int} {p : Pos} (h1 : EvI c l a) (h2 : EvI c r b) (hm : autoParam (behindInMarks .Gt r = false) tWrfl) : Ts c (.Compare l [.Gt] [r] p) (decide (b < a)) := ⟨fun F q => t_cmp (h1.ev F fun _ _ F1 => h2.ev F1 fun _ _ F2 => c_gt (q _ F2)) hm⟩
theorem set_at {x : Str} (v : Value) : ∀ {nl : List Str} {vs : List (Option Value)} {k : Nat}, nl[k]? = some x → (vs.length.ble k) = false → Up2 nl vs x v (vs.set k (some v))
  | n :: ns, u :: us, 0, h, _ => by cases (Option.some.inj h); exact .here
  | n :: ns, u :: us, k + 1, h, hz => .there (set_at v (by rwa [List.getElem?_cons_succ] at h) hz)
theorem ts_go {e : Expr} {b : Bool} {T : Os} {s : Shared} {Q : Bool → Shared → Prop} {E : Value → Shared → Prop} (F : St g s₀ ms T s) (ts : Ts ⟨w, A, g, s₀, ms, env, T⟩ e b) (q : ∀ s', St g s₀ ms T s' → Q b s') : Wp w A (isTrue e env (eval e env)) Q E s := ts.ev F q
/-- name = an int -/
theorem x_asI (k : Nat) {x : Str} {p' pos : Pos} {value : Expr} {rest : List Stmt} {y : Int} {s : Shared} {Q : Flow → Shared → Prop} {E : Value → Shared → Prop} (F : St g s₀ ms ((L, .ns nl vs) :: os) s) (e : En env L nl) (ev : EvI ⟨w, A, g, s₀, ms, env, (L, .ns nl vs) :: os⟩ value y)
    (h : ∀ t s', St g s₀ ms ((L, .ns nl (vs.set k (some (.int y t)))) :: os) s' → Wp w A (execs rest env) Q E s') (hk : autoParam (nl[k]? = some x) tRfl) (hz : autoParam ((vs.length.ble k) = false) tRfl)
    (hs : autoParam (swapsWith value (some (.Name x p')) pos.line env = pure false) tRfl) : Wp w A (execs (.Assign [.Name x p'] value pos :: rest) env) Q E s :=
  x_as (ev.ev F fun t _ F' => s_loc F' e (set_at _ hk hz) fun s' F'' => h t s' F'') hs
/-- list[i] = an int -/
theorem x_setI {o i value : Expr} {p' pos : Pos} {rest : List Stmt} {l : Addr} {xs : List Int} {y j : Int} {T T' : Os} {s : Shared} {Q : Flow → Shared → Prop} {E : Value → Shared → Prop} (F : St g s₀ ms T s) (ev : EvI ⟨w, A, g, s₀, ms, env, T⟩ value y) (eo : EvV ⟨w, A, g, s₀, ms, env, T⟩ o (.ref l)) (ei : EvI ⟨w, A, g, s₀, ms, env, T⟩ i j)
    (hu : Up T l (.ints xs) (.ints (xs.set j.toNat y)) T') (h0 : 0 ≤ j) (hj : j < xs.length) (hz : xs.length < 2 ^ 62) (h : ∀ s', St g s₀ ms T' s' → Wp w A (execs rest env) Q E s')
    (hs : autoParam (swapsWith value (some (.Subscript o i p')) pos.line env = pure false) tRfl) : Wp w A (execs (.Assign [.Subscript o i p'] value pos :: rest) env) Q E s :=
  x_asub (ev.ev F fun _ _ F1 => eo.ev F1 fun _ F2 => ei.ev F2 fun _ _ F3 => set_ints F3 hu h0 hj hz h) hs
theorem ts_goD {e : Expr} {P : Prop} [Decidable P] {T : Os} {s : Shared} {Q : Bool → Shared → Prop} {E : Value → Shared → Prop} (F : St g s₀ ms T s) (ts : Ts ⟨w, A, g, s₀, ms, env, T⟩ e (decide P)) (hy : P → ∀ s', St g s₀ ms T s' → Q true s') (hn : ¬ P → ∀ s', St g s₀ ms T s' → Q false s') : Wp w A (isTrue e env (eval e env)) Q E s :=
  ts.ev F fun s' F' => by
    by_cases h : P
    · rw [decide_eq_true h]; exact hy h s' F'
    · rw [decide_eq_false h]; exact hn h s' F'
/-- a test of ints, its two ways -/
theorem x_ifD {test : Expr} {body orelse rest : List Stmt} {pos : Pos} {P : Prop} [Decidable P] {T : Os} {s : Shared} {Q : Flow → Shared → Prop} {E : Value → Shared → Prop} (F : St g s₀ ms T s) (ts : Ts ⟨w, A, g, s₀, ms, env, T⟩ test (decide P))
    (hy : P → ∀ s', St g s₀ ms T s' → Wp w A (execs body env) (Nx Q fun s₂ => Wp w A (execs rest env) Q E s₂) E s') (hn : ¬ P → ∀ s', St g s₀ ms T s' → Wp w A (execs orelse env) (Nx Q fun s₂ => Wp w A (execs rest env) Q E s₂) E s') : Wp w A (execs (.If test body orelse pos :: rest) env) Q E s :=
  x_if (ts.ev F fun s' F' => by
    by_cases h : P
    · rw [decide_eq_true h]; exact hy h s' F'
    · rw [decide_eq_false h]; exact hn h s' F')
end
end
/-! MS -/
section
set_option hygiene false
section
variable {w : World} {A : Around} {g : Gd} {σ : Shared}

theorem sdF_eq (x : Int) (sp : Nat) (xs : List Int) (p : Nat) : sdF x sp xs p = if sp < p then
    if x < xs.getD ((p - 1) / 2) 0 then sdF x sp (xs.set p (xs.getD ((p - 1) / 2) 0)) ((p - 1) / 2) else xs.set p x
  else xs.set p x := by
  rw [sdF]
  split <;> rfl

theorem siftdown_spec {l : Addr} {xs : List Int} {sp p : Int} {t u : Tok} (I : Iv g σ) (hA : A.depth < recursionLimit) (hl : K.At σ.heap l (.ints xs)) (hlow : g.h₁.objs.size ≤ l) (hz : xs.length < 2 ^ 62) (h0 : 0 ≤ sp) (h1 : 0 ≤ p) (h2 : p < xs.length) :
    Spec w A (.ref (g.fa 17)) [.ref l, .int sp t, .int p u] σ (fun v s' => v = .none ∧ After g [l] σ s' ∧ Iv g s' ∧ K.At s'.heap l (.ints (sdF (xs.getD p.toNat 0) sp.toNat xs p.toNat))) := by
  have F0 : St g σ [l] [(l, .ints xs)] σ := .start I (by simpa using hl) (by simp) (by simp) (by simpa using hlow)
  refine enter (i := 17) ["heap", "startpos", "pos", "newitem", "parentpos", "parent"] [some _, some _, some _, none, none, none] (pn := ["heap", "startpos", "pos"]) (k := 3) I hA (by decide) F0 (by decide +kernel) rfl (fun _ _ _ => by rfl) (by rfl) (by rfl) (by decide +kernel) (by decide +kernel) (by decide +kernel) (by decide +kernel) ?_
  intro L s hL F e J hJ
  refine x_asI 3 F e (EvV.item (vn e (by (focus (repeat (first | with_reducible exact At2.here | apply At2.there))))) (vn e (by (focus (repeat (first | with_reducible exact At2.here | apply At2.there))))).int (by (focus (repeat (first | with_reducible exact Mem.here | apply Mem.there)))) h1 h2 hz) ?_
  (dsimp only [List.set]; clear F; intro tk s F)
  refine x_while (fun n s' => ∃ xs' p' u' v1 v2, St g σ [l] ((L, .ns ["heap", "startpos", "pos", "newitem", "parentpos", "parent"] [some (.ref l), some (.int sp t), some (.int p' u'), some (.int (xs.getD p.toNat 0) tk), v1, v2]) :: (l, .ints xs') :: []) s' ∧
    0 ≤ p' ∧ p' < xs'.length ∧ xs'.length = xs.length ∧ sdF (xs.getD p.toNat 0) sp.toNat xs' p'.toNat = sdF (xs.getD p.toNat 0) sp.toNat xs p.toNat ∧ n = p'.toNat) p.toNat ⟨xs, p, u, _, _, F, h1, h2, rfl, rfl, rfl⟩ ?_
  clear F s
  intro n s hI2 K hK
  refine ex5 hI2 ?_; (try clear hI2); intro xs' p' u' v1 v2 hJ
  refine and6 hJ ?_; clear hJ; intro F h1' h2' hlen hfun hR1
  subst hR1
  rw [sdF_eq _ _ xs' p'.toNat] at hfun
  have last : ∀ {v1 v2 : Option Value} {s : Shared}, xs'.set p'.toNat (xs.getD p.toNat 0) = sdF (xs.getD p.toNat 0) sp.toNat xs p.toNat → St g σ [l] ((L, .ns ["heap", "startpos", "pos", "newitem", "parentpos", "parent"] [some (.ref l), some (.int sp t), some (.int p' u'), some (.int (xs.getD p.toNat 0) tk), v1, v2]) :: (l, .ints xs') :: []) s → Wp w (A.deeper (g.env 17 L)) (execs ((fnBody (stmtAt 17)).drop 2) (g.env 17 L)) (Rf J) NoE s := by
    intro v1 v2 s hf F
    refine x_setI F (vn e (by (focus (repeat (first | with_reducible exact At2.here | apply At2.there))))).int (vn e (by (focus (repeat (first | with_reducible exact At2.here | apply At2.there))))) (vn e (by (focus (repeat (first | with_reducible exact At2.here | apply At2.there))))).int (by (focus (repeat (first | with_reducible exact Up.here | apply Up.there)))) h1' h2' (Nat.lt_of_le_of_lt (Nat.le_of_eq hlen) hz) ?_
    clear F; intro s F
    refine x_nil (hJ _ _ ⟨_, rfl, rfl, F.aft, F.inv, ?_⟩)
    rw [← hf]; exact F.at _ (.tail _ (.head _))
  refine ts_goD F (EvI.gt (vn e (by (focus (repeat (first | with_reducible exact At2.here | apply At2.there))))).int (vn e (by (focus (repeat (first | with_reducible exact At2.here | apply At2.there))))).int) (fun hc s F => ?_) fun hc s F => last (by rw [← hfun, if_neg (toNat_nlt hc)]) F
  have k1 : 0 < p' := Int.lt_of_le_of_lt h0 hc
  have k2 := halfI_nn k1
  have k3 := halfI_lt k1 h2'
  refine x_asI 4 F e (EvI.shr (EvI.sub (vn e (by (focus (repeat (first | with_reducible exact At2.here | apply At2.there))))).int vk) (Int.sub_nonneg_of_le k1)) ?_
  (dsimp only [List.set]; clear F; intro tk s F)
  refine x_asI 5 F e (EvV.item (vn e (by (focus (repeat (first | with_reducible exact At2.here | apply At2.there))))) (vn e (by (focus (repeat (first | with_reducible exact At2.here | apply At2.there))))).int (by (focus (repeat (first | with_reducible exact Mem.here | apply Mem.there)))) k2 k3 (by rw [hlen]; exact hz)) ?_
  (dsimp only [List.set]; clear F; intro tk s F)
  rw [if_pos (toNat_lt h0 hc), ← halfI h1'] at hfun
  refine x_ifD F (EvI.lt (vn e (by (focus (repeat (first | with_reducible exact At2.here | apply At2.there))))).int (vn e (by (focus (repeat (first | with_reducible exact At2.here | apply At2.there))))).int) (fun hx s F => ?_) fun hx s F => x_nil (x_brk (last (by rw [← hfun, if_neg hx]) F))
  rw [if_pos hx] at hfun
  refine x_setI F (vn e (by (focus (repeat (first | with_reducible exact At2.here | apply At2.there))))).int (vn e (by (focus (repeat (first | with_reducible exact At2.here | apply At2.there))))) (vn e (by (focus (repeat (first | with_reducible exact At2.here | apply At2.there))))).int (by (focus (repeat (first | with_reducible exact Up.here | apply Up.there)))) h1' h2' (Nat.lt_of_le_of_lt (Nat.le_of_eq hlen) hz) ?_
  clear F; intro s F
  refine x_asI 2 F e (vn e (by (focus (repeat (first | with_reducible exact At2.here | apply At2.there))))).int ?_
  (dsimp only [List.set]; clear F; intro tk s F)
  exact x_cont (hK _ _ (halfI_dec k1) (exi5 _ _ _ _ _ ⟨F, k2, by rw [List.length_set]; exact k3, by rw [List.length_set]; exact hlen, hfun, rfl⟩))
end
end
/-! MS2 -/
section
set_option hygiene false
section
variable {w : World} {A : Around} {g : Gd} {σ : Shared}

noncomputable def suDown (xs : List Int) (p : Nat) : List Int × Nat :=
  if h : 2 * p + 1 < xs.length then
    if 2 * p + 2 < xs.length ∧ ¬ xs.getD (2 * p + 1) 0 < xs.getD (2 * p + 2) 0 then suDown (xs.set p (xs.getD (2 * p + 2) 0)) (2 * p + 2)
    else suDown (xs.set p (xs.getD (2 * p + 1) 0)) (2 * p + 1)
  else (xs, p)
termination_by xs.length - p
decreasing_by
  · rw [List.length_set]; rename_i h2; exact down_lt h2.1 lt_ch2
  · rw [List.length_set]; exact down_lt h lt_ch1
theorem suDown_eq (xs : List Int) (p : Nat) : suDown xs p = if 2 * p + 1 < xs.length then
    if 2 * p + 2 < xs.length ∧ ¬ xs.getD (2 * p + 1) 0 < xs.getD (2 * p + 2) 0 then suDown (xs.set p (xs.getD (2 * p + 2) 0)) (2 * p + 2)
    else suDown (xs.set p (xs.getD (2 * p + 1) 0)) (2 * p + 1)
  else (xs, p) := by
  rw [suDown]
  split <;> rfl
noncomputable def suF (xs : List Int) (p : Nat) : List Int :=
  sdF (xs.getD p 0) p ((suDown xs p).1.set (suDown xs p).2 (xs.getD p 0)) (suDown xs p).2

theorem suDown_len (xs : List Int) (p : Nat) (h : p < xs.length) : (suDown xs p).1.length = xs.length ∧ (suDown xs p).2 < xs.length := by
  generalize hn : xs.length - p = n
  induction n using Nat.strongRecOn generalizing xs p with
  | ind n ih =>
    rw [suDown_eq]
    split
    · split
      · rename_i h1 h2
        have := ih (xs.length - (2 * p + 2)) (by rw [← hn]; exact down_lt h2.1 lt_ch2) (xs.set p (xs.getD (2 * p + 2) 0)) (2 * p + 2) (by rw [List.length_set]; exact h2.1) (by rw [List.length_set])
        simpa using this
      · rename_i h1 h2
        have := ih (xs.length - (2 * p + 1)) (by rw [← hn]; exact down_lt h1 lt_ch1) (xs.set p (xs.getD (2 * p + 1) 0)) (2 * p + 1) (by rw [List.length_set]; exact h1) (by rw [List.length_set])
        simpa using this
    · exact ⟨rfl, h⟩

theorem siftup_spec {l : Addr} {xs : List Int} {p : Nat} {t : Tok} (I : Iv g σ) (hA : A.depth + 1 < recursionLimit) (hl : K.At σ.heap l (.ints xs)) (hlow : g.h₁.objs.size ≤ l) (hz : xs.length < 2 ^ 60) (h2 : p < xs.length) :
    Spec w A (.ref (g.fa 18)) [.ref l, .int p t] σ (fun v s' => v = .none ∧ After g [l] σ s' ∧ Iv g s' ∧ K.At s'.heap l (.ints (suF xs p))) := by
  have F0 : St g σ [l] [(l, .ints xs)] σ := .start I (by simpa using hl) (by simp) (by simp) (by simpa using hlow)
  refine enter (i := 18) ["heap", "pos", "endpos", "startpos", "newitem", "childpos", "rightpos"] [some _, some _, none, none, none, none, none] (pn := ["heap", "pos"]) (k := 5) I (u_lt hA) (by decide) F0 (by decide +kernel) rfl (fun _ _ _ => by rfl) (by rfl) (by rfl) (by decide +kernel) (by decide +kernel) (by decide +kernel) (by decide +kernel) ?_
  intro L s hL F e J hJ
  refine x_as (e_call1 ?_)
  (refine' e_bi F e ?_ ?_; rotate_left 1; with_reducible constructor)
  (refine' e_loc F e ?_ ?_; rotate_left 1; (focus (repeat (first | with_reducible exact At2.here | apply At2.there))))
  refine cw_bi (len_ints F (.there .here) (Nat.lt_of_lt_of_le hz (lb rfl)) ?_); clear F; intro t0 s F
  (refine' s_loc F e ?_ ?_; rotate_left 1; (focus (repeat (first | with_reducible exact Up2.here | apply Up2.there))); clear F; intro s F)
  refine x_as ?_
  (refine' e_loc F e ?_ ?_; rotate_left 1; (focus (repeat (first | with_reducible exact At2.here | apply At2.there))))
  (refine' s_loc F e ?_ ?_; rotate_left 1; (focus (repeat (first | with_reducible exact Up2.here | apply Up2.there))); clear F; intro s F)
  refine x_as (e_sub ?_)
  (refine' e_loc F e ?_ ?_; rotate_left 1; (focus (repeat (first | with_reducible exact At2.here | apply At2.there))))
  (refine' e_loc F e ?_ ?_; rotate_left 1; (focus (repeat (first | with_reducible exact At2.here | apply At2.there))))
  refine sub_ints F (.there .here) (Int.natCast_nonneg p) (i_lt h2) (Nat.lt_of_lt_of_le hz (lb rfl)) fun t1 => ?_
  rw [Int.toNat_natCast]
  (refine' s_loc F e ?_ ?_; rotate_left 1; (focus (repeat (first | with_reducible exact Up2.here | apply Up2.there))); clear F; intro s F)
  refine x_as (e_bin (e_bin ?_))
  (refine e_int F ?_; clear F; intro tk s F)
  (refine' e_loc F e ?_ ?_; rotate_left 1; (focus (repeat (first | with_reducible exact At2.here | apply At2.there))))
  refine b_mul F ?_; (clear F; intro tk s F)
  (refine e_int F ?_; clear F; intro tk s F)
  refine b_add F ?_; clear F; intro t2 s F
  (refine' s_loc F e ?_ ?_; rotate_left 1; (focus (repeat (first | with_reducible exact Up2.here | apply Up2.there))); clear F; intro s F)
  refine x_while (fun n s' => ∃ (xs' : List Int) (p' : Nat) (u' t2 : Tok) (v7 : Option Value), St g σ [l] ((L, .ns ["heap", "pos", "endpos", "startpos", "newitem", "childpos", "rightpos"] [some (.ref l), some (.int p' u'), some (.int xs.length t0), some (.int p t), some (.int (xs.getD p 0) t1), some (.int (2 * p' + 1) t2), v7]) :: (l, .ints xs') :: []) s' ∧
    p' < xs'.length ∧ xs'.length = xs.length ∧ suDown xs' p' = suDown xs p ∧ n = xs'.length - p') (xs.length - p) ⟨xs, p, t, _, _, F, h2, rfl, rfl, rfl⟩ ?_
  clear F s
  intro n s hI2 K hK
  refine ex5 hI2 ?_; (try clear hI2); intro xs' p' u' t2 v7 hJ
  refine and5 hJ ?_; clear hJ; intro F h2' hlen hfun hR1
  subst hR1
  refine t_cmp ?_
  (refine' e_loc F e ?_ ?_; rotate_left 1; (focus (repeat (first | with_reducible exact At2.here | apply At2.there))))
  (refine' e_loc F e ?_ ?_; rotate_left 1; (focus (repeat (first | with_reducible exact At2.here | apply At2.there))))
  refine c_lt ?_
  rw [suDown_eq xs' p'] at hfun
  have hz2 : xs'.length < 2 ^ 62 := by rw [hlen]; exact Nat.lt_trans hz (by decide)
  have e1 : (2 * (p' : Int) + 1).toNat = 2 * p' + 1 := tn rfl
  have e2 : (2 * (p' : Int) + 1 + 1).toNat = 2 * p' + 2 := tn rfl
  by_cases hc : 2 * (p' : Int) + 1 < xs.length
  · have hc' : 2 * p' + 1 < xs'.length := by rw [hlen]; exact Int.ofNat_lt.mp hc
    rw [if_pos hc'] at hfun
    rw [decide_eq_true hc]
    refine x_as (e_bin ?_)
    (refine' e_loc F e ?_ ?_; rotate_left 1; (focus (repeat (first | with_reducible exact At2.here | apply At2.there))))
    (refine e_int F ?_; clear F; intro tk s F)
    refine b_add F ?_; clear F; intro t3 s F
    (refine' s_loc F e ?_ ?_; rotate_left 1; (focus (repeat (first | with_reducible exact Up2.here | apply Up2.there))); clear F; intro s F)
    refine x_ifm (fun s' => ∃ (cp : Nat) (tc : Tok), cp < xs'.length ∧ p' < cp ∧ suDown (xs'.set p' (xs'.getD cp 0)) cp = suDown xs p ∧
        St g σ [l] ((L, .ns ["heap", "pos", "endpos", "startpos", "newitem", "childpos", "rightpos"] [some (.ref l), some (.int p' u'), some (.int xs.length t0), some (.int p t), some (.int (xs.getD p 0) t1), some (.int cp tc), some (.int (2 * (p' : Int) + 1 + 1) t3)]) :: (l, .ints xs') :: []) s') ?_ ?_
    · intro P hP
      refine t_and (t_cmp ?_)
      (refine' e_loc F e ?_ ?_; rotate_left 1; (focus (repeat (first | with_reducible exact At2.here | apply At2.there))))
      (refine' e_loc F e ?_ ?_; rotate_left 1; (focus (repeat (first | with_reducible exact At2.here | apply At2.there))))
      refine c_lt ?_
      by_cases hc2 : 2 * (p' : Int) + 1 + 1 < xs.length
      · rw [decide_eq_true hc2]
        refine t_not (t_cmp ?_)
        refine e_sub ?_
        (refine' e_loc F e ?_ ?_; rotate_left 1; (focus (repeat (first | with_reducible exact At2.here | apply At2.there))))
        (refine' e_loc F e ?_ ?_; rotate_left 1; (focus (repeat (first | with_reducible exact At2.here | apply At2.there))))
        have hc4 : 2 * p' + 2 < xs'.length := by rw [hlen]; exact Int.ofNat_lt.mp hc2
        refine sub_ints F (.there .here) (Int.natCast_nonneg (2 * p' + 1)) (Int.ofNat_lt.mpr hc') hz2 fun t4 => ?_
        refine e_sub ?_
        (refine' e_loc F e ?_ ?_; rotate_left 1; (focus (repeat (first | with_reducible exact At2.here | apply At2.there))))
        (refine' e_loc F e ?_ ?_; rotate_left 1; (focus (repeat (first | with_reducible exact At2.here | apply At2.there))))
        refine sub_ints F (.there .here) (Int.natCast_nonneg (2 * p' + 2)) (Int.ofNat_lt.mpr hc4) hz2 fun t5 => ?_
        refine c_lt ?_
        rw [e1, e2]
        by_cases hc3 : xs'.getD (2 * p' + 1) 0 < xs'.getD (2 * p' + 2) 0
        · rw [decide_eq_true hc3]
          refine x_nil ⟨rfl, hP _ (exi2 (2 * p' + 1) t2 ⟨hc', lt_ch1, ?_, F⟩)⟩
          rw [if_neg (fun q => q.2 hc3)] at hfun; exact hfun
        · rw [decide_eq_false hc3]
          refine x_as ?_
          (refine' e_loc F e ?_ ?_; rotate_left 1; (focus (repeat (first | with_reducible exact At2.here | apply At2.there))))
          (refine' s_loc F e ?_ ?_; rotate_left 1; (focus (repeat (first | with_reducible exact Up2.here | apply Up2.there))); clear F; intro s F)
          refine x_nil ⟨rfl, hP _ (exi2 (2 * p' + 2) t3 ⟨hc4, lt_ch2, ?_, F⟩)⟩
          rw [if_pos ⟨hc4, hc3⟩] at hfun; exact hfun
      · rw [decide_eq_false hc2]
        refine x_nil ⟨rfl, hP _ (exi2 (2 * p' + 1) t2 ⟨hc', lt_ch1, ?_, F⟩)⟩
        rw [if_neg (fun q => hc2 (Int.ofNat_lt.mpr (hlen ▸ q.1)))] at hfun; exact hfun
    · clear F s
      intro s hI1
      refine ex2 hI1 ?_; (try clear hI1); intro cp tc hJ
      refine and4 hJ ?_; clear hJ; intro hcp hcp' hfun F
      refine x_asub (e_sub ?_)
      (refine' e_loc F e ?_ ?_; rotate_left 1; (focus (repeat (first | with_reducible exact At2.here | apply At2.there))))
      (refine' e_loc F e ?_ ?_; rotate_left 1; (focus (repeat (first | with_reducible exact At2.here | apply At2.there))))
      refine sub_ints F (.there .here) (Int.natCast_nonneg _) (Int.ofNat_lt.mpr hcp) hz2 fun t4 => ?_
      rw [Int.toNat_natCast]
      (refine' e_loc F e ?_ ?_; rotate_left 1; (focus (repeat (first | with_reducible exact At2.here | apply At2.there))))
      (refine' e_loc F e ?_ ?_; rotate_left 1; (focus (repeat (first | with_reducible exact At2.here | apply At2.there))))
      refine set_ints F (.there .here) (Int.natCast_nonneg _) (Int.ofNat_lt.mpr h2') hz2 ?_; (clear F; intro s F)
      rw [Int.toNat_natCast] at F
      refine x_as ?_
      (refine' e_loc F e ?_ ?_; rotate_left 1; (focus (repeat (first | with_reducible exact At2.here | apply At2.there))))
      (refine' s_loc F e ?_ ?_; rotate_left 1; (focus (repeat (first | with_reducible exact Up2.here | apply Up2.there))); clear F; intro s F)
      refine x_as (e_bin (e_bin ?_))
      (refine e_int F ?_; clear F; intro tk s F)
      (refine' e_loc F e ?_ ?_; rotate_left 1; (focus (repeat (first | with_reducible exact At2.here | apply At2.there))))
      refine b_mul F ?_; (clear F; intro tk s F)
      (refine e_int F ?_; clear F; intro tk s F)
      refine b_add F ?_; clear F; intro t6 s F
      (refine' s_loc F e ?_ ?_; rotate_left 1; (focus (repeat (first | with_reducible exact Up2.here | apply Up2.there))); clear F; intro s F)
      exact x_nil <| hK _ _ (by rw [List.length_set]; exact down_lt hcp hcp') (exi5 (xs'.set p' (xs'.getD cp 0)) cp _ _ _ ⟨F, by simpa using hcp, by simpa using hlen, hfun, rfl⟩)
  · have hc' : ¬ 2 * p' + 1 < xs'.length := by rw [hlen]; exact fun q => hc (Int.ofNat_lt.mpr q)
    rw [if_neg hc'] at hfun
    rw [decide_eq_false hc]
    refine x_asub ?_
    (refine' e_loc F e ?_ ?_; rotate_left 1; (focus (repeat (first | with_reducible exact At2.here | apply At2.there))))
    (refine' e_loc F e ?_ ?_; rotate_left 1; (focus (repeat (first | with_reducible exact At2.here | apply At2.there))))
    (refine' e_loc F e ?_ ?_; rotate_left 1; (focus (repeat (first | with_reducible exact At2.here | apply At2.there))))
    refine set_ints F (.there .here) (Int.natCast_nonneg _) (Int.ofNat_lt.mpr h2') hz2 ?_; (clear F; intro s F)
    rw [Int.toNat_natCast] at F
    refine x_expr (e_call3 ?_)
    refine e_fn 17 F e ?_
    (refine' e_loc F e ?_ ?_; rotate_left 1; (focus (repeat (first | with_reducible exact At2.here | apply At2.there))))
    (refine' e_loc F e ?_ ?_; rotate_left 1; (focus (repeat (first | with_reducible exact At2.here | apply At2.there))))
    (refine' e_loc F e ?_ ?_; rotate_left 1; (focus (repeat (first | with_reducible exact At2.here | apply At2.there))))
    refine cw_fn F.inv (by decide) (siftdown_spec F.inv (by show A.depth + 1 < _; exact hA) (F.mem (.there .here)) (F.low _ (.tail _ (.head _))) (by rw [List.length_set]; exact hz2) (Int.natCast_nonneg _) (Int.natCast_nonneg _) (by rw [List.length_set]; exact Int.ofNat_lt.mpr h2')) ?_
    intro v s' hI2
    refine and4 hI2 ?_; (try clear hI2); intro hR2 ha hi hk
    subst hR2
    have F := F.after1 (.there .here) ha hi hk
    refine x_nil (hJ _ _ ⟨_, rfl, rfl, F.aft, F.inv, ?_⟩)
    have := F.at _ (.tail _ (.head _))
    unfold suF
    rw [← hfun]
    simpa [h2'] using this
end
end
/-! MX1 -/
section
set_option hygiene false
section
variable {w : World} {A : Around} {E : Value → Shared → Prop} {g : Gd} {s₀ s : Shared} {ms : List Addr} {os os' : Os} {env : Env} {L : Addr} {nl : List Str} {vs vs' : List (Option Value)}

theorem range_reversed {r : Addr} {n : Int} {t u v : Tok} {Q : Value → Shared → Prop} (hr : IsRange s.heap r 0 n 1 t u v) (h0 : 0 ≤ n) (hn : n < 2 ^ 60)
    (h : Q (.ref s.heap.objs.size) { s with heap := s.heap.push { cls := .type "range_iterator", data := .fields #[rawInt (n - 1), rawInt n, rawInt (-1)] } }) : wpAny (model pw w) A (call (.builtin "range.__reversed__") [.ref r]) Q E s := by
  refine wpAny_call_entry F.slot_range_reversed ⟨_, hr, rfl⟩ F.entry_range_reversed ?_ (F.args_range_reversed_1 _)
  unfold Builtin.«range.__reversed__»
  refine wpAny_bind (wpAny_of_eq (a := Value.ref r) rfl ?_)
  refine wpAny_bind (m := Builtin.Range.rangeFields (.ref r)) ?_
  unfold Builtin.Range.rangeFields
  refine wpAny_bind (wpAny_field hr rfl (x := .int 0 t) rfl (wpAny_bind (wpAny_of_eq (a := some 0) rfl ?_)))
  refine wpAny_bind (wpAny_field hr rfl (x := .int n u) rfl (wpAny_bind (wpAny_of_eq (a := some n) rfl ?_)))
  refine wpAny_bind (wpAny_field hr rfl (x := .int 1 v) rfl (wpAny_bind (wpAny_of_eq (a := some 1) rfl ?_)))
  refine wpAny_pure ?_
  have hsz : Builtin.Range.rangeSize 0 n 1 = n := by rw [rangeSize_one]; split <;> lia
  have hsm : (Builtin.Range.rangeFitsLong 0 && Builtin.Range.rangeFitsLong n && Builtin.Range.rangeFitsLong 1 && Builtin.Range.rangeFitsLong (-1) && Builtin.Range.rangeFitsLong (0 - 1) && Builtin.Range.rangeFitsLong n) = true := by
    have a1 : -2 ^ 63 ≤ n := Int.le_trans (by decide) h0
    have a2 : n < 2 ^ 63 := Int.lt_trans hn (by decide)
    simp only [Builtin.Range.rangeFitsLong, Bool.and_eq_true, decide_eq_true_eq]
    exact ⟨⟨⟨⟨⟨⟨by decide, by decide⟩, a1, a2⟩, by decide, by decide⟩, by decide, by decide⟩, by decide, by decide⟩, a1, a2⟩
  dsimp only
  simp only [hsz, hsm, Bool.not_true, Bool.false_eq_true, if_false, if_true]
  have e1 : (0 + (n - 1) * 1 : Int) = n - 1 := by lia
  rw [e1]
  refine wpAny_bind (m := newFields _ _) ?_
  exact wpAny_newObj_type (wpAny_pure ⟨_, rfl, h⟩)

theorem code_reversed_range {r : Addr} {n : Int} {t u v : Tok} {Q₁ : Value → Shared → Prop} (hr : IsRange s.heap r 0 n 1 t u v) (h0 : 0 ≤ n) (hn : n < 2 ^ 60)
    (h : Q₁ (.ref s.heap.objs.size) { s with heap := s.heap.push { cls := .type "range_iterator", data := .fields #[rawInt (n - 1), rawInt n, rawInt (-1)] } }) :
    codeAny (model pw w) A (.call (.builtin "reversed.__new__") ⟨[.type "reversed", .ref r], []⟩) (wants Q₁ E) s := by
  have hT : s.TypeIs (.ref r) "range" := ⟨_, hr, rfl⟩
  refine codeAny_of_tree ?_
  show wpAny _ A.in1 (do checkBuiltinCall "reversed.__new__" ⟨[.type "reversed", .ref r], []⟩; again (.builtin "reversed.__new__" ⟨[.type "reversed", .ref r], []⟩)) _ _ s
  refine wpAny_bind (wpAny_of_eq (F.newCall_reversed_1 _) (wpAny_pure ⟨plainId_quiet F.plain_reversed_new _, codeAny_builtin F.entry_reversed_new ?_⟩))
  rw [Around.under_plainId F.plain_reversed_new _]
  unfold Builtin.«reversed.__new__»
  refine wpAny_bind (wpAny_of_eq (newClass_reversed _) ?_)
  try dsimp only
  refine wpAny_bind (wpAny_of_eq (a := ()) (by first | rfl | kernel_rfl) ?_)
  refine wpAny_bind (wpAny_of_eq (a := ()) (by first | rfl | kernel_rfl) ?_)
  try dsimp only
  refine wpAny_bind (wpAny_specialOf hT F.slot_range_reversed.lookup ?_)
  try dsimp only
  refine wpAny_bind (wpAny_of_eq (F.slot_range_reversed.bind _) ?_)
  try dsimp only
  first
  | rw [if_neg (show ¬ ((Value.builtin "range.__reversed__" == Value.none) = true) from Bool.false_ne_true)]
  | (show wpAny _ _ (if (Value.builtin "range.__reversed__" == Value.none) = true then _ else _) _ _ _; rw [if_neg (show ¬ ((Value.builtin "range.__reversed__" == Value.none) = true) from Bool.false_ne_true)])
  refine wpAny_bind (wpAny_rule ?_)
  refine wpAny_bind (m := runValue (.call (.builtin "range.__reversed__") ⟨[.ref r], []⟩)) (show wpAny _ _ (call (.builtin "range.__reversed__") [.ref r]) _ _ _ from range_reversed hr h0 hn ?_)
  first
  | exact wpAny_pure h
  | exact wpAny_bind (wpAny_pure (wpAny_pure h))
theorem sub_ri_reversed : isSubtype (.type "range_iterator") (.type "reversed") = pure false := by rw [isSubtype_type]; kernel_rfl
theorem call_reversed_range {r : Addr} {n : Int} {t u v : Tok} {Q : Value → Shared → Prop} (hr : IsRange s.heap r 0 n 1 t u v) (h0 : 0 ≤ n) (hn : n < 2 ^ 60)
    (h : Q (.ref s.heap.objs.size) { s with heap := s.heap.push { cls := .type "range_iterator", data := .fields #[rawInt (n - 1), rawInt n, rawInt (-1)] } }) : wpAny (model pw w) A (call (.type "reversed") [.ref r]) Q E s := by
  refine callType_other (U := "range_iterator") (Q₁ := fun obj s₁ => obj = .ref s.heap.objs.size ∧ s₁ = { s with heap := s.heap.push { cls := .type "range_iterator", data := .fields #[rawInt (n - 1), rawInt n, rawInt (-1)] } }) (by decide +kernel) F.create_reversed ⟨_, _, F.mro_reversed⟩ F.made_reversed sub_ri_reversed (F.typeCall_reversed_1 _) (code_reversed_range hr h0 hn ⟨rfl, rfl⟩) ?_
  intro obj s₁ hI2
  refine and2 hI2 ?_; (try clear hI2); intro hR1 hR2
  subst hR1
  subst hR2
  exact ⟨⟨_, Heap.get?_push_size _ rfl, rfl⟩, h⟩

theorem entry_ri_iter : entryFor table "range_iterator.__iter__" = some Builtin.«dict_keyiterator.__iter__» :=
  entryFor_alias (id' := "dict_keyiterator.__iter__") (by kernel_rfl) (by first | rfl | decide +kernel | (unfold String.splitOn; simp +decide [String.splitOnAux])) (by decide +kernel) (by kernel_rfl)
/-- range(n), kept as a thing of the ledger's -/
theorem k_range1 {n : Int} {t : Tok} {Q : Value → Shared → Prop} {p₀ : Addr × K} (F : St g s₀ ms (p₀ :: os) s) (h : ∀ r u v s', s₀.heap.objs.size ≤ r → St g s₀ ms (p₀ :: (r, .raw { cls := .type "range", data := .fields #[.int 0 u, .int n t, .int 1 v] }) :: os) s' → Q (.ref r) s') : Wp w A (call (.type "range") [.int n t]) Q E s :=
  .of (call_range_1 (h _ _ _ _ F.aft.size (F.pushB (s' := { s with heap := _, toks := _ }) rfl (Heap.get?_push_size _ rfl) rfl rfl)))
theorem k_range2 {a b : Int} {t u : Tok} {Q : Value → Shared → Prop} {p₀ : Addr × K} (F : St g s₀ ms (p₀ :: os) s) (h : ∀ r v s', s₀.heap.objs.size ≤ r → St g s₀ ms (p₀ :: (r, .raw { cls := .type "range", data := .fields #[.int a t, .int b u, .int 1 v] }) :: os) s' → Q (.ref r) s') : Wp w A (call (.type "range") [.int a t, .int b u]) Q E s :=
  .of (call_range_2 (h _ _ _ F.aft.size (F.pushB (s' := { s with heap := _, toks := _ }) rfl (Heap.get?_push_size _ rfl) rfl rfl)))
theorem k_reversed {r : Addr} {n : Int} {t u v : Tok} {Q : Value → Shared → Prop} {p₀ : Addr × K} (F : St g s₀ ms (p₀ :: os) s) (hm : Mem (p₀ :: os) r (.raw { cls := .type "range", data := .fields #[.int 0 t, .int n u, .int 1 v] })) (h0 : 0 ≤ n) (hn : n < 2 ^ 60) (h : ∀ it s', s₀.heap.objs.size ≤ it → St g s₀ ms (p₀ :: (it, .riter (n - 1) n (-1)) :: os) s' → Q (.ref it) s') : Wp w A (call (.type "reversed") [.ref r]) Q E s :=
  .of (call_reversed_range (F.mem hm) h0 hn (h _ _ F.aft.size (F.pushB (s' := { s with heap := _ }) rfl (Heap.get?_push_size _ rfl) rfl rfl)))
theorem it_riter {it : Addr} {x left step : Int} {Q : Value → Shared → Prop} (F : St g s₀ ms os s) (hm : Mem os it (.riter x left step)) (h : Q (.ref it) s) : Wp w A (pyIter (.ref it)) Q E s := by
  have hr : IsRangeIter s.heap it x left step := F.mem hm
  have hT : s.TypeIs (.ref it) "range_iterator" := ⟨_, hr, rfl⟩
  refine .of (wpAny_pyIter_slot hT PySem.F.slot_range_iterator_iter (wpAny_call_entry PySem.F.slot_range_iterator_iter hT entry_ri_iter ?_ (PySem.F.args_range_iterator_iter_1 _)))
  show wpAny _ _ (ret (.ref it)) _ _ s
  exact wpAny_pure ⟨_, rfl, "range_iterator", _, hT, PySem.F.slot_range_iterator_next.lookup, h⟩
theorem b_fdiv {a b : Int} {t u : Tok} {Q : Value → Shared → Prop} (F : St g s₀ ms os s) (hb : 0 < b) (hb2 : b < 1000000) (h : ∀ t s', St g s₀ ms os s' → Q (.int (a / b) t) s') : Wp w A (binaryOp .FloorDiv (.int a t) (.int b u)) Q E s := by
  refine .of (floordiv_int (Int.ne_of_gt hb) ?_ (Or.inl (PyProof.noPylong_small (natAbs_small (Int.le_of_lt hb) (Int.lt_trans hb2 (by decide))))))
  rw [Int.fdiv_eq_ediv_of_nonneg _ (Int.le_of_lt hb)]
  exact h _ _ (F.tick _)
end
end
/-! MS3 -/
section
set_option hygiene false
section
variable {w : World} {A : Around} {g : Gd} {σ : Shared}

theorem sdF_len (x : Int) (sp : Nat) (xs : List Int) (p : Nat) : (sdF x sp xs p).length = xs.length := by
  induction p using Nat.strongRecOn generalizing xs with
  | ind p ih =>
    rw [sdF_eq]
    split
    · rename_i h0
      split
      · rw [ih _ (half_dec h0)]; simp
      · simp
    · simp
theorem suF_len (xs : List Int) (p : Nat) (h : p < xs.length) : (suF xs p).length = xs.length := by
  unfold suF
  rw [sdF_len]
  simp [(suDown_len xs p h).1]
/-- sift the places k-1, .., 0 -/
noncomputable def hfF : Nat → List Int → List Int
  | 0, xs => xs
  | k + 1, xs => hfF k (suF xs k)

theorem heapify_spec {l : Addr} {xs : List Int} (I : Iv g σ) (hh : A.handled = none) (hA : A.depth + 2 < recursionLimit) (hl : K.At σ.heap l (.ints xs)) (hlow : g.h₁.objs.size ≤ l) (hz : xs.length < 2 ^ 50) :
    Spec w A (.ref (g.fa 14)) [.ref l] σ (fun v s' => v = .none ∧ After g [l] σ s' ∧ Iv g s' ∧ K.At s'.heap l (.ints (hfF (xs.length / 2) xs))) := by
  have F0 : St g σ [l] [(l, .ints xs)] σ := .start I (by simpa using hl) (by simp) (by simp) (by simpa using hlow)
  refine enter (i := 14) ["x", "n", "i"] [some _, none, none] (pn := ["x"]) (k := 2) I (u_lt hA) (by decide) F0 (by decide +kernel) rfl (fun _ _ _ => by rfl) (by rfl) (by rfl) (by decide +kernel) (by decide +kernel) (by decide +kernel) (by decide +kernel) ?_
  intro L s hL F e J hJ
  refine x_as (e_call1 ?_)
  (refine' e_bi F e ?_ ?_; rotate_left 1; with_reducible constructor)
  (refine' e_loc F e ?_ ?_; rotate_left 1; (focus (repeat (first | with_reducible exact At2.here | apply At2.there))))
  refine cw_bi (len_ints F (.there .here) (Nat.lt_of_lt_of_le hz (lb rfl)) ?_); (clear F; intro tk s F)
  (refine' s_loc F e ?_ ?_; rotate_left 1; (focus (repeat (first | with_reducible exact Up2.here | apply Up2.there))); clear F; intro s F)
  refine x_for (e_call1 ?_)
  (refine' e_bi F e ?_ ?_; rotate_left 1; with_reducible constructor)
  refine e_call1 ?_
  (refine' e_bi F e ?_ ?_; rotate_left 1; with_reducible constructor)
  refine e_bin ?_
  (refine' e_loc F e ?_ ?_; rotate_left 1; (focus (repeat (first | with_reducible exact At2.here | apply At2.there))))
  (refine e_int F ?_; clear F; intro tk s F)
  refine b_fdiv F (by decide) (by decide) ?_; (clear F; intro tk s F)
  refine cw_ty (k_range1 F ?_); clear F; intro r u v s hr F
  have e2 : (xs.length : Int) / 2 = ((xs.length / 2 : Nat) : Int) := rfl
  refine cw_ty (k_reversed F (.there .here) (Int.le_trans (Int.natCast_nonneg (List.length xs / 2)) (Int.le_of_eq (Eq.symm e2))) (by lia) ?_); clear F; intro it s hit F
  refine it_riter F (.there .here) ?_
  refine ⟨fun n s => ∃ (xs' : List Int) (v' : Option Value), n ≤ xs.length / 2 ∧ xs'.length = xs.length ∧ hfF n xs' = hfF (xs.length / 2) xs ∧
    St g σ [l] [(L, .ns ["x", "n", "i"] [some (.ref l), some (.int xs.length _), v']), (it, .riter ((n : Int) - 1) n (-1)), (l, .ints xs')] s, xs.length / 2, ⟨xs, _, Nat.le_refl _, rfl, rfl, by rw [← e2]; exact F.drop (.there (.there .here))⟩, ?_⟩
  clear F s
  intro n s hI2 K hK
  refine ex2 hI2 ?_; (try clear hI2); intro xs' v' hJ
  refine and4 hJ ?_; clear hJ; intro hn hlen hfun F
  refine nx_range F hh (.head _) hL hit (.there .here) (.there .here) (fun hpos => ?_) (fun hpos => ?_)
  · clear F; intro t s F
    obtain ⟨n, rfl⟩ : ∃ k, n = k + 1 := ⟨n - 1, by lia⟩
    refine x_name ?_
    (refine' s_loc F e ?_ ?_; rotate_left 1; (focus (repeat (first | with_reducible exact Up2.here | apply Up2.there))); clear F; intro s F)
    refine x_expr (e_call2 ?_)
    refine e_fn 18 F e ?_
    (refine' e_loc F e ?_ ?_; rotate_left 1; (focus (repeat (first | with_reducible exact At2.here | apply At2.there))))
    (refine' e_loc F e ?_ ?_; rotate_left 1; (focus (repeat (first | with_reducible exact At2.here | apply At2.there))))
    have e1 : ((n + 1 : Nat) : Int) - 1 = (n : Int) := cast_pred
    rw [e1]
    refine cw_fn F.inv (by decide) (siftup_spec F.inv (by show A.depth + 1 + 1 < _; exact hA) (F.mem (.there (.there .here))) (F.low _ (.tail _ (.tail _ (.head _)))) (Nat.lt_of_le_of_lt (Nat.le_of_eq hlen) (Nat.lt_of_lt_of_le hz (lb rfl))) (by lia)) ?_
    intro v s' hI2
    refine and4 hI2 ?_; (try clear hI2); intro hR1 ha hi hk
    subst hR1
    have F := F.after1 (.there (.there .here)) ha hi hk
    have e3 : (n : Int) + -1 = (n : Int) - 1 := rfl
    rw [e1, e3] at F
    exact x_nil <| hK n _ (Nat.lt_succ_self n) (exi2 (suF xs' n) _ ⟨(u_le hn), by rw [suF_len _ _ (by lia)]; exact hlen, hfun, F⟩)
  · clear F; intro s F
    have : n = 0 := by lia
    subst this
    refine x_nil (hJ _ _ ⟨_, rfl, rfl, F.aft, F.inv, ?_⟩)
    rw [← hfun]; exact F.at _ (.tail _ (.head _))

theorem heapreplace_spec {l : Addr} {xs : List Int} {x : Int} {t : Tok} (I : Iv g σ) (hA : A.depth + 2 < recursionLimit) (hl : K.At σ.heap l (.ints xs)) (hlow : g.h₁.objs.size ≤ l) (hz : xs.length < 2 ^ 50) (h0 : 0 < xs.length) :
    Spec w A (.ref (g.fa 13)) [.ref l, .int x t] σ (fun v s' => IsI v (xs.getD 0 0) ∧ After g [l] σ s' ∧ Iv g s' ∧ K.At s'.heap l (.ints (suF (xs.set 0 x) 0))) := by
  have F0 : St g σ [l] [(l, .ints xs)] σ := .start I (by simpa using hl) (by simp) (by simp) (by simpa using hlow)
  refine enter (i := 13) ["heap", "item", "returnitem"] [some _, some _, none] (pn := ["heap", "item"]) (k := 1) I (u_lt hA) (by decide) F0 (by decide +kernel) rfl (fun _ _ _ => by rfl) (by rfl) (by rfl) (by decide +kernel) (by decide +kernel) (by decide +kernel) (by decide +kernel) ?_
  intro L s hL F e J hJ
  refine x_as (e_sub ?_)
  (refine' e_loc F e ?_ ?_; rotate_left 1; (focus (repeat (first | with_reducible exact At2.here | apply At2.there))))
  (refine e_int F ?_; clear F; intro tk s F)
  refine sub_ints F (.there .here) (by decide) (i_lt h0) (Nat.lt_of_lt_of_le hz (lb rfl)) fun t1 => ?_
  (refine' s_loc F e ?_ ?_; rotate_left 1; (focus (repeat (first | with_reducible exact Up2.here | apply Up2.there))); clear F; intro s F)
  refine x_asub ?_
  (refine' e_loc F e ?_ ?_; rotate_left 1; (focus (repeat (first | with_reducible exact At2.here | apply At2.there))))
  (refine' e_loc F e ?_ ?_; rotate_left 1; (focus (repeat (first | with_reducible exact At2.here | apply At2.there))))
  (refine e_int F ?_; clear F; intro tk s F)
  refine set_ints F (.there .here) (by decide) (i_lt h0) (Nat.lt_of_lt_of_le hz (lb rfl)) ?_; (clear F; intro s F)
  refine x_expr (e_call2 ?_)
  refine e_fn 18 F e ?_
  (refine' e_loc F e ?_ ?_; rotate_left 1; (focus (repeat (first | with_reducible exact At2.here | apply At2.there))))
  (refine e_int F ?_; clear F; intro tk s F)
  refine cw_fn F.inv (by decide) (siftup_spec (p := 0) F.inv (by show A.depth + 1 + 1 < _; exact hA) (F.mem (.there .here)) (F.low _ (.tail _ (.head _))) (by simp; exact Nat.lt_of_lt_of_le hz (lb rfl)) (by simpa using h0)) ?_
  intro v s' hI2
  refine and4 hI2 ?_; (try clear hI2); intro hR2 ha hi hk
  subst hR2
  have F := F.after1 (.there .here) ha hi hk
  refine x_ret ?_
  (refine' e_loc F e ?_ ?_; rotate_left 1; (focus (repeat (first | with_reducible exact At2.here | apply At2.there))))
  exact hJ _ _ ⟨_, rfl, ⟨_, rfl⟩, F.aft, F.inv, F.at _ (.tail _ (.head _))⟩
end
end
/-! MX2 -/
section
set_option hygiene false
theorem mro_ba : mroOf (.type "bytearray") = pure [.type "bytearray", .type "object"] := by rw [mroOf_type]; kernel_rfl
theorem lookup_ba_new : typeLookup (.type "bytearray") "__new__" = pure (some (.builtin "bytearray.__new__")) := by rw [typeLookup_type, builtinLookup_eq_fast]; kernel_rfl
theorem slot_ba_init : Slot "bytearray" "__init__" "bytearray.__init__" :=
  .of (owner := "bytearray") (n := "__init__") (by rw [typeLookup_type, builtinLookup_eq_fast]; kernel_rfl) (by decide +kernel) (by decide +kernel) (by decide +kernel)
    (by first | exact .inl (by decide +kernel) | exact .inr (by decide +kernel)) (by rw [isSubtype_type]; kernel_rfl)
theorem slot_ba_set : Slot "bytearray" "__setitem__" "bytearray.__setitem__" :=
  .of (owner := "bytearray") (n := "__setitem__") (by rw [typeLookup_type, builtinLookup_eq_fast]; kernel_rfl) (by decide +kernel) (by decide +kernel) (by decide +kernel)
    (by first | exact .inl (by decide +kernel) | exact .inr (by decide +kernel)) (by rw [isSubtype_type]; kernel_rfl)
theorem called_ba : TypeCalled "bytearray" "bytearray.__new__" "bytearray.__init__" :=
  ⟨by decide +kernel, by decide +kernel, ⟨_, _, mro_ba⟩, madeBy_type mro_ba lookup_ba_new (by decide +kernel), by decide +kernel, by rw [isSubtype_type]; kernel_rfl, slot_ba_init⟩
theorem typeCall_ba_1 (a : Value) : checkTypeCall "bytearray" ⟨[a], []⟩ = pure () := by kernel_rfl
theorem newCall_ba_1 (a : Value) : checkBuiltinCall "bytearray.__new__" ⟨[.type "bytearray", a], []⟩ = pure () := by kernel_rfl
theorem entry_ba_init : entryFor table "bytearray.__init__" = some Builtin.«bytearray.__init__» := by first | exact entryFor_of_fast (by kernel_rfl) | exact entryFor_of_tree (by kernel_rfl)
theorem entry_ba_set : entryFor table "bytearray.__setitem__" = some Builtin.«bytearray.__setitem__» := by first | exact entryFor_of_fast (by kernel_rfl) | exact entryFor_of_tree (by kernel_rfl)
theorem entry_ba_new : entryFor table "bytearray.__new__" = some Builtin.«list.__new__» :=
  entryFor_alias (id' := "list.__new__") (by kernel_rfl) (by first | rfl | decide +kernel | (unfold String.splitOn; simp +decide [String.splitOnAux])) (by decide +kernel) (by kernel_rfl)
theorem plain_ba_new : plainId "bytearray.__new__" = true := by decide +kernel
theorem owner_ba : Manifest.owners.lookup (String.ofList ['y', 'a', 'r', 'r', 'a', 'e', 't', 'y', 'b'].reverse) = some Manifest.sig_bytearray := by kernel_rfl
theorem args_ba_set (a b c : Value) : argsOk "bytearray.__setitem__" ⟨[a, b, c], []⟩ := by
  unfold argsOk; rw [signature?_of (id := "bytearray.__setitem__") (n := ['_', '_', 'm', 'e', 't', 'i', 't', 'e', 's', '_', '_']) (o := ['y', 'a', 'r', 'r', 'a', 'e', 't', 'y', 'b']) (by kernel_rfl) owner_ba]; kernel_rfl
theorem args_ba_init (a b : Value) : argsOk "bytearray.__init__" ⟨[a, b], []⟩ := by
  unfold argsOk; rw [signature?_of (id := "bytearray.__init__") (n := ['_', '_', 't', 'i', 'n', 'i', '_', '_']) (o := ['y', 'a', 'r', 'r', 'a', 'e', 't', 'y', 'b']) (by kernel_rfl) owner_ba]; kernel_rfl
theorem sub_ba_self : isSubtype (.type "bytearray") (.type "bytearray") = pure true := by rw [isSubtype_type]; kernel_rfl
theorem lk_ba_release : typeLookup (.type "bytearray") "__release_buffer__" = pure (some (.builtin "bytearray.__release_buffer__")) := by rw [typeLookup_type, builtinLookup_eq_fast]; kernel_rfl
theorem lk_ba_buffer : typeLookup (.type "bytearray") "__buffer__" = pure (some (.builtin "bytearray.__buffer__")) := by rw [typeLookup_type, builtinLookup_eq_fast]; kernel_rfl
theorem lk_ba_bytes : typeLookup (.type "bytearray") "__bytes__" = pure none := by rw [typeLookup_type, builtinLookup_eq_fast]; kernel_rfl
theorem lk_ba_index : typeLookup (.type "bytearray") "__index__" = pure none := by rw [typeLookup_type, builtinLookup_eq_fast]; kernel_rfl
theorem own_e1 : ("bytearray.__release_buffer__".endsWith ("." ++ "__release_buffer__")) = true := by first | decide +kernel | rfl
theorem own_e2 : ("bytearray.__release_buffer__".dropRight ("__release_buffer__".length + 1)) = "bytearray" := by first | decide +kernel | rfl
theorem own_e3 : ("bytearray.__buffer__".endsWith ("." ++ "__buffer__")) = true := by first | decide +kernel | rfl
theorem own_e4 : ("bytearray.__buffer__".dropRight ("__buffer__".length + 1)) = "bytearray" := by first | decide +kernel | rfl
set_option maxRecDepth 1000000 in
set_option maxHeartbeats 4000000 in
theorem owner_ba_new : ("bytearray.__new__".splitOn ".__new__").headD "" = "bytearray" := by simp +decide [String.splitOn, String.splitOnAux]

section
variable {w : World} {A : Around} {E : Value → Shared → Prop} {g : Gd} {s₀ s : Shared} {ms : List Addr} {os os' : Os} {env : Env} {L : Addr} {nl : List Str} {vs vs' : List (Option Value)}

theorem code_ba_new (a : Value) {Q₁ : Value → Shared → Prop} (h : Q₁ (.ref s.heap.objs.size) { s with heap := s.heap.push (baO #[]) }) :
    codeAny (model pw w) A (.call (.builtin "bytearray.__new__") ⟨[.type "bytearray", a], []⟩) (wants Q₁ E) s := by
  refine codeAny_of_tree ?_
  show wpAny _ A.in1 (do checkBuiltinCall "bytearray.__new__" ⟨[.type "bytearray", a], []⟩; again (.builtin "bytearray.__new__" ⟨[.type "bytearray", a], []⟩)) _ _ s
  refine wpAny_bind (wpAny_of_eq (newCall_ba_1 a) (wpAny_pure ⟨plainId_quiet plain_ba_new _, codeAny_builtin_stack entry_ba_new rfl fun p st => ?_⟩))
  rw [Around.under_plainId plain_ba_new _]
  have hsub := sub_ba_self
  have hown := owner_ba_new
  obtain ⟨hp, g, d, tk, os⟩ := s
  simp only [hown]
  wp_walk
  exact h

end
end
/-! MX3 -/
section
set_option hygiene false
section
variable {w : World} {A : Around} {E : Value → Shared → Prop} {g : Gd} {s₀ s : Shared} {ms : List Addr} {os os' : Os} {env : Env} {L : Addr} {nl : List Str} {vs vs' : List (Option Value)}
/-- a code that asks for its own stack, in a clean context -/
theorem cd_builtin {id : String} {args : Args} {b : Builtin} {R : Result → Shared → Prop} (hb : entryFor table id = some b) (hcl : Cln (.builtin id args) = true)
    (h : Wp w (A.under (.builtin id args)) (b args) (fun fin s' => match fin with | .done f => R (.ok f) s' | .again c' => c'.quiet = true ∧ Cd w A c' R s') (fun e s' => R (.error e) s') s) : Cd w A (.builtin id args) R s := by
  refine Cd.tree hcl ?_
  have hden : denote table (.builtin id args) = b args := by
    show (match entryFor table id with | some b => b args | none => unsupported ((withoutEnding? id "#data").getD id)) = _
    rw [hb]
  rw [hden]
  exact h
theorem Wp.stack {α : Type} {k : List (Code × Pos) → Sem α} {Q : α → Shared → Prop} (h : ∀ l, AllCln l → Wp w A (k l) Q E s) : Wp w A (PySem.stack >>= k) Q E s := Wp.iff.mpr fun Γ p hΓ hb => by
  show Sem.wp _ Γ (Sem.bind PySem.stack k) _ _ p s
  unfold PySem.stack
  rw [Sem.wp_bind, Sem.wp_stack]
  exact Wp.iff.mp (h _ hb) Γ p hΓ hb
theorem not_exported {self : Value} {Q : Bool → Shared → Prop} (h : Q false s) : Wp w A (Builtin.Bytes.exported self) Q E s := by
  unfold Builtin.Bytes.exported
  refine Wp.stack fun l hl => Wp.pure (Eq.mpr (congrArg (fun b => Q b s) (List.any_eq_false.mpr ?_)) h)
  intro x hx
  have hc := hl x hx
  obtain ⟨c, p⟩ := x
  cases c with
  | builtin id args =>
    have hid : badIds.contains id = false := by
      have hc : (!badIds.contains id) = true := hc
      rwa [Bool.not_eq_true'] at hc
    have hne : ∀ b, badIds.contains b = true → ¬ id = b := fun b hb e => by rw [e, hb] at hid; cases hid
    have hde : Builtin.Bytes.decodersThatHold.contains id = false := by
      rw [badIds, List.contains_append, Bool.or_eq_false_iff] at hid
      exact hid.2
    obtain ⟨pos, kw⟩ := args
    delta Builtin.Bytes.exported.match_1
    dsimp only [Builtin.Bytes.exported._sparseCasesOn_1]
    rw [dif_neg (hne "bytearray.__contains__" (by decide)), dif_neg (hne "bytearray.__mod__" (by decide)), dif_neg (hne "bytearray.__rmod__" (by decide)), dif_neg (hne "_struct.pack_into.held" (by decide)), dif_neg (hne "bytearray.find.held" (by decide))]
    cases pos with
    | nil => exact Bool.false_ne_true
    | cons v r =>
      show ¬ (Builtin.Bytes.sameRef v self && _) = true
      rw [hde, Bool.and_false]
      exact Bool.false_ne_true
  | _ => exact Bool.false_ne_true
end
end
/-! MX4 -/
section
set_option hygiene false
section
variable {w : World} {A : Around} {E : Value → Shared → Prop} {g : Gd} {s₀ s : Shared} {ms : List Addr} {os os' : Os} {env : Env} {L : Addr} {nl : List Str} {vs vs' : List (Option Value)}

theorem baO_type {a : Addr} {b : Array UInt8} (h : s.heap.get? a = some (baO b)) : s.TypeIs (.ref a) "bytearray" := ⟨_, h, rfl⟩
theorem own_ba {a : Addr} {b : Array UInt8} {Q : Bool → Shared → Prop} (h : s.heap.get? a = some (baO b)) (q : Q false s) : wpAny (model pw w) A (Builtin.Bytes.ownRelease (.ref a)) Q E s := by
  have hT := baO_type h
  unfold Builtin.Bytes.ownRelease Builtin.Bytes.slotIsOwn
  refine wpAny_bind (wpAny_bind (wpAny_specialOf hT lk_ba_release ?_))
  dsimp only
  rw [own_e1, own_e2]
  exact wpAny_isInstance hT sub_ba_self (wpAny_pure q)
theorem wr_ba {a : Addr} {b : Array UInt8} {f : Array UInt8 → Array UInt8} {Q : Unit → Shared → Prop} (ho : s.heap.get? a = some (baO b)) (hz : (f b).size ≤ 1000)
    (h : ∀ h' : Heap, h'.get? a = some (baO (f b)) → Heap.SameBut a s.heap h' → Q () { s with heap := h' }) : wpAny (model pw w) A (Builtin.Bytes.write (.ref a) f) Q E s := by
  show wpAny _ _ (updateBytearray a f) _ _ _
  unfold updateBytearray
  refine wpAny_bind (wpAny_load ho ?_)
  show wpAny _ _ (update a (Obj.mapBytearray f) >>= fun _ => lookBehind a) _ _ _
  refine wpAny_bind (wpAny_update ho ?_)
  have h2 := Heap.get?_update_self (Obj.mapBytearray f) ho rfl
  refine wpAny_lookBehind h2 ?_ (h _ h2 (Heap.SameBut.update ..))
  show (if (f b).size > sizeLine then some "bytearray:memory" else none) = none
  rw [if_neg]
  show ¬ (2 ^ 24 < (f b).size)
  lia

theorem Wp.callB {T : String} {name : Str} {id : String} {b : Builtin} {self : Value} {rest : List Value} {Q : Value → Shared → Prop} (h : Slot T name id) (hT : s.TypeIs self T) (hb : entryFor table id = some b) (ha : argsOk id ⟨self :: rest, []⟩) (hcl : Cln (Code.builtin id ⟨self :: rest, []⟩) = true)
    (hc : Wp w A.in1 (b ⟨self :: rest, []⟩) (fun fin s' => ∃ v, fin = .done (.ret v) ∧ Q v s') E s) : Wp w A (PySem.call (.builtin id) (self :: rest)) Q E s := by
  refine Wp.call (Cd.tree rfl ?_)
  show Wp w A.in1 (do checkBuiltinCall id ⟨self :: rest, []⟩; again (.builtin id ⟨self :: rest, []⟩)) _ _ s
  refine Wp.bind ((Wp.of (h.check _ _ _ _ _ _ _ (fun _ s' => s' = s) hT ha rfl)).imp fun _ s' e => ?_)
  subst e
  refine Wp.pure ⟨plainId_quiet h.plain _, cd_builtin hb hcl ?_⟩
  rw [Around.under_plainId h.plain _]
  refine hc.imp fun fin s' hf => ?_
  refine ex1 hf ?_; (try clear hf); intro v hJ
  refine and2 hJ ?_; clear hJ; intro hR1 hv
  subst hR1
  exact hv
theorem args3_init (v : Value) : Builtin.Bytes.bindOptional "bytearray.__init__" "bytearray" ["source", "encoding", "errors"] [v] [] = pure [some v, none, none] := by kernel_rfl
theorem k_bytearray {n : Nat} {t : Tok} {p₀ : Addr × K} {Q : Value → Shared → Prop} (F : St g s₀ ms (p₀ :: os) s) (hn0 : 0 < n) (hn : n ≤ 1000) (h : ∀ a s', s₀.heap.objs.size ≤ a → St g s₀ ms (p₀ :: (a, .ba (byteArr (List.replicate n 0))) :: os) s' → Q (.ref a) s') : Wp w A (call (.type "bytearray") [.int n t]) Q E s := by
  have e1 : (!Builtin.Bytes.fitsIndex (n : Int)) = false := by simp [Builtin.Bytes.fitsIndex]; exact i_lt (Nat.lt_of_le_of_lt hn (lb rfl))
  have e2 : ¬ (n : Int) < 0 := (i_nlt (Nat.le_add_left 0 n))
  have e3 : ((n : Int) == 2 ^ 63 - 1) = false := by simp; lia
  have e4 : Builtin.Bytes.tooLong (n : Int).toNat = false := by simp [Builtin.Bytes.tooLong, sizeLine]; exact Nat.le_trans hn (lb rfl)
  have e5 : (n : Int) > 0 := (i_lt hn0)
  have eb : Array.replicate (n : Int).toNat (0 : UInt8) = byteArr (List.replicate n 0) := by
    simp [byteArr]
  refine Wp.call (Cd.tree rfl ?_)
  show Wp w _ (callAny (.type "bytearray") _) _ _ _
  refine Wp.pure ⟨Code.quiet_builtin _ (by decide +kernel), cd_builtin PySem.F.entry_type_call rfl ?_⟩
  rw [Around.under_plain (weight_type_call_type _ _ _) rfl]
  have h1 := called_ba.notType
  have h2 := called_ba.canCreate
  unfold Builtin.«type.__call__»
  simp only [h1, h2, Bool.false_eq_true, if_false]
  refine Wp.bind (Wp.val (typeCall_ba_1 _) ?_)
  refine Wp.bind (Wp.val mro_ba ?_)
  refine Wp.bind (Wp.val called_ba.made ?_)
  refine Wp.bind (Wp.pure ?_)
  refine Wp.bind (Wp.holding (.of (wpAny_call (codeAny_mono (code_ba_new (E := NoE) _ (Q₁ := fun v s' => v = .ref s.heap.objs.size ∧ s' = { s with heap := s.heap.push (baO #[]) }) ⟨rfl, rfl⟩) fun r s' hr => ?_))))
  cases r with
  | error e => exact hr.elim
  | ok fl =>
  cases fl with
  | next => exact hr.elim
  | brk => exact hr.elim
  | cont => exact hr.elim
  | ret obj =>
  refine and2 hr ?_; (try clear hr); intro hR2 hR3
  subst hR2
  subst hR3
  have ho : (s.heap.push (baO #[])).get? s.heap.objs.size = some (baO #[]) := Heap.get?_push_size _ rfl
  have F1 := F.pushB (s' := { s with heap := s.heap.push (baO #[]) }) (k := .ba #[]) rfl ho rfl rfl
  have hl0 := F.aft.size
  revert F1 ho
  generalize ha : s.heap.objs.size = a at *
  generalize ({ s with heap := s.heap.push (baO #[]) } : Shared) = s1
  intro ho F1
  have ho : s1.heap.get? a = some (baO #[]) := F1.mem (.there .here)
  refine Wp.bind (.of (wpAny_isInstance (baO_type ho) sub_ba_self ?_))
  refine Wp.bind (Wp.holding ?_)
  unfold callSpecial?
  refine Wp.bind (.of (wpAny_specialOf (baO_type ho) slot_ba_init.lookup ?_))
  dsimp only
  rw [slot_ba_init.bind]
  refine Wp.holding (Wp.bind (Wp.pure (Wp.bind ?_)))
  refine Wp.callB slot_ba_init (baO_type ho) entry_ba_init (args_ba_init _ _) rfl ?_
  unfold Builtin.«bytearray.__init__»
  dsimp only
  refine Wp.bind (.of (own_ba ho ?_))
  simp only [Bool.false_eq_true, if_false]
  refine Wp.bind (Wp.val (args3_init _) ?_)
  dsimp only
  refine Wp.bind (Wp.val (a := ()) rfl ?_)
  refine Wp.bind (Wp.val (a := ()) rfl ?_)
  refine Wp.bind ?_
  refine Wp.bind (m := Builtin.Bytes.exported (.ref a)) (not_exported ?_)
  refine Wp.bind (m := Builtin.Bytes.exportsOf (.ref a)) ?_
  refine Wp.bind (.of (wpAny_load ho ?_))
  refine Wp.pure (Wp.pure ?_)
  refine wp_ifn (by decide) ?_
  refine Wp.bind (.of (wr_ba ho (by simp) fun h' ho' hs' => ?_))
  have F2 := F1.update (s' := { s1 with heap := h' }) (k' := .ba #[]) (.there .here) hs' ho' rfl rfl
  clear F1 ho
  refine Wp.bind (Wp.val (a := none) rfl ?_)
  refine Wp.bind ?_
  refine wp_ifn (by decide) ?_
  refine wp_ifn (by decide) ?_
  refine Wp.pure ?_
  refine Wp.bind (.of (wpAny_specialOf (T := "int") rfl PySem.F.slot_int_index.lookup ?_))
  refine wp_ify (by rfl) ?_
  refine Wp.bind (Wp.val (a := .ok (n : Int)) rfl ?_)
  dsimp only
  refine wp_ifn (by rw [e1]; exact Bool.false_ne_true) ?_
  refine wp_ifn e2 ?_
  refine wp_ifn (by rw [e3]; exact Bool.false_ne_true) ?_
  refine wp_ifn (by rw [e4]; exact Bool.false_ne_true) ?_
  refine Wp.bind (.of (wpAny_rule ?_))
  refine wp_ify e5 ?_
  refine Wp.bind (.of (wr_ba ho' (by simp; exact hn) fun h2 ho2 hs2 => ?_))
  rw [eb] at ho2
  have F3 := F2.update (s' := { s1 with heap := h2 }) (k' := .ba (byteArr (List.replicate n 0))) (.there .here) hs2 ho2 rfl rfl
  refine Wp.pure ⟨.none, rfl, Wp.pure ?_⟩
  dsimp only
  refine wp_ifn (by decide) ?_
  exact Wp.pure (h a _ hl0 F3)

theorem byteArr_set {xs : List Int} {k : Nat} {x : Int} : (byteArr xs).setIfInBounds k x.toNat.toUInt8 = byteArr (xs.set k x) := by
  simp [byteArr]
theorem set_ba {a : Addr} {k x : Int} {u t : Tok} {xs : List Int} {Q : Unit → Shared → Prop} (F : St g s₀ ms os s) (hu : Up os a (.ba (byteArr xs)) (.ba (byteArr (xs.set k.toNat x))) os') (h0 : 0 ≤ k) (hk : k < xs.length) (hz : xs.length ≤ 1000) (hx0 : 0 ≤ x) (hx : x < 256) (h : ∀ s', St g s₀ ms os' s' → Q () s') : Wp w A (setItem (.ref a) (.int k u) (.int x t)) Q E s := by
  have ho : s.heap.get? a = some (baO (byteArr xs)) := F.at _ hu.mem
  have hT := baO_type ho
  unfold setItem
  refine Wp.holding (Wp.bind (.of (wpAny_sequenceKey hT (by decide) ?_)))
  refine Wp.bind (.of ?_)
  refine wpAny_callSpecial?_slot (name := Str.ofString "__setitem__") hT slot_ba_set (wpAny_call_entry slot_ba_set hT entry_ba_set ?_ (args_ba_set _ _ _))
  unfold Builtin.«bytearray.__setitem__»
  dsimp only
  refine wpAny_bind ?_
  unfold Builtin.Bytes.subscript?
  refine wpAny_bind (wpAny_specialOf (T := "int") rfl PySem.F.slot_int_index.lookup ?_)
  rw [if_neg (by decide)]
  refine wpAny_bind (wpAny_of_eq (a := k) rfl ?_)
  have e1 : (!Builtin.Bytes.fitsIndex k) = false := by simp [Builtin.Bytes.fitsIndex]; lia
  rw [e1, if_neg (by decide)]
  refine wpAny_pure ?_
  dsimp only
  refine wpAny_bind ?_
  unfold Builtin.Bytes.byteValue
  refine wpAny_bind (wpAny_of_eq (a := x) rfl ?_)
  rw [if_neg (by simp; exact ⟨hx0, hx⟩)]
  refine wpAny_pure ?_
  refine wpAny_bind ?_
  unfold Builtin.Bytes.payload Builtin.Bytes.payload?
  refine wpAny_bind (wpAny_bind (wpAny_load ho ?_))
  refine wpAny_pure (wpAny_pure ?_)
  have e2 : seqIndex? k (byteArr xs).size = some k.toNat := by
    unfold seqIndex?
    have : ¬ k < 0 := (Int.not_lt_of_ge h0)
    have h' : (decide (0 ≤ k) && decide (k < (xs.length : Int))) = true := by simp; exact ⟨Int.not_lt.mp this, hk⟩
    simp only [byteArr_size, if_neg this, h', if_true]
  rw [e2]
  refine wpAny_bind (wr_ba ho (by simp [byteArr_size]; exact hz) fun h2 ho2 hs2 => ?_)
  rw [byteArr_set] at ho2
  have F3 := F.update (s' := { s with heap := h2 }) hu hs2 ho2 rfl rfl
  first
    | exact wpAny_pure ⟨.none, rfl, Wp.pure (h _ F3)⟩
    | exact wpAny_bind (wpAny_pure (wpAny_pure ⟨.none, rfl, Wp.pure (h _ F3)⟩))

/-- bytes of a bytearray -/
theorem bytes_ba {a : Addr} {xs : List Int} {Q : Value → Shared → Prop} (F : St g s₀ ms os s) (hm : Mem os a (.ba (byteArr xs))) (hz : xs.length ≤ 1000) (h : ∀ t s', St g s₀ ms os s' → Q (.bytes (byteArr xs) t) s') : Wp w A (call (.type "bytes") [.ref a]) Q E s := by
  have ho : s.heap.get? a = some (baO (byteArr xs)) := F.mem hm
  have hT := baO_type ho
  refine .of (callType_codes (Q₁ := fun obj s₁ => s₁.TypeIs obj "bytes" ∧ Q obj s₁) PySem.F.bm_called (PySem.F.bm_typeCall _) PySem.F.entry_object_init ?_ fun obj s₁ h₁ => ?_)
  · refine codeAny_of_tree ?_
    show wpAny _ A.in1.in1 (do checkBuiltinCall "bytes.__new__" ⟨[.type "bytes", .ref a], []⟩; again (.builtin "bytes.__new__" ⟨[.type "bytes", .ref a], []⟩)) _ _ s
    refine wpAny_bind (wpAny_of_eq (PySem.F.bm_newCall _) (wpAny_pure ⟨plainId_quiet PySem.F.bm_plain _, codeAny_builtin PySem.F.bm_entry ?_⟩))
    rw [Around.under_plainId PySem.F.bm_plain _]
    unfold Builtin.«bytes.__new__»
    refine wpAny_bind (wpAny_of_eq (a := true) rfl ?_)
    refine bm_if_false rfl ?_
    refine wpAny_bind (wpAny_of_eq PySem.F.bm_sub ?_)
    refine bm_if_false rfl ?_
    refine wpAny_bind (wpAny_of_eq (PySem.F.bm_bind _) ?_)
    refine wpAny_bind (wpAny_of_eq (a := ()) rfl ?_)
    refine wpAny_bind (wpAny_of_eq (a := ()) rfl ?_)
    refine bm_if_false rfl ?_
    refine wpAny_bind (wpAny_specialOf hT lk_ba_bytes ?_)
    refine wpAny_bind (wpAny_bind ?_)
    show wpAny _ _ (load a >>= _) _ _ _
    refine wpAny_bind (wpAny_load ho ?_)
    refine wpAny_pure (wpAny_pure ?_)
    refine bm_if_false rfl ?_
    refine wpAny_bind (wpAny_specialOf hT lk_ba_index ?_)
    refine bm_if_true rfl ?_
    first
      | show wpAny _ _ (Builtin.Bytes.buffer? "bytes.__new__" (.ref a) true >>= _) _ _ _
      | (refine wpAny_bind ?_; show wpAny _ _ (Builtin.Bytes.buffer? "bytes.__new__" (.ref a) true >>= _) _ _ _)
    refine wpAny_bind ?_
    unfold Builtin.Bytes.buffer?
    refine wpAny_bind (wpAny_specialOf hT lk_ba_buffer ?_)
    refine wpAny_bind ?_
    unfold Builtin.Bytes.slotIsOwn
    refine wpAny_bind (wpAny_specialOf hT lk_ba_buffer ?_)
    dsimp only
    rw [own_e3, own_e4]
    refine wpAny_isInstance hT sub_ba_self ?_
    rw [if_neg (by decide)]
    refine wpAny_bind (wpAny_specialOf hT lk_ba_buffer ?_)
    try dsimp only
    refine wpAny_bind (own_ba ho ?_)
    rw [if_neg (by decide)]
    unfold Builtin.Bytes.payload Builtin.Bytes.payload?
    refine wpAny_bind (wpAny_bind (wpAny_bind (wpAny_load ho ?_)))
    refine wpAny_pure (wpAny_pure (wpAny_pure ?_))
    refine wpAny_bind (wpAny_rule ?_)
    refine wpAny_bind (wpAny_mkBytes ?_ (by rw [byteArr_size]; show xs.length ≤ 2 ^ 24; exact Nat.le_trans hz (lb rfl)))
    show wpAny _ _ (if (Value.type "bytes" == Value.type "bytes") = true then _ else _) _ _ _
    refine bm_if_true (by decide) ?_
    first
      | exact wpAny_pure ⟨PySem.W.typeIs_bytes _ _ _, h _ _ (F.tick _)⟩
      | exact wpAny_bind (wpAny_pure (wpAny_pure ⟨PySem.W.typeIs_bytes _ _ _, h _ _ (F.tick _)⟩))
  · exact ⟨h₁.1, PySem.F.args_object_init_2 obj _, object_init_meets PySem.F.bm_called.init.lookup PySem.F.bm_called.made (by decide) pw w A.in1 _ s₁ ⟨h₁.1, rfl, h₁.2⟩⟩
end
end
/-! MS4 -/
section
set_option hygiene false
section
variable {w : World} {A : Around} {E : Value → Shared → Prop} {g : Gd} {s₀ s : Shared} {ms : List Addr} {os os' : Os} {env : Env} {L : Addr} {nl : List Str} {vs vs' : List (Option Value)}
theorem k_range3 {a b c : Int} {t u v : Tok} {Q : Value → Shared → Prop} {p₀ : Addr × K} (F : St g s₀ ms (p₀ :: os) s) (hc : c ≠ 0) (hb : -1000 ≤ b - a ∧ b - a ≤ 1000) (hc' : -1000 ≤ c ∧ c ≤ 1000) (h : ∀ r s', s₀.heap.objs.size ≤ r → St g s₀ ms (p₀ :: (r, .raw { cls := .type "range", data := .fields #[.int a t, .int b u, .int c v] }) :: os) s' → Q (.ref r) s') : Wp w A (call (.type "range") [.int a t, .int b u, .int c v]) Q E s :=
  .of (call_range_3 hc (h _ _ F.aft.size (F.pushB (s' := { s with heap := _, toks := _ }) rfl (Heap.get?_push_size _ rfl) rfl rfl)) (Or.inl (PyProof.noPylong_small (by lia))))
theorem small_of {a b c : Int} (h1 : -1000000 ≤ a ∧ a ≤ 1000000) (h2 : -1000000 ≤ b ∧ b ≤ 1000000) (h3 : 1 ≤ c ∧ c ≤ 1000000) : Builtin.Range.small a b c = true := by
  have h4 : 0 ≤ Builtin.Range.rangeSize a b c ∧ Builtin.Range.rangeSize a b c ≤ 1000000000 := by
    unfold Builtin.Range.rangeSize
    rw [if_pos (by lia)]
    split
    · have := Int.ediv_le_self c (show (0 : Int) ≤ b - a - 1 by lia)
      have h0 := Int.ediv_nonneg (show (0 : Int) ≤ b - a - 1 by lia) (show (0 : Int) ≤ c by lia)
      lia
    · lia
  unfold Builtin.Range.small
  generalize Builtin.Range.rangeSize a b c = z at *
  simp only [Builtin.Range.rangeFitsLong, Bool.and_eq_true, Bool.or_eq_true, decide_eq_true_eq]
  rw [if_pos (by lia)]
  simp only [Bool.and_eq_true, decide_eq_true_eq]
  refine ⟨⟨⟨⟨?_, ?_⟩, ?_⟩, ?_⟩, .inr ?_⟩ <;> lia
theorem it_rangeM {r : Addr} {a b c : Int} {t u v : Tok} {Q : Value → Shared → Prop} {p₀ : Addr × K} (F : St g s₀ ms (p₀ :: os) s) (hm : Mem (p₀ :: os) r (.raw { cls := .type "range", data := .fields #[.int a t, .int b u, .int c v] })) (hsmall : Builtin.Range.small a b c = true) (h : ∀ it s', s₀.heap.objs.size ≤ it → St g s₀ ms (p₀ :: (it, .riter a (Builtin.Range.rangeSize a b c) c) :: os) s' → Q (.ref it) s') : Wp w A (pyIter (.ref r)) Q E s :=
  it_range F (F.mem hm) hsmall h
theorem len_byt {xs : List Int} {t : Tok} {Q : Value → Shared → Prop} (F : St g s₀ ms os s) (hz : xs.length ≤ 1000) (h : ∀ t s', St g s₀ ms os s' → Q (.int xs.length t) s') : Wp w A (call (.builtin "len") [.bytes (byteArr xs) t]) Q E s := by
  refine .of (PySem.W.len_bytes (by rw [byteArr_size]; exact Nat.le_trans hz (lb rfl)) ?_)
  rw [byteArr_size]
  exact h _ _ (F.tick _)
noncomputable def Byts (xs : List Int) : Prop := ∀ i, 0 ≤ xs.getD i 0 ∧ xs.getD i 0 < 256
theorem sub_byt {xs : List Int} {t u : Tok} {k : Int} {Q : Value → Shared → Prop} (F : St g s₀ ms os s) (hb : Byts xs) (h0 : 0 ≤ k) (hk : k < xs.length) (hz : xs.length ≤ 1000) (h : ∀ t s', St g s₀ ms os s' → Q (.int (xs.getD k.toNat 0) t) s') : SubOn w A (.bytes (byteArr xs) t) (.int k u) Q E s := by
  refine ⟨"bytes", "bytes.__getitem__", PySem.W.FB.slot_bytes_getitem.lookup, rfl, .of ?_⟩
  unfold byteArr
  have hfit : (xs.map fun n => n.toNat.toUInt8).length ≤ 1099511627776 := by rw [List.length_map]; exact Nat.le_trans hz (lb rfl)
  have hkk : k < (xs.map fun n => n.toNat.toUInt8).length := by rw [List.length_map]; exact hk
  generalize hl : (xs.map fun n => n.toNat.toUInt8) = l at hfit hkk
  refine PySem.W.getItem_bytes hfit h0 hkk ?_
  subst hl
  have hlt : k.toNat < xs.length := (tN_lt h0 hk)
  have e : (((xs.map fun (n : Int) => n.toNat.toUInt8).getD k.toNat 0).toNat : Int) = xs.getD k.toNat 0 := by
    have := hb k.toNat
    simp only [List.getD_eq_getElem?_getD, List.getElem?_map] at this ⊢
    rw [List.getElem?_eq_getElem hlt] at this ⊢
    simp only [Option.map_some, Option.getD_some] at this ⊢
    have h2 : (xs[k.toNat].toNat.toUInt8).toNat = xs[k.toNat].toNat := by
      simp; exact this.right
    rw [h2]; exact tN_eq this.left
  rw [e]
  exact h _ _ (F.tick _)
end
section
variable {w : World} {A : Around} {g : Gd} {σ : Shared}
noncomputable def bsIn (xs : List Int) (w i : Nat) : Nat → List Int → List Int
  | 0, ys => ys
  | k + 1, ys => bsIn xs w i k (ys.set (i + k) (xs.getD (i + (w - (k + 1))) 0))
noncomputable def bsOut (xs : List Int) (w : Nat) : Nat → Nat → List Int → List Int
  | 0, _, ys => ys
  | m + 1, i, ys => bsOut xs w m (i + w) (bsIn xs w i w ys)
noncomputable def bsF (xs : List Int) (w : Nat) : List Int := bsOut xs w (xs.length / w) 0 (List.replicate xs.length 0)
theorem bsIn_len (xs : List Int) (w i k : Nat) (ys : List Int) : (bsIn xs w i k ys).length = ys.length := by
  induction k generalizing ys with
  | zero => rfl
  | succ k ih => exact (ih _).trans List.length_set
theorem bsOut_len (xs : List Int) (w m i : Nat) (ys : List Int) : (bsOut xs w m i ys).length = ys.length := by
  induction m generalizing ys i with
  | zero => rfl
  | succ k ih => exact (ih ..).trans (bsIn_len ..)

theorem byteswap_spec {xs : List Int} {k : Nat} {t u : Tok} (I : Iv g σ) (hh : A.handled = none) (hA : A.depth < recursionLimit) (hb : Byts xs) (hk : 0 < k) (hd : k ∣ xs.length) (hz0 : 0 < xs.length) (hz : xs.length ≤ 1000) :
    Spec w A (.ref (g.fa 2)) [.bytes (byteArr xs) t, .int k u] σ (fun v s' => (∃ t', v = .bytes (byteArr (bsF xs k)) t') ∧ After g [] σ s' ∧ Iv g s') := by
  have F0 : St g σ [] [] σ := .start I (by simp) (by simp) (by simp) (by simp)
  refine enter (i := 2) ["data", "width", "swapped_data", "i", "j"] [some _, some _, none, none, none] (pn := ["data", "width"]) (k := 3) I hA (by decide) F0 (by decide +kernel) rfl (fun _ _ _ => by rfl) (by rfl) (by rfl) (by decide +kernel) (by decide +kernel) (by decide +kernel) (by decide +kernel) ?_
  intro L s hL F e J hJ
  obtain ⟨m, hm⟩ := hd
  have hk1 : k ≤ xs.length := Nat.le_of_dvd hz0 ⟨m, hm⟩
  have hdiv : xs.length / k = m := by rw [hm]; exact Nat.mul_div_cancel_left m hk
  refine x_as (e_call1 ?_)
  (refine' e_bi F e ?_ ?_; rotate_left 1; with_reducible constructor)
  refine e_call1 ?_
  (refine' e_bi F e ?_ ?_; rotate_left 1; with_reducible constructor)
  (refine' e_loc F e ?_ ?_; rotate_left 1; (focus (repeat (first | with_reducible exact At2.here | apply At2.there))))
  refine cw_bi (len_byt F hz ?_); (clear F; intro tk s F)
  refine cw_ty (k_bytearray F hz0 hz ?_); clear F; intro a s ha F
  (refine' s_loc F e ?_ ?_; rotate_left 1; (focus (repeat (first | with_reducible exact Up2.here | apply Up2.there))); clear F; intro s F)
  refine x_for (e_call3 ?_)
  (refine' e_bi F e ?_ ?_; rotate_left 1; with_reducible constructor)
  (refine e_int F ?_; clear F; intro tk s F)
  refine e_call1 ?_
  (refine' e_bi F e ?_ ?_; rotate_left 1; with_reducible constructor)
  (refine' e_loc F e ?_ ?_; rotate_left 1; (focus (repeat (first | with_reducible exact At2.here | apply At2.there))))
  refine cw_bi (len_byt F hz ?_); (clear F; intro tk s F)
  (refine' e_loc F e ?_ ?_; rotate_left 1; (focus (repeat (first | with_reducible exact At2.here | apply At2.there))))
  refine cw_ty (k_range3 F (by lia) (by lia) ⟨i_lo, i_le (Nat.le_trans hk1 hz)⟩ ?_); clear F; intro r s hr F
  refine it_rangeM F (.there .here) (small_of ⟨by decide, by decide⟩ ⟨i_lo, i_le (Nat.le_trans hz (lb rfl))⟩ (by lia)) ?_; clear F; intro it s hit F
  have hsz : Builtin.Range.rangeSize 0 xs.length k = m := by
    unfold Builtin.Range.rangeSize
    rw [if_pos (by exact i_lt hk), if_pos (by exact i_lt hz0)]
    have : ((xs.length : Int) - 0 - 1) / k = m - 1 := by
      rw [hm]
      have e1 : (((k * m : Nat) : Int) - 0 - 1) = (k - 1 : Int) + k * (m - 1 : Int) := by push_cast; rw [Int.mul_sub]; lia
      rw [e1, Int.add_mul_ediv_left _ _ (by lia), Int.ediv_eq_zero_of_lt (by lia) (by lia)]
      lia
    lia
  rw [hsz] at F
  refine ⟨fun n s => ∃ (i : Nat) (ys : List Int) (v4 v5 : Option Value), i + k * n = xs.length ∧ ys.length = xs.length ∧ bsOut xs k n i ys = bsF xs k ∧
    St g σ [] [(L, .ns ["data", "width", "swapped_data", "i", "j"] [some (.bytes (byteArr xs) t), some (.int k u), some (.ref a), v4, v5]), (it, .riter i n k), (a, .ba (byteArr ys))] s, m, ⟨0, _, _, _, by rw [hm]; exact add_sub' (Nat.le_add_left 0 (Nat.mul k m)), by simp, by rw [bsF, hdiv], F.drop (.there (.there .here))⟩, ?_⟩
  clear F s
  intro n s hI2 K hK
  refine ex4 hI2 ?_; (try clear hI2); intro i ys v4 v5 hJ
  refine and4 hJ ?_; clear hJ; intro hi hlen hfun F
  refine nx_range F hh (.head _) hL hit (.there .here) (.there .here) (fun hpos => ?_) (fun hpos => ?_)
  · clear F; intro t4 s F
    obtain ⟨n, rfl⟩ : ∃ k, n = k + 1 := ⟨n - 1, by lia⟩
    refine x_name ?_
    (refine' s_loc F e ?_ ?_; rotate_left 1; (focus (repeat (first | with_reducible exact Up2.here | apply Up2.there))); clear F; intro s F)
    refine x_for (e_call1 ?_)
    (refine' e_bi F e ?_ ?_; rotate_left 1; with_reducible constructor)
    (refine' e_loc F e ?_ ?_; rotate_left 1; (focus (repeat (first | with_reducible exact At2.here | apply At2.there))))
    refine cw_ty (k_range1 F ?_); clear F; intro r2 u2 v2 s hr2 F
    refine it_rangeM F (.there .here) (small_of ⟨by decide, by decide⟩ ⟨i_lo, i_le (Nat.le_trans hk1 (Nat.le_trans hz (lb rfl)))⟩ ⟨by decide, by decide⟩) ?_; clear F; intro it2 s hit2 F
    have hsz2 : Builtin.Range.rangeSize 0 k 1 = k := by rw [rangeSize_one]; split <;> lia
    rw [hsz2] at F
    rw [Nat.mul_add] at hi
    refine ⟨fun c s => ∃ (ys' : List Int) (v5 : Option Value), c ≤ k ∧ ys'.length = xs.length ∧ bsIn xs k i c ys' = bsIn xs k i k ys ∧
      St g σ [] [(L, .ns ["data", "width", "swapped_data", "i", "j"] [some (.bytes (byteArr xs) t), some (.int k u), some (.ref a), some (.int i t4), v5]), (it2, .riter ((k - c : Nat) : Int) c 1), (it, .riter (i + k) (((n + 1 : Nat) : Int) - 1) k), (a, .ba (byteArr ys'))] s, k, ⟨ys, _, Nat.le_refl _, hlen, rfl, by rw [Nat.sub_self]; exact F.drop (.there (.there .here))⟩, ?_⟩
    clear F s
    intro c s hI2 K2 hK2
    refine ex2 hI2 ?_; (try clear hI2); intro ys' v5 hJ
    refine and4 hJ ?_; clear hJ; intro hc hlen' hfun' F
    refine nx_range F hh (.head _) hL hit2 (.there .here) (.there .here) (fun hpos2 => ?_) (fun hpos2 => ?_)
    · clear F; intro t5 s F
      obtain ⟨c, rfl⟩ : ∃ k, c = k + 1 := ⟨c - 1, by lia⟩
      refine x_name ?_
      (refine' s_loc F e ?_ ?_; rotate_left 1; (focus (repeat (first | with_reducible exact Up2.here | apply Up2.there))); clear F; intro s F)
      refine x_asub (e_sub ?_)
      (refine' e_loc F e ?_ ?_; rotate_left 1; (focus (repeat (first | with_reducible exact At2.here | apply At2.there))))
      refine e_bin ?_
      (refine' e_loc F e ?_ ?_; rotate_left 1; (focus (repeat (first | with_reducible exact At2.here | apply At2.there))))
      (refine' e_loc F e ?_ ?_; rotate_left 1; (focus (repeat (first | with_reducible exact At2.here | apply At2.there))))
      refine b_add F ?_; (clear F; intro tk s F)
      have c0 : i + k ≤ xs.length := by rw [← hi, Nat.mul_one]; exact Nat.add_le_add_left (Nat.le_add_left _ _) i
      have c1 : i + (k - (c + 1)) < xs.length := Nat.lt_of_lt_of_le (Nat.add_lt_add_left (Nat.sub_lt (Nat.lt_of_lt_of_le (Nat.succ_pos c) hc) (Nat.succ_pos c)) i) c0
      have c2 : i + c < ys'.length := by rw [hlen']; exact Nat.lt_of_lt_of_le (Nat.add_lt_add_left hc i) c0
      refine sub_byt F hb (Int.natCast_nonneg (i + (k - (c + 1)))) (Int.ofNat_lt.mpr c1) hz ?_; (clear F; intro tk s F)
      (refine' e_loc F e ?_ ?_; rotate_left 1; (focus (repeat (first | with_reducible exact At2.here | apply At2.there))))
      refine e_bin (e_bin (e_bin ?_))
      (refine' e_loc F e ?_ ?_; rotate_left 1; (focus (repeat (first | with_reducible exact At2.here | apply At2.there))))
      (refine' e_loc F e ?_ ?_; rotate_left 1; (focus (repeat (first | with_reducible exact At2.here | apply At2.there))))
      refine b_add F ?_; (clear F; intro tk s F)
      (refine e_int F ?_; clear F; intro tk s F)
      refine b_sub F ?_; (clear F; intro tk s F)
      (refine' e_loc F e ?_ ?_; rotate_left 1; (focus (repeat (first | with_reducible exact At2.here | apply At2.there))))
      refine b_sub F ?_; (clear F; intro tk s F)
      have hx := hb ((i : Int) + ((k - (c + 1) : Nat) : Int)).toNat
      refine set_ba F (.there (.there (.there .here))) (by rw [bsw0 hc]; exact Int.natCast_nonneg _) (by rw [bsw0 hc]; exact Int.ofNat_lt.mpr c2) (by rw [hlen']; exact hz) hx.1 hx.2 ?_; (clear F; intro s F)
      have e1 : ((i : Int) + k - 1 - ((k - (c + 1) : Nat) : Int)).toNat = i + c := tn (bsw0 hc)
      have e2 : ((i : Int) + ((k - (c + 1) : Nat) : Int)).toNat = i + (k - (c + 1)) := tn rfl
      have e3 : ((k - (c + 1) : Nat) : Int) + 1 = ((k - c : Nat) : Int) := cast_up hc
      have e4 : ((c + 1 : Nat) : Int) - 1 = (c : Int) := cast_pred
      rw [e1, e2, e3, e4] at F
      exact x_nil <| hK2 c _ (Nat.lt_succ_self c) (exi2 _ _ ⟨(u_le hc), by simpa using hlen', hfun', F⟩)
    · clear F; intro s F
      have : c = 0 := by lia
      subst this
      refine x_nil (hK n _ (Nat.lt_succ_self n) ⟨i + k, ys', some (.int i t4), v5, by lia, hlen', ?_, ?_⟩)
      · rw [← hfun, show bsOut xs k (n + 1) i ys = bsOut xs k n (i + k) (bsIn xs k i k ys) from rfl, ← hfun']; rfl
      · have e4 : ((n + 1 : Nat) : Int) - 1 = (n : Int) := cast_pred
        have e5 : (i : Int) + k = ((i + k : Nat) : Int) := by push_cast; rfl
        rw [e4, e5] at F
        exact F
  · clear F; intro s F
    have : n = 0 := by lia
    subst this
    refine x_ret (e_call1 ?_)
    (refine' e_bi F e ?_ ?_; rotate_left 1; with_reducible constructor)
    (refine' e_loc F e ?_ ?_; rotate_left 1; (focus (repeat (first | with_reducible exact At2.here | apply At2.there))))
    refine cw_ty (bytes_ba F (.there .here) (Nat.le_trans (Nat.le_of_eq hlen) hz) ?_); (clear F; intro tk s F)
    have hfun : ys = bsF xs k := hfun
    exact hJ _ _ ⟨_, rfl, ⟨_, by rw [hfun]⟩, F.aft, F.inv⟩
end
end
/-! MX5 -/
section
set_option hygiene false
section
variable {w : World} {A : Around} {E : Value → Shared → Prop} {g : Gd} {s₀ s s' : Shared} {ms : List Addr} {os os' : Os} {env : Env} {L : Addr} {nl : List Str} {vs vs' : List (Option Value)}

theorem St.grow (F : St g s₀ ms os s) (hk : ∀ b o, s.heap.get? b = some o → s'.heap.get? b = some o) (hz : s.heap.objs.size ≤ s'.heap.objs.size) (ho : s'.os = s.os) (hg : s'.gens = s.gens) : St g s₀ ms os s' :=
  F.after0 ⟨fun b o e _ _ => hk b o e, fun b o e _ => hk b o e, hz, ho, fun h => hg ▸ h⟩ (F.inv.step (fun b o e _ => hk b o e) hz fun b o e _ => hk b o e)
theorem St.fresh {p₀ : Addr × K} (F : St g s₀ ms (p₀ :: os) s) (hk : ∀ b o, s.heap.get? b = some o → s'.heap.get? b = some o) (ho : s'.os = s.os) (hg : s'.gens = s.gens) {a : Addr} {k : K} (ha : K.At s'.heap a k) (hl : s.heap.objs.size ≤ a) : St g s₀ ms (p₀ :: (a, k) :: os) s' := by
  have hz : s.heap.objs.size ≤ s'.heap.objs.size := Nat.le_of_lt (Nat.lt_of_le_of_lt hl ha.lt)
  refine ((F.grow hk hz ho hg).add ha (fun p hp e => ?_) (Nat.le_trans F.aft.size hl)).swap
  have : @LT.lt Nat _ p.1 s.heap.objs.size := (F.at p hp).lt
  exact Nat.lt_irrefl _ (Nat.lt_of_lt_of_le (e ▸ this) hl)

theorem St.bring {p : Addr × K} {a : Addr} {k : K} (F : St g s₀ ms (p :: os) s) (hd : Del os a k os') : St g s₀ ms (p :: (a, k) :: os') s := by
  have hn := F.nod
  rw [List.map_cons, List.nodup_cons] at hn
  have h1 := hd.nod hn.2
  refine F.sub (fun q hq => ?_) ?_
  · rcases List.mem_cons.mp hq with rfl | hq
    · exact .head _
    · rcases List.mem_cons.mp hq with rfl | hq
      · exact .tail _ hd.mem
      · exact .tail _ (hd.sub hq)
  · simp only [List.map_cons, List.nodup_cons, List.mem_cons, not_or]
    refine ⟨⟨fun e => hn.1 (e ▸ List.mem_map_of_mem (f := (·.1)) hd.mem), fun hm => ?_⟩, fun hm => ?_, h1.1⟩
    · refine ex1 (List.mem_map.mp hm) ?_; intro q hJ
      refine and2 hJ ?_; clear hJ; intro hq e
      exact hn.1 (e ▸ List.mem_map_of_mem (f := (·.1)) (hd.sub hq))
    · refine ex1 (List.mem_map.mp hm) ?_; intro q hJ
      refine and2 hJ ?_; clear hJ; intro hq e
      exact h1.2 q hq e
theorem St.freshH {p₀ : Addr × K} {h' : Heap} {tk : Nat} (F : St g s₀ ms (p₀ :: os) s) {a : Addr} {k : K} (hk : ∀ b o, s.heap.get? b = some o → h'.get? b = some o) (ha : K.At h' a k) (hl : s.heap.objs.size ≤ a) : St g s₀ ms (p₀ :: (a, k) :: os) { heap := h', gens := s.gens, drawn := s.drawn, toks := tk, os := s.os } :=
  F.fresh (s' := { heap := h', gens := s.gens, drawn := s.drawn, toks := tk, os := s.os }) hk rfl rfl ha hl
/-! int things -/
theorem b_pow {a b : Int} {t u : Tok} {Q : Value → Shared → Prop} (F : St g s₀ ms os s) (h0 : 0 ≤ b) (hb : b ≤ 100) (ha : ¬(a == 0 || a == 1) = true) (ha1 : ¬ (a == -1) = true) (hbits : Builtin.Int.intBits a ≤ 10) (h : ∀ t s', St g s₀ ms os s' → Q (.int (a ^ b.toNat) t) s') : Wp w A (binaryOp .Pow (.int a t) (.int b u)) Q E s := by
  by_cases hz : b = 0
  · subst hz
    have e : (1 : Int) = a ^ (0 : Int).toNat := by simp
    refine .of (AutoIntOps.pow_0 h0 (by rfl) ?_)
    rw [e]
    exact h _ _ (F.tick _)
  · refine .of (AutoIntOps.pow_4 h0 (by simpa using hz) ha ha1 ?_ (h _ _ (F.tick _)))
    have h1 : ((Builtin.Int.intBits a : Nat) : Int) * b ≤ 1000 := by
      have : ((Builtin.Int.intBits a : Nat) : Int) * b ≤ 10 * 100 := Int.mul_le_mul (i_le hbits) hb h0 (by decide)
      lia
    have h2 : (1000 : Int) ≤ bitsLine := by decide
    simp only [Builtin.Int.intTooBig, decide_eq_true_eq]
    lia

/-! slices -/
noncomputable def SlcOn (w : World) (A : Around) (o l u : Value) (Q : Value → Shared → Prop) (E : Value → Shared → Prop) (s : Shared) : Prop :=
  ∃ T id, typeLookup (.type T) "__getitem__" = pure (some (.builtin id)) ∧ Shared.TypeIs { s with heap := s.heap.push { cls := .type "slice", data := .fields #[l, u, .none] } } o T ∧
    Wp w A (getItem o (.ref s.heap.objs.size)) Q E { s with heap := s.heap.push { cls := .type "slice", data := .fields #[l, u, .none] } }
theorem e_slc {value : Expr} {lower upper : Option Expr} {p pos : Pos} {Q : Value → Shared → Prop}
    (h : Wp w A (eval value env) (fun o s₁ => Wp w A (evalPart lower env) (fun l s₂ => Wp w A (evalPart upper env) (fun u s₃ => SlcOn w A o l u Q E s₃) E s₂) E s₁) E s)
    : Wp w A (eval (.Subscript value (.Slice lower upper none p) pos) env) Q E s := by
  rw [eval_Subscript]
  refine Wp.bind (h.imp fun o s₁ h₁ => Wp.bind (Wp.holding ?_))
  rw [arm_eval_Slice]
  refine Wp.bind (h₁.imp fun l s₂ h₂ => Wp.bind (Wp.holding (h₂.imp fun u s₃ h₃ => Wp.bind (Wp.holding (Wp.pure ?_)))))
  refine ex2 h₃ ?_; (try clear h₃); intro T id hJ
  refine and3 hJ ?_; clear hJ; intro hl hT hg
  refine .of (wpAny_newObj_type (Wp.bind (Wp.standAt ?_)))
  rw [getitemInPython_of_ne hT.not_modules]
  refine Wp.bind (Wp.bind (.of (wpAny_specialOf hT hl (Wp.pure (Wp.bind ?_)))))
  refine Wp.eq (t' := operate [.ref s₃.heap.objs.size, o] (getItem o (.ref s₃.heap.objs.size))) rfl ?_
  exact Wp.operate (hg.imp fun r s₃ h₃ => Wp.bind (.of (wpAny_letTemporaryGo (Wp.pure h₃))))
theorem p_none {Q : Value → Shared → Prop} (h : Q .none s) : Wp w A (evalPart none env) Q E s := Wp.pure h
theorem p_some {x : Expr} {Q : Value → Shared → Prop} (h : Wp w A (eval x env) Q E s) : Wp w A (evalPart (some x) env) Q E s := h
theorem p_int {a : Int} {t : Tok} : IsPart (.int a t) (some a) := .int a t
theorem Ints.are {vs : List Value} {xs : List Int} (h : Ints vs xs) : IntsAre vs xs := by
  induction h with
  | nil => exact .nil
  | cons hv _ ih => obtain ⟨t, rfl⟩ := hv; exact .cons _ t ih
theorem Ints.of {vs : List Value} {xs : List Int} (h : IntsAre vs xs) : Ints vs xs := by
  induction h with
  | nil => exact .nil
  | cons x t _ ih => exact .cons ⟨t, rfl⟩ ih
/-- a slice of a list -/
theorem slc_list {l : Addr} {items : List Value} {n : Nat} {vl vu : Value} {lo hi : Option Int} {p₀ : Addr × K} {Q : Value → Shared → Prop} (F : St g s₀ ms (p₀ :: os) s) (ho : s.heap.get? l = some (listO items n)) (pl : IsPart vl lo) (pu : IsPart vu hi) (hz : items.length ≤ 1000)
    (h : ∀ r s', s₀.heap.objs.size ≤ r → St g s₀ ms (p₀ :: (r, .list (slicePick items.toArray lo hi none).toList) :: os) s' → Q (.ref r) s') : SlcOn w A (.ref l) vl vu Q E s := by
  have hl := listO_is ho
  refine ⟨"list", "list.__getitem__", list_getitem_lookup, (hl.push _).typeIs, .of (wpAny_getItem_list_slice (hl.push _) (Heap.IsSliceOf.new ..) pl pu .none (by simp) ?_ (by show items.toArray.size ≤ 2 ^ 24; rw [List.size_toArray]; exact Nat.le_trans hz (lb rfl)))⟩
  have hz2 : @LE.le Nat _ s.heap.objs.size (s.heap.push { cls := .type "slice", data := .fields #[vl, vu, .none] }).objs.size := by rw [Heap.size_push]; exact Nat.le_succ _
  refine h _ _ (Nat.le_trans F.aft.size hz2) (F.freshH (fun b o e => Heap.get?_push_of_some _ (Heap.get?_push_of_some _ e)) (Exists.intro 0 ?_) hz2)
  rw [listO, Array.toArray_toList]
  exact Heap.get?_push_size _ rfl
theorem K.At.ints_of {h : Heap} {a : Addr} {vs : List Value} {xs : List Int} (x : K.At h a (.list vs)) (hi : Ints vs xs) : K.At h a (.ints xs) := let ⟨n, e⟩ := x; ⟨vs, n, e, hi⟩
theorem St.to_ints {a : Addr} {vs : List Value} {xs : List Int} {p₀ : Addr × K} (F : St g s₀ ms (p₀ :: (a, .list vs) :: os) s) (hi : Ints vs xs) : St g s₀ ms (p₀ :: (a, .ints xs) :: os) s := by
  refine ⟨F.inv, F.aft, fun p hp => ?_, F.nod, fun p hp hs => ?_, fun p hp => ?_, F.base⟩
  · rcases List.mem_cons.mp hp with rfl | hp
    · exact F.at _ (.head _)
    · rcases List.mem_cons.mp hp with rfl | hp
      · exact (F.at (a, .list vs) (.tail _ (.head _))).ints_of hi
      · exact F.at _ (.tail _ (.tail _ hp))
  · rcases List.mem_cons.mp hp with rfl | hp
    · exact F.own _ (.head _) hs
    · rcases List.mem_cons.mp hp with rfl | hp
      · exact F.own (a, .list vs) (.tail _ (.head _)) trivial
      · exact F.own _ (.tail _ (.tail _ hp)) hs
  · rcases List.mem_cons.mp hp with rfl | hp
    · exact F.low _ (.head _)
    · rcases List.mem_cons.mp hp with rfl | hp
      · exact F.low (a, .list vs) (.tail _ (.head _))
      · exact F.low _ (.tail _ (.tail _ hp))
theorem slc_ints_upto {l : Addr} {xs : List Int} {y : Int} {u : Tok} {p₀ : Addr × K} {Q : Value → Shared → Prop} (F : St g s₀ ms (p₀ :: os) s) (hm : Mem (p₀ :: os) l (.ints xs)) (hz : xs.length ≤ 1000) (h0 : 0 ≤ y)
    (h : ∀ r s', s₀.heap.objs.size ≤ r → St g s₀ ms (p₀ :: (r, .ints (xs.take y.toNat)) :: os) s' → Q (.ref r) s') : SlcOn w A (.ref l) .none (.int y u) Q E s := by
  refine ex2 (F.mem hm) ?_; intro l' n hJ
  refine and2 hJ ?_; clear hJ; intro ho hi
  exact slc_list F ho .none p_int (by rw [hi.length]; exact hz) fun r s' hr F' => h r s' hr (F'.to_ints (.of (PySem.W.kmk_upto hi.are h0)))
theorem slr_ints_upto {l : Addr} {vs : List Value} {n : Nat} {xs : List Int} {y : Int} {u : Tok} {p₀ : Addr × K} {Q : Value → Shared → Prop} (F : St g s₀ ms (p₀ :: os) s) (hm : Mem (p₀ :: os) l (.raw (listO vs n))) (hi : Ints vs xs) (hz : xs.length ≤ 1000) (h0 : 0 ≤ y)
    (h : ∀ r s', s₀.heap.objs.size ≤ r → St g s₀ ms (p₀ :: (r, .ints (xs.take y.toNat)) :: os) s' → Q (.ref r) s') : SlcOn w A (.ref l) .none (.int y u) Q E s :=
  slc_list F (F.mem hm) .none p_int (by rw [hi.length]; exact hz) fun r s' hr F' => h r s' hr (F'.to_ints (.of (PySem.W.kmk_upto hi.are h0)))
theorem slr_ints {l : Addr} {vs : List Value} {n : Nat} {xs : List Int} {x y : Int} {t u : Tok} {p₀ : Addr × K} {Q : Value → Shared → Prop} (F : St g s₀ ms (p₀ :: os) s) (hm : Mem (p₀ :: os) l (.raw (listO vs n))) (hi : Ints vs xs) (hz : xs.length ≤ 1000) (h0 : 0 ≤ x) (h1 : x ≤ y) (h2 : y ≤ xs.length)
    (h : ∀ r s', s₀.heap.objs.size ≤ r → St g s₀ ms (p₀ :: (r, .ints ((xs.drop x.toNat).take (y - x).toNat)) :: os) s' → Q (.ref r) s') : SlcOn w A (.ref l) (.int x t) (.int y u) Q E s :=
  slc_list F (F.mem hm) p_int p_int (by rw [hi.length]; exact hz) fun r s' hr F' => h r s' hr (F'.to_ints (.of (slice_ints hi.are h0 h1 h2)))
theorem sub_list {l : Addr} {vs : List Value} {n : Nat} {k : Int} {u : Tok} {v : Value} {Q : Value → Shared → Prop} (ho : s.heap.get? l = some (listO vs n)) (h0 : 0 ≤ k) (hz : vs.length ≤ 1000000) (hv : vs[k.toNat]? = some v) (h : Q v s) : SubOn w A (.ref l) (.int k u) Q E s := by
  have hl := listO_is ho
  have hk : k.toNat < vs.length := (List.getElem?_eq_some_iff.mp hv).1
  exact ⟨"list", "list.__getitem__", slot_list_getitem.lookup, hl.typeIs, .of (wpAny_getItem_list hl h0 (by lia) (by simpa using hv) h)⟩
theorem sub_raw {l : Addr} {vs : List Value} {n : Nat} {k : Int} {u : Tok} {xs : List Int} {Q : Value → Shared → Prop} (F : St g s₀ ms os s) (hm : Mem os l (.raw (listO vs n))) (hi : Ints vs xs) (h0 : 0 ≤ k) (hk : k < xs.length) (hz : xs.length ≤ 1000) (h : ∀ t, Q (.int (xs.getD k.toNat 0) t) s) : SubOn w A (.ref l) (.int k u) Q E s := by
  obtain ⟨t, ht⟩ := hi.get (ix_of h0 hk)
  exact sub_list (F.mem hm) h0 (by rw [hi.length]; exact Nat.le_trans hz (lb rfl)) ht (h t)

/-- list(..) of a list -/
theorem k_list {l : Addr} {items : List Value} {n : Nat} {p₀ : Addr × K} {Q : Value → Shared → Prop} (F : St g s₀ ms (p₀ :: os) s) (ho : s.heap.get? l = some (listO items n)) (hz : items.length ≤ 1000)
    (h : ∀ r s', s₀.heap.objs.size ≤ r → St g s₀ ms (p₀ :: (r, .list items) :: os) s' → Q (.ref r) s') : Wp w A (call (.type "list") [.ref l]) Q E s := by
  refine .of (call_list_seq l (T := "list") (.inl rfl) ho rfl rfl (fun h' c' hk e => ?_) (by show items.toArray.size ≤ 2 ^ 24; rw [List.size_toArray]; exact Nat.le_trans hz (lb rfl)))
  exact h _ _ F.aft.size (F.freshH hk (Exists.intro c' e) (Nat.le_refl _))
theorem k_list_ints {l : Addr} {xs : List Int} {p₀ : Addr × K} {Q : Value → Shared → Prop} (F : St g s₀ ms (p₀ :: os) s) (hm : Mem (p₀ :: os) l (.ints xs)) (hz : xs.length ≤ 1000)
    (h : ∀ r s', s₀.heap.objs.size ≤ r → St g s₀ ms (p₀ :: (r, .ints xs) :: os) s' → Q (.ref r) s') : Wp w A (call (.type "list") [.ref l]) Q E s := by
  refine ex2 (F.mem hm) ?_; intro l' n hJ
  refine and2 hJ ?_; clear hJ; intro ho hi
  exact k_list F ho (by rw [hi.length]; exact hz) fun r s' hr F' => h r s' hr (F'.to_ints hi)
/-- list + list -/
theorem b_addl {a b : Addr} {xs ys : List Value} {n m : Nat} {p₀ : Addr × K} {Q : Value → Shared → Prop} (F : St g s₀ ms (p₀ :: os) s) (ha : s.heap.get? a = some (listO xs n)) (hb : s.heap.get? b = some (listO ys m)) (hz : xs.length + ys.length ≤ 1000)
    (h : ∀ r s', s₀.heap.objs.size ≤ r → St g s₀ ms (p₀ :: (r, .list (xs ++ ys)) :: os) s' → Q (.ref r) s') : Wp w A (binaryOp .Add (.ref a) (.ref b)) Q E s := by
  have e : xs.toArray ++ ys.toArray = (xs ++ ys).toArray := by simp
  refine .of (concat_meets ⟨_, ha, rfl⟩ ⟨_, hb, rfl⟩ noFill_list_add seq_list_add PySem.F.slot_list_add PySem.F.entry_list_add (PySem.F.args_list_add_2 _ _) (list_addW a b xs.toArray ys.toArray n m .none .none #[] #[] (by show xs.toArray.size + ys.toArray.size ≤ 2 ^ 24; simp only [List.size_toArray]; exact Nat.le_trans hz (lb rfl))) ⟨ha, hb, ?_⟩)
  rw [e]
  exact h _ _ F.aft.size (F.freshH (fun b o e => Heap.get?_push_of_some _ e) (Exists.intro 0 (Heap.get?_push_size _ rfl)) (Nat.le_refl _))
theorem Ints.append {vs ws : List Value} {xs ys : List Int} (h : Ints vs xs) (h2 : Ints ws ys) : Ints (vs ++ ws) (xs ++ ys) := by
  induction h with
  | nil => exact h2
  | cons hv _ ih => exact .cons hv ih
theorem Strs.append {vs ws : List Value} {xs ys : List Str} (h : Strs vs xs) (h2 : Strs ws ys) : Strs (vs ++ ws) (xs ++ ys) := by
  induction h with
  | nil => exact h2
  | cons hv _ ih => exact .cons hv ih
theorem b_addi {a b : Addr} {xs ys : List Int} {p₀ : Addr × K} {Q : Value → Shared → Prop} (F : St g s₀ ms (p₀ :: os) s) (ha : Mem (p₀ :: os) a (.ints xs)) (hb : Mem (p₀ :: os) b (.ints ys)) (hz : xs.length + ys.length ≤ 1000)
    (h : ∀ r s', s₀.heap.objs.size ≤ r → St g s₀ ms (p₀ :: (r, .ints (xs ++ ys)) :: os) s' → Q (.ref r) s') : Wp w A (binaryOp .Add (.ref a) (.ref b)) Q E s := by
  refine ex2 (F.mem ha) ?_; intro l' n hJ
  refine and2 hJ ?_; clear hJ; intro ho hi
  refine ex2 (F.mem hb) ?_; intro l2 n2 hJ
  refine and2 hJ ?_; clear hJ; intro ho2 hi2
  exact b_addl F ho ho2 (by rw [hi.length, hi2.length]; exact hz) fun r s' hr F' => h r s' hr (F'.to_ints (hi.append hi2))
/-- list(bytes) -/
theorem Ints.ofPt : ∀ {vs : List Value} {xs : List Int}, vs.length = xs.length → (∀ (j : Nat) v, vs[j]? = some v → IsI v (xs.getD j 0)) → Ints vs xs
  | [], [], _, _ => .nil
  | v :: vs, x :: xs, hl, h => .cons (h 0 v rfl) (Ints.ofPt (by simpa using hl) fun j v hj => by simpa using h (j + 1) v (by simpa using hj))
theorem split_blen : splitId "bytes.__len__" = some ("bytes", "__len__") := by decide +kernel
theorem hint_byt {b : Array UInt8} {t : Tok} {Q : Bool → Shared → Prop} (h : Q false s) : wpAny (model pw w) A (Builtin.List.listLengthHint (.bytes b t)) Q E s := by
  unfold Builtin.List.listLengthHint
  refine wpAny_bind (wpAny_specialOf (T := "bytes") rfl PySem.W.FB.slot_bytes_len.lookup ?_)
  dsimp only
  rw [split_blen]
  dsimp only
  refine wpAny_bind (wpAny_isInstance (T := "bytes") rfl PySem.F.bm_sub ?_)
  refine bm_if_false rfl ?_
  refine bm_if_true (by decide +kernel) ?_
  refine wpAny_bind (wpAny_of_eq (a := Value.type "bytes") rfl ?_)
  exact wpAny_pure h
theorem k_list_byt {xs : List Int} {t : Tok} {p₀ : Addr × K} {Q : Value → Shared → Prop} (F : St g s₀ ms (p₀ :: os) s) (hh : A.handled = none) (hb : Byts xs) (hz : xs.length ≤ 1000)
    (h : ∀ r s', s₀.heap.objs.size ≤ r → St g s₀ ms (p₀ :: (r, .ints xs) :: os) s' → Q (.ref r) s') : Wp w A (call (.type "list") [.bytes (byteArr xs) t]) Q E s := by
  refine .of (callType_codes (Q₁ := fun obj s₁ => obj = .ref s.heap.objs.size ∧ s₁ = { s with heap := s.heap.push { cls := .type "list", data := .seq #[] } }) PySem.F.called_list (PySem.F.typeCall_list_1 _) PySem.F.entry_list_init
    (code_list_new _ ⟨rfl, rfl⟩) fun obj s₁ h₁ => ?_)
  refine and2 h₁ ?_; (try clear h₁); intro hR1 hR2
  subst hR1
  subst hR2
  have hS : (s.heap.push { cls := .type "list", data := .seq #[] }).get? s.heap.objs.size = some { cls := .type "list", data := .seq #[] } := Heap.get?_push_size _ rfl
  refine ⟨⟨_, hS, rfl⟩, PySem.F.args_list_init_2 _ _, ?_⟩
  show wpAny _ A.in1.in1 (do let old ← Builtin.List.listItems (.ref s.heap.objs.size); Builtin.List.listUpdate (.ref s.heap.objs.size) (fun _ => #[]); letGo old.toList.reverse; Builtin.List.listExtendWith (.ref s.heap.objs.size) (.bytes (byteArr xs) t) .none) _ _ _
  refine wpAny_bind ?_
  unfold Builtin.List.listItems
  refine wpAny_bind (wpAny_seqItems hS rfl (wpAny_pure ?_))
  show wpAny _ A.in1.in1 (updateSeq s.heap.objs.size (fun _ => #[]) >>= fun _ => letGo (#[] : Array Value).toList.reverse >>= fun _ => Builtin.List.listExtendWith (.ref s.heap.objs.size) (.bytes (byteArr xs) t) .none) _ _ _
  refine wpAny_bind (wpAny_updateSeq hS rfl ?_)
  have hS₂ := Heap.get?_update_self (Obj.mapSeq (fun _ => (#[] : Array Value))) hS rfl
  have oth : ∀ b o, s.heap.get? b = some o → ((s.heap.push { cls := .type "list", data := .seq #[] }).update s.heap.objs.size (Obj.mapSeq (fun _ => (#[] : Array Value)))).get? b = some o :=
    fun b o e => (Heap.get?_update_other _ _ (fun e' => Nat.lt_irrefl _ (e' ▸ Heap.lt_size e))).trans (Heap.get?_push_of_some _ e)
  have osz : ((s.heap.push { cls := .type "list", data := .seq #[] }).update s.heap.objs.size (Obj.mapSeq (fun _ => (#[] : Array Value)))).objs.size = s.heap.objs.size + 1 := by
    rw [Heap.size_update, Heap.size_push]
  revert hS₂ oth osz
  generalize ((s.heap.push { cls := .type "list", data := .seq #[] }).update s.heap.objs.size (Obj.mapSeq (fun _ => (#[] : Array Value)))) = h1
  intro hS₂ oth osz
  refine wpAny_bind (wpAny_letGo ?_)
  unfold Builtin.List.listExtendWith
  refine wpAny_bind (wpAny_of_eq (a := Value.type "bytes") rfl ?_)
  refine bm_if_false rfl ?_
  refine wpAny_bind (PySem.W.KBw.pyIter_bytes ?_)
  refine wpAny_bind (wpAny_holding (hint_byt ?_))
  refine bm_if_false (by decide +kernel) ?_
  have hI : PySem.W.KBw.IsBytesIter (h1.push { cls := .type "bytes_iterator", data := .fields #[.bytes (byteArr xs) t, .int 0 0] }) h1.objs.size (byteArr xs) t 0 := ⟨_, Heap.get?_push_size _ rfl, rfl, rfl⟩
  have hlt : s.heap.objs.size < h1.objs.size := by rw [osz]; exact Nat.lt_succ_self _
  have hne : s.heap.objs.size ∉ [h1.objs.size] := fun hm => Nat.ne_of_lt hlt (List.mem_singleton.mp hm)
  refine wpAny_pure ⟨plainId_quiet PySem.F.plain_extend_loop _, codeAny_extend_loopS (PySem.Walks.toS (PySem.W.KBw.walks (show A.in1.in1.handled = none from hh) h1.objs.size (byteArr xs) t)) (by rw [byteArr_size]; show xs.length ≤ 2 ^ 24; exact Nat.le_trans hz (lb rfl)) s.heap.objs.size hne .none _ 0 _ #[] _ rfl (Nat.zero_le _) hI (Heap.get?_push_of_some _ hS₂) (ItemsOf.nil _) fun s' acc' c' hm hS' hacc => ?_⟩
  refine ⟨rfl, h _ _ F.aft.size (F.fresh (fun b o e => ?_) hm.os hm.gens (K.At.ints_of (vs := acc'.toList) (Exists.intro c' ?_) ?_) (Nat.le_refl _))⟩
  · refine hm.heap b o (fun hb => ?_) (Heap.get?_push_of_some _ (oth b o e))
    have hlt' := Heap.lt_size e
    rcases List.mem_cons.mp hb with rfl | hb
    · exact Nat.lt_irrefl _ hlt'
    · exact Nat.lt_irrefl _ (Nat.lt_trans hlt (List.mem_singleton.mp hb ▸ hlt'))
  · rw [listO, Array.toArray_toList]; exact hS'
  · refine Ints.ofPt ?_ fun j v hj => ?_
    · rw [Array.length_toList, hacc.1, byteArr_size]
    · rw [Array.getElem?_toList] at hj
      refine ex2 (hacc.2 j v hj) ?_; intro c u hJ
      refine and2 hJ ?_; clear hJ; intro hc hR3
      subst hR3
      refine ⟨u, ?_⟩
      unfold byteArr at hc
      rw [List.getElem?_toArray, List.getElem?_map] at hc
      cases hx : xs[j]? with
      | none => rw [hx] at hc; cases hc
      | some x =>
        rw [hx] at hc
        cases hc
        have := hb j
        rw [List.getD_eq_getElem?_getD, hx] at this ⊢
        simp only [Option.getD_some] at this ⊢
        have h2 : (x.toNat.toUInt8).toNat = x.toNat := by simp; exact this.right
        rw [h2]; congr 1; exact tN_eq this.left
end
end
/-! MS5 -/
section
set_option hygiene false
section
variable {w : World} {A : Around} {E : Value → Shared → Prop} {g : Gd} {s₀ s s' : Shared} {ms : List Addr} {os os' : Os} {env : Env} {L : Addr} {nl : List Str} {vs vs' : List (Option Value)}
theorem St.kept {kL : K} (F : St g s₀ ms os s) (hL : (L, kL) ∈ os) (hL0 : s₀.heap.objs.size ≤ L) (hk : ∀ b o, s.heap.get? b = some o → s'.heap.get? b = some o) (ho : s'.os = s.os) (hg : s'.gens = s.gens) : St g s₀ ms os s' := by
  refine ex1 ((F.at _ hL).get) ?_; intro oL hJ
  refine and2 hJ ?_; clear hJ; intro hoL hU1
  have hLz := lt_sizeN (hk L oL hoL)
  have hbase := F.base
  have fr : Frozen s.heap s'.heap := fun b o e _ => hk b o e
  have h1 : @LE.le Nat _ s₀.heap.objs.size L := hL0
  exact ⟨⟨F.inv.ok, fun b o e hb => hk b o (F.inv.ext b o e hb), (Nat.le_trans hbase (Nat.le_trans h1 (Nat.le_of_lt hLz))), F.inv.tab.keep (fun o e => hk _ o e) fr⟩,
    ⟨fun b o e h1 h2 => hk b o (F.aft.keep b o e h1 h2), fun b o e hf => fr b o (F.aft.frz b o e hf) hf, (Nat.le_trans h1 (Nat.le_of_lt hLz)), ho.trans F.aft.os, fun h => hg ▸ F.aft.gens h⟩,
    fun p hp => (F.at p hp).move (fun o e => hk _ o e) fr, F.nod, F.own, F.low, hbase⟩
theorem Byts.of_mem {xs : List Int} (h : ∀ x ∈ xs, 0 ≤ x ∧ x < 256) : Byts xs := fun i => by
  rw [List.getD_eq_getElem?_getD]
  cases hx : xs[i]? with
  | none => simp
  | some x => exact h x (List.mem_of_getElem? hx)
theorem Byts.mem {xs : List Int} (h : Byts xs) : ∀ x ∈ xs, 0 ≤ x ∧ x < 256 := fun x hx => by
  obtain ⟨i, hi, e⟩ := List.mem_iff_getElem.mp hx
  have := h i
  rw [List.getD_eq_getElem?_getD, List.getElem?_eq_getElem hi, e] at this
  exact this
theorem k_bytes_ints {l L : Addr} {kL : K} {xs : List Int} {Q : Value → Shared → Prop} (F : St g s₀ ms os s) (hh : A.handled = none) (hL : (L, kL) ∈ os) (hL0 : s₀.heap.objs.size ≤ L) (hm : Mem os l (.ints xs)) (hb : Byts xs) (hz : xs.length ≤ 1000)
    (h : ∀ t s', St g s₀ ms os s' → Q (.bytes (byteArr xs) t) s') : Wp w A (call (.type "bytes") [.ref l]) Q E s := by
  refine ex2 (F.mem hm) ?_; intro l' n hJ
  refine and2 hJ ?_; clear hJ; intro ho hi
  refine .of (call_bytes_ints (listO_is ho) hi.are hb.mem (by rw [hi.length]; show xs.length ≤ 2 ^ 24; exact Nat.le_trans hz (lb rfl)) hh fun h' t k hk => ?_)
  exact h t _ (F.kept (s' := { s with heap := h', toks := k }) hL hL0 hk rfl rfl)
end
section
variable {w : World} {A : Around} {g : Gd} {σ : Shared}
theorem bsIn_byts {xs : List Int} (hb : Byts xs) (w i k : Nat) (ys : List Int) (hy : Byts ys) : Byts (bsIn xs w i k ys) := by
  induction k generalizing ys with
  | zero => exact hy
  | succ k ih =>
    refine ih _ (.of_mem fun x hx => ?_)
    rcases List.mem_or_eq_of_mem_set hx with h | h
    · exact hy.mem _ h
    · rw [h]; exact hb _
theorem bsOut_byts {xs : List Int} (hb : Byts xs) (w m i : Nat) (ys : List Int) (hy : Byts ys) : Byts (bsOut xs w m i ys) := by
  induction m generalizing ys i with
  | zero => exact hy
  | succ k ih => exact ih _ _ (bsIn_byts hb _ _ _ _ hy)
theorem bsF_byts {xs : List Int} (hb : Byts xs) (w : Nat) : Byts (bsF xs w) := bsOut_byts hb _ _ _ _ (.of_mem fun x hx => by rw [(List.mem_replicate.mp hx).2]; exact ⟨by decide, by decide⟩)
theorem bsF_len (xs : List Int) (w : Nat) : (bsF xs w).length = xs.length := by simp [bsF, bsOut_len]
noncomputable def segF (xs : List Int) (l : Nat) : List Int := (xs.drop (2 ^ l - 1)).take (2 ^ l)
noncomputable def turnSeg (xs : List Int) (d l : Nat) : List Int := if d < l then bsF (bsF (segF xs l) (2 ^ (l - d))) (2 ^ (l - d) / 2) else segF xs l
noncomputable def turnAcc (xs : List Int) (d : Nat) : Nat → List Int
  | 0 => xs.take 1
  | k + 1 => turnAcc xs d k ++ turnSeg xs d (k + 1)
noncomputable def turnF (xs : List Int) (d : Nat) : List Int := turnAcc xs d 3
theorem two_pow_pred : ∀ {m : Nat}, 1 ≤ m → 2 ^ m = 2 * 2 ^ (m - 1)
  | m + 1, _ => by rw [Nat.pow_succ, Nat.mul_comm]; rfl
theorem segF_len {xs : List Int} {l : Nat} (h : xs.length = 15) (hl : 1 ≤ l ∧ l ≤ 3) : (segF xs l).length = 2 ^ l := by
  obtain ⟨h1, h2⟩ := hl
  have : l = 1 ∨ l = 2 ∨ l = 3 := by lia
  rcases this with rfl | rfl | rfl <;> simp [segF, h]
theorem turnSeg_len {xs : List Int} {d l : Nat} (h : xs.length = 15) (hl : 1 ≤ l ∧ l ≤ 3) : (turnSeg xs d l).length = 2 ^ l := by
  unfold turnSeg
  split
  · rw [bsF_len, bsF_len, segF_len h hl]
  · exact segF_len h hl
theorem turnAcc_len {xs : List Int} {d : Nat} (h : xs.length = 15) : ∀ k, k ≤ 3 → (turnAcc xs d k).length ≤ 15
  | 0, _ => by simp only [turnAcc, List.length_take]; exact Nat.le_trans (Nat.min_le_right 1 (List.length xs)) (Nat.le_of_eq h)
  | 1, _ => by
    have := turnSeg_len (d := d) (l := 1) h ⟨lb rfl, lb rfl⟩
    simp [turnAcc, this]
    lia
  | 2, _ => by
    have h1 := turnSeg_len (d := d) (l := 1) h ⟨lb rfl, lb rfl⟩
    have h2 := turnSeg_len (d := d) (l := 2) h ⟨lb rfl, lb rfl⟩
    simp [turnAcc, h1, h2]
    lia
  | 3, _ => by
    have h1 := turnSeg_len (d := d) (l := 1) h ⟨lb rfl, lb rfl⟩
    have h2 := turnSeg_len (d := d) (l := 2) h ⟨lb rfl, lb rfl⟩
    have h3 := turnSeg_len (d := d) (l := 3) h ⟨lb rfl, lb rfl⟩
    simp [turnAcc, h1, h2, h3]
    lia
theorem segF_byts {xs : List Int} (hb : Byts xs) (l : Nat) : Byts (segF xs l) := .of_mem fun x hx => hb.mem x (List.mem_of_mem_drop (List.mem_of_mem_take hx))
theorem turnSeg_byts {xs : List Int} (hb : Byts xs) (d l : Nat) : Byts (turnSeg xs d l) := by
  unfold turnSeg
  split
  · exact bsF_byts (bsF_byts (segF_byts hb l) _) _
  · exact segF_byts hb l

theorem lawturn_spec {l : Addr} {xs : List Int} {d : Nat} {t : Tok} (I : Iv g σ) (hh : A.handled = none) (hA : A.depth + 2 < recursionLimit) (hl : K.At σ.heap l (.ints xs)) (hlow : g.h₁.objs.size ≤ l) (hb : Byts xs) (hx : xs.length = 15) (hd : d ≤ 2) :
    Spec w A (.ref (g.fa 23)) [.ref l, .int d t] σ (fun v s' => ∃ r : Nat, v = .ref r ∧ After g [] σ s' ∧ Iv g s' ∧ σ.heap.objs.size ≤ r ∧ K.At s'.heap r (.ints (turnF xs d))) := by
  refine ex2 hl ?_; (try clear hl); intro ws nn hJ
  refine and2 hJ ?_; clear hJ; intro ho hi
  have F0 : St g σ [] [(l, .raw (listO ws nn))] σ := .start I (by simpa [K.At] using ho) (by simp) (by simp [K.soft]) (by simpa using hlow)
  refine enter (i := 23) ["row", "depth", "turned", "level", "octets", "share"] [some _, some _, none, none, none, none] (pn := ["row", "depth"]) (k := 4) I (u_lt hA) (by decide) F0 (by decide +kernel) rfl (fun _ _ _ => by rfl) (by rfl) (by rfl) (by decide +kernel) (by decide +kernel) (by decide +kernel) (by decide +kernel) ?_
  intro L s hL F e J hJ
  refine x_as (e_call1 ?_)
  (refine' e_bi F e ?_ ?_; rotate_left 1; with_reducible constructor)
  refine e_slc ?_
  (refine' e_loc F e ?_ ?_; rotate_left 1; (focus (repeat (first | with_reducible exact At2.here | apply At2.there))))
  refine p_none (p_some ?_)
  (refine e_int F ?_; clear F; intro tk s F)
  refine slr_ints_upto F (.there .here) hi (Nat.le_trans (Nat.le_of_eq hx) (lb rfl)) (by decide) ?_; clear F; intro r s hr F
  refine cw_ty (k_list_ints F (.there .here) (by simp; lia) ?_); clear F; intro r2 s hr2 F
  (refine' s_loc F e ?_ ?_; rotate_left 1; (focus (repeat (first | with_reducible exact Up2.here | apply Up2.there))); clear F; intro s F)
  refine x_for (e_call2 ?_)
  (refine' e_bi F e ?_ ?_; rotate_left 1; with_reducible constructor)
  (refine e_int F ?_; clear F; intro tk s F)
  (refine e_int F ?_; clear F; intro tk s F)
  refine cw_ty (k_range2 F ?_); clear F; intro r3 v3 s hr3 F
  refine it_rangeM F (.there .here) (small_of ⟨by decide, by decide⟩ ⟨by decide, by decide⟩ ⟨by decide, by decide⟩) ?_; clear F; intro it s hit F
  refine ⟨fun n s => ∃ (r : Addr) (v4 v5 v6 : Option Value), n ≤ 3 ∧ σ.heap.objs.size ≤ r ∧ 
    St g σ [] [(L, .ns ["row", "depth", "turned", "level", "octets", "share"] [some (.ref l), some (.int d t), some (.ref r), v4, v5, v6]), (it, .riter ((4 - n : Nat) : Int) n 1), (r, .ints (turnAcc xs d (3 - n))), (l, .raw (listO ws nn))] s, 3, ⟨r2, none, none, none, Nat.le_refl _, hr2, ?_⟩, ?_⟩
  · exact (F.drop (.there (.there .here))).drop (.there (.there (.there .here)))
  clear F s
  intro n s hI2 K hK
  refine ex4 hI2 ?_; clear hI2; intro r v4 v5 v6 hJ
  refine and3 hJ ?_; clear hJ; intro hn hr F
  refine nx_range F hh (.head _) hL hit (.there .here) (.there .here) (fun hpos => ?_) (fun hpos => ?_)
  · clear F; intro t4 s F
    obtain ⟨n, rfl⟩ : ∃ k, n = k + 1 := ⟨n - 1, by lia⟩
    refine x_name ?_
    (refine' s_loc F e ?_ ?_; rotate_left 1; (focus (repeat (first | with_reducible exact Up2.here | apply Up2.there))); clear F; intro s F)
    refine x_as (e_call1 ?_)
    (refine' e_bi F e ?_ ?_; rotate_left 1; with_reducible constructor)
    refine e_slc ?_
    (refine' e_loc F e ?_ ?_; rotate_left 1; (focus (repeat (first | with_reducible exact At2.here | apply At2.there))))
    refine p_some (e_bin (e_bin ?_))
    (refine e_int F ?_; clear F; intro tk s F)
    (refine' e_loc F e ?_ ?_; rotate_left 1; (focus (repeat (first | with_reducible exact At2.here | apply At2.there))))
    refine b_pow F (Int.natCast_nonneg _) (Int.ofNat_le.mpr (Nat.le_trans (Nat.sub_le _ _) (Nat.le_of_ble_eq_true rfl))) (by decide) (by decide) (by decide +kernel) ?_; (clear F; intro tk s F)
    (refine e_int F ?_; clear F; intro tk s F)
    refine b_sub F ?_; (clear F; intro tk s F)
    refine p_some (e_bin (e_bin ?_))
    (refine e_int F ?_; clear F; intro tk s F)
    refine e_bin ?_
    (refine' e_loc F e ?_ ?_; rotate_left 1; (focus (repeat (first | with_reducible exact At2.here | apply At2.there))))
    (refine e_int F ?_; clear F; intro tk s F)
    refine b_add F ?_; (clear F; intro tk s F)
    refine b_pow F (Int.natCast_nonneg (4 - (n + 1) + 1)) (Int.ofNat_le.mpr (Nat.succ_le_succ (Nat.le_trans (Nat.sub_le _ _) (Nat.le_of_ble_eq_true rfl)) : 4 - (n + 1) + 1 ≤ 100)) (by decide) (by decide) (by decide +kernel) ?_; (clear F; intro tk s F)
    (refine e_int F ?_; clear F; intro tk s F)
    refine b_sub F ?_; (clear F; intro tk s F)
    generalize hk : 4 - (n + 1) = k at *
    have hnk : n + k = 3 := by rw [← hk]; show n + (3 + 1 - (n + 1)) = 3; rw [Nat.add_sub_add_right]; exact Nat.add_sub_of_le (Nat.le_of_succ_le hn : n ≤ 3)
    clear hk
    have hk3 : 1 ≤ k ∧ k ≤ 3 := by lia
    have hp := Nat.one_le_two_pow (n := k)
    have hp2 : 2 ^ k ≤ 2 ^ 3 := Nat.pow_le_pow_right (lb rfl) hk3.2
    have e1 : (2 : Int) ^ ((k : Int)).toNat - 1 = ((2 ^ k - 1 : Nat) : Int) := by
      rw [Int.toNat_natCast, Int.ofNat_sub hp]; simp
    have e2 : (2 : Int) ^ ((k : Int) + 1).toNat - 1 = ((2 ^ (k + 1) - 1 : Nat) : Int) := by
      rw [show ((k : Int) + 1).toNat = k + 1 from tn rfl, Int.ofNat_sub Nat.one_le_two_pow]; simp
    rw [e1, e2]
    have hp3 : 2 ^ (k + 1) = 2 * 2 ^ k := Nat.pow_succ'
    have hp5 : 2 ^ k - 1 ≤ 2 ^ (k + 1) - 1 := Nat.sub_le_sub_right (by rw [hp3]; exact Nat.le_mul_of_pos_left _ (by decide)) 1
    have hp6 : 2 ^ (k + 1) - 1 ≤ xs.length := by rw [hx, hp3]; exact Nat.sub_le_sub_right (Nat.mul_le_mul_left 2 hp2) 1
    refine slr_ints F (.there (.there (.there .here))) hi (by rw [hx]; decide) (Int.natCast_nonneg _) (Int.ofNat_le.mpr hp5) (Int.ofNat_le.mpr hp6) ?_; clear F; intro r4 s hr4 F
    have e3 : (xs.drop ((2 ^ k - 1 : Nat) : Int).toNat).take (((2 ^ (k + 1) - 1 : Nat) : Int) - ((2 ^ k - 1 : Nat) : Int)).toNat = segF xs k := by
      unfold segF
      rw [show (((2 ^ (k + 1) - 1 : Nat) : Int) - ((2 ^ k - 1 : Nat) : Int)).toNat = 2 ^ k from tn (by rw [← cast_sub hp5, hp3, Nat.sub_sub_sub_cancel_right hp, Nat.two_mul, Nat.add_sub_cancel])]
      rfl
    rw [e3] at F
    have hsl := segF_len hx hk3
    refine cw_ty (k_bytes_ints F hh (.head _) hL (.there .here) (segF_byts hb k) (Nat.le_trans (Nat.le_of_eq hsl) (Nat.le_trans hp2 (lb rfl))) ?_); (clear F; intro tk s F)
    have F := F.drop (.there .here)
    (refine' s_loc F e ?_ ?_; rotate_left 1; (focus (repeat (first | with_reducible exact Up2.here | apply Up2.there))); clear F; intro s F)
    refine x_ifm (fun s' => ∃ (t5 : Tok) (v6 : Option Value), St g σ [] [(L, .ns ["row", "depth", "turned", "level", "octets", "share"] [some (.ref l), some (.int d t), some (.ref r), some (.int k t4), some (.bytes (byteArr (turnSeg xs d k)) t5), v6]), (it, .riter (((k : Nat) : Int) + 1) (((n + 1 : Nat) : Int) - 1) 1), (r, .ints (turnAcc xs d (3 - (n + 1)))), (l, .raw (listO ws nn))] s') ?_ ?_
    · intro P hP
      refine t_cmp ?_
      (refine' e_loc F e ?_ ?_; rotate_left 1; (focus (repeat (first | with_reducible exact At2.here | apply At2.there))))
      (refine' e_loc F e ?_ ?_; rotate_left 1; (focus (repeat (first | with_reducible exact At2.here | apply At2.there))))
      refine c_gt ?_
      by_cases hdk : d < k
      · have hdk' : (d : Int) < k := (i_lt hdk)
        rw [decide_eq_true hdk']
        refine x_as (e_bin ?_)
        (refine e_int F ?_; clear F; intro tk s F)
        refine e_bin ?_
        (refine' e_loc F e ?_ ?_; rotate_left 1; (focus (repeat (first | with_reducible exact At2.here | apply At2.there))))
        (refine' e_loc F e ?_ ?_; rotate_left 1; (focus (repeat (first | with_reducible exact At2.here | apply At2.there))))
        refine b_sub F ?_; (clear F; intro tk s F)
        have ekd : (k : Int) - d = ((k - d : Nat) : Int) := (cast_sub (Nat.le_of_lt hdk)).symm
        refine b_pow F (by rw [ekd]; exact Int.natCast_nonneg _) (by rw [ekd]; exact Int.ofNat_le.mpr (Nat.le_trans (Nat.sub_le _ _) (Nat.le_trans hk3.2 (Nat.le_of_ble_eq_true rfl)))) (by decide) (by decide) (by decide +kernel) ?_; (clear F; intro tk s F)
        (refine' s_loc F e ?_ ?_; rotate_left 1; (focus (repeat (first | with_reducible exact Up2.here | apply Up2.there))); clear F; intro s F)
        have e4 : (2 : Int) ^ ((k : Int) - d).toNat = ((2 ^ (k - d) : Nat) : Int) := by
          rw [show ((k : Int) - d).toNat = k - d from tn ekd]; simp
        rw [e4] at F
        have hp4 := Nat.one_le_two_pow (n := k - d)
        have hdv : 2 ^ (k - d) ∣ 2 ^ k := Nat.pow_dvd_pow 2 (Nat.sub_le _ _)
        have hle := Nat.le_of_dvd hp hdv
        have e5 : 2 ^ (k - d) = 2 * 2 ^ (k - d - 1) := two_pow_pred (Nat.sub_pos_of_lt hdk)
        have e5b : 2 ^ (k - d) / 2 = 2 ^ (k - d - 1) := by rw [e5]; exact Nat.mul_div_cancel_left _ (by decide)
        refine x_as (e_call2 ?_)
        refine e_fn 2 F e ?_
        refine e_call2 ?_
        refine e_fn 2 F e ?_
        (refine' e_loc F e ?_ ?_; rotate_left 1; (focus (repeat (first | with_reducible exact At2.here | apply At2.there))))
        (refine' e_loc F e ?_ ?_; rotate_left 1; (focus (repeat (first | with_reducible exact At2.here | apply At2.there))))
        refine cw_fn F.inv (by decide) (byteswap_spec F.inv hh (by show A.depth + 1 < _; exact d_lt hA (lb rfl)) (segF_byts hb k) hp4 (by rw [hsl]; exact hdv) (Nat.lt_of_lt_of_le (Nat.lt_of_lt_of_le (lb rfl) hp) (Nat.le_of_eq (Eq.symm hsl))) (Nat.le_trans (Nat.le_of_eq hsl) (Nat.le_trans hp2 (lb rfl)))) ?_
        rintro v s ⟨⟨t', rfl⟩, ha, hi⟩
        have F := F.after0 ha hi
        refine e_bin ?_
        (refine' e_loc F e ?_ ?_; rotate_left 1; (focus (repeat (first | with_reducible exact At2.here | apply At2.there))))
        (refine e_int F ?_; clear F; intro tk s F)
        refine b_fdiv F (by decide) (by decide) ?_; (clear F; intro tk s F)
        have e6 : ((2 ^ (k - d) : Nat) : Int) / 2 = ((2 ^ (k - d) / 2 : Nat) : Int) := rfl
        rw [e6]
        refine cw_fn F.inv (by decide) (byteswap_spec F.inv hh (by show A.depth + 1 < _; exact d_lt hA (lb rfl)) (bsF_byts (segF_byts hb k) _) (by rw [e5b]; exact Nat.one_le_two_pow) (by rw [bsF_len, hsl]; refine Nat.dvd_trans ?_ hdv; exact ⟨2, by rw [e5b, Nat.mul_comm]; exact e5⟩) (by rw [bsF_len]; exact Nat.lt_of_lt_of_le (Nat.lt_of_lt_of_le (lb rfl) hp) (Nat.le_of_eq (Eq.symm hsl))) (by rw [bsF_len]; exact Nat.le_trans (Nat.le_of_eq hsl) (Nat.le_trans hp2 (lb rfl)))) ?_
        rintro v s ⟨⟨t', rfl⟩, ha, hi⟩
        have F := F.after0 ha hi
        (refine' s_loc F e ?_ ?_; rotate_left 1; (focus (repeat (first | with_reducible exact Up2.here | apply Up2.there))); clear F; intro s F)
        have et : turnSeg xs d k = bsF (bsF (segF xs k) (2 ^ (k - d))) (2 ^ (k - d) / 2) := by rw [turnSeg, if_pos hdk]
        rw [← et] at F
        exact x_nil ⟨rfl, hP _ ⟨_, _, F⟩⟩
      · have hdk' : ¬ (d : Int) < k := (i_nlt (Nat.le_of_not_lt hdk))
        rw [decide_eq_false hdk']
        have et : turnSeg xs d k = segF xs k := by rw [turnSeg, if_neg hdk]
        rw [← et] at F
        exact x_nil ⟨rfl, hP _ ⟨_, _, F⟩⟩
    · clear F s
      intro s hI1
      refine ex2 hI1 ?_; (try clear hI1); intro t5 v6 F
      refine x_as (e_bin ?_)
      (refine' e_loc F e ?_ ?_; rotate_left 1; (focus (repeat (first | with_reducible exact At2.here | apply At2.there))))
      refine e_call1 ?_
      (refine' e_bi F e ?_ ?_; rotate_left 1; with_reducible constructor)
      (refine' e_loc F e ?_ ?_; rotate_left 1; (focus (repeat (first | with_reducible exact At2.here | apply At2.there))))
      have htl := turnSeg_len (d := d) hx hk3
      have hal := turnAcc_len (d := d) hx (3 - (n + 1)) (Nat.sub_le _ _)
      refine cw_ty (k_list_byt F hh (turnSeg_byts hb d k) (by rw [htl]; exact Nat.le_trans hp2 (Nat.le_of_ble_eq_true rfl)) ?_); clear F; intro r5 s hr5 F
      refine b_addi F (.there (.there (.there .here))) (.there .here) (by lia) ?_; clear F; intro r6 s hr6 F
      (refine' s_loc F e ?_ ?_; rotate_left 1; (focus (repeat (first | with_reducible exact Up2.here | apply Up2.there))); clear F; intro s F)
      have e7 : ((n + 1 : Nat) : Int) - 1 = (n : Int) := cast_pred
      have hkn : k + n = 3 := (Nat.add_comm k n).trans hnk
      have e8 : (k : Int) + 1 = ((4 - n : Nat) : Int) := congrArg (fun n : Nat => (n : Int)) (Nat.eq_sub_of_add_eq (by rw [Nat.add_right_comm, hkn]) : k + 1 = 4 - n)
      have e9 : turnAcc xs d (3 - (n + 1)) ++ turnSeg xs d k = turnAcc xs d (3 - n) := by
        have : 3 - n = (3 - (n + 1)) + 1 := pred_add (Nat.sub_pos_of_lt hn)
        rw [this, turnAcc]
        rw [show k = 3 - (n + 1) + 1 from (Nat.eq_sub_of_add_eq hkn).trans this]
      rw [e7, e8, e9] at F
      have F := F.drop (a := r5) (by (focus (repeat (first | with_reducible exact Del.here | apply Del.there))))
      have F := F.drop (a := r) (by (focus (repeat (first | with_reducible exact Del.here | apply Del.there))))
      have F := F.bring (a := it) (by (focus (repeat (first | with_reducible exact Del.here | apply Del.there))))
      exact x_nil <| hK n _ (Nat.lt_succ_self n) (exi4 r6 _ _ _ ⟨Nat.le_of_succ_le hn, hr6, F⟩)
  · clear F; intro s F
    have : n = 0 := by lia
    subst this
    refine x_ret ?_
    (refine' e_loc F e ?_ ?_; rotate_left 1; (focus (repeat (first | with_reducible exact At2.here | apply At2.there))))
    exact hJ _ _ ⟨_, rfl, _, rfl, F.aft, F.inv, hr, F.at _ (.tail _ (.head _))⟩
end
end
/-! MX6 -/
section
set_option hygiene false
/-- tuples of two ints in order -/
noncomputable def ltP (p q : Int × Int) : Bool := if p.1 = q.1 then (if p.2 = q.2 then false else decide (p.2 < q.2)) else decide (p.1 < q.1)
section
theorem sub_tup_tup : isSubtype (.type "tuple") (.type "tuple") = pure true := by rw [isSubtype_type]; kernel_rfl
theorem tuple_ltP (a b : Addr) (p q : Int × Int) (t u t' u' : Tok) (n m : Nat) :
    Meets (Builtin.«tuple.__lt__» ⟨[.ref a, .ref b], []⟩) (fun A R s => s.heap.get? a = some (tupO [.int p.1 t, .int p.2 u] n) ∧ s.heap.get? b = some (tupO [.int q.1 t', .int q.2 u'] m) ∧ R (.ok (.ret (.bool (ltP p q)))) s) :=
  .of_wp fun prog w A R s h => by
    refine and3 h ?_; (try clear h); intro ha hb h
    have hTb : s.TypeIs (.ref b) "tuple" := ⟨_, hb, rfl⟩
    have hTa : s.TypeIs (.ref a) "tuple" := ⟨_, ha, rfl⟩
    refine wpAny_bind (wpAny_of_eq (a := ((Value.ref a), [Value.ref b])) rfl ?_)
    refine wpAny_bind (wpAny_isInstance hTb sub_tup_tup ?_)
    rw [if_neg (by decide)]
    refine wpAny_bind ?_
    unfold Builtin.Tuple.tupleItemsOf
    refine wpAny_bind (wpAny_seqItems ha rfl ?_)
    refine wpAny_pure (wpAny_bind (wpAny_bind (wpAny_seqItems hb rfl (wpAny_pure ?_))))
    show wpAny (model prog w) A.in1 (forIn [((Value.int p.1 t), (Value.int q.1 t')), (Value.int p.2 u, Value.int q.2 u')] ((none : Option PySem.Fin), ()) _ >>= _) _ _ _
    rw [List.forIn_cons]
    refine wpAny_bind (wpAny_bind ?_)
    refine wpAny_bind (wpAny_eqBool_int ?_)
    unfold ltP at h
    by_cases h1 : p.1 = q.1
    · rw [if_pos h1] at h
      rw [h1, beq_self_eq_true]
      refine wpAny_pure ?_
      dsimp only
      rw [List.forIn_cons]
      refine wpAny_bind (wpAny_bind (wpAny_eqBool_int ?_))
      by_cases h2 : p.2 = q.2
      · rw [if_pos h2] at h
        rw [h2, beq_self_eq_true]
        refine wpAny_pure ?_
        dsimp only
        rw [List.forIn_nil]
        exact wpAny_pure (wpAny_pure ⟨_, rfl, h⟩)
      · rw [if_neg h2] at h
        rw [beq_false_of_ne h2]
        refine wpAny_bind (wpAny_rule (wpAny_bind (wpAny_lt_int (wpAny_bind (wpAny_pure (wpAny_pure (wpAny_pure (wpAny_pure ⟨_, rfl, h⟩))))))))
    · rw [if_neg h1] at h
      rw [beq_false_of_ne h1]
      refine wpAny_bind (wpAny_rule (wpAny_bind (wpAny_lt_int (wpAny_bind (wpAny_pure (wpAny_pure (wpAny_pure (wpAny_pure ⟨_, rfl, h⟩))))))))
variable {w : World} {A : Around} {E : Value → Shared → Prop} {g : Gd} {s₀ s : Shared} {ms : List Addr} {os os' : Os} {env : Env} {L : Addr} {nl : List Str} {vs vs' : List (Option Value)}
/-- a tuple of two ints -/
noncomputable def Tup2 (h : Heap) (v : Value) (p : Int × Int) : Prop := ∃ (b : Addr) (t u : Tok) (n : Nat), v = .ref b ∧ h.get? b = some (tupO [.int p.1 t, .int p.2 u] n)
theorem Tup2.move {h h' : Heap} {v : Value} {p : Int × Int} (x : Tup2 h v p) (f : Frozen h h') : Tup2 h' v p := let ⟨b, t, u, n, e, ho⟩ := x; ⟨b, t, u, n, e, f _ _ ho (.inl ⟨rfl, _, _, rfl⟩)⟩
theorem c_ltp {a b : Value} {p q : Int × Int} {Q : Bool → Shared → Prop} (ha : Tup2 s.heap a p) (hb : Tup2 s.heap b q) (hu : A.units < cLine) (h : Q (ltP p q) s) : Wp w A (compareOp .Lt a b) (fun c s₃ => Wp w A (truthy c) Q E s₃) E s := by
  refine ex4 ha ?_; (try clear ha); intro a t u n hJ
  refine and2 hJ ?_; clear hJ; intro hR1 ha
  subst hR1
  refine ex4 hb ?_; (try clear hb); intro b t' u' m hJ
  refine and2 hJ ?_; clear hJ; intro hR2 hb
  subst hR2
  refine .of ?_
  show wpAny _ _ (richCompare .Lt (.ref a) (.ref b)) _ _ _
  exact richCompare_meets_room (op := .Lt) ⟨_, ha, rfl⟩ ⟨_, hb, rfl⟩ PySem.F.slot_tuple_lt PySem.F.entry_tuple_lt (PySem.F.args_tuple_lt_2 _ _) (tuple_ltP a b p q t u t' u' n m) ⟨ha, hb, ⟨fun x => (nomatch x), .of (wpAny_truthy_bool h)⟩⟩ hu
theorem Pairs.length {h : Heap} {vs ps} (x : Pairs h vs ps) : vs.length = ps.length := by induction x with | nil => rfl | cons _ _ ih => simp [ih]
theorem Pairs.get {h : Heap} {vs ps} (x : Pairs h vs ps) : ∀ {i : Nat}, i < ps.length → ∃ v, vs[i]? = some v ∧ Tup2 h v (ps.getD i (0, 0)) := by
  induction x with
  | nil => intro i hi; simp at hi
  | cons e _ ih =>
    intro i hi
    cases i with
    | zero => exact ⟨_, rfl, _, _, _, _, rfl, e⟩
    | succ i => simpa using ih (by simpa using hi)
theorem Pairs.set {h : Heap} {vs ps} (x : Pairs h vs ps) (i : Nat) {v : Value} {p : Int × Int} (hv : Tup2 h v p) : Pairs h (vs.set i v) (ps.set i p) := by
  induction x generalizing i with
  | nil => exact .nil
  | cons e hr ih =>
    cases i with
    | zero => obtain ⟨b, t, u, n, rfl, ho⟩ := hv; exact .cons ho hr
    | succ i => exact .cons e (ih i)
theorem sub_pairs {l : Addr} {k : Int} {u : Tok} {vs : List Value} {ps : List (Int × Int)} {Q : Value → Shared → Prop} (F : St g s₀ ms os s) (hm : Mem os l (.list vs)) (hp : Pairs s₀.heap vs ps) (h0 : 0 ≤ k) (hk : k < ps.length) (hz : ps.length ≤ 1000) (h : ∀ v, Tup2 s₀.heap v (ps.getD k.toNat (0, 0)) → Q v s) : SubOn w A (.ref l) (.int k u) Q E s := by
  obtain ⟨n, ho⟩ := F.mem hm
  refine ex1 (hp.get (i := k.toNat) ((Int.toNat_lt h0).mpr hk)) ?_; intro v hJ
  refine and2 hJ ?_; clear hJ; intro hv ht
  exact sub_list ho h0 (by rw [hp.length]; exact Nat.le_trans hz (lb rfl)) hv (h v ht)
theorem set_listK {l : Addr} {k : Int} {u : Tok} {v : Value} {vs : List Value} {Q : Unit → Shared → Prop} (F : St g s₀ ms os s) (hu : Up os l (.list vs) (.list (vs.set k.toNat v)) os') (h0 : 0 ≤ k) (hk : k < vs.length) (hz : vs.length < 2 ^ 62) (h : ∀ s', St g s₀ ms os' s' → Q () s') : Wp w A (setItem (.ref l) (.int k u) v) Q E s := by
  obtain ⟨n, ho⟩ := F.at _ hu.mem
  exact set_list ho h0 (by lia) hk fun h' e hs => h _ (F.update hu hs e rfl rfl)
theorem len_listK {l : Addr} {vs : List Value} {Q : Value → Shared → Prop} (F : St g s₀ ms os s) (hm : Mem os l (.list vs)) (hz : vs.length < 2 ^ 62) (h : ∀ t s', St g s₀ ms os s' → Q (.int vs.length t) s') : Wp w A (call (.builtin "len") [.ref l]) Q E s := by
  refine .of ?_
  obtain ⟨n, ho⟩ := F.mem hm
  refine Calls.call_len_list (listO_is ho) (by simp; exact i_lt (Nat.lt_of_lt_of_le hz (lb rfl))) ?_
  have : (vs.toArray.size : Int) = vs.length := by simp
  rw [this]
  exact h _ _ (F.tick _)
end
end
/-! MS6 -/
section
set_option hygiene false
section
variable {w : World} {A : Around} {g : Gd} {σ : Shared}
noncomputable abbrev gP (ps : List (Int × Int)) (i : Nat) : Int × Int := ps.getD i (0, 0)
noncomputable def sdM (x : Int × Int) (sp : Nat) (ps : List (Int × Int)) (p : Nat) : List (Int × Int) :=
  if h : sp < p then
    if ltP (gP ps ((p - 1) / 2)) x then sdM x sp (ps.set p (gP ps ((p - 1) / 2))) ((p - 1) / 2) else ps.set p x
  else ps.set p x
termination_by p
decreasing_by exact half_dec h
theorem sdM_eq (x : Int × Int) (sp : Nat) (ps : List (Int × Int)) (p : Nat) : sdM x sp ps p = if sp < p then
    if ltP (gP ps ((p - 1) / 2)) x then sdM x sp (ps.set p (gP ps ((p - 1) / 2))) ((p - 1) / 2) else ps.set p x
  else ps.set p x := by
  rw [sdM]
  split <;> rfl
theorem siftdownM_spec {l : Addr} {ps : List (Int × Int)} {sp p : Int} {t u : Tok} (I : Iv g σ) (hA : A.depth < recursionLimit) (hU : A.units + 100 < cLine) (hl : K.At σ.heap l (.pairs ps)) (hlow : g.h₁.objs.size ≤ l) (hz : ps.length ≤ 100) (h0 : 0 ≤ sp) (h1 : 0 ≤ p) (h2 : p < ps.length) :
    Spec w A (.ref (g.fa 19)) [.ref l, .int sp t, .int p u] σ (fun v s' => v = .none ∧ After g [l] σ s' ∧ Iv g s' ∧ K.At s'.heap l (.pairs (sdM (gP ps p.toNat) sp.toNat ps p.toNat))) := by
  refine ex2 hl ?_; (try clear hl); intro vs n0 hJ
  refine and2 hJ ?_; clear hJ; intro ho hp
  have F0 : St g σ [l] [(l, .list vs)] σ := .start I (by intro q hq; cases List.mem_singleton.mp hq; exact ⟨n0, ho⟩) (by simp) (by simp) (by simpa using hlow)
  have fin : ∀ {s' : Shared} {vs' ps'} {a : Addr × K}, St g σ [l] [a, (l, .list vs')] s' → Pairs σ.heap vs' ps' → K.At s'.heap l (.pairs ps') := fun F hp => by
    obtain ⟨n, e⟩ := F.at _ (.tail _ (.head _))
    exact ⟨_, n, e, hp.move F.aft.frz⟩
  refine enter (i := 19) ["heap", "startpos", "pos", "newitem", "parentpos", "parent"] [some _, some _, some _, none, none, none] (pn := ["heap", "startpos", "pos"]) (k := 3) I hA (by decide) F0 (by decide +kernel) rfl (fun _ _ _ => by rfl) (by rfl) (by rfl) (by decide +kernel) (by decide +kernel) (by decide +kernel) (by decide +kernel) ?_
  intro L s hL F e J hJ
  have hUU : (A.deeper (g.env 19 L)).units < cLine := by show A.units + 3 < cLine; exact d_lt hU (lb rfl)
  refine x_as (e_sub ?_)
  (refine' e_loc F e ?_ ?_; rotate_left 1; (focus (repeat (first | with_reducible exact At2.here | apply At2.there))))
  (refine' e_loc F e ?_ ?_; rotate_left 1; (focus (repeat (first | with_reducible exact At2.here | apply At2.there))))
  refine sub_pairs F (.there .here) hp h1 h2 (Nat.le_trans hz (lb rfl)) fun v1 t1 => ?_
  (refine' s_loc F e ?_ ?_; rotate_left 1; (focus (repeat (first | with_reducible exact Up2.here | apply Up2.there))); clear F; intro s F)
  refine x_while (fun n s' => ∃ vs' ps' p' u' va vb, St g σ [l] ((L, .ns ["heap", "startpos", "pos", "newitem", "parentpos", "parent"] [some (.ref l), some (.int sp t), some (.int p' u'), some v1, va, vb]) :: (l, .list vs') :: []) s' ∧ Pairs σ.heap vs' ps' ∧
    0 ≤ p' ∧ p' < ps'.length ∧ ps'.length = ps.length ∧ sdM (gP ps p.toNat) sp.toNat ps' p'.toNat = sdM (gP ps p.toNat) sp.toNat ps p.toNat ∧ n = p'.toNat) p.toNat ⟨vs, ps, p, u, _, _, F, hp, h1, h2, rfl, rfl, rfl⟩ ?_
  clear F s hp
  intro n s hI2 K hK
  refine ex6 hI2 ?_; (try clear hI2); intro vs' ps' p' u' va vb hJ
  refine and7 hJ ?_; clear hJ; intro F hp h1' h2' hlen hfun hR1
  subst hR1
  have hvl := hp.length
  refine t_cmp ?_
  (refine' e_loc F e ?_ ?_; rotate_left 1; (focus (repeat (first | with_reducible exact At2.here | apply At2.there))))
  (refine' e_loc F e ?_ ?_; rotate_left 1; (focus (repeat (first | with_reducible exact At2.here | apply At2.there))))
  refine c_gt ?_
  by_cases hc : sp < p'
  · have k1 : 0 < p' := Int.lt_of_le_of_lt h0 hc
    have k2 := halfI_nn k1
    have k3 := halfI_lt k1 h2'
    rw [decide_eq_true hc]
    refine x_as (e_bin (e_bin ?_))
    (refine' e_loc F e ?_ ?_; rotate_left 1; (focus (repeat (first | with_reducible exact At2.here | apply At2.there))))
    (refine e_int F ?_; clear F; intro tk s F)
    refine b_sub F ?_; clear F; intro tk1 s F
    (refine e_int F ?_; clear F; intro tk s F)
    refine b_shr1 F (Int.sub_nonneg_of_le k1) ?_; clear F; intro tk2 s F
    (refine' s_loc F e ?_ ?_; rotate_left 1; (focus (repeat (first | with_reducible exact Up2.here | apply Up2.there))); clear F; intro s F)
    refine x_as (e_sub ?_)
    (refine' e_loc F e ?_ ?_; rotate_left 1; (focus (repeat (first | with_reducible exact At2.here | apply At2.there))))
    (refine' e_loc F e ?_ ?_; rotate_left 1; (focus (repeat (first | with_reducible exact At2.here | apply At2.there))))
    refine sub_pairs F (.there .here) hp k2 k3 (Nat.le_trans (Nat.le_of_eq hlen) (Nat.le_trans hz (lb rfl))) fun v2 t2 => ?_
    (refine' s_loc F e ?_ ?_; rotate_left 1; (focus (repeat (first | with_reducible exact Up2.here | apply Up2.there))); clear F; intro s F)
    refine x_if (t_cmp ?_)
    (refine' e_loc F e ?_ ?_; rotate_left 1; (focus (repeat (first | with_reducible exact At2.here | apply At2.there))))
    (refine' e_loc F e ?_ ?_; rotate_left 1; (focus (repeat (first | with_reducible exact At2.here | apply At2.there))))
    refine c_ltp (t2.move F.aft.frz) (t1.move F.aft.frz) hUU ?_
    have e1 : ((p' - 1) / 2).toNat = (p'.toNat - 1) / 2 := halfI h1'
    have e2 : sp.toNat < p'.toNat := toNat_lt h0 hc
    rw [sdM_eq _ _ ps' p'.toNat, if_pos e2, ← e1] at hfun
    by_cases hx : ltP (gP ps' ((p' - 1) / 2).toNat) (gP ps p.toNat) = true
    · rw [if_pos hx] at hfun
      rw [hx]
      refine x_asub ?_
      (refine' e_loc F e ?_ ?_; rotate_left 1; (focus (repeat (first | with_reducible exact At2.here | apply At2.there))))
      (refine' e_loc F e ?_ ?_; rotate_left 1; (focus (repeat (first | with_reducible exact At2.here | apply At2.there))))
      (refine' e_loc F e ?_ ?_; rotate_left 1; (focus (repeat (first | with_reducible exact At2.here | apply At2.there))))
      refine set_listK F (.there .here) h1' (Int.lt_of_lt_of_le h2' (i_le (Nat.le_trans (Nat.le_of_eq (Eq.symm hvl)) (Nat.le_refl (List.length vs'))))) (by lia) ?_; clear F; intro s F
      refine x_as ?_
      (refine' e_loc F e ?_ ?_; rotate_left 1; (focus (repeat (first | with_reducible exact At2.here | apply At2.there))))
      (refine' s_loc F e ?_ ?_; rotate_left 1; (focus (repeat (first | with_reducible exact Up2.here | apply Up2.there))); clear F; intro s F)
      refine x_cont ?_
      exact hK _ _ (halfI_dec k1) (exi6 _ _ _ _ _ _ ⟨F, hp.set _ t2, k2, by rw [List.length_set]; exact k3, by simpa using hlen, hfun, rfl⟩)
    · rw [if_neg hx] at hfun
      rw [Bool.not_eq_true] at hx
      rw [hx]
      refine x_nil (x_brk (x_asub ?_))
      (refine' e_loc F e ?_ ?_; rotate_left 1; (focus (repeat (first | with_reducible exact At2.here | apply At2.there))))
      (refine' e_loc F e ?_ ?_; rotate_left 1; (focus (repeat (first | with_reducible exact At2.here | apply At2.there))))
      (refine' e_loc F e ?_ ?_; rotate_left 1; (focus (repeat (first | with_reducible exact At2.here | apply At2.there))))
      refine set_listK F (.there .here) h1' (Int.lt_of_lt_of_le h2' (i_le (Nat.le_trans (Nat.le_of_eq (Eq.symm hvl)) (Nat.le_refl (List.length vs'))))) (by lia) ?_; clear F; intro s F
      refine x_nil (hJ _ _ ⟨_, rfl, rfl, F.aft, F.inv, ?_⟩)
      rw [← hfun]; exact fin F (hp.set _ t1)
  · rw [decide_eq_false hc]
    have e2 : ¬ sp.toNat < p'.toNat := toNat_nlt hc
    rw [sdM_eq _ _ ps' p'.toNat, if_neg e2] at hfun
    refine x_asub ?_
    (refine' e_loc F e ?_ ?_; rotate_left 1; (focus (repeat (first | with_reducible exact At2.here | apply At2.there))))
    (refine' e_loc F e ?_ ?_; rotate_left 1; (focus (repeat (first | with_reducible exact At2.here | apply At2.there))))
    (refine' e_loc F e ?_ ?_; rotate_left 1; (focus (repeat (first | with_reducible exact At2.here | apply At2.there))))
    refine set_listK F (.there .here) h1' (Int.lt_of_lt_of_le h2' (i_le (Nat.le_trans (Nat.le_of_eq (Eq.symm hvl)) (Nat.le_refl (List.length vs'))))) (by lia) ?_; clear F; intro s F
    refine x_nil (hJ _ _ ⟨_, rfl, rfl, F.aft, F.inv, ?_⟩)
    rw [← hfun]; exact fin F (hp.set _ t1)

noncomputable def smDown (ps : List (Int × Int)) (p : Nat) : List (Int × Int) × Nat :=
  if h : 2 * p + 1 < ps.length then
    if 2 * p + 2 < ps.length ∧ ltP (gP ps (2 * p + 2)) (gP ps (2 * p + 1)) = false then smDown (ps.set p (gP ps (2 * p + 2))) (2 * p + 2)
    else smDown (ps.set p (gP ps (2 * p + 1))) (2 * p + 1)
  else (ps, p)
termination_by ps.length - p
decreasing_by
  · rw [List.length_set]; rename_i h2; exact down_lt h2.1 lt_ch2
  · rw [List.length_set]; exact down_lt h lt_ch1
theorem smDown_eq (ps : List (Int × Int)) (p : Nat) : smDown ps p = if 2 * p + 1 < ps.length then
    if 2 * p + 2 < ps.length ∧ ltP (gP ps (2 * p + 2)) (gP ps (2 * p + 1)) = false then smDown (ps.set p (gP ps (2 * p + 2))) (2 * p + 2)
    else smDown (ps.set p (gP ps (2 * p + 1))) (2 * p + 1)
  else (ps, p) := by
  rw [smDown]
  split <;> rfl
noncomputable def smF (ps : List (Int × Int)) (p : Nat) : List (Int × Int) :=
  sdM (gP ps p) p ((smDown ps p).1.set (smDown ps p).2 (gP ps p)) (smDown ps p).2

theorem siftupM_spec {l : Addr} {ps : List (Int × Int)} {p : Nat} {t : Tok} (I : Iv g σ) (hA : A.depth + 1 < recursionLimit) (hU : A.units + 200 < cLine) (hl : K.At σ.heap l (.pairs ps)) (hlow : g.h₁.objs.size ≤ l) (hz : ps.length ≤ 100) (h2 : p < ps.length) :
    Spec w A (.ref (g.fa 20)) [.ref l, .int p t] σ (fun v s' => v = .none ∧ After g [l] σ s' ∧ Iv g s' ∧ K.At s'.heap l (.pairs (smF ps p))) := by
  refine ex2 hl ?_; (try clear hl); intro vs n0 hJ
  refine and2 hJ ?_; clear hJ; intro ho hp
  have F0 : St g σ [l] [(l, .list vs)] σ := .start I (by intro q hq; cases List.mem_singleton.mp hq; exact ⟨n0, ho⟩) (by simp) (by simp) (by simpa using hlow)
  have fin : ∀ {s' : Shared} {vs' ps'} {a : Addr × K}, St g σ [l] [a, (l, .list vs')] s' → Pairs σ.heap vs' ps' → K.At s'.heap l (.pairs ps') := fun F hp => by
    obtain ⟨n, e⟩ := F.at _ (.tail _ (.head _))
    exact ⟨_, n, e, hp.move F.aft.frz⟩
  have hvl := hp.length
  refine enter (i := 20) ["heap", "pos", "endpos", "startpos", "newitem", "childpos", "rightpos"] [some _, some _, none, none, none, none, none] (pn := ["heap", "pos"]) (k := 5) I (u_lt hA) (by decide) F0 (by decide +kernel) rfl (fun _ _ _ => by rfl) (by rfl) (by rfl) (by decide +kernel) (by decide +kernel) (by decide +kernel) (by decide +kernel) ?_
  intro L s hL F e J hJ
  have hUU : (A.deeper (g.env 20 L)).units + 100 < cLine := by show A.units + 3 + 100 < cLine; lia
  refine x_as (e_call1 ?_)
  (refine' e_bi F e ?_ ?_; rotate_left 1; with_reducible constructor)
  (refine' e_loc F e ?_ ?_; rotate_left 1; (focus (repeat (first | with_reducible exact At2.here | apply At2.there))))
  refine cw_bi (len_listK F (.there .here) (Nat.lt_of_le_of_lt (Nat.le_of_eq hvl) (Nat.lt_of_le_of_lt hz (lb rfl))) ?_); clear F; intro t0 s F
  (refine' s_loc F e ?_ ?_; rotate_left 1; (focus (repeat (first | with_reducible exact Up2.here | apply Up2.there))); clear F; intro s F)
  refine x_as ?_
  (refine' e_loc F e ?_ ?_; rotate_left 1; (focus (repeat (first | with_reducible exact At2.here | apply At2.there))))
  (refine' s_loc F e ?_ ?_; rotate_left 1; (focus (repeat (first | with_reducible exact Up2.here | apply Up2.there))); clear F; intro s F)
  refine x_as (e_sub ?_)
  (refine' e_loc F e ?_ ?_; rotate_left 1; (focus (repeat (first | with_reducible exact At2.here | apply At2.there))))
  (refine' e_loc F e ?_ ?_; rotate_left 1; (focus (repeat (first | with_reducible exact At2.here | apply At2.there))))
  refine sub_pairs F (.there .here) hp (Int.natCast_nonneg p) (i_lt h2) (Nat.le_trans hz (lb rfl)) fun v1 t1 => ?_
  rw [Int.toNat_natCast] at t1
  (refine' s_loc F e ?_ ?_; rotate_left 1; (focus (repeat (first | with_reducible exact Up2.here | apply Up2.there))); clear F; intro s F)
  refine x_as (e_bin (e_bin ?_))
  (refine e_int F ?_; clear F; intro tk s F)
  (refine' e_loc F e ?_ ?_; rotate_left 1; (focus (repeat (first | with_reducible exact At2.here | apply At2.there))))
  refine b_mul F ?_; (clear F; intro tk s F)
  (refine e_int F ?_; clear F; intro tk s F)
  refine b_add F ?_; clear F; intro t2 s F
  (refine' s_loc F e ?_ ?_; rotate_left 1; (focus (repeat (first | with_reducible exact Up2.here | apply Up2.there))); clear F; intro s F)
  refine x_while (fun n s' => ∃ (vs' : List Value) (ps' : List (Int × Int)) (p' : Nat) (u' t2 : Tok) (v7 : Option Value), St g σ [l] ((L, .ns ["heap", "pos", "endpos", "startpos", "newitem", "childpos", "rightpos"] [some (.ref l), some (.int p' u'), some (.int vs.length t0), some (.int p t), some v1, some (.int (2 * p' + 1) t2), v7]) :: (l, .list vs') :: []) s' ∧ Pairs σ.heap vs' ps' ∧
    p' < ps'.length ∧ ps'.length = ps.length ∧ smDown ps' p' = smDown ps p ∧ n = ps'.length - p') (ps.length - p) ⟨vs, ps, p, t, _, _, F, hp, h2, rfl, rfl, rfl⟩ ?_
  clear F s
  intro n s hI2 K hK
  refine ex6 hI2 ?_; (try clear hI2); intro vs' ps' p' u' t2 v7 hJ
  refine and6 hJ ?_; clear hJ; intro F hp' h2' hlen hfun hR2
  subst hR2
  have hvl' := hp'.length
  refine t_cmp ?_
  (refine' e_loc F e ?_ ?_; rotate_left 1; (focus (repeat (first | with_reducible exact At2.here | apply At2.there))))
  (refine' e_loc F e ?_ ?_; rotate_left 1; (focus (repeat (first | with_reducible exact At2.here | apply At2.there))))
  refine c_lt ?_
  rw [smDown_eq ps' p'] at hfun
  have e1 : (2 * (p' : Int) + 1).toNat = 2 * p' + 1 := tn rfl
  have e2 : (2 * (p' : Int) + 1 + 1).toNat = 2 * p' + 2 := tn rfl
  by_cases hc : 2 * (p' : Int) + 1 < vs.length
  · have hc' : 2 * p' + 1 < ps'.length := by lia
    rw [if_pos hc'] at hfun
    rw [decide_eq_true hc]
    refine x_as (e_bin ?_)
    (refine' e_loc F e ?_ ?_; rotate_left 1; (focus (repeat (first | with_reducible exact At2.here | apply At2.there))))
    (refine e_int F ?_; clear F; intro tk s F)
    refine b_add F ?_; clear F; intro t3 s F
    (refine' s_loc F e ?_ ?_; rotate_left 1; (focus (repeat (first | with_reducible exact Up2.here | apply Up2.there))); clear F; intro s F)
    refine x_ifm (fun s' => ∃ (cp : Nat) (tc : Tok), cp < ps'.length ∧ p' < cp ∧ smDown (ps'.set p' (gP ps' cp)) cp = smDown ps p ∧
        St g σ [l] ((L, .ns ["heap", "pos", "endpos", "startpos", "newitem", "childpos", "rightpos"] [some (.ref l), some (.int p' u'), some (.int vs.length t0), some (.int p t), some v1, some (.int cp tc), some (.int (2 * (p' : Int) + 1 + 1) t3)]) :: (l, .list vs') :: []) s') ?_ ?_
    · intro P hP
      refine t_and (t_cmp ?_)
      (refine' e_loc F e ?_ ?_; rotate_left 1; (focus (repeat (first | with_reducible exact At2.here | apply At2.there))))
      (refine' e_loc F e ?_ ?_; rotate_left 1; (focus (repeat (first | with_reducible exact At2.here | apply At2.there))))
      refine c_lt ?_
      by_cases hc2 : 2 * (p' : Int) + 1 + 1 < vs.length
      · rw [decide_eq_true hc2]
        refine t_not (t_cmp ?_)
        refine e_sub ?_
        (refine' e_loc F e ?_ ?_; rotate_left 1; (focus (repeat (first | with_reducible exact At2.here | apply At2.there))))
        (refine' e_loc F e ?_ ?_; rotate_left 1; (focus (repeat (first | with_reducible exact At2.here | apply At2.there))))
        refine sub_pairs F (.there .here) hp' (by lia) (by lia) (Nat.le_trans (Nat.le_of_eq hlen) (Nat.le_trans hz (lb rfl))) fun v4 t4 => ?_
        refine e_sub ?_
        (refine' e_loc F e ?_ ?_; rotate_left 1; (focus (repeat (first | with_reducible exact At2.here | apply At2.there))))
        (refine' e_loc F e ?_ ?_; rotate_left 1; (focus (repeat (first | with_reducible exact At2.here | apply At2.there))))
        refine sub_pairs F (.there .here) hp' (by lia) (by lia) (Nat.le_trans (Nat.le_of_eq hlen) (Nat.le_trans hz (lb rfl))) fun v5 t5 => ?_
        refine c_ltp (t4.move F.aft.frz) (t5.move F.aft.frz) (u_lt hUU) ?_
        rw [e1, e2]
        by_cases hc3 : ltP (gP ps' (2 * p' + 2)) (gP ps' (2 * p' + 1)) = true
        · rw [hc3]
          refine x_nil ⟨rfl, hP _ (exi2 (2 * p' + 1) t2 ⟨hc', lt_ch1, ?_, F⟩)⟩
          rw [if_neg (fun q => by rw [hc3] at q; exact absurd q.2 (by decide))] at hfun; exact hfun
        · rw [Bool.not_eq_true] at hc3
          rw [hc3]
          refine x_as ?_
          (refine' e_loc F e ?_ ?_; rotate_left 1; (focus (repeat (first | with_reducible exact At2.here | apply At2.there))))
          (refine' s_loc F e ?_ ?_; rotate_left 1; (focus (repeat (first | with_reducible exact Up2.here | apply Up2.there))); clear F; intro s F)
          refine x_nil ⟨rfl, hP _ (exi2 (2 * p' + 2) t3 ⟨by lia, lt_ch2, ?_, F⟩)⟩
          rw [if_pos ⟨by lia, hc3⟩] at hfun; exact hfun
      · rw [decide_eq_false hc2]
        refine x_nil ⟨rfl, hP _ (exi2 (2 * p' + 1) t2 ⟨hc', lt_ch1, ?_, F⟩)⟩
        rw [if_neg (fun q => hc2 (by lia))] at hfun; exact hfun
    · clear F s
      intro s hI1
      refine ex2 hI1 ?_; (try clear hI1); intro cp tc hJ
      refine and4 hJ ?_; clear hJ; intro hcp hcp' hfun F
      refine x_asub (e_sub ?_)
      (refine' e_loc F e ?_ ?_; rotate_left 1; (focus (repeat (first | with_reducible exact At2.here | apply At2.there))))
      (refine' e_loc F e ?_ ?_; rotate_left 1; (focus (repeat (first | with_reducible exact At2.here | apply At2.there))))
      refine sub_pairs F (.there .here) hp' (Int.natCast_nonneg cp) (i_lt hcp) (Nat.le_trans (Nat.le_of_eq hlen) (Nat.le_trans hz (lb rfl))) fun v4 t4 => ?_
      rw [Int.toNat_natCast] at t4
      (refine' e_loc F e ?_ ?_; rotate_left 1; (focus (repeat (first | with_reducible exact At2.here | apply At2.there))))
      (refine' e_loc F e ?_ ?_; rotate_left 1; (focus (repeat (first | with_reducible exact At2.here | apply At2.there))))
      refine set_listK F (.there .here) (Int.natCast_nonneg p') (i_lt (Nat.lt_of_lt_of_le h2' (Nat.le_of_eq (Eq.symm hvl')))) (by lia) ?_; (clear F; intro s F)
      rw [Int.toNat_natCast] at F
      refine x_as ?_
      (refine' e_loc F e ?_ ?_; rotate_left 1; (focus (repeat (first | with_reducible exact At2.here | apply At2.there))))
      (refine' s_loc F e ?_ ?_; rotate_left 1; (focus (repeat (first | with_reducible exact Up2.here | apply Up2.there))); clear F; intro s F)
      refine x_as (e_bin (e_bin ?_))
      (refine e_int F ?_; clear F; intro tk s F)
      (refine' e_loc F e ?_ ?_; rotate_left 1; (focus (repeat (first | with_reducible exact At2.here | apply At2.there))))
      refine b_mul F ?_; (clear F; intro tk s F)
      (refine e_int F ?_; clear F; intro tk s F)
      refine b_add F ?_; clear F; intro t6 s F
      (refine' s_loc F e ?_ ?_; rotate_left 1; (focus (repeat (first | with_reducible exact Up2.here | apply Up2.there))); clear F; intro s F)
      exact x_nil <| hK _ _ (by rw [List.length_set]; exact down_lt hcp hcp') (exi6 _ (ps'.set p' (gP ps' cp)) cp _ _ _ ⟨F, hp'.set _ t4, by simpa using hcp, by simpa using hlen, hfun, rfl⟩)
  · have hc' : ¬ 2 * p' + 1 < ps'.length := by lia
    rw [if_neg hc'] at hfun
    rw [decide_eq_false hc]
    refine x_asub ?_
    (refine' e_loc F e ?_ ?_; rotate_left 1; (focus (repeat (first | with_reducible exact At2.here | apply At2.there))))
    (refine' e_loc F e ?_ ?_; rotate_left 1; (focus (repeat (first | with_reducible exact At2.here | apply At2.there))))
    (refine' e_loc F e ?_ ?_; rotate_left 1; (focus (repeat (first | with_reducible exact At2.here | apply At2.there))))
    refine set_listK F (.there .here) (Int.natCast_nonneg p') (i_lt (Nat.lt_of_lt_of_le h2' (Nat.le_of_eq (Eq.symm hvl')))) (by lia) ?_; (clear F; intro s F)
    rw [Int.toNat_natCast] at F
    refine x_expr (e_call3 ?_)
    refine e_fn 19 F e ?_
    (refine' e_loc F e ?_ ?_; rotate_left 1; (focus (repeat (first | with_reducible exact At2.here | apply At2.there))))
    (refine' e_loc F e ?_ ?_; rotate_left 1; (focus (repeat (first | with_reducible exact At2.here | apply At2.there))))
    (refine' e_loc F e ?_ ?_; rotate_left 1; (focus (repeat (first | with_reducible exact At2.here | apply At2.there))))
    refine cw_fn F.inv (by decide) (siftdownM_spec F.inv (by show A.depth + 1 < _; exact hA) hUU (fin F (hp'.set p' t1)) (F.low _ (.tail _ (.head _))) (by simp; exact Nat.le_trans (Nat.le_of_eq hlen) hz) (Int.natCast_nonneg p) (Int.natCast_nonneg p') (by simp; exact h2')) ?_
    intro v s' hI2
    refine and4 hI2 ?_; (try clear hI2); intro hR3 ha hi hk
    subst hR3
    have F := F.after1 (.there .here) ha hi hk
    refine x_nil (hJ _ _ ⟨_, rfl, rfl, F.aft, F.inv, ?_⟩)
    have := F.at _ (.tail _ (.head _))
    unfold smF
    rw [← hfun]
    simpa [h2'] using this

theorem sdM_len (x : Int × Int) (sp : Nat) (ps : List (Int × Int)) (p : Nat) : (sdM x sp ps p).length = ps.length := by
  induction p using Nat.strongRecOn generalizing ps with
  | ind p ih =>
    rw [sdM_eq]
    split
    · rename_i h0
      split
      · rw [ih _ (half_dec h0)]; simp
      · simp
    · simp
theorem smDown_len (ps : List (Int × Int)) (p : Nat) (h : p < ps.length) : (smDown ps p).1.length = ps.length ∧ (smDown ps p).2 < ps.length := by
  generalize hn : ps.length - p = n
  induction n using Nat.strongRecOn generalizing ps p with
  | ind n ih =>
    rw [smDown_eq]
    split
    · split
      · rename_i h1 h2
        have := ih (ps.length - (2 * p + 2)) (by rw [← hn]; exact down_lt h2.1 lt_ch2) (ps.set p (gP ps (2 * p + 2))) (2 * p + 2) (by rw [List.length_set]; exact h2.1) (by rw [List.length_set])
        simpa using this
      · rename_i h1 h2
        have := ih (ps.length - (2 * p + 1)) (by rw [← hn]; exact down_lt h1 lt_ch1) (ps.set p (gP ps (2 * p + 1))) (2 * p + 1) (by rw [List.length_set]; exact h1) (by rw [List.length_set])
        simpa using this
    · exact ⟨rfl, h⟩
theorem smF_len (ps : List (Int × Int)) (p : Nat) (h : p < ps.length) : (smF ps p).length = ps.length := by
  unfold smF
  rw [sdM_len]
  simp [(smDown_len ps p h).1]
noncomputable def hmF : Nat → List (Int × Int) → List (Int × Int)
  | 0, ps => ps
  | k + 1, ps => hmF k (smF ps k)
theorem hmF_len : ∀ (k : Nat) (ps : List (Int × Int)), k ≤ ps.length → (hmF k ps).length = ps.length
  | 0, _, _ => rfl
  | k + 1, ps, h => by rw [hmF, hmF_len k _ (by rw [smF_len _ _ (Nat.lt_of_lt_of_le (Nat.lt_succ_self k) h)]; exact u_le h), smF_len _ _ (Nat.lt_of_lt_of_le (Nat.lt_succ_self k) h)]

theorem len_pairs {w : World} {A : Around} {E : Value → Shared → Prop} {s₀ s : Shared} {ms : List Addr} {os : Os} {l : Addr} {ps : List (Int × Int)} {Q : Value → Shared → Prop} (F : St g s₀ ms os s) (hm : Mem os l (.pairs ps)) (hz : ps.length < 2 ^ 62) (h : ∀ t s', St g s₀ ms os s' → Q (.int ps.length t) s') : Wp w A (call (.builtin "len") [.ref l]) Q E s := by
  refine .of ?_
  refine ex2 (F.mem hm) ?_; intro vs n hJ
  refine and2 hJ ?_; clear hJ; intro ho hp
  refine Calls.call_len_list (listO_is ho) (by simp [hp.length]; exact i_lt (Nat.lt_of_lt_of_le hz (lb rfl))) ?_
  have : (vs.toArray.size : Int) = ps.length := by simp [hp.length]
  rw [this]
  exact h _ _ (F.tick _)
theorem heapifyM_spec {l : Addr} {ps : List (Int × Int)} (I : Iv g σ) (hh : A.handled = none) (hA : A.depth + 2 < recursionLimit) (hU : A.units + 300 < cLine) (hl : K.At σ.heap l (.pairs ps)) (hlow : g.h₁.objs.size ≤ l) (hz : ps.length ≤ 100) :
    Spec w A (.ref (g.fa 16)) [.ref l] σ (fun v s' => v = .none ∧ After g [l] σ s' ∧ Iv g s' ∧ K.At s'.heap l (.pairs (hmF (ps.length / 2) ps))) := by
  have F0 : St g σ [l] [(l, .pairs ps)] σ := .start I (by simpa using hl) (by simp) (by simp) (by simpa using hlow)
  refine enter (i := 16) ["x", "n", "i"] [some _, none, none] (pn := ["x"]) (k := 2) I (u_lt hA) (by decide) F0 (by decide +kernel) rfl (fun _ _ _ => by rfl) (by rfl) (by rfl) (by decide +kernel) (by decide +kernel) (by decide +kernel) (by decide +kernel) ?_
  intro L s hL F e J hJ
  have hUU : (A.deeper (g.env 16 L)).units + 200 < cLine := by show A.units + 3 + 200 < cLine; lia
  refine x_as (e_call1 ?_)
  (refine' e_bi F e ?_ ?_; rotate_left 1; with_reducible constructor)
  (refine' e_loc F e ?_ ?_; rotate_left 1; (focus (repeat (first | with_reducible exact At2.here | apply At2.there))))
  refine cw_bi (len_pairs F (.there .here) (Nat.lt_of_le_of_lt hz (lb rfl)) ?_); (clear F; intro tk s F)
  (refine' s_loc F e ?_ ?_; rotate_left 1; (focus (repeat (first | with_reducible exact Up2.here | apply Up2.there))); clear F; intro s F)
  refine x_for (e_call1 ?_)
  (refine' e_bi F e ?_ ?_; rotate_left 1; with_reducible constructor)
  refine e_call1 ?_
  (refine' e_bi F e ?_ ?_; rotate_left 1; with_reducible constructor)
  refine e_bin ?_
  (refine' e_loc F e ?_ ?_; rotate_left 1; (focus (repeat (first | with_reducible exact At2.here | apply At2.there))))
  (refine e_int F ?_; clear F; intro tk s F)
  refine b_fdiv F (by decide) (by decide) ?_; (clear F; intro tk s F)
  refine cw_ty (k_range1 F ?_); clear F; intro r u v s hr F
  have e2 : (ps.length : Int) / 2 = ((ps.length / 2 : Nat) : Int) := rfl
  refine cw_ty (k_reversed F (.there .here) (Int.le_trans (Int.natCast_nonneg (List.length ps / 2)) (Int.le_of_eq (Eq.symm e2))) (by lia) ?_); clear F; intro it s hit F
  refine it_riter F (.there .here) ?_
  refine ⟨fun n s => ∃ (ps' : List (Int × Int)) (v' : Option Value), n ≤ ps.length / 2 ∧ ps'.length = ps.length ∧ hmF n ps' = hmF (ps.length / 2) ps ∧
    St g σ [l] [(L, .ns ["x", "n", "i"] [some (.ref l), some (.int ps.length _), v']), (it, .riter ((n : Int) - 1) n (-1)), (l, .pairs ps')] s, ps.length / 2, ⟨ps, _, Nat.le_refl _, rfl, rfl, by rw [← e2]; exact F.drop (.there (.there .here))⟩, ?_⟩
  clear F s
  intro n s hI2 K hK
  refine ex2 hI2 ?_; (try clear hI2); intro ps' v' hJ
  refine and4 hJ ?_; clear hJ; intro hn hlen hfun F
  refine nx_range F hh (.head _) hL hit (.there .here) (.there .here) (fun hpos => ?_) (fun hpos => ?_)
  · clear F; intro t s F
    obtain ⟨n, rfl⟩ : ∃ k, n = k + 1 := ⟨n - 1, by lia⟩
    refine x_name ?_
    (refine' s_loc F e ?_ ?_; rotate_left 1; (focus (repeat (first | with_reducible exact Up2.here | apply Up2.there))); clear F; intro s F)
    refine x_expr (e_call2 ?_)
    refine e_fn 20 F e ?_
    (refine' e_loc F e ?_ ?_; rotate_left 1; (focus (repeat (first | with_reducible exact At2.here | apply At2.there))))
    (refine' e_loc F e ?_ ?_; rotate_left 1; (focus (repeat (first | with_reducible exact At2.here | apply At2.there))))
    have e1 : ((n + 1 : Nat) : Int) - 1 = (n : Int) := cast_pred
    rw [e1]
    refine cw_fn F.inv (by decide) (siftupM_spec F.inv (by show A.depth + 1 + 1 < _; exact hA) hUU (F.mem (.there (.there .here))) (F.low _ (.tail _ (.tail _ (.head _)))) (Nat.le_trans (Nat.le_of_eq hlen) hz) (by lia)) ?_
    intro v s' hI2
    refine and4 hI2 ?_; (try clear hI2); intro hR4 ha hi hk
    subst hR4
    have F := F.after1 (.there (.there .here)) ha hi hk
    have e3 : (n : Int) + -1 = (n : Int) - 1 := rfl
    rw [e1, e3] at F
    exact x_nil <| hK n _ (Nat.lt_succ_self n) (exi2 (smF ps' n) _ ⟨(u_le hn), by rw [smF_len _ _ (by lia)]; exact hlen, hfun, F⟩)
  · clear F; intro s F
    have : n = 0 := by lia
    subst this
    refine x_nil (hJ _ _ ⟨_, rfl, rfl, F.aft, F.inv, ?_⟩)
    rw [← hfun]; exact F.at _ (.tail _ (.head _))

theorem heapreplaceM_spec {l : Addr} {v : Value} {ps : List (Int × Int)} {x : Int × Int} (I : Iv g σ) (hA : A.depth + 2 < recursionLimit) (hU : A.units + 300 < cLine) (hl : K.At σ.heap l (.pairs ps)) (hv : Tup2 σ.heap v x) (hlow : g.h₁.objs.size ≤ l) (hz : ps.length ≤ 100) (h0 : 0 < ps.length) :
    Spec w A (.ref (g.fa 15)) [.ref l, v] σ (fun v s' => After g [l] σ s' ∧ Iv g s' ∧ K.At s'.heap l (.pairs (smF (ps.set 0 x) 0))) := by
  refine ex2 hl ?_; (try clear hl); intro vs n0 hJ
  refine and2 hJ ?_; clear hJ; intro ho hp
  have F0 : St g σ [l] [(l, .list vs)] σ := .start I (by intro q hq; cases List.mem_singleton.mp hq; exact ⟨n0, ho⟩) (by simp) (by simp) (by simpa using hlow)
  have hvl := hp.length
  refine enter (i := 15) ["heap", "item", "returnitem"] [some _, some _, none] (pn := ["heap", "item"]) (k := 1) I (u_lt hA) (by decide) F0 (by decide +kernel) rfl (fun _ _ _ => by rfl) (by rfl) (by rfl) (by decide +kernel) (by decide +kernel) (by decide +kernel) (by decide +kernel) ?_
  intro L s hL F e J hJ
  have hUU : (A.deeper (g.env 15 L)).units + 200 < cLine := by show A.units + 3 + 200 < cLine; lia
  refine x_as (e_sub ?_)
  (refine' e_loc F e ?_ ?_; rotate_left 1; (focus (repeat (first | with_reducible exact At2.here | apply At2.there))))
  (refine e_int F ?_; clear F; intro tk s F)
  refine sub_pairs F (.there .here) hp (by decide) (i_lt h0) (Nat.le_trans hz (lb rfl)) fun v1 t1 => ?_
  (refine' s_loc F e ?_ ?_; rotate_left 1; (focus (repeat (first | with_reducible exact Up2.here | apply Up2.there))); clear F; intro s F)
  refine x_asub ?_
  (refine' e_loc F e ?_ ?_; rotate_left 1; (focus (repeat (first | with_reducible exact At2.here | apply At2.there))))
  (refine' e_loc F e ?_ ?_; rotate_left 1; (focus (repeat (first | with_reducible exact At2.here | apply At2.there))))
  (refine e_int F ?_; clear F; intro tk s F)
  refine set_listK F (.there .here) (by decide) (i_lt (Nat.lt_of_lt_of_le h0 (Nat.le_of_eq (Eq.symm hvl)))) (Nat.lt_of_le_of_lt (Nat.le_of_eq hvl) (Nat.lt_of_le_of_lt hz (lb rfl))) ?_; (clear F; intro s F)
  have hk : K.At s.heap l (.pairs (ps.set 0 x)) := by
    obtain ⟨n, e⟩ := F.at _ (.tail _ (.head _))
    exact ⟨_, n, e, (hp.set 0 hv).move F.aft.frz⟩
  refine x_expr (e_call2 ?_)
  refine e_fn 20 F e ?_
  (refine' e_loc F e ?_ ?_; rotate_left 1; (focus (repeat (first | with_reducible exact At2.here | apply At2.there))))
  refine e_int F ?_
  intro tk s2 F2
  have hk2 : K.At s2.heap l (.pairs (ps.set 0 x)) := by
    obtain ⟨n, e⟩ := F2.at _ (.tail _ (.head _))
    exact ⟨_, n, e, (hp.set 0 hv).move F2.aft.frz⟩
  clear F hk
  refine cw_fn F2.inv (by decide) (siftupM_spec (p := 0) F2.inv (by show A.depth + 1 + 1 < _; exact hA) hUU hk2 (F2.low _ (.tail _ (.head _))) (by simp; exact hz) (by simpa using h0)) ?_
  intro v s' hI2
  refine and4 hI2 ?_; (try clear hI2); intro hR5 ha hi hk
  subst hR5
  have F := F2.after1 (.there .here) ha hi hk
  refine x_ret ?_
  (refine' e_loc F e ?_ ?_; rotate_left 1; (focus (repeat (first | with_reducible exact At2.here | apply At2.there))))
  exact hJ _ _ ⟨_, rfl, F.aft, F.inv, F.at _ (.tail _ (.head _))⟩
end
end
/-! MX7 -/
section
set_option hygiene false
section
variable {w : World} {A : Around} {E : Value → Shared → Prop} {g : Gd} {s₀ s : Shared} {ms : List Addr} {os os' : Os} {env : Env} {L : Addr} {nl : List Str} {vs vs' : List (Option Value)}
theorem Wp.attempt {α : Type} {m : Sem α} {Q : Except Value α → Shared → Prop} (h : Wp w A m (fun a s' => Q (.ok a) s') NoE s) : Wp w A m.attempt Q E s := Wp.iff.mpr fun Γ p hΓ hb => by
  rw [Sem.wp_attempt]
  exact Sem.wp_mono _ Γ m (fun _ _ _ h' => h') (fun _ _ _ h' => h'.elim) p s (Wp.iff.mp h Γ p hΓ hb)

/-- how a comprehension ends -/
noncomputable def CEnd (w : World) (A : Around) (g : Gd) (s₀ : Shared) (ms : List Addr) (use : Option (Value → Sem Unit)) (D C : Addr) (Q : Value → Shared → Prop) (E : Value → Shared → Prop) (s : Shared) : Prop :=
  match use with
  | none => ∃ nl vs os', St g s₀ ms ((C, .ns nl vs) :: os') s ∧ ∀ s'', St g s₀ ms os' s'' → Q (.ref D) s''
  | some u => Wp w A (u (.ref D)) (fun _ s1 => ∃ nl vs os', St g s₀ ms ((C, .ns nl vs) :: os') s1 ∧ ∀ s'', St g s₀ ms os' s'' → Q .none s'') E s

theorem cd_compLoop {elt target iter : Expr} {ifs : List Expr} {scope : Scope} {pos : Pos} {it acc : Value} {env : Env} {R : Result → Shared → Prop} (I : Nat → Shared → Prop)
    (turn : ∀ n s, I n s → Wp w A (pyNext it) (fun r s₁ => match r with
      | none => R (.ok .next) s₁
      | some v => Wp w A (letOwnedTupleGo target it v) (fun _ s₁' => Wp w A (assign target env v) (fun _ s₂ =>
          Wp w A (forIn ifs true fun c r => if r = true then do let ok ← isTrue c env (eval c env); pure (ForInStep.yield ok) else pure (ForInStep.yield r)) (fun ok s₃ =>
            if ok then Wp w A (eval elt env) (fun x s₃ => Wp w A (call (.builtin "list.append") [acc, x]) (fun _ s₄ => ∃ m, m < n ∧ I m s₄) NoE s₃) NoE s₃ else ∃ m, m < n ∧ I m s₃) NoE s₂) NoE s₁') NoE s₁) NoE s)
    (n : Nat) (h : I n s) : Cd w A (.compLoop (.ListComp elt [⟨target, iter, ifs, 0⟩] scope pos) 0 it acc env) R s := by
  refine Cd.loop rfl rfl I (fun n s hI => ?_) n h
  show Wp w A ((compTurn (.ListComp elt [⟨target, iter, ifs, 0⟩] scope pos) 0 it acc env).onRaise (fun x => do noteFrame x env; theTreesLotGoes x)) _ _ s
  refine Wp.onRaise ?_
  rw [compTurn_list]
  refine Wp.bind (Wp.standAt (Wp.bind ((turn n s hI).imp fun r s₁ h₁ => ?_)))
  cases r with
  | none => exact Wp.pure h₁
  | some v =>
    refine Wp.bind (h₁.imp fun _ s₁' h₁' => Wp.bind (h₁'.imp fun _ s₂ h₂ => Wp.bind ?_))
    refine h₂.imp fun ok s₃ h₃ => ?_
    cases ok with
    | false => exact Wp.pure (.inl ⟨rfl, h₃⟩)
    | true => exact Wp.bind (Wp.bind (h₃.imp fun x s₄ h₄ => Wp.bind (h₄.imp fun _ s₅ h₅ => Wp.pure (Wp.pure (.inl ⟨rfl, h₅⟩)))))

theorem cd_compStart {elt target iter : Expr} {ifs : List Expr} {scope : Scope} {pos : Pos} {it acc : Value} {env : Env} {R : Result → Shared → Prop}
    (h0 : Cd w A (.compLoop (.ListComp elt [⟨target, iter, ifs, 0⟩] scope pos) 0 it acc env) R s)
    (h : Wp w A (pyIter it) (fun it' s' => Cd w A (.compLoop (.ListComp elt [⟨target, iter, ifs, 0⟩] scope pos) 0 it' acc env) R s') NoE s) :
    Cd w A (.compStart (.ListComp elt [⟨target, iter, ifs, 0⟩] scope pos) 0 it acc env) R s := by
  refine Cd.tree rfl ?_
  show Wp w A ((compStart (.ListComp elt [⟨target, iter, ifs, 0⟩] scope pos) 0 it acc env).onRaise (fun x => do noteFrame x env; standAt theWindowsPlace)) _ _ s
  refine Wp.onRaise ?_
  unfold compStart
  show Wp w A (ask >>= _) _ _ s
  refine Wp.bind (.of (wpAny_askSetting ?_))
  split
  · exact Wp.pure ⟨rfl, h0⟩
  · refine Wp.bind (.of (wpAny_rule ?_))
    exact Wp.bind (Wp.standAt (Wp.bind (h.imp fun it' s' h' => Wp.pure ⟨rfl, h'⟩)))

theorem Wp.compLetGo {cenv : Env} {cellsOf : List (Str × NameKind) → List Value} {xs : List (Str × NameKind)} {C : Addr} {Q : Unit → Shared → Prop} (hkind : cenv.scope.kind = .function) (hC : cenv.locals = C)
    (hv : ∀ x ∈ xs, x.2 = .local → cenv.kindOf x.1 = some .local) (F : St g s₀ ms ((C, .ns nl vs) :: os) s) (h : ∀ s', St g s₀ ms os s' → Q () s') : Wp w A (comprehension.letGo cenv cellsOf xs) Q E s := by
  obtain ⟨_, m, hn, _⟩ := F.at _ (.head _)
  refine .of (wpAny_comp_letGo hkind xs s m hv (by rw [hC]; exact hn) fun h' m' hn' hs' => h _ ?_)
  rw [hC] at hn' hs'
  exact (F.update (k' := .ns [] []) (s' := { s with heap := h' }) .here hs' ⟨List.nodup_nil, m', hn', fun x v hx => by cases hx⟩ rfl rfl).drop .here
theorem newList_St {p₀ : Addr × K} {Q : Value → Shared → Prop} (F : St g s₀ ms (p₀ :: os) s) (h : ∀ D s', s₀.heap.objs.size ≤ D → St g s₀ ms (p₀ :: (D, .list []) :: os) s' → Q (.ref D) s') : Wp w A (newList []) Q E s :=
  .of (wpAny_newObj_type (h _ _ F.aft.size (F.freshH (fun b o e => Heap.get?_push_of_some _ e) (Exists.intro 0 (Heap.get?_push_size _ rfl)) (Nat.le_refl _))))

/-- a comprehension with one clause -/
theorem wp_compG {elt target iter : Expr} {ifs : List Expr} {scope : Scope} {pos ipos : Pos} {cl : List (Str × Addr)} {use : Option (Value → Sem Unit)} {first : Sem Value} {Q : Value → Shared → Prop} {cf : Addr → List (Str × Addr)} {tl : Addr → Os} (nl : List Str)
    (hclos : closureFor scope env = pure cl) (hset : ∀ {os : Os} {s : Shared} {Q : Env → Shared → Prop}, St g s₀ ms os s → (∀ C s', s₀.heap.objs.size ≤ C → St g s₀ ms ((C, .ns nl (List.replicate nl.length none)) :: (tl C ++ os)) s' → Q { scope, locals := C, globals := env.globals, cells := cf C, qual := env.qual, func := none, code := env.code, frame := env.frame, builtins := env.builtins } s') → Wp w A (newFunctionEnv scope env.globals cl [] env.qual none .none (some env)) Q E s) (hkind : scope.kind = .function) (hnames : scope.names.all (fun y => y.2 != .local || scope.names.lookup y.1 == some .local) = true)
    (hnl : nl.all (fun x => scope.names.lookup x == some .local && !(x == ("__debug__" : Str))) = true) (hg : env.globals = mainGlobals) (hbl : env.builtins = builtinsNs)
    (h : Wp w A first (fun x s₁ => Wp w A (pyIter x) (fun it s₂ => ∃ (p₀ : Addr × K) (os : Os), St g s₀ ms (p₀ :: os) s₂ ∧
      ∀ D C s₃, s₀.heap.objs.size ≤ D → s₀.heap.objs.size ≤ C → St g s₀ ms ((C, .ns nl (List.replicate nl.length none)) :: (tl C ++ p₀ :: (D, .list []) :: os)) s₃ → En (compEnvC scope (cf C) C env) C nl →
        ∃ (I : Nat → Shared → Prop) (n : Nat), I n s₃ ∧ (∀ n s, I n s → Wp w A (pyIter it) (fun it' s' => it' = it ∧ ∃ m, I m s') NoE s) ∧
        ∀ n s, I n s → ∀ J : Shared → Prop, (∀ m s₃, m < n → I m s₃ → J s₃) → Wp w A (pyNext it) (fun r s₁ => match r with
          | none => CEnd w A g s₀ ms use D C Q E s₁
          | some v => Wp w A (letOwnedTupleGo target it v) (fun _ s₁' => Wp w A (assign target (compEnvC scope (cf C) C env) v) (fun _ s₂ =>
              Wp w A (forIn ifs true fun c r => if r = true then do let ok ← isTrue c (compEnvC scope (cf C) C env) (eval c (compEnvC scope (cf C) C env)); pure (ForInStep.yield ok) else pure (ForInStep.yield r)) (fun ok s₃ =>
                if ok then Wp w A (eval elt (compEnvC scope (cf C) C env)) (fun x s₃ => Wp w A (call (.builtin "list.append") [.ref D, x]) (fun _ s₄ => J s₄) NoE s₃) NoE s₃ else J s₃) NoE s₂) NoE s₁') NoE s₁) NoE s) E s₁) E s)
    (hs : autoParam (∀ x, foldedSetIterable iter env x = pure x) tIrfl) :
    Wp w A (comprehension (.ListComp elt [⟨target, iter, ifs, 0⟩] scope pos) scope env ipos (newList []) false first use) Q E s := by
  have hnames' : ∀ y ∈ scope.names, y.2 = .local → scope.names.lookup y.1 = some .local := fun y hy e => by
    have := List.all_eq_true.mp hnames y hy
    rw [e] at this; simpa using this
  have hnl' : ∀ x ∈ nl, scope.names.lookup x = some .local ∧ (x == ("__debug__" : Str)) = false := fun x hx => by
    have := List.all_eq_true.mp hnl x hx
    simpa using this
  unfold comprehension
  rw [hclos]
  refine Wp.bind (h.imp fun x s₁ h₁ => Wp.bind (Wp.standAt (Wp.bind (Wp.val (hs x) (Wp.bind (Wp.holding (h₁.imp fun it s₂ h₂ => ?_)))))))
  refine ex2 h₂ ?_; (try clear h₂); intro p₀ os hJ
  refine and2 hJ ?_; clear hJ; intro F h₂
  have standIf : ∀ {α : Type} {c : Prop} [Decidable c] {pos : Pos} {k : PUnit → Sem α} {Q : α → Shared → Prop}, Wp w A (k ()) Q E s₂ → Wp w A (if c then (standAt pos >>= k) else k ()) Q E s₂ := by
    intro α c _ pos k Q h
    split
    · exact Wp.bind (Wp.standAt h)
    · exact h
  refine standIf (Wp.bind (newList_St F fun D s₃ hD F3 => Wp.bind (Wp.pure (Wp.bind (hset F3 fun C s₄ hC F4 => ?_)))))
  refine ex2 (h₂ D C _ hD hC F4 ⟨rfl, hkind, fun x hx => ⟨lookup_relabel_local (hnl' x hx).1, (hnl' x hx).2⟩, hg, hbl⟩) ?_; intro I n hJ
  refine and3 hJ ?_; clear hJ; intro hI hself turn
  have hv : ∀ x ∈ (scope.names.filter fun x => (x.2 == .local || x.2 == .cell) && x.1 != (".0" : Str)).reverse, x.2 = .local → Env.kindOf (compEnvC scope (cf C) C env) x.1 = some .local :=
    fun x hx hl => lookup_relabel_local (hnames' x (List.mem_filter.mp (List.mem_reverse.mp hx)).1 hl)
  have hv' : ∀ x ∈ (scope.names.filter fun x => (x.2 == .local || x.2 == .cell) && x.1 != (".0" : Str)).reverse.drop 1 ++ (scope.names.filter fun x => (x.2 == .local || x.2 == .cell) && x.1 != (".0" : Str)).reverse.take 1,
      x.2 = .local → Env.kindOf (compEnvC scope (cf C) C env) x.1 = some .local := fun x hx hl => by
    rcases List.mem_append.mp hx with h1 | h1
    · exact hv x (List.mem_of_mem_drop h1) hl
    · exact hv x (List.mem_of_mem_take h1) hl
  have loop : ∀ n s, I n s → Cd w (A.mark none) (.compLoop (.ListComp elt [⟨target, iter, ifs, 0⟩] scope pos) 0 it (.ref D) (compEnvC scope (cf C) C env)) (fun r s' => match r with | .ok _ => CEnd w A g s₀ ms use D C Q E s' | .error _ => False) s :=
    fun n s hI => cd_compLoop (A := A) I (fun n s hI => turn n s hI (fun s₃ => ∃ m, m < n ∧ I m s₃) fun m _ h1 h2 => ⟨m, h1, h2⟩) n hI
  refine Wp.holding (Wp.bind (Wp.attempt (Wp.holding (Wp.run (Cd.mono (cd_compStart (loop n _ hI) ((hself n _ hI).imp fun it' s' hm => ?_)) fun r s' hr => ?_)))))
  · obtain ⟨rfl, m, hm⟩ := hm
    exact loop m s' hm
  · cases r with
    | error x => exact hr.elim
    | ok f =>
      cases use with
      | none =>
        refine ex3 hr ?_; (try clear hr); intro nl' vs' os' hJ
        refine and2 hJ ?_; clear hJ; intro F5 hq
        exact Wp.bind (Wp.holding (Wp.compLetGo (cenv := compEnvC scope (cf C) C env) hkind rfl hv F5 fun s'' F6 => Wp.pure (hq s'' F6)))
      | some u =>
        refine Wp.bind (.of (wpAny_rule (Wp.bind (Wp.holding (hr.imp fun _ s'' hr' => ?_)))))
        refine ex3 hr' ?_; (try clear hr'); intro nl' vs' os' hJ
        refine and2 hJ ?_; clear hJ; intro F5 hq
        exact Wp.bind (Wp.compLetGo (cenv := compEnvC scope (cf C) C env) hkind rfl hv' F5 fun s'' F6 => Wp.pure (hq s'' F6))
theorem wp_comp {elt target iter : Expr} {ifs : List Expr} {scope : Scope} {pos ipos : Pos} {cl : List (Str × Addr)} {use : Option (Value → Sem Unit)} {first : Sem Value} {Q : Value → Shared → Prop} (nl : List Str)
    (hclos : closureFor scope env = pure cl) (hcell : scope.names.all (fun y => y.2 != .cell) = true) (hkind : scope.kind = .function) (hnames : scope.names.all (fun y => y.2 != .local || scope.names.lookup y.1 == some .local) = true)
    (hnl : nl.all (fun x => scope.names.lookup x == some .local && !(x == ("__debug__" : Str))) = true) (hnd : nl.Nodup) (hg : env.globals = mainGlobals) (hbl : env.builtins = builtinsNs)
    (h : Wp w A first (fun x s₁ => Wp w A (pyIter x) (fun it s₂ => ∃ (p₀ : Addr × K) (os : Os), St g s₀ ms (p₀ :: os) s₂ ∧
      ∀ D C s₃, s₀.heap.objs.size ≤ D → s₀.heap.objs.size ≤ C → St g s₀ ms ((C, .ns nl (List.replicate nl.length none)) :: p₀ :: (D, .list []) :: os) s₃ → En (compEnvC scope cl C env) C nl →
        ∃ (I : Nat → Shared → Prop) (n : Nat), I n s₃ ∧ (∀ n s, I n s → Wp w A (pyIter it) (fun it' s' => it' = it ∧ ∃ m, I m s') NoE s) ∧
        ∀ n s, I n s → ∀ J : Shared → Prop, (∀ m s₃, m < n → I m s₃ → J s₃) → Wp w A (pyNext it) (fun r s₁ => match r with
          | none => CEnd w A g s₀ ms use D C Q E s₁
          | some v => Wp w A (letOwnedTupleGo target it v) (fun _ s₁' => Wp w A (assign target (compEnvC scope cl C env) v) (fun _ s₂ =>
              Wp w A (forIn ifs true fun c r => if r = true then do let ok ← isTrue c (compEnvC scope cl C env) (eval c (compEnvC scope cl C env)); pure (ForInStep.yield ok) else pure (ForInStep.yield r)) (fun ok s₃ =>
                if ok then Wp w A (eval elt (compEnvC scope cl C env)) (fun x s₃ => Wp w A (call (.builtin "list.append") [.ref D, x]) (fun _ s₄ => J s₄) NoE s₃) NoE s₃ else J s₃) NoE s₂) NoE s₁') NoE s₁) NoE s) E s₁) E s)
    (hs : autoParam (∀ x, foldedSetIterable iter env x = pure x) tIrfl) :
    Wp w A (comprehension (.ListComp elt [⟨target, iter, ifs, 0⟩] scope pos) scope env ipos (newList []) false first use) Q E s := by
  have hcell' : ∀ y ∈ scope.names, y.2 ≠ .cell := fun y hy e => by
    have := List.all_eq_true.mp hcell y hy
    rw [e] at this; exact absurd this (by decide)
  exact wp_compG (cf := fun _ => cl) (tl := fun _ => []) nl hclos (fun {os s Q} F3 q => .of (wpAny_newFunctionEnv hcell' (by intro x hx; simp at hx) (fun h₁ hns hsb => by
    have hkeep : ∀ b o, s.heap.get? b = some o → h₁.get? b = some o := fun b o e => hsb.extBut b o (Nat.ne_of_lt (Heap.lt_size e)) (Heap.get?_push_of_some _ e)
    have hz : s.heap.objs.size ≤ h₁.objs.size := Nat.le_of_lt hns.lt
    have hC := F3.aft.size
    exact q _ _ hC ((F3.grow (s' := { heap := h₁, gens := s.gens, drawn := s.drawn, toks := s.toks + ([] : List (Str × Value)).length, os := s.os }) hkeep hz rfl rfl).add ⟨hnd, _, hns, fun x v hx => absurd hx At2.no⟩
      (fun p hp e => Nat.lt_irrefl _ (e ▸ (F3.at p hp).lt : @LT.lt Nat _ s.heap.objs.size s.heap.objs.size)) hC)) hkind)) hkind hnames hnl hg hbl h hs
theorem e_lc {elt target iter : Expr} {ifs : List Expr} {scope : Scope} {pos : Pos} {Q : Value → Shared → Prop} (h : Wp w A (comprehension (.ListComp elt [⟨target, iter, ifs, 0⟩] scope pos) scope env (firstIterPos [⟨target, iter, ifs, 0⟩] pos) (newList []) false (eval iter env) none) Q E s) :
    Wp w A (eval (.ListComp elt [⟨target, iter, ifs, 0⟩] scope pos) env) Q E s := by
  rw [eval_ListComp]
  exact h
theorem x_aslc {x : Str} {p' pos : Pos} {elt target iter : Expr} {ifs : List Expr} {scope : Scope} {cpos : Pos} {rest : List Stmt} {Q : Flow → Shared → Prop}
    (h : Wp w A (comprehension (.ListComp elt [⟨target, iter, ifs, 0⟩] scope cpos) scope env (firstIterPos [⟨target, iter, ifs, 0⟩] cpos) (newList []) false (eval iter env) (some (assign (.Name x p') env))) (fun _ s₂ => Wp w A (execs rest env) Q E s₂) E s)
    (hs : autoParam (swapsWith (.ListComp elt [⟨target, iter, ifs, 0⟩] scope cpos) (some (.Name x p')) pos.line env = pure true) tRfl) : Wp w A (execs (.Assign [.Name x p'] (.ListComp elt [⟨target, iter, ifs, 0⟩] scope cpos) pos :: rest) env) Q E s := by
  rw [execs_cons, exec_Assign_Name_used _ _ _ _ hs]
  refine Wp.bind (Wp.bind (Wp.standAt (Wp.bind ?_)))
  show Wp w A (do let _ ← comprehension (.ListComp elt [⟨target, iter, ifs, 0⟩] scope cpos) scope env _ (newList []) false (eval iter env) (some (assign (.Name x p') env))) _ _ s
  exact Wp.bind (h.imp fun _ s' h' => Wp.pure (Wp.pure h'))
end
end
/-! MX8 -/
section
set_option hygiene false
section
variable {w : World} {A : Around} {E : Value → Shared → Prop} {g : Gd} {s₀ s : Shared} {ms : List Addr} {os os' : Os} {env : Env} {L : Addr} {nl : List Str} {vs vs' : List (Option Value)}
theorem e_cell {x : Str} {p : Pos} {v : Value} {Q : Value → Shared → Prop} (c : Addr) (F : St g s₀ ms os s) (hm : Mem os c (.cell (some v))) (q : Q v s) (hs : autoParam (env.scope.kind = .function) tRfl) (hk : autoParam (env.kindOf x = some .cell) tKrfl) (hc : autoParam (env.cells.lookup x = some c) tKrfl) (hd : autoParam ((x == ("__debug__" : Str)) = false) tKrfl) : Wp w A (eval (.Name x p) env) Q E s :=
  .of (wpAny_Name (wpAny_loadName_cell hs hk hc (F.mem hm) q) hd)
theorem s_cell {x : Str} {v : Value} {v₀ : Option Value} {Q : Unit → Shared → Prop} (c : Addr) (F : St g s₀ ms os s) (hu : Up os c (.cell v₀) (.cell (some v)) os') (q : ∀ s', St g s₀ ms os' s' → Q () s') (hs : autoParam (env.scope.kind = .function) tRfl) (hk : autoParam (env.kindOf x = some .cell) tKrfl) (hc : autoParam (env.cells.lookup x = some c) tKrfl) : Wp w A (storeName env x v) Q E s := by
  have h0 : K.At s.heap c (.cell v₀) := F.at _ hu.mem
  exact .of (wpAny_storeName_cell hs hk hc h0 fun h' hc' hs' => q _ (F.update (s' := { s with heap := h' }) hu hs' hc' rfl rfl))

noncomputable abbrev Gd.envC (g : Gd) (i : Nat) (L : Addr) : Env := newEnv (fnScope (stmtAt i)) L mainGlobals (cellsFrom (L + 1) (fnScope (stmtAt i)).names []) (fnName (stmtAt i) ++ ".<locals>.") (some (g.fa i)) (g.fc i) none builtinsNs
noncomputable abbrev Gd.fd (g : Gd) (i : Nat) (d : Value) : FuncData := { Calls.docDef (fnName (stmtAt i)) (fnParams (stmtAt i)) (fnBody (stmtAt i)) (fnScope (stmtAt i)) (g.fpm i) (g.fc i) (g.fdoc i) with defaults := d }
theorem At2.map {nl : List Str} {m : Str → Option Value} {x : Str} {v : Value} (h : At2 nl (nl.map m) x v) : m x = some v := by
  generalize hv : nl.map m = vs at h
  induction h with
  | here => simp only [List.map_cons, List.cons.injEq] at hv; exact hv.1
  | there _ ih => simp only [List.map_cons, List.cons.injEq] at hv; exact ih hv.2
noncomputable def cellOs : Nat → List (Str × Option Value) → Os
  | _, [] => []
  | a, p :: r => (a, .cell p.2) :: cellOs (a + 1) r
theorem cellOs_mem : ∀ (cn : List (Str × Option Value)) (a : Nat) (p : Addr × K), p ∈ cellOs a cn → ∃ (j : Nat) (y : Str × Option Value), cn[j]? = some y ∧ p = (a + j, .cell y.2) := by
  intro cn
  induction cn with
  | nil => intro a p h; exact absurd h (List.not_mem_nil)
  | cons y r ih =>
    intro a p h
    rw [cellOs] at h
    cases List.mem_cons.mp h with
    | inl h => exact ⟨0, y, rfl, h⟩
    | inr h =>
      refine ex2 (ih (a + 1) p h) ?_; intro j z hJ
      refine and2 hJ ?_; clear hJ; intro hj hp
      exact ⟨j + 1, z, by simpa using hj, by rw [hp, Nat.add_right_comm]; rfl⟩
theorem cellOs_nod : ∀ (cn : List (Str × Option Value)) (a : Nat), ((cellOs a cn).map (·.1)).Nodup := by
  intro cn
  induction cn with
  | nil => intro a; exact List.nodup_nil
  | cons y r ih =>
    intro a
    rw [cellOs, List.map_cons]
    refine List.nodup_cons.mpr ⟨fun hm => ?_, ih (a + 1)⟩
    refine ex1 (List.mem_map.mp hm) ?_; intro p hJ
    refine and2 hJ ?_; clear hJ; intro hp e
    refine ex2 (cellOs_mem r (a + 1) p hp) ?_; intro j z hJ
    refine and2 hJ ?_; clear hJ; intro hU1 hp
    rw [hp] at e
    have h2 : @Eq Nat (a + 1 + j) a := e
    lia

theorem enterC {i : Nat} {dflt : Value} (nl : List Str) (vs0 : List (Option Value)) (cn : List (Str × Option Value)) (binds : List (Str × Value)) {args : List Value} {R : Result → Shared → Prop} (I : Iv g s) (hA : A.depth < recursionLimit)
    (F : St g s ms os s)
    (hget : s.heap.get? (g.fa i) = some (g.fo i)) (hdata : (g.fo i).data = .func (g.fd i dflt)) (hcode : g.h₁.CodeRec (g.fc i) (fnName (stmtAt i)))
    (hb : Wp w A.in1 (bindArgs (g.fd i dflt) ⟨args, []⟩) (fun b s' => b = binds ∧ s' = s) NoE s)
    (hbk : binds.all (fun x => (fnScope (stmtAt i)).names.lookup x.1 == some .local || ((fnScope (stmtAt i)).names.lookup x.1 == some .cell && cn.any (fun y => y.1 == x.1))) = true)
    (hm : nl.map (bindL (fun x => (fnScope (stmtAt i)).names.lookup x) binds fun _ => none) = vs0)
    (hcv : cn.map (fun p => bindC (fun x => (fnScope (stmtAt i)).names.lookup x) binds (fun _ => none) p.1) = cn.map (·.2))
    (hcs : ∀ L : Nat, cn.zipIdx.map (fun p => (cellsFrom (L + 1) (fnScope (stmtAt i)).names []).lookup p.1.1) = cn.zipIdx.map (fun p => some (L + 1 + p.2)))
    (hnd : nl.Nodup) (hloc : nl.all (fun x => decide ((fnScope (stmtAt i)).names.lookup x = some .local) && !(x == ("__debug__" : Str))) = true)
    (hsc : ((fnScope (stmtAt i)).isCoroutine || (fnScope (stmtAt i)).isGenerator) = false) (hk : (fnScope (stmtAt i)).kind = .function)
    (h : ∀ L s', s.heap.objs.size ≤ L → St g s ms ((L, .ns nl vs0) :: (cellOs (L + 1) cn ++ os)) s' → En (g.envC i L) L nl →
      ∀ J : Value → Shared → Prop, (∀ v s', R (.ok (.ret v)) s' → J v s') → Wp w (A.deeper (g.envC i L)) (execs (fnBody (stmtAt i)) (g.envC i L)) (Rf J) NoE s') :
    Cd w A (.call (.ref (g.fa i)) ⟨args, []⟩) R s := by
  subst hm
  have hloc' : ∀ x ∈ nl, (fnScope (stmtAt i)).names.lookup x = some .local ∧ (x == ("__debug__" : Str)) = false := fun x hx => by
    have := List.all_eq_true.mp hloc x hx
    simp only [Bool.and_eq_true, decide_eq_true_eq, Bool.not_eq_true'] at this
    exact this
  simp only [Bool.or_eq_false_iff] at hsc
  have hcs' : ∀ (L : Nat) (j : Nat) x v, cn[j]? = some (x, v) → (cellsFrom (L + 1) (fnScope (stmtAt i)).names []).lookup x = some (L + 1 + j) := fun L j x v e => by
    have h1 := congrArg (fun l => l[j]?) (hcs L)
    simpa [List.getElem?_zipIdx, e] using h1
  refine cd_call_function hA hget hdata hsc.1 hsc.2 rfl (I.codeRec hcode) ?_
  refine (hb.mono (fun b σ' hbs => ?_) fun _ _ x => x.elim)
  refine and2 hbs ?_; (try clear hbs); intro hR2 hR3
  subst hR2
  subst hR3
  refine .of (wpAny_newFunctionEnv_cells hk ?_ fun env he s' x => ?_)
  · intro x hx
    have := List.all_eq_true.mp hbk x hx
    simp only [Bool.or_eq_true, beq_iff_eq, Bool.and_eq_true, List.any_eq_true] at this
    rcases this with h1 | ⟨h1, y, hy, e⟩
    · exact .inl h1
    · refine .inr ⟨h1, ?_⟩
      obtain ⟨j, hj, e2⟩ := List.mem_iff_getElem.mp hy
      have e3 : cn[j]? = some (y.1, y.2) := by rw [List.getElem?_eq_getElem hj, e2]
      have := hcs' σ'.heap.objs.size j y.1 y.2 e3
      rw [← e]
      exact Option.isSome_iff_exists.mpr ⟨_, this⟩
  · subst he
    have hz : @LT.lt Nat _ σ'.heap.objs.size s'.heap.objs.size := x.toInCall.ns.lt
    have hkp := x.toInCall.keep
    obtain ⟨hh, tk, hs'⟩ := x.toInCall.same
    have ho : s'.os = σ'.os := by rw [hs']
    have hg : s'.gens = σ'.gens := by rw [hs']
    have hcell : ∀ (j : Nat) (y : Str × Option Value), cn[j]? = some y → K.At s'.heap (σ'.heap.objs.size + 1 + j) (.cell y.2) := fun j y hy => by
      have h1 := x.cell y.1 _ (hcs' σ'.heap.objs.size j y.1 y.2 hy)
      have h2 : bindC (fun x => (fnScope (stmtAt i)).names.lookup x) b (fun _ => none) y.1 = y.2 := by
        have := congrArg (fun l => l[j]?) hcv
        simpa [hy] using this
      rw [← h2]
      exact h1
    have F1 : St g σ' ms os s' := F.grow hkp (Nat.le_of_lt hz) ho hg
    have fresh : ∀ p ∈ os, @LT.lt Nat _ p.1 σ'.heap.objs.size := fun p hp => (F.at p hp).lt
    refine ⟨I.lim.keeps hkp, cd_func (h σ'.heap.objs.size s' (Nat.le_refl _) ⟨F1.inv, F1.aft, fun p hp => ?_, ?_, fun p hp hsf => ?_, fun p hp => ?_, I.size⟩ ⟨rfl, hk, fun y hy => hloc' y hy, rfl, rfl⟩ (fun v s' => R (.ok (.ret v)) s') fun _ _ h => h)⟩
    · rcases List.mem_cons.mp hp with rfl | hp
      · exact ⟨hnd, _, x.toInCall.ns, fun y v hy => hy.map⟩
      · rcases List.mem_append.mp hp with hp | hp
        · refine ex2 (cellOs_mem _ _ _ hp) ?_; intro j y hJ
          refine and2 hJ ?_; clear hJ; intro hy hR4
          subst hR4
          exact hcell j y hy
        · exact F1.at p hp
    · rw [List.map_cons, List.map_append]
      refine List.nodup_cons.mpr ⟨fun hm => ?_, List.nodup_append.mpr ⟨cellOs_nod _ _, F.nod, fun a ha b hb e => ?_⟩⟩
      · rcases List.mem_append.mp hm with hm | hm
        · refine ex1 (List.mem_map.mp hm) ?_; intro p hJ
          refine and2 hJ ?_; clear hJ; intro hp e
          refine ex2 (cellOs_mem _ _ _ hp) ?_; intro j y hJ
          refine and2 hJ ?_; clear hJ; intro hU5 hR6
          subst hR6
          have h2 : @Eq Nat (σ'.heap.objs.size + 1 + j) σ'.heap.objs.size := e
          lia
        · refine ex1 (List.mem_map.mp hm) ?_; intro p hJ
          refine and2 hJ ?_; clear hJ; intro hp e
          have h1 := fresh p hp
          have h2 : @Eq Nat p.1 σ'.heap.objs.size := e
          lia
      · refine ex1 (List.mem_map.mp ha) ?_; intro p hJ
        refine and2 hJ ?_; clear hJ; intro hp e1
        refine ex1 (List.mem_map.mp hb) ?_; intro q hJ
        refine and2 hJ ?_; clear hJ; intro hq e2
        refine ex2 (cellOs_mem _ _ _ hp) ?_; intro j y hJ
        refine and2 hJ ?_; clear hJ; intro hU7 hR8
        subst hR8
        have h1 := fresh q hq
        have h2 : @Eq Nat (σ'.heap.objs.size + 1 + j) a := e1
        have h3 : @Eq Nat q.1 b := e2
        have h4 : @Eq Nat a b := e
        lia
    · rcases List.mem_cons.mp hp with rfl | hp
      · exact .inr (Nat.le_refl _)
      · rcases List.mem_append.mp hp with hp | hp
        · refine ex2 (cellOs_mem _ _ _ hp) ?_; intro j y hJ
          refine and2 hJ ?_; clear hJ; intro hU9 hR10
          subst hR10
          refine .inr ?_
          show @LE.le Nat _ σ'.heap.objs.size (σ'.heap.objs.size + 1 + j)
          lia
        · exact F.own p hp hsf
    · have hi : @LE.le Nat _ g.h₁.objs.size σ'.heap.objs.size := I.size
      rcases List.mem_cons.mp hp with rfl | hp
      · exact hi
      · rcases List.mem_append.mp hp with hp | hp
        · refine ex2 (cellOs_mem _ _ _ hp) ?_; intro j y hJ
          refine and2 hJ ?_; clear hJ; intro hU11 hR12
          subst hR12
          show @LE.le Nat _ g.h₁.objs.size (σ'.heap.objs.size + 1 + j)
          lia
        · exact F.low p hp
end
end
/-! MX9 -/
section
set_option hygiene false
section
variable {w : World} {A : Around} {E : Value → Shared → Prop} {g : Gd} {s₀ s : Shared} {ms : List Addr} {os os' : Os} {env : Env} {L : Addr} {nl : List Str} {vs vs' : List (Option Value)}
/-- a display -/
theorem e_list {elts : List Expr} {pos : Pos} {Q : Value → Shared → Prop} (h : Wp w A (spliced (backTo pos (starEach elts env))) (fun us s₁ => us.length ≤ 1000 ∧ ∃ (g : Gd) (s₀ : Shared) (ms : List Addr) (p₀ : Addr × K) (os : Os), St g s₀ ms (p₀ :: os) s₁ ∧ ∀ r s', s₀.heap.objs.size ≤ r → St g s₀ ms (p₀ :: (r, .list us) :: os) s' → Q (.ref r) s') E s) : Wp w A (eval (.List elts pos) env) Q E s := by
  rw [arm_eval_List]
  refine Wp.bind (Wp.standAt (Wp.bind (h.imp fun us s₁ h₁ => ?_)))
  obtain ⟨hz, g, s₀, ms, p₀, os, F, hq⟩ := h₁
  refine .of (wpAny_newObj_type (hq _ _ F.aft.size (F.freshH (fun b o e => Heap.get?_push_of_some _ e) (Exists.intro 0 (Heap.get?_push_size _ rfl)) (Nat.le_refl _))) ?_)
  show us.toArray.size ≤ 2 ^ 24
  rw [List.size_toArray]; exact Nat.le_trans hz (lb rfl)
theorem e_tuple {elts : List Expr} {x1 : Nat} {pos : Pos} {Q : Value → Shared → Prop} (h : Wp w A (spliced (backTo pos (starEach elts env))) (fun us s₁ => us.length ≤ 1000 ∧ ∃ (g : Gd) (s₀ : Shared) (ms : List Addr) (p₀ : Addr × K) (os : Os), St g s₀ ms (p₀ :: os) s₁ ∧ ∀ (r : Addr) s', s₀.heap.objs.size ≤ r → St g s₀ ms (p₀ :: (r, .raw (tupO us 0)) :: os) s' → Q (.ref r) s') E s) : Wp w A (eval (.Tuple elts x1 pos) env) Q E s := by
  rw [arm_eval_Tuple]
  refine Wp.bind (Wp.standAt (Wp.bind (h.imp fun us s₁ h₁ => ?_)))
  obtain ⟨hz, g, s₀, ms, p₀, os, F, hq⟩ := h₁
  refine .of (wpAny_newObj_type (hq _ _ F.aft.size (F.freshH (k := .raw (tupO us 0)) (fun b o e => Heap.get?_push_of_some _ e) (Heap.get?_push_size _ rfl) (Nat.le_refl _))) ?_)
  show us.toArray.size ≤ 2 ^ 24
  rw [List.size_toArray]; exact Nat.le_trans hz (lb rfl)
theorem sp_nil {pos : Pos} {Q : List Value → Shared → Prop} (h : Q [] s) : Wp w A (spliced (backTo pos (starEach [] env))) Q E s := Wp.pure h
theorem sp_cons {x : Expr} {rest : List Expr} {pos : Pos} {Q : List Value → Shared → Prop} (h : Wp w A (eval x env) (fun v s₁ => Wp w A (spliced (backTo pos (starEach rest env))) (fun us s₂ => Q (v :: us) s₂) E s₁) E s)
    (hs : autoParam (backTo pos (starEach (x :: rest) env) = (false, eval x env) :: backTo pos (starEach rest env)) tRfl) : Wp w A (spliced (backTo pos (starEach (x :: rest) env))) Q E s := by
  rw [hs]
  exact ev_cons h

theorem K.At.strs_of {h : Heap} {a : Addr} {vs : List Value} {xs : List Str} (x : K.At h a (.list vs)) (hi : Strs vs xs) : K.At h a (.strs xs) := let ⟨n, e⟩ := x; ⟨vs, n, e, hi⟩
theorem St.turn2 {a : Addr} {k k' : K} {p₀ : Addr × K} (F : St g s₀ ms (p₀ :: (a, k) :: os) s) (h : K.At s.heap a k → K.At s.heap a k') (hs : k'.soft → k.soft) : St g s₀ ms (p₀ :: (a, k') :: os) s := by
  refine ⟨F.inv, F.aft, fun p hp => ?_, F.nod, fun p hp hsf => ?_, fun p hp => ?_, F.base⟩
  · rcases List.mem_cons.mp hp with rfl | hp
    · exact F.at _ (.head _)
    · rcases List.mem_cons.mp hp with rfl | hp
      · exact h (F.at (a, k) (.tail _ (.head _)))
      · exact F.at _ (.tail _ (.tail _ hp))
  · rcases List.mem_cons.mp hp with rfl | hp
    · exact F.own _ (.head _) hsf
    · rcases List.mem_cons.mp hp with rfl | hp
      · exact F.own (a, k) (.tail _ (.head _)) (hs hsf)
      · exact F.own _ (.tail _ (.tail _ hp)) hsf
  · rcases List.mem_cons.mp hp with rfl | hp
    · exact F.low _ (.head _)
    · rcases List.mem_cons.mp hp with rfl | hp
      · exact F.low (a, k) (.tail _ (.head _))
      · exact F.low _ (.tail _ (.tail _ hp))
theorem St.to_strs {a : Addr} {vs : List Value} {xs : List Str} {p₀ : Addr × K} (F : St g s₀ ms (p₀ :: (a, .list vs) :: os) s) (hi : Strs vs xs) : St g s₀ ms (p₀ :: (a, .strs xs) :: os) s := F.turn2 (fun h => h.strs_of hi) fun _ => trivial
theorem ix_ofS {xs : List Str} {k : Int} (h0 : 0 ≤ k) (hk : k < xs.length) : xs[k.toNat]? = some (xs.getD k.toNat Str.empty) := by
  have : k.toNat < xs.length := (tN_lt h0 hk)
  simp [this]
theorem sub_strs {l : Addr} {k : Int} {u : Tok} {xs : List Str} {Q : Value → Shared → Prop} (F : St g s₀ ms os s) (hm : Mem os l (.strs xs)) (h0 : 0 ≤ k) (hk : k < xs.length) (hz : xs.length ≤ 1000) (h : ∀ t, Q (.str (xs.getD k.toNat Str.empty) t) s) : SubOn w A (.ref l) (.int k u) Q E s := by
  refine ex2 (F.mem hm) ?_; intro l' n hJ
  refine and2 hJ ?_; clear hJ; intro ho hi
  obtain ⟨t, ht⟩ := hi.get (ix_ofS h0 hk)
  exact sub_list ho h0 (by rw [hi.length]; exact Nat.le_trans hz (lb rfl)) ht (h t)
theorem b_adds {a b : Addr} {xs ys : List Str} {p₀ : Addr × K} {Q : Value → Shared → Prop} (F : St g s₀ ms (p₀ :: os) s) (ha : Mem (p₀ :: os) a (.strs xs)) (hb : Mem (p₀ :: os) b (.strs ys)) (hz : xs.length + ys.length ≤ 1000)
    (h : ∀ r s', s₀.heap.objs.size ≤ r → St g s₀ ms (p₀ :: (r, .strs (xs ++ ys)) :: os) s' → Q (.ref r) s') : Wp w A (binaryOp .Add (.ref a) (.ref b)) Q E s := by
  refine ex2 (F.mem ha) ?_; intro l' n hJ
  refine and2 hJ ?_; clear hJ; intro ho hi
  refine ex2 (F.mem hb) ?_; intro l2 n2 hJ
  refine and2 hJ ?_; clear hJ; intro ho2 hi2
  exact b_addl F ho ho2 (by rw [hi.length, hi2.length]; exact hz) fun r s' hr F' => h r s' hr (F'.to_strs (hi.append hi2))
theorem b_sadd {x y : Str} {t u : Tok} {Q : Value → Shared → Prop} (F : St g s₀ ms os s) (hz : x.length + y.length ≤ 100000) (h : ∀ t s', St g s₀ ms os s' → Q (.str (x ++ y) t) s') : Wp w A (binaryOp .Add (.str x t) (.str y u)) Q E s :=
  .of (add_str (fun t' tk => h t' _ (F.tick tk)) (by show x.length + y.length ≤ 2 ^ 24; exact Nat.le_trans hz (lb rfl)))
theorem c_seq {x y : Str} {t u : Tok} {Q : Bool → Shared → Prop} (h : Q (x == y) s) : Wp w A (compareOp .Eq (.str x t) (.str y u)) (fun c s₃ => Wp w A (truthy c) Q E s₃) E s := .of (eq_str (.of (wpAny_truthy_bool h)))
theorem c_sne {x y : Str} {t u : Tok} {Q : Bool → Shared → Prop} (h : Q (x != y) s) : Wp w A (compareOp .NotEq (.str x t) (.str y u)) (fun c s₃ => Wp w A (truthy c) Q E s₃) E s := .of (ne_str (.of (wpAny_truthy_bool h)))
theorem len_str' {x : Str} {t : Tok} {Q : Value → Shared → Prop} (F : St g s₀ ms os s) (hz : x.length ≤ 1000000) (h : ∀ t s', St g s₀ ms os s' → Q (.int x.length t) s') : Wp w A (call (.builtin "len") [.str x t]) Q E s :=
  .of (len_str (by lia) (h _ _ (F.tick _)))
end
section
variable {w : World} {A : Around} {g : Gd} {σ : Shared}
noncomputable def nmAcc : Nat → List Str
  | 0 => [""]
  | k + 1 => nmAcc k ++ [(nmAcc k).getD k Str.empty ++ ("a" : Str), (nmAcc k).getD k Str.empty ++ ("b" : Str)]
theorem nmAcc_len : ∀ k, (nmAcc k).length = 2 * k + 1
  | 0 => rfl
  | k + 1 => by rw [nmAcc, List.length_append, nmAcc_len k]; rfl
theorem nmAcc_small : ∀ k, k ≤ 7 → ((nmAcc k).getD k Str.empty).length ≤ 10 := by
  intro k hk
  have : k = 0 ∨ k = 1 ∨ k = 2 ∨ k = 3 ∨ k = 4 ∨ k = 5 ∨ k = 6 ∨ k = 7 := by lia
  rcases this with rfl | rfl | rfl | rfl | rfl | rfl | rfl | rfl <;> decide +kernel
theorem lawnames_spec (I : Iv g σ) (hh : A.handled = none) (hA : A.depth < recursionLimit) :
    Spec w A (.ref (g.fa 24)) [] σ (fun v s' => ∃ r : Nat, v = .ref r ∧ After g [] σ s' ∧ Iv g s' ∧ σ.heap.objs.size ≤ r ∧ K.At s'.heap r (.strs (nmAcc 7))) := by
  have F0 : St g σ [] [] σ := .start I (by simp) (by simp) (by simp) (by simp)
  refine enter (i := 24) ["names", "place"] [none, none] (pn := []) (k := 2) I hA (by decide) F0 (by decide +kernel) rfl (fun _ _ _ => by rfl) (by rfl) (by rfl) (by decide +kernel) (by decide +kernel) (by decide +kernel) (by decide +kernel) ?_
  intro L s hL F e J hJ
  refine x_as (e_list (sp_cons ?_))
  refine e_str F ?_; (clear F; intro tk s F)
  refine sp_nil ⟨by simp, _, _, _, _, _, F, ?_⟩; clear F; intro r s hr F
  have F := F.to_strs (xs := [""]) (.cons ⟨_, rfl⟩ .nil)
  (refine' s_loc F e ?_ ?_; rotate_left 1; (focus (repeat (first | with_reducible exact Up2.here | apply Up2.there))); clear F; intro s F)
  refine x_for (e_call1 ?_)
  (refine' e_bi F e ?_ ?_; rotate_left 1; with_reducible constructor)
  (refine e_int F ?_; clear F; intro tk s F)
  refine cw_ty (k_range1 F ?_); clear F; intro r2 u2 v2 s hr2 F
  refine it_rangeM F (.there .here) (small_of ⟨by decide, by decide⟩ ⟨by decide, by decide⟩ ⟨by decide, by decide⟩) ?_; clear F; intro it s hit F
  refine ⟨fun n s => ∃ (r : Addr) (v2 : Option Value), n ≤ 7 ∧ σ.heap.objs.size ≤ r ∧
    St g σ [] [(L, .ns ["names", "place"] [some (.ref r), v2]), (it, .riter ((7 - n : Nat) : Int) n 1), (r, .strs (nmAcc (7 - n)))] s, 7, ⟨r, none, Nat.le_refl _, hr, ?_⟩, ?_⟩
  · exact F.drop (.there (.there .here))
  clear F s
  intro n s hI2 K hK
  refine ex2 hI2 ?_; (try clear hI2); intro r v2 hJ
  refine and3 hJ ?_; clear hJ; intro hn hr F
  refine nx_range F hh (.head _) hL hit (.there .here) (.there .here) (fun hpos => ?_) (fun hpos => ?_)
  · clear F; intro t4 s F
    obtain ⟨n, rfl⟩ : ∃ k, n = k + 1 := ⟨n - 1, by lia⟩
    have hl := nmAcc_len (7 - (n + 1))
    have hsm := nmAcc_small (7 - (n + 1)) (Nat.sub_le _ _)
    refine x_name ?_
    (refine' s_loc F e ?_ ?_; rotate_left 1; (focus (repeat (first | with_reducible exact Up2.here | apply Up2.there))); clear F; intro s F)
    refine x_as (e_bin ?_)
    (refine' e_loc F e ?_ ?_; rotate_left 1; (focus (repeat (first | with_reducible exact At2.here | apply At2.there))))
    refine e_list (sp_cons (e_bin (e_sub ?_)))
    (refine' e_loc F e ?_ ?_; rotate_left 1; (focus (repeat (first | with_reducible exact At2.here | apply At2.there))))
    (refine' e_loc F e ?_ ?_; rotate_left 1; (focus (repeat (first | with_reducible exact At2.here | apply At2.there))))
    refine sub_strs F (.there (.there .here)) (Int.natCast_nonneg (7 - (n + 1))) (by lia) (by lia) fun t5 => ?_
    refine e_str F ?_; (clear F; intro tk s F)
    rw [Int.toNat_natCast]
    refine b_sadd F (by show _ + 1 ≤ _; exact Nat.add_le_add_right (Nat.le_trans hsm (lb rfl)) 1) ?_; (clear F; intro tk s F)
    refine sp_cons (e_bin (e_sub ?_))
    (refine' e_loc F e ?_ ?_; rotate_left 1; (focus (repeat (first | with_reducible exact At2.here | apply At2.there))))
    (refine' e_loc F e ?_ ?_; rotate_left 1; (focus (repeat (first | with_reducible exact At2.here | apply At2.there))))
    refine sub_strs F (.there (.there .here)) (Int.natCast_nonneg (7 - (n + 1))) (by lia) (by lia) fun t6 => ?_
    refine e_str F ?_; (clear F; intro tk s F)
    rw [Int.toNat_natCast]
    refine b_sadd F (by show _ + 1 ≤ _; exact Nat.add_le_add_right (Nat.le_trans hsm (lb rfl)) 1) ?_; (clear F; intro tk s F)
    refine sp_nil ⟨by simp, _, _, _, _, _, F, ?_⟩; clear F; intro r3 s hr3 F
    have F := F.to_strs (.cons ⟨_, rfl⟩ (.cons ⟨_, rfl⟩ .nil))
    refine b_adds F (.there (.there (.there .here))) (.there .here) (by simp only [List.length_cons, List.length_nil]; lia) ?_; clear F; intro r4 s hr4 F
    (refine' s_loc F e ?_ ?_; rotate_left 1; (focus (repeat (first | with_reducible exact Up2.here | apply Up2.there))); clear F; intro s F)
    have e1 : 7 - n = (7 - (n + 1)) + 1 := pred_add (Nat.sub_pos_of_lt hn)
    have e2 : ((7 - (n + 1) : Nat) : Int) + 1 = ((7 - n : Nat) : Int) := cast_up hn
    have e3 : ((n + 1 : Nat) : Int) - 1 = (n : Int) := cast_pred
    have F := (F.drop (a := r3) (by (focus (repeat (first | with_reducible exact Del.here | apply Del.there))))).drop (a := r) (by (focus (repeat (first | with_reducible exact Del.here | apply Del.there))))
    rw [e2, e3] at F
    have F := F.bring (a := it) (by (focus (repeat (first | with_reducible exact Del.here | apply Del.there))))
    have e4 : nmAcc (7 - n) = nmAcc (7 - (n + 1)) ++ [(nmAcc (7 - (n + 1))).getD (7 - (n + 1)) Str.empty ++ ("a" : Str), (nmAcc (7 - (n + 1))).getD (7 - (n + 1)) Str.empty ++ ("b" : Str)] := by rw [e1, nmAcc]
    exact x_nil <| hK n _ (Nat.lt_succ_self n) ⟨r4, _, (u_le hn), hr4, by rw [e4]; exact F⟩
  · clear F; intro s F
    have : n = 0 := by lia
    subst this
    refine x_ret ?_
    (refine' e_loc F e ?_ ?_; rotate_left 1; (focus (repeat (first | with_reducible exact At2.here | apply At2.there))))
    exact hJ _ _ ⟨_, rfl, _, rfl, F.aft, F.inv, hr, F.at _ (.tail _ (.head _))⟩
end
end
/-! MX10 -/
section
set_option hygiene false
theorem mro_obj : mroOf (.type "object") = pure [.type "object"] := by rw [mroOf_type]; kernel_rfl
theorem lookup_obj_new : typeLookup (.type "object") "__new__" = pure (some (.builtin "object.__new__")) := by rw [typeLookup_type, builtinLookup_eq_fast]; kernel_rfl
theorem slot_obj_init : Slot "object" "__init__" "object.__init__" :=
  .of (owner := "object") (n := "__init__") (by rw [typeLookup_type, builtinLookup_eq_fast]; kernel_rfl) (by decide +kernel) (by decide +kernel) (by decide +kernel)
    (by first | exact .inl (by decide +kernel) | exact .inr (by decide +kernel)) (by rw [isSubtype_type]; kernel_rfl)
theorem called_obj : TypeCalled "object" "object.__new__" "object.__init__" :=
  ⟨by decide +kernel, by decide +kernel, ⟨_, _, mro_obj⟩, madeBy_type mro_obj lookup_obj_new (by decide +kernel), by decide +kernel, by rw [isSubtype_type]; kernel_rfl, slot_obj_init⟩
theorem typeCall_obj_0 : checkTypeCall "object" ⟨[], []⟩ = pure () := by kernel_rfl
theorem newCall_obj_0 : checkBuiltinCall "object.__new__" ⟨[.type "object"], []⟩ = pure () := by kernel_rfl
theorem made_obj : Bind.madeHere "object.__new__" (.type "object") = pure () := by kernel_rfl
theorem nodict_obj : typeHasDict (.type "object") = false := by first | rfl | decide +kernel
theorem nodel_obj : diesByItsTypesDel "object" = false := by first | rfl | decide +kernel
theorem args_obj_init_1 (a : Value) : argsOk "object.__init__" ⟨[a], []⟩ := by
  unfold argsOk; rw [signature?_of (id := "object.__init__") (n := ['_', '_', 't', 'i', 'n', 'i', '_', '_']) (o := ['t', 'c', 'e', 'j', 'b', 'o']) (by kernel_rfl) PySem.F.owner_object]; kernel_rfl
noncomputable def objO : Obj := { cls := .type "object", data := .plain }
section
variable {w : World} {A : Around} {E : Value → Shared → Prop} {g : Gd} {s₀ s : Shared} {ms : List Addr} {os os' : Os} {env : Env} {L : Addr} {nl : List Str} {vs vs' : List (Option Value)}
theorem k_object {p₀ : Addr × K} {Q : Value → Shared → Prop} (F : St g s₀ ms (p₀ :: os) s) (h : ∀ r s', s₀.heap.objs.size ≤ r → St g s₀ ms (p₀ :: (r, .raw objO) :: os) s' → Q (.ref r) s') : Wp w A (call (.type "object") []) Q E s := by
  refine .of (callType_codes (Q₁ := fun obj s₁ => obj = .ref s.heap.objs.size ∧ s₁ = { s with heap := s.heap.push objO }) called_obj typeCall_obj_0 PySem.F.entry_object_init ?_ fun obj s₁ h₁ => ?_)
  · refine codeAny_of_tree ?_
    show wpAny _ A.in1.in1 (do checkBuiltinCall "object.__new__" ⟨[.type "object"], []⟩; again (.builtin "object.__new__" ⟨[.type "object"], []⟩)) _ _ s
    refine wpAny_bind (wpAny_of_eq newCall_obj_0 (wpAny_pure ⟨plainId_quiet called_obj.plain _, codeAny_builtin PySem.F.entry_object_new ?_⟩))
    rw [Around.under_plainId called_obj.plain _]
    unfold Builtin.«object.__new__»
    dsimp only
    refine wpAny_bind (wpAny_of_eq (a := true) rfl ?_)
    refine bm_if_false rfl ?_
    refine bm_if_false (by decide +kernel) ?_
    refine wpAny_bind (wpAny_of_eq made_obj ?_)
    refine bm_if_false rfl ?_
    rw [nodict_obj]
    refine bm_if_false rfl ?_
    refine wpAny_bind (wpAny_pure ?_)
    refine wpAny_bind (wpAny_newObj_type ?_)
    rw [nodel_obj]
    refine bm_if_false rfl ?_
    exact wpAny_pure ⟨rfl, rfl⟩
  · refine and2 h₁ ?_; (try clear h₁); intro hR1 hR2
    subst hR1
    subst hR2
    have ho : (s.heap.push objO).get? s.heap.objs.size = some objO := Heap.get?_push_size _ rfl
    refine ⟨⟨_, ho, rfl⟩, args_obj_init_1 _, ?_⟩
    refine wpAny_pure ⟨rfl, ?_⟩
    exact h _ _ F.aft.size (F.freshH (k := .raw objO) (fun b o e => Heap.get?_push_of_some _ e) ho (Nat.le_refl _))
theorem e_ifx {test body orelse : Expr} {pos : Pos} {Q : Value → Shared → Prop} (h : Wp w A (isTrue test env (eval test env)) (fun b s₁ => if b then Wp w A (eval body env) Q E s₁ else Wp w A (eval orelse env) Q E s₁) E s) : Wp w A (eval (.IfExp test body orelse pos) env) Q E s := by
  rw [arm_eval_IfExp]
  exact Wp.bind (h.imp fun b s₁ h₁ => by cases b <;> exact h₁)
theorem x_try {body orelse rest : List Stmt} {h₀ : ExceptHandler} {hs : List ExceptHandler} {pos : Pos} {Q : Flow → Shared → Prop}
    (h : Wp w A (execs body env) (fun f s₁ => match f with | .next => Wp w A (execs orelse env) (fun f s₂ => match f with | .next => Wp w A (execs rest env) Q E s₂ | f => Q f s₂) E s₁ | f => Q f s₁) NoE s) :
    Wp w A (execs (.Try body (h₀ :: hs) orelse [] pos :: rest) env) Q E s := by
  rw [execs_cons, arm_exec_Try]
  refine Wp.bind (Wp.bind (Wp.standAt ?_))
  unfold tryStmt
  refine wp_ify rfl ?_
  refine Wp.bind (Wp.attempt (h.imp fun f s₁ h₁ => ?_))
  cases f with
  | next => exact h₁.imp fun f s₂ h₂ => by cases f <;> first | exact h₂ | exact Wp.pure h₂
  | _ => exact Wp.pure (Wp.pure h₁)
/-- is -/
theorem c_is {a b : Value} {Q : Bool → Shared → Prop} (h : wpAny (model pw w) A (isSame a b) (fun r s' => Q r s') E s) : Wp w A (compareOp .Is a b) (fun c s₃ => Wp w A (truthy c) Q E s₃) E s := by
  refine .of ?_
  show wpAny _ _ (isSame a b >>= fun r => (pure (Value.bool r) : Sem Value)) _ _ _
  exact wpAny_bind (wpAny_mono h (fun r s' hr => wpAny_pure (.of (wpAny_truthy_bool hr))) fun _ _ x => x)
theorem c_isn {a b : Value} {Q : Bool → Shared → Prop} (h : wpAny (model pw w) A (isSame a b) (fun r s' => Q (!r) s') E s) : Wp w A (compareOp .IsNot a b) (fun c s₃ => Wp w A (truthy c) Q E s₃) E s := by
  refine .of ?_
  show wpAny _ _ (isSame a b >>= fun r => (pure (Value.bool (!r)) : Sem Value)) _ _ _
  exact wpAny_bind (wpAny_mono h (fun r s' hr => wpAny_pure (.of (wpAny_truthy_bool hr))) fun _ _ x => x)
theorem same_self {x : Addr} {Q : Bool → Shared → Prop} (h : Q true s) : wpAny (model pw w) A (isSame (.ref x) (.ref x)) Q E s := by
  unfold isSame
  refine bm_if_true (by simp) ?_
  exact wpAny_pure h
/-- a call with names given -/
theorem cw_kw {pos : Pos} {fv : Value} {id : String} {args : List (Bool × Sem Value)} {kws : List (Option Str × Sem Value)} {Q : Value → Shared → Prop} (hf : fv = .builtin id ∨ fv = .type id) (hplain : args.any (·.1) = false) (hk : kws.any (·.1.isNone) = false)
    (h : Wp w A (evalArgs fv true args kws) (fun a s₁ => Wp w A (call fv a.pos a.kw) Q E s₁) E s) : Wp w A (callWith pos fv [] args kws) Q E s := by
  unfold callWith
  refine Wp.bind (Wp.holding (h.imp fun a s₁ h₁ => Wp.bind (Wp.standAt ?_)))
  have tail : ∀ {t : Sem Value}, Wp w A t Q E s₁ → Wp w A (t >>= fun r => holding [r] point >>= fun _ => pure r) Q E s₁ :=
    fun ht => Wp.bind (ht.imp fun r s₂ hr => Wp.bind (Wp.holding (.of (wpAny_point (Wp.pure hr)))))
  rw [hplain, hk]
  rcases hf with rfl | rfl
  · exact Wp.bind (m := keeperOf _) (Wp.pure (tail h₁))
  · exact Wp.bind (m := keeperOf _) (Wp.pure (tail h₁))
end
end
/-! MX11 -/
section
set_option hygiene false
section
variable {w : World} {A : Around} {E : Value → Shared → Prop} {g : Gd} {s₀ s s' : Shared} {ms : List Addr} {os os' : Os} {env : Env} {L : Addr} {nl : List Str} {vs vs' : List (Option Value)}
noncomputable abbrev FinQ (w : World) (A : Around) (Q : Value → Shared → Prop) (fin : PySem.Fin) (s' : Shared) : Prop := match fin with
  | .done f => ∃ v, f = .ret v ∧ Q v s'
  | .again c' => c'.quiet = true ∧ Cd w A c' (fun r s' => ∃ v, r = .ok (.ret v) ∧ Q v s') s'
theorem wp_callF {id : String} {b : Builtin} {args : List Value} {kw : List (Str × Value)} {Q : Value → Shared → Prop} (hk : builtinKind id = none) (hp : plainId id = true) (hb : entryFor table id = some b) (ha : argsOk id ⟨args, kw⟩) (hcl : Cln (Code.builtin id ⟨args, kw⟩) = true)
    (hc : Wp w A.in1 (b ⟨args, kw⟩) (FinQ w A Q) NoE s) : Wp w A (PySem.call (.builtin id) args kw) Q E s := by
  refine Wp.call (Cd.tree rfl ?_)
  show Wp w A.in1 (do checkBuiltinCall id ⟨args, kw⟩; again (.builtin id ⟨args, kw⟩)) _ _ s
  have fin : Wp w A.in1 (again (.builtin id ⟨args, kw⟩)) (fun fin s' => match fin with
      | .done f => (match (Except.ok f : Result) with | .ok (.ret v) => Q v s' | .ok _ => False | .error e => E e s')
      | .again c' => c'.quiet = true ∧ Cd w A c' (fun r s' => match r with | .ok (.ret v) => Q v s' | .ok _ => False | .error e => E e s') s') (fun e s' => (match (Except.error e : Result) with | .ok (.ret v) => Q v s' | .ok _ => False | .error e => E e s')) s := by
    refine Wp.pure ⟨plainId_quiet hp _, cd_builtin hb hcl ?_⟩
    rw [Around.under_plainId hp _]
    refine hc.mono (fun fin s' hf => ?_) fun _ _ x => x.elim
    cases fin with
    | done f => obtain ⟨v, rfl, hv⟩ := hf; exact hv
    | again c' => exact ⟨hf.1, hf.2.mono fun r s' hr => by obtain ⟨v, rfl, hv⟩ := hr; exact hv⟩
  simp only [checkBuiltinCall, hk]
  cases hsig : Manifest.signature? id with
  | none => exact Wp.bind (Wp.pure fin)
  | some sig =>
    have ha' : Bind.checkArgs id sig ⟨args, kw⟩ = pure () := by simpa only [argsOk, hsig] using ha
    simp only [ha']
    exact Wp.bind (Wp.pure fin)
theorem wp_catch {α : Type} {m : Sem α} {k : Value → Sem α} {Q : α → Shared → Prop} (h : Wp w A m Q NoE s) : Wp w A (tryCatch m k) Q E s := Wp.iff.mpr fun Γ p hΓ hb => by
  rw [Sem.wp_tryCatch']
  exact Sem.wp_mono _ Γ m (fun _ _ _ h' => h') (fun e p' s' h' => h'.elim) p s (Wp.iff.mp h Γ p hΓ hb)
/-- a list's content, exchanged -/
theorem upd_list {l : Addr} {us us' : List Value} {f : Array Value → Array Value} {Q : Unit → Shared → Prop} (F : St g s₀ ms os s) (hu : Up os l (.list us) (.list us') os') (hf : (f us.toArray).toList = us') (hz0 : us.length ≤ 1000) (hz : us'.length ≤ 1000) (h : ∀ s', St g s₀ ms os' s' → Q () s') : Wp w A (updateSeq l f) Q E s := by
  obtain ⟨n, ho⟩ := F.at _ hu.mem
  have e : f us.toArray = us'.toArray := by rw [← hf]
  have hget : ∃ n', (s.heap.update l (Obj.mapSeq f)).get? l = some (listO us' n') := by
    obtain ⟨n', hd⟩ := Obj.data_mapSeq (o := listO us n) rfl f
    refine ⟨n', ?_⟩
    rw [Heap.get?_update_self _ ho (Obj.isFreed_of_seq hd)]
    rw [e] at hd
    congr 1
    have h1 : ((listO us n).mapSeq f).cls = .type "list" := Obj.cls_mapSeq _ _
    have h2 : ((listO us n).mapSeq f).dict = none := rfl
    have h3 : ((listO us n).mapSeq f).slots = #[] := rfl
    revert h1 h2 h3 hd
    generalize (listO us n).mapSeq f = o
    obtain ⟨c, d, dt, sl⟩ := o
    rintro rfl rfl rfl rfl
    rfl
  refine .of (wpAny_updateSeq ho rfl (h _ (F.update (s' := { s with heap := _ }) hu (Heap.SameBut.update ..) hget rfl rfl)) ?_ ?_)
  · show us.toArray.size ≤ 2 ^ 24; rw [List.size_toArray]; exact Nat.le_trans hz0 (lb rfl)
  · rw [e]; show us'.toArray.size ≤ 2 ^ 24 + 1; rw [List.size_toArray]; exact Nat.le_trans hz (lb rfl)

theorem den_of {id : String} {args : Args} {b : Builtin} (hb : entryFor table id = some b) : denote table (.builtin id args) = b args := by
  show (match entryFor table id with | some b => b args | none => unsupported ((withoutEnding? id "#data").getD id)) = _
  rw [hb]
/-! min(iterator, default, key=None) -/
noncomputable def minAt (xs : List Int) : Nat → Option Int
  | 0 => none
  | k + 1 => match minAt xs k with
    | none => some (xs.getD k 0)
    | some m => if xs.getD k 0 < m then some (xs.getD k 0) else some m
theorem minAt_s {xs : List Int} {k : Nat} : minAt xs (k + 1) = match minAt xs k with
    | none => some (xs.getD k 0)
    | some m => if xs.getD k 0 < m then some (xs.getD k 0) else some m := rfl
noncomputable def MinV (v d : Value) (m : Option Int) : Prop := match m with
  | none => v = d
  | some m => IsI v m
noncomputable def minS : Option Int → List Value → Prop
  | none, us => us = []
  | some m, us => ∃ a b, us = [a, b] ∧ IsI a m ∧ IsI b m
theorem args_min_kw (a v u : Value) : argsOk "min" ⟨[a], [(Str.ofString "default", v), (Str.ofString "key", u)]⟩ := by unfold argsOk; kernel_rfl
theorem bind_min (v : Value) : Builtin.Builtins.bindParams "min" ["key", "default"] 0 ⟨[], [(Str.ofString "default", v), (Str.ofString "key", Value.none)]⟩ = pure [some Value.none, some v] := by rfl
theorem k_min {I l : Addr} {xs : List Int} {d : Value} {p₀ : Addr × K} {Q : Value → Shared → Prop} {ws : List Value} {n : Nat} (F : St g s₀ ms (p₀ :: os) s) (hh : A.handled = none) (hL0 : s₀.heap.objs.size ≤ p₀.1) (hI0 : s₀.heap.objs.size ≤ I) (hI : Del os I (.liter l 0) os') (hl : Mem (p₀ :: os') l (.raw (listO ws n))) (hi : Ints ws xs)
    (h : ∀ v s', MinV v d (minAt xs xs.length) → St g s₀ ms (p₀ :: os') s' → Q v s') : Wp w A (call (.builtin "min") [.ref I] [(Str.ofString "default", d), (Str.ofString "key", Value.none)]) Q E s := by
  have hname : (toString "min" ++ toString ".loop" : String) = "min.loop" := by decide
  refine wp_callF PySem.F.kind_min PySem.F.plain_min PySem.F.entry_min (args_min_kw _ _ _) rfl ?_
  show Wp w A.in1 (Builtin.Builtins.bindParams "min" ["key", "default"] 0 ⟨[], [(Str.ofString "default", d), (Str.ofString "key", Value.none)]⟩ >>= _) _ _ s
  refine Wp.bind (Wp.val (bind_min d) ?_)
  refine Wp.bind (Wp.pure ?_)
  have F := F.bring hI
  have hit : s.heap.IsListIter I l 0 := F.mem (.there .here)
  refine Wp.bind (.of (wpAny_pyIter_listiter hit ?_))
  refine Wp.bind (newList_St F ?_); clear F hit; intro B s hB F
  rw [hname]
  refine Wp.pure ⟨plainId_quiet PySem.F.plain_min_loop _, ?_⟩
  show Cd w A (.builtin "min.loop" ⟨[.ref I, .none, .ref B], [(Str.ofString "default", d)]⟩) _ s
  refine Cd.loop rfl (plainId_quiet PySem.F.plain_min_loop _) (fun k s' => ∃ i us, i ≤ xs.length ∧ k = xs.length - i ∧ minS (minAt xs i) us ∧ St g s₀ ms (p₀ :: (B, .list us) :: (I, .liter l i) :: os') s') ?_ xs.length ⟨0, [], Nat.zero_le _, rfl, rfl, F⟩
  clear F s
  intro k s hI2
  refine ex2 hI2 ?_; clear hI2; intro i us hJ
  refine and4 hJ ?_; clear hJ; intro hile hk hus F
  rw [Around.under_plainId PySem.F.plain_min_loop _]
  have hden := den_of (args := ⟨[.ref I, .none, .ref B], [(Str.ofString "default", d)]⟩) PySem.F.entry_min_loop
  rw [hden]
  show Wp w A.in1 (seqItems? (.ref B) >>= _) _ _ _
  obtain ⟨nB, hoB⟩ : ∃ n, s.heap.get? B = some (listO us n) := F.mem (.there .here)
  refine Wp.bind (.of (wpAny_seqItems hoB rfl ?_))
  have hl2 : s.heap.get? l = some (listO ws n) := by
    cases hl with
    | here => exact F.mem .here
    | there hl => exact F.mem (.there (.there (.there hl)))
  have huslen : us.length ≤ 2 := by
    cases hm : minAt xs i with
    | none => rw [hm] at hus; rw [show us = [] from hus]; decide
    | some m => rw [hm] at hus; obtain ⟨a, b, rfl, _⟩ := hus; exact Nat.le_refl 2
  refine Wp.bind (wp_catch (nx_list (A := A.in1) F hh (L := p₀.1) (kL := p₀.2) (.head _) hL0 hI0 hl2 (.there (.there .here)) (.there (.there .here)) (fun v hv s F => ?_) (fun hle s F2 => ?_)))
  · have hilt : i < xs.length := by rw [← hi.length]; exact (List.getElem?_eq_some_iff.mp hv).1
    obtain ⟨t, ht⟩ := hi.get (i := i) (x := xs.getD i 0) (by simp [hilt])
    rw [ht] at hv
    cases hv
    dsimp only
    refine Wp.bind (Wp.pure ?_)
    have hstep : ∀ {us' : List Value} {s : Shared}, minS (minAt xs (i + 1)) us' → St g s₀ ms (p₀ :: (B, .list us') :: (I, .liter l (i + 1)) :: os') s → Wp w A.in1 (again (.builtin s!"{"min"}.loop" ⟨[.ref I, .none, .ref B], [(Str.ofString "default", d)]⟩)) (fun fin s' => match fin with
        | .done f => ∃ v, (Except.ok f : Result) = Except.ok (Flow.ret v) ∧ Q v s'
        | .again c' => (c' = .builtin "min.loop" ⟨[.ref I, .none, .ref B], [(Str.ofString "default", d)]⟩ ∧ ∃ m, m < k ∧ ∃ i us, i ≤ xs.length ∧ m = xs.length - i ∧ minS (minAt xs i) us ∧ St g s₀ ms (p₀ :: (B, .list us) :: (I, .liter l i) :: os') s') ∨ (c'.quiet = true ∧ Cd w A c' (fun r s' => ∃ v, r = .ok (.ret v) ∧ Q v s') s')) (fun e s' => ∃ v, (Except.error e : Result) = Except.ok (Flow.ret v) ∧ Q v s') s := by
      intro us' s h1 F
      rw [show (s!"{"min"}.loop" : String) = "min.loop" from hname]
      exact Wp.pure (.inl ⟨rfl, xs.length - (i + 1), hk ▸ Nat.sub_lt_sub_left hilt (Nat.lt_succ_self i), i + 1, us', hilt, rfl, h1, F⟩)
    cases hm : minAt xs i with
    | none =>
      rw [hm] at hus
      have hus : us = [] := hus
      subst hus
      refine Wp.bind (upd_list F (us' := [.int (xs.getD i 0) t, .int (xs.getD i 0) t]) (.there .here) rfl (by simp) (by simp) fun s F => ?_)
      refine hstep ?_ F
      rw [minAt_s, hm]
      exact ⟨_, _, rfl, ⟨t, rfl⟩, ⟨t, rfl⟩⟩
    | some m =>
      rw [hm] at hus
      obtain ⟨a, b, rfl, ⟨ta, rfl⟩, ⟨tb, rfl⟩⟩ := hus
      refine Wp.bind (wp_catch (Wp.holding (Wp.bind (.of (show wpAny _ _ (richCompare .Lt (.int (xs.getD i 0) t) (.int m tb)) _ _ _ from wpAny_lt_int ?_)))))
      refine Wp.bind (Wp.holding (.of (wpAny_truthy_bool ?_)))
      refine Wp.bind (.of (wpAny_letGo (Wp.pure ?_)))
      have hm1 : minAt xs (i + 1) = if xs.getD i 0 < m then some (xs.getD i 0) else some m := by rw [minAt_s, hm]
      by_cases hc : xs.getD i 0 < m
      · rw [decide_eq_true hc, if_pos rfl]
        refine Wp.bind (upd_list F (us' := [.int (xs.getD i 0) t, .int (xs.getD i 0) t]) (.there .here) rfl (by simp) (by simp) fun s F => ?_)
        refine Wp.bind (.of (wpAny_letGo ?_))
        refine hstep ?_ F
        rw [hm1, if_pos hc]
        exact ⟨_, _, rfl, ⟨t, rfl⟩, ⟨t, rfl⟩⟩
      · rw [decide_eq_false hc, if_neg (by decide)]
        refine Wp.bind (.of (wpAny_letGo ?_))
        refine hstep ?_ F
        rw [hm1, if_neg hc]
        exact ⟨_, _, rfl, ⟨ta, rfl⟩, ⟨tb, rfl⟩⟩
  · have : i = xs.length := by rw [hi.length] at hle; exact Nat.le_antisymm hile hle
    subst this
    cases hm : minAt xs xs.length with
    | none =>
      rw [hm] at hus
      have hus : us = [] := hus
      subst hus
      refine Wp.bind (.of (wpAny_rule ?_))
      refine Wp.pure ⟨_, rfl, h d s ?_ (F2.drop (a := B) (.there .here))⟩
      rw [hm]
      exact rfl
    | some m =>
      rw [hm] at hus
      obtain ⟨a, b, rfl, ⟨ta, rfl⟩, ⟨tb, rfl⟩⟩ := hus
      refine Wp.bind (upd_list F2 (us' := []) (.there .here) rfl (by simp) (by simp) fun s F => ?_)
      refine Wp.bind (.of (wpAny_letGo ?_))
      refine Wp.pure ⟨_, rfl, h _ s ?_ (F.drop (a := B) (.there .here))⟩
      rw [hm]
      exact ⟨ta, rfl⟩
end
end
/-! MX12 -/
section
set_option hygiene false
section
variable {w : World} {A : Around} {E : Value → Shared → Prop} {g : Gd} {s₀ s s' : Shared} {ms : List Addr} {os os' : Os} {env : Env} {L : Addr} {nl : List Str} {vs vs' : List (Option Value)}

/-! sorted(ints, key=None) -/
theorem sort_keyNone (a : Addr) : Builtin.«list.sort» ⟨[.ref a], [(Str.ofString "key", Value.none)]⟩ = Builtin.«list.sort» ⟨[.ref a], []⟩ := by rfl
theorem args_sort_kn (a : Value) : argsOk "list.sort" ⟨[a], [(Str.ofString "key", Value.none)]⟩ := by unfold argsOk; kernel_rfl
theorem args_sorted_kn (a : Value) : argsOk "sorted" ⟨[a], [(Str.ofString "key", Value.none)]⟩ := by unfold argsOk; kernel_rfl
noncomputable def srt (xs : List Int) : List Int := xs.mergeSort (fun a b => decide (a ≤ b))
theorem srt_perm (xs : List Int) : (srt xs).Perm xs := List.mergeSort_perm _ _
theorem srt_sorted (xs : List Int) : (srt xs).Pairwise (· ≤ ·) := by
  have := List.pairwise_mergeSort (le := fun a b : Int => decide (a ≤ b)) (fun a b c => by simp only [decide_eq_true_eq]; lia) (fun a b => by simp only [Bool.or_eq_true, decide_eq_true_eq]; lia) xs
  exact this.imp fun h => by simpa using h
theorem srt_uniq {a b : List Int} (h : a.Perm b) (hs : a.Pairwise (· ≤ ·)) : a = srt b := PySem.W.lks_uniq (h.trans (srt_perm b).symm) hs (srt_sorted b)
theorem k_sorted {l : Addr} {xs : List Int} {ws : List Value} {kw : List (Str × Value)} {n : Nat} {p₀ : Addr × K} {Q : Value → Shared → Prop} (hkw : kw = [] ∨ kw = [(Str.ofString "key", Value.none)]) (F : St g s₀ ms (p₀ :: os) s) (ho : s.heap.get? l = some (listO ws n)) (hi : Ints ws xs) (hz : xs.length < 64)
    (h : ∀ r s', s₀.heap.objs.size ≤ r → St g s₀ ms (p₀ :: (r, .ints (srt xs)) :: os) s' → Q (.ref r) s') : Wp w A (call (.builtin "sorted") [.ref l] kw) Q E s := by
  have hl := listO_is ho
  have h64 : ws.length < 64 := by rw [hi.length]; exact hz
  have main : ∀ (out : Array Value) (ns' : List Int), IntsAre out.toList ns' → ns'.Perm xs → ns'.Pairwise (· ≤ ·) → Q (.ref (s.heap.objs.size + 1)) { s with heap := sortedAll s.heap ws out } := by
    intro out ns' a1 a2 a3
    obtain ⟨e, he⟩ := sortedAll_at s.heap ws out
    have := srt_uniq a2 a3
    subst this
    have hle : @LE.le Nat _ s.heap.objs.size (s.heap.objs.size + 1) := Nat.le_succ _
    refine h _ _ (Nat.le_trans F.aft.size hle) (F.freshH (fun b o => sortedAll_old) ((K.At.ints_of (vs := out.toList) (Exists.intro e ?_) (.of a1))) hle)
    rw [listO, Array.toArray_toList]
    exact he
  rcases hkw with rfl | rfl
  · exact .of (sorted_ints hl hi.are h64 main)
  · refine .of (call_function_entry_kw kind_sorted plain_sorted entry_sorted (args_sorted_kn _) ?_)
    unfold Builtin.«sorted»
    refine wpAny_bind (m := checkCount "sorted" 1 1 _) (wpAny_pure ?_)
    refine wpAny_bind (collect_list hl ?_ (by show ws.length ≤ 2 ^ 24; exact Nat.le_trans (Nat.le_of_lt h64) (lb rfl)))
    refine wpAny_bind (wpAny_newList ?_ (by show ws.toArray.size ≤ 2 ^ 24; rw [List.size_toArray]; exact Nat.le_trans (Nat.le_of_lt h64) (lb rfl)))
    have hsz : ((s.heap.push (seqObj "list" #[] 0)).update s.heap.objs.size (Obj.mapSeq (· ++ ws.toArray))).objs.size = s.heap.objs.size + 1 := by
      rw [Heap.size_update, size_push']
    have hoL : (((s.heap.push (seqObj "list" #[] 0)).update s.heap.objs.size (Obj.mapSeq (· ++ ws.toArray))).push (seqObj "list" ws.toArray 0)).get? (s.heap.objs.size + 1) = some (seqObj "list" ws.toArray 0) := by
      rw [← hsz]; exact Heap.get?_push_size _ rfl
    show wpAny _ _ _ _ _ { s with heap := ((s.heap.push (seqObj "list" #[] 0)).update s.heap.objs.size (Obj.mapSeq (· ++ ws.toArray))).push (seqObj "list" ws.toArray 0) }
    rw [hsz]
    refine wpAny_bind (wpAny_holding (wpAny_call_entry_kw slot_list_sort ⟨_, hoL, rfl⟩ entry_list_sort ?_ (args_sort_kn _)))
    rw [sort_keyNone]
    refine list_sort_tree hoL hi.are h64 fun out ns' a1 a2 a3 => ⟨_, rfl, ?_⟩
    exact wpAny_pure ⟨_, rfl, main out ns' a1 a2 a3⟩

/-! the kit's frames over an empty ground -/
noncomputable def noHeap : Heap := { objs := #[] }
theorem noHeap_none (b : Addr) : noHeap.get? b = none := by
  cases e : noHeap.get? b with
  | none => rfl
  | some o => exact absurd (Heap.lt_size e) (Nat.not_lt_zero _)
theorem St.bridge {a : Addr} {us : List Value} (F : St g s₀ ms ((L, .ns nl vs) :: (a, .list us) :: os) s) (hL0 : s₀.heap.objs.size ≤ L) :
    ∃ (m : Str → Option Value) (news : List (Addr × Obj)) (n : Nat), Fr noHeap L s.heap m ∧ News noHeap L s.heap news ∧ s.heap.get? a = some (listO us n) ∧ a ≠ L ∧ (∀ p ∈ news, p.1 ≠ a) ∧ (∀ b o, b ≠ L → b ≠ a → s.heap.get? b = some o → (b, o) ∈ news) ∧
      ∀ (h' : Heap) (tk : Nat) (us' : List Value) (n' : Nat), Fr noHeap L h' m → News noHeap L h' ((a, listO us' n') :: news) → St g s₀ ms ((L, .ns nl vs) :: (a, .list us') :: os) { s with heap := h', toks := tk } := by
  obtain ⟨hnd, m, hn, hm⟩ := F.at _ (.head _)
  obtain ⟨n, ho⟩ := F.at (a, .list us) (.tail _ (.head _))
  have haL : a ≠ L := fun e => by
    have := F.nod
    rw [List.map_cons, List.map_cons, List.nodup_cons] at this
    exact this.1 (e ▸ .head _)
  refine ⟨m, ((List.range s.heap.objs.size).filterMap fun b => if b = L ∨ b = a then none else (s.heap.get? b).map fun o => (b, o)), n, ⟨hn, fun b o e => absurd e (by rw [noHeap_none]; nofun), Nat.zero_le _⟩, ?_, ho, haL, ?_, ?_, ?_⟩
  · intro p hp
    refine ex1 (List.mem_filterMap.mp hp) ?_; intro b hJ
    refine and2 hJ ?_; clear hJ; intro hU1 e
    split at e
    · cases e
    · rename_i hb
      refine ex1 (Option.map_eq_some_iff.mp e) ?_; intro o hJ
      refine and2 hJ ?_; clear hJ; intro ho' e
      subst e
      exact ⟨ho', fun h => hb (.inl h), noHeap_none _⟩
  · intro p hp
    refine ex1 (List.mem_filterMap.mp hp) ?_; intro b hJ
    refine and2 hJ ?_; clear hJ; intro hU2 e
    split at e
    · cases e
    · rename_i hb
      refine ex1 (Option.map_eq_some_iff.mp e) ?_; intro o hJ
      refine and2 hJ ?_; clear hJ; intro ho' e
      subst e
      exact fun h => hb (.inr h)
  · intro b o h1 h2 e
    refine List.mem_filterMap.mpr ⟨b, List.mem_range.mpr (Heap.lt_size e), ?_⟩
    rw [if_neg (fun h => h.elim h1 h2), e]
    rfl
  · intro h' tk us' n' F' N'
    have hk : ∀ b o, b ≠ L → b ≠ a → s.heap.get? b = some o → h'.get? b = some o := fun b o h1 h2 e => by
      refine (N' (b, o) (.tail _ (List.mem_filterMap.mpr ⟨b, List.mem_range.mpr (Heap.lt_size e), ?_⟩))).1
      rw [if_neg (fun h => h.elim h1 h2), e]
      rfl
    have ha' := (N' _ (.head _)).1
    have hz : @LT.lt Nat _ L h'.objs.size := F'.ns.lt
    have hL1 : @LE.le Nat _ s₀.heap.objs.size L := hL0
    have hbase := F.base
    have hLow := F.low _ (.head _)
    have hLow2 := F.low (a, .list us) (.tail _ (.head _))
    have hOwn := F.own (a, .list us) (.tail _ (.head _)) trivial
    obtain ⟨_, _, _, hoL, hdL, _⟩ := id hn
    have frz : ∀ b o, s.heap.get? b = some o → Frz o → h'.get? b = some o := fun b o e hf => by
      refine hk b o (fun h => ?_) (fun h => ?_) e
      · subst h
        rw [hoL] at e
        cases e
        rcases hf with ⟨_, vs, n, e⟩ | ⟨_, vs, e⟩ <;> rw [hdL] at e <;> cases e
      · subst h
        rw [ho] at e
        cases e
        exact frz_list hf
    have low : ∀ b, b < g.h₁.objs.size → b ≠ L ∧ b ≠ a := fun b hb => ⟨fun h => Nat.lt_irrefl _ (Nat.lt_of_lt_of_le (h ▸ hb) hLow), fun h => Nat.lt_irrefl _ (Nat.lt_of_lt_of_le (h ▸ hb) hLow2)⟩
    refine ⟨⟨F.inv.ok, fun b o e hb => ?_, by show g.h₁.objs.size ≤ h'.objs.size; exact Nat.le_trans hLow (Nat.le_of_lt hz), F.inv.tab.keep (fun o e => ?_) frz⟩, ⟨fun b o e h1 h2 => ?_, fun b o e hf => frz b o (F.aft.frz b o e hf) hf, by show s₀.heap.objs.size ≤ h'.objs.size; exact Nat.le_trans hL1 (Nat.le_of_lt hz), F.aft.os, F.aft.gens⟩, fun p hp => ?_, F.nod, fun p hp hsf => ?_, fun p hp => ?_, F.base⟩
    · have hlt : b < g.h₁.objs.size := Heap.lt_size e
      exact hk b o (low b hlt).1 (low b hlt).2 (F.inv.ext b o e hb)
    · exact hk _ o (low _ F.inv.P_lt).1 (low _ F.inv.P_lt).2 e
    · have hb0 : @LT.lt Nat _ b s₀.heap.objs.size := Heap.lt_size e
      refine hk b o (fun h => ?_) (fun h => ?_) (F.aft.keep b o e h1 h2)
      · have h3 : @Eq Nat b L := h
        lia
      · rcases hOwn with h3 | h3
        · exact h1 (h ▸ h3)
        · have h4 : @Eq Nat b a := h
          have h5 : @LE.le Nat _ s₀.heap.objs.size a := h3
          lia
    · rcases List.mem_cons.mp hp with rfl | hp
      · obtain ⟨m', hn', hm'⟩ : ∃ m', h'.Ns L m' ∧ ∀ x v, At2 nl vs x v → m' x = some v := ⟨m, F'.ns, hm⟩
        exact ⟨hnd, m', hn', hm'⟩
      · rcases List.mem_cons.mp hp with rfl | hp
        · exact ⟨n', ha'⟩
        · have hN := F.nod
          rw [List.map_cons, List.map_cons, List.nodup_cons, List.nodup_cons] at hN
          refine (F.at p (.tail _ (.tail _ hp))).move (fun o e => hk _ o (fun h => hN.1 ?_) (fun h => hN.2.1 ?_) e) frz
          · exact .tail _ (h ▸ List.mem_map_of_mem (f := (·.1)) hp)
          · exact h ▸ List.mem_map_of_mem (f := (·.1)) hp
    · rcases List.mem_cons.mp hp with rfl | hp
      · exact F.own _ (.head _) hsf
      · rcases List.mem_cons.mp hp with rfl | hp
        · exact hOwn
        · exact F.own p (.tail _ (.tail _ hp)) hsf
    · rcases List.mem_cons.mp hp with rfl | hp
      · exact hLow
      · rcases List.mem_cons.mp hp with rfl | hp
        · exact hLow2
        · exact F.low p (.tail _ (.tail _ hp))

/-! list.sort of pairs -/
noncomputable def kEval {α : Type} (lt : Nat → Nat → Bool) : PySem.W.KasT α → α
  | .ret a => a
  | .ask i j k => kEval lt (k (lt i j))
noncomputable def kOk (n : Nat) : PySem.W.KasT (Array Nat) → Bool
  | .ret p => p.toList.all fun i => decide (i < n)
  | .ask i j k => decide (i < n) && decide (j < n) && kOk n (k true) && kOk n (k false)
theorem kEval_wp {n : Nat} {cmp : Nat → Nat → (Bool → Shared → Prop) → Shared → Prop} {lt : Nat → Nat → Bool} {Q : Array Nat → Shared → Prop} {s : Shared} (hc : ∀ i j C, i < n → j < n → C (lt i j) s → cmp i j C s) : ∀ (t : PySem.W.KasT (Array Nat)), kOk n t = true → ((∀ i ∈ (kEval lt t).toList, i < n) → Q (kEval lt t) s) → t.kasWp cmp Q s
  | .ret p, hk, h => h fun i hi => by simpa using List.all_eq_true.mp hk i hi
  | .ask i j k, hk, h => by
    have hk : (decide (i < n) && decide (j < n) && kOk n (k true) && kOk n (k false)) = true := hk
    simp only [Bool.and_eq_true, decide_eq_true_eq] at hk
    refine hc i j _ hk.1.1.1 hk.1.1.2 (kEval_wp hc (k (lt i j)) ?_ h)
    cases lt i j
    · exact hk.2
    · exact hk.1.2
noncomputable def pSort (ps : List (Int × Int)) : List (Int × Int) := (kEval (fun i j => ltP (gP ps i) (gP ps j)) (PySem.W.kas_sort ps.length)).toList.map fun i => gP ps i
theorem Pairs.tups {h : Heap} {us : List Value} {ps : List (Int × Int)} (x : Pairs h us ps) : ∃ fs, PySem.W.KatTups h us fs ∧ fs.length = ps.length ∧ ∀ v ∈ fs, ∃ a t, v = .int a t := by
  induction x with
  | nil => exact ⟨[], .nil, rfl, by simp⟩
  | @cons b p t u n vs ps e _ ih =>
    refine ex1 ih ?_; (try clear ih); intro fs hJ
    refine and3 hJ ?_; clear hJ; intro h1 h2 h3
    exact ⟨.int p.1 t :: fs, .cons e rfl rfl rfl h1, by simp [h2], fun v hv => by
      rcases List.mem_cons.mp hv with rfl | hv
      · exact ⟨_, _, rfl⟩
      · exact h3 v hv⟩
theorem Pairs.pick {h : Heap} {us : List Value} {ps : List (Int × Int)} (x : Pairs h us ps) : ∀ (l : List Nat), (∀ i ∈ l, i < ps.length) → Pairs h (l.map fun i => us.getD i Value.none) (l.map fun i => gP ps i)
  | [], _ => .nil
  | i :: l, hl => by
    obtain ⟨v, hv, b, t, u, n, rfl, ho⟩ := x.get (hl i (.head _))
    have e : us.getD i Value.none = .ref b := by rw [List.getD_eq_getElem?_getD, hv]; rfl
    rw [List.map_cons, List.map_cons, e]
    exact .cons ho (x.pick l fun j hj => hl j (.tail _ hj))
theorem sort_pairs {a : Addr} {ps : List (Int × Int)} {us : List Value} {Q : Value → Shared → Prop} (F : St g s₀ ms ((L, .ns nl vs) :: (a, .list us) :: os) s) (hL0 : s₀.heap.objs.size ≤ L) (hp : Pairs s.heap us ps) (h2 : 2 ≤ ps.length) (hz : ps.length < 64)
    (hok : kOk ps.length (PySem.W.kas_sort ps.length) = true)
    (h : ∀ s' us', Pairs s'.heap us' (pSort ps) → St g s₀ ms ((L, .ns nl vs) :: (a, .list us') :: os) s' → Q .none s') : Wp w A (call (.builtin "list.sort") [.ref a]) Q E s := by
  refine ex3 (F.bridge hL0) ?_; intro m news n hJ
  refine and7 hJ ?_; clear hJ; intro Fr0 N0 ho haL hna hin back
  have hlen := hp.length
  obtain ⟨_, mL, ⟨oL, _, _, hoL, hdL, _⟩, _⟩ := F.at _ (.head _)
  refine .of (wpAny_call_entry slot_list_sort ⟨_, ho, rfl⟩ entry_list_sort (PySem.W.kat_list_sort (n := n) (vs := us) Fr0 N0 ho haL (noHeap_none _) hna (Nat.le_trans h2 (Nat.le_of_eq (Eq.symm hlen))) (Nat.lt_of_le_of_lt (Nat.le_of_eq hlen) hz) fun e1 h' F' N' => ?_) (args_list_sort _))
  have frz : ∀ {h' : Heap} {o : Obj}, News noHeap L h' ((a, o) :: news) → Frozen s.heap h' := fun {h' o'} N' b o e hf => by
    refine (N' (b, o) (.tail _ (hin b o (fun h => ?_) (fun h => ?_) e))).1
    · subst h
      rw [hoL] at e
      cases e
      rcases hf with ⟨_, vs, n, e⟩ | ⟨_, vs, e⟩ <;> rw [hdL] at e <;> cases e
    · subst h
      rw [ho] at e
      cases e
      exact frz_list hf
  have hp' : Pairs h' us ps := hp.move (frz N')
  refine ex1 hp'.tups ?_; intro fs hJ
  refine and3 hJ ?_; clear hJ; intro ht hfl hfs
  refine PySem.W.kat_kind (T := .type "int") ht (Nat.lt_of_lt_of_le (Nat.lt_of_lt_of_le (lb rfl) h2) (Nat.le_of_eq (Eq.symm hfl))) (fun v hv => ?_) (by decide) ?_
  · refine ex2 (hfs v hv) ?_; intro x t hR3
    subst hR3
    exact PySem.W.Looks.of_pure rfl
  · rw [hlen]
    refine kEval_wp (n := ps.length) (lt := fun i j => ltP (gP ps i) (gP ps j)) (fun i j C hi hj hC => ?_) _ hok fun hlt => ?_
    · obtain ⟨v, hv, b, t, u, n1, rfl, hob⟩ := hp'.get hi
      obtain ⟨v2, hv2, b2, t2, u2, n2, rfl, hob2⟩ := hp'.get hj
      have e1 : us.getD i Value.none = .ref b := by rw [List.getD_eq_getElem?_getD, hv]; rfl
      have e2 : us.getD j Value.none = .ref b2 := by rw [List.getD_eq_getElem?_getD, hv2]; rfl
      unfold PySem.W.kas_ask
      rw [e1, e2]
      refine PySem.W.kat_lt hob rfl hob2 rfl ?_
      refine PySem.W.kat_cons (wpAny_eqBool_int ?_)
      unfold ltP at hC
      by_cases h1 : (gP ps i).1 = (gP ps j).1
      · rw [if_pos h1] at hC
        rw [show ((ps.getD i (0, 0)).1 == (ps.getD j (0, 0)).1) = true from beq_iff_eq.mpr h1]
        refine PySem.W.kat_yes (PySem.W.kat_cons (wpAny_eqBool_int ?_))
        by_cases h2 : (gP ps i).2 = (gP ps j).2
        · rw [if_pos h2] at hC
          rw [show ((ps.getD i (0, 0)).2 == (ps.getD j (0, 0)).2) = true from beq_iff_eq.mpr h2]
          exact PySem.W.kat_yes (PySem.W.kat_nil hC)
        · rw [if_neg h2] at hC
          rw [show ((ps.getD i (0, 0)).2 == (ps.getD j (0, 0)).2) = false from beq_false_of_ne h2]
          refine PySem.W.kat_no (PySem.W.kat_one _ _ (wpAny_lt_int ?_))
          exact hC
      · rw [if_neg h1] at hC
        rw [show ((ps.getD i (0, 0)).1 == (ps.getD j (0, 0)).1) = false from beq_false_of_ne h1]
        exact PySem.W.kat_no (oneLt_int hC)
    · refine PySem.W.KasFin.intro (s := { s with heap := h' }) F' N' (.head hna) fun h2 c F2 N2 => ⟨_, rfl, ?_⟩
      have hpf := (hp.move (frz N2)).pick _ hlt
      exact h { s with heap := h2 } _ hpf (back h2 s.toks _ c F2 N2)
theorem kOk2 : kOk 2 (PySem.W.kas_sort 2) = true := by decide +kernel
theorem kOk3 : kOk 3 (PySem.W.kas_sort 3) = true := by decide +kernel
end
end
/-! MX13 -/
section
set_option hygiene false
noncomputable def zipO (TI TO : Addr) (f0 : Value) : Obj := { cls := .type "zip", dict := none, data := .fields #[f0, .bool false, .bool false, .ref TI, .ref TO], slots := #[] }
noncomputable def pairO (a b : Value) : Obj := { cls := .type "tuple", data := .seq #[a, b] }
noncomputable abbrev zH1 (h : Heap) (n : Int) : Heap := h.push { cls := .type "range_iterator", data := .fields #[rawInt 0, rawInt (Builtin.Range.rangeSize 0 n 1), rawInt 1] }
noncomputable abbrev zH2 (h : Heap) (n : Int) (it : Addr) : Heap := (zH1 h n).push { cls := .type "tuple", data := .seq #[.ref h.objs.size, .ref it] }
noncomputable abbrev zH3 (h : Heap) (n : Int) (it : Addr) : Heap := (zH2 h n it).push { cls := .type "tuple", data := .seq #[.none, .none] }
noncomputable abbrev zH4 (h : Heap) (n : Int) (it : Addr) : Heap := (zH3 h n it).push { cls := .type "zip", data := .fields #[.none, .bool false, .bool false, .ref (zH1 h n).objs.size, .ref (zH2 h n it).objs.size] }
theorem meets_zip_rl (R it l : Addr) (i : Nat) (n : Int) (t u v : Tok) (hn0 : 0 ≤ n) (hn : n ≤ 1000) :
    Meets (Builtin.«zip.__new__» ⟨[.type "zip", .ref R, .ref it], []⟩) (fun _ K s => IsRange s.heap R 0 n 1 t u v ∧ s.heap.IsListIter it l i ∧
      K (.ok (.ret (.ref (zH3 s.heap n it).objs.size))) { s with heap := zH4 s.heap n it }) :=
  .of_wp fun prog w A K s h => by
    obtain ⟨hp, g, d, tk, os⟩ := s; obtain ⟨hl1, hl2, h⟩ := h
    have hsub := sub_zip
    have hsz : Builtin.Range.rangeSize 0 n 1 = n := by rw [rangeSize_one]; split <;> lia
    have hsm : Builtin.Range.small 0 n 1 = true := small_of ⟨by decide, by decide⟩ (by lia) ⟨by decide, by decide⟩
    have hL1 : IsRange (Shared.heap ⟨hp, g, d, tk, os⟩) R 0 n 1 t u v := hl1
    have hL2 : Heap.IsListIter (Shared.heap ⟨hp.push { cls := .type "range_iterator", data := .fields #[rawInt 0, rawInt (Builtin.Range.rangeSize 0 n 1), rawInt 1] }, g, d, tk, os⟩) it l i := by
      refine ex1 hl2 ?_; (try clear hl2); intro o hJ
      refine and2 hJ ?_; clear hJ; intro ho r
      exact ⟨o, Heap.get?_push_of_some _ ho, r⟩
    wp_walk using wpAny_pyIter_range hL1 hsm, wpAny_pyIter_listiter hL2
    exact ⟨_, rfl, h⟩
section
variable {w : World} {A : Around} {E : Value → Shared → Prop} {g : Gd} {s₀ s s' : Shared} {ms : List Addr} {os os' : Os} {env : Env} {L : Addr} {nl : List Str} {vs vs' : List (Option Value)}
theorem St.fresh4 {p₀ : Addr × K} {h' : Heap} {tk : Nat} (F : St g s₀ ms (p₀ :: os) s) (hk : ∀ b o, s.heap.get? b = some o → h'.get? b = some o) {k0 k1 k2 k3 : K} (h0 : K.At h' s.heap.objs.size k0) (h1 : K.At h' (s.heap.objs.size + 1) k1) (h2 : K.At h' (s.heap.objs.size + 2) k2) (h3 : K.At h' (s.heap.objs.size + 3) k3) :
    St g s₀ ms (p₀ :: (s.heap.objs.size + 3, k3) :: (s.heap.objs.size + 2, k2) :: (s.heap.objs.size + 1, k1) :: (s.heap.objs.size, k0) :: os) { heap := h', gens := s.gens, drawn := s.drawn, toks := tk, os := s.os } := by
  have F1 := F.freshH (h' := h') (tk := tk) hk h0 (Nat.le_refl _)
  have hlt : ∀ q ∈ p₀ :: os, @LT.lt Nat _ q.1 s.heap.objs.size := fun q hq => (F.at q hq).lt
  have hs0 : @LE.le Nat _ s₀.heap.objs.size s.heap.objs.size := F.aft.size
  have l0 : ∀ j : Nat, @LE.le Nat _ s₀.heap.objs.size (s.heap.objs.size + j) := fun j => (Nat.le_trans hs0 (Nat.le_add_right (Array.size s.heap.objs) j))
  have step : ∀ {os' : Os} {k : K} (j : Nat), St g s₀ ms (p₀ :: os') { heap := h', gens := s.gens, drawn := s.drawn, toks := tk, os := s.os } → (∀ q ∈ p₀ :: os', @LT.lt Nat _ q.1 (s.heap.objs.size + j)) → K.At h' (s.heap.objs.size + j) k → St g s₀ ms (p₀ :: (s.heap.objs.size + j, k) :: os') { heap := h', gens := s.gens, drawn := s.drawn, toks := tk, os := s.os } :=
    fun j F hl hk => (F.add hk (fun q hq e => Nat.lt_irrefl _ (e ▸ hl q hq)) (l0 j)).swap
  have m1 : ∀ q ∈ p₀ :: (s.heap.objs.size, k0) :: os, @LT.lt Nat _ q.1 (s.heap.objs.size + 1) := fun q hq => by
    rcases List.mem_cons.mp hq with rfl | hq
    · exact Nat.lt_succ_of_lt (hlt _ (.head _))
    · rcases List.mem_cons.mp hq with rfl | hq
      · exact Nat.lt_succ_self _
      · exact Nat.lt_succ_of_lt (hlt _ (.tail _ hq))
  have F2 := step 1 F1 m1 h1
  have m2 : ∀ q ∈ p₀ :: (s.heap.objs.size + 1, k1) :: (s.heap.objs.size, k0) :: os, @LT.lt Nat _ q.1 (s.heap.objs.size + 2) := fun q hq => by
    rcases List.mem_cons.mp hq with rfl | hq
    · exact Nat.lt_succ_of_lt (m1 _ (.head _))
    · rcases List.mem_cons.mp hq with rfl | hq
      · exact Nat.lt_succ_self _
      · exact Nat.lt_succ_of_lt (m1 _ (.tail _ hq))
  have F3 := step 2 F2 m2 h2
  refine step 3 F3 (fun q hq => ?_) h3
  rcases List.mem_cons.mp hq with rfl | hq
  · exact Nat.lt_succ_of_lt (m2 _ (.head _))
  · rcases List.mem_cons.mp hq with rfl | hq
    · exact Nat.lt_succ_self _
    · exact Nat.lt_succ_of_lt (m2 _ (.tail _ hq))
theorem k_zip {R it l : Addr} {i : Nat} {n : Int} {t u v : Tok} {p₀ : Addr × K} {Q : Value → Shared → Prop} (F : St g s₀ ms (p₀ :: os) s) (hR : Mem (p₀ :: os) R (.raw { cls := .type "range", data := .fields #[.int 0 t, .int n u, .int 1 v] })) (hi : Mem (p₀ :: os) it (.liter l i)) (hn0 : 0 ≤ n) (hn : n ≤ 1000)
    (h : ∀ (z TI TO i1 : Addr) s', s₀.heap.objs.size ≤ z → s₀.heap.objs.size ≤ TO → s₀.heap.objs.size ≤ TI → s₀.heap.objs.size ≤ i1 → St g s₀ ms (p₀ :: (z, .raw (zipO TI TO .none)) :: (TO, .raw (pairO .none .none)) :: (TI, .raw (pairO (.ref i1) (.ref it))) :: (i1, .riter 0 n 1) :: os) s' → Q (.ref z) s') :
    Wp w A (call (.type "zip") [.ref R, .ref it]) Q E s := by
  have hsz : Builtin.Range.rangeSize 0 n 1 = n := by rw [rangeSize_one]; split <;> lia
  have z1 : (zH1 s.heap n).objs.size = s.heap.objs.size + 1 := Heap.size_push ..
  have z2 : (zH2 s.heap n it).objs.size = s.heap.objs.size + 2 := by rw [Heap.size_push, z1]
  have z3 : (zH3 s.heap n it).objs.size = s.heap.objs.size + 3 := by rw [Heap.size_push, z2]
  have g4 : (zH4 s.heap n it).get? (zH3 s.heap n it).objs.size = some _ := Heap.get?_push_size _ rfl
  have g3 : (zH4 s.heap n it).get? (zH2 s.heap n it).objs.size = some _ := Heap.get?_push_of_some _ (Heap.get?_push_size _ rfl)
  have g2 : (zH4 s.heap n it).get? (zH1 s.heap n).objs.size = some _ := Heap.get?_push_of_some _ (Heap.get?_push_of_some _ (Heap.get?_push_size _ rfl))
  have g1 : (zH4 s.heap n it).get? s.heap.objs.size = some _ := Heap.get?_push_of_some _ (Heap.get?_push_of_some _ (Heap.get?_push_of_some _ (Heap.get?_push_size _ rfl)))
  rw [z1, z2, z3] at g4
  rw [z2] at g3
  rw [z1] at g2
  rw [hsz] at g1
  have l0 : @LE.le Nat _ s₀.heap.objs.size s.heap.objs.size := F.aft.size
  have le : ∀ j : Nat, @LE.le Nat _ s₀.heap.objs.size (s.heap.objs.size + j) := fun j => (Nat.le_trans l0 (Nat.le_add_right (Array.size s.heap.objs) j))
  refine .of (callType_new PySem.F.called_zip (by decide) (PySem.F.typeCall_zip_2 _ _) (PySem.F.newCall_zip_2 _ _) (fun obj => PySem.F.args_object_init_3 obj _ _) PySem.F.entry_zip_new (meets_zip_rl R it l i n t u v hn0 hn) ⟨F.mem hR, F.mem hi, ?_⟩)
  rw [z3]
  refine ⟨⟨_, g4, rfl⟩, h (s.heap.objs.size + 3) (s.heap.objs.size + 1) (s.heap.objs.size + 2) s.heap.objs.size _ (le 3) (le 2) (le 1) l0 (F.fresh4 (fun b o e => Heap.get?_push_of_some _ (Heap.get?_push_of_some _ (Heap.get?_push_of_some _ (Heap.get?_push_of_some _ e)))) g1 g2 g3 g4)⟩
end
end
/-! MX14 -/
section
set_option hygiene false
noncomputable def K.np : K → Prop
  | .pairs _ => False
  | _ => True
inductive NP : Os → Prop
  | nil : NP []
  | cons {a k os} : K.np k → NP os → NP ((a, k) :: os)
theorem NP.mem {os : Os} (h : NP os) : ∀ p ∈ os, K.np p.2 := by
  induction h with
  | nil => intro p hp; exact absurd hp List.not_mem_nil
  | cons hk _ ih =>
    intro p hp
    rcases List.mem_cons.mp hp with rfl | hp
    · exact hk
    · exact ih p hp
theorem NP.up {os os' : Os} {a : Addr} {k k' : K} (h : NP os) (hu : Up os a k k' os') (hk : K.np k') : NP os' := by
  induction hu with
  | here => cases h with | cons _ h => exact .cons hk h
  | there _ ih => cases h with | cons h1 h => exact .cons h1 (ih h hk)
theorem NP.insert {p : Addr × K} {os : Os} {a : Addr} {k : K} (h : NP (p :: os)) (hk : K.np k) : NP (p :: (a, k) :: os) := by
  cases h with
  | cons h1 h2 => exact .cons h1 (.cons hk h2)
theorem K.At.moveN {h h' : Heap} {a : Addr} (e : ∀ o, h.get? a = some o → h'.get? a = some o) {k : K} (hn : K.np k) (h0 : K.At h a k) : K.At h' a k := by
  cases k with
  | pairs _ => exact hn.elim
  | ns _ _ => obtain ⟨hn, m, ⟨o, es, ep, ho, r⟩, hm⟩ := h0; exact ⟨hn, m, ⟨o, es, ep, e _ ho, r⟩, hm⟩
  | «ints» _ => obtain ⟨vs, n, ho, hi⟩ := h0; exact ⟨vs, n, e _ ho, hi⟩
  | «strs» _ => obtain ⟨vs, n, ho, hi⟩ := h0; exact ⟨vs, n, e _ ho, hi⟩
  | «list» _ => obtain ⟨n, ho⟩ := h0; exact ⟨n, e _ ho⟩
  | liter _ _ => obtain ⟨o, ho, r⟩ := h0; exact ⟨o, e _ ho, r⟩
  | riter _ _ _ => exact e _ h0
  | siter _ _ => obtain ⟨t, o, ho, r⟩ := h0; exact ⟨t, o, e _ ho, r⟩
  | cell _ => obtain ⟨o, ho, hd⟩ := h0; exact ⟨o, e _ ho, hd⟩
  | ba _ => exact e _ h0
  | raw _ => exact e _ h0
section
variable {w : World} {A : Around} {E : Value → Shared → Prop} {g : Gd} {s₀ s s' : Shared} {ms : List Addr} {os os' : Os} {env : Env} {L : Addr} {nl : List Str} {vs vs' : List (Option Value)}
/-- a change in place of a thing of one's own, whatever its kind -/
theorem St.updateR (F : St g s₀ ms os s) {a : Addr} {k k' : K} (hu : Up os a k k' os') (hs : Heap.SameBut a s.heap s'.heap) (hk : K.At s'.heap a k') (ho : s'.os = s.os) (hg : s'.gens = s.gens) (ha : s₀.heap.objs.size ≤ a) (hnp : NP os) : St g s₀ ms os' s' := by
  have hm := hu.mem
  have hlow := F.low _ hm
  have ha' : @LE.le Nat _ s₀.heap.objs.size a := ha
  have hne : ∀ b, @LT.lt Nat _ b s₀.heap.objs.size → b ≠ a := fun b hb e => by
    have h2 : @Eq Nat b a := e
    lia
  have hz : s.heap.objs.size ≤ s'.heap.objs.size := by rw [hs.1]; exact Nat.le_refl _
  have hbase : @LE.le Nat _ g.h₁.objs.size s₀.heap.objs.size := F.base
  refine ⟨⟨F.inv.ok, fun b o e hb => ?_, Nat.le_trans F.inv.size hz, ?_⟩, ⟨fun b o e h1 h2 => ?_, fun b o e hf => ?_, Nat.le_trans F.aft.size hz, ho.trans F.aft.os, fun h => hg ▸ F.aft.gens h⟩, fun p hp => ?_, by rw [hu.map]; exact F.nod, fun p hp hsf => ?_, fun p hp => ?_, F.base⟩
  · have hlt : @LT.lt Nat _ b g.h₁.objs.size := Heap.lt_size e
    rw [hs.2 b (hne b (Nat.lt_of_lt_of_le hlt hbase))]; exact F.inv.ext b o e hb
  · refine ex1 F.inv.tab ?_; intro qs hJ
    refine and2 hJ ?_; clear hJ; intro hq hqt
    have hlt : @LT.lt Nat _ g.P g.h₁.objs.size := F.inv.P_lt
    exact ⟨qs, by rw [hs.2 _ (hne _ (Nat.lt_of_lt_of_le hlt hbase))]; exact hq, hqt⟩
  · rw [hs.2 b (hne b (Heap.lt_size e))]; exact F.aft.keep b o e h1 h2
  · rw [hs.2 b (hne b (Heap.lt_size e))]; exact F.aft.frz b o e hf
  · rcases hu.get F.nod hp with rfl | ⟨hne, hp'⟩
    · exact hk
    · exact (F.at _ hp').moveN (fun o e => by rw [hs.2 _ hne]; exact e) (hnp.mem _ hp')
  · rcases hu.get F.nod hp with rfl | ⟨hne, hp'⟩
    · exact .inr ha
    · exact F.own _ hp' hsf
  · have : p.1 ∈ os.map (·.1) := by rw [← hu.map]; exact List.mem_map_of_mem hp
    refine ex1 (List.mem_map.mp this) ?_; intro q hJ
    refine and2 hJ ?_; clear hJ; intro hq e
    rw [← e]; exact F.low q hq
theorem nextOf_range_item {it : Addr} {x left step : Int} {Q : Value → Shared → Prop} (hit : IsRangeIter s.heap it x left step) (hleft : 0 < left)
    (hQ : ∀ h', IsRangeIter h' it (x + step) (left - 1) step → Heap.SameBut it s.heap h' → Q (.int x s.toks) { s with heap := h', toks := s.toks + 1 }) :
    wpAny (model pw w) A (Builtin.SmallTypes.nextOf (.ref it)) Q E s := by
  have hT : s.TypeIs (.ref it) "range_iterator" := ⟨_, hit, rfl⟩
  unfold Builtin.SmallTypes.nextOf
  refine wpAny_bind (wpAny_callSpecial?_slot (name := Str.ofString "__next__") hT PySem.F.slot_range_iterator_next
    (call_meets PySem.F.slot_range_iterator_next hT PySem.F.entry_range_iterator_next (PySem.F.args_range_iterator_next_1 _) (AutoRange.range_iterator___next___range_iterator_1 it x left step (Int.not_le_of_gt hleft)) ⟨hit, ?_⟩))
  exact wpAny_pure (hQ _ (Heap.get?_update_self _ (Heap.get?_update_self _ hit rfl) rfl) ((Heap.SameBut.update ..).trans (Heap.SameBut.update ..)))
theorem nextOf_range_end {it : Addr} {x left step : Int} {Q : Value → Shared → Prop} (hh : A.handled = none) (hit : IsRangeIter s.heap it x left step) (hleft : left ≤ 0)
    (hE : ∀ h' e, Heap.ExtBut it s.heap h' → (∃ o, h'.get? e = some o ∧ o.cls = .type "StopIteration") → E (.ref e) { s with heap := h' }) : wpAny (model pw w) A (Builtin.SmallTypes.nextOf (.ref it)) Q E s := by
  have hT : s.TypeIs (.ref it) "range_iterator" := ⟨_, hit, rfl⟩
  unfold Builtin.SmallTypes.nextOf
  refine wpAny_bind (wpAny_callSpecial?_slot (name := Str.ofString "__next__") hT PySem.F.slot_range_iterator_next
    (wpAny_call_entry PySem.F.slot_range_iterator_next hT PySem.F.entry_range_iterator_next ?_ (PySem.F.args_range_iterator_next_1 _)))
  show wpAny _ _ (field (.ref it) 0 >>= _) _ _ s
  refine wpAny_bind (wpAny_field hit rfl (x := rawInt x) rfl ?_)
  show wpAny _ _ (field (.ref it) 1 >>= _) _ _ s
  refine wpAny_bind (wpAny_field hit rfl (x := rawInt left) rfl ?_)
  show wpAny _ _ (field (.ref it) 2 >>= _) _ _ s
  refine wpAny_bind (wpAny_field hit rfl (x := rawInt step) rfl ?_)
  show wpAny _ _ (if left ≤ 0 then _ else _) _ _ s
  rw [if_pos hleft]
  refine wpAny_bind (wpAny_rule ?_)
  refine wpAny_bind ?_
  show wpAny _ _ (newExc (.type "StopIteration") [] >>= _) _ _ _
  refine wpAny_bind ?_
  simp only [newExc, newTuple]
  refine wpAny_bind (wpAny_newObj_type ?_ (by size_fits))
  refine wpAny_bind (m := firstArgMember _ _) (wpAny_of_eq (a := Value.none) (by first | rfl | (simp only [firstArgMember]; rfl)) ?_)
  refine wpAny_newObj_type ?_ (by size_fits)
  unfold raiseNew
  dsimp only
  refine wpAny_bind (wpAny_handled ?_)
  first | rw [show A.in1.handled = none from hh] | rw [hh]
  refine wpAny_bind (wpAny_pure (wpAny_throw ?_))
  exact hE _ _ (((Heap.ExtBut.refl it s.heap).push _).push _) ⟨_, Heap.get?_push_size _ rfl, rfl⟩

theorem bm_cons {α β : Type} {a : α} {as : List α} {b : β} {f : α → β → Sem (ForInStep β)} {Q : β → Shared → Prop} (h : wpAny (model pw w) A (f a b >>= fun r => match r with | .done b => pure b | .yield b => forIn as b f) Q E s) : wpAny (model pw w) A (forIn (a :: as) b f) Q E s := by rw [List.forIn_cons]; exact h
theorem nx_zip {z TI TO i1 it l : Addr} {a b : Value} {x left : Int} {k n : Nat} {ws : List Value} {v : Value} {p₀ p₁ p₂ : Addr × K} {Q : Option Value → Shared → Prop}
    (F : St g s₀ ms (p₀ :: p₁ :: p₂ :: (z, .raw (zipO TI TO .none)) :: (TO, .raw (pairO a b)) :: (TI, .raw (pairO (.ref i1) (.ref it))) :: (i1, .riter x left 1) :: (it, .liter l k) :: os) s)
    (hnp : NP (p₀ :: p₁ :: p₂ :: (z, .raw (zipO TI TO .none)) :: (TO, .raw (pairO a b)) :: (TI, .raw (pairO (.ref i1) (.ref it))) :: (i1, .riter x left 1) :: (it, .liter l k) :: os))
    (hz : s₀.heap.objs.size ≤ z) (hTO : s₀.heap.objs.size ≤ TO) (hl : Mem os l (.raw (listO ws n))) (hleft : 0 < left) (hv : ws[k]? = some v)
    (h : ∀ t T s', s₀.heap.objs.size ≤ T → St g s₀ ms (p₀ :: (T, .raw (pairO (.int x t) v)) :: p₁ :: p₂ :: (z, .raw (zipO TI TO (rawInt T))) :: (TO, .raw (pairO (.int x t) v)) :: (TI, .raw (pairO (.ref i1) (.ref it))) :: (i1, .riter (x + 1) (left - 1) 1) :: (it, .liter l (k + 1)) :: os) s' → Q (some (.ref T)) s') :
    Wp w A (pyNext (.ref z)) Q E s := by
  have hz0 : s.heap.get? z = some (zipO TI TO .none) := F.mem (.there (.there (.there .here)))
  have hT : s.TypeIs (.ref z) "zip" := ⟨_, hz0, rfl⟩
  refine .of ?_
  unfold pyNext
  refine wpAny_bind (wpAny_attempt (wpAny_callSpecial?_slot (name := Str.ofString "__next__") hT PySem.F.slot_zip_next (wpAny_call_entry PySem.F.slot_zip_next hT PySem.F.entry_zip_next ?_ (PySem.F.args_zip_next_1 _))))
  show wpAny _ _ (field (.ref z) 2 >>= _) _ _ _
  refine wpAny_bind (wpAny_field hz0 rfl (x := .bool false) rfl ?_)
  show wpAny _ _ (field (.ref z) 3 >>= _) _ _ _
  refine wpAny_bind (wpAny_field hz0 rfl (x := .ref TI) rfl ?_)
  have hTI : s.heap.get? TI = some (pairO (.ref i1) (.ref it)) := F.mem (.there (.there (.there (.there (.there .here)))))
  refine wpAny_bind (wpAny_seqItems hTI rfl ?_)
  show wpAny _ _ (Builtin.SmallTypes.ownedTupleIsFree (.ref z) >>= _) _ _ _
  refine wpAny_bind ?_
  unfold Builtin.SmallTypes.ownedTupleIsFree
  refine wpAny_bind (wpAny_field hz0 rfl (x := .none) rfl (wpAny_pure ?_))
  first | refine bm_if_true rfl ?_ | simp only [if_true]
  refine wpAny_bind (wpAny_rule ?_)
  refine wpAny_bind (wpAny_field hz0 rfl (x := .ref TO) rfl ?_)
  refine wpAny_bind (wpAny_setField_rec hz0 (by simp) fun h₁ hz₁ hs₁ => ?_)
  replace hz₁ : h₁.get? z = some (zipO TI TO .ellipsis) := hz₁
  have hu1 : Up (p₀ :: p₁ :: p₂ :: (z, .raw (zipO TI TO .none)) :: (TO, .raw (pairO a b)) :: (TI, .raw (pairO (.ref i1) (.ref it))) :: (i1, .riter x left 1) :: (it, .liter l k) :: os) z (.raw (zipO TI TO .none)) (.raw (zipO TI TO .ellipsis)) _ := .there (.there (.there .here))
  have F1 := F.updateR (s' := { s with heap := h₁ }) hu1 hs₁ hz₁ rfl rfl hz hnp
  have np1 := hnp.up hu1 trivial
  clear F hnp hu1
  refine wpAny_bind ?_
  refine bm_cons (a := (Value.ref i1, 0)) (as := [(Value.ref it, 1)]) ?_
  have step : ∀ {s1 s2 : Shared} {os1 os2 : Os} {c : Addr} {k k' : K}, St g s₀ ms os1 s1 → NP os1 → Up os1 c k k' os2 → s₀.heap.objs.size ≤ c → Heap.SameBut c s1.heap s2.heap → K.At s2.heap c k' → K.np k' → s2.os = s1.os → s2.gens = s1.gens → St g s₀ ms os2 s2 ∧ NP os2 :=
    fun F np hu hc hs hk hn ho hg => ⟨F.updateR hu hs hk ho hg hc np, np.up hu hn⟩
  refine wpAny_bind (wpAny_bind (wpAny_onRaise ?_))
  show wpAny _ _ (Builtin.SmallTypes.nextOf (.ref i1) >>= _) _ _ _
  have hi1 : IsRangeIter h₁ i1 x left 1 := F1.mem (.there (.there (.there (.there (.there (.there .here))))))
  refine wpAny_bind (nextOf_range_item hi1 hleft fun h₂ h1₂ hs₂ => wpAny_pure ?_)
  have F2 := F1.update (s' := { s with heap := h₂, toks := s.toks + 1 }) (k' := .riter (x + 1) (left - 1) 1) (.there (.there (.there (.there (.there (.there .here)))))) hs₂ h1₂ rfl rfl
  have np2 := np1.up (k' := .riter (x + 1) (left - 1) 1) (.there (.there (.there (.there (.there (.there (.here (k := .riter x left 1)))))))) trivial
  clear F1 np1
  have hTO₂ : h₂.get? TO = some (pairO a b) := F2.mem (.there (.there (.there (.there .here))))
  refine wpAny_bind (wpAny_seqItems hTO₂ rfl ?_)
  refine wpAny_bind (wpAny_updateSeq_pair hTO₂ fun h₃ hTO₃ hs₃ => ?_)
  replace hTO₃ : h₃.get? TO = some (pairO (.int x s.toks) b) := hTO₃
  refine and2 (step (s2 := { s with heap := h₃, toks := s.toks + 1 }) (k' := .raw (pairO (.int x s.toks) b)) F2 np2 (.there (.there (.there (.there .here)))) hTO hs₃ hTO₃ trivial rfl rfl) ?_; intro F3 np3
  clear F2 np2
  refine wpAny_bind (wpAny_letGo (wpAny_pure ?_))
  refine wpAny_bind (wpAny_bind (wpAny_onRaise ?_))
  show wpAny _ _ (Builtin.SmallTypes.nextOf (.ref it) >>= _) _ _ _
  have hit3 : h₃.IsListIter it l k := F3.mem (.there (.there (.there (.there (.there (.there (.there .here)))))))
  have hl3 : h₃.get? l = some (listO ws n) := F3.mem (.there (.there (.there (.there (.there (.there (.there (.there hl))))))))
  refine wpAny_bind (wpAny_nextOf_list_item hit3 (listO_is hl3) (x := v) (by simpa using hv) fun h₄ h2₄ hs₄ => wpAny_pure ?_)
  have F4 := F3.update (s' := { s with heap := h₄, toks := s.toks + 1 }) (k' := .liter l (k + 1)) (.there (.there (.there (.there (.there (.there (.there .here))))))) hs₄ h2₄ rfl rfl
  have np4 := np3.up (k' := .liter l (k + 1)) (.there (.there (.there (.there (.there (.there (.there (.here (k := .liter l k))))))))) trivial
  clear F3 np3
  have hTO₄ : h₄.get? TO = some (pairO (.int x s.toks) b) := F4.mem (.there (.there (.there (.there .here))))
  refine wpAny_bind (wpAny_seqItems hTO₄ rfl ?_)
  refine wpAny_bind (wpAny_updateSeq_pair hTO₄ fun h₅ hTO₅ hs₅ => ?_)
  replace hTO₅ : h₅.get? TO = some (pairO (.int x s.toks) v) := hTO₅
  refine and2 (step (s2 := { s with heap := h₅, toks := s.toks + 1 }) (k' := .raw (pairO (.int x s.toks) v)) F4 np4 (.there (.there (.there (.there .here)))) hTO hs₅ hTO₅ trivial rfl rfl) ?_; intro F5 np5
  clear F4 np4
  refine wpAny_bind (wpAny_letGo (wpAny_pure (wpAny_pure ?_)))
  refine wpAny_bind (wpAny_seqItems hTO₅ rfl ?_)
  refine wpAny_bind (wpAny_newTuple ?_)
  show wpAny _ _ (Builtin.SmallTypes.ownedTupleHandOut (.ref z) (.ref h₅.objs.size) >>= _) _ _ _
  have F6 := F5.freshH (h' := h₅.push (pairO (.int x s.toks) v)) (tk := s.toks + 1) (k := .raw (pairO (.int x s.toks) v)) (fun b o e => Heap.get?_push_of_some _ e) (Heap.get?_push_size _ rfl) (Nat.le_refl _)
  have np6 := np5.insert (a := h₅.objs.size) (k := .raw (pairO (.int x s.toks) v)) trivial
  have hTs := F5.aft.size
  clear F5 np5
  refine wpAny_bind ?_
  unfold Builtin.SmallTypes.ownedTupleHandOut
  have hz₆ : (h₅.push (pairO (.int x s.toks) v)).get? z = some (zipO TI TO .ellipsis) := F6.mem (.there (.there (.there (.there .here))))
  refine wpAny_bind (wpAny_setField_rec hz₆ (by simp) fun h₇ hz₇ hs₇ => ?_)
  replace hz₇ : h₇.get? z = some (zipO TI TO (rawInt h₅.objs.size)) := hz₇
  refine and2 (step (s2 := { s with heap := h₇, toks := s.toks + 1 }) (k' := .raw (zipO TI TO (rawInt h₅.objs.size))) F6 np6 (.there (.there (.there (.there .here)))) hz hs₇ hz₇ trivial rfl rfl) ?_; intro F7 np7
  clear F6 np6
  refine wpAny_setField_rec hz₇ (by simp) fun h₈ hz₈ hs₈ => ?_
  replace hz₈ : h₈.get? z = some (zipO TI TO (rawInt h₅.objs.size)) := hz₈
  refine and2 (step (s2 := { s with heap := h₈, toks := s.toks + 1 }) (k' := .raw (zipO TI TO (rawInt h₅.objs.size))) F7 np7 (.there (.there (.there (.there .here)))) hz hs₈ hz₈ trivial rfl rfl) ?_; intro F8 np8
  refine wpAny_pure ⟨_, rfl, wpAny_pure ?_⟩
  exact h s.toks h₅.objs.size _ hTs F8

theorem go_zip {elts : List Expr} {x1 : Nat} {pos : Pos} {z TI TO T : Addr} {p₀ p₁ p₂ p₃ : Addr × K} {Q : Unit → Shared → Prop}
    (F : St g s₀ ms (p₀ :: p₁ :: p₂ :: p₃ :: (z, .raw (zipO TI TO (rawInt T))) :: os) s) (hnp : NP (p₀ :: p₁ :: p₂ :: p₃ :: (z, .raw (zipO TI TO (rawInt T))) :: os)) (hz : s₀.heap.objs.size ≤ z)
    (h : ∀ s', St g s₀ ms (p₀ :: p₁ :: p₂ :: p₃ :: (z, .raw (zipO TI TO .none)) :: os) s' → Q () s') : Wp w A (letOwnedTupleGo (.Tuple elts x1 pos) (.ref z) (.ref T)) Q E s := by
  have hz0 : IsZip s.heap z TI TO (rawInt T) := F.mem (.there (.there (.there (.there .here))))
  exact .of (wpAny_letOwnedTupleGo_zip hz0 fun h' hz' hs' => h _ (F.updateR (s' := { s with heap := h' }) (k' := .raw (zipO TI TO .none)) (.there (.there (.there (.there .here)))) hs' hz' rfl rfl hz hnp))

/-- some things of one's own are forgotten -/
theorem St.endedW {kL : K} (W : List Addr) (F : St g s₀ ms os s) (hW : ∀ b ∈ W, s₀.heap.objs.size ≤ b) (hsub : ∀ p ∈ os', p ∈ os) (hnod : (os'.map (·.1)).Nodup) (hne : ∀ p ∈ os', p.1 ∉ W) (hnp : NP os') (hL : (L, kL) ∈ os') (hL0 : s₀.heap.objs.size ≤ L) (hx : ∀ b o, b ∉ W → s.heap.get? b = some o → s'.heap.get? b = some o) (ho : s'.os = s.os) (hg : s'.gens = s.gens) : St g s₀ ms os' s' := by
  refine ex1 ((F.at _ (hsub _ hL)).get) ?_; intro oL hJ
  refine and2 hJ ?_; clear hJ; intro hoL hU1
  have hLz := lt_sizeN (hx L oL (hne _ hL) hoL)
  have hbase : @LE.le Nat _ g.h₁.objs.size s₀.heap.objs.size := F.base
  have hL1 : @LE.le Nat _ s₀.heap.objs.size L := hL0
  have old : ∀ b, @LT.lt Nat _ b s₀.heap.objs.size → b ∉ W := fun b hb hm => by
    have : @LE.le Nat _ s₀.heap.objs.size b := hW b hm
    lia
  refine ⟨⟨F.inv.ok, fun b o' e hb => ?_, (Nat.le_trans hbase (Nat.le_trans hL1 (Nat.le_of_lt hLz))), ?_⟩, ⟨fun b o' e h1 h2 => ?_, fun b o' e hf => ?_, (Nat.le_trans hL1 (Nat.le_of_lt hLz)), ho.trans F.aft.os, fun h => hg ▸ F.aft.gens h⟩, fun p hp => ?_, hnod, fun p hp => F.own _ (hsub p hp), fun p hp => F.low _ (hsub p hp), F.base⟩
  · have hlt : @LT.lt Nat _ b g.h₁.objs.size := Heap.lt_size e
    exact hx b o' (old b (Nat.lt_of_lt_of_le hlt hbase)) (F.inv.ext b o' e hb)
  · refine ex1 F.inv.tab ?_; intro qs hJ
    refine and2 hJ ?_; clear hJ; intro hq hqt
    have hlt : @LT.lt Nat _ g.P g.h₁.objs.size := F.inv.P_lt
    exact ⟨qs, hx _ _ (old _ (Nat.lt_of_lt_of_le hlt hbase)) hq, hqt⟩
  · exact hx b o' (old b (Heap.lt_size e)) (F.aft.keep b o' e h1 h2)
  · exact hx b o' (old b (Heap.lt_size e)) (F.aft.frz b o' e hf)
  · exact (F.at p (hsub p hp)).moveN (fun o e => hx _ _ (hne p hp) e) (hnp.mem p hp)
theorem nodz {a b c z t u i k : Addr} {l : List Addr} (h : (a :: b :: c :: z :: t :: u :: i :: k :: l).Nodup) : i ≠ z ∧ (a :: b :: c :: k :: l).Nodup ∧ ∀ x, x ∈ a :: b :: c :: k :: l → x ∉ [z, i] := by
  have h0 := List.nodup_cons.mp h
  have h1 := List.nodup_cons.mp h0.2
  have h2 := List.nodup_cons.mp h1.2
  have h3 := List.nodup_cons.mp h2.2
  have h6 := List.nodup_cons.mp (List.nodup_cons.mp (List.nodup_cons.mp h3.2).2).2
  have two : ∀ {x : Addr}, x ≠ z → x ≠ i → x ∉ [z, i] := fun hz hi hm => by
    cases hm with
    | head => exact hz rfl
    | tail _ hm => cases hm with
      | head => exact hi rfl
      | tail _ hm => cases hm
  refine ⟨fun e => h3.1 (by rw [← e]; exact .tail _ (.tail _ (.head _))), h.sublist (.cons₂ _ (.cons₂ _ (.cons₂ _ (.cons _ (.cons _ (.cons _ (.cons _ (.refl _)))))))), fun x hx => ?_⟩
  cases hx with
  | head => exact two (fun e => h0.1 (by rw [e]; exact .tail _ (.tail _ (.head _)))) fun e => h0.1 (by rw [e]; exact .tail _ (.tail _ (.tail _ (.tail _ (.tail _ (.head _))))))
  | tail _ hx => cases hx with
    | head => exact two (fun e => h1.1 (by rw [e]; exact .tail _ (.head _))) fun e => h1.1 (by rw [e]; exact .tail _ (.tail _ (.tail _ (.tail _ (.head _)))))
    | tail _ hx => cases hx with
      | head => exact two (fun e => h2.1 (by rw [e]; exact .head _)) fun e => h2.1 (by rw [e]; exact .tail _ (.tail _ (.tail _ (.head _))))
      | tail _ hx => exact two (fun e => h3.1 (by rw [← e]; exact .tail _ (.tail _ (.tail _ hx)))) fun e => h6.1 (by rw [← e]; exact hx)
theorem nx_zip_end {z TI TO i1 it : Addr} {a b : Value} {x left : Int} {ki : K} {p₀ p₁ p₂ : Addr × K} {Q : Option Value → Shared → Prop} (hh : A.handled = none)
    (F : St g s₀ ms (p₀ :: p₁ :: p₂ :: (z, .raw (zipO TI TO .none)) :: (TO, .raw (pairO a b)) :: (TI, .raw (pairO (.ref i1) (.ref it))) :: (i1, .riter x left 1) :: (it, ki) :: os) s)
    (hnp : NP (p₀ :: p₁ :: p₂ :: (it, ki) :: os)) (hp0 : s₀.heap.objs.size ≤ p₀.1)
    (hz : s₀.heap.objs.size ≤ z) (hi : s₀.heap.objs.size ≤ i1) (hleft : left ≤ 0)
    (h : ∀ s', St g s₀ ms (p₀ :: p₁ :: p₂ :: (it, ki) :: os) s' → Q none s') :
    Wp w A (pyNext (.ref z)) Q E s := by
  have hz0 : s.heap.get? z = some (zipO TI TO .none) := F.mem (.there (.there (.there .here)))
  have hT : s.TypeIs (.ref z) "zip" := ⟨_, hz0, rfl⟩
  refine .of ?_
  unfold pyNext
  refine wpAny_bind (wpAny_attempt (wpAny_callSpecial?_slot (name := Str.ofString "__next__") hT PySem.F.slot_zip_next (wpAny_call_entry PySem.F.slot_zip_next hT PySem.F.entry_zip_next ?_ (PySem.F.args_zip_next_1 _))))
  show wpAny _ _ (field (.ref z) 2 >>= _) _ _ _
  refine wpAny_bind (wpAny_field hz0 rfl (x := .bool false) rfl ?_)
  show wpAny _ _ (field (.ref z) 3 >>= _) _ _ _
  refine wpAny_bind (wpAny_field hz0 rfl (x := .ref TI) rfl ?_)
  have hTI : s.heap.get? TI = some (pairO (.ref i1) (.ref it)) := F.mem (.there (.there (.there (.there (.there .here)))))
  refine wpAny_bind (wpAny_seqItems hTI rfl ?_)
  show wpAny _ _ (Builtin.SmallTypes.ownedTupleIsFree (.ref z) >>= _) _ _ _
  refine wpAny_bind ?_
  unfold Builtin.SmallTypes.ownedTupleIsFree
  refine wpAny_bind (wpAny_field hz0 rfl (x := .none) rfl (wpAny_pure ?_))
  first | refine bm_if_true rfl ?_ | simp only [if_true]
  refine wpAny_bind (wpAny_rule ?_)
  refine wpAny_bind (wpAny_field hz0 rfl (x := .ref TO) rfl ?_)
  refine wpAny_bind (wpAny_setField_rec hz0 (by simp) fun h₁ hz₁ hs₁ => ?_)
  replace hz₁ : h₁.get? z = some (zipO TI TO .ellipsis) := hz₁
  refine wpAny_bind ?_
  refine bm_cons (a := (Value.ref i1, 0)) (as := [(Value.ref it, 1)]) ?_
  refine wpAny_bind (wpAny_bind (wpAny_onRaise ?_))
  show wpAny _ _ (Builtin.SmallTypes.nextOf (.ref i1) >>= _) _ _ _
  refine and3 (nodz F.nod) ?_; intro hzi hn1 hn2
  have hi1 : IsRangeIter h₁ i1 x left 1 := by
    have : s.heap.get? i1 = some _ := F.mem (.there (.there (.there (.there (.there (.there .here))))))
    exact hs₁.extBut _ _ hzi this
  refine wpAny_bind (nextOf_range_end hh hi1 hleft fun h₂ e hs₂ he => ?_)
  refine ex1 he ?_; (try clear he); intro oe hJ
  refine and2 hJ ?_; clear hJ; intro hoe hce
  have hz₂ : h₂.get? z = some (zipO TI TO .ellipsis) := hs₂ _ _ hzi.symm hz₁
  have hez : e ≠ z := fun x => by subst x; rw [hz₂] at hoe; cases hoe; simp [zipO] at hce
  refine wpAny_setField_rec hz₂ (by simp) fun h₃ _ hs₃ => ?_
  refine wpAny_bind (wpAny_isInstance (T := "StopIteration") (b := true) ⟨oe, hs₃.extBut _ _ hez hoe, hce⟩ isSubtype_stop ?_)
  have hx : ∀ b o, b ∉ [z, i1] → s.heap.get? b = some o → h₃.get? b = some o := fun b o hb e => by
    simp only [List.mem_cons, List.not_mem_nil, or_false, not_or] at hb
    exact hs₃.extBut _ _ hb.1 (hs₂ _ _ hb.2 (hs₁.extBut _ _ hb.1 e))
  refine wpAny_pure (h _ (F.endedW (s' := { s with heap := h₃ }) [z, i1] (fun b hb => ?_) (fun p hp => ?_) ?_ (fun p hp => ?_) hnp (L := p₀.1) (kL := p₀.2) (.head _) hp0 hx rfl rfl))
  · simp only [List.mem_cons, List.not_mem_nil, or_false] at hb
    rcases hb with rfl | rfl
    · exact hz
    · exact hi
  · simp only [List.mem_cons] at hp ⊢
    rcases hp with h | h | h | h | h
    · exact .inl h
    · exact .inr (.inl h)
    · exact .inr (.inr (.inl h))
    · exact .inr (.inr (.inr (.inr (.inr (.inr (.inr (.inl h)))))))
    · exact .inr (.inr (.inr (.inr (.inr (.inr (.inr (.inr h)))))))
  · exact hn1
  · exact hn2 _ (List.mem_map_of_mem (f := (·.1)) hp)
end
end
/-! MX15 -/
section
set_option hygiene false
section
variable {w : World} {A : Around} {E : Value → Shared → Prop} {g : Gd} {s₀ s s' : Shared} {ms : List Addr} {os os' : Os} {env : Env} {L : Addr} {nl : List Str} {vs vs' : List (Option Value)}
/-- the receiver's side of a method's call -/
noncomputable def Rcv (name : Str) (ov : Value) (id : String) (s : Shared) : Prop :=
  ∃ T, PlainAttrs T ∧ Slot T name id ∧ typeOf (.builtin id) = pure (.type "method_descriptor") ∧ s.TypeIs ov T ∧ (∀ a, ov = .ref a → ∃ ob, s.heap.get? a = some ob ∧ ob.dict = none)
theorem cw_met {pos : Pos} {id : String} {first : List Value} {args : List (Bool × Sem Value)} {Q : Value → Shared → Prop} (hplain : args.any (·.1) = false)
    (h : Wp w A (spliced args) (fun us s₁ => Wp w A (call (.builtin id) (first ++ us)) Q E s₁) E s) : Wp w A (callWith pos (.builtin id) first args []) Q E s := by
  unfold callWith
  refine Wp.bind (Wp.holding ?_)
  have he : Wp w A (evalArgs (.builtin id) true args []) (fun a s₁ => a.kw = [] ∧ Wp w A (call (.builtin id) (first ++ a.pos)) Q E s₁) E s := by
    cases args with
    | nil =>
      have h' : Wp w A (spliced []) (fun us s₁ => Wp w A (call (.builtin id) (first ++ us)) Q E s₁) E s := h
      unfold evalArgs
      show Wp w A (spliced [] >>= _) _ E s
      exact Wp.bind (h'.imp fun us s₁ h₁ => Wp.holding (Wp.bind (Wp.pure (Wp.bind (Wp.pure (Wp.pure ⟨rfl, h₁⟩))))))
    | cons a rest =>
      obtain ⟨b, x⟩ := a
      have hb : b = false := by
        simp only [List.any_cons, Bool.or_eq_false_iff] at hplain
        exact hplain.1
      subst hb
      exact ev_plain (h.imp fun us s₁ h₁ => ⟨rfl, h₁⟩)
  refine he.imp fun a s₁ h₁ => Wp.bind (Wp.standAt ?_)
  obtain ⟨ap, akw⟩ := a
  obtain ⟨hkw, hq⟩ := h₁
  dsimp only at hkw hq ⊢
  subst hkw
  rw [hplain]
  exact Wp.bind (m := keeperOf _) (Wp.pure (Wp.bind (hq.imp fun r s₂ hr => Wp.bind (Wp.holding (.of (wpAny_point (Wp.pure hr)))))))
theorem e_met {o : Expr} {name : Str} {apos pos : Pos} {args : List Expr} {Q : Value → Shared → Prop}
    (hbase : attributeBase o name env (eval o env) = eval o env)
    (hfew : ((backTo pos (starEach args env)).all (fun x => !x.1) && (backToKw pos (keywordEach [] env)).all (fun x => x.1.isSome)
      && decide (args.length + ([] : List Keyword).length + (if ([] : List Keyword).isEmpty then 0 else 1) < 30)) = true)
    (hplain : (backTo pos (starEach args env)).any (·.1) = false)
    (hline : (apos.endLine == pos.line) = true)
    (h : Wp w A (eval o env) (fun ov s₁ => ∃ id, Rcv name ov id s₁ ∧ Wp w A (spliced (backTo pos (starEach args env))) (fun us s₂ => Wp w A (call (.builtin id) (ov :: us)) Q E s₂) E s₁) E s) :
    Wp w A (eval (.Call (.Attribute o name apos) args [] pos) env) Q E s := by
  rw [arm_eval_Call, hbase]
  refine Wp.bind (h.imp fun ov s₁ h₁ => ?_)
  obtain ⟨id, ⟨T, pa, slot, hty, hT, hd⟩, hc⟩ := h₁
  have hcw := cw_met (pos := pos) (first := [ov]) hplain hc
  refine Wp.bind (Wp.standAt ?_)
  have hform : methodCallForm (args.length + ([] : List Keyword).length) (backTo pos (starEach args env)) (backToKw pos (keywordEach [] env)) = true := hfew
  have hpos : methodCallPos true o env apos pos = pure pos := by unfold methodCallPos; simp [hline]
  unfold methodCall
  rw [hform]
  refine Wp.bind (Wp.holding (.of (getMethod_builtin hT pa slot hty hd ?_)))
  exact Wp.bind (Wp.val hpos hcw)
theorem e_met0 {o : Expr} {name : Str} {apos pos : Pos} {Q : Value → Shared → Prop} (h : Wp w A (eval o env) (fun ov s₁ => ∃ id, Rcv name ov id s₁ ∧ Wp w A (call (.builtin id) [ov]) Q E s₁) E s)
    (hbase : autoParam (attributeBase o name env (eval o env) = eval o env) tRfl) (hline : autoParam ((apos.endLine == pos.line) = true) tRfl) : Wp w A (eval (.Call (.Attribute o name apos) [] [] pos) env) Q E s :=
  e_met hbase rfl rfl hline (h.imp fun ov s₁ h₁ => let ⟨id, hr, hc⟩ := h₁; ⟨id, hr, Wp.pure hc⟩)
theorem e_met1 {o a : Expr} {name : Str} {apos pos : Pos} {Q : Value → Shared → Prop} (h : Wp w A (eval o env) (fun ov s₁ => ∃ id, Rcv name ov id s₁ ∧ Wp w A (eval a env) (fun v s₂ => Wp w A (call (.builtin id) [ov, v]) Q E s₂) E s₁) E s)
    (hbase : autoParam (attributeBase o name env (eval o env) = eval o env) tRfl) (hs : autoParam (backTo pos (starEach [a] env) = [(false, eval a env)]) tRfl) (hline : autoParam ((apos.endLine == pos.line) = true) tRfl) : Wp w A (eval (.Call (.Attribute o name apos) [a] [] pos) env) Q E s :=
  e_met hbase (by rw [hs]; rfl) (by rw [hs]; rfl) hline (h.imp fun ov s₁ h₁ => let ⟨id, hr, hc⟩ := h₁; ⟨id, hr, by rw [hs]; exact ev_cons (hc.imp fun v s₂ h₂ => ev_nil h₂)⟩)
theorem e_met2 {o a b : Expr} {name : Str} {apos pos : Pos} {Q : Value → Shared → Prop} (h : Wp w A (eval o env) (fun ov s₁ => ∃ id, Rcv name ov id s₁ ∧ Wp w A (eval a env) (fun v s₂ => Wp w A (eval b env) (fun v2 s₃ => Wp w A (call (.builtin id) [ov, v, v2]) Q E s₃) E s₂) E s₁) E s)
    (hbase : autoParam (attributeBase o name env (eval o env) = eval o env) tRfl) (hs : autoParam (backTo pos (starEach [a, b] env) = [(false, eval a env), (false, eval b env)]) tRfl) (hline : autoParam ((apos.endLine == pos.line) = true) tRfl) : Wp w A (eval (.Call (.Attribute o name apos) [a, b] [] pos) env) Q E s :=
  e_met hbase (by rw [hs]; rfl) (by rw [hs]; rfl) hline (h.imp fun ov s₁ h₁ => let ⟨id, hr, hc⟩ := h₁; ⟨id, hr, by rw [hs]; exact ev_cons (hc.imp fun v s₂ h₂ => ev_cons (h₂.imp fun v2 s₃ h₃ => ev_nil h₃))⟩)
theorem e_met3 {o a b c : Expr} {name : Str} {apos pos : Pos} {Q : Value → Shared → Prop} (h : Wp w A (eval o env) (fun ov s₁ => ∃ id, Rcv name ov id s₁ ∧ Wp w A (eval a env) (fun v s₂ => Wp w A (eval b env) (fun v2 s₃ => Wp w A (eval c env) (fun v3 s₄ => Wp w A (call (.builtin id) [ov, v, v2, v3]) Q E s₄) E s₃) E s₂) E s₁) E s)
    (hbase : autoParam (attributeBase o name env (eval o env) = eval o env) tRfl) (hs : autoParam (backTo pos (starEach [a, b, c] env) = [(false, eval a env), (false, eval b env), (false, eval c env)]) tRfl) (hline : autoParam ((apos.endLine == pos.line) = true) tRfl) : Wp w A (eval (.Call (.Attribute o name apos) [a, b, c] [] pos) env) Q E s :=
  e_met hbase (by rw [hs]; rfl) (by rw [hs]; rfl) hline (h.imp fun ov s₁ h₁ => let ⟨id, hr, hc⟩ := h₁; ⟨id, hr, by rw [hs]; exact ev_cons (hc.imp fun v s₂ h₂ => ev_cons (h₂.imp fun v2 s₃ h₃ => ev_cons (h₃.imp fun v3 s₄ h₄ => ev_nil h₄)))⟩)
/-- receivers -/
theorem rcv_list {l : Addr} {us : List Value} {n : Nat} {name : Str} {id : String} (ho : s.heap.get? l = some (listO us n)) (slot : Slot "list" name id) (hty : typeOf (.builtin id) = pure (.type "method_descriptor")) : Rcv name (.ref l) id s :=
  ⟨"list", PySem.F.plainAttrs_list, slot, hty, ⟨_, ho, rfl⟩, fun a e => by cases e; exact ⟨_, ho, rfl⟩⟩
theorem rcv_str {x : Str} {t : Tok} {name : Str} {id : String} (slot : Slot "str" name id) (hty : typeOf (.builtin id) = pure (.type "method_descriptor")) : Rcv name (.str x t) id s :=
  ⟨"str", PySem.F.plainAttrs_str, slot, hty, rfl, fun a e => by cases e⟩

/-! taking a tuple of two apart -/
theorem a_pair {x y : Str} {p1 p2 pos : Pos} {k : Nat} {t : Addr} {a b : Value} {n : Nat} {p₀ : Addr × K} {Q : Unit → Shared → Prop} (F : St g s₀ ms (p₀ :: os) s) (hh : A.handled = none) (hL0 : s₀.heap.objs.size ≤ p₀.1) (ht : s.heap.get? t = some { cls := .type "tuple", data := .seq #[a, b] n })
    (h : ∀ s', St g s₀ ms (p₀ :: os) s' → Wp w A (storeName env x a) (fun _ s₁ => Wp w A (storeName env y b) Q E s₁) E s') : Wp w A (assign (.Tuple [.Name x p1, .Name y p2] k pos) env (.ref t)) Q E s := by
  rw [arm_assign_Tuple]
  refine Wp.bind (Wp.standAt ?_)
  show Wp w A (unpack (.ref t) [(false, assign (.Name x p1) env), (false, assign (.Name y p2) env)]) Q E s
  unfold unpack
  refine Wp.bind (Wp.holding (.of (unpackItems_tuple (items := #[a, b]) hh ⟨_, ht, rfl, n, rfl⟩ fun h' he => ?_)))
  have hk : ∀ c o, s.heap.get? c = some o → h'.get? c = some o := fun c o e => he c o (Nat.ne_of_lt (Heap.lt_size e)) e
  have F' := F.kept (s' := { s with heap := h' }) (L := p₀.1) (kL := p₀.2) (.head _) hL0 hk rfl rfl
  show Wp w A (do holding [b] (assign (.Name x p1) env a); do holding [] (assign (.Name y p2) env b); pure ()) Q E _
  refine Wp.bind (Wp.holding (x_name ((h _ F').imp fun _ s₁ h₁ => ?_)))
  exact Wp.bind (Wp.holding (x_name (h₁.imp fun _ s₂ h₂ => Wp.pure h₂)))
theorem x_astup {x y : Str} {p1 p2 tpos pos : Pos} {k : Nat} {value : Expr} {rest : List Stmt} {Q : Flow → Shared → Prop}
    (h : Wp w A (eval value env) (fun v s₁ => Wp w A (assign (.Tuple [.Name x p1, .Name y p2] k tpos) env v) (fun _ s₂ => Wp w A (execs rest env) Q E s₂) E s₁) E s)
    (hs : autoParam (swapsWithSole [.Tuple [.Name x p1, .Name y p2] k tpos] value pos.line env = pure false) tRfl)
    (hw : autoParam (swappedStores [.Tuple [.Name x p1, .Name y p2] k tpos] value env = pure none) tRfl) :
    Wp w A (execs (.Assign [.Tuple [.Name x p1, .Name y p2] k tpos] value pos :: rest) env) Q E s := by
  rw [execs_cons, exec_Assign]
  refine Wp.bind (Wp.bind (Wp.standAt ?_))
  rw [hs]
  refine Wp.bind (Wp.pure ?_)
  rw [if_neg (by decide)]
  refine Wp.bind (h.imp fun v s₁ h₁ => ?_)
  rw [hw]
  refine Wp.bind (Wp.pure ?_)
  show Wp w A (assignAll v [assign (.Tuple [.Name x p1, .Name y p2] k tpos) env] >>= fun _ => (pure Flow.next : Sem Flow)) _ E s₁
  exact Wp.bind (h₁.imp fun _ s₂ h₂ => Wp.pure h₂)
/-- a call with one argument and names given -/
theorem e_callk {f : Str} {p pos : Pos} {e1 : Expr} {kws : List Keyword} {Q : Value → Shared → Prop} (hk : (backToKw pos (keywordEach kws env)).any (·.1.isNone) = false) (hs : backTo pos (starEach [e1] env) = [(false, eval e1 env)]) (hall : (backToKw pos (keywordEach kws env)).all (·.1.isSome) = true)
    (h : Wp w A (eval (.Name f p) env) (fun fv s₁ => ∃ id, (fv = .builtin id ∨ fv = .type id) ∧ Wp w A (eval e1 env) (fun v1 s₂ => Wp w A (evalAll ((backToKw pos (keywordEach kws env)).map (·.2))) (fun kvs s₃ => Wp w A (call fv [v1] (((backToKw pos (keywordEach kws env)).filterMap (·.1)).zip kvs)) Q E s₃) E s₂) E s₁) E s) :
    Wp w A (eval (.Call (.Name f p) [e1] kws pos) env) Q E s := by
  show Wp w A (do callWith pos (← eval (.Name f p) env) [] (backTo pos (starEach [e1] env)) (backToKw pos (keywordEach kws env))) Q E s
  rw [hs]
  refine Wp.bind (h.imp fun fv s₁ h₁ => ?_)
  obtain ⟨id, hf, h₁⟩ := h₁
  refine cw_kw hf rfl hk ?_
  unfold evalArgs
  show Wp w A (spliced ((false, eval e1 env) :: []) >>= _) _ E s₁
  refine Wp.bind (ev_cons (h₁.imp fun v1 s₂ h₂ => ev_nil ?_))
  refine Wp.holding ?_
  rw [if_pos hall]
  exact Wp.bind (h₂.imp fun kvs s₃ h₃ => Wp.bind (Wp.pure (Wp.pure h₃)))
end
end
/-! MX16 -/
section
set_option hygiene false
theorem entry_iterB : entryFor table "iter" = some Builtin.«iter» := by first | exact entryFor_of_fast (by kernel_rfl) | exact entryFor_of_tree (by kernel_rfl)
theorem kind_iterB : builtinKind "iter" = none := by decide +kernel
theorem plain_iterB : plainId "iter" = true := by decide +kernel
theorem args_iterB (a : Value) : argsOk "iter" ⟨[a], []⟩ := by unfold argsOk; kernel_rfl
section
variable {w : World} {A : Around} {E : Value → Shared → Prop} {g : Gd} {s₀ s s' : Shared} {ms : List Addr} {os os' : Os} {env : Env} {L : Addr} {nl : List Str} {vs vs' : List (Option Value)}
theorem k_iter {x : Value} {Q : Value → Shared → Prop} (h : Wp w A.in1 (pyIter x) (fun it s' => Q it s') NoE s) : Wp w A (call (.builtin "iter") [x]) Q E s := by
  refine wp_callF kind_iterB plain_iterB entry_iterB (args_iterB _) rfl ?_
  show Wp w A.in1 (pyIter x >>= fun it => ret it) _ _ s
  exact Wp.bind (h.imp fun it s' h' => Wp.pure ⟨_, rfl, h'⟩)
theorem it_list {l : Addr} {us : List Value} {n : Nat} {Q : Value → Shared → Prop} {p₀ : Addr × K} (F : St g s₀ ms (p₀ :: os) s) (ho : s.heap.get? l = some (listO us n)) (h : ∀ it s', s₀.heap.objs.size ≤ it → St g s₀ ms (p₀ :: (it, .liter l 0) :: os) s' → Q (.ref it) s') : Wp w A (pyIter (.ref l)) Q E s :=
  .of (wpAny_pyIter_list (listO_is ho) (h _ _ F.aft.size (F.pushB rfl ⟨_, Heap.get?_push_size _ rfl, rfl, rfl⟩ rfl rfl)))
theorem it_liter {it l : Addr} {i : Nat} {Q : Value → Shared → Prop} (F : St g s₀ ms os s) (hm : Mem os it (.liter l i)) (h : Q (.ref it) s) : Wp w A (pyIter (.ref it)) Q E s := by
  have hit : s.heap.IsListIter it l i := F.mem hm
  exact .of (wpAny_pyIter_listiter hit h)
theorem c_ge {a b : Int} {t u : Tok} {Q : Bool → Shared → Prop} (h : Q (decide (b ≤ a)) s) : Wp w A (compareOp .GtE (.int a t) (.int b u)) (fun c s₃ => Wp w A (truthy c) Q E s₃) E s := .of (PyProof.Rows.ge_int (.of (wpAny_truthy_bool h)))
theorem c_ne {a b : Int} {t u : Tok} {Q : Bool → Shared → Prop} (h : Q (a != b) s) : Wp w A (compareOp .NotEq (.int a t) (.int b u)) (fun c s₃ => Wp w A (truthy c) Q E s₃) E s := .of (PyProof.Rows.ne_int (.of (wpAny_truthy_bool h)))
theorem tr_list {l : Addr} {us : List Value} {n : Nat} {Q : Bool → Shared → Prop} (F : St g s₀ ms os s) (ho : s.heap.get? l = some (listO us n)) (hz : us.length ≤ 1000) (h : ∀ s', St g s₀ ms os s' → Q (decide (us ≠ [])) s') : Wp w A (truthy (.ref l)) Q E s := by
  refine .of (wpAny_truthy_list (listO_is ho) (by rw [List.size_toArray]; lia) ?_)
  have e : (!us.toArray.isEmpty) = decide (us ≠ []) := by cases us <;> simp
  rw [e]
  exact h _ (F.tick _)
theorem sub_tup {t : Addr} {us : List Value} {n : Nat} {k : Nat} {u : Tok} {v : Value} {Q : Value → Shared → Prop} (ho : s.heap.get? t = some (tupO us n)) (hk : k < us.length) (hz : us.length ≤ 1000) (hv : us[k]? = some v) (h : Q v s) : SubOn w A (.ref t) (.int k u) Q E s := by
  have ht : IsTup s.heap t us.toArray := ⟨_, ho, rfl, n, rfl⟩
  refine ⟨"tuple", "tuple.__getitem__", PySem.F.slot_tuple_getitem.lookup, ⟨_, ho, rfl⟩, .of (PyProof.Rows.getItem_tuple (j := k) ht (by lia) (by lia) ?_ (by simpa using hv) h)⟩
  unfold seqIndex?
  have h1 : ¬ (k : Int) < 0 := (i_nlt (Nat.le_add_left 0 k))
  have h2 : (decide (0 ≤ (k : Int)) && decide ((k : Int) < (us.toArray.size : Int))) = true := by simp; exact hk
  simp only [h1, if_false, h2, if_true, Int.toNat_natCast]
theorem app_tree {D : Addr} {us : List Value} {x : Value} {Q : Value → Shared → Prop} (F : St g s₀ ms os s) (hu : Up os D (.list us) (.list (us ++ [x])) os') (hz : us.length ≤ 1000) (h : ∀ s', St g s₀ ms os' s' → Q .none s') : wpAny (model pw w) A (Builtin.«list.append» ⟨[.ref D, x], []⟩) (fun fin s' => ∃ v, fin = .done (.ret v) ∧ Q v s') E s := by
  obtain ⟨n, ho⟩ := F.at _ hu.mem
  show wpAny _ _ (updateSeq D (·.push x) >>= fun _ => ret .none) _ _ s
  refine wpAny_bind ?_
  have hget : ∃ n', (s.heap.update D (Obj.mapSeq (·.push x))).get? D = some (listO (us ++ [x]) n') := by
    obtain ⟨n', hd⟩ := Obj.data_mapSeq (o := listO us n) rfl (·.push x)
    refine ⟨n', ?_⟩
    rw [Heap.get?_update_self _ ho (Obj.isFreed_of_seq hd)]
    have e : us.toArray.push x = (us ++ [x]).toArray := by simp
    rw [e] at hd
    congr 1
    have h1 : ((listO us n).mapSeq (·.push x)).cls = .type "list" := Obj.cls_mapSeq _ _
    have h2 : ((listO us n).mapSeq (·.push x)).dict = none := rfl
    have h3 : ((listO us n).mapSeq (·.push x)).slots = #[] := rfl
    revert h1 h2 h3 hd
    generalize (listO us n).mapSeq (·.push x) = o
    obtain ⟨c, d, dt, sl⟩ := o
    rintro rfl rfl rfl rfl
    rfl
  refine wpAny_updateSeq ho rfl (wpAny_pure ⟨.none, rfl, h _ (F.update (s' := { s with heap := _ }) hu (Heap.SameBut.update ..) hget rfl rfl)⟩) ?_ ?_
  · show us.toArray.size ≤ 2 ^ 24; rw [List.size_toArray]; exact Nat.le_trans hz (lb rfl)
  · show (us.toArray.push x).size ≤ 2 ^ 24 + 1; rw [Array.size_push, List.size_toArray]; exact Nat.add_le_add_right (Nat.le_trans hz (lb rfl)) 1
theorem app_list {D : Addr} {us : List Value} {x : Value} {Q : Value → Shared → Prop} (F : St g s₀ ms os s) (hu : Up os D (.list us) (.list (us ++ [x])) os') (hz : us.length ≤ 1000) (h : ∀ s', St g s₀ ms os' s' → Q .none s') : Wp w A (call (.builtin "list.append") [.ref D, x]) Q E s := by
  obtain ⟨n, ho⟩ := (F.at _ hu.mem : K.At s.heap D (.list us))
  exact .of (wpAny_call_entry slot_list_append ⟨_, ho, rfl⟩ entry_list_append (app_tree F hu hz h) (args_list_append _ _))
/-- a default's tuple -/
theorem bind_ns {n : Int} {t : Tok} {l : Addr} (I : Iv g s) : Wp w A (bindArgs (g.fd 21 (.ref g.dd)) ⟨[.int n t, .ref l], []⟩) (fun b s' => b = [(("n" : Str), Value.int n t), (("iterable" : Str), .ref l), (("key" : Str), Value.none)] ∧ s' = s) NoE s := by
  obtain ⟨m, hd⟩ := I.ok.nst
  have hd' := I.get hd (by nofun)
  show Wp w A (seqItems? (.ref g.dd) >>= _) _ _ s
  refine Wp.bind (.of (wpAny_seqItems hd' rfl ?_))
  exact Wp.val (a := [(("n" : Str), Value.int n t), (("iterable" : Str), .ref l), (("key" : Str), Value.none)]) (by first | rfl | kernel_rfl) ⟨rfl, rfl⟩
end
end
/-! MX17 -/
section
set_option hygiene false
theorem type_list_sort : typeOf (.builtin "list.sort") = pure (.type "method_descriptor") := by show builtinType _ = _; rw [builtinType_eq_fast]; kernel_rfl
section
variable {w : World} {A : Around} {E : Value → Shared → Prop} {g : Gd} {s₀ s s' : Shared} {ms : List Addr} {os os' : Os} {env : Env} {L : Addr} {nl : List Str} {vs vs' : List (Option Value)}
theorem St.perm (F : St g s₀ ms os s) (h : os'.Perm os) : St g s₀ ms os' s :=
  F.sub (fun p hp => h.mem_iff.mp hp) ((h.map (·.1)).nodup_iff.mpr F.nod)
theorem ev_kw1 {k1 : Str} {a : Expr} {p1 pos : Pos} {Q : List Value → Shared → Prop} (h : Wp w A (eval a env) (fun v s₁ => Q [v] s₁) E s) : Wp w A (evalAll ((backToKw pos (keywordEach [⟨some k1, a, p1⟩] env)).map (·.2))) Q E s := by
  show Wp w A (evalAll [(do let v ← eval a env; standAt pos; pure v)]) Q E s
  unfold evalAll
  refine Wp.bind (Wp.bind (h.imp fun v s₁ h₁ => Wp.bind (Wp.standAt (Wp.pure (Wp.bind (Wp.holding ?_))))))
  exact Wp.pure (Wp.pure h₁)
theorem ev_kw2 {k1 k2 : Str} {a b : Expr} {p1 p2 pos : Pos} {Q : List Value → Shared → Prop} (h : Wp w A (eval a env) (fun v s₁ => Wp w A (eval b env) (fun v2 s₂ => Q [v, v2] s₂) E s₁) E s) : Wp w A (evalAll ((backToKw pos (keywordEach [⟨some k1, a, p1⟩, ⟨some k2, b, p2⟩] env)).map (·.2))) Q E s := by
  show Wp w A (evalAll [(do let v ← eval a env; standAt pos; pure v), (do let v ← eval b env; standAt pos; pure v)]) Q E s
  unfold evalAll
  refine Wp.bind (Wp.bind (h.imp fun v s₁ h₁ => Wp.bind (Wp.standAt (Wp.pure (Wp.bind (Wp.holding ?_))))))
  refine Wp.imp (ev_kw1 (k1 := k2) (p1 := p2) (pos := pos) (Q := fun us s' => us ≠ [] ∧ Q (v :: us) s') (h₁.imp fun v2 s₂ h₂ => ⟨by simp, h₂⟩)) fun us s' hu => Wp.pure hu.2
theorem it_zip {z TI TO : Addr} {f0 : Value} {Q : Value → Shared → Prop} (F : St g s₀ ms os s) (hm : Mem os z (.raw (zipO TI TO f0))) (h : Q (.ref z) s) : Wp w A (pyIter (.ref z)) Q E s := by
  have hz : IsZip s.heap z TI TO f0 := F.mem hm
  exact .of (wpAny_pyIter_zip hz h)
/-- tuples of two ints, newest first -/
inductive TL : Os → List Value → List (Int × Int) → Prop
  | nil : TL [] [] []
  | snoc {T us ps b p t u n} : TL T us ps → TL ((b, .raw (tupO [.int p.1 t, .int p.2 u] n)) :: T) (us ++ [.ref b]) (ps ++ [p])
theorem TL.np {T us ps} (h : TL T us ps) : NP T := by
  induction h with
  | nil => exact .nil
  | snoc _ ih => exact .cons trivial ih
theorem Pairs.snoc {h : Heap} {us : List Value} {ps : List (Int × Int)} (x : Pairs h us ps) {b : Addr} {p : Int × Int} {t u : Tok} {n : Nat} (ho : h.get? b = some (tupO [.int p.1 t, .int p.2 u] n)) : Pairs h (us ++ [.ref b]) (ps ++ [p]) := by
  induction x with
  | nil => exact .cons ho .nil
  | cons e _ ih => exact .cons e ih
theorem TL.pairs {T us ps} {h : Heap} (x : TL T us ps) : (∀ q ∈ T, K.At h q.1 q.2) → Pairs h us ps := by
  induction x with
  | nil => intro _; exact .nil
  | snoc _ ih => intro ha; exact (ih fun q hq => ha q (.tail _ hq)).snoc (ha _ (.head _))
theorem TL.len {T us ps} (h : TL T us ps) : us.length = ps.length := by
  induction h with
  | nil => rfl
  | snoc _ ih => simp [ih]
theorem e_intH {i : Int} {k : Nat} {pos : Pos} {Q : Value → Shared → Prop} (h : ∀ t tk, Q (.int i t) { s with toks := tk }) : Wp w A (eval (.Constant (.int i) k pos) env) Q E s := .of (wpAny_Constant_int (h _ _))
theorem sub_prs {l : Addr} {k : Nat} {u : Tok} {ps : List (Int × Int)} {Q : Value → Shared → Prop} (F : St g s₀ ms os s) (hm : Mem os l (.pairs ps)) (hk : k < ps.length) (hz : ps.length ≤ 1000) (h : ∀ v, Tup2 s.heap v (gP ps k) → Q v s) : SubOn w A (.ref l) (.int k u) Q E s := by
  refine ex2 (F.mem hm) ?_; intro us n hJ
  refine and2 hJ ?_; clear hJ; intro ho hp
  refine ex1 (hp.get hk) ?_; intro v hJ
  refine and2 hJ ?_; clear hJ; intro hv ht
  exact sub_list ho (Int.natCast_nonneg k) (by rw [hp.length]; exact Nat.le_trans hz (lb rfl)) (by rw [Int.toNat_natCast]; exact hv) (h v ht)
theorem sub_tup2 {v : Value} {p : Int × Int} {u : Tok} {Q : Value → Shared → Prop} (ht : Tup2 s.heap v p) (h : ∀ t, Q (.int p.1 t) s) : SubOn w A v (.int 0 u) Q E s := by
  refine ex4 ht ?_; (try clear ht); intro b t u2 n hJ
  refine and2 hJ ?_; clear hJ; intro hR1 ho
  subst hR1
  exact sub_tup (k := 0) ho (by simp) (by simp) rfl (h t)
theorem tr_pairs {l : Addr} {ps : List (Int × Int)} {Q : Bool → Shared → Prop} (F : St g s₀ ms os s) (hm : Mem os l (.pairs ps)) (hz : ps.length ≤ 1000) (h : ∀ s', St g s₀ ms os s' → Q (decide (ps ≠ [])) s') : Wp w A (truthy (.ref l)) Q E s := by
  refine ex2 (F.mem hm) ?_; intro us n hJ
  refine and2 hJ ?_; clear hJ; intro ho hp
  refine tr_list F ho (by rw [hp.length]; exact hz) fun s' F' => ?_
  have e : decide (us ≠ []) = decide (ps ≠ []) := by
    have := hp.length
    cases us <;> cases ps <;> simp at this ⊢
  rw [e]
  exact h s' F'
theorem nx_pairs {it l L : Addr} {i : Nat} {kL : K} {os₁ os₂ : Os} {ps : List (Int × Int)} {Q : Option Value → Shared → Prop} (F : St g s₀ ms os s) (hh : A.handled = none) (hL : (L, kL) ∈ os₂) (hL0 : s₀.heap.objs.size ≤ L) (hit : s₀.heap.objs.size ≤ it) (hl : Mem os l (.pairs ps)) (hu : Up os it (.liter l i) (.liter l (i + 1)) os₁) (hd : Del os it (.liter l i) os₂)
    (h1 : i < ps.length → ∀ v s', Tup2 s'.heap v (gP ps i) → s'.heap.IsListIter it l (i + 1) → St g s₀ ms os₁ s' → Q (some v) s') (h2 : ps.length ≤ i → ∀ s', St g s₀ ms os₂ s' → Q none s') : Wp w A (pyNext (.ref it)) Q E s := by
  refine .of ?_
  refine ex2 (F.mem hl) ?_; intro us n hJ
  refine and2 hJ ?_; clear hJ; intro ho hp
  have hr : s.heap.IsListIter it l i := F.at _ hu.mem
  have hlen := hp.length
  by_cases hi : i < ps.length
  · refine ex1 (hp.get hi) ?_; intro v hJ
    refine and2 hJ ?_; clear hJ; intro hv ht
    refine wpAny_pyNext_list_item hr (listO_is ho) (x := v) (by simpa using hv) fun h' e hs => ?_
    refine h1 hi v { s with heap := h' } ?_ e (F.update hu hs e rfl rfl)
    refine ex4 ht ?_; (try clear ht); intro b t u m hJ
    refine and2 hJ ?_; clear hJ; intro hR2 hb
    subst hR2
    refine ⟨b, t, u, m, rfl, (hs.2 b fun h => ?_).trans hb⟩
    refine ex1 hr ?_; (try clear hr); intro o hJ
    refine and3 hJ ?_; clear hJ; intro ho2 hc hU3
    rw [h, ho2] at hb
    cases hb
    simp [tupO] at hc
  · exact wpAny_pyNext_list_end hh hr (listO_is ho) (by simp; exact Nat.le_trans (Nat.le_of_eq hlen) (Nat.le_of_not_lt hi)) fun h' hx => h2 (Nat.le_of_not_lt hi) _ (F.ended hd hL hL0 hx rfl rfl (hown := hit))
theorem a_tup2 {x y : Str} {p1 p2 pos : Pos} {k : Nat} {v : Value} {p : Int × Int} {p₀ : Addr × K} {Q : Unit → Shared → Prop} (F : St g s₀ ms (p₀ :: os) s) (hh : A.handled = none) (hL0 : s₀.heap.objs.size ≤ p₀.1) (ht : Tup2 s.heap v p)
    (h : ∀ t u s', St g s₀ ms (p₀ :: os) s' → Wp w A (storeName env x (.int p.1 t)) (fun _ s₁ => Wp w A (storeName env y (.int p.2 u)) Q E s₁) E s') : Wp w A (assign (.Tuple [.Name x p1, .Name y p2] k pos) env v) Q E s := by
  refine ex4 ht ?_; (try clear ht); intro b t u n hJ
  refine and2 hJ ?_; clear hJ; intro hR4 ho
  subst hR4
  exact a_pair F hh hL0 ho fun s' F' => h t u s' F'
end
end
/-! MS7 -/
section
set_option hygiene false
section
variable {w : World} {A : Around} {g : Gd} {σ : Shared}
theorem St.to9 {s₀ s : Shared} {ms : List Addr} {c b p1 p2 p3 p4 p5 p6 p7 p8 p9 : Addr × K} {T : Os} (F : St g s₀ ms (c :: b :: p1 :: p2 :: p3 :: p4 :: p5 :: p6 :: p7 :: p8 :: p9 :: T) s) : St g s₀ ms (c :: p1 :: p2 :: p3 :: p4 :: p5 :: p6 :: p7 :: p8 :: p9 :: b :: T) s :=
  F.perm ((List.perm_middle (l₁ := [p1, p2, p3, p4, p5, p6, p7, p8, p9]) (a := b) (l₂ := T)).cons c)
theorem St.cut {s₀ s : Shared} {ms : List Addr} {os T : Os} (F : St g s₀ ms (os ++ T) s) : St g s₀ ms os s :=
  F.sub (fun p hp => List.mem_append_left _ hp) ((List.Sublist.map _ (List.sublist_append_left os T)).nodup F.nod)
theorem it_prs {s₀ s : Shared} {ms : List Addr} {os : Os} {E : Value → Shared → Prop} {l : Addr} {ps : List (Int × Int)} {Q : Value → Shared → Prop} {p₀ : Addr × K} (F : St g s₀ ms (p₀ :: os) s) (hm : Mem (p₀ :: os) l (.pairs ps)) (h : ∀ it s', s₀.heap.objs.size ≤ it → St g s₀ ms (p₀ :: (it, .liter l 0) :: os) s' → Q (.ref it) s') : Wp w A (pyIter (.ref l)) Q E s := by
  refine ex2 (F.mem hm) ?_; intro us n hJ
  refine and2 hJ ?_; clear hJ; intro ho hp
  exact it_list F ho h
noncomputable def kPm (n : Nat) : PySem.W.KasT (Array Nat) → Bool
  | .ret p => p.toList.isPerm (List.range n)
  | .ask i j k => kPm n (k true) && kPm n (k false)
theorem kPm_eval {n : Nat} {lt : Nat → Nat → Bool} : ∀ (t : PySem.W.KasT (Array Nat)), kPm n t = true → (kEval lt t).toList.Perm (List.range n)
  | .ret p, h => List.isPerm_iff.mp h
  | .ask i j k, h => by
    have h : (kPm n (k true) && kPm n (k false)) = true := h
    simp only [Bool.and_eq_true] at h
    refine kPm_eval (k (lt i j)) ?_
    cases lt i j
    · exact h.2
    · exact h.1
theorem kPm2 : kPm 2 (PySem.W.kas_sort 2) = true := by decide +kernel
theorem kPm3 : kPm 3 (PySem.W.kas_sort 3) = true := by decide +kernel
theorem pSort_perm {ps : List (Int × Int)} (h : ps.length = 2 ∨ ps.length = 3) : (pSort ps).Perm ps := by
  have hk : kPm ps.length (PySem.W.kas_sort ps.length) = true := by
    rcases h with h | h <;> rw [h]
    · exact kPm2
    · exact kPm3
  have h2 : ((List.range ps.length).map fun i => gP ps i) = ps := by
    refine List.ext_getElem (by simp) fun i h1 h2 => ?_
    simp [gP, h2]
  have h3 := (kPm_eval (lt := fun i j => ltP (gP ps i) (gP ps j)) _ hk).map (fun i => gP ps i)
  rw [h2] at h3
  exact h3
theorem pSort_len {ps : List (Int × Int)} (h : ps.length = 2 ∨ ps.length = 3) : (pSort ps).length = ps.length := (pSort_perm h).length_eq
noncomputable def pairs0 (xs : List Int) : Nat → List (Int × Int)
  | 0 => []
  | k + 1 => pairs0 xs k ++ [(xs.getD k 0, (k : Int))]
theorem pairs0_len (xs : List Int) : ∀ k, (pairs0 xs k).length = k
  | 0 => rfl
  | k + 1 => by show (pairs0 xs k ++ [(xs.getD k 0, (k : Int))]).length = k + 1; rw [List.length_append, pairs0_len xs k]; rfl
/-- the turns over the rest: from place k on, `m` left -/
noncomputable def nsLoop (xs : List Int) : Nat → Nat → List (Int × Int) → Int → List (Int × Int)
  | 0, _, ps, _ => ps
  | m + 1, k, ps, o => if xs.getD k 0 < (gP ps 0).1 then nsLoop xs m (k + 1) (smF (ps.set 0 (xs.getD k 0, o)) 0) (o + 1) else nsLoop xs m (k + 1) ps o
noncomputable def nsH (n : Nat) (xs : List Int) : List Int := (pSort (nsLoop xs (xs.length - n) n (hmF (n / 2) (pairs0 xs n)) n)).map (·.1)
noncomputable def nsF (n : Nat) (xs : List Int) : List Int :=
  if n = 1 then (match minAt xs xs.length with | none => [] | some m => [m])
  else if xs.length ≤ n then (srt xs).take n else nsH n xs
noncomputable abbrev nsN : List Str := ["n", "iterable", "it", "sentinel", "result", "size", "elem", "top", "order", "_heapreplace", "_order", "k", "_elem"]

theorem nsL_z {xs : List Int} {k : Nat} {ps : List (Int × Int)} {o : Int} : nsLoop xs 0 k ps o = ps := rfl
theorem nsL_s {xs : List Int} {m k : Nat} {ps : List (Int × Int)} {o : Int} : nsLoop xs (m + 1) k ps o = if xs.getD k 0 < (gP ps 0).1 then nsLoop xs m (k + 1) (smF (ps.set 0 (xs.getD k 0, o)) 0) (o + 1) else nsLoop xs m (k + 1) ps o := rfl
theorem nsmallest_spec {l : Addr} {xs : List Int} {n : Nat} {t : Tok} (I : Iv g σ) (hh : A.handled = none) (hA : A.depth + 10 < recursionLimit) (hU : A.units + 1000 < cLine) (hl : K.At σ.heap l (.ints xs)) (hlow : g.h₁.objs.size ≤ l) (hn1 : 1 ≤ n) (hn3 : n ≤ 3) (hz : xs.length ≤ 60) :
    Spec w A (.ref (g.fa 21)) [.int n t, .ref l] σ (fun v s' => ∃ r : Nat, v = .ref r ∧ After g [] σ s' ∧ Iv g s' ∧ σ.heap.objs.size ≤ r ∧ K.At s'.heap r (.ints (nsF n xs))) := by
  refine ex2 hl ?_; (try clear hl); intro ws nn hJ
  refine and2 hJ ?_; clear hJ; intro ho hi
  have hwl := hi.length
  have F0 : St g σ [] [(l, .raw (listO ws nn))] σ := .start I (by simpa [K.At] using ho) (by simp) (by simp [K.soft]) (by simpa using hlow)
  refine enterC (i := 21) (dflt := .ref g.dd) nsN [some (.int n t), some (.ref l), none, none, none, none, none, none, none, none, none, none, none] [("key", some Value.none)] [("n", .int n t), ("iterable", .ref l), ("key", Value.none)] I (u_lt hA) F0 (I.get I.ok.nsg (by rw [I.ok.nsd]; nofun)) I.ok.nsd I.ok.nsc (bind_ns I) (by kernel_rfl) (by kernel_rfl) (by kernel_rfl) (fun L => by kernel_rfl) (by decide +kernel) (by decide +kernel) (by decide +kernel) (by decide +kernel) ?_
  intro L s hL F e J hJ
  have hUU : (A.deeper (g.envC 21 L)).units + 900 < cLine := by show A.units + 3 + 900 < cLine; lia
  have hAA : (A.deeper (g.envC 21 L)).depth + 8 < recursionLimit := by show A.depth + 1 + 8 < _; exact Nat.lt_of_le_of_lt (Nat.le_succ (A.depth + 1 + 8)) hA
  have hhh : (A.deeper (g.envC 21 L)).handled = none := hh
  replace F : St g σ [] [(L, .ns nsN [some (.int n t), some (.ref l), none, none, none, none, none, none, none, none, none, none, none]), (L + 1, .cell (some Value.none)), (l, .raw (listO ws nn))] s := F
  refine x_if (t_cmp ?_)
  (refine' e_loc F e ?_ ?_; rotate_left 1; (focus (repeat (first | with_reducible exact At2.here | apply At2.there))))
  (refine e_int F ?_; clear F; intro tk s F)
  refine c_eq ?_
  by_cases h1 : n = 1
  · subst h1
    rw [show (((1 : Nat) : Int) == 1) = true from rfl, if_pos rfl]
    refine x_as (e_call1 ?_)
    (refine' e_bi F e ?_ ?_; rotate_left 1; with_reducible constructor)
    (refine' e_loc F e ?_ ?_; rotate_left 1; (focus (repeat (first | with_reducible exact At2.here | apply At2.there))))
    refine cw_bi (k_iter (it_list F (F.mem (.there (.there .here))) ?_)); clear F; intro it s hit F
    (refine' s_loc F e ?_ ?_; rotate_left 1; (focus (repeat (first | with_reducible exact Up2.here | apply Up2.there))); clear F; intro s F)
    refine x_as (e_call0 ?_)
    (refine' e_bi F e ?_ ?_; rotate_left 1; with_reducible constructor)
    refine cw_ty (k_object F ?_); clear F; intro se s hse F
    (refine' s_loc F e ?_ ?_; rotate_left 1; (focus (repeat (first | with_reducible exact Up2.here | apply Up2.there))); clear F; intro s F)
    refine x_as (e_callk (by kernel_rfl) (by rfl) (by kernel_rfl) ?_)
    (refine' e_bi F e ?_ ?_; rotate_left 1; with_reducible constructor)
    refine ⟨_, .inl rfl, ?_⟩
    (refine' e_loc F e ?_ ?_; rotate_left 1; (focus (repeat (first | with_reducible exact At2.here | apply At2.there))))
    refine ev_kw2 ?_
    (refine' e_loc F e ?_ ?_; rotate_left 1; (focus (repeat (first | with_reducible exact At2.here | apply At2.there))))
    refine e_cell (L + 1) F (.there (.there (.there .here))) ?_
    refine k_min (I := it) (l := l) F hhh hL hit (.there .here) (.there (.there (.there .here))) hi ?_
    clear F; intro v s hv F
    (refine' s_loc F e ?_ ?_; rotate_left 1; (focus (repeat (first | with_reducible exact Up2.here | apply Up2.there))); clear F; intro s F)
    refine x_ret (e_ifx (t_cmp ?_))
    (refine' e_loc F e ?_ ?_; rotate_left 1; (focus (repeat (first | with_reducible exact At2.here | apply At2.there))))
    (refine' e_loc F e ?_ ?_; rotate_left 1; (focus (repeat (first | with_reducible exact At2.here | apply At2.there))))
    rw [nsF, if_pos rfl] at hJ
    cases hm : minAt xs xs.length with
    | none =>
      rw [hm] at hv hJ
      have hv : v = .ref se := hv
      subst hv
      refine c_is (same_self ?_)
      first | refine br_y rfl ?_ | refine if_y rfl ?_ | rw [if_pos rfl]
      refine e_list (sp_nil ⟨by simp, _, _, _, _, _, F, ?_⟩); clear F; intro r s hr F
      exact hJ _ _ ⟨_, rfl, _, rfl, F.aft, F.inv, hr, (F.at _ (.tail _ (.head _))).ints_of .nil⟩
    | some m =>
      rw [hm] at hv hJ
      refine ex1 ((hv : IsI v m)) ?_; intro tm hR1
      subst hR1
      refine c_is (wpAny_of_eq (a := false) rfl ?_)
      first | refine br_n rfl ?_ | refine if_n rfl ?_ | rw [if_neg (by decide)]
      refine e_list (sp_cons ?_)
      (refine' e_loc F e ?_ ?_; rotate_left 1; (focus (repeat (first | with_reducible exact At2.here | apply At2.there))))
      refine sp_nil ⟨by simp, _, _, _, _, _, F, ?_⟩; clear F; intro r s hr F
      exact hJ _ _ ⟨_, rfl, _, rfl, F.aft, F.inv, hr, (F.at _ (.tail _ (.head _))).ints_of (.cons ⟨tm, rfl⟩ .nil)⟩
  · rw [show ((n : Int) == 1) = false by simp; lia, if_neg (by decide)]
    refine x_nil ?_
    rw [nsF, if_neg h1] at hJ
    refine x_try (x_as (e_call1 ?_))
    (refine' e_bi F e ?_ ?_; rotate_left 1; with_reducible constructor)
    (refine' e_loc F e ?_ ?_; rotate_left 1; (focus (repeat (first | with_reducible exact At2.here | apply At2.there))))
    have hlen : ∀ {Q : Value → Shared → Prop} {E : Value → Shared → Prop} {os : Os} {s : Shared} {A : Around}, St g σ [] os s → Mem os l (.raw (listO ws nn)) → (∀ t s', St g σ [] os s' → Q (.int xs.length t) s') → Wp w A (call (.builtin "len") [.ref l]) Q E s := by
      intro Q E os s A F hm h
      refine .of (Calls.call_len_list (listO_is (F.mem hm)) (by simp; exact i_lt (Nat.lt_of_le_of_lt (Nat.le_of_eq hwl) (Nat.lt_of_le_of_lt hz (lb rfl)))) ?_)
      have : (ws.toArray.size : Int) = xs.length := by simp [hwl]
      rw [this]
      exact h _ _ (F.tick _)
    refine cw_bi (hlen F (.there (.there .here)) ?_); (clear F; intro tk s F)
    (refine' s_loc F e ?_ ?_; rotate_left 1; (focus (repeat (first | with_reducible exact Up2.here | apply Up2.there))); clear F; intro s F)
    refine x_nil (x_if (t_cmp ?_))
    (refine' e_loc F e ?_ ?_; rotate_left 1; (focus (repeat (first | with_reducible exact At2.here | apply At2.there))))
    (refine' e_loc F e ?_ ?_; rotate_left 1; (focus (repeat (first | with_reducible exact At2.here | apply At2.there))))
    refine c_ge ?_
    by_cases h2 : xs.length ≤ n
    · first | refine br_y (decide_eq_true ((i_le h2) : (xs.length : Int) ≤ n)) ?_ | refine if_y (decide_eq_true (by lia : (xs.length : Int) ≤ n)) ?_ | rw [decide_eq_true (by lia : (xs.length : Int) ≤ n), if_pos rfl]
      rw [if_pos h2] at hJ
      refine x_ret (e_slc (e_callk (by kernel_rfl) (by rfl) (by kernel_rfl) ?_))
      (refine' e_bi F e ?_ ?_; rotate_left 1; with_reducible constructor)
      refine ⟨_, .inl rfl, ?_⟩
      (refine' e_loc F e ?_ ?_; rotate_left 1; (focus (repeat (first | with_reducible exact At2.here | apply At2.there))))
      refine ev_kw1 ?_
      refine e_cell (L + 1) F (.there .here) ?_
      refine k_sorted (.inr rfl) F (F.mem (.there (.there .here))) hi (Nat.lt_of_le_of_lt hz (lb rfl)) ?_; clear F; intro r s hr F
      have hsl : (srt xs).length = xs.length := (srt_perm xs).length_eq
      refine p_none (p_some ?_)
      (refine' e_loc F e ?_ ?_; rotate_left 1; (focus (repeat (first | with_reducible exact At2.here | apply At2.there))))
      refine slc_ints_upto F (.there .here) (Nat.le_trans (Nat.le_of_eq hsl) (Nat.le_trans hz (lb rfl))) (Int.natCast_nonneg n) ?_; clear F; intro r2 s hr2 F
      rw [Int.toNat_natCast] at F
      exact hJ _ _ ⟨_, rfl, _, rfl, F.aft, F.inv, hr2, F.at _ (.tail _ (.head _))⟩
    · first | refine br_n (decide_eq_false ((i_nle (Nat.lt_of_not_le h2)) : ¬ (xs.length : Int) ≤ n)) ?_ | refine if_n (decide_eq_false (by lia : ¬ (xs.length : Int) ≤ n)) ?_ | rw [decide_eq_false (by lia : ¬ (xs.length : Int) ≤ n), if_neg (by decide)]
      rw [if_neg h2] at hJ
      refine x_nil (x_nil ?_)
      show Wp w _ (execs _ _) _ _ _
      refine x_if (t_cmp ?_)
      refine e_cell (L + 1) F (.there .here) ?_
      refine .of (wpAny_Constant_none ?_)
      refine c_is (wpAny_of_eq (a := true) rfl ?_)
      first | refine br_y rfl ?_ | refine if_y rfl ?_ | rw [if_pos rfl]
      refine x_as (e_call1 ?_)
      (refine' e_bi F e ?_ ?_; rotate_left 1; with_reducible constructor)
      (refine' e_loc F e ?_ ?_; rotate_left 1; (focus (repeat (first | with_reducible exact At2.here | apply At2.there))))
      refine cw_bi (k_iter (it_list F (F.mem (.there (.there .here))) ?_)); clear F; intro it s hit F
      (refine' s_loc F e ?_ ?_; rotate_left 1; (focus (repeat (first | with_reducible exact Up2.here | apply Up2.there))); clear F; intro s F)
      refine x_aslc (wp_comp (g := g) (s₀ := σ) (ms := []) ["i", "elem"] (cl := []) (by rfl) (by decide +kernel) (by rfl) (by decide +kernel) (by decide +kernel) (by decide +kernel) rfl rfl ?_)
      refine e_call2 ?_
      (refine' e_bi F e ?_ ?_; rotate_left 1; with_reducible constructor)
      refine e_call1 ?_
      (refine' e_bi F e ?_ ?_; rotate_left 1; with_reducible constructor)
      (refine' e_loc F e ?_ ?_; rotate_left 1; (focus (repeat (first | with_reducible exact At2.here | apply At2.there))))
      refine cw_ty (k_range1 F ?_); clear F; intro R u v s hR F
      (refine' e_loc F e ?_ ?_; rotate_left 1; (focus (repeat (first | with_reducible exact At2.here | apply At2.there))))
      refine cw_ty (k_zip F (.there .here) (.there (.there .here)) (Int.natCast_nonneg n) (i_le (Nat.le_trans hn3 (lb rfl))) ?_); clear F; intro z TI TO i1 s hz hTO hTI hi1 F
      refine it_zip F (.there .here) ?_
      replace F := F.drop (a := R) (by (focus (repeat (first | with_reducible exact Del.here | apply Del.there))))
      refine ⟨_, _, F, ?_⟩
      clear F s
      intro D C s hD hC F ec
      refine ⟨fun m s => ∃ (k : Nat) (T : Os) (us : List Value) (va vb : Option Value) (a b : Value), k + m = n ∧ TL T us (pairs0 xs k) ∧
        St g σ [] ((C, .ns ["i", "elem"] [va, vb]) :: (L, .ns nsN [some (.int n t), some (.ref l), some (.ref it), none, none, some (.int xs.length tk), none, none, none, none, none, none, none]) :: (D, .list us) :: (z, .raw (zipO TI TO .none)) :: (TO, .raw (pairO a b)) :: (TI, .raw (pairO (.ref i1) (.ref it))) :: (i1, .riter (k : Int) ((n : Int) - k) 1) :: (it, .liter l k) :: (L + 1, .cell (some Value.none)) :: (l, .raw (listO ws nn)) :: T) s, n,
        (exi7 0 [] [] none none _ _ ⟨(add_sub' (Nat.le_add_left 0 n)), .nil, by simpa using F⟩), ?_, ?_⟩
      · intro m s hI2
        refine ex7 hI2 ?_; (try clear hI2); intro k T us va vb a b hJ
        refine and3 hJ ?_; clear hJ; intro hk hT F
        exact it_zip F (.there (.there (.there .here))) ⟨rfl, _, k, T, us, va, vb, a, b, hk, hT, F⟩
      clear F s
      intro m s hI2 K1 hK1
      refine ex7 hI2 ?_; (try clear hI2); intro k T us va vb a b hJ
      refine and3 hJ ?_; clear hJ; intro hk hT F
      have hnp : NP ((C, .ns ["i", "elem"] [va, vb]) :: (L, .ns nsN [some (.int n t), some (.ref l), some (.ref it), none, none, some (.int xs.length tk), none, none, none, none, none, none, none]) :: (D, .list us) :: (z, .raw (zipO TI TO .none)) :: (TO, .raw (pairO a b)) :: (TI, .raw (pairO (.ref i1) (.ref it))) :: (i1, .riter (k : Int) ((n : Int) - k) 1) :: (it, .liter l k) :: (L + 1, .cell (some Value.none)) :: (l, .raw (listO ws nn)) :: T) :=
        .cons trivial (.cons trivial (.cons trivial (.cons trivial (.cons trivial (.cons trivial (.cons trivial (.cons trivial (.cons trivial (.cons trivial hT.np)))))))))
      have huslen := hT.len
      rw [pairs0_len] at huslen
      by_cases hm0 : m = 0
      · have hkn : k = n := (eq_zero hk hm0)
        subst hkn
        refine nx_zip_end hhh F (.cons trivial (.cons trivial (.cons trivial (.cons trivial (.cons trivial (.cons trivial hT.np)))))) hC hz hi1 (by lia) ?_
        clear F; intro s F
        show Wp w _ (assign _ _ (.ref D)) _ _ s
        replace F := F.swap
        refine x_name ?_
        (refine' s_loc F e ?_ ?_; rotate_left 1; (focus (repeat (first | with_reducible exact Up2.here | apply Up2.there))); clear F; intro s F)
        refine ⟨_, _, _, F.swap, ?_⟩
        clear F s; intro s F
        have hp0 : Pairs s.heap us (pairs0 xs k) := hT.pairs fun q hq => F.at q (by simp only [List.mem_cons]; exact .inr (.inr (.inr (.inr (.inr hq)))))
        replace F := F.turn2 (k' := .pairs (pairs0 xs k)) (fun ⟨n, h⟩ => ⟨us, n, h, hp0⟩) (fun _ => trivial)
        replace F := St.cut (os := [_, _, _, _, _]) F
        have hpl := pairs0_len xs k
        refine x_if (t_not (t_val ?_))
        (refine' e_loc F e ?_ ?_; rotate_left 1; (focus (repeat (first | with_reducible exact At2.here | apply At2.there))))
        refine tr_pairs F (.there .here) (Nat.le_trans (Nat.le_of_eq hpl) (Nat.le_trans hn3 (lb rfl))) ?_; (clear F; intro s F)
        rw [decide_eq_true (by intro h; rw [h] at hpl; simp at hpl; lia)]
        refine x_nil ?_
        refine x_expr (e_call1 ?_)
        refine e_fn 16 F e ?_
        (refine' e_loc F e ?_ ?_; rotate_left 1; (focus (repeat (first | with_reducible exact At2.here | apply At2.there))))
        refine cw_fn F.inv (by decide) (heapifyM_spec F.inv hhh (d_lt hAA (lb rfl)) (d_lt hUU (lb rfl)) (F.mem (.there .here)) (F.low _ (.tail _ (.head _))) (Nat.le_trans (Nat.le_of_eq hpl) (Nat.le_trans hn3 (lb rfl)))) ?_
        intro v s hI2
        refine and4 hI2 ?_; (try clear hI2); intro hR2 ha hi' hk'
        subst hR2
        replace F := F.after1 (.there .here) ha hi' hk'
        rw [hpl] at F
        generalize hq0 : hmF (k / 2) (pairs0 xs k) = ps0 at F
        have hps0 : ps0.length = k := by rw [← hq0, hmF_len _ _ (by rw [hpl]; exact Nat.div_le_self k 2)]; exact hpl
        refine x_as (e_sub (e_sub ?_))
        (refine' e_loc F e ?_ ?_; rotate_left 1; (focus (repeat (first | with_reducible exact At2.here | apply At2.there))))
        refine e_intH fun tq1 tq2 => ?_
        replace F := F.tick tq2
        refine sub_prs F (.there .here) (k := 0) (Nat.lt_of_lt_of_le (Nat.lt_of_lt_of_le (lb rfl) hn1) (Nat.le_of_eq (Eq.symm hps0))) (Nat.le_trans (Nat.le_of_eq hps0) (Nat.le_trans hn3 (lb rfl))) fun v0 hv0 => ?_
        refine e_intH fun tq3 tq4 => ?_
        replace F := F.tick tq4
        refine sub_tup2 hv0 fun tq5 => ?_
        (refine' s_loc F e ?_ ?_; rotate_left 1; (focus (repeat (first | with_reducible exact Up2.here | apply Up2.there))); clear F; intro s F)
        refine x_as ?_
        (refine' e_loc F e ?_ ?_; rotate_left 1; (focus (repeat (first | with_reducible exact At2.here | apply At2.there))))
        (refine' s_loc F e ?_ ?_; rotate_left 1; (focus (repeat (first | with_reducible exact Up2.here | apply Up2.there))); clear F; intro s F)
        refine x_as ?_
        refine e_fn 15 F e ?_
        (refine' s_loc F e ?_ ?_; rotate_left 1; (focus (repeat (first | with_reducible exact Up2.here | apply Up2.there))); clear F; intro s F)
        refine x_for ?_
        (refine' e_loc F e ?_ ?_; rotate_left 1; (focus (repeat (first | with_reducible exact At2.here | apply At2.there))))
        refine it_liter F (.there (.there .here)) ?_
        refine ⟨fun m s => ∃ (i : Nat) (ps : List (Int × Int)) (o : Int) (t1 t2 : Tok) (ve vo : Option Value), i + m = xs.length ∧ ps.length = k ∧ nsLoop xs m i ps o = nsLoop xs (xs.length - k) k ps0 k ∧
          St g σ [] ((L, .ns nsN [some (.int k t), some (.ref l), some (.ref it), none, some (.ref D), some (.int xs.length tk), ve, some (.int (gP ps 0).1 t1), some (.int o t2), some (.ref (g.fa 15)), vo, none, none]) :: (D, .pairs ps) :: (it, .liter l i) :: (L + 1, .cell (some Value.none)) :: (l, .raw (listO ws nn)) :: []) s, xs.length - k, (exi7 k ps0 k _ _ none none ⟨by lia, hps0, rfl, F⟩), ?_⟩
        clear F s
        intro m s hI2 K hK
        refine ex7 hI2 ?_; (try clear hI2); intro i ps o t1 t2 ve vo hJ
        refine and4 hJ ?_; clear hJ; intro him hps hfun F
        refine nx_list F hhh (.head _) hL hit (F.mem (.there (.there (.there (.there .here))))) (.there (.there .here)) (.there (.there .here)) ?_ ?_
        · intro v hv s F
          have hil : i < xs.length := by
            exact hwl ▸ (List.getElem?_eq_some_iff.mp hv).1
          obtain ⟨m, rfl⟩ : ∃ m', m = m' + 1 := ⟨m - 1, pred_add (in_of him hil)⟩
          rw [nsL_s] at hfun
          obtain ⟨tv, htv⟩ := hi.get (i := i) (x := xs.getD i 0) (by simp [hil])
          rw [htv] at hv
          cases hv
          refine x_name ?_
          (refine' s_loc F e ?_ ?_; rotate_left 1; (focus (repeat (first | with_reducible exact Up2.here | apply Up2.there))); clear F; intro s F)
          refine x_if (t_cmp ?_)
          (refine' e_loc F e ?_ ?_; rotate_left 1; (focus (repeat (first | with_reducible exact At2.here | apply At2.there))))
          (refine' e_loc F e ?_ ?_; rotate_left 1; (focus (repeat (first | with_reducible exact At2.here | apply At2.there))))
          refine c_lt ?_
          by_cases hlt : xs.getD i 0 < (gP ps 0).1
          · rw [decide_eq_true hlt]
            rw [if_pos hlt] at hfun
            first | refine br_y rfl ?_ | refine if_y rfl ?_ | rw [if_pos rfl]
            refine x_expr (e_call2 ?_)
            (refine' e_loc F e ?_ ?_; rotate_left 1; (focus (repeat (first | with_reducible exact At2.here | apply At2.there))))
            (refine' e_loc F e ?_ ?_; rotate_left 1; (focus (repeat (first | with_reducible exact At2.here | apply At2.there))))
            refine e_tuple (sp_cons ?_)
            (refine' e_loc F e ?_ ?_; rotate_left 1; (focus (repeat (first | with_reducible exact At2.here | apply At2.there))))
            refine sp_cons ?_
            (refine' e_loc F e ?_ ?_; rotate_left 1; (focus (repeat (first | with_reducible exact At2.here | apply At2.there))))
            refine sp_nil ⟨by simp, _, _, _, _, _, F, ?_⟩
            clear F; intro bT s hbT F
            refine cw_fn F.inv (by decide) (heapreplaceM_spec (x := (xs.getD i 0, o)) F.inv (d_lt hAA (lb rfl)) (d_lt hUU (lb rfl)) (F.mem (.there (.there .here))) ⟨bT, _, _, _, rfl, F.mem (.there .here)⟩ (F.low _ (.tail _ (.tail _ (.head _)))) (Nat.le_trans (Nat.le_of_eq hps) (Nat.le_trans hn3 (lb rfl))) (Nat.lt_of_lt_of_le (Nat.lt_of_lt_of_le (lb rfl) hn1) (Nat.le_of_eq (Eq.symm hps)))) ?_
            intro v s hI2
            refine and3 hI2 ?_; (try clear hI2); intro ha hi' hk'
            replace F := F.after1 (.there (.there .here)) ha hi' hk'
            replace F := F.drop (a := bT) (.there .here)
            generalize hq1 : smF (ps.set 0 (xs.getD i 0, o)) 0 = ps1 at F hfun
            have hps1 : ps1.length = k := by rw [← hq1, smF_len _ _ (by simp; exact Nat.lt_of_lt_of_le (Nat.lt_of_lt_of_le (lb rfl) hn1) (Nat.le_of_eq (Eq.symm hps)))]; simpa using hps
            refine x_astup (e_sub ?_)
            (refine' e_loc F e ?_ ?_; rotate_left 1; (focus (repeat (first | with_reducible exact At2.here | apply At2.there))))
            refine e_intH fun tq1 tq2 => ?_
            replace F := F.tick tq2
            refine sub_prs F (.there .here) (k := 0) (Nat.lt_of_lt_of_le (Nat.lt_of_lt_of_le (lb rfl) hn1) (Nat.le_of_eq (Eq.symm hps1))) (Nat.le_trans (Nat.le_of_eq hps1) (Nat.le_trans hn3 (lb rfl))) fun v0 hv0 => ?_
            refine a_tup2 F hhh hL hv0 ?_
            clear F; intro tx ty s F
            (refine' s_loc F e ?_ ?_; rotate_left 1; (focus (repeat (first | with_reducible exact Up2.here | apply Up2.there))); clear F; intro s F)
            (refine' s_loc F e ?_ ?_; rotate_left 1; (focus (repeat (first | with_reducible exact Up2.here | apply Up2.there))); clear F; intro s F)
            refine x_aug (e_ldn F e (by (focus (repeat (first | with_reducible exact At2.here | apply At2.there)))) ?_)
            (refine e_int F ?_; clear F; intro tk s F)
            refine i_add F ?_; (clear F; intro tk s F)
            (refine' s_loc F e ?_ ?_; rotate_left 1; (focus (repeat (first | with_reducible exact Up2.here | apply Up2.there))); clear F; intro s F)
            refine x_nil ?_
            exact x_nil <| hK m _ (Nat.lt_succ_self m) (exi7 (i + 1) ps1 (o + 1) _ _ _ _ ⟨(suc_add him), hps1, hfun, F⟩)
          · rw [decide_eq_false hlt]
            rw [if_neg hlt] at hfun
            first | refine br_n rfl ?_ | refine if_n rfl ?_ | rw [if_neg (by decide)]
            refine x_nil ?_
            exact x_nil <| hK m _ (Nat.lt_succ_self m) (exi7 (i + 1) ps o _ _ _ _ ⟨(suc_add him), hps, hfun, F⟩)
        · intro hle s F
          have hm0 : m = 0 := by lia
          subst hm0
          rw [nsL_z] at hfun
          have hfun' : ps = nsLoop xs (xs.length - k) k (hmF (k / 2) (pairs0 xs k)) k := by rw [hq0]; exact hfun
          refine ex2 (F.mem (.there .here)) ?_; intro us nu hJ
          refine and2 hJ ?_; clear hJ; intro hou hpu
          replace F := F.turn2 (k' := .list us) (fun _ => ⟨nu, hou⟩) (fun _ => trivial)
          refine x_expr (e_met0 ?_)
          (refine' e_loc F e ?_ ?_; rotate_left 1; (focus (repeat (first | with_reducible exact At2.here | apply At2.there))))
          refine ⟨_, rcv_list (F.mem (.there .here)).choose_spec PySem.F.slot_list_sort type_list_sort, ?_⟩
          refine sort_pairs F hL hpu (by lia) (Nat.lt_of_le_of_lt (Nat.le_of_eq hps) (Nat.lt_of_le_of_lt hn3 (lb rfl))) (by
            have : ps.length = 2 ∨ ps.length = 3 := by lia
            rcases this with h | h <;> rw [h]
            · exact kOk2
            · exact kOk3) ?_
          clear F; intro s us' hp' F
          replace F := F.turn2 (k' := .pairs (pSort ps)) (fun ⟨n, h⟩ => ⟨us', n, h, hp'⟩) (fun _ => trivial)
          have hqs : (pSort ps).length = k := by rw [pSort_len (by lia)]; exact hps
          rw [nsH, ← hfun'] at hJ
          generalize pSort ps = qs at *
          refine x_ret (e_lc (wp_comp (g := g) (s₀ := σ) (ms := []) ["elem", "order"] (cl := []) (by rfl) (by decide +kernel) (by rfl) (by decide +kernel) (by decide +kernel) (by decide +kernel) rfl rfl ?_))
          (refine' e_loc F e ?_ ?_; rotate_left 1; (focus (repeat (first | with_reducible exact At2.here | apply At2.there))))
          refine it_prs F (.there .here) ?_
          clear F; intro it2 s hit2 F
          refine ⟨_, _, F, ?_⟩
          clear F s
          intro D2 C2 s hD2 hC2 F ec2
          refine ⟨fun m s => ∃ (i : Nat) (us : List Value) (va vb : Option Value), i + m = k ∧ Ints us ((qs.map (·.1)).take i) ∧
            St g σ [] ((C2, .ns ["elem", "order"] [va, vb]) :: (L, .ns nsN [some (.int k t), some (.ref l), some (.ref it), none, some (.ref D), some (.int xs.length tk), ve, some (.int (gP ps 0).1 t1), some (.int o t2), some (.ref (g.fa 15)), vo, none, none]) :: (D2, .list us) :: (it2, .liter D i) :: (D, .pairs qs) :: (L + 1, .cell (some Value.none)) :: (l, .raw (listO ws nn)) :: []) s, k, (exi4 0 [] none none ⟨(add_sub' (Nat.le_add_left 0 k)), .nil, F⟩), ?_, ?_⟩
          · intro m s hI2
            refine ex4 hI2 ?_; (try clear hI2); intro i us va vb hJ
            refine and3 hJ ?_; clear hJ; intro hi' hus F
            exact it_liter F (.there (.there (.there .here))) ⟨rfl, _, i, us, va, vb, hi', hus, F⟩
          clear F s
          intro m s hI2 K2 hK2
          refine ex4 hI2 ?_; (try clear hI2); intro i us va vb hJ
          refine and3 hJ ?_; clear hJ; intro him hus F
          have husl := hus.length
          rw [List.length_take, List.length_map] at husl
          refine nx_pairs F hhh (.head _) hC2 hit2 (.there (.there (.there (.there .here)))) (.there (.there (.there .here))) (.there (.there (.there .here))) ?_ ?_
          · intro hilt v s hv hli F
            refine ex4 hv ?_; (try clear hv); intro bv tv1 tv2 nv hJ
            refine and2 hJ ?_; clear hJ; intro hR3 hbv
            subst hR3
            have hv : Tup2 s.heap (.ref bv) (gP qs i) := ⟨bv, tv1, tv2, nv, rfl, hbv⟩
            refine .of (wpAny_letOwnedTupleGo_listiter hli ?_)
            refine a_tup2 F hhh hC2 hv ?_
            clear F; intro tx ty s F
            refine s_loc F ec2 .here ?_
            clear F; intro s F
            refine s_loc F ec2 (.there .here) ?_
            clear F; intro s F
            rw [List.forIn_nil]
            refine Wp.pure ?_
            first | refine br_y rfl ?_ | refine if_y rfl ?_ | rw [if_pos rfl]
            refine e_loc F ec2 .here ?_
            refine app_list F (.there (.there .here)) (by rw [husl]; exact Nat.le_trans (Nat.min_le_right _ _) (Nat.le_trans (Nat.le_of_eq hqs) (Nat.le_trans hn3 (lb rfl)))) ?_
            clear F; intro s F
            have hik := Nat.lt_of_lt_of_eq hilt hqs
            refine hK2 (m - 1) _ (pred_lt (in_of him hik)) (exi4 (i + 1) _ _ _ ⟨step_eq him hik, ?_, F⟩)
            rw [List.take_add_one]
            have hg : (qs.map (·.1))[i]? = some (gP qs i).1 := by simp [gP, hilt]
            rw [hg]
            exact hus.append (.cons ⟨tx, rfl⟩ .nil)
          · intro hle s F
            refine ⟨_, _, _, F, ?_⟩
            clear F; intro s F
            rw [List.take_of_length_le (by simpa using hle)] at hus
            have hfin := F.at _ (.tail _ (.head _))
            exact hJ _ _ ⟨_, rfl, _, rfl, F.aft, F.inv, hD2, hfin.ints_of hus⟩
      · have hkn := in_lt hk hm0
        have hxk : k < xs.length := Nat.lt_trans hkn (Nat.not_le.mp h2)
        obtain ⟨v, hv⟩ : ∃ v, ws[k]? = some v := ⟨_, List.getElem?_eq_getElem (Nat.lt_of_lt_of_eq hxk hwl.symm)⟩
        obtain ⟨tv, htv⟩ := hi.get (i := k) (x := xs.getD k 0) (by simp [hxk])
        rw [htv] at hv
        cases hv
        refine nx_zip F hnp hz hTO (.there .here) (ig_sub hkn) htv ?_
        clear F; intro ti T' s hT' F
        refine go_zip F ?_ hz ?_
        · exact .cons trivial (.cons trivial (.cons trivial (.cons trivial (.cons trivial (.cons trivial (.cons trivial (.cons trivial (.cons trivial (.cons trivial (.cons trivial hT.np))))))))))
        clear F; intro s F
        refine a_pair F hhh hC (F.mem (.there .here)) ?_
        clear F; intro s F
        refine s_loc F ec .here ?_
        clear F; intro s F
        refine s_loc F ec (.there .here) ?_
        clear F; intro s F
        rw [List.forIn_nil]
        refine Wp.pure ?_
        first | refine br_y rfl ?_ | refine if_y rfl ?_ | rw [if_pos rfl]
        replace F := F.drop (a := T') (.there .here)
        refine e_tuple (sp_cons ?_)
        refine e_loc F ec (.there .here) ?_
        refine sp_cons ?_
        refine e_loc F ec .here ?_
        refine sp_nil ⟨by simp, _, _, _, _, _, F, ?_⟩
        clear F; intro bT s hbT F
        refine app_list F (.there (.there (.there .here))) (Nat.le_trans (Nat.le_of_eq huslen) (Nat.le_trans (Nat.le_of_lt hkn) (Nat.le_trans hn3 (lb rfl)))) ?_
        clear F; intro s F
        have hT2 : TL ((bT, .raw (tupO [.int (xs.getD k 0) tv, .int (k : Int) ti] 0)) :: T) (us ++ [.ref bT]) (pairs0 xs k ++ [(xs.getD k 0, (k : Int))]) := .snoc (p := (xs.getD k 0, (k : Int))) hT
        have e5 : (k : Int) + 1 = ((k + 1 : Nat) : Int) := rfl
        have e6 : (n : Int) - k - 1 = (n : Int) - ((k + 1 : Nat) : Int) := by lia
        rw [e5, e6] at F
        replace F := F.to9
        exact hK1 (m - 1) _ (pred_lt (Nat.pos_of_ne_zero hm0)) (exi7 (k + 1) _ _ _ _ _ _ ⟨step_eq hk hkn, hT2, F⟩)
end
end
/-! MX18 -/
section
set_option hygiene false
section
variable {w : World} {A : Around} {E : Value → Shared → Prop} {g : Gd} {s₀ s : Shared} {ms : List Addr} {os os' : Os} {env : Env} {L : Addr} {nl : List Str} {vs vs' : List (Option Value)}
theorem noCells_from : ∀ {rest : List (Str × NameKind)}, rest.all (fun y => y.2 != .cell) = true → ∀ (n : Nat) (acc : List (Str × Addr)), cellsFrom n rest acc = acc
  | [], _, _, _ => rfl
  | (x, k) :: r, h, n, acc => by
    rw [List.all_cons, Bool.and_eq_true] at h
    have hk : (k == NameKind.cell) = false := by simpa using h.1
    unfold cellsFrom
    rw [hk]
    exact noCells_from h.2 n acc
theorem noCells_push : ∀ {rest : List (Str × NameKind)}, rest.all (fun y => y.2 != .cell) = true → ∀ (hp : Heap), pushCells hp rest = hp
  | [], _, _ => rfl
  | (x, k) :: r, h, hp => by
    rw [List.all_cons, Bool.and_eq_true] at h
    have hk : (k == NameKind.cell) = false := by simpa using h.1
    unfold pushCells
    rw [hk]
    exact noCells_push h.2 hp
theorem Heap.IsCell.new_at {h : Heap} {a : Nat} (e : a = h.objs.size) : K.At (h.push { cls := .type "cell", data := .cell none }) a (.cell none) := by
  subst e
  exact ⟨_, Heap.get?_push_size _ rfl, rfl⟩
theorem nfe_cell {scope : Scope} {nc : Str} {rest : List (Str × NameKind)} {cl : List (Str × Addr)} {Q : Env → Shared → Prop} (hn : scope.names = ((".0" : Str), NameKind.local) :: (nc, NameKind.cell) :: rest) (hr : rest.all (fun y => y.2 != .cell) = true) (nl : List Str) (hnd : nl.Nodup) (F : St g s₀ ms os s)
    (h : ∀ C s', s₀.heap.objs.size ≤ C → St g s₀ ms ((C, .ns nl (List.replicate nl.length none)) :: (C + 1, .cell none) :: os) s' → Q { scope, locals := C, globals := env.globals, cells := (nc, C + 1) :: cl, qual := env.qual, func := none, code := env.code, frame := env.frame, builtins := env.builtins } s') :
    Wp w A (newFunctionEnv scope env.globals cl [] env.qual none .none (some env)) Q E s := by
  refine .of ?_
  simp only [newFunctionEnv, Option.isSome_some, if_true]
  refine wpAny_bind (wpAny_alloc ?_)
  refine wpAny_bind (wpAny_layCells _ (fun name kind cells => by cases hkc : kind == NameKind.cell <;> simp [hkc]) _ _ _ _ ?_)
  have e1 : ∀ (n : Nat), cellsFrom n scope.names cl = (nc, n) :: cl := fun n => by
    rw [hn]
    show cellsFrom (n + 1) rest ((nc, n) :: cl) = _
    exact noCells_from hr _ _
  have e2 : ∀ (h : Heap), pushCells h scope.names = h.push { cls := .type "cell", data := .cell none } := fun h => by
    rw [hn]
    show pushCells (h.push { cls := .type "cell", data := .cell none }) rest = _
    exact noCells_push hr _
  rw [e1, e2]
  refine wpAny_bind ?_
  rw [List.forIn_nil]
  refine wpAny_pure (wpAny_pure ?_)
  have hsz : (s.heap.push { cls := .type "dict", data := .dict #[] }).objs.size = s.heap.objs.size + 1 := Heap.size_push ..
  rw [hsz]
  refine h s.heap.objs.size _ F.aft.size ?_
  have hk : ∀ b o, s.heap.get? b = some o → ((s.heap.push { cls := .type "dict", data := .dict #[] }).push { cls := .type "cell", data := .cell none }).get? b = some o := fun b o e => Heap.get?_push_of_some _ (Heap.get?_push_of_some _ e)
  have F1 : St g s₀ ms os { s with heap := (s.heap.push { cls := .type "dict", data := .dict #[] }).push { cls := .type "cell", data := .cell none } } :=
    F.grow hk (by rw [Heap.size_push, hsz]; exact Nat.le_succ_of_le (Nat.le_succ _)) rfl rfl
  have lt : ∀ p ∈ os, @LT.lt Nat _ p.1 s.heap.objs.size := fun p hp => (F.at p hp).lt
  have hz0 : @LE.le Nat _ s₀.heap.objs.size s.heap.objs.size := F.aft.size
  refine (F1.add (a := s.heap.objs.size + 1) (k := .cell none) ?_ (fun p hp e => ?_) (by show @LE.le Nat _ _ (s.heap.objs.size + 1); exact Nat.le_trans hz0 (Nat.le_add_right (Array.size s.heap.objs) 1))).add ?_ (fun p hp e => ?_) F.aft.size
  · exact Heap.IsCell.new_at (by rw [← hsz])
  · have h1 := lt p hp
    have h2 : @Eq Nat p.1 (s.heap.objs.size + 1) := e
    lia
  · refine ⟨hnd, _, (Heap.Ns.new s.heap (.type "dict")).keeps (fun b o e => Heap.get?_push_of_some _ e), fun x v hx => absurd hx At2.no⟩
  · have h2 : @Eq Nat p.1 s.heap.objs.size := e
    rcases List.mem_cons.mp hp with rfl | hp
    · have h2 : @Eq Nat (s.heap.objs.size + 1) s.heap.objs.size := e
      lia
    · have h1 := lt p hp
      lia
theorem wp_compC {elt target iter : Expr} {ifs : List Expr} {scope : Scope} {pos ipos : Pos} {cl : List (Str × Addr)} {use : Option (Value → Sem Unit)} {first : Sem Value} {Q : Value → Shared → Prop} {nc : Str} {rest : List (Str × NameKind)} (nl : List Str)
    (hclos : closureFor scope env = pure cl) (hn : scope.names = ((".0" : Str), NameKind.local) :: (nc, NameKind.cell) :: rest) (hr : rest.all (fun y => y.2 != .cell) = true) (hkind : scope.kind = .function) (hnames : scope.names.all (fun y => y.2 != .local || scope.names.lookup y.1 == some .local) = true)
    (hnl : nl.all (fun x => scope.names.lookup x == some .local && !(x == ("__debug__" : Str))) = true) (hnd : nl.Nodup) (hg : env.globals = mainGlobals) (hbl : env.builtins = builtinsNs)
    (h : Wp w A first (fun x s₁ => Wp w A (pyIter x) (fun it s₂ => ∃ (p₀ : Addr × K) (os : Os), St g s₀ ms (p₀ :: os) s₂ ∧
      ∀ D C s₃, s₀.heap.objs.size ≤ D → s₀.heap.objs.size ≤ C → St g s₀ ms ((C, .ns nl (List.replicate nl.length none)) :: (C + 1, .cell none) :: p₀ :: (D, .list []) :: os) s₃ → En (compEnvC scope ((nc, C + 1) :: cl) C env) C nl →
        ∃ (I : Nat → Shared → Prop) (n : Nat), I n s₃ ∧ (∀ n s, I n s → Wp w A (pyIter it) (fun it' s' => it' = it ∧ ∃ m, I m s') NoE s) ∧
        ∀ n s, I n s → ∀ J : Shared → Prop, (∀ m s₃, m < n → I m s₃ → J s₃) → Wp w A (pyNext it) (fun r s₁ => match r with
          | none => CEnd w A g s₀ ms use D C Q E s₁
          | some v => Wp w A (letOwnedTupleGo target it v) (fun _ s₁' => Wp w A (assign target (compEnvC scope ((nc, C + 1) :: cl) C env) v) (fun _ s₂ =>
              Wp w A (forIn ifs true fun c r => if r = true then do let ok ← isTrue c (compEnvC scope ((nc, C + 1) :: cl) C env) (eval c (compEnvC scope ((nc, C + 1) :: cl) C env)); pure (ForInStep.yield ok) else pure (ForInStep.yield r)) (fun ok s₃ =>
                if ok then Wp w A (eval elt (compEnvC scope ((nc, C + 1) :: cl) C env)) (fun x s₃ => Wp w A (call (.builtin "list.append") [.ref D, x]) (fun _ s₄ => J s₄) NoE s₃) NoE s₃ else J s₃) NoE s₂) NoE s₁') NoE s₁) NoE s) E s₁) E s)
    (hs : autoParam (∀ x, foldedSetIterable iter env x = pure x) tIrfl) :
    Wp w A (comprehension (.ListComp elt [⟨target, iter, ifs, 0⟩] scope pos) scope env ipos (newList []) false first use) Q E s :=
  wp_compG (cf := fun C => (nc, C + 1) :: cl) (tl := fun C => [(C + 1, .cell none)]) nl hclos (fun F q => nfe_cell hn hr nl hnd F q) hkind hnames hnl hg hbl h hs
end
end
/-! MX19 -/
section
set_option hygiene false
noncomputable def oS (l : List Nat) : Str := ⟨l.toArray⟩
theorem oS_len (l : List Nat) : (oS l).length = l.length := by simp [oS, Str.length]
theorem oS_list (l : List Nat) : (oS l).cps.toList = l := by simp [oS]
theorem oS_inj {a b : List Nat} : oS a = oS b ↔ a = b := ⟨fun h => by have := congrArg (fun x : Str => x.cps.toList) h; simpa [oS] using this, fun h => h ▸ rfl⟩
theorem oS_beq (a b : List Nat) : (oS a == oS b) = decide (a = b) := by
  rw [← toList_beq, oS_list, oS_list]
  by_cases h : a = b <;> simp [h]
theorem oS_app (a b : List Nat) : oS a ++ oS b = oS (a ++ b) := by
  show (⟨a.toArray ++ b.toArray⟩ : Str) = ⟨(a ++ b).toArray⟩
  simp
section
variable {w : World} {A : Around} {E : Value → Shared → Prop} {g : Gd} {s₀ s s' : Shared} {ms : List Addr} {os os' : Os} {env : Env} {L : Addr} {nl : List Str} {vs vs' : List (Option Value)}
theorem St.kbp : KeptByPush (St g s₀ ms os) := fun s ob k F => F.grow (fun b o e => Heap.get?_push_of_some _ e) (by show s.heap.objs.size ≤ (s.heap.push ob).objs.size; rw [Heap.size_push]; exact Nat.le_succ _) rfl rfl
theorem sub_s {l : List Nat} {i : Int} {k : Nat} {c : Nat} {t u : Tok} {Q : Value → Shared → Prop} (F : St g s₀ ms os s) (hi : i = k) (hc : l[k]? = some c) (hz : l.length ≤ 100000) (h : ∀ t' s', St g s₀ ms os s' → Q (.str (oS [c]) t') s') : SubOn w A (.str (oS l) t) (.int i u) Q E s := by
  subst hi
  have hk : k < l.length := (List.getElem?_eq_some_iff.mp hc).1
  refine ⟨"str", _, PySem.F.slot_str_getitem.lookup, typeIs_str _ _ _, .of (getItem_str (c := c) (by simp; exact i_lt (Nat.lt_of_lt_of_le hk (Nat.le_trans hz (lb rfl)))) ?_ (h _ _ (F.tick _)))⟩
  unfold seqIndex?
  rw [oS_len]
  have h1 : ¬ (k : Int) < 0 := (i_nlt (Nat.le_add_left 0 k))
  have h2 : (decide (0 ≤ (k : Int)) && decide ((k : Int) < (l.length : Int))) = true := by simp; exact hk
  simp only [h1, if_false, h2, if_true, Int.toNat_natCast, Option.bind_some]
  simpa [oS] using hc
theorem m1_cast {n : Nat} (h : 0 < n) : (-1 : Int) + n = ((n - 1 : Nat) : Int) := by
  cases n with
  | zero => cases h
  | succ m => exact (Int.add_comm _ _).trans (Int.add_neg_cancel_right (m : Int) 1)
theorem sub_sl {l : List Nat} {c : Nat} {t u : Tok} {Q : Value → Shared → Prop} (F : St g s₀ ms os s) (hc : l[l.length - 1]? = some c) (hz : l.length ≤ 100000) (h : ∀ t' s', St g s₀ ms os s' → Q (.str (oS [c]) t') s') : SubOn w A (.str (oS l) t) (.int (-1) u) Q E s := by
  have hk : l.length - 1 < l.length := (List.getElem?_eq_some_iff.mp hc).1
  refine ⟨"str", _, PySem.F.slot_str_getitem.lookup, typeIs_str _ _ _, .of (getItem_str (c := c) (by decide) ?_ (h _ _ (F.tick _)))⟩
  unfold seqIndex?
  rw [oS_len]
  have h1 : (-1 : Int) < 0 := by decide
  have hp : 0 < l.length := Nat.lt_of_le_of_lt (Nat.zero_le _) hk
  have h2 : (decide (0 ≤ (-1 + l.length : Int)) && decide ((-1 + l.length : Int) < (l.length : Int))) = true := by
    rw [m1_cast hp, decide_eq_true (Int.natCast_nonneg _), decide_eq_true (Int.ofNat_lt.mpr hk)]; rfl
  have h3 : (-1 + l.length : Int).toNat = l.length - 1 := tn (m1_cast hp)
  simp only [h1, if_true, h2, Option.bind_some, h3]
  simpa [oS] using hc
theorem slc_ss {x : Str} {i j : Int} {t ui uj : Tok} {Q : Value → Shared → Prop} (F : St g s₀ ms os s) (hz : x.length ≤ 100000) (h : ∀ s' t', St g s₀ ms os s' → Q (.str (Txt.slice x (some i) (some j)) t') s') : SlcOn w A (.str x t) (.int i ui) (.int j uj) Q E s :=
  let ⟨T, id, h1, h2, h3⟩ := SBG.sliceItem_ss (A := A) (E := E) (w := w) (prog := pw) (t := t) (ui := ui) (uj := uj) St.kbp F h (by show x.length ≤ 2 ^ 24; exact Nat.le_trans hz (lb rfl))
  ⟨T, id, h1, h2, .of h3⟩
theorem slc_sn {x : Str} {i : Int} {t ui : Tok} {Q : Value → Shared → Prop} (F : St g s₀ ms os s) (hz : x.length ≤ 100000) (h : ∀ s' t', St g s₀ ms os s' → Q (.str (Txt.slice x (some i) none) t') s') : SlcOn w A (.str x t) (.int i ui) .none Q E s :=
  let ⟨T, id, h1, h2, h3⟩ := SBG.sliceItem_sn (A := A) (E := E) (w := w) (prog := pw) (t := t) (ui := ui) St.kbp F h (by show x.length ≤ 2 ^ 24; exact Nat.le_trans hz (lb rfl))
  ⟨T, id, h1, h2, .of h3⟩
theorem slc_ns {x : Str} {j : Int} {t uj : Tok} {Q : Value → Shared → Prop} (F : St g s₀ ms os s) (hz : x.length ≤ 100000) (h : ∀ s' t', St g s₀ ms os s' → Q (.str (Txt.slice x none (some j)) t') s') : SlcOn w A (.str x t) .none (.int j uj) Q E s :=
  let ⟨T, id, h1, h2, h3⟩ := SBG.sliceItem_ns (A := A) (E := E) (w := w) (prog := pw) (t := t) (uj := uj) St.kbp F h (by show x.length ≤ 2 ^ 24; exact Nat.le_trans hz (lb rfl))
  ⟨T, id, h1, h2, .of h3⟩
end
theorem tx_ss {l : List Nat} {i j : Int} {a b : Nat} (hi : i = a) (hj : j = b) (h1 : a ≤ b) (h2 : b ≤ l.length) : Txt.slice (oS l) (some i) (some j) = oS ((l.drop a).take (b - a)) := by
  subst hi hj
  have := eq_of_beq (slice_closes (x := oS l) (i := a) (j := b) ⟨(Int.natCast_nonneg a), (i_le h1), by rw [oS_list]; exact i_le h2⟩)
  rw [this, oS_list, Int.toNat_natCast, show ((b : Int) - a).toNat = b - a from tn (cast_sub h1).symm]
  rfl
theorem tx_ns {l : List Nat} {j : Int} {b : Nat} (hj : j = b) (h2 : b ≤ l.length) : Txt.slice (oS l) none (some j) = oS (l.take b) := by
  subst hj
  have := eq_of_beq (slice_closes_to (x := oS l) (j := b) ⟨(Int.natCast_nonneg b), by rw [oS_list]; exact i_le h2⟩)
  rw [this, oS_list]
  show oS ((l.drop 0).take ((b : Int) - 0).toNat) = _
  rw [List.drop_zero, show ((b : Int) - 0).toNat = b from tn (Int.sub_zero _)]
theorem tx_sn {l : List Nat} {i : Int} {a : Nat} (hi : i = a) (h2 : a ≤ l.length) : Txt.slice (oS l) (some i) none = oS (l.drop a) := by
  subst hi
  rw [slice_from_eq (b := (l.length : Int)) (Int.natCast_nonneg a) (by rw [oS_len]; exact i_le h2) (by rw [oS_len]), oS_list, Int.toNat_natCast]
  show oS ((l.drop a).take ((l.length : Int) - a).toNat) = _
  rw [List.take_of_length_le (by rw [List.length_drop, ← cast_sub h2]; exact Nat.le_refl _)]
end
/-! MX20 -/
section
set_option hygiene false
open PySem.StrLaws PySem.Builtin.Str in
theorem occ_stay (s sub : Str) (hi : Nat) (i : Nat) : ∀ (l : List Nat) (f : Nat), (forIn l ((#[i] : Array Nat), f) (occBody s sub hi 1)).run.fst = #[i]
  | [], _ => rfl
  | a :: l, f => by
    rw [List.forIn_cons]
    unfold occBody
    rw [if_neg (by simp)]
    exact occ_stay s sub hi i l f
open PySem.StrLaws PySem.Builtin.Str in
theorem occ_hit (s sub : Str) (hi i : Nat) (post : List Nat) (h1 : i + sub.length ≤ hi) (h2 : subAt s sub i = true) : ∀ (pre : List Nat) (f : Nat), f ≤ i → (∀ j ∈ pre, ¬ (j + sub.length ≤ hi ∧ subAt s sub j = true)) → (forIn (pre ++ i :: post) ((#[] : Array Nat), f) (occBody s sub hi 1)).run.fst = #[i]
  | [], f, hf, _ => by
    rw [List.nil_append, List.forIn_cons]
    unfold occBody
    rw [if_pos (⟨⟨⟨by simp, hf⟩, h1⟩, h2⟩ : ((((#[] : Array Nat), f).fst.size < 1 ∧ ((#[] : Array Nat), f).snd ≤ i) ∧ i + sub.length ≤ hi) ∧ subAt s sub i = true)]
    exact occ_stay s sub hi i post _
  | a :: pre, f, hf, hn => by
    rw [List.cons_append, List.forIn_cons]
    unfold occBody
    rw [if_neg (fun h => hn a (List.mem_cons_self ..) ⟨h.1.2, h.2⟩)]
    exact occ_hit s sub hi i post h1 h2 pre f hf fun j hj => hn j (List.mem_cons_of_mem _ hj)
open PySem.StrLaws PySem.Builtin.Str in
theorem occ_at {s sub : Str} {lo hi i : Nat} (h0 : lo ≤ i) (h1 : i + sub.length ≤ hi) (h2 : subAt s sub i = true) (hn : ∀ j, lo ≤ j → j < i → ¬ (j + sub.length ≤ hi ∧ subAt s sub j = true)) : occurrences s sub lo hi 1 = [i] := by
  rw [occ_eq]
  have e : List.range' lo (hi + 1 - lo) = List.range' lo (i - lo) ++ i :: List.range' (i + 1) (hi - i) := by
    have hih : i ≤ hi := Nat.le_trans (Nat.le_add_right _ _) h1
    have e1 : hi + 1 - lo = (i - lo) + (hi - i + 1) := by rw [Nat.add_comm (i - lo), ← Nat.sub_add_comm hih]; exact (Nat.sub_add_sub_cancel (Nat.le_succ_of_le hih) h0).symm
    have e2 : lo + (i - lo) = i := Nat.add_sub_of_le h0
    rw [e1, ← List.range'_append_1, e2, List.range'_succ]
  rw [e, occ_hit s sub hi i _ h1 h2 _ lo h0 (fun j hj => by rw [List.mem_range'_1] at hj; exact hn j hj.1 (Nat.lt_of_lt_of_eq hj.2 (Nat.add_sub_of_le h0)))]
open PySem.StrLaws PySem.Builtin.Str in
theorem occ_no {s sub : Str} {lo hi : Nat} (hn : ∀ j, lo ≤ j → j ≤ hi → ¬ (j + sub.length ≤ hi ∧ subAt s sub j = true)) : occurrences s sub lo hi 1 = [] := by
  rw [occ_eq]
  have := (occ_none s sub hi (List.range' lo (hi + 1 - lo)) lo (fun i h => by rw [List.mem_range'_1] at h; exact h.1)).mpr fun j hj => by
    rw [List.mem_range'_1] at hj
    refine hn j hj.1 (Nat.le_of_lt_succ ?_)
    rcases Nat.le_total lo (hi + 1) with h | h
    · exact Nat.lt_of_lt_of_eq hj.2 (Nat.add_sub_of_le h)
    · rw [Nat.sub_eq_zero_of_le h] at hj; exact absurd hj.2 (Nat.not_lt.mpr hj.1)
  rw [this]
open PySem.StrLaws PySem.Builtin.Str in
theorem subAt_c {l : List Nat} {c i : Nat} : subAt (oS l) (oS [c]) i = true ↔ l[i]? = some c := by
  rw [subAt_eq, oS_list, oS_list]
  exact take1_drop
open PySem.Builtin.Str in
theorem occ1_at {l : List Nat} {c lo hi i : Nat} (h0 : lo ≤ i) (h1 : i < hi) (h2 : l[i]? = some c) (hn : ∀ j, lo ≤ j → j < i → l[j]? ≠ some c) : occurrences (oS l) (oS [c]) lo hi 1 = [i] :=
  occ_at h0 (by show i + 1 ≤ hi; lia) (subAt_c.mpr h2) fun j a b h => hn j a b (subAt_c.mp h.2)
open PySem.Builtin.Str in
theorem occ1_no {l : List Nat} {c lo hi : Nat} (hn : ∀ j, lo ≤ j → j < hi → l[j]? ≠ some c) : occurrences (oS l) (oS [c]) lo hi 1 = [] :=
  occ_no fun j a b h => hn j a (by have : j + 1 ≤ hi := h.1; exact Nat.lt_of_lt_of_le (Nat.lt_succ_self j) this) (subAt_c.mp h.2)
section
variable {w : World} {A : Around} {E : Value → Shared → Prop} {g : Gd} {s₀ s s' : Shared} {ms : List Addr} {os os' os₁ os₂ : Os} {env : Env} {L : Addr} {nl : List Str} {vs vs' : List (Option Value)}
theorem v_sin {l : List Nat} {c : Nat} {t u : Tok} {Q : Value → Shared → Prop} (h : Q (.bool (decide (c ∈ l))) s) : Wp w A (compareOp .In (.str (oS [c]) u) (.str (oS l) t)) Q E s := by
  refine .of (PyProof.Rows.in_str ?_)
  have := PySem.StrLaws.found_one (oS l) c
  rw [oS_list] at this
  show Q (.bool (!(PySem.Builtin.Str.occurrences (oS l) ⟨#[c]⟩ 0 (oS l).length 1).isEmpty)) s
  rw [this]
  exact h
theorem c_snin {l : List Nat} {c : Nat} {t u : Tok} {Q : Bool → Shared → Prop} (h : Q (!decide (c ∈ l)) s) : Wp w A (compareOp .NotIn (.str (oS [c]) u) (.str (oS l) t)) (fun c s₃ => Wp w A (truthy c) Q E s₃) E s := by
  refine .of (PyProof.Rows.notIn_str (.of (wpAny_truthy_bool ?_)))
  have := PySem.StrLaws.found_one (oS l) c
  rw [oS_list] at this
  show Q (!(!(PySem.Builtin.Str.occurrences (oS l) ⟨#[c]⟩ 0 (oS l).length 1).isEmpty)) s
  rw [this]
  exact h
theorem it_str {x : Str} {t : Tok} {Q : Value → Shared → Prop} {p₀ : Addr × K} (F : St g s₀ ms (p₀ :: os) s) (ha : x.cps.all (· < 128) = true) (h : ∀ it s', s₀.heap.objs.size ≤ it → St g s₀ ms (p₀ :: (it, .siter x 0) :: os) s' → Q (.ref it) s') : Wp w A (pyIter (.str x t)) Q E s :=
  .of (wpAny_pyIter_ascii ha (h _ _ F.aft.size (F.pushB rfl ⟨t, _, Heap.get?_push_size _ rfl, rfl, rfl⟩ rfl rfl)))
theorem it_siter {it : Addr} {x : Str} {i : Nat} {Q : Value → Shared → Prop} (F : St g s₀ ms os s) (hm : Mem os it (.siter x i)) (h : Q (.ref it) s) : Wp w A (pyIter (.ref it)) Q E s := by
  obtain ⟨t, hit⟩ := F.mem hm
  exact .of (wpAny_pyIter_striter_ascii hit h)
theorem nx_str {it L : Addr} {i : Nat} {x : Str} {kL : K} {Q : Option Value → Shared → Prop} (F : St g s₀ ms os s) (hh : A.handled = none) (hL : (L, kL) ∈ os₂) (hL0 : s₀.heap.objs.size ≤ L) (hit : s₀.heap.objs.size ≤ it) (hu : Up os it (.siter x i) (.siter x (i + 1)) os₁) (hd : Del os it (.siter x i) os₂)
    (h1 : ∀ c, x.cps[i]? = some c → ∀ t s', St g s₀ ms os₁ s' → Q (some (.str (oS [c]) t)) s') (h2 : x.cps[i]? = none → ∀ s', St g s₀ ms os₂ s' → Q none s') : Wp w A (pyNext (.ref it)) Q E s := by
  refine .of ?_
  have h0 : K.At s.heap it (.siter x i) := F.at _ hu.mem
  obtain ⟨t, hr⟩ := h0
  cases hc : x.cps[i]? with
  | some c => exact wpAny_pyNext_ascii_item hr hc fun h' hr' hs => h1 c hc _ _ (F.update (s' := { s with heap := h', toks := s.toks + 1 }) hu hs ⟨t, hr'⟩ rfl rfl)
  | none => exact wpAny_pyNext_ascii_end hh hr hc fun h' hx => h2 hc _ (F.ended (s' := { s with heap := h' }) hd hL hL0 hx rfl rfl (hown := hit))
theorem Strs.vals {vs : List Value} {xs : List Str} (h : Strs vs xs) : ∃ l : List (Str × Tok), vs = strValues l ∧ l.map (·.1) = xs := by
  induction h with
  | nil => exact ⟨[], rfl, rfl⟩
  | cons hv _ ih =>
    refine ex1 hv ?_; (try clear hv); intro t hR1
    subst hR1
    refine ex1 ih ?_; (try clear ih); intro l hJ
    refine and2 hJ ?_; clear hJ; intro hR2 hR3
    subst hR2
    subst hR3
    exact ⟨(_, t) :: l, rfl, rfl⟩
theorem k_join {D : Addr} {x : Str} {t : Tok} {xs : List Str} {Q : Value → Shared → Prop} (F : St g s₀ ms os s) (hm : Mem os D (.strs xs)) (hok : JoinOk x xs = true) (h : ∀ t' s', St g s₀ ms os s' → Q (.str (Txt.join x xs) t') s') : Wp w A (call (.builtin "str.join") [.str x t, .ref D]) Q E s := by
  refine ex2 (F.mem hm) ?_; intro us n hJ
  refine and2 hJ ?_; clear hJ; intro ho hi
  refine ex1 hi.vals ?_; intro l hJ
  refine and2 hJ ?_; clear hJ; intro hR4 hl
  subst hR4
  exact .of (SC.join (listO_is ho) hl hok fun t' k => h _ _ (F.tick k))
end
end
/-! MX21 -/
section
set_option hygiene false
section
variable {w : World} {A : Around} {E : Value → Shared → Prop} {g : Gd} {s₀ s s' : Shared} {ms : List Addr} {os os' os₁ os₂ : Os} {env : Env} {L : Addr} {nl : List Str} {vs vs' : List (Option Value)}
theorem fromIndex_nat (n i : Nat) : fromIndex n (i : Int) = i := by
  unfold fromIndex
  rw [if_neg (Int.not_lt.mpr (Int.natCast_nonneg i))]
  exact tn (Int.max_eq_right (Int.natCast_nonneg i))
theorem k_index {l : List Nat} {c i m : Nat} {t u v : Tok} {Q : Value → Shared → Prop} (F : St g s₀ ms os s) (ho : PySem.Builtin.Str.occurrences (oS l) (oS [c]) i l.length 1 = [m]) (h : ∀ t' s', St g s₀ ms os s' → Q (.int m t') s') : Wp w A (call (.builtin "str.index") [.str (oS l) t, .str (oS [c]) u, .int i v]) Q E s := by
  refine .of (wpAny_call_entry PySem.F.slot_str_index (typeIs_str _ _ _) PySem.F.entry_str_index ?_ (PySem.F.args_str_index_3 _ _ _))
  show wpAny _ _ (match PySem.Builtin.Str.occurrences (oS l) (oS [c]) (fromIndex (oS l).length i) (min (oS l).length (oS l).length) 1 with | k :: _ => retInt k | [] => _) _ _ s
  rw [Nat.min_self, fromIndex_nat, oS_len, ho]
  exact wpAny_bind (wpAny_mkInt (wpAny_pure ⟨_, rfl, h _ _ (F.tick _)⟩))
theorem k_find {l : List Nat} {c i j : Nat} {t u v v2 : Tok} {Q : Value → Shared → Prop} (F : St g s₀ ms os s) (hj : j ≤ l.length) (h : ∀ t' s', St g s₀ ms os s' → Q (.int (match PySem.Builtin.Str.occurrences (oS l) (oS [c]) i j 1 with | k :: _ => (k : Int) | [] => -1) t') s') : Wp w A (call (.builtin "str.find") [.str (oS l) t, .str (oS [c]) u, .int i v, .int j v2]) Q E s := by
  refine .of (wpAny_call_entry PySem.F.slot_str_find (typeIs_str _ _ _) PySem.F.entry_str_find ?_ (PySem.F.args_str_find_4 _ _ _ _))
  show wpAny _ _ (match PySem.Builtin.Str.occurrences (oS l) (oS [c]) (fromIndex (oS l).length i) (min (fromIndex (oS l).length j) (oS l).length) 1 with | k :: _ => retInt k | [] => (do rule "str.find.not-found"; retInt (-1))) _ _ s
  rw [fromIndex_nat, fromIndex_nat, oS_len, Nat.min_eq_left hj]
  cases ho : PySem.Builtin.Str.occurrences (oS l) (oS [c]) i j 1 with
  | nil => rw [ho] at h; exact wpAny_bind (wpAny_rule (wpAny_bind (wpAny_mkInt (wpAny_pure ⟨_, rfl, h _ _ (F.tick _)⟩))))
  | cons k r => rw [ho] at h; exact wpAny_bind (wpAny_mkInt (wpAny_pure ⟨_, rfl, h _ _ (F.tick _)⟩))
theorem e_cmp {l r : Expr} {op : CmpOp} {pos : Pos} {Q : Value → Shared → Prop} (h : Wp w A (eval l env) (fun a s₁ => Wp w A (eval r env) (fun b s₂ => Wp w A (compareOp op a b) Q E s₂) E s₁) E s)
    (hm : autoParam (behindInMarks op r = false) tWrfl) : Wp w A (eval (.Compare l [op] [r] pos) env) Q E s := by
  rw [eval_Compare1, markedBehindIn_of_false hm]
  exact Wp.bind (h.imp fun a s₁ h₁ => Wp.bind (Wp.holding (h₁.imp fun b s₂ h₂ => Wp.bind (Wp.standAt (Wp.operate h₂)))))
theorem c_bne {a b : Bool} {Q : Bool → Shared → Prop} (h : Q (a != b) s) : Wp w A (compareOp .NotEq (.bool a) (.bool b)) (fun c s₃ => Wp w A (truthy c) Q E s₃) E s :=
  .of (PySem.EqBoolInt.of_rcne (SeqAt.RcNeAt.bool_bool a b) (.of (wpAny_truthy_bool h)))
theorem c_sle {x y : Str} {t u : Tok} {Q : Bool → Shared → Prop} (h : Q (!decide (y.cps.toList < x.cps.toList)) s) : Wp w A (compareOp .LtE (.str x t) (.str y u)) (fun c s₃ => Wp w A (truthy c) Q E s₃) E s := .of (PySem.P.le_str (.of (wpAny_truthy_bool h)))
theorem c_sgt {x y : Str} {t u : Tok} {Q : Bool → Shared → Prop} (h : Q (decide (y.cps.toList < x.cps.toList)) s) : Wp w A (compareOp .Gt (.str x t) (.str y u)) (fun c s₃ => Wp w A (truthy c) Q E s₃) E s := .of (PySem.P.gt_str (.of (wpAny_truthy_bool h)))
theorem t_chain2 {l r1 r2 : Expr} {o1 o2 : CmpOp} {pos : Pos} {whole : Sem Value} {Q : Bool → Shared → Prop}
    (h : Wp w A (eval l env) (fun a s₁ => Wp w A (eval r1 env) (fun b s₂ => Wp w A (compareOp o1 a b) (fun c s₃ => Wp w A (truthy c) (fun ok s₄ => if ok then Wp w A (eval r2 env) (fun d s₅ => Wp w A (compareOp o2 b d) (fun c s₃ => Wp w A (truthy c) Q E s₃) E s₅) E s₄ else Q false s₄) E s₃) E s₂) E s₁) E s)
    (hm : autoParam (behindInMarks o2 r2 = false) tWrfl) :
    Wp w A (isTrue (.Compare l [o1, o2] [r1, r2] pos) env whole) Q E s := by
  rw [arm_isTrue_Compare]
  refine Wp.bind (h.imp fun a s₁ h₁ => ?_)
  show Wp w A (testChain pos a [o1, o2] [eval r1 env, markedBehindIn o2 r2 (eval r2 env)]) Q E s₁
  rw [markedBehindIn_of_false hm]
  show Wp w A (do
    let b ← holding [a] (eval r1 env)
    standAt pos
    let c ← holding [a, b] (compareOp o1 a b)
    release [a, b] [c]
    if ← holding [c, b] (truthy c) then testChain pos b [o2] [eval r2 env] else pure false) Q E s₁
  refine Wp.bind (Wp.holding (h₁.imp fun b s₂ h₂ => Wp.bind (Wp.standAt (Wp.bind (Wp.holding (h₂.imp fun c s₃ h₃ => Wp.bind (Wp.release (Wp.bind (Wp.holding (h₃.imp fun ok s₄ h₄ => ?_))))))))))
  cases ok with
  | false => exact Wp.pure h₄
  | true =>
    have h₄ : Wp w A (eval r2 env) _ E s₄ := h₄
    show Wp w A (do
      let d ← holding [b] (eval r2 env)
      standAt pos
      let c ← operate [b, d] (compareOp o2 b d)
      holding [c] (truthy c)) Q E s₄
    exact Wp.bind (Wp.holding (h₄.imp fun d s₅ h₅ => Wp.bind (Wp.standAt (Wp.bind (Wp.operate (h₅.imp fun c s₆ h₆ => Wp.holding h₆))))))
end
end
/-! MX22 -/
section
set_option hygiene false
theorem tx_neg {l : List Nat} {m : Nat} (h0 : 0 < m) (h1 : m ≤ l.length) : Txt.slice (oS l) (some (-(m : Int))) none = oS (l.drop (l.length - m)) := by
  rw [← tx_sn (l := l) (i := ((l.length - m : Nat) : Int)) rfl (Nat.sub_le _ _)]
  unfold Txt.slice
  rw [oS_len, PySem.StrLaws.sliceIdx_neg_lo none l.length (by lia) (by lia)]
  have : (-(m : Int) + l.length) = ((l.length - m : Nat) : Int) := by rw [cast_sub h1, Int.add_comm]; rfl
  rw [this]
theorem tx_nneg {l : List Nat} {m : Nat} (h0 : 0 < m) (h1 : m ≤ l.length) : Txt.slice (oS l) none (some (-(m : Int))) = oS (l.take (l.length - m)) := by
  rw [← tx_ns (l := l) (j := ((l.length - m : Nat) : Int)) rfl (Nat.sub_le _ _)]
  unfold Txt.slice
  rw [oS_len, PySem.StrLaws.sliceIdx_neg_hi none l.length (by lia) (by lia)]
  have : (-(m : Int) + l.length) = ((l.length - m : Nat) : Int) := by rw [cast_sub h1, Int.add_comm]; rfl
  rw [this]
theorem Up.chg {os os' : Os} {a : Addr} {k k' : K} (hu : Up os a k k' os') (k2 : K) : ∃ os2, Up os a k k2 os2 ∧ Up os2 a k2 k' os' := by
  induction hu with
  | here => exact ⟨_, .here, .here⟩
  | there _ ih => obtain ⟨o, h1, h2⟩ := ih; exact ⟨_, .there h1, .there h2⟩
section
variable {w : World} {A : Around} {E : Value → Shared → Prop} {g : Gd} {s₀ s s' : Shared} {ms : List Addr} {os os' os₁ os₂ : Os} {env : Env} {L : Addr} {nl : List Str} {vs vs' : List (Option Value)}
theorem e_neg {i : Int} {k : Nat} {p pos : Pos} {Q : Value → Shared → Prop} (F : St g s₀ ms os s) (h : ∀ t s', St g s₀ ms os s' → Q (.int (-i) t) s') : Wp w A (eval (.UnaryOp .USub (.Constant (.int i) k p) pos) env) Q E s := by
  rw [arm_eval_UnaryOp]
  exact Wp.bind (e_int F fun tk s' F' => Wp.bind (Wp.standAt (Wp.holding (.of (PySem.P.neg_int (h _ _ (F'.tick _)))))))
theorem St.turnU {a : Addr} {k k' : K} (F : St g s₀ ms os s) (hu : Up os a k k' os') (h : K.At s.heap a k → K.At s.heap a k') (hs : k'.soft → k.soft) : St g s₀ ms os' s := by
  refine ⟨F.inv, F.aft, fun p hp => ?_, by rw [hu.map]; exact F.nod, fun p hp hsf => ?_, fun p hp => ?_, F.base⟩
  · rcases hu.get F.nod hp with rfl | ⟨_, hp'⟩
    · exact h (F.at _ hu.mem)
    · exact F.at _ hp'
  · rcases hu.get F.nod hp with rfl | ⟨_, hp'⟩
    · exact F.own (a, k) hu.mem (hs hsf)
    · exact F.own _ hp' hsf
  · rcases hu.get F.nod hp with rfl | ⟨_, hp'⟩
    · exact F.low (a, k) hu.mem
    · exact F.low _ hp'
theorem Strs.snoc {vs : List Value} {xs : List Str} (h : Strs vs xs) {x : Str} {t : Tok} : Strs (vs ++ [.str x t]) (xs ++ [x]) := by
  induction h with
  | nil => exact .cons ⟨t, rfl⟩ .nil
  | cons hv _ ih => exact .cons hv ih
theorem app_strs {D : Addr} {xs : List Str} {x : Str} {t : Tok} {Q : Value → Shared → Prop} (F : St g s₀ ms os s) (hu : Up os D (.strs xs) (.strs (xs ++ [x])) os') (hz : xs.length ≤ 1000) (h : ∀ s', St g s₀ ms os' s' → Q .none s') : Wp w A (call (.builtin "list.append") [.ref D, .str x t]) Q E s := by
  refine ex2 ((F.at _ hu.mem : K.At s.heap D (.strs xs))) ?_; intro us n hJ
  refine and2 hJ ?_; clear hJ; intro ho hi
  obtain ⟨o1, u1, u2⟩ := hu.chg (.list us)
  obtain ⟨o2, u3, u4⟩ := u2.chg (.list (us ++ [.str x t]))
  refine app_list (F.turnU u1 (fun _ => ⟨n, ho⟩) fun _ => trivial) u3 (by rw [hi.length]; exact hz) fun s' F' => h s' (F'.turnU u4 (fun ⟨n, h⟩ => ⟨_, n, h, hi.snoc⟩) fun _ => trivial)
theorem e_true {k : Nat} {pos : Pos} {Q : Value → Shared → Prop} (h : Q (.bool true) s) : Wp w A (eval (.Constant (.bool true) k pos) env) Q E s := Wp.pure h
theorem e_false {k : Nat} {pos : Pos} {Q : Value → Shared → Prop} (h : Q (.bool false) s) : Wp w A (eval (.Constant (.bool false) k pos) env) Q E s := Wp.pure h
end
end
/-! MX23 -/
section
set_option hygiene false
section
variable {w : World} {A : Around} {E : Value → Shared → Prop} {g : Gd} {s₀ s s' : Shared} {ms : List Addr} {os os' os₁ os₂ : Os} {env : Env} {L : Addr} {nl : List Str} {vs vs' : List (Option Value)}
theorem v_seq {x y : Str} {t u : Tok} {Q : Value → Shared → Prop} (h : Q (.bool (x == y)) s) : Wp w A (compareOp .Eq (.str x t) (.str y u)) Q E s := .of (eq_str h)
theorem tr_bool {b : Bool} {Q : Bool → Shared → Prop} (h : Q b s) : Wp w A (truthy (.bool b)) Q E s := .of (wpAny_truthy_bool h)
theorem ifs1 {c : Expr} {Q : Bool → Shared → Prop} (h : Wp w A (isTrue c env (eval c env)) Q E s) : Wp w A (forIn [c] true fun c r => if r = true then do let ok ← isTrue c env (eval c env); pure (ForInStep.yield ok) else pure (ForInStep.yield r)) Q E s := by
  rw [List.forIn_cons]
  refine Wp.bind ?_
  rw [if_pos rfl]
  refine Wp.bind (h.imp fun ok s' h' => Wp.pure ?_)
  dsimp only
  rw [List.forIn_nil]
  exact Wp.pure h'
theorem ifs0 {Q : Bool → Shared → Prop} (h : Q true s) : Wp w A (forIn ([] : List Expr) true fun c r => if r = true then do let ok ← isTrue c env (eval c env); pure (ForInStep.yield ok) else pure (ForInStep.yield r)) Q E s := by
  rw [List.forIn_nil]
  exact Wp.pure h
theorem abL : (Str.ofString "ab").cps.all (· < 128) = true := by decide +kernel
/-- a comprehension over the signs a, b: those with the property -/
theorem comp_ab {cond : Expr} {scope : Scope} {k : Nat} {sp tp ip pos ipos : Pos} {cl : List (Str × Addr)} {Q : Value → Shared → Prop} {p₀ : Addr × K} (p : Nat → Bool)
    (hh : A.handled = none) (F : St g s₀ ms (p₀ :: os) s)
    (hclos : closureFor scope env = pure cl) (hcell : scope.names.all (fun y => y.2 != .cell) = true) (hkind : scope.kind = .function) (hnames : scope.names.all (fun y => y.2 != .local || scope.names.lookup y.1 == some .local) = true)
    (hnl : (["sign"] : List Str).all (fun x => scope.names.lookup x == some .local && !(x == ("__debug__" : Str))) = true) (hg : env.globals = mainGlobals) (hbl : env.builtins = builtinsNs)
    (hcond : ∀ c t C kD kit D it s', (c = 97 ∨ c = 98) → St g s₀ ms ((C, .ns ["sign"] [some (.str (oS [c]) t)]) :: p₀ :: (D, kD) :: (it, kit) :: os) s' → En (compEnvC scope cl C env) C ["sign"] → ∀ Q, (∀ s'', St g s₀ ms ((C, .ns ["sign"] [some (.str (oS [c]) t)]) :: p₀ :: (D, kD) :: (it, kit) :: os) s'' → Q (p c) s'') → Wp w A (isTrue cond (compEnvC scope cl C env) (eval cond (compEnvC scope cl C env))) Q NoE s')
    (h : ∀ D s', s₀.heap.objs.size ≤ D → St g s₀ ms (p₀ :: (D, .strs (([97, 98].filter p).map fun c => oS [c])) :: os) s' → Q (.ref D) s') :
    Wp w A (comprehension (.ListComp (.Name "sign" sp) [⟨.Name "sign" tp, .Constant (.str "ab") k ip, [cond], 0⟩] scope pos) scope env ipos (newList []) false (eval (.Constant (.str "ab") k ip) env) none) Q E s := by
  refine wp_comp (g := g) (s₀ := s₀) (ms := ms) ["sign"] (cl := cl) hclos hcell hkind hnames hnl (by decide +kernel) hg hbl ?_
  refine e_str F ?_; (clear F; intro tk s F)
  refine it_str F abL ?_; clear F; intro it s hit F
  refine ⟨_, _, F, ?_⟩
  clear F s
  intro D C s hD hC F ec
  refine ⟨fun m s => ∃ (i : Nat) (acc : List Str) (va : Option Value), i + m = 2 ∧ acc = (([97, 98].take i).filter p).map (fun c => oS [c]) ∧
    St g s₀ ms ((C, .ns ["sign"] [va]) :: p₀ :: (D, .strs acc) :: (it, .siter (Str.ofString "ab") i) :: os) s, 2, ⟨0, [], none, rfl, rfl, ?_⟩, ?_, ?_⟩
  · exact F.turnU (.there (.there .here)) (fun ⟨n, h⟩ => ⟨[], n, h, .nil⟩) fun _ => trivial
  · intro m s hI2
    refine ex3 hI2 ?_; (try clear hI2); intro i acc va hJ
    refine and3 hJ ?_; clear hJ; intro hi hacc F
    exact it_siter F (.there (.there (.there .here))) ⟨rfl, _, i, acc, va, hi, hacc, F⟩
  clear F s
  intro m s hI2 K hK
  refine ex3 hI2 ?_; (try clear hI2); intro i acc va hJ
  refine and3 hJ ?_; clear hJ; intro hi hR1 F
  subst hR1
  refine nx_str F hh (.head _) hC hit (.there (.there (.there .here))) (.there (.there (.there .here))) ?_ ?_
  · intro c hc t s F
    have hcc : (i = 0 ∧ c = 97) ∨ (i = 1 ∧ c = 98) := by
      have h2 : (Str.ofString "ab").cps = #[97, 98] := by decide +kernel
      rw [h2] at hc
      match i, hc with
      | 0, hc => simp at hc; exact .inl ⟨rfl, hc.symm⟩
      | 1, hc => simp at hc; exact .inr ⟨rfl, hc.symm⟩
      | (n + 2), hc => simp at hc
    refine Wp.val (a := ()) rfl ?_
    refine x_name ?_
    refine s_loc F ec .here ?_
    clear F; intro s F
    refine ifs1 (hcond c t C _ _ D it s (by lia) F ec _ ?_)
    clear F; intro s F
    have htk : [97, 98].take (i + 1) = [97, 98].take i ++ [c] := by rcases hcc with h | h <;> rw [h.1, h.2] <;> rfl
    have hi2 : i < 2 := by rcases hcc with h | h <;> rw [h.1] <;> decide
    cases hp : p c with
    | false =>
      rw [if_neg (by decide)]
      have e : (([97, 98].take (i + 1)).filter p).map (fun c => oS [c]) = (([97, 98].take i).filter p).map (fun c => oS [c]) := by
        rw [htk, List.filter_append, List.filter_cons, hp, if_neg (by decide), List.filter_nil, List.append_nil]
      rw [← e] at F
      exact hK (m - 1) _ (pred_lt (in_of hi hi2)) (exi3 (i + 1) _ _ ⟨step_eq hi hi2, rfl, F⟩)
    | true =>
      rw [if_pos rfl]
      refine e_loc F ec .here ?_
      refine app_strs F (.there (.there .here)) (by rw [List.length_map]; refine Nat.le_trans (List.length_filter_le _ _) ?_; rw [List.length_take]; exact Nat.le_trans (Nat.min_le_right _ _) (by decide)) ?_
      clear F; intro s F
      have e : (([97, 98].take (i + 1)).filter p).map (fun c => oS [c]) = (([97, 98].take i).filter p).map (fun c => oS [c]) ++ [oS [c]] := by
        rw [htk, List.filter_append, List.filter_cons, hp, if_pos rfl, List.filter_nil, List.map_append]; rfl
      rw [← e] at F
      exact hK (m - 1) _ (pred_lt (in_of hi hi2)) (exi3 (i + 1) _ _ ⟨step_eq hi hi2, rfl, F⟩)
  · intro hc s F
    have hi2 : i = 2 := by
      have h2 : (Str.ofString "ab").cps = #[97, 98] := by decide +kernel
      rw [h2] at hc
      match i, hc with
      | 0, hc => simp at hc
      | 1, hc => simp at hc
      | (n + 2), hc => lia
    subst hi2
    refine ⟨_, _, _, F, ?_⟩
    clear F; intro s F
    exact h D s hD F
end
end
/-! MX24 -/
section
set_option hygiene false
section
variable {w : World} {A : Around} {E : Value → Shared → Prop} {g : Gd} {s₀ s s' : Shared} {ms : List Addr} {os os' : Os} {env : Env} {L : Addr} {nl : List Str} {vs vs' : List (Option Value)}
theorem frz_tab {ps : Array Value} : ¬ Frz (tabO ps) := fun hf => by rcases hf with ⟨e, _⟩ | ⟨e, _⟩ <;> simp [tabO] at e
/-- the table of the nested code has grown -/
theorem St.tabbed {kL : K} (F : St g s₀ ms os s) (hL : (L, kL) ∈ os) (hL0 : s₀.heap.objs.size ≤ L) (hx : Heap.ExtBut g.P s.heap s'.heap) (hT : Tb g s'.heap) (ho : s'.os = s.os) (hg : AllBare s.gens → AllBare s'.gens) : St g s₀ ms os s' := by
  refine ex1 F.inv.tab ?_; intro ps hJ
  refine and2 hJ ?_; clear hJ; intro hp hU1
  have hP : @LT.lt Nat _ g.P g.h₁.objs.size := F.inv.P_lt
  have hbase : @LE.le Nat _ g.h₁.objs.size s₀.heap.objs.size := F.base
  have hL1 : @LE.le Nat _ s₀.heap.objs.size L := hL0
  have hne : L ≠ g.P := fun e => by have e' : @Eq Nat L g.P := e; exact Nat.not_lt_of_le (Nat.le_trans (Nat.le_trans hbase hL1) (Nat.le_of_eq e')) hP
  refine ex1 ((F.at _ hL).get) ?_; intro oL hJ
  refine and2 hJ ?_; clear hJ; intro hoL hU2
  have hLz := lt_sizeN (hx L oL hne hoL)
  have fr : Frozen s.heap s'.heap := fun b o e hf => hx b o (fun hb => by subst hb; rw [hp] at e; cases e; exact frz_tab hf) e
  refine ⟨⟨F.inv.ok, fun b o e hb => hx b o hb (F.inv.ext b o e hb), (Nat.le_trans (Nat.le_trans hbase hL1) (Nat.le_of_lt hLz)), hT⟩, ⟨fun b o e h1 h2 => hx b o h2 (F.aft.keep b o e h1 h2), fun b o e hf => fr b o (F.aft.frz b o e hf) hf, (Nat.le_trans hL1 (Nat.le_of_lt hLz)), ho.trans F.aft.os, fun h => hg (F.aft.gens h)⟩,
    fun p hp' => (F.at p hp').move (fun o e => hx _ o (fun hb => ?_) e) fr, F.nod, F.own, F.low, F.base⟩
  have hlow : @LE.le Nat _ g.h₁.objs.size p.1 := F.low p hp'
  have hb' : @Eq Nat p.1 g.P := hb
  lia
theorem Iv.isCode (I : Iv g s) : ∃ c ps, g.fc 10 = .ref c ∧ s.heap.IsCode c g.P ps := by
  obtain ⟨c, hc, o, us, file, tf, flags, tg, inF, text, tt, op, ho, hd, h11, h2, h7, h9, h10, hop, hpd, htr, hne⟩ := I.ok.tcode
  refine ex1 I.tab ?_; intro ps hJ
  refine and2 hJ ?_; clear hJ; intro hp ht
  exact ⟨c, ps, hc, o, us, file, tf, flags, tg, inF, text, tt, _, I.ext c o ho hne, hd, h11, h2, h7, h9, h10, hp, rfl, ht, hne⟩
/-- a nested code object, there or not -/
theorem code_any {env : Env} {pos : Pos} {make : CodeContext → Sem Value} {Q : Value → Shared → Prop} {kL : K} (F : St g s₀ ms os s) (hL : (L, kL) ∈ os) (hL0 : s₀.heap.objs.size ≤ L) (hc : env.code = g.fc 10)
    (hm : ∀ ctx (s : Shared) (Q : Value → Shared → Prop), (∀ c h' tk, (∀ b o, s.heap.get? b = some o → h'.get? b = some o) → Q (.ref c) { s with heap := h', toks := tk }) → wpAny (model pw w) A (make ctx) Q E s)
    (h : ∀ code h' tk, Heap.ExtBut g.P s.heap h' → St g s₀ ms os { s with heap := h', toks := tk } → Q code { s with heap := h', toks := tk }) : wpAny (model pw w) A (codeAt env pos make) Q E s := by
  obtain ⟨c, ps, hgc, o, us, file, tf, flags, tg, inF, text, tt, op, ho, hd, h11, h2, h7, h9, h10, hop, hpd, htr, hne⟩ := F.inv.isCode
  refine ex1 F.inv.tab ?_; intro ps' hJ
  refine and2 hJ ?_; clear hJ; intro hp' ht'
  rw [hp'] at hop
  cases hop
  cases hpd
  unfold codeAt
  rw [hc, hgc, if_neg (show ¬ ((Value.ref c == Value.none) = true) from Bool.false_ne_true)]
  refine wpAny_bind (wpAny_fieldsOf ho hd ?_)
  rw [h11]
  refine wpAny_bind (wpAny_fieldsOf hp' rfl ?_)
  cases hnf : codeAmong pos ps.toList with
  | some cv => exact wpAny_pure (h cv s.heap s.toks (Heap.ExtBut.refl _ _) F)
  | none =>
    rw [h2, h7, h9, h10]
    refine wpAny_bind (hm _ _ _ fun c' h' tk hk => ?_)
    have hop' := hk _ _ hp'
    refine wpAny_bind (wpAny_updateFieldsOfTheText hop' rfl ?_)
    have hnew : Obj.mapFields (fun vs => if (codeAmong pos vs.toList).isSome = true then vs else vs ++ #[rawInt pos.line, rawInt pos.col, .ref c']) (tabO ps) = tabO (ps ++ #[rawInt pos.line, rawInt pos.col, .ref c']) := by
      simp [Obj.mapFields, tabO, hnf]
    have hget := Heap.get?_update_self (h := h') (fun o => Obj.mapFields (fun vs => if (codeAmong pos vs.toList).isSome = true then vs else
      vs ++ #[rawInt pos.line, rawInt pos.col, .ref c']) o) hop' (by rw [hnew]; rfl)
    rw [hnew] at hget
    refine wpAny_bind (wpAny_fieldsOf hget rfl ?_)
    have hl : (ps ++ #[rawInt pos.line, rawInt pos.col, Value.ref c']).toList = ps.toList ++ [rawInt pos.line, rawInt pos.col, .ref c'] := by simp
    rw [hl, codeAmong_snoc _ ht' hnf]
    have hx : Heap.ExtBut g.P s.heap (h'.update g.P (Obj.mapFields fun vs => if (codeAmong pos vs.toList).isSome = true then vs else vs ++ #[rawInt pos.line, rawInt pos.col, .ref c'])) :=
      fun b o' hb e => ((Heap.SameBut.update ..).extBut b o' hb (hk b o' e))
    exact wpAny_pure (h _ _ _ hx (F.tabbed (s' := { s with heap := _, toks := tk }) hL hL0 hx ⟨_, hget, by rw [hl]; exact TriplesOk_snoc _ _ _ _ ht'⟩ rfl id))
theorem e_lam {args : Arguments} {body : Expr} {scope : Scope} {pos : Pos} {Q : Value → Shared → Prop} {p₀ : Addr × K} (F : St g s₀ ms (p₀ :: os) s) (hL0 : s₀.heap.objs.size ≤ p₀.1) (hc : env.code = g.fc 10) (hg : env.globals = mainGlobals)
    (hclos : closureFor scope env = pure []) (hdef : defaultsOf args env = ([], [])) (hkw : args.kwonlyargs = [])
    (h : ∀ a o s', s₀.heap.objs.size ≤ a → St g s₀ ms (p₀ :: (a, .raw o) :: os) s' → o.cls = .type "function" → Q (.ref a) s') : Wp w A (eval (.Lambda args body scope pos) env) Q E s := by
  rw [arm_eval_Lambda]
  refine .of ?_
  simp only [hdef]
  refine wpAny_bind (m := evalAll []) (wpAny_pure ?_)
  refine wpAny_bind (wpAny_holding (show wpAny _ _ (evalAllOpt []) _ _ _ from wpAny_pure ?_))
  unfold makeFunction
  simp only [hkw, List.zip_nil_left, List.filterMap_nil, List.isEmpty_nil, if_true]
  refine wpAny_bind (wpAny_pure (wpAny_bind (wpAny_pure (wpAny_bind (wpAny_pure ?_)))))
  rw [hclos]
  refine wpAny_bind (wpAny_pure ?_)
  first | refine wp_ify rfl ?_ | refine bm_if_true rfl ?_ | simp only [List.isEmpty_nil, if_true]
  refine wpAny_bind (wpAny_pure ?_)
  refine wpAny_bind (code_any F (.head _) hL0 hc (fun ctx s Q hq => wpAny_newCode fun c P h' tk hk _ _ _ _ => hq c h' tk hk) fun code h' tk hx F => ?_)
  obtain ⟨bm, ob, b1, b2, b3, b4, b5, b6⟩ := F.inv.ok.bmod
  refine wpAny_bind (wpAny_builtinsFor (hg ▸ F.inv.ns F.inv.ok.gl) b1 b2 (F.inv.get b3 (by rw [b6]; nofun)) b4 b5 b6 ?_)
  refine wpAny_bind (wpAny_nsGet (hg ▸ F.inv.ns F.inv.ok.gl) ?_)
  refine wpAny_bind (wpAny_pure ?_)
  exact wpAny_newObj_type (h _ _ _ F.aft.size (F.freshH (k := .raw _) (fun b o e => Heap.get?_push_of_some _ e) (Heap.get?_push_size _ rfl) (Nat.le_refl _)) rfl)
end
end
/-! MX25 -/
section
set_option hygiene false
section
variable {w : World} {A : Around} {E : Value → Shared → Prop} {g : Gd} {s₀ s s' : Shared} {ms : List Addr} {os os' : Os} {env : Env} {L : Addr} {nl : List Str} {vs vs' : List (Option Value)}
noncomputable abbrev WA (w : World) (A : Around) {α : Type} (t : Sem α) (Q : α → Shared → Prop) (E : Value → Shared → Prop) (s : Shared) : Prop := wpAny (model pw w) A t Q E s
theorem ev_consA {x : Sem Value} {rest : List (Bool × Sem Value)} {Q : List Value → Shared → Prop}
    (h : WA w A x (fun v s₁ => WA w A (spliced rest) (fun vs s₂ => Q (v :: vs) s₂) E s₁) E s) : WA w A (spliced ((false, x) :: rest)) Q E s := by
  unfold WA at *
  rw [spliced]
  refine wpAny_bind (wpAny_mono h (fun v s₁ h₁ => ?_) fun _ _ x => x)
  first | refine wp_ifn Bool.false_ne_true ?_ | refine bm_if_false rfl ?_ | simp only [Bool.false_eq_true, if_false]
  exact wpAny_bind (wpAny_pure (wpAny_bind (wpAny_holding (wpAny_mono h₁ (fun vs s₂ h₂ => wpAny_pure h₂) fun _ _ x => x))))
/-- a method with two arguments, in any context -/
theorem em2 {o a b : Expr} {name : Str} {apos pos : Pos} {Q : Value → Shared → Prop}
    (h : WA w A (eval o env) (fun ov s₁ => ∃ id, Rcv name ov id s₁ ∧ WA w A (eval a env) (fun v s₂ => WA w A (eval b env) (fun v2 s₃ => WA w A (call (.builtin id) [ov, v, v2]) Q E s₃) E s₂) E s₁) E s)
    (hbase : autoParam (attributeBase o name env (eval o env) = eval o env) tRfl) (hs : autoParam (backTo pos (starEach [a, b] env) = [(false, eval a env), (false, eval b env)]) tRfl) (hline : autoParam ((apos.endLine == pos.line) = true) tRfl) : WA w A (eval (.Call (.Attribute o name apos) [a, b] [] pos) env) Q E s := by
  unfold WA at *
  rw [arm_eval_Call, hbase, hs]
  refine wpAny_bind (wpAny_mono h (fun ov s₁ h₁ => ?_) fun _ _ x => x)
  obtain ⟨id, ⟨T, pa, slot, hty, hT, hd⟩, hc⟩ := h₁
  refine wpAny_bind (wpAny_standAt ?_)
  have hform : methodCallForm ([a, b].length + ([] : List Keyword).length) [(false, eval a env), (false, eval b env)] (backToKw pos (keywordEach [] env)) = true := rfl
  have hpos : methodCallPos true o env apos pos = pure pos := by unfold methodCallPos; simp [hline]
  unfold methodCall
  rw [hform]
  refine wpAny_bind (wpAny_holding (getMethod_builtin hT pa slot hty hd ?_))
  refine wpAny_bind (wpAny_of_eq hpos ?_)
  show wpAny _ _ (callWith pos (.builtin id) [ov] [(false, eval a env), (false, eval b env)] []) _ _ _
  unfold callWith
  have hsp : wpAny (model pw w) A (spliced [(false, eval a env), (false, eval b env)]) (fun us s₂ => wpAny (model pw w) A (call (.builtin id) (ov :: us)) Q E s₂) E s₁ :=
    ev_consA (wpAny_mono hc (fun v s₂ h₂ => ev_consA (wpAny_mono h₂ (fun v2 s₃ h₃ => wpAny_pure h₃) fun _ _ x => x)) fun _ _ x => x)
  have he : wpAny (model pw w) A (evalArgs (.builtin id) true [(false, eval a env), (false, eval b env)] []) (fun a s₁ => a.kw = [] ∧ wpAny (model pw w) A (call (.builtin id) ([ov] ++ a.pos)) Q E s₁) E s₁ := by
    unfold evalArgs
    show wpAny _ _ (spliced _ >>= _) _ _ _
    exact wpAny_bind (wpAny_mono hsp (fun us s₁ h₁ => wpAny_holding (wpAny_bind (wpAny_pure (wpAny_bind (wpAny_pure (wpAny_pure ⟨rfl, h₁⟩)))))) fun _ _ x => x)
  refine wpAny_bind (wpAny_holding (wpAny_mono he (fun a s₁ h₁ => wpAny_bind (wpAny_standAt ?_)) fun _ _ x => x))
  obtain ⟨ap, akw⟩ := a
  obtain ⟨hkw, hq⟩ := h₁
  dsimp only at hkw hq ⊢
  subst hkw
  exact wpAny_bind (m := keeperOf _) (wpAny_pure (wpAny_bind (wpAny_mono hq (fun r s₂ hr => wpAny_bind (wpAny_holding (wpAny_point (wpAny_pure hr)))) fun _ _ x => x)))
theorem k_repl0 {x y z : Str} {t u v : Tok} {Q : Value → Shared → Prop} (ho : (PySem.Builtin.Str.occurrences x y 0 x.length (x.length + 1)).isEmpty = true) (h : Q (.str x t) s) : WA w A (call (.builtin "str.replace") [.str x t, .str y u, .str z v]) Q E s := by
  refine wpAny_call_entry PySem.F.slot_str_replace (typeIs_str _ _ _) PySem.F.entry_str_replace ?_ (PySem.F.args_str_replace_3 _ _ _)
  show wpAny _ _ (if ((PySem.Builtin.Str.occurrences x y 0 x.length (x.length + 1)).isEmpty || (y.length == 0 && z.length == 0)) = true then (do rule "str.replace.nothing"; ret (.str x t)) else _) _ _ _
  rw [ho, Bool.true_or, if_pos rfl]
  exact wpAny_bind (wpAny_rule (wpAny_pure ⟨_, rfl, h⟩))
/-- text.join(..) of a generator over a list of texts whose element leaves each text as it is -/
theorem k_joingen {elt : Expr} {D : Addr} {x : Str} {px pd pos : Pos} {nm : Str} {scope : Scope} {sep : Str} {t : Tok} {ts : List Str} {p₀ : Addr × K} {Q : Value → Shared → Prop}
    (hh : A.handled = none) (F : St g s₀ ms (p₀ :: os) s) (hL0 : s₀.heap.objs.size ≤ p₀.1) (hc : env.code = g.fc 10) (hg : env.globals = mainGlobals)
    (hm : Mem (p₀ :: os) D (.strs ts)) (hz : ts.length ≤ 100)
    (hit : ∀ (Q : Value → Shared → Prop) E, Q (.ref D) s → WA w A (eval (.Name nm pd) env) Q E s)
    (hco : scope.isCoroutine = false) (hclos : closureFor scope env = pure []) (hcell : ∀ y ∈ scope.names, y.2 ≠ .cell) (h0 : scope.names.lookup (".0" : Str) = some NameKind.local)
    (hx : scope.names.lookup x = some .local) (hkind : scope.kind = .function) (hroom : A.depth < recursionLimit)
    (helt : ∀ (A' : Around) E' C code (a : Str) (u : Tok) (s₂ : Shared) m₂, a ∈ ts → s₂.heap.Ns (genEnv scope [] C code builtinsNs env).locals m₂ → m₂ x = some (.str a u) → WA w A' (eval elt (genEnv scope [] C code builtinsNs env)) (fun y s₃ => (∃ u', y = .str a u') ∧ Keeps s₂ s₃) E' s₂)
    (hok : JoinOk sep ts = true) (h : ∀ t' s', St g s₀ ms (p₀ :: os) s' → Q (.str (Txt.join sep ts) t') s')
    (hs : autoParam (∀ y, genFold (.Name nm pd) env y = pure y) tIrfl) :
    Wp w A (eval (.GeneratorExp elt [⟨.Name x px, .Name nm pd, [], 0⟩] scope pos) env) (fun v s₂ => Wp w A (call (.builtin "str.join") [.str sep t, v]) Q E s₂) E s := by
  refine ex2 (F.mem hm) ?_; intro us n hJ
  refine and2 hJ ?_; clear hJ; intro ho hi
  have hl := listO_is ho
  refine .of (wpAny_GeneratorExp_walksQ hh hco hclos hcell h0 hx hkind hroom (hit _ _ ?_) hs)
  refine wpAny_pyIter_list hl ⟨F.inv.lim.push _, ?_⟩
  have F1 : St g s₀ ms (p₀ :: os) { s with heap := s.heap.push { cls := .type "list_iterator", data := .fields #[.ref D, .int 0 0] } } :=
    F.grow (fun b o e => Heap.get?_push_of_some _ e) (by show s.heap.objs.size ≤ (s.heap.push _).objs.size; rw [Heap.size_push]; exact Nat.le_succ _) rfl rfl
  unfold genexprCode
  refine code_any F1 (.head _) hL0 hc (fun ctx s Q hq => wpAny_newCode fun c P h' tk hk _ _ _ _ => hq c h' tk hk) fun code h' tk hx' F2 => ?_
  obtain ⟨bm, ob, b1, b2, b3, b4, b5, b6⟩ := F2.inv.ok.bmod
  refine wpAny_builtinsFor (hg ▸ F2.inv.ns F2.inv.ok.gl) b1 b2 (F2.inv.get b3 (by rw [b6]; nofun)) b4 b5 b6 ?_
  have hD : @LT.lt Nat _ D s.heap.objs.size := Heap.lt_size ho
  have hI2 : (s.heap.push { cls := .type "list_iterator", data := .fields #[.ref D, .int 0 0] }).objs.size = s.heap.objs.size + 1 := Heap.size_push ..
  refine ex1 F1.inv.tab ?_; intro ps1 hJ
  refine and2 hJ ?_; clear hJ; intro hp1 htr1
  have hPlt : @LT.lt Nat _ g.P s.heap.objs.size := Nat.lt_of_lt_of_le F.inv.P_lt (Nat.le_trans F.base F.aft.size)
  have hk1 : ∀ b o, b ≠ g.P → s.heap.get? b = some o → h'.get? b = some o := fun b o hb e => hx' b o hb (Heap.get?_push_of_some _ e)
  have hDP : D ≠ g.P := fun e => by
    refine ex1 F.inv.tab ?_; intro ps0 hJ
    refine and2 hJ ?_; clear hJ; intro hp0 hU1
    rw [e, hp0] at ho
    cases ho
  have hIP : s.heap.objs.size ≠ g.P := fun e => Nat.lt_irrefl _ (e ▸ hPlt)
  have hIt : h'.IsListIter s.heap.objs.size D 0 := ⟨_, hx' _ _ hIP (Heap.get?_push_size _ rfl), rfl, rfl⟩
  have hLi : h'.IsList D us.toArray := listO_is (hk1 _ _ hDP ho)
  have hIlt : @LT.lt Nat _ s.heap.objs.size h'.objs.size := by obtain ⟨_, e, _⟩ := hIt; exact Heap.lt_size e
  have hcs : cStatics < s.heap.objs.size := let ⟨_, hn, _⟩ := F.inv.lim; hn.lt
  have hus : us.length = ts.length := hi.length
  refine ⟨s.heap.objs.size, [s.heap.objs.size, D], [s.heap.objs.size], us.toArray.size, _, _, fun _ => true, fun i y => ∃ u, y = .str (ts.getD i Str.empty) u, rfl, (fun A' hA => Walks.list hA _ _ (Nat.ne_of_lt hD) us.toArray), ⟨hIt, hLi⟩, ?_, F2.inv.lim, ?_, ?_, ?_⟩
  · intro b hb
    rcases List.mem_cons.mp hb with rfl | hb
    · exact hIlt
    · cases List.mem_singleton.mp hb
      exact Nat.lt_trans hD hIlt
  · intro hm
    exact Nat.lt_irrefl _ (List.mem_singleton.mp hm ▸ hcs)
  · intro href hhref
    refine ⟨fun A' E' i v s₂ m₂ hA hP hn hm2 hk2 => ?_, fun A' E' i v s₂ m₂ hA hP _ hn hm2 hk2 => ?_⟩
    · rw [List.forIn_nil]
      exact wpAny_pure ⟨rfl, ⟨s₂.heap, s₂.toks, rfl, fun _ _ e => e⟩⟩
    · have hv' : us[i]? = some v := by simpa using hP
      have hlt : i < ts.length := by rw [← hus]; exact (List.getElem?_eq_some_iff.mp hv').1
      obtain ⟨u, hu⟩ := hi.get (i := i) (x := ts.getD i Str.empty) (by simp [List.getD_eq_getElem?_getD, hlt])
      rw [hv'] at hu
      cases hu
      refine helt A' E' _ code (ts.getD i Str.empty) u s₂ m₂ (by simp [List.getD_eq_getElem?_getD, hlt]) hn hm2
  · intro a h₅ tk₅ gs hgb hag hsz₅ hk₅ W hat
    have hpass : passing (fun _ => true) us.toArray.size 0 = List.range ts.length := by
      unfold passing
      simp [hus]
    have hat0 := hat
    rw [hpass, List.length_range] at W
    refine .of (SC.joinGen W.in4_2 (fun i s' st => st.1.typeIs) hat ?_ (List.mem_cons_self ..) (fun j v hv => ?_) (fun s' lt hmv hacc => ?_) (by show ts.length ≤ 2 ^ 24; exact Nat.le_trans hz (lb rfl)))
    · intro b hb
      show b < h₅.objs.size
      rw [hsz₅]
      rcases List.mem_cons.mp hb with rfl | hb
      · exact Nat.lt_succ_self _
      · rcases List.mem_cons.mp hb with rfl | hb
        · exact Nat.lt_succ_of_lt hag
        · exact Nat.lt_succ_of_lt (Nat.lt_trans (List.mem_range.mp hb) hag)
    · obtain ⟨i, _, u, hu⟩ := hv
      exact ⟨_, u, hu⟩
    · have hl2 : lt.map (·.1) = ts := by
        apply List.ext_getElem?
        intro j
        have hsz : lt.length = ts.length := by simpa [strValues] using hacc.1
        by_cases hj : j < ts.length
        · have hj' : j < lt.length := hsz ▸ hj
          obtain ⟨i, hi1, u, hv⟩ := hacc.2 j (.str lt[j].1 lt[j].2) (by simp [strValues, List.getElem?_eq_getElem hj'])
          injection hv with h1 _
          rw [List.getElem?_range hj] at hi1
          cases hi1
          simp [List.getElem?_eq_getElem hj', h1, List.getD_eq_getElem?_getD, hj]
        · rw [List.getElem?_eq_none (by simpa [hsz] using Nat.le_of_not_lt hj), List.getElem?_eq_none (Nat.le_of_not_lt hj)]
      rw [hl2]
      refine ⟨hok, fun t' k => h t' _ ?_⟩
      have hkeep : ∀ b o, b < s.heap.objs.size → h'.get? b = some o → s'.heap.get? b = some o := fun b o hb e => by
        refine hmv.heap b o (fun hmem => ?_) (hk₅ b o e)
        rcases List.mem_cons.mp hmem with rfl | hmem
        · exact Nat.lt_irrefl _ (Nat.lt_trans hIlt hb)
        · cases List.mem_singleton.mp hmem
          exact Nat.lt_irrefl _ hb
      refine F.tabbed (s' := { s' with toks := k }) (.head _) hL0 (fun b o hb e => hkeep b o (Heap.lt_size e) (hk1 b o hb e)) ?_ hmv.os ?_
      · refine ex1 F2.inv.tab ?_; intro ps2 hJ
        refine and2 hJ ?_; clear hJ; intro hp2 htr2
        exact ⟨ps2, hkeep _ _ hPlt hp2, htr2⟩
      · intro hb
        exact AllBare.moved (AllBare.push hb hgb) hmv.gens
end
end
/-! MX26 -/
section
set_option hygiene false
noncomputable def codeW : Array Nat := #[14, 14, 4, 1, 1, 9, 0, 64, 0, 1342177280, 0, 0, 0, 0, 0, 17, 0, 13, 11, 9, 0, 64, 0, 1342177280, 0, 0, 0, 0, 0, 17, 1, 1]
noncomputable def drv : Nat → Sre.M → Option Sre.M
  | 0, _ => none
  | k + 1, m => let m := m.runFor PySem.Builtin.Re.reTurnSteps; if m.outcome.isSome then some m else drv k m
noncomputable def noFind (text : Array Nat) : Bool := match drv 60 (Sre.forSearch codeW text 1 0 text.size false) with
  | some m => (match m.outcome with | some .failed => true | _ => false)
  | none => false
theorem nf1 : noFind #[97, 98] = true := by decide +kernel
theorem nf2 : noFind #[] = true := by decide +kernel
theorem nf3 : noFind #[97, 45, 98] = true := by decide +kernel
theorem nf4 : noFind #[33, 97] = true := by decide +kernel
theorem nf5 : noFind #[33, 98] = true := by decide +kernel
theorem nf6 : noFind #[33] = true := by decide +kernel
theorem lk_fn_call : typeLookup (.type "function") "__call__" = pure (some (.builtin "function.__call__")) := by rw [typeLookup_type, builtinLookup_eq_fast]; kernel_rfl
theorem plainAttrs_pat : PlainAttrs "re.Pattern" :=
  ⟨⟨"object.__getattribute__", by rw [typeLookup_type, builtinLookup_eq_fast]; kernel_rfl, by decide +kernel⟩, by rw [typeLookup_type, builtinLookup_eq_fast]; kernel_rfl⟩
theorem slot_pat_sub : Slot "re.Pattern" "sub" "re.Pattern.sub" :=
  .of (owner := "re.Pattern") (n := "sub") (by rw [typeLookup_type, builtinLookup_eq_fast]; kernel_rfl) (by decide +kernel) (by decide +kernel) (by decide +kernel)
    (by first | exact .inl (by decide +kernel) | exact .inr (by decide +kernel)) (by rw [isSubtype_type]; kernel_rfl)
theorem type_pat_sub : typeOf (.builtin "re.Pattern.sub") = pure (.type "method_descriptor") := by show builtinType _ = _; rw [builtinType_eq_fast]; kernel_rfl
theorem entry_pat_sub : entryFor table "re.Pattern.sub" = some Builtin.«re.Pattern.sub» := by first | exact entryFor_of_fast (by kernel_rfl) | exact entryFor_of_tree (by kernel_rfl)
theorem entry_pat_loop : entryFor table "re.Pattern.sub.loop" = some Builtin.«re.Pattern.sub.loop» := by first | exact entryFor_of_fast (by kernel_rfl) | exact entryFor_of_tree (by kernel_rfl)
theorem plain_pat_loop : plainId "re.Pattern.sub.loop" = true := by decide +kernel
theorem args_pat_sub (a b c : Value) : argsOk "re.Pattern.sub" ⟨[a, b, c], []⟩ := by unfold argsOk; kernel_rfl
theorem named_sub (a b : Value) : Builtin.Re.reNamed "re.Pattern.sub" "sub" ["repl", "string", "count"] 2 [a, b] [] = pure [some a, some b, none] := by rfl
end
/-! MX27 -/
section
set_option hygiene false
section
variable {w : World} {A : Around} {E : Value → Shared → Prop} {g : Gd} {s₀ s s' : Shared} {ms : List Addr} {os os' : Os} {env : Env} {L : Addr} {nl : List Str} {vs vs' : List (Option Value)}
theorem Wp.callBA {T : String} {name : Str} {id : String} {b : Builtin} {self : Value} {rest : List Value} {Q : Value → Shared → Prop} (h : Slot T name id) (hT : s.TypeIs self T) (hb : entryFor table id = some b) (ha : argsOk id ⟨self :: rest, []⟩) (hcl : Cln (Code.builtin id ⟨self :: rest, []⟩) = true)
    (hc : Wp w A.in1 (b ⟨self :: rest, []⟩) (fun fin s' => ∃ id2 b2 args2, fin = .again (.builtin id2 ⟨args2, []⟩) ∧ plainId id2 = true ∧ entryFor table id2 = some b2 ∧ Cln (Code.builtin id2 ⟨args2, []⟩) = true ∧ Wp w A.in1 (b2 ⟨args2, []⟩) (fun fin s'' => ∃ v, fin = .done (.ret v) ∧ Q v s'') E s') E s) : Wp w A (PySem.call (.builtin id) (self :: rest)) Q E s := by
  refine Wp.call (Cd.tree rfl ?_)
  show Wp w A.in1 (do checkBuiltinCall id ⟨self :: rest, []⟩; again (.builtin id ⟨self :: rest, []⟩)) _ _ s
  refine Wp.bind ((Wp.of (h.check _ _ _ _ _ _ _ (fun _ s' => s' = s) hT ha rfl)).imp fun _ s' e => ?_)
  subst e
  refine Wp.pure ⟨plainId_quiet h.plain _, cd_builtin hb hcl ?_⟩
  rw [Around.under_plainId h.plain _]
  refine hc.imp fun fin s' hf => ?_
  refine ex3 hf ?_; (try clear hf); intro id2 b2 args2 hJ
  refine and5 hJ ?_; clear hJ; intro hR1 hp2 hb2 hcl2 h2
  subst hR1
  refine ⟨plainId_quiet hp2 _, cd_builtin hb2 hcl2 ?_⟩
  rw [Around.under_plainId hp2 _]
  exact h2.imp fun fin s'' hf => by obtain ⟨v, rfl, hv⟩ := hf; exact hv
theorem drive_wp {Q : Sre.M → Shared → Prop} {m' : Sre.M} : ∀ (k turns : Nat) (m : Sre.M), drv k m = some m' → k ≤ turns → Q m' s → wpAny (model pw w) A (Builtin.Re.reDrive turns m) Q E s
  | 0, _, _, h, _, _ => by cases h
  | k + 1, 0, _, _, h, _ => absurd h (Nat.not_le_of_lt (Nat.lt_succ_of_le (Nat.le_add_left 0 k)))
  | k + 1, turns + 1, m, h, hk, q => by
    rw [drv] at h
    unfold Builtin.Re.reDrive
    dsimp only at h ⊢
    split at h
    · rename_i ho
      cases h
      rw [if_pos ho]
      exact wpAny_pure q
    · rename_i ho
      rw [if_neg ho]
      exact wpAny_bind (wpAny_rule (drive_wp k turns _ h (by lia) q))
theorem rules_wp {Q : PUnit → Shared → Prop} {c : Nat → Bool} {r : Nat → String} (q : Q ⟨⟩ s) : ∀ l : List Nat, wpAny (model pw w) A (forIn l PUnit.unit fun i _ => do
    if c i = true then rule (r i)
    pure (ForInStep.yield PUnit.unit)) Q E s
  | [] => by rw [List.forIn_nil]; exact wpAny_pure q
  | a :: l => by
    rw [List.forIn_cons]
    refine wpAny_bind ?_
    split
    · exact wpAny_bind (wpAny_rule (wpAny_pure (rules_wp q l)))
    · exact wpAny_pure (rules_wp q l)
theorem find_none {t : Builtin.Re.ReTarget} {Q : Option Sre.M → Shared → Prop} (hc : t.code = codeW) (hg : t.groups = 1) (hl : t.lim = t.text.size) (hn : noFind t.text = true) (q : Q none s) : wpAny (model pw w) A (Builtin.Re.reNextFound t 0 false) Q E s := by
  unfold Builtin.Re.reNextFound Builtin.Re.reRunToEnd
  rw [hc, hg, hl]
  unfold noFind at hn
  cases hd : drv 60 (Sre.forSearch codeW t.text 1 0 t.text.size false) with
  | none => rw [hd] at hn; cases hn
  | some m =>
    rw [hd] at hn
    dsimp only at hn
    refine wpAny_bind (drive_wp 60 _ _ hd (by decide) ?_)
    refine wpAny_bind (rules_wp ?_ _)
    cases ho : m.outcome with
    | none => rw [ho] at hn; cases hn
    | some o => cases o <;> rw [ho] at hn <;> first | exact wpAny_pure q | cases hn
theorem whole_ok {x : Str} {t : Tok} {Q : Builtin.Re.ReTarget → Shared → Prop} (I : Iv g s) (h : ∀ T : Builtin.Re.ReTarget, T.code = codeW → T.groups = 1 → T.kind = 0 → T.text = x.cps → T.lim = x.cps.size → Q T s) : wpAny (model pw w) A (Builtin.Re.reWholeTarget (.ref g.rx) (.str x t)) Q E s := by
  obtain ⟨hcls, v0, v1, v3, v4, t2, t6, tp, ws, n, hd, htp, hws⟩ := I.ok.rxf
  have ho := I.get I.ok.rxg (by rw [hd]; intro e; injection e with e; have := congrArg Array.size e; simp at this)
  unfold Builtin.Re.reWholeTarget
  refine wpAny_bind (wpAny_fieldsOf ho hd ?_)
  unfold Builtin.Re.reTextOf
  refine wpAny_bind (wpAny_of_eq (a := (x.cps, 0)) rfl ?_)
  dsimp only
  rw [if_neg (by simp), if_neg (by simp [Builtin.Re.reRawNat])]
  refine wpAny_bind (wpAny_of_eq (a := ()) rfl ?_)
  unfold Builtin.Re.reRawItems
  have htp' := I.get htp (by nofun)
  refine wpAny_bind (wpAny_bind (m := seqItems? (.ref tp)) (wpAny_bind (wpAny_load htp' (wpAny_pure (wpAny_pure (wpAny_pure ?_))))))
  refine h _ ?_ rfl rfl rfl rfl
  have e : (ws.map Builtin.Re.reRawOf).toList = [14, 14, 4, 1, 1, 9, 0, 64, 0, 1342177280, 0, 0, 0, 0, 0, 17, 0, 13, 11, 9, 0, 64, 0, 1342177280, 0, 0, 0, 0, 0, 17, 1, 1] := by
    rw [Array.toList_map, ← hws]
    rfl
  have e2 : ws.map Builtin.Re.reRawOf = #[14, 14, 4, 1, 1, 9, 0, 64, 0, 1342177280, 0, 0, 0, 0, 0, 17, 0, 13, 11, 9, 0, 64, 0, 1342177280, 0, 0, 0, 0, 0, 17, 1, 1] := by
    rw [← Array.toList_inj, e]
  show Array.map (·.toNat) (ws.map Builtin.Re.reRawOf) = codeW
  rw [e2]
  decide +kernel
theorem k_resub {lam : Addr} {o : Obj} {l : List Nat} {t : Tok} {p₀ : Addr × K} {Q : Value → Shared → Prop} (F : St g s₀ ms (p₀ :: os) s) (hlam : Mem (p₀ :: os) lam (.raw o)) (hcls : o.cls = .type "function") (hn : noFind l.toArray = true) (hz : l.length ≤ 100)
    (h : ∀ t' s', St g s₀ ms (p₀ :: os) s' → Q (.str (oS l) t') s') : Wp w A (call (.builtin "re.Pattern.sub") [.ref g.rx, .ref lam, .str (oS l) t]) Q E s := by
  have hT : s.TypeIs (.ref g.rx) "re.Pattern" := by
    obtain ⟨hc, v0, v1, v3, v4, t2, t6, tp, ws, n, hd, htp, hws⟩ := F.inv.ok.rxf
    exact ⟨_, F.inv.get F.inv.ok.rxg (by rw [hd]; intro e; injection e with e; have := congrArg Array.size e; simp at this), hc⟩
  refine Wp.callBA slot_pat_sub hT entry_pat_sub (args_pat_sub _ _ _) rfl ?_
  show Wp w A.in1 (Builtin.Re.reSubstitute "re.Pattern.sub" "sub" false ⟨[.ref g.rx, .ref lam, .str (oS l) t], []⟩) _ _ _
  unfold Builtin.Re.reSubstitute
  dsimp only
  refine Wp.bind (Wp.val (named_sub _ _) ?_)
  dsimp only
  refine Wp.bind (Wp.pure ?_)
  have hlo : s.heap.get? lam = some o := F.mem hlam
  refine Wp.bind (.of (wpAny_specialOf (T := "function") ⟨o, hlo, hcls⟩ lk_fn_call ?_))
  first | refine wp_ify rfl ?_ | refine bm_if_true rfl ?_ | simp only [Option.isSome_some, if_true]
  refine Wp.bind (Wp.pure (Wp.bind (Wp.pure ?_)))
  dsimp only
  refine Wp.bind (Wp.holding (.of (whole_ok F.inv fun T _ _ _ _ _ => ?_)))
  refine Wp.bind (m := Builtin.Re.reNotHeld "re.Pattern.sub" (.str (oS l) t)) (Wp.val (a := ()) (by rfl) ?_)
  refine Wp.bind (newList_St F ?_)
  clear F hT hlo hlam; intro D s hD F
  refine Wp.pure ⟨_, _, _, rfl, plain_pat_loop, entry_pat_loop, rfl, ?_⟩
  unfold Builtin.«re.Pattern.sub.loop»
  simp only [rawInt]
  refine Wp.bind (.of (whole_ok F.inv fun T hc hg hk ht hl => ?_))
  first | refine wp_ifn (by decide) ?_ | rw [if_neg (by decide)]
  first | refine wp_ifn Bool.false_ne_true ?_ | simp only [show (0 != (0 : Int) && decide ((0 : Int) ≥ 0)) = false from rfl, Bool.false_eq_true, if_false]
  refine Wp.bind (.of (find_none hc hg (by rw [ht]; exact hl) (by rw [ht]; exact hn) ?_))
  dsimp only
  have hsl : ∀ {b e : Nat} {Q : Value → Shared → Prop} {s : Shared} {os : Os}, St g s₀ ms os s → (∀ t' s', St g s₀ ms os s' → Q (.str (oS ((l.drop b).take (e - b))) t') s') → Wp w A.in1 (Builtin.Re.reSlice T.text T.kind b e) Q E s := by
    intro b e Q s os F h
    unfold Builtin.Re.reSlice
    rw [hk, ht]
    have e1 : (⟨(oS l).cps.extract b e⟩ : Str) = oS ((l.drop b).take (e - b)) := by
      simp [oS]
    show Wp w A.in1 (mkStr ⟨(oS l).cps.extract b e⟩) Q E s
    rw [e1]
    exact .of (wpAny_mkStr (h _ _ (F.tick _)) (by rw [oS_len]; simp only [List.length_drop, List.length_take]; show _ ≤ 2 ^ 24; exact Nat.le_trans (Nat.min_le_right _ _) (Nat.le_trans (Nat.sub_le _ _) (Nat.le_trans hz (lb rfl)))))
  have hlim : T.lim = l.length := by rw [hl]; simp [oS]
  have hit : ∀ {us : List Value} {Q : Option (Array Value) → Shared → Prop} {s : Shared} {os : Os}, St g s₀ ms (p₀ :: (D, .list us) :: os) s → Q (some us.toArray) s → Wp w A.in1 (seqItems? (.ref D)) Q E s := by
    intro us Q s os F h
    obtain ⟨n, ho⟩ := F.mem (.there .here)
    exact .of (wpAny_bind (wpAny_load ho (wpAny_pure h)))
  rw [hlim]
  cases l with
  | nil =>
    first | refine wp_ifn (by decide) ?_ | rw [if_neg (by decide)]
    refine Wp.bind (hsl F ?_); clear F; intro t1 s F
    refine Wp.bind (hit F ?_)
    refine Wp.eq (if_pos rfl) (Wp.bind (Wp.pure ?_))
    exact Wp.pure ⟨_, rfl, h _ _ (F.drop (.there .here))⟩
  | cons c r =>
    rw [if_pos (by simp)]
    refine Wp.bind (hsl F ?_); clear F; intro t1 s F
    refine Wp.bind (upd_list (us' := [.str (oS (c :: r)) t1]) F (.there .here) (by simp) (by simp) (by simp) ?_); clear F; intro s F
    refine Wp.bind (hsl F ?_); clear F; intro t2 s F
    refine Wp.bind (hit F ?_)
    have F := F.to_strs (xs := [oS (c :: r)]) (.cons ⟨_, rfl⟩ .nil)
    refine Wp.eq (if_neg (by simp)) (Wp.bind ?_)
    rw [hk]
    refine k_join F (.there .here) ?_ ?_
    · show (!Builtin.Str.tooLong (0 + (oS (c :: r)).length + (oS ([] : List Nat)).length)) = true
      simp only [oS_len, Builtin.Str.tooLong, Bool.not_eq_true', decide_eq_false_iff_not]
      show ¬ (2 ^ 24 < _)
      simp only [List.length_nil]
      lia
    · clear F; intro t3 s F
      exact Wp.pure ⟨_, rfl, h _ _ (F.drop (.there .here))⟩
end
end
/-! MX28 -/
section
set_option hygiene false
theorem sub_ke_le : isSubtype (.type "KeyError") (.type "LookupError") = pure true := by rw [isSubtype_type]; kernel_rfl
section
variable {w : World} {A : Around} {E : Value → Shared → Prop} {g : Gd} {s₀ s s' : Shared} {ms : List Addr} {os os' : Os} {env : Env} {L : Addr} {nl : List Str} {vs vs' : List (Option Value)}
theorem Iv.map (I : Iv g s) : ∃ f, s.heap.IntMap g.sm f ∧ f 97 = none ∧ f 98 = none := by
  obtain ⟨hP, _, f, ⟨o, es, ep, ho, hc, hd, r⟩, h1, h2⟩ := I.ok.smf
  exact ⟨f, ⟨o, es, ep, I.ext _ _ ho hP, hc, hd, r⟩, h1, h2⟩
theorem tl_keep {c : Nat} {p₀ : Addr × K} {Q : Builtin.Str.Mapped → Shared → Prop} (hh : A.handled = none) (F : St g s₀ ms (p₀ :: os) s) (hL0 : s₀.heap.objs.size ≤ p₀.1) (hc : c = 97 ∨ c = 98) (q : ∀ s', St g s₀ ms (p₀ :: os) s' → Q .keep s') : wpAny (model pw w) A (Builtin.Str.tableLookup (.ref g.sm) c) Q E s := by
  unfold Builtin.Str.tableLookup
  refine wpAny_bind (wpAny_attempt (wpAny_bind (wpAny_mkInt ?_)))
  have F := F.tick (s.toks + 1)
  refine ex1 F.inv.map ?_; intro f hJ
  refine and3 hJ ?_; clear hJ; intro hm h1 h2
  have hf : f (c : Int) = none := by rcases hc with rfl | rfl; exact h1; exact h2
  have hm' := hm
  refine ex3 hm' ?_; (try clear hm'); intro o es ep hJ
  refine and4 hJ ?_; clear hJ; intro ho hcl hd hU1
  have hT : Shared.TypeIs { s with toks := s.toks + 1 } (.ref g.sm) "dict" := ⟨o, ho, hcl⟩
  unfold getItem
  refine wpAny_holding (wpAny_bind (wpAny_sequenceKey hT (by decide) ?_))
  refine wpAny_bind (wpAny_callSpecial?_slot (name := Str.ofString "__getitem__") hT PySem.F.slot_dict_getitem (wpAny_call_entry PySem.F.slot_dict_getitem hT PySem.F.entry_dict_getitem ?_ (PySem.F.args_dict_getitem_2 _ _)))
  unfold Builtin.«dict.__getitem__»
  refine wpAny_bind (m := Builtin.Dict.keyArg "__getitem__" _) (wpAny_of_eq (a := (g.sm, Value.int c s.toks)) (by rfl) ?_)
  refine wpAny_bind (wpAny_dictGet_int hm ?_)
  rw [hf]
  dsimp only
  have F := F.tick (s.toks + 1 + 1)
  refine wpAny_bind (m := Builtin.Dict.missed g.sm _) ?_
  unfold Builtin.Dict.missed
  rw [if_neg (by rw [F.inv.ok.smf.2.1]; decide)]
  refine wpAny_pure ?_
  dsimp only
  refine wpAny_bind (wpAny_typeOf (T := "dict") ⟨o, ho, hcl⟩ ?_)
  rw [if_neg (by decide)]
  refine wpAny_bind (wpAny_rule (wpAny_bind (wpAny_newExc_plain plainExc_KeyError (fun h' e hme => wpAny_raiseNew_none hh ?_) (Nat.le_of_ble_eq_true rfl))))
  refine ex1 hme.there ?_; intro t hJ
  refine and2 hJ ?_; clear hJ; intro he hU2
  refine wpAny_bind (wpAny_isInstance (T := "KeyError") ⟨_, he, rfl⟩ sub_ke_le ?_)
  rw [if_pos rfl]
  have F2 := F.kept (s' := { s with heap := h', toks := s.toks + 1 + 1 }) (.head _) hL0 hme.keeps rfl rfl
  exact wpAny_bind (wpAny_rule (wpAny_pure (q _ F2)))
theorem k_translate {c : Nat} {t : Tok} {p₀ : Addr × K} {Q : Value → Shared → Prop} (hh : A.handled = none) (F : St g s₀ ms (p₀ :: os) s) (hL0 : s₀.heap.objs.size ≤ p₀.1) (hc : c = 97 ∨ c = 98) (q : ∀ t' s', St g s₀ ms (p₀ :: os) s' → Q (.str (oS [c]) t') s') : Wp w A (call (.builtin "str.translate") [.str (oS [c]) t, .ref g.sm]) Q E s := by
  refine .of (wpAny_call_entry PySem.F.slot_str_translate (typeIs_str _ _ _) PySem.F.entry_str_translate ?_ (PySem.F.args_str_translate_2 _ _))
  unfold Builtin.«str.translate»
  refine wpAny_bind (m := Builtin.Str.strOneArg "translate" _) (wpAny_of_eq (a := (Value.str (oS [c]) t, oS [c], Value.ref g.sm)) (by rfl) ?_)
  dsimp only
  refine bm_if_false rfl ?_
  refine wpAny_bind ?_
  have hall : ((oS [c]).cps.all fun x => decide (x < 128)) = true := by rcases hc with rfl | rfl <;> simp [oS]
  rw [hall, ← Array.forIn_toList]
  show wpAny _ _ (forIn [c] _ _) _ _ _
  rw [List.forIn_cons]
  refine wpAny_bind ?_
  refine bm_if_false rfl ?_
  refine bm_if_true rfl ?_
  show wpAny _ _ (Builtin.Str.tableLookup (.ref g.sm) c >>= _) _ _ _
  refine wpAny_bind (tl_keep (A := A.in1) hh F hL0 hc fun s' F' => ?_)
  refine wpAny_bind (wpAny_pure (wpAny_pure ?_))
  dsimp only
  rw [List.forIn_nil]
  refine wpAny_pure ?_
  refine bm_if_false rfl ?_
  exact wpAny_bind (wpAny_mkStr (wpAny_pure ⟨_, rfl, q _ _ (F'.tick _)⟩) (Nat.le_of_ble_eq_true rfl))
end
end
/-! MX29 -/
section
set_option hygiene false
theorem lk_list_append : typeLookup (.type "list") "append" = pure (some (.builtin "list.append")) := by rw [typeLookup_type, builtinLookup_eq_fast]; kernel_rfl
theorem lk_md_get : typeLookup (.type "method_descriptor") "__get__" = pure (some (.builtin "method_descriptor.__get__")) := by rw [typeLookup_type, builtinLookup_eq_fast]; kernel_rfl
theorem lk_md_set : typeLookup (.type "method_descriptor") "__set__" = pure none := by rw [typeLookup_type, builtinLookup_eq_fast]; kernel_rfl
theorem lk_md_del : typeLookup (.type "method_descriptor") "__delete__" = pure none := by rw [typeLookup_type, builtinLookup_eq_fast]; kernel_rfl
theorem slot_md_get : Slot "method_descriptor" "__get__" "method_descriptor.__get__" :=
  .of (owner := "method_descriptor") (n := "__get__") lk_md_get (by decide +kernel) (by decide +kernel) (by decide +kernel)
    (by first | exact .inl (by decide +kernel) | exact .inr (by decide +kernel)) (by rw [isSubtype_type]; kernel_rfl)
theorem entry_md_get : entryFor table "method_descriptor.__get__" = some Builtin.«method_descriptor.__get__» := by first | exact entryFor_of_fast (by kernel_rfl) | exact entryFor_of_tree (by kernel_rfl)
theorem args_md_get (a b c : Value) : argsOk "method_descriptor.__get__" ⟨[a, b, c], []⟩ := by unfold argsOk; kernel_rfl
section
variable {w : World} {A : Around} {E : Value → Shared → Prop} {g : Gd} {s₀ s s' : Shared} {ms : List Addr} {os os' : Os} {env : Env} {L : Addr} {nl : List Str} {vs vs' : List (Option Value)}
theorem md_append {a : Addr} {us : List Value} {k : Nat} {Q : Value → Shared → Prop} (ho : s.heap.get? a = some (listO us k))
    (h : ∀ tk, Q (.ref s.heap.objs.size) { s with heap := s.heap.push { cls := .type "builtin_function_or_method", data := .fields #[.builtin "list.append", .ref a] }, toks := tk }) : wpAny (model pw w) A (call (.builtin "method_descriptor.__get__") [.builtin "list.append", .ref a, .type "list"]) Q E s := by
  refine wpAny_call_entry slot_md_get (show s.TypeIs (.builtin "list.append") "method_descriptor" from type_list_append) entry_md_get ?_ (args_md_get _ _ _)
  obtain ⟨hp, g, d, tk, os⟩ := s
  have hx : hp.get? a = some (listO us k) := ho
  unfold listO at hx
  have hT : (⟨hp, g, d, tk, os⟩ : Shared).TypeIs (.ref a) "list" := ⟨_, hx, rfl⟩
  have f1 := sub_list_list
  unfold Builtin.«method_descriptor.__get__»
  have e1 : (".".intercalate ("list.append".cutAt '.').dropLast) = "list" := by decide +kernel
  have f2 : isSubtype (.type "list") (.type (".".intercalate ("list.append".cutAt '.').dropLast)) = pure true := by rw [e1]; exact f1
  repeat (any_goals (first | assumption | wp_step))
  exact ⟨_, rfl, h _⟩
theorem ga_append {a : Addr} {us : List Value} {k : Nat} {u : Tok} {Q : PySem.Fin → Shared → Prop} (ho : s.heap.get? a = some (listO us k))
    (h : ∀ tk, Q (.done (.ret (.ref s.heap.objs.size))) { s with heap := s.heap.push { cls := .type "builtin_function_or_method", data := .fields #[.builtin "list.append", .ref a] }, toks := tk }) : wpAny (model pw w) A (Builtin.«object.__getattribute__» ⟨[.ref a, .str "append" u], []⟩) Q E s := by
  obtain ⟨hp, g, d, tk, os⟩ := s
  have hx : hp.get? a = some (listO us k) := ho
  have hx2 := hx
  unfold listO at hx
  have hT : (⟨hp, g, d, tk, os⟩ : Shared).TypeIs (.ref a) "list" := ⟨_, hx, rfl⟩
  have f1 := lk_list_append
  have f2 := type_list_append
  have f3 := lk_md_get
  have f4 := lk_md_set
  have f5 := lk_md_del
  unfold Builtin.«object.__getattribute__»
  repeat (any_goals (first | assumption | ((with_reducible show wpAny _ _ (call (Value.builtin "method_descriptor.__get__") _) _ _ _); refine md_append hx2 fun tk => ?_) | wp_step))
  exact h _
theorem e_append {D : Addr} {us : List Value} {n : Nat} {nm : Str} {pd pos : Pos} {p₀ : Addr × K} {Q : Value → Shared → Prop} (F : St g s₀ ms (p₀ :: os) s) (hn : ∀ (Q : Value → Shared → Prop), Q (.ref D) s → Wp w A (eval (.Name nm pd) env) Q E s) (ho : s.heap.get? D = some (listO us n))
    (h : ∀ b s', s₀.heap.objs.size ≤ b → St g s₀ ms (p₀ :: (b, .raw { cls := .type "builtin_function_or_method", data := .fields #[.builtin "list.append", .ref D] }) :: os) s' → Q (.ref b) s')
    (hbase : autoParam (attributeBase (.Name nm pd) "append" env (eval (.Name nm pd) env) = eval (.Name nm pd) env) tRfl) : Wp w A (eval (.Attribute (.Name nm pd) "append" pos) env) Q E s := by
  rw [arm_eval_Attribute, hbase]
  refine Wp.bind (hn _ (Wp.bind (Wp.standAt (Wp.bind (Wp.holding (.of ?_))))))
  have hT : ∀ tk, Shared.TypeIs { s with toks := tk } (.ref D) "list" := fun _ => ⟨_, ho, rfl⟩
  unfold getAttr
  refine wpAny_bind (wpAny_mkText ?_)
  unfold getAttrBy
  refine wpAny_holding (wpAny_bind (wpAny_typeOf (hT _) (wpAny_bind (wpAny_of_eq PySem.F.slot_list_getattribute.lookup ?_))))
  dsimp only
  refine bm_if_false rfl ?_
  unfold getAttrByItsOwn
  refine wpAny_bind (m := hookBefore (.type "list")) (wpAny_of_eq (a := none) rfl ?_)
  refine wpAny_bind (wpAny_attempt (wpAny_holding ?_))
  show wpAny _ _ (boundAndCalled (.builtin "list.__getattribute__") (.ref D) _) _ _ _
  unfold boundAndCalled
  refine wpAny_bind (wpAny_of_eq (PySem.F.slot_list_getattribute.bind _) ?_)
  refine wpAny_call_entry PySem.F.slot_list_getattribute (hT _) am_entry_list_getattribute ?_ (PySem.F.args_list_getattribute_2 _ _)
  refine ga_append ho fun tk => ⟨_, rfl, ?_⟩
  have F2 := F.freshH (tk := tk) (k := .raw { cls := .type "builtin_function_or_method", data := .fields #[.builtin "list.append", .ref D] }) (fun b o e => Heap.get?_push_of_some _ e) (Heap.get?_push_size _ rfl) (Nat.le_refl _)
  exact wpAny_pure (Wp.bind (Wp.pure (Wp.pure (h _ _ F.aft.size F2))))
end
end
/-! MX30 -/
section
set_option hygiene false
theorem sigA_some : (Manifest.signature? "list.append").isSome = true := by kernel_rfl
noncomputable def sigA := (Manifest.signature? "list.append").get sigA_some
theorem sigA_eq : Manifest.signature? "list.append" = some sigA := (Option.some_get sigA_some).symm
theorem kindA : builtinKind "list.append" = some .method := by first | kernel_rfl | decide +kernel
theorem checkA (D : Addr) (x : Value) : Bind.checkArgs "list.append" { sigA with full := s!"{Bind.lastOf "list"}.{Bind.lastOf "list.append"}" } ⟨[.ref D, x], []⟩ = pure () := by kernel_rfl
theorem sub_list_module : isSubtype (.type "list") (.type "module") = pure false := by rw [isSubtype_type]; kernel_rfl
section
variable {w : World} {A : Around} {E : Value → Shared → Prop} {g : Gd} {s₀ s s' : Shared} {ms : List Addr} {os os' : Os} {env : Env} {L : Addr} {nl : List Str} {vs vs' : List (Option Value)}
theorem bound_check (D : Addr) (x : Value) {us : List Value} {n : Nat} (ho : s.heap.get? D = some (listO us n)) {Q : Unit → Shared → Prop} (q : Q () s) : wpAny (model pw w) A (checkBoundCall "list.append" ⟨[.ref D, x], []⟩) Q E s := by
  have h : s.TypeIs (.ref D) "list" := ⟨_, ho, rfl⟩
  unfold checkBoundCall
  rw [sigA_eq]
  dsimp only
  rw [kindA]
  dsimp only
  refine bm_if_false rfl ?_
  refine wpAny_bind (wpAny_isInstance h sub_list_module ?_)
  refine bm_if_false (by decide +kernel) ?_
  refine wpAny_bind (m := isType (.ref D)) (wpAny_bind (wpAny_loadPart ho (wpAny_pure ?_)))
  refine bm_if_false rfl ?_
  refine wpAny_bind (wpAny_typeOf h ?_)
  exact wpAny_of_eq (checkA _ _) q
/-- add(x), add being the bound append of a list of the ledger's -/
theorem cw_add {D b : Addr} {us : List Value} {x : Value} {Q : Value → Shared → Prop} (F : St g s₀ ms os s) (hb : Mem os b (.raw { cls := .type "builtin_function_or_method", data := .fields #[.builtin "list.append", .ref D] })) (hu : Up os D (.list us) (.list (us ++ [x])) os') (hz : us.length ≤ 1000) (h : ∀ s', St g s₀ ms os' s' → Q .none s') : Cw w A (.ref b) [x] Q E s := by
  have ho : s.heap.get? b = some { cls := .type "builtin_function_or_method", data := .fields #[.builtin "list.append", .ref D] } := F.mem hb
  obtain ⟨n, hD⟩ := (F.at _ hu.mem : K.At s.heap D (.list us))
  refine ⟨⟨_, ho, .inr ⟨rfl, _, rfl⟩⟩, Wp.call (Cd.tree rfl ?_)⟩
  show Wp w A.in1 (callAny (.ref b) ⟨[x], []⟩) _ _ _
  unfold callAny
  refine Wp.bind (.of (wpAny_load ho ?_))
  refine Wp.eq (if_pos rfl) ?_
  refine Wp.eq (if_pos rfl) ?_
  refine Wp.bind (.of (bound_check D x hD ?_))
  refine Wp.pure ⟨plainId_quiet slot_list_append.plain _, ?_⟩
  refine cd_builtin entry_list_append rfl ?_
  rw [Around.under_plainId slot_list_append.plain _]
  refine (Wp.of (app_tree (E := E) F hu hz h)).imp fun fin s' hf => ?_
  refine ex1 hf ?_; (try clear hf); intro v hJ
  refine and2 hJ ?_; clear hJ; intro hR1 hv
  subst hR1
  exact hv
end
end
/-! MX31 -/
section
set_option hygiene false
section
variable {w : World} {A : Around} {E : Value → Shared → Prop} {g : Gd} {s₀ s s' : Shared} {ms : List Addr} {os os' : Os} {env : Env} {L : Addr} {nl : List Str} {vs vs' : List (Option Value)}
theorem Wp.assertOk {test : Expr} {pos : Pos} {Q : Flow → Shared → Prop} (h : Wp w A (isTrue test env (eval test env)) (fun b s₁ => b = true ∧ Q .next s₁) E s) : Wp w A (exec (.Assert test none pos) env) Q E s := by
  rw [arm_exec_Assert]
  refine Wp.bind (Wp.standAt (Wp.bind (h.imp fun b s₁ h₁ => ?_)))
  refine and2 h₁ ?_; (try clear h₁); intro hR1 hq
  subst hR1
  exact Wp.pure hq
theorem x_assert {test : Expr} {rest : List Stmt} {pos : Pos} {Q : Flow → Shared → Prop} (h : Wp w A (isTrue test env (eval test env)) (fun b s₁ => b = true ∧ Wp w A (execs rest env) Q E s₁) E s) : Wp w A (execs (.Assert test none pos :: rest) env) Q E s := by
  rw [execs_cons]
  exact Wp.bind (Wp.assertOk h)
theorem x_as2 {x y : Str} {p1 p2 tpos pos vpos : Pos} {k k2 : Nat} {e1 e2 : Expr} {rest : List Stmt} {Q : Flow → Shared → Prop} (hh : A.handled = none)
    (h : Wp w A (eval e1 env) (fun a s₁ => Wp w A (eval e2 env) (fun b s₂ => ∃ (g : Gd) (s₀ : Shared) (ms : List Addr) (p₀ : Addr × K) (os : Os), St g s₀ ms (p₀ :: os) s₂ ∧ s₀.heap.objs.size ≤ p₀.1 ∧
      ∀ s', St g s₀ ms (p₀ :: os) s' → Wp w A (storeName env y b) (fun _ s₄ => Wp w A (storeName env x a) (fun _ s₅ => Wp w A (execs rest env) Q E s₅) E s₄) E s') E s₁) E s)
    (hsp : autoParam (backTo vpos (starEach [e1, e2] env) = [(false, eval e1 env), (false, eval e2 env)]) tRfl)
    (hs : autoParam (swapsWithSole [.Tuple [.Name x p1, .Name y p2] k tpos] (.Tuple [e1, e2] k2 vpos) pos.line env = pure false) tRfl)
    (hw : autoParam (swappedStores [.Tuple [.Name x p1, .Name y p2] k tpos] (.Tuple [e1, e2] k2 vpos) env = pure (some [x, y])) tRfl) :
    Wp w A (execs (.Assign [.Tuple [.Name x p1, .Name y p2] k tpos] (.Tuple [e1, e2] k2 vpos) pos :: rest) env) Q E s := by
  rw [execs_cons, exec_Assign]
  refine Wp.bind (Wp.bind (Wp.standAt ?_))
  rw [hs]
  refine Wp.bind (Wp.pure ?_)
  rw [if_neg (by decide), arm_eval_Tuple, hsp]
  refine Wp.bind (Wp.bind (Wp.standAt (Wp.bind (ev_cons (h.imp fun a s₁ h₁ => ev_cons (h₁.imp fun b s₂ h₂ => ev_nil ?_))))))
  refine ex5 h₂ ?_; (try clear h₂); intro g s₀ ms p₀ os hJ
  refine and3 hJ ?_; clear hJ; intro F hL0 hq
  refine .of (wpAny_newObj_type ?_ (by show ([a, b].toArray).size ≤ 2 ^ 24; simp))
  have ho : (s₂.heap.push { cls := .type "tuple", data := .seq #[a, b] }).get? s₂.heap.objs.size = some { cls := .type "tuple", data := .seq #[a, b] } := Heap.get?_push_size _ rfl
  have F1 : St g s₀ ms (p₀ :: os) { s₂ with heap := s₂.heap.push { cls := .type "tuple", data := .seq #[a, b] } } :=
    F.grow (fun b o e => Heap.get?_push_of_some _ e) (by show s₂.heap.objs.size ≤ (s₂.heap.push _).objs.size; rw [Heap.size_push]; exact Nat.le_succ _) rfl rfl
  rw [hw]
  refine Wp.bind (Wp.pure ?_)
  show Wp w A (assignStores env (.ref s₂.heap.objs.size) (some [x, y]) _) _ E _
  unfold assignStores
  refine Wp.bind (.of (wpAny_rule ?_))
  refine Wp.bind (.of (unpackItems_tuple (items := #[a, b]) hh ⟨_, ho, rfl, 0, rfl⟩ fun h' he => ?_))
  have hk : ∀ c o, (s₂.heap.push { cls := .type "tuple", data := .seq #[a, b] }).get? c = some o → h'.get? c = some o := fun c o e => he c o (Nat.ne_of_lt (Heap.lt_size e)) e
  have F' := F1.kept (s' := { s₂ with heap := h' }) (L := p₀.1) (kL := p₀.2) (.head _) hL0 hk rfl rfl
  show Wp w A (assignInOrder [fun n => bindName env y n, fun n => bindName env x n] [b, a] >>= fun _ => (pure Flow.next : Sem Flow)) _ E _
  refine Wp.bind ?_
  show Wp w A (do holding [a] (bindName env y b); assignInOrder [fun n => bindName env x n] [a]) _ E _
  refine Wp.bind (Wp.holding (Wp.bindName ((hq _ F').imp fun _ s₄ h₄ => ?_)))
  show Wp w A (do holding [] (bindName env x a); assignInOrder [] []) _ E _
  exact Wp.bind (Wp.holding (Wp.bindName (h₄.imp fun _ s₅ h₅ => Wp.pure (Wp.pure h₅))))
theorem e_fstr3 {x y : Str} {a b : Str} {p q1 q2 q3 pos : Pos} {k1 k2 : Nat} {t : Tok} {Q : Value → Shared → Prop} (F : St g s₀ ms ((L, .ns nl vs) :: os) s) (e : En env L nl) (hx : At2 nl vs x (.str y t)) (hz : a.length + y.length + b.length ≤ 100000)
    (h : ∀ t' s', St g s₀ ms ((L, .ns nl vs) :: os) s' → Q (.str (a ++ y ++ b) t') s') : Wp w A (eval (.JoinedStr [.Constant (.str a) k1 q1, .FormattedValue (.Name x p) (-1) none q2, .Constant (.str b) k2 q3] pos) env) Q E s := by
  have ln : ∀ u v : Str, (u ++ v).length = u.length + v.length := fun u v => by
    obtain ⟨u⟩ := u; obtain ⟨v⟩ := v
    show (u ++ v).size = _
    simp [Str.length]
  have e0 : Str.empty ++ a = a := by obtain ⟨a⟩ := a; show (⟨#[] ++ a⟩ : Str) = ⟨a⟩; simp
  refine .of (wpAny_JoinedStr ?_)
  refine wpAny_Constant_str ⟨_, _, rfl, by rw [e0]; show a.length ≤ 2 ^ 24; exact u_le (u_le (Nat.le_trans hz (lb rfl))), ?_⟩
  rw [e0]
  have F1 := F.tick (s.toks + 1)
  refine ex1 F1.ns ?_; intro m hJ
  refine and2 hJ ?_; clear hJ; intro hn hm
  have mid : ∀ t' s', St g s₀ ms ((L, .ns nl vs) :: os) s' → ∃ y' t'', Value.str y t' = .str y' t'' ∧ (a ++ y').length ≤ sizeLine ∧ Joins (model pw w) A E (evalEach [.Constant (.str b) k2 q3] env) (a ++ y') (fun out s₁ => out.length ≤ sizeLine ∧ Q (.str out s₁.toks) { s₁ with toks := s₁.toks + 1 }) s' := fun t' s' F' => by
    refine ⟨y, t', rfl, by rw [ln]; show _ ≤ 2 ^ 24; exact u_le (Nat.le_trans hz (lb rfl)), ?_⟩
    refine wpAny_Constant_str ⟨_, _, rfl, by rw [ln, ln]; show _ ≤ 2 ^ 24; exact Nat.le_trans hz (lb rfl), by rw [ln, ln]; show _ ≤ 2 ^ 24; exact Nat.le_trans hz (lb rfl), ?_⟩
    exact h _ _ ((F'.tick _).tick _)
  refine wpAny_FormattedValue_plain (wpAny_Name (wpAny_loadName_local e.kind (e.nm x hx.mem).1 (e.loc ▸ hn) (hm _ _ hx) ?_) (e.nm x hx.mem).2)
  exact wpAny_formatField_str (mid _ _ F1) (mid _ _ (F1.tick _)) (by show _ ≤ 2 ^ 24; lia)
end
end
/-! MX32 -/
section
set_option hygiene false
section
variable {w : World} {A : Around} {E : Value → Shared → Prop} {g : Gd} {s₀ s s' : Shared} {ms : List Addr} {os os' : Os} {env : Env} {L : Addr} {nl : List Str} {vs vs' : List (Option Value)}
theorem tr_str {l : List Nat} {t : Tok} {Q : Bool → Shared → Prop} (F : St g s₀ ms os s) (hz : l.length ≤ 100000) (h : ∀ s', St g s₀ ms os s' → Q (decide (l ≠ [])) s') : Wp w A (truthy (.str (oS l) t)) Q E s := by
  refine .of (PySem.P.truthy_str (by rw [oS_len]; lia) ?_)
  have e : (((oS l).length : Int) != 0) = decide (l ≠ []) := by
    rw [oS_len]
    cases l with
    | nil => rfl
    | cons c r =>
      have : (((c :: r).length : Int) != 0) = true := by simp; lia
      rw [this]; simp
  rw [e]
  exact h _ ((F.tick _).tick _)
theorem c_intup {x y z : List Nat} {tp : Addr} {t u1 u2 : Tok} {n : Nat} {Q : Bool → Shared → Prop} (F : St g s₀ ms os s) (hm : Mem os tp (.raw (tupO [.str (oS y) u1, .str (oS z) u2] n))) (h : Q (decide (x = y) || decide (x = z)) s) : Wp w A (compareOp .In (.str (oS x) t) (.ref tp)) (fun c s₃ => Wp w A (truthy c) Q E s₃) E s := by
  have ho : s.heap.get? tp = some (tupO [.str (oS y) u1, .str (oS z) u2] n) := F.mem hm
  refine .of (PyProof.Rows.in_tuple_strs (items := #[.str (oS y) u1, .str (oS z) u2]) (ys := [oS y, oS z]) ⟨_, ho, rfl, n, rfl⟩ (.cons _ _ (.cons _ _ .nil)) (.of (wpAny_truthy_bool ?_)))
  have e : ([oS y, oS z].any (· == oS x)) = (decide (x = y) || decide (x = z)) := by
    simp only [List.any_cons, List.any_nil, Bool.or_false, oS_beq]
    congr 1 <;> exact decide_eq_decide.mpr ⟨Eq.symm, Eq.symm⟩
  rw [e]
  exact h
theorem Strs.set {us : List Value} {xs : List Str} (h : Strs us xs) (i : Nat) {v : Value} {x : Str} (hv : IsS v x) : Strs (us.set i v) (xs.set i x) := by
  induction h generalizing i with
  | nil => exact .nil
  | cons hv' hr ih =>
    cases i with
    | zero => exact .cons hv hr
    | succ i => exact .cons hv' (ih i)
theorem Strs.eraseIdx {us : List Value} {xs : List Str} (h : Strs us xs) (i : Nat) : Strs (us.eraseIdx i) (xs.eraseIdx i) := by
  induction h generalizing i with
  | nil => exact .nil
  | cons hv' hr ih =>
    cases i with
    | zero => exact hr
    | succ i => exact .cons hv' (ih i)
theorem set_strs {l : Addr} {k : Nat} {x : Str} {u t : Tok} {xs : List Str} {Q : Unit → Shared → Prop} (F : St g s₀ ms os s) (hu : Up os l (.strs xs) (.strs (xs.set k x)) os') (hk : k < xs.length) (hz : xs.length ≤ 1000) (h : ∀ s', St g s₀ ms os' s' → Q () s') : Wp w A (setItem (.ref l) (.int k u) (.str x t)) Q E s := by
  refine ex2 ((F.at _ hu.mem : K.At s.heap l (.strs xs))) ?_; intro l' n hJ
  refine and2 hJ ?_; clear hJ; intro ho hi
  refine set_list ho (Int.natCast_nonneg k) (by lia) (by rw [hi.length]; exact i_lt hk) fun h' ⟨n', e⟩ hs => h _ (F.update (s' := { s with heap := h' }) hu hs ⟨_, n', e, ?_⟩ rfl rfl)
  rw [Int.toNat_natCast]
  exact hi.set _ ⟨t, rfl⟩
theorem del_strs {l : Addr} {k : Nat} {u : Tok} {xs : List Str} {Q : Unit → Shared → Prop} (F : St g s₀ ms os s) (hu : Up os l (.strs xs) (.strs (xs.eraseIdx k)) os') (hk : k < xs.length) (hz : xs.length ≤ 1000) (h : ∀ s', St g s₀ ms os' s' → Q () s') : Wp w A (delItem (.ref l) (.int k u)) Q E s := by
  refine ex2 ((F.at _ hu.mem : K.At s.heap l (.strs xs))) ?_; intro l' n hJ
  refine and2 hJ ?_; clear hJ; intro ho hi
  have hl := hi.length
  refine .of (PyProof.Rows.delItem_at (k := k) ho (by simp [Builtin.List.listFitsIndex]; exact i_lt (Nat.lt_of_lt_of_le hk (Nat.le_trans hz (lb rfl)))) ?_ (fun h' hs e => h _ (F.update (s' := { s with heap := h' }) hu hs ⟨l'.eraseIdx k, n + 1, ?_, hi.eraseIdx k⟩ rfl rfl)) (by show l'.toArray.size ≤ 2 ^ 24; rw [List.size_toArray]; exact Nat.le_trans (Nat.le_of_eq hl) (Nat.le_trans hz (lb rfl))))
  · unfold seqIndex?
    have h1 : ¬ (k : Int) < 0 := (i_nlt (Nat.le_add_left 0 k))
    have h2 : (decide (0 ≤ (k : Int)) && decide ((k : Int) < (l'.toArray.size : Int))) = true := by simp; exact Nat.lt_of_lt_of_le hk (Nat.le_of_eq (Eq.symm hl))
    simp only [if_neg h1, h2, if_true, Int.toNat_natCast]
  · simpa [listO] using e
theorem x_dels {o i : Expr} {p pos : Pos} {rest : List Stmt} {Q : Flow → Shared → Prop} (h : Wp w A (eval o env) (fun ov s₁ => Wp w A (eval i env) (fun iv s₂ => Wp w A (delItem ov iv) (fun _ s₃ => Wp w A (execs rest env) Q E s₃) E s₂) E s₁) E s) : Wp w A (execs (.Delete [.Subscript o i p] pos :: rest) env) Q E s := by
  rw [execs_cons, arm_exec_Delete]
  refine Wp.bind (Wp.bind (Wp.standAt (Wp.bind ?_)))
  rw [arm_deleteEach_cons, arm_delete_Subscript]
  refine Wp.bind (Wp.bind (h.imp fun ov s₁ h₁ => Wp.bind (Wp.holding (h₁.imp fun iv s₂ h₂ => Wp.bind (Wp.standAt (Wp.bind (Wp.holding (h₂.imp fun _ s₃ h₃ => Wp.release ?_))))))))
  exact Wp.pure (Wp.pure h₃)
theorem len_strs {l : Addr} {xs : List Str} {Q : Value → Shared → Prop} (F : St g s₀ ms os s) (hm : Mem os l (.strs xs)) (hz : xs.length < 2 ^ 62) (h : ∀ t s', St g s₀ ms os s' → Q (.int xs.length t) s') : Wp w A (call (.builtin "len") [.ref l]) Q E s := by
  refine .of ?_
  refine ex2 (F.mem hm) ?_; intro vs n hJ
  refine and2 hJ ?_; clear hJ; intro ho hi
  refine Calls.call_len_list (listO_is ho) (by simp [hi.length]; exact i_lt (Nat.lt_of_lt_of_le hz (lb rfl))) ?_
  have : (vs.toArray.size : Int) = xs.length := by simp [hi.length]
  rw [this]
  exact h _ _ (F.tick _)
end
end
/-! EV2 -/
section
set_option hygiene false
/-! pure expressions over texts -/
structure EvS (c : Cx) (e : Expr) (l : List Nat) : Prop where
  ev : ∀ {s : Shared} {Q E : Value → Shared → Prop}, St c.g c.s₀ c.ms c.T s → (∀ t s', St c.g c.s₀ c.ms c.T s' → Q (.str (oS l) t) s') → Wp c.w c.A (eval e c.env) Q E s
section
variable {w : World} {A : Around} {g : Gd} {s₀ : Shared} {ms : List Addr} {os os' : Os} {env : Env} {L : Addr} {nl : List Str} {vs : List (Option Value)} {c : Cx}
theorem EvV.str {e : Expr} {l : List Nat} {t : Tok} (h : EvV c e (.str (oS l) t)) : EvS c e l := ⟨fun F q => h.ev F fun s' F' => q t s' F'⟩
theorem vl {x : Str} {l : List Nat} {k : Nat} {p : Pos} (hx : x = oS l) : EvS c (.Constant (.str x) k p) l := ⟨fun F q => e_str F fun t s' F' => hx ▸ q t s' F'⟩
theorem vc {x : Str} {p : Pos} {v : Value} (a : Addr) (hm : Mem c.T a (.cell (some v))) (hs : c.env.scope.kind = .function) (hk : c.env.kindOf x = some .cell) (hc : c.env.cells.lookup x = some a) (hd : (x == ("__debug__" : Str)) = false) : EvV c (.Name x p) v := ⟨fun F q => e_cell a F hm (q _ F) hs hk hc hd⟩
theorem EvS.cast {e : Expr} {l l' : List Nat} (h : EvS c e l) (el : l = l') : EvS c e l' := el ▸ h
theorem EvI.cast {e : Expr} {x x' : Int} (h : EvI c e x) (el : x = x') : EvI c e x' := el ▸ h
theorem EvS.at {m i : Expr} {l : List Nat} {x : Int} {k ch : Nat} {p : Pos} (h1 : EvS c m l) (h2 : EvI c i x) (hx : x = k) (hc : l[k]? = some ch) (hz : l.length ≤ 100000) (hs : autoParam (∀ o v, subscripted i false o v = operate [o, v] (getItem o v)) tIIrfl) : EvS c (.Subscript m i p) [ch] :=
  ⟨fun F q => e_sub (h1.ev F fun _ _ F1 => h2.ev F1 fun _ _ F2 => sub_s F2 hx hc hz q) hs⟩
theorem EvS.part {m i j : Expr} {l : List Nat} {x y : Int} {a b : Nat} {p pos : Pos} (h : EvS c m l) (h1 : EvI c i x) (h2 : EvI c j y) (hx : x = a) (hy : y = b) (hab : a ≤ b) (hb : b ≤ l.length) (hz : l.length ≤ 100000) : EvS c (.Subscript m (.Slice (some i) (some j) none p) pos) ((l.drop a).take (b - a)) :=
  ⟨fun F q => e_slc (h.ev F fun _ _ F1 => p_some (h1.ev F1 fun _ _ F2 => p_some (h2.ev F2 fun _ _ F3 => slc_ss F3 (by rw [oS_len]; exact hz) fun s' t' F4 => (tx_ss hx hy hab hb).symm ▸ q t' s' F4)))⟩
theorem EvS.from {m i : Expr} {l : List Nat} {x : Int} {a : Nat} {p pos : Pos} (h : EvS c m l) (h1 : EvI c i x) (hx : x = a) (ha : a ≤ l.length) (hz : l.length ≤ 100000) : EvS c (.Subscript m (.Slice (some i) none none p) pos) (l.drop a) :=
  ⟨fun F q => e_slc (h.ev F fun _ _ F1 => p_some (h1.ev F1 fun _ _ F2 => p_none (slc_sn F2 (by rw [oS_len]; exact hz) fun s' t' F4 => (tx_sn hx ha).symm ▸ q t' s' F4)))⟩
theorem EvS.upto {m j : Expr} {l : List Nat} {y : Int} {b : Nat} {p pos : Pos} (h : EvS c m l) (h1 : EvI c j y) (hy : y = b) (hb : b ≤ l.length) (hz : l.length ≤ 100000) : EvS c (.Subscript m (.Slice none (some j) none p) pos) (l.take b) :=
  ⟨fun F q => e_slc (h.ev F fun _ _ F1 => p_none (p_some (h1.ev F1 fun _ _ F2 => slc_ns F2 (by rw [oS_len]; exact hz) fun s' t' F4 => (tx_ns hy hb).symm ▸ q t' s' F4)))⟩
theorem EvS.tail {m : Expr} {l : List Nat} {n k : Nat} {p p1 p2 pos : Pos} (h : EvS c m l) (h0 : 0 < n) (hb : n ≤ l.length) (hz : l.length ≤ 100000) : EvS c (.Subscript m (.Slice (some (.UnaryOp .USub (.Constant (.int n) k p1) p2)) none none p) pos) (l.drop (l.length - n)) :=
  ⟨fun F q => e_slc (h.ev F fun _ _ F1 => p_some (e_neg F1 fun _ _ F2 => p_none (slc_sn F2 (by rw [oS_len]; exact hz) fun s' t' F4 => (tx_neg h0 hb).symm ▸ q t' s' F4)))⟩
theorem EvS.len {m : Expr} {l : List Nat} {p pos : Pos} (en : En c.env L nl) (h : EvS c m l) (hz : l.length ≤ 100000) (hk : c.env.kindOf "len" = some .globalImplicit) (hs : backTo pos (starEach [m] c.env) = [(false, eval m c.env)]) : EvI c (.Call (.Name "len" p) [m] [] pos) l.length :=
  ⟨fun F q => e_call1 (e_bi F en .n_len (h.ev F fun _ _ F1 => cw_bi (len_str' F1 (by rw [oS_len]; exact Nat.le_trans hz (lb rfl)) fun t s' F' => (oS_len l).symm ▸ q t s' F')) hk) hs⟩
theorem EvS.ife {test a b : Expr} {l : List Nat} {k : Bool} {p : Pos} (ht : Ts c test k) (h1 : k = true → EvS c a l) (h2 : k = false → EvS c b l) : EvS c (.IfExp test a b p) l := ⟨fun F q => e_ifx (ht.ev F fun s' F' => by
  cases k with
  | true => exact (h1 rfl).ev F' q
  | false => exact (h2 rfl).ev F' q)⟩
theorem EvS.eq {l r : Expr} {a b : List Nat} {p : Pos} (h1 : EvS c l a) (h2 : EvS c r b) (hm : autoParam (behindInMarks .Eq r = false) tWrfl) : Ts c (.Compare l [.Eq] [r] p) (decide (a = b)) := ⟨fun F q => t_cmp (h1.ev F fun _ _ F1 => h2.ev F1 fun _ _ F2 => c_seq (oS_beq a b ▸ q _ F2)) hm⟩
theorem EvS.ne {l r : Expr} {a b : List Nat} {p : Pos} (h1 : EvS c l a) (h2 : EvS c r b) (hm : autoParam (behindInMarks .NotEq r = false) tWrfl) : Ts c (.Compare l [.NotEq] [r] p) (!decide (a = b)) := ⟨fun F q => t_cmp (h1.ev F fun _ _ F1 => h2.ev F1 fun _ _ F2 => c_sne (by rw [bne, oS_beq]; exact q _ F2)) hm⟩
theorem EvS.beq {l r : Expr} {a b : List Nat} {p : Pos} (h1 : EvS c l a) (h2 : EvS c r b) (hm : autoParam (behindInMarks .Eq r = false) tWrfl) : EvV c (.Compare l [.Eq] [r] p) (.bool (decide (a = b))) := ⟨fun F q => e_cmp (h1.ev F fun _ _ F1 => h2.ev F1 fun _ _ F2 => v_seq (oS_beq a b ▸ q _ F2)) hm⟩
theorem EvV.ts {e : Expr} {b : Bool} (h : EvV c e (.bool b)) (he : autoParam (isTrue e c.env (eval e c.env) = (do let v ← eval e c.env; standAt e.pos; holding [v] (truthy v))) tRfl) : Ts c e b := ⟨fun F q => t_val (h.ev F fun s' F' => tr_bool (q s' F')) he⟩
theorem Ts.or {e f : Expr} {a b : Bool} {p : Pos} (h : Ts c e a) (k : a = false → Ts c f b) : Ts c (.BoolOp .Or [e, f] p) (a || b) := ⟨fun F q => t_or (h.ev F fun s' F' => by
  cases a with
  | true => exact q s' F'
  | false => exact (k rfl).ev F' q)⟩
theorem Ts.cast {e : Expr} {a b : Bool} (h : Ts c e a) (k : a = b) : Ts c e b := k ▸ h
theorem es_go {e : Expr} {l : List Nat} {T : Os} {s : Shared} {Q E : Value → Shared → Prop} (F : St g s₀ ms T s) (h : EvS ⟨w, A, g, s₀, ms, env, T⟩ e l) (q : ∀ t s', St g s₀ ms T s' → Q (.str (oS l) t) s') : Wp w A (eval e env) Q E s := h.ev F q
/-- a test whose way is known -/
theorem x_ifY {test : Expr} {body orelse rest : List Stmt} {pos : Pos} {T : Os} {s : Shared} {Q : Flow → Shared → Prop} {E : Value → Shared → Prop} (F : St g s₀ ms T s) (ts : Ts ⟨w, A, g, s₀, ms, env, T⟩ test true)
    (h : ∀ s', St g s₀ ms T s' → Wp w A (execs body env) (Nx Q fun s₂ => Wp w A (execs rest env) Q E s₂) E s') : Wp w A (execs (.If test body orelse pos :: rest) env) Q E s := x_if (ts.ev F h)
theorem x_ifN {test : Expr} {body orelse rest : List Stmt} {pos : Pos} {T : Os} {s : Shared} {Q : Flow → Shared → Prop} {E : Value → Shared → Prop} (F : St g s₀ ms T s) (ts : Ts ⟨w, A, g, s₀, ms, env, T⟩ test false)
    (h : ∀ s', St g s₀ ms T s' → Wp w A (execs orelse env) (Nx Q fun s₂ => Wp w A (execs rest env) Q E s₂) E s') : Wp w A (execs (.If test body orelse pos :: rest) env) Q E s := x_if (ts.ev F h)
/-- list.append(text) -/
theorem x_app {m a : Expr} {apos pos pos' : Pos} {rest : List Stmt} {D : Addr} {acc : List Str} {l : List Nat} {T T' : Os} {s : Shared} {Q : Flow → Shared → Prop} {E : Value → Shared → Prop} (F : St g s₀ ms T s) (em : EvV ⟨w, A, g, s₀, ms, env, T⟩ m (.ref D)) (ea : EvS ⟨w, A, g, s₀, ms, env, T⟩ a l)
    (hu : Up T D (.strs acc) (.strs (acc ++ [oS l])) T') (hz : acc.length ≤ 1000) (h : ∀ s', St g s₀ ms T' s' → Wp w A (execs rest env) Q E s')
    (hbase : autoParam (attributeBase m "append" env (eval m env) = eval m env) tRfl) (hs : autoParam (backTo pos (starEach [a] env) = [(false, eval a env)]) tRfl) (hline : autoParam ((apos.endLine == pos.line) = true) tRfl) (hi : autoParam (interactive env = false) tRfl) (hsw : autoParam (swapsWith (.Call (.Attribute m "append" apos) [a] [] pos) none pos'.line env = pure false) tRfl) :
    Wp w A (execs (.Expr (.Call (.Attribute m "append" apos) [a] [] pos) pos' :: rest) env) Q E s :=
  x_expr (e_met1 (em.ev F fun s1 F1 => ⟨_, rcv_list (F1.at _ hu.mem : K.At s1.heap D (.strs acc)).choose_spec.choose_spec.1 PySem.F.slot_list_append type_list_append, ea.ev F1 fun _ _ F2 => app_strs F2 hu hz h⟩) hbase hs hline) hi hsw
theorem EvS.sl12 {m : Expr} {l : List Nat} {k1 k2 : Nat} {p p1 p2 pos : Pos} (h : EvS c m l) (hl : 1 ≤ l.length) (hz : l.length ≤ 100000) (htx : Txt.slice (oS l) (some 1) (some 2) = oS ((l.drop 1).take 1)) : EvS c (.Subscript m (.Slice (some (.Constant (.int 1) k1 p1)) (some (.Constant (.int 2) k2 p2)) none p) pos) ((l.drop 1).take 1) :=
  ⟨fun F q => e_slc (h.ev F fun _ _ F1 => p_some (e_int F1 fun _ _ F2 => p_some (e_int F2 fun _ _ F3 => slc_ss F3 (by rw [oS_len]; exact hz) fun s' t' F4 => htx.symm ▸ q t' s' F4)))⟩
theorem EvS.index {m a i : Expr} {l : List Nat} {ch lo k : Nat} {apos pos : Pos} (h : EvS c m l) (ha : EvS c a [ch]) (hi : EvI c i (lo : Nat)) (ho : PySem.Builtin.Str.occurrences (oS l) (oS [ch]) lo l.length 1 = [k])
    (hbase : attributeBase m "index" c.env (eval m c.env) = eval m c.env) (hs : backTo pos (starEach [a, i] c.env) = [(false, eval a c.env), (false, eval i c.env)]) (hline : (apos.endLine == pos.line) = true) : EvI c (.Call (.Attribute m "index" apos) [a, i] [] pos) (k : Nat) :=
  ⟨fun F q => e_met2 (h.ev F fun _ _ F1 => ⟨_, rcv_str PySem.F.slot_str_index PySem.F.type_str_index, ha.ev F1 fun _ _ F2 => hi.ev F2 fun _ _ F3 => k_index F3 ho q⟩) hbase hs hline⟩
/-- a cell's name = a value -/
theorem x_celV {x : Str} {p' pos : Pos} {value : Expr} {rest : List Stmt} {v : Value} {v₀ : Option Value} (a : Addr) {T T' : Os} {s : Shared} {Q : Flow → Shared → Prop} {E : Value → Shared → Prop} (F : St g s₀ ms T s) (ev : EvV ⟨w, A, g, s₀, ms, env, T⟩ value v) (hu : Up T a (.cell v₀) (.cell (some v)) T')
    (h : ∀ s', St g s₀ ms T' s' → Wp w A (execs rest env) Q E s') (hs : swapsWith value (some (.Name x p')) pos.line env = pure false) (hk : env.scope.kind = .function) (hk2 : env.kindOf x = some .cell) (hc : env.cells.lookup x = some a) : Wp w A (execs (.Assign [.Name x p'] value pos :: rest) env) Q E s :=
  x_as (ev.ev F fun _ F' => s_cell a F' hu h hk hk2 hc) hs
end
end
/-! MS8 -/
section
set_option hygiene false
/-- how a kind is written in translate's text -/
noncomputable def pcs : Nat → List Nat
  | 0 => [97] | 1 => [98] | 3 => [91, 97, 98, 93] | 4 => [91, 94, 97, 93] | 5 => [91, 94, 98, 93] | 6 => [91, 97, 45, 98, 93] | 7 => [40, 63, 33, 41] | _ => [46]
/-- which signs it takes -/
noncomputable def tks : Nat → List Nat
  | 0 => [97] | 1 => [98] | 4 => [98] | 5 => [97] | 7 => [] | _ => [97, 98]
noncomputable def tailL (star : Bool) : List Nat := (if star then [46, 42] else []) ++ [41, 92, 90]
noncomputable def shownL (ks : List Nat) (star : Bool) : List Nat := [40, 63, 115, 58] ++ (ks.flatMap pcs ++ tailL star)
theorem sub_add {a b c : Nat} (h : a - b = c) (hc : 0 < c) : b + c = a := by rw [← h]; exact Nat.add_sub_of_le (Nat.le_of_lt (Nat.lt_of_sub_pos (h ▸ hc)))
theorem pcs_pos (k : Nat) : 0 < (pcs k).length := by unfold pcs; split <;> decide
theorem pcs_le (k : Nat) : (pcs k).length ≤ 5 := by unfold pcs; split <;> decide
theorem flat_le : ∀ ks : List Nat, (ks.flatMap pcs).length ≤ 5 * ks.length
  | [] => Nat.le_refl _
  | k :: ks => by
    rw [List.flatMap_cons, List.length_append, List.length_cons]
    have := pcs_le k
    have := flat_le ks
    lia
/-- the rest of the text, from a token on, is not the end with a star -/
theorem rest_ne (k : Nat) (ks : List Nat) (star : Bool) : pcs k ++ (ks.flatMap pcs ++ tailL star) ≠ [46, 42, 41, 92, 90] := by
  have h2 : ∀ (ks : List Nat), (ks.flatMap pcs ++ tailL star)[0]? ≠ some 42 := by
    intro ks
    cases ks with
    | nil => cases star <;> decide
    | cons k ks =>
      rw [List.flatMap_cons, List.append_assoc]
      unfold pcs
      split <;> simp
  intro h
  have := h2 ks
  generalize ks.flatMap pcs ++ tailL star = X at h this
  unfold pcs at h
  split at h <;> simp at h
  rw [h] at this
  simp at this
theorem pcs_ne (k : Nat) (hk : k ≠ 7) (R : List Nat) : (pcs k ++ R).take 4 ≠ [40, 63, 33, 41] := by
  intro h
  have h2 : ((pcs k ++ R).take 4)[0]? = some 40 := by rw [h]; rfl
  unfold pcs at h2
  split at h2 <;> simp at h2
  exact hk rfl
theorem lit_hd : Str.ofString "(?s:" = oS [40, 63, 115, 58] := by decide +kernel
theorem lit_tl : Str.ofString ")\\Z" = oS [41, 92, 90] := by decide +kernel
theorem lit_end : Str.ofString ".*)\\Z" = oS [46, 42, 41, 92, 90] := by decide +kernel
theorem lit_no : Str.ofString "(?!)" = oS [40, 63, 33, 41] := by decide +kernel
theorem lit_br : Str.ofString "[" = oS [91] := by decide +kernel
theorem lit_bl : Str.ofString "]" = oS [93] := by decide +kernel
theorem lit_up : Str.ofString "^" = oS [94] := by decide +kernel
theorem lit_da : Str.ofString "-" = oS [45] := by decide +kernel
theorem lit_dot : Str.ofString "." = oS [46] := by decide +kernel
theorem lit_ab : Str.ofString "ab" = oS [97, 98] := by decide +kernel
theorem lit_e : Str.ofString "" = oS [] := by decide +kernel
theorem tx_12 {l : List Nat} (h : 1 ≤ l.length) : Txt.slice (oS l) (some 1) (some 2) = oS ((l.drop 1).take 1) := by
  by_cases h2 : 2 ≤ l.length
  · exact tx_ss (a := 1) (b := 2) rfl rfl (lb rfl) h2
  · obtain ⟨x, rfl⟩ : ∃ x, l = [x] := List.length_eq_one_iff.mp (eq_fin (Nat.lt_of_not_le h2) (Nat.not_lt_of_le h))
    rfl
/-- the three ways a kind is written -/
theorem pcs_kind (k : Nat) (h9 : k < 9) (h7 : k ≠ 7) : (∃ c, pcs k = [c] ∧ c ≠ 91 ∧ tks k = if c = 46 then [97, 98] else [c]) ∨
    (∃ (b : Bool) (bl : List Nat), pcs k = 91 :: ((if b then [94] else []) ++ (bl ++ [93])) ∧ 93 ∉ bl ∧ bl[0]? ≠ some 94 ∧ (1 ≤ bl.length ∧ bl.length ≤ 3) ∧ (bl = [97, 45, 98] ∨ (bl.drop 1).take 1 ≠ [45]) ∧
      tks k = [97, 98].filter fun c => decide (c ∈ (if bl = [97, 45, 98] then [97, 98] else bl)) != b) := by
  have : k = 0 ∨ k = 1 ∨ k = 2 ∨ k = 3 ∨ k = 4 ∨ k = 5 ∨ k = 6 ∨ k = 8 := by lia
  rcases this with rfl | rfl | rfl | rfl | rfl | rfl | rfl | rfl
  · exact .inl ⟨97, by decide⟩
  · exact .inl ⟨98, by decide⟩
  · exact .inl ⟨46, by decide⟩
  · exact .inr ⟨false, [97, 98], by decide⟩
  · exact .inr ⟨true, [97], by decide⟩
  · exact .inr ⟨true, [98], by decide⟩
  · exact .inr ⟨false, [97, 45, 98], by decide⟩
  · exact .inl ⟨46, by decide⟩
abbrev rdN : List Str := ["shown", "kept", "at", "end"]
noncomputable def rdB : List Stmt := bodyOf (at0 (fnBody (stmtAt 25)) 3)
noncomputable def rdC : Expr := match at0 (fnBody (stmtAt 25)) 3 with
  | .While c _ _ _ => c
  | _ => .Constant .none 0 default
noncomputable def rdK : List Stmt := bodyOf (at0 (elseOf (at0 rdB 1)) 0)
noncomputable abbrev rdT (L kr : Addr) (S : List Nat) (t : Tok) (p : Nat) (tt : Tok) (ve : Option Value) (acc : List Str) (vb vo : Option Value) : Os :=
  [(L, .ns rdN [some (.str (oS S) t), some (.ref kr), some (.int p tt), ve]), (kr, .strs acc), (L + 1, .cell vb), (L + 2, .cell vo)]
theorem br_facts {S R bl : List Nat} {p : Nat} {b : Bool} (hS : S.drop p = 91 :: ((if b then [94] else []) ++ (bl ++ [93])) ++ R) (hb93 : 93 ∉ bl) (hb94 : bl[0]? ≠ some 94) (h1 : 1 ≤ bl.length) :
    ∃ c1, S[p]? = some 91 ∧ PySem.Builtin.Str.occurrences (oS S) (oS [93]) p S.length 1 = [p + (if b then 2 else 1) + bl.length] ∧ S[p + 1]? = some c1 ∧ decide (c1 = 94) = b ∧ p + (if b then 2 else 1) + bl.length ≤ S.length ∧ (S.drop (p + (if b then 2 else 1))).take (p + (if b then 2 else 1) + bl.length - (p + (if b then 2 else 1))) = bl := by
  have hg : ∀ j, S[p + j]? = (91 :: ((if b then [94] else []) ++ (bl ++ [93])) ++ R)[j]? := fun j => by rw [← hS, List.getElem?_drop]
  have hat : S[p + (if b then 2 else 1) + bl.length]? = some 93 := by
    rw [Nat.add_assoc, hg]
    cases b
    · show (91 :: (bl ++ [93] ++ R))[1 + bl.length]? = some 93
      rw [Nat.add_comm, List.getElem?_cons_succ]
      simp
    · show (91 :: 94 :: (bl ++ [93] ++ R))[2 + bl.length]? = some 93
      rw [show 2 + bl.length = bl.length + 1 + 1 by exact suc_add (suc_add (add_sub' (Nat.le_add_left 0 (List.length bl + 2)))), List.getElem?_cons_succ, List.getElem?_cons_succ]
      simp
  have hlt := (List.getElem?_eq_some_iff.mp hat).1
  refine (?_ : ∃ c1, S[p + 1]? = some c1 ∧ decide (c1 = 94) = b).elim fun c1 hc => ⟨c1, hg 0, ?_, hc.1, hc.2, Nat.le_of_lt hlt, ?_⟩
  · rw [hg]
    cases b with
    | true => exact ⟨94, rfl, rfl⟩
    | false =>
      match bl, h1 with
      | x :: r, _ => exact ⟨x, rfl, decide_eq_false fun y => hb94 (congrArg some y)⟩
  · refine occ1_at (u_le (Nat.le_add_right (p + if b = true then 2 else 1) (List.length bl))) hlt hat fun j h2 h3 h4 => ?_
    obtain ⟨j, rfl⟩ : ∃ i, j = p + i := ⟨j - p, by lia⟩
    rw [hg] at h4
    have hj : j < (91 :: ((if b then [94] else []) ++ bl)).length := by
      rw [List.length_cons, List.length_append]
      cases b
      · show _ < 0 + _ + 1
        have : p + j < p + 1 + bl.length := h3
        lia
      · show _ < 1 + _ + 1
        have : p + j < p + 2 + bl.length := h3
        lia
    rw [show 91 :: ((if b then [94] else []) ++ (bl ++ [93])) ++ R = (91 :: ((if b then [94] else []) ++ bl)) ++ ([93] ++ R) by simp, List.getElem?_append_left hj] at h4
    have := List.mem_of_getElem? h4
    rcases List.mem_cons.mp this with h | h
    · cases h
    · rcases List.mem_append.mp h with h | h
      · cases b <;> simp at h
      · exact hb93 h
  · rw [← List.drop_drop, hS, Nat.add_sub_cancel_left]
    cases b
    · show (bl ++ [93] ++ R).take _ = bl
      simp
    · show (bl ++ [93] ++ R).take _ = bl
      simp
section
variable {w : World} {B : Around} {g : Gd} {σ : Shared} {L kr : Addr} {S : List Nat} {t tt : Tok} {p : Nat} {ve vb vo : Option Value} {acc : List Str} {Q : Flow → Shared → Prop} {s : Shared}
/-- a token that takes nothing -/
theorem rd_no {R : List Nat} (e : En (g.envC 25 L) L rdN) (F : St g σ [] (rdT L kr S t p tt ve acc vb vo) s) (hz : S.length ≤ 1000) (hp : p + 4 ≤ S.length) (ha : acc.length ≤ 1000) (hR : S.drop p = [40, 63, 33, 41] ++ R)
    (h : ∀ s' tt, St g σ [] (rdT L kr S t (p + 4) tt ve (acc ++ [oS []]) vb vo) s' → Q .next s') : Wp w B (execs (rdB.drop 1) (g.envC 25 L)) Q NoE s := by
  refine x_ifY F (((EvS.part (vn e (by (focus (repeat (first | with_reducible exact At2.here | apply At2.there))))).str (vn e (by (focus (repeat (first | with_reducible exact At2.here | apply At2.there))))).int (EvI.add (vn e (by (focus (repeat (first | with_reducible exact At2.here | apply At2.there))))).int vk) rfl (Int.natCast_add p 4).symm (Nat.le_add_right p 4) hp (Nat.le_trans hz (lb rfl))).eq (vl lit_no)).cast (decide_eq_true (by rw [hR, Nat.add_sub_cancel_left]; rfl))) ?_
  clear F; intro s F
  refine x_app F (vn e (by (focus (repeat (first | with_reducible exact At2.here | apply At2.there))))) (vl lit_e) (by (focus (repeat (first | with_reducible exact Up.here | apply Up.there)))) ha ?_
  clear F; intro s F
  refine x_asI 2 F e (EvI.cast (EvI.add (vn e (by (focus (repeat (first | with_reducible exact At2.here | apply At2.there))))).int vk) (Int.natCast_add p 4).symm) ?_
  (dsimp only [List.set]; clear F; intro tk s F)
  exact x_nil (x_nil (h _ _ F))
/-- a token of one sign -/
theorem rd_one {c : Nat} (e : En (g.envC 25 L) L rdN) (F : St g σ [] (rdT L kr S t p tt ve acc vb vo) s) (hz : S.length ≤ 1000) (hp : p + 4 ≤ S.length) (ha : acc.length ≤ 1000) (h1 : (S.drop p).take 4 ≠ [40, 63, 33, 41]) (hc : S[p]? = some c) (hb : c ≠ 91)
    (h : ∀ s' tt, St g σ [] (rdT L kr S t (p + 1) tt ve (acc ++ [oS (if c = 46 then [97, 98] else [c])]) vb vo) s' → Q .next s') : Wp w B (execs (rdB.drop 1) (g.envC 25 L)) Q NoE s := by
  refine x_ifN F (((EvS.part (vn e (by (focus (repeat (first | with_reducible exact At2.here | apply At2.there))))).str (vn e (by (focus (repeat (first | with_reducible exact At2.here | apply At2.there))))).int (EvI.add (vn e (by (focus (repeat (first | with_reducible exact At2.here | apply At2.there))))).int vk) rfl (Int.natCast_add p 4).symm (Nat.le_add_right p 4) hp (Nat.le_trans hz (lb rfl))).eq (vl lit_no)).cast (decide_eq_false (by rw [Nat.add_sub_cancel_left]; exact h1))) ?_
  clear F; intro s F
  refine x_ifN F (((EvS.at (vn e (by (focus (repeat (first | with_reducible exact At2.here | apply At2.there))))).str (vn e (by (focus (repeat (first | with_reducible exact At2.here | apply At2.there))))).int rfl hc (Nat.le_trans hz (lb rfl))).eq (vl lit_br)).cast (decide_eq_false fun x => hb (List.cons.inj x).1)) ?_
  clear F; intro s F
  refine x_app (l := if c = 46 then [97, 98] else [c]) F (vn e (by (focus (repeat (first | with_reducible exact At2.here | apply At2.there))))) (EvS.ife (k := decide ([c] = [46])) ((EvS.at (vn e (by (focus (repeat (first | with_reducible exact At2.here | apply At2.there))))).str (vn e (by (focus (repeat (first | with_reducible exact At2.here | apply At2.there))))).int rfl hc (Nat.le_trans hz (lb rfl))).eq (vl lit_dot)) (fun x => (vl lit_ab).cast (if_pos (List.cons.inj (of_decide_eq_true x)).1).symm) fun x => (EvS.at (vn e (by (focus (repeat (first | with_reducible exact At2.here | apply At2.there))))).str (vn e (by (focus (repeat (first | with_reducible exact At2.here | apply At2.there))))).int rfl hc (Nat.le_trans hz (lb rfl))).cast (if_neg fun h => of_decide_eq_false x (congrArg (fun y => [y]) h)).symm) (by (focus (repeat (first | with_reducible exact Up.here | apply Up.there)))) ha ?_
  clear F; intro s F
  refine x_asI 2 F e (EvI.cast (EvI.add (vn e (by (focus (repeat (first | with_reducible exact At2.here | apply At2.there))))).int vk) (Int.natCast_add p 1).symm) ?_
  (dsimp only [List.set]; clear F; intro tk s F)
  exact x_nil (x_nil (x_nil (h _ _ F)))
theorem join_ab (p : Nat → Bool) : JoinOk (Str.ofString "") (([97, 98].filter p).map fun c => oS [c]) = true ∧ Txt.join (Str.ofString "") (([97, 98].filter p).map fun c => oS [c]) = oS ([97, 98].filter p) := by
  rw [List.filter_cons, List.filter_cons, List.filter_nil]
  cases p 97 <;> cases p 98 <;> exact ⟨by decide +kernel, by decide +kernel⟩
/-- the end of a token in brackets -/
theorem rd_br2 {b : Bool} {bl : List Nat} {q : Nat} {tq tb : Tok} (hh : B.handled = none) (e : En (g.envC 25 L) L rdN) (F : St g σ [] [(L, .ns rdN [some (.str (oS S) t), some (.ref kr), some (.int p tt), some (.int q tq)]), (kr, .strs acc), (L + 1, .cell (some (.bool b))), (L + 2, .cell (some (.str (oS bl) tb)))] s) (ha : acc.length ≤ 1000) (hbl : bl.length ≤ 3)
    (h : ∀ s' tt ve vb vo, St g σ [] (rdT L kr S t (q + 1) tt ve (acc ++ [oS ([97, 98].filter fun c => decide (c ∈ bl) != b)]) vb vo) s' → Q .next s') : Wp w B (execs (rdK.drop 4) (g.envC 25 L)) Q NoE s := by
  refine x_expr (e_met1 ?_)
  (refine' e_loc F e ?_ ?_; rotate_left 1; (focus (repeat (first | with_reducible exact At2.here | apply At2.there))))
  refine ⟨_, rcv_list (F.mem (.there .here)).choose_spec.choose_spec.1 PySem.F.slot_list_append type_list_append, ?_⟩
  refine e_met1 (e_str F ?_); (clear F; intro tk s F)
  refine ⟨_, rcv_str PySem.F.slot_str_join PySem.F.type_str_join, ?_⟩
  refine e_lc (comp_ab (g := g) (s₀ := σ) (ms := []) (cl := [("body", L + 2), ("barred", L + 1)]) (fun c => decide (c ∈ bl) != b) hh F (by rfl) (by decide +kernel) (by rfl) (by decide +kernel) (by decide +kernel) rfl rfl ?_ ?_)
  · intro c t' C kD kit D it s' hc F ec Q hq
    refine t_cmp (e_cmp ?_)
    refine e_loc F ec .here ?_
    refine e_cell (L + 2) F (by (focus (repeat (first | with_reducible exact Mem.here | apply Mem.there)))) (v_sin ?_)
    refine e_cell (L + 1) F (by (focus (repeat (first | with_reducible exact Mem.here | apply Mem.there)))) ?_
    exact c_bne (hq _ F)
  · clear F; intro D s hD F
    obtain ⟨j1, j2⟩ := join_ab fun c => decide (c ∈ bl) != b
    refine k_join F (.there .here) j1 ?_
    rw [j2]
    clear F; intro t1 s F
    replace F := F.drop (a := D) (.there .here)
    refine app_strs F (.there .here) ha ?_
    clear F; intro s F
    refine x_asI 2 F e (EvI.cast (EvI.add (vn e (by (focus (repeat (first | with_reducible exact At2.here | apply At2.there))))).int vk) (Int.natCast_add q 1).symm) ?_
    (dsimp only [List.set]; clear F; intro tk s F)
    exact x_nil (h _ _ _ _ _ F)
/-- a token in brackets -/
theorem rd_br {b : Bool} {bl : List Nat} {q c1 : Nat} (hh : B.handled = none) (e : En (g.envC 25 L) L rdN) (F : St g σ [] (rdT L kr S t p tt ve acc vb vo) s) (hz : S.length ≤ 1000) (hp : p + 4 ≤ S.length) (ha : acc.length ≤ 1000) (h1 : (S.drop p).take 4 ≠ [40, 63, 33, 41]) (hc : S[p]? = some 91)
    (hi : PySem.Builtin.Str.occurrences (oS S) (oS [93]) p S.length 1 = [q]) (hc1 : S[p + 1]? = some c1) (hb : decide (c1 = 94) = b) (hq : q ≤ S.length) (hq1 : p + (if b then 2 else 1) ≤ q) (hbd : (S.drop (p + (if b then 2 else 1))).take (q - (p + (if b then 2 else 1))) = bl) (hbl : 1 ≤ bl.length ∧ bl.length ≤ 3) (hda : bl = [97, 45, 98] ∨ (bl.drop 1).take 1 ≠ [45])
    (h : ∀ s' tt ve vb vo, St g σ [] (rdT L kr S t (q + 1) tt ve (acc ++ [oS ([97, 98].filter fun c => decide (c ∈ (if bl = [97, 45, 98] then [97, 98] else bl)) != b)]) vb vo) s' → Q .next s') : Wp w B (execs (rdB.drop 1) (g.envC 25 L)) Q NoE s := by
  refine x_ifN F (((EvS.part (vn e (by (focus (repeat (first | with_reducible exact At2.here | apply At2.there))))).str (vn e (by (focus (repeat (first | with_reducible exact At2.here | apply At2.there))))).int (EvI.add (vn e (by (focus (repeat (first | with_reducible exact At2.here | apply At2.there))))).int vk) rfl (Int.natCast_add p 4).symm (Nat.le_add_right p 4) hp (Nat.le_trans hz (lb rfl))).eq (vl lit_no)).cast (decide_eq_false (by rw [Nat.add_sub_cancel_left]; exact h1))) ?_
  clear F; intro s F
  refine x_ifY F (((EvS.at (vn e (by (focus (repeat (first | with_reducible exact At2.here | apply At2.there))))).str (vn e (by (focus (repeat (first | with_reducible exact At2.here | apply At2.there))))).int rfl hc (Nat.le_trans hz (lb rfl))).eq (vl lit_br)).cast (decide_eq_true rfl)) ?_
  clear F; intro s F
  refine x_asI 3 F e (EvS.index (vn e (by (focus (repeat (first | with_reducible exact At2.here | apply At2.there))))).str (vl lit_bl) (vn e (by (focus (repeat (first | with_reducible exact At2.here | apply At2.there))))).int hi rfl rfl rfl) ?_
  (dsimp only [List.set]; clear F; intro tk s F)
  refine x_celV (L + 1) F (((EvS.at (vn e (by (focus (repeat (first | with_reducible exact At2.here | apply At2.there))))).str (EvI.add (vn e (by (focus (repeat (first | with_reducible exact At2.here | apply At2.there))))).int vk) (Int.natCast_add p 1).symm hc1 (Nat.le_trans hz (lb rfl))).beq (vl lit_up))) (by (focus (repeat (first | with_reducible exact Up.here | apply Up.there)))) ?_ rfl rfl (by kernel_rfl) (by kernel_rfl)
  clear F; intro s F
  have hb' : decide ([c1] = [94]) = b := by rw [← hb]; exact decide_eq_decide.mpr ⟨fun x => (List.cons.inj x).1, fun x => x ▸ rfl⟩
  rw [hb'] at F
  refine x_as (es_go (l := bl) F (EvS.ife (vc (L + 1) (by (focus (repeat (first | with_reducible exact Mem.here | apply Mem.there)))) rfl (by kernel_rfl) (by kernel_rfl) (by kernel_rfl)).ts (fun x => ?_) fun x => ?_) ?_)
  · subst x
    exact (EvS.part (vn e (by (focus (repeat (first | with_reducible exact At2.here | apply At2.there))))).str (EvI.add (vn e (by (focus (repeat (first | with_reducible exact At2.here | apply At2.there))))).int vk) (vn e (by (focus (repeat (first | with_reducible exact At2.here | apply At2.there))))).int (Int.natCast_add p 2).symm rfl hq1 hq (Nat.le_trans hz (lb rfl))).cast hbd
  · subst x
    exact (EvS.part (vn e (by (focus (repeat (first | with_reducible exact At2.here | apply At2.there))))).str (EvI.add (vn e (by (focus (repeat (first | with_reducible exact At2.here | apply At2.there))))).int vk) (vn e (by (focus (repeat (first | with_reducible exact At2.here | apply At2.there))))).int (Int.natCast_add p 1).symm rfl hq1 hq (Nat.le_trans hz (lb rfl))).cast hbd
  clear F; intro tb s F
  refine s_cell (L + 2) F (by (focus (repeat (first | with_reducible exact Up.here | apply Up.there)))) ?_
  clear F; intro s F
  refine x_ifD F ((EvS.sl12 (vc (L + 2) (by (focus (repeat (first | with_reducible exact Mem.here | apply Mem.there)))) rfl (by kernel_rfl) (by kernel_rfl) (by kernel_rfl)).str hbl.1 (Nat.le_trans hbl.right (lb rfl)) (tx_12 hbl.1)).eq (vl lit_da)) (fun x s F => ?_) fun x s F => ?_
  · have h6 := hda.resolve_right fun y => y x
    subst h6
    refine x_as (e_met1 (e_str F ?_)); (clear F; intro tk s F)
    refine ⟨_, rcv_str PySem.F.slot_str_join PySem.F.type_str_join, ?_⟩
    refine e_lc (comp_ab (g := g) (s₀ := σ) (ms := []) (cl := [("body", L + 2)]) (fun _ => true) hh F (by rfl) (by decide +kernel) (by rfl) (by decide +kernel) (by decide +kernel) rfl rfl ?_ ?_)
    · intro c t' C kD kit D it s' hc F ec Q hq
      refine t_chain2 (e_sub ?_)
      refine e_cell (L + 2) F (by (focus (repeat (first | with_reducible exact Mem.here | apply Mem.there)))) ?_
      (refine e_int F ?_; clear F; intro tk s F)
      refine sub_s F (k := 0) rfl rfl (by decide) ?_
      (clear F; intro tk s F)
      refine e_loc F ec .here (c_sle ?_)
      refine if_y (by rcases hc with rfl | rfl <;> decide +kernel) ?_
      refine e_sub ?_
      refine e_cell (L + 2) F (by (focus (repeat (first | with_reducible exact Mem.here | apply Mem.there)))) ?_
      (refine e_int F ?_; clear F; intro tk s F)
      refine sub_s F (k := 2) rfl rfl (by decide) ?_
      (clear F; intro tk s F)
      refine c_sle ?_
      rw [show (!decide ((oS [98]).cps.toList < (oS [c]).cps.toList)) = true by rcases hc with rfl | rfl <;> decide +kernel]
      exact hq _ F
    · clear F; intro D s hD F
      obtain ⟨j1, j2⟩ := join_ab fun _ => true
      refine k_join F (.there .here) j1 ?_
      rw [j2]
      clear F; intro t1 s F
      replace F := F.drop (a := D) (.there .here)
      refine s_cell (L + 2) F (by (focus (repeat (first | with_reducible exact Up.here | apply Up.there)))) ?_
      clear F; intro s F
      exact x_nil (rd_br2 hh e F ha (by decide) fun s' tt ve vb vo F => x_nil (x_nil (h s' tt ve vb vo F)))
  · have h6 : bl ≠ [97, 45, 98] := fun y => x (by rw [y]; rfl)
    rw [if_neg h6] at h
    exact x_nil (rd_br2 hh e F ha hbl.2 fun s' tt ve vb vo F => x_nil (x_nil (h s' tt ve vb vo F)))
end
section
variable {w : World} {B : Around} {g : Gd} {σ : Shared} {L kr : Addr} {S : List Nat} {t tt : Tok} {p : Nat} {ve vb vo : Option Value} {acc : List Str} {s : Shared}
/-- a turn of the reading loop -/
theorem rd_turn {rm : List Nat} {star : Bool} {J : Value → Shared → Prop} {K : Shared → Prop} (hhh : B.handled = none) (hsl2 : S.length ≤ 200) (hk9 : ∀ k ∈ rm, k < 9) (hacc : acc.length ≤ 1000) (hSp : S.drop p = rm.flatMap pcs ++ tailL star) (e : En (g.envC 25 L) L rdN) (F : St g σ [] (rdT L kr S t p tt ve acc vb vo) s)
    (hnx : ∀ k rm', rm = k :: rm' → ∀ {tt ve vb vo s} q x, q = p + (pcs k).length → x = tks k → St g σ [] (rdT L kr S t q tt ve (acc ++ [oS x]) vb vo) s → K s)
    (hend : ∀ (b : Bool) {r : Addr} {n : Nat} {s : Shared} {T : Os}, b = star → rm = [] → σ.heap.objs.size ≤ r → s.heap.get? r = some (listO [.ref kr, .bool b] n) → St g σ [] T s → Mem T kr (.strs acc) → J (.ref r) s) :
    Wp w B (isTrue rdC (g.envC 25 L) (eval rdC (g.envC 25 L))) (fun b s₂ => if b then Wp w B (execs rdB (g.envC 25 L)) (Lp K (fun s₃ => Wp w B (execs ((fnBody (stmtAt 25)).drop 4) (g.envC 25 L)) (Rf J) NoE s₃) (Rf J)) NoE s₂ else Wp w B (execs ((fnBody (stmtAt 25)).drop 4) (g.envC 25 L)) (Rf J) NoE s₂) NoE s := by
  have hSl := congrArg List.length hSp
  rw [List.length_drop, List.length_append] at hSl
  have htl : 3 ≤ (tailL star).length := by cases star <;> decide
  refine ts_go F (EvI.lt (vn e (by (focus (repeat (first | with_reducible exact At2.here | apply At2.there))))).int (EvI.sub (EvS.len e (vn e (by (focus (repeat (first | with_reducible exact At2.here | apply At2.there))))).str (Nat.le_trans hsl2 (lb rfl)) (by kernel_rfl) rfl) vk)) ?_
  clear F; intro s F
  cases rm with
  | nil =>
    cases star with
    | false =>
      have hSl : p + 3 = S.length := sub_add (show S.length - p = 3 from hSl) (by decide)
      refine if_n (decide_eq_false (by lia)) (x_ret (e_list (sp_cons ?_)))
      (refine' e_loc F e ?_ ?_; rotate_left 1; (focus (repeat (first | with_reducible exact At2.here | apply At2.there))))
      refine sp_cons (e_false (sp_nil ⟨by show 2 ≤ 1000; decide, _, _, _, _, _, F, ?_⟩))
      clear F; intro r s hr F
      exact hend false rfl rfl hr (F.mem (.there .here) : Mine.K.At _ _ (.list _)).choose_spec F (.there (.there .here))
    | true =>
      have hSl : p + 5 = S.length := sub_add (show S.length - p = 5 from hSl) (by decide)
      refine if_y (decide_eq_true (by lia)) (x_ifY F (((EvS.from (vn e (by (focus (repeat (first | with_reducible exact At2.here | apply At2.there))))).str (vn e (by (focus (repeat (first | with_reducible exact At2.here | apply At2.there))))).int rfl (Nat.le.intro hSl) (Nat.le_trans hsl2 (lb rfl))).eq (vl lit_end)).cast (decide_eq_true (by rw [hSp]; rfl))) ?_)
      clear F; intro s F
      refine x_ret (e_list (sp_cons ?_))
      (refine' e_loc F e ?_ ?_; rotate_left 1; (focus (repeat (first | with_reducible exact At2.here | apply At2.there))))
      refine sp_cons (e_true (sp_nil ⟨by show 2 ≤ 1000; decide, _, _, _, _, _, F, ?_⟩))
      clear F; intro r s hr F
      exact hend true rfl rfl hr (F.mem (.there .here) : Mine.K.At _ _ (.list _)).choose_spec F (.there (.there .here))
  | cons k rm =>
    have hnx := fun {tt ve vb vo s} => @hnx k rm rfl tt ve vb vo s
    clear hend
    rw [List.flatMap_cons, List.append_assoc] at hSp
    rw [List.flatMap_cons, List.length_append] at hSl
    have hpk := pcs_pos k
    have hSl := sub_add hSl (Nat.add_pos_left (Nat.add_pos_left hpk _) _)
    have hk9 := hk9 k (.head _)
    refine if_y (decide_eq_true (by lia)) (x_ifN F (((EvS.from (vn e (by (focus (repeat (first | with_reducible exact At2.here | apply At2.there))))).str (vn e (by (focus (repeat (first | with_reducible exact At2.here | apply At2.there))))).int rfl (Nat.le.intro hSl) (Nat.le_trans hsl2 (lb rfl))).eq (vl lit_end)).cast (decide_eq_false (by rw [hSp]; exact rest_ne k rm star))) ?_)
    clear F; intro s F
    refine x_nil ?_
    by_cases h7 : k = 7
    · subst h7
      exact rd_no e F (Nat.le_trans hsl2 (lb rfl)) (by lia) hacc hSp fun s' tt F => hnx _ [] rfl rfl F
    · have hne : (S.drop p).take 4 ≠ [40, 63, 33, 41] := by rw [hSp]; exact pcs_ne k h7 _
      rcases pcs_kind k hk9 h7 with ⟨c, hpc, hc, htk⟩ | ⟨b, bl, hpc, hb93, hb94, hbl, hda, htk⟩
      · rw [hpc] at hSp hnx
        exact rd_one e F (Nat.le_trans hsl2 (lb rfl)) (by lia) hacc hne (by rw [← List.head?_drop, hSp]; rfl) hc fun s' tt F => hnx _ _ rfl htk.symm F
      · rw [hpc] at hSp
        obtain ⟨c1, f1, f2, f3, f4, f5, f6⟩ := br_facts hSp hb93 hb94 hbl.1
        refine rd_br hhh e F (Nat.le_trans hsl2 (lb rfl)) (by lia) hacc hne f1 f2 f3 f4 f5 (Nat.le_add_right _ _) f6 hbl hda fun s' tt ve vb vo F => hnx _ _ ?_ htk.symm F
        rw [hpc]
        cases b <;> simp <;> lia
end
section
variable {w : World} {A : Around} {g : Gd} {σ : Shared}
theorem lawread_spec {ks : List Nat} {star : Bool} {t : Tok} (I : Iv g σ) (hh : A.handled = none) (hA : A.depth + 2 < recursionLimit) (hks : ∀ k ∈ ks, k < 9) (hz : ks.length ≤ 20) :
    Spec w A (.ref (g.fa 25)) [.str (oS (shownL ks star)) t] σ (fun v s' => ∃ (r kr : Nat) (n : Nat), v = .ref r ∧ After g [] σ s' ∧ Iv g s' ∧ σ.heap.objs.size ≤ r ∧ s'.heap.get? r = some (listO [.ref kr, .bool star] n) ∧ σ.heap.objs.size ≤ kr ∧ K.At s'.heap kr (.strs (ks.map fun k => oS (tks k)))) := by
  have hsl : (shownL ks star).length = (ks.flatMap pcs).length + (if star then 9 else 7) := by
    unfold shownL tailL
    cases star <;> simp
  have hfl := flat_le ks
  have hsl2 : (shownL ks star).length ≤ 200 := by rw [hsl]; split <;> lia
  have hsl3 : 7 ≤ (shownL ks star).length := by rw [hsl]; split <;> lia
  have F0 : St g σ [] [] σ := .start I (by simp) (by simp) (by simp) (by simp)
  refine enterC (i := 25) (dflt := .none) rdN [some (.str (oS (shownL ks star)) t), none, none, none] [("barred", none), ("body", none)] [("shown", .str (oS (shownL ks star)) t)] I (u_lt hA) F0 (I.get (I.ok.fn 25 (by decide)).get (by rw [(I.ok.fn 25 (by decide)).data]; nofun)) (I.ok.fn 25 (by decide)).data (I.ok.fn 25 (by decide)).code (Wp.val (by first | rfl | kernel_rfl) ⟨rfl, rfl⟩) (by kernel_rfl) (by kernel_rfl) (by kernel_rfl) (fun L => by kernel_rfl) (by decide +kernel) (by decide +kernel) (by decide +kernel) (by decide +kernel) ?_
  intro L s hL F e J hJ
  replace F : St g σ [] [(L, .ns rdN [some (.str (oS (shownL ks star)) t), none, none, none]), (L + 1, .cell none), (L + 2, .cell none)] s := F
  have hhh : (A.deeper (g.envC 25 L)).handled = none := hh
  have htail : ∃ P, shownL ks star = P ++ [41, 92, 90] ∧ P.length + 3 = (shownL ks star).length := by
    refine ⟨[40, 63, 115, 58] ++ (ks.flatMap pcs ++ (if star then [46, 42] else [])), ?_, ?_⟩
    · unfold shownL tailL; simp
    · rw [hsl]; cases star <;> simp
  have hS0 : (shownL ks star).take 4 = [40, 63, 115, 58] := rfl
  have hSd : ∀ dn rm, dn ++ rm = ks → (shownL ks star).drop (4 + (dn.flatMap pcs).length) = rm.flatMap pcs ++ tailL star := fun dn rm x => by
    have : shownL ks star = ([40, 63, 115, 58] ++ dn.flatMap pcs) ++ (rm.flatMap pcs ++ tailL star) := by rw [← x]; unfold shownL; simp
    rw [this, show 4 + (dn.flatMap pcs).length = ([40, 63, 115, 58] ++ dn.flatMap pcs).length by simp; lia, List.drop_left]
  clear hsl hfl
  generalize shownL ks star = S at *
  generalize A.deeper (g.envC 25 L) = B at *
  refine x_as (e_list (sp_nil ⟨Nat.zero_le _, _, _, _, _, _, F, ?_⟩)); clear F; intro kr s hkr F
  replace F := F.to_strs (xs := []) .nil
  (refine' s_loc F e ?_ ?_; rotate_left 1; (focus (repeat (first | with_reducible exact Up2.here | apply Up2.there))); clear F; intro s F)
  refine ex1 htail ?_; (try clear htail); intro P hJ
  refine and2 hJ ?_; clear hJ; intro hP hPl
  refine x_ifN F ((((EvS.upto (vn e (by (focus (repeat (first | with_reducible exact At2.here | apply At2.there))))).str vk (b := 4) rfl (Nat.le_trans (lb rfl) hsl3) (Nat.le_trans hsl2 (lb rfl))).ne (vl lit_hd)).or fun _ => (EvS.tail (n := 3) (vn e (by (focus (repeat (first | with_reducible exact At2.here | apply At2.there))))).str (by decide) (Nat.le_trans (Nat.le_add_left 3 (List.length P)) (Nat.le_of_eq hPl)) (Nat.le_trans hsl2 (lb rfl))).ne (vl lit_tl)).cast (by rw [hS0, decide_eq_true rfl, show S.length - 3 = P.length by lia, hP, List.drop_left]; rfl)) ?_
  clear F hS0 hP hPl; intro s F
  refine x_nil (x_asI 2 F e vk ?_)
  (dsimp only [List.set]; clear F; intro tk s F)
  refine x_while (fun m s => ∃ (dn rm : List Nat) (tt : Tok) (ve vb vo : Option Value), dn ++ rm = ks ∧ m = rm.length ∧
    St g σ [] (rdT L kr S t (4 + (dn.flatMap pcs).length) tt ve (dn.map fun k => oS (tks k)) vb vo) s) _ (exi6 [] ks _ _ _ _ ⟨rfl, rfl, F⟩) ?_
  clear F s
  intro m s hI2 K hK
  refine ex6 hI2 ?_; (try clear hI2); intro dn rm tt ve vb vo hJ
  refine and3 hJ ?_; clear hJ; intro hdr hR1 F
  subst hR1
  have hSp := hSd dn rm hdr
  have hdl : dn.length + rm.length = ks.length := by rw [← hdr, List.length_append]
  have hacc : (dn.map fun k => oS (tks k)).length ≤ 1000 := by rw [List.length_map]; exact Nat.le_trans (Nat.le.intro hdl) (Nat.le_trans hz (lb rfl))
  have hnx : ∀ k rm', rm = k :: rm' → ∀ {tt ve vb vo s} q x, q = 4 + (dn.flatMap pcs).length + (pcs k).length → x = tks k → St g σ [] (rdT L kr S t q tt ve ((dn.map fun k => oS (tks k)) ++ [oS x]) vb vo) s → K s := by
    rintro k rm' rfl tt ve vb vo s q x rfl rfl F
    refine hK rm'.length _ (Nat.lt_succ_self _) ⟨dn ++ [k], rm', tt, ve, vb, vo, by rw [← hdr, List.append_assoc]; rfl, rfl, ?_⟩
    rw [List.flatMap_append, List.length_append, List.map_append, ← Nat.add_assoc]
    simpa using F
  have hend : ∀ (b : Bool) {r : Addr} {n : Nat} {s : Shared} {T : Os}, b = star → rm = [] → σ.heap.objs.size ≤ r → s.heap.get? r = some (listO [.ref kr, .bool b] n) → St g σ [] T s → Mem T kr (.strs (dn.map fun k => oS (tks k))) → J (.ref r) s := by
    rintro b r n s T rfl rfl hr hn F m
    rw [List.append_nil] at hdr
    subst hdr
    exact hJ _ _ ⟨_, rfl, r, kr, n, rfl, F.aft, F.inv, hr, hn, hkr, F.mem m⟩
  have hk9 : ∀ k ∈ rm, k < 9 := fun k hk => hks k (hdr ▸ List.mem_append_right _ hk)
  exact rd_turn hhh hsl2 hk9 hacc hSp e F (fun k rm' x => hnx k rm' x) (fun b => hend b)
end
end
/-! MS9 -/
section
set_option hygiene false
section
variable {w : World} {A : Around} {g : Gd} {σ : Shared}
theorem escape_spec {c : Nat} {t : Tok} (I : Iv g σ) (hh : A.handled = none) (hA : A.depth < recursionLimit) (hc : c = 97 ∨ c = 98) :
    Spec w A (.ref (g.fa 8)) [.str (oS [c]) t] σ (fun v s' => ∃ t', v = .str (oS [c]) t' ∧ After g [] σ s' ∧ Iv g s') := by
  have F0 : St g σ [] [] σ := .start I (by simp) (by simp) (by simp) (by simp)
  refine enter (i := 8) ["pattern"] [some _] (pn := ["pattern"]) (k := 0) I hA (by decide) F0 (by decide +kernel) rfl (fun _ _ _ => by rfl) (by rfl) (by rfl) (by decide +kernel) (by decide +kernel) (by decide +kernel) (by decide +kernel) ?_
  intro L s hL F e J hJ
  refine x_if (t_val (e_call2 ?_))
  (refine' e_bi F e ?_ ?_; rotate_left 1; with_reducible constructor)
  (refine' e_loc F e ?_ ?_; rotate_left 1; (focus (repeat (first | with_reducible exact At2.here | apply At2.there))))
  (refine' e_bi F e ?_ ?_; rotate_left 1; with_reducible constructor)
  refine cw_bi (.of (call_isinstance_yes (T := "str") (typeIs_str _ _ _) (by first | rfl | kernel_rfl) (by rw [isSubtype_type]; kernel_rfl) ?_))
  refine tr_bool ?_
  first | refine br_y rfl ?_ | refine if_y rfl ?_ | rw [if_pos rfl]
  refine x_ret (e_met1 ?_)
  (refine' e_loc F e ?_ ?_; rotate_left 1; (focus (repeat (first | with_reducible exact At2.here | apply At2.there))))
  refine ⟨_, rcv_str PySem.F.slot_str_translate PySem.F.type_str_translate, ?_⟩
  refine e_glo F e (by kernel_rfl) (by kernel_rfl) F.inv.ok.smm ?_
  refine k_translate hh F hL hc ?_
  clear F; intro t' s F
  exact hJ _ _ ⟨_, rfl, _, rfl, F.aft, F.inv⟩
end
end
/-! MS10 -/
section
set_option hygiene false
theorem lit_any : Str.ofString ".*" = oS [46, 42] := by decide +kernel
theorem join_oS : ∀ ls : List (List Nat), Txt.join (oS []) (ls.map oS) = oS ls.flatten := by
  have h : ∀ ls : List (List Nat), Str.join (oS []) (ls.map oS) = oS ls.flatten := by
    intro ls
    induction ls with
    | nil => rfl
    | cons l r ih =>
      cases r with
      | nil => show oS l = _; simp
      | cons m r =>
        show oS l ++ oS [] ++ Str.join (oS []) ((m :: r).map oS) = _
        rw [ih, oS_app, oS_app]
        simp
  exact fun ls => (PySem.StrLaws.glued_eq_join _ _).trans (h ls)
theorem jok_oS (ls : List (List Nat)) (h : ls.flatten.length ≤ 10000) : JoinOk (oS []) (ls.map oS) = true := by
  unfold JoinOk
  have : ∀ (ls : List (List Nat)) (a : Nat), ((ls.map oS).foldl (fun a x => a + x.length + (oS []).length) a) = a + ls.flatten.length := by
    intro ls
    induction ls with
    | nil => intro a; simp
    | cons l r ih => intro a; rw [List.map_cons, List.foldl_cons, ih]; simp [oS_len]; lia
  rw [← Array.foldl_toList]
  simp only [this]
  simp only [Builtin.Str.tooLong, Bool.not_eq_true', decide_eq_false_iff_not]
  show ¬ (2 ^ 24 < _)
  lia
section
variable {w : World} {A : Around} {g : Gd} {σ : Shared}
theorem jt_spec {l st : Addr} {us : List Value} {ks : List Nat} {star : Bool} {n0 : Nat} (I : Iv g σ) (hh : A.handled = none) (hA : A.depth + 2 < recursionLimit) (ho : σ.heap.get? l = some (listO (us ++ if star then [.ref st] else []) n0)) (hst : σ.heap.get? st = some objO)
    (hlow : g.h₁.objs.size ≤ l) (hlow2 : g.h₁.objs.size ≤ st) (hus : Strs us (ks.map fun k => oS (pcs k))) (hz : ks.length ≤ 20) :
    Spec w A (.ref (g.fa 11)) [.ref l, .ref st] σ (fun v s' => ∃ t', v = .str (oS (shownL ks star)) t' ∧ After g [] σ s' ∧ Iv g s') := by
  have hul : us.length = ks.length := by rw [hus.length, List.length_map]
  have hne : l ≠ st := fun e => by rw [e, hst] at ho; injection ho with ho; exact absurd (congrArg Obj.cls ho) (by simp [objO, listO])
  generalize htl : us ++ (if star then [Value.ref st] else []) = ws at ho
  have hwl : ws.length = us.length + (if star then 1 else 0) := by rw [← htl]; cases star <;> simp
  have hbs : (if star then 1 else 0) ≤ 1 := by cases star <;> decide
  have F0 : St g σ [] [(l, .raw (listO ws n0)), (st, .raw objO)] σ := .start I (by
    intro p hp
    rcases List.mem_cons.mp hp with rfl | hp
    · exact ho
    · cases List.mem_singleton.mp hp; exact hst) (by simpa using hne) (by
    intro p hp hs
    rcases List.mem_cons.mp hp with rfl | hp
    · exact hs.elim
    · cases List.mem_singleton.mp hp; exact hs.elim) (by
    intro p hp
    rcases List.mem_cons.mp hp with rfl | hp
    · exact hlow
    · cases List.mem_singleton.mp hp; exact hlow2)
  refine enter (i := 11) ["inp", "STAR", "res", "add", "i", "n", "fixed"] [some _, some _, none, none, none, none, none] (pn := ["inp", "STAR"]) (k := 5) I (u_lt hA) (by decide) F0 (by decide +kernel) rfl (fun _ _ _ => by rfl) (by rfl) (by rfl) (by decide +kernel) (by decide +kernel) (by decide +kernel) (by decide +kernel) ?_
  intro L s hL F e J hJ
  have hhh : (A.deeper (g.env 11 L)).handled = none := hh
  refine x_as (e_list (sp_nil ⟨by simp, _, _, _, _, _, F, ?_⟩)); clear F; intro R s hR F
  (refine' s_loc F e ?_ ?_; rotate_left 1; (focus (repeat (first | with_reducible exact Up2.here | apply Up2.there))); clear F; intro s F)
  refine x_as (e_append F ?_ (F.mem (.there .here)).choose_spec ?_)
  · intro Q hq
    (refine' e_loc F e ?_ ?_; rotate_left 1; (focus (repeat (first | with_reducible exact At2.here | apply At2.there))))
    exact hq
  clear F; intro ad s had F
  (refine' s_loc F e ?_ ?_; rotate_left 1; (focus (repeat (first | with_reducible exact Up2.here | apply Up2.there))); clear F; intro s F)
  replace F := F.perm (os' := [_, (R, .list []), (ad, _), (l, _), (st, _)]) (List.Perm.cons _ (List.Perm.swap ..))
  refine x_as2 hhh ?_
  (refine e_int F ?_; clear F; intro tk s F)
  refine e_call1 ?_
  (refine' e_bi F e ?_ ?_; rotate_left 1; with_reducible constructor)
  (refine' e_loc F e ?_ ?_; rotate_left 1; (focus (repeat (first | with_reducible exact At2.here | apply At2.there))))
  have hlen : ∀ {Q : Value → Shared → Prop} {E : Value → Shared → Prop} {os : Os} {s : Shared} {A : Around}, St g σ [] os s → Mem os l (.raw (listO ws n0)) → (∀ t s', St g σ [] os s' → Q (.int ws.length t) s') → Wp w A (call (.builtin "len") [.ref l]) Q E s := by
    intro Q E os s A F hm h
    refine .of (Calls.call_len_list (listO_is (F.mem hm)) (by simp; lia) ?_)
    rw [List.size_toArray]
    exact h _ _ (F.tick _)
  refine cw_bi (hlen F (by (focus (repeat (first | with_reducible exact Mem.here | apply Mem.there)))) ?_)
  clear F; intro tn s F
  refine ⟨_, _, _, _, _, F, hL, ?_⟩
  clear F; intro s F
  (refine' s_loc F e ?_ ?_; rotate_left 1; (focus (repeat (first | with_reducible exact Up2.here | apply Up2.there))); clear F; intro s F)
  (refine' s_loc F e ?_ ?_; rotate_left 1; (focus (repeat (first | with_reducible exact Up2.here | apply Up2.there))); clear F; intro s F)
  refine x_while (fun m s => ∃ (i : Nat) (ti : Tok), i + m = us.length ∧
    St g σ [] [(L, .ns ["inp", "STAR", "res", "add", "i", "n", "fixed"] [some (.ref l), some (.ref st), some (.ref R), some (.ref ad), some (.int i ti), some (.int ws.length tn), none]), (R, .list (us.take i)), (ad, .raw { cls := .type "builtin_function_or_method", data := .fields #[.builtin "list.append", .ref R] }), (l, .raw (listO ws n0)), (st, .raw objO)] s) us.length (exi2 0 _ ⟨(add_sub' (Nat.le_add_left 0 (List.length us))), F⟩) ?_
  clear F s
  intro m s hI2 K hK
  refine ex2 hI2 ?_; (try clear hI2); intro i ti hJ
  refine and2 hJ ?_; clear hJ; intro him F
  refine t_and (t_cmp ?_)
  (refine' e_loc F e ?_ ?_; rotate_left 1; (focus (repeat (first | with_reducible exact At2.here | apply At2.there))))
  (refine' e_loc F e ?_ ?_; rotate_left 1; (focus (repeat (first | with_reducible exact At2.here | apply At2.there))))
  refine c_lt ?_
  by_cases him2 : i < us.length
  · have hiw : (i : Int) < ws.length := by exact i_lt (Nat.lt_of_lt_of_le him2 (Nat.le_trans (Nat.le_add_right (List.length us) (if star = true then 1 else 0)) (Nat.le_of_eq (Eq.symm hwl))))
    first | refine br_y (decide_eq_true hiw) ?_ | refine if_y (decide_eq_true hiw) ?_
    obtain ⟨ti1, hti⟩ := hus.get (i := i) (x := oS (pcs (ks.getD i 0))) (by simp [List.getD_eq_getElem?_getD, show i < ks.length by exact Nat.lt_of_lt_of_le him2 (Nat.le_of_eq hul)])
    have hwi : ws[i]? = us[i]? := by rw [← htl, List.getElem?_append_left him2]
    refine t_cmp (e_sub ?_)
    (refine' e_loc F e ?_ ?_; rotate_left 1; (focus (repeat (first | with_reducible exact At2.here | apply At2.there))))
    (refine' e_loc F e ?_ ?_; rotate_left 1; (focus (repeat (first | with_reducible exact At2.here | apply At2.there))))
    refine sub_list (F.mem (.there (.there (.there .here)))) (Int.natCast_nonneg _) (by lia) (v := .str (oS (pcs (ks.getD i 0))) ti1) (by rw [Int.toNat_natCast, hwi, hti]) ?_
    (refine' e_loc F e ?_ ?_; rotate_left 1; (focus (repeat (first | with_reducible exact At2.here | apply At2.there))))
    refine c_isn (wpAny_of_eq (a := false) rfl ?_)
    first | refine br_y (by rw [Bool.not_false]) ?_ | refine if_y (by rw [Bool.not_false]) ?_ | rw [Bool.not_false, if_pos rfl]
    refine x_expr (e_call1 ?_)
    (refine' e_loc F e ?_ ?_; rotate_left 1; (focus (repeat (first | with_reducible exact At2.here | apply At2.there))))
    refine e_sub ?_
    (refine' e_loc F e ?_ ?_; rotate_left 1; (focus (repeat (first | with_reducible exact At2.here | apply At2.there))))
    (refine' e_loc F e ?_ ?_; rotate_left 1; (focus (repeat (first | with_reducible exact At2.here | apply At2.there))))
    refine sub_list (F.mem (.there (.there (.there .here)))) (Int.natCast_nonneg _) (by lia) (v := .str (oS (pcs (ks.getD i 0))) ti1) (by rw [Int.toNat_natCast, hwi, hti]) ?_
    refine cw_add F (.there (.there .here)) (.there .here) (by rw [List.length_take]; exact Nat.le_trans (Nat.min_le_right _ _) (Nat.le_trans (Nat.le_of_eq hul) (Nat.le_trans hz (lb rfl)))) ?_
    clear F; intro s F
    refine x_aug (e_ldn F e (by (focus (repeat (first | with_reducible exact At2.here | apply At2.there)))) ?_)
    (refine e_int F ?_; clear F; intro tk s F)
    refine i_add F ?_; (clear F; intro tk s F)
    (refine' s_loc F e ?_ ?_; rotate_left 1; (focus (repeat (first | with_reducible exact Up2.here | apply Up2.there))); clear F; intro s F)
    have e2 : us.take (i + 1) = us.take i ++ [.str (oS (pcs (ks.getD i 0))) ti1] := by rw [List.take_add_one, hti]; rfl
    rw [← e2] at F
    exact x_nil (hK (m - 1) _ (pred_lt (in_of him him2)) (exi2 (i + 1) _ ⟨step_eq him him2, F⟩))
  · have hm0 : m = 0 := by lia
    subst hm0
    have hiu : i = us.length := him
    subst hiu
    rw [List.take_length] at F
    clear hK him him2
    have fin : ∀ (s : Shared) (us' : List Value) (ti' : Tok) (v7 : Option Value), Strs us' (ks.map (fun k => oS (pcs k)) ++ if star then [oS [46, 42]] else []) →
        St g σ [] [(L, .ns ["inp", "STAR", "res", "add", "i", "n", "fixed"] [some (.ref l), some (.ref st), some (.ref R), some (.ref ad), some (.int ws.length ti'), some (.int ws.length tn), v7]), (R, .list us'), (ad, .raw { cls := .type "builtin_function_or_method", data := .fields #[.builtin "list.append", .ref R] }), (l, .raw (listO ws n0)), (st, .raw objO)] s →
        Wp w (A.deeper (g.env 11 L)) (execs ((fnBody (stmtAt 11)).drop 5) (g.env 11 L)) (Rf J) NoE s := by
      intro s us' ti' v7 hs F
      refine x_assert (t_cmp ?_)
      (refine' e_loc F e ?_ ?_; rotate_left 1; (focus (repeat (first | with_reducible exact At2.here | apply At2.there))))
      (refine' e_loc F e ?_ ?_; rotate_left 1; (focus (repeat (first | with_reducible exact At2.here | apply At2.there))))
      refine c_eq ⟨by simp, ?_⟩
      replace F := F.turn2 (k' := .strs _) (fun h => h.strs_of hs) fun _ => trivial
      refine x_as (e_met1 (e_str F ?_)); (clear F; intro tk s F)
      refine ⟨_, rcv_str PySem.F.slot_str_join PySem.F.type_str_join, ?_⟩
      (refine' e_loc F e ?_ ?_; rotate_left 1; (focus (repeat (first | with_reducible exact At2.here | apply At2.there))))
      have e3 : (ks.map (fun k => oS (pcs k)) ++ if star then [oS [46, 42]] else []) = (ks.map pcs ++ if star then [[46, 42]] else []).map oS := by
        rw [List.map_append, List.map_map]
        cases star <;> rfl
      have e4 : (ks.map pcs ++ if star then [[46, 42]] else []).flatten = ks.flatMap pcs ++ (if star then [46, 42] else []) := by
        rw [List.flatten_append, ← List.flatMap_def]
        cases star <;> rfl
      have hfl := flat_le ks
      have hsz : (ks.flatMap pcs ++ (if star then [46, 42] else [])).length ≤ 200 := by
        rw [List.length_append]
        have : (if star then [46, 42] else ([] : List Nat)).length ≤ 2 := by cases star <;> decide
        lia
      rw [e3] at F
      rw [lit_e]
      refine k_join F (.there .here) (jok_oS _ (by rw [e4]; exact Nat.le_trans hsz (lb rfl))) ?_
      rw [join_oS, e4]
      clear F; intro t1 s F
      (refine' s_loc F e ?_ ?_; rotate_left 1; (focus (repeat (first | with_reducible exact Up2.here | apply Up2.there))); clear F; intro s F)
      refine x_ret (e_fstr3 F e (by (focus (repeat (first | with_reducible exact At2.here | apply At2.there)))) ?_ ?_)
      · rw [lit_hd, lit_tl, oS_len, oS_len, oS_len]; show 4 + _ + 3 ≤ _; lia
      clear F; intro t2 s F
      refine hJ _ _ ⟨_, rfl, t2, ?_, F.aft, F.inv⟩
      rw [lit_hd, lit_tl, oS_app, oS_app]
      unfold shownL tailL
      simp
    cases star with
    | false =>
      have hw : ws.length = us.length := hwl
      rw [decide_eq_false (i_nlt (Nat.le_trans (Nat.le_of_eq hw) (Nat.le_refl (List.length us)))), if_neg (by decide), if_neg (by decide)]
      refine x_while (fun m s => St g σ [] [(L, .ns ["inp", "STAR", "res", "add", "i", "n", "fixed"] [some (.ref l), some (.ref st), some (.ref R), some (.ref ad), some (.int us.length ti), some (.int ws.length tn), none]), (R, .list us), (ad, .raw { cls := .type "builtin_function_or_method", data := .fields #[.builtin "list.append", .ref R] }), (l, .raw (listO ws n0)), (st, .raw objO)] s) 0 F ?_
      clear F s
      intro m s F K2 hK2
      refine t_cmp ?_
      (refine' e_loc F e ?_ ?_; rotate_left 1; (focus (repeat (first | with_reducible exact At2.here | apply At2.there))))
      (refine' e_loc F e ?_ ?_; rotate_left 1; (focus (repeat (first | with_reducible exact At2.here | apply At2.there))))
      refine c_lt ?_
      first | refine br_n (decide_eq_false (by lia)) ?_ | refine if_n (decide_eq_false (i_nlt (Nat.le_trans (Nat.le_of_eq hw) (Nat.le_refl (List.length us))))) ?_ | rw [decide_eq_false (by lia), if_neg (by decide)]
      rw [← hw] at F
      exact fin s us ti none (by simpa using hus) F
    | true =>
      have hw : ws.length = us.length + 1 := hwl
      have hwi : ws[us.length]? = some (.ref st) := by rw [← htl]; simp
      first | refine br_y (decide_eq_true (by lia)) ?_ | refine if_y (decide_eq_true (i_lt (suc_lt (Eq.symm hw)))) ?_ | rw [decide_eq_true (by lia), if_pos rfl]
      refine t_cmp (e_sub ?_)
      (refine' e_loc F e ?_ ?_; rotate_left 1; (focus (repeat (first | with_reducible exact At2.here | apply At2.there))))
      (refine' e_loc F e ?_ ?_; rotate_left 1; (focus (repeat (first | with_reducible exact At2.here | apply At2.there))))
      refine sub_list (F.mem (.there (.there (.there .here)))) (Int.natCast_nonneg (List.length us)) (by lia) (v := .ref st) (by rw [Int.toNat_natCast, hwi]) ?_
      (refine' e_loc F e ?_ ?_; rotate_left 1; (focus (repeat (first | with_reducible exact At2.here | apply At2.there))))
      refine c_isn (same_self ?_)
      first | refine br_n (by rw [Bool.not_true]) ?_ | refine if_n (by rw [Bool.not_true]) ?_ | rw [Bool.not_true, if_neg (by decide)]
      refine x_while (fun m s => St g σ [] [(L, .ns ["inp", "STAR", "res", "add", "i", "n", "fixed"] [some (.ref l), some (.ref st), some (.ref R), some (.ref ad), some (.int us.length ti), some (.int ws.length tn), none]), (R, .list us), (ad, .raw { cls := .type "builtin_function_or_method", data := .fields #[.builtin "list.append", .ref R] }), (l, .raw (listO ws n0)), (st, .raw objO)] s) 0 F ?_
      clear F s
      intro m s F K2 hK2
      refine t_cmp ?_
      (refine' e_loc F e ?_ ?_; rotate_left 1; (focus (repeat (first | with_reducible exact At2.here | apply At2.there))))
      (refine' e_loc F e ?_ ?_; rotate_left 1; (focus (repeat (first | with_reducible exact At2.here | apply At2.there))))
      refine c_lt ?_
      first | refine br_y (decide_eq_true (by lia)) ?_ | refine if_y (decide_eq_true (i_lt (suc_lt (Eq.symm hw)))) ?_ | rw [decide_eq_true (by lia), if_pos rfl]
      refine x_assert (t_cmp (e_sub ?_))
      (refine' e_loc F e ?_ ?_; rotate_left 1; (focus (repeat (first | with_reducible exact At2.here | apply At2.there))))
      (refine' e_loc F e ?_ ?_; rotate_left 1; (focus (repeat (first | with_reducible exact At2.here | apply At2.there))))
      refine sub_list (F.mem (.there (.there (.there .here)))) (Int.natCast_nonneg (List.length us)) (by lia) (v := .ref st) (by rw [Int.toNat_natCast, hwi]) ?_
      (refine' e_loc F e ?_ ?_; rotate_left 1; (focus (repeat (first | with_reducible exact At2.here | apply At2.there))))
      refine c_is (same_self ⟨rfl, ?_⟩)
      refine x_aug (e_ldn F e (by (focus (repeat (first | with_reducible exact At2.here | apply At2.there)))) ?_)
      (refine e_int F ?_; clear F; intro tk s F)
      refine i_add F ?_; (clear F; intro tk s F)
      (refine' s_loc F e ?_ ?_; rotate_left 1; (focus (repeat (first | with_reducible exact Up2.here | apply Up2.there))); clear F; intro s F)
      refine x_if (t_cmp ?_)
      (refine' e_loc F e ?_ ?_; rotate_left 1; (focus (repeat (first | with_reducible exact At2.here | apply At2.there))))
      (refine' e_loc F e ?_ ?_; rotate_left 1; (focus (repeat (first | with_reducible exact At2.here | apply At2.there))))
      refine c_eq ?_
      have e5 : (us.length : Int) + 1 = (ws.length : Int) := by lia
      rw [e5] at F
      first | refine br_y (by rw [e5, beq_self_eq_true]) ?_ | refine if_y (by rw [e5, beq_self_eq_true]) ?_ | rw [e5, beq_self_eq_true, if_pos rfl]
      refine x_expr (e_call1 ?_)
      (refine' e_loc F e ?_ ?_; rotate_left 1; (focus (repeat (first | with_reducible exact At2.here | apply At2.there))))
      refine e_str F ?_; (clear F; intro tk s F)
      refine cw_add F (.there (.there .here)) (.there .here) (Nat.le_trans (Nat.le_of_eq hul) (Nat.le_trans hz (lb rfl))) ?_
      clear F; intro s F
      refine x_brk ?_
      exact fin s _ _ _ (hus.append (.cons ⟨_, by rw [lit_any]⟩ .nil)) F
end
end
/-! MS11 -/
section
set_option hygiene false
/-- how a kind is written in the pattern -/
noncomputable def wrt : Nat → List Nat
  | 0 => [97] | 1 => [98] | 2 => [63] | 3 => [91, 97, 98, 93] | 4 => [91, 33, 97, 93] | 5 => [91, 33, 98, 93] | 6 => [91, 97, 45, 98, 93] | 7 => [91, 98, 45, 97, 93] | _ => [91, 33, 98, 45, 97, 93]
noncomputable def wrtL (ks : List Nat) (star : Bool) : List Nat := ks.flatMap wrt ++ if star then [42] else []
theorem wrt_pos (k : Nat) : 0 < (wrt k).length := by unfold wrt; split <;> decide
theorem wrt_le (k : Nat) : (wrt k).length ≤ 6 := by unfold wrt; split <;> decide
theorem wflat_le : ∀ ks : List Nat, (ks.flatMap wrt).length ≤ 6 * ks.length
  | [] => Nat.le_refl _
  | k :: ks => by
    rw [List.flatMap_cons, List.length_append, List.length_cons]
    have := wrt_le k
    have := wflat_le ks
    lia
noncomputable abbrev trN : List Str := ["pat", "STAR", "QUESTION_MARK", "res", "add", "i", "n", "c", "j", "stuff", "chunks", "k", "chunk"]
noncomputable def trBr : List Stmt := bodyOf (at0 (elseOf (at0 (elseOf (at0 (bodyOf (at0 (fnBody (stmtAt 10)) 3)) 2)) 0)) 0)
/-- behind j: what becomes of the stuff -/
noncomputable def trStuff : List Stmt := elseOf (at0 trBr 4)
/-- the content of a bracket as written, behind its mending, and in translate's words -/
inductive BK : Nat → List Nat → List Nat → Prop
  | k3 : BK 3 [97, 98] [97, 98]
  | k4 : BK 4 [33, 97] [33, 97]
  | k5 : BK 5 [33, 98] [33, 98]
  | k6 : BK 6 [97, 45, 98] [97, 45, 98]
  | k7 : BK 7 [98, 45, 97] []
  | k8 : BK 8 [33, 98, 45, 97] [33]
theorem lit_qu : Str.ofString "!" = oS [33] := by decide +kernel
theorem lit_none : Str.ofString "(?!)" = oS [40, 63, 33, 41] := by decide +kernel
theorem BK.nf {k : Nat} {sf sg : List Nat} (hb : BK k sf sg) : noFind sg.toArray = true := by cases hb; exact nf1; exact nf4; exact nf5; exact nf3; exact nf2; exact nf6
theorem BK.len {k : Nat} {sf sg : List Nat} (hb : BK k sf sg) : sg.length ≤ 4 := by cases hb <;> decide
theorem BK.way {k : Nat} {sf sg : List Nat} (hb : BK k sf sg) : (sg = [] ∧ [40, 63, 33, 41] = pcs k) ∨ (sg = [33] ∧ [46] = pcs k) ∨ (sg ≠ [] ∧ sg ≠ [33] ∧ ∃ c, sg[0]? = some c ∧ ((c = 97 ∧ 2 ≤ sg.length ∧ 91 :: (sg ++ [93]) = pcs k) ∨ ∃ x, sg = [33, x] ∧ c = 33 ∧ [91, 94, x, 93] = pcs k)) := by
  cases hb with
  | k3 => exact .inr (.inr ⟨by decide, by decide, 97, rfl, .inl ⟨rfl, by decide, rfl⟩⟩)
  | k4 => exact .inr (.inr ⟨by decide, by decide, 33, rfl, .inr ⟨97, rfl, rfl, rfl⟩⟩)
  | k5 => exact .inr (.inr ⟨by decide, by decide, 33, rfl, .inr ⟨98, rfl, rfl, rfl⟩⟩)
  | k6 => exact .inr (.inr ⟨by decide, by decide, 97, rfl, .inl ⟨rfl, by decide, rfl⟩⟩)
  | k7 => exact .inl ⟨rfl, rfl⟩
  | k8 => exact .inr (.inl ⟨rfl, rfl⟩)
section
variable {w : World} {A : Around} {g : Gd} {σ : Shared}
noncomputable abbrev bndO (R : Addr) : Obj := { cls := .type "builtin_function_or_method", data := .fields #[.builtin "list.append", .ref R] }
theorem tr_tail {k : Nat} {sf sg : List Nat} {s : Shared} {L R ad : Addr} {us : List Value} {v1 v2 v3 v6 v7 v8 v11 v12 v13 : Option Value} {j : Nat} {tj ts : Tok} {os : Os} {Q : Flow → Shared → Prop} (hh : A.handled = none) (hL : σ.heap.objs.size ≤ L) (hb : BK k sf sg) (hu : us.length ≤ 30)
    (e : En (g.env 10 L) L trN) (F : St g σ [] ((L, .ns trN [v1, v2, v3, some (.ref R), some (.ref ad), v6, v7, v8, some (.int j tj), some (.str (oS sg) ts), v11, v12, v13]) :: (R, .list us) :: (ad, .raw (bndO R)) :: os) s)
    (hQ : ∀ s' t1 t2 v10 v11 v12 v13, St g σ [] ((L, .ns trN [v1, v2, v3, some (.ref R), some (.ref ad), some (.int (j + 1) t1), v7, v8, some (.int j tj), v10, v11, v12, v13]) :: (R, .list (us ++ [.str (oS (pcs k)) t2])) :: (ad, .raw (bndO R)) :: os) s' → Q .next s') :
    Wp w A (execs (trStuff.drop 2) (g.env 10 L)) Q NoE s := by
  have hnf := hb.nf
  have hsl := hb.len
  refine x_as (e_met2 ?_)
  refine e_glo F e (by kernel_rfl) (by kernel_rfl) F.inv.ok.rxm ?_
  have hrx : ∀ {os s}, St g σ [] os s → Rcv "sub" (.ref g.rx) "re.Pattern.sub" s := fun {os s} F => by
    obtain ⟨hcls, v0, v1, v3, v4, t2, t6, tp, ws, n, hd, htp, hws⟩ := F.inv.ok.rxf
    have ho := F.inv.get F.inv.ok.rxg (by rw [hd]; intro e; injection e with e; have := congrArg Array.size e; simp at this)
    exact ⟨"re.Pattern", plainAttrs_pat, slot_pat_sub, type_pat_sub, ⟨_, ho, hcls⟩, fun a e => by cases e; exact ⟨_, ho, F.inv.ok.rxd⟩⟩
  refine ⟨_, hrx F, ?_⟩
  refine e_lam F hL rfl rfl (by rfl) (by rfl) rfl ?_
  clear F; intro lm o s hlm F hcl
  (refine' e_loc F e ?_ ?_; rotate_left 1; (focus (repeat (first | with_reducible exact At2.here | apply At2.there))))
  refine k_resub F (.there .here) hcl hnf (Nat.le_trans hsl (lb rfl)) ?_
  clear F; intro t2 s F
  replace F := F.drop (a := lm) (.there .here)
  (refine' s_loc F e ?_ ?_; rotate_left 1; (focus (repeat (first | with_reducible exact Up2.here | apply Up2.there))); clear F; intro s F)
  refine x_as (e_bin ?_)
  (refine' e_loc F e ?_ ?_; rotate_left 1; (focus (repeat (first | with_reducible exact At2.here | apply At2.there))))
  (refine e_int F ?_; clear F; intro tk s F)
  refine b_add F ?_; (clear F; intro tk s F)
  (refine' s_loc F e ?_ ?_; rotate_left 1; (focus (repeat (first | with_reducible exact Up2.here | apply Up2.there))); clear F; intro s F)
  refine x_if (t_not (t_val ?_))
  (refine' e_loc F e ?_ ?_; rotate_left 1; (focus (repeat (first | with_reducible exact At2.here | apply At2.there))))
  refine tr_str F (Nat.le_trans hsl (lb rfl)) ?_
  clear F; intro s F
  have addOut : ∀ (s : Shared) (l : List Nat) (t' : Tok) (v10 : Option Value) (t1 : Tok) (Q' : Value → Shared → Prop), l = pcs k → St g σ [] ((L, .ns trN [v1, v2, v3, some (.ref R), some (.ref ad), some (.int (j + 1) t1), v7, v8, some (.int j tj), v10, v11, v12, v13]) :: (R, .list us) :: (ad, .raw (bndO R)) :: os) s → (∀ s', Q .next s' → Q' .none s') → Cw w A (.ref ad) [.str (oS l) t'] Q' NoE s := by
    rintro s l t' v10 t1 Q' rfl F hq
    refine cw_add F (.there (.there .here)) (.there .here) (Nat.le_trans hu (lb rfl)) ?_
    intro s F
    exact hq _ (hQ _ _ _ _ _ _ _ F)
  have fst : ∀ (l : List Nat) (s : Shared) (ts : Tok), 2 ≤ l.length → l.length ≤ 4 → 91 :: (l ++ [93]) = pcs k → St g σ [] ((L, .ns trN [v1, v2, v3, some (.ref R), some (.ref ad), some (.int (j + 1) tk), v7, v8, some (.int j tj), some (.str (oS l) ts), v11, v12, v13]) :: (R, .list us) :: (ad, .raw (bndO R)) :: os) s →
      ∀ Q' : Flow → Shared → Prop, (∀ s', Q .next s' → Q' .next s') → Wp w A (execs ((elseOf (at0 (elseOf (at0 (trStuff.drop 2) 2)) 0)).drop 1) (g.env 10 L)) Q' NoE s := by
    intro l s ts h1 h2 h3 F Q' hq
    refine x_expr (e_call1 ?_)
    (refine' e_loc F e ?_ ?_; rotate_left 1; (focus (repeat (first | with_reducible exact At2.here | apply At2.there))))
    refine e_fstr3 F e (by (focus (repeat (first | with_reducible exact At2.here | apply At2.there)))) (by rw [oS_len]; show 1 + l.length + 1 ≤ _; lia) ?_
    clear F; intro t3 s F
    rw [lit_br, lit_bl, oS_app, oS_app]
    refine addOut s _ _ _ _ _ (by rw [← h3]; rfl) F fun s' h' => x_nil (hq _ h')
  have oth : ∀ (l : List Nat) (s : Shared) (ts : Tok) (c : Nat), l[0]? = some c → l ≠ [33] → l.length ≤ 4 → (c = 97 ∧ 2 ≤ l.length ∧ 91 :: (l ++ [93]) = pcs k) ∨ (∃ x, l = [33, x] ∧ c = 33 ∧ [91, 94, x, 93] = pcs k) → St g σ [] ((L, .ns trN [v1, v2, v3, some (.ref R), some (.ref ad), some (.int (j + 1) tk), v7, v8, some (.int j tj), some (.str (oS l) ts), v11, v12, v13]) :: (R, .list us) :: (ad, .raw (bndO R)) :: os) s →
      ∀ Q' : Flow → Shared → Prop, (∀ s', Q .next s' → Q' .next s') → Wp w A (execs (elseOf (at0 (trStuff.drop 2) 2)) (g.env 10 L)) Q' NoE s := by
    intro l s ts c h0 h1 h2 h3 F Q' hq
    refine x_if (t_cmp ?_)
    (refine' e_loc F e ?_ ?_; rotate_left 1; (focus (repeat (first | with_reducible exact At2.here | apply At2.there))))
    refine e_str F ?_; (clear F; intro tk s F)
    rw [lit_qu]
    refine c_seq ?_
    first | refine br_n (by rw [oS_beq, decide_eq_false h1]) ?_ | refine if_n (by rw [oS_beq, decide_eq_false h1]) ?_ | rw [oS_beq, decide_eq_false h1, if_neg (by decide)]
    refine x_if (t_cmp (e_sub ?_))
    (refine' e_loc F e ?_ ?_; rotate_left 1; (focus (repeat (first | with_reducible exact At2.here | apply At2.there))))
    (refine e_int F ?_; clear F; intro tk s F)
    refine sub_s F (k := 0) (c := c) rfl h0 (Nat.le_trans h2 (lb rfl)) ?_
    clear F; intro t3 s F
    refine e_str F ?_; (clear F; intro tk s F)
    refine c_seq ?_
    rw [oS_beq]
    rcases h3 with ⟨hc, h4, h5⟩ | ⟨x, hl, hc, h5⟩
    · first | refine br_n (decide_eq_false (by rw [hc]; decide)) ?_ | refine if_n (decide_eq_false (by rw [hc]; decide)) ?_ | rw [decide_eq_false (by rw [hc]; decide), if_neg (by decide)]
      refine x_if (t_cmp (e_sub ?_))
      (refine' e_loc F e ?_ ?_; rotate_left 1; (focus (repeat (first | with_reducible exact At2.here | apply At2.there))))
      (refine e_int F ?_; clear F; intro tk s F)
      refine sub_s F (k := 0) (c := c) rfl h0 (Nat.le_trans h2 (lb rfl)) ?_
      clear F; intro t3 s F
      refine e_tuple (sp_cons ?_)
      refine e_str F ?_; (clear F; intro tk s F)
      refine sp_cons (e_str F ?_); (clear F; intro tk s F)
      refine sp_nil ⟨by simp, _, _, _, _, _, F, ?_⟩; clear F; intro tp s htp F
      rw [lit_up, lit_br] at F
      refine c_intup F (.there .here) ?_
      first | refine br_n (by rw [decide_eq_false (by rw [hc]; decide), decide_eq_false (by rw [hc]; decide), Bool.or_false]) ?_ | refine if_n (by rw [decide_eq_false (by rw [hc]; decide), decide_eq_false (by rw [hc]; decide), Bool.or_false]) ?_
      replace F := F.drop (a := tp) (.there .here)
      refine x_nil (x_nil ?_)
      exact fst l s _ h4 h2 h5 F _ fun s' h' => x_nil (hq _ h')
    · first | refine br_y (decide_eq_true (by rw [hc])) ?_ | refine if_y (decide_eq_true (by rw [hc])) ?_
      refine x_as (e_bin (e_str F ?_)); (clear F; intro tk s F)
      refine e_slc ?_
      (refine' e_loc F e ?_ ?_; rotate_left 1; (focus (repeat (first | with_reducible exact At2.here | apply At2.there))))
      refine p_some ?_
      (refine e_int F ?_; clear F; intro tk s F)
      refine p_none (slc_sn F (by rw [oS_len, hl]; exact Nat.le_of_ble_eq_true rfl) ?_)
      clear F; intro s t4 F
      rw [tx_sn (l := l) (i := 1) (a := 1) rfl (by rw [hl]; exact Nat.le_of_ble_eq_true rfl), lit_up]
      refine b_sadd F (by rw [oS_len, oS_len, hl]; exact Nat.le_of_ble_eq_true rfl) ?_; (clear F; intro tk s F)
      rw [oS_app]
      (refine' s_loc F e ?_ ?_; rotate_left 1; (focus (repeat (first | with_reducible exact Up2.here | apply Up2.there))); clear F; intro s F)
      refine x_nil ?_
      exact fst ([94] ++ l.drop 1) s _ (by rw [hl]; exact Nat.le_of_ble_eq_true rfl) (by rw [hl]; exact Nat.le_of_ble_eq_true rfl) (by rw [hl]; exact h5) F _ fun s' h' => x_nil (hq _ h')
  rcases hb.way with ⟨h1, h2⟩ | ⟨h1, h2⟩ | ⟨h0, h1, c, h3, h4⟩
  · first | refine br_y (by rw [decide_eq_false (fun h => h h1), Bool.not_false]) ?_ | refine if_y (by rw [decide_eq_false (fun h => h h1), Bool.not_false]) ?_
    refine x_expr (e_call1 ?_)
    (refine' e_loc F e ?_ ?_; rotate_left 1; (focus (repeat (first | with_reducible exact At2.here | apply At2.there))))
    refine e_str F ?_; (clear F; intro tk s F)
    rw [lit_none]
    exact addOut s _ _ _ _ _ h2 F fun s' h' => x_nil (x_nil h')
  · first | refine br_n (by rw [decide_eq_true (by rw [h1]; simp), Bool.not_true]) ?_ | refine if_n (by rw [decide_eq_true (by rw [h1]; simp), Bool.not_true]) ?_
    refine x_if (t_cmp ?_)
    (refine' e_loc F e ?_ ?_; rotate_left 1; (focus (repeat (first | with_reducible exact At2.here | apply At2.there))))
    refine e_str F ?_; (clear F; intro tk s F)
    rw [lit_qu]
    refine c_seq ?_
    first | refine br_y (by rw [oS_beq, decide_eq_true h1]) ?_ | refine if_y (by rw [oS_beq, decide_eq_true h1]) ?_
    refine x_expr (e_call1 ?_)
    (refine' e_loc F e ?_ ?_; rotate_left 1; (focus (repeat (first | with_reducible exact At2.here | apply At2.there))))
    refine e_str F ?_; (clear F; intro tk s F)
    rw [lit_dot]
    exact addOut s _ _ _ _ _ h2 F fun s' h' => x_nil (x_nil (x_nil h'))
  · first | refine br_n (by rw [decide_eq_true h0, Bool.not_true]) ?_ | refine if_n (by rw [decide_eq_true h0, Bool.not_true]) ?_
    exact oth sg s _ c h3 h1 hsl h4 F _ fun s' h' => x_nil h'
end
end
/-! MS12 -/
section
set_option hygiene false
/-- the mending of the chunks -/
noncomputable def trChk : List Stmt := elseOf (at0 trStuff 1)
theorem lit_bs : Str.ofString "\\" = oS [92] := by decide +kernel
theorem rep_none : ∀ l ∈ [[], [33], [97], [98], [33, 97], [33, 98]], (PySem.Builtin.Str.occurrences (oS l) (oS [92]) 0 (oS l).length ((oS l).length + 1)).isEmpty = true ∧ (PySem.Builtin.Str.occurrences (oS l) (oS [45]) 0 (oS l).length ((oS l).length + 1)).isEmpty = true := by decide +kernel
theorem chk_elt : ∀ pre ∈ [[], [33]], ∀ x ∈ [97, 98], ∀ y ∈ [97, 98], (∀ a ∈ (if y < x then [oS pre] else [oS (pre ++ [x]), oS [y]]), ∃ l ∈ [[], [33], [97], [98], [33, 97], [33, 98]], a = oS l) ∧
    JoinOk (oS [45]) (if y < x then [oS pre] else [oS (pre ++ [x]), oS [y]]) = true ∧ Txt.join (oS [45]) (if y < x then [oS pre] else [oS (pre ++ [x]), oS [y]]) = oS (if y < x then pre else pre ++ [x, 45, y]) := by decide +kernel
theorem pre_mid {pre : List Nat} {x y : Nat} (h : pre = [] ∨ pre = [33]) : (pre ++ [x, 45, y])[pre.length + 1]? = some 45 := by rcases h with rfl | rfl <;> rfl
theorem pre_fst {pre : List Nat} {x y : Nat} (h : pre = [] ∨ pre = [33]) : (pre ++ [x, 45, y])[0]? = some ((pre ++ [x, 45, y]).getD 0 0) := by rcases h with rfl | rfl <;> rfl
theorem pre_hd {pre : List Nat} {x y : Nat} (h : pre = [] ∨ pre = [33]) : ((pre ++ [x, 45, y]).drop 0).take (1 + pre.length - 0) = pre ++ [x] := by rcases h with rfl | rfl <;> rfl
theorem pre_tl {pre : List Nat} {x y : Nat} (h : pre = [] ∨ pre = [33]) : ((pre ++ [x, 45, y]).drop (pre.length + 2)).take (pre.length + 3 - (pre.length + 2)) = [y] := by rcases h with rfl | rfl <;> rfl
theorem pre_last {pre : List Nat} {x : Nat} (h : pre = [] ∨ pre = [33]) : (pre ++ [x])[(pre ++ [x]).length - 1]? = some x := by rcases h with rfl | rfl <;> rfl
theorem pre_len {pre : List Nat} {x : Nat} (h : pre = [] ∨ pre = [33]) : (pre ++ [x]).length ≤ 100000 := by rcases h with rfl | rfl <;> exact Nat.le_of_ble_eq_true rfl
theorem xy_cmp {x y : Nat} (hx : x = 97 ∨ x = 98) (hy : y = 97 ∨ y = 98) : decide ([y] < [x]) = decide (y < x) := by rcases hx with rfl | rfl <;> rcases hy with rfl | rfl <;> decide
theorem pre_mem {pre : List Nat} (h : pre = [] ∨ pre = [33]) : pre ∈ ([[], [33]] : List (List Nat)) := by rcases h with rfl | rfl <;> simp
theorem ab_mem {x : Nat} (h : x = 97 ∨ x = 98) : x ∈ [97, 98] := by rcases h with rfl | rfl <;> simp
section
variable {w : World} {A : Around} {g : Gd} {σ : Shared}
theorem e_locA {E : Value → Shared → Prop} {s₀ s : Shared} {ms : List Addr} {os : Os} {env : Env} {L : Addr} {nl : List Str} {vs : List (Option Value)} {x : Str} {p : Pos} {v : Value} {Q : Value → Shared → Prop} (F : St g s₀ ms ((L, .ns nl vs) :: os) s) (e : En env L nl) (h : At2 nl vs x v) (q : Q v s) : WA w A (eval (.Name x p) env) Q E s := by
  refine ex1 F.ns ?_; intro m hJ
  refine and2 hJ ?_; clear hJ; intro hn hm
  exact wpAny_Name (wpAny_loadName_local e.kind (e.nm x h.mem).1 (e.loc ▸ hn) (hm _ _ h) q) (e.nm x h.mem).2
theorem imp_int {E : Value → Shared → Prop} {s₀ s : Shared} {ms : List Addr} {os : Os} {m : Sem Value} (x : Int) {Q : Value → Shared → Prop} (F : St g s₀ ms os s) (h : Wp w A m (fun v s' => ∃ t', v = .int x t' ∧ St g s₀ ms os s') E s) (k : ∀ t' s', St g s₀ ms os s' → Q (.int x t') s') : Wp w A m Q E s :=
  h.imp fun _ s' ⟨t', e, F'⟩ => e ▸ k t' s' F'
theorem tr_chk {S pre : List Nat} {x y p : Nat} {s : Shared} {L R ad : Addr} {us : List Value} {t ti tj : Tok} {v2 v3 v7 v8 v10 v11 v12 v13 : Option Value} {Q : Flow → Shared → Prop} (hh : A.handled = none) (hA : A.depth + 2 < recursionLimit) (hL : σ.heap.objs.size ≤ L)
    (hpre : pre = [] ∨ pre = [33]) (hx : x = 97 ∨ x = 98) (hy : y = 97 ∨ y = 98) (hz : S.length ≤ 1000) (hj : p + pre.length + 3 ≤ S.length) (hS : ∀ q, q < pre.length + 3 → S[p + q]? = (pre ++ [x, 45, y])[q]?)
    (e : En (g.env 10 L) L trN) (F : St g σ [] ((L, .ns trN [some (.str (oS S) t), v2, v3, some (.ref R), some (.ref ad), some (.int p ti), v7, v8, some (.int ((p + pre.length + 3 : Nat) : Int) tj), v10, v11, v12, v13]) :: (R, .list us) :: (ad, .raw (bndO R)) :: []) s)
    (hQ : ∀ s' v6 ts v11 v12 v13, St g σ [] ((L, .ns trN [some (.str (oS S) t), v2, v3, some (.ref R), some (.ref ad), v6, v7, v8, some (.int ((p + pre.length + 3 : Nat) : Int) tj), some (.str (oS (if y < x then pre else pre ++ [x, 45, y])) ts), v11, v12, v13]) :: (R, .list us) :: (ad, .raw (bndO R)) :: []) s' → Q .next s') :
    Wp w A (execs trChk (g.env 10 L)) Q NoE s := by
  have hpl : pre.length ≤ 1 := by clear hS hQ F; rcases hpre with rfl | rfl <;> decide
  generalize hpn : pre.length = pl at *
  have hsl : ∀ a b, a ≤ b → b ≤ pl + 3 → (S.drop (p + a)).take (p + b - (p + a)) = ((pre ++ [x, 45, y]).drop a).take (b - a) := fun a b h1 h2 => by
    rw [Nat.add_sub_add_left]
    refine List.ext_getElem? fun i => ?_
    rw [List.getElem?_take, List.getElem?_take]
    split
    · rw [List.getElem?_drop, List.getElem?_drop, Nat.add_assoc]
      rename_i h3
      exact hS _ (Nat.lt_of_lt_of_le (Nat.add_lt_of_lt_sub' h3) h2)
    · rfl
  have h45 : S[p + (1 + pl)]? = some 45 := by rw [hS _ (by lia), ← hpn, Nat.add_comm]; exact pre_mid hpre
  refine x_as (e_list (sp_nil ⟨by simp, _, _, _, _, _, F, ?_⟩)); clear F; intro C s hC F
  replace F := F.to_strs (xs := []) .nil
  (refine' s_loc F e ?_ ?_; rotate_left 1; (focus (repeat (first | with_reducible exact Up2.here | apply Up2.there))); clear F; intro s F)
  refine x_as (imp_int ((p + 1 + pl : Nat) : Int) F (e_ifx (t_cmp (e_sub ?_))) ?_)
  · (refine' e_loc F e ?_ ?_; rotate_left 1; (focus (repeat (first | with_reducible exact At2.here | apply At2.there))))
    (refine' e_loc F e ?_ ?_; rotate_left 1; (focus (repeat (first | with_reducible exact At2.here | apply At2.there))))
    refine sub_s F (k := p) (c := (pre ++ [x, 45, y]).getD 0 0) rfl ?_ (Nat.le_trans hz (lb rfl)) ?_
    · exact (hS 0 (Nat.lt_succ_of_le (Nat.le_add_left 0 (pl + 2)))).trans (pre_fst hpre)
    clear F; intro t3 s F
    refine e_str F ?_; (clear F; intro tk s F)
    rw [lit_qu]
    refine c_seq ?_
    rw [oS_beq]
    rcases hpre with hp0 | hp0
    · have hpl0 : pl = 0 := by rw [← hpn, hp0]; rfl
      first | refine br_n (decide_eq_false (by rw [hp0]; clear hS hQ F hsl h45; rcases hx with rfl | rfl <;> simp)) ?_ | refine if_n (decide_eq_false (by rw [hp0]; clear hS hQ F hsl h45; rcases hx with rfl | rfl <;> simp)) ?_ | rw [decide_eq_false (by rw [hp0]; rcases hx with rfl | rfl <;> simp), if_neg (by decide)]
      refine e_bin ?_
      (refine' e_loc F e ?_ ?_; rotate_left 1; (focus (repeat (first | with_reducible exact At2.here | apply At2.there))))
      (refine e_int F ?_; clear F; intro tk s F)
      refine b_add F ?_; (clear F; intro tk s F)
      exact ⟨_, by rw [hpl0]; rfl, F⟩
    · have hpl0 : pl = 1 := by rw [← hpn, hp0]; rfl
      first | refine br_y (decide_eq_true (by rw [hp0]; rfl)) ?_ | refine if_y (decide_eq_true (by rw [hp0]; rfl)) ?_ | rw [decide_eq_true (by rfl), if_pos rfl]
      refine e_bin ?_
      (refine' e_loc F e ?_ ?_; rotate_left 1; (focus (repeat (first | with_reducible exact At2.here | apply At2.there))))
      (refine e_int F ?_; clear F; intro tk s F)
      refine b_add F ?_; (clear F; intro tk s F)
      exact ⟨_, by rw [hpl0]; rfl, F⟩
  clear F; intro tk1 s F
  (refine' s_loc F e ?_ ?_; rotate_left 1; (focus (repeat (first | with_reducible exact Up2.here | apply Up2.there))); clear F; intro s F)
  refine x_while (fun n s => (n = 1 ∧ St g σ [] ((L, .ns trN [some (.str (oS S) t), v2, v3, some (.ref R), some (.ref ad), some (.int p ti), v7, v8, some (.int ((p + pl + 3 : Nat) : Int) tj), v10, some (.ref C), some (.int ((p + 1 + pl : Nat) : Int) tk1), v13]) :: (C, .strs []) :: (R, .list us) :: (ad, .raw (bndO R)) :: []) s) ∨
    (n = 0 ∧ ∃ t1 t2, St g σ [] ((L, .ns trN [some (.str (oS S) t), v2, v3, some (.ref R), some (.ref ad), some (.int ((p + pl + 2 : Nat) : Int) t1), v7, v8, some (.int ((p + pl + 3 : Nat) : Int) tj), v10, some (.ref C), some (.int ((p + 4 + pl : Nat) : Int) t2), v13]) :: (C, .strs [oS (pre ++ [x])]) :: (R, .list us) :: (ad, .raw (bndO R)) :: []) s)) 1 (.inl ⟨rfl, F⟩) ?_
  clear F s
  intro n s hF K hK
  rcases hF with ⟨hn, F⟩ | ⟨hn, t1, t2, F⟩
  · refine t_val (e_true (tr_bool ?_))
    first | refine br_y rfl ?_ | refine if_y rfl ?_ | rw [if_pos rfl]
    refine x_as (e_met3 ?_)
    (refine' e_loc F e ?_ ?_; rotate_left 1; (focus (repeat (first | with_reducible exact At2.here | apply At2.there))))
    refine ⟨_, rcv_str PySem.F.slot_str_find PySem.F.type_str_find, ?_⟩
    refine e_str F ?_; (clear F; intro tk s F)
    rw [lit_da]
    (refine' e_loc F e ?_ ?_; rotate_left 1; (focus (repeat (first | with_reducible exact At2.here | apply At2.there))))
    (refine' e_loc F e ?_ ?_; rotate_left 1; (focus (repeat (first | with_reducible exact At2.here | apply At2.there))))
    refine k_find F hj ?_
    rw [occ1_at (i := p + 1 + pl) (Nat.le_refl _) (by lia) (by rw [← h45]; congr 1; lia) (fun q a b => absurd b (Nat.not_lt_of_le a))]
    dsimp only
    clear F; intro t3 s F
    (refine' s_loc F e ?_ ?_; rotate_left 1; (focus (repeat (first | with_reducible exact Up2.here | apply Up2.there))); clear F; intro s F)
    refine x_if (t_cmp ?_)
    (refine' e_loc F e ?_ ?_; rotate_left 1; (focus (repeat (first | with_reducible exact At2.here | apply At2.there))))
    (refine e_int F ?_; clear F; intro tk s F)
    refine c_lt ?_
    first | refine br_n (decide_eq_false (i_nlt (Nat.le_add_left 0 (Nat.add (p + 1) pl)))) ?_ | refine if_n (decide_eq_false (by lia)) ?_ | rw [decide_eq_false (by lia), if_neg (by decide)]
    refine x_nil (x_expr (e_met1 ?_))
    (refine' e_loc F e ?_ ?_; rotate_left 1; (focus (repeat (first | with_reducible exact At2.here | apply At2.there))))
    refine ⟨_, rcv_list (F.mem (.there .here)).choose_spec.choose_spec.1 PySem.F.slot_list_append type_list_append, ?_⟩
    refine e_slc ?_
    (refine' e_loc F e ?_ ?_; rotate_left 1; (focus (repeat (first | with_reducible exact At2.here | apply At2.there))))
    refine p_some ?_
    (refine' e_loc F e ?_ ?_; rotate_left 1; (focus (repeat (first | with_reducible exact At2.here | apply At2.there))))
    refine p_some ?_
    (refine' e_loc F e ?_ ?_; rotate_left 1; (focus (repeat (first | with_reducible exact At2.here | apply At2.there))))
    refine slc_ss F (by rw [oS_len]; exact Nat.le_trans hz (lb rfl)) ?_
    clear F; intro s t4 F
    rw [tx_ss (a := p) (b := p + 1 + pl) rfl rfl (u_le (Nat.le_add_right (p + 1) pl)) (by lia)]
    have e1 : (S.drop p).take (p + 1 + pl - p) = pre ++ [x] := by
      have := hsl 0 (1 + pl) (Nat.le_add_left 0 (Nat.add 1 pl)) (by lia)
      rw [Nat.add_zero, ← Nat.add_assoc] at this
      rw [this, ← hpn]
      exact pre_hd hpre
    rw [e1]
    refine app_strs F (.there .here) (by simp) ?_
    clear F; intro s F
    refine x_as (e_bin ?_)
    (refine' e_loc F e ?_ ?_; rotate_left 1; (focus (repeat (first | with_reducible exact At2.here | apply At2.there))))
    (refine e_int F ?_; clear F; intro tk s F)
    refine b_add F ?_; (clear F; intro tk s F)
    (refine' s_loc F e ?_ ?_; rotate_left 1; (focus (repeat (first | with_reducible exact Up2.here | apply Up2.there))); clear F; intro s F)
    refine x_as (e_bin ?_)
    (refine' e_loc F e ?_ ?_; rotate_left 1; (focus (repeat (first | with_reducible exact At2.here | apply At2.there))))
    (refine e_int F ?_; clear F; intro tk s F)
    refine b_add F ?_; (clear F; intro tk s F)
    (refine' s_loc F e ?_ ?_; rotate_left 1; (focus (repeat (first | with_reducible exact Up2.here | apply Up2.there))); clear F; intro s F)
    have e2 : ((p + 1 + pl : Nat) : Int) + 1 = ((p + pl + 2 : Nat) : Int) := by lia
    have e3 : ((p + 1 + pl : Nat) : Int) + 3 = ((p + 4 + pl : Nat) : Int) := by lia
    rw [e2, e3] at F
    exact x_nil (hK 0 _ (hn ▸ Nat.zero_lt_one) (.inr ⟨rfl, _, _, F⟩))
  · refine t_val (e_true (tr_bool ?_))
    first | refine br_y rfl ?_ | refine if_y rfl ?_ | rw [if_pos rfl]
    refine x_as (e_met3 ?_)
    (refine' e_loc F e ?_ ?_; rotate_left 1; (focus (repeat (first | with_reducible exact At2.here | apply At2.there))))
    refine ⟨_, rcv_str PySem.F.slot_str_find PySem.F.type_str_find, ?_⟩
    refine e_str F ?_; (clear F; intro tk s F)
    rw [lit_da]
    (refine' e_loc F e ?_ ?_; rotate_left 1; (focus (repeat (first | with_reducible exact At2.here | apply At2.there))))
    (refine' e_loc F e ?_ ?_; rotate_left 1; (focus (repeat (first | with_reducible exact At2.here | apply At2.there))))
    refine k_find F hj ?_
    rw [occ1_no (fun q a b => absurd b (by lia))]
    dsimp only
    clear F; intro t3 s F
    (refine' s_loc F e ?_ ?_; rotate_left 1; (focus (repeat (first | with_reducible exact Up2.here | apply Up2.there))); clear F; intro s F)
    refine x_if (t_cmp ?_)
    (refine' e_loc F e ?_ ?_; rotate_left 1; (focus (repeat (first | with_reducible exact At2.here | apply At2.there))))
    (refine e_int F ?_; clear F; intro tk s F)
    refine c_lt ?_
    first | refine br_y (decide_eq_true (by decide)) ?_ | refine if_y (decide_eq_true (by decide)) ?_ | rw [decide_eq_true (by decide), if_pos rfl]
    refine x_brk ?_
    clear hK
    refine x_as (e_slc ?_)
    (refine' e_loc F e ?_ ?_; rotate_left 1; (focus (repeat (first | with_reducible exact At2.here | apply At2.there))))
    refine p_some ?_
    (refine' e_loc F e ?_ ?_; rotate_left 1; (focus (repeat (first | with_reducible exact At2.here | apply At2.there))))
    refine p_some ?_
    (refine' e_loc F e ?_ ?_; rotate_left 1; (focus (repeat (first | with_reducible exact At2.here | apply At2.there))))
    refine slc_ss F (by rw [oS_len]; exact Nat.le_trans hz (lb rfl)) ?_
    clear F; intro s t4 F
    rw [tx_ss (a := p + pl + 2) (b := p + pl + 3) rfl rfl (Nat.le_succ (p + pl + 2)) hj]
    have e1 : (S.drop (p + pl + 2)).take (p + pl + 3 - (p + pl + 2)) = [y] := by
      have := hsl (pl + 2) (pl + 3) (Nat.le_succ (pl + 2)) (Nat.le_refl (pl + 3))
      rw [← Nat.add_assoc, ← Nat.add_assoc] at this
      rw [this, ← hpn]
      exact pre_tl hpre
    rw [e1]
    (refine' s_loc F e ?_ ?_; rotate_left 1; (focus (repeat (first | with_reducible exact Up2.here | apply Up2.there))); clear F; intro s F)
    refine x_if (t_val ?_)
    (refine' e_loc F e ?_ ?_; rotate_left 1; (focus (repeat (first | with_reducible exact At2.here | apply At2.there))))
    refine tr_str F (Nat.le_of_ble_eq_true rfl) ?_
    clear F; intro s F
    first | refine br_y (decide_eq_true (by simp)) ?_ | refine if_y (decide_eq_true (by simp)) ?_ | rw [decide_eq_true (by simp), if_pos rfl]
    refine x_expr (e_met1 ?_)
    (refine' e_loc F e ?_ ?_; rotate_left 1; (focus (repeat (first | with_reducible exact At2.here | apply At2.there))))
    refine ⟨_, rcv_list (F.mem (.there .here)).choose_spec.choose_spec.1 PySem.F.slot_list_append type_list_append, ?_⟩
    (refine' e_loc F e ?_ ?_; rotate_left 1; (focus (repeat (first | with_reducible exact At2.here | apply At2.there))))
    refine app_strs F (.there .here) (by simp) ?_
    clear F; intro s F
    refine x_nil ?_
    refine x_for (e_call3 ?_)
    (refine' e_bi F e ?_ ?_; rotate_left 1; with_reducible constructor)
    refine e_bin (e_call1 ?_)
    (refine' e_bi F e ?_ ?_; rotate_left 1; with_reducible constructor)
    (refine' e_loc F e ?_ ?_; rotate_left 1; (focus (repeat (first | with_reducible exact At2.here | apply At2.there))))
    refine cw_bi (len_strs F (.there .here) (by simp) ?_)
    clear F; intro t5 s F
    (refine e_int F ?_; clear F; intro tk s F)
    refine b_sub F ?_; (clear F; intro tk s F)
    (refine e_int F ?_; clear F; intro tk s F)
    refine e_neg F ?_; (clear F; intro tk s F)
    rw [show ((([oS (pre ++ [x])] ++ [oS [y]]).length : Nat) : Int) - 1 = 1 from rfl]
    refine cw_ty (k_range3 F (by decide) (by decide) (by decide) ?_); clear F; intro r s hr F
    refine it_rangeM F (.there .here) (by decide) ?_; clear F; intro it s hit F
    replace F := F.drop (a := r) (by (focus (repeat (first | with_reducible exact Del.here | apply Del.there))))
    rw [show Builtin.Range.rangeSize 1 0 (-1) = 1 by decide] at F
    refine ⟨fun n s => (n = 1 ∧ ∃ v12, St g σ [] ((L, .ns trN [some (.str (oS S) t), v2, v3, some (.ref R), some (.ref ad), some (.int ((p + pl + 2 : Nat) : Int) t1), v7, v8, some (.int ((p + pl + 3 : Nat) : Int) tj), v10, some (.ref C), v12, some (.str (oS [y]) t4)]) :: (it, .riter 1 1 (-1)) :: (C, .strs [oS (pre ++ [x]), oS [y]]) :: (R, .list us) :: (ad, .raw (bndO R)) :: []) s) ∨
      (n = 0 ∧ ∃ v12, St g σ [] ((L, .ns trN [some (.str (oS S) t), v2, v3, some (.ref R), some (.ref ad), some (.int ((p + pl + 2 : Nat) : Int) t1), v7, v8, some (.int ((p + pl + 3 : Nat) : Int) tj), v10, some (.ref C), v12, some (.str (oS [y]) t4)]) :: (it, .riter 0 0 (-1)) :: (C, .strs (if y < x then [oS pre] else [oS (pre ++ [x]), oS [y]])) :: (R, .list us) :: (ad, .raw (bndO R)) :: []) s), 1, .inl ⟨rfl, _, F⟩, ?_⟩
    clear F s
    intro n s hF K2 hK2
    rcases hF with ⟨hn, v12, F⟩ | ⟨hn, v12, F⟩
    · refine nx_range F hh (.head _) hL hit (.there .here) (.there .here) (fun _ => ?_) (fun h => absurd h (by decide))
      clear F; intro t6 s F
      refine x_name ?_
      (refine' s_loc F e ?_ ?_; rotate_left 1; (focus (repeat (first | with_reducible exact Up2.here | apply Up2.there))); clear F; intro s F)
      refine x_if (t_cmp (e_sub (e_sub ?_)))
      (refine' e_loc F e ?_ ?_; rotate_left 1; (focus (repeat (first | with_reducible exact At2.here | apply At2.there))))
      refine e_bin ?_
      (refine' e_loc F e ?_ ?_; rotate_left 1; (focus (repeat (first | with_reducible exact At2.here | apply At2.there))))
      (refine e_int F ?_; clear F; intro tk s F)
      refine b_sub F ?_; (clear F; intro tk s F)
      refine sub_strs F (.there (.there .here)) (by decide) (by simp) (Nat.le_of_ble_eq_true rfl) fun t7 => ?_
      refine e_neg F ?_; (clear F; intro tk s F)
      refine sub_sl (l := pre ++ [x]) (c := x) F (pre_last hpre) (pre_len hpre) ?_
      clear F; intro t8 s F
      refine e_sub (e_sub ?_)
      (refine' e_loc F e ?_ ?_; rotate_left 1; (focus (repeat (first | with_reducible exact At2.here | apply At2.there))))
      (refine' e_loc F e ?_ ?_; rotate_left 1; (focus (repeat (first | with_reducible exact At2.here | apply At2.there))))
      refine sub_strs F (.there (.there .here)) (by decide) (by simp) (Nat.le_of_ble_eq_true rfl) fun t9 => ?_
      (refine e_int F ?_; clear F; intro tk s F)
      refine sub_s (l := [y]) (k := 0) (c := y) F rfl rfl (Nat.le_of_ble_eq_true rfl) ?_
      clear F; intro t10 s F
      refine c_sgt ?_
      rw [oS_list, oS_list]
      rw [xy_cmp hx hy]
      rcases Nat.lt_or_ge y x with hyx | hyx
      · rw [if_pos (decide_eq_true hyx)]
        rw [if_pos hyx] at hK2
        refine x_asub (e_bin (e_slc (e_sub ?_)))
        (refine' e_loc F e ?_ ?_; rotate_left 1; (focus (repeat (first | with_reducible exact At2.here | apply At2.there))))
        refine e_bin ?_
        (refine' e_loc F e ?_ ?_; rotate_left 1; (focus (repeat (first | with_reducible exact At2.here | apply At2.there))))
        (refine e_int F ?_; clear F; intro tk s F)
        refine b_sub F ?_; (clear F; intro tk s F)
        refine sub_strs F (.there (.there .here)) (by decide) (by simp) (Nat.le_of_ble_eq_true rfl) fun t11 => ?_
        refine p_none (p_some (e_neg F ?_)); (clear F; intro tk s F)
        refine slc_ns (x := oS (pre ++ [x])) F (by rw [oS_len]; simp; exact Nat.le_trans (Nat.le_of_eq hpn) (Nat.le_trans hpl (lb rfl))) ?_
        clear F; intro s t12 F
        rw [show (-1 : Int) = -((1 : Nat) : Int) from rfl, tx_nneg (by decide) (by simp), show (pre ++ [x]).take ((pre ++ [x]).length - 1) = pre by simp]
        refine e_slc (e_sub ?_)
        (refine' e_loc F e ?_ ?_; rotate_left 1; (focus (repeat (first | with_reducible exact At2.here | apply At2.there))))
        (refine' e_loc F e ?_ ?_; rotate_left 1; (focus (repeat (first | with_reducible exact At2.here | apply At2.there))))
        refine sub_strs F (.there (.there .here)) (by decide) (by simp) (Nat.le_of_ble_eq_true rfl) fun t13 => ?_
        refine p_some ?_
        (refine e_int F ?_; clear F; intro tk s F)
        refine p_none (slc_sn (x := oS [y]) F (by rw [oS_len]; exact Nat.le_of_ble_eq_true rfl) ?_)
        clear F; intro s t14 F
        rw [tx_sn (l := [y]) (i := 1) (a := 1) rfl (Nat.le_of_ble_eq_true rfl)]
        refine b_sadd F (by rw [oS_len, oS_len]; show _ + 0 ≤ _; exact Nat.le_trans (Nat.le_of_eq hpn) (Nat.le_trans hpl (lb rfl))) ?_; (clear F; intro tk s F)
        rw [oS_app, show pre ++ List.drop 1 [y] = pre by simp]
        (refine' e_loc F e ?_ ?_; rotate_left 1; (focus (repeat (first | with_reducible exact At2.here | apply At2.there))))
        refine e_bin ?_
        (refine' e_loc F e ?_ ?_; rotate_left 1; (focus (repeat (first | with_reducible exact At2.here | apply At2.there))))
        (refine e_int F ?_; clear F; intro tk s F)
        refine b_sub F ?_; (clear F; intro tk s F)
        refine set_strs (k := 0) F (.there (.there .here)) (by simp) (Nat.le_of_ble_eq_true rfl) ?_
        clear F; intro s F
        refine x_dels ?_
        (refine' e_loc F e ?_ ?_; rotate_left 1; (focus (repeat (first | with_reducible exact At2.here | apply At2.there))))
        (refine' e_loc F e ?_ ?_; rotate_left 1; (focus (repeat (first | with_reducible exact At2.here | apply At2.there))))
        refine del_strs (k := 1) F (.there (.there .here)) (by simp) (Nat.le_of_ble_eq_true rfl) ?_
        clear F; intro s F
        exact x_nil (x_nil (hK2 0 _ (hn ▸ Nat.zero_lt_one) (.inr ⟨rfl, _, F⟩)))
      · rw [if_neg (by simp; exact hyx)]
        rw [if_neg (Nat.not_lt_of_le hyx)] at hK2
        exact x_nil (x_nil (hK2 0 _ (hn ▸ Nat.zero_lt_one) (.inr ⟨rfl, _, F⟩)))
    · refine nx_range F hh (.head _) hL hit (.there .here) (.there .here) (fun h => absurd h (by decide)) (fun _ => ?_)
      clear F hK2; intro s F
      refine x_as (e_met1 ?_)
      refine and3 (chk_elt pre (pre_mem hpre) x (ab_mem hx) y (ab_mem hy)) ?_; intro hel hjk hjn
      refine e_str F ?_; (clear F; intro tk s F)
      refine ⟨_, rcv_str PySem.F.slot_str_join PySem.F.type_str_join, ?_⟩
      refine k_joingen hh F hL rfl e.glob (.there .here) ?_ (fun Q E q => e_locA F e (by (focus (repeat (first | with_reducible exact At2.here | apply At2.there)))) q) rfl rfl ?_ rfl rfl rfl (u_lt hA) ?_ hjk ?_
      · split <;> simp
      · decide
      · intro A' E' C code a u s₂ m₂ ha hn hm
        refine ex1 (hel a ha) ?_; intro l hJ
        refine and2 hJ ?_; clear hJ; intro hl hR1
        subst hR1
        obtain ⟨r1, r2⟩ := rep_none l hl
        refine em2 (em2 (wpAny_Name (wpAny_loadName_local rfl rfl hn hm ⟨_, rcv_str PySem.F.slot_str_replace PySem.F.type_str_replace, wpAny_Constant_str (wpAny_Constant_str ?_)⟩) rfl))
        rw [lit_bs]
        refine k_repl0 r1 ⟨_, rcv_str PySem.F.slot_str_replace PySem.F.type_str_replace, wpAny_Constant_str (wpAny_Constant_str ?_)⟩
        exact k_repl0 r2 ⟨⟨_, rfl⟩, _, _, rfl, fun _ _ e => e⟩
      · clear F; intro t6 s F
        rw [hjn]
        (refine' s_loc F e ?_ ?_; rotate_left 1; (focus (repeat (first | with_reducible exact Up2.here | apply Up2.there))); clear F; intro s F)
        replace F := F.drop (a := C) (by (focus (repeat (first | with_reducible exact Del.here | apply Del.there))))
        exact x_nil (hQ _ _ _ _ _ _ F)
end
end
/-! MX33 -/
section
set_option hygiene false
section
variable {w : World} {A : Around} {E : Value → Shared → Prop} {s : Shared} {Q : Bool → Shared → Prop}
theorem c_lty {a b : Int} {t u : Tok} (h : a < b) (q : Q true s) : Wp w A (compareOp .Lt (.int a t) (.int b u)) (fun c s₃ => Wp w A (truthy c) Q E s₃) E s := c_lt (by rwa [decide_eq_true h])
theorem c_ltn {a b : Int} {t u : Tok} (h : ¬ a < b) (q : Q false s) : Wp w A (compareOp .Lt (.int a t) (.int b u)) (fun c s₃ => Wp w A (truthy c) Q E s₃) E s := c_lt (by rwa [decide_eq_false h])
theorem c_gen {a b : Int} {t u : Tok} (h : ¬ b ≤ a) (q : Q false s) : Wp w A (compareOp .GtE (.int a t) (.int b u)) (fun c s₃ => Wp w A (truthy c) Q E s₃) E s := c_ge (by rwa [decide_eq_false h])
theorem c_eqy {a b : Int} {t u : Tok} (h : a = b) (q : Q true s) : Wp w A (compareOp .Eq (.int a t) (.int b u)) (fun c s₃ => Wp w A (truthy c) Q E s₃) E s := c_eq (by rwa [beq_iff_eq.mpr h])
theorem c_eqn {a b : Int} {t u : Tok} (h : a ≠ b) (q : Q false s) : Wp w A (compareOp .Eq (.int a t) (.int b u)) (fun c s₃ => Wp w A (truthy c) Q E s₃) E s := c_eq (by rwa [beq_eq_false_iff_ne.mpr h])
theorem c_nen {a b : Int} {t u : Tok} (h : a = b) (q : Q false s) : Wp w A (compareOp .NotEq (.int a t) (.int b u)) (fun c s₃ => Wp w A (truthy c) Q E s₃) E s := c_ne (by rwa [bne, beq_iff_eq.mpr h])
theorem c_oy {l m : List Nat} {t u : Tok} (h : l = m) (q : Q true s) : Wp w A (compareOp .Eq (.str (oS l) t) (.str (oS m) u)) (fun c s₃ => Wp w A (truthy c) Q E s₃) E s := c_seq (by rwa [oS_beq, decide_eq_true h])
theorem c_on {l m : List Nat} {t u : Tok} (h : l ≠ m) (q : Q false s) : Wp w A (compareOp .Eq (.str (oS l) t) (.str (oS m) u)) (fun c s₃ => Wp w A (truthy c) Q E s₃) E s := c_seq (by rwa [oS_beq, decide_eq_false h])
theorem c_ony {l m : List Nat} {t u : Tok} (h : l ≠ m) (q : Q true s) : Wp w A (compareOp .NotEq (.str (oS l) t) (.str (oS m) u)) (fun c s₃ => Wp w A (truthy c) Q E s₃) E s := c_sne (by rwa [bne, oS_beq, decide_eq_false h])
theorem c_onn {l m : List Nat} {t u : Tok} (h : l = m) (q : Q false s) : Wp w A (compareOp .NotEq (.str (oS l) t) (.str (oS m) u)) (fun c s₃ => Wp w A (truthy c) Q E s₃) E s := c_sne (by rwa [bne, oS_beq, decide_eq_true h])
theorem c_niy {l : List Nat} {c : Nat} {t u : Tok} (h : c ∉ l) (q : Q true s) : Wp w A (compareOp .NotIn (.str (oS [c]) u) (.str (oS l) t)) (fun c s₃ => Wp w A (truthy c) Q E s₃) E s := c_snin (by rwa [decide_eq_false h])
theorem c_nin {l : List Nat} {c : Nat} {t u : Tok} (h : c ∈ l) (q : Q false s) : Wp w A (compareOp .NotIn (.str (oS [c]) u) (.str (oS l) t)) (fun c s₃ => Wp w A (truthy c) Q E s₃) E s := c_snin (by rwa [decide_eq_true h])
end
section
variable {w : World} {A : Around} {E : Value → Shared → Prop} {g : Gd} {s₀ s : Shared} {ms : List Addr} {os : Os} {env : Env}
/-- a literal, told in codes -/
theorem e_lit {x : Str} {l : List Nat} {k : Nat} {pos : Pos} {Q : Value → Shared → Prop} (hx : x = oS l) (F : St g s₀ ms os s) (h : ∀ t s', St g s₀ ms os s' → Q (.str (oS l) t) s') : Wp w A (eval (.Constant (.str x) k pos) env) Q E s := e_str F (hx ▸ h)
end
section
variable {w : World} {A : Around} {E : Value → Shared → Prop} {s : Shared}
/-- a list's last entry -/
theorem sub_last {l : Addr} {vs : List Value} {n : Nat} {u : Tok} {v : Value} {Q : Value → Shared → Prop} (ho : s.heap.get? l = some (listO vs n)) (hv : vs[vs.length - 1]? = some v) (h : Q v s) : SubOn w A (.ref l) (.int (-1) u) Q E s := by
  have hl := listO_is ho
  have hk : vs.length - 1 < vs.length := (List.getElem?_eq_some_iff.mp hv).1
  refine ⟨"list", "list.__getitem__", slot_list_getitem.lookup, hl.typeIs, .of (wpAny_getItem_list_neg hl (by decide) (by simp; lia) (by decide) ?_ h)⟩
  rw [List.size_toArray, show (-1 + (vs.length : Int)).toNat = vs.length - 1 from tn (m1_cast (Nat.lt_of_le_of_lt (Nat.zero_le _) hk))]
  simpa using hv
end
end
/-! MS13 -/
section
set_option hygiene false
theorem lit_cl : Str.ofString "]" = oS [93] := by decide +kernel
theorem bk_f {k : Nat} {sf sg : List Nat} (h : BK k sf sg) : (if sf.getD 0 0 = 33 then 1 else 0) < sf.length ∧ sf.length ≤ 4 ∧ sf.all (· ≠ 93) = true := by cases h <;> decide
theorem bk_r {k : Nat} {sf sg : List Nat} (h : BK k sf sg) : (sf = sg ∧ 45 ∉ sf ∧ sf ∈ [[97, 98], [33, 97], [33, 98]]) ∨
    (∃ pre x y, (pre = [] ∨ pre = [33]) ∧ (x = 97 ∨ x = 98) ∧ (y = 97 ∨ y = 98) ∧ sf = pre ++ [x, 45, y] ∧ sg = if y < x then pre else pre ++ [x, 45, y]) := by
  cases h
  · exact .inl ⟨rfl, by decide, by decide⟩
  · exact .inl ⟨rfl, by decide, by decide⟩
  · exact .inl ⟨rfl, by decide, by decide⟩
  · exact .inr ⟨[], 97, 98, .inl rfl, .inl rfl, .inr rfl, rfl, rfl⟩
  · exact .inr ⟨[], 98, 97, .inl rfl, .inr rfl, .inl rfl, rfl, rfl⟩
  · exact .inr ⟨[33], 98, 97, .inr rfl, .inr rfl, .inl rfl, rfl, rfl⟩
theorem rep_no2 : ∀ l ∈ [[97, 98], [33, 97], [33, 98]], (PySem.Builtin.Str.occurrences (oS l) (oS [92]) 0 (oS l).length ((oS l).length + 1)).isEmpty = true := by decide +kernel
section
variable {w : World} {A : Around} {g : Gd} {σ : Shared}
theorem tr_br {S sf sg : List Nat} {k p : Nat} {s : Shared} {L R ad : Addr} {us : List Value} {t ti tn : Tok} {v2 v3 v8 v9 v10 v11 v12 v13 : Option Value} {Q : Flow → Shared → Prop} (hh : A.handled = none) (hA : A.depth + 2 < recursionLimit) (hL : σ.heap.objs.size ≤ L)
    (hb : BK k sf sg) (hu : us.length ≤ 30) (hz : S.length ≤ 1000) (hj : p + sf.length < S.length) (hS : ∀ q, q < sf.length + 1 → S[p + q]? = (sf ++ [93])[q]?)
    (e : En (g.env 10 L) L trN) (F : St g σ [] ((L, .ns trN [some (.str (oS S) t), v2, v3, some (.ref R), some (.ref ad), some (.int p ti), some (.int S.length tn), v8, v9, v10, v11, v12, v13]) :: (R, .list us) :: (ad, .raw (bndO R)) :: []) s)
    (hQ : ∀ s' t1 t2 v8 v9 v10 v11 v12 v13, St g σ [] ((L, .ns trN [some (.str (oS S) t), v2, v3, some (.ref R), some (.ref ad), some (.int ((p + sf.length + 1 : Nat) : Int) t1), some (.int S.length tn), v8, v9, v10, v11, v12, v13]) :: (R, .list (us ++ [.str (oS (pcs k)) t2])) :: (ad, .raw (bndO R)) :: []) s' → Q .next s') :
    Wp w A (execs trBr (g.env 10 L)) Q NoE s := by
  obtain ⟨b1, b2, b3⟩ := bk_f hb
  have b4 : ∀ q, q < sf.length → ∃ c, S[p + q]? = some c ∧ c ≠ 93 ∧ sf.getD q 0 = c := fun q hq => by
    refine ⟨sf[q], ?_, ?_, ?_⟩
    · rw [hS q (Nat.lt_of_lt_of_le hq (Nat.le_add_right (List.length sf) 1)), List.getElem?_append_left hq, List.getElem?_eq_getElem hq]
    · simpa using List.all_eq_true.mp b3 _ (List.getElem_mem hq)
    · rw [List.getD_eq_getElem?_getD, List.getElem?_eq_getElem hq]; rfl
  have b5 : S[p + sf.length]? = some 93 := by rw [hS _ (Nat.lt_succ_self (List.length sf))]; simp
  generalize hn : sf.length = n at *
  refine x_as ?_
  (refine' e_loc F e ?_ ?_; rotate_left 1; (focus (repeat (first | with_reducible exact At2.here | apply At2.there))))
  (refine' s_loc F e ?_ ?_; rotate_left 1; (focus (repeat (first | with_reducible exact Up2.here | apply Up2.there))); clear F; intro s F)
  refine x_ifm (fun s => ∃ tj, St g σ [] ((L, .ns trN [some (.str (oS S) t), v2, v3, some (.ref R), some (.ref ad), some (.int p ti), some (.int S.length tn), v8, some (.int ((p + if sf.getD 0 0 = 33 then 1 else 0 : Nat) : Int) tj), v10, v11, v12, v13]) :: (R, .list us) :: (ad, .raw (bndO R)) :: []) s) ?_ ?_
  · intro P hP
    refine t_and (t_cmp ?_)
    (refine' e_loc F e ?_ ?_; rotate_left 1; (focus (repeat (first | with_reducible exact At2.here | apply At2.there))))
    (refine' e_loc F e ?_ ?_; rotate_left 1; (focus (repeat (first | with_reducible exact At2.here | apply At2.there))))
    refine c_lty (i_lt (u_lt hj)) ?_
    refine t_cmp (e_sub ?_)
    (refine' e_loc F e ?_ ?_; rotate_left 1; (focus (repeat (first | with_reducible exact At2.here | apply At2.there))))
    (refine' e_loc F e ?_ ?_; rotate_left 1; (focus (repeat (first | with_reducible exact At2.here | apply At2.there))))
    obtain ⟨c, c1, c2, c3⟩ := b4 0 (Nat.lt_of_le_of_lt (Nat.le_add_left 0 (if List.getD sf 0 0 = 33 then 1 else 0)) b1)
    refine sub_s F (k := p) rfl c1 (Nat.le_trans hz (lb rfl)) ?_
    clear F; intro t3 s F
    refine e_lit lit_qu F ?_; (clear F; intro tk s F)
    by_cases h : c = 33
    · refine c_oy (by rw [h]) ?_
      refine x_as (e_bin ?_)
      (refine' e_loc F e ?_ ?_; rotate_left 1; (focus (repeat (first | with_reducible exact At2.here | apply At2.there))))
      (refine e_int F ?_; clear F; intro tk s F)
      refine b_add F ?_; (clear F; intro tk s F)
      (refine' s_loc F e ?_ ?_; rotate_left 1; (focus (repeat (first | with_reducible exact Up2.here | apply Up2.there))); clear F; intro s F)
      rw [if_pos (c3.trans h)] at hP
      exact x_nil ⟨rfl, hP _ ⟨_, F⟩⟩
    · refine c_on (by simpa using h) ?_
      rw [if_neg (fun x => h (c3.symm.trans x))] at hP
      exact x_nil ⟨rfl, hP _ ⟨_, F⟩⟩
  clear F s
  intro s hI1
  refine ex1 hI1 ?_; (try clear hI1); intro tj F
  generalize (if sf.getD 0 0 = 33 then 1 else 0) = a at *
  refine x_if (t_and (t_cmp ?_))
  (refine' e_loc F e ?_ ?_; rotate_left 1; (focus (repeat (first | with_reducible exact At2.here | apply At2.there))))
  (refine' e_loc F e ?_ ?_; rotate_left 1; (focus (repeat (first | with_reducible exact At2.here | apply At2.there))))
  refine c_lty (by lia) ?_
  refine t_cmp (e_sub ?_)
  (refine' e_loc F e ?_ ?_; rotate_left 1; (focus (repeat (first | with_reducible exact At2.here | apply At2.there))))
  (refine' e_loc F e ?_ ?_; rotate_left 1; (focus (repeat (first | with_reducible exact At2.here | apply At2.there))))
  obtain ⟨c, c1, c2, c3⟩ := b4 a b1
  refine sub_s F (k := p + a) rfl c1 (Nat.le_trans hz (lb rfl)) ?_
  clear F c3; intro t3 s F
  refine e_str F ?_; (clear F; intro tk s F)
  rw [lit_cl]
  refine c_on (by simpa using c2) (x_nil ?_)
  refine x_while (fun m s => ∃ jj tj, jj + m = n ∧ St g σ [] ((L, .ns trN [some (.str (oS S) t), v2, v3, some (.ref R), some (.ref ad), some (.int p ti), some (.int S.length tn), v8, some (.int ((p + jj : Nat) : Int) tj), v10, v11, v12, v13]) :: (R, .list us) :: (ad, .raw (bndO R)) :: []) s) (n - a) (exi2 a _ ⟨(sub_add (Nat.le_antisymm (Nat.le_refl (n - a)) (Nat.le_refl (n - a))) (gt_sub b1)), F⟩) ?_
  clear F s
  intro m s hI2 K hK
  refine ex2 hI2 ?_; (try clear hI2); intro jj tj hJ
  refine and2 hJ ?_; clear hJ; intro hm F
  refine t_and (t_cmp ?_)
  (refine' e_loc F e ?_ ?_; rotate_left 1; (focus (repeat (first | with_reducible exact At2.here | apply At2.there))))
  (refine' e_loc F e ?_ ?_; rotate_left 1; (focus (repeat (first | with_reducible exact At2.here | apply At2.there))))
  refine c_lty (i_lt (d_lt hj (Nat.le.intro hm))) ?_
  refine t_cmp (e_sub ?_)
  (refine' e_loc F e ?_ ?_; rotate_left 1; (focus (repeat (first | with_reducible exact At2.here | apply At2.there))))
  (refine' e_loc F e ?_ ?_; rotate_left 1; (focus (repeat (first | with_reducible exact At2.here | apply At2.there))))
  by_cases hjn : jj < n
  · obtain ⟨c, c1, c2, c3⟩ := b4 jj hjn
    refine sub_s F (k := p + jj) rfl c1 (Nat.le_trans hz (lb rfl)) ?_
    clear F c3; intro t3 s F
    refine e_lit lit_cl F ?_; (clear F; intro tk s F)
    refine c_ony (by simpa using c2) ?_
    refine x_as (e_bin ?_)
    (refine' e_loc F e ?_ ?_; rotate_left 1; (focus (repeat (first | with_reducible exact At2.here | apply At2.there))))
    (refine e_int F ?_; clear F; intro tk s F)
    refine b_add F ?_; (clear F; intro tk s F)
    (refine' s_loc F e ?_ ?_; rotate_left 1; (focus (repeat (first | with_reducible exact Up2.here | apply Up2.there))); clear F; intro s F)
    rw [show ((p + jj : Nat) : Int) + 1 = ((p + (jj + 1) : Nat) : Int) by lia] at F
    exact x_nil (hK (m - 1) _ (pred_lt (in_of hm hjn)) (exi2 (jj + 1) _ ⟨(step_eq hm hjn), F⟩))
  · have e0 : jj = n := (eq_top hm hjn)
    subst e0
    refine sub_s F (k := p + jj) rfl b5 (Nat.le_trans hz (lb rfl)) ?_
    clear F hK; intro t3 s F
    refine e_lit lit_cl F ?_; (clear F; intro tk s F)
    refine c_onn rfl ?_
    refine x_if (t_cmp ?_)
    (refine' e_loc F e ?_ ?_; rotate_left 1; (focus (repeat (first | with_reducible exact At2.here | apply At2.there))))
    (refine' e_loc F e ?_ ?_; rotate_left 1; (focus (repeat (first | with_reducible exact At2.here | apply At2.there))))
    refine c_gen (i_nle hj) ?_
    refine x_as (e_slc ?_)
    (refine' e_loc F e ?_ ?_; rotate_left 1; (focus (repeat (first | with_reducible exact At2.here | apply At2.there))))
    refine p_some ?_
    (refine' e_loc F e ?_ ?_; rotate_left 1; (focus (repeat (first | with_reducible exact At2.here | apply At2.there))))
    refine p_some ?_
    (refine' e_loc F e ?_ ?_; rotate_left 1; (focus (repeat (first | with_reducible exact At2.here | apply At2.there))))
    refine slc_ss F (by rw [oS_len]; exact Nat.le_trans hz (lb rfl)) ?_
    clear F; intro s t4 F
    rw [tx_ss (a := p) (b := p + jj) rfl rfl (Nat.le_add_right p jj) (by lia)]
    (refine' s_loc F e ?_ ?_; rotate_left 1; (focus (repeat (first | with_reducible exact Up2.here | apply Up2.there))); clear F; intro s F)
    have S12 : (S.drop p).take (p + jj - p) = sf := by
      refine List.ext_getElem? fun i => ?_
      rw [List.getElem?_take, Nat.add_sub_cancel_left]
      split
      · rw [List.getElem?_drop, hS _ (by lia), List.getElem?_append_left (by lia)]
      · rw [List.getElem?_eq_none (by lia)]
    rw [S12] at F
    have fin : ∀ (s : Shared) (ts : Tok) (v6 v11 v12 v13 : Option Value), St g σ [] ((L, .ns trN [some (.str (oS S) t), v2, v3, some (.ref R), some (.ref ad), v6, some (.int S.length tn), v8, some (.int ((p + jj : Nat) : Int) tj), some (.str (oS sg) ts), v11, v12, v13]) :: (R, .list us) :: (ad, .raw (bndO R)) :: []) s →
        Wp w A (execs (trStuff.drop 2) (g.env 10 L)) (Nx Q fun s₂ => Wp w A (execs [] (g.env 10 L)) Q NoE s₂) NoE s := fun s ts v6 v11 v12 v13 F => tr_tail hh hL hb hu e F fun s' t1 t2 v10 v11 v12 v13 F => x_nil (hQ s' t1 t2 _ _ v10 v11 v12 v13 F)
    refine x_if (t_cmp (e_lit lit_da F ?_)); (clear F; intro tk s F)
    (refine' e_loc F e ?_ ?_; rotate_left 1; (focus (repeat (first | with_reducible exact At2.here | apply At2.there))))
    rcases bk_r hb with ⟨rfl, h1, h2⟩ | ⟨pre, x, y, h1, h2, h3, rfl, h4⟩
    · refine c_niy h1 (x_as (e_met2 ?_))
      (refine' e_loc F e ?_ ?_; rotate_left 1; (focus (repeat (first | with_reducible exact At2.here | apply At2.there))))
      refine ⟨_, rcv_str PySem.F.slot_str_replace PySem.F.type_str_replace, ?_⟩
      refine e_lit lit_bs F ?_; (clear F; intro tk s F)
      refine e_str F ?_; (clear F; intro tk s F)
      refine .of (k_repl0 (rep_no2 _ h2) ?_)
      (refine' s_loc F e ?_ ?_; rotate_left 1; (focus (repeat (first | with_reducible exact Up2.here | apply Up2.there))); clear F; intro s F)
      exact x_nil (fin _ _ _ _ _ _ F)
    · rw [List.length_append] at hn
      have hn2 : jj = pre.length + 3 := hn.symm
      subst hn2
      refine c_nin (by simp) ?_
      refine tr_chk hh hA hL h1 h2 h3 hz ?_ (fun q hq => ?_) e F ?_
      · lia
      · rw [hS q (Nat.lt_of_lt_of_le hq (Nat.le_add_right (List.length pre + 3) 1)), List.getElem?_append_left (by simp; exact hq)]
      · clear F; intro s' v6 ts v11 v12 v13 F
        rw [← h4] at F
        exact fin _ _ _ _ _ _ F
end
end
/-! MS14 -/
section
set_option hygiene false
/-- the kinds of a pattern, 9 for the star -/
noncomputable def wr9 (k : Nat) : List Nat := if k = 9 then [42] else wrt k
noncomputable def its (ks : List Nat) (star : Bool) : List Nat := ks ++ if star then [9] else []
noncomputable def IsIt (st : Addr) (v : Value) (k : Nat) : Prop := if k = 9 then v = .ref st else ∃ t, v = .str (oS (pcs k)) t
structure Its (st : Addr) (us : List Value) (ms : List Nat) (m : Nat) : Prop where
  len : us.length = m
  it : ∀ i v, us[i]? = some v → IsIt st v (ms.getD i 0)
theorem Its.snoc {st : Addr} {us : List Value} {ms : List Nat} {m : Nat} {v : Value} (h : Its st us ms m) (hv : IsIt st v (ms.getD m 0)) : Its st (us ++ [v]) ms (m + 1) := by
  refine ⟨by rw [List.length_append, h.len]; rfl, fun i x hx => ?_⟩
  by_cases hi : i < us.length
  · rw [List.getElem?_append_left hi] at hx
    exact h.it i x hx
  · have h1 : i < (us ++ [v]).length := (List.getElem?_eq_some_iff.mp hx).1
    rw [List.length_append] at h1
    have h2 : i = us.length := by simp at h1; exact eq_fin h1 hi
    subst h2
    rw [List.getElem?_append_right (Nat.le_refl _), Nat.sub_self] at hx
    cases hx
    rw [h.len]
    exact hv
theorem wr_split {ms : List Nat} {m k : Nat} (h : ms[m]? = some k) : ms.flatMap wr9 = (ms.take m).flatMap wr9 ++ (wr9 k ++ (ms.drop (m + 1)).flatMap wr9) := by
  have hm : m < ms.length := (List.getElem?_eq_some_iff.mp h).1
  have e : ms = ms.take m ++ (k :: ms.drop (m + 1)) := by
    rw [← (List.getElem?_eq_some_iff.mp h).2, List.getElem_cons_drop, List.take_append_drop]
  conv => lhs; rw [e, List.flatMap_append, List.flatMap_cons]
theorem wr_at {ms : List Nat} {m k : Nat} (h : ms[m]? = some k) (q : Nat) (hq : q < (wr9 k).length) : (ms.flatMap wr9)[((ms.take m).flatMap wr9).length + q]? = (wr9 k)[q]? := by
  rw [wr_split h, List.getElem?_append_right (Nat.le_add_right (List.length (List.flatMap wr9 (List.take m ms))) q), Nat.add_sub_cancel_left, List.getElem?_append_left hq]
theorem wr_next {ms : List Nat} {m k : Nat} (h : ms[m]? = some k) : ((ms.take (m + 1)).flatMap wr9).length = ((ms.take m).flatMap wr9).length + (wr9 k).length := by
  rw [List.take_add_one, h, List.flatMap_append, List.length_append]
  simp
theorem wr_le {ms : List Nat} {m k : Nat} (h : ms[m]? = some k) : ((ms.take m).flatMap wr9).length + (wr9 k).length ≤ (ms.flatMap wr9).length := by
  rw [wr_split h, List.length_append, List.length_append]
  lia
theorem its_wr (ks : List Nat) (star : Bool) (h : ∀ k ∈ ks, k < 9) : wrtL ks star = (its ks star).flatMap wr9 := by
  unfold wrtL its
  rw [List.flatMap_append]
  congr 1
  · induction ks with
    | nil => rfl
    | cons k r ih =>
      have := h k (.head _)
      rw [List.flatMap_cons, List.flatMap_cons, ih fun x hx => h x (.tail _ hx), wr9, if_neg (Nat.ne_of_lt this)]
  · cases star <;> rfl
theorem bk_of : ∀ k, 3 ≤ k → k ≤ 8 → ∃ sf sg, BK k sf sg ∧ wrt k = 91 :: (sf ++ [93])
  | 3, _, _ => ⟨_, _, .k3, rfl⟩
  | 4, _, _ => ⟨_, _, .k4, rfl⟩
  | 5, _, _ => ⟨_, _, .k5, rfl⟩
  | 6, _, _ => ⟨_, _, .k6, rfl⟩
  | 7, _, _ => ⟨_, _, .k7, rfl⟩
  | 8, _, _ => ⟨_, _, .k8, rfl⟩
  | 0, h, _ => absurd h (by decide)
  | 1, h, _ => absurd h (by decide)
  | 2, h, _ => absurd h (by decide)
  | k + 9, _, h => absurd h (Nat.not_le_of_lt (Nat.lt_succ_of_le (Nat.le_add_left 8 k)))
theorem its_nine {ks : List Nat} {star : Bool} {d : Nat} (hks : ∀ k ∈ ks, k < 9) (h : (its ks star)[d]? = some 9) (i : Nat) (hi : i < d) : (its ks star).getD i 0 ≠ 9 := by
  unfold its at *
  have hd : ks.length ≤ d := by
    rcases Nat.lt_or_ge d ks.length with hlt | hge
    · rw [List.getElem?_append_left hlt] at h
      have := hks 9 (List.mem_of_getElem? h)
      lia
    · exact hge
  have hl : d < ks.length + 1 := by
    have := (List.getElem?_eq_some_iff.mp h).1
    rw [List.length_append] at this
    have h2 : (if star then [9] else ([] : List Nat)).length ≤ 1 := by cases star <;> decide
    lia
  rw [List.getD_eq_getElem?_getD, List.getElem?_append_left (by lia), List.getElem?_eq_getElem (by lia)]
  have := hks _ (List.getElem_mem (show i < ks.length by lia))
  simp only [Option.getD_some]
  lia
theorem its_le {ks : List Nat} {star : Bool} {d k : Nat} (hks : ∀ k ∈ ks, k < 9) (h : (its ks star)[d]? = some k) : k ≤ 9 := by
  rcases List.mem_append.mp (List.mem_of_getElem? h) with h | h
  · exact Nat.le_of_lt (hks k h)
  · cases star
    · cases h
    · cases h with
      | head => exact Nat.le_refl _
      | tail _ h => cases h
theorem lit_qm : Str.ofString "?" = oS [63] := by decide +kernel
theorem lit_as : Str.ofString "*" = oS [42] := by decide +kernel
theorem wrt_n42 {k c : Nat} (hc : (wrt k)[0]? = some c) : c ≠ 42 := by
  intro h
  subst h
  unfold wrt at hc
  split at hc <;> cases hc
theorem wrt_n63 {k c : Nat} (h2 : ¬ k = 2) (hc : (wrt k)[0]? = some c) : c ≠ 63 := by
  intro h
  subst h
  unfold wrt at hc
  split at hc <;> first | exact h2 rfl | cases hc
theorem wrt_ab {k c : Nat} (h : k = 0 ∨ k = 1) (hc : (wrt k)[0]? = some c) : wrt k = [c] ∧ pcs k = [c] ∧ (c = 97 ∨ c = 98) := by
  rcases h with rfl | rfl <;> cases hc
  · exact ⟨rfl, rfl, .inl rfl⟩
  · exact ⟨rfl, rfl, .inr rfl⟩
theorem ab_n91 {c : Nat} (h : c = 97 ∨ c = 98) : [c] ≠ [91] := by rcases h with rfl | rfl <;> decide
section
variable {w : World} {A : Around} {g : Gd} {σ : Shared}
theorem tr_spec {st : Addr} {ks : List Nat} {star : Bool} {t t2 : Tok} (I : Iv g σ) (hh : A.handled = none) (hA : A.depth + 4 < recursionLimit) (hks : ∀ k ∈ ks, k < 9) (hz : ks.length ≤ 20) :
    Spec w A (.ref (g.fa 10)) [.str (oS (wrtL ks star)) t, .ref st, .str (oS [46]) t2] σ (fun v s' => ∃ (r : Nat) (us : List Value), v = .ref r ∧ After g [] σ s' ∧ Iv g s' ∧ σ.heap.objs.size ≤ r ∧ K.At s'.heap r (.list us) ∧ Its st us (its ks star) (its ks star).length) := by
  have F0 : St g σ [] [] σ := .start I (by simp) (by simp) (by simp) (by simp)
  refine enter (i := 10) trN [some _, some _, some _, none, none, none, none, none, none, none, none, none, none] (pn := ["pat", "STAR", "QUESTION_MARK"]) (k := 10) I (u_lt hA) (by decide) F0 (by decide +kernel) rfl (fun _ _ _ => by rfl) (by rfl) (by rfl) (by decide +kernel) (by decide +kernel) (by decide +kernel) (by decide +kernel) ?_
  intro L s hL F e J hJ
  have hhh : (A.deeper (g.env 10 L)).handled = none := hh
  have hdd : (A.deeper (g.env 10 L)).depth + 3 < recursionLimit := by show A.depth + 1 + 3 < _; exact hA
  have hlen : (wrtL ks star).length ≤ 200 := by
    unfold wrtL
    rw [List.length_append]
    have := wflat_le ks
    have : (if star then [42] else ([] : List Nat)).length ≤ 1 := by cases star <;> decide
    lia
  generalize A.deeper (g.env 10 L) = B at *
  rw [its_wr ks star hks] at F hlen
  generalize hms : its ks star = ms at *
  refine x_as (e_list (sp_nil ⟨by simp, _, _, _, _, _, F, ?_⟩)); clear F; intro R s hR F
  (refine' s_loc F e ?_ ?_; rotate_left 1; (focus (repeat (first | with_reducible exact Up2.here | apply Up2.there))); clear F; intro s F)
  refine x_as (e_append F ?_ (F.mem (.there .here)).choose_spec ?_)
  · intro Q hq
    (refine' e_loc F e ?_ ?_; rotate_left 1; (focus (repeat (first | with_reducible exact At2.here | apply At2.there))))
    exact hq
  clear F; intro ad s had F
  (refine' s_loc F e ?_ ?_; rotate_left 1; (focus (repeat (first | with_reducible exact Up2.here | apply Up2.there))); clear F; intro s F)
  replace F := F.perm (os' := [_, (R, .list []), (ad, _)]) (List.Perm.cons _ (List.Perm.swap ..))
  refine x_as2 hhh ?_
  (refine e_int F ?_; clear F; intro tk s F)
  refine e_call1 ?_
  (refine' e_bi F e ?_ ?_; rotate_left 1; with_reducible constructor)
  (refine' e_loc F e ?_ ?_; rotate_left 1; (focus (repeat (first | with_reducible exact At2.here | apply At2.there))))
  refine cw_bi (len_str' F (by rw [oS_len]; exact Nat.le_trans hlen (lb rfl)) ?_)
  clear F; intro tn s F
  rw [oS_len]
  refine (exi5 _ _ _ _ _ ⟨F, hL, ?_⟩)
  clear F; intro s F
  (refine' s_loc F e ?_ ?_; rotate_left 1; (focus (repeat (first | with_reducible exact Up2.here | apply Up2.there))); clear F; intro s F)
  (refine' s_loc F e ?_ ?_; rotate_left 1; (focus (repeat (first | with_reducible exact Up2.here | apply Up2.there))); clear F; intro s F)
  refine x_while (fun m s => ∃ (d : Nat) (ti : Tok) (us : List Value) (v8 v9 v10 v11 v12 v13 : Option Value), d + m = ms.length ∧ Its st us ms d ∧
    St g σ [] ((L, .ns trN [some (.str (oS (ms.flatMap wr9)) t), some (.ref st), some (.str (oS [46]) t2), some (.ref R), some (.ref ad), some (.int (((ms.take d).flatMap wr9).length : Nat) ti), some (.int (ms.flatMap wr9).length tn), v8, v9, v10, v11, v12, v13]) :: (R, .list us) :: (ad, .raw (bndO R)) :: []) s) ms.length (exi9 0 _ [] _ _ _ _ _ _ ⟨(add_sub' (Nat.le_add_left 0 (List.length ms))), ⟨rfl, nofun⟩, F⟩) ?_
  clear F s
  intro m s hI2 K hK
  refine ex9 hI2 ?_; (try clear hI2); intro d ti us v8 v9 v10 v11 v12 v13 hJ
  refine and3 hJ ?_; clear hJ; intro hd hi F
  refine t_cmp ?_
  (refine' e_loc F e ?_ ?_; rotate_left 1; (focus (repeat (first | with_reducible exact At2.here | apply At2.there))))
  (refine' e_loc F e ?_ ?_; rotate_left 1; (focus (repeat (first | with_reducible exact At2.here | apply At2.there))))
  by_cases hm : d < ms.length
  · obtain ⟨k, hk⟩ : ∃ k, ms[d]? = some k := ⟨_, List.getElem?_eq_getElem hm⟩
    have w1 := wr_at hk
    have w2 := wr_next hk
    have w3 := wr_le hk
    generalize ms.flatMap wr9 = S at *
    generalize ((ms.take d).flatMap wr9).length = p at *
    have nxt : ∀ (q : Nat) (s : Shared) (ti : Tok) (v : Value) (v8 v9 v10 v11 v12 v13 : Option Value), q = p + (wr9 k).length → IsIt st v k → St g σ [] ((L, .ns trN [some (.str (oS S) t), some (.ref st), some (.str (oS [46]) t2), some (.ref R), some (.ref ad), some (.int (q : Int) ti), some (.int S.length tn), v8, v9, v10, v11, v12, v13]) :: (R, .list (us ++ [v])) :: (ad, .raw (bndO R)) :: []) s → K s := fun q s ti v v8 v9 v10 v11 v12 v13 hq hv F =>
      hK (m - 1) s (pred_lt (in_of hd hm)) (exi9 (d + 1) ti (us ++ [v]) v8 v9 v10 v11 v12 v13 ⟨(step_eq hd hm), hi.snoc (by rw [List.getD_eq_getElem?_getD, hk]; exact hv), by rw [w2, ← hq]; exact F⟩)
    clear hK
    have hul : us.length ≤ 30 := by
      rw [hi.len]
      have : ms.length ≤ 21 := by
        rw [← hms]
        unfold its
        rw [List.length_append]
        have : (if star then [9] else ([] : List Nat)).length ≤ 1 := by cases star <;> decide
        lia
      lia
    have wp : 0 < (wr9 k).length := by
      unfold wr9
      split
      · decide
      · exact wrt_pos k
    obtain ⟨c, hc⟩ : ∃ c, (wr9 k)[0]? = some c := ⟨_, List.getElem?_eq_getElem wp⟩
    refine c_lty (by lia) (x_as (e_sub ?_))
    (refine' e_loc F e ?_ ?_; rotate_left 1; (focus (repeat (first | with_reducible exact At2.here | apply At2.there))))
    (refine' e_loc F e ?_ ?_; rotate_left 1; (focus (repeat (first | with_reducible exact At2.here | apply At2.there))))
    refine sub_s F (k := p) rfl ((w1 0 wp).trans hc) (Nat.le_trans hlen (lb rfl)) ?_
    clear F; intro t3 s F
    (refine' s_loc F e ?_ ?_; rotate_left 1; (focus (repeat (first | with_reducible exact Up2.here | apply Up2.there))); clear F; intro s F)
    refine x_as (e_bin ?_)
    (refine' e_loc F e ?_ ?_; rotate_left 1; (focus (repeat (first | with_reducible exact At2.here | apply At2.there))))
    (refine e_int F ?_; clear F; intro tk s F)
    refine b_add F ?_; (clear F; intro tk s F)
    (refine' s_loc F e ?_ ?_; rotate_left 1; (focus (repeat (first | with_reducible exact Up2.here | apply Up2.there))); clear F; intro s F)
    refine x_if (t_cmp ?_)
    (refine' e_loc F e ?_ ?_; rotate_left 1; (focus (repeat (first | with_reducible exact At2.here | apply At2.there))))
    refine e_lit lit_as F ?_; (clear F; intro tk s F)
    by_cases h9 : k = 9
    · have hc42 : c = 42 := (Option.some.inj ((by rw [h9]; rfl : (wr9 k)[0]? = some 42).symm.trans hc)).symm
      have hw9 : p + 1 = p + (wr9 k).length := by rw [h9]; rfl
      refine c_oy (by rw [hc42]) (x_ifm (fun s => K s) ?_ ?_)
      · intro P hP
        have add9 : ∀ (s : Shared) (tk : Tok), St g σ [] ((L, .ns trN [some (.str (oS S) t), some (.ref st), some (.str (oS [46]) t2), some (.ref R), some (.ref ad), some (.int ((p : Nat) + 1) tk), some (.int S.length tn), some (.str (oS [c]) t3), v9, v10, v11, v12, v13]) :: (R, .list us) :: (ad, .raw (bndO R)) :: []) s → Wp w B (execs (bodyOf (at0 (bodyOf (at0 (bodyOf (at0 (fnBody (stmtAt 10)) 3)) 2)) 0)) (g.env 10 L)) (Nj P) NoE s := by
          clear F; intro s tk F
          refine x_expr (e_call1 ?_)
          (refine' e_loc F e ?_ ?_; rotate_left 1; (focus (repeat (first | with_reducible exact At2.here | apply At2.there))))
          (refine' e_loc F e ?_ ?_; rotate_left 1; (focus (repeat (first | with_reducible exact At2.here | apply At2.there))))
          refine cw_add F (.there (.there .here)) (.there .here) (Nat.le_trans hul (lb rfl)) ?_
          clear F; intro s F
          exact x_nil ⟨rfl, hP _ (nxt (p + 1) _ _ _ _ _ _ _ _ _ hw9 (by rw [IsIt, if_pos h9]) F)⟩
        refine t_or (t_not (t_val ?_))
        (refine' e_loc F e ?_ ?_; rotate_left 1; (focus (repeat (first | with_reducible exact At2.here | apply At2.there))))
        obtain ⟨nR, hoR⟩ := F.mem (.there .here)
        refine tr_list F hoR (Nat.le_trans hul (lb rfl)) ?_
        clear F; intro s F
        by_cases hu : us = []
        · rw [decide_eq_false (by simpa using hu)]
          exact add9 _ _ F
        · rw [decide_eq_true hu]
          have hp : 0 < us.length := List.length_pos_iff.mpr hu
          refine t_cmp (e_sub ?_)
          (refine' e_loc F e ?_ ?_; rotate_left 1; (focus (repeat (first | with_reducible exact At2.here | apply At2.there))))
          refine e_neg F ?_; (clear F; intro tk s F)
          obtain ⟨v, hv⟩ : ∃ v, us[us.length - 1]? = some v := ⟨_, List.getElem?_eq_getElem (pred_lt hp)⟩
          have hI := hi.it _ _ hv
          rw [IsIt, if_neg (by rw [← hms]; exact its_nine hks (by rw [hms, hk, h9]) _ (by rw [← hi.len]; exact pred_lt hp))] at hI
          refine ex1 hI ?_; (try clear hI); intro tv hR1
          subst hR1
          refine sub_last (F.mem (.there .here)).choose_spec hv ?_
          (refine' e_loc F e ?_ ?_; rotate_left 1; (focus (repeat (first | with_reducible exact At2.here | apply At2.there))))
          refine c_isn (wpAny_of_eq (a := false) rfl ?_)
          exact add9 _ _ F
      · intro s h
        exact x_nil (x_nil h)
    · have hk8 : k ≤ 8 := by
        have := its_le (d := d) hks (hms ▸ hk)
        lia
      have hwr : wr9 k = wrt k := by rw [wr9, if_neg h9]
      rw [hwr] at hc w1 w3 wp
      have hc42 : c ≠ 42 := wrt_n42 hc
      refine c_on (by simpa using hc42) ?_
      by_cases h2 : k = 2
      · have hc63 : c = 63 := (Option.some.inj ((by rw [h2]; rfl : (wrt k)[0]? = some 63).symm.trans hc)).symm
        refine x_if (t_cmp ?_)
        (refine' e_loc F e ?_ ?_; rotate_left 1; (focus (repeat (first | with_reducible exact At2.here | apply At2.there))))
        refine e_lit lit_qm F ?_; (clear F; intro tk s F)
        refine c_oy (by rw [hc63]) ?_
        refine x_expr (e_call1 ?_)
        (refine' e_loc F e ?_ ?_; rotate_left 1; (focus (repeat (first | with_reducible exact At2.here | apply At2.there))))
        (refine' e_loc F e ?_ ?_; rotate_left 1; (focus (repeat (first | with_reducible exact At2.here | apply At2.there))))
        refine cw_add F (.there (.there .here)) (.there .here) (Nat.le_trans hul (lb rfl)) ?_
        clear F; intro s F
        exact x_nil (x_nil (x_nil (nxt (p + 1) _ _ _ _ _ _ _ _ _ (by rw [hwr, h2]; rfl) (by rw [IsIt, if_neg h9, h2]; exact ⟨_, rfl⟩) F)))
      · have hc63 : c ≠ 63 := wrt_n63 h2 hc
        refine x_if (t_cmp ?_)
        (refine' e_loc F e ?_ ?_; rotate_left 1; (focus (repeat (first | with_reducible exact At2.here | apply At2.there))))
        refine e_lit lit_qm F ?_; (clear F; intro tk s F)
        refine c_on (by simpa using hc63) ?_
        refine x_if (t_cmp ?_)
        (refine' e_loc F e ?_ ?_; rotate_left 1; (focus (repeat (first | with_reducible exact At2.here | apply At2.there))))
        refine e_lit lit_br F ?_; (clear F; intro tk s F)
        by_cases h3 : 3 ≤ k
        · refine ex2 (bk_of k h3 hk8) ?_; intro sf sg hJ
          refine and2 hJ ?_; clear hJ; intro hb hw
          rw [hw] at hc w1 w3 wp
          have hc91 : c = 91 := (Option.some.inj hc).symm
          refine c_oy (by rw [hc91]) ?_
          rw [show (91 :: (sf ++ [93])).length = sf.length + 2 by simp] at w1 w3
          rw [show (p : Int) + 1 = ((p + 1 : Nat) : Int) by lia] at F
          refine tr_br (p := p + 1) hhh (d_lt hdd (lb rfl)) hL hb hul (Nat.le_trans hlen (lb rfl)) (by lia) (fun q hq => ?_) e F ?_
          · rw [Nat.add_assoc, Nat.add_comm 1 q, w1 (q + 1) (Nat.add_lt_add_right hq 1), List.getElem?_cons_succ]
          · clear F; intro s' t1 t2 v8 v9 v10 v11 v12 v13 F
            exact x_nil (x_nil (x_nil (nxt (p + 1 + sf.length + 1) _ _ _ _ _ _ _ _ _ (by rw [hwr, hw, List.length_cons, List.length_append]; show p + 1 + sf.length + 1 = p + (sf.length + 1 + 1); lia) (by rw [IsIt, if_neg h9]; exact ⟨_, rfl⟩) F)))
        · refine and3 (wrt_ab (by lia : k = 0 ∨ k = 1) hc) ?_; intro c1 c2 hcc
          refine c_on (ab_n91 hcc) ?_
          refine x_expr (e_call1 ?_)
          (refine' e_loc F e ?_ ?_; rotate_left 1; (focus (repeat (first | with_reducible exact At2.here | apply At2.there))))
          refine e_call1 (e_fn 8 F e ?_)
          (refine' e_loc F e ?_ ?_; rotate_left 1; (focus (repeat (first | with_reducible exact At2.here | apply At2.there))))
          refine cw_fn F.inv (by decide) (escape_spec F.inv hhh (u_lt hdd) hcc) ?_
          intro v s hI2
          refine ex1 hI2 ?_; (try clear hI2); intro t' hJ
          refine and3 hJ ?_; clear hJ; intro hR2 ha hi'
          subst hR2
          have F := F.after0 ha hi'
          refine cw_add F (.there (.there .here)) (.there .here) (Nat.le_trans hul (lb rfl)) ?_
          clear F; intro s F
          exact x_nil (x_nil (x_nil (x_nil (nxt (p + 1) _ _ _ _ _ _ _ _ _ (by rw [hwr, c1]; rfl) (by rw [IsIt, if_neg h9, c2]; exact ⟨_, rfl⟩) F))))
  · have e0 : d = ms.length := (eq_top hd hm)
    rw [e0, List.take_length] at F
    refine c_ltn (by rw [e0, List.take_length]; exact i_nlt (Nat.le_refl (List.length (List.flatMap wr9 ms)))) (x_assert (t_cmp ?_))
    (refine' e_loc F e ?_ ?_; rotate_left 1; (focus (repeat (first | with_reducible exact At2.here | apply At2.there))))
    (refine' e_loc F e ?_ ?_; rotate_left 1; (focus (repeat (first | with_reducible exact At2.here | apply At2.there))))
    refine c_eqy rfl ⟨rfl, x_ret ?_⟩
    (refine' e_loc F e ?_ ?_; rotate_left 1; (focus (repeat (first | with_reducible exact At2.here | apply At2.there))))
    exact hJ _ _ ⟨_, rfl, _, us, rfl, F.aft, F.inv, hR, F.at _ (.tail _ (.head _)), e0 ▸ hi⟩
end
end
/-! MS15 -/
section
set_option hygiene false
/-- what a call hands back, laid behind the frame -/
theorem St.got {g : Gd} {s₀ s s' : Shared} {ms : List Addr} {os : Os} {p₀ : Addr × K} {a : Addr} {k : K} (F : St g s₀ ms (p₀ :: os) s) (ha : After g [] s s') (hi : Iv g s') (hk : K.At s'.heap a k) (hl : s.heap.objs.size ≤ a) : St g s₀ ms (p₀ :: (a, k) :: os) s' :=
  ((F.after0 ha hi).add hk (fun p hp e => Nat.lt_irrefl _ (Nat.lt_of_lt_of_le (e ▸ (F.at p hp).lt) hl)) (Nat.le_trans F.aft.size hl)).swap
theorem strs_of : ∀ {us : List Value} {xs : List Str}, us.length = xs.length → (∀ (i : Nat) v x, us[i]? = some v → xs[i]? = some x → IsS v x) → Strs us xs
  | [], [], _, _ => .nil
  | _ :: _, _ :: _, hl, h => .cons (h 0 _ _ rfl rfl) (strs_of (Nat.succ.inj hl) fun i v x a b => h (i + 1) v x a b)
theorem its_cut {st : Addr} {vs : List Value} {ks : List Nat} {star : Bool} (hks : ∀ k ∈ ks, k < 9) (h : Its st vs (its ks star) (its ks star).length) : ∃ us, vs = us ++ (if star then [.ref st] else []) ∧ Strs us (ks.map fun k => oS (pcs k)) := by
  have hl := h.len
  have hlen : vs.length = ks.length + (if star then 1 else 0) := by
    rw [hl, its, List.length_append]
    cases star <;> rfl
  refine ⟨vs.take ks.length, ?_, strs_of ?_ fun i v x h1 h2 => ?_⟩
  · cases star with
    | false =>
      rw [if_neg (by decide), List.append_nil, List.take_of_length_le (by rw [hlen]; exact Nat.le_refl _)]
    | true =>
      have hx : ∃ v, vs[ks.length]? = some v := ⟨_, List.getElem?_eq_getElem (by rw [hlen]; exact Nat.lt_succ_self _)⟩
      obtain ⟨v, hv⟩ := hx
      have hI := h.it _ _ hv
      rw [its, if_pos rfl, List.getD_eq_getElem?_getD, List.getElem?_append_right (Nat.le_refl _), Nat.sub_self] at hI
      have : v = .ref st := hI
      subst this
      have e := List.take_add_one (l := vs) (i := ks.length)
      rw [hv, List.take_of_length_le (by rw [hlen]; exact Nat.le_refl _)] at e
      exact e
  · rw [List.length_take, List.length_map, hlen]
    lia
  · rw [List.getElem?_take] at h1
    split at h1
    · rename_i hi
      rw [List.getElem?_map, List.getElem?_eq_getElem hi] at h2
      cases h2
      have hI := h.it _ _ h1
      have h9 := hks _ (List.getElem_mem hi)
      have e : (its ks star).getD i 0 = ks[i] := by
        rw [its, List.getD_eq_getElem?_getD, List.getElem?_append_left hi, List.getElem?_eq_getElem hi]
        rfl
      rw [IsIt, e, if_neg (Nat.ne_of_lt h9)] at hI
      exact hI
    · cases h1
section
variable {w : World} {A : Around} {g : Gd} {σ : Shared}
theorem translate_spec {ks : List Nat} {star : Bool} {t : Tok} (I : Iv g σ) (hh : A.handled = none) (hA : A.depth + 6 < recursionLimit) (hks : ∀ k ∈ ks, k < 9) (hz : ks.length ≤ 20) :
    Spec w A (.ref (g.fa 5)) [.str (oS (wrtL ks star)) t] σ (fun v s' => ∃ t', v = .str (oS (shownL ks star)) t' ∧ After g [] σ s' ∧ Iv g s') := by
  have F0 : St g σ [] [] σ := .start I (by simp) (by simp) (by simp) (by simp)
  refine enter (i := 5) ["pat", "STAR", "parts"] [some _, none, none] (pn := ["pat"]) (k := 2) I (u_lt hA) (by decide) F0 (by decide +kernel) rfl (fun _ _ _ => by rfl) (by rfl) (by rfl) (by decide +kernel) (by decide +kernel) (by decide +kernel) (by decide +kernel) ?_
  intro L s hL F e J hJ
  have hhh : (A.deeper (g.env 5 L)).handled = none := hh
  have hdd : (A.deeper (g.env 5 L)).depth + 5 < recursionLimit := by show A.depth + 1 + 5 < _; exact hA
  generalize A.deeper (g.env 5 L) = B at *
  refine x_as (e_call0 ?_)
  (refine' e_bi F e ?_ ?_; rotate_left 1; with_reducible constructor)
  refine cw_ty (k_object F ?_); clear F; intro st s hst F
  (refine' s_loc F e ?_ ?_; rotate_left 1; (focus (repeat (first | with_reducible exact Up2.here | apply Up2.there))); clear F; intro s F)
  refine x_as (e_call3 (e_fn 10 F e ?_))
  (refine' e_loc F e ?_ ?_; rotate_left 1; (focus (repeat (first | with_reducible exact At2.here | apply At2.there))))
  (refine' e_loc F e ?_ ?_; rotate_left 1; (focus (repeat (first | with_reducible exact At2.here | apply At2.there))))
  refine e_lit lit_dot F ?_; (clear F; intro tk s F)
  refine cw_fn F.inv (by decide) (tr_spec F.inv hhh (d_lt hdd (lb rfl)) hks hz) ?_
  intro v s hI2
  refine ex2 hI2 ?_; (try clear hI2); intro r us hJ
  refine and6 hJ ?_; clear hJ; intro hR1 ha hi hr hk ht
  subst hR1
  replace F := F.got ha hi hk hr
  (refine' s_loc F e ?_ ?_; rotate_left 1; (focus (repeat (first | with_reducible exact Up2.here | apply Up2.there))); clear F; intro s F)
  refine x_ret (e_call2 (e_fn 11 F e ?_))
  (refine' e_loc F e ?_ ?_; rotate_left 1; (focus (repeat (first | with_reducible exact At2.here | apply At2.there))))
  (refine' e_loc F e ?_ ?_; rotate_left 1; (focus (repeat (first | with_reducible exact At2.here | apply At2.there))))
  refine ex1 (its_cut hks ht) ?_; intro us' hJ
  refine and2 hJ ?_; clear hJ; intro hR2 hs
  subst hR2
  obtain ⟨n0, hn0⟩ := F.mem (.there .here)
  refine cw_fn F.inv (by decide) (jt_spec F.inv hhh (d_lt hdd (lb rfl)) hn0 (F.mem (.there (.there .here))) (F.low _ (.tail _ (.head _))) (F.low _ (.tail _ (.tail _ (.head _)))) hs hz) ?_
  intro v s' hI2
  refine ex1 hI2 ?_; (try clear hI2); intro t' hJ
  refine and3 hJ ?_; clear hJ; intro hR3 ha hi
  subst hR3
  have F := F.after0 ha hi
  exact hJ _ _ ⟨_, rfl, t', rfl, F.aft, F.inv⟩
end
end
/-! MX34 -/
section
set_option hygiene false
section
variable {w : World} {A : Around} {E : Value → Shared → Prop} {g : Gd} {s₀ s s' : Shared} {ms : List Addr} {os os' : Os} {env : Env}
theorem unpack_list2 {l : Addr} {a b : Value} {Q : List Value → Shared → Prop} (hh : A.handled = none) (hl : s.heap.IsList l #[a, b])
    (hQ : ∀ h', Heap.ExtBut s.heap.objs.size s.heap h' → Q [a, b] { s with heap := h' }) : wpAny (model pw w) A (unpackItems (.ref l) 2 none) Q E s := by
  have hlt : l ≠ s.heap.objs.size := by obtain ⟨o, ho, _⟩ := id hl; exact Nat.ne_of_lt (Heap.lt_size ho)
  unfold unpackItems
  refine wpAny_bind ?_
  unfold notIterableAtAll
  refine wpAny_bind (wpAny_specialOf hl.typeIs slot_list_iter.lookup ?_)
  refine wpAny_pure ?_
  first | refine wp_ifn Bool.false_ne_true ?_ | refine bm_if_false rfl ?_ | simp only [Bool.false_eq_true, if_false]
  have h0 : ∃ o, s.heap.get? l = some o := let ⟨o, ho, _⟩ := hl; ⟨o, ho⟩
  refine wpAny_bind (wpAny_holding (wpAny_pyIter_list hl ?_))
  have hl1 := hl.push { cls := .type "list_iterator", data := .fields #[.ref l, .int 0 0] }
  refine wpAny_bind (wpAny_holding ?_)
  refine wpAny_bind (wpAny_pyNext_list_item ⟨_, Heap.get?_push_size _ rfl, rfl, rfl⟩ hl1 (x := a) rfl fun h₁ hi₁ hs₁ => ?_)
  have hl2 : h₁.IsList l #[a, b] := hl1.extBut hs₁.extBut hlt
  refine wpAny_bind (wpAny_holding (wpAny_bind (wpAny_pyNext_list_item hi₁ hl2 (x := b) rfl fun h₂ hi₂ hs₂ => ?_)))
  have hl3 : h₂.IsList l #[a, b] := hl2.extBut hs₂.extBut hlt
  refine wpAny_bind (wpAny_holding (wpAny_pure (wpAny_pure (wpAny_pure ?_))))
  show wpAny _ _ (if ([a, b] : List Value).length < 2 then _ else _) _ _ _
  rw [if_neg (by simp)]
  refine wpAny_bind (wpAny_holding (wpAny_pyNext_list_end hh hi₂ hl3 (by simp) fun h₃ he₃ => ?_))
  first | refine wp_ifn Bool.false_ne_true ?_ | refine bm_if_false rfl ?_ | simp only [Option.isSome_none, Bool.false_eq_true, if_false]
  exact wpAny_pure (hQ h₃ fun b o hb e => he₃ b o hb (hs₂.extBut b o hb (hs₁.extBut b o hb (Heap.get?_push_of_some _ e))))
/-- taking a list of two apart -/
theorem a_pairL {x y : Str} {p1 p2 pos : Pos} {k : Nat} {t : Addr} {a b : Value} {n : Nat} {p₀ : Addr × K} {Q : Unit → Shared → Prop} (F : St g s₀ ms (p₀ :: os) s) (hh : A.handled = none) (hL0 : s₀.heap.objs.size ≤ p₀.1) (ht : s.heap.get? t = some (listO [a, b] n))
    (h : ∀ s', St g s₀ ms (p₀ :: os) s' → Wp w A (storeName env x a) (fun _ s₁ => Wp w A (storeName env y b) Q E s₁) E s') : Wp w A (assign (.Tuple [.Name x p1, .Name y p2] k pos) env (.ref t)) Q E s := by
  rw [arm_assign_Tuple]
  refine Wp.bind (Wp.standAt ?_)
  show Wp w A (unpack (.ref t) [(false, assign (.Name x p1) env), (false, assign (.Name y p2) env)]) Q E s
  unfold unpack
  refine Wp.bind (Wp.holding (.of (unpack_list2 hh (listO_is ht) fun h' he => ?_)))
  have hk : ∀ c o, s.heap.get? c = some o → h'.get? c = some o := fun c o e => he c o (Nat.ne_of_lt (Heap.lt_size e)) e
  have F' := F.kept (s' := { s with heap := h' }) (L := p₀.1) (kL := p₀.2) (.head _) hL0 hk rfl rfl
  show Wp w A (do holding [b] (assign (.Name x p1) env a); do holding [] (assign (.Name y p2) env b); pure ()) Q E _
  refine Wp.bind (Wp.holding (x_name ((h _ F').imp fun _ s₁ h₁ => ?_)))
  exact Wp.bind (Wp.holding (x_name (h₁.imp fun _ s₂ h₂ => Wp.pure h₂)))
end
end
/-! MX35 -/
section
set_option hygiene false
theorem all_eq {xs ys : List Int} {n : Nat} (h1 : xs.length = n) (h2 : ys.length = n) : (List.range n).all (fun j => xs.getD j 0 == ys.getD j 0) = decide (xs = ys) := by
  rw [Bool.eq_iff_iff, List.all_eq_true, decide_eq_true_iff]
  constructor
  · intro h
    refine List.ext_getElem? fun i => ?_
    by_cases hi : i < n
    · have := h i (List.mem_range.mpr hi)
      rw [beq_iff_eq, List.getD_eq_getElem?_getD, List.getD_eq_getElem?_getD, List.getElem?_eq_getElem (Nat.lt_of_lt_of_le hi (Nat.le_of_eq (Eq.symm h1))), List.getElem?_eq_getElem (Nat.lt_of_lt_of_le hi (Nat.le_of_eq (Eq.symm h2)))] at this
      rw [List.getElem?_eq_getElem (Nat.lt_of_lt_of_le hi (Nat.le_of_eq (Eq.symm h1))), List.getElem?_eq_getElem (Nat.lt_of_lt_of_le hi (Nat.le_of_eq (Eq.symm h2)))]
      exact congrArg some this
    · rw [List.getElem?_eq_none (Nat.le_trans (Nat.le_of_eq h1) (Nat.le_of_not_lt hi)), List.getElem?_eq_none (Nat.le_trans (Nat.le_of_eq h2) (Nat.le_of_not_lt hi))]
  · rintro rfl j _
    exact beq_self_eq_true _
section
open PySem.SeqAt
variable {w : World} {A : Around} {E : Value → Shared → Prop} {g : Gd} {s₀ s : Shared} {ms : List Addr} {os : Os} {Q : Bool → Shared → Prop}
theorem ints_at {vs vs' : List Value} {xs ys : List Int} (h : Ints vs xs) (h' : Ints vs' ys) (j : Nat) (h1 : j < vs.toArray.size) (h2 : j < vs'.toArray.size) : EqAt A s vs.toArray[j] vs'.toArray[j] (xs.getD j 0 == ys.getD j 0) := by
  rw [List.size_toArray] at h1 h2
  obtain ⟨t, ht⟩ := h.get (i := j) (x := xs.getD j 0) (by rw [List.getD_eq_getElem?_getD, List.getElem?_eq_getElem (by rw [← h.length]; exact h1)]; rfl)
  obtain ⟨u, hu⟩ := h'.get (i := j) (x := ys.getD j 0) (by rw [List.getD_eq_getElem?_getD, List.getElem?_eq_getElem (by rw [← h'.length]; exact h2)]; rfl)
  rw [List.getElem?_eq_getElem h1] at ht
  rw [List.getElem?_eq_getElem h2] at hu
  rw [List.getElem_toArray, List.getElem_toArray, Option.some.inj ht, Option.some.inj hu]
  exact EqAt.int_int _ _ _ _
/-- lists of ints, equal or not -/
theorem c_leq {l b : Addr} {xs ys : List Int} (F : St g s₀ ms os s) (hl : Mem os l (.ints xs)) (hb : Mem os b (.ints ys)) (hu : A.units < cLine) (h : Q (decide (xs = ys)) s) : Wp w A (compareOp .Eq (.ref l) (.ref b)) (fun c s₃ => Wp w A (truthy c) Q E s₃) E s := by
  refine ex2 (F.mem hl) ?_; intro vs n hJ
  refine and2 hJ ?_; clear hJ; intro ho hi
  refine ex2 (F.mem hb) ?_; intro vs' n' hJ
  refine and2 hJ ?_; clear hJ; intro ho' hi'
  have e1 := hi.length
  have e2 := hi'.length
  by_cases hn : vs.length = vs'.length
  · refine .of (eq_listAt (listO_is ho) (listO_is ho') (by simpa using hn) hu (ints_at hi hi') (.of (wpAny_truthy_bool ?_)))
    rw [all_eq (by rw [List.size_toArray, e1]) (by rw [List.size_toArray, hn, e2])]
    exact h
  · refine .of (eq_list_lengthsAt (listO_is ho) (listO_is ho') (by simpa using hn) hu (.of (wpAny_truthy_bool ?_)))
    rwa [decide_eq_false (fun e => hn (by rw [e1, e2, e]))] at h
theorem c_lne {l b : Addr} {xs ys : List Int} (F : St g s₀ ms os s) (hl : Mem os l (.ints xs)) (hb : Mem os b (.ints ys)) (hu : A.units < cLine) (h : Q (!decide (xs = ys)) s) : Wp w A (compareOp .NotEq (.ref l) (.ref b)) (fun c s₃ => Wp w A (truthy c) Q E s₃) E s := by
  refine ex2 (F.mem hl) ?_; intro vs n hJ
  refine and2 hJ ?_; clear hJ; intro ho hi
  refine ex2 (F.mem hb) ?_; intro vs' n' hJ
  refine and2 hJ ?_; clear hJ; intro ho' hi'
  have e1 := hi.length
  have e2 := hi'.length
  by_cases hn : vs.length = vs'.length
  · refine .of (RcNeAt.lists (listO_is ho) (listO_is ho') (by simpa using hn) hu (ints_at hi hi') pw w _ _ (.of (wpAny_truthy_bool ?_)))
    rw [all_eq (by rw [List.size_toArray, e1]) (by rw [List.size_toArray, hn, e2])]
    exact h
  · refine .of (RcNeAt.lists_lengths (listO_is ho) (listO_is ho') (by simpa using hn) hu pw w _ _ (.of (wpAny_truthy_bool ?_)))
    rwa [decide_eq_false (fun e => hn (by rw [e1, e2, e]))] at h
end
end
/-! MX36 -/
section
set_option hygiene false
/-- a list that grows by append -/
structure Grow {α : Type} (κ : List α → K) (Elem : Value → α → Prop) : Prop where
  nil : ∀ h a, K.At h a (.list []) → K.At h a (κ [])
  app : ∀ {w : World} {A : Around} {g : Gd} {s₀ s : Shared} {ms : List Addr} {os os' : Os} {D : Addr} {xs : List α} {v : Value} {a : α} {Q : Value → Shared → Prop} {E : Value → Shared → Prop}, St g s₀ ms os s → Up os D (κ xs) (κ (xs ++ [a])) os' → Elem v a → xs.length ≤ 1000 → (∀ s', St g s₀ ms os' s' → Q .none s') → Wp w A (call (.builtin "list.append") [.ref D, v]) Q E s
theorem Ints.snoc {vs : List Value} {xs : List Int} (h : Ints vs xs) {x : Int} {t : Tok} : Ints (vs ++ [.int x t]) (xs ++ [x]) := by
  induction h with
  | nil => exact .cons ⟨t, rfl⟩ .nil
  | cons hv _ ih => exact .cons hv ih
theorem grow_strs : Grow .strs IsS := ⟨fun _ _ ⟨n, h⟩ => ⟨[], n, h, .nil⟩, fun F hu ⟨_, e⟩ hz h => e ▸ app_strs F hu hz h⟩
theorem grow_ints : Grow .ints IsI := ⟨fun _ _ ⟨n, h⟩ => ⟨[], n, h, .nil⟩, fun {w A g s₀ s ms os os' D xs v a Q E} F hu ⟨t, e⟩ hz h => by
  subst e
  refine ex2 ((F.at _ hu.mem : K.At s.heap D (.ints xs))) ?_; intro us n hJ
  refine and2 hJ ?_; clear hJ; intro ho hi
  obtain ⟨o1, u1, u2⟩ := hu.chg (.list us)
  obtain ⟨o2, u3, u4⟩ := u2.chg (.list (us ++ [.int a t]))
  exact app_list (F.turnU u1 (fun _ => ⟨n, ho⟩) fun _ => trivial) u3 (by rw [hi.length]; exact hz) fun s' F' => h s' (F'.turnU u4 (fun ⟨n, h⟩ => ⟨_, n, h, hi.snoc⟩) fun _ => trivial)⟩
theorem Up.pre {a : Addr} {k k' : K} {os os' : Os} (h : Up os a k k' os') : ∀ l : Os, Up (l ++ os) a k k' (l ++ os')
  | [] => h
  | _ :: l => .there (h.pre l)
section
variable {w : World} {A : Around} {g : Gd} {s₀ s : Shared} {ms : List Addr}
/-- the turns of a comprehension over one name -/
theorem comp_turns {α : Type} {κ : List α → K} {Elem : Value → α → Prop} (P : Grow κ Elem) {Item : Nat → Value → Prop} {kit : Nat → K} {cenv : Env} {elt : Expr} {ifs : List Expr} {x : Str} {tp : Pos} {D it : Addr} {pre : Option Value → Os} {T : Os} {Fin : Shared → Prop} (p : Nat → Bool) (f : Nat → α) (n : Nat) (hn : n ≤ 1000)
    (hself : ∀ i va s xs (Q : Value → Shared → Prop), St g s₀ ms (pre va ++ (D, κ xs) :: (it, kit i) :: T) s → Q (.ref it) s → Wp w A (pyIter (.ref it)) Q NoE s)
    (hnx : ∀ i va s xs (Q : Option Value → Shared → Prop), i ≤ n → St g s₀ ms (pre va ++ (D, κ xs) :: (it, kit i) :: T) s → (∀ v s', i < n → Item i v → St g s₀ ms (pre va ++ (D, κ xs) :: (it, kit (i + 1)) :: T) s' → Q (some v) s') → (∀ s', i = n → St g s₀ ms (pre va ++ (D, κ xs) :: T) s' → Q none s') → Wp w A (pyNext (.ref it)) Q NoE s)
    (hlet : ∀ i v, Item i v → letOwnedTupleGo (.Name x tp) (.ref it) v = pure ())
    (hst : ∀ v va s os (Q : Unit → Shared → Prop), St g s₀ ms (pre va ++ os) s → (∀ s', St g s₀ ms (pre (some v) ++ os) s' → Q () s') → Wp w A (assign (.Name x tp) cenv v) Q NoE s)
    (hifs : ∀ i v xs s (Q : Bool → Shared → Prop), i < n → Item i v → St g s₀ ms (pre (some v) ++ (D, κ xs) :: (it, kit (i + 1)) :: T) s → (∀ s', St g s₀ ms (pre (some v) ++ (D, κ xs) :: (it, kit (i + 1)) :: T) s' → Q (p i) s') → Wp w A (forIn ifs true fun c r => if r = true then do let ok ← isTrue c cenv (eval c cenv); pure (ForInStep.yield ok) else pure (ForInStep.yield r)) Q NoE s)
    (helt : ∀ i v xs s (Q : Value → Shared → Prop), i < n → Item i v → p i = true → St g s₀ ms (pre (some v) ++ (D, κ xs) :: (it, kit (i + 1)) :: T) s → (∀ u s', Elem u (f i) → St g s₀ ms (pre (some v) ++ (D, κ xs) :: (it, kit (i + 1)) :: T) s' → Q u s') → Wp w A (eval elt cenv) Q NoE s)
    (hend : ∀ va s, St g s₀ ms (pre va ++ (D, κ (((List.range n).filter p).map f)) :: T) s → Fin s)
    (F : St g s₀ ms (pre none ++ (D, .list []) :: (it, kit 0) :: T) s) :
    ∃ (I : Nat → Shared → Prop) (n : Nat), I n s ∧ (∀ n s, I n s → Wp w A (pyIter (.ref it)) (fun it' s' => it' = .ref it ∧ ∃ m, I m s') NoE s) ∧
      ∀ n s, I n s → ∀ J : Shared → Prop, (∀ m s₃, m < n → I m s₃ → J s₃) → Wp w A (pyNext (.ref it)) (fun r s₁ => match r with
        | none => Fin s₁
        | some v => Wp w A (letOwnedTupleGo (.Name x tp) (.ref it) v) (fun _ s₁' => Wp w A (assign (.Name x tp) cenv v) (fun _ s₂ =>
            Wp w A (forIn ifs true fun c r => if r = true then do let ok ← isTrue c cenv (eval c cenv); pure (ForInStep.yield ok) else pure (ForInStep.yield r)) (fun ok s₃ =>
              if ok then Wp w A (eval elt cenv) (fun x s₃ => Wp w A (call (.builtin "list.append") [.ref D, x]) (fun _ s₄ => J s₄) NoE s₃) NoE s₃ else J s₃) NoE s₂) NoE s₁') NoE s₁) NoE s := by
  refine ⟨fun m s => ∃ i va, i + m = n ∧ St g s₀ ms (pre va ++ (D, κ (((List.range i).filter p).map f)) :: (it, kit i) :: T) s, n, ⟨0, none, (add_sub' (Nat.le_add_left 0 n)), ?_⟩, ?_, ?_⟩
  · exact F.turnU (Up.pre (.here (k' := κ [])) _) (P.nil _ _) fun _ => trivial
  · intro m s hI2
    refine ex2 hI2 ?_; (try clear hI2); intro i va hJ
    refine and2 hJ ?_; clear hJ; intro hi F
    exact hself i va s _ _ F ⟨rfl, m, i, va, hi, F⟩
  · intro m s hI2 J hJ
    refine ex2 hI2 ?_; (try clear hI2); intro i va hJ
    refine and2 hJ ?_; clear hJ; intro hi F
    refine hnx i va s _ _ (Nat.le.intro hi) F (fun v s' hlt hv F' => ?_) (fun s' he F' => ?_)
    · refine Wp.val (hlet i v hv) (hst v va _ _ _ F' fun s₂ F2 => hifs i v _ _ _ hlt hv F2 fun s₃ F3 => ?_)
      have hl : (((List.range i).filter p).map f).length ≤ 1000 := by
        rw [List.length_map]
        refine Nat.le_trans (List.length_filter_le _ _) ?_
        rw [List.length_range]
        lia
      have hr : ((List.range (i + 1)).filter p).map f = ((List.range i).filter p).map f ++ if p i = true then [f i] else [] := by
        rw [List.range_succ, List.filter_append, List.map_append, List.filter_cons]
        split <;> simp
      cases hp : p i with
      | false =>
        rw [if_neg (by decide)]
        rw [hp, if_neg (by decide), List.append_nil] at hr
        exact hJ (m - 1) _ (pred_lt (in_of hi hlt)) ⟨i + 1, _, (step_eq hi hlt), by rw [hr]; exact F3⟩
      | true =>
        rw [if_pos rfl]
        rw [hp, if_pos rfl] at hr
        refine helt i v _ _ _ hlt hv hp F3 fun u s₄ hu F4 => ?_
        refine P.app F4 (Up.pre .here _) hu hl fun s₅ F5 => ?_
        exact hJ (m - 1) _ (pred_lt (in_of hi hlt)) ⟨i + 1, _, (step_eq hi hlt), by rw [hr]; exact F5⟩
    · subst he
      exact hend va _ F'
end
theorem Del.pre {a : Addr} {k : K} {os os' : Os} (h : Del os a k os') : ∀ l : Os, Del (l ++ os) a k (l ++ os')
  | [] => h
  | _ :: l => .there (h.pre l)
theorem Mem.pre {a : Addr} {k : K} {os : Os} (h : Mem os a k) : ∀ l : Os, Mem (l ++ os) a k
  | [] => h
  | _ :: l => .there (h.pre l)
/-- what a comprehension runs over -/
structure Kit (w : World) (A : Around) (g : Gd) (s₀ : Shared) (ms : List Addr) (T : Os) (n : Nat) (Item : Nat → Value → Prop) (kit : Nat → K) : Prop where
  self : ∀ {os : Os} {it : Addr} {i : Nat} {s : Shared} {Q : Value → Shared → Prop}, St g s₀ ms os s → Mem os it (kit i) → Q (.ref it) s → Wp w A (pyIter (.ref it)) Q NoE s
  nx : ∀ {it C : Addr} {kC : K} {i : Nat} {s : Shared} {Q : Option Value → Shared → Prop} {l : Os}, s₀.heap.objs.size ≤ it → s₀.heap.objs.size ≤ C → (C, kC) ∈ l → i ≤ n → St g s₀ ms (l ++ (it, kit i) :: T) s → (∀ v s', i < n → Item i v → St g s₀ ms (l ++ (it, kit (i + 1)) :: T) s' → Q (some v) s') → (∀ s', i = n → St g s₀ ms (l ++ T) s' → Q none s') → Wp w A (pyNext (.ref it)) Q NoE s
  go : ∀ {x : Str} {tp : Pos} {it : Addr} {i : Nat} {v : Value}, Item i v → letOwnedTupleGo (.Name x tp) (.ref it) v = pure ()
section
variable {w : World} {A : Around} {E : Value → Shared → Prop} {g : Gd} {s₀ s : Shared} {ms : List Addr} {T : Os} {n : Nat}
theorem kit_range (hh : A.handled = none) : Kit w A g s₀ ms T n (fun i v => IsI v i) (fun i => .riter i ((n - i : Nat) : Int) 1) where
  self F hm q := it_riter F hm q
  nx {it C kC i s Q l} hit hC hm hi F h1 h2 := by
    refine nx_range (kL := kC) F hh (List.mem_append_left _ hm) hC hit (Up.pre .here l) (Del.pre .here l) (fun h t s' F' => ?_) fun h s' F' => h2 s' (Nat.le_antisymm hi (Nat.le_of_sub_eq_zero (Nat.le_zero.mp (Int.ofNat_le.mp h)))) F'
    have hlt : i < n := Nat.lt_of_sub_pos (Int.ofNat_lt.mp h)
    refine h1 _ s' hlt ⟨t, rfl⟩ ?_
    rw [show ((n - (i + 1) : Nat) : Int) = ((n - i : Nat) : Int) - 1 from by rw [← cast_up hlt]; exact (Int.add_sub_cancel _ 1).symm]
    exact F'
  go := by rintro x tp it i v ⟨t, rfl⟩; rfl
theorem kit_ints {l : Addr} {xs : List Int} (hh : A.handled = none) (hl : Mem T l (.ints xs)) (hn : xs.length = n) : Kit w A g s₀ ms T n (fun i v => IsI v (xs.getD i 0)) (.liter l) where
  self F hm q := it_liter F hm q
  nx {it C kC i s Q L} hit hC hm hi F h1 h2 :=
    nx_ints (kL := kC) F hh (List.mem_append_left _ hm) hC hit (Mem.pre (.there hl) L) (Up.pre .here L) (Del.pre .here L) (fun h t s' F' => h1 _ s' (Nat.lt_of_lt_of_le h (Nat.le_of_eq hn)) ⟨t, rfl⟩ F') fun h s' F' => h2 s' (Nat.le_antisymm hi (Nat.le_trans (Nat.le_of_eq (Eq.symm hn)) h)) F'
  go := by rintro x tp it i v ⟨t, rfl⟩; rfl
theorem kit_strs {l : Addr} {xs : List Str} (hh : A.handled = none) (hl : Mem T l (.strs xs)) (hn : xs.length = n) : Kit w A g s₀ ms T n (fun i v => IsS v (xs.getD i Str.empty)) (.liter l) where
  self F hm q := it_liter F hm q
  nx {it C kC i s Q L} hit hC hm hi F h1 h2 := by
    refine ex2 (F.mem (Mem.pre (.there hl) L)) ?_; intro vs m hJ
    refine and2 hJ ?_; clear hJ; intro ho hs
    have hl := hs.length
    refine nx_list (kL := kC) F hh (List.mem_append_left _ hm) hC hit ho (Up.pre .here L) (Del.pre .here L) (fun v hv s' F' => ?_) fun h s' F' => h2 s' (Nat.le_antisymm hi (Nat.le_trans (Nat.le_of_eq (Eq.symm hn)) (Nat.le_trans (Nat.le_of_eq (Eq.symm hl)) h))) F'
    have hlt : i < vs.length := (List.getElem?_eq_some_iff.mp hv).1
    obtain ⟨t, ht⟩ := hs.get (i := i) (x := xs.getD i Str.empty) (by rw [List.getD_eq_getElem?_getD, List.getElem?_eq_getElem (Nat.lt_of_lt_of_le hlt (Nat.le_of_eq hl))]; rfl)
    rw [hv] at ht
    exact h1 v s' (Nat.lt_of_lt_of_le (Nat.lt_of_lt_of_le hlt (Nat.le_of_eq hl)) (Nat.le_of_eq hn)) ⟨t, Option.some.inj ht⟩ F'
  go := by rintro x tp it i v ⟨t, rfl⟩; rfl
/-- where a comprehension begins -/
noncomputable def First (w : World) (A : Around) (g : Gd) (s₀ : Shared) (ms : List Addr) (os : Os) (kit : Nat → K) (T : Os) (E : Value → Shared → Prop) (x : Value) (s : Shared) : Prop :=
  Wp w A (pyIter x) (fun v s' => ∃ it, v = .ref it ∧ s₀.heap.objs.size ≤ it ∧ St g s₀ ms (os ++ (it, kit 0) :: T) s') E s
theorem first_rng {p₀ : Addr × K} {t : Tok} (F : St g s₀ ms (p₀ :: T) s) (hn : n ≤ 1000) : Wp w A (call (.type "range") [.int n t]) (First w A g s₀ ms [p₀] (fun i => .riter i ((n - i : Nat) : Int) 1) T E) E s := by
  refine k_range1 F ?_; clear F; intro r u v s hr F
  refine it_rangeM F (.there .here) (small_of ⟨by decide, by decide⟩ ⟨i_lo, i_le (Nat.le_trans hn (lb rfl))⟩ ⟨by decide, by decide⟩) ?_; clear F; intro it s hit F
  replace F := F.drop (a := r) (.there (.there .here))
  have e : Builtin.Range.rangeSize 0 (n : Int) 1 = (n : Int) := by simp [Builtin.Range.rangeSize]; lia
  rw [e] at F
  exact ⟨it, rfl, hit, F⟩
end
section
variable {w : World} {A : Around} {E : Value → Shared → Prop} {g : Gd} {s₀ s : Shared} {ms : List Addr} {env : Env} {T : Os} {n : Nat} {α : Type} {κ : List α → K} {Elem : Value → α → Prop} {Item : Nat → Value → Prop} {kit : Nat → K}
  {elt iter : Expr} {x : Str} {tp : Pos} {ifs : List Expr} {scope : Scope} {pos ipos : Pos} {cl : List (Str × Addr)} {use : Option (Value → Sem Unit)} {first : Sem Value} {Q : Value → Shared → Prop} {p₀ : Addr × K}
inductive Shape : Os → Prop
  | mk (os : Os) : Shape os
theorem St.shape {os : Os} (_F : St g s₀ ms os s) : Shape os := .mk os
/-- a comprehension over one name -/
theorem comp_n (_sh : Shape (p₀ :: T)) (P : Grow κ Elem) (Ki : Kit w A g s₀ ms T n Item kit) (p : Nat → Bool) (f : Nat → α) (hn : n ≤ 1000)
    (hclos : closureFor scope env = pure cl) (hcell : scope.names.all (fun y => y.2 != .cell) = true) (hkind : scope.kind = .function) (hnames : scope.names.all (fun y => y.2 != .local || scope.names.lookup y.1 == some .local) = true)
    (hnl : [x].all (fun x => scope.names.lookup x == some .local && !(x == ("__debug__" : Str))) = true) (hg : env.globals = mainGlobals) (hbl : env.builtins = builtinsNs)
    (hfirst : Wp w A first (First w A g s₀ ms [p₀] kit T E) E s)
    (hifs : ∀ C D it i v xs s (Q : Bool → Shared → Prop), i < n → Item i v → En (compEnvC scope cl C env) C [x] → St g s₀ ms ((C, .ns [x] [some v]) :: p₀ :: (D, κ xs) :: (it, kit (i + 1)) :: T) s → (∀ s', St g s₀ ms ((C, .ns [x] [some v]) :: p₀ :: (D, κ xs) :: (it, kit (i + 1)) :: T) s' → Q (p i) s') →
      Wp w A (forIn ifs true fun c r => if r = true then do let ok ← isTrue c (compEnvC scope cl C env) (eval c (compEnvC scope cl C env)); pure (ForInStep.yield ok) else pure (ForInStep.yield r)) Q NoE s)
    (helt : ∀ C D it i v xs s (Q : Value → Shared → Prop), i < n → Item i v → p i = true → s₀.heap.objs.size ≤ C → En (compEnvC scope cl C env) C [x] → St g s₀ ms ((C, .ns [x] [some v]) :: p₀ :: (D, κ xs) :: (it, kit (i + 1)) :: T) s → (∀ u s', Elem u (f i) → St g s₀ ms ((C, .ns [x] [some v]) :: p₀ :: (D, κ xs) :: (it, kit (i + 1)) :: T) s' → Q u s') → Wp w A (eval elt (compEnvC scope cl C env)) Q NoE s)
    (hend : ∀ C D va s, s₀.heap.objs.size ≤ C → s₀.heap.objs.size ≤ D → St g s₀ ms ((C, .ns [x] [va]) :: p₀ :: (D, κ (((List.range n).filter p).map f)) :: T) s → CEnd w A g s₀ ms use D C Q E s)
    (hs : autoParam (∀ x, foldedSetIterable iter env x = pure x) tIrfl) :
    Wp w A (comprehension (.ListComp elt [⟨.Name x tp, iter, ifs, 0⟩] scope pos) scope env ipos (newList []) false first use) Q E s := by
  refine wp_comp (g := g) (s₀ := s₀) (ms := ms) [x] hclos hcell hkind hnames hnl (List.nodup_cons.mpr ⟨List.not_mem_nil, List.nodup_nil⟩) hg hbl (hfirst.imp fun y s₁ h₁ => h₁.imp ?_) hs
  intro itv s₂ hI2
  refine ex1 hI2 ?_; (try clear hI2); intro it hJ
  refine and3 hJ ?_; clear hJ; intro hR1 hit F
  subst hR1
  refine ⟨p₀, _, F, fun D C s₃ hD hC F ec => ?_⟩
  exact comp_turns P (pre := fun va => [(C, .ns [x] [va]), p₀]) p f n hn (fun i va s xs Q F q => Ki.self F (Mem.pre (.there .here) _) q)
    (fun i va s xs Q hi F h1 h2 => Ki.nx (l := [(C, .ns [x] [va]), p₀, (D, κ xs)]) hit hC (.head _) hi F h1 h2) (fun i v hv => Ki.go hv)
    (fun v va s os Q F h => x_name (s_loc F ec .here h)) (fun i v xs s Q hi hv F h => hifs C D it i v xs s Q hi hv ec F h) (fun i v xs s Q hi hv hp F h => helt C D it i v xs s Q hi hv hp hC ec F h) (fun va s F => hend C D va s hC hD F) F
/-- the same, the name in a cell -/
theorem comp_c {rest : List (Str × NameKind)} (_sh : Shape (p₀ :: T)) (P : Grow κ Elem) (Ki : Kit w A g s₀ ms T n Item kit) (p : Nat → Bool) (f : Nat → α) (hn : n ≤ 1000)
    (hclos : closureFor scope env = pure cl) (hsn : scope.names = ((".0" : Str), NameKind.local) :: (x, NameKind.cell) :: rest) (hr : rest.all (fun y => y.2 != .cell) = true) (hkind : scope.kind = .function) (hnames : scope.names.all (fun y => y.2 != .local || scope.names.lookup y.1 == some .local) = true)
    (hk : ∀ C, (compEnvC scope ((x, C + 1) :: cl) C env).kindOf x = some .cell) (hg : env.globals = mainGlobals) (hbl : env.builtins = builtinsNs)
    (hfirst : Wp w A first (First w A g s₀ ms [p₀] kit T E) E s)
    (hifs : ∀ C D it i v xs s (Q : Bool → Shared → Prop), i < n → Item i v → s₀.heap.objs.size ≤ C → En (compEnvC scope ((x, C + 1) :: cl) C env) C [] → St g s₀ ms ((C, .ns [] []) :: (C + 1, .cell (some v)) :: p₀ :: (D, κ xs) :: (it, kit (i + 1)) :: T) s → (∀ s', St g s₀ ms ((C, .ns [] []) :: (C + 1, .cell (some v)) :: p₀ :: (D, κ xs) :: (it, kit (i + 1)) :: T) s' → Q (p i) s') →
      Wp w A (forIn ifs true fun c r => if r = true then do let ok ← isTrue c (compEnvC scope ((x, C + 1) :: cl) C env) (eval c (compEnvC scope ((x, C + 1) :: cl) C env)); pure (ForInStep.yield ok) else pure (ForInStep.yield r)) Q NoE s)
    (helt : ∀ C D it i v xs s (Q : Value → Shared → Prop), i < n → Item i v → p i = true → s₀.heap.objs.size ≤ C → En (compEnvC scope ((x, C + 1) :: cl) C env) C [] → St g s₀ ms ((C, .ns [] []) :: (C + 1, .cell (some v)) :: p₀ :: (D, κ xs) :: (it, kit (i + 1)) :: T) s → (∀ u s', Elem u (f i) → St g s₀ ms ((C, .ns [] []) :: (C + 1, .cell (some v)) :: p₀ :: (D, κ xs) :: (it, kit (i + 1)) :: T) s' → Q u s') → Wp w A (eval elt (compEnvC scope ((x, C + 1) :: cl) C env)) Q NoE s)
    (hend : ∀ C D va s, s₀.heap.objs.size ≤ C → s₀.heap.objs.size ≤ D → St g s₀ ms ((C, .ns [] []) :: (C + 1, .cell va) :: p₀ :: (D, κ (((List.range n).filter p).map f)) :: T) s → CEnd w A g s₀ ms use D C Q E s)
    (hs : autoParam (∀ x, foldedSetIterable iter env x = pure x) tIrfl) :
    Wp w A (comprehension (.ListComp elt [⟨.Name x tp, iter, ifs, 0⟩] scope pos) scope env ipos (newList []) false first use) Q E s := by
  refine wp_compC (g := g) (s₀ := s₀) (ms := ms) [] hclos hsn hr hkind hnames rfl List.nodup_nil hg hbl (hfirst.imp fun y s₁ h₁ => h₁.imp ?_) hs
  intro itv s₂ hI2
  refine ex1 hI2 ?_; (try clear hI2); intro it hJ
  refine and3 hJ ?_; clear hJ; intro hR2 hit F
  subst hR2
  refine ⟨p₀, _, F, fun D C s₃ hD hC F ec => ?_⟩
  exact comp_turns P (pre := fun va => [(C, .ns [] []), (C + 1, .cell va), p₀]) p f n hn (fun i va s xs Q F q => Ki.self F (Mem.pre (.there .here) _) q)
    (fun i va s xs Q hi F h1 h2 => Ki.nx (l := [(C, .ns [] []), (C + 1, .cell va), p₀, (D, κ xs)]) hit hC (.head _) hi F h1 h2) (fun i v hv => Ki.go hv)
    (fun v va s os Q F h => x_name (s_cell (C + 1) F (.there .here) h hkind (hk C) (by show List.lookup x ((x, C + 1) :: cl) = _; simp))) (fun i v xs s Q hi hv F h => hifs C D it i v xs s Q hi hv hC ec F h) (fun i v xs s Q hi hv hp F h => helt C D it i v xs s Q hi hv hp hC ec F h) (fun va s F => hend C D va s hC hD F) F
end
section
variable {w : World} {A : Around} {E : Value → Shared → Prop} {g : Gd} {s₀ s : Shared} {ms : List Addr} {T : Os}
theorem first_list {l : Addr} {us : List Value} {m : Nat} {p₀ : Addr × K} (F : St g s₀ ms (p₀ :: T) s) (ho : s.heap.get? l = some (listO us m)) : First w A g s₀ ms [p₀] (.liter l) T E (.ref l) s :=
  it_list F ho fun it s' hit F => ⟨it, rfl, hit, F⟩
end
theorem flt_getD {α β : Type} (l : List α) (d : α) (q : α → Bool) (h : α → β) : ((List.range l.length).filter fun i => q (l.getD i d)).map (fun i => h (l.getD i d)) = (l.filter q).map h := by
  have e : (List.range l.length).map (fun i => l.getD i d) = l := by
    refine List.ext_getElem (by simp) fun i h1 h2 => ?_
    rw [List.getElem_map, List.getElem_range, List.getD_eq_getElem?_getD, List.getElem?_eq_getElem h2]
    rfl
  conv => rhs; rw [← e, List.filter_map, List.map_map]
  rfl
end
/-! MS16 -/
section
set_option hygiene false
/-- which places a pattern's kinds fit by their number -/
noncomputable def fitB (nm : List (List Nat)) (ks : List Nat) (star : Bool) (p : Nat) : Bool := decide ((nm.getD p []).length = ks.length) || (star && decide (ks.length < (nm.getD p []).length))
/-- and by their signs -/
noncomputable def okB (nm : List (List Nat)) (ks : List Nat) (p : Nat) : Bool := (List.range ks.length).all fun k => decide ((nm.getD p []).getD k 0 ∈ tks (ks.getD k 0))
noncomputable def fitL (nm : List (List Nat)) (ks : List Nat) (star : Bool) (n : Nat) : List Nat := (List.range n).filter (fitB nm ks star)
noncomputable def vlF (xs : List Int) (nm : List (List Nat)) (ks : List Nat) (star : Bool) : List Int := ((fitL nm ks star 15).filter (okB nm ks)).map fun p => xs.getD p 0
section
variable {w : World} {A : Around} {g : Gd} {σ : Shared}
theorem getD_some {α : Type} {l : List α} {d : α} {i : Nat} (h : i < l.length) : l[i]? = some (l.getD i d) := by
  rw [List.getD_eq_getElem?_getD, List.getElem?_eq_getElem h]
  rfl
theorem ok_nil (nm : List (List Nat)) (ks : List Nat) (p : Nat) : decide (((List.range ks.length).filter fun k => !decide ((nm.getD p []).getD k 0 ∈ tks (ks.getD k 0))).map (fun (k : Nat) => (k : Int)) = []) = okB nm ks p := by
  unfold okB
  rw [Bool.eq_iff_iff, decide_eq_true_iff, List.map_eq_nil_iff, List.filter_eq_nil_iff, List.all_eq_true]
  refine forall_congr' fun k => forall_congr' fun _ => ?_
  cases decide ((nm.getD p []).getD k 0 ∈ tks (ks.getD k 0)) <;> simp
theorem values_spec {ra na : Addr} {xs : List Int} {nm : List (List Nat)} {ks : List Nat} {star : Bool} {t : Tok} (I : Iv g σ) (hh : A.handled = none) (hA : A.depth + 8 < recursionLimit) (hU : A.units + 900 < cLine) (hks : ∀ k ∈ ks, k < 9) (hz : ks.length ≤ 20)
    (hr : K.At σ.heap ra (.ints xs)) (hn : K.At σ.heap na (.strs (nm.map oS))) (hne : ra ≠ na) (hrl : g.h₁.objs.size ≤ ra) (hnl : g.h₁.objs.size ≤ na) (hx : xs.length = 15) (hm : nm.length = 15) (hsm : ∀ l ∈ nm, l.length ≤ 10) :
    Spec w A (.ref (g.fa 26)) [.ref ra, .ref na, .str (oS (wrtL ks star)) t] σ (fun v s' => ∃ r : Nat, v = .ref r ∧ After g [] σ s' ∧ Iv g s' ∧ σ.heap.objs.size ≤ r ∧ K.At s'.heap r (.ints (vlF xs nm ks star))) := by
  refine ex2 hr ?_; (try clear hr); intro rs nr hJ
  refine and2 hJ ?_; clear hJ; intro hor hir
  refine ex2 hn ?_; (try clear hn); intro ns nn hJ
  refine and2 hJ ?_; clear hJ; intro hon hin
  have F0 : St g σ [] [(ra, .raw (listO rs nr)), (na, .raw (listO ns nn))] σ := .start I (by simpa [K.At] using ⟨hor, hon⟩) (by simpa using hne) (by simp [K.soft]) (by simpa using ⟨hrl, hnl⟩)
  refine enterC (i := 26) (dflt := .none) ["pattern", "fit"] [some (.str (oS (wrtL ks star)) t), none] [("row", some (.ref ra)), ("names", some (.ref na)), ("kept", none), ("star", none), ("size", none)] [("row", .ref ra), ("names", .ref na), ("pattern", .str (oS (wrtL ks star)) t)] I (u_lt hA) F0 (I.get (I.ok.fn 26 (by decide)).get (by rw [(I.ok.fn 26 (by decide)).data]; nofun)) (I.ok.fn 26 (by decide)).data (I.ok.fn 26 (by decide)).code (Wp.val (by first | rfl | kernel_rfl) ⟨rfl, rfl⟩) (by kernel_rfl) (by kernel_rfl) (by kernel_rfl) (fun L => by kernel_rfl) (by decide +kernel) (by decide +kernel) (by decide +kernel) (by decide +kernel) ?_
  intro L s hL F e J hJ
  have hhh : (A.deeper (g.envC 26 L)).handled = none := hh
  have hdd : (A.deeper (g.envC 26 L)).depth + 7 < recursionLimit := by show A.depth + 1 + 7 < _; exact hA
  have huu : (A.deeper (g.envC 26 L)).units < cLine := by show A.units + 3 < cLine; exact d_lt hU (lb rfl)
  generalize A.deeper (g.envC 26 L) = B at *
  replace F : St g σ [] [(L, .ns ["pattern", "fit"] [some (.str (oS (wrtL ks star)) t), none]), (L + 1, .cell (some (.ref ra))), (L + 2, .cell (some (.ref na))), (L + 3, .cell none), (L + 4, .cell none), (L + 5, .cell none), (ra, .raw (listO rs nr)), (na, .raw (listO ns nn))] s := F
  refine x_astup (e_call1 (e_fn 25 F e (e_call1 (e_fn 5 F e ?_))))
  (refine' e_loc F e ?_ ?_; rotate_left 1; (focus (repeat (first | with_reducible exact At2.here | apply At2.there))))
  refine cw_fn F.inv (by decide) (translate_spec F.inv hhh (d_lt hdd (lb rfl)) hks hz) ?_
  intro v s hI2
  refine ex1 hI2 ?_; (try clear hI2); intro t' hJ
  refine and3 hJ ?_; clear hJ; intro hR1 ha hi
  subst hR1
  replace F := F.after0 ha hi
  refine cw_fn F.inv (by decide) (lawread_spec F.inv hhh (d_lt hdd (lb rfl)) hks hz) ?_
  intro v s hI2
  refine ex3 hI2 ?_; (try clear hI2); intro r kr n hJ
  refine and7 hJ ?_; clear hJ; intro hR2 ha hi hr hg hkr hk
  subst hR2
  replace F := F.got ha hi hk hkr
  refine a_pairL F hhh hL hg ?_
  clear F; intro s F
  refine s_cell (L + 3) F (.there (.there (.there (.there .here)))) ?_
  clear F; intro s F
  refine s_cell (L + 4) F (.there (.there (.there (.there (.there .here))))) ?_
  clear F; intro s F
  refine x_as (e_call1 ?_)
  (refine' e_bi F e ?_ ?_; rotate_left 1; with_reducible constructor)
  refine e_cell (L + 3) F (.there (.there (.there (.there .here)))) ?_
  refine cw_bi (len_strs F (.there .here) (by rw [List.length_map]; exact Nat.lt_of_le_of_lt hz (lb rfl)) ?_)
  clear F; intro ts s F
  rw [List.length_map]
  refine s_cell (L + 5) F (.there (.there (.there (.there (.there (.there .here)))))) ?_
  clear F; intro s F
  have hnm : ∀ i, i < 15 → ∃ t, ns[i]? = some (.str (oS (nm.getD i [])) t) := fun i hi => hin.get (by rw [List.getElem?_map, List.getD_eq_getElem?_getD, List.getElem?_eq_getElem (Nat.lt_of_lt_of_le hi (Nat.le_of_eq (Eq.symm hm)))]; rfl)
  have hnl : ∀ i, (nm.getD i []).length ≤ 10 := fun i => by
    rw [List.getD_eq_getElem?_getD]
    cases h : nm[i]? with
    | none => exact Nat.zero_le _
    | some l => exact hsm l (List.mem_of_getElem? h)
  have hnsl : ns.length = 15 := by rw [hin.length, List.length_map, hm]
  refine x_aslc (comp_n (g := g) (s₀ := σ) (ms := []) (n := 15) (cl := [("star", L + 4), ("size", L + 5), ("names", L + 2)]) F.shape grow_ints (kit_range hhh) (fitB nm ks star) (fun i => (i : Int)) (by decide) (by rfl) (by decide +kernel) (by rfl) (by decide +kernel) (by decide +kernel) rfl rfl ?_ ?_ ?_ ?_)
  · refine e_call1 ?_
    (refine' e_bi F e ?_ ?_; rotate_left 1; with_reducible constructor)
    (refine e_int F ?_; clear F; intro tk s F)
    exact cw_ty (first_rng F (by decide))
  · clear F s
    intro C D it i v acc s Q hi hv e F hq
    refine ex1 hv ?_; (try clear hv); intro ti hR3
    subst hR3
    obtain ⟨tn, htn⟩ := hnm i hi
    refine ifs1 (t_or (t_cmp (e_call1 ?_)))
    (refine' e_bi F e ?_ ?_; rotate_left 1; with_reducible constructor)
    refine e_sub ?_
    refine e_cell (L + 2) F (by (focus (repeat (first | with_reducible exact Mem.here | apply Mem.there)))) ?_
    refine e_loc F e .here ?_
    refine sub_list (F.mem (os := _) (by (focus (repeat (first | with_reducible exact Mem.here | apply Mem.there))) : Mem _ na (.raw (listO ns nn)))) (Int.natCast_nonneg i) (Nat.le_trans (Nat.le_of_eq hnsl) (lb rfl)) (v := .str (oS (nm.getD i [])) tn) (by rw [Int.toNat_natCast, htn]) ?_
    refine cw_bi (len_str' F (by rw [oS_len]; have := hnl i; exact Nat.le_trans this (lb rfl)) ?_)
    rw [oS_len]
    clear F; intro tq s F
    refine e_cell (L + 5) F (by (focus (repeat (first | with_reducible exact Mem.here | apply Mem.there)))) ?_
    refine c_eq ?_
    by_cases h1 : (nm.getD i []).length = ks.length
    · rw [fitB, decide_eq_true h1, Bool.true_or] at hq
      first | refine br_y (by rw [beq_iff_eq.mpr (by rw [h1])]) ?_ | refine if_y (by rw [beq_iff_eq.mpr (by rw [h1])]) ?_ | rw [beq_iff_eq.mpr (by rw [h1]), if_pos rfl]
      exact hq _ F
    · rw [fitB, decide_eq_false h1, Bool.false_or] at hq
      first | refine br_n (by rw [beq_eq_false_iff_ne.mpr (by lia)]) ?_ | refine if_n (by rw [beq_eq_false_iff_ne.mpr (by lia)]) ?_ | rw [beq_eq_false_iff_ne.mpr (by lia), if_neg (by decide)]
      refine t_and (t_val ?_)
      refine e_cell (L + 4) F (by (focus (repeat (first | with_reducible exact Mem.here | apply Mem.there)))) ?_
      refine tr_bool ?_
      cases star with
      | false =>
        first | refine br_n rfl ?_ | refine if_n rfl ?_ | rw [if_neg (by decide)]
        exact hq _ F
      | true =>
        first | refine br_y rfl ?_ | refine if_y rfl ?_ | rw [if_pos rfl]
        rw [Bool.true_and] at hq
        refine t_cmp (e_call1 ?_)
        (refine' e_bi F e ?_ ?_; rotate_left 1; with_reducible constructor)
        refine e_sub ?_
        refine e_cell (L + 2) F (by (focus (repeat (first | with_reducible exact Mem.here | apply Mem.there)))) ?_
        refine e_loc F e .here ?_
        refine sub_list (F.mem (os := _) (by (focus (repeat (first | with_reducible exact Mem.here | apply Mem.there))) : Mem _ na (.raw (listO ns nn)))) (Int.natCast_nonneg i) (Nat.le_trans (Nat.le_of_eq hnsl) (lb rfl)) (v := .str (oS (nm.getD i [])) tn) (by rw [Int.toNat_natCast, htn]) ?_
        refine cw_bi (len_str' F (by rw [oS_len]; have := hnl i; exact Nat.le_trans this (lb rfl)) ?_)
        rw [oS_len]
        clear F; intro tq s F
        refine e_cell (L + 5) F (by (focus (repeat (first | with_reducible exact Mem.here | apply Mem.there)))) ?_
        refine c_gt ?_
        rw [show decide ((ks.length : Int) < ((nm.getD i []).length : Int)) = decide (ks.length < (nm.getD i []).length) from decide_eq_decide.mpr Int.ofNat_lt]
        exact hq _ F
  · clear F s
    intro C D it i v acc s Q hi hv hp hC e F hq
    refine e_loc F e .here (hq _ _ hv F)
  · clear F s
    intro C D va s hC hD F
    replace F := F.swap
    show Wp w B (assign _ _ (.ref D)) _ _ s
    refine x_name ?_
    (refine' s_loc F e ?_ ?_; rotate_left 1; (focus (repeat (first | with_reducible exact Up2.here | apply Up2.there))); clear F; intro s F)
    refine ⟨_, _, _, F.swap, ?_⟩
    clear F s; intro s F
    have hfl : (((List.range 15).filter (fitB nm ks star)).map (fun (i : Nat) => (i : Int))).length ≤ 15 := by
      rw [List.length_map]
      exact List.length_filter_le _ _
    change St g σ [] ((L, _) :: (D, .ints ((fitL nm ks star 15).map fun (i : Nat) => (i : Int))) :: _) s at F
    generalize hfit : fitL nm ks star 15 = ft at F
    refine ex2 (F.mem (.there .here)) ?_; intro fs nf hJ
    refine and2 hJ ?_; clear hJ; intro hof hif
    have hfd : ∀ i v, i < ft.length → IsI v ((ft.map fun (i : Nat) => (i : Int)).getD i 0) → IsI v ((ft.getD i 0 : Nat) : Int) ∧ ft.getD i 0 < 15 ∧ ks.length ≤ (nm.getD (ft.getD i 0) []).length := fun i v hi hv => by
      have hg : (ft.map fun (i : Nat) => (i : Int)).getD i 0 = ((ft.getD i 0 : Nat) : Int) := by
        rw [List.getD_eq_getElem?_getD, List.getElem?_map, List.getD_eq_getElem?_getD, List.getElem?_eq_getElem hi]
        rfl
      rw [hg] at hv
      have hmem : ft.getD i 0 ∈ fitL nm ks star 15 := by
        rw [hfit, List.getD_eq_getElem?_getD, List.getElem?_eq_getElem hi]
        exact List.getElem_mem hi
      obtain ⟨m1, m2⟩ := List.mem_filter.mp hmem
      refine ⟨hv, List.mem_range.mp m1, ?_⟩
      unfold fitB at m2
      simp only [Bool.or_eq_true, Bool.and_eq_true, decide_eq_true_eq] at m2
      lia
    refine x_ret (e_lc (comp_c (g := g) (s₀ := σ) (ms := []) (n := ft.length) (cl := [("size", L + 5), ("row", L + 1), ("names", L + 2), ("kept", L + 3)]) F.shape grow_ints (kit_ints hhh .here (by rw [List.length_map])) (fun i => okB nm ks (ft.getD i 0)) (fun i => xs.getD (ft.getD i 0) 0) (by rw [← hfit]; refine Nat.le_trans (List.length_filter_le _ _) ?_; decide) (by rfl) rfl (by decide +kernel) (by rfl) (by decide +kernel) (fun C => by kernel_rfl) rfl rfl ?_ ?_ ?_ ?_))
    · (refine' e_loc F e ?_ ?_; rotate_left 1; (focus (repeat (first | with_reducible exact At2.here | apply At2.there))))
      exact first_list F hof
    · clear F s hof
      intro C D2 it i v acc s Q hi hv hC e F hq
      obtain ⟨⟨tv, rfl⟩, hp, hl⟩ := hfd i v hi hv
      generalize ft.getD i 0 = p at *
      refine ifs1 (t_cmp (e_lc (comp_n (g := g) (s₀ := σ) (ms := []) (n := ks.length) (cl := [("place", C + 1), ("names", L + 2), ("kept", L + 3)]) F.shape grow_ints (kit_range hhh) (fun k => !decide ((nm.getD p []).getD k 0 ∈ tks (ks.getD k 0))) (fun k => (k : Int)) (Nat.le_trans hz (lb rfl)) (by rfl) (by decide +kernel) (by rfl) (by decide +kernel) (by decide +kernel) rfl rfl ?_ ?_ ?_ ?_)))
      · refine e_call1 ?_
        (refine' e_bi F e ?_ ?_; rotate_left 1; with_reducible constructor)
        refine e_cell (L + 5) F (by (focus (repeat (first | with_reducible exact Mem.here | apply Mem.there)))) ?_
        exact cw_ty (first_rng F (Nat.le_trans hz (lb rfl)))
      · clear F s hq
        intro C2 D3 it2 k v acc2 s Q2 hk hv e2 F hq
        refine ex1 hv ?_; (try clear hv); intro tk hR4
        subst hR4
        obtain ⟨tn, htn⟩ := hnm p hp
        refine ifs1 (t_cmp (e_sub (e_sub ?_)))
        refine e_cell (L + 2) F (by (focus (repeat (first | with_reducible exact Mem.here | apply Mem.there)))) ?_
        refine e_cell (C + 1) F (by (focus (repeat (first | with_reducible exact Mem.here | apply Mem.there)))) ?_
        refine sub_list (F.mem (os := _) (by (focus (repeat (first | with_reducible exact Mem.here | apply Mem.there))) : Mem _ na (.raw (listO ns nn)))) (Int.natCast_nonneg p) (Nat.le_trans (Nat.le_of_eq hnsl) (lb rfl)) (v := .str (oS (nm.getD p [])) tn) (by rw [Int.toNat_natCast, htn]) ?_
        refine e_loc F e2 .here ?_
        refine sub_s F (k := k) (c := (nm.getD p []).getD k 0) rfl (getD_some (Nat.lt_of_lt_of_le hk hl)) (by have := hnl p; exact Nat.le_trans this (lb rfl)) ?_
        clear F; intro tc s F
        refine e_sub ?_
        refine e_cell (L + 3) F (by (focus (repeat (first | with_reducible exact Mem.here | apply Mem.there)))) ?_
        refine e_loc F e2 .here ?_
        refine sub_strs F (by (focus (repeat (first | with_reducible exact Mem.here | apply Mem.there)))) (Int.natCast_nonneg k) (by rw [List.length_map]; exact i_lt hk) (by rw [List.length_map]; exact Nat.le_trans hz (lb rfl)) fun t3 => ?_
        rw [Int.toNat_natCast, show (ks.map fun k => oS (tks k)).getD k Str.empty = oS (tks (ks.getD k 0)) by rw [List.getD_eq_getElem?_getD, List.getElem?_map, List.getD_eq_getElem?_getD, List.getElem?_eq_getElem hk]; rfl]
        exact c_snin (hq _ F)
      · clear F s hq
        intro C2 D3 it2 k v acc2 s Q2 hk hv _ _ e2 F hq
        exact e_loc F e2 .here (hq _ _ hv F)
      · clear F s
        intro C2 D3 va s hC2 hD3 F
        refine (exi3 _ _ _ ⟨F, ?_⟩)
        clear F s; intro s F
        refine e_list (sp_nil ⟨by simp, _, _, _, _, _, F, ?_⟩); clear F; intro D4 s hD4 F
        replace F := F.to_ints (xs := []) .nil
        refine c_leq F (.there (.there .here)) (.there .here) huu ?_
        rw [ok_nil]
        replace F := F.drop (a := D4) (.there .here)
        replace F := F.drop (a := D3) (.there .here)
        exact hq _ F
    · clear F s hof
      intro C D2 it i v acc s Q hi hv _ hC e F hq
      obtain ⟨⟨tv, rfl⟩, hp, hl⟩ := hfd i v hi hv
      refine e_sub ?_
      refine e_cell (L + 1) F (by (focus (repeat (first | with_reducible exact Mem.here | apply Mem.there)))) ?_
      refine e_cell (C + 1) F (by (focus (repeat (first | with_reducible exact Mem.here | apply Mem.there)))) ?_
      refine sub_raw F (by (focus (repeat (first | with_reducible exact Mem.here | apply Mem.there))) : Mem _ ra (.raw (listO rs nr))) hir (Int.natCast_nonneg (List.getD ft i 0)) (i_lt (Nat.lt_of_lt_of_le hp (Nat.le_of_eq (Eq.symm hx)))) (Nat.le_trans (Nat.le_of_eq hx) (lb rfl)) fun t5 => ?_
      rw [Int.toNat_natCast]
      exact hq _ _ ⟨_, rfl⟩ F
    · clear F s hof
      intro C D2 va s hC hD2 F
      refine (exi3 _ _ _ ⟨F, ?_⟩)
      clear F s; intro s F
      replace F := F.drop (a := C + 1) .here
      have hk2 := F.at _ (.tail _ (.head _))
      rw [flt_getD ft 0 (okB nm ks) fun p => xs.getD p 0, ← hfit] at hk2
      exact hJ _ _ ⟨_, rfl, _, rfl, F.aft, F.inv, hD2, hk2⟩
end
end
/-! MX37 -/
section
set_option hygiene false
section
variable {w : World} {A : Around} {E : Value → Shared → Prop} {g : Gd} {s₀ s : Shared} {ms : List Addr} {os os' : Os} {env : Env}
/-- sum of a list of ints -/
theorem k_sum {l : Addr} {xs : List Int} {p₀ : Addr × K} {Q : Value → Shared → Prop} (hh : A.handled = none) (F : St g s₀ ms (p₀ :: os) s) (hL0 : s₀.heap.objs.size ≤ p₀.1) (hm : Mem (p₀ :: os) l (.ints xs)) (h : ∀ t s', St g s₀ ms (p₀ :: os) s' → Q (.int xs.sum t) s') : Wp w A (call (.builtin "sum") [.ref l]) Q E s := by
  refine ex2 (F.mem hm) ?_; intro vs n hJ
  refine and2 hJ ?_; clear hJ; intro ho hi
  have hi := hi.are
  obtain ⟨ys, hy⟩ := hi.allInts.items
  have hn : ys.toList.map (·.1) = xs := by rw [← nums_intItems, ← hy, show vs.toArray.toList = vs from rfl, hi.numsOf]
  refine .of (sum_intListG (xs := ys) hh (hy ▸ listO_is ho) fun h' tk t' hk => ?_)
  rw [preSum_eq, List.take_of_length_le (by simp), hn]
  exact h t' _ (F.kept (L := p₀.1) (kL := p₀.2) (s' := { s with heap := h', toks := tk }) (.head _) hL0 hk rfl rfl)
/-- the least of a list of ints -/
theorem k_min1 {l : Addr} {xs : List Int} {p₀ : Addr × K} {Q : Value → Shared → Prop} (hh : A.handled = none) (F : St g s₀ ms (p₀ :: os) s) (hL0 : s₀.heap.objs.size ≤ p₀.1) (hm : Mem (p₀ :: os) l (.ints xs)) (hz : 0 < xs.length) {M : Int} (hM : M ∈ xs) (hle : ∀ a ∈ xs, M ≤ a) (h : ∀ t s', St g s₀ ms (p₀ :: os) s' → Q (.int M t) s') : Wp w A (call (.builtin "min") [.ref l]) Q E s := by
  refine ex2 (F.mem hm) ?_; intro vs n hJ
  refine and2 hJ ?_; clear hJ; intro ho hi
  have hi := hi.are
  obtain ⟨ys, hy⟩ := hi.allInts.items
  have hn : ys.toList.map (·.1) = xs := by rw [← nums_intItems, ← hy, show vs.toArray.toList = vs from rfl, hi.numsOf]
  have hsz : ys.toList.length = xs.length := by rw [← hn, List.length_map]
  rw [Array.length_toList] at hsz
  refine .of (min_intList (xs := ys) hh (hy ▸ listO_is ho) (Nat.lt_of_lt_of_le hz (Nat.le_of_eq (Eq.symm hsz))) fun v h' tk hv hk => ?_)
  refine ex1 (intItems_at hv) ?_; intro t hR1
  subst hR1
  obtain ⟨h1, h2⟩ := argBest_lt (numAt ys) (ys.size - 1)
  have e : numAt ys (argBest (fun i j => decide (numAt ys i < numAt ys j)) (ys.size - 1)) = M := by
    refine Int.le_antisymm ?_ ?_
    · rw [← hn] at hM
      refine ex1 (mem_getD hM) ?_; intro j hJ
      refine and2 hJ ?_; clear hJ; intro hj hR2
      subst hR2
      rw [List.length_map, Array.length_toList] at hj
      rw [← numAt_eq]
      exact h2 j (Nat.le_sub_one_of_lt hj)
    · refine hle _ ?_
      rw [← hn, numAt_eq]
      exact getD_mem (by rw [List.length_map, Array.length_toList]; exact Nat.lt_of_le_of_lt h1 (pred_lt (Nat.lt_of_lt_of_le hz (Nat.le_of_eq (Eq.symm hsz)))))
  rw [e]
  exact h t _ (F.kept (L := p₀.1) (kL := p₀.2) (s' := { s with heap := h', toks := tk }) (.head _) hL0 hk rfl rfl)
/-- an int in a list of ints -/
theorem c_inl {l : Addr} {xs : List Int} {k : Int} {t : Tok} {Q : Bool → Shared → Prop} (F : St g s₀ ms os s) (hm : Mem os l (.ints xs)) (h : Q (decide (k ∈ xs)) s) : Wp w A (compareOp .In (.int k t) (.ref l)) (fun c s₃ => Wp w A (truthy c) Q E s₃) E s := by
  refine ex2 (F.mem hm) ?_; intro vs n hJ
  refine and2 hJ ?_; clear hJ; intro ho hi
  refine .of (in_list_ints (listO_is ho) hi.are (.of (wpAny_truthy_bool ?_)))
  rw [show (xs.any (· == k)) = decide (k ∈ xs) by rw [Bool.eq_iff_iff]; simp]
  exact h
/-- x or y, as a value -/
theorem e_or {x y : Expr} {pos : Pos} {Q : Value → Shared → Prop} (h : Wp w A (eval x env) (fun v s₁ => Wp w A (truthy v) (fun b s₂ => if b then Q v s₂ else Wp w A (eval y env) Q E s₂) E s₁) E s) : Wp w A (eval (.BoolOp .Or [x, y] pos) env) Q E s := by
  rw [arm_eval_BoolOp]
  show Wp w A (do let v ← eval x env; standAt pos; let t ← holding [v] (truthy v); match BoolOp.Or, t with | .And, false | .Or, true => pure v | _, _ => boolOp pos .Or [eval y env]) Q E s
  refine Wp.bind (h.imp fun v s₁ h₁ => Wp.bind (Wp.standAt (Wp.bind (Wp.holding (h₁.imp fun b s₂ h₂ => ?_)))))
  cases b with
  | true => exact Wp.pure h₂
  | false => exact h₂
/-- text.index(..) of a text that is there -/
theorem k_index1 {x y : Str} {t u : Tok} {i : Nat} {rest : List Nat} {Q : Value → Shared → Prop} (F : St g s₀ ms os s) (ho : PySem.Builtin.Str.occurrences x y 0 x.length 1 = i :: rest) (h : ∀ t s', St g s₀ ms os s' → Q (.int i t) s') : Wp w A (call (.builtin "str.index") [.str x t, .str y u]) Q E s :=
  .of (call_gives PySem.F.slot_str_index (typeIs_str _ _ _) PySem.F.entry_str_index (PySem.F.args_str_index_2 _ _) (gives_str_index x y t u i rest ho) (h _ _ (F.tick _)))
/-- list.index(..) of a text that is there -/
theorem k_lindex {l : Addr} {vs : List Value} {n : Nat} {xs : List Str} {x : Str} {t : Tok} {j : Nat} {Q : Value → Shared → Prop} (F : St g s₀ ms os s) (ho : s.heap.get? l = some (listO vs n)) (hi : Strs vs xs) (hz : xs.length ≤ 1000) (hj : xs[j]? = some x) (hno : ∀ m, m < j → xs[m]? ≠ some x) (h : ∀ t s', St g s₀ ms os s' → Q (.int j t) s') : Wp w A (call (.builtin "list.index") [.ref l, .str x t]) Q E s := by
  have hl := hi.length
  have hj' : j < xs.length := (List.getElem?_eq_some_iff.mp hj).1
  have hat : ∀ m (hm : m < vs.toArray.size), ∃ u, vs.toArray[m] = .str (xs.getD m Str.empty) u := fun m hm => by
    rw [List.size_toArray] at hm
    obtain ⟨u, hu⟩ := hi.get (i := m) (x := xs.getD m Str.empty) (by rw [List.getD_eq_getElem?_getD, List.getElem?_eq_getElem (Nat.lt_of_lt_of_le hm (Nat.le_of_eq hl))]; rfl)
    rw [List.getElem?_eq_getElem hm] at hu
    exact ⟨u, by rw [List.getElem_toArray]; exact Option.some.inj hu⟩
  refine .of (call_meets PySem.F.slot_list_index ⟨_, ho, rfl⟩ PySem.F.entry_list_index (PySem.F.args_list_index_2 _ _) (PySem.MeetsSeq.list_index l vs.toArray n (.str x t) (fun y => match y with | .str z _ => z == x | _ => false) (fun y hy => ?_) j (by rw [List.size_toArray]; exact Nat.lt_of_lt_of_le hj' (Nat.le_of_eq (Eq.symm hl))) (by lia) ?_ fun m hm hlt => ?_) ⟨ho, h _ _ (F.tick _)⟩)
  · obtain ⟨m, hm, rfl⟩ := Array.getElem_of_mem hy
    obtain ⟨u, hu⟩ := hat m hm
    rw [hu]
    exact eqGives_str _ _ _ _
  · obtain ⟨u, hu⟩ := hat j (by rw [List.size_toArray]; exact Nat.lt_of_lt_of_le hj' (Nat.le_of_eq (Eq.symm hl)))
    rw [hu]
    show (xs.getD j Str.empty == x) = true
    rw [List.getD_eq_getElem?_getD, hj]
    exact beq_self_eq_true x
  · obtain ⟨u, hu⟩ := hat m hm
    rw [hu]
    show (xs.getD m Str.empty == x) = false
    rw [beq_eq_false_iff_ne]
    intro e
    rw [List.size_toArray] at hm
    refine hno m hlt ?_
    rw [← e, List.getD_eq_getElem?_getD, List.getElem?_eq_getElem (Nat.lt_of_lt_of_le hm (Nat.le_of_eq hl))]
    rfl
end
end
/-! MX38 -/
section
set_option hygiene false
theorem Ints.take {vs : List Value} {xs : List Int} (h : Ints vs xs) : ∀ k, Ints (vs.take k) (xs.take k) := by
  induction h with
  | nil => intro k; rw [List.take_nil, List.take_nil]; exact .nil
  | cons hv _ ih =>
    intro k
    cases k with
    | zero => exact .nil
    | succ k => exact .cons hv (ih k)
theorem Ints.drop {vs : List Value} {xs : List Int} (h : Ints vs xs) : ∀ k, Ints (vs.drop k) (xs.drop k) := by
  induction h with
  | nil => intro k; rw [List.drop_nil, List.drop_nil]; exact .nil
  | cons hv hr ih =>
    intro k
    cases k with
    | zero => exact .cons hv hr
    | succ k => exact ih k
/-- an item put in -/
noncomputable def insF (xs : List Int) (k : Nat) (y : Int) : List Int := xs.take k ++ y :: xs.drop k
section
variable {w : World} {A : Around} {E : Value → Shared → Prop} {g : Gd} {s₀ s : Shared} {ms : List Addr} {os os' : Os} {env : Env}
theorem upd_get {l : Addr} {us us' : List Value} {n : Nat} {f : Array Value → Array Value} (ho : s.heap.get? l = some (listO us n)) (hf : (f us.toArray).toList = us') : ∃ n', (s.heap.update l (Obj.mapSeq f)).get? l = some (listO us' n') := by
  have e : f us.toArray = us'.toArray := by rw [← hf]
  obtain ⟨n', hd⟩ := Obj.data_mapSeq (o := listO us n) rfl f
  refine ⟨n', ?_⟩
  rw [Heap.get?_update_self _ ho (Obj.isFreed_of_seq hd)]
  rw [e] at hd
  congr 1
  have h1 : ((listO us n).mapSeq f).cls = .type "list" := Obj.cls_mapSeq _ _
  have h2 : ((listO us n).mapSeq f).dict = none := rfl
  have h3 : ((listO us n).mapSeq f).slots = #[] := rfl
  revert h1 h2 h3 hd
  generalize (listO us n).mapSeq f = o
  obtain ⟨c, d, dt, sl⟩ := o
  rintro rfl rfl rfl rfl
  rfl
theorem k_insert {l : Addr} {xs : List Int} {k : Nat} {x y : Int} {u v : Tok} {Q : Value → Shared → Prop} (F : St g s₀ ms os s) (hu : Up os l (.ints xs) (.ints (insF xs k y)) os') (hx : x = k) (hk : k ≤ xs.length) (hz : xs.length ≤ 1000) (h : ∀ s', St g s₀ ms os' s' → Q .none s') : Wp w A (call (.builtin "list.insert") [.ref l, .int x u, .int y v]) Q E s := by
  refine ex2 ((F.at _ hu.mem : K.At s.heap l (.ints xs))) ?_; intro vs n hJ
  refine and2 hJ ?_; clear hJ; intro ho hi
  have hl := hi.length
  have hz1 : vs.toArray.size ≤ sizeLine := by
    rw [List.size_toArray]
    refine Nat.le_trans (Nat.le_of_eq hl) (Nat.le_trans hz (by decide +kernel))
  have hc : ¬(!Builtin.List.listFitsIndex x) = true := by simp [Builtin.List.listFitsIndex]; lia
  have M := PySem.AutoListH.list_insert_list_int_int_1 l vs.toArray n x u y v hc hz1
  refine .of (call_meets PySem.F.slot_list_insert ⟨_, ho, rfl⟩ PySem.F.entry_list_insert (PySem.F.args_list_insert_3 _ _ _) M ⟨ho, h _ ?_⟩)
  refine F.update hu (Heap.SameBut.update ..) ?_ rfl rfl
  obtain ⟨n', hn'⟩ := upd_get (us' := vs.take k ++ .int y v :: vs.drop k) (f := fun xs => have k : Nat := if x < 0 then (x + ((xs.size : Nat) : Int)).toNat else min x.toNat xs.size; (xs.extract 0 k).push (Value.int y v) ++ xs.extract k) ho (by
    have e : (if x < 0 then (x + ((vs.toArray.size : Nat) : Int)).toNat else min x.toNat vs.toArray.size) = k := by
      rw [if_neg (Int.not_lt_of_ge (Int.le_trans (Int.natCast_nonneg k) (Int.le_of_eq (Eq.symm hx)))), List.size_toArray, hx, hl]
      exact Nat.min_eq_left hk
    show ((vs.toArray.extract 0 _).push (Value.int y v) ++ vs.toArray.extract _).toList = _
    rw [e]
    simp [List.take_of_length_le])
  exact ⟨_, n', hn', (hi.take k).append (.cons ⟨v, rfl⟩ (hi.drop k))⟩
end
section
open PySem.SeqAt
variable {w : World} {A : Around} {E : Value → Shared → Prop} {g : Gd} {s₀ s : Shared} {ms : List Addr} {os os' : Os} {env : Env} {L : Addr} {nl : List Str}
theorem b_smul {n : Nat} {t u : Tok} {Q : Value → Shared → Prop} (F : St g s₀ ms os s) (hn : n < 3) (h : ∀ t s', St g s₀ ms os s' → Q (.str (oS (List.replicate n 63)) t) s') : Wp w A (binaryOp .Mult (.str (oS [63]) t) (.int n u)) Q E s := by
  match n, hn with
  | 0, _ => exact .of (PySem.P.mul_str_none (by decide) (by decide) (h _ _ (F.tick _)))
  | 1, _ => exact .of (PySem.P.mul_str (by decide) (fun _ e => absurd e (by decide)) (fun _ e => absurd e (by decide)) (h _ _ F))
  | 2, _ => exact .of (PySem.P.mul_str (by decide) (fun _ _ => by decide) (fun _ _ => by decide +kernel) ⟨by decide +kernel, h _ _ (F.tick _)⟩)
theorem e_ns {x : Str} {p : Pos} {Q : Value → Shared → Prop} (F : St g s₀ ms os s) (e : En env L nl) (q : Q (.ref (g.fa 21)) s) (hx : autoParam (fnName (stmtAt 21) = x) tRfl) (hk : autoParam (env.kindOf x = some .globalImplicit) tKrfl) (hd : autoParam ((x == ("__debug__" : Str)) = false) tKrfl) : Wp w A (eval (.Name x p) env) Q E s :=
  e_glo F e hk hd (hx ▸ F.inv.ok.nsm) q
theorem cw_ns {args : List Value} {P : Value → Shared → Prop} {Q : Value → Shared → Prop} (I : Iv g s) (h : Spec w A (.ref (g.fa 21)) args s P) (hq : ∀ v s', P v s' → Q v s') : Cw w A (.ref (g.fa 21)) args Q E s := by
  refine ⟨⟨_, I.get I.ok.nsg (by rw [I.ok.nsd]; nofun), .inl ⟨_, I.ok.nsd⟩⟩, Wp.call (Cd.mono h fun r s' hr => ?_)⟩
  refine ex1 hr ?_; (try clear hr); intro v hJ
  refine and2 hJ ?_; clear hJ; intro hR1 hp
  subst hR1
  exact hq v s' hp
theorem strs_at {vs vs' : List Value} {xs : List Str} (h : Strs vs xs) (h' : Strs vs' xs) (j : Nat) (h1 : j < vs.toArray.size) (h2 : j < vs'.toArray.size) : EqAt A s vs.toArray[j] vs'.toArray[j] true := by
  rw [List.size_toArray] at h1 h2
  obtain ⟨t, ht⟩ := h.get (i := j) (x := xs.getD j Str.empty) (getD_some (by rw [← h.length]; exact h1))
  obtain ⟨u, hu⟩ := h'.get (i := j) (x := xs.getD j Str.empty) (getD_some (by rw [← h.length]; exact h1))
  rw [List.getElem?_eq_getElem h1] at ht
  rw [List.getElem?_eq_getElem h2] at hu
  rw [List.getElem_toArray, List.getElem_toArray, Option.some.inj ht, Option.some.inj hu]
  have := EqAt.str_str (A := A) (s := s) (xs.getD j Str.empty) t (xs.getD j Str.empty) u
  rwa [beq_self_eq_true] at this
/-- [texts, True] against [the same texts, True] -/
theorem c_lne2 {r r2 a b : Addr} {n n2 : Nat} {xs : List Str} {Q : Bool → Shared → Prop} (F : St g s₀ ms os s) (hr : s.heap.get? r = some (listO [.ref a, .bool true] n)) (hr2 : s.heap.get? r2 = some (listO [.ref b, .bool true] n2)) (ha : Mem os a (.strs xs)) (hb : Mem os b (.strs xs)) (hne : a ≠ b) (hu : A.units + 100 < cLine) (q : Q false s) :
    Wp w A (compareOp .NotEq (.ref r) (.ref r2)) (fun c s₃ => Wp w A (truthy c) Q E s₃) E s := by
  refine ex2 (F.mem ha) ?_; intro vs m hJ
  refine and2 hJ ?_; clear hJ; intro ho hi
  refine ex2 (F.mem hb) ?_; intro vs' m' hJ
  refine and2 hJ ?_; clear hJ; intro ho' hi'
  have hl : vs.length = vs'.length := by rw [hi.length, hi'.length]
  have hs : RcAt A.in1 s (.ref a) (.ref b) ((List.range vs.toArray.size).all fun _ => true) := RcAt.lists (listO_is ho) (listO_is ho') (by simpa using hl) (by show A.units + _ < _; exact d_lt hu (lb rfl)) fun j h1 h2 => strs_at hi hi' j h1 h2
  rw [show ((List.range vs.toArray.size).all fun _ => true) = true by simp] at hs
  refine .of (RcNeAt.lists (e := fun _ => true) (listO_is hr) (listO_is hr2) rfl (u_lt hu) (fun j h1 h2 => ?_) pw w _ _ (.of (wpAny_truthy_bool ?_)))
  · match j, h1 with
    | 0, _ => exact EqAt.of_refs hne hs
    | 1, _ => exact EqAt.bool_bool true true
  · exact q
end
section
variable {w : World} {A : Around} {E : Value → Shared → Prop} {g : Gd} {s₀ s : Shared} {ms : List Addr} {os : Os}
theorem b_modp {a b : Int} {t u : Tok} {Q : Value → Shared → Prop} (F : St g s₀ ms os s) (hb : 0 < b) (h : ∀ t s', St g s₀ ms os s' → Q (.int (a % b) t) s') : Wp w A (binaryOp .Mod (.int a t) (.int b u)) Q E s :=
  b_mod F (by lia) (by rw [Int.fmod_eq_emod_of_nonneg _ (by lia)]; exact h)
theorem tr_ints {l : Addr} {xs : List Int} {Q : Bool → Shared → Prop} (F : St g s₀ ms os s) (hm : Mem os l (.ints xs)) (hz : xs.length ≤ 1000) (h : ∀ s', St g s₀ ms os s' → Q (decide (xs ≠ [])) s') : Wp w A (truthy (.ref l)) Q E s := by
  refine ex2 (F.mem hm) ?_; intro vs n hJ
  refine and2 hJ ?_; clear hJ; intro ho hi
  have hl := hi.length
  refine tr_list F ho (Nat.le_trans (Nat.le_of_eq hl) hz) fun s' F' => ?_
  rw [show decide (vs ≠ []) = decide (xs ≠ []) from decide_eq_decide.mpr (by rw [← List.length_pos_iff, ← List.length_pos_iff, hl])]
  exact h s' F'
end
section
variable {w : World} {A : Around} {E : Value → Shared → Prop} {g : Gd} {s₀ s : Shared} {ms : List Addr} {env : Env} {L : Addr} {nl : List Str}
/-- a for over a kit: the turns' names and ledgers told by P -/
theorem x_forN {x : Str} {tp pos : Pos} {iter : Expr} {body rest : List Stmt} {Q : Flow → Shared → Prop} {n : Nat} {Item : Nat → Value → Prop} {kit : Nat → K} {vs : List (Option Value)} {T : Os} (_F : St g s₀ ms ((L, .ns nl vs) :: T) s) (P : Nat → List (Option Value) → Os → Prop)
    (hL : s₀.heap.objs.size ≤ L) (Ki : ∀ i vs T, P i vs T → Kit w A g s₀ ms T n Item kit) (h0 : P 0 vs T)
    (hfirst : Wp w A (eval iter env) (First w A g s₀ ms [(L, .ns nl vs)] kit T E) E s)
    (turn : ∀ i vs T it s v, i < n → P i vs T → Item i v → St g s₀ ms ((L, .ns nl vs) :: (it, kit (i + 1)) :: T) s → ∀ J : Shared → Prop, (∀ vs' T' s', P (i + 1) vs' T' → St g s₀ ms ((L, .ns nl vs') :: (it, kit (i + 1)) :: T') s' → J s') →
      Wp w A (storeName env x v) (fun _ s₂ => Wp w A (execs body env) (Lp J (fun s₃ => Wp w A (execs rest env) Q E s₃) Q) NoE s₂) NoE s)
    (done : ∀ vs T s, P n vs T → St g s₀ ms ((L, .ns nl vs) :: T) s → Wp w A (execs rest env) Q E s)
    (hs : autoParam (∀ x, foldedSetIterable iter env x = pure x) tIrfl) : Wp w A (execs (.For (.Name x tp) iter body [] pos :: rest) env) Q E s := by
  refine x_for (hfirst.imp fun y s₁ h₁ => h₁.imp ?_) (fun _ _ => rfl) hs
  intro itv s₂ hI2
  refine ex1 hI2 ?_; (try clear hI2); intro it hJ
  refine and3 hJ ?_; clear hJ; intro hR2 hit F
  subst hR2
  refine ⟨fun m s => ∃ i vs T, i + m = n ∧ P i vs T ∧ St g s₀ ms ((L, .ns nl vs) :: (it, kit i) :: T) s, n, ⟨0, vs, T, (add_sub' (Nat.le_add_left 0 n)), h0, F⟩, ?_⟩
  intro m s hI2 J hJ
  refine ex3 hI2 ?_; (try clear hI2); intro i vs T hJ
  refine and3 hJ ?_; clear hJ; intro hi hP F
  refine (Ki i vs T hP).nx (l := [(L, .ns nl vs)]) hit hL (.head _) (Nat.le.intro hi) F (fun v s' hlt hv F' => ?_) fun s' he F' => ?_
  · exact x_name (turn i vs T it s' v hlt hP hv F' J fun vs' T' s'' hP' F'' => hJ (m - 1) _ (pred_lt (in_of hi hlt)) ⟨i + 1, vs', T', (step_eq hi hlt), hP', F''⟩)
  · subst he
    exact done vs T s' hP F'
/-- the same over a list that the head makes -/
theorem x_forS {x : Str} {tp pos : Pos} {iter : Expr} {body rest : List Stmt} {Q : Flow → Shared → Prop} {n : Nat} {Item : Nat → Value → Prop} {kit : Addr → Nat → K} (P : Addr → Nat → List (Option Value) → Os → Prop)
    (hL : s₀.heap.objs.size ≤ L) (Ki : ∀ S i vs T, P S i vs T → Kit w A g s₀ ms T n Item (kit S))
    (hfirst : Wp w A (eval iter env) (fun v s₁ => Wp w A (pyIter v) (fun itv s₂ => ∃ S it vs T, itv = .ref it ∧ s₀.heap.objs.size ≤ it ∧ P S 0 vs T ∧ St g s₀ ms ((L, .ns nl vs) :: (it, kit S 0) :: T) s₂) E s₁) E s)
    (turn : ∀ S i vs T it s v, i < n → P S i vs T → Item i v → St g s₀ ms ((L, .ns nl vs) :: (it, kit S (i + 1)) :: T) s → ∀ J : Shared → Prop, (∀ vs' T' s', P S (i + 1) vs' T' → St g s₀ ms ((L, .ns nl vs') :: (it, kit S (i + 1)) :: T') s' → J s') →
      Wp w A (storeName env x v) (fun _ s₂ => Wp w A (execs body env) (Lp J (fun s₃ => Wp w A (execs rest env) Q E s₃) Q) NoE s₂) NoE s)
    (done : ∀ S vs T s, P S n vs T → St g s₀ ms ((L, .ns nl vs) :: T) s → Wp w A (execs rest env) Q E s)
    (hs : autoParam (∀ x, foldedSetIterable iter env x = pure x) tIrfl) : Wp w A (execs (.For (.Name x tp) iter body [] pos :: rest) env) Q E s := by
  refine x_for (hfirst.imp fun y s₁ h₁ => h₁.imp ?_) (fun _ _ => rfl) hs
  intro itv s₂ hI2
  refine ex4 hI2 ?_; (try clear hI2); intro S it vs T hJ
  refine and4 hJ ?_; clear hJ; intro hR3 hit h0 F
  subst hR3
  refine ⟨fun m s => ∃ i vs T, i + m = n ∧ P S i vs T ∧ St g s₀ ms ((L, .ns nl vs) :: (it, kit S i) :: T) s, n, ⟨0, vs, T, (add_sub' (Nat.le_add_left 0 n)), h0, F⟩, ?_⟩
  intro m s hI2 J hJ
  refine ex3 hI2 ?_; (try clear hI2); intro i vs T hJ
  refine and3 hJ ?_; clear hJ; intro hi hP F
  refine (Ki S i vs T hP).nx (l := [(L, .ns nl vs)]) hit hL (.head _) (Nat.le.intro hi) F (fun v s' hlt hv F' => ?_) fun s' he F' => ?_
  · exact x_name (turn S i vs T it s' v hlt hP hv F' J fun vs' T' s'' hP' F'' => hJ (m - 1) _ (pred_lt (in_of hi hlt)) ⟨i + 1, vs', T', (step_eq hi hlt), hP', F''⟩)
  · subst he
    exact done S vs T s' hP F'
end
end
/-! MP0 -/
section
set_option hygiene false
/-! the law's words, without a program -/
noncomputable def nmL : List (List Nat) := [[], [97], [98], [97, 97], [97, 98], [98, 97], [98, 98], [97, 97, 97], [97, 97, 98], [97, 98, 97], [97, 98, 98], [98, 97, 97], [98, 97, 98], [98, 98, 97], [98, 98, 98]]
theorem nm_acc : nmAcc 7 = nmL.map oS := by decide +kernel
/-- a name, its signs flipped -/
noncomputable def flN (f : List Nat) (l : List Nat) : List Nat := (List.range l.length).map fun k => if (l.getD k 0 - 97 + f.getD k 0) % 2 = 0 then 97 else 98
noncomputable def piF (f : List Nat) (p : Nat) : Nat := nmL.idxOf (flN f (nmL.getD p []))
/-- the row as seen through the flips -/
noncomputable def tuF (f : List Nat) (pl : List Int) : List Int := (List.range 15).map fun p => pl.getD (piF f p) 0
noncomputable def Fl (f : List Nat) : Prop := f ∈ [[0, 0, 0], [0, 0, 1], [0, 1, 0], [0, 1, 1], [1, 0, 0], [1, 0, 1], [1, 1, 0], [1, 1, 1]]
noncomputable def flp (f : List Nat) (d : Nat) : List Nat := f.set d (1 - f.getD d 0)
structure Pl (pl : List Int) : Prop where
  len : pl.length = 15
  nod : pl.Nodup
  byt : ∀ x ∈ pl, 0 ≤ x ∧ x < 256
noncomputable def Hp (pl : List Int) : Prop := ∀ i, 1 ≤ i → i < 15 → pl.getD ((i - 1) / 2) 0 ≤ pl.getD i 0
/-- the row, built from the numbers -/
noncomputable def bdF (ns : List Int) : Nat → List Int
  | 0 => []
  | k + 1 => insF (bdF ns k) ((ns.getD (k % ns.length) 0) % ((k + 1 : Nat) : Int)).toNat (13 * k + 2)
/-- the kinds as the flips change them -/
noncomputable def chK (f : List Nat) (ks : List Nat) : List Nat := (List.range ks.length).map fun k => if f.getD k 0 = 1 then [1, 0, 2, 3, 5, 4, 6, 7, 8].getD (ks.getD k 0) 0 else ks.getD k 0
/-- the places near the roots -/
noncomputable def nrF (xs : List Int) (ks : List Nat) : Nat → List Int
  | 0 => []
  | m + 1 => nrF xs ks m ++ vlF xs nmL (ks ++ List.replicate m 2) false
theorem tuF_len (f : List Nat) (pl : List Int) : (tuF f pl).length = 15 := by rw [tuF, List.length_map, List.length_range]
theorem bd_len (ns : List Int) : ∀ k, (bdF ns k).length = k
  | 0 => rfl
  | k + 1 => by
    have hl := bd_len ns k
    rw [bdF, insF, List.length_append, List.length_cons, List.length_take, List.length_drop, hl, ← Nat.add_assoc]
    refine congrArg (· + 1) ?_
    generalize (ns.getD (k % ns.length) 0 % ((k + 1 : Nat) : Int)).toNat = q
    rcases Nat.le_total q k with h | h
    · rw [Nat.min_eq_left h, Nat.add_sub_of_le h]
    · rw [Nat.min_eq_right h, Nat.sub_eq_zero_of_le h, Nat.add_zero]
/-- the flips so far -/
noncomputable def fiF (f : List Nat) (i : Nat) : List Nat := (List.range 3).map fun d => if d < i then f.getD d 0 else 0
theorem fi_step : ∀ f ∈ [[0, 0, 0], [0, 0, 1], [0, 1, 0], [0, 1, 1], [1, 0, 0], [1, 0, 1], [1, 1, 0], [1, 1, 1]], ∀ i < 3, (f.getD i 0 = 1 → flp (fiF f i) i = fiF f (i + 1)) ∧ (f.getD i 0 ≠ 1 → fiF f (i + 1) = fiF f i) ∧ fiF f i ∈ [[0, 0, 0], [0, 0, 1], [0, 1, 0], [0, 1, 1], [1, 0, 0], [1, 0, 1], [1, 1, 0], [1, 1, 1]] ∧ fiF f 3 = f := by decide
/-- the flips that a total tells -/
noncomputable def flF (t : Int) : List Nat := (List.range 3).map fun d => (t / 2 ^ d % 2).toNat
theorem fl_of (t : Int) : Fl (flF t) := by
  have h : ∀ x : Int, (x % 2).toNat = 0 ∨ (x % 2).toNat = 1 := fun x => by lia
  show [(t / 2 ^ 0 % 2).toNat, (t / 2 ^ 1 % 2).toNat, (t / 2 ^ 2 % 2).toNat] ∈ _
  rcases h (t / 2 ^ 0) with a | a <;> rcases h (t / 2 ^ 1) with b | b <;> rcases h (t / 2 ^ 2) with c | c <;> rw [a, b, c] <;> decide
noncomputable def csI (f : List Nat) : List Int := f.map fun (n : Nat) => (n : Int)
theorem csI_get (f : List Nat) (i : Nat) : (csI f).getD i 0 = ((f.getD i 0 : Nat) : Int) := by
  rw [csI, List.getD_eq_getElem?_getD, List.getElem?_map, List.getD_eq_getElem?_getD]
  cases f[i]? <;> rfl
theorem fl_len : ∀ f ∈ [[0, 0, 0], [0, 0, 1], [0, 1, 0], [0, 1, 1], [1, 0, 0], [1, 0, 1], [1, 1, 0], [1, 1, 1]], f.length = 3 := by decide
theorem csI_len {f : List Nat} (h : Fl f) : (csI f).length = 3 := by rw [csI, List.length_map]; exact fl_len f h
noncomputable def cntF (pl : List Int) (a : Int) : Nat := (pl.filter fun x => decide (a ≤ x)).length
theorem cnt_lt (a : Int) : ∀ pl : List Int, a ∈ pl → cntF pl (a + 1) < cntF pl a := by
  have mono : ∀ pl : List Int, cntF pl (a + 1) ≤ cntF pl a := by
    intro pl
    induction pl with
    | nil => exact Nat.le_refl _
    | cons x r ih =>
      unfold cntF at *
      rw [List.filter_cons, List.filter_cons]
      by_cases h : a + 1 ≤ x
      · rw [if_pos (by simpa using h), if_pos (by simp; exact Int.le_trans (Int.le_add_one (Int.le_refl a)) h), List.length_cons, List.length_cons]
        exact Nat.succ_le_succ ih
      · rw [if_neg (by simpa using h)]
        split
        · rw [List.length_cons]; exact Nat.le_succ_of_le ih
        · exact ih
  intro pl
  induction pl with
  | nil => intro h; cases h
  | cons x r ih =>
    intro h
    have m := mono r
    unfold cntF at *
    rw [List.filter_cons, List.filter_cons]
    rcases List.mem_cons.mp h with rfl | h
    · rw [if_neg (by simp; lia), if_pos (by simp), List.length_cons]
      exact Nat.lt_succ_of_le m
    · have := ih h
      by_cases h : a + 1 ≤ x
      · rw [if_pos (by simpa using h), if_pos (by simp; exact Int.le_trans (Int.le_add_one (Int.le_refl a)) h), List.length_cons, List.length_cons]
        exact Nat.succ_lt_succ this
      · rw [if_neg (by simpa using h)]
        split
        · rw [List.length_cons]; exact Nat.lt_succ_of_lt this
        · exact this
theorem csI_flp : ∀ f ∈ [[0, 0, 0], [0, 0, 1], [0, 1, 0], [0, 1, 1], [1, 0, 0], [1, 0, 1], [1, 1, 0], [1, 1, 1]], ∀ d < 3, (csI f).set d (1 - ((f.getD d 0 : Nat) : Int)) = csI (flp f d) := by decide
end
/-! MP1 -/
section
set_option hygiene false
/-! the plain law, 1: heaps seen through the flips -/
theorem gset (xs : List Int) (i j : Nat) (v : Int) (h : i < xs.length) : (xs.set i v).getD j 0 = if i = j then v else xs.getD j 0 := by
  rw [List.getD_eq_getElem?_getD, List.getElem?_set, List.getD_eq_getElem?_getD]
  by_cases e : i = j
  · rw [if_pos e, if_pos e, if_pos (e ▸ h)]; rfl
  · rw [if_neg e, if_neg e]
/-- the place of the smaller side below -/
noncomputable def chF (xs : List Int) (p : Nat) : Nat := if 2 * p + 2 < xs.length ∧ ¬ xs.getD (2 * p + 1) 0 < xs.getD (2 * p + 2) 0 then 2 * p + 2 else 2 * p + 1
theorem suDown_ch (xs : List Int) (p : Nat) : suDown xs p = if 2 * p + 1 < xs.length then suDown (xs.set p (xs.getD (chF xs p) 0)) (chF xs p) else (xs, p) := by
  rw [suDown_eq, chF]
  split
  · split <;> rfl
  · rfl
theorem ch_is (xs : List Int) (p : Nat) (h : 2 * p + 1 < xs.length) : chF xs p < xs.length ∧ (chF xs p = 2 * p + 1 ∨ chF xs p = 2 * p + 2) ∧ ∀ i, (i = 2 * p + 1 ∨ i = 2 * p + 2) → i < xs.length → xs.getD (chF xs p) 0 ≤ xs.getD i 0 := by
  unfold chF
  split
  · rename_i h2
    refine ⟨h2.1, .inr rfl, ?_⟩
    rintro i (rfl | rfl) _ <;> lia
  · rename_i h2
    refine ⟨h, .inl rfl, ?_⟩
    rintro i (rfl | rfl) h3
    · lia
    · have : xs.getD (2 * p + 1) 0 < xs.getD (2 * p + 2) 0 := Decidable.byContradiction fun h4 => h2 ⟨h3, h4⟩
      lia
theorem h_ch {c a : Nat} (h : c = 2 * a + 1 ∨ c = 2 * a + 2) : (c - 1) / 2 = a := by
  rcases h with rfl | rfl
  · exact Nat.mul_div_cancel_left a (by decide)
  · exact (Nat.mul_add_div (by decide) a 1).trans rfl
theorem ch_lt {c a : Nat} (h : c = 2 * a + 1 ∨ c = 2 * a + 2) : a < c := by
  rcases h with rfl | rfl
  · exact lt_ch1
  · exact lt_ch2
theorem h_par {i : Nat} (h : 1 ≤ i) : i = 2 * ((i - 1) / 2) + 1 ∨ i = 2 * ((i - 1) / 2) + 2 := by lia
/-- two ways down, side by side -/
theorem suDown_sim {n : Nat} (R : List Int → Nat → List Int → Nat → Prop)
    (hl : ∀ xs a ys b, R xs a ys b → xs.length = n ∧ ys.length = n ∧ (2 * a + 1 < n ↔ 2 * b + 1 < n))
    (step : ∀ xs a ys b, R xs a ys b → 2 * a + 1 < n → 2 * b + 1 < n → R (xs.set a (xs.getD (chF xs a) 0)) (chF xs a) (ys.set b (ys.getD (chF ys b) 0)) (chF ys b)) :
    ∀ m xs a ys b, n - a ≤ m → R xs a ys b → R (suDown xs a).1 (suDown xs a).2 (suDown ys b).1 (suDown ys b).2 ∧ n ≤ 2 * (suDown xs a).2 + 1 := by
  intro m
  induction m with
  | zero =>
    intro xs a ys b hm hR
    refine and3 (hl _ _ _ _ hR) ?_; intro h1 h2 h3
    have hna : n ≤ a := Nat.le_of_sub_eq_zero (Nat.le_zero.mp hm)
    have h5 : ¬ 2 * a + 1 < n := Nat.not_lt.mpr (Nat.le_trans hna (Nat.le_of_lt lt_ch1))
    rw [suDown_ch xs, suDown_ch ys, if_neg (h1 ▸ h5), if_neg (fun q => h5 (h3.mpr (h2 ▸ q)))]
    exact ⟨hR, Nat.not_lt.mp h5⟩
  | succ m ih =>
    intro xs a ys b hm hR
    refine and3 (hl _ _ _ _ hR) ?_; intro h1 h2 h3
    rw [suDown_ch xs, suDown_ch ys]
    by_cases h : 2 * a + 1 < n
    · rw [if_pos (h1 ▸ h), if_pos (h2 ▸ h3.mp h)]
      have hc := (ch_is xs a (Nat.lt_of_lt_of_le h (Nat.le_of_eq (Eq.symm h1)))).2.1
      exact ih _ _ _ _ (Nat.le_of_lt_succ (Nat.lt_of_lt_of_le (Nat.sub_lt_sub_left (Nat.lt_of_lt_of_le (ch_lt (.inl rfl)) (Nat.le_of_lt h)) (ch_lt hc)) hm)) (step _ _ _ _ hR h (h3.mp h))
    · rw [if_neg (h1 ▸ h), if_neg (fun q => h (h3.mpr (h2 ▸ q)))]
      exact ⟨hR, Nat.not_lt.mp h⟩
/-- one way down -/
theorem suDown_ind {n : Nat} (M : List Int → Nat → Prop) (hl : ∀ xs a, M xs a → xs.length = n)
    (step : ∀ xs a, M xs a → 2 * a + 1 < n → M (xs.set a (xs.getD (chF xs a) 0)) (chF xs a)) (xs : List Int) (a : Nat) (h : M xs a) : M (suDown xs a).1 (suDown xs a).2 ∧ n ≤ 2 * (suDown xs a).2 + 1 := by
  have := suDown_sim (n := n) (fun xs a ys b => (xs = ys ∧ a = b) ∧ M xs a) (fun xs a ys b h => by
      obtain ⟨⟨rfl, rfl⟩, h⟩ := h
      exact ⟨hl _ _ h, hl _ _ h, Iff.rfl⟩) (fun xs a ys b h h1 _ => by
      obtain ⟨⟨rfl, rfl⟩, h⟩ := h
      exact ⟨⟨rfl, rfl⟩, step _ _ h h1⟩) (n - a) xs a xs a (Nat.le_refl _) ⟨⟨rfl, rfl⟩, h⟩
  exact ⟨this.1.2, this.2⟩
/-- two ways up -/
theorem sdF_sim {x : Int} {sp sq : Nat} (R : List Int → Nat → List Int → Nat → Prop)
    (hc : ∀ xs a ys b, R xs a ys b → (sp < a ↔ sq < b) ∧ (sp < a → xs.getD ((a - 1) / 2) 0 = ys.getD ((b - 1) / 2) 0))
    (step : ∀ xs a ys b, R xs a ys b → sp < a → sq < b → x < xs.getD ((a - 1) / 2) 0 → R (xs.set a (xs.getD ((a - 1) / 2) 0)) ((a - 1) / 2) (ys.set b (ys.getD ((b - 1) / 2) 0)) ((b - 1) / 2)) :
    ∀ m xs a ys b, a ≤ m → R xs a ys b → ∃ xs' a' ys' b', R xs' a' ys' b' ∧ sdF x sp xs a = xs'.set a' x ∧ sdF x sq ys b = ys'.set b' x ∧ (sp < a' → xs'.getD ((a' - 1) / 2) 0 ≤ x) := by
  intro m
  induction m with
  | zero =>
    intro xs a ys b hm hR
    obtain ⟨h1, h2⟩ := hc _ _ _ _ hR
    refine ⟨xs, a, ys, b, hR, ?_, ?_, fun h => by lia⟩
    · rw [sdF_eq, if_neg (by exact Nat.not_lt_of_le (Nat.le_trans hm (Nat.le_add_left 0 sp)))]
    · rw [sdF_eq, if_neg (by lia)]
  | succ m ih =>
    intro xs a ys b hm hR
    obtain ⟨h1, h2⟩ := hc _ _ _ _ hR
    rw [sdF_eq x sp, sdF_eq x sq]
    by_cases h : sp < a
    · rw [if_pos h, if_pos (h1.mp h)]
      by_cases hx : x < xs.getD ((a - 1) / 2) 0
      · have hx' : x < ys.getD ((b - 1) / 2) 0 := h2 h ▸ hx
        rw [if_pos hx, if_pos hx']
        exact ih _ _ _ _ (Nat.le_of_lt_succ (Nat.lt_of_lt_of_le (half_dec h) hm)) (step _ _ _ _ hR h (h1.mp h) hx)
      · have hx' : ¬ x < ys.getD ((b - 1) / 2) 0 := h2 h ▸ hx
        rw [if_neg hx, if_neg hx']
        exact ⟨xs, a, ys, b, hR, rfl, rfl, fun _ => (Int.not_lt.mp hx)⟩
    · rw [if_neg h, if_neg (fun h' => h (h1.mpr h'))]
      exact ⟨xs, a, ys, b, hR, rfl, rfl, fun h' => absurd h' h⟩
theorem sdF_ind {x : Int} {sp : Nat} (M : List Int → Nat → Prop)
    (step : ∀ xs a, M xs a → sp < a → x < xs.getD ((a - 1) / 2) 0 → M (xs.set a (xs.getD ((a - 1) / 2) 0)) ((a - 1) / 2)) (xs : List Int) (a : Nat) (h : M xs a) :
    ∃ xs' a', M xs' a' ∧ sdF x sp xs a = xs'.set a' x ∧ (sp < a' → xs'.getD ((a' - 1) / 2) 0 ≤ x) := by
  obtain ⟨xs', a', _, _, ⟨_, h⟩, e, _, hx⟩ := sdF_sim (x := x) (sp := sp) (sq := sp) (fun xs a ys b => (xs = ys ∧ a = b) ∧ M xs a) (fun xs a ys b h => by
      obtain ⟨⟨rfl, rfl⟩, h⟩ := h
      exact ⟨Iff.rfl, fun _ => rfl⟩) (fun xs a ys b h h1 _ h2 => by
      obtain ⟨⟨rfl, rfl⟩, h⟩ := h
      exact ⟨⟨rfl, rfl⟩, step _ _ h h1 h2⟩) a xs a xs a (Nat.le_refl _) ⟨⟨rfl, rfl⟩, h⟩
  exact ⟨xs', a', h, e, hx⟩
/-- the places below p -/
inductive Sub (p : Nat) : Nat → Prop
  | refl : Sub p p
  | step {i : Nat} : 1 ≤ i → Sub p ((i - 1) / 2) → Sub p i
theorem Sub.le {p i : Nat} (h : Sub p i) : p ≤ i := by induction h with | refl => exact Nat.le_refl _ | step h1 _ ih => exact Nat.le_trans ih (Nat.le_of_lt (half_dec h1))
theorem Sub.up {p i : Nat} (h : Sub p i) (hlt : p < i) : Sub p ((i - 1) / 2) := by cases h with | refl => exact absurd hlt (Nat.lt_irrefl _) | step _ h => exact h
theorem Sub.down {p i j : Nat} (h : Sub p i) (hj : j = 2 * i + 1 ∨ j = 2 * i + 2) : Sub p j := .step (Nat.lt_of_le_of_lt (Nat.zero_le _) (ch_lt hj)) (by rw [h_ch hj]; exact h)
theorem Sub.ch {p i : Nat} {xs : List Int} (h : Sub p i) (hl : 2 * i + 1 < xs.length) : Sub p (chF xs i) := h.down (ch_is xs i hl).2.1
theorem Sub.chain {a b q : Nat} (h : Sub a q) : Sub b q → a ≤ b → Sub a b := by
  induction h with
  | refl =>
    intro hb hle
    have := hb.le
    rw [show b = a by exact Nat.le_antisymm this hle]
    exact .refl
  | step h1 ha ih =>
    intro hb hle
    cases hb with
    | refl => exact .step h1 ha
    | step _ hb => exact ih hb hle
/-- values change places -/
theorem swp {xs : List Int} {p c : Nat} {v : Int} (hp : p < xs.length) (hc : c < xs.length) (hne : p ≠ c) : ((xs.set p (xs.getD c 0)).set c v).Perm (xs.set p v) := by
  have h := List.set_set_perm (as := xs.set p v) (i := p) (j := c) (by simpa using hp) (by simpa using hc)
  have e1 : (xs.set p v)[c]'(by simpa using hc) = xs.getD c 0 := by
    rw [List.getElem_set_ne hne, List.getD_eq_getElem?_getD, List.getElem?_eq_getElem hc]; rfl
  rw [e1, List.getElem_set_self, List.set_set] at h
  exact h
theorem set_getD {xs : List Int} {p : Nat} (hp : p < xs.length) : xs.set p (xs.getD p 0) = xs := by
  rw [List.getD_eq_getElem?_getD, List.getElem?_eq_getElem hp]
  exact List.set_getElem_self hp
theorem suF_perm {xs : List Int} {p : Nat} (hp : p < xs.length) : (suF xs p).Perm xs := by
  obtain ⟨⟨h1, h2, h3⟩, _⟩ := suDown_ind (n := xs.length) (fun ys a => ys.length = xs.length ∧ a < xs.length ∧ (ys.set a (xs.getD p 0)).Perm xs) (fun _ _ h => h.1) (fun ys a ⟨h1, h2, h3⟩ h => by
    obtain ⟨c1, c2, _⟩ := ch_is ys a (Nat.lt_of_lt_of_le h (Nat.le_of_eq (Eq.symm h1)))
    exact ⟨by rw [List.length_set]; exact h1, (Nat.lt_of_lt_of_le c1 (Nat.le_of_eq h1)), (swp (Nat.lt_of_lt_of_le h2 (Nat.le_of_eq (Eq.symm h1))) c1 (by lia)).trans h3⟩) xs p ⟨rfl, hp, by rw [set_getD hp]⟩
  rw [suF]
  generalize suDown xs p = sd at *
  obtain ⟨ys, a⟩ := sd
  obtain ⟨zs, b, ⟨g1, g2, g3⟩, e, _⟩ := sdF_ind (x := xs.getD p 0) (sp := p) (fun zs b => zs.length = xs.length ∧ b < xs.length ∧ (zs.set b (xs.getD p 0)).Perm xs) (fun zs b ⟨h1, h2, h3⟩ h _ => by
    exact ⟨by rw [List.length_set]; exact h1, half_lt h2, (swp (h1 ▸ h2) (h1 ▸ half_lt h2) (Nat.ne_of_gt (half_dec h))).trans h3⟩) (ys.set a (xs.getD p 0)) a ⟨by rw [List.length_set]; exact h1, h2, by rw [List.set_set]; exact h3⟩
  exact e ▸ g3
/-- from place k on every place is at least the one above -/
noncomputable def HpF (k : Nat) (xs : List Int) : Prop := ∀ i, 1 ≤ i → i < xs.length → k ≤ (i - 1) / 2 → xs.getD ((i - 1) / 2) 0 ≤ xs.getD i 0
/-- the same but for a hole at a -/
structure Hole (n k : Nat) (xs : List Int) (a : Nat) : Prop where
  len : xs.length = n
  lt : a < n
  sub : Sub k a
  all : ∀ i, 1 ≤ i → i < n → k ≤ (i - 1) / 2 → i ≠ a → (i - 1) / 2 ≠ a → xs.getD ((i - 1) / 2) 0 ≤ xs.getD i 0
  over : ∀ i, 1 ≤ i → i < n → (i - 1) / 2 = a → k < a → xs.getD ((a - 1) / 2) 0 ≤ xs.getD i 0
theorem suF_heap {xs : List Int} {p : Nat} (hp : p < xs.length) (h : HpF (p + 1) xs) : HpF p (suF xs p) := by
  obtain ⟨H, hleaf⟩ := suDown_ind (n := xs.length) (fun ys a => Hole xs.length p ys a) (fun _ _ h => h.len) (fun ys a H h => by
    obtain ⟨hl, hlt, hs, hall, hover⟩ := H
    have hsl := hs.ch (xs := ys) (Nat.lt_of_lt_of_le h (Nat.le_of_eq (Eq.symm hl)))
    obtain ⟨c1, c2, c3⟩ := ch_is ys a (Nat.lt_of_lt_of_le h (Nat.le_of_eq (Eq.symm hl)))
    generalize chF ys a = c at *
    have hg : ∀ j, (ys.set a (ys.getD c 0)).getD j 0 = if a = j then ys.getD c 0 else ys.getD j 0 := fun j => gset _ _ _ _ (Nat.lt_of_lt_of_le hlt (Nat.le_of_eq (Eq.symm hl)))
    refine ⟨by rw [List.length_set]; exact hl, (Nat.lt_of_lt_of_le c1 (Nat.le_of_eq hl)), hsl, fun i h1 h2 h3 h4 h5 => ?_, fun i h1 h2 h3 h4 => ?_⟩
    · rw [hg, hg]
      by_cases ia : a = i
      · rw [if_pos ia, if_neg (fun e => absurd (half_dec h1) (by rw [← e, ia]; exact Nat.lt_irrefl _))]
        subst ia
        have hlt' : p < a := Nat.lt_of_le_of_lt h3 (half_dec h1)
        have := hover c (Nat.lt_of_le_of_lt (Nat.zero_le _) (ch_lt c2)) (hl ▸ c1) (h_ch c2) hlt'
        exact this
      · rw [if_neg ia]
        by_cases ja : a = (i - 1) / 2
        · rw [if_pos ja]
          exact c3 i (by rw [ja]; exact h_par h1) (hl.symm ▸ h2)
        · rw [if_neg ja]
          exact hall i h1 h2 h3 (fun e => ia e.symm) fun e => ja e.symm
    · have hci : c < i := h3 ▸ half_dec h1
      have hac := ch_lt c2
      rw [hg, hg, if_pos (h_ch c2).symm, if_neg (Nat.ne_of_lt (Nat.lt_trans hac hci))]
      have := hall i h1 h2 (by rw [h3]; exact Nat.le_of_lt (Nat.lt_of_le_of_lt hs.le hac)) (Nat.ne_of_gt (Nat.lt_trans hac hci)) (by rw [h3]; exact Nat.ne_of_gt hac)
      rwa [h3] at this) xs p ⟨rfl, hp, .refl, fun i h1 h2 h3 h4 h5 => h i h1 h2 (by lia), fun i h1 h2 h3 h4 => absurd h4 (Nat.lt_irrefl _)⟩
  rw [suF]
  generalize suDown xs p = sd at *
  obtain ⟨ys, a⟩ := sd
  obtain ⟨hl, hlt, hs, hall, hover⟩ := H
  simp only at hl hlt hs hall hover hleaf ⊢
  have hg : ∀ j, a ≠ j → (ys.set a (xs.getD p 0)).getD j 0 = ys.getD j 0 := fun j hj => by rw [gset _ _ _ _ (Nat.lt_of_lt_of_le hlt (Nat.le_of_eq (Eq.symm hl))), if_neg hj]
  generalize xs.getD p 0 = x at *
  obtain ⟨zs, b, ⟨⟨gl, glt, gs, gall, gover⟩, gx⟩, e, hx⟩ := sdF_ind (x := x) (sp := p) (fun zs b => Hole xs.length p zs b ∧ ∀ i, 1 ≤ i → i < xs.length → (i - 1) / 2 = b → x ≤ zs.getD i 0) (fun zs b ⟨⟨hl, hlt, hs, hall, hover⟩, hx⟩ h hxl => by
    have hup := hs.up h
    have hple := hup.le
    have hg : ∀ j, (zs.set b (zs.getD ((b - 1) / 2) 0)).getD j 0 = if b = j then zs.getD ((b - 1) / 2) 0 else zs.getD j 0 := fun j => gset _ _ _ _ (Nat.lt_of_lt_of_le hlt (Nat.le_of_eq (Eq.symm hl)))
    refine ⟨⟨by rw [List.length_set]; exact hl, half_lt hlt, hup, fun i h1 h2 h3 h4 h5 => ?_, fun i h1 h2 h3 h4 => ?_⟩, fun i h1 h2 h3 => ?_⟩
    · rw [hg, hg, if_neg (fun e => h5 (by rw [e]) : ¬ b = i)]
      by_cases ja : b = (i - 1) / 2
      · rw [if_pos ja]
        exact hover i h1 h2 ja.symm h
      · rw [if_neg ja]
        exact hall i h1 h2 h3 (fun e => h5 (by rw [e])) fun e => ja e.symm
    · rw [hg, hg, if_neg (Nat.ne_of_gt (Nat.lt_trans (half_dec h4) (half_dec h)) : ¬ b = ((b - 1) / 2 - 1) / 2)]
      have h5 := hall ((b - 1) / 2) (Nat.lt_of_le_of_lt (Nat.zero_le _) h4) (half_lt hlt) (hup.up h4).le (Nat.ne_of_lt (half_dec h)) (Nat.ne_of_lt (Nat.lt_trans (half_dec h4) (half_dec h)))
      by_cases ia : b = i
      · rw [if_pos ia]; exact h5
      · rw [if_neg ia]
        have h6 := hall i h1 h2 (by rw [h3]; exact hple) (fun e => ia e.symm) (by rw [h3]; exact Nat.ne_of_lt (half_dec h))
        rw [h3] at h6
        exact Int.le_trans h5 h6
    · rw [hg]
      by_cases ia : b = i
      · rw [if_pos ia]; exact Int.le_of_lt hxl
      · rw [if_neg ia]
        have h6 := hall i h1 h2 (by rw [h3]; exact hple) (fun e => ia e.symm) (by rw [h3]; exact Nat.ne_of_lt (half_dec h))
        rw [h3] at h6
        exact Int.le_trans (Int.le_of_lt hxl) h6) (ys.set a x) a ⟨⟨by rw [List.length_set]; exact hl, hlt, hs, fun i h1 h2 h3 h4 h5 => by rw [hg _ (Ne.symm h5), hg _ (Ne.symm h4)]; exact hall i h1 h2 h3 h4 h5, fun i h1 h2 h3 h4 => absurd hleaf (by lia)⟩, fun i h1 h2 h3 => absurd hleaf (by lia)⟩
  rw [e]
  intro i h1 h2 h3
  rw [List.length_set] at h2
  rw [gset _ _ _ _ (Nat.lt_of_lt_of_le glt (Nat.le_of_eq (Eq.symm gl))), gset _ _ _ _ (Nat.lt_of_lt_of_le glt (Nat.le_of_eq (Eq.symm gl)))]
  by_cases ia : b = i
  · rw [if_neg (fun e => absurd (half_dec h1) (by rw [← e, ia]; exact Nat.lt_irrefl _)), if_pos ia]
    subst ia
    exact hx (Nat.lt_of_le_of_lt h3 (half_dec h1))
  · rw [if_neg ia]
    by_cases ja : b = (i - 1) / 2
    · rw [if_pos ja]
      exact gx i h1 (Nat.lt_of_lt_of_le h2 (Nat.le_of_eq gl)) ja.symm
    · rw [if_neg ja]
      exact gall i h1 (Nat.lt_of_lt_of_le h2 (Nat.le_of_eq gl)) h3 (fun e => ia e.symm) fun e => ja e.symm
end
/-! MP2 -/
section
set_option hygiene false
/-! the plain law, 2: a sift stays below its place -/
theorem suF_at {xs ys : List Int} {p : Nat} (hl : ys.length = xs.length) (hp : p < xs.length) (hag : ∀ q, Sub p q → xs.getD q 0 = ys.getD q 0) :
    (∀ q, Sub p q → (suF xs p).getD q 0 = (suF ys p).getD q 0) ∧ ∀ q, ¬ Sub p q → (suF xs p).getD q 0 = xs.getD q 0 := by
  let R : List Int → Nat → List Int → Nat → Prop := fun us a vs b => (us.length = xs.length ∧ vs.length = xs.length) ∧ (a = b ∧ Sub p a ∧ a < xs.length) ∧ (∀ q, Sub p q → us.getD q 0 = vs.getD q 0) ∧ ∀ q, ¬ Sub p q → us.getD q 0 = xs.getD q 0
  have hset : ∀ us a vs b c x y, R us a vs b → Sub p c → c < xs.length → x = y → R (us.set a x) c (vs.set b y) c := by
    rintro us a vs b c x y ⟨⟨h1, h2⟩, ⟨rfl, h3, h4⟩, h5, h6⟩ hc hc2 rfl
    refine ⟨⟨by rw [List.length_set]; exact h1, by rw [List.length_set]; exact h2⟩, ⟨rfl, hc, hc2⟩, fun q hq => ?_, fun q hq => ?_⟩
    · rw [gset _ _ _ _ (Nat.lt_of_lt_of_le h4 (Nat.le_of_eq (Eq.symm h1))), gset _ _ _ _ (Nat.lt_of_lt_of_le h4 (Nat.le_of_eq (Eq.symm h2))), h5 q hq]
    · rw [gset _ _ _ _ (Nat.lt_of_lt_of_le h4 (Nat.le_of_eq (Eq.symm h1))), if_neg (fun e => by subst e; exact hq h3)]
      exact h6 q hq
  have hch : ∀ us a vs b, R us a vs b → 2 * a + 1 < xs.length → chF us a = chF vs b := by
    rintro us a vs b ⟨⟨h1, h2⟩, ⟨rfl, h3, h4⟩, h5, h6⟩ _
    rw [chF, chF, h1, h2, h5 _ (h3.down (.inl rfl)), h5 _ (h3.down (.inr rfl))]
  obtain ⟨H, _⟩ := suDown_sim (n := xs.length) R (fun us a vs b ⟨h1, ⟨e, _⟩, _⟩ => ⟨h1.1, h1.2, e ▸ Iff.rfl⟩) (fun us a vs b h h1 h2 => by
    have hc := hch us a vs b h h1
    obtain ⟨c1, _, _⟩ := ch_is us a (by have := h.1.1; exact Nat.lt_of_lt_of_le h1 (Nat.le_of_eq (Eq.symm this)))
    have hsc := h.2.1.2.1.ch (xs := us) (by have := h.1.1; exact Nat.lt_of_lt_of_le h1 (Nat.le_of_eq (Eq.symm this)))
    rw [← hc]
    exact hset us a vs b _ _ _ h hsc (by have := h.1.1; exact Nat.lt_of_lt_of_le c1 (Nat.le_of_eq this)) (h.2.2.1 _ hsc)) (xs.length - p) xs p ys p (Nat.le_refl _) ⟨⟨rfl, hl⟩, ⟨rfl, .refl, hp⟩, hag, fun _ _ => rfl⟩
  rw [suF, suF, ← hag p .refl]
  generalize suDown xs p = sd at *
  generalize suDown ys p = se at *
  obtain ⟨us, a⟩ := sd
  obtain ⟨vs, b⟩ := se
  generalize xs.getD p 0 = x at *
  obtain ⟨us', a', vs', b', H', e1, e2, _⟩ := sdF_sim (x := x) (sp := p) (sq := p) R (fun us a vs b ⟨h1, ⟨e, h3, h4⟩, h5, h6⟩ => by
      subst e
      exact ⟨Iff.rfl, fun h => h5 _ (h3.up h)⟩) (fun us a vs b h h1 h2 h3 => by
      have e := h.2.1.1
      subst e
      exact hset us a vs a _ _ _ h (h.2.1.2.1.up h1) (half_lt h.2.1.2.2) (h.2.2.1 _ (h.2.1.2.1.up h1))) a (us.set a x) a (vs.set b x) b (Nat.le_refl _) (by
      have e := H.2.1.1
      simp only at e
      subst e
      exact hset us a vs a a x x H H.2.1.2.1 H.2.1.2.2 rfl)
  simp only at e1 e2 ⊢
  rw [e1, e2]
  have e := H'.2.1.1
  subst e
  have := hset us' a' vs' a' a' x x H' H'.2.1.2.1 H'.2.1.2.2 rfl
  exact this.2.2
theorem ext_getD {xs ys : List Int} (hl : xs.length = ys.length) (h : ∀ i, i < xs.length → xs.getD i 0 = ys.getD i 0) : xs = ys := by
  refine List.ext_getElem hl fun i h1 h2 => ?_
  have := h i h1
  rwa [List.getD_eq_getElem?_getD, List.getD_eq_getElem?_getD, List.getElem?_eq_getElem h1, List.getElem?_eq_getElem h2] at this
theorem suF_leng {xs : List Int} {p : Nat} (hp : p < xs.length) : (suF xs p).length = xs.length := (suF_perm hp).length_eq
/-- sifts at places with nothing in common -/
theorem suF_comm {xs : List Int} {a b : Nat} (ha : a < xs.length) (hb : b < xs.length) (hab : ∀ q, Sub a q → ¬ Sub b q) : suF (suF xs a) b = suF (suF xs b) a := by
  have la := suF_leng ha
  have lb := suF_leng hb
  have lab : (suF (suF xs a) b).length = xs.length := by rw [suF_leng (Nat.lt_of_lt_of_le hb (Nat.le_of_eq (Eq.symm la))), la]
  have lba : (suF (suF xs b) a).length = xs.length := by rw [suF_leng (Nat.lt_of_lt_of_le ha (Nat.le_of_eq (Eq.symm lb))), lb]
  refine ext_getD (Eq.trans lab (Eq.symm lba)) fun q _ => ?_
  have A := suF_at (xs := xs) (ys := suF xs b) lb ha fun q hq => ((suF_at (xs := xs) rfl hb fun _ _ => rfl).2 q (hab q hq)).symm
  have B := suF_at (xs := xs) (ys := suF xs a) la hb fun q hq => ((suF_at (xs := xs) rfl ha fun _ _ => rfl).2 q (fun h => hab q h hq)).symm
  have A' := suF_at (xs := suF xs b) rfl (lb.symm ▸ ha) fun _ _ => rfl
  have B' := suF_at (xs := suF xs a) rfl (la.symm ▸ hb) fun _ _ => rfl
  by_cases hq : Sub b q
  · rw [← B.1 q hq, A'.2 q (fun h => hab q h hq)]
  · rw [B'.2 q hq]
    by_cases hq2 : Sub a q
    · exact A.1 q hq2
    · rw [A.2 q hq2, A'.2 q hq2, B.2 q hq]
theorem sub_apart {a b : Nat} (h : a ≠ b) (h1 : (b - 1) / 2 < a) (h2 : (a - 1) / 2 < b) : ∀ q, Sub a q → ¬ Sub b q := by
  intro q ha hb
  rcases Nat.lt_or_gt_of_ne h with hlt | hlt
  · have := ((ha.chain hb (Nat.le_of_lt hlt)).up hlt).le
    lia
  · have := ((hb.chain ha (Nat.le_of_lt hlt)).up hlt).le
    lia
/-! the flips -/
theorem pi_ok : ∀ f ∈ [[0, 0, 0], [0, 0, 1], [0, 1, 0], [0, 1, 1], [1, 0, 0], [1, 0, 1], [1, 1, 0], [1, 1, 1]], piF f 0 = 0 ∧ ∀ p < 15, piF f p < 15 ∧ (∀ q < 15, piF f p = piF f q → p = q) ∧ (1 ≤ p → 1 ≤ piF f p ∧ (piF f p - 1) / 2 = piF f ((p - 1) / 2)) ∧ (p < 7 → (piF f (2 * p + 1) = 2 * piF f p + 1 ∧ piF f (2 * p + 2) = 2 * piF f p + 2) ∨ (piF f (2 * p + 1) = 2 * piF f p + 2 ∧ piF f (2 * p + 2) = 2 * piF f p + 1)) ∧ (p < 7 ↔ piF f p < 7) := by decide +kernel
theorem tu_get {f : List Nat} {pl : List Int} {p : Nat} (h : p < 15) : (tuF f pl).getD p 0 = pl.getD (piF f p) 0 := by
  rw [tuF, List.getD_eq_getElem?_getD, List.getElem?_map, List.getElem?_range h]; rfl
theorem tu_set {f : List Nat} (hf : Fl f) {pl : List Int} (hl : pl.length = 15) {p : Nat} (h : p < 15) (v : Int) : (tuF f pl).set p v = tuF f (pl.set (piF f p) v) := by
  obtain ⟨_, hp⟩ := pi_ok f hf
  refine ext_getD (by rw [List.length_set, tuF_len, tuF_len]) fun i hi => ?_
  rw [List.length_set, tuF_len] at hi
  rw [gset _ _ _ _ (by rw [tuF_len]; exact h), tu_get hi, tu_get hi, gset _ _ _ _ (by rw [hl]; exact (hp p h).1)]
  by_cases e : p = i
  · rw [if_pos e, if_pos (e ▸ rfl)]
  · rw [if_neg e, if_neg fun e' => e ((hp p h).2.1 i hi e')]
theorem tu_sub {f : List Nat} (hf : Fl f) {a q : Nat} (h : Sub a q) : q < 15 → Sub (piF f a) (piF f q) := by
  obtain ⟨_, hp⟩ := pi_ok f hf
  induction h with
  | refl => intro _; exact .refl
  | step h1 _ ih =>
    intro hq
    obtain ⟨g1, g2⟩ := (hp _ hq).2.2.1 h1
    exact .step g1 (g2 ▸ ih (half_lt hq))
theorem k7 {a : Nat} : 2 * a + 1 < 15 ↔ a < 7 := ⟨fun h => by lia, fun h => by lia⟩
/-- all but the hole differ -/
noncomputable def Dst (xs : List Int) (a : Nat) : Prop := ∀ i j, i < 15 → j < 15 → i ≠ j → i ≠ a → j ≠ a → xs.getD i 0 ≠ xs.getD j 0
theorem tu_su {f : List Nat} (hf : Fl f) {xs : List Int} (hl : xs.length = 15) (hn : xs.Nodup) {p : Nat} (hp : p < 15) : suF (tuF f xs) p = tuF f (suF xs (piF f p)) := by
  obtain ⟨_, hpi⟩ := pi_ok f hf
  have hd : ∀ i j, i < 15 → j < 15 → i ≠ j → xs.getD i 0 ≠ xs.getD j 0 := fun i j hi hj hne e => by
    rw [List.getD_eq_getElem?_getD, List.getD_eq_getElem?_getD, List.getElem?_eq_getElem (Nat.lt_of_lt_of_le hi (Nat.le_of_eq (Eq.symm hl))), List.getElem?_eq_getElem (Nat.lt_of_lt_of_le hj (Nat.le_of_eq (Eq.symm hl)))] at e
    exact hne ((List.getElem_inj hn).mp e)
  let R0 : List Int → Nat → List Int → Nat → Prop := fun us a vs b => vs.length = 15 ∧ (a < 15 ∧ Sub p a ∧ b = piF f a) ∧ us = tuF f vs
  obtain ⟨H, _⟩ := suDown_sim (n := 15) (fun us a vs b => R0 us a vs b ∧ Dst vs b) (fun us a vs b h => by
      obtain ⟨⟨h1, ⟨h2, _, rfl⟩, rfl⟩, _⟩ := h
      have := (hpi a h2).2.2.2.2
      exact ⟨tuF_len _ _, h1, k7.trans (this.trans k7.symm)⟩) (fun us a vs b h g1 g2 => by
      obtain ⟨⟨h1, ⟨h2, h3, rfl⟩, rfl⟩, h4⟩ := h
      refine and5 (hpi a h2) ?_; intro hU4 hU5 hU6 h5 hU7
      have h5 := h5 (by lia)
      have c3 := ch_is (tuF f vs) a (by rw [tuF_len]; exact g1)
      have d3 := ch_is vs (piF f a) (by rw [h1]; exact g2)
      have hs := h3.ch (xs := tuF f vs) (by rw [tuF_len]; exact g1)
      generalize chF (tuF f vs) a = c at *
      generalize chF vs (piF f a) = d at *
      obtain ⟨c1, c2, c3⟩ := c3
      obtain ⟨d1, d2, d3⟩ := d3
      rw [tuF_len] at c1
      rw [h1] at d1
      have hcd : d = piF f c := by
        refine Decidable.byContradiction fun hne => ?_
        have hc' : piF f c = 2 * piF f a + 1 ∨ piF f c = 2 * piF f a + 2 := by
          rcases c2 with rfl | rfl <;> rcases h5 with ⟨e1, e2⟩ | ⟨e1, e2⟩ <;> lia
        have hpc := (hpi c c1).1
        have x1 := d3 (piF f c) hc' (Nat.lt_of_lt_of_le hpc (Nat.le_of_eq (Eq.symm h1)))
        have x2 : vs.getD (piF f c) 0 ≤ vs.getD d 0 := by
          have hd' : ∃ c', (c' = 2 * a + 1 ∨ c' = 2 * a + 2) ∧ piF f c' = d := by
            rcases d2 with rfl | rfl <;> rcases h5 with ⟨e1, e2⟩ | ⟨e1, e2⟩
            · exact ⟨_, .inl rfl, e1⟩
            · exact ⟨_, .inr rfl, e2⟩
            · exact ⟨_, .inr rfl, e2⟩
            · exact ⟨_, .inl rfl, e1⟩
          refine ex1 hd' ?_; (try clear hd'); intro c' hJ
          refine and2 hJ ?_; clear hJ; intro hc2 hR8
          subst hR8
          have := c3 c' hc2 (by rw [tuF_len]; lia)
          rwa [tu_get c1, tu_get (by lia)] at this
        exact h4 d (piF f c) d1 hpc hne (by lia) (by lia) (Int.le_antisymm x1 x2)
      subst hcd
      refine ⟨⟨by rw [List.length_set]; exact h1, ⟨c1, hs, rfl⟩, ?_⟩, fun i j hi hj hij hic hjc => ?_⟩
      · rw [tu_set hf h1 h2, tu_get c1]
      · rw [gset _ _ _ _ (Nat.lt_of_lt_of_le hU4 (Nat.le_of_eq (Eq.symm h1))), gset _ _ _ _ (Nat.lt_of_lt_of_le hU4 (Nat.le_of_eq (Eq.symm h1)))]
        by_cases e1 : piF f a = i
        · rw [if_pos e1, if_neg (by lia)]
          exact h4 _ _ d1 hj (Ne.symm hjc) (by lia) (by lia)
        · rw [if_neg e1]
          by_cases e2 : piF f a = j
          · rw [if_pos e2]
            exact h4 _ _ hi d1 hic (by lia) (by lia)
          · rw [if_neg e2]
            exact h4 _ _ hi hj hij (Ne.symm e1) (Ne.symm e2)) (15 - p) (tuF f xs) p xs (piF f p) (Nat.le_refl _) ⟨⟨hl, ⟨hp, .refl, rfl⟩, rfl⟩, fun i j hi hj hij _ _ => hd i j hi hj hij⟩
  rw [suF, suF, tu_get hp]
  generalize suDown (tuF f xs) p = sd at *
  generalize suDown xs (piF f p) = se at *
  obtain ⟨us, a⟩ := sd
  obtain ⟨vs, b⟩ := se
  obtain ⟨⟨h1, ⟨h2, h3, e⟩, e'⟩, _⟩ := H
  simp only at h1 h2 h3 e e' ⊢
  subst e e'
  generalize xs.getD (piF f p) 0 = x
  rw [tu_set hf h1 h2]
  obtain ⟨us', a', vs', b', ⟨g1, ⟨g2, g3, rfl⟩, rfl⟩, e1, e2, _⟩ := sdF_sim (x := x) (sp := p) (sq := piF f p) R0 (fun us a vs b h => by
      obtain ⟨h1, ⟨h2, h3, rfl⟩, rfl⟩ := h
      have hs := (tu_sub hf h3 h2).le
      have h3' := h3.le
      have hinj := (hpi p hp).2.1 a h2
      have hiff : p < a ↔ piF f p < piF f a := by
        by_cases e : p = a
        · subst e; exact ⟨fun h => absurd h (Nat.lt_irrefl _), fun h => absurd h (Nat.lt_irrefl _)⟩
        · have : piF f p ≠ piF f a := fun h => e (hinj h)
          exact ⟨fun _ => Nat.lt_of_le_of_ne hs this, fun _ => Nat.lt_of_le_of_ne h3' e⟩
      refine ⟨hiff, fun h => ?_⟩
      rw [tu_get (half_lt h2), ((hpi a h2).2.2.1 (Nat.lt_of_le_of_lt (Nat.zero_le _) h)).2]) (fun us a vs b h g1 g2 _ => by
      obtain ⟨h1, ⟨h2, h3, rfl⟩, rfl⟩ := h
      have e := ((hpi a h2).2.2.1 (Nat.lt_of_le_of_lt (Nat.zero_le _) g1)).2
      refine ⟨by rw [List.length_set]; exact h1, ⟨half_lt h2, h3.up g1, e⟩, ?_⟩
      rw [tu_set hf h1 h2, tu_get (half_lt h2), e]) a (tuF f (vs.set (piF f a) x)) a (vs.set (piF f a) x) (piF f a) (Nat.le_refl _) ⟨by rw [List.length_set]; exact h1, ⟨h2, h3, rfl⟩, rfl⟩
  rw [e1, e2, tu_set hf g1 g2]
end
/-! MP3 -/
section
set_option hygiene false
/-! the plain law, 3: what the walk reads -/
noncomputable def hfL (l : List Nat) (xs : List Int) : List Int := l.foldl suF xs
theorem hfL_perm : ∀ (l : List Nat) (xs : List Int), (∀ p ∈ l, p < xs.length) → (hfL l xs).Perm xs
  | [], _, _ => .refl _
  | p :: l, xs, h => by
    have h1 := suF_perm (h p (.head _))
    exact (hfL_perm l (suF xs p) fun q hq => by rw [h1.length_eq]; exact h q (.tail _ hq)).trans h1
theorem tu_hfL {f : List Nat} (hf : Fl f) : ∀ (l : List Nat) (xs : List Int), xs.length = 15 → xs.Nodup → (∀ p ∈ l, p < 15) → hfL l (tuF f xs) = tuF f (hfL (l.map (piF f)) xs)
  | [], _, _, _, _ => rfl
  | p :: l, xs, hl, hn, h => by
    have hp := h p (.head _)
    have h1 := suF_perm (xs := xs) (p := piF f p) (by rw [hl]; exact ((pi_ok f hf).2 p hp).1)
    show hfL l (suF (tuF f xs) p) = tuF f (hfL (l.map (piF f)) (suF xs (piF f p)))
    rw [tu_su hf hl hn hp]
    exact tu_hfL hf l _ (h1.length_eq.trans hl) (h1.nodup_iff.mpr hn) fun q hq => h q (.tail _ hq)
theorem hf_order : ∀ f ∈ [[0, 0, 0], [0, 0, 1], [0, 1, 0], [0, 1, 1], [1, 0, 0], [1, 0, 1], [1, 1, 0], [1, 1, 1]], [6, 5, 4, 3, 2, 1, 0].map (piF f) ∈ ([[6, 5, 4, 3, 2, 1, 0], [5, 6, 3, 4, 2, 1, 0], [4, 3, 6, 5, 1, 2, 0], [3, 4, 5, 6, 1, 2, 0]] : List (List Nat)) := by decide +kernel
theorem hfL_sw (a b : Nat) (r : List Nat) {xs : List Int} (hl : xs.length = 15) (ha : a < 15) (hb : b < 15) (h : a ≠ b) (h1 : (b - 1) / 2 < a) (h2 : (a - 1) / 2 < b) : hfL (a :: b :: r) xs = hfL (b :: a :: r) xs := by
  show hfL r (suF (suF xs a) b) = hfL r (suF (suF xs b) a)
  rw [suF_comm (Nat.lt_of_lt_of_le ha (Nat.le_of_eq (Eq.symm hl))) (Nat.lt_of_lt_of_le hb (Nat.le_of_eq (Eq.symm hl))) (sub_apart h h1 h2)]
theorem hfL_cons (a : Nat) {r r' : List Nat} {xs : List Int} (hl : xs.length = 15) (ha : a < 15) (h : ∀ ys : List Int, ys.length = 15 → hfL r ys = hfL r' ys) : hfL (a :: r) xs = hfL (a :: r') xs :=
  h (suF xs a) ((suF_leng (Nat.lt_of_lt_of_le ha (Nat.le_of_eq (Eq.symm hl)))).trans hl)
theorem hf_same {l : List Nat} (h : l ∈ ([[6, 5, 4, 3, 2, 1, 0], [5, 6, 3, 4, 2, 1, 0], [4, 3, 6, 5, 1, 2, 0], [3, 4, 5, 6, 1, 2, 0]] : List (List Nat))) {xs : List Int} (hl : xs.length = 15) : hfL l xs = hfL [6, 5, 4, 3, 2, 1, 0] xs := by
  have s34 : ∀ (r : List Nat) (ys : List Int), ys.length = 15 → hfL (3 :: 4 :: r) ys = hfL (4 :: 3 :: r) ys := fun r ys h => hfL_sw 3 4 r h (by decide) (by decide) (by decide) (by decide) (by decide)
  have s56 : ∀ (r : List Nat) (ys : List Int), ys.length = 15 → hfL (5 :: 6 :: r) ys = hfL (6 :: 5 :: r) ys := fun r ys h => hfL_sw 5 6 r h (by decide) (by decide) (by decide) (by decide) (by decide)
  have s12 : ∀ (r : List Nat) (ys : List Int), ys.length = 15 → hfL (1 :: 2 :: r) ys = hfL (2 :: 1 :: r) ys := fun r ys h => hfL_sw 1 2 r h (by decide) (by decide) (by decide) (by decide) (by decide)
  have sx : ∀ (a b : Nat) (r : List Nat) (ys : List Int), ys.length = 15 → (a = 3 ∨ a = 4) → (b = 5 ∨ b = 6) → hfL (a :: b :: r) ys = hfL (b :: a :: r) ys := fun a b r ys h h1 h2 => hfL_sw a b r h (by rcases h1 with rfl | rfl <;> rcases h2 with rfl | rfl <;> decide) (by rcases h1 with rfl | rfl <;> rcases h2 with rfl | rfl <;> decide) (by rcases h1 with rfl | rfl <;> rcases h2 with rfl | rfl <;> decide) (by rcases h1 with rfl | rfl <;> rcases h2 with rfl | rfl <;> decide) (by rcases h1 with rfl | rfl <;> rcases h2 with rfl | rfl <;> decide)
  have c4 : ∀ a b c d : Nat, a < 15 → b < 15 → c < 15 → d < 15 → ∀ ys : List Int, ys.length = 15 → hfL (a :: b :: c :: d :: [1, 2, 0]) ys = hfL (a :: b :: c :: d :: [2, 1, 0]) ys := fun a b c d h1 h2 h3 h4 ys h => hfL_cons a h h1 fun ys h => hfL_cons b h h2 fun ys h => hfL_cons c h h3 fun ys h => hfL_cons d h h4 fun ys h => s12 [0] ys h
  have m4 : ∀ (a b c d : Nat) (r : List Nat), (a = 3 ∨ a = 4) → (b = 3 ∨ b = 4) → (c = 5 ∨ c = 6) → (d = 5 ∨ d = 6) → ∀ ys : List Int, ys.length = 15 → hfL (a :: b :: c :: d :: r) ys = hfL (c :: d :: a :: b :: r) ys := fun a b c d r ha hb hc hd ys h => by
    rw [hfL_cons a h (by lia) fun ys h => sx b c (d :: r) ys h hb hc, sx a c (b :: d :: r) ys h ha hc]
    refine hfL_cons c h (by lia) fun ys h => ?_
    rw [hfL_cons a h (by lia) fun ys h => sx b d r ys h hb hd]
    exact sx a d (b :: r) ys h ha hd
  have o56 : hfL [5, 6, 3, 4, 2, 1, 0] xs = hfL [6, 5, 4, 3, 2, 1, 0] xs := by
    rw [s56 _ xs hl]
    exact hfL_cons 6 hl (by decide) fun ys h => hfL_cons 5 h (by decide) fun ys h => s34 _ ys h
  have e : l = [6, 5, 4, 3, 2, 1, 0] ∨ l = [5, 6, 3, 4, 2, 1, 0] ∨ l = [4, 3, 6, 5, 1, 2, 0] ∨ l = [3, 4, 5, 6, 1, 2, 0] := by simpa using h
  rcases e with rfl | rfl | rfl | rfl
  · rfl
  · exact o56
  · rw [c4 4 3 6 5 (by decide) (by decide) (by decide) (by decide) xs hl]
    exact m4 4 3 6 5 [2, 1, 0] (by decide) (by decide) (by decide) (by decide) xs hl
  · rw [c4 3 4 5 6 (by decide) (by decide) (by decide) (by decide) xs hl, m4 3 4 5 6 [2, 1, 0] (by decide) (by decide) (by decide) (by decide) xs hl]
    exact o56
theorem Pl.of_perm {xs ys : List Int} (h : Pl xs) (e : ys.Perm xs) : Pl ys := ⟨e.length_eq.trans h.len, e.nodup_iff.mpr h.nod, fun x hx => h.byt x (e.mem_iff.mp hx)⟩
theorem Pl.mem {xs : List Int} (h : Pl xs) {i : Nat} (hi : i < 15) : xs.getD i 0 ∈ xs := by
  have hl := h.len
  rw [List.getD_eq_getElem?_getD, List.getElem?_eq_getElem (Nat.lt_of_lt_of_le hi (Nat.le_of_eq (Eq.symm hl)))]
  exact List.getElem_mem _
theorem tu_heapify {pl : List Int} {f : List Nat} (h : Pl pl) (hf : Fl f) : hfF 7 (tuF f pl) = tuF f (hfF 7 pl) ∧ Pl (hfF 7 pl) ∧ Hp (hfF 7 pl) := by
  have hl := h.len
  refine ⟨?_, ?_, ?_⟩
  · show hfL [6, 5, 4, 3, 2, 1, 0] (tuF f pl) = tuF f (hfL [6, 5, 4, 3, 2, 1, 0] pl)
    rw [tu_hfL hf _ _ h.len h.nod (by decide), hf_same (hf_order f hf) h.len]
  · exact h.of_perm (hfL_perm [6, 5, 4, 3, 2, 1, 0] pl (by rw [h.len]; decide))
  · have key : ∀ k (xs : List Int), xs.length = 15 → k ≤ 7 → HpF k xs → HpF 0 (hfF k xs) ∧ (hfF k xs).length = 15 := by
      intro k
      induction k with
      | zero => intro xs hx _ h; exact ⟨h, hx⟩
      | succ k ih => intro xs hx hk h; exact ih _ ((suF_leng (u_lt (Nat.lt_of_le_of_lt hk (Nat.lt_of_lt_of_le (lb rfl) (Nat.le_of_eq (Eq.symm hx)))))).trans hx) (u_le hk) (suF_heap (u_lt (Nat.lt_of_le_of_lt hk (Nat.lt_of_lt_of_le (lb rfl) (Nat.le_of_eq (Eq.symm hx))))) h)
    obtain ⟨g1, g2⟩ := key 7 pl h.len (Nat.le_refl _) fun i h1 h2 h3 => by lia
    exact fun i h1 h2 => g1 i h1 (Nat.lt_of_lt_of_le h2 (Nat.le_of_eq (Eq.symm g2))) (Nat.zero_le _)
theorem tu_root {pl : List Int} {f : List Nat} (_h : Pl pl) (hf : Fl f) : (tuF f pl).getD 0 0 = pl.getD 0 0 := by rw [tu_get (by decide), (pi_ok f hf).1]
theorem tu_replace {pl : List Int} {f : List Nat} {x : Int} (h : Pl pl) (hp : Hp pl) (hf : Fl f) (hx : x ∉ pl) (h0 : 0 ≤ x) (h1 : x < 256) : suF ((tuF f pl).set 0 x) 0 = tuF f (suF (pl.set 0 x) 0) ∧ Pl (suF (pl.set 0 x) 0) ∧ Hp (suF (pl.set 0 x) 0) := by
  have hl := h.len
  have hsl : (pl.set 0 x).length = 15 := by rw [List.length_set]; exact hl
  have hpi0 := (pi_ok f hf).1
  have hpl : Pl (pl.set 0 x) := by
    refine ⟨hsl, ?_, fun y hy => ?_⟩
    · rw [List.nodup_iff_pairwise_ne, List.pairwise_iff_getElem]
      intro i j hi hj hij
      rw [List.length_set] at hi hj
      rw [List.getElem_set, List.getElem_set]
      split
      · rw [if_neg (Nat.ne_of_lt (Nat.lt_of_le_of_lt (Nat.le_add_left 0 i) hij))]
        exact fun e => hx (e ▸ List.getElem_mem _)
      · rw [if_neg (Nat.ne_of_lt (Nat.lt_of_le_of_lt (Nat.le_add_left 0 i) hij))]
        exact fun e => by have := (List.getElem_inj h.nod).mp e; exact Nat.not_lt_of_le (Nat.le_trans (Nat.le_of_eq (Eq.symm this)) (Nat.le_refl i)) hij
    · rcases List.mem_or_eq_of_mem_set hy with g | g
      · exact h.byt y g
      · exact g ▸ ⟨h0, h1⟩
  have hpm := suF_perm (xs := pl.set 0 x) (p := 0) (Nat.lt_of_lt_of_le (lb rfl) (Nat.le_of_eq (Eq.symm hsl)))
  have e1 := tu_set (f := f) hf hl (p := 0) (by decide) x
  rw [hpi0] at e1
  refine ⟨?_, hpl.of_perm hpm, ?_⟩
  · rw [e1, tu_su hf hsl hpl.nod (by decide), hpi0]
  · have := suF_heap (xs := pl.set 0 x) (p := 0) (Nat.lt_of_lt_of_le (lb rfl) (Nat.le_of_eq (Eq.symm hsl))) fun i h1 h2 h3 => by
      rw [gset _ _ _ _ (Nat.lt_of_lt_of_le (lb rfl) (Nat.le_of_eq (Eq.symm hl))), gset _ _ _ _ (Nat.lt_of_lt_of_le (lb rfl) (Nat.le_of_eq (Eq.symm hl))), if_neg (Nat.ne_of_lt (Nat.lt_of_lt_of_le (lb rfl) h3)), if_neg (Nat.ne_of_lt (Nat.lt_of_lt_of_le (lb rfl) h1))]
      exact hp i h1 (Nat.lt_of_lt_of_le h2 (Nat.le_of_eq hsl))
    exact fun i h1 h2 => this i h1 (by rw [hpm.length_eq]; exact Nat.lt_of_lt_of_le h2 (Nat.le_of_eq (Eq.symm hsl))) (Nat.zero_le _)
theorem hp_root {pl : List Int} (hp : Hp pl) : ∀ m i, i ≤ m → i < 15 → pl.getD 0 0 ≤ pl.getD i 0 := by
  intro m
  induction m with
  | zero => intro i h _; rw [show i = 0 by exact Nat.le_antisymm h (Nat.le_add_left 0 i)]; exact Int.le_refl _
  | succ m ih =>
    intro i h1 h2
    by_cases h : i = 0
    · rw [h]; exact Int.le_refl _
    · exact Int.le_trans (ih ((i - 1) / 2) (Nat.le_of_lt_succ (Nat.lt_of_lt_of_le (half_dec (Nat.pos_of_ne_zero h)) h1)) (half_lt h2)) (hp i (Nat.pos_of_ne_zero h) h2)
theorem hp_least {pl : List Int} (h : Pl pl) (hp : Hp pl) : pl.getD 0 0 ∈ pl ∧ ∀ a ∈ pl, pl.getD 0 0 ≤ a := by
  have hl := h.len
  refine ⟨h.mem (by decide), fun a ha => ?_⟩
  obtain ⟨i, hi, rfl⟩ := List.mem_iff_getElem.mp ha
  have := hp_root hp i i (Nat.le_refl _) (Nat.lt_of_lt_of_le hi (Nat.le_of_eq hl))
  rwa [List.getD_eq_getElem?_getD (i := i), List.getElem?_eq_getElem hi] at this
theorem tu_byts {pl : List Int} {f : List Nat} (h : Pl pl) (hf : Fl f) : Byts (tuF f pl) := by
  refine .of_mem fun x hx => ?_
  obtain ⟨p, hp, rfl⟩ := List.mem_map.mp hx
  exact h.byt _ (h.mem ((pi_ok f hf).2 p (List.mem_range.mp hp)).1)
theorem row_map {pl : List Int} (h : pl.length = 15) : pl = (List.range 15).map fun i => pl.getD i 0 := by
  refine ext_getD (by rw [h, List.length_map, List.length_range]) fun i hi => ?_
  rw [List.getD_eq_getElem?_getD (l := List.map _ _), List.getElem?_map, List.getElem?_range (h ▸ hi)]; rfl
theorem turn_map (g : Nat → Int) : tuF [0, 0, 0] ((List.range 15).map g) = (List.range 15).map g ∧ ∀ d < 3, turnF ((List.range 15).map g) d = tuF (flp [0, 0, 0] d) ((List.range 15).map g) := by
  refine ⟨by kernel_rfl, fun x hx => ?_⟩
  match x, hx with
  | 0, _ => kernel_rfl
  | 1, _ => kernel_rfl
  | 2, _ => kernel_rfl
theorem tu_zero {pl : List Int} (h : Pl pl) : tuF [0, 0, 0] pl = pl := by
  have := (turn_map fun i => pl.getD i 0).1
  rwa [← row_map h.len] at this
theorem turn_tu {ys : List Int} (h : ys.length = 15) (d : Nat) (hd : d < 3) : turnF ys d = tuF (flp [0, 0, 0] d) ys := by
  have := (turn_map fun i => ys.getD i 0).2 d hd
  rwa [← row_map h] at this
theorem pi_comp : ∀ f ∈ [[0, 0, 0], [0, 0, 1], [0, 1, 0], [0, 1, 1], [1, 0, 0], [1, 0, 1], [1, 1, 0], [1, 1, 1]], ∀ d < 3, flp f d ∈ [[0, 0, 0], [0, 0, 1], [0, 1, 0], [0, 1, 1], [1, 0, 0], [1, 0, 1], [1, 1, 0], [1, 1, 1]] ∧ ∀ p < 15, piF (flp [0, 0, 0] d) p < 15 ∧ piF f (piF (flp [0, 0, 0] d) p) = piF (flp f d) p := by decide +kernel
theorem tu_turn {pl : List Int} {f : List Nat} {d : Nat} (_h : Pl pl) (hf : Fl f) (hd : d < 3) : turnF (tuF f pl) d = tuF (flp f d) pl ∧ Fl (flp f d) := by
  obtain ⟨h1, h2⟩ := pi_comp f hf d hd
  refine ⟨?_, h1⟩
  rw [turn_tu (tuF_len _ _) d hd]
  refine ext_getD (by rw [tuF_len, tuF_len]) fun p hp => ?_
  rw [tuF_len] at hp
  rw [tu_get hp, tu_get (h2 p hp).1, tu_get hp, (h2 p hp).2]
theorem bd_perm (ns : List Int) : ∀ k, (bdF ns k).Perm ((List.range k).map fun (i : Nat) => ((13 * i + 2 : Nat) : Int))
  | 0 => .refl _
  | k + 1 => by
    rw [bdF, insF, List.range_succ, List.map_append]
    generalize ((ns.getD (k % ns.length) 0) % ((k + 1 : Nat) : Int)).toNat = j
    refine (List.perm_middle).trans ?_
    rw [List.take_append_drop]
    exact ((bd_perm ns k).cons _).trans (List.perm_append_singleton _ _).symm
theorem bd_pl (ns : List Int) : Pl (bdF ns 15) := Pl.of_perm ⟨by decide, by decide, by decide⟩ (bd_perm ns 15)
end
/-! MP4 -/
section
set_option hygiene false
/-! the plain law, 4: the few least -/
noncomputable def MinP (xs : List Int) (k : Nat) : Option Int → Prop
  | none => k = 0
  | some m => 0 < k ∧ (∃ i, i < k ∧ m = xs.getD i 0) ∧ ∀ i, i < k → m ≤ xs.getD i 0
theorem min_is (xs : List Int) : ∀ k, k ≤ xs.length → MinP xs k (minAt xs k)
  | 0, _ => rfl
  | k + 1, h => by
    have ih := min_is xs k (u_le h)
    cases hm : minAt xs k with
    | none =>
      rw [hm] at ih
      have ih : k = 0 := ih
      subst ih
      exact ⟨by decide, ⟨0, by decide, rfl⟩, fun i hi => by rw [show i = 0 by exact eq_fin hi (Nat.not_lt_of_le (Nat.le_add_left 0 i))]; exact Int.le_refl _⟩
    | some m =>
      rw [hm] at ih
      obtain ⟨_, ⟨j, hj, e⟩, h3⟩ := ih
      have e2 : minAt xs (k + 1) = if xs.getD k 0 < m then some (xs.getD k 0) else some m := by rw [minAt_s, hm]
      rw [e2]
      split
      · refine ⟨(Nat.lt_succ_of_le (Nat.le_add_left 0 k)), ⟨k, (Nat.lt_succ_self k), rfl⟩, fun i hi => ?_⟩
        by_cases e : i = k
        · rw [e]; exact Int.le_refl _
        · have := h3 i (lt_ne hi e)
          lia
      · refine ⟨(Nat.lt_succ_of_le (Nat.le_add_left 0 k)), ⟨j, (Nat.lt_of_lt_of_le hj (Nat.le_add_right k 1)), e⟩, fun i hi => ?_⟩
        by_cases e : i = k
        · rw [e]; lia
        · exact h3 i (lt_ne hi e)
theorem srt_len (xs : List Int) : (srt xs).length = xs.length := (srt_perm xs).length_eq
theorem srt_app {xs A B : List Int} (h : xs.Perm (A ++ B)) (hab : ∀ a ∈ A, ∀ b ∈ B, a ≤ b) : srt xs = srt A ++ srt B := by
  refine (srt_uniq (h.trans (((srt_perm A).append (srt_perm B)).symm)).symm ?_).symm
  rw [List.pairwise_append]
  exact ⟨srt_sorted A, srt_sorted B, fun a ha b hb => hab a ((srt_perm A).mem_iff.mp ha) b ((srt_perm B).mem_iff.mp hb)⟩
theorem srt_eq {a b : List Int} (h : a.Perm b) : srt a = srt b := (srt_uniq ((srt_perm a).trans h) (srt_sorted a))
/-- a tree's leaves are in order by what was asked -/
noncomputable def kSo (fs : List (Nat × Nat)) : PySem.W.KasT (Array Nat) → Bool
  | .ret p => adj fs p.toList
  | .ask i j k => kSo ((i, j) :: fs) (k true) && kSo ((j, i) :: fs) (k false)
where adj (fs : List (Nat × Nat)) : List Nat → Bool
  | a :: b :: r => (decide ((a, b) ∈ fs) || fs.any fun q => q.1 == a && decide ((q.2, b) ∈ fs)) && adj fs (b :: r)
  | _ => true
theorem adj_sorted {fs : List (Nat × Nat)} {v : Nat → Int} (hf : ∀ q ∈ fs, v q.1 ≤ v q.2) : ∀ l : List Nat, kSo.adj fs l = true → (l.map v).Pairwise (· ≤ ·)
  | [], _ => .nil
  | [_], _ => List.pairwise_singleton _ _
  | a :: b :: r, h => by
    have h : ((decide ((a, b) ∈ fs) || fs.any fun q => q.1 == a && decide ((q.2, b) ∈ fs)) && kSo.adj fs (b :: r)) = true := h
    rw [Bool.and_eq_true, Bool.or_eq_true] at h
    have ih := adj_sorted hf (b :: r) h.2
    have hab : v a ≤ v b := by
      rcases h.1 with h | h
      · exact hf _ (of_decide_eq_true h)
      · refine ex1 (List.any_eq_true.mp h) ?_; intro q hJ
        refine and2 hJ ?_; clear hJ; intro hq h
        rw [Bool.and_eq_true] at h
        have e := eq_of_beq h.1
        exact e ▸ Int.le_trans (hf _ hq) (hf _ (of_decide_eq_true h.2))
    rw [List.map_cons, List.pairwise_cons]
    refine ⟨fun y hy => ?_, ih⟩
    rw [List.map_cons] at hy ih
    rcases List.mem_cons.mp hy with rfl | hy
    · exact hab
    · exact Int.le_trans hab ((List.pairwise_cons.mp ih).1 y hy)
theorem kSo_eval {lt : Nat → Nat → Bool} {v : Nat → Int} (ht : ∀ i j, lt i j = true → v i ≤ v j) (hn : ∀ i j, lt i j = false → v j ≤ v i) : ∀ (t : PySem.W.KasT (Array Nat)) (fs : List (Nat × Nat)), (∀ q ∈ fs, v q.1 ≤ v q.2) → kSo fs t = true → ((kEval lt t).toList.map v).Pairwise (· ≤ ·)
  | .ret p, fs, hf, h => adj_sorted hf _ h
  | .ask i j k, fs, hf, h => by
    have h : (kSo ((i, j) :: fs) (k true) && kSo ((j, i) :: fs) (k false)) = true := h
    simp only [Bool.and_eq_true] at h
    show ((kEval lt (k (lt i j))).toList.map v).Pairwise (· ≤ ·)
    cases e : lt i j with
    | true => exact kSo_eval ht hn (k true) ((i, j) :: fs) (fun q hq => (List.mem_cons.mp hq).elim (fun h => h ▸ ht _ _ e) (hf q)) h.1
    | false => exact kSo_eval ht hn (k false) ((j, i) :: fs) (fun q hq => (List.mem_cons.mp hq).elim (fun h => h ▸ hn _ _ e) (hf q)) h.2
theorem kSo2 : kSo [] (PySem.W.kas_sort 2) = true := by decide +kernel
theorem kSo3 : kSo [] (PySem.W.kas_sort 3) = true := by decide +kernel
theorem ltP_t {p q : Int × Int} (h : ltP p q = true) : p.1 ≤ q.1 := by
  unfold ltP at h
  split at h
  · lia
  · have := of_decide_eq_true h; lia
theorem ltP_f {p q : Int × Int} (h : ltP p q = false) : q.1 ≤ p.1 := by
  unfold ltP at h
  split at h
  · lia
  · have := of_decide_eq_false h; exact Int.not_lt.mp this
theorem pSort_sorted {ps : List (Int × Int)} (h : ps.length = 2 ∨ ps.length = 3) : (pSort ps).map (·.1) = srt (ps.map (·.1)) := by
  have hk : kSo [] (PySem.W.kas_sort ps.length) = true := by
    rcases h with h | h <;> rw [h]
    · exact kSo2
    · exact kSo3
  refine srt_uniq ((pSort_perm h).map _) ?_
  have := kSo_eval (lt := fun i j => ltP (gP ps i) (gP ps j)) (v := fun i => (gP ps i).1) (fun _ _ => ltP_t) (fun _ _ => ltP_f) _ [] (fun _ hq => nomatch hq) hk
  rw [pSort, List.map_map]
  exact this
/-- the greatest is on top, and nothing is lost -/
theorem smF_top {ps : List (Int × Int)} (h : ps.length = 2 ∨ ps.length = 3) : (smF ps 0).Perm ps ∧ ∀ p ∈ smF ps 0, p.1 ≤ (gP (smF ps 0) 0).1 := by
  rcases h with h | h
  · match ps, h with
    | [a, b], _ =>
      have e : smF [a, b] 0 = if ltP b a then [a, b] else [b, a] := by
        have d1 : smDown [a, b] 0 = ([b, b], 1) := by
          rw [smDown_eq]
          show smDown [b, b] 1 = _
          rw [smDown_eq]; rfl
        rw [smF, d1]
        show sdM a 0 [b, a] 1 = _
        rw [sdM_eq]
        show (if ltP b a = true then sdM a 0 [b, b] 0 else [b, a]) = _
        rw [sdM_eq]; rfl
      rw [e]
      cases h : ltP b a with
      | true =>
        have := ltP_t h
        exact ⟨.refl _, by simp [gP]; exact this⟩
      | false =>
        have := ltP_f h
        exact ⟨.swap a b [], by simp [gP]; exact this⟩
  · match ps, h with
    | [a, b, c], _ =>
      have e : smF [a, b, c] 0 = if ltP c b = false then (if ltP c a then [a, b, c] else [c, b, a]) else (if ltP b a then [a, b, c] else [b, a, c]) := by
        have e1 : smDown [c, b, c] 2 = ([c, b, c], 2) := by rw [smDown_eq]; rfl
        have e2 : smDown [b, b, c] 1 = ([b, b, c], 1) := by rw [smDown_eq]; rfl
        have d1 : smDown [a, b, c] 0 = if ltP c b = false then ([c, b, c], 2) else ([b, b, c], 1) := by
          rw [smDown_eq]
          refine (if_pos (by show 1 < 3; decide)).trans ?_
          by_cases h : ltP c b = false
          · rw [if_pos h]
            exact (if_pos ⟨by show 2 < 3; decide, h⟩).trans e1
          · rw [if_neg h]
            exact (if_neg fun x => h x.2).trans e2
        rw [smF, d1]
        cases h : ltP c b with
        | false =>
          show sdM a 0 [c, b, a] 2 = _
          rw [sdM_eq]
          show (if ltP c a = true then sdM a 0 [c, b, c] 0 else [c, b, a]) = _
          rw [sdM_eq]; rfl
        | true =>
          show sdM a 0 [b, a, c] 1 = _
          rw [sdM_eq]
          show (if ltP b a = true then sdM a 0 [b, b, c] 0 else [b, a, c]) = _
          rw [sdM_eq]; rfl
      have hca : [c, b, a].Perm [a, b, c] := (List.reverse_perm [a, b, c])
      rw [e]
      cases h1 : ltP c b with
      | false =>
        have g1 := ltP_f h1
        rw [if_pos rfl]
        cases h2 : ltP c a with
        | true =>
          have := ltP_t h2
          exact ⟨.refl _, by simp [gP]; exact ⟨Int.le_trans g1 this, this⟩⟩
        | false =>
          have := ltP_f h2
          exact ⟨hca, by simp [gP]; exact ⟨g1, this⟩⟩
      | true =>
        have g1 := ltP_t h1
        rw [if_neg (by decide)]
        cases h2 : ltP b a with
        | true =>
          have := ltP_t h2
          exact ⟨.refl _, by simp [gP]; exact ⟨this, Int.le_trans g1 this⟩⟩
        | false =>
          have := ltP_f h2
          exact ⟨.swap a b [c], by simp [gP]; exact ⟨this, g1⟩⟩
theorem ns_loop {n : Nat} (hn : n = 2 ∨ n = 3) (xs : List Int) : ∀ (m k : Nat) (ps : List (Int × Int)) (o : Int) (R : List Int), k + m = xs.length → ps.length = n → ((ps.map (·.1)) ++ R).Perm (xs.take k) → (∀ p ∈ ps, ∀ r ∈ R, p.1 ≤ r) → (∀ p ∈ ps, p.1 ≤ (gP ps 0).1) →
    (nsLoop xs m k ps o).length = n ∧ ∃ R, (((nsLoop xs m k ps o).map (·.1)) ++ R).Perm xs ∧ ∀ p ∈ nsLoop xs m k ps o, ∀ r ∈ R, p.1 ≤ r
  | 0, k, ps, o, R, hk, hl, hp, hR, _ => ⟨hl, R, by rwa [List.take_of_length_le (by exact Nat.le_trans (Nat.le_of_eq (Eq.symm hk)) (Nat.le_refl (k + 0)))] at hp, hR⟩
  | m + 1, k, ps, o, R, hk, hl, hp, hR, ht => by
    have hx : xs.take (k + 1) = xs.take k ++ [xs.getD k 0] := by
      rw [List.take_add_one, List.getD_eq_getElem?_getD, List.getElem?_eq_getElem (suc_lt hk)]; rfl
    rw [nsL_s]
    have hps : ∃ t r, ps = t :: r := by
      match ps, (show ps.length ≠ 0 by lia) with
      | t :: r, _ => exact ⟨t, r, rfl⟩
    refine ex2 hps ?_; (try clear hps); intro t r hR1
    subst hR1
    have htop : gP (t :: r) 0 = t := rfl
    rw [htop] at ht ⊢
    generalize xs.getD k 0 = x at *
    split
    · rename_i hlt
      obtain ⟨g1, g2⟩ := smF_top (ps := (x, o) :: r) (by rw [List.length_cons] at hl ⊢; lia)
      have hmem : ∀ p ∈ smF ((x, o) :: r) 0, p = (x, o) ∨ p ∈ r := fun p hp => List.mem_cons.mp (g1.mem_iff.mp hp)
      refine ns_loop hn xs m (k + 1) _ _ (t.1 :: R) (suc_add hk) (g1.length_eq.trans hl) ?_ (fun p hp y hy => ?_) g2
      · rw [hx]
        refine ((g1.map _).append_right _).trans ?_
        rw [List.map_cons]
        refine List.Perm.trans ?_ ((hp.append_right [x]))
        rw [List.map_cons, List.cons_append, List.cons_append]
        refine List.Perm.trans ?_ (List.perm_append_singleton x _).symm
        refine .cons x ?_
        exact List.perm_middle
      · rcases hmem p hp with rfl | hpr
        · rcases List.mem_cons.mp hy with rfl | hy
          · exact Int.le_of_lt hlt
          · exact Int.le_trans (Int.le_of_lt hlt) (hR t (.head _) y hy)
        · rcases List.mem_cons.mp hy with rfl | hy
          · exact ht p (.tail _ hpr)
          · exact hR p (.tail _ hpr) y hy
    · rename_i hlt
      refine ns_loop hn xs m (k + 1) _ _ (R ++ [x]) (suc_add hk) hl ?_ (fun p hp y hy => ?_) ht
      · rw [hx, ← List.append_assoc]
        exact hp.append_right _
      · rcases List.mem_append.mp hy with hy | hy
        · exact hR p hp y hy
        · cases List.mem_singleton.mp hy
          have := ht p hp
          lia
theorem pairs0_fst {xs : List Int} : ∀ k, k ≤ xs.length → (pairs0 xs k).map (·.1) = xs.take k
  | 0, _ => rfl
  | k + 1, h => by
    rw [show pairs0 xs (k + 1) = pairs0 xs k ++ [(xs.getD k 0, (k : Int))] from rfl, List.map_append, pairs0_fst k (u_le h), List.take_add_one, List.getElem?_eq_getElem (Nat.lt_of_lt_of_le (Nat.lt_succ_self k) h)]
    show xs.take k ++ [xs.getD k 0] = _
    rw [List.getD_eq_getElem?_getD, List.getElem?_eq_getElem (Nat.lt_of_lt_of_le (Nat.lt_succ_self k) h)]
    rfl
theorem ns_is (n : Nat) (h1 : 1 ≤ n) (h3 : n ≤ 3) (xs : List Int) : nsF n xs = (srt xs).take n := by
  rw [nsF]
  split
  · rename_i h
    subst h
    have := min_is xs xs.length (Nat.le_refl _)
    cases hm : minAt xs xs.length with
    | none =>
      rw [hm] at this
      have : xs = [] := List.eq_nil_of_length_eq_zero this
      subst this
      show [] = _
      rw [List.eq_nil_of_length_eq_zero (srt_len [])]
      rfl
    | some m =>
      rw [hm] at this
      obtain ⟨h0, ⟨i, hi, e⟩, hle⟩ := this
      show [m] = _
      have hmem : m ∈ xs := by
        rw [e, List.getD_eq_getElem?_getD, List.getElem?_eq_getElem hi]
        exact List.getElem_mem _
      obtain ⟨B, hB⟩ : ∃ B, xs.Perm ([m] ++ B) := ⟨_, List.perm_cons_erase hmem⟩
      have := srt_app hB fun a ha b hb => by
        cases List.mem_singleton.mp ha
        obtain ⟨j, hj, rfl⟩ := List.mem_iff_getElem.mp (hB.mem_iff.mpr (List.mem_append_right _ hb))
        have := hle j hj
        rwa [List.getD_eq_getElem?_getD, List.getElem?_eq_getElem hj] at this
      rw [this, show srt [m] = [m] from (srt_uniq (.refl _) (List.pairwise_singleton _ _)).symm]
      rfl
  · split
    · rfl
    · rename_i hn1 hlen
      have hn : n = 2 ∨ n = 3 := by lia
      have e1 : hmF (n / 2) (pairs0 xs n) = smF (pairs0 xs n) 0 := by
        rcases hn with rfl | rfl <;> rfl
      have hpl : (pairs0 xs n).length = 2 ∨ (pairs0 xs n).length = 3 := by rw [pairs0_len]; exact hn
      obtain ⟨g1, g2⟩ := smF_top hpl
      obtain ⟨k1, R, k2, k3⟩ := ns_loop hn xs (xs.length - n) n (smF (pairs0 xs n) 0) n [] (sub_add (Nat.le_antisymm (Nat.le_refl (List.length xs - n)) (Nat.le_refl (List.length xs - n))) (gt_sub (Nat.lt_of_not_le hlen))) (by rw [g1.length_eq, pairs0_len]) (by
        rw [List.append_nil]
        exact (g1.map _).trans (by rw [pairs0_fst n (by lia)])) (fun _ _ _ hr => nomatch hr) g2
      rw [nsH, e1, pSort_sorted (by lia), srt_app k2.symm fun a ha b hb => by
        refine ex1 (List.mem_map.mp ha) ?_; intro p hJ
        refine and2 hJ ?_; clear hJ; intro hp hR2
        subst hR2
        exact k3 p hp b hb, List.take_left' (by rw [srt_len, List.length_map, k1])]
/-- the few least lie among those that have few below all others -/
theorem few_least {U N M : List Int} {few : Nat} (h : U.Perm (N ++ M)) (hM : ∀ m ∈ M, few ≤ (N.filter fun x => decide (x ≤ m)).length) : (srt U).take few = (srt N).take few := by
  have hA : ∀ a ∈ (srt N).take few, ∀ m ∈ M, a ≤ m := fun a ha m hm => Decidable.byContradiction fun hlt => by
    have h1 := hM m hm
    have h2 : (N.filter fun x => decide (x ≤ m)).length = ((srt N).filter fun x => decide (x ≤ m)).length := ((srt_perm N).symm.filter _).length_eq
    have h3 := srt_sorted N
    rw [← List.take_append_drop few (srt N)] at h2 h3
    have hB : ((srt N).drop few).filter (fun x => decide (x ≤ m)) = [] := by
      rw [List.filter_eq_nil_iff]
      intro b hb
      have := (List.pairwise_append.mp h3).2.2 a ha b hb
      rw [decide_eq_true_eq]
      lia
    rw [List.filter_append, hB, List.append_nil] at h2
    have h4 : (((srt N).take few).filter fun x => decide (x ≤ m)).length < ((srt N).take few).length := List.length_filter_lt_length_iff_exists.mpr ⟨a, ha, by rw [decide_eq_true_eq]; exact hlt⟩
    rw [List.length_take] at h4
    lia
  have hp : U.Perm ((srt N).take few ++ ((srt N).drop few ++ M)) := by
    rw [← List.append_assoc, List.take_append_drop]
    exact h.trans ((srt_perm N).symm.append_right _)
  have h3 := srt_sorted N
  rw [← List.take_append_drop few (srt N)] at h3
  have e := srt_app hp fun a ha b hb => by
    rcases List.mem_append.mp hb with hb | hb
    · exact (List.pairwise_append.mp h3).2.2 a ha b hb
    · exact hA a ha b hb
  have e2 : srt ((srt N).take few) = (srt N).take few := (srt_uniq (.refl _) ((srt_sorted N).sublist (List.take_sublist _ _))).symm
  rw [e, e2]
  by_cases hf : few ≤ N.length
  · rw [List.take_left' (by rw [List.length_take, srt_len]; lia)]
  · have hM0 : M = [] := by
      cases hM' : M with
      | nil => rfl
      | cons m r =>
        have h1 := hM m (hM' ▸ .head _)
        have h2 := List.length_filter_le (fun x => decide (x ≤ m)) N
        lia
    have hd : (srt N).drop few = [] := List.drop_of_length_le (by rw [srt_len]; lia)
    have e3 : srt ([] ++ [] : List Int) = [] := List.eq_nil_of_length_eq_zero (srt_len _)
    rw [hM0, hd, e3, List.append_nil, List.take_take, Nat.min_self]
end
/-! MS17 -/
section
set_option hygiene false
noncomputable def valOf : Stmt → Expr
  | .Assign _ v _ => v
  | _ => .Constant .none 0 default
noncomputable def orFst : Expr → Expr
  | .BoolOp _ (x :: _) _ => x
  | x => x
noncomputable abbrev lwN : List Str := ["script", "numbers", "k", "turned", "depth", "fresh", "least", "across", "number", "few", "here", "there", "under", "near", "more"]
/-- the numbers of a script -/
noncomputable def nbF (xs : List Int) : List Int := if xs = [] then [0] else (xs.take 24).map (· % 1000003)
theorem nb_len (xs : List Int) : 0 < (nbF xs).length ∧ (nbF xs).length ≤ 24 := by
  unfold nbF
  split
  · decide
  · rename_i h
    have := List.length_pos_iff.mpr h
    rw [List.length_map, List.length_take]
    lia
theorem nb_bnd (xs : List Int) (i : Nat) : 0 ≤ (nbF xs).getD i 0 ∧ (nbF xs).getD i 0 < 1000003 := by
  rw [List.getD_eq_getElem?_getD]
  cases h : (nbF xs)[i]? with
  | none => decide
  | some v =>
    have hm := List.mem_of_getElem? h
    unfold nbF at hm
    split at hm
    · cases List.mem_singleton.mp hm
      decide
    · refine ex1 (List.mem_map.mp hm) ?_; intro x hJ
      refine and2 hJ ?_; clear hJ; intro hU1 hR2
      subst hR2
      simp only [Option.getD_some]
      lia
section
variable {w : World} {A : Around} {g : Gd} {σ : Shared}
theorem law_nums {sA L : Addr} {xs : List Int} {rs : List Value} {nr : Nat} {B : Around} {Q : Value → Shared → Prop} {s : Shared} {T : Os} {vs : List (Option Value)} (hh : B.handled = none) (hz : xs.length ≤ 63) (hi : Ints rs xs) (hL : σ.heap.objs.size ≤ L)
    (e : En (g.envC 27 L) L lwN) (F : St g σ [] ((L, .ns lwN vs) :: T) s) (hv : At2 lwN vs "script" (.ref sA)) (hm : Mem T sA (.raw (listO rs nr)))
    (h : ∀ D s', σ.heap.objs.size ≤ D → St g σ [] ((L, .ns lwN vs) :: (D, .ints ((xs.take 24).map (· % 1000003))) :: T) s' → Q (.ref D) s') : Wp w B (eval (orFst (valOf (at0 (fnBody (stmtAt 27)) 0))) (g.envC 27 L)) Q NoE s := by
  refine e_lc (wp_comp (g := g) (s₀ := σ) (ms := []) ["x"] (cl := []) (by rfl) (by decide +kernel) (by rfl) (by decide +kernel) (by decide +kernel) (by decide +kernel) rfl rfl ?_)
  refine e_slc (e_loc F e hv ?_)
  refine p_none (p_some ?_)
  (refine e_int F ?_; clear F; intro tk s F)
  refine slc_list F (F.mem (.there hm)) .none p_int (by rw [hi.length]; exact Nat.le_trans hz (lb rfl)) ?_
  clear F; intro S s hS F
  replace F := F.to_ints (.of (PySem.W.kmk_upto hi.are (by decide)))
  have hSl : (xs.take 24).length ≤ 24 := by rw [List.length_take]; exact Nat.min_le_left 24 (List.length xs)
  change St g σ [] ((L, .ns lwN vs) :: (S, .ints (xs.take 24)) :: T) s at F
  generalize xs.take 24 = ys at *
  refine it_ints F (.there .here) ?_
  clear F; intro it s hit F
  refine (exi2 _ _ ⟨F, ?_⟩)
  clear F s; intro D C s hD hC F ec
  have Ki : Kit w B g σ [] ((S, .ints ys) :: T) ys.length _ (.liter S) := kit_ints hh .here rfl
  refine comp_turns grow_ints (pre := fun va => [(C, .ns ["x"] [va]), (L, .ns lwN vs)]) (fun _ => true) (fun i => ys.getD i 0 % 1000003) ys.length (Nat.le_trans hSl (lb rfl)) (fun i va s xs Q F q => Ki.self F (Mem.pre (.there .here) _) q) (fun i va s xs Q hi F h1 h2 => Ki.nx (l := [(C, .ns ["x"] [va]), (L, .ns lwN vs), (D, .ints xs)]) hit hC (.head _) hi F h1 h2) (fun i v hv => Ki.go hv) (fun v va s os Q F h => x_name (s_loc F ec .here h)) ?_ ?_ ?_ F
  · intro i v acc s Q hi hv F hq
    exact ifs0 (hq _ F)
  · intro i v acc s Q hi hv _ F hq
    refine ex1 hv ?_; (try clear hv); intro t hR3
    subst hR3
    refine e_bin (e_loc F ec .here ?_)
    (refine e_int F ?_; clear F; intro tk s F)
    refine b_modp F (by decide) ?_; (clear F; intro tk s F)
    exact hq _ _ ⟨_, rfl⟩ F
  · intro va s F
    refine (exi3 _ _ _ ⟨F, ?_⟩)
    clear F s; intro s F
    rw [flt_getD ys 0 (fun _ => true) fun x => x % 1000003, show ys.filter (fun _ => true) = ys by simp] at F
    exact h D _ hD (F.drop (a := S) (.there (.there .here)))
theorem law_a {sA L : Addr} {xs : List Int} {rs : List Value} {nr : Nat} {B : Around} {Q : Flow → Shared → Prop} {s : Shared} (hh : B.handled = none) (hz : xs.length ≤ 63) (hi : Ints rs xs) (hL : σ.heap.objs.size ≤ L)
    (e : En (g.envC 27 L) L lwN) (F : St g σ [] ((L, .ns lwN [some (.ref sA), none, none, none, none, none, none, none, none, none, none, none, none, none, none]) :: (L + 1, .cell none) :: (L + 2, .cell none) :: (L + 3, .cell none) :: (L + 4, .cell none) :: (L + 5, .cell none) :: (L + 6, .cell none) :: (L + 7, .cell none) :: (L + 8, .cell none) :: (L + 9, .cell none) :: (sA, .raw (listO rs nr)) :: []) s)
    (hQ : ∀ s' N t, St g σ [] ((L, .ns lwN [some (.ref sA), some (.ref N), none, none, none, none, none, none, none, none, none, none, none, none, none]) :: (N, .ints (nbF xs)) :: (L + 1, .cell none) :: (L + 2, .cell (some (.int (nbF xs).sum t))) :: (L + 3, .cell none) :: (L + 4, .cell none) :: (L + 5, .cell none) :: (L + 6, .cell none) :: (L + 7, .cell none) :: (L + 8, .cell none) :: (L + 9, .cell none) :: []) s' → Wp w B (execs ((fnBody (stmtAt 27)).drop 2) (g.envC 27 L)) Q NoE s') :
    Wp w B (execs (fnBody (stmtAt 27)) (g.envC 27 L)) Q NoE s := by
  refine x_as (e_or (law_nums hh hz hi hL e F (by (focus (repeat (first | with_reducible exact At2.here | apply At2.there)))) (by (focus (repeat (first | with_reducible exact Mem.here | apply Mem.there)))) ?_))
  clear F; intro D s hD F
  refine tr_ints F (.there .here) (by rw [List.length_map, List.length_take]; lia) ?_
  clear F; intro s F
  have fin : ∀ N s, σ.heap.objs.size ≤ N → St g σ [] ((L, .ns lwN [some (.ref sA), none, none, none, none, none, none, none, none, none, none, none, none, none, none]) :: (N, .ints (nbF xs)) :: (L + 1, .cell none) :: (L + 2, .cell none) :: (L + 3, .cell none) :: (L + 4, .cell none) :: (L + 5, .cell none) :: (L + 6, .cell none) :: (L + 7, .cell none) :: (L + 8, .cell none) :: (L + 9, .cell none) :: (sA, .raw (listO rs nr)) :: []) s → Wp w B (storeName (g.envC 27 L) "numbers" (.ref N)) (fun _ s₂ => Wp w B (execs ((fnBody (stmtAt 27)).drop 1) (g.envC 27 L)) Q NoE s₂) NoE s := by
    clear F s; intro N s hN F
    (refine' s_loc F e ?_ ?_; rotate_left 1; (focus (repeat (first | with_reducible exact Up2.here | apply Up2.there))); clear F; intro s F)
    refine x_as (e_call1 ?_)
    (refine' e_bi F e ?_ ?_; rotate_left 1; with_reducible constructor)
    (refine' e_loc F e ?_ ?_; rotate_left 1; (focus (repeat (first | with_reducible exact At2.here | apply At2.there))))
    refine cw_bi (k_sum hh F hL (.there .here) ?_)
    (clear F; intro tk s F)
    refine s_cell (L + 2) F (.there (.there (.there .here))) ?_
    (clear F; intro s F)
    exact hQ _ _ _ (F.drop (a := sA) (by (focus (repeat (first | with_reducible exact Del.here | apply Del.there)))))
  by_cases hx : xs = []
  · have e0 : nbF xs = [0] := by rw [nbF, if_pos hx]
    subst hx
    replace F := F.drop (a := D) (.there .here)
    refine e_list (sp_cons ?_)
    (refine e_int F ?_; clear F; intro tk s F)
    refine sp_nil ⟨by simp, _, _, _, _, _, F, ?_⟩
    clear F; intro N s hN F
    replace F := F.to_ints (xs := [0]) (.cons ⟨_, rfl⟩ .nil)
    exact fin N s hN (by rw [e0]; exact F)
  · have e0 : nbF xs = (xs.take 24).map (· % 1000003) := by rw [nbF, if_neg hx]
    rw [decide_eq_true (by rw [ne_eq, List.map_eq_nil_iff, List.take_eq_nil_iff]; simpa using hx), if_pos rfl]
    exact fin D s hD (by rw [e0]; exact F)
end
end
/-! MS18 -/
section
set_option hygiene false
section
variable {w : World} {A : Around} {g : Gd} {σ : Shared}
theorem law_b {sA N L : Addr} {ns : List Int} {ct : Option Value} {B : Around} {Q : Flow → Shared → Prop} {s : Shared} (hh : B.handled = none) (hn0 : 0 < ns.length) (hn1 : ns.length ≤ 24) (hb : ∀ i, 0 ≤ ns.getD i 0 ∧ ns.getD i 0 < 1000003) (hL : σ.heap.objs.size ≤ L)
    (e : En (g.envC 27 L) L lwN) (F : St g σ [] ((L, .ns lwN [some (.ref sA), some (.ref N), none, none, none, none, none, none, none, none, none, none, none, none, none]) :: (N, .ints ns) :: (L + 1, .cell none) :: (L + 2, .cell ct) :: (L + 3, .cell none) :: (L + 4, .cell none) :: (L + 5, .cell none) :: (L + 6, .cell none) :: (L + 7, .cell none) :: (L + 8, .cell none) :: (L + 9, .cell none) :: []) s)
    (hQ : ∀ s' P v3, St g σ [] ((L, .ns lwN [some (.ref sA), some (.ref N), v3, none, none, none, none, none, none, none, none, none, none, none, none]) :: (P, .ints (bdF ns 15)) :: (N, .ints ns) :: (L + 1, .cell none) :: (L + 2, .cell ct) :: (L + 3, .cell (some (.ref P))) :: (L + 4, .cell none) :: (L + 5, .cell none) :: (L + 6, .cell none) :: (L + 7, .cell none) :: (L + 8, .cell none) :: (L + 9, .cell none) :: []) s' → Wp w B (execs ((fnBody (stmtAt 27)).drop 4) (g.envC 27 L)) Q NoE s') :
    Wp w B (execs ((fnBody (stmtAt 27)).drop 2) (g.envC 27 L)) Q NoE s := by
  refine x_as (e_list (sp_nil ⟨by simp, _, _, _, _, _, F, ?_⟩))
  clear F; intro P s hP F
  replace F := F.to_ints (xs := []) .nil
  refine s_cell (L + 3) F (by (focus (repeat (first | with_reducible exact Up.here | apply Up.there)))) ?_
  (clear F; intro s F)
  refine x_forN (n := 15) (kit := fun i => .riter i ((15 - i : Nat) : Int) 1) F (fun i vs T => ∃ v3, vs = [some (.ref sA), some (.ref N), v3, none, none, none, none, none, none, none, none, none, none, none, none] ∧ T = (P, .ints (bdF ns i)) :: (N, .ints ns) :: (L + 1, .cell none) :: (L + 2, .cell ct) :: (L + 3, .cell (some (.ref P))) :: (L + 4, .cell none) :: (L + 5, .cell none) :: (L + 6, .cell none) :: (L + 7, .cell none) :: (L + 8, .cell none) :: (L + 9, .cell none) :: []) hL (fun _ _ _ _ => kit_range hh) ⟨none, rfl, rfl⟩ ?_ ?_ ?_
  · refine e_call1 ?_
    (refine' e_bi F e ?_ ?_; rotate_left 1; with_reducible constructor)
    (refine e_int F ?_; clear F; intro tk s F)
    exact cw_ty (first_rng F (by decide))
  · clear F s
    intro i vs T it s v hi hI7 hI8 F J hJ
    refine ex1 hI7 ?_; (try clear hI7); intro v3 hJ
    refine and2 hJ ?_; clear hJ; intro hR1 hR2
    subst hR1
    subst hR2
    refine ex1 hI8 ?_; (try clear hI8); intro t hR3
    subst hR3
    have hl : (bdF ns i).length = i := bd_len ns i
    (refine' s_loc F e ?_ ?_; rotate_left 1; (focus (repeat (first | with_reducible exact Up2.here | apply Up2.there))); clear F; intro s F)
    refine x_expr (e_met2 ?_)
    refine e_cell (L + 3) F (by (focus (repeat (first | with_reducible exact Mem.here | apply Mem.there)))) ?_
    refine ⟨_, rcv_list (F.mem (by (focus (repeat (first | with_reducible exact Mem.here | apply Mem.there))) : Mem _ P (.ints (bdF ns i)))).choose_spec.choose_spec.1 PySem.F.slot_list_insert PySem.F.type_list_insert, ?_⟩
    refine e_bin (e_sub ?_)
    (refine' e_loc F e ?_ ?_; rotate_left 1; (focus (repeat (first | with_reducible exact At2.here | apply At2.there))))
    refine e_bin ?_
    (refine' e_loc F e ?_ ?_; rotate_left 1; (focus (repeat (first | with_reducible exact At2.here | apply At2.there))))
    refine e_call1 ?_
    (refine' e_bi F e ?_ ?_; rotate_left 1; with_reducible constructor)
    (refine' e_loc F e ?_ ?_; rotate_left 1; (focus (repeat (first | with_reducible exact At2.here | apply At2.there))))
    refine cw_bi (len_ints F (by (focus (repeat (first | with_reducible exact Mem.here | apply Mem.there)))) (Nat.lt_of_le_of_lt hn1 (lb rfl)) ?_)
    (clear F; intro tk s F)
    refine b_modp F (i_lt hn0) ?_; (clear F; intro tk s F)
    have hm := Int.emod_nonneg (i : Int) (show (ns.length : Int) ≠ 0 by lia)
    have hm2 := Int.emod_lt_of_pos (i : Int) (show (0 : Int) < ns.length by exact i_lt hn0)
    refine sub_ints F (by (focus (repeat (first | with_reducible exact Mem.here | apply Mem.there)))) hm hm2 (Nat.lt_of_le_of_lt hn1 (lb rfl)) fun t2 => ?_
    refine e_bin ?_
    (refine' e_loc F e ?_ ?_; rotate_left 1; (focus (repeat (first | with_reducible exact At2.here | apply At2.there))))
    (refine e_int F ?_; clear F; intro tk s F)
    refine b_add F ?_; (clear F; intro tk s F)
    refine b_modp F (by lia) ?_; (clear F; intro tk s F)
    refine e_bin (e_bin ?_)
    (refine e_int F ?_; clear F; intro tk s F)
    (refine' e_loc F e ?_ ?_; rotate_left 1; (focus (repeat (first | with_reducible exact At2.here | apply At2.there))))
    refine b_mul F ?_; (clear F; intro tk s F)
    (refine e_int F ?_; clear F; intro tk s F)
    refine b_add F ?_; (clear F; intro tk s F)
    have hk0 := Int.emod_nonneg (ns.getD (((i : Int) % ns.length).toNat) 0) (show (i : Int) + 1 ≠ 0 by lia)
    have hk1 := Int.emod_lt_of_pos (ns.getD (((i : Int) % ns.length).toNat) 0) (show (0 : Int) < (i : Int) + 1 by lia)
    refine k_insert (k := ((ns.getD (((i : Int) % ns.length).toNat) 0) % ((i : Int) + 1)).toNat) F (by (focus (repeat (first | with_reducible exact Up.here | apply Up.there)))) (tN_sym hk0) (by lia) (Nat.le_trans (Nat.le_of_eq hl) (Nat.le_trans (Nat.le_of_lt hi) (lb rfl))) ?_
    (clear F; intro s F)
    have e1 : (((i : Int) % ns.length).toNat) = i % ns.length := by rw [← Int.natCast_emod, Int.toNat_natCast]
    rw [e1] at F
    exact x_nil (hJ _ _ _ ⟨_, rfl, rfl⟩ F)
  · intro vs T s hI3 F
    refine ex1 hI3 ?_; (try clear hI3); intro v3 hJ
    refine and2 hJ ?_; clear hJ; intro hR4 hR5
    subst hR4
    subst hR5
    exact hQ _ _ _ F
end
end
/-! MS19 -/
section
set_option hygiene false
noncomputable abbrev lwS (L sA N R P FL : Addr) (ns : List Int) (pl : List Int) (f : List Nat) (v3 v5 v6 v7 : Option Value) (cx ct : Option Value) : Os :=
  (L, .ns lwN [some (.ref sA), some (.ref N), v3, some (.ref R), v5, v6, v7, none, none, none, none, none, none, none, none]) :: (R, .ints (tuF f pl)) :: (P, .ints pl) :: (FL, .ints (csI f)) :: (N, .ints ns) :: (L + 1, .cell cx) :: (L + 2, .cell ct) :: (L + 3, .cell (some (.ref P))) :: (L + 4, .cell (some (.ref FL))) :: (L + 5, .cell none) :: (L + 6, .cell none) :: (L + 7, .cell none) :: (L + 8, .cell none) :: (L + 9, .cell none) :: []
section
variable {w : World} {A : Around} {g : Gd} {σ : Shared}
theorem law_c {sA N P L : Addr} {ns pl : List Int} {tt : Int} {t : Tok} {v3 : Option Value} {B : Around} {Q : Flow → Shared → Prop} {s : Shared} (hh : B.handled = none) (hB : B.depth + 10 < recursionLimit) (hn1 : ns.length ≤ 24) (hpl : Pl pl) (hL : σ.heap.objs.size ≤ L)
    (e : En (g.envC 27 L) L lwN) (F : St g σ [] ((L, .ns lwN [some (.ref sA), some (.ref N), v3, none, none, none, none, none, none, none, none, none, none, none, none]) :: (P, .ints pl) :: (N, .ints ns) :: (L + 1, .cell none) :: (L + 2, .cell (some (.int tt t))) :: (L + 3, .cell (some (.ref P))) :: (L + 4, .cell none) :: (L + 5, .cell none) :: (L + 6, .cell none) :: (L + 7, .cell none) :: (L + 8, .cell none) :: (L + 9, .cell none) :: []) s)
    (hQ : ∀ s' R FL v5, St g σ [] (lwS L sA N R P FL ns (hfF 7 pl) (flF tt) v3 v5 none none none (some (.int tt t))) s' → Wp w B (execs ((fnBody (stmtAt 27)).drop 9) (g.envC 27 L)) Q NoE s') :
    Wp w B (execs ((fnBody (stmtAt 27)).drop 4) (g.envC 27 L)) Q NoE s := by
  have hf := fl_of tt
  refine x_as (e_call1 ?_)
  (refine' e_bi F e ?_ ?_; rotate_left 1; with_reducible constructor)
  refine e_cell (L + 3) F (by (focus (repeat (first | with_reducible exact Mem.here | apply Mem.there)))) ?_
  refine cw_ty (k_list_ints F (by (focus (repeat (first | with_reducible exact Mem.here | apply Mem.there)))) (by rw [hpl.len]; decide) ?_)
  clear F; intro R s hR F
  (refine' s_loc F e ?_ ?_; rotate_left 1; (focus (repeat (first | with_reducible exact Up2.here | apply Up2.there))); clear F; intro s F)
  refine x_as (e_lc (comp_n (g := g) (s₀ := σ) (ms := []) (n := 3) (cl := [("total", L + 2)]) F.shape grow_ints (kit_range hh) (fun _ => true) (fun d => (((tt / 2 ^ d % 2).toNat : Nat) : Int)) (by decide) (by rfl) (by decide +kernel) (by rfl) (by decide +kernel) (by decide +kernel) rfl rfl ?_ ?_ ?_ ?_))
  · refine e_call1 ?_
    (refine' e_bi F e ?_ ?_; rotate_left 1; with_reducible constructor)
    (refine e_int F ?_; clear F; intro tk s F)
    exact cw_ty (first_rng F (by decide))
  · clear F s
    intro C D it i v acc s Q hi hv e F hq
    exact ifs0 (hq _ F)
  · clear F s
    intro C D it i v acc s Q hi hv _ hC e F hq
    refine ex1 hv ?_; (try clear hv); intro tv hR1
    subst hR1
    refine e_bin (e_bin ?_)
    refine e_cell (L + 2) F (by (focus (repeat (first | with_reducible exact Mem.here | apply Mem.there)))) ?_
    refine e_bin ?_
    (refine e_int F ?_; clear F; intro tk s F)
    refine e_loc F e .here ?_
    refine b_pow F (Int.natCast_nonneg i) (i_le (Nat.le_trans (Nat.le_of_lt hi) (lb rfl))) (by decide) (by decide) (by decide) ?_; (clear F; intro tk s F)
    rw [Int.toNat_natCast]
    have hp : (0 : Int) < 2 ^ i ∧ (2 : Int) ^ i < 1000000 := by
      have : i = 0 ∨ i = 1 ∨ i = 2 := by lia
      rcases this with rfl | rfl | rfl <;> decide
    refine b_fdiv F hp.1 hp.2 ?_; (clear F; intro tk s F)
    (refine e_int F ?_; clear F; intro tk s F)
    refine b_modp F (by decide) ?_; (clear F; intro tk s F)
    exact hq _ _ ⟨_, by rw [Int.toNat_of_nonneg (Int.emod_nonneg _ (by decide))]⟩ F
  · clear F s
    intro C FL va s hC hFL F
    refine (exi3 _ _ _ ⟨F, ?_⟩)
    clear F s; intro s F
    refine s_cell (L + 4) F (by (focus (repeat (first | with_reducible exact Up.here | apply Up.there)))) ?_
    (clear F; intro s F)
    have hdep : B.depth + 2 < recursionLimit := (d_lt hB (lb rfl))
    change St g σ [] ((L, _) :: (FL, .ints (csI (flF tt))) :: (R, _) :: _) s at F
    generalize flF tt = f at *
    have hst := fi_step f hf
    have h3 : fiF f 3 = f := (hst 0 (by decide)).2.2.2
    replace F := F.perm (os' := _ :: (R, .ints (tuF (fiF f 0) pl)) :: (P, _) :: (FL, _) :: _) (by
      rw [show fiF f 0 = [0, 0, 0] from rfl, tu_zero hpl]
      exact List.Perm.cons _ ((List.Perm.cons _ (List.Perm.swap ..)).trans (List.Perm.swap ..)))
    refine x_forN (n := 3) (kit := fun i => .riter i ((3 - i : Nat) : Int) 1) F (fun i vs T => ∃ R v5, vs = [some (.ref sA), some (.ref N), v3, some (.ref R), v5, none, none, none, none, none, none, none, none, none, none] ∧ T = (R, .ints (tuF (fiF f i) pl)) :: (P, .ints pl) :: (FL, .ints (csI f)) :: (N, .ints ns) :: (L + 1, .cell none) :: (L + 2, .cell (some (.int tt t))) :: (L + 3, .cell (some (.ref P))) :: (L + 4, .cell (some (.ref FL))) :: (L + 5, .cell none) :: (L + 6, .cell none) :: (L + 7, .cell none) :: (L + 8, .cell none) :: (L + 9, .cell none) :: []) hL (fun _ _ _ _ => kit_range hh) ⟨R, none, rfl, rfl⟩ ?_ ?_ ?_
    · refine e_call1 ?_
      (refine' e_bi F e ?_ ?_; rotate_left 1; with_reducible constructor)
      (refine e_int F ?_; clear F; intro tk s F)
      exact cw_ty (first_rng F (by decide))
    · clear F s hR R
      intro i vs T it s v hi hI7 hI8 F J hJ
      refine ex2 hI7 ?_; (try clear hI7); intro R v5 hJ
      refine and2 hJ ?_; clear hJ; intro hR2 hR3
      subst hR2
      subst hR3
      refine ex1 hI8 ?_; (try clear hI8); intro t4 hR4
      subst hR4
      obtain ⟨s1, s2, s3, _⟩ := hst i hi
      (refine' s_loc F e ?_ ?_; rotate_left 1; (focus (repeat (first | with_reducible exact Up2.here | apply Up2.there))); clear F; intro s F)
      refine x_if (t_cmp (e_sub ?_))
      refine e_cell (L + 4) F (by (focus (repeat (first | with_reducible exact Mem.here | apply Mem.there)))) ?_
      (refine' e_loc F e ?_ ?_; rotate_left 1; (focus (repeat (first | with_reducible exact At2.here | apply At2.there))))
      have hcl := csI_len hf
      refine sub_ints F (by (focus (repeat (first | with_reducible exact Mem.here | apply Mem.there)))) (Int.natCast_nonneg i) (i_lt (Nat.lt_of_lt_of_le hi (Nat.le_of_eq (Eq.symm hcl)))) (Nat.lt_of_le_of_lt (Nat.le_of_eq hcl) (lb rfl)) fun t2 => ?_
      rw [Int.toNat_natCast, csI_get]
      (refine e_int F ?_; clear F; intro tk s F)
      by_cases h1 : f.getD i 0 = 1
      · refine c_eqy (by lia) ?_
        refine x_as (e_call2 (e_fn 23 F e ?_))
        (refine' e_loc F e ?_ ?_; rotate_left 1; (focus (repeat (first | with_reducible exact At2.here | apply At2.there))))
        (refine' e_loc F e ?_ ?_; rotate_left 1; (focus (repeat (first | with_reducible exact At2.here | apply At2.there))))
        refine cw_fn F.inv (by decide) (lawturn_spec F.inv hh hdep (F.mem (by (focus (repeat (first | with_reducible exact Mem.here | apply Mem.there))) : Mem _ R (.ints (tuF (fiF f i) pl)))) (F.low (R, .ints _) (Mem.mem (by (focus (repeat (first | with_reducible exact Mem.here | apply Mem.there)))))) (tu_byts hpl s3) (tuF_len _ _) (by lia)) ?_
        intro v s hI2
        refine ex1 hI2 ?_; (try clear hI2); intro r hJ
        refine and5 hJ ?_; clear hJ; intro hR5 ha hi' hr hk
        subst hR5
        replace F := F.got ha hi' hk hr
        (refine' s_loc F e ?_ ?_; rotate_left 1; (focus (repeat (first | with_reducible exact Up2.here | apply Up2.there))); clear F; intro s F)
        rw [(tu_turn hpl s3 hi).1, s1 h1] at F
        replace F := F.drop (a := R) (by (focus (repeat (first | with_reducible exact Del.here | apply Del.there))))
        replace F := F.perm (os' := _ :: _ :: _ :: _) (List.Perm.cons _ (List.Perm.swap ..))
        exact x_nil (x_nil (hJ _ _ _ ⟨r, _, rfl, rfl⟩ F))
      · refine c_eqn (by lia) ?_
        rw [← s2 h1] at F
        exact x_nil (x_nil (hJ _ _ _ ⟨R, _, rfl, rfl⟩ F))
    · clear F s R hR
      intro vs T s hI3 F
      refine ex2 hI3 ?_; (try clear hI3); intro R v5 hJ
      refine and2 hJ ?_; clear hJ; intro hR6 hR7
      subst hR6
      subst hR7
      rw [h3] at F
      obtain ⟨k1, k2, k3⟩ := tu_heapify hpl hf
      refine x_expr (e_call1 (e_fn 14 F e ?_))
      refine e_cell (L + 3) F (by (focus (repeat (first | with_reducible exact Mem.here | apply Mem.there)))) ?_
      refine cw_fn F.inv (by decide) (heapify_spec F.inv hh hdep (F.mem (by (focus (repeat (first | with_reducible exact Mem.here | apply Mem.there))) : Mem _ P (.ints pl))) (F.low (P, .ints pl) (Mem.mem (by (focus (repeat (first | with_reducible exact Mem.here | apply Mem.there)))))) (by rw [hpl.len]; decide)) ?_
      intro v s hI2
      refine and4 hI2 ?_; (try clear hI2); intro hR8 ha hi hk
      subst hR8
      replace F := F.after1 (by (focus (repeat (first | with_reducible exact Up.here | apply Up.there)))) ha hi hk
      rw [hpl.len] at F
      refine x_expr (e_call1 (e_fn 14 F e ?_))
      (refine' e_loc F e ?_ ?_; rotate_left 1; (focus (repeat (first | with_reducible exact At2.here | apply At2.there))))
      refine cw_fn F.inv (by decide) (heapify_spec F.inv hh hdep (F.mem (by (focus (repeat (first | with_reducible exact Mem.here | apply Mem.there))) : Mem _ R (.ints (tuF f pl)))) (F.low (R, .ints (tuF f pl)) (Mem.mem (by (focus (repeat (first | with_reducible exact Mem.here | apply Mem.there)))))) (by rw [tuF_len]; decide)) ?_
      intro v s hI2
      refine and4 hI2 ?_; (try clear hI2); intro hR9 ha hi hk
      subst hR9
      replace F := F.after1 (by (focus (repeat (first | with_reducible exact Up.here | apply Up.there)))) ha hi hk
      rw [tuF_len] at F
      change St g σ [] (_ :: (R, .ints (hfF 7 (tuF f pl))) :: (P, .ints (hfF 7 pl)) :: _) s at F
      rw [k1] at F
      exact hQ _ _ _ _ F
end
end
/-! MS20 -/
section
set_option hygiene false
section
variable {w : World} {A : Around} {g : Gd} {σ : Shared}
theorem law_d {sA N R P FL L : Addr} {ns pl : List Int} {f : List Nat} {v3 v5 ct : Option Value} {B : Around} {Q : Flow → Shared → Prop} {s : Shared} (hh : B.handled = none) (hB : B.depth + 10 < recursionLimit) (hn1 : ns.length ≤ 24) (hpl : Pl pl) (hhp : Hp pl) (hf : Fl f) (hL : σ.heap.objs.size ≤ L)
    (e : En (g.envC 27 L) L lwN) (F : St g σ [] (lwS L sA N R P FL ns pl f v3 v5 none none none ct) s)
    (hQ : ∀ s' R pl f v5 v6 v7 cx, Pl pl → Hp pl → Fl f → St g σ [] (lwS L sA N R P FL ns pl f v3 v5 v6 v7 cx ct) s' → Wp w B (execs ((fnBody (stmtAt 27)).drop 10) (g.envC 27 L)) Q NoE s') :
    Wp w B (execs ((fnBody (stmtAt 27)).drop 9) (g.envC 27 L)) Q NoE s := by
  refine x_forS (kit := fun S => .liter S) (Item := fun i v => IsI v ((ns.take 8).getD i 0)) (n := (ns.take 8).length) (g := g) (s₀ := σ) (ms := []) (nl := lwN) (L := L) (fun S i vs T => ∃ R pl f v6 v7 cx, Pl pl ∧ Hp pl ∧ Fl f ∧ vs = [some (.ref sA), some (.ref N), v3, some (.ref R), v5, v6, v7, none, none, none, none, none, none, none, none] ∧
    T = (S, .ints (ns.take 8)) :: (R, .ints (tuF f pl)) :: (P, .ints pl) :: (FL, .ints (csI f)) :: (N, .ints ns) :: (L + 1, .cell cx) :: (L + 2, .cell ct) :: (L + 3, .cell (some (.ref P))) :: (L + 4, .cell (some (.ref FL))) :: (L + 5, .cell none) :: (L + 6, .cell none) :: (L + 7, .cell none) :: (L + 8, .cell none) :: (L + 9, .cell none) :: []) hL (fun S i vs T hP => ?_) ?_ ?_ ?_
  · refine ex6 hP ?_; (try clear hP); intro R pl f v6 v7 cx hJ
    refine and5 hJ ?_; clear hJ; intro hU1 hU2 hU3 hU4 hR5
    subst hR5
    exact kit_ints hh .here rfl
  · refine e_slc ?_
    (refine' e_loc F e ?_ ?_; rotate_left 1; (focus (repeat (first | with_reducible exact At2.here | apply At2.there))))
    refine p_none (p_some ?_)
    (refine e_int F ?_; clear F; intro tk s F)
    refine slc_ints_upto F (by (focus (repeat (first | with_reducible exact Mem.here | apply Mem.there)))) (Nat.le_trans hn1 (lb rfl)) (by decide) ?_
    clear F; intro S s hS F
    refine it_ints F (.there .here) ?_
    clear F; intro it s hit F
    exact ⟨S, it, _, _, rfl, hit, exi6 R pl f _ _ _ ⟨hpl, hhp, hf, rfl, rfl⟩, F⟩
  · clear F s
    intro S i vs T it s v hi hI8 hI9 F J hJ
    refine ex6 hI8 ?_; (try clear hI8); intro R pl f v6 v7 cx hJ
    refine and5 hJ ?_; clear hJ; intro hpl hhp hf hR6 hR7
    subst hR6
    subst hR7
    refine ex1 hI9 ?_; (try clear hI9); intro t hR8
    subst hR8
    generalize (ns.take 8).getD i 0 = x at *
    have hm0 := Int.emod_nonneg x (show (4 : Int) ≠ 0 by decide)
    have hm4 := Int.emod_lt_of_pos x (show (0 : Int) < 4 by decide)
    have hcl := csI_len hf
    refine s_cell (L + 1) F (by (focus (repeat (first | with_reducible exact Up.here | apply Up.there)))) ?_
    (clear F; intro s F)
    refine x_if (t_cmp (e_bin ?_))
    refine e_cell (L + 1) F (by (focus (repeat (first | with_reducible exact Mem.here | apply Mem.there)))) ?_
    (refine e_int F ?_; clear F; intro tk s F)
    refine b_modp F (by decide) ?_; (clear F; intro tk s F)
    (refine e_int F ?_; clear F; intro tk s F)
    by_cases h3 : x % 4 < 3
    · refine c_lty h3 ?_
      obtain ⟨d, hd⟩ : ∃ d : Nat, x % 4 = d := ⟨(x % 4).toNat, (tN_sym hm0)⟩
      refine x_as (e_call2 (e_fn 23 F e ?_))
      (refine' e_loc F e ?_ ?_; rotate_left 1; (focus (repeat (first | with_reducible exact At2.here | apply At2.there))))
      refine e_bin ?_
      refine e_cell (L + 1) F (by (focus (repeat (first | with_reducible exact Mem.here | apply Mem.there)))) ?_
      (refine e_int F ?_; clear F; intro tk s F)
      refine b_modp F (by decide) ?_; (clear F; intro tk s F)
      rw [hd]
      refine cw_fn F.inv (by decide) (lawturn_spec F.inv hh (d_lt hB (lb rfl)) (F.mem (by (focus (repeat (first | with_reducible exact Mem.here | apply Mem.there))) : Mem _ R (.ints (tuF f pl)))) (F.low (R, .ints (tuF f pl)) (Mem.mem (by (focus (repeat (first | with_reducible exact Mem.here | apply Mem.there)))))) (tu_byts hpl hf) (tuF_len _ _) (by lia)) ?_
      intro v s hI2
      refine ex1 hI2 ?_; (try clear hI2); intro r hJ
      refine and5 hJ ?_; clear hJ; intro hR9 ha hi' hr hk
      subst hR9
      replace F := F.got ha hi' hk hr
      (refine' s_loc F e ?_ ?_; rotate_left 1; (focus (repeat (first | with_reducible exact Up2.here | apply Up2.there))); clear F; intro s F)
      obtain ⟨k1, k2⟩ := tu_turn hpl hf (show d < 3 by lia)
      rw [k1] at F
      replace F := F.drop (a := R) (by (focus (repeat (first | with_reducible exact Del.here | apply Del.there))))
      refine x_asub (e_bin ?_)
      (refine e_int F ?_; clear F; intro tk s F)
      refine e_sub ?_
      refine e_cell (L + 4) F (by (focus (repeat (first | with_reducible exact Mem.here | apply Mem.there)))) ?_
      refine e_bin ?_
      refine e_cell (L + 1) F (by (focus (repeat (first | with_reducible exact Mem.here | apply Mem.there)))) ?_
      (refine e_int F ?_; clear F; intro tk s F)
      refine b_modp F (by decide) ?_; (clear F; intro tk s F)
      rw [hd]
      refine sub_ints F (by (focus (repeat (first | with_reducible exact Mem.here | apply Mem.there)))) (Int.natCast_nonneg d) (by lia) (Nat.lt_of_le_of_lt (Nat.le_of_eq hcl) (lb rfl)) fun t2 => ?_
      rw [Int.toNat_natCast, csI_get]
      refine b_sub F ?_; (clear F; intro tk s F)
      refine e_cell (L + 4) F (by (focus (repeat (first | with_reducible exact Mem.here | apply Mem.there)))) ?_
      refine e_bin ?_
      refine e_cell (L + 1) F (by (focus (repeat (first | with_reducible exact Mem.here | apply Mem.there)))) ?_
      (refine e_int F ?_; clear F; intro tk s F)
      refine b_modp F (by decide) ?_; (clear F; intro tk s F)
      rw [hd]
      refine set_ints F (by (focus (repeat (first | with_reducible exact Up.here | apply Up.there)))) (Int.natCast_nonneg d) (by lia) (Nat.lt_of_le_of_lt (Nat.le_of_eq hcl) (lb rfl)) ?_
      (clear F; intro s F)
      rw [Int.toNat_natCast, csI_flp f hf d (by lia)] at F
      replace F := F.perm (os' := _ :: (it, _) :: (S, _) :: (r, _) :: _) (List.Perm.cons _ ((List.Perm.cons _ (List.Perm.swap ..)).trans (List.Perm.swap ..)))
      exact x_nil (x_nil (hJ _ _ _ (exi6 r pl _ _ _ _ ⟨hpl, hhp, k2, rfl, rfl⟩) F))
    · refine c_ltn h3 ?_
      have hq4 : 0 ≤ x / 4 % 200 ∧ x / 4 % 200 < 200 := ⟨em0 (by decide), eml (by decide)⟩
      refine x_as (e_bin (e_bin ?_))
      refine e_cell (L + 1) F (by (focus (repeat (first | with_reducible exact Mem.here | apply Mem.there)))) ?_
      (refine e_int F ?_; clear F; intro tk s F)
      refine b_fdiv F (by decide) (by decide) ?_; (clear F; intro tk s F)
      (refine e_int F ?_; clear F; intro tk s F)
      refine b_modp F (by decide) ?_; (clear F; intro tk s F)
      (refine' s_loc F e ?_ ?_; rotate_left 1; (focus (repeat (first | with_reducible exact Up2.here | apply Up2.there))); clear F; intro s F)
      generalize x / 4 % 200 = q at *
      have hc0 : cntF pl q ≤ 15 := by
        refine Nat.le_trans (List.length_filter_le _ _) ?_
        rw [hpl.len]
        exact Nat.le_refl _
      refine x_while (fun m s => ∃ fr tf, q ≤ fr ∧ m = cntF pl fr ∧ fr + m ≤ q + 15 ∧ St g σ [] ((L, .ns lwN [some (.ref sA), some (.ref N), v3, some (.ref R), v5, some (.int fr tf), v7, none, none, none, none, none, none, none, none]) :: (it, .liter S (i + 1)) :: (S, .ints (ns.take 8)) :: (R, .ints (tuF f pl)) :: (P, .ints pl) :: (FL, .ints (csI f)) :: (N, .ints ns) :: (L + 1, .cell (some (.int x t))) :: (L + 2, .cell ct) :: (L + 3, .cell (some (.ref P))) :: (L + 4, .cell (some (.ref FL))) :: (L + 5, .cell none) :: (L + 6, .cell none) :: (L + 7, .cell none) :: (L + 8, .cell none) :: (L + 9, .cell none) :: []) s) (cntF pl q) ⟨q, _, Int.le_refl _, rfl, by lia, F⟩ ?_
      clear F s
      intro m s hI2 K hK
      refine ex2 hI2 ?_; (try clear hI2); intro fr tf hJ
      refine and4 hJ ?_; clear hJ; intro hq hm hfm F
      refine t_cmp ?_
      (refine' e_loc F e ?_ ?_; rotate_left 1; (focus (repeat (first | with_reducible exact At2.here | apply At2.there))))
      refine e_cell (L + 3) F (by (focus (repeat (first | with_reducible exact Mem.here | apply Mem.there)))) ?_
      refine c_inl F (by (focus (repeat (first | with_reducible exact Mem.here | apply Mem.there)))) ?_
      by_cases hin : fr ∈ pl
      · first | refine br_y (decide_eq_true hin) ?_ | refine if_y (decide_eq_true hin) ?_ | rw [decide_eq_true hin, if_pos rfl]
        refine x_as (e_bin ?_)
        (refine' e_loc F e ?_ ?_; rotate_left 1; (focus (repeat (first | with_reducible exact At2.here | apply At2.there))))
        (refine e_int F ?_; clear F; intro tk s F)
        refine b_add F ?_; (clear F; intro tk s F)
        (refine' s_loc F e ?_ ?_; rotate_left 1; (focus (repeat (first | with_reducible exact Up2.here | apply Up2.there))); clear F; intro s F)
        have hlt := cnt_lt fr pl hin
        exact x_nil (hK (cntF pl (fr + 1)) _ (Nat.lt_of_lt_of_le hlt (Nat.le_of_eq (Eq.symm hm))) ⟨fr + 1, _, (Int.le_add_one hq), rfl, by lia, F⟩)
      · first | refine br_n (decide_eq_false hin) ?_ | refine if_n (decide_eq_false hin) ?_ | rw [decide_eq_false hin, if_neg (by decide)]
        clear hK
        obtain ⟨l1, l2⟩ := hp_least hpl hhp
        obtain ⟨r1, r2, r3⟩ := tu_replace hpl hhp hf hin (Int.le_trans hq4.left hq) (by lia)
        refine x_as (e_call1 ?_)
        (refine' e_bi F e ?_ ?_; rotate_left 1; with_reducible constructor)
        refine e_cell (L + 3) F (by (focus (repeat (first | with_reducible exact Mem.here | apply Mem.there)))) ?_
        refine cw_bi (k_min1 hh F hL (by (focus (repeat (first | with_reducible exact Mem.here | apply Mem.there)))) (by rw [hpl.len]; decide) l1 l2 ?_)
        (clear F; intro tk s F)
        (refine' s_loc F e ?_ ?_; rotate_left 1; (focus (repeat (first | with_reducible exact Up2.here | apply Up2.there))); clear F; intro s F)
        refine x_if (t_or (t_cmp (e_call2 (e_fn 13 F e ?_))))
        (refine' e_loc F e ?_ ?_; rotate_left 1; (focus (repeat (first | with_reducible exact At2.here | apply At2.there))))
        (refine' e_loc F e ?_ ?_; rotate_left 1; (focus (repeat (first | with_reducible exact At2.here | apply At2.there))))
        refine cw_fn F.inv (by decide) (heapreplace_spec (x := fr) F.inv (d_lt hB (lb rfl)) (F.mem (by (focus (repeat (first | with_reducible exact Mem.here | apply Mem.there))) : Mem _ R (.ints (tuF f pl)))) (F.low (R, .ints (tuF f pl)) (Mem.mem (by (focus (repeat (first | with_reducible exact Mem.here | apply Mem.there)))))) (by rw [tuF_len]; decide) (by rw [tuF_len]; decide)) ?_
        rintro v s ⟨⟨t5, rfl⟩, ha, hi', hk⟩
        replace F := F.after1 (by (focus (repeat (first | with_reducible exact Up.here | apply Up.there)))) ha hi' hk
        (refine' e_loc F e ?_ ?_; rotate_left 1; (focus (repeat (first | with_reducible exact At2.here | apply At2.there))))
        refine c_nen (tu_root hpl hf) ?_
        refine t_cmp (e_call2 (e_fn 13 F e ?_))
        refine e_cell (L + 3) F (by (focus (repeat (first | with_reducible exact Mem.here | apply Mem.there)))) ?_
        (refine' e_loc F e ?_ ?_; rotate_left 1; (focus (repeat (first | with_reducible exact At2.here | apply At2.there))))
        refine cw_fn F.inv (by decide) (heapreplace_spec (x := fr) F.inv (d_lt hB (lb rfl)) (F.mem (by (focus (repeat (first | with_reducible exact Mem.here | apply Mem.there))) : Mem _ P (.ints pl))) (F.low (P, .ints pl) (Mem.mem (by (focus (repeat (first | with_reducible exact Mem.here | apply Mem.there)))))) (by rw [hpl.len]; decide) (by rw [hpl.len]; decide)) ?_
        rintro v s ⟨⟨t6, rfl⟩, ha, hi', hk⟩
        replace F := F.after1 (by (focus (repeat (first | with_reducible exact Up.here | apply Up.there)))) ha hi' hk
        (refine' e_loc F e ?_ ?_; rotate_left 1; (focus (repeat (first | with_reducible exact At2.here | apply At2.there))))
        refine c_nen rfl ?_
        change St g σ [] (_ :: _ :: _ :: (R, .ints (suF ((tuF f pl).set 0 fr) 0)) :: (P, .ints (suF (pl.set 0 fr) 0)) :: _) s at F
        rw [r1] at F
        exact x_nil (x_nil (x_nil (hJ _ _ _ (exi6 R _ f _ _ _ ⟨r2, r3, hf, rfl, rfl⟩) F)))
  · clear F s
    intro S vs T s hI4 F
    refine ex6 hI4 ?_; (try clear hI4); intro R pl f v6 v7 cx hJ
    refine and5 hJ ?_; clear hJ; intro hpl hhp hf hR10 hR11
    subst hR10
    subst hR11
    exact hQ _ _ _ _ _ _ _ _ hpl hhp hf (F.drop (a := S) (by (focus (repeat (first | with_reducible exact Del.here | apply Del.there)))))
end
end
/-! MS21 -/
section
set_option hygiene false
theorem nm_ix : ∀ f ∈ [[0, 0, 0], [0, 0, 1], [0, 1, 0], [0, 1, 1], [1, 0, 0], [1, 0, 1], [1, 1, 0], [1, 1, 1]], ∀ i < 15, nmL[piF f i]? = some (flN f (nmL.getD i [])) ∧ ∀ m < piF f i, nmL[m]? ≠ some (flN f (nmL.getD i [])) := by decide +kernel
theorem nm_ch : ∀ l ∈ nmL, l.length ≤ 3 ∧ ∀ k < l.length, l.getD k 0 = 97 ∨ l.getD k 0 = 98 := by decide
theorem fl_01 : ∀ f ∈ [[0, 0, 0], [0, 0, 1], [0, 1, 0], [0, 1, 1], [1, 0, 0], [1, 0, 1], [1, 1, 0], [1, 1, 1]], ∀ k < 3, f.getD k 0 = 0 ∨ f.getD k 0 = 1 := by decide
theorem oc_ab : ∀ c, c = 97 ∨ c = 98 → PySem.Builtin.Str.occurrences (oS [97, 98]) (oS [c]) 0 (oS [97, 98]).length 1 = [c - 97] := by
  rintro c (rfl | rfl) <;> decide +kernel
noncomputable abbrev lwT (L sA N R P FL NM : Addr) (ns : List Int) (pl : List Int) (f : List Nat) (v3 v5 v6 v7 v8 : Option Value) (cx ct : Option Value) : Os :=
  (L, .ns lwN [some (.ref sA), some (.ref N), v3, some (.ref R), v5, v6, v7, v8, none, none, none, none, none, none, none]) :: (NM, .strs (nmL.map oS)) :: (R, .ints (tuF f pl)) :: (P, .ints pl) :: (FL, .ints (csI f)) :: (N, .ints ns) :: (L + 1, .cell cx) :: (L + 2, .cell ct) :: (L + 3, .cell (some (.ref P))) :: (L + 4, .cell (some (.ref FL))) :: (L + 5, .cell (some (.ref NM))) :: (L + 6, .cell none) :: (L + 7, .cell none) :: (L + 8, .cell none) :: (L + 9, .cell none) :: []
section
variable {w : World} {A : Around} {g : Gd} {σ : Shared}
theorem law_e {sA N R P FL L : Addr} {ns pl : List Int} {f : List Nat} {v3 v5 v6 v7 cx ct : Option Value} {B : Around} {Q : Flow → Shared → Prop} {s : Shared} (hh : B.handled = none) (hB : B.depth + 10 < recursionLimit) (hu : B.units < cLine) (hpl : Pl pl) (hf : Fl f) (hL : σ.heap.objs.size ≤ L)
    (e : En (g.envC 27 L) L lwN) (F : St g σ [] (lwS L sA N R P FL ns pl f v3 v5 v6 v7 cx ct) s)
    (hQ : ∀ s' NM v8, St g σ [] (lwT L sA N R P FL NM ns pl f v3 v5 v6 v7 v8 cx ct) s' → Wp w B (execs ((fnBody (stmtAt 27)).drop 13) (g.envC 27 L)) Q NoE s') :
    Wp w B (execs ((fnBody (stmtAt 27)).drop 10) (g.envC 27 L)) Q NoE s := by
  have hfl := fl_len f hf
  have hcl := csI_len hf
  have hf01 := fl_01 f hf
  have hix := nm_ix f hf
  refine x_as (e_call0 (e_fn 24 F e ?_))
  refine cw_fn F.inv (by decide) (lawnames_spec F.inv hh (u_lt hB)) ?_
  intro v s hI2
  refine ex1 hI2 ?_; (try clear hI2); intro NM hJ
  refine and5 hJ ?_; clear hJ; intro hR1 ha hi hr hk
  subst hR1
  rw [nm_acc] at hk
  replace F := F.got ha hi hk hr
  refine s_cell (L + 5) F (by (focus (repeat (first | with_reducible exact Up.here | apply Up.there)))) ?_
  (clear F; intro s F)
  refine x_aslc (comp_c (g := g) (s₀ := σ) (ms := []) (n := 15) (cl := [("flips", L + 4)]) F.shape grow_strs (kit_strs hh .here rfl) (fun _ => true) (fun i => oS (flN f (nmL.getD i []))) (by decide) (by rfl) rfl (by decide +kernel) (by rfl) (by decide +kernel) (fun C => by kernel_rfl) rfl rfl ?_ ?_ ?_ ?_)
  · refine e_cell (L + 5) F (by (focus (repeat (first | with_reducible exact Mem.here | apply Mem.there)))) ?_
    exact first_list F (F.mem (.there .here)).choose_spec.choose_spec.1
  · clear F s
    intro C D it i v acc s Q hi hv _ e F hq
    exact ifs0 (hq _ F)
  · clear F s
    intro C D it i v acc s Q hi hv _ hC e F hq
    have hmem : nmL.getD i [] ∈ nmL := by
      rw [List.getD_eq_getElem?_getD, List.getElem?_eq_getElem (show i < nmL.length from hi)]
      exact List.getElem_mem _
    obtain ⟨hl3, hch⟩ := nm_ch _ hmem
    have hg : (nmL.map oS).getD i Str.empty = oS (nmL.getD i []) := by
      rw [List.getD_eq_getElem?_getD, List.getElem?_map, List.getD_eq_getElem?_getD, List.getElem?_eq_getElem (show i < nmL.length from hi)]
      rfl
    rw [hg] at hv
    refine ex1 hv ?_; (try clear hv); intro t1 hR2
    subst hR2
    generalize nmL.getD i [] = l at *
    refine e_met1 (e_lit lit_e F ?_); (clear F; intro tk s F)
    refine ⟨_, rcv_str PySem.F.slot_str_join PySem.F.type_str_join, ?_⟩
    refine e_lc (comp_n (g := g) (s₀ := σ) (ms := []) (n := l.length) (cl := [("name", C + 1), ("flips", L + 4)]) F.shape grow_strs (kit_range hh) (fun _ => true) (fun k => oS [if (l.getD k 0 - 97 + f.getD k 0) % 2 = 0 then 97 else 98]) (Nat.le_trans hl3 (lb rfl)) (by rfl) (by decide +kernel) (by rfl) (by decide +kernel) (by decide +kernel) rfl rfl ?_ ?_ ?_ ?_)
    · refine e_call1 ?_
      (refine' e_bi F e ?_ ?_; rotate_left 1; with_reducible constructor)
      refine e_call1 ?_
      (refine' e_bi F e ?_ ?_; rotate_left 1; with_reducible constructor)
      refine e_cell (C + 1) F (by (focus (repeat (first | with_reducible exact Mem.here | apply Mem.there)))) ?_
      refine cw_bi (len_str' F (by rw [oS_len]; exact Nat.le_trans hl3 (lb rfl)) ?_)
      rw [oS_len]
      (clear F; intro tk s F)
      exact cw_ty (first_rng F (Nat.le_trans hl3 (lb rfl)))
    · clear F s hq
      intro C2 D2 it2 k v acc2 s Q2 hk hv e2 F hq
      exact ifs0 (hq _ F)
    · clear F s hq
      intro C2 D2 it2 k v acc2 s Q2 hk hv _ hC2 e F hq
      refine ex1 hv ?_; (try clear hv); intro tk hR3
      subst hR3
      have hc := hch k hk
      refine e_sub (e_lit lit_ab F ?_); (clear F; intro tk s F)
      refine e_bin (e_bin (e_met1 (e_lit lit_ab F ?_))); (clear F; intro tk s F)
      refine ⟨_, rcv_str PySem.F.slot_str_index PySem.F.type_str_index, ?_⟩
      refine e_sub ?_
      refine e_cell (C + 1) F (by (focus (repeat (first | with_reducible exact Mem.here | apply Mem.there)))) ?_
      refine e_loc F e .here ?_
      refine sub_s F (k := k) (c := l.getD k 0) rfl (getD_some hk) (Nat.le_trans hl3 (lb rfl)) ?_
      (clear F; intro tk s F)
      generalize l.getD k 0 = c at *
      refine k_index1 F (oc_ab c hc) ?_
      (clear F; intro tk s F)
      refine e_sub ?_
      refine e_cell (L + 4) F (by (focus (repeat (first | with_reducible exact Mem.here | apply Mem.there)))) ?_
      refine e_loc F e .here ?_
      refine sub_ints F (by (focus (repeat (first | with_reducible exact Mem.here | apply Mem.there)))) (Int.natCast_nonneg k) (i_lt (Nat.lt_of_lt_of_le hk (Nat.le_trans hl3 (Nat.le_of_eq (Eq.symm hcl))))) (Nat.lt_of_le_of_lt (Nat.le_of_eq hcl) (lb rfl)) fun t2 => ?_
      rw [Int.toNat_natCast, csI_get]
      have hb := hf01 k (Nat.lt_of_lt_of_le hk hl3)
      generalize f.getD k 0 = b at *
      refine b_add F ?_; (clear F; intro tk s F)
      (refine e_int F ?_; clear F; intro tk s F)
      refine b_modp F (by decide) ?_; (clear F; intro tk s F)
      refine sub_s F (k := (c - 97 + b) % 2) (c := if (c - 97 + b) % 2 = 0 then 97 else 98) (by lia) (by rcases hc with rfl | rfl <;> rcases hb with rfl | rfl <;> rfl) (by decide) ?_
      (clear F; intro tk s F)
      exact hq _ _ ⟨_, rfl⟩ F
    · clear F s
      intro C2 D2 va s hC2 hD2 F
      refine (exi3 _ _ _ ⟨F, ?_⟩)
      clear F s; intro s F
      rw [show ((List.range l.length).filter fun _ => true) = List.range l.length by simp] at F
      rw [show (List.range l.length).map (fun k => oS [if (l.getD k 0 - 97 + f.getD k 0) % 2 = 0 then 97 else 98]) = ((flN f l).map fun c => [c]).map oS by rw [flN, List.map_map, List.map_map]; rfl] at F
      have hfn : ((flN f l).map fun c => [c]).flatten = flN f l := by
        induction flN f l with
        | nil => rfl
        | cons c r ih => rw [List.map_cons, List.flatten_cons, ih]; rfl
      have hfz : (flN f l).length ≤ 3 := by rw [flN, List.length_map, List.length_range]; exact hl3
      refine k_join F (.there .here) (jok_oS _ (by rw [hfn]; exact Nat.le_trans hfz (lb rfl))) ?_
      rw [join_oS, hfn]
      (clear F; intro tk s F)
      replace F := F.drop (a := D2) (.there .here)
      exact hq _ _ ⟨_, rfl⟩ F
  · clear F s
    intro C AC va s hC hAC F
    replace F := F.drop (a := C + 1) (.there .here)
    replace F := F.swap
    show Wp w B (assign _ _ (.ref AC)) _ _ s
    refine x_name ?_
    (refine' s_loc F e ?_ ?_; rotate_left 1; (focus (repeat (first | with_reducible exact Up2.here | apply Up2.there))); clear F; intro s F)
    refine ⟨_, _, _, F.swap, ?_⟩
    clear F s; intro s F
    rw [show ((List.range 15).filter fun _ => true) = List.range 15 from rfl] at F
    have hal : ((List.range 15).map fun i => oS (flN f (nmL.getD i []))).length = 15 := by rw [List.length_map, List.length_range]
    have hag : ∀ i, i < 15 → ((List.range 15).map fun i => oS (flN f (nmL.getD i []))).getD i Str.empty = oS (flN f (nmL.getD i [])) := fun i hi => by
      rw [List.getD_eq_getElem?_getD, List.getElem?_map, List.getElem?_range hi]
      rfl
    generalize ((List.range 15).map fun i => oS (flN f (nmL.getD i []))) = acr at *
    refine x_if (t_cmp ?_)
    (refine' e_loc F e ?_ ?_; rotate_left 1; (focus (repeat (first | with_reducible exact At2.here | apply At2.there))))
    refine e_lc (comp_n (g := g) (s₀ := σ) (ms := []) (n := 15) (cl := [("plain", L + 3), ("names", L + 5)]) F.shape grow_ints (kit_strs hh .here hal) (fun _ => true) (fun i => pl.getD (piF f i) 0) (by decide) (by rfl) (by decide +kernel) (by rfl) (by decide +kernel) (by decide +kernel) rfl rfl ?_ ?_ ?_ ?_)
    · (refine' e_loc F e ?_ ?_; rotate_left 1; (focus (repeat (first | with_reducible exact At2.here | apply At2.there))))
      exact first_list F (F.mem (.there .here)).choose_spec.choose_spec.1
    · clear F s
      intro C D it i v acc s Q hi hv e F hq
      exact ifs0 (hq _ F)
    · clear F s
      intro C D it i v acc s Q hi hv _ hC e F hq
      rw [hag i hi] at hv
      refine ex1 hv ?_; (try clear hv); intro tv hR4
      subst hR4
      obtain ⟨x1, x2⟩ := hix i hi
      have hpi : piF f i < 15 := (List.getElem?_eq_some_iff.mp x1).1
      refine e_sub ?_
      refine e_cell (L + 3) F (by (focus (repeat (first | with_reducible exact Mem.here | apply Mem.there)))) ?_
      refine e_met1 ?_
      refine e_cell (L + 5) F (by (focus (repeat (first | with_reducible exact Mem.here | apply Mem.there)))) ?_
      refine ex2 (F.mem (by (focus (repeat (first | with_reducible exact Mem.here | apply Mem.there))) : Mem _ NM (.strs (nmL.map oS)))) ?_; intro vs m hJ
      refine and2 hJ ?_; clear hJ; intro ho hs
      refine ⟨_, rcv_list ho PySem.F.slot_list_index PySem.F.type_list_index, ?_⟩
      refine e_loc F e .here ?_
      refine k_lindex (j := piF f i) F ho hs (by rw [List.length_map]; decide) (by rw [List.getElem?_map, x1]; rfl) (fun m hm hx => ?_) ?_
      · rw [List.getElem?_map] at hx
        cases h : nmL[m]? with
        | none => rw [h] at hx; cases hx
        | some l =>
          rw [h] at hx
          refine x2 m hm ?_
          rw [h]
          exact congrArg some (oS_inj.mp (Option.some.inj hx))
      clear ho; (clear F; intro tk s F)
      refine sub_ints F (by (focus (repeat (first | with_reducible exact Mem.here | apply Mem.there)))) (Int.natCast_nonneg (piF f i)) (by rw [hpl.len]; exact i_lt hpi) (by rw [hpl.len]; decide) fun t2 => ?_
      rw [Int.toNat_natCast]
      exact hq _ _ ⟨_, rfl⟩ F
    · clear F s
      intro C D va s hC hD F
      refine (exi3 _ _ _ ⟨F, ?_⟩)
      clear F s; intro s F
      refine c_lne F (by (focus (repeat (first | with_reducible exact Mem.here | apply Mem.there)))) (.there .here) hu ?_
      rw [show ((List.range 15).filter fun _ => true) = List.range 15 from rfl, show decide (tuF f pl = (List.range 15).map fun i => pl.getD (piF f i) 0) = true from decide_eq_true rfl]
      replace F := F.drop (a := D) (.there .here)
      replace F := F.drop (a := AC) (.there .here)
      exact x_nil (hQ _ _ _ F)
end
end
/-! MS22 -/
section
set_option hygiene false
theorem lw0 : Str.ofString "a" = oS [97] := by decide +kernel
theorem lw1 : Str.ofString "b" = oS [98] := by decide +kernel
theorem lw3 : Str.ofString "[ab]" = oS [91, 97, 98, 93] := by decide +kernel
theorem lw4 : Str.ofString "[!a]" = oS [91, 33, 97, 93] := by decide +kernel
theorem lw5 : Str.ofString "[!b]" = oS [91, 33, 98, 93] := by decide +kernel
theorem lw6 : Str.ofString "[a-b]" = oS [91, 97, 45, 98, 93] := by decide +kernel
theorem lw7 : Str.ofString "[b-a]" = oS [91, 98, 45, 97, 93] := by decide +kernel
theorem lw8 : Str.ofString "[!b-a]" = oS [91, 33, 98, 45, 97, 93] := by decide +kernel
noncomputable abbrev wrS : List Str := (List.range 9).map fun k => oS (wrt k)
noncomputable abbrev tkS : List Str := (List.range 9).map fun k => oS (tks k)
noncomputable abbrev chI : List Int := [1, 0, 2, 3, 5, 4, 6, 7, 8]
noncomputable abbrev lwU (L sA N R P FL NM W TK CH : Addr) (ns : List Int) (pl : List Int) (f : List Nat) (v3 v5 v6 v7 v8 : Option Value) (cx ct : Option Value) : Os :=
  (L, .ns lwN [some (.ref sA), some (.ref N), v3, some (.ref R), v5, v6, v7, v8, none, none, none, none, none, none, none]) :: (CH, .ints chI) :: (TK, .strs tkS) :: (W, .strs wrS) :: (NM, .strs (nmL.map oS)) :: (R, .ints (tuF f pl)) :: (P, .ints pl) :: (FL, .ints (csI f)) :: (N, .ints ns) :: (L + 1, .cell cx) :: (L + 2, .cell ct) :: (L + 3, .cell (some (.ref P))) :: (L + 4, .cell (some (.ref FL))) :: (L + 5, .cell (some (.ref NM))) :: (L + 6, .cell (some (.ref W))) :: (L + 7, .cell (some (.ref TK))) :: (L + 8, .cell (some (.ref CH))) :: (L + 9, .cell none) :: []
section
variable {w : World} {A : Around} {g : Gd} {σ : Shared}
theorem law_f {sA N R P FL NM L : Addr} {ns pl : List Int} {f : List Nat} {v3 v5 v6 v7 v8 cx ct : Option Value} {B : Around} {Q : Flow → Shared → Prop} {s : Shared}
    (e : En (g.envC 27 L) L lwN) (F : St g σ [] (lwT L sA N R P FL NM ns pl f v3 v5 v6 v7 v8 cx ct) s)
    (hQ : ∀ s' W TK CH, St g σ [] (lwU L sA N R P FL NM W TK CH ns pl f v3 v5 v6 v7 v8 cx ct) s' → Wp w B (execs ((fnBody (stmtAt 27)).drop 16) (g.envC 27 L)) Q NoE s') :
    Wp w B (execs ((fnBody (stmtAt 27)).drop 13) (g.envC 27 L)) Q NoE s := by
  refine x_as (e_list (sp_cons (e_lit lw0 F ?_))); (clear F; intro tk s F)
  refine sp_cons (e_lit lw1 F ?_); (clear F; intro tk s F)
  refine sp_cons (e_lit lit_qm F ?_); (clear F; intro tk s F)
  refine sp_cons (e_lit lw3 F ?_); (clear F; intro tk s F)
  refine sp_cons (e_lit lw4 F ?_); (clear F; intro tk s F)
  refine sp_cons (e_lit lw5 F ?_); (clear F; intro tk s F)
  refine sp_cons (e_lit lw6 F ?_); (clear F; intro tk s F)
  refine sp_cons (e_lit lw7 F ?_); (clear F; intro tk s F)
  refine sp_cons (e_lit lw8 F ?_); (clear F; intro tk s F)
  refine sp_nil ⟨by simp, _, _, _, _, _, F, ?_⟩
  clear F; intro W s hW F
  replace F := F.to_strs (xs := wrS) (.cons ⟨_, rfl⟩ (.cons ⟨_, rfl⟩ (.cons ⟨_, rfl⟩ (.cons ⟨_, rfl⟩ (.cons ⟨_, rfl⟩ (.cons ⟨_, rfl⟩ (.cons ⟨_, rfl⟩ (.cons ⟨_, rfl⟩ (.cons ⟨_, rfl⟩ .nil)))))))))
  refine s_cell (L + 6) F (by (focus (repeat (first | with_reducible exact Up.here | apply Up.there)))) ?_
  (clear F; intro s F)
  refine x_as (e_list (sp_cons (e_lit lw0 F ?_))); (clear F; intro tk s F)
  refine sp_cons (e_lit lw1 F ?_); (clear F; intro tk s F)
  refine sp_cons (e_lit lit_ab F ?_); (clear F; intro tk s F)
  refine sp_cons (e_lit lit_ab F ?_); (clear F; intro tk s F)
  refine sp_cons (e_lit lw1 F ?_); (clear F; intro tk s F)
  refine sp_cons (e_lit lw0 F ?_); (clear F; intro tk s F)
  refine sp_cons (e_lit lit_ab F ?_); (clear F; intro tk s F)
  refine sp_cons (e_lit lit_e F ?_); (clear F; intro tk s F)
  refine sp_cons (e_lit lit_ab F ?_); (clear F; intro tk s F)
  refine sp_nil ⟨by simp, _, _, _, _, _, F, ?_⟩
  clear F; intro TK s hTK F
  replace F := F.to_strs (xs := tkS) (.cons ⟨_, rfl⟩ (.cons ⟨_, rfl⟩ (.cons ⟨_, rfl⟩ (.cons ⟨_, rfl⟩ (.cons ⟨_, rfl⟩ (.cons ⟨_, rfl⟩ (.cons ⟨_, rfl⟩ (.cons ⟨_, rfl⟩ (.cons ⟨_, rfl⟩ .nil)))))))))
  refine s_cell (L + 7) F (by (focus (repeat (first | with_reducible exact Up.here | apply Up.there)))) ?_
  (clear F; intro s F)
  refine x_as (e_list (sp_cons ?_))
  (refine e_int F ?_; clear F; intro tk s F)
  iterate 8 (refine sp_cons ?_; (refine e_int F ?_; clear F; intro tk s F))
  refine sp_nil ⟨by simp, _, _, _, _, _, F, ?_⟩
  clear F; intro CH s hCH F
  replace F := F.to_ints (xs := chI) (.cons ⟨_, rfl⟩ (.cons ⟨_, rfl⟩ (.cons ⟨_, rfl⟩ (.cons ⟨_, rfl⟩ (.cons ⟨_, rfl⟩ (.cons ⟨_, rfl⟩ (.cons ⟨_, rfl⟩ (.cons ⟨_, rfl⟩ (.cons ⟨_, rfl⟩ .nil)))))))))
  refine s_cell (L + 8) F (by (focus (repeat (first | with_reducible exact Up.here | apply Up.there)))) ?_
  (clear F; intro s F)
  exact hQ _ _ _ _ F
end
end
/-! MS23 -/
section
set_option hygiene false
/-- the kinds that a number tells -/
noncomputable def kdF (x : Int) : List Nat := (List.range (x % 4).toNat).map fun k => (x / (4 * 9 ^ k) % 9).toNat
theorem kd_len (x : Int) : (kdF x).length ≤ 3 := by
  rw [kdF, List.length_map, List.length_range]
  lia
theorem kd_lt (x : Int) : ∀ k ∈ kdF x, k < 9 := by
  intro k hk
  refine ex1 (List.mem_map.mp hk) ?_; intro j hJ
  refine and2 hJ ?_; clear hJ; intro hU1 hR2
  subst hR2
  lia
/-- the body of the loop over the numbers -/
noncomputable def nbBody : List Stmt := bodyOf (at0 (fnBody (stmtAt 27)) 16)
section
variable {w : World} {A : Around} {g : Gd} {σ : Shared}
theorem law_g1 {sA N R P FL NM W TK CH L it : Addr} {ns pl : List Int} {f : List Nat} {tt : Int} {tc : Tok} {nb : Nat} {tn : Tok} {kit : K} {v3 v5 v6 v7 v8 v10 v11 v12 v13 v14 v15 cx c9 : Option Value} {B : Around} {Q : Flow → Shared → Prop} {s : Shared} (hh : B.handled = none) (hn0 : 0 < ns.length) (hn1 : ns.length ≤ 24) (hb : ∀ i, 0 ≤ ns.getD i 0 ∧ ns.getD i 0 < 1000003) (hnb : nb < 3) (hL : σ.heap.objs.size ≤ L)
    (e : En (g.envC 27 L) L lwN) (F : St g σ [] ((L, .ns lwN [some (.ref sA), some (.ref N), v3, some (.ref R), v5, v6, v7, v8, some (.int nb tn), v10, v11, v12, v13, v14, v15]) :: (it, kit) :: (CH, .ints chI) :: (TK, .strs tkS) :: (W, .strs wrS) :: (NM, .strs (nmL.map oS)) :: (R, .ints (tuF f pl)) :: (P, .ints pl) :: (FL, .ints (csI f)) :: (N, .ints ns) :: (L + 1, .cell cx) :: (L + 2, .cell (some (.int tt tc))) :: (L + 3, .cell (some (.ref P))) :: (L + 4, .cell (some (.ref FL))) :: (L + 5, .cell (some (.ref NM))) :: (L + 6, .cell (some (.ref W))) :: (L + 7, .cell (some (.ref TK))) :: (L + 8, .cell (some (.ref CH))) :: (L + 9, .cell c9) :: []) s)
    (hQ : ∀ s' KD x few tf cx, 1 ≤ few → few ≤ 3 → St g σ [] ((L, .ns lwN [some (.ref sA), some (.ref N), v3, some (.ref R), v5, v6, v7, v8, some (.int nb tn), some (.int ((few : Nat) : Int) tf), v11, v12, v13, v14, v15]) :: (KD, .ints (csI (kdF x))) :: (it, kit) :: (CH, .ints chI) :: (TK, .strs tkS) :: (W, .strs wrS) :: (NM, .strs (nmL.map oS)) :: (R, .ints (tuF f pl)) :: (P, .ints pl) :: (FL, .ints (csI f)) :: (N, .ints ns) :: (L + 1, .cell cx) :: (L + 2, .cell (some (.int tt tc))) :: (L + 3, .cell (some (.ref P))) :: (L + 4, .cell (some (.ref FL))) :: (L + 5, .cell (some (.ref NM))) :: (L + 6, .cell (some (.ref W))) :: (L + 7, .cell (some (.ref TK))) :: (L + 8, .cell (some (.ref CH))) :: (L + 9, .cell (some (.ref KD))) :: []) s' → Wp w B (execs (nbBody.drop 3) (g.envC 27 L)) Q NoE s') :
    Wp w B (execs nbBody (g.envC 27 L)) Q NoE s := by
  refine x_as (e_bin (e_sub ?_))
  (refine' e_loc F e ?_ ?_; rotate_left 1; (focus (repeat (first | with_reducible exact At2.here | apply At2.there))))
  refine e_bin ?_
  (refine' e_loc F e ?_ ?_; rotate_left 1; (focus (repeat (first | with_reducible exact At2.here | apply At2.there))))
  refine e_call1 ?_
  (refine' e_bi F e ?_ ?_; rotate_left 1; with_reducible constructor)
  (refine' e_loc F e ?_ ?_; rotate_left 1; (focus (repeat (first | with_reducible exact At2.here | apply At2.there))))
  refine cw_bi (len_ints F (by (focus (repeat (first | with_reducible exact Mem.here | apply Mem.there)))) (Nat.lt_of_le_of_lt hn1 (lb rfl)) ?_)
  (clear F; intro tk s F)
  refine b_modp F (i_lt hn0) ?_; (clear F; intro tk s F)
  have hm := Int.emod_nonneg (nb : Int) (show (ns.length : Int) ≠ 0 by lia)
  have hm2 := Int.emod_lt_of_pos (nb : Int) (show (0 : Int) < ns.length by exact i_lt hn0)
  refine sub_ints F (by (focus (repeat (first | with_reducible exact Mem.here | apply Mem.there)))) hm hm2 (Nat.lt_of_le_of_lt hn1 (lb rfl)) fun t2 => ?_
  refine e_bin ?_
  (refine e_int F ?_; clear F; intro tk s F)
  (refine' e_loc F e ?_ ?_; rotate_left 1; (focus (repeat (first | with_reducible exact At2.here | apply At2.there))))
  refine b_mul F ?_; (clear F; intro tk s F)
  refine b_add F ?_; (clear F; intro tk s F)
  generalize ns.getD ((nb : Int) % ns.length).toNat 0 + 5 * nb = x at F
  refine s_cell (L + 1) F (by (focus (repeat (first | with_reducible exact Up.here | apply Up.there)))) ?_
  (clear F; intro s F)
  refine x_as (e_lc (comp_n (g := g) (s₀ := σ) (ms := []) (n := (x % 4).toNat) (cl := [("x", L + 1)]) F.shape grow_ints (kit_range hh) (fun _ => true) (fun k => (((x / (4 * 9 ^ k) % 9).toNat : Nat) : Int)) (by lia) (by rfl) (by decide +kernel) (by rfl) (by decide +kernel) (by decide +kernel) rfl rfl ?_ ?_ ?_ ?_))
  · refine e_call1 ?_
    (refine' e_bi F e ?_ ?_; rotate_left 1; with_reducible constructor)
    refine e_bin ?_
    refine e_cell (L + 1) F (by (focus (repeat (first | with_reducible exact Mem.here | apply Mem.there)))) ?_
    (refine e_int F ?_; clear F; intro tk s F)
    refine b_modp F (by decide) ?_; (clear F; intro tk s F)
    rw [show x % 4 = (((x % 4).toNat : Nat) : Int) by exact tN_sym (em0 (by decide))]
    exact cw_ty (first_rng F (by lia))
  · clear F s
    intro C D it i v acc s Q hi hv e F hq
    exact ifs0 (hq _ F)
  · clear F s
    intro C D it i v acc s Q hi hv _ hC e F hq
    refine ex1 hv ?_; (try clear hv); intro tv hR3
    subst hR3
    have hi3 : i = 0 ∨ i = 1 ∨ i = 2 := by lia
    refine e_bin (e_bin ?_)
    refine e_cell (L + 1) F (by (focus (repeat (first | with_reducible exact Mem.here | apply Mem.there)))) ?_
    refine e_bin ?_
    (refine e_int F ?_; clear F; intro tk s F)
    refine e_bin ?_
    (refine e_int F ?_; clear F; intro tk s F)
    refine e_loc F e .here ?_
    refine b_pow F (Int.natCast_nonneg i) (by lia) (by decide) (by decide) (by decide) ?_; (clear F; intro tk s F)
    rw [Int.toNat_natCast]
    refine b_mul F ?_ (IntMulOk.of_left (by decide)); (clear F; intro tk s F)
    have hp : (0 : Int) < 4 * 9 ^ i ∧ (4 : Int) * 9 ^ i < 1000000 := by rcases hi3 with rfl | rfl | rfl <;> decide
    refine b_fdiv F hp.1 hp.2 ?_; (clear F; intro tk s F)
    (refine e_int F ?_; clear F; intro tk s F)
    refine b_modp F (by decide) ?_; (clear F; intro tk s F)
    exact hq _ _ ⟨_, by rw [Int.toNat_of_nonneg (Int.emod_nonneg _ (by decide))]⟩ F
  · clear F s
    intro C KD va s hC hKD F
    refine ⟨_, _, _, F, ?_⟩
    clear F s; intro s F
    refine s_cell (L + 9) F (by (focus (repeat (first | with_reducible exact Up.here | apply Up.there)))) ?_
    (clear F; intro s F)
    rw [show ((List.range (x % 4).toNat).filter fun _ => true) = List.range (x % 4).toNat by simp, show ((List.range (x % 4).toNat).map fun k => (((x / (4 * 9 ^ k) % 9).toNat : Nat) : Int)) = csI (kdF x) by rw [csI, kdF, List.map_map]; rfl] at F
    refine x_as (e_bin ?_)
    (refine e_int F ?_; clear F; intro tk s F)
    refine e_bin (e_bin ?_)
    refine e_cell (L + 2) F (by (focus (repeat (first | with_reducible exact Mem.here | apply Mem.there)))) ?_
    (refine' e_loc F e ?_ ?_; rotate_left 1; (focus (repeat (first | with_reducible exact At2.here | apply At2.there))))
    refine b_add F ?_; (clear F; intro tk s F)
    (refine e_int F ?_; clear F; intro tk s F)
    refine b_modp F (by decide) ?_; (clear F; intro tk s F)
    refine b_add F ?_; (clear F; intro tk s F)
    (refine' s_loc F e ?_ ?_; rotate_left 1; (focus (repeat (first | with_reducible exact Up2.here | apply Up2.there))); clear F; intro s F)
    obtain ⟨few, hfew⟩ : ∃ few : Nat, 1 + (tt + nb) % 3 = few := ⟨(1 + (tt + nb) % 3).toNat, by lia⟩
    rw [hfew] at F
    exact hQ _ _ _ few _ _ (by lia) (by lia) F
end
end
/-! MS24 -/
section
set_option hygiene false
theorem wr_get (k : Nat) (h : k < 9) : wrS.getD k Str.empty = oS (wrt k) := by
  rw [List.getD_eq_getElem?_getD, List.getElem?_map, List.getElem?_range h]
  rfl
theorem tk_get (k : Nat) (h : k < 9) : tkS.getD k Str.empty = oS (tks k) := by
  rw [List.getD_eq_getElem?_getD, List.getElem?_map, List.getElem?_range h]
  rfl
theorem csI_item {ks : List Nat} {i : Nat} {v : Value} (hv : IsI v ((csI ks).getD i 0)) : IsI v ((ks.getD i 0 : Nat) : Int) := by rwa [csI_get] at hv
theorem kd_get {ks : List Nat} (hks : ∀ k ∈ ks, k < 9) (i : Nat) (h : i < ks.length) : ks.getD i 0 < 9 := by
  rw [List.getD_eq_getElem?_getD, List.getElem?_eq_getElem h]
  exact hks _ (List.getElem_mem h)
theorem map_getD {α β : Type} (l : List α) (d : α) (h : α → β) : ((List.range l.length).filter fun _ => true).map (fun i => h (l.getD i d)) = l.map h := by
  rw [flt_getD l d (fun _ => true) h, show l.filter (fun _ => true) = l by simp]
section
variable {w : World} {A : Around} {g : Gd} {σ : Shared}
/-- the tail of a turn's ledger -/
noncomputable abbrev tlG (L N R P FL NM W TK CH KD it : Addr) (kit : K) (ns : List Int) (pl : List Int) (f ks : List Nat) (cx ct : Option Value) : Os :=
  (KD, .ints (csI ks)) :: (it, kit) :: (CH, .ints chI) :: (TK, .strs tkS) :: (W, .strs wrS) :: (NM, .strs (nmL.map oS)) :: (R, .ints (tuF f pl)) :: (P, .ints pl) :: (FL, .ints (csI f)) :: (N, .ints ns) :: (L + 1, .cell cx) :: (L + 2, .cell ct) :: (L + 3, .cell (some (.ref P))) :: (L + 4, .cell (some (.ref FL))) :: (L + 5, .cell (some (.ref NM))) :: (L + 6, .cell (some (.ref W))) :: (L + 7, .cell (some (.ref TK))) :: (L + 8, .cell (some (.ref CH))) :: (L + 9, .cell (some (.ref KD))) :: []
theorem law_g2 {sA N R P FL NM W TK CH KD L it : Addr} {ns pl : List Int} {f ks : List Nat} {kit : K} {v3 v5 v6 v7 v8 v9 v10 v11 v12 v13 v14 v15 cx ct : Option Value} {B : Around} {Q : Flow → Shared → Prop} {s : Shared} (hh : B.handled = none) (hf : Fl f) (hks : ∀ k ∈ ks, k < 9) (hkl : ks.length ≤ 3) (hL : σ.heap.objs.size ≤ L)
    (e : En (g.envC 27 L) L lwN) (F : St g σ [] ((L, .ns lwN [some (.ref sA), some (.ref N), v3, some (.ref R), v5, v6, v7, v8, v9, v10, v11, v12, v13, v14, v15]) :: tlG L N R P FL NM W TK CH KD it kit ns pl f ks cx ct) s)
    (hQ : ∀ s' t1, St g σ [] ((L, .ns lwN [some (.ref sA), some (.ref N), v3, some (.ref R), v5, v6, v7, v8, v9, v10, some (.str (oS (ks.flatMap wrt)) t1), v12, v13, v14, v15]) :: tlG L N R P FL NM W TK CH KD it kit ns pl f ks cx ct) s' → Wp w B (execs (nbBody.drop 4) (g.envC 27 L)) Q NoE s') :
    Wp w B (execs (nbBody.drop 3) (g.envC 27 L)) Q NoE s := by
  have hcl : (csI ks).length = ks.length := by rw [csI, List.length_map]
  refine x_as (e_met1 (e_lit lit_e F ?_)); (clear F; intro tk s F)
  refine ⟨_, rcv_str PySem.F.slot_str_join PySem.F.type_str_join, ?_⟩
  refine e_lc (comp_n (g := g) (s₀ := σ) (ms := []) (n := ks.length) (cl := [("written", L + 6)]) F.shape grow_strs (kit_ints hh .here hcl) (fun _ => true) (fun i => oS (wrt (ks.getD i 0))) (Nat.le_trans hkl (lb rfl)) (by rfl) (by decide +kernel) (by rfl) (by decide +kernel) (by decide +kernel) rfl rfl ?_ ?_ ?_ ?_)
  · refine e_cell (L + 9) F (by (focus (repeat (first | with_reducible exact Mem.here | apply Mem.there)))) ?_
    exact first_list F (F.mem (.there .here)).choose_spec.choose_spec.1
  · clear F s
    intro C D it i v acc s Q hi hv e F hq
    exact ifs0 (hq _ F)
  · clear F s
    intro C D it i v acc s Q hi hv _ hC e F hq
    refine ex1 (csI_item hv) ?_; intro tv hR1
    subst hR1
    have h9 := kd_get hks i hi
    generalize ks.getD i 0 = k at *
    refine e_sub ?_
    refine e_cell (L + 6) F (by (focus (repeat (first | with_reducible exact Mem.here | apply Mem.there)))) ?_
    refine e_loc F e .here ?_
    refine sub_strs F (by (focus (repeat (first | with_reducible exact Mem.here | apply Mem.there)))) (Int.natCast_nonneg k) (by rw [List.length_map, List.length_range]; exact i_lt h9) (by rw [List.length_map, List.length_range]; decide) fun t2 => ?_
    rw [Int.toNat_natCast, wr_get k h9]
    exact hq _ _ ⟨_, rfl⟩ F
  · clear F s
    intro C D va s hC hD F
    refine (exi3 _ _ _ ⟨F, ?_⟩)
    clear F s; intro s F
    rw [map_getD ks 0 fun k => oS (wrt k), show ks.map (fun k => oS (wrt k)) = (ks.map wrt).map oS by rw [List.map_map]; rfl] at F
    have hz : ((ks.map wrt).flatten).length ≤ 18 := by
      rw [← List.flatMap_def]
      have := wflat_le ks
      lia
    refine k_join F (.there .here) (jok_oS _ (Nat.le_trans hz (lb rfl))) ?_
    rw [join_oS, ← List.flatMap_def]
    (clear F; intro tk s F)
    replace F := F.drop (a := D) (.there .here)
    (refine' s_loc F e ?_ ?_; rotate_left 1; (focus (repeat (first | with_reducible exact Up2.here | apply Up2.there))); clear F; intro s F)
    exact hQ _ _ F
end
end
/-! MS25 -/
section
set_option hygiene false
theorem chI_get : ∀ k < 9, chI.getD k 0 = (([1, 0, 2, 3, 5, 4, 6, 7, 8].getD k 0 : Nat) : Int) ∧ [1, 0, 2, 3, 5, 4, 6, 7, 8].getD k 0 < 9 := by decide
theorem chK_len (f ks : List Nat) : (chK f ks).length = ks.length := by rw [chK, List.length_map, List.length_range]
theorem chK_get (f ks : List Nat) (i : Nat) (h : i < ks.length) : (chK f ks).getD i 0 = if f.getD i 0 = 1 then [1, 0, 2, 3, 5, 4, 6, 7, 8].getD (ks.getD i 0) 0 else ks.getD i 0 := by
  rw [chK, List.getD_eq_getElem?_getD, List.getElem?_map, List.getElem?_range h]
  rfl
theorem chK_lt (f : List Nat) {ks : List Nat} (hks : ∀ k ∈ ks, k < 9) : ∀ k ∈ chK f ks, k < 9 := by
  intro k hk
  refine ex1 (List.mem_map.mp hk) ?_; intro j hJ
  refine and2 hJ ?_; clear hJ; intro hj hR1
  subst hR1
  have h9 := kd_get hks j (List.mem_range.mp hj)
  split
  · exact (chI_get _ h9).2
  · exact h9
section
variable {w : World} {A : Around} {g : Gd} {σ : Shared}
theorem law_g3 {sA N R P FL NM W TK CH KD L it : Addr} {ns pl : List Int} {f ks : List Nat} {kit : K} {v3 v5 v6 v7 v8 v9 v10 v11 v12 v13 v14 v15 cx ct : Option Value} {B : Around} {Q : Flow → Shared → Prop} {s : Shared} (hh : B.handled = none) (hf : Fl f) (hks : ∀ k ∈ ks, k < 9) (hkl : ks.length ≤ 3) (hL : σ.heap.objs.size ≤ L)
    (e : En (g.envC 27 L) L lwN) (F : St g σ [] ((L, .ns lwN [some (.ref sA), some (.ref N), v3, some (.ref R), v5, v6, v7, v8, v9, v10, v11, v12, v13, v14, v15]) :: tlG L N R P FL NM W TK CH KD it kit ns pl f ks cx ct) s)
    (hQ : ∀ s' t1, St g σ [] ((L, .ns lwN [some (.ref sA), some (.ref N), v3, some (.ref R), v5, v6, v7, v8, v9, v10, v11, some (.str (oS ((chK f ks).flatMap wrt)) t1), v13, v14, v15]) :: tlG L N R P FL NM W TK CH KD it kit ns pl f ks cx ct) s' → Wp w B (execs (nbBody.drop 5) (g.envC 27 L)) Q NoE s') :
    Wp w B (execs (nbBody.drop 4) (g.envC 27 L)) Q NoE s := by
  have hcl : (csI ks).length = ks.length := by rw [csI, List.length_map]
  have hcf := csI_len hf
  refine x_as (e_met1 (e_lit lit_e F ?_)); (clear F; intro tk s F)
  refine ⟨_, rcv_str PySem.F.slot_str_join PySem.F.type_str_join, ?_⟩
  refine e_lc (comp_n (g := g) (s₀ := σ) (ms := []) (n := ks.length) (cl := [("written", L + 6), ("kinds", L + 9), ("flips", L + 4), ("changed", L + 8)]) F.shape grow_strs (kit_range hh) (fun _ => true) (fun i => oS (wrt ((chK f ks).getD i 0))) (Nat.le_trans hkl (lb rfl)) (by rfl) (by decide +kernel) (by rfl) (by decide +kernel) (by decide +kernel) rfl rfl ?_ ?_ ?_ ?_)
  · refine e_call1 ?_
    (refine' e_bi F e ?_ ?_; rotate_left 1; with_reducible constructor)
    refine e_call1 ?_
    (refine' e_bi F e ?_ ?_; rotate_left 1; with_reducible constructor)
    refine e_cell (L + 9) F (by (focus (repeat (first | with_reducible exact Mem.here | apply Mem.there)))) ?_
    refine cw_bi (len_ints F (by (focus (repeat (first | with_reducible exact Mem.here | apply Mem.there)))) (Nat.lt_of_le_of_lt (Nat.le_of_eq hcl) (Nat.lt_of_le_of_lt hkl (lb rfl))) ?_)
    rw [hcl]
    (clear F; intro tk s F)
    exact cw_ty (first_rng F (Nat.le_trans hkl (lb rfl)))
  · clear F s
    intro C D it i v acc s Q hi hv e F hq
    exact ifs0 (hq _ F)
  · clear F s
    intro C D it i v acc s Q hi hv _ hC e F hq
    refine ex1 hv ?_; (try clear hv); intro tv hR2
    subst hR2
    have h9 := kd_get hks i hi
    have hc9 : (chK f ks).getD i 0 < 9 := kd_get (chK_lt f hks) i (by rw [chK_len]; exact hi)
    have hcg := chK_get f ks i hi
    obtain ⟨c1, c2⟩ := chI_get _ h9
    refine e_sub ?_
    refine e_cell (L + 6) F (by (focus (repeat (first | with_reducible exact Mem.here | apply Mem.there)))) ?_
    refine imp_int (((chK f ks).getD i 0 : Nat) : Int) F (e_ifx (t_cmp (e_sub ?_))) ?_
    · refine e_cell (L + 4) F (by (focus (repeat (first | with_reducible exact Mem.here | apply Mem.there)))) ?_
      refine e_loc F e .here ?_
      refine sub_ints F (by (focus (repeat (first | with_reducible exact Mem.here | apply Mem.there)))) (Int.natCast_nonneg i) (i_lt (Nat.lt_of_lt_of_le hi (Nat.le_trans hkl (Nat.le_of_eq (Eq.symm hcf))))) (Nat.lt_of_le_of_lt (Nat.le_of_eq hcf) (lb rfl)) fun t2 => ?_
      rw [Int.toNat_natCast, csI_get]
      (refine e_int F ?_; clear F; intro tk s F)
      by_cases h1 : f.getD i 0 = 1
      · rw [if_pos h1] at hcg
        refine c_eqy (by lia) ?_
        refine e_sub ?_
        refine e_cell (L + 8) F (by (focus (repeat (first | with_reducible exact Mem.here | apply Mem.there)))) ?_
        refine e_sub ?_
        refine e_cell (L + 9) F (by (focus (repeat (first | with_reducible exact Mem.here | apply Mem.there)))) ?_
        refine e_loc F e .here ?_
        refine sub_ints F (by (focus (repeat (first | with_reducible exact Mem.here | apply Mem.there)))) (Int.natCast_nonneg i) (i_lt (Nat.lt_of_lt_of_le hi (Nat.le_of_eq (Eq.symm hcl)))) (Nat.lt_of_le_of_lt (Nat.le_of_eq hcl) (Nat.lt_of_le_of_lt hkl (lb rfl))) fun t3 => ?_
        rw [Int.toNat_natCast, csI_get]
        refine sub_ints F (by (focus (repeat (first | with_reducible exact Mem.here | apply Mem.there)))) (Int.natCast_nonneg (List.getD ks i 0)) (by show _ < ((9 : Nat) : Int); exact i_lt h9) (by decide) fun t4 => ?_
        rw [Int.toNat_natCast, c1, hcg]
        exact ⟨_, rfl, F⟩
      · rw [if_neg h1] at hcg
        refine c_eqn (by lia) ?_
        refine e_sub ?_
        refine e_cell (L + 9) F (by (focus (repeat (first | with_reducible exact Mem.here | apply Mem.there)))) ?_
        refine e_loc F e .here ?_
        refine sub_ints F (by (focus (repeat (first | with_reducible exact Mem.here | apply Mem.there)))) (Int.natCast_nonneg i) (i_lt (Nat.lt_of_lt_of_le hi (Nat.le_of_eq (Eq.symm hcl)))) (Nat.lt_of_le_of_lt (Nat.le_of_eq hcl) (Nat.lt_of_le_of_lt hkl (lb rfl))) fun t3 => ?_
        rw [Int.toNat_natCast, csI_get, hcg]
        exact ⟨_, rfl, F⟩
    (clear F; intro tk s F)
    refine sub_strs F (by (focus (repeat (first | with_reducible exact Mem.here | apply Mem.there)))) (Int.natCast_nonneg (List.getD (chK f ks) i 0)) (by rw [List.length_map, List.length_range]; exact i_lt hc9) (by rw [List.length_map, List.length_range]; decide) fun t2 => ?_
    rw [Int.toNat_natCast, wr_get _ hc9]
    exact hq _ _ ⟨_, rfl⟩ F
  · clear F s
    intro C D va s hC hD F
    refine (exi3 _ _ _ ⟨F, ?_⟩)
    clear F s; intro s F
    rw [← chK_len f ks, map_getD (chK f ks) 0 fun k => oS (wrt k), show (chK f ks).map (fun k => oS (wrt k)) = ((chK f ks).map wrt).map oS by rw [List.map_map]; rfl] at F
    have hz : (((chK f ks).map wrt).flatten).length ≤ 18 := by
      rw [← List.flatMap_def]
      have := wflat_le (chK f ks)
      rw [chK_len] at this
      lia
    refine k_join F (.there .here) (jok_oS _ (Nat.le_trans hz (lb rfl))) ?_
    rw [join_oS, ← List.flatMap_def]
    (clear F; intro tk s F)
    replace F := F.drop (a := D) (.there .here)
    (refine' s_loc F e ?_ ?_; rotate_left 1; (focus (repeat (first | with_reducible exact Up2.here | apply Up2.there))); clear F; intro s F)
    exact hQ _ _ F
end
end
/-! MP5 -/
section
set_option hygiene false
/-! the plain law, 5: what the pattern takes in the two rows -/
noncomputable abbrev lnN (p : Nat) : Nat := (nmL.getD p []).length
noncomputable abbrev gtN (p k : Nat) : Nat := (nmL.getD p []).getD k 0
theorem nm_up : ∀ p < 15, (lnN p = 0 → p = 0) ∧ (1 ≤ p → lnN p = lnN ((p - 1) / 2) + 1 ∧ ∀ k < lnN ((p - 1) / 2), gtN p k = gtN ((p - 1) / 2) k) ∧ ∀ k < lnN p, gtN p k ∈ tks 2 := by decide
theorem nm_pi : ∀ f ∈ [[0, 0, 0], [0, 0, 1], [0, 1, 0], [0, 1, 1], [1, 0, 0], [1, 0, 1], [1, 1, 0], [1, 1, 1]], ((List.range 15).map (piF f)).isPerm (List.range 15) = true ∧ ∀ p < 15, lnN (piF f p) = lnN p ∧ ∀ k < lnN p, (f.getD k 0 = 0 ∨ f.getD k 0 = 1) ∧ gtN (piF f p) k = if (gtN p k - 97 + f.getD k 0) % 2 = 0 then 97 else 98 := by decide +kernel
theorem ch_tks : ∀ k < 9, ∀ c ∈ tks 2, decide (c ∈ tks k) = decide ((if (c - 97 + 0) % 2 = 0 then 97 else 98) ∈ tks k) ∧ decide (c ∈ tks k) = decide ((if (c - 97 + 1) % 2 = 0 then 97 else 98) ∈ tks ([1, 0, 2, 3, 5, 4, 6, 7, 8].getD k 0)) := by decide
theorem all_same {l : List Nat} {p q : Nat → Bool} (h : ∀ k ∈ l, p k = q k) : l.all p = l.all q := by
  induction l with
  | nil => rfl
  | cons a r ih => rw [List.all_cons, List.all_cons, h a (.head _), ih fun k hk => h k (.tail _ hk)]
theorem ok_ch {f ks : List Nat} (hf : Fl f) (hks : ∀ k ∈ ks, k < 9) {p : Nat} (hp : p < 15) (hl : ks.length ≤ lnN p) : okB nmL (chK f ks) (piF f p) = okB nmL ks p := by
  obtain ⟨_, h⟩ := nm_pi f hf
  rw [okB, okB, chK_len]
  refine all_same fun k hk => ?_
  have hk := List.mem_range.mp hk
  obtain ⟨hb, e⟩ := (h p hp).2 k (Nat.lt_of_lt_of_le hk hl)
  have hc := (nm_up p hp).2.2 k (Nat.lt_of_lt_of_le hk hl)
  rw [chK_get f ks k hk]
  refine decide_eq_decide.mpr ?_
  show gtN (piF f p) k ∈ _ ↔ gtN p k ∈ _
  rw [e]
  obtain ⟨c1, c2⟩ := ch_tks _ (kd_get hks k hk) _ hc
  rcases hb with hb | hb <;> rw [hb]
  · rw [if_neg (by decide : ¬ (0 : Nat) = 1)]
    exact (decide_eq_decide.mp c1).symm
  · rw [if_pos rfl]
    exact (decide_eq_decide.mp c2).symm
/-- the places from a depth on -/
noncomputable def wdF (xs : List Int) (ks : List Nat) (m : Nat) : List Int := ((List.range 15).filter fun p => decide (ks.length + m ≤ lnN p) && okB nmL ks p).map fun p => xs.getD p 0
theorem vs0 {a c : Nat} : (a = c ∨ c < a) ↔ c + 0 ≤ a := ⟨fun h => h.elim (fun e => e ▸ Nat.le_refl _) Nat.le_of_lt, fun h => (Nat.eq_or_lt_of_le h).imp Eq.symm id⟩
theorem wds1 {a b : Nat} : (a = b ∧ b ≤ a) ↔ a = b := ⟨And.left, fun h => ⟨h, h ▸ Nat.le_refl _⟩⟩
theorem wds2 {a c m : Nat} : (¬ a = c + m ∧ c + m ≤ a) ↔ c + (m + 1) ≤ a := ⟨fun h => Nat.lt_of_le_of_ne h.2 (Ne.symm h.1), fun h => ⟨Nat.ne_of_gt h, Nat.le_of_lt h⟩⟩
theorem vl_star (xs : List Int) (ks : List Nat) : vlF xs nmL ks true = wdF xs ks 0 := by
  rw [vlF, fitL, List.filter_filter, wdF]
  congr 1
  refine List.filter_congr fun p _ => ?_
  rw [Bool.and_comm, fitB, Bool.true_and, ← Bool.decide_or]
  congr 1
  refine decide_eq_decide.mpr ?_
  exact vs0
theorem vl_seg (xs : List Int) (ks : List Nat) (m : Nat) : vlF xs nmL (ks ++ List.replicate m 2) false = ((List.range 15).filter fun p => decide (lnN p = ks.length + m) && okB nmL ks p).map fun p => xs.getD p 0 := by
  rw [vlF, fitL, List.filter_filter]
  congr 1
  refine List.filter_congr fun p hp => ?_
  have hp := List.mem_range.mp hp
  rw [Bool.and_comm, fitB, Bool.false_and, Bool.or_false, List.length_append, List.length_replicate]
  show (decide (lnN p = _) && _) = _
  by_cases e : lnN p = ks.length + m
  · rw [decide_eq_true e, Bool.true_and, Bool.true_and, Bool.eq_iff_iff, okB, okB, List.all_eq_true, List.all_eq_true, List.length_append, List.length_replicate]
    have hg : ∀ k, k < ks.length → (ks ++ List.replicate m 2).getD k 0 = ks.getD k 0 := fun k hk => by
      rw [List.getD_eq_getElem?_getD, List.getElem?_append_left hk, List.getD_eq_getElem?_getD]
    constructor
    · intro h k hk
      have hk := List.mem_range.mp hk
      have := h k (List.mem_range.mpr (Nat.lt_of_lt_of_le hk (Nat.le_add_right (List.length ks) m)))
      rwa [hg k hk] at this
    · intro h k hk
      have hk := List.mem_range.mp hk
      by_cases hk2 : k < ks.length
      · rw [hg k hk2]
        exact h k (List.mem_range.mpr hk2)
      · have : (ks ++ List.replicate m 2).getD k 0 = 2 := by
          rw [List.getD_eq_getElem?_getD, List.getElem?_append_right (Nat.le_of_not_lt hk2), List.getElem?_replicate, if_pos (Nat.sub_lt_left_of_lt_add (Nat.le_of_not_lt hk2) hk)]; rfl
        rw [this]
        exact decide_eq_true ((nm_up p hp).2.2 k (Nat.lt_of_lt_of_le hk (Nat.le_of_eq (Eq.symm e))))
  · rw [decide_eq_false e, Bool.false_and, Bool.false_and]
theorem wd_split (xs : List Int) (ks : List Nat) (m : Nat) : (wdF xs ks m).Perm (vlF xs nmL (ks ++ List.replicate m 2) false ++ wdF xs ks (m + 1)) := by
  rw [vl_seg, wdF, wdF, ← List.map_append]
  refine List.Perm.map _ ?_
  have h := List.filter_append_perm (fun p => decide (lnN p = ks.length + m)) ((List.range 15).filter fun p => decide (ks.length + m ≤ lnN p) && okB nmL ks p)
  rw [List.filter_filter, List.filter_filter] at h
  refine h.symm.trans (.of_eq ?_)
  congr 1
  · refine List.filter_congr fun p _ => ?_
    rw [← Bool.and_assoc, ← Bool.decide_and]
    congr 1
    exact decide_eq_decide.mpr wds1
  · refine List.filter_congr fun p _ => ?_
    rw [← Bool.and_assoc, ← decide_not, ← Bool.decide_and]
    congr 1
    exact decide_eq_decide.mpr wds2
theorem near_perm (xs : List Int) (ks : List Nat) : ∀ m, (vlF xs nmL ks true).Perm (nrF xs ks m ++ wdF xs ks m)
  | 0 => by rw [vl_star]; exact .refl _
  | m + 1 => by
    rw [nrF, List.append_assoc]
    exact (near_perm xs ks m).trans ((wd_split xs ks m).append_left _)
theorem ok_up {ks : List Nat} {p : Nat} (hp : p < 15) (h1 : 1 ≤ p) (hl : ks.length ≤ lnN ((p - 1) / 2)) (h : okB nmL ks p = true) : okB nmL ks ((p - 1) / 2) = true := by
  refine and3 (nm_up p hp) ?_; intro hU2 h2 hU3
  rw [← h, okB, okB]
  refine all_same fun k hk => ?_
  have hk := List.mem_range.mp hk
  refine decide_eq_decide.mpr ?_
  show gtN _ k ∈ _ ↔ gtN p k ∈ _
  rw [(h2 h1).2 k (Nat.lt_of_lt_of_le hk hl)]
/-- the place above, at a depth -/
theorem climb {xs : List Int} (hp : Hp xs) {ks : List Nat} {j : Nat} : ∀ (d p : Nat), p < 15 → lnN p = ks.length + j + d → okB nmL ks p = true → ∃ q, q < 15 ∧ lnN q = ks.length + j ∧ okB nmL ks q = true ∧ xs.getD q 0 ≤ xs.getD p 0
  | 0, p, h1, h2, h3 => ⟨p, h1, h2, h3, Int.le_refl _⟩
  | d + 1, p, h1, h2, h3 => by
    have hp1 : 1 ≤ p := by
      refine Decidable.byContradiction fun h => ?_
      rw [show p = 0 by exact eq_fin (Nat.lt_of_not_le h) (Nat.not_lt_of_le (Nat.le_add_left 0 p))] at h2
      have : lnN 0 = 0 := rfl
      lia
    have hl := ((nm_up p h1).2.1 hp1).1
    obtain ⟨q, q1, q2, q3, q4⟩ := climb (j := j) hp d ((p - 1) / 2) (half_lt h1) (by lia) (ok_up h1 hp1 (by lia) h3)
    exact ⟨q, q1, q2, q3, Int.le_trans q4 (hp p hp1 h1)⟩
theorem near_few {xs : List Int} (hp : Hp xs) {ks : List Nat} {n p : Nat} (h1 : p < 15) (h2 : ks.length + n ≤ lnN p) (h3 : okB nmL ks p = true) : ∀ m, m ≤ n → m ≤ ((nrF xs ks m).filter fun x => decide (x ≤ xs.getD p 0)).length
  | 0, _ => Nat.zero_le _
  | m + 1, h => by
    have ih := near_few hp h1 h2 h3 m (Nat.le_of_succ_le h)
    obtain ⟨q, q1, q2, q3, q4⟩ := climb hp (j := m) (lnN p - (ks.length + m)) p h1 (Nat.add_sub_of_le (Nat.le_trans (Nat.add_le_add_left (Nat.le_of_succ_le h) _) h2)).symm h3
    rw [nrF, List.filter_append, List.length_append]
    have : 0 < ((vlF xs nmL (ks ++ List.replicate m 2) false).filter fun x => decide (x ≤ xs.getD p 0)).length := by
      rw [vl_seg]
      refine List.length_pos_of_mem (a := xs.getD q 0) (List.mem_filter.mpr ⟨List.mem_map.mpr ⟨q, List.mem_filter.mpr ⟨List.mem_range.mpr q1, ?_⟩, rfl⟩, decide_eq_true q4⟩)
      rw [decide_eq_true q2, q3]
      rfl
    exact Nat.add_le_add ih this
theorem tu_hp {pl : List Int} {f : List Nat} (hf : Fl f) (hp : Hp pl) : Hp (tuF f pl) := fun i h1 h2 => by
  obtain ⟨_, h⟩ := pi_ok f hf
  obtain ⟨g1, _, g2, _⟩ := h i h2
  obtain ⟨g3, g4⟩ := g2 h1
  rw [tu_get (half_lt h2), tu_get h2, ← g4]
  exact hp _ g3 g1
theorem vl_turn {pl : List Int} {f ks : List Nat} (hf : Fl f) (hks : ∀ k ∈ ks, k < 9) : (vlF pl nmL (chK f ks) true).Perm (vlF (tuF f pl) nmL ks true) := by
  obtain ⟨h1, h2⟩ := nm_pi f hf
  have h1 := List.isPerm_iff.mp h1
  rw [vl_star, vl_star, wdF, wdF, chK_len]
  refine ((h1.symm.filter _).map _).trans (.of_eq ?_)
  rw [List.filter_map, List.map_map]
  have e : (List.range 15).filter ((fun p => decide (ks.length + 0 ≤ lnN p) && okB nmL (chK f ks) p) ∘ piF f) = (List.range 15).filter fun p => decide (ks.length + 0 ≤ lnN p) && okB nmL ks p := by
    refine List.filter_congr fun p hp => ?_
    have hp := List.mem_range.mp hp
    show (decide (ks.length + 0 ≤ lnN (piF f p)) && okB nmL (chK f ks) (piF f p)) = _
    rw [(h2 p hp).1]
    by_cases hz : ks.length + 0 ≤ lnN p
    · rw [ok_ch hf hks hp hz]
    · rw [decide_eq_false hz, Bool.false_and, Bool.false_and]
  rw [e]
  refine List.map_congr_left fun p hp => ?_
  exact (tu_get (List.mem_range.mp (List.mem_filter.mp hp).1)).symm
theorem ns_under {pl : List Int} {f ks : List Nat} {few : Nat} (hf : Fl f) (hp : Hp pl) (hks : ∀ k ∈ ks, k < 9) (h1 : 1 ≤ few) (h3 : few ≤ 3) :
    nsF few (vlF (tuF f pl) nmL ks true) = (srt (vlF (tuF f pl) nmL ks true)).take few ∧ nsF few (nrF (tuF f pl) ks few) = (srt (vlF (tuF f pl) nmL ks true)).take few ∧ nsF few (vlF pl nmL (chK f ks) true) = (srt (vlF (tuF f pl) nmL ks true)).take few := by
  refine ⟨ns_is few h1 h3 _, ?_, ?_⟩
  · rw [ns_is few h1 h3]
    refine (few_least (near_perm _ _ few) fun m hm => ?_).symm
    refine ex1 (List.mem_map.mp hm) ?_; intro p hJ
    refine and2 hJ ?_; clear hJ; intro hpm hR5
    subst hR5
    obtain ⟨g1, g2⟩ := List.mem_filter.mp hpm
    rw [Bool.and_eq_true] at g2
    exact near_few (tu_hp hf hp) (List.mem_range.mp g1) (of_decide_eq_true g2.1) g2.2 few (Nat.le_refl _)
  · rw [ns_is few h1 h3, srt_eq (vl_turn hf hks)]
end
/-! MS26 -/
section
set_option hygiene false
theorem wrtL_star (ks : List Nat) : ks.flatMap wrt ++ [42] = wrtL ks true := rfl
/-- two new things of a call, laid behind the frame -/
theorem St.got2 {g : Gd} {s₀ s s' : Shared} {ms : List Addr} {os : Os} {p₀ : Addr × K} {a b : Addr} {k j : K} (F : St g s₀ ms (p₀ :: os) s) (ha : After g [] s s') (hi : Iv g s') (hk : K.At s'.heap a k) (hl : s.heap.objs.size ≤ a) (hj : K.At s'.heap b j) (hlb : s.heap.objs.size ≤ b) (hne : b ≠ a) : St g s₀ ms (p₀ :: (a, k) :: (b, j) :: os) s' := by
  have h0 : ∀ p ∈ p₀ :: os, ∀ c, s.heap.objs.size ≤ c → p.1 ≠ c := fun p hp c hc e => Nat.lt_irrefl _ (Nat.lt_of_lt_of_le (e ▸ (F.at p hp).lt) hc)
  have G := (F.after0 ha hi).add hj (fun p hp => h0 p hp b hlb) (Nat.le_trans F.aft.size hlb)
  exact (G.swap.add hk (fun p hp => by
    rcases List.mem_cons.mp hp with rfl | hp
    · exact h0 _ (.head _) a hl
    · rcases List.mem_cons.mp hp with rfl | hp
      · exact hne
      · exact h0 _ (.tail _ hp) a hl) (Nat.le_trans F.aft.size hl)).swap
theorem strs_ref {h : Heap} {r kr : Addr} {n : Nat} {v : Value} {xs : List Str} (hg : h.get? r = some (listO [.ref kr, v] n)) (hk : K.At h kr (.strs xs)) : r ≠ kr := fun x => by
  refine ex2 hk ?_; (try clear hk); intro vs m hJ
  refine and2 hJ ?_; clear hJ; intro ho hs
  rw [← x, hg] at ho
  have : [Value.ref kr, v] = vs := by
    have := congrArg Obj.data (Option.some.inj ho)
    simp [listO] at this
    exact this.1
  subst this
  cases xs with
  | nil => cases hs
  | cons x r =>
    cases hs with
    | cons hv _ =>
      obtain ⟨_, e⟩ := hv
      cases e
section
variable {w : World} {A : Around} {g : Gd} {σ : Shared}
/-- the read check of a turn -/
theorem law_g4 {TK KD L : Addr} {ks : List Nat} {t1 : Tok} {vs : List (Option Value)} {T : Os} {B : Around} {Q : Flow → Shared → Prop} {s : Shared} (hh : B.handled = none) (hB : B.depth + 10 < recursionLimit) (hu : B.units + 200 < cLine) (hks : ∀ k ∈ ks, k < 9) (hkl : ks.length ≤ 3) (hL : σ.heap.objs.size ≤ L)
    (e : En (g.envC 27 L) L lwN) (F : St g σ [] ((L, .ns lwN vs) :: T) s) (hv : At2 lwN vs "here" (.str (oS (ks.flatMap wrt)) t1)) (m7 : Mem T (L + 7) (.cell (some (.ref TK)))) (mt : Mem T TK (.strs tkS)) (m9 : Mem T (L + 9) (.cell (some (.ref KD)))) (mk : Mem T KD (.ints (csI ks)))
    (hQ : ∀ s', St g σ [] ((L, .ns lwN vs) :: T) s' → Wp w B (execs (nbBody.drop 6) (g.envC 27 L)) Q NoE s') :
    Wp w B (execs (nbBody.drop 5) (g.envC 27 L)) Q NoE s := by
  have hcl : (csI ks).length = ks.length := by rw [csI, List.length_map]
  have hwl := wflat_le ks
  refine x_if (t_cmp (e_call1 (e_fn 25 F e (e_call1 (e_fn 5 F e (e_bin (e_loc F e hv ?_)))))))
  refine e_lit lit_as F ?_; (clear F; intro tk s F)
  refine b_sadd F (by rw [oS_len, oS_len]; show _ + 1 ≤ _; lia) ?_; (clear F; intro tk s F)
  rw [oS_app, wrtL_star]
  refine cw_fn F.inv (by decide) (translate_spec F.inv hh (d_lt hB (lb rfl)) hks (Nat.le_trans hkl (lb rfl))) ?_
  intro v s hI2
  refine ex1 hI2 ?_; (try clear hI2); intro t' hJ
  refine and3 hJ ?_; clear hJ; intro hR2 ha hi
  subst hR2
  replace F := F.after0 ha hi
  refine cw_fn F.inv (by decide) (lawread_spec F.inv hh (d_lt hB (lb rfl)) hks (Nat.le_trans hkl (lb rfl))) ?_
  intro v s hI2
  refine ex3 hI2 ?_; (try clear hI2); intro r kr n hJ
  refine and7 hJ ?_; clear hJ; intro hR3 ha hi hr hg hkr hk
  subst hR3
  replace F := F.got2 (k := .raw (listO [.ref kr, .bool true] n)) ha hi hg hr hk hkr (Ne.symm (strs_ref hg hk))
  clear hv hg hk ha hi hr hkr
  refine e_list (sp_cons (e_lc (comp_n (g := g) (s₀ := σ) (ms := []) (n := ks.length) (cl := [("takes", L + 7)]) F.shape grow_strs (kit_ints hh (.there (.there mk)) hcl) (fun _ => true) (fun i => oS (tks (ks.getD i 0))) (Nat.le_trans hkl (lb rfl)) (by rfl) (by decide +kernel) (by rfl) (by decide +kernel) (by decide +kernel) rfl rfl ?_ ?_ ?_ ?_)))
  · refine e_cell (L + 9) F (.there (.there (.there m9))) ?_
    exact first_list F (F.mem (.there (.there (.there mk)))).choose_spec.choose_spec.1
  · clear F s
    intro C D it i v acc s Q hi hv e F hq
    exact ifs0 (hq _ F)
  · clear F s
    intro C D it i v acc s Q hi hv _ hC e F hq
    refine ex1 (csI_item hv) ?_; intro tv hR4
    subst hR4
    have h9 := kd_get hks i hi
    generalize ks.getD i 0 = k at *
    refine e_sub ?_
    refine e_cell (L + 7) F (.there (.there (.there (.there (.there (.there m7)))))) ?_
    refine e_loc F e .here ?_
    refine sub_strs F (.there (.there (.there (.there (.there (.there mt)))))) (Int.natCast_nonneg k) (by rw [List.length_map, List.length_range]; exact i_lt h9) (by rw [List.length_map, List.length_range]; decide) fun t2 => ?_
    rw [Int.toNat_natCast, tk_get k h9]
    exact hq _ _ ⟨_, rfl⟩ F
  · clear F s
    intro C D va s hC hD F
    refine (exi3 _ _ _ ⟨F, ?_⟩)
    clear F s; intro s F
    rw [map_getD ks 0 fun k => oS (tks k)] at F
    refine sp_cons (e_true (sp_nil ⟨by show 2 ≤ 1000; decide, _, _, _, _, _, F, ?_⟩))
    clear F; intro r2 s hr2 F
    have hne : kr ≠ D := fun x => by
      have := F.nod
      rw [List.map_cons, List.map_cons, List.map_cons, List.map_cons, List.map_cons] at this
      simp [x] at this
    obtain ⟨n2, h2⟩ := F.mem (.there .here : Mem _ r2 (.list [.ref D, .bool true]))
    refine c_lne2 F (F.mem (.there (.there (.there .here)))) h2 (.there (.there (.there (.there .here)))) (.there (.there .here)) hne (d_lt hu (lb rfl)) ?_
    replace F := F.drop (a := r2) (.there .here)
    replace F := F.drop (a := D) (.there .here)
    replace F := F.drop (a := r) (.there .here)
    replace F := F.drop (a := kr) (.there .here)
    exact x_nil (hQ _ F)
end
end
/-! MS27 -/
section
set_option hygiene false
theorem ints_strs {h : Heap} {a b : Addr} {xs : List Int} {ys : List Str} (ha : K.At h a (.ints xs)) (hb : K.At h b (.strs ys)) (hx : 0 < xs.length) : a ≠ b := fun e => by
  subst e
  refine ex2 ha ?_; (try clear ha); intro vs n hJ
  refine and2 hJ ?_; clear hJ; intro ho hi
  refine ex2 hb ?_; (try clear hb); intro us m hJ
  refine and2 hJ ?_; clear hJ; intro ho' hs
  have : vs = us := by
    rw [ho] at ho'
    have := congrArg Obj.data (Option.some.inj ho')
    simp [listO] at this
    exact this.1
  subst this
  cases hi with
  | nil => exact absurd hx (by decide)
  | cons hv _ =>
    refine ex1 hv ?_; (try clear hv); intro t hR1
    subst hR1
    cases hs with
    | cons hv _ =>
      obtain ⟨_, e⟩ := hv
      cases e
theorem nm_le : ∀ l ∈ nmL, l.length ≤ 10 := by decide
theorem vl_len (xs : List Int) (ks : List Nat) (star : Bool) : (vlF xs nmL ks star).length ≤ 15 := by
  rw [vlF, List.length_map]
  exact Nat.le_trans (List.length_filter_le _ _) (Nat.le_trans (List.length_filter_le _ _) (by rw [List.length_range]; decide))
theorem nr_len (xs : List Int) (ks : List Nat) : ∀ m, (nrF xs ks m).length ≤ 15 * m
  | 0 => Nat.le_refl _
  | m + 1 => by
    have := nr_len xs ks m
    have := vl_len xs (ks ++ List.replicate m 2) false
    rw [nrF, List.length_append]
    lia
theorem wr_more (ks : List Nat) (i : Nat) : ks.flatMap wrt ++ List.replicate i 63 = wrtL (ks ++ List.replicate i 2) false := by
  have e : (List.replicate i 2).flatMap wrt = List.replicate i 63 := by
    induction i with
    | zero => rfl
    | succ i ih => rw [List.replicate_succ, List.flatMap_cons, ih, List.replicate_succ]; rfl
  rw [wrtL, List.flatMap_append, e, if_neg (by decide), List.append_nil]
theorem more_lt {ks : List Nat} (hks : ∀ k ∈ ks, k < 9) (i : Nat) : ∀ k ∈ ks ++ List.replicate i 2, k < 9 := fun k hk => by
  rcases List.mem_append.mp hk with h | h
  · exact hks k h
  · rw [(List.mem_replicate.mp h).2]; decide
section
variable {w : World} {A : Around} {g : Gd} {σ : Shared}
/-- a call of _law_values -/
theorem law_vals {p₀ : Addr × K} {ra NM : Addr} {xs : List Int} {ks : List Nat} {star : Bool} {t : Tok} {T : Os} {B : Around} {Q E : Value → Shared → Prop} {s : Shared} (hh : B.handled = none) (hB : B.depth + 10 < recursionLimit) (hu : B.units + 1100 < cLine) (hks : ∀ k ∈ ks, k < 9) (hz : ks.length ≤ 20) (hx : xs.length = 15)
    (F : St g σ [] (p₀ :: T) s) (mr : Mem T ra (.ints xs)) (mn : Mem T NM (.strs (nmL.map oS))) (h : ∀ U s', σ.heap.objs.size ≤ U → St g σ [] (p₀ :: (U, .ints (vlF xs nmL ks star)) :: T) s' → Q (.ref U) s') : Cw w B (.ref (g.fa 26)) [.ref ra, .ref NM, .str (oS (wrtL ks star)) t] Q E s := by
  have h1 := F.mem (.there mr)
  have h2 := F.mem (.there mn)
  refine cw_fn F.inv (by decide) (values_spec F.inv hh (d_lt hB (lb rfl)) (d_lt hu (lb rfl)) hks hz h1 h2 (ints_strs h1 h2 (Nat.lt_of_lt_of_le (lb rfl) (Nat.le_of_eq (Eq.symm hx)))) (F.low _ (Mem.mem (.there mr))) (F.low _ (Mem.mem (.there mn))) hx rfl nm_le) ?_
  intro v s' hI2
  refine ex1 hI2 ?_; (try clear hI2); intro r hJ
  refine and5 hJ ?_; clear hJ; intro hR3 ha hi hr hk
  subst hR3
  exact h r s' (Nat.le_trans F.aft.size hr) (F.got ha hi hk hr)
/-- a call of nsmallest -/
theorem law_nsm {p₀ : Addr × K} {l : Addr} {xs : List Int} {few : Nat} {t : Tok} {T : Os} {B : Around} {Q E : Value → Shared → Prop} {s : Shared} (hh : B.handled = none) (hB : B.depth + 10 < recursionLimit) (hu : B.units + 1100 < cLine) (h1 : 1 ≤ few) (h3 : few ≤ 3) (hz : xs.length ≤ 60)
    (F : St g σ [] (p₀ :: T) s) (mr : Mem T l (.ints xs)) (h : ∀ U s', σ.heap.objs.size ≤ U → St g σ [] (p₀ :: (U, .ints (nsF few xs)) :: T) s' → Q (.ref U) s') : Cw w B (.ref (g.fa 21)) [.int few t, .ref l] Q E s := by
  refine cw_ns F.inv (nsmallest_spec F.inv hh hB (d_lt hu (lb rfl)) (F.mem (.there mr)) (F.low _ (Mem.mem (.there mr))) h1 h3 hz) ?_
  intro v s' hI2
  refine ex1 hI2 ?_; (try clear hI2); intro r hJ
  refine and5 hJ ?_; clear hJ; intro hR4 ha hi hr hk
  subst hR4
  exact h r s' (Nat.le_trans F.aft.size hr) (F.got ha hi hk hr)
/-- under and near of a turn -/
theorem law_g5 {sA N R NM L : Addr} {ks : List Nat} {few : Nat} {t1 t2 tf : Tok} {xs : List Int} {v3 v5 v6 v7 v8 v9 v13 v14 v15 : Option Value} {T : Os} {B : Around} {Q : Flow → Shared → Prop} {s : Shared} (hh : B.handled = none) (hB : B.depth + 10 < recursionLimit) (hu : B.units + 1100 < cLine) (hks : ∀ k ∈ ks, k < 9) (hkl : ks.length ≤ 3) (hf3 : few ≤ 3) (hx : xs.length = 15) (hL : σ.heap.objs.size ≤ L) {there : Str}
    (e : En (g.envC 27 L) L lwN) (F : St g σ [] ((L, .ns lwN [some (.ref sA), some (.ref N), v3, some (.ref R), v5, v6, v7, v8, v9, some (.int few tf), some (.str (oS (ks.flatMap wrt)) t1), some (.str there t2), v13, v14, v15]) :: T) s) (mR : Mem T R (.ints xs)) (mN : Mem T NM (.strs (nmL.map oS))) (m5 : Mem T (L + 5) (.cell (some (.ref NM))))
    (hQ : ∀ s' U NR v15, St g σ [] ((L, .ns lwN [some (.ref sA), some (.ref N), v3, some (.ref R), v5, v6, v7, v8, v9, some (.int few tf), some (.str (oS (ks.flatMap wrt)) t1), some (.str there t2), some (.ref U), some (.ref NR), v15]) :: (NR, .ints (nrF xs ks few)) :: (U, .ints (vlF xs nmL ks true)) :: T) s' → Wp w B (execs (nbBody.drop 9) (g.envC 27 L)) Q NoE s') :
    Wp w B (execs (nbBody.drop 6) (g.envC 27 L)) Q NoE s := by
  have hwl := wflat_le ks
  refine x_as (e_call3 (e_fn 26 F e ?_))
  (refine' e_loc F e ?_ ?_; rotate_left 1; (focus (repeat (first | with_reducible exact At2.here | apply At2.there))))
  refine e_cell (L + 5) F (.there m5) ?_
  refine e_bin ?_
  (refine' e_loc F e ?_ ?_; rotate_left 1; (focus (repeat (first | with_reducible exact At2.here | apply At2.there))))
  refine e_lit lit_as F ?_; (clear F; intro tk s F)
  refine b_sadd F (by rw [oS_len, oS_len]; show _ + 1 ≤ _; lia) ?_; (clear F; intro tk s F)
  rw [oS_app, wrtL_star]
  refine law_vals hh hB hu hks (Nat.le_trans hkl (lb rfl)) hx F mR mN ?_
  clear F; intro U s hU F
  (refine' s_loc F e ?_ ?_; rotate_left 1; (focus (repeat (first | with_reducible exact Up2.here | apply Up2.there))); clear F; intro s F)
  refine x_as (e_list (sp_nil ⟨Nat.zero_le _, _, _, _, _, _, F, ?_⟩))
  clear F; intro NR s hNR F
  replace F := F.to_ints (xs := []) .nil
  (refine' s_loc F e ?_ ?_; rotate_left 1; (focus (repeat (first | with_reducible exact Up2.here | apply Up2.there))); clear F; intro s F)
  refine x_forN (n := few) (kit := fun i => .riter i ((few - i : Nat) : Int) 1) F (fun i vs T' => ∃ NR v15, vs = [some (.ref sA), some (.ref N), v3, some (.ref R), v5, v6, v7, v8, v9, some (.int few tf), some (.str (oS (ks.flatMap wrt)) t1), some (.str there t2), some (.ref U), some (.ref NR), v15] ∧ T' = (NR, .ints (nrF xs ks i)) :: (U, .ints (vlF xs nmL ks true)) :: T) hL (fun _ _ _ _ => kit_range hh) ⟨NR, _, rfl, rfl⟩ ?_ ?_ ?_
  · refine e_call1 ?_
    (refine' e_bi F e ?_ ?_; rotate_left 1; with_reducible constructor)
    (refine' e_loc F e ?_ ?_; rotate_left 1; (focus (repeat (first | with_reducible exact At2.here | apply At2.there))))
    exact cw_ty (first_rng F (Nat.le_trans hf3 (lb rfl)))
  · clear F s hNR
    intro i vs T' it s v hi hI7 hI8 F J hJ
    refine ex2 hI7 ?_; (try clear hI7); intro NR v15 hJ
    refine and2 hJ ?_; clear hJ; intro hR5 hR6
    subst hR5
    subst hR6
    refine ex1 hI8 ?_; (try clear hI8); intro t hR7
    subst hR7
    (refine' s_loc F e ?_ ?_; rotate_left 1; (focus (repeat (first | with_reducible exact Up2.here | apply Up2.there))); clear F; intro s F)
    refine x_as (e_bin ?_)
    (refine' e_loc F e ?_ ?_; rotate_left 1; (focus (repeat (first | with_reducible exact At2.here | apply At2.there))))
    refine e_call3 (e_fn 26 F e ?_)
    (refine' e_loc F e ?_ ?_; rotate_left 1; (focus (repeat (first | with_reducible exact At2.here | apply At2.there))))
    refine e_cell (L + 5) F (.there (.there (.there (.there m5)))) ?_
    refine e_bin ?_
    (refine' e_loc F e ?_ ?_; rotate_left 1; (focus (repeat (first | with_reducible exact At2.here | apply At2.there))))
    refine e_bin (e_lit lit_qm F ?_); (clear F; intro tk s F)
    (refine' e_loc F e ?_ ?_; rotate_left 1; (focus (repeat (first | with_reducible exact At2.here | apply At2.there))))
    refine b_smul F (Nat.lt_of_lt_of_le hi hf3) ?_; (clear F; intro tk s F)
    refine b_sadd F (by rw [oS_len, oS_len, List.length_replicate]; lia) ?_; (clear F; intro tk s F)
    rw [oS_app, wr_more]
    refine law_vals hh hB hu (more_lt hks i) (by rw [List.length_append, List.length_replicate]; lia) hx F (.there (.there (.there mR))) (.there (.there (.there mN))) ?_
    clear F; intro V s hV F
    have h1 := nr_len xs ks i
    have h2 := vl_len xs (ks ++ List.replicate i 2) false
    refine b_addi F (.there (.there (.there .here))) (.there .here) (by lia) ?_
    clear F; intro NR2 s hNR2 F
    (refine' s_loc F e ?_ ?_; rotate_left 1; (focus (repeat (first | with_reducible exact Up2.here | apply Up2.there))); clear F; intro s F)
    replace F := F.drop (a := V) (.there (.there .here))
    replace F := F.drop (a := NR) (.there (.there (.there .here)))
    replace F := F.bring (a := it) (.there .here)
    exact x_nil (hJ _ _ _ ⟨NR2, _, rfl, rfl⟩ F)
  · intro vs T' s hI3 F
    refine ex2 hI3 ?_; (try clear hI3); intro NR v15 hJ
    refine and2 hJ ?_; clear hJ; intro hR8 hR9
    subst hR8
    subst hR9
    exact hQ _ _ _ _ F
end
end
/-! MS28 -/
section
set_option hygiene false
section
variable {w : World} {A : Around} {g : Gd} {σ : Shared}
/-- least, and the three comparisons of a turn -/
theorem law_g6 {sA N R P NM L U NR : Addr} {ks : List Nat} {few : Nat} {t1 t2 tf : Tok} {f : List Nat} {pl : List Int} {v3 v5 v6 v7 v8 v9 v15 : Option Value} {T : Os} {B : Around} {Q : Flow → Shared → Prop} {s : Shared} (hh : B.handled = none) (hB : B.depth + 10 < recursionLimit) (hu : B.units + 1100 < cLine) (hks : ∀ k ∈ ks, k < 9) (hkl : ks.length ≤ 3) (hf1 : 1 ≤ few) (hf3 : few ≤ 3) (hpl : Pl pl) (hhp : Hp pl) (hf : Fl f) (hL : σ.heap.objs.size ≤ L)
    (e : En (g.envC 27 L) L lwN) (F : St g σ [] ((L, .ns lwN [some (.ref sA), some (.ref N), v3, some (.ref R), v5, v6, v7, v8, v9, some (.int few tf), some (.str (oS (ks.flatMap wrt)) t1), some (.str (oS ((chK f ks).flatMap wrt)) t2), some (.ref U), some (.ref NR), v15]) :: (NR, .ints (nrF (tuF f pl) ks few)) :: (U, .ints (vlF (tuF f pl) nmL ks true)) :: T) s)
    (mP : Mem T P (.ints pl)) (m3 : Mem T (L + 3) (.cell (some (.ref P)))) (mN : Mem T NM (.strs (nmL.map oS))) (m5 : Mem T (L + 5) (.cell (some (.ref NM))))
    (hQ : ∀ s' v7, St g σ [] ((L, .ns lwN [some (.ref sA), some (.ref N), v3, some (.ref R), v5, v6, v7, v8, v9, some (.int few tf), some (.str (oS (ks.flatMap wrt)) t1), some (.str (oS ((chK f ks).flatMap wrt)) t2), some (.ref U), some (.ref NR), v15]) :: T) s' → Q .next s') :
    Wp w B (execs (nbBody.drop 9) (g.envC 27 L)) Q NoE s := by
  obtain ⟨n1, n2, n3⟩ := ns_under (few := few) hf hhp hks hf1 hf3
  have hn := nr_len (tuF f pl) ks few
  have hv := vl_len (tuF f pl) ks true
  have hv' := vl_len pl (chK f ks) true
  have hcl := chK_len f ks
  have hcw := wflat_le (chK f ks)
  have hc9 := chK_lt f hks
  refine x_as (e_slc (e_call1 ?_))
  (refine' e_bi F e ?_ ?_; rotate_left 1; with_reducible constructor)
  (refine' e_loc F e ?_ ?_; rotate_left 1; (focus (repeat (first | with_reducible exact At2.here | apply At2.there))))
  refine ex2 (F.mem (.there (.there .here) : Mem _ U (.ints (vlF (tuF f pl) nmL ks true)))) ?_; intro us m hJ
  refine and2 hJ ?_; clear hJ; intro hou hiu
  refine cw_bi (k_sorted (.inl rfl) F hou hiu (Nat.lt_of_le_of_lt hv (lb rfl)) ?_)
  clear F hou hiu; intro S s hS F
  refine p_none (p_some ?_)
  (refine' e_loc F e ?_ ?_; rotate_left 1; (focus (repeat (first | with_reducible exact At2.here | apply At2.there))))
  refine slc_ints_upto F (.there .here) (by rw [srt_len]; exact Nat.le_trans hv (lb rfl)) (Int.natCast_nonneg few) ?_
  clear F; intro D s hD F
  rw [Int.toNat_natCast] at F
  replace F := F.drop (a := S) (.there (.there .here))
  (refine' s_loc F e ?_ ?_; rotate_left 1; (focus (repeat (first | with_reducible exact Up2.here | apply Up2.there))); clear F; intro s F)
  generalize (srt (vlF (tuF f pl) nmL ks true)).take few = ls at *
  refine x_if (t_or (t_cmp (e_call2 (e_ns F e ?_))))
  (refine' e_loc F e ?_ ?_; rotate_left 1; (focus (repeat (first | with_reducible exact At2.here | apply At2.there))))
  (refine' e_loc F e ?_ ?_; rotate_left 1; (focus (repeat (first | with_reducible exact At2.here | apply At2.there))))
  refine law_nsm hh hB hu hf1 hf3 (Nat.le_trans hv (lb rfl)) F (.there (.there .here)) ?_
  clear F; intro V s hV F
  (refine' e_loc F e ?_ ?_; rotate_left 1; (focus (repeat (first | with_reducible exact At2.here | apply At2.there))))
  refine c_lne F (.there .here) (.there (.there .here)) (u_lt hu) ?_
  rw [n1, show decide (ls = ls) = true from decide_eq_true rfl]
  replace F := F.drop (a := V) (.there .here)
  refine t_cmp (e_call2 (e_ns F e ?_))
  (refine' e_loc F e ?_ ?_; rotate_left 1; (focus (repeat (first | with_reducible exact At2.here | apply At2.there))))
  (refine' e_loc F e ?_ ?_; rotate_left 1; (focus (repeat (first | with_reducible exact At2.here | apply At2.there))))
  refine law_nsm hh hB hu hf1 hf3 (by lia) F (.there .here) ?_
  clear F; intro V s hV F
  (refine' e_loc F e ?_ ?_; rotate_left 1; (focus (repeat (first | with_reducible exact At2.here | apply At2.there))))
  refine c_lne F (.there .here) (.there (.there .here)) (u_lt hu) ?_
  rw [n2, show decide (ls = ls) = true from decide_eq_true rfl]
  replace F := F.drop (a := V) (.there .here)
  replace F := F.drop (a := NR) (.there (.there .here))
  replace F := F.drop (a := U) (.there (.there .here))
  refine x_nil (x_if (t_cmp (e_call2 (e_ns F e ?_))))
  (refine' e_loc F e ?_ ?_; rotate_left 1; (focus (repeat (first | with_reducible exact At2.here | apply At2.there))))
  refine e_call3 (e_fn 26 F e ?_)
  refine e_cell (L + 3) F (.there (.there m3)) ?_
  refine e_cell (L + 5) F (.there (.there m5)) ?_
  refine e_bin ?_
  (refine' e_loc F e ?_ ?_; rotate_left 1; (focus (repeat (first | with_reducible exact At2.here | apply At2.there))))
  refine e_lit lit_as F ?_; (clear F; intro tk s F)
  refine b_sadd F (by rw [oS_len, oS_len]; show _ + 1 ≤ _; lia) ?_; (clear F; intro tk s F)
  rw [oS_app, wrtL_star]
  refine law_vals hh hB hu hc9 (Nat.le_trans (Nat.le_of_eq hcl) (Nat.le_trans hkl (lb rfl))) hpl.len F (.there mP) (.there mN) ?_
  clear F; intro V s hV F
  refine law_nsm hh hB hu hf1 hf3 (Nat.le_trans hv' (lb rfl)) F .here ?_
  clear F; intro W s hW F
  (refine' e_loc F e ?_ ?_; rotate_left 1; (focus (repeat (first | with_reducible exact At2.here | apply At2.there))))
  refine c_lne F (.there .here) (.there (.there (.there .here))) (u_lt hu) ?_
  rw [n3, show decide (ls = ls) = true from decide_eq_true rfl]
  replace F := F.drop (a := W) (.there .here)
  replace F := F.drop (a := V) (.there .here)
  replace F := F.drop (a := D) (.there .here)
  exact x_nil (x_nil (hQ _ _ F))
end
end
/-! MS29 -/
section
set_option hygiene false
section
variable {w : World} {A : Around} {g : Gd} {σ : Shared}
/-- the ledger between two turns of the last loop -/
noncomputable abbrev tlH (L N R P FL NM W TK CH : Addr) (ns : List Int) (pl : List Int) (f : List Nat) (cx ct c9 : Option Value) : Os :=
  (CH, .ints chI) :: (TK, .strs tkS) :: (W, .strs wrS) :: (NM, .strs (nmL.map oS)) :: (R, .ints (tuF f pl)) :: (P, .ints pl) :: (FL, .ints (csI f)) :: (N, .ints ns) :: (L + 1, .cell cx) :: (L + 2, .cell ct) :: (L + 3, .cell (some (.ref P))) :: (L + 4, .cell (some (.ref FL))) :: (L + 5, .cell (some (.ref NM))) :: (L + 6, .cell (some (.ref W))) :: (L + 7, .cell (some (.ref TK))) :: (L + 8, .cell (some (.ref CH))) :: (L + 9, .cell c9) :: []
/-- one turn of the last loop -/
theorem law_g {sA N R P FL NM W TK CH L it : Addr} {ns pl : List Int} {f : List Nat} {tt : Int} {tc : Tok} {nb : Nat} {tn : Tok} {kit : K} {v3 v5 v6 v7 v8 v10 v11 v12 v13 v14 v15 cx c9 : Option Value} {B : Around} {Q : Flow → Shared → Prop} {s : Shared} (hh : B.handled = none) (hB : B.depth + 10 < recursionLimit) (hu : B.units + 1100 < cLine) (hn0 : 0 < ns.length) (hn1 : ns.length ≤ 24) (hb : ∀ i, 0 ≤ ns.getD i 0 ∧ ns.getD i 0 < 1000003) (hnb : nb < 3) (hpl : Pl pl) (hhp : Hp pl) (hf : Fl f) (hL : σ.heap.objs.size ≤ L)
    (e : En (g.envC 27 L) L lwN) (F : St g σ [] ((L, .ns lwN [some (.ref sA), some (.ref N), v3, some (.ref R), v5, v6, v7, v8, some (.int nb tn), v10, v11, v12, v13, v14, v15]) :: (it, kit) :: tlH L N R P FL NM W TK CH ns pl f cx (some (.int tt tc)) c9) s)
    (hQ : ∀ s' v7 v10 v11 v12 v13 v14 v15 cx c9, St g σ [] ((L, .ns lwN [some (.ref sA), some (.ref N), v3, some (.ref R), v5, v6, v7, v8, some (.int nb tn), v10, v11, v12, v13, v14, v15]) :: (it, kit) :: tlH L N R P FL NM W TK CH ns pl f cx (some (.int tt tc)) c9) s' → Q .next s') :
    Wp w B (execs nbBody (g.envC 27 L)) Q NoE s := by
  refine law_g1 hh hn0 hn1 hb hnb hL e F ?_
  clear F s; intro s KD x few tf cx h1 h3 F
  have hks := kd_lt x
  have hkl := kd_len x
  generalize kdF x = ks at *
  refine law_g2 hh hf hks hkl hL e F ?_
  clear F s; intro s t1 F
  refine law_g3 hh hf hks hkl hL e F ?_
  clear F s; intro s t2 F
  refine law_g4 (TK := TK) (KD := KD) hh hB (d_lt hu (lb rfl)) hks hkl hL e F (by (focus (repeat (first | with_reducible exact At2.here | apply At2.there)))) (by (focus (repeat (first | with_reducible exact Mem.here | apply Mem.there)))) (by (focus (repeat (first | with_reducible exact Mem.here | apply Mem.there)))) (by (focus (repeat (first | with_reducible exact Mem.here | apply Mem.there)))) (by (focus (repeat (first | with_reducible exact Mem.here | apply Mem.there)))) ?_
  clear F s; intro s F
  refine law_g5 (NM := NM) hh hB hu hks hkl h3 (tuF_len _ _) hL e F (by (focus (repeat (first | with_reducible exact Mem.here | apply Mem.there)))) (by (focus (repeat (first | with_reducible exact Mem.here | apply Mem.there)))) (by (focus (repeat (first | with_reducible exact Mem.here | apply Mem.there)))) ?_
  clear F s; intro s U NR v15 F
  refine law_g6 (P := P) (NM := NM) hh hB hu hks hkl h1 h3 hpl hhp hf hL e F (by (focus (repeat (first | with_reducible exact Mem.here | apply Mem.there)))) (by (focus (repeat (first | with_reducible exact Mem.here | apply Mem.there)))) (by (focus (repeat (first | with_reducible exact Mem.here | apply Mem.there)))) (by (focus (repeat (first | with_reducible exact Mem.here | apply Mem.there)))) ?_
  clear F s; intro s v7 F
  exact hQ _ _ _ _ _ _ _ _ _ _ (F.drop (a := KD) (.there .here))
theorem law_h {sA N R P FL NM W TK CH L : Addr} {ns pl : List Int} {f : List Nat} {tt : Int} {tc : Tok} {v3 v5 v6 v7 v8 cx : Option Value} {B : Around} {Q : Flow → Shared → Prop} {s : Shared} (hh : B.handled = none) (hB : B.depth + 10 < recursionLimit) (hu : B.units + 1100 < cLine) (hn0 : 0 < ns.length) (hn1 : ns.length ≤ 24) (hb : ∀ i, 0 ≤ ns.getD i 0 ∧ ns.getD i 0 < 1000003) (hpl : Pl pl) (hhp : Hp pl) (hf : Fl f) (hL : σ.heap.objs.size ≤ L)
    (e : En (g.envC 27 L) L lwN) (F : St g σ [] (lwU L sA N R P FL NM W TK CH ns pl f v3 v5 v6 v7 v8 cx (some (.int tt tc))) s)
    (hQ : ∀ s' os, St g σ [] os s' → Q (.ret (.bool true)) s') :
    Wp w B (execs ((fnBody (stmtAt 27)).drop 16) (g.envC 27 L)) Q NoE s := by
  refine x_forN (n := 3) (kit := fun i => .riter i ((3 - i : Nat) : Int) 1) F (fun i vs T => ∃ v7 v9 v10 v11 v12 v13 v14 v15 cx c9, vs = [some (.ref sA), some (.ref N), v3, some (.ref R), v5, v6, v7, v8, v9, v10, v11, v12, v13, v14, v15] ∧ T = tlH L N R P FL NM W TK CH ns pl f cx (some (.int tt tc)) c9) hL (fun _ _ _ _ => kit_range hh) ⟨_, _, _, _, _, _, _, _, _, _, rfl, rfl⟩ ?_ ?_ ?_
  · refine e_call1 ?_
    (refine' e_bi F e ?_ ?_; rotate_left 1; with_reducible constructor)
    (refine e_int F ?_; clear F; intro tk s F)
    exact cw_ty (first_rng F (by decide))
  · clear F s
    intro i vs T it s v hi hI hv F J hJ
    refine ex5 hI ?_; clear hI; intro v7 v9 v10 v11 v12 hI
    refine ex5 hI ?_; clear hI; intro v13 v14 v15 cx c9 hI
    refine and2 hI ?_; clear hI; intro e1 e2
    subst e1 e2
    obtain ⟨t, rfl⟩ := hv
    (refine' s_loc F e ?_ ?_; rotate_left 1; (focus (repeat (first | with_reducible exact Up2.here | apply Up2.there))); clear F; intro s F)
    refine law_g hh hB hu hn0 hn1 hb hi hpl hhp hf hL e F ?_
    intro s' v7 v10 v11 v12 v13 v14 v15 cx c9 F
    exact hJ _ _ _ (exi5 _ _ _ _ _ (exi5 _ _ _ _ _ ⟨rfl, rfl⟩)) F
  · intro vs T s hI F
    refine ex5 hI ?_; clear hI; intro v7 v9 v10 v11 v12 hI
    refine ex5 hI ?_; clear hI; intro v13 v14 v15 cx c9 hI
    refine and2 hI ?_; clear hI; intro e1 e2
    subst e1 e2
    exact x_ret (e_true (hQ _ _ F))
/-- the law gives back True -/
theorem law_spec {sA : Addr} {xs : List Int} (I : Iv g σ) (hh : A.handled = none) (hA : A.depth + 20 < recursionLimit) (hU : A.units + 1200 < cLine) (hs : K.At σ.heap sA (.ints xs)) (hlow : g.h₁.objs.size ≤ sA) (hz : xs.length ≤ 63) :
    Spec w A (.ref (g.fa 27)) [.ref sA] σ (fun v s' => v = .bool true ∧ After g [] σ s' ∧ Iv g s') := by
  refine ex2 hs ?_; (try clear hs); intro rs nr hJ
  refine and2 hJ ?_; clear hJ; intro ho hi
  have F0 : St g σ [] [(sA, .raw (listO rs nr))] σ := .start I (by simpa [K.At] using ho) (by simp) (by simp [K.soft]) (by simpa using hlow)
  refine enterC (i := 27) (dflt := .none) lwN [some (.ref sA), none, none, none, none, none, none, none, none, none, none, none, none, none, none] [("x", none), ("total", none), ("plain", none), ("flips", none), ("names", none), ("written", none), ("takes", none), ("changed", none), ("kinds", none)] [("script", .ref sA)] I (u_lt hA) F0 (I.get (I.ok.fn 27 (by decide)).get (by rw [(I.ok.fn 27 (by decide)).data]; nofun)) (I.ok.fn 27 (by decide)).data (I.ok.fn 27 (by decide)).code (Wp.val (by first | rfl | kernel_rfl) ⟨rfl, rfl⟩) (by kernel_rfl) (by kernel_rfl) (by kernel_rfl) (fun L => by kernel_rfl) (by decide +kernel) (by decide +kernel) (by decide +kernel) (by decide +kernel) ?_
  intro L s hL F e J hJ
  have hhh : (A.deeper (g.envC 27 L)).handled = none := hh
  have hdd : (A.deeper (g.envC 27 L)).depth + 10 < recursionLimit := by show A.depth + 1 + 10 < _; lia
  have huu : (A.deeper (g.envC 27 L)).units + 1100 < cLine := by show A.units + 3 + 1100 < cLine; lia
  generalize A.deeper (g.envC 27 L) = B at *
  obtain ⟨hn0, hn1⟩ := nb_len xs
  have hb := nb_bnd xs
  refine law_a hhh hz hi hL e F ?_
  clear F s; intro s N t F
  generalize nbF xs = ns at *
  refine law_b hhh hn0 hn1 hb hL e F ?_
  clear F s; intro s P v3 F
  have hpl := bd_pl ns
  generalize bdF ns 15 = pl at *
  refine law_c hhh hdd hn1 hpl hL e F ?_
  clear F s; intro s R FL v5 F
  refine and3 (tu_heapify hpl (fl_of 0)) ?_; intro hU1 h2 h3
  refine law_d hhh hdd hn1 h2 h3 (fl_of _) hL e F ?_
  clear F s; intro s R pl f v5 v6 v7 cx hpl hhp hf F
  refine law_e hhh hdd (u_lt huu) hpl hf hL e F ?_
  clear F s; intro s NM v8 F
  refine law_f e F ?_
  clear F s; intro s W TK CH F
  refine law_h hhh hdd huu hn0 hn1 hb hpl hhp hf hL e F ?_
  clear F s; intro s os F
  exact hJ _ _ ⟨_, rfl, rfl, F.aft, F.inv⟩
end
end
/-! ML1 -/
section
set_option hygiene false
section
open PySem.W
/-! the head, 1: the top as the machine leaves it -/
noncomputable def hq : Program := view pw [0, 2, 4, 5, 7, 8, 10, 11, 13, 14, 15, 16, 17, 18, 19, 20, 23, 24, 25, 26, 27]
noncomputable def hlo : List Str := ["_twin_re_1", "_special_chars_map", "nsmallest"]
noncomputable def hMap (h : Heap) : Bool := match h.get? 52 with
  | some o => (match o.cls with | .type n => n == "dict" | _ => false) && (match o.data with
    | .dict es _ => (es.all fun e => match e.key with | .int k _ => e.hash == hashInt k | _ => false) && (findBy Value.isInt es 97).isNone && (findBy Value.isInt es 98).isNone
    | _ => false)
  | none => false
noncomputable def hCode (h : Heap) : Bool := match h.get? 137 with
  | some o => (match o.data with
    | .fields vs => (match vs.getD 1 .none with | .str q _ => q == fnName (stmtAt 21) | _ => false)
    | _ => false)
  | none => false
noncomputable abbrev hα := (Option Value × Option Value × Option Value) × (Option Obj × Option Obj × Option Obj) × Option Data × Bool
noncomputable def hY (s : Shared) : hα := ((s.heap.nsMap mainGlobals (fnName (stmtAt 21)), s.heap.nsMap mainGlobals "_twin_re_1", s.heap.nsMap mainGlobals "_special_chars_map"), (s.heap.get? 43, s.heap.get? 42, s.heap.get? 133), (s.heap.get? 138).map (·.data), hMap s.heap && hCode s.heap)
noncomputable def hTup : Obj := { cls := .type "tuple", data := .seq #[.int 14 0, .int 14 0, .int 4 0, .int 1 0, .int 1 0, .int 9 0, .int 0 0, .int 64 0, .int 0 0, .int 1342177280 0, .int 0 0, .int 0 0, .int 0 0, .int 0 0, .int 0 0, .int 17 0, .int 0 0, .int 13 0, .int 11 0, .int 9 0, .int 0 0, .int 64 0, .int 0 0, .int 1342177280 0, .int 0 0, .int 0 0, .int 0 0, .int 0 0, .int 0 0, .int 17 0, .int 1 0, .int 1 0] 0 }
noncomputable def hPat : Obj := { cls := .type "re.Pattern", data := .fields #[.str "([&~|])" 298, .int 32 333, .int 1 0, .none, .none, .ref 42, .int 0 0] }
noncomputable def hDf : Obj := { cls := .type "tuple", data := .seq #[.none] 0 }
noncomputable def hNs : FuncData := { Calls.docDef (fnName (stmtAt 21)) (fnParams (stmtAt 21)) (fnBody (stmtAt 21)) (fnScope (stmtAt 21)) (.str "cpy313.heapq" 533) (.ref 137) .none with defaults := .ref 133 }
noncomputable def hYa : hα := ((some (.ref 138), some (.ref 43), some (.ref 52)), (some hPat, some hTup, some hDf), some (.func hNs), true)
theorem left_ff (w : World) : (openEnds treeTable pw ((w.withFollow "special-get-raises" false).withFollow "comprehension-iter-twice" false) 4100).map (fun s => (openSeen hq hlo (importedModules pw.main.body) (fun _ => true) true s, hY s)) = some (openGood hq hlo, hYa) := by kernel_rfl
theorem left_ft (w : World) : (openEnds treeTable pw ((w.withFollow "special-get-raises" false).withFollow "comprehension-iter-twice" true) 4100).map (fun s => (openSeen hq hlo (importedModules pw.main.body) (fun _ => true) true s, hY s)) = some (openGood hq hlo, hYa) := by kernel_rfl
theorem left_tf (w : World) : (openEnds treeTable pw ((w.withFollow "special-get-raises" true).withFollow "comprehension-iter-twice" false) 4100).map (fun s => (openSeen hq hlo (importedModules pw.main.body) (fun _ => true) true s, hY s)) = some (openGood hq hlo, hYa) := by kernel_rfl
theorem left_tt (w : World) : (openEnds treeTable pw ((w.withFollow "special-get-raises" true).withFollow "comprehension-iter-twice" true) 4100).map (fun s => (openSeen hq hlo (importedModules pw.main.body) (fun _ => true) true s, hY s)) = some (openGood hq hlo, hYa) := by kernel_rfl
theorem left_all : LeftO pw hq hlo (fun _ => true) hY (fun _ => hYa) 4100 := fun w =>
  byRow2 "comprehension-iter-twice" (P := fun w => (openEnds treeTable pw w 4100).map (fun s => (openSeen hq hlo (importedModules pw.main.body) (fun _ => true) true s, hY s)) = some (openGood hq hlo, hYa))
    (byRow2 "special-get-raises" (P := fun w => (openEnds treeTable pw (w.withFollow "comprehension-iter-twice" false) 4100).map (fun s => (openSeen hq hlo (importedModules pw.main.body) (fun _ => true) true s, hY s)) = some (openGood hq hlo, hYa)) left_ff left_tf)
    (byRow2 "special-get-raises" (P := fun w => (openEnds treeTable pw (w.withFollow "comprehension-iter-twice" true) 4100).map (fun s => (openSeen hq hlo (importedModules pw.main.body) (fun _ => true) true s, hY s)) = some (openGood hq hlo, hYa)) left_ft left_tt) w
end
end
/-! ML2 -/
section
set_option hygiene false
section
open PySem.W
/-! the head, 2: from the law's walk to the row -/
noncomputable abbrev rr : OpenRow := PySem.Challenge.rw_rx0080_01.row
theorem ff_of {b : Bool} (h : b = true) (e : b = false) : False := Bool.noConfusion (h.symm.trans e)
theorem items_int : ∀ {l : List WData}, WShape.hasItems [] l .int = true → ∃ xs : List Int, l = xs.map .int
  | [], _ => ⟨[], rfl⟩
  | x :: l, h => by
    rw [WShape.hasItems, Bool.and_eq_true] at h
    obtain ⟨xs, rfl⟩ := items_int h.2
    cases x with
    | int i => exact ⟨i :: xs, rfl⟩
    | _ => exact (ff_of h.1 (by kernel_rfl)).elim
theorem script_is {d : List WData} (h : rr.toRowW.claim.pre d = true) : ∃ xs : List Int, d = [.list (xs.map .int)] ∧ xs.length ≤ 63 := by
  obtain ⟨h1, h2⟩ := Bool.and_eq_true_iff.mp h
  match d, h1 with
  | [], h1 => cases h1
  | x :: r, h1 =>
    obtain ⟨g1, g3⟩ := Bool.and_eq_true_iff.mp h1
    have : r = [] := by
      cases r with
      | nil => rfl
      | cons _ _ => cases g3
    subst this
    have g1 : WShape.has [] x (.list .int) = true := g1
    clear h h1 g3
    cases x with
    | list l =>
      have g2 : WShape.hasItems [] l .int = true := (Bool.or_false _).symm.trans ((by kernel_rfl : (WShape.hasItems [] l .int || false) = WShape.has [] (.list l) (.list .int)).trans g1)
      obtain ⟨xs, rfl⟩ := items_int g2
      refine ⟨xs, rfl, Decidable.byContradiction fun hn => ?_⟩
      have e : decide ((63 : Int) < (((xs.map WData.int).length : Nat) : Int)) = true := decide_eq_true (by rw [List.length_map]; exact i_lt (Nat.lt_of_not_le hn))
      have h2 : (match (match (match some (WData.bool (decide ((63 : Int) < (((xs.map WData.int).length : Nat) : Int)))) with
          | some (.bool b) => some (WData.bool (!b))
          | _ => none) with
        | some (.bool false) => some (WData.bool false)
        | some (.bool true) => (match some (WData.bool true) with
          | some (.bool x) => some (.bool x)
          | _ => none)
        | _ => none) with
        | some (.bool true) => true
        | _ => false) = true := h2
      rw [e] at h2
      exact Bool.noConfusion h2
    | _ => exact (ff_of g1 (by kernel_rfl)).elim
theorem lay_ints (cl : Str → Option Addr) (P : Params) (ord : List DictEntry → List DictEntry) : ∀ (xs : List Int) (s : Shared), ∃ us tk, layAllW [] cl P ord (xs.map .int) s = some (us, { s with toks := tk }) ∧ Ints us xs
  | [], s => ⟨[], s.toks, rfl, .nil⟩
  | x :: xs, s => by
    obtain ⟨us, tk, e, h⟩ := lay_ints cl P ord xs { s with toks := s.toks + 1 }
    refine ⟨.int x s.toks :: us, tk, ?_, .cons ⟨_, rfl⟩ h⟩
    rw [List.map_cons, layAllW, layW]
    simp only
    rw [e]
theorem lay_script (cl : Str → Option Addr) (P : Params) (ord : List DictEntry → List DictEntry) (xs : List Int) (s : Shared) : ∃ us tk, layAllW [] cl P ord [.list (xs.map .int)] s = some ([.ref s.heap.objs.size], { s with heap := s.heap.push (listO us 0), toks := tk }) ∧ Ints us xs := by
  obtain ⟨us, tk, e, h⟩ := lay_ints cl P ord xs s
  refine ⟨us, tk, ?_, h⟩
  rw [layAllW, layW, e]
  rfl
/-- a thread of ours comes to its end -/
theorem ends_clean {w : World} {t : Sem Fin} {s : Shared} {R : Result → Shared → Prop} (hz : s.asleep)
    (h : Wp w callerA t (fun fin s' => ∃ f, fin = .done f ∧ (R (.ok f) s' ∧ leftWithCleanup s'.gens = false)) (fun e s' => R (.error e) s' ∧ leftWithCleanup s'.gens = false) s) :
    ∃ n r s' s'', runN (denote table) pw w n s ⟨t, .builtin "claim.caller" {}, default, []⟩ = .halted (outcomeOf r) s' ∧
      schedN (denote table) pw w n (.single s ⟨t, .builtin "claim.caller" {}, default, []⟩) = .halted (outcomeOf r) s' ∧ s'.forget = s''.forget ∧ R r s'' := by
  obtain ⟨n, r, s₁, s₂, hs, hn, hfo, hR⟩ := wp_halts_full (M := model pw w) (R := R) (p := default) hz (Sem.wp_mono _ _ t (fun fin p' s' h' => by
    obtain ⟨f, rfl, hf⟩ := h'
    exact hf) (fun _ _ _ h' => h') default s (Wp.iff.mp h _ default caller_in fun x hx => by
    cases List.mem_singleton.mp hx
    decide))
  exact ⟨n, r, s₂, s₁, hn, hs, hfo, hR⟩
end
end
/-! ML3 -/
section
set_option hygiene false
section
open PySem.W
/-! the head, 3: what the law reads of the top, and the row -/
noncomputable def stPos : Stmt → Pos
  | .FunctionDef (pos := p) .. => p
  | _ => default
noncomputable def recAt (i : Nat) : DefRec := ⟨fnName (stmtAt i), fnParams (stmtAt i), fnBody (stmtAt i), fnScope (stmtAt i), stPos (stmtAt i)⟩
theorem recs_is : recsOf hq = fnIds.map recAt := by kernel_rfl
noncomputable def biN : List Str := ["len", "range", "reversed", "bytearray", "bytes", "object", "isinstance", "str", "iter", "min", "zip", "sorted", "list", "sum"]
theorem bi_free : (biN.all fun x => !startupNames.contains x && !(looseW hq hlo).contains x && !((recsOf hq).map (·.name)).contains x && !((litsOf hq).map (·.1)).contains x && !((clssOf hq (looseW hq hlo)).map (·.name)).contains x) = true := by kernel_rfl
theorem bi_boot {x : Str} {v : Value} (h : Bi x v) : bootBuiltins x = some v ∧ x ∈ biN ∧ x ≠ "__name__" := by
  cases h <;> exact ⟨by kernel_rfl, by decide +kernel, by decide +kernel⟩
theorem map_of {h : Heap} (e : hMap h = true) : ∃ o es ep, h.get? 52 = some o ∧ o.cls = .type "dict" ∧ o.data = .dict es ep ∧ h.IntMap 52 (fun k => findBy Value.isInt es k) ∧ findBy Value.isInt es 97 = none ∧ findBy Value.isInt es 98 = none := by
  unfold hMap at e
  split at e
  · rename_i o ho
    obtain ⟨e1, e2⟩ := Bool.and_eq_true_iff.mp e
    have hc : o.cls = .type "dict" := by
      split at e1
      · rename_i n hn
        rw [hn, eq_of_beq e1]
      · cases e1
    split at e2
    · rename_i es ep hd
      obtain ⟨e2, e4⟩ := Bool.and_eq_true_iff.mp e2
      obtain ⟨e2, e3⟩ := Bool.and_eq_true_iff.mp e2
      have hk : IntKeys es := fun x hx => by
        have := Array.all_eq_true_iff_forall_mem.mp e2 x hx
        split at this
        · rename_i k t hk
          exact ⟨k, t, hk, eq_of_beq this⟩
        · cases this
      exact ⟨o, es, ep, ho, hc, hd, ⟨o, es, ep, ho, hc, hd, hk, fun _ => rfl⟩, Option.isNone_iff_eq_none.mp e3, Option.isNone_iff_eq_none.mp e4⟩
    · cases e2
  · cases e
theorem code_of {h : Heap} (e : hCode h = true) : h.CodeRec (.ref 137) (fnName (stmtAt 21)) := by
  unfold hCode at e
  split at e
  · rename_i o ho
    split at e
    · rename_i vs hd
      split at e
      · rename_i q t hv
        refine ⟨137, o, vs, t, rfl, ho, hd, ?_⟩
        rw [← eq_of_beq e]
        rw [Array.getD_eq_getD_getElem?] at hv
        cases hx : vs[1]? with
        | none => rw [hx] at hv; cases hv
        | some x => rw [hx] at hv; exact congrArg some hv
      · cases e
    · cases e
  · cases e
theorem gd_of {w : World} {s : Shared} (G : Ground hq hlo [] (fun _ _ => True) w s (s.heap.nsMap mainGlobals) (s.heap.nsMap builtinsNs) s.heap) (y : hY s = hYa) :
    ∃ g : Gd, g.Ok ∧ g.h₁ = s.heap ∧ g.mg = s.heap.nsMap mainGlobals ∧ ∃ c, s.heap.TableAt c g.P #[] := by
  have T := G.T
  obtain ⟨ob, hob, hod⟩ := Option.map_eq_some_iff.mp (show (s.heap.get? 138).map (·.data) = some (.func hNs) from congrArg (fun x => x.2.2.1) y)
  have hB : (hMap s.heap && hCode s.heap) = true := congrArg (fun x => x.2.2.2) y
  obtain ⟨hB1, hB2⟩ := Bool.and_eq_true_iff.mp hB
  obtain ⟨om, es, ep, m1, m2, m3, m4, m5, m6⟩ := map_of hB1
  have key : ∀ i, ∃ p : (Nat × Obj) × (Value × Value × Value), (i ∈ fnIds → s.heap.nsMap mainGlobals (fnName (stmtAt i)) = some (.ref p.1.1) ∧ s.heap.get? p.1.1 = some p.1.2 ∧ p.1.2.data = .func (Calls.docDef (fnName (stmtAt i)) (fnParams (stmtAt i)) (fnBody (stmtAt i)) (fnScope (stmtAt i)) p.2.1 p.2.2.1 p.2.2.2) ∧ s.heap.CodeRec p.2.2.1 (fnName (stmtAt i))) ∧ (i = 21 → p = ((138, ob), (.str "cpy313.heapq" 533, .ref 137, .none))) := fun i => by
    by_cases hi : i ∈ fnIds
    · obtain ⟨a, o, pm, code, doc, h1, h2, h3, h4⟩ := T.fn (recAt i) (recs_is ▸ List.mem_map_of_mem hi)
      exact ⟨((a, o), (pm, code, doc)), fun _ => ⟨h1, h2, h3, h4⟩, fun e => absurd hi (by rw [e]; decide)⟩
    · exact ⟨((138, ob), (.str "cpy313.heapq" 533, .ref 137, .none)), fun h => absurd h hi, fun _ => rfl⟩
  obtain ⟨F, hF⟩ := Classical.axiomOfChoice key
  have hF21 : F 21 = ((138, ob), (.str "cpy313.heapq" 533, .ref 137, .none)) := (hF 21).2 rfl
  obtain ⟨a, o, fd, c, P, t1, t2, t3, t4, t5, t6⟩ := T.tab (recAt 10) (recs_is ▸ List.mem_map_of_mem (by decide : 10 ∈ fnIds))
  obtain ⟨f1, f2, f3, f4⟩ := (hF 10).1 (by decide)
  refine ⟨{ h₁ := s.heap, mg := s.heap.nsMap mainGlobals, mb := s.heap.nsMap builtinsNs, P := P, fa := fun i => (F i).1.1, fc := fun i => (F i).2.2.1, fo := fun i => (F i).1.2, fpm := fun i => (F i).2.1, fdoc := fun i => (F i).2.2.2, dd := 133, rx := 43, rxo := hPat, sm := 52 }, ?_, rfl, rfl, c, t6⟩
  exact {
    gl := T.g
    bl := T.b
    lim := T.nolimit
    tab := t6.2
    fn := fun i hi => by
      obtain ⟨h1, h2, h3, h4⟩ := (hF i).1 hi
      exact ⟨h1, h2, h3, h4⟩
    bi := fun x v h => by
      obtain ⟨b1, b2, b3⟩ := bi_boot h
      have := List.all_eq_true.mp bi_free x b2
      simp only [Bool.and_eq_true, Bool.not_eq_true', List.contains_eq_mem, decide_eq_false_iff_not] at this
      obtain ⟨⟨⟨⟨q1, q2⟩, q3⟩, q4⟩, q5⟩ := this
      exact ⟨T.free x q1 q2 q3 q4 q5, (T.builtins x b3).trans b1⟩
    nsm := by
      show _ = some (Value.ref (F 21).1.1)
      rw [hF21]
      exact congrArg (fun x => x.1.1) y
    nsg := by
      show s.heap.get? (F 21).1.1 = some (F 21).1.2
      rw [hF21]
      exact hob
    nsd := by
      show (F 21).1.2.data = .func { Calls.docDef _ _ _ _ (F 21).2.1 (F 21).2.2.1 (F 21).2.2.2 with defaults := .ref 133 }
      rw [hF21]
      exact hod
    nsc := by
      show s.heap.CodeRec (F 21).2.2.1 _
      rw [hF21]
      exact code_of hB2
    nst := ⟨0, congrArg (fun x => x.2.1.2.2) y⟩
    rxm := congrArg (fun x => x.1.2.1) y
    rxg := congrArg (fun x => x.2.1.1) y
    rxd := rfl
    rxf := ⟨rfl, _, _, _, _, _, _, 42, _, _, rfl, congrArg (fun x => x.2.1.2.1) y, rfl⟩
    smm := congrArg (fun x => x.1.2.2) y
    smf := by
      refine ⟨fun e => ?_, by show ((52 : Nat) == sysModules) = false; decide, _, m4, m5, m6⟩
      have hP : s.heap.get? P = some (tabO #[]) := t6.2
      have e : (52 : Nat) = P := e
      rw [← e, m1] at hP
      rw [Option.some.inj hP] at m2
      cases m2
    tcode := by
      refine ⟨c, ?_, t5⟩
      have e1 : a = (F 10).1.1 := by
        have := t1.symm.trans f1
        injection this with e
        injection e
      subst e1
      have e2 := Option.some.inj (t2.symm.trans f2)
      rw [e2, f3] at t3
      injection t3 with e3
      rw [← e3] at t4
      exact t4
    bmod := T.bmain }
end
end
/-! ML4 -/
section
set_option hygiene false
section
open PySem.W
/-! the head, 4: the row -/
theorem law_call {w : World} {s : Shared} {g : Gd} {c : Addr} (ok : g.Ok) (e1 : g.h₁ = s.heap) (e2 : g.mg = s.heap.nsMap mainGlobals) (tab : s.heap.TableAt c g.P #[]) (hg : s.gens = #[]) {xs : List Int} {us : List Value} (hz : xs.length ≤ 63) (hi : Ints us xs) (tk : Nat) :
    Wp w callerA (callStub rr.name [.ref s.heap.objs.size]).cur (fun fin s' => ∃ f, fin = .done f ∧ ((f = .ret (.bool true) ∧ OldK (s.heap.push (listO us 0)) s'.heap ∧ s'.os = s.os) ∧ leftWithCleanup s'.gens = false)) (fun _ _ => False) { s with heap := s.heap.push (listO us 0), toks := tk } := by
  have hk : ∀ b o, s.heap.get? b = some o → (s.heap.push (listO us 0)).get? b = some o := fun b o e => Heap.get?_push_of_some _ e
  have hP : s.heap.get? g.P = some (tabO #[]) := tab.2
  have hsz : (s.heap.push (listO us 0)).objs.size = s.heap.objs.size + 1 := Heap.size_push _ _
  have I : Iv g { s with heap := s.heap.push (listO us 0), toks := tk } := ⟨ok, fun b o e _ => hk b o (e1 ▸ e), by rw [e1]; show _ ≤ (s.heap.push (listO us 0)).objs.size; rw [hsz]; exact Nat.le_succ _, #[], hk _ _ hP, trivial⟩
  have hn : (s.heap.push (listO us 0)).Ns mainGlobals g.mg := (e1 ▸ ok.gl : s.heap.Ns mainGlobals g.mg).keeps hk
  have hf : g.mg rr.name = some (.ref (g.fa 27)) := (ok.fn 27 (by decide)).mg
  refine Wp.bind (m := nsGet mainNs rr.name) (.of (wpAny_nsGet hn ?_))
  rw [hf]
  refine Wp.bind (Wp.call (Cd.mono (law_spec (xs := xs) I rfl (by decide) (by decide) ⟨us, 0, Heap.get?_push_size _ rfl, hi⟩ (by rw [e1]; exact Nat.le_refl _) hz) ?_))
  rintro r s' ⟨v, rfl, rfl, ha, hi'⟩
  have hgen : leftWithCleanup s'.gens = false := leftWithCleanup_false_of_bare (ha.gens (.of_eq hg))
  obtain ⟨ps, hps, _⟩ := hi'.tab
  have hP1 := hk _ _ hP
  refine Wp.pure ⟨_, rfl, ⟨rfl, ⟨fun b o e => ?_, fun b o e => ?_⟩, ha.os⟩, hgen⟩
  · by_cases hb : b = g.P
    · subst hb
      rw [hP1] at e
      cases e
      exact .inr (.inl ⟨(tab.keeps hk).isCodeTable, rfl, #[], ps, rfl, by rw [Array.empty_append]; exact hps⟩)
    · exact .inl (ha.keep b o e (fun h => nomatch h) hb)
  · by_cases hb : b = g.P
    · subst hb
      exact ⟨_, hps⟩
    · exact ⟨o, ha.keep b o e (fun h => nomatch h) hb⟩
theorem law_from {w : World} {s : Shared} {free : Addr → Prop} {gens : Prop} {kept : Heap → Prop} (hz : s.asleep) (hgens : s.gens = #[]) (hkept : ∀ h, kept h)
    (G : Ground hq hlo [] (fun _ _ => True) w s (s.heap.nsMap mainGlobals) (s.heap.nsMap builtinsNs) s.heap) (y : hY s = hYa) : rr.toRowW.claim.CallFrom (callStub rr.name) w free gens kept s := by
  obtain ⟨g, ok, e1, e2, c, tab⟩ := gd_of G y
  intro args hpre hlay ord hord
  obtain ⟨xs, rfl, hx⟩ := script_is hpre
  obtain ⟨us, tk, el, hi⟩ := lay_script (classAt s.heap) w.params ord xs s
  have hcall := law_call (w := w) ok e1 e2 tab hgens hx hi tk
  have hlife : (s.heap.push (listO us 0)).life = s.heap.life := (layAllW_rest (ord := ord) _ _ _ el).2.2.2
  obtain ⟨n, r, s', s'', hrun, hsched, hfo, rfl, hK, hos⟩ := ends_clean (R := fun r s' => r = .ok (.ret (.bool true)) ∧ OldK (s.heap.push (listO us 0)) s'.heap ∧ s'.os = s.os) (s := { s with heap := s.heap.push (listO us 0), toks := tk }) (Shared.asleep_of_life (s' := { s with heap := s.heap.push (listO us 0), toks := tk }) hlife hz) (Wp.mono hcall (fun fin s' h => by
    obtain ⟨f, e, ⟨e', h1, h2⟩, h3⟩ := h
    exact ⟨f, e, ⟨congrArg Except.ok e', h1, h2⟩, h3⟩) (fun _ _ h => False.elim h))
  obtain ⟨eh, _, _, eo, _⟩ := Shared.forget_eq hfo
  rw [← eh] at hK
  rw [← eo] at hos
  have hget : (s.heap.push (listO us 0)).get? s.heap.objs.size = some (listO us 0) := Heap.get?_push_size _ rfl
  have hget' := hK.get_of_cls hget (by nofun)
  have hrd : ∀ (us : List Value) (xs : List Int), Ints us xs → ReadsAllW [] (classAt s.heap) s'.heap us (xs.map .int) [] := fun us xs h => by
    induction h with
    | nil => exact .nil
    | cons hv _ ih =>
      obtain ⟨t, rfl⟩ := hv
      exact .cons (.int _ t) ih
  refine ⟨_, _, el, n, _, s', hsched, .inl ⟨.bool true, rfl, fun _ => rfl, ⟨.bool true, [.list (xs.map .int)], [], [s.heap.objs.size], .bool true, .cons (.list hget' rfl rfl (hrd _ _ hi)) .nil, by kernel_rfl, fun _ => ⟨.nil, fun _ h => (nomatch h), fun _ h => (nomatch h)⟩, fun _ _ => ident_freeW rfl rfl rfl _ _⟩, fun _ h => (nomatch h), fun b o e _ _ _ => hK.old b o e, fun _ h => (nomatch h)⟩, fun _ i x hx => ?_, hkept _, ?_, Shared.rest_eq hos⟩
  · rw [hgens] at hx
    simp at hx
  · rw [(runN_life _ _ _ hrun).trans hlife]
theorem law_said : PySem.Challenge.rw_rx0080_01.wellSaid = true := by kernel_rfl
theorem law_def : ∃ d kwd, defOf hq rr.name = some (d, kwd) ∧ pw.theDef rr.name = some (d.params, d.body, d.scope) ∧ kwWritten? d.params.kwonlyargs d.params.kw_defaults = some kwd := ⟨_, _, rfl, rfl, rfl⟩
theorem law_row : rr.Holds := by
  have hw : rr.toRowW.promised := ⟨[.list []], by decide +kernel, by decide +kernel⟩
  refine ⟨row_said law_said, hw, ⟨⟨rfl, rfl, rfl, rfl, rfl, by decide +kernel⟩, by kernel_rfl, rfl⟩, ⟨[.list []], by decide +kernel, by decide +kernel⟩, fun w => ?_⟩
  have hch : chainsOk hq = true := by kernel_rfl
  have B := left_all.behind (XP := fun _ _ => True) (fun _ _ => trivial) hch w
  refine ⟨B.1, fun s' hs' => ?_⟩
  obtain ⟨s₀, hf, hg0, s, hT, hz, hgens, hg, G, y⟩ := B.2 s' hs'
  obtain ⟨d, kwd, d1, d2, d3⟩ := law_def
  refine ⟨s₀, hf, hg0, s, hT, fun n hn => ?_, fun _ h => (nomatch h), fun _ h => (nomatch h), law_from hz (Array.eq_empty_of_size_eq_zero (beq_iff_eq.mp hgens)) (fun _ h => (nomatch h)) G y⟩
  cases List.mem_singleton.mp hn
  exact pinned_of_view hg G d1 d2 d3
end
end
end
end Mine
theorem PySem.Challenge.cw_rx0080_01_holds : PySem.Challenge.rw_rx0080_01.Holds :=
  ⟨Mine.law_said, Mine.law_row⟩
