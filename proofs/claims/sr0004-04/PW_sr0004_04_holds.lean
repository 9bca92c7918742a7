import PyProof.Rows.All
import Wide.All
import OpenK.AllK
import Wide.FinOn
import PyProof.GenQ
import KE.KStar
import KE.KSuperObj
import PyProof.RulesAssignMore
import PyProof.ExcClass2
import PyProof.WalksMore
import PyProof.DictWalks
import PyProof.DictValues
import PyProof.CompMap
import PyProof.Conv_bool
import PyProof.WalkInts
import KE.KTryMore
import PyProof.DictItems
import KE.KSortTup
import PyProof.Ends
import PyProof.Sound
import PyProof.MeetsSeq3
import PyProof.FactsAll.list_2
import PyProof.Rows.SortShellK
import PyProof.FString4
import PyProof.IsInstance
import PySem.Challenge.RW_sr0004_04
set_option Elab.async false
set_option linter.unusedVariables false
set_option linter.unusedSimpArgs false
set_option maxRecDepth 100000
set_option bootstrap.genMatcherCode false
set_option genSizeOf false
set_option maxHeartbeats 4000000
open List (all_eq_true any_cons any_eq_true append_assoc append_nil cons_append count_cons_self count_eq_zero ext_getElem filter_append filter_congr filter_cons filter_sublist foldl_cons forIn_cons forIn_nil getD_eq_getElem?_getD getElem_inj getElem_map getElem_mem idxOf_append idxOf_lt_length_iff length_append length_cons length_drop length_filter_le length_map length_range length_set length_singleton length_take length_take_le' lookup_cons map_append map_congr_left map_cons map_map map_nil mem_append_left mem_append_right mem_cons mem_cons_of_mem mem_cons_self mem_filter mem_map mem_map_of_mem mem_of_getElem? mem_range mem_reverse mem_singleton nodup_append nodup_cons nodup_nil not_mem_nil pairwise_map reverse_cons size_toArray sum_cons take_append_drop take_left take_length take_succ_eq_append_getElem)
namespace Mine
open PySem PySem.W PyProof.Rows
noncomputable section
abbrev Qc:=@List.getElem?_append_left
abbrev Qd:=@List.length_map
abbrev Qe:=@absurd
abbrev Qf:=@List.getElem?_set_ne
abbrev Qg:=@decide_eq_true
abbrev Qh:=@of_decide_eq_true
abbrev Qi:=@Nat.not_lt_of_le
abbrev Qj:=@Nat.le_trans
abbrev Qk:=@List.length_append
abbrev Ql:=@List.getElem?_map
abbrev Qm:=@List.mem_of_getElem?
abbrev Qo:=@if_pos
abbrev Qq:=@if_neg
abbrev Qt:=@Bool.false_ne_true
abbrev Qu:=@wpAny_holding
abbrev Qv:=@List.mem_cons_of_mem
abbrev Qw:=@Heap.get?_push_size
abbrev Qx:=@Heap.lt_size
abbrev Qy:=@Heap.get?_push_of_some
abbrev Qz:=@List.mem_singleton
abbrev Q0:=@List.mem_cons_self
abbrev Q1:=@Heap.get?_update_self
abbrev Q2:=@List.getElem?_eq_getElem
abbrev Q3:=@Nat.le_antisymm
abbrev Q4:=@List.size_toArray
abbrev Q5:=@Nat.zero_le
abbrev Q6:=@Nat.lt_irrefl
abbrev Q7:=@Bool.and_eq_true
abbrev Q8:=@decide_eq_false
abbrev Q9:=@Nat.add_le_add_right
abbrev Xa:=@List.map_cons
abbrev Xb:=@Nat.le_of_eq
abbrev Xc:=@List.getD_eq_getElem?_getD
abbrev Xd:=@List.length_cons
abbrev Xe:=@List.take_succ_eq_append_getElem
abbrev Xf:=@List.getElem?_append_right
abbrev Xg:=@Heap.size_push
abbrev Xh:=@List.mem_append_left
abbrev Xi:=@List.map_append
theorem Qll {a b c : Nat} (h : a < b) (g : b <= c) : a < c := Nat.lt_of_lt_of_le h g
theorem Qkl {a b c : Nat} (h : a <= b) (g : b < c) : a < c := Nat.lt_of_le_of_lt h g
theorem Qkk {a b c : Nat} (h : a <= b) (g : b <= c) : a <= c := Qj h g
theorem Qlk {a b c : Nat} (h : a < b) (g : b <= c) : a <= c := Qj (Nat.le_of_lt h) g
theorem Qkkk {a b c d : Nat} (h : a <= b) (g : b <= c) (k : c <= d) : a <= d := Qkk (Qkk h g) k
theorem Qle {a b c : Nat} (h : a < b) (g : c = b) : a < c := g ▸ h
theorem Qke {a b c : Nat} (h : a <= b) (g : c = b) : a <= c := g ▸ h
theorem Qek {a b c : Nat} (g : a = b) (h : b <= c) : a <= c := g ▸ h
theorem Qkb {a b c : Nat} (h : a <= b) (g : Nat.ble b c = true) : a <= c := Qj h (Nat.le_of_ble_eq_true g)theorem Qlb {a b c : Nat} (h : a <= b) (g : Nat.ble (b + 1) c = true) : a < c := Nat.lt_of_le_of_lt h (Nat.le_of_ble_eq_true g)theorem Qkkb {a b c d : Nat} (h : a <= b) (k : b <= c) (g : Nat.ble c d = true) : a <= d := Qkb (Qkk h k) g
theorem Qkxl {a b c d : Nat} (h : a <= b) (k : c < d) (g : Nat.ble b c = true) : a < d := Qkl (Qkb h g) k
theorem Qnl {a b : Nat} (h : a < b) : ¬ b = a := Nat.ne_of_gt h
theorem Qnk {a b : Nat} (h : a < b) : ¬ a = b := Nat.ne_of_lt h
theorem Qnkl {a b c : Nat} (h : a < b) (g : b <= c) : ¬ a = c := Qnk (Qll h g)theorem Qgs {α : Type _} {l : List α} {i : Nat} {a : α} (h : l[i]? = some a) : ∃ h : i < l.length, l[i] = a := List.getElem?_eq_some_iff.mp h
theorem Qgl {α : Type _} {l : List α} {i : Nat} {a : α} (h : l[i]? = some a) : i < l.length := (Qgs h).1
theorem Qge {α : Type _} {l : List α} {i : Nat} {a : α} (h : l[i]? = some a) : l[i]'(Qgl h) = a := (Qgs h).2
theorem Qgn {α : Type _} {l : List α} {i : Nat} (h : l[i]? = none) : l.length <= i := List.getElem?_eq_none_iff.mp h
theorem Qmc {α : Type _} {l : List α} {a b : α} (h : a ∈ b :: l) : a = b ∨ a ∈ l := List.mem_cons.mp h
theorem Qma {α : Type _} {l r : List α} {a : α} (h : a ∈ l ++ r) : a ∈ l ∨ a ∈ r := List.mem_append.mp h
theorem Qmm {α β : Type _} {f : α -> β} {l : List α} {b : β} (h : b ∈ l.map f) : ∃ a, a ∈ l ∧ f a = b := List.mem_map.mp h
theorem Qms {α : Type _} {a b : α} (h : a ∈ [b]) : a = b := List.mem_singleton.mp h
theorem Qr {n : Nat} : n <= n := Nat.le.refl
theorem Qs {a b : Nat} (h : a <= b) : a <= b + 1 := Nat.le.step h
theorem Qb {M : Model} {A : Around} {s : Shared} {E : Value -> Shared -> Prop} {α β : Type} {m : Sem α} {f : α -> Sem β} {Q : β -> Shared -> Prop} (h : wpAny M A m (λ a s' => wpAny M A (f a) Q E s') E s) : wpAny M A (m >>= f) Q E s := wpAny_bind h
theorem Qp {M : Model} {A : Around} {s : Shared} {E : Value -> Shared -> Prop} {α : Type} {a : α} {Q : α -> Shared -> Prop} (h : Q a s) : wpAny M A (pure a) Q E s := wpAny_pure h
theorem Qn {a b : Nat} (h : ¬ a < b) : b <= a := Nat.le_of_not_lt h
theorem Qfl {a b c : Nat} (h : a + b <= c) : a <= c := Qj (Nat.le_add_right a b) h
theorem Qfr {a b c : Nat} (h : a + b <= c) : b <= c := Qj (Nat.le_add_left b a) h
theorem Qs1 {a b : Nat} (h : a < b + 1) : a <= b := Nat.le_of_lt_succ h
theorem Qnn {a b : Nat} (h : ¬ a < b) (g : a <= b) : a = b := Q3 g (Nat.le_of_not_lt h)theorem Qtl {a : Int} {n : Nat} (h : 0 <= a) (g : a < n) : a.toNat < n := (Int.toNat_lt h).mpr g
theorem Qtn {a : Int} (h : 0 <= a) : (a.toNat : Int) = a := Int.toNat_of_nonneg h
theorem Qcl {a b : Nat} (h : a < b) : (a : Int) < b := Int.ofNat_lt.mpr h
theorem Qck {a b : Nat} (h : a <= b) : (a : Int) <= b := Int.ofNat_le.mpr h
theorem Qdl {a b : Nat} (h : (a : Int) < b) : a < b := Int.ofNat_lt.mp h
theorem Qlkc {a b c : Nat} (h : a < b) (g : Nat.ble b c = true) : a <= c := Qj (Nat.le_of_lt h) (Nat.le_of_ble_eq_true g)theorem Qzl {z : Int} {k n : Nat} (e : z = k) (h : k < n) : z < n := e ▸ Qcl h

inductive PV where
 | undef
 | none
 | bool (b : Bool)
 | int (i : Int)
 | str (s : Str)
 | tup (xs : List PV)
 | lst (xs : List PV)
 | rng (a b c : Int)
 | obj (i : Nat)
 | nxt (i : Nat)
 | vals (i : Nat)
 | raw (o : Option String)
 deriving Inhabited
inductive MO where
 | lst (xs : List PV)
 | dct (es : List (Int × PV)) (ep : Nat)
 | set (xs : List Int)
 | ins (C : Addr) (d : Nat)
 | ns (fs : List (Str × PV))
 | slt (C : Addr) (d : Nat) (fs : List (Option PV))
 | itr (l : Nat) (k : Nat)
 | dead
 deriving Inhabited
structure St where
 fr : List PV
 hp : List MO
inductive Out (α : Type) where
 | ok (a : α) (μ : St)
 | exc (x : Value) (μ : St)
 | bad
noncomputable def PM (α : Type) := St -> Out α
noncomputable def PM.pure {α : Type} (a : α) : PM α := λ μ => .ok a μ
set_option backward.eqns.nonrecursive false
noncomputable def PM.bind {α β : Type} (f : PM α) (g : α -> PM β) : PM β := λ μ => match f μ with
 | .ok a μ' => g a μ'
 | .exc x μ' => .exc x μ'
 | .bad => .bad
set_option backward.eqns.nonrecursive true
noncomputable instance : Monad PM where
 pure := PM.pure
 bind := PM.bind
def PM.I {α : Type} : PM α := λ _ => .bad
theorem PM.B {α β : Type} (f : PM α) (g : α -> PM β) (μ : St) : (f >>= g) μ = match f μ with
 | .ok a μ' => g a μ'
 | .exc x μ' => .exc x μ'
 | .bad => .bad := rfl
theorem Zq {α : Type} {a : α} {P : Prop} (e : none = some a) : P := nomatch e
mutual
inductive VR (φ : List Addr) (h : Heap) : Value -> PV -> Prop
 | none : VR φ h .none .none
 | bool (b : Bool) : VR φ h (.bool b) (.bool b)
 | int (i : Int) (t : Tok) : VR φ h (.int i t) (.int i)
 | str (x : Str) (t : Tok) : VR φ h (.str x t) (.str x)
 | tup {a : Addr} {vs : List Value} {n : Nat} {xs : List PV} : h.get? a = some { cls := .type "tuple", data := .seq vs.toArray n } -> a ∉ φ -> VRs φ h vs xs -> VR φ h (.ref a) (.tup xs)
 | lst {a : Addr} {vs : List Value} {n : Nat} {xs : List PV} : h.get? a = some { cls := .type "list", data := .seq vs.toArray n } -> a ∉ φ -> VRs φ h vs xs -> VR φ h (.ref a) (.lst xs)
 | rng {r : Addr} {a b c : Int} {t u v : Tok} : IsRange h r a b c t u v -> r ∉ φ -> VR φ h (.ref r) (.rng a b c)
 | obj {i : Nat} {a : Addr} : φ[i]? = some a -> VR φ h (.ref a) (.obj i)
 | nxt {i : Nat} {a m : Addr} : φ[i]? = some a -> h.get? m = some { cls := .type "method-wrapper", data := .fields #[.builtin "list_iterator.__next__", .ref a] } -> m ∉ φ -> VR φ h (.ref m) (.nxt i)
 | vals {i : Nat} {a m : Addr} : φ[i]? = some a -> h.get? m = some { cls := .type "dict_values", data := .fields #[.ref a] } -> m ∉ φ -> VR φ h (.ref m) (.vals i)
 | raw {v : Value} {o : Option String} : (∀ n, o = some n -> v = .type n) -> VR φ h v (.raw o)
inductive VRs (φ : List Addr) (h : Heap) : List Value -> List PV -> Prop
 | nil : VRs φ h [] []
 | cons {v : Value} {vs : List Value} {x : PV} {xs : List PV} : VR φ h v x -> VRs φ h vs xs -> VRs φ h (v :: vs) (x :: xs)
end
structure Ext0 (nss cls : List Addr) (φ : List Addr) (h : Heap) (φ' : List Addr) (h' : Heap) : Prop where
 grow : ∃ ψ, φ' = φ ++ ψ ∧ ∀ b ∈ ψ, h.objs.size <= b
 size : h.objs.size <= h'.objs.size
 old : ∀ a o, h.get? a = some o -> a ∉ φ -> a ∉ nss -> a ∉ cls -> h'.get? a = some o ∨ ((∃ es ep, o.data = .dict es ep) ∧ ∃ sl, h'.get? a = some { o with slots := sl })
theorem getElem?_app {α : Type} {l r : List α} {i : Nat} {a : α} (h : l[i]? = some a) : (l ++ r)[i]? = some a := by
 obtain ⟨hi, _⟩ := Qgs h
 rw [Qc hi, h]def FzO (o : Obj) : Prop := (o.cls = .type "tuple" ∨ o.cls = .type "list" ∨ o.cls = .type "range" ∨ o.cls = .type "method-wrapper" ∨ o.cls = .type "dict_values") ∧ ((∃ vs n, o.data = .seq vs n) ∨ ∃ vs, o.data = .fields vs)
theorem FzO.notFrame {o : Obj} (h : FzO o) : ¬ ∃ es ep, o.data = .dict es ep := by
 rintro ⟨es, ep, e⟩
 rcases h.2 with ⟨vs, n, q⟩ | ⟨vs, q⟩ <;> rw [e] at q <;> cases q
theorem VRs.ind {φ : List Addr} {h : Heap} {motive : (vs : List Value) -> (xs : List PV) -> VRs φ h vs xs -> Prop} (nil : motive [] [] .nil)
  (cons : ∀ {v : Value} {vs : List Value} {x : PV} {xs : List PV} (a : VR φ h v x) (b : VRs φ h vs xs) (ih : motive vs xs b), motive (v :: vs) (x :: xs) (.cons a b)) {vs : List Value} {xs : List PV} (r : VRs φ h vs xs) : motive vs xs r :=
 VRs.rec (motive_1 := λ _ _ _ => True) (motive_2 := motive) trivial (λ _ => trivial) (λ _ _ => trivial) (λ _ _ => trivial) (λ _ _ _ _ => trivial) (λ _ _ _ _ => trivial) (λ _ _ => trivial) (λ _ => trivial) (λ _ _ _ => trivial) (λ _ _ _ => trivial) (λ _ => trivial) nil (λ a b _ ih => cons a b ih) r
theorem VR.move {φ φ' : List Addr} {h h' : Heap} (hφ : ∀ (i : Nat) (a : Addr), φ[i]? = some a -> φ'[i]? = some a) (hn : ∀ a o, h.get? a = some o -> a ∉ φ -> a ∉ φ')
  (hk : ∀ a o, h.get? a = some o -> a ∉ φ -> FzO o -> h'.get? a = some o) {v : Value} {x : PV} (r : VR φ h v x) : VR φ' h' v x :=
 VR.rec (motive_1 := λ v x _ => VR φ' h' v x) (motive_2 := λ vs xs _ => VRs φ' h' vs xs) .none (λ b => .bool b) (λ i t => .int i t) (λ x t => .str x t)
  (λ h1 h4 _ ih => .tup (hk _ _ h1 h4 ⟨.inl rfl, .inl ⟨_, _, rfl⟩⟩) (hn _ _ h1 h4) ih)
  (λ h1 h4 _ ih => .lst (hk _ _ h1 h4 ⟨.inr (.inl rfl), .inl ⟨_, _, rfl⟩⟩) (hn _ _ h1 h4) ih)
  (λ h1 h2 => .rng (hk _ _ h1 h2 ⟨.inr (.inr (.inl rfl)), .inr ⟨_, rfl⟩⟩) (hn _ _ h1 h2))
  (λ h1 => .obj (hφ _ _ h1))
  (λ h1 h2 h3 => .nxt (hφ _ _ h1) (hk _ _ h2 h3 ⟨.inr (.inr (.inr (.inl rfl))), .inr ⟨_, rfl⟩⟩) (hn _ _ h2 h3))
  (λ h1 h2 h3 => .vals (hφ _ _ h1) (hk _ _ h2 h3 ⟨.inr (.inr (.inr (.inr rfl))), .inr ⟨_, rfl⟩⟩) (hn _ _ h2 h3))
  (λ v => .raw v) .nil (λ _ _ a b => .cons a b) r
section
variable {φ : List Addr} {h : Heap} {vs : List Value} {xs : List PV}
theorem VRs.length (r : VRs φ h vs xs) : vs.length = xs.length := by
 induction r using VRs.ind with
 | nil => rfl
 | cons a b ih => exact congrArg Nat.succ ih
theorem VRs.append {ws : List Value} {ys : List PV} (r : VRs φ h vs xs) (q : VRs φ h ws ys) : VRs φ h (vs ++ ws) (xs ++ ys) := by
 induction r using VRs.ind with
 | nil => exact q
 | cons a b ih => exact .cons a ih
theorem VRs.get (r : VRs φ h vs xs) : ∀ {k : Nat} {x : PV}, xs[k]? = some x -> ∃ v, vs[k]? = some v ∧ VR φ h v x := by
 induction r using VRs.ind with
 | nil => exact λ e => nomatch e
 | cons a b ih =>
  intro k x e
  cases k with
  | zero => exact ⟨_, rfl, (Option.some.inj e) ▸ a⟩
  | succ k => exact ih (k := k) e
theorem VRs.take (r : VRs φ h vs xs) : ∀ n, VRs φ h (vs.take n) (xs.take n) := by
 induction r using VRs.ind with
 | nil => exact λ n => by rw [List.take_nil, List.take_nil]; exact .nil
 | cons a b ih => exact λ n => match n with
  | 0 => .nil
  | n + 1 => .cons a (ih n)
theorem VRs.drop (r : VRs φ h vs xs) : ∀ n, VRs φ h (vs.drop n) (xs.drop n) := by
 induction r using VRs.ind with
 | nil => exact λ n => by rw [List.drop_nil, List.drop_nil]; exact .nil
 | cons a b ih => exact λ n => match n with
  | 0 => .cons a b
  | n + 1 => ih n
theorem VRs.set (r : VRs φ h vs xs) : ∀ (k : Nat) {v : Value} {x : PV}, VR φ h v x -> VRs φ h (vs.set k v) (xs.set k x) := by
 induction r using VRs.ind with
 | nil => exact λ _ _ _ _ => .nil
 | cons a b ih => exact λ k {v x} e => match k with
  | 0 => .cons e b
  | k + 1 => .cons a (ih k e)
end
set_option genInjectivity false in
structure Cx where
 prog : Program
 w : World
 B : Heap
 os : OsState
 mg : Str -> Option Value
 mb : Str -> Option Value
 K : Frag
 g0 : Array GenState := #[]
inductive DRs (φ : List Addr) (h : Heap) : List (Int × Value) -> List (Int × PV) -> Prop
 | nil : DRs φ h [] []
 | cons {k : Int} {v : Value} {x : PV} {ds : List (Int × Value)} {es : List (Int × PV)} : VR φ h v x -> DRs φ h ds es -> DRs φ h ((k, v) :: ds) ((k, x) :: es)
inductive NRs (φ : List Addr) (h : Heap) : List DictEntry -> List (Str × PV) -> Prop
 | nil : NRs φ h [] []
 | cons {k : Str} {t : Tok} {e : DictEntry} {x : PV} {ds : List DictEntry} {es : List (Str × PV)} : e.key = .str k t -> VR φ h e.val x -> NRs φ h ds es -> NRs φ h (e :: ds) ((k, x) :: es)
inductive ORs (φ : List Addr) (h : Heap) : List (Option Value) -> List (Option PV) -> Prop
 | nil : ORs φ h [] []
 | none {vs : List (Option Value)} {xs : List (Option PV)} : ORs φ h vs xs -> ORs φ h (none :: vs) (none :: xs)
 | some {v : Value} {x : PV} {vs : List (Option Value)} {xs : List (Option PV)} : VR φ h v x -> ORs φ h vs xs -> ORs φ h (some v :: vs) (some x :: xs)
section
variable {φ φ' : List Addr} {h h' : Heap} (hm : ∀ v x, VR φ h v x -> VR φ' h' v x)
include hm
theorem DRs.move {ds : List (Int × Value)} {es : List (Int × PV)} (r : DRs φ h ds es) : DRs φ' h' ds es := by
 induction r with
 | nil => exact .nil
 | cons a _ ih => exact .cons (hm _ _ a) ih
theorem NRs.move {ds : List DictEntry} {es : List (Str × PV)} (r : NRs φ h ds es) : NRs φ' h' ds es := by
 induction r with
 | nil => exact .nil
 | cons k a _ ih => exact .cons k (hm _ _ a) ih
theorem ORs.move {ds : List (Option Value)} {es : List (Option PV)} (r : ORs φ h ds es) : ORs φ' h' ds es := by
 induction r with
 | nil => exact .nil
 | none _ ih => exact .none ih
 | some a _ ih => exact .some (hm _ _ a) ih
theorem VRs.mv {ds : List Value} {es : List PV} (r : VRs φ h ds es) : VRs φ' h' ds es := by
 induction r using VRs.ind with
 | nil => exact .nil
 | cons a _ ih => exact .cons (hm _ _ a) ih
end
inductive OR (c : Cx) (φ : List Addr) (h : Heap) (a : Addr) : MO -> Prop
 | lst {vs : List Value} {n : Nat} {xs : List PV} : h.get? a = some { cls := .type "list", data := .seq vs.toArray n } -> VRs φ h vs xs -> OR c φ h a (.lst xs)
 | dct {kvs : List (Int × Value)} {es : List (Int × PV)} {ep : Nat} : h.DictAt (intKind c.prog c.w) a kvs ep -> DRs φ h kvs es -> OR c φ h a (.dct es ep)
 | set {xs : List Int} : h.SetOf (intKind c.prog c.w) a (λ k => decide (k ∈ xs)) xs.length -> OR c φ h a (.set xs)
 | ins {C : Addr} {d : Nat} {dx : Addr} : φ[d]? = some dx -> h.get? a = some { cls := .ref C, dict := some dx, data := .plain } -> OR c φ h a (.ins C d)
 | ns {ds : List DictEntry} {n : Nat} {fs : List (Str × PV)} : h.get? a = some { cls := .type "dict", data := .dict ds.toArray n } -> NRs φ h ds fs -> OR c φ h a (.ns fs)
 | slt {C : Addr} {d : Nat} {dx : Addr} {sl : List (Option Value)} {fs : List (Option PV)} : φ[d]? = some dx -> h.get? a = some { cls := .ref C, dict := some dx, data := .plain, slots := sl.toArray } -> ORs φ h sl fs -> OR c φ h a (.slt C d fs)
 | itr {l k : Nat} {la : Addr} : φ[l]? = some la -> h.get? a = some { cls := .type "list_iterator", data := .fields #[.ref la, .int k 0] } -> OR c φ h a (.itr l k)
 | dead {o : Obj} : h.get? a = some o -> OR c φ h a .dead
theorem VR.cs {φ : List Addr} {h : Heap} {motive : (v : Value) -> (x : PV) -> VR φ h v x -> Prop} (none : motive .none .none .none) (bool : ∀ b, motive (.bool b) (.bool b) (.bool b)) (int : ∀ i t, motive (.int i t) (.int i) (.int i t)) (str : ∀ x t, motive (.str x t) (.str x) (.str x t))
  (tup : ∀ {a : Addr} {vs : List Value} {n : Nat} {xs : List PV} (h1 : h.get? a = some { cls := .type "tuple", data := .seq vs.toArray n }) (h2 : a ∉ φ) (h3 : VRs φ h vs xs), motive (.ref a) (.tup xs) (.tup h1 h2 h3))
  (lst : ∀ {a : Addr} {vs : List Value} {n : Nat} {xs : List PV} (h1 : h.get? a = some { cls := .type "list", data := .seq vs.toArray n }) (h2 : a ∉ φ) (h3 : VRs φ h vs xs), motive (.ref a) (.lst xs) (.lst h1 h2 h3))
  (rng : ∀ {r : Addr} {a b c : Int} {t u v : Tok} (h1 : IsRange h r a b c t u v) (h2 : r ∉ φ), motive (.ref r) (.rng a b c) (.rng h1 h2))
  (obj : ∀ {i : Nat} {a : Addr} (h1 : φ[i]? = some a), motive (.ref a) (.obj i) (.obj h1))
  (nxt : ∀ {i : Nat} {a m : Addr} (h1 : φ[i]? = some a) (h2 : h.get? m = some { cls := .type "method-wrapper", data := .fields #[.builtin "list_iterator.__next__", .ref a] }) (h3 : m ∉ φ), motive (.ref m) (.nxt i) (.nxt h1 h2 h3))
  (vals : ∀ {i : Nat} {a m : Addr} (h1 : φ[i]? = some a) (h2 : h.get? m = some { cls := .type "dict_values", data := .fields #[.ref a] }) (h3 : m ∉ φ), motive (.ref m) (.vals i) (.vals h1 h2 h3))
  (raw : ∀ {v : Value} {o : Option String} (h1 : ∀ n, o = some n -> v = .type n), motive v (.raw o) (.raw h1)) {v : Value} {x : PV} (r : VR φ h v x) : motive v x r := by
 cases r with
 | none => exact none
 | bool b => exact bool b
 | int i t => exact int i t
 | str x t => exact str x t
 | tup a b c => exact tup a b c
 | lst a b c => exact lst a b c
 | rng a b => exact rng a b
 | obj a => exact obj a
 | nxt a b c => exact nxt a b c
 | vals a b c => exact vals a b c
 | raw v => exact raw v
theorem OR.cs {c : Cx} {φ : List Addr} {h : Heap} {a : Addr} {motive : (o : MO) -> OR c φ h a o -> Prop}
 (lst : ∀ {vs : List Value} {n : Nat} {xs : List PV} (h1 : h.get? a = some { cls := .type "list", data := .seq vs.toArray n }) (h2 : VRs φ h vs xs), motive (.lst xs) (.lst h1 h2))
 (dct : ∀ {kvs : List (Int × Value)} {es : List (Int × PV)} {ep : Nat} (h1 : h.DictAt (intKind c.prog c.w) a kvs ep) (h2 : DRs φ h kvs es), motive (.dct es ep) (.dct h1 h2))
 (set : ∀ {xs : List Int} (h1 : h.SetOf (intKind c.prog c.w) a (λ k => decide (k ∈ xs)) xs.length), motive (.set xs) (.set h1))
 (ins : ∀ {C : Addr} {d : Nat} {dx : Addr} (h1 : φ[d]? = some dx) (h2 : h.get? a = some { cls := .ref C, dict := some dx, data := .plain }), motive (.ins C d) (.ins h1 h2))
 (ns : ∀ {ds : List DictEntry} {n : Nat} {fs : List (Str × PV)} (h1 : h.get? a = some { cls := .type "dict", data := .dict ds.toArray n }) (h2 : NRs φ h ds fs), motive (.ns fs) (.ns h1 h2))
 (slt : ∀ {C : Addr} {d : Nat} {dx : Addr} {sl : List (Option Value)} {fs : List (Option PV)} (h1 : φ[d]? = some dx) (h2 : h.get? a = some { cls := .ref C, dict := some dx, data := .plain, slots := sl.toArray }) (h3 : ORs φ h sl fs), motive (.slt C d fs) (.slt h1 h2 h3))
 (itr : ∀ {l k : Nat} {la : Addr} (h1 : φ[l]? = some la) (h2 : h.get? a = some { cls := .type "list_iterator", data := .fields #[.ref la, .int k 0] }), motive (.itr l k) (.itr h1 h2))
 (dead : ∀ {o : Obj} (h1 : h.get? a = some o), motive .dead (.dead h1)) {o : MO} (r : OR c φ h a o) : motive o r := by
 cases r with
 | lst a b => exact lst a b
 | dct a b => exact dct a b
 | set a => exact set a
 | ins a b => exact ins a b
 | ns a b => exact ns a b
 | slt a b c => exact slt a b c
 | itr a b => exact itr a b
 | dead a => exact dead a
theorem VRs.cs {φ : List Addr} {h : Heap} {motive : (vs : List Value) -> (xs : List PV) -> VRs φ h vs xs -> Prop} (nil : motive [] [] .nil)
  (cons : ∀ {v : Value} {vs : List Value} {x : PV} {xs : List PV} (a : VR φ h v x) (b : VRs φ h vs xs), motive (v :: vs) (x :: xs) (.cons a b)) {vs : List Value} {xs : List PV} (r : VRs φ h vs xs) : motive vs xs r :=
 VRs.ind nil (λ a b _ => cons a b) r
theorem VR.int_inv {φ : List Addr} {h : Heap} {v : Value} {x : PV} (r : VR φ h v x) : ∀ {i : Int}, x = .int i -> ∃ t, v = Value.int i t := by
 induction r using VR.cs with
 | int => intro i e; cases e; exact ⟨_, rfl⟩
 | _ => intro i e; cases e
theorem VRs.un {φ : List Addr} {h : Heap} {vs : List Value} {ys : List PV} (r : VRs φ h vs ys) : ∀ {x : PV} {xs : List PV}, ys = x :: xs -> ∃ v ws, vs = v :: ws ∧ VR φ h v x ∧ VRs φ h ws xs := by
 induction r using VRs.ind with
 | nil => intro x xs e; cases e
 | cons a b => intro x xs e; cases e; exact ⟨_, _, rfl, a, b⟩
theorem VRs.un0 {φ : List Addr} {h : Heap} {vs : List Value} {ys : List PV} (r : VRs φ h vs ys) : ys = [] -> vs = [] := by
 induction r using VRs.ind with
 | nil => exact λ _ => rfl
 | cons => exact λ e => nomatch e
theorem VRs.one {φ : List Addr} {h : Heap} {vs : List Value} {x : PV} (r : VRs φ h vs [x]) : ∃ v, vs = [v] ∧ VR φ h v x := by
 obtain ⟨v, ws, rfl, a, b⟩ := r.un rfl
 rw [b.un0 rfl]; exact ⟨v, rfl, a⟩
theorem VRs.two {φ : List Addr} {h : Heap} {vs : List Value} {x y : PV} (r : VRs φ h vs [x, y]) : ∃ v w, vs = [v, w] ∧ VR φ h v x ∧ VR φ h w y := by
 obtain ⟨v, ws, rfl, a, b⟩ := r.un rfl
 obtain ⟨w, rfl, b'⟩ := b.one
 exact ⟨v, w, rfl, a, b'⟩
theorem VRs.ints1 {φ : List Addr} {h : Heap} {vs : List Value} {a : Int} (r : VRs φ h vs [.int a]) : ∃ t, vs = [.int a t] := by
 obtain ⟨v, rfl, q⟩ := r.one
 obtain ⟨t, rfl⟩ := q.int_inv rfl
 exact ⟨t, rfl⟩
theorem VRs.ints2 {φ : List Addr} {h : Heap} {vs : List Value} {a b : Int} (r : VRs φ h vs [.int a, .int b]) : ∃ t u, vs = [.int a t, .int b u] := by
 obtain ⟨v, ws, rfl, q, r'⟩ := r.un rfl
 obtain ⟨t, rfl⟩ := q.int_inv rfl
 obtain ⟨u, rfl⟩ := r'.ints1
 exact ⟨t, u, rfl⟩
theorem VRs.ints3 {φ : List Addr} {h : Heap} {vs : List Value} {a b c : Int} (r : VRs φ h vs [.int a, .int b, .int c]) : ∃ t u v, vs = [.int a t, .int b u, .int c v] := by
 obtain ⟨v, ws, rfl, q, r'⟩ := r.un rfl
 obtain ⟨t, rfl⟩ := q.int_inv rfl
 obtain ⟨u, w, rfl⟩ := r'.ints2
 exact ⟨t, u, w, rfl⟩
section
variable {c : Cx} {φ : List Addr} {h : Heap} {a : Addr} {v : Value} {x : PV} {o : MO}
theorem VR.inv_tup (r : VR φ h v x) : ∀ {a xs}, v = .ref a -> x = .tup xs -> ∃ vs n, h.get? a = some { cls := .type "tuple", data := .seq (List.toArray vs) n } ∧ a ∉ φ ∧ VRs φ h vs xs := by
 induction r using VR.cs with
 | tup h1 h2 h3 => intro a xs e1 e2; cases e1; cases e2; exact ⟨_, _, h1, h2, h3⟩
 | _ => intro a xs e1 e2; cases e2
theorem VR.un_lst (r : VR φ h v x) : ∀ {xs}, x = .lst xs -> ∃ a vs n, v = .ref a ∧ h.get? a = some { cls := .type "list", data := .seq (List.toArray vs) n } ∧ a ∉ φ ∧ VRs φ h vs xs := by
 induction r using VR.cs with
 | lst h1 h2 h3 => intro xs e; cases e; exact ⟨_, _, _, rfl, h1, h2, h3⟩
 | _ => intro xs e; cases e
theorem VR.inv_lst (r : VR φ h v x) {a : Addr} {xs : List PV} (e1 : v = .ref a) (e2 : x = .lst xs) : ∃ vs n, h.get? a = some { cls := .type "list", data := .seq (List.toArray vs) n } ∧ a ∉ φ ∧ VRs φ h vs xs := by
 obtain ⟨a', vs, n, e, q⟩ := r.un_lst e2
 cases e1.symm.trans e
 exact ⟨vs, n, q⟩
theorem VR.un_obj (r : VR φ h v x) : ∀ {i}, x = .obj i -> ∃ a, v = .ref a ∧ φ[i]? = some a := by
 induction r using VR.cs with
 | obj h1 => intro i e; cases e; exact ⟨_, rfl, h1⟩
 | _ => intro i e; cases e
theorem VR.inv_obj (r : VR φ h v x) {a : Addr} {i : Nat} (e1 : v = .ref a) (e2 : x = .obj i) : φ[i]? = some a := by
 obtain ⟨a', e, q⟩ := r.un_obj e2
 cases e1.symm.trans e
 exact q
theorem OR.inv_set (r : OR c φ h a o) : ∀ {xs}, o = .set xs -> h.SetOf (intKind c.prog c.w) a (λ k => decide (k ∈ xs)) xs.length := by
 induction r using OR.cs with
 | set h1 => intro xs e; cases e; exact h1
 | _ => intro xs e; cases e
theorem OR.inv_ins (r : OR c φ h a o) : ∀ {C d}, o = .ins C d -> ∃ dx, φ[d]? = some dx ∧ h.get? a = some { cls := .ref C, dict := some dx, data := .plain } := by
 induction r using OR.cs with
 | ins h1 h2 => intro C d e; cases e; exact ⟨_, h1, h2⟩
 | _ => intro C d e; cases e
theorem OR.inv_ns (r : OR c φ h a o) : ∀ {fs}, o = .ns fs -> ∃ ds n, h.get? a = some { cls := .type "dict", data := .dict (List.toArray ds) n } ∧ NRs φ h ds fs := by
 induction r using OR.cs with
 | ns h1 h2 => intro fs e; cases e; exact ⟨_, _, h1, h2⟩
 | _ => intro fs e; cases e
theorem OR.inv_lst (r : OR c φ h a o) : ∀ {xs}, o = .lst xs -> ∃ vs n, h.get? a = some { cls := .type "list", data := .seq (List.toArray vs) n } ∧ VRs φ h vs xs := by
 induction r using OR.cs with
 | lst h1 h2 => intro xs e; cases e; exact ⟨_, _, h1, h2⟩
 | _ => intro xs e; cases e
theorem OR.inv_dct (r : OR c φ h a o) : ∀ {es ep}, o = .dct es ep -> ∃ kvs, h.DictAt (intKind c.prog c.w) a kvs ep ∧ DRs φ h kvs es := by
 induction r using OR.cs with
 | dct h1 h2 => intro es ep e; cases e; exact ⟨_, h1, h2⟩
 | _ => intro es ep e; cases e
end
theorem OR.get {c : Cx} {φ : List Addr} {h : Heap} {a : Addr} {o : MO} (r : OR c φ h a o) : ∃ ob, h.get? a = some ob := by
 cases r with
 | dct h1 _ => obtain ⟨o, _, h, _⟩ := h1; exact ⟨o, h⟩
 | set h1 => obtain ⟨o, _, _, _, h, _⟩ := h1; exact ⟨o, h⟩
 | lst h1 _ => exact ⟨_, h1⟩
 | ins _ h1 => exact ⟨_, h1⟩
 | ns h1 _ => exact ⟨_, h1⟩
 | slt _ h1 _ => exact ⟨_, h1⟩
 | itr _ h1 => exact ⟨_, h1⟩
 | dead h1 => exact ⟨_, h1⟩
theorem OR.move {c : Cx} {φ φ' : List Addr} {h h' : Heap} {a : Addr} {o : MO} (hφ : ∀ (i : Nat) (b : Addr), φ[i]? = some b -> φ'[i]? = some b) (hm : ∀ v x, VR φ h v x -> VR φ' h' v x) (he : h'.get? a = h.get? a)
  (r : OR c φ h a o) : OR c φ' h' a o := by
 cases r with
 | lst h1 h2 => exact .lst (he.trans h1) (h2.mv hm)
 | dct h1 h2 => obtain ⟨o, es, ho, r⟩ := h1; exact .dct ⟨o, es, he.trans ho, r⟩ (h2.move hm)
 | set h1 => obtain ⟨o, es, ep, t, ho, r⟩ := h1; exact .set ⟨o, es, ep, t, he.trans ho, r⟩
 | ins h1 h2 => exact .ins (hφ _ _ h1) (he.trans h2)
 | ns h1 h2 => exact .ns (he.trans h1) (h2.move hm)
 | slt h0 h1 h2 => exact .slt (hφ _ _ h0) (he.trans h1) (h2.move hm)
 | itr h1 h2 => exact .itr (hφ _ _ h1) (he.trans h2)
 | dead h1 => exact .dead (he.trans h1)
inductive Loc where
 | loc (L : Addr) (x : Str)
 | cell (a : Addr)
 deriving DecidableEq
set_option genInjectivity false in
structure Fx where
 env : Env
 locs : List Loc
 nss : List Addr
 cls : List Addr
 frames : List Env
 lv : Nat
 hd : Bool
structure CxOk (c : Cx) : Prop where
 kin : c.K.In c.B
 glob : c.B.Ns mainGlobals c.mg
 bui : c.B.Ns builtinsNs c.mb
 nolimit : c.B.NoLimit
 boot : ∀ x : Str, x ≠ "__name__" -> c.mb x = bootBuiltins x
structure Rep (c : Cx) (F : Fx) (φ : List Addr) (μ : St) (s : Shared) : Prop where
 ok : CxOk c
 keep : c.B.StaysIn s.heap
 os : s.os = c.os
 gens : (∀ (i : Nat) (x : GenState), c.g0[i]? = some x -> s.gens[i]? = some x) ∧ ∀ x ∈ s.gens, x.bare = true
 len : φ.length = μ.hp.length
 nodup : φ.Nodup
 phiB : ∀ a ∈ φ, c.B.get? a = none ∧ (a == sysModules) = false
 objs : ∀ (i : Nat) (a : Addr) (o : MO), φ[i]? = some a -> μ.hp[i]? = some o -> OR c φ s.heap a o
 flen : μ.fr.length = F.locs.length
 lnodup : F.locs.Nodup
 nss : ∀ L ∈ F.nss, L ∉ φ ∧ c.B.get? L = none ∧ ∃ m, s.heap.Ns L m
 cls : ∀ a ∈ F.cls, a ∉ φ ∧ c.B.get? a = none ∧ ∃ v, s.heap.IsCell a v
 vloc : ∀ (k : Nat) (L : Addr) (x : Str), F.locs[k]? = some (.loc L x) -> L ∈ F.nss ∧ ∀ pv, μ.fr[k]? = some pv -> pv ≠ .undef -> ∃ m v, s.heap.Ns L m ∧ m x = some v ∧ VR φ s.heap v pv
 vcell : ∀ (k : Nat) (a : Addr), F.locs[k]? = some (.cell a) -> a ∈ F.cls ∧ ∀ pv, μ.fr[k]? = some pv -> pv ≠ .undef -> ∃ v, s.heap.IsCell a (some v) ∧ VR φ s.heap v pv
 frm : ∀ env ∈ F.frames, env.scope.kind ≠ .module ∧ ∃ L, env.frame = some L ∧ L ∉ φ ∧ c.B.get? L = none ∧ ∃ o es ep, s.heap.get? L = some o ∧ o.data = .dict es ep
structure Rest (c : Cx) (F : Fx) (φ : List Addr) (fr : List PV) (h : Heap) : Prop where
 nss : ∀ L ∈ F.nss, L ∉ φ ∧ c.B.get? L = none ∧ ∃ m, h.Ns L m
 cls : ∀ a ∈ F.cls, a ∉ φ ∧ c.B.get? a = none ∧ ∃ v, h.IsCell a v
 vloc : ∀ (k : Nat) (L : Addr) (x : Str), F.locs[k]? = some (.loc L x) -> L ∈ F.nss ∧ ∀ pv, fr[k]? = some pv -> pv ≠ .undef -> ∃ m v, h.Ns L m ∧ m x = some v ∧ VR φ h v pv
 vcell : ∀ (k : Nat) (a : Addr), F.locs[k]? = some (.cell a) -> a ∈ F.cls ∧ ∀ pv, fr[k]? = some pv -> pv ≠ .undef -> ∃ v, h.IsCell a (some v) ∧ VR φ h v pv
 frm : ∀ env ∈ F.frames, env.scope.kind ≠ .module ∧ ∃ L, env.frame = some L ∧ L ∉ φ ∧ c.B.get? L = none ∧ ∃ o es ep, h.get? L = some o ∧ o.data = .dict es ep
theorem Rep.rest {c : Cx} {F : Fx} {φ φ' : List Addr} {μ : St} {s : Shared} {h' : Heap} (R : Rep c F φ μ s) (nin : ∀ a o, s.heap.get? a = some o -> a ∉ φ -> a ∉ φ')
  (sl : ∀ a o, s.heap.get? a = some o -> a ∉ φ -> (∀ vs, o.data ≠ .fields vs) -> ∃ sl, h'.get? a = some { o with slots := sl }) (mv : ∀ v x, VR φ s.heap v x -> VR φ' h' v x) : Rest c F φ' μ.fr h' := by
 have ns : ∀ {L m}, L ∉ φ -> s.heap.Ns L m -> h'.Ns L m := λ {L m} hn q => by
  obtain ⟨o, es, ep, ho, hd, r⟩ := q
  obtain ⟨q, hq⟩ := sl L o ho hn (λ vs e => by rw [hd] at e; cases e)
  exact ⟨_, es, ep, hq, hd, r⟩
 have cl : ∀ {a v}, a ∉ φ -> s.heap.IsCell a v -> h'.IsCell a v := λ {a v} hn q => by
  obtain ⟨o, ho, hd⟩ := q
  obtain ⟨q, hq⟩ := sl a o ho hn (λ vs e => by rw [hd] at e; cases e)
  exact ⟨_, hq, hd⟩
 refine ⟨λ L hL => ?_, λ a ha => ?_, λ k L x hk => ⟨(R.vloc k L x hk).1, λ pv hp hu => ?_⟩, λ k a hk => ⟨(R.vcell k a hk).1, λ pv hp hu => ?_⟩, λ env he => ?_⟩
 ·obtain ⟨h1, h2, m, hm⟩ := R.nss L hL
  have hm' := hm
  obtain ⟨o, _, _, ho, _⟩ := hm'
  exact ⟨nin L o ho h1, h2, m, ns h1 hm⟩
 ·obtain ⟨h1, h2, v, hv⟩ := R.cls a ha
  have hv' := hv
  obtain ⟨o, ho, _⟩ := hv'
  exact ⟨nin a o ho h1, h2, v, cl h1 hv⟩
 ·obtain ⟨hL, h2⟩ := R.vloc k L x hk
  obtain ⟨m, v, hm, hx, hv⟩ := h2 pv hp hu
  exact ⟨m, v, ns (R.nss L hL).1 hm, hx, mv _ _ hv⟩
 ·obtain ⟨ha, h2⟩ := R.vcell k a hk
  obtain ⟨v, hv, hr⟩ := h2 pv hp hu
  exact ⟨v, cl (R.cls a ha).1 hv, mv _ _ hr⟩
 ·obtain ⟨h1, L, h2, h3, h4, o, es, ep, ho, hd⟩ := R.frm env he
  obtain ⟨q, hq⟩ := sl L o ho h3 (λ vs e => by rw [hd] at e; cases e)
  exact ⟨h1, L, h2, nin L o ho h3, h4, _, es, ep, hq, hd⟩
theorem Rep.lt {c : Cx} {F : Fx} {φ : List Addr} {μ : St} {s : Shared} (R : Rep c F φ μ s) {a : Addr} (h : a ∈ φ) : ∃ o, s.heap.get? a = some o := by
 obtain ⟨i, hi⟩ := List.getElem?_of_mem h
 have hl : i < μ.hp.length := by rw [<- R.len]; exact (Qgl hi)
 exact (R.objs i a _ hi (Q2 hl)).get
theorem Rep.notSys {c : Cx} {F : Fx} {φ : List Addr} {μ : St} {s : Shared} (R : Rep c F φ μ s) {a : Addr} (h : a ∈ φ) : (a == sysModules) = false := (R.phiB a h).2
theorem Rep.phiLt {c : Cx} {F : Fx} {φ : List Addr} {μ : St} {s : Shared} (R : Rep c F φ μ s) {a : Addr} (h : a ∈ φ) : a < s.heap.objs.size := by
 obtain ⟨o, ho⟩ := R.lt h
 exact Qx ho
theorem Ext0.refl {nss cls φ : List Addr} {h : Heap} : Ext0 nss cls φ h φ h := ⟨⟨[], by simp, by simp⟩, Qr, λ _ _ e _ _ _ => .inl e⟩
theorem Ext0.idx {nss cls φ φ' : List Addr} {h h' : Heap} (e : Ext0 nss cls φ h φ' h') (i : Nat) (a : Addr) (hi : φ[i]? = some a) : φ'[i]? = some a := by
 obtain ⟨⟨ψ, rfl, _⟩, _, _⟩ := e
 exact getElem?_app hi
theorem Ext0.nin {nss cls φ φ' : List Addr} {h h' : Heap} (e : Ext0 nss cls φ h φ' h') {a : Addr} {o : Obj} (ho : h.get? a = some o) (hn : a ∉ φ) : a ∉ φ' := by
 obtain ⟨⟨ψ, rfl, hψ⟩, _, _⟩ := e
 intro hm
 rcases Qma hm with hm | hm
 ·exact hn hm
 ·exact Qe (Qx ho) (Qi (hψ _ hm))
theorem Ext0.trans {nss cls φ φ' φ'' : List Addr} {h h' h'' : Heap} (e : Ext0 nss cls φ h φ' h') (e' : Ext0 nss cls φ' h' φ'' h'') : Ext0 nss cls φ h φ'' h'' := by
 refine ⟨?_, Qj e.size e'.size, λ a o ho h1 h2 h3 => ?_⟩
 ·obtain ⟨ψ, hψ, b1⟩ := e.grow
  obtain ⟨ψ', hψ', b2⟩ := e'.grow
  refine ⟨ψ ++ ψ', by rw [hψ', hψ, append_assoc], λ b hb => ?_⟩
  rcases Qma hb with hb | hb
  ·exact b1 b hb
  ·exact Qj e.size (b2 b hb)
 ·have hn := e.nin ho h1
  rcases e.old a o ho h1 h2 h3 with k | ⟨kc, sl, k⟩
  ·exact e'.old a o k hn h2 h3
  ·rcases e'.old a _ k hn h2 h3 with k' | ⟨_, sl', k'⟩
   ·exact .inr ⟨kc, sl, k'⟩
   ·exact .inr ⟨kc, sl', k'⟩
theorem Rep.notOwn {c : Cx} {F : Fx} {φ : List Addr} {μ : St} {s : Shared} (R : Rep c F φ μ s) {a : Addr} {o : Obj} (ho : s.heap.get? a = some o) (hd : (∃ vs n, o.data = .seq vs n) ∨ (∃ vs, o.data = .fields vs)) : a ∉ F.nss ∧ a ∉ F.cls := by
 constructor
 ·intro hm
  obtain ⟨_, _, m, o', es, ep, h1, h2, _⟩ := R.nss a hm
  rw [ho] at h1; cases h1
  rcases hd with ⟨_, _, e⟩ | ⟨_, e⟩ <;> rw [h2] at e <;> cases e
 ·intro hm
  obtain ⟨_, _, v, o', h1, h2⟩ := R.cls a hm
  rw [ho] at h1; cases h1
  rcases hd with ⟨_, _, e⟩ | ⟨_, e⟩ <;> rw [h2] at e <;> cases e
theorem VR.ext0 {c : Cx} {F : Fx} {φ φ' : List Addr} {μ : St} {s : Shared} {h' : Heap} (R : Rep c F φ μ s) (e : Ext0 F.nss F.cls φ s.heap φ' h') {v : Value} {x : PV} (r : VR φ s.heap v x) : VR φ' h' v x := by
 refine r.move e.idx (λ a o ho hn => e.nin ho hn) λ a o ho hn hd => ?_
 have q := R.notOwn ho hd.2
 rcases e.old a o ho hn q.1 q.2 with k | ⟨k, _⟩
 ·exact k
 ·exact Qe k hd.notFrame
theorem VRs.ext0 {c : Cx} {F : Fx} {φ φ' : List Addr} {μ : St} {s : Shared} {h' : Heap} (R : Rep c F φ μ s) (e : Ext0 F.nss F.cls φ s.heap φ' h') {v : List Value} {x : List PV} (r : VRs φ s.heap v x) : VRs φ' h' v x :=
 r.mv λ _ _ q => q.ext0 R e
noncomputable def dom (h : Heap) : Addr -> Prop := λ a => ∃ o, h.get? a = some o
structure Ext (nss cls : List Addr) (φ : List Addr) (h : Heap) (φ' : List Addr) (h' : Heap) : Prop extends Ext0 nss cls φ h φ' h' where
 dom : ∀ a, Mine.dom h a -> Mine.dom h' a
theorem Ext.refl {nss cls φ : List Addr} {h : Heap} : Ext nss cls φ h φ h := ⟨Ext0.refl, λ _ x => x⟩theorem Ext.nin {nss cls φ φ' : List Addr} {h h' : Heap} (e : Ext nss cls φ h φ' h') {a : Addr} {o : Obj} (ho : h.get? a = some o) (hn : a ∉ φ) : a ∉ φ' := e.toExt0.nin ho hn
theorem Ext.trans {nss cls φ φ' φ'' : List Addr} {h h' h'' : Heap} (e : Ext nss cls φ h φ' h') (e' : Ext nss cls φ' h' φ'' h'') : Ext nss cls φ h φ'' h'' := ⟨e.toExt0.trans e'.toExt0, λ a x => e'.dom a (e.dom a x)⟩theorem VR.ext {c : Cx} {F : Fx} {φ φ' : List Addr} {μ : St} {s : Shared} {h' : Heap} (R : Rep c F φ μ s) (e : Ext F.nss F.cls φ s.heap φ' h') {v : Value} {x : PV} (r : VR φ s.heap v x) : VR φ' h' v x := r.ext0 R e.toExt0
theorem VRs.ext {c : Cx} {F : Fx} {φ φ' : List Addr} {μ : St} {s : Shared} {h' : Heap} (R : Rep c F φ μ s) (e : Ext F.nss F.cls φ s.heap φ' h') {v : List Value} {x : List PV} (r : VRs φ s.heap v x) : VRs φ' h' v x := r.ext0 R e.toExt0

section
variable {c : Cx} {F : Fx} {φ φ' : List Addr} {μ : St} {s : Shared}
theorem Rep.mut (R : Rep c F φ μ s) {ψ : List Addr} {h' : Heap} {hp' : List MO} {tk : Nat} (hψ : ∀ b ∈ ψ, s.heap.objs.size <= b) (hψn : ψ.Nodup) (size : s.heap.objs.size <= h'.objs.size)
  (stay : ∀ a o, s.heap.get? a = some o -> a ∉ φ -> h'.get? a = some o) (len : (φ ++ ψ).length = hp'.length)
  (objs : (∀ v x, VR φ s.heap v x -> VR (φ ++ ψ) h' v x) -> ∀ (i : Nat) (a : Addr) (o : MO), (φ ++ ψ)[i]? = some a -> hp'[i]? = some o -> OR c (φ ++ ψ) h' a o) :
  Rep c F (φ ++ ψ) { fr := μ.fr, hp := hp' } { s with heap := h', toks := tk } ∧ Ext F.nss F.cls φ s.heap (φ ++ ψ) h' := by
 have e : Ext0 F.nss F.cls φ s.heap (φ ++ ψ) h' := ⟨⟨ψ, rfl, hψ⟩, size, λ a o ho h1 _ _ => .inl (stay a o ho h1)⟩
 have hm : ∀ v x, VR φ s.heap v x -> VR (φ ++ ψ) h' v x := λ v x r => r.ext0 R e
 have hdom : ∀ a, dom s.heap a -> dom h' a := λ a ⟨o, ho⟩ => by
  by_cases hm' : a ∈ φ
  ·obtain ⟨i, hi⟩ := List.getElem?_of_mem (Xh ψ hm')
   have hl : i < hp'.length := by rw [<- len]; exact (Qgl hi)
   exact (objs hm i a _ hi (Q2 hl)).get
  ·exact ⟨o, stay a o ho hm'⟩
 have low : sysModules < s.heap.objs.size := modules_low (R.ok.nolimit.keeps R.keep)
 have fresh0 : ∀ b ∈ ψ, c.B.get? b = none := λ b hb => by
  cases q : c.B.get? b with
  | none => rfl
  | some o => exact Qe (Qx (R.keep b o q)) (Qi (hψ b hb))
 have fresh : ∀ b ∈ ψ, c.B.get? b = none ∧ (b == sysModules) = false := λ b hb => ⟨fresh0 b hb, beq_eq_false_iff_ne.mpr λ e => Qe (hψ b hb) (Nat.not_le.mpr (by rw [e]; exact low))⟩
 have notin : ∀ a o, s.heap.get? a = some o -> a ∉ φ -> a ∉ φ ++ ψ := λ a o ho hn => e.nin ho hn
 have rest : Rest c F (φ ++ ψ) μ.fr h' := R.rest notin (λ a o ho hn _ => ⟨o.slots, stay a o ho hn⟩) hm
 refine ⟨⟨R.ok, λ b o hb => ?_, R.os, R.gens, len, ?_, ?_, objs hm, R.flen, R.lnodup, rest.nss, rest.cls, rest.vloc, rest.vcell, rest.frm⟩, ⟨e, hdom⟩⟩
 ·exact stay b o (R.keep b o hb) λ hm => by rw [(R.phiB b hm).1] at hb; cases hb
 ·refine nodup_append.mpr ⟨R.nodup, hψn, λ a ha b hb hab => ?_⟩
  subst hab
  exact Qe (R.phiLt ha) (Qi (hψ _ hb))
 ·intro a ha
  rcases Qma ha with ha | ha
  ·exact R.phiB a ha
  ·exact fresh a ha
theorem Rep.toks (R : Rep c F φ μ s) (tk : Nat) : Rep c F φ μ { s with toks := tk } :=
 ⟨R.ok, R.keep, R.os, R.gens, R.len, R.nodup, R.phiB, R.objs, R.flen, R.lnodup, R.nss, R.cls, R.vloc, R.vcell, R.frm⟩
theorem Rep.still (R : Rep c F φ μ s) {h' : Heap} {tk : Nat} (size : s.heap.objs.size <= h'.objs.size) (stay : ∀ a o, s.heap.get? a = some o -> h'.get? a = some o) :
  Rep c F φ μ { s with heap := h', toks := tk } ∧ Ext F.nss F.cls φ s.heap φ h' := by
 have q := R.mut (ψ := []) (h' := h') (hp' := μ.hp) (tk := tk) (by simp) (by simp) size (λ a o h _ => stay a o h) (by simpa using R.len) (λ hm i a o h1 h2 => by
  rw [append_nil] at h1 hm ⊢
  obtain ⟨ob, hob⟩ := R.lt (Qm h1)
  exact (R.objs i a o h1 h2).move (λ _ _ e => e) hm ((stay _ _ hob).trans hob.symm))
 rw [append_nil] at q
 exact q
theorem Rep.push (R : Rep c F φ μ s) (o : Obj) {tk : Nat} : Rep c F φ μ { s with heap := s.heap.push o, toks := tk } ∧ Ext F.nss F.cls φ s.heap φ (s.heap.push o) :=
 R.still (by rw [Xg]; exact Nat.le_succ _) λ a o' e => Qy _ e
theorem Rep.upd (R : Rep c F φ μ s) {i : Nat} {a : Addr} {h' : Heap} {o : MO} {tk : Nat} (hi : φ[i]? = some a) (hs : Heap.SameBut a s.heap h') (ho : (∀ v x, VR φ s.heap v x -> VR φ h' v x) -> OR c φ h' a o) :
  Rep c F φ { fr := μ.fr, hp := μ.hp.set i o } { s with heap := h', toks := tk } ∧ Ext F.nss F.cls φ s.heap φ h' := by
 have q := R.mut (ψ := []) (h' := h') (hp' := μ.hp.set i o) (tk := tk) (by simp) (by simp) (Xb hs.1.symm)
  (λ b o' h hn => (hs.2 b λ e => hn (e ▸ Qm hi)).trans h) (by simpa using R.len) (λ hm j b o' h1 h2 => by
   rw [append_nil] at h1 hm ⊢
   by_cases hj : j = i
   ·subst hj
    rw [hi] at h1; cases h1
    have hl : j < μ.hp.length := by rw [<- R.len]; exact (Qgl hi)
    rw [List.getElem?_set_self hl] at h2; cases h2
    exact ho hm
   ·rw [Qf (Ne.symm hj)] at h2
    refine (R.objs j b o' h1 h2).move (λ _ _ e => e) hm (hs.2 b λ e => hj ?_)
    subst e
    obtain ⟨l1, e1⟩ := Qgs h1
    obtain ⟨l2, e2⟩ := Qgs hi
    exact (getElem_inj R.nodup).mp (e1.trans e2.symm))
 rw [append_nil] at q
 exact q
theorem Rep.alloc (R : Rep c F φ μ s) {ob : Obj} {o : MO} {tk : Nat} (hf : ob.isFreed = false)
  (ho : (s.heap.push ob).get? s.heap.objs.size = some ob -> (φ ++ [s.heap.objs.size])[μ.hp.length]? = some s.heap.objs.size -> (∀ v x, VR φ s.heap v x -> VR (φ ++ [s.heap.objs.size]) (s.heap.push ob) v x) -> OR c (φ ++ [s.heap.objs.size]) (s.heap.push ob) s.heap.objs.size o) :
  Rep c F (φ ++ [s.heap.objs.size]) { fr := μ.fr, hp := μ.hp ++ [o] } { s with heap := s.heap.push ob, toks := tk } ∧ Ext F.nss F.cls φ s.heap (φ ++ [s.heap.objs.size]) (s.heap.push ob) := by
 have hself : (φ ++ [s.heap.objs.size])[μ.hp.length]? = some s.heap.objs.size := by rw [<- R.len]; simp
 refine R.mut (ψ := [s.heap.objs.size]) (by simp) (by simp) (by rw [Xg]; exact Nat.le_succ _) (λ a o' e _ => Qy _ e) (by simp [R.len]) (λ hm i a o' h1 h2 => ?_)
 by_cases hi : i < φ.length
 ·rw [Qc hi] at h1
  rw [Qc (by rw [<- R.len]; exact hi)] at h2
  obtain ⟨ob', hob⟩ := R.lt (Qm h1)
  exact (R.objs i a o' h1 h2).move (λ _ _ e => getElem?_app e) hm ((Qy _ hob).trans hob.symm)
 ·have hi' : i = φ.length := by
   have := (Qgl h1)
   rw [Qk] at this
   exact Qnn hi (Nat.le_of_lt_succ this)
  subst hi'
  rw [R.len] at h1 h2
  rw [hself] at h1; cases h1
  simp at h2; subst h2
  exact ho (Qw _ hf) hself hm
end
inductive MF where
 | next
 | brk
 | cont
 | ret (x : PV)
inductive FR (φ : List Addr) (h : Heap) : Flow -> MF -> Prop
 | next : FR φ h .next .next
 | brk : FR φ h .brk .brk
 | cont : FR φ h .cont .cont
 | ret {v : Value} {x : PV} : VR φ h v x -> FR φ h (.ret v) (.ret x)
theorem FR.cs {φ : List Addr} {h : Heap} {motive : (f : Flow) -> (m : MF) -> FR φ h f m -> Prop} (next : motive .next .next .next) (brk : motive .brk .brk .brk) (cont : motive .cont .cont .cont)
  (ret : ∀ {v : Value} {x : PV} (r : VR φ h v x), motive (.ret v) (.ret x) (.ret r)) {f : Flow} {m : MF} (r : FR φ h f m) : motive f m r := by
 cases r with
 | next => exact next
 | brk => exact brk
 | cont => exact cont
 | ret r => exact ret r
structure ACtx (F : Fx) (A : Around) : Prop where
 handled : F.hd = true -> A.handled = none
 frames : A.frames = some F.frames
 guards : A.guards = some []
 depth : A.depth + 10 * F.lv <= 900
 units : A.units + 100 * F.lv <= 9000
theorem dpt {a l v : Nat} (h : a + 10 * v <= 900) (k : l + 1 <= v) : a + 1 + 10 * l <= 900 := by lia
theorem unt {a l v : Nat} (c : Nat) (h : a + 100 * v <= 9000) (k : l + 1 <= v) (hc : Nat.ble c 100 = true) : a + c + 100 * l <= 9000 := by
 have := Nat.le_of_ble_eq_true hc
 lia
structure ExcR (c : Cx) (D : Addr -> Prop) (φ : List Addr) (h : Heap) (e x : Value) : Prop where
 there : ∃ (ea : Addr) (oe : Obj) (vs : Array Value), e = .ref ea ∧ h.get? ea = some oe ∧ oe.cls = x ∧ ¬ FzO oe ∧ oe.data = .fields vs ∧ 5 <= vs.size ∧ ea ∉ φ ∧ c.B.get? ea = none ∧ ¬ D ea ∧
  (vs[1]? = some .none ∨ ∃ (T : Addr) (oT : Obj) (ts : Array Value), vs[1]? = some (.ref T) ∧ T ≠ ea ∧ T ∉ φ ∧ c.B.get? T = none ∧ ¬ D T ∧ h.get? T = some oT ∧ oT.cls = .type "traceback" ∧ oT.data = .fields ts ∧ 3 < ts.size)
theorem ExcR.le {c : Cx} {D D' : Addr -> Prop} {φ : List Addr} {h : Heap} {e x : Value} (r : ExcR c D φ h e x) (hm : ∀ a, D' a -> D a) : ExcR c D' φ h e x := by
 obtain ⟨ea, oe, vs, h1, h2, h3, h4, h5, h6, h7, h8, h9, h10⟩ := r.there
 refine ⟨ea, oe, vs, h1, h2, h3, h4, h5, h6, h7, h8, λ q => h9 (hm _ q), ?_⟩
 rcases h10 with h | ⟨T, oT, ts, a1, a2, a3, a4, a5, a6⟩
 ·exact .inl h
 ·exact .inr ⟨T, oT, ts, a1, a2, a3, a4, λ q => a5 (hm _ q), a6⟩
def OkK (c : Cx) (F : Fx) {α β : Type} (RR : List Addr -> Heap -> α -> β -> Prop) (φ : List Addr) (s : Shared) (Q : α -> Shared -> Prop) (o : Out β) : Prop :=
 ∀ a b φ' μ' s', o = .ok b μ' -> Rep c F φ' μ' s' -> Ext F.nss F.cls φ s.heap φ' s'.heap -> RR φ' s'.heap a b -> Q a s'
def ExK (c : Cx) (F : Fx) {β : Type} (φ : List Addr) (s : Shared) (E : Value -> Shared -> Prop) (o : Out β) : Prop :=
 ∀ e x φ' μ' s', o = .exc x μ' -> Rep c F φ' μ' s' -> Ext F.nss F.cls φ s.heap φ' s'.heap -> ExcR c (dom s.heap) φ' s'.heap e x -> E e s'
def Sim (c : Cx) (F : Fx) {α β : Type} (P : List Addr -> Heap -> Prop) (RR : List Addr -> Heap -> α -> β -> Prop) (t : Sem α) (f : PM β) : Prop :=
 ∀ (A : Around) (φ : List Addr) (μ : St) (s : Shared) (Q : α -> Shared -> Prop) (E : Value -> Shared -> Prop), ACtx F A -> Rep c F φ μ s -> P φ s.heap -> f μ ≠ .bad -> OkK c F RR φ s Q (f μ) -> ExK c F φ s E (f μ) ->
  wpAny (model c.prog c.w) A t Q E s
theorem gen {c : Cx} {F : Fx} {α β : Type} {RR : List Addr -> Heap -> α -> β -> Prop} {φ : List Addr} {s : Shared} {Q : α -> Shared -> Prop} {E : Value -> Shared -> Prop} {o : Out β} {P : Prop} (k : ∀ O, o = O -> O ≠ .bad -> OkK c F RR φ s Q O -> ExK c F φ s E O -> P) : o ≠ .bad -> OkK c F RR φ s Q o -> ExK c F φ s E o -> P := λ a b d => k o rfl a b d
noncomputable abbrev NoP : List Addr -> Heap -> Prop := λ _ _ => True
abbrev Zk (c : Cx) (F : Fx) (e : Expr) (f : PM PV) : Prop := Sim c F NoP (λ φ h v x => VR φ h v x) (eval e F.env) f
abbrev Zaz (c : Cx) (F : Fx) (st : Stmt) (f : PM MF) : Prop := Sim c F NoP FR (exec st F.env) f
abbrev Zbx (c : Cx) (F : Fx) (st : List Stmt) (f : PM MF) : Prop := Sim c F NoP FR (execs st F.env) f
abbrev Zer (c : Cx) (F : Fx) (e : Expr) (f : PM Bool) : Prop := Sim c F NoP (λ _ _ a b => a = b) (isTrue e F.env (eval e F.env)) f
section
variable {c : Cx} {F : Fx} {α β γ δ : Type} {P : List Addr -> Heap -> Prop} {R1 : List Addr -> Heap -> α -> β -> Prop} {R2 : List Addr -> Heap -> γ -> δ -> Prop}
theorem Sim.bind {t1 : Sem α} {f1 : PM β} {t2 : α -> Sem γ} {f2 : β -> PM δ} (h1 : Sim c F P R1 t1 f1) (h2 : ∀ a b, Sim c F (λ φ h => R1 φ h a b) R2 (t2 a) (f2 b)) : Sim c F P R2 (t1 >>= t2) (f1 >>= f2) := by
 intro A φ μ s Q E hA R hP hb hQ hE
 rw [PM.B] at hb
 refine Qb (h1 A φ μ s _ _ hA R hP (λ e => by rw [e] at hb; exact hb rfl) (λ a b φ' μ' s' e R' x r => ?_) λ e y φ' μ' s' he R' x r => ?_)
 ·rw [e] at hb
  refine h2 a b A φ' μ' s' _ _ hA R' r hb (λ a' b' φ'' μ'' s'' e' R'' x' r' => hQ a' b' φ'' μ'' s'' ?_ R'' (x.trans x') r') λ eB y1 φ'' μ'' s'' e' R'' x' r' => hE eB y1 φ'' μ'' s'' ?_ R'' (x.trans x') (r'.le x.dom)
  ·rw [PM.B, e]; exact e'
  ·rw [PM.B, e]; exact e'
 ·exact hE e y φ' μ' s' (by rw [PM.B, he]) R' x r
theorem Sim.mono {P' : List Addr -> Heap -> Prop} {R2' : List Addr -> Heap -> γ -> δ -> Prop} {t : Sem γ} {f : PM δ} (h : Sim c F P R2 t f) (hP : ∀ φ hh, P' φ hh -> P φ hh) (hR : ∀ φ hh a b, R2 φ hh a b -> R2' φ hh a b) : Sim c F P' R2' t f :=
 λ A φ μ s Q E hA R p hb hQ hE => h A φ μ s Q E hA R (hP _ _ p) hb (λ a b φ' μ' s' e R' x r => hQ a b φ' μ' s' e R' x (hR _ _ _ _ r)) hE
theorem Sim.J {t : Sem γ} : Sim c F P R2 t (PM.I : PM δ) := λ _ _ _ _ _ _ _ _ _ hb _ _ => Qe rfl hb
theorem Sim.I {vs : List Value} {t : Sem γ} {f : PM δ} (h : Sim c F P R2 t f) : Sim c F P R2 (PySem.holding vs t) f :=
 λ A φ μ s Q E hA R p hb hQ hE => Qu (h A φ μ s Q E hA R p hb hQ hE)
theorem Sim.H {pos : Pos} {t : Sem γ} {f : PM δ} (h : Sim c F P R2 t f) : Sim c F P R2 (do PySem.standAt pos; t) f :=
 λ A φ μ s Q E hA R p hb hQ hE => Qb (wpAny_standAt (h A φ μ s Q E hA R p hb hQ hE))
theorem Sim.keep {v : Value} {x : PV} {t : Sem γ} {f : PM δ} (h : Sim c F NoP R2 t f) : Sim c F (λ φ hh => VR φ hh v x) (λ φ hh a b => VR φ hh v x ∧ R2 φ hh a b) t f :=
 λ A φ μ s Q E hA R p hb hQ hE => h A φ μ s Q E hA R trivial hb (λ a b φ' μ' s' e R' x' r => hQ a b φ' μ' s' e R' x' ⟨p.ext R x', r⟩) hE
end

theorem Ztg (M : Model) (Γ : Ctx) (E : Value -> Pos -> Shared -> Prop) (p : Pos) (s : Shared) {a : Addr} {m : Str -> Option Value} {o : Obj} (hn : s.heap.Ns a m) (hoA : s.heap.get? a = some o) (name : Str) (v : Value) (Q : Unit -> Pos -> Shared -> Prop)
  (hQ : ∀ h' o', h'.Ns a (λ x => if x = name then some v else m x) -> Heap.SameBut a s.heap h' -> h'.get? a = some o' -> o'.cls = o.cls ->
   Q () p { s with heap := h', toks := s.toks + 1 }) : Sem.wp M Γ (nsSet a name v) Q E p s := by
 obtain ⟨o1, es, ep, ho, hd, hk, hm⟩ := hn
 rw [hoA] at ho
 cases ho
 have ho := hoA
 simp (config := { iota := false }) only [nsSet, strHash, Sem.wp_bind', Sem.wp_cmd_ask, Sem.wp_pure', Sem.wp_cmd_mkText]
 rw [Sem.wp_loadPart_of M Γ E p { s with toks := s.toks + 1 } (o := o) _ ho]
 have hany : es.any (·.refKey) = false := by
  rw [Array.any_eq_false']; intro e he; obtain ⟨n, t, h⟩ := hk e he; simp [DictEntry.refKey, h]
 rw [hd]
 dsimp only
 simp only [aRefKeyMayBeTheName_eq, aRefKeyMayBeTheNameByArray, hany, Bool.and_false, Bool.false_eq_true, if_false, Sem.wp_cmd_updatePart]
 obtain ⟨c, d, dt, sl⟩ := o
 subst hd
 cases hi : es.findIdx? (·.key.isStr name) with
 | some i =>
  have g : (s.heap.update a (Obj.putName name (if name.cps.isEmpty = true then 0 else reduceHash (M.w.params.strHash name.cps)) (Value.str name s.toks) v)).get? a = some ⟨c, d, .dict (es.modify i λ e => { e with val := v }) ep, sl⟩ :=
   (Q1 _ ho (by simp only [Obj.putName_eq, Obj.putNameByArray, hi]; rfl)).trans (by simp only [Obj.putName_eq, Obj.putNameByArray, hi])
  refine ⟨by rw [ho]; rfl, hQ _ _ ⟨_, _, ep, g, rfl, hk.modify _ _, λ x => ?_⟩ (Heap.SameBut.update ..) g rfl⟩
  show _ = if x = name then some v else m x
  rw [<- hm]; exact findBy_modify (λ n v => v.isStr n) Value.isStr_inj es name x v i hi
 | none =>
  have g : (s.heap.update a (Obj.putName name (if name.cps.isEmpty = true then 0 else reduceHash (M.w.params.strHash name.cps)) (Value.str name s.toks) v)).get? a = some ⟨c, d, .dict (es.push ⟨if name.cps.isEmpty = true then 0 else reduceHash (M.w.params.strHash name.cps), Value.str name s.toks, v⟩) (ep + 1), sl⟩ :=
   (Q1 _ ho (by simp only [Obj.putName_eq, Obj.putNameByArray, hi]; rfl)).trans (by simp only [Obj.putName_eq, Obj.putNameByArray, hi])
  refine ⟨by rw [ho]; rfl, hQ _ _ ⟨_, _, ep + 1, g, rfl, hk.push _ _ _ _, λ x => ?_⟩ (Heap.SameBut.update ..) g rfl⟩
  show _ = if x = name then some v else m x
  rw [<- hm]
  exact findBy_push (λ n v => v.isStr n) es name x _ _ v (λ y => by
   show (name == y) = decide (y = name)
   by_cases h : y = name
   ·subst h; simp
   ·have : ¬ name = y := λ e => h e.symm
    simp [h, this]) hi
inductive VarAt (F : Fx) (x : Str) (k : Nat) : Prop
 | loc : F.env.kindOf x = some .local -> F.locs[k]? = some (.loc F.env.locals x) -> VarAt F x k
 | cell {a : Addr} : F.env.kindOf x = some .cell -> F.env.cells.lookup x = some a -> F.locs[k]? = some (.cell a) -> VarAt F x k
 | free {a : Addr} : F.env.kindOf x = some .free -> F.env.cells.lookup x = some a -> F.locs[k]? = some (.cell a) -> VarAt F x k
set_option backward.eqns.nonrecursive false
noncomputable def Za (k : Nat) : PM PV := λ μ => match μ.fr[k]? with
 | some .undef => .bad
 | some v => .ok v μ
 | none => .bad
set_option backward.eqns.nonrecursive true
noncomputable def Zh (k : Nat) (v : PV) : PM Unit := λ μ => .ok () { fr := μ.fr.set k v, hp := μ.hp }
theorem Ns.uniq {h : Heap} {L : Addr} {m m' : Str -> Option Value} (a : h.Ns L m) (b : h.Ns L m') (x : Str) : m x = m' x := by
 obtain ⟨o, es, ep, ho, hd, _, hm⟩ := a
 obtain ⟨o', es', ep', ho', hd', _, hm'⟩ := b
 rw [ho] at ho'; cases ho'
 rw [hd] at hd'; cases hd'
 rw [<- hm, <- hm']
section
variable {c : Cx} {F : Fx} {φ φ' : List Addr} {μ : St} {s : Shared}
theorem Zu0 {x : Str} {k : Nat} (hk : F.env.scope.kind = .function) (hv : VarAt F x k) (hcd : (x == ("__classdict__" : Str)) = false) : Sim c F NoP (λ φ h v x => VR φ h v x) (loadName F.env x) (Za k) := by
 intro A φ μ s Q E hA R _ hb hQ hE
 unfold Za at hb hQ
 cases hf : μ.fr[k]? with
 | none => rw [hf] at hb; exact Qe rfl hb
 | some pv =>
  have hu : pv ≠ .undef := λ e => by subst e; rw [hf] at hb; exact hb rfl
  rw [hf] at hQ
  have fin : ∀ v, VR φ s.heap v pv -> Q v s := λ v r => hQ v pv φ μ s (by cases pv <;> first | rfl | exact Qe rfl hu) R Ext.refl r
  cases hv with
  | loc h1 h2 =>
   obtain ⟨_, q⟩ := R.vloc k _ x h2
   obtain ⟨m, v, hn, hx, hr⟩ := q pv hf hu
   exact wpAny_loadName_local hk h1 hn hx (fin v hr)
  | cell h1 h2 h3 =>
   obtain ⟨_, q⟩ := R.vcell k _ h3
   obtain ⟨v, hn, hr⟩ := q pv hf hu
   exact wpAny_loadName_cell hk h1 h2 hn (fin v hr)
  | free h1 h2 h3 =>
   obtain ⟨_, q⟩ := R.vcell k _ h3
   obtain ⟨v, hn, hr⟩ := q pv hf hu
   exact wpAny_loadName_free hk h1 h2 hn (fin v hr) hcd
theorem Zu1 {x : Str} {pos : Pos} {k : Nat} (hk : F.env.scope.kind = .function) (hv : VarAt F x k) (hd : (x == ("__debug__" : Str)) = false) (hcd : (x == ("__classdict__" : Str)) = false) : Zk c F (.Name x pos) (Za k) :=
 λ A φ μ s Q E hA R p hb hQ hE => wpAny_Name (Zu0 hk hv hcd A φ μ s Q E hA R p hb hQ hE) hd
theorem Rep.own (R : Rep c F φ μ s) {b : Addr} {k : Nat} {pv : PV} {h' : Heap} {tk : Nat} (hb : b ∈ F.nss ∨ b ∈ F.cls) (hs : Heap.SameBut b s.heap h')
  (hloc : ∀ m, s.heap.Ns b m -> ∃ m', h'.Ns b m' ∧ (∀ (j : Nat) (x : Str), F.locs[j]? = some (.loc b x) -> (j ≠ k -> m' x = m x) ∧ (j = k -> ∀ q, (μ.fr.set k pv)[j]? = some q -> ∃ v, m' x = some v ∧ VR φ h' v pv)))
  (hcell : ∀ v, s.heap.IsCell b v -> ∃ v', h'.IsCell b v' ∧ ∀ (j : Nat), F.locs[j]? = some (.cell b) -> j = k ∧ ∃ w, v' = some w ∧ VR φ h' w pv)
  (hk : F.locs[k]? = some (.cell b) ∨ ∃ x, F.locs[k]? = some (.loc b x)) :
  Rep c F φ { fr := μ.fr.set k pv, hp := μ.hp } { s with heap := h', toks := tk } ∧ Ext F.nss F.cls φ s.heap φ h' := by
 have e0 : Ext0 F.nss F.cls φ s.heap φ h' := ⟨⟨[], by simp, by simp⟩, Xb hs.1.symm, λ a o ho _ h2 h3 => .inl ((hs.2 a λ q => by subst q; rcases hb with hb | hb; exact h2 hb; exact h3 hb).trans ho)⟩
 have hm : ∀ v x, VR φ s.heap v x -> VR φ h' v x := λ v x r => r.ext0 R e0
 have e : Ext F.nss F.cls φ s.heap φ h' := ⟨e0, λ a ⟨o, ho⟩ => by
  by_cases hab : a = b
  ·subst hab
   rcases hb with hb | hb
   ·obtain ⟨_, _, m, hn⟩ := R.nss a hb
    obtain ⟨m', ⟨o', _, _, ho', _⟩, _⟩ := hloc m hn
    exact ⟨o', ho'⟩
   ·obtain ⟨_, _, v, hc⟩ := R.cls a hb
    obtain ⟨v', ⟨o', ho', _⟩, _⟩ := hcell v hc
    exact ⟨o', ho'⟩
  ·exact ⟨o, (hs.2 a hab).trans ho⟩⟩
 have hbφ : b ∉ φ := by rcases hb with hb | hb; exact (R.nss b hb).1; exact (R.cls b hb).1
 have hbB : c.B.get? b = none := by rcases hb with hb | hb; exact (R.nss b hb).2.1; exact (R.cls b hb).2.1
 refine ⟨⟨R.ok, λ a o ho => (hs.2 a λ q => by subst q; rw [hbB] at ho; cases ho).trans (R.keep a o ho), R.os, R.gens, R.len, R.nodup, R.phiB, λ i a o h1 h2 => ?_, by simpa using R.flen, R.lnodup, λ L hL => ?_, λ a ha => ?_, λ j L x hj => ?_, λ j a hj => ?_, λ env he => ?_⟩, e⟩
 ·exact (R.objs i a o h1 h2).move (λ _ _ e => e) hm (hs.2 a λ q => hbφ (q ▸ Qm h1))
 ·obtain ⟨h1, h2, m, hn⟩ := R.nss L hL
  refine ⟨h1, h2, ?_⟩
  by_cases hLb : L = b
  ·subst hLb; obtain ⟨m', h', _⟩ := hloc m hn; exact ⟨m', h'⟩
  ·exact ⟨m, hn.sameBut hs hLb⟩
 ·obtain ⟨h1, h2, v, o, ho, hd⟩ := R.cls a ha
  refine ⟨h1, h2, ?_⟩
  by_cases hab : a = b
  ·subst hab; obtain ⟨v', h', _⟩ := hcell v ⟨o, ho, hd⟩; exact ⟨v', h'⟩
  ·exact ⟨v, o, (hs.2 a hab).trans ho, hd⟩
 ·obtain ⟨h1, h2⟩ := R.vloc j L x hj
  refine ⟨h1, λ q hq hu => ?_⟩
  by_cases hLb : L = b
  ·subst hLb
   by_cases hjk : j = k
   ·obtain ⟨_, _, m, hn⟩ := R.nss L h1
    obtain ⟨m', hn', hx⟩ := hloc m hn
    obtain ⟨v, hv, hr⟩ := (hx j x hj).2 hjk q hq
    subst hjk
    have hl : j < μ.fr.length := by rw [R.flen]; exact (Qgl hj)
    simp only [List.getElem?_set_self hl] at hq; cases hq
    exact ⟨m', v, hn', hv, hr⟩
   ·simp only [Qf (Ne.symm hjk)] at hq
    obtain ⟨m, v, hn, hv, hr⟩ := h2 q hq hu
    obtain ⟨m', hn', hx⟩ := hloc m hn
    exact ⟨m', v, hn', ((hx j x hj).1 hjk).trans hv, hm _ _ hr⟩
  ·have hjk : j ≠ k := by
    intro q; subst q
    rcases hk with hk | ⟨y, hk⟩ <;> rw [hj] at hk <;> cases hk
    exact hLb rfl
   simp only [Qf (Ne.symm hjk)] at hq
   obtain ⟨m, v, hn, hv, hr⟩ := h2 q hq hu
   exact ⟨m, v, hn.sameBut hs hLb, hv, hm _ _ hr⟩
 ·obtain ⟨h1, h2⟩ := R.vcell j a hj
  refine ⟨h1, λ q hq hu => ?_⟩
  by_cases hab : a = b
  ·subst hab
   obtain ⟨_, _, v, hc⟩ := R.cls a h1
   obtain ⟨v', hc', hx⟩ := hcell v hc
   obtain ⟨hjk, w, hw, hr⟩ := hx j hj
   subst hjk
   have hl : j < μ.fr.length := by rw [R.flen]; exact (Qgl hj)
   simp only [List.getElem?_set_self hl] at hq; cases hq
   exact ⟨w, hw ▸ hc', hr⟩
  ·have hjk : j ≠ k := by
    intro q; subst q
    rcases hk with hk | ⟨y, hk⟩ <;> rw [hj] at hk <;> cases hk
    exact hab rfl
   simp only [Qf (Ne.symm hjk)] at hq
   obtain ⟨v, ⟨o, ho, hd⟩, hr⟩ := h2 q hq hu
   exact ⟨v, ⟨o, (hs.2 a hab).trans ho, hd⟩, hm _ _ hr⟩
 ·obtain ⟨h1, L, h2, h3, h4, o, es, ep, ho, hd⟩ := R.frm env he
  refine ⟨h1, L, h2, h3, h4, ?_⟩
  by_cases hLb : L = b
  ·subst hLb
   rcases hb with hb | hb
   ·obtain ⟨_, _, m, hn⟩ := R.nss L hb
    obtain ⟨m', ⟨o', es', ep', ho', hd', _⟩, _⟩ := hloc m hn
    exact ⟨o', es', ep', ho', hd'⟩
   ·obtain ⟨_, _, v, o', ho', hd'⟩ := R.cls L hb
    rw [ho] at ho'; cases ho'
    rw [hd] at hd'; cases hd'
  ·exact ⟨o, es, ep, (hs.2 L hLb).trans ho, hd⟩
theorem Zth {x : Str} {k : Nat} {v : Value} {pv : PV} (hk : F.env.scope.kind = .function) (hv : VarAt F x k) : Sim c F (λ φ h => VR φ h v pv) (λ _ _ _ _ => True) (storeName F.env x v) (Zh k pv) := by
 intro A φ μ s Q E hA R hr hb hQ hE
 have hlt : ∀ {l}, F.locs[k]? = some l -> k < μ.fr.length := λ h => by rw [R.flen]; exact (Qgl h)
 have uq : ∀ {j l}, F.locs[k]? = some l -> F.locs[j]? = some l -> j = k := λ {j l} h1 h2 => by
  obtain ⟨l1, e1⟩ := Qgs h1
  obtain ⟨l2, e2⟩ := Qgs h2
  exact (getElem_inj R.lnodup).mp (e2.trans e1.symm)
 have cellCase : ∀ a, F.locs[k]? = some (.cell a) -> ∀ h', h'.IsCell a (some v) -> Heap.SameBut a s.heap h' -> Q () { s with heap := h' } := λ a h3 h' hc' hs => by
  obtain ⟨hL, _⟩ := R.vcell k _ h3
  obtain ⟨_, _, vA, o0, hoA, hd0⟩ := R.cls a hL
  have key := R.own (tk := s.toks) (.inr hL) (pv := pv) hs (λ m hm => by obtain ⟨o1, _, _, hoB, hdB, _⟩ := hm; rw [hoA] at hoB; cases hoB; rw [hd0] at hdB; cases hdB)
   (λ vA hc => ⟨_, hc', λ j hj => ⟨uq h3 hj, v, rfl, hr.ext0 R ⟨⟨[], by simp, by simp⟩, Xb hs.1.symm, λ b o ho _ _ q3 => .inl ((hs.2 b λ e => q3 (by rw [e]; exact hL)).trans ho)⟩⟩⟩)
   (.inl h3)
  exact hQ () () φ _ _ rfl key.1 key.2 trivial
 cases hv with
 | loc h1 h2 =>
  obtain ⟨hL, _⟩ := R.vloc k _ x h2
  obtain ⟨_, _, m, hn⟩ := R.nss _ hL
  have hn0 := hn
  obtain ⟨o, es, ep, ho, hd, _, _⟩ := hn0
  rw [storeName_local h1 (by rw [hk]; rfl)]
  refine λ Γ p _ => Ztg _ Γ _ p s hn ho x v _ λ h' o' hn' hs ho' hc' => ?_
  have key := R.own (tk := s.toks + 1) (.inl hL) (pv := pv) hs (λ mB hm1 => ⟨_, hn', λ j y hj => ⟨λ hjk => ?_, λ hjk q _ => ?_⟩⟩) (λ vA hc => ?_) (.inr ⟨x, h2⟩)
  ·exact hQ () () φ _ _ rfl key.1 key.2 trivial
  ·have hyx : y ≠ x := λ e => by subst e; exact hjk (uq h2 hj)
   simp only [Qq hyx]
   exact Ns.uniq hn hm1 y
  ·subst hjk
   rw [h2] at hj; cases hj
   exact ⟨v, by simp, hr.ext0 R ⟨⟨[], by simp, by simp⟩, Xb hs.1.symm, λ a o ho _ q2 _ => .inl ((hs.2 a λ e => q2 (by rw [e]; exact hL)).trans ho)⟩⟩
  ·obtain ⟨o1, hoB, hdB⟩ := hc
   rw [ho] at hoB; cases hoB
   rw [hd] at hdB; cases hdB
 | cell h1 h2 h3 =>
  obtain ⟨hL, _⟩ := R.vcell k _ h3
  obtain ⟨_, _, vA, hcA⟩ := R.cls _ hL
  exact wpAny_storeName_cell hk h1 h2 hcA λ h' hc' hs => cellCase _ h3 h' hc' hs
 | free h1 h2 h3 =>
  obtain ⟨hL, _⟩ := R.vcell k _ h3
  obtain ⟨_, _, vA, hcA⟩ := R.cls _ hL
  unfold storeName
  rw [h1, hk]
  show wpAny _ _ (cellOf F.env _ >>= λ c => cellSet c (some v)) _ _ _
  exact Qb (wpAny_cellOf h2 (wpAny_cellSet hcA λ h' hc' hs => cellCase _ h3 h' hc' hs))
end
end
end Mine
namespace Mine
open PySem PySem.W PyProof.Rows PySem.Calls
noncomputable section

noncomputable def Zj : Nat := 1000000
set_option backward.eqns.nonrecursive false
noncomputable def Zcs (v : PV) : PM Bool := λ μ => match v with
 | .none => .ok false μ
 | .bool b => .ok b μ
 | .lst xs => match decide (xs.length <= 1000000) with
  | true => .ok (!xs.isEmpty) μ
  | false => .bad
 | .obj i => match μ.hp[i]? with
  | some (.lst xs) => (match decide (xs.length <= 1000000) with
   | true => .ok (!xs.isEmpty) μ
   | false => .bad)
  | _ => .bad
 | _ => .bad
def Zes (f : PM PV) : PM Bool := f >>= Zcs
def bNot (b : PM Bool) : PM Bool := b >>= λ x => pure !x
def bAnd (b1 b2 : PM Bool) : PM Bool := b1 >>= λ x => if x then b2 else pure false
def bOr (b1 b2 : PM Bool) : PM Bool := b1 >>= λ x => if x then pure true else b2
def sIf (t : PM Bool) (a b : PM MF) : PM MF := t >>= λ x => if x then a else b
def Zc (a b : PM MF) : PM MF := a >>= λ f => match f with
 | .next => b
 | f => pure f
def Zg : PM MF := pure .next
def Zet (k : PM MF) : MF -> PM MF
 | .next => k
 | .cont => k
 | .brk => pure .next
 | .ret v => pure (.ret v)
def Zda (t : PM Bool) (body els : PM MF) : Nat -> PM MF
 | 0 => PM.I
 | n + 1 => t >>= λ x => if x then body >>= Zet (Zda t body els n) else els
set_option backward.eqns.nonrecursive true
theorem Zko {t : PM Bool} {body els : PM MF} {n : Nat} : Zda t body els (n + 1) = (t >>= λ x => if x then body >>= Zet (Zda t body els n) else els) := rfl
section
variable {c : Cx} {F : Fx}theorem Za3 {k : Nat} {pos : Pos} : Zk c F (.Constant .none k pos) (pure .none) := λ A φ μ s Q E hA R p hb hQ hE => wpAny_Constant_none (hQ _ _ _ _ _ rfl R Ext.refl .none)theorem Zez {b : Bool} {k : Nat} {pos : Pos} : Zk c F (.Constant (.bool b) k pos) (pure (.bool b)) := λ A φ μ s Q E hA R p hb hQ hE => wpAny_Constant_bool (hQ _ _ _ _ _ rfl R Ext.refl (.bool b))theorem Zn {i : Int} {k : Nat} {pos : Pos} : Zk c F (.Constant (.int i) k pos) (pure (.int i)) := λ A φ μ s Q E hA R p hb hQ hE => wpAny_Constant_int (hQ _ _ _ _ _ rfl (R.toks _) Ext.refl (.int i _))theorem Zae {x : Str} {k : Nat} {pos : Pos} : Zk c F (.Constant (.str x) k pos) (pure (.str x)) := λ A φ μ s Q E hA R p hb hQ hE => wpAny_Constant_str (hQ _ _ _ _ _ rfl (R.toks _) Ext.refl (.str x _))
theorem Zir {v : Value} {pv : PV} : Sim c F (λ φ h => VR φ h v pv) (λ _ _ a b => a = b) (truthy v) (Zcs pv) := by
 intro A φ μ s Q E hA R hr hb hQ hE
 unfold Zcs at hb hQ
 induction hr using VR.cs with
 | none => exact (λ _ _ _ => hQ _ _ _ _ _ rfl R Ext.refl rfl)
 | bool b => exact wpAny_truthy_bool (hQ _ _ _ _ _ rfl R Ext.refl rfl)
 | int i t => exact Qe rfl hb
 | tup h1 h4 h5 => exact Qe rfl hb
 | @lst a vs n xs h1 h4 h5 =>
  dsimp only at hb hQ
  cases hl : decide (xs.length <= 1000000) with
  | false => rw [hl] at hb; exact Qe rfl hb
  | true =>
   rw [hl] at hQ
   have hle := Qh hl
   have e := h5.length
   refine wpAny_truthy_list (items := vs.toArray) ⟨_, h1, rfl, _, rfl⟩ (by simp; lia) ?_
   exact hQ _ _ _ _ _ rfl (R.toks _) Ext.refl (by cases h5 <;> rfl)
 | @obj i a h1 =>
  dsimp only at hb hQ
  split at hb
  ·rename_i xs hys
   rw [hys] at hQ
   dsimp only at hQ
   cases hl : decide (xs.length <= 1000000) with
   | false => rw [hl] at hb; exact Qe rfl hb
   | true =>
    rw [hl] at hQ
    have hle := Qh hl
    have q := R.objs i a _ h1 hys
    obtain ⟨vs, n, k1, k2⟩ := q.inv_lst rfl
    ·
     have e := k2.length
     refine wpAny_truthy_list ⟨_, k1, rfl, _, rfl⟩ (by simp; lia) ?_
     exact hQ _ _ _ _ _ rfl (R.toks _) Ext.refl (by cases k2 <;> rfl)
  ·exact Qe rfl hb
 | str => exact Qe rfl hb
 | rng => exact Qe rfl hb
 | nxt => exact Qe rfl hb
 | vals => exact Qe rfl hb
 | raw => exact Qe rfl hb
theorem Zc2 {e : Expr} {f : PM PV} (h : Zk c F e f) (he : isTrue e F.env (eval e F.env) = (do let v <- eval e F.env; standAt e.pos; holding [v] (truthy v))) : Zer c F e (Zes f) := by
 unfold Zer
 rw [he]
 exact h.bind λ a b => Sim.H (Sim.I Zir)def Zj1 (c : Cx) (F : Fx) (pos : Pos) (op : BoolOp) (ts : List (Sem Value)) (g : PM PV) : Prop := Sim c F NoP (λ φ h v x => VR φ h v x) (boolOp pos op ts) g
set_option backward.eqns.nonrecursive false
def andM (v : PV) (g : PM PV) : Bool -> PM PV
 | true => g
 | false => pure v
set_option backward.eqns.nonrecursive true
def eAnd (f g : PM PV) : PM PV := f >>= λ v => Zcs v >>= λ b => andM v g b
theorem Zis {pos : Pos} {op : BoolOp} {e : Expr} {f : PM PV} (h : Zk c F e f) : Zj1 c F pos op (evalEach [e] F.env) f := h
theorem Zti {pos : Pos} {e e' : Expr} {es : List Expr} {f g : PM PV} (h : Zk c F e f) (h' : Zj1 c F pos .And (evalEach (e' :: es) F.env) g) : Zj1 c F pos .And (evalEach (e :: e' :: es) F.env) (eAnd f g) := λ A φ μ s Q E hA R p hb hQ hE => by
 show wpAny _ _ (eval e F.env >>= λ v => standAt pos >>= λ _ => holding [v] (truthy v) >>= λ t => match BoolOp.And, t with
  | .And, false | .Or, true => pure v
  | _, _ => boolOp pos .And (evalEach (e' :: es) F.env)) _ _ _
 unfold eAnd at hb hQ hE
 have hb₁ : f μ ≠ .bad := λ e => hb (by rw [PM.B, e])
 refine Qb (h A φ μ s _ _ hA R trivial hb₁ (λ v y φ' μ' s' eg R' x r => ?_) λ e x φ' μ' s' he R' x' r => hE e x φ' μ' s' (by rw [PM.B, he]) R' x' r)
 rw [PM.B, eg] at hb hQ hE
 dsimp only at hb hQ hE
 have hbC : Zcs y μ' ≠ .bad := λ e => hb (by rw [PM.B, e])
 refine Qb (wpAny_standAt (Qb (Qu (Zir A φ' μ' s' _ _ hA R' r hbC (λ a b φ'' μ'' s'' eg R'' x'' r'' => ?_) λ e z φ'' μ'' s'' he R'' x'' r'' => hE e z φ'' μ'' s'' (by rw [PM.B, he]) R'' (x.trans x'') (r''.le x.dom)))))
 rw [PM.B, eg] at hb hQ hE
 dsimp only at hb hQ hE
 obtain rfl := r''
 cases a with
 | true => exact h' A φ'' μ'' s'' _ _ hA R'' trivial hb (λ a b φD μD sD eg RD xD rD => hQ a b φD μD sD eg RD (x.trans (x''.trans xD)) rD) λ e z φD μD sD he RD xD rD => hE e z φD μD sD he RD (x.trans (x''.trans xD)) (rD.le (x.trans x'').dom)
 | false => exact Qp (hQ _ _ _ _ _ rfl R'' (x.trans x'') (r.ext R' x''))theorem Zho {op : BoolOp} {values : List Expr} {pos : Pos} {g : PM PV} (h : Zj1 c F pos op (evalEach values F.env) g) : Zk c F (.BoolOp op values pos) g := h
theorem Zin : Sim c F NoP (λ _ _ a b => a = b) (allTrue .And [] F.env) (pure true) := λ A φ μ s Q E hA R p hb hQ hE => wpAny_allTrue_And_nil (hQ _ _ _ _ _ rfl R Ext.refl rfl)theorem Zit : Sim c F NoP (λ _ _ a b => a = b) (allTrue .Or [] F.env) (pure false) := λ A φ μ s Q E hA R p hb hQ hE => wpAny_allTrue_Or_nil (hQ _ _ _ _ _ rfl R Ext.refl rfl)
theorem Zgs {x : Expr} {rest : List Expr} {f g : PM Bool} (h : Zer c F x f) (h' : Sim c F NoP (λ _ _ a b => a = b) (allTrue .And rest F.env) g) :
  Sim c F NoP (λ _ _ a b => a = b) (allTrue .And (x :: rest) F.env) (bAnd f g) := λ A φ μ s Q E hA R p hb hQ hE => by
 refine wpAny_allTrue_And_cons ?_
 refine h A φ μ s _ _ hA R p (λ e => hb (by unfold bAnd; rw [PM.B, e])) (λ a b φ' μ' s' e R' x r => ?_) (λ e x φ' μ' s' he R' x' r => hE e x φ' μ' s' (by unfold bAnd; rw [PM.B, he]) R' x' r)
 subst r
 have e' : bAnd f g μ = (if a then g else pure false) μ' := by unfold bAnd; rw [PM.B, e]
 rw [e'] at hb hQ hE
 cases a with
 | true => exact h' A φ' μ' s' _ _ hA R' trivial hb (λ a b φ'' μ'' s'' e R'' x'' r => hQ a b φ'' μ'' s'' e R'' (x.trans x'') r) (λ a b φ'' μ'' s'' e R'' x'' r => hE a b φ'' μ'' s'' e R'' (x.trans x'') (r.le x.dom))
 | false => exact hQ _ _ φ' μ' s' rfl R' x rfl
theorem Zg8 {x : Expr} {rest : List Expr} {f g : PM Bool} (h : Zer c F x f) (h' : Sim c F NoP (λ _ _ a b => a = b) (allTrue .Or rest F.env) g) :
  Sim c F NoP (λ _ _ a b => a = b) (allTrue .Or (x :: rest) F.env) (bOr f g) := λ A φ μ s Q E hA R p hb hQ hE => by
 refine wpAny_allTrue_Or_cons ?_
 refine h A φ μ s _ _ hA R p (λ e => hb (by unfold bOr; rw [PM.B, e])) (λ a b φ' μ' s' e R' x r => ?_) (λ e x φ' μ' s' he R' x' r => hE e x φ' μ' s' (by unfold bOr; rw [PM.B, he]) R' x' r)
 subst r
 have e' : bOr f g μ = (if a then pure true else g) μ' := by unfold bOr; rw [PM.B, e]
 rw [e'] at hb hQ hE
 cases a with
 | false => exact h' A φ' μ' s' _ _ hA R' trivial hb (λ a b φ'' μ'' s'' e R'' x'' r => hQ a b φ'' μ'' s'' e R'' (x.trans x'') r) (λ a b φ'' μ'' s'' e R'' x'' r => hE a b φ'' μ'' s'' e R'' (x.trans x'') (r.le x.dom))
 | true => exact hQ _ _ φ' μ' s' rfl R' x rfl
theorem Zmw {op : BoolOp} {values : List Expr} {pos : Pos} {f : PM Bool} (h : Sim c F NoP (λ _ _ a b => a = b) (allTrue op values F.env) f) : Zer c F (.BoolOp op values pos) f :=
 λ A φ μ s Q E hA R p hb hQ hE => wpAny_isTrue_BoolOp (h A φ μ s Q E hA R p hb hQ hE)theorem Zmx {pos : Pos} : Zaz c F (.Break pos) (pure .brk) := λ A φ μ s Q E hA R p hb hQ hE => (λ _ _ _ => hQ _ _ _ _ _ rfl R Ext.refl .brk)theorem Ziu {pos : Pos} : Zaz c F (.Continue pos) (pure .cont) := λ A φ μ s Q E hA R p hb hQ hE => (λ _ _ _ => hQ _ _ _ _ _ rfl R Ext.refl .cont)theorem Ze : Zbx c F [] Zg := λ A φ μ s Q E hA R p hb hQ hE => wpAny_execs_nil (hQ _ _ _ _ _ rfl R Ext.refl .next)
theorem Zb {st : Stmt} {rest : List Stmt} {f g : PM MF} (h : Zaz c F st f) (h' : Zbx c F rest g) : Zbx c F (st :: rest) (Zc f g) := λ A φ μ s Q E hA R p hb hQ hE => by
 refine wpAny_execs_cons ?_
 unfold Zc at hb hQ hE
 rw [PM.B] at hb hQ hE
 refine h A φ μ s _ _ hA R p (λ e => hb (by rw [e])) (λ a b φ' μ' s' e R' x r => ?_) (λ e x φ' μ' s' he R' x' r => hE e x φ' μ' s' (by rw [he]) R' x' r)
 rw [e] at hb hQ hE
 induction r using FR.cs with
 | next => exact h' A φ' μ' s' _ _ hA R' trivial hb (λ a b φ'' μ'' s'' e R'' x'' r => hQ a b φ'' μ'' s'' e R'' (x.trans x'') r) (λ a b φ'' μ'' s'' e R'' x'' r => hE a b φ'' μ'' s'' e R'' (x.trans x'') (r.le x.dom))
 | brk => exact hQ _ _ φ' μ' s' rfl R' x .brk
 | cont => exact hQ _ _ φ' μ' s' rfl R' x .cont
 | ret r => exact hQ _ _ φ' μ' s' rfl R' x (.ret r)
theorem Zz {test : Expr} {body orelse : List Stmt} {pos : Pos} {t : PM Bool} {f g : PM MF} (h : Zer c F test t) (h1 : Zbx c F body f) (h2 : Zbx c F orelse g) : Zaz c F (.If test body orelse pos) (sIf t f g) :=
 λ A φ μ s Q E hA R p hb hQ hE => by
 refine wpAny_If ?_
 unfold sIf at hb hQ hE
 rw [PM.B] at hb hQ hE
 refine h A φ μ s _ _ hA R p (λ e => hb (by rw [e])) (λ a b φ' μ' s' e R' x r => ?_) (λ e x φ' μ' s' he R' x' r => hE e x φ' μ' s' (by rw [he]) R' x' r)
 rw [e] at hb hQ hE
 subst r
 cases a with
 | true => exact h1 A φ' μ' s' _ _ hA R' trivial hb (λ a b φ'' μ'' s'' e R'' x'' r => hQ a b φ'' μ'' s'' e R'' (x.trans x'') r) (λ a b φ'' μ'' s'' e R'' x'' r => hE a b φ'' μ'' s'' e R'' (x.trans x'') (r.le x.dom))
 | false => exact h2 A φ' μ' s' _ _ hA R' trivial hb (λ a b φ'' μ'' s'' e R'' x'' r => hQ a b φ'' μ'' s'' e R'' (x.trans x'') r) (λ a b φ'' μ'' s'' e R'' x'' r => hE a b φ'' μ'' s'' e R'' (x.trans x'') (r.le x.dom))def Zak (f : PM PV) : PM MF := f >>= λ v => pure (.ret v)
theorem Zr {e : Expr} {pos : Pos} {f : PM PV} (h : Zk c F e f) : Zaz c F (.Return (some e) pos) (Zak f) := λ A φ μ s Q E hA R p hb hQ hE => by
 refine wpAny_Return_some ?_
 unfold Zak at hb hQ hE
 rw [PM.B] at hb hQ hE
 refine h A φ μ s _ _ hA R p (λ e => hb (by rw [e])) (λ a b φ' μ' s' e R' x r => ?_) (λ e x φ' μ' s' he R' x' r => hE e x φ' μ' s' (by rw [he]) R' x' r)
 rw [e] at hQ
 exact hQ _ _ φ' μ' s' rfl R' x (.ret r)def Zap (f : PM PV) : PM MF := f >>= λ _ => pure .next
theorem Z9 {e : Expr} {pos : Pos} {f : PM PV} (h : Zk c F e f) (hi : interactive F.env = false) (hs : swapsWith e none pos.line F.env = pure false) : Zaz c F (.Expr e pos) (Zap f) := λ A φ μ s Q E hA R p hb hQ hE => by
 refine wpAny_Expr_any ?_ hi hs
 unfold Zap at hb hQ hE
 rw [PM.B] at hb hQ hE
 refine h A φ μ s _ _ hA R p (λ e => hb (by rw [e])) (λ a b φ' μ' s' e R' x r => ?_) (λ e x φ' μ' s' he R' x' r => hE e x φ' μ' s' (by rw [he]) R' x' r)
 rw [e] at hQ
 exact hQ _ _ φ' μ' s' rfl R' x .next
end

section
variable {c : Cx} {F : Fx}
theorem Sim.use {α β δ : Type} {P : List Addr -> Heap -> Prop} {RR : List Addr -> Heap -> α -> β -> Prop} {t : Sem α} {f : PM β} {g : β -> PM δ} (h : Sim c F P RR t f)
  {A : Around} {φ : List Addr} {μ : St} {s : Shared} {Q' : α -> Shared -> Prop} {E : Value -> Shared -> Prop} (hA : ACtx F A) (R : Rep c F φ μ s) (p : P φ s.heap) (hb : (f >>= g) μ ≠ .bad)
  (hE : ∀ e x φ' μ' s', (f >>= g) μ = .exc x μ' -> Rep c F φ' μ' s' -> Ext F.nss F.cls φ s.heap φ' s'.heap -> ExcR c (dom s.heap) φ' s'.heap e x -> E e s')
  (hQ : ∀ a b φ' μ' s', (f >>= g) μ = g b μ' -> Rep c F φ' μ' s' -> Ext F.nss F.cls φ s.heap φ' s'.heap -> RR φ' s'.heap a b -> Q' a s') : wpAny (model c.prog c.w) A t Q' E s :=
 h A φ μ s Q' E hA R p (λ e => hb (by rw [PM.B, e])) (λ a b φ' μ' s' e R' x r => hQ a b φ' μ' s' (by rw [PM.B, e]) R' x r)
  (λ e x φ' μ' s' he R' x' r => hE e x φ' μ' s' (by rw [PM.B, he]) R' x' r)
theorem Sim.fin {α β : Type} {P : List Addr -> Heap -> Prop} {RR : List Addr -> Heap -> α -> β -> Prop} {t : Sem α} {f : PM β} (h : Sim c F P RR t f)
  {A : Around} {φ φ0 : List Addr} {μ : St} {s s0 : Shared} {Q : α -> Shared -> Prop} {E : Value -> Shared -> Prop} {o : Out β} (hA : ACtx F A) (R : Rep c F φ μ s) (p : P φ s.heap) (eo : o = f μ) (xA : Ext F.nss F.cls φ0 s0.heap φ s.heap) (hb : o ≠ .bad)
  (hQ : ∀ a b φ' μ' s', o = .ok b μ' -> Rep c F φ' μ' s' -> Ext F.nss F.cls φ0 s0.heap φ' s'.heap -> RR φ' s'.heap a b -> Q a s')
  (hE : ∀ e x φ' μ' s', o = .exc x μ' -> Rep c F φ' μ' s' -> Ext F.nss F.cls φ0 s0.heap φ' s'.heap -> ExcR c (dom s0.heap) φ' s'.heap e x -> E e s') : wpAny (model c.prog c.w) A t Q E s := by
 subst eo
 exact h A φ μ s Q E hA R p hb (λ a b φ' μ' s' e R' x r => hQ a b φ' μ' s' e R' (xA.trans x) r) (λ e x φ' μ' s' he R' x' r => hE e x φ' μ' s' he R' (xA.trans x') (r.le xA.dom))
end
set_option backward.eqns.nonrecursive false
noncomputable def Za2 {α β : Type} (f : α -> Option β) : List α -> Option (List β)
 | [] => some []
 | x :: xs => match f x with
  | some y => (Za2 f xs).map (y :: ·)
  | none => none
theorem Zc3 {α β : Type} {f : α -> Option β} {x : α} {xs : List α} : Za2 f (x :: xs) = (match f x with | some y => (Za2 f xs).map (y :: ·) | none => none) := rfl
def Zv (hp : List MO) : Nat -> PV -> Option PyData
 | 0, _ => none
 | n + 1, v => match v with
  | .none => some .none
  | .bool b => some (.bool b)
  | .int i => some (.int i)
  | .str x => if PyData.strOk x then some (.str x) else none
  | .tup xs => (Za2 (Zv hp n) xs).map .tuple
  | .lst xs => (Za2 (Zv hp n) xs).map .list
  | .obj i => match hp[i]? with
   | some (.lst xs) => (Za2 (Zv hp n) xs).map .list
   | _ => none
  | _ => none
set_option backward.eqns.nonrecursive true
theorem Zl6 {hp : List MO} {n i : Nat} : Zv hp (n + 1) (.obj i) = (match hp[i]? with | some (.lst xs) => (Za2 (Zv hp n) xs).map .list | _ => none) := rfl
theorem Zfx {h : Heap} {a : Addr} {o : Obj} {vs : List Value} {n : Nat} {xs : List PyData} {as : List Addr} (h1 : h.get? a = some o) (h2 : o.cls = .type "list") (h3 : o.data = .seq vs.toArray n) (h4 : ReadsAll h vs xs as) : Reads h (.ref a) (.list xs) (a :: as) :=
 .list h1 h2 h3 (by simpa using h4)
theorem Zj8 {h : Heap} {a : Addr} {o : Obj} {vs : List Value} {n : Nat} {xs : List PyData} {as : List Addr} (h1 : h.get? a = some o) (h2 : o.cls = .type "tuple") (h3 : o.data = .seq vs.toArray n) (h4 : ReadsAll h vs xs as) : Reads h (.ref a) (.tuple xs) as :=
 .tuple h1 h2 h3 (by simpa using h4)
section
variable {c : Cx} {F : Fx} {φ : List Addr} {μ : St} {s : Shared}def Good (h : Heap) (v : Value) (d : PyData) (n : Nat) : Prop := (∃ as, Reads h v d as) ∧ d.canLay0 = true ∧ d.depth <= n
def Goods (h : Heap) (vs : List Value) (ds : List PyData) (n : Nat) : Prop := (∃ as, ReadsAll h vs ds as) ∧ PyData.canLayAll0 ds = true ∧ PyData.depthAll ds <= n
theorem Ze0 {n : Nat} {h : Heap} {φ : List Addr} {f : PV -> Option PyData} (ih : ∀ {v x d}, VR φ h v x -> f x = some d -> Good h v d n) {vs : List Value} {xs : List PV} (r : VRs φ h vs xs) : ∀ {ds : List PyData}, Za2 f xs = some ds -> Goods h vs ds n := by
 induction r using VRs.ind with
 | nil => intro ds e; cases e; exact ⟨⟨_, .nil⟩, rfl, Q5 _⟩
 | @cons v vs x xs a b ihb =>
  intro ds e
  rw [Zc3] at e
  cases hx : f x with
  | none => rw [hx] at e; cases e
  | some y =>
   rw [hx] at e
   cases hxs : Za2 f xs with
   | none => rw [hxs] at e; cases e
   | some ys =>
    rw [hxs] at e; cases e
    obtain ⟨⟨_, r1⟩, l1, d1⟩ := ih a hx
    obtain ⟨⟨_, r2⟩, l2, d2⟩ := ihb hxs
    exact ⟨⟨_, .cons r1 r2⟩, by simp [PyData.canLayAll0, l1, l2], by simp only [PyData.depthAll]; exact Nat.max_le.mpr ⟨d1, d2⟩⟩
theorem Zan (R : Rep c F φ μ s) : ∀ (n : Nat) {v : Value} {x : PV} {d : PyData}, VR φ s.heap v x -> Zv μ.hp n x = some d -> Good s.heap v d n
 | 0 => λ _ e => by cases e
 | n + 1 => λ r e => by
  rename_i d
  induction r using VR.cs with
  | none => cases e; exact ⟨⟨_, .none⟩, rfl, by simp [PyData.depth]⟩
  | bool b => cases e; exact ⟨⟨_, .bool b⟩, rfl, by simp [PyData.depth]⟩
  | int i t => cases e; exact ⟨⟨_, .int i t⟩, rfl, by simp [PyData.depth]⟩
  | str x t =>
   have e : (if PyData.strOk x then some (PyData.str x) else none) = some d := e
   by_cases hs : PyData.strOk x = true
   ·rw [Qo hs] at e; cases e; exact ⟨⟨_, .str x t⟩, hs, by simp [PyData.depth]⟩
   ·rw [Qq hs] at e; exact Zq e
  | tup h1 h4 h5 =>
   obtain ⟨ds, hds, rfl⟩ := Option.map_eq_some_iff.mp (show Option.map _ (Za2 (Zv μ.hp n) _) = _ from e)
   obtain ⟨⟨as, r⟩, l, dd⟩ := Ze0 (λ a b => Zan R n a b) h5 hds
   exact ⟨⟨_, Zj8 h1 rfl rfl r⟩, l, by simp only [PyData.depth]; exact Qkl dd Qr⟩
  | lst h1 h4 h5 =>
   obtain ⟨ds, hds, rfl⟩ := Option.map_eq_some_iff.mp (show Option.map _ (Za2 (Zv μ.hp n) _) = _ from e)
   obtain ⟨⟨as, r⟩, l, dd⟩ := Ze0 (λ a b => Zan R n a b) h5 hds
   exact ⟨⟨_, Zfx h1 rfl rfl r⟩, l, by simp only [PyData.depth]; exact Qkl dd Qr⟩
  | @obj i a h1 =>
   rw [Zl6] at e
   cases hxs : μ.hp[i]? with
   | none => rw [hxs] at e; exact Zq e
   | some o =>
    rw [hxs] at e
    cases o with
    | lst xs =>
     obtain ⟨ds, hds, rfl⟩ := Option.map_eq_some_iff.mp e
     obtain ⟨_, _, k1, k2⟩ := (R.objs i a _ h1 hxs).inv_lst rfl
     obtain ⟨⟨as, r⟩, l, dd⟩ := Ze0 (λ a b => Zan R n a b) k2 hds
     exact ⟨⟨_, Zfx k1 rfl rfl r⟩, l, by simp only [PyData.depth]; exact Qkl dd Qr⟩
    | _ => exact Zq e
  | rng => exact Zq e
  | nxt => exact Zq e
  | vals => exact Zq e
  | raw => exact Zq e
set_option backward.eqns.nonrecursive false
noncomputable def Zbq (v : PV) : PM (List PV) := λ μ => match v with
 | .lst xs => .ok xs μ
 | .tup xs => .ok xs μ
 | .obj i => match μ.hp[i]? with
  | some (.lst xs) => .ok xs μ
  | _ => .bad
 | _ => .bad
noncomputable def Zaa (hp : List MO) : PV -> Option (List PV)
 | .lst xs => some xs
 | .obj i => match hp[i]? with
  | some (.lst xs) => some xs
  | _ => none
 | _ => none
theorem Ztj {hp : List MO} {x : PV} {xs : List PV} (e : Zaa hp x = some xs) : x = .lst xs ∨ ∃ i, x = .obj i ∧ hp[i]? = some (.lst xs) := by
 cases x with
 | lst ys => cases e; exact .inl rfl
 | obj i =>
  refine .inr ⟨i, rfl, ?_⟩
  unfold Zaa at e
  dsimp only at e
  cases hi : hp[i]? with
  | none => rw [hi] at e; exact Zq e
  | some o =>
   rw [hi] at e
   cases o with
   | lst ys => cases e; rfl
   | _ => exact Zq e
 | _ => exact Zq e
theorem Zn3 (R : Rep c F φ μ s) {v : Value} {x : PV} {xs : List PV} (r : VR φ s.heap v x) (e : Zaa μ.hp x = some xs) : ∃ (a : Addr) (vs : List Value) (n : Nat), v = .ref a ∧ s.heap.get? a = some { cls := .type "list", data := .seq vs.toArray n } ∧ VRs φ s.heap vs xs := by
 rcases Ztj e with rfl | ⟨i, rfl, hi⟩
 ·obtain ⟨a, vs, n, rfl, h1, _, h5⟩ := r.un_lst rfl
  exact ⟨a, vs, n, rfl, h1, h5⟩
 ·obtain ⟨a, rfl, h1⟩ := r.un_obj rfl
  obtain ⟨vs, n, k1, k2⟩ := (R.objs i a _ h1 hi).inv_lst rfl
  exact ⟨a, vs, n, rfl, k1, k2⟩
theorem Zk3 (R : Rep c F φ μ s) {v : Value} {x : PV} {xs : List PV} (r : VR φ s.heap v x) (e : Zaa μ.hp x = some xs) : ∃ (a : Addr) (vs : List Value), v = .ref a ∧ s.heap.IsList a vs.toArray ∧ VRs φ s.heap vs xs := by
 obtain ⟨a, vs, n, rfl, h1, h2⟩ := Zn3 R r e
 exact ⟨a, vs, rfl, ⟨_, h1, rfl, _, rfl⟩, h2⟩
end
set_option backward.eqns.nonrecursive false
def pEq (a b : PV) : PM Bool := λ μ => match Zv μ.hp 16 a, Zv μ.hp 16 b with
 | some d, some e => .ok (PyData.eqv d e) μ
 | _, _ => .bad
noncomputable def Z3 {α : Type} (xs : List α) : Bool := decide (xs.length <= 1000000)
def Zf2 (μ : St) (x : PV) (xs : List PV) : Out Bool := match Zv μ.hp 16 x, Za2 (Zv μ.hp 16) xs with
 | some d, some ds => .ok (ds.any λ y => PyData.eqv y d) μ
 | _, _ => .bad
def pIn (x y : PV) : PM Bool := λ μ => match y with
 | .obj i => match μ.hp[i]? with
  | some (.dct es _) => (match x with
   | .int k => .ok (es.any λ e => e.1 == k) μ
   | _ => .bad)
  | some (.set ks) => (match x with
   | .int k => .ok (decide (k ∈ ks)) μ
   | _ => .bad)
  | some (.lst xs) => Zf2 μ x xs
  | _ => .bad
 | .lst xs => Zf2 μ x xs
 | .tup xs => Zf2 μ x xs
 | _ => .bad
set_option backward.eqns.nonrecursive true
section
variable {c : Cx} {F : Fx}
theorem ACtx.room {A : Around} (hA : ACtx F A) : A.units + 64 < cLine := by
 exact Qlb (Q9 (Qfl hA.units) 64) rfl
theorem Zgt {h : Heap} {v : Value} {d : PyData} {n : Nat} (g : Good h v d n) (hn : n <= 64) : SeqAt.shaped d = true := by
 unfold SeqAt.shaped
 rw [g.2.1, Bool.true_and]
 exact Qg (Qj g.2.2 hn)noncomputable abbrev V2 (v w : Value) (x y : PV) : List Addr -> Heap -> Prop := λ φ h => VR φ h v x ∧ VR φ h w y
theorem Zyo {v w : Value} {x y : PV} : Sim c F (V2 v w x y) (λ _ _ a b => a = .bool b) (compareOp .Eq v w) (pEq x y) := by
 intro A φ μ s Q E hA R p hb hQ hE
 unfold pEq at hb hQ
 cases h1 : Zv μ.hp 16 x with
 | none => rw [h1] at hb; exact Qe rfl hb
 | some d =>
  cases h2 : Zv μ.hp 16 y with
  | none => rw [h1, h2] at hb; exact Qe rfl hb
  | some e =>
   rw [h1, h2] at hQ
   have g1 := Zan R 16 p.1 h1
   have g2 := Zan R 16 p.2 h2
   obtain ⟨_, r1⟩ := g1.1
   obtain ⟨_, r2⟩ := g2.1
   exact SeqAt.compareEq_shaped r1 r2 (Zgt g1 (by decide)) (Zgt g2 (by decide)) hA.room (hQ _ _ _ _ _ rfl R Ext.refl rfl)
theorem Zyp {v w : Value} {x y : PV} : Sim c F (V2 v w x y) (λ _ _ a b => a = .bool b) (compareOp .NotEq v w) (bNot (pEq x y)) := by
 intro A φ μ s Q E hA R p hb hQ hE
 unfold bNot at hb hQ
 rw [PM.B] at hb hQ
 unfold pEq at hb hQ
 cases h1 : Zv μ.hp 16 x with
 | none => rw [h1] at hb; exact Qe rfl hb
 | some d =>
  cases h2 : Zv μ.hp 16 y with
  | none => rw [h1, h2] at hb; exact Qe rfl hb
  | some e =>
   rw [h1, h2] at hQ
   have g1 := Zan R 16 p.1 h1
   have g2 := Zan R 16 p.2 h2
   obtain ⟨_, r1⟩ := g1.1
   obtain ⟨_, r2⟩ := g2.1
   exact SeqAt.compareNe_shaped r1 r2 (Zgt g1 (by decide)) (Zgt g2 (by decide)) hA.room (hQ _ _ _ _ _ rfl R Ext.refl rfl)
theorem Zkp {φ : List Addr} {h : Heap} {kvs : List (Int × Value)} {es : List (Int × PV)} (r : DRs φ h kvs es) (k : Int) : (valueAt kvs k).isSome = es.any λ e => e.1 == k := by
 induction r with
 | nil => rfl
 | @cons k' _ _ _ _ a b ih =>
  unfold valueAt at ih ⊢
  rw [List.find?_cons, any_cons]
  by_cases hk : k' = k
  ·rw [show decide (k' = k) = true from Qg hk, show (k' == k) = true from beq_iff_eq.mpr hk]; rfl
  ·rw [show decide (k' = k) = false from Q8 hk, show (k' == k) = false from beq_eq_false_iff_ne.mpr hk]
   exact ih
theorem Ztk {v w : Value} {x y : PV} : Sim c F (V2 v w x y) (λ _ _ a b => a = .bool b) (compareOp .In v w) (pIn x y) := by
 intro A φ μ s Q E hA R p hb hQ hE
 obtain ⟨rx, ry⟩ := p
 have seq : ∀ xs : List PV, Zf2 μ x xs = pIn x y μ -> ∃ d ds, Zv μ.hp 16 x = some d ∧ Za2 (Zv μ.hp 16) xs = some ds ∧ pIn x y μ = Out.ok (ds.any λ y => PyData.eqv y d) μ := by
  intro xs e
  unfold Zf2 at e
  cases h1 : Zv μ.hp 16 x with
  | none => rw [h1] at e; exact Qe (e.symm) hb
  | some d =>
   cases h2 : Za2 (Zv μ.hp 16) xs with
   | none => rw [h1, h2] at e; exact Qe (e.symm) hb
   | some ds => rw [h1, h2] at e; exact ⟨d, ds, rfl, rfl, e.symm⟩
 have room : ∀ {ds d}, PyData.depthAll ds <= 16 -> A.units + 1 + min (PyData.depthAll ds) (PyData.depth d) < cLine := λ h => by
  exact Qlb (Nat.add_le_add (Q9 (Qfl hA.units) 1) (Qkk (Nat.min_le_left _ _) h)) rfl
 induction ry using VR.cs with
 | lst h1 h4 h5 =>
  obtain ⟨d, ds, e1, e2, e3⟩ := seq _ rfl
  have g1 := Zan R 16 rx e1
  have g2 := Ze0 (λ a b => Zan R 16 a b) h5 e2
  obtain ⟨_, r1⟩ := g1.1
  obtain ⟨_, r2⟩ := g2.1
  exact SeqAt.in_list_reads (Zfx h1 rfl rfl r2) r1 g2.2.1 g1.2.1 (room g2.2.2) (hQ _ _ _ _ _ e3 R Ext.refl rfl)
 | tup h1 h4 h5 =>
  obtain ⟨d, ds, e1, e2, e3⟩ := seq _ rfl
  have g1 := Zan R 16 rx e1
  have g2 := Ze0 (λ a b => Zan R 16 a b) h5 e2
  obtain ⟨_, r1⟩ := g1.1
  obtain ⟨_, r2⟩ := g2.1
  exact SeqAt.in_tuple_reads (Zj8 h1 rfl rfl r2) r1 g2.2.1 g1.2.1 (room g2.2.2) (hQ _ _ _ _ _ e3 R Ext.refl rfl)
 | @obj i a h1 =>
  have hw := R.notSys (Qm h1)
  cases hi : μ.hp[i]? with
  | none => exact Qe (by unfold pIn; simp only [hi]) hb
  | some o =>
   have ob := R.objs i a o h1 hi
   cases ob with
   | @lst _ _ xs k1 k2 =>
    obtain ⟨d, ds, e1, e2, e3⟩ := seq xs (by unfold pIn; simp only [hi])
    have g1 := Zan R 16 rx e1
    have g2 := Ze0 (λ a b => Zan R 16 a b) k2 e2
    obtain ⟨_, r1⟩ := g1.1
    obtain ⟨_, r2⟩ := g2.1
    exact SeqAt.in_list_reads (Zfx k1 rfl rfl r2) r1 g2.2.1 g1.2.1 (room g2.2.2) (hQ _ _ _ _ _ e3 R Ext.refl rfl)
   | dct k1 k2 =>
    induction rx using VR.cs with
    | int k t =>
     refine wpAny_in_of (knd := intKind c.prog c.w) (k := k) (by show Value.isInt k (.int k t) = true; simp [Value.isInt]) hw k1.dictOf.mapOf ?_
     rw [Zkp k2]
     exact hQ _ _ _ _ _ (by unfold pIn; simp only [hi]) (R.toks _) Ext.refl rfl
    | _ => exact Qe (by unfold pIn; simp only [hi]) hb
   | set k1 =>
    induction rx using VR.cs with
    | int k t =>
     refine wpAny_inSet_of (knd := intKind c.prog c.w) (k := k) (by show Value.isInt k (.int k t) = true; simp [Value.isInt]) rfl k1 ?_
     exact hQ _ _ _ _ _ (by unfold pIn; simp only [hi]) (R.toks _) Ext.refl rfl
    | _ => exact Qe (by unfold pIn; simp only [hi]) hb
   | _ => exact Qe (by unfold pIn; simp only [hi]) hb
 | none => exact Qe rfl hb
 | bool => exact Qe rfl hb
 | int => exact Qe rfl hb
 | str => exact Qe rfl hb
 | rng => exact Qe rfl hb
 | nxt => exact Qe rfl hb
 | vals => exact Qe rfl hb
 | raw => exact Qe rfl hb
end

section
variable {c : Cx} {F : Fx}
theorem Ztl {M : Model} {A : Around} {v w : Value} {s : Shared} {Q : Value -> Shared -> Prop} {E : Value -> Shared -> Prop} (h : wpAny M A (compareOp .In v w) (λ x s' => ∀ b, x = .bool b -> Q (.bool (!b)) s') E s) : wpAny M A (compareOp .NotIn v w) Q E s := λ Γ p hΓ => by
 have q := h Γ p hΓ
 change Sem.wp M Γ (contains w v >>= λ r => (pure (Value.bool r) : Sem Value)) _ _ p s at q
 show Sem.wp M Γ (contains w v >>= λ r => (pure (Value.bool !r) : Sem Value)) _ _ p s
 rw [Sem.wp_bind'] at q ⊢
 exact Sem.wp_mono M Γ _ (λ a _ s' h => h a rfl) (λ _ _ _ e => e) p s q
theorem Ztm {v w : Value} {x y : PV} : Sim c F (V2 v w x y) (λ _ _ a b => a = .bool b) (compareOp .NotIn v w) (bNot (pIn x y)) := by
 intro A φ μ s Q E hA R p hb hQ hE
 unfold bNot at hb hQ hE
 rw [PM.B] at hb hQ hE
 refine Ztl (Ztk A φ μ s _ E hA R p (λ e => hb (by rw [e])) (λ a b φ' μ' s' e R' x' r b' e' => ?_) λ e y φ' μ' s' he => hE e y φ' μ' s' (by rw [he]))
 cases r.symm.trans e'
 exact hQ _ _ _ _ _ (by rw [e]; rfl) R' x' rfl
set_option backward.eqns.nonrecursive false
noncomputable def Zhi : PV -> Option Bool
 | .none => some true
 | .raw _ => none
 | .undef => none
 | _ => some false
def pIs (x y : PV) : PM Bool := λ μ => match y, Zhi x with
 | .none, some b => .ok b μ
 | _, _ => .bad
theorem Zk4 {φ : List Addr} {h : Heap} {v : Value} {x : PV} {b : Bool} (r : VR φ h v x) (e : Zhi x = some b) : (v == Value.none) = b := by
 induction r using VR.cs with
 | raw => exact Zq e
 | _ => exact Option.some.inj e
theorem Zyq {v w : Value} {x y : PV} : Sim c F (V2 v w x y) (λ _ _ a b => a = .bool b) (compareOp .Is v w) (pIs x y) := by
 intro A φ μ s Q E hA R p hb hQ hE
 obtain ⟨rx, ry⟩ := p
 unfold pIs at hb hQ
 induction ry using VR.cs with
 | none =>
  cases hx : Zhi x with
  | none => rw [hx] at hb; exact (hb rfl).elim
  | some b =>
   refine is_none ?_
   rw [Zk4 rx hx]
   exact hQ _ _ _ _ _ (by rw [hx]) R Ext.refl rfl
 | _ => exact (hb rfl).elim
theorem Ztn {v w : Value} {x y : PV} : Sim c F (V2 v w x y) (λ _ _ a b => a = .bool b) (compareOp .IsNot v w) (bNot (pIs x y)) := by
 intro A φ μ s Q E hA R p hb hQ hE
 obtain ⟨rx, ry⟩ := p
 unfold bNot at hb hQ
 rw [PM.B] at hb hQ
 unfold pIs at hb hQ
 induction ry using VR.cs with
 | none =>
  cases hx : Zhi x with
  | none => rw [hx] at hb; exact (hb rfl).elim
  | some b =>
   refine isNot_none ?_
   rw [Zk4 rx hx]
   exact hQ _ _ _ _ _ (by rw [hx]; rfl) R Ext.refl rfl
 | _ => exact (hb rfl).elim
noncomputable def pOrd (f : Int -> Int -> Bool) (x y : PV) : PM Bool := λ μ => match x, y with
 | .int i, .int j => .ok (f i j) μ
 | _, _ => .bad
def Zbr : CmpOp -> PV -> PV -> PM Bool
 | .Eq => pEq
 | .NotEq => λ x y => bNot (pEq x y)
 | .In => pIn
 | .NotIn => λ x y => bNot (pIn x y)
 | .Is => pIs
 | .IsNot => λ x y => bNot (pIs x y)
 | .Lt => pOrd λ i j => decide (i < j)
 | .LtE => pOrd λ i j => decide (i <= j)
 | .Gt => pOrd λ i j => decide (i > j)
 | .GtE => pOrd λ i j => decide (i ≥ j)
theorem Zjy {f : Int -> Int -> Bool} {op : CmpOp} {v w : Value} {x y : PV} (hf : ∀ (A : Around) (s : Shared) (E : Value -> Shared -> Prop) (Q : Value -> Shared -> Prop) (i : Int) (t : Tok) (j : Int) (u : Tok), Q (.bool (f i j)) s -> wpAny (model c.prog c.w) A (compareOp op (.int i t) (.int j u)) Q E s) :
  Sim c F (V2 v w x y) (λ _ _ a b => a = .bool b) (compareOp op v w) (pOrd f x y) := by
 intro A φ μ s Q E hA R p hb hQ hE
 obtain ⟨rx, ry⟩ := p
 induction rx using VR.cs with
 | int i t =>
  induction ry using VR.cs with
  | int j u => exact hf _ _ _ _ _ _ _ _ (hQ _ _ _ _ _ rfl R Ext.refl rfl)
  | _ => exact (hb rfl).elim
 | _ => exact (hb rfl).elim
theorem Zq3 {op : CmpOp} {v w : Value} {x y : PV} : Sim c F (V2 v w x y) (λ _ _ a b => a = .bool b) (compareOp op v w) (Zbr op x y) := by
 cases op with
 | Eq => exact Zyo
 | NotEq => exact Zyp
 | In => exact Ztk
 | NotIn => exact Ztm
 | Is => exact Zyq
 | IsNot => exact Ztn
 | Lt => exact Zjy (op := .Lt) (f := λ i j => decide (i < j)) (λ A s E Q i t j u h => P.lt_int h)
 | LtE => exact Zjy (op := .LtE) (f := λ i j => decide (i <= j)) (λ A s E Q i t j u h => P.le_int h)
 | Gt => exact Zjy (op := .Gt) (f := λ i j => decide (i > j)) (λ A s E Q i t j u h => P.gt_int h)
 | GtE => exact Zjy (op := .GtE) (f := λ i j => decide (i ≥ j)) (λ A s E Q i t j u h => P.ge_int h)def Z2 (op : CmpOp) (f g : PM PV) : PM Bool := f >>= λ x => g >>= λ y => Zbr op x y
def Zdm (op : CmpOp) (f g : PM PV) : PM PV := f >>= λ x => g >>= λ y => Zbr op x y >>= λ b => pure (.bool b)
theorem Zto {op : CmpOp} {l r : Expr} {pos : Pos} {f g : PM PV} {p : PV -> PV -> PM Bool} (hp : ∀ v w x y, Sim c F (V2 v w x y) (λ _ _ a b => a = .bool b) (compareOp op v w) (p x y)) (h : Zk c F l f) (h' : Zk c F r g) (hm : behindInMarks op r = false) : Zer c F (.Compare l [op] [r] pos) (f >>= λ x => g >>= λ y => p x y) := λ A φ μ s Q E hA R p hb hQ hE => by
 refine wpAny_isTrue_Compare1 ?_ hm
 refine h.use hA R p hb hE λ a b φ' μ' s' eg R' x r => ?_
 rw [eg] at hb hQ hE
 refine (h'.keep (v := a) (x := b)).use hA R' r hb (λ e y φ' μ' s' he R' x' r => hE e y φ' μ' s' he R' (x.trans x') (r.le x.dom)) λ aC bC φC μ2 sC eg RC xC rC => ?_
 rw [eg] at hb hQ hE
 refine hp _ _ _ _ A φC μ2 sC _ _ hA RC rC hb (λ aD bD φD μD sD e₃ RD xD rD => ?_) (λ e y φ' μ' s' he R' x' r => hE e y φ' μ' s' he R' (x.trans (xC.trans x')) (r.le (x.trans xC).dom))
 subst rD
 exact wpAny_truthy_bool (hQ _ _ _ _ _ e₃ RD (x.trans (xC.trans xD)) rfl)theorem Zo {op : CmpOp} {l r : Expr} {pos : Pos} {f g : PM PV} (h : Zk c F l f) (h' : Zk c F r g) (hm : behindInMarks op r = false) : Zer c F (.Compare l [op] [r] pos) (Z2 op f g) := Zto (p := Zbr op) (λ _ _ _ _ => Zq3) h h' hm
theorem Zc4 {op : CmpOp} {l r : Expr} {pos : Pos} {f g : PM PV} (h : Zk c F l f) (h' : Zk c F r g) (hm : behindInMarks op r = false) : Zk c F (.Compare l [op] [r] pos) (Zdm op f g) := λ A φ μ s Q E hA R p hb hQ hE => by
 unfold Zdm at hb hQ hE
 refine wpAny_Compare1 ?_ hm
 refine h.use hA R p hb hE λ a b φ' μ' s' eg R' x r => ?_
 rw [eg] at hb hQ hE
 refine (h'.keep (v := a) (x := b)).use hA R' r hb (λ e y φ' μ' s' he R' x' r => hE e y φ' μ' s' he R' (x.trans x') (r.le x.dom)) λ aC bC φC μ2 sC eg RC xC rC => ?_
 rw [eg] at hb hQ hE
 refine Zq3.use hA RC rC hb (λ e y φ' μ' s' he R' x' r => hE e y φ' μ' s' he R' (x.trans (xC.trans x')) (r.le (x.trans xC).dom)) λ aD bD φD μD sD e₃ RD xD rD => ?_
 rw [e₃] at hQ
 subst rD
 exact hQ _ _ _ _ _ rfl RD (x.trans (xC.trans xD)) (.bool _)
noncomputable def Zb3 (f : Int -> Int -> Int) (ok : Int -> Bool) (x y : PV) : PM PV := λ μ => match x, y with
 | .int i, .int j => (match ok j with | true => .ok (.int (f i j)) μ | false => .bad)
 | _, _ => .bad
def pBin : Operator -> PV -> PV -> PM PV
 | .Add => Zb3 (λ i j => i + j) λ _ => true
 | .Sub => Zb3 (λ i j => i - j) λ _ => true
 | .Mod => Zb3 (λ i j => i.fmod j) λ j => j != 0
 | .FloorDiv => Zb3 (λ i j => i.fdiv j) λ j => j != 0 && decide (j.natAbs < 1000)
 | _ => λ _ _ => PM.I
theorem noPylong {i j : Int} (h : j.natAbs < 1000) : Builtin.divisionGoesByPylong i j = false := by
 unfold Builtin.divisionGoesByPylong
 have h2 : j.natAbs.log2 < 10 := by
  by_cases h0 : j.natAbs = 0
  ·rw [h0]; decide
  ·exact (Nat.log2_lt h0).mpr (Qll h (Nat.le_of_ble_eq_true rfl))
 dsimp only
 split
 ·simp
 ·simp only [Bool.and_eq_false_iff, decide_eq_false_iff_not]
  left; lia
theorem Zgu {f : Int -> Int -> Int} {ok : Int -> Bool} {op : Operator} {v w : Value} {x y : PV}
  (hf : ∀ (A : Around) (s : Shared) (E : Value -> Shared -> Prop) (Q : Value -> Shared -> Prop) (i : Int) (t : Tok) (j : Int) (u : Tok), ok j = true -> Q (.int (f i j) s.toks) { s with toks := s.toks + 1 } -> wpAny (model c.prog c.w) A (binaryOp op (.int i t) (.int j u)) Q E s) :
  Sim c F (V2 v w x y) (λ φ h a b => VR φ h a b) (binaryOp op v w) (Zb3 f ok x y) := by
 intro A φ μ s Q E hA R p hb hQ hE
 obtain ⟨rx, ry⟩ := p
 induction rx using VR.cs with
 | int i t =>
  induction ry using VR.cs with
  | int j u =>
   have e : Zb3 f ok (.int i) (.int j) μ = (match ok j with | true => .ok (.int (f i j)) μ | false => .bad) := rfl
   rw [e] at hb hQ
   cases hj : ok j with
   | true =>
    rw [hj] at hQ
    with_reducible refine hf A s E Q i t j u hj ?_
    refine hQ _ (.int (f i j)) φ μ _ ?_ ?_ ?_ ?_
    ·rfl
    ·exact R.toks _
    ·exact Ext.refl
    ·exact .int _ _
   | false => rw [hj] at hb; exact (hb rfl).elim
  | _ => exact (hb rfl).elim
 | _ => exact (hb rfl).elim
theorem Zws {op : Operator} {v w : Value} {x y : PV} : Sim c F (V2 v w x y) (λ φ h a b => VR φ h a b) (binaryOp op v w) (pBin op x y) := by
 cases op with
 | Add => exact Zgu (op := .Add) (f := λ i j => i + j) (ok := λ _ => true) λ A s E Q i t j u _ h => wpAny_add_int h
 | Sub => exact Zgu (op := .Sub) (f := λ i j => i - j) (ok := λ _ => true) λ A s E Q i t j u _ h => AutoIntOps.sub_0 h
 | Mod => exact Zgu (op := .Mod) (f := λ i j => i.fmod j) (ok := λ j => j != 0) λ A s E Q i t j u ok h => AutoIntOps.mod_1 (by simpa using ok) h
 | FloorDiv =>
  refine Zgu (op := .FloorDiv) (f := λ i j => i.fdiv j) (ok := λ j => j != 0 && decide (j.natAbs < 1000)) λ A s E Q i t j u ok h => ?_
  simp only [Q7, decide_eq_true_eq] at ok
  exact AutoIntOps.floordiv_1 (by simpa using ok.1) (by rw [noPylong ok.2]; exact Qt) h
 | _ => exact Sim.J
def Zft (op : Operator) (f g : PM PV) : PM PV := f >>= λ x => g >>= λ y => pBin op x y
theorem Zcn {op : Operator} {l r : Expr} {pos : Pos} {f g : PM PV} (h : Zk c F l f) (h' : Zk c F r g) : Zk c F (.BinOp l op r pos) (Zft op f g) := λ A φ μ s Q E hA R p hb hQ hE => by
 unfold Zft at hb hQ hE
 refine wpAny_BinOp ?_
 refine h.use hA R p hb hE λ a b φ' μ' s' eg R' x r => ?_
 rw [eg] at hb hQ hE
 refine (h'.keep (v := a) (x := b)).use hA R' r hb (λ e y φ' μ' s' he R' x' r => hE e y φ' μ' s' he R' (x.trans x') (r.le x.dom)) λ aC bC φC μ2 sC eg RC xC rC => ?_
 rw [eg] at hb hQ hE
 exact Zws.fin hA RC rC rfl (x.trans xC) hb hQ hE
end

section
variable {c : Cx} {F : Fx} {φ φ0 : List Addr} {μ : St} {s : Shared} {h₀ h' : Heap}noncomputable def Fx.stk (F : Fx) : List Addr := F.frames.filterMap (·.frame)
structure Side (c : Cx) (F : Fx) (φ : List Addr) (h h' : Heap) : Prop where
 size : h.objs.size <= h'.objs.size
 keep : ∀ a o, h.get? a = some o -> h'.get? a = some o ∨ (a ∈ F.stk ∧ ∃ sl, h'.get? a = some { o with slots := sl }) ∨ (¬ FzO o ∧ (∃ vs, o.data = .fields vs) ∧ a ∉ φ ∧ c.B.get? a = none)
theorem Rep.stkAt (R : Rep c F φ μ s) {a : Addr} (h : a ∈ F.stk) : a ∉ φ ∧ c.B.get? a = none ∧ ∃ o es ep, s.heap.get? a = some o ∧ o.data = .dict es ep := by
 obtain ⟨env, he, hf⟩ := List.mem_filterMap.mp h
 obtain ⟨_, L, h2, h3, h4, r⟩ := R.frm env he
 rw [h2] at hf; cases hf
 exact ⟨h3, h4, r⟩
theorem Side.mv (S : Side c F φ s.heap h') (R : Rep c F φ μ s) {v : Value} {x : PV} (r : VR φ s.heap v x) : VR φ h' v x := by
 refine r.move (λ _ _ e => e) (λ _ _ _ h => h) λ a o ho hn hz => ?_
 rcases S.keep a o ho with k | ⟨k, _⟩ | ⟨k, _⟩
 ·exact k
 ·obtain ⟨_, _, o', es, ep, ho', hd⟩ := R.stkAt k
  rw [ho] at ho'; cases ho'
  exact Qe ⟨es, ep, hd⟩ hz.notFrame
 ·exact Qe hz k
theorem Side.data (S : Side c F φ s.heap h') (R : Rep c F φ μ s) {a : Addr} {o : Obj} (ho : s.heap.get? a = some o) (hd : ∀ vs, o.data ≠ .fields vs) : ∃ sl, h'.get? a = some { o with slots := sl } := by
 rcases S.keep a o ho with k | ⟨_, sl, k⟩ | ⟨_, ⟨vs, k⟩, _⟩
 ·exact ⟨o.slots, k⟩
 ·exact ⟨sl, k⟩
 ·exact Qe k (hd vs)
theorem Rep.side (R : Rep c F φ μ s) (S : Side c F φ s.heap h') {tk : Nat} : Rep c F φ μ { s with heap := h', toks := tk } := by
 have exact_ : ∀ a o, s.heap.get? a = some o -> a ∉ F.stk -> (a ∈ φ ∨ (∃ ob, c.B.get? a = some ob)) -> h'.get? a = some o := λ a o ho hs hb => by
  rcases S.keep a o ho with k | ⟨k, _⟩ | ⟨_, _, k1, k2⟩
  ·exact k
  ·exact Qe k hs
  ·rcases hb with hb | ⟨ob, hb⟩
   ·exact Qe hb k1
   ·rw [k2] at hb; cases hb
 have mv : ∀ v x, VR φ s.heap v x -> VR φ h' v x := λ v x r => S.mv R r
 have rest : Rest c F φ μ.fr h' := R.rest (λ _ _ _ h => h) (λ a o ho _ hd => S.data R ho hd) mv
 refine ⟨R.ok, λ b o hb => ?_, R.os, R.gens, R.len, R.nodup, R.phiB, λ i a o h1 h2 => ?_, R.flen, R.lnodup, rest.nss, rest.cls, rest.vloc, rest.vcell, rest.frm⟩
 ·exact exact_ b o (R.keep b o hb) (λ h => by rw [(R.stkAt h).2.1] at hb; cases hb) (.inr ⟨o, hb⟩)
 ·obtain ⟨ob, hob⟩ := R.lt (Qm h1)
  exact (R.objs i a o h1 h2).move (λ _ _ e => e) mv ((exact_ a ob hob (λ h => (R.stkAt h).1 (Qm h1)) (.inl (Qm h1))).trans hob.symm)
theorem Ext.after {nss cls : List Addr} (xA : Ext nss cls φ0 h₀ φ s.heap) (size : s.heap.objs.size <= h'.objs.size)
  (keep : ∀ a o, s.heap.get? a = some o -> h'.get? a = some o ∨ ((∃ es ep, o.data = .dict es ep) ∧ ∃ sl, h'.get? a = some { o with slots := sl }) ∨ ¬ Mine.dom h₀ a) (hdom : ∀ a, Mine.dom h₀ a -> Mine.dom s.heap a -> Mine.dom h' a) : Ext nss cls φ0 h₀ φ h' := by
 refine ⟨⟨xA.grow, Qj xA.size size, λ a o ho h1 h2 h3 => ?_⟩, λ a x => hdom a x (xA.dom a x)⟩
 rcases xA.old a o ho h1 h2 h3 with k | ⟨kc, sl, k⟩
 ·rcases keep a o k with q | q | q
  ·exact .inl q
  ·exact .inr q
  ·exact Qe ⟨o, ho⟩ q
 ·rcases keep a _ k with q | ⟨_, sl', q⟩ | q
  ·exact .inr ⟨kc, sl, q⟩
  ·exact .inr ⟨kc, sl', q⟩
  ·exact Qe ⟨o, ho⟩ q
theorem Side.trans {h'' : Heap} (S : Side c F φ s.heap h') (S' : Side c F φ h' h'') (hst : ∀ a ∈ F.stk, ∃ o es ep, s.heap.get? a = some o ∧ o.data = .dict es ep) : Side c F φ s.heap h'' := by
 refine ⟨Qj S.size S'.size, λ a o ho => ?_⟩
 rcases S.keep a o ho with k | ⟨k, sl, k'⟩ | k
 ·exact S'.keep a o k
 ·refine .inr (.inl ⟨k, ?_⟩)
  obtain ⟨o', es, ep, ho', hd⟩ := hst a k
  rw [ho] at ho'; cases ho'
  rcases S'.keep a _ k' with q | ⟨_, sl', q⟩ | ⟨_, ⟨vs, q⟩, _⟩
  ·exact ⟨sl, q⟩
  ·exact ⟨sl', q⟩
  ·rw [hd] at q; cases q
 ·exact .inr (.inr k)
theorem Side.one {T : Addr} {o : Obj} {vs : Array Value} (ho : s.heap.get? T = some o) (hz : ¬ FzO o) (hd : o.data = .fields vs) (hn : T ∉ φ) (hb : c.B.get? T = none) (hs : Heap.SameBut T s.heap h') : Side c F φ s.heap h' := by
 refine ⟨Xb hs.1.symm, λ a oa ha => ?_⟩
 by_cases e : a = T
 ·subst e
  rw [ho] at ha; cases ha
  exact .inr (.inr ⟨hz, ⟨vs, hd⟩, hn, hb⟩)
 ·exact .inl ((hs.2 a e).trans ha)theorem Side.push {o : Obj} : Side c F φ s.heap (s.heap.push o) := ⟨by rw [Xg]; exact Nat.le_succ _, λ a oa ha => .inl (Qy _ ha)⟩
theorem Side.slots (S : Heap.SlotsOnly F.stk s.heap h') : Side c F φ s.heap h' := by
 refine ⟨Xb S.1.symm, λ a oa ha => ?_⟩
 by_cases e : a ∈ F.stk
 ·exact .inr (.inl ⟨e, S.2.2 a oa ha⟩)
 ·exact .inl ((S.2.1 a e).trans ha)
theorem Rep.fun (R : Rep c F φ μ s) : s.heap.FunFrames {} F.frames := by
 have go : ∀ l : List Env, (∀ env ∈ l, env ∈ F.frames) -> s.heap.FunFrames {} l := by
  intro l
  induction l with
  | nil => intro _; trivial
  | cons env r ih =>
   intro h
   obtain ⟨h1, L, h2, h3, h4, o, es, ep, ho, hd⟩ := R.frm env (h env (.head _))
   exact ⟨h1, ⟨L, o, h2, rfl, ho, λ vs e => by rw [hd] at e; cases e⟩, ih λ e he => h e (.tail _ he)⟩
 exact go F.frames λ _ h => h
theorem Zfy {o : Obj} {n : String} (h : o.cls = .type n) (h1 : n ≠ "tuple") (h2 : n ≠ "list") (h3 : n ≠ "range") (h4 : n ≠ "method-wrapper") (h5 : n ≠ "dict_values" := by decide) : ¬ FzO o := by
 rintro ⟨e | e | e | e | e, _⟩ <;> rw [h] at e <;> injection e <;> contradiction
structure ExcN (c : Cx) (F : Fx) (n : Addr -> Prop) (φ : List Addr) (h h' : Heap) : Prop where
 side : Side c F φ h h'
 ext : ∀ {nss cls φ0 h₀}, (∀ a, dom h₀ a -> n a) -> Ext nss cls φ0 h₀ φ h -> Ext nss cls φ0 h₀ φ h'
theorem ExcN.trans {n : Addr -> Prop} {h'' : Heap} (R : Rep c F φ μ s) (a : ExcN c F n φ s.heap h') (b : ExcN c F n φ h' h'') : ExcN c F n φ s.heap h'' :=
 ⟨a.side.trans b.side λ x hx => (R.stkAt hx).2.2, λ hn x => b.ext hn (a.ext hn x)⟩
theorem ExcN.one {n : Addr -> Prop} {T : Addr} {o : Obj} {vs : Array Value} (ho : s.heap.get? T = some o) (hz : ¬ FzO o) (hd : o.data = .fields vs) (hn : T ∉ φ) (hb : c.B.get? T = none) (hT : ¬ n T) (hal : dom h' T) (hs : Heap.SameBut T s.heap h') : ExcN c F n φ s.heap h' := by
 refine ⟨Side.one ho hz hd hn hb hs, λ h0 x => x.after (Xb hs.1.symm) (λ a oa ha => ?_) λ a _ ⟨oa, ha⟩ => by
  by_cases e : a = T
  ·rw [e]; exact hal
  ·exact ⟨oa, (hs.2 a e).trans ha⟩⟩
 by_cases e : a = T
 ·exact .inr (.inr (by rw [e]; exact λ q => hT (h0 _ q)))
 ·exact .inl ((hs.2 a e).trans ha)
theorem ExcN.push {n : Addr -> Prop} {o : Obj} : ExcN c F n φ s.heap (s.heap.push o) :=
 ⟨Side.push, λ h0 x => x.after (by rw [Xg]; exact Nat.le_succ _) (λ a oa ha => .inl (Qy _ ha)) λ a _ ⟨oa, ha⟩ => ⟨oa, Qy _ ha⟩⟩
theorem ExcN.slots {n : Addr -> Prop} (R : Rep c F φ μ s) (S : Heap.SlotsOnly F.stk s.heap h') : ExcN c F n φ s.heap h' := by
 refine ⟨Side.slots S, λ h0 x => x.after (Xb S.1.symm) (λ a oa ha => ?_) λ a _ ⟨oa, ha⟩ => by
  by_cases e : a ∈ F.stk
  ·obtain ⟨sl, q⟩ := S.2.2 a oa ha
   exact ⟨_, q⟩
  ·exact ⟨oa, (S.2.1 a e).trans ha⟩⟩
 by_cases e : a ∈ F.stk
 ·obtain ⟨_, _, o, es, ep, ho, hd⟩ := R.stkAt e
  rw [ha] at ho; cases ho
  exact .inr (.inl ⟨⟨es, ep, hd⟩, S.2.2 a oa ha⟩)
 ·exact .inl ((S.2.1 a e).trans ha)
def ExcT (c : Cx) (n : Addr -> Prop) (φ : List Addr) (h : Heap) (e x : Value) : Prop :=
 ∃ (ea : Addr) (oe : Obj) (vs : Array Value) (T : Addr) (oT : Obj) (ts : Array Value), e = .ref ea ∧ h.get? ea = some oe ∧ oe.cls = x ∧ ¬ FzO oe ∧ oe.data = .fields vs ∧ 5 <= vs.size ∧ ea ∉ φ ∧ c.B.get? ea = none ∧ ¬ n ea ∧
  vs[1]? = some (.ref T) ∧ T ≠ ea ∧ T ∉ φ ∧ c.B.get? T = none ∧ ¬ n T ∧ h.get? T = some oT ∧ oT.cls = .type "traceback" ∧ oT.data = .fields ts ∧ 3 < ts.size
theorem ExcT.r {n : Addr -> Prop} {h : Heap} {e x : Value} (t : ExcT c n φ h e x) : ExcR c n φ h e x := by
 obtain ⟨ea, oe, vs, T, oT, ts, h1, h2, h3, h4, h5, h6, h7, h8, h9, h10, r⟩ := t
 exact ⟨ea, oe, vs, h1, h2, h3, h4, h5, h6, h7, h8, h9, .inr ⟨T, oT, ts, h10, r⟩⟩
theorem Zu2 {pl : List Value} {a b d e f : Value} : 3 < (([a, b, d, e, f] ++ (if pl.isEmpty then List.replicate 6 Value.none else pl)).toArray).size := by
 simp only [Q4, Qk, Xd, List.length_nil]; lia
theorem Zhp {A : Around} {n : Addr -> Prop} {e x : Value} {outer : List Env} {E : Value -> Shared -> Prop} {Q : Unit -> Shared -> Prop} (hA : ACtx F A) (R : Rep c F φ μ s) (hfr : F.frames = F.env :: outer) (hx : ExcR c n φ s.heap e x)
  (hQ : ∀ h', ExcN c F n φ s.heap h' -> ExcT c n φ h' e x -> Q () { s with heap := h' }) (hn : ∀ a, n a -> dom s.heap a) : wpAny (model c.prog c.w) A (noteFrame e F.env) Q E s := by
 obtain ⟨ea, oe, vs, rfl, h2, h3, hz, h4, h5, h6, h7, h8, h9⟩ := hx.there
 obtain ⟨hk, L, hL, hLφ, hLB, oL, esL, epL, hoL, hdL⟩ := R.frm F.env (by rw [hfr]; exact .head _)
 have hstk : F.stk = (F.env :: outer).filterMap (·.frame) := by unfold Fx.stk; rw [hfr]
 have entry : ∀ (s1 : Shared) (RB : Rep c F φ μ s1) (head : Value) (hadNext : Bool), ExcN c F n φ s.heap s1.heap -> s1.heap.get? ea = some oe -> (∀ h', ExcN c F n φ s.heap h' -> ExcT c n φ h' (.ref ea) x -> Q () { s1 with heap := h' }) ->
   wpAny (model c.prog c.w) A (do let a <- frameOf F.env; let pl <- entryPlaceOf L hadNext; let b <- EntryCells.newEntry head a .none (rawInt L) .none pl; setField (.ref ea) 1 b) Q E s1 := by
  intro s1 RB head hadNext NB he hQ1
  refine Qb (wpAny_frameOf_fun (base := {}) (by rw [hA.frames, hfr]) (by have := RB.fun; rw [hfr] at this; exact this) hL λ h₁ hsB => ?_)
  rw [<- hstk] at hsB
  have NC : ExcN c F n φ s1.heap h₁ := ExcN.slots RB hsB
  have RC : Rep c F φ μ { s1 with heap := h₁ } := RB.side (tk := s1.toks) NC.side
  have he2 : h₁.get? ea = some oe := (hsB.2.1 ea λ hm => by
   obtain ⟨_, _, o, _, _, ho, hd⟩ := RB.stkAt hm
   rw [he] at ho; cases ho; rw [h4] at hd; cases hd).trans he
  refine Qb (wpAny_entryPlaceOf λ pl hpl => ?_)
  unfold EntryCells.newEntry newFields
  refine Qb (wpAny_newObj_type ?_ (hpl.sizeOk5 _ _ _ _ _))
  have he3 := Qy (h := h₁) { cls := .type "traceback", dict := none, data := .fields ([head, .ref L, .none, rawInt L, .none] ++ (if pl.isEmpty then List.replicate 6 Value.none else pl)).toArray } he2
  refine wpAny_setField he3 h4 (Qkxl Qr h5 rfl) ?_
  have RD : Rep c F φ μ { s1 with heap := h₁.push { cls := .type "traceback", dict := none, data := .fields ([head, .ref L, .none, rawInt L, .none] ++ (if pl.isEmpty then List.replicate 6 Value.none else pl)).toArray } } := RC.side (tk := s1.toks) (Side.push (s := { s1 with heap := h₁ }))
  have ND : ExcN c F n φ s1.heap (h₁.push { cls := .type "traceback", dict := none, data := .fields ([head, .ref L, .none, rawInt L, .none] ++ (if pl.isEmpty then List.replicate 6 Value.none else pl)).toArray }) := NC.trans RB (ExcN.push (s := { s1 with heap := h₁ }))
  have sb := Heap.SameBut.update (h₁.push { cls := .type "traceback", dict := none, data := .fields ([head, .ref L, .none, rawInt L, .none] ++ (if pl.isEmpty then List.replicate 6 Value.none else pl)).toArray }) ea (Obj.mapFields (·.setIfInBounds 1 (Value.ref h₁.objs.size)))
  have NE := ND.trans RB (ExcN.one (s := { s1 with heap := h₁.push { cls := .type "traceback", dict := none, data := .fields ([head, .ref L, .none, rawInt L, .none] ++ (if pl.isEmpty then List.replicate 6 Value.none else pl)).toArray } }) (F := F) (c := c) (φ := φ) (n := n) he3 hz h4 h6 h7 h8 ⟨_, Q1 _ he3 (Obj.isFreed_of_fields (Obj.data_mapFields h4 _))⟩ sb)
  have hTe : h₁.objs.size ≠ ea := Nat.ne_of_gt (Qx he2)
  have hd4 := Obj.data_mapFields h4 (·.setIfInBounds 1 (Value.ref h₁.objs.size))
  refine hQ1 _ (NB.trans R NE) ⟨ea, _, _, h₁.objs.size, _, _, rfl, Q1 _ he3 (Obj.isFreed_of_fields hd4), (Obj.cls_mapFields _ _).trans h3, ?_, hd4, by simpa using h5, h6, h7, h8, ?_, hTe, ?_, ?_, ?_, (sb.2 _ hTe).trans (Qw _ rfl), rfl, rfl, Zu2⟩
  rotate_left
  ·show (vs.setIfInBounds 1 (Value.ref h₁.objs.size))[1]? = some (Value.ref h₁.objs.size)
   have : 1 < vs.size := Qkxl Qr h5 rfl
   simp [this]
  rotate_right
  ·rintro ⟨q1, q2⟩
   refine hz ⟨?_, ?_⟩
   ·rw [Obj.cls_mapFields] at q1; exact q1
   ·exact .inr ⟨_, h4⟩
  ·intro hm
   exact Qe (RC.phiLt hm) (Q6 _)
  ·cases q : c.B.get? h₁.objs.size with
   | none => rfl
   | some o => exact Qe (Qx (RC.keep _ o q)) (Q6 _)
  ·intro q
   obtain ⟨oq, hq⟩ := hn _ q
   exact Qe (Qx hq) (Qi (Qj NB.side.size NC.side.size))
 unfold noteFrame
 simp only [hL]
 rcases h9 with h9 | ⟨T, oT, ts, a1, a2, a3, a4, a5, a6, a7, a8, a9⟩
 ·refine Qb (wpAny_field h2 h4 h9 ?_)
  rw [Qq (by decide)]
  exact entry s R _ _ ⟨⟨Qr, λ _ _ h => .inl h⟩, λ _ x => x⟩ h2 hQ
 ·refine Qb (wpAny_field h2 h4 a1 ?_)
  rw [Qo (show (Value.ref T != Value.none) = true from by simp)]
  obtain ⟨x3, hx3⟩ : ∃ x3, ts[3]? = some x3 := ⟨_, Array.getElem?_eq_getElem a9⟩
  refine Qb (wpAny_field a6 a8 hx3 ?_)
  cases hq : (x3 == rawInt L) with
  | true =>
   rw [Qo rfl]
   exact Qp (hQ _ ⟨⟨Qr, λ _ _ h => .inl h⟩, λ _ x => x⟩ ⟨ea, oe, vs, T, oT, ts, rfl, h2, h3, hz, h4, h5, h6, h7, h8, a1, a2, a3, a4, a5, a6, a7, a8, a9⟩)
  | false =>
   rw [Qq Qt]
   have hzT : ¬ FzO oT := Zfy a7 (by decide) (by decide) (by decide) (by decide)
   refine Qb (wpAny_setField a6 a8 a9 ?_)
   have sb := Heap.SameBut.update s.heap T (Obj.mapFields (·.setIfInBounds 3 Value.none))
   have NB : ExcN c F n φ s.heap (s.heap.update T (Obj.mapFields (·.setIfInBounds 3 Value.none))) := ExcN.one a6 hzT a8 a3 a4 a5 ⟨_, Q1 _ a6 (Obj.isFreed_of_fields (Obj.data_mapFields a8 _))⟩ sb
   exact entry { s with heap := s.heap.update T (Obj.mapFields (·.setIfInBounds 3 Value.none)) } (R.side (tk := s.toks) NB.side) _ _ NB ((sb.2 ea (Ne.symm a2)).trans h2) hQ
theorem Zeg {A : Around} {n : Addr -> Prop} {e x : Value} {fl : Option Addr} {E : Value -> Shared -> Prop} {Q : Unit -> Shared -> Prop} (R : Rep c F φ μ s) (hx : ExcT c n φ s.heap e x)
  (hQ : ∀ h', ExcN c F n φ s.heap h' -> ExcT c n φ h' e x -> Q () { s with heap := h' }) : wpAny (model c.prog c.w) A (setFlight e fl) Q E s := by
 obtain ⟨ea, oe, vs, T, oT, ts, rfl, h2, h3, hz, h4, h5, h6, h7, h8, a1, a2, a3, a4, a5, a6, a7, a8, a9⟩ := hx
 have hzT : ¬ FzO oT := Zfy a7 (by decide) (by decide) (by decide) (by decide)
 unfold setFlight
 refine Qb (wpAny_field h2 h4 a1 ?_)
 rw [Qo (show (Value.ref T != Value.none) = true from by simp)]
 refine wpAny_setField a6 a8 a9 ?_
 have sb := Heap.SameBut.update s.heap T (Obj.mapFields (·.setIfInBounds 3 (fl.elim Value.none λ f => rawInt f)))
 have hd4 := Obj.data_mapFields a8 (·.setIfInBounds 3 (fl.elim Value.none λ f => rawInt f))
 exact hQ _ (ExcN.one a6 hzT a8 a3 a4 a5 ⟨_, Q1 _ a6 (Obj.isFreed_of_fields hd4)⟩ sb) ⟨ea, oe, vs, T, _, _, rfl, (sb.2 ea (Ne.symm a2)).trans h2, h3, hz, h4, h5, h6, h7, h8, a1, a2, a3, a4, a5, Q1 _ a6 (Obj.isFreed_of_fields hd4), (Obj.cls_mapFields _ _).trans a7, hd4, by simpa using a9⟩
end

theorem Ziv {M : Model} {Γ : Ctx} {p : Pos} {t : Sem Fin} {fs : List Frame} {s s' : Shared} {e : End} (h : Runs M Γ p t fs s e s') : s.heap.objs.size <= s'.heap.objs.size := by
 induction h <;> first | assumption | exact Qr | exact Qj ‹_› ‹_› | ((try simp only [Shared.setGen, Heap.size_after_update, Xg] at *) <;> lia)theorem Zn4 {M : Model} {Γ : Ctx} {p : Pos} {s s' : Shared} {r : Result} (h : Returns M Γ p s r s') : s.heap.objs.size <= s'.heap.objs.size := Ziv h
theorem Zr7 {M : Model} {Γ : Ctx} {p : Pos} {g : Nat} {r : Resume} {s s' : Shared} {res : GenResult} (h : Wakes M Γ p g r s res s') : s.heap.objs.size <= s'.heap.objs.size := by
 unfold Wakes at h
 have k : ∀ {q : Prop}, q ∧ s' = s -> s.heap.objs.size <= s'.heap.objs.size := λ h => by rw [h.2]; exact Qr
 cases hg : s.gens[g]? with
 | none => rw [hg] at h; exact h.elim
 | some st =>
  rw [hg] at h
  cases st with
  | fresh c => cases r with
   | send v =>
    cases v
    case none => obtain ⟨eB, s1, hr, _, _, rfl⟩ := h; exact (Ziv hr : (s.setGen g .running).heap.objs.size <= s1.heap.objs.size)
    all_goals exact k h
   | throw x => rw [h.2]; exact Qr
  | suspended => obtain ⟨eB, s1, hr, _, _, rfl⟩ := h; exact (Ziv hr : (s.setGen g .running).heap.objs.size <= s1.heap.objs.size)
  | running => exact k h
  | finished => exact k h
theorem Zwt {α : Type} (M : Model) (Γ : Ctx) (n : Nat) (t : Sem α) : ∀ (Q : α -> Pos -> Shared -> Prop) (E : Value -> Pos -> Shared -> Prop) (p : Pos) (s : Shared), n <= s.heap.objs.size -> Sem.wp M Γ t Q E p s ->
  Sem.wp M Γ t (λ a p' s' => n <= s'.heap.objs.size ∧ Q a p' s') (λ e p' s' => n <= s'.heap.objs.size ∧ E e p' s') p s := by
 induction t with
 | pure a => intro Q E p s hn h; exact ⟨hn, h⟩
 | raise e => intro Q E p s hn h; exact ⟨hn, h⟩
 | unsupported _ => intro Q E p s _ h; exact h
 | finish _ => intro Q E p s _ h; exact h
 | rule _ k ih => intro Q E p s hn h; exact ih () Q E p s hn h
 | «at» p' k ih => intro Q E p s hn h; exact ih () Q E p' s hn h
 | load a _ k ih => intro Q E p s hn h; obtain ⟨o, ho, h⟩ := h; exact ⟨o, ho, ih o Q E p s hn h⟩
 | update a _ f k ih => intro Q E p s hn h; exact ⟨h.1, ih () Q E p _ (by rw [Heap.size_after_update]; exact hn) h.2⟩
 | loadIfAlive a k ih => intro Q E p s hn h; exact ih _ Q E p s hn h
 | point _ k ih => intro Q E p s hn h; exact ih () Q E p s hn h
 | register _ _ => intro Q E p s _ h; exact h
 | alloc o k ih => intro Q E p s hn h; exact ih _ Q E p _ (by rw [Xg]; exact Nat.le_succ_of_le hn) h
 | fresh k ih => intro Q E p s hn h; exact ih _ Q E p _ hn h
 | ask k ih => intro Q E p s hn h; exact ih _ Q E p s hn h
 | choose src m k ih => intro Q E p s hn h; exact ⟨h.1, ih _ Q E p _ hn h.2⟩
 | os q _ k ih => intro Q E p s hn h; exact ih _ Q E p _ hn h
 | call c hd _ _ k ih => intro Q E p s hn h; obtain ⟨r, s', hr, h⟩ := h; exact ⟨r, s', hr, ih r Q E p s' (Qj hn (Zn4 hr)) h⟩
 | handled own k ih => intro Q E p s hn h; exact ih _ Q E p s hn h
 | genState g k ih => intro Q E p s hn h; obtain ⟨st, hs, h⟩ := h; exact ⟨st, hs, ih _ Q E p s hn h⟩
 | newGen c k ih => intro Q E p s hn h; exact ih _ Q E p _ hn h
 | resume g r _ k ih => intro Q E p s hn h; obtain ⟨res, s', hw, h⟩ := h; exact ⟨res, s', hw, ih res Q E p s' (Qj hn (Zr7 hw)) h⟩
 | yield _ _ _ _ => intro Q E p s _ h; exact h
 | stack k ih => intro Q E p s hn h; exact ih _ Q E p s hn h
 | fork _ _ => intro Q E p s _ h; exact h
 | thread k ih => intro Q E p s hn h; exact ih _ Q E p s hn h
 | await _ _ _ _ _ => intro Q E p s _ h; exact h
theorem Zbl {α : Type} {M : Model} {A : Around} {s : Shared} {t : Sem α} {Q : α -> Shared -> Prop} {E : Value -> Shared -> Prop}
  (h : wpAny M A t (λ a s' => s.heap.objs.size <= s'.heap.objs.size -> Q a s') (λ e s' => s.heap.objs.size <= s'.heap.objs.size -> E e s') s) : wpAny M A t Q E s :=
 λ Γ p hΓ => Sem.wp_mono M Γ t (λ _ _ _ x => x.2 x.1) (λ _ _ _ x => x.2 x.1) _ _ (Zwt M Γ _ t _ _ p s Qr (h Γ p hΓ))
section
variable {c : Cx} {F : Fx}
theorem Ztp {A : Around} {n : Addr -> Prop} {φ : List Addr} {μ : St} {s : Shared} {e x : Value} {E : Value -> Shared -> Prop} (R : Rep c F φ μ s) (hx : ExcT c n φ s.heap e x)
  (hE : ∀ h', ExcN c F n φ s.heap h' -> ExcT c n φ h' e x -> E e { s with heap := h' }) : cameBackBy (model c.prog c.w) A F.env E e s := by
 unfold cameBackBy
 obtain ⟨ea, oe, vs, T, oT, ts, rfl, h2, h3, hz, h4, h5, h6, h7, h8, a1, r⟩ := id hx
 refine Qb (wpAny_field h2 h4 a1 ?_)
 rw [Qq (show ¬ ((Value.ref T == Value.none) = true) from by simp)]
 exact Zeg R hx hE
theorem Zu3 {A : Around} {n : Addr -> Prop} {φ : List Addr} {μ : St} {s : Shared} {e x : Value} {outer : List Env} {E : Value -> Shared -> Prop} (hA : ACtx F A) (hfr : F.frames = F.env :: outer) (R : Rep c F φ μ s) (hx : ExcR c n φ s.heap e x) (hn : ∀ a, n a -> dom s.heap a)
  (hE : ∀ h', ExcN c F n φ s.heap h' -> ExcT c n φ h' e x -> E e { s with heap := h' }) : notedBy (model c.prog c.w) A F.env E e s := Zhp hA R hfr hx hE hn
theorem Zkq {A : Around} {φ φ0 : List Addr} {h₀ : Heap} {μ : St} {s : Shared} {e x : Value} {outer : List Env} {E : Value -> Shared -> Prop} (hA : ACtx F A) (hfr : F.frames = F.env :: outer) (R : Rep c F φ μ s) (hx : ExcR c (dom h₀) φ s.heap e x)
  (xA : Ext F.nss F.cls φ0 h₀ φ s.heap) (hE : ∀ s', Rep c F φ μ s' -> Ext F.nss F.cls φ0 h₀ φ s'.heap -> ExcR c (dom h₀) φ s'.heap e x -> E e s') :
  notedBy (model c.prog c.w) A F.env (λ e s' => cameBackBy (model c.prog c.w) A F.env E e s') e s :=
 Zu3 hA hfr R hx xA.dom λ h₁ NB TB => Ztp (s := { s with heap := h₁ }) (R.side (tk := s.toks) NB.side) TB λ h₂ NC TC =>
  hE { s with heap := h₂ } ((R.side (tk := s.toks) NB.side).side (tk := s.toks) NC.side) (NC.ext (λ _ q => q) (NB.ext (λ _ q => q) xA)) TC.r
theorem Zmy {test : Expr} {body orelse : List Stmt} {pos : Pos} {outer : List Env} {t : PM Bool} {f g : PM MF} (hfr : F.frames = F.env :: outer) (n : Nat) (ht : Zer c F test t) (hb : Zbx c F body f) (he : Zbx c F orelse g) :
  Zaz c F (.While test body orelse pos) (Zda t f g n) := by
 intro A φ μ s Q E hA R p
 refine gen λ O hO hbad hQ hE => ?_
 refine wpAny_While ?_
 refine codeAny_whileLoop (λ m s' => ∃ φ' μ', Rep c F φ' μ' s' ∧ Ext F.nss F.cls φ s.heap φ' s'.heap ∧ Zda t f g m μ' = O) ?_ n ⟨φ, μ, R, Ext.refl, hO⟩
 rintro m s1 ⟨φ1, μ1, RB, xB, eB⟩
 cases m with
 | zero => exact (hbad eB.symm).elim
 | succ m =>
  rw [Zko] at eB
  have exc : ∀ e x φ' μ' s', O = .exc x μ' -> Rep c F φ' μ' s' -> Ext F.nss F.cls φ s.heap φ' s'.heap -> ExcR c (dom s.heap) φ' s'.heap e x -> notedBy (model c.prog c.w) A F.env (λ e s' => cameBackBy (model c.prog c.w) A F.env E e s') e s' :=
   λ e x φ' μ' s' ho R' x' r => Zkq hA hfr R' r x' λ s'' R'' x'' r'' => hE e x φ' μ' s'' ho R'' x'' r''
  refine ht.use hA RB trivial (by rw [eB]; exact hbad) (λ e x φ' μ' s' ho R' x' r => exc e x φ' μ' s' (eB.symm.trans ho) R' (xB.trans x') (r.le xB.dom)) λ a b φC μ2 sC eg RC xC rC => ?_
  subst rC
  rw [eg] at eB
  have x12 := xB.trans xC
  cases a with
  | true =>
   simp only [if_true] at eB
   rw [Qo rfl]
   refine hb.use hA RC trivial (by rw [eB]; exact hbad) (λ e x φ' μ' s' ho R' x' r => exc e x φ' μ' s' (eB.symm.trans ho) R' (x12.trans x') (r.le x12.dom)) λ a b φD μD sD eg RD xD rD => ?_
   rw [eg] at eB
   have x13 := x12.trans xD
   induction rD using FR.cs with
   | next => exact ⟨m, Nat.lt_succ_self _, φD, μD, RD, x13, eB⟩
   | cont => exact ⟨m, Nat.lt_succ_self _, φD, μD, RD, x13, eB⟩
   | brk => exact hQ _ _ φD μD sD eB.symm RD x13 .next
   | ret r => exact hQ _ _ φD μD sD eB.symm RD x13 (.ret r)
  | false =>
   simp only [Bool.false_eq_true, if_false] at eB
   rw [Qq Qt]
   refine he A φC μ2 sC _ _ hA RC trivial (by rw [eB]; exact hbad) (λ a b φD μD sD e₃ RD xD rD => hQ a b φD μD sD (eB.symm.trans e₃) RD (x12.trans xD) rD) λ e x φ' μ' s' ho R' x' r => exc e x φ' μ' s' (eB.symm.trans ho) R' (x12.trans x') (r.le x12.dom)
end

structure ItP (c : Cx) (F : Fx) (it : Addr) (ob : Nat -> Obj -> Prop) (v : Value) (pv : PV) (get : Nat -> St -> Option (Option PV)) : Prop where
 data : ∀ k o, ob k o -> (∃ vs, o.data = .fields vs) ∧ ¬ FzO o
 next : ∀ (k : Nat) (A : Around) (φ : List Addr) (μ : St) (s : Shared) (Q : Option Value -> Shared -> Prop) (E : Value -> Shared -> Prop), ACtx F A -> Rep c F φ μ s -> (∃ o, s.heap.get? it = some o ∧ ob k o) -> VR φ s.heap v pv ->
  (get k μ = some none -> ∀ h' tk, Heap.ExtBut it s.heap h' -> Q none { s with heap := h', toks := tk }) ->
  (∀ x, get k μ = some (some x) -> ∀ w h' tk, (∃ o, h'.get? it = some o ∧ ob (k + 1) o) -> Heap.ExtBut it s.heap h' -> VR φ h' w x -> Q (some w) { s with heap := h', toks := tk }) ->
  get k μ ≠ none -> wpAny (model c.prog c.w) A (pyNext (.ref it)) Q E s
set_option backward.eqns.nonrecursive false
def Zdy (get : Nat -> St -> Option (Option PV)) (asg : PV -> PM Unit) (body : PM MF) : Nat -> Nat -> PM MF
 | 0, _ => PM.I
 | n + 1, k => λ μ => match get k μ with
  | none => .bad
  | some none => .ok .next μ
  | some (some x) => (asg x >>= λ _ => body >>= Zet (Zdy get asg body n (k + 1))) μ
set_option backward.eqns.nonrecursive true
theorem Zg9 {get : Nat -> St -> Option (Option PV)} {asg : PV -> PM Unit} {body : PM MF} {n k : Nat} : Zdy get asg body (n + 1) k = λ μ => match get k μ with | none => .bad | some none => .ok .next μ | some (some x) => (asg x >>= λ _ => body >>= Zet (Zdy get asg body n (k + 1))) μ := rfl
section
variable {c : Cx} {F : Fx}
theorem Side.extBut {φ : List Addr} {s : Shared} {h' : Heap} {it : Addr} {o : Obj} (ho : s.heap.get? it = some o) (hz : ¬ FzO o) (hd : ∃ vs, o.data = .fields vs) (hn : it ∉ φ) (hb : c.B.get? it = none) (hs : Heap.ExtBut it s.heap h') (size : s.heap.objs.size <= h'.objs.size) : Side c F φ s.heap h' := by
 refine ⟨size, λ a oa ha => ?_⟩
 by_cases e : a = it
 ·subst e
  rw [ho] at ha; cases ha
  exact .inr (.inr ⟨hz, hd, hn, hb⟩)
 ·exact .inl (hs a oa e ha)
set_option backward.eqns.nonrecursive false
noncomputable def goQ (c : Cx) (A : Around) (target : Expr) (it : Addr) (Q : Shared -> Prop) (Q' : Value -> Shared -> Prop) (E : Value -> Shared -> Prop) : Option Value -> Shared -> Prop
 | none, s => Q s
 | some w, s => wpAny (model c.prog c.w) A (letOwnedTupleGo target (.ref it) w) (λ _ s => Q' w s) E s
structure TnP (c : Cx) (F : Fx) (target : Expr) (it : Addr) (ob : Nat -> Obj -> Prop) (v : Value) (pv : PV) (get : Nat -> St -> Option (Option PV)) : Prop where
 data : ∀ k o, ob k o -> (∃ vs, o.data = .fields vs) ∧ ¬ FzO o
 turn : ∀ (k : Nat) (A : Around) (φ : List Addr) (μ : St) (s : Shared) (Q : Shared -> Prop) (Q' : Value -> Shared -> Prop) (E : Value -> Shared -> Prop), ACtx F A -> Rep c F φ μ s -> (∃ o, s.heap.get? it = some o ∧ ob k o) -> VR φ s.heap v pv ->
  (get k μ = some none -> ∀ h' tk, Heap.ExtBut it s.heap h' -> s.heap.objs.size <= h'.objs.size -> Q { s with heap := h', toks := tk }) ->
  (∀ x, get k μ = some (some x) -> ∀ w h' tk, (∃ o, h'.get? it = some o ∧ ob (k + 1) o) -> Heap.ExtBut it s.heap h' -> VR φ h' w x -> s.heap.objs.size <= h'.objs.size -> Q' w { s with heap := h', toks := tk }) ->
  get k μ ≠ none -> wpAny (model c.prog c.w) A (pyNext (.ref it)) (goQ c A target it Q Q' E) E s
theorem ItP.turns {target : Expr} {it : Addr} {ob : Nat -> Obj -> Prop} {v : Value} {pv : PV} {get : Nat -> St -> Option (Option PV)} (hI : ItP c F it ob v pv get) (hlet : ∀ k w (A : Around) (s : Shared) (Q : Unit -> Shared -> Prop) (E : Value -> Shared -> Prop), (∃ o, s.heap.get? it = some o ∧ ob k o) -> Q () s -> wpAny (model c.prog c.w) A (letOwnedTupleGo target (.ref it) w) Q E s) : TnP c F target it ob v pv get :=
 ⟨hI.data, λ k A φ μ s Q Q' E hA R hit hr hn hi hb => Zbl (hI.next k A φ μ s _ _ hA R hit hr (λ hg h' tk hs size => hn hg h' tk hs size) (λ x hg w h' tk hit' hs hw size => hlet (k + 1) w A _ _ _ hit' (hi x hg w h' tk hit' hs hw size)) hb)⟩
structure FI (c : Cx) (F : Fx) (it : Addr) (ob : Nat -> Obj -> Prop) (v : Value) (pv : PV) {β : Type} (f : Nat -> PM β) (O : Out β) (φ0 : List Addr) (h₀ : Heap) (k : Nat) (φ : List Addr) (μ : St) (s : Shared) : Prop where
 R : Rep c F φ μ s
 x : Ext F.nss F.cls φ0 h₀ φ s.heap
 hit : ∃ o, s.heap.get? it = some o ∧ ob k o
 nin : it ∉ φ
 hv : VR φ s.heap v pv
 eq : f k μ = O
theorem FI.step {it : Addr} {ob : Nat -> Obj -> Prop} {v : Value} {pv : PV} (hI : ∀ k o, ob k o -> (∃ vs, o.data = .fields vs) ∧ ¬ FzO o) {β : Type} {f : Nat -> PM β} {O : Out β} {φ0 : List Addr} {h₀ : Heap} {k : Nat} {φ : List Addr} {μ : St} {s : Shared}
  (I : FI c F it ob v pv f O φ0 h₀ k φ μ s) (hnew : h₀.objs.size <= it) (hitB : c.B.get? it = none) {h' : Heap} {tk : Nat} (hs : Heap.ExtBut it s.heap h') (size : s.heap.objs.size <= h'.objs.size) :
  Rep c F φ μ { s with heap := h', toks := tk } ∧ Ext F.nss F.cls φ0 h₀ φ h' ∧ (∀ w x, VR φ s.heap w x -> VR φ h' w x) := by
 obtain ⟨o1, hio1, hob1⟩ := I.hit
 obtain ⟨hdt, hz⟩ := hI k o1 hob1
 have S : Side c F φ s.heap _ := Side.extBut hio1 hz hdt I.nin hitB hs size
 refine ⟨I.R.side S, I.x.after size (λ a o ho => ?_) (λ a hd ⟨o, ho⟩ => ?_), λ w x r => S.mv I.R r⟩
 ·by_cases e : a = it
  ·exact .inr (.inr λ ⟨oq, hq⟩ => Qe (Qx hq) (Qi (e ▸ hnew)))
  ·exact .inl (hs a o e ho)
 ·by_cases e : a = it
  ·obtain ⟨oq, hq⟩ := hd
   exact Qe (Qx hq) (Qi (e ▸ hnew))
  ·exact ⟨o, hs a o e ho⟩
theorem FI.hold {it : Addr} {ob : Nat -> Obj -> Prop} (hI : ∀ k o, ob k o -> (∃ vs, o.data = .fields vs) ∧ ¬ FzO o) {k : Nat} {φ φ' : List Addr} {μ : St} {s s' : Shared} (R : Rep c F φ μ s) (hit : ∃ o, s.heap.get? it = some o ∧ ob k o) (nin : it ∉ φ)
  (x : Ext F.nss F.cls φ s.heap φ' s'.heap) : (∃ o, s'.heap.get? it = some o ∧ ob k o) ∧ it ∉ φ' := by
 obtain ⟨oC, hio2, hob2⟩ := hit
 obtain ⟨⟨vs, hvs⟩, hz⟩ := hI k oC hob2
 have hown := R.notOwn hio2 (.inr ⟨vs, hvs⟩)
 refine ⟨?_, x.nin hio2 nin⟩
 rcases x.old it _ hio2 nin hown.1 hown.2 with q | ⟨⟨es, ep, q⟩, _⟩
 ·exact ⟨oC, q, hob2⟩
 ·rw [hvs] at q; cases q
theorem Zqd {target : Expr} {body : List Stmt} {outer : List Env} {it : Addr} {ob : Nat -> Obj -> Prop} {v : Value} {pv : PV} {get : Nat -> St -> Option (Option PV)} {asg : PV -> PM Unit} {g : PM MF} (hfr : F.frames = F.env :: outer)
  (hI : TnP c F target it ob v pv get)
  (hasg : ∀ w x, Sim c F (λ φ h => VR φ h w x) (λ _ _ _ _ => True) (assign target F.env w) (asg x)) (hbody : Zbx c F body g)
  {A : Around} {φ0 φ : List Addr} {s0 : Shared} {μ : St} {s : Shared} {Q : Flow -> Shared -> Prop} {E : Value -> Shared -> Prop} (hA : ACtx F A) (n k : Nat) {O : Out MF} (I : FI c F it ob v pv (Zdy get asg g n) O φ0 s0.heap k φ μ s)
  (hnew : s0.heap.objs.size <= it) (hitB : c.B.get? it = none) (hbad : O ≠ .bad) (hQ : OkK c F FR φ0 s0 Q O) (hE : ExK c F φ0 s0 E O) :
  codeAny (model c.prog c.w) A (.forLoop target (.ref it) body [] F.env) (λ r s' => match r with | .ok f => Q f s' | .error e => cameBackBy (model c.prog c.w) A F.env E e s') s := by
 refine codeAny_forLoop_any (λ m s' => ∃ k' φ' μ', FI c F it ob v pv (Zdy get asg g m) O φ0 s0.heap k' φ' μ' s') ?_ n ⟨k, φ, μ, I⟩
 rintro m s1 ⟨kB, φ1, μ1, I⟩
 cases m with
 | zero => exact (hbad I.eq.symm).elim
 | succ m =>
  have eB := I.eq
  rw [Zg9] at eB
  dsimp only at eB
  refine wpAny_mono (hI.turn kB A φ1 μ1 s1 _ _ _ hA I.R I.hit I.hv (λ hg h' tk hs size => ?_) (λ x hg w h' tk hit' hs hw size => ?_) (λ hg => hbad (by rw [<- eB, hg]))) (λ r s h => by cases r <;> exact h) λ _ _ h => h
  ·obtain ⟨RC, xC, _⟩ := I.step hI.data hnew hitB (tk := tk) hs size
   refine wpAny_execs_nil ?_
   rw [hg] at eB
   exact hQ _ _ _ _ _ eB.symm RC xC .next
  ·obtain ⟨RC, xC, mv⟩ := I.step hI.data hnew hitB (tk := tk) hs size
   rw [hg] at eB
   dsimp only at eB
   have nin := I.nin
   have hv2 := mv _ _ I.hv
   clear mv
   clear I
   have exc : ∀ e y φ' μ' s', O = .exc y μ' -> Rep c F φ' μ' s' -> Ext F.nss F.cls φ0 s0.heap φ' s'.heap -> ExcR c (dom s0.heap) φ' s'.heap e y -> notedBy (model c.prog c.w) A F.env (λ e s' => cameBackBy (model c.prog c.w) A F.env E e s') e s' :=
    λ e y φ' μ' s' ho R' x' r => Zkq hA hfr R' r x' λ s'' R'' x'' r'' => hE e y φ' μ' s'' ho R'' x'' r''
   refine (hasg w x).use hA RC hw (by rw [eB]; exact hbad) (λ e y φ' μ' s' ho R' x' r => exc e y φ' μ' s' (eB.symm.trans ho) R' (xC.trans x') (r.le xC.dom)) λ a b φD μD sD eg RD xD _ => ?_
   rw [eg] at eB
   refine hbody.use hA RD trivial (by rw [eB]; exact hbad) (λ e y φ' μ' s' ho R' x' r => exc e y φ' μ' s' (eB.symm.trans ho) R' (xC.trans (xD.trans x')) (r.le (xC.trans xD).dom)) λ a b φ4 μ4 s4 eg R4 xE r4 => ?_
   rw [eg] at eB
   have hv4 : VR φ4 s4.heap v pv := (hv2.ext RC xD).ext RD xE
   obtain ⟨h4, n4⟩ := FI.hold hI.data RC hit' nin (xD.trans xE)
   have x24 := xC.trans (xD.trans xE)
   induction r4 using FR.cs with
   | next => exact ⟨m, Nat.lt_succ_self _, kB + 1, φ4, μ4, R4, x24, h4, n4, hv4, eB⟩
   | cont => exact ⟨m, Nat.lt_succ_self _, kB + 1, φ4, μ4, R4, x24, h4, n4, hv4, eB⟩
   | brk => exact hQ _ _ φ4 μ4 s4 eB.symm R4 x24 .next
   | ret r => exact hQ _ _ φ4 μ4 s4 eB.symm R4 x24 (.ret r)
end

section
variable {c : Cx} {F : Fx}
set_option backward.eqns.nonrecursive false
noncomputable def getO (o0 o : Option MO) (k : Nat) : Option (Option PV) := match o0 with
 | some (.lst _) => (match o with
  | some (.lst xs) => some xs[k]?
  | _ => none)
 | some (.dct es0 ep0) => (match o with
  | some (.dct es ep) => if es.length = es0.length ∧ ep = ep0 then some ((es[k]?).map λ e => .int e.1) else none
  | _ => none)
 | _ => none
def Zam (pv : PV) (μ0 : St) (k : Nat) (μ : St) : Option (Option PV) := match pv with
 | .lst xs => some xs[k]?
 | .tup xs => some xs[k]?
 | .rng a b st => if Builtin.Range.small a b st then (if (k : Int) < Builtin.Range.rangeSize a b st then some (some (.int (a + k * st))) else some none) else none
 | .obj i => getO μ0.hp[i]? μ.hp[i]? k
 | _ => none
set_option backward.eqns.nonrecursive true
theorem Zdq {o : Obj} {n : String} (h : o.cls = .type n) (h1 : n ≠ "tuple") (h2 : n ≠ "list") (h3 : n ≠ "range") (h4 : n ≠ "method-wrapper") (h5 : n ≠ "dict_values" := by decide) : ¬ FzO o := Zfy h h1 h2 h3 h4 h5
theorem Zn5 {l : Addr} {pv : PV} {it : Addr} {get : Nat -> St -> Option (Option PV)}
  (hg : ∀ φ μ s k, Rep c F φ μ s -> VR φ s.heap (.ref l) pv -> get k μ ≠ none -> ∃ vs xs, s.heap.IsList l vs.toArray ∧ VRs φ s.heap vs xs ∧ get k μ = some xs[k]?) (hl : it ≠ l ∨ True) (hh : F.hd = true) :
  ItP c F it (λ k o => o.cls = .type "list_iterator" ∧ o.data = .fields #[.ref l, .int k 0]) (.ref l) pv get := by
 refine ⟨λ k o h => ⟨⟨_, h.2⟩, Zdq h.1 (by decide) (by decide) (by decide) (by decide)⟩, λ k A φ μ s Q E hA R hit hv hn hi hb => ?_⟩
 obtain ⟨o, ho, hc, hd⟩ := hit
 obtain ⟨vs, xs, hL, hvs, hget⟩ := hg φ μ s k R hv hb
 cases hx : xs[k]? with
 | none =>
  have : vs[k]? = none := by
   rw [List.getElem?_eq_none_iff] at hx ⊢
   rw [hvs.length]; exact hx
  exact wpAny_pyNext_list_end (hA.handled hh) ⟨o, ho, hc, hd⟩ hL (by simpa using this) λ h' hs => hn (by rw [hget, hx]) h' s.toks hs
 | some x =>
  obtain ⟨w, hw, hr⟩ := hvs.get hx
  refine wpAny_pyNext_list_item ⟨o, ho, hc, hd⟩ hL (by simpa using hw) λ h' hit' hs => hi x (by rw [hget, hx]) w h' s.toks ?_ hs.extBut ?_
  ·obtain ⟨o', ho', hc', hd'⟩ := hit'
   exact ⟨o', ho', hc', hd'⟩
  ·refine hr.move (λ _ _ e => e) (λ _ _ _ h => h) λ a oa ha _ hz => (hs.2 a λ e => ?_).trans ha
   subst e
   rw [ho] at ha; cases ha
   exact Zdq hc (by decide) (by decide) (by decide) (by decide) (by decide) hz
theorem Ztq {l : Addr} {xs : List PV} {it : Addr} (hh : F.hd = true) :
  ItP c F it (λ k o => o.cls = .type "tuple_iterator" ∧ o.data = .fields #[.ref l, .int k 0]) (.ref l) (.tup xs) (λ k _ => some xs[k]?) := by
 refine ⟨λ k o h => ⟨⟨_, h.2⟩, Zdq h.1 (by decide) (by decide) (by decide) (by decide)⟩, λ k A φ μ s Q E hA R hit hv hn hi hb => ?_⟩
 obtain ⟨o, ho, hc, hd⟩ := hit
 obtain ⟨vs, n, h1, h4, hvs⟩ := hv.inv_tup rfl rfl
 ·
  cases hx : xs[k]? with
  | none =>
   have : vs[k]? = none := by
    rw [List.getElem?_eq_none_iff] at hx ⊢
    rw [hvs.length]; exact hx
   exact wpAny_pyNext_tuple_end (hA.handled hh) ⟨o, ho, hc, hd⟩ ⟨_, h1, rfl, _, rfl⟩ (by simpa using this) λ h' hs => hn (by rw [hx]) h' s.toks hs
  | some x =>
   obtain ⟨w, hw, hr⟩ := hvs.get hx
   refine wpAny_pyNext_tuple_item ⟨o, ho, hc, hd⟩ ⟨_, h1, rfl, _, rfl⟩ (by simpa using hw) λ h' hit' hs => hi x (by rw [hx]) w h' s.toks ?_ hs.extBut ?_
   ·obtain ⟨o', ho', hc', hd'⟩ := hit'
    exact ⟨o', ho', hc', hd'⟩
   ·refine hr.move (λ _ _ e => e) (λ _ _ _ h => h) λ a oa ha _ hz => (hs.2 a λ e => ?_).trans ha
    subst e
    rw [ho] at ha; cases ha
    exact Zdq hc (by decide) (by decide) (by decide) (by decide) (by decide) hz
theorem Ztr {r : Addr} {a b st : Int} {it : Addr} {v : Value} {pv : PV} (hh : F.hd = true) :
  ItP c F it (λ k o => o = { cls := .type "range_iterator", dict := none, data := .fields #[rawInt (a + k * st), rawInt (Builtin.Range.rangeSize a b st - k), rawInt st], slots := #[] }) v pv
   (λ k _ => if (k : Int) < Builtin.Range.rangeSize a b st then some (some (.int (a + k * st))) else some none) := by
 refine ⟨λ k o h => by subst h; exact ⟨⟨_, rfl⟩, Zdq (n := "range_iterator") rfl (by decide) (by decide) (by decide) (by decide)⟩, λ k A φ μ s Q E hA R hit hv hn hi hb => ?_⟩
 obtain ⟨o, ho, rfl⟩ := hit
 by_cases hk : (k : Int) < Builtin.Range.rangeSize a b st
 ·refine wpAny_pyNext_range_item ho (by lia) λ h' hit' hs => hi (.int (a + k * st)) (by rw [Qo hk]) _ h' _ ⟨_, hit', ?_⟩ hs.extBut (.int _ _)
  have e1 : a + (k : Int) * st + st = a + ((k + 1 : Nat) : Int) * st := by rw [Int.natCast_add, Int.add_mul]; lia
  have e2 : Builtin.Range.rangeSize a b st - k - 1 = Builtin.Range.rangeSize a b st - ((k + 1 : Nat) : Int) := by lia
  rw [e1, e2]
 ·exact wpAny_pyNext_range_end (hA.handled hh) ho (by lia) λ h' hs => hn (by rw [Qq hk]) h' s.toks hs
theorem Zq4 {φ : List Addr} {h : Heap} {kvs : List (Int × Value)} {es : List (Int × PV)} (r : DRs φ h kvs es) : ∀ {k : Nat} {e : Int × PV}, es[k]? = some e -> ∃ v, kvs[k]? = some (e.1, v) ∧ VR φ h v e.2 := by
 induction r with
 | nil => exact λ e => nomatch e
 | cons a b ih =>
  intro k e q
  cases k with
  | zero => cases q; exact ⟨_, rfl, a⟩
  | succ k => exact ih (k := k) q
theorem Zf5 {φ : List Addr} {h : Heap} {kvs : List (Int × Value)} {es : List (Int × PV)} (r : DRs φ h kvs es) : kvs.length = es.length := by
 induction r with
 | nil => rfl
 | cons _ _ ih => exact congrArg Nat.succ ih
theorem Zu4 {d : Addr} {i n ep : Nat} {it : Addr} {get : Nat -> St -> Option (Option PV)}
  (hg : ∀ k μ, get k μ ≠ none -> ∃ es, μ.hp[i]? = some (.dct es ep) ∧ es.length = n ∧ get k μ = some ((es[k]?).map λ e => .int e.1)) (hh : F.hd = true) :
  ItP c F it (λ k o => o.cls = .type "dict_keyiterator" ∧ o.data = .fields #[.ref d, .int k 0, .int n 0, .int ep 0]) (.ref d) (.obj i) get := by
 refine ⟨λ k o h => ⟨⟨_, h.2⟩, Zdq h.1 (by decide) (by decide) (by decide) (by decide)⟩, λ k A φ μ s Q E hA R hit hv hn hi hb => ?_⟩
 obtain ⟨o, ho, hc, hd⟩ := hit
 obtain ⟨es, hes, hlen, hget⟩ := hg k μ hb
 have h1 := hv.inv_obj rfl rfl
 ·
  have q := R.objs i d _ h1 hes
  obtain ⟨kvs, k1, k2⟩ := q.inv_dct rfl
  ·
   have hkl : kvs.length = n := by rw [Zf5 k2, hlen]
   subst hkl
   cases hx : es[k]? with
   | none =>
    have : kvs[k]? = none := by
     rw [List.getElem?_eq_none_iff] at hx ⊢
     exact Qek hlen.symm hx
    exact wpAny_pyNext_dict_end (knd := intKind c.prog c.w) (hA.handled hh) ⟨o, ho, hc, hd⟩ k1 this λ h' hs => hn (by rw [hget, hx]; rfl) h' s.toks hs
   | some e =>
    obtain ⟨w, hw, hr⟩ := Zq4 k2 hx
    refine wpAny_pyNext_dict_item (knd := intKind c.prog c.w) ⟨o, ho, hc, hd⟩ k1 hw λ key h' hkey hit' hs => hi (.int e.1) (by rw [hget, hx]; rfl) key h' s.toks ?_ hs.extBut ?_
    ·obtain ⟨o', ho', hc', hd'⟩ := hit'
     exact ⟨o', ho', hc', hd'⟩
    ·obtain ⟨t, rfl⟩ := Value.isInt_shape hkey
     exact .int _ _
def Zbb (f : PM PV) (asg : PV -> PM Unit) (body : PM MF) (n : Nat) : PM MF := f >>= λ pv => λ μ => Zdy (Zam pv μ) asg body n 0 μ
theorem Zj9 {get get' : Nat -> St -> Option (Option PV)} {asg : PV -> PM Unit} {g : PM MF} (h : ∀ k μ, get k μ = get' k μ) : ∀ n k, Zdy get asg g n k = Zdy get' asg g n k
 | 0 => λ _ => rfl
 | n + 1 => λ k => by
  funext μ
  rw [Zg9, Zg9]
  dsimp only
  rw [h, Zj9 h n]
end

set_option backward.eqns.nonrecursive false
def Zju : List (PV -> PM Unit) -> List PV -> PM Unit
 | a :: as, x :: xs => a x >>= λ _ => Zju as xs
 | _, _ => pure ()theorem Zu5 {a : PV -> PM Unit} {as : List (PV -> PM Unit)} {x : PV} {xs : List PV} : Zju (a :: as) (x :: xs) = (a x >>= λ _ => Zju as xs) := rfl
def Zct (as : List (PV -> PM Unit)) (v : PV) : PM Unit := match v with
 | .tup xs => (match decide (xs.length = as.length) with
  | true => Zju as xs
  | false => PM.I)
 | _ => PM.I
noncomputable def Zeu (len : Nat) (k : Int) : Option Nat :=
 if 0 <= k then (if k < 2 ^ 62 then some k.toNat else none) else (if -(len : Int) <= k ∧ (len : Int) < 2 ^ 62 then some (k + len).toNat else none)noncomputable def Zdb (es : List (Int × PV)) (k : Int) : Option PV := (es.find? λ e => e.1 == k).map (·.2)
def Zby (o i : PV) : PM PV := λ μ => match o, i with
 | .lst xs, .int k => (match (Zeu xs.length k).bind (xs[·]?) with
  | some x => .ok x μ
  | none => .bad)
 | .tup xs, .int k => (match (Zeu xs.length k).bind (xs[·]?) with
  | some x => .ok x μ
  | none => .bad)
 | .obj j, .int k => (match μ.hp[j]? with
  | some (.lst xs) => (match (Zeu xs.length k).bind (xs[·]?) with
   | some x => .ok x μ
   | none => .bad)
  | some (.dct es _) => (match Zdb es k with
   | some x => .ok x μ
   | none => .bad)
  | _ => .bad)
 | _, _ => .bad
set_option backward.eqns.nonrecursive true
def Za5 (f g : PM PV) : PM PV := f >>= λ o => g >>= λ i => Zby o i
section
variable {c : Cx} {F : Fx}
theorem Zqe {x : Str} {pos : Pos} {k : Nat} (hk : F.env.scope.kind = .function) (hv : VarAt F x k) : ∀ w y, Sim c F (λ φ h => VR φ h w y) (λ _ _ _ _ => True) (assign (.Name x pos) F.env w) (Zh k y) :=
 λ w y A φ μ s Q E hA R p hb hQ hE => wpAny_assign_Name (Zth hk hv A φ μ s Q E hA R p hb hQ hE)
inductive SimTs (c : Cx) (F : Fx) : List (Bool × (Value -> Sem Unit)) -> List (PV -> PM Unit) -> Prop
 | nil : SimTs c F [] []
 | cons {t : Value -> Sem Unit} {a : PV -> PM Unit} {ts : List (Bool × (Value -> Sem Unit))} {as : List (PV -> PM Unit)} : (∀ w y, Sim c F (λ φ h => VR φ h w y) (λ _ _ _ _ => True) (t w) (a y)) -> SimTs c F ts as -> SimTs c F ((false, t) :: ts) (a :: as)
theorem SimTs.length {ts : List (Bool × (Value -> Sem Unit))} {as : List (PV -> PM Unit)} (h : SimTs c F ts as) : ts.length = as.length := by
 induction h with
 | nil => rfl
 | cons _ _ ih => simp [ih]
theorem SimTs.star {ts : List (Bool × (Value -> Sem Unit))} {as : List (PV -> PM Unit)} (h : SimTs c F ts as) : ts.findIdx? (·.1) = none := by
 induction h with
 | nil => rfl
 | cons _ _ ih => simp [List.findIdx?_cons, ih]
theorem Zr8 {ts : List (Bool × (Value -> Sem Unit))} {as : List (PV -> PM Unit)} (h : SimTs c F ts as) : ∀ ws ys, Sim c F (λ φ h => VRs φ h ws ys) (λ _ _ _ _ => True) (assignInOrder (ts.map (·.2)) ws) (Zju as ys) := by
 induction h with
 | nil => intro ws ys; exact λ A φ μ s Q E hA R p hb hQ hE => Qp (hQ _ _ _ _ _ rfl R Ext.refl trivial)
 | @cons t a ts as ht hts ih =>
  intro ws ys A φ μ s Q E hA R p hb hQ hE
  cases p with
  | nil => exact Qp (hQ _ _ _ _ _ rfl R Ext.refl trivial)
  | @cons w ws y ys p1 p2 =>
   rw [Zu5] at hb hQ hE
   rw [Xa]
   refine Qb (Qu ((ht w y).use hA R p1 hb hE λ _ _ φ1 μ1 s1 eg RB xB _ => ?_))
   rw [eg] at hb hQ hE
   exact (ih ws ys).fin hA RB (p2.ext R xB) rfl xB hb hQ hE
theorem Zeh {elts : List Expr} {x1 : Nat} {pos : Pos} {as : List (PV -> PM Unit)} (hh : F.hd = true) (h : SimTs c F (assignEach elts F.env) as) : ∀ w y, Sim c F (λ φ h => VR φ h w y) (λ _ _ _ _ => True) (assign (.Tuple elts x1 pos) F.env w) (Zct as y) := by
 intro w y A φ μ s Q E hA R p hb hQ hE
 induction p using VR.cs with
 | @tup a vs n xs h1 h4 h5 =>
  unfold Zct at hb hQ hE
  dsimp only at hb hQ hE
  cases hl : decide (xs.length = as.length) with
  | false => rw [hl] at hb; exact (hb rfl).elim
  | true =>
   rw [hl] at hb hQ hE
   have hl' := Qh hl
   rw [arm_assign_Tuple]
   refine Qb (wpAny_standAt ?_)
   unfold unpack
   rw [h.star, show (assignEach elts F.env).length = vs.toArray.size by rw [h.length, Q4, h5.length, hl']]
   refine Qb (Qu (Zbl (wpAny_unpackItems_tuple (hA.handled hh) ⟨_, h1, rfl, _, rfl⟩ λ h' hs hz => ?_)))
   obtain ⟨RB, xB⟩ : Rep c F φ μ { s with heap := h' } ∧ Ext F.nss F.cls φ s.heap φ h' := R.still (tk := s.toks) hz λ b ob hb => hs b ob (Nat.ne_of_lt (Qx hb)) hb
   exact (Zr8 h vs xs).fin hA RB (h5.ext R xB) rfl xB hb hQ hE
 | none => exact (hb rfl).elim
 | bool => exact (hb rfl).elim
 | int => exact (hb rfl).elim
 | str => exact (hb rfl).elim
 | lst => exact (hb rfl).elim
 | rng => exact (hb rfl).elim
 | obj => exact (hb rfl).elim
 | nxt => exact (hb rfl).elim
 | vals => exact (hb rfl).elim
 | raw => exact (hb rfl).elim
theorem Zng {k : Int} {len : Nat} (h : 0 <= k) (h2 : k.toNat < len) : seqIndex? k len = some k.toNat := by
 unfold seqIndex?
 have e : (if k < 0 then k + len else k) = k := Qq (by lia)
 simp only [e, Q7, decide_eq_true_eq]
 rw [Qo ⟨h, by lia⟩]
theorem Zr9 {k : Int} {len : Nat} (h : k < 0) (h2 : -(len : Int) <= k) : seqIndex? k len = some (k + len).toNat := by
 unfold seqIndex?
 have e : (if k < 0 then k + len else k) = k + len := Qo h
 simp only [e, Q7, decide_eq_true_eq]
 rw [Qo ⟨by lia, by lia⟩]
theorem Zk5 {len : Nat} {k : Int} {j : Nat} (h : Zeu len k = some j) : (0 <= k ∧ k < 2 ^ 62 ∧ j = k.toNat) ∨ (k < 0 ∧ -(len : Int) <= k ∧ (len : Int) < 2 ^ 62 ∧ j = (k + len).toNat) := by
 unfold Zeu at h
 split at h
 ·split at h
  ·cases h; exact .inl ⟨by omega, by omega, rfl⟩
  ·cases h
 ·split at h
  ·cases h; exact .inr ⟨by omega, by omega, by omega, rfl⟩
  ·cases h
theorem Zr2 {l : Addr} {vs : List Value} {xs : List PV} {φ : List Addr} {k : Int} {t : Tok} {x : PV} {s : Shared} {A : Around} {Q : Value -> Shared -> Prop} {E : Value -> Shared -> Prop} (hl : s.heap.IsList l vs.toArray) (hv : VRs φ s.heap vs xs) (hx : (Zeu xs.length k).bind (xs[·]?) = some x)
  (h : ∀ w, VR φ s.heap w x -> Q w s) : wpAny (model c.prog c.w) A (getItem (.ref l) (.int k t)) Q E s := by
 obtain ⟨j, hj, hxj⟩ := Option.bind_eq_some_iff.mp hx
 obtain ⟨w, hw, hr⟩ := hv.get hxj
 have hlen := hv.length
 rcases Zk5 hj with ⟨h1, h2, rfl⟩ | ⟨h1, h2, h3, rfl⟩
 ·exact wpAny_getItem_list hl h1 (by lia) (by simpa using hw) (h w hr)
 ·exact wpAny_getItem_list_neg hl h1 (by simp; lia) (by lia) (by simpa [hlen] using hw) (h w hr)
theorem Zmz {φ : List Addr} {h : Heap} {kvs : List (Int × Value)} {es : List (Int × PV)} (r : DRs φ h kvs es) : ∀ {k : Int} {x : PV}, Zdb es k = some x -> ∃ v, valueAt kvs k = some v ∧ VR φ h v x := by
 induction r with
 | nil => exact λ e => nomatch e
 | @cons k' _ _ _ _ a b ih =>
  intro k x e
  unfold Zdb at e
  unfold valueAt
  rw [List.find?_cons] at e ⊢
  by_cases hk : k' = k
  ·rw [show (k' == k) = true from beq_iff_eq.mpr hk] at e
   rw [show decide (k' = k) = true from Qg hk]
   cases e
   exact ⟨_, rfl, a⟩
  ·rw [show (k' == k) = false from beq_eq_false_iff_ne.mpr hk] at e
   rw [show decide (k' = k) = false from Q8 hk]
   exact ih e
theorem Zn6 {v w : Value} {x y : PV} : Sim c F (V2 v w x y) (λ φ h a b => VR φ h a b) (getItem v w) (Zby x y) := by
 intro A φ μ s Q E hA R p hb hQ hE
 obtain ⟨rx, ry⟩ := p
 induction rx using VR.cs with
 | lst h1 h4 h5 =>
  induction ry using VR.cs with
  | int k t =>
   unfold Zby at hb hQ
   dsimp only at hb hQ
   split at hb
   ·rename_i x hx
    exact Zr2 ⟨_, h1, rfl, _, rfl⟩ h5 hx λ w hw => hQ w _ φ μ s (by rw [hx]) R Ext.refl hw
   ·exact (hb rfl).elim
  | _ => exact (hb rfl).elim
 | tup h1 h4 h5 =>
  induction ry using VR.cs with
  | int k t =>
   unfold Zby at hb hQ
   dsimp only at hb hQ
   split at hb
   ·rename_i x hx
    have hx0 := hx
    obtain ⟨j, hj, hxj⟩ := Option.bind_eq_some_iff.mp hx
    obtain ⟨w, hw, hr⟩ := h5.get hxj
    have hlt := (Qgl hw)
    have hlen := h5.length
    rcases Zk5 hj with ⟨q1, q2, rfl⟩ | ⟨q1, q2, q3, rfl⟩
    ·exact PyProof.Rows.getItem_tuple ⟨_, h1, rfl, _, rfl⟩ (by lia) (by lia) (j := k.toNat) (by rw [Q4]; exact Zng q1 hlt) (by simpa using hw) (hQ w _ φ μ s (by rw [hx0]) R Ext.refl hr)
    ·exact PyProof.Rows.getItem_tuple ⟨_, h1, rfl, _, rfl⟩ (by lia) (by lia) (by rw [Q4, hlen]; exact Zr9 q1 q2) (by simpa using hw) (hQ w _ φ μ s (by rw [hx0]) R Ext.refl hr)
   ·exact (hb rfl).elim
  | _ => exact (hb rfl).elim
 | @obj i a h1 =>
  induction ry using VR.cs with
  | int k t =>
   unfold Zby at hb hQ
   dsimp only at hb hQ
   cases hi : μ.hp[i]? with
   | none => rw [hi] at hb; exact (hb rfl).elim
   | some ob =>
    rw [hi] at hb hQ
    have q := R.objs i a ob h1 hi
    cases q with
    | lst k1 k2 =>
     dsimp only at hb hQ
     split at hb
     ·rename_i x hx
      exact Zr2 ⟨_, k1, rfl, _, rfl⟩ k2 hx λ w hw => hQ w _ φ μ s (by rw [hx]) R Ext.refl hw
     ·exact (hb rfl).elim
    | dct k1 k2 =>
     dsimp only at hb hQ
     split at hb
     ·rename_i x hx
      obtain ⟨w, hw, hr⟩ := Zmz k2 hx
      refine wpAny_getItem_of (knd := intKind c.prog c.w) (k := k) (by show Value.isInt k (.int k t) = true; simp [Value.isInt]) k1.dictOf.mapOf hw ?_
      exact hQ w _ φ μ _ (by rw [hx]) (R.toks _) Ext.refl hr
     ·exact (hb rfl).elim
    | _ => exact (hb rfl).elim
  | _ => exact (hb rfl).elim
 | none => exact (hb rfl).elim
 | bool => exact (hb rfl).elim
 | int => exact (hb rfl).elim
 | str => exact (hb rfl).elim
 | rng => exact (hb rfl).elim
 | nxt => exact (hb rfl).elim
 | vals => exact (hb rfl).elim
 | raw => exact (hb rfl).elim
theorem Zts {φ : List Addr} {μ : St} {s : Shared} {v w : Value} {x y : PV} (R : Rep c F φ μ s) (r : VR φ s.heap v x) (h : Zby x y μ ≠ .bad) : ∃ T id, s.TypeIs v T ∧ typeLookup (.type T) "__getitem__" = pure (some (.builtin id)) := by
 induction r using VR.cs with
 | lst h1 h4 h5 => exact ⟨"list", _, ⟨_, h1, rfl⟩, slot_list_getitem.lookup⟩
 | tup h1 h4 h5 => exact ⟨"tuple", _, ⟨_, h1, rfl⟩, PySem.F.slot_tuple_getitem.lookup⟩
 | @obj i a h1 =>
  cases hi : μ.hp[i]? with
  | none => exact (h (by unfold Zby; cases y <;> first | rfl | (dsimp only; rw [hi]; try rfl))).elim
  | some ob =>
   have q := R.objs i a ob h1 hi
   cases q with
   | lst k1 k2 => exact ⟨"list", _, ⟨_, k1, rfl⟩, slot_list_getitem.lookup⟩
   | dct k1 k2 => exact ⟨"dict", _, k1.dictOf.typeIs, slot_dict_getitem.lookup⟩
   | _ => exact (h (by unfold Zby; cases y <;> first | rfl | (dsimp only; rw [hi]; try rfl))).elim
 | none => exact (h rfl).elim
 | bool => exact (h rfl).elim
 | int => exact (h rfl).elim
 | str => exact (h rfl).elim
 | rng => exact (h rfl).elim
 | nxt => exact (h rfl).elim
 | vals => exact (h rfl).elim
 | raw => exact (h rfl).elim
theorem Zy {value slice : Expr} {pos : Pos} {f g : PM PV} (h : Zk c F value f) (h' : Zk c F slice g) (hs : ∀ o i, subscripted slice false o i = PySem.operate [o, i] (getItem o i)) : Zk c F (.Subscript value slice pos) (Za5 f g) := λ A φ μ s Q E hA R p hb hQ hE => by
 unfold Za5 at hb hQ hE
 refine Subscript_ ?_
 refine h.use hA R p hb hE λ a b φ' μ' s' eg R' x r => ?_
 rw [eg] at hb hQ hE
 refine (h'.keep (v := a) (x := b)).use hA R' r hb (λ e y φ' μ' s' he R' x' r => hE e y φ' μ' s' he R' (x.trans x') (r.le x.dom)) λ aC bC φC μ2 sC eg RC xC rC => ?_
 rw [eg] at hb hQ hE
 obtain ⟨T, id, hT, hl⟩ := Zts (w := aC) RC rC.1 hb
 exact tail_any hT hl (Zn6.fin hA RC rC rfl (x.trans xC) hb hQ hE) (hs a aC)
end

noncomputable def Zdv (o : MO) : PM Nat := λ μ => .ok μ.hp.length { fr := μ.fr, hp := μ.hp ++ [o] }
set_option backward.eqns.nonrecursive false
def chk (b : Bool) : PM Unit := match b with
 | true => pure ()
 | false => PM.I
def Zdc (mu_ : Bool) (xs : List PV) : PM PV := chk (Z3 xs) >>= λ _ => match mu_ with
 | true => Zdv (.lst xs) >>= λ i => pure (.obj i)
 | false => pure (.lst xs)def mkTup (xs : List PV) : PM PV := chk (Z3 xs) >>= λ _ => pure (.tup xs)noncomputable def putM (i : Nat) (o : MO) : PM Unit := λ μ => .ok () { fr := μ.fr, hp := μ.hp.set i o }
noncomputable def Zag (v : PV) : PM (Nat × List PV) := λ μ => match v with
 | .obj i => (match μ.hp[i]? with
  | some (.lst xs) => .ok (i, xs) μ
  | _ => .bad)
 | _ => .bad
def Zdn (v : PV) : PM (List PV) := λ μ => match Zaa μ.hp v with
 | some xs => .ok xs μ
 | none => .bad
set_option backward.eqns.nonrecursive true
section
variable {c : Cx} {F : Fx}theorem PM.H {α β : Type} {f : PM α} {g : α -> PM β} {μ μ' : St} {a : α} (h : f μ = .ok a μ') : (f >>= g) μ = g a μ' := by rw [PM.B, h]
theorem Zab {α : Type} {b : Bool} {g : Unit -> PM α} {μ : St} (h : (chk b >>= g) μ ≠ .bad) : b = true ∧ (chk b >>= g) μ = g () μ := by
 cases b with
 | true => exact ⟨rfl, rfl⟩
 | false => exact (h rfl).elim
theorem Zba {α : Type} {xs : List α} (h : Z3 xs = true) : xs.length <= sizeLine := Qj (Qh h) (by decide)theorem Zco {α : Type} {xs : List α} (h : Z3 xs = true) : xs.length <= 1000000 := Qh h
inductive SimArgs (c : Cx) (F : Fx) : List (Bool × Sem Value) -> PM (List PV) -> Prop
 | nil : SimArgs c F [] (pure [])
 | cons {t : Sem Value} {f : PM PV} {ts : List (Bool × Sem Value)} {g : PM (List PV)} : Sim c F NoP (λ φ h v x => VR φ h v x) t f -> SimArgs c F ts g -> SimArgs c F ((false, t) :: ts) (f >>= λ x => g >>= λ xs => pure (x :: xs))
theorem Zka {ts : List (Bool × Sem Value)} {g : PM (List PV)} (h : SimArgs c F ts g) : Sim c F NoP (λ φ h v x => VRs φ h v x) (spliced ts) g := by
 induction h with
 | nil => exact λ A φ μ s Q E hA R p hb hQ hE => spliced_nil (hQ _ _ _ _ _ rfl R Ext.refl .nil)
 | @cons t f ts g ht hts ih =>
  intro A φ μ s Q E hA R p hb hQ hE
  refine spliced_cons (ht.use hA R p hb hE λ a b φ' μ' s' eg R' x r => ?_)
  rw [eg] at hb hQ hE
  refine (ih.keep (v := a) (x := b)).use hA R' r hb (λ e y φ' μ' s' he R' x' r => hE e y φ' μ' s' he R' (x.trans x') (r.le x.dom)) λ aC bC φC μ2 sC eg RC xC rC => ?_
  rw [eg] at hQ
  exact hQ _ _ _ _ _ rfl RC (x.trans xC) (.cons rC.1 rC.2)
theorem SimArgs.back {env : Env} {pos : Pos} {es : List Expr} {g : PM (List PV)} (h : SimArgs c F (starEach es env) g) : SimArgs c F (backTo pos (starEach es env)) g := by
 have go : ∀ ts g, SimArgs c F ts g -> SimArgs c F (backTo pos ts) g := by
  intro ts g h
  induction h with
  | nil => exact .nil
  | cons ht _ ih => exact .cons ht ih
 exact go _ _ h
theorem Zqf (mu_ : Bool) {vs : List Value} {xs : List PV} : Sim c F (λ φ h => VRs φ h vs xs) (λ φ h v x => VR φ h v x) (newList vs) (Zdc mu_ xs) := by
 intro A φ μ s Q E hA R p hb hQ hE
 unfold Zdc at hb hQ
 obtain ⟨hl, e⟩ := Zab hb
 rw [e] at hb hQ
 refine wpAny_newObj_type ?_ (by show vs.toArray.size <= sizeLine; rw [Q4, p.length]; exact Zba hl)
 cases mu_ with
 | true =>
  obtain ⟨RB, xB⟩ := R.alloc (ob := { cls := .type "list", data := .seq vs.toArray }) (o := .lst xs) (tk := s.toks) rfl λ hg hi hm => .lst hg (p.mv hm)
  exact hQ _ _ _ _ _ rfl RB xB (.obj (by rw [<- R.len]; simp))
 | false =>
  obtain ⟨RB, xB⟩ := R.push { cls := .type "list", data := .seq vs.toArray } (tk := s.toks)
  exact hQ _ _ _ _ _ rfl RB xB (.lst (Qw _ rfl) (λ hm => Qe (R.phiLt hm) (Q6 _)) (p.ext R xB))
theorem Zn7 {vs : List Value} {xs : List PV} : Sim c F (λ φ h => VRs φ h vs xs) (λ φ h v x => VR φ h v x) (newTuple vs) (mkTup xs) := by
 intro A φ μ s Q E hA R p hb hQ hE
 unfold mkTup at hb hQ
 obtain ⟨hl, e⟩ := Zab hb
 rw [e] at hb hQ
 refine wpAny_newObj_type ?_ (by show vs.toArray.size <= sizeLine; rw [Q4, p.length]; exact Zba hl)
 obtain ⟨RB, xB⟩ := R.push { cls := .type "tuple", data := .seq vs.toArray } (tk := s.toks)
 exact hQ _ _ _ _ _ rfl RB xB (.tup (Qw _ rfl) (λ hm => Qe (R.phiLt hm) (Q6 _)) (p.ext R xB))def Zp (mu_ : Bool) (f : PM (List PV)) : PM PV := f >>= Zdc mu_
def Zdd (f : PM (List PV)) : PM PV := f >>= mkTup
theorem Zm (mu_ : Bool) {elts : List Expr} {pos : Pos} {f : PM (List PV)} (h : SimArgs c F (starEach elts F.env) f) : Zk c F (.List elts pos) (Zp mu_ f) := λ A φ μ s Q E hA R p hb hQ hE => by
 unfold Zp at hb hQ hE
 refine List_ ((Zka h.back).use hA R p hb hE λ a b φ' μ' s' eg R' x r => ?_)
 rw [eg] at hb hQ hE
 exact (Zqf mu_).fin hA R' r rfl x hb hQ hE
theorem Zbm {elts : List Expr} {k : Nat} {pos : Pos} {f : PM (List PV)} (h : SimArgs c F (starEach elts F.env) f) : Zk c F (.Tuple elts k pos) (Zdd f) := λ A φ μ s Q E hA R p hb hQ hE => by
 unfold Zdd at hb hQ hE
 refine Tuple_ ((Zka h.back).use hA R p hb hE λ a b φ' μ' s' eg R' x r => ?_)
 rw [eg] at hb hQ hE
 exact Zn7.fin hA R' r rfl x hb hQ hE
def eDict : PM PV := Zdv (.dct [] 0) >>= λ i => pure (.obj i)
theorem Zn8 {pos : Pos} : Zk c F (.Dict [] [] pos) eDict := λ A φ μ s Q E hA R p hb hQ hE => by
 refine wpAny_Dict_empty ?_
 obtain ⟨RB, xB⟩ := R.alloc (ob := { cls := .type "dict", data := .dict #[] }) (o := .dct [] 0) (tk := s.toks) rfl λ hg hi hm => .dct (kvs := []) ⟨_, #[], hg, ⟨rfl, rfl, rfl⟩, rfl, λ e he => by simp at he, .nil, by simp⟩ .nil
 exact hQ _ _ _ _ _ rfl RB xB (.obj (by rw [<- R.len]; simp))
theorem Zhq {o : Expr} {name : Str} {apos pos : Pos} {args : List Expr} {T id : String} {fo : PM PV} {β γ : Type} {ck : PV -> PM β} {RR : List Addr -> Heap -> Value -> γ -> Prop} {k : PV -> β -> PM γ}
  (hbase : attributeBase o name F.env (eval o F.env) = eval o F.env)
  (hfew : ((backTo pos (starEach args F.env)).all (λ x => !x.1) && (backToKw pos (keywordEach [] F.env)).all (λ x => x.1.isSome)
   && decide (args.length + ([] : List Keyword).length + (if ([] : List Keyword).isEmpty then 0 else 1) < 30)) = true)
  (hline : (apos.endLine == pos.line) = true)
  (pa : PlainAttrs T) (slot : Slot T name id) (hty : typeOf (.builtin id) = pure (.type "method_descriptor"))
  (h : Zk c F o fo) (hck : ∀ φ μ s v x, Rep c F φ μ s -> VR φ s.heap v x -> ck x μ ≠ .bad -> ∃ b, ck x μ = .ok b μ ∧ s.TypeIs v T ∧ (∃ a, v = .ref a ∧ ∃ ob, s.heap.get? a = some ob ∧ ob.dict = none))
  (hk : ∀ a x b, Sim c F (λ φ h => VR φ h (.ref a) x) RR (callWith pos (.builtin id) [.ref a] (backTo pos (starEach args F.env)) []) (k x b)) :
  Sim c F NoP RR (eval (.Call (.Attribute o name apos) args [] pos) F.env) (fo >>= λ x => ck x >>= k x) := λ A φ μ s Q E hA R p hb hQ hE => by
 refine wpAny_Call_method hbase hfew hline pa slot hty ?_
 refine h.use hA R p hb hE λ a b φ' μ' s' eg R' x r => ?_
 rw [eg] at hb hQ hE
 have hc : ck b μ' ≠ .bad := λ e => hb (by rw [PM.B, e])
 obtain ⟨y, e, hT, l, rfl, hd⟩ := hck φ' μ' s' a b R' r hc
 rw [PM.B, e] at hb hQ hE
 exact ⟨hT, λ a e => by cases e; exact hd, (hk l b y).fin hA R' r rfl x hb hQ hE⟩
theorem Zk6 {μ : St} {x : PV} (h : Zag x μ ≠ .bad) : ∃ i xs, x = .obj i ∧ μ.hp[i]? = some (.lst xs) ∧ Zag x μ = .ok (i, xs) μ := by
 unfold Zag at h ⊢
 cases x with
 | obj i =>
  dsimp only at h ⊢
  cases hi : μ.hp[i]? with
  | none => rw [hi] at h; exact (h rfl).elim
  | some o =>
   rw [hi] at h
   cases o with
   | lst xs => exact ⟨i, xs, rfl, hi, rfl⟩
   | _ => exact (h rfl).elim
 | _ => exact (h rfl).elim
theorem Zgv : ∀ φ μ s v x, Rep c F φ μ s -> VR φ s.heap v x -> Zag x μ ≠ .bad -> ∃ b, Zag x μ = .ok b μ ∧ s.TypeIs v "list" ∧ (∃ a, v = .ref a ∧ ∃ ob, s.heap.get? a = some ob ∧ ob.dict = none) := by
 intro φ μ s v x R r hb
 obtain ⟨i, xs, rfl, hi, e⟩ := Zk6 hb
 obtain ⟨a, rfl, h1⟩ := r.un_obj rfl
 obtain ⟨vs, n, k1, k2⟩ := (R.objs i a _ h1 hi).inv_lst rfl
 exact ⟨_, e, ⟨_, k1, rfl⟩, ⟨a, rfl, _, k1, rfl⟩⟩
theorem Zwu : ∀ φ μ s v x, Rep c F φ μ s -> VR φ s.heap v x -> Zdn x μ ≠ .bad -> ∃ b, Zdn x μ = .ok b μ ∧ s.TypeIs v "list" ∧ (∃ a, v = .ref a ∧ ∃ ob, s.heap.get? a = some ob ∧ ob.dict = none) := by
 intro φ μ s v x R r hb
 unfold Zdn at hb ⊢
 cases hl : Zaa μ.hp x with
 | none => rw [hl] at hb; exact (hb rfl).elim
 | some xs =>
  induction r using VR.cs with
  | lst h1 h4 h5 => exact ⟨_, rfl, ⟨_, h1, rfl⟩, ⟨_, rfl, _, h1, rfl⟩⟩
  | @obj i a h1 =>
   unfold Zaa at hl
   dsimp only at hl
   split at hl
   ·rename_i ys hys
    have q := R.objs i a _ h1 hys
    obtain ⟨_, _, k1, k2⟩ := q.inv_lst rfl
    ·exact ⟨_, rfl, ⟨_, k1, rfl⟩, ⟨_, rfl, _, k1, rfl⟩⟩
   ·cases hl
  | _ => cases hl
theorem Zha {φ : List Addr} {μ : St} {s : Shared} (R : Rep c F φ μ s) {v : Value} {x : PV} {i : Nat} {xs : List PV} (r : VR φ s.heap v x) (e : Zag x μ = .ok (i, xs) μ) : ∃ a vs n, v = .ref a ∧ φ[i]? = some a ∧ IsL s.heap a vs.toArray n ∧ VRs φ s.heap vs xs ∧ x = .obj i := by
 obtain ⟨j, ys, rfl, hi, e'⟩ := Zk6 (λ q => nomatch e.symm.trans q)
 rw [e'] at e
 cases e
 obtain ⟨a, rfl, h1⟩ := r.un_obj rfl
 obtain ⟨vs, n, k1, k2⟩ := (R.objs i a _ h1 hi).inv_lst rfl
 exact ⟨a, vs, n, rfl, h1, k1, k2, rfl⟩
theorem Zd8 {x : PV} {μ : St} (h : Zag x μ ≠ .bad) : ∃ i xs, Zag x μ = .ok (i, xs) μ := by
 unfold Zag at h ⊢
 cases x with
 | obj i =>
  dsimp only at h ⊢
  cases hi : μ.hp[i]? with
  | none => rw [hi] at h; exact (h rfl).elim
  | some ob =>
   cases ob with
   | lst xs => exact ⟨_, _, rfl⟩
   | _ => rw [hi] at h; exact (h rfl).elim
 | _ => exact (h rfl).elim
theorem Rep.relist {φ : List Addr} {μ : St} {s : Shared} (R : Rep c F φ μ s) {i : Nat} {a : Addr} {vs : List Value} {n : Nat} (hi : φ[i]? = some a) (hl : IsL s.heap a vs.toArray n) {g : Array Value -> Array Value} {ws : List Value} {ys : List PV} (hg : g vs.toArray = ws.toArray) (hw : VRs φ s.heap ws ys) {tk : Nat} :
  Rep c F φ { fr := μ.fr, hp := μ.hp.set i (.lst ys) } { s with heap := s.heap.update a (Obj.mapSeq g), toks := tk } ∧ Ext F.nss F.cls φ s.heap φ (s.heap.update a (Obj.mapSeq g)) := by
 refine R.upd hi (Heap.SameBut.update ..) λ hm => ?_
 have := hl.update g
 rw [hg] at this
 exact .lst this (hw.mv hm)def Ze7 (o y : PV) : PM PV := Zag o >>= λ p => chk (Z3 p.2) >>= λ _ => putM p.1 (.lst (p.2 ++ [y])) >>= λ _ => pure .none
def Zar (fo fe : PM PV) : PM PV := fo >>= λ x => Zag x >>= λ _ => fe >>= λ y => Ze7 x y
theorem Zah {o e : Expr} {apos pos : Pos} {fo fe : PM PV} (hbase : attributeBase o "append" F.env (eval o F.env) = eval o F.env)
  (hfew : ((backTo pos (starEach [e] F.env)).all (λ x => !x.1) && (backToKw pos (keywordEach [] F.env)).all (λ x => x.1.isSome)
   && decide ([e].length + ([] : List Keyword).length + (if ([] : List Keyword).isEmpty then 0 else 1) < 30)) = true)
  (hline : (apos.endLine == pos.line) = true) (htr : backTo pos (starEach [e] F.env) = [(false, eval e F.env)]) (h : Zk c F o fo) (h' : Zk c F e fe) : Zk c F (.Call (.Attribute o "append" apos) [e] [] pos) (Zar fo fe) := by
 refine Zhq hbase hfew hline PySem.F.plainAttrs_list PySem.F.slot_list_append PySem.F.type_list_append h (ck := Zag) (k := λ x _ => fe >>= λ y => Ze7 x y) Zgv λ l x b => ?_
 rw [htr]
 intro A φ μ s Q E hA R p hb hQ hE
 refine P.append_list (h'.use hA R trivial hb hE λ v y φ' μ' s' eg R' x' r => ?_)
 rw [eg] at hb hQ hE
 unfold Ze7 at hb hQ
 obtain ⟨i, xs, et⟩ := Zd8 (λ e => hb (by rw [PM.B, e]))
 obtain ⟨a, vs, n, ea, hi, hl, hvs, rfl⟩ := Zha R' (p.ext R x') et
 cases ea
 rw [PM.H et] at hb hQ
 obtain ⟨hln, e2⟩ := Zab hb
 rw [e2] at hQ
 refine ⟨_, _, by rw [Q4, hvs.length]; exact Zba hln, hl, ?_⟩
 obtain ⟨RD, xD⟩ := R'.relist (tk := s'.toks) hi hl (g := λ xs => xs.push v) (ws := vs ++ [v]) (by simp) (hvs.append (.cons r .nil))
 exact hQ _ _ _ _ _ rfl RD (x'.trans xD) .none
noncomputable abbrev hFew (c : Cx) (F : Fx) (pos : Pos) (args : List Expr) : Prop := ((backTo pos (starEach args F.env)).all (λ x => !x.1) && (backToKw pos (keywordEach [] F.env)).all (λ x => x.1.isSome)
   && decide (args.length + ([] : List Keyword).length + (if ([] : List Keyword).isEmpty then 0 else 1) < 30)) = true
set_option backward.eqns.nonrecursive false
def pPop (o : PV) : PM PV := Zag o >>= λ p => chk (Z3 p.2) >>= λ _ => match p.2.getLast? with
 | some y => putM p.1 (.lst p.2.dropLast) >>= λ _ => pure y
 | none => PM.I
def mPop (fo : PM PV) : PM PV := fo >>= λ x => Zag x >>= λ _ => pPop x
theorem Zq5 {o : Expr} {apos pos : Pos} {fo : PM PV} (hbase : attributeBase o "pop" F.env (eval o F.env) = eval o F.env) (hfew : hFew c F pos []) (hline : (apos.endLine == pos.line) = true) (h : Zk c F o fo) :
  Zk c F (.Call (.Attribute o "pop" apos) [] [] pos) (mPop fo) := by
 refine Zhq hbase hfew hline PySem.F.plainAttrs_list PySem.F.slot_list_pop PySem.F.type_list_pop h (ck := Zag) (k := λ x _ => pPop x) Zgv λ l x b => ?_
 show Sim c F _ _ (callWith pos (.builtin "list.pop") [.ref l] [] []) _
 intro A φ μ s Q E hA R p hb hQ hE
 unfold pPop at hb hQ
 obtain ⟨i, xs, et⟩ := Zd8 (λ e => hb (by rw [PM.B, e]))
 obtain ⟨a, vs, n, ea, hi, hl, hvs, rfl⟩ := Zha R p et
 cases ea
 rw [PM.H et] at hb hQ
 obtain ⟨hln, e2⟩ := Zab hb
 rw [e2] at hb hQ
 dsimp only at hb hQ
 cases hg : xs.getLast? with
 | none => rw [hg] at hb; exact (hb rfl).elim
 | some y =>
  rw [hg] at hQ
  have hlen := hvs.length
  have hne : xs ≠ [] := by intro e; subst e; cases hg
  have hpos : 0 < xs.length := List.length_pos_iff.mpr hne
  rw [List.getLast?_eq_getElem?] at hg
  obtain ⟨w, hw, hr⟩ := hvs.get hg
  refine P.pop_list hl (y := w) (by simp only [Q4, hlen]; simpa using hw) ?_ (by rw [Q4, hlen]; exact Zba hln)
  obtain ⟨RD, xD⟩ := R.relist (tk := s.toks) hi hl (g := λ xs => xs.eraseIdxIfInBounds (vs.toArray.size - 1)) (ws := vs.take (vs.length - 1)) (ys := xs.dropLast) (by
   simp only [Q4, List.eraseIdxIfInBounds_toArray]
   congr 1
   rw [<- List.dropLast_eq_take]
   have hne' : vs ≠ [] := by intro e; subst e; simp at hlen; exact Qnl hpos hlen.symm
   obtain ⟨ys, y, rfl⟩ := (List.eq_nil_or_concat vs).resolve_left hne'
   simp [List.eraseIdx_append_of_length_le]) (by
   rw [List.dropLast_eq_take, <- hlen]
   exact hvs.take _)
  exact hQ _ _ _ _ _ rfl RD xD (hr.ext R xD)def Zp8 (o : PV) : PM PV := Zag o >>= λ p => chk (Z3 p.2) >>= λ _ => putM p.1 (.lst []) >>= λ _ => pure .none
def Zp9 (fo : PM PV) : PM PV := fo >>= λ x => Zag x >>= λ _ => Zp8 x
theorem Ztt {o : Expr} {apos pos : Pos} {fo : PM PV} (hbase : attributeBase o "clear" F.env (eval o F.env) = eval o F.env) (hfew : hFew c F pos []) (hline : (apos.endLine == pos.line) = true) (h : Zk c F o fo) :
  Zk c F (.Call (.Attribute o "clear" apos) [] [] pos) (Zp9 fo) := by
 refine Zhq hbase hfew hline PySem.F.plainAttrs_list PySem.F.slot_list_clear PySem.F.type_list_clear h (ck := Zag) (k := λ x _ => Zp8 x) Zgv λ l x b => ?_
 show Sim c F _ _ (callWith pos (.builtin "list.clear") [.ref l] [] []) _
 intro A φ μ s Q E hA R p hb hQ hE
 unfold Zp8 at hb hQ
 obtain ⟨i, xs, et⟩ := Zd8 (λ e => hb (by rw [PM.B, e]))
 obtain ⟨a, vs, n, ea, hi, hl, hvs, rfl⟩ := Zha R p et
 cases ea
 rw [PM.H et] at hb hQ
 obtain ⟨hln, e2⟩ := Zab hb
 rw [e2] at hb hQ
 refine P.clear_list hl ?_ (by rw [Q4, hvs.length]; exact Zba hln)
 obtain ⟨RD, xD⟩ := R.relist (tk := s.toks) hi hl (g := λ _ => #[]) (ws := []) (ys := []) rfl .nil
 exact hQ _ _ _ _ _ rfl RD xD .none
noncomputable def Zbc : List PV -> Option (List Int)
 | [] => some []
 | .int i :: r => (Zbc r).map (i :: ·)
 | _ :: _ => none
theorem Zu6 {i : Int} {r : List PV} : Zbc (.int i :: r) = (Zbc r).map (i :: ·) := rfl
def Zqa (xs : List PV) (y : PV) : PM PV := match Zbc xs, y with
 | some is, .int k => (match is.findIdx? (· == k) with
  | some j => chk (Z3 xs) >>= λ _ => pure (.int j)
  | none => PM.I)
 | _, _ => PM.I
end

noncomputable def Z0 (names : List (Str × NameKind)) : List (Str × NameKind) := names.filter λ x => x.2 == .local || x.2 == .cell
def Zal (L : Addr) (cells : List (Str × Addr)) (names : List (Str × NameKind)) : List Loc :=
 (Z0 names).map λ x => if x.2 == .local then .loc L x.1 else .cell ((cells.lookup x.1).getD 0)def Zbs (names : List (Str × NameKind)) (ks : List Str) (ys : List PV) : List PV := (Z0 names).map λ x => ((ks.zip ys).reverse.lookup x.1).getD .undef
def Zaf (fd : FuncData) (L a : Addr) (outer : List Env) (lv : Nat) : Fx :=
 { env := callEnvC fd L a, locs := Zal L (cellsFrom (L + 1) fd.scope.names []) fd.scope.names, nss := [L], cls := (cellsFrom (L + 1) fd.scope.names []).map (·.2), frames := callEnvC fd L a :: outer, lv := lv, hd := true }
set_option backward.eqns.nonrecursive false
noncomputable def callM (init : List PV) (body : PM MF) : PM PV := λ μ => match body ⟨init, μ.hp⟩ with
 | .ok (.ret v) μ' => .ok v ⟨μ.fr, μ'.hp⟩
 | .ok .next μ' => .ok .none ⟨μ.fr, μ'.hp⟩
 | .ok _ _ => .bad
 | .exc x μ' => .exc x ⟨μ.fr, μ'.hp⟩
 | .bad => .bad
noncomputable def Zav (frm : List PV -> Option (List PV)) (g : PM MF) (xs : List PV) : PM PV := match frm xs with
 | some fr => callM fr g
 | none => PM.I
set_option backward.eqns.nonrecursive true
theorem Zcj (x : Str) : ∀ (names : List (Str × NameKind)) (n : Nat) (acc : List (Str × Addr)), ((x, NameKind.cell) ∈ names ∨ (acc.lookup x).isSome = true) -> ((cellsFrom n names acc).lookup x).isSome = true
 | [] => λ n acc h => by
  rcases h with h | h
  ·simp at h
  ·exact h
 | (y, k) :: r => λ n acc h => by
  unfold cellsFrom
  split
  ·refine Zcj x r _ _ ?_
   rcases h with h | h
   ·rcases Qmc h with h | h
    ·cases h; right; simp
    ·exact .inl h
   ·right
    rw [lookup_cons]
    cases x == y with
    | true => rfl
    | false => exact h
  ·rename_i hk
   refine Zcj x r _ _ ?_
   rcases h with h | h
   ·rcases Qmc h with h | h
    ·cases h; exact Qe rfl hk
    ·exact .inl h
   ·exact .inr h
theorem Zce {names : List (Str × NameKind)} {x : Str × NameKind} (h : x ∈ Z0 names) : x ∈ names ∧ (x.2 = .local ∨ x.2 = .cell) := by
 unfold Z0 at h
 rw [mem_filter] at h
 refine ⟨h.1, ?_⟩
 have h2 := h.2
 rw [Bool.or_eq_true] at h2
 rcases h2 with h2 | h2
 ·exact .inl (eq_of_beq h2)
 ·exact .inr (eq_of_beq h2)
theorem Zk7 {L : Addr} {cells : List (Str × Addr)} {names : List (Str × NameKind)} (hn : (names.map (·.1)).Nodup) (hap : cells.Pairwise λ x y => x.2 ≠ y.2) (hhas : ∀ x, (x, NameKind.cell) ∈ names -> (cells.lookup x).isSome = true) : (Zal L cells names).Nodup := by
 unfold Zal
 have hn' : ((Z0 names).map (·.1)).Nodup := (filter_sublist.map _).nodup hn
 rw [List.nodup_iff_pairwise_ne, pairwise_map] at *
 refine List.Pairwise.imp_of_mem ?_ hn'
 intro a b ha hb hab e
 obtain ⟨ha1, ha2⟩ := Zce ha
 obtain ⟨hb1, hb2⟩ := Zce hb
 obtain ⟨x, k⟩ := a
 obtain ⟨y, j⟩ := b
 dsimp only at *
 rcases ha2 with rfl | rfl <;> rcases hb2 with rfl | rfl
 ·simp at e; exact hab e
 ·simp at e
 ·simp at e
 ·obtain ⟨c1, h1⟩ := Option.isSome_iff_exists.mp (hhas _ ha1)
  obtain ⟨c2, h2⟩ := Option.isSome_iff_exists.mp (hhas _ hb1)
  have e2 : NameKind.cell == NameKind.local := by
   rw [h1, h2] at e
   simp at e
   have : c1 = c2 := by first | exact e | exact e.2
   subst this
   exact Qe (name_of_addr hap (mem_of_lookup h1) (mem_of_lookup h2)) hab
  exact Qe e2 (by decide)
theorem Ziw {kindOf : Str -> Option NameKind} {x : Str} (hx : kindOf x = some .local) : ∀ (binds : List (Str × Value)) (m : Str -> Option Value), bindL kindOf binds m x = (binds.reverse.lookup x).or (m x)
 | [] => λ m => rfl
 | (n, v) :: r => λ m => by
  rw [show bindL kindOf ((n, v) :: r) m = bindL kindOf r (if kindOf n = some .local then λ y => if y = n then some v else m y else m) from rfl, Ziw hx r, reverse_cons, List.lookup_append, Option.or_assoc]
  congr 1
  by_cases e : x = n
  ·subst e; rw [Qo hx]; simp
  ·have : (x == n) = false := by simpa using e
   rw [lookup_cons, this]
   by_cases hn : kindOf n = some .local
   ·rw [Qo hn]; simp [e]
   ·rw [Qq hn]; simp
theorem Zix {kindOf : Str -> Option NameKind} {x : Str} (hx : kindOf x ≠ some .local) : ∀ (binds : List (Str × Value)) (m : Str -> Option Value), bindC kindOf binds m x = (binds.reverse.lookup x).or (m x)
 | [] => λ m => rfl
 | (n, v) :: r => λ m => by
  rw [show bindC kindOf ((n, v) :: r) m = bindC kindOf r (if kindOf n = some .local then m else λ y => if y = n then some v else m y) from rfl, Zix hx r, reverse_cons, List.lookup_append, Option.or_assoc]
  congr 1
  by_cases e : x = n
  ·subst e; rw [Qq hx]; simp
  ·have : (x == n) = false := by simpa using e
   rw [lookup_cons, this]
   by_cases hn : kindOf n = some .local
   ·rw [Qo hn]; simp
   ·rw [Qq hn]; simp [e]
theorem Zn9 {φ : List Addr} {h : Heap} (x : Str) {ws : List Value} {ys : List PV} (r : VRs φ h ws ys) : ∀ (ks : List Str), (∃ v y, (ks.zip ws).reverse.lookup x = some v ∧ (ks.zip ys).reverse.lookup x = some y ∧ VR φ h v y) ∨ ((ks.zip ws).reverse.lookup x = none ∧ (ks.zip ys).reverse.lookup x = none) := by
 induction r using VRs.ind with
 | nil => intro ks; right; rw [List.zip_nil_right, List.zip_nil_right]; exact ⟨rfl, rfl⟩
 | @cons v vs y ys a b ih =>
  intro ks
  cases ks with
  | nil => right; exact ⟨rfl, rfl⟩
  | cons k ks =>
  simp only [List.zip_cons_cons, reverse_cons, List.lookup_append]
  rcases ih ks with ⟨v', y', h1, h2, h3⟩ | ⟨h1, h2⟩
  ·left; exact ⟨v', y', by rw [h1]; rfl, by rw [h2]; rfl, h3⟩
  ·rw [h1, h2]
   by_cases e : x = k
   ·subst e; left; exact ⟨v, y, by simp, by simp, a⟩
   ·have : (x == k) = false := by simpa using e
    right; simp [lookup_cons, this]
section
variable {c : Cx} {F : Fx} {φ : List Addr} {μ : St} {s s1 : Shared}
theorem Rep.above (R : Rep c F φ μ s) {a : Addr} (h : s.heap.objs.size <= a) : a ∉ φ ∧ c.B.get? a = none := by
 refine ⟨λ hm => Qe (R.phiLt hm) (Qi h), ?_⟩
 cases q : c.B.get? a with
 | none => rfl
 | some o => exact Qe (Qx (R.keep _ o q)) (Qi h)
theorem Rep.enter (R : Rep c F φ μ s) {fd : FuncData} {L f : Addr} {ks : List Str} {ws : List Value} {ys : List PV} (hw : VRs φ s.heap ws ys) (hk : fd.scope.kind = .function) (hn : (fd.scope.names.map (·.1)).Nodup)
  (hL : L = s.heap.objs.size) (x : InCallC s L (bindL (callEnvC fd L f).kindOf (ks.zip ws) λ _ => none) (callEnvC fd L f).cells (bindC (callEnvC fd L f).kindOf (ks.zip ws) λ _ => none) s1) (lv : Nat) :
  Rep c F φ μ s1 ∧ Ext F.nss F.cls φ s.heap φ s1.heap ∧ Rep c (Zaf fd L f F.frames lv) φ ⟨Zbs fd.scope.names ks ys, μ.hp⟩ s1 := by
 obtain ⟨h₁, tk, rfl⟩ := x.toInCall.same
 have hLlt := x.toInCall.ns.lt
 obtain ⟨RB, xB⟩ := R.still (h' := h₁) (tk := tk) (Nat.le_of_lt (Nat.lt_of_le_of_lt x.toInCall.fresh hLlt)) x.toInCall.keep
 refine ⟨RB, xB, ?_⟩
 have hcells : (callEnvC fd L f).cells = cellsFrom (L + 1) fd.scope.names [] := rfl
 have hkind : ∀ y, (callEnvC fd L f).kindOf y = fd.scope.names.lookup y := λ y => rfl
 have look : ∀ y k, (y, k) ∈ fd.scope.names -> fd.scope.names.lookup y = some k := by
  intro y k hm
  have go : ∀ (l : List (Str × NameKind)), (l.map (·.1)).Nodup -> (y, k) ∈ l -> l.lookup y = some k := by
   intro l
   induction l with
   | nil => intro _ hm; simp at hm
   | cons z r ih =>
    intro hn hm
    obtain ⟨z1, z2⟩ := z
    simp only [Xa, nodup_cons] at hn
    rcases Qmc hm with e | hm
    ·cases e; simp
    ·have : (y == z1) = false := by
      have : y ≠ z1 := λ e => hn.1 (by rw [<- e]; exact mem_map_of_mem (f := (·.1)) hm)
      simpa using this
     rw [lookup_cons, this]
     exact ih hn.2 hm
  exact go _ hn hm
 have hw1 := hw.ext R xB
 have ap := x.apart
 rw [hcells] at ap
 have place : ∀ (k : Nat) (l : Loc), (Zaf fd L f F.frames lv).locs[k]? = some l -> ∃ y, (Z0 fd.scope.names)[k]? = some y ∧ l = (if y.2 == NameKind.local then .loc L y.1 else .cell (((cellsFrom (L + 1) fd.scope.names []).lookup y.1).getD 0)) := by
  intro k l hk
  show ∃ y, _
  have : (Zal L (cellsFrom (L + 1) fd.scope.names []) fd.scope.names)[k]? = some l := hk
  unfold Zal at this
  rw [Ql] at this
  cases hy : (Z0 fd.scope.names)[k]? with
  | none => rw [hy] at this; cases this
  | some y => rw [hy] at this; exact ⟨y, rfl, (Option.some.inj this).symm⟩
 have frAt : ∀ (k : Nat) (y : Str × NameKind) (pv : PV), (Z0 fd.scope.names)[k]? = some y -> (Zbs fd.scope.names ks ys)[k]? = some pv -> pv = ((ks.zip ys).reverse.lookup y.1).getD .undef := by
  intro k y pv hy hp
  unfold Zbs at hp
  rw [Ql, hy] at hp
  exact (Option.some.inj hp).symm
 have cellAt : ∀ y, (y, NameKind.cell) ∈ fd.scope.names -> ∃ a, (cellsFrom (L + 1) fd.scope.names []).lookup y = some a := λ y hy => Option.isSome_iff_exists.mp (Zcj y _ _ _ (.inl hy))
 refine ⟨RB.ok, RB.keep, RB.os, RB.gens, RB.len, RB.nodup, RB.phiB, RB.objs, ?_, ?_, ?_, ?_, ?_, ?_, ?_⟩
 ·show (Zbs _ _ _).length = (Zal _ _ _).length
  unfold Zbs Zal; simp
 ·exact Zk7 hn ap λ y hy => Zcj y _ _ _ (.inl hy)
 ·intro L' hL'
  have hL' : L' = L := by simpa [Zaf] using hL'
  subst hL'
  have ab := R.above (a := L') (Xb hL.symm)
  exact ⟨ab.1, ab.2, _, x.toInCall.ns⟩
 ·intro a ha
  obtain ⟨⟨y, a'⟩, hm, rfl⟩ := Qmm (show a ∈ (cellsFrom (L + 1) fd.scope.names []).map (·.2) from ha)
  have ab := R.above (a := a') (by have q : L < a' := x.above y a' hm; rw [hL] at q; exact Nat.le_of_lt q)
  refine ⟨ab.1, ab.2, ?_⟩
  have : ∃ y, (cellsFrom (L + 1) fd.scope.names []).lookup y = some a' := by
   refine ⟨y, ?_⟩
   have go : ∀ (l : List (Str × Addr)), (l.map (·.1)).Nodup -> (y, a') ∈ l -> l.lookup y = some a' := by
    intro l
    induction l with
    | nil => intro _ hm; simp at hm
    | cons z r ih =>
     intro hn hm
     obtain ⟨z1, z2⟩ := z
     simp only [Xa, nodup_cons] at hn
     rcases Qmc hm with e | hm
     ·cases e; simp
     ·have : (y == z1) = false := by
       have : y ≠ z1 := λ e => hn.1 (by rw [<- e]; exact mem_map_of_mem (f := (·.1)) hm)
       simpa using this
      rw [lookup_cons, this]
      exact ih hn.2 hm
   refine go _ ?_ hm
   have go2 : ∀ (names : List (Str × NameKind)) (n : Nat) (acc : List (Str × Addr)), (names.map (·.1)).Nodup -> (acc.map (·.1)).Nodup -> (∀ p ∈ acc, p.1 ∉ names.map (·.1)) -> ((cellsFrom n names acc).map (·.1)).Nodup := by
    intro names
    induction names with
    | nil => intro n acc _ h _; exact h
    | cons z r ih =>
     intro n acc hn ha hd
     obtain ⟨z1, z2⟩ := z
     simp only [Xa, nodup_cons] at hn
     unfold cellsFrom
     split
     ·refine ih _ _ hn.2 ?_ ?_
      ·simp only [Xa, nodup_cons]
       refine ⟨λ hm => ?_, ha⟩
       obtain ⟨p, hp, e⟩ := Qmm hm
       exact hd p hp (by rw [e]; simp)
      ·intro p hp
       rcases Qmc hp with e | hp
       ·rw [e]; exact hn.1
       ·intro hm; exact hd p hp (by simp only [Xa]; exact Qv _ hm)
     ·exact ih _ _ hn.2 ha λ p hp hm => hd p hp (by simp only [Xa]; exact Qv _ hm)
   exact go2 _ _ _ hn (by simp) (by simp)
  obtain ⟨y, hy⟩ := this
  exact ⟨_, x.cell y a' hy⟩
 ·intro k L' y hk
  obtain ⟨z, hz, e⟩ := place k _ hk
  have hzm := Qm hz
  obtain ⟨hz1, hz2⟩ := Zce hzm
  split at e
  ·rename_i hl
   cases e
   refine ⟨by simp [Zaf], λ pv hp hu => ?_⟩
   have hp := frAt k z pv hz hp
   have hkd : (callEnvC fd L f).kindOf z.1 = some .local := by rw [hkind]; rw [look z.1 z.2 hz1, eq_of_beq hl]
   rcases Zn9 z.1 hw1 ks with ⟨v, w, q1, q2, q3⟩ | ⟨q1, q2⟩
   ·refine ⟨_, v, x.toInCall.ns, ?_, ?_⟩
    ·rw [Ziw hkd, q1]; rfl
    ·rw [hp, q2]; exact q3
   ·rw [q2] at hp; exact Qe hp hu
  ·cases e
 ·intro k a hk
  obtain ⟨z, hz, e⟩ := place k _ hk
  have hzm := Qm hz
  obtain ⟨hz1, hz2⟩ := Zce hzm
  split at e
  ·cases e
  ·rename_i hl
   have hc : z.2 = .cell := by
    rcases hz2 with h | h
    ·rw [h] at hl; exact Qe rfl hl
    ·exact h
   obtain ⟨a', ha'⟩ := cellAt z.1 (by rw [<- hc]; exact hz1)
   rw [ha'] at e
   cases e
   refine ⟨mem_map.mpr ⟨_, mem_of_lookup ha', rfl⟩, λ pv hp hu => ?_⟩
   have hp := frAt k z pv hz hp
   have hkd : (callEnvC fd L f).kindOf z.1 ≠ some .local := by rw [hkind]; rw [look z.1 z.2 hz1, hc]; decide
   rcases Zn9 z.1 hw1 ks with ⟨v, w, q1, q2, q3⟩ | ⟨q1, q2⟩
   ·refine ⟨v, ?_, ?_⟩
    ·have := x.cell z.1 a' ha'
     rw [Zix hkd, q1] at this
     exact this
    ·rw [hp, q2]; exact q3
   ·rw [q2] at hp; exact Qe hp hu
 ·intro env he
  rcases Qmc (show env ∈ callEnvC fd L f :: F.frames from he) with e | he
  ·subst e
   have ab := R.above (a := L) (Xb hL.symm)
   obtain ⟨o, es, ep, ho, hd, _⟩ := x.toInCall.ns
   refine ⟨?_, L, rfl, ab.1, ab.2, o, es, ep, ho, hd⟩
   show fd.scope.kind ≠ .module
   rw [hk]; decide
  ·exact RB.frm env he
theorem Rep.leave {fd : FuncData} {L f : Addr} {lv : Nat} {φ' : List Addr} {μ' : St} {s' : Shared} (R : Rep c F φ μ s) (hL : L = s.heap.objs.size) (hcell : ∀ a ∈ (Zaf fd L f F.frames lv).cls, s.heap.objs.size <= a)
  (xB : Ext F.nss F.cls φ s.heap φ s1.heap) (hkeep : ∀ a o, s.heap.get? a = some o -> s1.heap.get? a = some o)
  (R' : Rep c (Zaf fd L f F.frames lv) φ' μ' s') (x' : Ext (Zaf fd L f F.frames lv).nss (Zaf fd L f F.frames lv).cls φ s1.heap φ' s'.heap) :
  Rep c F φ' ⟨μ.fr, μ'.hp⟩ s' ∧ Ext F.nss F.cls φ s.heap φ' s'.heap := by
 have stay : ∀ a o, s.heap.get? a = some o -> a ∉ φ -> s'.heap.get? a = some o ∨ ((∃ es ep, o.data = .dict es ep) ∧ ∃ sl, s'.heap.get? a = some { o with slots := sl }) := λ a o ho hn => by
  have hlt := Qx ho
  refine x'.old a o (hkeep a o ho) hn (λ hm => ?_) (λ hm => ?_)
  ·have : a = L := by simpa [Zaf] using hm
   rw [this, hL] at hlt; exact Qe hlt (Q6 _)
  ·exact Qe hlt (Qi (hcell a hm))
 have e : Ext F.nss F.cls φ s.heap φ' s'.heap := by
  refine ⟨⟨?_, Qj xB.size x'.size, λ a o ho hn _ _ => stay a o ho hn⟩, λ a h => x'.dom a (xB.dom a h)⟩
  obtain ⟨ψ, e, hb⟩ := x'.grow
  exact ⟨ψ, e, λ b h => Qj xB.size (hb b h)⟩
 have mv : ∀ v y, VR φ s.heap v y -> VR φ' s'.heap v y := λ v y r => r.ext R e
 have sl : ∀ {a o}, s.heap.get? a = some o -> a ∉ φ -> ∃ sl, s'.heap.get? a = some { o with slots := sl } := λ {a o} ho hn => by
  rcases stay a o ho hn with k | ⟨_, sl, k⟩
  ·exact ⟨o.slots, k⟩
  ·exact ⟨sl, k⟩
 have rest : Rest c F φ' μ.fr s'.heap := R.rest (λ _ _ ho hn => e.nin ho hn) (λ a o ho hn _ => sl ho hn) mv
 exact ⟨⟨R'.ok, R'.keep, R'.os, R'.gens, R'.len, R'.nodup, R'.phiB, R'.objs, R.flen, R.lnodup, rest.nss, rest.cls, rest.vloc, rest.vcell, rest.frm⟩, e⟩
end

structure FnAt (c : Cx) (f : Addr) (fd : FuncData) (body : List Stmt) : Prop where
 at_ : ∃ oc od osl, c.K.lookup f = some ⟨oc, od, .func fd, osl⟩
 code : codeIn c.K fd.code fd.qualname = true
 body : fd.body = .stmts body
 clo : fd.closure = []
 co : fd.scope.isCoroutine = false
 gen : fd.scope.isGenerator = false
 kind : fd.scope.kind = .function
 nodup : (fd.scope.names.map (·.1)).Nodup
structure Binds (c : Cx) (fd : FuncData) (ks : List Str) (arr : List PV -> Option (List PV)) : Prop where
 own : (ks.all λ k => fd.scope.names.lookup k == some .local || fd.scope.names.lookup k == some .cell) = true
 bind : ∀ (F : Fx) (φ : List Addr) (μ : St) (s : Shared) (vs : List Value) (xs ys : List PV) (A : Around) (Q : List (Str × Value) -> Shared -> Prop) (E : Value -> Shared -> Prop), Rep c F φ μ s -> VRs φ s.heap vs xs -> arr xs = some ys ->
  (∀ ws s1, Rep c F φ μ s1 -> Ext F.nss F.cls φ s.heap φ s1.heap -> (∀ a o, s.heap.get? a = some o -> s1.heap.get? a = some o) -> VRs φ s1.heap ws ys -> Q (ks.zip ws) s1) -> wpAny (model c.prog c.w) A (bindArgs fd ⟨vs, []⟩) Q E s
section
variable {c : Cx} {F : Fx}theorem Rep.inB {φ : List Addr} {μ : St} {s : Shared} (R : Rep c F φ μ s) : c.K.In s.heap := λ a o h => R.keep a o (R.ok.kin a o h)
theorem Zdr : ∀ (names : List (Str × NameKind)) (n : Nat) (acc : List (Str × Addr)) (m : Nat), m <= n -> (∀ p ∈ acc, m <= p.2) -> ∀ p ∈ cellsFrom n names acc, m <= p.2
 | [] => λ n acc m h ha => ha
 | (y, k) :: r => λ n acc m h ha => by
  unfold cellsFrom
  split
  ·refine Zdr r _ _ m (Nat.le_succ_of_le h) λ p hp => ?_
   rcases Qmc hp with e | hp
   ·rw [e]; exact h
   ·exact ha p hp
  ·exact Zdr r _ _ m h ha
theorem Zk8 {names : List (Str × NameKind)} {x : Str} (h : (names.lookup x == some .local || names.lookup x == some .cell) = true) (n : Nat) :
  names.lookup x = some .local ∨ (names.lookup x = some .cell ∧ ((cellsFrom n names []).lookup x).isSome = true) := by
 rw [Bool.or_eq_true] at h
 rcases h with h | h
 ·exact .inl (eq_of_beq h)
 ·exact .inr ⟨eq_of_beq h, Zcj x names n [] (.inl (mem_of_lookup (eq_of_beq h)))⟩
set_option backward.eqns.nonrecursive false
noncomputable def retO (fr : List PV) (μ : St) (m : MF) : Out PV := match m with
 | .ret v => .ok v ⟨fr, μ.hp⟩
 | .next => .ok .none ⟨fr, μ.hp⟩
 | _ => .bad
theorem Zwv {f : Addr} {fd : FuncData} {body : List Stmt} {ks : List Str} {arr frm : List PV -> Option (List PV)} {lv : Nat} {g : PM MF} (hf : FnAt c f fd body) (hbd : Binds c fd ks arr)
  (hfrm : ∀ xs fr, frm xs = some fr -> ∃ ys, arr xs = some ys ∧ fr = Zbs fd.scope.names ks ys)
  (hbody : ∀ L outer, Zbx c (Zaf fd L f outer lv) body g) (hlv : lv + 1 <= F.lv) (hh : F.hd = true)
  {vs : List Value} {xs : List PV} {A : Around} {φ : List Addr} {μ : St} {s : Shared} {R : Result -> Shared -> Prop} (hA : ACtx F A) (Rp : Rep c F φ μ s) (hv : VRs φ s.heap vs xs) (hb : Zav frm g xs μ ≠ .bad)
  (hQ : ∀ v y φ' μ' s', Zav frm g xs μ = .ok y μ' -> Rep c F φ' μ' s' -> Ext F.nss F.cls φ s.heap φ' s'.heap -> VR φ' s'.heap v y -> R (.ok (.ret v)) s')
  (hE : ∀ e x φ' μ' s', Zav frm g xs μ = .exc x μ' -> Rep c F φ' μ' s' -> Ext F.nss F.cls φ s.heap φ' s'.heap -> ExcR c (dom s.heap) φ' s'.heap e x -> R (.error e) s') :
  codeAny (model c.prog c.w) A (.call (.ref f) ⟨vs, []⟩) R s := by
 generalize hO : Zav frm g xs μ = O at hb hQ hE
 unfold Zav at hO
 cases hfr : frm xs with
 | none => rw [hfr] at hO; exact (hb hO.symm).elim
 | some fr =>
  rw [hfr] at hO
  obtain ⟨ys, hys, rfl⟩ := hfrm xs fr hfr
  dsimp only at hO
  obtain ⟨oc, od, osl, hlk⟩ := hf.at_
  have X := Rp.inB
  have hdep : A.depth < recursionLimit := Qlb (Qfl hA.depth) rfl
  refine codeAny_call_function hdep (X _ _ hlk) rfl hf.co hf.gen hf.body (codeRec_of X hf.code) ?_
  refine hbd.bind F φ μ s vs xs ys A.in1 _ _ Rp hv hys λ ws s1 RB xB kB hw => ?_
  rw [hf.clo]
  refine wpAny_newFunctionEnv_cells hf.kind (λ p hp => Zk8 (all_eq_true.mp hbd.own p.1 ?_) _) λ env he sC x => ?_
  ·exact (List.of_mem_zip hp).1
  subst he
  obtain ⟨RC, xC, RG⟩ := RB.enter hw hf.kind hf.nodup rfl x lv
  have hnl : sC.heap.NoLimit := RC.ok.nolimit.keeps RC.keep
  have hcell : ∀ a ∈ (Zaf fd s1.heap.objs.size f F.frames lv).cls, s1.heap.objs.size <= a := λ a ha => by
   obtain ⟨p, hp, rfl⟩ := Qmm (show a ∈ (cellsFrom (s1.heap.objs.size + 1) fd.scope.names []).map (·.2) from ha)
   exact Zdr _ _ _ _ (Nat.le_succ _) (by simp) p hp
  have hAG : ACtx (Zaf fd s1.heap.objs.size f F.frames lv) (A.deeper (callEnvC fd s1.heap.objs.size f)) := by
   refine ⟨λ _ => hA.handled hh, ?_, hA.guards, ?_, ?_⟩
   ·show A.frames.map _ = _
    rw [hA.frames]; rfl
   ·show A.depth + 1 + 10 * lv <= 900
    exact dpt hA.depth hlv
   ·show A.units + 3 + 100 * lv <= 9000
    exact unt 3 hA.units hlv rfl
  refine ⟨hnl, codeAny_func (hbody s1.heap.objs.size F.frames (A.deeper (callEnvC fd s1.heap.objs.size f)) φ _ sC _ _ hAG RG trivial (λ e => hb (by rw [<- hO]; unfold callM; rw [e])) (λ fl mf φ' μ' s' e R' x' r => ?_) λ e y φ' μ' s' he R' x' r => ?_)⟩
  ·have back := Rep.leave RB rfl hcell xC x.toInCall.keep R' x'
   have eo : callM (Zbs fd.scope.names ks ys) g μ = retO μ.fr μ' mf := by
    unfold callM; rw [e]; cases mf <;> rfl
   rw [eo] at hO
   induction r using FR.cs with
   | next => exact hQ _ _ φ' _ s' hO.symm back.1 (xB.trans back.2) .none
   | ret r => exact hQ _ _ φ' _ s' hO.symm back.1 (xB.trans back.2) r
   | brk => exact (hb hO.symm).elim
   | cont => exact (hb hO.symm).elim
  ·have eo : callM (Zbs fd.scope.names ks ys) g μ = .exc y ⟨μ.fr, μ'.hp⟩ := by
    unfold callM; rw [he]
   rw [eo] at hO
   unfold leaving
   refine Qb (Zhp hAG R' (outer := F.frames) rfl r (λ h₁ NB TB => ?_) x'.dom)
   refine Zeg (s := { s' with heap := h₁ }) (R'.side (tk := s'.toks) NB.side) TB λ h₂ NC TC => ?_
   have RG2 := (R'.side (tk := s'.toks) NB.side).side (tk := s'.toks) NC.side
   have xG := NC.ext (λ _ q => q) (NB.ext (λ _ q => q) x')
   have back := Rep.leave RB rfl hcell xC x.toInCall.keep RG2 xG
   exact hE _ _ φ' _ { s' with heap := h₂ } hO.symm back.1 (xB.trans back.2) (TC.r.le λ a q => xC.dom a (xB.dom a q))
end

def Zb4 (v : PV) : PM (List PV) := Zbq v >>= λ xs => chk (Z3 xs) >>= λ _ => pure xs
section
variable {c : Cx} {F : Fx}
inductive CallArgs (c : Cx) (F : Fx) : List (Bool × Sem Value) -> PM (List PV) -> Prop
 | nil : CallArgs c F [] (pure [])
 | cons {t : Sem Value} {f : PM PV} {ts : List (Bool × Sem Value)} {g : PM (List PV)} : Sim c F NoP (λ φ h v x => VR φ h v x) t f -> CallArgs c F ts g -> CallArgs c F ((false, t) :: ts) (f >>= λ x => g >>= λ xs => pure (x :: xs))
 | star {t : Sem Value} {f : PM PV} : Sim c F NoP (λ φ h v x => VR φ h v x) t f -> CallArgs c F [(true, t)] (f >>= λ x => Zb4 x)
theorem Zoa {v : Value} {x : PV} : Sim c F (λ φ h => VR φ h v x) (λ φ h vs xs => VRs φ h vs xs) (do if <- notIterableAtAll v then raiseError "TypeError" s!"" else collect v) (Zb4 x) ∧
  ∀ (A : Around) (φ : List Addr) (μ : St) (s : Shared) (Q : List Value -> Shared -> Prop) (E : Value -> Shared -> Prop), ACtx F A -> Rep c F φ μ s -> VR φ s.heap v x -> Zb4 x μ ≠ .bad ->
   (∀ vs xs s', Zb4 x μ = .ok xs μ -> Rep c F φ μ s' -> Ext F.nss F.cls φ s.heap φ s'.heap -> VRs φ s'.heap vs xs -> Q vs s') -> StarOf (model c.prog c.w) A E v Q s := by
 have main : ∀ (A : Around) (φ : List Addr) (μ : St) (s : Shared) (Q : List Value -> Shared -> Prop) (E : Value -> Shared -> Prop), ACtx F A -> Rep c F φ μ s -> VR φ s.heap v x -> Zb4 x μ ≠ .bad ->
   (∀ vs xs s', Zb4 x μ = .ok xs μ -> Rep c F φ μ s' -> Ext F.nss F.cls φ s.heap φ s'.heap -> VRs φ s'.heap vs xs -> Q vs s') -> StarOf (model c.prog c.w) A E v Q s := by
  intro A φ μ s Q E hA R r hb hQ
  have seq : ∀ (a : Addr) (T : String) (vs : List Value) (n : Nat) (xs : List PV), v = .ref a -> s.heap.get? a = some { cls := .type T, data := .seq vs.toArray n } -> (T = "list" ∨ T = "tuple") -> VRs φ s.heap vs xs -> Zbq x μ = .ok xs μ -> StarOf (model c.prog c.w) A E v Q s := by
   intro a T vs n xs ev ho hT hvs hp
   subst ev
   unfold Zb4 at hb hQ
   rw [PM.H hp] at hb hQ
   obtain ⟨hl, e2⟩ := Zab hb
   rw [e2] at hQ
   have hT' : s.TypeIs (.ref a) T := ⟨_, ho, rfl⟩
   have z : wpAny (model c.prog c.w) A (collect (.ref a)) Q E s := by
    refine Zbl (wpAny_collect_seq a hT ho rfl rfl (λ h' hk size => ?_) (by rw [Q4, hvs.length]; exact Zba hl))
    obtain ⟨RB, xB⟩ := R.still (h' := h') (tk := s.toks) size hk
    exact hQ _ xs _ rfl RB xB (by simpa using hvs.ext R xB)
   unfold StarOf notIterableAtAll
   rcases hT with rfl | rfl
   ·exact Qb (wpAny_specialOf hT' PySem.F.slot_list_iter.lookup (Qp ⟨rfl, z⟩))
   ·exact Qb (wpAny_specialOf hT' PySem.F.slot_tuple_iter.lookup (Qp ⟨rfl, z⟩))
  have bad : Zbq x μ = .bad -> False := λ e => hb (by unfold Zb4; rw [PM.B, e])
  induction r using VR.cs with
  | tup h1 h4 h5 => exact seq _ "tuple" _ _ _ rfl h1 (.inr rfl) h5 rfl
  | lst h1 h4 h5 => exact seq _ "list" _ _ _ rfl h1 (.inl rfl) h5 rfl
  | @obj i a h1 =>
   cases hi : μ.hp[i]? with
   | none => exact (bad (by unfold Zbq; simp only [hi])).elim
   | some ob =>
    have q := R.objs i a ob h1 hi
    cases q with
    | lst k1 k2 => exact seq _ "list" _ _ _ rfl k1 (.inl rfl) k2 (by unfold Zbq; simp only [hi])
    | _ => exact (bad (by unfold Zbq; simp only [hi])).elim
  | _ => exact (bad rfl).elim
 refine ⟨λ A φ μ s Q E hA R r hb hQ hE => ?_, main⟩
 have z := main A φ μ s (λ vs s' => Q vs s') E hA R r hb λ vs xs s' e R' x' r' => hQ vs xs φ μ s' e R' x' r'
 unfold StarOf at z
 refine Qb (wpAny_mono z (λ b sC h₂ => ?_) λ _ _ e => e)
 obtain ⟨rfl, h₂⟩ := h₂
 exact h₂
theorem Zg5 {pos : Pos} {t : Sem Value} {ts : List (Bool × Sem Value)} : backTo pos ((false, t) :: ts) = (false, t) :: backTo pos ts := rfl
theorem Zkb {pos : Pos} {t : Sem Value} : backTo pos [(true, t)] = [(true, (do let v <- t; standAt pos; pure v))] := rfl
theorem Zk9 {pos : Pos} {ts : List (Bool × Sem Value)} {g : PM (List PV)} (h : CallArgs c F ts g) : Sim c F NoP (λ φ h v x => VRs φ h v x) (spliced (backTo pos ts)) g := by
 induction h with
 | nil => exact λ A φ μ s Q E hA R p hb hQ hE => spliced_nil (hQ _ _ _ _ _ rfl R Ext.refl .nil)
 | @cons t f ts g ht hts ih =>
  intro A φ μ s Q E hA R p hb hQ hE
  rw [Zg5]
  refine spliced_cons (ht.use hA R p hb hE λ a b φ' μ' s' eg R' x r => ?_)
  rw [eg] at hb hQ hE
  refine (ih.keep (v := a) (x := b)).use hA R' r hb (λ e y φ' μ' s' he R' x' r => hE e y φ' μ' s' he R' (x.trans x') (r.le x.dom)) λ aC bC φC μ2 sC eg RC xC rC => ?_
  rw [eg] at hQ
  exact hQ _ _ _ _ _ rfl RC (x.trans xC) (.cons rC.1 rC.2)
 | @star t f ht =>
  intro A φ μ s Q E hA R p hb hQ hE
  rw [Zkb]
  refine ks_spliced (ht.use hA R p hb hE λ a b φ' μ' s' eg R' x r => ?_)
  rw [eg] at hb hQ hE
  refine (Zoa (c := c) (F := F)).2 A φ' μ' s' _ _ hA R' r hb λ vs xs s'' e R'' x'' r'' => spliced_nil ?_
  rw [append_nil]
  exact hQ _ _ _ _ _ e R'' (x.trans x'') r''
theorem Zgb {f : Value} {pos : Pos} {ts : List (Bool × Sem Value)} {g : PM (List PV)} (h : CallArgs c F ts g) : Sim c F NoP (λ φ h (a : Args) x => VRs φ h a.pos x ∧ a.kw = []) (evalArgs f true (backTo pos ts) []) g := by
 intro A φ μ s Q E hA R p hb hQ hE
 cases h with
 | nil => exact PySem.evalArgs_none (hQ _ _ _ _ _ rfl R Ext.refl ⟨.nil, rfl⟩)
 | @cons t f ts g ht hts =>
  rw [Zg5]
  refine evalArgs_plain ?_
  rw [<- Zg5]
  exact Zk9 (.cons ht hts) A φ μ s _ _ hA R p hb (λ a b φ' μ' s' e R' x r => hQ ⟨a, []⟩ b φ' μ' s' e R' x ⟨r, rfl⟩) hE
 | @star t f ht =>
  rw [Zkb]
  refine ks_lone (ht.use hA R p hb hE λ a b φ' μ' s' eg R' x r => ?_)
  rw [eg] at hb hQ hE
  exact (Zoa (c := c) (F := F)).2 A φ' μ' s' _ _ hA R' r hb λ vs xs s'' e R'' x'' r'' => hQ ⟨vs, []⟩ _ _ _ _ e R'' (x.trans x'') ⟨r'', rfl⟩
theorem Zc5 {pos : Pos} {f : Value} {first : List Value} {ts : List (Bool × Sem Value)} {g : PM (List PV)} {β : Type} {k : List PV -> PM β} {P : List Addr -> Heap -> Prop} {RR : List Addr -> Heap -> Value -> β -> Prop} (hargs : CallArgs c F ts g)
  (hP : ∀ φ μ s φ' h', Rep c F φ μ s -> Ext F.nss F.cls φ s.heap φ' h' -> P φ s.heap -> P φ' h')
  (hkeep : ∀ φ h, c.K.In h -> P φ h -> ∃ k, (k = Keeper.frame ∨ k = Keeper.machine ∨ k = Keeper.boundFrame) ∧ Looks (model c.prog c.w) h (keeperOf f) k)
  (hcall : ∀ vs ys, Sim c F (λ φ h => P φ h ∧ VRs φ h vs ys) RR (call f (first ++ vs)) (k ys)) :
  Sim c F P RR (callWith pos f first (backTo pos ts) []) (g >>= k) := by
 intro A φ μ s Q E hA R p hb hQ hE
 have core : wpAny (model c.prog c.w) A (evalArgs f true (backTo pos ts) []) (λ a s1 => (∃ φ, c.K.In s1.heap ∧ P φ s1.heap) ∧ wpAny (model c.prog c.w) A (call f (first ++ a.pos) a.kw) Q E s1) E s := by
  refine (Zgb hargs).use hA R trivial hb hE λ a b φ' μ' s' eg R' x r => ?_
  rw [eg] at hb hQ hE
  obtain ⟨ap, akw⟩ := a
  obtain ⟨r1, r2⟩ := r
  obtain rfl : akw = [] := r2
  exact ⟨⟨φ', R'.inB, hP _ _ _ _ _ R x p⟩, (hcall ap b).fin hA R' ⟨hP _ _ _ _ _ R x p, r1⟩ rfl x hb hQ hE⟩
 have hk : ∀ h, (∃ φ, c.K.In h ∧ P φ h) -> ∃ k, (k = Keeper.frame ∨ k = Keeper.machine ∨ k = Keeper.boundFrame) ∧ Looks (model c.prog c.w) h (keeperOf f) k := λ h ⟨φ, a, b⟩ => hkeep φ h a b
 cases hst : (backTo pos ts).any (·.1) with
 | true => exact ks_call hst hk core
 | false => exact callWith_of (by rw [hst]; rfl) hk core
theorem NoP.stable : ∀ φ μ s φ' h', Rep c F φ μ s -> Ext F.nss F.cls φ s.heap φ' h' -> NoP φ s.heap -> NoP φ' h' := λ _ _ _ _ _ _ _ _ => trivial
end

section
variable {c : Cx} {F : Fx}theorem Rep.glob {φ : List Addr} {μ : St} {s : Shared} (R : Rep c F φ μ s) : s.heap.Ns mainGlobals c.mg := R.ok.glob.keeps R.keep
theorem Rep.bui {φ : List Addr} {μ : St} {s : Shared} (R : Rep c F φ μ s) : s.heap.Ns builtinsNs c.mb := R.ok.bui.keeps R.keep
theorem Zsa {x : Str} {pos : Pos} {v : Value} {pv : PV} (hk : F.env.scope.kind = .function) (hg : F.env.globals = mainGlobals) (hx : F.env.kindOf x = some .globalImplicit) (hd : (x == ("__debug__" : Str)) = false)
  (e : nsIn c.K mainGlobals x = some (some v)) (hv : ∀ φ h, VR φ h v pv) : Zk c F (.Name x pos) (pure pv) := λ A φ μ s Q E hA R p hb hQ hE =>
 Name_function_global hk hx (loadGlobal_global (by rw [hg]; exact R.glob) (mg_of R.ok.kin R.ok.glob e) (hQ _ _ _ _ _ rfl R Ext.refl (hv _ _))) hd
theorem Ztu {x : Str} {pos : Pos} {n : String} (hk : F.env.scope.kind = .function) (hg : F.env.globals = mainGlobals) (hbn : F.env.builtins = builtinsNs) (hx : F.env.kindOf x = some .globalImplicit) (hd : (x == ("__debug__" : Str)) = false)
  (e : nsIn c.K mainGlobals x = some none) (hb' : bootBuiltins x = some (.type n)) (hn : x ≠ "__name__") : Zk c F (.Name x pos) (pure (.raw (some n))) := λ A φ μ s Q E hA R p hb hQ hE =>
 Name_function_global hk hx (loadGlobal_builtin (by rw [hg]; exact R.glob) (mg_none_of R.ok.kin R.ok.glob e) (by rw [hbn]; exact R.bui) ((R.ok.boot x hn).trans hb') (hQ _ _ _ _ _ rfl R Ext.refl (.raw λ _ e => by cases e; rfl))) hd
theorem Zei {x : Str} {np pos : Pos} {args : List Expr} {f : Value} {g : PM (List PV)} {k : List PV -> PM PV}
  (hn : ∀ A φ μ s Q (E : Value -> Shared -> Prop), ACtx F A -> Rep c F φ μ s -> Q f s -> wpAny (model c.prog c.w) A (eval (.Name x np) F.env) Q E s)
  (hargs : CallArgs c F (starEach args F.env) g)
  (hkeep : ∀ φ h, c.K.In h -> NoP φ h -> ∃ k, (k = Keeper.frame ∨ k = Keeper.machine ∨ k = Keeper.boundFrame) ∧ Looks (model c.prog c.w) h (keeperOf f) k)
  (hcall : ∀ vs ys, Sim c F (λ φ h => VRs φ h vs ys) (λ φ h v x => VR φ h v x) (call f vs) (k ys)) : Zk c F (.Call (.Name x np) args [] pos) (g >>= k) := λ A φ μ s Q E hA R p hb hQ hE => by
 refine Call_Name rfl (hn A φ μ s _ _ hA R ?_)
 exact Zc5 hargs NoP.stable hkeep (λ vs ys => (hcall vs ys).mono (λ _ _ h => h.2) λ _ _ _ _ h => h) A φ μ s Q E hA R trivial hb hQ hE
theorem Zqg {x : Str} {np : Pos} {v : Value} (hk : F.env.scope.kind = .function) (hg : F.env.globals = mainGlobals) (hx : F.env.kindOf x = some .globalImplicit) (hd : (x == ("__debug__" : Str)) = false)
  (e : nsIn c.K mainGlobals x = some (some v)) : ∀ A φ μ s Q (E : Value -> Shared -> Prop), ACtx F A -> Rep c F φ μ s -> Q v s -> wpAny (model c.prog c.w) A (eval (.Name x np) F.env) Q E s :=
 λ A φ μ s Q E hA R h => Name_function_global hk hx (loadGlobal_global (by rw [hg]; exact R.glob) (mg_of R.ok.kin R.ok.glob e) h) hd
theorem Zu7 {x : Str} {np : Pos} {v : Value} (hk : F.env.scope.kind = .function) (hg : F.env.globals = mainGlobals) (hbn : F.env.builtins = builtinsNs) (hx : F.env.kindOf x = some .globalImplicit) (hd : (x == ("__debug__" : Str)) = false)
  (e : nsIn c.K mainGlobals x = some none) (hb' : bootBuiltins x = some v) (hn : x ≠ "__name__") : ∀ A φ μ s Q (E : Value -> Shared -> Prop), ACtx F A -> Rep c F φ μ s -> Q v s -> wpAny (model c.prog c.w) A (eval (.Name x np) F.env) Q E s :=
 λ A φ μ s Q E hA R h => Name_function_global hk hx (loadGlobal_builtin (by rw [hg]; exact R.glob) (mg_none_of R.ok.kin R.ok.glob e) (by rw [hbn]; exact R.bui) ((R.ok.boot x hn).trans hb') h) hd
theorem Zob {id : String} : ∀ φ h, c.K.In h -> NoP φ h -> ∃ k, (k = Keeper.frame ∨ k = Keeper.machine ∨ k = Keeper.boundFrame) ∧ Looks (model c.prog c.w) h (keeperOf (.builtin id)) k := λ _ _ _ _ => ⟨.machine, .inr (.inl rfl), Looks.of_pure rfl⟩theorem Ztv {id : String} : ∀ φ h, c.K.In h -> NoP φ h -> ∃ k, (k = Keeper.frame ∨ k = Keeper.machine ∨ k = Keeper.boundFrame) ∧ Looks (model c.prog c.w) h (keeperOf (.type id)) k := λ _ _ _ _ => ⟨.machine, .inr (.inl rfl), Looks.of_pure rfl⟩
theorem Zq6 {f : Addr} {fd : FuncData} {body : List Stmt} (hf : FnAt c f fd body) : ∀ φ h, c.K.In h -> NoP φ h -> ∃ k, (k = Keeper.frame ∨ k = Keeper.machine ∨ k = Keeper.boundFrame) ∧ Looks (model c.prog c.w) h (keeperOf (.ref f)) k := λ _ _ X _ => by
 obtain ⟨oc, od, osl, hlk⟩ := hf.at_
 exact ⟨.frame, .inl rfl, (Looks.ld (part := none) (X _ _ hlk)).andThen .now⟩
end

set_option backward.eqns.nonrecursive false
noncomputable def Zgo : PV -> Bool
 | .raw _ => false
 | .undef => false
 | _ => true
theorem Zm0 {φ : List Addr} {h : Heap} {v : Value} {x : PV} (r : VR φ h v x) (e : Zgo x = true) : handedIn v = true := by
 induction r using VR.cs <;> first | rfl | cases e
noncomputable def Zdz (C : Addr) (o : PV) (μ : St) : Option (Nat × List (Str × PV)) := match o with
 | .obj i => (match μ.hp[i]? with
  | some (.ins C' d) => (match decide (C' = C), μ.hp[d]? with
   | true, some (.ns fs) => some (d, fs)
   | _, _ => none)
  | _ => none)
 | _ => none
def Zg0 (C : Addr) (name : Str) (o : PV) : PM PV := λ μ => match Zdz C o μ with
 | some (_, fs) => (match fs.lookup name with
  | some x => (match Zgo x with
   | true => .ok x μ
   | false => .bad)
  | none => .bad)
 | none => .bad
def Zaj (C : Addr) (name : Str) (f : PM PV) : PM PV := f >>= Zg0 C name
def Zg1 (C : Addr) (k : Nat) (o : PV) : PM PV := λ μ => match o with
 | .obj i => (match μ.hp[i]? with
  | some (.slt C' _ fs) => (match decide (C' = C), (fs[k]?).join with
   | true, some x => (match Zgo x with
    | true => .ok x μ
    | false => .bad)
   | _, _ => .bad)
  | _ => .bad)
 | _ => .bad
set_option backward.eqns.nonrecursive true
def Zdk (C : Addr) (k : Nat) (f : PM PV) : PM PV := f >>= Zg1 C k
structure OwnName (c : Cx) (C : Addr) (name : Str) : Prop where
 find : findIn c.K (.ref C) name = some none
 cls : (clsIn c.K C).any (·.hasDict) = true
 ga : findIn c.K (.ref C) "__getattribute__" = some (some (.builtin "object.__getattribute__"))
structure SlotName (c : Cx) (C : Addr) (name : Str) (k : Nat) : Prop where
 find : ∃ p, (∀ od, findObj c.K C od name = some (.bind (.builtin "member_descriptor.__get__") (.ref p))) ∧ slotIn c.K p C = some k ∧ takerIn c.K C name = some (some (.ref p)) ∧ typeIn c.K (.ref p) = some (.type "member_descriptor")
 ga : findIn c.K (.ref C) "__getattribute__" = some (some (.builtin "object.__getattribute__"))
 gattr : findIn c.K (.ref C) "__getattr__" = some none
theorem Zhr {φ : List Addr} {h : Heap} {name : Str} {ds : List DictEntry} {fs : List (Str × PV)} (r : NRs φ h ds fs) : (∀ x, fs.lookup name = some x -> ∃ e, ds.find? (·.key.isStr name) = some e ∧ VR φ h e.val x) ∧ (fs.lookup name = none -> ds.find? (·.key.isStr name) = none) ∧ ds.any (·.refKey) = false := by
 induction r with
 | nil => exact ⟨λ x e => by simp at e, λ _ => rfl, rfl⟩
 | @cons k t e x ds es hk hv hr ih =>
  obtain ⟨i1, i2, i3⟩ := ih
  have ek : e.key.isStr name = (k == name) := by rw [hk]; rfl
  have rk : e.refKey = false := by unfold DictEntry.refKey; rw [hk]
  refine ⟨λ x h => ?_, λ h => ?_, ?_⟩
  ·rw [List.find?_cons, ek]
   rw [lookup_cons] at h
   by_cases q : name = k
   ·subst q; simp at h ⊢; subst h; exact hv
   ·have q1 : (name == k) = false := by simpa using q
    have q2 : (k == name) = false := by simpa using λ e => q e.symm
    rw [q1] at h; rw [q2]; exact i1 x h
  ·rw [List.find?_cons, ek]
   rw [lookup_cons] at h
   by_cases q : name = k
   ·subst q; simp at h
   ·have q1 : (name == k) = false := by simpa using q
    have q2 : (k == name) = false := by simpa using λ e => q e.symm
    rw [q1] at h; rw [q2]; exact i2 h
  ·rw [any_cons, rk, i3]; rfl
section
variable {c : Cx} {F : Fx} {φ : List Addr} {μ : St} {s : Shared}
theorem Ztw {C : Addr} {x : PV} {μ : St} {d : Nat} {fs : List (Str × PV)} (e : Zdz C x μ = some (d, fs)) : ∃ i, x = .obj i ∧ μ.hp[i]? = some (.ins C d) ∧ μ.hp[d]? = some (.ns fs) := by
 cases x with
 | obj i =>
  unfold Zdz at e
  dsimp only at e
  cases hi : μ.hp[i]? with
  | none => rw [hi] at e; exact Zq e
  | some o =>
   rw [hi] at e
   cases o with
   | ins C' d' =>
    dsimp only at e
    cases hC : decide (C' = C) with
    | false => rw [hC] at e; exact Zq e
    | true =>
     rw [hC] at e
     cases hd : μ.hp[d']? with
     | none => rw [hd] at e; exact Zq e
     | some od =>
      rw [hd] at e
      cases od with
      | ns fs' => cases e; exact ⟨i, rfl, Qh hC ▸ hi, hd⟩
      | _ => exact Zq e
   | _ => exact Zq e
 | _ => exact Zq e
theorem Zla (R : Rep c F φ μ s) {C : Addr} {v : Value} {x : PV} {d : Nat} {fs : List (Str × PV)} (r : VR φ s.heap v x) (e : Zdz C x μ = some (d, fs)) :
  ∃ a dx ds n, v = .ref a ∧ φ[d]? = some dx ∧ s.heap.get? a = some { cls := .ref C, dict := some dx, data := .plain } ∧ s.heap.get? dx = some { cls := .type "dict", data := .dict ds.toArray n } ∧ NRs φ s.heap ds fs := by
 obtain ⟨i, rfl, hi, hd⟩ := Ztw e
 obtain ⟨a, rfl, h1⟩ := r.un_obj rfl
 obtain ⟨dx, k1, k2⟩ := (R.objs i a _ h1 hi).inv_ins rfl
 obtain ⟨ds, n, g1, g2⟩ := (R.objs d dx _ k1 hd).inv_ns rfl
 exact ⟨a, dx, ds, n, rfl, k1, k2, g1, g2⟩
theorem Zqh {K : Frag} {C : Addr} {od : Obj} {name : Str} {v : Value} (h1 : findIn K (.ref C) name = some none) (h2 : (clsIn K C).any (·.hasDict) = true) (h3 : lookIn name od = some (some v)) : findObj K C (some od) name = some (.value v) := by
 obtain ⟨cd, hc, hd⟩ := any_some h2
 unfold findObj
 rw [hc, Option.bind_some, h1, Option.bind_some]
 dsimp only [Option.bind_some]
 unfold PySem.W.ownOf
 rw [hd, Qo rfl]
 dsimp only
 rw [h3]; rfl
theorem Ziy {C : Addr} {name : Str} (hC : OwnName c C name) {v : Value} {x : PV} : Sim c F (λ φ h => VR φ h v x) (λ φ h v x => VR φ h v x) (getAttr v name true) (Zg0 C name x) := by
 intro A φ μ s Q E hA R p hb hQ hE
 unfold Zg0 at hb hQ
 cases ho : Zdz C x μ with
 | none => rw [ho] at hb; exact (hb rfl).elim
 | some df =>
  obtain ⟨d, fs⟩ := df
  rw [ho] at hb hQ
  dsimp only at hb hQ
  obtain ⟨a, dx, ds, n, rfl, h1, h2, h3, h4⟩ := Zla R p ho
  cases hl : fs.lookup name with
  | none => rw [hl] at hb; exact (hb rfl).elim
  | some y =>
   rw [hl] at hb hQ
   dsimp only at hb hQ
   cases hr : Zgo y with
   | false => rw [hr] at hb; exact (hb rfl).elim
   | true =>
    rw [hr] at hQ
    obtain ⟨i1, i2, i3⟩ := Zhr (name := name) h4
    obtain ⟨e, he, hv⟩ := i1 y hl
    refine get_value (od := some { cls := .type "dict", data := .dict ds.toArray n }) R.inB ⟨h2, rfl, rfl, h3⟩ hC.ga (Zqh hC.find hC.cls (v := e.val) ?_) (Zm0 hv hr) (hQ _ _ _ _ _ rfl (R.toks _) Ext.refl hv)
    unfold lookIn
    dsimp only
    rw [he]
theorem Zs {C : Addr} {name : Str} (hC : OwnName c C name) {o : Expr} {pos : Pos} {f : PM PV} (hf : Zk c F o f) (he : attributeBase o name F.env (eval o F.env) = eval o F.env) : Zk c F (.Attribute o name pos) (Zaj C name f) := λ A φ μ s Q E hA R p hb hQ hE => by
 unfold Zaj at hb hQ hE
 refine Attribute_any_ (hf.use hA R p hb hE λ a b φ' μ' s' eg R' x r => ?_) (by rw [arm_eval_Attribute, he])
 rw [eg] at hb hQ hE
 exact (Ziy hC).fin hA R' r rfl x hb hQ hE
end
end
end Mine
namespace Mine
open PySem PySem.W PyProof.Rows PySem.Calls Builtin Builtin.ObjectAttr
noncomputable section

set_option backward.eqns.nonrecursive false
noncomputable def Zcc (n : Str) (x : PV) : List (Str × PV) -> List (Str × PV)
 | [] => [(n, x)]
 | (k, y) :: r => match k == n with
  | true => (k, x) :: r
  | false => (k, y) :: Zcc n x r
theorem Zq7 {n : Str} {x : PV} {e : Str × PV} {r : List (Str × PV)} : Zcc n x (e :: r) = (match e.1 == n with | true => (e.1, x) :: r | false => (e.1, e.2) :: Zcc n x r) := rfl
def Zbt (C : Addr) (name : Str) (o y : PV) : PM Unit := λ μ => match Zdz C o μ with
 | some (d, fs) => (match decide (fs.length <= 100) with
  | true => .ok () { fr := μ.fr, hp := μ.hp.set d (.ns (Zcc name y fs)) }
  | false => .bad)
 | none => .bad
noncomputable def Zbu (C : Addr) (k : Nat) (o y : PV) : PM Unit := λ μ => match o with
 | .obj i => (match μ.hp[i]? with
  | some (.slt C' d fs) => (match decide (C' = C), decide (k < 100) with
   | true, true => .ok () { fr := μ.fr, hp := μ.hp.set i (.slt C' d ((fs ++ List.replicate (k + 1 - fs.length) none).set k (some y))) }
   | _, _ => .bad)
  | _ => .bad)
 | _ => .bad
set_option backward.eqns.nonrecursive true
theorem Zq8 {φ : List Addr} {h : Heap} {ds : List DictEntry} {fs : List (Str × PV)} (r : NRs φ h ds fs) : ds.length = fs.length := by
 induction r with
 | nil => rfl
 | cons _ _ _ ih => exact congrArg Nat.succ ih
theorem Zq9 {φ : List Addr} {h : Heap} {name : Str} {v : Value} {y : PV} {hs : Int} {t : Tok} (hv : VR φ h v y) {ds : List DictEntry} {fs : List (Str × PV)} (r : NRs φ h ds fs) :
  (∀ i, ds.findIdx? (·.key.isStr name) = some i -> NRs φ h (ds.modify i λ e => { e with val := v }) (Zcc name y fs)) ∧ (ds.findIdx? (·.key.isStr name) = none -> NRs φ h (ds ++ [⟨hs, .str name t, v⟩]) (Zcc name y fs)) := by
 induction r with
 | nil => exact ⟨λ i e => Zq e, λ _ => .cons rfl hv .nil⟩
 | @cons k t' e x ds es hk hv' hr ih =>
  obtain ⟨i1, i2⟩ := ih
  have ek : e.key.isStr name = (k == name) := by rw [hk]; rfl
  refine ⟨λ i h => ?_, λ h => ?_⟩
  ·rw [List.findIdx?_cons, ek] at h
   rw [Zq7]
   cases q : (k == name) with
   | true =>
    rw [q] at h; simp at h; subst h
    exact .cons (t := t') hk hv hr
   | false =>
    rw [q] at h
    simp only [Bool.false_eq_true, if_false] at h
    cases hf : List.findIdx? (λ x => x.key.isStr name) ds with
    | none => rw [hf] at h; cases h
    | some j =>
     rw [hf] at h; cases h
     exact .cons (t := t') hk hv' (i1 j hf)
  ·rw [List.findIdx?_cons, ek] at h
   rw [Zq7]
   cases q : (k == name) with
   | true => rw [q] at h; simp at h
   | false =>
    rw [q] at h
    simp only [Bool.false_eq_true, if_false, Option.map_eq_none_iff] at h
    exact .cons (t := t') hk hv' (i2 h)
structure OwnStore (c : Cx) (C : Addr) (name : Str) : Prop where
 plain : plainOver c.K C = true
 cls : (clsIn c.K C).any (·.hasDict) = true
 taker : takerIn c.K C name = some none
 sa : findIn c.K (.ref C) "__setattr__" = some (some (.builtin "object.__setattr__"))
section
variable {c : Cx} {F : Fx} {φ : List Addr} {μ : St} {s : Shared}
theorem Zbo {C : Addr} {name : Str} (hC : OwnStore c C name) {v w : Value} {x y : PV} : Sim c F (V2 v w x y) (λ _ _ _ _ => True) (setAttr v name w) (Zbt C name x y) := by
 intro A φ μ s Q E hA R p hb hQ hE
 obtain ⟨rx, ry⟩ := p
 unfold Zbt at hb hQ
 cases ho : Zdz C x μ with
 | none => rw [ho] at hb; exact (hb rfl).elim
 | some df =>
  obtain ⟨d, fs⟩ := df
  rw [ho] at hb hQ
  dsimp only at hb hQ
  obtain ⟨a, dx, ds, n, rfl, h1, h2, h3, h4⟩ := Zla R rx ho
  cases hl : decide (fs.length <= 100) with
  | false => rw [hl] at hb; exact (hb rfl).elim
  | true =>
   rw [hl] at hQ
   dsimp only at hQ
   have hlen := Qh hl
   have I : InstAt s.heap a { cls := .ref C, dict := some dx, data := .plain } C (some { cls := .type "dict", data := .dict ds.toArray n }) := ⟨h2, rfl, rfl, h3⟩
   refine set_plain R.inB I hC.sa (osa_open (s := { s with toks := s.toks + 1 }) R.inB I hC.plain hC.taker λ b => ?_)
   obtain ⟨cd, hc, hd'⟩ := any_some hC.cls
   show wpAny _ _ (storeInOwnDict _ _ _ _ _ _) _ _ _
   refine Qb (Qp (Qb (Qb (wpAny_loadPart h2 (Qb ((looks_clsIn (R.toks (s.toks + 1)).inB hc).here ?_))))))
   rw [hd']
   refine Qp (a := some dx) (Qb (Qp (Qb ?_)))
   unfold nsSet
   refine Qb (Qb (wpAny_askSetting (Qp (Qb (wpAny_mkText (Qb (wpAny_loadPart h3 ?_)))))))
   dsimp only
   obtain ⟨_, _, hrk⟩ := Zhr (name := name) h4
   have cc : (!ds.toArray.any (·.key.isStr name) && ds.toArray.any (·.refKey)) = false := by
    rw [show ds.toArray.any (·.refKey) = false from by rw [List.any_toArray]; exact hrk, Bool.and_false]
   rw [aRefKeyMayBeTheName_at, cc]
   refine wpAny_updatePart h3 ?_
   have hput : ∀ (f : Obj -> Obj), f = Obj.putName name (if name.cps.isEmpty = true then 0 else reduceHash ((model c.prog c.w).w.params.strHash name.cps)) (.str name (s.toks + 1)) w ->
     ∃ ds' n', (s.heap.update dx f).get? dx = some { cls := .type "dict", data := .dict ds'.toArray n' } ∧ ds'.length <= 101 ∧ ∀ h', VR φ h' w y -> NRs φ h' ds fs -> NRs φ h' ds' (Zcc name y fs) := by
    intro f hf
    subst hf
    cases hi : ds.findIdx? (·.key.isStr name) with
    | some i =>
     refine ⟨ds.modify i λ e => { e with val := w }, n, ?_, ?_, λ h' r1 r2 => (Zq9 (hs := 0) (t := 0) r1 r2).1 i hi⟩
     ·refine (Q1 _ h3 ?_).trans ?_ <;> simp only [Obj.putName_eq, Obj.putNameByArray, List.findIdx?_toArray, hi] <;> (try simp) <;> rfl
     ·rw [List.length_modify, Zq8 h4]; omega
    | none =>
     refine ⟨ds ++ [⟨if name.cps.isEmpty = true then 0 else reduceHash ((model c.prog c.w).w.params.strHash name.cps), .str name (s.toks + 1), w⟩], n + 1, ?_, ?_, λ h' r1 r2 => (Zq9 r1 r2).2 hi⟩
     ·refine (Q1 _ h3 ?_).trans ?_ <;> simp only [Obj.putName_eq, Obj.putNameByArray, List.findIdx?_toArray, hi] <;> (try simp) <;> rfl
     ·rw [Qk, Zq8 h4]; simp; omega
   obtain ⟨ds', n', g1, g2, g3⟩ := hput _ rfl
   refine Qb (wpAny_lookBehind g1 (pastItsLine_dict (by rw [Q4, sizeLine_eq]; omega)) ?_)
   obtain ⟨RB, xB⟩ := R.upd (tk := s.toks + 1 + 1) (o := .ns (Zcc name y fs)) h1 (Heap.SameBut.update s.heap dx _) λ hm => .ns g1 (g3 _ (hm _ _ ry) (h4.move hm))
   exact Qp (hQ _ _ _ _ _ rfl RB xB trivial)
end
end
end Mine
namespace Mine
open PySem PySem.W PyProof.Rows PySem.Calls Builtin Builtin.ObjectAttr Builtin.Getset_descriptor
noncomputable section

theorem Zww {φ : List Addr} {h : Heap} {vs : List (Option Value)} {xs : List (Option PV)} (r : ORs φ h vs xs) : ∀ {k : Nat} {x : PV}, (xs[k]?).join = some x -> ∃ v, (vs[k]?).join = some v ∧ VR φ h v x := by
 induction r with
 | nil => exact λ e => nomatch e
 | none b ih =>
  intro k x q
  cases k with
  | zero => cases q
  | succ k => exact ih (k := k) q
 | some a b ih =>
  intro k x q
  cases k with
  | zero => cases q; exact ⟨_, rfl, a⟩
  | succ k => exact ih (k := k) q
theorem Zwx {φ : List Addr} {h : Heap} {vs : List (Option Value)} {xs : List (Option PV)} (r : ORs φ h vs xs) : vs.length = xs.length := by
 induction r with
 | nil => rfl
 | none _ ih => exact congrArg Nat.succ ih
 | some _ _ ih => exact congrArg Nat.succ ih
theorem Zwy {φ : List Addr} {h : Heap} (n : Nat) {vs : List (Option Value)} {xs : List (Option PV)} (r : ORs φ h vs xs) : ORs φ h (vs ++ List.replicate n none) (xs ++ List.replicate n none) := by
 induction r with
 | none _ ih => exact .none ih
 | some a _ ih => exact .some a ih
 | nil =>
  induction n with
  | zero => exact .nil
  | succ n ih => exact .none ih
theorem Zwz {φ : List Addr} {h : Heap} {v : Value} {x : PV} (hv : VR φ h v x) {vs : List (Option Value)} {xs : List (Option PV)} (r : ORs φ h vs xs) : ∀ k, ORs φ h (vs.set k (some v)) (xs.set k (some x)) := by
 induction r with
 | nil => exact λ _ => .nil
 | none b ih => exact λ k => match k with
  | 0 => .some hv b
  | k + 1 => .none (ih k)
 | some a b ih => exact λ k => match k with
  | 0 => .some hv b
  | k + 1 => .some a (ih k)
theorem slotsArr {α : Type} (l : List α) (n k : Nat) (a b : α) : (l.toArray ++ Array.replicate n a).setIfInBounds k b = ((l ++ List.replicate n a).set k b).toArray := by
 apply Array.toList_inj.mp
 simp
structure SlotStore (c : Cx) (C : Addr) (name : Str) (k : Nat) : Prop extends SlotName c C name k where
 plain : plainOver c.K C = true
 sa : findIn c.K (.ref C) "__setattr__" = some (some (.builtin "object.__setattr__"))
section
variable {c : Cx} {F : Fx} {φ : List Addr} {μ : St} {s : Shared}
theorem Ziz {C : Addr} {name : Str} {k : Nat} (hC : SlotName c C name k) {v : Value} {x : PV} : Sim c F (λ φ h => VR φ h v x) (λ φ h v x => VR φ h v x) (getAttr v name true) (Zg1 C k x) := by
 intro A φ μ s Q E hA R p
 refine gen λ O hO hb hQ hE => ?_
 unfold Zg1 at hO
 induction p using VR.cs with
 | @obj i a h1 =>
  dsimp only at hO
  cases hi : μ.hp[i]? with
  | none => rw [hi] at hO; exact (hb hO.symm).elim
  | some ob =>
   rw [hi] at hO
   have q := R.objs i a ob h1 hi
   induction q using OR.cs with
   | @slt C' d dx sl fs k0 k1 k2 =>
    dsimp only at hO
    cases hC' : decide (C' = C) with
    | false => rw [hC'] at hO; exact (hb hO.symm).elim
    | true =>
     have e := Qh hC'
     subst e
     cases hx : (fs[k]?).join with
     | none => rw [hC', hx] at hO; exact (hb hO.symm).elim
     | some y =>
      rw [hC', hx] at hO
      dsimp only at hO
      cases hr : Zgo y with
      | false => rw [hr] at hO; exact (hb hO.symm).elim
      | true =>
       rw [hr] at hO
       obtain ⟨w, hw, hv⟩ := Zww k2 hx
       obtain ⟨p, f1, f2, _⟩ := hC.find
       obtain ⟨odx, hodx⟩ := R.lt (Qm k0)
       have I : InstAt s.heap a { cls := .ref C', dict := some dx, data := .plain, slots := sl.toArray } C' (some odx) := ⟨k1, rfl, rfl, hodx⟩
       refine get_bind R.inB I hC.ga (f1 _) hC.gattr (wpAny_call (slot_get (s := { s with toks := s.toks + 1 }) (R.toks (s.toks + 1)).inB I f2 (v := w) (by simpa using hw) ?_))
       show wpAny _ _ (handedOut w) _ _ _
       rw [handedOut_of (Zm0 hv hr)]
       exact Qp (hQ _ _ _ _ _ hO.symm (R.toks _) Ext.refl hv)
   | _ => exact (hb hO.symm).elim
 | _ => exact (hb hO.symm).elim
theorem Zsb {prog : Program} {w : World} {A : Around} {K : Frag} {x C : Addr} {s : Shared} {R : Result -> Shared -> Prop} {ox : Obj} {od : Option Obj} {v : Value} {p i : Nat} (X : K.In s.heap) (I : InstAt s.heap x ox C od)
  (hp : slotIn K p C = some i) (hi : i < 1000)
  (h : R (.ok (.ret .none)) { s with heap := s.heap.update x λ o => { o with slots := (o.slots ++ Array.replicate (i + 1 - o.slots.size) none).setIfInBounds i (some v) } }) :
  codeAny (model prog w) A (.call (.builtin "member_descriptor.__set__") ⟨[.ref p, .ref x, v], []⟩) R s := by
 obtain ⟨n, tn, owner, behind, tb, d, sl, cd, ho, hc, hm, hb, rfl⟩ := slot_of X hp
 obtain ⟨hh, g, dr, t, os⟩ := s
 have T0 := I.type (M := model prog w)
 have T1 := looks_mroIn (M := model prog w) X hm
 have T2 : Looks (model prog w) hh (Slots.slotNamesOf (.ref C)) cd.slotNames := (looks_clsIn X hc).andThen .now
 have hx := I.at_
 dsimp only at ho hx T0 T1
 have f0 := looks_field (M := model prog w) ho 0 (v := .str n tn) rfl
 have f1 := looks_field (M := model prog w) ho 1 (v := owner) rfl
 have f3 := looks_field (M := model prog w) ho 3 (v := .builtin "proto.slot#set") rfl
 have f4 := looks_field (M := model prog w) ho 4 (v := .int behind tb) rfl
 have f5 : Looks (model prog w) hh (descrItself (.ref p)) [.ref p] := ((Looks.ld (part := none) ho).andThen .now).andThen (Looks.of_pure (by kernel_rfl))
 refine codeAny_call_builtin KF.slot_mset.plain KF.entry_mset (KF.slot_mset.check _ _ _ _ _ _ _ _ ⟨_, ho, rfl⟩ (KF.args_mset _ _ _) ?_)
 unfold Builtin.«member_descriptor.__set__» Builtin.Getset_descriptor.descrSet Builtin.Getset_descriptor.descrStoreThrough Builtin.Getset_descriptor.descrCheckInstance Builtin.Getset_descriptor.descrNameAndClass isInstance
 repeat lk
 refine ⟨Code.quiet_builtin _ (by decide +kernel), codeAny_builtin KF.entry_slotset ?_⟩
 unfold Builtin.«proto.slot#set» Slots.target
 repeat lk
 rw [Qq hb]
 refine Qp (Qb ?_)
 unfold setSlotAt
 dsimp only
 rw [Qq (by rw [sizeLine_eq]; lia)]
 exact wpAny_updatePart hx (Qp h)
theorem Zbp {C : Addr} {name : Str} {k : Nat} (hC : SlotStore c C name k) {v w : Value} {x y : PV} : Sim c F (V2 v w x y) (λ _ _ _ _ => True) (setAttr v name w) (Zbu C k x y) := by
 intro A φ μ s Q E hA R p
 refine gen λ O hO hb hQ hE => ?_
 obtain ⟨rx, ry⟩ := p
 unfold Zbu at hO
 induction rx using VR.cs with
 | @obj i a h1 =>
  dsimp only at hO
  cases hi : μ.hp[i]? with
  | none => rw [hi] at hO; exact (hb hO.symm).elim
  | some ob =>
   rw [hi] at hO
   have q := R.objs i a ob h1 hi
   induction q using OR.cs with
   | @slt C' d dx sl fs k0 k1 k2 =>
    dsimp only at hO
    cases hC' : decide (C' = C) with
    | false => rw [hC'] at hO; exact (hb hO.symm).elim
    | true =>
     have e := Qh hC'
     subst e
     cases hk : decide (k < 100) with
     | false => rw [hC', hk] at hO; exact (hb hO.symm).elim
     | true =>
      rw [hC', hk] at hO
      dsimp only at hO
      obtain ⟨p, f1, f2, f3, f4⟩ := hC.find
      obtain ⟨odx, hodx⟩ := R.lt (Qm k0)
      have I : InstAt s.heap a { cls := .ref C', dict := some dx, data := .plain, slots := sl.toArray } C' (some odx) := ⟨k1, rfl, rfl, hodx⟩
      have hk := Qh hk
      refine set_plain R.inB I hC.sa (osa_open (s := { s with toks := s.toks + 1 }) R.inB I hC.plain f3 λ b => ?_)
      refine Qb (wpAny_rule (Qb (Qu (Qb (Qb ((looks_typeIn (R.toks (s.toks + 1)).inB f4).here ((Looks.of_pure KF.slot_mset.lookup).here (Qu ?_))))))))
      rw [KF.slot_mset.bind]
      refine Qb (Qp (Qb (wpAny_call (Zsb (s := { s with toks := s.toks + 1 }) (R.toks (s.toks + 1)).inB I f2 (Qkb hk rfl) ?_))))
      refine Qp (Qp ?_)
      have hs := Heap.SameBut.update s.heap a λ o => { o with slots := (o.slots ++ Array.replicate (k + 1 - o.slots.size) none).setIfInBounds k (some w) }
      obtain ⟨RB, xB⟩ := R.upd (tk := s.toks + 1) (o := .slt C' d ((fs ++ List.replicate (k + 1 - fs.length) none).set k (some y))) h1 hs λ hm => .slt k0 (sl := (sl ++ List.replicate (k + 1 - sl.length) none).set k (some w))
       ((Q1 _ k1 rfl).trans (by simp only [Q4]; rw [slotsArr])) (by rw [Zwx k2]; exact Zwz (hm _ _ ry) (Zwy _ (k2.move hm)) k)
      exact hQ _ _ _ _ _ hO.symm RB xB trivial
   | _ => exact (hb hO.symm).elim
 | _ => exact (hb hO.symm).elim
end
end
end Mine
namespace Mine
open PySem PySem.W PyProof.Rows PySem.Calls
noncomputable section

noncomputable def Zde (es : List (Int × PV)) (k : Int) : Bool := es.any λ e => e.1 == k
set_option backward.eqns.nonrecursive false
def dPut (es : List (Int × PV)) (k : Int) (x : PV) : List (Int × PV) := match Zde es k with
 | true => es.map λ e => match e.1 == k with
  | true => (e.1, x)
  | false => e
 | false => es ++ [(k, x)]
set_option backward.eqns.nonrecursive true
noncomputable def dDel (es : List (Int × PV)) (k : Int) : List (Int × PV) := es.filter λ e => !(e.1 == k)
theorem Zra {φ : List Addr} {h : Heap} {kvs : List (Int × Value)} {es : List (Int × PV)} (r : DRs φ h kvs es) (k : Int) : (kvs.any λ kv => decide (kv.1 = k)) = Zde es k := by
 induction r with
 | nil => rfl
 | cons a b ih =>
  unfold Zde at ih ⊢
  rw [any_cons, any_cons, ih]
  rfl
theorem Zw0 {φ : List Addr} {h : Heap} {v : Value} {x : PV} (hv : VR φ h v x) {kvs : List (Int × Value)} {es : List (Int × PV)} (r : DRs φ h kvs es) (k : Int) : DRs φ h (kvs.map λ kv => if kv.1 = k then (kv.1, v) else kv) (es.map λ e => match e.1 == k with
  | true => (e.1, x)
  | false => e) := by
 induction r with
 | nil => exact .nil
 | @cons k' _ _ _ _ a b ih =>
  rw [Xa, Xa]
  by_cases e : k' = k
  ·subst e; simp only [Qo, beq_self_eq_true]; exact .cons hv ih
  ·have : (k' == k) = false := by simpa using e
   simp only [Qq e, this]; exact .cons a ih
theorem Zw1 {φ : List Addr} {h : Heap} {k : Int} {v : Value} {x : PV} (hv : VR φ h v x) {kvs : List (Int × Value)} {es : List (Int × PV)} (r : DRs φ h kvs es) : DRs φ h (kvs ++ [(k, v)]) (es ++ [(k, x)]) := by
 induction r with
 | nil => exact .cons hv .nil
 | cons a _ ih => exact .cons a ih
theorem Zw2 {φ : List Addr} {h : Heap} {k : Int} {v : Value} {x : PV} (hv : VR φ h v x) {kvs : List (Int × Value)} {es : List (Int × PV)} (r : DRs φ h kvs es) : DRs φ h (stored kvs k v) (dPut es k x) := by
 unfold stored dPut
 rw [Zra r k]
 cases Zde es k with
 | true => rw [Qo rfl]; exact Zw0 hv r k
 | false => rw [Qq Qt]; exact Zw1 hv r
theorem Zw3 {φ : List Addr} {h : Heap} {k : Int} {kvs : List (Int × Value)} {es : List (Int × PV)} (r : DRs φ h kvs es) : DRs φ h (without kvs k) (dDel es k) := by
 induction r with
 | nil => exact .nil
 | @cons k' _ _ _ _ a b ih =>
  unfold without dDel at ih ⊢
  rw [filter_cons, filter_cons]
  by_cases e : k' = k
  ·rw [Qq (by simp [e]), Qq (by simp [e])]; exact ih
  ·rw [Qo (by simp [e]), Qo (by simp [e])]; exact .cons a ih
section
variable {prog : Program} {w : World} {A : Around} {E : Value -> Shared -> Prop} {s : Shared} {K : Type} [DecidableEq K] {knd : KeyKind prog w K}
theorem Zsc {d : Addr} {kvs : List (K × Value)} {ep : Nat} {k : K} {key v : Value} {Q : Unit -> Shared -> Prop} (hkey : knd.is k key = true) (hm : s.heap.DictAt knd d kvs ep)
  (hQ : ∀ h', h'.DictAt knd d (stored kvs k v) (if (kvs.any λ kv => decide (kv.1 = k)) = true then ep else ep + 1) -> Heap.SameBut d s.heap h' -> Q () { s with heap := h', toks := s.toks + 1 })
  (hsz : kvs.length <= sizeLine) : wpAny (model prog w) A (dictSet d key v) Q E s := by
 obtain ⟨o, es, ho, hc, hd, hk, hp, hn⟩ := hm
 have hes : es.size <= sizeLine := by
  have e1 := hp.length
  have e2 : es.toList.length = es.size := by simp
  exact Qek e1 hsz
 unfold dictSet
 try with_reducible refine Qu ?_
 refine Qb (knd.pyHash hkey ?_)
 unfold dictSetHashed
 try with_reducible refine Qu ?_
 refine Qb (wpAny_dictFind_of (s := { s with toks := s.toks + 1 }) hkey ho hd hk ?_)
 have hidx : (es.findIdx? λ e => knd.is k e.key) = kvs.findIdx? λ kv => decide (kv.1 = k) := by
  rw [<- hp.findIdx k]; obtain ⟨l⟩ := es; simp
 cases hi : es.findIdx? λ e => knd.is k e.key with
 | some i =>
  have hany : (kvs.any λ kv => decide (kv.1 = k)) = true := any_of_findIdx_some (hidx ▸ hi)
  rw [Qo hany] at hQ
  have hl : (es.toList.findIdx? λ e => knd.is k e.key) = some i := by rw [<- hi]; obtain ⟨l⟩ := es; simp
  have hpm := hp.modify hn hl v
  refine Qb (wpAny_rule (Qb (wpAny_updateDict (s := { s with toks := s.toks + 1 }) ho hd (wpAny_point (hQ _ ⟨_, _, Q1 _ ho (Obj.isFreed_of_dict (Obj.data_mapDict hd _)),
   hc.mapDict _, Obj.data_mapDict hd _, hk.modify _ _, ?_, ?_⟩ (Heap.SameBut.update ..))))))
  ·rw [stored, Qo hany]
   obtain ⟨l⟩ := es
   simpa using hpm
  ·rw [stored, Qo hany, keys_map_store]; exact hn
 | none =>
  have hnot : k ∉ kvs.map (·.1) := not_mem_of_findIdx_none (hidx ▸ hi)
  have hany : ¬ (kvs.any λ kv => decide (kv.1 = k)) = true := by
   rw [any_eq_true]; rintro ⟨kv, hkv, he⟩
   exact hnot (mem_map.mpr ⟨kv, hkv, Qh he⟩)
  rw [Qq hany] at hQ
  have hpa := hp.append hkey (knd.hash k) v
  refine Qb (wpAny_rule (wpAny_updateDictKeys (hz := hes) (s := { s with toks := s.toks + 1 }) ho hd (hQ _ ⟨_, _, Q1 _ ho (Obj.isFreed_of_dict (Obj.data_mapDictKeys hd _)),
   hc.mapDictKeys _, Obj.data_mapDictKeys hd _, hk.push hkey _, ?_, ?_⟩ (Heap.SameBut.update ..))))
  ·rw [stored, Qq hany]
   obtain ⟨l⟩ := es
   simpa using hpa
  ·rw [stored, Qq hany, Xi, nodup_append]
   refine ⟨hn, by simp, ?_⟩
   intro a ha b hb
   simp only [Xa, map_nil, Qz] at hb
   subst hb
   exact λ e => hnot (e ▸ ha)
theorem Zsd {d : Addr} {kvs : List (K × Value)} {ep : Nat} {k : K} {key v : Value} {Q : Unit -> Shared -> Prop} (hkey : knd.is k key = true) (hm : s.heap.DictAt knd d kvs ep)
  (hQ : ∀ h', h'.DictAt knd d (stored kvs k v) (if (kvs.any λ kv => decide (kv.1 = k)) = true then ep else ep + 1) -> Heap.SameBut d s.heap h' -> Q () { s with heap := h', toks := s.toks + 1 })
  (hsz : kvs.length <= sizeLine) : wpAny (model prog w) A (setItem (.ref d) key v) Q E s := by
 have hT := hm.dictOf.typeIs
 unfold setItem
 try with_reducible refine Qu ?_
 refine Qb (wpAny_sequenceKey hT (by decide) ?_)
 refine Qb (wpAny_callSpecial?_slot (name := Str.ofString "__setitem__") hT slot_dict_setitem
  (wpAny_call_entry slot_dict_setitem hT entry_dict_setitem ?_ (args_dict_setitem _ _ _)))
 show wpAny _ _ (Builtin.Dict.notOrdered "__setitem__" ⟨[.ref d, key, v], []⟩ >>= _) _ _ s
 refine Qb (wpAny_notOrdered_dict hT ?_)
 show wpAny _ _ (dictSet d key v >>= _) _ _ s
 exact Qb (Zsc hkey hm (λ h' hm' hs' => Qp ⟨.none, rfl, Qp (hQ h' hm' hs')⟩) hsz)
theorem Zse {d : Addr} {kvs : List (K × Value)} {ep : Nat} {k : K} {key : Value} {Q : Option DictEntry -> Shared -> Prop} (hkey : knd.is k key = true) (hm : s.heap.DictAt knd d kvs ep)
  (hthere : (valueAt kvs k).isSome = true) (hsome : ∀ e h', h'.DictAt knd d (without kvs k) (ep + 1) -> Heap.SameBut d s.heap h' -> Q (some e) { s with heap := h', toks := s.toks + 1 })
  (hsz : kvs.length <= sizeLine) : wpAny (model prog w) A (Builtin.Dict.takeOut d key) Q E s := by
 obtain ⟨o, es, ho, hc, hd, hk, hp, hn⟩ := hm
 have hes : es.size <= sizeLine := by
  have e1 := hp.length
  have e2 : es.toList.length = es.size := by simp
  exact Qek e1 hsz
 unfold Builtin.Dict.takeOut
 try with_reducible refine Qu ?_
 refine Qb (knd.pyHash hkey ?_)
 refine Qb (wpAny_dictFind_of (s := { s with toks := s.toks + 1 }) hkey ho hd hk ?_)
 cases hi : es.findIdx? λ e => knd.is k e.key with
 | none =>
  have hn' : valueAt kvs k = none := by
   rw [<- hp.find k]
   have : (es.toList.find? λ e => knd.is k e.key) = none := by
    rw [List.find?_eq_none]
    intro e he
    have := Array.findIdx?_eq_none_iff.mp hi e (Array.mem_toList_iff.mp he)
    simpa using this
   rw [this]; rfl
  rw [hn'] at hthere; cases hthere
 | some i =>
  have hl : (es.toList.findIdx? λ e => knd.is k e.key) = some i := by rw [<- hi]; obtain ⟨l⟩ := es; simp
  obtain ⟨e, he, hek, hev⟩ := hp.at hl
  refine Qb (wpAny_dictEntries (s := { s with toks := s.toks + 1 }) ho hd ?_)
  have he' : es[i]? = some e := by rw [<- he]; obtain ⟨l⟩ := es; simp
  rw [he']
  have hpe := hp.erase hn hl
  refine Qb (wpAny_updateDictKeys (hz := hes) (s := { s with toks := s.toks + 1 }) ho hd (Qp (hsome e _ ⟨_, _, Q1 _ ho (Obj.isFreed_of_dict (Obj.data_mapDictKeys hd _)),
   hc.mapDictKeys _, Obj.data_mapDictKeys hd _, hk.erase _, ?_, nodup_without hn k⟩ (Heap.SameBut.update ..))))
  obtain ⟨l⟩ := es
  simpa using hpe
theorem Zlb {d : Addr} {kvs : List (K × Value)} {ep : Nat} {k : K} {key : Value} {Q : Unit -> Shared -> Prop} (hkey : knd.is k key = true) (hm : s.heap.DictAt knd d kvs ep)
  (hthere : (valueAt kvs k).isSome = true) (hQ : ∀ h', h'.DictAt knd d (without kvs k) (ep + 1) -> Heap.SameBut d s.heap h' -> Q () { s with heap := h', toks := s.toks + 1 })
  (hsz : kvs.length <= sizeLine) : wpAny (model prog w) A (delItem (.ref d) key) Q E s := by
 have hT := hm.dictOf.typeIs
 unfold delItem
 try with_reducible refine Qu ?_
 refine Qb (wpAny_sequenceKey hT (by decide) ?_)
 refine Qb (wpAny_callSpecial?_slot (name := Str.ofString "__delitem__") hT PySem.F.slot_dict_delitem
  (wpAny_call_entry PySem.F.slot_dict_delitem hT PySem.F.entry_dict_delitem ?_ (PySem.F.args_dict_delitem_2 _ _)))
 unfold Builtin.«dict.__delitem__»
 refine Qb ?_
 unfold Builtin.Dict.dictSlotArgs
 refine Qb (wpAny_notOrdered_dict hT ?_)
 show wpAny _ _ (pure (Value.ref d, key)) _ _ s
 refine Qp ?_
 show wpAny _ _ (Builtin.Dict.takeOut d key >>= _) _ _ s
 refine Qb (Zse hkey hm hthere (λ e h' hm' hs' => ?_) hsz)
 exact Qb (wpAny_letGo (Qp ⟨.none, rfl, Qp (hQ h' hm' hs')⟩))
end

abbrev Zfu (c : Cx) (F : Fx) (t : Value -> Sem Unit) (a : PV -> PM Unit) : Prop := ∀ w y, Sim c F (λ φ h => VR φ h w y) (λ _ _ _ _ => True) (t w) (a y)
set_option backward.eqns.nonrecursive false
def Zb9 (o i y : PV) : PM Unit := λ μ => match o, i with
 | .obj j, .int k => (match μ.hp[j]? with
  | some (.lst xs) => (match decide (0 <= k ∧ k < xs.length), Z3 xs with
   | true, true => .ok () { fr := μ.fr, hp := μ.hp.set j (.lst (xs.set k.toNat y)) }
   | _, _ => .bad)
  | some (.dct es ep) => (match Z3 es with
   | true => .ok () { fr := μ.fr, hp := μ.hp.set j (.dct (dPut es k y) (match Zde es k with
    | true => ep
    | false => ep + 1)) }
   | false => .bad)
  | _ => .bad)
 | _, _ => .bad
def Zib (o i : PV) : PM Unit := λ μ => match o, i with
 | .obj j, .int k => (match μ.hp[j]? with
  | some (.dct es ep) => (match Z3 es, Zde es k with
   | true, true => .ok () { fr := μ.fr, hp := μ.hp.set j (.dct (dDel es k) (ep + 1)) }
   | _, _ => .bad)
  | _ => .bad)
 | _, _ => .bad
set_option backward.eqns.nonrecursive true
section
variable {prog : Program} {w : World} {A : Around} {E : Value -> Shared -> Prop} {s : Shared}
theorem Zqi {l : Addr} {vs : List Value} {n : Nat} {k : Int} {t : Tok} {v : Value} {Q : Unit -> Shared -> Prop} (hl : IsL s.heap l vs.toArray n)
  (h0 : 0 <= k) (hn : k < vs.length) (hz : vs.length <= 1000000) (hQ : Q () { s with heap := s.heap.update l (Obj.mapSeq λ xs => xs.setIfInBounds k.toNat v) }) :
  wpAny (model prog w) A (setItem (.ref l) (.int k t) v) Q E s := by
 have hT : s.TypeIs (.ref l) "list" := ⟨_, hl, rfl⟩
 unfold setItem
 try with_reducible refine Qu ?_
 first | refine Qb (Qp ?_) | skip
 refine Qb (wpAny_sequenceKey hT (by decide) ?_)
 refine Qb (wpAny_callSpecial?_slot (name := Str.ofString "__setitem__") hT slot_list_setitem
  (wpAny_call_entry slot_list_setitem hT entry_list_setitem ?_ (args_list_setitem _ _ _)))
 show wpAny _ _ (Builtin.List.listSubscript? (.int k t) >>= _) _ _ s
 refine Qb (wpAny_listSubscript_int (by unfold Builtin.List.listFitsIndex; simp only [Q7, decide_eq_true_eq]; lia) ?_)
 obtain ⟨j, rfl⟩ := Int.eq_ofNat_of_zero_le h0
 have hj : j < vs.toArray.size := by rw [Q4]; exact Qdl hn
 have hx' : vs.toArray[j]? = some vs.toArray[j] := Array.getElem?_eq_getElem hj
 show wpAny _ _ ((seqItemAt l j >>= λ r => pure (r.map (j, ·))) >>= _) _ _ s
 refine Qb (Qb (wpAny_seqItemAt hl rfl (Qp ?_)))
 rw [hx']
 show wpAny _ _ (setSeqItemAt l j v >>= _) _ _ s
 refine Qb (wpAny_setSeqItemAt hl rfl ?_)
 first
  | exact Qb (Qp (Qp ⟨.none, rfl, Qp hQ⟩))
  | exact Qp ⟨.none, rfl, Qp hQ⟩
end
section
variable {c : Cx} {F : Fx}theorem Zw4 {φ : List Addr} {h : Heap} {kvs : List (Int × Value)} {es : List (Int × PV)} (r : DRs φ h kvs es) (k : Int) : (valueAt kvs k).isSome = Zde es k := Zkp r k
noncomputable abbrev VV3 (v w u : Value) (x y z : PV) : List Addr -> Heap -> Prop := λ φ h => VR φ h v x ∧ VR φ h w y ∧ VR φ h u z
theorem Zi0 {v w u : Value} {x y z : PV} : Sim c F (VV3 v w u x y z) (λ _ _ _ _ => True) (setItem v w u) (Zb9 x y z) := by
 intro A φ μ s Q E hA R p
 refine gen λ O hO hb hQ hE => ?_
 obtain ⟨rx, ry, rz⟩ := p
 unfold Zb9 at hO
 induction rx using VR.cs with
 | @obj j a h1 =>
  induction ry using VR.cs with
  | int k t =>
   dsimp only at hO
   cases hi : μ.hp[j]? with
   | none => rw [hi] at hO; exact (hb hO.symm).elim
   | some ob =>
    rw [hi] at hO
    have q := R.objs j a ob h1 hi
    induction q using OR.cs with
    | @lst vs n xs k1 k2 =>
     dsimp only at hO
     cases hd : decide (0 <= k ∧ k < xs.length) with
     | false => rw [hd] at hO; exact (hb hO.symm).elim
     | true =>
      cases hl : Z3 xs with
      | false => rw [hd, hl] at hO; exact (hb hO.symm).elim
      | true =>
       rw [hd, hl] at hO
       obtain ⟨d1, d2⟩ := Qh hd
       have hlen := k2.length
       refine Zqi k1 d1 (by omega) (by rw [hlen]; exact Zco hl) ?_
       obtain ⟨RD, xD⟩ := R.relist (tk := s.toks) h1 k1 (g := λ xs => xs.setIfInBounds k.toNat u) (ws := vs.set k.toNat u) (by simp) (k2.set k.toNat rz)
       exact hQ _ _ _ _ _ hO.symm RD xD trivial
    | @dct kvs es ep k1 k2 =>
     dsimp only at hO
     cases hl : Z3 es with
     | false => rw [hl] at hO; exact (hb hO.symm).elim
     | true =>
      rw [hl] at hO
      refine Zsd (knd := intKind c.prog c.w) (k := k) (by show Value.isInt k (.int k t) = true; simp [Value.isInt]) k1 (λ h' hd' hs' => ?_) (by rw [Zf5 k2]; exact Qj (Zco hl) (by decide))
      rw [Zra k2 k] at hd'
      obtain ⟨RD, xD⟩ := R.upd (tk := s.toks + 1) (o := .dct (dPut es k z) (match Zde es k with
       | true => ep
       | false => ep + 1)) h1 hs' λ hm => .dct (kvs := stored kvs k u) (by
        cases hh : Zde es k with
        | true => rw [hh] at hd'; exact hd'
        | false => rw [hh] at hd'; exact hd') (Zw2 (hm _ _ rz) (k2.move hm))
      exact hQ _ _ _ _ _ hO.symm RD xD trivial
    | _ => exact (hb hO.symm).elim
  | _ => exact (hb hO.symm).elim
 | _ => exact (hb hO.symm).elim
theorem Zoc {v w : Value} {x y : PV} : Sim c F (V2 v w x y) (λ _ _ _ _ => True) (delItem v w) (Zib x y) := by
 intro A φ μ s Q E hA R p
 refine gen λ O hO hb hQ hE => ?_
 obtain ⟨rx, ry⟩ := p
 unfold Zib at hO
 induction rx using VR.cs with
 | @obj j a h1 =>
  induction ry using VR.cs with
  | int k t =>
   dsimp only at hO
   cases hi : μ.hp[j]? with
   | none => rw [hi] at hO; exact (hb hO.symm).elim
   | some ob =>
    rw [hi] at hO
    have q := R.objs j a ob h1 hi
    induction q using OR.cs with
    | @dct kvs es ep k1 k2 =>
     dsimp only at hO
     cases hl : Z3 es with
     | false => rw [hl] at hO; exact (hb hO.symm).elim
     | true =>
      cases hh : Zde es k with
      | false => rw [hl, hh] at hO; exact (hb hO.symm).elim
      | true =>
       rw [hl, hh] at hO
       refine Zlb (knd := intKind c.prog c.w) (k := k) (by show Value.isInt k (.int k t) = true; simp [Value.isInt]) k1 (by rw [Zw4 k2]; exact hh) (λ h' hd' hs' => ?_) (by rw [Zf5 k2]; exact Qj (Zco hl) (by decide))
       obtain ⟨RD, xD⟩ := R.upd (tk := s.toks + 1) (o := .dct (dDel es k) (ep + 1)) h1 hs' λ hm => .dct (kvs := without kvs k) hd' (Zw3 (k2.move hm))
       exact hQ _ _ _ _ _ hO.symm RD xD trivial
    | _ => exact (hb hO.symm).elim
  | _ => exact (hb hO.symm).elim
 | _ => exact (hb hO.symm).elim
def Zt (f : PM PV) (a : PV -> PM Unit) : PM MF := f >>= λ y => a y >>= λ _ => pure .next
theorem Zi {t value : Expr} {pos : Pos} {f : PM PV} {a : PV -> PM Unit} (h : Zk c F value f) (ht : Zfu c F (assign t F.env) a)
  (hs : swapsWithSole [t] value pos.line F.env = pure false) (hw : swappedStores [t] value F.env = pure none) (he : (assignEach [t] F.env).map (·.2) = [assign t F.env]) : Zaz c F (.Assign [t] value pos) (Zt f a) := λ A φ μ s Q E hA R p hb hQ hE => by
 unfold Zt at hb hQ hE
 refine wpAny_Assign_stores (h.use hA R p hb hE λ v y φ' μ' s' eg R' x r => ?_) hs hw
 rw [eg] at hb hQ hE
 rw [he]
 show wpAny _ _ (assign t F.env v) _ _ _
 refine (ht v y).use hA R' r hb (λ e y φ' μ' s' he R' x' r => hE e y φ' μ' s' he R' (x.trans x') (r.le x.dom)) λ vC y2 φC μ2 sC eg RC xC rC => ?_
 rw [eg] at hQ
 exact hQ _ _ _ _ _ rfl RC (x.trans xC) .next
def sAsg2 (f : PM PV) (a a' : PV -> PM Unit) : PM MF := f >>= λ y => a y >>= λ _ => a' y >>= λ _ => pure .next
theorem Zqj {t t' value : Expr} {pos : Pos} {f : PM PV} {a a' : PV -> PM Unit} (h : Zk c F value f) (ht : Zfu c F (assign t F.env) a) (ht' : Zfu c F (assign t' F.env) a')
  (hw : swappedStores [t, t'] value F.env = pure none) (he : (assignEach [t, t'] F.env).map (·.2) = [assign t F.env, assign t' F.env]) : Zaz c F (.Assign [t, t'] value pos) (sAsg2 f a a') := λ A φ μ s Q E hA R p hb hQ hE => by
 unfold sAsg2 at hb hQ hE
 refine wpAny_Assign_stores (h.use hA R p hb hE λ v y φ' μ' s' eg R' x r => ?_) rfl hw
 rw [eg] at hb hQ hE
 rw [he]
 refine Qb (Qu ((ht v y).use hA R' r hb (λ e y φ' μ' s' he R' x' r => hE e y φ' μ' s' he R' (x.trans x') (r.le x.dom)) λ vC y2 φC μ2 sC eg RC xC rC => ?_))
 rw [eg] at hb hQ hE
 refine (ht' v y).use hA RC (r.ext R' xC) hb (λ e y φ' μ' s' he R' x' r => hE e y φ' μ' s' he R' (x.trans (xC.trans x')) (r.le (x.trans xC).dom)) λ vD y3 φD μD sD eg RD xD rD => ?_
 rw [eg] at hQ
 exact hQ _ _ _ _ _ rfl RD (x.trans (xC.trans xD)) .next
def eWal (f : PM PV) (a : PV -> PM Unit) : PM PV := f >>= λ y => a y >>= λ _ => pure y
theorem Zih {t value : Expr} {pos : Pos} {f : PM PV} {a : PV -> PM Unit} (h : Zk c F value f) (ht : Zfu c F (assign t F.env) a) : Zk c F (.NamedExpr t value pos) (eWal f a) := λ A φ μ s Q E hA R p hb hQ hE => by
 unfold eWal at hb hQ hE
 refine wpAny_NamedExpr (h.use hA R p hb hE λ v y φ' μ' s' eg R' x r => ?_)
 rw [eg] at hb hQ hE
 refine ((ht v y).use hA R' r hb (λ e y φ' μ' s' he R' x' r => hE e y φ' μ' s' he R' (x.trans x') (r.le x.dom)) λ vC y2 φC μ2 sC eg RC xC rC => ?_)
 rw [eg] at hQ
 exact hQ _ _ _ _ _ rfl RC (x.trans xC) (r.ext R' xC)def Zdl (ps : PV -> PV -> PM Unit) (g : PM PV) (y : PV) : PM Unit := g >>= λ x => ps x y
theorem Zbn {o : Expr} {attr : Str} {pos : Pos} {g : PM PV} {ps : PV -> PV -> PM Unit} (h : Zk c F o g) (hset : ∀ v w x y, Sim c F (V2 v w x y) (λ _ _ _ _ => True) (setAttr v attr w) (ps x y)) : Zfu c F (assign (.Attribute o attr pos) F.env) (Zdl ps g) := λ w y A φ μ s Q E hA R p hb hQ hE => by
 unfold Zdl at hb hQ hE
 rw [arm_assign_Attribute]
 refine Qb (Qu ((h.keep (v := w) (x := y)).use hA R p hb hE λ v x φ' μ' s' eg R' x' r => ?_))
 rw [eg] at hb hQ hE
 refine Qb (wpAny_standAt (Qb (Qu ((hset v w x y).fin hA R' ⟨r.2, r.1⟩ rfl x' hb (λ a b φC μ2 sC e RC xC rC => ?_) hE))))
 exact wpAny_releaseD (hQ a b φC μ2 sC e RC xC rC)def tSub (g h : PM PV) (y : PV) : PM Unit := g >>= λ x => h >>= λ k => Zb9 x k y
theorem Zod {o i : Expr} {pos : Pos} {g h : PM PV} (hg : Zk c F o g) (hh : Zk c F i h) : Zfu c F (assign (.Subscript o i pos) F.env) (tSub g h) := λ w y A φ μ s Q E hA R p hb hQ hE => by
 unfold tSub at hb hQ hE
 rw [arm_assign_Subscript]
 refine Qb (Qu ((hg.keep (v := w) (x := y)).use hA R p hb hE λ v x φ' μ' s' eg R' x' r => ?_))
 rw [eg] at hb hQ hE
 refine Qb (Qu (hh.use hA R' trivial hb (λ e y φ' μ' s' he R' x'' r => hE e y φ' μ' s' he R' (x'.trans x'') (r.le x'.dom)) λ k j φC μ2 sC eg RC xC rC => ?_))
 rw [eg] at hb hQ hE
 refine Qb (wpAny_standAt (Qb (Qu (Zi0.fin hA RC ⟨r.2.ext R' xC, rC, r.1.ext R' xC⟩ rfl (x'.trans xC) hb (λ a b φD μD sD e RD xD rD => ?_) hE))))
 exact wpAny_releaseD (hQ a b φD μD sD e RD xD rD)
end

set_option backward.eqns.nonrecursive false
def pInp : Operator -> PV -> PV -> PM PV
 | .Add => Zb3 (λ i j => i + j) λ _ => true
 | .Sub => Zb3 (λ i j => i - j) λ _ => true
 | _ => λ _ _ => PM.I
set_option backward.eqns.nonrecursive true
section
variable {c : Cx} {F : Fx}
theorem Zi1 {f : Int -> Int -> Int} {op : Operator} {v w : Value} {x y : PV}
  (hf : ∀ (A : Around) (s : Shared) (E : Value -> Shared -> Prop) (Q : Value -> Shared -> Prop) (i : Int) (t : Tok) (j : Int) (u : Tok), Q (.int (f i j) s.toks) { s with toks := s.toks + 1 } -> wpAny (model c.prog c.w) A (inplaceOp op (.int i t) (.int j u)) Q E s) :
  Sim c F (V2 v w x y) (λ φ h a b => VR φ h a b) (inplaceOp op v w) (Zb3 f (λ _ => true) x y) := by
 intro A φ μ s Q E hA R p hb hQ hE
 obtain ⟨rx, ry⟩ := p
 induction rx using VR.cs with
 | int i t =>
  induction ry using VR.cs with
  | int j u =>
   have e : Zb3 f (λ _ => true) (.int i) (.int j) μ = .ok (.int (f i j)) μ := rfl
   rw [e] at hQ
   with_reducible refine hf A s E Q i t j u ?_
   refine hQ _ (.int (f i j)) φ μ _ ?_ ?_ ?_ ?_
   ·rfl
   ·exact R.toks _
   ·exact Ext.refl
   ·exact .int _ _
  | _ => exact (hb rfl).elim
 | _ => exact (hb rfl).elim
theorem Zrb {op : Operator} {v w : Value} {x y : PV} : Sim c F (V2 v w x y) (λ φ h a b => VR φ h a b) (inplaceOp op v w) (pInp op x y) := by
 cases op with
 | Add => exact Zi1 (op := .Add) (f := λ i j => i + j) λ A s E Q i t j u h => AutoIntOps.iadd_0 h
 | Sub => exact Zi1 (op := .Sub) (f := λ i j => i - j) λ A s E Q i t j u h => AutoIntOps.isub_0 h
 | _ => exact Sim.J
def Zd2 (op : Operator) (g : PM PV) (pg : PV -> PM PV) (ps : PV -> PV -> PM Unit) (f : PM PV) : PM MF := g >>= λ x => pg x >>= λ old => f >>= λ v => pInp op old v >>= λ new => ps x new >>= λ _ => pure .next
theorem Ze9 {o value : Expr} {attr : Str} {tpos pos : Pos} {op : Operator} {f g : PM PV} {pg : PV -> PM PV} {ps : PV -> PV -> PM Unit} (hg : Zk c F o g) (hf : Zk c F value f)
  (hget : ∀ v x, Sim c F (λ φ h => VR φ h v x) (λ φ h v x => VR φ h v x) (getAttr v attr true) (pg x)) (hset : ∀ v w x y, Sim c F (V2 v w x y) (λ _ _ _ _ => True) (setAttr v attr w) (ps x y)) :
  Zaz c F (.AugAssign (.Attribute o attr tpos) op value pos) (Zd2 op g pg ps f) := λ A φ μ s Q E hA R p hb hQ hE => by
 unfold Zd2 at hb hQ hE
 refine wpAny_AugAssign_AttributeAny (hg.use hA R p hb hE λ ov x φ1 μ1 s1 eg RB xB rB => ?_)
 rw [eg] at hb hQ hE
 have E1 : ∀ {h' : Heap} {φ'}, Ext F.nss F.cls φ1 s1.heap φ' h' -> Ext F.nss F.cls φ s.heap φ' h' := λ z => xB.trans z
 refine (hget ov x).use hA RB rB hb (λ e y φ' μ' s' he R' x' r => hE e y φ' μ' s' he R' (xB.trans x') (r.le xB.dom)) λ old y φC μ2 sC eg RC xC rC => ?_
 rw [eg] at hb hQ hE
 refine hf.use hA RC trivial hb (λ e y φ' μ' s' he R' x' r => hE e y φ' μ' s' he R' (xB.trans (xC.trans x')) (r.le (xB.trans xC).dom)) λ v z φD μD sD eg RD xD rD => ?_
 rw [eg] at hb hQ hE
 refine Zrb.use hA RD ⟨rC.ext RC xD, rD⟩ hb (λ e y φ' μ' s' he R' x' r => hE e y φ' μ' s' he R' (xB.trans (xC.trans (xD.trans x'))) (r.le (xB.trans (xC.trans xD)).dom)) λ new n φ4 μ4 s4 eg R4 xE r4 => ?_
 rw [eg] at hb hQ hE
 refine (hset ov new x n).use hA R4 ⟨((rB.ext RB xC).ext RC xD).ext RD xE, r4⟩ hb (λ e y φ' μ' s' he R' x' r => hE e y φ' μ' s' he R' (xB.trans (xC.trans (xD.trans (xE.trans x')))) (r.le (xB.trans (xC.trans (xD.trans xE))).dom)) λ _ _ φ5 μ5 s5 eg R5 x₅ r5 => ?_
 rw [eg] at hQ
 exact hQ _ _ _ _ _ rfl R5 (xB.trans (xC.trans (xD.trans (xE.trans x₅)))) .next
def Zj2 (op : Operator) (g h f : PM PV) : PM MF := g >>= λ x => h >>= λ k => Zby x k >>= λ old => f >>= λ v => pInp op old v >>= λ new => Zb9 x k new >>= λ _ => pure .next
theorem Zsf {o i value : Expr} {tpos pos : Pos} {op : Operator} {f g h : PM PV} (hg : Zk c F o g) (hh : Zk c F i h) (hf : Zk c F value f)
  (hi : ∀ ov iv new, augStore i ov iv new = (do holding [new, ov, iv] (setItem ov iv new); release [new, ov, iv] []; pure .next)) :
  Zaz c F (.AugAssign (.Subscript o i tpos) op value pos) (Zj2 op g h f) := λ A φ μ s Q E hA R p hb hQ hE => by
 unfold Zj2 at hb hQ hE
 refine PySem.wpAny_AugAssign_SubscriptAny (hg.use hA R p hb hE λ ov x φ1 μ1 s1 eg RB xB rB => ?_) hi
 rw [eg] at hb hQ hE
 refine hh.use hA RB trivial hb (λ e y φ' μ' s' he R' x' r => hE e y φ' μ' s' he R' (xB.trans x') (r.le xB.dom)) λ iv k φC μ2 sC eg RC xC rC => ?_
 rw [eg] at hb hQ hE
 refine Zn6.use hA RC ⟨rB.ext RB xC, rC⟩ hb (λ e y φ' μ' s' he R' x' r => hE e y φ' μ' s' he R' (xB.trans (xC.trans x')) (r.le (xB.trans xC).dom)) λ old y φD μD sD eg RD xD rD => ?_
 rw [eg] at hb hQ hE
 refine hf.use hA RD trivial hb (λ e y φ' μ' s' he R' x' r => hE e y φ' μ' s' he R' (xB.trans (xC.trans (xD.trans x'))) (r.le (xB.trans (xC.trans xD)).dom)) λ v z φ4 μ4 s4 eg R4 xE r4 => ?_
 rw [eg] at hb hQ hE
 refine Zrb.use hA R4 ⟨rD.ext RD xE, r4⟩ hb (λ e y φ' μ' s' he R' x' r => hE e y φ' μ' s' he R' (xB.trans (xC.trans (xD.trans (xE.trans x')))) (r.le (xB.trans (xC.trans (xD.trans xE))).dom)) λ new n φ5 μ5 s5 eg R5 x₅ r5 => ?_
 rw [eg] at hb hQ hE
 refine Zi0.use hA R5 ⟨(((rB.ext RB xC).ext RC xD).ext RD xE).ext R4 x₅, ((rC.ext RC xD).ext RD xE).ext R4 x₅, r5⟩ hb (λ e y φ' μ' s' he R' x' r => hE e y φ' μ' s' he R' (xB.trans (xC.trans (xD.trans (xE.trans (x₅.trans x'))))) (r.le (xB.trans (xC.trans (xD.trans (xE.trans x₅)))).dom)) λ _ _ φ6 μ6 s6 eg R6 x₆ r6 => ?_
 rw [eg] at hQ
 exact hQ _ _ _ _ _ rfl R6 (xB.trans (xC.trans (xD.trans (xE.trans (x₅.trans x₆))))) .next
def sDel (g h : PM PV) : PM MF := g >>= λ x => h >>= λ k => Zib x k >>= λ _ => pure .next
theorem Zsg {o i : Expr} {tpos pos : Pos} {g h : PM PV} (hg : Zk c F o g) (hh : Zk c F i h) : Zaz c F (.Delete [.Subscript o i tpos] pos) (sDel g h) := λ A φ μ s Q E hA R p hb hQ hE => by
 unfold sDel at hb hQ hE
 refine wpAny_Delete (wpAny_deleteEach_cons (delete_Subscript (hg.use hA R p hb hE λ ov x φ1 μ1 s1 eg RB xB rB => ?_)))
 rw [eg] at hb hQ hE
 refine hh.use hA RB trivial hb (λ e y φ' μ' s' he R' x' r => hE e y φ' μ' s' he R' (xB.trans x') (r.le xB.dom)) λ iv k φC μ2 sC eg RC xC rC => ?_
 rw [eg] at hb hQ hE
 refine Zoc.use hA RC ⟨rB.ext RB xC, rC⟩ hb (λ e y φ' μ' s' he R' x' r => hE e y φ' μ' s' he R' (xB.trans (xC.trans x')) (r.le (xB.trans xC).dom)) λ _ _ φD μD sD eg RD xD rD => ?_
 rw [eg] at hQ
 exact wpAny_deleteEach_nil (hQ _ _ _ _ _ rfl RD (xB.trans (xC.trans xD)) .next)
end
structure MethAt (c : Cx) (C : Addr) (name : Str) (f : Addr) : Prop where
 find : findIn c.K (.ref C) name = some (some (.ref f))
 fn : typeIn c.K (.ref f) = some (.type "function")
 ga : findIn c.K (.ref C) "__getattribute__" = some (some (.builtin "object.__getattribute__"))
 gattr : findIn c.K (.ref C) "__getattr__" = some none
 cls : (clsIn c.K C).any (·.hasDict) = true
 special : specialIn c.K (.ref f) "__get__" = some (some (.builtin "function.__get__"))
 takes : takesIn c.K (.ref f) = some false
 copied : copiedNames.contains name = false
section
variable {c : Cx} {F : Fx}
set_option backward.eqns.nonrecursive false
def Zd0 (C : Addr) (name : Str) (o : PV) : PM Unit := λ μ => match Zdz C o μ with
 | some (_, fs) => (match fs.lookup name with
  | none => .ok () μ
  | some _ => .bad)
 | none => .bad
theorem Zsh {M : Model} {A : Around} {E : Value -> Shared -> Prop} {s : Shared} {dx : Addr} {ds : List DictEntry} {n : Nat} {name : Str} {Q : Option Value -> Shared -> Prop} (h3 : s.heap.get? dx = some { cls := .type "dict", data := .dict ds.toArray n })
  (hn : ds.find? (·.key.isStr name) = none) (hr : ds.any (·.refKey) = false) (h : Q none s) : wpAny M A (nsGet dx name) Q E s := by
 unfold nsGet
 refine Qb (wpAny_loadPart h3 ?_)
 rw [nsLook_of (r := none) (by unfold lookIn; dsimp only; rw [hn, hr]; rfl)]
 exact Qp h
theorem Zii {C f : Addr} {name : Str} (hM : MethAt c C name f) {v : Value} {x : PV} {pl : Sem Bool} : Sim c F (λ φ h => VR φ h v x) (λ φ h p _ => p = (.ref f, [v]) ∧ VR φ h v x) (getMethod v name pl) (Zd0 C name x) := by
 intro A φ μ s Q E hA R p
 refine gen λ O hO hb hQ hE => ?_
 unfold Zd0 at hO
 cases ho : Zdz C x μ with
 | none => rw [ho] at hO; exact (hb hO.symm).elim
 | some df =>
  obtain ⟨d, fs⟩ := df
  rw [ho] at hO
  dsimp only at hO
  obtain ⟨a, dx, ds, n, rfl, h1, h2, h3, h4⟩ := Zla R p ho
  cases hl : fs.lookup name with
  | some y => rw [hl] at hO; exact (hb hO.symm).elim
  | none =>
   rw [hl] at hO
   obtain ⟨_, i2, i3⟩ := Zhr (name := name) h4
   have I : InstAt s.heap a { cls := .ref C, dict := some dx, data := .plain } C (some { cls := .type "dict", data := .dict ds.toArray n }) := ⟨h2, rfl, rfl, h3⟩
   have T := I.type (M := model c.prog c.w)
   have X := R.inB
   unfold getMethod specialOf
   refine Qb (Qb (T.here ((looks_findIn X hM.ga).here ?_)))
   show wpAny _ _ (if (Manifest.canonical "object.__getattribute__" != "object.__getattribute__") = true then _ else _) _ _ _
   rw [Qq (by decide +kernel)]
   refine Qb (Qb (T.here ((looks_findIn X hM.gattr).here ?_)))
   rw [Qq (by decide)]
   refine Qb (Qb (T.here ((looks_findIn X hM.find).here ?_)))
   dsimp only
   refine Qb ((looks_typeIn X hM.fn).here ?_)
   rw [Qq (by decide)]
   refine Qb (wpAny_loadPart h2 ?_)
   dsimp only
   refine Qb (Zsh h3 (i2 hl) i3 ?_)
   rw [Qq (by decide)]
   exact Qb (wpAny_rule (Qp (hQ _ () φ μ s hO.symm R Ext.refl ⟨rfl, p⟩)))
end

theorem Zoe {K : Frag} {C f : Addr} {od : Obj} {name : Str} (h1 : findIn K (.ref C) name = some (some (.ref f))) (h2 : (clsIn K C).any (·.hasDict) = true) (h3 : lookIn name od = some none)
  (h4 : specialIn K (.ref f) "__get__" = some (some (.builtin "function.__get__"))) (h5 : takesIn K (.ref f) = some false) (h6 : copiedNames.contains name = false) : findObj K C (some od) name = some (.bind (.builtin "function.__get__") (.ref f)) := by
 obtain ⟨cd, hc, hd⟩ := any_some h2
 unfold findObj
 rw [hc, Option.bind_some, h1, Option.bind_some]
 dsimp only
 rw [h4, Option.bind_some]
 dsimp only
 rw [h5, Option.bind_some]
 unfold PySem.W.ownOf
 rw [hd, Qo rfl]
 dsimp only
 rw [h3, Option.bind_some]
 dsimp only
 rw [h6, Bool.false_and, Qq Qt]
section
variable {c : Cx} {F : Fx}def Zb5 (C : Addr) (name : Str) (fo : PM PV) (g : PM (List PV)) (k : List PV -> PM PV) : PM PV := fo >>= λ x => Zd0 C name x >>= λ _ => g >>= λ ys => k (x :: ys)
theorem Zof {C f : Addr} {fd : FuncData} {body : List Stmt} {name : Str} (hM : MethAt c C name f) (hf : FnAt c f fd body) {o : Expr} {apos pos : Pos} {args : List Expr} {fo : PM PV} {g : PM (List PV)} {k : List PV -> PM PV} {st : Bool}
  (hbase : attributeBase o name F.env (eval o F.env) = eval o F.env) (hst : methodCallForm (args.length + 0) (backTo pos (starEach args F.env)) [] = st)
  (hpos : (apos.endLine == pos.line) = true) (ho : Zk c F o fo) (hargs : CallArgs c F (starEach args F.env) g)
  (hcall : ∀ vs xs, ∀ (A : Around) (φ : List Addr) (μ : St) (s : Shared) (R : Result -> Shared -> Prop), ACtx F A -> Rep c F φ μ s -> VRs φ s.heap vs xs -> k xs μ ≠ .bad ->
   (∀ v y φ' μ' s', k xs μ = .ok y μ' -> Rep c F φ' μ' s' -> Ext F.nss F.cls φ s.heap φ' s'.heap -> VR φ' s'.heap v y -> R (.ok (.ret v)) s') ->
   (∀ e x φ' μ' s', k xs μ = .exc x μ' -> Rep c F φ' μ' s' -> Ext F.nss F.cls φ s.heap φ' s'.heap -> ExcR c (dom s.heap) φ' s'.heap e x -> R (.error e) s') -> codeAny (model c.prog c.w) A (.call (.ref f) ⟨vs, []⟩) R s) :
  Zk c F (.Call (.Attribute o name apos) args [] pos) (Zb5 C name fo g k) := λ A φ μ s Q E hA R p hb hQ hE => by
 unfold Zb5 at hb hQ hE
 rw [arm_eval_Call, hbase]
 refine Qb (ho.use hA R p hb hE λ v x φ1 μ1 s1 eg RB xB rB => ?_)
 rw [eg] at hb hQ hE
 refine Qb (wpAny_standAt ?_)
 unfold methodCall
 have hp : methodCallPos st o F.env apos pos = pure pos := by unfold methodCallPos; simp [hpos]
 have hform : methodCallForm (args.length + ([] : List Keyword).length) (backTo pos (starEach args F.env)) (backToKw pos (keywordEach [] F.env)) = st := hst
 rw [hform]
 cases st with
 | true =>
  refine Qb (Qu ((Zii hM).use hA RB rB hb (λ e y φ' μ' s' he R' x' r => hE e y φ' μ' s' he R' (xB.trans x') (r.le xB.dom)) λ pr _ φC μ2 sC eg RC xC rC => ?_))
  rw [eg] at hb hQ hE
  obtain ⟨rfl, rC⟩ := rC
  refine Qb (wpAny_of_eq hp ?_)
  show wpAny _ _ (callWith pos (.ref f) [v] (backTo pos (starEach args F.env)) []) _ _ _
  refine (Zc5 (k := λ ys => k (x :: ys)) (P := λ φ h => VR φ h v x) hargs (λ _ _ _ _ _ R e r => r.ext R e) (λ φ h X _ => Zq6 hf φ h X trivial) (λ vs ys A φ μ s Q E hA R p hb hQ hE => ?_)).fin hA RC rC rfl (xB.trans xC) hb hQ hE
  exact wpAny_call (hcall ([v] ++ vs) (x :: ys) A φ μ s _ hA R (.cons p.1 p.2) hb (λ v y φ' μ' s' e R' x' r => hQ v y φ' μ' s' e R' x' r) λ e x φ' μ' s' he R' x' r => hE e x φ' μ' s' he R' x' r)
 | false =>
  show wpAny _ _ (holding [v] (do pure (<- getAttr v name true, [])) >>= _) _ _ _
  have hne : Zd0 C name x μ1 ≠ .bad := λ e => hb (by rw [PM.B, e])
  unfold Zd0 at hne
  cases hown : Zdz C x μ1 with
  | none => rw [hown] at hne; exact (hne rfl).elim
  | some df =>
   obtain ⟨d, fs⟩ := df
   rw [hown] at hne
   dsimp only at hne
   obtain ⟨a, dx, ds, n, rfl, h1, h2, h3, h4⟩ := Zla RB rB hown
   cases hl : fs.lookup name with
   | some y => rw [hl] at hne; exact (hne rfl).elim
   | none =>
    have hk : Zd0 C name x μ1 = .ok () μ1 := by unfold Zd0; rw [hown]; dsimp only; rw [hl]
    rw [PM.H hk] at hb hQ hE
    obtain ⟨_, i2, i3⟩ := Zhr (name := name) h4
    have I : InstAt s1.heap a { cls := .ref C, dict := some dx, data := .plain } C (some { cls := .type "dict", data := .dict ds.toArray n }) := ⟨h2, rfl, rfl, h3⟩
    have hlk : lookIn name { cls := .type "dict", data := .dict ds.toArray n } = some none := by
     unfold lookIn; dsimp only; rw [i2 hl, i3]; rfl
    have hfo := Zoe hM.find hM.cls hlk hM.special hM.takes hM.copied
    refine Qb (Qu (Qb (get_bind RB.inB I hM.ga hfo hM.gattr (wpAny_call (fn_get (s := { s1 with toks := s1.toks + 1 }) (RB.toks (s1.toks + 1)).inB hM.fn ?_)))))
    show wpAny _ _ (handedOut (.ref s1.heap.objs.size)) _ _ _
    rw [handedOut_of rfl]
    refine Qp (Qp ?_)
    refine Qb (wpAny_of_eq hp ?_)
    obtain ⟨RC, xC⟩ := RB.push (methodObj (.ref f) (.ref a)) (tk := s1.toks + 1)
    have hself : (s1.heap.push (methodObj (.ref f) (.ref a))).get? s1.heap.objs.size = some (methodObj (.ref f) (.ref a)) := Qw _ rfl
    show wpAny _ _ (callWith pos (.ref s1.heap.objs.size) [] (backTo pos (starEach args F.env)) []) _ _ _
    have hzz : ¬ FzO (methodObj (.ref f) (.ref a)) := Zfy (n := "method") rfl (by decide) (by decide) (by decide) (by decide)
    refine (Zc5 (k := λ ys => k (x :: ys)) (P := λ φ h => (s1.heap.objs.size ∉ φ ∧ h.get? s1.heap.objs.size = some (methodObj (.ref f) (.ref a))) ∧ VR φ h (.ref a) x) hargs (λ φ μ s φ' h' R e r => ?_) (λ φ h X hp => ?_) (λ vs ys A φ μ s Q E hA R p hb hQ hE => ?_)).fin hA RC ⟨⟨λ hm => Qe (RB.phiLt hm) (Q6 _), hself⟩, rB.ext RB xC⟩ rfl (xB.trans xC) hb hQ hE
    ·obtain ⟨⟨q1, q2⟩, q3⟩ := r
     refine ⟨⟨e.nin q2 q1, ?_⟩, q3.ext R e⟩
     have ho := R.notOwn q2 (.inr ⟨_, rfl⟩)
     rcases e.old _ _ q2 q1 ho.1 ho.2 with z | ⟨⟨es, ep, z⟩, _⟩
     ·exact z
     ·cases z
    ·obtain ⟨oc, od, osl, hlkf⟩ := hf.at_
     refine ⟨.boundFrame, .inr (.inr rfl), (Looks.ld (part := none) hp.1.2).andThen ?_⟩
     exact (Looks.ld (part := none) (X _ _ hlkf)).andThen .now
    ·refine wpAny_call (ks_codeAny_call_bound p.1.1.2 ?_)
     exact hcall (.ref a :: vs) (x :: ys) A φ μ s _ hA R (.cons p.1.2 p.2) hb (λ v y φ' μ' s' e R' x' r => hQ v y φ' μ' s' e R' x' r) λ e x φ' μ' s' he R' x' r => hE e x φ' μ' s' he R' x' r
end

theorem Ztx (C : Addr) (rest : List Value) (kw : List (Str × Value)) : (Code.builtin "type.__call__" ⟨.ref C :: rest, kw⟩).weight = 1 := by kernel_rfl
theorem Zw5 (C : Addr) (rest : List Value) (kw : List (Str × Value)) : (Code.builtin "type.__call__" ⟨.ref C :: rest, kw⟩).envs = [] := by kernel_rfl
theorem Zty (C : Addr) (rest : List Value) (kw : List (Str × Value)) : (Code.builtin "type.__call__" ⟨.ref C :: rest, kw⟩).guards = [] := by kernel_rfl
theorem Zu8 (C : Addr) (rest : List Value) (kw : List (Str × Value)) : (Code.builtin "type.__call__" ⟨.ref C :: rest, kw⟩).cUnits = 1 := by kernel_rfl
structure MakeAt (c : Cx) (C f : Addr) : Prop where
 makes : makesIn c.K C = true
 init : findIn c.K (.ref C) "__init__" = some (some (.ref f))
 fn : typeIn c.K (.ref f) = some (.type "function")
 keep : keepIn c.K (.ref C) = true
noncomputable def lower (F : Fx) (n : Nat) : Fx := { F with lv := n }
section
variable {c : Cx} {F : Fx}
theorem Rep.lower {φ : List Addr} {μ : St} {s : Shared} {n : Nat} (R : Rep c F φ μ s) : Rep c (Mine.lower F n) φ μ s :=
 ⟨R.ok, R.keep, R.os, R.gens, R.len, R.nodup, R.phiB, R.objs, R.flen, R.lnodup, R.nss, R.cls, R.vloc, R.vcell, R.frm⟩
theorem Rep.raise {φ : List Addr} {μ : St} {s : Shared} {n : Nat} (R : Rep c (Mine.lower F n) φ μ s) : Rep c F φ μ s :=
 ⟨R.ok, R.keep, R.os, R.gens, R.len, R.nodup, R.phiB, R.objs, R.flen, R.lnodup, R.nss, R.cls, R.vloc, R.vcell, R.frm⟩
set_option backward.eqns.nonrecursive false
noncomputable def Zbv (C : Addr) (slotted : Bool) (d : Nat) : MO := match slotted with
 | true => .slt C d []
 | false => .ins C d
def Zmp (v r : PV) : PM PV := match r with
 | .none => pure v
 | _ => PM.I
def newM (C : Addr) (slotted : Bool) (k : List PV -> PM PV) (xs : List PV) : PM PV :=
 Zdv (.ns []) >>= λ d => Zdv (Zbv C slotted d) >>= λ i => k (.obj i :: xs) >>= Zmp (.obj i)
theorem Zw6 {C f : Addr} {slotted : Bool} (hM : MakeAt c C f) {k : List PV -> PM PV} {lv : Nat} (hlv : lv + 1 <= F.lv)
  (hcall : ∀ vs xs, ∀ (A : Around) (φ : List Addr) (μ : St) (s : Shared) (R : Result -> Shared -> Prop), ACtx (lower F lv) A -> Rep c (lower F lv) φ μ s -> VRs φ s.heap vs xs -> k xs μ ≠ .bad ->
   (∀ v y φ' μ' s', k xs μ = .ok y μ' -> Rep c (lower F lv) φ' μ' s' -> Ext F.nss F.cls φ s.heap φ' s'.heap -> VR φ' s'.heap v y -> R (.ok (.ret v)) s') ->
   (∀ e x φ' μ' s', k xs μ = .exc x μ' -> Rep c (lower F lv) φ' μ' s' -> Ext F.nss F.cls φ s.heap φ' s'.heap -> ExcR c (dom s.heap) φ' s'.heap e x -> R (.error e) s') -> codeAny (model c.prog c.w) A (.call (.ref f) ⟨vs, []⟩) R s) (vs : List Value) (xs : List PV) :
  Sim c F (λ φ h => VRs φ h vs xs) (λ φ h v x => VR φ h v x) (call (.ref C) vs) (newM C slotted k xs) := by
 intro A φ μ s Q E hA R p hb hQ hE
 unfold newM at hb hQ hE
 obtain ⟨hh, g, d, t, os⟩ := s
 have Y := makes_of (M := model c.prog c.w) R.inB hM.makes
 refine wpAny_call (make_core Y (looks_findIn R.inB hM.init) (λ self => bind_fn R.inB self hM.fn) (.inl rfl) ?_)
 have hU : A.under (.builtin "type.__call__" ⟨.ref C :: vs, []⟩) = { A with depth := A.depth + 1, units := A.units + 1 } := by
  obtain ⟨hd, dp, fr, gs, u⟩ := A
  simp [Around.under, Ztx, Zw5, Zty, Zu8, pushEnvs, pushGuards]
 rw [hU]
 have hA' : ACtx (lower F lv) { A with depth := A.depth + 1, units := A.units + 1 } := by
  refine ⟨hA.handled, hA.frames, hA.guards, ?_, ?_⟩
  ·show A.depth + 1 + 10 * lv <= 900
   exact dpt hA.depth hlv
  ·show A.units + 1 + 100 * lv <= 9000
   exact unt 1 hA.units hlv rfl
 obtain ⟨RB, xB⟩ := R.alloc (ob := emptyDict) (o := .ns []) (tk := t) rfl λ hg hi hm => .ns (ds := []) hg .nil
 have hdB : (φ ++ [hh.objs.size])[μ.hp.length]? = some hh.objs.size := by rw [<- R.len]; simp
 obtain ⟨RC, xC⟩ := RB.alloc (ob := instObj C hh.objs.size) (o := Zbv C slotted μ.hp.length) (tk := t) rfl λ hg hi hm => by
   cases slotted with
   | true => exact .slt (sl := []) (getElem?_app hdB) hg .nil
   | false => exact .ins (getElem?_app hdB) hg
 have sz : (hh.push emptyDict).objs.size = hh.objs.size + 1 := Xg ..
 have e2 : (Zdv (.ns []) >>= λ d => Zdv (Zbv C slotted d) >>= λ i => k (.obj i :: xs) >>= Zmp (.obj i)) μ = (k (.obj (μ.hp ++ [MO.ns []]).length :: xs) >>= Zmp (.obj (μ.hp ++ [MO.ns []]).length)) ⟨μ.fr, μ.hp ++ [.ns []] ++ [Zbv C slotted μ.hp.length]⟩ := rfl
 rw [e2] at hb hQ hE
 have hself : VR (φ ++ [hh.objs.size] ++ [(hh.push emptyDict).objs.size]) ((hh.push emptyDict).push (instObj C hh.objs.size)) (.ref (hh.objs.size + 1)) (.obj (μ.hp ++ [MO.ns []]).length) :=
  .obj (by rw [<- sz, Qk, <- R.len]; simp)
 have hxs : VRs (φ ++ [hh.objs.size] ++ [(hh.push emptyDict).objs.size]) ((hh.push emptyDict).push (instObj C hh.objs.size)) vs xs := (p.ext R xB).ext RB xC
 refine hcall _ _ _ _ _ _ _ hA' RC.lower (.cons hself hxs) (λ e => hb (by rw [PM.B, e])) (λ v y φ' μ' s' eo R' x' r => ?_) λ e x φ' μ' s' eo R' x' r => ?_
 ·rw [PM.H eo] at hb hQ
  induction r using VR.cs with
  | none => exact ⟨rfl, hQ _ _ φ' μ' s' rfl R'.raise (xB.trans (xC.trans x')) (hself.ext RC x')⟩
  | _ => exact (hb rfl).elim
 ·exact hE _ _ φ' μ' s' (by rw [PM.B, eo]) R'.raise (xB.trans (xC.trans x')) (r.le (xB.trans xC).dom)
end

noncomputable def raiseM {α : Type} (x : Value) : PM α := λ μ => .exc x μ
def Zbd (x : Value) (g : PM (List PV)) : PM MF := g >>= λ xs => chk (Z3 xs) >>= λ _ => raiseM x
section
variable {c : Cx} {F : Fx} {φ φ0 : List Addr} {μ : St} {s s0 : Shared} {h' : Heap}
theorem Rep.kept (R : Rep c F φ μ s) (stay : ∀ a o, s.heap.get? a = some o -> h'.get? a = some o) {tk : Nat} : Rep c F φ μ { s with heap := h', toks := tk } := by
 have hm : ∀ v x, VR φ s.heap v x -> VR φ h' v x := λ v x r => r.move (λ _ _ e => e) (λ _ _ _ h => h) λ a o ho _ _ => stay a o ho
 have rest : Rest c F φ μ.fr h' := R.rest (λ _ _ _ h => h) (λ a o ho _ _ => ⟨o.slots, stay a o ho⟩) hm
 refine ⟨R.ok, λ b o hb => stay b o (R.keep b o hb), R.os, R.gens, R.len, R.nodup, R.phiB, λ i a o h1 h2 => ?_, R.flen, R.lnodup, rest.nss, rest.cls, rest.vloc, rest.vcell, rest.frm⟩
 ·obtain ⟨ob, hob⟩ := R.lt (Qm h1)
  exact (R.objs i a o h1 h2).move (λ _ _ e => e) hm ((stay _ _ hob).trans hob.symm)
theorem Ext.kept (x : Ext F.nss F.cls φ0 s0.heap φ s.heap) (stay : ∀ a o, s.heap.get? a = some o -> h'.get? a = some o) (size : s0.heap.objs.size <= h'.objs.size) : Ext F.nss F.cls φ0 s0.heap φ h' := by
 refine ⟨⟨x.grow, size, λ a o ho h1 h2 h3 => ?_⟩, λ a h => ?_⟩
 ·rcases x.old a o ho h1 h2 h3 with k | ⟨k1, sl, k⟩
  ·exact .inl (stay _ _ k)
  ·exact .inr ⟨k1, sl, stay _ _ k⟩
 ·obtain ⟨o, ho⟩ := x.dom a h
  exact ⟨o, stay _ _ ho⟩
theorem Zkr (R : Rep c F φ μ s) {e : Addr} {cls : Value} (x : Ext F.nss F.cls φ0 s0.heap φ s.heap) (hnew : s.heap.get? e = none) (stay : ∀ a o, s.heap.get? a = some o -> h'.get? a = some o) {vs : Array Value} {oe : Obj}
  (hthere : h'.get? e = some oe) (hc : oe.cls = cls) (hd : oe.data = .fields vs) (h5 : 5 <= vs.size) (h1 : vs[1]? = some .none) (hcls : ∀ n ∈ ["tuple", "list", "range", "method-wrapper", "dict_values"], cls ≠ .type n) : ExcR c (dom s0.heap) φ h' (.ref e) cls := by
 refine ⟨e, oe, vs, rfl, hthere, hc, ?_, hd, h5, λ hm => ?_, ?_, λ ⟨o, ho⟩ => ?_, .inl h1⟩
 ·rintro ⟨q | q | q | q | q, _⟩ <;> rw [hc] at q <;> exact Qe q (hcls _ (by simp))
 ·obtain ⟨o, ho⟩ := R.lt hm
  rw [hnew] at ho; cases ho
 ·cases q : c.B.get? e with
  | none => rfl
  | some o => have := R.keep e o q; rw [hnew] at this; cases this
 ·obtain ⟨o', ho'⟩ := x.dom e ⟨o, ho⟩
  rw [hnew] at ho'; cases ho'
theorem Zck {cls newId initId : String} (G1 : ExcCallFacts cls newId initId) (G2 : ExcRaiseFacts cls) (hcl : ∀ n ∈ ["tuple", "list", "range", "method-wrapper", "dict_values"], (Value.type cls) ≠ .type n) {x : Str} {np cpos pos : Pos} {args : List Expr} {g : PM (List PV)}
  (hh : F.hd = true) (hplain : (backTo cpos (starEach args F.env)).any (·.1) = false)
  (hn : ∀ A φ μ s Q (E : Value -> Shared -> Prop), ACtx F A -> Rep c F φ μ s -> Q (.type cls) s -> wpAny (model c.prog c.w) A (eval (.Name x np) F.env) Q E s) (hargs : CallArgs c F (starEach args F.env) g) :
  Zaz c F (.Raise (some (.Call (.Name x np) args [] cpos)) none pos) (Zbd (.type cls) g) := λ A φ μ s Q E hA R p hb hQ hE => by
 unfold Zbd at hb hQ hE
 refine Zbl (wpAny_Raise_call G1 G2 (hA.handled hh) hplain (hn A φ μ s _ _ hA R ⟨rfl, ?_⟩))
 refine (Zgb hargs).use hA R trivial hb (λ e y φ' μ' s' he R' x' r _ => hE e y φ' μ' s' he R' x' r) λ a b φ' μ' s' eg R' x r => ?_
 rw [eg] at hb hE
 obtain ⟨hl, e2⟩ := Zab hb
 rw [e2] at hE
 refine ⟨r.2, by rw [r.1.length]; exact Zba hl, λ h' e hm size => ?_⟩
 obtain ⟨t, ht, _, _⟩ := hm.there
 exact hE (.ref e) (.type cls) φ' μ' { s' with heap := h' } rfl (R'.kept hm.keeps) (x.kept hm.keeps size) (Zkr R' x hm.new hm.keeps ht rfl rfl (by simp) rfl hcl)
structure OwnExc (c : Cx) (x : Str) (C : Addr) (newId : String) (bmB : List Value) : Prop where
 glob : nsIn c.K mainGlobals x = some (some (.ref C))
 at_ : OwnCls x C bmB newId c.mg c.B
theorem Zog {x : Str} {C : Addr} {B newId initId : String} {bmB : List Value} (G : ExcBaseFacts B newId initId bmB) (O : OwnExc c x C newId bmB) {np cpos pos : Pos} {args : List Expr} {g : PM (List PV)}
  (hh : F.hd = true) (hplain : (backTo cpos (starEach args F.env)).any (·.1) = false)
  (hn : ∀ A φ μ s Q (E : Value -> Shared -> Prop), ACtx F A -> Rep c F φ μ s -> Q (.ref C) s -> wpAny (model c.prog c.w) A (eval (.Name x np) F.env) Q E s) (hargs : CallArgs c F (starEach args F.env) g) :
  Zaz c F (.Raise (some (.Call (.Name x np) args [] cpos)) none pos) (Zbd (.ref C) g) := λ A φ μ s Q E hA R p hb hQ hE => by
 unfold Zbd at hb hQ hE
 obtain ⟨tl, N, nm, q, bs, hdct, sn, sub, ab, col, dd, k0, k1, k2, k3, k5, mN, hC, hN, hni, T⟩ := O.at_.obj
 refine Zbl (wpAny_Raise_call_subT (C := C) (nm := nm) (q := q) (N := N) (bs := bs) (bm := tl) (hdct := hdct) (sn := sn) (sub := sub) (ab := ab) (col := col) (dd := dd) (k0 := k0) (k1 := k1) (k2 := k2) (k3 := k3) (k5 := k5)
  G (mN := mN) (T.hasType G.hasBase) (hA.handled hh) hplain hni (hn A φ μ s _ _ hA R ⟨rfl, ?_⟩))
 refine (Zgb hargs).use hA R trivial hb (λ e y φ' μ' s' he R' x' r _ => hE e y φ' μ' s' he R' x' r) λ a b φ' μ' s' eg R' x r => ?_
 rw [eg] at hb hE
 obtain ⟨hl, e2⟩ := Zab hb
 rw [e2] at hE
 refine ⟨r.2, by rw [r.1.length]; exact Zba hl, R'.keep _ _ hC, hN.keeps R'.keep, T.keeps R'.keep, λ h' e hm size => ?_⟩
 obtain ⟨t, ht, _, _⟩ := hm.there
 exact hE (.ref e) (.ref C) φ' μ' { s' with heap := h' } rfl (R'.kept hm.keeps) (x.kept hm.keeps size) (Zkr R' x hm.new hm.keeps ht rfl rfl (by simp) rfl (by simp))
end

set_option backward.eqns.nonrecursive false
noncomputable def Zj3 {α : Type} (f : PM α) : PM α := λ μ => match f μ with
 | .ok a μ' => .ok a μ'
 | .exc _ _ => .bad
 | .bad => .bad
noncomputable def Zf8 : List ((Value -> Option Bool) × PM MF) -> Value -> PM MF
 | [], _ => PM.I
 | (m, g) :: rest, x => match m x with
  | some true => Zj3 g
  | some false => Zf8 rest x
  | none => PM.I
theorem Zfe {m : Value -> Option Bool} {g : PM MF} {rest : List ((Value -> Option Bool) × PM MF)} {x : Value} : Zf8 ((m, g) :: rest) x = (match m x with | some true => Zj3 g | some false => Zf8 rest x | none => PM.I) := rfl
noncomputable def tryM (f : PM MF) (hs : List ((Value -> Option Bool) × PM MF)) : PM MF := λ μ => match f μ with
 | .ok a μ' => .ok a μ'
 | .exc x μ' => Zf8 hs x μ'
 | .bad => .bad
set_option backward.eqns.nonrecursive true
structure CatchAt (c : Cx) (T : Value) (m : Value -> Option Bool) : Prop where
 nt : ∀ h, c.K.In h -> Looks (model c.prog c.w) h (isInstance T (.type "tuple")) false
 exc : ∀ h, c.K.In h -> Looks (model c.prog c.w) h (isExcClass T) true
 sub : ∀ x b, m x = some b -> ∀ h, c.K.In h -> Looks (model c.prog c.w) h (isSubtype x T) b
noncomputable def handling (F : Fx) : Fx := { F with hd := false }
inductive HandlersAt (c : Cx) (F : Fx) : List ExceptHandler -> List ((Value -> Option Bool) × PM MF) -> Prop
 | nil : HandlersAt c F [] []
 | cons {t : Expr} {bA : Stmt} {suite : List Stmt} {pos : Pos} {T : Value} {m : Value -> Option Bool} {g : PM MF} {hs : List ExceptHandler} {ms : List ((Value -> Option Bool) × PM MF)} :
   (∀ A φ μ s Q (E : Value -> Shared -> Prop), ACtx (handling F) A -> Rep c (handling F) φ μ s -> Q T s -> wpAny (model c.prog c.w) A (eval t F.env) Q E s) -> CatchAt c T m ->
   Zbx c (handling F) (bA :: suite) g -> HandlersAt c F hs ms -> HandlersAt c F (.ExceptHandler (some t) none (bA :: suite) pos :: hs) ((m, g) :: ms)
section
variable {c : Cx} {F : Fx} {φ φ0 : List Addr} {μ : St} {s s0 : Shared} {h' : Heap}
theorem Rep.handling (R : Rep c F φ μ s) : Rep c (Mine.handling F) φ μ s :=
 ⟨R.ok, R.keep, R.os, R.gens, R.len, R.nodup, R.phiB, R.objs, R.flen, R.lnodup, R.nss, R.cls, R.vloc, R.vcell, R.frm⟩
theorem Rep.handled (R : Rep c (Mine.handling F) φ μ s) : Rep c F φ μ s :=
 ⟨R.ok, R.keep, R.os, R.gens, R.len, R.nodup, R.phiB, R.objs, R.flen, R.lnodup, R.nss, R.cls, R.vloc, R.vcell, R.frm⟩theorem ACtx.mark {A : Around} (hA : ACtx F A) (h : Option Value) : ACtx (Mine.handling F) (A.mark h) := ⟨λ e => (nomatch e), hA.frames, hA.guards, hA.depth, hA.units⟩
theorem Zqk {M : Model} {A : Around} {E : Value -> Shared -> Prop} {e T x : Value} {b : Bool} {Q : Bool -> Shared -> Prop} (h1 : Looks M s.heap (isInstance T (.type "tuple")) false) (h2 : Looks M s.heap (isExcClass T) true)
  (h3 : Looks M s.heap (typeOf e) x) (h4 : Looks M s.heap (isSubtype x T) b) (h : Q b s) : wpAny M A (excMatches e T) Q E s := by
 unfold excMatches
 refine Qb (h1.here ?_)
 rw [Qq Qt]
 refine Qb (Qp ?_)
 dsimp only
 rw [forIn_cons]
 refine Qb (Qb (Qb (h2.here ?_)))
 rw [Qq (by decide)]
 refine Qp ?_
 dsimp only
 rw [forIn_nil]
 refine Qp (Qb (h3.here ?_))
 rw [forIn_cons]
 refine Qb (Qb (Qb (h4.here ?_)))
 cases b with
 | true => rw [Qo rfl]; exact Qp (Qp (Qp h))
 | false =>
  rw [Qq Qt]
  refine Qp ?_
  dsimp only
  rw [forIn_nil]
  exact Qp (Qp h)
theorem Zoh {hs : List ExceptHandler} {ms : List ((Value -> Option Bool) × PM MF)} (H : HandlersAt c F hs ms) {A : Around} {e x : Value} {Q : Flow -> Shared -> Prop} {E : Value -> Shared -> Prop} {h₀ : Heap} (hA : ACtx F A) :
  ∀ {φ : List Addr} {μ : St} {s : Shared}, Rep c F φ μ s -> Ext F.nss F.cls φ0 h₀ φ s.heap -> ExcT c (dom h₀) φ s.heap e x -> Zf8 ms x μ ≠ .bad ->
  (∀ a b φ' μ' s', Zf8 ms x μ = .ok b μ' -> Rep c F φ' μ' s' -> Ext F.nss F.cls φ0 h₀ φ' s'.heap -> FR φ' s'.heap a b -> Q a s') -> wpAny (model c.prog c.w) A (handleBy e F.env hs) Q E s := by
 induction H with
 | nil => intro φ μ s R xA hx hb hQ; exact (hb rfl).elim
 | @cons t bA suite pos T m g hs ms hn hC hg hr ih =>
  intro φ μ s R xA hx hb hQ
  rw [Zfe] at hb hQ
  obtain ⟨ea, oe, vs, T', oT, ts, he, h2, h3, hz⟩ := id hx
  have hnb : e ≠ byPass := by rw [he]; intro q; cases q
  cases hm : m x with
  | none => rw [hm] at hb; exact (hb rfl).elim
  | some b =>
   rw [hm] at hb hQ
   refine wpAny_handleBy_cons (codeAny_handlers_test (hn _ φ μ s _ _ (hA.mark _) R.handling ?_)) hnb
   have X := R.inB
   have hty : Looks (model c.prog c.w) s.heap (typeOf e) x := by
    subst he; subst h3
    exact (Looks.ld h2).andThen .now
   refine Zqk (hC.nt _ X) (hC.exc _ X) hty (hC.sub x b hm _ X) ?_
   cases b with
   | true =>
    refine codeAny_handlers_suite (Zeg (s := s) (F := F) R hx λ h₁ NB TB => ?_)
    dsimp only at hb hQ
    unfold Zj3 at hb hQ
    dsimp only at hb hQ
    have RB : Rep c F φ μ { s with heap := h₁ } := R.side (tk := s.toks) NB.side
    have xB := NB.ext (λ _ q => q) xA
    refine hg _ φ μ { s with heap := h₁ } _ _ (hA.mark _) RB.handling trivial (λ e => hb (by rw [e])) (λ a b φ' μ' s' eo R' x' r => ?_) λ e y φ' μ' s' eo _ _ _ => (hb (by rw [eo])).elim
    exact hQ a b φ' μ' s' (by rw [eo]) R'.handled (xB.trans x') r
   | false => exact ih R xA hx hb hQ
theorem Zrc {body : List Stmt} {h₁ : ExceptHandler} {hs : List ExceptHandler} {pos : Pos} {f : PM MF} {ms : List ((Value -> Option Bool) × PM MF)} {outer : List Env} (hfr : F.frames = F.env :: outer)
  (hb : Zbx c F body f) (H : HandlersAt c F (h₁ :: hs) ms) : Zaz c F (.Try body (h₁ :: hs) [] [] pos) (tryM f ms) := λ A φ μ s Q E hA R p hbad hQ hE => by
 unfold tryM at hbad hQ hE
 refine wpAny_Try_except (hb A φ μ s _ _ hA R trivial (λ e => hbad (by rw [e])) (λ a b φ' μ' s' eo R' x r => ?_) λ e y φ' μ' s' eo R' x r => ?_)
 ·have z := hQ a b φ' μ' s' (by rw [eo]) R' x r
  cases a with
  | next => exact wpAny_execs_nil z
  | _ => exact z
 ·rw [eo] at hbad hQ
  refine Zhp hA R' hfr r (λ h₂ NC TC => ?_) x.dom
  refine Zeg (s := { s' with heap := h₂ }) (R'.side (tk := s'.toks) NC.side) TC λ h₃ ND TD => ?_
  exact Zoh H hA (s := { s' with heap := h₃ }) ((R'.side (tk := s'.toks) NC.side).side (tk := s'.toks) ND.side) (ND.ext (λ _ q => q) (NC.ext (λ _ q => q) x)) TD hbad hQ
end

noncomputable def Zf9 (env : Env) (n : Str) (k : NameKind) : Bool := k == .free && env.scope.kind == .function && env.kindOf n == some .cell
def cEnv (env : Env) (scope : Scope) (Lc : Addr) (clo : List (Str × Addr)) : Env :=
 { scope := { scope with names := scope.names.map λ (n, k) => if Zf9 env n k then (n, .cell) else (n, k) }, locals := Lc, globals := env.globals, cells := cellsFrom (Lc + 1) scope.names clo, qual := env.qual, func := none, code := env.code, frame := env.frame, builtins := env.builtins }noncomputable def Zas (Lc : Addr) (scope : Scope) : List (Str × Addr) := cellsFrom (Lc + 1) scope.names []
def Zbe (F : Fx) (scope : Scope) (Lc : Addr) (clo : List (Str × Addr)) : Fx :=
 { env := cEnv F.env scope Lc clo, locs := F.locs ++ Zal Lc (Zas Lc scope) scope.names, nss := Lc :: F.nss, cls := F.cls ++ (Zas Lc scope).map (·.2), frames := F.frames, lv := F.lv, hd := F.hd }noncomputable def Zic (μ : St) (m : Nat) : St := ⟨μ.fr ++ List.replicate m .undef, μ.hp⟩
section
variable {c : Cx} {F : Fx} {φ φ' : List Addr} {μ μ' : St} {s s' : Shared} {h' : Heap}
theorem Ze1 : ∀ (names : List (Str × NameKind)) (h : Heap), h.objs.size <= (pushCells h names).objs.size
 | [] => λ h => Qr
 | (_, kind) :: r => λ h => by
  unfold pushCells
  split
  ·exact Qj (by rw [Xg]; exact Nat.le_succ _) (Ze1 r _)
  ·exact Ze1 r h
theorem Rep.enterC (R : Rep c F φ μ s) {scope : Scope} (hn : (scope.names.map (·.1)).Nodup) (clo : List (Str × Addr)) (o : Obj) (ho : o = { cls := .type "dict", data := .dict #[] }) :
  Rep c F φ μ { s with heap := pushCells (s.heap.push o) scope.names } ∧ Ext F.nss F.cls φ s.heap φ (pushCells (s.heap.push o) scope.names) ∧
  Rep c (Zbe F scope s.heap.objs.size clo) φ (Zic μ (Z0 scope.names).length) { s with heap := pushCells (s.heap.push o) scope.names } := by
 subst ho
 have keep : ∀ a ob, s.heap.get? a = some ob -> (pushCells (s.heap.push { cls := .type "dict", data := .dict #[] }) scope.names).get? a = some ob := λ a ob e => pushCells_keeps _ _ _ _ (Qy _ e)
 obtain ⟨RB, xB⟩ := R.still (tk := s.toks) (h' := pushCells (s.heap.push { cls := .type "dict", data := .dict #[] }) scope.names) (Qj (by rw [Xg]; exact Nat.le_succ _) (Ze1 scope.names _)) keep
 refine ⟨RB, xB, ?_⟩
 have hns : (pushCells (s.heap.push { cls := .type "dict", data := .dict #[] }) scope.names).Ns s.heap.objs.size λ _ => none := (Heap.Ns.new s.heap (.type "dict")).keeps (pushCells_keeps _ _)
 have cok : CellsOk (pushCells (s.heap.push { cls := .type "dict", data := .dict #[] }) scope.names) (s.heap.objs.size + 1) (Zas s.heap.objs.size scope) := by
  have := cellsFrom_ok scope.names (s.heap.push { cls := .type "dict", data := .dict #[] }) (s.heap.objs.size + 1) [] ⟨λ _ _ hm => (nomatch hm), List.Pairwise.nil⟩ (by rw [Xg]; exact Qr)
  rw [Xg] at this
  exact this
 have oldNs : ∀ L ∈ F.nss, L < s.heap.objs.size := λ L hL => by
  obtain ⟨_, _, m, hm⟩ := R.nss L hL
  exact hm.lt
 have oldCl : ∀ a ∈ F.cls, a < s.heap.objs.size := λ a ha => by
  obtain ⟨_, _, v, o, ho, _⟩ := R.cls a ha
  exact Qx ho
 have hlen : (Zal s.heap.objs.size (Zas s.heap.objs.size scope) scope.names).length = (Z0 scope.names).length := by unfold Zal; simp
 have newAt : ∀ (k : Nat) (pv : PV), (μ.fr ++ List.replicate (Z0 scope.names).length PV.undef)[k]? = some pv -> pv ≠ .undef -> k < F.locs.length ∧ μ.fr[k]? = some pv := λ k pv e hu => by
  by_cases hk : k < μ.fr.length
  ·rw [Qc hk] at e
   exact ⟨by rw [<- R.flen]; exact hk, e⟩
  ·rw [Xf (Nat.le_of_not_lt hk)] at e
   have := Qm e
   exact Qe (List.eq_of_mem_replicate this) hu
 have inNew : ∀ l ∈ Zal s.heap.objs.size (Zas s.heap.objs.size scope) scope.names, (∃ y, l = .loc s.heap.objs.size y) ∨ ∃ a, l = .cell a ∧ a ∈ (Zas s.heap.objs.size scope).map (·.2) := λ l hl => by
  unfold Zal at hl
  obtain ⟨⟨y, k⟩, hy, rfl⟩ := Qmm hl
  obtain ⟨h1, h2⟩ := Zce hy
  dsimp only
  split
  ·exact .inl ⟨y, rfl⟩
  ·rename_i hk
   have hc : k = .cell := by
    rcases h2 with h | h
    ·have h : k = .local := h
     subst h; exact Qe rfl hk
    ·exact h
   subst hc
   obtain ⟨a, ha⟩ := Option.isSome_iff_exists.mp (Zcj y scope.names (s.heap.objs.size + 1) [] (.inl h1))
   refine .inr ⟨a, ?_, mem_map.mpr ⟨_, mem_of_lookup ha, rfl⟩⟩
   show Loc.cell (((Zas s.heap.objs.size scope).lookup y).getD 0) = _
   unfold Zas
   rw [ha]; rfl
 have newAbove : ∀ a ∈ (Zas s.heap.objs.size scope).map (·.2), s.heap.objs.size + 1 <= a ∧ (pushCells (s.heap.push { cls := .type "dict", data := .dict #[] }) scope.names).IsCell a none := λ a ha => by
  obtain ⟨⟨y, a'⟩, hm, rfl⟩ := Qmm ha
  exact ⟨(cok.empty _ _ hm).2, (cok.empty _ _ hm).1⟩
 refine ⟨RB.ok, RB.keep, RB.os, RB.gens, RB.len, RB.nodup, RB.phiB, RB.objs, ?_, ?_, λ L hL => ?_, λ a ha => ?_, λ k L x hk => ?_, λ k a hk => ?_, λ env he => ?_⟩
 ·show (μ.fr ++ List.replicate _ _).length = (F.locs ++ _).length
  rw [Qk, Qk, List.length_replicate, hlen, R.flen]
 ·show (F.locs ++ _).Nodup
  refine nodup_append.mpr ⟨R.lnodup, Zk7 hn cok.apart λ y hy => Zcj y _ _ _ (.inl hy), λ l hl l' hl' e => ?_⟩
  subst e
  obtain ⟨k, hk⟩ := List.getElem?_of_mem hl
  rcases inNew l hl' with ⟨y, rfl⟩ | ⟨a, rfl, ha⟩
  ·exact Qe (oldNs _ (R.vloc k _ _ hk).1) (Q6 _)
  ·have h1 := oldCl _ (R.vcell k _ hk).1
   have h2 := (newAbove a ha).1
   exact Qe h1 (Qi (Qj (Nat.le_succ _) h2))
 ·rcases Qmc (show L ∈ s.heap.objs.size :: F.nss from hL) with rfl | hL
  ·have ab := R.above (Nat.le_refl s.heap.objs.size)
   exact ⟨ab.1, ab.2, _, hns⟩
  ·exact RB.nss L hL
 ·rcases Qma (show a ∈ F.cls ++ (Zas s.heap.objs.size scope).map (·.2) from ha) with ha | ha
  ·exact RB.cls a ha
  ·have ab := R.above (Qj (Nat.le_succ _) (newAbove a ha).1)
   exact ⟨ab.1, ab.2, _, (newAbove a ha).2⟩
 ·have hk : (F.locs ++ Zal s.heap.objs.size (Zas s.heap.objs.size scope) scope.names)[k]? = some (.loc L x) := hk
  refine ⟨?_, λ pv hp hu => ?_⟩
  ·by_cases hlt : k < F.locs.length
   ·rw [Qc hlt] at hk
    exact Qv _ (R.vloc k L x hk).1
   ·rw [Xf (Nat.le_of_not_lt hlt)] at hk
    rcases inNew _ (Qm hk) with ⟨y, e⟩ | ⟨a, e, _⟩
    ·cases e; exact Q0
    ·cases e
  ·obtain ⟨h1, h2⟩ := newAt k pv hp hu
   rw [Qc h1] at hk
   exact (RB.vloc k L x hk).2 pv h2 hu
 ·have hk : (F.locs ++ Zal s.heap.objs.size (Zas s.heap.objs.size scope) scope.names)[k]? = some (.cell a) := hk
  refine ⟨?_, λ pv hp hu => ?_⟩
  ·by_cases hlt : k < F.locs.length
   ·rw [Qc hlt] at hk
    exact Xh _ (R.vcell k a hk).1
   ·rw [Xf (Nat.le_of_not_lt hlt)] at hk
    rcases inNew _ (Qm hk) with ⟨y, e⟩ | ⟨a, e, ha⟩
    ·cases e
    ·cases e; exact mem_append_right _ ha
  ·obtain ⟨h1, h2⟩ := newAt k pv hp hu
   rw [Qc h1] at hk
   exact (RB.vcell k a hk).2 pv h2 hu
 ·exact RB.frm env he
theorem Rep.spare (R : Rep c F φ μ s) {a : Addr} (hs : Heap.SameBut a s.heap h') (h1 : a ∉ φ) (h2 : a ∉ F.nss) (h3 : a ∉ F.cls) (h4 : a ∉ F.stk) (h5 : c.B.get? a = none) (h6 : ∀ o, s.heap.get? a = some o -> ¬ FzO o) {tk : Nat} : Rep c F φ μ { s with heap := h', toks := tk } := by
 have hm : ∀ v x, VR φ s.heap v x -> VR φ h' v x := λ v x r => r.move (λ _ _ e => e) (λ _ _ _ h => h) λ b o ho _ hz => (hs.2 b λ e => h6 o (e ▸ ho) hz).trans ho
 refine ⟨R.ok, λ b o hb => (hs.2 b λ e => by rw [e, h5] at hb; cases hb).trans (R.keep b o hb), R.os, R.gens, R.len, R.nodup, R.phiB, λ i b o q1 q2 => ?_, R.flen, R.lnodup, λ L hL => ?_, λ b hb => ?_, λ k L x hk => ?_, λ k b hk => ?_, λ env he => ?_⟩
 ·exact (R.objs i b o q1 q2).move (λ _ _ e => e) hm (hs.2 b λ e => h1 (e ▸ Qm q1))
 ·obtain ⟨q1, q2, m, hn⟩ := R.nss L hL
  exact ⟨q1, q2, m, hn.sameBut hs λ e => h2 (e ▸ hL)⟩
 ·obtain ⟨q1, q2, v, hn⟩ := R.cls b hb
  exact ⟨q1, q2, v, hn.sameBut hs λ e => h3 (e ▸ hb)⟩
 ·obtain ⟨q1, q2⟩ := R.vloc k L x hk
  refine ⟨q1, λ pv hp hu => ?_⟩
  obtain ⟨m, v, hn, hx, hv⟩ := q2 pv hp hu
  exact ⟨m, v, hn.sameBut hs λ e => h2 (e ▸ q1), hx, hm _ _ hv⟩
 ·obtain ⟨q1, q2⟩ := R.vcell k b hk
  refine ⟨q1, λ pv hp hu => ?_⟩
  obtain ⟨v, hn, hv⟩ := q2 pv hp hu
  exact ⟨v, hn.sameBut hs λ e => h3 (e ▸ q1), hm _ _ hv⟩
 ·obtain ⟨q1, L, q2, q3, q4, o, es, ep, ho, r⟩ := R.frm env he
  exact ⟨q1, L, q2, q3, q4, o, es, ep, (hs.2 L λ e => h4 (e ▸ List.mem_filterMap.mpr ⟨env, he, q2⟩)).trans ho, r⟩
end

set_option backward.eqns.nonrecursive false
def Zaw (pv : PV) (μ0 : St) (k : Nat) (μ : St) : Option (Option PV) := match pv with
 | .vals i => (match μ0.hp[i]? with
  | some (.dct es0 ep0) => (match μ.hp[i]? with
   | some (.dct es ep) => if es.length = es0.length ∧ ep = ep0 then some ((es[k]?).map λ e => e.2) else none
   | _ => none)
  | _ => none)
 | pv => Zam pv μ0 k μ
set_option backward.eqns.nonrecursive true
structure SelfIter (c : Cx) (it : Addr) (ob : Nat -> Obj -> Prop) : Prop where
 self : ∀ (k : Nat) (A : Around) (s : Shared) (Q : Value -> Shared -> Prop) (E : Value -> Shared -> Prop), (∃ o, s.heap.get? it = some o ∧ ob k o) -> Q (.ref it) s -> wpAny (model c.prog c.w) A (pyIter (.ref it)) Q E s
 letGo : ∀ (k : Nat) (target : Expr) (w : Value) (A : Around) (s : Shared) (Q : Unit -> Shared -> Prop) (E : Value -> Shared -> Prop), (∃ o, s.heap.get? it = some o ∧ ob k o) -> Q () s -> wpAny (model c.prog c.w) A (letOwnedTupleGo target (.ref it) w) Q E s
section
variable {c : Cx} {F : Fx}
theorem Zgc {M : Model} {A : Around} {s : Shared} {Q : Unit -> Shared -> Prop} {E : Value -> Shared -> Prop} {it : Addr} {target : Expr} {w : Value} {o : Obj} {T : String} {vs : Array Value} (ho : s.heap.get? it = some o) (hc : o.cls = .type T) (hd : o.data = .fields vs)
  (hT : T = "list_iterator" ∨ T = "tuple_iterator" ∨ T = "range_iterator" ∨ T = "dict_keyiterator" ∨ T = "dict_valueiterator") (h : Q () s) : wpAny M A (letOwnedTupleGo target (.ref it) w) Q E s := by
 unfold letOwnedTupleGo
 cases target <;> first
  | exact Qp h
  | (cases w <;> first
    | exact Qp h
    | (refine Qb (wpAny_load ho ?_); rw [hc, hd]; rcases hT with rfl | rfl | rfl | rfl | rfl <;> exact Qp h))
theorem Zu9 {d : Addr} {i n ep : Nat} {it : Addr} {get : Nat -> St -> Option (Option PV)}
  (hg : ∀ k μ, get k μ ≠ none -> ∃ es, μ.hp[i]? = some (.dct es ep) ∧ es.length = n ∧ get k μ = some ((es[k]?).map λ e => e.2)) (hh : F.hd = true) :
  ItP c F it (λ k o => o.cls = .type "dict_valueiterator" ∧ o.data = .fields #[.ref d, .int k 0, .int n 0, .int ep 0]) (.ref d) (.obj i) get := by
 refine ⟨λ k o h => ⟨⟨_, h.2⟩, Zdq h.1 (by decide) (by decide) (by decide) (by decide)⟩, λ k A φ μ s Q E hA R hit hr hn hi hb => ?_⟩
 obtain ⟨o, ho, hc, hd⟩ := hit
 obtain ⟨es, hes, hlen, hget⟩ := hg k μ hb
 have hdi : φ[i]? = some d := hr.inv_obj rfl rfl
 have q := R.objs i d _ hdi hes
 obtain ⟨kvs, k1, k2⟩ := q.inv_dct rfl
 ·
  have hkl : kvs.length = n := by rw [Zf5 k2, hlen]
  subst hkl
  cases hx : es[k]? with
  | none =>
   have : kvs[k]? = none := by
    rw [List.getElem?_eq_none_iff] at hx ⊢
    exact Qek hlen.symm hx
   exact wpAny_pyNext_values_end (knd := intKind c.prog c.w) (hA.handled hh) ⟨o, ho, hc, hd⟩ k1 this λ h' hs => hn (by rw [hget, hx]; rfl) h' s.toks hs
  | some e =>
   obtain ⟨w, hw, hr⟩ := Zq4 k2 hx
   refine wpAny_pyNext_values_item (knd := intKind c.prog c.w) ⟨o, ho, hc, hd⟩ k1 hw λ h' hit' hs => hi e.2 (by rw [hget, hx]; rfl) w h' s.toks ?_ hs.extBut ?_
   ·obtain ⟨o', ho', hc', hd'⟩ := hit'
    exact ⟨o', ho', hc', hd'⟩
   ·refine hr.move (λ _ _ e => e) (λ _ _ _ h => h) λ a oa ha _ hz => (hs.2 a λ e => ?_).trans ha
    subst e
    rw [ho] at ha; cases ha
    exact Zdq hc (by decide) (by decide) (by decide) (by decide) (by decide) hz
theorem Zlc {A : Around} {φ : List Addr} {μ : St} {s : Shared} {Q : Value -> Shared -> Prop} {E : Value -> Shared -> Prop} {v : Value} {pv : PV} (R : Rep c F φ μ s) (r : VR φ s.heap v pv) (hne : Zaw pv μ 0 μ ≠ none)
  (K : ∀ (o : Obj) (ob : Nat -> Obj -> Prop) (get : Nat -> St -> Option (Option PV)) (v' : Value) (pv' : PV), o.isFreed = false -> VR φ s.heap v' pv' -> (∀ G : Fx, G.hd = true -> ItP c G s.heap.objs.size ob v' pv' get) -> ob 0 o -> (∀ k μ', Zaw pv μ k μ' = get k μ') -> SelfIter c s.heap.objs.size ob -> Q (.ref s.heap.objs.size) { s with heap := s.heap.push o }) :
  wpAny (model c.prog c.w) A (pyIter v) Q E s := by
 have selfL : ∀ a, SelfIter c s.heap.objs.size (λ k o => o.cls = .type "list_iterator" ∧ o.data = .fields #[.ref a, .int k 0]) := λ a =>
  ⟨λ k A s Q E q h => wpAny_pyIter_listiter q h, λ k t w A s Q E q h => by obtain ⟨o, ho, hc, hd⟩ := q; exact Zgc ho hc hd (.inl rfl) h⟩
 induction r using VR.cs with
 | @lst a vs m xs h1 h4 h5 =>
  refine wpAny_pyIter_list ⟨_, h1, rfl, _, rfl⟩ (K _ (λ k o => o.cls = .type "list_iterator" ∧ o.data = .fields #[.ref a, .int k 0]) (λ k _ => some xs[k]?) _ _ rfl (.lst h1 h4 h5) (λ G hG => Zn5 (λ φ μ s k R hv _ => ?_) (.inr trivial) hG) ⟨rfl, rfl⟩ (λ _ _ => rfl) (selfL a))
  obtain ⟨_, _, q1, q4, q5⟩ := hv.inv_lst rfl rfl
  ·exact ⟨_, _, ⟨_, q1, rfl, _, rfl⟩, q5, rfl⟩
 | @tup a vs m xs h1 h4 h5 =>
  refine wpAny_pyIter_tuple ⟨_, h1, rfl, _, rfl⟩ (K _ (λ k o => o.cls = .type "tuple_iterator" ∧ o.data = .fields #[.ref a, .int k 0]) (λ k _ => some xs[k]?) _ _ rfl (.tup h1 h4 h5) (λ G hG => Ztq hG) ⟨rfl, rfl⟩ (λ _ _ => rfl) ⟨λ k A s Q E hit h => ?_, λ k t w A s Q E hit h => ?_⟩)
  ·obtain ⟨o, ho, hc, hd⟩ := hit; exact wpAny_pyIter_tupleiter ⟨o, ho, hc, hd⟩ h
  ·obtain ⟨o, ho, hc, hd⟩ := hit; exact Zgc ho hc hd (.inr (.inl rfl)) h
 | @rng r a b st t u w h1 h2 =>
  cases hsm : Builtin.Range.small a b st with
  | false => exact (hne (by show Zam (.rng a b st) μ 0 μ = none; unfold Zam; dsimp only; rw [hsm]; rfl)).elim
  | true =>
   refine wpAny_pyIter_range h1 hsm (K _ _ (λ k _ => if (k : Int) < Builtin.Range.rangeSize a b st then some (some (.int (a + k * st))) else some none) _ _ rfl (.rng h1 h2) (λ G hG => Ztr (r := r) hG) (by simp) (λ k μ' => by show Zam (.rng a b st) μ k μ' = _; unfold Zam; dsimp only; rw [hsm]; rfl) ⟨λ k A s Q E hit h => ?_, λ k t w A s Q E hit h => ?_⟩)
   ·obtain ⟨o, ho, hd⟩ := hit; subst hd; exact wpAny_pyIter_rangeiter ho h
   ·obtain ⟨o, ho, hd⟩ := hit; subst hd; exact Zgc ho rfl rfl (.inr (.inr (.inl rfl))) h
 | @obj i a h1 =>
  have hsys := R.notSys (Qm h1)
  cases hi : μ.hp[i]? with
  | none => exact (hne (by show Zam (.obj i) μ 0 μ = none; unfold Zam; dsimp only; rw [hi]; try rfl)).elim
  | some ob =>
   have q := R.objs i a ob h1 hi
   cases q with
   | @lst vs m xs k1 k2 =>
    refine wpAny_pyIter_list ⟨_, k1, rfl, _, rfl⟩ (K _ (λ k o => o.cls = .type "list_iterator" ∧ o.data = .fields #[.ref a, .int k 0]) (λ k μ' => Zam (.obj i) μ k μ') _ _ rfl (.obj h1) (λ G hG => Zn5 (λ φ μ' s k R hv hne => ?_) (.inr trivial) hG) ⟨rfl, rfl⟩ (λ _ _ => rfl) (selfL a))
    have q1 := hv.inv_obj rfl rfl
    ·
     unfold Zam at hne ⊢; dsimp only at hne ⊢; rw [hi] at hne ⊢; dsimp only [getO] at hne ⊢
     cases hj : μ'.hp[i]? with
     | none => rw [hj] at hne; exact (hne rfl).elim
     | some o2 =>
      cases o2 with
      | lst ys =>
       have q := R.objs i a _ q1 hj
       obtain ⟨_, _, z1, z2⟩ := q.inv_lst rfl
       ·exact ⟨_, ys, ⟨_, z1, rfl, _, rfl⟩, z2, rfl⟩
      | _ => rw [hj] at hne; exact (hne rfl).elim
   | @dct kvs es ep k1 k2 =>
    refine wpAny_pyIter_dict (knd := intKind c.prog c.w) hsys k1 (K _ (λ k o => o.cls = .type "dict_keyiterator" ∧ o.data = .fields #[.ref a, .int k 0, .int (es.length : Nat) 0, .int ep 0]) (λ k μ' => Zam (.obj i) μ k μ') _ _ rfl (.obj h1) (λ G hG => Zu4 (λ k μ' hne => ?_) hG) ⟨rfl, ?_⟩ (λ _ _ => rfl) ⟨λ k A s Q E hit h => ?_, λ k t w A s Q E hit h => ?_⟩)
    ·unfold Zam at hne ⊢; dsimp only at hne ⊢; rw [hi] at hne ⊢; dsimp only [getO] at hne ⊢
     cases hj : μ'.hp[i]? with
     | none => rw [hj] at hne; exact (hne rfl).elim
     | some o2 =>
      cases o2 with
      | dct ys ep' =>
       rw [hj] at hne; dsimp only at hne ⊢
       by_cases hq : ys.length = es.length ∧ ep' = ep
       ·obtain ⟨e1, e2⟩ := hq
        subst e2
        exact ⟨ys, rfl, e1, by rw [Qo ⟨e1, rfl⟩]⟩
       ·rw [Qq hq] at hne; exact (hne rfl).elim
      | _ => rw [hj] at hne; exact (hne rfl).elim
    ·rw [Zf5 k2]; rfl
    ·obtain ⟨o, ho, hc, hd⟩ := hit; exact wpAny_pyIter_keyiter ⟨o, ho, hc, hd⟩ h
    ·obtain ⟨o, ho, hc, hd⟩ := hit; exact Zgc ho hc hd (.inr (.inr (.inr (.inl rfl)))) h
   | _ => exact (hne (by show Zam (.obj i) μ 0 μ = none; unfold Zam; dsimp only; rw [hi]; try rfl)).elim
 | @vals i a m h1 h2 h3 =>
  cases hi : μ.hp[i]? with
  | none => exact (hne (by unfold Zaw; dsimp only; rw [hi]; try rfl)).elim
  | some ob =>
   have q := R.objs i a ob h1 hi
   cases q with
   | @dct kvs es ep k1 k2 =>
    refine wpAny_pyIter_values (knd := intKind c.prog c.w) ⟨_, h2, rfl, rfl⟩ k1 (K _ (λ k o => o.cls = .type "dict_valueiterator" ∧ o.data = .fields #[.ref a, .int k 0, .int (es.length : Nat) 0, .int ep 0]) (λ k μ' => Zaw (.vals i) μ k μ') _ _ rfl (.obj h1) (λ G hG => Zu9 (λ k μ' hne => ?_) hG) ⟨rfl, ?_⟩ (λ _ _ => rfl) ⟨λ k A s Q E hit h => ?_, λ k t w A s Q E hit h => ?_⟩)
    ·unfold Zaw at hne ⊢; dsimp only at hne ⊢; rw [hi] at hne ⊢; dsimp only at hne ⊢
     cases hj : μ'.hp[i]? with
     | none => rw [hj] at hne; exact (hne rfl).elim
     | some o2 =>
      cases o2 with
      | dct ys ep' =>
       rw [hj] at hne; dsimp only at hne ⊢
       by_cases hq : ys.length = es.length ∧ ep' = ep
       ·obtain ⟨e1, e2⟩ := hq
        subst e2
        exact ⟨ys, rfl, e1, by rw [Qo ⟨e1, rfl⟩]⟩
       ·rw [Qq hq] at hne; exact (hne rfl).elim
      | _ => rw [hj] at hne; exact (hne rfl).elim
    ·rw [Zf5 k2]; rfl
    ·obtain ⟨o, ho, hc, hd⟩ := hit; exact wpAny_pyIter_valiter ⟨o, ho, hc, hd⟩ h
    ·obtain ⟨o, ho, hc, hd⟩ := hit; exact Zgc ho hc hd (.inr (.inr (.inr (.inr rfl)))) h
   | _ => exact (hne (by unfold Zaw; dsimp only; rw [hi]; try rfl)).elim
 | none => exact (hne rfl).elim
 | bool => exact (hne rfl).elim
 | int => exact (hne rfl).elim
 | str => exact (hne rfl).elim
 | nxt => exact (hne rfl).elim
 | raw => exact (hne rfl).elim
theorem Zax {target iter : Expr} {body : List Stmt} {pos : Pos} {outer : List Env} {f : PM PV} {asg : PV -> PM Unit} {g : PM MF} (hfr : F.frames = F.env :: outer) (hh : F.hd = true) (n : Nat) (hi : Zk c F iter f)
  (hasg : ∀ w x, Sim c F (λ φ h => VR φ h w x) (λ _ _ _ _ => True) (assign target F.env w) (asg x)) (hbody : Zbx c F body g)
  (hs : ∀ x, foldedSetIterable iter F.env x = pure x) : Zaz c F (.For target iter body [] pos) (Zbb f asg g n) := by
 intro A φ μ s Q E hA R p hb hQ hE
 unfold Zbb at hb hQ hE
 refine wpAny_For ?_ hs
 refine hi.use hA R p hb hE λ v pv φ1 μ1 s1 eg RB xB rB => ?_
 rw [eg] at hb hQ hE
 have hnv : ∀ i, pv ≠ .vals i := λ i e => by subst e; exact hb (by cases n <;> rfl)
 have hge : ∀ k μ', Zam pv μ1 k μ' = Zaw pv μ1 k μ' := λ k μ' => by
  unfold Zaw
  split
  ·exact Qe rfl (hnv _)
  ·rfl
 have hne : Zaw pv μ1 0 μ1 ≠ none := λ e => hb (by
  cases n with
  | zero => rfl
  | succ n => show (match Zam pv μ1 0 μ1 with | none => _ | some none => _ | some (some x) => _) = _; rw [hge, e])
 refine Zlc RB rB hne λ o ob get v' pv' hf hv' hI h0 hg hS => ?_
 have ec := Zj9 (asg := asg) (g := g) (λ k μ => (hge k μ).trans (hg k μ)) n 0
 rw [ec] at hb hQ hE
 obtain ⟨RC, xC⟩ := RB.push o (tk := s1.toks)
 have hB : c.B.get? s1.heap.objs.size = none := by
  cases q : c.B.get? s1.heap.objs.size with
  | none => rfl
  | some o => exact Qe (Qx (RB.keep _ o q)) (Q6 _)
 exact Zqd hfr ((hI F hh).turns λ k w A s Q E hit hq => hS.letGo k _ w A s Q E hit hq) hasg hbody hA n 0 ⟨RC, xB.trans xC, ⟨o, Qw _ hf, h0⟩, λ hm => Qe (RB.phiLt hm) (Q6 _), hv'.ext RB xC, rfl⟩ xB.size hB hb hQ hE
end

set_option backward.eqns.nonrecursive false
def Zbj (get : Nat -> St -> Option (Option PV)) (tf : PV -> PM Unit) : Nat -> Nat -> PM Unit
 | 0, _ => PM.I
 | n + 1, k => λ μ => match get k μ with
  | none => .bad
  | some none => .ok () μ
  | some (some x) => (tf x >>= λ _ => Zbj get tf n (k + 1)) μ
set_option backward.eqns.nonrecursive true
theorem Zhs {get : Nat -> St -> Option (Option PV)} {tf : PV -> PM Unit} {n k : Nat} : Zbj get tf (n + 1) k = λ μ => match get k μ with | none => .bad | some none => .ok () μ | some (some x) => (tf x >>= λ _ => Zbj get tf n (k + 1)) μ := rfl
theorem Zi2 {get get' : Nat -> St -> Option (Option PV)} {tf : PV -> PM Unit} (h : ∀ k μ, get k μ = get' k μ) : ∀ n k, Zbj get tf n k = Zbj get' tf n k
 | 0 => λ _ => rfl
 | n + 1 => λ k => by
  funext μ
  rw [Zhs, Zhs]
  dsimp only
  rw [h, Zi2 h n]
section
variable {c : Cx} {G : Fx}
theorem Zi3 {e : Expr} {d : Nat} {it : Addr} {acc : Value} {p : Pos} {target : Expr} {T : Value -> Sem Fin} {tf : PV -> PM Unit} {P : List Addr -> Heap -> Prop} {ob : Nat -> Obj -> Prop} {v : Value} {pv : PV} {get : Nat -> St -> Option (Option PV)}
  (hturn : compTurn e d (.ref it) acc G.env = (standAt p >>= λ _ => pyNext (.ref it) >>= λ r => match r with
   | none => pure (.done .next)
   | some v => letOwnedTupleGo target (.ref it) v >>= λ _ => T v))
  (hq : (Code.compLoop e d (.ref it) acc G.env).quiet = true) (hden : (model c.prog c.w).den (.compLoop e d (.ref it) acc G.env) = (compTurn e d (.ref it) acc G.env).onRaise (λ x => do noteFrame x G.env; theTreesLotGoes x))
  (hunder : ∀ A : Around, A.under (.compLoop e d (.ref it) acc G.env) = A)
  (hI : ItP c G it ob v pv get) (hS : SelfIter c it ob) (hP : ∀ φ μ s φ' h', Rep c G φ μ s -> Ext G.nss G.cls φ s.heap φ' h' -> P φ s.heap -> P φ' h') (hP2 : ∀ φ μ (s : Shared) h', Rep c G φ μ s -> (∀ w x, VR φ s.heap w x -> VR φ h' w x) -> P φ s.heap -> P φ h')
  (hT : ∀ w x, Sim c G (λ φ h => VR φ h w x ∧ P φ h) (λ _ _ fin _ => fin = .again (.compLoop e d (.ref it) acc G.env)) (T w) (tf x))
  {A : Around} {φ0 φ : List Addr} {h₀ : Heap} {μ μF : St} {s : Shared} {Rr : Result -> Shared -> Prop} (hA : ACtx G A) (n k : Nat) (R : Rep c G φ μ s) (xA : Ext G.nss G.cls φ0 h₀ φ s.heap)
  (hit : ∃ o, s.heap.get? it = some o ∧ ob k o) (hnew : h₀.objs.size <= it) (hitφ : it ∉ φ) (hitB : c.B.get? it = none) (hv : VR φ s.heap v pv) (hp : P φ s.heap) (hok : Zbj get tf n k μ = .ok () μF)
  (hQ : ∀ φ' s', Rep c G φ' μF s' -> Ext G.nss G.cls φ0 h₀ φ' s'.heap -> P φ' s'.heap -> Rr (.ok .next) s') :
  codeAny (model c.prog c.w) A (.compLoop e d (.ref it) acc G.env) Rr s := by
 refine codeAny_loop hq (λ m s' => ∃ k' φ' μ', FI c G it ob v pv (Zbj get tf m) (.ok () μF) φ0 h₀ k' φ' μ' s' ∧ P φ' s'.heap) ?_ n ⟨k, φ, μ, ⟨R, xA, hit, hitφ, hv, hok⟩, hp⟩
 clear R xA hit hitφ hv hp hok
 rintro m s1 ⟨kB, φ1, μ1, I, hpB⟩
 cases m with
 | zero => cases I.eq
 | succ m =>
  rw [hunder, hden]
  refine wpAny_noted ?_
  rw [hturn]
  have eB := I.eq
  rw [Zhs] at eB
  dsimp only at eB
  refine Qb (wpAny_standAt (Qb (Zbl (hI.next kB A φ1 μ1 s1 _ _ hA I.R I.hit I.hv (λ hg h' tk hs size => ?_) (λ x hg w h' tk hit' hs hw size => ?_) (λ hg => by rw [hg] at eB; cases eB)))))
  ·obtain ⟨RC, xC, mv⟩ := I.step hI.data hnew hitB (tk := tk) hs size
   rw [hg] at eB
   cases eB
   exact Qp (hQ φ1 _ RC xC (hP2 φ1 _ s1 h' I.R mv hpB))
  ·obtain ⟨RC, xC, mv⟩ := I.step hI.data hnew hitB (tk := tk) hs size
   rw [hg] at eB
   dsimp only at eB
   have nin := I.nin
   have hv2 := mv _ _ I.hv
   have hpC := hP2 φ1 μ1 s1 h' I.R mv hpB
   clear I mv
   refine Qb (hS.letGo (kB + 1) target w A _ _ _ hit' ?_)
   refine ((hT w x).use (g := λ _ => Zbj get tf m (kB + 1)) hA RC ⟨hw, hpC⟩ (by rw [eB]; exact λ e => nomatch e) (λ e y φ' μ' s' he => nomatch eB.symm.trans he) λ a b φD μD sD eg RD xD hfin => ?_)
   subst hfin
   obtain ⟨h3, n3⟩ := FI.hold hI.data RC hit' nin xD
   exact ⟨rfl, m, Nat.lt_succ_self _, kB + 1, φD, μD, ⟨RD, xC.trans xD, h3, n3, hv2.ext RC xD, eg.symm.trans eB⟩, hP _ _ _ _ _ RC xD hpC⟩
end

theorem Zi4 {env : Env} {y : Str} : ∀ {names : List (Str × NameKind)}, (names.map (·.1)).Nodup -> (y, NameKind.local) ∈ names -> (names.map λ (n, k) => if Zf9 env n k then (n, NameKind.cell) else (n, k)).lookup y = some .local
 | [] => λ _ h => by simp at h
 | (n, k) :: r => λ hn h => by
  simp only [Xa, nodup_cons] at hn
  rw [Xa]
  rcases Qmc h with e | h
  ·cases e
   have : Zf9 env y .local = false := by unfold Zf9; rfl
   simp only [this, Bool.false_eq_true, if_false]
   simp
  ·have hne : (y == n) = false := by
    have : y ≠ n := λ e => hn.1 (by rw [<- e]; exact mem_map_of_mem (f := (·.1)) h)
    simpa using this
   have ih := Zi4 (env := env) hn.2 h
   dsimp only
   split <;> rw [lookup_cons, hne] <;> exact ih
section
variable {M : Model} {A : Around} {E : Value -> Shared -> Prop} {s : Shared}
theorem newEnvC {scope : Scope} {g : Addr} {clo : List (Str × Addr)} {q : Str} {env : Env} {Q : Env -> Shared -> Prop}
  (h : Q { scope, locals := s.heap.objs.size, globals := g, cells := cellsFrom (s.heap.objs.size + 1) scope.names clo, qual := q, func := none, code := env.code, frame := env.frame, builtins := env.builtins } { s with heap := pushCells (s.heap.push { cls := .type "dict", data := .dict #[] }) scope.names }) :
  wpAny M A (newFunctionEnv scope g clo [] q none .none (some env)) Q E s := by
 simp only [newFunctionEnv, Option.isSome_some, if_true]
 refine Qb (wpAny_alloc ?_)
 refine Qb (wpAny_layCells _ (λ name kind cells => by cases hkc : kind == NameKind.cell <;> simp [hkc]) _ _ _ _ ?_)
 rw [show ({ s with heap := s.heap.push { cls := .type "dict", data := .dict #[] } } : Shared).heap.objs.size = s.heap.objs.size + 1 from Xg ..]
 simp only [forIn_nil]
 exact Qb (Qp (Qp h))
end
section
variable {prog : Program} {w : World} {A : Around} {E : Value -> Shared -> Prop} {s : Shared}
theorem Zl7 {l : Addr} {items : Array Value} {n : Nat} {x : Value} {Q : Value -> Shared -> Prop} (hl : IsL s.heap l items n)
  (hQ : Q .none { s with heap := s.heap.update l (Obj.mapSeq λ xs => xs.push x) }) (hsz : items.size <= sizeLine) :
  wpAny (model prog w) A (call (.builtin "list.append") [.ref l, x]) Q E s := by
 have hT : s.TypeIs (.ref l) "list" := ⟨_, hl, rfl⟩
 refine wpAny_call_entry slot_list_append hT entry_list_append ?_ (args_list_append _ _)
 show wpAny _ _ (updateSeq l (·.push x) >>= λ _ => ret .none) _ _ s
 refine Qb ?_
 exact wpAny_updateSeq hl rfl (Qp ⟨.none, rfl, hQ⟩)
theorem Zoi {e : Expr} {d : Nat} {it : Addr} {acc : Value} {env : Env} {R : Result -> Shared -> Prop} {t i : Expr} {ifs : List Expr} (hcl : (clausesOf e)[d]? = some ⟨t, i, ifs, 0⟩)
  (hq : (Code.compLoop e d (.ref it) acc env).quiet = true) (hden : (model prog w).den (.compStart e d (.ref it) acc env) = (compStart e d (.ref it) acc env).onRaise (λ x => do noteFrame x env; standAt theWindowsPlace))
  (hunder : A.under (.compStart e d (.ref it) acc env) = A)
  (hit : ∀ (Q : Value -> Shared -> Prop) (E : Value -> Shared -> Prop), Q (.ref it) s -> wpAny (model prog w) A (pyIter (.ref it)) Q E s)
  (h : codeAny (model prog w) A (.compLoop e d (.ref it) acc env) R s) : codeAny (model prog w) A (.compStart e d (.ref it) acc env) R s := by
 refine codeAny_of_tree ?_
 rw [hunder, hden]
 refine wpAny_notedAt ?_
 unfold compStart
 rw [hcl]
 show wpAny _ _ (ask >>= _) _ _ s
 refine Qb (wpAny_askSetting (wpAny_ite ?_))
 split
 ·first
   | exact Qb (Qp (Qp (And.intro hq h)))
   | exact Qp (And.intro hq h)
 ·first
   | exact Qb (wpAny_rule (Qb (wpAny_standAt (Qb (hit _ _ (Qp (And.intro hq h)))))))
   | (refine Qb (wpAny_rule ?_); show wpAny _ _ (standAt i.pos >>= _) _ _ s; exact Qb (wpAny_standAt (Qb (hit _ _ (Qp (And.intro hq h))))))
end
def Ze8 (c : Cx) (G : Fx) (e : Expr) (d : Nat) (acc : Addr) (i : Nat) (tf : PV -> PM Unit) : Prop :=
 ∀ (it : Addr) (ob : Nat -> Obj -> Prop) (v : Value) (pv : PV) (get : Nat -> St -> Option (Option PV)), ItP c G it ob v pv get -> SelfIter c it ob ->
  ∀ (A : Around) (φ0 φ : List Addr) (h₀ : Heap) (μ μF : St) (s : Shared) (Rr : Result -> Shared -> Prop), ACtx G A -> ∀ (n k : Nat), Rep c G φ μ s -> Ext G.nss G.cls φ0 h₀ φ s.heap ->
  (∃ o, s.heap.get? it = some o ∧ ob k o) -> h₀.objs.size <= it -> it ∉ φ -> c.B.get? it = none -> VR φ s.heap v pv -> VR φ s.heap (.ref acc) (.obj i) -> Zbj get tf n k μ = .ok () μF ->
  (∀ φ' s', Rep c G φ' μF s' -> Ext G.nss G.cls φ0 h₀ φ' s'.heap -> VR φ' s'.heap (.ref acc) (.obj i) -> Rr (.ok .next) s') -> codeAny (model c.prog c.w) A (.compLoop e d (.ref it) (.ref acc) G.env) Rr s
def Zg2 (f : PM PV) (i : Nat) : PM Unit := f >>= λ y => Ze7 (.obj i) y >>= λ _ => pure ()def tfA (asg : PV -> PM Unit) (f : PM PV) (i : Nat) (x : PV) : PM Unit := asg x >>= λ _ => Zg2 f i
set_option backward.eqns.nonrecursive false
def whenM (b : Bool) (f : PM Unit) : PM Unit := match b with
 | true => f
 | false => pure ()
set_option backward.eqns.nonrecursive true
def tfB (asg : PV -> PM Unit) (t : PM Bool) (f : PM PV) (i : Nat) (x : PV) : PM Unit := asg x >>= λ _ => t >>= λ b => whenM b (Zg2 f i)
section
variable {c : Cx} {G : Fx}
theorem Zoj {elt : Expr} {f : PM PV} {acc : Addr} {i : Nat} (hf : Zk c G elt f) : Sim c G (λ φ h => VR φ h (.ref acc) (.obj i)) (λ _ _ _ _ => True) (do let _ <- call (.builtin "list.append") [.ref acc, <- eval elt G.env]) (Zg2 f i) := by
 intro A φ μ s Q E hA R p hb hQ hE
 unfold Zg2 at hb hQ hE
 refine Qb ((hf.keep (v := .ref acc) (x := .obj i)).use hA R p hb hE λ v y φ1 μ1 s1 eg RB xB rB => ?_)
 rw [eg] at hb hQ hE
 unfold Ze7 at hb hQ
 have hne : Zag (.obj i) μ1 ≠ .bad := λ e => hb (by rw [PM.B, PM.B, e])
 obtain ⟨j, xs, et⟩ := Zd8 hne
 obtain ⟨a, vs, n, ea, hi, hl, hvs, ej⟩ := Zha RB rB.1 et
 cases ea
 cases ej
 have e1 : ∀ (K : PV -> PM Unit), ((Zag (.obj i) >>= λ p => chk (Z3 p.2) >>= λ _ => putM p.1 (.lst (p.2 ++ [y])) >>= λ _ => pure PV.none) >>= K) μ1 = (chk (Z3 xs) >>= λ _ => putM i (.lst (xs ++ [y])) >>= λ _ => K .none) μ1 := λ K => by
  rw [PM.B, PM.H et]
  cases Z3 xs <;> rfl
 rw [e1] at hb hQ
 obtain ⟨hln, e2⟩ := Zab hb
 rw [e2] at hQ
 obtain ⟨RD, xD⟩ := RB.relist (tk := s1.toks) hi hl (g := λ xs => xs.push v) (ws := vs ++ [v]) (by simp) (hvs.append (.cons rB.2 .nil))
 refine Qb (Zl7 hl (Qp ?_) (by rw [Q4, hvs.length]; exact Zba hln))
 exact hQ _ _ _ _ _ rfl RD (xB.trans xD) trivial
theorem Zok {elt target iter : Expr} {scope : Scope} {pos : Pos} {asg : PV -> PM Unit} {f : PM PV} {acc : Addr} {i : Nat} (hasg : Zfu c G (assign target G.env) asg) (hf : Zk c G elt f) :
  Ze8 c G (.ListComp elt [⟨target, iter, [], 0⟩] scope pos) 0 acc i (tfA asg f i) := λ it ob v pv get hI hS A φ0 φ h₀ μ μF s Rr hA n k R xA hit hnew hn hB hv hacc hok hQ => by
 refine Zi3 (p := iter.pos) (target := target) (P := λ φ h => VR φ h (.ref acc) (.obj i)) (compTurn_list1 ..) rfl rfl (λ A => ?_) hI hS
  (λ _ _ _ _ _ R e r => r.ext R e) (λ _ _ _ _ _ mv r => mv _ _ r) (λ w x => ?_) hA n k R xA hit hnew hn hB hv hacc hok hQ
 ·exact Around.under_of_weight rfl
 ·intro A φ μ s Q E hA R p hb hQ hE
  unfold tfA at hb hQ hE
  refine Qb ((hasg w x).use hA R p.1 hb hE λ _ _ φ1 μ1 s1 eg RB xB _ => ?_)
  rw [eg] at hb hQ hE
  exact Qb ((Zoj hf).fin hA RB (p.2.ext R xB) rfl xB hb (λ a b φ' μ' s' e R' x' _ => Qp (hQ _ b φ' μ' s' e R' x' rfl)) hE)
theorem Zhb {elt target iter t : Expr} {scope : Scope} {pos : Pos} {asg : PV -> PM Unit} {f : PM PV} {tm : PM Bool} {acc : Addr} {i : Nat} (hasg : Zfu c G (assign target G.env) asg) (ht : Zer c G t tm) (hf : Zk c G elt f) :
  Ze8 c G (.ListComp elt [⟨target, iter, [t], 0⟩] scope pos) 0 acc i (tfB asg tm f i) := λ it ob v pv get hI hS A φ0 φ h₀ μ μF s Rr hA n k R xA hit hnew hn hB hv hacc hok hQ => by
 refine Zi3 (p := iter.pos) (target := target) (T := λ v => (do
    assign target G.env v
    let mut ok := true
    for c in [t] do
     if ok then ok <- isTrue c G.env (eval c G.env)
    if ok then
     (do let _ <- call (.builtin "list.append") [.ref acc, <- eval elt G.env])
    again (.compLoop (.ListComp elt [⟨target, iter, [t], 0⟩] scope pos) 0 (.ref it) (.ref acc) G.env))) (P := λ φ h => VR φ h (.ref acc) (.obj i)) (by rw [compTurn_list]; rfl) rfl rfl (λ A => ?_) hI hS
  (λ _ _ _ _ _ R e r => r.ext R e) (λ _ _ _ _ _ mv r => mv _ _ r) (λ w x => ?_) hA n k R xA hit hnew hn hB hv hacc hok hQ
 ·exact Around.under_of_weight rfl
 ·intro A φ μ s Q E hA R p hb hQ hE
  unfold tfB at hb hQ hE
  refine Qb ((hasg w x).use hA R p.1 hb hE λ _ _ φ1 μ1 s1 eg RB xB _ => ?_)
  rw [eg] at hb hQ hE
  refine Qb (wpAny_tests_one (ht.use hA RB trivial hb (λ e y φ' μ' s' he R' x' r => hE e y φ' μ' s' he R' (xB.trans x') (r.le xB.dom)) λ a b φC μ2 sC eg RC xC rC => ?_))
  subst rC
  rw [eg] at hb hQ hE
  cases a with
  | true => exact Qb ((Zoj hf).fin hA RC ((p.2.ext R xB).ext RB xC) rfl (xB.trans xC) hb (λ a b φ' μ' s' e R' x' _ => Qp (hQ _ b φ' μ' s' e R' x' rfl)) hE)
  | false => exact Qp (hQ _ _ _ _ _ rfl RC (xB.trans xC) rfl)
end

set_option backward.eqns.nonrecursive false
def Zmq (n m : Nat) (pv : PV) (tf : Nat -> PV -> PM Unit) : PM PV := λ μ => match Zbj (Zaw pv μ) (tf μ.hp.length) n 0 (Zic ⟨μ.fr, μ.hp ++ [.lst []]⟩ m) with
 | .ok _ μ' => .ok (.obj μ.hp.length) ⟨μ'.fr.take μ.fr.length, μ'.hp⟩
 | _ => .bad
set_option backward.eqns.nonrecursive true
def Za1 (n m : Nat) (f : PM PV) (tf : Nat -> PV -> PM Unit) : PM PV := f >>= λ pv => Zmq n m pv tf
section
variable {c : Cx} {F : Fx}
theorem Ext.later {φ0 φ : List Addr} {s : Shared} {h₀ h' : Heap} {nss cls : List Addr} {a : Addr} (xA : Ext nss cls φ0 h₀ φ s.heap) (hs : Heap.SameBut a s.heap h') (hn : h₀.objs.size <= a) : Ext nss cls φ0 h₀ φ h' := by
 refine xA.after (Xb hs.1.symm) (λ b o ho => ?_) λ b hd ⟨o, ho⟩ => ?_
 ·by_cases e : b = a
  ·exact .inr (.inr λ ⟨oq, hq⟩ => Qe (Qx hq) (Qi (e ▸ hn)))
  ·exact .inl ((hs.2 b e).trans ho)
 ·by_cases e : b = a
  ·obtain ⟨oq, hq⟩ := hd
   exact Qe (Qx hq) (Qi (e ▸ hn))
  ·exact ⟨o, (hs.2 b e).trans ho⟩
theorem Ext.wider {φ0 φ : List Addr} {h₀ h' : Heap} {nss cls nss' cls' : List Addr} (x : Ext nss cls φ0 h₀ φ h') (h1 : ∀ a ∈ nss, a ∈ nss') (h2 : ∀ a ∈ cls, a ∈ cls') : Ext nss' cls' φ0 h₀ φ h' :=
 ⟨⟨x.grow, x.size, λ a o ho q1 q2 q3 => x.old a o ho q1 (λ q => q2 (h1 a q)) λ q => q3 (h2 a q)⟩, x.dom⟩
theorem Ext.narrow {φ0 φ : List Addr} {h₀ h' : Heap} {scope : Scope} {Lc : Addr} {clo : List (Str × Addr)} (x : Ext (Zbe F scope Lc clo).nss (Zbe F scope Lc clo).cls φ0 h₀ φ h') (hL : h₀.objs.size <= Lc) : Ext F.nss F.cls φ0 h₀ φ h' := by
 refine ⟨⟨x.grow, x.size, λ a o ho q1 q2 q3 => x.old a o ho q1 (λ hm => ?_) λ hm => ?_⟩, x.dom⟩
 ·have hlt := Qx ho
  rcases Qmc (show a ∈ Lc :: F.nss from hm) with e | hm
  ·rw [e] at hlt; exact Qe hlt (Qi hL)
  ·exact q2 hm
 ·have hlt := Qx ho
  rcases Qma (show a ∈ F.cls ++ (Zas Lc scope).map (·.2) from hm) with hm | hm
  ·exact q3 hm
  ·obtain ⟨p, hp, rfl⟩ := Qmm hm
   have := Zdr scope.names (Lc + 1) [] (Lc + 1) Qr (by simp) p hp
   exact Qe hlt (Qi (Qj hL (Qj (Nat.le_succ _) this)))
theorem Rep.leaveB {φ φ' : List Addr} {μ μ' : St} {s s' : Shared} {scope : Scope} {Lc : Addr} {clo : List (Str × Addr)} (R : Rep c F φ μ s) (R' : Rep c (Zbe F scope Lc clo) φ' μ' s') : Rep c F φ' ⟨μ'.fr.take μ.fr.length, μ'.hp⟩ s' := by
 have hfl : (μ'.fr.take μ.fr.length).length = F.locs.length := by
  have h := R'.flen
  have : (F.locs ++ Zal Lc (Zas Lc scope) scope.names).length = μ'.fr.length := h.symm
  rw [Qk] at this
  rw [length_take, R.flen]; exact Nat.min_eq_left (this ▸ Nat.le_add_right _ _)
 refine ⟨R'.ok, R'.keep, R'.os, R'.gens, R'.len, R'.nodup, R'.phiB, R'.objs, hfl, R.lnodup, λ L hL => R'.nss L (Qv _ hL), λ a ha => R'.cls a (Xh _ ha), λ k L x hk => ?_, λ k a hk => ?_, R'.frm⟩
 ·refine ⟨(R.vloc k L x hk).1, λ pv hp hu => ?_⟩
  have hlt := (Qgl hk)
  have hp : (μ'.fr.take μ.fr.length)[k]? = some pv := hp
  rw [List.getElem?_take_of_lt (by rw [R.flen]; exact hlt)] at hp
  exact (R'.vloc k L x (by show (F.locs ++ _)[k]? = _; rw [Qc hlt]; exact hk)).2 pv hp hu
 ·refine ⟨(R.vcell k a hk).1, λ pv hp hu => ?_⟩
  have hlt := (Qgl hk)
  have hp : (μ'.fr.take μ.fr.length)[k]? = some pv := hp
  rw [List.getElem?_take_of_lt (by rw [R.flen]; exact hlt)] at hp
  exact (R'.vcell k a (by show (F.locs ++ _)[k]? = _; rw [Qc hlt]; exact hk)).2 pv hp hu
theorem Zql {pv : PV} {μ : St} {fr : List PV} {l : List MO} (h : Zaw pv μ 0 ⟨fr, μ.hp ++ l⟩ ≠ none) : Zaw pv μ 0 μ ≠ none := by
 cases pv with
 | vals i =>
  unfold Zaw at h ⊢
  dsimp only at h ⊢
  cases hi : μ.hp[i]? with
  | none => rw [hi] at h; exact (h rfl).elim
  | some o => rw [getElem?_app hi, hi] at h; exact h
 | obj i =>
  unfold Zaw Zam at h ⊢
  dsimp only at h ⊢
  cases hi : μ.hp[i]? with
  | none => rw [hi] at h; exact (h rfl).elim
  | some o => rw [getElem?_app hi, hi] at h; exact h
 | _ => exact h
noncomputable def Zgp (scope : Scope) : List (Str × NameKind) := scope.names.filter λ (n, k) => (k == .local || k == .cell) && n != (".0" : Str)
set_option backward.eqns.nonrecursive false
noncomputable def compTail (use : Option (Value -> Sem Unit)) (cenv : Env) (cellsOf : List (Str × NameKind) -> List Value) (vars : List (Str × NameKind)) (acc : Value) : Sem Value := match use with
 | none => (do holding [acc] (comprehension.letGo cenv cellsOf vars.reverse); pure acc)
 | some u => (do
  rule "comprehension.stores-exchanged"
  holding (cellsOf vars) (u acc)
  comprehension.letGo cenv cellsOf (vars.reverse.drop 1 ++ vars.reverse.take 1)
  pure .none)
theorem Zm1 {elt target iter : Expr} {ifs : List Expr} {rest : List Comprehension} {scope : Scope} {cpos pos : Pos} {first : Sem Value} {use : Option (Value -> Sem Unit)} {clo : List (Str × Addr)} {n : Nat} {f : PM PV} {tf : Nat -> PV -> PM Unit}
  (hh : F.hd = true) (hfirst : Sim c F NoP (λ φ h v x => VR φ h v x) first f) (hclo : closureFor scope F.env = pure clo) (hn : (scope.names.map (·.1)).Nodup) (hfold : ∀ x, foldedSetIterable iter F.env x = pure x)
  (hloop : ∀ Lc acc i, Ze8 c (Zbe F scope Lc clo) (.ListComp elt (⟨target, iter, ifs, 0⟩ :: rest) scope cpos) 0 acc i (tf i))
  {A : Around} {φ : List Addr} {μ : St} {s : Shared} {Q : Value -> Shared -> Prop} {E : Value -> Shared -> Prop} (hA : ACtx F A) (R : Rep c F φ μ s) {O : Out PV} (hO : Za1 n (Z0 scope.names).length f tf μ = O) (hb : O ≠ .bad)
  (hE : ∀ e x φ' μ' s', O = .exc x μ' -> Rep c F φ' μ' s' -> Ext F.nss F.cls φ s.heap φ' s'.heap -> ExcR c (dom s.heap) φ' s'.heap e x -> E e s')
  (K : ∀ (acc : Value) (i : Nat) (φ' : List Addr) (μ' : St) (s' : Shared) (Lc : Addr) (cellsOf : List (Str × NameKind) -> List Value), O = .ok (.obj i) μ' -> Rep c F φ' μ' s' -> Ext F.nss F.cls φ s.heap φ' s'.heap -> VR φ' s'.heap acc (.obj i) ->
   s.heap.objs.size <= Lc -> Lc ∉ φ' -> c.B.get? Lc = none -> Lc ∉ F.stk -> (∃ m, s'.heap.Ns Lc m) ->
   wpAny (model c.prog c.w) A (compTail use (cEnv F.env scope Lc clo) cellsOf (Zgp scope) acc) Q E s') :
  wpAny (model c.prog c.w) A (comprehension (.ListComp elt (⟨target, iter, ifs, 0⟩ :: rest) scope cpos) scope F.env pos (newList []) false first use) Q E s := by
 unfold Za1 at hO
 unfold comprehension
 rw [hclo]
 refine Qb (hfirst.use hA R trivial (by rw [hO]; exact hb) (λ e x φ' μ' s' h => hE e x φ' μ' s' (hO.symm.trans h)) λ x pv φ1 μ1 s1 eg RB xB rB => ?_)
 rw [eg] at hO
 unfold Zmq at hO
 refine Qb (wpAny_standAt (Qb (wpAny_of_eq (hfold x) (Qb (Qu ?_)))))
 cases hrun : Zbj (Zaw pv μ1) (tf μ1.hp.length) n 0 (Zic ⟨μ1.fr, μ1.hp ++ [.lst []]⟩ (Z0 scope.names).length) with
 | bad => rw [hrun] at hO; exact (hb hO.symm).elim
 | exc y μ' => rw [hrun] at hO; exact (hb hO.symm).elim
 | ok u μF =>
  rw [hrun] at hO
  dsimp only at hO
  have hne : Zaw pv μ1 0 μ1 ≠ none := by
   refine Zql (fr := (Zic ⟨μ1.fr, μ1.hp ++ [.lst []]⟩ (Z0 scope.names).length).fr) (l := [.lst []]) λ e => ?_
   cases n with
   | zero => cases hrun
   | succ n =>
    rw [Zhs] at hrun
    have e : Zaw pv μ1 0 (Zic ⟨μ1.fr, μ1.hp ++ [.lst []]⟩ (Z0 scope.names).length) = none := e
    dsimp only at hrun
    rw [e] at hrun
    cases hrun
  refine Zlc RB rB hne λ o ob get v' pv' hf hv' hI h0 hge hS => ?_
  rw [Zi2 hge] at hrun
  refine wpAny_standIf ?_
  obtain ⟨RC, xC⟩ := RB.push o (tk := s1.toks)
  have hit2 : (s1.heap.push o).get? s1.heap.objs.size = some o := Qw _ hf
  refine Qb ?_
  unfold newList
  refine wpAny_newObj_type ?_ (by show (#[] : Array Value).size <= sizeLine; decide)
  obtain ⟨RD, xD⟩ := RC.alloc (ob := { cls := .type "list", data := .seq #[] }) (o := .lst []) (tk := s1.toks) rfl λ hg hi hm => .lst (vs := []) hg .nil
  refine Qb (Qp (Qb (newEnvC ?_)))
  obtain ⟨R4, xE, RG⟩ := RD.enterC hn clo _ rfl
  have x14 : Ext F.nss F.cls φ1 s1.heap (φ1 ++ [(s1.heap.push o).objs.size]) _ := xC.trans (xD.trans xE)
  have hitφ : s1.heap.objs.size ∉ φ1 := λ hm => Qe (RB.phiLt hm) (Q6 _)
  have hit3 : ((s1.heap.push o).push { cls := .type "list", data := .seq #[] }).get? s1.heap.objs.size = some o := Qy _ hit2
  have hit4 := pushCells_keeps scope.names _ _ _ (Qy { cls := .type "dict", data := .dict #[] } hit3)
  have hLc : s1.heap.objs.size <= ((s1.heap.push o).push { cls := .type "list", data := .seq #[] }).objs.size := Qj xC.size xD.size
  have hacc : VR (φ1 ++ [(s1.heap.push o).objs.size]) (pushCells (((s1.heap.push o).push { cls := .type "list", data := .seq #[] }).push { cls := .type "dict", data := .dict #[] }) scope.names) (.ref (s1.heap.push o).objs.size) (.obj μ1.hp.length) := .obj (by rw [<- RC.len]; simp)
  refine Qu (Qb (wpAny_attempt (Qu (wpAny_run ?_))))
  refine Zoi (t := target) (i := iter) (ifs := ifs) rfl rfl rfl (Around.under_of_weight rfl) (λ Q E h => hS.self 0 A _ Q E ⟨o, hit4, h0⟩ h) ?_
  refine hloop ((s1.heap.push o).push { cls := .type "list", data := .seq #[] }).objs.size (s1.heap.push o).objs.size μ1.hp.length s1.heap.objs.size ob v' pv' get (hI _ hh) hS A φ1 (φ1 ++ [(s1.heap.push o).objs.size]) s1.heap _ μF _ _ ⟨hA.handled, hA.frames, hA.guards, hA.depth, hA.units⟩ n 0 RG
   (x14.wider (λ a h => Qv _ h) λ a h => Xh _ h) ⟨o, hit4, h0⟩ Qr ?_ ?_ ((hv'.ext RB xC).ext RC xD |>.ext RD xE) hacc hrun λ φ' s' R' x' hacc' => ?_
  ·exact (xD.trans xE).nin hit2 hitφ
  ·exact (RB.above Qr).2
  ·have xF := x'.narrow hLc
   have RF := RD.leaveB R'
   obtain ⟨q1, q2, q3⟩ := R'.nss ((s1.heap.push o).push { cls := .type "list", data := .seq #[] }).objs.size Q0
   have hstk : ((s1.heap.push o).push { cls := .type "list", data := .seq #[] }).objs.size ∉ F.stk := λ hm => ?_
   ·have z := K (.ref (s1.heap.push o).objs.size) μ1.hp.length φ' ⟨μF.fr.take μ1.fr.length, μF.hp⟩ s' ((s1.heap.push o).push { cls := .type "list", data := .seq #[] }).objs.size
    cases use with
    | none => exact z _ hO.symm RF (xB.trans xF) hacc' (Qj xB.size hLc) q1 q2 hstk q3
    | some u => exact z _ hO.symm RF (xB.trans xF) hacc' (Qj xB.size hLc) q1 q2 hstk q3
   ·obtain ⟨_, _, ob', es, ep, hob, _⟩ := RD.stkAt hm
    exact Qe (Qx hob) (Q6 _)
end

section
variable {c : Cx} {F : Fx}
theorem Rep.fresh {φ : List Addr} {μ : St} {s : Shared} (R : Rep c F φ μ s) {a : Addr} (h : s.heap.objs.size <= a) : a ∉ F.nss ∧ a ∉ F.cls := by
 refine ⟨λ hm => ?_, λ hm => ?_⟩
 ·obtain ⟨_, _, m, hn⟩ := R.nss a hm
  exact Qe hn.lt (Qi h)
 ·obtain ⟨_, _, v, o, ho, _⟩ := R.cls a hm
  exact Qe (Qx ho) (Qi h)theorem Zgd {scope : Scope} {x : Str × NameKind} (h : x ∈ Zgp scope) : x ∈ scope.names := (mem_filter.mp h).1
theorem Zkc {φ0 φ : List Addr} {μ0 μ : St} {s0 s : Shared} {scope : Scope} {Lc : Addr} {clo : List (Str × Addr)} {cellsOf : List (Str × NameKind) -> List Value} {A : Around} {Q : Unit -> Shared -> Prop} {E : Value -> Shared -> Prop}
  (R0 : Rep c F φ0 μ0 s0) (R : Rep c F φ μ s) (xA : Ext F.nss F.cls φ0 s0.heap φ s.heap) (hL : s0.heap.objs.size <= Lc) (hφ : Lc ∉ φ) (hB : c.B.get? Lc = none) (hstk : Lc ∉ F.stk) (hns : ∃ m, s.heap.Ns Lc m)
  (hkind : scope.kind = .function) (hn : (scope.names.map (·.1)).Nodup) (vs : List (Str × NameKind)) (hvs : ∀ x ∈ vs, x ∈ scope.names)
  (hQ : ∀ h', Rep c F φ μ { s with heap := h' } -> Ext F.nss F.cls φ0 s0.heap φ h' -> (∀ w x, VR φ s.heap w x -> VR φ h' w x) -> Q () { s with heap := h' }) :
  wpAny (model c.prog c.w) A (comprehension.letGo (cEnv F.env scope Lc clo) cellsOf vs) Q E s := by
 obtain ⟨m, hm⟩ := hns
 refine wpAny_comp_letGo (cenv := cEnv F.env scope Lc clo) hkind vs s m (λ x hx hk => ?_) hm λ h' m' hn' hs => ?_
 ·have : (x.1, NameKind.local) ∈ scope.names := hk ▸ hvs x hx
  exact Zi4 hn this
 ·have hs : Heap.SameBut Lc s.heap h' := hs
  obtain ⟨f1, f2⟩ := R0.fresh hL
  have hz : ∀ o, s.heap.get? Lc = some o -> ¬ FzO o := λ o ho hz => by
   obtain ⟨o', es, ep, h1, h2, _⟩ := hm
   have h1 : s.heap.get? Lc = some o' := h1
   rw [ho] at h1; cases h1
   exact hz.notFrame ⟨_, _, h2⟩
  refine hQ h' (R.spare hs hφ f1 f2 hstk hB hz) (xA.later hs hL) λ w x r => ?_
  exact r.move (λ _ _ e => e) (λ _ _ _ h => h) λ b o ho _ hzo => (hs.2 b λ e => hz o (e ▸ ho) hzo).trans ho
theorem Zol {elt target iter : Expr} {ifs : List Expr} {rest : List Comprehension} {scope : Scope} {pos : Pos} {clo : List (Str × Addr)} {n : Nat} {f : PM PV} {tf : Nat -> PV -> PM Unit}
  (hh : F.hd = true) (hfirst : Zk c F iter f) (hclo : closureFor scope F.env = pure clo) (hkind : scope.kind = .function) (hn : (scope.names.map (·.1)).Nodup) (hfold : ∀ x, foldedSetIterable iter F.env x = pure x)
  (hloop : ∀ Lc acc i, Ze8 c (Zbe F scope Lc clo) (.ListComp elt (⟨target, iter, ifs, 0⟩ :: rest) scope pos) 0 acc i (tf i)) :
  Zk c F (.ListComp elt (⟨target, iter, ifs, 0⟩ :: rest) scope pos) (Za1 n (Z0 scope.names).length f tf) := λ A φ μ s Q E hA R p hb hQ hE => by
 rw [eval_ListComp]
 refine Zm1 hh hfirst hclo hn hfold hloop hA R rfl hb hE λ acc i φ' μ' s' Lc cellsOf eg R' x' hacc hL hφ hB hstk hns => ?_
 refine Qb (Qu (Zkc R R' x' hL hφ hB hstk hns hkind hn _ (λ x hx => Zgd (mem_reverse.mp hx)) λ h' RC xC mv => ?_))
 exact Qp (hQ _ _ _ _ _ eg RC xC (mv _ _ hacc))
end

section
variable {c : Cx} {F : Fx}
theorem Zl8 {t elt target iter : Expr} {ifs : List Expr} {rest : List Comprehension} {scope : Scope} {cpos pos : Pos} {clo : List (Str × Addr)} {n : Nat} {f : PM PV} {tf : Nat -> PV -> PM Unit} {a : PV -> PM Unit}
  (hh : F.hd = true) (hfirst : Zk c F iter f) (hclo : closureFor scope F.env = pure clo) (hkind : scope.kind = .function) (hn : (scope.names.map (·.1)).Nodup) (hfold : ∀ x, foldedSetIterable iter F.env x = pure x)
  (hloop : ∀ Lc acc i, Ze8 c (Zbe F scope Lc clo) (.ListComp elt (⟨target, iter, ifs, 0⟩ :: rest) scope cpos) 0 acc i (tf i))
  (ht : Zfu c F (assign t F.env) a) (hs : swapsWithSole [t] (.ListComp elt (⟨target, iter, ifs, 0⟩ :: rest) scope cpos) pos.line F.env = pure true) (he : (assignEach [t] F.env).map (·.2) = [assign t F.env]) :
  Zaz c F (.Assign [t] (.ListComp elt (⟨target, iter, ifs, 0⟩ :: rest) scope cpos) pos) (Zt (Za1 n (Z0 scope.names).length f tf) a) := λ A φ μ s Q E hA R p hb hQ hE => by
 rw [exec_Assign_arm, hs, he]
 refine Qb (wpAny_standAt (Qb (Qp ?_)))
 rw [Qo rfl]
 show wpAny _ _ (evalThenUse (.ListComp elt (⟨target, iter, ifs, 0⟩ :: rest) scope cpos) F.env (λ v => assignAll v [assign t F.env]) >>= λ _ => pure Flow.next) _ _ _
 refine Qb ?_
 unfold Zt at hb hQ hE
 have hb₁ : Za1 n (Z0 scope.names).length f tf μ ≠ .bad := λ e => hb (by rw [PM.B, e])
 show wpAny _ _ (comprehension (.ListComp elt (⟨target, iter, ifs, 0⟩ :: rest) scope cpos) scope F.env (firstIterPos (⟨target, iter, ifs, 0⟩ :: rest) cpos) (newList []) false (eval iter F.env) (some (λ v => assignAll v [assign t F.env])) >>= λ _ => pure ()) _ _ _
 refine Qb (Zm1 hh hfirst hclo hn hfold hloop hA R rfl hb₁ (λ e x φ' μ' s' eg R' x' r => hE e x φ' μ' s' (by rw [PM.B, eg]) R' x' r) λ acc i φ' μ' s' Lc cellsOf eg R' x' hacc hL hφ hB hstk hns => ?_)
 rw [PM.B, eg] at hb hQ hE
 dsimp only at hb hQ hE
 show wpAny _ _ (rule "comprehension.stores-exchanged" >>= λ _ => holding (cellsOf (Zgp scope)) (assign t F.env acc) >>= λ _ => comprehension.letGo (cEnv F.env scope Lc clo) cellsOf ((Zgp scope).reverse.drop 1 ++ (Zgp scope).reverse.take 1) >>= λ _ => pure Value.none) _ _ _
 have hLN : Lc ∉ F.nss := (R.fresh hL).1
 obtain ⟨o, ho, es, hd⟩ : ∃ o, s'.heap.get? Lc = some o ∧ ∃ es ep, o.data = .dict es ep := by
  obtain ⟨m, o', es, ep, h1, h2, _⟩ := hns
  exact ⟨o', h1, es, ep, h2⟩
 refine Qb (wpAny_rule (Qb (Qu ((ht acc (.obj i)).use hA R' hacc hb (λ e y φ' μ' s' he R' x'' r => hE e y φ' μ' s' he R' (x'.trans x'') (r.le x'.dom)) λ vC y2 φC μ2 sC eg2 RC xC rC => ?_))))
 rw [eg2] at hQ
 have hnew : Lc ∉ φC := xC.nin ho hφ
 have hns2 : ∃ m, sC.heap.Ns Lc m := by
  obtain ⟨m, o', es', ep', h1, h2, h3, h4⟩ := hns
  rcases xC.old Lc o' h1 hφ hLN (R.fresh hL).2 with q | ⟨_, sl, q⟩
  ·exact ⟨m, o', es', ep', q, h2, h3, h4⟩
  ·exact ⟨m, _, es', ep', q, h2, h3, h4⟩
 refine Qb (Zkc R RC (x'.trans xC) hL hnew hB hstk hns2 hkind hn _ (λ x hx => ?_) λ h' RD xD mv => ?_)
 ·rcases Qma hx with hx | hx
  ·exact Zgd (mem_reverse.mp (List.mem_of_mem_drop hx))
  ·exact Zgd (mem_reverse.mp (List.mem_of_mem_take hx))
 ·exact Qp (Qp (Qp (hQ _ _ _ _ _ rfl RD xD .next)))
end

set_option backward.eqns.nonrecursive false
noncomputable def Zdo (f : PV -> PM PV) : List PV -> PM PV
 | [x] => f x
 | _ => PM.I
theorem Zrd {f : PV -> PM PV} {ys : List PV} {μ : St} (h : Zdo f ys μ ≠ .bad) : ∃ y, ys = [y] := by
 rcases ys with _ | ⟨y, _ | _⟩
 ·exact (h rfl).elim
 ·exact ⟨_, rfl⟩
 ·exact (h rfl).elim
noncomputable def noneM (f : PM PV) : List PV -> PM PV
 | [] => f
 | _ => PM.I
set_option backward.eqns.nonrecursive true
abbrev Zay (c : Cx) (F : Fx) (f : Value) (g : List PV -> PM PV) : Prop := ∀ vs ys, Sim c F (λ φ h => VRs φ h vs ys) (λ φ h v x => VR φ h v x) (call f vs) (g ys)
section
variable {c : Cx} {F : Fx}
theorem Zcv {f : Value} {g : PV -> PM PV} (h : ∀ v x, Sim c F (λ φ h => VR φ h v x) (λ φ h v x => VR φ h v x) (call f [v]) (g x)) : Zay c F f (Zdo g) := λ vs ys A φ μ s Q E hA R p hb hQ hE => by
 induction p using VRs.cs with
 | nil => exact (hb rfl).elim
 | cons q r => induction r using VRs.cs with
  | nil => exact h _ _ A φ μ s Q E hA R q hb hQ hE
  | cons _ _ => exact (hb rfl).elim
theorem Zom {f : Value} {g : PM PV} (h : Sim c F NoP (λ φ h v x => VR φ h v x) (call f []) g) : Zay c F f (noneM g) := λ vs ys A φ μ s Q E hA R p hb hQ hE => by
 induction p using VRs.cs with
 | nil => exact h A φ μ s Q E hA R trivial hb hQ hE
 | cons q r => exact (hb rfl).elim
theorem Zi5 {φ : List Addr} {μ : St} {s : Shared} (R : Rep c F φ μ s) {v : Value} {x : PV} (r : VR φ s.heap v x) (h : Zbq x μ ≠ .bad) :
  ∃ a T vs n xs, v = .ref a ∧ (T = "list" ∨ T = "tuple") ∧ s.heap.get? a = some { cls := .type T, data := .seq vs.toArray n } ∧ VRs φ s.heap vs xs ∧ (T = "tuple" -> VR φ s.heap v (.tup xs)) ∧ Zbq x μ = .ok xs μ := by
 induction r using VR.cs with
 | tup h1 h4 h5 => exact ⟨_, _, _, _, _, rfl, .inr rfl, h1, h5, λ _ => .tup h1 h4 h5, rfl⟩
 | lst h1 h4 h5 => exact ⟨_, _, _, _, _, rfl, .inl rfl, h1, h5, (λ e => nomatch (show "list" ≠ "tuple" by decide) e), rfl⟩
 | @obj i a h1 =>
  cases hi : μ.hp[i]? with
  | none => exact (h (by unfold Zbq; simp only [hi])).elim
  | some o =>
   have q := R.objs _ _ o h1 hi
   induction q using OR.cs with
   | lst k1 k2 => exact ⟨_, _, _, _, _, rfl, .inl rfl, k1, k2, (λ e => nomatch (show "list" ≠ "tuple" by decide) e), by unfold Zbq; simp only [hi]⟩
   | _ => exact (h (by unfold Zbq; simp only [hi])).elim
 | _ => exact (h rfl).elim
def Zj4 (k : List PV -> PM PV) (x : PV) : PM PV := Zbq x >>= λ xs => chk (Z3 xs) >>= λ _ => k xs
theorem simSeq {f : Value} {k : List PV -> PM PV} (h : ∀ A φ μ s Q E a T vs n xs, ACtx F A -> Rep c F φ μ s -> (T = "list" ∨ T = "tuple") -> s.heap.get? a = some { cls := .type T, data := .seq vs.toArray n } -> VRs φ s.heap vs xs -> (T = "tuple" -> VR φ s.heap (.ref a) (.tup xs)) -> Z3 xs = true -> k xs μ ≠ .bad ->
   (∀ v x φ' μ' s', k xs μ = .ok x μ' -> Rep c F φ' μ' s' -> Ext F.nss F.cls φ s.heap φ' s'.heap -> VR φ' s'.heap v x -> Q v s') ->
   (∀ e x φ' μ' s', k xs μ = .exc x μ' -> Rep c F φ' μ' s' -> Ext F.nss F.cls φ s.heap φ' s'.heap -> ExcR c (dom s.heap) φ' s'.heap e x -> E e s') -> wpAny (model c.prog c.w) A (call f [.ref a]) Q E s) : Zay c F f (Zdo (Zj4 k)) :=
 Zcv λ v x A φ μ s Q E hA R p hb hQ hE => by
  unfold Zj4 at hb hQ hE
  obtain ⟨a, T, vs, n, xs, rfl, hT, ho, hvs, htup, e⟩ := Zi5 R p (λ e => hb (by rw [PM.B, e]))
  rw [PM.H e] at hb hQ hE
  obtain ⟨hln, e2⟩ := Zab hb
  rw [e2] at hb hQ hE
  exact h A φ μ s Q E a T vs n xs hA R hT ho hvs htup hln hb hQ hE
def Zbz : List PV -> PM PV := Zdo (Zj4 λ xs => pure (.int xs.length))
theorem Zbg : Zay c F (.builtin "len") Zbz := simSeq λ A φ μ s Q E a T vs n xs hA R hT ho hvs _ hln hb hQ hE => by
 have e := hvs.length
 have hle := Zco hln
 have fin : ∀ tk t, Q (.int vs.toArray.size t) { s with toks := tk } := λ tk t => hQ _ _ _ _ _ rfl (R.toks _) Ext.refl (by rw [Q4, e]; exact .int _ _)
 rcases hT with rfl | rfl
 ·exact call_len_list ⟨_, ho, rfl, _, rfl⟩ (by simp; lia) (fin _ _)
 ·exact P.len_tuple (n := n) ho (by simp; lia) (fin _ _)def Zl2 : List PV -> PM PV := Zdo (Zj4 λ xs => pure (.tup xs))
theorem Zm2 : Zay c F (.type "tuple") Zl2 := simSeq λ A φ μ s Q E a T vs n xs hA R hT ho hvs hr hln hb hQ hE => by
 have e := hvs.length
 have hle := Zco hln
 rcases hT with rfl | rfl
 ·refine Zbl (call_tuple_list (items := vs.toArray) ⟨_, ho, rfl, _, rfl⟩ (λ h' keep size => ?_) (by rw [Q4, e]; exact Zba hln))
  obtain ⟨RB, xB⟩ := R.still (tk := s.toks) size (λ b o q => Qy _ (keep b o q))
  refine hQ _ _ _ _ _ rfl RB xB (.tup (n := 0) (Qw _ rfl) ?_ (hvs.ext R xB))
  intro hm
  obtain ⟨o, ho⟩ := R.lt hm
  exact Qe (Qx (keep _ _ ho)) (Q6 _)
 ·exact call_tuple_same (items := vs.toArray) ⟨_, ho, rfl, _, rfl⟩ (hQ _ _ _ _ _ rfl R Ext.refl (hr rfl))
end

theorem Zld {prog : Program} {w : World} {A : Around} (hh : A.handled = none) {l it : Addr} {vs : List Value} (hne : l ≠ it) : Walks prog w A it [l, it] [it] vs.length (λ i v => vs[i]? = some v)
  (λ k h => h.IsList l vs.toArray ∧ ∃ o, h.get? it = some o ∧ o.cls = .type "list_iterator" ∧ o.data = .fields #[.ref l, .int k 0]) where
 sub := λ b hb => by simp at hb; simp [hb]
 frame := λ i h h' st hk => by
  obtain ⟨⟨o, ho, r⟩, o', ho', r'⟩ := st
  exact ⟨⟨o, hk l (by simp) o ho, r⟩, o', hk it (by simp) o' ho', r'⟩
 item := λ i s Q E hi st hQ => by
  obtain ⟨hL, o, ho, hc, hd⟩ := st
  refine wpAny_pyNext_list_item (x := vs[i]) ⟨o, ho, hc, hd⟩ hL (by simp) λ h' hit' hs => hQ _ h' s.toks (by simp) ?_ ?_
  ·obtain ⟨o', ho', hc', hd'⟩ := hit'
   obtain ⟨ol, hol, r⟩ := hL
   exact ⟨⟨ol, (hs.2 l hne).trans hol, r⟩, o', ho', hc', by rw [hd']⟩
  ·exact λ b o' hb h => (hs.2 b (by simpa using hb)).trans h
 done := λ s Q E st hQ => by
  obtain ⟨hL, o, ho, hc, hd⟩ := st
  exact wpAny_pyNext_list_end hh ⟨o, ho, hc, hd⟩ hL (by simp) λ h' hs => hQ h' s.toks λ b o' hb h => hs b o' (by simpa using hb) h
 self := λ i s Q E st h => by
  obtain ⟨hL, o, ho, hc, hd⟩ := st
  exact wpAny_pyIter_listiter ⟨o, ho, hc, hd⟩ h
set_option backward.eqns.nonrecursive false
noncomputable def Zb1 : List PV -> Option (List Bool)
 | [] => some []
 | .bool b :: r => (Zb1 r).map (b :: ·)
 | _ :: _ => none
theorem Ztz {b : Bool} {r : List PV} : Zb1 (.bool b :: r) = (Zb1 r).map (b :: ·) := rfl
theorem Zkd {x : PV} {xs : List PV} {is : List Int} (e : Zbc (x :: xs) = some is) : ∃ i js, x = .int i ∧ Zbc xs = some js ∧ is = i :: js := by
 cases x with
 | int i => obtain ⟨js, e', rfl⟩ := Option.map_eq_some_iff.mp (show (Zbc _).map _ = some is from e); exact ⟨i, js, rfl, e', rfl⟩
 | _ => exact Zq e
theorem Zi6 {φ : List Addr} {h : Heap} {vs : List Value} {xs : List PV} (r : VRs φ h vs xs) : ∀ {is : List Int}, Zbc xs = some is -> is.length = vs.length ∧ ∀ k v, vs[k]? = some v -> ∃ t, v = Value.int (is.getD k 0) t := by
 induction r using VRs.ind with
 | nil => intro is e; cases e; exact ⟨rfl, λ k v h => nomatch h⟩
 | cons a b ih =>
  intro is e
  obtain ⟨i, js, rfl, e', rfl⟩ := Zkd e
  obtain ⟨h1, h2⟩ := ih e'
  refine ⟨congrArg Nat.succ h1, λ k v h => ?_⟩
  cases k with
  | succ k => exact h2 k v h
  | zero =>
  cases h
  exact a.int_inv rfl
theorem Zon {x : PV} {xs : List PV} {is : List Bool} (e : Zb1 (x :: xs) = some is) : ∃ i js, x = .bool i ∧ Zb1 xs = some js ∧ is = i :: js := by
 cases x with
 | bool i => obtain ⟨js, e', rfl⟩ := Option.map_eq_some_iff.mp (show (Zb1 _).map _ = some is from e); exact ⟨i, js, rfl, e', rfl⟩
 | _ => exact Zq e
theorem VR.bool_inv {φ : List Addr} {h : Heap} {v : Value} {x : PV} (r : VR φ h v x) : ∀ {i : Bool}, x = .bool i -> v = Value.bool i := by
 induction r using VR.cs with
 | bool => intro i e; cases e; first | rfl | exact ⟨_, rfl⟩
 | _ => intro i e; cases e
theorem Zle {φ : List Addr} {h : Heap} {vs : List Value} {xs : List PV} (r : VRs φ h vs xs) : ∀ {is : List Bool}, Zb1 xs = some is -> is.length = vs.length ∧ ∀ k v, vs[k]? = some v -> v = Value.bool (is.getD k false) := by
 induction r using VRs.ind with
 | nil => intro is e; cases e; exact ⟨rfl, λ k v h => nomatch h⟩
 | cons a b ih =>
  intro is e
  obtain ⟨i, js, rfl, e', rfl⟩ := Zon e
  obtain ⟨h1, h2⟩ := ih e'
  refine ⟨congrArg Nat.succ h1, λ k v h => ?_⟩
  cases k with
  | succ k => exact h2 k v h
  | zero =>
  cases h
  exact a.bool_inv rfl
def lstM {α : Type} (g : List PV -> Option α) (x : PV) : PM α := λ μ => match Zaa μ.hp x with
 | some xs => (match g xs with
  | some a => .ok a μ
  | none => .bad)
 | none => .bad
set_option backward.eqns.nonrecursive true
theorem Zw7 {α : Type} {g : List PV -> Option α} {x : PV} {μ : St} (h : lstM g x μ ≠ .bad) : ∃ xs a, Zaa μ.hp x = some xs ∧ g xs = some a ∧ lstM g x μ = .ok a μ := by
 unfold lstM at h ⊢
 cases e : Zaa μ.hp x with
 | none => rw [e] at h; exact (h rfl).elim
 | some xs =>
  rw [e] at h
  dsimp only at h ⊢
  cases e' : g xs with
  | none => rw [e'] at h; exact (h rfl).elim
  | some a => exact ⟨xs, a, rfl, e', rfl⟩
section
variable {c : Cx} {F : Fx}
theorem Zr3 {f : Value} {α : Type} {g : List PV -> Option α} {k : α -> PV} (hh : F.hd = true)
  (h : ∀ A φ μ s (Q : Value -> Shared -> Prop) E a vs xs y, ACtx F A -> Rep c F φ μ s -> s.heap.IsList a vs.toArray -> VRs φ s.heap vs xs -> g xs = some y -> A.handled = none ->
   (∀ v s', VR φ s.heap v (k y) -> Rep c F φ μ s' -> Ext F.nss F.cls φ s.heap φ s'.heap -> Q v s') ->
   (∀ h' tk, (∀ b o, b ∉ [s.heap.objs.size] -> (s.heap.push { cls := .type "list_iterator", data := .fields #[.ref a, .int 0 0] }).get? b = some o -> h'.get? b = some o) -> s.heap.objs.size <= h'.objs.size -> Rep c F φ μ { s with heap := h', toks := tk } ∧ Ext F.nss F.cls φ s.heap φ h') ->
   wpAny (model c.prog c.w) A (call f [.ref a]) (λ v s' => s.heap.objs.size <= s'.heap.objs.size -> Q v s') E s) (hk : ∀ y φ h h' v, VR φ h v (k y) -> VR φ h' v (k y)) : Zay c F f (Zdo λ x => lstM g x >>= λ y => pure (k y)) :=
 Zcv λ v x A φ μ s Q E hA R p hb hQ hE => by
  obtain ⟨xs, y, e1, e2, e3⟩ := Zw7 (λ e => hb (by rw [PM.B, e]))
  rw [PM.H e3] at hQ
  obtain ⟨a, vs, rfl, hL, hvs⟩ := Zk3 R p e1
  refine Zbl (wpAny_mono (h A φ μ s Q E a vs xs y hA R hL hvs e2 (hA.handled hh) (λ v s' r R' x' => hQ _ _ _ _ _ rfl R' x' (hk _ _ _ _ _ r)) λ h' tk keep size => R.still size λ b o hb => keep b o (λ hm => ?_) (Qy _ hb)) (λ _ _ q => q) λ _ _ q => λ _ => q)
  have := Qx hb
  simp at hm
  rw [hm] at this
  exact Q6 _ this
theorem Zt0 {bs : List Bool} : ∀ n, n = bs.length -> (List.range n).any (λ i => bs.getD i false) = bs.any id := λ n e => by
 subst e
 rw [Bool.eq_iff_iff, any_eq_true, any_eq_true]
 constructor
 ·rintro ⟨i, hi, h⟩
  rw [mem_range] at hi
  refine ⟨bs[i], by simp, ?_⟩
  simpa [List.getD, hi] using h
 ·rintro ⟨b, hb, h⟩
  obtain ⟨i, hi⟩ := List.getElem?_of_mem hb
  exact ⟨i, mem_range.mpr (Qgl hi), by simpa [List.getD, hi] using h⟩
theorem Zt1 {bs : List Bool} : ∀ n, n = bs.length -> (List.range n).all (λ i => bs.getD i false) = bs.all id := λ n e => by
 subst e
 rw [Bool.eq_iff_iff, all_eq_true, all_eq_true]
 constructor
 ·intro h b hb
  obtain ⟨i, hi⟩ := List.getElem?_of_mem hb
  have := h i (mem_range.mpr (Qgl hi))
  simpa [List.getD, hi] using this
 ·intro h i hi
  rw [mem_range] at hi
  have := h bs[i] (by simp)
  simpa [List.getD, hi] using this
def pAny : List PV -> PM PV := Zdo λ x => lstM Zb1 x >>= λ is => pure (.bool (is.any id))
theorem Zw8 (hh : F.hd = true) : Zay c F (.builtin "any") pAny := Zr3 (k := λ is : List Bool => PV.bool (is.any id)) hh (λ A φ μ s Q E a vs xs is hA R hL hvs e hA' hQ hS => by
 obtain ⟨q1, q2⟩ := Zle hvs e
 have hlt : a < s.heap.objs.size := by obtain ⟨o, ho, _⟩ := hL; exact Qx ho
 refine call_any_walk (wpAny_pyIter_list hL ⟨_, _, _, _, _, _, λ i => is.getD i false, rfl, Zld (A := A.in1) (vs := vs) hA' (Nat.ne_of_lt hlt), ⟨hL.push _, _, Qw _ rfl, rfl, rfl⟩, λ i v s Q E hv hq => ?_, λ h' tk keep size => ?_⟩)
 ·rw [q2 i v hv]; exact wpAny_truthy_bool hq
 ·obtain ⟨R', x'⟩ := hS h' tk keep size
  refine hQ _ _ ?_ R' x'
  rw [Zt0 _ q1.symm]
  exact .bool _) (λ y φ h h' v r => by cases r; exact .bool _)def pAll : List PV -> PM PV := Zdo λ x => lstM Zb1 x >>= λ is => pure (.bool (is.all id))
theorem Zw9 (hh : F.hd = true) : Zay c F (.builtin "all") pAll := Zr3 (k := λ is : List Bool => PV.bool (is.all id)) hh (λ A φ μ s Q E a vs xs is hA R hL hvs e hA' hQ hS => by
 obtain ⟨q1, q2⟩ := Zle hvs e
 have hlt : a < s.heap.objs.size := by obtain ⟨o, ho, _⟩ := hL; exact Qx ho
 refine call_all_walk (wpAny_pyIter_list hL ⟨_, _, _, _, _, _, λ i => is.getD i false, rfl, Zld (A := A.in1) (vs := vs) hA' (Nat.ne_of_lt hlt), ⟨hL.push _, _, Qw _ rfl, rfl, rfl⟩, λ i v s Q E hv hq => ?_, λ h' tk keep size => ?_⟩)
 ·rw [q2 i v hv]; exact wpAny_truthy_bool hq
 ·obtain ⟨R', x'⟩ := hS h' tk keep size
  refine hQ _ _ ?_ R' x'
  rw [Zt1 _ q1.symm]
  exact .bool _) (λ y φ h h' v r => by cases r; exact .bool _)
end

section
variable {c : Cx} {F : Fx}
set_option backward.eqns.nonrecursive false
def rngOf : List Int -> PM PV
 | [n] => pure (.rng 0 n 1)
 | _ => PM.I
def Zdw (ys : List PV) : PM PV := match Zbc ys with
 | some is => rngOf is
 | none => PM.I
theorem Zi7 : ∀ {ys : List PV} {is : List Int}, Zbc ys = some is -> ys = is.map .int
 | [] => λ e => by cases e; rfl
 | y :: ys => λ e => by
  obtain ⟨i, js, rfl, e', rfl⟩ := Zkd e
  rw [Zi7 e']; rfl
theorem Zxa {φ : List Addr} {μ : St} {s : Shared} (R : Rep c F φ μ s) {a b st : Int} {t u v : Tok} {tk : Nat} {Q : Value -> Shared -> Prop}
  (hQ : ∀ w φ' s', Rep c F φ' μ s' -> Ext F.nss F.cls φ s.heap φ' s'.heap -> VR φ' s'.heap w (.rng a b st) -> Q w s') : Q (.ref s.heap.objs.size) { s with heap := s.heap.push { cls := .type "range", data := .fields #[.int a t, .int b u, .int st v] }, toks := tk } := by
 obtain ⟨RB, xB⟩ := R.push { cls := .type "range", data := .fields #[.int a t, .int b u, .int st v] } (tk := tk)
 exact hQ _ _ _ RB xB (.rng (Qw _ rfl) λ hm => Qe (R.phiLt hm) (Q6 _))
theorem Zff : Zay c F (.type "range") Zdw := λ vs ys A φ μ s Q E hA R p hb hQ hE => by
 unfold Zdw at hb hQ hE
 cases hi : Zbc ys with
 | none => rw [hi] at hb; exact (hb rfl).elim
 | some is =>
  rw [hi] at hb hQ hE
  have hys := Zi7 hi
  subst hys
  cases is with
  | nil => exact (hb rfl).elim
  | cons a r =>
  cases r with
  | nil => obtain ⟨_, rfl⟩ := p.ints1; exact call_range_1 (Zxa R λ w φ' s' R' x' r => hQ _ _ _ _ _ rfl R' x' r)
  | cons => exact (hb rfl).elim
def Zef : PV -> PM PV := Zj4 λ xs => Zdv (.lst xs) >>= λ i => pure (.obj i)
theorem Zva {φ : List Addr} {μ : St} {s : Shared} (R : Rep c F φ μ s) {h' : Heap} {tk : Nat} {vs : List Value} {n : Nat} {xs : List PV} (keep : ∀ b o, s.heap.get? b = some o -> h'.get? b = some o) (size : s.heap.objs.size <= h'.objs.size)
  (hnew : h'.get? s.heap.objs.size = some { cls := .type "list", data := .seq vs.toArray n }) (hv : ∀ (φ' : List Addr), (∀ v x, VR φ s.heap v x -> VR φ' h' v x) -> VRs φ' h' vs xs) :
  Rep c F (φ ++ [s.heap.objs.size]) { fr := μ.fr, hp := μ.hp ++ [.lst xs] } { s with heap := h', toks := tk } ∧ Ext F.nss F.cls φ s.heap (φ ++ [s.heap.objs.size]) h' := by
 have hself : (φ ++ [s.heap.objs.size])[μ.hp.length]? = some s.heap.objs.size := by rw [<- R.len]; simp
 refine R.mut (ψ := [s.heap.objs.size]) (by simp) (by simp) size (λ a o' e _ => keep a o' e) (by simp [R.len]) (λ hm i a o' h1 h2 => ?_)
 by_cases hi : i < φ.length
 ·rw [Qc hi] at h1
  rw [Qc (by rw [<- R.len]; exact hi)] at h2
  obtain ⟨ob', hob⟩ := R.lt (Qm h1)
  exact (R.objs i a o' h1 h2).move (λ _ _ e => getElem?_app e) hm ((keep _ _ hob).trans hob.symm)
 ·have hi' : i = φ.length := by
   have := (Qgl h1)
   rw [Qk] at this
   exact Qnn hi (Nat.le_of_lt_succ this)
  subst hi'
  rw [R.len] at h1 h2
  rw [hself] at h1; cases h1
  simp at h2; subst h2
  exact .lst hnew (hv _ hm)
theorem Zlf (hh : F.hd = true) : Zay c F (.type "list") (Zdo Zef) := Zcv λ v x A φ μ s Q E hA R p hb hQ hE => by
 unfold Zef Zj4 at hb hQ
 obtain ⟨a, T, vs, n, xs, rfl, hT, ho, hvs, _, e⟩ := Zi5 R p (λ e => hb (by rw [PM.B, e]))
 rw [PM.H e] at hb hQ
 obtain ⟨hln, e2⟩ := Zab hb
 rw [e2] at hQ
 refine Zbl (call_list_seq a hT ho rfl rfl (λ h' c' keep hnew size => ?_) (by rw [Q4, hvs.length]; exact Zba hln))
 obtain ⟨RB, xB⟩ := Zva (tk := s.toks) R keep size hnew (xs := xs) λ φ' hm => hvs.mv hm
 exact hQ _ _ _ _ _ rfl RB xB (.obj (by rw [<- R.len]; simp))
end

section
variable {c : Cx} {F : Fx}
theorem Zfg {o : Expr} {name : Str} {apos pos : Pos} {args : List Expr} {T id : String} {fo : PM PV} {β γ : Type} {ck : PV -> PM β} {ga : PM (List PV)} {RR : List Addr -> Heap -> Value -> γ -> Prop} {k : PV -> List PV -> PM γ}
  (hbase : attributeBase o name F.env (eval o F.env) = eval o F.env) (hfew : hFew c F pos args) (hline : (apos.endLine == pos.line) = true)
  (pa : PlainAttrs T) (slot : Slot T name id) (hty : typeOf (.builtin id) = pure (.type "method_descriptor"))
  (h : Zk c F o fo) (hck : ∀ φ μ s v x, Rep c F φ μ s -> VR φ s.heap v x -> ck x μ ≠ .bad -> ∃ b, ck x μ = .ok b μ ∧ s.TypeIs v T ∧ (∃ a, v = .ref a ∧ ∃ ob, s.heap.get? a = some ob ∧ ob.dict = none))
  (hargs : CallArgs c F (starEach args F.env) ga)
  (hk : ∀ a x vs ys, Sim c F (λ φ h => VR φ h (.ref a) x ∧ VRs φ h vs ys) RR (call (.builtin id) (.ref a :: vs)) (k x ys)) :
  Sim c F NoP RR (eval (.Call (.Attribute o name apos) args [] pos) F.env) (fo >>= λ x => ck x >>= λ _ => ga >>= k x) :=
 Zhq hbase hfew hline pa slot hty h (k := λ x _ => ga >>= k x) hck λ a x b =>
  Zc5 (first := [.ref a]) hargs (λ _ _ _ _ _ R e r => r.ext R e) (λ φ h X _ => Zob φ h X trivial) λ vs ys => hk a x vs ys
set_option backward.eqns.nonrecursive false
noncomputable def Zcu (v : PV) : PM (Nat × List Int) := λ μ => match v with
 | .obj i => match μ.hp[i]? with
  | some (.set xs) => .ok (i, xs) μ
  | _ => .bad
 | _ => .bad
theorem Zsi {μ : St} {x : PV} (h : Zcu x μ ≠ .bad) : ∃ i xs, x = .obj i ∧ μ.hp[i]? = some (.set xs) := by
 cases x with
 | obj i =>
  unfold Zcu at h
  dsimp only at h
  cases hi : μ.hp[i]? with
  | none => rw [hi] at h; exact (h rfl).elim
  | some o =>
   rw [hi] at h
   cases o with
   | set xs => exact ⟨i, xs, rfl, hi⟩
   | _ => exact (h rfl).elim
 | _ => exact (h rfl).elim
theorem Zm3 {φ : List Addr} {μ : St} {s : Shared} (R : Rep c F φ μ s) {v : Value} {x : PV} (r : VR φ s.heap v x) (h : Zcu x μ ≠ .bad) :
  ∃ a i xs, v = .ref a ∧ φ[i]? = some a ∧ s.heap.SetOf (intKind c.prog c.w) a (λ k => decide (k ∈ xs)) xs.length ∧ Zcu x μ = .ok (i, xs) μ := by
 obtain ⟨i, xs, rfl, hi⟩ := Zsi h
 obtain ⟨a, rfl, h1⟩ := r.un_obj rfl
 exact ⟨a, i, xs, rfl, h1, (R.objs i a _ h1 hi).inv_set rfl, by unfold Zcu; dsimp only; rw [hi]⟩
theorem Zt2 : ∀ φ μ s v x, Rep c F φ μ s -> VR φ s.heap v x -> Zcu x μ ≠ .bad -> ∃ b, Zcu x μ = .ok b μ ∧ s.TypeIs v "set" ∧ (∃ a, v = .ref a ∧ ∃ ob, s.heap.get? a = some ob ∧ ob.dict = none) := by
 intro φ μ s v x R r hb
 obtain ⟨a, i, xs, rfl, hi, hS, e⟩ := Zm3 R r hb
 obtain ⟨o, es, ep, t, ho, hx, _⟩ := id hS
 exact ⟨_, e, hS.typeIs, a, rfl, o, ho, hx.2.1⟩def pSet : PM PV := Zdv (.set []) >>= λ i => pure (.obj i)
theorem Zxb : Zay c F (.type "set") (noneM pSet) := Zom λ A φ μ s Q E hA R p hb hQ hE => by
 refine call_set_0 λ led => ?_
 obtain ⟨RB, xB⟩ := R.alloc (ob := { cls := .type "set", dict := none, data := .set #[] 0 (.fresh 0 0 led) }) (o := .set []) (tk := s.toks) rfl λ hg hi hm => .set (by
  have q := PyProof.Rows.setObjOf_fresh (knd := intKind c.prog c.w) led
  have := q.setOf hg (by decide)
  simpa using this)
 exact hQ _ _ _ _ _ rfl RB xB (.obj (by rw [<- R.len]; simp))
noncomputable def Zfl (xs : List Int) (k : Int) : List Int := match decide (k ∈ xs) with
 | true => xs
 | false => xs ++ [k]
def Zj5 (o : PV) : List PV -> PM PV
 | [.int k] => Zcu o >>= λ p => chk (decide (p.2.length + 1 < scanBound)) >>= λ _ => putM p.1 (.set (Zfl p.2 k)) >>= λ _ => pure .none
 | _ => PM.I
theorem Zke {f : Int -> PM PV} {ys : List PV} {μ : St} (h : (match ys with | [.int k] => f k | _ => PM.I : PM PV) μ ≠ .bad) : ∃ k, ys = [.int k] := by
 rcases ys with _ | ⟨y, _ | _⟩
 ·exact (h rfl).elim
 ·cases y with
  | int k => exact ⟨k, rfl⟩
  | _ => exact (h rfl).elim
 ·exact (h (by cases y <;> rfl)).elim
def Zmr (fo : PM PV) (ga : PM (List PV)) : PM PV := fo >>= λ x => Zcu x >>= λ _ => ga >>= Zj5 x
theorem Zsj {o : Expr} {apos pos : Pos} {args : List Expr} {fo : PM PV} {ga : PM (List PV)} (hbase : attributeBase o "add" F.env (eval o F.env) = eval o F.env) (hfew : hFew c F pos args) (hline : (apos.endLine == pos.line) = true)
  (h : Zk c F o fo) (hargs : CallArgs c F (starEach args F.env) ga) : Zk c F (.Call (.Attribute o "add" apos) args [] pos) (Zmr fo ga) :=
 Zfg hbase hfew hline PySem.F.plainAttrs_set PySem.F.slot_set_add PySem.F.type_set_add h Zt2 hargs λ a x vs ys A φ μ s Q E hA R p hb hQ hE => by
  obtain ⟨k, rfl⟩ := Zke hb
  unfold Zj5 at hb hQ
  ·dsimp only at hb hQ
   obtain ⟨a', i, xs, ea, hi, hS, e⟩ := Zm3 R p.1 (λ e => hb (by rw [PM.B, e]))
   cases ea
   rw [PM.H e] at hb hQ
   obtain ⟨hln, e2⟩ := Zab hb
   rw [e2] at hQ
   obtain ⟨p1, p2⟩ := p
   obtain ⟨t, rfl⟩ := p2.ints1
   refine call_set_add (knd := intKind c.prog c.w) (intKind_is _ _ _ _) rfl hS (Qh hln) λ h' hs hS' => ?_
   obtain ⟨RD, xD⟩ := R.upd (tk := s.toks + 1) (o := .set (Zfl xs k)) hi hs λ hm => .set (by
    have e1 : (λ k' => decide (k' ∈ xs) || decide (k' = k)) = λ k' => decide (k' ∈ Zfl xs k) := by
     funext k'
     unfold Zfl
     by_cases hk : k ∈ xs
     ·rw [Qg hk]
      by_cases e : k' = k
      ·subst e; simp [hk]
      ·simp [e]
     ·rw [Q8 hk]
      by_cases e : k' = k <;> simp [e]
    have e2 : (if decide (k ∈ xs) = true then xs.length else xs.length + 1) = (Zfl xs k).length := by
     unfold Zfl
     by_cases hk : k ∈ xs
     ·rw [Qg hk]; rfl
     ·rw [Q8 hk]; simp
    rw [e1, e2] at hS'
    exact hS')
   exact hQ _ _ _ _ _ rfl RD xD .none
end
end
end Mine
namespace Mine
open PySem PySem.W PyProof.Rows PySem.Calls PySem.MeetsSeq
noncomputable section

section
variable {c : Cx} {F : Fx}
set_option backward.eqns.nonrecursive false
noncomputable def Zb6 (v : PV) : PM (Nat × List (Int × PV)) := λ μ => match v with
 | .obj i => match μ.hp[i]? with
  | some (.dct es ep) => .ok (i, es) μ
  | _ => .bad
 | _ => .bad
theorem Zsk {μ : St} {x : PV} (h : Zb6 x μ ≠ .bad) : ∃ i es ep, x = .obj i ∧ μ.hp[i]? = some (.dct es ep) := by
 cases x with
 | obj i =>
  unfold Zb6 at h
  dsimp only at h
  cases hi : μ.hp[i]? with
  | none => rw [hi] at h; exact (h rfl).elim
  | some o =>
   rw [hi] at h
   cases o with
   | dct es ep => exact ⟨i, es, ep, rfl, hi⟩
   | _ => exact (h rfl).elim
 | _ => exact (h rfl).elim
theorem Zi8 {φ : List Addr} {μ : St} {s : Shared} (R : Rep c F φ μ s) {v : Value} {x : PV} (r : VR φ s.heap v x) (h : Zb6 x μ ≠ .bad) :
  ∃ a i es kvs ep, v = .ref a ∧ φ[i]? = some a ∧ s.heap.DictAt (intKind c.prog c.w) a kvs ep ∧ DRs φ s.heap kvs es ∧ Zb6 x μ = .ok (i, es) μ := by
 obtain ⟨i, es, ep, rfl, hi⟩ := Zsk h
 obtain ⟨a, rfl, h1⟩ := r.un_obj rfl
 obtain ⟨kvs, k1, k2⟩ := (R.objs i a _ h1 hi).inv_dct rfl
 exact ⟨a, i, es, kvs, ep, rfl, h1, k1, k2, by unfold Zb6; dsimp only; rw [hi]⟩
theorem Zm4 : ∀ φ μ s v x, Rep c F φ μ s -> VR φ s.heap v x -> Zb6 x μ ≠ .bad -> ∃ b, Zb6 x μ = .ok b μ ∧ s.TypeIs v "dict" ∧ (∃ a, v = .ref a ∧ ∃ ob, s.heap.get? a = some ob ∧ ob.dict = none) := by
 intro φ μ s v x R r hb
 obtain ⟨a, i, es, kvs, ep, rfl, hi, hS, _, e⟩ := Zi8 R r hb
 obtain ⟨ob, h1, h2⟩ := hS.dictOf.mapOf.noDict a rfl
 exact ⟨_, e, hS.dictOf.typeIs, a, rfl, ob, h1, h2⟩
theorem Zt3 {φ : List Addr} {h : Heap} {kvs : List (Int × Value)} {es : List (Int × PV)} (r : DRs φ h kvs es) {k : Int} (e : Zdb es k = none) : valueAt kvs k = none := by
 have := Zkp r k
 have hn : (es.any λ e => e.1 == k) = false := by
  unfold Zdb at e
  rw [Option.map_eq_none_iff, List.find?_eq_none] at e
  rw [List.any_eq_false]
  exact e
 rw [hn] at this
 cases q : valueAt kvs k with
 | none => rfl
 | some v => rw [q] at this; cases this
def Zid (o : PV) : List PV -> PM PV
 | [.int k] => Zb6 o >>= λ p => pure ((Zdb p.2 k).getD .none)
 | _ => PM.I
def Zie (fo : PM PV) (ga : PM (List PV)) : PM PV := fo >>= λ x => Zb6 x >>= λ _ => ga >>= Zid x
theorem Zkf {o : Expr} {apos pos : Pos} {args : List Expr} {fo : PM PV} {ga : PM (List PV)} (hbase : attributeBase o "get" F.env (eval o F.env) = eval o F.env) (hfew : hFew c F pos args) (hline : (apos.endLine == pos.line) = true)
  (h : Zk c F o fo) (hargs : CallArgs c F (starEach args F.env) ga) : Zk c F (.Call (.Attribute o "get" apos) args [] pos) (Zie fo ga) :=
 Zfg hbase hfew hline PySem.F.plainAttrs_dict PySem.F.slot_dict_get PySem.F.type_dict_get h Zm4 hargs λ a x vs ys A φ μ s Q E hA R p hb hQ hE => by
  obtain ⟨k, rfl⟩ := Zke hb
  unfold Zid at hb hQ
  ·dsimp only at hb hQ
   obtain ⟨a', i, es, kvs, ep, ea, hi, hS, hr, e⟩ := Zi8 R p.1 (λ e => hb (by rw [PM.B, e]))
   cases ea
   rw [PM.H e] at hQ
   have hm : a ∈ φ := Qm hi
   obtain ⟨p1, p2⟩ := p
   obtain ⟨t, rfl⟩ := p2.ints1
   refine call_meetsIn PySem.F.slot_dict_get hS.dictOf.typeIs PySem.F.entry_dict_get (PySem.F.args_dict_get_2 _ _) (meets_dict_get (intKind c.prog c.w) a (intKind_is _ _ k t) (R.notSys hm)) ⟨_, hS.dictOf.mapOf, ?_⟩
   have := hQ ((valueAt kvs k).getD .none) _ φ μ { s with toks := s.toks + 1 } rfl (R.toks _) Ext.refl (by
    cases hg : Zdb es k with
    | none => rw [Zt3 hr hg]; exact .none
    | some y =>
     obtain ⟨w, hw, hv⟩ := Zmz hr hg
     rw [hw]; exact hv)
   exact this
def Zr4 (o : PV) : List PV -> PM PV
 | [] => Zb6 o >>= λ p => pure (.vals p.1)
 | _ => PM.I
def Zms (fo : PM PV) (ga : PM (List PV)) : PM PV := fo >>= λ x => Zb6 x >>= λ _ => ga >>= Zr4 x
theorem Zsl {o : Expr} {apos pos : Pos} {args : List Expr} {fo : PM PV} {ga : PM (List PV)} (hbase : attributeBase o "values" F.env (eval o F.env) = eval o F.env) (hfew : hFew c F pos args) (hline : (apos.endLine == pos.line) = true)
  (h : Zk c F o fo) (hargs : CallArgs c F (starEach args F.env) ga) : Zk c F (.Call (.Attribute o "values" apos) args [] pos) (Zms fo ga) :=
 Zfg hbase hfew hline PySem.F.plainAttrs_dict PySem.F.slot_dict_values PySem.F.type_dict_values h Zm4 hargs λ a x vs ys A φ μ s Q E hA R p hb hQ hE => by
  unfold Zr4 at hb hQ
  cases ys with
  | cons => exact (hb rfl).elim
  | nil =>
   dsimp only at hb hQ
   obtain ⟨a', i, es, kvs, ep, ea, hi, hS, hr, e⟩ := Zi8 R p.1 (λ e => hb (by rw [PM.B, e]))
   cases ea
   rw [PM.H e] at hQ
   have hm : a ∈ φ := Qm hi
   obtain ⟨p1, p2⟩ := p
   cases p2
   refine call_meetsIn PySem.F.slot_dict_values hS.dictOf.typeIs PySem.F.entry_dict_values (PySem.F.args_dict_values_1 _) (meets_dict_values (intKind c.prog c.w) a (R.notSys hm)) ⟨⟨_, hS.dictOf⟩, ?_⟩
   obtain ⟨RB, xB⟩ := R.push { cls := .type "dict_values", data := .fields #[.ref a] } (tk := s.toks)
   exact hQ _ _ _ _ _ rfl RB xB (.vals hi (Qw _ rfl) λ hm => Qe (R.phiLt hm) (Q6 _))
noncomputable def Zl3 (k : Int) : Value -> Bool
 | .int i _ => i == k
 | _ => false
theorem Zqm {φ : List Addr} {h : Heap} {vs : List Value} {xs : List PV} {is : List Int} (hv : VRs φ h vs xs) (e : Zbc xs = some is) (k : Int) (t : Tok) : ∀ y ∈ vs.toArray, EqGives y (.int k t) (Zl3 k y) := λ y hy => by
 obtain ⟨j, hj⟩ := List.getElem?_of_mem (by simpa using hy)
 obtain ⟨t', rfl⟩ := (Zi6 hv e).2 j y hj
 exact EqGives.int _ _ _ _
theorem Zt4 {φ : List Addr} {h : Heap} {vs : List Value} {xs : List PV} {is : List Int} (hv : VRs φ h vs xs) (e : Zbc xs = some is) (k : Int) : vs.map (Zl3 k) = is.map (· == k) := by
 obtain ⟨h1, h2⟩ := Zi6 hv e
 refine ext_getElem (by simp [h1]) λ j a b => ?_
 simp at a b
 obtain ⟨t', e⟩ := h2 j vs[j] (by simp)
 simp only [getElem_map]
 rw [e]
 simp [Zl3, b]
def Zr5 (o : PV) : List PV -> PM PV
 | [y] => Zdn o >>= λ xs => Zqa xs y
 | _ => PM.I
def Zgq (fo : PM PV) (ga : PM (List PV)) : PM PV := fo >>= λ x => Zdn x >>= λ _ => ga >>= Zr5 x
theorem Zf6 {φ : List Addr} {μ : St} {s : Shared} (R : Rep c F φ μ s) {v : Value} {x : PV} (r : VR φ s.heap v x) (h : Zdn x μ ≠ .bad) :
  ∃ a vs n xs, v = .ref a ∧ IsL s.heap a vs.toArray n ∧ VRs φ s.heap vs xs ∧ Zdn x μ = .ok xs μ := by
 unfold Zdn at h ⊢
 cases e : Zaa μ.hp x with
 | none => rw [e] at h; exact (h rfl).elim
 | some xs =>
  obtain ⟨a, vs, n, rfl, h1, h2⟩ := Zn3 R r e
  exact ⟨a, vs, n, xs, rfl, h1, h2, rfl⟩
theorem Zi9 {o : Expr} {apos pos : Pos} {args : List Expr} {fo : PM PV} {ga : PM (List PV)} (hbase : attributeBase o "index" F.env (eval o F.env) = eval o F.env) (hfew : hFew c F pos args) (hline : (apos.endLine == pos.line) = true)
  (h : Zk c F o fo) (hargs : CallArgs c F (starEach args F.env) ga) : Zk c F (.Call (.Attribute o "index" apos) args [] pos) (Zgq fo ga) :=
 Zfg hbase hfew hline PySem.F.plainAttrs_list PySem.F.slot_list_index PySem.F.type_list_index h Zwu hargs λ a x vs ys A φ μ s Q E hA R p hb hQ hE => by
  obtain ⟨y, rfl⟩ := Zrd hb
  unfold Zr5 at hb hQ
  ·dsimp only at hb hQ
   obtain ⟨a', vs', n, xs, ea, hL, hvs, e⟩ := Zf6 R p.1 (λ e => hb (by rw [PM.B, e]))
   cases ea
   rw [PM.H e] at hb hQ
   obtain ⟨p1, p2⟩ := p
   cases p2 with
   | cons q r =>
   cases r
   unfold Zqa at hb hQ
   cases hi : Zbc xs with
   | none => rw [hi] at hb; exact (hb rfl).elim
   | some is =>
   rw [hi] at hb hQ
   induction q using VR.cs with
   | int k t =>
    dsimp only at hb hQ
    cases hj : is.findIdx? (· == k) with
    | none => rw [hj] at hb; exact (hb rfl).elim
    | some j =>
     rw [hj] at hb hQ
     obtain ⟨hln, e2⟩ := Zab hb
     dsimp only at hQ
     rw [e2] at hQ
     have hle := Zco hln
     obtain ⟨q1, q2⟩ := Zi6 hvs hi
     obtain ⟨hjl, hj1, hj2⟩ := List.findIdx?_eq_some_iff_getElem.mp hj
     have hm := Zt4 hvs hi k
     have at_ : ∀ m (h : m < vs'.length), Zl3 k vs'[m] = (is[m]'(Qle h q1) == k) := λ m h => by
      have := congrArg (λ l => l[m]?) hm
      simpa [h, show m < is.length from Qle h q1] using this
     have hvl := hvs.length
     refine call_meets PySem.F.slot_list_index ⟨_, hL, rfl⟩ PySem.F.entry_list_index (PySem.F.args_list_index_2 _ _) (list_index a vs'.toArray n (.int k t) (Zl3 k) (Zqm hvs hi k t) j (by simp; exact Qll hjl (Xb q1)) (by lia) ?_ ?_) ⟨hL, ?_⟩
     ·simp only [List.getElem_toArray]; rw [at_ j (by exact Qll hjl (Xb q1))]; exact hj1
     ·intro m hm' hlt
      simp only [List.getElem_toArray]; rw [at_ m (by simpa using hm')]
      exact Bool.eq_false_iff.mpr (hj2 m hlt)
     ·exact hQ _ _ _ _ { s with toks := s.toks + 1 } rfl (R.toks _) Ext.refl (.int _ _)
   | _ => exact (hb rfl).elim
end

section
variable {c : Cx} {F : Fx}
theorem Zks (mu_ : Bool) {φ φ0 : List Addr} {h₀ : Heap} {μ : St} {s : Shared} (R : Rep c F φ μ s) (x : Ext F.nss F.cls φ0 h₀ φ s.heap) {vs : List Value} {xs : List PV} (p : VRs φ s.heap vs xs) (hb : Zdc mu_ xs μ ≠ .bad) {tk : Nat} {Q : Value -> Shared -> Prop}
  (hQ : ∀ v y φ' μ' s', Zdc mu_ xs μ = .ok y μ' -> Rep c F φ' μ' s' -> Ext F.nss F.cls φ0 h₀ φ' s'.heap -> VR φ' s'.heap v y -> Q v s') :
  Q (.ref s.heap.objs.size) { s with heap := s.heap.push { cls := .type "list", data := .seq vs.toArray }, toks := tk } := by
 unfold Zdc at hb hQ
 obtain ⟨hl, e⟩ := Zab hb
 rw [e] at hb hQ
 cases mu_ with
 | true =>
  obtain ⟨RB, xB⟩ := R.alloc (ob := { cls := .type "list", data := .seq vs.toArray }) (o := .lst xs) (tk := tk) rfl λ hg hi hm => .lst hg (p.mv hm)
  exact hQ _ _ _ _ _ rfl RB (x.trans xB) (.obj (by rw [<- R.len]; simp))
 | false =>
  obtain ⟨RB, xB⟩ := R.push { cls := .type "list", data := .seq vs.toArray } (tk := tk)
  exact hQ _ _ _ _ _ rfl RB (x.trans xB) (.lst (Qw _ rfl) (λ hm => Qe (R.phiLt hm) (Q6 _)) (p.ext R xB))
theorem Zlg {mu_ : Bool} {xs : List PV} {μ : St} (hb : Zdc mu_ xs μ ≠ .bad) : xs.length <= 1000000 := by
 unfold Zdc at hb
 exact Zco (Zab hb).1
def pCat (mu_ : Bool) (x y : PV) : PM PV := Zdn x >>= λ xs => Zdn y >>= λ ys => Zdc mu_ (xs ++ ys)
theorem Zxc (mu_ : Bool) {v w : Value} {x y : PV} : Sim c F (V2 v w x y) (λ φ h a b => VR φ h a b) (binaryOp .Add v w) (pCat mu_ x y) := λ A φ μ s Q E hA R p hb hQ hE => by
 unfold pCat at hb hQ
 obtain ⟨a, vs, n, xs, rfl, hl, hv, e⟩ := Zf6 R p.1 (λ e => hb (by rw [PM.B, e]))
 rw [PM.H e] at hb hQ
 obtain ⟨a', vs', n', ys, rfl, hl', hv', e'⟩ := Zf6 R p.2 (λ e => hb (by rw [PM.B, e]))
 rw [PM.H e'] at hb hQ
 have hle := Zlg hb
 have e1 := hv.length
 have e2 := hv'.length
 rw [Qk] at hle
 refine P.add_list hl hl' ?_ (by simp only [Q4]; exact Qj (by lia) (show 1000000 <= sizeLine by decide))
 have := Zks (vs := vs ++ vs') (tk := s.toks) (Q := Q) mu_ R Ext.refl (hv.append hv') hb λ v y φ' μ' s' e R' x' r => hQ v y φ' μ' s' e R' x' r
 simpa using this
def eCat (mu_ : Bool) (f g : PM PV) : PM PV := f >>= λ x => g >>= λ y => pCat mu_ x y
theorem Zht (mu_ : Bool) {l r : Expr} {pos : Pos} {f g : PM PV} (h : Zk c F l f) (h' : Zk c F r g) : Zk c F (.BinOp l .Add r pos) (eCat mu_ f g) := λ A φ μ s Q E hA R p hb hQ hE => by
 unfold eCat at hb hQ hE
 refine wpAny_BinOp ?_
 refine h.use hA R p hb hE λ a b φ' μ' s' eg R' x r => ?_
 rw [eg] at hb hQ hE
 refine (h'.keep (v := a) (x := b)).use hA R' r hb (λ e y φ' μ' s' he R' x' r => hE e y φ' μ' s' he R' (x.trans x') (r.le x.dom)) λ aC bC φC μ2 sC eg RC xC rC => ?_
 rw [eg] at hb hQ hE
 exact (Zxc mu_).fin hA RC rC rfl (x.trans xC) hb hQ hE
set_option backward.eqns.nonrecursive false
noncomputable def Zd3 {α : Type} : Nat -> List α -> List α
 | 0, _ => []
 | n + 1, xs => Zd3 n xs ++ xs
theorem Zoo {α : Type} {n : Nat} {xs : List α} : Zd3 (n + 1) xs = Zd3 n xs ++ xs := rfl
theorem Zre {φ : List Addr} {h : Heap} {vs : List Value} {xs : List PV} (r : VRs φ h vs xs) : ∀ n, VRs φ h (Zd3 n vs) (Zd3 n xs)
 | 0 => .nil
 | n + 1 => (Zre r n).append r
theorem Zop {α : Type} (xs : List α) : ∀ n, (Zd3 n xs).length = n * xs.length
 | 0 => (Nat.zero_mul _).symm
 | n + 1 => by simp [Zoo, Zop xs n, Nat.succ_mul]
theorem Zoq {α : Type} : ∀ n, Zd3 n ([] : List α) = []
 | 0 => rfl
 | n + 1 => by simp [Zoo, Zoq n]
theorem Zt5 {α : Type} (vs : List α) : ∀ n (acc : Array α), List.foldl (λ x1 x2 => x1 ++ x2) acc (List.replicate n vs.toArray) = acc ++ (Zd3 n vs).toArray := by
 have comm : ∀ n, Zd3 n vs ++ vs = vs ++ Zd3 n vs := λ n => by
  induction n with
  | zero => exact append_nil vs |>.symm
  | succ n ih => simp only [Zoo]; rw [ih, append_assoc, ih]
 intro n
 induction n with
 | zero => intro acc; simp [show Zd3 0 vs = [] from rfl]
 | succ n ih =>
  intro acc
  rw [List.replicate_succ, foldl_cons, ih]
  show _ = acc ++ (Zd3 n vs ++ vs).toArray
  rw [comm]
  simp
def pRep (mu_ : Bool) (x y : PV) : PM PV := Zdn x >>= λ xs => match y with
 | .int k => chk (decide (0 <= k) && decide (k <= 1000000)) >>= λ _ => Zdc mu_ (Zd3 k.toNat xs)
 | _ => PM.I
theorem Zxd (mu_ : Bool) {v w : Value} {x y : PV} : Sim c F (V2 v w x y) (λ φ h a b => VR φ h a b) (binaryOp .Mult v w) (pRep mu_ x y) := λ A φ μ s Q E hA R p hb hQ hE => by
 unfold pRep at hb hQ
 obtain ⟨a, vs, n, xs, rfl, hl, hv, e⟩ := Zf6 R p.1 (λ e => hb (by rw [PM.B, e]))
 rw [PM.H e] at hb hQ
 obtain ⟨p1, p2⟩ := p
 induction p2 using VR.cs with
 | int k t =>
  dsimp only at hb hQ
  obtain ⟨h1, h2⟩ := Zab hb
  rw [h2] at hb hQ
  rw [Q7] at h1
  have k0 := Qh h1.1
  have k1 := Qh h1.2
  have hle := Zlg hb
  rw [Zop] at hle
  have e1 := hv.length
  have hm : vs.toArray.size * k.toNat <= 1000000 := by rw [Q4, e1, Nat.mul_comm]; exact hle
  refine wpAny_binaryOp_repeat_ref (T := "list") (U := "int") (by decide) ⟨_, hl, rfl⟩ (λ s' => typeIs_int s' k t) noFill_list_mul PySem.F.fills_int_mul PySem.F.slot_int_rmul repeat_list PySem.F.slot_int_index.lookup ?_
  refine call_meets PySem.F.slot_int_rmul (typeIs_int _ k t) PySem.F.entry_int_rmul (PySem.F.args_int_rmul_2 _ _) (int___rmul___int_list k t a vs.toArray n) ⟨hl, rfl, ⟨_, hl, rfl⟩, ?_⟩
  refine call_meets PySem.F.slot_list_mul ⟨_, hl, rfl⟩ PySem.F.entry_list_mul (PySem.F.args_list_mul_2 _ _)
    (AutoListH.list___mul___list_int_3 a vs.toArray n k t (by simp [Builtin.List.listFitsIndex]; lia) (by lia) (by simp [Builtin.List.listTooLong, sizeLine] at hm ⊢; exact Qkb hm rfl)) ⟨hl, ?_⟩
  have := Zks (vs := Zd3 k.toNat vs) (tk := s.toks) (Q := Q) mu_ R Ext.refl (Zre hv _) hb λ v y φ' μ' s' e R' x' r => hQ v y φ' μ' s' e R' x' r
  have e2 : List.foldl (λ x1 x2 => x1 ++ x2) #[] (List.replicate (if vs.toArray.isEmpty = true then 0 else k.toNat) vs.toArray) = (Zd3 k.toNat vs).toArray := by
   by_cases hv0 : vs = []
   ·subst hv0; simp [Zoq]
   ·have hv1 : vs.toArray.isEmpty = false := by cases vs with
     | nil => exact Qe rfl hv0
     | cons => rfl
    rw [hv1]
    simp only [Bool.false_eq_true, if_false]
    rw [Zt5]; simp
  rw [e2]
  exact this
 | _ => exact (hb rfl).elim
def eRep (mu_ : Bool) (f g : PM PV) : PM PV := f >>= λ x => g >>= λ y => pRep mu_ x y
theorem Zvb (mu_ : Bool) {l r : Expr} {pos : Pos} {f g : PM PV} (h : Zk c F l f) (h' : Zk c F r g) : Zk c F (.BinOp l .Mult r pos) (eRep mu_ f g) := λ A φ μ s Q E hA R p hb hQ hE => by
 unfold eRep at hb hQ hE
 refine wpAny_BinOp ?_
 refine h.use hA R p hb hE λ a b φ' μ' s' eg R' x r => ?_
 rw [eg] at hb hQ hE
 refine (h'.keep (v := a) (x := b)).use hA R' r hb (λ e y φ' μ' s' he R' x' r => hE e y φ' μ' s' he R' (x.trans x') (r.le x.dom)) λ aC bC φC μ2 sC eg RC xC rC => ?_
 rw [eg] at hb hQ hE
 exact (Zxd mu_).fin hA RC rC rfl (x.trans xC) hb hQ hE
def pSlice (mu_ : Bool) (o i : PV) : PM PV := Zdn o >>= λ xs => match i with
 | .int k => chk (decide (0 <= k) && decide (k <= xs.length) && Z3 xs) >>= λ _ => Zdc mu_ (xs.drop k.toNat)
 | _ => PM.I
def Zhj (mu_ : Bool) (f g : PM PV) : PM PV := f >>= λ x => g >>= λ y => pSlice mu_ x y
theorem Zlh (mu_ : Bool) {value lo : Expr} {p pos : Pos} {f g : PM PV} (h : Zk c F value f) (h' : Zk c F lo g) (ht : ∀ o r, letTemporaryGo value o r = pure ()) : Zk c F (.Subscript value (.Slice (some lo) none none p) pos) (Zhj mu_ f g) := λ A φ μ s Q E hA R p hb hQ hE => by
 unfold Zhj at hb hQ hE
 refine wpAny_Subscript_list_slice ?_ ht
 refine h.use hA R p hb hE λ a b φ' μ' s' eg R' x r => ?_
 rw [eg] at hb hQ hE
 show wpAny _ _ (eval lo F.env) _ _ _
 refine (h'.keep (v := a) (x := b)).use hA R' r hb (λ e y φ' μ' s' he R' x' r => hE e y φ' μ' s' he R' (x.trans x') (r.le x.dom)) λ aC bC φC μ2 sC eg RC xC rC => ?_
 rw [eg] at hb hQ hE
 rw [evalPart_none]
 refine Qp ?_
 unfold pSlice at hb hQ
 obtain ⟨l, vs, n, xs, rfl, hl, hv, e⟩ := Zf6 RC rC.1 (λ e => hb (by rw [PM.B, e]))
 rw [PM.H e] at hb hQ
 obtain ⟨p1, p2⟩ := rC
 induction p2 using VR.cs with
 | int k t =>
  dsimp only at hb hQ
  obtain ⟨h1, h2⟩ := Zab hb
  rw [h2] at hb hQ
  simp only [Q7] at h1
  have k0 := Qh h1.1.1
  have k1 := Qh h1.1.2
  have e1 := hv.length
  refine ⟨l, vs.toArray, some k, none, rfl, hl.isList, by rw [Q4, e1]; exact Zba h1.2, .int _ _, .none, ?_⟩
  obtain ⟨RD, xD⟩ := RC.push { cls := .type "slice", data := .fields #[.int k t, .none, .none] } (tk := sC.toks)
  have := Zks (vs := vs.drop k.toNat) (tk := sC.toks) (Q := Q) mu_ RD ((x.trans xC).trans xD) ((hv.ext RC xD).drop k.toNat) hb λ v y φ' μ' s' e R' x' r => hQ v y φ' μ' s' e R' x' r
  have hk : slicePick vs.toArray (some k) none none = (vs.drop k.toNat).toArray := by
   have := slicePick_from vs.toArray k.toNat (by simp; omega)
   rw [show ((k.toNat : Nat) : Int) = k by omega] at this
   simpa using this
  rw [hk]
  rw [Xg] at this
  exact this
 | _ => exact (hb rfl).elim
end

theorem Zli (l : Addr) (vs : List Value) (n : Nat) (hn : vs.length <= 1000000) :
  Meets (Builtin.«bool.__new__» ⟨[.type "bool", .ref l], []⟩) (λ _ R s => IsL s.heap l vs.toArray n ∧ R (.ok (.ret (.bool (!vs.toArray.isEmpty)))) { s with toks := s.toks + 1 + 1 }) :=
 Meets.of_wp λ prog w A R s hs => by
  obtain ⟨hp, g, d, tk, os⟩ := s
  obtain ⟨hl, hs⟩ := hs
  have f1 := F.conv_sub_bool
  repeat (any_goals (first | assumption | (with_reducible refine wpAny_truthy_list (items := vs.toArray) (IsL.isList hl) (by simp; lia) ?_) | wp_step))
  all_goals first | exact ⟨_, rfl, hs⟩ | exact hs | skip
section
variable {c : Cx} {F : Fx}def pBool : List PV -> PM PV := Zdo λ x => Zdn x >>= λ xs => chk (Z3 xs) >>= λ _ => pure (.bool (!xs.isEmpty))
theorem Zsm : Zay c F (.type "bool") pBool := Zcv λ v x A φ μ s Q E hA R p hb hQ hE => by
 obtain ⟨a, vs, n, xs, rfl, hl, hv, e⟩ := Zf6 R p (λ e => hb (by rw [PM.B, e]))
 rw [PM.H e] at hb hQ
 obtain ⟨h1, h2⟩ := Zab hb
 rw [h2] at hQ
 have hle := Zco h1
 have e1 := hv.length
 refine call_bool_1 (Zli a vs n (Qek e1 hle)) ⟨hl, rfl, ?_⟩
 exact hQ _ _ _ _ { s with toks := s.toks + 1 + 1 } rfl (R.toks _) Ext.refl (by cases hv <;> exact .bool _)
set_option backward.eqns.nonrecursive false
def eNeg (f : PM PV) : PM PV := f >>= λ x => match x with
 | .int i => pure (.int (-i))
 | _ => PM.I
theorem Zhu {e : Expr} {pos : Pos} {f : PM PV} (h : Zk c F e f) : Zk c F (.UnaryOp .USub e pos) (eNeg f) := λ A φ μ s Q E hA R p hb hQ hE => by
 rw [arm_eval_UnaryOp]
 unfold eNeg at hb hQ hE
 refine Qb (h.use hA R p hb hE λ v y φ' μ' s' eg R' x r => ?_)
 rw [eg] at hb hQ hE
 induction r using VR.cs with
 | int i t => exact Qb (wpAny_standAt (Qu (neg_int (hQ _ _ _ _ _ rfl (R'.toks _) x (.int _ _)))))
 | _ => exact (hb rfl).elim
def orM (v : PV) (g : PM PV) : Bool -> PM PV
 | true => pure v
 | false => g
def eOr (f g : PM PV) : PM PV := f >>= λ v => Zcs v >>= λ b => orM v g b
theorem Zor {pos : Pos} {e e' : Expr} {es : List Expr} {f g : PM PV} (h : Zk c F e f) (h' : Zj1 c F pos .Or (evalEach (e' :: es) F.env) g) : Zj1 c F pos .Or (evalEach (e :: e' :: es) F.env) (eOr f g) := λ A φ μ s Q E hA R p hb hQ hE => by
 show wpAny _ _ (eval e F.env >>= λ v => standAt pos >>= λ _ => holding [v] (truthy v) >>= λ t => match BoolOp.Or, t with
  | .And, false | .Or, true => pure v
  | _, _ => boolOp pos .Or (evalEach (e' :: es) F.env)) _ _ _
 unfold eOr at hb hQ hE
 refine Qb (h.use hA R trivial hb hE λ v y φ' μ' s' eg R' x r => ?_)
 rw [eg] at hb hQ hE
 refine Qb (wpAny_standAt (Qb (Qu (Zir.use hA R' r hb (λ e z φ'' μ'' s'' he R'' x'' r'' => hE e z φ'' μ'' s'' he R'' (x.trans x'') (r''.le x.dom)) (λ a b φ'' μ'' s'' eg R'' x'' r'' => ?_)))))
 rw [eg] at hb hQ hE
 obtain rfl := r''
 cases a with
 | true => exact Qp (hQ _ _ _ _ _ rfl R'' (x.trans x'') (r.ext R' x''))
 | false => exact h'.fin hA R'' trivial rfl (x.trans x'') hb hQ hE
def Zr6 (o : PV) : List PV -> PM PV
 | [y] => Zag o >>= λ p => Zbq y >>= λ zs => chk (Z3 (p.2 ++ zs)) >>= λ _ => putM p.1 (.lst (p.2 ++ zs)) >>= λ _ => pure .none
 | _ => PM.I
def Zhk (fo : PM PV) (ga : PM (List PV)) : PM PV := fo >>= λ x => Zag x >>= λ _ => ga >>= Zr6 x
theorem Zhv {o : Expr} {apos pos : Pos} {args : List Expr} {fo : PM PV} {ga : PM (List PV)} (hbase : attributeBase o "extend" F.env (eval o F.env) = eval o F.env) (hfew : hFew c F pos args) (hline : (apos.endLine == pos.line) = true)
  (h : Zk c F o fo) (hargs : CallArgs c F (starEach args F.env) ga) : Zk c F (.Call (.Attribute o "extend" apos) args [] pos) (Zhk fo ga) :=
 Zfg hbase hfew hline PySem.F.plainAttrs_list PySem.F.slot_list_extend PySem.F.type_list_extend h Zgv hargs λ a x vs ys A φ μ s Q E hA R p hb hQ hE => by
  obtain ⟨y, rfl⟩ := Zrd hb
  unfold Zr6 at hb hQ
  ·dsimp only at hb hQ
   obtain ⟨i, xs, et⟩ := Zd8 (λ e => hb (by rw [PM.B, e]))
   obtain ⟨a', vs', n, ea, hi, hl, hvs, rfl⟩ := Zha R p.1 et
   cases ea
   rw [PM.H et] at hb hQ
   obtain ⟨p1, p2⟩ := p
   cases p2 with
   | cons q r =>
   cases r
   obtain ⟨b, T, ws, m, zs, rfl, hT, ho, hws, _, e⟩ := Zi5 R q (λ e => hb (by rw [PM.B, e]))
   rw [PM.H e] at hb hQ
   obtain ⟨h1, h2⟩ := Zab hb
   rw [h2] at hQ
   have hle := Zco h1
   have e1 := hvs.length
   have e2 := hws.length
   rw [Qk] at hle; dsimp only at hle
   obtain ⟨RD, xD⟩ := R.relist (tk := s.toks) hi hl (g := λ xs => xs ++ ws.toArray) (ws := vs' ++ ws) (by simp) (hvs.append hws)
   have door : ¬(!vs'.toArray.isEmpty && Builtin.List.listTooLong (vs'.toArray.size + ws.toArray.size)) = true := by
    simp only [Builtin.List.listTooLong, Q4, e1, e2, sizeLine, Q7, decide_eq_true_eq, not_and]
    intro _; lia
   have hs1 : vs'.toArray.size <= sizeLine := by rw [Q4, e1]; exact Qj (by lia) (show 1000000 <= sizeLine by decide)
   have hs2 : vs'.toArray.size + ws.toArray.size <= sizeLine + 1 := by simp only [Q4, e1, e2]; exact Qj hle (show 1000000 <= sizeLine + 1 by decide)
   rcases hT with rfl | rfl
   ·exact call_meets PySem.F.slot_list_extend ⟨_, hl, rfl⟩ PySem.F.entry_list_extend (PySem.F.args_list_extend_2 _ _) (AutoSeq1.list_extend_list_list_0 a vs'.toArray n b ws.toArray m door hs1 hs2) ⟨hl, ho, hQ _ _ _ _ _ rfl RD xD .none⟩
   ·exact call_meets PySem.F.slot_list_extend ⟨_, hl, rfl⟩ PySem.F.entry_list_extend (PySem.F.args_list_extend_2 _ _) (AutoSeq1.list_extend_list_tuple_0 a vs'.toArray n b ws.toArray m door hs1 hs2) ⟨hl, ho, hQ _ _ _ _ _ rfl RD xD .none⟩
end

namespace FI
theorem slot_li_ga : Slot "list_iterator" "__getattribute__" "object.__getattribute__" :=
 .of (owner := "object") (n := "__getattribute__") (by rw [typeLookup_type, builtinLookup_eq_fast]; kernel_rfl) (by decide +kernel) (by decide +kernel) (by decide +kernel)
  (by first | exact .inl (by decide +kernel) | exact .inr (by decide +kernel)) (by rw [isSubtype_type]; kernel_rfl)theorem lk_li_next : typeLookup (.type "list_iterator") "__next__" = pure (some (.builtin "list_iterator.__next__")) := by rw [typeLookup_type, builtinLookup_eq_fast]; kernel_rfl
theorem ty_li_next : typeOf (.builtin "list_iterator.__next__") = pure (.type "wrapper_descriptor") := by show builtinType _ = _; rw [builtinType_eq_fast]; kernel_rfl
theorem slot_wd_get : Slot "wrapper_descriptor" "__get__" "wrapper_descriptor.__get__" :=
 .of (owner := "wrapper_descriptor") (n := "__get__") (by rw [typeLookup_type, builtinLookup_eq_fast]; kernel_rfl) (by decide +kernel) (by decide +kernel) (by decide +kernel)
  (by first | exact .inl (by decide +kernel) | exact .inr (by decide +kernel)) (by rw [isSubtype_type]; kernel_rfl)theorem lk_wd_set : typeLookup (.type "wrapper_descriptor") "__set__" = pure none := by rw [typeLookup_type, builtinLookup_eq_fast]; kernel_rfl
theorem lk_wd_del : typeLookup (.type "wrapper_descriptor") "__delete__" = pure none := by rw [typeLookup_type, builtinLookup_eq_fast]; kernel_rfl
theorem entry_wd_get : entryFor table "wrapper_descriptor.__get__" = some Builtin.«wrapper_descriptor.__get__» := entryFor_of_tree (by kernel_rfl)theorem entry_obj_ga : entryFor table "object.__getattribute__" = some Builtin.«object.__getattribute__» := entryFor_of_tree (by kernel_rfl)theorem Znh : ".".intercalate ("list_iterator.__next__".cutAt '.').dropLast = "list_iterator" := by decide +kernel
theorem sub_li_next : isSubtype (.type "list_iterator") (.type (".".intercalate ("list_iterator.__next__".cutAt '.').dropLast)) = pure true := by
 rw [Znh, isSubtype_type]; kernel_rfl
end FI
section
variable {prog : Program} {w : World} {A : Around} {E : Value -> Shared -> Prop} {h : Heap} {g : Array GenState} {d : Drawn} {t : Nat} {os : OsState} {a : Addr} {o : Obj}
theorem Zvc {R : Result -> Shared -> Prop} (hx : h.get? a = some o) (hc : o.cls = .type "list_iterator") (hq : R (.ok (.ret (.ref h.objs.size))) ⟨h.push { cls := .type "method-wrapper", data := .fields #[.builtin "list_iterator.__next__", .ref a] }, g, d, t, os⟩) :
  codeAny (model prog w) A (.call (.builtin "wrapper_descriptor.__get__") ⟨[.builtin "list_iterator.__next__", .ref a, .type "list_iterator"], []⟩) R ⟨h, g, d, t, os⟩ := by
 have hT : (⟨h, g, d, t, os⟩ : Shared).TypeIs (.ref a) "list_iterator" := ⟨_, hx, hc⟩
 have hT5 : (⟨h, g, d, t, os⟩ : Shared).TypeIs (.builtin "list_iterator.__next__") "wrapper_descriptor" := FI.ty_li_next
 have f8 := FI.sub_li_next
 refine codeAny_call_builtin FI.slot_wd_get.plain FI.entry_wd_get (FI.slot_wd_get.check _ _ _ _ _ _ _ _ hT5 (by unfold argsOk; kernel_rfl) ?_)
 repeat (any_goals (first | assumption | wp_step))
theorem Zsn {vs : Array Value} {tk : Tok} {Q : Fin -> Shared -> Prop} (hx : h.get? a = some { cls := .type "list_iterator", data := .fields vs }) (hq : Q (.done (.ret (.ref h.objs.size))) ⟨h.push { cls := .type "method-wrapper", data := .fields #[.builtin "list_iterator.__next__", .ref a] }, g, d, t, os⟩) :
  wpAny (model prog w) A (Builtin.«object.__getattribute__» ⟨[.ref a, .str "__next__" tk], []⟩) Q E ⟨h, g, d, t, os⟩ := by
 have hT : (⟨h, g, d, t, os⟩ : Shared).TypeIs (.ref a) "list_iterator" := ⟨_, hx, rfl⟩
 have hT5 : (⟨h, g, d, t, os⟩ : Shared).TypeIs (.builtin "list_iterator.__next__") "wrapper_descriptor" := FI.ty_li_next
 have f4 := FI.lk_li_next
 have f5 := FI.ty_li_next
 have f6 := FI.slot_wd_get.lookup
 have f7 := FI.lk_wd_set
 have f9 := FI.lk_wd_del
 repeat (any_goals (first | assumption | wp_step))
 refine Zvc hx rfl ?_
 repeat (any_goals (first | assumption | wp_step))
theorem Zt6 {vs : Array Value} {Q : Value -> Shared -> Prop} (hx : h.get? a = some { cls := .type "list_iterator", data := .fields vs }) (hq : Q (.ref h.objs.size) ⟨h.push { cls := .type "method-wrapper", data := .fields #[.builtin "list_iterator.__next__", .ref a] }, g, d, t + 1, os⟩) :
  wpAny (model prog w) A (getAttr (.ref a) "__next__" true) Q E ⟨h, g, d, t, os⟩ := by
 have hT : ∀ t, (⟨h, g, d, t, os⟩ : Shared).TypeIs (.ref a) "list_iterator" := λ t => ⟨_, hx, rfl⟩
 have f2 := FI.slot_li_ga.lookup
 have f3 := FI.slot_li_ga.bind (.ref a)
 unfold getAttr getAttrBy
 repeat (any_goals (first | assumption | exact hT _ | wp_step))
 refine codeAny_call_builtin FI.slot_li_ga.plain FI.entry_obj_ga (FI.slot_li_ga.check _ _ _ _ _ _ _ _ (hT _) (by unfold argsOk; kernel_rfl) ?_)
 refine Zsn hx ?_
 repeat (any_goals (first | assumption | wp_step))
end
namespace FI
theorem kind_iter : builtinKind "iter" = none := by decide +kernel
theorem plain_iter : plainId "iter" = true := by decide +kernel
theorem entry_iter : entryFor table "iter" = some Builtin.«iter» := entryFor_of_fast (by kernel_rfl)theorem args_iter1 (a : Value) : argsOk "iter" ⟨[a], []⟩ := by unfold argsOk; kernel_rfl
theorem check_li_next (a : Value) : checkBoundCall "list_iterator.__next__" ⟨[a], []⟩ = pure () := by first | kernel_rfl | rfl
end FI
section
variable {c : Cx} {F : Fx}def pIter : List PV -> PM PV := Zdo λ x => Zag x >>= λ p => Zdv (.itr p.1 0) >>= λ i => pure (.obj i)
theorem Zvd : Zay c F (.builtin "iter") pIter := Zcv λ v x A φ μ s Q E hA R p hb hQ hE => by
 obtain ⟨i, xs, et⟩ := Zd8 (λ e => hb (by rw [PM.B, e]))
 obtain ⟨a, vs', n, rfl, hi, hl, hvs, rfl⟩ := Zha R p et
 rw [PM.H et] at hQ
 refine Calls.call_function_entry FI.kind_iter FI.plain_iter FI.entry_iter (FI.args_iter1 _) ?_
 unfold Builtin.«iter»
 refine Qb (m := someArgs "iter" 1 2 _) (Qp ?_)
 refine Qb (wpAny_pyIter_list hl.isList ?_)
 refine Qp ?_
 obtain ⟨RB, xB⟩ := R.alloc (ob := { cls := .type "list_iterator", data := .fields #[.ref a, .int 0 0] }) (o := .itr i 0) (tk := s.toks) rfl λ hg _ _ => .itr (getElem?_app hi) hg
 exact ⟨_, rfl, hQ _ _ _ _ _ rfl RB xB (.obj (by rw [<- R.len]; simp))⟩
set_option backward.eqns.nonrecursive false
def eNxt (f : PM PV) : PM PV := f >>= λ x => match x with
 | .obj i => λ μ => match μ.hp[i]? with
  | some (.itr _ _) => .ok (.nxt i) μ
  | _ => .bad
 | _ => PM.I
theorem Zve {value : Expr} {pos : Pos} {f : PM PV} (h : Zk c F value f) (hbase : attributeBase value "__next__" F.env (eval value F.env) = eval value F.env) : Zk c F (.Attribute value "__next__" pos) (eNxt f) := λ A φ μ s Q E hA R p hb hQ hE => by
 rw [arm_eval_Attribute, hbase]
 unfold eNxt at hb hQ hE
 refine Qb (h.use hA R p hb hE λ v y φ' μ' s' eg R' x r => ?_)
 rw [eg] at hb hQ hE
 induction r using VR.cs with
 | @obj i a h1 =>
  dsimp only at hb hQ
  cases hi : μ'.hp[i]? with
  | none => rw [hi] at hb; exact (hb rfl).elim
  | some ob =>
   have q := R'.objs i a ob h1 hi
   induction q using OR.cs with
   | itr k1 k2 =>
    rw [hi] at hQ
    refine Qb (wpAny_standAt (Qb (Qu (Zt6 k2 ?_))))
    obtain ⟨RB, xB⟩ := R'.push { cls := .type "method-wrapper", data := .fields #[.builtin "list_iterator.__next__", .ref a] } (tk := s'.toks + 1)
    exact Qb (wpAny_letTemporaryGo (Qp (hQ _ _ _ _ _ rfl RB (x.trans xB) (.nxt h1 (Qw _ rfl) λ hm => Qe (R'.phiLt hm) (Q6 _)))))
   | _ => rw [hi] at hb; exact (hb rfl).elim
 | _ => exact (hb rfl).elim
noncomputable def Zf3 (x : PV) : List PV -> PM PV
 | [] => (match x with
  | .nxt i => λ μ => match μ.hp[i]? with
   | some (.itr l k) => (match μ.hp[l]? with
    | some (.lst xs) => (match xs[k]? with
     | some y => .ok y ⟨μ.fr, μ.hp.set i (.itr l (k + 1))⟩
     | none => .exc (.type "StopIteration") ⟨μ.fr, μ.hp.set i .dead⟩)
    | _ => .bad)
   | _ => .bad
  | _ => PM.I)
 | _ => PM.I
theorem Zvf (hh : F.hd = true) (f : Value) (x : PV) (vs : List Value) (ys : List PV) : Sim c F (λ φ h => VR φ h f x ∧ VRs φ h vs ys) (λ φ h v x => VR φ h v x) (call f vs) (Zf3 x ys) := λ A φ μ s Q E hA R p hb hQ hE => by
 unfold Zf3 at hb hQ hE
 obtain ⟨p1, p2⟩ := p
 induction p2 using VRs.cs with
 | cons => exact (hb rfl).elim
 | nil =>
 induction p1 using VR.cs with
 | @nxt i a m h1 h2 h3 =>
  dsimp only at hb hQ hE
  cases hi : μ.hp[i]? with
  | none => rw [hi] at hb; exact (hb rfl).elim
  | some ob =>
   have q := R.objs i a ob h1 hi
   induction q using OR.cs with
   | @itr l k la k1 k2 =>
    rw [hi] at hb hQ hE
    dsimp only at hb hQ hE
    cases hl : μ.hp[l]? with
    | none => rw [hl] at hb; exact (hb rfl).elim
    | some ol =>
     have q := R.objs l la ol k1 hl
     cases q with
     | @lst vs n xs l1 l2 =>
      rw [hl] at hb hQ hE
      dsimp only at hb hQ hE
      refine wpAny_call (codeAny_of_tree ?_)
      show wpAny _ A.in1 (callAny (.ref m) ⟨[], []⟩) _ _ s
      unfold callAny
      dsimp only
      refine Qb (wpAny_load h2 ?_)
      dsimp only
      rw [Qo (by decide)]
      refine wpAny_ite ?_
      rw [Qo (by decide)]
      refine Qb (wpAny_of_eq (a := ()) (FI.check_li_next _) ?_)
      refine Qb (Qp (Qp ⟨Code.quiet_builtin _ (by decide +kernel), codeAny_builtin entry_listiter_next ?_⟩))
      show wpAny _ _ (field (.ref a) 0 >>= _) _ _ s
      refine Qb (wpAny_field k2 rfl (x := .ref la) rfl ?_)
      show wpAny _ _ (if (Value.ref la == Value.none) = true then _ else _) _ _ s
      rw [Qq (show ¬ ((Value.ref la == Value.none) = true) from Qt)]
      show wpAny _ _ (field (.ref a) 1 >>= _) _ _ s
      refine Qb (wpAny_field k2 rfl (x := .int k 0) rfl ?_)
      show wpAny _ _ (seqItems? (.ref la) >>= _) _ _ s
      refine Qb (wpAny_seqItems l1 rfl ?_)
      cases hx : xs[k]? with
      | some y =>
       rw [hx] at hQ
       obtain ⟨w, hw, hr⟩ := l2.get hx
       rw [Int.toNat_natCast]
       dsimp only
       rw [show vs.toArray[k]? = some w by simpa using hw]
       dsimp only
       refine Qb (wpAny_setField k2 rfl (by simp) (Qp ?_))
       obtain ⟨RB, xB⟩ := R.upd (tk := s.toks) (o := .itr l (k + 1)) h1 (Heap.SameBut.update s.heap a (Obj.mapFields (·.set! 1 (rawInt ((k : Int) + 1))))) λ hm => .itr k1 (Q1 _ k2 rfl)
       exact hQ _ _ _ _ _ rfl RB xB (hr.ext R xB)
      | none =>
       rw [hx] at hE
       have hn : vs.toArray[k]? = none := by
        have := l2.length
        rw [List.getElem?_eq_none_iff] at hx
        simp; exact Qek this hx
       rw [Int.toNat_natCast]
       dsimp only
       rw [hn]
       dsimp only
       refine Qb (wpAny_rule (Qb (wpAny_setField k2 rfl (by simp) ?_)))
       obtain ⟨RB, xB⟩ := R.upd (tk := s.toks) (o := .dead) h1 (Heap.SameBut.update s.heap a (Obj.mapFields (·.set! 0 .none))) λ hm => .dead (Q1 _ k2 rfl)
       obtain ⟨RC, xC⟩ := RB.push { cls := .type "tuple", data := .seq #[] } (tk := s.toks)
       show wpAny _ _ (newExc (.type "StopIteration") [] >>= _) _ _ _
       refine Qb ?_
       unfold newExc newTuple
       refine Qb (wpAny_newObj_type ?_ (by size_fits))
       refine Qb (m := firstArgMember _ _) (wpAny_of_eq (a := Value.none) (by first | rfl | (simp only [firstArgMember]; rfl)) ?_)
       refine wpAny_newObj_type ?_ (by size_fits)
       unfold raiseNew
       refine Qb (wpAny_handled ?_)
       rw [show (A.under (Code.builtin "list_iterator.__next__" { pos := [#[Value.builtin "list_iterator.__next__", Value.ref a][1]] })).handled = none from hA.handled hh]
       refine wpAny_throw ?_
       have e1 : (λ x : Array Value => x.setIfInBounds 0 Value.none) = (λ x : Array Value => x.set! 0 Value.none) := rfl
       rw [e1]
       refine hE _ _ φ _ _ rfl (RC.push _ (tk := s.toks)).1 (xB.trans (xC.trans (RC.push _ (tk := s.toks)).2)) ?_
       refine Zkr RC (xB.trans xC) (Heap.StaysIn.fresh (λ _ _ e => e)) (λ a o e => Qy _ e) (Qw _ rfl) rfl rfl (by simp; exact Qkb Qr rfl) rfl (by intro n hn; simp at hn; rcases hn with rfl | rfl | rfl | rfl | rfl <;> decide)
     | _ => rw [hl] at hb; exact (hb rfl).elim
   | _ => rw [hi] at hb; exact (hb rfl).elim
 | _ => exact (hb rfl).elim
end

section
variable {c : Cx} {F : Fx}def Zg3 (f : PM PV) : PM PV := f >>= λ x => Zf3 x []
theorem Zni {func : Expr} {pos : Pos} {f : PM PV} (hh : F.hd = true) (h : Zk c F func f) (he : eval (.Call func [] [] pos) F.env = (eval func F.env >>= λ g => callWith pos g [] [] [])) : Zk c F (.Call func [] [] pos) (Zg3 f) := λ A φ μ s Q E hA R p hb hQ hE => by
 rw [he]
 unfold Zg3 at hb hQ hE
 refine Qb (h.use hA R p hb hE λ v y φ' μ' s' eg R' x r => ?_)
 rw [eg] at hb hQ hE
 cases y with
 | nxt i =>
  have := Zc5 (c := c) (F := F) (pos := pos) (f := v) (first := []) (ts := []) (g := pure []) (k := Zf3 (.nxt i)) (P := λ φ h => VR φ h v (.nxt i)) .nil (λ _ _ _ _ _ R e r => r.ext R e) (λ φ h X r => by
    cases r with
    | nxt h1 h2 h3 => exact ⟨.machine, .inr (.inl rfl), (Looks.ld (part := none) h2).andThen .now⟩) (λ vs ys => Zvf hh v (.nxt i) vs ys)
  exact this.fin hA R' r rfl x hb hQ hE
 | _ => exact (hb rfl).elim
end

structure FxG (F : Fx) (names : List (Str × NameKind)) (vs : List (Str × Nat)) (n lv : Nat) : Prop where
 kind : F.env.scope.kind = .function
 glob : F.env.globals = mainGlobals
 bui : F.env.builtins = builtinsNs
 lv : F.lv = lv
 names : F.env.scope.names = names
 flen : F.locs.length = n
 loc : F.env.locals ∈ F.nss
 var : ∀ x k, vs.lookup x = some k -> VarAt F x k
set_option backward.eqns.nonrecursive false
noncomputable def Zd4 {α : Type} (n : Nat) : List (Str × α) -> List (Str × Nat)
 | [] => []
 | (x, _) :: r => (x, n) :: Zd4 (n + 1) r
set_option backward.eqns.nonrecursive true
theorem Zso {α : Type} {n : Nat} {e : Str × α} {r : List (Str × α)} : Zd4 n (e :: r) = (e.1, n) :: Zd4 (n + 1) r := rfl
theorem Zja {α : Type} {x : Str} {k : Nat} : ∀ {l : List (Str × α)} {n : Nat}, (Zd4 n l).lookup x = some k -> ∃ a, l[k - n]? = some (x, a) ∧ n <= k
 | [] => λ h => by cases h
 | (y, a) :: r => λ h => by
  rename_i n
  rw [Zso, lookup_cons] at h
  cases q : x == y with
  | true =>
   rw [q] at h
   cases h
   rw [eq_of_beq q]
   exact ⟨a, by simp, Qr⟩
  | false =>
   rw [q] at h
   obtain ⟨b, h1, h2⟩ := Zja h
   refine ⟨b, ?_, Nat.le_of_succ_le h2⟩
   rw [show k - n = (k - (n + 1)) + 1 from (Nat.succ_pred_eq_of_pos (Nat.sub_pos_of_lt h2)).symm]
   exact h1
theorem Zc6 {α : Type} {x : Str} {a : α} : ∀ {l : List (Str × α)}, (l.map (·.1)).Nodup -> (x, a) ∈ l -> l.lookup x = some a
 | [] => λ _ h => nomatch h
 | (y, b) :: r => λ hn h => by
  rw [Xa, nodup_cons] at hn
  rw [lookup_cons]
  rcases Qmc h with e | h'
  ·cases e; simp
  ·have : (x == y) = false := by
    rw [beq_eq_false_iff_ne]
    intro e
    subst e
    exact hn.1 (mem_map_of_mem (f := (·.1)) h')
   rw [this]
   exact Zc6 hn.2 h'
def fnVs (names : List (Str × NameKind)) : List (Str × Nat) := Zd4 0 (Z0 names)
theorem Zos {names : List (Str × NameKind)} (hn : (names.map (·.1)).Nodup) {x : Str} {k n L c₀ : Nat} {acc : List (Str × Addr)} (h : (Zd4 n (Z0 names)).lookup x = some k) :
  n <= k ∧ ((names.lookup x = some .local ∧ (Zal L (cellsFrom c₀ names acc) names)[k - n]? = some (.loc L x)) ∨
   (names.lookup x = some .cell ∧ ∃ a, (cellsFrom c₀ names acc).lookup x = some a ∧ (Zal L (cellsFrom c₀ names acc) names)[k - n]? = some (.cell a))) := by
 obtain ⟨kd, h1, h2⟩ := Zja h
 refine ⟨h2, ?_⟩
 obtain ⟨hm, hk⟩ := Zce (Qm h1)
 have hl := Zc6 hn hm
 have e : (Zal L (cellsFrom c₀ names acc) names)[k - n]? = some (if kd == .local then .loc L x else .cell (((cellsFrom c₀ names acc).lookup x).getD 0)) := by
  unfold Zal
  rw [Ql, h1]; rfl
 rcases hk with hk | hk
 ·have hk : kd = .local := hk
  subst hk
  exact .inl ⟨hl, e⟩
 ·have hk : kd = .cell := hk
  subst hk
  obtain ⟨a, ha⟩ := Option.isSome_iff_exists.mp (Zcj x names c₀ acc (.inl hm))
  refine .inr ⟨hl, a, ha, e.trans ?_⟩
  rw [ha]; rfl
theorem FxG.fn {fd : FuncData} {L a : Addr} {outer : List Env} {lv : Nat} {sc : Scope} (hs : fd.scope = sc) (hk : sc.kind = .function) (hg : fd.globals = mainGlobals) (hb : fd.builtins = builtinsNs) (hn : (sc.names.map (·.1)).Nodup) :
  FxG (Zaf fd L a outer lv) sc.names (fnVs sc.names) (Z0 sc.names).length lv := by
 subst hs
 refine ⟨hk, hg, hb, rfl, rfl, ?_, mem_singleton.mpr rfl, λ x k h => ?_⟩
 ·show (Zal L _ fd.scope.names).length = _
  unfold Zal; simp
 ·rcases (Zos (L := L) (c₀ := L + 1) (acc := []) hn h).2 with ⟨h1, h2⟩ | ⟨h1, a, h2, h3⟩
  ·exact .loc h1 h2
  ·exact .cell h1 h2 h3
noncomputable def Zcd (scope : Scope) (env : Env) : List (Str × Addr) := scope.names.foldl (λ cs x => if x.2 == .free then (x.1, (env.cells.lookup x.1).getD 0) :: cs else cs) []
theorem Zhw {env : Env} : ∀ (l : List (Str × NameKind)) (cs : List (Str × Addr)), (∀ x ∈ l, x.2 = .free -> (env.cells.lookup x.1).isSome = true) ->
  (forIn l cs (λ x (r : List (Str × Addr)) => (if x.2 == NameKind.free then do let a <- cellOf env x.1; pure (ForInStep.yield ((x.1, a) :: r)) else pure (ForInStep.yield r) : Sem (ForInStep (List (Str × Addr)))))) =
   pure (l.foldl (λ cs x => if x.2 == .free then (x.1, (env.cells.lookup x.1).getD 0) :: cs else cs) cs)
 | [] => λ cs _ => rfl
 | x :: l => λ cs h => by
  rw [forIn_cons, foldl_cons]
  cases hk : x.2 == NameKind.free with
  | false =>
   simp only [Bool.false_eq_true, if_false]
   rw [pure_bind]
   exact Zhw l cs λ y hy => h y (Qv _ hy)
  | true =>
   obtain ⟨a, ha⟩ := Option.isSome_iff_exists.mp (h x Q0 (eq_of_beq hk))
   simp only [if_true]
   have : cellOf env x.1 = pure a := by unfold cellOf; rw [ha]
   rw [this, pure_bind, pure_bind, ha]
   exact Zhw l _ λ y hy => h y (Qv _ hy)
theorem Zsp {scope : Scope} {env : Env} (h : ∀ x ∈ scope.names, x.2 = .free -> (env.cells.lookup x.1).isSome = true) : closureFor scope env = pure (Zcd scope env) := by
 unfold closureFor Zcd
 have := Zhw scope.names [] h
 simp only [bind_pure] at this ⊢
 refine Eq.trans ?_ this
 rfl
noncomputable def Zjv (names : List (Str × NameKind)) (vs : List (Str × Nat)) (scope : Scope) : Bool :=
 scope.names.all λ x => x.2 != .free || ((vs.lookup x.1).isSome && names.lookup x.1 != some .local)
noncomputable def Zbf (names : List (Str × NameKind)) (scope : Scope) : List (Str × NameKind) :=
 scope.names.map λ x => if x.2 == .free && names.lookup x.1 == some .cell then (x.1, .cell) else x
noncomputable def Zuz (scope : Scope) : List (Str × NameKind) := scope.names.filter λ x => x.2 == .free
def Zqb (n : Nat) (vs : List (Str × Nat)) (scope : Scope) : List (Str × Nat) :=
 Zd4 n (Z0 scope.names) ++ (Zuz scope).filterMap λ x => (vs.lookup x.1).map λ k => (x.1, k)
theorem Zlj {α : Type} {x : Str} {a : α} : ∀ {l r : List (Str × α)}, (l ++ r).lookup x = some a -> l.lookup x = some a ∨ (l.lookup x = none ∧ r.lookup x = some a)
 | [] => λ h => .inr ⟨rfl, h⟩
 | (y, b) :: l => λ h => by
  rw [cons_append, lookup_cons] at h
  rw [lookup_cons]
  cases q : x == y with
  | true => rw [q] at h; exact .inl h
  | false => rw [q] at h; exact Zlj h
theorem Zot {env : Env} {x : Str} {a : Addr} (ha : env.cells.lookup x = some a) : ∀ (l : List (Str × NameKind)) (cs : List (Str × Addr)), ((x, NameKind.free) ∈ l ∨ cs.lookup x = some a) ->
  (l.foldl (λ cs x => if x.2 == .free then (x.1, (env.cells.lookup x.1).getD 0) :: cs else cs) cs).lookup x = some a
 | [] => λ cs h => h.resolve_left (λ h => nomatch h)
 | y :: l => λ cs h => by
  rw [foldl_cons]
  refine Zot ha l _ ?_
  rcases h with h | h
  ·rcases Qmc h with e | h
   ·right
    subst e
    simp [ha]
   ·exact .inl h
  ·right
   split
   ·rw [lookup_cons]
    cases q : x == y.1 with
    | true => rw [<- eq_of_beq q, ha]; rfl
    | false => exact h
   ·exact h
theorem Zjb (x : Str) {a : Addr} : ∀ (names : List (Str × NameKind)) (n : Nat) (acc : List (Str × Addr)), (x, NameKind.cell) ∉ names -> acc.lookup x = some a -> (cellsFrom n names acc).lookup x = some a
 | [] => λ n acc _ h => h
 | (y, k) :: r => λ n acc hn h => by
  unfold cellsFrom
  have hr : (x, NameKind.cell) ∉ r := λ h => hn (Qv _ h)
  split
  ·rename_i hk
   have hk := eq_of_beq hk
   refine Zjb x r _ _ hr ?_
   rw [lookup_cons]
   have : (x == y) = false := by
    rw [beq_eq_false_iff_ne]
    intro e
    exact hn (by rw [e, <- hk]; exact Q0)
   rw [this]; exact h
  ·exact Zjb x r _ _ hr h
theorem Zjc (x : Str) : ∀ (names : List (Str × NameKind)) (n : Nat) (acc acc' : List (Str × Addr)), ((x, NameKind.cell) ∈ names ∨ acc.lookup x = acc'.lookup x) -> (cellsFrom n names acc).lookup x = (cellsFrom n names acc').lookup x
 | [] => λ n acc acc' h => h.resolve_left (λ h => nomatch h)
 | (y, k) :: r => λ n acc acc' h => by
  unfold cellsFrom
  split
  ·rename_i hk
   refine Zjc x r _ _ _ ?_
   rcases h with h | h
   ·rcases Qmc h with e | h
    ·cases e; right; simp
    ·exact .inl h
   ·right
    rw [lookup_cons, lookup_cons, h]
  ·rename_i hk
   refine Zjc x r _ _ _ ?_
   rcases h with h | h
   ·rcases Qmc h with e | h
    ·cases e; exact Qe rfl hk
    ·exact .inl h
   ·exact .inr h
theorem Zou {env : Env} {names : List (Str × NameKind)} {scope : Scope} (hk : env.scope.kind = .function) (hn : env.scope.names = names) : (scope.names.map λ (n, k) => if Zf9 env n k then (n, NameKind.cell) else (n, k)) = Zbf names scope := by
 unfold Zbf Zf9
 refine map_congr_left λ x _ => ?_
 obtain ⟨n, k⟩ := x
 dsimp only
 rw [hk, show env.kindOf n = names.lookup n by unfold Env.kindOf; rw [hn]]
 simp
theorem Zkt {names : List (Str × NameKind)} {scope : Scope} {x : Str} {k : NameKind} (hn : (scope.names.map (·.1)).Nodup) (h : (x, k) ∈ scope.names) :
  (Zbf names scope).lookup x = some (if k == .free && names.lookup x == some .cell then .cell else k) := by
 refine Zc6 ?_ ?_
 ·unfold Zbf
  rw [map_map]
  have : ((λ x => x.1) ∘ λ x : Str × NameKind => if x.2 == .free && names.lookup x.1 == some .cell then (x.1, NameKind.cell) else x) = (·.1) := by
   funext x; dsimp only [Function.comp]; split <;> rfl
  rw [this]; exact hn
 ·unfold Zbf
  refine mem_map.mpr ⟨(x, k), h, ?_⟩
  dsimp only
  split <;> rfl
theorem FxG.cells {F : Fx} {names : List (Str × NameKind)} {vs : List (Str × Nat)} {n lv : Nat} (G : FxG F names vs n lv) {x : Str} (h1 : (vs.lookup x).isSome = true) (h2 : names.lookup x ≠ some .local) :
  ∃ k a, vs.lookup x = some k ∧ F.env.cells.lookup x = some a ∧ F.locs[k]? = some (.cell a) ∧ (names.lookup x = some .cell ∨ names.lookup x = some .free) := by
 obtain ⟨k, hk⟩ := Option.isSome_iff_exists.mp h1
 have e : F.env.kindOf x = names.lookup x := by unfold Env.kindOf; rw [G.names]
 cases G.var x k hk with
 | loc h _ => rw [e] at h; exact Qe h h2
 | cell h q r => rw [e] at h; exact ⟨k, _, hk, q, r, .inl h⟩
 | free h q r => rw [e] at h; exact ⟨k, _, hk, q, r, .inr h⟩
theorem FxG.closure {F : Fx} {names : List (Str × NameKind)} {vs : List (Str × Nat)} {n lv : Nat} (G : FxG F names vs n lv) {scope : Scope} (h : Zjv names vs scope = true) : closureFor scope F.env = pure (Zcd scope F.env) := by
 refine Zsp λ x hx hf => ?_
 unfold Zjv at h
 have := all_eq_true.mp h x hx
 rw [hf, Bool.or_eq_true, Q7] at this
 rcases this with this | this
 ·cases this
 obtain ⟨k, a, _, q, _⟩ := G.cells this.1 (bne_iff_ne.mp this.2)
 rw [q]; rfl
theorem FxG.comp {F : Fx} {names : List (Str × NameKind)} {vs : List (Str × Nat)} {n lv : Nat} (G : FxG F names vs n lv) {scope : Scope} (hk : scope.kind = .function) (hn : (scope.names.map (·.1)).Nodup) (hf : Zjv names vs scope = true) (Lc : Addr) :
  FxG (Zbe F scope Lc (Zcd scope F.env)) (Zbf names scope) (Zqb n vs scope) (n + (Z0 scope.names).length) lv := by
 have hnames : (Zbe F scope Lc (Zcd scope F.env)).env.scope.names = Zbf names scope := Zou G.kind G.names
 refine ⟨hk, G.glob, G.bui, G.lv, hnames, ?_, Q0, λ x k h => ?_⟩
 ·show (F.locs ++ Zal Lc (Zas Lc scope) scope.names).length = _
  rw [Qk, G.flen]
  congr 1
  unfold Zal; simp
 ·have hko : (Zbe F scope Lc (Zcd scope F.env)).env.kindOf x = (Zbf names scope).lookup x := by unfold Env.kindOf; rw [hnames]
  have hlook : ∀ kd, scope.names.lookup x = some kd -> (Zbf names scope).lookup x = some (if kd == .free && names.lookup x == some .cell then .cell else kd) := λ kd hkd => Zkt hn (mem_of_lookup hkd)
  rcases Zlj h with h | ⟨_, h⟩
  ·obtain ⟨hle, q⟩ := Zos (L := Lc) (c₀ := Lc + 1) (acc := []) hn h
   have hat : ∀ l, (Zal Lc (Zas Lc scope) scope.names)[k - n]? = some l -> (Zbe F scope Lc (Zcd scope F.env)).locs[k]? = some l := λ l hl => by
    show (F.locs ++ Zal Lc (Zas Lc scope) scope.names)[k]? = _
    rw [Xf (by rw [G.flen]; exact hle), G.flen]
    exact hl
   rcases q with ⟨h1, h2⟩ | ⟨h1, a, h2, h3⟩
   ·exact .loc (hko.trans (hlook _ h1)) (hat _ h2)
   ·refine .cell (hko.trans (hlook _ h1)) (a := a) ?_ (hat _ h3)
    show (cellsFrom (Lc + 1) scope.names (Zcd scope F.env)).lookup x = some a
    rw [<- h2]
    exact Zjc x scope.names (Lc + 1) (Zcd scope F.env) [] (.inl (mem_of_lookup h1))
  ·have hm := mem_of_lookup h
   obtain ⟨y, hy, e⟩ := List.mem_filterMap.mp hm
   obtain ⟨k', hk', e⟩ := Option.map_eq_some_iff.mp e
   cases e
   obtain ⟨hy1, hy2⟩ := mem_filter.mp hy
   have hy2 : y.2 = .free := by simpa using hy2
   obtain ⟨x, kd⟩ := y
   dsimp only at hy2 hk'
   subst hy2
   have hfo := all_eq_true.mp hf _ hy1
   rw [Bool.or_eq_true, Q7] at hfo
   rcases hfo with hfo | hfo
   ·cases hfo
   obtain ⟨kC, a, q1, q2, q3, q4⟩ := G.cells hfo.1 (bne_iff_ne.mp hfo.2)
   rw [hk'] at q1; cases q1
   have hl := Zc6 hn hy1
   have hcl : (Zbe F scope Lc (Zcd scope F.env)).env.cells.lookup x = some a := by
    show (cellsFrom (Lc + 1) scope.names (Zcd scope F.env)).lookup x = some a
    refine Zjb x scope.names _ _ (λ hc => ?_) (Zot q2 scope.names [] (.inl hy1))
    have := Zc6 hn hc
    rw [hl] at this; cases this
   have hat : (Zbe F scope Lc (Zcd scope F.env)).locs[k]? = some (.cell a) := getElem?_app q3
   rcases q4 with q4 | q4
   ·refine .cell ((hko.trans (hlook _ hl)).trans ?_) hcl hat
    rw [q4]; rfl
   ·refine .free ((hko.trans (hlook _ hl)).trans ?_) hcl hat
    rw [q4]; rfl

section
variable {c : Cx} {G : Fx}
end

section
variable {c : Cx} {F : Fx}
theorem Zvg {φ : List Addr} {h : Heap} {vs : List Value} {is : List Int} (r : IntsAre vs is) : VRs φ h vs (is.map .int) := by
 induction r with
 | nil => exact .nil
 | cons n t _ ih => exact .cons (.int n t) ih
end

noncomputable def Z8 (l : List Stmt) (i : Nat) : Stmt := l.getD i (.Pass ⟨0, 0, 0, 0⟩)
set_option backward.eqns.nonrecursive false
noncomputable def Zmt : Stmt -> List Stmt × Scope × Arguments
 | .FunctionDef _ a b _ _ _ s _ _ _ => (b, s, a)
 | .ClassDef _ _ _ b _ _ _ _ _ _ _ => (b, default, default)
 | _ => ([], default, default)
set_option backward.eqns.nonrecursive true
def Zaq (st : Stmt) : List Stmt := (Zmt st).1
def Z1 (st : Stmt) : Scope := (Zmt st).2.1
def Zcq (st : Stmt) : Arguments := (Zmt st).2.2
structure FnOk (c : Cx) (f : Addr) (st : Stmt) (dflt : FuncData -> Prop) : Prop where
 ok : ∃ fd, FnAt c f fd (Zaq st) ∧ fd.scope = Z1 st ∧ fd.params = Zcq st ∧ fd.globals = mainGlobals ∧ fd.builtins = builtinsNs ∧ dflt fd
def Zad (c : Cx) (f : Addr) (lv : Nat) (k : List PV -> PM PV) : Prop :=
 ∀ (F : Fx) (vs : List Value) (xs : List PV) (A : Around) (φ : List Addr) (μ : St) (s : Shared) (R : Result -> Shared -> Prop), lv + 1 <= F.lv -> F.hd = true -> ACtx F A -> Rep c F φ μ s -> VRs φ s.heap vs xs -> k xs μ ≠ .bad ->
  (∀ v y φ' μ' s', k xs μ = .ok y μ' -> Rep c F φ' μ' s' -> Ext F.nss F.cls φ s.heap φ' s'.heap -> VR φ' s'.heap v y -> R (.ok (.ret v)) s') ->
  (∀ e x φ' μ' s', k xs μ = .exc x μ' -> Rep c F φ' μ' s' -> Ext F.nss F.cls φ s.heap φ' s'.heap -> ExcR c (dom s.heap) φ' s'.heap e x -> R (.error e) s') ->
  codeAny (model c.prog c.w) A (.call (.ref f) ⟨vs, []⟩) R s
section
variable {c : Cx} {F : Fx} {names : List (Str × NameKind)} {vs : List (Str × Nat)} {n lv : Nat}
theorem Zad.call {f : Addr} {k : List PV -> PM PV} {l : Nat} (h : Zad c f l k) (hlv : l + 1 <= F.lv) (hh : F.hd = true) : Zay c F (.ref f) k :=
 λ vs ys A φ μ s Q E hA R p hb hQ hE => wpAny_call (h F vs ys A φ μ s _ hlv hh hA R p hb (λ v y φ' μ' s' e R' x' r => hQ v y φ' μ' s' e R' x' r) λ e x φ' μ' s' he R' x' r => hE e x φ' μ' s' he R' x' r)
theorem Zad.mk {f : Addr} {fd : FuncData} {body : List Stmt} {ks : List Str} {arr frm : List PV -> Option (List PV)} {l : Nat} {g : PM MF} (hf : FnAt c f fd body) (hbd : Binds c fd ks arr)
  (hfrm : ∀ xs fr, frm xs = some fr -> ∃ ys, arr xs = some ys ∧ fr = Zbs fd.scope.names ks ys) (hbody : ∀ L outer, Zbx c (Zaf fd L f outer l) body g) : Zad c f l (Zav frm g) :=
 λ F vs xs A φ μ s R hlv hh hA Rp hv hb hQ hE => Zwv hf hbd hfrm hbody hlv hh hA Rp hv hb hQ hE
noncomputable def okName (vs : List (Str × Nat)) (x : Str) (k : Nat) : Bool := vs.lookup x == some k && !(x == ("__debug__" : Str)) && !(x == ("__classdict__" : Str))
theorem FxG.name (G : FxG F names vs n lv) {x : Str} {k : Nat} {pos : Pos} (h : okName vs x k = true := by kernel_rfl) : Zk c F (.Name x pos) (Za k) := by
 unfold okName at h
 simp only [Q7, Bool.not_eq_true'] at h
 exact Zu1 G.kind (G.var x k (eq_of_beq h.1.1)) h.1.2 h.2
theorem FxG.asg (G : FxG F names vs n lv) {x : Str} {k : Nat} {pos : Pos} (h : (vs.lookup x == some k) = true := by kernel_rfl) : Zfu c F (assign (.Name x pos) F.env) (Zh k) :=
 Zqe G.kind (G.var x k (eq_of_beq h))noncomputable def Zdf (names : List (Str × NameKind)) (x : Str) : Bool := names.lookup x == some .globalImplicit && !(x == ("__debug__" : Str)) && !(x == ("__name__" : Str))
theorem FxG.glob' (G : FxG F names vs n lv) {x : Str} (h : Zdf names x = true) : F.env.kindOf x = some .globalImplicit ∧ (x == ("__debug__" : Str)) = false ∧ x ≠ "__name__" := by
 unfold Zdf at h
 simp only [Q7, Bool.not_eq_true'] at h
 refine ⟨?_, h.1.2, beq_eq_false_iff_ne.mp h.2⟩
 unfold Env.kindOf; rw [G.names]; exact eq_of_beq h.1.1
theorem FxG.global (G : FxG F names vs n lv) {x : Str} (h : Zdf names x = true) {v : Value} {pv : PV} (e : nsIn c.K mainGlobals x = some (some v)) (hv : ∀ φ h, VR φ h v pv) {pos : Pos} : Zk c F (.Name x pos) (pure pv) :=
 Zsa G.kind G.glob (G.glob' h).1 (G.glob' h).2.1 e hv
theorem FxG.hGlob (G : FxG F names vs n lv) {x : Str} (h : Zdf names x = true) {v : Value} (e : nsIn c.K mainGlobals x = some (some v)) {np : Pos} : ∀ A φ μ s Q (E : Value -> Shared -> Prop), ACtx F A -> Rep c F φ μ s -> Q v s -> wpAny (model c.prog c.w) A (eval (.Name x np) F.env) Q E s :=
 Zqg G.kind G.glob (G.glob' h).1 (G.glob' h).2.1 e
theorem FxG.hBui (G : FxG F names vs n lv) {x : Str} (h : Zdf names x = true) {v : Value} (e : nsIn c.K mainGlobals x = some none) (hb : bootBuiltins x = some v) {np : Pos} : ∀ A φ μ s Q (E : Value -> Shared -> Prop), ACtx F A -> Rep c F φ μ s -> Q v s -> wpAny (model c.prog c.w) A (eval (.Name x np) F.env) Q E s :=
 Zu7 G.kind G.glob G.bui (G.glob' h).1 (G.glob' h).2.1 e hb (G.glob' h).2.2
theorem FxG.callB (G : FxG F names vs n lv) {np pos : Pos} {x : Str} {id : String} (e : nsIn c.K mainGlobals x = some none) (hb : bootBuiltins x = some (.builtin id)) {args : List Expr} {g : PM (List PV)} {k : List PV -> PM PV} (hargs : CallArgs c F (starEach args F.env) g) (hcall : Zay c F (.builtin id) k) (h : Zdf names x = true := by kernel_rfl) : Zk c F (.Call (.Name x np) args [] pos) (g >>= k) :=
 Zei (G.hBui h e hb) hargs Zob hcall
theorem FxG.callT (G : FxG F names vs n lv) {np pos : Pos} {x : Str} {id : String} (e : nsIn c.K mainGlobals x = some none) (hb : bootBuiltins x = some (.type id)) {args : List Expr} {g : PM (List PV)} {k : List PV -> PM PV} (hargs : CallArgs c F (starEach args F.env) g) (hcall : Zay c F (.type id) k) (h : Zdf names x = true := by kernel_rfl) : Zk c F (.Call (.Name x np) args [] pos) (g >>= k) :=
 Zei (G.hBui h e hb) hargs Ztv hcall
theorem FxG.callG (G : FxG F names vs n lv) {np pos : Pos} (hh : F.hd = true) {x : Str} {f : Addr} {l : Nat} {st : Stmt} {D : FuncData -> Prop} (h : Zdf names x = true) (e : nsIn c.K mainGlobals x = some (some (.ref f))) (hf : FnOk c f st D) {args : List Expr} {g : PM (List PV)} {k : List PV -> PM PV} (hargs : CallArgs c F (starEach args F.env) g) (hcall : Zad c f l k) (hl : l + 1 <= lv) : Zk c F (.Call (.Name x np) args [] pos) (g >>= k) := by
 obtain ⟨fd, hat, _⟩ := hf.ok
 exact Zei (G.hGlob h e) hargs (Zq6 hat) (hcall.call (by rw [G.lv]; exact hl) hh)theorem Znj {e : Expr} {pos : Pos} {f : PM PV} (h : Zk c F e f) : Zk c F (.JoinedStr [e] pos) f := h
noncomputable def swapB (names : List (Str × NameKind)) (t : Str) (tline vline : Nat) (scope : Scope) : Bool := names.lookup t == some .local && tline == vline && !(scope.names.any λ (n, k) => n == t && (k == .local || k == .cell))
theorem FxG.swap (G : FxG F names vs n lv) {t : Str} {tp cpos : Pos} {elt : Expr} {gens : List Comprehension} {scope : Scope} {line : Nat} : swapsWithSole [.Name t tp] (.ListComp elt gens scope cpos) line F.env = pure (swapB names t tp.line cpos.line scope) := by
 show (pure _ : Sem Bool) = _
 have e1 : F.env.blockKind = .function := by
  unfold Env.blockKind; rw [G.kind]; rfl
 have e2 : F.env.kindOf t = names.lookup t := by unfold Env.kindOf; rw [G.names]
 unfold swapB
 rw [e1, e2]
 rfl
theorem FxG.quiet (G : FxG F names vs n lv) : interactive F.env = false := by
 unfold interactive; rw [G.kind]; rfl
end

set_option genInjectivity false in
structure Ad where
 NI : Addr
 CE : Addr
 TS : Addr
def Zd (f : PM PV) (g : PM (List PV)) : PM (List PV) := f >>= λ x => g >>= λ xs => pure (x :: xs)def argS (f : PM PV) : PM (List PV) := f >>= λ x => Zb4 x
noncomputable def buiNames : List Str := ["len", "range", "sum", "any", "all", "sorted", "list", "tuple", "set", "bool", "iter", "max", "min", "isinstance", "ValueError", "StopIteration"]theorem Za4 : bootBuiltins "len" = some (.builtin "len") := by decide +kernel
theorem Zej : bootBuiltins "range" = some (.type "range") := by decide +kernel
theorem Zvh : bootBuiltins "any" = some (.builtin "any") := by decide +kernel
theorem Zvi : bootBuiltins "all" = some (.builtin "all") := by decide +kernel
theorem Zqn : bootBuiltins "sorted" = some (.builtin "sorted") := by decide +kernel
theorem Zm5 : bootBuiltins "list" = some (.type "list") := by decide +kernel
theorem Zlk : bootBuiltins "tuple" = some (.type "tuple") := by decide +kernel
theorem Zvj : bootBuiltins "set" = some (.type "set") := by decide +kernel
theorem Zm6 : bootBuiltins "bool" = some (.type "bool") := by decide +kernel
theorem Zt7 : bootBuiltins "iter" = some (.builtin "iter") := by decide +kernel
theorem Zll : bootBuiltins "isinstance" = some (.builtin "isinstance") := by decide +kernel
theorem Zao : bootBuiltins "ValueError" = some (.type "ValueError") := by decide +kernel
theorem Zjd : bootBuiltins "StopIteration" = some (.type "StopIteration") := by decide +kernel
set_option backward.eqns.nonrecursive false
noncomputable def isCE (d : Ad) (x : Value) : Option Bool := match x with
 | .ref a => if a = d.CE then some true else none
 | .type n => if n = "ValueError" ∨ n = "StopIteration" then some false else none
 | _ => none
noncomputable def Zcf (d : Ad) (x : Value) : Option Bool := match x with
 | .ref a => if a = d.CE then some true else none
 | .type n => if n = "ValueError" then some true else none
 | _ => none
noncomputable def Zb7 (d : Ad) (x : Value) : Option Bool := match x with
 | .type n => if n = "StopIteration" then some true else if n = "ValueError" then some false else none
 | _ => none
set_option backward.eqns.nonrecursive true
section
variable {c : Cx} {F : Fx} {names : List (Str × NameKind)} {vs : List (Str × Nat)} {n lv : Nat}
theorem FxG.globI (G : FxG F names vs n lv) {x : Str} (h : Zdf names x = true) {i : Int} (e : ∃ t, nsIn c.K mainGlobals x = some (some (.int i t))) {pos : Pos} : Zk c F (.Name x pos) (pure (.int i)) := by
 obtain ⟨t, e⟩ := e
 exact G.global h e λ _ _ => .int _ _
theorem Zb8 {C : Addr} {name : Str} {k : Nat} (hC : SlotName c C name k) {o : Expr} {pos : Pos} {f : PM PV} (hf : Zk c F o f) (he : attributeBase o name F.env (eval o F.env) = eval o F.env) : Zk c F (.Attribute o name pos) (Zdk C k f) := λ A φ μ s Q E hA R p hb hQ hE => by
 rw [arm_eval_Attribute, he]
 unfold Zdk at hb hQ hE
 refine Qb (hf.use hA R p hb hE λ v y φ' μ' s' eg R' x r => ?_)
 rw [eg] at hb hQ hE
 refine Qb (wpAny_standAt (Qb (Qu ((Ziz hC).fin hA R' r rfl x hb (λ a b φ1 μ1 s1 e RB xB rB => ?_) hE))))
 exact Qb (wpAny_letTemporaryGo (Qp (hQ _ _ _ _ _ e RB xB rB)))
theorem FxG.callM (G : FxG F names vs n lv) (hh : F.hd = true) {C f : Addr} {st : Stmt} {D : FuncData -> Prop} {name : Str} (hM : MethAt c C name f) (hf : FnOk c f st D) {o : Expr} {apos pos : Pos} {args : List Expr} {fo : PM PV} {g : PM (List PV)} {k : List PV -> PM PV} {l : Nat} {b : Bool}
  (hbase : attributeBase o name F.env (eval o F.env) = eval o F.env) (hst : methodCallForm (args.length + 0) (backTo pos (starEach args F.env)) [] = b) (hpos : (apos.endLine == pos.line) = true) (ho : Zk c F o fo) (hargs : CallArgs c F (starEach args F.env) g)
  (hk : Zad c f l k) (hl : l + 1 <= lv) : Zk c F (.Call (.Attribute o name apos) args [] pos) (Zb5 C name fo g k) := by
 obtain ⟨fd, hat, _⟩ := hf.ok
 exact Zof hM hat hbase hst hpos ho hargs λ vs xs A φ μ s R hA Rp hv hb hQ hE => hk F vs xs A φ μ s R (by rw [G.lv]; exact hl) hh hA Rp hv hb hQ hE
theorem FxG.callC (G : FxG F names vs n lv) {np pos : Pos} (hh : F.hd = true) {x : Str} {C f : Addr} {slotted : Bool} {k : List PV -> PM PV} {l : Nat} (h : Zdf names x = true) (e : nsIn c.K mainGlobals x = some (some (.ref C))) (hM : MakeAt c C f) (hk : Zad c f l k) (hl : l + 2 <= lv)
  {args : List Expr} {g : PM (List PV)} (hargs : CallArgs c F (starEach args F.env) g) : Zk c F (.Call (.Name x np) args [] pos) (g >>= newM C slotted k) :=
 Zei (G.hGlob h e) hargs (λ φ h X _ => keeps_K hM.keep h X) (Zw6 hM (lv := l + 1) (by rw [G.lv]; exact hl) λ vs xs A φ μ s R hA Rp hv hb hQ hE => hk (lower F (l + 1)) vs xs A φ μ s R Qr hh hA Rp hv hb hQ hE)
theorem FxG.handling (G : FxG F names vs n lv) : FxG (Mine.handling F) names vs n lv := ⟨G.kind, G.glob, G.bui, G.lv, G.names, G.flen, G.loc, λ x k h => by
 cases G.var x k h with
 | loc a b => exact .loc a b
 | cell a b c => exact .cell a b c
 | free a b c => exact .free a b c⟩
end

set_option backward.eqns.nonrecursive false
noncomputable def Zif (m : Nat) (xs : List PV) : Option (List PV) := match decide (xs.length = m) with
 | true => some xs
 | false => none
def Zhl (m : Nat) (xs : List PV) : Option (List PV) := match decide (m <= xs.length) && Z3 (xs.drop m) with
 | true => some (xs.take m ++ [.tup (xs.drop m)])
 | false => none
noncomputable def Zmu (m : Nat) (xs : List PV) : Option (List PV) := match decide (xs.length = m) with
 | true => some xs
 | false => (match decide (xs.length + 1 = m) with
  | true => some (xs ++ [.none])
  | false => none)
set_option backward.eqns.nonrecursive true
noncomputable def Zig (fd : FuncData) (ks : List Str) : Bool := ks.all λ k => fd.scope.names.lookup k == some .local || fd.scope.names.lookup k == some .cell
theorem Zfv {l : List Value} (h : l.length + 1 = 2) : ∃ a, l = [a] := by
 rcases l with _ | ⟨a, _ | ⟨b, l⟩⟩
 ·cases h
 ·exact ⟨a, rfl⟩
 ·cases h
theorem len2 {l : List Value} (h : l.length = 2) : ∃ a b, l = [a, b] := by
 rcases l with _ | ⟨a, _ | ⟨b, _ | ⟨c, l⟩⟩⟩
 ·cases h
 ·cases h
 ·exact ⟨a, b, rfl⟩
 ·cases h
section
variable {c : Cx} {fd : FuncData} {ks : List Str} {m : Nat}
theorem Zkg (own : Zig fd ks = true) (h : ∀ vs : List Value, vs.length = m -> bindArgs fd ⟨vs, []⟩ = pure (ks.zip vs)) : Binds c fd ks (Zif m) :=
 ⟨own, λ F φ μ s vs xs ys A Q E R hv ha hQ => by
  unfold Zif at ha
  split at ha
  ·rename_i hd
   cases ha
   rw [h vs (hv.length.trans (Qh hd))]
   exact Qp (hQ vs s R Ext.refl (λ _ _ e => e) hv)
  ·cases ha⟩
theorem Zsq (own : Zig fd ks = true) (h : ∀ vs r : List Value, vs.length = m -> bindArgs fd ⟨vs ++ r, []⟩ = (newTuple r >>= λ t => pure (ks.zip (vs ++ [t])))) : Binds c fd ks (Zhl m) :=
 ⟨own, λ F φ μ s vs xs ys A Q E R hv ha hQ => by
  unfold Zhl at ha
  split at ha
  ·rename_i hd
   cases ha
   rw [Q7] at hd
   have hm := Qh hd.1
   have hl := Zba hd.2
   have e := hv.length
   rw [<- take_append_drop m vs, h (vs.take m) (vs.drop m) (length_take.trans (Nat.min_eq_left (Qke hm e)))]
   unfold newTuple
   refine Qb (wpAny_newObj_type ?_ (by show (vs.drop m).toArray.size <= sizeLine; simp only [Q4, length_drop]; rw [length_drop] at hl; rw [e]; exact Qkb hl rfl))
   obtain ⟨RB, xB⟩ := R.push { cls := .type "tuple", data := .seq (vs.drop m).toArray } (tk := s.toks)
   refine Qp (hQ _ _ RB xB (λ a o q => Qy _ q) ?_)
   exact ((hv.ext R xB).take m).append (.cons (.tup (Qw _ rfl) (λ hm => Qe (R.phiLt hm) (Q6 _)) ((hv.ext R xB).drop m)) .nil)
  ·cases ha⟩
theorem Zsr (own : Zig fd ks = true) {t : Addr} {k : Nat} (ht : c.K.lookup t = some { cls := .type "tuple", data := .seq #[.none] k })
  (h : ∀ (vs : List Value) (A : Around) (s : Shared) (Q : List (Str × Value) -> Shared -> Prop) (E : Value -> Shared -> Prop), s.heap.get? t = some { cls := .type "tuple", data := .seq #[.none] k } -> (vs.length = m -> Q (ks.zip vs) s -> wpAny (model c.prog c.w) A (bindArgs fd ⟨vs, []⟩) Q E s) ∧ (vs.length + 1 = m -> Q (ks.zip (vs ++ [.none])) s -> wpAny (model c.prog c.w) A (bindArgs fd ⟨vs, []⟩) Q E s)) : Binds c fd ks (Zmu m) :=
 ⟨own, λ F φ μ s vs xs ys A Q E R hv ha hQ => by
  have e := hv.length
  have hts := R.inB _ _ ht
  unfold Zmu at ha
  split at ha
  ·rename_i hd
   cases ha
   exact (h vs A s Q E hts).1 (e.trans (Qh hd)) (hQ vs s R Ext.refl (λ _ _ e => e) hv)
  split at ha
  ·rename_i _ _ _ hd2
   cases ha
   refine (h vs A s Q E hts).2 (by rw [e]; exact Qh hd2) (hQ _ s R Ext.refl (λ _ _ e => e) (hv.append (.cons .none .nil)))
  ·cases ha⟩
end

section
variable {c : Cx} {F : Fx}
end

section
variable {c : Cx} {F : Fx} {names : List (Str × NameKind)} {vs : List (Str × Nat)} {m lv : Nat}
theorem FxG.listComp (G : FxG F names vs m lv) {elt target iter : Expr} {ifs : List Expr} {rest : List Comprehension} {scope : Scope} {pos : Pos} {n : Nat} {f : PM PV} {tf : Nat -> PV -> PM Unit}
  (hh : F.hd = true) (hkind : scope.kind = .function) (hn : decide ((scope.names.map (·.1)).Nodup) = true) (hf : Zjv names vs scope = true) (hfold : ∀ x, foldedSetIterable iter F.env x = pure x) (hfirst : Zk c F iter f)
  (hloop : ∀ Lc acc i, FxG (Zbe F scope Lc (Zcd scope F.env)) (Zbf names scope) (Zqb m vs scope) (m + (Z0 scope.names).length) lv -> Ze8 c (Zbe F scope Lc (Zcd scope F.env)) (.ListComp elt (⟨target, iter, ifs, 0⟩ :: rest) scope pos) 0 acc i (tf i)) :
  Zk c F (.ListComp elt (⟨target, iter, ifs, 0⟩ :: rest) scope pos) (Za1 n (Z0 scope.names).length f tf) :=
 Zol hh hfirst (G.closure hf) hkind (Qh hn) hfold λ Lc acc i => hloop Lc acc i (G.comp hkind (Qh hn) hf Lc)
theorem FxG.asgComp (G : FxG F names vs m lv) {x : Str} {tp : Pos} {elt target iter : Expr} {ifs : List Expr} {rest : List Comprehension} {scope : Scope} {cpos pos : Pos} {n : Nat} {f : PM PV} {tf : Nat -> PV -> PM Unit} {a : PV -> PM Unit}
  (hh : F.hd = true) (hkind : scope.kind = .function) (hn : decide ((scope.names.map (·.1)).Nodup) = true) (hf : Zjv names vs scope = true) (hfold : ∀ x, foldedSetIterable iter F.env x = pure x) (hsw : swapB names x tp.line cpos.line scope = true) (hfirst : Zk c F iter f)
  (hloop : ∀ Lc acc i, FxG (Zbe F scope Lc (Zcd scope F.env)) (Zbf names scope) (Zqb m vs scope) (m + (Z0 scope.names).length) lv -> Ze8 c (Zbe F scope Lc (Zcd scope F.env)) (.ListComp elt (⟨target, iter, ifs, 0⟩ :: rest) scope cpos) 0 acc i (tf i))
  (ht : Zfu c F (assign (.Name x tp) F.env) a) :
  Zaz c F (.Assign [.Name x tp] (.ListComp elt (⟨target, iter, ifs, 0⟩ :: rest) scope cpos) pos) (Zt (Za1 n (Z0 scope.names).length f tf) a) :=
 Zl8 hh hfirst (G.closure hf) hkind (Qh hn) hfold (λ Lc acc i => hloop Lc acc i (G.comp hkind (Qh hn) hf Lc)) ht (by rw [G.swap, hsw]) rfl
end

set_option backward.eqns.nonrecursive false
noncomputable def Z6 (K : Frag) (f : Addr) : FuncData := match K.lookup f with
 | some ⟨_, _, .func fd, _⟩ => fd
 | _ => default
noncomputable def Zjw (K : Frag) (f : Addr) : Bool := match K.lookup f with
 | some ⟨_, _, .func _, _⟩ => true
 | _ => false
set_option backward.eqns.nonrecursive true
theorem Zrf {K : Frag} {f : Addr} (h : Zjw K f = true) : ∃ oc od osl, K.lookup f = some ⟨oc, od, .func (Z6 K f), osl⟩ := by
 unfold Zjw at h
 unfold Z6
 cases q : K.lookup f with
 | none => rw [q] at h; exact (Qt h).elim
 | some o =>
  obtain ⟨oc, od, dt, sl⟩ := o
  rw [q] at h
  cases dt with
  | func fd => exact ⟨_, _, _, rfl⟩
  | _ => exact (Qt h).elim
theorem Zxe {c : Cx} {f : Addr} {st : Stmt} {D : FuncData -> Prop} (h1 : Zjw c.K f = true) (h2 : codeIn c.K (Z6 c.K f).code (Z6 c.K f).qualname = true) (h3 : (Z6 c.K f).body = .stmts (Zaq st)) (h4 : (Z6 c.K f).closure = [])
  (h5 : (Z6 c.K f).scope = Z1 st) (h6 : ((Z1 st).isCoroutine || (Z1 st).isGenerator) = false) (h7 : (Z1 st).kind = .function) (h8 : decide (((Z1 st).names.map (·.1)).Nodup) = true)
  (h9 : (Z6 c.K f).params = Zcq st) (h10 : (Z6 c.K f).globals = mainGlobals) (h11 : (Z6 c.K f).builtins = builtinsNs) (h12 : D (Z6 c.K f)) : FnOk c f st D := by
 rw [Bool.or_eq_false_iff] at h6
 exact ⟨Z6 c.K f, ⟨Zrf h1, h2, h3, h4, by rw [h5]; exact h6.1, by rw [h5]; exact h6.2, by rw [h5]; exact h7, by rw [h5]; exact Qh h8⟩, h5, h9, h10, h11, h12⟩
theorem Zhx {c : Cx} {T : Value} {m : Value -> Option Bool} {xA : Value} {bA : Bool} (h₀ : exmOne c.K xA T = some bA) (h : ∀ x b, m x = some b -> exmOne c.K x T = some b) : CatchAt c T m :=
 ⟨λ hp X => exm_ty X h₀, λ hp X => (exm_cls X h₀).1, λ x b hm hp X => (exm_cls X (h x b hm)).2⟩
theorem Zvk {c : Cx} {d : Ad} (h1 : exmOne c.K (.ref d.CE) (.ref d.CE) = some true) (h2 : exmOne c.K (.type "ValueError") (.ref d.CE) = some false) (h3 : exmOne c.K (.type "StopIteration") (.ref d.CE) = some false) : CatchAt c (.ref d.CE) (isCE d) :=
 Zhx h1 λ x b hm => by
  unfold isCE at hm
  split at hm
  ·split at hm
   ·rename_i e; cases hm; rw [e]; exact h1
   ·cases hm
  ·split at hm
   ·rename_i e; cases hm; rcases e with rfl | rfl
    ·exact h2
    ·exact h3
   ·cases hm
  ·cases hm
theorem Zss {c : Cx} {d : Ad} (h1 : exmOne c.K (.type "StopIteration") (.type "StopIteration") = some true) (h2 : exmOne c.K (.type "ValueError") (.type "StopIteration") = some false) : CatchAt c (.type "StopIteration") (Zb7 d) :=
 Zhx h1 λ x b hm => by
  unfold Zb7 at hm
  split at hm
  ·split at hm
   ·rename_i e; cases hm; rw [e]; exact h1
   ·split at hm
    ·rename_i e; cases hm; rw [e]; exact h2
    ·cases hm
  ·cases hm
theorem Zt8 {c : Cx} {C f : Addr} {name : Str} (h1 : findIn c.K (.ref C) name = some (some (.ref f))) (h2 : typeIn c.K (.ref f) = some (.type "function")) (h3 : findIn c.K (.ref C) "__getattribute__" = some (some (.builtin "object.__getattribute__")))
  (h4 : findIn c.K (.ref C) "__getattr__" = some none) (h5 : (clsIn c.K C).any (·.hasDict) = true) (h6 : specialIn c.K (.ref f) "__get__" = some (some (.builtin "function.__get__"))) (h7 : takesIn c.K (.ref f) = some false) (h8 : copiedNames.contains name = false) : MethAt c C name f :=
 ⟨h1, h2, h3, h4, h5, h6, h7, h8⟩
theorem Zyr {c : Cx} (h : (buiNames.all λ x => match nsIn c.K mainGlobals x with | some none => true | _ => false) = true) (x : Str) (hx : buiNames.contains x = true) : nsIn c.K mainGlobals x = some none := by
 have := all_eq_true.mp h x (List.contains_iff_mem.mp hx)
 cases q : nsIn c.K mainGlobals x with
 | none => rw [q] at this; exact (Qt this).elim
 | some o =>
  rw [q] at this
  cases o with
  | none => rfl
  | some _ => exact (Qt this).elim
theorem Zxf {prog : Program} {w : World} {h : Heap} {os : OsState} {mg mb : Str -> Option Value} {K : Frag} (kin : K.In h) (g : h.Ns mainGlobals mg) (b : h.Ns builtinsNs mb) (nl : h.NoLimit)
  (bt : ∀ x : Str, x ≠ "__name__" -> mb x = bootBuiltins x) : CxOk { prog := prog, w := w, B := h, os := os, mg := mg, mb := mb, K := K } := ⟨kin, g, b, nl, bt⟩noncomputable def fx0 (env : Env) : Fx := { env := env, locs := [], nss := [], cls := [], frames := [], lv := 20, hd := true }
theorem rep0 {c : Cx} {s : Shared} (C : CxOk c) (hB : c.B = s.heap) (hos : c.os = s.os) (hg : s.gens = #[]) (h0 : c.g0 = #[]) (env : Env) : Rep c (fx0 env) [] ⟨[], []⟩ s :=
 ⟨C, by rw [hB]; exact λ _ _ e => e, hos.symm, ⟨λ i x h => (by rw [h0] at h; cases h), λ x h => (by rw [hg] at h; exact Qe h (Array.not_mem_empty x))⟩, rfl, nodup_nil, (λ a h => (not_mem_nil h).elim), (λ i a o h => by cases h), rfl, nodup_nil, (λ L h => (not_mem_nil h).elim), (λ a h => (not_mem_nil h).elim), (λ k L x h => by cases h), (λ k a h => by cases h), (λ e h => (not_mem_nil h).elim)⟩theorem actx0 (env : Env) : ACtx (fx0 env) callerA := ⟨λ _ => rfl, rfl, rfl, show callerA.depth + 10 * 20 <= 900 by decide, show callerA.units + 100 * 20 <= 9000 by decide⟩
end
end Mine
namespace Mine
open PySem PySem.W PyProof.Rows
noncomputable section

set_option genInjectivity false in
structure EqT where
 α : Type
 l : Frag -> α
 r : α
set_option backward.eqns.nonrecursive false
noncomputable def obsT : List EqT -> Type
 | [] => Unit
 | e :: es => e.α × obsT es
noncomputable def obsL (K : Frag) : (es : List EqT) -> obsT es
 | [] => ()
 | e :: es => (e.l K, obsL K es)
noncomputable def obsR : (es : List EqT) -> obsT es
 | [] => ()
 | e :: es => (e.r, obsR es)
theorem Zf {K : Frag} : ∀ {es : List EqT}, obsL K es = obsR es -> ∀ (i : Nat) (e : EqT), es[i]? = some e -> e.l K = e.r
 | [] => λ _ i e h => by cases h
 | a :: es => λ q i e h => by
  cases i with
  | zero =>
   cases h
   exact congrArg Prod.fst q
  | succ i => exact Zf (es := es) (congrArg Prod.snd q) i e h
noncomputable def Zhm (as : List Addr) (h : Heap) : Frag := as.filterMap λ a => (h.get? a).map λ o => (a, o)
theorem Zje {h h' : Heap} (k : ∀ b o, h.get? b = some o -> h'.get? b = some o) : ∀ (as : List Addr), (Zhm as h).In h'
 | [] => λ a o e => nomatch e
 | b :: as => λ a o e => by
  unfold Zhm at e
  rw [List.filterMap_cons] at e
  cases hb : h.get? b with
  | none => rw [hb] at e; exact Zje k as a o e
  | some x =>
   rw [hb] at e
   change List.lookup a ((b, x) :: Zhm as h) = some o at e
   rw [lookup_cons] at e
   cases q : a == b with
   | true =>
    rw [q] at e
    cases e
    rw [beq_iff_eq.mp q]
    exact k b _ hb
   | false => rw [q] at e; exact Zje k as a o e
def Zga (as : List Addr) (es : List EqT) : Hook :=
 ⟨obsT es, λ s => obsL (Zhm as s.heap) es, λ _ => obsR es, λ _ h => ∃ h₀, obsL (Zhm as h₀) es = obsR es ∧ ∀ b o, h₀.get? b = some o -> h.get? b = some o,
  λ _ s e => ⟨s.heap, e, λ _ _ q => q⟩, λ _ _ _ ⟨h₀, e, k⟩ kk => ⟨h₀, e, λ b o q => kk b o (k b o q)⟩⟩
theorem Zys {as : List Addr} {es : List EqT} {w : World} {h : Heap} (Y : (Zga as es).says w h) : ∃ K : Frag, K.In h ∧ obsL K es = obsR es :=
 Y.elim λ h₀ q => ⟨Zhm as h₀, Zje q.2 as, q.1⟩
end
end Mine
namespace Mine
open PySem PySem.W PyProof.Rows PySem.Calls
noncomputable section

section
variable {c : Cx} {F : Fx}
end

set_option backward.eqns.nonrecursive false
noncomputable def KV (n : Nat) {α : Type} : KasT α -> (α -> Prop) -> Prop
 | .ret a, P => P a
 | .ask i j k, P => (i < n ∧ j < n) ∧ ∀ b, KV n (k b) P
noncomputable def Za9 (ans : Nat -> Nat -> Bool) {α : Type} : KasT α -> α
 | .ret a => a
 | .ask i j k => Za9 ans (k (ans i j))
set_option backward.eqns.nonrecursive true
section
variable {n : Nat}
theorem KV.bind {α β : Type} {f : α -> KasT β} {P : β -> Prop} : ∀ {t : KasT α}, KV n t (λ a => KV n (f a) P) -> KV n (t.bind f) P
 | .ret _ => λ h => h
 | .ask _ _ _ => λ h => ⟨h.1, λ b => KV.bind (h.2 b)⟩
theorem KV.mono {α : Type} {P P' : α -> Prop} (q : ∀ a, P a -> P' a) : ∀ {t : KasT α}, KV n t P -> KV n t P'
 | .ret _ => λ h => q _ h
 | .ask _ _ _ => λ h => ⟨h.1, λ b => KV.mono q (h.2 b)⟩
theorem KV.run {α : Type} {P : α -> Prop} (ans : Nat -> Nat -> Bool) : ∀ {t : KasT α}, KV n t P -> P (Za9 ans t)
 | .ret _ => λ h => h
 | .ask i j k => λ h => KV.run (t := k (ans i j)) ans (h.2 _)
theorem KV.wp {α : Type} {P : α -> Prop} {ans : Nat -> Nat -> Bool} {cmp : Nat -> Nat -> (Bool -> Shared -> Prop) -> Shared -> Prop} {I : Shared -> Prop} {Q : α -> Shared -> Prop}
  (hc : ∀ i j C s, i < n -> j < n -> I s -> (∀ s', I s' -> C (ans i j) s') -> cmp i j C s) : ∀ {t : KasT α} {s : Shared}, KV n t P -> I s -> (∀ s', I s' -> Q (Za9 ans t) s') -> t.kasWp cmp Q s
 | .ret _ => λ _ hI hQ => hQ _ hI
 | .ask i j k => λ h hI hQ => hc i j _ _ h.1.1 h.1.2 hI λ s' hI' => KV.wp hc (h.2 _) hI' hQ
noncomputable abbrev Lt (n : Nat) (p : Array Nat) : Prop := ∀ i, p.getD i 0 < n
theorem Zrg {p q : Array Nat} (hp : q.Perm p) (h : Lt n p) : Lt n q := λ i => by
 by_cases hi : i < q.size
 ·have e : q.getD i 0 = q[i] := by simp [Array.getD, hi]
  rw [e]
  have hm : q[i] ∈ p := (Array.Perm.mem_iff hp).mp (Array.getElem_mem hi)
  obtain ⟨j, hj, e⟩ := Array.getElem_of_mem hm
  have := h j
  rw [show p.getD j 0 = p[j] by simp [Array.getD, hj], e] at this
  exact this
 ·have e : q.getD i 0 = 0 := by simp [Array.getD, hi]
  rw [e]; exact Nat.lt_of_le_of_lt (Q5 _) (h 0)theorem Zjf {p : Array Nat} {i j : Nat} (h : Lt n p) : Lt n (kas_rev p i j) := Zrg (mirror_perm _ _ _ _) h
theorem Zov {p : Array Nat} (h : Lt n p) : ∀ (f k : Nat), KV n (kas_asc p f k) λ _ => True
 | 0 => λ _ => trivial
 | f + 1 => λ k => ⟨⟨h _, h _⟩, λ b => by cases b <;> first | exact trivial | exact Zov h f (k + 1)⟩
theorem Zjz : ∀ (f : Nat) {p : Array Nat} (k q : Nat), Lt n p -> KV n (kas_desc f p k q) λ r => Lt n r.1
 | 0 => λ _ _ h => h
 | f + 1 => λ k q h => ⟨⟨h _, h _⟩, λ b => by
  cases b with
  | true =>
   dsimp only
   rw [Qo rfl]
   split
   ·exact Zjz f _ _ (Zjf h)
   ·exact Zjz f _ _ h
  | false =>
   dsimp only
   rw [Qq Qt]
   refine ⟨⟨h _, h _⟩, λ b => ?_⟩
   cases b with
   | true => exact h
   | false => exact Zjz f _ _ h⟩theorem Zow {p : Array Nat} {k m : Nat} (h : Lt n p) : KV n (kas_tail3 k m p) λ r => Lt n r.2 := KV.bind ((Zov (Zjf h) _ _).mono λ _ _ => Zjf h)
theorem Zkh {p : Array Nat} {k m : Nat} (h : Lt n p) : KV n (kas_descPart k m p) λ r => Lt n r.2 := KV.bind ((Zjz _ _ _ h).mono λ r hr => by
 try dsimp only
 split
 ·exact Zow (Zjf hr)
 ·exact Zow hr)
theorem Zvl {p : Array Nat} {m : Nat} (h : Lt n p) : KV n (kas_count m p) λ r => Lt n r.2 := KV.bind ((Zov h _ _).mono λ k _ => by
 try dsimp only
 split
 ·exact h
 ·split
  ·refine ⟨⟨h _, h _⟩, λ b => ?_⟩
   cases b with
   | true => exact h
   | false => exact Zkh (Zjf h)
  ·exact Zkh h)
theorem Zox {p : Array Nat} {k : Nat} (h : Lt n p) : ∀ (f l r : Nat), KV n (kas_place p k f l r) λ _ => True
 | 0 => λ _ _ => trivial
 | f + 1 => λ l r => by
  show KV n (if l ≥ r then _ else _) _
  split
  ·exact trivial
  ·refine ⟨⟨h _, h _⟩, λ b => ?_⟩
   cases b <;> exact Zox h f _ _
theorem Zt9 : ∀ (f : Nat) {p : Array Nat} (k : Nat), Lt n p -> KV n (kas_bin f p k) (Lt n)
 | 0 => λ _ h => h
 | f + 1 => λ k h => KV.bind ((Zox h _ _ _).mono λ l _ => Zt9 f _ (Zrg (bubble_perm _ _ _) h))
theorem Zoy (hn : 0 < n) : Lt n (List.toArray (List.range n)) := λ i => by
 by_cases hi : i < n
 ·simp [Array.getD, hi]
 ·simp [Array.getD, hi, hn]
theorem Zhc (hn : 0 < n) : KV n (kas_sort n) (Lt n) := KV.bind ((Zvl (Zoy hn)).mono λ r hr => by
 try dsimp only
 split
 ·exact Zt9 _ _ hr
 ·exact hr)
end
noncomputable def yesC (p : Prop) : Bool := @decide p (Classical.propDecidable p)theorem Zoz {p : Prop} : yesC p = true ↔ p := @decide_eq_true_iff p (Classical.propDecidable p)
theorem Zyt {M : Model} {α : Type} {t : Sem α} {b : α -> Bool} {s : Shared} (h1 : wpAny M {} t (λ a _ => b a = true) (λ _ _ => False) s) (h2 : wpAny M {} t (λ a _ => b a = false) (λ _ _ => False) s) : False := by
 have one : ∀ v : Bool, wpAny M {} t (λ a _ => b a = v) (λ _ _ => False) s -> ∃ s', Reach M [] s (t >>= λ a => (pure (.done (.ret (.bool (b a)))) : Sem PySem.Fin)) (.builtin "boot" {}) default [] s' (.ret (.ok (.ret (.bool v)))) := λ v h => by
  have h' : wpAny M {} (t >>= λ a => (pure (.done (.ret (.bool (b a)))) : Sem PySem.Fin)) (λ f s' => f = .done (.ret (.bool v))) (λ _ _ => False) s :=
   Qb (wpAny_mono h (λ a s' e => Qp (by rw [e])) λ _ _ e => e)
  have h2 := h' _ default boot_in
  obtain ⟨r, s', hr, e⟩ := (wp_iff_reach (base := []) (c := .builtin "boot" {}) _ (λ r _ => r = .ok (.ret (.bool v))) default s).mp (Sem.wp_mono M _ _ (λ a _ s' e => by subst e; exact rfl) (λ e _ s' h => h.elim) _ _ h2)
  subst e
  exact ⟨s', hr⟩
 obtain ⟨_, r1⟩ := one true h1
 obtain ⟨_, r2⟩ := one false h2
 have := (r1.det r2).2
 cases this
theorem Zua (prog : Program) (w : World) (s : Shared) {n : Nat} (h2 : 2 <= n) (h64 : n < 64) (key : Nat -> Int) {p : Array Nat} (ep : Za9 (λ i j => decide (key i < key j)) (kas_sort n) = p) :
  p.size = n ∧ p.toList.Perm (List.range n) ∧ ∀ i j, i <= j -> j < n -> key (p.getD i 0) <= key (p.getD j 0) := by
 have hl : Lt n p := by rw [<- ep]; exact (Zhc (Qlk h2 Qr)).run _
 obtain ⟨it, hit⟩ : ∃ it : Array Keyed, it = ((List.range n).map λ i => ((Value.int (key i) 0, Value.int (i : Int) 0) : Keyed)).toArray := ⟨_, rfl⟩
 have isz : it.size = n := by rw [hit]; simp
 have iat : ∀ i, i < n -> kas_item it i = (Value.int (key i) 0, Value.int (i : Int) 0) := λ i hi => by
  unfold kas_item
  rw [hit]
  simp [Array.getD, hi]
 obtain ⟨b, hb⟩ : ∃ b : Unit × SortSt -> Bool, b = λ r => yesC (p.size = n ∧ arrOf r.2 = p.map (kas_item it)) := ⟨_, rfl⟩
 have g1 : wpAny (model prog w) {} (sortRuns'.run (kas_st oneType' it (List.toArray (List.range n)))) (λ r _ => b r = true) (λ _ _ => False) s := by
  refine kas_runs (Q := λ _ st _ => b ((), st) = true) (G := λ p' _ => p' = p) h2 h64 (λ p' st' s' h1 h2 _ h3 => ?_) ?_
  ·subst h3; rw [hb]; exact Zoz.mpr ⟨h1, h2⟩
  ·refine (Zhc (Qlk h2 Qr)).wp (I := λ _ => True) (ans := λ i j => decide (key i < key j)) (λ i j C s hi hj _ h => ?_) trivial λ _ _ => ep
   unfold kas_cmp
   rw [iat i hi, iat j hj]
   exact kat_lt_int (h _ trivial)
 refine Classical.byContradiction λ hn => Zyt g1 ?_
 refine wpAny_mono (wpS_sortRuns (a₀ := it) (Q := λ _ st => b ((), st) = false) (λ q hq => ?_) ⟨?_, rfl, rfl, rfl⟩ (by rw [isz]; exact h2) (by rw [isz]; exact h64) λ st hp _ hs => ?_) (λ _ _ h => h.2) λ _ _ h => h
 ·rw [hit] at hq
  simp at hq
  obtain ⟨i, _, rfl⟩ := hq
  exact ⟨_, _, rfl⟩
 ·show (Array.map (kas_item it) (List.toArray (List.range n))).Perm it
  rw [<- isz, kas_range]
 ·rw [hb]
  refine Bool.eq_false_iff.mpr λ h => hn ?_
  obtain ⟨z, e⟩ := Zoz.mp h
  have at' : ∀ i, i < n -> (arrOf st)[i]? = some (Value.int (key (p.getD i 0)) 0, Value.int (p.getD i 0 : Int) 0) := λ i hi => by
   have : arrOf st = p.map (kas_item it) := e
   rw [this, Array.getElem?_map]
   have : p[i]? = some (p.getD i 0) := by rw [Array.getElem?_eq_getElem (by exact Qle hi z)]; simp [Array.getD, show i < p.size by lia]
   rw [this, Option.map_some, iat _ (hl i)]
  refine ⟨z, ?_, λ i j hij hj => ?_⟩
  ·have q := (Array.perm_iff_toList_perm.mp hp).map λ x : Keyed => (numOf x.2).toNat
   have e1 : (arrOf st).toList.map (λ x : Keyed => (numOf x.2).toNat) = p.toList := by
    refine List.ext_getElem? λ i => ?_
    rw [Ql, Array.getElem?_toList, Array.getElem?_toList]
    by_cases hi : i < n
    ·rw [at' i hi, Array.getElem?_eq_getElem (by exact Qle hi z)]
     simp [Array.getD, show i < p.size by lia]
     rfl
    ·have : arrOf st = p.map (kas_item it) := e
     rw [this, Array.getElem?_eq_none (by simp; lia), Array.getElem?_eq_none (by exact Qek z (Nat.le_of_not_lt hi))]
     rfl
   have e2 : it.toList.map (λ x : Keyed => (numOf x.2).toNat) = List.range n := by
    rw [hit]
    simp
    exact (map_congr_left λ i _ => rfl).trans (List.map_id _)
   rw [e1, e2] at q
   exact q
  ·have := hs i j hij (by rw [isz]; exact hj)
   unfold PyProof.Rows.K at this
   rw [at' i (by exact Qkl hij hj), at' j hj] at this
   exact this

open PySem.AutoSeq1 (wpAny_loadPart')
open PySem.MeetsSeq

section
variable {prog : Program} {w : World} {A : Around} {E : Value -> Shared -> Prop} {s : Shared}
theorem Zrh (ans : Nat -> Nat -> Bool) {n : Nat} (h : n < 2) : Za9 ans (kas_sort n) = List.toArray (List.range n) := by
 rcases n with _ | _ | n
 ·rfl
 ·rfl
 ·exact Qe h (Qi (Nat.le_add_left 2 n))
theorem Znk {κ : SortKind} {ans : Nat -> Nat -> Bool} {a : Addr} {vs : List Value} {n : Nat} {P : PySem.Fin -> Shared -> Prop} (ho : s.heap.get? a = some (seqObj "list" vs.toArray n)) (h64 : vs.length < 64)
  (hT : 2 <= vs.length -> ∀ h' : Heap, (∀ b o, b ≠ a -> s.heap.get? b = some o -> h'.get? b = some o) -> ∀ Q : SortKind -> Shared -> Prop, Q κ { s with heap := h' } -> wpAny (model prog w) A (keyKind' vs.toArray) Q E { s with heap := h' })
  (hc : ∀ h' : Heap, (∀ b o, b ≠ a -> s.heap.get? b = some o -> h'.get? b = some o) -> ∀ (i j : Nat) (C : Bool -> Shared -> Prop), i < vs.length -> j < vs.length -> C (ans i j) { s with heap := h' } ->
   wpAny (model prog w) A (keyLt' κ (vs.getD i .none) (vs.getD j .none)) C (λ _ _ => False) { s with heap := h' })
  (h : P (.done (.ret .none)) { s with heap := sortedHeap s.heap a vs ((Za9 ans (kas_sort vs.length)).map λ i => vs.getD i .none) }) :
  wpAny (model prog w) A (Builtin.«list.sort» ⟨[.ref a], []⟩) P E s := by
 rw [list_sort_plain]
 have ha : a < s.heap.objs.size := Qx ho
 refine Qb (listItems_at ho rfl ?_)
 refine Qb (listUpdate_at ho rfl ?_)
 obtain ⟨e1, ho1⟩ : ∃ e1, (s.heap.update a (Obj.mapSeq λ _ => #[])).get? a = some (seqObj "list" #[] e1) := ⟨_, get?_update_seq ho (λ _ => #[])⟩
 refine Qb (seqEpoch_at ho1 rfl ?_)
 refine Qb (wpAny_newTuple ?_)
 refine Qb (wpAny_newList ?_)
 refine Qu ?_
 obtain ⟨h6, e6⟩ : ∃ h6, h6 = ((s.heap.update a (Obj.mapSeq λ _ => #[])).push (seqObj "tuple" vs.toArray 0)).push (seqObj "list" #[] 0) := ⟨_, rfl⟩
 have ho6 : h6.get? a = some (seqObj "list" #[] e1) := by
  rw [e6, Heap.get?_push_ne _ _ _ (by rw [size_push', Heap.size_update]; exact Nat.ne_of_lt (Nat.lt_succ_of_lt ha)), Heap.get?_push_ne _ _ _ (by rw [Heap.size_update]; exact Nat.ne_of_lt ha)]
  exact ho1
 have keep : ∀ b o, b ≠ a -> s.heap.get? b = some o -> h6.get? b = some o := λ b o hb q => by
  have hlt : b < s.heap.objs.size := Qx q
  rw [e6, Heap.get?_push_ne _ _ _ (by rw [size_push', Heap.size_update]; exact Nat.ne_of_lt (Nat.lt_succ_of_lt hlt)), Heap.get?_push_ne _ _ _ (by rw [Heap.size_update]; exact Nat.ne_of_lt hlt), Heap.get?_update_ne _ _ _ _ hb]
  exact q
 show wpAny (model prog w) A _ P E { s with heap := ((s.heap.update a (Obj.mapSeq λ _ => #[])).push (seqObj "tuple" vs.toArray 0)).push (seqObj "list" #[] 0) }
 have fin : P (.done (.ret .none)) { s with heap := h6.update a (Obj.mapSeq λ _ => (Za9 ans (kas_sort vs.length)).map λ i => vs.getD i .none) } := by rw [e6]; exact h
 rw [<- e6]
 dsimp only
 have hsz : vs.toArray.size = vs.length := by simp
 by_cases h2 : vs.toArray.size < 2
 ·rw [Qo h2, Qo h2]
  refine Qb (Qp ?_)
  rw [StateT.run_pure]
  refine Qb (Qp ?_)
  dsimp only
  refine Qb (seqEpoch_at ho6 rfl ?_)
  refine Qb (listUpdate_at ho6 rfl ?_ (hsz2 := by rw [Array.size_map]; show (pairsOf vs).size <= _; rw [pairsOf_size, sizeLine_eq]; lia))
  simp only [bne_self_eq_false, Bool.false_eq_true, if_false]
  refine Qp ?_
  rw [Zrh ans (by rw [<- hsz]; exact h2)] at fin
  have e : (List.toArray (List.range vs.length)).map (λ i => vs.getD i .none) = (vs.toArray.zip vs.toArray).map (·.2) := by
   refine Array.ext (by simp) λ i h1 h2 => ?_
   simp at h1
   simp [h1]
  rw [e] at fin
  exact fin
 ·rw [Qq h2, Qq h2]
  refine Qb (hT (Qkk (Nat.le_of_not_lt h2) (Xb hsz)) h6 keep _ ?_)
  have hn : vs.length = (pairsOf vs).size := (pairsOf_size _).symm
  refine Qb ?_
  have K := kas_runs (prog := prog) (w := w) (A := A) (κ := κ) (it := pairsOf vs) (n := vs.length) (E := E) (s := { s with heap := h6 }) (Q := λ _ st s' => arrOf st = (Za9 ans (kas_sort vs.length)).map (kas_item (pairsOf vs)) ∧ failedOf st = none ∧ s' = { s with heap := h6 } ∧ (Za9 ans (kas_sort vs.length)).size = vs.length) (G := λ p s' => p = Za9 ans (kas_sort vs.length) ∧ s' = { s with heap := h6 })
   (Qkk (Nat.le_of_not_lt h2) (Xb hsz)) h64 (λ p' st' s' q0 q1 q2 q3 => ⟨by rw [q1, q3.1], q2, q3.2, by rw [<- q3.1]; exact q0⟩) ((Zhc (by lia)).wp (I := λ s' => s' = { s with heap := h6 }) (ans := ans) (λ i j C s' hi hj hs hC => by
    subst hs
    unfold kas_cmp
    rw [kas_item_eq, kas_item_eq]
    exact hc h6 keep i j C hi hj (hC _ rfl)) rfl λ s' hs => ⟨rfl, hs⟩)
  have est : kas_st κ (pairsOf vs) (List.toArray (List.range vs.length)) = SortSt.mk' κ (vs.toArray.zip vs.toArray) #[] 7 none := by
   unfold kas_st
   rw [hn, kas_range]; rfl
  rw [est] at K
  refine wpAny_mono K ?_ λ _ _ e => e
  rintro ⟨⟨⟩, st'⟩ s' ⟨hp, hf, rfl, hz⟩
  dsimp only
  have hout : (arrOf st').map (·.2) = (Za9 ans (kas_sort vs.length)).map λ i => vs.getD i .none := by
   have : arrOf st' = _ := hp
   rw [this, Array.map_map]
   congr 1
   funext i
   show (kas_item (pairsOf vs) i).2 = _
   rw [kas_item_eq]
  refine Qb (seqEpoch_at ho6 rfl ?_)
  refine Qb (listUpdate_at ho6 rfl ?_ (hsz2 := by
   rw [hout, Array.size_map, hz, sizeLine_eq]; lia))
  rw [hf]
  simp only [bne_self_eq_false, Bool.false_eq_true, if_false]
  rw [hout]
  exact Qp fin
end

section
variable {prog : Program} {w : World} {A : Around} {E : Value -> Shared -> Prop} {s : Shared}
theorem Zst {κ : SortKind} {ans : Nat -> Nat -> Bool} {l : Addr} {vs : List Value} {Q : Value -> Shared -> Prop} (hl : s.heap.IsList l vs.toArray) (h64 : vs.length < 64)
  (hT : 2 <= vs.length -> ∀ h' : Heap, (∀ b o, s.heap.get? b = some o -> h'.get? b = some o) -> ∀ Q : SortKind -> Shared -> Prop, Q κ { s with heap := h' } -> wpAny (model prog w) A.in1.in1 (keyKind' vs.toArray) Q E { s with heap := h' })
  (hc : ∀ h' : Heap, (∀ b o, s.heap.get? b = some o -> h'.get? b = some o) -> ∀ (i j : Nat) (C : Bool -> Shared -> Prop), i < vs.length -> j < vs.length -> C (ans i j) { s with heap := h' } ->
   wpAny (model prog w) A.in1.in1 (keyLt' κ (vs.getD i .none) (vs.getD j .none)) C (λ _ _ => False) { s with heap := h' })
  (h : Q (.ref (s.heap.objs.size + 1)) { s with heap := sortedAll s.heap vs ((Za9 ans (kas_sort vs.length)).map λ i => vs.getD i .none) }) :
  wpAny (model prog w) A (call (.builtin "sorted") [.ref l]) Q E s := by
 refine Calls.call_function_entry kind_sorted plain_sorted entry_sorted (args_sorted1 _) ?_
 unfold Builtin.«sorted»
 refine Qb (m := checkCount "sorted" 1 1 _) (Qp ?_)
 refine Qb (collect_list hl ?_)
 refine Qb (wpAny_newList ?_)
 have hsz : ((s.heap.push (seqObj "list" #[] 0)).update s.heap.objs.size (Obj.mapSeq (· ++ vs.toArray))).objs.size = s.heap.objs.size + 1 := by
  rw [Heap.size_update, size_push']
 have hoL : (((s.heap.push (seqObj "list" #[] 0)).update s.heap.objs.size (Obj.mapSeq (· ++ vs.toArray))).push (seqObj "list" vs.toArray 0)).get? (s.heap.objs.size + 1) = some (seqObj "list" vs.toArray 0) := by
  rw [<- hsz]; exact Qw _ rfl
 have keep : ∀ b o, s.heap.get? b = some o -> (((s.heap.push (seqObj "list" #[] 0)).update s.heap.objs.size (Obj.mapSeq (· ++ vs.toArray))).push (seqObj "list" vs.toArray 0)).get? b = some o := λ b o q => by
  have hlt : b < s.heap.objs.size := Qx q
  rw [Heap.get?_push_ne _ _ _ (by rw [hsz]; exact Nat.ne_of_lt (Nat.lt_succ_of_lt hlt)), Heap.get?_update_ne _ _ _ _ (Nat.ne_of_lt hlt), Heap.get?_push_ne _ _ _ (Nat.ne_of_lt hlt)]
  exact q
 have keep' : ∀ h' : Heap, (∀ b o, b ≠ s.heap.objs.size + 1 -> (((s.heap.push (seqObj "list" #[] 0)).update s.heap.objs.size (Obj.mapSeq (· ++ vs.toArray))).push (seqObj "list" vs.toArray 0)).get? b = some o -> h'.get? b = some o) -> ∀ b o, s.heap.get? b = some o -> h'.get? b = some o :=
  λ h' hk b o q => hk b o (Nat.ne_of_lt (Nat.lt_succ_of_lt (Qx q))) (keep b o q)
 show wpAny _ _ _ _ _ { s with heap := ((s.heap.push (seqObj "list" #[] 0)).update s.heap.objs.size (Obj.mapSeq (· ++ vs.toArray))).push (seqObj "list" vs.toArray 0) }
 rw [hsz]
 refine Qb (Qu (wpAny_call_entry slot_list_sort ⟨_, hoL, rfl⟩ entry_list_sort (Znk (ans := ans) hoL h64 (λ h2 h' hk => hT h2 h' (keep' h' hk)) (λ h' hk => hc h' (keep' h' hk)) ⟨_, rfl, ?_⟩) (args_list_sort _)))
 exact Qp ⟨_, rfl, h⟩
end
theorem Zvm {φ : List Addr} {h : Heap} {vs : List Value} {xs : List PV} (r : VRs φ h vs xs) (i : Nat) : VR φ h (vs.getD i .none) (xs.getD i .none) := by
 rw [Xc, Xc]
 cases e : xs[i]? with
 | some x =>
  obtain ⟨w, hw, hr⟩ := r.get e
  rw [hw]; exact hr
 | none =>
  have : vs[i]? = none := by
   rw [List.getElem?_eq_none_iff] at e ⊢
   rw [r.length]; exact e
  rw [this]; exact .none
theorem Zo0 {φ φ' : List Addr} {h h' : Heap} {vs : List Value} {xs : List PV} (r : VRs φ h vs xs) (hm : ∀ v x, VR φ h v x -> VR φ' h' v x) : ∀ is : List Nat, VRs φ' h' (is.map λ i => vs.getD i .none) (is.map λ i => xs.getD i .none)
 | [] => .nil
 | i :: is => .cons (hm _ _ (Zvm r i)) (Zo0 r hm is)
theorem Zri {α β : Type} {f : α -> Option β} : ∀ {xs : List α} {ys : List β}, Za2 f xs = some ys -> ∀ {i : Nat} {x : α}, xs[i]? = some x -> ∃ y, f x = some y ∧ ys[i]? = some y
 | [] => λ _ {_ _} hz => by cases hz
 | x :: xs => λ h {i z} hz => by
  rw [Zc3] at h
  cases e : f x with
  | none => rw [e] at h; cases h
  | some y =>
   rw [e] at h
   obtain ⟨zs, e2, rfl⟩ := Option.map_eq_some_iff.mp h
   cases i with
   | zero => cases hz; exact ⟨y, e, rfl⟩
   | succ i => exact Zri e2 hz
section
variable {c : Cx} {F : Fx}
theorem Zvn {φ : List Addr} {μ : St} {s : Shared} (R : Rep c F φ μ s) {h' : Heap} {tk : Nat} (keep : ∀ b o, s.heap.get? b = some o -> h'.get? b = some o) (size : s.heap.objs.size <= h'.objs.size) :
  Rep c F φ μ { s with heap := h', toks := tk } ∧ Ext F.nss F.cls φ s.heap φ h' ∧ (∀ w x, VR φ s.heap w x -> VR φ h' w x) := by
 have S : Side c F φ s.heap h' := ⟨size, λ a oa ha => .inl (keep a oa ha)⟩
 exact ⟨R.side S, Ext.refl.after size (λ a o ho => .inl (keep a o ho)) λ a _ ⟨o, ho⟩ => ⟨o, keep a o ho⟩, λ w x r => S.mv R r⟩
end

open PySem.AutoSeq1 (wpAny_loadPart')
open PySem.MeetsSeq
section
variable {c : Cx} {F : Fx}
end

section
variable {h h' : Heap} {a : Addr}
end
section
variable {prog : Program} {w : World} {A : Around} {s : Shared} {a : Addr}
end
theorem VR.un_tup {φ : List Addr} {h : Heap} {v : Value} {x : PV} (r : VR φ h v x) : ∀ {xs}, x = .tup xs -> ∃ a vs n, v = .ref a ∧ h.get? a = some { cls := .type "tuple", data := .seq (List.toArray vs) n } ∧ a ∉ φ ∧ VRs φ h vs xs := by
 induction r using VR.cs with
 | tup h1 h2 h3 => intro xs e; cases e; exact ⟨_, _, _, rfl, h1, h2, h3⟩
 | _ => intro xs e; cases e
section
variable {c : Cx} {F : Fx}
end

noncomputable def Cx.gn (c : Cx) (g : Array GenState) : Cx := { c with g0 := g }
section
variable {c : Cx} {F : Fx} {φ : List Addr} {μ : St} {s : Shared}
theorem OR.gn {c c' : Cx} (hp : c'.prog = c.prog) (hw : c'.w = c.w) {h : Heap} {a : Addr} {o : MO} (r : OR c φ h a o) : OR c' φ h a o := by
 cases r with
 | lst h1 h2 => exact .lst h1 h2
 | dct h1 h2 => exact .dct (by rw [hp, hw]; exact h1) h2
 | set h1 => exact .set (by rw [hp, hw]; exact h1)
 | ins h1 h2 => exact .ins h1 h2
 | ns h1 h2 => exact .ns h1 h2
 | slt h0 h1 h2 => exact .slt h0 h1 h2
 | itr h1 h2 => exact .itr h1 h2
 | dead h1 => exact .dead h1
theorem CxOk.gn (h : CxOk c) (g : Array GenState) : CxOk (c.gn g) := ⟨h.kin, h.glob, h.bui, h.nolimit, h.boot⟩
theorem Rep.gn (R : Rep c F φ μ s) {g : Array GenState} (h : ∀ (i : Nat) (x : GenState), g[i]? = some x -> s.gens[i]? = some x) : Rep (c.gn g) F φ μ s :=
 ⟨R.ok.gn g, R.keep, R.os, ⟨h, R.gens.2⟩, R.len, R.nodup, R.phiB, λ i a o h1 h2 => OR.gn (c := c) (c' := c.gn g) rfl rfl (R.objs i a o h1 h2), R.flen, R.lnodup, R.nss, R.cls, R.vloc, R.vcell, R.frm⟩
theorem Rep.ung {g : Array GenState} (R : Rep (c.gn g) F φ μ s) (ok : CxOk c) (h : ∀ (i : Nat) (x : GenState), c.g0[i]? = some x -> g[i]? = some x) : Rep c F φ μ s :=
 ⟨ok, R.keep, R.os, ⟨λ i x e => R.gens.1 i x (h i x e), R.gens.2⟩, R.len, R.nodup, R.phiB, λ i a o h1 h2 => OR.gn (c := c.gn g) (c' := c) rfl rfl (R.objs i a o h1 h2), R.flen, R.lnodup, R.nss, R.cls, R.vloc, R.vcell, R.frm⟩
theorem ExcR.gn {c c' : Cx} (hB : c'.B = c.B) {D : Addr -> Prop} {h : Heap} {e x : Value} (r : ExcR c D φ h e x) : ExcR c' D φ h e x := by
 refine ⟨?_⟩
 rw [hB]
 exact r.there
theorem Rep.setG (R : Rep c F φ μ s) {G : Array GenState} {tk : Nat} (h1 : ∀ (i : Nat) (x : GenState), c.g0[i]? = some x -> G[i]? = some x) (h2 : ∀ x ∈ G, x.bare = true) : Rep c F φ μ { s with gens := G, toks := tk } :=
 ⟨R.ok, R.keep, R.os, ⟨h1, h2⟩, R.len, R.nodup, R.phiB, R.objs, R.flen, R.lnodup, R.nss, R.cls, R.vloc, R.vcell, R.frm⟩
end
structure GnAt (c : Cx) (f : Addr) (fd : FuncData) (body : List Stmt) : Prop where
 at_ : ∃ oc od osl, c.K.lookup f = some ⟨oc, od, .func fd, osl⟩
 code : codeIn c.K fd.code fd.qualname = true
 body : fd.body = .stmts body
 clo : fd.closure = []
 co : fd.scope.isCoroutine = false
 gen : fd.scope.isGenerator = true
 kind : fd.scope.kind = .function
 nodup : (fd.scope.names.map (·.1)).Nodup
section
variable {c : Cx} {F : Fx}
theorem Zvo {f : Addr} {fd : FuncData} {body : List Stmt} {ks : List Str} {arr : List PV -> Option (List PV)} (lv : Nat) (hf : GnAt c f fd body) (hbd : Binds c fd ks arr) (hlv : lv + 1 <= F.lv)
  {vs : List Value} {xs ys : List PV} {A : Around} {φ : List Addr} {μ : St} {s : Shared} {R : Result -> Shared -> Prop} (hA : ACtx F A) (Rp : Rep c F φ μ s) (hv : VRs φ s.heap vs xs) (hys : arr xs = some ys)
  (hR : ∀ (L a : Addr) (G : Array GenState) (s' : Shared), Rep c F φ μ s' -> Ext F.nss F.cls φ s.heap φ s'.heap -> Rep c (Zaf fd L f F.frames lv) φ ⟨Zbs fd.scope.names ks ys, μ.hp⟩ s' -> (∀ b ∈ (Zaf fd L f F.frames lv).cls, s.heap.objs.size <= b) -> s.heap.objs.size <= L ->
   s.heap.objs.size <= a -> a ≠ L -> a ∉ (Zaf fd L f F.frames lv).cls -> s'.heap.IsGen a G.size -> s'.gens = G.push (.fresh (.func body (callEnvC fd L f))) -> (∀ (i : Nat) (x : GenState), c.g0[i]? = some x -> G[i]? = some x) -> R (.ok (.ret (.ref a))) s') :
  codeAny (model c.prog c.w) A (.call (.ref f) ⟨vs, []⟩) R s := by
 obtain ⟨oc, od, osl, hlk⟩ := hf.at_
 have X := Rp.inB
 have hdep : A.depth < recursionLimit := Qlb (Qfl hA.depth) rfl
 refine codeAny_call_generator hdep (X _ _ hlk) rfl hf.co hf.gen hf.body (codeRec_of X hf.code) ?_
 refine hbd.bind F φ μ s vs xs ys A.in1 _ _ Rp hv hys λ ws s1 RB xB kB hw => ?_
 rw [hf.clo]
 refine wpAny_newFunctionEnv_cells hf.kind (λ p hp => Zk8 (all_eq_true.mp hbd.own p.1 ?_) _) λ env he sC x => ?_
 ·exact (List.of_mem_zip hp).1
 subst he
 obtain ⟨RC, xC, RG⟩ := RB.enter hw hf.kind hf.nodup rfl x lv
 have hnl : sC.heap.NoLimit := RC.ok.nolimit.keeps RC.keep
 refine ⟨hnl, ?_⟩
 have hsz := x.toInCall.ns.lt
 have hcl : ∀ b ∈ (Zaf fd s1.heap.objs.size f F.frames lv).cls, s1.heap.objs.size <= b ∧ b < sC.heap.objs.size := λ b hb => by
  obtain ⟨p, hp, rfl⟩ := Qmm (show b ∈ (cellsFrom (s1.heap.objs.size + 1) fd.scope.names []).map (·.2) from hb)
  refine ⟨Zdr _ _ _ _ (Nat.le_succ _) (by simp) p hp, ?_⟩
  obtain ⟨_, _, v, o, ho, _⟩ := RG.cls _ hb
  exact Qx ho
 have gs : ∀ (i : Nat) (y : GenState), c.g0[i]? = some y -> (sC.gens.push (.fresh (.func body (callEnvC fd s1.heap.objs.size f))))[i]? = some y := λ i y h => by
  have := RC.gens.1 i y h
  rw [Array.getElem?_push, Qq (λ e => ?_)]
  ·exact this
  ·rw [e, Array.getElem?_eq_none Qr] at this; cases this
 have gb : ∀ y ∈ (sC.gens.push (.fresh (.func body (callEnvC fd s1.heap.objs.size f)))), y.bare = true := λ y h => by
  rcases Array.mem_push.mp h with h | rfl
  ·exact RC.gens.2 y h
  ·rfl
 obtain ⟨RD, xD⟩ := RC.push { cls := .type "generator", data := .fields #[.int sC.gens.size 0, .str fd.name sC.toks, .str fd.qualname (sC.toks + 1)] } (tk := sC.toks + 1 + 1)
 obtain ⟨RG3, _⟩ := RG.push { cls := .type "generator", data := .fields #[.int sC.gens.size 0, .str fd.name sC.toks, .str fd.qualname (sC.toks + 1)] } (tk := sC.toks + 1 + 1)
 refine hR s1.heap.objs.size sC.heap.objs.size sC.gens _ (RD.setG gs gb) (xB.trans (xC.trans xD)) (RG3.setG gs gb) (λ b hb => Qj xB.size (hcl b hb).1) xB.size (Qj xB.size xC.size) (λ e => ?_) (λ h => Q6 _ (hcl _ h).2) ⟨_, _, _, Qw _ rfl, rfl, rfl, rfl⟩ rfl RC.gens.1
 rw [e] at hsz
 exact Q6 _ hsz
end

theorem Zvp : entryFor table "proto.yield_from" = some Builtin.«proto.yield_from» := entryFor_of_fast (by kernel_rfl)
theorem Zqo {prog : Program} {w : World} {id : String} {args : Args} {b : Builtin} (hb : entryFor table id = some b) : (model prog w).den (.builtin id args) = b args := by
 show (match entryFor table id with | some b => b args | none => unsupported ((withoutEnding? id "#data").getD id)) = _
 rw [hb]theorem Zvq : typeLookup (.type "tuple_iterator") "close" = pure none := by rw [typeLookup_type, builtinLookup_eq_fast]; kernel_rfl
theorem Zo1 {M : Model} {A : Around} {E : Value -> Shared -> Prop} {s : Shared} {it : Addr} {o : Obj} {b : Bool} {Q : Unit -> Shared -> Prop} (ho : s.heap.get? it = some o) (hc : o.cls = .type "tuple_iterator") (h : Q () s) : wpAny M A (Builtin.Generator.sleptOver (.ref it) b) Q E s := by
 unfold Builtin.Generator.sleptOver
 refine Qb (wpAny_load ho ?_)
 rw [hc]
 exact Qp h
noncomputable def yfC (it : Addr) : Code := .builtin "proto.yield_from" ⟨[.ref it, .bool false, .none], []⟩
section
variable {prog : Program} {w : World} {A : Around} {R : GenEnd} {Y : Protocol} {n : Nat} {s0 s : Shared} {fs : List Frame}
theorem Zo2 {it t : Addr} {i : Nat} {items : Array Value} (hh : (A.over (yfC it) fs).handled = none) (hit : s.heap.IsTupleIter it t i) (ht : s.heap.IsTuple t items) (hfs : splitAtGen fs = none) (hfg : fs.any Frame.guarded = false)
  (hend : items[i]? = none -> ∀ h' tk, Heap.ExtBut it s.heap h' -> s.heap.objs.size <= h'.objs.size -> Seg (model prog w) A R Y (n + 1) s0 (yfC it) (.pure (.done (.ret .none))) fs { s with heap := h', toks := tk })
  (hitem : ∀ x, items[i]? = some x -> ∀ h', h'.IsTupleIter it t (i + 1) -> Heap.SameBut it s.heap h' -> ∀ kap : Resume -> Shared -> Prop, (∀ s'', (∃ o, s''.heap.get? it = some o ∧ o.cls = .type "tuple_iterator") -> Seg (model prog w) A R Y n s'' (yfC it) ((model prog w).den (yfC it)) fs s'' -> kap (.send .none) s'') ->
   Y n s0 x { s with heap := h' } kap) :
  Seg (model prog w) A R Y (n + 1) s0 (yfC it) ((model prog w).den (yfC it)) fs s := by
 unfold yfC at *
 rw [Zqo Zvp]
 unfold Builtin.«proto.yield_from»
 refine seg_bind (Qp ?_)
 dsimp only
 rw [Qq Qt, Qo (show ((Value.none == Value.none) = true) from rfl)]
 obtain ⟨o, ho, hc, hd⟩ := id hit
 obtain ⟨ol, hol, _, nl, hdl⟩ := id ht
 refine seg_bind (wpAny_attempt (Qu (Qb (wpAny_rule (Qb (wpAny_callSpecial?_slot (name := Str.ofString "__next__") hit.typeIs F.slot_tuple_iterator_next
  (wpAny_call_entry F.slot_tuple_iterator_next hit.typeIs F.entry_tuple_iterator_next ?_ (F.args_tuple_iterator_next_1 _))))))))
 show wpAny _ _ (field (.ref it) 0 >>= _) _ _ s
 refine Qb (wpAny_field ho hd (x := .ref t) rfl ?_)
 show wpAny _ _ (if (Value.ref t == Value.none) = true then _ else _) _ _ s
 rw [Qq (show ¬ ((Value.ref t == Value.none) = true) from Qt)]
 show wpAny _ _ (field (.ref it) 1 >>= _) _ _ s
 refine Qb (wpAny_field ho hd (x := .int i 0) rfl ?_)
 show wpAny _ _ (seqItems? (.ref t) >>= _) _ _ s
 refine Qb (wpAny_seqItems hol hdl ?_)
 rw [Int.toNat_natCast]
 dsimp only
 cases hx : items[i]? with
 | some x =>
  dsimp only
  refine Qb (wpAny_setField ho hd ?hlt (Qp ⟨x, rfl, Qp ?_⟩))
  case hlt => simp
  have hit' : (s.heap.update it (Obj.mapFields λ x => x.setIfInBounds 1 (rawInt (i + 1)))).IsTupleIter it t (i + 1) := ⟨_, Q1 _ ho (Obj.isFreed_of_fields (Obj.data_mapFields hd _)), (Obj.cls_mapFields ..).trans hc, by
   rw [Obj.data_mapFields hd]; simp [rawInt]⟩
  have h := hitem x hx _ hit' (Heap.SameBut.update ..)
  generalize s.heap.update it (Obj.mapFields λ x => x.setIfInBounds 1 (rawInt (i + 1))) = h' at hit' h ⊢
  obtain ⟨o', ho', hc', hd'⟩ := id hit'
  refine seg_bind (wpAny_typeOf ⟨o', ho', hc'⟩ ?_)
  dsimp only
  refine seg_bind (wpAny_of_eq Zvq ?_)
  refine seg_bind (Qp ?_)
  refine seg_bind (Zo1 ho' hc' ?_)
  rw [Sem.bind_eq_wrap']
  refine seg_yield hfs rfl hfg (h _ λ s'' hi hs => ?_)
  obtain ⟨o2, ho2, hc2⟩ := hi
  refine seg_bind (Zo1 ho2 hc2 ?_)
  dsimp only
  refine seg_bind (Qp ?_)
  exact seg_again (Code.quiet_builtin _ (by decide +kernel)) hs
 | none =>
  dsimp only
  refine Qb (wpAny_rule (Qb (wpAny_setField ho hd ?hlt ?_)))
  case hlt => simp
  show wpAny _ _ (newExc (.type "StopIteration") [] >>= _) _ _ _
  refine Qb ?_
  unfold newExc newTuple
  refine Qb (wpAny_newObj_type ?_ (by size_fits))
  refine Qb (m := firstArgMember _ _) (wpAny_of_eq (a := Value.none) (by first | rfl | (simp only [firstArgMember]; rfl)) ?_)
  refine wpAny_newObj_type ?_ (by size_fits)
  unfold raiseNew
  refine Qb (wpAny_handled ?_)
  rw [hh]
  refine Qb (Qp (wpAny_throw ?_))
  have he : ((((s.heap.update it (Obj.mapFields λ x => x.setIfInBounds 0 Value.none)).push { cls := .type "tuple", data := .seq #[] }).push { cls := .type "StopIteration", data := .fields #[.ref (s.heap.update it (Obj.mapFields λ x => x.setIfInBounds 0 Value.none)).objs.size, .none, .none, .none, .bool false, .none] }).get? ((s.heap.update it (Obj.mapFields λ x => x.setIfInBounds 0 Value.none)).push { cls := .type "tuple", data := .seq #[] }).objs.size) = some { cls := .type "StopIteration", data := .fields #[.ref (s.heap.update it (Obj.mapFields λ x => x.setIfInBounds 0 Value.none)).objs.size, .none, .none, .none, .bool false, .none] } := Qw _ rfl
  refine seg_bind ?_
  unfold Builtin.Generator.endsTheTurnAsAValue Builtin.Generator.isStopAndMetaclass
  refine Qb (Qb (wpAny_typeOf ⟨_, he, rfl⟩ ?_))
  dsimp only
  refine Qb (wpAny_of_eq isSubtype_stop ?_)
  refine Qb (wpAny_of_eq (show typeOf (.type "StopIteration") = pure (.type "type") by kernel_rfl) ?_)
  refine Qp ?_
  dsimp only
  rw [Qq Qt]
  refine Qp ?_
  rw [Qo rfl, Qq Qt]
  refine seg_bind (wpAny_rule ?_)
  refine seg_bind (wpAny_field he rfl (x := .none) rfl ?_)
  exact hend hx _ _ (((Heap.SameBut.update ..).extBut.push _).push _) (by rw [Xg, Xg, Heap.size_update]; exact Qj (Nat.le_succ _) (Nat.le_succ _))
end

section
variable {c : Cx} {F G : Fx} {φ φ' φ0 : List Addr} {μ μg μg' : St} {s s' : Shared} {h₀ : Heap}
structure Apart (F G : Fx) : Prop where
 nn : ∀ L ∈ F.nss, L ∉ G.nss
 nc : ∀ L ∈ F.nss, L ∉ G.cls
 cn : ∀ a ∈ F.cls, a ∉ G.nss
 cc : ∀ a ∈ F.cls, a ∉ G.cls
 fr : ∀ env ∈ F.frames, env ∈ G.frames ∨ ∃ L ∈ F.nss, env.frame = some L
theorem Rep.other (ap : Apart F G) (RF : Rep c F φ μ s) (RG : Rep c G φ μg s) (R' : Rep c G φ' μg' s') (x : Ext G.nss G.cls φ s.heap φ' s'.heap) : Rep c F φ' ⟨μ.fr, μg'.hp⟩ s' := by
 have stay : ∀ a o, s.heap.get? a = some o -> a ∉ φ -> a ∉ G.nss -> a ∉ G.cls -> ∃ sl, s'.heap.get? a = some { o with slots := sl } := λ a o ho hn h1 h2 => by
  rcases x.old a o ho hn h1 h2 with k | ⟨_, sl, k⟩
  ·exact ⟨o.slots, k⟩
  ·exact ⟨sl, k⟩
 have ns : ∀ {L m}, L ∉ φ -> L ∉ G.nss -> L ∉ G.cls -> s.heap.Ns L m -> s'.heap.Ns L m := λ {L m} hn h1 h2 q => by
  obtain ⟨o, es, ep, ho, hd, r⟩ := q
  obtain ⟨q, hq⟩ := stay L o ho hn h1 h2
  exact ⟨_, es, ep, hq, hd, r⟩
 have cl : ∀ {a v}, a ∉ φ -> a ∉ G.nss -> a ∉ G.cls -> s.heap.IsCell a v -> s'.heap.IsCell a v := λ {a v} hn h1 h2 q => by
  obtain ⟨o, ho, hd⟩ := q
  obtain ⟨q, hq⟩ := stay a o ho hn h1 h2
  exact ⟨_, hq, hd⟩
 refine ⟨R'.ok, R'.keep, R'.os, R'.gens, R'.len, R'.nodup, R'.phiB, R'.objs, RF.flen, RF.lnodup, λ L hL => ?_, λ a ha => ?_, λ k L y hk => ⟨(RF.vloc k L y hk).1, λ pv hp hu => ?_⟩, λ k a hk => ⟨(RF.vcell k a hk).1, λ pv hp hu => ?_⟩, λ env he => ?_⟩
 ·obtain ⟨h1, h2, m, hm⟩ := RF.nss L hL
  have hm' := hm
  obtain ⟨o, _, _, ho, _⟩ := hm'
  exact ⟨x.nin ho h1, h2, m, ns h1 (ap.nn L hL) (ap.nc L hL) hm⟩
 ·obtain ⟨h1, h2, v, hv⟩ := RF.cls a ha
  have hv' := hv
  obtain ⟨o, ho, _⟩ := hv'
  exact ⟨x.nin ho h1, h2, v, cl h1 (ap.cn a ha) (ap.cc a ha) hv⟩
 ·obtain ⟨hL, h2⟩ := RF.vloc k L y hk
  obtain ⟨m, v, hm, hx, hv⟩ := h2 pv hp hu
  exact ⟨m, v, ns (RF.nss L hL).1 (ap.nn L hL) (ap.nc L hL) hm, hx, hv.ext RG x⟩
 ·obtain ⟨ha, h2⟩ := RF.vcell k a hk
  obtain ⟨v, hv, hr⟩ := h2 pv hp hu
  exact ⟨v, cl (RF.cls a ha).1 (ap.cn a ha) (ap.cc a ha) hv, hr.ext RG x⟩
 ·rcases ap.fr env he with h | ⟨L, hL, e⟩
  ·exact R'.frm env h
  ·obtain ⟨k, _⟩ := RF.frm env he
   obtain ⟨h1, h2, m, hm⟩ := RF.nss L hL
   have hm' := ns h1 (ap.nn L hL) (ap.nc L hL) hm
   obtain ⟨o, _, _, ho, _⟩ := hm
   obtain ⟨o', es, ep, ho', hd', _⟩ := hm'
   exact ⟨k, L, e, x.nin ho h1, h2, o', es, ep, ho', hd'⟩
theorem Ext.under (x : Ext F.nss F.cls φ0 h₀ φ s.heap) (y : Ext G.nss G.cls φ s.heap φ' s'.heap) (hn : ∀ L ∈ G.nss, h₀.objs.size <= L) (hc : ∀ a ∈ G.cls, h₀.objs.size <= a) : Ext F.nss F.cls φ0 h₀ φ' s'.heap := by
 have big : ∀ {a o}, h₀.get? a = some o -> a ∉ G.nss ∧ a ∉ G.cls := λ {a o} ho => ⟨λ h => Qe (Qx ho) (Qi (hn a h)), λ h => Qe (Qx ho) (Qi (hc a h))⟩
 refine ⟨⟨?_, Qj x.size y.size, λ a o ho h1 h2 h3 => ?_⟩, λ a h => y.dom a (x.dom a h)⟩
 ·obtain ⟨ψ, e, hb⟩ := x.grow
  obtain ⟨ψ', e', hb'⟩ := y.grow
  refine ⟨ψ ++ ψ', by rw [e', e, append_assoc], λ b h => ?_⟩
  rcases Qma h with h | h
  ·exact hb b h
  ·exact Qj x.size (hb' b h)
 ·obtain ⟨b1, b2⟩ := big ho
  have nin := x.nin ho h1
  rcases x.old a o ho h1 h2 h3 with k | ⟨q, sl, k⟩
  ·exact y.old a o k nin b1 b2
  ·rcases y.old a _ k nin b1 b2 with k' | ⟨_, sl', k'⟩
   ·exact .inr ⟨q, sl, k'⟩
   ·exact .inr ⟨q, sl', k'⟩
theorem Ext.field (RG : Rep c G φ μg s) (y : Ext G.nss G.cls φ s.heap φ' s'.heap) {a : Addr} {o : Obj} (ho : s.heap.get? a = some o) (hn : a ∉ φ) (hd : ∃ vs, o.data = .fields vs) : s'.heap.get? a = some o ∧ a ∉ φ' := by
 have h := RG.notOwn ho (.inr hd)
 refine ⟨?_, y.nin ho hn⟩
 rcases y.old a o ho hn h.1 h.2 with k | ⟨⟨es, ep, e⟩, _⟩
 ·exact k
 ·obtain ⟨vs, e'⟩ := hd
  rw [e'] at e; cases e
theorem Sim.B {α β : Type} {P : List Addr -> Heap -> Prop} {RR : List Addr -> Heap -> α -> β -> Prop} {t : Sem α} {f : PM β} {A : Around} {Q : α -> Shared -> Prop} {E : Value -> Shared -> Prop} (h : ∀ g, Sim (c.gn g) F P RR t f) (hA : ACtx F A) (R : Rep c F φ μ s) (p : P φ s.heap) (hb : f μ ≠ .bad)
  (hE : ∀ e x φ' μ' s', f μ = .exc x μ' -> Rep c F φ' μ' s' -> Ext F.nss F.cls φ s.heap φ' s'.heap -> ExcR c (dom s.heap) φ' s'.heap e x -> (∀ (i : Nat) (y : GenState), s.gens[i]? = some y -> s'.gens[i]? = some y) -> E e s')
  (hQ : ∀ a b φ' μ' s', f μ = .ok b μ' -> Rep c F φ' μ' s' -> Ext F.nss F.cls φ s.heap φ' s'.heap -> RR φ' s'.heap a b -> (∀ (i : Nat) (y : GenState), s.gens[i]? = some y -> s'.gens[i]? = some y) -> Q a s') : wpAny (model c.prog c.w) A t Q E s :=
 h s.gens A φ μ s Q E hA (R.gn λ _ _ e => e) p hb (λ a b φ' μ' s' e R' x r => hQ a b φ' μ' s' e (R'.ung R.ok R.gens.1) x r R'.gens.1) λ e y φ' μ' s' he R' x r => hE e y φ' μ' s' he (R'.ung R.ok R.gens.1) x (ExcR.gn (c := c.gn s.gens) (c' := c) rfl r) R'.gens.1
end

set_option backward.eqns.nonrecursive false
noncomputable def swq {α : Type} (fg : List PV) (f : PM α) : PM (α × List PV) := λ μ => match f ⟨fg, μ.hp⟩ with
 | .ok a μ' => .ok (a, μ'.fr) ⟨μ.fr, μ'.hp⟩
 | _ => .bad
noncomputable def swp {α : Type} (m : Value -> Option Bool) (fg : List PV) (f : PM α) : PM (α × List PV) := λ μ => match f ⟨fg, μ.hp⟩ with
 | .ok a μ' => .ok (a, μ'.fr) ⟨μ.fr, μ'.hp⟩
 | .exc x μ' => (match m x with
  | some false => .exc x ⟨μ.fr, μ'.hp⟩
  | _ => .bad)
 | .bad => .bad
noncomputable def goOn (k : PM MF) : MF -> PM MF
 | .next => k
 | .cont => k
 | _ => PM.I
def Zfc (one : PV -> PM MF) (k : PM MF) : List PV -> PM MF
 | [] => k
 | x :: xs => one x >>= goOn (Zfc one k xs)
set_option backward.eqns.nonrecursive true
theorem Zrj {one : PV -> PM MF} {k : PM MF} {x : PV} {xs : List PV} : Zfc one k (x :: xs) = (one x >>= goOn (Zfc one k xs)) := rfl
theorem Zlm {α : Type} {fg : List PV} {f : PM α} {μ : St} (h : swq fg f μ ≠ .bad) : ∃ a fg' hp', f ⟨fg, μ.hp⟩ = .ok a ⟨fg', hp'⟩ ∧ swq fg f μ = .ok (a, fg') ⟨μ.fr, hp'⟩ := by
 unfold swq at h ⊢
 cases e : f ⟨fg, μ.hp⟩ with
 | ok a μ' => exact ⟨a, μ'.fr, μ'.hp, rfl, rfl⟩
 | exc x μ' => rw [e] at h; exact (h rfl).elim
 | bad => rw [e] at h; exact (h rfl).elim
structure Two (c : Cx) (F G : Fx) (φ0 : List Addr) (h₀ : Heap) (ga : Addr) (gi : Nat) (φ : List Addr) (μ : St) (fg : List PV) (s : Shared) : Prop where
 rf : Rep c F φ μ s
 rg : Rep c G φ ⟨fg, μ.hp⟩ s
 x : Ext F.nss F.cls φ0 h₀ φ s.heap
 isg : s.heap.IsGen ga gi
 nin : ga ∉ φ
structure TwoOk (F G : Fx) (h₀ : Heap) : Prop where
 fg : Apart F G
 gf : Apart G F
 nn : ∀ L ∈ G.nss, h₀.objs.size <= L
 cc : ∀ a ∈ G.cls, h₀.objs.size <= a
section
variable {c : Cx} {F G : Fx} {φ0 : List Addr} {h₀ : Heap} {ga : Addr} {gi : Nat} {φ : List Addr} {μ : St} {fg : List PV} {s : Shared} (K : TwoOk F G h₀)
theorem Zm7 {H : Fx} {μh : St} {φ' : List Addr} {s' : Shared} (R : Rep c H φ μh s) (x : Ext H.nss H.cls φ s.heap φ' s'.heap) (i : s.heap.IsGen ga gi) (n : ga ∉ φ) : s'.heap.IsGen ga gi ∧ ga ∉ φ' := by
 obtain ⟨o, nm, qn, ho, h1, h2, h3⟩ := i
 obtain ⟨k1, k2⟩ := x.field R ho n ⟨_, h2⟩
 exact ⟨⟨o, nm, qn, k1, h1, h2, h3⟩, k2⟩
include K
theorem Two.gen (T : Two c F G φ0 h₀ ga gi φ μ fg s) {φ' : List Addr} {fg' : List PV} {hp' : List MO} {s' : Shared} (R' : Rep c G φ' ⟨fg', hp'⟩ s') (x : Ext G.nss G.cls φ s.heap φ' s'.heap) : Two c F G φ0 h₀ ga gi φ' ⟨μ.fr, hp'⟩ fg' s' := by
 obtain ⟨k1, k2⟩ := Zm7 T.rg x T.isg T.nin
 exact ⟨Rep.other K.fg T.rf T.rg R' x, R', T.x.under x K.nn K.cc, k1, k2⟩
theorem Two.con (T : Two c F G φ0 h₀ ga gi φ μ fg s) {φ' : List Addr} {μ' : St} {s' : Shared} (R' : Rep c F φ' μ' s') (x : Ext F.nss F.cls φ s.heap φ' s'.heap) : Two c F G φ0 h₀ ga gi φ' μ' fg s' := by
 obtain ⟨k1, k2⟩ := Zm7 T.rf x T.isg T.nin
 exact ⟨R', Rep.other K.gf T.rg T.rf R' x, T.x.trans x, k1, k2⟩
omit K in
theorem Two.turn (T : Two c F G φ0 h₀ ga gi φ μ fg s) {it : Addr} {o : Obj} {h' : Heap} {tk : Nat} (ho : s.heap.get? it = some o) (hz : ¬ FzO o) (hd : ∃ vs, o.data = .fields vs) (hn : it ∉ φ) (hb : c.B.get? it = none) (hnew : h₀.objs.size <= it) (hg : o.cls ≠ .type "generator") (hs : Heap.ExtBut it s.heap h') (size : s.heap.objs.size <= h'.objs.size) :
  Two c F G φ0 h₀ ga gi φ μ fg { s with heap := h', toks := tk } ∧ ∀ v y, VR φ s.heap v y -> VR φ h' v y := by
 have S := Side.extBut (c := c) (F := F) (s := s) ho hz hd hn hb hs size
 have S' := Side.extBut (c := c) (F := G) (s := s) ho hz hd hn hb hs size
 have hne : ga ≠ it := λ e => by
  obtain ⟨o', _, _, ho', hc, _⟩ := T.isg
  rw [e, ho] at ho'
  cases ho'
  exact hg hc
 refine ⟨⟨T.rf.side S, T.rg.side S', T.x.after size (λ a oa ha => ?_) (λ a hd ⟨o, ho⟩ => ?_), T.isg.extBut hs hne, T.nin⟩, λ v y r => S.mv T.rf r⟩
 ·by_cases e : a = it
  ·exact .inr (.inr λ ⟨oq, hq⟩ => Qe (Qx hq) (Qi (e ▸ hnew)))
  ·exact .inl (hs a oa e ha)
 ·by_cases e : a = it
  ·obtain ⟨oq, hq⟩ := hd
   exact Qe (Qx hq) (Qi (e ▸ hnew))
  ·exact ⟨o, hs a o e ho⟩
end

def Rp (c : Cx) (F G : Fx) (φ0 : List Addr) (h₀ : Heap) (ga : Addr) (gi : Nat) (m : Value -> Option Bool) (O : Out MF) : GenEnd := λ _ _ r s1 =>
 (r = .ok (.ret .none) ∧ ∃ φ μ fg, Two c F G φ0 h₀ ga gi φ μ fg s1 ∧ s1.gens[gi]? = some .running ∧ O = .ok .next μ) ∨
 ∃ e x φ μ, r = .error e ∧ Rep c F φ μ s1 ∧ Ext F.nss F.cls φ0 h₀ φ s1.heap ∧ ExcR c (dom h₀) φ s1.heap e x ∧ s1.heap.IsGen ga gi ∧ s1.gens[gi]? = some .running ∧ O = .exc x μ ∧ m x = some false
def Yp (c : Cx) (F G : Fx) (φ0 : List Addr) (h₀ : Heap) (ga : Addr) (gi : Nat) (one : PV -> PM MF) (O : Out MF) : Protocol := λ j _ v s' kap => (∃ i, j = i + 1) ∧
 ∃ φ μ fg x k, Two c F G φ0 h₀ ga gi φ μ fg s' ∧ s'.gens[gi]? = some .running ∧ VR φ s'.heap v x ∧ (one x >>= goOn k) μ = O ∧
  ∀ fl μ2, one x μ = .ok fl μ2 -> fl = .next ∨ fl = .cont -> ∀ φC sC, Two c F G φ0 h₀ ga gi φC μ2 fg sC -> Ext F.nss F.cls φ s'.heap φC sC.heap -> sC.gens[gi]? = some .running -> kap (.send .none) sC
section
variable {mS : Value -> Option Bool} {c : Cx} {F G : Fx} {φ0 : List Addr} {h₀ : Heap} {ga : Addr} {gi : Nat} {O : Out MF} {one : PV -> PM MF} {A : Around}theorem Zvr {φ : List Addr} {h : Heap} {vs : List Value} (r : VRs φ h vs []) : vs = [] := List.length_eq_zero_iff.mp r.length
theorem Zvs {φ : List Addr} {h : Heap} {vs : List Value} {x : PV} {xs : List PV} (r : VRs φ h vs (x :: xs)) : ∃ v ws, vs = v :: ws ∧ VR φ h v x ∧ VRs φ h ws xs := by
 cases r with
 | cons a b => exact ⟨_, _, rfl, a, b⟩
structure Dg (φ : List Addr) (s : Shared) (it ta : Addr) (i : Nat) (items : List Value) (xs : List PV) : Prop where
 ti : s.heap.IsTupleIter it ta i
 n : it ∉ φ
 tt : ∃ m, s.heap.get? ta = some { cls := .type "tuple", data := .seq items.toArray m }
 m : ta ∉ φ
 v : VRs φ s.heap (items.drop i) xs
theorem Zo3 {ι : Type} {fs : ι -> List Frame} (hit : ∀ (it : Addr) (p : ι), (A.over (yfC it) (fs p)).handled = none) (hfs : ∀ p, splitAtGen (fs p) = none) (hfg : ∀ p, (fs p).any Frame.guarded = false) {K : PM MF} {fg : List PV}
  (hK : ∀ μ, K μ = O -> ∃ n, ∀ p φ s s0 it, Two c F G φ0 h₀ ga gi φ μ fg s -> s.gens[gi]? = some .running -> Seg (model c.prog c.w) A (Rp c F G φ0 h₀ ga gi mS O) (Yp c F G φ0 h₀ ga gi one O) (n + 1) s0 (yfC it) (.pure (.done (.ret .none))) (fs p) s) :
  ∀ (xs : List PV) (μ : St), Zfc one K xs μ = O -> O ≠ .bad -> ∃ n, ∀ p φ s s0 it ta i items, Two c F G φ0 h₀ ga gi φ μ fg s -> s.gens[gi]? = some .running -> Dg φ s it ta i items xs -> h₀.objs.size <= it -> c.B.get? it = none ->
   Seg (model c.prog c.w) A (Rp c F G φ0 h₀ ga gi mS O) (Yp c F G φ0 h₀ ga gi one O) (n + 1) s0 (yfC it) ((model c.prog c.w).den (yfC it)) (fs p) s
 | [] => λ μ e hb => by
  obtain ⟨n, hn⟩ := hK μ e
  refine ⟨n, λ p φ s s0 it ta i items T hg D hnew hB => ?_⟩
  obtain ⟨o, ho, hc, hd⟩ := id D.ti
  obtain ⟨m, hm⟩ := D.tt
  have e0 := Zvr D.v
  refine Zo2 (items := items.toArray) (hit it p) D.ti ⟨_, hm, rfl, _, rfl⟩ (hfs p) (hfg p) (λ _ h' tk hs size => ?_) λ x hx => ?_
  ·have := (T.turn (tk := tk) ho (Zdq hc (by decide) (by decide) (by decide) (by decide) (by decide)) ⟨_, hd⟩ D.n hB hnew (by rw [hc]; decide) hs size).1
   exact hn p φ _ s0 it this hg
  ·have : items[i]? = some x := by simpa using hx
   have hl := (Qgl this)
   rw [List.drop_eq_nil_iff] at e0
   exact Qe hl (Qi e0)
 | x :: xs => λ μ e hb => by
  rw [Zrj] at e
  have key : ∃ n, ∀ fl μ2, one x μ = .ok fl μ2 -> fl = .next ∨ fl = .cont -> ∀ p φ s s0 it ta i items, Two c F G φ0 h₀ ga gi φ μ2 fg s -> s.gens[gi]? = some .running -> Dg φ s it ta i items xs -> h₀.objs.size <= it -> c.B.get? it = none ->
   Seg (model c.prog c.w) A (Rp c F G φ0 h₀ ga gi mS O) (Yp c F G φ0 h₀ ga gi one O) (n + 1) s0 (yfC it) ((model c.prog c.w).den (yfC it)) (fs p) s := by
   cases h1 : one x μ with
   | ok fl μ2 =>
    rw [PM.H h1] at e
    by_cases hfl : fl = .next ∨ fl = .cont
    ·have e' : Zfc one K xs μ2 = O := by rcases hfl with rfl | rfl <;> exact e
     obtain ⟨n, hn⟩ := Zo3 hit hfs hfg hK xs μ2 e' hb
     exact ⟨n, λ fl' μ' q _ => by cases q; exact hn⟩
    ·exact ⟨0, λ fl' μ' q h => by cases q; exact Qe h hfl⟩
   | exc y μ' => exact ⟨0, λ fl' μ' q => nomatch q⟩
   | bad => exact ⟨0, λ fl' μ' q => nomatch q⟩
  obtain ⟨n, hn⟩ := key
  refine ⟨n + 1, λ p φ s s0 it ta i items T hg D hnew hB => ?_⟩
  obtain ⟨o, ho, hc, hd⟩ := id D.ti
  obtain ⟨m, hm⟩ := D.tt
  obtain ⟨v, ws, e0, r1, r2⟩ := Zvs D.v
  have hv : items[i]? = some v := by
   have : (items.drop i)[0]? = some v := by rw [e0]; rfl
   rw [List.getElem?_drop] at this
   simpa using this
  have hd1 : items.drop (i + 1) = ws := by
   rw [<- List.drop_drop, e0]; rfl
  refine Zo2 (items := items.toArray) (hit it p) D.ti ⟨_, hm, rfl, _, rfl⟩ (hfs p) (hfg p) (λ hx => ?_) λ w hx h' hit' hs kap hkap => ?_
  ·have : items[i]? = none := by simpa using hx
   rw [hv] at this; cases this
  ·have : items[i]? = some w := by simpa using hx
   rw [hv] at this
   cases this
   obtain ⟨T', mv⟩ := T.turn (tk := s.toks) ho (Zdq hc (by decide) (by decide) (by decide) (by decide) (by decide)) ⟨_, hd⟩ D.n hB hnew (by rw [hc]; decide) hs.extBut (Xb hs.1.symm)
   have hta : h'.get? ta = some { cls := .type "tuple", data := .seq items.toArray m } := by
    refine hs.extBut ta _ (λ q => ?_) hm
    rw [q, ho] at hm
    cases hm
    exact Qe (Value.type.inj hc) (by decide)
   refine ⟨⟨n, rfl⟩, φ, μ, fg, x, Zfc one K xs, T', hg, mv _ _ r1, e, λ fl μ2 e1 hfl φC sC TC xC hgC => ?_⟩
   obtain ⟨o2, ho2, hc2, hd2⟩ := id hit'
   obtain ⟨k1, k2⟩ := xC.field T'.rf ho2 D.n ⟨_, hd2⟩
   refine hkap sC ⟨_, k1, hc2⟩ (hn fl μ2 e1 hfl p φC sC _ it ta (i + 1) items TC hgC ⟨⟨_, k1, hc2, hd2⟩, k2, ⟨m, ?_⟩, xC.nin hta D.m, ?_⟩ hnew hB)
   ·have hown := T'.rf.notOwn hta (.inl ⟨_, _, rfl⟩)
    rcases xC.old ta _ hta D.m hown.1 hown.2 with k | ⟨⟨es, ep, q⟩, _⟩
    ·exact k
    ·cases q
   ·rw [hd1]
    exact (r2.mv mv).ext T'.rf xC
end

set_option backward.eqns.nonrecursive false
noncomputable def Zfm (k : PM MF) : MF -> PM MF
 | .next => k
 | _ => PM.I
def genE (one : PV -> PM MF) (g2 : PM MF) (k : List PV -> PM MF) (y : PV × List PV) : PM MF := match y.1 with
 | .tup xs => Zfc one (swq y.2 g2 >>= λ r => Zfm (k r.2) r.1) xs
 | _ => PM.I
def genT (one : PV -> PM MF) (g1 : PM MF) (ge : PM PV) (g2 : PM MF) (k : List PV -> PM MF) (p : Bool × List PV) : PM MF := match p.1 with
 | false => pure .next
 | true => swq p.2 g1 >>= λ q => Zfm (swq q.2 ge >>= genE one g2 k) q.1
def Zfw (one : PV -> PM MF) (t : PM Bool) (g1 : PM MF) (ge : PM PV) (g2 : PM MF) : Nat -> List PV -> PM MF
 | 0, _ => PM.I
 | n + 1, fg => swq fg t >>= genT one g1 ge g2 (Zfw one t g1 ge g2 n)
set_option backward.eqns.nonrecursive true
section
variable {mS : Value -> Option Bool} {c : Cx} {F G : Fx} {φ0 : List Addr} {h₀ : Heap} {ga : Addr} {gi : Nat} {O : Out MF} {one : PV -> PM MF} {A : Around}
set_option backward.eqns.nonrecursive false
noncomputable def kY (e : Expr) (ypos pos : Pos) (K : Flow -> Sem Fin) (H : Value -> Sem Fin) : Result -> Sem Fin := λ r =>
 ((match r with | .ok f => (.pure f : Sem Flow) | .error e => .raise e).bind λ f => match f with | .ret v => (pure v : Sem Value) | _ => unsupported "internal:call-without-return-value").wrap (λ a => Sem.wrap K H id id (dropValue (e.YieldFrom ypos) pos a)) (λ e => Sem.wrap K H id id (Sem.raise e)) (λ g => id (id g)) λ l => id (id l)
theorem Zyu {prog : Program} {w : World} {R : GenEnd} {Y : Protocol} {n : Nat} {s0 s : Shared} {cd : Code} {fs : List Frame} {env : Env} {K : Flow -> Sem Fin} {H : Value -> Sem Fin} {e : Expr} {ypos pos : Pos} (hi : interactive env = false)
  (h : wpAny (model prog w) (A.over cd fs) (eval e env) (λ v s' => ∃ ta items m, v = .ref ta ∧ s'.heap.get? ta = some { cls := .type "tuple", data := .seq items m } ∧
   ∀ p, Seg (model prog w) A R Y n s0 (yfC s'.heap.objs.size) ((model prog w).den (yfC s'.heap.objs.size)) (.ret (kY e ypos pos K H) none false [] cd p [] :: fs) { s' with heap := s'.heap.push { cls := .type "tuple_iterator", data := .fields #[.ref ta, .int 0 0] } }) (λ e s' => False) s) :
  Seg (model prog w) A R Y n s0 cd ((exec (.Expr (.YieldFrom e ypos) pos) env).wrap K H id id) fs s := by
 rw [exec_Expr env _ pos hi rfl]
 show Seg _ A R Y n s0 cd (.at pos λ _ => (eval (.YieldFrom e ypos) env >>= λ x => dropValue (.YieldFrom e ypos) pos x).wrap K H id id) fs s
 refine seg_at ?_
 rw [arm_eval_YieldFrom, Sem.bind_eq_wrap', Sem.bind_eq_wrap', Sem.wrap_wrap, Sem.wrap_wrap]
 refine seg_wrap (wpAny_mono h (λ v s' h' => ?_) λ _ _ x => x.elim)
 refine seg_at ?_
 obtain ⟨ta, items, m, rfl, hta, hs⟩ := h'
 show Seg _ A R Y n s0 cd (Sem.wrap _ _ _ _ (yieldFrom env (.ref ta))) fs s'
 unfold yieldFrom
 rw [Sem.bind_eq_wrap', Sem.wrap_wrap]
 refine seg_wrap (wpAny_typeOf ⟨_, hta, rfl⟩ ?_)
 rw [Qq (by decide)]
 rw [Sem.bind_eq_wrap', Sem.wrap_wrap]
 refine seg_wrap (Qu (wpAny_pyIter_tuple ⟨_, hta, rfl, _, rfl⟩ ?_))
 exact seg_call hs
theorem Zyv {e : Expr} {ypos pos : Pos} {K : Flow -> Sem Fin} {H : Value -> Sem Fin} : kY e ypos pos K H (.ok (.ret .none)) = K .next := rfl
theorem Zo4 (TK : TwoOk F G h₀) {R : GenEnd} {Y : Protocol} {n : Nat} {s0 s : Shared} {cd : Code} {fs : List Frame} {K : Flow -> Sem Fin} {H : Value -> Sem Fin} {gd : Bool -> Bool} {lv : List Value -> List Value} {st : Stmt} {gm : PM MF} (hst : ∀ g, Zaz (c.gn g) G st gm) (hA : ACtx G (A.over cd fs))
  {φ : List Addr} {μ : St} {fg fg' : List PV} {hp' : List MO} (T : Two c F G φ0 h₀ ga gi φ μ fg s) (hg : s.gens[gi]? = some .running) (e : gm ⟨fg, μ.hp⟩ = .ok .next ⟨fg', hp'⟩)
  (h : ∀ φ' s', Two c F G φ0 h₀ ga gi φ' ⟨μ.fr, hp'⟩ fg' s' -> s'.gens[gi]? = some .running -> Seg (model c.prog c.w) A R Y n s0 cd (K .next) fs s') :
  Seg (model c.prog c.w) A R Y n s0 cd ((exec st G.env).wrap K H gd lv) fs s :=
 seg_wrap (Sim.B hst hA T.rg trivial (by rw [e]; exact λ q => nomatch q) (λ x y φ' μ' s' he => by rw [e] at he; cases he) λ a b φ' μ' s' eb R' x r hk => by
  rw [e] at eb
  cases eb
  cases r
  exact h _ _ (T.gen TK R' x) (hk gi _ hg))noncomputable def Zbk (st1 st2 : Stmt) (e : Expr) (ypos epos : Pos) : List Stmt := [st1, .Expr (.YieldFrom e ypos) epos, st2]
noncomputable def wK (cd : Code) : Flow -> Sem Fin := λ f => match f with
 | .next | .cont => .pure (.again cd)
 | .brk => .pure (.done .next)
 | .ret v => .pure (.done (.ret v))noncomputable def wH (env : Env) : Value -> Sem Fin := λ e => (do noteFrame e env; theTreesLotGoes e : Sem Unit).wrap (λ _ => .raise e) .raise id id
def wKK (cd : Code) (st2 : Stmt) (env : Env) : Flow -> Sem Fin := λ f => match f with
 | .next => (execs [st2] env).wrap (wK cd) (wH env) id id
 | f => wK cd f
theorem Two.push {φ : List Addr} {μ : St} {fg : List PV} {s : Shared} (T : Two c F G φ0 h₀ ga gi φ μ fg s) (o : Obj) : Two c F G φ0 h₀ ga gi φ μ fg { s with heap := s.heap.push o } :=
 have q := T.rf.push o (tk := s.toks)
 ⟨q.1, (T.rg.push o (tk := s.toks)).1, T.x.trans q.2, T.isg.push o, T.nin⟩
theorem Zqp {a : Expr} {b d : List Stmt} {env : Env} : (Code.whileLoop a b d env).quiet = true := by
 simp [Code.quiet, Thread.loud, Thread.atCollectorCode, Thread.yieldsInsideHandler]
theorem Zo5 (TK : TwoOk F G h₀) {test e : Expr} {st1 st2 : Stmt} {ypos epos : Pos} {t : PM Bool} {g1 g2 : PM MF} {ge : PM PV} (hi : interactive G.env = false) (ht : ∀ g, Zer (c.gn g) G test t) (h1 : ∀ g, Zaz (c.gn g) G st1 g1) (he : ∀ g, Zk (c.gn g) G e ge) (h2 : ∀ g, Zaz (c.gn g) G st2 g2)
  {ι : Type} {fs : ι -> List Frame} (hfs : ∀ p, splitAtGen (fs p) = none) (hfg : ∀ p, (fs p).any Frame.guarded = false) (hA : ∀ p, ACtx G (A.over (.whileLoop test (Zbk st1 st2 e ypos epos) [] G.env) (fs p))) (hit : ∀ (it : Addr) k cd p' p, (A.over (yfC it) (.ret k none false [] cd p' [] :: fs p)).handled = none)
  (hend : ∀ μ, O = .ok .next μ -> ∀ p φ fg s s0 n, Two c F G φ0 h₀ ga gi φ μ fg s -> s.gens[gi]? = some .running -> Seg (model c.prog c.w) A (Rp c F G φ0 h₀ ga gi mS O) (Yp c F G φ0 h₀ ga gi one O) (n + 1) s0 (.whileLoop test (Zbk st1 st2 e ypos epos) [] G.env) (.pure (.done .next)) (fs p) s) :
  ∀ (m : Nat) (fg : List PV) (μ : St), Zfw one t g1 ge g2 m fg μ = O -> O ≠ .bad -> ∃ n, ∀ p φ s s0, Two c F G φ0 h₀ ga gi φ μ fg s -> s.gens[gi]? = some .running ->
   Seg (model c.prog c.w) A (Rp c F G φ0 h₀ ga gi mS O) (Yp c F G φ0 h₀ ga gi one O) (n + 1) s0 (.whileLoop test (Zbk st1 st2 e ypos epos) [] G.env) ((model c.prog c.w).den (.whileLoop test (Zbk st1 st2 e ypos epos) [] G.env)) (fs p) s
 | 0 => λ fg μ eo hb => Qe eo.symm hb
 | m + 1 => λ fg μ eo hb => by
  have hfs' : ∀ q : Pos × ι, splitAtGen (Frame.ret (kY e ypos epos (wKK (.whileLoop test (Zbk st1 st2 e ypos epos) [] G.env) st2 G.env) (wH G.env)) none false [] (.whileLoop test (Zbk st1 st2 e ypos epos) [] G.env) q.1 [] :: fs q.2) = none := λ q => by
   unfold splitAtGen
   simp [hfs q.2]
  have hfg' : ∀ q : Pos × ι, (Frame.ret (kY e ypos epos (wKK (.whileLoop test (Zbk st1 st2 e ypos epos) [] G.env) st2 G.env) (wH G.env)) none false [] (.whileLoop test (Zbk st1 st2 e ypos epos) [] G.env) q.1 [] :: fs q.2).any Frame.guarded = false := λ q => by
   rw [any_cons, hfg q.2]; rfl
  have eo : (swq fg t >>= genT one g1 ge g2 (Zfw one t g1 ge g2 m)) μ = O := eo
  obtain ⟨b, fg1, hp1, e1, e2⟩ := Zlm (λ q => hb (by rw [<- eo, PM.B, q]))
  rw [PM.H e2] at eo
  cases b with
  | false =>
   refine ⟨0, λ p φ s s0 T hg => ?_⟩
   refine seg_whileLoop (Sim.B ht (hA p) T.rg trivial (by rw [e1]; exact λ q => nomatch q) (λ x y φ' μ' s' he => by rw [e1] at he; cases he) λ a b φ' μ' s' eb R' x r hk => ?_)
   rw [e1] at eb
   cases eb
   subst r
   rw [Qq Qt]
   exact seg_execs_nil (hend _ eo.symm p φ' fg1 s' s0 0 (T.gen TK R' x) (hk gi _ hg))
  | true =>
   have eo : (swq fg1 g1 >>= λ q => Zfm (swq q.2 ge >>= genE one g2 (Zfw one t g1 ge g2 m)) q.1) ⟨μ.fr, hp1⟩ = O := eo
   obtain ⟨f2, fg2, hp2, e3, e4⟩ := Zlm (λ q => hb (by rw [<- eo, PM.B, q]))
   rw [PM.H e4] at eo
   cases f2 with
   | next =>
    have eo : (swq fg2 ge >>= genE one g2 (Zfw one t g1 ge g2 m)) ⟨μ.fr, hp2⟩ = O := eo
    obtain ⟨y, fg3, hp3, e5, e6⟩ := Zlm (λ q => hb (by rw [<- eo, PM.B, q]))
    rw [PM.H e6] at eo
    cases y with
    | tup xs =>
     have eo : Zfc one (swq fg3 g2 >>= λ r => Zfm (Zfw one t g1 ge g2 m r.2) r.1) xs ⟨μ.fr, hp3⟩ = O := eo
     obtain ⟨n, hn⟩ := Zo3 (G := G) (ι := Pos × ι) (fs := λ q => .ret (kY e ypos epos (wKK (.whileLoop test (Zbk st1 st2 e ypos epos) [] G.env) st2 G.env) (wH G.env)) none false [] (.whileLoop test (Zbk st1 st2 e ypos epos) [] G.env) q.1 [] :: fs q.2) (λ it q => hit it _ _ q.1 q.2) (λ q => hfs' q) (λ q => hfg' q) (λ μ' ek => by
      obtain ⟨f4, fg4, hp4, e7, e8⟩ := Zlm (λ q => hb (by rw [<- ek, PM.B, q]))
      rw [PM.H e8] at ek
      cases f4 with
      | next =>
       obtain ⟨n, hn⟩ := Zo5 TK hi ht h1 he h2 hfs hfg hA hit hend m fg4 ⟨μ'.fr, hp4⟩ ek hb
       refine ⟨n, λ q φ s s0 it T hg => seg_leaf (.ok (.ret .none)) ?_⟩
       rw [Zyv]
       show Seg _ _ _ _ _ _ _ ((execs [st2] G.env).wrap _ _ _ _) _ _
       refine seg_execs_cons (Zo4 TK h2 (hA q.2) T hg e7 λ φ' s' T' hg' => ?_)
       refine seg_execs_nil (seg_again Zqp (hn q.2 φ' s' s0 T' hg'))
      | _ => exact Qe ek.symm hb) xs ⟨μ.fr, hp3⟩ eo hb
     refine ⟨n, λ p φ s s0 T hg => ?_⟩
     refine seg_whileLoop (Sim.B ht (hA p) T.rg trivial (by rw [e1]; exact λ q => nomatch q) (λ x y φ' μ' s' he => by rw [e1] at he; cases he) λ a b φ' μ' s' eb R' x r hk => ?_)
     rw [e1] at eb
     cases eb
     subst r
     rw [Qo rfl]
     refine seg_execs_cons (Zo4 TK h1 (hA p) (T.gen TK R' x) (hk gi _ hg) e3 λ φ2 s2 T2 hg2 => ?_)
     refine seg_execs_cons (Zyu hi (Sim.B he (hA p) T2.rg trivial (by rw [e5]; exact λ q => nomatch q) (λ x y φ' μ' s' he => by rw [e5] at he; cases he) λ v y φ3 μ3 s3 eb R3 x3 r3 hk3 => ?_))
     rw [e5] at eb
     cases eb
     have T3 := T2.gen TK R3 x3
     obtain ⟨ta, vs, k, rfl, hta, hm, hvs⟩ := r3.un_tup rfl
     refine ⟨ta, vs.toArray, k, rfl, hta, λ p' => ?_⟩
     have ab := T3.rf.above (a := s3.heap.objs.size) Qr
     have q := T3.rf.push { cls := .type "tuple_iterator", data := .fields #[.ref ta, .int 0 0] } (tk := s3.toks)
     exact hn (p', p) φ3 _ s0 _ ta 0 vs (T3.push _) (hk3 gi _ hg2) ⟨⟨_, Qw _ rfl, rfl, rfl⟩, ab.1, ⟨k, Qy _ hta⟩, hm, hvs.ext T3.rf q.2⟩ T3.x.size ab.2
    | _ => exact Qe eo.symm hb
   | _ => exact Qe eo.symm hb
end

section
variable {mS : Value -> Option Bool} {c : Cx} {F G : Fx} {φ0 : List Addr} {h₀ : Heap} {ga : Addr} {gi : Nat} {O : Out MF} {one : PV -> PM MF} {A : Around}
set_option backward.eqns.nonrecursive false
noncomputable def fK : Flow -> Sem Fin := λ f => .pure (.done (.ret (match f with | .ret v => v | _ => .none)))noncomputable def fH (env : Env) : Value -> Sem Fin := λ e => (leaving env e).wrap (λ _ => .raise e) .raise id id
def fKK (env : Env) : Flow -> Sem Fin := λ f => match f with
 | .next => (execs [] env).wrap fK (fH env) id id
 | f => fK f
def fR (env : Env) : Result -> Sem Fin := λ r => ((match r with | .ok f => (.pure f : Sem Flow) | .error e => .raise e).onRaise λ (x : Value) => do
    if (<- field x 1) == Value.none then unsupported "frame.own-activation:exception-without-traceback"
    setFlight x env.frame).wrap (fKK env) (fH env) id id
theorem Zxg {env : Env} : fR env (.ok .next) = fK .next := rfl
theorem Zxh {outer : List Env} (hfr : G.frames = G.env :: outer) (TK : TwoOk F G h₀) {test e : Expr} {st0 st1 st2 : Stmt} {ypos epos wpos : Pos} {t : PM Bool} {g0 g1 g2 : PM MF} {ge : PM PV} (hi : interactive G.env = false) (ht : ∀ g, Zer (c.gn g) G test t) (h0 : ∀ g, Zaz (c.gn g) G st0 g0) (h1 : ∀ g, Zaz (c.gn g) G st1 g1) (he : ∀ g, Zk (c.gn g) G e ge) (h2 : ∀ g, Zaz (c.gn g) G st2 g2)
  (hA0 : ACtx G (A.over (.func [st0, .While test (Zbk st1 st2 e ypos epos) [] wpos] G.env) []))
  (hA : ∀ k p, ACtx G (A.over (.whileLoop test (Zbk st1 st2 e ypos epos) [] G.env) [.ret k none false [] (.func [st0, .While test (Zbk st1 st2 e ypos epos) [] wpos] G.env) p []])) (hit : ∀ (it : Addr) k cd p' k' cd' p, (A.over (yfC it) [.ret k none false [] cd p' [], .ret k' none false [] cd' p []]).handled = none)
  {m : Nat} {fg : List PV} {μ : St} (eo : (swp mS fg g0 >>= λ q => Zfm (Zfw one t g1 ge g2 m q.2) q.1) μ = O) (hb : O ≠ .bad) :
  ∃ n, ∀ φ s s0, Two c F G φ0 h₀ ga gi φ μ fg s -> s.gens[gi]? = some .running -> Seg (model c.prog c.w) A (Rp c F G φ0 h₀ ga gi mS O) (Yp c F G φ0 h₀ ga gi one O) (n + 1) s0 (.func [st0, .While test (Zbk st1 st2 e ypos epos) [] wpos] G.env) ((model c.prog c.w).den (.func [st0, .While test (Zbk st1 st2 e ypos epos) [] wpos] G.env)) [] s := by
 have key : g0 ⟨fg, μ.hp⟩ ≠ .bad := λ q => hb (by rw [<- eo, PM.B]; unfold swp; rw [q])
 cases e0 : g0 ⟨fg, μ.hp⟩ with
 | bad => exact Qe e0 key
 | exc x μ' =>
  obtain ⟨eO, em⟩ : O = .exc x ⟨μ.fr, μ'.hp⟩ ∧ mS x = some false := by
   rw [PM.B] at eo
   unfold swp at eo
   rw [e0] at eo
   dsimp only at eo
   cases hm : mS x with
   | none => rw [hm] at eo; exact Qe eo.symm hb
   | some b =>
    rw [hm] at eo
    cases b with
    | true => exact Qe eo.symm hb
    | false => exact ⟨eo.symm, rfl⟩
  refine ⟨0, λ φ s s0 T hg => seg_func (seg_execs_cons (seg_wrap (Sim.B h0 hA0 T.rg trivial key (λ x' y φ' μ'' s' he' R' xx r hk => ?_) λ a b φ' μ'' s' eb => ?_)))⟩
  ·rw [e0] at he'
   cases he'
   refine seg_wrap ?_
   unfold leaving
   refine Qb (Zhp hA0 R' hfr r (λ h₁ NB TB => ?_) xx.dom)
   refine Zeg (s := { s' with heap := h₁ }) (R'.side (tk := s'.toks) NB.side) TB λ h₂ NC TC => ?_
   have RG2 := (R'.side (tk := s'.toks) NB.side).side (tk := s'.toks) NC.side
   have xG := NC.ext (λ _ q => q) (NB.ext (λ _ q => q) xx)
   have T' := T.gen TK RG2 xG
   exact seg_end (.error _) (.inr ⟨_, _, φ', ⟨μ.fr, μ'.hp⟩, rfl, T'.rf, T'.x, TC.r.le λ a q => T.x.dom a q, T'.isg, hk gi _ hg, eO, em⟩)
  ·rw [e0] at eb; cases eb
 | ok f0 μ' =>
  have eo : Zfm (Zfw one t g1 ge g2 m μ'.fr) f0 ⟨μ.fr, μ'.hp⟩ = O := by
   rw [<- eo, PM.B]; unfold swp; rw [e0]
  cases f0 with
  | next =>
   have eo : Zfw one t g1 ge g2 m μ'.fr ⟨μ.fr, μ'.hp⟩ = O := eo
   obtain ⟨n, hn⟩ := Zo5 (G := G) TK (ι := Pos) (fs := λ p => [.ret (fR G.env) none false [] (.func [st0, .While test (Zbk st1 st2 e ypos epos) [] wpos] G.env) p []]) hi ht h1 he h2 (λ p => by unfold splitAtGen; rfl) (λ p => rfl) (λ p => hA _ p) (λ it k cd p' p => hit it k cd p' _ _ p) (λ μ1 e1 p φ fg s s0 n T hg => by
    refine seg_leaf (.ok .next) ?_
    rw [Zxg]
    exact seg_end (.ok (.ret .none)) (.inl ⟨rfl, φ, μ1, fg, T, hg, e1⟩)) m μ'.fr ⟨μ.fr, μ'.hp⟩ eo hb
   refine ⟨n, λ φ s s0 T hg => seg_func (seg_execs_cons (Zo4 TK h0 hA0 T hg e0 λ φ' s' T' hg' => ?_))⟩
   refine seg_execs_cons (seg_While λ p => ?_)
   exact hn p φ' s' s0 T' hg'
  | _ => exact Qe eo.symm hb
end

section
variable {mS : Value -> Option Bool} {c : Cx} {F G : Fx} {φ0 : List Addr} {h₀ : Heap} {ga : Addr} {gi : Nat} {O : Out MF} {one : PV -> PM MF} {A : Around}
theorem Zxi {M : Model} {s : Shared} {α : Type} {J : PUnit -> Sem α} {g : GenStatus} {r : Sem PUnit} {Q : α -> Shared -> Prop} {E : Value -> Shared -> Prop} (hg : g = .fresh ∨ g = .suspended) (h : wpAny M A (r >>= J) Q E s) : wpAny M A (match g with | .fresh => r >>= J | .suspended => r >>= J | _ => J ⟨⟩) Q E s := by
 rcases hg with rfl | rfl <;> exact h
theorem Zvt {φ : List Addr} {μ : St} {s : Shared} {n : Nat} {gs : GenState} {Q : Option Value -> Shared -> Prop} {E : Value -> Shared -> Prop} (hh : A.handled = none) (hroom : A.depth < recursionLimit) (CS : CatchAt c (.type "StopIteration") mS) (R : Rep c F φ μ s) (hg : s.heap.IsGen ga gi) (hgs : s.gens[gi]? = some gs)
  (hgo : gs.Goes (model c.prog c.w) A.in1 (Rp c F G φ0 h₀ ga gi mS O) (Yp c F G φ0 h₀ ga gi one O) n (.send .none) (s.setGen gi .running))
  (hend : ∀ φ μ fg s1 h', Two c F G φ0 h₀ ga gi φ μ fg s1 -> s1.gens[gi]? = some .running -> O = .ok .next μ -> (∀ b o, s1.heap.get? b = some o -> h'.get? b = some o) -> s1.heap.objs.size <= h'.objs.size -> Q none { s1.setGen gi .finished with heap := h' })
  (hexc : ∀ e x φ μ s1, Rep c F φ μ s1 -> Ext F.nss F.cls φ0 h₀ φ s1.heap -> ExcR c (dom h₀) φ s1.heap e x -> s1.gens[gi]? = some .running -> O = .exc x μ -> E e (s1.setGen gi .finished))
  (hyield : ∀ m v s1 gs', n = m + 1 -> gs'.bare = true -> Yp c F G φ0 h₀ ga gi one O m (s.setGen gi .running) v s1 (λ r' s'' => gs'.Goes (model c.prog c.w) A.in1 (Rp c F G φ0 h₀ ga gi mS O) (Yp c F G φ0 h₀ ga gi one O) m r' s'') -> Q (some v) (s1.setGen gi gs')) :
  wpAny (model c.prog c.w) A (pyNext (.ref ga)) Q E s := by
 unfold pyNext
 refine Qb (wpAny_attempt (wpAny_callSpecial?_slot (name := Str.ofString "__next__") hg.typeIs slot_gen_next
  (wpAny_call_entry slot_gen_next hg.typeIs entry_gen_next ?_ (args_gen_next _))))
 show wpAny _ _ (Builtin.Generator.genWake (.ref ga) (.send .none)) _ _ s
 unfold Builtin.Generator.genWake
 refine Qb (Qu (wpAny_genNumber hg (Qb (wpAny_genState hgs ?_))))
 have hl : s.heap.NoLimit := R.ok.nolimit.keeps R.keep
 refine Zxi (g := gs.status) ?_ ?_
 ·cases gs with
  | running => exact hgo.elim
  | finished => exact hgo.elim
  | fresh => exact .inl rfl
  | suspended => exact .inr rfl
 ·
  refine Qb (wpAny_roomToWake hl hroom ?_)
  show wpAny _ _ (.resume gi (.send .none) [] _) _ _ s
  refine wpAny_resumeQ hgs hgo (λ x s1 hx => ?_) (λ v s1 gs' hb hv => ?_)
  ·rcases hx with ⟨rfl, φ', μ', fg, T, hg', eO⟩ | ⟨e, x, φ', μ', rfl, R', x', r', ig, hg', eO, em⟩
   ·show wpAny _ _ (newExc (.type "StopIteration") [] >>= _) _ _ _
    refine Qb ?_
    unfold newExc newTuple
    refine Qb (wpAny_newObj_type ?_ (by size_fits))
    refine Qb (m := firstArgMember _ _) (wpAny_of_eq (a := Value.none) (by first | rfl | (simp only [firstArgMember]; rfl)) ?_)
    refine wpAny_newObj_type ?_ (by size_fits)
    unfold raiseNew
    refine Qb (Qb (wpAny_handled ?_))
    first | rw [show A.in1.handled = none from hh] | rw [hh]
    refine wpAny_throw ?_
    refine Qb (wpAny_isInstance (T := "StopIteration") (b := true) ⟨_, Qw _ rfl, rfl⟩ isSubtype_stop ?_)
    exact Qp (hend φ' μ' fg s1 _ T hg' eO (λ b o hb => Qy _ (Qy _ hb)) (by rw [Xg, Xg]; exact Qj (Nat.le_succ _) (Nat.le_succ _)))
   ·obtain ⟨ea, oe, vs, rfl, h2, h3, hz, h4, _⟩ := r'.there
    obtain ⟨o, nm, qn, ho, hc, hd, hsl⟩ := ig
    have L : Looks (model c.prog c.w) s1.heap (isSubtype x (.type "StopIteration")) false := CS.sub x false em s1.heap R'.inB
    have inst : ∀ {A : Around} {Q : Bool -> Shared -> Prop} {E : Value -> Shared -> Prop}, Q false (s1.setGen gi .finished) -> wpAny (model c.prog c.w) A (isInstance (.ref ea) (.type "StopIteration")) Q E (s1.setGen gi .finished) := λ {A Q E} q => by
     unfold isInstance
     refine Qb ?_
     simp only [typeOf]
     refine Qb (wpAny_load (s := s1.setGen gi .finished) h2 (Qp ?_))
     rw [h3]
     exact L A Q E _ (λ _ _ e => e) q
    show wpAny _ _ (Builtin.Generator.genLeft (.ref ga) (.ref ea)) _ _ (s1.setGen gi .finished)
    unfold Builtin.Generator.genLeft Builtin.Generator.madeByALambda
    refine Qb (Qb (wpAny_load (s := s1.setGen gi .finished) ho (Qp ?_)))
    rw [hd]
    refine Qb (inst ?_)
    rw [Qq (by simp)]
    unfold Builtin.Generator.genEscaped
    refine Qb (inst ?_)
    refine Qb (wpAny_throw ?_)
    refine Qb (inst ?_)
    rw [Qq Qt]
    exact wpAny_throw (hexc _ x φ' μ' s1 R' x' r' hg' eO)
  ·cases n with
   | zero =>
    obtain ⟨⟨i, hi⟩, _⟩ := hv
    cases hi
   | succ m => exact Qp ⟨v, rfl, Qp (hyield m v s1 gs' rfl hb hv)⟩
end

section
variable {mS : Value -> Option Bool} {c : Cx} {F G : Fx} {φ0 : List Addr} {h₀ : Heap} {ga : Addr} {gi : Nat} {O : Out MF} {A : Around}def Zev (asg : PV -> PM Unit) (bm : PM MF) (x : PV) : PM MF := asg x >>= λ _ => bm
structure Hd (c : Cx) (F G : Fx) (φ0 : List Addr) (h₀ : Heap) (ga : Addr) (gi : Nat) (mS : Value -> Option Bool) (one : PV -> PM MF) (O : Out MF) (A : Around) (n : Nat) (s : Shared) : Prop where
 ex : ∃ φ μ gs, Rep c F φ μ s ∧ s.heap.IsGen ga gi ∧ s.gens[gi]? = some gs ∧ gs.Goes (model c.prog c.w) A.in1 (Rp c F G φ0 h₀ ga gi mS O) (Yp c F G φ0 h₀ ga gi one O) n (.send .none) (s.setGen gi .running)
theorem Zxj {R : Array GenState} {gi : Nat} {y : GenState} (hb : ∀ x ∈ R, x.bare = true) (hy : y.bare = true) : ∀ x ∈ R.setIfInBounds gi y, x.bare = true := λ x h => by
 obtain ⟨i, hi, rfl⟩ := Array.getElem_of_mem h
 rw [Array.getElem_setIfInBounds (by simpa using hi)]
 split
 ·exact hy
 ·exact hb _ (Array.getElem_mem _)
theorem Rep.setGen {φ : List Addr} {μ : St} {s : Shared} {H : Fx} (R : Rep c H φ μ s) (hgi : c.g0.size <= gi) {y : GenState} (hy : y.bare = true) : Rep c H φ μ (s.setGen gi y) :=
 R.setG (tk := s.toks) (λ i x h => by
  have hi : i < c.g0.size := by
   apply Nat.lt_of_not_le
   intro q
   rw [Array.getElem?_eq_none q] at h; cases h
  show (s.gens.setIfInBounds gi y)[i]? = _
  rw [Array.getElem?_setIfInBounds_ne (by lia)]
  exact R.gens.1 i x h) (Zxj R.gens.2 hy)
theorem Two.setGen {φ : List Addr} {μ : St} {fg : List PV} {s : Shared} (T : Two c F G φ0 h₀ ga gi φ μ fg s) (hgi : c.g0.size <= gi) {y : GenState} (hy : y.bare = true) : Two c F G φ0 h₀ ga gi φ μ fg (s.setGen gi y) :=
 ⟨T.rf.setGen hgi hy, T.rg.setGen hgi hy, T.x, T.isg, T.nin⟩
theorem Zhy {s : Shared} {y z : GenState} (h : s.gens[gi]? = some z) : (s.setGen gi y).gens[gi]? = some y := by
 show (s.gens.setIfInBounds gi y)[gi]? = _
 obtain ⟨hi, _⟩ := Array.getElem?_eq_some_iff.mp h
 rw [Array.getElem?_setIfInBounds_self_of_lt hi]
theorem Zqq {target : Expr} {body : List Stmt} {outer : List Env} {asg : PV -> PM Unit} {bm : PM MF} (TK : TwoOk F G h₀) (hfr : F.frames = F.env :: outer) (hh : F.hd = true) (CS : CatchAt c (.type "StopIteration") mS) (hgi : c.g0.size <= gi)
  (hasg : ∀ g w x, Sim (c.gn g) F (λ φ h => VR φ h w x) (λ _ _ _ _ => True) (assign target F.env w) (asg x)) (hbody : ∀ g, Zbx (c.gn g) F body bm)
  (hlet : ∀ w (A : Around) (s : Shared) (Q : Unit -> Shared -> Prop) (E : Value -> Shared -> Prop), s.heap.IsGen ga gi -> Q () s -> wpAny (model c.prog c.w) A (letOwnedTupleGo target (.ref ga) w) Q E s)
  (hA : ACtx F A) {s0 : Shared} (e0 : s0.heap = h₀) {n : Nat} {s : Shared} {Q : Flow -> Shared -> Prop} {E : Value -> Shared -> Prop} (H : Hd c F G φ0 h₀ ga gi mS (Zev asg bm) O A n s) (hb : O ≠ .bad) (hQ : OkK c F FR φ0 s0 Q O) (hE : ExK c F φ0 s0 E O) :
  codeAny (model c.prog c.w) A (.forLoop target (.ref ga) body [] F.env) (λ r s' => match r with | .ok f => Q f s' | .error e => cameBackBy (model c.prog c.w) A F.env E e s') s := by
 subst e0
 refine codeAny_forLoop_any (λ m s' => Hd c F G φ0 s0.heap ga gi mS (Zev asg bm) O A m s') ?_ n H
 rintro n s1 ⟨φ, μ, gs, R, ig, hgs, hgo⟩
 have hroom : A.depth < recursionLimit := Qlb (Qfl hA.depth) rfl
 have exc : ∀ e y φ' μ' s', O = .exc y μ' -> Rep c F φ' μ' s' -> Ext F.nss F.cls φ0 s0.heap φ' s'.heap -> ExcR c (dom s0.heap) φ' s'.heap e y -> notedBy (model c.prog c.w) A F.env (λ e s' => cameBackBy (model c.prog c.w) A F.env E e s') e s' :=
  λ e y φ' μ' s' ho R' x' r => Zkq hA hfr R' r x' λ s'' R'' x'' r'' => hE e y φ' μ' s'' ho R'' x'' r''
 refine Zvt (G := G) (hA.handled hh) hroom CS R ig hgs hgo (λ φ μ fg sC h' T hg eO keep size => ?_) (λ e x φ μ sC RC xC r hg eO => ?_) λ m v sC gs' en hbare hy => ?_
 ·refine wpAny_execs_nil ?_
  have RB := T.rf.setGen hgi (y := .finished) rfl
  have S : Side c F φ sC.heap h' := ⟨size, λ a o h => .inl (keep a o h)⟩
  have x : Ext F.nss F.cls φ0 s0.heap φ h' := T.x.after size (λ a o ho => .inl (keep a o ho)) λ a hd ⟨o, ho⟩ => ⟨o, keep a o ho⟩
  exact hQ _ _ φ μ _ eO (RB.side (tk := sC.toks) S) x .next
 ·exact exc _ _ φ μ _ eO (RC.setGen hgi rfl) xC r
 ·obtain ⟨_, φ1, μ1, fg, x, k, T, hg, r, eO, kk⟩ := hy
  have T' := T.setGen hgi hbare
  have hg' := Zhy (y := gs') hg
  refine hlet v A _ _ _ T'.isg ?_
  have eO : (asg x >>= λ _ => bm >>= goOn k) μ1 = O := by
   rw [<- eO]
   show _ = ((asg x >>= λ _ => bm) >>= goOn k) μ1
   rw [PM.B, PM.B, PM.B]
   cases asg x μ1 <;> rfl
  have ha : asg x μ1 ≠ .bad := λ q => hb (by rw [<- eO, PM.B, q])
  refine Sim.B (hasg · v x) hA T'.rf r ha (λ e y φ' μ' s' he R' x' r' hk => exc e y φ' μ' s' (by rw [<- eO, PM.B, he]) R' (T'.x.trans x') (r'.le T'.x.dom)) λ a b φC μ2 sD eb RC xC _ hk => ?_
  rw [PM.H eb] at eO
  have hbm : bm μ2 ≠ .bad := λ q => hb (by rw [<- eO, PM.B, q])
  refine Sim.B hbody hA RC trivial hbm (λ e y φ' μ' s' he R' x' r' hk => exc e y φ' μ' s' (by rw [<- eO, PM.B, he]) R' ((T'.x.trans xC).trans x') (r'.le (T'.x.trans xC).dom)) λ f b φD μD s4 eb2 RD xD rD hk2 => ?_
  rw [PM.H eb2] at eO
  have x23 := xC.trans xD
  have TD := T'.con TK RD x23
  have hg4 := hk2 gi _ (hk gi _ hg')
  have one : Zev asg bm x μ1 = .ok b μD := by
   unfold Zev
   rw [PM.H eb, eb2]
  have go : b = .next ∨ b = .cont -> ∃ m', m' < n ∧ Hd c F G φ0 s0.heap ga gi mS (Zev asg bm) O A m' s4 := λ hb' => by
   refine ⟨m, by lia, φD, μD, gs', RD, TD.isg, hg4, ?_⟩
   exact kk b μD one hb' φD _ (TD.setGen hgi rfl) x23 (Zhy hg4)
  induction rD using FR.cs with
  | next => exact go (.inl rfl)
  | cont => exact go (.inr rfl)
  | brk => exact Qe eO.symm hb
  | ret r => exact Qe eO.symm hb
end

set_option backward.eqns.nonrecursive false
def genRun (mS : Value -> Option Bool) (g0 : PM MF) (t : PM Bool) (g1 : PM MF) (ge : PM PV) (g2 : PM MF) (one : PV -> PM MF) (n : Nat) : Option (List PV) -> PM MF
 | some fg => swp mS fg g0 >>= λ q => Zfm (Zfw one t g1 ge g2 n q.2) q.1
 | none => PM.I
set_option backward.eqns.nonrecursive true
def Zjx (C : Addr) (name : Str) (mS : Value -> Option Bool) (frm : List PV -> Option (List PV)) (fo : PM PV) (g0 : PM MF) (t : PM Bool) (g1 : PM MF) (ge : PM PV) (g2 : PM MF) (asg : PV -> PM Unit) (bm : PM MF) (n : Nat) : PM MF :=
 fo >>= λ x => Zd0 C name x >>= λ _ => genRun mS g0 t g1 ge g2 (Zev asg bm) n (frm [x])
section
variable {mS : Value -> Option Bool} {c : Cx} {F : Fx}
theorem Zub {fd : FuncData} {L f : Addr} {lv : Nat} {φ : List Addr} {μ : St} {s : Shared} (R : Rep c F φ μ s) (hL : s.heap.objs.size <= L) (hc : ∀ b ∈ (Zaf fd L f F.frames lv).cls, s.heap.objs.size <= b) (hfr : ∃ outer, F.frames = F.env :: outer) (hown : ∀ env ∈ F.frames, True) : TwoOk F (Zaf fd L f F.frames lv) s.heap := by
 have hN : ∀ a ∈ F.nss, a < s.heap.objs.size := λ a ha => by
  obtain ⟨_, _, m, o, es, ep, ho, _⟩ := R.nss a ha
  exact Qx ho
 have hC : ∀ a ∈ F.cls, a < s.heap.objs.size := λ a ha => by
  obtain ⟨_, _, v, o, ho, _⟩ := R.cls a ha
  exact Qx ho
 have gL : ∀ a ∈ (Zaf fd L f F.frames lv).nss, a = L := λ a ha => by simpa [Zaf] using ha
 refine ⟨⟨λ a ha h => ?_, λ a ha h => ?_, λ a ha h => ?_, λ a ha h => ?_, λ env he => .inl (Qv _ he)⟩, ⟨λ a ha h => ?_, λ a ha h => ?_, λ a ha h => ?_, λ a ha h => ?_, λ env he => ?_⟩, λ a ha => by rw [gL a ha]; exact hL, hc⟩
 ·exact Qe (hN a ha) (Qi (gL a h ▸ hL))
 ·exact Qe (hN a ha) (Qi (hc a h))
 ·exact Qe (hC a ha) (Qi (gL a h ▸ hL))
 ·exact Qe (hC a ha) (Qi (hc a h))
 ·exact Qe (hN a h) (Qi (gL a ha ▸ hL))
 ·exact Qe (hC a h) (Qi (gL a ha ▸ hL))
 ·exact Qe (hN a h) (Qi (hc a ha))
 ·exact Qe (hC a h) (Qi (hc a ha))
 ·rcases Qmc (show env ∈ callEnvC fd L f :: F.frames from he) with rfl | he
  ·exact .inr ⟨L, by simp [Zaf], rfl⟩
  ·exact .inl he
theorem Zvu {fd : FuncData} {L f : Addr} {lv : Nat} {A : Around} {body : List Stmt} (hA : ACtx F A) (hh : F.hd = true) (hlv : lv + 1 <= F.lv) : ACtx (Zaf fd L f F.frames lv) (A.in1.over (.func body (callEnvC fd L f)) []) := by
 have h1 := hA.handled hh
 have h2 := hA.depth
 have h3 := hA.units
 refine ⟨λ _ => ?_, ?_, ?_, ?_, ?_⟩
 ·show (marksOver [] (A.handled, A.handled)).1 = none
  rw [h1]; rfl
 ·have e : A.in1.frames = some F.frames := hA.frames
  unfold Around.over
  dsimp only
  rw [e]; rfl
 ·have e : A.in1.guards = some [] := hA.guards
  unfold Around.over
  dsimp only
  rw [e]; rfl
 ·exact dpt h2 hlv
 ·exact unt 4 h3 hlv rfl
theorem Zuc {fd : FuncData} {L f : Addr} {lv : Nat} {A : Around} {body b : List Stmt} {t : Expr} {k : Result -> Sem Fin} {p : Pos} (hA : ACtx F A) (hh : F.hd = true) (hlv : lv + 1 <= F.lv) : ACtx (Zaf fd L f F.frames lv) (A.in1.over (.whileLoop t b [] (callEnvC fd L f)) [.ret k none false [] (.func body (callEnvC fd L f)) p []]) := by
 have h1 := hA.handled hh
 have h2 := hA.depth
 have h3 := hA.units
 refine ⟨λ _ => ?_, ?_, ?_, ?_, ?_⟩
 ·show (marksOver _ (A.handled, A.handled)).1 = none
  rw [h1]; rfl
 ·have e : A.in1.frames = some F.frames := hA.frames
  unfold Around.over
  dsimp only
  rw [e]; rfl
 ·have e : A.in1.guards = some [] := hA.guards
  unfold Around.over
  dsimp only
  rw [e]; rfl
 ·exact dpt h2 hlv
 ·exact unt 4 h3 hlv rfl
theorem Zsu {outer : List Env} {C f : Addr} {fd : FuncData} {name : Str} {o : Expr} {apos pos fpos wpos ypos epos : Pos} {target test e : Expr} {st0 st1 st2 : Stmt} {body : List Stmt} {ks : List Str} {arr frm : List PV -> Option (List PV)} {lv : Nat}
  {fo : PM PV} {g0 g1 g2 : PM MF} {t : PM Bool} {ge : PM PV} {asg : PV -> PM Unit} {bm : PM MF} (hfr : F.frames = F.env :: outer) (hh : F.hd = true) (n : Nat) (hM : MethAt c C name f) (hf : GnAt c f fd [st0, .While test (Zbk st1 st2 e ypos epos) [] wpos]) (hbd : Binds c fd ks arr)
  (hfrm : ∀ xs fr, frm xs = some fr -> ∃ ys, arr xs = some ys ∧ fr = Zbs fd.scope.names ks ys) (hlv : lv + 1 <= F.lv) (hbase : attributeBase o name F.env (eval o F.env) = eval o F.env) (hpos : (apos.endLine == pos.line) = true) (ho : Zk c F o fo) (CS : CatchAt c (.type "StopIteration") mS)
  (hi : ∀ L, interactive (callEnvC fd L f) = false) (ht : ∀ L outer g, Zer (c.gn g) (Zaf fd L f outer lv) test t) (h0 : ∀ L outer g, Zaz (c.gn g) (Zaf fd L f outer lv) st0 g0) (h1 : ∀ L outer g, Zaz (c.gn g) (Zaf fd L f outer lv) st1 g1) (he : ∀ L outer g, Zk (c.gn g) (Zaf fd L f outer lv) e ge) (h2 : ∀ L outer g, Zaz (c.gn g) (Zaf fd L f outer lv) st2 g2)
  (hasg : ∀ g w x, Sim (c.gn g) F (λ φ h => VR φ h w x) (λ _ _ _ _ => True) (assign target F.env w) (asg x)) (hbody : ∀ g, Zbx (c.gn g) F body bm) (hlet : ∀ it w, letOwnedTupleGo target it w = pure ()) (hs : ∀ x, foldedSetIterable (.Call (.Attribute o name apos) [] [] pos) F.env x = pure x) :
  Zaz c F (.For target (.Call (.Attribute o name apos) [] [] pos) body [] fpos) (Zjx C name mS frm fo g0 t g1 ge g2 asg bm n) := by
 intro A φ μ s Q E hA R p hb hQ hE
 unfold Zjx at hb hQ hE
 refine wpAny_For ?_ hs
 rw [arm_eval_Call, hbase]
 refine Qb (ho.use hA R p hb hE λ v x φ1 μ1 s1 eg RB xB rB => ?_)
 rw [eg] at hb hQ hE
 refine Qb (wpAny_standAt ?_)
 unfold methodCall
 have hp : methodCallPos true o F.env apos pos = pure pos := by unfold methodCallPos; simp [hpos]
 have hform : methodCallForm (([] : List Expr).length + ([] : List Keyword).length) (backTo pos (starEach [] F.env)) (backToKw pos (keywordEach [] F.env)) = true := rfl
 rw [hform]
 refine Qb (Qu ((Zii hM).use hA RB rB hb (λ e y φ' μ' s' he R' x' r => hE e y φ' μ' s' he R' (xB.trans x') (r.le xB.dom)) λ pr _ φC μ2 sC eg RC xC rC => ?_))
 rw [eg] at hb hQ hE
 obtain ⟨rfl, rC⟩ := rC
 refine Qb (wpAny_of_eq hp ?_)
 show wpAny _ _ (callWith pos (.ref f) [v] (backTo pos (starEach [] F.env)) []) _ _ _
 obtain ⟨oc, od, osl, hlk⟩ := hf.at_
 refine callWith_of (P := λ h => c.K.In h) rfl (λ h X => ⟨.frame, .inl rfl, (Looks.ld (part := none) (X _ _ hlk)).andThen .now⟩) (PySem.evalArgs_none ⟨RC.inB, ?_⟩)
 generalize hO : genRun mS g0 t g1 ge g2 (Zev asg bm) n (frm [x]) μ2 = O at hb hQ hE
 cases hfm : frm [x] with
 | none => rw [hfm] at hO; exact Qe hO.symm hb
 | some fg =>
  rw [hfm] at hO
  obtain ⟨ys, hys, rfl⟩ := hfrm _ _ hfm
  refine wpAny_call (Zvo lv hf hbd hlv hA RC (.cons rC .nil) hys λ L a G sD RD xD RG3 hcl hL ha haL hac ig eG hG => ?_)
  refine wpAny_pyIter_gen ig ?_
  have x12 := xB.trans xC
  have TK : TwoOk F (Zaf fd L f F.frames lv) s.heap := Zub R (Qj x12.size hL) (λ b hb => Qj x12.size (hcl b hb)) ⟨_, hfr⟩ λ _ _ => trivial
  have na : a ∉ φC := λ h => Qe (RC.phiLt h) (Qi ha)
  have T : Two c F (Zaf fd L f F.frames lv) φ s.heap a G.size φC μ2 (Zbs fd.scope.names ks ys) sD := ⟨RD, RG3, x12.trans xD, ig, na⟩
  have hgi : c.g0.size <= G.size := by
   apply Nat.le_of_not_lt
   intro q
   have := hG G.size _ (Array.getElem?_eq_getElem q)
   rw [Array.getElem?_eq_none Qr] at this
   cases this
  have hg : sD.gens[G.size]? = some (.fresh (.func [st0, .While test (Zbk st1 st2 e ypos epos) [] wpos] (callEnvC fd L f))) := by rw [eG, Array.getElem?_push_size]
  obtain ⟨k, hk⟩ := Zxh (A := A.in1) (one := Zev asg bm) (ga := a) (gi := G.size) (outer := F.frames) rfl TK (hi L) (ht L F.frames) (h0 L F.frames) (h1 L F.frames) (he L F.frames) (h2 L F.frames) (Zvu hA hh hlv) (λ k p => Zuc hA hh hlv) (λ it k cd p' k' cd' p => by
   show (marksOver _ (A.handled, A.handled)).1 = none
   rw [hA.handled hh]; rfl) hO hb
  refine Zqq TK hfr hh CS hgi hasg hbody (λ w A s Q E ig q => wpAny_of_eq (hlet _ _) q) hA rfl (n := k + 1) ⟨φC, μ2, _, RD, ig, hg, rfl, ?_⟩ hb hQ hE
  exact hk φC _ _ (T.setGen hgi rfl) (Zhy hg)
end

section
variable {c : Cx} {F : Fx}
set_option backward.eqns.nonrecursive false
def pFmt : PV -> PM PV
 | .int i => chk (Nat.blt i.natAbs.log2 64) >>= λ _ => pure (.raw none)
 | _ => PM.I
def eFmt (f : PM PV) : PM PV := f >>= pFmt
theorem Zdh {a b : Str} : (a ++ b).length = a.length + b.length := by
 show (a.cps ++ b.cps).size = _
 rw [Array.size_append]; rfl
theorem Zl9 {a b : Str} {k1 k2 : Nat} {e : Expr} {p1 p2 p3 pos : Pos} {f : PM PV} (h : Zk c F e f) (ha : Nat.ble (a.length + b.length) 1000 = true) :
  Zk c F (.JoinedStr [.Constant (.str a) k1 p1, .FormattedValue e 114 none p2, .Constant (.str b) k2 p3] pos) (eFmt f) := λ A φ μ s Q E hA R p hb hQ hE => by
 unfold eFmt at hb hQ hE
 have ha := Nat.le_of_ble_eq_true ha
 refine wpAny_JoinedStr ?_
 show wpAny _ _ (eval _ _) _ _ _
 have e0 : Str.empty.length = 0 := rfl
 refine wpAny_Constant_str ⟨a, _, rfl, by rw [Zdh, e0, sizeLine_eq]; lia, ?_⟩
 show wpAny _ _ (eval _ _) _ _ _
 refine wpAny_FormattedValue_repr ?_
 refine h.use hA (R.toks _) p hb hE λ v x φ' μ' s' ef R' xx r => ?_
 rw [ef] at hb hQ hE
 induction r using VR.cs with
 | int i t =>
  have ep : pFmt (.int i) = (chk (Nat.blt i.natAbs.log2 64) >>= λ _ => pure (.raw none)) := rfl
  rw [ep] at hb hQ hE
  obtain ⟨h1, h2⟩ := Zab hb
  rw [h2] at hQ hE
  have hl : i.natAbs.log2 < 64 := Nat.le_of_ble_eq_true h1
  have hn := int_text_length_le (k := 64) (by decide) hl
  rw [<- PySem.ofString_length] at hn
  refine pyReprObj_int (by lia) ?_
  have go : ∀ (t : Tok) (k : Nat), ∃ y u, (Value.str (Str.ofString (toString i)) t) = .str y u ∧ (Str.empty ++ a ++ y).length <= sizeLine ∧ Joins (model c.prog c.w) A E (evalEach [.Constant (.str b) k2 p3] F.env) (Str.empty ++ a ++ y) (λ out s1 => out.length <= sizeLine ∧ Q (.str out s1.toks) { s1 with toks := s1.toks + 1 }) { s' with toks := k } := λ t k => by
   refine ⟨_, _, rfl, by rw [Zdh, Zdh, e0, sizeLine_eq]; lia, ?_⟩
   show wpAny _ _ (eval _ _) _ _ _
   refine wpAny_Constant_str ⟨b, _, rfl, by rw [Zdh, Zdh, Zdh, e0, sizeLine_eq]; lia, ?_⟩
   exact ⟨by rw [Zdh, Zdh, Zdh, e0, sizeLine_eq]; lia, hQ _ _ _ _ _ rfl (R'.toks _) xx (.raw λ _ e => nomatch e)⟩
  exact wpAny_formatField_str (go _ _) (go _ _) (by rw [sizeLine_eq]; lia)
 | _ => exact (hb rfl).elim
def isB : PV -> Bool -> PM PV
 | .bool _, true => pure (.bool true)
 | _, _ => PM.I
def isI (x : PV) : PV -> PM PV
 | .raw o => isB x (decide (o = some "bool"))
 | _ => PM.I
def Zmv : List PV -> PM PV
 | [x, y] => isI x y
 | _ => PM.I
theorem isIn {xs : List PV} {μ : St} (h : Zmv xs μ ≠ .bad) : ∃ b, xs = [.bool b, .raw (some "bool")] := by
 rcases xs with _ | ⟨x, _ | ⟨y, _ | ⟨_, _⟩⟩⟩ <;> first | exact (h rfl).elim | skip
 cases y <;> first | exact (h rfl).elim | skip
 rename_i o
 have h : isB x (decide (o = some "bool")) μ ≠ .bad := h
 cases x <;> first | (revert h; cases decide (o = some "bool") <;> exact λ h => (h rfl).elim) | skip
 cases e : decide (o = some "bool") with
 | true => exact ⟨_, by rw [Qh e]⟩
 | false => rw [e] at h; exact (h rfl).elim
theorem VR.inv_bool {φ : List Addr} {h : Heap} {v : Value} {x : PV} (r : VR φ h v x) : ∀ {b}, x = .bool b -> v = .bool b := by
 induction r using VR.cs with
 | bool => intro b e; cases e; rfl
 | _ => intro b e; cases e
theorem VR.inv_raw {φ : List Addr} {h : Heap} {v : Value} {x : PV} (r : VR φ h v x) : ∀ {n}, x = .raw (some n) -> v = .type n := by
 induction r using VR.cs with
 | raw q => intro n e; cases e; exact q _ rfl
 | _ => intro b e; cases e
theorem Zsv : Zay c F (.builtin "isinstance") Zmv := λ vs ys A φ μ s Q E hA R p hb hQ hE => by
 obtain ⟨b, rfl⟩ := isIn hb
 obtain ⟨v, w, rfl, p1, p2⟩ := p.two
 rw [p1.inv_bool rfl, p2.inv_raw rfl]
 exact call_isinstance (isinstance_true (x := .bool b) (Tx := "bool") (T := "bool") (by kernel_rfl) (by kernel_rfl)) ⟨rfl, hQ _ _ _ _ _ rfl R Ext.refl (.bool _)⟩
theorem FxG.typ {names : List (Str × NameKind)} {vs : List (Str × Nat)} {n lv : Nat} (G : FxG F names vs n lv) {x : Str} {t : String} (e : nsIn c.K mainGlobals x = some none) (hb : bootBuiltins x = some (.type t)) {pos : Pos} (h : Zdf names x = true := by kernel_rfl) : Zk c F (.Name x pos) (pure (.raw (some t))) :=
 Ztu G.kind G.glob G.bui (G.glob' h).1 (G.glob' h).2.1 e hb (G.glob' h).2.2
end

noncomputable abbrev I3 := Int × Int × Int
noncomputable def ltT (p q : I3) : Bool := if p.1 = q.1 then (if p.2.1 = q.2.1 then (if p.2.2 = q.2.2 then false else decide (p.2.2 < q.2.2)) else decide (p.2.1 < q.2.1)) else decide (p.1 < q.1)
set_option backward.eqns.nonrecursive false
noncomputable def trL : List Int -> Option I3
 | [a, b, c] => some (a, b, c)
 | _ => none
def trOf : PV -> Option I3
 | .tup xs => (Zbc xs).bind trL
 | _ => none
set_option backward.eqns.nonrecursive true
noncomputable def ansT (ds : List I3) (i j : Nat) : Bool := ltT (ds.getD i (0, 0, 0)) (ds.getD j (0, 0, 0))def sortT (ds : List I3) (xs : List PV) : List PV := (Za9 (ansT ds) (kas_sort xs.length)).toList.map λ i => xs.getD i .none
def TrAt (h : Heap) (v : Value) (d : I3) : Prop :=
 ∃ t n k1 k2 k3, v = .ref t ∧ h.get? t = some { cls := .type "tuple", data := .seq (List.toArray [.int d.1 k1, .int d.2.1 k2, .int d.2.2 k3]) n }
theorem TrAt.move {h h' : Heap} {v : Value} {d : I3} (k : ∀ b o, h.get? b = some o -> h'.get? b = some o) : TrAt h v d -> TrAt h' v d := λ q => by
 obtain ⟨t, n, k1, k2, k3, e, hg⟩ := q
 exact ⟨t, n, k1, k2, k3, e, k _ _ hg⟩
section
variable {prog : Program} {w : World} {A : Around} {s : Shared}
theorem Zyw {v v' : Value} {x y : I3} {Q : Bool -> Shared -> Prop} (h1 : TrAt s.heap v x) (h2 : TrAt s.heap v' y) (h : Q (ltT x y) s) : wpAny (model prog w) A (keyLt' (tuples' true) v v') Q (λ _ _ => False) s := by
 obtain ⟨t, n, k1, k2, k3, rfl, g1⟩ := h1
 obtain ⟨t', n', l1, l2, l3, rfl, g2⟩ := h2
 unfold ltT at h
 refine kat_lt g1 rfl g2 rfl (kat_cons (wpAny_eqBool_int (kat_go (λ e => kat_yes (kat_cons (wpAny_eqBool_int (kat_go (λ e' => kat_yes (kat_cons (wpAny_eqBool_int (kat_go (λ e2 => kat_yes (kat_nil ?_)) λ e2 => kat_no (kat_one _ _ ?_))))) λ e' => kat_no (kat_one _ _ ?_))))) λ e => kat_no ?_)))
 ·rw [Qo (eq_of_beq e), Qo (eq_of_beq e'), Qo (eq_of_beq e2)] at h
  exact h
 ·rw [Qo (eq_of_beq e), Qo (eq_of_beq e'), Qq (ne_of_beq_false e2)] at h
  exact lt_int (E := λ _ _ => False) h
 ·rw [Qo (eq_of_beq e), Qq (ne_of_beq_false e')] at h
  exact lt_int (E := λ _ _ => False) h
 ·rw [Qq (ne_of_beq_false e)] at h
  exact kat_lt_int h
theorem Zud {M : Model} {h : Heap} : ∀ vs : List Value, (∀ v ∈ vs, ∃ d, TrAt h v d) -> ∃ fs, fs.length = vs.length ∧ KatTups h vs fs ∧ ∀ f ∈ fs, Looks M h (typeOf f) (.type "int")
 | [] => λ _ => ⟨[], rfl, .nil, λ _ m => nomatch m⟩
 | v :: vs => λ q => by
  obtain ⟨fs, e, k, l⟩ := Zud vs λ v m => q v (.tail _ m)
  obtain ⟨d, t, n, k1, k2, k3, rfl, g⟩ := q v (.head _)
  refine ⟨.int d.1 k1 :: fs, congrArg Nat.succ e, .cons g rfl rfl rfl k, λ f hf => ?_⟩
  rcases Qmc hf with rfl | hf
  ·exact λ A Q E s' k q => wpAny_typeOf rfl q
  ·exact l f hf
end
theorem Zxk {φ : List Addr} {h : Heap} {v : Value} {x : PV} {d : I3} (r : VR φ h v x) (e : trOf x = some d) : TrAt h v d := by
 cases x <;> first | exact Zq e | skip
 rename_i xs
 obtain ⟨is, e1, e2⟩ := Option.bind_eq_some_iff.mp (show (Zbc xs).bind trL = some d from e)
 have hx := Zi7 e1
 rcases is with _ | ⟨a, _ | ⟨b, _ | ⟨c, _ | ⟨_, _⟩⟩⟩⟩ <;> first | exact Zq e2 | skip
 cases e2
 subst hx
 obtain ⟨t, us, n, rfl, g, hm, rs⟩ := r.un_tup rfl
 obtain ⟨k1, k2, k3, rfl⟩ := rs.ints3
 exact ⟨t, n, k1, k2, k3, rfl, g⟩
section
variable {c : Cx} {F : Fx}
set_option backward.eqns.nonrecursive false
def trsM (x : PV) : PM (List PV × List I3) := λ μ => match Zaa μ.hp x with
 | some xs => (match Za2 trOf xs with
  | some ds => .ok (xs, ds) μ
  | none => .bad)
 | none => .bad
def Zqc : List PV -> PM PV := Zdo λ x => trsM x >>= λ p => chk (decide (p.1.length < 64)) >>= λ _ => pure (.lst (sortT p.2 p.1))
theorem Zue : Zay c F (.builtin "sorted") Zqc := Zcv λ v x A φ μ s Q E hA R p hb hQ hE => by
 have hb' : trsM x μ ≠ .bad := λ e => hb (by rw [PM.B, e])
 obtain ⟨xs, ds, e1, e2, e3⟩ : ∃ xs ds, Zaa μ.hp x = some xs ∧ Za2 trOf xs = some ds ∧ trsM x μ = .ok (xs, ds) μ := by
  unfold trsM at hb' ⊢
  cases q : Zaa μ.hp x with
  | none => rw [q] at hb'; exact (hb' rfl).elim
  | some xs =>
   rw [q] at hb'
   try dsimp only at hb' ⊢
   cases q2 : Za2 trOf xs with
   | none => rw [q2] at hb'; exact (hb' rfl).elim
   | some ds => exact ⟨xs, ds, rfl, q2, rfl⟩
 clear hb'
 rw [PM.H e3] at hb hQ
 obtain ⟨h1, h2⟩ := Zab hb
 rw [h2] at hQ
 obtain ⟨a, vs, rfl, hL, hvs⟩ := Zk3 R p e1
 have hlen : vs.length = xs.length := hvs.length
 have h64 : vs.length < 64 := by rw [hlen]; exact Qh h1
 have item : ∀ i, i < vs.length -> TrAt s.heap (vs.getD i .none) (ds.getD i (0, 0, 0)) := λ i hi => by
  have hx : xs[i]? = some (xs[i]'(hlen ▸ hi)) := Q2 _
  obtain ⟨d, q1, q2⟩ := Zri e2 hx
  obtain ⟨w, hw, hr⟩ := hvs.get hx
  rw [Xc, Xc, hw, q2]
  exact Zxk hr q1
 refine Zbl (Zst (κ := tuples' true) (ans := ansT ds) hL h64 (λ h2 h' hk Q hq => ?_) (λ h' hk i j C hi hj hC => ?_) λ size => ?_)
 ·obtain ⟨fs, e1, e2, e3⟩ := Zud (M := model c.prog c.w) (h := h') vs λ v hv => by
   obtain ⟨i, hi⟩ := List.getElem?_of_mem hv
   have := item i (Qgl hi)
   rw [Xc, hi] at this
   exact ⟨_, this.move hk⟩
  exact kat_kind (T := .type "int") e2 (by lia) e3 (by decide) hq
 ·exact Zyw ((item i hi).move hk) ((item j hj).move hk) hC
 ·rw [hlen] at *
  obtain ⟨e, he⟩ := sortedAll_at s.heap vs ((Za9 (ansT ds) (kas_sort xs.length)).map λ i => vs.getD i .none)
  have he' : (sortedAll s.heap vs ((Za9 (ansT ds) (kas_sort xs.length)).map λ i => vs.getD i .none)).get? (s.heap.objs.size + 1) = some { cls := .type "list", data := .seq ((Za9 (ansT ds) (kas_sort xs.length)).toList.map λ i => vs.getD i .none).toArray e } := by
   rw [he]
   unfold seqObj
   congr 3
   rw [<- Array.toList_map]
  obtain ⟨RB, xB, hm⟩ := Zvn (tk := s.toks) R (λ b o q => sortedAll_old q) size
  exact hQ _ _ _ _ _ rfl RB xB (.lst he' (λ hm => Qe (R.phiLt hm) (Qi (Nat.le_succ _))) (Zo0 hvs hm _))
end

set_option backward.eqns.nonrecursive false
noncomputable def isSI (d : Ad) (x : Value) : Option Bool := match x with
 | .ref a => if a = d.CE then some false else none
 | .type n => if n = "StopIteration" then some true else if n = "ValueError" then some false else none
 | _ => none
theorem Zvv {c : Cx} {d : Ad} (h1 : exmOne c.K (.type "StopIteration") (.type "StopIteration") = some true) (h2 : exmOne c.K (.type "ValueError") (.type "StopIteration") = some false) (h3 : exmOne c.K (.ref d.CE) (.type "StopIteration") = some false) : CatchAt c (.type "StopIteration") (isSI d) :=
 Zhx h1 λ x b hm => by
  unfold isSI at hm
  split at hm
  ·split at hm
   ·rename_i e; cases hm; rw [e]; exact h3
   ·cases hm
  ·split at hm
   ·rename_i e; cases hm; rw [e]; exact h1
   ·split at hm
    ·rename_i e; cases hm; rw [e]; exact h2
    ·cases hm
  ·cases hm
theorem Zvw {c : Cx} {d : Ad} (h1 : exmOne c.K (.type "ValueError") (.type "ValueError") = some true) (h2 : exmOne c.K (.ref d.CE) (.type "ValueError") = some true) : CatchAt c (.type "ValueError") (Zcf d) :=
 Zhx h1 λ x b hm => by
  unfold Zcf at hm
  split at hm
  ·split at hm
   ·rename_i e; cases hm; rw [e]; exact h2
   ·cases hm
  ·split at hm
   ·rename_i e; cases hm; rw [e]; exact h1
   ·cases hm
  ·cases hm
theorem Zrk {c : Cx} {F : Fx} : ∀ cs : List (Int × Nat × Pos), SimArgs c F (starEach (cs.map λ p => .Constant (.int p.1) p.2.1 p.2.2) F.env) (cs.foldr (λ p g => Zd (pure (.int p.1)) g) (pure []))
 | [] => .nil
 | p :: cs => .cons Zn (Zrk cs)theorem Zvx {c : Cx} {F : Fx} (cs : List (Int × Nat × Pos)) {k : Nat} {pos : Pos} : Zk c F (.Tuple (cs.map λ p => .Constant (.int p.1) p.2.1 p.2.2) k pos) (Zdd (cs.foldr (λ p g => Zd (pure (.int p.1)) g) (pure []))) := Zbm (Zrk cs)
structure GnOk (c : Cx) (f : Addr) (st : Stmt) : Prop where
 ok : ∃ fd, GnAt c f fd (Zaq st) ∧ fd.scope = Z1 st ∧ fd.params = Zcq st ∧ fd.globals = mainGlobals ∧ fd.builtins = builtinsNs ∧ fd.defaults = .none
theorem Zxl {c : Cx} {f : Addr} {st : Stmt} (h1 : Zjw c.K f = true) (h2 : codeIn c.K (Z6 c.K f).code (Z6 c.K f).qualname = true) (h3 : (Z6 c.K f).body = .stmts (Zaq st)) (h4 : (Z6 c.K f).closure = [])
  (h5 : (Z6 c.K f).scope = Z1 st) (h6 : (!(Z1 st).isCoroutine && (Z1 st).isGenerator) = true) (h7 : (Z1 st).kind = .function) (h8 : decide (((Z1 st).names.map (·.1)).Nodup) = true)
  (h9 : (Z6 c.K f).params = Zcq st) (h10 : (Z6 c.K f).globals = mainGlobals) (h11 : (Z6 c.K f).builtins = builtinsNs) (h12 : (Z6 c.K f).defaults = .none) : GnOk c f st := by
 rw [Q7] at h6
 exact ⟨Z6 c.K f, ⟨Zrf h1, h2, h3, h4, by rw [h5]; simpa using h6.1, by rw [h5]; exact h6.2, by rw [h5]; exact h7, by rw [h5]; exact Qh h8⟩, h5, h9, h10, h11, h12⟩
noncomputable def whT : Stmt -> Expr
 | .While t _ _ _ => t
 | _ => .Constant .none 0 ⟨0, 0, 0, 0⟩
noncomputable def whB : Stmt -> List Stmt
 | .While _ b _ _ => b
 | _ => []
noncomputable def whP : Stmt -> Pos
 | .While _ _ _ p => p
 | _ => ⟨0, 0, 0, 0⟩
noncomputable def yfE : Stmt -> Expr
 | .Expr (.YieldFrom e _) _ => e
 | _ => .Constant .none 0 ⟨0, 0, 0, 0⟩
noncomputable def yfP : Stmt -> Pos
 | .Expr (.YieldFrom _ p) _ => p
 | _ => ⟨0, 0, 0, 0⟩
noncomputable def yfQ : Stmt -> Pos
 | .Expr (.YieldFrom _ _) p => p
 | _ => ⟨0, 0, 0, 0⟩
set_option backward.eqns.nonrecursive true
def gnBody (b : List Stmt) : List Stmt := [Z8 b 0, .While (whT (Z8 b 1)) (Zbk (Z8 (whB (Z8 b 1)) 0) (Z8 (whB (Z8 b 1)) 2) (yfE (Z8 (whB (Z8 b 1)) 1)) (yfP (Z8 (whB (Z8 b 1)) 1)) (yfQ (Z8 (whB (Z8 b 1)) 1))) [] (whP (Z8 b 1))]

section
variable {c : Cx} {f : Addr} {st : Stmt} {lv n m : Nat} {k : PM MF} {frm : List PV -> Option (List PV)}def Zcg (c : Cx) (st : Stmt) (lv : Nat) (k : PM MF) : Prop := ∀ {fd : FuncData} {L a : Addr} {outer : List Env}, fd.scope = Z1 st -> fd.globals = mainGlobals -> fd.builtins = builtinsNs -> Zbx c (Zaf fd L a outer lv) (Zaq st) k
theorem Zdp {ns : List (Str × NameKind)} {vs : List (Str × Nat)} (h : ∀ {F : Fx} {outer : List Env}, FxG F ns vs n lv -> F.frames = F.env :: outer -> F.hd = true -> Zbx c F (Zaq st) k)
  (e1 : (Z1 st).names = ns := by kernel_rfl) (e2 : fnVs ns = vs := by kernel_rfl) (e3 : (Z0 ns).length = n := by kernel_rfl) (e4 : (Z1 st).kind = .function := by kernel_rfl) (e5 : decide ((ns.map (·.1)).Nodup) = true := by kernel_rfl) : Zcg c st lv k := λ hs hg hb => by
 subst e2 e3
 subst e1
 exact h (FxG.fn hs e4 hg hb (Qh e5)) rfl rfl
theorem Zln {α : Type} (z : α) (l : List α) : (List.range l.length).map (λ i => l.getD i z) = l := by
 refine ext_getElem (by simp) λ i h1 h2 => ?_
 rw [getElem_map, List.getElem_range, Xc, Q2 h2]; rfl
abbrev fdP (fd : FuncData) (st : Stmt) : FuncData := { fd with params := Zcq st, defaults := .none }
theorem Zyx {fd : FuncData} (hp : fd.params = Zcq st) (hd : fd.defaults = .none) : fdP fd st = fd := by
 cases fd; cases hp; cases hd; rfl
abbrev OwnK (st : Stmt) (ks : List Str) : Prop := (ks.all λ k => (Z1 st).names.lookup k == some .local || (Z1 st).names.lookup k == some .cell) = true
theorem okA {ks : List Str} {arr : List PV -> Option (List PV)} (F : FnOk c f st λ fd => fd.defaults = .none) (S : Zcg c st lv k) (B : ∀ fd : FuncData, Zig fd ks = true -> fdP fd st = fd -> Binds c fd ks arr) (own : OwnK st ks) (hf : ∀ xs fr, frm xs = some fr -> ∃ ys, arr xs = some ys ∧ fr = Zbs (Z1 st).names ks ys) : Zad c f lv (Zav frm k) := by
 obtain ⟨fd, hat, hs, hp, hg, hb, hd⟩ := F.ok
 exact Zad.mk hat (B fd (by unfold Zig; rw [hs]; exact own) (Zyx hp hd)) (by rw [hs]; exact hf) λ L outer => S hs hg hb
theorem okP (ks : List Str) (F : FnOk c f st λ fd => fd.defaults = .none) (S : Zcg c st lv k) (hf : ∀ xs fr, frm xs = some fr -> ∃ ys, Zif m xs = some ys ∧ fr = Zbs (Z1 st).names ks ys)
  (H : ∀ (g : Nat -> Value) (fd : FuncData), bindArgs (fdP fd st) ⟨(List.range m).map g, []⟩ = pure (ks.zip ((List.range m).map g))) (own : OwnK st ks := by kernel_rfl) : Zad c f lv (Zav frm k) :=
 okA F S (λ fd ow e => Zkg ow λ vs hl => by
  subst hl
  have := H (λ i => vs.getD i .none) fd
  rw [Zln, e] at this
  exact this) own hf
theorem okS (ks : List Str) (F : FnOk c f st λ fd => fd.defaults = .none) (S : Zcg c st lv k) (hf : ∀ xs fr, frm xs = some fr -> ∃ ys, Zhl m xs = some ys ∧ fr = Zbs (Z1 st).names ks ys)
  (H : ∀ (g : Nat -> Value) (r : List Value) (fd : FuncData), bindArgs (fdP fd st) ⟨(List.range m).map g ++ r, []⟩ = (newTuple r >>= λ t => pure (ks.zip ((List.range m).map g ++ [t])))) (own : OwnK st ks := by kernel_rfl) : Zad c f lv (Zav frm k) :=
 okA F S (λ fd ow e => Zsq ow λ vs r hl => by
  subst hl
  have := H (λ i => vs.getD i .none) r fd
  rw [Zln, e] at this
  exact this) own hf
end
end
end Mine
namespace Mine
open PySem PySem.W PyProof.Rows PySem.Calls PySem.MeetsSeq
noncomputable section

noncomputable def d : Ad := ⟨33, 48, 130⟩def Zjg (d : Ad) : PM MF := Zc (Zt (Za 1) (Zdl (Zbu d.NI 0) (Za 0))) (Zc (Zt (pure (PV.int 0)) (Zdl (Zbu d.NI 1) (Za 0))) (Zc (Zt (Zp true (pure [])) (Zdl (Zbu d.NI 2) (Za 0))) Zg))
set_option backward.eqns.nonrecursive false
noncomputable def Zqr : List PV -> Option (List PV)
 | [x0, x1] => some [x0, x1]
 | _ => none
def Zjh (d : Ad) : List PV -> PM PV := Zav Zqr (Zjg d)def Zhz (d : Ad) : PM MF := Zc (sIf (Z2 .Is (eWal (Zie (Zaj d.TS ("_node2info" : Str) (Za 0)) (Zd (Za 1) (pure []))) (Zh 2)) (pure PV.none)) (Zc (sAsg2 ((Zd (Za 1) (pure [])) >>= newM d.NI true (Zjh d)) (tSub (Zaj d.TS ("_node2info" : Str) (Za 0)) (Za 1)) (Zh 2)) Zg) Zg) (Zc (Zak (Za 2)) Zg)
noncomputable def Zo6 : List PV -> Option (List PV)
 | [x0, x1] => some [x0, x1, .undef]
 | _ => none
def Zfz (d : Ad) : List PV -> PM PV := Zav Zo6 (Zhz d)def Zrl (d : Ad) : PM MF := Zc (Zt (Zb5 d.TS ("_get_nodeinfo" : Str) (Za 0) (Zd (Za 4) (pure [])) (Zfz d)) (Zh 5)) (Zc (Zap (Zar (Zdk d.NI 2 (Za 5)) (Za 1))) Zg)def g_add (d : Ad) : PM MF := Zc (sIf (Z2 .IsNot (Zaj d.TS ("_ready_nodes" : Str) (Za 0)) (pure PV.none)) (Zc (Zbd (.type "ValueError") (Zd (pure (PV.str ("Nodes cannot be added after a call to prepare()" : Str))) (pure []))) Zg) Zg) (Zc (Zt (Zb5 d.TS ("_get_nodeinfo" : Str) (Za 0) (Zd (Za 1) (pure [])) (Zfz d)) (Zh 3)) (Zc (Zd2 .Add (Za 3) (Zg1 d.NI 1) (Zbu d.NI 1) ((Zd (Za 2) (pure [])) >>= Zbz)) (Zc (Zbb (Za 2) (Zh 4) (Zrl d) Zj) Zg)))
def Zxm : List PV -> Option (List PV)
 | x0 :: x1 :: r => (match Z3 r with
  | true => some [x0, x1, .tup r, .undef, .undef, .undef]
  | false => none)
 | _ => none
def k_add (d : Ad) : List PV -> PM PV := Zav Zxm (g_add d)def Zji (d : Ad) : PM MF := Zc (Zt (eDict) (Zdl (Zbt d.TS ("_node2info" : Str)) (Za 0))) (Zc (Zt (pure PV.none) (Zdl (Zbt d.TS ("_ready_nodes" : Str)) (Za 0))) (Zc (Zt (pure (PV.int 0)) (Zdl (Zbt d.TS ("_npassedout" : Str)) (Za 0))) (Zc (Zt (pure (PV.int 0)) (Zdl (Zbt d.TS ("_nfinished" : Str)) (Za 0))) (Zc (sIf (Z2 .IsNot (Za 1) (pure PV.none)) (Zc (PM.I) Zg) Zg) Zg))))
noncomputable def Zqs : List PV -> Option (List PV)
 | [x0, x1] => some [x0, x1, .undef, .undef]
 | [x0] => some [x0, .none, .undef, .undef]
 | _ => none
def Zjj (d : Ad) : List PV -> PM PV := Zav Zqs (Zji d)def Zge (d : Ad) : PM MF := Zc (tryM (Zc (Zt (Zg3 (Za5 (Za 3) (eNeg (pure (PV.int 1))))) (Zh 6)) (Zc (pure .brk) Zg)) [((Zb7 d), Zc (sDel (Za 5) (mPop (Za 2))) (Zc (Zap (mPop (Za 3))) Zg))]) Zg
def Zgf (d : Ad) : PM MF := Zc (sIf (Z2 .In (Za 6) (Za 4)) (Zc (sIf (Z2 .In (Za 6) (Za 5)) (Zc (Zak (eCat false (Zhj false (Za 2) (Za5 (Za 5) (Za 6))) (Zp false (Zd (Za 6) (pure []))))) Zg) Zg) Zg) (Zc (Zap (Zmr (Za 4) (Zd (Za 6) (pure [])))) (Zc (Zap (Zar (Za 3) (eNxt ((Zd (Zdk d.NI 2 (Za5 (Za 1) (Za 6))) (pure [])) >>= pIter)))) (Zc (Zt ((Zd (Za 2) (pure [])) >>= Zbz) (tSub (Za 5) (Za 6))) (Zc (Zap (Zar (Za 2) (Za 6))) Zg))))) (Zc (Zda (Zes (Za 2)) (Zge d) (Zc (pure .brk) Zg) Zj) Zg)def Zo7 (d : Ad) : PM MF := Zc (sIf (Z2 .In (Za 6) (Za 4)) (Zc (pure .cont) Zg) Zg) (Zc (Zda (Zes (pure (PV.bool true))) (Zgf d) Zg Zj) Zg)def Zo8 (d : Ad) : PM MF := Zc (Zt (Zaj d.TS ("_node2info" : Str) (Za 0)) (Zh 1)) (Zc (Zt (Zp true (pure [])) (Zh 2)) (Zc (Zt (Zp true (pure [])) (Zh 3)) (Zc (Zt ((pure []) >>= (noneM pSet)) (Zh 4)) (Zc (Zt (eDict) (Zh 5)) (Zc (Zbb (Za 1) (Zh 6) (Zo7 d) Zj) (Zc (Zak (pure PV.none)) Zg))))))
noncomputable def Zvy : List PV -> Option (List PV)
 | [x0] => some [x0, .undef, .undef, .undef, .undef, .undef, .undef]
 | _ => none
def Zo9 (d : Ad) : List PV -> PM PV := Zav Zvy (Zo8 d)def Zki (d : Ad) : Nat -> PV -> PM Unit := tfB (Zh 3) (Z2 .Eq (Zdk d.NI 1 (Za 3)) (pure (PV.int 0))) (Zdk d.NI 0 (Za 3))def Zgw (d : Ad) : PM MF := Zc (sIf (Z2 .IsNot (Zaj d.TS ("_ready_nodes" : Str) (Za 0)) (pure PV.none)) (Zc (Zbd (.type "ValueError") (Zd (pure (PV.str ("cannot prepare() more than once" : Str))) (pure []))) Zg) Zg) (Zc (Zt (Za1 Zj 2 (Zms (Zaj d.TS ("_node2info" : Str) (Za 0)) (pure [])) (Zki d)) (Zdl (Zbt d.TS ("_ready_nodes" : Str)) (Za 0))) (Zc (Zt (Zb5 d.TS ("_find_cycle" : Str) (Za 0) (pure []) (Zo9 d)) (Zh 1)) (Zc (sIf (Zes (Za 1)) (Zc (Zbd (.ref d.CE) (Zd (pure (PV.str ("nodes are in a cycle" : Str))) (Zd (Za 1) (pure [])))) Zg) Zg) Zg)))
noncomputable def Zqt : List PV -> Option (List PV)
 | [x0] => some [x0, .undef]
 | _ => none
def Zc7 (d : Ad) : List PV -> PM PV := Zav Zqt (Zgw d)def Zij (d : Ad) : PM MF := Zc (Zt (pure (PV.int (-1))) (Zdl (Zbu d.NI 1) (Za5 (Za 2) (Za 3)))) Zg
def Zfa (d : Ad) : PM MF := Zc (sIf (Z2 .Is (Zaj d.TS ("_ready_nodes" : Str) (Za 0)) (pure PV.none)) (Zc (Zbd (.type "ValueError") (Zd (pure (PV.str ("prepare() must be called first" : Str))) (pure []))) Zg) Zg) (Zc (Zt ((Zd (Zaj d.TS ("_ready_nodes" : Str) (Za 0)) (pure [])) >>= Zl2) (Zh 1)) (Zc (Zt (Zaj d.TS ("_node2info" : Str) (Za 0)) (Zh 2)) (Zc (Zbb (Za 1) (Zh 3) (Zij d) Zj) (Zc (Zap (Zp9 (Zaj d.TS ("_ready_nodes" : Str) (Za 0)))) (Zc (Zd2 .Add (Za 0) (Zg0 d.TS ("_npassedout" : Str)) (Zbt d.TS ("_npassedout" : Str)) ((Zd (Za 1) (pure [])) >>= Zbz)) (Zc (Zak (Za 1)) Zg))))))
noncomputable def Znl : List PV -> Option (List PV)
 | [x0] => some [x0, .undef, .undef, .undef]
 | _ => none
def Zcw (d : Ad) : List PV -> PM PV := Zav Znl (Zfa d)def Zfb (d : Ad) : PM MF := Zc (sIf (Z2 .Is (Zaj d.TS ("_ready_nodes" : Str) (Za 0)) (pure PV.none)) (Zc (Zbd (.type "ValueError") (Zd (pure (PV.str ("prepare() must be called first" : Str))) (pure []))) Zg) Zg) (Zc (Zak (eOr (Zdm .Lt (Zaj d.TS ("_nfinished" : Str) (Za 0)) (Zaj d.TS ("_npassedout" : Str) (Za 0))) ((Zd (Zaj d.TS ("_ready_nodes" : Str) (Za 0)) (pure [])) >>= pBool))) Zg)
noncomputable def Znm : List PV -> Option (List PV)
 | [x0] => some [x0]
 | _ => none
def Zds (d : Ad) : List PV -> PM PV := Zav Znm (Zfb d)def Zku (d : Ad) : PM MF := Zc (Zt (Za5 (Za 2) (Za 6)) (Zh 7)) (Zc (Zd2 .Sub (Za 7) (Zg1 d.NI 1) (Zbu d.NI 1) (pure (PV.int 1))) (Zc (sIf (Z2 .Eq (Zdk d.NI 1 (Za 7)) (pure (PV.int 0))) (Zc (Zap (Zar (Zaj d.TS ("_ready_nodes" : Str) (Za 0)) (Za 6))) Zg) Zg) Zg))def Zgg (d : Ad) : PM MF := Zc (sIf (Z2 .Is (eWal (Zie (Za 2) (Zd (Za 3) (pure []))) (Zh 4)) (pure PV.none)) (Zc (Zbd (.type "ValueError") (Zd (eFmt (Za 3)) (pure []))) Zg) Zg) (Zc (Zt (Zdk d.NI 1 (Za 4)) (Zh 5)) (Zc (sIf (Z2 .NotEq (Za 5) (pure (PV.int (-1)))) (Zc (sIf (Z2 .GtE (Za 5) (pure (PV.int 0))) (Zc (Zbd (.type "ValueError") (Zd (eFmt (Za 3)) (pure []))) Zg) (Zc (sIf (Z2 .Eq (Za 5) (pure (PV.int (-2)))) (Zc (Zbd (.type "ValueError") (Zd (eFmt (Za 3)) (pure []))) Zg) (Zc (PM.I) Zg)) Zg)) Zg) Zg) (Zc (Zt (pure (PV.int (-2))) (Zdl (Zbu d.NI 1) (Za 4))) (Zc (Zbb (Zdk d.NI 2 (Za 4)) (Zh 6) (Zku d) Zj) (Zc (Zd2 .Add (Za 0) (Zg0 d.TS ("_nfinished" : Str)) (Zbt d.TS ("_nfinished" : Str)) (pure (PV.int 1))) Zg)))))def Zlo (d : Ad) : PM MF := Zc (sIf (Z2 .Is (Zaj d.TS ("_ready_nodes" : Str) (Za 0)) (pure PV.none)) (Zc (Zbd (.type "ValueError") (Zd (pure (PV.str ("prepare() must be called first" : Str))) (pure []))) Zg) Zg) (Zc (Zt (Zaj d.TS ("_node2info" : Str) (Za 0)) (Zh 2)) (Zc (Zbb (Za 1) (Zh 3) (Zgg d) Zj) Zg))
def Zvz : List PV -> Option (List PV)
 | x0 :: r => (match Z3 r with
  | true => some [x0, .tup r, .undef, .undef, .undef, .undef, .undef, .undef]
  | false => none)
 | _ => none
def Zgh (d : Ad) : List PV -> PM PV := Zav Zvz (Zlo d)def Zd9 (d : Ad) : PM MF := Zap (Zb5 d.TS ("prepare" : Str) (Za 0) (pure []) (Zc7 d))def Ze2 (d : Ad) : PM Bool := Zes (Zb5 d.TS ("is_active" : Str) (Za 0) (pure []) (Zds d))def Zea (d : Ad) : PM MF := Zt (Zb5 d.TS ("get_ready" : Str) (Za 0) (pure []) (Zcw d)) (Zh 1)def Zfh (d : Ad) : PM PV := Za 1
def Zfi (d : Ad) : PM MF := Zap (Zb5 d.TS ("done" : Str) (Za 0) (argS (Za 1)) (Zgh d))
noncomputable def Zlp : List PV -> Option (List PV)
 | [x0] => some [x0, .undef]
 | _ => none

def Zik (d : Ad) : PM MF := Zc (Zap (Zar (Za 7) (Zft .Mod (Za 6) (pure (PV.int 4))))) (Zc (Zt (Zft .FloorDiv (Za 6) (pure (PV.int 4))) (Zh 6)) Zg)def Zfn (d : Ad) : PM MF := Zc (Zt (Za5 (Zdd (Zd (pure (PV.int 0)) (Zd (pure (PV.int 0)) (Zd (pure (PV.int 0)) (Zd (pure (PV.int 0)) (Zd (pure (PV.int 1)) (Zd (pure (PV.int 2)) (Zd (pure (PV.int 3)) (Zd (pure (PV.int 3)) (Zd (pure (PV.int 4)) (Zd (pure (PV.int 5)) (pure [])))))))))))) (Zft .Mod (Za 4) (pure (PV.int 10)))) (Zh 5)) (Zc (Zt (Zft .FloorDiv (Za 4) (pure (PV.int 10))) (Zh 6)) (Zc (Zt (Zp true (Zd (Zft .Mod (Za 6) (pure (PV.int 4))) (pure []))) (Zh 7)) (Zc (Zt (Zft .FloorDiv (Za 6) (pure (PV.int 4))) (Zh 6)) (Zc (Zt (Zft .Mod (Za 6) (pure (PV.int 3))) (Zh 8)) (Zc (Zt (Zft .FloorDiv (Za 6) (pure (PV.int 3))) (Zh 6)) (Zc (Zbb ((Zd (Za 8) (pure [])) >>= Zdw) (Zh 9) (Zik d) Zj) (Zc (Zap (Zar (Za 3) (Zdd (Zd (Za 5) (Zd (Za 7) (pure [])))))) Zg)))))))def Zil (d : Ad) : PM MF := Zc (sIf (Z2 .Lt (Za 2) (pure (PV.int 12))) (Zc (Zap (Zar (Za 1) (Za5 (Za 0) (Za 2)))) Zg) (Zc (Zj2 .Add (Za 1) (Zft .Mod (Za 2) (pure (PV.int 12))) (Za5 (Za 0) (Za 2))) Zg)) Zg
def g_law_calls (d : Ad) : PM MF := Zc (Zt (Zp true (pure [])) (Zh 1)) (Zc (Zbb ((Zd ((Zd (Za 0) (pure [])) >>= Zbz) (pure [])) >>= Zdw) (Zh 2) (Zil d) Zj) (Zc (Zt (Zp true (pure [])) (Zh 3)) (Zc (Zbb (Za 1) (Zh 4) (Zfn d) Zj) (Zc (Zak (Za 3)) Zg))))
noncomputable def Znn : List PV -> Option (List PV)
 | [x0] => some [x0, .undef, .undef, .undef, .undef, .undef, .undef, .undef, .undef, .undef]
 | _ => none
def Zg6 (d : Ad) : List PV -> PM PV := Zav Znn (g_law_calls d)def Zdi (d : Ad) : PM MF := Zc (Zap (Zar (Za 4) (Za 5))) Zg
def g_law_answer (d : Ad) : PM MF := Zc (tryM (Zc (sIf (Z2 .Eq (Za 1) (pure (PV.int 0))) (Zc (Zak (Zp false (Zd (pure (PV.str ("said" : Str))) (Zd (Zb5 d.TS ("add" : Str) (Za 0) (argS (Za 2)) (k_add d)) (pure []))))) Zg) Zg) (Zc (sIf (Z2 .Eq (Za 1) (pure (PV.int 1))) (Zc (Zak (Zp false (Zd (pure (PV.str ("said" : Str))) (Zd (Zb5 d.TS ("prepare" : Str) (Za 0) (pure []) (Zc7 d)) (pure []))))) Zg) Zg) (Zc (sIf (Z2 .Eq (Za 1) (pure (PV.int 2))) (Zc (Zak (Zp false (Zd (pure (PV.str ("said" : Str))) (Zd (Zb5 d.TS ("get_ready" : Str) (Za 0) (pure []) (Zcw d)) (pure []))))) Zg) Zg) (Zc (sIf (Z2 .Eq (Za 1) (pure (PV.int 3))) (Zc (Zak (Zp false (Zd (pure (PV.str ("said" : Str))) (Zd (Zb5 d.TS ("done" : Str) (Za 0) (argS (Za 2)) (Zgh d)) (pure []))))) Zg) Zg) (Zc (sIf (Z2 .Eq (Za 1) (pure (PV.int 4))) (Zc (Zt (Zb5 d.TS ("is_active" : Str) (Za 0) (pure []) (Zds d)) (Zh 3)) (Zc (Zak (Zp false (Zd (pure (PV.str ("said" : Str))) (Zd (Zp false (Zd ((Zd (Za 3) (Zd (pure (PV.raw (some "bool"))) (pure []))) >>= Zmv) (Zd (Za 3) (pure [])))) (pure []))))) Zg)) Zg) (Zc (Zt (Zp true (pure [])) (Zh 4)) (Zc (Zjx d.TS ("static_order" : Str) (isSI d) Zlp (Za 0) (Zd9 d) (Ze2 d) (Zea d) (Zfh d) (Zfi d) (Zh 5) (Zdi d) Zj) (Zc (Zak (Zp false (Zd (pure (PV.str ("said" : Str))) (Zd (Za 4) (pure []))))) Zg)))))))) [((isCE d), Zc (Zak (Zp false (Zd (pure (PV.str ("ring" : Str))) (pure [])))) Zg), ((Zcf d), Zc (Zak (Zp false (Zd (pure (PV.str ("refused" : Str))) (pure [])))) Zg)]) Zg
noncomputable def Zma : List PV -> Option (List PV)
 | [x0, x1, x2] => some [x0, x1, x2, .undef, .undef, .undef]
 | _ => none
def Zek (d : Ad) : List PV -> PM PV := Zav Zma (g_law_answer d)def Zno (d : Ad) : Nat -> PV -> PM Unit := tfA (Zct [Zh 11, Zh 12, Zh 13]) (Za 13)def Znp (d : Ad) : Nat -> PV -> PM Unit := tfA (Zh 11) (Zdm .In (Za5 (Za5 (Za 1) (Za 11)) (pure (PV.int 0))) (Za 3))def Zfo (d : Ad) : PM MF := Zc (sIf (Z2 .GtE (Zgq (Za 3) (Zd (Za5 (Za5 (Za 1) (Za 6)) (pure (PV.int 0))) (pure []))) (Za 8)) (Zc (Zt (Zgq (Za 3) (Zd (Za5 (Za5 (Za 1) (Za 6)) (pure (PV.int 0))) (pure []))) (Zh 8)) (Zc (Zt (Za 6) (Zh 9)) Zg)) Zg) Zg
def Znq (d : Ad) : Nat -> PV -> PM Unit := tfB (Zh 11) (Z2 .Eq (Za5 (Za5 (Za 1) (Za 11)) (pure (PV.int 1))) (Za 5)) (Za 11)def Zfp (d : Ad) : PM MF := Zc (sIf (Z2 .In (Za 5) (Za 2)) (Zc (pure .cont) Zg) Zg) (Zc (Zt (Za1 Zj 2 ((Zd ((Zd (Za 1) (pure [])) >>= Zbz) (pure [])) >>= Zdw) (Znq d)) (Zh 7)) (Zc (sIf (Zes ((Zd (Za1 Zj 2 (Za 7) (Znp d)) (pure [])) >>= pAll)) (Zc (Zt (eNeg (pure (PV.int 1))) (Zh 8)) (Zc (Zt (Zgq (Za 0) (Zd (Za 5) (pure []))) (Zh 9)) (Zc (Zbb (Za 7) (Zh 6) (Zfo d) Zj) (Zc (Zap (Zar (Za 4) (Zdd (Zd (Za 8) (Zd (Za 9) (Zd (Za 5) (pure []))))))) Zg)))) Zg) Zg))def g_law_ready (d : Ad) : PM MF := Zc (Zt (Zp true (pure [])) (Zh 4)) (Zc (Zbb (Za 0) (Zh 5) (Zfp d) Zj) (Zc (Zak (Za1 Zj 4 ((Zd (Za 4) (pure [])) >>= Zqc) (Zno d))) Zg))
noncomputable def Znr : List PV -> Option (List PV)
 | [x0, x1, x2, x3] => some [x0, x1, x2, x3, .undef, .undef, .undef, .undef, .undef, .undef]
 | _ => none
def Zdt (d : Ad) : List PV -> PM PV := Zav Znr (g_law_ready d)def Zel (d : Ad) : PM MF := Zc (Zt ((Zd (Za 0) (Zd (Za 1) (Zd (Za 3) (Zd (Za 4) (pure []))))) >>= Zdt d) (Zh 11)) (Zc (Zap (Zhk (Za 3) (Zd (Za 11) (pure [])))) (Zc (Zap (Zhk (Za 4) (Zd (Za 11) (pure [])))) Zg))def Zlq (d : Ad) : Nat -> PV -> PM Unit := tfA (Zct [Zh 15, Zh 16]) (eAnd (Zdm .Eq (Za 16) (Za 13)) (Zdm .In (Za 15) (Za 9)))def Zgx (d : Ad) : Nat -> PV -> PM Unit := tfB (Zh 13) (Zes ((Zd (Za1 Zj 3 (Za 1) (Zlq d)) (pure [])) >>= pAny)) (Za 13)def Zcz (d : Ad) : PM MF := Zc (Zt (Za1 Zj 2 (Za 9) (Zgx d)) (Zh 9)) Zg
def Zem (d : Ad) : PM MF := Zc (sIf (bOr (Z2 .NotIn (Za 7) (Za 3)) (bOr (Z2 .In (Za 7) (Za 4)) (pure false))) (Zc (Zak (Zp false (Zd (pure (PV.str ("refused" : Str))) (pure [])))) Zg) Zg) (Zc (Zap (Zar (Za 4) (Za 7))) Zg)def Zen (d : Ad) : PM MF := Zc (Zap (Zar (Za 1) (Zdd (Zd (Za 8) (Zd (Za5 (Za 6) (pure (PV.int 0))) (pure [])))))) Zg
def Zc0 (d : Ad) : PM MF := Zc (sIf (Z2 .NotIn (Za 7) (Za 0)) (Zc (Zap (Zar (Za 0) (Za 7))) Zg) Zg) Zg
def g_law_written (d : Ad) : PM MF := Zc (sIf (Z2 .Eq (Zdm .In (Za 5) (Zdd (Zd (pure (PV.int 0)) (Zd (pure (PV.int 1)) (Zd (pure (PV.int 5)) (pure [])))))) (Zdm .Gt ((Zd (Za 2) (pure [])) >>= Zbz) (pure (PV.int 0)))) (Zc (Zak (Zp false (Zd (pure (PV.str ("refused" : Str))) (pure [])))) Zg) Zg) (Zc (sIf (Z2 .Eq (Za 5) (pure (PV.int 0))) (Zc (Zbb (Za 6) (Zh 7) (Zc0 d) Zj) (Zc (Zbb (Zhj false (Za 6) (pure (PV.int 1))) (Zh 8) (Zen d) Zj) (Zc (Zak (Zp false (Zd (pure (PV.str ("said" : Str))) (Zd (pure PV.none) (pure []))))) Zg))) Zg) (Zc (sIf (Z2 .Eq (Za 5) (pure (PV.int 3))) (Zc (Zbb (Za 6) (Zh 7) (Zem d) Zj) (Zc (Zak (Zp false (Zd (pure (PV.str ("said" : Str))) (Zd (pure PV.none) (pure []))))) Zg)) Zg) (Zc (sIf (Z2 .In (Za 5) (Zdd (Zd (pure (PV.int 1)) (Zd (pure (PV.int 5)) (pure []))))) (Zc (Zap (Zar (Za 2) (pure (PV.bool true)))) (Zc (Zt ((Zd (Za 0) (pure [])) >>= (Zdo Zef)) (Zh 9)) (Zc (Zbb ((Zd ((Zd (Za 0) (pure [])) >>= Zbz) (pure [])) >>= Zdw) (Zh 10) (Zcz d) Zj) (Zc (sIf (Zes (Za 9)) (Zc (Zak (Zp false (Zd (pure (PV.str ("ring" : Str))) (pure [])))) Zg) Zg) (Zc (sIf (Z2 .Eq (Za 5) (pure (PV.int 1))) (Zc (Zak (Zp false (Zd (pure (PV.str ("said" : Str))) (Zd (pure PV.none) (pure []))))) Zg) Zg) (Zc (Zbb ((Zd ((Zd (Za 0) (pure [])) >>= Zbz) (pure [])) >>= Zdw) (Zh 10) (Zel d) Zj) (Zc (Zak (Zp false (Zd (pure (PV.str ("said" : Str))) (Zd ((Zd (Za 4) (pure [])) >>= (Zdo Zef)) (pure []))))) Zg))))))) Zg) (Zc (Zt ((Zd (Za 0) (Zd (Za 1) (Zd (Za 3) (Zd (Za 4) (pure []))))) >>= Zdt d) (Zh 11)) (Zc (sIf (Z2 .Eq (Za 5) (pure (PV.int 4))) (Zc (Zak (Zp false (Zd (pure (PV.str ("said" : Str))) (Zd (Zp false (Zd (pure (PV.bool true)) (Zd (eOr (Zdm .Lt ((Zd (Za 4) (pure [])) >>= Zbz) ((Zd (Za 3) (pure [])) >>= Zbz)) (Zdm .Gt ((Zd (Za 11) (pure [])) >>= Zbz) (pure (PV.int 0)))) (pure [])))) (pure []))))) Zg) Zg) (Zc (Zap (Zhk (Za 3) (Zd (Za 11) (pure [])))) (Zc (Zak (Zp false (Zd (pure (PV.str ("said" : Str))) (Zd ((Zd (Za 11) (pure [])) >>= Zl2) (pure []))))) Zg)))))))
noncomputable def Zlr : List PV -> Option (List PV)
 | [x0, x1, x2, x3, x4, x5, x6] => some [x0, x1, x2, x3, x4, x5, x6, .undef, .undef, .undef, .undef, .undef]
 | _ => none
def Zdx (d : Ad) : List PV -> PM PV := Zav Zlr (g_law_written d)def Zhd (d : Ad) : PM MF := Zc (Zt (Za5 (Zaj d.TS ("_node2info" : Str) (Za 0)) (Za 2)) (Zh 3)) (Zc (Zap (Zar (Za 1) (Zp false (Zd (Za 2) (Zd (Zdk d.NI 0 (Za 3)) (Zd (Zdk d.NI 1 (Za 3)) (Zd (Zdk d.NI 2 (Za 3)) (pure [])))))))) Zg)def g_law_inside (d : Ad) : PM MF := Zc (Zt (Zp true (pure [])) (Zh 1)) (Zc (Zbb (Zaj d.TS ("_node2info" : Str) (Za 0)) (Zh 2) (Zhd d) Zj) (Zc (Zak (Zp false (Zd (Za 1) (Zd (Zaj d.TS ("_ready_nodes" : Str) (Za 0)) (Zd (Zaj d.TS ("_npassedout" : Str) (Za 0)) (Zd (Zaj d.TS ("_nfinished" : Str) (Za 0)) (pure []))))))) Zg))
noncomputable def Zmb : List PV -> Option (List PV)
 | [x0] => some [x0, .undef, .undef, .undef]
 | _ => none
def Zeo (d : Ad) : List PV -> PM PV := Zav Zmb (g_law_inside d)def Zey (d : Ad) : Nat -> PV -> PM Unit := tfB (Zct [Zh 10, Zh 11]) (Z2 .Eq (Za 10) (Za 6)) (Za 11)def Zio (d : Ad) : Nat -> PV -> PM Unit := tfB (Zct [Zh 10, Zh 11]) (bAnd (Z2 .Eq (Za 11) (Za 6)) (bAnd (Z2 .NotIn (Za 10) (Za 4)) (pure true))) (Za 10)def Zcy (d : Ad) : PM MF := Zc (sIf (Z2 .In (Za 6) (Za 4)) (Zc (Zt (eNeg (pure (PV.int 2))) (Zh 7)) Zg) (Zc (sIf (Z2 .In (Za 6) (Za 3)) (Zc (Zt (eNeg (pure (PV.int 1))) (Zh 7)) Zg) (Zc (Zt ((Zd (Za1 Zj 3 (Za 1) (Zio d)) (pure [])) >>= Zbz) (Zh 7)) Zg)) Zg)) (Zc (Zap (Zar (Za 5) (Zp false (Zd (Za 6) (Zd (Za 6) (Zd (Za 7) (Zd (Za1 Zj 3 (Za 1) (Zey d)) (pure [])))))))) Zg)def g_law_told_inside (d : Ad) : PM MF := Zc (Zt (Zp true (pure [])) (Zh 5)) (Zc (Zbb (Za 0) (Zh 6) (Zcy d) Zj) (Zc (Zt (pure PV.none) (Zh 8)) (Zc (sIf (Zes (Za 2)) (Zc (Zt ((Zd (Za 0) (Zd (Za 1) (Zd (Za 3) (Zd (Za 4) (pure []))))) >>= Zdt d) (Zh 8)) Zg) Zg) (Zc (Zak (Zp false (Zd (Za 5) (Zd (Za 8) (Zd ((Zd (Za 3) (pure [])) >>= Zbz) (Zd ((Zd (Za 4) (pure [])) >>= Zbz) (pure []))))))) Zg))))
noncomputable def Zip : List PV -> Option (List PV)
 | [x0, x1, x2, x3, x4] => some [x0, x1, x2, x3, x4, .undef, .undef, .undef, .undef]
 | _ => none
def Zcb (d : Ad) : List PV -> PM PV := Zav Zip (g_law_told_inside d)def Zxn (d : Ad) : Nat -> PV -> PM Unit := tfB (Zh 11) (Z2 .NotIn (Za 11) (Za 6)) (Za 11)def Zhe (d : Ad) : PM MF := Zc (sIf (Z2 .Eq (Za 7) (pure (PV.int 6))) (Zc (Zt (pure (PV.int 3)) (Zh 7)) (Zc (Zt (Za1 Zj 2 (Za 5) (Zxn d)) (Zh 8)) Zg)) Zg) (Zc (Zt ((Zd (Za 2) (Zd (Za 3) (Zd (Za 4) (Zd (Za 5) (Zd (Za 6) (Zd (Za 7) (Zd (Za 8) (pure [])))))))) >>= Zdx d) (Zh 9)) (Zc (sIf (Z2 .NotEq ((Zd (Za 1) (Zd (Za 7) (Zd (Za 8) (pure [])))) >>= Zek d) (Za 9)) (Zc (Zak (pure (PV.bool false))) Zg) Zg) (Zc (sIf (Z2 .NotEq ((Zd (Za 1) (pure [])) >>= Zeo d) ((Zd (Za 2) (Zd (Za 3) (Zd (Za 4) (Zd (Za 5) (Zd (Za 6) (pure [])))))) >>= Zcb d)) (Zc (Zak (pure (PV.bool false))) Zg) Zg) Zg)))def g_law (d : Ad) : PM MF := Zc (Zt ((pure []) >>= newM d.TS false (Zjj d)) (Zh 1)) (Zc (Zt (Zp true (pure [])) (Zh 2)) (Zc (Zt (Zp true (pure [])) (Zh 3)) (Zc (Zt (Zp true (pure [])) (Zh 4)) (Zc (Zt (Zp true (pure [])) (Zh 5)) (Zc (Zt (Zp true (pure [])) (Zh 6)) (Zc (Zbb (eCat false (eCat false (eCat false ((Zd (Za 0) (pure [])) >>= Zg6 d) (Zp false (Zd (Zdd (Zd (pure (PV.int 1)) (Zd (Zp false (pure [])) (pure [])))) (pure [])))) (eRep false (Zp false (Zd (Zdd (Zd (pure (PV.int 2)) (Zd (Zp false (pure [])) (pure [])))) (Zd (Zdd (Zd (pure (PV.int 6)) (Zd (Zp false (pure [])) (pure [])))) (pure [])))) (pure (PV.int 4)))) (Zp false (Zd (Zdd (Zd (pure (PV.int 4)) (Zd (Zp false (pure [])) (pure [])))) (pure [])))) (Zct [Zh 7, Zh 8]) (Zhe d) Zj) (Zc (Zak (pure (PV.bool true))) Zg)))))))
noncomputable def Zxo : List PV -> Option (List PV)
 | [x0] => some [x0, .undef, .undef, .undef, .undef, .undef, .undef, .undef, .undef, .undef]
 | _ => none
set_option backward.eqns.nonrecursive true
def k_law (d : Ad) : List PV -> PM PV := Zav Zxo (g_law d)

def Zh0 : Stmt := Z8 (Zaq (Z8 PySem.Challenge.pw_sr0004_04.main.body 3)) 1
noncomputable def Zsw : List (Str × NameKind) := [(("self" : Str), .local), (("node" : Str), .local)]noncomputable def Zsx : List (Str × Nat) := [(("self" : Str), 0), (("node" : Str), 1)]def Zg7 : Stmt := Z8 (Zaq (Z8 PySem.Challenge.pw_sr0004_04.main.body 5)) 1
noncomputable def Zqu : List (Str × NameKind) := [(("self" : Str), .local), (("node" : Str), .local), (("result" : Str), .local), (("_NodeInfo" : Str), .globalImplicit)]noncomputable def Zqv : List (Str × Nat) := [(("self" : Str), 0), (("node" : Str), 1), (("result" : Str), 2)]def Zpa : Stmt := Z8 (Zaq (Z8 PySem.Challenge.pw_sr0004_04.main.body 5)) 2
noncomputable def Zyy : List (Str × NameKind) := [(("self" : Str), .local), (("node" : Str), .local), (("predecessors" : Str), .local), (("nodeinfo" : Str), .local), (("pred" : Str), .local), (("pred_info" : Str), .local), (("ValueError" : Str), .globalImplicit), (("len" : Str), .globalImplicit)]noncomputable def Zyz : List (Str × Nat) := [(("self" : Str), 0), (("node" : Str), 1), (("predecessors" : Str), 2), (("nodeinfo" : Str), 3), (("pred" : Str), 4), (("pred_info" : Str), 5)]def Zep : Stmt := Z8 (Zaq (Z8 PySem.Challenge.pw_sr0004_04.main.body 5)) 0
noncomputable def Zsy : List (Str × NameKind) := [(("self" : Str), .local), (("graph" : Str), .local), (("node" : Str), .local), (("predecessors" : Str), .local)]noncomputable def Zsz : List (Str × Nat) := [(("self" : Str), 0), (("graph" : Str), 1), (("node" : Str), 2), (("predecessors" : Str), 3)]def Zmc : Stmt := Z8 (Zaq (Z8 PySem.Challenge.pw_sr0004_04.main.body 5)) 8
noncomputable def Zxp : List (Str × NameKind) := [(("self" : Str), .local), (("n2i" : Str), .local), (("stack" : Str), .local), (("itstack" : Str), .local), (("seen" : Str), .local), (("node2stacki" : Str), .local), (("node" : Str), .local), (("set" : Str), .globalImplicit), (("iter" : Str), .globalImplicit), (("len" : Str), .globalImplicit), (("StopIteration" : Str), .globalImplicit)]noncomputable def Zxq : List (Str × Nat) := [(("self" : Str), 0), (("n2i" : Str), 1), (("stack" : Str), 2), (("itstack" : Str), 3), (("seen" : Str), 4), (("node2stacki" : Str), 5), (("node" : Str), 6)]def Zh1 : Stmt := Z8 (Zaq (Z8 PySem.Challenge.pw_sr0004_04.main.body 5)) 3
noncomputable def Zs0 : List (Str × NameKind) := [(("self" : Str), .local), (("cycle" : Str), .local), (("ValueError" : Str), .globalImplicit), (("CycleError" : Str), .globalImplicit)]noncomputable def Zs1 : List (Str × Nat) := [(("self" : Str), 0), (("cycle" : Str), 1)]def Zgi : Stmt := Z8 (Zaq (Z8 PySem.Challenge.pw_sr0004_04.main.body 5)) 4
noncomputable def Zpb : List (Str × NameKind) := [(("self" : Str), .local), (("result" : Str), .local), (("n2i" : Str), .local), (("node" : Str), .local), (("ValueError" : Str), .globalImplicit), (("tuple" : Str), .globalImplicit), (("_NODE_OUT" : Str), .globalImplicit), (("len" : Str), .globalImplicit)]noncomputable def Zpc : List (Str × Nat) := [(("self" : Str), 0), (("result" : Str), 1), (("n2i" : Str), 2), (("node" : Str), 3)]def Zgj : Stmt := Z8 (Zaq (Z8 PySem.Challenge.pw_sr0004_04.main.body 5)) 5
noncomputable def Zpd : List (Str × NameKind) := [(("self" : Str), .local), (("ValueError" : Str), .globalImplicit), (("bool" : Str), .globalImplicit)]noncomputable def Zpe : List (Str × Nat) := [(("self" : Str), 0)]def Zmd : Stmt := Z8 (Zaq (Z8 PySem.Challenge.pw_sr0004_04.main.body 5)) 7
noncomputable def Zxr : List (Str × NameKind) := [(("self" : Str), .local), (("nodes" : Str), .local), (("n2i" : Str), .local), (("node" : Str), .local), (("nodeinfo" : Str), .local), (("stat" : Str), .local), (("successor" : Str), .local), (("successor_info" : Str), .local), (("ValueError" : Str), .globalImplicit), (("_NODE_OUT" : Str), .globalImplicit), (("_NODE_DONE" : Str), .globalImplicit)]noncomputable def Zxs : List (Str × Nat) := [(("self" : Str), 0), (("nodes" : Str), 1), (("n2i" : Str), 2), (("node" : Str), 3), (("nodeinfo" : Str), 4), (("stat" : Str), 5), (("successor" : Str), 6), (("successor_info" : Str), 7)]def Za8 : Stmt := Z8 (Zaq (Z8 PySem.Challenge.pw_sr0004_04.main.body 5)) 9
noncomputable def Zuf : List (Str × NameKind) := [(("self" : Str), .local), (("node_group" : Str), .local)]noncomputable def Zug : List (Str × Nat) := [(("self" : Str), 0), (("node_group" : Str), 1)]def Zgk : Stmt := Z8 PySem.Challenge.pw_sr0004_04.main.body 7
noncomputable def Zpf : List (Str × NameKind) := [(("script" : Str), .local), (("slots" : Str), .local), (("place" : Str), .local), (("calls" : Str), .local), (("number" : Str), .local), (("kind" : Str), .local), (("rest" : Str), .local), (("names" : Str), .local), (("more" : Str), .local), (("turn" : Str), .local), (("range" : Str), .globalImplicit), (("len" : Str), .globalImplicit)]noncomputable def Zpg : List (Str × Nat) := [(("script" : Str), 0), (("slots" : Str), 1), (("place" : Str), 2), (("calls" : Str), 3), (("number" : Str), 4), (("kind" : Str), 5), (("rest" : Str), 6), (("names" : Str), 7), (("more" : Str), 8), (("turn" : Str), 9)]def Zfq : Stmt := Z8 PySem.Challenge.pw_sr0004_04.main.body 8
noncomputable def Zns : List (Str × NameKind) := [(("sorter" : Str), .local), (("kind" : Str), .local), (("names" : Str), .local), (("answer" : Str), .local), (("walked" : Str), .local), (("name" : Str), .local), (("isinstance" : Str), .globalImplicit), (("bool" : Str), .globalImplicit), (("CycleError" : Str), .globalImplicit), (("ValueError" : Str), .globalImplicit)]noncomputable def Znt : List (Str × Nat) := [(("sorter" : Str), 0), (("kind" : Str), 1), (("names" : Str), 2), (("answer" : Str), 3), (("walked" : Str), 4), (("name" : Str), 5)]def Zgl : Stmt := Z8 PySem.Challenge.pw_sr0004_04.main.body 9
noncomputable def Zph : List (Str × NameKind) := [(("named" : Str), .local), (("told" : Str), .cell), (("handed" : Str), .local), (("finished" : Str), .cell), (("ready" : Str), .local), (("name" : Str), .cell), (("place" : Str), .local), (("places" : Str), .local), (("late" : Str), .local), (("spot" : Str), .local), (("range" : Str), .globalImplicit), (("len" : Str), .globalImplicit), (("all" : Str), .globalImplicit), (("sorted" : Str), .globalImplicit)]noncomputable def Zpi : List (Str × Nat) := [(("named" : Str), 0), (("told" : Str), 1), (("handed" : Str), 2), (("finished" : Str), 3), (("ready" : Str), 4), (("name" : Str), 5), (("place" : Str), 6), (("places" : Str), 7), (("late" : Str), 8), (("spot" : Str), 9)]def Ze3 : Stmt := Z8 PySem.Challenge.pw_sr0004_04.main.body 10
noncomputable def Zme : List (Str × NameKind) := [(("named" : Str), .local), (("told" : Str), .cell), (("opened" : Str), .local), (("handed" : Str), .local), (("finished" : Str), .local), (("kind" : Str), .local), (("names" : Str), .local), (("name" : Str), .local), (("tail" : Str), .local), (("left" : Str), .cell), (("turn" : Str), .local), (("ready" : Str), .local), (("len" : Str), .globalImplicit), (("list" : Str), .globalImplicit), (("range" : Str), .globalImplicit), (("_law_ready" : Str), .globalImplicit), (("tuple" : Str), .globalImplicit)]noncomputable def Zmf : List (Str × Nat) := [(("named" : Str), 0), (("told" : Str), 1), (("opened" : Str), 2), (("handed" : Str), 3), (("finished" : Str), 4), (("kind" : Str), 5), (("names" : Str), 6), (("name" : Str), 7), (("tail" : Str), 8), (("left" : Str), 9), (("turn" : Str), 10), (("ready" : Str), 11)]def Zfr : Stmt := Z8 PySem.Challenge.pw_sr0004_04.main.body 11
noncomputable def Znu : List (Str × NameKind) := [(("sorter" : Str), .local), (("table" : Str), .local), (("name" : Str), .local), (("info" : Str), .local)]noncomputable def Znv : List (Str × Nat) := [(("sorter" : Str), 0), (("table" : Str), 1), (("name" : Str), 2), (("info" : Str), 3)]def Zc8 : Stmt := Z8 PySem.Challenge.pw_sr0004_04.main.body 12
noncomputable def Zjk : List (Str × NameKind) := [(("named" : Str), .local), (("told" : Str), .local), (("opened" : Str), .local), (("handed" : Str), .local), (("finished" : Str), .cell), (("table" : Str), .local), (("name" : Str), .cell), (("count" : Str), .local), (("ready" : Str), .local), (("len" : Str), .globalImplicit), (("_law_ready" : Str), .globalImplicit)]noncomputable def Zjl : List (Str × Nat) := [(("named" : Str), 0), (("told" : Str), 1), (("opened" : Str), 2), (("handed" : Str), 3), (("finished" : Str), 4), (("table" : Str), 5), (("name" : Str), 6), (("count" : Str), 7), (("ready" : Str), 8)]def Zpj : Stmt := Z8 PySem.Challenge.pw_sr0004_04.main.body 13
noncomputable def Zy0 : List (Str × NameKind) := [(("script" : Str), .local), (("sorter" : Str), .local), (("named" : Str), .local), (("told" : Str), .local), (("opened" : Str), .local), (("handed" : Str), .local), (("finished" : Str), .cell), (("kind" : Str), .local), (("names" : Str), .local), (("expected" : Str), .local), (("TopologicalSorter" : Str), .globalImplicit), (("_law_calls" : Str), .globalImplicit), (("_law_written" : Str), .globalImplicit), (("_law_answer" : Str), .globalImplicit), (("_law_inside" : Str), .globalImplicit), (("_law_told_inside" : Str), .globalImplicit)]noncomputable def Zy1 : List (Str × Nat) := [(("script" : Str), 0), (("sorter" : Str), 1), (("named" : Str), 2), (("told" : Str), 3), (("opened" : Str), 4), (("handed" : Str), 5), (("finished" : Str), 6), (("kind" : Str), 7), (("names" : Str), 8), (("expected" : Str), 9)]
set_option genInjectivity false in
structure Fa where
 a_ni_init : Addr
 a_get_info : Addr
 a_add : Addr
 a_ts_init : Addr
 a_find : Addr
 a_prepare : Addr
 a_get_ready : Addr
 a_is_active : Addr
 a_done : Addr
 a_static : Addr
 a_law_calls : Addr
 a_law_answer : Addr
 a_law_ready : Addr
 a_law_written : Addr
 a_law_inside : Addr
 a_law_told_inside : Addr
 a_law : Addr
structure Facts (c : Cx) (d : Ad) (z : Fa) : Prop where
 f_ni_init : FnOk c z.a_ni_init Zh0 (λ fd => fd.defaults = .none)
 f_get_info : FnOk c z.a_get_info Zg7 (λ fd => fd.defaults = .none)
 f_add : FnOk c z.a_add Zpa (λ fd => fd.defaults = .none)
 f_ts_init : FnOk c z.a_ts_init Zep (λ fd => ∃ t k, fd.defaults = .ref t ∧ c.K.lookup t = some { cls := .type "tuple", data := .seq #[.none] k })
 f_find : FnOk c z.a_find Zmc (λ fd => fd.defaults = .none)
 f_prepare : FnOk c z.a_prepare Zh1 (λ fd => fd.defaults = .none)
 f_get_ready : FnOk c z.a_get_ready Zgi (λ fd => fd.defaults = .none)
 f_is_active : FnOk c z.a_is_active Zgj (λ fd => fd.defaults = .none)
 f_done : FnOk c z.a_done Zmd (λ fd => fd.defaults = .none)
 f_static : GnOk c z.a_static Za8
 f_law_calls : FnOk c z.a_law_calls Zgk (λ fd => fd.defaults = .none)
 f_law_answer : FnOk c z.a_law_answer Zfq (λ fd => fd.defaults = .none)
 f_law_ready : FnOk c z.a_law_ready Zgl (λ fd => fd.defaults = .none)
 f_law_written : FnOk c z.a_law_written Ze3 (λ fd => fd.defaults = .none)
 f_law_inside : FnOk c z.a_law_inside Zfr (λ fd => fd.defaults = .none)
 f_law_told_inside : FnOk c z.a_law_told_inside Zc8 (λ fd => fd.defaults = .none)
 f_law : FnOk c z.a_law Zpj (λ fd => fd.defaults = .none)
 m_get_info : MethAt c d.TS ("_get_nodeinfo" : Str) z.a_get_info
 m_add : MethAt c d.TS ("add" : Str) z.a_add
 m_find : MethAt c d.TS ("_find_cycle" : Str) z.a_find
 m_prepare : MethAt c d.TS ("prepare" : Str) z.a_prepare
 m_get_ready : MethAt c d.TS ("get_ready" : Str) z.a_get_ready
 m_is_active : MethAt c d.TS ("is_active" : Str) z.a_is_active
 m_done : MethAt c d.TS ("done" : Str) z.a_done
 m_static : MethAt c d.TS ("static_order" : Str) z.a_static
 g_law_calls : nsIn c.K mainGlobals ("_law_calls" : Str) = some (some (.ref z.a_law_calls))
 g_law_answer : nsIn c.K mainGlobals ("_law_answer" : Str) = some (some (.ref z.a_law_answer))
 g_law_ready : nsIn c.K mainGlobals ("_law_ready" : Str) = some (some (.ref z.a_law_ready))
 g_law_written : nsIn c.K mainGlobals ("_law_written" : Str) = some (some (.ref z.a_law_written))
 g_law_inside : nsIn c.K mainGlobals ("_law_inside" : Str) = some (some (.ref z.a_law_inside))
 g_law_told_inside : nsIn c.K mainGlobals ("_law_told_inside" : Str) = some (some (.ref z.a_law_told_inside))
 g_law : nsIn c.K mainGlobals ("law" : Str) = some (some (.ref z.a_law))
 n_nfinished : OwnName c d.TS ("_nfinished" : Str)
 o_nfinished : OwnStore c d.TS ("_nfinished" : Str)
 n_node2info : OwnName c d.TS ("_node2info" : Str)
 o_node2info : OwnStore c d.TS ("_node2info" : Str)
 n_npassedout : OwnName c d.TS ("_npassedout" : Str)
 o_npassedout : OwnStore c d.TS ("_npassedout" : Str)
 n_ready_nodes : OwnName c d.TS ("_ready_nodes" : Str)
 o_ready_nodes : OwnStore c d.TS ("_ready_nodes" : Str)
 s_node : SlotStore c d.NI ("node" : Str) 0
 s_npredecessors : SlotStore c d.NI ("npredecessors" : Str) 1
 s_successors : SlotStore c d.NI ("successors" : Str) 2
 g_NI : nsIn c.K mainGlobals ("_NodeInfo" : Str) = some (some (.ref d.NI))
 g_TS : nsIn c.K mainGlobals ("TopologicalSorter" : Str) = some (some (.ref d.TS))
 mk_NI : MakeAt c d.NI z.a_ni_init
 mk_TS : MakeAt c d.TS z.a_ts_init
 x_CE : OwnExc c ("CycleError" : Str) d.CE "ValueError.__new__" [.type "ValueError", .type "Exception", .type "BaseException", .type "object"]
 c_CE : CatchAt c (.ref d.CE) (isCE d)
 c_StopIteration : CatchAt c (.type "StopIteration") (Zb7 d)
 c_SI : CatchAt c (.type "StopIteration") (isSI d)
 c_ValueError : CatchAt c (.type "ValueError") (Zcf d)
 node_out : ∃ t, nsIn c.K mainGlobals ("_NODE_OUT" : Str) = some (some (.int (-1) t))
 node_done : ∃ t, nsIn c.K mainGlobals ("_NODE_DONE" : Str) = some (some (.int (-2) t))
 bui : ∀ x : Str, buiNames.contains x = true -> nsIn c.K mainGlobals x = some none
theorem Facts.bu {c : Cx} {d : Ad} {z : Fa} (Γ : Facts c d z) {x : Str} (h : buiNames.contains x = true := by kernel_rfl) : nsIn c.K mainGlobals x = some none := Γ.bui x h

section
variable {c : Cx} {d : Ad} {z : Fa}theorem Zqw (Γ : Facts c d z) : Zcg c Zh0 0 (Zjg d) := Zdp (ns := Zsw) (vs := Zsx) (n := 2) λ G hfr hh => by exact Zb (Zi G.name (Zbn G.name (λ _ _ _ _ => Zbp Γ.s_node)) rfl rfl rfl) (Zb (Zi Zn (Zbn G.name (λ _ _ _ _ => Zbp Γ.s_npredecessors)) rfl rfl rfl) (Zb (Zi (Zm true .nil) (Zbn G.name (λ _ _ _ _ => Zbp Γ.s_successors)) rfl rfl rfl) Ze))theorem Zs2 (Γ : Facts c d z) : Zad c z.a_ni_init 0 (Zjh d) := okP (m := 2) [("self" : Str), ("node" : Str)] Γ.f_ni_init (Zqw Γ) (λ xs fr h => by rcases xs with _ | ⟨_, _ | ⟨_, _ | ⟨_, _⟩⟩⟩ <;> first | exact Zq h | (cases h; exact ⟨_, rfl, rfl⟩)) λ _ _ => rfl
theorem Zpk (Γ : Facts c d z) : Zcg c Zg7 2 (Zhz d) := Zdp (ns := Zqu) (vs := Zqv) (n := 3) λ G hfr hh => by exact Zb (Zz (Zo (Zih (Zkf rfl rfl rfl (Zs Γ.n_node2info G.name rfl) (.cons G.name .nil)) G.asg) Za3 rfl) (Zb (Zqj (G.callC hh (by kernel_rfl) Γ.g_NI Γ.mk_NI (Zs2 Γ) (by decide) (.cons G.name .nil)) (Zod (Zs Γ.n_node2info G.name rfl) G.name) G.asg rfl rfl) Ze) Ze) (Zb (Zr G.name) Ze)theorem Zkj (Γ : Facts c d z) : Zad c z.a_get_info 2 (Zfz d) := okP (m := 2) [("self" : Str), ("node" : Str)] Γ.f_get_info (Zpk Γ) (λ xs fr h => by rcases xs with _ | ⟨_, _ | ⟨_, _ | ⟨_, _⟩⟩⟩ <;> first | exact Zq h | (cases h; exact ⟨_, rfl, rfl⟩)) λ _ _ => rfl
theorem Zxt (Γ : Facts c d z) : Zcg c Zpa 3 (g_add d) := Zdp (ns := Zyy) (vs := Zyz) (n := 6) λ G hfr hh => by exact Zb (Zz (Zo (Zs Γ.n_ready_nodes G.name rfl) Za3 rfl) (Zb (Zck PySem.F.excCall_ValueError PySem.F.excRaise_ValueError (by decide) hh rfl (G.hBui (by kernel_rfl) Γ.bu Zao) (.cons Zae .nil)) Ze) Ze) (Zb (Zi (G.callM hh Γ.m_get_info Γ.f_get_info rfl rfl rfl G.name (.cons G.name .nil) (Zkj Γ) (by decide)) G.asg rfl rfl rfl) (Zb (Ze9 G.name (G.callB Γ.bu Za4 (.cons G.name .nil) Zbg) (λ _ _ => Ziz Γ.s_npredecessors.toSlotName) (λ _ _ _ _ => Zbp Γ.s_npredecessors)) (Zb (Zax hfr hh Zj G.name G.asg (Zb (Zi (G.callM hh Γ.m_get_info Γ.f_get_info rfl rfl rfl G.name (.cons G.name .nil) (Zkj Γ) (by decide)) G.asg rfl rfl rfl) (Zb (Z9 (Zah rfl rfl rfl rfl (Zb8 Γ.s_successors.toSlotName G.name rfl) G.name) G.quiet rfl) Ze)) (λ _ => rfl)) Ze)))
theorem Zy2 (Γ : Facts c d z) : Zad c z.a_add 3 (k_add d) := okS (m := 2) [("self" : Str), ("node" : Str), ("predecessors" : Str)] Γ.f_add (Zxt Γ) (λ xs fr h => by
 rcases xs with _ | ⟨_, _ | ⟨_, r⟩⟩ <;> first | exact Zq h | skip
 have h : (match Z3 r with | true => some _ | false => none) = some fr := h
 cases hl : Z3 r with
 | false => rw [hl] at h; exact Zq h
 | true => rw [hl] at h; cases h; exact ⟨_, by unfold Zhl; simp [hl]; rfl, rfl⟩) λ _ r _ => by cases r <;> rfl
theorem Zqx (Γ : Facts c d z) : Zcg c Zep 4 (Zji d) := Zdp (ns := Zsy) (vs := Zsz) (n := 4) λ G hfr hh => by exact Zb (Zi Zn8 (Zbn G.name (λ _ _ _ _ => Zbo Γ.o_node2info)) rfl rfl rfl) (Zb (Zi Za3 (Zbn G.name (λ _ _ _ _ => Zbo Γ.o_ready_nodes)) rfl rfl rfl) (Zb (Zi Zn (Zbn G.name (λ _ _ _ _ => Zbo Γ.o_npassedout)) rfl rfl rfl) (Zb (Zi Zn (Zbn G.name (λ _ _ _ _ => Zbo Γ.o_nfinished)) rfl rfl rfl) (Zb (Zz (Zo G.name Za3 rfl) (Zb (Sim.J) Ze) Ze) Ze))))
theorem Zqy {c : Cx} {fd : FuncData} (hp : fd.params = Zcq Zep) {t : Addr} {k : Nat} (hd : fd.defaults = .ref t) (ht : c.K.lookup t = some { cls := .type "tuple", data := .seq #[.none] k }) (hs : fd.scope = Z1 Zep) : Binds c fd [("self" : Str), ("graph" : Str)] (Zmu 2) := Zsr (by unfold Zig; rw [hs]; kernel_rfl) ht λ vs A s Q E ht => by
 obtain ⟨a1, a2, a3, a4, a5, a6, a7, a8, a9, a10, a11, a12, a13, a14, a15⟩ := fd
 dsimp only at hp hd
 subst hp hd
 refine ⟨λ hl h => ?_, λ hl h => ?_⟩
 ·obtain ⟨v0, v1, rfl⟩ := len2 hl
  show wpAny _ _ (seqItems? (.ref t) >>= _) _ _ s
  exact Qb (wpAny_seqItems ht rfl (Qp h))
 ·obtain ⟨v0, rfl⟩ := Zfv hl
  show wpAny _ _ (seqItems? (.ref t) >>= _) _ _ s
  exact Qb (wpAny_seqItems ht rfl (Qp h))
theorem Zs3 {c : Cx} {d : Ad} {z : Fa} (Γ : Facts c d z) : Zad c z.a_ts_init 4 (Zjj d) := by
 obtain ⟨fd, hat, hs, hp, hg, hb, hd⟩ := Γ.f_ts_init.ok
 obtain ⟨t, k, hd, ht⟩ := hd
 refine Zad.mk hat (Zqy hp hd ht hs) ?_ λ L outer => Zqx Γ hs hg hb
 ·intro xs fr h
  rcases xs with _ | ⟨_, _ | ⟨_, _ | ⟨_, _⟩⟩⟩ <;> first | exact Zq h | (cases h; exact ⟨_, rfl, by rw [hs]; rfl⟩)theorem Zv0 (Γ : Facts c d z) : Zcg c Zmc 1 (Zo8 d) := Zdp (ns := Zxp) (vs := Zxq) (n := 7) λ G hfr hh => by exact Zb (Zi (Zs Γ.n_node2info G.name rfl) G.asg rfl rfl rfl) (Zb (Zi (Zm true .nil) G.asg rfl rfl rfl) (Zb (Zi (Zm true .nil) G.asg rfl rfl rfl) (Zb (Zi (G.callT Γ.bu Zvj .nil Zxb) G.asg rfl rfl rfl) (Zb (Zi Zn8 G.asg rfl rfl rfl) (Zb (Zax hfr hh Zj G.name G.asg (Zb (Zz (Zo G.name G.name rfl) (Zb Ziu Ze) Ze) (Zb (Zmy hfr Zj (Zc2 Zez rfl) (Zb (Zz (Zo G.name G.name rfl) (Zb (Zz (Zo G.name G.name rfl) (Zb (Zr (Zht false (Zlh false G.name (Zy G.name G.name (λ _ _ => rfl)) (λ _ _ => rfl)) (Zm false (.cons G.name .nil)))) Ze) Ze) Ze) (Zb (Z9 (Zsj rfl rfl rfl G.name (.cons G.name .nil)) G.quiet rfl) (Zb (Z9 (Zah rfl rfl rfl rfl G.name (Zve (G.callB Γ.bu Zt7 (.cons (Zb8 Γ.s_successors.toSlotName (Zy G.name G.name (λ _ _ => rfl)) rfl) .nil) Zvd) rfl)) G.quiet rfl) (Zb (Zi (G.callB Γ.bu Za4 (.cons G.name .nil) Zbg) (Zod G.name G.name) rfl rfl rfl) (Zb (Z9 (Zah rfl rfl rfl rfl G.name G.name) G.quiet rfl) Ze))))) (Zb (Zmy hfr Zj (Zc2 G.name rfl) (Zb (have G4 := G.handling; Zrc hfr (Zb (Zi (Zni hh (Zy G.name (Zhu Zn) (λ _ _ => rfl)) rfl) G.asg rfl rfl rfl) (Zb Zmx Ze)) (.cons (G.handling.hBui (by kernel_rfl) Γ.bu Zjd) Γ.c_StopIteration (Zb (Zsg G4.name (Zq5 rfl rfl rfl G4.name)) (Zb (Z9 (Zq5 rfl rfl rfl G4.name) G4.quiet rfl) Ze)) .nil)) Ze) (Zb Zmx Ze)) Ze)) Ze) Ze)) (λ _ => rfl)) (Zb (Zr Za3) Ze))))))theorem Zxu (Γ : Facts c d z) : Zad c z.a_find 1 (Zo9 d) := okP (m := 1) [("self" : Str)] Γ.f_find (Zv0 Γ) (λ xs fr h => by rcases xs with _ | ⟨_, _ | ⟨_, _⟩⟩ <;> first | exact Zq h | (cases h; exact ⟨_, rfl, rfl⟩)) λ _ _ => rfl
theorem Zqz (Γ : Facts c d z) : Zcg c Zh1 4 (Zgw d) := Zdp (ns := Zs0) (vs := Zs1) (n := 2) λ G hfr hh => by exact Zb (Zz (Zo (Zs Γ.n_ready_nodes G.name rfl) Za3 rfl) (Zb (Zck PySem.F.excCall_ValueError PySem.F.excRaise_ValueError (by decide) hh rfl (G.hBui (by kernel_rfl) Γ.bu Zao) (.cons Zae .nil)) Ze) Ze) (Zb (Zi (G.listComp hh rfl (by kernel_rfl) (by kernel_rfl) (λ _ => rfl) (Zsl rfl rfl rfl (Zs Γ.n_node2info G.name rfl) .nil) (λ Lc acc i G1 => Zhb G1.asg (Zo (Zb8 Γ.s_npredecessors.toSlotName G1.name rfl) Zn rfl) (Zb8 Γ.s_node.toSlotName G1.name rfl))) (Zbn G.name (λ _ _ _ _ => Zbo Γ.o_ready_nodes)) rfl rfl rfl) (Zb (Zi (G.callM hh Γ.m_find Γ.f_find rfl rfl rfl G.name .nil (Zxu Γ) (by decide)) G.asg rfl rfl rfl) (Zb (Zz (Zc2 G.name rfl) (Zb (Zog PySem.F.excBase_ValueError Γ.x_CE hh rfl (G.hGlob (by kernel_rfl) Γ.x_CE.glob) (.cons (Znj Zae) (.cons G.name .nil))) Ze) Ze) Ze)))theorem Zls (Γ : Facts c d z) : Zad c z.a_prepare 4 (Zc7 d) := okP (m := 1) [("self" : Str)] Γ.f_prepare (Zqz Γ) (λ xs fr h => by rcases xs with _ | ⟨_, _ | ⟨_, _⟩⟩ <;> first | exact Zq h | (cases h; exact ⟨_, rfl, rfl⟩)) λ _ _ => rfl
theorem Znw (Γ : Facts c d z) : Zcg c Zgi 1 (Zfa d) := Zdp (ns := Zpb) (vs := Zpc) (n := 4) λ G hfr hh => by exact Zb (Zz (Zo (Zs Γ.n_ready_nodes G.name rfl) Za3 rfl) (Zb (Zck PySem.F.excCall_ValueError PySem.F.excRaise_ValueError (by decide) hh rfl (G.hBui (by kernel_rfl) Γ.bu Zao) (.cons Zae .nil)) Ze) Ze) (Zb (Zi (G.callT Γ.bu Zlk (.cons (Zs Γ.n_ready_nodes G.name rfl) .nil) Zm2) G.asg rfl rfl rfl) (Zb (Zi (Zs Γ.n_node2info G.name rfl) G.asg rfl rfl rfl) (Zb (Zax hfr hh Zj G.name G.asg (Zb (Zi (G.globI (by kernel_rfl) Γ.node_out) (Zbn (Zy G.name G.name (λ _ _ => rfl)) (λ _ _ _ _ => Zbp Γ.s_npredecessors)) rfl rfl rfl) Ze) (λ _ => rfl)) (Zb (Z9 (Ztt rfl rfl rfl (Zs Γ.n_ready_nodes G.name rfl)) G.quiet rfl) (Zb (Ze9 G.name (G.callB Γ.bu Za4 (.cons G.name .nil) Zbg) (λ _ _ => Ziy Γ.n_npassedout) (λ _ _ _ _ => Zbo Γ.o_npassedout)) (Zb (Zr G.name) Ze))))))theorem Zjm (Γ : Facts c d z) : Zad c z.a_get_ready 1 (Zcw d) := okP (m := 1) [("self" : Str)] Γ.f_get_ready (Znw Γ) (λ xs fr h => by rcases xs with _ | ⟨_, _ | ⟨_, _⟩⟩ <;> first | exact Zq h | (cases h; exact ⟨_, rfl, rfl⟩)) λ _ _ => rfl
theorem Znx (Γ : Facts c d z) : Zcg c Zgj 1 (Zfb d) := Zdp (ns := Zpd) (vs := Zpe) (n := 1) λ G hfr hh => by exact Zb (Zz (Zo (Zs Γ.n_ready_nodes G.name rfl) Za3 rfl) (Zb (Zck PySem.F.excCall_ValueError PySem.F.excRaise_ValueError (by decide) hh rfl (G.hBui (by kernel_rfl) Γ.bu Zao) (.cons Zae .nil)) Ze) Ze) (Zb (Zr (Zho (Zor (Zc4 (Zs Γ.n_nfinished G.name rfl) (Zs Γ.n_npassedout G.name rfl) rfl) (Zis (G.callT Γ.bu Zm6 (.cons (Zs Γ.n_ready_nodes G.name rfl) .nil) Zsm))))) Ze)theorem Zjn (Γ : Facts c d z) : Zad c z.a_is_active 1 (Zds d) := okP (m := 1) [("self" : Str)] Γ.f_is_active (Znx Γ) (λ xs fr h => by rcases xs with _ | ⟨_, _ | ⟨_, _⟩⟩ <;> first | exact Zq h | (cases h; exact ⟨_, rfl, rfl⟩)) λ _ _ => rfl
theorem Zv1 (Γ : Facts c d z) : Zcg c Zmd 1 (Zlo d) := Zdp (ns := Zxr) (vs := Zxs) (n := 8) λ G hfr hh => by exact Zb (Zz (Zo (Zs Γ.n_ready_nodes G.name rfl) Za3 rfl) (Zb (Zck PySem.F.excCall_ValueError PySem.F.excRaise_ValueError (by decide) hh rfl (G.hBui (by kernel_rfl) Γ.bu Zao) (.cons Zae .nil)) Ze) Ze) (Zb (Zi (Zs Γ.n_node2info G.name rfl) G.asg rfl rfl rfl) (Zb (Zax hfr hh Zj G.name G.asg (Zb (Zz (Zo (Zih (Zkf rfl rfl rfl G.name (.cons G.name .nil)) G.asg) Za3 rfl) (Zb (Zck PySem.F.excCall_ValueError PySem.F.excRaise_ValueError (by decide) hh rfl (G.hBui (by kernel_rfl) Γ.bu Zao) (.cons (Zl9 G.name (by kernel_rfl)) .nil)) Ze) Ze) (Zb (Zi (Zb8 Γ.s_npredecessors.toSlotName G.name rfl) G.asg rfl rfl rfl) (Zb (Zz (Zo G.name (G.globI (by kernel_rfl) Γ.node_out) rfl) (Zb (Zz (Zo G.name Zn rfl) (Zb (Zck PySem.F.excCall_ValueError PySem.F.excRaise_ValueError (by decide) hh rfl (G.hBui (by kernel_rfl) Γ.bu Zao) (.cons (Zl9 G.name (by kernel_rfl)) .nil)) Ze) (Zb (Zz (Zo G.name (G.globI (by kernel_rfl) Γ.node_done) rfl) (Zb (Zck PySem.F.excCall_ValueError PySem.F.excRaise_ValueError (by decide) hh rfl (G.hBui (by kernel_rfl) Γ.bu Zao) (.cons (Zl9 G.name (by kernel_rfl)) .nil)) Ze) (Zb (Sim.J) Ze)) Ze)) Ze) Ze) (Zb (Zi (G.globI (by kernel_rfl) Γ.node_done) (Zbn G.name (λ _ _ _ _ => Zbp Γ.s_npredecessors)) rfl rfl rfl) (Zb (Zax hfr hh Zj (Zb8 Γ.s_successors.toSlotName G.name rfl) G.asg (Zb (Zi (Zy G.name G.name (λ _ _ => rfl)) G.asg rfl rfl rfl) (Zb (Ze9 G.name Zn (λ _ _ => Ziz Γ.s_npredecessors.toSlotName) (λ _ _ _ _ => Zbp Γ.s_npredecessors)) (Zb (Zz (Zo (Zb8 Γ.s_npredecessors.toSlotName G.name rfl) Zn rfl) (Zb (Z9 (Zah rfl rfl rfl rfl (Zs Γ.n_ready_nodes G.name rfl) G.name) G.quiet rfl) Ze) Ze) Ze))) (λ _ => rfl)) (Zb (Ze9 G.name Zn (λ _ _ => Ziy Γ.n_nfinished) (λ _ _ _ _ => Zbo Γ.o_nfinished)) Ze)))))) (λ _ => rfl)) Ze))
theorem Zrm (Γ : Facts c d z) : Zad c z.a_done 1 (Zgh d) := okS (m := 1) [("self" : Str), ("nodes" : Str)] Γ.f_done (Zv1 Γ) (λ xs fr h => by
 rcases xs with _ | ⟨_, r⟩ <;> first | exact Zq h | skip
 have h : (match Z3 r with | true => some _ | false => none) = some fr := h
 cases hl : Z3 r with
 | false => rw [hl] at h; exact Zq h
 | true => rw [hl] at h; cases h; exact ⟨_, by unfold Zhl; simp [hl]; rfl, rfl⟩) λ _ r _ => by cases r <;> rfl
theorem Zeq {c : Cx} {d : Ad} {z : Fa} (Γ : Facts c d z) {fd : FuncData} {L a : Addr} {outer : List Env} (hs : fd.scope = Z1 Za8) (hg : fd.globals = mainGlobals) (hb : fd.builtins = builtinsNs) :
  Zaz c (Zaf fd L a outer 5) (Z8 (Zaq Za8) 0) (Zd9 d) ∧ Zer c (Zaf fd L a outer 5) (whT (Z8 (Zaq Za8) 1)) (Ze2 d) ∧ Zaz c (Zaf fd L a outer 5) (Z8 (whB (Z8 (Zaq Za8) 1)) 0) (Zea d) ∧ Zk c (Zaf fd L a outer 5) (yfE (Z8 (whB (Z8 (Zaq Za8) 1)) 1)) (Zfh d) ∧ Zaz c (Zaf fd L a outer 5) (Z8 (whB (Z8 (Zaq Za8) 1)) 2) (Zfi d) := by
 have G : FxG (Zaf fd L a outer 5) Zuf Zug 2 5 := FxG.fn hs rfl hg hb (Qh (by kernel_rfl))
 have hh : (Zaf fd L a outer 5).hd = true := rfl
 generalize Zaf fd L a outer 5 = F at G hh
 exact ⟨Z9 (G.callM hh Γ.m_prepare Γ.f_prepare rfl rfl rfl G.name .nil (Zls Γ) (by decide)) G.quiet rfl, Zc2 (G.callM hh Γ.m_is_active Γ.f_is_active rfl rfl rfl G.name .nil (Zjn Γ) (by decide)) rfl, Zi (G.callM hh Γ.m_get_ready Γ.f_get_ready rfl rfl rfl G.name .nil (Zjm Γ) (by decide)) G.asg rfl rfl rfl, G.name, Z9 (G.callM hh Γ.m_done Γ.f_done rfl rfl rfl G.name (.star G.name) (Zrm Γ) (by decide)) G.quiet rfl⟩
theorem Zs4 {c : Cx} {fd : FuncData} (hp : fd.params = Zcq Za8) (hd : fd.defaults = .none) (hs : fd.scope = Z1 Za8) : Binds c fd [("self" : Str)] (Zif 1) := Zkg (by unfold Zig; rw [hs]; kernel_rfl) λ vs hl => by
 rcases vs with _ | ⟨v0, _ | ⟨_, _⟩⟩ <;> first | (simp at hl; done) | skip
 obtain ⟨a1, a2, a3, a4, a5, a6, a7, a8, a9, a10, a11, a12, a13, a14, a15⟩ := fd
 dsimp only at hp hd
 subst hp hd
 rfl
theorem Zs5 {c : Cx} {d : Ad} {z : Fa} (Γg : ∀ g, Facts (c.gn g) d z) {F : Fx} {outer : List Env} {o : Expr} {apos pos fpos : Pos} {target : Expr} {body : List Stmt} {fo : PM PV} {asg : PV -> PM Unit} {bm : PM MF} (hfr : F.frames = F.env :: outer) (hh : F.hd = true) (hlv : 5 + 1 <= F.lv)
  (hbase : attributeBase o ("static_order" : Str) F.env (eval o F.env) = eval o F.env) (hpos : (apos.endLine == pos.line) = true) (ho : Zk c F o fo)
  (hasg : ∀ g, Zfu (c.gn g) F (assign target F.env) asg) (hbody : ∀ g, Zbx (c.gn g) F body bm) (hlet : ∀ it w, letOwnedTupleGo target it w = pure ()) (hs : ∀ x, foldedSetIterable (.Call (.Attribute o ("static_order" : Str) apos) [] [] pos) F.env x = pure x) :
  Zaz c F (.For target (.Call (.Attribute o ("static_order" : Str) apos) [] [] pos) body [] fpos) (Zjx d.TS ("static_order" : Str) (isSI d) Zlp fo (Zd9 d) (Ze2 d) (Zea d) (Zfh d) (Zfi d) asg bm Zj) := by
 have Γ : Facts c d z := Γg c.g0
 obtain ⟨fd, hat, hsc, hp, hg, hb, hd⟩ := Γ.f_static.ok
 have eb : Zaq Za8 = gnBody (Zaq Za8) := by kernel_rfl
 rw [eb] at hat
 refine Zsu hfr hh Zj Γ.m_static hat (Zs4 hp hd hsc) ?_ hlv hbase hpos ho Γ.c_SI ?_ ?_ ?_ ?_ ?_ ?_ hasg hbody hlet hs
 ·intro xs fr h
  rcases xs with _ | ⟨_, _ | ⟨_, _⟩⟩ <;> first | exact Zq h | (cases h; exact ⟨_, rfl, by rw [hsc]; rfl⟩)
 ·exact λ L => by
   unfold interactive
   show (fd.scope.kind == _ && _) = false
   rw [hsc]; rfl
 ·exact λ L outer g => (Zeq (Γg g) hsc hg hb).2.1
 ·exact λ L outer g => (Zeq (Γg g) hsc hg hb).1
 ·exact λ L outer g => (Zeq (Γg g) hsc hg hb).2.2.1
 ·exact λ L outer g => (Zeq (Γg g) hsc hg hb).2.2.2.1
 ·exact λ L outer g => (Zeq (Γg g) hsc hg hb).2.2.2.2
end

section
variable {c : Cx} {d : Ad} {z : Fa}theorem Zny (Γ : Facts c d z) : Zcg c Zgk 6 (g_law_calls d) := Zdp (ns := Zpf) (vs := Zpg) (n := 10) λ G hfr hh => by exact Zb (Zi (Zm true .nil) G.asg rfl rfl rfl) (Zb (Zax hfr hh Zj (G.callT Γ.bu Zej (.cons (G.callB Γ.bu Za4 (.cons G.name .nil) Zbg) .nil) Zff) G.asg (Zb (Zz (Zo G.name Zn rfl) (Zb (Z9 (Zah rfl rfl rfl rfl G.name (Zy G.name G.name (λ _ _ => rfl))) G.quiet rfl) Ze) (Zb (Zsf G.name (Zcn G.name Zn) (Zy G.name G.name (λ _ _ => rfl)) (λ _ _ _ => rfl)) Ze)) Ze) (λ _ => rfl)) (Zb (Zi (Zm true .nil) G.asg rfl rfl rfl) (Zb (Zax hfr hh Zj G.name G.asg (Zb (Zi (Zy (Zvx [(0, 0, ⟨133, 16, 133, 17⟩), (0, 0, ⟨133, 19, 133, 20⟩), (0, 0, ⟨133, 22, 133, 23⟩), (0, 0, ⟨133, 25, 133, 26⟩), (1, 0, ⟨133, 28, 133, 29⟩), (2, 0, ⟨133, 31, 133, 32⟩), (3, 0, ⟨133, 34, 133, 35⟩), (3, 0, ⟨133, 37, 133, 38⟩), (4, 0, ⟨133, 40, 133, 41⟩), (5, 0, ⟨133, 43, 133, 44⟩)]) (Zcn G.name Zn) (λ _ _ => rfl)) G.asg rfl rfl rfl) (Zb (Zi (Zcn G.name Zn) G.asg rfl rfl rfl) (Zb (Zi (Zm true (.cons (Zcn G.name Zn) .nil)) G.asg rfl rfl rfl) (Zb (Zi (Zcn G.name Zn) G.asg rfl rfl rfl) (Zb (Zi (Zcn G.name Zn) G.asg rfl rfl rfl) (Zb (Zi (Zcn G.name Zn) G.asg rfl rfl rfl) (Zb (Zax hfr hh Zj (G.callT Γ.bu Zej (.cons G.name .nil) Zff) G.asg (Zb (Z9 (Zah rfl rfl rfl rfl G.name (Zcn G.name Zn)) G.quiet rfl) (Zb (Zi (Zcn G.name Zn) G.asg rfl rfl rfl) Ze)) (λ _ => rfl)) (Zb (Z9 (Zah rfl rfl rfl rfl G.name (Zbm (.cons G.name (.cons G.name .nil)))) G.quiet rfl) Ze)))))))) (λ _ => rfl)) (Zb (Zr G.name) Ze))))theorem Zpl (Γ : Facts c d z) : Zad c z.a_law_calls 6 (Zg6 d) := okP (m := 1) [("script" : Str)] Γ.f_law_calls (Zny Γ) (λ xs fr h => by rcases xs with _ | ⟨_, _ | ⟨_, _⟩⟩ <;> first | exact Zq h | (cases h; exact ⟨_, rfl, rfl⟩)) λ _ _ => rfl
theorem Zmg (Γg : ∀ g, Facts (c.gn g) d z) : Zcg c Zfq 6 (g_law_answer d) := have Γ : Facts c d z := Γg c.g0
 Zdp (ns := Zns) (vs := Znt) (n := 6) λ G hfr hh => by exact Zb (have G2 := G.handling; Zrc hfr (Zb (Zz (Zo G.name Zn rfl) (Zb (Zr (Zm false (.cons Zae (.cons (G.callM hh Γ.m_add Γ.f_add rfl rfl rfl G.name (.star G.name) (Zy2 Γ) (by decide)) .nil)))) Ze) Ze) (Zb (Zz (Zo G.name Zn rfl) (Zb (Zr (Zm false (.cons Zae (.cons (G.callM hh Γ.m_prepare Γ.f_prepare rfl rfl rfl G.name .nil (Zls Γ) (by decide)) .nil)))) Ze) Ze) (Zb (Zz (Zo G.name Zn rfl) (Zb (Zr (Zm false (.cons Zae (.cons (G.callM hh Γ.m_get_ready Γ.f_get_ready rfl rfl rfl G.name .nil (Zjm Γ) (by decide)) .nil)))) Ze) Ze) (Zb (Zz (Zo G.name Zn rfl) (Zb (Zr (Zm false (.cons Zae (.cons (G.callM hh Γ.m_done Γ.f_done rfl rfl rfl G.name (.star G.name) (Zrm Γ) (by decide)) .nil)))) Ze) Ze) (Zb (Zz (Zo G.name Zn rfl) (Zb (Zi (G.callM hh Γ.m_is_active Γ.f_is_active rfl rfl rfl G.name .nil (Zjn Γ) (by decide)) G.asg rfl rfl rfl) (Zb (Zr (Zm false (.cons Zae (.cons (Zm false (.cons (G.callB Γ.bu Zll (.cons G.name (.cons (G.typ Γ.bu Zm6) .nil)) Zsv) (.cons G.name .nil))) .nil)))) Ze)) Ze) (Zb (Zi (Zm true .nil) G.asg rfl rfl rfl) (Zb (Zs5 Γg hfr hh (by rw [G.lv]; decide) rfl rfl G.name (λ gg => have Γ := Γg gg; G.asg) (λ gg => have Γ := Γg gg; Zb (Z9 (Zah rfl rfl rfl rfl G.name G.name) G.quiet rfl) Ze) (λ _ _ => rfl) (λ _ => rfl)) (Zb (Zr (Zm false (.cons Zae (.cons G.name .nil)))) Ze)))))))) (.cons (G.handling.hGlob (by kernel_rfl) Γ.x_CE.glob) Γ.c_CE (Zb (Zr (Zm false (.cons Zae .nil))) Ze) (.cons (G.handling.hBui (by kernel_rfl) Γ.bu Zao) Γ.c_ValueError (Zb (Zr (Zm false (.cons Zae .nil))) Ze) .nil))) Ze
theorem Znz (Γg : ∀ g, Facts (c.gn g) d z) : Zad c z.a_law_answer 6 (Zek d) := have Γ : Facts c d z := Γg c.g0
 okP (m := 3) [("sorter" : Str), ("kind" : Str), ("names" : Str)] Γ.f_law_answer (Zmg Γg) (λ xs fr h => by rcases xs with _ | ⟨_, _ | ⟨_, _ | ⟨_, _ | ⟨_, _⟩⟩⟩⟩ <;> first | exact Zq h | (cases h; exact ⟨_, rfl, rfl⟩)) λ _ _ => rfl
theorem Zn0 (Γ : Facts c d z) : Zcg c Zgl 6 (g_law_ready d) := Zdp (ns := Zph) (vs := Zpi) (n := 10) λ G hfr hh => by exact Zb (Zi (Zm true .nil) G.asg rfl rfl rfl) (Zb (Zax hfr hh Zj G.name G.asg (Zb (Zz (Zo G.name G.name rfl) (Zb Ziu Ze) Ze) (Zb (G.asgComp hh rfl (by kernel_rfl) (by kernel_rfl) (λ _ => rfl) (by kernel_rfl) (G.callT Γ.bu Zej (.cons (G.callB Γ.bu Za4 (.cons G.name .nil) Zbg) .nil) Zff) (λ Lc acc i G5 => Zhb G5.asg (Zo (Zy (Zy G5.name G5.name (λ _ _ => rfl)) Zn (λ _ _ => rfl)) G5.name rfl) G5.name) G.asg) (Zb (Zz (Zc2 (G.callB Γ.bu Zvi (.cons (G.listComp hh rfl (by kernel_rfl) (by kernel_rfl) (λ _ => rfl) G.name (λ Lc acc i G3 => Zok G3.asg (Zc4 (Zy (Zy G3.name G3.name (λ _ _ => rfl)) Zn (λ _ _ => rfl)) G3.name rfl))) .nil) (Zw9 hh)) rfl) (Zb (Zi (Zhu Zn) G.asg rfl rfl rfl) (Zb (Zi (Zi9 rfl rfl rfl G.name (.cons G.name .nil)) G.asg rfl rfl rfl) (Zb (Zax hfr hh Zj G.name G.asg (Zb (Zz (Zo (Zi9 rfl rfl rfl G.name (.cons (Zy (Zy G.name G.name (λ _ _ => rfl)) Zn (λ _ _ => rfl)) .nil)) G.name rfl) (Zb (Zi (Zi9 rfl rfl rfl G.name (.cons (Zy (Zy G.name G.name (λ _ _ => rfl)) Zn (λ _ _ => rfl)) .nil)) G.asg rfl rfl rfl) (Zb (Zi G.name G.asg rfl rfl rfl) Ze)) Ze) Ze) (λ _ => rfl)) (Zb (Z9 (Zah rfl rfl rfl rfl G.name (Zbm (.cons G.name (.cons G.name (.cons G.name .nil))))) G.quiet rfl) Ze)))) Ze) Ze))) (λ _ => rfl)) (Zb (Zr (G.listComp hh rfl (by kernel_rfl) (by kernel_rfl) (λ _ => rfl) (G.callB Γ.bu Zqn (.cons G.name .nil) Zue) (λ Lc acc i G1 => Zok (Zeh hh (.cons G1.asg (.cons G1.asg (.cons G1.asg .nil)))) G1.name))) Ze))theorem Zgm (Γ : Facts c d z) : Zad c z.a_law_ready 6 (Zdt d) := okP (m := 4) [("named" : Str), ("told" : Str), ("handed" : Str), ("finished" : Str)] Γ.f_law_ready (Zn0 Γ) (λ xs fr h => by rcases xs with _ | ⟨_, _ | ⟨_, _ | ⟨_, _ | ⟨_, _ | ⟨_, _⟩⟩⟩⟩⟩ <;> first | exact Zq h | (cases h; exact ⟨_, rfl, rfl⟩)) λ _ _ => rfl
theorem Zlt (Γ : Facts c d z) : Zcg c Ze3 7 (g_law_written d) := Zdp (ns := Zme) (vs := Zmf) (n := 12) λ G hfr hh => by exact Zb (Zz (Zo (Zc4 G.name (Zbm (.cons Zn (.cons Zn (.cons Zn .nil)))) rfl) (Zc4 (G.callB Γ.bu Za4 (.cons G.name .nil) Zbg) Zn rfl) rfl) (Zb (Zr (Zm false (.cons Zae .nil))) Ze) Ze) (Zb (Zz (Zo G.name Zn rfl) (Zb (Zax hfr hh Zj G.name G.asg (Zb (Zz (Zo G.name G.name rfl) (Zb (Z9 (Zah rfl rfl rfl rfl G.name G.name) G.quiet rfl) Ze) Ze) Ze) (λ _ => rfl)) (Zb (Zax hfr hh Zj (Zlh false G.name Zn (λ _ _ => rfl)) G.asg (Zb (Z9 (Zah rfl rfl rfl rfl G.name (Zbm (.cons G.name (.cons (Zy G.name Zn (λ _ _ => rfl)) .nil)))) G.quiet rfl) Ze) (λ _ => rfl)) (Zb (Zr (Zm false (.cons Zae (.cons Za3 .nil)))) Ze))) Ze) (Zb (Zz (Zo G.name Zn rfl) (Zb (Zax hfr hh Zj G.name G.asg (Zb (Zz (Zmw (Zg8 (Zo G.name G.name rfl) (Zg8 (Zo G.name G.name rfl) Zit))) (Zb (Zr (Zm false (.cons Zae .nil))) Ze) Ze) (Zb (Z9 (Zah rfl rfl rfl rfl G.name G.name) G.quiet rfl) Ze)) (λ _ => rfl)) (Zb (Zr (Zm false (.cons Zae (.cons Za3 .nil)))) Ze)) Ze) (Zb (Zz (Zo G.name (Zbm (.cons Zn (.cons Zn .nil))) rfl) (Zb (Z9 (Zah rfl rfl rfl rfl G.name Zez) G.quiet rfl) (Zb (Zi (G.callT Γ.bu Zm5 (.cons G.name .nil) (Zlf hh)) G.asg rfl rfl rfl) (Zb (Zax hfr hh Zj (G.callT Γ.bu Zej (.cons (G.callB Γ.bu Za4 (.cons G.name .nil) Zbg) .nil) Zff) G.asg (Zb (Zi (G.listComp hh rfl (by kernel_rfl) (by kernel_rfl) (λ _ => rfl) G.name (λ Lc acc i G3 => Zhb G3.asg (Zc2 (G3.callB Γ.bu Zvh (.cons (G3.listComp hh rfl (by kernel_rfl) (by kernel_rfl) (λ _ => rfl) G3.name (λ Lc acc i G4 => Zok (Zeh hh (.cons G4.asg (.cons G4.asg .nil))) (Zho (Zti (Zc4 G4.name G4.name rfl) (Zis (Zc4 G4.name G4.name rfl)))))) .nil) (Zw8 hh)) rfl) G3.name)) G.asg (G.swap.trans (congrArg pure (by kernel_rfl))) rfl rfl) Ze) (λ _ => rfl)) (Zb (Zz (Zc2 G.name rfl) (Zb (Zr (Zm false (.cons Zae .nil))) Ze) Ze) (Zb (Zz (Zo G.name Zn rfl) (Zb (Zr (Zm false (.cons Zae (.cons Za3 .nil)))) Ze) Ze) (Zb (Zax hfr hh Zj (G.callT Γ.bu Zej (.cons (G.callB Γ.bu Za4 (.cons G.name .nil) Zbg) .nil) Zff) G.asg (Zb (Zi (G.callG hh (by kernel_rfl) Γ.g_law_ready Γ.f_law_ready (.cons G.name (.cons G.name (.cons G.name (.cons G.name .nil)))) (Zgm Γ) (by decide)) G.asg rfl rfl rfl) (Zb (Z9 (Zhv rfl rfl rfl G.name (.cons G.name .nil)) G.quiet rfl) (Zb (Z9 (Zhv rfl rfl rfl G.name (.cons G.name .nil)) G.quiet rfl) Ze))) (λ _ => rfl)) (Zb (Zr (Zm false (.cons Zae (.cons (G.callT Γ.bu Zm5 (.cons G.name .nil) (Zlf hh)) .nil)))) Ze))))))) Ze) (Zb (Zi (G.callG hh (by kernel_rfl) Γ.g_law_ready Γ.f_law_ready (.cons G.name (.cons G.name (.cons G.name (.cons G.name .nil)))) (Zgm Γ) (by decide)) G.asg rfl rfl rfl) (Zb (Zz (Zo G.name Zn rfl) (Zb (Zr (Zm false (.cons Zae (.cons (Zm false (.cons Zez (.cons (Zho (Zor (Zc4 (G.callB Γ.bu Za4 (.cons G.name .nil) Zbg) (G.callB Γ.bu Za4 (.cons G.name .nil) Zbg) rfl) (Zis (Zc4 (G.callB Γ.bu Za4 (.cons G.name .nil) Zbg) Zn rfl)))) .nil))) .nil)))) Ze) Ze) (Zb (Z9 (Zhv rfl rfl rfl G.name (.cons G.name .nil)) G.quiet rfl) (Zb (Zr (Zm false (.cons Zae (.cons (G.callT Γ.bu Zlk (.cons G.name .nil) Zm2) .nil)))) Ze)))))))theorem Zmh (Γ : Facts c d z) : Zad c z.a_law_written 7 (Zdx d) := okP (m := 7) [("named" : Str), ("told" : Str), ("opened" : Str), ("handed" : Str), ("finished" : Str), ("kind" : Str), ("names" : Str)] Γ.f_law_written (Zlt Γ) (λ xs fr h => by rcases xs with _ | ⟨_, _ | ⟨_, _ | ⟨_, _ | ⟨_, _ | ⟨_, _ | ⟨_, _ | ⟨_, _ | ⟨_, _⟩⟩⟩⟩⟩⟩⟩⟩ <;> first | exact Zq h | (cases h; exact ⟨_, rfl, rfl⟩)) λ _ _ => rfl
theorem Zmi (Γ : Facts c d z) : Zcg c Zfr 6 (g_law_inside d) := Zdp (ns := Znu) (vs := Znv) (n := 4) λ G hfr hh => by exact Zb (Zi (Zm true .nil) G.asg rfl rfl rfl) (Zb (Zax hfr hh Zj (Zs Γ.n_node2info G.name rfl) G.asg (Zb (Zi (Zy (Zs Γ.n_node2info G.name rfl) G.name (λ _ _ => rfl)) G.asg rfl rfl rfl) (Zb (Z9 (Zah rfl rfl rfl rfl G.name (Zm false (.cons G.name (.cons (Zb8 Γ.s_node.toSlotName G.name rfl) (.cons (Zb8 Γ.s_npredecessors.toSlotName G.name rfl) (.cons (Zb8 Γ.s_successors.toSlotName G.name rfl) .nil)))))) G.quiet rfl) Ze)) (λ _ => rfl)) (Zb (Zr (Zm false (.cons G.name (.cons (Zs Γ.n_ready_nodes G.name rfl) (.cons (Zs Γ.n_npassedout G.name rfl) (.cons (Zs Γ.n_nfinished G.name rfl) .nil)))))) Ze))theorem Zn1 (Γ : Facts c d z) : Zad c z.a_law_inside 6 (Zeo d) := okP (m := 1) [("sorter" : Str)] Γ.f_law_inside (Zmi Γ) (λ xs fr h => by rcases xs with _ | ⟨_, _ | ⟨_, _⟩⟩ <;> first | exact Zq h | (cases h; exact ⟨_, rfl, rfl⟩)) λ _ _ => rfl
theorem Ziq (Γ : Facts c d z) : Zcg c Zc8 7 (g_law_told_inside d) := Zdp (ns := Zjk) (vs := Zjl) (n := 9) λ G hfr hh => by exact Zb (Zi (Zm true .nil) G.asg rfl rfl rfl) (Zb (Zax hfr hh Zj G.name G.asg (Zb (Zz (Zo G.name G.name rfl) (Zb (Zi (Zhu Zn) G.asg rfl rfl rfl) Ze) (Zb (Zz (Zo G.name G.name rfl) (Zb (Zi (Zhu Zn) G.asg rfl rfl rfl) Ze) (Zb (Zi (G.callB Γ.bu Za4 (.cons (G.listComp hh rfl (by kernel_rfl) (by kernel_rfl) (λ _ => rfl) G.name (λ Lc acc i G3 => Zhb (Zeh hh (.cons G3.asg (.cons G3.asg .nil))) (Zmw (Zgs (Zo G3.name G3.name rfl) (Zgs (Zo G3.name G3.name rfl) Zin))) G3.name)) .nil) Zbg) G.asg rfl rfl rfl) Ze)) Ze)) (Zb (Z9 (Zah rfl rfl rfl rfl G.name (Zm false (.cons G.name (.cons G.name (.cons G.name (.cons (G.listComp hh rfl (by kernel_rfl) (by kernel_rfl) (λ _ => rfl) G.name (λ Lc acc i G2 => Zhb (Zeh hh (.cons G2.asg (.cons G2.asg .nil))) (Zo G2.name G2.name rfl) G2.name)) .nil)))))) G.quiet rfl) Ze)) (λ _ => rfl)) (Zb (Zi Za3 G.asg rfl rfl rfl) (Zb (Zz (Zc2 G.name rfl) (Zb (Zi (G.callG hh (by kernel_rfl) Γ.g_law_ready Γ.f_law_ready (.cons G.name (.cons G.name (.cons G.name (.cons G.name .nil)))) (Zgm Γ) (by decide)) G.asg rfl rfl rfl) Ze) Ze) (Zb (Zr (Zm false (.cons G.name (.cons G.name (.cons (G.callB Γ.bu Za4 (.cons G.name .nil) Zbg) (.cons (G.callB Γ.bu Za4 (.cons G.name .nil) Zbg) .nil)))))) Ze))))theorem Zjo (Γ : Facts c d z) : Zad c z.a_law_told_inside 7 (Zcb d) := okP (m := 5) [("named" : Str), ("told" : Str), ("opened" : Str), ("handed" : Str), ("finished" : Str)] Γ.f_law_told_inside (Ziq Γ) (λ xs fr h => by rcases xs with _ | ⟨_, _ | ⟨_, _ | ⟨_, _ | ⟨_, _ | ⟨_, _ | ⟨_, _⟩⟩⟩⟩⟩⟩ <;> first | exact Zq h | (cases h; exact ⟨_, rfl, rfl⟩)) λ _ _ => rfl
theorem Zxv (Γg : ∀ g, Facts (c.gn g) d z) : Zcg c Zpj 9 (g_law d) := have Γ : Facts c d z := Γg c.g0
 Zdp (ns := Zy0) (vs := Zy1) (n := 10) λ G hfr hh => by exact Zb (Zi (G.callC hh (by kernel_rfl) Γ.g_TS Γ.mk_TS (Zs3 Γ) (by decide) .nil) G.asg rfl rfl rfl) (Zb (Zi (Zm true .nil) G.asg rfl rfl rfl) (Zb (Zi (Zm true .nil) G.asg rfl rfl rfl) (Zb (Zi (Zm true .nil) G.asg rfl rfl rfl) (Zb (Zi (Zm true .nil) G.asg rfl rfl rfl) (Zb (Zi (Zm true .nil) G.asg rfl rfl rfl) (Zb (Zax hfr hh Zj (Zht false (Zht false (Zht false (G.callG hh (by kernel_rfl) Γ.g_law_calls Γ.f_law_calls (.cons G.name .nil) (Zpl Γ) (by decide)) (Zm false (.cons (Zbm (.cons Zn (.cons (Zm false .nil) .nil))) .nil))) (Zvb false (Zm false (.cons (Zbm (.cons Zn (.cons (Zm false .nil) .nil))) (.cons (Zbm (.cons Zn (.cons (Zm false .nil) .nil))) .nil))) Zn)) (Zm false (.cons (Zbm (.cons Zn (.cons (Zm false .nil) .nil))) .nil))) (Zeh hh (.cons G.asg (.cons G.asg .nil))) (Zb (Zz (Zo G.name Zn rfl) (Zb (Zi Zn G.asg rfl rfl rfl) (Zb (G.asgComp hh rfl (by kernel_rfl) (by kernel_rfl) (λ _ => rfl) (by kernel_rfl) G.name (λ Lc acc i G2 => Zhb G2.asg (Zo G2.name G2.name rfl) G2.name) G.asg) Ze)) Ze) (Zb (Zi (G.callG hh (by kernel_rfl) Γ.g_law_written Γ.f_law_written (.cons G.name (.cons G.name (.cons G.name (.cons G.name (.cons G.name (.cons G.name (.cons G.name .nil))))))) (Zmh Γ) (by decide)) G.asg rfl rfl rfl) (Zb (Zz (Zo (G.callG hh (by kernel_rfl) Γ.g_law_answer Γ.f_law_answer (.cons G.name (.cons G.name (.cons G.name .nil))) (Znz Γg) (by decide)) G.name rfl) (Zb (Zr Zez) Ze) Ze) (Zb (Zz (Zo (G.callG hh (by kernel_rfl) Γ.g_law_inside Γ.f_law_inside (.cons G.name .nil) (Zn1 Γ) (by decide)) (G.callG hh (by kernel_rfl) Γ.g_law_told_inside Γ.f_law_told_inside (.cons G.name (.cons G.name (.cons G.name (.cons G.name (.cons G.name .nil))))) (Zjo Γ) (by decide)) rfl) (Zb (Zr Zez) Ze) Ze) Ze)))) (λ _ => rfl)) (Zb (Zr Zez) Ze)))))))
theorem Zy3 (Γg : ∀ g, Facts (c.gn g) d z) : Zad c z.a_law 9 (k_law d) := have Γ : Facts c d z := Γg c.g0
 okP (m := 1) [("script" : Str)] Γ.f_law (Zxv Γg) (λ xs fr h => by rcases xs with _ | ⟨_, _ | ⟨_, _⟩⟩ <;> first | exact Zq h | (cases h; exact ⟨_, rfl, rfl⟩)) λ _ _ => rfl
end

def fnE (f : Addr) (st : Stmt) : List EqT := [⟨_, λ K => Zjw K f, true⟩, ⟨_, λ K => codeIn K (Z6 K f).code (Z6 K f).qualname, true⟩, ⟨_, λ K => (Z6 K f).body, .stmts (Zaq st)⟩, ⟨_, λ K => (Z6 K f).closure, []⟩, ⟨_, λ K => (Z6 K f).scope, Z1 st⟩, ⟨_, λ K => (Z6 K f).params, Zcq st⟩, ⟨_, λ K => (Z6 K f).globals, mainGlobals⟩, ⟨_, λ K => (Z6 K f).builtins, builtinsNs⟩]noncomputable def mtE (C f : Addr) (x : Str) : List EqT := [⟨_, λ K => findIn K (.ref C) x, some (some (Value.ref f))⟩, ⟨_, λ K => typeIn K (.ref f), some (Value.type "function")⟩, ⟨_, λ K => specialIn K (.ref f) "__get__", some (some (Value.builtin "function.__get__"))⟩, ⟨_, λ K => takesIn K (.ref f), some false⟩]noncomputable def slE (C p : Addr) (k : Nat) (x : Str) : List EqT := [⟨_, λ K => λ od => findObj K C od x, λ _ => some (.bind (.builtin "member_descriptor.__get__") (.ref p))⟩, ⟨_, λ K => slotIn K p C, some k⟩, ⟨_, λ K => takerIn K C x, some (some (Value.ref p))⟩, ⟨_, λ K => typeIn K (.ref p), some (Value.type "member_descriptor")⟩]noncomputable abbrev Obs (K : Frag) (es : List EqT) : Prop := ∀ (j : Nat) (x : EqT), es[j]? = some x -> x.l K = x.r
theorem Zac {K : Frag} {es gs : List EqT} (e : obsL K es = obsR es) (i : Nat) (h : (es.drop i).take gs.length = gs) : Obs K gs := λ j x hx => by
 refine Zf e (i + j) x ?_
 have hl := (Qgl hx)
 rw [<- h, List.getElem?_take, Qo hl, List.getElem?_drop] at hx
 exact hx
section
variable {c : Cx} {f C p : Addr} {st : Stmt} {k : Nat} {x : Str}
theorem Za7 {D : FuncData -> Prop} (o : Obs c.K (fnE f st)) (h : D (Z6 c.K f)) (h6 : ((Z1 st).isCoroutine || (Z1 st).isGenerator) = false := by kernel_rfl) (h7 : (Z1 st).kind = .function := by kernel_rfl) (h8 : decide (((Z1 st).names.map (·.1)).Nodup) = true := by kernel_rfl) : FnOk c f st D :=
 Zxe (o 0 _ rfl) (o 1 _ rfl) (o 2 _ rfl) (o 3 _ rfl) (o 4 _ rfl) h6 h7 h8 (o 5 _ rfl) (o 6 _ rfl) (o 7 _ rfl) h
theorem Zxw (o : Obs c.K (fnE f st)) (h : (Z6 c.K f).defaults = .none) (h6 : (!(Z1 st).isCoroutine && (Z1 st).isGenerator) = true := by kernel_rfl) (h7 : (Z1 st).kind = .function := by kernel_rfl) (h8 : decide (((Z1 st).names.map (·.1)).Nodup) = true := by kernel_rfl) : GnOk c f st :=
 Zxl (o 0 _ rfl) (o 1 _ rfl) (o 2 _ rfl) (o 3 _ rfl) (o 4 _ rfl) h6 h7 h8 (o 5 _ rfl) (o 6 _ rfl) (o 7 _ rfl) h
theorem Zcl (o : Obs c.K (mtE C f x)) (h3 : findIn c.K (.ref C) "__getattribute__" = some (some (.builtin "object.__getattribute__"))) (h4 : findIn c.K (.ref C) "__getattr__" = some none) (h5 : (clsIn c.K C).any (·.hasDict) = true) (h8 : copiedNames.contains x = false := by kernel_rfl) : MethAt c C x f :=
 Zt8 (o 0 _ rfl) (o 1 _ rfl) h3 h4 h5 (o 2 _ rfl) (o 3 _ rfl) h8
theorem Zpm (o : Obs c.K (slE C p k x)) (h3 : findIn c.K (.ref C) "__getattribute__" = some (some (.builtin "object.__getattribute__"))) (h4 : findIn c.K (.ref C) "__getattr__" = some none) (h5 : plainOver c.K C = true) (h6 : findIn c.K (.ref C) "__setattr__" = some (some (.builtin "object.__setattr__"))) : SlotStore c C x k :=
 ⟨⟨⟨p, λ od => congrFun (o 0 _ rfl) od, o 1 _ rfl, o 2 _ rfl, o 3 _ rfl⟩, h3, h4⟩, h5, h6⟩
end
set_option backward.eqns.nonrecursive false
def Zf4 : List EqT :=
 fnE 29 Zh0 ++
 [⟨_, λ K => (Z6 K 29).defaults, Value.none⟩] ++
 fnE 73 Zg7 ++
 [⟨_, λ K => (Z6 K 73).defaults, Value.none⟩] ++
 fnE 80 Zpa ++
 [⟨_, λ K => (Z6 K 80).defaults, Value.none⟩] ++
 fnE 66 Zep ++
 [⟨_, λ K => K.lookup 59, some { cls := .type "tuple", data := .seq #[.none] 0 }⟩, ⟨_, λ K => (Z6 K 66).defaults, Value.ref 59⟩] ++
 fnE 120 Zmc ++
 [⟨_, λ K => (Z6 K 120).defaults, Value.none⟩] ++
 fnE 85 Zh1 ++
 [⟨_, λ K => (Z6 K 85).defaults, Value.none⟩] ++
 fnE 92 Zgi ++
 [⟨_, λ K => (Z6 K 92).defaults, Value.none⟩] ++
 fnE 99 Zgj ++
 [⟨_, λ K => (Z6 K 99).defaults, Value.none⟩] ++
 fnE 113 Zmd ++
 [⟨_, λ K => (Z6 K 113).defaults, Value.none⟩] ++
 fnE 127 Za8 ++
 [⟨_, λ K => (Z6 K 127).defaults, Value.none⟩] ++
 fnE 141 Zgk ++
 [⟨_, λ K => (Z6 K 141).defaults, Value.none⟩] ++
 fnE 148 Zfq ++
 [⟨_, λ K => (Z6 K 148).defaults, Value.none⟩] ++
 fnE 153 Zgl ++
 [⟨_, λ K => (Z6 K 153).defaults, Value.none⟩] ++
 fnE 158 Ze3 ++
 [⟨_, λ K => (Z6 K 158).defaults, Value.none⟩] ++
 fnE 165 Zfr ++
 [⟨_, λ K => (Z6 K 165).defaults, Value.none⟩] ++
 fnE 170 Zc8 ++
 [⟨_, λ K => (Z6 K 170).defaults, Value.none⟩] ++
 fnE 175 Zpj ++
 [⟨_, λ K => (Z6 K 175).defaults, Value.none⟩] ++
 mtE 130 73 ("_get_nodeinfo" : Str) ++
 [⟨_, λ K => findIn K (.ref 130) "__getattribute__", (some (some (.builtin "object.__getattribute__")) : Option (Option Value))⟩, ⟨_, λ K => findIn K (.ref 130) "__getattr__", some none⟩, ⟨_, λ K => (clsIn K 130).any (·.hasDict), true⟩] ++
 mtE 130 80 ("add" : Str) ++
 mtE 130 120 ("_find_cycle" : Str) ++
 mtE 130 85 ("prepare" : Str) ++
 mtE 130 92 ("get_ready" : Str) ++
 mtE 130 99 ("is_active" : Str) ++
 mtE 130 113 ("done" : Str) ++
 mtE 130 127 ("static_order" : Str) ++
 [⟨_, λ K => nsIn K mainGlobals ("_law_calls" : Str), some (some (Value.ref 141))⟩, ⟨_, λ K => nsIn K mainGlobals ("_law_answer" : Str), some (some (Value.ref 148))⟩, ⟨_, λ K => nsIn K mainGlobals ("_law_ready" : Str), some (some (Value.ref 153))⟩, ⟨_, λ K => nsIn K mainGlobals ("_law_written" : Str), some (some (Value.ref 158))⟩, ⟨_, λ K => nsIn K mainGlobals ("_law_inside" : Str), some (some (Value.ref 165))⟩, ⟨_, λ K => nsIn K mainGlobals ("_law_told_inside" : Str), some (some (Value.ref 170))⟩, ⟨_, λ K => nsIn K mainGlobals ("law" : Str), some (some (Value.ref 175))⟩, ⟨_, λ K => findIn K (.ref 130) ("_nfinished" : Str), some none⟩, ⟨_, λ K => plainOver K 130, true⟩, ⟨_, λ K => takerIn K 130 ("_nfinished" : Str), some none⟩, ⟨_, λ K => findIn K (.ref 130) "__setattr__", some (some (Value.builtin "object.__setattr__"))⟩, ⟨_, λ K => findIn K (.ref 130) ("_node2info" : Str), some none⟩, ⟨_, λ K => takerIn K 130 ("_node2info" : Str), some none⟩, ⟨_, λ K => findIn K (.ref 130) ("_npassedout" : Str), some none⟩, ⟨_, λ K => takerIn K 130 ("_npassedout" : Str), some none⟩, ⟨_, λ K => findIn K (.ref 130) ("_ready_nodes" : Str), some none⟩, ⟨_, λ K => takerIn K 130 ("_ready_nodes" : Str), some none⟩] ++
 slE 33 34 0 ("node" : Str) ++
 [⟨_, λ K => findIn K (.ref 33) "__getattribute__", (some (some (.builtin "object.__getattribute__")) : Option (Option Value))⟩, ⟨_, λ K => findIn K (.ref 33) "__getattr__", some none⟩, ⟨_, λ K => plainOver K 33, true⟩, ⟨_, λ K => findIn K (.ref 33) "__setattr__", some (some (Value.builtin "object.__setattr__"))⟩] ++
 slE 33 35 1 ("npredecessors" : Str) ++
 slE 33 36 2 ("successors" : Str) ++
 [⟨_, λ K => nsIn K mainGlobals ("_NodeInfo" : Str), some (some (Value.ref 33))⟩, ⟨_, λ K => nsIn K mainGlobals ("TopologicalSorter" : Str), some (some (Value.ref 130))⟩, ⟨_, λ K => makesIn K 33, true⟩, ⟨_, λ K => findIn K (.ref 33) "__init__", some (some (Value.ref 29))⟩, ⟨_, λ K => typeIn K (.ref 29), some (Value.type "function")⟩, ⟨_, λ K => keepIn K (.ref 33), true⟩, ⟨_, λ K => makesIn K 130, true⟩, ⟨_, λ K => findIn K (.ref 130) "__init__", some (some (Value.ref 66))⟩, ⟨_, λ K => typeIn K (.ref 66), some (Value.type "function")⟩, ⟨_, λ K => keepIn K (.ref 130), true⟩, ⟨_, λ K => nsIn K mainGlobals ("CycleError" : Str), some (some (Value.ref 48))⟩, ⟨_, λ K => excIn K 48 [.type "ValueError", .type "Exception", .type "BaseException", .type "object"] "ValueError.__new__", true⟩, ⟨_, λ K => exmOne K (.ref 48) (.ref 48), some true⟩, ⟨_, λ K => exmOne K (.type "ValueError") (.ref 48), some false⟩, ⟨_, λ K => exmOne K (.type "StopIteration") (.ref 48), some false⟩, ⟨_, λ K => exmOne K (.type "StopIteration") (.type "StopIteration"), some true⟩, ⟨_, λ K => exmOne K (.type "ValueError") (.type "StopIteration"), some false⟩, ⟨_, λ K => exmOne K (.ref 48) (.type "StopIteration"), some false⟩, ⟨_, λ K => exmOne K (.type "ValueError") (.type "ValueError"), some true⟩, ⟨_, λ K => exmOne K (.ref 48) (.type "ValueError"), some true⟩, ⟨_, λ K => nsIn K mainGlobals ("_NODE_OUT" : Str), some (some (Value.int (-1) 190))⟩, ⟨_, λ K => nsIn K mainGlobals ("_NODE_DONE" : Str), some (some (Value.int (-2) 193))⟩, ⟨_, λ K => buiNames.all λ x => match nsIn K mainGlobals x with | some none => true | _ => false, true⟩]noncomputable def Zhn : List Addr := [2, 3, 22, 23, 25, 26, 28, 29, 30, 32, 33, 34, 35, 36, 39, 46, 47, 48, 49, 59, 60, 62, 63, 65, 66, 67, 69, 70, 72, 73, 74, 76, 77, 79, 80, 81, 84, 85, 86, 88, 89, 91, 92, 93, 95, 96, 98, 99, 100, 102, 103, 105, 106, 107, 109, 110, 112, 113, 114, 116, 117, 119, 120, 121, 123, 124, 126, 127, 128, 129, 130, 131, 132, 137, 140, 141, 142, 144, 145, 147, 148, 149, 152, 153, 154, 157, 158, 159, 161, 162, 164, 165, 166, 169, 170, 171, 174, 175]noncomputable abbrev zz4 : Fa := ⟨29, 73, 80, 66, 120, 85, 92, 99, 113, 127, 141, 148, 153, 158, 165, 170, 175⟩
theorem ce4 {K : Frag} {h₀ : Heap} {mg mb : Str -> Option Value} {p : Program} {loose : List Str} (X : K.In h₀) (T : TopRead p loose mg mb h₀) (e : obsL K Zf4 = obsR Zf4) : OwnCls ("CycleError" : Str) 48 [.type "ValueError", .type "Exception", .type "BaseException", .type "object"] "ValueError.__new__" mg h₀ :=
 own_of_in X T (Zf e 232 _ rfl) (Zf e 233 _ rfl)
theorem facts4 {c : Cx} (e : obsL c.K Zf4 = obsR Zf4) (hx : OwnCls ("CycleError" : Str) 48 [.type "ValueError", .type "Exception", .type "BaseException", .type "object"] "ValueError.__new__" c.mg c.B) : Facts c d zz4 := {
 f_ni_init := Za7 (Zac e 0 rfl) (Zf e 8 _ rfl)
 f_get_info := Za7 (Zac e 9 rfl) (Zf e 17 _ rfl)
 f_add := Za7 (Zac e 18 rfl) (Zf e 26 _ rfl)
 f_ts_init := Za7 (Zac e 27 rfl) ⟨59, 0, (Zf e 36 _ rfl), (Zf e 35 _ rfl)⟩
 f_find := Za7 (Zac e 37 rfl) (Zf e 45 _ rfl)
 f_prepare := Za7 (Zac e 46 rfl) (Zf e 54 _ rfl)
 f_get_ready := Za7 (Zac e 55 rfl) (Zf e 63 _ rfl)
 f_is_active := Za7 (Zac e 64 rfl) (Zf e 72 _ rfl)
 f_done := Za7 (Zac e 73 rfl) (Zf e 81 _ rfl)
 f_static := Zxw (Zac e 82 rfl) (Zf e 90 _ rfl)
 f_law_calls := Za7 (Zac e 91 rfl) (Zf e 99 _ rfl)
 f_law_answer := Za7 (Zac e 100 rfl) (Zf e 108 _ rfl)
 f_law_ready := Za7 (Zac e 109 rfl) (Zf e 117 _ rfl)
 f_law_written := Za7 (Zac e 118 rfl) (Zf e 126 _ rfl)
 f_law_inside := Za7 (Zac e 127 rfl) (Zf e 135 _ rfl)
 f_law_told_inside := Za7 (Zac e 136 rfl) (Zf e 144 _ rfl)
 f_law := Za7 (Zac e 145 rfl) (Zf e 153 _ rfl)
 m_get_info := Zcl (Zac e 154 rfl) (Zf e 158 _ rfl) (Zf e 159 _ rfl) (Zf e 160 _ rfl)
 m_add := Zcl (Zac e 161 rfl) (Zf e 158 _ rfl) (Zf e 159 _ rfl) (Zf e 160 _ rfl)
 m_find := Zcl (Zac e 165 rfl) (Zf e 158 _ rfl) (Zf e 159 _ rfl) (Zf e 160 _ rfl)
 m_prepare := Zcl (Zac e 169 rfl) (Zf e 158 _ rfl) (Zf e 159 _ rfl) (Zf e 160 _ rfl)
 m_get_ready := Zcl (Zac e 173 rfl) (Zf e 158 _ rfl) (Zf e 159 _ rfl) (Zf e 160 _ rfl)
 m_is_active := Zcl (Zac e 177 rfl) (Zf e 158 _ rfl) (Zf e 159 _ rfl) (Zf e 160 _ rfl)
 m_done := Zcl (Zac e 181 rfl) (Zf e 158 _ rfl) (Zf e 159 _ rfl) (Zf e 160 _ rfl)
 m_static := Zcl (Zac e 185 rfl) (Zf e 158 _ rfl) (Zf e 159 _ rfl) (Zf e 160 _ rfl)
 g_law_calls := (Zf e 189 _ rfl)
 g_law_answer := (Zf e 190 _ rfl)
 g_law_ready := (Zf e 191 _ rfl)
 g_law_written := (Zf e 192 _ rfl)
 g_law_inside := (Zf e 193 _ rfl)
 g_law_told_inside := (Zf e 194 _ rfl)
 g_law := (Zf e 195 _ rfl)
 n_nfinished := ⟨(Zf e 196 _ rfl), (Zf e 160 _ rfl), (Zf e 158 _ rfl)⟩
 o_nfinished := ⟨(Zf e 197 _ rfl), (Zf e 160 _ rfl), (Zf e 198 _ rfl), (Zf e 199 _ rfl)⟩
 n_node2info := ⟨(Zf e 200 _ rfl), (Zf e 160 _ rfl), (Zf e 158 _ rfl)⟩
 o_node2info := ⟨(Zf e 197 _ rfl), (Zf e 160 _ rfl), (Zf e 201 _ rfl), (Zf e 199 _ rfl)⟩
 n_npassedout := ⟨(Zf e 202 _ rfl), (Zf e 160 _ rfl), (Zf e 158 _ rfl)⟩
 o_npassedout := ⟨(Zf e 197 _ rfl), (Zf e 160 _ rfl), (Zf e 203 _ rfl), (Zf e 199 _ rfl)⟩
 n_ready_nodes := ⟨(Zf e 204 _ rfl), (Zf e 160 _ rfl), (Zf e 158 _ rfl)⟩
 o_ready_nodes := ⟨(Zf e 197 _ rfl), (Zf e 160 _ rfl), (Zf e 205 _ rfl), (Zf e 199 _ rfl)⟩
 s_node := Zpm (Zac e 206 rfl) (Zf e 210 _ rfl) (Zf e 211 _ rfl) (Zf e 212 _ rfl) (Zf e 213 _ rfl)
 s_npredecessors := Zpm (Zac e 214 rfl) (Zf e 210 _ rfl) (Zf e 211 _ rfl) (Zf e 212 _ rfl) (Zf e 213 _ rfl)
 s_successors := Zpm (Zac e 218 rfl) (Zf e 210 _ rfl) (Zf e 211 _ rfl) (Zf e 212 _ rfl) (Zf e 213 _ rfl)
 g_NI := (Zf e 222 _ rfl)
 g_TS := (Zf e 223 _ rfl)
 mk_NI := ⟨(Zf e 224 _ rfl), (Zf e 225 _ rfl), (Zf e 226 _ rfl), (Zf e 227 _ rfl)⟩
 mk_TS := ⟨(Zf e 228 _ rfl), (Zf e 229 _ rfl), (Zf e 230 _ rfl), (Zf e 231 _ rfl)⟩
 x_CE := ⟨(Zf e 232 _ rfl), hx⟩
 c_CE := Zvk (Zf e 234 _ rfl) (Zf e 235 _ rfl) (Zf e 236 _ rfl)
 c_StopIteration := Zss (Zf e 237 _ rfl) (Zf e 238 _ rfl)
 c_SI := Zvv (Zf e 237 _ rfl) (Zf e 238 _ rfl) (Zf e 239 _ rfl)
 c_ValueError := Zvw (Zf e 240 _ rfl) (Zf e 241 _ rfl)
 node_out := ⟨190, (Zf e 242 _ rfl)⟩
 node_done := ⟨193, (Zf e 243 _ rfl)⟩
 bui := Zyr (Zf e 244 _ rfl)
 }
end
end Mine
namespace Mine
open PySem PySem.W PyProof.Rows
noncomputable section

inductive Ex1 (f : PV -> List PV) (p : List MO -> Prop) : St -> Prop
 | mk {a : PV} {hp : List MO} (h : p hp) : Ex1 f p ⟨f a, hp⟩
inductive Ex2 (f : PV -> PV -> List PV) (p : List MO -> Prop) : St -> Prop
 | mk {a b : PV} {hp : List MO} (h : p hp) : Ex2 f p ⟨f a b, hp⟩
inductive Ex5 (f : PV -> PV -> PV -> PV -> PV -> List PV) (p : List MO -> Prop) : St -> Prop
 | mk {a b c d e : PV} {hp : List MO} (h : p hp) : Ex5 f p ⟨f a b c d e, hp⟩
set_option backward.eqns.nonrecursive false
noncomputable def uq : PV -> Bool
 | .undef => true
 | _ => false
theorem und {v : PV} (h : uq v = false) : v ≠ .undef := λ e => by subst e; cases h
noncomputable def mt : MO -> Nat
 | .lst _ => 0
 | .dct _ _ => 1
 | .set _ => 2
 | .ins _ _ => 3
 | .ns _ => 4
 | .slt _ _ _ => 5
 | .itr _ _ => 6
 | .dead => 7
theorem mn {x y : MO} (h : Nat.beq (mt x) (mt y) = false) : x ≠ y := λ e => by subst e; rw [Nat.beq_refl] at h; cases h
def Wp0 {α : Type} (f : PM α) (μ : St) (Q : α -> St -> Prop) (E : Value -> St -> Prop) : Prop := match f μ with
 | .ok a μ' => Q a μ'
 | .exc x μ' => E x μ'
 | .bad => False
set_option backward.eqns.nonrecursive true
inductive Z {α : Type} (f : PM α) (μ : St) (Q : α -> St -> Prop) (E : Value -> St -> Prop) : Prop
 | mk (h : Wp0 f μ Q E) : Z f μ Q E
theorem Z.get {α : Type} {f : PM α} {μ : St} {Q : α -> St -> Prop} {E : Value -> St -> Prop} (h : Z f μ Q E) : Wp0 f μ Q E := by cases h with | mk h => exact h
section
variable {α β : Type} {μ : St} {Q : α -> St -> Prop} {E : Value -> St -> Prop}
theorem Z.H {f : PM β} {g : β -> PM α} (h : Z f μ (λ b μ' => Z (g b) μ' Q E) E) : Z (f >>= g) μ Q E := by
 refine .mk ?_
 have h := h.get
 unfold Wp0 at h ⊢
 rw [PM.B]
 cases e : f μ with
 | ok a μ' => rw [e] at h; exact h.get
 | exc x μ' => rw [e] at h; exact h
 | bad => rw [e] at h; exact h
theorem Z.mono {f : PM α} {Q' : α -> St -> Prop} {E' : Value -> St -> Prop} (h : Z f μ Q E) (hQ : ∀ a μ', Q a μ' -> Q' a μ') (hE : ∀ x μ', E x μ' -> E' x μ') : Z f μ Q' E' := by
 refine .mk ?_
 have h := h.get
 unfold Wp0 at h ⊢
 cases e : f μ with
 | ok a μ' => rw [e] at h; exact hQ _ _ h
 | exc x μ' => rw [e] at h; exact hE _ _ h
 | bad => rw [e] at h; exact h
theorem Z.S {a : α} (h : Q a μ) : Z (Pure.pure a : PM α) μ Q E := .mk h
theorem Z.run {f : PM α} (h : Z f μ Q λ _ _ => False) : ∃ a μ', f μ = .ok a μ' ∧ Q a μ' := by
 have h := h.get
 unfold Wp0 at h
 cases e : f μ with
 | ok a μ' => rw [e] at h; exact ⟨a, μ', rfl, h⟩
 | exc x μ' => rw [e] at h; exact h.elim
 | bad => rw [e] at h; exact h.elim
theorem Z.V {f : PM α} {a : α} {μ' : St} (e : f μ = .ok a μ') (h : Q a μ') : Z f μ Q E := by refine .mk ?_; unfold Wp0; rw [e]; exact h
theorem Z.H8 {f g : PM α} (e : f μ = g μ) (h : Z g μ Q E) : Z f μ Q E := by
 refine .mk ?_
 have h := h.get
 unfold Wp0 at h ⊢
 rw [e]; exact h
theorem Z.C9 {f : PM β} {g : β -> α} (h : Z f μ (λ b μ' => Q (g b) μ') E) : Z (f >>= λ b => Pure.pure (g b)) μ Q E := Z.H (h.mono (λ _ _ h => Z.S h) λ _ _ e => e)theorem Z.M8 {x : Value} (h : E x μ) : Z (raiseM x : PM α) μ Q E := .mk h
end
section
variable {fr : List PV} {hp : List MO} {E : Value -> St -> Prop}
theorem Z.B {k : Nat} {v : PV} {Q : PV -> St -> Prop} (e : fr[k]? = some v) (hv : uq v = false) (h : Q v ⟨fr, hp⟩) : Z (Za k) ⟨fr, hp⟩ Q E := by
 have hv := und hv
 refine Z.V ?_ h
 unfold Za
 try dsimp only
 rw [e]
 cases v <;> first | rfl | exact Qe rfl hv
theorem Z.I {k : Nat} {v : PV} {Q : Unit -> St -> Prop} (h : Q () ⟨fr.set k v, hp⟩) : Z (Zh k v) ⟨fr, hp⟩ Q E := .mk h
theorem Z.C5 {b : Bool} {μ : St} {Q : Unit -> St -> Prop} (hb : b = true) (h : Q () μ) : Z (Mine.chk b) μ Q E := by subst hb; exact .mk h
theorem Z.G8 {i : Nat} {o : MO} {Q : Unit -> St -> Prop} (h : Q () ⟨fr, hp.set i o⟩) : Z (Mine.putM i o) ⟨fr, hp⟩ Q E := .mk h
theorem Z.A9 {o : MO} {Q : Nat -> St -> Prop} (h : Q hp.length ⟨fr, hp ++ [o]⟩) : Z (Zdv o) ⟨fr, hp⟩ Q E := .mk h
set_option backward.eqns.nonrecursive false
def SQ (b : PM MF) (Q : MF -> St -> Prop) (E : Value -> St -> Prop) : MF -> St -> Prop := λ f μ' => match f with | .next => Z b μ' Q E | f => Q f μ'
def IQ (a b : PM MF) (Q : MF -> St -> Prop) (E : Value -> St -> Prop) : Bool -> St -> Prop := λ x μ' => match x with | true => Z a μ' Q E | false => Z b μ' Q E
noncomputable def NQ {α : Type} (Q : MF -> St -> Prop) : α -> St -> Prop := λ _ μ' => Q .next μ'
def AQ (a : PV -> PM Unit) (Q : MF -> St -> Prop) (E : Value -> St -> Prop) : PV -> St -> Prop := λ y μ' => Z (a y) μ' (NQ Q) E
noncomputable def RQ (Q : MF -> St -> Prop) : PV -> St -> Prop := λ v μ' => Q (.ret v) μ'
noncomputable def CQ (fr : List PV) (Q : PV -> St -> Prop) : MF -> St -> Prop := λ f μ' => match f with | .ret v => Q v ⟨fr, μ'.hp⟩ | .next => Q .none ⟨fr, μ'.hp⟩ | _ => False
noncomputable def CX (fr : List PV) (E : Value -> St -> Prop) : Value -> St -> Prop := λ x μ' => E x ⟨fr, μ'.hp⟩
noncomputable def LQ (I : Nat -> St -> Prop) (k : Nat) (Q : MF -> St -> Prop) : MF -> St -> Prop := λ f μ'' => match f with
 | .next | .cont => I (k + 1) μ''
 | .brk => Q .next μ''
 | .ret v => Q (.ret v) μ''
set_option backward.eqns.nonrecursive true
def BQ (body : PM MF) (I : Nat -> St -> Prop) (k : Nat) (Q : MF -> St -> Prop) (E : Value -> St -> Prop) : Unit -> St -> Prop := λ _ μ' => Z body μ' (LQ I k Q) E
theorem Z.J {a b : PM MF} {μ : St} {Q : MF -> St -> Prop} (h : Z a μ (SQ b Q E) E) : Z (Zc a b) μ Q E := by
 unfold Zc
 refine Z.H (h.mono (λ f μ' hf => ?_) λ _ _ e => e)
 cases f <;> first | exact hf | exact Z.mk hf
theorem Z.L {μ : St} {Q : MF -> St -> Prop} (h : Q .next μ) : Z Zg μ Q E := .mk h
theorem Z.A2 {t : PM Bool} {a b : PM MF} {μ : St} {Q : MF -> St -> Prop} (h : Z t μ (IQ a b Q E) E) : Z (sIf t a b) μ Q E := by
 unfold sIf
 refine Z.H (h.mono (λ x μ' hx => ?_) λ _ _ e => e)
 cases x <;> exact hx
theorem Z.i {f : PM PV} {a : PV -> PM Unit} {μ : St} {Q : MF -> St -> Prop} (h : Z f μ (AQ a Q E) E) : Z (Zt f a) μ Q E := Z.H (h.mono (λ _ _ h => Z.C9 h) λ _ _ e => e)
theorem Z.asg2 {f : PM PV} {a a' : PV -> PM Unit} {μ : St} {Q : MF -> St -> Prop} (h : Z f μ (λ y μ' => Z (a y) μ' (λ _ μ'' => Z (a' y) μ'' (λ _ μD => Q .next μD) E) E) E) : Z (sAsg2 f a a') μ Q E :=
 Z.H (h.mono (λ _ _ h => Z.H (h.mono (λ _ _ h => Z.C9 h) λ _ _ e => e)) λ _ _ e => e)theorem Z.A5 {f : PM PV} {μ : St} {Q : MF -> St -> Prop} (h : Z f μ (NQ Q) E) : Z (Zap f) μ Q E := Z.C9 h
theorem Z.A7 {f : PM PV} {μ : St} {Q : MF -> St -> Prop} (h : Z f μ (RQ Q) E) : Z (Zak f) μ Q E := Z.C9 h
theorem Z.E7 {x : Value} {g : PM (List PV)} {μ : St} {Q : MF -> St -> Prop} (h : Z g μ (λ xs μ' => Z3 xs = true ∧ E x μ') E) : Z (Zbd x g) μ Q E :=
 Z.H (h.mono (λ xs μ' h => Z.H (Z.C5 h.1 (Z.M8 h.2))) λ _ _ e => e)
theorem Z.A1 {frm : List PV -> Option (List PV)} {g : PM MF} {xs init : List PV} {Q : PV -> St -> Prop} (e : frm xs = some init)
  (h : Z g ⟨init, hp⟩ (CQ fr Q) (CX fr E)) : Z (Zav frm g xs) ⟨fr, hp⟩ Q E := by
 unfold Zav
 rw [e]
 refine .mk ?_
 have h := h.get
 unfold Wp0 callM at *
 try dsimp only at h ⊢
 cases e : g ⟨init, hp⟩ with
 | ok a μ' => rw [e] at h; cases a <;> exact h
 | exc x μ' => rw [e] at h; exact h
 | bad => rw [e] at h; exact h
theorem Z.A6 {get : Nat -> St -> Option (Option PV)} {asg : PV -> PM Unit} {body : PM MF} {Q : MF -> St -> Prop} (I : Nat -> St -> Prop) (N : Nat)
  (h : ∀ k μ, I k μ -> k <= N -> (get k μ = some none ∧ Q .next μ) ∨ (k < N ∧ ∃ x, get k μ = some (some x) ∧ Z (asg x) μ (BQ body I k Q E) E)) : ∀ (n k : Nat) (μ : St), N < n + k -> k <= N -> I k μ -> Z (Zdy get asg body n k) μ Q E := by
 intro n
 induction n with
 | zero => intro k μ hn hk _; lia
 | succ n ih =>
  intro k μ hn hk hi
  rcases h k μ hi hk with ⟨e, hq⟩ | ⟨hlt, x, e, hw⟩
  ·exact Z.V (a := .next) (μ' := μ) (by simp only [Zg9, e]) hq
  ·have : Z (asg x >>= λ _ => body >>= Zet (Zdy get asg body n (k + 1))) μ Q E := by
    refine Z.H (hw.mono (λ _ μ' h => Z.H (h.mono (λ f μ'' hf => ?_) λ _ _ e => e)) λ _ _ e => e)
    cases f with
    | next => exact ih (k + 1) μ'' (by lia) hlt hf
    | cont => exact ih (k + 1) μ'' (by lia) hlt hf
    | brk => exact Z.mk hf
    | ret v => exact Z.mk hf
   exact Z.H8 (by simp only [Zg9, e]) this
end

section
variable {fr : List PV} {hp : List MO} {E : Value -> St -> Prop}theorem Z.y {μ : St} {Q : List PV -> St -> Prop} (h : Q [] μ) : Z (Pure.pure [] : PM (List PV)) μ Q E := (Z.mk h)
theorem Z.X {f : PM PV} {g : PM (List PV)} {μ : St} {Q : List PV -> St -> Prop} (h : Z f μ (λ x μ' => Z g μ' (λ xs μ'' => Q (x :: xs) μ'') E) E) : Z (Zd f g) μ Q E :=
 Z.H (h.mono (λ _ _ h => Z.C9 h) λ _ _ e => e)theorem Z.W {f : PM PV} {μ : St} {Q : List PV -> St -> Prop} (h : Z f μ (λ x μ' => Q [x] μ') E) : Z (Zd f (Pure.pure [])) μ Q E := Z.X (h.mono (λ _ _ h => Z.y h) λ _ _ e => e)
theorem Z.H6 {C : Addr} {o dn : Nat} {fs : List (Str × PV)} (h1 : hp[o]? = some (.ins C dn)) (h2 : hp[dn]? = some (.ns fs)) : Zdz C (.obj o) ⟨fr, hp⟩ = some (dn, fs) := by
 unfold Zdz
 try dsimp only
 rw [h1]
 try dsimp only
 rw [Qg rfl, h2]
theorem Z.D9 {C : Addr} {o dn : Nat} {fs : List (Str × PV)} {name : Str} {x : PV} {Q : PV -> St -> Prop} (h1 : hp[o]? = some (.ins C dn)) (h2 : hp[dn]? = some (.ns fs)) (h3 : fs.lookup name = some x) (h4 : Zgo x = true) (h : Q x ⟨fr, hp⟩) : Z (Zg0 C name (.obj o)) ⟨fr, hp⟩ Q E := by
 refine Z.V ?_ h
 unfold Zg0
 rw [Z.H6 h1 h2]
 try dsimp only
 rw [h3]
 try dsimp only
 rw [h4]
theorem Z.B9 {C : Addr} {o dn : Nat} {fs : List (Str × PV)} {name : Str} {y : PV} {Q : Unit -> St -> Prop} (h1 : hp[o]? = some (.ins C dn)) (h2 : hp[dn]? = some (.ns fs)) (h3 : fs.length <= 100) (h : Q () ⟨fr, hp.set dn (.ns (Zcc name y fs))⟩) : Z (Zbt C name (.obj o) y) ⟨fr, hp⟩ Q E := by
 refine Z.V ?_ h
 unfold Zbt
 rw [Z.H6 h1 h2]
 try dsimp only
 rw [Qg h3]
theorem Z.N1 {C : Addr} {o dn : Nat} {fs : List (Str × PV)} {name : Str} {Q : Unit -> St -> Prop} (h1 : hp[o]? = some (.ins C dn)) (h2 : hp[dn]? = some (.ns fs)) (h3 : fs.lookup name = none) (h : Q () ⟨fr, hp⟩) : Z (Zd0 C name (.obj o)) ⟨fr, hp⟩ Q E := by
 refine Z.V ?_ h
 unfold Zd0
 rw [Z.H6 h1 h2]
 try dsimp only
 rw [h3]
theorem Z.B7 {C : Addr} {k i d : Nat} {fs : List (Option PV)} {x : PV} {Q : PV -> St -> Prop} (h1 : hp[i]? = some (.slt C d fs)) (h2 : (fs[k]?).join = some x) (h3 : Zgo x = true) (h : Q x ⟨fr, hp⟩) : Z (Zg1 C k (.obj i)) ⟨fr, hp⟩ Q E := by
 refine Z.V ?_ h
 unfold Zg1
 try dsimp only
 rw [h1]
 try dsimp only
 rw [Qg rfl, h2]
 try dsimp only
 rw [h3]
theorem Z.B8 {C : Addr} {k i d : Nat} {fs : List (Option PV)} {y : PV} {Q : Unit -> St -> Prop} (h1 : hp[i]? = some (.slt C d fs)) (hk : k < 100) (h : Q () ⟨fr, hp.set i (.slt C d ((fs ++ List.replicate (k + 1 - fs.length) none).set k (some y)))⟩) : Z (Zbu C k (.obj i) y) ⟨fr, hp⟩ Q E := by
 refine Z.V ?_ h
 unfold Zbu
 try dsimp only
 rw [h1]
 try dsimp only
 rw [Qg rfl, Qg hk]
theorem Z.C0 {x : PV} {b : Bool} {μ : St} {Q : Bool -> St -> Prop} (e : Zhi x = some b) (h : Q b μ) : Z (Zbr .Is x .none) μ Q E := by
 refine Z.V ?_ h
 show pIs x .none μ = _
 unfold pIs
 rw [e]theorem Z.I9 {f : PM Bool} {μ : St} {Q : Bool -> St -> Prop} (h : Z f μ (λ b μ' => Q (!b) μ') E) : Z (Mine.bNot f) μ Q E := Z.C9 h
theorem Z.D1 {x : PV} {b : Bool} {μ : St} {Q : Bool -> St -> Prop} (e : Zhi x = some b) (h : Q (!b) μ) : Z (Zbr .IsNot x .none) μ Q E := Z.I9 (Z.C0 e h)theorem Z.l {op : CmpOp} {f g : PM PV} {μ : St} {Q : Bool -> St -> Prop} (h : Z f μ (λ x μ' => Z g μ' (λ y μ'' => Z (Zbr op x y) μ'' Q E) E) E) : Z (Z2 op f g) μ Q E := Z.H (h.mono (λ _ _ h => Z.H h) λ _ _ e => e)theorem Z.C3 {i j : Int} {μ : St} {Q : Bool -> St -> Prop} (h : Q (i == j) μ) : Z (Zbr .Eq (.int i) (.int j)) μ Q E := Z.V rfl h
theorem Z.J3 {i j : Int} {μ : St} {Q : Bool -> St -> Prop} (h : Q (!(i == j)) μ) : Z (Zbr .NotEq (.int i) (.int j)) μ Q E := Z.I9 (Z.C3 h)
theorem Z.N4 {C : Addr} {name : Str} {fo : PM PV} {g : PM (List PV)} {k : List PV -> PM PV} {μ : St} {Q : PV -> St -> Prop} (h : Z fo μ (λ x μ' => Z (Zd0 C name x) μ' (λ _ μ'' => Z g μ'' (λ ys μD => Z (k (x :: ys)) μD Q E) E) E) E) : Z (Zb5 C name fo g k) μ Q E :=
 Z.H (h.mono (λ _ _ h => Z.H (h.mono (λ _ _ h => Z.H h) λ _ _ e => e)) λ _ _ e => e)theorem Z.G0 {C : Addr} {name : Str} {f : PM PV} {μ : St} {Q : PV -> St -> Prop} (h : Z f μ (λ x μ' => Z (Zg0 C name x) μ' Q E) E) : Z (Zaj C name f) μ Q E := Z.H h
theorem Z.C4 {C : Addr} {k : Nat} {f : PM PV} {μ : St} {Q : PV -> St -> Prop} (h : Z f μ (λ x μ' => Z (Zg1 C k x) μ' Q E) E) : Z (Zdk C k f) μ Q E := Z.H h
theorem Z.C7 {ps : PV -> PV -> PM Unit} {g : PM PV} {y : PV} {μ : St} {Q : Unit -> St -> Prop} (h : Z g μ (λ x μ' => Z (ps x y) μ' Q E) E) : Z (Zdl ps g y) μ Q E := Z.H h
theorem Z.M0 {g k : PM PV} {y : PV} {μ : St} {Q : Unit -> St -> Prop} (h : Z g μ (λ x μ' => Z k μ' (λ i μ'' => Z (Zb9 x i y) μ'' Q E) E) E) : Z (Mine.tSub g k y) μ Q E := Z.H (h.mono (λ _ _ h => Z.H h) λ _ _ e => e)theorem Z.D0 {g k : PM PV} {μ : St} {Q : PV -> St -> Prop} (h : Z g μ (λ x μ' => Z k μ' (λ i μ'' => Z (Zby x i) μ'' Q E) E) E) : Z (Za5 g k) μ Q E := Z.H (h.mono (λ _ _ h => Z.H h) λ _ _ e => e)theorem Z.K0 {f : PM PV} {a : PV -> PM Unit} {μ : St} {Q : PV -> St -> Prop} (h : Z f μ (λ y μ' => Z (a y) μ' (λ _ μ'' => Q y μ'') E) E) : Z (Mine.eWal f a) μ Q E := Z.H (h.mono (λ _ _ h => Z.C9 h) λ _ _ e => e)theorem Z.I6 {f : PM PV} {μ : St} {Q : PV -> St -> Prop} (h : Z f μ (λ x μ' => ∃ i, x = .int i ∧ Q (.int (-i)) μ') E) : Z (Mine.eNeg f) μ Q E := Z.H (h.mono (λ x μ' q => by obtain ⟨i, e, h⟩ := q; subst e; exact Z.mk h) λ _ _ e => e)
theorem Z.D7 {op : Operator} {g f : PM PV} {pg : PV -> PM PV} {ps : PV -> PV -> PM Unit} {μ : St} {Q : MF -> St -> Prop} (h : Z g μ (λ x μ1 => Z (pg x) μ1 (λ old μ2 => Z f μ2 (λ v μD => Z (pInp op old v) μD (λ new μ4 => Z (ps x new) μ4 (λ _ μ5 => Q .next μ5) E) E) E) E) E) : Z (Zd2 op g pg ps f) μ Q E :=
 Z.H (h.mono (λ _ _ h => Z.H (h.mono (λ _ _ h => Z.H (h.mono (λ _ _ h => Z.H (h.mono (λ _ _ h => Z.C9 h) λ _ _ e => e)) λ _ _ e => e)) λ _ _ e => e)) λ _ _ e => e)theorem Z.E8 {i j : Int} {μ : St} {Q : PV -> St -> Prop} (h : Q (.int (i + j)) μ) : Z (pInp .Add (.int i) (.int j)) μ Q E := Z.V rfl h
theorem Z.L0 {i j : Int} {μ : St} {Q : PV -> St -> Prop} (h : Q (.int (i - j)) μ) : Z (pInp .Sub (.int i) (.int j)) μ Q E := Z.V rfl h
theorem Z.D6 {f : PM PV} {μ : St} {Q : Bool -> St -> Prop} (h : Z f μ (λ x μ' => Z (Zcs x) μ' Q E) E) : Z (Zes f) μ Q E := Z.H h
theorem Z.E0 {μ : St} {x : PV} {xs : List PV} {Q : List PV -> St -> Prop} (e : Zaa μ.hp x = some xs ∨ x = .tup xs) (h : Q xs μ) : Z (Zbq x) μ Q E := by
 refine Z.V ?_ h
 rcases e with e | rfl
 ·unfold Zaa at e
  unfold Zbq
  cases x <;> dsimp only at e ⊢ <;> first | (cases e; done) | skip
  ·cases e; rfl
  ·split at e
   ·cases e; rfl
   ·cases e
 ·rfl
theorem Z.C6 {μ : St} {x : PV} {xs : List PV} {Q : PV -> St -> Prop} (e : Zaa μ.hp x = some xs ∨ x = .tup xs) (hl : xs.length <= 1000000) (h : Q (.int xs.length) μ) : Z (Zbz [x]) μ Q E :=
 Z.H (Z.E0 e (Z.H (Z.C5 (Qg hl) (Z.mk h))))
theorem Z.H9 {μ : St} {x : PV} {xs : List PV} {Q : PV -> St -> Prop} (e : Zaa μ.hp x = some xs ∨ x = .tup xs) (hl : xs.length <= 1000000) (h : Q (.tup xs) μ) : Z (Zl2 [x]) μ Q E :=
 Z.H (Z.E0 e (Z.H (Z.C5 (Qg hl) (Z.mk h))))
theorem Z.u {i : Nat} {xs : List PV} {Q : Nat × List PV -> St -> Prop} (e : hp[i]? = some (.lst xs)) (h : Q (i, xs) ⟨fr, hp⟩) : Z (Zag (.obj i)) ⟨fr, hp⟩ Q E := by
 refine Z.V ?_ h
 unfold Zag
 try dsimp only
 rw [e]
theorem Z.A3 {i : Nat} {xs : List PV} {y : PV} {Q : PV -> St -> Prop} (e : hp[i]? = some (.lst xs)) (hl : xs.length <= 1000000) (h : Q .none ⟨fr, hp.set i (.lst (xs ++ [y]))⟩) : Z (Ze7 (.obj i) y) ⟨fr, hp⟩ Q E :=
 Z.H (Z.u e (Z.H (Z.C5 (Qg hl) (Z.H (Z.G8 (Z.mk h))))))
theorem Z.A0 {fo fe : PM PV} {μ : St} {Q : PV -> St -> Prop} (h : Z fo μ (λ x μ1 => Z (Zag x) μ1 (λ _ μ2 => Z fe μ2 (λ y μD => Z (Ze7 x y) μD Q E) E) E) E) : Z (Zar fo fe) μ Q E :=
 Z.H (h.mono (λ _ _ h => Z.H (h.mono (λ _ _ h => Z.H h) λ _ _ e => e)) λ _ _ e => e)
theorem Z.K9 {fo : PM PV} {μ : St} {Q : PV -> St -> Prop} (h : Z fo μ (λ x μ1 => ∃ i xs, x = .obj i ∧ μ1.hp[i]? = some (.lst xs) ∧ xs.length <= 1000000 ∧ Q .none ⟨μ1.fr, μ1.hp.set i (.lst [])⟩) E) : Z (Zp9 fo) μ Q E :=
 Z.H (h.mono (λ x μ1 hh => by
  obtain ⟨i, xs, e, e2, hl, h⟩ := hh
  subst e
  obtain ⟨fr, hp⟩ := μ1
  exact Z.H (Z.u e2 (Z.H (Z.u e2 (Z.H (Z.C5 (Qg hl) (Z.H (Z.G8 (Z.mk h))))))))) λ _ _ e => e)
theorem Z.H2 {i : Nat} {es : List (Int × PV)} {ep : Nat} {k : Int} {x : PV} {Q : PV -> St -> Prop} (e : hp[i]? = some (.dct es ep)) (hk : Zdb es k = some x) (h : Q x ⟨fr, hp⟩) : Z (Zby (.obj i) (.int k)) ⟨fr, hp⟩ Q E := by
 refine Z.V ?_ h
 unfold Zby
 try dsimp only
 rw [e]
 try dsimp only
 rw [hk]
theorem Z.D2 {i : Nat} {es : List (Int × PV)} {ep : Nat} {Q : Nat × List (Int × PV) -> St -> Prop} (e : hp[i]? = some (.dct es ep)) (h : Q (i, es) ⟨fr, hp⟩) : Z (Zb6 (.obj i)) ⟨fr, hp⟩ Q E := by
 refine Z.V ?_ h
 unfold Zb6
 try dsimp only
 rw [e]
theorem Z.F3 {fo : PM PV} {ga : PM (List PV)} {μ : St} {Q : PV -> St -> Prop} (h : Z fo μ (λ x μ1 => Z (Zb6 x) μ1 (λ _ μ2 => Z ga μ2 (λ ys μD => Z (Zid x ys) μD Q E) E) E) E) : Z (Zie fo ga) μ Q E :=
 Z.H (h.mono (λ _ _ h => Z.H (h.mono (λ _ _ h => Z.H h) λ _ _ e => e)) λ _ _ e => e)theorem Z.D8 {i : Nat} {es : List (Int × PV)} {ep : Nat} {k : Int} {Q : PV -> St -> Prop} (e : hp[i]? = some (.dct es ep)) (h : Q ((Zdb es k).getD .none) ⟨fr, hp⟩) : Z (Zid (.obj i) [.int k]) ⟨fr, hp⟩ Q E := Z.H (Z.D2 e (Z.mk h))
end

set_option genInjectivity false in
structure TSt where
 order : List Int
 np : Int -> Int
 sc : Int -> List Int
 ready : Option (List Int)
 passed : Int
 fin : Int
set_option genInjectivity false in
structure Lay where
 dn : Nat
 n2i : Nat
 rn : Nat
 ep : Nat
 li : Int -> Nat
 ls : Int -> Nat
 dx : Int -> Nat
noncomputable def upd {α : Type} (f : Int -> α) (a : Int) (x : α) : Int -> α := λ b => if b = a then x else f b
theorem Zai {α : Type} {f : Int -> α} {a : Int} {x : α} : upd f a x a = x := by unfold upd; rw [Qo rfl]theorem Za0 {α : Type} {f : Int -> α} {a b : Int} {x : α} (h : b ≠ a) : upd f a x b = f b := by unfold upd; rw [Qq h]noncomputable def Zch (n r : PV) (p q : Int) : List (Str × PV) := [(("_node2info" : Str), n), (("_ready_nodes" : Str), r), (("_npassedout" : Str), .int p), (("_nfinished" : Str), .int q)]
set_option backward.eqns.nonrecursive false
noncomputable def rdy (T : TSt) (ly : Lay) : PV := match T.ready with
 | none => .none
 | some _ => .obj ly.rn
set_option backward.eqns.nonrecursive true
section
variable {n r x : PV} {p q z : Int}theorem ns_n : (Zch n r p q).lookup ("_node2info" : Str) = some n := by kernel_rfl
theorem ns_r : (Zch n r p q).lookup ("_ready_nodes" : Str) = some r := by kernel_rfl
theorem ns_p : (Zch n r p q).lookup ("_npassedout" : Str) = some (.int p) := by kernel_rfl
theorem ns_q : (Zch n r p q).lookup ("_nfinished" : Str) = some (.int q) := by kernel_rfl
theorem put_r : Zcc ("_ready_nodes" : Str) x (Zch n r p q) = Zch n x p q := by kernel_rfl
theorem put_p : Zcc ("_npassedout" : Str) (.int z) (Zch n r p q) = Zch n r z q := by kernel_rfl
theorem put_q : Zcc ("_nfinished" : Str) (.int z) (Zch n r p q) = Zch n r p z := by kernel_rfl
theorem Zxx (x : Str) (h : ([("_node2info" : Str), "_ready_nodes", "_npassedout", "_nfinished"].contains x) = false) : (Zch n r p q).lookup x = none := by
 simp only [List.contains_cons, List.contains_nil, Bool.or_false, Bool.or_eq_false_iff] at h
 unfold Zch
 simp only [lookup_cons, h.1, h.2.1, h.2.2.1, h.2.2.2, List.lookup_nil]
end
structure SAt (d : Ad) (hp : List MO) (o : Nat) (T : TSt) (ly : Lay) : Prop where
 ins : hp[o]? = some (.ins d.TS ly.dn)
 ns : hp[ly.dn]? = some (.ns (Zch (.obj ly.n2i) (rdy T ly) T.passed T.fin))
 dct : hp[ly.n2i]? = some (.dct (T.order.map λ a => (a, .obj (ly.li a))) ly.ep)
 rd : ∀ xs, T.ready = some xs -> hp[ly.rn]? = some (.lst (xs.map .int))
 inf : ∀ a ∈ T.order, hp[ly.li a]? = some (.slt d.NI (ly.dx a) [some (.int a), some (.int (T.np a)), some (.obj (ly.ls a))])
 suc : ∀ a ∈ T.order, hp[ly.ls a]? = some (.lst ((T.sc a).map .int))
 lsi : ∀ a ∈ T.order, ∀ b ∈ T.order, ly.ls a = ly.ls b -> a = b
 rls : T.ready ≠ none -> ∀ a ∈ T.order, ly.ls a ≠ ly.rn
 ond : T.order.Nodup
def Fp (o : Nat) (T : TSt) (ly : Lay) (i : Nat) : Prop := i = o ∨ i = ly.dn ∨ i = ly.n2i ∨ (T.ready ≠ none ∧ i = ly.rn) ∨ ∃ a ∈ T.order, i = ly.li a ∨ i = ly.ls a
section
variable {hp hp' : List MO} {o : Nat} {T : TSt} {ly : Lay}
theorem SAt.keep (S : SAt d hp o T ly) (h : ∀ i, Fp o T ly i -> hp'[i]? = hp[i]?) : SAt d hp' o T ly :=
 ⟨(h o (.inl rfl)).trans S.ins, (h _ (.inr (.inl rfl))).trans S.ns, (h _ (.inr (.inr (.inl rfl)))).trans S.dct, λ xs e => (h _ (.inr (.inr (.inr (.inl ⟨(by rw [e]; exact Option.some_ne_none _), rfl⟩))))).trans (S.rd xs e),
  λ a ha => (h _ (.inr (.inr (.inr (.inr ⟨a, ha, .inl rfl⟩))))).trans (S.inf a ha), λ a ha => (h _ (.inr (.inr (.inr (.inr ⟨a, ha, .inr rfl⟩))))).trans (S.suc a ha), S.lsi, S.rls, S.ond⟩
theorem Zl {i j : Nat} {v x y : MO} (hi : hp[i]? = some x) (hj : hp[j]? = some y) (hne : x ≠ y) : (hp.set i v)[j]? = some y := by
 rw [Qf (λ e => by subst e; rw [hi] at hj; exact hne (Option.some.inj hj))]
 exact hj
theorem Zu {i j : Nat} {v y : MO} (h : i ≠ j) (hj : hp[j]? = some y) : (hp.set i v)[j]? = some y := by rw [Qf h]; exact hj
theorem Z5 {i : Nat} {v x : MO} (hi : hp[i]? = some x) : (hp.set i v)[i]? = some v := List.getElem?_set_self (Qgl hi)
theorem SAt.setNs (S : SAt d hp o T ly) (p q : Int) : SAt d (hp.set ly.dn (.ns (Zch (.obj ly.n2i) (rdy T ly) p q))) o { T with passed := p, fin := q } ly :=
 ⟨Zl S.ns S.ins (mn rfl), Z5 S.ns, Zl S.ns S.dct (mn rfl), λ xs e => Zl S.ns (S.rd xs e) (mn rfl), λ a ha => Zl S.ns (S.inf a ha) (mn rfl), λ a ha => Zl S.ns (S.suc a ha) (mn rfl), S.lsi, S.rls, S.ond⟩
theorem SAt.setRd (S : SAt d hp o T ly) {xs : List Int} (e : T.ready = some xs) (ys : List Int) : SAt d (hp.set ly.rn (.lst (ys.map .int))) o { T with ready := some ys } ly := by
 have hr := S.rd xs e
 have hn : T.ready ≠ none := by rw [e]; exact Option.some_ne_none _
 have e1 : rdy { T with ready := some ys } ly = rdy T ly := by unfold rdy; rw [e]
 exact ⟨Zl hr S.ins (mn rfl), by rw [e1]; exact Zl hr S.ns (mn rfl), Zl hr S.dct (mn rfl), λ zs ez => by cases ez; exact Z5 hr, λ a ha => Zl hr (S.inf a ha) (mn rfl),
  λ a ha => Zu (Ne.symm (S.rls hn a ha)) (S.suc a ha), S.lsi, λ _ => S.rls hn, S.ond⟩
theorem SAt.setNp (S : SAt d hp o T ly) {a : Int} (ha : a ∈ T.order) (z : Int) : SAt d (hp.set (ly.li a) (.slt d.NI (ly.dx a) [some (.int a), some (.int z), some (.obj (ly.ls a))])) o { T with np := upd T.np a z } ly := by
 have hi := S.inf a ha
 refine ⟨Zl hi S.ins (mn rfl), Zl hi S.ns (mn rfl), Zl hi S.dct (mn rfl), λ xs e => Zl hi (S.rd xs e) (mn rfl), λ b hb => ?_, λ b hb => Zl hi (S.suc b hb) (mn rfl), S.lsi, S.rls, S.ond⟩
 by_cases e : b = a
 ·subst e; show _ = some (MO.slt _ _ [_, some (PV.int (upd T.np b z b)), _]); rw [Zai]; exact Z5 hi
 ·show _ = some (MO.slt _ _ [_, some (PV.int (upd T.np a z b)), _]); rw [Za0 e]
  refine Zl hi (S.inf b hb) λ h => e ?_
  injection h with _ _ h
  injection h with h
  injection h with h
  injection h with h
  exact h.symm
theorem SAt.setSc (S : SAt d hp o T ly) {a : Int} (ha : a ∈ T.order) (ys : List Int) : SAt d (hp.set (ly.ls a) (.lst (ys.map .int))) o { T with sc := upd T.sc a ys } ly := by
 have hi := S.suc a ha
 refine ⟨Zl hi S.ins (mn rfl), Zl hi S.ns (mn rfl), Zl hi S.dct (mn rfl), λ xs e => ?_, λ b hb => Zl hi (S.inf b hb) (mn rfl), λ b hb => ?_, S.lsi, S.rls, S.ond⟩
 ·exact Zu (S.rls (by rw [show T.ready = some xs from e]; exact Option.some_ne_none _) a ha) (S.rd xs e)
 ·by_cases e : b = a
  ·subst e; show _ = some (MO.lst ((upd T.sc b ys b).map PV.int)); rw [Zai]; exact Z5 hi
  ·show _ = some (MO.lst ((upd T.sc a ys b).map PV.int)); rw [Za0 e]; exact Zu (λ h => e (S.lsi a ha b hb h).symm) (S.suc b hb)
theorem Zc9 {f : Int -> PV} {a : Int} : ∀ {l : List Int}, a ∈ l -> Zdb (l.map λ a => (a, f a)) a = some (f a)
 | b :: l, h => by
  unfold Zdb
  rw [Xa, List.find?_cons]
  try dsimp only
  cases e : b == a with
  | true => rw [<- eq_of_beq e]; rfl
  | false =>
   rcases Qmc h with h | h
   ·rw [h] at e; simp at e
   ·exact Zc9 h
theorem Zim {f : Int -> PV} {a : Int} {l : List Int} (h : a ∉ l) : Zdb (l.map λ a => (a, f a)) a = none := by
 unfold Zdb
 rw [Option.map_eq_none_iff, List.find?_eq_none]
 intro x hx
 obtain ⟨b, hb, rfl⟩ := Qmm hx
 simp
 intro e; exact h (e ▸ hb)
end

def Zbi (o : Nat) (T : TSt) (ly : Lay) (hp hp' : List MO) : Prop := hp'.length = hp.length ∧ ∀ i, ¬ Fp o T ly i -> hp'[i]? = hp[i]?
theorem Zbi.refl {o : Nat} {T : TSt} {ly : Lay} {hp : List MO} : Zbi o T ly hp hp := ⟨rfl, λ _ _ => rfl⟩
theorem Zbi.set {o : Nat} {T : TSt} {ly : Lay} {hp hp' : List MO} {i : Nat} {v : MO} (h : Zbi o T ly hp hp') (hi : Fp o T ly i) : Zbi o T ly hp (hp'.set i v) :=
 ⟨by rw [length_set]; exact h.1, λ j hj => by rw [Qf (λ e : i = j => hj (e ▸ hi))]; exact h.2 j hj⟩theorem fp_o {o : Nat} {T : TSt} {ly : Lay} : Fp o T ly o := .inl rfl
theorem Zl4 {o : Nat} {T : TSt} {ly : Lay} : Fp o T ly ly.dn := .inr (.inl rfl)theorem Zlu {o : Nat} {T : TSt} {ly : Lay} : Fp o T ly ly.n2i := .inr (.inr (.inl rfl))theorem fp_rn {o : Nat} {T : TSt} {ly : Lay} {xs : List Int} (e : T.ready = some xs) : Fp o T ly ly.rn := .inr (.inr (.inr (.inl ⟨by rw [e]; exact Option.some_ne_none _, rfl⟩)))theorem Zj6 {o : Nat} {T : TSt} {ly : Lay} {a : Int} (h : a ∈ T.order) : Fp o T ly (ly.li a) := .inr (.inr (.inr (.inr ⟨a, h, .inl rfl⟩)))theorem Zj7 {o : Nat} {T : TSt} {ly : Lay} {a : Int} (h : a ∈ T.order) : Fp o T ly (ly.ls a) := .inr (.inr (.inr (.inr ⟨a, h, .inr rfl⟩)))
theorem Zl5 {o : Nat} {T T' : TSt} {ly : Lay} (h1 : T'.order = T.order) (h2 : T'.ready = none ↔ T.ready = none) (i : Nat) : Fp o T' ly i ↔ Fp o T ly i := by
 unfold Fp; rw [h1, Ne, Ne, h2]noncomputable def Zgr (T : TSt) (xs : List Int) : TSt := { T with np := λ a => if a ∈ xs then -1 else T.np a }def getT (T : TSt) (xs : List Int) : TSt := { Zgr T xs with ready := some [], passed := T.passed + xs.length }
section
variable {hp : List MO} {o : Nat} {T : TSt} {ly : Lay} {fr : List PV} {E : Value -> St -> Prop}theorem Zpn {n r : PV} {p q : Int} : (Zch n r p q).length <= 100 := by unfold Zch; simp
theorem Zcp {xs : List Int} (e : T.ready = some xs) : rdy T ly = .obj ly.rn := by unfold rdy; rw [e]theorem Zh2 (e : T.ready = none) : rdy T ly = .none := by unfold rdy; rw [e]theorem Zx {i : Nat} {xs : List PV} (h : hp[i]? = some (.lst xs)) : Zaa hp (.obj i) = some xs := by unfold Zaa; try dsimp only; rw [h]
theorem Z.B5 {f : PM PV} {asg : PV -> PM Unit} {body : PM MF} {n : Nat} {μ : St} {Q : MF -> St -> Prop} (h : Z f μ (λ pv μ' => Z (Zdy (Zam pv μ') asg body n 0) μ' Q E) E) : Z (Zbb f asg body n) μ Q E := by
 unfold Zbb
 exact Z.H (h.mono (λ _ _ h => Z.H8 rfl h) λ _ _ e => e)
theorem Z.E6 (S : SAt d hp o T ly) {k : Nat} {Q : PV -> St -> Prop} (e : fr[k]? = some (.obj o)) (h : Q (rdy T ly) ⟨fr, hp⟩) : Z (Zaj d.TS ("_ready_nodes" : Str) (Za k)) ⟨fr, hp⟩ Q E :=
 Z.G0 (Z.B e rfl (Z.D9 S.ins S.ns ns_r (by unfold rdy; split <;> rfl) h))
theorem Z.H0 (S : SAt d hp o T ly) {k : Nat} {Q : PV -> St -> Prop} (e : fr[k]? = some (.obj o)) (h : Q (.obj ly.n2i) ⟨fr, hp⟩) : Z (Zaj d.TS ("_node2info" : Str) (Za k)) ⟨fr, hp⟩ Q E :=
 Z.G0 (Z.B e rfl (Z.D9 S.ins S.ns ns_n rfl h))
theorem Z.psA (S : SAt d hp o T ly) {k : Nat} {Q : PV -> St -> Prop} (e : fr[k]? = some (.obj o)) (h : Q (.int T.passed) ⟨fr, hp⟩) : Z (Zaj d.TS ("_npassedout" : Str) (Za k)) ⟨fr, hp⟩ Q E :=
 Z.G0 (Z.B e rfl (Z.D9 S.ins S.ns ns_p rfl h))
theorem Z.fiA (S : SAt d hp o T ly) {k : Nat} {Q : PV -> St -> Prop} (e : fr[k]? = some (.obj o)) (h : Q (.int T.fin) ⟨fr, hp⟩) : Z (Zaj d.TS ("_nfinished" : Str) (Za k)) ⟨fr, hp⟩ Q E :=
 Z.G0 (Z.B e rfl (Z.D9 S.ins S.ns ns_q rfl h))
theorem Zv2 {xs : List Int} {k : Nat} {a : Int} (e : xs[k]? = some a) (b : Int) : b ∈ xs.take (k + 1) ↔ b ∈ xs.take k ∨ b = a := by
 have hl := (Qgl e)
 rw [Xe hl]
 have := (Qge e)
 simp [this]
theorem Zv3 {xs : List Int} {k : Nat} {a : Int} (e : xs[k]? = some a) : ({ Zgr T (xs.take k) with np := upd (Zgr T (xs.take k)).np a (-1) } : TSt) = Zgr T (xs.take (k + 1)) := by
 have key : upd (λ a => if a ∈ xs.take k then (-1 : Int) else T.np a) a (-1) = λ a => if a ∈ xs.take (k + 1) then (-1 : Int) else T.np a := by
  funext b
  unfold upd
  have := Zv2 e b
  by_cases h1 : b = a
  ·rw [Qo h1, Qo (this.mpr (.inr h1))]
  ·rw [Qq h1]
   try dsimp only
   by_cases h2 : b ∈ xs.take k
   ·rw [Qo h2, Qo (this.mpr (.inl h2))]
   ·rw [Qq h2, Qq λ h => (this.mp h).elim h2 h1]
 show ({ order := T.order, np := upd (λ a => if a ∈ xs.take k then (-1 : Int) else T.np a) a (-1), sc := T.sc, ready := T.ready, passed := T.passed, fin := T.fin } : TSt) = { order := T.order, np := λ a => if a ∈ xs.take (k + 1) then (-1 : Int) else T.np a, sc := T.sc, ready := T.ready, passed := T.passed, fin := T.fin }
 rw [key]theorem Zjp {xs : List PV} {k : Nat} {μ0 μ : St} : Zam (.tup xs) μ0 k μ = some xs[k]? := rfl
theorem Zpo (S : SAt d hp o T ly) {xs : List Int} (hr : T.ready = some xs) (hsub : ∀ a ∈ xs, a ∈ T.order) (hlen : xs.length <= 1000) {Q : PV -> St -> Prop}
  (h : ∀ hp', SAt d hp' o (getT T xs) ly -> Zbi o T ly hp hp' -> Q (.tup (xs.map .int)) ⟨fr, hp'⟩) : Z (Zcw d [.obj o]) ⟨fr, hp⟩ Q E := by
 refine Z.A1 rfl ?_
 unfold Zfa
 have hrd := S.rd xs hr
 refine Z.J (Z.A2 (Z.l (Z.E6 S rfl ?_)))
 rw [Zcp hr]
 refine Z.S (Z.C0 rfl ?_)
 refine Z.L (Z.J (Z.i (Z.H (Z.W (Z.E6 S rfl ?_)))))
 rw [Zcp hr]
 refine Z.H9 (xs := xs.map .int) (.inl (Zx hrd)) (by rw [Qd]; exact Qkb hlen rfl) (Z.I ?_)
 refine Z.J (Z.i (Z.H0 S rfl (Z.I ?_)))
 show Z _ ⟨[.obj o, .tup (xs.map .int), .obj ly.n2i, .undef], hp⟩ _ _
 refine Z.J (Z.B5 (Z.B rfl rfl ?_))
 refine Z.A6 (λ k => Ex1 (λ v => [.obj o, .tup (xs.map .int), .obj ly.n2i, v]) (λ hp' => SAt d hp' o (Zgr T (xs.take k)) ly ∧ Zbi o T ly hp hp')) xs.length (λ k μ hI hk => ?_) Zj 0 _ (by unfold Zj; exact Qlb hlen rfl) (Q5 _)
  (.mk ⟨show SAt d hp o (Zgr T []) ly by
   have : Zgr T [] = T := by (unfold Zgr; simp)
   rw [this]; exact S, Zbi.refl⟩)
 obtain ⟨S', hs⟩ := hI
 rename_i v hp'
 rw [Zjp, Ql]
 cases hx : xs[k]? with
 | none =>
  left
  have hk' : k = xs.length := by have := Qgn hx; exact Q3 hk this
  subst hk'
  rw [take_length] at S'
  refine ⟨rfl, ?_⟩
  try dsimp only
  refine Z.J (Z.A5 (Z.K9 (Z.E6 S' rfl ?_)))
  have hr' : (Zgr T xs).ready = some xs := hr
  rw [Zcp hr']
  refine ⟨_, _, rfl, S'.rd xs hr', by rw [Qd]; exact Qkb hlen rfl, ?_⟩
  try dsimp only
  have SC := S'.setRd hr' []
  refine Z.J (Z.D7 (Z.B rfl rfl (Z.D9 SC.ins SC.ns ns_p rfl (Z.H (Z.W (Z.B rfl rfl (Z.C6 (xs := xs.map .int) (.inr rfl) (by rw [Qd]; exact Qkb hlen rfl) (Z.E8 (Z.B9 SC.ins SC.ns Zpn ?_)))))))))
  rw [put_p]
  have S3 := SC.setNs ((Zgr T xs).passed + ((xs.map PV.int).length : Int)) (Zgr T xs).fin
  rw [Qd] at S3 ⊢
  refine Z.J (Z.A7 (Z.B rfl rfl ?_))
  refine h _ S3 ((hs.set (fp_rn hr)).set Zl4)
 | some a =>
  right
  refine ⟨(Qgl hx), .int a, rfl, Z.I ?_⟩
  have ha : a ∈ T.order := hsub a (Qm hx)
  unfold Zij
  refine Z.J (Z.i (Z.S (Z.C7 (Z.D0 (Z.B rfl rfl (Z.B rfl rfl (Z.H2 S'.dct (Zc9 ha) (Z.B8 (S'.inf a ha) (by decide) ?_))))))))
  refine Z.L ?_
  try dsimp only
  refine Ex1.mk ⟨?_, hs.set (Zj6 ha)⟩
  have := S'.setNp ha (-1)
  rw [Zv3 hx] at this
  exact this
end

def Zat (T : TSt) (s : Int) : TSt := { T with np := upd T.np s (T.np s - 1), ready := if T.np s - 1 = 0 then T.ready.map (· ++ [s]) else T.ready }def Zca (T : TSt) (a : Int) : TSt := { (T.sc a).foldl Zat { T with np := upd T.np a (-2) } with fin := ((T.sc a).foldl Zat { T with np := upd T.np a (-2) }).fin + 1 }noncomputable def Zd5 (T : TSt) : Nat := (T.ready.getD []).length
theorem Zs6 {T : TSt} {s : Int} (h : T.ready ≠ none) : (Zat T s).ready ≠ none := by
 unfold Zat; try dsimp only
 split
 ·intro e; exact h (Option.map_eq_none_iff.mp e)
 ·exact h
theorem Zuh (T : TSt) (s : Int) : Zd5 (Zat T s) <= Zd5 T + 1 := by
 unfold Zd5 Zat; try dsimp only
 split
 ·cases T.ready <;> simp
 ·exact Qs Qr
theorem Zdj : ∀ (xs : List Int) (T : TSt), (xs.foldl Zat T).order = T.order
 | [] => λ T => rfl
 | x :: xs => λ T => (Zdj xs (Zat T x)).trans rfl
theorem Zj0 : ∀ (xs : List Int) (T : TSt), (xs.foldl Zat T).sc = T.sc
 | [] => λ T => rfl
 | x :: xs => λ T => (Zj0 xs (Zat T x)).trans rfl
theorem Zpp : ∀ (xs : List Int) (T : TSt), (xs.foldl Zat T).fin = T.fin
 | [] => λ T => rfl
 | x :: xs => λ T => (Zpp xs (Zat T x)).trans rfl
theorem Zkk : ∀ (xs : List Int) (T : TSt), (xs.foldl Zat T).passed = T.passed
 | [] => λ T => rfl
 | x :: xs => λ T => (Zkk xs (Zat T x)).trans rfl
theorem Zf0 : ∀ (xs : List Int) (T : TSt), T.ready ≠ none -> (xs.foldl Zat T).ready ≠ none
 | [] => λ T h => h
 | x :: xs => λ T h => Zf0 xs (Zat T x) (Zs6 h)
theorem Zjq : ∀ (xs : List Int) (T : TSt), Zd5 (xs.foldl Zat T) <= Zd5 T + xs.length
 | [] => λ T => Qr
 | x :: xs => λ T => by
  have h1 := Zjq xs (Zat T x)
  have h2 := Zuh T x
  simp only [foldl_cons, Xd]
  lia
section
variable {hp : List MO} {o : Nat} {T : TSt} {ly : Lay} {fr : List PV} {E : Value -> St -> Prop}
theorem Zy4 (S : SAt d hp o T ly) {s : Int} (hs : s ∈ T.order) (hr : T.ready ≠ none) (hl : Zd5 T <= 1000000) {v1 v3 v4 v5 v7 : PV} {Q : MF -> St -> Prop}
  (h : ∀ hp', SAt d hp' o (Zat T s) ly -> Zbi o T ly hp hp' -> Q .next ⟨[.obj o, v1, .obj ly.n2i, v3, v4, v5, .int s, .obj (ly.li s)], hp'⟩) : Z (Zku d) ⟨[.obj o, v1, .obj ly.n2i, v3, v4, v5, .int s, v7], hp⟩ Q E := by
 unfold Zku
 refine Z.J (Z.i (Z.D0 (Z.B rfl rfl (Z.B rfl rfl (Z.H2 S.dct (Zc9 hs) (Z.I ?_))))))
 refine Z.J (Z.D7 (Z.B rfl rfl (Z.B7 (S.inf s hs) rfl rfl (Z.S (Z.L0 (Z.B8 (S.inf s hs) (by decide) ?_))))))
 have SB := S.setNp hs (T.np s - 1)
 have s1 := (Zbi.refl (o := o) (T := T) (ly := ly) (hp := hp)).set (v := .slt d.NI (ly.dx s) [some (.int s), some (.int (T.np s - 1)), some (.obj (ly.ls s))]) (Zj6 hs)
 have e1 : (upd T.np s (T.np s - 1)) s = T.np s - 1 := Zai
 have hi := SB.inf s hs
 refine Z.J (Z.A2 (Z.l (Z.C4 (Z.B rfl rfl (Z.B7 hi rfl rfl (Z.S (Z.C3 ?_)))))))
 try dsimp only
 rw [e1]
 by_cases hz : T.np s - 1 = 0
 ·rw [show (T.np s - 1 == 0) = true by simp [hz]]
  obtain ⟨rs, hrs⟩ := Option.ne_none_iff_exists'.mp hr
  have hl' : rs.length <= 1000000 := by unfold Zd5 at hl; rw [hrs] at hl; exact hl
  have SC := SB.setRd (xs := rs) hrs (rs ++ [s])
  refine Z.J (Z.A5 (Z.A0 (Z.E6 SB rfl ?_)))
  rw [Zcp (T := { T with np := upd T.np s (T.np s - 1) }) hrs]
  refine Z.u (SB.rd rs hrs) (Z.B rfl rfl (Z.A3 (SB.rd rs hrs) (by rw [Qd]; exact hl') ?_))
  refine Z.L (Z.L ?_)
  rw [Xi] at SC
  refine h _ ?_ (s1.set (fp_rn hrs))
  unfold Zat
  rw [Qo hz, hrs]
  exact SC
 ·rw [show (T.np s - 1 == 0) = false by simpa using hz]
  refine Z.L (Z.L ?_)
  refine h _ ?_ s1
  unfold Zat
  rw [Qq hz]
  exact SB
end

theorem Zs7 (T : TSt) (a : Int) : (Zca T a).order = T.order := Zdj _ _
theorem Zrn (T : TSt) (a : Int) : (Zca T a).sc = T.sc := Zj0 _ _
theorem Zs8 {T : TSt} {a : Int} (h : T.ready ≠ none) : (Zca T a).ready ≠ none := Zf0 _ _ h
theorem Zui (T : TSt) (a : Int) : Zd5 (Zca T a) <= Zd5 T + (T.sc a).length := Zjq _ { T with np := upd T.np a (-2) }
theorem Zbi.trans {o : Nat} {T T' : TSt} {ly : Lay} {hp hp' hp'' : List MO} (h1 : Zbi o T ly hp hp') (h2 : Zbi o T' ly hp' hp'') (e : ∀ i, Fp o T' ly i ↔ Fp o T ly i) : Zbi o T ly hp hp'' :=
 ⟨h2.1.trans h1.1, λ i hi => (h2.2 i λ h => hi ((e i).mp h)).trans (h1.2 i hi)⟩
section
variable {hp : List MO} {o : Nat} {T : TSt} {ly : Lay} {fr : List PV} {E : Value -> St -> Prop}
theorem Zeb {α β : Type} {f : β -> α -> β} {xs : List α} {k : Nat} {a : α} (e : xs[k]? = some a) (b : β) : (xs.take (k + 1)).foldl f b = f ((xs.take k).foldl f b) a := by
 have hl := (Qgl e)
 rw [Xe hl, List.foldl_append]
 have := (Qge e)
 simp [this]
theorem Zcm {i : Nat} {xs ys : List PV} {k : Nat} {μ0 μ : St} (h₀ : μ0.hp[i]? = some (.lst xs)) (h : μ.hp[i]? = some (.lst ys)) : Zam (.obj i) μ0 k μ = some ys[k]? := by
 unfold Zam
 try dsimp only
 rw [h₀, h]; rfl
theorem Zxy (S : SAt d hp o T ly) {a : Int} (ha : a ∈ T.order) (hn : T.np a = -1) (hsub : ∀ s ∈ T.sc a, s ∈ T.order) (hr : T.ready ≠ none) (hl : Zd5 T + (T.sc a).length <= 900000) {v1 v4 v5 v6 v7 : PV} {Q : MF -> St -> Prop}
  (h : ∀ hp' v4 v5 v6 v7, SAt d hp' o (Zca T a) ly -> Zbi o T ly hp hp' -> Q .next ⟨[.obj o, v1, .obj ly.n2i, .int a, v4, v5, v6, v7], hp'⟩) : Z (Zgg d) ⟨[.obj o, v1, .obj ly.n2i, .int a, v4, v5, v6, v7], hp⟩ Q E := by
 unfold Zgg
 refine Z.J (Z.A2 (Z.l (Z.K0 (Z.F3 (Z.B rfl rfl (Z.D2 S.dct (Z.W (Z.B rfl rfl (Z.D8 S.dct ?_)))))))))
 rw [Zc9 ha]
 refine Z.I (Z.S (Z.C0 (x := .obj (ly.li a)) rfl ?_))
 have hi := S.inf a ha
 refine Z.L (Z.J (Z.i (Z.C4 (Z.B rfl rfl (Z.B7 hi rfl rfl (Z.I ?_))))))
 refine Z.J (Z.A2 (Z.l (Z.B rfl rfl (Z.S (Z.J3 ?_)))))
 rw [hn]
 refine Z.L (Z.J (Z.i (Z.S (Z.C7 (Z.B rfl rfl (Z.B8 hi (by decide) ?_))))))
 have SB := S.setNp ha (-2)
 have s1 := (Zbi.refl (o := o) (T := T) (ly := ly) (hp := hp)).set (v := .slt d.NI (ly.dx a) [some (.int a), some (.int (-2)), some (.obj (ly.ls a))]) (Zj6 ha)
 have hsu := SB.suc a ha
 refine Z.J (Z.B5 (Z.C4 (Z.B rfl rfl (Z.B7 (SB.inf a ha) rfl rfl ?_))))
 refine Z.A6 (λ k => Ex2 (λ w6 w7 => [.obj o, v1, .obj ly.n2i, .int a, .obj (ly.li a), .int (-1), w6, w7]) (λ hp' => SAt d hp' o (((T.sc a).take k).foldl Zat { T with np := upd T.np a (-2) }) ly ∧ Zbi o T ly hp hp')) (T.sc a).length (λ k μ hI hk => ?_) Zj 0 _ (by unfold Zj; lia) (Q5 _)
  (by rw [hn]; exact Ex2.mk ⟨SB, s1⟩)
 obtain ⟨S', s'⟩ := hI
 rename_i w6 w7 hp'
 have ho : a ∈ (((T.sc a).take k).foldl Zat { T with np := upd T.np a (-2) }).order := by rw [Zdj]; exact ha
 have hsu' := S'.suc a ho
 rw [Zj0] at hsu'
 rw [Zcm hsu hsu', Ql]
 cases hx : (T.sc a)[k]? with
 | none =>
  left
  have hk' : k = (T.sc a).length := by have := Qgn hx; exact Q3 hk this
  subst hk'
  rw [take_length] at S'
  refine ⟨rfl, ?_⟩
  try dsimp only
  refine Z.J (Z.D7 (Z.B rfl rfl (Z.D9 S'.ins S'.ns ns_q rfl (Z.S (Z.E8 (Z.B9 S'.ins S'.ns Zpn ?_))))))
  rw [put_q]
  refine Z.L (h _ _ _ _ _ (S'.setNs _ _) (s'.set Zl4))
 | some s =>
  right
  refine ⟨(Qgl hx), .int s, rfl, Z.I ?_⟩
  have hso : s ∈ (((T.sc a).take k).foldl Zat { T with np := upd T.np a (-2) }).order := by rw [Zdj]; exact hsub s (Qm hx)
  refine Zy4 S' hso (Zf0 _ _ hr) ?_ λ hp'' S'' s'' => ?_
  ·exact Qkb (Qkkk (Zjq ((T.sc a).take k) { T with np := upd T.np a (-2) }) (Nat.add_le_add_left (length_take_le' _ _) _) hl) rfl
  ·try dsimp only
   rw [<- Zeb (f := Zat) hx] at S''
   refine Ex2.mk ⟨S'', s'.trans s'' λ i => Zl5 (Zdj _ _) ?_ i⟩
   exact ⟨λ e => Qe e (Zf0 _ _ hr), λ e => Qe e hr⟩
theorem Z.fmt {a : Int} {k : Nat} {fr : List PV} {hp : List MO} (e : fr[k]? = some (.int a)) (hb : Nat.blt a.natAbs.log2 64 = true) {Q : PV -> St -> Prop} {E : Value -> St -> Prop} (h : Q (.raw none) ⟨fr, hp⟩) : Z (Mine.eFmt (Za k)) ⟨fr, hp⟩ Q E :=
 Z.H (Z.B e rfl (Z.H (Z.C5 hb (Z.S h))))theorem Z.geI {i j : Int} {μ : St} {Q : Bool -> St -> Prop} {E : Value -> St -> Prop} (h : Q (decide (i ≥ j)) μ) : Z (Zbr .GtE (.int i) (.int j)) μ Q E := Z.V rfl h
theorem Zxz (S : SAt d hp o T ly) {a : Int} (hb : Nat.blt a.natAbs.log2 64 = true) (hn : a ∈ T.order -> 0 <= T.np a ∨ T.np a = -2) {v1 v4 v5 v6 v7 : PV} {Q : MF -> St -> Prop}
  (h : ∀ fr, E (.type "ValueError") ⟨fr, hp⟩) : Z (Zgg d) ⟨[.obj o, v1, .obj ly.n2i, .int a, v4, v5, v6, v7], hp⟩ Q E := by
 unfold Zgg
 have bad : ∀ {fr : List PV} {Q : MF -> St -> Prop}, fr[3]? = some (.int a) -> Z (Zbd (.type "ValueError") (Zd (eFmt (Za 3)) (Pure.pure []))) ⟨fr, hp⟩ Q E := λ e => Z.E7 (Z.W (Z.fmt e hb ⟨rfl, h _⟩))
 refine Z.J (Z.A2 (Z.l (Z.K0 (Z.F3 (Z.B rfl rfl (Z.D2 S.dct (Z.W (Z.B rfl rfl (Z.D8 S.dct ?_)))))))))
 by_cases ha : a ∈ T.order
 ·rw [Zc9 ha]
  refine Z.I (Z.S (Z.C0 (x := .obj (ly.li a)) rfl ?_))
  have hi := S.inf a ha
  refine Z.L (Z.J (Z.i (Z.C4 (Z.B rfl rfl (Z.B7 hi rfl rfl (Z.I ?_))))))
  refine Z.J (Z.A2 (Z.l (Z.B (v := .int (T.np a)) rfl rfl (Z.S (Z.J3 ?_)))))
  rw [show (!(T.np a == -1)) = true by have := hn ha; simp; lia]
  refine Z.J (Z.A2 (Z.l (Z.B (v := .int (T.np a)) rfl rfl (Z.S (Z.geI ?_)))))
  by_cases h0 : T.np a ≥ 0
  ·rw [Qg h0]
   exact Z.J (bad rfl)
  ·rw [Q8 h0]
   refine Z.J (Z.A2 (Z.l (Z.B (v := .int (T.np a)) rfl rfl (Z.S (Z.C3 ?_)))))
   rw [show (T.np a == -2) = true by have := hn ha; simp; lia]
   exact Z.J (bad rfl)
 ·rw [Zim ha]
  refine Z.I (Z.S (Z.C0 (x := .none) rfl ?_))
  exact Z.J (bad rfl)
theorem Zx0 (S : SAt d hp o T ly) (as bs : List Int) (hr : T.ready ≠ none) (hl : Zd5 T + (as.map λ a => (T.sc a).length).sum <= 800000) (hlen : as.length + bs.length <= 1000)
  (hok : ∀ k a, as[k]? = some a -> a ∈ T.order ∧ ((as.take k).foldl Zca T).np a = -1 ∧ ∀ s ∈ T.sc a, s ∈ T.order)
  (hbad : ∀ b ys, bs = b :: ys -> Nat.blt b.natAbs.log2 64 = true ∧ (b ∈ T.order -> 0 <= (as.foldl Zca T).np b ∨ (as.foldl Zca T).np b = -2)) {Q : PV -> St -> Prop}
  (h : ∀ hp', SAt d hp' o (as.foldl Zca T) ly -> Zbi o T ly hp hp' -> (bs = [] -> Q .none ⟨fr, hp'⟩) ∧ (bs ≠ [] -> E (.type "ValueError") ⟨fr, hp'⟩)) : Z (Zgh d (.obj o :: (as ++ bs).map .int)) ⟨fr, hp⟩ Q E := by
 refine Z.A1 (init := [.obj o, .tup ((as ++ bs).map .int), .undef, .undef, .undef, .undef, .undef, .undef]) ?_ ?_
 ·show (match Z3 ((as ++ bs).map PV.int) with | true => _ | false => _) = _
  rw [show Z3 ((as ++ bs).map PV.int) = true from Qg (by rw [Qd, Qk]; exact Qkb hlen rfl)]
 unfold Zlo
 have fold_order : ∀ (bs : List Int) (T : TSt), (bs.foldl Zca T).order = T.order := λ bs => by
  induction bs with
  | nil => intro T; rfl
  | cons b bs ih => intro T; exact (ih _).trans (Zs7 _ _)
 have fold_sc : ∀ (bs : List Int) (T : TSt), (bs.foldl Zca T).sc = T.sc := λ bs => by
  induction bs with
  | nil => intro T; rfl
  | cons b bs ih => intro T; exact (ih _).trans (Zrn _ _)
 have fold_ready : ∀ (bs : List Int) (T : TSt), T.ready ≠ none -> (bs.foldl Zca T).ready ≠ none := λ bs => by
  induction bs with
  | nil => intro T h; exact h
  | cons b bs ih => intro T h; exact ih _ (Zs8 h)
 have fold_rlen : ∀ (bs : List Int) (T : TSt), Zd5 (bs.foldl Zca T) <= Zd5 T + (bs.map λ a => (T.sc a).length).sum := λ bs => by
  induction bs with
  | nil => intro T; exact Qr
  | cons b bs ih =>
   intro T
   have h1 := ih (Zca T b)
   have h2 := Zui T b
   rw [Zrn] at h1
   simp only [foldl_cons, Xa, sum_cons]
   lia
 obtain ⟨rs, hrs⟩ := Option.ne_none_iff_exists'.mp hr
 refine Z.J (Z.A2 (Z.l (Z.E6 S rfl ?_)))
 rw [Zcp hrs]
 refine Z.S (Z.C0 rfl ?_)
 refine Z.L (Z.J (Z.i (Z.H0 S rfl (Z.I ?_))))
 refine Z.J (Z.B5 (Z.B rfl rfl ?_))
 refine Z.A6 (λ k => Ex5 (λ w3 w4 w5 w6 w7 => [.obj o, .tup ((as ++ bs).map .int), .obj ly.n2i, w3, w4, w5, w6, w7]) (λ hp' => k <= as.length ∧ SAt d hp' o ((as.take k).foldl Zca T) ly ∧ Zbi o T ly hp hp')) (as ++ bs).length (λ k μ hI hk => ?_) Zj 0 _ (by unfold Zj; rw [Qk]; lia) (Q5 _)
  (.mk ⟨Q5 _, S, Zbi.refl⟩)
 obtain ⟨hka, S', s'⟩ := hI
 rename_i w3 w4 w5 w6 w7 hp'
 rw [Zjp, Ql]
 cases hx : as[k]? with
 | none =>
  have hk' : k = as.length := by have := Qgn hx; exact Q3 hka this
  subst hk'
  rw [take_length] at S'
  obtain ⟨q1, q2⟩ := h _ S' s'
  rw [Xf Qr, Nat.sub_self]
  cases bs with
  | nil => exact .inl ⟨rfl, Z.L (q1 rfl)⟩
  | cons b ys =>
   obtain ⟨z1, z2⟩ := hbad b ys rfl
   refine .inr ⟨by rw [Qk, Xd]; lia, .int b, rfl, Z.I ?_⟩
   exact Zxz S' z1 (λ hb => z2 (by rw [fold_order] at hb; exact hb)) λ fr => q2 (List.cons_ne_nil _ _)
 | some a =>
  right
  obtain ⟨h1, h2, h3⟩ := hok k a hx
  have hlt := (Qgl hx)
  rw [Qc hlt, hx]
  refine ⟨by rw [Qk]; lia, .int a, rfl, Z.I ?_⟩
  refine Zxy S' (by rw [fold_order]; exact h1) h2 (by rw [fold_sc, fold_order]; exact h3) (fold_ready _ _ hr) ?_ λ hp'' u4 u5 u6 u7 S'' s'' => ?_
  ·rw [fold_sc]
   have := fold_rlen (as.take k) T
   have e : (as.map λ a => (T.sc a).length).sum = ((as.take k).map λ a => (T.sc a).length).sum + ((as.drop k).map λ a => (T.sc a).length).sum := by
    rw [<- List.sum_append, <- Xi, take_append_drop]
   have e2 : (T.sc a).length <= ((as.drop k).map λ a => (T.sc a).length).sum := by
    rw [List.drop_eq_getElem_cons hlt, Xa, sum_cons, (Qge hx)]
    exact Nat.le_add_right _ _
   rw [e, <- Nat.add_assoc] at hl
   exact Qkb (Qkk (Nat.add_le_add this e2) hl) rfl
  ·try dsimp only
   rw [<- Zeb (f := Zca) hx] at S''
   exact Ex5.mk ⟨hlt, S'', s'.trans s'' λ i => Zl5 (fold_order _ _) ⟨λ e => Qe e (fold_ready _ _ hr), λ e => Qe e hr⟩ i⟩
end

section
variable {hp : List MO} {o : Nat} {T : TSt} {ly : Lay} {fr : List PV} {E : Value -> St -> Prop}
theorem Z.L7 {f g : PM PV} {μ : St} {Q : PV -> St -> Prop} (h : Z f μ (λ x μ' => Z g μ' (λ y μ'' => ∃ i j, x = .int i ∧ y = .int j ∧ Q (.bool (decide (i < j))) μ'') E) E) : Z (Zdm .Lt f g) μ Q E :=
 Z.H (h.mono (λ _ _ h => Z.H (h.mono (λ _ _ hh => by
  obtain ⟨i, j, e1, e2, h'⟩ := hh
  subst e1 e2; exact Z.H (Z.V rfl (Z.S h'))) λ _ _ e => e)) λ _ _ e => e)
theorem Z.eOr {f g : PM PV} {μ : St} {Q : PV -> St -> Prop} (h : Z f μ (λ x μ' => ∃ b, x = .bool b ∧ (b = true -> Q (.bool true) μ') ∧ (b = false -> Z g μ' Q E)) E) : Z (Mine.eOr f g) μ Q E :=
 Z.H (h.mono (λ x μ' hh => by
  obtain ⟨b, e, h1, h2⟩ := hh
  subst e
  refine Z.H (Z.V rfl ?_)
  cases b with
  | true => exact Z.S (h1 rfl)
  | false => exact h2 rfl) λ _ _ e => e)
theorem Z.N0 {i : Nat} {xs : List PV} {Q : PV -> St -> Prop} (e : hp[i]? = some (.lst xs)) (hl : xs.length <= 1000000) (h : Q (.bool (!xs.isEmpty)) ⟨fr, hp⟩) : Z (Mine.pBool [.obj i]) ⟨fr, hp⟩ Q E := by
 refine Z.H (Z.V (a := xs) (μ' := ⟨fr, hp⟩) ?_ (Z.H (Z.C5 (Qg hl) (Z.mk h))))
 unfold Zdn
 try dsimp only
 rw [Zx e]
theorem Zjr (S : SAt d hp o T ly) {xs : List Int} (hr : T.ready = some xs) (hl : xs.length <= 1000000) {Q : PV -> St -> Prop} (h : Q (.bool (decide (T.fin < T.passed) || !xs.isEmpty)) ⟨fr, hp⟩) : Z (Zds d [.obj o]) ⟨fr, hp⟩ Q E := by
 refine Z.A1 rfl ?_
 unfold Zfb
 refine Z.J (Z.A2 (Z.l (Z.E6 S rfl ?_)))
 rw [Zcp hr]
 refine Z.S (Z.C0 rfl ?_)
 refine Z.L (Z.J (Z.A7 (Z.eOr (Z.L7 (Z.fiA S rfl (Z.psA S rfl ⟨_, _, rfl, rfl, _, rfl, λ e => ?_, λ e => ?_⟩))))))
 ·rw [e, Bool.true_or] at h; exact h
 ·refine Z.H (Z.W (Z.E6 S rfl ?_))
  rw [Zcp hr]
  refine Z.N0 (S.rd xs hr) (by rw [Qd]; exact hl) ?_
  rw [e, Bool.false_or] at h
  have : (xs.map PV.int).isEmpty = xs.isEmpty := by cases xs <;> rfl
  rw [this]
  exact h
theorem Zh3 {x : MO} {l : List MO} : (hp ++ x :: l)[hp.length]? = some x := by simp
theorem Zq0 {a : Int} {Q : PV -> St -> Prop}
  (h : ∀ hp', hp'.length = hp.length + 3 -> (∀ i, i < hp.length -> hp'[i]? = hp[i]?) -> hp'[hp.length + 1]? = some (.slt d.NI hp.length [some (.int a), some (.int 0), some (.obj (hp.length + 2))]) -> hp'[hp.length + 2]? = some (.lst []) -> Q (.obj (hp.length + 1)) ⟨fr, hp'⟩) :
  Z (newM d.NI true (Zjh d) [.int a]) ⟨fr, hp⟩ Q E := by
 unfold newM
 refine Z.H (Z.A9 (Z.H (Z.A9 (Z.H (Z.A1 rfl ?_)))))
 have hl1 : (hp ++ [MO.ns []]).length = hp.length + 1 := by simp
 rw [hl1]
 have e1 : ((hp ++ [MO.ns []]) ++ [Zbv d.NI true hp.length])[hp.length + 1]? = some (.slt d.NI hp.length []) := by rw [<- hl1]; simp [Zbv]
 have Zfv : ((hp ++ [MO.ns []]) ++ [Zbv d.NI true hp.length]).length = hp.length + 2 := by simp
 have old1 : ∀ i, i < hp.length -> ((hp ++ [MO.ns []]) ++ [Zbv d.NI true hp.length])[i]? = hp[i]? := λ i hi => by
  rw [Qc (by simp; lia), Qc hi]
 generalize ((hp ++ [MO.ns []]) ++ [Zbv d.NI true hp.length]) = h1 at e1 Zfv old1 ⊢
 unfold Zjg
 refine Z.J (Z.i (Z.B rfl rfl (Z.C7 (Z.B rfl rfl (Z.B8 e1 (by decide) ?_)))))
 have e2 : (h1.set (hp.length + 1) (.slt d.NI hp.length [some (.int a)]))[hp.length + 1]? = some (.slt d.NI hp.length [some (.int a)]) := Z5 e1
 refine Z.J (Z.i (Z.S (Z.C7 (Z.B rfl rfl (Z.B8 e2 (by decide) ?_)))))
 have e3 : ((h1.set (hp.length + 1) (.slt d.NI hp.length [some (.int a)])).set (hp.length + 1) (.slt d.NI hp.length [some (.int a), some (.int 0)]))[hp.length + 1]? = some (.slt d.NI hp.length [some (.int a), some (.int 0)]) := Z5 e2
 refine Z.J (Z.i (Z.H (Z.y (Z.H (Z.C5 rfl (Z.H (Z.A9 (Z.S (Z.C7 (Z.B rfl rfl ?_))))))))))
 have len3 : ((h1.set (hp.length + 1) (.slt d.NI hp.length [some (.int a)])).set (hp.length + 1) (.slt d.NI hp.length [some (.int a), some (.int 0)])).length = hp.length + 2 := by simp [Zfv]
 have e4 := getElem?_app (r := [MO.lst []]) e3
 have e3' : h1.set (hp.length + 1) (.slt d.NI hp.length (([] ++ List.replicate (0 + 1 - ([] : List (Option PV)).length) none).set 0 (some (.int a)))) = h1.set (hp.length + 1) (.slt d.NI hp.length [some (.int a)]) := rfl
 refine Z.B8 e4 (by decide) ?_
 refine Z.L ?_
 try dsimp only
 refine Z.S (h _ ?_ ?_ ?_ ?_)
 ·simp [Zfv]
 ·intro i hi
  rw [Qf (by exact Qnl (Qs hi)), Qc (by simp [Zfv]; exact Qll hi (Qs (Qs Qr))), Qf (Qnl (Qs hi)), Qf (Qnl (Qs hi))]
  exact old1 i hi
 ·refine (Z5 e4).trans ?_
  simp [Zfv]
 ·rw [Qf (by exact Qnk Qr)]
  rw [<- len3]
  simp
end

def Zw (T : TSt) (a : Int) : TSt := if a ∈ T.order then T else { T with order := T.order ++ [a], np := upd T.np a 0, sc := upd T.sc a [] }def Zcr (a : Int) (T : TSt) (p : Int) : TSt := { Zw T p with sc := upd (Zw T p).sc p ((Zw T p).sc p ++ [a]) }def addT (T : TSt) (a : Int) (ps : List Int) : TSt := ps.foldl (Zcr a) { Zw T a with np := upd (Zw T a).np a ((Zw T a).np a + ps.length) }
structure Grow (o : Nat) (T : TSt) (ly : Lay) (hp : List MO) (T' : TSt) (ly' : Lay) (hp' : List MO) : Prop where
 len : hp.length <= hp'.length
 old : ∀ i, i < hp.length -> ¬ Fp o T ly i -> hp'[i]? = hp[i]?
 new : ∀ i, Fp o T' ly' i -> Fp o T ly i ∨ hp.length <= i
theorem Grow.refl {o : Nat} {T : TSt} {ly : Lay} {hp : List MO} : Grow o T ly hp T ly hp := ⟨Qr, λ _ _ _ => rfl, λ _ h => .inl h⟩
theorem Grow.trans {o : Nat} {T T' T'' : TSt} {ly ly' ly'' : Lay} {hp hp' hp'' : List MO} (h1 : Grow o T ly hp T' ly' hp') (h2 : Grow o T' ly' hp' T'' ly'' hp'') : Grow o T ly hp T'' ly'' hp'' :=
 ⟨Qj h1.len h2.len, λ i hi hn => (h2.old i (Nat.lt_of_lt_of_le hi h1.len) λ h => (h1.new i h).elim hn λ h => Qe hi (Qi h)).trans (h1.old i hi hn),
  λ i h => (h2.new i h).elim (h1.new i) λ h => .inr (Qj h1.len h)⟩
theorem Zbi.grow {o : Nat} {T T' : TSt} {ly : Lay} {hp hp' : List MO} (h : Zbi o T ly hp hp') (e : ∀ i, Fp o T' ly i ↔ Fp o T ly i) : Grow o T ly hp T' ly hp' :=
 ⟨Xb h.1.symm, λ i _ hn => h.2 i hn, λ i hi => .inl ((e i).mp hi)⟩
section
variable {hp : List MO} {o : Nat} {T : TSt} {ly : Lay} {fr : List PV} {E : Value -> St -> Prop}
theorem SAt.lt (S : SAt d hp o T ly) {i : Nat} (h : Fp o T ly i) : i < hp.length := by
 have key : ∀ {x : MO}, hp[i]? = some x -> i < hp.length := λ e => (Qgl e)
 rcases h with rfl | rfl | rfl | ⟨h, rfl⟩ | ⟨a, ha, rfl | rfl⟩
 ·exact key S.ins
 ·exact key S.ns
 ·exact key S.dct
 ·obtain ⟨xs, e⟩ := Option.ne_none_iff_exists'.mp h
  exact key (S.rd xs e)
 ·exact key (S.inf a ha)
 ·exact key (S.suc a ha)
theorem Z.M1 {i : Nat} {es : List (Int × PV)} {ep : Nat} {k : Int} {y : PV} {Q : Unit -> St -> Prop} (e : hp[i]? = some (.dct es ep)) (hl : es.length <= 1000000) (hk : Zde es k = false) (h : Q () ⟨fr, hp.set i (.dct (es ++ [(k, y)]) (ep + 1))⟩) : Z (Zb9 (.obj i) (.int k) y) ⟨fr, hp⟩ Q E := by
 refine Z.V ?_ h
 unfold Zb9
 try dsimp only
 rw [e]
 try dsimp only
 rw [show Z3 es = true from Qg hl]
 try dsimp only
 unfold dPut
 rw [hk]
theorem Zv4 {f : Int -> PV} {a : Int} {l : List Int} (h : a ∉ l) : Zde (l.map λ a => (a, f a)) a = false := by
 unfold Zde
 rw [List.any_eq_false]
 intro x hx
 obtain ⟨b, hb, rfl⟩ := Qmm hx
 simp
 intro e; exact h (e ▸ hb)
theorem Zkl (S : SAt d hp o T ly) (a : Int) (hl : T.order.length <= 1000) {Q : PV -> St -> Prop}
  (h : ∀ hp' ly', SAt d hp' o (Zw T a) ly' -> Grow o T ly hp (Zw T a) ly' hp' -> Q (.obj (ly'.li a)) ⟨fr, hp'⟩) : Z (Zfz d [.obj o, .int a]) ⟨fr, hp⟩ Q E := by
 refine Z.A1 rfl ?_
 unfold Zhz
 refine Z.J (Z.A2 (Z.l (Z.K0 (Z.F3 (Z.H0 S rfl (Z.D2 S.dct (Z.W (Z.B rfl rfl (Z.D8 S.dct ?_)))))))))
 by_cases ha : a ∈ T.order
 ·rw [Zc9 ha]
  refine Z.I (Z.S (Z.C0 (x := .obj (ly.li a)) rfl ?_))
  refine Z.L (Z.J (Z.A7 (Z.B rfl rfl ?_)))
  have e : Zw T a = T := Qo ha
  rw [e] at h
  exact h hp ly S Grow.refl
 ·rw [Zim ha]
  refine Z.I (Z.S (Z.C0 (x := .none) rfl ?_))
  refine Z.J (Z.asg2 (Z.H (Z.W (Z.B rfl rfl (Zq0 λ hp' hlen hold h1 h2 => ?_)))))
  have S' : SAt d hp' o T ly := S.keep λ i hi => hold i (S.lt hi)
  refine Z.M0 (Z.H0 S' rfl (Z.B rfl rfl (Z.M1 S'.dct (by rw [Qd]; exact Qkb hl rfl) (Zv4 ha) (Z.I ?_))))
  refine Z.L (Z.J (Z.A7 (Z.B (v := .obj (hp.length + 1)) rfl rfl ?_)))
  have e : Zw T a = { T with order := T.order ++ [a], np := upd T.np a 0, sc := upd T.sc a [] } := Qq ha
  rw [e] at h
  have ne : ∀ b ∈ T.order, b ≠ a := λ b hb e => ha (e ▸ hb)
  have hn2 : ly.n2i < hp.length := S.lt Zlu
  have new : ∀ {i : Nat} {x : MO}, hp.length <= i -> hp'[i]? = some x -> (hp'.set ly.n2i (.dct ((T.order.map λ a => (a, PV.obj (ly.li a))) ++ [(a, .obj (hp.length + 1))]) (ly.ep + 1)))[i]? = some x := λ hi hx => Zu (Qnkl hn2 hi) hx
  have := h (hp'.set ly.n2i (.dct ((T.order.map λ a => (a, PV.obj (ly.li a))) ++ [(a, .obj (hp.length + 1))]) (ly.ep + 1)))
   { ly with ep := ly.ep + 1, li := upd ly.li a (hp.length + 1), ls := upd ly.ls a (hp.length + 2), dx := upd ly.dx a hp.length } ?_ ?_
  ·dsimp only at this
   rw [show upd ly.li a (hp.length + 1) a = hp.length + 1 from Zai] at this
   exact this
  ·refine ⟨Zl S'.dct S'.ins (mn rfl), ?_, ?_, λ xs e => Zl S'.dct (S'.rd xs e) (mn rfl), λ b hb => ?_, λ b hb => ?_, λ b hb c hc hbc => ?_, λ hr b hb => ?_, ?_⟩
   ·exact Zl S'.dct S'.ns (mn rfl)
   ·refine (Z5 S'.dct).trans ?_
    congr 2
    show _ = (T.order ++ [a]).map λ b => (b, PV.obj (upd ly.li a (hp.length + 1) b))
    rw [Xi]
    congr 1
    ·exact map_congr_left λ b hb => by rw [Za0 (ne b hb)]
    ·simp [Zai]
   ·rcases Qma hb with hb | hb
    ·show _ = some (MO.slt d.NI (upd ly.dx a hp.length b) [_, some (PV.int (upd T.np a 0 b)), some (PV.obj (upd ly.ls a (hp.length + 2) b))])
     rw [Za0 (ne b hb), Za0 (ne b hb), Za0 (ne b hb)]
     show (hp'.set _ _)[upd ly.li a (hp.length + 1) b]? = _
     rw [Za0 (ne b hb)]
     exact Zl S'.dct (S'.inf b hb) (mn rfl)
    ·rw [Qz] at hb
     subst hb
     show (hp'.set _ _)[upd ly.li b (hp.length + 1) b]? = some (MO.slt d.NI (upd ly.dx b hp.length b) [_, some (PV.int (upd T.np b 0 b)), some (PV.obj (upd ly.ls b (hp.length + 2) b))])
     rw [Zai, Zai, Zai, Zai]
     exact new (Qs Qr) h1
   ·rcases Qma hb with hb | hb
    ·show (hp'.set _ _)[upd ly.ls a (hp.length + 2) b]? = some (MO.lst ((upd T.sc a [] b).map PV.int))
     rw [Za0 (ne b hb), Za0 (ne b hb)]
     exact Zl S'.dct (S'.suc b hb) (mn rfl)
    ·rw [Qz] at hb
     subst hb
     show (hp'.set _ _)[upd ly.ls b (hp.length + 2) b]? = some (MO.lst ((upd T.sc b [] b).map PV.int))
     rw [Zai, Zai]
     exact new (Qs (Qs Qr)) h2
   ·have hbc : upd ly.ls a (hp.length + 2) b = upd ly.ls a (hp.length + 2) c := hbc
    rcases Qma hb with kb | kb <;> rcases Qma hc with kc | kc
    ·rw [Za0 (ne b kb), Za0 (ne c kc)] at hbc; exact S.lsi b kb c kc hbc
    ·rw [Qz] at kc
     rw [Za0 (ne b kb), kc, Zai] at hbc
     have := S.lt (Zj7 kb (o := o)); lia
    ·rw [Qz] at kb
     rw [Za0 (ne c kc), kb, Zai] at hbc
     have := S.lt (Zj7 kc (o := o)); lia
    ·rw [Qz] at kb kc; rw [kb, kc]
   ·show upd ly.ls a (hp.length + 2) b ≠ ly.rn
    have hrn : ly.rn < hp.length := S.lt (.inr (.inr (.inr (.inl ⟨hr, rfl⟩))))
    rcases Qma hb with hb | hb
    ·rw [Za0 (ne b hb)]; exact S.rls hr b hb
    ·rw [Qz] at hb; subst hb; rw [Zai]; exact Qnl (Qs (Qs hrn))
   ·refine nodup_append.mpr ⟨S.ond, by simp, λ x hx y hy e => ?_⟩
    rw [Qz] at hy
    exact ha (by rw [<- hy, <- e]; exact hx)
  ·refine ⟨by rw [length_set]; lia, λ i hi hn => ?_, λ i hi => ?_⟩
   ·rw [Qf (λ e => hn (by subst e; exact Zlu))]
    exact hold i hi
   ·rcases hi with rfl | rfl | rfl | ⟨hr, rfl⟩ | ⟨b, hb, hi⟩
    ·exact .inl fp_o
    ·exact .inl Zl4
    ·exact .inl Zlu
    ·exact .inl (.inr (.inr (.inr (.inl ⟨hr, rfl⟩))))
    ·rcases Qma hb with hb | hb
     ·rcases hi with rfl | rfl
      ·left; show Fp o T ly (upd ly.li a _ b); rw [Za0 (ne b hb)]; exact Zj6 hb
      ·left; show Fp o T ly (upd ly.ls a _ b); rw [Za0 (ne b hb)]; exact Zj7 hb
     ·rw [Qz] at hb; subst hb
      rcases hi with rfl | rfl
      ·right; show _ <= upd ly.li b _ b; rw [Zai]; exact Qs Qr
      ·right; show _ <= upd ly.ls b _ b; rw [Zai]; exact Qs (Qs Qr)
end

theorem Zpq (T : TSt) (a : Int) : a ∈ (Zw T a).order := by
 unfold Zw
 split
 ·assumption
 ·exact mem_append_right _ (mem_singleton.mpr rfl)
theorem Zpr (T : TSt) (a : Int) : (Zw T a).order.length <= T.order.length + 1 := by
 unfold Zw
 split
 ·exact Qs Qr
 ·simp
theorem Zmj (T : TSt) (a p : Int) : ((Zw T a).sc p).length <= (T.sc p).length := by
 unfold Zw
 split
 ·exact Qkk Qr Qr
 ·show (upd T.sc a [] p).length <= _
  unfold upd
  split <;> simp
theorem Zv5 (a : Int) (T : TSt) (p : Int) : (Zcr a T p).order.length <= T.order.length + 1 := Zpr T p
theorem Zx1 (a : Int) (T : TSt) (p q : Int) : ((Zcr a T p).sc q).length <= (T.sc q).length + 1 := by
 show (upd (Zw T p).sc p ((Zw T p).sc p ++ [a]) q).length <= _
 unfold upd
 have h1 := Zmj T p q
 split
 ·rename_i e; subst e; rw [Qk, length_singleton]; exact Qkl h1 Qr
 ·exact Qkk h1 (Qs Qr)
theorem Zm8 (a : Int) : ∀ (ps : List Int) (T : TSt), (ps.foldl (Zcr a) T).order.length <= T.order.length + ps.length
 | [] => λ T => Qr
 | p :: ps => λ T => by
  exact Qkk (Zm8 a ps (Zcr a T p)) (Qke (Q9 (Zv5 a T p) _) (Nat.succ_add_eq_add_succ _ _).symm)
theorem Zps (a q : Int) : ∀ (ps : List Int) (T : TSt), ((ps.foldl (Zcr a) T).sc q).length <= (T.sc q).length + ps.length
 | [] => λ T => Qr
 | p :: ps => λ T => by
  exact Qkk (Zps a q ps (Zcr a T p)) (Qke (Q9 (Zx1 a T p q) _) (Nat.succ_add_eq_add_succ _ _).symm)
theorem Zro {o : Nat} {T T' : TSt} {ly : Lay} {hp hp' : List MO} (hl : hp'.length = hp.length) (ho : ∀ i, ¬ Fp o T ly i -> hp'[i]? = hp[i]?) (h1 : T'.order = T.order) (h2 : T'.ready = T.ready) : Grow o T ly hp T' ly hp' :=
 ⟨Xb hl.symm, λ i _ hn => ho i hn, λ i hi => .inl ((Zl5 h1 (by rw [h2]) i).mp hi)⟩
section
variable {hp : List MO} {o : Nat} {T : TSt} {ly : Lay} {fr : List PV} {E : Value -> St -> Prop}
theorem Z.M3 (S : SAt d hp o T ly) {name : Str} (hn : ([("_node2info" : Str), "_ready_nodes", "_npassedout", "_nfinished"].contains name) = false) {Q : Unit -> St -> Prop} (h : Q () ⟨fr, hp⟩) : Z (Zd0 d.TS name (.obj o)) ⟨fr, hp⟩ Q E :=
 Z.N1 S.ins S.ns (Zxx name hn) h
theorem Z.A8 {name : Str} {g : PM (List PV)} {k : List PV -> PM PV} {Q : PV -> St -> Prop} (S : SAt d hp o T ly) (e : fr[0]? = some (.obj o)) (h : Z g ⟨fr, hp⟩ (λ ys μ => Z (k (.obj o :: ys)) μ Q E) E) (hn : ([("_node2info" : Str), "_ready_nodes", "_npassedout", "_nfinished"].contains name) = false := by kernel_rfl) : Z (Zb5 d.TS name (Za 0) g k) ⟨fr, hp⟩ Q E :=
 Z.N4 (Z.B e rfl (Z.M3 S hn h))
theorem Zy5 (S : SAt d hp o T ly) (a : Int) (ps : List Int) (hr : T.ready = none) (hl : T.order.length + ps.length <= 900) (hsc : ∀ q, (T.sc q).length <= 1000) {Q : PV -> St -> Prop}
  (h : ∀ hp' ly', SAt d hp' o (addT T a ps) ly' -> Grow o T ly hp (addT T a ps) ly' hp' -> Q .none ⟨fr, hp'⟩) : Z (k_add d (.obj o :: .int a :: ps.map .int)) ⟨fr, hp⟩ Q E := by
 refine Z.A1 (init := [.obj o, .int a, .tup (ps.map .int), .undef, .undef, .undef]) ?_ ?_
 ·show (match Z3 (ps.map PV.int) with | true => _ | false => _) = _
  rw [show Z3 (ps.map PV.int) = true from Qg (by rw [Qd]; lia)]
 unfold g_add
 refine Z.J (Z.A2 (Z.l (Z.E6 S rfl ?_)))
 rw [Zh2 hr]
 refine Z.S (Z.D1 (x := .none) rfl ?_)
 refine Z.L (Z.J (Z.i (Z.A8 S rfl (Z.W (Z.B rfl rfl (Zkl S a (by lia) λ hpB ly1 SB gB => Z.I ?_))))))
 have ha := Zpq T a
 refine Z.J (Z.D7 (Z.B (v := .obj (ly1.li a)) rfl rfl (Z.B7 (SB.inf a ha) rfl rfl (Z.H (Z.W (Z.B rfl rfl (Z.C6 (xs := ps.map .int) (.inr rfl) (by rw [Qd]; lia) (Z.E8 (Z.B8 (SB.inf a ha) (by decide) ?_)))))))))
 rw [Qd]
 have SC := SB.setNp ha ((Zw T a).np a + ps.length)
 have gC : Grow o (Zw T a) ly1 hpB { Zw T a with np := upd (Zw T a).np a ((Zw T a).np a + ps.length) } ly1 (hpB.set (ly1.li a) (.slt d.NI (ly1.dx a) [some (.int a), some (.int ((Zw T a).np a + ps.length)), some (.obj (ly1.ls a))])) :=
  Zro (by rw [length_set]) (λ i hi => by rw [Qf (λ e => hi (by rw [<- e]; exact Zj6 ha))]) rfl rfl
 refine Z.J (Z.B5 (Z.B rfl rfl ?_))
 refine Z.A6 (λ k => Ex2 (λ w4 w5 => [.obj o, .int a, .tup (ps.map .int), .obj (ly1.li a), w4, w5]) (λ hp' => ∃ ly', SAt d hp' o ((ps.take k).foldl (Zcr a) { Zw T a with np := upd (Zw T a).np a ((Zw T a).np a + ps.length) }) ly' ∧
   Grow o T ly hp ((ps.take k).foldl (Zcr a) { Zw T a with np := upd (Zw T a).np a ((Zw T a).np a + ps.length) }) ly' hp')) ps.length (λ k μ hI hk => ?_) Zj 0 _ (by unfold Zj; lia) (Q5 _)
  (.mk ⟨ly1, SC, gB.trans gC⟩)
 obtain ⟨ly', S', g'⟩ := hI
 rename_i w4 w5 hp'
 rw [Zjp, Ql]
 cases hx : ps[k]? with
 | none =>
  left
  have hk' : k = ps.length := by have := Qgn hx; exact Q3 hk this
  subst hk'
  rw [take_length] at S' g'
  exact ⟨rfl, Z.L (h _ _ S' g')⟩
 | some p =>
  right
  refine ⟨(Qgl hx), .int p, rfl, Z.I ?_⟩
  have b1 := Zm8 a (ps.take k) { Zw T a with np := upd (Zw T a).np a ((Zw T a).np a + ps.length) }
  have b2 : (Zw T a).order.length <= T.order.length + 1 := Zpr T a
  have b3 : (ps.take k).length <= ps.length := length_take_le' _ _
  unfold Zrl
  refine Z.J (Z.i (Z.A8 S' rfl (Z.W (Z.B rfl rfl (Zkl S' p ?_ λ hpC ly2 S3 gD => Z.I ?_)))))
  ·exact Qkb (Qkk b1 (Qkk (Nat.add_le_add b2 b3) (Qek (Nat.add_right_comm _ 1 _) (Nat.succ_le_succ hl)))) rfl
  have hp_ := Zpq ((ps.take k).foldl (Zcr a) { Zw T a with np := upd (Zw T a).np a ((Zw T a).np a + ps.length) }) p
  have b5 := Zps a p (ps.take k) { Zw T a with np := upd (Zw T a).np a ((Zw T a).np a + ps.length) }
  have b6 : ((Zw T a).sc p).length <= (T.sc p).length := Zmj T a p
  have b7 := Zmj ((ps.take k).foldl (Zcr a) { Zw T a with np := upd (Zw T a).np a ((Zw T a).np a + ps.length) }) p p
  have b8 := hsc p
  refine Z.J (Z.A5 (Z.A0 (Z.C4 (Z.B (v := .obj (ly2.li p)) rfl rfl (Z.B7 (S3.inf p hp_) rfl rfl (Z.u (S3.suc p hp_) (Z.B rfl rfl (Z.A3 (S3.suc p hp_) (by rw [Qd]; exact Qkb (Qkk b7 (Qkk b5 (Nat.add_le_add (Qkk b6 b8) (Qkk b3 (Qfr hl))))) rfl) ?_))))))))
  refine Z.L ?_
  try dsimp only
  have SE := S3.setSc hp_ ((Zw ((ps.take k).foldl (Zcr a) { Zw T a with np := upd (Zw T a).np a ((Zw T a).np a + ps.length) }) p).sc p ++ [a])
  rw [Xi] at SE
  refine Ex2.mk ⟨ly2, ?_, ?_⟩
  ·rw [Zeb (f := Zcr a) hx]
   exact SE
  ·rw [Zeb (f := Zcr a) hx]
   exact g'.trans (gD.trans (Zro (by rw [length_set]) (λ i hi => by rw [Qf (λ e => hi (by rw [<- e]; exact Zj7 hp_))]) rfl rfl))
end

noncomputable def T0 : TSt := { order := [], np := λ _ => 0, sc := λ _ => [], ready := none, passed := 0, fin := 0 }
section
variable {hp : List MO} {fr : List PV} {E : Value -> St -> Prop}theorem put_1 {n : PV} : Zcc ("_node2info" : Str) n [] = [(("_node2info" : Str), n)] := by kernel_rfl
theorem put_2 {n r : PV} : Zcc ("_ready_nodes" : Str) r [(("_node2info" : Str), n)] = [(("_node2info" : Str), n), (("_ready_nodes" : Str), r)] := by kernel_rfl
theorem put_3 {n r p : PV} : Zcc ("_npassedout" : Str) p [(("_node2info" : Str), n), (("_ready_nodes" : Str), r)] = [(("_node2info" : Str), n), (("_ready_nodes" : Str), r), (("_npassedout" : Str), p)] := by kernel_rfl
theorem put_4 {n r p q : PV} : Zcc ("_nfinished" : Str) q [(("_node2info" : Str), n), (("_ready_nodes" : Str), r), (("_npassedout" : Str), p)] = [(("_node2info" : Str), n), (("_ready_nodes" : Str), r), (("_npassedout" : Str), p), (("_nfinished" : Str), q)] := by kernel_rfl
theorem Zy6 {Q : PV -> St -> Prop} (h : ∀ hp' o ly, SAt d hp' o T0 ly -> hp.length <= hp'.length -> (∀ i, i < hp.length -> hp'[i]? = hp[i]?) -> (∀ i, Fp o T0 ly i -> hp.length <= i) -> Q (.obj o) ⟨fr, hp'⟩) :
  Z (newM d.TS false (Zjj d) []) ⟨fr, hp⟩ Q E := by
 unfold newM
 refine Z.H (Z.A9 (Z.H (Z.A9 (Z.H (Z.A1 rfl ?_)))))
 have hl1 : (hp ++ [MO.ns []]).length = hp.length + 1 := by simp
 rw [hl1]
 have e1 : ((hp ++ [MO.ns []]) ++ [Zbv d.TS false hp.length])[hp.length + 1]? = some (.ins d.TS hp.length) := by rw [<- hl1]; simp [Zbv]
 have e2 : ((hp ++ [MO.ns []]) ++ [Zbv d.TS false hp.length])[hp.length]? = some (.ns []) := by simp
 have Zfv : ((hp ++ [MO.ns []]) ++ [Zbv d.TS false hp.length]).length = hp.length + 2 := by simp
 have old1 : ∀ i, i < hp.length -> ((hp ++ [MO.ns []]) ++ [Zbv d.TS false hp.length])[i]? = hp[i]? := λ i hi => by
  rw [Qc (by simp; lia), Qc hi]
 generalize ((hp ++ [MO.ns []]) ++ [Zbv d.TS false hp.length]) = h1 at e1 e2 Zfv old1 ⊢
 unfold Zji
 refine Z.J (Z.i (Z.H (Z.A9 (Z.S (Z.C7 (Z.B rfl rfl (Z.B9 (getElem?_app e1) (getElem?_app e2) (by simp) ?_)))))))
 rw [put_1, Zfv]
 have a1 : ((h1 ++ [MO.dct [] 0]).set hp.length (.ns [(("_node2info" : Str), .obj (hp.length + 2))]))[hp.length + 1]? = some (.ins d.TS hp.length) := Zu (by lia) (getElem?_app e1)
 have a2 : ((h1 ++ [MO.dct [] 0]).set hp.length (.ns [(("_node2info" : Str), .obj (hp.length + 2))]))[hp.length]? = some (.ns [(("_node2info" : Str), .obj (hp.length + 2))]) := Z5 (getElem?_app e2)
 have a3 : ((h1 ++ [MO.dct [] 0]).set hp.length (.ns [(("_node2info" : Str), .obj (hp.length + 2))]))[hp.length + 2]? = some (.dct [] 0) := Zu (by lia) (by rw [<- Zfv]; simp)
 have a4 : ((h1 ++ [MO.dct [] 0]).set hp.length (.ns [(("_node2info" : Str), .obj (hp.length + 2))])).length = hp.length + 3 := by simp [Zfv]
 have a5 : ∀ i, i < hp.length -> ((h1 ++ [MO.dct [] 0]).set hp.length (.ns [(("_node2info" : Str), .obj (hp.length + 2))]))[i]? = hp[i]? := λ i hi => by
  rw [Qf (by exact Nat.ne_of_gt hi), Qc (by lia)]; exact old1 i hi
 generalize ((h1 ++ [MO.dct [] 0]).set hp.length (.ns [(("_node2info" : Str), .obj (hp.length + 2))])) = h2 at a1 a2 a3 a4 a5 ⊢
 refine Z.J (Z.i (Z.S (Z.C7 (Z.B rfl rfl (Z.B9 a1 a2 (by simp) ?_)))))
 rw [put_2]
 have b1 := Zu (v := MO.ns [(("_node2info" : Str), .obj (hp.length + 2)), (("_ready_nodes" : Str), .none)]) (show hp.length ≠ hp.length + 1 by lia) a1
 have b2 := Z5 (v := MO.ns [(("_node2info" : Str), .obj (hp.length + 2)), (("_ready_nodes" : Str), .none)]) a2
 refine Z.J (Z.i (Z.S (Z.C7 (Z.B rfl rfl (Z.B9 b1 b2 (by simp) ?_)))))
 rw [put_3]
 have c1 := Zu (v := MO.ns [(("_node2info" : Str), .obj (hp.length + 2)), (("_ready_nodes" : Str), .none), (("_npassedout" : Str), .int 0)]) (show hp.length ≠ hp.length + 1 by lia) b1
 have c2 := Z5 (v := MO.ns [(("_node2info" : Str), .obj (hp.length + 2)), (("_ready_nodes" : Str), .none), (("_npassedout" : Str), .int 0)]) b2
 refine Z.J (Z.i (Z.S (Z.C7 (Z.B rfl rfl (Z.B9 c1 c2 (by simp) ?_)))))
 rw [put_4]
 refine Z.J (Z.A2 (Z.l (Z.B rfl rfl (Z.S (Z.D1 (x := .none) rfl ?_)))))
 refine Z.L (Z.L ?_)
 try dsimp only
 refine Z.S (h _ (hp.length + 1) { dn := hp.length, n2i := hp.length + 2, rn := 0, ep := 0, li := λ _ => 0, ls := λ _ => 0, dx := λ _ => 0 } ?_ ?_ ?_ ?_)
 ·refine ⟨?_, ?_, ?_, (λ xs e => nomatch e), (λ a ha => nomatch ha), (λ a ha => nomatch ha), (λ a ha => nomatch ha), (λ hr => Qe rfl hr), nodup_nil⟩
  ·exact Zu (by show hp.length ≠ hp.length + 1; lia) c1
  ·exact Z5 c2
  ·show (List.set _ _ _)[hp.length + 2]? = some (MO.dct [] 0)
   exact Zu (by lia) (Zu (by lia) (Zu (by lia) a3))
 ·simp only [length_set]; lia
 ·intro i hi
  rw [Qf (by exact Nat.ne_of_gt hi), Qf (by exact Nat.ne_of_gt hi), Qf (by exact Nat.ne_of_gt hi)]
  exact a5 i hi
 ·rintro i (rfl | rfl | rfl | ⟨hr, rfl⟩ | ⟨a, ha, _⟩)
  ·lia
  ·exact Qr
  ·show hp.length <= hp.length + 2; lia
  ·exact Qe rfl hr
  ·exact nomatch ha
end

section
variable {hp : List MO} {fr : List PV} {E : Value -> St -> Prop}
theorem Z.J8 {i : Nat} {xs : List Int} {k : Int} {Q : Bool -> St -> Prop} (e : hp[i]? = some (.set xs)) (h : Q (decide (k ∈ xs)) ⟨fr, hp⟩) : Z (Zbr .In (.int k) (.obj i)) ⟨fr, hp⟩ Q E := by
 refine Z.V ?_ h
 show pIn (.int k) (.obj i) ⟨fr, hp⟩ = _
 unfold pIn
 try dsimp only
 rw [e]
theorem Z.N2 {i : Nat} {es : List (Int × PV)} {ep : Nat} {k : Int} {Q : Bool -> St -> Prop} (e : hp[i]? = some (.dct es ep)) (h : Q (Zde es k) ⟨fr, hp⟩) : Z (Zbr .In (.int k) (.obj i)) ⟨fr, hp⟩ Q E := by
 refine Z.V ?_ h
 show pIn (.int k) (.obj i) ⟨fr, hp⟩ = _
 unfold pIn
 try dsimp only
 rw [e]
 rfl
theorem Z.I1 {i : Nat} {xs : List Int} {Q : Nat × List Int -> St -> Prop} (e : hp[i]? = some (.set xs)) (h : Q (i, xs) ⟨fr, hp⟩) : Z (Zcu (.obj i)) ⟨fr, hp⟩ Q E := by
 refine Z.V ?_ h
 unfold Zcu
 try dsimp only
 rw [e]
theorem Z.K7 {i : Nat} {xs : List Int} {k : Int} {Q : PV -> St -> Prop} (e : hp[i]? = some (.set xs)) (hl : xs.length + 1 < 4096) (hk : k ∉ xs) (h : Q .none ⟨fr, hp.set i (.set (xs ++ [k]))⟩) : Z (Zj5 (.obj i) [.int k]) ⟨fr, hp⟩ Q E := by
 refine Z.H (Z.I1 e (Z.H (Z.C5 (Qg hl) (Z.H (Z.G8 (Z.S ?_))))))
 show Q .none ⟨fr, hp.set i (.set (Zfl xs k))⟩
 unfold Zfl
 rw [Q8 hk]
 exact h
theorem Z.J6 {fo : PM PV} {ga : PM (List PV)} {μ : St} {Q : PV -> St -> Prop} (h : Z fo μ (λ x μ1 => Z (Zcu x) μ1 (λ _ μ2 => Z ga μ2 (λ ys μD => Z (Zj5 x ys) μD Q E) E) E) E) : Z (Zmr fo ga) μ Q E :=
 Z.H (h.mono (λ _ _ h => Z.H (h.mono (λ _ _ h => Z.H h) λ _ _ e => e)) λ _ _ e => e)
theorem Z.H4 {μ : St} {x : PV} {xs : List PV} {Q : List PV -> St -> Prop} (e : Zaa μ.hp x = some xs) (h : Q xs μ) : Z (Zdn x) μ Q E := by
 refine Z.V ?_ h
 unfold Zdn
 rw [e]
theorem Z.C2 {f : PM (List PV)} {μ : St} {Q : PV -> St -> Prop} (h : Z f μ (λ xs μ' => xs.length <= 1000000 ∧ Q (.lst xs) μ') E) : Z (Zp false f) μ Q E :=
 Z.H (h.mono (λ xs μ' h => Z.H (Z.C5 (Qg h.1) (Z.S h.2))) λ _ _ e => e)
theorem Z.C1 {f : PM (List PV)} {μ : St} {Q : PV -> St -> Prop} (h : Z f μ (λ xs μ' => xs.length <= 1000000 ∧ Q (.obj μ'.hp.length) ⟨μ'.fr, μ'.hp ++ [.lst xs]⟩) E) : Z (Zp true f) μ Q E :=
 Z.H (h.mono (λ xs μ' h => Z.H (Z.C5 (Qg h.1) (Z.H (Z.A9 (Z.S h.2))))) λ _ _ e => e)
theorem Z.I8 {f g : PM PV} {μ : St} {Q : PV -> St -> Prop} (h : Z f μ (λ x μ1 => Z g μ1 (λ y μ2 => ∃ xs ys, Zaa μ2.hp x = some xs ∧ Zaa μ2.hp y = some ys ∧ xs.length + ys.length <= 1000000 ∧ Q (.lst (xs ++ ys)) μ2) E) E) : Z (Mine.eCat false f g) μ Q E :=
 Z.H (h.mono (λ x μ1 h => Z.H (h.mono (λ y μ2 hh => hh.elim λ xs hh => hh.elim λ ys q => Z.H (Z.H4 q.1 (Z.H (Z.H4 q.2.1 (Z.H (Z.C5 (Qg (by rw [Qk]; exact q.2.2.1)) (Z.S q.2.2.2))))))) λ _ _ e => e)) λ _ _ e => e)
theorem Z.I2 {f g : PM PV} {μ : St} {Q : PV -> St -> Prop} (h : Z f μ (λ x μ1 => Z g μ1 (λ y μ2 => ∃ xs, ∃ k : Nat, Zaa μ2.hp x = some xs ∧ y = .int k ∧ k <= xs.length ∧ xs.length <= 1000000 ∧ Q (.lst (xs.drop k)) μ2) E) E) : Z (Zhj false f g) μ Q E :=
 Z.H (h.mono (λ x μ1 h => Z.H (h.mono (λ y μ2 hh => by
  obtain ⟨xs, k, e1, e2, hk, hl, h⟩ := hh
  subst e2
  refine Z.H (Z.H4 e1 (Z.H (Z.C5 ?_ (Z.H (Z.C5 (Qg ?_) (Z.S ?_))))))
  ·simp only [Q7, decide_eq_true_eq]
   exact ⟨⟨by lia, by lia⟩, Qg hl⟩
  ·exact Qek length_drop (Qkk (Nat.sub_le _ _) hl)
  ·simpa using h) λ _ _ e => e)) λ _ _ e => e)
theorem Z.M9 {i : Nat} {xs : List PV} {Q : PV -> St -> Prop} (e : hp[i]? = some (.lst xs)) (h : Q (.obj hp.length) ⟨fr, hp ++ [.itr i 0]⟩) : Z (Mine.pIter [.obj i]) ⟨fr, hp⟩ Q E :=
 Z.H (Z.u e (Z.H (Z.A9 (Z.S h))))
theorem Z.eNxt {f : PM PV} {μ : St} {Q : PV -> St -> Prop} (h : Z f μ (λ x μ' => ∃ i l k, x = .obj i ∧ μ'.hp[i]? = some (.itr l k) ∧ Q (.nxt i) μ') E) : Z (Mine.eNxt f) μ Q E :=
 Z.H (h.mono (λ x μ' hh => by
  obtain ⟨i, l, k, e, e2, h⟩ := hh
  subst e
  refine Z.V ?_ h
  try dsimp only
  rw [e2]) λ _ _ e => e)
theorem Z.M2 {fo : PM PV} {μ : St} {Q : PV -> St -> Prop} (h : Z fo μ (λ x μ1 => ∃ i xs y, x = .obj i ∧ μ1.hp[i]? = some (.lst (xs ++ [y])) ∧ xs.length < 1000000 ∧ Q y ⟨μ1.fr, μ1.hp.set i (.lst xs)⟩) E) : Z (Mine.mPop fo) μ Q E :=
 Z.H (h.mono (λ x μ1 hh => by
  obtain ⟨i, xs, y, e, e2, hl, h⟩ := hh
  subst e
  obtain ⟨fr, hp⟩ := μ1
  refine Z.H (Z.u e2 (Z.H (Z.u e2 (Z.H (Z.C5 (Qg (by simp; exact Qs1 hl)) ?_)))))
  try dsimp only
  rw [List.getLast?_concat]
  refine Z.H (Z.G8 (Z.S ?_))
  rw [List.dropLast_concat]
  exact h) λ _ _ e => e)
theorem Z.del {g k : PM PV} {μ : St} {Q : MF -> St -> Prop} (h : Z g μ (λ x μ1 => Z k μ1 (λ y μ2 => ∃ i es ep z, x = .obj i ∧ y = .int z ∧ μ2.hp[i]? = some (.dct es ep) ∧ es.length <= 1000000 ∧ Zde es z = true ∧ Q .next ⟨μ2.fr, μ2.hp.set i (.dct (dDel es z) (ep + 1))⟩) E) E) : Z (sDel g k) μ Q E :=
 Z.H (h.mono (λ x μ1 h => Z.H (h.mono (λ y μ2 hh => by
  obtain ⟨i, es, ep, z, e1, e2, e3, hl, hz, h'⟩ := hh
  subst e1 e2
  refine Z.H (Z.V (a := ()) (μ' := ⟨μ2.fr, μ2.hp.set i (.dct (dDel es z) (ep + 1))⟩) ?_ (Z.S h'))
  unfold Zib
  try dsimp only
  rw [e3]
  try dsimp only
  rw [show Z3 es = true from Qg hl, hz]) λ _ _ e => e)) λ _ _ e => e)
theorem Z.J0 {i l k : Nat} {xs : List PV} {y : PV} {Q : PV -> St -> Prop} (e : hp[i]? = some (.itr l k)) (el : hp[l]? = some (.lst xs)) (hy : xs[k]? = some y) (h : Q y ⟨fr, hp.set i (.itr l (k + 1))⟩) : Z (Zf3 (.nxt i) []) ⟨fr, hp⟩ Q E := by
 refine Z.V ?_ h
 unfold Zf3
 try dsimp only
 rw [e]; try dsimp only
 rw [el]; try dsimp only
 rw [hy]
theorem Z.J1 {i l k : Nat} {xs : List PV} {Q : PV -> St -> Prop} (e : hp[i]? = some (.itr l k)) (el : hp[l]? = some (.lst xs)) (hy : xs[k]? = none) (h : E (.type "StopIteration") ⟨fr, hp.set i .dead⟩) : Z (Zf3 (.nxt i) []) ⟨fr, hp⟩ Q E := by
 refine .mk ?_
 unfold Wp0 Zf3
 try dsimp only
 rw [e]; try dsimp only
 rw [el]; try dsimp only
 rw [hy]
 exact h
theorem Z.F1 {f : PM PV} {μ : St} {Q : PV -> St -> Prop} (h : Z f μ (λ x μ' => Z (Zf3 x []) μ' Q E) E) : Z (Zg3 f) μ Q E := Z.H h
theorem Z.L9 {f g : PM MF} {m : Value -> Option Bool} {μ : St} {Q : MF -> St -> Prop} (h : Z f μ Q (λ x μ' => m x = some true ∧ Z g μ' Q (λ _ _ => False))) : Z (tryM f [(m, g)]) μ Q E := by
 refine .mk ?_
 have h := h.get
 unfold Wp0 at h ⊢
 unfold tryM
 cases e : f μ with
 | ok a μ' => rw [e] at h; exact h
 | bad => rw [e] at h; exact h
 | exc x μ' =>
  rw [e] at h
  try dsimp only at h ⊢
  obtain ⟨h1, h2⟩ := h
  have h2 := h2.get
  unfold Wp0 at h2
  rw [Zfe, h1]
  try dsimp only
  unfold Zj3
  dsimp only
  cases e2 : g μ' with
  | ok a μ'' => rw [e2] at h2; exact h2
  | exc x' μ'' => rw [e2] at h2; exact h2.elim
  | bad => rw [e2] at h2; exact h2.elim
theorem Z.F5 {i : Nat} {xs : List PV} {Q : Bool -> St -> Prop} (e : hp[i]? = some (.lst xs)) (hl : xs.length <= 1000000) (h : Q (!xs.isEmpty) ⟨fr, hp⟩) : Z (Zcs (.obj i)) ⟨fr, hp⟩ Q E := by
 refine Z.V ?_ h
 unfold Zcs
 try dsimp only
 rw [e]; try dsimp only
 rw [Qg hl]
theorem Z.J9 {i : Nat} {xs : List PV} {y : PV} {Q : PV -> St -> Prop} (e : hp[i]? = some (.lst (xs ++ [y]))) (hl : xs.length < 1000000) (h : Q y ⟨fr, hp⟩) : Z (Zby (.obj i) (.int (-1))) ⟨fr, hp⟩ Q E := by
 refine Z.V ?_ h
 unfold Zby
 try dsimp only
 rw [e]; try dsimp only
 have : Zeu (xs ++ [y]).length (-1) = some xs.length := by
  unfold Zeu
  rw [Qq (by lia), Qo (by simp; lia)]
  congr 1
  simp only [Qk, length_singleton]
  lia
 rw [this]
 simp
end

inductive FS where
 | proc (x : Int) (st : List (Int × List Int)) (seen : List Int)
 | back (st : List (Int × List Int)) (seen : List Int)
inductive FRes where
 | ring
 | out (seen : List Int)
set_option backward.eqns.nonrecursive false
noncomputable def Zd6 (sc : Int -> List Int) : Nat -> FS -> Option FRes
 | 0, _ => none
 | n + 1, .proc x st seen => match decide (x ∈ seen), decide (x ∈ st.map (·.1)) with
  | true, true => some .ring
  | true, false => Zd6 sc n (.back st seen)
  | false, _ => Zd6 sc n (.back ((x, sc x) :: st) (seen ++ [x]))
 | n + 1, .back [] seen => some (.out seen)
 | n + 1, .back ((x, []) :: st) seen => Zd6 sc n (.back st seen)
 | n + 1, .back ((x, y :: ys) :: st) seen => Zd6 sc n (.proc y ((x, ys) :: st) seen)theorem Zuj {sc : Int -> List Int} {n : Nat} {x : Int} {st : List (Int × List Int)} {seen : List Int} : Zd6 sc (n + 1) (.proc x st seen) = (match decide (x ∈ seen), decide (x ∈ st.map (·.1)) with | true, true => some .ring | true, false => Zd6 sc n (.back st seen) | false, _ => Zd6 sc n (.back ((x, sc x) :: st) (seen ++ [x]))) := rfl
def Zfd (sc : Int -> List Int) (n : Nat) : List Int -> List Int -> Option Bool
 | [], _ => some false
 | x :: xs, seen => match decide (x ∈ seen) with
  | true => Zfd sc n xs seen
  | false => match Zd6 sc n (.proc x [] seen) with
   | some .ring => some true
   | some (.out seen') => Zfd sc n xs seen'
   | none => none
set_option backward.eqns.nonrecursive true
theorem Zrp {sc : Int -> List Int} {n : Nat} {x : Int} {xs seen : List Int} : Zfd sc n (x :: xs) seen = (match decide (x ∈ seen) with | true => Zfd sc n xs seen | false => match Zd6 sc n (.proc x [] seen) with | some .ring => some true | some (.out seen') => Zfd sc n xs seen' | none => none) := rfl
set_option genInjectivity false in
structure En where
 x : Int
 r : List Int
 i : Nat
noncomputable def Zg4 (st : List En) : List (Int × List Int) := st.map λ e => (e.x, e.r)noncomputable def nmS (st : List En) : List Int := (st.map (·.x)).reverse
theorem Zv6 (st : List En) : (Zg4 st).map (·.1) = st.map (·.x) := by unfold Zg4; rw [map_map]; rfl
noncomputable def Zbh (xs : List Int) : List (Int × PV) := xs.zipIdx.map λ p => (p.1, PV.int p.2)theorem Zpt (xs : List Int) (x : Int) : Zbh (xs ++ [x]) = Zbh xs ++ [(x, .int xs.length)] := by unfold Zbh; simp [List.zipIdx_append]theorem Zpu (xs : List Int) : (Zbh xs).length = xs.length := by unfold Zbh; simp
theorem Zkv (xs : List Int) (x : Int) : Zde (Zbh xs) x = decide (x ∈ xs) := by
 unfold Zde Zbh
 rw [Bool.eq_iff_iff, any_eq_true]
 simp only [decide_eq_true_eq, beq_iff_eq, mem_map]
 constructor
 ·rintro ⟨e, ⟨p, hp, rfl⟩, rfl⟩
  exact (List.mem_zipIdx' hp).2 ▸ getElem_mem _
 ·intro h
  obtain ⟨k, hk⟩ := List.getElem?_of_mem h
  exact ⟨_, ⟨(x, k), List.mem_zipIdx_iff_getElem?.mpr hk, rfl⟩, rfl⟩
theorem Zkm (x : Int) : ∀ (xs : List Int) (n : Nat), x ∈ xs -> Zdb ((xs.zipIdx n).map λ p => (p.1, PV.int p.2)) x = some (.int ((xs.idxOf x + n : Nat) : Int))
 | [] => λ n h => by cases h
 | y :: ys => λ n h => by
  unfold Zdb
  rw [List.zipIdx_cons, Xa, List.find?_cons]
  try dsimp only
  cases e : y == x with
  | true =>
   rw [eq_of_beq e, List.idxOf_cons_self]
   simp
  | false =>
   have hne : y ≠ x := λ q => by rw [q] at e; simp at e
   rcases Qmc h with h | h
   ·exact Qe h.symm hne
   ·have := Zkm x ys (n + 1) h
    unfold Zdb at this
    try dsimp only
    rw [this, List.idxOf_cons, e]
    show some (PV.int ((ys.idxOf x + (n + 1) : Nat) : Int)) = some (PV.int ((ys.idxOf x + 1 + n : Nat) : Int))
    congr 3
    lia
theorem Zv7 {xs : List Int} {x : Int} (h : x ∈ xs) : Zdb (Zbh xs) x = some (.int (xs.idxOf x : Nat)) := Zkm x xs 0 h
theorem Zv8 {xs : List Int} {x : Int} (h : x ∉ xs) : dDel (Zbh (xs ++ [x])) x = Zbh xs := by
 rw [Zpt]
 unfold dDel
 rw [filter_append, List.filter_eq_self.mpr]
 ·simp
 ·intro e he
  unfold Zbh at he
  obtain ⟨p, hp, rfl⟩ := Qmm he
  have : p.1 ∈ xs := (List.mem_zipIdx' hp).2 ▸ getElem_mem _
  simp
  intro q; exact h (q ▸ this)
structure FAt (o : Nat) (T : TSt) (ly : Lay) (hp0 hp : List MO) (sk it se nd : Nat) (st : List En) (seen : List Int) : Prop where
 len : hp0.length <= hp.length
 old : ∀ i, i < hp0.length -> hp[i]? = hp0[i]?
 ge : hp0.length <= sk ∧ hp0.length <= it ∧ hp0.length <= se ∧ hp0.length <= nd
 ne : sk ≠ it
 stk : hp[sk]? = some (.lst ((nmS st).map .int))
 itk : hp[it]? = some (.lst (((st.map (·.i)).reverse).map .nxt))
 set : hp[se]? = some (.set seen)
 dct : ∃ ep, hp[nd]? = some (.dct (Zbh (nmS st)) ep)
 iter : ∀ e ∈ st, hp0.length <= e.i ∧ ∃ pos, hp[e.i]? = some (.itr (ly.ls e.x) pos) ∧ (T.sc e.x).drop pos = e.r
 inod : (st.map (·.i)).Nodup
 xnod : (st.map (·.x)).Nodup
 xin : ∀ e ∈ st, e.x ∈ seen
 snod : seen.Nodup
 sin : ∀ a ∈ seen, a ∈ T.order
theorem Z4 {α : Type} [DecidableEq α] {xs ys : List α} (h : xs.Nodup) (hs : ∀ a ∈ xs, a ∈ ys) : xs.length <= ys.length := by
 induction xs generalizing ys with
 | nil => simp
 | cons x xs ih =>
  rw [nodup_cons] at h
  have hx := hs x Q0
  have := ih (ys := ys.erase x) h.2 λ a ha => by
   rw [List.mem_erase_of_ne (λ e : a = x => h.1 (e ▸ ha))]
   exact hs a (Qv _ ha)
  rw [List.length_erase_of_mem hx] at this
  exact Nat.lt_of_le_of_lt this (Nat.sub_lt (List.length_pos_of_mem hx) Nat.one_pos)
section
variable {hp hp0 : List MO} {o : Nat} {T : TSt} {ly : Lay} {fr : List PV} {E : Value -> St -> Prop} {sk it se nd : Nat} {st : List En} {seen : List Int}theorem FAt.sat (F : FAt o T ly hp0 hp sk it se nd st seen) (S : SAt d hp0 o T ly) : SAt d hp o T ly := S.keep λ i hi => F.old i (S.lt hi)theorem FAt.seenLen (F : FAt o T ly hp0 hp sk it se nd st seen) : seen.length <= T.order.length := Z4 F.snod F.sin
theorem FAt.stLen (F : FAt o T ly hp0 hp sk it se nd st seen) : st.length <= T.order.length := by
 have := Z4 (ys := seen) F.xnod (λ a ha => by obtain ⟨e, he, rfl⟩ := Qmm ha; exact F.xin e he)
 rw [Qd] at this
 exact Qj this F.seenLen
theorem FAt.nmLen (F : FAt o T ly hp0 hp sk it se nd st seen) : (nmS st).length = st.length := by unfold nmS; simp
noncomputable abbrev frF (o : Nat) (ly : Lay) (sk it se nd : Nat) (v : PV) : List PV := [.obj o, .obj ly.n2i, .obj sk, .obj it, .obj se, .obj nd, v]
theorem Zx2 (S : SAt d hp0 o T ly) (hsub : ∀ a ∈ T.order, ∀ s ∈ T.sc a, s ∈ T.order) (hol : T.order.length <= 1000) {res : FRes} {Q : MF -> St -> Prop} {N : Nat}
  (hproc : ∀ hp' st' y n', n' < N -> FAt o T ly hp0 hp' sk it se nd st' seen -> y ∈ T.order -> Zd6 T.sc n' (.proc y (Zg4 st') seen) = some res -> Q .next ⟨frF o ly sk it se nd (.int y), hp'⟩)
  (hout : ∀ hp' v, FAt o T ly hp0 hp' sk it se nd [] seen -> res = .out seen -> Q .brk ⟨frF o ly sk it se nd v, hp'⟩) :
  ∀ (n : Nat) (hp : List MO) (st : List En) (v : PV) (m : Nat), n <= N -> FAt o T ly hp0 hp sk it se nd st seen -> Zd6 T.sc n (.back (Zg4 st) seen) = some res -> st.length < m ->
   Z (Zda (Zes (Za 2)) (Zge d) (Zc (Pure.pure .brk) Zg) m) ⟨frF o ly sk it se nd v, hp⟩ Q E := by
 intro n
 induction n with
 | zero => intro hp st v m _ F hrun _; cases hrun
 | succ n ih =>
  intro hp st v m hN F hrun hm
  cases m with
  | zero => lia
  | succ m =>
  rw [Zko]
  refine Z.H (Z.D6 (Z.B (v := .obj sk) rfl rfl (Z.F5 F.stk (by rw [Qd, F.nmLen]; have := F.stLen; exact Qkkb this hol rfl) ?_)))
  cases st with
  | nil =>
   show Z (Zc (Pure.pure .brk) Zg) _ Q E
   cases hrun
   exact Z.J (Z.S (hout hp v F rfl))
  | cons e st =>
   have hne : (!(List.map PV.int (nmS (e :: st))).isEmpty) = true := by unfold nmS; simp
   rw [hne]
   show Z (Zge d >>= Zet _) _ Q E
   obtain ⟨x, r, i⟩ := e
   have enm : nmS (⟨x, r, i⟩ :: st) = nmS st ++ [x] := by unfold nmS; simp
   have eit : ((⟨x, r, i⟩ :: st : List En).map (·.i)).reverse.map PV.nxt = ((st.map (·.i)).reverse.map PV.nxt) ++ [PV.nxt i] := by simp
   obtain ⟨hige, pos, hi, hr⟩ := F.iter ⟨x, r, i⟩ Q0
   have hxo : x ∈ T.order := F.sin x (F.xin ⟨x, r, i⟩ Q0)
   have S' := F.sat S
   have hsuc := S'.suc x hxo
   have hstl := F.stLen
   rw [Xd] at hstl hm
   have hitk := F.itk
   rw [eit] at hitk
   have hstk := F.stk
   rw [enm, Xi] at hstk
   obtain ⟨ep, hdct⟩ := F.dct
   have hnil : (st.map (·.i)).length = st.length := by simp
   have hlast : Z (Za5 (Za 3) (Mine.eNeg (Pure.pure (PV.int 1)))) ⟨frF o ly sk it se nd v, hp⟩ (λ y μ' => y = .nxt i ∧ μ' = ⟨frF o ly sk it se nd v, hp⟩) (λ _ _ => False) :=
    Z.D0 (Z.B (v := .obj it) rfl rfl (Z.I6 (Z.S ⟨1, rfl, Z.J9 hitk (by simp; exact Qkkb hstl hol rfl) ⟨rfl, rfl⟩⟩)))
   obtain ⟨y0, μ0, eA, rfl, rfl⟩ := hlast.run
   have xnod := F.xnod
   have inod := F.inod
   rw [Xa, nodup_cons] at xnod inod
   refine Z.H ?_
   unfold Zge
   cases r with
   | cons y ys =>
    have hy : ((T.sc x).map PV.int)[pos]? = some (.int y) := by
     have hr : (T.sc x).drop pos = y :: ys := hr
     have : ((T.sc x).drop pos)[0]? = some y := by rw [hr]; rfl
     rw [List.getElem?_drop] at this
     rw [Ql]
     simpa using this
    refine Z.J (Z.L9 (Z.J (Z.i (Z.F1 (Z.V eA (Z.J0 hi hsuc hy (Z.I ?_)))))))
    refine Z.J (Z.S ?_)
    show Z (Zet _ .brk) _ Q E
    have hyo : y ∈ T.order := hsub x hxo y (by
     have hr : (T.sc x).drop pos = y :: ys := hr
     exact List.mem_of_mem_drop (hr ▸ Q0))
    refine Z.S (hproc _ (⟨x, ys, i⟩ :: st) y n hN ?_ hyo hrun)
    refine ⟨by rw [length_set]; exact F.len, λ j hj => by rw [Qf (show i ≠ j by have : hp0.length <= i := hige; lia)]; exact F.old j hj, F.ge, F.ne, ?_, ?_, Zl hi F.set (mn rfl), ⟨ep, ?_⟩, λ e he => ?_, F.inod, F.xnod, λ e he => ?_, F.snod, F.sin⟩
    ·exact Zl hi F.stk (mn rfl)
    ·exact Zl hi F.itk (mn rfl)
    ·exact Zl hi hdct (mn rfl)
    ·rcases Qmc he with rfl | he
     ·refine ⟨hige, pos + 1, Z5 hi, ?_⟩
      have hr : (T.sc x).drop pos = y :: ys := hr
      show (T.sc x).drop (pos + 1) = ys
      rw [<- List.drop_drop, hr]; rfl
     ·obtain ⟨q1, p', q2, q3⟩ := F.iter e (Qv _ he)
      refine ⟨q1, p', Zu (λ q => inod.1 ?_) q2, q3⟩
      rw [show i = e.i from q]
      exact mem_map_of_mem (f := (·.i)) he
    ·rcases Qmc he with rfl | he
     ·exact F.xin ⟨x, y :: ys, i⟩ Q0
     ·exact F.xin e (Qv _ he)
   | nil =>
    have hy : ((T.sc x).map PV.int)[pos]? = none := by
     have hr : (T.sc x).drop pos = [] := hr
     rw [List.drop_eq_nil_iff] at hr
     rw [List.getElem?_eq_none_iff, Qd]; exact hr
    refine Z.J (Z.L9 (Z.J (Z.i (Z.F1 (Z.V eA (Z.J1 hi hsuc hy ?_))))))
    refine ⟨by unfold Zb7; simp, ?_⟩
    have k1 := Zl (v := MO.dead) hi hstk (mn rfl)
    have k2 := Zl (v := MO.dead) hi hdct (mn rfl)
    have k3 := Zl (v := MO.dead) hi hitk (mn rfl)
    refine Z.J (Z.del (Z.B (v := .obj nd) rfl rfl (Z.M2 (Z.B (v := .obj sk) rfl rfl ⟨sk, (nmS st).map .int, .int x, rfl, k1, by rw [Qd]; unfold nmS; simp; exact Qkkb hstl hol rfl, ?_⟩))))
    have k4 := Zl (v := MO.lst ((nmS st).map .int)) k1 k2 (mn rfl)
    have hxn : x ∉ nmS st := λ q => xnod.1 (by unfold nmS at q; simpa using q)
    refine ⟨nd, _, ep, x, rfl, rfl, k4, by rw [Zpu, F.nmLen, Xd]; exact Qkkb hstl hol rfl, ?_, ?_⟩
    ·rw [Zkv, enm]; exact Qg (by simp)
    rw [show dDel (Zbh (nmS (⟨x, [], i⟩ :: st))) x = Zbh (nmS st) from by rw [enm]; exact Zv8 hxn]
    have k5 := Zu (v := MO.lst ((nmS st).map .int)) F.ne k3
    have k6 := Zl (v := MO.dct (Zbh (nmS st)) (ep + 1)) k4 k5 (mn rfl)
    refine Z.J (Z.A5 (Z.M2 (Z.B (v := .obj it) rfl rfl ⟨it, _, .nxt i, rfl, k6, by simp; exact Qkkb hstl hol rfl, ?_⟩)))
    refine Z.L (Z.L ?_)
    show Z (Zet _ .next) _ Q E
    refine ih _ st v m (Qlk hN Qr) ?_ hrun (Qs1 hm)
    have old : ∀ j, j < hp0.length -> ((((hp.set i MO.dead).set sk (MO.lst ((nmS st).map .int))).set nd (MO.dct (Zbh (nmS st)) (ep + 1))).set it (MO.lst ((st.map (·.i)).reverse.map .nxt)))[j]? = hp0[j]? := λ j hj => by
     have g := F.ge
     have hige : hp0.length <= i := hige
     rw [Qf (by exact Nat.ne_of_gt (Qll hj g.right.left)), Qf (by exact Nat.ne_of_gt (Qll hj g.right.right.right)), Qf (by exact Nat.ne_of_gt (Qll hj g.left)), Qf (by lia)]
     exact F.old j hj
    refine ⟨by simp only [length_set]; exact F.len, old, F.ge, F.ne, ?_, ?_, ?_, ⟨ep + 1, ?_⟩, λ e he => ?_, inod.2, xnod.2, λ e he => F.xin e (Qv _ he), F.snod, F.sin⟩
    ·exact Zu (Ne.symm F.ne) (Zl k4 (Z5 k1) (mn rfl))
    ·exact Z5 k6
    ·exact Zl k6 (Zl k4 (Zl k1 (Zl hi F.set (mn rfl)) (mn rfl)) (mn rfl)) (mn rfl)
    ·exact Zl k6 (Z5 k4) (mn rfl)
    ·obtain ⟨q1, p', q2, q3⟩ := F.iter e (Qv _ he)
     refine ⟨q1, p', ?_, q3⟩
     have hie : i ≠ e.i := λ q => inod.1 (by rw [show i = e.i from q]; exact mem_map_of_mem (f := (·.i)) he)
     exact Zl k6 (Zl k4 (Zl k1 (Zu hie q2) (mn rfl)) (mn rfl)) (mn rfl)
end

section
variable {hp hp0 : List MO} {o : Nat} {T : TSt} {ly : Lay} {fr : List PV} {E : Value -> St -> Prop} {sk it se nd : Nat} {st : List En} {seen : List Int}
theorem Zv9 (S : SAt d hp0 o T ly) (hsub : ∀ a ∈ T.order, ∀ s ∈ T.sc a, s ∈ T.order) (hol : T.order.length <= 1000) {res : FRes} {Q : MF -> St -> Prop}
  (hring : ∀ hp' v r, res = .ring -> r ≠ [] -> r.length <= 1001 -> hp0.length <= hp'.length -> (∀ i, i < hp0.length -> hp'[i]? = hp0[i]?) -> Q (.ret (.lst (r.map .int))) ⟨frF o ly sk it se nd v, hp'⟩)
  (hout : ∀ hp' v seen', FAt o T ly hp0 hp' sk it se nd [] seen' -> res = .out seen' -> Q .next ⟨frF o ly sk it se nd v, hp'⟩) :
  ∀ (n m : Nat) (hp : List MO) (st : List En) (seen : List Int) (x : Int), n < m -> FAt o T ly hp0 hp sk it se nd st seen -> x ∈ T.order -> Zd6 T.sc n (.proc x (Zg4 st) seen) = some res ->
   Z (Zda (Zes (Pure.pure (PV.bool true))) (Zgf d) Zg m) ⟨frF o ly sk it se nd (.int x), hp⟩ Q E := by
 intro n
 induction n using Nat.strongRecOn with
 | ind n ih =>
  intro m hp st seen x hm F hx hrun
  cases n with
  | zero => cases hrun
  | succ n =>
  cases m with
  | zero => lia
  | succ m =>
  rw [Zko]
  refine Z.H (Z.D6 (Z.S (Z.V rfl ?_)))
  show Z (Zgf d >>= Zet _) _ Q E
  refine Z.H ?_
  unfold Zgf
  have S' := F.sat S
  have hstl := F.stLen
  have hsl := F.seenLen
  obtain ⟨ep, hdct⟩ := F.dct
  have after : ∀ (hp' : List MO) (st' : List En) (seen' : List Int), FAt o T ly hp0 hp' sk it se nd st' seen' -> Zd6 T.sc n (.back (Zg4 st') seen') = some res ->
    Z (Zc (Zda (Zes (Za 2)) (Zge d) (Zc (Pure.pure .brk) Zg) Zj) Zg) ⟨frF o ly sk it se nd (.int x), hp'⟩ (λ b μ' => Z (Zet (Zda (Zes (Pure.pure (PV.bool true))) (Zgf d) Zg m) b) μ' Q E) E := λ hp' st' seen' F' hrun' => by
   refine Z.J (Zx2 S hsub hol (res := res) (N := n) (λ hp'' st'' y n' hn' F'' hy hr => ?_) (λ hp'' v F'' e => ?_) n hp' st' _ Zj Qr F' hrun' (by have := F'.stLen; unfold Zj; exact Qlb (Qkk this hol) rfl))
   ·exact Z.L (ih n' (by lia) m hp'' st'' _ y (by lia) F'' hy hr)
   ·exact Z.S (hout hp'' v _ F'' e)
  refine Z.J (Z.A2 (Z.l (Z.B (v := .int x) rfl rfl (Z.B (v := .obj se) rfl rfl (Z.J8 F.set ?_)))))
  rw [Zuj] at hrun
  cases hs : decide (x ∈ seen) with
  | true =>
   rw [hs] at hrun
   refine Z.J (Z.A2 (Z.l (Z.B (v := .int x) rfl rfl (Z.B (v := .obj nd) rfl rfl (Z.N2 hdct ?_)))))
   rw [Zkv]
   have e1 : decide (x ∈ nmS st) = decide (x ∈ (Zg4 st).map (·.1)) := by rw [Zv6]; unfold nmS; simp
   rw [e1]
   cases hk : decide (x ∈ (Zg4 st).map (·.1)) with
   | true =>
    rw [hk] at hrun
    have hkn : x ∈ nmS st := Qh (e1.trans hk)
    cases hrun
    refine Z.J (Z.A7 (Z.I8 (Z.I2 (Z.B (v := .obj sk) rfl rfl (Z.D0 (Z.B (v := .obj nd) rfl rfl (Z.B (v := .int x) rfl rfl (Z.H2 hdct (Zv7 hkn) ⟨(nmS st).map .int, (nmS st).idxOf x, Zx F.stk, rfl, ?_, ?_, ?_⟩))))))))
    ·rw [Qd]; exact Nat.le_of_lt (idxOf_lt_length_iff.mpr hkn)
    ·rw [Qd, F.nmLen]; exact Qkb (Qkk hstl hol) rfl
    refine Z.C2 (Z.W (Z.B (v := .int x) rfl rfl ⟨by simp, _, _, rfl, rfl, ?_, ?_⟩))
    ·rw [length_drop, Qd, F.nmLen]; simp; lia
    show Z (Zet _ (.ret _)) _ Q E
    refine Z.S ?_
    have e2 : ((nmS st).map PV.int).drop ((nmS st).idxOf x) ++ [PV.int x] = ((nmS st).drop ((nmS st).idxOf x) ++ [x]).map PV.int := by rw [Xi, List.map_drop]; rfl
    rw [e2]
    exact hring hp _ _ rfl (by simp) (by rw [Qk, length_drop, F.nmLen]; exact Nat.succ_le_succ (Qkk (Nat.sub_le _ _) (Qkk hstl hol))) F.len F.old
   | false =>
    rw [hk] at hrun
    exact Z.L (Z.L (after hp st seen F hrun))
  | false =>
   rw [hs] at hrun
   have hxs : x ∉ seen := of_decide_eq_false hs
   have hxn : x ∉ nmS st := λ h => by
    unfold nmS at h
    rw [mem_reverse] at h
    obtain ⟨e, he, q⟩ := Qmm h
    exact hxs (q ▸ F.xin e he)
   have hsx : seen.length + 1 <= T.order.length := by
    have := Z4 (xs := seen ++ [x]) (ys := T.order) (nodup_append.mpr ⟨F.snod, by simp, λ a ha b hb e => hxs (by rw [Qz] at hb; rw [<- hb, <- e]; exact ha)⟩) (λ a ha => by
     rcases Qma ha with ha | ha
     ·exact F.sin a ha
     ·rw [Qz] at ha; rw [ha]; exact hx)
    simpa using this
   refine Z.J (Z.A5 (Z.J6 (Z.B (v := .obj se) rfl rfl (Z.I1 F.set (Z.W (Z.B (v := .int x) rfl rfl (Z.K7 F.set (Qlb (Qkk hsx hol) rfl) hxs ?_)))))))
   have g := F.ge
   have SB : SAt d (hp.set se (.set (seen ++ [x]))) o T ly := S.keep λ i hi => by
    have := S.lt hi
    rw [Qf (by exact Nat.ne_of_gt (Qll this g.right.right.left))]; exact F.old i this
   have j1 := Zl (v := MO.set (seen ++ [x])) F.set F.itk (mn rfl)
   have hln : (hp.set se (MO.set (seen ++ [x]))).length = hp.length := by simp
   refine Z.J (Z.A5 (Z.A0 (Z.B (v := .obj it) rfl rfl (Z.u j1 (Z.eNxt ?_)))))
   refine Z.H (Z.W (Z.C4 (Z.D0 (Z.B (v := .obj ly.n2i) rfl rfl (Z.B (v := .int x) rfl rfl (Z.H2 SB.dct (Zc9 hx) (Z.B7 (SB.inf x hx) rfl rfl ?_)))))))
   refine Z.M9 (SB.suc x hx) ⟨hp.length, ly.ls x, 0, by rw [hln], by rw [<- hln]; exact Zh3, ?_⟩
   have j2 := getElem?_app (r := [MO.itr (ly.ls x) 0]) j1
   refine Z.A3 j2 (by simp; exact Qkb (Qkk hstl hol) rfl) ?_
   have k0 : ((hp.set se (MO.set (seen ++ [x]))) ++ [MO.itr (ly.ls x) 0])[hp.length]? = some (MO.itr (ly.ls x) 0) := by rw [<- hln]; exact Zh3
   have k1 := getElem?_app (r := [MO.itr (ly.ls x) 0]) (Zl (v := MO.set (seen ++ [x])) F.set F.stk (mn rfl))
   have k2 := getElem?_app (r := [MO.itr (ly.ls x) 0]) (Zl (v := MO.set (seen ++ [x])) F.set hdct (mn rfl))
   have k3 := getElem?_app (r := [MO.itr (ly.ls x) 0]) (Z5 (v := MO.set (seen ++ [x])) F.set)
   have k4 : ∀ e ∈ st, ∃ pos, ((hp.set se (MO.set (seen ++ [x]))) ++ [MO.itr (ly.ls x) 0])[e.i]? = some (.itr (ly.ls e.x) pos) ∧ (T.sc e.x).drop pos = e.r := λ e he => by
    obtain ⟨_, pos, q1, q2⟩ := F.iter e he
    exact ⟨pos, getElem?_app (Zl F.set q1 (mn rfl)), q2⟩
   have k5 : ∀ j, j < hp0.length -> ((hp.set se (MO.set (seen ++ [x]))) ++ [MO.itr (ly.ls x) 0])[j]? = hp0[j]? := λ j hj => by
    have := F.len
    rw [Qc (by rw [hln]; exact Qll hj this), Qf (Nat.ne_of_gt (Qll hj g.right.right.left))]; exact F.old j hj
   have k6 : ((hp.set se (MO.set (seen ++ [x]))) ++ [MO.itr (ly.ls x) 0]).length = hp.length + 1 := by simp
   have k7 : ∀ e ∈ st, e.i < hp.length := λ e he => by
    obtain ⟨_, pos, q1, _⟩ := F.iter e he
    exact (Qgl q1)
   have hlen := F.len
   have k8 : it < hp.length := (Qgl F.itk)
   generalize ((hp.set se (MO.set (seen ++ [x]))) ++ [MO.itr (ly.ls x) 0]) = h₁ at j2 k0 k1 k2 k3 k4 k5 k6 ⊢
   have m1 := Zu (v := MO.lst ((st.map (·.i)).reverse.map PV.nxt ++ [PV.nxt hp.length])) (Ne.symm F.ne) k1
   have m2 := Zl (v := MO.lst ((st.map (·.i)).reverse.map PV.nxt ++ [PV.nxt hp.length])) j2 k2 (mn rfl)
   refine Z.J (Z.i (Z.H (Z.W (Z.B (v := .obj sk) rfl rfl (Z.C6 (.inl (Zx m1)) (by rw [Qd, F.nmLen]; exact Qkb (Qkk hstl hol) rfl) ?_)))))
   rw [Qd]
   refine Z.M0 (Z.B (v := .obj nd) rfl rfl (Z.B (v := .int x) rfl rfl (Z.M1 m2 (by rw [Zpu, F.nmLen]; exact Qkb (Qkk hstl hol) rfl) (by rw [Zkv]; exact Q8 hxn) ?_)))
   rw [<- Zpt]
   have n1 := Zl (v := MO.dct (Zbh (nmS st ++ [x])) (ep + 1)) m2 m1 (mn rfl)
   refine Z.J (Z.A5 (Z.A0 (Z.B (v := .obj sk) rfl rfl (Z.u n1 (Z.B (v := .int x) rfl rfl (Z.A3 n1 (by rw [Qd, F.nmLen]; exact Qkb (Qkk hstl hol) rfl) ?_))))))
   refine Z.L ?_
   have enm : nmS (⟨x, T.sc x, hp.length⟩ :: st) = nmS st ++ [x] := by unfold nmS; simp
   have i1 := Z5 (v := MO.lst ((st.map (·.i)).reverse.map PV.nxt ++ [PV.nxt hp.length])) j2
   have i2 := Zl (v := MO.dct (Zbh (nmS st ++ [x])) (ep + 1)) m2 i1 (mn rfl)
   have d1 := Z5 (v := MO.dct (Zbh (nmS st ++ [x])) (ep + 1)) m2
   refine after _ (⟨x, T.sc x, hp.length⟩ :: st) (seen ++ [x]) ?_ hrun
   refine ⟨by simp only [length_set]; lia, λ j hj => ?_, F.ge, F.ne, ?_, ?_, ?_, ⟨ep + 1, ?_⟩, λ e he => ?_, ?_, ?_, λ e he => ?_, ?_, λ a ha => ?_⟩
   ·rw [Qf (by exact Nat.ne_of_gt (Qll hj g.left)), Qf (by exact Nat.ne_of_gt (Qll hj g.right.right.right)), Qf (by exact Nat.ne_of_gt (Qll hj g.right.left))]; exact k5 j hj
   ·rw [enm, Xi]; exact Z5 n1
   ·refine (Zu F.ne i2).trans ?_
    simp
   ·exact Zl n1 (Zl m2 (Zl j2 k3 (mn rfl)) (mn rfl)) (mn rfl)
   ·rw [enm]; exact Zl n1 d1 (mn rfl)
   ·rcases Qmc he with rfl | he
    ·exact ⟨hlen, 0, Zl n1 (Zl m2 (Zl j2 k0 (mn rfl)) (mn rfl)) (mn rfl), rfl⟩
    ·obtain ⟨pos, q1, q2⟩ := k4 e he
     exact ⟨(F.iter e he).1, pos, Zl n1 (Zl m2 (Zl j2 q1 (mn rfl)) (mn rfl)) (mn rfl), q2⟩
   ·rw [Xa, nodup_cons]
    refine ⟨λ h => ?_, F.inod⟩
    obtain ⟨e, he, q⟩ := Qmm h
    have := k7 e he
    have q : e.i = hp.length := q
    lia
   ·rw [Xa, nodup_cons]
    exact ⟨λ h => hxn (by unfold nmS; rw [mem_reverse]; exact h), F.xnod⟩
   ·rcases Qmc he with rfl | he
    ·exact mem_append_right _ (mem_singleton.mpr rfl)
    ·exact Xh _ (F.xin e he)
   ·exact nodup_append.mpr ⟨F.snod, by simp, λ a ha b hb e => hxs (by rw [Qz] at hb; rw [<- hb, <- e]; exact ha)⟩
   ·rcases Qma ha with ha | ha
    ·exact F.sin a ha
    ·rw [Qz] at ha; rw [ha]; exact hx
end

inductive RV : Bool -> PV -> Prop
 | no : RV false .none
 | yes {r : List Int} (h : r ≠ []) (l : r.length <= 1001) : RV true (.lst (r.map .int))
inductive Lf4 (o : Nat) (T : TSt) (ly : Lay) (N : Nat) (b : Bool) (hp : List MO) (k : Nat) : St -> Prop
 | mk {hp' : List MO} {v : PV} {seen : List Int} (F : FAt o T ly hp hp' hp.length (hp.length + 1) (hp.length + 2) (hp.length + 3) [] seen) (e : Zfd T.sc N (T.order.drop k) seen = some b) : Lf4 o T ly N b hp k ⟨frF o ly hp.length (hp.length + 1) (hp.length + 2) (hp.length + 3) v, hp'⟩
section
variable {hp : List MO} {o : Nat} {T : TSt} {ly : Lay} {fr : List PV} {E : Value -> St -> Prop}
theorem Zm9 {i : Nat} {es : List (Int × PV)} {ep k : Nat} {μ0 μ : St} (h₀ : μ0.hp[i]? = some (.dct es ep)) (h : μ.hp[i]? = some (.dct es ep)) : Zam (.obj i) μ0 k μ = some ((es[k]?).map λ e => .int e.1) := by
 unfold Zam
 try dsimp only
 rw [h₀, h]
 dsimp only [getO]
 rw [Qo ⟨rfl, rfl⟩]
theorem Zx3 (S : SAt d hp o T ly) (hsub : ∀ a ∈ T.order, ∀ s ∈ T.sc a, s ∈ T.order) (hol : T.order.length <= 1000) {N : Nat} {b : Bool} (hf : Zfd T.sc N T.order [] = some b) (hN : N < Zj) {Q : PV -> St -> Prop}
  (h : ∀ hp' v, RV b v -> hp.length <= hp'.length -> (∀ i, i < hp.length -> hp'[i]? = hp[i]?) -> Q v ⟨fr, hp'⟩) : Z (Zo9 d [.obj o]) ⟨fr, hp⟩ Q E := by
 refine Z.A1 rfl ?_
 unfold Zo8
 refine Z.J (Z.i (Z.H0 S rfl (Z.I ?_)))
 refine Z.J (Z.i (Z.C1 (Z.y ⟨by simp, Z.I ?_⟩)))
 refine Z.J (Z.i (Z.C1 (Z.y ⟨by simp, Z.I ?_⟩)))
 refine Z.J (Z.i (Z.H (Z.y (Z.H (Z.A9 (Z.S (Z.I ?_)))))))
 refine Z.J (Z.i (Z.H (Z.A9 (Z.S (Z.I ?_)))))
 have l1 : (hp ++ [MO.lst []]).length = hp.length + 1 := by simp
 have l2 : (hp ++ [MO.lst []] ++ [MO.lst []]).length = hp.length + 2 := by simp
 have l3 : (hp ++ [MO.lst []] ++ [MO.lst []] ++ [MO.set []]).length = hp.length + 3 := by simp
 have f0 : (hp ++ [MO.lst []] ++ [MO.lst []] ++ [MO.set []] ++ [MO.dct [] 0]) = hp ++ [MO.lst [], MO.lst [], MO.set [], MO.dct [] 0] := by simp
 have F0 : FAt o T ly hp (hp ++ [MO.lst []] ++ [MO.lst []] ++ [MO.set []] ++ [MO.dct [] 0]) hp.length (hp.length + 1) (hp.length + 2) (hp.length + 3) [] [] := by
  rw [f0]
  refine ⟨by simp, λ i hi => Qc hi, ⟨Qr, by lia, by lia, by lia⟩, by lia, ?_, ?_, ?_, ⟨0, ?_⟩, (λ e he => nomatch he), nodup_nil, nodup_nil, (λ e he => nomatch he), nodup_nil, (λ e he => nomatch he)⟩
  ·rw [Xf Qr]; simp [nmS]
  ·rw [Xf (by lia)]; simp
  ·rw [Xf (by lia)]; simp
  ·rw [Xf (by lia)]; simp [nmS, Zbh]
 refine Z.J (Z.B5 (Z.B (v := .obj ly.n2i) rfl rfl ?_))
 try dsimp only
 simp only [l1, l2, l3]
 refine Z.A6 (Lf4 o T ly N b hp) T.order.length (λ k μ hI hk => ?_) Zj 0 _ (by unfold Zj; lia) (Q5 _) (.mk (v := .undef) F0 hf)
 ·obtain ⟨F, hff⟩ := hI
  rename_i hp' v seen
  rw [Zm9 (F0.sat S).dct (F.sat S).dct, Ql]
  cases hx : T.order[k]? with
  | none =>
   left
   have hk' : k = T.order.length := by have := Qgn hx; exact Q3 hk this
   subst hk'
   rw [List.drop_length] at hff
   cases hff
   refine ⟨rfl, ?_⟩
   try dsimp only
   exact Z.J (Z.A7 (Z.S (h hp' _ .no F.len F.old)))
  | some x =>
   right
   have hlt := (Qgl hx)
   have hxo : x ∈ T.order := Qm hx
   rw [List.drop_eq_getElem_cons hlt, (Qge hx)] at hff
   rw [Zrp] at hff
   refine ⟨hlt, .int x, rfl, Z.I ?_⟩
   unfold Zo7
   refine Z.J (Z.A2 (Z.l (Z.B (v := .int x) rfl rfl (Z.B (v := .obj (hp.length + 2)) rfl rfl (Z.J8 F.set ?_)))))
   cases hs : decide (x ∈ seen) with
   | true =>
    rw [hs] at hff
    exact Z.J (Z.S (.mk F hff))
   | false =>
    rw [hs] at hff
    try dsimp only at hff
    refine Z.L (Z.J ?_)
    cases hr : Zd6 T.sc N (.proc x [] seen) with
    | none => rw [hr] at hff; cases hff
    | some r =>
     rw [hr] at hff
     refine Zv9 S hsub hol (res := r) (sk := hp.length) (it := hp.length + 1) (se := hp.length + 2) (nd := hp.length + 3) (λ hp'' v r' e nr lr lB old => ?_) (λ hp'' v seen' F' e => ?_) N Zj hp' [] seen x hN F hxo hr
     ·subst e
      cases hff
      exact h hp'' _ (.yes nr lr) lB old
     ·subst e
      exact Z.L (.mk F' hff)
end

section
variable {hp : List MO} {fr : List PV} {E : Value -> St -> Prop}
theorem Z.G6 {n m : Nat} {f : PM PV} {tf : Nat -> PV -> PM Unit} {μ : St} {Q : PV -> St -> Prop} (h : Z f μ (λ pv μ1 => Z (Zbj (Zaw pv μ1) (tf μ1.hp.length) n 0) (Zic ⟨μ1.fr, μ1.hp ++ [.lst []]⟩ m) (λ _ μ2 => Q (.obj μ1.hp.length) ⟨μ2.fr.take μ1.fr.length, μ2.hp⟩) (λ _ _ => False)) E) :
  Z (Za1 n m f tf) μ Q E := by
 unfold Za1
 refine Z.H (h.mono (λ pv μ1 h => ?_) λ _ _ e => e)
 obtain ⟨u, μ2, e, hq⟩ := h.run
 refine Z.V ?_ hq
 unfold Zmq
 rw [e]
theorem Z.E9 {get : Nat -> St -> Option (Option PV)} {tf : PV -> PM Unit} {Q : Unit -> St -> Prop} (I : Nat -> St -> Prop) (N : Nat)
  (h : ∀ k μ, I k μ -> k <= N -> (get k μ = some none ∧ Q () μ) ∨ (k < N ∧ ∃ x, get k μ = some (some x) ∧ Z (tf x) μ (λ _ μ' => I (k + 1) μ') E)) : ∀ (n k : Nat) (μ : St), N < n + k -> k <= N -> I k μ -> Z (Zbj get tf n k) μ Q E := by
 intro n
 induction n with
 | zero => intro k μ hn hk _; omega
 | succ n ih =>
  intro k μ hn hk hi
  rcases h k μ hi hk with ⟨e, hq⟩ | ⟨hlt, x, e, hw⟩
  ·exact Z.V (a := ()) (μ' := μ) (by simp only [Zbj, e]) hq
  ·have : Z (tf x >>= λ _ => Zbj get tf n (k + 1)) μ Q E := Z.H (hw.mono (λ _ μ' h => ih (k + 1) μ' (by omega) (by omega) h) λ _ _ e => e)
   exact Z.H8 (by simp only [Zbj, e]) this
theorem Z.I5 {f : PM PV} {i : Nat} {μ : St} {Q : Unit -> St -> Prop} (h : Z f μ (λ y μ' => ∃ xs, μ'.hp[i]? = some (.lst xs) ∧ xs.length <= 1000000 ∧ Q () ⟨μ'.fr, μ'.hp.set i (.lst (xs ++ [y]))⟩) E) : Z (Zg2 f i) μ Q E := by
 unfold Zg2
 refine Z.H (h.mono (λ y μ' q => ?_) λ _ _ e => e)
 obtain ⟨xs, e, hl, h⟩ := q
 obtain ⟨fr, hp⟩ := μ'
 exact Z.H (Z.A3 e hl (Z.S h))theorem Z.tfA {asg : PV -> PM Unit} {f : PM PV} {i : Nat} {x : PV} {μ : St} {Q : Unit -> St -> Prop} (h : Z (asg x) μ (λ _ μ' => Z (Zg2 f i) μ' Q E) E) : Z (Mine.tfA asg f i x) μ Q E := Z.H h
theorem Z.M6 {asg : PV -> PM Unit} {t : PM Bool} {f : PM PV} {i : Nat} {x : PV} {μ : St} {Q : Unit -> St -> Prop} (h : Z (asg x) μ (λ _ μ' => Z t μ' (λ b μ'' => match b with
  | true => Z (Zg2 f i) μ'' Q E
  | false => Q () μ'') E) E) : Z (Mine.tfB asg t f i x) μ Q E := by
 unfold Mine.tfB
 refine Z.H (h.mono (λ _ μ' h => Z.H (h.mono (λ b μ'' h => ?_) λ _ _ e => e)) λ _ _ e => e)
 cases b <;> first | exact h | exact Z.mk h
end
noncomputable def Zci (T : TSt) : TSt := { T with ready := some (T.order.filter λ a => T.np a == 0) }
section
variable {hp : List MO} {o : Nat} {T : TSt} {ly : Lay} {fr : List PV} {E : Value -> St -> Prop}
theorem Z.K4 {xs : List PV} {μ : St} {Q : Bool -> St -> Prop} (hl : xs.length <= 1000000) (h : Q (!xs.isEmpty) μ) : Z (Zcs (.lst xs)) μ Q E := by
 refine Z.V ?_ h
 unfold Zcs
 try dsimp only
 rw [Qg hl]
theorem Z.J5 {fo : PM PV} {μ : St} {Q : PV -> St -> Prop} (h : Z fo μ (λ x μ1 => ∃ i es ep, x = .obj i ∧ μ1.hp[i]? = some (.dct es ep) ∧ Q (.vals i) μ1) E) : Z (Zms fo (Pure.pure [])) μ Q E :=
 Z.H (h.mono (λ x μ1 hh => by
  obtain ⟨i, es, ep, e, e2, h⟩ := hh
  subst e
  obtain ⟨fr, hp⟩ := μ1
  exact Z.H (Z.D2 e2 (Z.H (Z.y (Z.H (Z.D2 e2 (Z.S h))))))) λ _ _ e => e)
theorem Zs9 {i : Nat} {es : List (Int × PV)} {ep k : Nat} {μ0 μ : St} (h₀ : μ0.hp[i]? = some (.dct es ep)) (h : μ.hp[i]? = some (.dct es ep)) : Zaw (.vals i) μ0 k μ = some ((es[k]?).map λ e => e.2) := by
 unfold Zaw
 try dsimp only
 rw [h₀, h]
 try dsimp only
 rw [Qo ⟨rfl, rfl⟩]
theorem Zcx {xs : List Int} {p : Int -> Bool} {k : Nat} {a : Int} (e : xs[k]? = some a) : (xs.take (k + 1)).filter p = (xs.take k).filter p ++ (if p a then [a] else []) := by
 have hl := (Qgl e)
 rw [Xe hl, filter_append]
 have := (Qge e)
 rw [this]
 congr 1
 cases q : p a <;> simp [q]
theorem Zuk (S : SAt d hp o T ly) (hr : T.ready = none) {rn : Nat} {rs : List Int} (hrn : hp[rn]? = some (.lst (rs.map .int))) (hnf : ¬ Fp o T ly rn) :
  SAt d (hp.set ly.dn (.ns (Zch (.obj ly.n2i) (.obj rn) T.passed T.fin))) o { T with ready := some rs } { ly with rn := rn } :=
 ⟨Zl S.ns S.ins (mn rfl), Z5 S.ns, Zl S.ns S.dct (mn rfl), λ xs e => by cases e; exact Zl S.ns hrn (mn rfl), λ a ha => Zl S.ns (S.inf a ha) (mn rfl), λ a ha => Zl S.ns (S.suc a ha) (mn rfl), S.lsi,
  λ _ a ha e => hnf (by rw [<- show ly.ls a = rn from e]; exact Zj7 ha), S.ond⟩
theorem Zta (S : SAt d hp o T ly) (hr : T.ready = none) (hsub : ∀ a ∈ T.order, ∀ s ∈ T.sc a, s ∈ T.order) (hol : T.order.length <= 1000) {N : Nat} {b : Bool} (hf : Zfd T.sc N T.order [] = some b) (hN : N < Zj) {Q : PV -> St -> Prop}
  (h : ∀ hp' ly', SAt d hp' o (Zci T) ly' -> Grow o T ly hp (Zci T) ly' hp' -> (b = false -> Q .none ⟨fr, hp'⟩) ∧ (b = true -> E (.ref d.CE) ⟨fr, hp'⟩)) : Z (Zc7 d [.obj o]) ⟨fr, hp⟩ Q E := by
 refine Z.A1 rfl ?_
 unfold Zgw
 refine Z.J (Z.A2 (Z.l (Z.E6 S rfl ?_)))
 rw [Zh2 hr]
 refine Z.S (Z.D1 (x := .none) rfl ?_)
 refine Z.L (Z.J (Z.i (Z.G6 (Z.J5 (Z.H0 S rfl ⟨ly.n2i, _, _, rfl, S.dct, ?_⟩)))))
 have SA : SAt d (hp ++ [MO.lst []]) o T ly := S.keep λ i hi => Qc (S.lt hi)
 have hnew : ∀ i, Fp o T ly i -> i ≠ hp.length := λ i hi => Nat.ne_of_lt (S.lt hi)
 refine Z.E9 (λ k μ => ∃ v1 v2, μ = ⟨[.obj o, .undef, v1, v2], (hp ++ [MO.lst []]).set hp.length (.lst (((T.order.take k).filter λ a => T.np a == 0).map .int))⟩) T.order.length (λ k μ hI hk => ?_) Zj 0 _ (by unfold Zj; lia) (Q5 _) ?_
 ·obtain ⟨v1, v2, rfl⟩ := hI
  have SB : SAt d ((hp ++ [MO.lst []]).set hp.length (.lst (((T.order.take k).filter λ a => T.np a == 0).map .int))) o T ly := SA.keep λ i hi => Qf (hnew i hi).symm
  rw [Zs9 S.dct SB.dct, Ql]
  cases hx : T.order[k]? with
  | none =>
   left
   have hk' : k = T.order.length := by have := Qgn hx; exact Q3 hk this
   subst hk'
   rw [take_length] at SB ⊢
   refine ⟨rfl, ?_⟩
   try dsimp only
   have hrn : ((hp ++ [MO.lst []]).set hp.length (.lst ((T.order.filter λ a => T.np a == 0).map .int)))[hp.length]? = some (.lst ((T.order.filter λ a => T.np a == 0).map .int)) := Z5 Zh3
   refine Z.C7 (Z.B rfl rfl (Z.B9 SB.ins SB.ns Zpn ?_))
   rw [put_r]
   have SC := Zuk SB hr hrn (λ hi => hnew _ hi rfl)
   have old2 : ∀ i, i < hp.length -> ¬ Fp o T ly i -> (((hp ++ [MO.lst []]).set hp.length (.lst ((T.order.filter λ a => T.np a == 0).map .int))).set ly.dn (.ns (Zch (.obj ly.n2i) (.obj hp.length) T.passed T.fin)))[i]? = hp[i]? := λ i hi hn => by
    rw [Qf (λ e => hn (by rw [<- e]; exact Zl4)), Qf (Nat.ne_of_gt hi), Qc hi]
   have lenC : (((hp ++ [MO.lst []]).set hp.length (.lst ((T.order.filter λ a => T.np a == 0).map .int))).set ly.dn (.ns (Zch (.obj ly.n2i) (.obj hp.length) T.passed T.fin))).length = hp.length + 1 := by simp
   generalize (((hp ++ [MO.lst []]).set hp.length (.lst ((T.order.filter λ a => T.np a == 0).map .int))).set ly.dn (.ns (Zch (.obj ly.n2i) (.obj hp.length) T.passed T.fin))) = h₂ at SC old2 lenC ⊢
   refine Z.J (Z.i (Z.A8 SC rfl (Z.y (Zx3 SC hsub hol hf hN λ hpD v rv lD old3 => Z.I ?_))))
   have S3 : SAt d hpD o (Zci T) { ly with rn := hp.length } := SC.keep λ i hi => old3 i (SC.lt hi)
   have g : Grow o T ly hp (Zci T) { ly with rn := hp.length } hpD := by
    refine ⟨by lia, λ i hi hn => (old3 i (by lia)).trans (old2 i hi hn), λ i hi => ?_⟩
    rcases hi with rfl | rfl | rfl | ⟨_, rfl⟩ | ⟨a, ha, hi⟩
    ·exact .inl fp_o
    ·exact .inl Zl4
    ·exact .inl Zlu
    ·exact .inr Qr
    ·rcases hi with rfl | rfl
     ·exact .inl (Zj6 ha)
     ·exact .inl (Zj7 ha)
   obtain ⟨q1, q2⟩ := h hpD _ S3 g
   cases rv with
   | no =>
    refine Z.J (Z.A2 (Z.D6 (Z.B (v := .none) rfl rfl (Z.V rfl ?_))))
    exact Z.L (Z.L (q1 rfl))
   | yes z1 z2 =>
    rename_i r
    refine Z.J (Z.A2 (Z.D6 (Z.B (v := .lst (r.map .int)) rfl rfl (Z.K4 (by rw [Qd]; exact Qkb z2 rfl) ?_))))
    rw [show (!(r.map PV.int).isEmpty) = true by cases r with | nil => exact Qe rfl z1 | cons => rfl]
    refine Z.J (Z.E7 (Z.X (Z.S (Z.W (Z.B (v := .lst (r.map .int)) rfl rfl ⟨rfl, q2 rfl⟩)))))
  | some a =>
   right
   have ha : a ∈ T.order := Qm hx
   refine ⟨(Qgl hx), .obj (ly.li a), rfl, ?_⟩
   unfold Zki
   refine Z.M6 (Z.I (Z.l (Z.C4 (Z.B (v := .obj (ly.li a)) rfl rfl (Z.B7 (SB.inf a ha) rfl rfl (Z.S (Z.C3 ?_)))))))
   cases hz : T.np a == 0 with
   | true =>
    refine Z.I5 (Z.C4 (Z.B (v := .obj (ly.li a)) rfl rfl (Z.B7 (SB.inf a ha) rfl rfl ⟨_, Z5 Zh3, ?_, v1, .obj (ly.li a), ?_⟩)))
    ·rw [Qd]
     exact Qkb (Qkkk (length_filter_le _ _) (length_take_le' _ _) hol) rfl
    ·try dsimp only
     rw [List.set_set, Zcx hx, hz, Xi]
     rfl
   | false =>
    refine ⟨v1, .obj (ly.li a), ?_⟩
    rw [Zcx hx, hz]
    simp
 ·refine ⟨.undef, .undef, ?_⟩
  unfold Zic
  simp
end
end
end Mine
namespace Mine
noncomputable section

noncomputable def yes (p : Prop) : Bool := @decide p (Classical.propDecidable p)theorem Zec {p : Prop} : yes p = true ↔ p := @decide_eq_true_iff p (Classical.propDecidable p)
inductive Way (E : Int -> Int -> Prop) : Int -> Int -> Prop
 | one {a b : Int} : E a b -> Way E a b
 | snoc {a b c : Int} : Way E a b -> E b c -> Way E a c
section
variable {E E' : Int -> Int -> Prop}
theorem Way.cons {a b c : Int} (h : E a b) (w : Way E b c) : Way E a c := by
 induction w with
 | one e => exact .snoc (.one h) e
 | snoc _ e ih => exact .snoc ih e
theorem Way.last {a c : Int} (w : Way E a c) : ∃ b, E b c ∧ (a = b ∨ Way E a b) := by
 cases w with
 | one e => exact ⟨a, e, .inl rfl⟩
 | snoc w e => exact ⟨_, e, .inr w⟩
theorem Way.flip {a b : Int} (w : Way E a b) : Way (λ a b => E b a) b a := by
 induction w with
 | one e => exact .one e
 | snoc _ e ih => exact .cons e ih
theorem Zlv {x : Int} (h : Acc E x) : ∀ z, (z = x ∨ Way E z x) -> ¬ Way E z z := by
 induction h with
 | intro x _ ih =>
  intro z hz w
  have : ∃ p, E p x ∧ Way E p p := by
   rcases hz with rfl | hz
   ·obtain ⟨p, e, q⟩ := w.last
    rcases q with rfl | q
    ·exact ⟨z, e, w⟩
    ·exact ⟨p, e, .cons e q⟩
   ·obtain ⟨p, e, q⟩ := hz.last
    rcases q with rfl | q
    ·exact ⟨z, e, w⟩
    ·exact Qe w (ih p e z (.inr q))
  obtain ⟨p, e, q⟩ := this
  exact ih p e p (.inl rfl) q
theorem Zh4 {x : Int} (h : Acc E x) : ¬ Way E x x := Zlv h x (.inl rfl)
theorem Zul {α : Type} {p q : α -> Prop} {a : α} : ∀ (U : List α), (∀ x, p x -> q x) -> a ∈ U -> q a -> ¬ p a -> (U.filter λ x => yes (p x)).length < (U.filter λ x => yes (q x)).length := by
 have le : ∀ (V : List α), (∀ x, p x -> q x) -> (V.filter λ x => yes (p x)).length <= (V.filter λ x => yes (q x)).length := λ V h => by
  induction V with
  | nil => exact Qr
  | cons b V ih =>
   simp only [filter_cons]
   by_cases hp : p b
   ·rw [Qo (Zec.mpr hp), Qo (Zec.mpr (h b hp))]; simpa using ih
   ·rw [Qq (λ q => hp (Zec.mp q))]
    split
    ·simp only [Xd]; lia
    ·exact ih
 intro U h ha hq hp
 induction U with
 | nil => cases ha
 | cons b U ih =>
  simp only [filter_cons]
  by_cases e : b = a
  ·subst e
   rw [Qq (λ q => hp (Zec.mp q)), Qo (Zec.mpr hq)]
   have := le U h
   simp only [Xd]; lia
  ·have := ih (by
    rcases Qmc ha with h | h
    ·exact Qe h.symm e
    ·exact h)
   by_cases hpb : p b
   ·rw [Qo (Zec.mpr hpb), Qo (Zec.mpr (h b hpb))]; simpa using this
   ·rw [Qq (λ q => hpb (Zec.mp q))]
    split
    ·simp only [Xd]; lia
    ·exact this
theorem Ztb (U : List Int) (hU : ∀ a b, E a b -> a ∈ U) : ∀ (n : Nat) (x : Int), (U.filter λ a => yes (Way E a x)).length < n -> (∀ z, (z = x ∨ Way E z x) -> ¬ Way E z z) -> Acc E x := by
 intro n
 induction n with
 | zero => intro x h; lia
 | succ n ih =>
  intro x hn h
  refine Acc.intro x λ p e => ih p ?_ λ z hz w => ?_
  ·have := Zul (p := λ a => Way E a p) (q := λ a => Way E a x) (a := p) U (λ a w => .snoc w e) (hU p x e) (.one e) (h p (.inr (.one e)))
   lia
  ·rcases hz with rfl | hz
   ·exact h z (.inr (.one e)) w
   ·exact h z (.inr (.snoc hz e)) w
theorem Zrq (U : List Int) (hU : ∀ a b, E a b -> a ∈ U) (x : Int) : Acc E x ↔ ∀ z, (z = x ∨ Way E z x) -> ¬ Way E z z :=
 ⟨Zlv, Ztb U hU _ x (Nat.lt_succ_self _)⟩
theorem Zx4 (U : List Int) (hU : ∀ a b, E a b -> a ∈ U ∧ b ∈ U) : (∀ x ∈ U, Acc E x) ↔ ∀ x ∈ U, Acc (λ a b => E b a) x := by
 have k1 : (∀ x ∈ U, Acc E x) ↔ ∀ z, ¬ Way E z z := by
  constructor
  ·intro h z w
   obtain ⟨p, e, _⟩ := w.last
   exact Zh4 (h z (hU _ _ e).2) w
  ·intro h x _
   exact (Zrq U (λ a b e => (hU a b e).1) x).mpr λ z _ => h z
 have k2 : (∀ x ∈ U, Acc (λ a b => E b a) x) ↔ ∀ z, ¬ Way (λ a b => E b a) z z := by
  constructor
  ·intro h z w
   obtain ⟨p, e, _⟩ := w.last
   exact Zh4 (h z (hU _ _ e).1) w
  ·intro h x _
   exact (Zrq U (λ a b e => (hU b a e).2) x).mpr λ z _ => h z
 rw [k1, k2]
 exact ⟨λ h z w => h z w.flip, λ h z w => h z w.flip⟩
end
noncomputable abbrev Ed := List (Int × Int)abbrev St1 (ts : Ed) (a b : Int) : Prop := (a, b) ∈ ts
abbrev Fr (ts : Ed) (a : Int) : Prop := Acc (St1 ts) a
noncomputable def scL (ts : Ed) (a : Int) : List Int := (ts.filter λ e => e.1 == a).map (·.2)
set_option backward.eqns.nonrecursive false
noncomputable def Zb2 : List Int -> List Int
 | [] => []
 | x :: xs => match decide (x ∈ xs) with
  | true => Zb2 xs
  | false => x :: Zb2 xs
theorem Zgy {x : Int} {xs : List Int} : Zb2 (x :: xs) = (match decide (x ∈ xs) with | true => Zb2 xs | false => x :: Zb2 xs) := rfl
theorem Zna : Zb2 [] = [] := rfl
theorem Zed {ts : Ed} {a b : Int} : b ∈ scL ts a ↔ (a, b) ∈ ts := by
 unfold scL
 rw [mem_map]
 constructor
 ·rintro ⟨⟨x, y⟩, h, rfl⟩
  rw [mem_filter] at h
  have := h.2
  simp at this
  subst this; exact h.1
 ·intro h; exact ⟨(a, b), mem_filter.mpr ⟨h, by simp⟩, rfl⟩
theorem Zdu {x : Int} : ∀ {xs : List Int}, x ∈ Zb2 xs ↔ x ∈ xs
 | [] => by simp [Zna]
 | y :: ys => by
  rw [Zgy]
  have ih := Zdu (x := x) (xs := ys)
  cases h : decide (y ∈ ys) with
  | true =>
   have hy := Qh h
   rw [ih, mem_cons]
   exact ⟨.inr, λ q => q.elim (λ e => e ▸ hy) id⟩
  | false => rw [mem_cons, mem_cons, ih]
theorem Zfs : ∀ (xs : List Int), (Zb2 xs).Nodup
 | [] => nodup_nil
 | y :: ys => by
  rw [Zgy]
  cases h : decide (y ∈ ys) with
  | true => exact Zfs ys
  | false =>
   rw [nodup_cons, Zdu]
   exact ⟨of_decide_eq_false h, Zfs ys⟩noncomputable def cnt (ts : Ed) (D : List Int) (a : Int) : Nat := (ts.filter λ e => e.2 == a && !decide (e.1 ∈ D)).length
abbrev Zd1 (ts : Ed) (D : List Int) (a : Int) : Prop := ∀ p, (p, a) ∈ ts -> p ∈ D
theorem Ze4 {ts : Ed} {D : List Int} {a : Int} : cnt ts D a = 0 ↔ Zd1 ts D a := by
 unfold cnt
 rw [List.length_eq_zero_iff, List.filter_eq_nil_iff]
 constructor
 ·intro h p hp
  have := h _ hp
  simp at this
  exact this
 ·rintro h ⟨p, b⟩ hp
  simp
  intro e; subst e; exact h p hp
noncomputable def one (b : Bool) : Nat := match b with
 | true => 1
 | false => 0
set_option backward.eqns.nonrecursive true
theorem Zpv (x y : Int) (ts : Ed) (D : List Int) (a : Int) : cnt ((x, y) :: ts) D a = cnt ts D a + one (y == a && !decide (x ∈ D)) := by
 unfold cnt
 rw [filter_cons]
 dsimp only
 cases (y == a && !decide (x ∈ D)) <;> rfl
theorem Zx5 (x y : Int) (ts : Ed) (b a : Int) : (scL ((x, y) :: ts) b).count a = (scL ts b).count a + one (x == b && y == a) := by
 unfold scL
 rw [filter_cons]
 dsimp only
 cases x == b with
 | false => rfl
 | true =>
  rw [Qo rfl, Xa, List.count_cons, Bool.true_and]
  dsimp only
  cases y == a <;> rfl
theorem Zum (D : List Int) (b x y a : Int) (hb : b ∉ D) : one (y == a && !decide (x ∈ D)) = one (y == a && !decide (x ∈ D ++ [b])) + one (x == b && y == a) := by
 cases y == a with
 | false => rw [Bool.and_false]; rfl
 | true =>
  by_cases e : x = b
  ·subst e
   rw [Q8 hb, Qg (mem_append_right D Q0), beq_self_eq_true]; rfl
  ·have : decide (x ∈ D ++ [b]) = decide (x ∈ D) := decide_eq_decide.mpr ⟨λ h => (Qma h).resolve_right λ q => e (Qms q), Xh _⟩
   rw [this, beq_eq_false_iff_ne.mpr e]; rfl
theorem Zkw {ts : Ed} {D : List Int} {b a : Int} (hb : b ∉ D) : cnt ts D a = cnt ts (D ++ [b]) a + (scL ts b).count a := by
 induction ts with
 | nil => rfl
 | cons e ts ih =>
  obtain ⟨x, y⟩ := e
  rw [Zpv, Zpv, Zx5, ih, Zum D b x y a hb, Nat.add_add_add_comm]
theorem Zy7 {ts : Ed} {D : List Int} {b a : Int} (hb : b ∉ D) : (scL ts b).count a <= cnt ts D a := by
 rw [Zkw hb]; lia
def Zew (ts : Ed) (D : List Int) (b : Int) : List Int := (Zb2 (scL ts b)).filter λ a => cnt ts D a == 0
theorem Znb {ts : Ed} {D : List Int} {a b : Int} : a ∈ Zew ts D b ↔ (b, a) ∈ ts ∧ Zd1 ts D a := by
 unfold Zew
 rw [mem_filter, Zdu, Zed, beq_iff_eq, Ze4]theorem Zq1 {ts : Ed} {D : List Int} {b : Int} : (Zew ts D b).Nodup := (Zfs _).sublist filter_sublist
end
end Mine
namespace Mine
open PySem PySem.W PyProof.Rows
noncomputable section

noncomputable abbrev Zd7 (sc : Int -> List Int) (a : Int) : Prop := Acc (λ s a => s ∈ sc a) a
theorem ar1 {g S W' W n : Nat} (h : W' + g <= W) (k : 1 + S + W < n + 1) : g + S + W' < n := by lia
theorem ar2 {S W n : Nat} (k : 1 + S + W < n + 1) : S + W < n := by lia
theorem ar4 {W' W n : Nat} (h : W' <= W) (k : W + 2 < n) : 1 + 0 + W' < n := by lia
theorem ar3 {l S W n : Nat} (k : 2 * (l + 1) + 1 + S + W < n + 1) : 1 + (2 * l + 1 + S) + W < n := by lia
noncomputable def wgt (sc : Int -> List Int) (a : Int) : Nat := 2 * (sc a).length + 1
def Wt (sc : Int -> List Int) (U seen : List Int) : Nat := ((U.filter λ a => decide (a ∉ seen)).map (wgt sc)).sum
noncomputable def Sw (st : List (Int × List Int)) : Nat := (st.map λ e => 2 * e.2.length + 1).sum
section
variable {sc : Int -> List Int} {U : List Int}
theorem wt_go {seen : List Int} {x : Int} (hs : x ∉ seen) : ∀ (U : List Int), x ∈ U -> Wt sc U (seen ++ [x]) + wgt sc x <= Wt sc U seen ∧ True
 | [] => λ h => nomatch h
 | a :: U => λ h => by
  have mono : ∀ (V : List Int), Wt sc V (seen ++ [x]) <= Wt sc V seen := λ V => by
   induction V with
   | nil => exact Qr
   | cons b V ih =>
    unfold Wt at ih ⊢
    simp only [filter_cons]
    by_cases h1 : b ∈ seen
    ·rw [Qq (by simp [h1]), Qq (by simp [h1])]; exact ih
    ·by_cases h2 : b = x
     ·rw [Qq (by simp [h2]), Qo (by simp [h1])]
      simp only [Xa, sum_cons]; exact Qj ih (Nat.le_add_left _ _)
     ·rw [Qo (by simp [h1, h2]), Qo (by simp [h1])]
      simp only [Xa, sum_cons]; exact Nat.add_le_add_left ih _
  refine ⟨?_, trivial⟩
  by_cases e : a = x
  ·have m := mono U
   subst e
   unfold Wt at m ⊢
   simp only [filter_cons]
   rw [Qq (by simp), Qo (by simp [hs])]
   simp only [Xa, sum_cons]; exact Qj (Q9 m _) (Xb (Nat.add_comm _ _))
  ·have ih := (wt_go hs U (by
    rcases Qmc h with h | h
    ·exact Qe h.symm e
    ·exact h)).1
   unfold Wt at ih ⊢
   simp only [filter_cons]
   by_cases h1 : a ∈ seen
   ·rw [Qq (by simp [h1]), Qq (by simp [h1])]; exact ih
   ·rw [Qo (by simp [h1, e]), Qo (by simp [h1])]
    simp only [Xa, sum_cons]; exact Qj (Xb (Nat.add_assoc _ _ _)) (Nat.add_le_add_left ih _)
theorem wt_le (seen : List Int) : ∀ (U : List Int), Wt sc U seen <= Wt sc U []
 | [] => Qr
 | a :: U => by
  have ih := wt_le seen U
  unfold Wt at ih ⊢
  simp only [filter_cons]
  rw [Qo (show (decide (a ∉ ([] : List Int))) = true by simp)]
  split
  ·simp only [Xa, sum_cons]; omega
  ·simp only [Xa, sum_cons]; omega
inductive Chain (sc : Int -> List Int) (U : List Int) : Option Int -> List (Int × List Int) -> Prop
 | nil {c : Option Int} : Chain sc U c []
 | cons {c : Option Int} {x : Int} {r : List Int} {st : List (Int × List Int)} : x ∈ U -> (∀ s ∈ sc x, s ∈ r ∨ Zd7 sc s ∨ c = some s) -> (∀ y, c = some y -> y ∈ sc x) -> (∀ s ∈ r, s ∈ sc x) -> Chain sc U (some x) st -> Chain sc U c ((x, r) :: st)
theorem Zun {c : Option Int} {st : List (Int × List Int)} (h : Chain sc U c st) : ∀ y, c = some y -> ∀ a ∈ st.map (·.1), Way (λ s a => s ∈ sc a) y a := by
 induction h with
 | nil => exact λ _ _ a h => nomatch h
 | cons _ _ h2 _ _ ih =>
  intro y e a h
  rcases Qmc h with rfl | h
  ·exact .one (h2 y e)
  ·exact .cons (h2 y e) (ih _ rfl a h)
theorem Chain.shut {x : Int} {st : List (Int × List Int)} (h : Chain sc U (some x) st) (f : Zd7 sc x) : Chain sc U none st := by
 cases h with
 | nil => exact .nil
 | cons u a b c d => exact .cons u (λ s hs => (a s hs).elim .inl λ q => .inr (.inl (q.elim id λ e => by cases e; exact f))) (λ y e => nomatch e) c d
abbrev Sn (sc : Int -> List Int) (st : List (Int × List Int)) (seen : List Int) : Prop := ∀ a ∈ seen, Zd7 sc a ∨ a ∈ st.map (·.1)
set_option backward.eqns.nonrecursive false
def InvF (sc : Int -> List Int) (U : List Int) (n : Nat) : FS -> Prop
 | .proc x st seen => 1 + Sw st + Wt sc U seen < n ∧ x ∈ U ∧ Chain sc U (some x) st ∧ Sn sc st seen
 | .back st seen => Sw st + Wt sc U seen < n ∧ Chain sc U none st ∧ Sn sc st seen
noncomputable def KeptF (seen' : List Int) : FS -> Prop
 | .proc x st seen => x ∈ seen' ∧ ∀ a ∈ seen, a ∈ seen'
 | .back st seen => ∀ a ∈ seen, a ∈ seen'
def OutF (sc : Int -> List Int) (U : List Int) (f : FS) : FRes -> Prop
 | .ring => ¬ ∀ a ∈ U, Zd7 sc a
 | .out seen' => (∀ a ∈ seen', Zd7 sc a) ∧ KeptF seen' f
theorem OutF.le {f f' : FS} {res : FRes} (h : OutF sc U f res) (k : ∀ s, KeptF s f -> KeptF s f') : OutF sc U f' res := by
 cases res with
 | ring => exact h
 | out s => exact ⟨h.1, k s h.2⟩
theorem Zwa (hU : ∀ a ∈ U, ∀ s ∈ sc a, s ∈ U) : ∀ (n : Nat) (f : FS), InvF sc U n f -> ∃ res, Zd6 sc n f = some res ∧ OutF sc U f res := by
 intro n
 induction n with
 | zero => intro f h; cases f <;> exact Qe h.1 (Nat.not_lt_zero _)
 | succ n ih =>
  intro f h
  cases f with
  | proc x st seen =>
   obtain ⟨h1, h2, h3, h4⟩ := h
   rw [Zuj]
   cases hs : decide (x ∈ seen) with
   | true =>
    have hsx := Qh hs
    cases hk : decide (x ∈ st.map (·.1)) with
    | true => exact ⟨_, rfl, λ q => Zh4 (q x h2) (Zun h3 x rfl x (Qh hk))⟩
    | false =>
     obtain ⟨res, e, o⟩ := ih (.back st seen) ⟨ar2 h1, h3.shut ((h4 x hsx).resolve_right (of_decide_eq_false hk)), h4⟩
     exact ⟨res, e, o.le λ s k => ⟨k x hsx, k⟩⟩
   | false =>
    have hw := (wt_go (sc := sc) (of_decide_eq_false hs) U h2).1
    obtain ⟨res, e, o⟩ := ih (.back ((x, sc x) :: st) (seen ++ [x])) ⟨ar1 hw h1, .cons h2 (λ s hs => .inl hs) (λ y e => nomatch e) (λ s hs => hs) h3, λ a ha => by
     rcases Qma ha with ha | ha
     ·exact (h4 a ha).imp id (Qv _)
     ·rw [Qz] at ha; rw [ha]; exact .inr Q0⟩
    exact ⟨res, by cases decide (x ∈ st.map (·.1)) <;> exact e, o.le λ s k => ⟨k x (by simp), λ a ha => k a (Xh _ ha)⟩⟩
  | back st seen =>
   obtain ⟨h1, h2, h3⟩ := h
   cases st with
   | nil => exact ⟨_, rfl, λ a ha => (h3 a ha).resolve_right (by simp), λ a ha => ha⟩
   | cons e st =>
    obtain ⟨x, r⟩ := e
    cases h2 with
    | cons u a b c d =>
    cases r with
    | nil =>
     have hfx : Zd7 sc x := Acc.intro x λ s hs => (a s hs).elim (λ q => nomatch q) λ q => q.elim id λ e => nomatch e
     exact ih (.back st seen) ⟨ar2 h1, d.shut hfx, λ a ha => (h3 a ha).elim .inl λ q => (Qmc q).elim (λ e => .inl (e ▸ hfx)) .inr⟩
    | cons y ys =>
     obtain ⟨res, e, o⟩ := ih (.proc y ((x, ys) :: st) seen) ⟨ar3 h1, hU x u y (c y Q0), .cons u (λ s hs => (a s hs).elim (λ q => (Qmc q).elim (λ e => .inr (.inr (congrArg some e.symm))) .inl) λ q => .inr (.inl (q.elim id λ e => nomatch e))) (λ z e => by cases e; exact c y Q0) (λ s hs => c s (Qv _ hs)) d, h3⟩
     exact ⟨res, e, o.le λ s k => k.2⟩
theorem Znc (hU : ∀ a ∈ U, ∀ s ∈ sc a, s ∈ U) {n : Nat} (hn : Wt sc U [] + 2 < n) : ∀ (xs seen : List Int), (∀ a ∈ xs, a ∈ U) -> (∀ a ∈ seen, Zd7 sc a) -> ∃ b, Zfd sc n xs seen = some b ∧ (b = true -> ¬ ∀ a ∈ U, Zd7 sc a) ∧ (b = false -> ∀ a ∈ xs, Zd7 sc a)
 | [] => λ seen _ _ => ⟨false, rfl, (λ e => nomatch e), λ _ a h => nomatch h⟩
 | x :: xs => λ seen h hs => by
  rw [Zrp]
  have hx := λ a ha => h a (Qv x ha)
  have next : ∀ seen', (∀ a ∈ seen', Zd7 sc a) -> x ∈ seen' -> ∃ b, Zfd sc n xs seen' = some b ∧ (b = true -> ¬ ∀ a ∈ U, Zd7 sc a) ∧ (b = false -> ∀ a ∈ x :: xs, Zd7 sc a) := λ s k m => by
   obtain ⟨b, e, h1, h2⟩ := Znc hU hn xs s hx k
   exact ⟨b, e, h1, λ q a ha => (Qmc ha).elim (λ e => e ▸ k x m) (h2 q a)⟩
  cases hd : decide (x ∈ seen) with
  | true => exact next seen hs (Qh hd)
  | false =>
   have := wt_le (sc := sc) seen U
   obtain ⟨r, hr, o⟩ := Zwa hU n (.proc x [] seen) ⟨ar4 this hn, h x Q0, .nil, λ a ha => .inl (hs a ha)⟩
   rw [hr]
   cases r with
   | ring => exact ⟨true, rfl, λ _ => o, λ e => nomatch e⟩
   | out s => exact next s o.1 o.2.1
end
section
variable {hp : List MO} {o : Nat} {T : TSt} {ly : Lay} {fr : List PV} {E : Value -> St -> Prop}
theorem Zx6 (S : SAt d hp o T ly) (hr : T.ready = none) (hsub : ∀ a ∈ T.order, ∀ s ∈ T.sc a, s ∈ T.order) (hol : T.order.length <= 1000) (hw : Wt T.sc T.order [] <= 900000) {Q : PV -> St -> Prop}
  (h : ∀ hp' ly', SAt d hp' o (Zci T) ly' -> Grow o T ly hp (Zci T) ly' hp' -> ((∀ a ∈ T.order, Zd7 T.sc a) -> Q .none ⟨fr, hp'⟩) ∧ (¬ (∀ a ∈ T.order, Zd7 T.sc a) -> E (.ref d.CE) ⟨fr, hp'⟩)) : Z (Zc7 d [.obj o]) ⟨fr, hp⟩ Q E := by
 obtain ⟨b, hf, h1, h2⟩ := Znc hsub (n := Wt T.sc T.order [] + 3) (by lia) T.order [] (λ a ha => ha) λ a ha => nomatch ha
 refine Zta S hr hsub hol hf (by unfold Zj; lia) λ hp' ly' S' g => ?_
 obtain ⟨q1, q2⟩ := h hp' ly' S' g
 exact ⟨λ e => q1 (h2 e), λ e => q2 (h1 e)⟩
end

theorem Zpw : ∀ (xs : List Int) (T : TSt), (∀ s ∈ xs, (xs.count s : Int) <= T.np s) ->
  (xs.foldl Zat T).np = (λ s => T.np s - xs.count s) ∧ (xs.foldl Zat T).ready = T.ready.map (· ++ (Zb2 xs).filter λ s => T.np s == (xs.count s : Int))
 | [] => λ T _ => by
  refine ⟨by funext s; simp, ?_⟩
  show T.ready = _
  cases T.ready <;> simp [Zna]
 | x :: xs => λ T h => by
  have hx := h x Q0
  rw [count_cons_self] at hx
  have npd : (Zat T x).np = λ s => if s = x then T.np x - 1 else T.np s := rfl
  have cne : ∀ s, s ≠ x -> (x :: xs).count s = xs.count s := λ s e => List.count_cons_of_ne (Ne.symm e)
  have hle : ∀ s ∈ xs, (xs.count s : Int) <= (Zat T x).np s := λ s hs => by
   rw [npd]
   by_cases e : s = x
   ·subst e; simp only [if_true]; lia
   ·simp only [Qq e]
    have := h s (Qv _ hs)
    rw [cne s e] at this; exact this
  obtain ⟨ih1, ih2⟩ := Zpw xs (Zat T x) hle
  refine ⟨?_, ?_⟩
  ·rw [foldl_cons, ih1, npd]
   funext s
   by_cases e : s = x
   ·subst e; simp only [if_true]; rw [count_cons_self]; lia
   ·simp only [Qq e]; rw [cne s e]
  ·rw [foldl_cons, ih2]
   have hr : (Zat T x).ready = if T.np x - 1 = 0 then T.ready.map (· ++ [x]) else T.ready := rfl
   rw [hr]
   have hf : ∀ l : List Int, (∀ s ∈ l, s ∈ xs) -> l.filter (λ s => (Zat T x).np s == (xs.count s : Int)) = l.filter λ s => T.np s == ((x :: xs).count s : Int) := λ l hl => by
    refine filter_congr λ s hs => ?_
    rw [npd]
    by_cases e : s = x
    ·subst e; simp only [if_true]; rw [count_cons_self, Bool.eq_iff_iff, beq_iff_eq, beq_iff_eq]; lia
    ·simp only [Qq e]; rw [cne s e]
   rw [hf (Zb2 xs) λ s hs => Zdu.mp hs]
   rw [Zgy]
   by_cases hz : T.np x - 1 = 0
   ·rw [Qo hz]
    have c0 : xs.count x = 0 := by lia
    have hn : x ∉ xs := count_eq_zero.mp c0
    rw [Q8 hn]
    try dsimp only
    rw [filter_cons, count_cons_self, Qo (by rw [beq_iff_eq]; lia)]
    cases T.ready <;> simp
   ·rw [Qq hz]
    by_cases hn : x ∈ xs
    ·rw [Qg hn]
    ·rw [Q8 hn]
     try dsimp only
     rw [filter_cons, count_cons_self, Qq (by rw [beq_iff_eq, count_eq_zero.mpr hn]; lia)]
structure Bt (ns : List Int) (ts : Ed) (T : TSt) : Prop where
 order : T.order = ns
 sc : T.sc = scL ts
 np : ∀ a ∈ ns, T.np a = cnt ts [] a
 ready : T.ready = none
 passed : T.passed = 0
 fin : T.fin = 0
 tin : ∀ e ∈ ts, e.1 ∈ ns ∧ e.2 ∈ ns
theorem Zrr {ts : Ed} {a : Int} (h : ∀ e ∈ ts, e.1 ≠ a) : scL ts a = [] := by
 unfold scL
 rw [List.map_eq_nil_iff, List.filter_eq_nil_iff]
 intro e he; simpa using h e he
theorem Zrs {ts : Ed} {D : List Int} {a : Int} (h : ∀ e ∈ ts, e.2 ≠ a) : cnt ts D a = 0 := by
 rw [Ze4]; intro p hp; exact Qe rfl (h _ hp)theorem Bt.nil : Bt [] [] T0 := ⟨rfl, rfl, (λ a h => nomatch h), rfl, rfl, rfl, λ e h => nomatch h⟩theorem Zx7 {ts ts' : Ed} {D : List Int} {a : Int} : cnt (ts ++ ts') D a = cnt ts D a + cnt ts' D a := by unfold cnt; rw [filter_append, Qk]theorem Zx8 {ts ts' : Ed} {a : Int} : scL (ts ++ ts') a = scL ts a ++ scL ts' a := by unfold scL; rw [filter_append, Xi]
structure Kn (ns : List Int) (ts : Ed) (T : TSt) (O D rd : List Int) : Prop where
 order : T.order = ns
 sc : T.sc = scL ts
 np : ∀ a ∈ ns, T.np a = if a ∈ D then -2 else if a ∈ O then -1 else (cnt ts D a : Int)
 ready : T.ready = some rd
 passed : T.passed = O.length
 fin : T.fin = D.length
 nnd : ns.Nodup
 ond : O.Nodup
 dnd : D.Nodup
 dO : ∀ a ∈ D, a ∈ O
 oN : ∀ a ∈ O, a ∈ ns
 cl : ∀ a ∈ O, Zd1 ts D a
 rnd : rd.Nodup
 rm : ∀ a, a ∈ rd ↔ a ∈ ns ∧ a ∉ O ∧ Zd1 ts D a
 tin : ∀ e ∈ ts, e.1 ∈ ns ∧ e.2 ∈ ns
section
variable {ns : List Int} {ts : Ed} {T : TSt} {O D rd : List Int}
theorem Bt.start (B : Bt ns ts T) (hn : ns.Nodup) : Kn ns ts (Zci T) [] [] (ns.filter λ a => cnt ts [] a == 0) := by
 refine ⟨B.order, B.sc, λ a ha => ?_, ?_, B.passed, B.fin, hn, nodup_nil, nodup_nil, (λ a h => nomatch h), (λ a h => nomatch h), (λ a h => nomatch h), hn.sublist filter_sublist, λ a => ?_, B.tin⟩
 ·rw [Qq (λ h => nomatch h), Qq (λ h => nomatch h)]; exact B.np a ha
 ·show some _ = some _
  rw [B.order]
  congr 1
  refine filter_congr λ a ha => ?_
  rw [B.np a ha, Bool.eq_iff_iff, beq_iff_eq, beq_iff_eq]; lia
 ·rw [mem_filter, beq_iff_eq, Ze4]
  simp
theorem Kn.get (K : Kn ns ts T O D rd) : Kn ns ts (getT T rd) (O ++ rd) D [] := by
 refine ⟨K.order, K.sc, λ a ha => ?_, rfl, ?_, K.fin, K.nnd, ?_, K.dnd, λ a h => Xh _ (K.dO a h), λ a h => ?_, λ a h => ?_, nodup_nil, λ a => ?_, K.tin⟩
 ·show (if a ∈ rd then (-1 : Int) else T.np a) = _
  by_cases h1 : a ∈ rd
  ·have h2 : a ∉ D := λ h => ((K.rm a).mp h1).2.1 (K.dO a h)
   rw [Qo h1, Qq h2, Qo (mem_append_right _ h1)]
  ·rw [Qq h1, K.np a ha]
   simp [h1]
 ·show T.passed + (rd.length : Int) = _
  rw [K.passed, Qk]; lia
 ·exact nodup_append.mpr ⟨K.ond, K.rnd, λ a h b h' e => ((K.rm b).mp h').2.1 (e ▸ h)⟩
 ·exact (Qma h).elim (K.oN a) λ h => ((K.rm a).mp h).1
 ·exact (Qma h).elim (K.cl a) λ h => ((K.rm a).mp h).2.2
 ·constructor
  ·intro h; cases h
  ·rintro ⟨h1, h2, h3⟩
   exact Qe (mem_append_right O ((K.rm a).mpr ⟨h1, λ h => h2 (Xh _ h), h3⟩)) h2
theorem Kn.done (K : Kn ns ts T O D rd) {b : Int} (hb : b ∈ O) (hd : b ∉ D) : Kn ns ts (Zca T b) O (D ++ [b]) (rd ++ Zew ts (D ++ [b]) b) := by
 have notO : ∀ s, (b, s) ∈ ts -> s ∉ O := λ s hs ho => hd (K.cl s ho b hs)
 have bb : (b, b) ∉ ts := λ h => notO b h hb
 have b0 : (scL ts b).count b = 0 := count_eq_zero.mpr λ h => bb (Zed.mp h)
 have npU : ∀ s ∈ scL ts b, (upd T.np b (-2)) s = (cnt ts D s : Int) := λ s hs => by
  have h1 := Zed.mp hs
  have h2 : s ≠ b := λ e => bb (e ▸ h1)
  have h3 := notO s h1
  rw [Za0 h2, K.np s (K.tin _ h1).2, Qq (λ h => h3 (K.dO s h)), Qq h3]
 obtain ⟨k1, k2⟩ := Zpw (scL ts b) { T with np := upd T.np b (-2) } λ s hs => by
  show _ <= upd T.np b (-2) s
  rw [npU s hs]
  exact Int.ofNat_le.mpr (Zy7 hd)
 have e : Zca T b = { (scL ts b).foldl Zat { T with np := upd T.np b (-2) } with fin := T.fin + 1 } := by
  unfold Zca
  rw [K.sc, Zpp]
 rw [e]
 refine ⟨(Zdj _ _).trans K.order, (Zj0 _ _).trans K.sc, λ a ha => ?_, ?_, (Zkk _ _).trans K.passed, ?_, K.nnd, K.ond, ?_, λ a h => ?_, K.oN, λ a h p hp => Xh _ (K.cl a h p hp), ?_, λ a => ?_, K.tin⟩
 ·show ((scL ts b).foldl Zat { T with np := upd T.np b (-2) }).np a = _
  rw [k1]
  show upd T.np b (-2) a - _ = _
  by_cases h1 : a = b
  ·subst h1; rw [Zai, b0, Qo (by simp)]; rfl
  ·rw [Za0 h1]
   have npa := K.np a ha
   by_cases h2 : a ∈ D
   ·have : (scL ts b).count a = 0 := count_eq_zero.mpr λ h => notO a (Zed.mp h) (K.dO a h2)
    rw [npa, Qo h2, Qo (Xh _ h2), this]; rfl
   ·rw [Qq (show a ∉ D ++ [b] by simp [h1, h2]), npa, Qq h2]
    by_cases h3 : a ∈ O
    ·have : (scL ts b).count a = 0 := count_eq_zero.mpr λ h => notO a (Zed.mp h) h3
     rw [Qo h3, Qo h3, this]; rfl
    ·rw [Qq h3, Qq h3, Zkw hd]
     lia
 ·show ((scL ts b).foldl Zat { T with np := upd T.np b (-2) }).ready = _
  rw [k2]
  show T.ready.map _ = _
  rw [K.ready]
  show some (rd ++ _) = some (rd ++ _)
  congr 2
  unfold Zew
  refine filter_congr λ s hs => ?_
  show (upd T.np b (-2) s == _) = _
  rw [npU s (Zdu.mp hs), Zkw hd, Bool.eq_iff_iff, beq_iff_eq, beq_iff_eq]
  lia
 ·show T.fin + 1 = _
  rw [K.fin, Qk, length_singleton]; rfl
 ·exact nodup_append.mpr ⟨K.dnd, by simp, λ a h c h' q => by rw [Qz] at h'; exact hd (by rw [<- h', <- q]; exact h)⟩
 ·rcases Qma h with h | h
  ·exact K.dO a h
  ·rw [Qz] at h; rw [h]; exact hb
 ·refine nodup_append.mpr ⟨K.rnd, Zq1, λ a h c h' q => ?_⟩
  subst q
  exact hd (((K.rm a).mp h).2.2 b (Znb.mp h').1)
 ·rw [List.mem_append, K.rm, Znb]
  constructor
  ·rintro (⟨h1, h2, h3⟩ | ⟨h1, h2⟩)
   ·exact ⟨h1, h2, λ p hp => Xh _ (h3 p hp)⟩
   ·exact ⟨(K.tin _ h1).2, notO a h1, h2⟩
  ·rintro ⟨h1, h2, h3⟩
   by_cases q : (b, a) ∈ ts
   ·exact .inr ⟨q, h3⟩
   ·refine .inl ⟨h1, h2, λ p hp => ?_⟩
    rcases Qma (h3 p hp) with h | h
    ·exact h
    ·rw [Qz] at h; subst h; exact Qe hp q
end

section
variable {hp : List MO} {fr : List PV} {E : Value -> St -> Prop}theorem Z.J7 {i j : Int} {μ : St} {Q : Bool -> St -> Prop} (h : Q (decide (i < j)) μ) : Z (Zbr .Lt (.int i) (.int j)) μ Q E := Z.V rfl h
theorem Z.D5 {op : Operator} {f g : PM PV} {μ : St} {Q : PV -> St -> Prop} (h : Z f μ (λ x μ' => Z g μ' (λ y μ'' => Z (pBin op x y) μ'' Q E) E) E) : Z (Zft op f g) μ Q E := Z.H (h.mono (λ _ _ h => Z.H h) λ _ _ e => e)
theorem Z.H1 {i j : Int} {μ : St} {Q : PV -> St -> Prop} (hj : j ≠ 0) (h : Q (.int (i.fmod j)) μ) : Z (pBin .Mod (.int i) (.int j)) μ Q E := by
 refine Z.V ?_ h
 show (Zb3 (λ i j => i.fmod j) (λ j => j != 0) (.int i) (.int j) : PM PV) μ = _
 unfold Zb3
 try dsimp only
 rw [show (j != 0) = true from bne_iff_ne.mpr hj]
theorem Z.I7 {i j : Int} {μ : St} {Q : PV -> St -> Prop} (hj : j ≠ 0) (hb : j.natAbs < 1000) (h : Q (.int (i.fdiv j)) μ) : Z (pBin .FloorDiv (.int i) (.int j)) μ Q E := by
 refine Z.V ?_ h
 show (Zb3 (λ i j => i.fdiv j) (λ j => j != 0 && decide (j.natAbs < 1000)) (.int i) (.int j) : PM PV) μ = _
 unfold Zb3
 try dsimp only
 rw [show ((j != 0) && decide (j.natAbs < 1000)) = true by rw [bne_iff_ne.mpr hj, Qg hb]; rfl]theorem Z.D4 {n : Int} {μ : St} {Q : PV -> St -> Prop} (h : Q (.rng 0 n 1) μ) : Z (Zdw [.int n]) μ Q E := Z.V rfl h
theorem Zwb {n k : Nat} (h : k < n) (hn : n <= 1000000) : Zeu n (k : Int) = some k := by
 have h1 : (k : Int) < 4611686018427387904 := Int.lt_trans (Int.ofNat_lt.mpr (Qlb (Qkk (Nat.le_of_lt h) hn) rfl : k < 1000001)) (by decide)
 have e : (2 : Int) ^ 62 = 4611686018427387904 := by decide
 unfold Zeu
 rw [Qo (Int.natCast_nonneg k), e, Qo h1, Int.toNat_natCast]
theorem Zwc {xs : List PV} {k : Nat} {y : PV} (hy : xs[k]? = some y) (hl : xs.length <= 1000000) : (Zeu xs.length (k : Int)).bind (λ i => xs[i]?) = some y := by
 rw [Zwb (Qgl hy) hl, Option.bind_some]
 exact hy
theorem Zwd {xs : List PV} {z : Int} {y : PV} {μ : St} (e : (Zeu xs.length z).bind (λ i => xs[i]?) = some y) : Zby (.tup xs) (.int z) μ = .ok y μ := by
 unfold Zby
 try dsimp only
 rw [e]
theorem Zwe {xs : List PV} {z : Int} {y : PV} {μ : St} (e : (Zeu xs.length z).bind (λ i => xs[i]?) = some y) : Zby (.lst xs) (.int z) μ = .ok y μ := by
 unfold Zby
 try dsimp only
 rw [e]
theorem Zwf {i : Nat} {xs : List PV} {z : Int} {y : PV} {μ : St} (h : μ.hp[i]? = some (.lst xs)) (e : (Zeu xs.length z).bind (λ i => xs[i]?) = some y) : Zby (.obj i) (.int z) μ = .ok y μ := by
 unfold Zby
 try dsimp only
 rw [h]
 try dsimp only
 rw [e]
theorem Z.L8 {op : Operator} {g k f : PM PV} {μ : St} {Q : MF -> St -> Prop} (h : Z g μ (λ x μ1 => Z k μ1 (λ i μ2 => Z (Zby x i) μ2 (λ old μD => Z f μD (λ v μ4 => Z (pInp op old v) μ4 (λ new μ5 => Z (Zb9 x i new) μ5 (λ _ μ6 => Q .next μ6) E) E) E) E) E) E) : Z (Zj2 op g k f) μ Q E :=
 Z.H (h.mono (λ _ _ h => Z.H (h.mono (λ _ _ h => Z.H (h.mono (λ _ _ h => Z.H (h.mono (λ _ _ h => Z.H (h.mono (λ _ _ h => Z.C9 h) λ _ _ e => e)) λ _ _ e => e)) λ _ _ e => e)) λ _ _ e => e)) λ _ _ e => e)
theorem Zpx : ∀ (is : List Int), Zbc (is.map PV.int) = some is
 | [] => rfl
 | i :: is => by rw [Xa, Zu6, Zpx is]; rfl
end

theorem Zf1 {i : Int} (h : i.natAbs <= 1000001) : Builtin.Range.rangeFitsLong i = true := by
 unfold Builtin.Range.rangeFitsLong
 have e : (2 : Int) ^ 63 = 9223372036854775808 := by decide
 rw [e, Q7, decide_eq_true_eq, decide_eq_true_eq]
 omega
theorem Zrt {n : Nat} : Builtin.Range.rangeSize 0 n 1 = n := by
 unfold Builtin.Range.rangeSize
 rw [Qo (by lia)]
 split
 ·rw [Int.ediv_one]; lia
 ·lia
theorem Zwg {n : Nat} (h : n <= 1000000) : Builtin.Range.small 0 n 1 = true := by
 unfold Builtin.Range.small
 rw [Zrt, Zf1 (i := 0) (by exact Qkb Qr rfl), Zf1 (i := n) (by exact Qkb h rfl), Zf1 (i := 1) (by exact Qkb Qr rfl), Qo (by lia), Zf1 (i := (n : Int) + (1 - 1)) (by exact Qkb h rfl)]
 simp only [Bool.and_self, Bool.or_true]
theorem Zgn {n k : Nat} (h : n <= 1000000) (hk : k <= n) {μ0 μ : St} : Zam (.rng 0 n 1) μ0 k μ = some (if k < n then some (.int k) else none) := by
 unfold Zam
 try dsimp only
 rw [Qo (Zwg h)]
 have e := Zrt (n := n)
 rw [e]
 by_cases q : k < n
 ·rw [Qo (by lia), Qo q]; simp
 ·rw [Qq (by lia), Qq q]

section
variable {hp : List MO} {fr : List PV} {E : Value -> St -> Prop}theorem Z7 {x : MO} : (hp ++ [x])[hp.length]? = some x := by simp
theorem Zf7 {x y : MO} : (hp ++ [x]).set hp.length y = hp ++ [y] := by simp
theorem Z.J4 {n m : Nat} {f e : PM PV} {asg : PV -> PM Unit} {Q : PV -> St -> Prop} (pv : PV) (xs ys : List PV) (hn : xs.length < n) (hl : ys.length = xs.length) (hlen : ys.length <= 1000000)
  (hf : Z f ⟨fr, hp⟩ (λ v μ => v = pv ∧ μ = ⟨fr, hp⟩) (λ _ _ => False)) (hget : ∀ k, k <= xs.length -> ∀ fr' z, Zaw pv ⟨fr, hp⟩ k ⟨fr', hp ++ [.lst z]⟩ = some xs[k]?)
  (step : ∀ (k : Nat) (x y : PV) (us : List PV) (z : List PV), us.length = m -> xs[k]? = some x -> ys[k]? = some y -> Z (asg x) ⟨fr ++ us, hp ++ [.lst z]⟩ (λ _ μ => Z e μ (λ v μ' => v = y ∧ ∃ us, us.length = m ∧ μ' = ⟨fr ++ us, hp ++ [.lst z]⟩) (λ _ _ => False)) (λ _ _ => False))
  (h : Q (.obj hp.length) ⟨fr, hp ++ [.lst ys]⟩) : Z (Za1 n m f (Mine.tfA asg e)) ⟨fr, hp⟩ Q E := by
 refine Z.G6 (hf.mono (λ v μ hv => ?_) λ _ _ e => e.elim)
 obtain ⟨rfl, rfl⟩ := hv
 try dsimp only
 refine Z.E9 (λ k μ => ∃ us, us.length = m ∧ μ = ⟨fr ++ us, hp ++ [.lst (ys.take k)]⟩) xs.length (λ k μ hI hk => ?_) n 0 _ (by lia) (Q5 _) ⟨_, List.length_replicate .., rfl⟩
 obtain ⟨us, hu, rfl⟩ := hI
 rw [hget k hk]
 cases hx : xs[k]? with
 | none =>
  left
  have hk' : k = ys.length := by have := Qgn hx; exact Q3 (Qke hk hl) (Qek hl this)
  refine ⟨rfl, ?_⟩
  try dsimp only
  rw [hk', take_length, take_left]
  exact h
 | some x =>
  right
  have hlt := (Qgl hx)
  have hy : ys[k]? = some ys[k] := Q2 (Qle hlt hl)
  refine ⟨hlt, x, rfl, Z.tfA ((step k x _ us _ hu hx hy).mono (λ _ μ hs => ?_) λ _ _ e => e.elim)⟩
  refine Z.I5 (hs.mono (λ v μ' hv => ?_) λ _ _ e => e.elim)
  obtain ⟨rfl, us', hu', rfl⟩ := hv
  refine ⟨ys.take k, Z7, Qkk (length_take_le' _ _) hlen, us', hu', ?_⟩
  try dsimp only
  rw [Zf7, Xe (by exact Qle hlt hl)]
theorem lenS {k : Nat} {l : List PV} (h : l.length = k + 1) : ∃ a r, l = a :: r ∧ r.length = k := by
 cases l with
 | nil => cases h
 | cons a r => exact ⟨a, r, rfl, Nat.succ.inj h⟩
theorem lenP1 {l : List PV} (h : l.length = 1) : ∃ a, l = [a] := by
 obtain ⟨a, r, rfl, q⟩ := lenS h
 cases List.eq_nil_of_length_eq_zero q
 exact ⟨a, rfl⟩
theorem lenP2 {l : List PV} (h : l.length = 2) : ∃ a b, l = [a, b] := by
 obtain ⟨a, r, rfl, q⟩ := lenS h
 obtain ⟨b, rfl⟩ := lenP1 q
 exact ⟨a, b, rfl⟩
theorem lenP3 {l : List PV} (h : l.length = 3) : ∃ a b c, l = [a, b, c] := by
 obtain ⟨a, r, rfl, q⟩ := lenS h
 obtain ⟨b, c, rfl⟩ := lenP2 q
 exact ⟨a, b, c, rfl⟩
theorem lenP4 {l : List PV} (h : l.length = 4) : ∃ a b c d, l = [a, b, c, d] := by
 obtain ⟨a, r, rfl, q⟩ := lenS h
 obtain ⟨b, c, d, rfl⟩ := lenP3 q
 exact ⟨a, b, c, d, rfl⟩
theorem Z.mapA {n : Nat} {f e : PM PV} {asg : PV -> PM Unit} {Q : PV -> St -> Prop} (pv : PV) (xs ys : List PV) (hn : xs.length < n) (hl : ys.length = xs.length) (hlen : ys.length <= 1000000)
  (hf : Z f ⟨fr, hp⟩ (λ v μ => v = pv ∧ μ = ⟨fr, hp⟩) (λ _ _ => False)) (hget : ∀ k, k <= xs.length -> ∀ fr' z, Zaw pv ⟨fr, hp⟩ k ⟨fr', hp ++ [.lst z]⟩ = some xs[k]?)
  (step : ∀ (k : Nat) (x y u w : PV) (z : List PV), xs[k]? = some x -> ys[k]? = some y -> Z (asg x) ⟨fr ++ [u, w], hp ++ [.lst z]⟩ (λ _ μ => Z e μ (λ v μ' => v = y ∧ ∃ u w, μ' = ⟨fr ++ [u, w], hp ++ [.lst z]⟩) (λ _ _ => False)) (λ _ _ => False))
  (h : Q (.obj hp.length) ⟨fr, hp ++ [.lst ys]⟩) : Z (Za1 n 2 f (Mine.tfA asg e)) ⟨fr, hp⟩ Q E :=
 Z.J4 pv xs ys hn hl hlen hf hget (λ k x y us z hu hx hy => by
  obtain ⟨u, w, rfl⟩ := lenP2 hu
  exact (step k x y u w z hx hy).mono (λ _ μ h => h.mono (λ v μ' q => by obtain ⟨h1, u, w, h2⟩ := q; exact ⟨h1, _, rfl, h2⟩) λ _ _ e => e) λ _ _ e => e) h
theorem Z.mapB {n : Nat} {f e : PM PV} {asg : PV -> PM Unit} {Q : PV -> St -> Prop} (pv : PV) (xs ys : List PV) (hn : xs.length < n) (hl : ys.length = xs.length) (hlen : ys.length <= 1000000)
  (hf : Z f ⟨fr, hp⟩ (λ v μ => v = pv ∧ μ = ⟨fr, hp⟩) (λ _ _ => False)) (hget : ∀ k, k <= xs.length -> ∀ fr' z, Zaw pv ⟨fr, hp⟩ k ⟨fr', hp ++ [.lst z]⟩ = some xs[k]?)
  (step : ∀ (k : Nat) (x y u w t : PV) (z : List PV), xs[k]? = some x -> ys[k]? = some y -> Z (asg x) ⟨fr ++ [u, w, t], hp ++ [.lst z]⟩ (λ _ μ => Z e μ (λ v μ' => v = y ∧ ∃ u w t, μ' = ⟨fr ++ [u, w, t], hp ++ [.lst z]⟩) (λ _ _ => False)) (λ _ _ => False))
  (h : Q (.obj hp.length) ⟨fr, hp ++ [.lst ys]⟩) : Z (Za1 n 3 f (Mine.tfA asg e)) ⟨fr, hp⟩ Q E :=
 Z.J4 pv xs ys hn hl hlen hf hget (λ k x y us z hu hx hy => by
  obtain ⟨u, w, t, rfl⟩ := lenP3 hu
  exact (step k x y u w t z hx hy).mono (λ _ μ h => h.mono (λ v μ' q => by obtain ⟨h1, u, w, t, h2⟩ := q; exact ⟨h1, _, rfl, h2⟩) λ _ _ e => e) λ _ _ e => e) h
theorem Zkx {pv : PV} {μ0 μ : St} {k : Nat} (h : ∀ i, pv ≠ .vals i) : Zaw pv μ0 k μ = Zam pv μ0 k μ := by
 cases pv <;> first | rfl | exact Qe rfl (h _)
theorem Zgz {i : Nat} {xs : List PV} (h : hp[i]? = some (.lst xs)) {k : Nat} {fr' : List PV} {z : MO} : Zaw (.obj i) ⟨fr, hp⟩ k ⟨fr', hp ++ [z]⟩ = some xs[k]? := by
 rw [Zkx (by intro i e; cases e)]
 exact Zcm h (getElem?_app h)
theorem Zwh {n k : Nat} (h : n <= 1000000) (hk : k <= n) {μ0 μ : St} : Zaw (.rng 0 n 1) μ0 k μ = some ((List.range n).map λ (i : Nat) => PV.int i)[k]? := by
 rw [Zkx (by intro i e; cases e), Zgn h hk, Ql]
 by_cases q : k < n
 ·rw [Qo q, List.getElem?_range q]; rfl
 ·rw [Qq q, List.getElem?_eq_none (by rw [length_range]; exact Nat.le_of_not_lt q)]; rfl
noncomputable abbrev Zc1 (e : Int × Int) : PV := .tup [.int e.1, .int e.2]
end

theorem Zjs : ∀ (bs : List Bool), Zb1 (bs.map PV.bool) = some bs
 | [] => rfl
 | b :: bs => by rw [Xa, Ztz, Zjs bs]; rfl
section
variable {hp : List MO} {fr : List PV} {E : Value -> St -> Prop}
theorem Z.E3 {x : PV} {xs : List PV} {z : Int} {k : Nat} (hz : z = k) {y : PV} {μ : St} {Q : PV -> St -> Prop} (e : Zaa μ.hp x = some xs ∨ x = .tup xs) (hy : xs[k]? = some y) (hl : xs.length <= 1000000) (h : Q y μ) : Z (Zby x (.int z)) μ Q E := by
 have b := Zwc hy hl
 rw [<- hz] at b
 refine Z.V ?_ h
 rcases e with e | rfl
 ·unfold Zaa at e
  cases x <;> dsimp only at e <;> first | (cases e; done) | skip
  ·cases e; exact Zwe b
  ·split at e
   ·rename_i q; cases e; exact Zwf q b
   ·cases e
 ·exact Zwd b
theorem Z.setZ {i : Nat} {xs : List PV} {z : Int} {k : Nat} (hz : z = k) {y : PV} {Q : Unit -> St -> Prop} (e : hp[i]? = some (.lst xs)) (hk : k < xs.length) (hl : xs.length <= 1000000) (h : Q () ⟨fr, hp.set i (.lst (xs.set k y))⟩) : Z (Zb9 (.obj i) (.int z) y) ⟨fr, hp⟩ Q E := by
 refine Z.V ?_ h
 have h1 : (0 : Int) <= z ∧ z < xs.length := ⟨hz ▸ Int.natCast_nonneg k, Qzl hz hk⟩
 have h2 : z.toNat = k := hz ▸ Int.toNat_natCast k
 unfold Zb9
 try dsimp only
 rw [e]; try dsimp only
 rw [Qg h1, show Z3 xs = true from Qg hl]
 try dsimp only
 rw [h2]theorem Z.B6 {x : PV} {μ : St} {Q : PV -> St -> Prop} (h : Q x μ) : Z (Pure.pure x : PM PV) μ Q E := (Z.mk h)
theorem Z.E4 {f : PM (List PV)} {μ : St} {Q : PV -> St -> Prop} (h : Z f μ (λ xs μ' => xs.length <= 1000000 ∧ Q (.tup xs) μ') E) : Z (Zdd f) μ Q E :=
 Z.H (h.mono (λ xs μ' h => Z.H (Z.C5 (Qg h.1) (Z.S h.2))) λ _ _ e => e)theorem Zmk {xs : List PV} : Zaa hp (PV.lst xs) = some xs := rfl
theorem Z.E2 {a b : PV -> PM Unit} {x y : PV} {μ : St} {Q : Unit -> St -> Prop} (h : Z (a x) μ (λ _ μ' => Z (b y) μ' Q E) E) : Z (Zct [a, b] (.tup [x, y])) μ Q E :=
 Z.H (h.mono (λ _ _ h => Z.H (h.mono (λ _ _ h => Z.S h) λ _ _ e => e)) λ _ _ e => e)
theorem Z.N5 {a b c : PV -> PM Unit} {x y z : PV} {μ : St} {Q : Unit -> St -> Prop} (h : Z (a x) μ (λ _ μ' => Z (b y) μ' (λ _ μ'' => Z (c z) μ'' Q E) E) E) : Z (Zct [a, b, c] (.tup [x, y, z])) μ Q E :=
 Z.H (h.mono (λ _ _ h => Z.H (h.mono (λ _ _ h => Z.H (h.mono (λ _ _ h => Z.S h) λ _ _ e => e)) λ _ _ e => e)) λ _ _ e => e)
theorem Z.F9 {fo : PM PV} {ga : PM (List PV)} {μ : St} {Q : PV -> St -> Prop} (h : Z fo μ (λ x μ1 => ∃ i xs, x = .obj i ∧ μ1.hp[i]? = some (.lst xs) ∧ Z ga μ1 (λ ys μ2 => ∃ y zs, ys = [y] ∧ μ2.hp[i]? = some (.lst xs) ∧ (Zaa μ2.hp y = some zs ∨ y = .tup zs) ∧ xs.length + zs.length <= 1000000 ∧ Q .none ⟨μ2.fr, μ2.hp.set i (.lst (xs ++ zs))⟩) E) E) : Z (Zhk fo ga) μ Q E :=
 Z.H (h.mono (λ x μ1 hh => by
  obtain ⟨i, xs, e, e2, h⟩ := hh
  subst e
  obtain ⟨fr, hp⟩ := μ1
  refine Z.H (Z.u e2 (Z.H (h.mono (λ ys μ2 hh => ?_) λ _ _ e => e)))
  obtain ⟨y, zs, e, e3, ey, hl, h⟩ := hh
  subst e
  obtain ⟨fr, hp⟩ := μ2
  exact Z.H (Z.u e3 (Z.H (Z.E0 ey (Z.H (Z.C5 (Qg (by rw [Qk]; exact hl)) (Z.H (Z.G8 (Z.S h))))))))) λ _ _ e => e)
theorem Z.all {x : PV} {xs : List PV} {bs : List Bool} {μ : St} {Q : PV -> St -> Prop} (e : Zaa μ.hp x = some xs) (eb : Zb1 xs = some bs) (h : Q (.bool (bs.all id)) μ) : Z (pAll [x]) μ Q E := by
 refine Z.H (Z.V (a := bs) (μ' := μ) ?_ (Z.S h))
 unfold lstM
 rw [e]; try dsimp only
 rw [eb]
theorem Z.argT {f : PM PV} {μ : St} {Q : List PV -> St -> Prop} (h : Z f μ (λ x μ' => ∃ xs, x = .tup xs ∧ xs.length <= 1000000 ∧ Q xs μ') E) : Z (Mine.argS f) μ Q E :=
 Z.H (h.mono (λ x μ' q => by obtain ⟨xs, e, hl, h⟩ := q; exact Z.H (Z.E0 (.inr e) (Z.H (Z.C5 (Qg hl) (Z.S h))))) λ _ _ e => e)
theorem Z.any {x : PV} {xs : List PV} {bs : List Bool} {μ : St} {Q : PV -> St -> Prop} (e : Zaa μ.hp x = some xs) (eb : Zb1 xs = some bs) (h : Q (.bool (bs.any id)) μ) : Z (pAny [x]) μ Q E := by
 refine Z.H (Z.V (a := bs) (μ' := μ) ?_ (Z.S h))
 unfold lstM
 rw [e]; try dsimp only
 rw [eb]
theorem Z.F4 {i : Nat} {xs : List PV} (e : hp[i]? = some (.lst xs)) (hl : xs.length <= 1000000) {Q : PV -> St -> Prop} (h : Q (.obj hp.length) ⟨fr, hp ++ [.lst xs]⟩) : Z (Zdo Zef [.obj i]) ⟨fr, hp⟩ Q E := by
 show Z (Zef (.obj i)) ⟨fr, hp⟩ Q E
 unfold Zef
 exact Z.H (Z.E0 (.inl (Zx e)) (Z.H (Z.C5 (Qg hl) (Z.H (Z.A9 (Z.S h))))))
theorem Z.K8 {fo : PM PV} {ga : PM (List PV)} {μ : St} {Q : PV -> St -> Prop} (h : Z fo μ (λ x μ1 => ∃ (xs : List Int) (k : Int), Zaa μ1.hp x = some (xs.map .int) ∧ Z ga μ1 (λ ys μ2 => Zaa μ2.hp x = some (xs.map .int) ∧ ys = [.int k] ∧ k ∈ xs ∧ xs.length <= 1000000 ∧ Q (.int (xs.idxOf k : Nat)) μ2) E) E) : Z (Zgq fo ga) μ Q E :=
 Z.H (h.mono (λ x μ1 hh => by
  obtain ⟨xs, k, e1, h⟩ := hh
  refine Z.H (Z.H4 e1 (Z.H (h.mono (λ ys μ2 hh => ?_) λ _ _ e => e)))
  obtain ⟨e2, rfl, hk, hl, h⟩ := hh
  refine Z.H (Z.H4 e2 ?_)
  unfold Zqa
  rw [Zpx]
  try dsimp only
  rw [List.findIdx?_eq_some_iff_findIdx_eq.mpr ⟨idxOf_lt_length_iff.mpr hk, rfl⟩]
  refine Z.H (Z.C5 (Qg (by rw [Qd]; exact hl)) (Z.S h))) λ _ _ e => e)theorem Z.gv {k : Nat} {v : PV} (e : fr[k]? = some v) (hv : uq v = false) : Z (Za k) ⟨fr, hp⟩ (λ w μ => w = v ∧ μ = ⟨fr, hp⟩) (λ _ _ => False) := Z.B e hv ⟨rfl, rfl⟩
end
def Zdg : Prop := ∀ n : Nat, 2 <= n -> n < 64 -> ∀ key : Nat -> Int, (Za9 (λ i j => decide (key i < key j)) (kas_sort n)).size = n ∧ (Za9 (λ i j => decide (key i < key j)) (kas_sort n)).toList.Perm (List.range n) ∧
 ∀ i j, i <= j -> j < n -> key ((Za9 (λ i j => decide (key i < key j)) (kas_sort n)).getD i 0) <= key ((Za9 (λ i j => decide (key i < key j)) (kas_sort n)).getD j 0)theorem Zuo (prog : Program) (w : World) (s : Shared) : Zdg := λ _ h2 h64 key => Zua prog w s h2 h64 key rfl
theorem Zlw {α : Type} {r : α -> α -> Prop} (as : ∀ a b, r a b -> ¬ r b a) : ∀ {xs ys : List α}, xs.Pairwise r -> ys.Pairwise r -> (∀ a, a ∈ xs ↔ a ∈ ys) -> xs = ys
 | [] => λ _ _ h => by
  rename_i ys _ _
  cases ys with
  | nil => rfl
  | cons y ys => exact (not_mem_nil ((h y).mpr Q0)).elim
 | x :: xs => λ h1 h2 h => by
  rename_i ys
  cases ys with
  | nil => exact (not_mem_nil ((h x).mp Q0)).elim
  | cons y ys =>
  rw [List.pairwise_cons] at h1 h2
  have ir : ∀ a, ¬ r a a := λ a q => as a a q q
  have e : x = y := by
   rcases Qmc ((h x).mp Q0) with q | q
   ·exact q
   ·rcases Qmc ((h y).mpr Q0) with q2 | q2
    ·exact q2.symm
    ·exact Qe (h2.1 x q) (as _ _ (h1.1 y q2))
  subst e
  congr 1
  refine Zlw as h1.2 h2.2 λ a => ⟨λ q => ?_, λ q => ?_⟩
  ·rcases Qmc ((h a).mp (Qv _ q)) with q2 | q2
   ·subst q2; exact Qe (h1.1 _ q) (ir _)
   ·exact q2
  ·rcases Qmc ((h a).mpr (Qv _ q)) with q2 | q2
   ·subst q2; exact Qe (h2.1 _ q) (ir _)
   ·exact q2
theorem KV.congr {α : Type} {P : α -> Prop} {n : Nat} {f g : Nat -> Nat -> Bool} (h : ∀ i j, i < n -> j < n -> f i j = g i j) : ∀ {t : KasT α}, KV n t P -> Za9 f t = Za9 g t
 | .ret _ => λ _ => rfl
 | .ask i j k => λ q => by
  show Za9 f (k (f i j)) = Za9 g (k (g i j))
  rw [h i j q.1.1 q.1.2]
  exact KV.congr h (q.2 _)
theorem Zwi (K : Zdg) {α : Type} (z : α) (g : α -> PV) (key : α -> Int) (ans : Nat -> Nat -> Bool) (ds : List α) (h64 : ds.length < 64) (nd : (ds.map key).Nodup) (ha : ∀ i j, i < ds.length -> j < ds.length -> ans i j = decide (key (ds.getD i z) < key (ds.getD j z))) :
  ∃ es : List α, (Za9 ans (kas_sort (ds.map g).length)).toList.map (λ i => (ds.map g).getD i .none) = es.map g ∧ es.Perm ds ∧ es.Pairwise λ a b => key a < key b := by
 have eX : ∀ p : Array Nat, Lt ds.length p ∨ p.size = 0 -> p.toList.map (λ i => (ds.map g).getD i .none) = (p.toList.map λ i => ds.getD i z).map g := λ p hp => by
  rw [map_map]
  refine map_congr_left λ i hi => ?_
  have hlt : i < ds.length := by
   rcases hp with hp | hp
   ·obtain ⟨j, hj, e⟩ := List.getElem_of_mem hi
    have := hp j
    rw [Array.length_toList] at hj
    rw [show p.getD j 0 = p[j] by simp [Array.getD, hj]] at this
    rw [<- e]; simpa using this
   ·have : p.toList = [] := List.length_eq_zero_iff.mp (by rw [Array.length_toList]; exact hp)
    rw [this] at hi; cases hi
  show (ds.map g).getD i .none = g (ds.getD i z)
  rw [Xc, Xc, Ql, Q2 hlt]; rfl
 have self : (List.range ds.length).map (λ i => ds.getD i z) = ds := by
  refine ext_getElem (by simp) λ i h1 h2 => ?_
  rw [getElem_map, List.getElem_range, Xc, Q2 h2]; rfl
 rw [Qd]
 by_cases h2 : ds.length < 2
 ·rw [Zrh _ h2]
  refine ⟨ds, ?_, List.Perm.refl _, ?_⟩
  ·rw [eX _ (by
    by_cases q : 0 < ds.length
    ·exact .inl (Zoy q)
    ·exact .inr (by rw [show ds.length = 0 by lia]; rfl))]
   rw [show (List.toArray (List.range ds.length)).toList = List.range ds.length from rfl, self]
  ·rw [List.pairwise_iff_getElem]
   exact λ i j hi hj hij => Qe h2 (Qi (Qkk (Nat.succ_le_succ (Nat.lt_of_le_of_lt (Q5 i) hij)) hj))
 ·have hn : 0 < ds.length := by lia
  have hk : Za9 ans (kas_sort ds.length) = Za9 (λ i j => decide (key (ds.getD i z) < key (ds.getD j z))) (kas_sort ds.length) := (Zhc hn).congr ha
  obtain ⟨k1, k2, k3⟩ := K ds.length (Nat.le_of_not_lt h2) h64 λ i => key (ds.getD i z)
  rw [<- hk] at k1 k2 k3
  have hl := (Zhc hn).run ans
  generalize Za9 ans (kas_sort ds.length) = p at k1 k2 k3 hl ⊢
  have hp : (p.toList.map λ i => ds.getD i z).Perm ds := by
   have := k2.map λ i => ds.getD i z
   rw [self] at this; exact this
  refine ⟨_, eX _ (.inl hl), hp, ?_⟩
  have nd : ((p.toList.map λ i => ds.getD i z).map key).Nodup := (hp.map key).nodup_iff.mpr nd
  rw [List.pairwise_iff_getElem]
  intro i j hi hj hij
  have hi' : i < p.size := by simpa using hi
  have hj' : j < p.size := by simpa using hj
  have := k3 i j (Nat.le_of_lt hij) (Qll hj' (Xb k1))
  rw [show p.getD i 0 = p[i] by simp [Array.getD, hi'], show p.getD j 0 = p[j] by simp [Array.getD, hj']] at this
  have e : ∀ k (hk : k < (p.toList.map λ i => ds.getD i z).length) (hk' : k < p.size), (p.toList.map λ i => ds.getD i z)[k] = ds.getD p[k] z := λ k hk hk' => by rw [getElem_map, Array.getElem_toList]
  rw [<- e i hi hi', <- e j hj hj'] at this
  refine Int.lt_iff_le_and_ne.mpr ⟨this, λ q => Qe ?_ (Nat.ne_of_lt hij)⟩
  refine (getElem_inj (h₀ := by rw [Qd]; exact hi) (h₁ := by rw [Qd]; exact hj) nd).mp ?_
  rw [getElem_map (f := key), getElem_map (f := key)]
  exact q

theorem Zh5 {α : Type} {f : PV -> Option PyData} {g : α -> PV} {k : α -> PyData} : ∀ {l : List α}, (∀ x ∈ l, f (g x) = some (k x)) -> Za2 f (l.map g) = some (l.map k)
 | [] => λ _ => rfl
 | x :: l => λ h => by
  rw [Xa, Zc3, h x Q0]
  try dsimp only
  rw [Zh5 λ y hy => h y (Qv _ hy)]
  rfl
theorem Znd {hp : List MO} {n : Nat} {i : Int} : Zv hp (n + 1) (.int i) = some (.int i) := rfl
theorem Zup {α : Type} {hp : List MO} {n : Nat} {l : List α} {g : α -> PV} {k : α -> PyData} (h : ∀ x ∈ l, Zv hp n (g x) = some (k x)) : Zv hp (n + 1) (.tup (l.map g)) = some (.tuple (l.map k)) := by
 show (Za2 (Zv hp n) (l.map g)).map PyData.tuple = _
 rw [Zh5 h]; rfl
theorem Zne {α : Type} {hp : List MO} {n i : Nat} {l : List α} {g : α -> PV} {k : α -> PyData} (hi : hp[i]? = some (.lst (l.map g))) (h : ∀ x ∈ l, Zv hp n (g x) = some (k x)) : Zv hp (n + 1) (.obj i) = some (.list (l.map k)) := by
 rw [Zl6]
 rw [hi]
 try dsimp only
 rw [Zh5 h]; rfl
theorem Zlx {hp : List MO} {n : Nat} {l : List Int} : Zv hp (n + 2) (.tup (l.map .int)) = some (.tuple (l.map .int)) := Zup λ _ _ => rfl
theorem Zhf {α : Type} {k : α -> PyData} (h : ∀ x, (k x).canLay0 = true) : ∀ (l : List α), PyData.canLayAll0 (l.map k) = true
 | [] => rfl
 | x :: l => by rw [Xa, PyData.canLayAll0, h x, Zhf h l]; rfl
section
variable {hp : List MO} {fr : List PV} {E : Value -> St -> Prop}
theorem Z.L6 {x y : PV} {a : PyData} {μ : St} {Q : Bool -> St -> Prop} (h1 : Zv μ.hp 16 x = some a) (h2 : Zv μ.hp 16 y = some a) (hl : a.canLay0 = true) (h : Q true μ) : Z (Zbr .Eq x y) μ Q E := by
 refine Z.V ?_ h
 show pEq x y μ = _
 unfold pEq
 rw [h1, h2]
 try dsimp only
 rw [PySem.SeqAt.eqv_refl a hl]theorem Z.I4 {x y : PV} {a : PyData} {μ : St} {Q : Bool -> St -> Prop} (h1 : Zv μ.hp 16 x = some a) (h2 : Zv μ.hp 16 y = some a) (hl : a.canLay0 = true) (h : Q false μ) : Z (Zbr .NotEq x y) μ Q E := Z.I9 (Z.L6 h1 h2 hl h)
theorem Zwj (xs : List Int) (a : Int) : ((xs.map PyData.int).any λ y => PyData.eqv y (.int a)) = decide (a ∈ xs) := by
 rw [Bool.eq_iff_iff, any_eq_true, decide_eq_true_eq]
 constructor
 ·rintro ⟨y, hy, e⟩
  obtain ⟨b, hb, rfl⟩ := Qmm hy
  rw [PyData.eqv, beq_iff_eq] at e
  exact e ▸ hb
 ·intro h; exact ⟨.int a, mem_map.mpr ⟨a, h, rfl⟩, by rw [PyData.eqv, beq_iff_eq]⟩theorem Zx9 {x : PV} {xs : List PV} {μ : St} : pIn x (.tup xs) μ = Zf2 μ x xs := rfl
theorem Zya {x : PV} {i : Nat} {xs : List PV} {μ : St} (h : μ.hp[i]? = some (.lst xs)) : pIn x (.obj i) μ = Zf2 μ x xs := by unfold pIn; try dsimp only; rw [h]
theorem Zly {μ : St} {a : Int} {xs : List Int} : Zf2 μ (.int a) (xs.map .int) = .ok (decide (a ∈ xs)) μ := by
 unfold Zf2
 rw [Znd, Zh5 (k := PyData.int) λ _ _ => Znd]
 try dsimp only
 rw [Zwj]
theorem Z.H7 {a : Int} {xs : List Int} {μ : St} {Q : Bool -> St -> Prop} (h : Q (decide (a ∈ xs)) μ) : Z (Zbr .In (.int a) (.tup (xs.map .int))) μ Q E :=
 Z.V (f := pIn (.int a) (.tup (xs.map .int))) (Zx9.trans Zly) h
theorem Z.C8 {a : Int} {i : Nat} {xs : List Int} {μ : St} {Q : Bool -> St -> Prop} (e : μ.hp[i]? = some (.lst (xs.map .int))) (h : Q (decide (a ∈ xs)) μ) : Z (Zbr .In (.int a) (.obj i)) μ Q E :=
 Z.V (f := pIn (.int a) (.obj i)) ((Zya e).trans Zly) h
theorem Z.F7 {x y : PV} {μ : St} {Q : Bool -> St -> Prop} (h : Z (Zbr .In x y) μ (λ b μ' => Q (!b) μ') E) : Z (Zbr .NotIn x y) μ Q E := Z.I9 (f := pIn x y) h
theorem Z.F2 {op : CmpOp} {f g : PM PV} {μ : St} {Q : PV -> St -> Prop} (h : Z f μ (λ x μ' => Z g μ' (λ y μ'' => Z (Zbr op x y) μ'' (λ b μD => Q (.bool b) μD) E) E) E) : Z (Zdm op f g) μ Q E :=
 Z.H (h.mono (λ _ _ h => Z.H (h.mono (λ _ _ h => Z.C9 h) λ _ _ e => e)) λ _ _ e => e)
theorem Z.eAnd {f g : PM PV} {μ : St} {Q : PV -> St -> Prop} (h : Z f μ (λ x μ' => ∃ b, x = .bool b ∧ (b = false -> Q (.bool false) μ') ∧ (b = true -> Z g μ' Q E)) E) : Z (Mine.eAnd f g) μ Q E :=
 Z.H (h.mono (λ x μ' hh => by
  obtain ⟨b, e, h1, h2⟩ := hh
  subst e
  refine Z.H (Z.V rfl ?_)
  cases b with
  | false => exact Z.S (h1 rfl)
  | true => exact h2 rfl) λ _ _ e => e)
theorem Z.M5 {f g : PM Bool} {μ : St} {Q : Bool -> St -> Prop} (h : Z f μ (λ b μ' => match b with | true => Z g μ' Q E | false => Q false μ') E) : Z (Mine.bAnd f g) μ Q E :=
 Z.H (h.mono (λ x μ' h => by cases x with
  | true => exact h
  | false => exact Z.S h) λ _ _ e => e)
theorem Z.bOr {f g : PM Bool} {μ : St} {Q : Bool -> St -> Prop} (h : Z f μ (λ b μ' => match b with | true => Q true μ' | false => Z g μ' Q E) E) : Z (Mine.bOr f g) μ Q E :=
 Z.H (h.mono (λ x μ' h => by cases x with
  | true => exact Z.S h
  | false => exact h) λ _ _ e => e)theorem Z.F6 {b : Bool} {μ : St} {Q : Bool -> St -> Prop} (h : Q b μ) : Z (Zcs (.bool b)) μ Q E := Z.V rfl h
theorem Z.H3 {f : PM PV} {μ : St} {Q : List PV -> St -> Prop} (h : Z f μ (λ x μ' => ∃ xs, Zaa μ'.hp x = some xs ∧ xs.length <= 1000000 ∧ Q xs μ') E) : Z (Mine.argS f) μ Q E :=
 Z.H (h.mono (λ x μ' q => by obtain ⟨xs, e, hl, h⟩ := q; exact Z.H (Z.E0 (.inl e) (Z.H (Z.C5 (Qg hl) (Z.S h))))) λ _ _ e => e)
theorem Z.H5 {α : Type} {n m : Nat} {f e : PM PV} {t : PM Bool} {asg : PV -> PM Unit} {Q : PV -> St -> Prop} (pv : PV) (xs : List α) (iv gv : α -> PV) (p : α -> Bool) (hn : xs.length < n) (hlen : xs.length <= 1000000)
  (hf : Z f ⟨fr, hp⟩ (λ v μ => v = pv ∧ μ = ⟨fr, hp⟩) (λ _ _ => False)) (hget : ∀ k, k <= xs.length -> ∀ fr' z, Zaw pv ⟨fr, hp⟩ k ⟨fr', hp ++ [.lst z]⟩ = some (xs.map iv)[k]?)
  (step : ∀ (x : α) (us : List PV) (z : List PV), us.length = m -> x ∈ xs -> Z (asg (iv x)) ⟨fr ++ us, hp ++ [.lst z]⟩ (λ _ μ => Z t μ (λ b μ' => b = p x ∧ ∃ us, us.length = m ∧ μ' = ⟨fr ++ us, hp ++ [.lst z]⟩ ∧ (b = true -> Z e ⟨fr ++ us, hp ++ [.lst z]⟩ (λ v μ'' => v = gv x ∧ μ'' = ⟨fr ++ us, hp ++ [.lst z]⟩) (λ _ _ => False))) (λ _ _ => False)) (λ _ _ => False))
  (h : Q (.obj hp.length) ⟨fr, hp ++ [.lst ((xs.filter p).map gv)]⟩) : Z (Za1 n m f (Mine.tfB asg t e)) ⟨fr, hp⟩ Q E := by
 refine Z.G6 (hf.mono (λ v μ hv => ?_) λ _ _ e => e.elim)
 obtain ⟨rfl, rfl⟩ := hv
 try dsimp only
 refine Z.E9 (λ k μ => ∃ us, us.length = m ∧ μ = ⟨fr ++ us, hp ++ [.lst (((xs.take k).filter p).map gv)]⟩) xs.length (λ k μ hI hk => ?_) n 0 _ (by lia) (Q5 _) ⟨_, List.length_replicate .., rfl⟩
 obtain ⟨us, hu, rfl⟩ := hI
 rw [hget k hk, Ql]
 cases hx : xs[k]? with
 | none =>
  left
  have hk' : k = xs.length := by have := Qgn hx; exact Q3 hk this
  refine ⟨rfl, ?_⟩
  try dsimp only
  rw [hk', take_length, take_left]
  exact h
 | some x =>
  right
  have hlt := (Qgl hx)
  refine ⟨hlt, iv x, rfl, Z.M6 ((step x us _ hu (Qm hx)).mono (λ _ μ hs => hs.mono (λ b μ' hb => ?_) λ _ _ e => e.elim) λ _ _ e => e.elim)⟩
  obtain ⟨hb, us', hu', rfl, he⟩ := hb
  have et : xs.take (k + 1) = xs.take k ++ [x] := by rw [Xe hlt, (Qge hx)]
  cases b with
  | true =>
   refine Z.I5 ((he rfl).mono (λ v μ'' hv => ?_) λ _ _ e => e.elim)
   obtain ⟨rfl, rfl⟩ := hv
   refine ⟨_, Z7, ?_, us', hu', ?_⟩
   ·rw [Qd]
    exact Qkkk (length_filter_le _ _) (length_take_le' _ _) hlen
   ·try dsimp only
    rw [Zf7, et, filter_append, Xi, filter_cons, Qo hb.symm]
    rfl
  | false =>
   refine ⟨us', hu', ?_⟩
   rw [et, filter_append, filter_cons, Qq (by rw [<- hb]; exact Qt), List.filter_nil, append_nil]
end
set_option backward.eqns.nonrecursive false
def Zbw (ts : Ed) : List Int -> List Int -> List Int
 | _, [] => []
 | D, b :: bs => Zew ts (D ++ [b]) b ++ Zbw ts (D ++ [b]) bs
set_option backward.eqns.nonrecursive true
theorem Zpy {ts : Ed} {D bs : List Int} {b : Int} : Zbw ts D (b :: bs) = Zew ts (D ++ [b]) b ++ Zbw ts (D ++ [b]) bs := rfl
theorem Zky {ts : Ed} {D : List Int} : Zbw ts D [] = [] := rfl
theorem Kn.doneAll {ns : List Int} {ts : Ed} : ∀ (bs : List Int) {T : TSt} {O D rd : List Int}, Kn ns ts T O D rd -> bs.Nodup -> (∀ b ∈ bs, b ∈ O ∧ b ∉ D) -> Kn ns ts (bs.foldl Zca T) O (D ++ bs) (rd ++ Zbw ts D bs)
 | [] => λ K _ _ => by simpa [Zky] using K
 | b :: bs => λ K hn h => by
  rw [nodup_cons] at hn
  have h1 := h b Q0
  have ih := Kn.doneAll bs (K.done h1.1 h1.2) hn.2 λ c hc => ⟨(h c (Qv _ hc)).1, λ q => by
   rcases Qma q with q | q
   ·exact (h c (Qv _ hc)).2 q
   ·rw [Qz] at q; subst q; exact hn.1 hc⟩
  rw [Zpy, foldl_cons]
  rw [append_assoc, append_assoc] at ih
  exact ih
theorem Kn.scLen {ns : List Int} {ts : Ed} {T : TSt} {O D rd : List Int} (K : Kn ns ts T O D rd) (q : Int) : (T.sc q).length <= ts.length := by
 rw [K.sc]
 unfold scL
 rw [Qd]
 exact length_filter_le _ _
theorem Kn.rdLen {ns : List Int} {ts : Ed} {T : TSt} {O D rd : List Int} (K : Kn ns ts T O D rd) : rd.length <= ns.length := Z4 K.rnd λ a h => ((K.rm a).mp h).1
theorem Kn.scIn {ns : List Int} {ts : Ed} {T : TSt} {O D rd : List Int} (K : Kn ns ts T O D rd) {a : Int} : ∀ s ∈ T.sc a, s ∈ T.order := λ s hs => by
 rw [K.sc, Zed] at hs
 rw [K.order]
 exact (K.tin _ hs).2
section
variable {hp : List MO} {o : Nat} {T : TSt} {ly : Lay} {fr : List PV} {E : Value -> St -> Prop} {ns : List Int} {ts : Ed} {O D rd : List Int}
theorem Zpz {f : Int -> Nat} {m : Nat} (h : ∀ a, f a <= m) : ∀ (l : List Int), (l.map f).sum <= l.length * m
 | [] => by simp
 | a :: l => by
  rw [Xa, sum_cons, Xd, Nat.succ_mul, Nat.add_comm]
  exact Nat.add_le_add (Zpz h l) (h a)
theorem Zuq (S : SAt d hp o T ly) (K : Kn ns ts T O D rd) (hnl : ns.length <= 100) {Q : PV -> St -> Prop}
  (h : ∀ hp' T', SAt d hp' o T' ly -> Kn ns ts T' (O ++ rd) D [] -> Zbi o T ly hp hp' -> (∀ i, Fp o T' ly i ↔ Fp o T ly i) -> Q (.tup (rd.map .int)) ⟨fr, hp'⟩) : Z (Zcw d [.obj o]) ⟨fr, hp⟩ Q E := by
 have hl := K.rdLen
 refine Zpo S K.ready (λ a ha => by rw [K.order]; exact ((K.rm a).mp ha).1) (Qkkb hl hnl rfl) λ hp' S' s' => h hp' _ S' K.get s' λ i => Zl5 (T := T) (T' := getT T rd) rfl ?_ i
 rw [K.ready]
 exact ⟨(λ e => nomatch e), λ e => nomatch e⟩
theorem Zp0 (S : SAt d hp o T ly) (K : Kn ns ts T O D rd) (hnl : ns.length <= 100) (htl : ts.length <= 1000) (xs bs : List Int) (hxn : xs.Nodup) (hx : ∀ b ∈ xs, b ∈ O ∧ b ∉ D) (hbl : bs.length <= 100) (hbad : ∀ b ys, bs = b :: ys -> Nat.blt b.natAbs.log2 64 = true ∧ ¬ (b ∈ O ∧ b ∉ D ++ xs)) {Q : PV -> St -> Prop}
  (h : ∀ hp' T', SAt d hp' o T' ly -> Kn ns ts T' O (D ++ xs) (rd ++ Zbw ts D xs) -> Zbi o T ly hp hp' -> (∀ i, Fp o T' ly i ↔ Fp o T ly i) -> (bs = [] -> Q .none ⟨fr, hp'⟩) ∧ (bs ≠ [] -> E (.type "ValueError") ⟨fr, hp'⟩)) : Z (Zgh d (.obj o :: (xs ++ bs).map .int)) ⟨fr, hp⟩ Q E := by
 have hl := K.rdLen
 have hxl : xs.length <= ns.length := Z4 hxn λ b q => K.oN b (hx b q).1
 have hs := Zpz (f := λ a => (T.sc a).length) K.scLen xs
 have hr : T.ready ≠ none := by rw [K.ready]; exact Option.some_ne_none _
 have K' := K.doneAll xs hxn hx
 refine Zx0 S xs bs hr ?_ (by lia) (λ k a hk => ?_) (λ b ys e => ?_) λ hp' S' s' => h hp' _ S' K' s' λ i => Zl5 ?_ ?_ i
 ·have e : Zd5 T = rd.length := by unfold Zd5; rw [K.ready]; rfl
  exact e ▸ Qkb (Nat.add_le_add (Qkk hl hnl) (Qkk hs (Nat.mul_le_mul (Qkk hxl hnl) htl))) rfl
 ·have ha := Qm hk
  have hlt := (Qgl hk)
  have Kp := K.doneAll (xs.take k) (hxn.sublist (List.take_sublist _ _)) λ b q => hx b (List.mem_of_mem_take q)
  refine ⟨by rw [K.order]; exact K.oN a (hx a ha).1, ?_, K.scIn⟩
  rw [Kp.np a (K.oN a (hx a ha).1), Qq, Qo (hx a ha).1]
  intro q
  rcases Qma q with q | q
  ·exact (hx a ha).2 q
  ·have nn := hxn
   rw [<- take_append_drop k xs, nodup_append] at nn
   refine nn.2.2 a q a ?_ rfl
   rw [List.drop_eq_getElem_cons hlt, (Qge hk)]
   exact Q0
 ·obtain ⟨z1, z2⟩ := hbad b ys e
  refine ⟨z1, λ hb => ?_⟩
  rw [K.order] at hb
  rw [K'.np b hb]
  by_cases q : b ∈ D ++ xs
  ·rw [Qo q]; exact .inr rfl
  ·rw [Qq q, Qq λ ho => z2 ⟨ho, q⟩]; exact .inl (Int.natCast_nonneg _)
 ·rw [K'.order, K.order]
 ·rw [K'.ready, K.ready]; exact ⟨(λ e => nomatch e), λ e => nomatch e⟩
end
end
end Mine
namespace Mine
noncomputable section

noncomputable def tlP (ts : Ed) (p : Nat) : Int := (ts.getD p (0, 0)).1
noncomputable def hdP (ts : Ed) (p : Nat) : Int := (ts.getD p (0, 0)).2
noncomputable def plc (ts : Ed) (a : Int) : List Nat := (List.range ts.length).filter λ p => hdP ts p == a
noncomputable def plt (ts : Ed) (a : Int) : List Nat := (List.range ts.length).filter λ p => tlP ts p == a
noncomputable def kst (ts : Ed) (D : List Int) (c : Int × Int) (p : Nat) : Int × Int := if c.1 <= D.idxOf (tlP ts p) then (D.idxOf (tlP ts p), p) else c
noncomputable def kof (N : List Int) (ts : Ed) (D : List Int) (a : Int) : Int × Int := (plc ts a).foldl (kst ts D) (-1, N.idxOf a)noncomputable def kz (N : List Int) (ts : Ed) (D : List Int) (a : Int) : Int := (kof N ts D a).1 * 100000 + (kof N ts D a).2
theorem neg1 (n : Nat) : (-1 : Int) < n := Int.lt_of_lt_of_le (by decide) (Int.natCast_nonneg n)
theorem lexZ {x y u v : Int} (h : x < y) (hu : u < 100000) (hv : 0 <= v) : x * 100000 + u < y * 100000 + v :=
 have q := Int.mul_le_mul_of_nonneg_right (c := 100000) (Int.add_one_le_of_lt h) (by decide)
 Int.lt_of_lt_of_le (Int.add_lt_add_left hu _) (Int.le_trans (by rwa [Int.add_mul, Int.one_mul] at q) (Int.le_add_of_nonneg_right hv))
theorem Zfj {α β : Type} {f : β -> α -> β} {P : β -> Prop} : ∀ {l : List α} {b : β}, (∀ c p, p ∈ l -> P c -> P (f c p)) -> P b -> P (l.foldl f b)
 | [] => λ _ h => h
 | x :: l => λ k h => Zfj (l := l) (λ c p hp => k c p (Qv _ hp)) (k _ x Q0 h)
theorem Zlz {α β : Type} {f g : β -> α -> β} : ∀ {l : List α} {b : β}, (∀ c p, p ∈ l -> f c p = g c p) -> l.foldl f b = l.foldl g b
 | [] => λ _ => rfl
 | x :: l => λ k => by
  rw [foldl_cons, foldl_cons, k _ x Q0]
  exact Zlz λ c p hp => k c p (Qv _ hp)
section
variable {N : List Int} {ts : Ed} {D : List Int} {a b : Int}
theorem at_P {p : Nat} (h : p < ts.length) : ts[p]? = some (tlP ts p, hdP ts p) := by
 unfold tlP hdP
 rw [Xc, Q2 h]; rfl
theorem mem_P {p : Nat} (h : p < ts.length) : (tlP ts p, hdP ts p) ∈ ts := Qm (at_P h)
theorem Zhg {p : Nat} : p ∈ plc ts a ↔ p < ts.length ∧ hdP ts p = a := by
 unfold plc
 rw [mem_filter, mem_range, beq_iff_eq]
theorem Zru {p : Nat} : p ∈ plt ts a ↔ p < ts.length ∧ tlP ts p = a := by
 unfold plt
 rw [mem_filter, mem_range, beq_iff_eq]
theorem Zhh {p : Nat} (h : p ∈ plc ts a) : (tlP ts p, a) ∈ ts := by
 obtain ⟨h1, h2⟩ := Zhg.mp h
 exact h2 ▸ mem_P h1
theorem Zrv : (plt ts b).Pairwise (· < ·) := List.Pairwise.filter _ List.pairwise_lt_range
theorem Zwk (ts : Ed) : (List.range ts.length).map (λ p => (tlP ts p, hdP ts p)) = ts := by
 refine ext_getElem (by simp) λ i h1 h2 => ?_
 rw [getElem_map, List.getElem_range]
 have := at_P h2
 rw [Q2 h2] at this
 exact (Option.some.inj this).symm
theorem Zyb : scL ts b = (plt ts b).map (hdP ts) := by
 unfold scL plt
 conv => lhs; rw [<- Zwk ts]
 rw [List.filter_map, map_map]
 simp [Function.comp_def]
theorem Zyc (h : Zd1 ts D a) : kof N ts (D ++ [b]) a = kof N ts D a := by
 unfold kof
 refine Zlz λ c p hp => ?_
 unfold kst
 rw [idxOf_append.trans (Qo (h _ (Zhh hp)))]
theorem Zy8 (h : Zd1 ts D a) : (kof N ts D a).1 < D.length := by
 unfold kof
 refine Zfj (P := λ c : Int × Int => c.1 < D.length) (λ c p hp hc => ?_) (neg1 _)
 unfold kst
 split
 ·exact Qcl (idxOf_lt_length_iff.mpr (h _ (Zhh hp)))
 ·exact hc
theorem Zh6 (h1 : N.length <= 1000) (h2 : ts.length <= 1000) : 0 <= (kof N ts D a).2 ∧ (kof N ts D a).2 < 100000 := by
 unfold kof
 refine Zfj (P := λ c : Int × Int => 0 <= c.2 ∧ c.2 < 100000) (λ c p hp hc => ?_) ?_
 ·unfold kst
  split
  ·exact ⟨Int.natCast_nonneg _, Qcl (Qll (Zhg.mp hp).1 (Qkb h2 rfl : _ <= 100000))⟩
  ·exact hc
 ·exact ⟨Int.natCast_nonneg _, Qcl (Qlb (Qkk (List.idxOf_le_length (a := a) (l := N)) h1) rfl : _ < 100000)⟩
set_option backward.eqns.nonrecursive false
noncomputable def Zex (f : Nat -> Int) : List Nat -> List Nat
 | [] => []
 | p :: L => match decide (f p ∈ L.map f) with
  | true => Zex f L
  | false => p :: Zex f L
set_option backward.eqns.nonrecursive true
theorem Zml {f : Nat -> Int} {p : Nat} {L : List Nat} : Zex f (p :: L) = (match decide (f p ∈ L.map f) with | true => Zex f L | false => p :: Zex f L) := rfl
theorem Zkn {f : Nat -> Int} : ∀ (L : List Nat), Zb2 (L.map f) = (Zex f L).map f
 | [] => rfl
 | p :: L => by
  rw [Xa, Zgy, Zml, Zkn L]
  cases decide (f p ∈ L.map f) <;> rfl
theorem Zfk {f : Nat -> Int} : ∀ (L : List Nat), (Zex f L).Sublist L
 | [] => List.Sublist.refl _
 | p :: L => by
  rw [Zml]
  cases decide (f p ∈ L.map f) with
  | true => exact (Zfk L).cons p
  | false => exact (Zfk L).cons_cons p
theorem Zl0 {f : Nat -> Int} : ∀ {L : List Nat}, L.Pairwise (· < ·) -> ∀ {p q : Nat}, p ∈ Zex f L -> q ∈ L -> p < q -> f q ≠ f p
 | [] => λ _ p q h _ _ => by cases h
 | x :: L => λ hL p q h hq hlt => by
  rw [List.pairwise_cons] at hL
  have key : p ∈ Zex f L -> f q ≠ f p := λ h => by
   rcases Qmc hq with e | hq
   ·exact (Nat.lt_asymm (hL.1 p ((Zfk L).subset h)) (e ▸ hlt)).elim
   ·exact Zl0 hL.2 h hq hlt
  rw [Zml] at h
  cases hd : decide (f x ∈ L.map f) with
  | true => rw [hd] at h; exact key h
  | false =>
   rw [hd] at h
   rcases Qmc h with rfl | h
   ·rcases Qmc hq with rfl | hq
    ·exact Qe hlt (Q6 _)
    ·exact λ e => of_decide_eq_false hd (e ▸ mem_map_of_mem hq)
   ·exact key h
theorem Zmm {p : Nat} (hb : b ∉ D) (hp : p ∈ Zex (hdP ts) (plt ts b)) (h : Zd1 ts (D ++ [b]) (hdP ts p)) : kof N ts (D ++ [b]) (hdP ts p) = (((D.length : Nat) : Int), ((p : Nat) : Int)) := by
 obtain ⟨hpl, hpt⟩ := Zru.mp ((Zfk _).subset hp)
 have at_b : (D ++ [b]).idxOf b = D.length := by rw [idxOf_append.trans (Qq hb), List.idxOf_cons_self, Nat.zero_add]
 have e : ts.length = (p + 1) + (ts.length - (p + 1)) := (Nat.add_sub_of_le hpl).symm
 have e1 : (plc ts (hdP ts p)) = ((List.range p).filter λ q => hdP ts q == hdP ts p) ++ p :: (((List.range (ts.length - (p + 1))).map (p + 1 + ·)).filter λ q => hdP ts q == hdP ts p) := by
  unfold plc
  conv => lhs; rw [e, List.range_add, List.range_succ]
  simp
 have sub : ∀ q, q ∈ plc ts (hdP ts p) -> tlP ts q ∈ D ++ [b] := λ q hq => h _ (Zhh hq)
 unfold kof
 rw [e1] at sub ⊢
 rw [List.foldl_append, foldl_cons]
 have k1 : (((List.range p).filter λ q => hdP ts q == hdP ts p).foldl (kst ts (D ++ [b])) (-1, ((N.idxOf (hdP ts p) : Nat) : Int))).1 <= D.length := by
  refine Zfj (P := λ c : Int × Int => c.1 <= D.length) (λ c q hq hc => ?_) (Int.le_of_lt (neg1 _))
  unfold kst
  split
  ·have := idxOf_lt_length_iff.mpr (sub q (Xh _ hq))
   rw [Qk, length_singleton] at this
   exact Qck (Nat.le_of_lt_succ this)
  ·exact hc
 generalize (((List.range p).filter λ q => hdP ts q == hdP ts p).foldl (kst ts (D ++ [b])) (-1, ((N.idxOf (hdP ts p) : Nat) : Int))) = c at k1 ⊢
 have k2 : kst ts (D ++ [b]) c p = ((D.length : Int), (p : Int)) := by
  unfold kst
  rw [hpt, at_b, Qo k1]
 rw [k2]
 refine Zfj (P := λ c : Int × Int => c = ((D.length : Int), (p : Int))) (λ c q hq hc => ?_) rfl
 subst hc
 obtain ⟨hq1, hq2⟩ := mem_filter.mp hq
 obtain ⟨i, hi, rfl⟩ := Qmm hq1
 rw [mem_range] at hi
 have hq3 := eq_of_beq hq2
 have hin := sub (p + 1 + i) (mem_append_right _ (Qv _ hq))
 have hne : tlP ts (p + 1 + i) ≠ b := λ e => Zl0 Zrv hp (Zru.mpr ⟨Nat.add_lt_of_lt_sub' hi, e⟩) (Nat.lt_of_lt_of_le (Nat.lt_succ_self p) (Nat.le_add_right _ _)) hq3
 have hD : tlP ts (p + 1 + i) ∈ D := (Qma hin).resolve_right λ q => hne (Qms q)
 unfold kst
 rw [idxOf_append.trans (Qo hD), Qq]
 exact Int.not_le.mpr (Qcl (idxOf_lt_length_iff.mpr hD))abbrev Kq (N : List Int) (ts : Ed) (D rd : List Int) : Prop := rd.Pairwise λ a b => kz N ts D a < kz N ts D b
theorem kz_lt (h1 : N.length <= 1000) (h2 : ts.length <= 1000) {x y : Int} (h : (kof N ts D x).1 < (kof N ts D y).1) : kz N ts D x < kz N ts D y := by
 have k1 := Zh6 (D := D) (a := x) h1 h2
 have k2 := Zh6 (D := D) (a := y) h1 h2
 exact lexZ h k1.2 k2.1
theorem Zyd {N : List Int} (h : N.Nodup) : N.Pairwise λ a b => N.idxOf a < N.idxOf b := by
 rw [List.pairwise_iff_getElem]
 intro i j hi hj hij
 rw [h.idxOf_getElem i hi, h.idxOf_getElem j hj]
 exact hij
theorem Zp1 (h : Zd1 ts [] a) : kof N ts [] a = ((-1 : Int), ((N.idxOf a : Nat) : Int)) := by
 unfold kof
 have e : plc ts a = [] := by
  rw [List.eq_nil_iff_forall_not_mem]
  exact λ p hp => not_mem_nil (h _ (Zhh hp))
 rw [e]; rfl
theorem Kq.start (h : N.Nodup) : Kq N ts [] (N.filter λ a => cnt ts [] a == 0) := by
 unfold Kq
 rw [List.pairwise_filter]
 refine (Zyd h).imp λ {a b} hab ha hb => ?_
 rw [beq_iff_eq, Ze4] at ha hb
 unfold kz
 rw [Zp1 ha, Zp1 hb]
 exact Int.add_lt_add_left (Qcl hab) _
theorem Kq.done {rd : List Int} (h1 : N.length <= 1000) (h2 : ts.length <= 1000) (hb : b ∉ D) (hr : ∀ a ∈ rd, Zd1 ts D a) (K : Kq N ts D rd) : Kq N ts (D ++ [b]) (rd ++ Zew ts (D ++ [b]) b) := by
 unfold Kq
 have old : ∀ a ∈ rd, kof N ts (D ++ [b]) a = kof N ts D a := λ a ha => Zyc (hr a ha)
 have eN : Zew ts (D ++ [b]) b = ((Zex (hdP ts) (plt ts b)).map (hdP ts)).filter λ a => cnt ts (D ++ [b]) a == 0 := by
  unfold Zew
  rw [Zyb, Zkn]
 have new : ∀ a ∈ Zew ts (D ++ [b]) b, (kof N ts (D ++ [b]) a).1 = D.length := λ a ha => by
  rw [eN, mem_filter, beq_iff_eq, Ze4] at ha
  obtain ⟨p, hp, rfl⟩ := Qmm ha.1
  rw [Zmm hb hp ha.2]
 refine List.pairwise_append.mpr ⟨K.imp_of_mem λ {x y} hx hy h => ?_, ?_, λ x hx y hy => kz_lt h1 h2 ?_⟩
 ·unfold kz at h ⊢
  rw [old x hx, old y hy]; exact h
 ·rw [eN, List.pairwise_filter, pairwise_map]
  refine (Zrv.sublist (Zfk _)).imp_of_mem λ {p q} hp hq hpq ha hb' => ?_
  rw [beq_iff_eq, Ze4] at ha hb'
  unfold kz
  rw [Zmm hb hp ha, Zmm hb hq hb']
  exact Int.add_lt_add_left (Qcl hpq) _
 ·rw [old x hx, new y hy]
  exact Zy8 (hr x hx)
end
end
end Mine
namespace Mine
open PySem PySem.W PyProof.Rows
noncomputable section

section
variable {N : List Int} {ts : Ed} {D O rd : List Int} {T : TSt} {a b : Int}
theorem Zy9 (h : (b, a) ∈ ts) : ∃ p, p ∈ plc ts a ∧ tlP ts p = b := by
 obtain ⟨p, hp⟩ := List.getElem?_of_mem h
 have hl := (Qgl hp)
 have e := (at_P hl).symm.trans hp
 cases e
 exact ⟨p, Zhg.mpr ⟨hl, rfl⟩, rfl⟩noncomputable def frD (ts : Ed) (D : List Int) (a : Int) : Bool := (plc ts a).all λ p => decide (tlP ts p ∈ D)
theorem Zrw : frD ts D a = true ↔ Zd1 ts D a := by
 unfold frD
 rw [all_eq_true]
 constructor
 ·intro h q hq
  obtain ⟨p, hp, rfl⟩ := Zy9 hq
  exact Qh (h p hp)
 ·intro h p hp
  exact Qg (h _ (Zhh hp))noncomputable def cnd (ts : Ed) (O D : List Int) (a : Int) : Bool := !decide (a ∈ O) && frD ts D a
noncomputable def trI (N : List Int) (ts : Ed) (D : List Int) (a : Int) : I3 := ((kof N ts D a).1, (kof N ts D a).2, a)noncomputable def trV (N : List Int) (ts : Ed) (D : List Int) (a : Int) : PV := .tup [.int (kof N ts D a).1, .int (kof N ts D a).2, .int a]
theorem Zye : a ∈ N.filter (cnd ts O D) ↔ a ∈ N ∧ a ∉ O ∧ Zd1 ts D a := by
 rw [mem_filter]
 unfold cnd
 rw [Q7, Zrw, Bool.not_eq_true', decide_eq_false_iff_not]
theorem Zza (h1 : N.length <= 1000) (h2 : ts.length <= 1000) (h : kz N ts D a = kz N ts D b -> a = b) : ltT (trI N ts D a) (trI N ts D b) = decide (kz N ts D a < kz N ts D b) := by
 have k1 := Zh6 (D := D) (a := a) h1 h2
 have k2 := Zh6 (D := D) (a := b) h1 h2
 unfold ltT trI
 try dsimp only
 unfold kz at h ⊢
 generalize kof N ts D a = x at h k1 ⊢
 generalize kof N ts D b = y at h k2 ⊢
 by_cases e1 : x.1 = y.1
 ·rw [Qo e1]
  by_cases e2 : x.2 = y.2
  ·rw [Qo e2, Qo (h (by rw [e1, e2])), e1, e2]
   exact (Q8 (Int.lt_irrefl _)).symm
  ·rw [Qq e2, e1]
   exact decide_eq_decide.mpr (Int.add_lt_add_iff_left _).symm
 ·rw [Qq e1]
  rcases Int.lt_or_gt_of_ne e1 with h | h
  ·rw [Qg h, Qg (lexZ h k1.2 k2.1)]
  ·rw [Q8 (Int.not_lt.mpr (Int.le_of_lt h)), Q8 (Int.not_lt.mpr (Int.le_of_lt (lexZ h k2.2 k1.1)))]
theorem Zyf (KS : Zdg) (K : Kn N ts T O D rd) (q : Kq N ts D rd) (h1 : N.length <= 60) (h2 : ts.length <= 1000) : sortT ((N.filter (cnd ts O D)).map (trI N ts D)) ((N.filter (cnd ts O D)).map (trV N ts D)) = rd.map (trV N ts D) := by
 have pm : (N.filter (cnd ts O D)).Perm rd := (List.perm_ext_iff_of_nodup (K.nnd.sublist filter_sublist) K.rnd).mpr λ x => by rw [Zye, K.rm]
 have hl : (N.filter (cnd ts O D)).length <= N.length := length_filter_le _ _
 generalize N.filter (cnd ts O D) = ds at pm hl ⊢
 have ndr : (rd.map (kz N ts D)).Nodup := by
  unfold List.Nodup
  rw [pairwise_map]
  exact q.imp λ {x y} (h : kz N ts D x < kz N ts D y) => Int.ne_of_lt h
 have nd : (ds.map (kz N ts D)).Nodup := (pm.map _).nodup_iff.mpr ndr
 have inj : ∀ x ∈ ds, ∀ y ∈ ds, kz N ts D x = kz N ts D y -> x = y := λ x hx y hy e => by
  obtain ⟨i, hi, rfl⟩ := List.getElem_of_mem hx
  obtain ⟨j, hj, rfl⟩ := List.getElem_of_mem hy
  have : i = j := (getElem_inj (h₀ := by rw [Qd]; exact hi) (h₁ := by rw [Qd]; exact hj) nd).mp (by rw [getElem_map, getElem_map]; exact e)
  subst this; rfl
 obtain ⟨es, e1, e2, e3⟩ := Zwi KS (0 : Int) (trV N ts D) (kz N ts D) (ansT (ds.map (trI N ts D))) ds (Qlb (Qkk hl h1) rfl) nd λ i j hi hj => by
  have at' : ∀ i, i < ds.length -> (ds.map (trI N ts D)).getD i (0, 0, 0) = trI N ts D (ds.getD i 0) ∧ ds.getD i 0 ∈ ds := λ i hi => by
   rw [Xc, Xc, Ql, Q2 hi]
   exact ⟨rfl, getElem_mem hi⟩
  unfold ansT
  rw [(at' i hi).1, (at' j hj).1]
  exact Zza (Qkb h1 rfl) h2 (inj _ (at' i hi).2 _ (at' j hj).2)
 unfold sortT
 rw [e1, Zlw (r := λ a b => kz N ts D a < kz N ts D b) (λ a b h k => Int.lt_irrefl _ (Int.lt_trans h k)) e3 q λ x => (e2.trans pm).mem_iff]
theorem Zur : ∀ l : List Int, Za2 trOf (l.map (trV N ts D)) = some (l.map (trI N ts D))
 | [] => rfl
 | x :: l => by
  rw [Xa, Zc3]
  show (Za2 trOf (l.map (trV N ts D))).map _ = _
  rw [Zur l]; rfl
end
structure Up (hp hp' : List MO) : Prop where
 len : hp.length <= hp'.length
 old : ∀ i, i < hp.length -> hp'[i]? = hp[i]?
section
variable {hp hp' hp'' : List MO}theorem Up.refl : Up hp hp := ⟨Qr, λ _ _ => rfl⟩theorem Up.trans (h : Up hp hp') (k : Up hp' hp'') : Up hp hp'' := ⟨Qj h.len k.len, λ i hi => (k.old i (Nat.lt_of_lt_of_le hi h.len)).trans (h.old i hi)⟩theorem Up.app (h : Up hp hp') {l : List MO} : Up hp (hp' ++ l) := ⟨by rw [Qk]; exact Qj h.len (Nat.le_add_right _ _), λ i hi => (Qc (Nat.lt_of_lt_of_le hi h.len)).trans (h.old i hi)⟩theorem Up.set (h : Up hp hp') {i : Nat} {v : MO} (hi : hp.length <= i) : Up hp (hp'.set i v) := ⟨by rw [length_set]; exact h.len, λ j hj => (Qf (λ e : i = j => Qi hi (e ▸ hj))).trans (h.old j hj)⟩theorem Up.at {i : Nat} {x : MO} (h : Up hp hp') (e : hp[i]? = some x) : hp'[i]? = some x := (h.old i (Qgl e)).trans e
end
section
variable {hp : List MO} {fr : List PV} {E : Value -> St -> Prop} {ts : Ed} {t : Nat}
theorem Z.rdP (ht : hp[t]? = some (.lst (ts.map Zc1))) (hl : ts.length <= 1000) {p : Nat} (hp' : p < ts.length) {j : Nat} {z : Int} (ez : z = p) (e1 : fr[1]? = some (.obj t)) (ej : fr[j]? = some (.int z)) {Q : PV -> St -> Prop} (h : Q (Zc1 (tlP ts p, hdP ts p)) ⟨fr, hp⟩) : Z (Za5 (Za 1) (Za j)) ⟨fr, hp⟩ Q E :=
 Z.D0 (Z.B e1 rfl (Z.B ej rfl (Z.E3 ez (.inl (Zx ht)) (by rw [Ql, at_P hp']; rfl) (by rw [Qd]; exact Qkb hl rfl) h)))
theorem Z.tl (ht : hp[t]? = some (.lst (ts.map Zc1))) (hl : ts.length <= 1000) {p : Nat} (hp' : p < ts.length) {j : Nat} {z : Int} (ez : z = p) (e1 : fr[1]? = some (.obj t)) (ej : fr[j]? = some (.int z)) {Q : PV -> St -> Prop} (h : Q (.int (tlP ts p)) ⟨fr, hp⟩) : Z (Za5 (Za5 (Za 1) (Za j)) (Pure.pure (.int 0))) ⟨fr, hp⟩ Q E :=
 Z.D0 (Z.rdP ht hl hp' ez e1 ej (Z.B6 (Z.E3 (k := 0) rfl (.inr rfl) rfl (show 2 <= 1000000 by decide) h)))
theorem Z.hd (ht : hp[t]? = some (.lst (ts.map Zc1))) (hl : ts.length <= 1000) {p : Nat} (hp' : p < ts.length) {j : Nat} {z : Int} (ez : z = p) (e1 : fr[1]? = some (.obj t)) (ej : fr[j]? = some (.int z)) {Q : PV -> St -> Prop} (h : Q (.int (hdP ts p)) ⟨fr, hp⟩) : Z (Za5 (Za5 (Za 1) (Za j)) (Pure.pure (.int 1))) ⟨fr, hp⟩ Q E :=
 Z.D0 (Z.rdP ht hl hp' ez e1 ej (Z.B6 (Z.E3 (k := 1) rfl (.inr rfl) rfl (show 2 <= 1000000 by decide) h)))theorem Z.N3 {i j : Int} {μ : St} {Q : Bool -> St -> Prop} (h : Q (decide (i ≥ j)) μ) : Z (Zbr .GtE (.int i) (.int j)) μ Q E := Z.V rfl h
theorem Z.gtI {i j : Int} {μ : St} {Q : Bool -> St -> Prop} (h : Q (decide (i > j)) μ) : Z (Zbr .Gt (.int i) (.int j)) μ Q E := Z.V rfl h
theorem Z.M4 {x : PV} {D : List Int} {k : Nat} (hx : Zaa hp x = some (D.map .int)) (hv : uq x = false) (ek : fr[k]? = some x) (hl : D.length <= 1000) {a : Int} (ha : a ∈ D) {g : PM PV} (hg : ∀ {Q : PV -> St -> Prop}, Q (.int a) ⟨fr, hp⟩ -> Z g ⟨fr, hp⟩ Q E) {Q : PV -> St -> Prop} (h : Q (.int (D.idxOf a : Nat)) ⟨fr, hp⟩) : Z (Zgq (Za k) (Zd g (Pure.pure []))) ⟨fr, hp⟩ Q E :=
 Z.K8 (Z.B ek hv ⟨D, a, hx, Z.W (hg ⟨hx, rfl, ha, Qkb hl rfl, h⟩)⟩)
theorem Z.M7 {x : PV} {xs : List PV} {ds : List I3} (e : Zaa hp x = some xs) (ed : Za2 trOf xs = some ds) (hl : xs.length < 64) {Q : PV -> St -> Prop} (h : Q (.lst (Mine.sortT ds xs)) ⟨fr, hp⟩) : Z (Zqc [x]) ⟨fr, hp⟩ Q E := by
 refine Z.H (Z.V (a := (xs, ds)) (μ' := ⟨fr, hp⟩) ?_ (Z.H (Z.C5 (Qg hl) (Z.S h))))
 unfold trsM
 try dsimp only
 rw [e]; try dsimp only
 rw [ed]
end
section
variable {hp : List MO} {fr : List PV} {E : Value -> St -> Prop} {N : List Int} {ts : Ed} {D O rd : List Int} {T : TSt} {n t o f r pl : Nat}
inductive Lp4 (n t o f r pl : Nat) (N : List Int) (ts : Ed) (D : List Int) (a : Int) (hp : List MO) (k : Nat) : St -> Prop
 | mk {v6 : PV} : Lp4 n t o f r pl N ts D a hp k ⟨[.obj n, .obj t, .obj o, .obj f, .obj r, .int a, v6, .obj pl, .int (((plc ts a).take k).foldl (kst ts D) (-1, N.idxOf a)).1, .int (((plc ts a).take k).foldl (kst ts D) (-1, N.idxOf a)).2], hp⟩
theorem Zwl (ht : hp[t]? = some (.lst (ts.map Zc1))) (hf : hp[f]? = some (.lst (D.map .int))) (hl : ts.length <= 1000) (hd : D.length <= 1000) {a : Int} (hin : Zd1 ts D a) {k p : Nat} (hk : (plc ts a)[k]? = some p) {c : Int × Int} {z : Int} (ez : z = p) {Q : MF -> St -> Prop}
  (h : Q .next ⟨[.obj n, .obj t, .obj o, .obj f, .obj r, .int a, .int z, .obj pl, .int (kst ts D c p).1, .int (kst ts D c p).2], hp⟩) :
  Z (Zfo d) ⟨[.obj n, .obj t, .obj o, .obj f, .obj r, .int a, .int z, .obj pl, .int c.1, .int c.2], hp⟩ Q E := by
 have hm := Qm hk
 have hlt := (Zhg.mp hm).1
 have ix : ∀ {fr : List PV} {Q : PV -> St -> Prop}, fr[1]? = some (.obj t) -> fr[6]? = some (.int z) -> fr[3]? = some (.obj f) -> Q (.int (D.idxOf (tlP ts p) : Nat)) ⟨fr, hp⟩ -> Z (Zgq (Za 3) (Zd (Za5 (Za5 (Za 1) (Za 6)) (Pure.pure (.int 0))) (Pure.pure []))) ⟨fr, hp⟩ Q E := λ e1 e2 e3 h =>
  Z.M4 (Zx hf) rfl e3 hd (hin _ (Zhh hm)) (λ h => Z.tl ht hl hlt ez e1 e2 h) h
 unfold Zfo
 refine Z.J (Z.A2 (Z.l (ix rfl rfl rfl (Z.B (v := .int c.1) rfl rfl (Z.N3 ?_)))))
 unfold kst at h
 by_cases q : c.1 <= D.idxOf (tlP ts p)
 ·rw [Qg q]
  rw [Qo q, <- ez] at h
  exact Z.J (Z.i (ix rfl rfl rfl (Z.I (Z.J (Z.i (Z.B (v := .int z) rfl rfl (Z.I (Z.L (Z.L h)))))))))
 ·rw [Q8 q]
  rw [Qq q] at h
  exact Z.L (Z.L h)
end

section
variable {hp : List MO} {fr : List PV} {E : Value -> St -> Prop} {N : List Int} {ts : Ed} {D O rd : List Int} {T : TSt} {n t o f : Nat}
structure Ls (hp : List MO) (n t o f : Nat) (N : List Int) (ts : Ed) (O D : List Int) : Prop where
 n : hp[n]? = some (.lst (N.map .int))
 t : hp[t]? = some (.lst (ts.map Zc1))
 o : hp[o]? = some (.lst (O.map .int))
 f : hp[f]? = some (.lst (D.map .int))theorem Ls.up {hp' : List MO} (L : Ls hp n t o f N ts O D) (u : Up hp hp') : Ls hp' n t o f N ts O D := ⟨u.at L.n, u.at L.t, u.at L.o, u.at L.f⟩
inductive Lr4 (n t o f : Nat) (N : List Int) (ts : Ed) (O D : List Int) (hp : List MO) (k : Nat) : St -> Prop
 | mk {v5 v6 v7 v8 v9 : PV} {hp' : List MO} (u : Up hp hp') (h : hp'[hp.length]? = some (.lst (((N.take k).filter (cnd ts O D)).map (trV N ts D)))) : Lr4 n t o f N ts O D hp k ⟨[.obj n, .obj t, .obj o, .obj f, .obj hp.length, v5, v6, v7, v8, v9], hp'⟩
theorem Zyg (L : Ls hp n t o f N ts O D) (hN : N.length <= 1000) (hl : ts.length <= 1000) (hd : D.length <= 1000) {k : Nat} {a : Int} (hk : N[k]? = some a) {Q : MF -> St -> Prop} {v6 v7 v8 v9 : PV} {hp' : List MO} (u : Up hp hp') (h : hp'[hp.length]? = some (.lst (((N.take k).filter (cnd ts O D)).map (trV N ts D)))) :
  Z (Zfp d) ⟨[.obj n, .obj t, .obj o, .obj f, .obj hp.length, .int a, v6, v7, v8, v9], hp'⟩ (LQ (Lr4 n t o f N ts O D hp) k Q) E := by
 have L' := L.up u
 have ha := Qm hk
 have hlt := (Qgl hk)
 have skip : cnd ts O D a = false -> (N.take (k + 1)).filter (cnd ts O D) = (N.take k).filter (cnd ts O D) := λ e => by rw [Zcx hk, e]; simp
 unfold Zfp
 refine Z.J (Z.A2 (Z.l (Z.B (v := .int a) rfl rfl (Z.B (v := .obj o) rfl rfl (Z.C8 L'.o ?_)))))
 cases ho : decide (a ∈ O) with
 | true => exact Z.J (Z.S (.mk u (by rw [skip (by unfold cnd; rw [ho]; rfl)]; exact h)))
 | false =>
 have hF : 1000 < Zj := by unfold Zj; lia
 refine Z.L (Z.J (Z.i ?_))
 refine Z.H5 (m := 2) (pv := .rng 0 (ts.map Zc1).length 1) (List.range ts.length) (λ p => PV.int p) (λ p => PV.int p) (λ p => hdP ts p == a) (by simp; exact Qkl hl hF) (by simp; exact Qkb hl rfl)
  (Z.H (Z.W (Z.H (Z.W (Z.B (v := .obj t) rfl rfl (Z.C6 (.inl (Zx L'.t)) (by rw [Qd]; exact Qkb hl rfl) (Z.D4 ⟨rfl, rfl⟩)))))))
  (λ k hk fr' z => by
   rw [Qd]
   rw [length_range] at hk
   exact Zwh (Qkb hl rfl) hk)
  (λ p us ys hu hz => by
   rw [mem_range] at hz
   obtain ⟨u, w, rfl⟩ := lenP2 hu
   exact Z.I (Z.l (Z.hd (getElem?_app L'.t) hl hz rfl rfl rfl (Z.B (v := .int a) rfl rfl (Z.C3 ⟨rfl, [u, _], rfl, rfl, λ _ => Z.B rfl rfl ⟨rfl, rfl⟩⟩)))))
  (Z.I ?_)
 rw [show ((List.range ts.length).filter λ p => hdP ts p == a) = plc ts a from rfl]
 have LB := L'.up (Up.refl.app (l := [MO.lst ((plc ts a).map (λ (p : Nat) => PV.int p))]))
 have uB := u.app (l := [MO.lst ((plc ts a).map (λ (p : Nat) => PV.int p))])
 have h₁ := getElem?_app (r := [MO.lst ((plc ts a).map (λ (p : Nat) => PV.int p))]) h
 have pB : (hp' ++ [MO.lst ((plc ts a).map (λ (p : Nat) => PV.int p))])[hp'.length]? = some (.lst ((plc ts a).map (λ (p : Nat) => PV.int p))) := Z7
 generalize hp'.length = pl at pB
 generalize (hp' ++ [MO.lst ((plc ts a).map (λ (p : Nat) => PV.int p))]) = hpB at LB uB h₁ pB ⊢
 have hpl : (plc ts a).length <= ts.length := by
  have := length_filter_le (λ p => hdP ts p == a) (List.range ts.length)
  rw [length_range] at this; exact this
 refine Z.J (Z.A2 (Z.D6 (Z.H (Z.W ?_))))
 refine Z.mapA (pv := .obj pl) ((plc ts a).map (λ (p : Nat) => PV.int p)) (((plc ts a).map λ p => decide (tlP ts p ∈ D)).map PV.bool) (by simp; exact Qkl (Qkk hpl hl) hF) (by simp) (by simp; exact Qkb (Qkk hpl hl) rfl)
  (Z.gv rfl rfl) (λ k hk fr' z => Zgz pB) (λ k x y u w z hx hy => by
   rw [map_map, Ql] at hy
   rw [Ql] at hx
   cases hp : (plc ts a)[k]? with
   | none => rw [hp] at hx; cases hx
   | some p =>
    rw [hp] at hx hy
    cases hx; cases hy
    have := (Zhg.mp (Qm hp)).1
    exact Z.I (Z.F2 (Z.tl (getElem?_app LB.t) hl this rfl rfl rfl (Z.B (v := .obj f) rfl rfl (Z.C8 (getElem?_app LB.f) ⟨rfl, u, _, rfl⟩))))) ?_
 refine Z.all (Zx Z7) (Zjs _) (Z.F6 ?_)
 rw [List.all_map, show ((plc ts a).all (id ∘ λ p => decide (tlP ts p ∈ D))) = frD ts D a from rfl]
 have LC := LB.up (Up.refl.app (l := [MO.lst (((plc ts a).map λ p => decide (tlP ts p ∈ D)).map PV.bool)]))
 have uC := uB.app (l := [MO.lst (((plc ts a).map λ p => decide (tlP ts p ∈ D)).map PV.bool)])
 have h₂ := getElem?_app (r := [MO.lst (((plc ts a).map λ p => decide (tlP ts p ∈ D)).map PV.bool)]) h₁
 have pC := getElem?_app (r := [MO.lst (((plc ts a).map λ p => decide (tlP ts p ∈ D)).map PV.bool)]) pB
 generalize (hpB ++ [MO.lst (((plc ts a).map λ p => decide (tlP ts p ∈ D)).map PV.bool)]) = hpC at LC uC h₂ pC ⊢
 cases hfr : frD ts D a with
 | false => exact Z.L (Z.L (.mk uC (by rw [skip (by unfold cnd; rw [hfr, Bool.and_false])]; exact h₂)))
 | true =>
 have hin := Zrw.mp hfr
 refine Z.J (Z.i (Z.I6 (Z.B6 ⟨1, rfl, Z.I ?_⟩)))
 refine Z.J (Z.i (Z.M4 (D := N) (Zx LC.n) rfl rfl hN ha (λ h => Z.B rfl rfl h) (Z.I ?_)))
 refine Z.J (Z.B5 (Z.B (v := .obj pl) rfl rfl ?_))
 refine Z.A6 (Lp4 n t o f hp.length pl N ts D a hpC) (plc ts a).length (λ k' μ hI hk' => ?_) Zj 0 _ (by lia) (Q5 _) .mk
 obtain ⟨⟩ := hI
 rw [Zcm pC pC, Ql]
 cases hx : (plc ts a)[k']? with
 | none =>
  left
  have e' : k' = (plc ts a).length := by have := Qgn hx; exact Q3 hk' this
  subst e'
  rw [take_length]
  refine ⟨rfl, ?_⟩
  try dsimp only
  refine Z.J (Z.A5 (Z.A0 (Z.B (v := .obj hp.length) rfl rfl (Z.u h₂ (Z.E4 (Z.X (Z.B rfl rfl (Z.X (Z.B rfl rfl (Z.W (Z.B (v := .int a) rfl rfl ⟨show 3 <= 1000000 by decide, Z.A3 h₂ ?_ ?_⟩)))))))))))
  ·rw [Qd]
   exact Qkb (Qkkk (length_filter_le _ _) (length_take_le' _ _) hN) rfl
  ·refine Z.L (Z.L (.mk (uC.set Qr) ?_))
   rw [Zcx hk, show cnd ts O D a = true by unfold cnd; rw [ho, hfr]; rfl, Qo rfl, Xi]
   exact Z5 h₂
 | some p =>
  right
  refine ⟨(Qgl hx), _, rfl, Z.I ?_⟩
  refine Zwl LC.t LC.f hl hd hin hx rfl ?_
  rw [<- Zeb (f := kst ts D) hx]
  exact .mk
theorem Zkz (KS : Zdg) (L : Ls hp n t o f N ts O D) (K : Kn N ts T O D rd) (q : Kq N ts D rd) (hN : N.length <= 60) (hl : ts.length <= 1000) {Q : PV -> St -> Prop}
  (h : ∀ hp' i, Up hp hp' -> hp.length <= i -> hp'[i]? = some (.lst (rd.map .int)) -> Q (.obj i) ⟨fr, hp'⟩) : Z (Zdt d [.obj n, .obj t, .obj o, .obj f]) ⟨fr, hp⟩ Q E := by
 have hd : D.length <= N.length := Z4 K.dnd λ a h => K.oN a (K.dO a h)
 have hF : 1000 < Zj := by unfold Zj; lia
 have hrl := K.rdLen
 refine Z.A1 rfl ?_
 unfold g_law_ready
 refine Z.J (Z.i (Z.C1 (Z.y ⟨show 0 <= 1000000 by decide, Z.I ?_⟩)))
 refine Z.J (Z.B5 (Z.B (v := .obj n) rfl rfl ?_))
 refine Z.A6 (Lr4 n t o f N ts O D hp) N.length (λ k μ hI hk => ?_) Zj 0 _ (by lia) (Q5 _) (.mk Up.refl.app Z7)
 obtain ⟨u, e⟩ := hI
 rename_i v5 v6 v7 v8 v9 hp'
 rw [Zcm (getElem?_app L.n) (u.at L.n), Ql]
 cases hx : N[k]? with
 | some a =>
  right
  exact ⟨(Qgl hx), _, rfl, Z.I (Zyg L (Qkb hN rfl) hl (Qkb (Qkk hd hN) rfl) hx u e)⟩
 | none =>
  left
  have e' : k = N.length := by have := Qgn hx; exact Q3 hk this
  subst e'
  rw [take_length] at e
  refine ⟨rfl, ?_⟩
  try dsimp only
  have hcl := length_filter_le (cnd ts O D) N
  refine Z.J (Z.A7 ?_)
  have hs := Zyf KS K q hN hl
  refine Z.J4 (pv := .lst (rd.map (trV N ts D))) (m := 4) (rd.map (trV N ts D)) (rd.map PV.int) (by simp; lia) (by simp) (by simp; exact Qkb (Qkk hrl hN) rfl)
   (Z.H (Z.W (Z.B (v := .obj hp.length) rfl rfl (Z.M7 (Zx e) (Zur _) (by simp; exact Qlb (Qkk hcl hN) rfl) ⟨by rw [hs], rfl⟩)))) (λ k hk fr' z => rfl) (λ k x y us z hu hx hy => ?_) (h _ _ u.app u.len Z7)
  rw [Ql] at hx hy
  cases hr : rd[k]? with
  | none => rw [hr] at hx; cases hx
  | some a =>
   rw [hr] at hx hy
   cases hx; cases hy
   obtain ⟨u1, u2, u3, u4, rfl⟩ := lenP4 hu
   exact Z.N5 (Z.I (Z.I (Z.I (Z.B rfl rfl ⟨rfl, [u1, _, _, _], rfl, rfl⟩))))
end

noncomputable def rowD (f : Int -> Int) (g : Int -> List Int) (a : Int) : PyData := .list [.int a, .int a, .int (f a), .list ((g a).map .int)]
set_option backward.eqns.nonrecursive false
noncomputable def roD : Option (List Int) -> PyData
 | none => .none
 | some l => .list (l.map .int)
set_option backward.eqns.nonrecursive true
def insD (N : List Int) (f : Int -> Int) (g : Int -> List Int) (ro : Option (List Int)) (p q : Int) : PyData := .list [.list (N.map (rowD f g)), roD ro, .int p, .int q]
theorem Zyh {f : Int -> Int} {g : Int -> List Int} (a : Int) : (rowD f g a).canLay0 = true := by
 have := Zhf (k := PyData.int) (λ _ => rfl) (g a)
 show (true && (true && (true && (PyData.canLayAll0 ((g a).map .int) && true)))) = true
 rw [this]; rfl
theorem Zyi {N : List Int} {f : Int -> Int} {g : Int -> List Int} {ro : Option (List Int)} {p q : Int} : (insD N f g ro p q).canLay0 = true := by
 have h1 := Zhf (k := rowD f g) Zyh N
 have h2 : (roD ro).canLay0 = true := by
  cases ro with
  | none => rfl
  | some l => exact Zhf (k := PyData.int) (λ _ => rfl) l
 show (PyData.canLayAll0 (N.map (rowD f g)) && ((roD ro).canLay0 && (true && (true && true)))) = true
 rw [h1, h2]; rfl
theorem Zh7 {hp : List MO} {n : Nat} {x y z w : PV} {a b c e : PyData} (h1 : Zv hp n x = some a) (h2 : Zv hp n y = some b) (h3 : Zv hp n z = some c) (h4 : Zv hp n w = some e) : Zv hp (n + 1) (.lst [x, y, z, w]) = some (.list [a, b, c, e]) := by
 show (Za2 (Zv hp n) [x, y, z, w]).map PyData.list = _
 simp only [Zc3, h1, h2, h3, h4]
 rfl
theorem Znf {α β : Type} {f : α -> Option β} {y : α} {b : β} (h : f y = some b) : ∀ {xs : List α} {as : List β}, Za2 f xs = some as -> Za2 f (xs ++ [y]) = some (as ++ [b])
 | [] => λ e => by cases e; show (match f y with | some y => _ | none => none) = _; rw [h]; rfl
 | x :: xs => λ e => by
  rw [cons_append, Zc3]
  rw [Zc3] at e
  cases hx : f x with
  | none => rw [hx] at e; exact Zq e
  | some c =>
   rw [hx] at e
   try dsimp only at e ⊢
   obtain ⟨as', e1, rfl⟩ := Option.map_eq_some_iff.mp e
   rw [Znf h e1]; rfl
theorem Ze5 {hp : List MO} {n i : Nat} {l : List Int} (h : hp[i]? = some (.lst (l.map .int))) : Zv hp (n + 2) (.obj i) = some (.list (l.map .int)) := Zne (k := PyData.int) h λ _ _ => rfl
section
variable {hp : List MO} {fr : List PV} {E : Value -> St -> Prop} {o : Nat} {T : TSt} {ly : Lay}
inductive Li4 (o : Nat) (T : TSt) (ly : Lay) (hp : List MO) (k : Nat) : St -> Prop
 | mk {v2 v3 : PV} : Li4 o T ly hp k ⟨[.obj o, .obj hp.length, v2, v3], hp ++ [.lst ((T.order.take k).map λ a => .lst [.int a, .int a, .int (T.np a), .obj (ly.ls a)])]⟩
theorem Zus (S : SAt d hp o T ly) (hl : T.order.length <= 1000) {Q : PV -> St -> Prop}
  (h : ∀ hp' v, Up hp hp' -> (∀ hp'', Up hp' hp'' -> Zv hp'' 16 v = some (insD T.order T.np T.sc T.ready T.passed T.fin)) -> Q v ⟨fr, hp'⟩) : Z (Zeo d [.obj o]) ⟨fr, hp⟩ Q E := by
 refine Z.A1 rfl ?_
 unfold g_law_inside
 refine Z.J (Z.i (Z.C1 (Z.y ⟨show 0 <= 1000000 by decide, Z.I ?_⟩)))
 have S0 : ∀ l, SAt d (hp ++ l) o T ly := λ l => S.keep λ i hi => Qc (S.lt hi)
 refine Z.J (Z.B5 (Z.H0 (S0 _) rfl ?_))
 refine Z.A6 (Li4 o T ly hp) T.order.length (λ k μ hI hk => ?_) Zj 0 _ (by unfold Zj; lia) (Q5 _) .mk
 obtain ⟨⟩ := hI
 rename_i v2 v3
 rw [Zm9 (S0 _).dct (S0 _).dct, Ql]
 cases hx : T.order[k]? with
 | some a =>
  right
  have ha := Qm hx
  refine ⟨(Qgl hx), .int a, rfl, Z.I ?_⟩
  have S1 := S0 [.lst ((T.order.take k).map λ a => .lst [.int a, .int a, .int (T.np a), .obj (ly.ls a)])]
  unfold Zhd
  refine Z.J (Z.i (Z.D0 (Z.H0 S1 rfl (Z.B rfl rfl (Z.H2 S1.dct (Zc9 ha) (Z.I ?_))))))
  refine Z.J (Z.A5 (Z.A0 (Z.B (v := .obj hp.length) rfl rfl (Z.u Z7 (Z.C2 (Z.X (Z.B (v := .int a) rfl rfl (Z.X (Z.C4 (Z.B (v := .obj (ly.li a)) rfl rfl (Z.B7 (S1.inf a ha) rfl rfl (Z.X (Z.C4 (Z.B (v := .obj (ly.li a)) rfl rfl (Z.B7 (S1.inf a ha) rfl rfl (Z.W (Z.C4 (Z.B (v := .obj (ly.li a)) rfl rfl (Z.B7 (S1.inf a ha) rfl rfl ⟨show 4 <= 1000000 by decide, Z.A3 Z7 ?_ ?_⟩)))))))))))))))))))
  ·rw [Qd, length_take]; lia
  ·refine Z.L ?_
   rw [Zf7]
   have e : (T.order.take (k + 1)).map (λ a => PV.lst [.int a, .int a, .int (T.np a), .obj (ly.ls a)]) = (T.order.take k).map (λ a => PV.lst [.int a, .int a, .int (T.np a), .obj (ly.ls a)]) ++ [.lst [.int a, .int a, .int (T.np a), .obj (ly.ls a)]] := by
    rw [Xe (Qgl hx), Xi, (Qge hx)]; rfl
   have := Li4.mk (o := o) (T := T) (ly := ly) (hp := hp) (k := k + 1) (v2 := .int a) (v3 := .obj (ly.li a))
   rw [e] at this
   exact this
 | none =>
  left
  have e' : k = T.order.length := by have := Qgn hx; exact Q3 hk this
  subst e'
  rw [take_length]
  refine ⟨rfl, ?_⟩
  try dsimp only
  have S1 := S0 [.lst (T.order.map λ a => .lst [.int a, .int a, .int (T.np a), .obj (ly.ls a)])]
  refine Z.J (Z.A7 (Z.C2 (Z.X (Z.B (v := .obj hp.length) rfl rfl (Z.X (Z.E6 S1 rfl (Z.X (Z.psA S1 rfl (Z.W (Z.fiA S1 rfl ⟨show 4 <= 1000000 by decide, ?_⟩))))))))))
  refine h _ _ Up.refl.app λ hp'' u => ?_
  have S2 : SAt d hp'' o T ly := S1.keep λ i hi => u.old i (S1.lt hi)
  refine Zh7 (Zne (k := rowD T.np T.sc) (u.at Z7) λ a ha => Zh7 rfl rfl rfl (Ze5 (S2.suc a ha))) ?_ rfl rfl
  cases hr : T.ready with
  | none => rw [Zh2 hr]; rfl
  | some xs => rw [Zcp hr]; exact Ze5 (S2.rd xs hr)
end
noncomputable def npS (ts : Ed) (O D : List Int) (a : Int) : Int := if a ∈ D then -2 else if a ∈ O then -1 else (cnt ts D a : Int)
section
variable {hp : List MO} {fr : List PV} {E : Value -> St -> Prop} {N : List Int} {ts : Ed} {D O rd : List Int} {T : TSt} {n t p o f : Nat}
inductive Lt4 (n t p o f : Nat) (N : List Int) (ts : Ed) (O D : List Int) (hp : List MO) (k : Nat) : St -> Prop
 | mk {v6 v7 v8 : PV} {hp' : List MO} {zs : List PV} (u : Up hp hp') (h : hp'[hp.length]? = some (.lst zs)) (hl : zs.length = k) (r : ∀ hp'', (∀ i, i < hp'.length -> i ≠ hp.length -> hp''[i]? = hp'[i]?) -> Za2 (Zv hp'' 14) zs = some ((N.take k).map (rowD (npS ts O D) (scL ts)))) :
  Lt4 n t p o f N ts O D hp k ⟨[.obj n, .obj t, .obj p, .obj o, .obj f, .obj hp.length, v6, v7, v8], hp'⟩
theorem Z.J2 {n : Nat} {e : PM PV} {b : PM Bool} {Q : PV -> St -> Prop} {j : Nat} {i1 i2 : Nat} (ht : hp[t]? = some (.lst (ts.map Zc1))) (hl : ts.length <= 1000) (hn : 1000 < n) (p : Int × Int -> Bool) (gv : Int × Int -> PV) (e1 : fr[j]? = some (.obj t))
  (step : ∀ (e' : Int × Int) (u v w : PV) (z : List PV), Z (Zct [Zh i1, Zh i2] (Zc1 e')) ⟨fr ++ [u, v, w], hp ++ [.lst z]⟩ (λ _ μ => Z b μ (λ b μ' => b = p e' ∧ ∃ u v w, μ' = ⟨fr ++ [u, v, w], hp ++ [.lst z]⟩ ∧ (b = true -> Z e ⟨fr ++ [u, v, w], hp ++ [.lst z]⟩ (λ v' μ'' => v' = gv e' ∧ μ'' = ⟨fr ++ [u, v, w], hp ++ [.lst z]⟩) (λ _ _ => False))) (λ _ _ => False)) (λ _ _ => False))
  (h : Q (.obj hp.length) ⟨fr, hp ++ [.lst ((ts.filter p).map gv)]⟩) : Z (Za1 n 3 (Za j) (Mine.tfB (Zct [Zh i1, Zh i2]) b e)) ⟨fr, hp⟩ Q E :=
 Z.H5 (m := 3) (pv := .obj t) ts Zc1 gv p (Qkl hl hn) (Qkb hl rfl) (Z.gv e1 rfl) (λ k hk fr' z => Zgz ht) (λ x us z hu hx => by
  obtain ⟨u, v, w, rfl⟩ := lenP3 hu
  exact (step x u v w z).mono (λ _ μ h => h.mono (λ b μ' q => by obtain ⟨h1, u, v, w, h2, h3⟩ := q; exact ⟨h1, _, rfl, h2, h3⟩) λ _ _ e => e) λ _ _ e => e) h
theorem Zzb (ht : hp[t]? = some (.lst (ts.map Zc1))) (ho : hp[o]? = some (.lst (O.map .int))) (hf : hp[f]? = some (.lst (D.map .int))) (hl : ts.length <= 1000) {a : Int} {r : Nat} {zs : List PV} (hr : hp[r]? = some (.lst zs)) (hz : zs.length <= 1000) {v0 v2 v7 v8 : PV} {Q : MF -> St -> Prop}
  (h : ∀ hp' i v7, Up hp hp' -> i < hp'.length -> i ≠ r -> hp'[i]? = some (.lst ((scL ts a).map .int)) -> hp'[r]? = some (.lst zs) -> Q .next ⟨[v0, .obj t, v2, .obj o, .obj f, .obj r, .int a, v7, v8], hp'.set r (.lst (zs ++ [.lst [.int a, .int a, .int (npS ts O D a), .obj i]]))⟩) :
  Z (Zcy d) ⟨[v0, .obj t, v2, .obj o, .obj f, .obj r, .int a, v7, v8], hp⟩ Q E := by
 have hF : 1000 < Zj := by unfold Zj; lia
 have hrl := (Qgl hr)
 have rest : ∀ hp', Up hp hp' -> Z (Zc (Zap (Zar (Za 5) (Zp false (Zd (Za 6) (Zd (Za 6) (Zd (Za 7) (Zd (Za1 Zj 3 (Za 1) (Zey d)) (Pure.pure [])))))))) Zg) ⟨[v0, .obj t, v2, .obj o, .obj f, .obj r, .int a, .int (npS ts O D a), v8], hp'⟩ Q E := λ hp' u => by
  refine Z.J (Z.A5 (Z.A0 (Z.B (v := .obj r) rfl rfl (Z.u (u.at hr) (Z.C2 (Z.X (Z.B (v := .int a) rfl rfl (Z.X (Z.B (v := .int a) rfl rfl (Z.X (Z.B rfl rfl (Z.W ?_))))))))))))
  refine Z.J2 (u.at ht) hl hF (λ e => e.1 == a) (λ e => .int e.2) rfl (λ e u v w z => Z.E2 (Z.I (Z.I (Z.l (Z.B rfl rfl (Z.B (v := .int a) rfl rfl (Z.C3 ⟨rfl, u, _, _, rfl, λ _ => Z.B rfl rfl ⟨rfl, rfl⟩⟩))))))) ⟨show 4 <= 1000000 by decide, Z.A3 (getElem?_app (u.at hr)) (Qkb hz rfl) (Z.L ?_)⟩
  have e : ((ts.filter λ e => e.1 == a).map λ e => PV.int e.2) = (scL ts a).map PV.int := by unfold scL; rw [map_map]; rfl
  rw [e]
  refine h _ _ _ u.app (by rw [Qk]; exact Nat.lt_succ_self _) (λ q => ?_) Z7 (getElem?_app (u.at hr))
  exact Qe (Nat.lt_of_lt_of_le hrl u.len) (by rw [q]; exact Q6 _)
 unfold Zcy
 refine Z.J (Z.A2 (Z.l (Z.B (v := .int a) rfl rfl (Z.B (v := .obj f) rfl rfl (Z.C8 hf ?_)))))
 cases h1 : decide (a ∈ D) with
 | true =>
  refine Z.J (Z.i (Z.I6 (Z.B6 ⟨2, rfl, Z.I (Z.L ?_)⟩)))
  have := rest hp Up.refl
  unfold npS at this
  rw [Qo (Qh h1)] at this
  exact this
 | false =>
 refine Z.J (Z.A2 (Z.l (Z.B (v := .int a) rfl rfl (Z.B (v := .obj o) rfl rfl (Z.C8 ho ?_)))))
 cases h2 : decide (a ∈ O) with
 | true =>
  refine Z.J (Z.i (Z.I6 (Z.B6 ⟨1, rfl, Z.I (Z.L (Z.L ?_))⟩)))
  have := rest hp Up.refl
  unfold npS at this
  rw [Qq (of_decide_eq_false h1), Qo (Qh h2)] at this
  exact this
 | false =>
 refine Z.J (Z.i (Z.H (Z.W ?_)))
 refine Z.J2 ht hl hF (λ e => e.2 == a && !decide (e.1 ∈ D)) (λ e => .int e.1) rfl (λ e u v w z => Z.E2 (Z.I (Z.I (Z.M5 (Z.l (Z.B rfl rfl (Z.B (v := .int a) rfl rfl (Z.C3 ?_)))))))) ?_
 ·cases e.2 == a with
  | false => exact ⟨rfl, u, _, _, rfl, λ e => nomatch e⟩
  | true =>
   refine Z.M5 (Z.l (Z.B rfl rfl (Z.B (v := .obj f) rfl rfl (Z.F7 (Z.C8 (getElem?_app hf) ?_)))))
   cases decide (e.1 ∈ D) with
   | true => exact ⟨rfl, u, _, _, rfl, λ e => nomatch e⟩
   | false => exact Z.S ⟨rfl, u, _, _, rfl, λ _ => Z.B rfl rfl ⟨rfl, rfl⟩⟩
 ·have hfl := length_filter_le (λ e : Int × Int => e.2 == a && !decide (e.1 ∈ D)) ts
  refine Z.C6 (.inl (Zx Z7)) (by rw [Qd]; exact Qkb (Qkk hfl hl) rfl) (Z.I (Z.L (Z.L ?_)))
  have := rest _ (Up.refl.app (hp := hp) (l := [MO.lst ((ts.filter λ e => e.2 == a && !decide (e.1 ∈ D)).map λ e => PV.int e.1)]))
  unfold npS at this
  rw [Qq (of_decide_eq_false h1), Qq (of_decide_eq_false h2)] at this
  rw [Qd]
  exact this
theorem Zyj (KS : Zdg) (L : Ls hp n t o f N ts O D) {b : Bool} (hp_ : hp[p]? = some (.lst (if b then [.bool true] else []))) (K : b = true -> Kn N ts T O D rd ∧ Kq N ts D rd) (hN : N.length <= 60) (hl : ts.length <= 1000) (hO : O.length <= 1000) (hD : D.length <= 1000) {Q : PV -> St -> Prop}
  (h : ∀ hp' v, Up hp hp' -> Zv hp' 16 v = some (insD N (npS ts O D) (scL ts) (if b then some rd else none) O.length D.length) -> Q v ⟨fr, hp'⟩) : Z (Zcb d [.obj n, .obj t, .obj p, .obj o, .obj f]) ⟨fr, hp⟩ Q E := by
 have hF : 1000 < Zj := by unfold Zj; lia
 refine Z.A1 rfl ?_
 unfold g_law_told_inside
 refine Z.J (Z.i (Z.C1 (Z.y ⟨show 0 <= 1000000 by decide, Z.I ?_⟩)))
 refine Z.J (Z.B5 (Z.B (v := .obj n) rfl rfl ?_))
 refine Z.A6 (Lt4 n t p o f N ts O D hp) N.length (λ k μ hI hk => ?_) Zj 0 _ (by lia) (Q5 _) (.mk Up.refl.app Z7 rfl λ _ _ => rfl)
 obtain ⟨u, e, zl, r⟩ := hI
 rename_i v6 v7 v8 hp' zs
 have L' := L.up u
 rw [Zcm (getElem?_app L.n) L'.n, Ql]
 cases hx : N[k]? with
 | some a =>
  right
  refine ⟨(Qgl hx), _, rfl, Z.I (Zzb L'.t L'.o L'.f hl e (Qkb (Qkk (Qek zl hk) hN) rfl) λ hpB i v7 uB hi hne hsc hz => ?_)⟩
  refine .mk ((u.trans uB).set Qr) (Z5 hz) (by rw [Qk, zl]; rfl) λ hp'' hh => ?_
  have old : ∀ j, j < hpB.length -> j ≠ hp.length -> hp''[j]? = hpB[j]? := λ j hj hn => by
   rw [hh j (by rw [length_set]; exact hj) hn, Qf (Ne.symm hn)]
  have e1 := r hp'' λ j hj hn => (old j (Nat.lt_of_lt_of_le hj uB.len) hn).trans (uB.old j hj)
  have e2 := Znf (f := Zv hp'' 14) (y := .lst [.int a, .int a, .int (npS ts O D a), .obj i]) (b := rowD (npS ts O D) (scL ts) a) (Zh7 rfl rfl rfl (Ze5 ((old i hi hne).trans hsc))) e1
  rw [e2, Xe (Qgl hx), Xi, (Qge hx)]; rfl
 | none =>
  left
  have e' : k = N.length := by have := Qgn hx; exact Q3 hk this
  subst e'
  rw [take_length] at r
  refine ⟨rfl, ?_⟩
  try dsimp only
  refine Z.J (Z.i (Z.B6 (Z.I (Z.J (Z.A2 (Z.D6 (Z.B (v := .obj p) rfl rfl (Z.F5 (u.at hp_) (by cases b <;> simp) ?_))))))))
  have fin : ∀ hp'' v8, Up hp' hp'' -> uq v8 = false -> Zv hp'' 15 v8 = some (roD (if b then some rd else none)) -> Z (Zc (Zak (Zp false (Zd (Za 5) (Zd (Za 8) (Zd ((Zd (Za 3) (Pure.pure [])) >>= Zbz) (Zd ((Zd (Za 4) (Pure.pure [])) >>= Zbz) (Pure.pure []))))))) Zg) ⟨[.obj n, .obj t, .obj p, .obj o, .obj f, .obj hp.length, v6, v7, v8], hp''⟩ (CQ fr Q) (CX fr E) := λ hp'' v8 u' uv hr => by
   have L'' := L'.up u'
   refine Z.J (Z.A7 (Z.C2 (Z.X (Z.B (v := .obj hp.length) rfl rfl (Z.X (Z.B rfl uv (Z.X (Z.H (Z.W (Z.B (v := .obj o) rfl rfl (Z.C6 (.inl (Zx L''.o)) (by rw [Qd]; exact Qkb hO rfl) (Z.W (Z.H (Z.W (Z.B (v := .obj f) rfl rfl (Z.C6 (.inl (Zx L''.f)) (by rw [Qd]; exact Qkb hD rfl) ⟨show 4 <= 1000000 by decide, ?_⟩))))))))))))))))
   rw [Qd, Qd]
   refine h _ _ (u.trans u') (Zh7 ?_ hr rfl rfl)
   rw [Zl6, u'.at e]
   try dsimp only
   rw [r _ λ i hi _ => u'.old i hi]; rfl
  cases b with
  | false => exact Z.L (fin hp' .none Up.refl rfl rfl)
  | true =>
   obtain ⟨K, q⟩ := K rfl
   refine Z.J (Z.i (Z.H (Z.X (Z.B (v := .obj n) rfl rfl (Z.X (Z.B (v := .obj t) rfl rfl (Z.X (Z.B (v := .obj o) rfl rfl (Z.W (Z.B (v := .obj f) rfl rfl (Zkz KS L' K q hN hl λ hp'' i u' hi hr => Z.I (Z.L ?_))))))))))))
   exact fin hp'' (.obj i) u' rfl (Ze5 hr)
end

noncomputable def Za6 (ns : List Int) (a : Int) : List Int := if a ∈ ns then ns else ns ++ [a]
theorem Ze6 {ns : List Int} {a b : Int} : b ∈ Za6 ns a ↔ b ∈ ns ∨ b = a := by
 unfold Za6
 split
 ·rename_i h; exact ⟨.inl, λ q => q.elim id λ e => e ▸ h⟩
 ·simp
theorem Zl1 {ns : List Int} {a : Int} (h : ns.Nodup) : (Za6 ns a).Nodup := by
 unfold Za6
 split
 ·exact h
 ·rename_i q
  exact nodup_append.mpr ⟨h, by simp, λ x hx y hy e => by rw [Qz] at hy; exact q (by rw [<- hy, <- e]; exact hx)⟩
structure Be (e : Int -> Int) (ns : List Int) (ts : Ed) (T : TSt) : Prop where
 order : T.order = ns
 sc : T.sc = scL ts
 np : ∀ a ∈ ns, T.np a = cnt ts [] a + e a
 ready : T.ready = none
 passed : T.passed = 0
 fin : T.fin = 0
 tin : ∀ e ∈ ts, e.1 ∈ ns ∧ e.2 ∈ ns
section
variable {e : Int -> Int} {ns : List Int} {ts : Ed} {T : TSt} {a p : Int}
theorem Be.info (B : Be e ns ts T) (h : a ∉ ns -> e a = 0) : Be e (Za6 ns a) ts (Zw T a) := by
 by_cases ha : a ∈ ns
 ·rw [show Za6 ns a = ns from Qo ha, show Zw T a = T from Qo (by rw [B.order]; exact ha)]
  exact B
 ·rw [show Za6 ns a = ns ++ [a] from Qq ha, show Zw T a = { T with order := T.order ++ [a], np := upd T.np a 0, sc := upd T.sc a [] } from Qq (by rw [B.order]; exact ha)]
  refine ⟨by dsimp only; rw [B.order], ?_, λ b hb => ?_, B.ready, B.passed, B.fin, λ e he => ⟨Xh _ (B.tin e he).1, Xh _ (B.tin e he).2⟩⟩
  ·funext b
   show upd T.sc a [] b = _
   unfold upd
   split
   ·rename_i q; subst q
    exact (Zrr λ e he q => ha (by rw [<- q]; exact (B.tin e he).1)).symm
   ·rw [B.sc]
  ·show upd T.np a 0 b = _
   by_cases q : b = a
   ·subst q; rw [Zai, Zrs λ e he q => ha (by rw [<- q]; exact (B.tin e he).2), h ha]; rfl
   ·rw [Za0 q]
    rcases Qma hb with hb | hb
    ·exact B.np b hb
    ·rw [Qz] at hb; exact Qe hb q
theorem Be.step (B : Be e ns ts T) (hp : p ∈ ns) (ha : a ∈ ns) : Be (λ b => e b - if b = a then 1 else 0) ns (ts ++ [(p, a)]) { T with sc := upd T.sc p (T.sc p ++ [a]) } := by
 refine ⟨B.order, ?_, λ b hb => ?_, B.ready, B.passed, B.fin, λ e he => ?_⟩
 ·funext b
  show upd T.sc p (T.sc p ++ [a]) b = _
  rw [Zx8]
  unfold upd
  split
  ·rename_i q; subst q
   rw [B.sc]
   congr 1
   unfold scL; simp
  ·rename_i q
   rw [B.sc, Zrr (ts := [(p, a)]) (λ e he q' => by rw [Qz] at he; subst he; exact q q'.symm), append_nil]
 ·show T.np b = _
  rw [Zx7, B.np b hb]
  by_cases q : b = a
  ·subst q
   have : cnt [(p, b)] [] b = 1 := by unfold cnt; simp
   rw [this, Qo rfl]; lia
  ·rw [Qq q, Zrs (ts := [(p, a)]) (λ e he q' => by rw [Qz] at he; subst he; exact q q'.symm)]; lia
 ·rcases Qma he with he | he
  ·exact B.tin e he
  ·rw [Qz] at he; subst he; exact ⟨hp, ha⟩
theorem Be.edges {a : Int} : ∀ (ps : List Int) {e : Int -> Int} {ns : List Int} {ts : Ed} {T : TSt}, Be e ns ts T -> a ∈ ns -> (∀ p, p ∉ ns -> e p = 0) -> Be (λ b => e b - if b = a then (ps.length : Int) else 0) (ps.foldl Za6 ns) (ts ++ ps.map λ p => (p, a)) (ps.foldl (Zcr a) T)
 | [] => λ B _ _ => by
  rename_i e _ _ _ _ _
  have : (λ b => e b - if b = a then (([] : List Int).length : Int) else 0) = e := by funext b; split <;> simp
  rw [this, map_nil, append_nil]
  exact B
 | p :: ps => λ B ha hz => by
  rename_i e ns ts _
  have B1 := B.info (hz p)
  have ha' := Ze6.mpr (.inl ha : a ∈ ns ∨ a = p)
  have B2 := B1.step (p := p) (Ze6.mpr (.inr rfl)) ha'
  have B3 := Be.edges ps B2 ha' λ q hq => by
   have h1 : q ∉ ns := λ h => hq (Ze6.mpr (.inl h))
   show e q - (if q = a then 1 else 0) = 0
   rw [Qq (λ h : q = a => h1 (by rw [h]; exact ha)), hz q h1]; rfl
  have e1 : (λ b => (e b - if b = a then 1 else 0) - if b = a then (ps.length : Int) else 0) = λ b => e b - if b = a then ((p :: ps).length : Int) else 0 := by
   funext b
   rw [Xd]
   split <;> lia
  rw [e1] at B3
  rw [Xa, foldl_cons, foldl_cons, show ts ++ (p, a) :: ps.map (λ p => (p, a)) = (ts ++ [(p, a)]) ++ ps.map λ p => (p, a) by rw [append_assoc]; rfl]
  exact B3
theorem Bt.add (B : Bt ns ts T) (a : Int) (ps : List Int) : Bt (ps.foldl Za6 (Za6 ns a)) (ts ++ ps.map λ p => (p, a)) (addT T a ps) := by
 have B0 : Be (λ _ => 0) ns ts T := ⟨B.order, B.sc, λ a h => by rw [B.np a h]; lia, B.ready, B.passed, B.fin, B.tin⟩
 have B1 := B0.info (a := a) λ _ => rfl
 have ha : a ∈ Za6 ns a := Ze6.mpr (.inr rfl)
 have B2 : Be (λ b => if b = a then (ps.length : Int) else 0) (Za6 ns a) ts { Zw T a with np := upd (Zw T a).np a ((Zw T a).np a + ps.length) } := by
  refine ⟨B1.order, B1.sc, λ b hb => ?_, B1.ready, B1.passed, B1.fin, B1.tin⟩
  show upd (Zw T a).np a ((Zw T a).np a + ps.length) b = _
  have := B1.np b hb
  by_cases q : b = a
  ·subst q; rw [Zai, Qo rfl, this]; lia
  ·rw [Za0 q, Qq q, this]
 have B3 := B2.edges ps ha λ p hp => Qq λ e : p = a => hp (by rw [e]; exact ha)
 exact ⟨B3.order, B3.sc, λ b hb => by have := B3.np b hb; split at this <;> exact this.trans (by lia), B3.ready, B3.passed, B3.fin, B3.tin⟩
end
section
variable {N : List Int} {ts : Ed} {O D rd : List Int} {T : TSt}noncomputable def lft (ts : Ed) (L : List Int) : List Int := L.filter λ a => ts.any λ e => e.2 == a && decide (e.1 ∈ L)
set_option backward.eqns.nonrecursive false
noncomputable def Zb0 (ts : Ed) : Nat -> List Int -> List Int
 | 0, L => L
 | k + 1, L => lft ts (Zb0 ts k L)
set_option backward.eqns.nonrecursive true
theorem Zut {k : Nat} {L : List Int} : Zb0 ts (k + 1) L = lft ts (Zb0 ts k L) := rfl
theorem Zmn {L : List Int} {a : Int} : a ∈ lft ts L ↔ a ∈ L ∧ ∃ p, (p, a) ∈ ts ∧ p ∈ L := by
 unfold lft
 rw [mem_filter, any_eq_true]
 constructor
 ·rintro ⟨h, ⟨p, b⟩, he, q⟩
  rw [Q7, beq_iff_eq, decide_eq_true_eq] at q
  exact ⟨h, p, q.1 ▸ he, q.2⟩
 ·rintro ⟨h, p, he, q⟩
  exact ⟨h, (p, a), he, by rw [Q7, beq_iff_eq, decide_eq_true_eq]; exact ⟨rfl, q⟩⟩
theorem Zk0 (tin : ∀ e ∈ ts, e.1 ∈ N ∧ e.2 ∈ N) : ∀ k a, a ∈ N -> a ∉ Zb0 ts k N -> Fr ts a
 | 0 => λ a h q => Qe h q
 | k + 1 => λ a h q => by
  by_cases q' : a ∈ Zb0 ts k N
  ·refine Acc.intro a λ p hp => Zk0 tin k p (tin _ hp).1 λ h' => q ?_
   rw [Zut, Zmn]
   exact ⟨q', p, hp, h'⟩
  ·exact Zk0 tin k a h q'
theorem Zwm {L : List Int} (h : ∀ a ∈ L, ∃ p, (p, a) ∈ ts ∧ p ∈ L) {a : Int} (f : Fr ts a) : a ∉ L := by
 induction f with
 | intro a _ ih => exact λ ha => (h a ha).elim λ p q => ih p q.1 q.2
theorem Zrx (hf : ∀ a ∈ N, Fr ts a) : ∀ k, (∀ a ∈ Zb0 ts k N, a ∈ N) ∧ (Zb0 ts k N = [] ∨ (Zb0 ts k N).length + k <= N.length)
 | 0 => ⟨λ _ h => h, .inr Qr⟩
 | k + 1 => by
  obtain ⟨h1, h2⟩ := Zrx hf k
  rw [Zut]
  refine ⟨λ a h => h1 a (Zmn.mp h).1, ?_⟩
  rcases h2 with h2 | h2
  ·rw [h2]; exact .inl rfl
  ·have hle : (lft ts (Zb0 ts k N)).length <= (Zb0 ts k N).length := length_filter_le _ _
   by_cases hlt : (lft ts (Zb0 ts k N)).length < (Zb0 ts k N).length
   ·exact .inr (Qkk (Nat.succ_add_eq_add_succ _ k ▸ Q9 hlt k) h2)
   ·left
    have e : lft ts (Zb0 ts k N) = Zb0 ts k N := List.Sublist.eq_of_length filter_sublist (Q3 hle (Nat.le_of_not_lt hlt))
    rw [e, List.eq_nil_iff_forall_not_mem]
    exact λ a ha => Zwm (L := Zb0 ts k N) (λ b hb => by rw [<- e] at hb; exact (Zmn.mp hb).2) (hf a (h1 a ha)) ha
theorem Zry (tin : ∀ e ∈ ts, e.1 ∈ N ∧ e.2 ∈ N) : Zb0 ts N.length N = [] ↔ ∀ a ∈ N, Fr ts a := by
 constructor
 ·intro h a ha
  exact Zk0 tin N.length a ha (by rw [h]; exact not_mem_nil)
 ·intro h
  rcases (Zrx h N.length).2 with q | q
  ·exact q
  ·exact List.length_eq_zero_iff.mp (by lia)
theorem Zyk (tin : ∀ e ∈ ts, e.1 ∈ N ∧ e.2 ∈ N) : (∀ a ∈ N, Zd7 (scL ts) a) ↔ ∀ a ∈ N, Fr ts a := by
 have e : (λ s a => s ∈ scL ts a) = λ s a => (a, s) ∈ ts := by funext s a; exact propext Zed
 show (∀ a ∈ N, Acc (λ s a => s ∈ scL ts a) a) ↔ _
 rw [e]
 exact (Zx4 (E := St1 ts) N λ a b h => tin _ h).symm
end
noncomputable abbrev Kd (k : Int) : Prop := (k = 0 ∨ k = 1 ∨ k = 5) ∨ k = 2 ∨ k = 3 ∨ k = 4
noncomputable def sS (x : Str) : PyData := .str x
def refD : PyData := .list [sS "refused"]def ringD : PyData := .list [sS "ring"]def sayD (x : PyData) : PyData := .list [sS "said", x]
set_option backward.eqns.nonrecursive false
def itr (ts : Ed) : Nat -> List Int × List Int -> List Int × List Int
 | 0, s => s
 | k + 1, s => itr ts k (s.1 ++ s.2, Zbw ts s.1 s.2)
set_option backward.eqns.nonrecursive true
theorem itr_s {ts : Ed} {k : Nat} {s : List Int × List Int} : itr ts (k + 1) s = itr ts k (s.1 ++ s.2, Zbw ts s.1 s.2) := rfl
theorem Zrz {ts : Ed} {D : List Int} : ∀ k, itr ts k (D, []) = (D, [])
 | 0 => rfl
 | k + 1 => by rw [itr_s, Zky, append_nil]; exact Zrz k
set_option genInjectivity false in
structure S4 where
 N : List Int
 ts : Ed
 op : Bool
 O : List Int
 D : List Int
 rd : List Int
noncomputable abbrev Gd4 (s : S4) (xs : List Int) : Prop := xs.Nodup ∧ ∀ x ∈ xs, x ∈ s.O ∧ x ∉ s.D
noncomputable def st0 (s : S4) : List Int := s.N.filter λ a => cnt s.ts [] a == 0
inductive Stp (s : S4) : Int -> List Int -> PyData -> S4 -> Prop
 | ref1 {k : Int} {ns : List Int} : (k = 0 ∨ k = 1 ∨ k = 5) -> s.op = true -> Stp s k ns refD s
 | ref2 {k : Int} {ns : List Int} : (k = 2 ∨ k = 3 ∨ k = 4) -> s.op = false -> Stp s k ns refD s
 | add {a : Int} {ps : List Int} : s.op = false -> Stp s 0 (a :: ps) (sayD .none) { s with N := ps.foldl Za6 (Za6 s.N a), ts := s.ts ++ ps.map λ p => (p, a) }
 | done {xs : List Int} : s.op = true -> Gd4 s xs -> Stp s 3 xs (sayD .none) { s with D := s.D ++ xs, rd := s.rd ++ Zbw s.ts s.D xs }
 | doneR {xs ys : List Int} {b : Int} : s.op = true -> Gd4 s xs -> ¬ (b ∈ s.O ∧ b ∉ s.D ++ xs) -> Stp s 3 (xs ++ b :: ys) refD { s with D := s.D ++ xs, rd := s.rd ++ Zbw s.ts s.D xs }
 | ring {k : Int} {ns : List Int} : (k = 1 ∨ k = 5) -> s.op = false -> ¬ (∀ a ∈ s.N, Fr s.ts a) -> Stp s k ns ringD { s with op := true, rd := st0 s }
 | prep {ns : List Int} : s.op = false -> (∀ a ∈ s.N, Fr s.ts a) -> Stp s 1 ns (sayD .none) { s with op := true, rd := st0 s }
 | stat {ns : List Int} {D rd : List Int} : s.op = false -> (∀ a ∈ s.N, Fr s.ts a) -> itr s.ts s.N.length ([], st0 s) = (D, rd) -> Stp s 5 ns (sayD (.list (D.map .int))) { s with op := true, O := D, D := D, rd := rd }
 | act {ns : List Int} : s.op = true -> Stp s 4 ns (sayD (.list [.bool true, .bool (decide (s.D.length < s.O.length) || !s.rd.isEmpty)])) s
 | get {ns : List Int} : s.op = true -> Stp s 2 ns (sayD (.tuple (s.rd.map .int))) { s with O := s.O ++ s.rd, rd := [] }
structure In4 (s : S4) (T : TSt) : Prop where
 pre : s.op = false -> Bt s.N s.ts T ∧ s.O = [] ∧ s.D = [] ∧ s.rd = []
 run : s.op = true -> Kn s.N s.ts T s.O s.D s.rd ∧ Kq s.N s.ts s.D s.rd
 nnd : s.N.Nodup
 nin : ∀ a ∈ s.N, 0 <= a ∧ a < 4
theorem nat4 {a : Int} (h : 0 <= a ∧ a < 4) : ∃ n : Nat, a = n ∧ n < 4 := ⟨a.toNat, (Qtn h.1).symm, Qtl h.1 h.2⟩
theorem four {N : List Int} (h : N.Nodup) (k : ∀ a ∈ N, 0 <= a ∧ a < 4) : N.length <= 4 :=
 Z4 (ys := [0, 1, 2, 3]) h λ a ha => by
  obtain ⟨n, rfl, hn⟩ := nat4 (k a ha)
  rcases n with _ | _ | _ | _ | n
  ·exact .head _
  ·exact .tail _ (.head _)
  ·exact .tail _ (.tail _ (.head _))
  ·exact .tail _ (.tail _ (.tail _ (.head _)))
  ·exact Qe hn (Qi (Nat.le_add_left 4 n))theorem In4.nl {s : S4} {T : TSt} (I : In4 s T) : s.N.length <= 4 := four I.nnd I.nin
theorem In4.tin {s : S4} {T : TSt} (I : In4 s T) : ∀ e ∈ s.ts, e.1 ∈ s.N ∧ e.2 ∈ s.N := by
 cases h : s.op with
 | false => exact (I.pre h).1.tin
 | true => exact (I.run h).1.tin
theorem Kq.doneAll {N : List Int} {ts : Ed} (h1 : N.length <= 1000) (h2 : ts.length <= 1000) : ∀ (bs : List Int) {T : TSt} {O D rd : List Int}, Kn N ts T O D rd -> Kq N ts D rd -> bs.Nodup -> (∀ b ∈ bs, b ∈ O ∧ b ∉ D) -> Kq N ts (D ++ bs) (rd ++ Zbw ts D bs)
 | [] => λ K q _ _ => by rw [append_nil, Zky, append_nil]; exact q
 | b :: bs => λ K q hn h => by
  rw [nodup_cons] at hn
  have hb := h b Q0
  have ih := Kq.doneAll h1 h2 bs (K.done hb.1 hb.2) (q.done h1 h2 hb.2 λ a ha => ((K.rm a).mp ha).2.2) hn.2 λ c hc => ⟨(h c (Qv _ hc)).1, λ z => by
   rcases Qma z with z | z
   ·exact (h c (Qv _ hc)).2 z
   ·rw [Qz] at z; subst z; exact hn.1 hc⟩
  rw [Zpy]
  rw [append_assoc, append_assoc] at ih
  exact ih

structure L5 (hp : List MO) (b : Nat) (s : S4) : Prop where
 n : hp[b]? = some (.lst (s.N.map .int))
 t : hp[b + 1]? = some (.lst (s.ts.map Zc1))
 p : hp[b + 2]? = some (.lst (if s.op then [.bool true] else []))
 o : hp[b + 3]? = some (.lst (s.O.map .int))
 f : hp[b + 4]? = some (.lst (s.D.map .int))noncomputable abbrev In5 (b i : Nat) : Prop := b <= i ∧ i < b + 5
structure K5 (b : Nat) (hp hp' : List MO) : Prop where
 len : hp.length <= hp'.length
 old : ∀ i, i < hp.length -> ¬ In5 b i -> hp'[i]? = hp[i]?
inductive Nm (b : Nat) (hp : List MO) (ns : List Int) : PV -> Prop
 | lst : Nm b hp ns (.lst (ns.map .int))
 | obj {i : Nat} : hp[i]? = some (.lst (ns.map .int)) -> ¬ In5 b i -> Nm b hp ns (.obj i)
section
variable {hp hp' hp'' : List MO} {b : Nat} {s : S4}theorem K5.refl : K5 b hp hp := ⟨Qr, λ _ _ _ => rfl⟩theorem K5.up (h : K5 b hp hp') (u : Up hp' hp'') : K5 b hp hp'' := ⟨Qj h.len u.len, λ i hi hn => (u.old i (Nat.lt_of_lt_of_le hi h.len)).trans (h.old i hi hn)⟩theorem K5.set (h : K5 b hp hp') {i : Nat} {v : MO} (hi : In5 b i) : K5 b hp (hp'.set i v) := ⟨by rw [length_set]; exact h.len, λ j hj hn => by rw [Qf (λ e : i = j => hn (e ▸ hi))]; exact h.old j hj hn⟩theorem K5.trans (h : K5 b hp hp') (k : K5 b hp' hp'') : K5 b hp hp'' := ⟨Qj h.len k.len, λ i hi hn => (k.old i (Nat.lt_of_lt_of_le hi h.len) hn).trans (h.old i hi hn)⟩theorem L5.up (L : L5 hp b s) (u : Up hp hp') : L5 hp' b s := ⟨u.at L.n, u.at L.t, u.at L.p, u.at L.o, u.at L.f⟩theorem L5.ls (L : L5 hp b s) : Ls hp b (b + 1) (b + 3) (b + 4) s.N s.ts s.O s.D := ⟨L.n, L.t, L.o, L.f⟩
theorem L5.setN (L : L5 hp b s) (N : List Int) : L5 (hp.set b (.lst (N.map .int))) b { s with N := N } :=
 ⟨Z5 L.n, Zu (by lia) L.t, Zu (by lia) L.p, Zu (by lia) L.o, Zu (by lia) L.f⟩
theorem L5.setT (L : L5 hp b s) (ts : Ed) : L5 (hp.set (b + 1) (.lst (ts.map Zc1))) b { s with ts := ts } :=
 ⟨Zu (by lia) L.n, Z5 L.t, Zu (by lia) L.p, Zu (by lia) L.o, Zu (by lia) L.f⟩
theorem L5.setP (L : L5 hp b s) : L5 (hp.set (b + 2) (.lst [.bool true])) b { s with op := true } :=
 ⟨Zu (by lia) L.n, Zu (by lia) L.t, Z5 L.p, Zu (by lia) L.o, Zu (by lia) L.f⟩
theorem L5.setO (L : L5 hp b s) (O : List Int) : L5 (hp.set (b + 3) (.lst (O.map .int))) b { s with O := O } :=
 ⟨Zu (by lia) L.n, Zu (by lia) L.t, Zu (by lia) L.p, Z5 L.o, Zu (by lia) L.f⟩
theorem L5.setD (L : L5 hp b s) (D : List Int) : L5 (hp.set (b + 4) (.lst (D.map .int))) b { s with D := D } :=
 ⟨Zu (by lia) L.n, Zu (by lia) L.t, Zu (by lia) L.p, Zu (by lia) L.o, Z5 L.f⟩theorem L5.rd (L : L5 hp b s) (rd : List Int) : L5 hp b { s with rd := rd } := ⟨L.n, L.t, L.p, L.o, L.f⟩
variable {ns : List Int} {nv : PV}
theorem Nm.keep (V : Nm b hp ns nv) (h : K5 b hp hp') : Nm b hp' ns nv := by
 cases V with
 | lst => exact .lst
 | obj e q => exact .obj ((h.old _ (Qgl e) q).trans e) q
theorem Nm.is (V : Nm b hp ns nv) : Zaa hp nv = some (ns.map .int) := by
 cases V with
 | lst => rfl
 | obj e q => exact Zx e
theorem Nm.uq (V : Nm b hp ns nv) : uq nv = false := by cases V <;> rfl
theorem Nm.of (V : Nm b hp ns nv) (h : K5 b hp hp') {fr fr' : List PV} {k : Nat} : Zam nv ⟨fr, hp⟩ k ⟨fr', hp'⟩ = some (ns[k]?.map .int) := by
 rw [<- Ql]
 cases V with
 | lst => rfl
 | obj e q => exact Zcm e ((h.old _ (Qgl e) q).trans e)
end
noncomputable abbrev fW (b : Nat) (k : Int) (nv v7 v8 v9 v10 v11 : PV) : List PV := [.obj b, .obj (b + 1), .obj (b + 2), .obj (b + 3), .obj (b + 4), .int k, nv, v7, v8, v9, v10, v11]
theorem Zwn (ps : List Int) : ∀ ns : List Int, (ps.foldl Za6 ns).length <= ns.length + ps.length := by
 induction ps with
 | nil => exact λ ns => Qr
 | cons p ps ih =>
  intro ns
  have h2 : (Za6 ns p).length <= ns.length + 1 := by unfold Za6; split <;> simp
  exact Qkk (ih (Za6 ns p)) (Qke (Q9 h2 ps.length) (Nat.succ_add_eq_add_succ ns.length ps.length).symm)
section
variable {hp : List MO} {fr : List PV} {E : Value -> St -> Prop} {b : Nat} {s : S4} {T : TSt} {k : Int} {nv : PV} {ns : List Int}
inductive Lw (b : Nat) (hp : List MO) (f : PV -> PV -> PV -> PV -> PV -> List PV) (g : Nat -> S4) (i : Nat) : St -> Prop
 | mk {v7 v8 v9 v10 v11 : PV} {hp' : List MO} (L : L5 hp' b (g i)) (K : K5 b hp hp') : Lw b hp f g i ⟨f v7 v8 v9 v10 v11, hp'⟩
theorem Zyl (L : L5 hp b s) {a : Int} (hl : s.N.length <= 1000) {v8 v9 v10 v11 : PV} {Q : MF -> St -> Prop}
  (h : ∀ hp', L5 hp' b { s with N := Za6 s.N a } -> K5 b hp hp' -> Q .next ⟨fW b k nv (.int a) v8 v9 v10 v11, hp'⟩) : Z (Zc0 d) ⟨fW b k nv (.int a) v8 v9 v10 v11, hp⟩ Q E := by
 unfold Zc0
 refine Z.J (Z.A2 (Z.l (Z.B (v := .int a) rfl rfl (Z.B (v := .obj b) rfl rfl (Z.F7 (Z.C8 L.n ?_))))))
 by_cases ha : a ∈ s.N
 ·rw [Qg ha]
  have := h hp
  rw [show Za6 s.N a = s.N from Qo ha] at this
  exact Z.L (Z.L (this L K5.refl))
 ·rw [Q8 ha]
  refine Z.J (Z.A5 (Z.A0 (Z.B (v := .obj b) rfl rfl (Z.u L.n (Z.B (v := .int a) rfl rfl (Z.A3 L.n (by rw [Qd]; exact Qkb hl rfl) ?_))))))
  refine Z.L (Z.L ?_)
  have := L.setN (s.N ++ [a])
  rw [Xi] at this
  refine h _ ?_ (K5.refl.set ⟨Qr, by lia⟩)
  rw [show Za6 s.N a = s.N ++ [a] from Qq ha]
  exact this
theorem Zau {hp : List MO} {n : Nat} {x : PV} {a : PyData} (h : Zv hp (n + 1) x = some a) : Zv hp (n + 2) (.lst [.str ("said" : Str), x]) = some (sayD a) := by
 show (Za2 (Zv hp (n + 1)) [.str ("said" : Str), x]).map PyData.list = _
 rw [Zc3, show Zv hp (n + 1) (.str ("said" : Str)) = some (.str "said") from Qo (by kernel_rfl)]
 try dsimp only
 rw [Zc3, h]; rfl
theorem Zee {hp : List MO} : Zv hp 16 (.lst [.str ("refused" : Str)]) = some refD := by
 show (Za2 (Zv hp 15) [.str ("refused" : Str)]).map PyData.list = _
 rw [Zc3, show Zv hp 15 (.str ("refused" : Str)) = some (.str "refused") from Qo (by kernel_rfl)]
 rfl
theorem Zh8 {hp : List MO} : Zv hp 16 (.lst [.str ("ring" : Str)]) = some ringD := by
 show (Za2 (Zv hp 15) [.str ("ring" : Str)]).map PyData.list = _
 rw [Zc3, show Zv hp 15 (.str ("ring" : Str)) = some (.str "ring") from Qo (by kernel_rfl)]
 rfl
theorem Z.G7 {x : Str} {μ : St} {Q : PV -> St -> Prop} (h : Q (.lst [.str x]) μ) : Z (Zp false (Zd (Pure.pure (.str x)) (Pure.pure []))) μ Q E := Z.C2 (Z.X (Z.B6 (Z.y ⟨show 1 <= 1000000 by decide, h⟩)))theorem Z.B4 {x : Str} {f : PM PV} {μ : St} {Q : PV -> St -> Prop} (h : Z f μ (λ y μ' => Q (.lst [.str x, y]) μ') E) : Z (Zp false (Zd (Pure.pure (.str x)) (Zd f (Pure.pure [])))) μ Q E := Z.C2 (Z.X (Z.B6 (Z.X (h.mono (λ y μ' h => Z.y ⟨show 2 <= 1000000 by decide, h⟩) λ _ _ e => e))))
theorem Zuu {a : Int} {ps : List Int} (L : L5 hp b s) (V : Nm b hp (a :: ps) nv) (hl : s.N.length <= 100) (ht : s.ts.length <= 1000) (hps : ps.length <= 100) {v7 v8 v9 v10 v11 : PV} {rest : PM MF} {Q : MF -> St -> Prop}
  (h : ∀ hp' v7 v8, L5 hp' b { s with N := ps.foldl Za6 (Za6 s.N a), ts := s.ts ++ ps.map λ p => (p, a) } -> K5 b hp hp' -> Z rest ⟨fW b k nv v7 v8 v9 v10 v11, hp'⟩ Q E) :
  Z (Zc (Zbb (Za 6) (Zh 7) (Zc0 d) Zj) (Zc (Zbb (Zhj false (Za 6) (Pure.pure (.int 1))) (Zh 8) (Zen d) Zj) rest)) ⟨fW b k nv v7 v8 v9 v10 v11, hp⟩ Q E := by
 have hF : 1000 < Zj := by unfold Zj; lia
 refine Z.J (Z.B5 (Z.B (v := nv) rfl V.uq ?_))
 refine Z.A6 (Lw b hp (λ v7 _ _ _ _ => fW b k nv v7 v8 v9 v10 v11) λ i => { s with N := ((a :: ps).take i).foldl Za6 s.N }) (a :: ps).length (λ i μ hI hi => ?_) Zj 0 _ (by rw [Xd]; lia) (Q5 _) (.mk (v8 := v8) (v9 := v9) (v10 := v10) (v11 := v11) L K5.refl)
 obtain ⟨L1, K1⟩ := hI
 rename_i w7 _ _ _ _ hp'
 rw [V.of K1]
 cases hx : (a :: ps)[i]? with
 | some x =>
  right
  refine ⟨(Qgl hx), .int x, rfl, Z.I (Zyl L1 ?_ λ hp'' L2 K2 => .mk (v8 := v8) (v9 := v9) (v10 := v10) (v11 := v11) ?_ (K1.trans K2))⟩
  ·exact Qkb (Qkk (Zwn ((a :: ps).take i) s.N) (Nat.add_le_add hl (Qkk (length_take_le' _ _) (Nat.succ_le_succ hps)))) rfl
  ·rw [Zeb (f := Za6) hx]; exact L2
 | none =>
  left
  have e' : i = (a :: ps).length := by have := Qgn hx; exact Q3 hi this
  subst e'
  rw [take_length] at L1
  refine ⟨rfl, ?_⟩
  have V1 := V.keep K1
  try dsimp only
  refine Z.J (Z.B5 (Z.I2 (Z.B (v := nv) rfl V.uq (Z.B6 ⟨_, 1, V1.is, rfl, ?_, ?_, ?_⟩))))
  ·rw [Qd, Xd]; lia
  ·rw [Qd, Xd]; lia
  rw [Xa, List.drop_one, List.tail_cons]
  refine Z.A6 (Lw b hp (λ v8 _ _ _ _ => fW b k nv w7 v8 v9 v10 v11) λ i => { s with N := ps.foldl Za6 (Za6 s.N a), ts := s.ts ++ (ps.take i).map λ p => (p, a) }) ps.length (λ i μ hI hi => ?_) Zj 0 _ (by lia) (Q5 _) (.mk (v8 := v8) (v9 := v9) (v10 := v10) (v11 := v11) (by rw [List.take_zero, map_nil, append_nil]; exact L1) K1)
  obtain ⟨L2, K2⟩ := hI
  rename_i w8 _ _ _ _ hpC
  rw [show Zam (.lst (ps.map PV.int)) ⟨fW b k nv w7 v8 v9 v10 v11, hp'⟩ i ⟨fW b k nv w7 w8 v9 v10 v11, hpC⟩ = some (ps.map PV.int)[i]? from rfl, Ql]
  cases hx : ps[i]? with
  | some x =>
   right
   refine ⟨(Qgl hx), .int x, rfl, Z.I ?_⟩
   have V2 := V.keep K2
   unfold Zen
   refine Z.J (Z.A5 (Z.A0 (Z.B (v := .obj (b + 1)) rfl rfl (Z.u L2.t (Z.E4 (Z.X (Z.B (v := .int x) rfl rfl (Z.W (Z.D0 (Z.B (v := nv) rfl V.uq (Z.B6 (Z.E3 (k := 0) rfl (.inl V2.is) rfl (by rw [Qd, Xd]; lia) ⟨show 2 <= 1000000 by decide, Z.A3 L2.t ?_ ?_⟩))))))))))))
   ·rw [Qd, Qk, Qd]
    exact Qkb (Nat.add_le_add ht (Qkk (length_take_le' _ _) hps)) rfl
   ·refine Z.L (.mk (v8 := v8) (v9 := v9) (v10 := v10) (v11 := v11) ?_ (K2.set ⟨by lia, by lia⟩))
    have := L2.setT ((s.ts ++ (ps.take i).map λ p => (p, a)) ++ [(x, a)])
    rw [Xi] at this
    have e : s.ts ++ (ps.take (i + 1)).map (λ p => (p, a)) = (s.ts ++ (ps.take i).map λ p => (p, a)) ++ [(x, a)] := by
     rw [Xe (Qgl hx), (Qge hx), Xi, append_assoc]; rfl
    rw [e]
    exact this
  | none =>
   left
   have e' : i = ps.length := by have := Qgn hx; exact Q3 hi this
   subst e'
   rw [take_length] at L2
   exact ⟨rfl, h _ _ _ L2 K2⟩
theorem Ztc (L : L5 hp b s) (V : Nm b hp ns nv) (hd : s.D.length <= 100) (hnl : ns.length <= 100) {v7 v8 v9 v10 v11 : PV} {rest : PM MF} {Q : MF -> St -> Prop}
  (hr : ∀ hp' v7 xs ys c, ns = xs ++ c :: ys -> Gd4 s xs -> ¬ (c ∈ s.O ∧ c ∉ s.D ++ xs) -> L5 hp' b { s with D := s.D ++ xs } -> K5 b hp hp' -> Q (.ret (.lst [.str ("refused" : Str)])) ⟨fW b k nv v7 v8 v9 v10 v11, hp'⟩)
  (h : ∀ hp' v7, Gd4 s ns -> L5 hp' b { s with D := s.D ++ ns } -> K5 b hp hp' -> Z rest ⟨fW b k nv v7 v8 v9 v10 v11, hp'⟩ Q E) :
  Z (Zc (Zbb (Za 6) (Zh 7) (Zem d) Zj) rest) ⟨fW b k nv v7 v8 v9 v10 v11, hp⟩ Q E := by
 have hF : 1000 < Zj := by unfold Zj; lia
 refine Z.J (Z.B5 (Z.B (v := nv) rfl V.uq ?_))
 refine Z.A6 (λ i μ => Gd4 s (ns.take i) ∧ Lw b hp (λ v7 _ _ _ _ => fW b k nv v7 v8 v9 v10 v11) (λ i => { s with D := s.D ++ ns.take i }) i μ) ns.length (λ i μ hI hi => ?_) Zj 0 _ (by lia) (Q5 _) ⟨⟨nodup_nil, λ _ h => nomatch h⟩, .mk (v8 := v8) (v9 := v9) (v10 := v10) (v11 := v11) (by rw [List.take_zero, append_nil]; exact L) K5.refl⟩
 obtain ⟨G, L1, K1⟩ := hI
 rename_i w7 _ _ _ _ hp'
 rw [V.of K1]
 cases hx : ns[i]? with
 | none =>
  left
  have e' : i = ns.length := by have := Qgn hx; exact Q3 hi this
  subst e'
  rw [take_length] at G L1
  exact ⟨rfl, h _ _ G L1 K1⟩
 | some x =>
  right
  have hlt := (Qgl hx)
  have hxe := (Qge hx)
  have et : ns.take (i + 1) = ns.take i ++ [x] := by rw [Xe hlt, hxe]
  have es : ns = ns.take i ++ x :: ns.drop (i + 1) := by rw [<- hxe, <- List.drop_eq_getElem_cons hlt, take_append_drop]
  refine ⟨hlt, .int x, rfl, Z.I ?_⟩
  have bad : ¬ (x ∈ s.O ∧ x ∉ s.D ++ ns.take i) -> Z (Zak (Zp false (Zd (Pure.pure (.str ("refused" : Str))) (Pure.pure [])))) ⟨fW b k nv (.int x) v8 v9 v10 v11, hp'⟩ (SQ Zg (SQ (Zc (Zap (Zar (Za 4) (Za 7))) Zg) (LQ (λ i μ => Gd4 s (ns.take i) ∧ Lw b hp (λ v7 _ _ _ _ => fW b k nv v7 v8 v9 v10 v11) (λ i => { s with D := s.D ++ ns.take i }) i μ) i (SQ rest Q E)) E) E) E := λ q =>
   Z.A7 (Z.G7 (hr _ _ _ _ _ es G q L1 K1))
  unfold Zem
  refine Z.J (Z.A2 (Z.bOr (Z.l (Z.B (v := .int x) rfl rfl (Z.B (v := .obj (b + 3)) rfl rfl (Z.F7 (Z.C8 L1.o ?_)))))))
  by_cases h1 : x ∈ s.O
  ·rw [Qg h1]
   refine Z.bOr (Z.l (Z.B (v := .int x) rfl rfl (Z.B (v := .obj (b + 4)) rfl rfl (Z.C8 L1.f ?_))))
   by_cases h2 : x ∈ s.D ++ ns.take i
   ·rw [Qg h2]
    exact Z.J (bad λ q => q.2 h2)
   ·rw [Q8 h2]
    refine Z.S (Z.L (Z.J (Z.A5 (Z.A0 (Z.B (v := .obj (b + 4)) rfl rfl (Z.u L1.f (Z.B (v := .int x) rfl rfl (Z.A3 L1.f ?_ ?_))))))))
    ·rw [Qd, Qk]
     exact Qkb (Nat.add_le_add hd (Qkk (length_take_le' _ _) hnl)) rfl
    ·have := L1.setD ((s.D ++ ns.take i) ++ [x])
     rw [Xi] at this
     refine Z.L ⟨?_, .mk (v8 := v8) (v9 := v9) (v10 := v10) (v11 := v11) ?_ (K1.set ⟨by lia, by lia⟩)⟩
     ·rw [et]
      refine ⟨nodup_append.mpr ⟨G.1, by simp, λ y hy z hz e => ?_⟩, λ y hy => ?_⟩
      ·rw [Qz] at hz
       exact h2 (mem_append_right _ (by rw [<- hz, <- e]; exact hy))
      ·rcases Qma hy with hy | hy
       ·exact G.2 y hy
       ·rw [Qz] at hy; rw [hy]; exact ⟨h1, λ q => h2 (Xh _ q)⟩
     ·rw [et, <- append_assoc]; exact this
  ·rw [Q8 h1]
   exact Z.J (bad λ q => h1 q.1)
end

section
variable {hp : List MO} {fr : List PV} {E : Value -> St -> Prop} {b : Nat} {s : S4} {T : TSt} {k : Int} {nv : PV} {ns : List Int}theorem Z.eqB {x y : Bool} {μ : St} {Q : Bool -> St -> Prop} (h : Q (x == y) μ) : Z (Zbr .Eq (.bool x) (.bool y)) μ Q E := Z.V (by cases x <;> cases y <;> rfl) h
theorem Z.two {f g : PM PV} {μ : St} {Q : PV -> St -> Prop} (h : Z f μ (λ x μ' => Z g μ' (λ y μ'' => Q (.lst [x, y]) μ'') E) E) : Z (Zp false (Zd f (Zd g (Pure.pure [])))) μ Q E :=
 Z.C2 (Z.X (h.mono (λ _ _ h => Z.X (h.mono (λ _ _ h => Z.y ⟨show 2 <= 1000000 by decide, h⟩) λ _ _ e => e)) λ _ _ e => e))
inductive Lx (b l : Nat) (M : List Int) (p : Int -> Bool) (fr : List PV) (hp : List MO) (i : Nat) : St -> Prop
 | mk {u w : PV} {hp' : List MO} (U : Up hp hp') (h : hp'[hp.length]? = some (.lst (((M.take i).filter p).map .int))) : Lx b l M p fr hp i ⟨fr ++ [u, w], hp'⟩
theorem Zzc (L : L5 hp b s) {M : List Int} {l : Nat} (hM : hp[l]? = some (.lst (M.map .int))) (hml : M.length <= 1000) (ht : s.ts.length <= 1000) {v7 v8 v10 v11 : PV} {Q : MF -> St -> Prop}
  (h : ∀ hp' l', Up hp hp' -> hp'[l']? = some (.lst ((lft s.ts M).map .int)) -> Q .next ⟨fW b k nv v7 v8 (.obj l') v10 v11, hp'⟩) : Z (Zcz d) ⟨fW b k nv v7 v8 (.obj l) v10 v11, hp⟩ Q E := by
 have hF : 1000 < Zj := by unfold Zj; lia
 unfold Zcz
 refine Z.J (Z.i (Z.G6 (Z.B (v := .obj l) rfl rfl ?_)))
 refine Z.E9 (Lx b l M (λ a => s.ts.any λ e => e.2 == a && decide (e.1 ∈ M)) (fW b k nv v7 v8 (.obj l) v10 v11) hp) M.length (λ i μ hI hi => ?_) Zj 0 _ (by lia) (Q5 _) (.mk Up.refl.app Z7)
 obtain ⟨U, e⟩ := hI
 rename_i u w hp'
 rw [Zkx (by intro i e; cases e), Zcm hM (U.at hM), Ql]
 cases hx : M[i]? with
 | none =>
  left
  have e' : i = M.length := by have := Qgn hx; exact Q3 hi this
  subst e'
  rw [take_length] at e
  refine ⟨rfl, ?_⟩
  try dsimp only
  rw [take_left]
  exact Z.I (Z.L (h _ _ U e))
 | some a =>
  right
  have hlt := (Qgl hx)
  have L' := L.up U
  refine ⟨hlt, .int a, rfl, ?_⟩
  unfold Zgx
  refine Z.M6 (Z.I (Z.D6 (Z.H (Z.W ?_))))
  refine Z.mapB (pv := .obj (b + 1)) (s.ts.map Zc1) ((s.ts.map λ e => e.2 == a && decide (e.1 ∈ M)).map PV.bool) (by simp; exact Qkl ht hF) (by simp) (by simp; exact Qkb ht rfl) (Z.gv rfl rfl) (λ k hk fr' z => Zgz L'.t) (λ j x y u' w' t' z hx hy => ?_) ?_
  ·rw [map_map, Ql] at hy
   rw [Ql] at hx
   cases hp : s.ts[j]? with
   | none => rw [hp] at hx; cases hx
   | some e =>
    rw [hp] at hx hy
    cases hx; cases hy
    refine Z.E2 (Z.I (Z.I (Z.eAnd (Z.F2 (Z.B (v := .int e.2) rfl rfl (Z.B (v := .int a) rfl rfl (Z.C3 ⟨_, rfl, λ q => ?_, λ q => ?_⟩)))))))
    ·exact ⟨by show _ = PV.bool (e.2 == a && decide (e.1 ∈ M)); rw [q]; rfl, u', _, _, rfl⟩
    ·exact Z.F2 (Z.B (v := .int e.1) rfl rfl (Z.B (v := .obj l) rfl rfl (Z.C8 (getElem?_app (U.at hM)) ⟨by show _ = PV.bool (e.2 == a && decide (e.1 ∈ M)); rw [q]; rfl, u', _, _, rfl⟩)))
  ·refine Z.any (Zx Z7) (Zjs _) (Z.F6 ?_)
   rw [List.any_map, show (s.ts.any (id ∘ λ e => e.2 == a && decide (e.1 ∈ M))) = s.ts.any (λ e => e.2 == a && decide (e.1 ∈ M)) from rfl]
   have e1 := getElem?_app (r := [MO.lst ((s.ts.map λ e => e.2 == a && decide (e.1 ∈ M)).map PV.bool)]) e
   cases hq : s.ts.any (λ e => e.2 == a && decide (e.1 ∈ M)) with
   | true =>
    refine Z.I5 (Z.B (v := .int a) rfl rfl ⟨_, e1, ?_, ?_⟩)
    ·rw [Qd]
     exact Qkb (Qkkk (length_filter_le _ _) (length_take_le' _ _) hml) rfl
    ·refine .mk (u := u) (w := .int a) (U.app.set Qr) ?_
     rw [Zcx hx, hq, Qo rfl, Xi]
     exact Z5 e1
   | false =>
    refine .mk (u := u) (w := .int a) U.app ?_
    rw [Zcx hx, hq, Qq Qt, append_nil]
    exact e1
inductive Lv (b : Nat) (k : Int) (nv v7 v8 v11 : PV) (ts : Ed) (N : List Int) (hp : List MO) (i : Nat) : St -> Prop
 | mk {v10 : PV} {l : Nat} {hp' : List MO} (U : Up hp hp') (h : hp'[l]? = some (.lst ((Zb0 ts i N).map .int))) (hl : (Zb0 ts i N).length <= 1000) : Lv b k nv v7 v8 v11 ts N hp i ⟨fW b k nv v7 v8 (.obj l) v10 v11, hp'⟩
theorem Ztd (L : L5 hp b s) (ho : s.op = false) (hN : s.N.length <= 100) (ht : s.ts.length <= 1000) {v7 v8 v9 v10 v11 : PV} {rest : PM MF} {Q : MF -> St -> Prop}
  (h : ∀ hp' l v10, L5 hp' b { s with op := true } -> K5 b hp hp' -> hp'[l]? = some (.lst ((Zb0 s.ts s.N.length s.N).map .int)) -> (Zb0 s.ts s.N.length s.N).length <= 1000 -> Z rest ⟨fW b k nv v7 v8 (.obj l) v10 v11, hp'⟩ Q E) :
  Z (Zc (Zap (Zar (Za 2) (Pure.pure (.bool true)))) (Zc (Zt ((Zd (Za 0) (Pure.pure [])) >>= (Zdo Zef)) (Zh 9)) (Zc (Zbb ((Zd ((Zd (Za 0) (Pure.pure [])) >>= Zbz) (Pure.pure [])) >>= Zdw) (Zh 10) (Zcz d) Zj) rest))) ⟨fW b k nv v7 v8 v9 v10 v11, hp⟩ Q E := by
 have hF : 1000 < Zj := by unfold Zj; lia
 have Lp := L.p
 rw [ho] at Lp
 refine Z.J (Z.A5 (Z.A0 (Z.B (v := .obj (b + 2)) rfl rfl (Z.u Lp (Z.B6 (Z.A3 Lp (show 0 <= 1000000 by decide) ?_))))))
 have L1 := L.setP
 have K1 : K5 b hp (hp.set (b + 2) (.lst [.bool true])) := K5.refl.set ⟨by lia, by lia⟩
 show Z _ ⟨_, hp.set (b + 2) (.lst [.bool true])⟩ Q E
 generalize hp.set (b + 2) (.lst [.bool true]) = hpB at L1 K1 ⊢
 refine Z.J (Z.i (Z.H (Z.W (Z.B (v := .obj b) rfl rfl (Z.F4 L1.n (by rw [Qd]; show s.N.length <= _; exact Qkb hN rfl) (Z.I ?_))))))
 have L2 := L1.up (Up.refl.app (l := [MO.lst (s.N.map .int)]))
 refine Z.J (Z.B5 (Z.H (Z.W (Z.H (Z.W (Z.B (v := .obj b) rfl rfl (Z.C6 (.inl (Zx L2.n)) (by rw [Qd]; show s.N.length <= _; exact Qkb hN rfl) (Z.D4 ?_))))))))
 rw [Qd, show ({ s with op := true } : S4).N = s.N from rfl]
 refine Z.A6 (Lv b k nv v7 v8 v11 s.ts s.N hpB) s.N.length (λ i μ hI hi => ?_) Zj 0 _ (by lia) (Q5 _) (.mk Up.refl.app Z7 (by show s.N.length <= _; exact Qkb hN rfl))
 obtain ⟨U, e, hl⟩ := hI
 rename_i w10 l hp'
 rw [Zgn (by exact Qkb hN rfl) hi]
 by_cases hk : i < s.N.length
 ·right
  rw [Qo hk]
  refine ⟨hk, _, rfl, Z.I (Zzc (L1.up U) e hl ht λ hp'' l' U' e' => .mk (U.trans U') e' ?_)⟩
  exact Qj (length_filter_le _ _) hl
 ·left
  rw [Qq hk]
  have e' : i = s.N.length := Q3 hi (Nat.le_of_not_lt hk)
  subst e'
  exact ⟨rfl, h _ _ _ (L1.up U) (K1.up U) e hl⟩
theorem round {N : List Int} {ts : Ed} {D rd : List Int} (h1 : N.length <= 1000) (h2 : ts.length <= 1000) (K : Kn N ts T D D rd) : Kn N ts (rd.foldl Zca (getT T rd)) (D ++ rd) (D ++ rd) (Zbw ts D rd) ∧ Kq N ts (D ++ rd) (Zbw ts D rd) := by
 have hb : ∀ x ∈ rd, x ∈ D ++ rd ∧ x ∉ D := λ x hx => ⟨mem_append_right _ hx, ((K.rm x).mp hx).2.1⟩
 exact ⟨K.get.doneAll rd K.rnd hb, Kq.doneAll h1 h2 rd K.get List.Pairwise.nil K.rnd hb⟩
inductive Ls4 (b : Nat) (k : Int) (nv v7 v8 v9 : PV) (s : S4) (hp : List MO) (i : Nat) : St -> Prop
 | mk {v10 v11 : PV} {hp' : List MO} {D rd : List Int} {T : TSt} {j : Nat} (hj : j + i = s.N.length) (L : L5 hp' b { s with op := true, O := D, D := D, rd := rd }) (K : K5 b hp hp') (Kk : Kn s.N s.ts T D D rd) (q : Kq s.N s.ts D rd) (e : itr s.ts j (D, rd) = itr s.ts s.N.length ([], st0 s)) : Ls4 b k nv v7 v8 v9 s hp i ⟨fW b k nv v7 v8 v9 v10 v11, hp'⟩
theorem Zp2 (KS : Zdg) (L : L5 hp b { s with op := true }) (I : In4 s T) (ho : s.op = false) (ht : s.ts.length <= 1000) {v7 v8 v9 v10 v11 : PV} {rest : PM MF} {Q : MF -> St -> Prop}
  (h : ∀ hp' D rd v10 v11, itr s.ts s.N.length ([], st0 s) = (D, rd) -> L5 hp' b { s with op := true, O := D, D := D, rd := rd } -> D.length <= 1000 -> K5 b hp hp' -> Z rest ⟨fW b k nv v7 v8 v9 v10 v11, hp'⟩ Q E) :
  Z (Zc (Zbb ((Zd ((Zd (Za 0) (Pure.pure [])) >>= Zbz) (Pure.pure [])) >>= Zdw) (Zh 10) (Zel d) Zj) rest) ⟨fW b k nv v7 v8 v9 v10 v11, hp⟩ Q E := by
 have hF : 1000 < Zj := by unfold Zj; lia
 have hN := I.nl
 obtain ⟨B, eO, eD, eR⟩ := I.pre ho
 refine Z.J (Z.B5 (Z.H (Z.W (Z.H (Z.W (Z.B (v := .obj b) rfl rfl (Z.C6 (.inl (Zx L.n)) (by rw [Qd]; show s.N.length <= _; exact Qkb hN rfl) (Z.D4 ?_))))))))
 rw [Qd, show ({ s with op := true } : S4).N = s.N from rfl]
 refine Z.A6 (Ls4 b k nv v7 v8 v9 s hp) s.N.length (λ i μ hI hi => ?_) Zj 0 _ (by lia) (Q5 _) (.mk (D := []) (rd := st0 s) rfl ⟨L.n, L.t, L.p, by have := L.o; rw [show ({ s with op := true } : S4).O = [] from eO] at this; exact this, by have := L.f; rw [show ({ s with op := true } : S4).D = [] from eD] at this; exact this⟩ K5.refl (B.start I.nnd) (Kq.start I.nnd) rfl)
 obtain ⟨hj, L1, K1, Kk, q, e⟩ := hI
 rename_i w10 w11 hp' D rd T' j
 have hDl : D.length <= s.N.length := Z4 Kk.dnd λ a h => Kk.oN a h
 have hrl := Kk.rdLen
 rw [Zgn (by exact Qkb hN rfl) hi]
 by_cases hk : i < s.N.length
 ·right
  rw [Qo hk]
  refine ⟨hk, _, rfl, Z.I ?_⟩
  unfold Zel
  refine Z.J (Z.i (Z.H (Z.X (Z.B (v := .obj b) rfl rfl (Z.X (Z.B (v := .obj (b + 1)) rfl rfl (Z.X (Z.B (v := .obj (b + 3)) rfl rfl (Z.W (Z.B (v := .obj (b + 4)) rfl rfl (Zkz KS L1.ls Kk q (show s.N.length <= 60 from Qkb hN rfl) ht λ hpC jr U hjr er => Z.I ?_)))))))))))
  have L2 := L1.up U
  have hr : hp'.length <= jr := hjr
  have hb4 : b + 4 < hp'.length := (Qgl L1.f)
  refine Z.J (Z.A5 (Z.F9 (Z.B (v := .obj (b + 3)) rfl rfl ⟨_, _, rfl, L2.o, Z.W (Z.B (v := .obj jr) rfl rfl ⟨_, _, rfl, L2.o, .inl (Zx er), by rw [Qd, Qd]; show D.length + rd.length <= _; lia, ?_⟩)⟩)))
  have L3 := L2.setO (D ++ rd)
  rw [Xi] at L3
  have er3 := Zu (v := MO.lst (D.map PV.int ++ rd.map .int)) (show b + 3 ≠ jr by lia) er
  refine Z.J (Z.A5 (Z.F9 (Z.B (v := .obj (b + 4)) rfl rfl ⟨_, _, rfl, L3.f, Z.W (Z.B (v := .obj jr) rfl rfl ⟨_, _, rfl, L3.f, .inl (Zx er3), by rw [Qd, Qd]; show D.length + rd.length <= _; lia, ?_⟩)⟩)))
  have L4 := L3.setD (D ++ rd)
  rw [Xi] at L4
  obtain ⟨K', q'⟩ := round (show s.N.length <= 1000 from Qkb hN rfl) ht Kk
  cases j with
  | zero => exact Qe (hj.symm.trans (Nat.zero_add i)) (Nat.ne_of_gt hk)
  | succ j =>
  refine Z.L (.mk ((Nat.succ_add_eq_add_succ j i).symm.trans hj) (L4.rd (Zbw s.ts D rd)) (((K1.up U).set ⟨by lia, by lia⟩).set ⟨by lia, by lia⟩) K' q' ?_)
  rw [<- e, itr_s]
 ·left
  rw [Qq hk]
  have e' : i = s.N.length := Q3 hi (Nat.le_of_not_lt hk)
  subst e'
  cases Nat.add_right_cancel (hj.trans (Nat.zero_add _).symm)
  exact ⟨rfl, h _ _ _ _ _ e.symm L1 (Qkb (Qkk hDl hN) rfl) K1⟩
end

section
variable {hp : List MO} {fr : List PV} {E : Value -> St -> Prop} {b : Nat} {s : S4} {T : TSt} {k : Int} {nv : PV} {ns : List Int}
theorem Zh9 (L : L5 hp b s) {v7 v8 v9 v10 v11 : PV} {Q : Bool -> St -> Prop} (h : Q (decide (k ∈ [0, 1, 5]) == s.op) ⟨fW b k nv v7 v8 v9 v10 v11, hp⟩) :
  Z (Z2 .Eq (Zdm .In (Za 5) (Zdd (Zd (Pure.pure (.int 0)) (Zd (Pure.pure (.int 1)) (Zd (Pure.pure (.int 5)) (Pure.pure [])))))) (Zdm .Gt ((Zd (Za 2) (Pure.pure [])) >>= Zbz) (Pure.pure (.int 0)))) ⟨fW b k nv v7 v8 v9 v10 v11, hp⟩ Q E := by
 refine Z.l (Z.F2 (Z.B (v := .int k) rfl rfl (Z.E4 (Z.X (Z.B6 (Z.X (Z.B6 (Z.W (Z.B6 ⟨show 3 <= 1000000 by decide, Z.H7 (xs := [0, 1, 5]) (Z.F2 (Z.H (Z.W (Z.B (v := .obj (b + 2)) rfl rfl (Z.C6 (.inl (Zx L.p)) ?_ (Z.B6 (Z.gtI (Z.eqB ?_))))))))⟩)))))))))
 ·cases s.op <;> exact (show _ <= 1000000 by decide)
 ·cases ho : s.op with
  | true => rw [ho] at h; exact h
  | false => rw [ho] at h; exact h
theorem Zp3 (L : L5 hp b s) (e : (decide (k ∈ [0, 1, 5]) == s.op) = true) {rest : PM MF} {Q : PV -> St -> Prop} {v7 v8 v9 v10 v11 : PV} (h : Q (.lst [.str ("refused" : Str)]) ⟨fr, hp⟩) :
  Z (Zc (sIf (Z2 .Eq (Zdm .In (Za 5) (Zdd (Zd (Pure.pure (.int 0)) (Zd (Pure.pure (.int 1)) (Zd (Pure.pure (.int 5)) (Pure.pure [])))))) (Zdm .Gt ((Zd (Za 2) (Pure.pure [])) >>= Zbz) (Pure.pure (.int 0)))) (Zc (Zak (Zp false (Zd (Pure.pure (.str ("refused" : Str))) (Pure.pure [])))) Zg) Zg) rest) ⟨fW b k nv v7 v8 v9 v10 v11, hp⟩ (CQ fr Q) (CX fr E) := by
 refine Z.J (Z.A2 (Zh9 L ?_))
 rw [e]
 exact Z.J (Z.A7 (Z.G7 h))
theorem Z.D3 {j : Int} {b : Bool} (e : (k == j) = b) {v7 v8 v9 v10 v11 : PV} {c : Nat} {p q : PM MF} {Q : MF -> St -> Prop} (h : Z (match b with | true => p | false => q) ⟨fW c k nv v7 v8 v9 v10 v11, hp⟩ Q E) : Z (sIf (Z2 .Eq (Za 5) (Pure.pure (.int j))) p q) ⟨fW c k nv v7 v8 v9 v10 v11, hp⟩ Q E := by
 refine Z.A2 (Z.l (Z.B (v := .int k) rfl rfl (Z.B6 (Z.C3 ?_))))
 rw [e]
 cases b <;> exact h
theorem Zte (KS : Zdg) (L : L5 hp b s) (I : In4 s T) (ht : s.ts.length <= 1000) (hk : Kd k) (hns : k = 0 -> ns ≠ []) (hnl : ns.length <= 100) (V : Nm b hp ns nv) {Q : PV -> St -> Prop}
  (h : ∀ hp' v a s', Stp s k ns a s' -> L5 hp' b s' -> K5 b hp hp' -> (∀ hp'', (∀ i, hp.length <= i -> i < hp'.length -> hp''[i]? = hp'[i]?) -> Zv hp'' 16 v = some a) -> Q v ⟨fr, hp'⟩) :
  Z (Zdx d [.obj b, .obj (b + 1), .obj (b + 2), .obj (b + 3), .obj (b + 4), .int k, nv]) ⟨fr, hp⟩ Q E := by
 have hN := I.nl
 refine Z.A1 (init := fW b k nv .undef .undef .undef .undef .undef) rfl ?_
 unfold g_law_written
 cases ho : s.op with
 | true =>
  obtain ⟨K, q⟩ := I.run ho
  have hD : s.D.length <= s.N.length := Z4 K.dnd λ a h => K.oN a (K.dO a h)
  have hO : s.O.length <= s.N.length := Z4 K.ond K.oN
  have hR := K.rdLen
  rcases hk with hq | hB
  ·refine Zp3 L ?_ (h _ _ _ _ (.ref1 hq ho) L K5.refl λ _ _ => Zee)
   rw [ho]
   rcases hq with rfl | rfl | rfl <;> rfl
  have hn : (decide (k ∈ [0, 1, 5]) == s.op) = false := by
   rw [ho]
   rcases hB with rfl | rfl | rfl <;> rfl
  refine Z.J (Z.A2 (Zh9 L ?_))
  rw [hn]
  refine Z.L (Z.J (Z.D3 (b := false) (by rcases hB with rfl | rfl | rfl <;> rfl) (Z.L (Z.J ?_))))
  by_cases h3 : k = 3
  ·subst h3
   refine Z.D3 (b := true) rfl (Ztc L V (Qkb (Qkk hD hN) rfl) hnl (λ hp' v7 xs ys c e G nb L' K' => ?_) λ hp' v7 G L' K' => ?_)
   ·subst e
    exact h _ _ _ _ (.doneR ho G nb) (L'.rd _) K' λ _ _ => Zee
   ·exact Z.J (Z.A7 (Z.B4 (Z.B6 (h _ _ _ _ (.done ho G) (L'.rd _) K' λ _ _ => Zau rfl))))
  refine Z.D3 (b := false) (by simpa using h3) (Z.L (Z.J (Z.A2 (Z.l (Z.B (v := .int k) rfl rfl (Z.E4 (Z.X (Z.B6 (Z.W (Z.B6 ⟨show 2 <= 1000000 by decide, Z.H7 (xs := [1, 5]) ?_⟩))))))))))
  rw [show decide (k ∈ [1, 5]) = false by rcases hB with rfl | rfl | rfl <;> rfl]
  refine Z.L (Z.J (Z.i (Z.H (Z.X (Z.B (v := .obj b) rfl rfl (Z.X (Z.B (v := .obj (b + 1)) rfl rfl (Z.X (Z.B (v := .obj (b + 3)) rfl rfl (Z.W (Z.B (v := .obj (b + 4)) rfl rfl (Zkz KS L.ls K q (Qkb hN rfl) ht λ hpB j U hj er => Z.I (Z.J ?_)))))))))))))
  have L1 := L.up U
  have K1 : K5 b hp hpB := K5.refl.up U
  by_cases h4 : k = 4
  ·subst h4
   refine Z.D3 (b := true) rfl (Z.J (Z.A7 (Z.B4 (Z.two (Z.B6 (Z.eOr (Z.F2 (Z.H (Z.W (Z.B (v := .obj (b + 4)) rfl rfl (Z.C6 (.inl (Zx L1.f)) (by rw [Qd]; exact Qkb (Qkk hD hN) rfl) (Z.H (Z.W (Z.B (v := .obj (b + 3)) rfl rfl (Z.C6 (.inl (Zx L1.o)) (by rw [Qd]; exact Qkb (Qkk hO hN) rfl) (Z.J7 ⟨_, rfl, λ e => ?_, λ e => ?_⟩))))))))))))))))
   all_goals rw [Qd, Qd] at e
   ·have := h hpB (.lst [.str ("said" : Str), .lst [.bool true, .bool true]]) _ _ (.act (ns := ns) ho) L1 K1
    rw [(decide_eq_decide.mpr Int.ofNat_lt.symm).trans e] at this
    exact this λ _ _ => Zau rfl
   ·refine Z.F2 (Z.H (Z.W (Z.B (v := .obj j) rfl rfl (Z.C6 (.inl (Zx er)) (by rw [Qd]; exact Qkb (Qkk hR hN) rfl) (Z.B6 (Z.gtI ?_))))))
    have := h hpB (.lst [.str ("said" : Str), .lst [.bool true, .bool (!s.rd.isEmpty)]]) _ _ (.act (ns := ns) ho) L1 K1
    rw [(decide_eq_decide.mpr Int.ofNat_lt.symm).trans e] at this
    have e2 : decide (((s.rd.map PV.int).length : Int) > 0) = !s.rd.isEmpty := by
     rw [Qd]
     cases s.rd with
     | nil => rfl
     | cons x l => exact Qg (by rw [Xd]; lia)
    rw [e2]
    exact this λ _ _ => Zau rfl
  ·have h2 : k = 2 := hB.resolve_right λ q => q.elim h3 h4
   subst h2
   refine Z.D3 (b := false) rfl (Z.L (Z.J (Z.A5 (Z.F9 (Z.B (v := .obj (b + 3)) rfl rfl ⟨_, _, rfl, L1.o, Z.W (Z.B (v := .obj j) rfl rfl ⟨_, _, rfl, L1.o, .inl (Zx er), by rw [Qd, Qd]; lia, ?_⟩)⟩)))))
   have L2 := L1.setO (s.O ++ s.rd)
   rw [Xi] at L2
   have hj' : b + 3 < hp.length := (Qgl L.o)
   have er2 := Zu (v := MO.lst (s.O.map PV.int ++ s.rd.map .int)) (show b + 3 ≠ j from Nat.ne_of_lt (Qll hj' hj)) er
   refine Z.J (Z.A7 (Z.B4 (Z.H (Z.W (Z.B (v := .obj j) rfl rfl (Z.H9 (xs := s.rd.map .int) (.inl (Zx er2)) (by rw [Qd]; exact Qkb (Qkk hR hN) rfl) ?_))))))
   exact h _ _ _ _ (.get ho) (L2.rd _) (K1.set ⟨by lia, by lia⟩) λ _ _ => Zau Zlx
 | false =>
  obtain ⟨B, eO, eD, eR⟩ := I.pre ho
  rcases hk with hA | hq
  case inr =>
   refine Zp3 L ?_ (h _ _ _ _ (.ref2 hq ho) L K5.refl λ _ _ => Zee)
   rw [ho]
   rcases hq with rfl | rfl | rfl <;> rfl
  have hn : (decide (k ∈ [0, 1, 5]) == s.op) = false := by
   rw [ho]
   rcases hA with rfl | rfl | rfl <;> rfl
  refine Z.J (Z.A2 (Zh9 L ?_))
  rw [hn]
  refine Z.L (Z.J ?_)
  by_cases h0 : k = 0
  ·subst h0
   obtain ⟨a, ps, rfl⟩ := List.exists_cons_of_ne_nil (hns rfl)
   ·
    rw [Xd] at hnl
    exact Z.D3 (b := true) rfl (Zuu L V (Qkb hN rfl) ht (by lia) λ hp' v7 v8 L' K' => Z.J (Z.A7 (Z.B4 (Z.B6 (h _ _ _ _ (.add ho) L' K' λ _ _ => Zau rfl)))))
  refine Z.D3 (b := false) (by simpa using h0) (Z.L (Z.J (Z.D3 (b := false) (by rcases hA with rfl | rfl | rfl <;> rfl) (Z.L (Z.J (Z.A2 (Z.l (Z.B (v := .int k) rfl rfl (Z.E4 (Z.X (Z.B6 (Z.W (Z.B6 ⟨show 2 <= 1000000 by decide, Z.H7 (xs := [1, 5]) ?_⟩)))))))))))))
  rw [show decide (k ∈ [1, 5]) = true by rcases hA.resolve_left h0 with rfl | rfl <;> rfl]
  refine Ztd L ho (Qkb hN rfl) ht λ hpB l v10 L1 K1 el hl => ?_
  refine Z.J (Z.A2 (Z.D6 (Z.B (v := .obj l) rfl rfl (Z.F5 el (by rw [Qd]; exact Qkb hl rfl) ?_))))
  by_cases hf : ∀ a ∈ s.N, Fr s.ts a
  ·rw [(Zry I.tin).mpr hf]
   refine Z.L (Z.J ?_)
   by_cases h1 : k = 1
   ·subst h1
    exact Z.D3 (b := true) rfl (Z.J (Z.A7 (Z.B4 (Z.B6 (h _ _ _ _ (.prep ho hf) (L1.rd _) K1 λ _ _ => Zau rfl)))))
   ·have h5 : k = 5 := (hA.resolve_left h0).resolve_left h1
    subst h5
    refine Z.D3 (b := false) rfl (Z.L (Zp2 KS L1 I ho ht λ hpC D rd v10 v11 ei L2 hD K2 => ?_))
    refine Z.J (Z.A7 (Z.B4 (Z.H (Z.W (Z.B (v := .obj (b + 4)) rfl rfl (Z.F4 L2.f (by rw [Qd]; show D.length <= _; exact Qkb hD rfl) ?_))))))
    have K3 := K1.trans K2
    refine h _ _ _ _ (.stat ho hf ei) (L2.up Up.refl.app) (K3.up Up.refl.app) λ hp'' hh => Zau (Ze5 ((hh hpC.length K3.len ?_).trans Z7))
    rw [Qk]; exact Nat.lt_succ_self _
  ·have hne : (!((Zb0 s.ts s.N.length s.N).map PV.int).isEmpty) = true := by
    cases e : Zb0 s.ts s.N.length s.N with
    | nil => exact Qe ((Zry I.tin).mp e) hf
    | cons => rfl
   rw [hne]
   exact Z.J (Z.A7 (Z.G7 (h _ _ _ _ (.ring (hA.resolve_left h0) ho hf) (L1.rd _) K1 λ _ _ => Zh8)))
end

theorem Bt.scLen {ns : List Int} {ts : Ed} {T : TSt} (B : Bt ns ts T) (q : Int) : (T.sc q).length <= ts.length := by
 rw [B.sc]
 unfold scL
 rw [Qd]
 exact length_filter_le _ _
theorem Zwo {sc : Int -> List Int} {m : Nat} (h : ∀ a, (sc a).length <= m) (U : List Int) : Wt sc U [] <= U.length * (2 * m + 1) := by
 unfold Wt
 have e : (U.filter λ a => decide (a ∉ ([] : List Int))) = U := List.filter_eq_self.mpr λ a _ => by simp
 rw [e]
 exact Zpz (f := wgt sc) (λ a => Nat.succ_le_succ (Nat.mul_le_mul_left 2 (h a))) U
section
variable {hp : List MO} {fr : List PV} {E : Value -> St -> Prop} {o : Nat} {T : TSt} {ly : Lay} {ns : List Int} {ts : Ed}
theorem Zia (S : SAt d hp o T ly) (B : Bt ns ts T) (hnl : ns.length <= 100) (htl : ts.length <= 1000) {Q : PV -> St -> Prop}
  (h : ∀ hp' ly', SAt d hp' o (Zci T) ly' -> Grow o T ly hp (Zci T) ly' hp' -> ((∀ a ∈ ns, Fr ts a) -> Q .none ⟨fr, hp'⟩) ∧ (¬ (∀ a ∈ ns, Fr ts a) -> E (.ref d.CE) ⟨fr, hp'⟩)) : Z (Zc7 d [.obj o]) ⟨fr, hp⟩ Q E := by
 refine Zx6 S B.ready (λ a _ s hs => ?_) (by rw [B.order]; exact Qkb hnl rfl) ?_ λ hp' ly' S' g' => ?_
 ·rw [B.sc, Zed] at hs
  rw [B.order]; exact (B.tin _ hs).2
 ·exact Qkb (Qkk (Zwo B.scLen T.order) (Nat.mul_le_mul (by rw [B.order]; exact hnl) (Nat.succ_le_succ (Nat.mul_le_mul_left 2 htl)))) rfl
 ·have := h hp' ly' S' g'
  rw [<- Zyk B.tin] at this
  rw [B.order, B.sc]; exact this
theorem Zk1 (S : SAt d hp o T ly) (hr : T.ready = none) {x : Str} {rest : PM MF} {Q : MF -> St -> Prop} (e : fr[0]? = some (.obj o)) (h : E (.type "ValueError") ⟨fr, hp⟩) :
  Z (Zc (sIf (Z2 .Is (Zaj d.TS ("_ready_nodes" : Str) (Za 0)) (Pure.pure .none)) (Zc (Zbd (.type "ValueError") (Zd (Pure.pure (.str x)) (Pure.pure []))) Zg) Zg) rest) ⟨fr, hp⟩ Q E := by
 refine Z.J (Z.A2 (Z.l (Z.E6 S e ?_)))
 rw [Zh2 hr]
 exact Z.S (Z.C0 rfl (Z.J (Z.E7 (Z.X (Z.B6 (Z.y ⟨rfl, h⟩))))))
theorem Zr0 (S : SAt d hp o T ly) {xs : List Int} (hr : T.ready = some xs) {x : Str} {rest : PM MF} {Q : MF -> St -> Prop} (e : fr[0]? = some (.obj o)) (h : E (.type "ValueError") ⟨fr, hp⟩) :
  Z (Zc (sIf (Z2 .IsNot (Zaj d.TS ("_ready_nodes" : Str) (Za 0)) (Pure.pure .none)) (Zc (Zbd (.type "ValueError") (Zd (Pure.pure (.str x)) (Pure.pure []))) Zg) Zg) rest) ⟨fr, hp⟩ Q E := by
 refine Z.J (Z.A2 (Z.l (Z.E6 S e ?_)))
 rw [Zcp hr]
 exact Z.S (Z.D1 (x := .obj ly.rn) rfl (Z.J (Z.E7 (Z.X (Z.B6 (Z.y ⟨rfl, h⟩))))))
theorem Zq2 (S : SAt d hp o T ly) {xs : List Int} (hr : T.ready = some xs) (a : Int) (ps : List Int) (hl : ps.length <= 1000) {Q : PV -> St -> Prop} (h : E (.type "ValueError") ⟨fr, hp⟩) : Z (k_add d (.obj o :: .int a :: ps.map .int)) ⟨fr, hp⟩ Q E := by
 refine Z.A1 (init := [.obj o, .int a, .tup (ps.map .int), .undef, .undef, .undef]) ?_ ?_
 ·show (match Z3 (ps.map PV.int) with | true => _ | false => _) = _
  rw [show Z3 (ps.map PV.int) = true from Qg (by rw [Qd]; exact Qkb hl rfl)]
 ·unfold g_add
  exact Zr0 S hr rfl h
theorem Zjt (S : SAt d hp o T ly) {xs : List Int} (hr : T.ready = some xs) {Q : PV -> St -> Prop} (h : E (.type "ValueError") ⟨fr, hp⟩) : Z (Zc7 d [.obj o]) ⟨fr, hp⟩ Q E := by
 refine Z.A1 rfl ?_
 unfold Zgw
 exact Zr0 S hr rfl h
theorem Zp4 (S : SAt d hp o T ly) (hr : T.ready = none) {Q : PV -> St -> Prop} (h : E (.type "ValueError") ⟨fr, hp⟩) : Z (Zcw d [.obj o]) ⟨fr, hp⟩ Q E := by
 refine Z.A1 rfl ?_
 unfold Zfa
 exact Zk1 S hr rfl h
theorem Zp5 (S : SAt d hp o T ly) (hr : T.ready = none) {Q : PV -> St -> Prop} (h : E (.type "ValueError") ⟨fr, hp⟩) : Z (Zds d [.obj o]) ⟨fr, hp⟩ Q E := by
 refine Z.A1 rfl ?_
 unfold Zfb
 exact Zk1 S hr rfl h
theorem Zn2 (S : SAt d hp o T ly) (hr : T.ready = none) (as : List Int) (hl : as.length <= 1000) {Q : PV -> St -> Prop} (h : E (.type "ValueError") ⟨fr, hp⟩) : Z (Zgh d (.obj o :: as.map .int)) ⟨fr, hp⟩ Q E := by
 refine Z.A1 (init := [.obj o, .tup (as.map .int), .undef, .undef, .undef, .undef, .undef, .undef]) ?_ ?_
 ·show (match Z3 (as.map PV.int) with | true => _ | false => _) = _
  rw [show Z3 (as.map PV.int) = true from Qg (by rw [Qd]; exact Qkb hl rfl)]
 ·unfold Zlo
  exact Zk1 S hr rfl h
end
section
variable {hp : List MO} {fr : List PV} {E : Value -> St -> Prop} {o : Nat} {T : TSt} {ly : Lay} {ns : List Int} {ts : Ed} {O D rd : List Int}
theorem Zp6 (S : SAt d hp o T ly) (K : Kn ns ts T O D rd) (hnl : ns.length <= 100) (htl : ts.length <= 1000) (xs : List Int) (hxn : xs.Nodup) (hx : ∀ b ∈ xs, b ∈ O ∧ b ∉ D) {Q : PV -> St -> Prop}
  (h : ∀ hp' T', SAt d hp' o T' ly -> Kn ns ts T' O (D ++ xs) (rd ++ Zbw ts D xs) -> Zbi o T ly hp hp' -> (∀ i, Fp o T' ly i ↔ Fp o T ly i) -> Q .none ⟨fr, hp'⟩) : Z (Zgh d (.obj o :: xs.map .int)) ⟨fr, hp⟩ Q E := by
 have := Zp0 (Q := Q) (E := E) (fr := fr) S K hnl htl xs [] hxn hx (Q5 _) (λ b ys e => nomatch e) λ hp' T' S' K' s' e' => ⟨λ _ => h hp' T' S' K' s' e', λ q => Qe rfl q⟩
 rw [append_nil] at this
 exact this
end
section
variable {fr fg : List PV} {hp : List MO} {E : Value -> St -> Prop}
theorem Z.K6 {α : Type} {f : PM α} {Q : α × List PV -> St -> Prop} (h : Z f ⟨fg, hp⟩ (λ a μ' => Q (a, μ'.fr) ⟨fr, μ'.hp⟩) (λ _ _ => False)) : Z (Mine.swq fg f) ⟨fr, hp⟩ Q E := by
 obtain ⟨a, μ', e, q⟩ := h.run
 refine Z.V ?_ q
 unfold Mine.swq
 rw [e]
theorem Z.swp {α : Type} {m : Value -> Option Bool} {f : PM α} {Q : α × List PV -> St -> Prop} (h : Z f ⟨fg, hp⟩ (λ a μ' => Q (a, μ'.fr) ⟨fr, μ'.hp⟩) (λ x μ' => m x = some false ∧ E x ⟨fr, μ'.hp⟩)) : Z (Mine.swp m fg f) ⟨fr, hp⟩ Q E := by
 refine .mk ?_
 have h := h.get
 unfold Wp0 at h ⊢
 unfold Mine.swp
 try dsimp only
 cases e : f ⟨fg, hp⟩ with
 | ok a μ' => rw [e] at h; exact h
 | bad => rw [e] at h; exact h
 | exc x μ' =>
  rw [e] at h
  try dsimp only at h ⊢
  rw [h.1]
  exact h.2
theorem Z.try2 {f g g' : PM MF} {m m' : Value -> Option Bool} {μ : St} {Q : MF -> St -> Prop} (h : Z f μ Q (λ x μ' => (m x = some true ∧ Z g μ' Q λ _ _ => False) ∨ (m x = some false ∧ m' x = some true ∧ Z g' μ' Q λ _ _ => False))) : Z (tryM f [(m, g), (m', g')]) μ Q E := by
 refine .mk ?_
 have h := h.get
 unfold Wp0 at h ⊢
 unfold tryM
 cases e : f μ with
 | ok a μ' => rw [e] at h; exact h
 | bad => rw [e] at h; exact h
 | exc x μ' =>
  rw [e] at h
  try dsimp only at h ⊢
  rcases h with ⟨h1, h2⟩ | ⟨h1, h3, h2⟩
  ·obtain ⟨a, μ'', e2, q⟩ := h2.run
   rw [Zfe, h1]
   try dsimp only
   unfold Zj3
   dsimp only
   rw [e2]; exact q
  ·obtain ⟨a, μ'', e2, q⟩ := h2.run
   rw [Zfe, h1]
   try dsimp only
   rw [Zfe, h3]
   try dsimp only
   unfold Zj3
   dsimp only
   rw [e2]; exact q
end
structure Kw (w : Nat) (hp hp' : List MO) : Prop where
 len : hp'.length = hp.length
 old : ∀ i, i ≠ w -> hp'[i]? = hp[i]?
section
variable {hp : List MO} {E : Value -> St -> Prop} {o w : Nat} {v1 v2 v3 : PV}
theorem Zr1 {k : PM MF} {Q : MF -> St -> Prop} : ∀ (xs ys : List Int) {v5 : PV} {hp : List MO}, hp[w]? = some (.lst (ys.map .int)) -> ys.length + xs.length <= 1000 ->
  (∀ hp' v5, hp'[w]? = some (.lst ((ys ++ xs).map .int)) -> Kw w hp hp' -> Z k ⟨[v1, v2, v3, .undef, .obj w, v5], hp'⟩ Q E) -> Z (Zfc (Zev (Zh 5) (Zdi d)) k (xs.map .int)) ⟨[v1, v2, v3, .undef, .obj w, v5], hp⟩ Q E
 | [] => λ ys {v5} {hp} hw hl h => by
  have := h hp v5
  rw [append_nil] at this
  exact this hw ⟨rfl, λ _ _ => rfl⟩
 | x :: xs => λ ys {v5} {hp} hw hl h => by
  rw [Xd] at hl
  rw [Xa, Zrj]
  refine Z.H (Z.H (Z.I ?_))
  unfold Zdi
  refine Z.J (Z.A5 (Z.A0 (Z.B (v := .obj w) rfl rfl (Z.u hw (Z.B (v := .int x) rfl rfl (Z.A3 hw (by rw [Qd]; lia) (Z.L ?_)))))))
  have hw' : (hp.set w (.lst (ys.map PV.int ++ [.int x])))[w]? = some (.lst ((ys ++ [x]).map .int)) := by rw [Xi]; exact Z5 hw
  refine Zr1 xs (ys ++ [x]) hw' (by rw [Qk, length_singleton]; lia) λ hp' v5 e K => h hp' v5 ?_ ⟨K.len.trans length_set, λ i hi => (K.old i hi).trans (Qf (Ne.symm hi))⟩
  rw [append_assoc] at e; exact e
theorem Zuv {N : List Int} {ts : Ed} (hN : N.length <= 100) (ht : ts.length <= 1000) {ly : Lay} {D' rd' : List Int} {Q : MF -> St -> Prop} : ∀ (n m : Nat) {D rd : List Int} {T : TSt} {hp : List MO} {v5 x1 : PV}, SAt d hp o T ly -> Kn N ts T D D rd -> hp[w]? = some (.lst (D.map .int)) -> ¬ Fp o T ly w -> N.length <= m + D.length -> m < n -> itr ts m (D, rd) = (D', rd') ->
  (∀ hp' T' v5, SAt d hp' o T' ly -> Kn N ts T' D' D' rd' -> hp'[w]? = some (.lst (D'.map .int)) -> (∀ i, Fp o T' ly i ↔ Fp o T ly i) -> hp'.length = hp.length -> (∀ i, i ≠ w -> ¬ Fp o T ly i -> hp'[i]? = hp[i]?) -> Q .next ⟨[v1, v2, v3, .undef, .obj w, v5], hp'⟩) ->
  Z (Zfw (Zev (Zh 5) (Zdi d)) (Ze2 d) (Zea d) (Zfh d) (Zfi d) n [.obj o, x1]) ⟨[v1, v2, v3, .undef, .obj w, v5], hp⟩ Q E := by
 intro n
 induction n with
 | zero => intro m D rd T hp v5 x1 _ _ _ _ _ h; exact Qe h (Nat.not_lt_zero m)
 | succ n ih =>
  intro m D rd T hp v5 x1 S K hw hnf hm hn hi h
  have hDl : D.length <= N.length := Z4 K.dnd λ a h => K.oN a h
  have hrl := K.rdLen
  show Z (Mine.swq _ (Ze2 d) >>= _) _ Q E
  refine Z.H (Z.K6 ?_)
  unfold Ze2
  refine Z.D6 (Z.A8 S rfl (Z.y (Zjr S K.ready (Qkb (Qkk hrl hN) rfl) (Z.F6 ?_))))
  rw [K.passed, K.fin, Q8 (Int.lt_irrefl _), Bool.false_or]
  cases rd with
  | nil =>
   rw [Zrz] at hi
   cases hi
   exact Z.S (h hp T v5 S K hw (λ _ => Iff.rfl) rfl λ _ _ _ => rfl)
  | cons y ys =>
  have hnd := (nodup_append.mpr ⟨K.ond, K.rnd, λ a ha b hb e => ((K.rm b).mp hb).2.1 (e ▸ ha)⟩ : (D ++ y :: ys).Nodup)
  have hl2 : (D ++ y :: ys).length <= N.length := Z4 hnd λ a ha => (Qma ha).elim (K.oN a) λ q => ((K.rm a).mp q).1
  rw [Qk, Xd] at hl2
  show Z (Mine.swq _ (Zea d) >>= _) _ Q E
  refine Z.H (Z.K6 ?_)
  unfold Zea
  refine Z.i (Z.A8 S rfl (Z.y (Zuq S K hN λ hpB TB SB KB s1 eB => Z.I ?_)))
  show Z (Mine.swq [.obj o, .tup ((y :: ys).map .int)] (Zfh d) >>= _) ⟨_, hpB⟩ Q E
  refine Z.H (Z.K6 (Z.B (v := .tup ((y :: ys).map .int)) rfl rfl ?_))
  show Z (Zfc _ _ ((y :: ys).map PV.int)) ⟨_, hpB⟩ Q E
  refine Zr1 (y :: ys) D ((s1.2 w hnf).trans hw) (by rw [Xd]; exact Qkb (Qkk hl2 hN) rfl) λ hpC w5 hw2 kw => ?_
  have hnf1 : ¬ Fp o TB ly w := λ q => hnf ((eB w).mp q)
  have SC : SAt d hpC o TB ly := SB.keep λ i hi => kw.old i λ e => hnf1 (e ▸ hi)
  refine Z.H (Z.K6 ?_)
  unfold Zfi
  refine Z.A5 (Z.A8 SC rfl (Z.argT (Z.B (v := .tup ((y :: ys).map .int)) rfl rfl ⟨_, rfl, by rw [Qd]; exact Qkb (Qkk hrl hN) rfl, ?_⟩)))
  refine Zp6 SC KB hN ht (y :: ys) K.rnd (λ b hb => ⟨mem_append_right _ hb, ((K.rm b).mp hb).2.1⟩) λ hpD TD S3 KD sD e₃ => ?_
  rw [List.nil_append] at KD
  have hnf3 : ¬ Fp o TD ly w := λ q => hnf1 ((e₃ w).mp q)
  cases m with
  | zero => exact Qe (Qkk hl2 (Nat.zero_add D.length ▸ hm)) (Nat.not_le_of_gt (Nat.lt_add_of_pos_right (Nat.succ_pos _)))
  | succ m =>
  refine ih m S3 KD ((sD.2 w hnf1).trans hw2) hnf3 (by rw [Qk, Xd]; lia) (Nat.lt_of_succ_lt_succ hn) (by rw [itr_s] at hi; exact hi) λ hp' T' v5 S' K' hw' e' hl' old' => h hp' T' v5 S' K' hw' (λ i => (e' i).trans ((e₃ i).trans (eB i))) (hl'.trans (sD.1.trans (kw.len.trans s1.1))) λ i hi hf => ?_
  have f1 : ¬ Fp o TB ly i := λ q => hf ((eB i).mp q)
  have f3 : ¬ Fp o TD ly i := λ q => f1 ((e₃ i).mp q)
  exact (old' i hi f3).trans ((sD.2 i f1).trans ((kw.old i hi).trans (s1.2 i hf)))
end

theorem small4 {b : Int} (h : 0 <= b ∧ b < 4) : Nat.blt b.natAbs.log2 64 = true := by
 obtain ⟨n, rfl, hn⟩ := nat4 h
 rcases n with _ | _ | _ | _ | n
 ·rfl
 ·rfl
 ·rfl
 ·rfl
 ·exact Qe hn (Qi (Nat.le_add_left 4 n))theorem Grow.app {o : Nat} {T : TSt} {ly : Lay} {hp l : List MO} : Grow o T ly hp T ly (hp ++ l) := ⟨by rw [Qk]; exact Nat.le_add_right _ _, λ i hi _ => Qc hi, λ _ h => .inl h⟩
theorem Zuw {N : List Int} {ts : Ed} (h1 : N.length <= 1000) (h2 : ts.length <= 1000) {D' rd' : List Int} : ∀ (m : Nat) {D rd : List Int} {T : TSt}, Kn N ts T D D rd -> Kq N ts D rd -> itr ts m (D, rd) = (D', rd') -> Kq N ts D' rd'
 | 0 => λ K q e => by cases e; exact q
 | m + 1 => λ K q e => Zuw h1 h2 m (round h1 h2 K).1 (round h1 h2 K).2 e
theorem Zux {ps : List Int} : ∀ {ns : List Int} {b : Int}, b ∈ ps.foldl Za6 ns -> b ∈ ns ∨ b ∈ ps := by
 induction ps with
 | nil => exact λ h => .inl h
 | cons p ps ih =>
  intro ns b h
  rcases ih h with q | q
  ·exact (Ze6.mp q).imp id λ e : b = p => by rw [e]; exact Q0
  ·exact .inr (Qv _ q)
theorem Ztf {ps : List Int} : ∀ {ns : List Int}, ns.Nodup -> (ps.foldl Za6 ns).Nodup := by
 induction ps with
 | nil => exact λ h => h
 | cons p ps ih => exact λ h => ih (Zl1 h)
section
variable {hp : List MO} {fr : List PV} {E : Value -> St -> Prop} {o : Nat} {T : TSt} {ly : Lay} {s s' : S4} {k : Int} {ns : List Int} {nv : PV} {a : PyData}
theorem Z.F8 {name : Str} {mS : Value -> Option Bool} {frm : List PV -> Option (List PV)} {fg : List PV} {g0 g1 g2 bm : PM MF} {t : PM Bool} {ge : PM PV} {asg : PV -> PM Unit} {n : Nat} {Q : MF -> St -> Prop} (S : SAt d hp o T ly) (hn : ([("_node2info" : Str), "_ready_nodes", "_npassedout", "_nfinished"].contains name) = false) (e : fr[0]? = some (.obj o)) (hf : frm [.obj o] = some fg)
  (h : Z g0 ⟨fg, hp⟩ (λ f μ' => Z (Zfm (Zfw (Zev asg bm) t g1 ge g2 n μ'.fr) f) ⟨fr, μ'.hp⟩ Q E) (λ x μ' => mS x = some false ∧ E x ⟨fr, μ'.hp⟩)) : Z (Zjx d.TS name mS frm (Za 0) g0 t g1 ge g2 asg bm n) ⟨fr, hp⟩ Q E := by
 refine Z.H (Z.B e rfl (Z.H (Z.M3 S hn ?_)))
 rw [hf]
 exact Z.H (Z.swp h)
theorem Z.A4 {j : Int} {v0 v3 v4 v5 : PV} {p rest : PM MF} {Q : MF -> St -> Prop} (e : (k == j) = false) (h : Z rest ⟨[v0, .int k, nv, v3, v4, v5], hp⟩ Q E) : Z (Zc (sIf (Z2 .Eq (Za 1) (Pure.pure (.int j))) p Zg) rest) ⟨[v0, .int k, nv, v3, v4, v5], hp⟩ Q E := by
 refine Z.J (Z.A2 (Z.l (Z.B (v := .int k) rfl rfl (Z.B6 (Z.C3 ?_)))))
 rw [e]
 exact Z.L h
theorem Z.E5 {j : Int} {v0 v3 v4 v5 : PV} {p rest : PM MF} {Q : MF -> St -> Prop} (e : (k == j) = true) (h : Z p ⟨[v0, .int k, nv, v3, v4, v5], hp⟩ (SQ rest Q E) E) : Z (Zc (sIf (Z2 .Eq (Za 1) (Pure.pure (.int j))) p Zg) rest) ⟨[v0, .int k, nv, v3, v4, v5], hp⟩ Q E := by
 refine Z.J (Z.A2 (Z.l (Z.B (v := .int k) rfl rfl (Z.B6 (Z.C3 ?_)))))
 rw [e]
 exact h
def retR (x : Str) : PM MF := Zc (Zak (Zp false (Zd (Pure.pure (.str x)) (Pure.pure [])))) Zg
def CA (Q : MF -> St -> Prop) : Value -> St -> Prop := λ x μ' => (isCE d x = some true ∧ Z (retR "ring") μ' Q λ _ _ => False) ∨ (isCE d x = some false ∧ Zcf d x = some true ∧ Z (retR "refused") μ' Q λ _ _ => False)theorem ca_ve {Q : MF -> St -> Prop} {μ : St} (h : Q (.ret (.lst [.str ("refused" : Str)])) μ) : CA Q (.type "ValueError") μ := .inr ⟨by unfold isCE; simp, by unfold Zcf; simp, Z.J (Z.A7 (Z.G7 h))⟩theorem ca_ce {Q : MF -> St -> Prop} {μ : St} (h : Q (.ret (.lst [.str ("ring" : Str)])) μ) : CA Q (.ref d.CE) μ := .inl ⟨by unfold isCE; simp, Z.J (Z.A7 (Z.G7 h))⟩theorem si_ve : isSI d (.type "ValueError") = some false := by unfold isSI; simp
theorem si_ce : isSI d (.ref d.CE) = some false := by unfold isSI; simp
theorem In4.start {s : S4} {T : TSt} (I : In4 s T) (ho : s.op = false) : In4 { s with op := true, rd := st0 s } (Zci T) := by
 obtain ⟨B, eO, eD, eR⟩ := I.pre ho
 refine ⟨(λ h => Bool.noConfusion h), λ _ => ?_, I.nnd, I.nin⟩
 show Kn s.N s.ts (Zci T) s.O s.D (st0 s) ∧ Kq s.N s.ts s.D (st0 s)
 rw [eO, eD]
 exact ⟨B.start I.nnd, Kq.start I.nnd⟩
theorem Zuy (S : SAt d hp o T ly) (I : In4 s T) (ht : s.ts.length <= 500) (st : Stp s k ns a s') (hns : k = 0 -> ns ≠ []) (hv : Zaa hp nv = some (ns.map .int)) (hu : uq nv = false) (hb : ∀ x ∈ ns, 0 <= x ∧ x < 4) (hnl : ns.length <= 100) {Q : PV -> St -> Prop}
  (h : ∀ hp' v T' ly', SAt d hp' o T' ly' -> In4 s' T' -> Grow o T ly hp T' ly' hp' -> Zv hp' 16 v = some a -> Q v ⟨fr, hp'⟩) : Z (Zek d [.obj o, .int k, nv]) ⟨fr, hp⟩ Q E := by
 have hN := I.nl
 have hF : 1000 < Zj := by unfold Zj; lia
 refine Z.A1 (init := [.obj o, .int k, nv, .undef, .undef, .undef]) rfl ?_
 unfold g_law_answer
 refine Z.J (Z.try2 ?_)
 show Z _ _ (SQ Zg (CQ fr Q) (CX fr E)) (CA (SQ Zg (CQ fr Q) (CX fr E)))
 have ret : ∀ {fr' hp' v T' ly'}, SAt d hp' o T' ly' -> In4 s' T' -> Grow o T ly hp T' ly' hp' -> Zv hp' 16 v = some a -> SQ Zg (CQ fr Q) (CX fr E) (.ret v) ⟨fr', hp'⟩ := λ S' I' g' r => h _ _ _ _ S' I' g' r
 generalize SQ Zg (CQ fr Q) (CX fr E) = Qa at ret ⊢
 clear h
 have early : s.op = false -> T.ready = none := λ ho => (I.pre ho).1.ready
 have late : s.op = true -> T.ready = some s.rd := λ ho => (I.run ho).1.ready
 cases st with
 | ref1 hk ho =>
  have no : ∀ {fr' : List PV} {hp' : List MO}, SAt d hp' o T ly -> Grow o T ly hp T ly hp' -> CA Qa (.type "ValueError") ⟨fr', hp'⟩ := λ S' g => ca_ve (ret S' I g Zee)
  rcases hk with rfl | rfl | rfl
  ·obtain ⟨x, ps, rfl⟩ := List.exists_cons_of_ne_nil (hns rfl)
   ·
    rw [Xd] at hnl
    exact Z.E5 rfl (Z.J (Z.A7 (Z.B4 (Z.A8 S rfl (Z.H3 (Z.B (v := nv) rfl hu ⟨_, hv, by rw [Qd, Xd]; exact Qkb hnl rfl, Zq2 S (late ho) x ps (by lia) (no S Grow.refl)⟩))))))
  ·exact Z.A4 rfl (Z.E5 rfl (Z.J (Z.A7 (Z.B4 (Z.A8 S rfl (Z.y (Zjt S (late ho) (no S Grow.refl))))))))
  ·have S1 : SAt d (hp ++ [MO.lst []]) o T ly := S.keep λ i hi => Qc (S.lt hi)
   refine Z.A4 rfl (Z.A4 rfl (Z.A4 rfl (Z.A4 rfl (Z.A4 rfl (Z.J (Z.i (Z.C1 (Z.y ⟨show 0 <= 1000000 by decide, Z.I (Z.J ?_)⟩))))))))
   refine Z.F8 S1 (by kernel_rfl) rfl rfl ?_
   unfold Zd9
   exact Z.A5 (Z.A8 S1 rfl (Z.y (Zjt S1 (late ho) ⟨si_ve, no S1 Grow.app⟩)))
 | ref2 hk ho =>
  have no : ∀ {fr' : List PV}, CA Qa (.type "ValueError") ⟨fr', hp⟩ := ca_ve (ret S I Grow.refl Zee)
  rcases hk with rfl | rfl | rfl
  ·exact Z.A4 rfl (Z.A4 rfl (Z.E5 rfl (Z.J (Z.A7 (Z.B4 (Z.A8 S rfl (Z.y (Zp4 S (early ho) no))))))))
  ·exact Z.A4 rfl (Z.A4 rfl (Z.A4 rfl (Z.E5 rfl (Z.J (Z.A7 (Z.B4 (Z.A8 S rfl (Z.H3 (Z.B (v := nv) rfl hu ⟨_, hv, by rw [Qd]; exact Qkb hnl rfl, Zn2 S (early ho) ns (Qkb hnl rfl) no⟩)))))))))
  ·exact Z.A4 rfl (Z.A4 rfl (Z.A4 rfl (Z.A4 rfl (Z.E5 rfl (Z.J (Z.i (Z.A8 S rfl (Z.y (Zp5 S (early ho) no)))))))))
 | add ho =>
  rename_i x ps
  obtain ⟨B, eO, eD, eR⟩ := I.pre ho
  rw [Xd] at hnl
  refine Z.E5 rfl (Z.J (Z.A7 (Z.B4 (Z.A8 S rfl (Z.H3 (Z.B (v := nv) rfl hu ⟨_, hv, by rw [Qd, Xd]; exact Qkb hnl rfl, ?_⟩))))))
  refine Zy5 S x ps B.ready (by rw [B.order]; lia) (λ q => Qj (B.scLen q) (Qkb ht rfl)) λ hp' ly' S' g' => ret S' ⟨λ _ => ⟨B.add x ps, eO, eD, eR⟩, λ e => Qe (ho.symm.trans e) Qt, Ztf (Zl1 I.nnd), λ b hb' => ?_⟩ g' (Zau rfl)
  rcases Zux hb' with q | q
  ·exact (Ze6.mp q).elim (I.nin b) λ e : b = x => hb b (by rw [e]; exact Q0)
  ·exact hb b (Qv _ q)
 | done ho G =>
  obtain ⟨K, q⟩ := I.run ho
  refine Z.A4 rfl (Z.A4 rfl (Z.A4 rfl (Z.E5 rfl (Z.J (Z.A7 (Z.B4 (Z.A8 S rfl (Z.H3 (Z.B (v := nv) rfl hu ⟨_, hv, by rw [Qd]; exact Qkb hnl rfl, ?_⟩)))))))))
  exact Zp6 S K (Qkb hN rfl) (Qkb ht rfl) ns G.1 G.2 λ hp' T' S' K' s' e' => ret S' ⟨λ e => Qe (ho.symm.trans e) (Ne.symm Qt), λ _ => ⟨K', Kq.doneAll (show s.N.length <= 1000 from Qkb hN rfl) (show s.ts.length <= 1000 from Qkb ht rfl) ns K q G.1 G.2⟩, I.nnd, I.nin⟩ (s'.grow e') (Zau rfl)
 | doneR ho G nb =>
  rename_i xs ys c
  obtain ⟨K, q⟩ := I.run ho
  rw [Qk] at hnl
  refine Z.A4 rfl (Z.A4 rfl (Z.A4 rfl (Z.E5 rfl (Z.J (Z.A7 (Z.B4 (Z.A8 S rfl (Z.H3 (Z.B (v := nv) rfl hu ⟨_, hv, by rw [Qd, Qk]; exact Qkb hnl rfl, ?_⟩)))))))))
  refine Zp0 S K (Qkb hN rfl) (Qkb ht rfl) xs (c :: ys) G.1 G.2 (by lia) (λ b zs e => ?_) λ hp' T' S' K' s' e' => ⟨(λ e => nomatch e), λ _ => ca_ve (ret S' ⟨λ e => Qe (ho.symm.trans e) (Ne.symm Qt), λ _ => ⟨K', Kq.doneAll (show s.N.length <= 1000 from Qkb hN rfl) (show s.ts.length <= 1000 from Qkb ht rfl) xs K q G.1 G.2⟩, I.nnd, I.nin⟩ (s'.grow e') Zee)⟩
  cases e
  exact ⟨small4 (hb _ (mem_append_right _ Q0)), nb⟩
 | ring hk ho nf =>
  have I' := I.start ho
  obtain ⟨B, eO, eD, eR⟩ := I.pre ho
  rcases hk with rfl | rfl
  ·refine Z.A4 rfl (Z.E5 rfl (Z.J (Z.A7 (Z.B4 (Z.A8 S rfl (Z.y ?_))))))
   exact Zia S B (Qkb hN rfl) (Qkb ht rfl) λ hp' ly' S' g' => ⟨λ f => Qe f nf, λ _ => ca_ce (ret S' I' g' Zh8)⟩
  ·have S1 : SAt d (hp ++ [MO.lst []]) o T ly := S.keep λ i hi => Qc (S.lt hi)
   refine Z.A4 rfl (Z.A4 rfl (Z.A4 rfl (Z.A4 rfl (Z.A4 rfl (Z.J (Z.i (Z.C1 (Z.y ⟨show 0 <= 1000000 by decide, Z.I (Z.J ?_)⟩))))))))
   refine Z.F8 S1 (by kernel_rfl) rfl rfl ?_
   unfold Zd9
   exact Z.A5 (Z.A8 S1 rfl (Z.y (Zia S1 B (Qkb hN rfl) (Qkb ht rfl) λ hp' ly' S' g' => ⟨λ f => Qe f nf, λ _ => ⟨si_ce, ca_ce (ret S' I' (Grow.app.trans g') Zh8)⟩⟩)))
 | prep ho hf =>
  obtain ⟨B, eO, eD, eR⟩ := I.pre ho
  refine Z.A4 rfl (Z.E5 rfl (Z.J (Z.A7 (Z.B4 (Z.A8 S rfl (Z.y ?_))))))
  exact Zia S B (Qkb hN rfl) (Qkb ht rfl) λ hp' ly' S' g' => ⟨λ _ => ret S' (I.start ho) g' (Zau rfl), λ f => Qe hf f⟩
 | stat ho hf ei =>
  rename_i D' rd'
  obtain ⟨B, eO, eD, eR⟩ := I.pre ho
  have S1 : SAt d (hp ++ [MO.lst []]) o T ly := S.keep λ i hi => Qc (S.lt hi)
  refine Z.A4 rfl (Z.A4 rfl (Z.A4 rfl (Z.A4 rfl (Z.A4 rfl (Z.J (Z.i (Z.C1 (Z.y ⟨show 0 <= 1000000 by decide, Z.I (Z.J ?_)⟩))))))))
  refine Z.F8 S1 (by kernel_rfl) rfl rfl ?_
  unfold Zd9
  refine Z.A5 (Z.A8 S1 rfl (Z.y (Zia S1 B (Qkb hN rfl) (Qkb ht rfl) λ hpB ly1 SB gB => ⟨λ _ => ?_, λ f => Qe hf f⟩)))
  have KB := B.start I.nnd
  have hlt : hp.length < (hp ++ [MO.lst []]).length := by rw [Qk]; exact Nat.lt_succ_self _
  have nf : ¬ Fp o T ly hp.length := λ q => Qe (S.lt q) (Q6 _)
  have nf1 : ¬ Fp o (Zci T) ly1 hp.length := λ q => (gB.new _ q).elim nf λ q => Qe hlt (Qi q)
  refine Zuv (N := s.N) (ts := s.ts) (Qkb hN rfl) (Qkb ht rfl) Zj s.N.length SB KB ((gB.old _ hlt nf).trans Z7) nf1 Qr (by lia) ei λ hpC TC v5 SC KC hw2 eC hlC old2 => ?_
  refine Z.J (Z.A7 (Z.B4 (Z.B (v := .obj hp.length) rfl rfl ?_)))
  refine ret SC ⟨λ e => (nomatch e), λ _ => ⟨KC, Zuw (show s.N.length <= 1000 from Qkb hN rfl) (show s.ts.length <= 1000 from Qkb ht rfl) _ KB (Kq.start I.nnd) ei⟩, I.nnd, I.nin⟩ ⟨?_, λ i hi hn => ?_, λ i hi => ?_⟩ (Zau (Ze5 hw2))
  ·rw [hlC]; exact Qj (Nat.le_of_lt hlt) gB.len
  ·have n1 : ¬ Fp o (Zci T) ly1 i := λ q => (gB.new _ q).elim hn λ q => by lia
   exact (old2 i (Nat.ne_of_lt hi) n1).trans ((gB.old i (Nat.lt_trans hi hlt) hn).trans (Qc hi))
  ·exact (gB.new _ ((eC i).mp hi)).imp id λ q => Nat.le_of_lt (Qll hlt q)
 | act ho =>
  obtain ⟨K, q⟩ := I.run ho
  have hrl := K.rdLen
  refine Z.A4 rfl (Z.A4 rfl (Z.A4 rfl (Z.A4 rfl (Z.E5 rfl (Z.J (Z.i (Z.A8 S rfl (Z.y (Zjr S K.ready (Qkb (Qkk hrl hN) rfl) (Z.I ?_))))))))))
  refine Z.J (Z.A7 (Z.B4 (Z.two (Z.H (Z.X (Z.B rfl rfl (Z.X (Z.B6 (Z.y (Z.V rfl (Z.B rfl rfl ?_)))))))))))
  refine ret S I Grow.refl (Zau ?_)
  rw [K.passed, K.fin, decide_eq_decide.mpr (Int.ofNat_lt : ((s.D.length : Int) < s.O.length) ↔ _)]; rfl
 | get ho =>
  obtain ⟨K, q⟩ := I.run ho
  refine Z.A4 rfl (Z.A4 rfl (Z.E5 rfl (Z.J (Z.A7 (Z.B4 (Z.A8 S rfl (Z.y ?_)))))))
  exact Zuq S K (Qkb hN rfl) λ hp' T' S' K' s' e' => ret S' ⟨λ e => Qe (ho.symm.trans e) (Ne.symm Qt), λ _ => ⟨K', List.Pairwise.nil⟩, I.nnd, I.nin⟩ (s'.grow e') (Zau Zlx)
end

noncomputable abbrev Na (ns : List Int) : Prop := ns ≠ [] ∧ ns.length <= 3 ∧ ∀ x ∈ ns, 0 <= x ∧ x < 4
inductive Ca (lo : Nat) (hp : List MO) : PV -> Prop
 | mk {k : Int} {i : Nat} {ns : List Int} (h : Kd k) (l : lo <= i) (e : hp[i]? = some (.lst (ns.map .int))) (n : Na ns) : Ca lo hp (.tup [.int k, .obj i])
theorem fmN (z : Int) {m : Nat} (h : 0 < m) : ∃ n : Nat, z.fmod (m : Int) = n ∧ n < m :=
 have q := Int.fmod_nonneg_of_pos z (Int.ofNat_lt.mpr h)
 ⟨_, (Qtn q).symm, Qtl q (Int.fmod_lt_of_pos z (Int.ofNat_lt.mpr h))⟩theorem fm {z m : Int} (h : 0 < m) : 0 <= z.fmod m ∧ z.fmod m < m := ⟨Int.fmod_nonneg_of_pos _ h, Int.fmod_lt_of_pos _ h⟩
section
variable {hp : List MO} {fr : List PV} {E : Value -> St -> Prop} {v0 v1 v2 v5 v6 v7 v8 v9 : PV} {j : Nat}
inductive Lc (v0 v1 v2 : PV) (j : Nat) (z kd n : Int) (hp : List MO) (k : Nat) : St -> Prop
 | mk {r : Int} {v9 : PV} {ns : List Int} (hl : ns.length = k + 1) (hb : ∀ x ∈ ns, 0 <= x ∧ x < 4) : Lc v0 v1 v2 j z kd n hp k ⟨[v0, v1, v2, .obj j, .int z, .int kd, .int r, .obj hp.length, .int n, v9], hp ++ [.lst (ns.map .int)]⟩
theorem Zwp {z : Int} {cs : List PV} (hj : hp[j]? = some (.lst cs)) (hc : cs.length <= 1000) {Q : MF -> St -> Prop}
  (h : ∀ hp' c v5 v6 v7 v8 v9, hp.length <= hp'.length -> (∀ i, i < hp.length -> i ≠ j -> hp'[i]? = hp[i]?) -> hp'[j]? = some (.lst (cs ++ [c])) -> Ca hp.length hp' c -> Q .next ⟨[v0, v1, v2, .obj j, .int z, v5, v6, v7, v8, v9], hp'⟩) :
  Z (Zfn d) ⟨[v0, v1, v2, .obj j, .int z, v5, v6, v7, v8, v9], hp⟩ Q E := by
 have hF : 1000 < Zj := by unfold Zj; lia
 have hjl := (Qgl hj)
 obtain ⟨m, hm, hm10⟩ : ∃ m : Nat, z.fmod 10 = m ∧ m < 10 := fmN z (by decide)
 have hks : ∀ x ∈ [(0 : Int), 0, 0, 0, 1, 2, 3, 3, 4, 5], Kd x := by decide
 obtain ⟨kd, hkd⟩ : ∃ kd : Int, [(0 : Int), 0, 0, 0, 1, 2, 3, 3, 4, 5][m]? = some kd := ⟨_, Q2 hm10⟩
 have hk := hks kd (Qm hkd)
 unfold Zfn
 refine Z.J (Z.i (Z.D0 (Z.E4 (Z.X (Z.B6 (Z.X (Z.B6 (Z.X (Z.B6 (Z.X (Z.B6 (Z.X (Z.B6 (Z.X (Z.B6 (Z.X (Z.B6 (Z.X (Z.B6 (Z.X (Z.B6 (Z.X (Z.B6 (Z.y ⟨show 10 <= 1000000 by decide, ?_⟩))))))))))))))))))))))))
 refine Z.D5 (Z.B (v := .int z) rfl rfl (Z.B6 (Z.H1 (by decide) (Z.E3 hm (.inr rfl) (y := .int kd) ?_ (show 10 <= 1000000 by decide) (Z.I ?_)))))
 ·have : ([(0 : Int), 0, 0, 0, 1, 2, 3, 3, 4, 5].map PV.int)[m]? = some (.int kd) := by rw [Ql, hkd]; rfl
  exact this
 refine Z.J (Z.i (Z.D5 (Z.B (v := .int z) rfl rfl (Z.B6 (Z.I7 (by decide) (by decide) (Z.I ?_))))))
 refine Z.J (Z.i (Z.C1 (Z.W (Z.D5 (Z.B rfl rfl (Z.B6 (Z.H1 (by decide) ⟨show 1 <= 1000000 by decide, Z.I ?_⟩)))))))
 refine Z.J (Z.i (Z.D5 (Z.B rfl rfl (Z.B6 (Z.I7 (by decide) (by decide) (Z.I ?_))))))
 refine Z.J (Z.i (Z.D5 (Z.B rfl rfl (Z.B6 (Z.H1 (by decide) (Z.I ?_))))))
 refine Z.J (Z.i (Z.D5 (Z.B rfl rfl (Z.B6 (Z.I7 (by decide) (by decide) (Z.I ?_))))))
 show Z _ ⟨[v0, v1, v2, .obj j, .int z, .int kd, .int _, .obj hp.length, .int _, v9], hp ++ [.lst [.int _]]⟩ _ _
 generalize ((z.fdiv 10).fdiv 4).fdiv 3 = r
 obtain ⟨n, hn, hn3⟩ : ∃ n : Nat, ((z.fdiv 10).fdiv 4).fmod 3 = n ∧ n < 3 := fmN _ (by decide)
 rw [hn]
 have hx := fm (z := z.fdiv 10) (m := 4) (by decide)
 generalize (z.fdiv 10).fmod 4 = x at hx
 refine Z.J (Z.B5 (Z.H (Z.W (Z.B (v := .int n) rfl rfl (Z.D4 ?_)))))
 refine Z.A6 (Lc v0 v1 v2 j z kd n hp) n (λ k μ hI hi => ?_) Zj 0 _ (Qkl (Qlkc hn3 rfl) hF) (Q5 _) (.mk (ns := [x]) rfl λ y hy => by rw [Qz] at hy; rw [hy]; exact hx)
 obtain ⟨hl, hb⟩ := hI
 rename_i r9 w9 ns
 rw [Zgn (by exact Qlkc hn3 rfl) hi]
 by_cases hkn : k < n
 ·right
  rw [Qo hkn]
  refine ⟨hkn, _, rfl, Z.I ?_⟩
  unfold Zik
  refine Z.J (Z.A5 (Z.A0 (Z.B (v := .obj hp.length) rfl rfl (Z.u Z7 (Z.D5 (Z.B (v := .int r9) rfl rfl (Z.B6 (Z.H1 (by decide) (Z.A3 Z7 (by rw [Qd]; exact Qkb (Qkk (Qek hl (Nat.succ_le_succ hi)) hn3) rfl) ?_)))))))))
  refine Z.J (Z.i (Z.D5 (Z.B (v := .int r9) rfl rfl (Z.B6 (Z.I7 (by decide) (by decide) (Z.I (Z.L ?_)))))))
  rw [Zf7]
  have := Lc.mk (v0 := v0) (v1 := v1) (v2 := v2) (j := j) (z := z) (kd := kd) (n := n) (hp := hp) (k := k + 1) (r := r9.fdiv 4) (v9 := .int k) (ns := ns ++ [r9.fmod 4]) (by rw [Qk, hl]; rfl) λ y hy => (Qma hy).elim (hb y) λ q => by rw [Qz] at q; rw [q]; exact fm (by decide)
  rw [Xi] at this
  exact this
 ·left
  rw [Qq hkn]
  refine ⟨rfl, ?_⟩
  have hj' := getElem?_app (r := [MO.lst (ns.map PV.int)]) hj
  refine Z.J (Z.A5 (Z.A0 (Z.B (v := .obj j) rfl rfl (Z.u hj' (Z.E4 (Z.X (Z.B (v := .int kd) rfl rfl (Z.W (Z.B (v := .obj hp.length) rfl rfl ⟨show 2 <= 1000000 by decide, Z.A3 hj' (Qkb hc rfl) (Z.L ?_)⟩)))))))))
  refine h _ _ _ _ _ _ _ ?_ (λ i hi hne => ?_) (Z5 hj') (.mk hk Qr (Zu (Nat.ne_of_lt hjl) Z7) ⟨λ e => ?_, Qkk (Qek hl (Nat.succ_le_succ hi)) hn3, hb⟩)
  ·rw [length_set, Qk]; exact Nat.le_add_right _ _
  ·rw [Qf (Ne.symm hne), Qc hi]
  ·rw [e] at hl; cases hl
inductive Lsl (xs : List Int) (hp : List MO) (k : Nat) : St -> Prop
 | mk {v2 : PV} {zs : List Int} (hl : zs.length = min k 12) : Lsl xs hp k ⟨[.lst (xs.map .int), .obj hp.length, v2, .undef, .undef, .undef, .undef, .undef, .undef, .undef], hp ++ [.lst (zs.map .int)]⟩
inductive Lcl (v0 v2 : PV) (zs : List Int) (hp : List MO) (k : Nat) : St -> Prop
 | mk {v4 v5 v6 v7 v8 v9 : PV} {hp' : List MO} {cs : List PV} (hlen : hp.length + 2 <= hp'.length) (old : ∀ i, i < hp.length + 1 -> hp'[i]? = (hp ++ [.lst (zs.map .int)])[i]?) (hc : hp'[hp.length + 1]? = some (.lst cs)) (hl : cs.length = k) (hca : ∀ c ∈ cs, Ca (hp.length + 2) hp' c) :
  Lcl v0 v2 zs hp k ⟨[v0, .obj hp.length, v2, .obj (hp.length + 1), v4, v5, v6, v7, v8, v9], hp'⟩
theorem Zwq {xs : List Int} (hl : xs.length <= 63) {Q : PV -> St -> Prop}
  (h : ∀ hp' j cs, Up hp hp' -> hp.length <= j -> hp'[j]? = some (.lst cs) -> cs.length <= 12 -> (∀ c ∈ cs, Ca hp.length hp' c) -> Q (.obj j) ⟨fr, hp'⟩) : Z (Zg6 d [.lst (xs.map .int)]) ⟨fr, hp⟩ Q E := by
 have hF : 1000 < Zj := by unfold Zj; lia
 have hlx : (xs.map PV.int).length = xs.length := Qd ..
 refine Z.A1 rfl ?_
 unfold g_law_calls
 refine Z.J (Z.i (Z.C1 (Z.y ⟨show 0 <= 1000000 by decide, Z.I ?_⟩)))
 refine Z.J (Z.B5 (Z.H (Z.W (Z.H (Z.W (Z.B (v := .lst (xs.map .int)) rfl rfl (Z.C6 (.inl Zmk) (Qkb (Qek hlx hl) rfl) (Z.D4 ?_))))))))
 rw [hlx]
 refine Z.A6 (Lsl xs hp) xs.length (λ k μ hI hk => ?_) Zj 0 _ (by lia) (Q5 _) (.mk (zs := []) rfl)
 obtain ⟨hz⟩ := hI
 rename_i v2 zs
 rw [Zgn (by exact Qkb hl rfl) hk]
 by_cases hkx : k < xs.length
 ·right
  rw [Qo hkx]
  refine ⟨hkx, _, rfl, Z.I ?_⟩
  have hx : (xs.map PV.int)[k]? = some (.int xs[k]) := by rw [Ql, Q2 hkx]; rfl
  unfold Zil
  refine Z.J (Z.A2 (Z.l (Z.B (v := .int k) rfl rfl (Z.B6 (Z.J7 ?_)))))
  by_cases h12 : k < 12
  ·rw [Qg (show (k : Int) < 12 by lia)]
   refine Z.J (Z.A5 (Z.A0 (Z.B (v := .obj hp.length) rfl rfl (Z.u Z7 (Z.D0 (Z.B (v := .lst (xs.map .int)) rfl rfl (Z.B (v := .int k) rfl rfl (Z.E3 rfl (.inl Zmk) hx (Qkb (Qek hlx hl) rfl) (Z.A3 Z7 (by rw [Qd]; exact Qkb (Qek hz (Nat.min_le_right _ _)) rfl) (Z.L (Z.L ?_)))))))))))
   rw [Zf7]
   have := Lsl.mk (xs := xs) (hp := hp) (k := k + 1) (v2 := .int k) (zs := zs ++ [xs[k]]) (by rw [Qk, hz, Nat.min_eq_left (Nat.le_of_lt h12)]; exact (Nat.min_eq_left h12).symm)
   rw [Xi] at this
   exact this
  ·rw [Q8 (show ¬ (k : Int) < 12 by lia)]
   have hm : (k : Int).fmod 12 = ((k % 12 : Nat) : Int) := by rw [Int.fmod_eq_emod_of_nonneg _ (by lia)]; lia
   have hlt : k % 12 < zs.length := Qle (Nat.mod_lt k (Nat.succ_pos 11)) (hz.trans (Nat.min_eq_right (Qn h12)))
   have hy : (zs.map PV.int)[k % 12]? = some (.int zs[k % 12]) := by rw [Ql, Q2 hlt]; rfl
   have hzl : (zs.map PV.int).length = zs.length := Qd ..
   refine Z.J (Z.L8 (Z.B (v := .obj hp.length) rfl rfl (Z.D5 (Z.B (v := .int k) rfl rfl (Z.B6 (Z.H1 (by decide) ?_))))))
   refine Z.E3 hm (.inl (Zx Z7)) hy (by lia) (Z.D0 (Z.B (v := .lst (xs.map .int)) rfl rfl (Z.B (v := .int k) rfl rfl (Z.E3 rfl (.inl Zmk) hx (Qkb (Qek hlx hl) rfl) (Z.E8 (Z.setZ hm Z7 (Qle hlt hzl) (by lia) (Z.L (Z.L ?_))))))))
   rw [Zf7]
   have := Lsl.mk (xs := xs) (hp := hp) (k := k + 1) (v2 := .int k) (zs := zs.set (k % 12) (zs[k % 12] + xs[k])) (by rw [length_set, hz, Nat.min_eq_right (Qn h12), Nat.min_eq_right (Qs (Qn h12))])
   rw [List.map_set] at this
   exact this
 left
 rw [Qq hkx]
 have hz12 : zs.length <= 12 := Qek hz (Nat.min_le_right _ _)
 refine ⟨rfl, ?_⟩
 refine Z.J (Z.i (Z.C1 (Z.y ⟨show 0 <= 1000000 by decide, Z.I ?_⟩)))
 have l1 : (hp ++ [MO.lst (zs.map .int)]).length = hp.length + 1 := by rw [Qk]; rfl
 have hs : ∀ {hp' : List MO}, (∀ i, i < hp.length + 1 -> hp'[i]? = (hp ++ [MO.lst (zs.map .int)])[i]?) -> hp'[hp.length]? = some (.lst (zs.map .int)) := λ o => (o _ (Nat.lt_succ_self _)).trans Z7
 refine Z.J (Z.B5 (Z.B (v := .obj hp.length) rfl rfl ?_))
 show Z (Zdy (Zam (.obj hp.length) ⟨[.lst (xs.map .int), .obj hp.length, v2, .obj (hp ++ [MO.lst (zs.map .int)]).length, .undef, .undef, .undef, .undef, .undef, .undef], hp ++ [MO.lst (zs.map .int)] ++ [.lst []]⟩) _ _ _ 0) ⟨[.lst (xs.map .int), .obj hp.length, v2, .obj (hp ++ [MO.lst (zs.map .int)]).length, .undef, .undef, .undef, .undef, .undef, .undef], hp ++ [MO.lst (zs.map .int)] ++ [.lst []]⟩ _ _
 have hc0 : (hp ++ [MO.lst (zs.map .int)] ++ [MO.lst []])[hp.length + 1]? = some (.lst []) := by rw [<- l1]; exact Z7
 have ho0 : ∀ i, i < hp.length + 1 -> (hp ++ [MO.lst (zs.map .int)] ++ [MO.lst []])[i]? = (hp ++ [MO.lst (zs.map .int)])[i]? := λ i hi => Qc (by rw [l1]; exact hi)
 have hl0 : hp.length + 2 <= (hp ++ [MO.lst (zs.map .int)] ++ [MO.lst []]).length := by rw [Qk, l1]; exact Qr
 rw [l1]
 generalize hp ++ [MO.lst (zs.map .int)] ++ [MO.lst []] = hp0 at hc0 ho0 hl0
 refine Z.A6 (Lcl (.lst (xs.map .int)) v2 zs hp) zs.length (λ k μ hI hk => ?_) Zj 0 _ (by lia) (Q5 _) (.mk (cs := []) hl0 ho0 hc0 rfl λ c h => nomatch h)
 obtain ⟨hlen, old, hc, hcl, hca⟩ := hI
 rename_i v4 v5 v6 v7 v8 v9 hp' cs
 rw [Zcm (hs ho0) (hs old), Ql]
 cases hx : zs[k]? with
 | some z =>
  right
  refine ⟨(Qgl hx), .int z, rfl, Z.I (Zwp hc (Qkb (Qkk (Qek hcl hk) hz12) rfl) λ hpC c w5 w6 w7 w8 w9 lenC old2 hjC hca2 => .mk (Qkk hlen lenC) (λ i hi => (old2 i (by lia) (Nat.ne_of_lt hi)).trans (old i hi)) hjC (by rw [Qk, hcl]; rfl) λ c' hc' => ?_)⟩
  rcases Qma hc' with q | q
  ·cases hca c' q with
   | mk h l e n => exact .mk h l ((old2 _ (Qgl e) (by lia)).trans e) n
  ·rw [Qz] at q
   subst q
   cases hca2 with
   | mk h l e n => exact .mk h (Qkk hlen l) e n
 | none =>
  left
  have U : Up hp hp' := ⟨by lia, λ i hi => (old i (by lia)).trans (Qc hi)⟩
  refine ⟨rfl, Z.J (Z.A7 (Z.B (v := .obj (hp.length + 1)) rfl rfl (h _ _ _ U (by lia) hc (Qkk (Qek hcl hk) hz12) λ c hc' => ?_)))⟩
  cases hca c hc' with
  | mk h l e n => exact .mk h (by lia) e n
end

theorem Zp7 (l : List Int) : (PyData.list (l.map .int)).canLay0 = true := Zhf (k := PyData.int) (λ _ => rfl) l
theorem Zmo {x : PyData} (h : x.canLay0 = true) : (sayD x).canLay0 = true := by
 show ((sS "said").canLay0 && (x.canLay0 && true)) = true
 rw [h, show (sS "said").canLay0 = true by kernel_rfl]; rfl
theorem Stp.lay {s s' : S4} {k : Int} {ns : List Int} {a : PyData} (h : Stp s k ns a s') : a.canLay0 = true := by
 cases h with
 | ref1 | ref2 | doneR => kernel_rfl
 | ring => kernel_rfl
 | add | done | prep | act => exact Zmo rfl
 | stat => exact Zmo (Zp7 _)
 | get => exact Zmo (Zp7 _)
theorem Stp.len {s s' : S4} {k : Int} {ns : List Int} {a : PyData} (h : Stp s k ns a s') : s'.ts.length <= s.ts.length + ns.length := by
 cases h with
 | add =>
  show (s.ts ++ _).length <= _
  rw [Qk, Qd]
  exact Nat.add_le_add_left (Nat.le_succ _) _
 | _ => exact Nat.le_add_right _ _
theorem Zwr {hp : List MO} {n : Nat} {v : PV} {a : PyData} (h : Zv hp (n + 1) v = some a) : uq v = false := by
 cases v with
 | undef => cases h
 | _ => rfl
theorem In4.ins {s : S4} {T : TSt} (I : In4 s T) : insD T.order T.np T.sc T.ready T.passed T.fin = insD s.N (npS s.ts s.O s.D) (scL s.ts) (if s.op then some s.rd else none) s.O.length s.D.length := by
 have key : T.order = s.N -> T.sc = scL s.ts -> (∀ a ∈ s.N, T.np a = npS s.ts s.O s.D a) -> T.order.map (rowD T.np T.sc) = s.N.map (rowD (npS s.ts s.O s.D) (scL s.ts)) := λ h1 h2 h3 => by
  rw [h1, h2]
  exact map_congr_left λ a ha => by unfold rowD; rw [h3 a ha]
 unfold insD
 cases ho : s.op with
 | false =>
  obtain ⟨B, eO, eD, eR⟩ := I.pre ho
  rw [key B.order B.sc λ a ha => by rw [B.np a ha, eO, eD]; unfold npS; simp, B.ready, B.passed, B.fin, eO, eD]
  rfl
 | true =>
  obtain ⟨K, q⟩ := I.run ho
  rw [key K.order K.sc K.np, K.ready, K.passed, K.fin]
  rfl
def rest4 (d : Ad) : PM MF := Zc (Zt ((Zd (Za 2) (Zd (Za 3) (Zd (Za 4) (Zd (Za 5) (Zd (Za 6) (Zd (Za 7) (Zd (Za 8) (pure [])))))))) >>= Zdx d) (Zh 9)) (Zc (sIf (Z2 .NotEq ((Zd (Za 1) (Zd (Za 7) (Zd (Za 8) (pure [])))) >>= Zek d) (Za 9)) (Zc (Zak (pure (PV.bool false))) Zg) Zg) (Zc (sIf (Z2 .NotEq ((Zd (Za 1) (pure [])) >>= Zeo d) ((Zd (Za 2) (Zd (Za 3) (Zd (Za 4) (Zd (Za 5) (Zd (Za 6) (pure [])))))) >>= Zcb d)) (Zc (Zak (pure (PV.bool false))) Zg) Zg) Zg))
structure Ok4 (o b lo : Nat) (hc hp : List MO) (s : S4) (T : TSt) (ly : Lay) : Prop where
 S : SAt d hp o T ly
 I : In4 s T
 L : L5 hp b s
 fp : ∀ j, Fp o T ly j -> j < b ∨ lo <= j
 bl : b + 5 <= lo
 len : lo <= hp.length
 cal : ∀ j, b + 5 <= j -> j < lo -> hp[j]? = hc[j]?
section
variable {hp hc : List MO} {fr : List PV} {E : Value -> St -> Prop} {o b lo : Nat} {s : S4} {T : TSt} {ly : Lay} {k : Int} {ns : List Int} {nv : PV}
theorem Ok4.up {hp' : List MO} (Y : Ok4 o b lo hc hp s T ly) (u : Up hp hp') : Ok4 o b lo hc hp' s T ly :=
 ⟨Y.S.keep λ i hi => u.old i (Y.S.lt hi), Y.I, Y.L.up u, Y.fp, Y.bl, Qj Y.len u.len, λ j h1 h2 => (u.old j (Nat.lt_of_lt_of_le h2 Y.len)).trans (Y.cal j h1 h2)⟩noncomputable abbrev fL (v0 : PV) (o b : Nat) (v7 v8 v9 : PV) : List PV := [v0, .obj o, .obj b, .obj (b + 1), .obj (b + 2), .obj (b + 3), .obj (b + 4), v7, v8, v9]
theorem Zk2 (KS : Zdg) (Y : Ok4 o b lo hc hp s T ly) (ht : s.ts.length <= 300) (hk : Kd k) (hns : k = 0 -> ns ≠ []) (hnl : ns.length <= 4) (V : Nm b hp ns nv) (hb : ∀ x ∈ ns, 0 <= x ∧ x < 4) {v0 v9 : PV} {Q : MF -> St -> Prop}
  (h : ∀ hp' s' T' ly' v9, Ok4 o b lo hc hp' s' T' ly' -> s'.ts.length <= s.ts.length + 4 -> Q .next ⟨fL v0 o b (.int k) nv v9, hp'⟩) : Z (rest4 d) ⟨fL v0 o b (.int k) nv v9, hp⟩ Q E := by
 unfold rest4
 refine Z.J (Z.i (Z.H (Z.X (Z.B (v := .obj b) rfl rfl (Z.X (Z.B (v := .obj (b + 1)) rfl rfl (Z.X (Z.B (v := .obj (b + 2)) rfl rfl (Z.X (Z.B (v := .obj (b + 3)) rfl rfl (Z.X (Z.B (v := .obj (b + 4)) rfl rfl (Z.X (Z.B (v := .int k) rfl rfl (Z.W (Z.B (v := nv) rfl V.uq ?_))))))))))))))))
 refine Zte KS Y.L Y.I (Qkb ht rfl) hk hns (Qkb hnl rfl) V λ hpC v a s' st LC KC hr => Z.I ?_
 have n5 : ∀ j, Fp o T ly j -> ¬ In5 b j := λ j q ⟨q1, q2⟩ => (Y.fp j q).elim (λ z => by lia) λ z => by have := Y.bl; lia
 have SC : SAt d hpC o T ly := Y.S.keep λ i hi => KC.old i (Y.S.lt hi) (n5 i hi)
 have VC := V.keep KC
 have uv : uq v = false := Zwr (hr hpC λ _ _ _ => rfl)
 refine Z.J (Z.A2 (Z.l (Z.H (Z.X (Z.B (v := .obj o) rfl rfl (Z.X (Z.B (v := .int k) rfl rfl (Z.W (Z.B (v := nv) rfl V.uq ?_)))))))))
 refine Zuy SC Y.I (Qkb ht rfl) st hns VC.is V.uq hb (Qkb hnl rfl) λ hpD vD T' ly' S3 ID gD rD => Z.B (v := v) rfl uv ?_
 have old3 : ∀ i, i < hpC.length -> ¬ Fp o T ly i -> hpD[i]? = hpC[i]? := gD.old
 refine Z.I4 rD (hr hpD λ i h1 h2 => old3 i h2 λ q => Qe (Y.S.lt q) (Qi h1)) st.lay (Z.L ?_)
 have nf : ∀ j, b <= j -> j < lo -> ¬ Fp o T ly j := λ j h1 h2 q => (Y.fp j q).elim (λ z => Qe z (Qi h1)) λ z => Qe h2 (Qi z)
 have W3 : Ok4 o b lo hc hpD s' T' ly' := by
  have bl := Y.bl
  have len := Y.len
  have l2 := KC.len
  have at5 : ∀ {j : Nat} {x : MO}, b <= j -> j < b + 5 -> hpC[j]? = some x -> hpD[j]? = some x := λ h1 h2 e => (old3 _ (by lia) (nf _ h1 (Qll h2 bl))).trans e
  refine ⟨S3, ID, ⟨at5 (Nat.le_refl b) (by lia) LC.n, at5 (by lia) (by lia) LC.t, at5 (by lia) (by lia) LC.p, at5 (by lia) (by lia) LC.o, at5 (by lia) (by lia) LC.f⟩, λ j q => ?_, bl, ?_, λ j h1 h2 => ?_⟩
  ·rcases gD.new j q with z | z
   ·exact Y.fp j z
   ·right; exact Qkk (Qkk len l2) z
  ·have := gD.len; exact Qkk (Qkk len l2) this
  ·exact (old3 j (Qll (Qll h2 len) l2) (nf j (by lia) h2)).trans ((KC.old j (Qll h2 len) λ q => by lia).trans (Y.cal j h1 h2))
 have ht' := st.len
 have hN := ID.nl
 refine Z.J (Z.A2 (Z.l (Z.H (Z.W (Z.B (v := .obj o) rfl rfl (Zus S3 ?_ λ hpE vE uE r4 => ?_))))))
 ·have : T'.order.length = s'.N.length := by
   cases ho : s'.op with
   | false => rw [(ID.pre ho).1.order]
   | true => rw [(ID.run ho).1.order]
  exact Qkb (Qek this hN) rfl
 have W4 := W3.up uE
 refine Z.H (Z.X (Z.B (v := .obj b) rfl rfl (Z.X (Z.B (v := .obj (b + 1)) rfl rfl (Z.X (Z.B (v := .obj (b + 2)) rfl rfl (Z.X (Z.B (v := .obj (b + 3)) rfl rfl (Z.W (Z.B (v := .obj (b + 4)) rfl rfl ?_))))))))))
 have hOD : s'.O.length <= 1000 ∧ s'.D.length <= 1000 := by
  cases ho : s'.op with
  | false => rw [(ID.pre ho).2.1, (ID.pre ho).2.2.1]; exact ⟨by decide, by decide⟩
  | true =>
   have K := (ID.run ho).1
   have h1 := Z4 K.ond K.oN
   have h2 := Z4 K.dnd λ a q => K.oN a (K.dO a q)
   lia
 refine Zyj KS W4.L.ls (b := s'.op) (rd := s'.rd) W4.L.p ID.run (Qkb hN rfl) (by lia) hOD.1 hOD.2 λ hp5 vF uF r5 => ?_
 exact Z.I4 ((r4 hp5 uF).trans (congrArg some ID.ins)) r5 Zyi (Z.L (Z.L (h _ _ _ _ _ (W4.up uF) (by lia))))
inductive Ci (b lo : Nat) (hc : List MO) : PV -> Prop
 | drawn {k : Int} {i : Nat} {ns : List Int} (h : Kd k) (h6 : (k == 6) = false) (l : b + 5 <= i) (e : hc[i]? = some (.lst (ns.map .int))) (l2 : i < lo) (n : Na ns) : Ci b lo hc (.tup [.int k, .obj i])
 | fixed {k : Int} (h : Kd k) (h6 : (k == 6) = false) (h0 : k ≠ 0) : Ci b lo hc (.tup [.int k, .lst []])
 | six : Ci b lo hc (.tup [.int 6, .lst []])
theorem Zym (KS : Zdg) (Y : Ok4 o b lo hc hp s T ly) (ht : s.ts.length <= 300) {c : PV} (C : Ci b lo hc c) {v0 v7 v8 v9 : PV} {Q : MF -> St -> Prop}
  (h : ∀ hp' s' T' ly' v7 v8 v9, Ok4 o b lo hc hp' s' T' ly' -> s'.ts.length <= s.ts.length + 4 -> Q .next ⟨fL v0 o b v7 v8 v9, hp'⟩) : Z (Zct [Zh 7, Zh 8] c) ⟨fL v0 o b v7 v8 v9, hp⟩ (λ _ μ => Z (Zhe d) μ Q E) E := by
 have hF : 1000 < Zj := by unfold Zj; lia
 have kind : ∀ {k j : Int} {b' : Bool} {c : Nat} {p q : PM MF} {Q : MF -> St -> Prop} {v8 v9 : PV}, (k == j) = b' -> Z (match b' with | true => p | false => q) ⟨fL v0 o c (.int k) v8 v9, hp⟩ Q E -> Z (sIf (Z2 .Eq (Za 7) (Pure.pure (.int j))) p q) ⟨fL v0 o c (.int k) v8 v9, hp⟩ Q E := λ {k j b' c p q Q v8 v9} e h => by
  refine Z.A2 (Z.l (Z.B (v := .int k) rfl rfl (Z.B6 (Z.C3 ?_))))
  rw [e]
  cases b' <;> exact h
 cases C with
 | drawn hk h6 l e l2 n =>
  rename_i k i ns
  refine Z.E2 (Z.I (Z.I ?_))
  unfold Zhe
  refine Z.J (kind (b' := false) h6 (Z.L ?_))
  exact Zk2 KS Y ht hk (λ _ => n.1) (by have := n.2.1; exact Qkb this rfl) (.obj ((Y.cal i l l2).trans e) λ q => by have := q.2; lia) n.2.2 λ hp' s' T' ly' v9 Y' t' => h _ _ _ _ _ _ _ Y' t'
 | fixed hk h6 h0 =>
  refine Z.E2 (Z.I (Z.I ?_))
  unfold Zhe
  refine Z.J (kind (b' := false) h6 (Z.L ?_))
  exact Zk2 KS Y ht (ns := []) hk (λ e => Qe e h0) (by decide) .lst (λ x hx => nomatch hx) λ hp' s' T' ly' v9 Y' t' => h _ _ _ _ _ _ _ Y' t'
 | six =>
   refine Z.E2 (Z.I (Z.I ?_))
   unfold Zhe
   refine Z.J (kind (b' := true) rfl (Z.J (Z.i (Z.B6 (Z.I (Z.J (Z.i ?_)))))))
   have hO : s.O.length <= 4 ∧ ∀ x ∈ s.O, 0 <= x ∧ x < 4 := by
    cases ho : s.op with
    | false => rw [(Y.I.pre ho).2.1]; exact ⟨by decide, λ _ q => nomatch q⟩
    | true =>
     have K := (Y.I.run ho).1
     exact ⟨Qj (Z4 K.ond K.oN) Y.I.nl, λ x q => Y.I.nin x (K.oN x q)⟩
   have hfl := length_filter_le (λ x => !decide (x ∈ s.D)) s.O
   refine Z.H5 (m := 2) (pv := .obj (b + 3)) s.O PV.int PV.int (λ x => !decide (x ∈ s.D)) (by lia) (Qkb hO.left rfl) (Z.gv rfl rfl) (λ k hk fr' z => Zgz Y.L.o) (λ x us z hu hx => ?_) ?_
   ·obtain ⟨u, w, rfl⟩ := lenP2 hu
    exact Z.I (Z.l (Z.B (v := .int x) rfl rfl (Z.B (v := .obj (b + 4)) rfl rfl (Z.F7 (Z.C8 (getElem?_app Y.L.f) ⟨rfl, [u, _], rfl, rfl, λ _ => Z.B rfl rfl ⟨rfl, rfl⟩⟩)))))
   ·refine Z.I (Z.L ?_)
    have W1 := Y.up (Up.refl.app (l := [MO.lst ((s.O.filter λ x => !decide (x ∈ s.D)).map .int)]))
    exact Zk2 KS W1 ht (k := 3) (.inr (.inr (.inl rfl))) (λ e => nomatch e) (Qkk hfl hO.left) (.obj Z7 λ q => by have := q.2; have := Y.bl; have := Y.len; lia) (λ x hx => hO.2 x (mem_filter.mp hx).1) λ hp' s' T' ly' v9 Y' t' => h _ _ _ _ _ _ _ Y' t'
end

noncomputable def c1 : PV := .tup [.int 1, .lst []]noncomputable def c2 : PV := .tup [.int 2, .lst []]noncomputable def c4 : PV := .tup [.int 4, .lst []]noncomputable def c6 : PV := .tup [.int 6, .lst []]
inductive Lp5 (v0 : PV) (o b lo : Nat) (hc : List MO) (k : Nat) : St -> Prop
 | mk {v7 v8 v9 : PV} {hp : List MO} {s : S4} {T : TSt} {ly : Lay} (Y : Ok4 o b lo hc hp s T ly) (ht : s.ts.length <= 4 * k) : Lp5 v0 o b lo hc k ⟨fL v0 o b v7 v8 v9, hp⟩
section
variable {hp : List MO} {fr : List PV} {E : Value -> St -> Prop}
theorem Z.G9 {k : Nat} {rest : PM MF} {Q : MF -> St -> Prop} (h : Z rest ⟨fr.set k (.obj hp.length), hp ++ [.lst []]⟩ Q E) : Z (Zc (Zt (Zp true (Pure.pure [])) (Zh k)) rest) ⟨fr, hp⟩ Q E :=
 Z.J (Z.i (Z.C1 (Z.y ⟨show 0 <= 1000000 by decide, Z.I h⟩)))
theorem Z.I0 {k : Int} {μ : St} {Q : PV -> St -> Prop} (h : Q (.tup [.int k, .lst []]) μ) : Z (Zdd (Zd (Pure.pure (.int k)) (Zd (Zp false (Pure.pure [])) (Pure.pure [])))) μ Q E :=
 Z.E4 (Z.X (Z.B6 (Z.W (Z.C2 (Z.y ⟨show 0 <= 1000000 by decide, show 2 <= 1000000 by decide, h⟩)))))
theorem Z.rep4 {x y : PV} {μ : St} {f : PM PV} (hf : Z f μ (λ v μ' => v = .lst [x, y] ∧ μ' = μ) E) {Q : PV -> St -> Prop} (h : Q (.lst [x, y, x, y, x, y, x, y]) μ) : Z (Mine.eRep false f (Pure.pure (.int 4))) μ Q E :=
 Z.H (hf.mono (λ v μ' hh => by
  obtain ⟨rfl, rfl⟩ := hh
  exact Z.H (Z.B6 (Z.V rfl h))) λ _ _ e => e)
theorem Zyn (KS : Zdg) {xs : List Int} (hl : xs.length <= 63) : Z (k_law d [.lst (xs.map .int)]) ⟨fr, hp⟩ (λ v _ => v = .bool true) (λ _ _ => False) := by
 have hF : 1000 < Zj := by unfold Zj; lia
 refine Z.A1 rfl ?_
 unfold g_law
 refine Z.J (Z.i (Z.H (Z.y (Zy6 λ hpB o ly SB lB oldB new1 => Z.I ?_))))
 refine Z.G9 (Z.G9 (Z.G9 (Z.G9 (Z.G9 ?_))))
 have la : ∀ (l : List MO) (x : MO), (l ++ [x]).length = l.length + 1 := λ l x => Qk
 have q1 := Z7 (hp := hpB) (x := .lst [])
 have q2 := Z7 (hp := hpB ++ [.lst []]) (x := .lst [])
 have q3 := Z7 (hp := hpB ++ [.lst []] ++ [.lst []]) (x := .lst [])
 have q4 := Z7 (hp := hpB ++ [.lst []] ++ [.lst []] ++ [.lst []]) (x := .lst [])
 have q5 := Z7 (hp := hpB ++ [.lst []] ++ [.lst []] ++ [.lst []] ++ [.lst []]) (x := .lst [])
 have ll := la (hpB ++ [.lst []] ++ [.lst []] ++ [.lst []] ++ [.lst []]) (.lst [])
 show Z _ ⟨[.lst (xs.map .int), .obj o, .obj hpB.length, .obj (hpB ++ [MO.lst []]).length, .obj (hpB ++ [MO.lst []] ++ [MO.lst []]).length, .obj (hpB ++ [MO.lst []] ++ [MO.lst []] ++ [MO.lst []]).length, .obj (hpB ++ [MO.lst []] ++ [MO.lst []] ++ [MO.lst []] ++ [MO.lst []]).length, .undef, .undef, .undef], hpB ++ [MO.lst []] ++ [MO.lst []] ++ [MO.lst []] ++ [MO.lst []] ++ [MO.lst []]⟩ _ _
 have e2 := la hpB (.lst [])
 have e3 := (la (hpB ++ [MO.lst []]) (.lst [])).trans (congrArg Nat.succ e2)
 have e4 := (la (hpB ++ [MO.lst []] ++ [MO.lst []]) (.lst [])).trans (congrArg Nat.succ e3)
 have e5 := (la (hpB ++ [MO.lst []] ++ [MO.lst []] ++ [MO.lst []]) (.lst [])).trans (congrArg Nat.succ e4)
 rw [e5] at q5 ll ⊢
 rw [e4] at q4 ⊢
 rw [e3] at q3 ⊢
 rw [e2] at q2 ⊢
 have L : L5 (hpB ++ [MO.lst []] ++ [MO.lst []] ++ [MO.lst []] ++ [MO.lst []] ++ [MO.lst []]) hpB.length ⟨[], [], false, [], [], []⟩ :=
  ⟨getElem?_app (getElem?_app (getElem?_app (getElem?_app q1))), getElem?_app (getElem?_app (getElem?_app q2)), getElem?_app (getElem?_app q3), getElem?_app q4, q5⟩
 have S : SAt d (hpB ++ [MO.lst []] ++ [MO.lst []] ++ [MO.lst []] ++ [MO.lst []] ++ [MO.lst []]) o T0 ly := SB.keep λ i hi => Up.refl.app.app.app.app.app.old i (SB.lt hi)
 show Z _ ⟨fL (.lst (xs.map .int)) o hpB.length .undef .undef .undef, _⟩ _ _
 generalize (hpB ++ [MO.lst []] ++ [MO.lst []] ++ [MO.lst []] ++ [MO.lst []] ++ [MO.lst []]) = hpC at L S ll ⊢
 refine Z.J (Z.B5 ?_)
 refine Z.I8 (Z.I8 (Z.I8 (Z.H (Z.W (Z.B (v := .lst (xs.map .int)) rfl rfl (Zwq hl λ hpD j cs U hj ec hcl hca => ?_))))))
 have z1 : (cs ++ [c1]).length <= 13 := Qek Qk (Q9 hcl 1)
 have z2 : (cs ++ [c1] ++ [c2, c6, c2, c6, c2, c6, c2, c6]).length <= 21 := Qek Qk (Q9 z1 8)
 refine Z.C2 (Z.W (Z.I0 ⟨show 1 <= 1000000 by decide, cs, [c1], Zx ec, rfl, Qkb (Q9 hcl 1) rfl, ?_⟩))
 refine Z.rep4 (Z.C2 (Z.X (Z.I0 (Z.W (Z.I0 ⟨show 2 <= 1000000 by decide, rfl, rfl⟩))))) ⟨cs ++ [c1], [c2, c6, c2, c6, c2, c6, c2, c6], rfl, rfl, Qkb (Q9 z1 8) rfl, ?_⟩
 refine Z.C2 (Z.W (Z.I0 ⟨show 1 <= 1000000 by decide, cs ++ [c1] ++ [c2, c6, c2, c6, c2, c6, c2, c6], [c4], rfl, rfl, Qkb (Q9 z2 1) rfl, ?_⟩))
 have hil : (cs ++ [c1] ++ [c2, c6, c2, c6, c2, c6, c2, c6] ++ [c4]).length <= 22 := Qek Qk (Q9 z2 1)
 have hin : ∀ c ∈ cs ++ [c1] ++ [c2, c6, c2, c6, c2, c6, c2, c6] ++ [c4], Ci hpB.length hpD.length hpD c := λ c hc => by
  rw [append_assoc, append_assoc] at hc
  rcases Qma hc with q | q
  ·cases hca c q with
   | mk h l e n => exact .drawn h (by rcases h with (rfl | rfl | rfl) | rfl | rfl | rfl <;> rfl) (by lia) e (Qgl e) n
  ·simp only [cons_append, List.nil_append, mem_cons, not_mem_nil, or_false] at q
   rcases q with rfl | rfl | rfl | rfl | rfl | rfl | rfl | rfl | rfl | rfl <;> first | exact .six | exact .fixed (by decide) rfl (by decide)
 generalize cs ++ [c1] ++ [c2, c6, c2, c6, c2, c6, c2, c6] ++ [c4] = items at hil hin
 have Y : Ok4 o hpB.length hpD.length hpD hpD ⟨[], [], false, [], [], []⟩ T0 ly :=
  ⟨S.keep λ i hi => U.old i (S.lt hi), ⟨λ _ => ⟨Bt.nil, rfl, rfl, rfl⟩, (λ e => nomatch e), nodup_nil, λ _ q => nomatch q⟩, L.up U, λ j q => .inl (SB.lt q), by have := U.len; exact Qkk (Xb (Eq.symm ll)) this, Qr, λ _ _ _ => rfl⟩
 refine Z.A6 (Lp5 (.lst (xs.map .int)) o hpB.length hpD.length hpD) items.length (λ k μ hI hk => ?_) Zj 0 _ (by lia) (Q5 _) (.mk (v7 := .undef) (v8 := .undef) (v9 := .undef) Y (Q5 _))
 obtain ⟨Y', ht⟩ := hI
 rename_i v7 v8 v9 hp' s T ly'
 rw [show Zam (.lst items) ⟨fL (.lst (xs.map .int)) o hpB.length .undef .undef .undef, hpD⟩ k ⟨fL (.lst (xs.map .int)) o hpB.length v7 v8 v9, hp'⟩ = some items[k]? from rfl]
 cases hx : items[k]? with
 | some c =>
  right
  refine ⟨(Qgl hx), c, rfl, Zym KS Y' (by lia) (hin c (Qm hx)) λ hp'' s' T' ly'' v7 v8 v9 Y'' t' => ?_⟩
  exact Lp5.mk Y'' (by lia)
 | none =>
  left
  exact ⟨rfl, Z.J (Z.A7 (Z.B6 rfl))⟩
end
theorem PL4 (KS : Zdg) (xs : List Int) (hl : xs.length <= 63) : ∃ μ', k_law d [.lst (xs.map .int)] ⟨[], []⟩ = .ok (.bool true) μ' := by
 obtain ⟨v, μ', e, hv⟩ := (Zyn KS hl (fr := []) (hp := [])).run
 subst hv
 exact ⟨μ', e⟩
end
end Mine
open PySem PySem.W PyProof.Rows Mine
set_option maxRecDepth 100000 in
set_option maxHeartbeats 8000000 in
theorem PySem.Challenge.cw_sr0004_04_holds : PySem.Challenge.rw_sr0004_04.Holds := by
 w_on; refine holds_law (by decide +kernel) λ said => ?_
 refine holds_open (q := view PySem.Challenge.pw_sr0004_04 [1, 2, 3, 4, 5, 7, 8, 9, 10, 11, 12, 13]) (loose := [Str.ofString "_NodeInfo"]) (Xt := λ s => xlAt (view PySem.Challenge.pw_sr0004_04 [1, 2, 3, 4, 5, 7, 8, 9, 10, 11, 12, 13]) [] s && recOk (RowW.records (OpenRow.toRowW (OpenLaw.row PySem.Challenge.rw_sr0004_04))) s) (XP := XL (view PySem.Challenge.pw_sr0004_04 [1, 2, 3, 4, 5, 7, 8, 9, 10, 11, 12, 13]) []) (Yf := Hook.obs (Zga Zhn Zf4)) (Ya := Hook.val (Zga Zhn Zf4)) (YP := Hook.says (Zga Zhn Zf4)) (N := 2504) ?hl (Hook.of (Zga Zhn Zf4)) (Hook.keeps (Zga Zhn Zf4)) (λ s e => xl_of s (Bool.and_eq_true_iff.mp e).1) XL.keeps (by rfl) (by rfl) (by rfl) (λ s e => recFacts_of (Bool.and_eq_true_iff.mp e).2) (by rfl) (by first | assumption | decide +kernel) (by decide +kernel) ⟨rfl, rfl, rfl, rfl, rfl, by decide +kernel⟩ ?hw ?hc
 case hl => exact λ w => by kernel_rfl
 (case hw => w_witness2)
 w_strict (
  intro w s0 s1 mg mb G Y fa o pm cd doc dV kV ho hd hcd hD hmg hg args vals as hpre hlay hrd hwl hlo
  obtain ⟨K, KX, eK⟩ := Zys Y
  refine Ground.open G ?_
  intro T B D TE TW
  wrow_args hpre hlay hrd hwl hlo
  (case hc =>
   have CC := Zxf (prog := PySem.Challenge.pw_sr0004_04) (w := w) (os := s1.os) KX T.g T.b T.nolimit T.builtins
   have FG : ∀ g : Array GenState, Facts (Cx.gn { prog := PySem.Challenge.pw_sr0004_04, w := w, B := s1.heap, os := s1.os, mg := mg, mb := mb, K := K } g) d zz4 := λ g => facts4 (c := Cx.gn { prog := PySem.Challenge.pw_sr0004_04, w := w, B := s1.heap, os := s1.os, mg := mg, mb := mb, K := K } g) eK (ce4 KX (topRead_of T) eK)
   have FF := FG #[]
   have PL : ∀ (xs : List Int), xs.length <= 63 -> ∃ μ', k_law d [.lst (xs.map .int)] ⟨[], []⟩ = .ok (.bool true) μ' := Mine.PL4 (Zuo PySem.Challenge.pw_sr0004_04 w s1)
   have efa : fa = 175 := by
    have q := mg_of KX T.g FF.g_law
    rw [hmg] at q
    cases q; rfl
   clear hd hcd hD hmg
   subst efa
   rename_i xs _ _ _ _ _ _ _ l vs _ hL _ w1 _ hI _ hlen _
   obtain ⟨μ', hok⟩ := PL xs (by omega)
   have hv : VRs [] s1.heap [.ref l] [.lst (xs.map .int)] := by
    cases w1 with
    | list h1 h2 =>
     obtain ⟨o', ho', _, n', hd'⟩ := hL
     rw [h1] at ho'
     cases ho'
     have e := (Data.seq.inj hd').1
     rw [e] at h1
     exact .cons (.lst h1 (λ h => nomatch h) (Zvg hI)) .nil
   refine (Zy3 FG).call (F := fx0 default) (by decide) rfl [.ref l] [.lst (xs.map .int)] callerA [] ⟨[], []⟩ s1 _ _ (actx0 default) (rep0 CC rfl rfl hg rfl default) hv (by rw [hok]; exact λ e => nomatch e) (λ v y φ' μ1 s' e R' x' r => ?_) λ e x φ' μ1 s' he => by rw [hok] at he; cases he
   rw [hok] at e
   cases e
   cases r
   refine ⟨.inl ⟨.bool true, .bool true, [], rfl, λ _ => ?_, ?_, ?_, ?_⟩, .of_keep R'.keep, R'.os, ?_⟩
   ·first | rfl | (intro; rfl) | simp
   ·first | exact .bool _ | exact ReadsW.of_reads .bool | constructor
   ·show WTm.holds _ (.eq .res (.lit (.bool true))) _ = true
    kernel_rfl
   ·exact λ _ => ⟨List.nodup_nil, λ a h => nomatch h⟩
   ·exact R'.gens.2

  ))
