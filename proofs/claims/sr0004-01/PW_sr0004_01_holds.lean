import PyProof.Rows.All
import Wide.All
import OpenK.AllK
import Wide.FinOn
import KE.KStar
import KE.KSuperObj
import PyProof.RulesAssignMore
import PyProof.ExcClass2
import PyProof.WalksMore
import PyProof.DictWalks
import PyProof.DictValues
import PyProof.CompMap
import PyProof.Conv_bool
import PyProof.WalkInts
import KE.KTryMore
import PyProof.DictItems
import KE.KSortTup
import PyProof.Ends
import PyProof.Sound
import PyProof.MeetsSeq3
import PyProof.FactsAll.list_2
import PyProof.Rows.SortShellK
import PySem.Challenge.RW_sr0004_01
set_option Elab.async false
set_option linter.unusedVariables false
set_option linter.unusedSimpArgs false
set_option maxRecDepth 100000
set_option backward.eqns.nonrecursive false
set_option bootstrap.genMatcherCode false
set_option genSizeOf false
open List (all_eq_true any_cons any_eq_true append_assoc append_nil cons_ne_nil count_cons_self count_eq_zero ext_getElem filter_append filter_congr filter_cons filter_eq_self foldl_cons forIn_cons forIn_nil getD_eq_getElem?_getD getElem_inj getElem_map getElem_mem idxOf_lt_length_iff length_append length_cons length_drop length_filter_le length_map length_nil length_range length_set length_singleton length_take lookup_cons map_append map_congr_left map_cons map_map mem_append_left mem_append_right mem_cons mem_cons_of_mem mem_cons_self mem_filter mem_map mem_map_of_mem mem_of_getElem? mem_range mem_reverse mem_singleton nodup_append nodup_cons nodup_nil not_mem_nil pairwise_map reverse_cons set_set size_toArray sum_append sum_cons take_append_drop take_length take_succ_eq_append_getElem)
namespace Mine
open PySem PySem.W PyProof.Rows
theorem Qll {a b c : Nat} (h : a < b) (g : b <= c) : a < c := Nat.lt_of_lt_of_le h g
theorem Qkl {a b c : Nat} (h : a <= b) (g : b < c) : a < c := Nat.lt_of_le_of_lt h g
theorem Qkk {a b c : Nat} (h : a <= b) (g : b <= c) : a <= c := Nat.le_trans h g
theorem Qlk {a b c : Nat} (h : a < b) (g : b <= c) : a <= c := Nat.le_trans (Nat.le_of_lt h) g
theorem Qlll {a b c d : Nat} (h : a < b) (g : b <= c) (k : c <= d) : a < d := Qll (Qll h g) k
theorem Qkkk {a b c d : Nat} (h : a <= b) (g : b <= c) (k : c <= d) : a <= d := Qkk (Qkk h g) k
theorem Qle {a b c : Nat} (h : a < b) (g : c = b) : a < c := g ▸ h
theorem Qke {a b c : Nat} (h : a <= b) (g : c = b) : a <= c := g ▸ h
theorem Qek {a b c : Nat} (g : a = b) (h : b <= c) : a <= c := g ▸ h
theorem Qkb {a b c : Nat} (h : a <= b) (g : Nat.ble b c = true) : a <= c := Nat.le_trans h (Nat.le_of_ble_eq_true g)
theorem Qlb {a b c : Nat} (h : a <= b) (g : Nat.ble (b + 1) c = true) : a < c := Nat.lt_of_le_of_lt h (Nat.le_of_ble_eq_true g)
theorem Qkkb {a b c d : Nat} (h : a <= b) (k : b <= c) (g : Nat.ble c d = true) : a <= d := Qkb (Qkk h k) g
theorem Qklb {a b c d : Nat} (h : a <= b) (k : b <= c) (g : Nat.ble (c + 1) d = true) : a < d := Qlb (Qkk h k) g
theorem Qkxl {a b c d : Nat} (h : a <= b) (k : c < d) (g : Nat.ble b c = true) : a < d := Qkl (Qkb h g) k
theorem Qfk {a b : Nat} (h : a < b) (k : b <= a) : False := Nat.lt_irrefl a (Qll h k)
theorem Qnl {a b : Nat} (h : a < b) : ¬ b = a := Nat.ne_of_gt h
theorem Qnk {a b : Nat} (h : a < b) : ¬ a = b := Nat.ne_of_lt h
theorem Qnlk {a b c : Nat} (h : a < b) (g : b <= c) : ¬ c = a := Qnl (Qll h g)
theorem Qnkl {a b c : Nat} (h : a < b) (g : b <= c) : ¬ a = c := Qnk (Qll h g)
theorem Qgs {α : Type _} {l : List α} {i : Nat} {a : α} (h : l[i]? = some a) : ∃ h : i < l.length, l[i] = a := List.getElem?_eq_some_iff.mp h
theorem Qgl {α : Type _} {l : List α} {i : Nat} {a : α} (h : l[i]? = some a) : i < l.length := (Qgs h).1
theorem Qge {α : Type _} {l : List α} {i : Nat} {a : α} (h : l[i]? = some a) : l[i]'(Qgl h) = a := (Qgs h).2
theorem Qgn {α : Type _} {l : List α} {i : Nat} (h : l[i]? = none) : l.length <= i := List.getElem?_eq_none_iff.mp h
theorem Qmc {α : Type _} {l : List α} {a b : α} (h : a ∈ b :: l) : a = b ∨ a ∈ l := List.mem_cons.mp h
theorem Qma {α : Type _} {l r : List α} {a : α} (h : a ∈ l ++ r) : a ∈ l ∨ a ∈ r := List.mem_append.mp h
theorem Qmm {α β : Type _} {f : α -> β} {l : List α} {b : β} (h : b ∈ l.map f) : ∃ a, a ∈ l ∧ f a = b := List.mem_map.mp h
theorem Qms {α : Type _} {a b : α} (h : a ∈ [b]) : a = b := List.mem_singleton.mp h
theorem Qr {n : Nat} : n <= n := Nat.le.refl
theorem Qs {a b : Nat} (h : a <= b) : a <= b + 1 := Nat.le.step h
theorem Qb {M : Model} {A : Around} {s : Shared} {E : Value -> Shared -> Prop} {α β : Type} {m : Sem α} {f : α -> Sem β} {Q : β -> Shared -> Prop} (h : wpAny M A m (λ a s' => wpAny M A (f a) Q E s') E s) : wpAny M A (m >>= f) Q E s := wpAny_bind h
theorem Qp {M : Model} {A : Around} {s : Shared} {E : Value -> Shared -> Prop} {α : Type} {a : α} {Q : α -> Shared -> Prop} (h : Q a s) : wpAny M A (pure a) Q E s := wpAny_pure h
theorem Qn {a b : Nat} (h : ¬ a < b) : b <= a := Nat.le_of_not_lt h
theorem Qfl {a b c : Nat} (h : a + b <= c) : a <= c := Nat.le_trans (Nat.le_add_right a b) h
theorem Qfr {a b c : Nat} (h : a + b <= c) : b <= c := Nat.le_trans (Nat.le_add_left b a) h
theorem Qfrb {a b c d : Nat} (h : a + b <= c) (g : Nat.ble c d = true) : b <= d := Nat.le_trans (Qfr h) (Nat.le_of_ble_eq_true g)
theorem Qflb {a b c d : Nat} (h : a + b <= c) (g : Nat.ble c d = true) : a <= d := Nat.le_trans (Qfl h) (Nat.le_of_ble_eq_true g)
theorem Qfrl {a b c d : Nat} (h : a + b <= c) (g : Nat.ble (c + 1) d = true) : b < d := Nat.lt_of_le_of_lt (Qfr h) (Nat.le_of_ble_eq_true g)
theorem Qs1 {a b : Nat} (h : a < b + 1) : a <= b := Nat.le_of_lt_succ h
theorem Qnn {a b : Nat} (h : ¬ a < b) (g : a <= b) : a = b := Nat.le_antisymm g (Nat.le_of_not_lt h)
theorem Qtl {a : Int} {n : Nat} (h : 0 <= a) (g : a < n) : a.toNat < n := (Int.toNat_lt h).mpr g
theorem Qtn {a : Int} (h : 0 <= a) : (a.toNat : Int) = a := Int.toNat_of_nonneg h
theorem Qcl {a b : Nat} (h : a < b) : (a : Int) < b := Int.ofNat_lt.mpr h
theorem Qck {a b : Nat} (h : a <= b) : (a : Int) <= b := Int.ofNat_le.mpr h
theorem Qdl {a b : Nat} (h : (a : Int) < b) : a < b := Int.ofNat_lt.mp h
theorem Qtlk {k : Int} {n : Nat} (h : 0 <= k) (g : k.toNat < n) : k < n := (Int.toNat_lt h).mp g
theorem Qlkc {a b c : Nat} (h : a < b) (g : Nat.ble b c = true) : a <= c := Nat.le_trans (Nat.le_of_lt h) (Nat.le_of_ble_eq_true g)
theorem Qcg {a b : Nat} (h : a = b) : (a : Int) = b := congrArg _ h
theorem Qzl {z : Int} {k n : Nat} (e : z = k) (h : k < n) : z < n := e ▸ Qcl h
theorem Qzp {z : Int} {n : Nat} (e : z = n) (h : 0 < n) : 0 < z := e ▸ Qcl h
theorem Qnz {z : Int} {k n : Nat} (e : z = k) (h : ¬ k < n) : ¬ z < n := λ q => h (Qdl (e ▸ q))
theorem Qzn {z : Int} {k n b : Nat} (e : z = k) (h : k <= n) (g : Nat.ble (n + 1) b = true) : z.natAbs < b := e ▸ Qlb h g

inductive PV where
 | undef
 | none
 | bool (b : Bool)
 | int (i : Int)
 | str (s : Str)
 | tup (xs : List PV)
 | lst (xs : List PV)
 | rng (a b c : Int)
 | obj (i : Nat)
 | nxt (i : Nat)
 | vals (i : Nat)
 | raw (v : Value)
 deriving Inhabited
inductive MO where
 | lst (xs : List PV)
 | dct (es : List (Int × PV)) (ep : Nat)
 | set (xs : List Int)
 | ins (C : Addr) (d : Nat)
 | ns (fs : List (Str × PV))
 | slt (C : Addr) (d : Nat) (fs : List (Option PV))
 | itr (l : Nat) (k : Nat)
 | dead
 deriving Inhabited
structure St where
 fr : List PV
 hp : List MO
inductive Out (α : Type) where
 | ok (a : α) (μ : St)
 | exc (x : Value) (μ : St)
 | bad
noncomputable def PM (α : Type) := St -> Out α
noncomputable def PM.pure {α : Type} (a : α) : PM α := λ μ => .ok a μ
noncomputable def PM.bind {α β : Type} (f : PM α) (g : α -> PM β) : PM β := λ μ => match f μ with
 | .ok a μ' => g a μ'
 | .exc x μ' => .exc x μ'
 | .bad => .bad
noncomputable instance : Monad PM where
 pure := PM.pure
 bind := PM.bind
noncomputable def PM.H {α : Type} : PM α := λ _ => .bad
theorem PM.B {α β : Type} (f : PM α) (g : α -> PM β) (μ : St) : (f >>= g) μ = match f μ with
 | .ok a μ' => g a μ'
 | .exc x μ' => .exc x μ'
 | .bad => .bad := rfl
theorem Zf {α : Type} {a : α} {P : Prop} (e : none = some a) : P := nomatch e
mutual
inductive VR (φ : List Addr) (h : Heap) : Value -> PV -> Prop
 | none : VR φ h .none .none
 | bool (b : Bool) : VR φ h (.bool b) (.bool b)
 | int (i : Int) (t : Tok) : VR φ h (.int i t) (.int i)
 | str (x : Str) (t : Tok) : VR φ h (.str x t) (.str x)
 | tup {a : Addr} {vs : List Value} {n : Nat} {xs : List PV} : h.get? a = some { cls := .type "tuple", data := .seq vs.toArray n } -> a ∉ φ -> VRs φ h vs xs -> VR φ h (.ref a) (.tup xs)
 | lst {a : Addr} {vs : List Value} {n : Nat} {xs : List PV} : h.get? a = some { cls := .type "list", data := .seq vs.toArray n } -> a ∉ φ -> VRs φ h vs xs -> VR φ h (.ref a) (.lst xs)
 | rng {r : Addr} {a b c : Int} {t u v : Tok} : IsRange h r a b c t u v -> r ∉ φ -> VR φ h (.ref r) (.rng a b c)
 | obj {i : Nat} {a : Addr} : φ[i]? = some a -> VR φ h (.ref a) (.obj i)
 | nxt {i : Nat} {a m : Addr} : φ[i]? = some a -> h.get? m = some { cls := .type "method-wrapper", data := .fields #[.builtin "list_iterator.__next__", .ref a] } -> m ∉ φ -> VR φ h (.ref m) (.nxt i)
 | vals {i : Nat} {a m : Addr} : φ[i]? = some a -> h.get? m = some { cls := .type "dict_values", data := .fields #[.ref a] } -> m ∉ φ -> VR φ h (.ref m) (.vals i)
 | raw (v : Value) : VR φ h v (.raw v)
inductive VRs (φ : List Addr) (h : Heap) : List Value -> List PV -> Prop
 | nil : VRs φ h [] []
 | cons {v : Value} {vs : List Value} {x : PV} {xs : List PV} : VR φ h v x -> VRs φ h vs xs -> VRs φ h (v :: vs) (x :: xs)
end
structure Ext0 (nss cls : List Addr) (φ : List Addr) (h : Heap) (φ' : List Addr) (h' : Heap) : Prop where
 grow : ∃ ψ, φ' = φ ++ ψ ∧ ∀ b ∈ ψ, h.objs.size <= b
 size : h.objs.size <= h'.objs.size
 old : ∀ a o, h.get? a = some o -> a ∉ φ -> a ∉ nss -> a ∉ cls -> h'.get? a = some o ∨ ((∃ es ep, o.data = .dict es ep) ∧ ∃ sl, h'.get? a = some { o with slots := sl })
theorem getElem?_app {α : Type} {l r : List α} {i : Nat} {a : α} (h : l[i]? = some a) : (l ++ r)[i]? = some a := by
 obtain ⟨hi, _⟩ := Qgs h
 rw [List.getElem?_append_left hi, h]
def FzO (o : Obj) : Prop := (o.cls = .type "tuple" ∨ o.cls = .type "list" ∨ o.cls = .type "range" ∨ o.cls = .type "method-wrapper" ∨ o.cls = .type "dict_values") ∧ ((∃ vs n, o.data = .seq vs n) ∨ ∃ vs, o.data = .fields vs)
theorem FzO.notFrame {o : Obj} (h : FzO o) : ¬ ∃ es ep, o.data = .dict es ep := by
 rintro ⟨es, ep, e⟩
 rcases h.2 with ⟨vs, n, q⟩ | ⟨vs, q⟩ <;> rw [e] at q <;> cases q
theorem VRs.ind {φ : List Addr} {h : Heap} {motive : (vs : List Value) -> (xs : List PV) -> VRs φ h vs xs -> Prop} (nil : motive [] [] .nil)
  (cons : ∀ {v : Value} {vs : List Value} {x : PV} {xs : List PV} (a : VR φ h v x) (b : VRs φ h vs xs) (ih : motive vs xs b), motive (v :: vs) (x :: xs) (.cons a b)) {vs : List Value} {xs : List PV} (r : VRs φ h vs xs) : motive vs xs r :=
 VRs.rec (motive_1 := λ _ _ _ => True) (motive_2 := motive) trivial (λ _ => trivial) (λ _ _ => trivial) (λ _ _ => trivial) (λ _ _ _ _ => trivial) (λ _ _ _ _ => trivial) (λ _ _ => trivial) (λ _ => trivial) (λ _ _ _ => trivial) (λ _ _ _ => trivial) (λ _ => trivial) nil (λ a b _ ih => cons a b ih) r
theorem VR.move {φ φ' : List Addr} {h h' : Heap} (hφ : ∀ (i : Nat) (a : Addr), φ[i]? = some a -> φ'[i]? = some a) (hn : ∀ a o, h.get? a = some o -> a ∉ φ -> a ∉ φ')
  (hk : ∀ a o, h.get? a = some o -> a ∉ φ -> FzO o -> h'.get? a = some o) {v : Value} {x : PV} (r : VR φ h v x) : VR φ' h' v x :=
 VR.rec (motive_1 := λ v x _ => VR φ' h' v x) (motive_2 := λ vs xs _ => VRs φ' h' vs xs) .none (λ b => .bool b) (λ i t => .int i t) (λ x t => .str x t)
  (λ h1 h4 _ ih => .tup (hk _ _ h1 h4 ⟨.inl rfl, .inl ⟨_, _, rfl⟩⟩) (hn _ _ h1 h4) ih)
  (λ h1 h4 _ ih => .lst (hk _ _ h1 h4 ⟨.inr (.inl rfl), .inl ⟨_, _, rfl⟩⟩) (hn _ _ h1 h4) ih)
  (λ h1 h2 => .rng (hk _ _ h1 h2 ⟨.inr (.inr (.inl rfl)), .inr ⟨_, rfl⟩⟩) (hn _ _ h1 h2))
  (λ h1 => .obj (hφ _ _ h1))
  (λ h1 h2 h3 => .nxt (hφ _ _ h1) (hk _ _ h2 h3 ⟨.inr (.inr (.inr (.inl rfl))), .inr ⟨_, rfl⟩⟩) (hn _ _ h2 h3))
  (λ h1 h2 h3 => .vals (hφ _ _ h1) (hk _ _ h2 h3 ⟨.inr (.inr (.inr (.inr rfl))), .inr ⟨_, rfl⟩⟩) (hn _ _ h2 h3))
  (λ v => .raw v) .nil (λ _ _ a b => .cons a b) r
section
variable {φ : List Addr} {h : Heap} {vs : List Value} {xs : List PV}
theorem VRs.length (r : VRs φ h vs xs) : vs.length = xs.length := by
 induction r using VRs.ind with
 | nil => rfl
 | cons a b ih => exact congrArg Nat.succ ih
theorem VRs.append {ws : List Value} {ys : List PV} (r : VRs φ h vs xs) (q : VRs φ h ws ys) : VRs φ h (vs ++ ws) (xs ++ ys) := by
 induction r using VRs.ind with
 | nil => exact q
 | cons a b ih => exact .cons a ih
theorem VRs.get (r : VRs φ h vs xs) : ∀ {k : Nat} {x : PV}, xs[k]? = some x -> ∃ v, vs[k]? = some v ∧ VR φ h v x := by
 induction r using VRs.ind with
 | nil => exact λ e => nomatch e
 | cons a b ih => exact λ {k x} e => match k, e with
  | 0, e => ⟨_, rfl, (Option.some.inj e) ▸ a⟩
  | k + 1, e => ih (k := k) e
theorem VRs.take (r : VRs φ h vs xs) : ∀ n, VRs φ h (vs.take n) (xs.take n) := by
 induction r using VRs.ind with
 | nil => exact λ n => by rw [List.take_nil, List.take_nil]; exact .nil
 | cons a b ih => exact λ n => match n with
  | 0 => .nil
  | n + 1 => .cons a (ih n)
theorem VRs.drop (r : VRs φ h vs xs) : ∀ n, VRs φ h (vs.drop n) (xs.drop n) := by
 induction r using VRs.ind with
 | nil => exact λ n => by rw [List.drop_nil, List.drop_nil]; exact .nil
 | cons a b ih => exact λ n => match n with
  | 0 => .cons a b
  | n + 1 => ih n
theorem VRs.set (r : VRs φ h vs xs) : ∀ (k : Nat) {v : Value} {x : PV}, VR φ h v x -> VRs φ h (vs.set k v) (xs.set k x) := by
 induction r using VRs.ind with
 | nil => exact λ _ _ _ _ => .nil
 | cons a b ih => exact λ k {v x} e => match k with
  | 0 => .cons e b
  | k + 1 => .cons a (ih k e)
theorem VRs.eraseIdx (r : VRs φ h vs xs) : ∀ (k : Nat), VRs φ h (vs.eraseIdx k) (xs.eraseIdx k) := by
 induction r using VRs.ind with
 | nil => exact λ _ => .nil
 | cons a b ih => exact λ k => match k with
  | 0 => b
  | k + 1 => .cons a (ih k)
end
set_option genInjectivity false in
structure Cx where
 prog : Program
 w : World
 B : Heap
 os : OsState
 mg : Str -> Option Value
 mb : Str -> Option Value
 K : Frag
inductive DRs (φ : List Addr) (h : Heap) : List (Int × Value) -> List (Int × PV) -> Prop
 | nil : DRs φ h [] []
 | cons {k : Int} {v : Value} {x : PV} {ds : List (Int × Value)} {es : List (Int × PV)} : VR φ h v x -> DRs φ h ds es -> DRs φ h ((k, v) :: ds) ((k, x) :: es)
inductive NRs (φ : List Addr) (h : Heap) : List DictEntry -> List (Str × PV) -> Prop
 | nil : NRs φ h [] []
 | cons {k : Str} {t : Tok} {e : DictEntry} {x : PV} {ds : List DictEntry} {es : List (Str × PV)} : e.key = .str k t -> VR φ h e.val x -> NRs φ h ds es -> NRs φ h (e :: ds) ((k, x) :: es)
inductive ORs (φ : List Addr) (h : Heap) : List (Option Value) -> List (Option PV) -> Prop
 | nil : ORs φ h [] []
 | none {vs : List (Option Value)} {xs : List (Option PV)} : ORs φ h vs xs -> ORs φ h (none :: vs) (none :: xs)
 | some {v : Value} {x : PV} {vs : List (Option Value)} {xs : List (Option PV)} : VR φ h v x -> ORs φ h vs xs -> ORs φ h (some v :: vs) (some x :: xs)
section
variable {φ φ' : List Addr} {h h' : Heap} (hm : ∀ v x, VR φ h v x -> VR φ' h' v x)
include hm
theorem DRs.move {ds : List (Int × Value)} {es : List (Int × PV)} (r : DRs φ h ds es) : DRs φ' h' ds es := by
 induction r with
 | nil => exact .nil
 | cons a _ ih => exact .cons (hm _ _ a) ih
theorem NRs.move {ds : List DictEntry} {es : List (Str × PV)} (r : NRs φ h ds es) : NRs φ' h' ds es := by
 induction r with
 | nil => exact .nil
 | cons k a _ ih => exact .cons k (hm _ _ a) ih
theorem ORs.move {ds : List (Option Value)} {es : List (Option PV)} (r : ORs φ h ds es) : ORs φ' h' ds es := by
 induction r with
 | nil => exact .nil
 | none _ ih => exact .none ih
 | some a _ ih => exact .some (hm _ _ a) ih
theorem VRs.mv {ds : List Value} {es : List PV} (r : VRs φ h ds es) : VRs φ' h' ds es := by
 induction r using VRs.ind with
 | nil => exact .nil
 | cons a _ ih => exact .cons (hm _ _ a) ih
end
inductive OR (c : Cx) (φ : List Addr) (h : Heap) (a : Addr) : MO -> Prop
 | lst {vs : List Value} {n : Nat} {xs : List PV} : h.get? a = some { cls := .type "list", data := .seq vs.toArray n } -> VRs φ h vs xs -> OR c φ h a (.lst xs)
 | dct {kvs : List (Int × Value)} {es : List (Int × PV)} {ep : Nat} : h.DictAt (intKind c.prog c.w) a kvs ep -> DRs φ h kvs es -> OR c φ h a (.dct es ep)
 | set {xs : List Int} : h.SetOf (intKind c.prog c.w) a (λ k => decide (k ∈ xs)) xs.length -> OR c φ h a (.set xs)
 | ins {C : Addr} {d : Nat} {dx : Addr} : φ[d]? = some dx -> h.get? a = some { cls := .ref C, dict := some dx, data := .plain } -> OR c φ h a (.ins C d)
 | ns {ds : List DictEntry} {n : Nat} {fs : List (Str × PV)} : h.get? a = some { cls := .type "dict", data := .dict ds.toArray n } -> NRs φ h ds fs -> OR c φ h a (.ns fs)
 | slt {C : Addr} {d : Nat} {dx : Addr} {sl : List (Option Value)} {fs : List (Option PV)} : φ[d]? = some dx -> h.get? a = some { cls := .ref C, dict := some dx, data := .plain, slots := sl.toArray } -> ORs φ h sl fs -> OR c φ h a (.slt C d fs)
 | itr {l k : Nat} {la : Addr} : φ[l]? = some la -> h.get? a = some { cls := .type "list_iterator", data := .fields #[.ref la, .int k 0] } -> OR c φ h a (.itr l k)
 | dead {o : Obj} : h.get? a = some o -> OR c φ h a .dead
theorem VR.cs {φ : List Addr} {h : Heap} {motive : (v : Value) -> (x : PV) -> VR φ h v x -> Prop} (none : motive .none .none .none) (bool : ∀ b, motive (.bool b) (.bool b) (.bool b)) (int : ∀ i t, motive (.int i t) (.int i) (.int i t)) (str : ∀ x t, motive (.str x t) (.str x) (.str x t))
  (tup : ∀ {a : Addr} {vs : List Value} {n : Nat} {xs : List PV} (h1 : h.get? a = some { cls := .type "tuple", data := .seq vs.toArray n }) (h2 : a ∉ φ) (h3 : VRs φ h vs xs), motive (.ref a) (.tup xs) (.tup h1 h2 h3))
  (lst : ∀ {a : Addr} {vs : List Value} {n : Nat} {xs : List PV} (h1 : h.get? a = some { cls := .type "list", data := .seq vs.toArray n }) (h2 : a ∉ φ) (h3 : VRs φ h vs xs), motive (.ref a) (.lst xs) (.lst h1 h2 h3))
  (rng : ∀ {r : Addr} {a b c : Int} {t u v : Tok} (h1 : IsRange h r a b c t u v) (h2 : r ∉ φ), motive (.ref r) (.rng a b c) (.rng h1 h2))
  (obj : ∀ {i : Nat} {a : Addr} (h1 : φ[i]? = some a), motive (.ref a) (.obj i) (.obj h1))
  (nxt : ∀ {i : Nat} {a m : Addr} (h1 : φ[i]? = some a) (h2 : h.get? m = some { cls := .type "method-wrapper", data := .fields #[.builtin "list_iterator.__next__", .ref a] }) (h3 : m ∉ φ), motive (.ref m) (.nxt i) (.nxt h1 h2 h3))
  (vals : ∀ {i : Nat} {a m : Addr} (h1 : φ[i]? = some a) (h2 : h.get? m = some { cls := .type "dict_values", data := .fields #[.ref a] }) (h3 : m ∉ φ), motive (.ref m) (.vals i) (.vals h1 h2 h3))
  (raw : ∀ v, motive v (.raw v) (.raw v)) {v : Value} {x : PV} (r : VR φ h v x) : motive v x r := by
 cases r with
 | none => exact none
 | bool b => exact bool b
 | int i t => exact int i t
 | str x t => exact str x t
 | tup a b c => exact tup a b c
 | lst a b c => exact lst a b c
 | rng a b => exact rng a b
 | obj a => exact obj a
 | nxt a b c => exact nxt a b c
 | vals a b c => exact vals a b c
 | raw v => exact raw v
theorem OR.cs {c : Cx} {φ : List Addr} {h : Heap} {a : Addr} {motive : (o : MO) -> OR c φ h a o -> Prop}
 (lst : ∀ {vs : List Value} {n : Nat} {xs : List PV} (h1 : h.get? a = some { cls := .type "list", data := .seq vs.toArray n }) (h2 : VRs φ h vs xs), motive (.lst xs) (.lst h1 h2))
 (dct : ∀ {kvs : List (Int × Value)} {es : List (Int × PV)} {ep : Nat} (h1 : h.DictAt (intKind c.prog c.w) a kvs ep) (h2 : DRs φ h kvs es), motive (.dct es ep) (.dct h1 h2))
 (set : ∀ {xs : List Int} (h1 : h.SetOf (intKind c.prog c.w) a (λ k => decide (k ∈ xs)) xs.length), motive (.set xs) (.set h1))
 (ins : ∀ {C : Addr} {d : Nat} {dx : Addr} (h1 : φ[d]? = some dx) (h2 : h.get? a = some { cls := .ref C, dict := some dx, data := .plain }), motive (.ins C d) (.ins h1 h2))
 (ns : ∀ {ds : List DictEntry} {n : Nat} {fs : List (Str × PV)} (h1 : h.get? a = some { cls := .type "dict", data := .dict ds.toArray n }) (h2 : NRs φ h ds fs), motive (.ns fs) (.ns h1 h2))
 (slt : ∀ {C : Addr} {d : Nat} {dx : Addr} {sl : List (Option Value)} {fs : List (Option PV)} (h1 : φ[d]? = some dx) (h2 : h.get? a = some { cls := .ref C, dict := some dx, data := .plain, slots := sl.toArray }) (h3 : ORs φ h sl fs), motive (.slt C d fs) (.slt h1 h2 h3))
 (itr : ∀ {l k : Nat} {la : Addr} (h1 : φ[l]? = some la) (h2 : h.get? a = some { cls := .type "list_iterator", data := .fields #[.ref la, .int k 0] }), motive (.itr l k) (.itr h1 h2))
 (dead : ∀ {o : Obj} (h1 : h.get? a = some o), motive .dead (.dead h1)) {o : MO} (r : OR c φ h a o) : motive o r := by
 cases r with
 | lst a b => exact lst a b
 | dct a b => exact dct a b
 | set a => exact set a
 | ins a b => exact ins a b
 | ns a b => exact ns a b
 | slt a b c => exact slt a b c
 | itr a b => exact itr a b
 | dead a => exact dead a
theorem VRs.cs {φ : List Addr} {h : Heap} {motive : (vs : List Value) -> (xs : List PV) -> VRs φ h vs xs -> Prop} (nil : motive [] [] .nil)
  (cons : ∀ {v : Value} {vs : List Value} {x : PV} {xs : List PV} (a : VR φ h v x) (b : VRs φ h vs xs), motive (v :: vs) (x :: xs) (.cons a b)) {vs : List Value} {xs : List PV} (r : VRs φ h vs xs) : motive vs xs r :=
 VRs.ind nil (λ a b _ => cons a b) r
theorem VR.int_inv {φ : List Addr} {h : Heap} {v : Value} {x : PV} (r : VR φ h v x) : ∀ {i : Int}, x = .int i -> ∃ t, v = Value.int i t := by
 induction r using VR.cs with
 | int => intro i e; cases e; exact ⟨_, rfl⟩
 | _ => intro i e; cases e
theorem VRs.un {φ : List Addr} {h : Heap} {vs : List Value} {ys : List PV} (r : VRs φ h vs ys) : ∀ {x : PV} {xs : List PV}, ys = x :: xs -> ∃ v ws, vs = v :: ws ∧ VR φ h v x ∧ VRs φ h ws xs := by
 induction r using VRs.ind with
 | nil => intro x xs e; cases e
 | cons a b => intro x xs e; cases e; exact ⟨_, _, rfl, a, b⟩
theorem VRs.un0 {φ : List Addr} {h : Heap} {vs : List Value} {ys : List PV} (r : VRs φ h vs ys) : ys = [] -> vs = [] := by
 induction r using VRs.ind with
 | nil => exact λ _ => rfl
 | cons => exact λ e => nomatch e
theorem VRs.one {φ : List Addr} {h : Heap} {vs : List Value} {x : PV} (r : VRs φ h vs [x]) : ∃ v, vs = [v] ∧ VR φ h v x := by
 obtain ⟨v, ws, rfl, a, b⟩ := r.un rfl
 rw [b.un0 rfl]; exact ⟨v, rfl, a⟩
theorem VRs.ints1 {φ : List Addr} {h : Heap} {vs : List Value} {a : Int} (r : VRs φ h vs [.int a]) : ∃ t, vs = [.int a t] := by
 obtain ⟨v, rfl, q⟩ := r.one
 obtain ⟨t, rfl⟩ := q.int_inv rfl
 exact ⟨t, rfl⟩
theorem VRs.ints2 {φ : List Addr} {h : Heap} {vs : List Value} {a b : Int} (r : VRs φ h vs [.int a, .int b]) : ∃ t u, vs = [.int a t, .int b u] := by
 obtain ⟨v, ws, rfl, q, r'⟩ := r.un rfl
 obtain ⟨t, rfl⟩ := q.int_inv rfl
 obtain ⟨u, rfl⟩ := r'.ints1
 exact ⟨t, u, rfl⟩
theorem VRs.ints3 {φ : List Addr} {h : Heap} {vs : List Value} {a b c : Int} (r : VRs φ h vs [.int a, .int b, .int c]) : ∃ t u v, vs = [.int a t, .int b u, .int c v] := by
 obtain ⟨v, ws, rfl, q, r'⟩ := r.un rfl
 obtain ⟨t, rfl⟩ := q.int_inv rfl
 obtain ⟨u, w, rfl⟩ := r'.ints2
 exact ⟨t, u, w, rfl⟩
section
variable {c : Cx} {φ : List Addr} {h : Heap} {a : Addr} {v : Value} {x : PV} {o : MO}
theorem VR.inv_tup (r : VR φ h v x) : ∀ {a xs}, v = .ref a -> x = .tup xs -> ∃ vs n, h.get? a = some { cls := .type "tuple", data := .seq (List.toArray vs) n } ∧ a ∉ φ ∧ VRs φ h vs xs := by
 induction r using VR.cs with
 | tup h1 h2 h3 => intro a xs e1 e2; cases e1; cases e2; exact ⟨_, _, h1, h2, h3⟩
 | _ => intro a xs e1 e2; cases e2
theorem VR.un_lst (r : VR φ h v x) : ∀ {xs}, x = .lst xs -> ∃ a vs n, v = .ref a ∧ h.get? a = some { cls := .type "list", data := .seq (List.toArray vs) n } ∧ a ∉ φ ∧ VRs φ h vs xs := by
 induction r using VR.cs with
 | lst h1 h2 h3 => intro xs e; cases e; exact ⟨_, _, _, rfl, h1, h2, h3⟩
 | _ => intro xs e; cases e
theorem VR.inv_lst (r : VR φ h v x) {a : Addr} {xs : List PV} (e1 : v = .ref a) (e2 : x = .lst xs) : ∃ vs n, h.get? a = some { cls := .type "list", data := .seq (List.toArray vs) n } ∧ a ∉ φ ∧ VRs φ h vs xs := by
 obtain ⟨a', vs, n, e, q⟩ := r.un_lst e2
 cases e1.symm.trans e
 exact ⟨vs, n, q⟩
theorem VR.un_obj (r : VR φ h v x) : ∀ {i}, x = .obj i -> ∃ a, v = .ref a ∧ φ[i]? = some a := by
 induction r using VR.cs with
 | obj h1 => intro i e; cases e; exact ⟨_, rfl, h1⟩
 | _ => intro i e; cases e
theorem VR.inv_obj (r : VR φ h v x) {a : Addr} {i : Nat} (e1 : v = .ref a) (e2 : x = .obj i) : φ[i]? = some a := by
 obtain ⟨a', e, q⟩ := r.un_obj e2
 cases e1.symm.trans e
 exact q
theorem OR.inv_set (r : OR c φ h a o) : ∀ {xs}, o = .set xs -> h.SetOf (intKind c.prog c.w) a (λ k => decide (k ∈ xs)) xs.length := by
 induction r using OR.cs with
 | set h1 => intro xs e; cases e; exact h1
 | _ => intro xs e; cases e
theorem OR.inv_ins (r : OR c φ h a o) : ∀ {C d}, o = .ins C d -> ∃ dx, φ[d]? = some dx ∧ h.get? a = some { cls := .ref C, dict := some dx, data := .plain } := by
 induction r using OR.cs with
 | ins h1 h2 => intro C d e; cases e; exact ⟨_, h1, h2⟩
 | _ => intro C d e; cases e
theorem OR.inv_ns (r : OR c φ h a o) : ∀ {fs}, o = .ns fs -> ∃ ds n, h.get? a = some { cls := .type "dict", data := .dict (List.toArray ds) n } ∧ NRs φ h ds fs := by
 induction r using OR.cs with
 | ns h1 h2 => intro fs e; cases e; exact ⟨_, _, h1, h2⟩
 | _ => intro fs e; cases e
theorem OR.inv_lst (r : OR c φ h a o) : ∀ {xs}, o = .lst xs -> ∃ vs n, h.get? a = some { cls := .type "list", data := .seq (List.toArray vs) n } ∧ VRs φ h vs xs := by
 induction r using OR.cs with
 | lst h1 h2 => intro xs e; cases e; exact ⟨_, _, h1, h2⟩
 | _ => intro xs e; cases e
theorem OR.inv_dct (r : OR c φ h a o) : ∀ {es ep}, o = .dct es ep -> ∃ kvs, h.DictAt (intKind c.prog c.w) a kvs ep ∧ DRs φ h kvs es := by
 induction r using OR.cs with
 | dct h1 h2 => intro es ep e; cases e; exact ⟨_, h1, h2⟩
 | _ => intro es ep e; cases e
end
theorem OR.get {c : Cx} {φ : List Addr} {h : Heap} {a : Addr} {o : MO} (r : OR c φ h a o) : ∃ ob, h.get? a = some ob := by
 cases r with
 | dct h1 _ => obtain ⟨o, _, h, _⟩ := h1; exact ⟨o, h⟩
 | set h1 => obtain ⟨o, _, _, _, h, _⟩ := h1; exact ⟨o, h⟩
 | lst h1 _ => exact ⟨_, h1⟩
 | ins _ h1 => exact ⟨_, h1⟩
 | ns h1 _ => exact ⟨_, h1⟩
 | slt _ h1 _ => exact ⟨_, h1⟩
 | itr _ h1 => exact ⟨_, h1⟩
 | dead h1 => exact ⟨_, h1⟩
theorem OR.move {c : Cx} {φ φ' : List Addr} {h h' : Heap} {a : Addr} {o : MO} (hφ : ∀ (i : Nat) (b : Addr), φ[i]? = some b -> φ'[i]? = some b) (hm : ∀ v x, VR φ h v x -> VR φ' h' v x) (he : h'.get? a = h.get? a)
  (r : OR c φ h a o) : OR c φ' h' a o := by
 cases r with
 | lst h1 h2 => exact .lst (he.trans h1) (h2.mv hm)
 | dct h1 h2 => obtain ⟨o, es, ho, r⟩ := h1; exact .dct ⟨o, es, he.trans ho, r⟩ (h2.move hm)
 | set h1 => obtain ⟨o, es, ep, t, ho, r⟩ := h1; exact .set ⟨o, es, ep, t, he.trans ho, r⟩
 | ins h1 h2 => exact .ins (hφ _ _ h1) (he.trans h2)
 | ns h1 h2 => exact .ns (he.trans h1) (h2.move hm)
 | slt h0 h1 h2 => exact .slt (hφ _ _ h0) (he.trans h1) (h2.move hm)
 | itr h1 h2 => exact .itr (hφ _ _ h1) (he.trans h2)
 | dead h1 => exact .dead (he.trans h1)
inductive Loc where
 | loc (L : Addr) (x : Str)
 | cell (a : Addr)
 deriving DecidableEq
set_option genInjectivity false in
structure Fx where
 env : Env
 locs : List Loc
 nss : List Addr
 cls : List Addr
 frames : List Env
 lv : Nat
 hd : Bool
structure CxOk (c : Cx) : Prop where
 kin : c.K.In c.B
 glob : c.B.Ns mainGlobals c.mg
 bui : c.B.Ns builtinsNs c.mb
 nolimit : c.B.NoLimit
 boot : ∀ x : Str, x ≠ "__name__" -> c.mb x = bootBuiltins x
structure Rep (c : Cx) (F : Fx) (φ : List Addr) (μ : St) (s : Shared) : Prop where
 ok : CxOk c
 keep : c.B.StaysIn s.heap
 os : s.os = c.os
 gens : s.gens = #[]
 len : φ.length = μ.hp.length
 nodup : φ.Nodup
 phiB : ∀ a ∈ φ, c.B.get? a = none ∧ (a == sysModules) = false
 objs : ∀ (i : Nat) (a : Addr) (o : MO), φ[i]? = some a -> μ.hp[i]? = some o -> OR c φ s.heap a o
 flen : μ.fr.length = F.locs.length
 lnodup : F.locs.Nodup
 nss : ∀ L ∈ F.nss, L ∉ φ ∧ c.B.get? L = none ∧ ∃ m, s.heap.Ns L m
 cls : ∀ a ∈ F.cls, a ∉ φ ∧ c.B.get? a = none ∧ ∃ v, s.heap.IsCell a v
 vloc : ∀ (k : Nat) (L : Addr) (x : Str), F.locs[k]? = some (.loc L x) -> L ∈ F.nss ∧ ∀ pv, μ.fr[k]? = some pv -> pv ≠ .undef -> ∃ m v, s.heap.Ns L m ∧ m x = some v ∧ VR φ s.heap v pv
 vcell : ∀ (k : Nat) (a : Addr), F.locs[k]? = some (.cell a) -> a ∈ F.cls ∧ ∀ pv, μ.fr[k]? = some pv -> pv ≠ .undef -> ∃ v, s.heap.IsCell a (some v) ∧ VR φ s.heap v pv
 frm : ∀ env ∈ F.frames, env.scope.kind ≠ .module ∧ ∃ L, env.frame = some L ∧ L ∉ φ ∧ c.B.get? L = none ∧ ∃ o es ep, s.heap.get? L = some o ∧ o.data = .dict es ep
structure Rest (c : Cx) (F : Fx) (φ : List Addr) (fr : List PV) (h : Heap) : Prop where
 nss : ∀ L ∈ F.nss, L ∉ φ ∧ c.B.get? L = none ∧ ∃ m, h.Ns L m
 cls : ∀ a ∈ F.cls, a ∉ φ ∧ c.B.get? a = none ∧ ∃ v, h.IsCell a v
 vloc : ∀ (k : Nat) (L : Addr) (x : Str), F.locs[k]? = some (.loc L x) -> L ∈ F.nss ∧ ∀ pv, fr[k]? = some pv -> pv ≠ .undef -> ∃ m v, h.Ns L m ∧ m x = some v ∧ VR φ h v pv
 vcell : ∀ (k : Nat) (a : Addr), F.locs[k]? = some (.cell a) -> a ∈ F.cls ∧ ∀ pv, fr[k]? = some pv -> pv ≠ .undef -> ∃ v, h.IsCell a (some v) ∧ VR φ h v pv
 frm : ∀ env ∈ F.frames, env.scope.kind ≠ .module ∧ ∃ L, env.frame = some L ∧ L ∉ φ ∧ c.B.get? L = none ∧ ∃ o es ep, h.get? L = some o ∧ o.data = .dict es ep
theorem Rep.rest {c : Cx} {F : Fx} {φ φ' : List Addr} {μ : St} {s : Shared} {h' : Heap} (R : Rep c F φ μ s) (nin : ∀ a o, s.heap.get? a = some o -> a ∉ φ -> a ∉ φ')
  (sl : ∀ a o, s.heap.get? a = some o -> a ∉ φ -> (∀ vs, o.data ≠ .fields vs) -> ∃ sl, h'.get? a = some { o with slots := sl }) (mv : ∀ v x, VR φ s.heap v x -> VR φ' h' v x) : Rest c F φ' μ.fr h' := by
 have ns : ∀ {L m}, L ∉ φ -> s.heap.Ns L m -> h'.Ns L m := λ {L m} hn ⟨o, es, ep, ho, hd, r⟩ => by
  obtain ⟨q, hq⟩ := sl L o ho hn (λ vs e => by rw [hd] at e; cases e)
  exact ⟨_, es, ep, hq, hd, r⟩
 have cl : ∀ {a v}, a ∉ φ -> s.heap.IsCell a v -> h'.IsCell a v := λ {a v} hn ⟨o, ho, hd⟩ => by
  obtain ⟨q, hq⟩ := sl a o ho hn (λ vs e => by rw [hd] at e; cases e)
  exact ⟨_, hq, hd⟩
 refine ⟨λ L hL => ?_, λ a ha => ?_, λ k L x hk => ⟨(R.vloc k L x hk).1, λ pv hp hu => ?_⟩, λ k a hk => ⟨(R.vcell k a hk).1, λ pv hp hu => ?_⟩, λ env he => ?_⟩
 ·obtain ⟨h1, h2, m, hm⟩ := R.nss L hL
  have hm' := hm
  obtain ⟨o, _, _, ho, _⟩ := hm'
  exact ⟨nin L o ho h1, h2, m, ns h1 hm⟩
 ·obtain ⟨h1, h2, v, hv⟩ := R.cls a ha
  have hv' := hv
  obtain ⟨o, ho, _⟩ := hv'
  exact ⟨nin a o ho h1, h2, v, cl h1 hv⟩
 ·obtain ⟨hL, h2⟩ := R.vloc k L x hk
  obtain ⟨m, v, hm, hx, hv⟩ := h2 pv hp hu
  exact ⟨m, v, ns (R.nss L hL).1 hm, hx, mv _ _ hv⟩
 ·obtain ⟨ha, h2⟩ := R.vcell k a hk
  obtain ⟨v, hv, hr⟩ := h2 pv hp hu
  exact ⟨v, cl (R.cls a ha).1 hv, mv _ _ hr⟩
 ·obtain ⟨h1, L, h2, h3, h4, o, es, ep, ho, hd⟩ := R.frm env he
  obtain ⟨q, hq⟩ := sl L o ho h3 (λ vs e => by rw [hd] at e; cases e)
  exact ⟨h1, L, h2, nin L o ho h3, h4, _, es, ep, hq, hd⟩
theorem Rep.lt {c : Cx} {F : Fx} {φ : List Addr} {μ : St} {s : Shared} (R : Rep c F φ μ s) {a : Addr} (h : a ∈ φ) : ∃ o, s.heap.get? a = some o := by
 obtain ⟨i, hi⟩ := List.getElem?_of_mem h
 have hl : i < μ.hp.length := by rw [<- R.len]; exact (Qgl hi)
 exact (R.objs i a _ hi (List.getElem?_eq_getElem hl)).get
theorem Rep.notSys {c : Cx} {F : Fx} {φ : List Addr} {μ : St} {s : Shared} (R : Rep c F φ μ s) {a : Addr} (h : a ∈ φ) : (a == sysModules) = false := (R.phiB a h).2
theorem Rep.phiLt {c : Cx} {F : Fx} {φ : List Addr} {μ : St} {s : Shared} (R : Rep c F φ μ s) {a : Addr} (h : a ∈ φ) : a < s.heap.objs.size := by
 obtain ⟨o, ho⟩ := R.lt h
 exact Heap.lt_size ho
theorem Ext0.refl {nss cls φ : List Addr} {h : Heap} : Ext0 nss cls φ h φ h := ⟨⟨[], by simp, by simp⟩, Qr, λ _ _ e _ _ _ => .inl e⟩
theorem Ext0.idx {nss cls φ φ' : List Addr} {h h' : Heap} (e : Ext0 nss cls φ h φ' h') (i : Nat) (a : Addr) (hi : φ[i]? = some a) : φ'[i]? = some a := by
 obtain ⟨⟨ψ, rfl, _⟩, _, _⟩ := e
 exact getElem?_app hi
theorem Ext0.nin {nss cls φ φ' : List Addr} {h h' : Heap} (e : Ext0 nss cls φ h φ' h') {a : Addr} {o : Obj} (ho : h.get? a = some o) (hn : a ∉ φ) : a ∉ φ' := by
 obtain ⟨⟨ψ, rfl, hψ⟩, _, _⟩ := e
 intro hm
 rcases Qma hm with hm | hm
 ·exact hn hm
 ·exact absurd (Heap.lt_size ho) (Nat.not_lt_of_le (hψ _ hm))
theorem Ext0.trans {nss cls φ φ' φ'' : List Addr} {h h' h'' : Heap} (e : Ext0 nss cls φ h φ' h') (e' : Ext0 nss cls φ' h' φ'' h'') : Ext0 nss cls φ h φ'' h'' := by
 refine ⟨?_, Nat.le_trans e.size e'.size, λ a o ho h1 h2 h3 => ?_⟩
 ·obtain ⟨ψ, hψ, b1⟩ := e.grow
  obtain ⟨ψ', hψ', b2⟩ := e'.grow
  refine ⟨ψ ++ ψ', by rw [hψ', hψ, append_assoc], λ b hb => ?_⟩
  rcases Qma hb with hb | hb
  ·exact b1 b hb
  ·exact Nat.le_trans e.size (b2 b hb)
 ·have hn := e.nin ho h1
  rcases e.old a o ho h1 h2 h3 with k | ⟨kc, sl, k⟩
  ·exact e'.old a o k hn h2 h3
  ·rcases e'.old a _ k hn h2 h3 with k' | ⟨_, sl', k'⟩
   ·exact .inr ⟨kc, sl, k'⟩
   ·exact .inr ⟨kc, sl', k'⟩
theorem Rep.notOwn {c : Cx} {F : Fx} {φ : List Addr} {μ : St} {s : Shared} (R : Rep c F φ μ s) {a : Addr} {o : Obj} (ho : s.heap.get? a = some o) (hd : (∃ vs n, o.data = .seq vs n) ∨ (∃ vs, o.data = .fields vs)) : a ∉ F.nss ∧ a ∉ F.cls := by
 constructor
 ·intro hm
  obtain ⟨_, _, m, o', es, ep, h1, h2, _⟩ := R.nss a hm
  rw [ho] at h1; cases h1
  rcases hd with ⟨_, _, e⟩ | ⟨_, e⟩ <;> rw [h2] at e <;> cases e
 ·intro hm
  obtain ⟨_, _, v, o', h1, h2⟩ := R.cls a hm
  rw [ho] at h1; cases h1
  rcases hd with ⟨_, _, e⟩ | ⟨_, e⟩ <;> rw [h2] at e <;> cases e
theorem VR.ext0 {c : Cx} {F : Fx} {φ φ' : List Addr} {μ : St} {s : Shared} {h' : Heap} (R : Rep c F φ μ s) (e : Ext0 F.nss F.cls φ s.heap φ' h') {v : Value} {x : PV} (r : VR φ s.heap v x) : VR φ' h' v x := by
 refine r.move e.idx (λ a o ho hn => e.nin ho hn) λ a o ho hn hd => ?_
 have q := R.notOwn ho hd.2
 rcases e.old a o ho hn q.1 q.2 with k | ⟨k, _⟩
 ·exact k
 ·exact absurd k hd.notFrame
theorem VRs.ext0 {c : Cx} {F : Fx} {φ φ' : List Addr} {μ : St} {s : Shared} {h' : Heap} (R : Rep c F φ μ s) (e : Ext0 F.nss F.cls φ s.heap φ' h') {v : List Value} {x : List PV} (r : VRs φ s.heap v x) : VRs φ' h' v x :=
 r.mv λ _ _ q => q.ext0 R e
noncomputable def dom (h : Heap) : Addr -> Prop := λ a => ∃ o, h.get? a = some o
structure Ext (nss cls : List Addr) (φ : List Addr) (h : Heap) (φ' : List Addr) (h' : Heap) : Prop extends Ext0 nss cls φ h φ' h' where
 dom : ∀ a, Mine.dom h a -> Mine.dom h' a
theorem Ext.refl {nss cls φ : List Addr} {h : Heap} : Ext nss cls φ h φ h := ⟨Ext0.refl, λ _ x => x⟩
theorem Ext.nin {nss cls φ φ' : List Addr} {h h' : Heap} (e : Ext nss cls φ h φ' h') {a : Addr} {o : Obj} (ho : h.get? a = some o) (hn : a ∉ φ) : a ∉ φ' := e.toExt0.nin ho hn
theorem Ext.trans {nss cls φ φ' φ'' : List Addr} {h h' h'' : Heap} (e : Ext nss cls φ h φ' h') (e' : Ext nss cls φ' h' φ'' h'') : Ext nss cls φ h φ'' h'' := ⟨e.toExt0.trans e'.toExt0, λ a x => e'.dom a (e.dom a x)⟩
theorem VR.ext {c : Cx} {F : Fx} {φ φ' : List Addr} {μ : St} {s : Shared} {h' : Heap} (R : Rep c F φ μ s) (e : Ext F.nss F.cls φ s.heap φ' h') {v : Value} {x : PV} (r : VR φ s.heap v x) : VR φ' h' v x := r.ext0 R e.toExt0
theorem VRs.ext {c : Cx} {F : Fx} {φ φ' : List Addr} {μ : St} {s : Shared} {h' : Heap} (R : Rep c F φ μ s) (e : Ext F.nss F.cls φ s.heap φ' h') {v : List Value} {x : List PV} (r : VRs φ s.heap v x) : VRs φ' h' v x := r.ext0 R e.toExt0

section
variable {c : Cx} {F : Fx} {φ φ' : List Addr} {μ : St} {s : Shared}
theorem Rep.mut (R : Rep c F φ μ s) {ψ : List Addr} {h' : Heap} {hp' : List MO} {tk : Nat} (hψ : ∀ b ∈ ψ, s.heap.objs.size <= b) (hψn : ψ.Nodup) (size : s.heap.objs.size <= h'.objs.size)
  (stay : ∀ a o, s.heap.get? a = some o -> a ∉ φ -> h'.get? a = some o) (len : (φ ++ ψ).length = hp'.length)
  (objs : (∀ v x, VR φ s.heap v x -> VR (φ ++ ψ) h' v x) -> ∀ (i : Nat) (a : Addr) (o : MO), (φ ++ ψ)[i]? = some a -> hp'[i]? = some o -> OR c (φ ++ ψ) h' a o) :
  Rep c F (φ ++ ψ) { fr := μ.fr, hp := hp' } { s with heap := h', toks := tk } ∧ Ext F.nss F.cls φ s.heap (φ ++ ψ) h' := by
 have e : Ext0 F.nss F.cls φ s.heap (φ ++ ψ) h' := ⟨⟨ψ, rfl, hψ⟩, size, λ a o ho h1 _ _ => .inl (stay a o ho h1)⟩
 have hm : ∀ v x, VR φ s.heap v x -> VR (φ ++ ψ) h' v x := λ v x r => r.ext0 R e
 have hdom : ∀ a, dom s.heap a -> dom h' a := λ a ⟨o, ho⟩ => by
  by_cases hm' : a ∈ φ
  ·obtain ⟨i, hi⟩ := List.getElem?_of_mem (mem_append_left ψ hm')
   have hl : i < hp'.length := by rw [<- len]; exact (Qgl hi)
   exact (objs hm i a _ hi (List.getElem?_eq_getElem hl)).get
  ·exact ⟨o, stay a o ho hm'⟩
 have low : sysModules < s.heap.objs.size := modules_low (R.ok.nolimit.keeps R.keep)
 have fresh0 : ∀ b ∈ ψ, c.B.get? b = none := λ b hb => by
  cases q : c.B.get? b with
  | none => rfl
  | some o => exact absurd (Heap.lt_size (R.keep b o q)) (Nat.not_lt_of_le (hψ b hb))
 have fresh : ∀ b ∈ ψ, c.B.get? b = none ∧ (b == sysModules) = false := λ b hb => ⟨fresh0 b hb, beq_eq_false_iff_ne.mpr λ e => absurd (hψ b hb) (Nat.not_le.mpr (by rw [e]; exact low))⟩
 have notin : ∀ a o, s.heap.get? a = some o -> a ∉ φ -> a ∉ φ ++ ψ := λ a o ho hn => e.nin ho hn
 have rest : Rest c F (φ ++ ψ) μ.fr h' := R.rest notin (λ a o ho hn _ => ⟨o.slots, stay a o ho hn⟩) hm
 refine ⟨⟨R.ok, λ b o hb => ?_, R.os, R.gens, len, ?_, ?_, objs hm, R.flen, R.lnodup, rest.nss, rest.cls, rest.vloc, rest.vcell, rest.frm⟩, ⟨e, hdom⟩⟩
 ·exact stay b o (R.keep b o hb) λ hm => by rw [(R.phiB b hm).1] at hb; cases hb
 ·refine nodup_append.mpr ⟨R.nodup, hψn, λ a ha b hb hab => ?_⟩
  subst hab
  exact absurd (R.phiLt ha) (Nat.not_lt_of_le (hψ _ hb))
 ·intro a ha
  rcases Qma ha with ha | ha
  ·exact R.phiB a ha
  ·exact fresh a ha
theorem Rep.toks (R : Rep c F φ μ s) (tk : Nat) : Rep c F φ μ { s with toks := tk } :=
 ⟨R.ok, R.keep, R.os, R.gens, R.len, R.nodup, R.phiB, R.objs, R.flen, R.lnodup, R.nss, R.cls, R.vloc, R.vcell, R.frm⟩
theorem Rep.still (R : Rep c F φ μ s) {h' : Heap} {tk : Nat} (size : s.heap.objs.size <= h'.objs.size) (stay : ∀ a o, s.heap.get? a = some o -> h'.get? a = some o) :
  Rep c F φ μ { s with heap := h', toks := tk } ∧ Ext F.nss F.cls φ s.heap φ h' := by
 have q := R.mut (ψ := []) (h' := h') (hp' := μ.hp) (tk := tk) (by simp) (by simp) size (λ a o h _ => stay a o h) (by simpa using R.len) (λ hm i a o h1 h2 => by
  rw [append_nil] at h1 hm ⊢
  obtain ⟨ob, hob⟩ := R.lt (mem_of_getElem? h1)
  exact (R.objs i a o h1 h2).move (λ _ _ e => e) hm ((stay _ _ hob).trans hob.symm))
 rw [append_nil] at q
 exact q
theorem Rep.push (R : Rep c F φ μ s) (o : Obj) {tk : Nat} : Rep c F φ μ { s with heap := s.heap.push o, toks := tk } ∧ Ext F.nss F.cls φ s.heap φ (s.heap.push o) :=
 R.still (by rw [Heap.size_push]; exact Nat.le_succ _) λ a o' e => Heap.get?_push_of_some _ e
theorem Rep.upd (R : Rep c F φ μ s) {i : Nat} {a : Addr} {h' : Heap} {o : MO} {tk : Nat} (hi : φ[i]? = some a) (hs : Heap.SameBut a s.heap h') (ho : (∀ v x, VR φ s.heap v x -> VR φ h' v x) -> OR c φ h' a o) :
  Rep c F φ { fr := μ.fr, hp := μ.hp.set i o } { s with heap := h', toks := tk } ∧ Ext F.nss F.cls φ s.heap φ h' := by
 have q := R.mut (ψ := []) (h' := h') (hp' := μ.hp.set i o) (tk := tk) (by simp) (by simp) (Nat.le_of_eq hs.1.symm)
  (λ b o' h hn => (hs.2 b λ e => hn (e ▸ mem_of_getElem? hi)).trans h) (by simpa using R.len) (λ hm j b o' h1 h2 => by
   rw [append_nil] at h1 hm ⊢
   by_cases hj : j = i
   ·subst hj
    rw [hi] at h1; cases h1
    have hl : j < μ.hp.length := by rw [<- R.len]; exact (Qgl hi)
    rw [List.getElem?_set_self hl] at h2; cases h2
    exact ho hm
   ·rw [List.getElem?_set_ne (Ne.symm hj)] at h2
    refine (R.objs j b o' h1 h2).move (λ _ _ e => e) hm (hs.2 b λ e => hj ?_)
    subst e
    obtain ⟨l1, e1⟩ := Qgs h1
    obtain ⟨l2, e2⟩ := Qgs hi
    exact (getElem_inj R.nodup).mp (e1.trans e2.symm))
 rw [append_nil] at q
 exact q
theorem Rep.alloc (R : Rep c F φ μ s) {ob : Obj} {o : MO} {tk : Nat} (hf : ob.isFreed = false)
  (ho : (s.heap.push ob).get? s.heap.objs.size = some ob -> (φ ++ [s.heap.objs.size])[μ.hp.length]? = some s.heap.objs.size -> (∀ v x, VR φ s.heap v x -> VR (φ ++ [s.heap.objs.size]) (s.heap.push ob) v x) -> OR c (φ ++ [s.heap.objs.size]) (s.heap.push ob) s.heap.objs.size o) :
  Rep c F (φ ++ [s.heap.objs.size]) { fr := μ.fr, hp := μ.hp ++ [o] } { s with heap := s.heap.push ob, toks := tk } ∧ Ext F.nss F.cls φ s.heap (φ ++ [s.heap.objs.size]) (s.heap.push ob) := by
 have hself : (φ ++ [s.heap.objs.size])[μ.hp.length]? = some s.heap.objs.size := by rw [<- R.len]; simp
 refine R.mut (ψ := [s.heap.objs.size]) (by simp) (by simp) (by rw [Heap.size_push]; exact Nat.le_succ _) (λ a o' e _ => Heap.get?_push_of_some _ e) (by simp [R.len]) (λ hm i a o' h1 h2 => ?_)
 by_cases hi : i < φ.length
 ·rw [List.getElem?_append_left hi] at h1
  rw [List.getElem?_append_left (by rw [<- R.len]; exact hi)] at h2
  obtain ⟨ob', hob⟩ := R.lt (mem_of_getElem? h1)
  exact (R.objs i a o' h1 h2).move (λ _ _ e => getElem?_app e) hm ((Heap.get?_push_of_some _ hob).trans hob.symm)
 ·have hi' : i = φ.length := by
   have := (Qgl h1)
   simp at this; lia
  subst hi'
  rw [R.len] at h1 h2
  rw [hself] at h1; cases h1
  simp at h2; subst h2
  exact ho (Heap.get?_push_size _ hf) hself hm
end
inductive MF where
 | next
 | brk
 | cont
 | ret (x : PV)
inductive FR (φ : List Addr) (h : Heap) : Flow -> MF -> Prop
 | next : FR φ h .next .next
 | brk : FR φ h .brk .brk
 | cont : FR φ h .cont .cont
 | ret {v : Value} {x : PV} : VR φ h v x -> FR φ h (.ret v) (.ret x)
theorem FR.cs {φ : List Addr} {h : Heap} {motive : (f : Flow) -> (m : MF) -> FR φ h f m -> Prop} (next : motive .next .next .next) (brk : motive .brk .brk .brk) (cont : motive .cont .cont .cont)
  (ret : ∀ {v : Value} {x : PV} (r : VR φ h v x), motive (.ret v) (.ret x) (.ret r)) {f : Flow} {m : MF} (r : FR φ h f m) : motive f m r := by
 cases r with
 | next => exact next
 | brk => exact brk
 | cont => exact cont
 | ret r => exact ret r
structure ACtx (F : Fx) (A : Around) : Prop where
 handled : F.hd = true -> A.handled = none
 frames : A.frames = some F.frames
 guards : A.guards = some []
 depth : A.depth + 10 * F.lv <= 900
 units : A.units + 100 * F.lv <= 9000
structure ExcR (c : Cx) (D : Addr -> Prop) (φ : List Addr) (h : Heap) (e x : Value) : Prop where
 there : ∃ (ea : Addr) (oe : Obj) (vs : Array Value), e = .ref ea ∧ h.get? ea = some oe ∧ oe.cls = x ∧ ¬ FzO oe ∧ oe.data = .fields vs ∧ 5 <= vs.size ∧ ea ∉ φ ∧ c.B.get? ea = none ∧ ¬ D ea ∧
  (vs[1]? = some .none ∨ ∃ (T : Addr) (oT : Obj) (ts : Array Value), vs[1]? = some (.ref T) ∧ T ≠ ea ∧ T ∉ φ ∧ c.B.get? T = none ∧ ¬ D T ∧ h.get? T = some oT ∧ oT.cls = .type "traceback" ∧ oT.data = .fields ts ∧ 3 < ts.size)
theorem ExcR.le {c : Cx} {D D' : Addr -> Prop} {φ : List Addr} {h : Heap} {e x : Value} (r : ExcR c D φ h e x) (hm : ∀ a, D' a -> D a) : ExcR c D' φ h e x := by
 obtain ⟨ea, oe, vs, h1, h2, h3, h4, h5, h6, h7, h8, h9, h10⟩ := r.there
 refine ⟨ea, oe, vs, h1, h2, h3, h4, h5, h6, h7, h8, λ q => h9 (hm _ q), ?_⟩
 rcases h10 with h | ⟨T, oT, ts, a1, a2, a3, a4, a5, a6⟩
 ·exact .inl h
 ·exact .inr ⟨T, oT, ts, a1, a2, a3, a4, λ q => a5 (hm _ q), a6⟩
def OkK (c : Cx) (F : Fx) {α β : Type} (RR : List Addr -> Heap -> α -> β -> Prop) (φ : List Addr) (s : Shared) (Q : α -> Shared -> Prop) (o : Out β) : Prop :=
 ∀ a b φ' μ' s', o = .ok b μ' -> Rep c F φ' μ' s' -> Ext F.nss F.cls φ s.heap φ' s'.heap -> RR φ' s'.heap a b -> Q a s'
def ExK (c : Cx) (F : Fx) {β : Type} (φ : List Addr) (s : Shared) (E : Value -> Shared -> Prop) (o : Out β) : Prop :=
 ∀ e x φ' μ' s', o = .exc x μ' -> Rep c F φ' μ' s' -> Ext F.nss F.cls φ s.heap φ' s'.heap -> ExcR c (dom s.heap) φ' s'.heap e x -> E e s'
def Sim (c : Cx) (F : Fx) {α β : Type} (P : List Addr -> Heap -> Prop) (RR : List Addr -> Heap -> α -> β -> Prop) (t : Sem α) (f : PM β) : Prop :=
 ∀ (A : Around) (φ : List Addr) (μ : St) (s : Shared) (Q : α -> Shared -> Prop) (E : Value -> Shared -> Prop), ACtx F A -> Rep c F φ μ s -> P φ s.heap -> f μ ≠ .bad -> OkK c F RR φ s Q (f μ) -> ExK c F φ s E (f μ) ->
  wpAny (model c.prog c.w) A t Q E s
theorem gen {c : Cx} {F : Fx} {α β : Type} {RR : List Addr -> Heap -> α -> β -> Prop} {φ : List Addr} {s : Shared} {Q : α -> Shared -> Prop} {E : Value -> Shared -> Prop} {o : Out β} {P : Prop} (k : ∀ O, o = O -> O ≠ .bad -> OkK c F RR φ s Q O -> ExK c F φ s E O -> P) : o ≠ .bad -> OkK c F RR φ s Q o -> ExK c F φ s E o -> P := λ a b d => k o rfl a b d
noncomputable abbrev NoP : List Addr -> Heap -> Prop := λ _ _ => True
noncomputable abbrev SimE (c : Cx) (F : Fx) (e : Expr) (f : PM PV) : Prop := Sim c F NoP (λ φ h v x => VR φ h v x) (eval e F.env) f
noncomputable abbrev SimS (c : Cx) (F : Fx) (st : Stmt) (f : PM MF) : Prop := Sim c F NoP FR (exec st F.env) f
noncomputable abbrev SimSS (c : Cx) (F : Fx) (st : List Stmt) (f : PM MF) : Prop := Sim c F NoP FR (execs st F.env) f
noncomputable abbrev SimB (c : Cx) (F : Fx) (e : Expr) (f : PM Bool) : Prop := Sim c F NoP (λ _ _ a b => a = b) (isTrue e F.env (eval e F.env)) f
section
variable {c : Cx} {F : Fx} {α β γ δ : Type} {P : List Addr -> Heap -> Prop} {R1 : List Addr -> Heap -> α -> β -> Prop} {R2 : List Addr -> Heap -> γ -> δ -> Prop}
theorem Sim.bind {t1 : Sem α} {f1 : PM β} {t2 : α -> Sem γ} {f2 : β -> PM δ} (h1 : Sim c F P R1 t1 f1) (h2 : ∀ a b, Sim c F (λ φ h => R1 φ h a b) R2 (t2 a) (f2 b)) : Sim c F P R2 (t1 >>= t2) (f1 >>= f2) := by
 intro A φ μ s Q E hA R hP hb hQ hE
 rw [PM.B] at hb
 refine Qb (h1 A φ μ s _ _ hA R hP (λ e => by rw [e] at hb; exact hb rfl) (λ a b φ' μ' s' e R' x r => ?_) λ e y φ' μ' s' he R' x r => ?_)
 ·rw [e] at hb
  refine h2 a b A φ' μ' s' _ _ hA R' r hb (λ a' b' φ'' μ'' s'' e' R'' x' r' => hQ a' b' φ'' μ'' s'' ?_ R'' (x.trans x') r') λ eB y1 φ'' μ'' s'' e' R'' x' r' => hE eB y1 φ'' μ'' s'' ?_ R'' (x.trans x') (r'.le x.dom)
  ·rw [PM.B, e]; exact e'
  ·rw [PM.B, e]; exact e'
 ·exact hE e y φ' μ' s' (by rw [PM.B, he]) R' x r
theorem Sim.mono {P' : List Addr -> Heap -> Prop} {R2' : List Addr -> Heap -> γ -> δ -> Prop} {t : Sem γ} {f : PM δ} (h : Sim c F P R2 t f) (hP : ∀ φ hh, P' φ hh -> P φ hh) (hR : ∀ φ hh a b, R2 φ hh a b -> R2' φ hh a b) : Sim c F P' R2' t f :=
 λ A φ μ s Q E hA R p hb hQ hE => h A φ μ s Q E hA R (hP _ _ p) hb (λ a b φ' μ' s' e R' x r => hQ a b φ' μ' s' e R' x (hR _ _ _ _ r)) hE
theorem Sim.B {t : Sem γ} : Sim c F P R2 t (PM.H : PM δ) := λ _ _ _ _ _ _ _ _ _ hb _ _ => absurd rfl hb
theorem Sim.H {vs : List Value} {t : Sem γ} {f : PM δ} (h : Sim c F P R2 t f) : Sim c F P R2 (PySem.holding vs t) f :=
 λ A φ μ s Q E hA R p hb hQ hE => wpAny_holding (h A φ μ s Q E hA R p hb hQ hE)
theorem Sim.C {pos : Pos} {t : Sem γ} {f : PM δ} (h : Sim c F P R2 t f) : Sim c F P R2 (do PySem.standAt pos; t) f :=
 λ A φ μ s Q E hA R p hb hQ hE => Qb (wpAny_standAt (h A φ μ s Q E hA R p hb hQ hE))
theorem Sim.keep {v : Value} {x : PV} {t : Sem γ} {f : PM δ} (h : Sim c F NoP R2 t f) : Sim c F (λ φ hh => VR φ hh v x) (λ φ hh a b => VR φ hh v x ∧ R2 φ hh a b) t f :=
 λ A φ μ s Q E hA R p hb hQ hE => h A φ μ s Q E hA R trivial hb (λ a b φ' μ' s' e R' x' r => hQ a b φ' μ' s' e R' x' ⟨p.ext R x', r⟩) hE
end

theorem Zne (M : Model) (Γ : Ctx) (E : Value -> Pos -> Shared -> Prop) (p : Pos) (s : Shared) {a : Addr} {m : Str -> Option Value} {o : Obj} (hn : s.heap.Ns a m) (hoA : s.heap.get? a = some o) (name : Str) (v : Value) (Q : Unit -> Pos -> Shared -> Prop)
  (hQ : ∀ h' o', h'.Ns a (λ x => if x = name then some v else m x) -> Heap.SameBut a s.heap h' -> h'.get? a = some o' -> o'.cls = o.cls ->
   Q () p { s with heap := h', toks := s.toks + 1 }) : Sem.wp M Γ (nsSet a name v) Q E p s := by
 obtain ⟨oB, es, ep, ho, hd, hk, hm⟩ := hn
 rw [hoA] at ho
 cases ho
 have ho := hoA
 simp only [nsSet, strHash, Sem.wp_bind', Sem.wp_cmd_ask, Sem.wp_pure', Sem.wp_cmd_mkText]
 rw [Sem.wp_loadPart_of M Γ E p { s with toks := s.toks + 1 } (o := o) _ ho]
 have hany : es.any (·.refKey) = false := by
  rw [Array.any_eq_false']; intro e he; obtain ⟨n, t, h⟩ := hk e he; simp [DictEntry.refKey, h]
 simp only [hd, aRefKeyMayBeTheName_eq, aRefKeyMayBeTheNameByArray, hany, Bool.and_false, Bool.false_eq_true, if_false, Sem.wp_cmd_updatePart]
 obtain ⟨c, d, dt, sl⟩ := o
 subst hd
 cases hi : es.findIdx? (·.key.isStr name) with
 | some i =>
  have g : (s.heap.update a (Obj.putName name (if name.cps.isEmpty = true then 0 else reduceHash (M.w.params.strHash name.cps)) (Value.str name s.toks) v)).get? a = some ⟨c, d, .dict (es.modify i λ e => { e with val := v }) ep, sl⟩ :=
   (Heap.get?_update_self _ ho (by simp only [Obj.putName_eq, Obj.putNameByArray, hi]; rfl)).trans (by simp only [Obj.putName_eq, Obj.putNameByArray, hi])
  refine ⟨by rw [ho]; rfl, hQ _ _ ⟨_, _, ep, g, rfl, hk.modify _ _, λ x => ?_⟩ (Heap.SameBut.update ..) g rfl⟩
  show _ = if x = name then some v else m x
  rw [<- hm]; exact findBy_modify (λ n v => v.isStr n) Value.isStr_inj es name x v i hi
 | none =>
  have g : (s.heap.update a (Obj.putName name (if name.cps.isEmpty = true then 0 else reduceHash (M.w.params.strHash name.cps)) (Value.str name s.toks) v)).get? a = some ⟨c, d, .dict (es.push ⟨if name.cps.isEmpty = true then 0 else reduceHash (M.w.params.strHash name.cps), Value.str name s.toks, v⟩) (ep + 1), sl⟩ :=
   (Heap.get?_update_self _ ho (by simp only [Obj.putName_eq, Obj.putNameByArray, hi]; rfl)).trans (by simp only [Obj.putName_eq, Obj.putNameByArray, hi])
  refine ⟨by rw [ho]; rfl, hQ _ _ ⟨_, _, ep + 1, g, rfl, hk.push _ _ _ _, λ x => ?_⟩ (Heap.SameBut.update ..) g rfl⟩
  show _ = if x = name then some v else m x
  rw [<- hm]
  exact findBy_push (λ n v => v.isStr n) es name x _ _ v (λ y => by
   show (name == y) = decide (y = name)
   by_cases h : y = name
   ·subst h; simp
   ·have : ¬ name = y := λ e => h e.symm
    simp [h, this]) hi
inductive VarAt (F : Fx) (x : Str) (k : Nat) : Prop
 | loc : F.env.kindOf x = some .local -> F.locs[k]? = some (.loc F.env.locals x) -> VarAt F x k
 | cell {a : Addr} : F.env.kindOf x = some .cell -> F.env.cells.lookup x = some a -> F.locs[k]? = some (.cell a) -> VarAt F x k
 | free {a : Addr} : F.env.kindOf x = some .free -> F.env.cells.lookup x = some a -> F.locs[k]? = some (.cell a) -> VarAt F x k
noncomputable def getVar (k : Nat) : PM PV := λ μ => match μ.fr[k]? with
 | some .undef => .bad
 | some v => .ok v μ
 | none => .bad
noncomputable def setVar (k : Nat) (v : PV) : PM Unit := λ μ => .ok () { fr := μ.fr.set k v, hp := μ.hp }
theorem Ns.uniq {h : Heap} {L : Addr} {m m' : Str -> Option Value} (a : h.Ns L m) (b : h.Ns L m') (x : Str) : m x = m' x := by
 obtain ⟨o, es, ep, ho, hd, _, hm⟩ := a
 obtain ⟨o', es', ep', ho', hd', _, hm'⟩ := b
 rw [ho] at ho'; cases ho'
 rw [hd] at hd'; cases hd'
 rw [<- hm, <- hm']
section
variable {c : Cx} {F : Fx} {φ φ' : List Addr} {μ : St} {s : Shared}
theorem Zou {x : Str} {k : Nat} (hk : F.env.scope.kind = .function) (hv : VarAt F x k) (hcd : (x == ("__classdict__" : Str)) = false) : Sim c F NoP (λ φ h v x => VR φ h v x) (loadName F.env x) (getVar k) := by
 intro A φ μ s Q E hA R _ hb hQ hE
 unfold getVar at hb hQ
 cases hf : μ.fr[k]? with
 | none => rw [hf] at hb; exact absurd rfl hb
 | some pv =>
  have hu : pv ≠ .undef := λ e => by subst e; rw [hf] at hb; exact hb rfl
  rw [hf] at hQ
  have fin : ∀ v, VR φ s.heap v pv -> Q v s := λ v r => hQ v pv φ μ s (by cases pv <;> first | rfl | exact absurd rfl hu) R Ext.refl r
  cases hv with
  | loc h1 h2 =>
   obtain ⟨_, q⟩ := R.vloc k _ x h2
   obtain ⟨m, v, hn, hx, hr⟩ := q pv hf hu
   exact wpAny_loadName_local hk h1 hn hx (fin v hr)
  | cell h1 h2 h3 =>
   obtain ⟨_, q⟩ := R.vcell k _ h3
   obtain ⟨v, hn, hr⟩ := q pv hf hu
   exact wpAny_loadName_cell hk h1 h2 hn (fin v hr)
  | free h1 h2 h3 =>
   obtain ⟨_, q⟩ := R.vcell k _ h3
   obtain ⟨v, hn, hr⟩ := q pv hf hu
   exact wpAny_loadName_free hk h1 h2 hn (fin v hr) hcd
theorem Zov {x : Str} {pos : Pos} {k : Nat} (hk : F.env.scope.kind = .function) (hv : VarAt F x k) (hd : (x == ("__debug__" : Str)) = false) (hcd : (x == ("__classdict__" : Str)) = false) : SimE c F (.Name x pos) (getVar k) :=
 λ A φ μ s Q E hA R p hb hQ hE => wpAny_Name (Zou hk hv hcd A φ μ s Q E hA R p hb hQ hE) hd
theorem Rep.own (R : Rep c F φ μ s) {b : Addr} {k : Nat} {pv : PV} {h' : Heap} {tk : Nat} (hb : b ∈ F.nss ∨ b ∈ F.cls) (hs : Heap.SameBut b s.heap h')
  (hloc : ∀ m, s.heap.Ns b m -> ∃ m', h'.Ns b m' ∧ (∀ (j : Nat) (x : Str), F.locs[j]? = some (.loc b x) -> (j ≠ k -> m' x = m x) ∧ (j = k -> ∀ q, (μ.fr.set k pv)[j]? = some q -> ∃ v, m' x = some v ∧ VR φ h' v pv)))
  (hcell : ∀ v, s.heap.IsCell b v -> ∃ v', h'.IsCell b v' ∧ ∀ (j : Nat), F.locs[j]? = some (.cell b) -> j = k ∧ ∃ w, v' = some w ∧ VR φ h' w pv)
  (hk : F.locs[k]? = some (.cell b) ∨ ∃ x, F.locs[k]? = some (.loc b x)) :
  Rep c F φ { fr := μ.fr.set k pv, hp := μ.hp } { s with heap := h', toks := tk } ∧ Ext F.nss F.cls φ s.heap φ h' := by
 have e0 : Ext0 F.nss F.cls φ s.heap φ h' := ⟨⟨[], by simp, by simp⟩, Nat.le_of_eq hs.1.symm, λ a o ho _ h2 h3 => .inl ((hs.2 a λ q => by subst q; rcases hb with hb | hb; exact h2 hb; exact h3 hb).trans ho)⟩
 have hm : ∀ v x, VR φ s.heap v x -> VR φ h' v x := λ v x r => r.ext0 R e0
 have e : Ext F.nss F.cls φ s.heap φ h' := ⟨e0, λ a ⟨o, ho⟩ => by
  by_cases hab : a = b
  ·subst hab
   rcases hb with hb | hb
   ·obtain ⟨_, _, m, hn⟩ := R.nss a hb
    obtain ⟨m', ⟨o', _, _, ho', _⟩, _⟩ := hloc m hn
    exact ⟨o', ho'⟩
   ·obtain ⟨_, _, v, hc⟩ := R.cls a hb
    obtain ⟨v', ⟨o', ho', _⟩, _⟩ := hcell v hc
    exact ⟨o', ho'⟩
  ·exact ⟨o, (hs.2 a hab).trans ho⟩⟩
 have hbφ : b ∉ φ := by rcases hb with hb | hb; exact (R.nss b hb).1; exact (R.cls b hb).1
 have hbB : c.B.get? b = none := by rcases hb with hb | hb; exact (R.nss b hb).2.1; exact (R.cls b hb).2.1
 refine ⟨⟨R.ok, λ a o ho => (hs.2 a λ q => by subst q; rw [hbB] at ho; cases ho).trans (R.keep a o ho), R.os, R.gens, R.len, R.nodup, R.phiB, λ i a o h1 h2 => ?_, by simpa using R.flen, R.lnodup, λ L hL => ?_, λ a ha => ?_, λ j L x hj => ?_, λ j a hj => ?_, λ env he => ?_⟩, e⟩
 ·exact (R.objs i a o h1 h2).move (λ _ _ e => e) hm (hs.2 a λ q => hbφ (q ▸ mem_of_getElem? h1))
 ·obtain ⟨h1, h2, m, hn⟩ := R.nss L hL
  refine ⟨h1, h2, ?_⟩
  by_cases hLb : L = b
  ·subst hLb; obtain ⟨m', h', _⟩ := hloc m hn; exact ⟨m', h'⟩
  ·exact ⟨m, hn.sameBut hs hLb⟩
 ·obtain ⟨h1, h2, v, o, ho, hd⟩ := R.cls a ha
  refine ⟨h1, h2, ?_⟩
  by_cases hab : a = b
  ·subst hab; obtain ⟨v', h', _⟩ := hcell v ⟨o, ho, hd⟩; exact ⟨v', h'⟩
  ·exact ⟨v, o, (hs.2 a hab).trans ho, hd⟩
 ·obtain ⟨h1, h2⟩ := R.vloc j L x hj
  refine ⟨h1, λ q hq hu => ?_⟩
  by_cases hLb : L = b
  ·subst hLb
   by_cases hjk : j = k
   ·obtain ⟨_, _, m, hn⟩ := R.nss L h1
    obtain ⟨m', hn', hx⟩ := hloc m hn
    obtain ⟨v, hv, hr⟩ := (hx j x hj).2 hjk q hq
    subst hjk
    have hl : j < μ.fr.length := by rw [R.flen]; exact (Qgl hj)
    simp only [List.getElem?_set_self hl] at hq; cases hq
    exact ⟨m', v, hn', hv, hr⟩
   ·simp only [List.getElem?_set_ne (Ne.symm hjk)] at hq
    obtain ⟨m, v, hn, hv, hr⟩ := h2 q hq hu
    obtain ⟨m', hn', hx⟩ := hloc m hn
    exact ⟨m', v, hn', ((hx j x hj).1 hjk).trans hv, hm _ _ hr⟩
  ·have hjk : j ≠ k := by
    intro q; subst q
    rcases hk with hk | ⟨y, hk⟩ <;> rw [hj] at hk <;> cases hk
    exact hLb rfl
   simp only [List.getElem?_set_ne (Ne.symm hjk)] at hq
   obtain ⟨m, v, hn, hv, hr⟩ := h2 q hq hu
   exact ⟨m, v, hn.sameBut hs hLb, hv, hm _ _ hr⟩
 ·obtain ⟨h1, h2⟩ := R.vcell j a hj
  refine ⟨h1, λ q hq hu => ?_⟩
  by_cases hab : a = b
  ·subst hab
   obtain ⟨_, _, v, hc⟩ := R.cls a h1
   obtain ⟨v', hc', hx⟩ := hcell v hc
   obtain ⟨hjk, w, hw, hr⟩ := hx j hj
   subst hjk
   have hl : j < μ.fr.length := by rw [R.flen]; exact (Qgl hj)
   simp only [List.getElem?_set_self hl] at hq; cases hq
   exact ⟨w, hw ▸ hc', hr⟩
  ·have hjk : j ≠ k := by
    intro q; subst q
    rcases hk with hk | ⟨y, hk⟩ <;> rw [hj] at hk <;> cases hk
    exact hab rfl
   simp only [List.getElem?_set_ne (Ne.symm hjk)] at hq
   obtain ⟨v, ⟨o, ho, hd⟩, hr⟩ := h2 q hq hu
   exact ⟨v, ⟨o, (hs.2 a hab).trans ho, hd⟩, hm _ _ hr⟩
 ·obtain ⟨h1, L, h2, h3, h4, o, es, ep, ho, hd⟩ := R.frm env he
  refine ⟨h1, L, h2, h3, h4, ?_⟩
  by_cases hLb : L = b
  ·subst hLb
   rcases hb with hb | hb
   ·obtain ⟨_, _, m, hn⟩ := R.nss L hb
    obtain ⟨m', ⟨o', es', ep', ho', hd', _⟩, _⟩ := hloc m hn
    exact ⟨o', es', ep', ho', hd'⟩
   ·obtain ⟨_, _, v, o', ho', hd'⟩ := R.cls L hb
    rw [ho] at ho'; cases ho'
    rw [hd] at hd'; cases hd'
  ·exact ⟨o, es, ep, (hs.2 L hLb).trans ho, hd⟩
theorem Znf {x : Str} {k : Nat} {v : Value} {pv : PV} (hk : F.env.scope.kind = .function) (hv : VarAt F x k) : Sim c F (λ φ h => VR φ h v pv) (λ _ _ _ _ => True) (storeName F.env x v) (setVar k pv) := by
 intro A φ μ s Q E hA R hr hb hQ hE
 have hlt : ∀ {l}, F.locs[k]? = some l -> k < μ.fr.length := λ h => by rw [R.flen]; exact (Qgl h)
 have uq : ∀ {j l}, F.locs[k]? = some l -> F.locs[j]? = some l -> j = k := λ {j l} h1 h2 => by
  obtain ⟨l1, e1⟩ := Qgs h1
  obtain ⟨l2, e2⟩ := Qgs h2
  exact (getElem_inj R.lnodup).mp (e2.trans e1.symm)
 have cellCase : ∀ a, F.locs[k]? = some (.cell a) -> ∀ h', h'.IsCell a (some v) -> Heap.SameBut a s.heap h' -> Q () { s with heap := h' } := λ a h3 h' hc' hs => by
  obtain ⟨hL, _⟩ := R.vcell k _ h3
  obtain ⟨_, _, vA, o0, hoA, hd0⟩ := R.cls a hL
  have key := R.own (tk := s.toks) (.inr hL) (pv := pv) hs (λ m hm => by obtain ⟨oB, _, _, hoB, hd1, _⟩ := hm; rw [hoA] at hoB; cases hoB; rw [hd0] at hd1; cases hd1)
   (λ vA hc => ⟨_, hc', λ j hj => ⟨uq h3 hj, v, rfl, hr.ext0 R ⟨⟨[], by simp, by simp⟩, Nat.le_of_eq hs.1.symm, λ b o ho _ _ q3 => .inl ((hs.2 b λ e => q3 (by rw [e]; exact hL)).trans ho)⟩⟩⟩)
   (.inl h3)
  exact hQ () () φ _ _ rfl key.1 key.2 trivial
 cases hv with
 | loc h1 h2 =>
  obtain ⟨hL, _⟩ := R.vloc k _ x h2
  obtain ⟨_, _, m, hn⟩ := R.nss _ hL
  have hn0 := hn
  obtain ⟨o, es, ep, ho, hd, _, _⟩ := hn0
  rw [storeName_local h1 (by rw [hk]; rfl)]
  refine λ Γ p _ => Zne _ Γ _ p s hn ho x v _ λ h' o' hn' hs ho' hc' => ?_
  have key := R.own (tk := s.toks + 1) (.inl hL) (pv := pv) hs (λ mB hm1 => ⟨_, hn', λ j y hj => ⟨λ hjk => ?_, λ hjk q _ => ?_⟩⟩) (λ vA hc => ?_) (.inr ⟨x, h2⟩)
  ·exact hQ () () φ _ _ rfl key.1 key.2 trivial
  ·have hyx : y ≠ x := λ e => by subst e; exact hjk (uq h2 hj)
   simp only [if_neg hyx]
   exact Ns.uniq hn hm1 y
  ·subst hjk
   rw [h2] at hj; cases hj
   exact ⟨v, by simp, hr.ext0 R ⟨⟨[], by simp, by simp⟩, Nat.le_of_eq hs.1.symm, λ a o ho _ q2 _ => .inl ((hs.2 a λ e => q2 (by rw [e]; exact hL)).trans ho)⟩⟩
  ·obtain ⟨oB, hoB, hd1⟩ := hc
   rw [ho] at hoB; cases hoB
   rw [hd] at hd1; cases hd1
 | cell h1 h2 h3 =>
  obtain ⟨hL, _⟩ := R.vcell k _ h3
  obtain ⟨_, _, vA, hc0⟩ := R.cls _ hL
  exact wpAny_storeName_cell hk h1 h2 hc0 λ h' hc' hs => cellCase _ h3 h' hc' hs
 | free h1 h2 h3 =>
  obtain ⟨hL, _⟩ := R.vcell k _ h3
  obtain ⟨_, _, vA, hc0⟩ := R.cls _ hL
  unfold storeName
  rw [h1, hk]
  show wpAny _ _ (cellOf F.env _ >>= λ c => cellSet c (some v)) _ _ _
  exact Qb (wpAny_cellOf h2 (wpAny_cellSet hc0 λ h' hc' hs => cellCase _ h3 h' hc' hs))
end
end Mine
namespace Mine
open PySem PySem.W PyProof.Rows PySem.Calls

noncomputable def fuel : Nat := 1000000
noncomputable def pTruth (v : PV) : PM Bool := λ μ => match v with
 | .none => .ok false μ
 | .bool b => .ok b μ
 | .lst xs => match decide (xs.length <= 1000000) with
  | true => .ok (!xs.isEmpty) μ
  | false => .bad
 | .obj i => match μ.hp[i]? with
  | some (.lst xs) => (match decide (xs.length <= 1000000) with
   | true => .ok (!xs.isEmpty) μ
   | false => .bad)
  | _ => .bad
 | _ => .bad
noncomputable def bVal (f : PM PV) : PM Bool := f >>= pTruth
noncomputable def bNot (b : PM Bool) : PM Bool := b >>= λ x => pure !x
noncomputable def bAnd (b1 b2 : PM Bool) : PM Bool := b1 >>= λ x => if x then b2 else pure false
noncomputable def bOr (b1 b2 : PM Bool) : PM Bool := b1 >>= λ x => if x then pure true else b2
noncomputable def sIf (t : PM Bool) (a b : PM MF) : PM MF := t >>= λ x => if x then a else b
noncomputable def sSeq (a b : PM MF) : PM MF := a >>= λ f => match f with
 | .next => b
 | f => pure f
noncomputable def sNext : PM MF := pure .next
noncomputable def flowM (k : PM MF) : MF -> PM MF
 | .next => k
 | .cont => k
 | .brk => pure .next
 | .ret v => pure (.ret v)
noncomputable def whileM (t : PM Bool) (body els : PM MF) : Nat -> PM MF
 | 0 => PM.H
 | n + 1 => t >>= λ x => if x then body >>= flowM (whileM t body els n) else els
theorem Zda {t : PM Bool} {body els : PM MF} {n : Nat} : whileM t body els (n + 1) = (t >>= λ x => if x then body >>= flowM (whileM t body els n) else els) := rfl
section
variable {c : Cx} {F : Fx}
theorem Z5 {k : Nat} {pos : Pos} : SimE c F (.Constant .none k pos) (pure .none) := λ A φ μ s Q E hA R p hb hQ hE => wpAny_Constant_none (hQ _ _ _ _ _ rfl R Ext.refl .none)
theorem Za7 {b : Bool} {k : Nat} {pos : Pos} : SimE c F (.Constant (.bool b) k pos) (pure (.bool b)) := λ A φ μ s Q E hA R p hb hQ hE => wpAny_Constant_bool (hQ _ _ _ _ _ rfl R Ext.refl (.bool b))
theorem Zh {i : Int} {k : Nat} {pos : Pos} : SimE c F (.Constant (.int i) k pos) (pure (.int i)) := λ A φ μ s Q E hA R p hb hQ hE => wpAny_Constant_int (hQ _ _ _ _ _ rfl (R.toks _) Ext.refl (.int i _))
theorem Zqj {x : Str} {k : Nat} {pos : Pos} : SimE c F (.Constant (.str x) k pos) (pure (.str x)) := λ A φ μ s Q E hA R p hb hQ hE => wpAny_Constant_str (hQ _ _ _ _ _ rfl (R.toks _) Ext.refl (.str x _))
theorem Zg3 {v : Value} {pv : PV} : Sim c F (λ φ h => VR φ h v pv) (λ _ _ a b => a = b) (truthy v) (pTruth pv) := by
 intro A φ μ s Q E hA R hr hb hQ hE
 unfold pTruth at hb hQ
 induction hr using VR.cs with
 | none => exact (λ _ _ _ => hQ _ _ _ _ _ rfl R Ext.refl rfl)
 | bool b => exact wpAny_truthy_bool (hQ _ _ _ _ _ rfl R Ext.refl rfl)
 | int i t => exact absurd rfl hb
 | tup h1 h4 h5 => exact absurd rfl hb
 | @lst a vs n xs h1 h4 h5 =>
  dsimp only at hb hQ
  cases hl : decide (xs.length <= 1000000) with
  | false => rw [hl] at hb; exact absurd rfl hb
  | true =>
   rw [hl] at hQ
   have hle := of_decide_eq_true hl
   have e := h5.length
   refine wpAny_truthy_list (items := vs.toArray) ⟨_, h1, rfl, _, rfl⟩ (by simp; lia) ?_
   exact hQ _ _ _ _ _ rfl (R.toks _) Ext.refl (by cases h5 <;> rfl)
 | @obj i a h1 =>
  dsimp only at hb hQ
  split at hb
  ·rename_i xs hys
   rw [hys] at hQ
   dsimp only at hQ
   cases hl : decide (xs.length <= 1000000) with
   | false => rw [hl] at hb; exact absurd rfl hb
   | true =>
    rw [hl] at hQ
    have hle := of_decide_eq_true hl
    have q := R.objs i a _ h1 hys
    obtain ⟨vs, n, k1, k2⟩ := q.inv_lst rfl
    ·
     have e := k2.length
     refine wpAny_truthy_list ⟨_, k1, rfl, _, rfl⟩ (by simp; lia) ?_
     exact hQ _ _ _ _ _ rfl (R.toks _) Ext.refl (by cases k2 <;> rfl)
  ·exact absurd rfl hb
 | str => exact absurd rfl hb
 | rng => exact absurd rfl hb
 | nxt => exact absurd rfl hb
 | vals => exact absurd rfl hb
 | raw => exact absurd rfl hb
theorem Zcc {e : Expr} {f : PM PV} (h : SimE c F e f) (he : isTrue e F.env (eval e F.env) = (do let v <- eval e F.env; standAt e.pos; holding [v] (truthy v))) : SimB c F e (bVal f) := by
 unfold SimB
 rw [he]
 exact h.bind λ a b => Sim.C (Sim.H Zg3)
def SimBo (c : Cx) (F : Fx) (pos : Pos) (op : BoolOp) (ts : List (Sem Value)) (g : PM PV) : Prop := Sim c F NoP (λ φ h v x => VR φ h v x) (boolOp pos op ts) g
theorem Zng {pos : Pos} {op : BoolOp} {e : Expr} {f : PM PV} (h : SimE c F e f) : SimBo c F pos op (evalEach [e] F.env) f := h
theorem Zl5 {op : BoolOp} {values : List Expr} {pos : Pos} {g : PM PV} (h : SimBo c F pos op (evalEach values F.env) g) : SimE c F (.BoolOp op values pos) g := h
theorem Zdo : Sim c F NoP (λ _ _ a b => a = b) (allTrue .And [] F.env) (pure true) := λ A φ μ s Q E hA R p hb hQ hE => wpAny_allTrue_And_nil (hQ _ _ _ _ _ rfl R Ext.refl rfl)
theorem Zau : Sim c F NoP (λ _ _ a b => a = b) (allTrue .Or [] F.env) (pure false) := λ A φ μ s Q E hA R p hb hQ hE => wpAny_allTrue_Or_nil (hQ _ _ _ _ _ rfl R Ext.refl rfl)
theorem Zck {x : Expr} {rest : List Expr} {f g : PM Bool} (h : SimB c F x f) (h' : Sim c F NoP (λ _ _ a b => a = b) (allTrue .And rest F.env) g) :
  Sim c F NoP (λ _ _ a b => a = b) (allTrue .And (x :: rest) F.env) (bAnd f g) := λ A φ μ s Q E hA R p hb hQ hE => by
 refine wpAny_allTrue_And_cons ?_
 refine h A φ μ s _ _ hA R p (λ e => hb (by unfold bAnd; rw [PM.B, e])) (λ a b φ' μ' s' e R' x r => ?_) (λ e x φ' μ' s' he R' x' r => hE e x φ' μ' s' (by unfold bAnd; rw [PM.B, he]) R' x' r)
 subst r
 have e' : bAnd f g μ = (if a then g else pure false) μ' := by unfold bAnd; rw [PM.B, e]
 rw [e'] at hb hQ hE
 cases a with
 | true => exact h' A φ' μ' s' _ _ hA R' trivial hb (λ a b φ'' μ'' s'' e R'' x'' r => hQ a b φ'' μ'' s'' e R'' (x.trans x'') r) (λ a b φ'' μ'' s'' e R'' x'' r => hE a b φ'' μ'' s'' e R'' (x.trans x'') (r.le x.dom))
 | false => exact hQ _ _ φ' μ' s' rfl R' x rfl
theorem Zab {x : Expr} {rest : List Expr} {f g : PM Bool} (h : SimB c F x f) (h' : Sim c F NoP (λ _ _ a b => a = b) (allTrue .Or rest F.env) g) :
  Sim c F NoP (λ _ _ a b => a = b) (allTrue .Or (x :: rest) F.env) (bOr f g) := λ A φ μ s Q E hA R p hb hQ hE => by
 refine wpAny_allTrue_Or_cons ?_
 refine h A φ μ s _ _ hA R p (λ e => hb (by unfold bOr; rw [PM.B, e])) (λ a b φ' μ' s' e R' x r => ?_) (λ e x φ' μ' s' he R' x' r => hE e x φ' μ' s' (by unfold bOr; rw [PM.B, he]) R' x' r)
 subst r
 have e' : bOr f g μ = (if a then pure true else g) μ' := by unfold bOr; rw [PM.B, e]
 rw [e'] at hb hQ hE
 cases a with
 | false => exact h' A φ' μ' s' _ _ hA R' trivial hb (λ a b φ'' μ'' s'' e R'' x'' r => hQ a b φ'' μ'' s'' e R'' (x.trans x'') r) (λ a b φ'' μ'' s'' e R'' x'' r => hE a b φ'' μ'' s'' e R'' (x.trans x'') (r.le x.dom))
 | true => exact hQ _ _ φ' μ' s' rfl R' x rfl
theorem Zcl {op : BoolOp} {values : List Expr} {pos : Pos} {f : PM Bool} (h : Sim c F NoP (λ _ _ a b => a = b) (allTrue op values F.env) f) : SimB c F (.BoolOp op values pos) f :=
 λ A φ μ s Q E hA R p hb hQ hE => wpAny_isTrue_BoolOp (h A φ μ s Q E hA R p hb hQ hE)
theorem Zdp {pos : Pos} : SimS c F (.Break pos) (pure .brk) := λ A φ μ s Q E hA R p hb hQ hE => (λ _ _ _ => hQ _ _ _ _ _ rfl R Ext.refl .brk)
theorem Zh6 {pos : Pos} : SimS c F (.Continue pos) (pure .cont) := λ A φ μ s Q E hA R p hb hQ hE => (λ _ _ _ => hQ _ _ _ _ _ rfl R Ext.refl .cont)
theorem Zc : SimSS c F [] sNext := λ A φ μ s Q E hA R p hb hQ hE => wpAny_execs_nil (hQ _ _ _ _ _ rfl R Ext.refl .next)
theorem Zb {st : Stmt} {rest : List Stmt} {f g : PM MF} (h : SimS c F st f) (h' : SimSS c F rest g) : SimSS c F (st :: rest) (sSeq f g) := λ A φ μ s Q E hA R p hb hQ hE => by
 refine wpAny_execs_cons ?_
 unfold sSeq at hb hQ hE
 rw [PM.B] at hb hQ hE
 refine h A φ μ s _ _ hA R p (λ e => hb (by rw [e])) (λ a b φ' μ' s' e R' x r => ?_) (λ e x φ' μ' s' he R' x' r => hE e x φ' μ' s' (by rw [he]) R' x' r)
 rw [e] at hb hQ hE
 induction r using FR.cs with
 | next => exact h' A φ' μ' s' _ _ hA R' trivial hb (λ a b φ'' μ'' s'' e R'' x'' r => hQ a b φ'' μ'' s'' e R'' (x.trans x'') r) (λ a b φ'' μ'' s'' e R'' x'' r => hE a b φ'' μ'' s'' e R'' (x.trans x'') (r.le x.dom))
 | brk => exact hQ _ _ φ' μ' s' rfl R' x .brk
 | cont => exact hQ _ _ φ' μ' s' rfl R' x .cont
 | ret r => exact hQ _ _ φ' μ' s' rfl R' x (.ret r)
theorem Zs {test : Expr} {body orelse : List Stmt} {pos : Pos} {t : PM Bool} {f g : PM MF} (h : SimB c F test t) (h1 : SimSS c F body f) (h2 : SimSS c F orelse g) : SimS c F (.If test body orelse pos) (sIf t f g) :=
 λ A φ μ s Q E hA R p hb hQ hE => by
 refine wpAny_If ?_
 unfold sIf at hb hQ hE
 rw [PM.B] at hb hQ hE
 refine h A φ μ s _ _ hA R p (λ e => hb (by rw [e])) (λ a b φ' μ' s' e R' x r => ?_) (λ e x φ' μ' s' he R' x' r => hE e x φ' μ' s' (by rw [he]) R' x' r)
 rw [e] at hb hQ hE
 subst r
 cases a with
 | true => exact h1 A φ' μ' s' _ _ hA R' trivial hb (λ a b φ'' μ'' s'' e R'' x'' r => hQ a b φ'' μ'' s'' e R'' (x.trans x'') r) (λ a b φ'' μ'' s'' e R'' x'' r => hE a b φ'' μ'' s'' e R'' (x.trans x'') (r.le x.dom))
 | false => exact h2 A φ' μ' s' _ _ hA R' trivial hb (λ a b φ'' μ'' s'' e R'' x'' r => hQ a b φ'' μ'' s'' e R'' (x.trans x'') r) (λ a b φ'' μ'' s'' e R'' x'' r => hE a b φ'' μ'' s'' e R'' (x.trans x'') (r.le x.dom))
noncomputable def sRet (f : PM PV) : PM MF := f >>= λ v => pure (.ret v)
theorem Zu {e : Expr} {pos : Pos} {f : PM PV} (h : SimE c F e f) : SimS c F (.Return (some e) pos) (sRet f) := λ A φ μ s Q E hA R p hb hQ hE => by
 refine wpAny_Return_some ?_
 unfold sRet at hb hQ hE
 rw [PM.B] at hb hQ hE
 refine h A φ μ s _ _ hA R p (λ e => hb (by rw [e])) (λ a b φ' μ' s' e R' x r => ?_) (λ e x φ' μ' s' he R' x' r => hE e x φ' μ' s' (by rw [he]) R' x' r)
 rw [e] at hQ
 exact hQ _ _ φ' μ' s' rfl R' x (.ret r)
noncomputable def sExpr (f : PM PV) : PM MF := f >>= λ _ => pure .next
theorem Zr {e : Expr} {pos : Pos} {f : PM PV} (h : SimE c F e f) (hi : interactive F.env = false) (hs : swapsWith e none pos.line F.env = pure false) : SimS c F (.Expr e pos) (sExpr f) := λ A φ μ s Q E hA R p hb hQ hE => by
 refine wpAny_Expr_any ?_ hi hs
 unfold sExpr at hb hQ hE
 rw [PM.B] at hb hQ hE
 refine h A φ μ s _ _ hA R p (λ e => hb (by rw [e])) (λ a b φ' μ' s' e R' x r => ?_) (λ e x φ' μ' s' he R' x' r => hE e x φ' μ' s' (by rw [he]) R' x' r)
 rw [e] at hQ
 exact hQ _ _ φ' μ' s' rfl R' x .next
end

section
variable {c : Cx} {F : Fx}
theorem Sim.use {α β δ : Type} {P : List Addr -> Heap -> Prop} {RR : List Addr -> Heap -> α -> β -> Prop} {t : Sem α} {f : PM β} {g : β -> PM δ} (h : Sim c F P RR t f)
  {A : Around} {φ : List Addr} {μ : St} {s : Shared} {Q' : α -> Shared -> Prop} {E : Value -> Shared -> Prop} (hA : ACtx F A) (R : Rep c F φ μ s) (p : P φ s.heap) (hb : (f >>= g) μ ≠ .bad)
  (hE : ∀ e x φ' μ' s', (f >>= g) μ = .exc x μ' -> Rep c F φ' μ' s' -> Ext F.nss F.cls φ s.heap φ' s'.heap -> ExcR c (dom s.heap) φ' s'.heap e x -> E e s')
  (hQ : ∀ a b φ' μ' s', (f >>= g) μ = g b μ' -> Rep c F φ' μ' s' -> Ext F.nss F.cls φ s.heap φ' s'.heap -> RR φ' s'.heap a b -> Q' a s') : wpAny (model c.prog c.w) A t Q' E s :=
 h A φ μ s Q' E hA R p (λ e => hb (by rw [PM.B, e])) (λ a b φ' μ' s' e R' x r => hQ a b φ' μ' s' (by rw [PM.B, e]) R' x r)
  (λ e x φ' μ' s' he R' x' r => hE e x φ' μ' s' (by rw [PM.B, he]) R' x' r)
theorem Sim.fin {α β : Type} {P : List Addr -> Heap -> Prop} {RR : List Addr -> Heap -> α -> β -> Prop} {t : Sem α} {f : PM β} (h : Sim c F P RR t f)
  {A : Around} {φ φ0 : List Addr} {μ : St} {s s0 : Shared} {Q : α -> Shared -> Prop} {E : Value -> Shared -> Prop} {o : Out β} (hA : ACtx F A) (R : Rep c F φ μ s) (p : P φ s.heap) (eo : o = f μ) (xA : Ext F.nss F.cls φ0 s0.heap φ s.heap) (hb : o ≠ .bad)
  (hQ : ∀ a b φ' μ' s', o = .ok b μ' -> Rep c F φ' μ' s' -> Ext F.nss F.cls φ0 s0.heap φ' s'.heap -> RR φ' s'.heap a b -> Q a s')
  (hE : ∀ e x φ' μ' s', o = .exc x μ' -> Rep c F φ' μ' s' -> Ext F.nss F.cls φ0 s0.heap φ' s'.heap -> ExcR c (dom s0.heap) φ' s'.heap e x -> E e s') : wpAny (model c.prog c.w) A t Q E s := by
 subst eo
 exact h A φ μ s Q E hA R p hb (λ a b φ' μ' s' e R' x r => hQ a b φ' μ' s' e R' (xA.trans x) r) (λ e x φ' μ' s' he R' x' r => hE e x φ' μ' s' he R' (xA.trans x') (r.le xA.dom))
end
noncomputable def mapO {α β : Type} (f : α -> Option β) : List α -> Option (List β)
 | [] => some []
 | x :: xs => match f x with
  | some y => (mapO f xs).map (y :: ·)
  | none => none
theorem Zc2 {α β : Type} {f : α -> Option β} {x : α} {xs : List α} : mapO f (x :: xs) = (match f x with | some y => (mapO f xs).map (y :: ·) | none => none) := rfl
noncomputable def reify (hp : List MO) : Nat -> PV -> Option PyData
 | 0, _ => none
 | n + 1, v => match v with
  | .none => some .none
  | .bool b => some (.bool b)
  | .int i => some (.int i)
  | .str x => if PyData.strOk x then some (.str x) else none
  | .tup xs => (mapO (reify hp n) xs).map .tuple
  | .lst xs => (mapO (reify hp n) xs).map .list
  | .obj i => match hp[i]? with
   | some (.lst xs) => (mapO (reify hp n) xs).map .list
   | _ => none
  | _ => none
theorem Zk6 {hp : List MO} {n i : Nat} : reify hp (n + 1) (.obj i) = (match hp[i]? with | some (.lst xs) => (mapO (reify hp n) xs).map .list | _ => none) := rfl
theorem Za2 {h : Heap} {a : Addr} {o : Obj} {vs : List Value} {n : Nat} {xs : List PyData} {as : List Addr} (h1 : h.get? a = some o) (h2 : o.cls = .type "list") (h3 : o.data = .seq vs.toArray n) (h4 : ReadsAll h vs xs as) : Reads h (.ref a) (.list xs) (a :: as) :=
 .list h1 h2 h3 (by simpa using h4)
theorem Ze5 {h : Heap} {a : Addr} {o : Obj} {vs : List Value} {n : Nat} {xs : List PyData} {as : List Addr} (h1 : h.get? a = some o) (h2 : o.cls = .type "tuple") (h3 : o.data = .seq vs.toArray n) (h4 : ReadsAll h vs xs as) : Reads h (.ref a) (.tuple xs) as :=
 .tuple h1 h2 h3 (by simpa using h4)
section
variable {c : Cx} {F : Fx} {φ : List Addr} {μ : St} {s : Shared}
def Good (h : Heap) (v : Value) (d : PyData) (n : Nat) : Prop := (∃ as, Reads h v d as) ∧ d.canLay0 = true ∧ d.depth <= n
def Goods (h : Heap) (vs : List Value) (ds : List PyData) (n : Nat) : Prop := (∃ as, ReadsAll h vs ds as) ∧ PyData.canLayAll0 ds = true ∧ PyData.depthAll ds <= n
theorem Zbk {n : Nat} {h : Heap} {φ : List Addr} {f : PV -> Option PyData} (ih : ∀ {v x d}, VR φ h v x -> f x = some d -> Good h v d n) {vs : List Value} {xs : List PV} (r : VRs φ h vs xs) : ∀ {ds : List PyData}, mapO f xs = some ds -> Goods h vs ds n := by
 induction r using VRs.ind with
 | nil => intro ds e; cases e; exact ⟨⟨_, .nil⟩, rfl, Nat.zero_le _⟩
 | @cons v vs x xs a b ihb =>
  intro ds e
  rw [Zc2] at e
  cases hx : f x with
  | none => rw [hx] at e; cases e
  | some y =>
   rw [hx] at e
   cases hxs : mapO f xs with
   | none => rw [hxs] at e; cases e
   | some ys =>
    rw [hxs] at e; cases e
    obtain ⟨⟨_, r1⟩, l1, d1⟩ := ih a hx
    obtain ⟨⟨_, r2⟩, l2, d2⟩ := ihb hxs
    exact ⟨⟨_, .cons r1 r2⟩, by simp [PyData.canLayAll0, l1, l2], by simp only [PyData.depthAll]; lia⟩
theorem Zo (R : Rep c F φ μ s) : ∀ (n : Nat) {v : Value} {x : PV} {d : PyData}, VR φ s.heap v x -> reify μ.hp n x = some d -> Good s.heap v d n
 | 0, _, _, _, _, e => by cases e
 | n + 1, v, x, d, r, e => by
  induction r using VR.cs with
  | none => cases e; exact ⟨⟨_, .none⟩, rfl, by simp [PyData.depth]⟩
  | bool b => cases e; exact ⟨⟨_, .bool b⟩, rfl, by simp [PyData.depth]⟩
  | int i t => cases e; exact ⟨⟨_, .int i t⟩, rfl, by simp [PyData.depth]⟩
  | str x t =>
   have e : (if PyData.strOk x then some (PyData.str x) else none) = some d := e
   by_cases hs : PyData.strOk x = true
   ·rw [if_pos hs] at e; cases e; exact ⟨⟨_, .str x t⟩, hs, by simp [PyData.depth]⟩
   ·rw [if_neg hs] at e; exact Zf e
  | tup h1 h4 h5 =>
   obtain ⟨ds, hds, rfl⟩ := Option.map_eq_some_iff.mp (show Option.map _ (mapO (reify μ.hp n) _) = _ from e)
   obtain ⟨⟨as, r⟩, l, dd⟩ := Zbk (λ a b => Zo R n a b) h5 hds
   exact ⟨⟨_, Ze5 h1 rfl rfl r⟩, l, by simp only [PyData.depth]; lia⟩
  | lst h1 h4 h5 =>
   obtain ⟨ds, hds, rfl⟩ := Option.map_eq_some_iff.mp (show Option.map _ (mapO (reify μ.hp n) _) = _ from e)
   obtain ⟨⟨as, r⟩, l, dd⟩ := Zbk (λ a b => Zo R n a b) h5 hds
   exact ⟨⟨_, Za2 h1 rfl rfl r⟩, l, by simp only [PyData.depth]; lia⟩
  | @obj i a h1 =>
   rw [Zk6] at e
   cases hxs : μ.hp[i]? with
   | none => rw [hxs] at e; exact Zf e
   | some o =>
    rw [hxs] at e
    cases o with
    | lst xs =>
     obtain ⟨ds, hds, rfl⟩ := Option.map_eq_some_iff.mp e
     obtain ⟨_, _, k1, k2⟩ := (R.objs i a _ h1 hxs).inv_lst rfl
     obtain ⟨⟨as, r⟩, l, dd⟩ := Zbk (λ a b => Zo R n a b) k2 hds
     exact ⟨⟨_, Za2 k1 rfl rfl r⟩, l, by simp only [PyData.depth]; lia⟩
    | _ => exact Zf e
  | rng => exact Zf e
  | nxt => exact Zf e
  | vals => exact Zf e
  | raw => exact Zf e
noncomputable def pItems (v : PV) : PM (List PV) := λ μ => match v with
 | .lst xs => .ok xs μ
 | .tup xs => .ok xs μ
 | .obj i => match μ.hp[i]? with
  | some (.lst xs) => .ok xs μ
  | _ => .bad
 | _ => .bad
noncomputable def isLst (hp : List MO) : PV -> Option (List PV)
 | .lst xs => some xs
 | .obj i => match hp[i]? with
  | some (.lst xs) => some xs
  | _ => none
 | _ => none
theorem Znh {hp : List MO} {x : PV} {xs : List PV} (e : isLst hp x = some xs) : x = .lst xs ∨ ∃ i, x = .obj i ∧ hp[i]? = some (.lst xs) := by
 cases x with
 | lst ys => cases e; exact .inl rfl
 | obj i =>
  refine .inr ⟨i, rfl, ?_⟩
  unfold isLst at e
  dsimp only at e
  cases hi : hp[i]? with
  | none => rw [hi] at e; exact Zf e
  | some o =>
   rw [hi] at e
   cases o with
   | lst ys => cases e; rfl
   | _ => exact Zf e
 | _ => exact Zf e
theorem Zfl (R : Rep c F φ μ s) {v : Value} {x : PV} {xs : List PV} (r : VR φ s.heap v x) (e : isLst μ.hp x = some xs) : ∃ (a : Addr) (vs : List Value) (n : Nat), v = .ref a ∧ s.heap.get? a = some { cls := .type "list", data := .seq vs.toArray n } ∧ VRs φ s.heap vs xs := by
 rcases Znh e with rfl | ⟨i, rfl, hi⟩
 ·obtain ⟨a, vs, n, rfl, h1, _, h5⟩ := r.un_lst rfl
  exact ⟨a, vs, n, rfl, h1, h5⟩
 ·obtain ⟨a, rfl, h1⟩ := r.un_obj rfl
  obtain ⟨vs, n, k1, k2⟩ := (R.objs i a _ h1 hi).inv_lst rfl
  exact ⟨a, vs, n, rfl, k1, k2⟩
theorem Zf0 (R : Rep c F φ μ s) {v : Value} {x : PV} {xs : List PV} (r : VR φ s.heap v x) (e : isLst μ.hp x = some xs) : ∃ (a : Addr) (vs : List Value), v = .ref a ∧ s.heap.IsList a vs.toArray ∧ VRs φ s.heap vs xs := by
 obtain ⟨a, vs, n, rfl, h1, h2⟩ := Zfl R r e
 exact ⟨a, vs, rfl, ⟨_, h1, rfl, _, rfl⟩, h2⟩
end
noncomputable def pEq (a b : PV) : PM Bool := λ μ => match reify μ.hp 16 a, reify μ.hp 16 b with
 | some d, some e => .ok (PyData.eqv d e) μ
 | _, _ => .bad
noncomputable def lenOk {α : Type} (xs : List α) : Bool := decide (xs.length <= 1000000)
noncomputable def inSeq (μ : St) (x : PV) (xs : List PV) : Out Bool := match reify μ.hp 16 x, mapO (reify μ.hp 16) xs with
 | some d, some ds => .ok (ds.any λ y => PyData.eqv y d) μ
 | _, _ => .bad
noncomputable def pIn (x y : PV) : PM Bool := λ μ => match y with
 | .obj i => match μ.hp[i]? with
  | some (.dct es _) => (match x with
   | .int k => .ok (es.any λ e => e.1 == k) μ
   | _ => .bad)
  | some (.set ks) => (match x with
   | .int k => .ok (decide (k ∈ ks)) μ
   | _ => .bad)
  | some (.lst xs) => inSeq μ x xs
  | _ => .bad
 | .lst xs => inSeq μ x xs
 | .tup xs => inSeq μ x xs
 | _ => .bad
section
variable {c : Cx} {F : Fx}
theorem ACtx.room {A : Around} (hA : ACtx F A) : A.units + 64 < cLine := by
 have := hA.units
 have e : cLine = 9900 := rfl
 lia
theorem Zcm {h : Heap} {v : Value} {d : PyData} {n : Nat} (g : Good h v d n) (hn : n <= 64) : SeqAt.shaped d = true := by
 unfold SeqAt.shaped
 rw [g.2.1, Bool.true_and]
 exact decide_eq_true (Nat.le_trans g.2.2 hn)
noncomputable abbrev V2 (v w : Value) (x y : PV) : List Addr -> Heap -> Prop := λ φ h => VR φ h v x ∧ VR φ h w y
theorem Zr4 {v w : Value} {x y : PV} : Sim c F (V2 v w x y) (λ _ _ a b => a = .bool b) (compareOp .Eq v w) (pEq x y) := by
 intro A φ μ s Q E hA R p hb hQ hE
 unfold pEq at hb hQ
 cases h1 : reify μ.hp 16 x with
 | none => rw [h1] at hb; exact absurd rfl hb
 | some d =>
  cases h2 : reify μ.hp 16 y with
  | none => rw [h1, h2] at hb; exact absurd rfl hb
  | some e =>
   rw [h1, h2] at hQ
   have g1 := Zo R 16 p.1 h1
   have g2 := Zo R 16 p.2 h2
   obtain ⟨_, r1⟩ := g1.1
   obtain ⟨_, r2⟩ := g2.1
   exact SeqAt.compareEq_shaped r1 r2 (Zcm g1 (by decide)) (Zcm g2 (by decide)) hA.room (hQ _ _ _ _ _ rfl R Ext.refl rfl)
theorem Zr5 {v w : Value} {x y : PV} : Sim c F (V2 v w x y) (λ _ _ a b => a = .bool b) (compareOp .NotEq v w) (bNot (pEq x y)) := by
 intro A φ μ s Q E hA R p hb hQ hE
 unfold bNot at hb hQ
 rw [PM.B] at hb hQ
 unfold pEq at hb hQ
 cases h1 : reify μ.hp 16 x with
 | none => rw [h1] at hb; exact absurd rfl hb
 | some d =>
  cases h2 : reify μ.hp 16 y with
  | none => rw [h1, h2] at hb; exact absurd rfl hb
  | some e =>
   rw [h1, h2] at hQ
   have g1 := Zo R 16 p.1 h1
   have g2 := Zo R 16 p.2 h2
   obtain ⟨_, r1⟩ := g1.1
   obtain ⟨_, r2⟩ := g2.1
   exact SeqAt.compareNe_shaped r1 r2 (Zcm g1 (by decide)) (Zcm g2 (by decide)) hA.room (hQ _ _ _ _ _ rfl R Ext.refl rfl)
theorem Zfm {φ : List Addr} {h : Heap} {kvs : List (Int × Value)} {es : List (Int × PV)} (r : DRs φ h kvs es) (k : Int) : (valueAt kvs k).isSome = es.any λ e => e.1 == k := by
 induction r with
 | nil => rfl
 | @cons k' _ _ _ _ a b ih =>
  unfold valueAt at ih ⊢
  rw [List.find?_cons, any_cons]
  by_cases hk : k' = k
  ·rw [show decide (k' = k) = true from decide_eq_true hk, show (k' == k) = true from beq_iff_eq.mpr hk]; rfl
  ·rw [show decide (k' = k) = false from decide_eq_false hk, show (k' == k) = false from beq_eq_false_iff_ne.mpr hk]
   exact ih
theorem Zni {v w : Value} {x y : PV} : Sim c F (V2 v w x y) (λ _ _ a b => a = .bool b) (compareOp .In v w) (pIn x y) := by
 intro A φ μ s Q E hA R p hb hQ hE
 obtain ⟨rx, ry⟩ := p
 have seq : ∀ xs : List PV, inSeq μ x xs = pIn x y μ -> ∃ d ds, reify μ.hp 16 x = some d ∧ mapO (reify μ.hp 16) xs = some ds ∧ pIn x y μ = Out.ok (ds.any λ y => PyData.eqv y d) μ := by
  intro xs e
  unfold inSeq at e
  cases h1 : reify μ.hp 16 x with
  | none => rw [h1] at e; exact absurd (e.symm) hb
  | some d =>
   cases h2 : mapO (reify μ.hp 16) xs with
   | none => rw [h1, h2] at e; exact absurd (e.symm) hb
   | some ds => rw [h1, h2] at e; exact ⟨d, ds, rfl, rfl, e.symm⟩
 have room : ∀ {ds d}, PyData.depthAll ds <= 16 -> A.units + 1 + min (PyData.depthAll ds) (PyData.depth d) < cLine := λ h => by
  have := hA.units
  have e : cLine = 9900 := rfl
  have := Nat.min_le_left (PyData.depthAll ‹_›) (PyData.depth ‹_›)
  lia
 induction ry using VR.cs with
 | lst h1 h4 h5 =>
  obtain ⟨d, ds, e1, e2, e3⟩ := seq _ rfl
  have g1 := Zo R 16 rx e1
  have g2 := Zbk (λ a b => Zo R 16 a b) h5 e2
  obtain ⟨_, r1⟩ := g1.1
  obtain ⟨_, r2⟩ := g2.1
  exact SeqAt.in_list_reads (Za2 h1 rfl rfl r2) r1 g2.2.1 g1.2.1 (room g2.2.2) (hQ _ _ _ _ _ e3 R Ext.refl rfl)
 | tup h1 h4 h5 =>
  obtain ⟨d, ds, e1, e2, e3⟩ := seq _ rfl
  have g1 := Zo R 16 rx e1
  have g2 := Zbk (λ a b => Zo R 16 a b) h5 e2
  obtain ⟨_, r1⟩ := g1.1
  obtain ⟨_, r2⟩ := g2.1
  exact SeqAt.in_tuple_reads (Ze5 h1 rfl rfl r2) r1 g2.2.1 g1.2.1 (room g2.2.2) (hQ _ _ _ _ _ e3 R Ext.refl rfl)
 | @obj i a h1 =>
  have hw := R.notSys (mem_of_getElem? h1)
  cases hi : μ.hp[i]? with
  | none => exact absurd (by unfold pIn; simp only [hi]) hb
  | some o =>
   have ob := R.objs i a o h1 hi
   cases ob with
   | @lst _ _ xs k1 k2 =>
    obtain ⟨d, ds, e1, e2, e3⟩ := seq xs (by unfold pIn; simp only [hi])
    have g1 := Zo R 16 rx e1
    have g2 := Zbk (λ a b => Zo R 16 a b) k2 e2
    obtain ⟨_, r1⟩ := g1.1
    obtain ⟨_, r2⟩ := g2.1
    exact SeqAt.in_list_reads (Za2 k1 rfl rfl r2) r1 g2.2.1 g1.2.1 (room g2.2.2) (hQ _ _ _ _ _ e3 R Ext.refl rfl)
   | dct k1 k2 =>
    induction rx using VR.cs with
    | int k t =>
     refine wpAny_in_of (knd := intKind c.prog c.w) (k := k) (by show Value.isInt k (.int k t) = true; simp [Value.isInt]) hw k1.dictOf.mapOf ?_
     rw [Zfm k2]
     exact hQ _ _ _ _ _ (by unfold pIn; simp only [hi]) (R.toks _) Ext.refl rfl
    | _ => exact absurd (by unfold pIn; simp only [hi]) hb
   | set k1 =>
    induction rx using VR.cs with
    | int k t =>
     refine wpAny_inSet_of (knd := intKind c.prog c.w) (k := k) (by show Value.isInt k (.int k t) = true; simp [Value.isInt]) rfl k1 ?_
     exact hQ _ _ _ _ _ (by unfold pIn; simp only [hi]) (R.toks _) Ext.refl rfl
    | _ => exact absurd (by unfold pIn; simp only [hi]) hb
   | _ => exact absurd (by unfold pIn; simp only [hi]) hb
 | none => exact absurd rfl hb
 | bool => exact absurd rfl hb
 | int => exact absurd rfl hb
 | str => exact absurd rfl hb
 | rng => exact absurd rfl hb
 | nxt => exact absurd rfl hb
 | vals => exact absurd rfl hb
 | raw => exact absurd rfl hb
end

section
variable {c : Cx} {F : Fx}
theorem Znj {M : Model} {A : Around} {v w : Value} {s : Shared} {Q : Value -> Shared -> Prop} {E : Value -> Shared -> Prop} (h : wpAny M A (compareOp .In v w) (λ x s' => ∀ b, x = .bool b -> Q (.bool (!b)) s') E s) : wpAny M A (compareOp .NotIn v w) Q E s := λ Γ p hΓ => by
 have q := h Γ p hΓ
 change Sem.wp M Γ (contains w v >>= λ r => (pure (Value.bool r) : Sem Value)) _ _ p s at q
 show Sem.wp M Γ (contains w v >>= λ r => (pure (Value.bool !r) : Sem Value)) _ _ p s
 rw [Sem.wp_bind'] at q ⊢
 exact Sem.wp_mono M Γ _ (λ a _ s' h => h a rfl) (λ _ _ _ e => e) p s q
theorem Znk {v w : Value} {x y : PV} : Sim c F (V2 v w x y) (λ _ _ a b => a = .bool b) (compareOp .NotIn v w) (bNot (pIn x y)) := by
 intro A φ μ s Q E hA R p hb hQ hE
 unfold bNot at hb hQ hE
 rw [PM.B] at hb hQ hE
 refine Znj (Zni A φ μ s _ E hA R p (λ e => hb (by rw [e])) (λ a b φ' μ' s' e R' x' r b' e' => ?_) λ e y φ' μ' s' he => hE e y φ' μ' s' (by rw [he]))
 cases r.symm.trans e'
 exact hQ _ _ _ _ _ (by rw [e]; rfl) R' x' rfl
noncomputable def isNone : PV -> Option Bool
 | .none => some true
 | .raw _ => none
 | .undef => none
 | _ => some false
noncomputable def pIs (x y : PV) : PM Bool := λ μ => match y, isNone x with
 | .none, some b => .ok b μ
 | _, _ => .bad
theorem Zf1 {φ : List Addr} {h : Heap} {v : Value} {x : PV} {b : Bool} (r : VR φ h v x) (e : isNone x = some b) : (v == Value.none) = b := by
 induction r using VR.cs with
 | raw => exact Zf e
 | _ => exact Option.some.inj e
theorem Zr6 {v w : Value} {x y : PV} : Sim c F (V2 v w x y) (λ _ _ a b => a = .bool b) (compareOp .Is v w) (pIs x y) := by
 intro A φ μ s Q E hA R p hb hQ hE
 obtain ⟨rx, ry⟩ := p
 unfold pIs at hb hQ
 induction ry using VR.cs with
 | none =>
  cases hx : isNone x with
  | none => rw [hx] at hb; exact (hb rfl).elim
  | some b =>
   refine is_none ?_
   rw [Zf1 rx hx]
   exact hQ _ _ _ _ _ (by rw [hx]) R Ext.refl rfl
 | _ => exact (hb rfl).elim
theorem Znl {v w : Value} {x y : PV} : Sim c F (V2 v w x y) (λ _ _ a b => a = .bool b) (compareOp .IsNot v w) (bNot (pIs x y)) := by
 intro A φ μ s Q E hA R p hb hQ hE
 obtain ⟨rx, ry⟩ := p
 unfold bNot at hb hQ
 rw [PM.B] at hb hQ
 unfold pIs at hb hQ
 induction ry using VR.cs with
 | none =>
  cases hx : isNone x with
  | none => rw [hx] at hb; exact (hb rfl).elim
  | some b =>
   refine isNot_none ?_
   rw [Zf1 rx hx]
   exact hQ _ _ _ _ _ (by rw [hx]; rfl) R Ext.refl rfl
 | _ => exact (hb rfl).elim
noncomputable def pOrd (f : Int -> Int -> Bool) (x y : PV) : PM Bool := λ μ => match x, y with
 | .int i, .int j => .ok (f i j) μ
 | _, _ => .bad
noncomputable def pCmp : CmpOp -> PV -> PV -> PM Bool
 | .Eq => pEq
 | .NotEq => λ x y => bNot (pEq x y)
 | .In => pIn
 | .NotIn => λ x y => bNot (pIn x y)
 | .Is => pIs
 | .IsNot => λ x y => bNot (pIs x y)
 | .Lt => pOrd λ i j => decide (i < j)
 | .LtE => pOrd λ i j => decide (i <= j)
 | .Gt => pOrd λ i j => decide (i > j)
 | .GtE => pOrd λ i j => decide (i ≥ j)
theorem Zew {f : Int -> Int -> Bool} {op : CmpOp} {v w : Value} {x y : PV} (hf : ∀ (A : Around) (s : Shared) (E : Value -> Shared -> Prop) (Q : Value -> Shared -> Prop) (i : Int) (t : Tok) (j : Int) (u : Tok), Q (.bool (f i j)) s -> wpAny (model c.prog c.w) A (compareOp op (.int i t) (.int j u)) Q E s) :
  Sim c F (V2 v w x y) (λ _ _ a b => a = .bool b) (compareOp op v w) (pOrd f x y) := by
 intro A φ μ s Q E hA R p hb hQ hE
 obtain ⟨rx, ry⟩ := p
 induction rx using VR.cs with
 | int i t =>
  induction ry using VR.cs with
  | int j u => exact hf _ _ _ _ _ _ _ _ (hQ _ _ _ _ _ rfl R Ext.refl rfl)
  | _ => exact (hb rfl).elim
 | _ => exact (hb rfl).elim
theorem Zk7 {op : CmpOp} {v w : Value} {x y : PV} : Sim c F (V2 v w x y) (λ _ _ a b => a = .bool b) (compareOp op v w) (pCmp op x y) := by
 cases op with
 | Eq => exact Zr4
 | NotEq => exact Zr5
 | In => exact Zni
 | NotIn => exact Znk
 | Is => exact Zr6
 | IsNot => exact Znl
 | Lt => exact Zew (op := .Lt) (f := λ i j => decide (i < j)) (λ A s E Q i t j u h => P.lt_int h)
 | LtE => exact Zew (op := .LtE) (f := λ i j => decide (i <= j)) (λ A s E Q i t j u h => P.le_int h)
 | Gt => exact Zew (op := .Gt) (f := λ i j => decide (i > j)) (λ A s E Q i t j u h => P.gt_int h)
 | GtE => exact Zew (op := .GtE) (f := λ i j => decide (i ≥ j)) (λ A s E Q i t j u h => P.ge_int h)
noncomputable def bCmp (op : CmpOp) (f g : PM PV) : PM Bool := f >>= λ x => g >>= λ y => pCmp op x y
noncomputable def eCmp (op : CmpOp) (f g : PM PV) : PM PV := f >>= λ x => g >>= λ y => pCmp op x y >>= λ b => pure (.bool b)
theorem Zg4 {op : CmpOp} {l r : Expr} {pos : Pos} {f g : PM PV} {p : PV -> PV -> PM Bool} (hp : ∀ v w x y, Sim c F (V2 v w x y) (λ _ _ a b => a = .bool b) (compareOp op v w) (p x y)) (h : SimE c F l f) (h' : SimE c F r g) (hm : behindInMarks op r = false) : SimB c F (.Compare l [op] [r] pos) (f >>= λ x => g >>= λ y => p x y) := λ A φ μ s Q E hA R p hb hQ hE => by
 refine wpAny_isTrue_Compare1 ?_ hm
 refine h.use hA R p hb hE λ a b φ' μ' s' eg R' x r => ?_
 rw [eg] at hb hQ hE
 refine (h'.keep (v := a) (x := b)).use hA R' r hb (λ e y φ' μ' s' he R' x' r => hE e y φ' μ' s' he R' (x.trans x') (r.le x.dom)) λ aC bC φ2 μ2 sC eg RC x2 rC => ?_
 rw [eg] at hb hQ hE
 refine hp _ _ _ _ A φ2 μ2 sC _ _ hA RC rC hb (λ aD bD φ3 μ3 sD eD R3 xD r3 => ?_) (λ e y φ' μ' s' he R' x' r => hE e y φ' μ' s' he R' (x.trans (x2.trans x')) (r.le (x.trans x2).dom))
 subst r3
 exact wpAny_truthy_bool (hQ _ _ _ _ _ eD R3 (x.trans (x2.trans xD)) rfl)
theorem Zj {op : CmpOp} {l r : Expr} {pos : Pos} {f g : PM PV} (h : SimE c F l f) (h' : SimE c F r g) (hm : behindInMarks op r = false) : SimB c F (.Compare l [op] [r] pos) (bCmp op f g) := Zg4 (p := pCmp op) (λ _ _ _ _ => Zk7) h h' hm
theorem Zfn {op : CmpOp} {l r : Expr} {pos : Pos} {f g : PM PV} (h : SimE c F l f) (h' : SimE c F r g) (hm : behindInMarks op r = false) : SimE c F (.Compare l [op] [r] pos) (eCmp op f g) := λ A φ μ s Q E hA R p hb hQ hE => by
 unfold eCmp at hb hQ hE
 refine wpAny_Compare1 ?_ hm
 refine h.use hA R p hb hE λ a b φ' μ' s' eg R' x r => ?_
 rw [eg] at hb hQ hE
 refine (h'.keep (v := a) (x := b)).use hA R' r hb (λ e y φ' μ' s' he R' x' r => hE e y φ' μ' s' he R' (x.trans x') (r.le x.dom)) λ aC bC φ2 μ2 sC eg RC x2 rC => ?_
 rw [eg] at hb hQ hE
 refine Zk7.use hA RC rC hb (λ e y φ' μ' s' he R' x' r => hE e y φ' μ' s' he R' (x.trans (x2.trans x')) (r.le (x.trans x2).dom)) λ aD bD φ3 μ3 sD eD R3 xD r3 => ?_
 rw [eD] at hQ
 subst r3
 exact hQ _ _ _ _ _ rfl R3 (x.trans (x2.trans xD)) (.bool _)
noncomputable def pArith (f : Int -> Int -> Int) (ok : Int -> Bool) (x y : PV) : PM PV := λ μ => match x, y with
 | .int i, .int j => (match ok j with | true => .ok (.int (f i j)) μ | false => .bad)
 | _, _ => .bad
noncomputable def pBin : Operator -> PV -> PV -> PM PV
 | .Add => pArith (λ i j => i + j) λ _ => true
 | .Sub => pArith (λ i j => i - j) λ _ => true
 | .Mod => pArith (λ i j => i.fmod j) λ j => j != 0
 | .FloorDiv => pArith (λ i j => i.fdiv j) λ j => j != 0 && decide (j.natAbs < 1000)
 | _ => λ _ _ => PM.H
theorem noPylong {i j : Int} (h : j.natAbs < 1000) : Builtin.divisionGoesByPylong i j = false := by
 unfold Builtin.divisionGoesByPylong
 have h2 : j.natAbs.log2 < 10 := by
  by_cases h0 : j.natAbs = 0
  ·rw [h0]; decide
  ·exact (Nat.log2_lt h0).mpr (by lia)
 dsimp only
 split
 ·simp
 ·simp only [Bool.and_eq_false_iff, decide_eq_false_iff_not]
  left; lia
theorem Zcn {f : Int -> Int -> Int} {ok : Int -> Bool} {op : Operator} {v w : Value} {x y : PV}
  (hf : ∀ (A : Around) (s : Shared) (E : Value -> Shared -> Prop) (Q : Value -> Shared -> Prop) (i : Int) (t : Tok) (j : Int) (u : Tok), ok j = true -> Q (.int (f i j) s.toks) { s with toks := s.toks + 1 } -> wpAny (model c.prog c.w) A (binaryOp op (.int i t) (.int j u)) Q E s) :
  Sim c F (V2 v w x y) (λ φ h a b => VR φ h a b) (binaryOp op v w) (pArith f ok x y) := by
 intro A φ μ s Q E hA R p hb hQ hE
 obtain ⟨rx, ry⟩ := p
 induction rx using VR.cs with
 | int i t =>
  induction ry using VR.cs with
  | int j u =>
   have e : pArith f ok (.int i) (.int j) μ = (match ok j with | true => .ok (.int (f i j)) μ | false => .bad) := rfl
   rw [e] at hb hQ
   cases hj : ok j with
   | true =>
    rw [hj] at hQ
    with_reducible refine hf A s E Q i t j u hj ?_
    refine hQ _ (.int (f i j)) φ μ _ ?_ ?_ ?_ ?_
    ·rfl
    ·exact R.toks _
    ·exact Ext.refl
    ·exact .int _ _
   | false => rw [hj] at hb; exact (hb rfl).elim
  | _ => exact (hb rfl).elim
 | _ => exact (hb rfl).elim
theorem Zqk {op : Operator} {v w : Value} {x y : PV} : Sim c F (V2 v w x y) (λ φ h a b => VR φ h a b) (binaryOp op v w) (pBin op x y) := by
 cases op with
 | Add => exact Zcn (op := .Add) (f := λ i j => i + j) (ok := λ _ => true) λ A s E Q i t j u _ h => wpAny_add_int h
 | Sub => exact Zcn (op := .Sub) (f := λ i j => i - j) (ok := λ _ => true) λ A s E Q i t j u _ h => AutoIntOps.sub_0 h
 | Mod => exact Zcn (op := .Mod) (f := λ i j => i.fmod j) (ok := λ j => j != 0) λ A s E Q i t j u ok h => AutoIntOps.mod_1 (by simpa using ok) h
 | FloorDiv =>
  refine Zcn (op := .FloorDiv) (f := λ i j => i.fdiv j) (ok := λ j => j != 0 && decide (j.natAbs < 1000)) λ A s E Q i t j u ok h => ?_
  simp only [Bool.and_eq_true, decide_eq_true_eq] at ok
  exact AutoIntOps.floordiv_1 (by simpa using ok.1) (by rw [noPylong ok.2]; exact Bool.false_ne_true) h
 | _ => exact Sim.B
noncomputable def eBin (op : Operator) (f g : PM PV) : PM PV := f >>= λ x => g >>= λ y => pBin op x y
theorem Zav {op : Operator} {l r : Expr} {pos : Pos} {f g : PM PV} (h : SimE c F l f) (h' : SimE c F r g) : SimE c F (.BinOp l op r pos) (eBin op f g) := λ A φ μ s Q E hA R p hb hQ hE => by
 unfold eBin at hb hQ hE
 refine wpAny_BinOp ?_
 refine h.use hA R p hb hE λ a b φ' μ' s' eg R' x r => ?_
 rw [eg] at hb hQ hE
 refine (h'.keep (v := a) (x := b)).use hA R' r hb (λ e y φ' μ' s' he R' x' r => hE e y φ' μ' s' he R' (x.trans x') (r.le x.dom)) λ aC bC φ2 μ2 sC eg RC x2 rC => ?_
 rw [eg] at hb hQ hE
 exact Zqk.fin hA RC rC rfl (x.trans x2) hb hQ hE
end

section
variable {c : Cx} {F : Fx} {φ φ0 : List Addr} {μ : St} {s : Shared} {h₀ h' : Heap}
noncomputable def Fx.stk (F : Fx) : List Addr := F.frames.filterMap (·.frame)
structure Side (c : Cx) (F : Fx) (φ : List Addr) (h h' : Heap) : Prop where
 size : h.objs.size <= h'.objs.size
 keep : ∀ a o, h.get? a = some o -> h'.get? a = some o ∨ (a ∈ F.stk ∧ ∃ sl, h'.get? a = some { o with slots := sl }) ∨ (¬ FzO o ∧ (∃ vs, o.data = .fields vs) ∧ a ∉ φ ∧ c.B.get? a = none)
theorem Rep.stkAt (R : Rep c F φ μ s) {a : Addr} (h : a ∈ F.stk) : a ∉ φ ∧ c.B.get? a = none ∧ ∃ o es ep, s.heap.get? a = some o ∧ o.data = .dict es ep := by
 obtain ⟨env, he, hf⟩ := List.mem_filterMap.mp h
 obtain ⟨_, L, h2, h3, h4, r⟩ := R.frm env he
 rw [h2] at hf; cases hf
 exact ⟨h3, h4, r⟩
theorem Side.mv (S : Side c F φ s.heap h') (R : Rep c F φ μ s) {v : Value} {x : PV} (r : VR φ s.heap v x) : VR φ h' v x := by
 refine r.move (λ _ _ e => e) (λ _ _ _ h => h) λ a o ho hn hz => ?_
 rcases S.keep a o ho with k | ⟨k, _⟩ | ⟨k, _⟩
 ·exact k
 ·obtain ⟨_, _, o', es, ep, ho', hd⟩ := R.stkAt k
  rw [ho] at ho'; cases ho'
  exact absurd ⟨es, ep, hd⟩ hz.notFrame
 ·exact absurd hz k
theorem Side.data (S : Side c F φ s.heap h') (R : Rep c F φ μ s) {a : Addr} {o : Obj} (ho : s.heap.get? a = some o) (hd : ∀ vs, o.data ≠ .fields vs) : ∃ sl, h'.get? a = some { o with slots := sl } := by
 rcases S.keep a o ho with k | ⟨_, sl, k⟩ | ⟨_, ⟨vs, k⟩, _⟩
 ·exact ⟨o.slots, k⟩
 ·exact ⟨sl, k⟩
 ·exact absurd k (hd vs)
theorem Rep.side (R : Rep c F φ μ s) (S : Side c F φ s.heap h') {tk : Nat} : Rep c F φ μ { s with heap := h', toks := tk } := by
 have exact_ : ∀ a o, s.heap.get? a = some o -> a ∉ F.stk -> (a ∈ φ ∨ (∃ ob, c.B.get? a = some ob)) -> h'.get? a = some o := λ a o ho hs hb => by
  rcases S.keep a o ho with k | ⟨k, _⟩ | ⟨_, _, k1, k2⟩
  ·exact k
  ·exact absurd k hs
  ·rcases hb with hb | ⟨ob, hb⟩
   ·exact absurd hb k1
   ·rw [k2] at hb; cases hb
 have mv : ∀ v x, VR φ s.heap v x -> VR φ h' v x := λ v x r => S.mv R r
 have rest : Rest c F φ μ.fr h' := R.rest (λ _ _ _ h => h) (λ a o ho _ hd => S.data R ho hd) mv
 refine ⟨R.ok, λ b o hb => ?_, R.os, R.gens, R.len, R.nodup, R.phiB, λ i a o h1 h2 => ?_, R.flen, R.lnodup, rest.nss, rest.cls, rest.vloc, rest.vcell, rest.frm⟩
 ·exact exact_ b o (R.keep b o hb) (λ h => by rw [(R.stkAt h).2.1] at hb; cases hb) (.inr ⟨o, hb⟩)
 ·obtain ⟨ob, hob⟩ := R.lt (mem_of_getElem? h1)
  exact (R.objs i a o h1 h2).move (λ _ _ e => e) mv ((exact_ a ob hob (λ h => (R.stkAt h).1 (mem_of_getElem? h1)) (.inl (mem_of_getElem? h1))).trans hob.symm)
theorem Ext.after {nss cls : List Addr} (xA : Ext nss cls φ0 h₀ φ s.heap) (size : s.heap.objs.size <= h'.objs.size)
  (keep : ∀ a o, s.heap.get? a = some o -> h'.get? a = some o ∨ ((∃ es ep, o.data = .dict es ep) ∧ ∃ sl, h'.get? a = some { o with slots := sl }) ∨ ¬ Mine.dom h₀ a) (hdom : ∀ a, Mine.dom h₀ a -> Mine.dom s.heap a -> Mine.dom h' a) : Ext nss cls φ0 h₀ φ h' := by
 refine ⟨⟨xA.grow, Nat.le_trans xA.size size, λ a o ho h1 h2 h3 => ?_⟩, λ a x => hdom a x (xA.dom a x)⟩
 rcases xA.old a o ho h1 h2 h3 with k | ⟨kc, sl, k⟩
 ·rcases keep a o k with q | q | q
  ·exact .inl q
  ·exact .inr q
  ·exact absurd ⟨o, ho⟩ q
 ·rcases keep a _ k with q | ⟨_, sl', q⟩ | q
  ·exact .inr ⟨kc, sl, q⟩
  ·exact .inr ⟨kc, sl', q⟩
  ·exact absurd ⟨o, ho⟩ q
theorem Side.trans {h'' : Heap} (S : Side c F φ s.heap h') (S' : Side c F φ h' h'') (hst : ∀ a ∈ F.stk, ∃ o es ep, s.heap.get? a = some o ∧ o.data = .dict es ep) : Side c F φ s.heap h'' := by
 refine ⟨Nat.le_trans S.size S'.size, λ a o ho => ?_⟩
 rcases S.keep a o ho with k | ⟨k, sl, k'⟩ | k
 ·exact S'.keep a o k
 ·refine .inr (.inl ⟨k, ?_⟩)
  obtain ⟨o', es, ep, ho', hd⟩ := hst a k
  rw [ho] at ho'; cases ho'
  rcases S'.keep a _ k' with q | ⟨_, sl', q⟩ | ⟨_, ⟨vs, q⟩, _⟩
  ·exact ⟨sl, q⟩
  ·exact ⟨sl', q⟩
  ·rw [hd] at q; cases q
 ·exact .inr (.inr k)
theorem Side.one {T : Addr} {o : Obj} {vs : Array Value} (ho : s.heap.get? T = some o) (hz : ¬ FzO o) (hd : o.data = .fields vs) (hn : T ∉ φ) (hb : c.B.get? T = none) (hs : Heap.SameBut T s.heap h') : Side c F φ s.heap h' := by
 refine ⟨Nat.le_of_eq hs.1.symm, λ a oa ha => ?_⟩
 by_cases e : a = T
 ·subst e
  rw [ho] at ha; cases ha
  exact .inr (.inr ⟨hz, ⟨vs, hd⟩, hn, hb⟩)
 ·exact .inl ((hs.2 a e).trans ha)
theorem Side.push {o : Obj} : Side c F φ s.heap (s.heap.push o) := ⟨by rw [Heap.size_push]; exact Nat.le_succ _, λ a oa ha => .inl (Heap.get?_push_of_some _ ha)⟩
theorem Side.slots (S : Heap.SlotsOnly F.stk s.heap h') : Side c F φ s.heap h' := by
 refine ⟨Nat.le_of_eq S.1.symm, λ a oa ha => ?_⟩
 by_cases e : a ∈ F.stk
 ·exact .inr (.inl ⟨e, S.2.2 a oa ha⟩)
 ·exact .inl ((S.2.1 a e).trans ha)
theorem Rep.fun (R : Rep c F φ μ s) : s.heap.FunFrames {} F.frames := by
 have go : ∀ l : List Env, (∀ env ∈ l, env ∈ F.frames) -> s.heap.FunFrames {} l := by
  intro l
  induction l with
  | nil => intro _; trivial
  | cons env r ih =>
   intro h
   obtain ⟨h1, L, h2, h3, h4, o, es, ep, ho, hd⟩ := R.frm env (h env (.head _))
   exact ⟨h1, ⟨L, o, h2, rfl, ho, λ vs e => by rw [hd] at e; cases e⟩, ih λ e he => h e (.tail _ he)⟩
 exact go F.frames λ _ h => h
theorem Zb4 {o : Obj} {n : String} (h : o.cls = .type n) (h1 : n ≠ "tuple") (h2 : n ≠ "list") (h3 : n ≠ "range") (h4 : n ≠ "method-wrapper") (h5 : n ≠ "dict_values" := by decide) : ¬ FzO o := by
 rintro ⟨e | e | e | e | e, _⟩ <;> rw [h] at e <;> injection e <;> contradiction
structure ExcN (c : Cx) (F : Fx) (n : Addr -> Prop) (φ : List Addr) (h h' : Heap) : Prop where
 side : Side c F φ h h'
 ext : ∀ {nss cls φ0 h₀}, (∀ a, dom h₀ a -> n a) -> Ext nss cls φ0 h₀ φ h -> Ext nss cls φ0 h₀ φ h'
theorem ExcN.trans {n : Addr -> Prop} {h'' : Heap} (R : Rep c F φ μ s) (a : ExcN c F n φ s.heap h') (b : ExcN c F n φ h' h'') : ExcN c F n φ s.heap h'' :=
 ⟨a.side.trans b.side λ x hx => (R.stkAt hx).2.2, λ hn x => b.ext hn (a.ext hn x)⟩
theorem ExcN.one {n : Addr -> Prop} {T : Addr} {o : Obj} {vs : Array Value} (ho : s.heap.get? T = some o) (hz : ¬ FzO o) (hd : o.data = .fields vs) (hn : T ∉ φ) (hb : c.B.get? T = none) (hT : ¬ n T) (hal : dom h' T) (hs : Heap.SameBut T s.heap h') : ExcN c F n φ s.heap h' := by
 refine ⟨Side.one ho hz hd hn hb hs, λ h0 x => x.after (Nat.le_of_eq hs.1.symm) (λ a oa ha => ?_) λ a _ ⟨oa, ha⟩ => by
  by_cases e : a = T
  ·rw [e]; exact hal
  ·exact ⟨oa, (hs.2 a e).trans ha⟩⟩
 by_cases e : a = T
 ·exact .inr (.inr (by rw [e]; exact λ q => hT (h0 _ q)))
 ·exact .inl ((hs.2 a e).trans ha)
theorem ExcN.push {n : Addr -> Prop} {o : Obj} : ExcN c F n φ s.heap (s.heap.push o) :=
 ⟨Side.push, λ h0 x => x.after (by rw [Heap.size_push]; exact Nat.le_succ _) (λ a oa ha => .inl (Heap.get?_push_of_some _ ha)) λ a _ ⟨oa, ha⟩ => ⟨oa, Heap.get?_push_of_some _ ha⟩⟩
theorem ExcN.slots {n : Addr -> Prop} (R : Rep c F φ μ s) (S : Heap.SlotsOnly F.stk s.heap h') : ExcN c F n φ s.heap h' := by
 refine ⟨Side.slots S, λ h0 x => x.after (Nat.le_of_eq S.1.symm) (λ a oa ha => ?_) λ a _ ⟨oa, ha⟩ => by
  by_cases e : a ∈ F.stk
  ·obtain ⟨sl, q⟩ := S.2.2 a oa ha
   exact ⟨_, q⟩
  ·exact ⟨oa, (S.2.1 a e).trans ha⟩⟩
 by_cases e : a ∈ F.stk
 ·obtain ⟨_, _, o, es, ep, ho, hd⟩ := R.stkAt e
  rw [ha] at ho; cases ho
  exact .inr (.inl ⟨⟨es, ep, hd⟩, S.2.2 a oa ha⟩)
 ·exact .inl ((S.2.1 a e).trans ha)
def ExcT (c : Cx) (n : Addr -> Prop) (φ : List Addr) (h : Heap) (e x : Value) : Prop :=
 ∃ (ea : Addr) (oe : Obj) (vs : Array Value) (T : Addr) (oT : Obj) (ts : Array Value), e = .ref ea ∧ h.get? ea = some oe ∧ oe.cls = x ∧ ¬ FzO oe ∧ oe.data = .fields vs ∧ 5 <= vs.size ∧ ea ∉ φ ∧ c.B.get? ea = none ∧ ¬ n ea ∧
  vs[1]? = some (.ref T) ∧ T ≠ ea ∧ T ∉ φ ∧ c.B.get? T = none ∧ ¬ n T ∧ h.get? T = some oT ∧ oT.cls = .type "traceback" ∧ oT.data = .fields ts ∧ 3 < ts.size
theorem ExcT.r {n : Addr -> Prop} {h : Heap} {e x : Value} (t : ExcT c n φ h e x) : ExcR c n φ h e x := by
 obtain ⟨ea, oe, vs, T, oT, ts, h1, h2, h3, h4, h5, h6, h7, h8, h9, h10, r⟩ := t
 exact ⟨ea, oe, vs, h1, h2, h3, h4, h5, h6, h7, h8, h9, .inr ⟨T, oT, ts, h10, r⟩⟩
theorem Zow {pl : List Value} {a b d e f : Value} : 3 < (([a, b, d, e, f] ++ (if pl.isEmpty then List.replicate 6 Value.none else pl)).toArray).size := by
 simp only [size_toArray, length_append, length_cons, length_nil]; lia
theorem Zfo {A : Around} {n : Addr -> Prop} {e x : Value} {outer : List Env} {E : Value -> Shared -> Prop} {Q : Unit -> Shared -> Prop} (hA : ACtx F A) (R : Rep c F φ μ s) (hfr : F.frames = F.env :: outer) (hx : ExcR c n φ s.heap e x)
  (hQ : ∀ h', ExcN c F n φ s.heap h' -> ExcT c n φ h' e x -> Q () { s with heap := h' }) (hn : ∀ a, n a -> dom s.heap a) : wpAny (model c.prog c.w) A (noteFrame e F.env) Q E s := by
 obtain ⟨ea, oe, vs, rfl, h2, h3, hz, h4, h5, h6, h7, h8, h9⟩ := hx.there
 obtain ⟨hk, L, hL, hLφ, hLB, oL, esL, epL, hoL, hdL⟩ := R.frm F.env (by rw [hfr]; exact .head _)
 have hstk : F.stk = (F.env :: outer).filterMap (·.frame) := by unfold Fx.stk; rw [hfr]
 have entry : ∀ (sB : Shared) (RB : Rep c F φ μ sB) (head : Value) (hadNext : Bool), ExcN c F n φ s.heap sB.heap -> sB.heap.get? ea = some oe -> (∀ h', ExcN c F n φ s.heap h' -> ExcT c n φ h' (.ref ea) x -> Q () { sB with heap := h' }) ->
   wpAny (model c.prog c.w) A (do let a <- frameOf F.env; let pl <- entryPlaceOf L hadNext; let b <- EntryCells.newEntry head a .none (rawInt L) .none pl; setField (.ref ea) 1 b) Q E sB := by
  intro sB RB head hadNext N1 he hQ1
  refine Qb (wpAny_frameOf_fun (base := {}) (by rw [hA.frames, hfr]) (by have := RB.fun; rw [hfr] at this; exact this) hL λ h₁ hsB => ?_)
  rw [<- hstk] at hsB
  have N2 : ExcN c F n φ sB.heap h₁ := ExcN.slots RB hsB
  have RC : Rep c F φ μ { sB with heap := h₁ } := RB.side (tk := sB.toks) N2.side
  have he2 : h₁.get? ea = some oe := (hsB.2.1 ea λ hm => by
   obtain ⟨_, _, o, _, _, ho, hd⟩ := RB.stkAt hm
   rw [he] at ho; cases ho; rw [h4] at hd; cases hd).trans he
  refine Qb (wpAny_entryPlaceOf λ pl hpl => ?_)
  unfold EntryCells.newEntry newFields
  refine Qb (wpAny_newObj_type ?_ (hpl.sizeOk5 _ _ _ _ _))
  have he3 := Heap.get?_push_of_some (h := h₁) { cls := .type "traceback", dict := none, data := .fields ([head, .ref L, .none, rawInt L, .none] ++ (if pl.isEmpty then List.replicate 6 Value.none else pl)).toArray } he2
  refine wpAny_setField he3 h4 (by lia) ?_
  have R3 : Rep c F φ μ { sB with heap := h₁.push { cls := .type "traceback", dict := none, data := .fields ([head, .ref L, .none, rawInt L, .none] ++ (if pl.isEmpty then List.replicate 6 Value.none else pl)).toArray } } := RC.side (tk := sB.toks) (Side.push (s := { sB with heap := h₁ }))
  have N3 : ExcN c F n φ sB.heap (h₁.push { cls := .type "traceback", dict := none, data := .fields ([head, .ref L, .none, rawInt L, .none] ++ (if pl.isEmpty then List.replicate 6 Value.none else pl)).toArray }) := N2.trans RB (ExcN.push (s := { sB with heap := h₁ }))
  have sb := Heap.SameBut.update (h₁.push { cls := .type "traceback", dict := none, data := .fields ([head, .ref L, .none, rawInt L, .none] ++ (if pl.isEmpty then List.replicate 6 Value.none else pl)).toArray }) ea (Obj.mapFields (·.setIfInBounds 1 (Value.ref h₁.objs.size)))
  have N4 := N3.trans RB (ExcN.one (s := { sB with heap := h₁.push { cls := .type "traceback", dict := none, data := .fields ([head, .ref L, .none, rawInt L, .none] ++ (if pl.isEmpty then List.replicate 6 Value.none else pl)).toArray } }) (F := F) (c := c) (φ := φ) (n := n) he3 hz h4 h6 h7 h8 ⟨_, Heap.get?_update_self _ he3 (Obj.isFreed_of_fields (Obj.data_mapFields h4 _))⟩ sb)
  have hTe : h₁.objs.size ≠ ea := Nat.ne_of_gt (Heap.lt_size he2)
  have hd4 := Obj.data_mapFields h4 (·.setIfInBounds 1 (Value.ref h₁.objs.size))
  refine hQ1 _ (N1.trans R N4) ⟨ea, _, _, h₁.objs.size, _, _, rfl, Heap.get?_update_self _ he3 (Obj.isFreed_of_fields hd4), (Obj.cls_mapFields _ _).trans h3, ?_, hd4, by simpa using h5, h6, h7, h8, ?_, hTe, ?_, ?_, ?_, (sb.2 _ hTe).trans (Heap.get?_push_size _ rfl), rfl, rfl, Zow⟩
  rotate_left
  ·show (vs.setIfInBounds 1 (Value.ref h₁.objs.size))[1]? = some (Value.ref h₁.objs.size)
   have : 1 < vs.size := by lia
   simp [this]
  rotate_right
  ·rintro ⟨q1, q2⟩
   refine hz ⟨?_, ?_⟩
   ·rw [Obj.cls_mapFields] at q1; exact q1
   ·exact .inr ⟨_, h4⟩
  ·intro hm
   exact absurd (RC.phiLt hm) (Nat.lt_irrefl _)
  ·cases q : c.B.get? h₁.objs.size with
   | none => rfl
   | some o => exact absurd (Heap.lt_size (RC.keep _ o q)) (Nat.lt_irrefl _)
  ·intro q
   obtain ⟨oq, hq⟩ := hn _ q
   exact absurd (Heap.lt_size hq) (Nat.not_lt_of_le (Nat.le_trans N1.side.size N2.side.size))
 unfold noteFrame
 simp only [hL]
 rcases h9 with h9 | ⟨T, oT, ts, a1, a2, a3, a4, a5, a6, a7, a8, a9⟩
 ·refine Qb (wpAny_field h2 h4 h9 ?_)
  rw [if_neg (by decide)]
  exact entry s R _ _ ⟨⟨Qr, λ _ _ h => .inl h⟩, λ _ x => x⟩ h2 hQ
 ·refine Qb (wpAny_field h2 h4 a1 ?_)
  rw [if_pos (show (Value.ref T != Value.none) = true from by simp)]
  obtain ⟨x3, hx3⟩ : ∃ x3, ts[3]? = some x3 := ⟨_, Array.getElem?_eq_getElem a9⟩
  refine Qb (wpAny_field a6 a8 hx3 ?_)
  cases hq : (x3 == rawInt L) with
  | true =>
   rw [if_pos rfl]
   exact Qp (hQ _ ⟨⟨Qr, λ _ _ h => .inl h⟩, λ _ x => x⟩ ⟨ea, oe, vs, T, oT, ts, rfl, h2, h3, hz, h4, h5, h6, h7, h8, a1, a2, a3, a4, a5, a6, a7, a8, a9⟩)
  | false =>
   rw [if_neg Bool.false_ne_true]
   have hzT : ¬ FzO oT := Zb4 a7 (by decide) (by decide) (by decide) (by decide)
   refine Qb (wpAny_setField a6 a8 a9 ?_)
   have sb := Heap.SameBut.update s.heap T (Obj.mapFields (·.setIfInBounds 3 Value.none))
   have N1 : ExcN c F n φ s.heap (s.heap.update T (Obj.mapFields (·.setIfInBounds 3 Value.none))) := ExcN.one a6 hzT a8 a3 a4 a5 ⟨_, Heap.get?_update_self _ a6 (Obj.isFreed_of_fields (Obj.data_mapFields a8 _))⟩ sb
   exact entry { s with heap := s.heap.update T (Obj.mapFields (·.setIfInBounds 3 Value.none)) } (R.side (tk := s.toks) N1.side) _ _ N1 ((sb.2 ea (Ne.symm a2)).trans h2) hQ
theorem Zb5 {A : Around} {n : Addr -> Prop} {e x : Value} {fl : Option Addr} {E : Value -> Shared -> Prop} {Q : Unit -> Shared -> Prop} (R : Rep c F φ μ s) (hx : ExcT c n φ s.heap e x)
  (hQ : ∀ h', ExcN c F n φ s.heap h' -> ExcT c n φ h' e x -> Q () { s with heap := h' }) : wpAny (model c.prog c.w) A (setFlight e fl) Q E s := by
 obtain ⟨ea, oe, vs, T, oT, ts, rfl, h2, h3, hz, h4, h5, h6, h7, h8, a1, a2, a3, a4, a5, a6, a7, a8, a9⟩ := hx
 have hzT : ¬ FzO oT := Zb4 a7 (by decide) (by decide) (by decide) (by decide)
 unfold setFlight
 refine Qb (wpAny_field h2 h4 a1 ?_)
 rw [if_pos (show (Value.ref T != Value.none) = true from by simp)]
 refine wpAny_setField a6 a8 a9 ?_
 have sb := Heap.SameBut.update s.heap T (Obj.mapFields (·.setIfInBounds 3 (fl.elim Value.none λ f => rawInt f)))
 have hd4 := Obj.data_mapFields a8 (·.setIfInBounds 3 (fl.elim Value.none λ f => rawInt f))
 exact hQ _ (ExcN.one a6 hzT a8 a3 a4 a5 ⟨_, Heap.get?_update_self _ a6 (Obj.isFreed_of_fields hd4)⟩ sb) ⟨ea, oe, vs, T, _, _, rfl, (sb.2 ea (Ne.symm a2)).trans h2, h3, hz, h4, h5, h6, h7, h8, a1, a2, a3, a4, a5, Heap.get?_update_self _ a6 (Obj.isFreed_of_fields hd4), (Obj.cls_mapFields _ _).trans a7, hd4, by simpa using a9⟩
end

theorem Zdq {M : Model} {Γ : Ctx} {p : Pos} {t : Sem Fin} {fs : List Frame} {s s' : Shared} {e : End} (h : Runs M Γ p t fs s e s') : s.heap.objs.size <= s'.heap.objs.size := by
 induction h <;> (try simp only [Shared.setGen, Heap.size_after_update, Heap.size_push] at *) <;> lia
theorem Zh7 {M : Model} {Γ : Ctx} {p : Pos} {s s' : Shared} {r : Result} (h : Returns M Γ p s r s') : s.heap.objs.size <= s'.heap.objs.size := Zdq h
theorem Zl6 {M : Model} {Γ : Ctx} {p : Pos} {g : Nat} {r : Resume} {s s' : Shared} {res : GenResult} (h : Wakes M Γ p g r s res s') : s.heap.objs.size <= s'.heap.objs.size := by
 unfold Wakes at h
 split at h
 ·exact h.elim
 ·split at h
  ·obtain ⟨eB, sB, hr, _, _, rfl⟩ := h; exact (Zdq hr : (s.setGen g .running).heap.objs.size <= sB.heap.objs.size)
  ·rw [h.2]; exact Qr
  ·rw [h.2]; exact Qr
 ·obtain ⟨eB, sB, hr, _, _, rfl⟩ := h; exact (Zdq hr : (s.setGen g .running).heap.objs.size <= sB.heap.objs.size)
 ·rw [h.2]; exact Qr
 ·rw [h.2]; exact Qr
theorem Zql {α : Type} (M : Model) (Γ : Ctx) (n : Nat) (t : Sem α) : ∀ (Q : α -> Pos -> Shared -> Prop) (E : Value -> Pos -> Shared -> Prop) (p : Pos) (s : Shared), n <= s.heap.objs.size -> Sem.wp M Γ t Q E p s ->
  Sem.wp M Γ t (λ a p' s' => n <= s'.heap.objs.size ∧ Q a p' s') (λ e p' s' => n <= s'.heap.objs.size ∧ E e p' s') p s := by
 induction t with
 | pure a => intro Q E p s hn h; exact ⟨hn, h⟩
 | raise e => intro Q E p s hn h; exact ⟨hn, h⟩
 | unsupported _ => intro Q E p s _ h; exact h
 | finish _ => intro Q E p s _ h; exact h
 | rule _ k ih => intro Q E p s hn h; exact ih () Q E p s hn h
 | «at» p' k ih => intro Q E p s hn h; exact ih () Q E p' s hn h
 | load a _ k ih => intro Q E p s hn h; obtain ⟨o, ho, h⟩ := h; exact ⟨o, ho, ih o Q E p s hn h⟩
 | update a _ f k ih => intro Q E p s hn h; exact ⟨h.1, ih () Q E p _ (by rw [Heap.size_after_update]; exact hn) h.2⟩
 | loadIfAlive a k ih => intro Q E p s hn h; exact ih _ Q E p s hn h
 | point _ k ih => intro Q E p s hn h; exact ih () Q E p s hn h
 | register _ _ => intro Q E p s _ h; exact h
 | alloc o k ih => intro Q E p s hn h; exact ih _ Q E p _ (by rw [Heap.size_push]; exact Nat.le_succ_of_le hn) h
 | fresh k ih => intro Q E p s hn h; exact ih _ Q E p _ hn h
 | ask k ih => intro Q E p s hn h; exact ih _ Q E p s hn h
 | choose src m k ih => intro Q E p s hn h; exact ⟨h.1, ih _ Q E p _ hn h.2⟩
 | os q _ k ih => intro Q E p s hn h; exact ih _ Q E p _ hn h
 | call c hd _ _ k ih => intro Q E p s hn h; obtain ⟨r, s', hr, h⟩ := h; exact ⟨r, s', hr, ih r Q E p s' (Nat.le_trans hn (Zh7 hr)) h⟩
 | handled own k ih => intro Q E p s hn h; exact ih _ Q E p s hn h
 | genState g k ih => intro Q E p s hn h; obtain ⟨st, hs, h⟩ := h; exact ⟨st, hs, ih _ Q E p s hn h⟩
 | newGen c k ih => intro Q E p s hn h; exact ih _ Q E p _ hn h
 | resume g r _ k ih => intro Q E p s hn h; obtain ⟨res, s', hw, h⟩ := h; exact ⟨res, s', hw, ih res Q E p s' (Nat.le_trans hn (Zl6 hw)) h⟩
 | yield _ _ _ _ => intro Q E p s _ h; exact h
 | stack k ih => intro Q E p s hn h; exact ih _ Q E p s hn h
 | fork _ _ => intro Q E p s _ h; exact h
 | thread k ih => intro Q E p s hn h; exact ih _ Q E p s hn h
 | await _ _ _ _ _ => intro Q E p s _ h; exact h
theorem Z8 {α : Type} {M : Model} {A : Around} {s : Shared} {t : Sem α} {Q : α -> Shared -> Prop} {E : Value -> Shared -> Prop}
  (h : wpAny M A t (λ a s' => s.heap.objs.size <= s'.heap.objs.size -> Q a s') (λ e s' => s.heap.objs.size <= s'.heap.objs.size -> E e s') s) : wpAny M A t Q E s :=
 λ Γ p hΓ => Sem.wp_mono M Γ t (λ _ _ _ x => x.2 x.1) (λ _ _ _ x => x.2 x.1) _ _ (Zql M Γ _ t _ _ p s Qr (h Γ p hΓ))
section
variable {c : Cx} {F : Fx}
theorem Znm {A : Around} {n : Addr -> Prop} {φ : List Addr} {μ : St} {s : Shared} {e x : Value} {E : Value -> Shared -> Prop} (R : Rep c F φ μ s) (hx : ExcT c n φ s.heap e x)
  (hE : ∀ h', ExcN c F n φ s.heap h' -> ExcT c n φ h' e x -> E e { s with heap := h' }) : cameBackBy (model c.prog c.w) A F.env E e s := by
 unfold cameBackBy
 obtain ⟨ea, oe, vs, T, oT, ts, rfl, h2, h3, hz, h4, h5, h6, h7, h8, a1, r⟩ := id hx
 refine Qb (wpAny_field h2 h4 a1 ?_)
 rw [if_neg (show ¬ ((Value.ref T == Value.none) = true) from by simp)]
 exact Zb5 R hx hE
theorem Zox {A : Around} {n : Addr -> Prop} {φ : List Addr} {μ : St} {s : Shared} {e x : Value} {outer : List Env} {E : Value -> Shared -> Prop} (hA : ACtx F A) (hfr : F.frames = F.env :: outer) (R : Rep c F φ μ s) (hx : ExcR c n φ s.heap e x) (hn : ∀ a, n a -> dom s.heap a)
  (hE : ∀ h', ExcN c F n φ s.heap h' -> ExcT c n φ h' e x -> E e { s with heap := h' }) : notedBy (model c.prog c.w) A F.env E e s := Zfo hA R hfr hx hE hn
theorem Zh8 {A : Around} {φ φ0 : List Addr} {h₀ : Heap} {μ : St} {s : Shared} {e x : Value} {outer : List Env} {E : Value -> Shared -> Prop} (hA : ACtx F A) (hfr : F.frames = F.env :: outer) (R : Rep c F φ μ s) (hx : ExcR c (dom h₀) φ s.heap e x)
  (xA : Ext F.nss F.cls φ0 h₀ φ s.heap) (hE : ∀ s', Rep c F φ μ s' -> Ext F.nss F.cls φ0 h₀ φ s'.heap -> ExcR c (dom h₀) φ s'.heap e x -> E e s') :
  notedBy (model c.prog c.w) A F.env (λ e s' => cameBackBy (model c.prog c.w) A F.env E e s') e s :=
 Zox hA hfr R hx xA.dom λ h₁ N1 TB => Znm (s := { s with heap := h₁ }) (R.side (tk := s.toks) N1.side) TB λ h₂ N2 TC =>
  hE { s with heap := h₂ } ((R.side (tk := s.toks) N1.side).side (tk := s.toks) N2.side) (N2.ext (λ _ q => q) (N1.ext (λ _ q => q) xA)) TC.r
theorem Zdr {test : Expr} {body orelse : List Stmt} {pos : Pos} {outer : List Env} {t : PM Bool} {f g : PM MF} (hfr : F.frames = F.env :: outer) (n : Nat) (ht : SimB c F test t) (hb : SimSS c F body f) (he : SimSS c F orelse g) :
  SimS c F (.While test body orelse pos) (whileM t f g n) := by
 intro A φ μ s Q E hA R p
 refine gen λ O hO hbad hQ hE => ?_
 refine wpAny_While ?_
 refine codeAny_whileLoop (λ m s' => ∃ φ' μ', Rep c F φ' μ' s' ∧ Ext F.nss F.cls φ s.heap φ' s'.heap ∧ whileM t f g m μ' = O) ?_ n ⟨φ, μ, R, Ext.refl, hO⟩
 rintro m sB ⟨φ1, μ1, RB, xB, eB⟩
 cases m with
 | zero => exact (hbad eB.symm).elim
 | succ m =>
  rw [Zda] at eB
  have exc : ∀ e x φ' μ' s', O = .exc x μ' -> Rep c F φ' μ' s' -> Ext F.nss F.cls φ s.heap φ' s'.heap -> ExcR c (dom s.heap) φ' s'.heap e x -> notedBy (model c.prog c.w) A F.env (λ e s' => cameBackBy (model c.prog c.w) A F.env E e s') e s' :=
   λ e x φ' μ' s' ho R' x' r => Zh8 hA hfr R' r x' λ s'' R'' x'' r'' => hE e x φ' μ' s'' ho R'' x'' r''
  refine ht.use hA RB trivial (by rw [eB]; exact hbad) (λ e x φ' μ' s' ho R' x' r => exc e x φ' μ' s' (eB.symm.trans ho) R' (xB.trans x') (r.le xB.dom)) λ a b φ2 μ2 sC eg RC x2 rC => ?_
  subst rC
  rw [eg] at eB
  have x12 := xB.trans x2
  cases a with
  | true =>
   simp only [if_true] at eB ⊢
   refine hb.use hA RC trivial (by rw [eB]; exact hbad) (λ e x φ' μ' s' ho R' x' r => exc e x φ' μ' s' (eB.symm.trans ho) R' (x12.trans x') (r.le x12.dom)) λ a b φ3 μ3 sD eg R3 xD r3 => ?_
   rw [eg] at eB
   have x13 := x12.trans xD
   induction r3 using FR.cs with
   | next => exact ⟨m, Nat.lt_succ_self _, φ3, μ3, R3, x13, eB⟩
   | cont => exact ⟨m, Nat.lt_succ_self _, φ3, μ3, R3, x13, eB⟩
   | brk => exact hQ _ _ φ3 μ3 sD eB.symm R3 x13 .next
   | ret r => exact hQ _ _ φ3 μ3 sD eB.symm R3 x13 (.ret r)
  | false =>
   simp only [Bool.false_eq_true, if_false] at eB ⊢
   refine he A φ2 μ2 sC _ _ hA RC trivial (by rw [eB]; exact hbad) (λ a b φ3 μ3 sD eD R3 xD r3 => hQ a b φ3 μ3 sD (eB.symm.trans eD) R3 (x12.trans xD) r3) λ e x φ' μ' s' ho R' x' r => exc e x φ' μ' s' (eB.symm.trans ho) R' (x12.trans x') (r.le x12.dom)
end

structure ItP (c : Cx) (F : Fx) (it : Addr) (ob : Nat -> Obj -> Prop) (v : Value) (pv : PV) (get : Nat -> St -> Option (Option PV)) : Prop where
 data : ∀ k o, ob k o -> (∃ vs, o.data = .fields vs) ∧ ¬ FzO o
 next : ∀ (k : Nat) (A : Around) (φ : List Addr) (μ : St) (s : Shared) (Q : Option Value -> Shared -> Prop) (E : Value -> Shared -> Prop), ACtx F A -> Rep c F φ μ s -> (∃ o, s.heap.get? it = some o ∧ ob k o) -> VR φ s.heap v pv ->
  (get k μ = some none -> ∀ h' tk, Heap.ExtBut it s.heap h' -> Q none { s with heap := h', toks := tk }) ->
  (∀ x, get k μ = some (some x) -> ∀ w h' tk, (∃ o, h'.get? it = some o ∧ ob (k + 1) o) -> Heap.ExtBut it s.heap h' -> VR φ h' w x -> Q (some w) { s with heap := h', toks := tk }) ->
  get k μ ≠ none -> wpAny (model c.prog c.w) A (pyNext (.ref it)) Q E s
noncomputable def forIx (get : Nat -> St -> Option (Option PV)) (asg : PV -> PM Unit) (body : PM MF) : Nat -> Nat -> PM MF
 | 0, _ => PM.H
 | n + 1, k => λ μ => match get k μ with
  | none => .bad
  | some none => .ok .next μ
  | some (some x) => (asg x >>= λ _ => body >>= flowM (forIx get asg body n (k + 1))) μ
theorem Zex {get : Nat -> St -> Option (Option PV)} {asg : PV -> PM Unit} {body : PM MF} {n k : Nat} : forIx get asg body (n + 1) k = λ μ => match get k μ with | none => .bad | some none => .ok .next μ | some (some x) => (asg x >>= λ _ => body >>= flowM (forIx get asg body n (k + 1))) μ := rfl
section
variable {c : Cx} {F : Fx}
theorem Side.extBut {φ : List Addr} {s : Shared} {h' : Heap} {it : Addr} {o : Obj} (ho : s.heap.get? it = some o) (hz : ¬ FzO o) (hd : ∃ vs, o.data = .fields vs) (hn : it ∉ φ) (hb : c.B.get? it = none) (hs : Heap.ExtBut it s.heap h') (size : s.heap.objs.size <= h'.objs.size) : Side c F φ s.heap h' := by
 refine ⟨size, λ a oa ha => ?_⟩
 by_cases e : a = it
 ·subst e
  rw [ho] at ha; cases ha
  exact .inr (.inr ⟨hz, hd, hn, hb⟩)
 ·exact .inl (hs a oa e ha)
noncomputable def goQ (c : Cx) (A : Around) (target : Expr) (it : Addr) (Q : Shared -> Prop) (Q' : Value -> Shared -> Prop) (E : Value -> Shared -> Prop) : Option Value -> Shared -> Prop
 | none, s => Q s
 | some w, s => wpAny (model c.prog c.w) A (letOwnedTupleGo target (.ref it) w) (λ _ s => Q' w s) E s
structure TnP (c : Cx) (F : Fx) (target : Expr) (it : Addr) (ob : Nat -> Obj -> Prop) (v : Value) (pv : PV) (get : Nat -> St -> Option (Option PV)) : Prop where
 data : ∀ k o, ob k o -> (∃ vs, o.data = .fields vs) ∧ ¬ FzO o
 turn : ∀ (k : Nat) (A : Around) (φ : List Addr) (μ : St) (s : Shared) (Q : Shared -> Prop) (Q' : Value -> Shared -> Prop) (E : Value -> Shared -> Prop), ACtx F A -> Rep c F φ μ s -> (∃ o, s.heap.get? it = some o ∧ ob k o) -> VR φ s.heap v pv ->
  (get k μ = some none -> ∀ h' tk, Heap.ExtBut it s.heap h' -> s.heap.objs.size <= h'.objs.size -> Q { s with heap := h', toks := tk }) ->
  (∀ x, get k μ = some (some x) -> ∀ w h' tk, (∃ o, h'.get? it = some o ∧ ob (k + 1) o) -> Heap.ExtBut it s.heap h' -> VR φ h' w x -> s.heap.objs.size <= h'.objs.size -> Q' w { s with heap := h', toks := tk }) ->
  get k μ ≠ none -> wpAny (model c.prog c.w) A (pyNext (.ref it)) (goQ c A target it Q Q' E) E s
theorem ItP.turns {target : Expr} {it : Addr} {ob : Nat -> Obj -> Prop} {v : Value} {pv : PV} {get : Nat -> St -> Option (Option PV)} (hI : ItP c F it ob v pv get) (hlet : ∀ k w (A : Around) (s : Shared) (Q : Unit -> Shared -> Prop) (E : Value -> Shared -> Prop), (∃ o, s.heap.get? it = some o ∧ ob k o) -> Q () s -> wpAny (model c.prog c.w) A (letOwnedTupleGo target (.ref it) w) Q E s) : TnP c F target it ob v pv get :=
 ⟨hI.data, λ k A φ μ s Q Q' E hA R hit hr hn hi hb => Z8 (hI.next k A φ μ s _ _ hA R hit hr (λ hg h' tk hs size => hn hg h' tk hs size) (λ x hg w h' tk hit' hs hw size => hlet (k + 1) w A _ _ _ hit' (hi x hg w h' tk hit' hs hw size)) hb)⟩
structure FI (c : Cx) (F : Fx) (it : Addr) (ob : Nat -> Obj -> Prop) (v : Value) (pv : PV) {β : Type} (f : Nat -> PM β) (O : Out β) (φ0 : List Addr) (h₀ : Heap) (k : Nat) (φ : List Addr) (μ : St) (s : Shared) : Prop where
 R : Rep c F φ μ s
 x : Ext F.nss F.cls φ0 h₀ φ s.heap
 hit : ∃ o, s.heap.get? it = some o ∧ ob k o
 nin : it ∉ φ
 hv : VR φ s.heap v pv
 eq : f k μ = O
theorem FI.step {it : Addr} {ob : Nat -> Obj -> Prop} {v : Value} {pv : PV} (hI : ∀ k o, ob k o -> (∃ vs, o.data = .fields vs) ∧ ¬ FzO o) {β : Type} {f : Nat -> PM β} {O : Out β} {φ0 : List Addr} {h₀ : Heap} {k : Nat} {φ : List Addr} {μ : St} {s : Shared}
  (I : FI c F it ob v pv f O φ0 h₀ k φ μ s) (hnew : h₀.objs.size <= it) (hitB : c.B.get? it = none) {h' : Heap} {tk : Nat} (hs : Heap.ExtBut it s.heap h') (size : s.heap.objs.size <= h'.objs.size) :
  Rep c F φ μ { s with heap := h', toks := tk } ∧ Ext F.nss F.cls φ0 h₀ φ h' ∧ (∀ w x, VR φ s.heap w x -> VR φ h' w x) := by
 obtain ⟨oB, hio1, hob1⟩ := I.hit
 obtain ⟨hdt, hz⟩ := hI k oB hob1
 have S : Side c F φ s.heap _ := Side.extBut hio1 hz hdt I.nin hitB hs size
 refine ⟨I.R.side S, I.x.after size (λ a o ho => ?_) (λ a hd ⟨o, ho⟩ => ?_), λ w x r => S.mv I.R r⟩
 ·by_cases e : a = it
  ·exact .inr (.inr λ ⟨oq, hq⟩ => absurd (Heap.lt_size hq) (Nat.not_lt_of_le (e ▸ hnew)))
  ·exact .inl (hs a o e ho)
 ·by_cases e : a = it
  ·obtain ⟨oq, hq⟩ := hd
   exact absurd (Heap.lt_size hq) (Nat.not_lt_of_le (e ▸ hnew))
  ·exact ⟨o, hs a o e ho⟩
theorem FI.hold {it : Addr} {ob : Nat -> Obj -> Prop} (hI : ∀ k o, ob k o -> (∃ vs, o.data = .fields vs) ∧ ¬ FzO o) {k : Nat} {φ φ' : List Addr} {μ : St} {s s' : Shared} (R : Rep c F φ μ s) (hit : ∃ o, s.heap.get? it = some o ∧ ob k o) (nin : it ∉ φ)
  (x : Ext F.nss F.cls φ s.heap φ' s'.heap) : (∃ o, s'.heap.get? it = some o ∧ ob k o) ∧ it ∉ φ' := by
 obtain ⟨oC, hio2, hob2⟩ := hit
 obtain ⟨⟨vs, hvs⟩, hz⟩ := hI k oC hob2
 have hown := R.notOwn hio2 (.inr ⟨vs, hvs⟩)
 refine ⟨?_, x.nin hio2 nin⟩
 rcases x.old it _ hio2 nin hown.1 hown.2 with q | ⟨⟨es, ep, q⟩, _⟩
 ·exact ⟨oC, q, hob2⟩
 ·rw [hvs] at q; cases q
theorem Zkg {target : Expr} {body : List Stmt} {outer : List Env} {it : Addr} {ob : Nat -> Obj -> Prop} {v : Value} {pv : PV} {get : Nat -> St -> Option (Option PV)} {asg : PV -> PM Unit} {g : PM MF} (hfr : F.frames = F.env :: outer)
  (hI : TnP c F target it ob v pv get)
  (hasg : ∀ w x, Sim c F (λ φ h => VR φ h w x) (λ _ _ _ _ => True) (assign target F.env w) (asg x)) (hbody : SimSS c F body g)
  {A : Around} {φ0 φ : List Addr} {s0 : Shared} {μ : St} {s : Shared} {Q : Flow -> Shared -> Prop} {E : Value -> Shared -> Prop} (hA : ACtx F A) (n k : Nat) {O : Out MF} (I : FI c F it ob v pv (forIx get asg g n) O φ0 s0.heap k φ μ s)
  (hnew : s0.heap.objs.size <= it) (hitB : c.B.get? it = none) (hbad : O ≠ .bad) (hQ : OkK c F FR φ0 s0 Q O) (hE : ExK c F φ0 s0 E O) :
  codeAny (model c.prog c.w) A (.forLoop target (.ref it) body [] F.env) (λ r s' => match r with | .ok f => Q f s' | .error e => cameBackBy (model c.prog c.w) A F.env E e s') s := by
 refine codeAny_forLoop_any (λ m s' => ∃ k' φ' μ', FI c F it ob v pv (forIx get asg g m) O φ0 s0.heap k' φ' μ' s') ?_ n ⟨k, φ, μ, I⟩
 rintro m sB ⟨kB, φ1, μ1, I⟩
 cases m with
 | zero => exact (hbad I.eq.symm).elim
 | succ m =>
  have eB := I.eq
  rw [Zex] at eB
  dsimp only at eB
  refine wpAny_mono (hI.turn kB A φ1 μ1 sB _ _ _ hA I.R I.hit I.hv (λ hg h' tk hs size => ?_) (λ x hg w h' tk hit' hs hw size => ?_) (λ hg => hbad (by rw [<- eB, hg]))) (λ r s h => by cases r <;> exact h) λ _ _ h => h
  ·obtain ⟨RC, x2, _⟩ := I.step hI.data hnew hitB (tk := tk) hs size
   refine wpAny_execs_nil ?_
   rw [hg] at eB
   exact hQ _ _ _ _ _ eB.symm RC x2 .next
  ·obtain ⟨RC, x2, mv⟩ := I.step hI.data hnew hitB (tk := tk) hs size
   rw [hg] at eB
   dsimp only at eB
   have nin := I.nin
   have hv2 := mv _ _ I.hv
   clear mv
   clear I
   have exc : ∀ e y φ' μ' s', O = .exc y μ' -> Rep c F φ' μ' s' -> Ext F.nss F.cls φ0 s0.heap φ' s'.heap -> ExcR c (dom s0.heap) φ' s'.heap e y -> notedBy (model c.prog c.w) A F.env (λ e s' => cameBackBy (model c.prog c.w) A F.env E e s') e s' :=
    λ e y φ' μ' s' ho R' x' r => Zh8 hA hfr R' r x' λ s'' R'' x'' r'' => hE e y φ' μ' s'' ho R'' x'' r''
   refine (hasg w x).use hA RC hw (by rw [eB]; exact hbad) (λ e y φ' μ' s' ho R' x' r => exc e y φ' μ' s' (eB.symm.trans ho) R' (x2.trans x') (r.le x2.dom)) λ a b φ3 μ3 sD eg R3 xD _ => ?_
   rw [eg] at eB
   refine hbody.use hA R3 trivial (by rw [eB]; exact hbad) (λ e y φ' μ' s' ho R' x' r => exc e y φ' μ' s' (eB.symm.trans ho) R' (x2.trans (xD.trans x')) (r.le (x2.trans xD).dom)) λ a b φ4 μ4 s4 eg R4 x4 r4 => ?_
   rw [eg] at eB
   have hv4 : VR φ4 s4.heap v pv := (hv2.ext RC xD).ext R3 x4
   obtain ⟨h4, n4⟩ := FI.hold hI.data RC hit' nin (xD.trans x4)
   have x24 := x2.trans (xD.trans x4)
   induction r4 using FR.cs with
   | next => exact ⟨m, Nat.lt_succ_self _, kB + 1, φ4, μ4, R4, x24, h4, n4, hv4, eB⟩
   | cont => exact ⟨m, Nat.lt_succ_self _, kB + 1, φ4, μ4, R4, x24, h4, n4, hv4, eB⟩
   | brk => exact hQ _ _ φ4 μ4 s4 eB.symm R4 x24 .next
   | ret r => exact hQ _ _ φ4 μ4 s4 eB.symm R4 x24 (.ret r)
end

section
variable {c : Cx} {F : Fx}
noncomputable def getO (o0 o : Option MO) (k : Nat) : Option (Option PV) := match o0 with
 | some (.lst _) => (match o with
  | some (.lst xs) => some xs[k]?
  | _ => none)
 | some (.dct es0 ep0) => (match o with
  | some (.dct es ep) => if es.length = es0.length ∧ ep = ep0 then some ((es[k]?).map λ e => .int e.1) else none
  | _ => none)
 | _ => none
noncomputable def getOf (pv : PV) (μ0 : St) (k : Nat) (μ : St) : Option (Option PV) := match pv with
 | .lst xs => some xs[k]?
 | .tup xs => some xs[k]?
 | .rng a b st => if Builtin.Range.small a b st then (if (k : Int) < Builtin.Range.rangeSize a b st then some (some (.int (a + k * st))) else some none) else none
 | .obj i => getO μ0.hp[i]? μ.hp[i]? k
 | _ => none
theorem Zbw {o : Obj} {n : String} (h : o.cls = .type n) (h1 : n ≠ "tuple") (h2 : n ≠ "list") (h3 : n ≠ "range") (h4 : n ≠ "method-wrapper") (h5 : n ≠ "dict_values" := by decide) : ¬ FzO o := Zb4 h h1 h2 h3 h4 h5
theorem Zh9 {l : Addr} {pv : PV} {it : Addr} {get : Nat -> St -> Option (Option PV)}
  (hg : ∀ φ μ s k, Rep c F φ μ s -> VR φ s.heap (.ref l) pv -> get k μ ≠ none -> ∃ vs xs, s.heap.IsList l vs.toArray ∧ VRs φ s.heap vs xs ∧ get k μ = some xs[k]?) (hl : it ≠ l ∨ True) (hh : F.hd = true) :
  ItP c F it (λ k o => o.cls = .type "list_iterator" ∧ o.data = .fields #[.ref l, .int k 0]) (.ref l) pv get := by
 refine ⟨λ k o h => ⟨⟨_, h.2⟩, Zbw h.1 (by decide) (by decide) (by decide) (by decide)⟩, λ k A φ μ s Q E hA R hit hv hn hi hb => ?_⟩
 obtain ⟨o, ho, hc, hd⟩ := hit
 obtain ⟨vs, xs, hL, hvs, hget⟩ := hg φ μ s k R hv hb
 cases hx : xs[k]? with
 | none =>
  have : vs[k]? = none := by
   rw [List.getElem?_eq_none_iff] at hx ⊢
   rw [hvs.length]; exact hx
  exact wpAny_pyNext_list_end (hA.handled hh) ⟨o, ho, hc, hd⟩ hL (by simpa using this) λ h' hs => hn (by rw [hget, hx]) h' s.toks hs
 | some x =>
  obtain ⟨w, hw, hr⟩ := hvs.get hx
  refine wpAny_pyNext_list_item ⟨o, ho, hc, hd⟩ hL (by simpa using hw) λ h' hit' hs => hi x (by rw [hget, hx]) w h' s.toks ?_ hs.extBut ?_
  ·obtain ⟨o', ho', hc', hd'⟩ := hit'
   exact ⟨o', ho', hc', hd'⟩
  ·refine hr.move (λ _ _ e => e) (λ _ _ _ h => h) λ a oa ha _ hz => (hs.2 a λ e => ?_).trans ha
   subst e
   rw [ho] at ha; cases ha
   exact Zbw hc (by decide) (by decide) (by decide) (by decide) (by decide) hz
theorem Znn {l : Addr} {xs : List PV} {it : Addr} (hh : F.hd = true) :
  ItP c F it (λ k o => o.cls = .type "tuple_iterator" ∧ o.data = .fields #[.ref l, .int k 0]) (.ref l) (.tup xs) (λ k _ => some xs[k]?) := by
 refine ⟨λ k o h => ⟨⟨_, h.2⟩, Zbw h.1 (by decide) (by decide) (by decide) (by decide)⟩, λ k A φ μ s Q E hA R hit hv hn hi hb => ?_⟩
 obtain ⟨o, ho, hc, hd⟩ := hit
 obtain ⟨vs, n, h1, h4, hvs⟩ := hv.inv_tup rfl rfl
 ·
  cases hx : xs[k]? with
  | none =>
   have : vs[k]? = none := by
    rw [List.getElem?_eq_none_iff] at hx ⊢
    rw [hvs.length]; exact hx
   exact wpAny_pyNext_tuple_end (hA.handled hh) ⟨o, ho, hc, hd⟩ ⟨_, h1, rfl, _, rfl⟩ (by simpa using this) λ h' hs => hn (by rw [hx]) h' s.toks hs
  | some x =>
   obtain ⟨w, hw, hr⟩ := hvs.get hx
   refine wpAny_pyNext_tuple_item ⟨o, ho, hc, hd⟩ ⟨_, h1, rfl, _, rfl⟩ (by simpa using hw) λ h' hit' hs => hi x (by rw [hx]) w h' s.toks ?_ hs.extBut ?_
   ·obtain ⟨o', ho', hc', hd'⟩ := hit'
    exact ⟨o', ho', hc', hd'⟩
   ·refine hr.move (λ _ _ e => e) (λ _ _ _ h => h) λ a oa ha _ hz => (hs.2 a λ e => ?_).trans ha
    subst e
    rw [ho] at ha; cases ha
    exact Zbw hc (by decide) (by decide) (by decide) (by decide) (by decide) hz
theorem Zno {r : Addr} {a b st : Int} {it : Addr} {v : Value} {pv : PV} (hh : F.hd = true) :
  ItP c F it (λ k o => o = { cls := .type "range_iterator", dict := none, data := .fields #[rawInt (a + k * st), rawInt (Builtin.Range.rangeSize a b st - k), rawInt st], slots := #[] }) v pv
   (λ k _ => if (k : Int) < Builtin.Range.rangeSize a b st then some (some (.int (a + k * st))) else some none) := by
 refine ⟨λ k o h => by subst h; exact ⟨⟨_, rfl⟩, Zbw (n := "range_iterator") rfl (by decide) (by decide) (by decide) (by decide)⟩, λ k A φ μ s Q E hA R hit hv hn hi hb => ?_⟩
 obtain ⟨o, ho, rfl⟩ := hit
 by_cases hk : (k : Int) < Builtin.Range.rangeSize a b st
 ·refine wpAny_pyNext_range_item ho (by lia) λ h' hit' hs => hi (.int (a + k * st)) (by rw [if_pos hk]) _ h' _ ⟨_, hit', ?_⟩ hs.extBut (.int _ _)
  have e1 : a + (k : Int) * st + st = a + ((k + 1 : Nat) : Int) * st := by rw [Int.natCast_add, Int.add_mul]; lia
  have e2 : Builtin.Range.rangeSize a b st - k - 1 = Builtin.Range.rangeSize a b st - ((k + 1 : Nat) : Int) := by lia
  rw [e1, e2]
 ·exact wpAny_pyNext_range_end (hA.handled hh) ho (by lia) λ h' hs => hn (by rw [if_neg hk]) h' s.toks hs
theorem Zk8 {φ : List Addr} {h : Heap} {kvs : List (Int × Value)} {es : List (Int × PV)} (r : DRs φ h kvs es) : ∀ {k : Nat} {e : Int × PV}, es[k]? = some e -> ∃ v, kvs[k]? = some (e.1, v) ∧ VR φ h v e.2 := by
 induction r with
 | nil => exact λ e => nomatch e
 | cons a b ih => exact λ {k e} q => match k, q with
  | 0, q => by cases q; exact ⟨_, rfl, a⟩
  | k + 1, q => ih (k := k) q
theorem Zca {φ : List Addr} {h : Heap} {kvs : List (Int × Value)} {es : List (Int × PV)} (r : DRs φ h kvs es) : kvs.length = es.length := by
 induction r with
 | nil => rfl
 | cons _ _ ih => exact congrArg Nat.succ ih
theorem Zoy {d : Addr} {i n ep : Nat} {it : Addr} {get : Nat -> St -> Option (Option PV)}
  (hg : ∀ k μ, get k μ ≠ none -> ∃ es, μ.hp[i]? = some (.dct es ep) ∧ es.length = n ∧ get k μ = some ((es[k]?).map λ e => .int e.1)) (hh : F.hd = true) :
  ItP c F it (λ k o => o.cls = .type "dict_keyiterator" ∧ o.data = .fields #[.ref d, .int k 0, .int n 0, .int ep 0]) (.ref d) (.obj i) get := by
 refine ⟨λ k o h => ⟨⟨_, h.2⟩, Zbw h.1 (by decide) (by decide) (by decide) (by decide)⟩, λ k A φ μ s Q E hA R hit hv hn hi hb => ?_⟩
 obtain ⟨o, ho, hc, hd⟩ := hit
 obtain ⟨es, hes, hlen, hget⟩ := hg k μ hb
 have h1 := hv.inv_obj rfl rfl
 ·
  have q := R.objs i d _ h1 hes
  obtain ⟨kvs, k1, k2⟩ := q.inv_dct rfl
  ·
   have hkl : kvs.length = n := by rw [Zca k2, hlen]
   subst hkl
   cases hx : es[k]? with
   | none =>
    have : kvs[k]? = none := by
     rw [List.getElem?_eq_none_iff] at hx ⊢
     lia
    exact wpAny_pyNext_dict_end (knd := intKind c.prog c.w) (hA.handled hh) ⟨o, ho, hc, hd⟩ k1 this λ h' hs => hn (by rw [hget, hx]; rfl) h' s.toks hs
   | some e =>
    obtain ⟨w, hw, hr⟩ := Zk8 k2 hx
    refine wpAny_pyNext_dict_item (knd := intKind c.prog c.w) ⟨o, ho, hc, hd⟩ k1 hw λ key h' hkey hit' hs => hi (.int e.1) (by rw [hget, hx]; rfl) key h' s.toks ?_ hs.extBut ?_
    ·obtain ⟨o', ho', hc', hd'⟩ := hit'
     exact ⟨o', ho', hc', hd'⟩
    ·obtain ⟨t, rfl⟩ := Value.isInt_shape hkey
     exact .int _ _
noncomputable def sFor (f : PM PV) (asg : PV -> PM Unit) (body : PM MF) (n : Nat) : PM MF := f >>= λ pv => λ μ => forIx (getOf pv μ) asg body n 0 μ
theorem Ze6 {get get' : Nat -> St -> Option (Option PV)} {asg : PV -> PM Unit} {g : PM MF} (h : ∀ k μ, get k μ = get' k μ) : ∀ n k, forIx get asg g n k = forIx get' asg g n k
 | 0, _ => rfl
 | n + 1, k => by
  funext μ
  simp only [Zex, h, Ze6 h n]
end

noncomputable def asgAll : List (PV -> PM Unit) -> List PV -> PM Unit
 | a :: as, x :: xs => a x >>= λ _ => asgAll as xs
 | _, _ => pure ()
theorem Zoz {a : PV -> PM Unit} {as : List (PV -> PM Unit)} {x : PV} {xs : List PV} : asgAll (a :: as) (x :: xs) = (a x >>= λ _ => asgAll as xs) := rfl
noncomputable def asgTup (as : List (PV -> PM Unit)) (v : PV) : PM Unit := match v with
 | .tup xs => (match decide (xs.length = as.length) with
  | true => asgAll as xs
  | false => PM.H)
 | _ => PM.H
noncomputable def pIdx (len : Nat) (k : Int) : Option Nat :=
 if 0 <= k then (if k < 2 ^ 62 then some k.toNat else none) else (if -(len : Int) <= k ∧ (len : Int) < 2 ^ 62 then some (k + len).toNat else none)
noncomputable def dGet (es : List (Int × PV)) (k : Int) : Option PV := (es.find? λ e => e.1 == k).map (·.2)
noncomputable def pGet (o i : PV) : PM PV := λ μ => match o, i with
 | .lst xs, .int k => (match (pIdx xs.length k).bind (xs[·]?) with
  | some x => .ok x μ
  | none => .bad)
 | .tup xs, .int k => (match (pIdx xs.length k).bind (xs[·]?) with
  | some x => .ok x μ
  | none => .bad)
 | .obj j, .int k => (match μ.hp[j]? with
  | some (.lst xs) => (match (pIdx xs.length k).bind (xs[·]?) with
   | some x => .ok x μ
   | none => .bad)
  | some (.dct es _) => (match dGet es k with
   | some x => .ok x μ
   | none => .bad)
  | _ => .bad)
 | _, _ => .bad
noncomputable def eSub (f g : PM PV) : PM PV := f >>= λ o => g >>= λ i => pGet o i
section
variable {c : Cx} {F : Fx}
theorem Zkh {x : Str} {pos : Pos} {k : Nat} (hk : F.env.scope.kind = .function) (hv : VarAt F x k) : ∀ w y, Sim c F (λ φ h => VR φ h w y) (λ _ _ _ _ => True) (assign (.Name x pos) F.env w) (setVar k y) :=
 λ w y A φ μ s Q E hA R p hb hQ hE => wpAny_assign_Name (Znf hk hv A φ μ s Q E hA R p hb hQ hE)
inductive SimTs (c : Cx) (F : Fx) : List (Bool × (Value -> Sem Unit)) -> List (PV -> PM Unit) -> Prop
 | nil : SimTs c F [] []
 | cons {t : Value -> Sem Unit} {a : PV -> PM Unit} {ts : List (Bool × (Value -> Sem Unit))} {as : List (PV -> PM Unit)} : (∀ w y, Sim c F (λ φ h => VR φ h w y) (λ _ _ _ _ => True) (t w) (a y)) -> SimTs c F ts as -> SimTs c F ((false, t) :: ts) (a :: as)
theorem SimTs.length {ts : List (Bool × (Value -> Sem Unit))} {as : List (PV -> PM Unit)} (h : SimTs c F ts as) : ts.length = as.length := by
 induction h with
 | nil => rfl
 | cons _ _ ih => simp [ih]
theorem SimTs.star {ts : List (Bool × (Value -> Sem Unit))} {as : List (PV -> PM Unit)} (h : SimTs c F ts as) : ts.findIdx? (·.1) = none := by
 induction h with
 | nil => rfl
 | cons _ _ ih => simp [List.findIdx?_cons, ih]
theorem Zl7 {ts : List (Bool × (Value -> Sem Unit))} {as : List (PV -> PM Unit)} (h : SimTs c F ts as) : ∀ ws ys, Sim c F (λ φ h => VRs φ h ws ys) (λ _ _ _ _ => True) (assignInOrder (ts.map (·.2)) ws) (asgAll as ys) := by
 induction h with
 | nil => intro ws ys; exact λ A φ μ s Q E hA R p hb hQ hE => Qp (hQ _ _ _ _ _ rfl R Ext.refl trivial)
 | @cons t a ts as ht hts ih =>
  intro ws ys A φ μ s Q E hA R p hb hQ hE
  cases p with
  | nil => exact Qp (hQ _ _ _ _ _ rfl R Ext.refl trivial)
  | @cons w ws y ys p1 p2 =>
   rw [Zoz] at hb hQ hE
   rw [map_cons]
   refine Qb (wpAny_holding ((ht w y).use hA R p1 hb hE λ _ _ φ1 μ1 sB eg RB xB _ => ?_))
   rw [eg] at hb hQ hE
   exact (ih ws ys).fin hA RB (p2.ext R xB) rfl xB hb hQ hE
theorem Zar {elts : List Expr} {x1 : Nat} {pos : Pos} {as : List (PV -> PM Unit)} (hh : F.hd = true) (h : SimTs c F (assignEach elts F.env) as) : ∀ w y, Sim c F (λ φ h => VR φ h w y) (λ _ _ _ _ => True) (assign (.Tuple elts x1 pos) F.env w) (asgTup as y) := by
 intro w y A φ μ s Q E hA R p hb hQ hE
 induction p using VR.cs with
 | @tup a vs n xs h1 h4 h5 =>
  unfold asgTup at hb hQ hE
  dsimp only at hb hQ hE
  cases hl : decide (xs.length = as.length) with
  | false => rw [hl] at hb; exact (hb rfl).elim
  | true =>
   rw [hl] at hb hQ hE
   have hl' := of_decide_eq_true hl
   rw [arm_assign_Tuple]
   refine Qb (wpAny_standAt ?_)
   unfold unpack
   rw [h.star, show (assignEach elts F.env).length = vs.toArray.size by rw [h.length, size_toArray, h5.length, hl']]
   refine Qb (wpAny_holding (Z8 (wpAny_unpackItems_tuple (hA.handled hh) ⟨_, h1, rfl, _, rfl⟩ λ h' hs hz => ?_)))
   obtain ⟨RB, xB⟩ : Rep c F φ μ { s with heap := h' } ∧ Ext F.nss F.cls φ s.heap φ h' := R.still (tk := s.toks) hz λ b ob hb => hs b ob (Nat.ne_of_lt (Heap.lt_size hb)) hb
   exact (Zl7 h vs xs).fin hA RB (h5.ext R xB) rfl xB hb hQ hE
 | none => exact (hb rfl).elim
 | bool => exact (hb rfl).elim
 | int => exact (hb rfl).elim
 | str => exact (hb rfl).elim
 | lst => exact (hb rfl).elim
 | rng => exact (hb rfl).elim
 | obj => exact (hb rfl).elim
 | nxt => exact (hb rfl).elim
 | vals => exact (hb rfl).elim
 | raw => exact (hb rfl).elim
theorem Zdj {k : Int} {len : Nat} (h : 0 <= k) (h2 : k.toNat < len) : seqIndex? k len = some k.toNat := by
 unfold seqIndex?
 have e : (if k < 0 then k + len else k) = k := if_neg (by lia)
 simp only [e, Bool.and_eq_true, decide_eq_true_eq]
 rw [if_pos ⟨h, by lia⟩]
theorem Zf2 {k : Int} {len : Nat} (h : k < 0) (h2 : -(len : Int) <= k) : seqIndex? k len = some (k + len).toNat := by
 unfold seqIndex?
 have e : (if k < 0 then k + len else k) = k + len := if_pos h
 simp only [e, Bool.and_eq_true, decide_eq_true_eq]
 rw [if_pos ⟨by lia, by lia⟩]
theorem Zb6 {len : Nat} {k : Int} {j : Nat} (h : pIdx len k = some j) : (0 <= k ∧ k < 2 ^ 62 ∧ j = k.toNat) ∨ (k < 0 ∧ -(len : Int) <= k ∧ (len : Int) < 2 ^ 62 ∧ j = (k + len).toNat) := by
 unfold pIdx at h
 split at h
 ·split at h
  ·cases h; exact .inl ⟨by omega, by omega, rfl⟩
  ·cases h
 ·split at h
  ·cases h; exact .inr ⟨by omega, by omega, by omega, rfl⟩
  ·cases h
theorem getList {l : Addr} {vs : List Value} {xs : List PV} {φ : List Addr} {k : Int} {t : Tok} {x : PV} {s : Shared} {A : Around} {Q : Value -> Shared -> Prop} {E : Value -> Shared -> Prop} (hl : s.heap.IsList l vs.toArray) (hv : VRs φ s.heap vs xs) (hx : (pIdx xs.length k).bind (xs[·]?) = some x)
  (h : ∀ w, VR φ s.heap w x -> Q w s) : wpAny (model c.prog c.w) A (getItem (.ref l) (.int k t)) Q E s := by
 obtain ⟨j, hj, hxj⟩ := Option.bind_eq_some_iff.mp hx
 obtain ⟨w, hw, hr⟩ := hv.get hxj
 have hlen := hv.length
 rcases Zb6 hj with ⟨h1, h2, rfl⟩ | ⟨h1, h2, h3, rfl⟩
 ·exact wpAny_getItem_list hl h1 (by lia) (by simpa using hw) (h w hr)
 ·exact wpAny_getItem_list_neg hl h1 (by simp; lia) (by lia) (by simpa [hlen] using hw) (h w hr)
theorem Zg5 {φ : List Addr} {h : Heap} {kvs : List (Int × Value)} {es : List (Int × PV)} (r : DRs φ h kvs es) : ∀ {k : Int} {x : PV}, dGet es k = some x -> ∃ v, valueAt kvs k = some v ∧ VR φ h v x := by
 induction r with
 | nil => exact λ e => nomatch e
 | @cons k' _ _ _ _ a b ih =>
  intro k x e
  unfold dGet at e
  unfold valueAt
  rw [List.find?_cons] at e ⊢
  by_cases hk : k' = k
  ·rw [show (k' == k) = true from beq_iff_eq.mpr hk] at e
   rw [show decide (k' = k) = true from decide_eq_true hk]
   cases e
   exact ⟨_, rfl, a⟩
  ·rw [show (k' == k) = false from beq_eq_false_iff_ne.mpr hk] at e
   rw [show decide (k' = k) = false from decide_eq_false hk]
   exact ih e
theorem Zia {v w : Value} {x y : PV} : Sim c F (V2 v w x y) (λ φ h a b => VR φ h a b) (getItem v w) (pGet x y) := by
 intro A φ μ s Q E hA R p hb hQ hE
 obtain ⟨rx, ry⟩ := p
 induction rx using VR.cs with
 | lst h1 h4 h5 =>
  induction ry using VR.cs with
  | int k t =>
   unfold pGet at hb hQ
   dsimp only at hb hQ
   split at hb
   ·rename_i x hx
    exact getList ⟨_, h1, rfl, _, rfl⟩ h5 hx λ w hw => hQ w _ φ μ s (by rw [hx]) R Ext.refl hw
   ·exact (hb rfl).elim
  | _ => exact (hb rfl).elim
 | tup h1 h4 h5 =>
  induction ry using VR.cs with
  | int k t =>
   unfold pGet at hb hQ
   dsimp only at hb hQ
   split at hb
   ·rename_i x hx
    have hx0 := hx
    obtain ⟨j, hj, hxj⟩ := Option.bind_eq_some_iff.mp hx
    obtain ⟨w, hw, hr⟩ := h5.get hxj
    have hlt := (Qgl hw)
    have hlen := h5.length
    rcases Zb6 hj with ⟨q1, q2, rfl⟩ | ⟨q1, q2, q3, rfl⟩
    ·exact PyProof.Rows.getItem_tuple ⟨_, h1, rfl, _, rfl⟩ (by lia) (by lia) (j := k.toNat) (by rw [size_toArray]; exact Zdj q1 hlt) (by simpa using hw) (hQ w _ φ μ s (by rw [hx0]) R Ext.refl hr)
    ·exact PyProof.Rows.getItem_tuple ⟨_, h1, rfl, _, rfl⟩ (by lia) (by lia) (by rw [size_toArray, hlen]; exact Zf2 q1 q2) (by simpa using hw) (hQ w _ φ μ s (by rw [hx0]) R Ext.refl hr)
   ·exact (hb rfl).elim
  | _ => exact (hb rfl).elim
 | @obj i a h1 =>
  induction ry using VR.cs with
  | int k t =>
   unfold pGet at hb hQ
   dsimp only at hb hQ
   cases hi : μ.hp[i]? with
   | none => rw [hi] at hb; exact (hb rfl).elim
   | some ob =>
    rw [hi] at hb hQ
    have q := R.objs i a ob h1 hi
    cases q with
    | lst k1 k2 =>
     dsimp only at hb hQ
     split at hb
     ·rename_i x hx
      exact getList ⟨_, k1, rfl, _, rfl⟩ k2 hx λ w hw => hQ w _ φ μ s (by rw [hx]) R Ext.refl hw
     ·exact (hb rfl).elim
    | dct k1 k2 =>
     dsimp only at hb hQ
     split at hb
     ·rename_i x hx
      obtain ⟨w, hw, hr⟩ := Zg5 k2 hx
      refine wpAny_getItem_of (knd := intKind c.prog c.w) (k := k) (by show Value.isInt k (.int k t) = true; simp [Value.isInt]) k1.dictOf.mapOf hw ?_
      exact hQ w _ φ μ _ (by rw [hx]) (R.toks _) Ext.refl hr
     ·exact (hb rfl).elim
    | _ => exact (hb rfl).elim
  | _ => exact (hb rfl).elim
 | none => exact (hb rfl).elim
 | bool => exact (hb rfl).elim
 | int => exact (hb rfl).elim
 | str => exact (hb rfl).elim
 | rng => exact (hb rfl).elim
 | nxt => exact (hb rfl).elim
 | vals => exact (hb rfl).elim
 | raw => exact (hb rfl).elim
theorem Znp {φ : List Addr} {μ : St} {s : Shared} {v w : Value} {x y : PV} (R : Rep c F φ μ s) (r : VR φ s.heap v x) (h : pGet x y μ ≠ .bad) : ∃ T id, s.TypeIs v T ∧ typeLookup (.type T) "__getitem__" = pure (some (.builtin id)) := by
 induction r using VR.cs with
 | lst h1 h4 h5 => exact ⟨"list", _, ⟨_, h1, rfl⟩, slot_list_getitem.lookup⟩
 | tup h1 h4 h5 => exact ⟨"tuple", _, ⟨_, h1, rfl⟩, PySem.F.slot_tuple_getitem.lookup⟩
 | @obj i a h1 =>
  cases hi : μ.hp[i]? with
  | none => exact (h (by unfold pGet; cases y <;> first | rfl | (dsimp only; rw [hi]; try rfl))).elim
  | some ob =>
   have q := R.objs i a ob h1 hi
   cases q with
   | lst k1 k2 => exact ⟨"list", _, ⟨_, k1, rfl⟩, slot_list_getitem.lookup⟩
   | dct k1 k2 => exact ⟨"dict", _, k1.dictOf.typeIs, slot_dict_getitem.lookup⟩
   | _ => exact (h (by unfold pGet; cases y <;> first | rfl | (dsimp only; rw [hi]; try rfl))).elim
 | none => exact (h rfl).elim
 | bool => exact (h rfl).elim
 | int => exact (h rfl).elim
 | str => exact (h rfl).elim
 | rng => exact (h rfl).elim
 | nxt => exact (h rfl).elim
 | vals => exact (h rfl).elim
 | raw => exact (h rfl).elim
theorem Zg {value slice : Expr} {pos : Pos} {f g : PM PV} (h : SimE c F value f) (h' : SimE c F slice g) (hs : ∀ o i, subscripted slice false o i = PySem.operate [o, i] (getItem o i)) : SimE c F (.Subscript value slice pos) (eSub f g) := λ A φ μ s Q E hA R p hb hQ hE => by
 unfold eSub at hb hQ hE
 refine Subscript_ ?_
 refine h.use hA R p hb hE λ a b φ' μ' s' eg R' x r => ?_
 rw [eg] at hb hQ hE
 refine (h'.keep (v := a) (x := b)).use hA R' r hb (λ e y φ' μ' s' he R' x' r => hE e y φ' μ' s' he R' (x.trans x') (r.le x.dom)) λ aC bC φ2 μ2 sC eg RC x2 rC => ?_
 rw [eg] at hb hQ hE
 obtain ⟨T, id, hT, hl⟩ := Znp (w := aC) RC rC.1 hb
 exact tail_any hT hl (Zia.fin hA RC rC rfl (x.trans x2) hb hQ hE) (hs a aC)
end

noncomputable def allocM (o : MO) : PM Nat := λ μ => .ok μ.hp.length { fr := μ.fr, hp := μ.hp ++ [o] }
noncomputable def chk (b : Bool) : PM Unit := match b with
 | true => pure ()
 | false => PM.H
noncomputable def mkList (mu_ : Bool) (xs : List PV) : PM PV := chk (lenOk xs) >>= λ _ => match mu_ with
 | true => allocM (.lst xs) >>= λ i => pure (.obj i)
 | false => pure (.lst xs)
noncomputable def mkTup (xs : List PV) : PM PV := chk (lenOk xs) >>= λ _ => pure (.tup xs)
noncomputable def putM (i : Nat) (o : MO) : PM Unit := λ μ => .ok () { fr := μ.fr, hp := μ.hp.set i o }
noncomputable def theLst (v : PV) : PM (Nat × List PV) := λ μ => match v with
 | .obj i => (match μ.hp[i]? with
  | some (.lst xs) => .ok (i, xs) μ
  | _ => .bad)
 | _ => .bad
noncomputable def aLst (v : PV) : PM (List PV) := λ μ => match isLst μ.hp v with
 | some xs => .ok xs μ
 | none => .bad
section
variable {c : Cx} {F : Fx}
theorem PM.C {α β : Type} {f : PM α} {g : α -> PM β} {μ μ' : St} {a : α} (h : f μ = .ok a μ') : (f >>= g) μ = g a μ' := by rw [PM.B, h]
theorem Zn {α : Type} {b : Bool} {g : Unit -> PM α} {μ : St} (h : (chk b >>= g) μ ≠ .bad) : b = true ∧ (chk b >>= g) μ = g () μ := by
 cases b with
 | true => exact ⟨rfl, rfl⟩
 | false => exact (h rfl).elim
theorem Zz {α : Type} {xs : List α} (h : lenOk xs = true) : xs.length <= sizeLine := Nat.le_trans (of_decide_eq_true h) (by decide)
theorem Zan {α : Type} {xs : List α} (h : lenOk xs = true) : xs.length <= 1000000 := of_decide_eq_true h
inductive SimArgs (c : Cx) (F : Fx) : List (Bool × Sem Value) -> PM (List PV) -> Prop
 | nil : SimArgs c F [] (pure [])
 | cons {t : Sem Value} {f : PM PV} {ts : List (Bool × Sem Value)} {g : PM (List PV)} : Sim c F NoP (λ φ h v x => VR φ h v x) t f -> SimArgs c F ts g -> SimArgs c F ((false, t) :: ts) (f >>= λ x => g >>= λ xs => pure (x :: xs))
theorem Ze7 {ts : List (Bool × Sem Value)} {g : PM (List PV)} (h : SimArgs c F ts g) : Sim c F NoP (λ φ h v x => VRs φ h v x) (spliced ts) g := by
 induction h with
 | nil => exact λ A φ μ s Q E hA R p hb hQ hE => spliced_nil (hQ _ _ _ _ _ rfl R Ext.refl .nil)
 | @cons t f ts g ht hts ih =>
  intro A φ μ s Q E hA R p hb hQ hE
  refine spliced_cons (ht.use hA R p hb hE λ a b φ' μ' s' eg R' x r => ?_)
  rw [eg] at hb hQ hE
  refine (ih.keep (v := a) (x := b)).use hA R' r hb (λ e y φ' μ' s' he R' x' r => hE e y φ' μ' s' he R' (x.trans x') (r.le x.dom)) λ aC bC φ2 μ2 sC eg RC x2 rC => ?_
  rw [eg] at hQ
  exact hQ _ _ _ _ _ rfl RC (x.trans x2) (.cons rC.1 rC.2)
theorem SimArgs.back {env : Env} {pos : Pos} {es : List Expr} {g : PM (List PV)} (h : SimArgs c F (starEach es env) g) : SimArgs c F (backTo pos (starEach es env)) g := by
 have go : ∀ ts g, SimArgs c F ts g -> SimArgs c F (backTo pos ts) g := by
  intro ts g h
  induction h with
  | nil => exact .nil
  | cons ht _ ih => exact .cons ht ih
 exact go _ _ h
theorem Zki (mu_ : Bool) {vs : List Value} {xs : List PV} : Sim c F (λ φ h => VRs φ h vs xs) (λ φ h v x => VR φ h v x) (newList vs) (mkList mu_ xs) := by
 intro A φ μ s Q E hA R p hb hQ hE
 unfold mkList at hb hQ
 obtain ⟨hl, e⟩ := Zn hb
 rw [e] at hb hQ
 refine wpAny_newObj_type ?_ (by show vs.toArray.size <= sizeLine; rw [size_toArray, p.length]; exact Zz hl)
 cases mu_ with
 | true =>
  obtain ⟨RB, xB⟩ := R.alloc (ob := { cls := .type "list", data := .seq vs.toArray }) (o := .lst xs) (tk := s.toks) rfl λ hg hi hm => .lst hg (p.mv hm)
  exact hQ _ _ _ _ _ rfl RB xB (.obj (by rw [<- R.len]; simp))
 | false =>
  obtain ⟨RB, xB⟩ := R.push { cls := .type "list", data := .seq vs.toArray } (tk := s.toks)
  exact hQ _ _ _ _ _ rfl RB xB (.lst (Heap.get?_push_size _ rfl) (λ hm => absurd (R.phiLt hm) (Nat.lt_irrefl _)) (p.ext R xB))
theorem Zib {vs : List Value} {xs : List PV} : Sim c F (λ φ h => VRs φ h vs xs) (λ φ h v x => VR φ h v x) (newTuple vs) (mkTup xs) := by
 intro A φ μ s Q E hA R p hb hQ hE
 unfold mkTup at hb hQ
 obtain ⟨hl, e⟩ := Zn hb
 rw [e] at hb hQ
 refine wpAny_newObj_type ?_ (by show vs.toArray.size <= sizeLine; rw [size_toArray, p.length]; exact Zz hl)
 obtain ⟨RB, xB⟩ := R.push { cls := .type "tuple", data := .seq vs.toArray } (tk := s.toks)
 exact hQ _ _ _ _ _ rfl RB xB (.tup (Heap.get?_push_size _ rfl) (λ hm => absurd (R.phiLt hm) (Nat.lt_irrefl _)) (p.ext R xB))
noncomputable def eList (mu_ : Bool) (f : PM (List PV)) : PM PV := f >>= mkList mu_
noncomputable def eTup (f : PM (List PV)) : PM PV := f >>= mkTup
theorem Zw (mu_ : Bool) {elts : List Expr} {pos : Pos} {f : PM (List PV)} (h : SimArgs c F (starEach elts F.env) f) : SimE c F (.List elts pos) (eList mu_ f) := λ A φ μ s Q E hA R p hb hQ hE => by
 unfold eList at hb hQ hE
 refine List_ ((Ze7 h.back).use hA R p hb hE λ a b φ' μ' s' eg R' x r => ?_)
 rw [eg] at hb hQ hE
 exact (Zki mu_).fin hA R' r rfl x hb hQ hE
theorem Zai {elts : List Expr} {k : Nat} {pos : Pos} {f : PM (List PV)} (h : SimArgs c F (starEach elts F.env) f) : SimE c F (.Tuple elts k pos) (eTup f) := λ A φ μ s Q E hA R p hb hQ hE => by
 unfold eTup at hb hQ hE
 refine Tuple_ ((Ze7 h.back).use hA R p hb hE λ a b φ' μ' s' eg R' x r => ?_)
 rw [eg] at hb hQ hE
 exact Zib.fin hA R' r rfl x hb hQ hE
noncomputable def eDict : PM PV := allocM (.dct [] 0) >>= λ i => pure (.obj i)
theorem Zfp {pos : Pos} : SimE c F (.Dict [] [] pos) eDict := λ A φ μ s Q E hA R p hb hQ hE => by
 refine wpAny_Dict_empty ?_
 obtain ⟨RB, xB⟩ := R.alloc (ob := { cls := .type "dict", data := .dict #[] }) (o := .dct [] 0) (tk := s.toks) rfl λ hg hi hm => .dct (kvs := []) ⟨_, #[], hg, ⟨rfl, rfl, rfl⟩, rfl, λ e he => by simp at he, .nil, by simp⟩ .nil
 exact hQ _ _ _ _ _ rfl RB xB (.obj (by rw [<- R.len]; simp))
theorem Zcd {o : Expr} {name : Str} {apos pos : Pos} {args : List Expr} {T id : String} {fo : PM PV} {β γ : Type} {ck : PV -> PM β} {RR : List Addr -> Heap -> Value -> γ -> Prop} {k : PV -> β -> PM γ}
  (hbase : attributeBase o name F.env (eval o F.env) = eval o F.env)
  (hfew : ((backTo pos (starEach args F.env)).all (λ x => !x.1) && (backToKw pos (keywordEach [] F.env)).all (λ x => x.1.isSome)
   && decide (args.length + ([] : List Keyword).length + (if ([] : List Keyword).isEmpty then 0 else 1) < 30)) = true)
  (hline : (apos.endLine == pos.line) = true)
  (pa : PlainAttrs T) (slot : Slot T name id) (hty : typeOf (.builtin id) = pure (.type "method_descriptor"))
  (h : SimE c F o fo) (hck : ∀ φ μ s v x, Rep c F φ μ s -> VR φ s.heap v x -> ck x μ ≠ .bad -> ∃ b, ck x μ = .ok b μ ∧ s.TypeIs v T ∧ (∃ a, v = .ref a ∧ ∃ ob, s.heap.get? a = some ob ∧ ob.dict = none))
  (hk : ∀ a x b, Sim c F (λ φ h => VR φ h (.ref a) x) RR (callWith pos (.builtin id) [.ref a] (backTo pos (starEach args F.env)) []) (k x b)) :
  Sim c F NoP RR (eval (.Call (.Attribute o name apos) args [] pos) F.env) (fo >>= λ x => ck x >>= k x) := λ A φ μ s Q E hA R p hb hQ hE => by
 refine wpAny_Call_method hbase hfew hline pa slot hty ?_
 refine h.use hA R p hb hE λ a b φ' μ' s' eg R' x r => ?_
 rw [eg] at hb hQ hE
 have hc : ck b μ' ≠ .bad := λ e => hb (by rw [PM.B, e])
 obtain ⟨y, e, hT, l, rfl, hd⟩ := hck φ' μ' s' a b R' r hc
 rw [PM.B, e] at hb hQ hE
 exact ⟨hT, λ a e => by cases e; exact hd, (hk l b y).fin hA R' r rfl x hb hQ hE⟩
theorem Zf3 {μ : St} {x : PV} (h : theLst x μ ≠ .bad) : ∃ i xs, x = .obj i ∧ μ.hp[i]? = some (.lst xs) ∧ theLst x μ = .ok (i, xs) μ := by
 unfold theLst at h ⊢
 cases x with
 | obj i =>
  dsimp only at h ⊢
  cases hi : μ.hp[i]? with
  | none => rw [hi] at h; exact (h rfl).elim
  | some o =>
   rw [hi] at h
   cases o with
   | lst xs => exact ⟨i, xs, rfl, hi, rfl⟩
   | _ => exact (h rfl).elim
 | _ => exact (h rfl).elim
theorem Zaw : ∀ φ μ s v x, Rep c F φ μ s -> VR φ s.heap v x -> theLst x μ ≠ .bad -> ∃ b, theLst x μ = .ok b μ ∧ s.TypeIs v "list" ∧ (∃ a, v = .ref a ∧ ∃ ob, s.heap.get? a = some ob ∧ ob.dict = none) := by
 intro φ μ s v x R r hb
 obtain ⟨i, xs, rfl, hi, e⟩ := Zf3 hb
 obtain ⟨a, rfl, h1⟩ := r.un_obj rfl
 obtain ⟨vs, n, k1, k2⟩ := (R.objs i a _ h1 hi).inv_lst rfl
 exact ⟨_, e, ⟨_, k1, rfl⟩, ⟨a, rfl, _, k1, rfl⟩⟩
theorem Zqm : ∀ φ μ s v x, Rep c F φ μ s -> VR φ s.heap v x -> aLst x μ ≠ .bad -> ∃ b, aLst x μ = .ok b μ ∧ s.TypeIs v "list" ∧ (∃ a, v = .ref a ∧ ∃ ob, s.heap.get? a = some ob ∧ ob.dict = none) := by
 intro φ μ s v x R r hb
 unfold aLst at hb ⊢
 cases hl : isLst μ.hp x with
 | none => rw [hl] at hb; exact (hb rfl).elim
 | some xs =>
  induction r using VR.cs with
  | lst h1 h4 h5 => exact ⟨_, rfl, ⟨_, h1, rfl⟩, ⟨_, rfl, _, h1, rfl⟩⟩
  | @obj i a h1 =>
   unfold isLst at hl
   dsimp only at hl
   split at hl
   ·rename_i ys hys
    have q := R.objs i a _ h1 hys
    obtain ⟨_, _, k1, k2⟩ := q.inv_lst rfl
    ·exact ⟨_, rfl, ⟨_, k1, rfl⟩, ⟨_, rfl, _, k1, rfl⟩⟩
   ·cases hl
  | _ => cases hl
theorem Zbh {φ : List Addr} {μ : St} {s : Shared} (R : Rep c F φ μ s) {v : Value} {x : PV} {i : Nat} {xs : List PV} (r : VR φ s.heap v x) (e : theLst x μ = .ok (i, xs) μ) : ∃ a vs n, v = .ref a ∧ φ[i]? = some a ∧ IsL s.heap a vs.toArray n ∧ VRs φ s.heap vs xs ∧ x = .obj i := by
 obtain ⟨j, ys, rfl, hi, e'⟩ := Zf3 (λ q => nomatch e.symm.trans q)
 rw [e'] at e
 cases e
 obtain ⟨a, rfl, h1⟩ := r.un_obj rfl
 obtain ⟨vs, n, k1, k2⟩ := (R.objs i a _ h1 hi).inv_lst rfl
 exact ⟨a, vs, n, rfl, h1, k1, k2, rfl⟩
theorem Zaj {x : PV} {μ : St} (h : theLst x μ ≠ .bad) : ∃ i xs, theLst x μ = .ok (i, xs) μ := by
 unfold theLst at h ⊢
 cases x with
 | obj i =>
  dsimp only at h ⊢
  cases hi : μ.hp[i]? with
  | none => rw [hi] at h; exact (h rfl).elim
  | some ob =>
   cases ob with
   | lst xs => exact ⟨_, _, rfl⟩
   | _ => rw [hi] at h; exact (h rfl).elim
 | _ => exact (h rfl).elim
theorem Rep.relist {φ : List Addr} {μ : St} {s : Shared} (R : Rep c F φ μ s) {i : Nat} {a : Addr} {vs : List Value} {n : Nat} (hi : φ[i]? = some a) (hl : IsL s.heap a vs.toArray n) {g : Array Value -> Array Value} {ws : List Value} {ys : List PV} (hg : g vs.toArray = ws.toArray) (hw : VRs φ s.heap ws ys) {tk : Nat} :
  Rep c F φ { fr := μ.fr, hp := μ.hp.set i (.lst ys) } { s with heap := s.heap.update a (Obj.mapSeq g), toks := tk } ∧ Ext F.nss F.cls φ s.heap φ (s.heap.update a (Obj.mapSeq g)) := by
 refine R.upd hi (Heap.SameBut.update ..) λ hm => ?_
 have := hl.update g
 rw [hg] at this
 exact .lst this (hw.mv hm)
noncomputable def pAppend (o y : PV) : PM PV := theLst o >>= λ p => chk (lenOk p.2) >>= λ _ => putM p.1 (.lst (p.2 ++ [y])) >>= λ _ => pure .none
noncomputable def mAppend (fo fe : PM PV) : PM PV := fo >>= λ x => theLst x >>= λ _ => fe >>= λ y => pAppend x y
theorem Z7 {o e : Expr} {apos pos : Pos} {fo fe : PM PV} (hbase : attributeBase o "append" F.env (eval o F.env) = eval o F.env)
  (hfew : ((backTo pos (starEach [e] F.env)).all (λ x => !x.1) && (backToKw pos (keywordEach [] F.env)).all (λ x => x.1.isSome)
   && decide ([e].length + ([] : List Keyword).length + (if ([] : List Keyword).isEmpty then 0 else 1) < 30)) = true)
  (hline : (apos.endLine == pos.line) = true) (htr : backTo pos (starEach [e] F.env) = [(false, eval e F.env)]) (h : SimE c F o fo) (h' : SimE c F e fe) : SimE c F (.Call (.Attribute o "append" apos) [e] [] pos) (mAppend fo fe) := by
 refine Zcd hbase hfew hline PySem.F.plainAttrs_list PySem.F.slot_list_append PySem.F.type_list_append h (ck := theLst) (k := λ x _ => fe >>= λ y => pAppend x y) Zaw λ l x b => ?_
 rw [htr]
 intro A φ μ s Q E hA R p hb hQ hE
 refine P.append_list (h'.use hA R trivial hb hE λ v y φ' μ' s' eg R' x' r => ?_)
 rw [eg] at hb hQ hE
 unfold pAppend at hb hQ
 obtain ⟨i, xs, et⟩ := Zaj (λ e => hb (by rw [PM.B, e]))
 obtain ⟨a, vs, n, ea, hi, hl, hvs, rfl⟩ := Zbh R' (p.ext R x') et
 cases ea
 rw [PM.C et] at hb hQ
 obtain ⟨hln, e2⟩ := Zn hb
 rw [e2] at hQ
 refine ⟨_, _, by rw [size_toArray, hvs.length]; exact Zz hln, hl, ?_⟩
 obtain ⟨R3, xD⟩ := R'.relist (tk := s'.toks) hi hl (g := λ xs => xs.push v) (ws := vs ++ [v]) (by simp) (hvs.append (.cons r .nil))
 exact hQ _ _ _ _ _ rfl R3 (x'.trans xD) .none
noncomputable abbrev hFew (c : Cx) (F : Fx) (pos : Pos) (args : List Expr) : Prop := ((backTo pos (starEach args F.env)).all (λ x => !x.1) && (backToKw pos (keywordEach [] F.env)).all (λ x => x.1.isSome)
   && decide (args.length + ([] : List Keyword).length + (if ([] : List Keyword).isEmpty then 0 else 1) < 30)) = true
noncomputable def pPop (o : PV) : PM PV := theLst o >>= λ p => chk (lenOk p.2) >>= λ _ => match p.2.getLast? with
 | some y => putM p.1 (.lst p.2.dropLast) >>= λ _ => pure y
 | none => PM.H
noncomputable def mPop (fo : PM PV) : PM PV := fo >>= λ x => theLst x >>= λ _ => pPop x
theorem Zgp {o : Expr} {apos pos : Pos} {fo : PM PV} (hbase : attributeBase o "pop" F.env (eval o F.env) = eval o F.env) (hfew : hFew c F pos []) (hline : (apos.endLine == pos.line) = true) (h : SimE c F o fo) :
  SimE c F (.Call (.Attribute o "pop" apos) [] [] pos) (mPop fo) := by
 refine Zcd hbase hfew hline PySem.F.plainAttrs_list PySem.F.slot_list_pop PySem.F.type_list_pop h (ck := theLst) (k := λ x _ => pPop x) Zaw λ l x b => ?_
 show Sim c F _ _ (callWith pos (.builtin "list.pop") [.ref l] [] []) _
 intro A φ μ s Q E hA R p hb hQ hE
 unfold pPop at hb hQ
 obtain ⟨i, xs, et⟩ := Zaj (λ e => hb (by rw [PM.B, e]))
 obtain ⟨a, vs, n, ea, hi, hl, hvs, rfl⟩ := Zbh R p et
 cases ea
 rw [PM.C et] at hb hQ
 obtain ⟨hln, e2⟩ := Zn hb
 rw [e2] at hb hQ
 dsimp only at hb hQ
 cases hg : xs.getLast? with
 | none => rw [hg] at hb; exact (hb rfl).elim
 | some y =>
  rw [hg] at hQ
  have hlen := hvs.length
  have hne : xs ≠ [] := by intro e; subst e; cases hg
  have hpos : 0 < xs.length := List.length_pos_iff.mpr hne
  rw [List.getLast?_eq_getElem?] at hg
  obtain ⟨w, hw, hr⟩ := hvs.get hg
  refine P.pop_list hl (y := w) (by simp only [size_toArray, hlen]; simpa using hw) ?_ (by rw [size_toArray, hlen]; exact Zz hln)
  obtain ⟨R3, xD⟩ := R.relist (tk := s.toks) hi hl (g := λ xs => xs.eraseIdxIfInBounds (vs.toArray.size - 1)) (ws := vs.take (vs.length - 1)) (ys := xs.dropLast) (by
   simp only [size_toArray, List.eraseIdxIfInBounds_toArray]
   congr 1
   rw [<- List.dropLast_eq_take]
   have hne' : vs ≠ [] := by intro e; subst e; simp at hlen; lia
   obtain ⟨ys, y, rfl⟩ := (List.eq_nil_or_concat vs).resolve_left hne'
   simp [List.eraseIdx_append_of_length_le]) (by
   rw [List.dropLast_eq_take, <- hlen]
   exact hvs.take _)
  exact hQ _ _ _ _ _ rfl R3 xD (hr.ext R xD)
noncomputable def pPopAt (o y : PV) : PM PV := theLst o >>= λ p => chk (lenOk p.2) >>= λ _ => match y with
 | .int k => (match pIdx p.2.length k with
  | some j => (match p.2[j]? with
   | some x => putM p.1 (.lst (p.2.eraseIdx j)) >>= λ _ => pure x
   | none => PM.H)
  | none => PM.H)
 | _ => PM.H
noncomputable def mPopAt (fo fe : PM PV) : PM PV := fo >>= λ x => theLst x >>= λ _ => fe >>= λ y => pPopAt x y
theorem Znq {o e : Expr} {apos pos : Pos} {fo fe : PM PV} (hbase : attributeBase o "pop" F.env (eval o F.env) = eval o F.env) (hfew : hFew c F pos [e]) (hline : (apos.endLine == pos.line) = true)
  (htr : backTo pos (starEach [e] F.env) = [(false, eval e F.env)]) (h : SimE c F o fo) (h' : SimE c F e fe) : SimE c F (.Call (.Attribute o "pop" apos) [e] [] pos) (mPopAt fo fe) := by
 refine Zcd hbase hfew hline PySem.F.plainAttrs_list PySem.F.slot_list_pop PySem.F.type_list_pop h (ck := theLst) (k := λ x _ => fe >>= λ y => pPopAt x y) Zaw λ l x b => ?_
 rw [htr]
 intro A φ μ s Q E hA R p hb hQ hE
 refine P.pop_at_list (h'.use hA R trivial hb hE λ v y φ' μ' s' eg R' x' r => ?_)
 rw [eg] at hb hQ hE
 unfold pPopAt at hb hQ
 obtain ⟨i, xs, et⟩ := Zaj (λ e => hb (by rw [PM.B, e]))
 obtain ⟨a, vs, n, ea, hi, hl, hvs, rfl⟩ := Zbh R' (p.ext R x') et
 cases ea
 rw [PM.C et] at hb hQ
 obtain ⟨hln, e2⟩ := Zn hb
 rw [e2] at hb hQ
 have hlen := hvs.length
 have hk : ∃ k, y = .int k := by
  clear hQ hE r R' x' eg e2 et
  cases y with
  | int k => exact ⟨k, rfl⟩
  | _ => exact (hb rfl).elim
 obtain ⟨k, rfl⟩ := hk
 obtain ⟨t, rfl⟩ := r.int_inv rfl
 ·dsimp only at hb hQ
  cases hj : pIdx xs.length k with
  | none => rw [hj] at hb; exact (hb rfl).elim
  | some j =>
   rw [hj] at hb hQ
   dsimp only at hb hQ
   cases hx : xs[j]? with
   | none => rw [hx] at hb; exact (hb rfl).elim
   | some x =>
    rw [hx] at hQ
    obtain ⟨w, hw, hr⟩ := hvs.get hx
    have hlt := (Qgl hw)
    obtain ⟨R3, xD⟩ := R'.relist (tk := s'.toks) hi hl (g := λ xs => xs.eraseIdxIfInBounds j) (ws := vs.eraseIdx j) (by simp) (hvs.eraseIdx j)
    have hl2 := Zan hln
    refine ⟨vs.toArray, n, k, t, j, w, by rw [size_toArray, hlen]; exact Zz hln, rfl, hl, ?_, ?_, by simpa using hw, hQ _ _ _ _ _ rfl R3 (x'.trans xD) (hr.ext R' xD)⟩
    ·unfold Builtin.List.listFitsIndex
     rcases Zb6 hj with ⟨q1, q2, q3⟩ | ⟨q1, q2, q3, q4⟩ <;> simp <;> omega
    ·rcases Zb6 hj with ⟨q1, q2, rfl⟩ | ⟨q1, q2, q3, rfl⟩
     ·rw [size_toArray]; exact Zdj q1 hlt
     ·rw [size_toArray, hlen]; exact Zf2 q1 q2
noncomputable def pClear (o : PV) : PM PV := theLst o >>= λ p => chk (lenOk p.2) >>= λ _ => putM p.1 (.lst []) >>= λ _ => pure .none
noncomputable def mClear (fo : PM PV) : PM PV := fo >>= λ x => theLst x >>= λ _ => pClear x
theorem Znr {o : Expr} {apos pos : Pos} {fo : PM PV} (hbase : attributeBase o "clear" F.env (eval o F.env) = eval o F.env) (hfew : hFew c F pos []) (hline : (apos.endLine == pos.line) = true) (h : SimE c F o fo) :
  SimE c F (.Call (.Attribute o "clear" apos) [] [] pos) (mClear fo) := by
 refine Zcd hbase hfew hline PySem.F.plainAttrs_list PySem.F.slot_list_clear PySem.F.type_list_clear h (ck := theLst) (k := λ x _ => pClear x) Zaw λ l x b => ?_
 show Sim c F _ _ (callWith pos (.builtin "list.clear") [.ref l] [] []) _
 intro A φ μ s Q E hA R p hb hQ hE
 unfold pClear at hb hQ
 obtain ⟨i, xs, et⟩ := Zaj (λ e => hb (by rw [PM.B, e]))
 obtain ⟨a, vs, n, ea, hi, hl, hvs, rfl⟩ := Zbh R p et
 cases ea
 rw [PM.C et] at hb hQ
 obtain ⟨hln, e2⟩ := Zn hb
 rw [e2] at hb hQ
 refine P.clear_list hl ?_ (by rw [size_toArray, hvs.length]; exact Zz hln)
 obtain ⟨R3, xD⟩ := R.relist (tk := s.toks) hi hl (g := λ _ => #[]) (ws := []) (ys := []) rfl .nil
 exact hQ _ _ _ _ _ rfl R3 xD .none
noncomputable def intsOf : List PV -> Option (List Int)
 | [] => some []
 | .int i :: r => (intsOf r).map (i :: ·)
 | _ :: _ => none
theorem Zo0 {i : Int} {r : List PV} : intsOf (.int i :: r) = (intsOf r).map (i :: ·) := rfl
noncomputable def pIndex (xs : List PV) (y : PV) : PM PV := match intsOf xs, y with
 | some is, .int k => (match is.findIdx? (· == k) with
  | some j => chk (lenOk xs) >>= λ _ => pure (.int j)
  | none => PM.H)
 | _, _ => PM.H
end

noncomputable def ownNames (names : List (Str × NameKind)) : List (Str × NameKind) := names.filter λ x => x.2 == .local || x.2 == .cell
noncomputable def locsOf (L : Addr) (cells : List (Str × Addr)) (names : List (Str × NameKind)) : List Loc :=
 (ownNames names).map λ x => if x.2 == .local then .loc L x.1 else .cell ((cells.lookup x.1).getD 0)
noncomputable def initFr (names : List (Str × NameKind)) (ks : List Str) (ys : List PV) : List PV := (ownNames names).map λ x => ((ks.zip ys).reverse.lookup x.1).getD .undef
noncomputable def fxOf (fd : FuncData) (L a : Addr) (outer : List Env) (lv : Nat) : Fx :=
 { env := callEnvC fd L a, locs := locsOf L (cellsFrom (L + 1) fd.scope.names []) fd.scope.names, nss := [L], cls := (cellsFrom (L + 1) fd.scope.names []).map (·.2), frames := callEnvC fd L a :: outer, lv := lv, hd := true }
noncomputable def callM (init : List PV) (body : PM MF) : PM PV := λ μ => match body ⟨init, μ.hp⟩ with
 | .ok (.ret v) μ' => .ok v ⟨μ.fr, μ'.hp⟩
 | .ok .next μ' => .ok .none ⟨μ.fr, μ'.hp⟩
 | .ok _ _ => .bad
 | .exc x μ' => .exc x ⟨μ.fr, μ'.hp⟩
 | .bad => .bad
noncomputable def callF (frm : List PV -> Option (List PV)) (g : PM MF) (xs : List PV) : PM PV := match frm xs with
 | some fr => callM fr g
 | none => PM.H
theorem Zaq (x : Str) : ∀ (names : List (Str × NameKind)) (n : Nat) (acc : List (Str × Addr)), ((x, NameKind.cell) ∈ names ∨ (acc.lookup x).isSome = true) -> ((cellsFrom n names acc).lookup x).isSome = true
 | [], n, acc, h => by
  rcases h with h | h
  ·simp at h
  ·exact h
 | (y, k) :: r, n, acc, h => by
  unfold cellsFrom
  split
  ·refine Zaq x r _ _ ?_
   rcases h with h | h
   ·rcases Qmc h with h | h
    ·cases h; right; simp
    ·exact .inl h
   ·right
    rw [lookup_cons]
    split <;> simp_all
  ·rename_i hk
   refine Zaq x r _ _ ?_
   rcases h with h | h
   ·rcases Qmc h with h | h
    ·cases h; exact absurd rfl hk
    ·exact .inl h
   ·exact .inr h
theorem Zap {names : List (Str × NameKind)} {x : Str × NameKind} (h : x ∈ ownNames names) : x ∈ names ∧ (x.2 = .local ∨ x.2 = .cell) := by
 unfold ownNames at h
 rw [mem_filter] at h
 refine ⟨h.1, ?_⟩
 have h2 := h.2
 rw [Bool.or_eq_true] at h2
 rcases h2 with h2 | h2
 ·exact .inl (eq_of_beq h2)
 ·exact .inr (eq_of_beq h2)
theorem Zf4 {L : Addr} {cells : List (Str × Addr)} {names : List (Str × NameKind)} (hn : (names.map (·.1)).Nodup) (hap : cells.Pairwise λ x y => x.2 ≠ y.2) (hhas : ∀ x, (x, NameKind.cell) ∈ names -> (cells.lookup x).isSome = true) : (locsOf L cells names).Nodup := by
 unfold locsOf
 have hn' : ((ownNames names).map (·.1)).Nodup := (List.filter_sublist.map _).nodup hn
 rw [List.nodup_iff_pairwise_ne, pairwise_map] at *
 refine List.Pairwise.imp_of_mem ?_ hn'
 intro a b ha hb hab e
 obtain ⟨ha1, ha2⟩ := Zap ha
 obtain ⟨hb1, hb2⟩ := Zap hb
 obtain ⟨x, k⟩ := a
 obtain ⟨y, j⟩ := b
 dsimp only at *
 rcases ha2 with rfl | rfl <;> rcases hb2 with rfl | rfl
 ·simp at e; exact hab e
 ·simp at e
 ·simp at e
 ·obtain ⟨c1, h1⟩ := Option.isSome_iff_exists.mp (hhas _ ha1)
  obtain ⟨c2, h2⟩ := Option.isSome_iff_exists.mp (hhas _ hb1)
  have e2 : NameKind.cell == NameKind.local := by
   rw [h1, h2] at e
   simp at e
   have : c1 = c2 := by first | exact e | exact e.2
   subst this
   exact absurd (name_of_addr hap (mem_of_lookup h1) (mem_of_lookup h2)) hab
  exact absurd e2 (by decide)
theorem Zds {kindOf : Str -> Option NameKind} {x : Str} (hx : kindOf x = some .local) : ∀ (binds : List (Str × Value)) (m : Str -> Option Value), bindL kindOf binds m x = (binds.reverse.lookup x).or (m x)
 | [], m => by simp [bindL]
 | (n, v) :: r, m => by
  rw [bindL, Zds hx r, reverse_cons, List.lookup_append, Option.or_assoc]
  congr 1
  by_cases e : x = n
  ·subst e; rw [if_pos hx]; simp
  ·have : (x == n) = false := by simpa using e
   rw [lookup_cons, this]
   by_cases hn : kindOf n = some .local
   ·rw [if_pos hn]; simp [e]
   ·rw [if_neg hn]; simp
theorem Zdt {kindOf : Str -> Option NameKind} {x : Str} (hx : kindOf x ≠ some .local) : ∀ (binds : List (Str × Value)) (m : Str -> Option Value), bindC kindOf binds m x = (binds.reverse.lookup x).or (m x)
 | [], m => by simp [bindC]
 | (n, v) :: r, m => by
  rw [bindC, Zdt hx r, reverse_cons, List.lookup_append, Option.or_assoc]
  congr 1
  by_cases e : x = n
  ·subst e; rw [if_neg hx]; simp
  ·have : (x == n) = false := by simpa using e
   rw [lookup_cons, this]
   by_cases hn : kindOf n = some .local
   ·rw [if_pos hn]; simp
   ·rw [if_neg hn]; simp [e]
theorem Zic {φ : List Addr} {h : Heap} (x : Str) {ws : List Value} {ys : List PV} (r : VRs φ h ws ys) : ∀ (ks : List Str), (∃ v y, (ks.zip ws).reverse.lookup x = some v ∧ (ks.zip ys).reverse.lookup x = some y ∧ VR φ h v y) ∨ ((ks.zip ws).reverse.lookup x = none ∧ (ks.zip ys).reverse.lookup x = none) := by
 induction r using VRs.ind with
 | nil => intro ks; right; rw [List.zip_nil_right, List.zip_nil_right]; exact ⟨rfl, rfl⟩
 | @cons v vs y ys a b ih =>
  intro ks
  cases ks with
  | nil => right; exact ⟨rfl, rfl⟩
  | cons k ks =>
  simp only [List.zip_cons_cons, reverse_cons, List.lookup_append]
  rcases ih ks with ⟨v', y', h1, h2, h3⟩ | ⟨h1, h2⟩
  ·left; exact ⟨v', y', by rw [h1]; rfl, by rw [h2]; rfl, h3⟩
  ·rw [h1, h2]
   by_cases e : x = k
   ·subst e; left; exact ⟨v, y, by simp, by simp, a⟩
   ·have : (x == k) = false := by simpa using e
    right; simp [lookup_cons, this]
section
variable {c : Cx} {F : Fx} {φ : List Addr} {μ : St} {s sB : Shared}
theorem Rep.above (R : Rep c F φ μ s) {a : Addr} (h : s.heap.objs.size <= a) : a ∉ φ ∧ c.B.get? a = none := by
 refine ⟨λ hm => absurd (R.phiLt hm) (Nat.not_lt_of_le h), ?_⟩
 cases q : c.B.get? a with
 | none => rfl
 | some o => exact absurd (Heap.lt_size (R.keep _ o q)) (Nat.not_lt_of_le h)
theorem Rep.enter (R : Rep c F φ μ s) {fd : FuncData} {L f : Addr} {ks : List Str} {ws : List Value} {ys : List PV} (hw : VRs φ s.heap ws ys) (hk : fd.scope.kind = .function) (hn : (fd.scope.names.map (·.1)).Nodup)
  (hL : L = s.heap.objs.size) (x : InCallC s L (bindL (callEnvC fd L f).kindOf (ks.zip ws) λ _ => none) (callEnvC fd L f).cells (bindC (callEnvC fd L f).kindOf (ks.zip ws) λ _ => none) sB) (lv : Nat) :
  Rep c F φ μ sB ∧ Ext F.nss F.cls φ s.heap φ sB.heap ∧ Rep c (fxOf fd L f F.frames lv) φ ⟨initFr fd.scope.names ks ys, μ.hp⟩ sB := by
 obtain ⟨h₁, tk, rfl⟩ := x.toInCall.same
 have hLlt := x.toInCall.ns.lt
 obtain ⟨RB, xB⟩ := R.still (h' := h₁) (tk := tk) (Nat.le_of_lt (Nat.lt_of_le_of_lt x.toInCall.fresh hLlt)) x.toInCall.keep
 refine ⟨RB, xB, ?_⟩
 have hcells : (callEnvC fd L f).cells = cellsFrom (L + 1) fd.scope.names [] := rfl
 have hkind : ∀ y, (callEnvC fd L f).kindOf y = fd.scope.names.lookup y := λ y => rfl
 have look : ∀ y k, (y, k) ∈ fd.scope.names -> fd.scope.names.lookup y = some k := by
  intro y k hm
  have go : ∀ (l : List (Str × NameKind)), (l.map (·.1)).Nodup -> (y, k) ∈ l -> l.lookup y = some k := by
   intro l
   induction l with
   | nil => intro _ hm; simp at hm
   | cons z r ih =>
    intro hn hm
    obtain ⟨z1, z2⟩ := z
    simp only [map_cons, nodup_cons] at hn
    rcases Qmc hm with e | hm
    ·cases e; simp
    ·have : (y == z1) = false := by
      have : y ≠ z1 := λ e => hn.1 (by rw [<- e]; exact mem_map_of_mem (f := (·.1)) hm)
      simpa using this
     rw [lookup_cons, this]
     exact ih hn.2 hm
  exact go _ hn hm
 have hwB := hw.ext R xB
 have ap := x.apart
 rw [hcells] at ap
 have place : ∀ (k : Nat) (l : Loc), (fxOf fd L f F.frames lv).locs[k]? = some l -> ∃ y, (ownNames fd.scope.names)[k]? = some y ∧ l = (if y.2 == NameKind.local then .loc L y.1 else .cell (((cellsFrom (L + 1) fd.scope.names []).lookup y.1).getD 0)) := by
  intro k l hk
  show ∃ y, _
  have : (locsOf L (cellsFrom (L + 1) fd.scope.names []) fd.scope.names)[k]? = some l := hk
  unfold locsOf at this
  rw [List.getElem?_map] at this
  cases hy : (ownNames fd.scope.names)[k]? with
  | none => rw [hy] at this; cases this
  | some y => rw [hy] at this; exact ⟨y, rfl, (Option.some.inj this).symm⟩
 have frAt : ∀ (k : Nat) (y : Str × NameKind) (pv : PV), (ownNames fd.scope.names)[k]? = some y -> (initFr fd.scope.names ks ys)[k]? = some pv -> pv = ((ks.zip ys).reverse.lookup y.1).getD .undef := by
  intro k y pv hy hp
  unfold initFr at hp
  rw [List.getElem?_map, hy] at hp
  exact (Option.some.inj hp).symm
 have cellAt : ∀ y, (y, NameKind.cell) ∈ fd.scope.names -> ∃ a, (cellsFrom (L + 1) fd.scope.names []).lookup y = some a := λ y hy => Option.isSome_iff_exists.mp (Zaq y _ _ _ (.inl hy))
 refine ⟨RB.ok, RB.keep, RB.os, RB.gens, RB.len, RB.nodup, RB.phiB, RB.objs, ?_, ?_, ?_, ?_, ?_, ?_, ?_⟩
 ·show (initFr _ _ _).length = (locsOf _ _ _).length
  unfold initFr locsOf; simp
 ·exact Zf4 hn ap λ y hy => Zaq y _ _ _ (.inl hy)
 ·intro L' hL'
  have hL' : L' = L := by simpa [fxOf] using hL'
  subst hL'
  have ab := R.above (a := L') (Nat.le_of_eq hL.symm)
  exact ⟨ab.1, ab.2, _, x.toInCall.ns⟩
 ·intro a ha
  obtain ⟨⟨y, a'⟩, hm, rfl⟩ := Qmm (show a ∈ (cellsFrom (L + 1) fd.scope.names []).map (·.2) from ha)
  have ab := R.above (a := a') (by have q : L < a' := x.above y a' hm; rw [hL] at q; exact Nat.le_of_lt q)
  refine ⟨ab.1, ab.2, ?_⟩
  have : ∃ y, (cellsFrom (L + 1) fd.scope.names []).lookup y = some a' := by
   refine ⟨y, ?_⟩
   have go : ∀ (l : List (Str × Addr)), (l.map (·.1)).Nodup -> (y, a') ∈ l -> l.lookup y = some a' := by
    intro l
    induction l with
    | nil => intro _ hm; simp at hm
    | cons z r ih =>
     intro hn hm
     obtain ⟨z1, z2⟩ := z
     simp only [map_cons, nodup_cons] at hn
     rcases Qmc hm with e | hm
     ·cases e; simp
     ·have : (y == z1) = false := by
       have : y ≠ z1 := λ e => hn.1 (by rw [<- e]; exact mem_map_of_mem (f := (·.1)) hm)
       simpa using this
      rw [lookup_cons, this]
      exact ih hn.2 hm
   refine go _ ?_ hm
   have go2 : ∀ (names : List (Str × NameKind)) (n : Nat) (acc : List (Str × Addr)), (names.map (·.1)).Nodup -> (acc.map (·.1)).Nodup -> (∀ p ∈ acc, p.1 ∉ names.map (·.1)) -> ((cellsFrom n names acc).map (·.1)).Nodup := by
    intro names
    induction names with
    | nil => intro n acc _ h _; exact h
    | cons z r ih =>
     intro n acc hn ha hd
     obtain ⟨z1, z2⟩ := z
     simp only [map_cons, nodup_cons] at hn
     unfold cellsFrom
     split
     ·refine ih _ _ hn.2 ?_ ?_
      ·simp only [map_cons, nodup_cons]
       refine ⟨λ hm => ?_, ha⟩
       obtain ⟨p, hp, e⟩ := Qmm hm
       exact hd p hp (by rw [e]; simp)
      ·intro p hp
       rcases Qmc hp with e | hp
       ·rw [e]; exact hn.1
       ·intro hm; exact hd p hp (by simp only [map_cons]; exact mem_cons_of_mem _ hm)
     ·exact ih _ _ hn.2 ha λ p hp hm => hd p hp (by simp only [map_cons]; exact mem_cons_of_mem _ hm)
   exact go2 _ _ _ hn (by simp) (by simp)
  obtain ⟨y, hy⟩ := this
  exact ⟨_, x.cell y a' hy⟩
 ·intro k L' y hk
  obtain ⟨z, hz, e⟩ := place k _ hk
  have hzm := mem_of_getElem? hz
  obtain ⟨hz1, hz2⟩ := Zap hzm
  split at e
  ·rename_i hl
   cases e
   refine ⟨by simp [fxOf], λ pv hp hu => ?_⟩
   have hp := frAt k z pv hz hp
   have hkd : (callEnvC fd L f).kindOf z.1 = some .local := by rw [hkind]; rw [look z.1 z.2 hz1, eq_of_beq hl]
   rcases Zic z.1 hwB ks with ⟨v, w, q1, q2, q3⟩ | ⟨q1, q2⟩
   ·refine ⟨_, v, x.toInCall.ns, ?_, ?_⟩
    ·rw [Zds hkd, q1]; rfl
    ·rw [hp, q2]; exact q3
   ·rw [q2] at hp; exact absurd hp hu
  ·cases e
 ·intro k a hk
  obtain ⟨z, hz, e⟩ := place k _ hk
  have hzm := mem_of_getElem? hz
  obtain ⟨hz1, hz2⟩ := Zap hzm
  split at e
  ·cases e
  ·rename_i hl
   have hc : z.2 = .cell := by
    rcases hz2 with h | h
    ·rw [h] at hl; exact absurd rfl hl
    ·exact h
   obtain ⟨a', ha'⟩ := cellAt z.1 (by rw [<- hc]; exact hz1)
   rw [ha'] at e
   cases e
   refine ⟨mem_map.mpr ⟨_, mem_of_lookup ha', rfl⟩, λ pv hp hu => ?_⟩
   have hp := frAt k z pv hz hp
   have hkd : (callEnvC fd L f).kindOf z.1 ≠ some .local := by rw [hkind]; rw [look z.1 z.2 hz1, hc]; decide
   rcases Zic z.1 hwB ks with ⟨v, w, q1, q2, q3⟩ | ⟨q1, q2⟩
   ·refine ⟨v, ?_, ?_⟩
    ·have := x.cell z.1 a' ha'
     rw [Zdt hkd, q1] at this
     exact this
    ·rw [hp, q2]; exact q3
   ·rw [q2] at hp; exact absurd hp hu
 ·intro env he
  rcases Qmc (show env ∈ callEnvC fd L f :: F.frames from he) with e | he
  ·subst e
   have ab := R.above (a := L) (Nat.le_of_eq hL.symm)
   obtain ⟨o, es, ep, ho, hd, _⟩ := x.toInCall.ns
   refine ⟨?_, L, rfl, ab.1, ab.2, o, es, ep, ho, hd⟩
   show fd.scope.kind ≠ .module
   rw [hk]; decide
  ·exact RB.frm env he
theorem Rep.leave {fd : FuncData} {L f : Addr} {lv : Nat} {φ' : List Addr} {μ' : St} {s' : Shared} (R : Rep c F φ μ s) (hL : L = s.heap.objs.size) (hcell : ∀ a ∈ (fxOf fd L f F.frames lv).cls, s.heap.objs.size <= a)
  (xB : Ext F.nss F.cls φ s.heap φ sB.heap) (hkeep : ∀ a o, s.heap.get? a = some o -> sB.heap.get? a = some o)
  (R' : Rep c (fxOf fd L f F.frames lv) φ' μ' s') (x' : Ext (fxOf fd L f F.frames lv).nss (fxOf fd L f F.frames lv).cls φ sB.heap φ' s'.heap) :
  Rep c F φ' ⟨μ.fr, μ'.hp⟩ s' ∧ Ext F.nss F.cls φ s.heap φ' s'.heap := by
 have stay : ∀ a o, s.heap.get? a = some o -> a ∉ φ -> s'.heap.get? a = some o ∨ ((∃ es ep, o.data = .dict es ep) ∧ ∃ sl, s'.heap.get? a = some { o with slots := sl }) := λ a o ho hn => by
  have hlt := Heap.lt_size ho
  refine x'.old a o (hkeep a o ho) hn (λ hm => ?_) (λ hm => ?_)
  ·have : a = L := by simpa [fxOf] using hm
   rw [this, hL] at hlt; exact absurd hlt (Nat.lt_irrefl _)
  ·exact absurd hlt (Nat.not_lt_of_le (hcell a hm))
 have e : Ext F.nss F.cls φ s.heap φ' s'.heap := by
  refine ⟨⟨?_, Nat.le_trans xB.size x'.size, λ a o ho hn _ _ => stay a o ho hn⟩, λ a h => x'.dom a (xB.dom a h)⟩
  obtain ⟨ψ, e, hb⟩ := x'.grow
  exact ⟨ψ, e, λ b h => Nat.le_trans xB.size (hb b h)⟩
 have mv : ∀ v y, VR φ s.heap v y -> VR φ' s'.heap v y := λ v y r => r.ext R e
 have sl : ∀ {a o}, s.heap.get? a = some o -> a ∉ φ -> ∃ sl, s'.heap.get? a = some { o with slots := sl } := λ {a o} ho hn => by
  rcases stay a o ho hn with k | ⟨_, sl, k⟩
  ·exact ⟨o.slots, k⟩
  ·exact ⟨sl, k⟩
 have rest : Rest c F φ' μ.fr s'.heap := R.rest (λ _ _ ho hn => e.nin ho hn) (λ a o ho hn _ => sl ho hn) mv
 exact ⟨⟨R'.ok, R'.keep, R'.os, R'.gens, R'.len, R'.nodup, R'.phiB, R'.objs, R.flen, R.lnodup, rest.nss, rest.cls, rest.vloc, rest.vcell, rest.frm⟩, e⟩
end

structure FnAt (c : Cx) (f : Addr) (fd : FuncData) (body : List Stmt) : Prop where
 at_ : ∃ oc od osl, c.K.lookup f = some ⟨oc, od, .func fd, osl⟩
 code : codeIn c.K fd.code fd.qualname = true
 body : fd.body = .stmts body
 clo : fd.closure = []
 co : fd.scope.isCoroutine = false
 gen : fd.scope.isGenerator = false
 kind : fd.scope.kind = .function
 nodup : (fd.scope.names.map (·.1)).Nodup
structure Binds (c : Cx) (fd : FuncData) (ks : List Str) (arr : List PV -> Option (List PV)) : Prop where
 own : (ks.all λ k => fd.scope.names.lookup k == some .local || fd.scope.names.lookup k == some .cell) = true
 bind : ∀ (F : Fx) (φ : List Addr) (μ : St) (s : Shared) (vs : List Value) (xs ys : List PV) (A : Around) (Q : List (Str × Value) -> Shared -> Prop) (E : Value -> Shared -> Prop), Rep c F φ μ s -> VRs φ s.heap vs xs -> arr xs = some ys ->
  (∀ ws sB, Rep c F φ μ sB -> Ext F.nss F.cls φ s.heap φ sB.heap -> (∀ a o, s.heap.get? a = some o -> sB.heap.get? a = some o) -> VRs φ sB.heap ws ys -> Q (ks.zip ws) sB) -> wpAny (model c.prog c.w) A (bindArgs fd ⟨vs, []⟩) Q E s
section
variable {c : Cx} {F : Fx}
theorem Rep.inB {φ : List Addr} {μ : St} {s : Shared} (R : Rep c F φ μ s) : c.K.In s.heap := λ a o h => R.keep a o (R.ok.kin a o h)
theorem Zbr : ∀ (names : List (Str × NameKind)) (n : Nat) (acc : List (Str × Addr)) (m : Nat), m <= n -> (∀ p ∈ acc, m <= p.2) -> ∀ p ∈ cellsFrom n names acc, m <= p.2
 | [], n, acc, m, h, ha => ha
 | (y, k) :: r, n, acc, m, h, ha => by
  unfold cellsFrom
  split
  ·refine Zbr r _ _ m (Nat.le_succ_of_le h) λ p hp => ?_
   rcases Qmc hp with e | hp
   ·rw [e]; exact h
   ·exact ha p hp
  ·exact Zbr r _ _ m h ha
theorem Zl8 {names : List (Str × NameKind)} {x : Str} (h : (names.lookup x == some .local || names.lookup x == some .cell) = true) (n : Nat) :
  names.lookup x = some .local ∨ (names.lookup x = some .cell ∧ ((cellsFrom n names []).lookup x).isSome = true) := by
 rw [Bool.or_eq_true] at h
 rcases h with h | h
 ·exact .inl (eq_of_beq h)
 ·exact .inr ⟨eq_of_beq h, Zaq x names n [] (.inl (mem_of_lookup (eq_of_beq h)))⟩
noncomputable def retO (fr : List PV) (μ : St) (m : MF) : Out PV := match m with
 | .ret v => .ok v ⟨fr, μ.hp⟩
 | .next => .ok .none ⟨fr, μ.hp⟩
 | _ => .bad
theorem Zqn {f : Addr} {fd : FuncData} {body : List Stmt} {ks : List Str} {arr frm : List PV -> Option (List PV)} {lv : Nat} {g : PM MF} (hf : FnAt c f fd body) (hbd : Binds c fd ks arr)
  (hfrm : ∀ xs fr, frm xs = some fr -> ∃ ys, arr xs = some ys ∧ fr = initFr fd.scope.names ks ys)
  (hbody : ∀ L outer, SimSS c (fxOf fd L f outer lv) body g) (hlv : lv + 1 <= F.lv) (hh : F.hd = true)
  {vs : List Value} {xs : List PV} {A : Around} {φ : List Addr} {μ : St} {s : Shared} {R : Result -> Shared -> Prop} (hA : ACtx F A) (Rp : Rep c F φ μ s) (hv : VRs φ s.heap vs xs) (hb : callF frm g xs μ ≠ .bad)
  (hQ : ∀ v y φ' μ' s', callF frm g xs μ = .ok y μ' -> Rep c F φ' μ' s' -> Ext F.nss F.cls φ s.heap φ' s'.heap -> VR φ' s'.heap v y -> R (.ok (.ret v)) s')
  (hE : ∀ e x φ' μ' s', callF frm g xs μ = .exc x μ' -> Rep c F φ' μ' s' -> Ext F.nss F.cls φ s.heap φ' s'.heap -> ExcR c (dom s.heap) φ' s'.heap e x -> R (.error e) s') :
  codeAny (model c.prog c.w) A (.call (.ref f) ⟨vs, []⟩) R s := by
 generalize hO : callF frm g xs μ = O at hb hQ hE
 unfold callF at hO
 cases hfr : frm xs with
 | none => rw [hfr] at hO; exact (hb hO.symm).elim
 | some fr =>
  rw [hfr] at hO
  obtain ⟨ys, hys, rfl⟩ := hfrm xs fr hfr
  dsimp only at hO
  obtain ⟨oc, od, osl, hlk⟩ := hf.at_
  have X := Rp.inB
  have hdep : A.depth < recursionLimit := by
   have := hA.depth
   have e : recursionLimit = 1000 := rfl
   lia
  refine codeAny_call_function hdep (X _ _ hlk) rfl hf.co hf.gen hf.body (codeRec_of X hf.code) ?_
  refine hbd.bind F φ μ s vs xs ys A.in1 _ _ Rp hv hys λ ws sB RB xB kB hw => ?_
  rw [hf.clo]
  refine wpAny_newFunctionEnv_cells hf.kind (λ p hp => Zl8 (all_eq_true.mp hbd.own p.1 ?_) _) λ env he sC x => ?_
  ·exact (List.of_mem_zip hp).1
  subst he
  obtain ⟨RC, x2, RG⟩ := RB.enter hw hf.kind hf.nodup rfl x lv
  have hnl : sC.heap.NoLimit := RC.ok.nolimit.keeps RC.keep
  have hcell : ∀ a ∈ (fxOf fd sB.heap.objs.size f F.frames lv).cls, sB.heap.objs.size <= a := λ a ha => by
   obtain ⟨p, hp, rfl⟩ := Qmm (show a ∈ (cellsFrom (sB.heap.objs.size + 1) fd.scope.names []).map (·.2) from ha)
   exact Zbr _ _ _ _ (Nat.le_succ _) (by simp) p hp
  have hAG : ACtx (fxOf fd sB.heap.objs.size f F.frames lv) (A.deeper (callEnvC fd sB.heap.objs.size f)) := by
   refine ⟨λ _ => hA.handled hh, ?_, hA.guards, ?_, ?_⟩
   ·show A.frames.map _ = _
    rw [hA.frames]; rfl
   ·show A.depth + 1 + 10 * lv <= 900
    have := hA.depth; lia
   ·show A.units + 3 + 100 * lv <= 9000
    have := hA.units; lia
  refine ⟨hnl, codeAny_func (hbody sB.heap.objs.size F.frames (A.deeper (callEnvC fd sB.heap.objs.size f)) φ _ sC _ _ hAG RG trivial (λ e => hb (by rw [<- hO]; unfold callM; rw [e])) (λ fl mf φ' μ' s' e R' x' r => ?_) λ e y φ' μ' s' he R' x' r => ?_)⟩
  ·have back := Rep.leave RB rfl hcell x2 x.toInCall.keep R' x'
   have eo : callM (initFr fd.scope.names ks ys) g μ = retO μ.fr μ' mf := by
    unfold callM; rw [e]; cases mf <;> rfl
   rw [eo] at hO
   induction r using FR.cs with
   | next => exact hQ _ _ φ' _ s' hO.symm back.1 (xB.trans back.2) .none
   | ret r => exact hQ _ _ φ' _ s' hO.symm back.1 (xB.trans back.2) r
   | brk => exact (hb hO.symm).elim
   | cont => exact (hb hO.symm).elim
  ·have eo : callM (initFr fd.scope.names ks ys) g μ = .exc y ⟨μ.fr, μ'.hp⟩ := by
    unfold callM; rw [he]
   rw [eo] at hO
   unfold leaving
   refine Qb (Zfo hAG R' (outer := F.frames) rfl r (λ h₁ N1 TB => ?_) x'.dom)
   refine Zb5 (s := { s' with heap := h₁ }) (R'.side (tk := s'.toks) N1.side) TB λ h₂ N2 TC => ?_
   have RG2 := (R'.side (tk := s'.toks) N1.side).side (tk := s'.toks) N2.side
   have xG := N2.ext (λ _ q => q) (N1.ext (λ _ q => q) x')
   have back := Rep.leave RB rfl hcell x2 x.toInCall.keep RG2 xG
   exact hE _ _ φ' _ { s' with heap := h₂ } hO.symm back.1 (xB.trans back.2) (TC.r.le λ a q => x2.dom a (xB.dom a q))
end

noncomputable def starItems (v : PV) : PM (List PV) := pItems v >>= λ xs => chk (lenOk xs) >>= λ _ => pure xs
section
variable {c : Cx} {F : Fx}
inductive CallArgs (c : Cx) (F : Fx) : List (Bool × Sem Value) -> PM (List PV) -> Prop
 | nil : CallArgs c F [] (pure [])
 | cons {t : Sem Value} {f : PM PV} {ts : List (Bool × Sem Value)} {g : PM (List PV)} : Sim c F NoP (λ φ h v x => VR φ h v x) t f -> CallArgs c F ts g -> CallArgs c F ((false, t) :: ts) (f >>= λ x => g >>= λ xs => pure (x :: xs))
 | star {t : Sem Value} {f : PM PV} : Sim c F NoP (λ φ h v x => VR φ h v x) t f -> CallArgs c F [(true, t)] (f >>= λ x => starItems x)
theorem Zid {v : Value} {x : PV} : Sim c F (λ φ h => VR φ h v x) (λ φ h vs xs => VRs φ h vs xs) (do if <- notIterableAtAll v then raiseError "TypeError" s!"" else collect v) (starItems x) ∧
  ∀ (A : Around) (φ : List Addr) (μ : St) (s : Shared) (Q : List Value -> Shared -> Prop) (E : Value -> Shared -> Prop), ACtx F A -> Rep c F φ μ s -> VR φ s.heap v x -> starItems x μ ≠ .bad ->
   (∀ vs xs s', starItems x μ = .ok xs μ -> Rep c F φ μ s' -> Ext F.nss F.cls φ s.heap φ s'.heap -> VRs φ s'.heap vs xs -> Q vs s') -> StarOf (model c.prog c.w) A E v Q s := by
 have main : ∀ (A : Around) (φ : List Addr) (μ : St) (s : Shared) (Q : List Value -> Shared -> Prop) (E : Value -> Shared -> Prop), ACtx F A -> Rep c F φ μ s -> VR φ s.heap v x -> starItems x μ ≠ .bad ->
   (∀ vs xs s', starItems x μ = .ok xs μ -> Rep c F φ μ s' -> Ext F.nss F.cls φ s.heap φ s'.heap -> VRs φ s'.heap vs xs -> Q vs s') -> StarOf (model c.prog c.w) A E v Q s := by
  intro A φ μ s Q E hA R r hb hQ
  have seq : ∀ (a : Addr) (T : String) (vs : List Value) (n : Nat) (xs : List PV), v = .ref a -> s.heap.get? a = some { cls := .type T, data := .seq vs.toArray n } -> (T = "list" ∨ T = "tuple") -> VRs φ s.heap vs xs -> pItems x μ = .ok xs μ -> StarOf (model c.prog c.w) A E v Q s := by
   intro a T vs n xs ev ho hT hvs hp
   subst ev
   unfold starItems at hb hQ
   rw [PM.C hp] at hb hQ
   obtain ⟨hl, e2⟩ := Zn hb
   rw [e2] at hQ
   have hT' : s.TypeIs (.ref a) T := ⟨_, ho, rfl⟩
   have z : wpAny (model c.prog c.w) A (collect (.ref a)) Q E s := by
    refine Z8 (wpAny_collect_seq a hT ho rfl rfl (λ h' hk size => ?_) (by rw [size_toArray, hvs.length]; exact Zz hl))
    obtain ⟨RB, xB⟩ := R.still (h' := h') (tk := s.toks) size hk
    exact hQ _ xs _ rfl RB xB (by simpa using hvs.ext R xB)
   unfold StarOf notIterableAtAll
   rcases hT with rfl | rfl
   ·exact Qb (wpAny_specialOf hT' PySem.F.slot_list_iter.lookup (Qp ⟨rfl, z⟩))
   ·exact Qb (wpAny_specialOf hT' PySem.F.slot_tuple_iter.lookup (Qp ⟨rfl, z⟩))
  have bad : pItems x μ = .bad -> False := λ e => hb (by unfold starItems; rw [PM.B, e])
  induction r using VR.cs with
  | tup h1 h4 h5 => exact seq _ "tuple" _ _ _ rfl h1 (.inr rfl) h5 rfl
  | lst h1 h4 h5 => exact seq _ "list" _ _ _ rfl h1 (.inl rfl) h5 rfl
  | @obj i a h1 =>
   cases hi : μ.hp[i]? with
   | none => exact (bad (by unfold pItems; simp only [hi])).elim
   | some ob =>
    have q := R.objs i a ob h1 hi
    cases q with
    | lst k1 k2 => exact seq _ "list" _ _ _ rfl k1 (.inl rfl) k2 (by unfold pItems; simp only [hi])
    | _ => exact (bad (by unfold pItems; simp only [hi])).elim
  | _ => exact (bad rfl).elim
 refine ⟨λ A φ μ s Q E hA R r hb hQ hE => ?_, main⟩
 have z := main A φ μ s (λ vs s' => Q vs s') E hA R r hb λ vs xs s' e R' x' r' => hQ vs xs φ μ s' e R' x' r'
 unfold StarOf at z
 refine Qb (wpAny_mono z (λ b sC h₂ => ?_) λ _ _ e => e)
 obtain ⟨rfl, h₂⟩ := h₂
 exact h₂
theorem Zcv {pos : Pos} {t : Sem Value} {ts : List (Bool × Sem Value)} : backTo pos ((false, t) :: ts) = (false, t) :: backTo pos ts := rfl
theorem Ze8 {pos : Pos} {t : Sem Value} : backTo pos [(true, t)] = [(true, (do let v <- t; standAt pos; pure v))] := rfl
theorem Zf5 {pos : Pos} {ts : List (Bool × Sem Value)} {g : PM (List PV)} (h : CallArgs c F ts g) : Sim c F NoP (λ φ h v x => VRs φ h v x) (spliced (backTo pos ts)) g := by
 induction h with
 | nil => exact λ A φ μ s Q E hA R p hb hQ hE => spliced_nil (hQ _ _ _ _ _ rfl R Ext.refl .nil)
 | @cons t f ts g ht hts ih =>
  intro A φ μ s Q E hA R p hb hQ hE
  rw [Zcv]
  refine spliced_cons (ht.use hA R p hb hE λ a b φ' μ' s' eg R' x r => ?_)
  rw [eg] at hb hQ hE
  refine (ih.keep (v := a) (x := b)).use hA R' r hb (λ e y φ' μ' s' he R' x' r => hE e y φ' μ' s' he R' (x.trans x') (r.le x.dom)) λ aC bC φ2 μ2 sC eg RC x2 rC => ?_
  rw [eg] at hQ
  exact hQ _ _ _ _ _ rfl RC (x.trans x2) (.cons rC.1 rC.2)
 | @star t f ht =>
  intro A φ μ s Q E hA R p hb hQ hE
  rw [Ze8]
  refine ks_spliced (ht.use hA R p hb hE λ a b φ' μ' s' eg R' x r => ?_)
  rw [eg] at hb hQ hE
  refine (Zid (c := c) (F := F)).2 A φ' μ' s' _ _ hA R' r hb λ vs xs s'' e R'' x'' r'' => spliced_nil ?_
  rw [append_nil]
  exact hQ _ _ _ _ _ e R'' (x.trans x'') r''
theorem Zdu {f : Value} {pos : Pos} {ts : List (Bool × Sem Value)} {g : PM (List PV)} (h : CallArgs c F ts g) : Sim c F NoP (λ φ h (a : Args) x => VRs φ h a.pos x ∧ a.kw = []) (evalArgs f true (backTo pos ts) []) g := by
 intro A φ μ s Q E hA R p hb hQ hE
 cases h with
 | nil => exact PySem.evalArgs_none (hQ _ _ _ _ _ rfl R Ext.refl ⟨.nil, rfl⟩)
 | @cons t f ts g ht hts =>
  rw [Zcv]
  refine evalArgs_plain ?_
  rw [<- Zcv]
  exact Zf5 (.cons ht hts) A φ μ s _ _ hA R p hb (λ a b φ' μ' s' e R' x r => hQ ⟨a, []⟩ b φ' μ' s' e R' x ⟨r, rfl⟩) hE
 | @star t f ht =>
  rw [Ze8]
  refine ks_lone (ht.use hA R p hb hE λ a b φ' μ' s' eg R' x r => ?_)
  rw [eg] at hb hQ hE
  exact (Zid (c := c) (F := F)).2 A φ' μ' s' _ _ hA R' r hb λ vs xs s'' e R'' x'' r'' => hQ ⟨vs, []⟩ _ _ _ _ e R'' (x.trans x'') ⟨r'', rfl⟩
theorem Zax {pos : Pos} {f : Value} {first : List Value} {ts : List (Bool × Sem Value)} {g : PM (List PV)} {β : Type} {k : List PV -> PM β} {P : List Addr -> Heap -> Prop} {RR : List Addr -> Heap -> Value -> β -> Prop} (hargs : CallArgs c F ts g)
  (hP : ∀ φ μ s φ' h', Rep c F φ μ s -> Ext F.nss F.cls φ s.heap φ' h' -> P φ s.heap -> P φ' h')
  (hkeep : ∀ φ h, c.K.In h -> P φ h -> ∃ k, (k = Keeper.frame ∨ k = Keeper.machine ∨ k = Keeper.boundFrame) ∧ Looks (model c.prog c.w) h (keeperOf f) k)
  (hcall : ∀ vs ys, Sim c F (λ φ h => P φ h ∧ VRs φ h vs ys) RR (call f (first ++ vs)) (k ys)) :
  Sim c F P RR (callWith pos f first (backTo pos ts) []) (g >>= k) := by
 intro A φ μ s Q E hA R p hb hQ hE
 have core : wpAny (model c.prog c.w) A (evalArgs f true (backTo pos ts) []) (λ a sB => (∃ φ, c.K.In sB.heap ∧ P φ sB.heap) ∧ wpAny (model c.prog c.w) A (call f (first ++ a.pos) a.kw) Q E sB) E s := by
  refine (Zdu hargs).use hA R trivial hb hE λ a b φ' μ' s' eg R' x r => ?_
  rw [eg] at hb hQ hE
  obtain ⟨ap, akw⟩ := a
  obtain ⟨r1, r2⟩ := r
  obtain rfl : akw = [] := r2
  exact ⟨⟨φ', R'.inB, hP _ _ _ _ _ R x p⟩, (hcall ap b).fin hA R' ⟨hP _ _ _ _ _ R x p, r1⟩ rfl x hb hQ hE⟩
 have hk : ∀ h, (∃ φ, c.K.In h ∧ P φ h) -> ∃ k, (k = Keeper.frame ∨ k = Keeper.machine ∨ k = Keeper.boundFrame) ∧ Looks (model c.prog c.w) h (keeperOf f) k := λ h ⟨φ, a, b⟩ => hkeep φ h a b
 cases hst : (backTo pos ts).any (·.1) with
 | true => exact ks_call hst hk core
 | false => exact callWith_of (by rw [hst]; rfl) hk core
theorem NoP.stable : ∀ φ μ s φ' h', Rep c F φ μ s -> Ext F.nss F.cls φ s.heap φ' h' -> NoP φ s.heap -> NoP φ' h' := λ _ _ _ _ _ _ _ _ => trivial
end

section
variable {c : Cx} {F : Fx}
theorem Rep.glob {φ : List Addr} {μ : St} {s : Shared} (R : Rep c F φ μ s) : s.heap.Ns mainGlobals c.mg := R.ok.glob.keeps R.keep
theorem Rep.bui {φ : List Addr} {μ : St} {s : Shared} (R : Rep c F φ μ s) : s.heap.Ns builtinsNs c.mb := R.ok.bui.keeps R.keep
theorem Zl9 {x : Str} {pos : Pos} {v : Value} {pv : PV} (hk : F.env.scope.kind = .function) (hg : F.env.globals = mainGlobals) (hx : F.env.kindOf x = some .globalImplicit) (hd : (x == ("__debug__" : Str)) = false)
  (e : nsIn c.K mainGlobals x = some (some v)) (hv : ∀ φ h, VR φ h v pv) : SimE c F (.Name x pos) (pure pv) := λ A φ μ s Q E hA R p hb hQ hE =>
 Name_function_global hk hx (loadGlobal_global (by rw [hg]; exact R.glob) (mg_of R.ok.kin R.ok.glob e) (hQ _ _ _ _ _ rfl R Ext.refl (hv _ _))) hd
theorem Zbi {x : Str} {np pos : Pos} {args : List Expr} {f : Value} {g : PM (List PV)} {k : List PV -> PM PV}
  (hn : ∀ A φ μ s Q (E : Value -> Shared -> Prop), ACtx F A -> Rep c F φ μ s -> Q f s -> wpAny (model c.prog c.w) A (eval (.Name x np) F.env) Q E s)
  (hargs : CallArgs c F (starEach args F.env) g)
  (hkeep : ∀ φ h, c.K.In h -> NoP φ h -> ∃ k, (k = Keeper.frame ∨ k = Keeper.machine ∨ k = Keeper.boundFrame) ∧ Looks (model c.prog c.w) h (keeperOf f) k)
  (hcall : ∀ vs ys, Sim c F (λ φ h => VRs φ h vs ys) (λ φ h v x => VR φ h v x) (call f vs) (k ys)) : SimE c F (.Call (.Name x np) args [] pos) (g >>= k) := λ A φ μ s Q E hA R p hb hQ hE => by
 refine Call_Name rfl (hn A φ μ s _ _ hA R ?_)
 exact Zax hargs NoP.stable hkeep (λ vs ys => (hcall vs ys).mono (λ _ _ h => h.2) λ _ _ _ _ h => h) A φ μ s Q E hA R trivial hb hQ hE
theorem Zkj {x : Str} {np : Pos} {v : Value} (hk : F.env.scope.kind = .function) (hg : F.env.globals = mainGlobals) (hx : F.env.kindOf x = some .globalImplicit) (hd : (x == ("__debug__" : Str)) = false)
  (e : nsIn c.K mainGlobals x = some (some v)) : ∀ A φ μ s Q (E : Value -> Shared -> Prop), ACtx F A -> Rep c F φ μ s -> Q v s -> wpAny (model c.prog c.w) A (eval (.Name x np) F.env) Q E s :=
 λ A φ μ s Q E hA R h => Name_function_global hk hx (loadGlobal_global (by rw [hg]; exact R.glob) (mg_of R.ok.kin R.ok.glob e) h) hd
theorem Zo1 {x : Str} {np : Pos} {v : Value} (hk : F.env.scope.kind = .function) (hg : F.env.globals = mainGlobals) (hbn : F.env.builtins = builtinsNs) (hx : F.env.kindOf x = some .globalImplicit) (hd : (x == ("__debug__" : Str)) = false)
  (e : nsIn c.K mainGlobals x = some none) (hb' : bootBuiltins x = some v) (hn : x ≠ "__name__") : ∀ A φ μ s Q (E : Value -> Shared -> Prop), ACtx F A -> Rep c F φ μ s -> Q v s -> wpAny (model c.prog c.w) A (eval (.Name x np) F.env) Q E s :=
 λ A φ μ s Q E hA R h => Name_function_global hk hx (loadGlobal_builtin (by rw [hg]; exact R.glob) (mg_none_of R.ok.kin R.ok.glob e) (by rw [hbn]; exact R.bui) ((R.ok.boot x hn).trans hb') h) hd
theorem Zie {id : String} : ∀ φ h, c.K.In h -> NoP φ h -> ∃ k, (k = Keeper.frame ∨ k = Keeper.machine ∨ k = Keeper.boundFrame) ∧ Looks (model c.prog c.w) h (keeperOf (.builtin id)) k := λ _ _ _ _ => ⟨.machine, .inr (.inl rfl), Looks.of_pure rfl⟩
theorem Zns {id : String} : ∀ φ h, c.K.In h -> NoP φ h -> ∃ k, (k = Keeper.frame ∨ k = Keeper.machine ∨ k = Keeper.boundFrame) ∧ Looks (model c.prog c.w) h (keeperOf (.type id)) k := λ _ _ _ _ => ⟨.machine, .inr (.inl rfl), Looks.of_pure rfl⟩
theorem Zk9 {f : Addr} {fd : FuncData} {body : List Stmt} (hf : FnAt c f fd body) : ∀ φ h, c.K.In h -> NoP φ h -> ∃ k, (k = Keeper.frame ∨ k = Keeper.machine ∨ k = Keeper.boundFrame) ∧ Looks (model c.prog c.w) h (keeperOf (.ref f)) k := λ _ _ X _ => by
 obtain ⟨oc, od, osl, hlk⟩ := hf.at_
 exact ⟨.frame, .inl rfl, (Looks.ld (part := none) (X _ _ hlk)).andThen .now⟩
end

noncomputable def notRaw : PV -> Bool
 | .raw _ => false
 | .undef => false
 | _ => true
theorem Zg6 {φ : List Addr} {h : Heap} {v : Value} {x : PV} (r : VR φ h v x) (e : notRaw x = true) : handedIn v = true := by
 induction r using VR.cs <;> first | rfl | cases e
noncomputable def ownNs (C : Addr) (o : PV) (μ : St) : Option (Nat × List (Str × PV)) := match o with
 | .obj i => (match μ.hp[i]? with
  | some (.ins C' d) => (match decide (C' = C), μ.hp[d]? with
   | true, some (.ns fs) => some (d, fs)
   | _, _ => none)
  | _ => none)
 | _ => none
noncomputable def pAttr (C : Addr) (name : Str) (o : PV) : PM PV := λ μ => match ownNs C o μ with
 | some (_, fs) => (match fs.lookup name with
  | some x => (match notRaw x with
   | true => .ok x μ
   | false => .bad)
  | none => .bad)
 | none => .bad
noncomputable def eAttr (C : Addr) (name : Str) (f : PM PV) : PM PV := f >>= pAttr C name
noncomputable def pSlot (C : Addr) (k : Nat) (o : PV) : PM PV := λ μ => match o with
 | .obj i => (match μ.hp[i]? with
  | some (.slt C' _ fs) => (match decide (C' = C), (fs[k]?).join with
   | true, some x => (match notRaw x with
    | true => .ok x μ
    | false => .bad)
   | _, _ => .bad)
  | _ => .bad)
 | _ => .bad
noncomputable def eSlot (C : Addr) (k : Nat) (f : PM PV) : PM PV := f >>= pSlot C k
structure OwnName (c : Cx) (C : Addr) (name : Str) : Prop where
 find : findIn c.K (.ref C) name = some none
 cls : (clsIn c.K C).any (·.hasDict) = true
 ga : findIn c.K (.ref C) "__getattribute__" = some (some (.builtin "object.__getattribute__"))
structure SlotName (c : Cx) (C : Addr) (name : Str) (k : Nat) : Prop where
 find : ∃ p, (∀ od, findObj c.K C od name = some (.bind (.builtin "member_descriptor.__get__") (.ref p))) ∧ slotIn c.K p C = some k ∧ takerIn c.K C name = some (some (.ref p)) ∧ typeIn c.K (.ref p) = some (.type "member_descriptor")
 ga : findIn c.K (.ref C) "__getattribute__" = some (some (.builtin "object.__getattribute__"))
 gattr : findIn c.K (.ref C) "__getattr__" = some none
theorem Zdb {φ : List Addr} {h : Heap} {name : Str} {ds : List DictEntry} {fs : List (Str × PV)} (r : NRs φ h ds fs) : (∀ x, fs.lookup name = some x -> ∃ e, ds.find? (·.key.isStr name) = some e ∧ VR φ h e.val x) ∧ (fs.lookup name = none -> ds.find? (·.key.isStr name) = none) ∧ ds.any (·.refKey) = false := by
 induction r with
 | nil => exact ⟨λ x e => by simp at e, λ _ => rfl, rfl⟩
 | @cons k t e x ds es hk hv hr ih =>
  obtain ⟨i1, i2, i3⟩ := ih
  have ek : e.key.isStr name = (k == name) := by rw [hk]; rfl
  have rk : e.refKey = false := by unfold DictEntry.refKey; rw [hk]
  refine ⟨λ x h => ?_, λ h => ?_, ?_⟩
  ·rw [List.find?_cons, ek]
   rw [lookup_cons] at h
   by_cases q : name = k
   ·subst q; simp at h ⊢; subst h; exact hv
   ·have q1 : (name == k) = false := by simpa using q
    have q2 : (k == name) = false := by simpa using λ e => q e.symm
    rw [q1] at h; rw [q2]; exact i1 x h
  ·rw [List.find?_cons, ek]
   rw [lookup_cons] at h
   by_cases q : name = k
   ·subst q; simp at h
   ·have q1 : (name == k) = false := by simpa using q
    have q2 : (k == name) = false := by simpa using λ e => q e.symm
    rw [q1] at h; rw [q2]; exact i2 h
  ·rw [any_cons, rk, i3]; rfl
section
variable {c : Cx} {F : Fx} {φ : List Addr} {μ : St} {s : Shared}
theorem Znt {C : Addr} {x : PV} {μ : St} {d : Nat} {fs : List (Str × PV)} (e : ownNs C x μ = some (d, fs)) : ∃ i, x = .obj i ∧ μ.hp[i]? = some (.ins C d) ∧ μ.hp[d]? = some (.ns fs) := by
 cases x with
 | obj i =>
  unfold ownNs at e
  dsimp only at e
  cases hi : μ.hp[i]? with
  | none => rw [hi] at e; exact Zf e
  | some o =>
   rw [hi] at e
   cases o with
   | ins C' d' =>
    dsimp only at e
    cases hC : decide (C' = C) with
    | false => rw [hC] at e; exact Zf e
    | true =>
     rw [hC] at e
     cases hd : μ.hp[d']? with
     | none => rw [hd] at e; exact Zf e
     | some od =>
      rw [hd] at e
      cases od with
      | ns fs' => cases e; exact ⟨i, rfl, of_decide_eq_true hC ▸ hi, hd⟩
      | _ => exact Zf e
   | _ => exact Zf e
 | _ => exact Zf e
theorem Zf6 (R : Rep c F φ μ s) {C : Addr} {v : Value} {x : PV} {d : Nat} {fs : List (Str × PV)} (r : VR φ s.heap v x) (e : ownNs C x μ = some (d, fs)) :
  ∃ a dx ds n, v = .ref a ∧ φ[d]? = some dx ∧ s.heap.get? a = some { cls := .ref C, dict := some dx, data := .plain } ∧ s.heap.get? dx = some { cls := .type "dict", data := .dict ds.toArray n } ∧ NRs φ s.heap ds fs := by
 obtain ⟨i, rfl, hi, hd⟩ := Znt e
 obtain ⟨a, rfl, h1⟩ := r.un_obj rfl
 obtain ⟨dx, k1, k2⟩ := (R.objs i a _ h1 hi).inv_ins rfl
 obtain ⟨ds, n, g1, g2⟩ := (R.objs d dx _ k1 hd).inv_ns rfl
 exact ⟨a, dx, ds, n, rfl, k1, k2, g1, g2⟩
theorem Zkk {K : Frag} {C : Addr} {od : Obj} {name : Str} {v : Value} (h1 : findIn K (.ref C) name = some none) (h2 : (clsIn K C).any (·.hasDict) = true) (h3 : lookIn name od = some (some v)) : findObj K C (some od) name = some (.value v) := by
 obtain ⟨cd, hc, hd⟩ := any_some h2
 unfold findObj
 rw [hc, Option.bind_some, h1, Option.bind_some]
 dsimp only [Option.bind_some]
 unfold PySem.W.ownOf
 rw [hd, if_pos rfl]
 dsimp only
 rw [h3]; rfl
theorem Zdv {C : Addr} {name : Str} (hC : OwnName c C name) {v : Value} {x : PV} : Sim c F (λ φ h => VR φ h v x) (λ φ h v x => VR φ h v x) (getAttr v name true) (pAttr C name x) := by
 intro A φ μ s Q E hA R p hb hQ hE
 unfold pAttr at hb hQ
 cases ho : ownNs C x μ with
 | none => rw [ho] at hb; exact (hb rfl).elim
 | some df =>
  obtain ⟨d, fs⟩ := df
  rw [ho] at hb hQ
  dsimp only at hb hQ
  obtain ⟨a, dx, ds, n, rfl, h1, h2, h3, h4⟩ := Zf6 R p ho
  cases hl : fs.lookup name with
  | none => rw [hl] at hb; exact (hb rfl).elim
  | some y =>
   rw [hl] at hb hQ
   dsimp only at hb hQ
   cases hr : notRaw y with
   | false => rw [hr] at hb; exact (hb rfl).elim
   | true =>
    rw [hr] at hQ
    obtain ⟨i1, i2, i3⟩ := Zdb (name := name) h4
    obtain ⟨e, he, hv⟩ := i1 y hl
    refine get_value (od := some { cls := .type "dict", data := .dict ds.toArray n }) R.inB ⟨h2, rfl, rfl, h3⟩ hC.ga (Zkk hC.find hC.cls (v := e.val) ?_) (Zg6 hv hr) (hQ _ _ _ _ _ rfl (R.toks _) Ext.refl hv)
    unfold lookIn
    dsimp only
    rw [he]
theorem Zi {C : Addr} {name : Str} (hC : OwnName c C name) {o : Expr} {pos : Pos} {f : PM PV} (hf : SimE c F o f) (he : attributeBase o name F.env (eval o F.env) = eval o F.env) : SimE c F (.Attribute o name pos) (eAttr C name f) := λ A φ μ s Q E hA R p hb hQ hE => by
 unfold eAttr at hb hQ hE
 refine Attribute_any_ (hf.use hA R p hb hE λ a b φ' μ' s' eg R' x r => ?_) (by rw [arm_eval_Attribute, he])
 rw [eg] at hb hQ hE
 exact (Zdv hC).fin hA R' r rfl x hb hQ hE
end
end Mine
namespace Mine
open PySem PySem.W PyProof.Rows PySem.Calls Builtin Builtin.ObjectAttr

noncomputable def nsPut (n : Str) (x : PV) : List (Str × PV) -> List (Str × PV)
 | [] => [(n, x)]
 | (k, y) :: r => match k == n with
  | true => (k, x) :: r
  | false => (k, y) :: nsPut n x r
theorem Zla {n : Str} {x : PV} {e : Str × PV} {r : List (Str × PV)} : nsPut n x (e :: r) = (match e.1 == n with | true => (e.1, x) :: r | false => (e.1, e.2) :: nsPut n x r) := rfl
noncomputable def pSetAttr (C : Addr) (name : Str) (o y : PV) : PM Unit := λ μ => match ownNs C o μ with
 | some (d, fs) => (match decide (fs.length <= 100) with
  | true => .ok () { fr := μ.fr, hp := μ.hp.set d (.ns (nsPut name y fs)) }
  | false => .bad)
 | none => .bad
noncomputable def pSetSlot (C : Addr) (k : Nat) (o y : PV) : PM Unit := λ μ => match o with
 | .obj i => (match μ.hp[i]? with
  | some (.slt C' d fs) => (match decide (C' = C), decide (k < 100) with
   | true, true => .ok () { fr := μ.fr, hp := μ.hp.set i (.slt C' d ((fs ++ List.replicate (k + 1 - fs.length) none).set k (some y))) }
   | _, _ => .bad)
  | _ => .bad)
 | _ => .bad
theorem Zlb {φ : List Addr} {h : Heap} {ds : List DictEntry} {fs : List (Str × PV)} (r : NRs φ h ds fs) : ds.length = fs.length := by
 induction r with
 | nil => rfl
 | cons _ _ _ ih => exact congrArg Nat.succ ih
theorem Zlc {φ : List Addr} {h : Heap} {name : Str} {v : Value} {y : PV} {hs : Int} {t : Tok} (hv : VR φ h v y) {ds : List DictEntry} {fs : List (Str × PV)} (r : NRs φ h ds fs) :
  (∀ i, ds.findIdx? (·.key.isStr name) = some i -> NRs φ h (ds.modify i λ e => { e with val := v }) (nsPut name y fs)) ∧ (ds.findIdx? (·.key.isStr name) = none -> NRs φ h (ds ++ [⟨hs, .str name t, v⟩]) (nsPut name y fs)) := by
 induction r with
 | nil => exact ⟨λ i e => Zf e, λ _ => .cons rfl hv .nil⟩
 | @cons k t' e x ds es hk hv' hr ih =>
  obtain ⟨i1, i2⟩ := ih
  have ek : e.key.isStr name = (k == name) := by rw [hk]; rfl
  refine ⟨λ i h => ?_, λ h => ?_⟩
  ·rw [List.findIdx?_cons, ek] at h
   rw [Zla]
   cases q : (k == name) with
   | true =>
    rw [q] at h; simp at h; subst h
    exact .cons (t := t') hk hv hr
   | false =>
    rw [q] at h
    simp only [Bool.false_eq_true, if_false] at h
    cases hf : List.findIdx? (λ x => x.key.isStr name) ds with
    | none => rw [hf] at h; cases h
    | some j =>
     rw [hf] at h; cases h
     exact .cons (t := t') hk hv' (i1 j hf)
  ·rw [List.findIdx?_cons, ek] at h
   rw [Zla]
   cases q : (k == name) with
   | true => rw [q] at h; simp at h
   | false =>
    rw [q] at h
    simp only [Bool.false_eq_true, if_false, Option.map_eq_none_iff] at h
    exact .cons (t := t') hk hv' (i2 h)
structure OwnStore (c : Cx) (C : Addr) (name : Str) : Prop where
 plain : plainOver c.K C = true
 cls : (clsIn c.K C).any (·.hasDict) = true
 taker : takerIn c.K C name = some none
 sa : findIn c.K (.ref C) "__setattr__" = some (some (.builtin "object.__setattr__"))
section
variable {c : Cx} {F : Fx} {φ : List Addr} {μ : St} {s : Shared}
theorem Zaf {C : Addr} {name : Str} (hC : OwnStore c C name) {v w : Value} {x y : PV} : Sim c F (V2 v w x y) (λ _ _ _ _ => True) (setAttr v name w) (pSetAttr C name x y) := by
 intro A φ μ s Q E hA R p hb hQ hE
 obtain ⟨rx, ry⟩ := p
 unfold pSetAttr at hb hQ
 cases ho : ownNs C x μ with
 | none => rw [ho] at hb; exact (hb rfl).elim
 | some df =>
  obtain ⟨d, fs⟩ := df
  rw [ho] at hb hQ
  dsimp only at hb hQ
  obtain ⟨a, dx, ds, n, rfl, h1, h2, h3, h4⟩ := Zf6 R rx ho
  cases hl : decide (fs.length <= 100) with
  | false => rw [hl] at hb; exact (hb rfl).elim
  | true =>
   rw [hl] at hQ
   dsimp only at hQ
   have hlen := of_decide_eq_true hl
   have I : InstAt s.heap a { cls := .ref C, dict := some dx, data := .plain } C (some { cls := .type "dict", data := .dict ds.toArray n }) := ⟨h2, rfl, rfl, h3⟩
   refine set_plain R.inB I hC.sa (osa_open (s := { s with toks := s.toks + 1 }) R.inB I hC.plain hC.taker λ b => ?_)
   obtain ⟨cd, hc, hd'⟩ := any_some hC.cls
   show wpAny _ _ (storeInOwnDict _ _ _ _ _ _) _ _ _
   refine Qb (Qp (Qb (Qb (wpAny_loadPart h2 (Qb ((looks_clsIn (R.toks (s.toks + 1)).inB hc).here ?_))))))
   rw [hd']
   refine Qp (a := some dx) (Qb (Qp (Qb ?_)))
   unfold nsSet
   refine Qb (Qb (wpAny_askSetting (Qp (Qb (wpAny_mkText (Qb (wpAny_loadPart h3 ?_)))))))
   dsimp only
   obtain ⟨_, _, hrk⟩ := Zdb (name := name) h4
   have cc : (!ds.toArray.any (·.key.isStr name) && ds.toArray.any (·.refKey)) = false := by
    rw [show ds.toArray.any (·.refKey) = false from by rw [List.any_toArray]; exact hrk, Bool.and_false]
   rw [aRefKeyMayBeTheName_at, cc]
   refine wpAny_updatePart h3 ?_
   have hput : ∀ (f : Obj -> Obj), f = Obj.putName name (if name.cps.isEmpty = true then 0 else reduceHash ((model c.prog c.w).w.params.strHash name.cps)) (.str name (s.toks + 1)) w ->
     ∃ ds' n', (s.heap.update dx f).get? dx = some { cls := .type "dict", data := .dict ds'.toArray n' } ∧ ds'.length <= 101 ∧ ∀ h', VR φ h' w y -> NRs φ h' ds fs -> NRs φ h' ds' (nsPut name y fs) := by
    intro f hf
    subst hf
    cases hi : ds.findIdx? (·.key.isStr name) with
    | some i =>
     refine ⟨ds.modify i λ e => { e with val := w }, n, ?_, ?_, λ h' r1 r2 => (Zlc (hs := 0) (t := 0) r1 r2).1 i hi⟩
     ·refine (Heap.get?_update_self _ h3 ?_).trans ?_ <;> simp only [Obj.putName_eq, Obj.putNameByArray, List.findIdx?_toArray, hi] <;> (try simp) <;> rfl
     ·rw [List.length_modify, Zlb h4]; omega
    | none =>
     refine ⟨ds ++ [⟨if name.cps.isEmpty = true then 0 else reduceHash ((model c.prog c.w).w.params.strHash name.cps), .str name (s.toks + 1), w⟩], n + 1, ?_, ?_, λ h' r1 r2 => (Zlc r1 r2).2 hi⟩
     ·refine (Heap.get?_update_self _ h3 ?_).trans ?_ <;> simp only [Obj.putName_eq, Obj.putNameByArray, List.findIdx?_toArray, hi] <;> (try simp) <;> rfl
     ·rw [length_append, Zlb h4]; simp; omega
   obtain ⟨ds', n', g1, g2, g3⟩ := hput _ rfl
   refine Qb (wpAny_lookBehind g1 (pastItsLine_dict (by rw [size_toArray, sizeLine_eq]; omega)) ?_)
   obtain ⟨RB, xB⟩ := R.upd (tk := s.toks + 1 + 1) (o := .ns (nsPut name y fs)) h1 (Heap.SameBut.update s.heap dx _) λ hm => .ns g1 (g3 _ (hm _ _ ry) (h4.move hm))
   exact Qp (hQ _ _ _ _ _ rfl RB xB trivial)
end
end Mine
namespace Mine
open PySem PySem.W PyProof.Rows PySem.Calls Builtin Builtin.ObjectAttr Builtin.Getset_descriptor

theorem Zqo {φ : List Addr} {h : Heap} {vs : List (Option Value)} {xs : List (Option PV)} (r : ORs φ h vs xs) : ∀ {k : Nat} {x : PV}, (xs[k]?).join = some x -> ∃ v, (vs[k]?).join = some v ∧ VR φ h v x := by
 induction r with
 | nil => exact λ e => nomatch e
 | none b ih => exact λ {k x} q => match k, q with
  | 0, q => nomatch q
  | k + 1, q => ih (k := k) q
 | some a b ih => exact λ {k x} q => match k, q with
  | 0, q => by cases q; exact ⟨_, rfl, a⟩
  | k + 1, q => ih (k := k) q
theorem Zqp {φ : List Addr} {h : Heap} {vs : List (Option Value)} {xs : List (Option PV)} (r : ORs φ h vs xs) : vs.length = xs.length := by
 induction r with
 | nil => rfl
 | none _ ih => exact congrArg Nat.succ ih
 | some _ _ ih => exact congrArg Nat.succ ih
theorem Zqq {φ : List Addr} {h : Heap} (n : Nat) {vs : List (Option Value)} {xs : List (Option PV)} (r : ORs φ h vs xs) : ORs φ h (vs ++ List.replicate n none) (xs ++ List.replicate n none) := by
 induction r with
 | none _ ih => exact .none ih
 | some a _ ih => exact .some a ih
 | nil =>
  induction n with
  | zero => exact .nil
  | succ n ih => exact .none ih
theorem Zqr {φ : List Addr} {h : Heap} {v : Value} {x : PV} (hv : VR φ h v x) {vs : List (Option Value)} {xs : List (Option PV)} (r : ORs φ h vs xs) : ∀ k, ORs φ h (vs.set k (some v)) (xs.set k (some x)) := by
 induction r with
 | nil => exact λ _ => .nil
 | none b ih => exact λ k => match k with
  | 0 => .some hv b
  | k + 1 => .none (ih k)
 | some a b ih => exact λ k => match k with
  | 0 => .some hv b
  | k + 1 => .some a (ih k)
theorem slotsArr {α : Type} (l : List α) (n k : Nat) (a b : α) : (l.toArray ++ Array.replicate n a).setIfInBounds k b = ((l ++ List.replicate n a).set k b).toArray := by
 apply Array.toList_inj.mp
 simp
structure SlotStore (c : Cx) (C : Addr) (name : Str) (k : Nat) : Prop extends SlotName c C name k where
 plain : plainOver c.K C = true
 sa : findIn c.K (.ref C) "__setattr__" = some (some (.builtin "object.__setattr__"))
section
variable {c : Cx} {F : Fx} {φ : List Addr} {μ : St} {s : Shared}
theorem Zdw {C : Addr} {name : Str} {k : Nat} (hC : SlotName c C name k) {v : Value} {x : PV} : Sim c F (λ φ h => VR φ h v x) (λ φ h v x => VR φ h v x) (getAttr v name true) (pSlot C k x) := by
 intro A φ μ s Q E hA R p
 refine gen λ O hO hb hQ hE => ?_
 unfold pSlot at hO
 induction p using VR.cs with
 | @obj i a h1 =>
  dsimp only at hO
  cases hi : μ.hp[i]? with
  | none => rw [hi] at hO; exact (hb hO.symm).elim
  | some ob =>
   rw [hi] at hO
   have q := R.objs i a ob h1 hi
   induction q using OR.cs with
   | @slt C' d dx sl fs k0 k1 k2 =>
    dsimp only at hO
    cases hC' : decide (C' = C) with
    | false => rw [hC'] at hO; exact (hb hO.symm).elim
    | true =>
     have e := of_decide_eq_true hC'
     subst e
     cases hx : (fs[k]?).join with
     | none => rw [hC', hx] at hO; exact (hb hO.symm).elim
     | some y =>
      rw [hC', hx] at hO
      dsimp only at hO
      cases hr : notRaw y with
      | false => rw [hr] at hO; exact (hb hO.symm).elim
      | true =>
       rw [hr] at hO
       obtain ⟨w, hw, hv⟩ := Zqo k2 hx
       obtain ⟨p, f1, f2, _⟩ := hC.find
       obtain ⟨odx, hodx⟩ := R.lt (mem_of_getElem? k0)
       have I : InstAt s.heap a { cls := .ref C', dict := some dx, data := .plain, slots := sl.toArray } C' (some odx) := ⟨k1, rfl, rfl, hodx⟩
       refine get_bind R.inB I hC.ga (f1 _) hC.gattr (wpAny_call (slot_get (s := { s with toks := s.toks + 1 }) (R.toks (s.toks + 1)).inB I f2 (v := w) (by simpa using hw) ?_))
       show wpAny _ _ (handedOut w) _ _ _
       rw [handedOut_of (Zg6 hv hr)]
       exact Qp (hQ _ _ _ _ _ hO.symm (R.toks _) Ext.refl hv)
   | _ => exact (hb hO.symm).elim
 | _ => exact (hb hO.symm).elim
theorem Zma {prog : Program} {w : World} {A : Around} {K : Frag} {x C : Addr} {s : Shared} {R : Result -> Shared -> Prop} {ox : Obj} {od : Option Obj} {v : Value} {p i : Nat} (X : K.In s.heap) (I : InstAt s.heap x ox C od)
  (hp : slotIn K p C = some i) (hi : i < 1000)
  (h : R (.ok (.ret .none)) { s with heap := s.heap.update x λ o => { o with slots := (o.slots ++ Array.replicate (i + 1 - o.slots.size) none).setIfInBounds i (some v) } }) :
  codeAny (model prog w) A (.call (.builtin "member_descriptor.__set__") ⟨[.ref p, .ref x, v], []⟩) R s := by
 obtain ⟨n, tn, owner, behind, tb, d, sl, cd, ho, hc, hm, hb, rfl⟩ := slot_of X hp
 obtain ⟨hh, g, dr, t, os⟩ := s
 have T0 := I.type (M := model prog w)
 have T1 := looks_mroIn (M := model prog w) X hm
 have T2 : Looks (model prog w) hh (Slots.slotNamesOf (.ref C)) cd.slotNames := (looks_clsIn X hc).andThen .now
 have hx := I.at_
 dsimp only at ho hx T0 T1
 have f0 := looks_field (M := model prog w) ho 0 (v := .str n tn) rfl
 have f1 := looks_field (M := model prog w) ho 1 (v := owner) rfl
 have f3 := looks_field (M := model prog w) ho 3 (v := .builtin "proto.slot#set") rfl
 have f4 := looks_field (M := model prog w) ho 4 (v := .int behind tb) rfl
 have f5 : Looks (model prog w) hh (descrItself (.ref p)) [.ref p] := ((Looks.ld (part := none) ho).andThen .now).andThen (Looks.of_pure (by kernel_rfl))
 refine codeAny_call_builtin KF.slot_mset.plain KF.entry_mset (KF.slot_mset.check _ _ _ _ _ _ _ _ ⟨_, ho, rfl⟩ (KF.args_mset _ _ _) ?_)
 unfold Builtin.«member_descriptor.__set__» Builtin.Getset_descriptor.descrSet Builtin.Getset_descriptor.descrStoreThrough Builtin.Getset_descriptor.descrCheckInstance Builtin.Getset_descriptor.descrNameAndClass isInstance
 repeat lk
 refine ⟨Code.quiet_builtin _ (by decide +kernel), codeAny_builtin KF.entry_slotset ?_⟩
 unfold Builtin.«proto.slot#set» Slots.target
 repeat lk
 rw [if_neg hb]
 refine Qp (Qb ?_)
 unfold setSlotAt
 dsimp only
 rw [if_neg (by rw [sizeLine_eq]; lia)]
 exact wpAny_updatePart hx (Qp h)
theorem Zag {C : Addr} {name : Str} {k : Nat} (hC : SlotStore c C name k) {v w : Value} {x y : PV} : Sim c F (V2 v w x y) (λ _ _ _ _ => True) (setAttr v name w) (pSetSlot C k x y) := by
 intro A φ μ s Q E hA R p
 refine gen λ O hO hb hQ hE => ?_
 obtain ⟨rx, ry⟩ := p
 unfold pSetSlot at hO
 induction rx using VR.cs with
 | @obj i a h1 =>
  dsimp only at hO
  cases hi : μ.hp[i]? with
  | none => rw [hi] at hO; exact (hb hO.symm).elim
  | some ob =>
   rw [hi] at hO
   have q := R.objs i a ob h1 hi
   induction q using OR.cs with
   | @slt C' d dx sl fs k0 k1 k2 =>
    dsimp only at hO
    cases hC' : decide (C' = C) with
    | false => rw [hC'] at hO; exact (hb hO.symm).elim
    | true =>
     have e := of_decide_eq_true hC'
     subst e
     cases hk : decide (k < 100) with
     | false => rw [hC', hk] at hO; exact (hb hO.symm).elim
     | true =>
      rw [hC', hk] at hO
      dsimp only at hO
      obtain ⟨p, f1, f2, f3, f4⟩ := hC.find
      obtain ⟨odx, hodx⟩ := R.lt (mem_of_getElem? k0)
      have I : InstAt s.heap a { cls := .ref C', dict := some dx, data := .plain, slots := sl.toArray } C' (some odx) := ⟨k1, rfl, rfl, hodx⟩
      have hk := of_decide_eq_true hk
      refine set_plain R.inB I hC.sa (osa_open (s := { s with toks := s.toks + 1 }) R.inB I hC.plain f3 λ b => ?_)
      refine Qb (wpAny_rule (Qb (wpAny_holding (Qb (Qb ((looks_typeIn (R.toks (s.toks + 1)).inB f4).here ((Looks.of_pure KF.slot_mset.lookup).here (wpAny_holding ?_))))))))
      rw [KF.slot_mset.bind]
      refine Qb (Qp (Qb (wpAny_call (Zma (s := { s with toks := s.toks + 1 }) (R.toks (s.toks + 1)).inB I f2 (by lia) ?_))))
      refine Qp (Qp ?_)
      have hs := Heap.SameBut.update s.heap a λ o => { o with slots := (o.slots ++ Array.replicate (k + 1 - o.slots.size) none).setIfInBounds k (some w) }
      obtain ⟨RB, xB⟩ := R.upd (tk := s.toks + 1) (o := .slt C' d ((fs ++ List.replicate (k + 1 - fs.length) none).set k (some y))) h1 hs λ hm => .slt k0 (sl := (sl ++ List.replicate (k + 1 - sl.length) none).set k (some w))
       ((Heap.get?_update_self _ k1 rfl).trans (by simp only [size_toArray]; rw [slotsArr])) (by rw [Zqp k2]; exact Zqr (hm _ _ ry) (Zqq _ (k2.move hm)) k)
      exact hQ _ _ _ _ _ hO.symm RB xB trivial
   | _ => exact (hb hO.symm).elim
 | _ => exact (hb hO.symm).elim
end
end Mine
namespace Mine
open PySem PySem.W PyProof.Rows PySem.Calls

noncomputable def dHas (es : List (Int × PV)) (k : Int) : Bool := es.any λ e => e.1 == k
noncomputable def dPut (es : List (Int × PV)) (k : Int) (x : PV) : List (Int × PV) := match dHas es k with
 | true => es.map λ e => match e.1 == k with
  | true => (e.1, x)
  | false => e
 | false => es ++ [(k, x)]
noncomputable def dDel (es : List (Int × PV)) (k : Int) : List (Int × PV) := es.filter λ e => !(e.1 == k)
theorem Zld {φ : List Addr} {h : Heap} {kvs : List (Int × Value)} {es : List (Int × PV)} (r : DRs φ h kvs es) (k : Int) : (kvs.any λ kv => decide (kv.1 = k)) = dHas es k := by
 induction r with
 | nil => rfl
 | cons a b ih =>
  unfold dHas at ih ⊢
  rw [any_cons, any_cons, ih]
  rfl
theorem Zqs {φ : List Addr} {h : Heap} {v : Value} {x : PV} (hv : VR φ h v x) {kvs : List (Int × Value)} {es : List (Int × PV)} (r : DRs φ h kvs es) (k : Int) : DRs φ h (kvs.map λ kv => if kv.1 = k then (kv.1, v) else kv) (es.map λ e => match e.1 == k with
  | true => (e.1, x)
  | false => e) := by
 induction r with
 | nil => exact .nil
 | @cons k' _ _ _ _ a b ih =>
  rw [map_cons, map_cons]
  by_cases e : k' = k
  ·subst e; simp only [if_pos, beq_self_eq_true]; exact .cons hv ih
  ·have : (k' == k) = false := by simpa using e
   simp only [if_neg e, this]; exact .cons a ih
theorem Zqt {φ : List Addr} {h : Heap} {k : Int} {v : Value} {x : PV} (hv : VR φ h v x) {kvs : List (Int × Value)} {es : List (Int × PV)} (r : DRs φ h kvs es) : DRs φ h (kvs ++ [(k, v)]) (es ++ [(k, x)]) := by
 induction r with
 | nil => exact .cons hv .nil
 | cons a _ ih => exact .cons a ih
theorem Zqu {φ : List Addr} {h : Heap} {k : Int} {v : Value} {x : PV} (hv : VR φ h v x) {kvs : List (Int × Value)} {es : List (Int × PV)} (r : DRs φ h kvs es) : DRs φ h (stored kvs k v) (dPut es k x) := by
 unfold stored dPut
 rw [Zld r k]
 cases dHas es k with
 | true => rw [if_pos rfl]; exact Zqs hv r k
 | false => rw [if_neg Bool.false_ne_true]; exact Zqt hv r
theorem Zqv {φ : List Addr} {h : Heap} {k : Int} {kvs : List (Int × Value)} {es : List (Int × PV)} (r : DRs φ h kvs es) : DRs φ h (without kvs k) (dDel es k) := by
 induction r with
 | nil => exact .nil
 | @cons k' _ _ _ _ a b ih =>
  unfold without dDel at ih ⊢
  rw [filter_cons, filter_cons]
  by_cases e : k' = k
  ·rw [if_neg (by simp [e]), if_neg (by simp [e])]; exact ih
  ·rw [if_pos (by simp [e]), if_pos (by simp [e])]; exact .cons a ih
section
variable {prog : Program} {w : World} {A : Around} {E : Value -> Shared -> Prop} {s : Shared} {K : Type} [DecidableEq K] {knd : KeyKind prog w K}
theorem Zmb {d : Addr} {kvs : List (K × Value)} {ep : Nat} {k : K} {key v : Value} {Q : Unit -> Shared -> Prop} (hkey : knd.is k key = true) (hm : s.heap.DictAt knd d kvs ep)
  (hQ : ∀ h', h'.DictAt knd d (stored kvs k v) (if (kvs.any λ kv => decide (kv.1 = k)) = true then ep else ep + 1) -> Heap.SameBut d s.heap h' -> Q () { s with heap := h', toks := s.toks + 1 })
  (hsz : kvs.length <= sizeLine) : wpAny (model prog w) A (dictSet d key v) Q E s := by
 obtain ⟨o, es, ho, hc, hd, hk, hp, hn⟩ := hm
 have hes : es.size <= sizeLine := by
  have e1 := hp.length
  have e2 : es.toList.length = es.size := by simp
  lia
 unfold dictSet
 try with_reducible refine wpAny_holding ?_
 refine Qb (knd.pyHash hkey ?_)
 unfold dictSetHashed
 try with_reducible refine wpAny_holding ?_
 refine Qb (wpAny_dictFind_of (s := { s with toks := s.toks + 1 }) hkey ho hd hk ?_)
 have hidx : (es.findIdx? λ e => knd.is k e.key) = kvs.findIdx? λ kv => decide (kv.1 = k) := by
  rw [<- hp.findIdx k]; obtain ⟨l⟩ := es; simp
 cases hi : es.findIdx? λ e => knd.is k e.key with
 | some i =>
  have hany : (kvs.any λ kv => decide (kv.1 = k)) = true := any_of_findIdx_some (hidx ▸ hi)
  rw [if_pos hany] at hQ
  have hl : (es.toList.findIdx? λ e => knd.is k e.key) = some i := by rw [<- hi]; obtain ⟨l⟩ := es; simp
  have hpm := hp.modify hn hl v
  refine Qb (wpAny_rule (Qb (wpAny_updateDict (s := { s with toks := s.toks + 1 }) ho hd (wpAny_point (hQ _ ⟨_, _, Heap.get?_update_self _ ho (Obj.isFreed_of_dict (Obj.data_mapDict hd _)),
   hc.mapDict _, Obj.data_mapDict hd _, hk.modify _ _, ?_, ?_⟩ (Heap.SameBut.update ..))))))
  ·rw [stored, if_pos hany]
   obtain ⟨l⟩ := es
   simpa using hpm
  ·rw [stored, if_pos hany, keys_map_store]; exact hn
 | none =>
  have hnot : k ∉ kvs.map (·.1) := not_mem_of_findIdx_none (hidx ▸ hi)
  have hany : ¬ (kvs.any λ kv => decide (kv.1 = k)) = true := by
   rw [any_eq_true]; rintro ⟨kv, hkv, he⟩
   exact hnot (mem_map.mpr ⟨kv, hkv, of_decide_eq_true he⟩)
  rw [if_neg hany] at hQ
  have hpa := hp.append hkey (knd.hash k) v
  refine Qb (wpAny_rule (wpAny_updateDictKeys (hz := hes) (s := { s with toks := s.toks + 1 }) ho hd (hQ _ ⟨_, _, Heap.get?_update_self _ ho (Obj.isFreed_of_dict (Obj.data_mapDictKeys hd _)),
   hc.mapDictKeys _, Obj.data_mapDictKeys hd _, hk.push hkey _, ?_, ?_⟩ (Heap.SameBut.update ..))))
  ·rw [stored, if_neg hany]
   obtain ⟨l⟩ := es
   simpa using hpa
  ·rw [stored, if_neg hany, map_append, nodup_append]
   refine ⟨hn, by simp, ?_⟩
   intro a ha b hb
   simp only [map_cons, List.map_nil, mem_singleton] at hb
   subst hb
   exact λ e => hnot (e ▸ ha)
theorem Zmc {d : Addr} {kvs : List (K × Value)} {ep : Nat} {k : K} {key v : Value} {Q : Unit -> Shared -> Prop} (hkey : knd.is k key = true) (hm : s.heap.DictAt knd d kvs ep)
  (hQ : ∀ h', h'.DictAt knd d (stored kvs k v) (if (kvs.any λ kv => decide (kv.1 = k)) = true then ep else ep + 1) -> Heap.SameBut d s.heap h' -> Q () { s with heap := h', toks := s.toks + 1 })
  (hsz : kvs.length <= sizeLine) : wpAny (model prog w) A (setItem (.ref d) key v) Q E s := by
 have hT := hm.dictOf.typeIs
 unfold setItem
 try with_reducible refine wpAny_holding ?_
 refine Qb (wpAny_sequenceKey hT (by decide) ?_)
 refine Qb (wpAny_callSpecial?_slot (name := Str.ofString "__setitem__") hT slot_dict_setitem
  (wpAny_call_entry slot_dict_setitem hT entry_dict_setitem ?_ (args_dict_setitem _ _ _)))
 show wpAny _ _ (Builtin.Dict.notOrdered "__setitem__" ⟨[.ref d, key, v], []⟩ >>= _) _ _ s
 refine Qb (wpAny_notOrdered_dict hT ?_)
 show wpAny _ _ (dictSet d key v >>= _) _ _ s
 exact Qb (Zmb hkey hm (λ h' hm' hs' => Qp ⟨.none, rfl, Qp (hQ h' hm' hs')⟩) hsz)
theorem Zmd {d : Addr} {kvs : List (K × Value)} {ep : Nat} {k : K} {key : Value} {Q : Option DictEntry -> Shared -> Prop} (hkey : knd.is k key = true) (hm : s.heap.DictAt knd d kvs ep)
  (hthere : (valueAt kvs k).isSome = true) (hsome : ∀ e h', h'.DictAt knd d (without kvs k) (ep + 1) -> Heap.SameBut d s.heap h' -> Q (some e) { s with heap := h', toks := s.toks + 1 })
  (hsz : kvs.length <= sizeLine) : wpAny (model prog w) A (Builtin.Dict.takeOut d key) Q E s := by
 obtain ⟨o, es, ho, hc, hd, hk, hp, hn⟩ := hm
 have hes : es.size <= sizeLine := by
  have e1 := hp.length
  have e2 : es.toList.length = es.size := by simp
  lia
 unfold Builtin.Dict.takeOut
 try with_reducible refine wpAny_holding ?_
 refine Qb (knd.pyHash hkey ?_)
 refine Qb (wpAny_dictFind_of (s := { s with toks := s.toks + 1 }) hkey ho hd hk ?_)
 cases hi : es.findIdx? λ e => knd.is k e.key with
 | none =>
  have hn' : valueAt kvs k = none := by
   rw [<- hp.find k]
   have : (es.toList.find? λ e => knd.is k e.key) = none := by
    rw [List.find?_eq_none]
    intro e he
    have := Array.findIdx?_eq_none_iff.mp hi e (Array.mem_toList_iff.mp he)
    simpa using this
   rw [this]; rfl
  rw [hn'] at hthere; cases hthere
 | some i =>
  have hl : (es.toList.findIdx? λ e => knd.is k e.key) = some i := by rw [<- hi]; obtain ⟨l⟩ := es; simp
  obtain ⟨e, he, hek, hev⟩ := hp.at hl
  refine Qb (wpAny_dictEntries (s := { s with toks := s.toks + 1 }) ho hd ?_)
  have he' : es[i]? = some e := by rw [<- he]; obtain ⟨l⟩ := es; simp
  rw [he']
  have hpe := hp.erase hn hl
  refine Qb (wpAny_updateDictKeys (hz := hes) (s := { s with toks := s.toks + 1 }) ho hd (Qp (hsome e _ ⟨_, _, Heap.get?_update_self _ ho (Obj.isFreed_of_dict (Obj.data_mapDictKeys hd _)),
   hc.mapDictKeys _, Obj.data_mapDictKeys hd _, hk.erase _, ?_, nodup_without hn k⟩ (Heap.SameBut.update ..))))
  obtain ⟨l⟩ := es
  simpa using hpe
theorem Zf7 {d : Addr} {kvs : List (K × Value)} {ep : Nat} {k : K} {key : Value} {Q : Unit -> Shared -> Prop} (hkey : knd.is k key = true) (hm : s.heap.DictAt knd d kvs ep)
  (hthere : (valueAt kvs k).isSome = true) (hQ : ∀ h', h'.DictAt knd d (without kvs k) (ep + 1) -> Heap.SameBut d s.heap h' -> Q () { s with heap := h', toks := s.toks + 1 })
  (hsz : kvs.length <= sizeLine) : wpAny (model prog w) A (delItem (.ref d) key) Q E s := by
 have hT := hm.dictOf.typeIs
 unfold delItem
 try with_reducible refine wpAny_holding ?_
 refine Qb (wpAny_sequenceKey hT (by decide) ?_)
 refine Qb (wpAny_callSpecial?_slot (name := Str.ofString "__delitem__") hT PySem.F.slot_dict_delitem
  (wpAny_call_entry PySem.F.slot_dict_delitem hT PySem.F.entry_dict_delitem ?_ (PySem.F.args_dict_delitem_2 _ _)))
 unfold Builtin.«dict.__delitem__»
 refine Qb ?_
 unfold Builtin.Dict.dictSlotArgs
 refine Qb (wpAny_notOrdered_dict hT ?_)
 show wpAny _ _ (pure (Value.ref d, key)) _ _ s
 refine Qp ?_
 show wpAny _ _ (Builtin.Dict.takeOut d key >>= _) _ _ s
 refine Qb (Zmd hkey hm hthere (λ e h' hm' hs' => ?_) hsz)
 exact Qb (wpAny_letGo (Qp ⟨.none, rfl, Qp (hQ h' hm' hs')⟩))
end

noncomputable abbrev SimT (c : Cx) (F : Fx) (t : Value -> Sem Unit) (a : PV -> PM Unit) : Prop := ∀ w y, Sim c F (λ φ h => VR φ h w y) (λ _ _ _ _ => True) (t w) (a y)
noncomputable def pSetItem (o i y : PV) : PM Unit := λ μ => match o, i with
 | .obj j, .int k => (match μ.hp[j]? with
  | some (.lst xs) => (match decide (0 <= k ∧ k < xs.length), lenOk xs with
   | true, true => .ok () { fr := μ.fr, hp := μ.hp.set j (.lst (xs.set k.toNat y)) }
   | _, _ => .bad)
  | some (.dct es ep) => (match lenOk es with
   | true => .ok () { fr := μ.fr, hp := μ.hp.set j (.dct (dPut es k y) (match dHas es k with
    | true => ep
    | false => ep + 1)) }
   | false => .bad)
  | _ => .bad)
 | _, _ => .bad
noncomputable def pDelItem (o i : PV) : PM Unit := λ μ => match o, i with
 | .obj j, .int k => (match μ.hp[j]? with
  | some (.dct es ep) => (match lenOk es, dHas es k with
   | true, true => .ok () { fr := μ.fr, hp := μ.hp.set j (.dct (dDel es k) (ep + 1)) }
   | _, _ => .bad)
  | _ => .bad)
 | _, _ => .bad
section
variable {prog : Program} {w : World} {A : Around} {E : Value -> Shared -> Prop} {s : Shared}
theorem Zkl {l : Addr} {vs : List Value} {n : Nat} {k : Int} {t : Tok} {v : Value} {Q : Unit -> Shared -> Prop} (hl : IsL s.heap l vs.toArray n)
  (h0 : 0 <= k) (hn : k < vs.length) (hz : vs.length <= 1000000) (hQ : Q () { s with heap := s.heap.update l (Obj.mapSeq λ xs => xs.setIfInBounds k.toNat v) }) :
  wpAny (model prog w) A (setItem (.ref l) (.int k t) v) Q E s := by
 have hT : s.TypeIs (.ref l) "list" := ⟨_, hl, rfl⟩
 unfold setItem
 try with_reducible refine wpAny_holding ?_
 first | refine Qb (Qp ?_) | skip
 refine Qb (wpAny_sequenceKey hT (by decide) ?_)
 refine Qb (wpAny_callSpecial?_slot (name := Str.ofString "__setitem__") hT slot_list_setitem
  (wpAny_call_entry slot_list_setitem hT entry_list_setitem ?_ (args_list_setitem _ _ _)))
 show wpAny _ _ (Builtin.List.listSubscript? (.int k t) >>= _) _ _ s
 refine Qb (wpAny_listSubscript_int (by unfold Builtin.List.listFitsIndex; simp only [Bool.and_eq_true, decide_eq_true_eq]; lia) ?_)
 obtain ⟨j, rfl⟩ := Int.eq_ofNat_of_zero_le h0
 have hj : j < vs.toArray.size := by rw [size_toArray]; lia
 have hx' : vs.toArray[j]? = some vs.toArray[j] := Array.getElem?_eq_getElem hj
 show wpAny _ _ ((seqItemAt l j >>= λ r => pure (r.map (j, ·))) >>= _) _ _ s
 refine Qb (Qb (wpAny_seqItemAt hl rfl (Qp ?_)))
 rw [hx']
 show wpAny _ _ (setSeqItemAt l j v >>= _) _ _ s
 refine Qb (wpAny_setSeqItemAt hl rfl ?_)
 first
  | exact Qb (Qp (Qp ⟨.none, rfl, Qp hQ⟩))
  | exact Qp ⟨.none, rfl, Qp hQ⟩
end
section
variable {c : Cx} {F : Fx}
theorem Zqw {φ : List Addr} {h : Heap} {kvs : List (Int × Value)} {es : List (Int × PV)} (r : DRs φ h kvs es) (k : Int) : (valueAt kvs k).isSome = dHas es k := Zfm r k
noncomputable abbrev VV3 (v w u : Value) (x y z : PV) : List Addr -> Heap -> Prop := λ φ h => VR φ h v x ∧ VR φ h w y ∧ VR φ h u z
theorem Zdx {v w u : Value} {x y z : PV} : Sim c F (VV3 v w u x y z) (λ _ _ _ _ => True) (setItem v w u) (pSetItem x y z) := by
 intro A φ μ s Q E hA R p
 refine gen λ O hO hb hQ hE => ?_
 obtain ⟨rx, ry, rz⟩ := p
 unfold pSetItem at hO
 induction rx using VR.cs with
 | @obj j a h1 =>
  induction ry using VR.cs with
  | int k t =>
   dsimp only at hO
   cases hi : μ.hp[j]? with
   | none => rw [hi] at hO; exact (hb hO.symm).elim
   | some ob =>
    rw [hi] at hO
    have q := R.objs j a ob h1 hi
    induction q using OR.cs with
    | @lst vs n xs k1 k2 =>
     dsimp only at hO
     cases hd : decide (0 <= k ∧ k < xs.length) with
     | false => rw [hd] at hO; exact (hb hO.symm).elim
     | true =>
      cases hl : lenOk xs with
      | false => rw [hd, hl] at hO; exact (hb hO.symm).elim
      | true =>
       rw [hd, hl] at hO
       obtain ⟨d1, d2⟩ := of_decide_eq_true hd
       have hlen := k2.length
       refine Zkl k1 d1 (by omega) (by rw [hlen]; exact Zan hl) ?_
       obtain ⟨R3, xD⟩ := R.relist (tk := s.toks) h1 k1 (g := λ xs => xs.setIfInBounds k.toNat u) (ws := vs.set k.toNat u) (by simp) (k2.set k.toNat rz)
       exact hQ _ _ _ _ _ hO.symm R3 xD trivial
    | @dct kvs es ep k1 k2 =>
     dsimp only at hO
     cases hl : lenOk es with
     | false => rw [hl] at hO; exact (hb hO.symm).elim
     | true =>
      rw [hl] at hO
      refine Zmc (knd := intKind c.prog c.w) (k := k) (by show Value.isInt k (.int k t) = true; simp [Value.isInt]) k1 (λ h' hd' hs' => ?_) (by rw [Zca k2]; exact Nat.le_trans (Zan hl) (by decide))
      rw [Zld k2 k] at hd'
      obtain ⟨R3, xD⟩ := R.upd (tk := s.toks + 1) (o := .dct (dPut es k z) (match dHas es k with
       | true => ep
       | false => ep + 1)) h1 hs' λ hm => .dct (kvs := stored kvs k u) (by
        cases hh : dHas es k with
        | true => rw [hh] at hd'; exact hd'
        | false => rw [hh] at hd'; exact hd') (Zqu (hm _ _ rz) (k2.move hm))
      exact hQ _ _ _ _ _ hO.symm R3 xD trivial
    | _ => exact (hb hO.symm).elim
  | _ => exact (hb hO.symm).elim
 | _ => exact (hb hO.symm).elim
theorem Zif {v w : Value} {x y : PV} : Sim c F (V2 v w x y) (λ _ _ _ _ => True) (delItem v w) (pDelItem x y) := by
 intro A φ μ s Q E hA R p
 refine gen λ O hO hb hQ hE => ?_
 obtain ⟨rx, ry⟩ := p
 unfold pDelItem at hO
 induction rx using VR.cs with
 | @obj j a h1 =>
  induction ry using VR.cs with
  | int k t =>
   dsimp only at hO
   cases hi : μ.hp[j]? with
   | none => rw [hi] at hO; exact (hb hO.symm).elim
   | some ob =>
    rw [hi] at hO
    have q := R.objs j a ob h1 hi
    induction q using OR.cs with
    | @dct kvs es ep k1 k2 =>
     dsimp only at hO
     cases hl : lenOk es with
     | false => rw [hl] at hO; exact (hb hO.symm).elim
     | true =>
      cases hh : dHas es k with
      | false => rw [hl, hh] at hO; exact (hb hO.symm).elim
      | true =>
       rw [hl, hh] at hO
       refine Zf7 (knd := intKind c.prog c.w) (k := k) (by show Value.isInt k (.int k t) = true; simp [Value.isInt]) k1 (by rw [Zqw k2]; exact hh) (λ h' hd' hs' => ?_) (by rw [Zca k2]; exact Nat.le_trans (Zan hl) (by decide))
       obtain ⟨R3, xD⟩ := R.upd (tk := s.toks + 1) (o := .dct (dDel es k) (ep + 1)) h1 hs' λ hm => .dct (kvs := without kvs k) hd' (Zqv (k2.move hm))
       exact hQ _ _ _ _ _ hO.symm R3 xD trivial
    | _ => exact (hb hO.symm).elim
  | _ => exact (hb hO.symm).elim
 | _ => exact (hb hO.symm).elim
noncomputable def sAsg (f : PM PV) (a : PV -> PM Unit) : PM MF := f >>= λ y => a y >>= λ _ => pure .next
theorem Zd {t value : Expr} {pos : Pos} {f : PM PV} {a : PV -> PM Unit} (h : SimE c F value f) (ht : SimT c F (assign t F.env) a)
  (hs : swapsWithSole [t] value pos.line F.env = pure false) (hw : swappedStores [t] value F.env = pure none) (he : (assignEach [t] F.env).map (·.2) = [assign t F.env]) : SimS c F (.Assign [t] value pos) (sAsg f a) := λ A φ μ s Q E hA R p hb hQ hE => by
 unfold sAsg at hb hQ hE
 refine wpAny_Assign_stores (h.use hA R p hb hE λ v y φ' μ' s' eg R' x r => ?_) hs hw
 rw [eg] at hb hQ hE
 rw [he]
 show wpAny _ _ (assign t F.env v) _ _ _
 refine (ht v y).use hA R' r hb (λ e y φ' μ' s' he R' x' r => hE e y φ' μ' s' he R' (x.trans x') (r.le x.dom)) λ vC y2 φ2 μ2 sC eg RC x2 rC => ?_
 rw [eg] at hQ
 exact hQ _ _ _ _ _ rfl RC (x.trans x2) .next
noncomputable def sAsg2 (f : PM PV) (a a' : PV -> PM Unit) : PM MF := f >>= λ y => a y >>= λ _ => a' y >>= λ _ => pure .next
theorem Zkm {t t' value : Expr} {pos : Pos} {f : PM PV} {a a' : PV -> PM Unit} (h : SimE c F value f) (ht : SimT c F (assign t F.env) a) (ht' : SimT c F (assign t' F.env) a')
  (hw : swappedStores [t, t'] value F.env = pure none) (he : (assignEach [t, t'] F.env).map (·.2) = [assign t F.env, assign t' F.env]) : SimS c F (.Assign [t, t'] value pos) (sAsg2 f a a') := λ A φ μ s Q E hA R p hb hQ hE => by
 unfold sAsg2 at hb hQ hE
 refine wpAny_Assign_stores (h.use hA R p hb hE λ v y φ' μ' s' eg R' x r => ?_) rfl hw
 rw [eg] at hb hQ hE
 rw [he]
 refine Qb (wpAny_holding ((ht v y).use hA R' r hb (λ e y φ' μ' s' he R' x' r => hE e y φ' μ' s' he R' (x.trans x') (r.le x.dom)) λ vC y2 φ2 μ2 sC eg RC x2 rC => ?_))
 rw [eg] at hb hQ hE
 refine (ht' v y).use hA RC (r.ext R' x2) hb (λ e y φ' μ' s' he R' x' r => hE e y φ' μ' s' he R' (x.trans (x2.trans x')) (r.le (x.trans x2).dom)) λ vD y3 φ3 μ3 sD eg R3 xD r3 => ?_
 rw [eg] at hQ
 exact hQ _ _ _ _ _ rfl R3 (x.trans (x2.trans xD)) .next
noncomputable def eWal (f : PM PV) (a : PV -> PM Unit) : PM PV := f >>= λ y => a y >>= λ _ => pure y
theorem Zdk {t value : Expr} {pos : Pos} {f : PM PV} {a : PV -> PM Unit} (h : SimE c F value f) (ht : SimT c F (assign t F.env) a) : SimE c F (.NamedExpr t value pos) (eWal f a) := λ A φ μ s Q E hA R p hb hQ hE => by
 unfold eWal at hb hQ hE
 refine wpAny_NamedExpr (h.use hA R p hb hE λ v y φ' μ' s' eg R' x r => ?_)
 rw [eg] at hb hQ hE
 refine ((ht v y).use hA R' r hb (λ e y φ' μ' s' he R' x' r => hE e y φ' μ' s' he R' (x.trans x') (r.le x.dom)) λ vC y2 φ2 μ2 sC eg RC x2 rC => ?_)
 rw [eg] at hQ
 exact hQ _ _ _ _ _ rfl RC (x.trans x2) (r.ext R' x2)
noncomputable def tAttr (ps : PV -> PV -> PM Unit) (g : PM PV) (y : PV) : PM Unit := g >>= λ x => ps x y
theorem Z9 {o : Expr} {attr : Str} {pos : Pos} {g : PM PV} {ps : PV -> PV -> PM Unit} (h : SimE c F o g) (hset : ∀ v w x y, Sim c F (V2 v w x y) (λ _ _ _ _ => True) (setAttr v attr w) (ps x y)) : SimT c F (assign (.Attribute o attr pos) F.env) (tAttr ps g) := λ w y A φ μ s Q E hA R p hb hQ hE => by
 unfold tAttr at hb hQ hE
 rw [arm_assign_Attribute]
 refine Qb (wpAny_holding ((h.keep (v := w) (x := y)).use hA R p hb hE λ v x φ' μ' s' eg R' x' r => ?_))
 rw [eg] at hb hQ hE
 refine Qb (wpAny_standAt (Qb (wpAny_holding ((hset v w x y).fin hA R' ⟨r.2, r.1⟩ rfl x' hb (λ a b φ2 μ2 sC e RC x2 rC => ?_) hE))))
 exact wpAny_releaseD (hQ a b φ2 μ2 sC e RC x2 rC)
noncomputable def tSub (g h : PM PV) (y : PV) : PM Unit := g >>= λ x => h >>= λ k => pSetItem x k y
theorem Zfq {o i : Expr} {pos : Pos} {g h : PM PV} (hg : SimE c F o g) (hh : SimE c F i h) : SimT c F (assign (.Subscript o i pos) F.env) (tSub g h) := λ w y A φ μ s Q E hA R p hb hQ hE => by
 unfold tSub at hb hQ hE
 rw [arm_assign_Subscript]
 refine Qb (wpAny_holding ((hg.keep (v := w) (x := y)).use hA R p hb hE λ v x φ' μ' s' eg R' x' r => ?_))
 rw [eg] at hb hQ hE
 refine Qb (wpAny_holding (hh.use hA R' trivial hb (λ e y φ' μ' s' he R' x'' r => hE e y φ' μ' s' he R' (x'.trans x'') (r.le x'.dom)) λ k j φ2 μ2 sC eg RC x2 rC => ?_))
 rw [eg] at hb hQ hE
 refine Qb (wpAny_standAt (Qb (wpAny_holding (Zdx.fin hA RC ⟨r.2.ext R' x2, rC, r.1.ext R' x2⟩ rfl (x'.trans x2) hb (λ a b φ3 μ3 sD e R3 xD r3 => ?_) hE))))
 exact wpAny_releaseD (hQ a b φ3 μ3 sD e R3 xD r3)
end

noncomputable def pInp : Operator -> PV -> PV -> PM PV
 | .Add => pArith (λ i j => i + j) λ _ => true
 | .Sub => pArith (λ i j => i - j) λ _ => true
 | _ => λ _ _ => PM.H
section
variable {c : Cx} {F : Fx}
theorem Zdy {f : Int -> Int -> Int} {op : Operator} {v w : Value} {x y : PV}
  (hf : ∀ (A : Around) (s : Shared) (E : Value -> Shared -> Prop) (Q : Value -> Shared -> Prop) (i : Int) (t : Tok) (j : Int) (u : Tok), Q (.int (f i j) s.toks) { s with toks := s.toks + 1 } -> wpAny (model c.prog c.w) A (inplaceOp op (.int i t) (.int j u)) Q E s) :
  Sim c F (V2 v w x y) (λ φ h a b => VR φ h a b) (inplaceOp op v w) (pArith f (λ _ => true) x y) := by
 intro A φ μ s Q E hA R p hb hQ hE
 obtain ⟨rx, ry⟩ := p
 induction rx using VR.cs with
 | int i t =>
  induction ry using VR.cs with
  | int j u =>
   have e : pArith f (λ _ => true) (.int i) (.int j) μ = .ok (.int (f i j)) μ := rfl
   rw [e] at hQ
   with_reducible refine hf A s E Q i t j u ?_
   refine hQ _ (.int (f i j)) φ μ _ ?_ ?_ ?_ ?_
   ·rfl
   ·exact R.toks _
   ·exact Ext.refl
   ·exact .int _ _
  | _ => exact (hb rfl).elim
 | _ => exact (hb rfl).elim
theorem Zle {op : Operator} {v w : Value} {x y : PV} : Sim c F (V2 v w x y) (λ φ h a b => VR φ h a b) (inplaceOp op v w) (pInp op x y) := by
 cases op with
 | Add => exact Zdy (op := .Add) (f := λ i j => i + j) λ A s E Q i t j u h => AutoIntOps.iadd_0 h
 | Sub => exact Zdy (op := .Sub) (f := λ i j => i - j) λ A s E Q i t j u h => AutoIntOps.isub_0 h
 | _ => exact Sim.B
noncomputable def sAugAttr (op : Operator) (g : PM PV) (pg : PV -> PM PV) (ps : PV -> PV -> PM Unit) (f : PM PV) : PM MF := g >>= λ x => pg x >>= λ old => f >>= λ v => pInp op old v >>= λ new => ps x new >>= λ _ => pure .next
theorem Zbs {o value : Expr} {attr : Str} {tpos pos : Pos} {op : Operator} {f g : PM PV} {pg : PV -> PM PV} {ps : PV -> PV -> PM Unit} (hg : SimE c F o g) (hf : SimE c F value f)
  (hget : ∀ v x, Sim c F (λ φ h => VR φ h v x) (λ φ h v x => VR φ h v x) (getAttr v attr true) (pg x)) (hset : ∀ v w x y, Sim c F (V2 v w x y) (λ _ _ _ _ => True) (setAttr v attr w) (ps x y)) :
  SimS c F (.AugAssign (.Attribute o attr tpos) op value pos) (sAugAttr op g pg ps f) := λ A φ μ s Q E hA R p hb hQ hE => by
 unfold sAugAttr at hb hQ hE
 refine wpAny_AugAssign_AttributeAny (hg.use hA R p hb hE λ ov x φ1 μ1 sB eg RB xB rB => ?_)
 rw [eg] at hb hQ hE
 have E1 : ∀ {h' : Heap} {φ'}, Ext F.nss F.cls φ1 sB.heap φ' h' -> Ext F.nss F.cls φ s.heap φ' h' := λ z => xB.trans z
 refine (hget ov x).use hA RB rB hb (λ e y φ' μ' s' he R' x' r => hE e y φ' μ' s' he R' (xB.trans x') (r.le xB.dom)) λ old y φ2 μ2 sC eg RC x2 rC => ?_
 rw [eg] at hb hQ hE
 refine hf.use hA RC trivial hb (λ e y φ' μ' s' he R' x' r => hE e y φ' μ' s' he R' (xB.trans (x2.trans x')) (r.le (xB.trans x2).dom)) λ v z φ3 μ3 sD eg R3 xD r3 => ?_
 rw [eg] at hb hQ hE
 refine Zle.use hA R3 ⟨rC.ext RC xD, r3⟩ hb (λ e y φ' μ' s' he R' x' r => hE e y φ' μ' s' he R' (xB.trans (x2.trans (xD.trans x'))) (r.le (xB.trans (x2.trans xD)).dom)) λ new n φ4 μ4 s4 eg R4 x4 r4 => ?_
 rw [eg] at hb hQ hE
 refine (hset ov new x n).use hA R4 ⟨((rB.ext RB x2).ext RC xD).ext R3 x4, r4⟩ hb (λ e y φ' μ' s' he R' x' r => hE e y φ' μ' s' he R' (xB.trans (x2.trans (xD.trans (x4.trans x')))) (r.le (xB.trans (x2.trans (xD.trans x4))).dom)) λ _ _ φ5 μ5 s5 eg R5 x5 r5 => ?_
 rw [eg] at hQ
 exact hQ _ _ _ _ _ rfl R5 (xB.trans (x2.trans (xD.trans (x4.trans x5)))) .next
noncomputable def sAugSub (op : Operator) (g h f : PM PV) : PM MF := g >>= λ x => h >>= λ k => pGet x k >>= λ old => f >>= λ v => pInp op old v >>= λ new => pSetItem x k new >>= λ _ => pure .next
theorem Zme {o i value : Expr} {tpos pos : Pos} {op : Operator} {f g h : PM PV} (hg : SimE c F o g) (hh : SimE c F i h) (hf : SimE c F value f)
  (hi : ∀ ov iv new, augStore i ov iv new = (do holding [new, ov, iv] (setItem ov iv new); release [new, ov, iv] []; pure .next)) :
  SimS c F (.AugAssign (.Subscript o i tpos) op value pos) (sAugSub op g h f) := λ A φ μ s Q E hA R p hb hQ hE => by
 unfold sAugSub at hb hQ hE
 refine PySem.wpAny_AugAssign_SubscriptAny (hg.use hA R p hb hE λ ov x φ1 μ1 sB eg RB xB rB => ?_) hi
 rw [eg] at hb hQ hE
 refine hh.use hA RB trivial hb (λ e y φ' μ' s' he R' x' r => hE e y φ' μ' s' he R' (xB.trans x') (r.le xB.dom)) λ iv k φ2 μ2 sC eg RC x2 rC => ?_
 rw [eg] at hb hQ hE
 refine Zia.use hA RC ⟨rB.ext RB x2, rC⟩ hb (λ e y φ' μ' s' he R' x' r => hE e y φ' μ' s' he R' (xB.trans (x2.trans x')) (r.le (xB.trans x2).dom)) λ old y φ3 μ3 sD eg R3 xD r3 => ?_
 rw [eg] at hb hQ hE
 refine hf.use hA R3 trivial hb (λ e y φ' μ' s' he R' x' r => hE e y φ' μ' s' he R' (xB.trans (x2.trans (xD.trans x'))) (r.le (xB.trans (x2.trans xD)).dom)) λ v z φ4 μ4 s4 eg R4 x4 r4 => ?_
 rw [eg] at hb hQ hE
 refine Zle.use hA R4 ⟨r3.ext R3 x4, r4⟩ hb (λ e y φ' μ' s' he R' x' r => hE e y φ' μ' s' he R' (xB.trans (x2.trans (xD.trans (x4.trans x')))) (r.le (xB.trans (x2.trans (xD.trans x4))).dom)) λ new n φ5 μ5 s5 eg R5 x5 r5 => ?_
 rw [eg] at hb hQ hE
 refine Zdx.use hA R5 ⟨(((rB.ext RB x2).ext RC xD).ext R3 x4).ext R4 x5, ((rC.ext RC xD).ext R3 x4).ext R4 x5, r5⟩ hb (λ e y φ' μ' s' he R' x' r => hE e y φ' μ' s' he R' (xB.trans (x2.trans (xD.trans (x4.trans (x5.trans x'))))) (r.le (xB.trans (x2.trans (xD.trans (x4.trans x5)))).dom)) λ _ _ φ6 μ6 s6 eg R6 x6 r6 => ?_
 rw [eg] at hQ
 exact hQ _ _ _ _ _ rfl R6 (xB.trans (x2.trans (xD.trans (x4.trans (x5.trans x6))))) .next
noncomputable def sDel (g h : PM PV) : PM MF := g >>= λ x => h >>= λ k => pDelItem x k >>= λ _ => pure .next
theorem Zmf {o i : Expr} {tpos pos : Pos} {g h : PM PV} (hg : SimE c F o g) (hh : SimE c F i h) : SimS c F (.Delete [.Subscript o i tpos] pos) (sDel g h) := λ A φ μ s Q E hA R p hb hQ hE => by
 unfold sDel at hb hQ hE
 refine wpAny_Delete (wpAny_deleteEach_cons (delete_Subscript (hg.use hA R p hb hE λ ov x φ1 μ1 sB eg RB xB rB => ?_)))
 rw [eg] at hb hQ hE
 refine hh.use hA RB trivial hb (λ e y φ' μ' s' he R' x' r => hE e y φ' μ' s' he R' (xB.trans x') (r.le xB.dom)) λ iv k φ2 μ2 sC eg RC x2 rC => ?_
 rw [eg] at hb hQ hE
 refine Zif.use hA RC ⟨rB.ext RB x2, rC⟩ hb (λ e y φ' μ' s' he R' x' r => hE e y φ' μ' s' he R' (xB.trans (x2.trans x')) (r.le (xB.trans x2).dom)) λ _ _ φ3 μ3 sD eg R3 xD r3 => ?_
 rw [eg] at hQ
 exact wpAny_deleteEach_nil (hQ _ _ _ _ _ rfl R3 (xB.trans (x2.trans xD)) .next)
end
structure MethAt (c : Cx) (C : Addr) (name : Str) (f : Addr) : Prop where
 find : findIn c.K (.ref C) name = some (some (.ref f))
 fn : typeIn c.K (.ref f) = some (.type "function")
 ga : findIn c.K (.ref C) "__getattribute__" = some (some (.builtin "object.__getattribute__"))
 gattr : findIn c.K (.ref C) "__getattr__" = some none
 cls : (clsIn c.K C).any (·.hasDict) = true
 special : specialIn c.K (.ref f) "__get__" = some (some (.builtin "function.__get__"))
 takes : takesIn c.K (.ref f) = some false
 copied : copiedNames.contains name = false
section
variable {c : Cx} {F : Fx}
noncomputable def isIns (C : Addr) (name : Str) (o : PV) : PM Unit := λ μ => match ownNs C o μ with
 | some (_, fs) => (match fs.lookup name with
  | none => .ok () μ
  | some _ => .bad)
 | none => .bad
theorem Zmg {M : Model} {A : Around} {E : Value -> Shared -> Prop} {s : Shared} {dx : Addr} {ds : List DictEntry} {n : Nat} {name : Str} {Q : Option Value -> Shared -> Prop} (h3 : s.heap.get? dx = some { cls := .type "dict", data := .dict ds.toArray n })
  (hn : ds.find? (·.key.isStr name) = none) (hr : ds.any (·.refKey) = false) (h : Q none s) : wpAny M A (nsGet dx name) Q E s := by
 unfold nsGet
 refine Qb (wpAny_loadPart h3 ?_)
 rw [nsLook_of (r := none) (by unfold lookIn; dsimp only; rw [hn, hr]; rfl)]
 exact Qp h
theorem Zhl {C f : Addr} {name : Str} (hM : MethAt c C name f) {v : Value} {x : PV} {pl : Sem Bool} : Sim c F (λ φ h => VR φ h v x) (λ φ h p _ => p = (.ref f, [v]) ∧ VR φ h v x) (getMethod v name pl) (isIns C name x) := by
 intro A φ μ s Q E hA R p
 refine gen λ O hO hb hQ hE => ?_
 unfold isIns at hO
 cases ho : ownNs C x μ with
 | none => rw [ho] at hO; exact (hb hO.symm).elim
 | some df =>
  obtain ⟨d, fs⟩ := df
  rw [ho] at hO
  dsimp only at hO
  obtain ⟨a, dx, ds, n, rfl, h1, h2, h3, h4⟩ := Zf6 R p ho
  cases hl : fs.lookup name with
  | some y => rw [hl] at hO; exact (hb hO.symm).elim
  | none =>
   rw [hl] at hO
   obtain ⟨_, i2, i3⟩ := Zdb (name := name) h4
   have I : InstAt s.heap a { cls := .ref C, dict := some dx, data := .plain } C (some { cls := .type "dict", data := .dict ds.toArray n }) := ⟨h2, rfl, rfl, h3⟩
   have T := I.type (M := model c.prog c.w)
   have X := R.inB
   unfold getMethod specialOf
   refine Qb (Qb (T.here ((looks_findIn X hM.ga).here ?_)))
   show wpAny _ _ (if (Manifest.canonical "object.__getattribute__" != "object.__getattribute__") = true then _ else _) _ _ _
   rw [if_neg (by decide +kernel)]
   refine Qb (Qb (T.here ((looks_findIn X hM.gattr).here ?_)))
   rw [if_neg (by decide)]
   refine Qb (Qb (T.here ((looks_findIn X hM.find).here ?_)))
   dsimp only
   refine Qb ((looks_typeIn X hM.fn).here ?_)
   rw [if_neg (by decide)]
   refine Qb (wpAny_loadPart h2 ?_)
   dsimp only
   refine Qb (Zmg h3 (i2 hl) i3 ?_)
   rw [if_neg (by decide)]
   exact Qb (wpAny_rule (Qp (hQ _ () φ μ s hO.symm R Ext.refl ⟨rfl, p⟩)))
end

theorem Zig {K : Frag} {C f : Addr} {od : Obj} {name : Str} (h1 : findIn K (.ref C) name = some (some (.ref f))) (h2 : (clsIn K C).any (·.hasDict) = true) (h3 : lookIn name od = some none)
  (h4 : specialIn K (.ref f) "__get__" = some (some (.builtin "function.__get__"))) (h5 : takesIn K (.ref f) = some false) (h6 : copiedNames.contains name = false) : findObj K C (some od) name = some (.bind (.builtin "function.__get__") (.ref f)) := by
 obtain ⟨cd, hc, hd⟩ := any_some h2
 unfold findObj
 rw [hc, Option.bind_some, h1, Option.bind_some]
 dsimp only
 rw [h4, Option.bind_some]
 dsimp only
 rw [h5, Option.bind_some]
 unfold PySem.W.ownOf
 rw [hd, if_pos rfl]
 dsimp only
 rw [h3, Option.bind_some]
 dsimp only
 rw [h6, Bool.false_and, if_neg Bool.false_ne_true]
section
variable {c : Cx} {F : Fx}
noncomputable def eMeth (C : Addr) (name : Str) (fo : PM PV) (g : PM (List PV)) (k : List PV -> PM PV) : PM PV := fo >>= λ x => isIns C name x >>= λ _ => g >>= λ ys => k (x :: ys)
theorem Zih {C f : Addr} {fd : FuncData} {body : List Stmt} {name : Str} (hM : MethAt c C name f) (hf : FnAt c f fd body) {o : Expr} {apos pos : Pos} {args : List Expr} {fo : PM PV} {g : PM (List PV)} {k : List PV -> PM PV} {st : Bool}
  (hbase : attributeBase o name F.env (eval o F.env) = eval o F.env) (hst : methodCallForm (args.length + 0) (backTo pos (starEach args F.env)) [] = st)
  (hpos : (apos.endLine == pos.line) = true) (ho : SimE c F o fo) (hargs : CallArgs c F (starEach args F.env) g)
  (hcall : ∀ vs xs, ∀ (A : Around) (φ : List Addr) (μ : St) (s : Shared) (R : Result -> Shared -> Prop), ACtx F A -> Rep c F φ μ s -> VRs φ s.heap vs xs -> k xs μ ≠ .bad ->
   (∀ v y φ' μ' s', k xs μ = .ok y μ' -> Rep c F φ' μ' s' -> Ext F.nss F.cls φ s.heap φ' s'.heap -> VR φ' s'.heap v y -> R (.ok (.ret v)) s') ->
   (∀ e x φ' μ' s', k xs μ = .exc x μ' -> Rep c F φ' μ' s' -> Ext F.nss F.cls φ s.heap φ' s'.heap -> ExcR c (dom s.heap) φ' s'.heap e x -> R (.error e) s') -> codeAny (model c.prog c.w) A (.call (.ref f) ⟨vs, []⟩) R s) :
  SimE c F (.Call (.Attribute o name apos) args [] pos) (eMeth C name fo g k) := λ A φ μ s Q E hA R p hb hQ hE => by
 unfold eMeth at hb hQ hE
 rw [arm_eval_Call, hbase]
 refine Qb (ho.use hA R p hb hE λ v x φ1 μ1 sB eg RB xB rB => ?_)
 rw [eg] at hb hQ hE
 refine Qb (wpAny_standAt ?_)
 unfold methodCall
 have hp : methodCallPos st o F.env apos pos = pure pos := by unfold methodCallPos; simp [hpos]
 have hform : methodCallForm (args.length + ([] : List Keyword).length) (backTo pos (starEach args F.env)) (backToKw pos (keywordEach [] F.env)) = st := hst
 rw [hform]
 cases st with
 | true =>
  refine Qb (wpAny_holding ((Zhl hM).use hA RB rB hb (λ e y φ' μ' s' he R' x' r => hE e y φ' μ' s' he R' (xB.trans x') (r.le xB.dom)) λ pr _ φ2 μ2 sC eg RC x2 rC => ?_))
  rw [eg] at hb hQ hE
  obtain ⟨rfl, rC⟩ := rC
  refine Qb (wpAny_of_eq hp ?_)
  show wpAny _ _ (callWith pos (.ref f) [v] (backTo pos (starEach args F.env)) []) _ _ _
  refine (Zax (k := λ ys => k (x :: ys)) (P := λ φ h => VR φ h v x) hargs (λ _ _ _ _ _ R e r => r.ext R e) (λ φ h X _ => Zk9 hf φ h X trivial) (λ vs ys A φ μ s Q E hA R p hb hQ hE => ?_)).fin hA RC rC rfl (xB.trans x2) hb hQ hE
  exact wpAny_call (hcall ([v] ++ vs) (x :: ys) A φ μ s _ hA R (.cons p.1 p.2) hb (λ v y φ' μ' s' e R' x' r => hQ v y φ' μ' s' e R' x' r) λ e x φ' μ' s' he R' x' r => hE e x φ' μ' s' he R' x' r)
 | false =>
  show wpAny _ _ (holding [v] (do pure (<- getAttr v name true, [])) >>= _) _ _ _
  have hne : isIns C name x μ1 ≠ .bad := λ e => hb (by rw [PM.B, e])
  unfold isIns at hne
  cases hown : ownNs C x μ1 with
  | none => rw [hown] at hne; exact (hne rfl).elim
  | some df =>
   obtain ⟨d, fs⟩ := df
   rw [hown] at hne
   dsimp only at hne
   obtain ⟨a, dx, ds, n, rfl, h1, h2, h3, h4⟩ := Zf6 RB rB hown
   cases hl : fs.lookup name with
   | some y => rw [hl] at hne; exact (hne rfl).elim
   | none =>
    have hk : isIns C name x μ1 = .ok () μ1 := by unfold isIns; rw [hown]; dsimp only; rw [hl]
    rw [PM.C hk] at hb hQ hE
    obtain ⟨_, i2, i3⟩ := Zdb (name := name) h4
    have I : InstAt sB.heap a { cls := .ref C, dict := some dx, data := .plain } C (some { cls := .type "dict", data := .dict ds.toArray n }) := ⟨h2, rfl, rfl, h3⟩
    have hlk : lookIn name { cls := .type "dict", data := .dict ds.toArray n } = some none := by
     unfold lookIn; dsimp only; rw [i2 hl, i3]; rfl
    have hfo := Zig hM.find hM.cls hlk hM.special hM.takes hM.copied
    refine Qb (wpAny_holding (Qb (get_bind RB.inB I hM.ga hfo hM.gattr (wpAny_call (fn_get (s := { sB with toks := sB.toks + 1 }) (RB.toks (sB.toks + 1)).inB hM.fn ?_)))))
    show wpAny _ _ (handedOut (.ref sB.heap.objs.size)) _ _ _
    rw [handedOut_of rfl]
    refine Qp (Qp ?_)
    refine Qb (wpAny_of_eq hp ?_)
    obtain ⟨RC, x2⟩ := RB.push (methodObj (.ref f) (.ref a)) (tk := sB.toks + 1)
    have hself : (sB.heap.push (methodObj (.ref f) (.ref a))).get? sB.heap.objs.size = some (methodObj (.ref f) (.ref a)) := Heap.get?_push_size _ rfl
    show wpAny _ _ (callWith pos (.ref sB.heap.objs.size) [] (backTo pos (starEach args F.env)) []) _ _ _
    have hzz : ¬ FzO (methodObj (.ref f) (.ref a)) := Zb4 (n := "method") rfl (by decide) (by decide) (by decide) (by decide)
    refine (Zax (k := λ ys => k (x :: ys)) (P := λ φ h => (sB.heap.objs.size ∉ φ ∧ h.get? sB.heap.objs.size = some (methodObj (.ref f) (.ref a))) ∧ VR φ h (.ref a) x) hargs (λ φ μ s φ' h' R e r => ?_) (λ φ h X hp => ?_) (λ vs ys A φ μ s Q E hA R p hb hQ hE => ?_)).fin hA RC ⟨⟨λ hm => absurd (RB.phiLt hm) (Nat.lt_irrefl _), hself⟩, rB.ext RB x2⟩ rfl (xB.trans x2) hb hQ hE
    ·obtain ⟨⟨q1, q2⟩, q3⟩ := r
     refine ⟨⟨e.nin q2 q1, ?_⟩, q3.ext R e⟩
     have ho := R.notOwn q2 (.inr ⟨_, rfl⟩)
     rcases e.old _ _ q2 q1 ho.1 ho.2 with z | ⟨⟨es, ep, z⟩, _⟩
     ·exact z
     ·cases z
    ·obtain ⟨oc, od, osl, hlkf⟩ := hf.at_
     refine ⟨.boundFrame, .inr (.inr rfl), (Looks.ld (part := none) hp.1.2).andThen ?_⟩
     exact (Looks.ld (part := none) (X _ _ hlkf)).andThen .now
    ·refine wpAny_call (ks_codeAny_call_bound p.1.1.2 ?_)
     exact hcall (.ref a :: vs) (x :: ys) A φ μ s _ hA R (.cons p.1.2 p.2) hb (λ v y φ' μ' s' e R' x' r => hQ v y φ' μ' s' e R' x' r) λ e x φ' μ' s' he R' x' r => hE e x φ' μ' s' he R' x' r
end

theorem Znu (C : Addr) (rest : List Value) (kw : List (Str × Value)) : (Code.builtin "type.__call__" ⟨.ref C :: rest, kw⟩).weight = 1 := by kernel_rfl
theorem Zqx (C : Addr) (rest : List Value) (kw : List (Str × Value)) : (Code.builtin "type.__call__" ⟨.ref C :: rest, kw⟩).envs = [] := by kernel_rfl
theorem Znv (C : Addr) (rest : List Value) (kw : List (Str × Value)) : (Code.builtin "type.__call__" ⟨.ref C :: rest, kw⟩).guards = [] := by kernel_rfl
theorem Zo2 (C : Addr) (rest : List Value) (kw : List (Str × Value)) : (Code.builtin "type.__call__" ⟨.ref C :: rest, kw⟩).cUnits = 1 := by kernel_rfl
structure MakeAt (c : Cx) (C f : Addr) : Prop where
 makes : makesIn c.K C = true
 init : findIn c.K (.ref C) "__init__" = some (some (.ref f))
 fn : typeIn c.K (.ref f) = some (.type "function")
 keep : keepIn c.K (.ref C) = true
noncomputable def lower (F : Fx) (n : Nat) : Fx := { F with lv := n }
section
variable {c : Cx} {F : Fx}
theorem Rep.lower {φ : List Addr} {μ : St} {s : Shared} {n : Nat} (R : Rep c F φ μ s) : Rep c (Mine.lower F n) φ μ s :=
 ⟨R.ok, R.keep, R.os, R.gens, R.len, R.nodup, R.phiB, R.objs, R.flen, R.lnodup, R.nss, R.cls, R.vloc, R.vcell, R.frm⟩
theorem Rep.raise {φ : List Addr} {μ : St} {s : Shared} {n : Nat} (R : Rep c (Mine.lower F n) φ μ s) : Rep c F φ μ s :=
 ⟨R.ok, R.keep, R.os, R.gens, R.len, R.nodup, R.phiB, R.objs, R.flen, R.lnodup, R.nss, R.cls, R.vloc, R.vcell, R.frm⟩
noncomputable def mkInst (C : Addr) (slotted : Bool) (d : Nat) : MO := match slotted with
 | true => .slt C d []
 | false => .ins C d
noncomputable def retNone (v r : PV) : PM PV := match r with
 | .none => pure v
 | _ => PM.H
noncomputable def newM (C : Addr) (slotted : Bool) (k : List PV -> PM PV) (xs : List PV) : PM PV :=
 allocM (.ns []) >>= λ d => allocM (mkInst C slotted d) >>= λ i => k (.obj i :: xs) >>= retNone (.obj i)
theorem Zqy {C f : Addr} {slotted : Bool} (hM : MakeAt c C f) {k : List PV -> PM PV} {lv : Nat} (hlv : lv + 1 <= F.lv)
  (hcall : ∀ vs xs, ∀ (A : Around) (φ : List Addr) (μ : St) (s : Shared) (R : Result -> Shared -> Prop), ACtx (lower F lv) A -> Rep c (lower F lv) φ μ s -> VRs φ s.heap vs xs -> k xs μ ≠ .bad ->
   (∀ v y φ' μ' s', k xs μ = .ok y μ' -> Rep c (lower F lv) φ' μ' s' -> Ext F.nss F.cls φ s.heap φ' s'.heap -> VR φ' s'.heap v y -> R (.ok (.ret v)) s') ->
   (∀ e x φ' μ' s', k xs μ = .exc x μ' -> Rep c (lower F lv) φ' μ' s' -> Ext F.nss F.cls φ s.heap φ' s'.heap -> ExcR c (dom s.heap) φ' s'.heap e x -> R (.error e) s') -> codeAny (model c.prog c.w) A (.call (.ref f) ⟨vs, []⟩) R s) (vs : List Value) (xs : List PV) :
  Sim c F (λ φ h => VRs φ h vs xs) (λ φ h v x => VR φ h v x) (call (.ref C) vs) (newM C slotted k xs) := by
 intro A φ μ s Q E hA R p hb hQ hE
 unfold newM at hb hQ hE
 obtain ⟨hh, g, d, t, os⟩ := s
 have Y := makes_of (M := model c.prog c.w) R.inB hM.makes
 refine wpAny_call (make_core Y (looks_findIn R.inB hM.init) (λ self => bind_fn R.inB self hM.fn) (.inl rfl) ?_)
 have hU : A.under (.builtin "type.__call__" ⟨.ref C :: vs, []⟩) = { A with depth := A.depth + 1, units := A.units + 1 } := by
  obtain ⟨hd, dp, fr, gs, u⟩ := A
  simp [Around.under, Znu, Zqx, Znv, Zo2, pushEnvs, pushGuards]
 rw [hU]
 have hA' : ACtx (lower F lv) { A with depth := A.depth + 1, units := A.units + 1 } := by
  refine ⟨hA.handled, hA.frames, hA.guards, ?_, ?_⟩
  ·show A.depth + 1 + 10 * lv <= 900
   have := hA.depth; lia
  ·show A.units + 1 + 100 * lv <= 9000
   have := hA.units; lia
 obtain ⟨RB, xB⟩ := R.alloc (ob := emptyDict) (o := .ns []) (tk := t) rfl λ hg hi hm => .ns (ds := []) hg .nil
 have hd1 : (φ ++ [hh.objs.size])[μ.hp.length]? = some hh.objs.size := by rw [<- R.len]; simp
 obtain ⟨RC, x2⟩ := RB.alloc (ob := instObj C hh.objs.size) (o := mkInst C slotted μ.hp.length) (tk := t) rfl λ hg hi hm => by
   cases slotted with
   | true => exact .slt (sl := []) (getElem?_app hd1) hg .nil
   | false => exact .ins (getElem?_app hd1) hg
 have sz : (hh.push emptyDict).objs.size = hh.objs.size + 1 := Heap.size_push ..
 have e2 : (allocM (.ns []) >>= λ d => allocM (mkInst C slotted d) >>= λ i => k (.obj i :: xs) >>= retNone (.obj i)) μ = (k (.obj (μ.hp ++ [MO.ns []]).length :: xs) >>= retNone (.obj (μ.hp ++ [MO.ns []]).length)) ⟨μ.fr, μ.hp ++ [.ns []] ++ [mkInst C slotted μ.hp.length]⟩ := rfl
 rw [e2] at hb hQ hE
 have hself : VR (φ ++ [hh.objs.size] ++ [(hh.push emptyDict).objs.size]) ((hh.push emptyDict).push (instObj C hh.objs.size)) (.ref (hh.objs.size + 1)) (.obj (μ.hp ++ [MO.ns []]).length) :=
  .obj (by rw [<- sz, length_append, <- R.len]; simp)
 have hxs : VRs (φ ++ [hh.objs.size] ++ [(hh.push emptyDict).objs.size]) ((hh.push emptyDict).push (instObj C hh.objs.size)) vs xs := (p.ext R xB).ext RB x2
 refine hcall _ _ _ _ _ _ _ hA' RC.lower (.cons hself hxs) (λ e => hb (by rw [PM.B, e])) (λ v y φ' μ' s' eo R' x' r => ?_) λ e x φ' μ' s' eo R' x' r => ?_
 ·rw [PM.C eo] at hb hQ
  induction r using VR.cs with
  | none => exact ⟨rfl, hQ _ _ φ' μ' s' rfl R'.raise (xB.trans (x2.trans x')) (hself.ext RC x')⟩
  | _ => exact (hb rfl).elim
 ·exact hE _ _ φ' μ' s' (by rw [PM.B, eo]) R'.raise (xB.trans (x2.trans x')) (r.le (xB.trans x2).dom)
end

noncomputable def raiseM {α : Type} (x : Value) : PM α := λ μ => .exc x μ
noncomputable def sRaise (x : Value) (g : PM (List PV)) : PM MF := g >>= λ xs => chk (lenOk xs) >>= λ _ => raiseM x
section
variable {c : Cx} {F : Fx} {φ φ0 : List Addr} {μ : St} {s s0 : Shared} {h' : Heap}
theorem Rep.kept (R : Rep c F φ μ s) (stay : ∀ a o, s.heap.get? a = some o -> h'.get? a = some o) {tk : Nat} : Rep c F φ μ { s with heap := h', toks := tk } := by
 have hm : ∀ v x, VR φ s.heap v x -> VR φ h' v x := λ v x r => r.move (λ _ _ e => e) (λ _ _ _ h => h) λ a o ho _ _ => stay a o ho
 have rest : Rest c F φ μ.fr h' := R.rest (λ _ _ _ h => h) (λ a o ho _ _ => ⟨o.slots, stay a o ho⟩) hm
 refine ⟨R.ok, λ b o hb => stay b o (R.keep b o hb), R.os, R.gens, R.len, R.nodup, R.phiB, λ i a o h1 h2 => ?_, R.flen, R.lnodup, rest.nss, rest.cls, rest.vloc, rest.vcell, rest.frm⟩
 ·obtain ⟨ob, hob⟩ := R.lt (mem_of_getElem? h1)
  exact (R.objs i a o h1 h2).move (λ _ _ e => e) hm ((stay _ _ hob).trans hob.symm)
theorem Ext.kept (x : Ext F.nss F.cls φ0 s0.heap φ s.heap) (stay : ∀ a o, s.heap.get? a = some o -> h'.get? a = some o) (size : s0.heap.objs.size <= h'.objs.size) : Ext F.nss F.cls φ0 s0.heap φ h' := by
 refine ⟨⟨x.grow, size, λ a o ho h1 h2 h3 => ?_⟩, λ a h => ?_⟩
 ·rcases x.old a o ho h1 h2 h3 with k | ⟨k1, sl, k⟩
  ·exact .inl (stay _ _ k)
  ·exact .inr ⟨k1, sl, stay _ _ k⟩
 ·obtain ⟨o, ho⟩ := x.dom a h
  exact ⟨o, stay _ _ ho⟩
theorem Zii (R : Rep c F φ μ s) {e : Addr} {cls : Value} (x : Ext F.nss F.cls φ0 s0.heap φ s.heap) (hnew : s.heap.get? e = none) (stay : ∀ a o, s.heap.get? a = some o -> h'.get? a = some o) {vs : Array Value} {oe : Obj}
  (hthere : h'.get? e = some oe) (hc : oe.cls = cls) (hd : oe.data = .fields vs) (h5 : 5 <= vs.size) (h1 : vs[1]? = some .none) (hcls : ∀ n ∈ ["tuple", "list", "range", "method-wrapper", "dict_values"], cls ≠ .type n) : ExcR c (dom s0.heap) φ h' (.ref e) cls := by
 refine ⟨e, oe, vs, rfl, hthere, hc, ?_, hd, h5, λ hm => ?_, ?_, λ ⟨o, ho⟩ => ?_, .inl h1⟩
 ·rintro ⟨q | q | q | q | q, _⟩ <;> rw [hc] at q <;> exact absurd q (hcls _ (by simp))
 ·obtain ⟨o, ho⟩ := R.lt hm
  rw [hnew] at ho; cases ho
 ·cases q : c.B.get? e with
  | none => rfl
  | some o => have := R.keep e o q; rw [hnew] at this; cases this
 ·obtain ⟨o', ho'⟩ := x.dom e ⟨o, ho⟩
  rw [hnew] at ho'; cases ho'
structure OwnExc (c : Cx) (x : Str) (C : Addr) (newId : String) (bmB : List Value) : Prop where
 glob : nsIn c.K mainGlobals x = some (some (.ref C))
 at_ : OwnCls x C bmB newId c.mg c.B
theorem Zij {x : Str} {C : Addr} {B newId initId : String} {bmB : List Value} (G : ExcBaseFacts B newId initId bmB) (O : OwnExc c x C newId bmB) {np cpos pos : Pos} {args : List Expr} {g : PM (List PV)}
  (hh : F.hd = true) (hplain : (backTo cpos (starEach args F.env)).any (·.1) = false)
  (hn : ∀ A φ μ s Q (E : Value -> Shared -> Prop), ACtx F A -> Rep c F φ μ s -> Q (.ref C) s -> wpAny (model c.prog c.w) A (eval (.Name x np) F.env) Q E s) (hargs : CallArgs c F (starEach args F.env) g) :
  SimS c F (.Raise (some (.Call (.Name x np) args [] cpos)) none pos) (sRaise (.ref C) g) := λ A φ μ s Q E hA R p hb hQ hE => by
 unfold sRaise at hb hQ hE
 obtain ⟨tl, N, nm, q, bs, hdct, sn, sub, ab, col, dd, k0, k1, k2, k3, k5, mN, hC, hN, hni, T⟩ := O.at_.obj
 refine Z8 (wpAny_Raise_call_subT (C := C) (nm := nm) (q := q) (N := N) (bs := bs) (bm := tl) (hdct := hdct) (sn := sn) (sub := sub) (ab := ab) (col := col) (dd := dd) (k0 := k0) (k1 := k1) (k2 := k2) (k3 := k3) (k5 := k5)
  G (mN := mN) (T.hasType G.hasBase) (hA.handled hh) hplain hni (hn A φ μ s _ _ hA R ⟨rfl, ?_⟩))
 refine (Zdu hargs).use hA R trivial hb (λ e y φ' μ' s' he R' x' r _ => hE e y φ' μ' s' he R' x' r) λ a b φ' μ' s' eg R' x r => ?_
 rw [eg] at hb hE
 obtain ⟨hl, e2⟩ := Zn hb
 rw [e2] at hE
 refine ⟨r.2, by rw [r.1.length]; exact Zz hl, R'.keep _ _ hC, hN.keeps R'.keep, T.keeps R'.keep, λ h' e hm size => ?_⟩
 obtain ⟨t, ht, _, _⟩ := hm.there
 exact hE (.ref e) (.ref C) φ' μ' { s' with heap := h' } rfl (R'.kept hm.keeps) (x.kept hm.keeps size) (Zii R' x hm.new hm.keeps ht rfl rfl (by simp) rfl (by simp))
end

noncomputable def noExc {α : Type} (f : PM α) : PM α := λ μ => match f μ with
 | .ok a μ' => .ok a μ'
 | .exc _ _ => .bad
 | .bad => .bad
noncomputable def handleM : List ((Value -> Option Bool) × PM MF) -> Value -> PM MF
 | [], _ => PM.H
 | (m, g) :: rest, x => match m x with
  | some true => noExc g
  | some false => handleM rest x
  | none => PM.H
theorem Zg7 {m : Value -> Option Bool} {g : PM MF} {rest : List ((Value -> Option Bool) × PM MF)} {x : Value} : handleM ((m, g) :: rest) x = (match m x with | some true => noExc g | some false => handleM rest x | none => PM.H) := rfl
noncomputable def tryM (f : PM MF) (hs : List ((Value -> Option Bool) × PM MF)) : PM MF := λ μ => match f μ with
 | .ok a μ' => .ok a μ'
 | .exc x μ' => handleM hs x μ'
 | .bad => .bad
structure CatchAt (c : Cx) (T : Value) (m : Value -> Option Bool) : Prop where
 nt : ∀ h, c.K.In h -> Looks (model c.prog c.w) h (isInstance T (.type "tuple")) false
 exc : ∀ h, c.K.In h -> Looks (model c.prog c.w) h (isExcClass T) true
 sub : ∀ x b, m x = some b -> ∀ h, c.K.In h -> Looks (model c.prog c.w) h (isSubtype x T) b
noncomputable def handling (F : Fx) : Fx := { F with hd := false }
inductive HandlersAt (c : Cx) (F : Fx) : List ExceptHandler -> List ((Value -> Option Bool) × PM MF) -> Prop
 | nil : HandlersAt c F [] []
 | cons {t : Expr} {bA : Stmt} {suite : List Stmt} {pos : Pos} {T : Value} {m : Value -> Option Bool} {g : PM MF} {hs : List ExceptHandler} {ms : List ((Value -> Option Bool) × PM MF)} :
   (∀ A φ μ s Q (E : Value -> Shared -> Prop), ACtx (handling F) A -> Rep c (handling F) φ μ s -> Q T s -> wpAny (model c.prog c.w) A (eval t F.env) Q E s) -> CatchAt c T m ->
   SimSS c (handling F) (bA :: suite) g -> HandlersAt c F hs ms -> HandlersAt c F (.ExceptHandler (some t) none (bA :: suite) pos :: hs) ((m, g) :: ms)
section
variable {c : Cx} {F : Fx} {φ φ0 : List Addr} {μ : St} {s s0 : Shared} {h' : Heap}
theorem Rep.handling (R : Rep c F φ μ s) : Rep c (Mine.handling F) φ μ s :=
 ⟨R.ok, R.keep, R.os, R.gens, R.len, R.nodup, R.phiB, R.objs, R.flen, R.lnodup, R.nss, R.cls, R.vloc, R.vcell, R.frm⟩
theorem Rep.handled (R : Rep c (Mine.handling F) φ μ s) : Rep c F φ μ s :=
 ⟨R.ok, R.keep, R.os, R.gens, R.len, R.nodup, R.phiB, R.objs, R.flen, R.lnodup, R.nss, R.cls, R.vloc, R.vcell, R.frm⟩
theorem ACtx.mark {A : Around} (hA : ACtx F A) (h : Option Value) : ACtx (Mine.handling F) (A.mark h) := ⟨λ e => (nomatch e), hA.frames, hA.guards, hA.depth, hA.units⟩
theorem Zkn {M : Model} {A : Around} {E : Value -> Shared -> Prop} {e T x : Value} {b : Bool} {Q : Bool -> Shared -> Prop} (h1 : Looks M s.heap (isInstance T (.type "tuple")) false) (h2 : Looks M s.heap (isExcClass T) true)
  (h3 : Looks M s.heap (typeOf e) x) (h4 : Looks M s.heap (isSubtype x T) b) (h : Q b s) : wpAny M A (excMatches e T) Q E s := by
 unfold excMatches
 refine Qb (h1.here ?_)
 rw [if_neg Bool.false_ne_true]
 refine Qb (Qp ?_)
 dsimp only
 rw [forIn_cons]
 refine Qb (Qb (Qb (h2.here ?_)))
 rw [if_neg (by decide)]
 refine Qp ?_
 dsimp only
 rw [forIn_nil]
 refine Qp (Qb (h3.here ?_))
 rw [forIn_cons]
 refine Qb (Qb (Qb (h4.here ?_)))
 cases b with
 | true => rw [if_pos rfl]; exact Qp (Qp (Qp h))
 | false =>
  rw [if_neg Bool.false_ne_true]
  refine Qp ?_
  dsimp only
  rw [forIn_nil]
  exact Qp (Qp h)
theorem Zik {hs : List ExceptHandler} {ms : List ((Value -> Option Bool) × PM MF)} (H : HandlersAt c F hs ms) {A : Around} {e x : Value} {Q : Flow -> Shared -> Prop} {E : Value -> Shared -> Prop} {h₀ : Heap} (hA : ACtx F A) :
  ∀ {φ : List Addr} {μ : St} {s : Shared}, Rep c F φ μ s -> Ext F.nss F.cls φ0 h₀ φ s.heap -> ExcT c (dom h₀) φ s.heap e x -> handleM ms x μ ≠ .bad ->
  (∀ a b φ' μ' s', handleM ms x μ = .ok b μ' -> Rep c F φ' μ' s' -> Ext F.nss F.cls φ0 h₀ φ' s'.heap -> FR φ' s'.heap a b -> Q a s') -> wpAny (model c.prog c.w) A (handleBy e F.env hs) Q E s := by
 induction H with
 | nil => intro φ μ s R xA hx hb hQ; exact (hb rfl).elim
 | @cons t bA suite pos T m g hs ms hn hC hg hr ih =>
  intro φ μ s R xA hx hb hQ
  rw [Zg7] at hb hQ
  obtain ⟨ea, oe, vs, T', oT, ts, he, h2, h3, hz⟩ := id hx
  have hnb : e ≠ byPass := by rw [he]; intro q; cases q
  cases hm : m x with
  | none => rw [hm] at hb; exact (hb rfl).elim
  | some b =>
   rw [hm] at hb hQ
   refine wpAny_handleBy_cons (codeAny_handlers_test (hn _ φ μ s _ _ (hA.mark _) R.handling ?_)) hnb
   have X := R.inB
   have hty : Looks (model c.prog c.w) s.heap (typeOf e) x := by
    subst he; subst h3
    exact (Looks.ld h2).andThen .now
   refine Zkn (hC.nt _ X) (hC.exc _ X) hty (hC.sub x b hm _ X) ?_
   cases b with
   | true =>
    refine codeAny_handlers_suite (Zb5 (s := s) (F := F) R hx λ h₁ N1 TB => ?_)
    dsimp only at hb hQ
    unfold noExc at hb hQ
    dsimp only at hb hQ
    have RB : Rep c F φ μ { s with heap := h₁ } := R.side (tk := s.toks) N1.side
    have xB := N1.ext (λ _ q => q) xA
    refine hg _ φ μ { s with heap := h₁ } _ _ (hA.mark _) RB.handling trivial (λ e => hb (by rw [e])) (λ a b φ' μ' s' eo R' x' r => ?_) λ e y φ' μ' s' eo _ _ _ => (hb (by rw [eo])).elim
    exact hQ a b φ' μ' s' (by rw [eo]) R'.handled (xB.trans x') r
   | false => exact ih R xA hx hb hQ
theorem Zlf {body : List Stmt} {h₁ : ExceptHandler} {hs : List ExceptHandler} {pos : Pos} {f : PM MF} {ms : List ((Value -> Option Bool) × PM MF)} {outer : List Env} (hfr : F.frames = F.env :: outer)
  (hb : SimSS c F body f) (H : HandlersAt c F (h₁ :: hs) ms) : SimS c F (.Try body (h₁ :: hs) [] [] pos) (tryM f ms) := λ A φ μ s Q E hA R p hbad hQ hE => by
 unfold tryM at hbad hQ hE
 refine wpAny_Try_except (hb A φ μ s _ _ hA R trivial (λ e => hbad (by rw [e])) (λ a b φ' μ' s' eo R' x r => ?_) λ e y φ' μ' s' eo R' x r => ?_)
 ·have z := hQ a b φ' μ' s' (by rw [eo]) R' x r
  cases a with
  | next => exact wpAny_execs_nil z
  | _ => exact z
 ·rw [eo] at hbad hQ
  refine Zfo hA R' hfr r (λ h₂ N2 TC => ?_) x.dom
  refine Zb5 (s := { s' with heap := h₂ }) (R'.side (tk := s'.toks) N2.side) TC λ h₃ N3 T3 => ?_
  exact Zik H hA (s := { s' with heap := h₃ }) ((R'.side (tk := s'.toks) N2.side).side (tk := s'.toks) N3.side) (N3.ext (λ _ q => q) (N2.ext (λ _ q => q) x)) T3 hbad hQ
end

noncomputable def ownCell (env : Env) (n : Str) (k : NameKind) : Bool := k == .free && env.scope.kind == .function && env.kindOf n == some .cell
noncomputable def cEnv (env : Env) (scope : Scope) (Lc : Addr) (clo : List (Str × Addr)) : Env :=
 { scope := { scope with names := scope.names.map λ (n, k) => if ownCell env n k then (n, .cell) else (n, k) }, locals := Lc, globals := env.globals, cells := cellsFrom (Lc + 1) scope.names clo, qual := env.qual, func := none, code := env.code, frame := env.frame, builtins := env.builtins }
noncomputable def newCells (Lc : Addr) (scope : Scope) : List (Str × Addr) := cellsFrom (Lc + 1) scope.names []
noncomputable def compFx (F : Fx) (scope : Scope) (Lc : Addr) (clo : List (Str × Addr)) : Fx :=
 { env := cEnv F.env scope Lc clo, locs := F.locs ++ locsOf Lc (newCells Lc scope) scope.names, nss := Lc :: F.nss, cls := F.cls ++ (newCells Lc scope).map (·.2), frames := F.frames, lv := F.lv, hd := F.hd }
noncomputable def pushU (μ : St) (m : Nat) : St := ⟨μ.fr ++ List.replicate m .undef, μ.hp⟩
section
variable {c : Cx} {F : Fx} {φ φ' : List Addr} {μ μ' : St} {s s' : Shared} {h' : Heap}
theorem Zbl : ∀ (names : List (Str × NameKind)) (h : Heap), h.objs.size <= (pushCells h names).objs.size
 | [], h => Qr
 | (_, kind) :: r, h => by
  unfold pushCells
  split
  ·exact Nat.le_trans (by rw [Heap.size_push]; exact Nat.le_succ _) (Zbl r _)
  ·exact Zbl r h
theorem Rep.enterC (R : Rep c F φ μ s) {scope : Scope} (hn : (scope.names.map (·.1)).Nodup) (clo : List (Str × Addr)) (o : Obj) (ho : o = { cls := .type "dict", data := .dict #[] }) :
  Rep c F φ μ { s with heap := pushCells (s.heap.push o) scope.names } ∧ Ext F.nss F.cls φ s.heap φ (pushCells (s.heap.push o) scope.names) ∧
  Rep c (compFx F scope s.heap.objs.size clo) φ (pushU μ (ownNames scope.names).length) { s with heap := pushCells (s.heap.push o) scope.names } := by
 subst ho
 have keep : ∀ a ob, s.heap.get? a = some ob -> (pushCells (s.heap.push { cls := .type "dict", data := .dict #[] }) scope.names).get? a = some ob := λ a ob e => pushCells_keeps _ _ _ _ (Heap.get?_push_of_some _ e)
 obtain ⟨RB, xB⟩ := R.still (tk := s.toks) (h' := pushCells (s.heap.push { cls := .type "dict", data := .dict #[] }) scope.names) (Nat.le_trans (by rw [Heap.size_push]; exact Nat.le_succ _) (Zbl scope.names _)) keep
 refine ⟨RB, xB, ?_⟩
 have hns : (pushCells (s.heap.push { cls := .type "dict", data := .dict #[] }) scope.names).Ns s.heap.objs.size λ _ => none := (Heap.Ns.new s.heap (.type "dict")).keeps (pushCells_keeps _ _)
 have cok : CellsOk (pushCells (s.heap.push { cls := .type "dict", data := .dict #[] }) scope.names) (s.heap.objs.size + 1) (newCells s.heap.objs.size scope) := by
  have := cellsFrom_ok scope.names (s.heap.push { cls := .type "dict", data := .dict #[] }) (s.heap.objs.size + 1) [] ⟨λ _ _ hm => (nomatch hm), List.Pairwise.nil⟩ (by rw [Heap.size_push]; exact Qr)
  rw [Heap.size_push] at this
  exact this
 have oldNs : ∀ L ∈ F.nss, L < s.heap.objs.size := λ L hL => by
  obtain ⟨_, _, m, hm⟩ := R.nss L hL
  exact hm.lt
 have oldCl : ∀ a ∈ F.cls, a < s.heap.objs.size := λ a ha => by
  obtain ⟨_, _, v, o, ho, _⟩ := R.cls a ha
  exact Heap.lt_size ho
 have hlen : (locsOf s.heap.objs.size (newCells s.heap.objs.size scope) scope.names).length = (ownNames scope.names).length := by unfold locsOf; simp
 have newAt : ∀ (k : Nat) (pv : PV), (μ.fr ++ List.replicate (ownNames scope.names).length PV.undef)[k]? = some pv -> pv ≠ .undef -> k < F.locs.length ∧ μ.fr[k]? = some pv := λ k pv e hu => by
  by_cases hk : k < μ.fr.length
  ·rw [List.getElem?_append_left hk] at e
   exact ⟨by rw [<- R.flen]; exact hk, e⟩
  ·rw [List.getElem?_append_right (Nat.le_of_not_lt hk)] at e
   have := mem_of_getElem? e
   exact absurd (List.eq_of_mem_replicate this) hu
 have inNew : ∀ l ∈ locsOf s.heap.objs.size (newCells s.heap.objs.size scope) scope.names, (∃ y, l = .loc s.heap.objs.size y) ∨ ∃ a, l = .cell a ∧ a ∈ (newCells s.heap.objs.size scope).map (·.2) := λ l hl => by
  unfold locsOf at hl
  obtain ⟨⟨y, k⟩, hy, rfl⟩ := Qmm hl
  obtain ⟨h1, h2⟩ := Zap hy
  dsimp only
  split
  ·exact .inl ⟨y, rfl⟩
  ·rename_i hk
   have hc : k = .cell := by
    rcases h2 with h | h
    ·have h : k = .local := h
     subst h; exact absurd rfl hk
    ·exact h
   subst hc
   obtain ⟨a, ha⟩ := Option.isSome_iff_exists.mp (Zaq y scope.names (s.heap.objs.size + 1) [] (.inl h1))
   refine .inr ⟨a, ?_, mem_map.mpr ⟨_, mem_of_lookup ha, rfl⟩⟩
   show Loc.cell (((newCells s.heap.objs.size scope).lookup y).getD 0) = _
   unfold newCells
   rw [ha]; rfl
 have newAbove : ∀ a ∈ (newCells s.heap.objs.size scope).map (·.2), s.heap.objs.size + 1 <= a ∧ (pushCells (s.heap.push { cls := .type "dict", data := .dict #[] }) scope.names).IsCell a none := λ a ha => by
  obtain ⟨⟨y, a'⟩, hm, rfl⟩ := Qmm ha
  exact ⟨(cok.empty _ _ hm).2, (cok.empty _ _ hm).1⟩
 refine ⟨RB.ok, RB.keep, RB.os, RB.gens, RB.len, RB.nodup, RB.phiB, RB.objs, ?_, ?_, λ L hL => ?_, λ a ha => ?_, λ k L x hk => ?_, λ k a hk => ?_, λ env he => ?_⟩
 ·show (μ.fr ++ List.replicate _ _).length = (F.locs ++ _).length
  rw [length_append, length_append, List.length_replicate, hlen, R.flen]
 ·show (F.locs ++ _).Nodup
  refine nodup_append.mpr ⟨R.lnodup, Zf4 hn cok.apart λ y hy => Zaq y _ _ _ (.inl hy), λ l hl l' hl' e => ?_⟩
  subst e
  obtain ⟨k, hk⟩ := List.getElem?_of_mem hl
  rcases inNew l hl' with ⟨y, rfl⟩ | ⟨a, rfl, ha⟩
  ·exact absurd (oldNs _ (R.vloc k _ _ hk).1) (Nat.lt_irrefl _)
  ·have h1 := oldCl _ (R.vcell k _ hk).1
   have h2 := (newAbove a ha).1
   exact absurd h1 (Nat.not_lt_of_le (Nat.le_trans (Nat.le_succ _) h2))
 ·rcases Qmc (show L ∈ s.heap.objs.size :: F.nss from hL) with rfl | hL
  ·have ab := R.above (Nat.le_refl s.heap.objs.size)
   exact ⟨ab.1, ab.2, _, hns⟩
  ·exact RB.nss L hL
 ·rcases Qma (show a ∈ F.cls ++ (newCells s.heap.objs.size scope).map (·.2) from ha) with ha | ha
  ·exact RB.cls a ha
  ·have ab := R.above (Nat.le_trans (Nat.le_succ _) (newAbove a ha).1)
   exact ⟨ab.1, ab.2, _, (newAbove a ha).2⟩
 ·have hk : (F.locs ++ locsOf s.heap.objs.size (newCells s.heap.objs.size scope) scope.names)[k]? = some (.loc L x) := hk
  refine ⟨?_, λ pv hp hu => ?_⟩
  ·by_cases hlt : k < F.locs.length
   ·rw [List.getElem?_append_left hlt] at hk
    exact mem_cons_of_mem _ (R.vloc k L x hk).1
   ·rw [List.getElem?_append_right (Nat.le_of_not_lt hlt)] at hk
    rcases inNew _ (mem_of_getElem? hk) with ⟨y, e⟩ | ⟨a, e, _⟩
    ·cases e; exact mem_cons_self
    ·cases e
  ·obtain ⟨h1, h2⟩ := newAt k pv hp hu
   rw [List.getElem?_append_left h1] at hk
   exact (RB.vloc k L x hk).2 pv h2 hu
 ·have hk : (F.locs ++ locsOf s.heap.objs.size (newCells s.heap.objs.size scope) scope.names)[k]? = some (.cell a) := hk
  refine ⟨?_, λ pv hp hu => ?_⟩
  ·by_cases hlt : k < F.locs.length
   ·rw [List.getElem?_append_left hlt] at hk
    exact mem_append_left _ (R.vcell k a hk).1
   ·rw [List.getElem?_append_right (Nat.le_of_not_lt hlt)] at hk
    rcases inNew _ (mem_of_getElem? hk) with ⟨y, e⟩ | ⟨a, e, ha⟩
    ·cases e
    ·cases e; exact mem_append_right _ ha
  ·obtain ⟨h1, h2⟩ := newAt k pv hp hu
   rw [List.getElem?_append_left h1] at hk
   exact (RB.vcell k a hk).2 pv h2 hu
 ·exact RB.frm env he
theorem Rep.spare (R : Rep c F φ μ s) {a : Addr} (hs : Heap.SameBut a s.heap h') (h1 : a ∉ φ) (h2 : a ∉ F.nss) (h3 : a ∉ F.cls) (h4 : a ∉ F.stk) (h5 : c.B.get? a = none) (h6 : ∀ o, s.heap.get? a = some o -> ¬ FzO o) {tk : Nat} : Rep c F φ μ { s with heap := h', toks := tk } := by
 have hm : ∀ v x, VR φ s.heap v x -> VR φ h' v x := λ v x r => r.move (λ _ _ e => e) (λ _ _ _ h => h) λ b o ho _ hz => (hs.2 b λ e => h6 o (e ▸ ho) hz).trans ho
 refine ⟨R.ok, λ b o hb => (hs.2 b λ e => by rw [e, h5] at hb; cases hb).trans (R.keep b o hb), R.os, R.gens, R.len, R.nodup, R.phiB, λ i b o q1 q2 => ?_, R.flen, R.lnodup, λ L hL => ?_, λ b hb => ?_, λ k L x hk => ?_, λ k b hk => ?_, λ env he => ?_⟩
 ·exact (R.objs i b o q1 q2).move (λ _ _ e => e) hm (hs.2 b λ e => h1 (e ▸ mem_of_getElem? q1))
 ·obtain ⟨q1, q2, m, hn⟩ := R.nss L hL
  exact ⟨q1, q2, m, hn.sameBut hs λ e => h2 (e ▸ hL)⟩
 ·obtain ⟨q1, q2, v, hn⟩ := R.cls b hb
  exact ⟨q1, q2, v, hn.sameBut hs λ e => h3 (e ▸ hb)⟩
 ·obtain ⟨q1, q2⟩ := R.vloc k L x hk
  refine ⟨q1, λ pv hp hu => ?_⟩
  obtain ⟨m, v, hn, hx, hv⟩ := q2 pv hp hu
  exact ⟨m, v, hn.sameBut hs λ e => h2 (e ▸ q1), hx, hm _ _ hv⟩
 ·obtain ⟨q1, q2⟩ := R.vcell k b hk
  refine ⟨q1, λ pv hp hu => ?_⟩
  obtain ⟨v, hn, hv⟩ := q2 pv hp hu
  exact ⟨v, hn.sameBut hs λ e => h3 (e ▸ q1), hm _ _ hv⟩
 ·obtain ⟨q1, L, q2, q3, q4, o, es, ep, ho, r⟩ := R.frm env he
  exact ⟨q1, L, q2, q3, q4, o, es, ep, (hs.2 L λ e => h4 (e ▸ List.mem_filterMap.mpr ⟨env, he, q2⟩)).trans ho, r⟩
end

noncomputable def getIt (pv : PV) (μ0 : St) (k : Nat) (μ : St) : Option (Option PV) := match pv with
 | .vals i => (match μ0.hp[i]? with
  | some (.dct es0 ep0) => (match μ.hp[i]? with
   | some (.dct es ep) => if es.length = es0.length ∧ ep = ep0 then some ((es[k]?).map λ e => e.2) else none
   | _ => none)
  | _ => none)
 | pv => getOf pv μ0 k μ
structure SelfIter (c : Cx) (it : Addr) (ob : Nat -> Obj -> Prop) : Prop where
 self : ∀ (k : Nat) (A : Around) (s : Shared) (Q : Value -> Shared -> Prop) (E : Value -> Shared -> Prop), (∃ o, s.heap.get? it = some o ∧ ob k o) -> Q (.ref it) s -> wpAny (model c.prog c.w) A (pyIter (.ref it)) Q E s
 letGo : ∀ (k : Nat) (target : Expr) (w : Value) (A : Around) (s : Shared) (Q : Unit -> Shared -> Prop) (E : Value -> Shared -> Prop), (∃ o, s.heap.get? it = some o ∧ ob k o) -> Q () s -> wpAny (model c.prog c.w) A (letOwnedTupleGo target (.ref it) w) Q E s
section
variable {c : Cx} {F : Fx}
theorem Zce {M : Model} {A : Around} {s : Shared} {Q : Unit -> Shared -> Prop} {E : Value -> Shared -> Prop} {it : Addr} {target : Expr} {w : Value} {o : Obj} {T : String} {vs : Array Value} (ho : s.heap.get? it = some o) (hc : o.cls = .type T) (hd : o.data = .fields vs)
  (hT : T = "list_iterator" ∨ T = "tuple_iterator" ∨ T = "range_iterator" ∨ T = "dict_keyiterator" ∨ T = "dict_valueiterator") (h : Q () s) : wpAny M A (letOwnedTupleGo target (.ref it) w) Q E s := by
 unfold letOwnedTupleGo
 cases target <;> first
  | exact Qp h
  | (cases w <;> first
    | exact Qp h
    | (refine Qb (wpAny_load ho ?_); rw [hc, hd]; rcases hT with rfl | rfl | rfl | rfl | rfl <;> exact Qp h))
theorem Zo3 {d : Addr} {i n ep : Nat} {it : Addr} {get : Nat -> St -> Option (Option PV)}
  (hg : ∀ k μ, get k μ ≠ none -> ∃ es, μ.hp[i]? = some (.dct es ep) ∧ es.length = n ∧ get k μ = some ((es[k]?).map λ e => e.2)) (hh : F.hd = true) :
  ItP c F it (λ k o => o.cls = .type "dict_valueiterator" ∧ o.data = .fields #[.ref d, .int k 0, .int n 0, .int ep 0]) (.ref d) (.obj i) get := by
 refine ⟨λ k o h => ⟨⟨_, h.2⟩, Zbw h.1 (by decide) (by decide) (by decide) (by decide)⟩, λ k A φ μ s Q E hA R hit hr hn hi hb => ?_⟩
 obtain ⟨o, ho, hc, hd⟩ := hit
 obtain ⟨es, hes, hlen, hget⟩ := hg k μ hb
 have hdi : φ[i]? = some d := hr.inv_obj rfl rfl
 have q := R.objs i d _ hdi hes
 obtain ⟨kvs, k1, k2⟩ := q.inv_dct rfl
 ·
  have hkl : kvs.length = n := by rw [Zca k2, hlen]
  subst hkl
  cases hx : es[k]? with
  | none =>
   have : kvs[k]? = none := by
    rw [List.getElem?_eq_none_iff] at hx ⊢
    lia
   exact wpAny_pyNext_values_end (knd := intKind c.prog c.w) (hA.handled hh) ⟨o, ho, hc, hd⟩ k1 this λ h' hs => hn (by rw [hget, hx]; rfl) h' s.toks hs
  | some e =>
   obtain ⟨w, hw, hr⟩ := Zk8 k2 hx
   refine wpAny_pyNext_values_item (knd := intKind c.prog c.w) ⟨o, ho, hc, hd⟩ k1 hw λ h' hit' hs => hi e.2 (by rw [hget, hx]; rfl) w h' s.toks ?_ hs.extBut ?_
   ·obtain ⟨o', ho', hc', hd'⟩ := hit'
    exact ⟨o', ho', hc', hd'⟩
   ·refine hr.move (λ _ _ e => e) (λ _ _ _ h => h) λ a oa ha _ hz => (hs.2 a λ e => ?_).trans ha
    subst e
    rw [ho] at ha; cases ha
    exact Zbw hc (by decide) (by decide) (by decide) (by decide) (by decide) hz
theorem Zf8 {A : Around} {φ : List Addr} {μ : St} {s : Shared} {Q : Value -> Shared -> Prop} {E : Value -> Shared -> Prop} {v : Value} {pv : PV} (R : Rep c F φ μ s) (r : VR φ s.heap v pv) (hne : getIt pv μ 0 μ ≠ none)
  (K : ∀ (o : Obj) (ob : Nat -> Obj -> Prop) (get : Nat -> St -> Option (Option PV)) (v' : Value) (pv' : PV), o.isFreed = false -> VR φ s.heap v' pv' -> (∀ G : Fx, G.hd = true -> ItP c G s.heap.objs.size ob v' pv' get) -> ob 0 o -> (∀ k μ', getIt pv μ k μ' = get k μ') -> SelfIter c s.heap.objs.size ob -> Q (.ref s.heap.objs.size) { s with heap := s.heap.push o }) :
  wpAny (model c.prog c.w) A (pyIter v) Q E s := by
 have selfL : ∀ a, SelfIter c s.heap.objs.size (λ k o => o.cls = .type "list_iterator" ∧ o.data = .fields #[.ref a, .int k 0]) := λ a =>
  ⟨λ k A s Q E ⟨o, ho, hc, hd⟩ h => wpAny_pyIter_listiter ⟨o, ho, hc, hd⟩ h, λ k t w A s Q E ⟨o, ho, hc, hd⟩ h => Zce ho hc hd (.inl rfl) h⟩
 induction r using VR.cs with
 | @lst a vs m xs h1 h4 h5 =>
  refine wpAny_pyIter_list ⟨_, h1, rfl, _, rfl⟩ (K _ (λ k o => o.cls = .type "list_iterator" ∧ o.data = .fields #[.ref a, .int k 0]) (λ k _ => some xs[k]?) _ _ rfl (.lst h1 h4 h5) (λ G hG => Zh9 (λ φ μ s k R hv _ => ?_) (.inr trivial) hG) ⟨rfl, rfl⟩ (λ _ _ => rfl) (selfL a))
  obtain ⟨_, _, q1, q4, q5⟩ := hv.inv_lst rfl rfl
  ·exact ⟨_, _, ⟨_, q1, rfl, _, rfl⟩, q5, rfl⟩
 | @tup a vs m xs h1 h4 h5 =>
  refine wpAny_pyIter_tuple ⟨_, h1, rfl, _, rfl⟩ (K _ (λ k o => o.cls = .type "tuple_iterator" ∧ o.data = .fields #[.ref a, .int k 0]) (λ k _ => some xs[k]?) _ _ rfl (.tup h1 h4 h5) (λ G hG => Znn hG) ⟨rfl, rfl⟩ (λ _ _ => rfl) ⟨λ k A s Q E hit h => ?_, λ k t w A s Q E hit h => ?_⟩)
  ·obtain ⟨o, ho, hc, hd⟩ := hit; exact wpAny_pyIter_tupleiter ⟨o, ho, hc, hd⟩ h
  ·obtain ⟨o, ho, hc, hd⟩ := hit; exact Zce ho hc hd (.inr (.inl rfl)) h
 | @rng r a b st t u w h1 h2 =>
  cases hsm : Builtin.Range.small a b st with
  | false => exact (hne (by show getOf (.rng a b st) μ 0 μ = none; unfold getOf; dsimp only; rw [hsm]; rfl)).elim
  | true =>
   refine wpAny_pyIter_range h1 hsm (K _ _ (λ k _ => if (k : Int) < Builtin.Range.rangeSize a b st then some (some (.int (a + k * st))) else some none) _ _ rfl (.rng h1 h2) (λ G hG => Zno (r := r) hG) (by simp) (λ k μ' => by show getOf (.rng a b st) μ k μ' = _; unfold getOf; dsimp only; rw [hsm]; rfl) ⟨λ k A s Q E hit h => ?_, λ k t w A s Q E hit h => ?_⟩)
   ·obtain ⟨o, ho, hd⟩ := hit; subst hd; exact wpAny_pyIter_rangeiter ho h
   ·obtain ⟨o, ho, hd⟩ := hit; subst hd; exact Zce ho rfl rfl (.inr (.inr (.inl rfl))) h
 | @obj i a h1 =>
  have hsys := R.notSys (mem_of_getElem? h1)
  cases hi : μ.hp[i]? with
  | none => exact (hne (by show getOf (.obj i) μ 0 μ = none; unfold getOf; dsimp only; rw [hi]; try rfl)).elim
  | some ob =>
   have q := R.objs i a ob h1 hi
   cases q with
   | @lst vs m xs k1 k2 =>
    refine wpAny_pyIter_list ⟨_, k1, rfl, _, rfl⟩ (K _ (λ k o => o.cls = .type "list_iterator" ∧ o.data = .fields #[.ref a, .int k 0]) (λ k μ' => getOf (.obj i) μ k μ') _ _ rfl (.obj h1) (λ G hG => Zh9 (λ φ μ' s k R hv hne => ?_) (.inr trivial) hG) ⟨rfl, rfl⟩ (λ _ _ => rfl) (selfL a))
    have q1 := hv.inv_obj rfl rfl
    ·
     unfold getOf at hne ⊢; dsimp only at hne ⊢; rw [hi] at hne ⊢; dsimp only [getO] at hne ⊢
     cases hj : μ'.hp[i]? with
     | none => rw [hj] at hne; exact (hne rfl).elim
     | some o2 =>
      cases o2 with
      | lst ys =>
       have q := R.objs i a _ q1 hj
       obtain ⟨_, _, z1, z2⟩ := q.inv_lst rfl
       ·exact ⟨_, ys, ⟨_, z1, rfl, _, rfl⟩, z2, rfl⟩
      | _ => rw [hj] at hne; exact (hne rfl).elim
   | @dct kvs es ep k1 k2 =>
    refine wpAny_pyIter_dict (knd := intKind c.prog c.w) hsys k1 (K _ (λ k o => o.cls = .type "dict_keyiterator" ∧ o.data = .fields #[.ref a, .int k 0, .int (es.length : Nat) 0, .int ep 0]) (λ k μ' => getOf (.obj i) μ k μ') _ _ rfl (.obj h1) (λ G hG => Zoy (λ k μ' hne => ?_) hG) ⟨rfl, ?_⟩ (λ _ _ => rfl) ⟨λ k A s Q E hit h => ?_, λ k t w A s Q E hit h => ?_⟩)
    ·unfold getOf at hne ⊢; dsimp only at hne ⊢; rw [hi] at hne ⊢; dsimp only [getO] at hne ⊢
     cases hj : μ'.hp[i]? with
     | none => rw [hj] at hne; exact (hne rfl).elim
     | some o2 =>
      cases o2 with
      | dct ys ep' =>
       rw [hj] at hne; dsimp only at hne ⊢
       by_cases hq : ys.length = es.length ∧ ep' = ep
       ·obtain ⟨e1, e2⟩ := hq
        subst e2
        exact ⟨ys, rfl, e1, by rw [if_pos ⟨e1, rfl⟩]⟩
       ·rw [if_neg hq] at hne; exact (hne rfl).elim
      | _ => rw [hj] at hne; exact (hne rfl).elim
    ·rw [Zca k2]; rfl
    ·obtain ⟨o, ho, hc, hd⟩ := hit; exact wpAny_pyIter_keyiter ⟨o, ho, hc, hd⟩ h
    ·obtain ⟨o, ho, hc, hd⟩ := hit; exact Zce ho hc hd (.inr (.inr (.inr (.inl rfl)))) h
   | _ => exact (hne (by show getOf (.obj i) μ 0 μ = none; unfold getOf; dsimp only; rw [hi]; try rfl)).elim
 | @vals i a m h1 h2 h3 =>
  cases hi : μ.hp[i]? with
  | none => exact (hne (by unfold getIt; dsimp only; rw [hi]; try rfl)).elim
  | some ob =>
   have q := R.objs i a ob h1 hi
   cases q with
   | @dct kvs es ep k1 k2 =>
    refine wpAny_pyIter_values (knd := intKind c.prog c.w) ⟨_, h2, rfl, rfl⟩ k1 (K _ (λ k o => o.cls = .type "dict_valueiterator" ∧ o.data = .fields #[.ref a, .int k 0, .int (es.length : Nat) 0, .int ep 0]) (λ k μ' => getIt (.vals i) μ k μ') _ _ rfl (.obj h1) (λ G hG => Zo3 (λ k μ' hne => ?_) hG) ⟨rfl, ?_⟩ (λ _ _ => rfl) ⟨λ k A s Q E hit h => ?_, λ k t w A s Q E hit h => ?_⟩)
    ·unfold getIt at hne ⊢; dsimp only at hne ⊢; rw [hi] at hne ⊢; dsimp only at hne ⊢
     cases hj : μ'.hp[i]? with
     | none => rw [hj] at hne; exact (hne rfl).elim
     | some o2 =>
      cases o2 with
      | dct ys ep' =>
       rw [hj] at hne; dsimp only at hne ⊢
       by_cases hq : ys.length = es.length ∧ ep' = ep
       ·obtain ⟨e1, e2⟩ := hq
        subst e2
        exact ⟨ys, rfl, e1, by rw [if_pos ⟨e1, rfl⟩]⟩
       ·rw [if_neg hq] at hne; exact (hne rfl).elim
      | _ => rw [hj] at hne; exact (hne rfl).elim
    ·rw [Zca k2]; rfl
    ·obtain ⟨o, ho, hc, hd⟩ := hit; exact wpAny_pyIter_valiter ⟨o, ho, hc, hd⟩ h
    ·obtain ⟨o, ho, hc, hd⟩ := hit; exact Zce ho hc hd (.inr (.inr (.inr (.inr rfl)))) h
   | _ => exact (hne (by unfold getIt; dsimp only; rw [hi]; try rfl)).elim
 | none => exact (hne rfl).elim
 | bool => exact (hne rfl).elim
 | int => exact (hne rfl).elim
 | str => exact (hne rfl).elim
 | nxt => exact (hne rfl).elim
 | raw => exact (hne rfl).elim
theorem Zac {target iter : Expr} {body : List Stmt} {pos : Pos} {outer : List Env} {f : PM PV} {asg : PV -> PM Unit} {g : PM MF} (hfr : F.frames = F.env :: outer) (hh : F.hd = true) (n : Nat) (hi : SimE c F iter f)
  (hasg : ∀ w x, Sim c F (λ φ h => VR φ h w x) (λ _ _ _ _ => True) (assign target F.env w) (asg x)) (hbody : SimSS c F body g)
  (hs : ∀ x, foldedSetIterable iter F.env x = pure x) : SimS c F (.For target iter body [] pos) (sFor f asg g n) := by
 intro A φ μ s Q E hA R p hb hQ hE
 unfold sFor at hb hQ hE
 refine wpAny_For ?_ hs
 refine hi.use hA R p hb hE λ v pv φ1 μ1 sB eg RB xB rB => ?_
 rw [eg] at hb hQ hE
 have hnv : ∀ i, pv ≠ .vals i := λ i e => by subst e; exact hb (by cases n <;> rfl)
 have hge : ∀ k μ', getOf pv μ1 k μ' = getIt pv μ1 k μ' := λ k μ' => by
  unfold getIt
  split
  ·exact absurd rfl (hnv _)
  ·rfl
 have hne : getIt pv μ1 0 μ1 ≠ none := λ e => hb (by
  cases n with
  | zero => rfl
  | succ n => show (match getOf pv μ1 0 μ1 with | none => _ | some none => _ | some (some x) => _) = _; rw [hge, e])
 refine Zf8 RB rB hne λ o ob get v' pv' hf hv' hI h0 hg hS => ?_
 have ec := Ze6 (asg := asg) (g := g) (λ k μ => (hge k μ).trans (hg k μ)) n 0
 rw [ec] at hb hQ hE
 obtain ⟨RC, x2⟩ := RB.push o (tk := sB.toks)
 have hB : c.B.get? sB.heap.objs.size = none := by
  cases q : c.B.get? sB.heap.objs.size with
  | none => rfl
  | some o => exact absurd (Heap.lt_size (RB.keep _ o q)) (Nat.lt_irrefl _)
 exact Zkg hfr ((hI F hh).turns λ k w A s Q E hit hq => hS.letGo k _ w A s Q E hit hq) hasg hbody hA n 0 ⟨RC, xB.trans x2, ⟨o, Heap.get?_push_size _ hf, h0⟩, λ hm => absurd (RB.phiLt hm) (Nat.lt_irrefl _), hv'.ext RB x2, rfl⟩ xB.size hB hb hQ hE
end

noncomputable def compIx (get : Nat -> St -> Option (Option PV)) (tf : PV -> PM Unit) : Nat -> Nat -> PM Unit
 | 0, _ => PM.H
 | n + 1, k => λ μ => match get k μ with
  | none => .bad
  | some none => .ok () μ
  | some (some x) => (tf x >>= λ _ => compIx get tf n (k + 1)) μ
theorem Zfr {get : Nat -> St -> Option (Option PV)} {tf : PV -> PM Unit} {n k : Nat} : compIx get tf (n + 1) k = λ μ => match get k μ with | none => .bad | some none => .ok () μ | some (some x) => (tf x >>= λ _ => compIx get tf n (k + 1)) μ := rfl
theorem Zdz {get get' : Nat -> St -> Option (Option PV)} {tf : PV -> PM Unit} (h : ∀ k μ, get k μ = get' k μ) : ∀ n k, compIx get tf n k = compIx get' tf n k
 | 0, _ => rfl
 | n + 1, k => by
  funext μ
  simp only [Zfr, h, Zdz h n]
section
variable {c : Cx} {G : Fx}
theorem Zd0 {e : Expr} {d : Nat} {it : Addr} {acc : Value} {p : Pos} {target : Expr} {T : Value -> Sem Fin} {tf : PV -> PM Unit} {P : List Addr -> Heap -> Prop} {ob : Nat -> Obj -> Prop} {v : Value} {pv : PV} {get : Nat -> St -> Option (Option PV)}
  (hturn : compTurn e d (.ref it) acc G.env = (standAt p >>= λ _ => pyNext (.ref it) >>= λ r => match r with
   | none => pure (.done .next)
   | some v => letOwnedTupleGo target (.ref it) v >>= λ _ => T v))
  (hq : (Code.compLoop e d (.ref it) acc G.env).quiet = true) (hden : (model c.prog c.w).den (.compLoop e d (.ref it) acc G.env) = (compTurn e d (.ref it) acc G.env).onRaise (λ x => do noteFrame x G.env; theTreesLotGoes x))
  (hunder : ∀ A : Around, A.under (.compLoop e d (.ref it) acc G.env) = A)
  (hI : ItP c G it ob v pv get) (hS : SelfIter c it ob) (hP : ∀ φ μ s φ' h', Rep c G φ μ s -> Ext G.nss G.cls φ s.heap φ' h' -> P φ s.heap -> P φ' h') (hP2 : ∀ φ μ (s : Shared) h', Rep c G φ μ s -> (∀ w x, VR φ s.heap w x -> VR φ h' w x) -> P φ s.heap -> P φ h')
  (hT : ∀ w x, Sim c G (λ φ h => VR φ h w x ∧ P φ h) (λ _ _ fin _ => fin = .again (.compLoop e d (.ref it) acc G.env)) (T w) (tf x))
  {A : Around} {φ0 φ : List Addr} {h₀ : Heap} {μ μF : St} {s : Shared} {Rr : Result -> Shared -> Prop} (hA : ACtx G A) (n k : Nat) (R : Rep c G φ μ s) (xA : Ext G.nss G.cls φ0 h₀ φ s.heap)
  (hit : ∃ o, s.heap.get? it = some o ∧ ob k o) (hnew : h₀.objs.size <= it) (hitφ : it ∉ φ) (hitB : c.B.get? it = none) (hv : VR φ s.heap v pv) (hp : P φ s.heap) (hok : compIx get tf n k μ = .ok () μF)
  (hQ : ∀ φ' s', Rep c G φ' μF s' -> Ext G.nss G.cls φ0 h₀ φ' s'.heap -> P φ' s'.heap -> Rr (.ok .next) s') :
  codeAny (model c.prog c.w) A (.compLoop e d (.ref it) acc G.env) Rr s := by
 refine codeAny_loop hq (λ m s' => ∃ k' φ' μ', FI c G it ob v pv (compIx get tf m) (.ok () μF) φ0 h₀ k' φ' μ' s' ∧ P φ' s'.heap) ?_ n ⟨k, φ, μ, ⟨R, xA, hit, hitφ, hv, hok⟩, hp⟩
 clear R xA hit hitφ hv hp hok
 rintro m sB ⟨kB, φ1, μ1, I, hp1⟩
 cases m with
 | zero => cases I.eq
 | succ m =>
  rw [hunder, hden]
  refine wpAny_noted ?_
  rw [hturn]
  have eB := I.eq
  rw [Zfr] at eB
  dsimp only at eB
  refine Qb (wpAny_standAt (Qb (Z8 (hI.next kB A φ1 μ1 sB _ _ hA I.R I.hit I.hv (λ hg h' tk hs size => ?_) (λ x hg w h' tk hit' hs hw size => ?_) (λ hg => by rw [hg] at eB; cases eB)))))
  ·obtain ⟨RC, x2, mv⟩ := I.step hI.data hnew hitB (tk := tk) hs size
   rw [hg] at eB
   cases eB
   exact Qp (hQ φ1 _ RC x2 (hP2 φ1 _ sB h' I.R mv hp1))
  ·obtain ⟨RC, x2, mv⟩ := I.step hI.data hnew hitB (tk := tk) hs size
   rw [hg] at eB
   dsimp only at eB
   have nin := I.nin
   have hv2 := mv _ _ I.hv
   have hp2 := hP2 φ1 μ1 sB h' I.R mv hp1
   clear I mv
   refine Qb (hS.letGo (kB + 1) target w A _ _ _ hit' ?_)
   refine ((hT w x).use (g := λ _ => compIx get tf m (kB + 1)) hA RC ⟨hw, hp2⟩ (by rw [eB]; exact λ e => nomatch e) (λ e y φ' μ' s' he => nomatch eB.symm.trans he) λ a b φ3 μ3 sD eg R3 xD hfin => ?_)
   subst hfin
   obtain ⟨h3, n3⟩ := FI.hold hI.data RC hit' nin xD
   exact ⟨rfl, m, Nat.lt_succ_self _, kB + 1, φ3, μ3, ⟨R3, x2.trans xD, h3, n3, hv2.ext RC xD, eg.symm.trans eB⟩, hP _ _ _ _ _ RC xD hp2⟩
end

theorem Zd1 {env : Env} {y : Str} : ∀ {names : List (Str × NameKind)}, (names.map (·.1)).Nodup -> (y, NameKind.local) ∈ names -> (names.map λ (n, k) => if ownCell env n k then (n, NameKind.cell) else (n, k)).lookup y = some .local
 | [], _, h => by simp at h
 | (n, k) :: r, hn, h => by
  simp only [map_cons, nodup_cons] at hn
  rw [map_cons]
  rcases Qmc h with e | h
  ·cases e
   have : ownCell env y .local = false := by unfold ownCell; rfl
   simp only [this, Bool.false_eq_true, if_false]
   simp
  ·have hne : (y == n) = false := by
    have : y ≠ n := λ e => hn.1 (by rw [<- e]; exact mem_map_of_mem (f := (·.1)) h)
    simpa using this
   have ih := Zd1 (env := env) hn.2 h
   dsimp only
   split <;> rw [lookup_cons, hne] <;> exact ih
section
variable {M : Model} {A : Around} {E : Value -> Shared -> Prop} {s : Shared}
theorem newEnvC {scope : Scope} {g : Addr} {clo : List (Str × Addr)} {q : Str} {env : Env} {Q : Env -> Shared -> Prop}
  (h : Q { scope, locals := s.heap.objs.size, globals := g, cells := cellsFrom (s.heap.objs.size + 1) scope.names clo, qual := q, func := none, code := env.code, frame := env.frame, builtins := env.builtins } { s with heap := pushCells (s.heap.push { cls := .type "dict", data := .dict #[] }) scope.names }) :
  wpAny M A (newFunctionEnv scope g clo [] q none .none (some env)) Q E s := by
 simp only [newFunctionEnv, Option.isSome_some, if_true]
 refine Qb (wpAny_alloc ?_)
 refine Qb (wpAny_layCells _ (λ name kind cells => by cases hkc : kind == NameKind.cell <;> simp [hkc]) _ _ _ _ ?_)
 rw [show ({ s with heap := s.heap.push { cls := .type "dict", data := .dict #[] } } : Shared).heap.objs.size = s.heap.objs.size + 1 from Heap.size_push ..]
 simp only [forIn_nil]
 exact Qb (Qp (Qp h))
end
section
variable {prog : Program} {w : World} {A : Around} {E : Value -> Shared -> Prop} {s : Shared}
theorem Zgq {l : Addr} {items : Array Value} {n : Nat} {x : Value} {Q : Value -> Shared -> Prop} (hl : IsL s.heap l items n)
  (hQ : Q .none { s with heap := s.heap.update l (Obj.mapSeq λ xs => xs.push x) }) (hsz : items.size <= sizeLine) :
  wpAny (model prog w) A (call (.builtin "list.append") [.ref l, x]) Q E s := by
 have hT : s.TypeIs (.ref l) "list" := ⟨_, hl, rfl⟩
 refine wpAny_call_entry slot_list_append hT entry_list_append ?_ (args_list_append _ _)
 show wpAny _ _ (updateSeq l (·.push x) >>= λ _ => ret .none) _ _ s
 refine Qb ?_
 exact wpAny_updateSeq hl rfl (Qp ⟨.none, rfl, hQ⟩)
theorem Zil {e : Expr} {d : Nat} {it : Addr} {acc : Value} {env : Env} {R : Result -> Shared -> Prop} {t i : Expr} {ifs : List Expr} (hcl : (clausesOf e)[d]? = some ⟨t, i, ifs, 0⟩)
  (hq : (Code.compLoop e d (.ref it) acc env).quiet = true) (hden : (model prog w).den (.compStart e d (.ref it) acc env) = (compStart e d (.ref it) acc env).onRaise (λ x => do noteFrame x env; standAt theWindowsPlace))
  (hunder : A.under (.compStart e d (.ref it) acc env) = A)
  (hit : ∀ (Q : Value -> Shared -> Prop) (E : Value -> Shared -> Prop), Q (.ref it) s -> wpAny (model prog w) A (pyIter (.ref it)) Q E s)
  (h : codeAny (model prog w) A (.compLoop e d (.ref it) acc env) R s) : codeAny (model prog w) A (.compStart e d (.ref it) acc env) R s := by
 refine codeAny_of_tree ?_
 rw [hunder, hden]
 refine wpAny_notedAt ?_
 unfold compStart
 rw [hcl]
 show wpAny _ _ (ask >>= _) _ _ s
 refine Qb (wpAny_askSetting (wpAny_ite ?_))
 split
 ·first
   | exact Qb (Qp (Qp (And.intro hq h)))
   | exact Qp (And.intro hq h)
 ·first
   | exact Qb (wpAny_rule (Qb (wpAny_standAt (Qb (hit _ _ (Qp (And.intro hq h)))))))
   | (refine Qb (wpAny_rule ?_); show wpAny _ _ (standAt i.pos >>= _) _ _ s; exact Qb (wpAny_standAt (Qb (hit _ _ (Qp (And.intro hq h))))))
end
def LoopSim (c : Cx) (G : Fx) (e : Expr) (d : Nat) (acc : Addr) (i : Nat) (tf : PV -> PM Unit) : Prop :=
 ∀ (it : Addr) (ob : Nat -> Obj -> Prop) (v : Value) (pv : PV) (get : Nat -> St -> Option (Option PV)), ItP c G it ob v pv get -> SelfIter c it ob ->
  ∀ (A : Around) (φ0 φ : List Addr) (h₀ : Heap) (μ μF : St) (s : Shared) (Rr : Result -> Shared -> Prop), ACtx G A -> ∀ (n k : Nat), Rep c G φ μ s -> Ext G.nss G.cls φ0 h₀ φ s.heap ->
  (∃ o, s.heap.get? it = some o ∧ ob k o) -> h₀.objs.size <= it -> it ∉ φ -> c.B.get? it = none -> VR φ s.heap v pv -> VR φ s.heap (.ref acc) (.obj i) -> compIx get tf n k μ = .ok () μF ->
  (∀ φ' s', Rep c G φ' μF s' -> Ext G.nss G.cls φ0 h₀ φ' s'.heap -> VR φ' s'.heap (.ref acc) (.obj i) -> Rr (.ok .next) s') -> codeAny (model c.prog c.w) A (.compLoop e d (.ref it) (.ref acc) G.env) Rr s
noncomputable def emitM (f : PM PV) (i : Nat) : PM Unit := f >>= λ y => pAppend (.obj i) y >>= λ _ => pure ()
noncomputable def tfA (asg : PV -> PM Unit) (f : PM PV) (i : Nat) (x : PV) : PM Unit := asg x >>= λ _ => emitM f i
noncomputable def whenM (b : Bool) (f : PM Unit) : PM Unit := match b with
 | true => f
 | false => pure ()
noncomputable def tfB (asg : PV -> PM Unit) (t : PM Bool) (f : PM PV) (i : Nat) (x : PV) : PM Unit := asg x >>= λ _ => t >>= λ b => whenM b (emitM f i)
section
variable {c : Cx} {G : Fx}
theorem Zim {elt : Expr} {f : PM PV} {acc : Addr} {i : Nat} (hf : SimE c G elt f) : Sim c G (λ φ h => VR φ h (.ref acc) (.obj i)) (λ _ _ _ _ => True) (do let _ <- call (.builtin "list.append") [.ref acc, <- eval elt G.env]) (emitM f i) := by
 intro A φ μ s Q E hA R p hb hQ hE
 unfold emitM at hb hQ hE
 refine Qb ((hf.keep (v := .ref acc) (x := .obj i)).use hA R p hb hE λ v y φ1 μ1 sB eg RB xB rB => ?_)
 rw [eg] at hb hQ hE
 unfold pAppend at hb hQ
 have hne : theLst (.obj i) μ1 ≠ .bad := λ e => hb (by rw [PM.B, PM.B, e])
 obtain ⟨j, xs, et⟩ := Zaj hne
 obtain ⟨a, vs, n, ea, hi, hl, hvs, ej⟩ := Zbh RB rB.1 et
 cases ea
 cases ej
 have e1 : ∀ (K : PV -> PM Unit), ((theLst (.obj i) >>= λ p => chk (lenOk p.2) >>= λ _ => putM p.1 (.lst (p.2 ++ [y])) >>= λ _ => pure PV.none) >>= K) μ1 = (chk (lenOk xs) >>= λ _ => putM i (.lst (xs ++ [y])) >>= λ _ => K .none) μ1 := λ K => by
  rw [PM.B, PM.C et]
  cases lenOk xs <;> rfl
 rw [e1] at hb hQ
 obtain ⟨hln, e2⟩ := Zn hb
 rw [e2] at hQ
 obtain ⟨R3, xD⟩ := RB.relist (tk := sB.toks) hi hl (g := λ xs => xs.push v) (ws := vs ++ [v]) (by simp) (hvs.append (.cons rB.2 .nil))
 refine Qb (Zgq hl (Qp ?_) (by rw [size_toArray, hvs.length]; exact Zz hln))
 exact hQ _ _ _ _ _ rfl R3 (xB.trans xD) trivial
theorem Zd2 {elt target iter : Expr} {scope : Scope} {pos : Pos} {asg : PV -> PM Unit} {f : PM PV} {acc : Addr} {i : Nat} (hasg : SimT c G (assign target G.env) asg) (hf : SimE c G elt f) :
  LoopSim c G (.ListComp elt [⟨target, iter, [], 0⟩] scope pos) 0 acc i (tfA asg f i) := λ it ob v pv get hI hS A φ0 φ h₀ μ μF s Rr hA n k R xA hit hnew hn hB hv hacc hok hQ => by
 refine Zd0 (p := iter.pos) (target := target) (P := λ φ h => VR φ h (.ref acc) (.obj i)) (compTurn_list1 ..) rfl rfl (λ A => ?_) hI hS
  (λ _ _ _ _ _ R e r => r.ext R e) (λ _ _ _ _ _ mv r => mv _ _ r) (λ w x => ?_) hA n k R xA hit hnew hn hB hv hacc hok hQ
 ·exact Around.under_of_weight rfl
 ·intro A φ μ s Q E hA R p hb hQ hE
  unfold tfA at hb hQ hE
  refine Qb ((hasg w x).use hA R p.1 hb hE λ _ _ φ1 μ1 sB eg RB xB _ => ?_)
  rw [eg] at hb hQ hE
  exact Qb ((Zim hf).fin hA RB (p.2.ext R xB) rfl xB hb (λ a b φ' μ' s' e R' x' _ => Qp (hQ _ b φ' μ' s' e R' x' rfl)) hE)
theorem Zr7 {elt target iter t : Expr} {scope : Scope} {pos : Pos} {asg : PV -> PM Unit} {f : PM PV} {tm : PM Bool} {acc : Addr} {i : Nat} (hasg : SimT c G (assign target G.env) asg) (ht : SimB c G t tm) (hf : SimE c G elt f) :
  LoopSim c G (.ListComp elt [⟨target, iter, [t], 0⟩] scope pos) 0 acc i (tfB asg tm f i) := λ it ob v pv get hI hS A φ0 φ h₀ μ μF s Rr hA n k R xA hit hnew hn hB hv hacc hok hQ => by
 refine Zd0 (p := iter.pos) (target := target) (T := λ v => (do
    assign target G.env v
    let mut ok := true
    for c in [t] do
     if ok then ok <- isTrue c G.env (eval c G.env)
    if ok then
     (do let _ <- call (.builtin "list.append") [.ref acc, <- eval elt G.env])
    again (.compLoop (.ListComp elt [⟨target, iter, [t], 0⟩] scope pos) 0 (.ref it) (.ref acc) G.env))) (P := λ φ h => VR φ h (.ref acc) (.obj i)) (by rw [compTurn_list]; rfl) rfl rfl (λ A => ?_) hI hS
  (λ _ _ _ _ _ R e r => r.ext R e) (λ _ _ _ _ _ mv r => mv _ _ r) (λ w x => ?_) hA n k R xA hit hnew hn hB hv hacc hok hQ
 ·exact Around.under_of_weight rfl
 ·intro A φ μ s Q E hA R p hb hQ hE
  unfold tfB at hb hQ hE
  refine Qb ((hasg w x).use hA R p.1 hb hE λ _ _ φ1 μ1 sB eg RB xB _ => ?_)
  rw [eg] at hb hQ hE
  refine Qb (wpAny_tests_one (ht.use hA RB trivial hb (λ e y φ' μ' s' he R' x' r => hE e y φ' μ' s' he R' (xB.trans x') (r.le xB.dom)) λ a b φ2 μ2 sC eg RC x2 rC => ?_))
  subst rC
  rw [eg] at hb hQ hE
  cases a with
  | true => exact Qb ((Zim hf).fin hA RC ((p.2.ext R xB).ext RB x2) rfl (xB.trans x2) hb (λ a b φ' μ' s' e R' x' _ => Qp (hQ _ b φ' μ' s' e R' x' rfl)) hE)
  | false => exact Qp (hQ _ _ _ _ _ rfl RC (xB.trans x2) rfl)
end

noncomputable def compRun (n m : Nat) (pv : PV) (tf : Nat -> PV -> PM Unit) : PM PV := λ μ => match compIx (getIt pv μ) (tf μ.hp.length) n 0 (pushU ⟨μ.fr, μ.hp ++ [.lst []]⟩ m) with
 | .ok _ μ' => .ok (.obj μ.hp.length) ⟨μ'.fr.take μ.fr.length, μ'.hp⟩
 | _ => .bad
noncomputable def compM (n m : Nat) (f : PM PV) (tf : Nat -> PV -> PM Unit) : PM PV := f >>= λ pv => compRun n m pv tf
section
variable {c : Cx} {F : Fx}
theorem Ext.later {φ0 φ : List Addr} {s : Shared} {h₀ h' : Heap} {nss cls : List Addr} {a : Addr} (xA : Ext nss cls φ0 h₀ φ s.heap) (hs : Heap.SameBut a s.heap h') (hn : h₀.objs.size <= a) : Ext nss cls φ0 h₀ φ h' := by
 refine xA.after (Nat.le_of_eq hs.1.symm) (λ b o ho => ?_) λ b hd ⟨o, ho⟩ => ?_
 ·by_cases e : b = a
  ·exact .inr (.inr λ ⟨oq, hq⟩ => absurd (Heap.lt_size hq) (Nat.not_lt_of_le (e ▸ hn)))
  ·exact .inl ((hs.2 b e).trans ho)
 ·by_cases e : b = a
  ·obtain ⟨oq, hq⟩ := hd
   exact absurd (Heap.lt_size hq) (Nat.not_lt_of_le (e ▸ hn))
  ·exact ⟨o, (hs.2 b e).trans ho⟩
theorem Ext.wider {φ0 φ : List Addr} {h₀ h' : Heap} {nss cls nss' cls' : List Addr} (x : Ext nss cls φ0 h₀ φ h') (h1 : ∀ a ∈ nss, a ∈ nss') (h2 : ∀ a ∈ cls, a ∈ cls') : Ext nss' cls' φ0 h₀ φ h' :=
 ⟨⟨x.grow, x.size, λ a o ho q1 q2 q3 => x.old a o ho q1 (λ q => q2 (h1 a q)) λ q => q3 (h2 a q)⟩, x.dom⟩
theorem Ext.narrow {φ0 φ : List Addr} {h₀ h' : Heap} {scope : Scope} {Lc : Addr} {clo : List (Str × Addr)} (x : Ext (compFx F scope Lc clo).nss (compFx F scope Lc clo).cls φ0 h₀ φ h') (hL : h₀.objs.size <= Lc) : Ext F.nss F.cls φ0 h₀ φ h' := by
 refine ⟨⟨x.grow, x.size, λ a o ho q1 q2 q3 => x.old a o ho q1 (λ hm => ?_) λ hm => ?_⟩, x.dom⟩
 ·have hlt := Heap.lt_size ho
  rcases Qmc (show a ∈ Lc :: F.nss from hm) with e | hm
  ·rw [e] at hlt; exact absurd hlt (Nat.not_lt_of_le hL)
  ·exact q2 hm
 ·have hlt := Heap.lt_size ho
  rcases Qma (show a ∈ F.cls ++ (newCells Lc scope).map (·.2) from hm) with hm | hm
  ·exact q3 hm
  ·obtain ⟨p, hp, rfl⟩ := Qmm hm
   have := Zbr scope.names (Lc + 1) [] (Lc + 1) Qr (by simp) p hp
   exact absurd hlt (Nat.not_lt_of_le (Nat.le_trans hL (Nat.le_trans (Nat.le_succ _) this)))
theorem Rep.leaveB {φ φ' : List Addr} {μ μ' : St} {s s' : Shared} {scope : Scope} {Lc : Addr} {clo : List (Str × Addr)} (R : Rep c F φ μ s) (R' : Rep c (compFx F scope Lc clo) φ' μ' s') : Rep c F φ' ⟨μ'.fr.take μ.fr.length, μ'.hp⟩ s' := by
 have hfl : (μ'.fr.take μ.fr.length).length = F.locs.length := by
  have h := R'.flen
  have : (F.locs ++ locsOf Lc (newCells Lc scope) scope.names).length = μ'.fr.length := h.symm
  rw [length_append] at this
  rw [length_take, R.flen]; lia
 refine ⟨R'.ok, R'.keep, R'.os, R'.gens, R'.len, R'.nodup, R'.phiB, R'.objs, hfl, R.lnodup, λ L hL => R'.nss L (mem_cons_of_mem _ hL), λ a ha => R'.cls a (mem_append_left _ ha), λ k L x hk => ?_, λ k a hk => ?_, R'.frm⟩
 ·refine ⟨(R.vloc k L x hk).1, λ pv hp hu => ?_⟩
  have hlt := (Qgl hk)
  have hp : (μ'.fr.take μ.fr.length)[k]? = some pv := hp
  rw [List.getElem?_take_of_lt (by rw [R.flen]; exact hlt)] at hp
  exact (R'.vloc k L x (by show (F.locs ++ _)[k]? = _; rw [List.getElem?_append_left hlt]; exact hk)).2 pv hp hu
 ·refine ⟨(R.vcell k a hk).1, λ pv hp hu => ?_⟩
  have hlt := (Qgl hk)
  have hp : (μ'.fr.take μ.fr.length)[k]? = some pv := hp
  rw [List.getElem?_take_of_lt (by rw [R.flen]; exact hlt)] at hp
  exact (R'.vcell k a (by show (F.locs ++ _)[k]? = _; rw [List.getElem?_append_left hlt]; exact hk)).2 pv hp hu
theorem Zko {pv : PV} {μ : St} {fr : List PV} {l : List MO} (h : getIt pv μ 0 ⟨fr, μ.hp ++ l⟩ ≠ none) : getIt pv μ 0 μ ≠ none := by
 cases pv with
 | vals i =>
  unfold getIt at h ⊢
  dsimp only at h ⊢
  cases hi : μ.hp[i]? with
  | none => rw [hi] at h; exact (h rfl).elim
  | some o => rw [getElem?_app hi, hi] at h; exact h
 | obj i =>
  unfold getIt getOf at h ⊢
  dsimp only at h ⊢
  cases hi : μ.hp[i]? with
  | none => rw [hi] at h; exact (h rfl).elim
  | some o => rw [getElem?_app hi, hi] at h; exact h
 | _ => exact h
noncomputable def compVars (scope : Scope) : List (Str × NameKind) := scope.names.filter λ (n, k) => (k == .local || k == .cell) && n != (".0" : Str)
noncomputable def compTail (use : Option (Value -> Sem Unit)) (cenv : Env) (cellsOf : List (Str × NameKind) -> List Value) (vars : List (Str × NameKind)) (acc : Value) : Sem Value := match use with
 | none => (do holding [acc] (comprehension.letGo cenv cellsOf vars.reverse); pure acc)
 | some u => (do
  rule "comprehension.stores-exchanged"
  holding (cellsOf vars) (u acc)
  comprehension.letGo cenv cellsOf (vars.reverse.drop 1 ++ vars.reverse.take 1)
  pure .none)
theorem Zg8 {elt target iter : Expr} {ifs : List Expr} {rest : List Comprehension} {scope : Scope} {cpos pos : Pos} {first : Sem Value} {use : Option (Value -> Sem Unit)} {clo : List (Str × Addr)} {n : Nat} {f : PM PV} {tf : Nat -> PV -> PM Unit}
  (hh : F.hd = true) (hfirst : Sim c F NoP (λ φ h v x => VR φ h v x) first f) (hclo : closureFor scope F.env = pure clo) (hn : (scope.names.map (·.1)).Nodup) (hfold : ∀ x, foldedSetIterable iter F.env x = pure x)
  (hloop : ∀ Lc acc i, LoopSim c (compFx F scope Lc clo) (.ListComp elt (⟨target, iter, ifs, 0⟩ :: rest) scope cpos) 0 acc i (tf i))
  {A : Around} {φ : List Addr} {μ : St} {s : Shared} {Q : Value -> Shared -> Prop} {E : Value -> Shared -> Prop} (hA : ACtx F A) (R : Rep c F φ μ s) {O : Out PV} (hO : compM n (ownNames scope.names).length f tf μ = O) (hb : O ≠ .bad)
  (hE : ∀ e x φ' μ' s', O = .exc x μ' -> Rep c F φ' μ' s' -> Ext F.nss F.cls φ s.heap φ' s'.heap -> ExcR c (dom s.heap) φ' s'.heap e x -> E e s')
  (K : ∀ (acc : Value) (i : Nat) (φ' : List Addr) (μ' : St) (s' : Shared) (Lc : Addr) (cellsOf : List (Str × NameKind) -> List Value), O = .ok (.obj i) μ' -> Rep c F φ' μ' s' -> Ext F.nss F.cls φ s.heap φ' s'.heap -> VR φ' s'.heap acc (.obj i) ->
   s.heap.objs.size <= Lc -> Lc ∉ φ' -> c.B.get? Lc = none -> Lc ∉ F.stk -> (∃ m, s'.heap.Ns Lc m) ->
   wpAny (model c.prog c.w) A (compTail use (cEnv F.env scope Lc clo) cellsOf (compVars scope) acc) Q E s') :
  wpAny (model c.prog c.w) A (comprehension (.ListComp elt (⟨target, iter, ifs, 0⟩ :: rest) scope cpos) scope F.env pos (newList []) false first use) Q E s := by
 unfold compM at hO
 unfold comprehension
 rw [hclo]
 refine Qb (hfirst.use hA R trivial (by rw [hO]; exact hb) (λ e x φ' μ' s' h => hE e x φ' μ' s' (hO.symm.trans h)) λ x pv φ1 μ1 sB eg RB xB rB => ?_)
 rw [eg] at hO
 unfold compRun at hO
 refine Qb (wpAny_standAt (Qb (wpAny_of_eq (hfold x) (Qb (wpAny_holding ?_)))))
 cases hrun : compIx (getIt pv μ1) (tf μ1.hp.length) n 0 (pushU ⟨μ1.fr, μ1.hp ++ [.lst []]⟩ (ownNames scope.names).length) with
 | bad => rw [hrun] at hO; exact (hb hO.symm).elim
 | exc y μ' => rw [hrun] at hO; exact (hb hO.symm).elim
 | ok u μF =>
  rw [hrun] at hO
  dsimp only at hO
  have hne : getIt pv μ1 0 μ1 ≠ none := by
   refine Zko (fr := (pushU ⟨μ1.fr, μ1.hp ++ [.lst []]⟩ (ownNames scope.names).length).fr) (l := [.lst []]) λ e => ?_
   cases n with
   | zero => cases hrun
   | succ n =>
    rw [Zfr] at hrun
    have e : getIt pv μ1 0 (pushU ⟨μ1.fr, μ1.hp ++ [.lst []]⟩ (ownNames scope.names).length) = none := e
    dsimp only at hrun
    rw [e] at hrun
    cases hrun
  refine Zf8 RB rB hne λ o ob get v' pv' hf hv' hI h0 hge hS => ?_
  rw [Zdz hge] at hrun
  refine wpAny_standIf ?_
  obtain ⟨RC, x2⟩ := RB.push o (tk := sB.toks)
  have hit2 : (sB.heap.push o).get? sB.heap.objs.size = some o := Heap.get?_push_size _ hf
  refine Qb ?_
  unfold newList
  refine wpAny_newObj_type ?_ (by show (#[] : Array Value).size <= sizeLine; decide)
  obtain ⟨R3, xD⟩ := RC.alloc (ob := { cls := .type "list", data := .seq #[] }) (o := .lst []) (tk := sB.toks) rfl λ hg hi hm => .lst (vs := []) hg .nil
  refine Qb (Qp (Qb (newEnvC ?_)))
  obtain ⟨R4, x4, RG⟩ := R3.enterC hn clo _ rfl
  have x14 : Ext F.nss F.cls φ1 sB.heap (φ1 ++ [(sB.heap.push o).objs.size]) _ := x2.trans (xD.trans x4)
  have hitφ : sB.heap.objs.size ∉ φ1 := λ hm => absurd (RB.phiLt hm) (Nat.lt_irrefl _)
  have hit3 : ((sB.heap.push o).push { cls := .type "list", data := .seq #[] }).get? sB.heap.objs.size = some o := Heap.get?_push_of_some _ hit2
  have hit4 := pushCells_keeps scope.names _ _ _ (Heap.get?_push_of_some { cls := .type "dict", data := .dict #[] } hit3)
  have hLc : sB.heap.objs.size <= ((sB.heap.push o).push { cls := .type "list", data := .seq #[] }).objs.size := Nat.le_trans x2.size xD.size
  have hacc : VR (φ1 ++ [(sB.heap.push o).objs.size]) (pushCells (((sB.heap.push o).push { cls := .type "list", data := .seq #[] }).push { cls := .type "dict", data := .dict #[] }) scope.names) (.ref (sB.heap.push o).objs.size) (.obj μ1.hp.length) := .obj (by rw [<- RC.len]; simp)
  refine wpAny_holding (Qb (wpAny_attempt (wpAny_holding (wpAny_run ?_))))
  refine Zil (t := target) (i := iter) (ifs := ifs) rfl rfl rfl (Around.under_of_weight rfl) (λ Q E h => hS.self 0 A _ Q E ⟨o, hit4, h0⟩ h) ?_
  refine hloop ((sB.heap.push o).push { cls := .type "list", data := .seq #[] }).objs.size (sB.heap.push o).objs.size μ1.hp.length sB.heap.objs.size ob v' pv' get (hI _ hh) hS A φ1 (φ1 ++ [(sB.heap.push o).objs.size]) sB.heap _ μF _ _ ⟨hA.handled, hA.frames, hA.guards, hA.depth, hA.units⟩ n 0 RG
   (x14.wider (λ a h => mem_cons_of_mem _ h) λ a h => mem_append_left _ h) ⟨o, hit4, h0⟩ Qr ?_ ?_ ((hv'.ext RB x2).ext RC xD |>.ext R3 x4) hacc hrun λ φ' s' R' x' hacc' => ?_
  ·exact (xD.trans x4).nin hit2 hitφ
  ·exact (RB.above Qr).2
  ·have xF := x'.narrow hLc
   have RF := R3.leaveB R'
   obtain ⟨q1, q2, q3⟩ := R'.nss ((sB.heap.push o).push { cls := .type "list", data := .seq #[] }).objs.size mem_cons_self
   have hstk : ((sB.heap.push o).push { cls := .type "list", data := .seq #[] }).objs.size ∉ F.stk := λ hm => ?_
   ·have z := K (.ref (sB.heap.push o).objs.size) μ1.hp.length φ' ⟨μF.fr.take μ1.fr.length, μF.hp⟩ s' ((sB.heap.push o).push { cls := .type "list", data := .seq #[] }).objs.size
    cases use with
    | none => exact z _ hO.symm RF (xB.trans xF) hacc' (Nat.le_trans xB.size hLc) q1 q2 hstk q3
    | some u => exact z _ hO.symm RF (xB.trans xF) hacc' (Nat.le_trans xB.size hLc) q1 q2 hstk q3
   ·obtain ⟨_, _, ob', es, ep, hob, _⟩ := R3.stkAt hm
    exact absurd (Heap.lt_size hob) (Nat.lt_irrefl _)
end

section
variable {c : Cx} {F : Fx}
theorem Rep.fresh {φ : List Addr} {μ : St} {s : Shared} (R : Rep c F φ μ s) {a : Addr} (h : s.heap.objs.size <= a) : a ∉ F.nss ∧ a ∉ F.cls := by
 refine ⟨λ hm => ?_, λ hm => ?_⟩
 ·obtain ⟨_, _, m, hn⟩ := R.nss a hm
  exact absurd hn.lt (Nat.not_lt_of_le h)
 ·obtain ⟨_, _, v, o, ho, _⟩ := R.cls a hm
  exact absurd (Heap.lt_size ho) (Nat.not_lt_of_le h)
theorem Zcf {scope : Scope} {x : Str × NameKind} (h : x ∈ compVars scope) : x ∈ scope.names := (mem_filter.mp h).1
theorem Ze9 {φ0 φ : List Addr} {μ0 μ : St} {s0 s : Shared} {scope : Scope} {Lc : Addr} {clo : List (Str × Addr)} {cellsOf : List (Str × NameKind) -> List Value} {A : Around} {Q : Unit -> Shared -> Prop} {E : Value -> Shared -> Prop}
  (R0 : Rep c F φ0 μ0 s0) (R : Rep c F φ μ s) (xA : Ext F.nss F.cls φ0 s0.heap φ s.heap) (hL : s0.heap.objs.size <= Lc) (hφ : Lc ∉ φ) (hB : c.B.get? Lc = none) (hstk : Lc ∉ F.stk) (hns : ∃ m, s.heap.Ns Lc m)
  (hkind : scope.kind = .function) (hn : (scope.names.map (·.1)).Nodup) (vs : List (Str × NameKind)) (hvs : ∀ x ∈ vs, x ∈ scope.names)
  (hQ : ∀ h', Rep c F φ μ { s with heap := h' } -> Ext F.nss F.cls φ0 s0.heap φ h' -> (∀ w x, VR φ s.heap w x -> VR φ h' w x) -> Q () { s with heap := h' }) :
  wpAny (model c.prog c.w) A (comprehension.letGo (cEnv F.env scope Lc clo) cellsOf vs) Q E s := by
 obtain ⟨m, hm⟩ := hns
 refine wpAny_comp_letGo (cenv := cEnv F.env scope Lc clo) hkind vs s m (λ x hx hk => ?_) hm λ h' m' hn' hs => ?_
 ·have : (x.1, NameKind.local) ∈ scope.names := hk ▸ hvs x hx
  exact Zd1 hn this
 ·have hs : Heap.SameBut Lc s.heap h' := hs
  obtain ⟨f1, f2⟩ := R0.fresh hL
  have hz : ∀ o, s.heap.get? Lc = some o -> ¬ FzO o := λ o ho hz => by
   obtain ⟨o', es, ep, h1, h2, _⟩ := hm
   have h1 : s.heap.get? Lc = some o' := h1
   rw [ho] at h1; cases h1
   exact hz.notFrame ⟨_, _, h2⟩
  refine hQ h' (R.spare hs hφ f1 f2 hstk hB hz) (xA.later hs hL) λ w x r => ?_
  exact r.move (λ _ _ e => e) (λ _ _ _ h => h) λ b o ho _ hzo => (hs.2 b λ e => hz o (e ▸ ho) hzo).trans ho
theorem Zin {elt target iter : Expr} {ifs : List Expr} {rest : List Comprehension} {scope : Scope} {pos : Pos} {clo : List (Str × Addr)} {n : Nat} {f : PM PV} {tf : Nat -> PV -> PM Unit}
  (hh : F.hd = true) (hfirst : SimE c F iter f) (hclo : closureFor scope F.env = pure clo) (hkind : scope.kind = .function) (hn : (scope.names.map (·.1)).Nodup) (hfold : ∀ x, foldedSetIterable iter F.env x = pure x)
  (hloop : ∀ Lc acc i, LoopSim c (compFx F scope Lc clo) (.ListComp elt (⟨target, iter, ifs, 0⟩ :: rest) scope pos) 0 acc i (tf i)) :
  SimE c F (.ListComp elt (⟨target, iter, ifs, 0⟩ :: rest) scope pos) (compM n (ownNames scope.names).length f tf) := λ A φ μ s Q E hA R p hb hQ hE => by
 rw [eval_ListComp]
 refine Zg8 hh hfirst hclo hn hfold hloop hA R rfl hb hE λ acc i φ' μ' s' Lc cellsOf eg R' x' hacc hL hφ hB hstk hns => ?_
 refine Qb (wpAny_holding (Ze9 R R' x' hL hφ hB hstk hns hkind hn _ (λ x hx => Zcf (mem_reverse.mp hx)) λ h' RC x2 mv => ?_))
 exact Qp (hQ _ _ _ _ _ eg RC x2 (mv _ _ hacc))
end

section
variable {c : Cx} {F : Fx}
theorem Zgr {t elt target iter : Expr} {ifs : List Expr} {rest : List Comprehension} {scope : Scope} {cpos pos : Pos} {clo : List (Str × Addr)} {n : Nat} {f : PM PV} {tf : Nat -> PV -> PM Unit} {a : PV -> PM Unit}
  (hh : F.hd = true) (hfirst : SimE c F iter f) (hclo : closureFor scope F.env = pure clo) (hkind : scope.kind = .function) (hn : (scope.names.map (·.1)).Nodup) (hfold : ∀ x, foldedSetIterable iter F.env x = pure x)
  (hloop : ∀ Lc acc i, LoopSim c (compFx F scope Lc clo) (.ListComp elt (⟨target, iter, ifs, 0⟩ :: rest) scope cpos) 0 acc i (tf i))
  (ht : SimT c F (assign t F.env) a) (hs : swapsWithSole [t] (.ListComp elt (⟨target, iter, ifs, 0⟩ :: rest) scope cpos) pos.line F.env = pure true) (he : (assignEach [t] F.env).map (·.2) = [assign t F.env]) :
  SimS c F (.Assign [t] (.ListComp elt (⟨target, iter, ifs, 0⟩ :: rest) scope cpos) pos) (sAsg (compM n (ownNames scope.names).length f tf) a) := λ A φ μ s Q E hA R p hb hQ hE => by
 rw [exec_Assign_arm, hs, he]
 refine Qb (wpAny_standAt (Qb (Qp ?_)))
 rw [if_pos rfl]
 show wpAny _ _ (evalThenUse (.ListComp elt (⟨target, iter, ifs, 0⟩ :: rest) scope cpos) F.env (λ v => assignAll v [assign t F.env]) >>= λ _ => pure Flow.next) _ _ _
 refine Qb ?_
 unfold sAsg at hb hQ hE
 have hb₁ : compM n (ownNames scope.names).length f tf μ ≠ .bad := λ e => hb (by rw [PM.B, e])
 show wpAny _ _ (comprehension (.ListComp elt (⟨target, iter, ifs, 0⟩ :: rest) scope cpos) scope F.env (firstIterPos (⟨target, iter, ifs, 0⟩ :: rest) cpos) (newList []) false (eval iter F.env) (some (λ v => assignAll v [assign t F.env])) >>= λ _ => pure ()) _ _ _
 refine Qb (Zg8 hh hfirst hclo hn hfold hloop hA R rfl hb₁ (λ e x φ' μ' s' eg R' x' r => hE e x φ' μ' s' (by rw [PM.B, eg]) R' x' r) λ acc i φ' μ' s' Lc cellsOf eg R' x' hacc hL hφ hB hstk hns => ?_)
 rw [PM.B, eg] at hb hQ hE
 dsimp only at hb hQ hE
 show wpAny _ _ (rule "comprehension.stores-exchanged" >>= λ _ => holding (cellsOf (compVars scope)) (assign t F.env acc) >>= λ _ => comprehension.letGo (cEnv F.env scope Lc clo) cellsOf ((compVars scope).reverse.drop 1 ++ (compVars scope).reverse.take 1) >>= λ _ => pure Value.none) _ _ _
 have hLN : Lc ∉ F.nss := (R.fresh hL).1
 obtain ⟨o, ho, es, hd⟩ : ∃ o, s'.heap.get? Lc = some o ∧ ∃ es ep, o.data = .dict es ep := by
  obtain ⟨m, o', es, ep, h1, h2, _⟩ := hns
  exact ⟨o', h1, es, ep, h2⟩
 refine Qb (wpAny_rule (Qb (wpAny_holding ((ht acc (.obj i)).use hA R' hacc hb (λ e y φ' μ' s' he R' x'' r => hE e y φ' μ' s' he R' (x'.trans x'') (r.le x'.dom)) λ vC y2 φ2 μ2 sC eg2 RC x2 rC => ?_))))
 rw [eg2] at hQ
 have hnew : Lc ∉ φ2 := x2.nin ho hφ
 have hns2 : ∃ m, sC.heap.Ns Lc m := by
  obtain ⟨m, o', es', ep', h1, h2, h3, h4⟩ := hns
  rcases x2.old Lc o' h1 hφ hLN (R.fresh hL).2 with q | ⟨_, sl, q⟩
  ·exact ⟨m, o', es', ep', q, h2, h3, h4⟩
  ·exact ⟨m, _, es', ep', q, h2, h3, h4⟩
 refine Qb (Ze9 R RC (x'.trans x2) hL hnew hB hstk hns2 hkind hn _ (λ x hx => ?_) λ h' R3 xD mv => ?_)
 ·rcases Qma hx with hx | hx
  ·exact Zcf (mem_reverse.mp (List.mem_of_mem_drop hx))
  ·exact Zcf (mem_reverse.mp (List.mem_of_mem_take hx))
 ·exact Qp (Qp (Qp (hQ _ _ _ _ _ rfl R3 xD .next)))
end

noncomputable def oneM (f : PV -> PM PV) : List PV -> PM PV
 | [x] => f x
 | _ => PM.H
noncomputable def noneM (f : PM PV) : List PV -> PM PV
 | [] => f
 | _ => PM.H
noncomputable abbrev SimCall (c : Cx) (F : Fx) (f : Value) (g : List PV -> PM PV) : Prop := ∀ vs ys, Sim c F (λ φ h => VRs φ h vs ys) (λ φ h v x => VR φ h v x) (call f vs) (g ys)
section
variable {c : Cx} {F : Fx}
theorem Zas {f : Value} {g : PV -> PM PV} (h : ∀ v x, Sim c F (λ φ h => VR φ h v x) (λ φ h v x => VR φ h v x) (call f [v]) (g x)) : SimCall c F f (oneM g) := λ vs ys A φ μ s Q E hA R p hb hQ hE => by
 induction p using VRs.cs with
 | nil => exact (hb rfl).elim
 | cons q r => induction r using VRs.cs with
  | nil => exact h _ _ A φ μ s Q E hA R q hb hQ hE
  | cons _ _ => exact (hb rfl).elim
theorem Zio {f : Value} {g : PM PV} (h : Sim c F NoP (λ φ h v x => VR φ h v x) (call f []) g) : SimCall c F f (noneM g) := λ vs ys A φ μ s Q E hA R p hb hQ hE => by
 induction p using VRs.cs with
 | nil => exact h A φ μ s Q E hA R trivial hb hQ hE
 | cons q r => exact (hb rfl).elim
theorem Zd3 {φ : List Addr} {μ : St} {s : Shared} (R : Rep c F φ μ s) {v : Value} {x : PV} (r : VR φ s.heap v x) (h : pItems x μ ≠ .bad) :
  ∃ a T vs n xs, v = .ref a ∧ (T = "list" ∨ T = "tuple") ∧ s.heap.get? a = some { cls := .type T, data := .seq vs.toArray n } ∧ VRs φ s.heap vs xs ∧ (T = "tuple" -> VR φ s.heap v (.tup xs)) ∧ pItems x μ = .ok xs μ := by
 induction r using VR.cs with
 | tup h1 h4 h5 => exact ⟨_, _, _, _, _, rfl, .inr rfl, h1, h5, λ _ => .tup h1 h4 h5, rfl⟩
 | lst h1 h4 h5 => exact ⟨_, _, _, _, _, rfl, .inl rfl, h1, h5, (λ e => nomatch (show "list" ≠ "tuple" by decide) e), rfl⟩
 | @obj i a h1 =>
  cases hi : μ.hp[i]? with
  | none => exact (h (by unfold pItems; simp only [hi])).elim
  | some o =>
   have q := R.objs _ _ o h1 hi
   induction q using OR.cs with
   | lst k1 k2 => exact ⟨_, _, _, _, _, rfl, .inl rfl, k1, k2, (λ e => nomatch (show "list" ≠ "tuple" by decide) e), by unfold pItems; simp only [hi]⟩
   | _ => exact (h (by unfold pItems; simp only [hi])).elim
 | _ => exact (h rfl).elim
noncomputable def pSeqM (k : List PV -> PM PV) (x : PV) : PM PV := pItems x >>= λ xs => chk (lenOk xs) >>= λ _ => k xs
theorem simSeq {f : Value} {k : List PV -> PM PV} (h : ∀ A φ μ s Q E a T vs n xs, ACtx F A -> Rep c F φ μ s -> (T = "list" ∨ T = "tuple") -> s.heap.get? a = some { cls := .type T, data := .seq vs.toArray n } -> VRs φ s.heap vs xs -> (T = "tuple" -> VR φ s.heap (.ref a) (.tup xs)) -> lenOk xs = true -> k xs μ ≠ .bad ->
   (∀ v x φ' μ' s', k xs μ = .ok x μ' -> Rep c F φ' μ' s' -> Ext F.nss F.cls φ s.heap φ' s'.heap -> VR φ' s'.heap v x -> Q v s') ->
   (∀ e x φ' μ' s', k xs μ = .exc x μ' -> Rep c F φ' μ' s' -> Ext F.nss F.cls φ s.heap φ' s'.heap -> ExcR c (dom s.heap) φ' s'.heap e x -> E e s') -> wpAny (model c.prog c.w) A (call f [.ref a]) Q E s) : SimCall c F f (oneM (pSeqM k)) :=
 Zas λ v x A φ μ s Q E hA R p hb hQ hE => by
  unfold pSeqM at hb hQ hE
  obtain ⟨a, T, vs, n, xs, rfl, hT, ho, hvs, htup, e⟩ := Zd3 R p (λ e => hb (by rw [PM.B, e]))
  rw [PM.C e] at hb hQ hE
  obtain ⟨hln, e2⟩ := Zn hb
  rw [e2] at hb hQ hE
  exact h A φ μ s Q E a T vs n xs hA R hT ho hvs htup hln hb hQ hE
noncomputable def pLen : List PV -> PM PV := oneM (pSeqM λ xs => pure (.int xs.length))
theorem Zat : SimCall c F (.builtin "len") pLen := simSeq λ A φ μ s Q E a T vs n xs hA R hT ho hvs _ hln hb hQ hE => by
 have e := hvs.length
 have hle := Zan hln
 have fin : ∀ tk t, Q (.int vs.toArray.size t) { s with toks := tk } := λ tk t => hQ _ _ _ _ _ rfl (R.toks _) Ext.refl (by rw [size_toArray, e]; exact .int _ _)
 rcases hT with rfl | rfl
 ·exact call_len_list ⟨_, ho, rfl, _, rfl⟩ (by simp; lia) (fin _ _)
 ·exact P.len_tuple (n := n) ho (by simp; lia) (fin _ _)
noncomputable def pTuple : List PV -> PM PV := oneM (pSeqM λ xs => pure (.tup xs))
theorem Znw : SimCall c F (.type "tuple") pTuple := simSeq λ A φ μ s Q E a T vs n xs hA R hT ho hvs hr hln hb hQ hE => by
 have e := hvs.length
 have hle := Zan hln
 rcases hT with rfl | rfl
 ·refine Z8 (call_tuple_list (items := vs.toArray) ⟨_, ho, rfl, _, rfl⟩ (λ h' keep size => ?_) (by rw [size_toArray, e]; exact Zz hln))
  obtain ⟨RB, xB⟩ := R.still (tk := s.toks) size (λ b o q => Heap.get?_push_of_some _ (keep b o q))
  refine hQ _ _ _ _ _ rfl RB xB (.tup (n := 0) (Heap.get?_push_size _ rfl) ?_ (hvs.ext R xB))
  intro hm
  obtain ⟨o, ho⟩ := R.lt hm
  exact absurd (Heap.lt_size (keep _ _ ho)) (Nat.lt_irrefl _)
 ·exact call_tuple_same (items := vs.toArray) ⟨_, ho, rfl, _, rfl⟩ (hQ _ _ _ _ _ rfl R Ext.refl (hr rfl))
end

theorem Zf9 {prog : Program} {w : World} {A : Around} (hh : A.handled = none) {l it : Addr} {vs : List Value} (hne : l ≠ it) : Walks prog w A it [l, it] [it] vs.length (λ i v => vs[i]? = some v)
  (λ k h => h.IsList l vs.toArray ∧ ∃ o, h.get? it = some o ∧ o.cls = .type "list_iterator" ∧ o.data = .fields #[.ref l, .int k 0]) where
 sub := λ b hb => by simp at hb; simp [hb]
 frame := λ i h h' st hk => by
  obtain ⟨⟨o, ho, r⟩, o', ho', r'⟩ := st
  exact ⟨⟨o, hk l (by simp) o ho, r⟩, o', hk it (by simp) o' ho', r'⟩
 item := λ i s Q E hi st hQ => by
  obtain ⟨hL, o, ho, hc, hd⟩ := st
  refine wpAny_pyNext_list_item (x := vs[i]) ⟨o, ho, hc, hd⟩ hL (by simp) λ h' hit' hs => hQ _ h' s.toks (by simp) ?_ ?_
  ·obtain ⟨o', ho', hc', hd'⟩ := hit'
   obtain ⟨ol, hol, r⟩ := hL
   exact ⟨⟨ol, (hs.2 l hne).trans hol, r⟩, o', ho', hc', by rw [hd']⟩
  ·exact λ b o' hb h => (hs.2 b (by simpa using hb)).trans h
 done := λ s Q E st hQ => by
  obtain ⟨hL, o, ho, hc, hd⟩ := st
  exact wpAny_pyNext_list_end hh ⟨o, ho, hc, hd⟩ hL (by simp) λ h' hs => hQ h' s.toks λ b o' hb h => hs b o' (by simpa using hb) h
 self := λ i s Q E st h => by
  obtain ⟨hL, o, ho, hc, hd⟩ := st
  exact wpAny_pyIter_listiter ⟨o, ho, hc, hd⟩ h
theorem Zfa {is : List Int} : ∀ n, n <= is.length -> preSum (λ i => is.getD i 0) n = (is.take n).sum
 | 0, _ => by simp [preSum]
 | n + 1, h => by
  have this : n < is.length := h
  rw [preSum, Zfa n (Nat.le_of_succ_le h), take_succ_eq_append_getElem this]
  rw [sum_append]
  simp [List.getD, this]
theorem Zmh {is : List Int} : preSum (λ i => is.getD i 0) is.length = is.sum := by rw [Zfa _ Qr, take_length]
noncomputable def boolsOf : List PV -> Option (List Bool)
 | [] => some []
 | .bool b :: r => (boolsOf r).map (b :: ·)
 | _ :: _ => none
theorem Znx {b : Bool} {r : List PV} : boolsOf (.bool b :: r) = (boolsOf r).map (b :: ·) := rfl
theorem Zcw {x : PV} {xs : List PV} {is : List Int} (e : intsOf (x :: xs) = some is) : ∃ i js, x = .int i ∧ intsOf xs = some js ∧ is = i :: js := by
 cases x with
 | int i => obtain ⟨js, e', rfl⟩ := Option.map_eq_some_iff.mp (show (intsOf _).map _ = some is from e); exact ⟨i, js, rfl, e', rfl⟩
 | _ => exact Zf e
theorem Zbx {φ : List Addr} {h : Heap} {vs : List Value} {xs : List PV} (r : VRs φ h vs xs) : ∀ {is : List Int}, intsOf xs = some is -> is.length = vs.length ∧ ∀ k v, vs[k]? = some v -> ∃ t, v = Value.int (is.getD k 0) t := by
 induction r using VRs.ind with
 | nil => intro is e; cases e; exact ⟨rfl, λ k v h => nomatch h⟩
 | cons a b ih =>
  intro is e
  obtain ⟨i, js, rfl, e', rfl⟩ := Zcw e
  obtain ⟨h1, h2⟩ := ih e'
  refine ⟨congrArg Nat.succ h1, λ k v h => match k, h with
   | 0, h => ?_
   | k + 1, h => h2 k v h⟩
  cases h
  exact a.int_inv rfl
theorem Zip {x : PV} {xs : List PV} {is : List Bool} (e : boolsOf (x :: xs) = some is) : ∃ i js, x = .bool i ∧ boolsOf xs = some js ∧ is = i :: js := by
 cases x with
 | bool i => obtain ⟨js, e', rfl⟩ := Option.map_eq_some_iff.mp (show (boolsOf _).map _ = some is from e); exact ⟨i, js, rfl, e', rfl⟩
 | _ => exact Zf e
theorem VR.bool_inv {φ : List Addr} {h : Heap} {v : Value} {x : PV} (r : VR φ h v x) : ∀ {i : Bool}, x = .bool i -> v = Value.bool i := by
 induction r using VR.cs with
 | bool => intro i e; cases e; first | rfl | exact ⟨_, rfl⟩
 | _ => intro i e; cases e
theorem Zmi {φ : List Addr} {h : Heap} {vs : List Value} {xs : List PV} (r : VRs φ h vs xs) : ∀ {is : List Bool}, boolsOf xs = some is -> is.length = vs.length ∧ ∀ k v, vs[k]? = some v -> v = Value.bool (is.getD k false) := by
 induction r using VRs.ind with
 | nil => intro is e; cases e; exact ⟨rfl, λ k v h => nomatch h⟩
 | cons a b ih =>
  intro is e
  obtain ⟨i, js, rfl, e', rfl⟩ := Zip e
  obtain ⟨h1, h2⟩ := ih e'
  refine ⟨congrArg Nat.succ h1, λ k v h => match k, h with
   | 0, h => ?_
   | k + 1, h => h2 k v h⟩
  cases h
  exact a.bool_inv rfl
noncomputable def lstM {α : Type} (g : List PV -> Option α) (x : PV) : PM α := λ μ => match isLst μ.hp x with
 | some xs => (match g xs with
  | some a => .ok a μ
  | none => .bad)
 | none => .bad
theorem Zlg {α : Type} {g : List PV -> Option α} {x : PV} {μ : St} (h : lstM g x μ ≠ .bad) : ∃ xs a, isLst μ.hp x = some xs ∧ g xs = some a ∧ lstM g x μ = .ok a μ := by
 unfold lstM at h ⊢
 cases e : isLst μ.hp x with
 | none => rw [e] at h; exact (h rfl).elim
 | some xs =>
  rw [e] at h
  dsimp only at h ⊢
  cases e' : g xs with
  | none => rw [e'] at h; exact (h rfl).elim
  | some a => exact ⟨xs, a, rfl, e', rfl⟩
section
variable {c : Cx} {F : Fx}
theorem simWalk {f : Value} {α : Type} {g : List PV -> Option α} {k : α -> PV} (hh : F.hd = true)
  (h : ∀ A φ μ s (Q : Value -> Shared -> Prop) E a vs xs y, ACtx F A -> Rep c F φ μ s -> s.heap.IsList a vs.toArray -> VRs φ s.heap vs xs -> g xs = some y -> A.handled = none ->
   (∀ v s', VR φ s.heap v (k y) -> Rep c F φ μ s' -> Ext F.nss F.cls φ s.heap φ s'.heap -> Q v s') ->
   (∀ h' tk, (∀ b o, b ∉ [s.heap.objs.size] -> (s.heap.push { cls := .type "list_iterator", data := .fields #[.ref a, .int 0 0] }).get? b = some o -> h'.get? b = some o) -> s.heap.objs.size <= h'.objs.size -> Rep c F φ μ { s with heap := h', toks := tk } ∧ Ext F.nss F.cls φ s.heap φ h') ->
   wpAny (model c.prog c.w) A (call f [.ref a]) (λ v s' => s.heap.objs.size <= s'.heap.objs.size -> Q v s') E s) (hk : ∀ y φ h h' v, VR φ h v (k y) -> VR φ h' v (k y)) : SimCall c F f (oneM λ x => lstM g x >>= λ y => pure (k y)) :=
 Zas λ v x A φ μ s Q E hA R p hb hQ hE => by
  obtain ⟨xs, y, e1, e2, e3⟩ := Zlg (λ e => hb (by rw [PM.B, e]))
  rw [PM.C e3] at hQ
  obtain ⟨a, vs, rfl, hL, hvs⟩ := Zf0 R p e1
  refine Z8 (wpAny_mono (h A φ μ s Q E a vs xs y hA R hL hvs e2 (hA.handled hh) (λ v s' r R' x' => hQ _ _ _ _ _ rfl R' x' (hk _ _ _ _ _ r)) λ h' tk keep size => R.still size λ b o hb => keep b o (λ hm => ?_) (Heap.get?_push_of_some _ hb)) (λ _ _ q => q) λ _ _ q => λ _ => q)
  have := Heap.lt_size hb
  simp at hm
  rw [hm] at this
  exact Nat.lt_irrefl _ this
noncomputable def pSum : List PV -> PM PV := oneM λ x => lstM intsOf x >>= λ is => pure (.int is.sum)
theorem Zqz (hh : F.hd = true) : SimCall c F (.builtin "sum") pSum := simWalk (k := λ is : List Int => PV.int is.sum) hh (λ A φ μ s Q E a vs xs is hA R hL hvs e hA' hQ hS => by
 obtain ⟨q1, q2⟩ := Zbx hvs e
 have hlt : a < s.heap.objs.size := by obtain ⟨o, ho, _⟩ := hL; exact Heap.lt_size ho
 refine call_sum_walkG (wpAny_pyIter_list hL ⟨_, _, _, _, _, _, λ i => is.getD i 0, rfl, Zf9 (A := A.in1) (vs := vs) hA' (Nat.ne_of_lt hlt), ⟨hL.push _, _, Heap.get?_push_size _ rfl, rfl, rfl⟩, λ b hb => ?_, λ i v hv => q2 i v hv, λ h' tk t' keep size => ?_⟩)
 ·rw [Heap.size_push]
  simp at hb
  rcases hb with rfl | rfl
  ·exact Nat.lt_succ_of_lt hlt
  ·exact Nat.lt_succ_self _
 ·obtain ⟨R', x'⟩ := hS h' tk keep size
  refine hQ _ _ ?_ R' x'
  rw [<- q1, Zmh]
  exact .int _ _) (λ y φ h h' v r => by cases r; exact .int _ _)
theorem Zny {bs : List Bool} : ∀ n, n = bs.length -> (List.range n).all (λ i => bs.getD i false) = bs.all id := λ n e => by
 subst e
 rw [Bool.eq_iff_iff, all_eq_true, all_eq_true]
 constructor
 ·intro h b hb
  obtain ⟨i, hi⟩ := List.getElem?_of_mem hb
  have := h i (mem_range.mpr (Qgl hi))
  simpa [List.getD, hi] using this
 ·intro h i hi
  rw [mem_range] at hi
  have := h bs[i] (by simp)
  simpa [List.getD, hi] using this
noncomputable def pAll : List PV -> PM PV := oneM λ x => lstM boolsOf x >>= λ is => pure (.bool (is.all id))
theorem Zq0 (hh : F.hd = true) : SimCall c F (.builtin "all") pAll := simWalk (k := λ is : List Bool => PV.bool (is.all id)) hh (λ A φ μ s Q E a vs xs is hA R hL hvs e hA' hQ hS => by
 obtain ⟨q1, q2⟩ := Zmi hvs e
 have hlt : a < s.heap.objs.size := by obtain ⟨o, ho, _⟩ := hL; exact Heap.lt_size ho
 refine call_all_walk (wpAny_pyIter_list hL ⟨_, _, _, _, _, _, λ i => is.getD i false, rfl, Zf9 (A := A.in1) (vs := vs) hA' (Nat.ne_of_lt hlt), ⟨hL.push _, _, Heap.get?_push_size _ rfl, rfl, rfl⟩, λ i v s Q E hv hq => ?_, λ h' tk keep size => ?_⟩)
 ·rw [q2 i v hv]; exact wpAny_truthy_bool hq
 ·obtain ⟨R', x'⟩ := hS h' tk keep size
  refine hQ _ _ ?_ R' x'
  rw [Zny _ q1.symm]
  exact .bool _) (λ y φ h h' v r => by cases r; exact .bool _)
end

section
variable {c : Cx} {F : Fx}
noncomputable def rngOf : List Int -> PM PV
 | [] => PM.H
 | [n] => pure (.rng 0 n 1)
 | [a, b] => pure (.rng a b 1)
 | [a, b, st] => chk (decide (st ≠ 0) && decide (st.natAbs < 1073741824)) >>= λ _ => pure (.rng a b st)
 | _ :: _ :: _ :: _ :: _ => PM.H
noncomputable def pRange (ys : List PV) : PM PV := match intsOf ys with
 | some is => rngOf is
 | none => PM.H
theorem Zg9 : ∀ {ys : List PV} {is : List Int}, intsOf ys = some is -> ys = is.map .int
 | [], is, e => by cases e; rfl
 | y :: ys, is, e => by
  obtain ⟨i, js, rfl, e', rfl⟩ := Zcw e
  rw [Zg9 e']; rfl
theorem Zgs {φ : List Addr} {μ : St} {s : Shared} (R : Rep c F φ μ s) {a b st : Int} {t u v : Tok} {tk : Nat} {Q : Value -> Shared -> Prop}
  (hQ : ∀ w φ' s', Rep c F φ' μ s' -> Ext F.nss F.cls φ s.heap φ' s'.heap -> VR φ' s'.heap w (.rng a b st) -> Q w s') : Q (.ref s.heap.objs.size) { s with heap := s.heap.push { cls := .type "range", data := .fields #[.int a t, .int b u, .int st v] }, toks := tk } := by
 obtain ⟨RB, xB⟩ := R.push { cls := .type "range", data := .fields #[.int a t, .int b u, .int st v] } (tk := tk)
 exact hQ _ _ _ RB xB (.rng (Heap.get?_push_size _ rfl) λ hm => absurd (R.phiLt hm) (Nat.lt_irrefl _))
theorem Zbc : SimCall c F (.type "range") pRange := λ vs ys A φ μ s Q E hA R p hb hQ hE => by
 unfold pRange at hb hQ hE
 cases hi : intsOf ys with
 | none => rw [hi] at hb; exact (hb rfl).elim
 | some is =>
  rw [hi] at hb hQ hE
  have hys := Zg9 hi
  subst hys
  cases is with
  | nil => exact (hb rfl).elim
  | cons a r =>
  cases r with
  | nil => obtain ⟨_, rfl⟩ := p.ints1; exact call_range_1 (Zgs R λ w φ' s' R' x' r => hQ _ _ _ _ _ rfl R' x' r)
  | cons b r =>
  cases r with
  | nil => obtain ⟨_, _, rfl⟩ := p.ints2; exact call_range_2 (Zgs R λ w φ' s' R' x' r => hQ _ _ _ _ _ rfl R' x' r)
  | cons st r =>
  cases r with
  | cons => exact (hb rfl).elim
  | nil =>
  dsimp only [rngOf] at hb hQ
  obtain ⟨h1, h2⟩ := Zn hb
  rw [h2] at hQ
  rw [Bool.and_eq_true] at h1
  obtain ⟨_, _, _, rfl⟩ := p.ints3
  exact call_range_3 (of_decide_eq_true h1.1) (Zgs R λ w φ' s' R' x' r => hQ _ _ _ _ _ rfl R' x' r) (Or.inl (PyProof.noPylong_small (of_decide_eq_true h1.2)))
noncomputable def rngList (a st : Int) (n : Nat) : List PV := (List.range n).map λ (i : Nat) => PV.int (a + i * st)
noncomputable def pListOf : PV -> PM PV
 | .rng a b st => chk (Builtin.Range.small a b st && decide (Builtin.Range.rangeSize a b st <= 1000000)) >>= λ _ => allocM (.lst (rngList a st (Builtin.Range.rangeSize a b st).toNat)) >>= λ i => pure (.obj i)
 | x => pSeqM (λ xs => allocM (.lst xs) >>= λ i => pure (.obj i)) x
theorem Ziq {φ : List Addr} {μ : St} {s : Shared} (R : Rep c F φ μ s) {h' : Heap} {tk : Nat} {vs : List Value} {n : Nat} {xs : List PV} (keep : ∀ b o, s.heap.get? b = some o -> h'.get? b = some o) (size : s.heap.objs.size <= h'.objs.size)
  (hnew : h'.get? s.heap.objs.size = some { cls := .type "list", data := .seq vs.toArray n }) (hv : ∀ (φ' : List Addr), (∀ v x, VR φ s.heap v x -> VR φ' h' v x) -> VRs φ' h' vs xs) :
  Rep c F (φ ++ [s.heap.objs.size]) { fr := μ.fr, hp := μ.hp ++ [.lst xs] } { s with heap := h', toks := tk } ∧ Ext F.nss F.cls φ s.heap (φ ++ [s.heap.objs.size]) h' := by
 have hself : (φ ++ [s.heap.objs.size])[μ.hp.length]? = some s.heap.objs.size := by rw [<- R.len]; simp
 refine R.mut (ψ := [s.heap.objs.size]) (by simp) (by simp) size (λ a o' e _ => keep a o' e) (by simp [R.len]) (λ hm i a o' h1 h2 => ?_)
 by_cases hi : i < φ.length
 ·rw [List.getElem?_append_left hi] at h1
  rw [List.getElem?_append_left (by rw [<- R.len]; exact hi)] at h2
  obtain ⟨ob', hob⟩ := R.lt (mem_of_getElem? h1)
  exact (R.objs i a o' h1 h2).move (λ _ _ e => getElem?_app e) hm ((keep _ _ hob).trans hob.symm)
 ·have hi' : i = φ.length := by
   have := (Qgl h1)
   simp at this; lia
  subst hi'
  rw [R.len] at h1 h2
  rw [hself] at h1; cases h1
  simp at h2; subst h2
  exact .lst hnew (hv _ hm)
theorem Znz {φ : List Addr} {h : Heap} : ∀ {vs : List Value} {xs : List PV}, vs.length = xs.length -> (∀ (j : Nat) (v : Value) (x : PV), vs[j]? = some v -> xs[j]? = some x -> VR φ h v x) -> VRs φ h vs xs
 | [], [], _, _ => .nil
 | v :: vs, x :: xs, e, r => .cons (r 0 v x rfl rfl) (Znz (by simpa using e) λ j v x h1 h2 => r (j + 1) v x (by simpa using h1) (by simpa using h2))
 | [], _ :: _, e, _ => by simp at e
 | _ :: _, [], e, _ => by simp at e
theorem Zn0 {φ : List Addr} {h : Heap} {a st : Int} {acc : Array Value} {n : Nat} (it : ItemsOf (λ i v => ∃ t, v = Value.int (a + i * st) t) acc n) : VRs φ h acc.toList (rngList a st n) := by
 obtain ⟨h1, h2⟩ := it
 refine Znz (by unfold rngList; simp [h1]) λ j v x q1 q2 => ?_
 obtain ⟨t, rfl⟩ := h2 j v (by simpa using q1)
 unfold rngList at q2
 rw [List.getElem?_map] at q2
 obtain ⟨i, hi, rfl⟩ := Option.map_eq_some_iff.mp q2
 obtain ⟨hl, e⟩ := Qgs hi
 simp at e
 subst e
 exact .int _ _
theorem Zfs (a b st : Int) : 0 <= Builtin.Range.rangeSize a b st := by
 unfold Builtin.Range.rangeSize
 split
 ·split
  ·have := Int.ediv_nonneg (a := b - a - 1) (b := st) (by lia) (by lia); lia
  ·exact Int.le_refl _
 ·split
  ·have := Int.ediv_nonneg (a := a - b - 1) (b := -st) (by lia) (by lia); lia
  ·exact Int.le_refl _
theorem Zmj (hh : F.hd = true) : SimCall c F (.type "list") (oneM pListOf) := Zas λ v x A φ μ s Q E hA R p hb hQ hE => by
 have seq : ∀ k : PV -> PM PV, pSeqM (λ xs => allocM (.lst xs) >>= λ i => pure (.obj i)) x μ ≠ .bad ->
  (∀ a b φ' μ' s', pSeqM (λ xs => allocM (.lst xs) >>= λ i => pure (.obj i)) x μ = .ok b μ' -> Rep c F φ' μ' s' -> Ext F.nss F.cls φ s.heap φ' s'.heap -> VR φ' s'.heap a b -> Q a s') -> wpAny (model c.prog c.w) A (call (.type "list") [v]) Q E s := λ _ hb hQ => by
  unfold pSeqM at hb hQ
  obtain ⟨a, T, vs, n, xs, rfl, hT, ho, hvs, _, e⟩ := Zd3 R p (λ e => hb (by rw [PM.B, e]))
  rw [PM.C e] at hb hQ
  obtain ⟨hln, e2⟩ := Zn hb
  rw [e2] at hQ
  refine Z8 (call_list_seq a hT ho rfl rfl (λ h' c' keep hnew size => ?_) (by rw [size_toArray, hvs.length]; exact Zz hln))
  obtain ⟨RB, xB⟩ := Ziq (tk := s.toks) R keep size hnew (xs := xs) λ φ' hm => hvs.mv hm
  exact hQ _ _ _ _ _ rfl RB xB (.obj (by rw [<- R.len]; simp))
 cases x with
 | rng a b st =>
  unfold pListOf at hb hQ
  dsimp only at hb hQ
  obtain ⟨h1, h2⟩ := Zn hb
  rw [h2] at hQ
  rw [Bool.and_eq_true] at h1
  cases p with
  | @rng r _ _ _ t u v hr hn =>
  have hle := of_decide_eq_true h1.2
  refine Z8 (call_list_range (hA.handled hh) hr h1.1 (n := (Builtin.Range.rangeSize a b st).toNat) ?_ (by lia) λ h' tk acc' c' keep hnew hit size => ?_)
  ·have := Zfs a b st
   lia
  ·obtain ⟨RB, xB⟩ := Ziq (tk := tk) R (vs := acc'.toList) keep size hnew (xs := rngList a st (Builtin.Range.rangeSize a b st).toNat) λ φ' hm => Zn0 hit
   exact hQ _ _ _ _ _ rfl RB xB (.obj (by rw [<- R.len]; simp))
 | _ => exact seq pListOf hb hQ
end

section
variable {c : Cx} {F : Fx}
theorem Zay {o : Expr} {name : Str} {apos pos : Pos} {args : List Expr} {T id : String} {fo : PM PV} {β γ : Type} {ck : PV -> PM β} {ga : PM (List PV)} {RR : List Addr -> Heap -> Value -> γ -> Prop} {k : PV -> List PV -> PM γ}
  (hbase : attributeBase o name F.env (eval o F.env) = eval o F.env) (hfew : hFew c F pos args) (hline : (apos.endLine == pos.line) = true)
  (pa : PlainAttrs T) (slot : Slot T name id) (hty : typeOf (.builtin id) = pure (.type "method_descriptor"))
  (h : SimE c F o fo) (hck : ∀ φ μ s v x, Rep c F φ μ s -> VR φ s.heap v x -> ck x μ ≠ .bad -> ∃ b, ck x μ = .ok b μ ∧ s.TypeIs v T ∧ (∃ a, v = .ref a ∧ ∃ ob, s.heap.get? a = some ob ∧ ob.dict = none))
  (hargs : CallArgs c F (starEach args F.env) ga)
  (hk : ∀ a x vs ys, Sim c F (λ φ h => VR φ h (.ref a) x ∧ VRs φ h vs ys) RR (call (.builtin id) (.ref a :: vs)) (k x ys)) :
  Sim c F NoP RR (eval (.Call (.Attribute o name apos) args [] pos) F.env) (fo >>= λ x => ck x >>= λ _ => ga >>= k x) :=
 Zcd hbase hfew hline pa slot hty h (k := λ x _ => ga >>= k x) hck λ a x b =>
  Zax (first := [.ref a]) hargs (λ _ _ _ _ _ R e r => r.ext R e) (λ φ h X _ => Zie φ h X trivial) λ vs ys => hk a x vs ys
noncomputable def theSet (v : PV) : PM (Nat × List Int) := λ μ => match v with
 | .obj i => match μ.hp[i]? with
  | some (.set xs) => .ok (i, xs) μ
  | _ => .bad
 | _ => .bad
theorem Zmk {μ : St} {x : PV} (h : theSet x μ ≠ .bad) : ∃ i xs, x = .obj i ∧ μ.hp[i]? = some (.set xs) := by
 cases x with
 | obj i =>
  unfold theSet at h
  dsimp only at h
  cases hi : μ.hp[i]? with
  | none => rw [hi] at h; exact (h rfl).elim
  | some o =>
   rw [hi] at h
   cases o with
   | set xs => exact ⟨i, xs, rfl, hi⟩
   | _ => exact (h rfl).elim
 | _ => exact (h rfl).elim
theorem Zha {φ : List Addr} {μ : St} {s : Shared} (R : Rep c F φ μ s) {v : Value} {x : PV} (r : VR φ s.heap v x) (h : theSet x μ ≠ .bad) :
  ∃ a i xs, v = .ref a ∧ φ[i]? = some a ∧ s.heap.SetOf (intKind c.prog c.w) a (λ k => decide (k ∈ xs)) xs.length ∧ theSet x μ = .ok (i, xs) μ := by
 obtain ⟨i, xs, rfl, hi⟩ := Zmk h
 obtain ⟨a, rfl, h1⟩ := r.un_obj rfl
 exact ⟨a, i, xs, rfl, h1, (R.objs i a _ h1 hi).inv_set rfl, by unfold theSet; dsimp only; rw [hi]⟩
theorem Zn1 : ∀ φ μ s v x, Rep c F φ μ s -> VR φ s.heap v x -> theSet x μ ≠ .bad -> ∃ b, theSet x μ = .ok b μ ∧ s.TypeIs v "set" ∧ (∃ a, v = .ref a ∧ ∃ ob, s.heap.get? a = some ob ∧ ob.dict = none) := by
 intro φ μ s v x R r hb
 obtain ⟨a, i, xs, rfl, hi, hS, e⟩ := Zha R r hb
 obtain ⟨o, es, ep, t, ho, hx, _⟩ := id hS
 exact ⟨_, e, hS.typeIs, a, rfl, o, ho, hx.2.1⟩
noncomputable def pSet : PM PV := allocM (.set []) >>= λ i => pure (.obj i)
theorem Zq1 : SimCall c F (.type "set") (noneM pSet) := Zio λ A φ μ s Q E hA R p hb hQ hE => by
 refine call_set_0 λ led => ?_
 obtain ⟨RB, xB⟩ := R.alloc (ob := { cls := .type "set", dict := none, data := .set #[] 0 (.fresh 0 0 led) }) (o := .set []) (tk := s.toks) rfl λ hg hi hm => .set (by
  have q := PyProof.Rows.setObjOf_fresh (knd := intKind c.prog c.w) led
  have := q.setOf hg (by decide)
  simpa using this)
 exact hQ _ _ _ _ _ rfl RB xB (.obj (by rw [<- R.len]; simp))
noncomputable def addInt (xs : List Int) (k : Int) : List Int := match decide (k ∈ xs) with
 | true => xs
 | false => xs ++ [k]
noncomputable def pSetAdd (o : PV) : List PV -> PM PV
 | [.int k] => theSet o >>= λ p => chk (decide (p.2.length + 1 < scanBound)) >>= λ _ => putM p.1 (.set (addInt p.2 k)) >>= λ _ => pure .none
 | _ => PM.H
theorem Zkp {o : PV} {ys : List PV} {μ : St} (h : pSetAdd o ys μ ≠ .bad) : ∃ k, ys = [.int k] := by
 rcases ys with _ | ⟨y, _ | _⟩
 ·exact (h rfl).elim
 ·cases y with
  | int k => exact ⟨k, rfl⟩
  | _ => exact (h rfl).elim
 ·exact (h (by cases y <;> rfl)).elim
noncomputable def mSetAdd (fo : PM PV) (ga : PM (List PV)) : PM PV := fo >>= λ x => theSet x >>= λ _ => ga >>= pSetAdd x
theorem Zml {o : Expr} {apos pos : Pos} {args : List Expr} {fo : PM PV} {ga : PM (List PV)} (hbase : attributeBase o "add" F.env (eval o F.env) = eval o F.env) (hfew : hFew c F pos args) (hline : (apos.endLine == pos.line) = true)
  (h : SimE c F o fo) (hargs : CallArgs c F (starEach args F.env) ga) : SimE c F (.Call (.Attribute o "add" apos) args [] pos) (mSetAdd fo ga) :=
 Zay hbase hfew hline PySem.F.plainAttrs_set PySem.F.slot_set_add PySem.F.type_set_add h Zn1 hargs λ a x vs ys A φ μ s Q E hA R p hb hQ hE => by
  obtain ⟨k, rfl⟩ := Zkp hb
  unfold pSetAdd at hb hQ
  ·dsimp only at hb hQ
   obtain ⟨a', i, xs, ea, hi, hS, e⟩ := Zha R p.1 (λ e => hb (by rw [PM.B, e]))
   cases ea
   rw [PM.C e] at hb hQ
   obtain ⟨hln, e2⟩ := Zn hb
   rw [e2] at hQ
   obtain ⟨p1, p2⟩ := p
   obtain ⟨t, rfl⟩ := p2.ints1
   refine call_set_add (knd := intKind c.prog c.w) (intKind_is _ _ _ _) rfl hS (of_decide_eq_true hln) λ h' hs hS' => ?_
   obtain ⟨R3, xD⟩ := R.upd (tk := s.toks + 1) (o := .set (addInt xs k)) hi hs λ hm => .set (by
    have e1 : (λ k' => decide (k' ∈ xs) || decide (k' = k)) = λ k' => decide (k' ∈ addInt xs k) := by
     funext k'
     unfold addInt
     by_cases hk : k ∈ xs
     ·rw [decide_eq_true hk]
      by_cases e : k' = k
      ·subst e; simp [hk]
      ·simp [e]
     ·rw [decide_eq_false hk]
      by_cases e : k' = k <;> simp [e]
    have e2 : (if decide (k ∈ xs) = true then xs.length else xs.length + 1) = (addInt xs k).length := by
     unfold addInt
     by_cases hk : k ∈ xs
     ·rw [decide_eq_true hk]; rfl
     ·rw [decide_eq_false hk]; simp
    rw [e1, e2] at hS'
    exact hS')
   exact hQ _ _ _ _ _ rfl R3 xD .none
end
end Mine
namespace Mine
open PySem PySem.W PyProof.Rows PySem.Calls PySem.MeetsSeq

section
variable {c : Cx} {F : Fx}
noncomputable def theDct (v : PV) : PM (Nat × List (Int × PV)) := λ μ => match v with
 | .obj i => match μ.hp[i]? with
  | some (.dct es ep) => .ok (i, es) μ
  | _ => .bad
 | _ => .bad
theorem Zmm {μ : St} {x : PV} (h : theDct x μ ≠ .bad) : ∃ i es ep, x = .obj i ∧ μ.hp[i]? = some (.dct es ep) := by
 cases x with
 | obj i =>
  unfold theDct at h
  dsimp only at h
  cases hi : μ.hp[i]? with
  | none => rw [hi] at h; exact (h rfl).elim
  | some o =>
   rw [hi] at h
   cases o with
   | dct es ep => exact ⟨i, es, ep, rfl, hi⟩
   | _ => exact (h rfl).elim
 | _ => exact (h rfl).elim
theorem Zd4 {φ : List Addr} {μ : St} {s : Shared} (R : Rep c F φ μ s) {v : Value} {x : PV} (r : VR φ s.heap v x) (h : theDct x μ ≠ .bad) :
  ∃ a i es kvs ep, v = .ref a ∧ φ[i]? = some a ∧ s.heap.DictAt (intKind c.prog c.w) a kvs ep ∧ DRs φ s.heap kvs es ∧ theDct x μ = .ok (i, es) μ := by
 obtain ⟨i, es, ep, rfl, hi⟩ := Zmm h
 obtain ⟨a, rfl, h1⟩ := r.un_obj rfl
 obtain ⟨kvs, k1, k2⟩ := (R.objs i a _ h1 hi).inv_dct rfl
 exact ⟨a, i, es, kvs, ep, rfl, h1, k1, k2, by unfold theDct; dsimp only; rw [hi]⟩
theorem Zhb : ∀ φ μ s v x, Rep c F φ μ s -> VR φ s.heap v x -> theDct x μ ≠ .bad -> ∃ b, theDct x μ = .ok b μ ∧ s.TypeIs v "dict" ∧ (∃ a, v = .ref a ∧ ∃ ob, s.heap.get? a = some ob ∧ ob.dict = none) := by
 intro φ μ s v x R r hb
 obtain ⟨a, i, es, kvs, ep, rfl, hi, hS, _, e⟩ := Zd4 R r hb
 obtain ⟨ob, h1, h2⟩ := hS.dictOf.mapOf.noDict a rfl
 exact ⟨_, e, hS.dictOf.typeIs, a, rfl, ob, h1, h2⟩
theorem Zn2 {φ : List Addr} {h : Heap} {kvs : List (Int × Value)} {es : List (Int × PV)} (r : DRs φ h kvs es) {k : Int} (e : dGet es k = none) : valueAt kvs k = none := by
 have := Zfm r k
 have hn : (es.any λ e => e.1 == k) = false := by
  unfold dGet at e
  rw [Option.map_eq_none_iff, List.find?_eq_none] at e
  rw [List.any_eq_false]
  exact e
 rw [hn] at this
 cases q : valueAt kvs k with
 | none => rfl
 | some v => rw [q] at this; cases this
noncomputable def pDictGet (o : PV) : List PV -> PM PV
 | [.int k] => theDct o >>= λ p => pure ((dGet p.2 k).getD .none)
 | _ => PM.H
noncomputable def mDictGet (fo : PM PV) (ga : PM (List PV)) : PM PV := fo >>= λ x => theDct x >>= λ _ => ga >>= pDictGet x
theorem Zfb {o : Expr} {apos pos : Pos} {args : List Expr} {fo : PM PV} {ga : PM (List PV)} (hbase : attributeBase o "get" F.env (eval o F.env) = eval o F.env) (hfew : hFew c F pos args) (hline : (apos.endLine == pos.line) = true)
  (h : SimE c F o fo) (hargs : CallArgs c F (starEach args F.env) ga) : SimE c F (.Call (.Attribute o "get" apos) args [] pos) (mDictGet fo ga) :=
 Zay hbase hfew hline PySem.F.plainAttrs_dict PySem.F.slot_dict_get PySem.F.type_dict_get h Zhb hargs λ a x vs ys A φ μ s Q E hA R p hb hQ hE => by
  unfold pDictGet at hb hQ
  split at hb
  ·rename_i k
   dsimp only at hQ
   obtain ⟨a', i, es, kvs, ep, ea, hi, hS, hr, e⟩ := Zd4 R p.1 (λ e => hb (by rw [PM.B, e]))
   cases ea
   rw [PM.C e] at hQ
   have hm : a ∈ φ := mem_of_getElem? hi
   obtain ⟨p1, p2⟩ := p
   obtain ⟨t, rfl⟩ := p2.ints1
   refine call_meetsIn PySem.F.slot_dict_get hS.dictOf.typeIs PySem.F.entry_dict_get (PySem.F.args_dict_get_2 _ _) (meets_dict_get (intKind c.prog c.w) a (intKind_is _ _ k t) (R.notSys hm)) ⟨_, hS.dictOf.mapOf, ?_⟩
   have := hQ ((valueAt kvs k).getD .none) _ φ μ { s with toks := s.toks + 1 } rfl (R.toks _) Ext.refl (by
    cases hg : dGet es k with
    | none => rw [Zn2 hr hg]; exact .none
    | some y =>
     obtain ⟨w, hw, hv⟩ := Zg5 hr hg
     rw [hw]; exact hv)
   exact this
  ·exact (hb rfl).elim
noncomputable def pValues (o : PV) : List PV -> PM PV
 | [] => theDct o >>= λ p => pure (.vals p.1)
 | _ => PM.H
noncomputable def mValues (fo : PM PV) (ga : PM (List PV)) : PM PV := fo >>= λ x => theDct x >>= λ _ => ga >>= pValues x
theorem Zmn {o : Expr} {apos pos : Pos} {args : List Expr} {fo : PM PV} {ga : PM (List PV)} (hbase : attributeBase o "values" F.env (eval o F.env) = eval o F.env) (hfew : hFew c F pos args) (hline : (apos.endLine == pos.line) = true)
  (h : SimE c F o fo) (hargs : CallArgs c F (starEach args F.env) ga) : SimE c F (.Call (.Attribute o "values" apos) args [] pos) (mValues fo ga) :=
 Zay hbase hfew hline PySem.F.plainAttrs_dict PySem.F.slot_dict_values PySem.F.type_dict_values h Zhb hargs λ a x vs ys A φ μ s Q E hA R p hb hQ hE => by
  unfold pValues at hb hQ
  split at hb
  ·dsimp only at hQ
   obtain ⟨a', i, es, kvs, ep, ea, hi, hS, hr, e⟩ := Zd4 R p.1 (λ e => hb (by rw [PM.B, e]))
   cases ea
   rw [PM.C e] at hQ
   have hm : a ∈ φ := mem_of_getElem? hi
   obtain ⟨p1, p2⟩ := p
   cases p2
   refine call_meetsIn PySem.F.slot_dict_values hS.dictOf.typeIs PySem.F.entry_dict_values (PySem.F.args_dict_values_1 _) (meets_dict_values (intKind c.prog c.w) a (R.notSys hm)) ⟨⟨_, hS.dictOf⟩, ?_⟩
   obtain ⟨RB, xB⟩ := R.push { cls := .type "dict_values", data := .fields #[.ref a] } (tk := s.toks)
   exact hQ _ _ _ _ _ rfl RB xB (.vals hi (Heap.get?_push_size _ rfl) λ hm => absurd (R.phiLt hm) (Nat.lt_irrefl _))
  ·exact (hb rfl).elim
noncomputable def eqInt (k : Int) : Value -> Bool
 | .int i _ => i == k
 | _ => false
theorem Zkq {φ : List Addr} {h : Heap} {vs : List Value} {xs : List PV} {is : List Int} (hv : VRs φ h vs xs) (e : intsOf xs = some is) (k : Int) (t : Tok) : ∀ y ∈ vs.toArray, EqGives y (.int k t) (eqInt k y) := λ y hy => by
 obtain ⟨j, hj⟩ := List.getElem?_of_mem (by simpa using hy)
 obtain ⟨t', rfl⟩ := (Zbx hv e).2 j y hj
 exact EqGives.int _ _ _ _
theorem Zn3 {φ : List Addr} {h : Heap} {vs : List Value} {xs : List PV} {is : List Int} (hv : VRs φ h vs xs) (e : intsOf xs = some is) (k : Int) : vs.map (eqInt k) = is.map (· == k) := by
 obtain ⟨h1, h2⟩ := Zbx hv e
 refine ext_getElem (by simp [h1]) λ j a b => ?_
 simp at a b
 obtain ⟨t', e⟩ := h2 j vs[j] (by simp)
 simp only [getElem_map]
 rw [e]
 simp [eqInt, b]
noncomputable def pIndexL (o : PV) : List PV -> PM PV
 | [y] => aLst o >>= λ xs => pIndex xs y
 | _ => PM.H
noncomputable def mIndex (fo : PM PV) (ga : PM (List PV)) : PM PV := fo >>= λ x => aLst x >>= λ _ => ga >>= pIndexL x
theorem Zc3 {φ : List Addr} {μ : St} {s : Shared} (R : Rep c F φ μ s) {v : Value} {x : PV} (r : VR φ s.heap v x) (h : aLst x μ ≠ .bad) :
  ∃ a vs n xs, v = .ref a ∧ IsL s.heap a vs.toArray n ∧ VRs φ s.heap vs xs ∧ aLst x μ = .ok xs μ := by
 unfold aLst at h ⊢
 cases e : isLst μ.hp x with
 | none => rw [e] at h; exact (h rfl).elim
 | some xs =>
  obtain ⟨a, vs, n, rfl, h1, h2⟩ := Zfl R r e
  exact ⟨a, vs, n, xs, rfl, h1, h2, rfl⟩
theorem Zd5 {o : Expr} {apos pos : Pos} {args : List Expr} {fo : PM PV} {ga : PM (List PV)} (hbase : attributeBase o "index" F.env (eval o F.env) = eval o F.env) (hfew : hFew c F pos args) (hline : (apos.endLine == pos.line) = true)
  (h : SimE c F o fo) (hargs : CallArgs c F (starEach args F.env) ga) : SimE c F (.Call (.Attribute o "index" apos) args [] pos) (mIndex fo ga) :=
 Zay hbase hfew hline PySem.F.plainAttrs_list PySem.F.slot_list_index PySem.F.type_list_index h Zqm hargs λ a x vs ys A φ μ s Q E hA R p hb hQ hE => by
  unfold pIndexL at hb hQ
  split at hb
  ·rename_i y
   dsimp only at hQ
   obtain ⟨a', vs', n, xs, ea, hL, hvs, e⟩ := Zc3 R p.1 (λ e => hb (by rw [PM.B, e]))
   cases ea
   rw [PM.C e] at hb hQ
   obtain ⟨p1, p2⟩ := p
   cases p2 with
   | cons q r =>
   cases r
   unfold pIndex at hb hQ
   cases hi : intsOf xs with
   | none => rw [hi] at hb; exact (hb rfl).elim
   | some is =>
   rw [hi] at hb hQ
   induction q using VR.cs with
   | int k t =>
    dsimp only at hb hQ
    cases hj : is.findIdx? (· == k) with
    | none => rw [hj] at hb; exact (hb rfl).elim
    | some j =>
     rw [hj] at hb hQ
     obtain ⟨hln, e2⟩ := Zn hb
     dsimp only at hQ
     rw [e2] at hQ
     have hle := Zan hln
     obtain ⟨q1, q2⟩ := Zbx hvs hi
     obtain ⟨hjl, hj1, hj2⟩ := List.findIdx?_eq_some_iff_getElem.mp hj
     have hm := Zn3 hvs hi k
     have at_ : ∀ m (h : m < vs'.length), eqInt k vs'[m] = (is[m]'(by lia) == k) := λ m h => by
      have := congrArg (λ l => l[m]?) hm
      simpa [h, show m < is.length by lia] using this
     have hvl := hvs.length
     refine call_meets PySem.F.slot_list_index ⟨_, hL, rfl⟩ PySem.F.entry_list_index (PySem.F.args_list_index_2 _ _) (list_index a vs'.toArray n (.int k t) (eqInt k) (Zkq hvs hi k t) j (by simp; lia) (by lia) ?_ ?_) ⟨hL, ?_⟩
     ·simp only [List.getElem_toArray]; rw [at_ j (by lia)]; exact hj1
     ·intro m hm' hlt
      simp only [List.getElem_toArray]; rw [at_ m (by simpa using hm')]
      exact Bool.eq_false_iff.mpr (hj2 m hlt)
     ·exact hQ _ _ _ _ { s with toks := s.toks + 1 } rfl (R.toks _) Ext.refl (.int _ _)
   | _ => exact (hb rfl).elim
  ·exact (hb rfl).elim
end

section
variable {c : Cx} {F : Fx}
theorem Zir (mu_ : Bool) {φ φ0 : List Addr} {h₀ : Heap} {μ : St} {s : Shared} (R : Rep c F φ μ s) (x : Ext F.nss F.cls φ0 h₀ φ s.heap) {vs : List Value} {xs : List PV} (p : VRs φ s.heap vs xs) (hb : mkList mu_ xs μ ≠ .bad) {tk : Nat} {Q : Value -> Shared -> Prop}
  (hQ : ∀ v y φ' μ' s', mkList mu_ xs μ = .ok y μ' -> Rep c F φ' μ' s' -> Ext F.nss F.cls φ0 h₀ φ' s'.heap -> VR φ' s'.heap v y -> Q v s') :
  Q (.ref s.heap.objs.size) { s with heap := s.heap.push { cls := .type "list", data := .seq vs.toArray }, toks := tk } := by
 unfold mkList at hb hQ
 obtain ⟨hl, e⟩ := Zn hb
 rw [e] at hb hQ
 cases mu_ with
 | true =>
  obtain ⟨RB, xB⟩ := R.alloc (ob := { cls := .type "list", data := .seq vs.toArray }) (o := .lst xs) (tk := tk) rfl λ hg hi hm => .lst hg (p.mv hm)
  exact hQ _ _ _ _ _ rfl RB (x.trans xB) (.obj (by rw [<- R.len]; simp))
 | false =>
  obtain ⟨RB, xB⟩ := R.push { cls := .type "list", data := .seq vs.toArray } (tk := tk)
  exact hQ _ _ _ _ _ rfl RB (x.trans xB) (.lst (Heap.get?_push_size _ rfl) (λ hm => absurd (R.phiLt hm) (Nat.lt_irrefl _)) (p.ext R xB))
theorem Zmo {mu_ : Bool} {xs : List PV} {μ : St} (hb : mkList mu_ xs μ ≠ .bad) : xs.length <= 1000000 := by
 unfold mkList at hb
 exact Zan (Zn hb).1
noncomputable def pCat (mu_ : Bool) (x y : PV) : PM PV := aLst x >>= λ xs => aLst y >>= λ ys => mkList mu_ (xs ++ ys)
theorem Zq2 (mu_ : Bool) {v w : Value} {x y : PV} : Sim c F (V2 v w x y) (λ φ h a b => VR φ h a b) (binaryOp .Add v w) (pCat mu_ x y) := λ A φ μ s Q E hA R p hb hQ hE => by
 unfold pCat at hb hQ
 obtain ⟨a, vs, n, xs, rfl, hl, hv, e⟩ := Zc3 R p.1 (λ e => hb (by rw [PM.B, e]))
 rw [PM.C e] at hb hQ
 obtain ⟨a', vs', n', ys, rfl, hl', hv', e'⟩ := Zc3 R p.2 (λ e => hb (by rw [PM.B, e]))
 rw [PM.C e'] at hb hQ
 have hle := Zmo hb
 have e1 := hv.length
 have e2 := hv'.length
 rw [length_append] at hle
 refine P.add_list hl hl' ?_ (by simp only [size_toArray]; exact Nat.le_trans (by lia) (show 1000000 <= sizeLine by decide))
 have := Zir (vs := vs ++ vs') (tk := s.toks) (Q := Q) mu_ R Ext.refl (hv.append hv') hb λ v y φ' μ' s' e R' x' r => hQ v y φ' μ' s' e R' x' r
 simpa using this
noncomputable def eCat (mu_ : Bool) (f g : PM PV) : PM PV := f >>= λ x => g >>= λ y => pCat mu_ x y
theorem Zcg (mu_ : Bool) {l r : Expr} {pos : Pos} {f g : PM PV} (h : SimE c F l f) (h' : SimE c F r g) : SimE c F (.BinOp l .Add r pos) (eCat mu_ f g) := λ A φ μ s Q E hA R p hb hQ hE => by
 unfold eCat at hb hQ hE
 refine wpAny_BinOp ?_
 refine h.use hA R p hb hE λ a b φ' μ' s' eg R' x r => ?_
 rw [eg] at hb hQ hE
 refine (h'.keep (v := a) (x := b)).use hA R' r hb (λ e y φ' μ' s' he R' x' r => hE e y φ' μ' s' he R' (x.trans x') (r.le x.dom)) λ aC bC φ2 μ2 sC eg RC x2 rC => ?_
 rw [eg] at hb hQ hE
 exact (Zq2 mu_).fin hA RC rC rfl (x.trans x2) hb hQ hE
noncomputable def pSlice (mu_ : Bool) (o i : PV) : PM PV := aLst o >>= λ xs => match i with
 | .int k => chk (decide (0 <= k) && decide (k <= xs.length) && lenOk xs) >>= λ _ => mkList mu_ (xs.drop k.toNat)
 | _ => PM.H
noncomputable def eSlice (mu_ : Bool) (f g : PM PV) : PM PV := f >>= λ x => g >>= λ y => pSlice mu_ x y
theorem Zga (mu_ : Bool) {value lo : Expr} {p pos : Pos} {f g : PM PV} (h : SimE c F value f) (h' : SimE c F lo g) (ht : ∀ o r, letTemporaryGo value o r = pure ()) : SimE c F (.Subscript value (.Slice (some lo) none none p) pos) (eSlice mu_ f g) := λ A φ μ s Q E hA R p hb hQ hE => by
 unfold eSlice at hb hQ hE
 refine wpAny_Subscript_list_slice ?_ ht
 refine h.use hA R p hb hE λ a b φ' μ' s' eg R' x r => ?_
 rw [eg] at hb hQ hE
 show wpAny _ _ (eval lo F.env) _ _ _
 refine (h'.keep (v := a) (x := b)).use hA R' r hb (λ e y φ' μ' s' he R' x' r => hE e y φ' μ' s' he R' (x.trans x') (r.le x.dom)) λ aC bC φ2 μ2 sC eg RC x2 rC => ?_
 rw [eg] at hb hQ hE
 rw [evalPart_none]
 refine Qp ?_
 unfold pSlice at hb hQ
 obtain ⟨l, vs, n, xs, rfl, hl, hv, e⟩ := Zc3 RC rC.1 (λ e => hb (by rw [PM.B, e]))
 rw [PM.C e] at hb hQ
 obtain ⟨p1, p2⟩ := rC
 induction p2 using VR.cs with
 | int k t =>
  dsimp only at hb hQ
  obtain ⟨h1, h2⟩ := Zn hb
  rw [h2] at hb hQ
  simp only [Bool.and_eq_true] at h1
  have k0 := of_decide_eq_true h1.1.1
  have k1 := of_decide_eq_true h1.1.2
  have e1 := hv.length
  refine ⟨l, vs.toArray, some k, none, rfl, hl.isList, by rw [size_toArray, e1]; exact Zz h1.2, .int _ _, .none, ?_⟩
  obtain ⟨R3, xD⟩ := RC.push { cls := .type "slice", data := .fields #[.int k t, .none, .none] } (tk := sC.toks)
  have := Zir (vs := vs.drop k.toNat) (tk := sC.toks) (Q := Q) mu_ R3 ((x.trans x2).trans xD) ((hv.ext RC xD).drop k.toNat) hb λ v y φ' μ' s' e R' x' r => hQ v y φ' μ' s' e R' x' r
  have hk : slicePick vs.toArray (some k) none none = (vs.drop k.toNat).toArray := by
   have := slicePick_from vs.toArray k.toNat (by simp; omega)
   rw [show ((k.toNat : Nat) : Int) = k by omega] at this
   simpa using this
  rw [hk]
  rw [Heap.size_push] at this
  exact this
 | _ => exact (hb rfl).elim
end

theorem Zgb (l : Addr) (vs : List Value) (n : Nat) (hn : vs.length <= 1000000) :
  Meets (Builtin.«bool.__new__» ⟨[.type "bool", .ref l], []⟩) (λ _ R s => IsL s.heap l vs.toArray n ∧ R (.ok (.ret (.bool (!vs.toArray.isEmpty)))) { s with toks := s.toks + 1 + 1 }) :=
 Meets.of_wp λ prog w A R s hs => by
  obtain ⟨hp, g, d, tk, os⟩ := s
  obtain ⟨hl, hs⟩ := hs
  have f1 := F.conv_sub_bool
  repeat (any_goals (first | assumption | (with_reducible refine wpAny_truthy_list (items := vs.toArray) (IsL.isList hl) (by simp; lia) ?_) | wp_step))
  all_goals first | exact ⟨_, rfl, hs⟩ | exact hs | skip
section
variable {c : Cx} {F : Fx}
noncomputable def pBool : List PV -> PM PV := oneM λ x => aLst x >>= λ xs => chk (lenOk xs) >>= λ _ => pure (.bool (!xs.isEmpty))
theorem Zmp : SimCall c F (.type "bool") pBool := Zas λ v x A φ μ s Q E hA R p hb hQ hE => by
 obtain ⟨a, vs, n, xs, rfl, hl, hv, e⟩ := Zc3 R p (λ e => hb (by rw [PM.B, e]))
 rw [PM.C e] at hb hQ
 obtain ⟨h1, h2⟩ := Zn hb
 rw [h2] at hQ
 have hle := Zan h1
 have e1 := hv.length
 refine call_bool_1 (Zgb a vs n (by lia)) ⟨hl, rfl, ?_⟩
 exact hQ _ _ _ _ { s with toks := s.toks + 1 + 1 } rfl (R.toks _) Ext.refl (by cases hv <;> exact .bool _)
noncomputable def eNeg (f : PM PV) : PM PV := f >>= λ x => match x with
 | .int i => pure (.int (-i))
 | _ => PM.H
theorem Zbm {e : Expr} {pos : Pos} {f : PM PV} (h : SimE c F e f) : SimE c F (.UnaryOp .USub e pos) (eNeg f) := λ A φ μ s Q E hA R p hb hQ hE => by
 rw [arm_eval_UnaryOp]
 unfold eNeg at hb hQ hE
 refine Qb (h.use hA R p hb hE λ v y φ' μ' s' eg R' x r => ?_)
 rw [eg] at hb hQ hE
 induction r using VR.cs with
 | int i t => exact Qb (wpAny_standAt (wpAny_holding (neg_int (hQ _ _ _ _ _ rfl (R'.toks _) x (.int _ _)))))
 | _ => exact (hb rfl).elim
noncomputable def orM (v : PV) (g : PM PV) : Bool -> PM PV
 | true => pure v
 | false => g
noncomputable def eOr (f g : PM PV) : PM PV := f >>= λ v => pTruth v >>= λ b => orM v g b
theorem Zo4 {pos : Pos} {e e' : Expr} {es : List Expr} {f g : PM PV} (h : SimE c F e f) (h' : SimBo c F pos .Or (evalEach (e' :: es) F.env) g) : SimBo c F pos .Or (evalEach (e :: e' :: es) F.env) (eOr f g) := λ A φ μ s Q E hA R p hb hQ hE => by
 show wpAny _ _ (eval e F.env >>= λ v => standAt pos >>= λ _ => holding [v] (truthy v) >>= λ t => match BoolOp.Or, t with
  | .And, false | .Or, true => pure v
  | _, _ => boolOp pos .Or (evalEach (e' :: es) F.env)) _ _ _
 unfold eOr at hb hQ hE
 refine Qb (h.use hA R trivial hb hE λ v y φ' μ' s' eg R' x r => ?_)
 rw [eg] at hb hQ hE
 refine Qb (wpAny_standAt (Qb (wpAny_holding (Zg3.use hA R' r hb (λ e z φ'' μ'' s'' he R'' x'' r'' => hE e z φ'' μ'' s'' he R'' (x.trans x'') (r''.le x.dom)) (λ a b φ'' μ'' s'' eg R'' x'' r'' => ?_)))))
 rw [eg] at hb hQ hE
 obtain rfl := r''
 cases a with
 | true => exact Qp (hQ _ _ _ _ _ rfl R'' (x.trans x'') (r.ext R' x''))
 | false => exact h'.fin hA R'' trivial rfl (x.trans x'') hb hQ hE
noncomputable def pExtend (o : PV) : List PV -> PM PV
 | [y] => theLst o >>= λ p => pItems y >>= λ zs => chk (lenOk (p.2 ++ zs)) >>= λ _ => putM p.1 (.lst (p.2 ++ zs)) >>= λ _ => pure .none
 | _ => PM.H
noncomputable def mExtend (fo : PM PV) (ga : PM (List PV)) : PM PV := fo >>= λ x => theLst x >>= λ _ => ga >>= pExtend x
theorem Zmq {o : Expr} {apos pos : Pos} {args : List Expr} {fo : PM PV} {ga : PM (List PV)} (hbase : attributeBase o "extend" F.env (eval o F.env) = eval o F.env) (hfew : hFew c F pos args) (hline : (apos.endLine == pos.line) = true)
  (h : SimE c F o fo) (hargs : CallArgs c F (starEach args F.env) ga) : SimE c F (.Call (.Attribute o "extend" apos) args [] pos) (mExtend fo ga) :=
 Zay hbase hfew hline PySem.F.plainAttrs_list PySem.F.slot_list_extend PySem.F.type_list_extend h Zaw hargs λ a x vs ys A φ μ s Q E hA R p hb hQ hE => by
  unfold pExtend at hb hQ
  split at hb
  ·rename_i y
   dsimp only at hQ
   obtain ⟨i, xs, et⟩ := Zaj (λ e => hb (by rw [PM.B, e]))
   obtain ⟨a', vs', n, ea, hi, hl, hvs, rfl⟩ := Zbh R p.1 et
   cases ea
   rw [PM.C et] at hb hQ
   obtain ⟨p1, p2⟩ := p
   cases p2 with
   | cons q r =>
   cases r
   obtain ⟨b, T, ws, m, zs, rfl, hT, ho, hws, _, e⟩ := Zd3 R q (λ e => hb (by rw [PM.B, e]))
   rw [PM.C e] at hb hQ
   obtain ⟨h1, h2⟩ := Zn hb
   rw [h2] at hQ
   have hle := Zan h1
   have e1 := hvs.length
   have e2 := hws.length
   rw [length_append] at hle; dsimp only at hle
   obtain ⟨R3, xD⟩ := R.relist (tk := s.toks) hi hl (g := λ xs => xs ++ ws.toArray) (ws := vs' ++ ws) (by simp) (hvs.append hws)
   have door : ¬(!vs'.toArray.isEmpty && Builtin.List.listTooLong (vs'.toArray.size + ws.toArray.size)) = true := by
    simp only [Builtin.List.listTooLong, size_toArray, e1, e2, sizeLine, Bool.and_eq_true, decide_eq_true_eq, not_and]
    intro _; lia
   have hs1 : vs'.toArray.size <= sizeLine := by rw [size_toArray, e1]; exact Nat.le_trans (by lia) (show 1000000 <= sizeLine by decide)
   have hs2 : vs'.toArray.size + ws.toArray.size <= sizeLine + 1 := by simp only [size_toArray, e1, e2]; exact Nat.le_trans (by lia) (show 1000000 <= sizeLine + 1 by decide)
   rcases hT with rfl | rfl
   ·exact call_meets PySem.F.slot_list_extend ⟨_, hl, rfl⟩ PySem.F.entry_list_extend (PySem.F.args_list_extend_2 _ _) (AutoSeq1.list_extend_list_list_0 a vs'.toArray n b ws.toArray m door hs1 hs2) ⟨hl, ho, hQ _ _ _ _ _ rfl R3 xD .none⟩
   ·exact call_meets PySem.F.slot_list_extend ⟨_, hl, rfl⟩ PySem.F.entry_list_extend (PySem.F.args_list_extend_2 _ _) (AutoSeq1.list_extend_list_tuple_0 a vs'.toArray n b ws.toArray m door hs1 hs2) ⟨hl, ho, hQ _ _ _ _ _ rfl R3 xD .none⟩
  ·exact (hb rfl).elim
end

namespace FI
theorem slot_li_ga : Slot "list_iterator" "__getattribute__" "object.__getattribute__" :=
 .of (owner := "object") (n := "__getattribute__") (by rw [typeLookup_type, builtinLookup_eq_fast]; kernel_rfl) (by decide +kernel) (by decide +kernel) (by decide +kernel)
  (by first | exact .inl (by decide +kernel) | exact .inr (by decide +kernel)) (by rw [isSubtype_type]; kernel_rfl)
theorem lk_li_next : typeLookup (.type "list_iterator") "__next__" = pure (some (.builtin "list_iterator.__next__")) := by rw [typeLookup_type, builtinLookup_eq_fast]; kernel_rfl
theorem ty_li_next : typeOf (.builtin "list_iterator.__next__") = pure (.type "wrapper_descriptor") := by show builtinType _ = _; rw [builtinType_eq_fast]; kernel_rfl
theorem slot_wd_get : Slot "wrapper_descriptor" "__get__" "wrapper_descriptor.__get__" :=
 .of (owner := "wrapper_descriptor") (n := "__get__") (by rw [typeLookup_type, builtinLookup_eq_fast]; kernel_rfl) (by decide +kernel) (by decide +kernel) (by decide +kernel)
  (by first | exact .inl (by decide +kernel) | exact .inr (by decide +kernel)) (by rw [isSubtype_type]; kernel_rfl)
theorem lk_wd_set : typeLookup (.type "wrapper_descriptor") "__set__" = pure none := by rw [typeLookup_type, builtinLookup_eq_fast]; kernel_rfl
theorem lk_wd_del : typeLookup (.type "wrapper_descriptor") "__delete__" = pure none := by rw [typeLookup_type, builtinLookup_eq_fast]; kernel_rfl
theorem entry_wd_get : entryFor table "wrapper_descriptor.__get__" = some Builtin.«wrapper_descriptor.__get__» := entryFor_of_tree (by kernel_rfl)
theorem entry_obj_ga : entryFor table "object.__getattribute__" = some Builtin.«object.__getattribute__» := entryFor_of_tree (by kernel_rfl)
theorem Zhm : ".".intercalate ("list_iterator.__next__".cutAt '.').dropLast = "list_iterator" := by decide +kernel
theorem sub_li_next : isSubtype (.type "list_iterator") (.type (".".intercalate ("list_iterator.__next__".cutAt '.').dropLast)) = pure true := by
 rw [Zhm, isSubtype_type]; kernel_rfl
end FI
section
variable {prog : Program} {w : World} {A : Around} {E : Value -> Shared -> Prop} {h : Heap} {g : Array GenState} {d : Drawn} {t : Nat} {os : OsState} {a : Addr} {o : Obj}
theorem Zo5 {R : Result -> Shared -> Prop} (hx : h.get? a = some o) (hc : o.cls = .type "list_iterator") (hq : R (.ok (.ret (.ref h.objs.size))) ⟨h.push { cls := .type "method-wrapper", data := .fields #[.builtin "list_iterator.__next__", .ref a] }, g, d, t, os⟩) :
  codeAny (model prog w) A (.call (.builtin "wrapper_descriptor.__get__") ⟨[.builtin "list_iterator.__next__", .ref a, .type "list_iterator"], []⟩) R ⟨h, g, d, t, os⟩ := by
 have hT : (⟨h, g, d, t, os⟩ : Shared).TypeIs (.ref a) "list_iterator" := ⟨_, hx, hc⟩
 have hT5 : (⟨h, g, d, t, os⟩ : Shared).TypeIs (.builtin "list_iterator.__next__") "wrapper_descriptor" := FI.ty_li_next
 have f8 := FI.sub_li_next
 refine codeAny_call_builtin FI.slot_wd_get.plain FI.entry_wd_get (FI.slot_wd_get.check _ _ _ _ _ _ _ _ hT5 (by unfold argsOk; kernel_rfl) ?_)
 repeat (any_goals (first | assumption | wp_step))
theorem Zmr {vs : Array Value} {tk : Tok} {Q : Fin -> Shared -> Prop} (hx : h.get? a = some { cls := .type "list_iterator", data := .fields vs }) (hq : Q (.done (.ret (.ref h.objs.size))) ⟨h.push { cls := .type "method-wrapper", data := .fields #[.builtin "list_iterator.__next__", .ref a] }, g, d, t, os⟩) :
  wpAny (model prog w) A (Builtin.«object.__getattribute__» ⟨[.ref a, .str "__next__" tk], []⟩) Q E ⟨h, g, d, t, os⟩ := by
 have hT : (⟨h, g, d, t, os⟩ : Shared).TypeIs (.ref a) "list_iterator" := ⟨_, hx, rfl⟩
 have hT5 : (⟨h, g, d, t, os⟩ : Shared).TypeIs (.builtin "list_iterator.__next__") "wrapper_descriptor" := FI.ty_li_next
 have f4 := FI.lk_li_next
 have f5 := FI.ty_li_next
 have f6 := FI.slot_wd_get.lookup
 have f7 := FI.lk_wd_set
 have f9 := FI.lk_wd_del
 repeat (any_goals (first | assumption | wp_step))
 refine Zo5 hx rfl ?_
 repeat (any_goals (first | assumption | wp_step))
theorem Zn4 {vs : Array Value} {Q : Value -> Shared -> Prop} (hx : h.get? a = some { cls := .type "list_iterator", data := .fields vs }) (hq : Q (.ref h.objs.size) ⟨h.push { cls := .type "method-wrapper", data := .fields #[.builtin "list_iterator.__next__", .ref a] }, g, d, t + 1, os⟩) :
  wpAny (model prog w) A (getAttr (.ref a) "__next__" true) Q E ⟨h, g, d, t, os⟩ := by
 have hT : ∀ t, (⟨h, g, d, t, os⟩ : Shared).TypeIs (.ref a) "list_iterator" := λ t => ⟨_, hx, rfl⟩
 have f2 := FI.slot_li_ga.lookup
 have f3 := FI.slot_li_ga.bind (.ref a)
 unfold getAttr getAttrBy
 repeat (any_goals (first | assumption | exact hT _ | wp_step))
 refine codeAny_call_builtin FI.slot_li_ga.plain FI.entry_obj_ga (FI.slot_li_ga.check _ _ _ _ _ _ _ _ (hT _) (by unfold argsOk; kernel_rfl) ?_)
 refine Zmr hx ?_
 repeat (any_goals (first | assumption | wp_step))
end
namespace FI
theorem kind_iter : builtinKind "iter" = none := by decide +kernel
theorem plain_iter : plainId "iter" = true := by decide +kernel
theorem entry_iter : entryFor table "iter" = some Builtin.«iter» := entryFor_of_fast (by kernel_rfl)
theorem args_iter1 (a : Value) : argsOk "iter" ⟨[a], []⟩ := by unfold argsOk; kernel_rfl
theorem check_li_next (a : Value) : checkBoundCall "list_iterator.__next__" ⟨[a], []⟩ = pure () := by first | kernel_rfl | rfl
end FI
section
variable {c : Cx} {F : Fx}
noncomputable def pIter : List PV -> PM PV := oneM λ x => theLst x >>= λ p => allocM (.itr p.1 0) >>= λ i => pure (.obj i)
theorem Zo6 : SimCall c F (.builtin "iter") pIter := Zas λ v x A φ μ s Q E hA R p hb hQ hE => by
 obtain ⟨i, xs, et⟩ := Zaj (λ e => hb (by rw [PM.B, e]))
 obtain ⟨a, vs', n, rfl, hi, hl, hvs, rfl⟩ := Zbh R p et
 rw [PM.C et] at hQ
 refine Calls.call_function_entry FI.kind_iter FI.plain_iter FI.entry_iter (FI.args_iter1 _) ?_
 unfold Builtin.«iter»
 refine Qb (m := someArgs "iter" 1 2 _) (Qp ?_)
 refine Qb (wpAny_pyIter_list hl.isList ?_)
 refine Qp ?_
 obtain ⟨RB, xB⟩ := R.alloc (ob := { cls := .type "list_iterator", data := .fields #[.ref a, .int 0 0] }) (o := .itr i 0) (tk := s.toks) rfl λ hg _ _ => .itr (getElem?_app hi) hg
 exact ⟨_, rfl, hQ _ _ _ _ _ rfl RB xB (.obj (by rw [<- R.len]; simp))⟩
noncomputable def eNxt (f : PM PV) : PM PV := f >>= λ x => match x with
 | .obj i => λ μ => match μ.hp[i]? with
  | some (.itr _ _) => .ok (.nxt i) μ
  | _ => .bad
 | _ => PM.H
theorem Zo7 {value : Expr} {pos : Pos} {f : PM PV} (h : SimE c F value f) (hbase : attributeBase value "__next__" F.env (eval value F.env) = eval value F.env) : SimE c F (.Attribute value "__next__" pos) (eNxt f) := λ A φ μ s Q E hA R p hb hQ hE => by
 rw [arm_eval_Attribute, hbase]
 unfold eNxt at hb hQ hE
 refine Qb (h.use hA R p hb hE λ v y φ' μ' s' eg R' x r => ?_)
 rw [eg] at hb hQ hE
 induction r using VR.cs with
 | @obj i a h1 =>
  dsimp only at hb hQ
  cases hi : μ'.hp[i]? with
  | none => rw [hi] at hb; exact (hb rfl).elim
  | some ob =>
   have q := R'.objs i a ob h1 hi
   induction q using OR.cs with
   | itr k1 k2 =>
    rw [hi] at hQ
    refine Qb (wpAny_standAt (Qb (wpAny_holding (Zn4 k2 ?_))))
    obtain ⟨RB, xB⟩ := R'.push { cls := .type "method-wrapper", data := .fields #[.builtin "list_iterator.__next__", .ref a] } (tk := s'.toks + 1)
    exact Qb (wpAny_letTemporaryGo (Qp (hQ _ _ _ _ _ rfl RB (x.trans xB) (.nxt h1 (Heap.get?_push_size _ rfl) λ hm => absurd (R'.phiLt hm) (Nat.lt_irrefl _)))))
   | _ => rw [hi] at hb; exact (hb rfl).elim
 | _ => exact (hb rfl).elim
noncomputable def pNext (x : PV) : List PV -> PM PV
 | [] => (match x with
  | .nxt i => λ μ => match μ.hp[i]? with
   | some (.itr l k) => (match μ.hp[l]? with
    | some (.lst xs) => (match xs[k]? with
     | some y => .ok y ⟨μ.fr, μ.hp.set i (.itr l (k + 1))⟩
     | none => .exc (.type "StopIteration") ⟨μ.fr, μ.hp.set i .dead⟩)
    | _ => .bad)
   | _ => .bad
  | _ => PM.H)
 | _ => PM.H
theorem Zo8 (hh : F.hd = true) (f : Value) (x : PV) (vs : List Value) (ys : List PV) : Sim c F (λ φ h => VR φ h f x ∧ VRs φ h vs ys) (λ φ h v x => VR φ h v x) (call f vs) (pNext x ys) := λ A φ μ s Q E hA R p hb hQ hE => by
 unfold pNext at hb hQ hE
 obtain ⟨p1, p2⟩ := p
 induction p2 using VRs.cs with
 | cons => exact (hb rfl).elim
 | nil =>
 induction p1 using VR.cs with
 | @nxt i a m h1 h2 h3 =>
  dsimp only at hb hQ hE
  cases hi : μ.hp[i]? with
  | none => rw [hi] at hb; exact (hb rfl).elim
  | some ob =>
   have q := R.objs i a ob h1 hi
   induction q using OR.cs with
   | @itr l k la k1 k2 =>
    rw [hi] at hb hQ hE
    dsimp only at hb hQ hE
    cases hl : μ.hp[l]? with
    | none => rw [hl] at hb; exact (hb rfl).elim
    | some ol =>
     have q := R.objs l la ol k1 hl
     cases q with
     | @lst vs n xs l1 l2 =>
      rw [hl] at hb hQ hE
      dsimp only at hb hQ hE
      refine wpAny_call (codeAny_of_tree ?_)
      show wpAny _ A.in1 (callAny (.ref m) ⟨[], []⟩) _ _ s
      unfold callAny
      dsimp only
      refine Qb (wpAny_load h2 ?_)
      simp only [show (Value.type "method-wrapper" == Value.type "method" || Value.type "method-wrapper" == Value.type "builtin_function_or_method" || Value.type "method-wrapper" == Value.type "method-wrapper") = true by decide, if_true]
      refine wpAny_ite ?_
      rw [if_pos (by decide)]
      refine Qb (wpAny_of_eq (a := ()) (FI.check_li_next _) ?_)
      refine Qb (Qp (Qp ⟨Code.quiet_builtin _ (by decide +kernel), codeAny_builtin entry_listiter_next ?_⟩))
      show wpAny _ _ (field (.ref a) 0 >>= _) _ _ s
      refine Qb (wpAny_field k2 rfl (x := .ref la) rfl ?_)
      show wpAny _ _ (if (Value.ref la == Value.none) = true then _ else _) _ _ s
      rw [if_neg (show ¬ ((Value.ref la == Value.none) = true) from Bool.false_ne_true)]
      show wpAny _ _ (field (.ref a) 1 >>= _) _ _ s
      refine Qb (wpAny_field k2 rfl (x := .int k 0) rfl ?_)
      show wpAny _ _ (seqItems? (.ref la) >>= _) _ _ s
      refine Qb (wpAny_seqItems l1 rfl ?_)
      cases hx : xs[k]? with
      | some y =>
       rw [hx] at hQ
       obtain ⟨w, hw, hr⟩ := l2.get hx
       simp only [Int.toNat_natCast, show vs.toArray[k]? = some w by simpa using hw]
       refine Qb (wpAny_setField k2 rfl (by simp) (Qp ?_))
       obtain ⟨RB, xB⟩ := R.upd (tk := s.toks) (o := .itr l (k + 1)) h1 (Heap.SameBut.update s.heap a (Obj.mapFields (·.set! 1 (rawInt ((k : Int) + 1))))) λ hm => .itr k1 (Heap.get?_update_self _ k2 rfl)
       exact hQ _ _ _ _ _ rfl RB xB (hr.ext R xB)
      | none =>
       rw [hx] at hE
       have hn : vs.toArray[k]? = none := by
        have := l2.length
        rw [List.getElem?_eq_none_iff] at hx
        simp; lia
       simp only [Int.toNat_natCast, hn]
       refine Qb (wpAny_rule (Qb (wpAny_setField k2 rfl (by simp) ?_)))
       obtain ⟨RB, xB⟩ := R.upd (tk := s.toks) (o := .dead) h1 (Heap.SameBut.update s.heap a (Obj.mapFields (·.set! 0 .none))) λ hm => .dead (Heap.get?_update_self _ k2 rfl)
       obtain ⟨RC, x2⟩ := RB.push { cls := .type "tuple", data := .seq #[] } (tk := s.toks)
       show wpAny _ _ (newExc (.type "StopIteration") [] >>= _) _ _ _
       refine Qb ?_
       simp only [newExc, newTuple]
       refine Qb (wpAny_newObj_type ?_ (by size_fits))
       refine Qb (m := firstArgMember _ _) (wpAny_of_eq (a := Value.none) (by first | rfl | (simp only [firstArgMember]; rfl)) ?_)
       refine wpAny_newObj_type ?_ (by size_fits)
       unfold raiseNew
       refine Qb (wpAny_handled ?_)
       rw [show (A.under (Code.builtin "list_iterator.__next__" { pos := [#[Value.builtin "list_iterator.__next__", Value.ref a][1]] })).handled = none from hA.handled hh]
       refine wpAny_throw ?_
       have e1 : (λ x : Array Value => x.setIfInBounds 0 Value.none) = (λ x : Array Value => x.set! 0 Value.none) := rfl
       rw [e1]
       refine hE _ _ φ _ _ rfl (RC.push _ (tk := s.toks)).1 (xB.trans (x2.trans (RC.push _ (tk := s.toks)).2)) ?_
       refine Zii RC (xB.trans x2) (Heap.StaysIn.fresh (λ _ _ e => e)) (λ a o e => Heap.get?_push_of_some _ e) (Heap.get?_push_size _ rfl) rfl rfl (by simp; lia) rfl (by intro n hn; simp at hn; rcases hn with rfl | rfl | rfl | rfl | rfl <;> decide)
     | _ => rw [hl] at hb; exact (hb rfl).elim
   | _ => rw [hi] at hb; exact (hb rfl).elim
 | _ => exact (hb rfl).elim
end

section
variable {c : Cx} {F : Fx}
noncomputable def eNextCall (f : PM PV) : PM PV := f >>= λ x => pNext x []
theorem Zhn {func : Expr} {pos : Pos} {f : PM PV} (hh : F.hd = true) (h : SimE c F func f) (he : eval (.Call func [] [] pos) F.env = (eval func F.env >>= λ g => callWith pos g [] [] [])) : SimE c F (.Call func [] [] pos) (eNextCall f) := λ A φ μ s Q E hA R p hb hQ hE => by
 rw [he]
 unfold eNextCall at hb hQ hE
 refine Qb (h.use hA R p hb hE λ v y φ' μ' s' eg R' x r => ?_)
 rw [eg] at hb hQ hE
 cases y with
 | nxt i =>
  have := Zax (c := c) (F := F) (pos := pos) (f := v) (first := []) (ts := []) (g := pure []) (k := pNext (.nxt i)) (P := λ φ h => VR φ h v (.nxt i)) .nil (λ _ _ _ _ _ R e r => r.ext R e) (λ φ h X r => by
    cases r with
    | nxt h1 h2 h3 => exact ⟨.machine, .inr (.inl rfl), (Looks.ld (part := none) h2).andThen .now⟩) (λ vs ys => Zo8 hh v (.nxt i) vs ys)
  exact this.fin hA R' r rfl x hb hQ hE
 | _ => exact (hb rfl).elim
end

structure FxG (F : Fx) (names : List (Str × NameKind)) (vs : List (Str × Nat)) (n lv : Nat) : Prop where
 kind : F.env.scope.kind = .function
 glob : F.env.globals = mainGlobals
 bui : F.env.builtins = builtinsNs
 lv : F.lv = lv
 names : F.env.scope.names = names
 flen : F.locs.length = n
 loc : F.env.locals ∈ F.nss
 var : ∀ x k, vs.lookup x = some k -> VarAt F x k
noncomputable def numbered {α : Type} (n : Nat) : List (Str × α) -> List (Str × Nat)
 | [] => []
 | (x, _) :: r => (x, n) :: numbered (n + 1) r
theorem Zms {α : Type} {n : Nat} {e : Str × α} {r : List (Str × α)} : numbered n (e :: r) = (e.1, n) :: numbered (n + 1) r := rfl
theorem Zd6 {α : Type} {x : Str} {k : Nat} : ∀ {l : List (Str × α)} {n : Nat}, (numbered n l).lookup x = some k -> ∃ a, l[k - n]? = some (x, a) ∧ n <= k
 | [], n, h => by cases h
 | (y, a) :: r, n, h => by
  rw [Zms, lookup_cons] at h
  cases q : x == y with
  | true =>
   rw [q] at h
   cases h
   rw [eq_of_beq q]
   exact ⟨a, by simp, Qr⟩
  | false =>
   rw [q] at h
   obtain ⟨b, h1, h2⟩ := Zd6 h
   refine ⟨b, ?_, by lia⟩
   rw [show k - n = (k - (n + 1)) + 1 by lia]
   exact h1
theorem Zaz {α : Type} {x : Str} {a : α} : ∀ {l : List (Str × α)}, (l.map (·.1)).Nodup -> (x, a) ∈ l -> l.lookup x = some a
 | [], _, h => nomatch h
 | (y, b) :: r, hn, h => by
  rw [map_cons, nodup_cons] at hn
  rw [lookup_cons]
  rcases Qmc h with e | h'
  ·cases e; simp
  ·have : (x == y) = false := by
    rw [beq_eq_false_iff_ne]
    intro e
    subst e
    exact hn.1 (mem_map_of_mem (f := (·.1)) h')
   rw [this]
   exact Zaz hn.2 h'
noncomputable def fnVs (names : List (Str × NameKind)) : List (Str × Nat) := numbered 0 (ownNames names)
theorem Zis {names : List (Str × NameKind)} (hn : (names.map (·.1)).Nodup) {x : Str} {k n L c₀ : Nat} {acc : List (Str × Addr)} (h : (numbered n (ownNames names)).lookup x = some k) :
  n <= k ∧ ((names.lookup x = some .local ∧ (locsOf L (cellsFrom c₀ names acc) names)[k - n]? = some (.loc L x)) ∨
   (names.lookup x = some .cell ∧ ∃ a, (cellsFrom c₀ names acc).lookup x = some a ∧ (locsOf L (cellsFrom c₀ names acc) names)[k - n]? = some (.cell a))) := by
 obtain ⟨kd, h1, h2⟩ := Zd6 h
 refine ⟨h2, ?_⟩
 obtain ⟨hm, hk⟩ := Zap (mem_of_getElem? h1)
 have hl := Zaz hn hm
 have e : (locsOf L (cellsFrom c₀ names acc) names)[k - n]? = some (if kd == .local then .loc L x else .cell (((cellsFrom c₀ names acc).lookup x).getD 0)) := by
  unfold locsOf
  rw [List.getElem?_map, h1]; rfl
 rcases hk with hk | hk
 ·have hk : kd = .local := hk
  subst hk
  exact .inl ⟨hl, e⟩
 ·have hk : kd = .cell := hk
  subst hk
  obtain ⟨a, ha⟩ := Option.isSome_iff_exists.mp (Zaq x names c₀ acc (.inl hm))
  refine .inr ⟨hl, a, ha, e.trans ?_⟩
  rw [ha]; rfl
theorem FxG.fn {fd : FuncData} {L a : Addr} {outer : List Env} {lv : Nat} {sc : Scope} (hs : fd.scope = sc) (hk : sc.kind = .function) (hg : fd.globals = mainGlobals) (hb : fd.builtins = builtinsNs) (hn : (sc.names.map (·.1)).Nodup) :
  FxG (fxOf fd L a outer lv) sc.names (fnVs sc.names) (ownNames sc.names).length lv := by
 subst hs
 refine ⟨hk, hg, hb, rfl, rfl, ?_, mem_singleton.mpr rfl, λ x k h => ?_⟩
 ·show (locsOf L _ fd.scope.names).length = _
  unfold locsOf; simp
 ·rcases (Zis (L := L) (c₀ := L + 1) (acc := []) hn h).2 with ⟨h1, h2⟩ | ⟨h1, a, h2, h3⟩
  ·exact .loc h1 h2
  ·exact .cell h1 h2 h3
noncomputable def cloOf (scope : Scope) (env : Env) : List (Str × Addr) := scope.names.foldl (λ cs x => if x.2 == .free then (x.1, (env.cells.lookup x.1).getD 0) :: cs else cs) []
theorem Zdc {env : Env} : ∀ (l : List (Str × NameKind)) (cs : List (Str × Addr)), (∀ x ∈ l, x.2 = .free -> (env.cells.lookup x.1).isSome = true) ->
  (forIn l cs (λ x (r : List (Str × Addr)) => (if x.2 == NameKind.free then do let a <- cellOf env x.1; pure (ForInStep.yield ((x.1, a) :: r)) else pure (ForInStep.yield r) : Sem (ForInStep (List (Str × Addr)))))) =
   pure (l.foldl (λ cs x => if x.2 == .free then (x.1, (env.cells.lookup x.1).getD 0) :: cs else cs) cs)
 | [], cs, _ => rfl
 | x :: l, cs, h => by
  rw [forIn_cons, foldl_cons]
  cases hk : x.2 == NameKind.free with
  | false =>
   simp only [Bool.false_eq_true, if_false]
   rw [pure_bind]
   exact Zdc l cs λ y hy => h y (mem_cons_of_mem _ hy)
  | true =>
   obtain ⟨a, ha⟩ := Option.isSome_iff_exists.mp (h x mem_cons_self (eq_of_beq hk))
   simp only [if_true]
   have : cellOf env x.1 = pure a := by unfold cellOf; rw [ha]
   rw [this, pure_bind, pure_bind, ha]
   exact Zdc l _ λ y hy => h y (mem_cons_of_mem _ hy)
theorem Zmt {scope : Scope} {env : Env} (h : ∀ x ∈ scope.names, x.2 = .free -> (env.cells.lookup x.1).isSome = true) : closureFor scope env = pure (cloOf scope env) := by
 unfold closureFor cloOf
 have := Zdc scope.names [] h
 simp only [bind_pure] at this ⊢
 refine Eq.trans ?_ this
 rfl
noncomputable def freeOk (names : List (Str × NameKind)) (vs : List (Str × Nat)) (scope : Scope) : Bool :=
 scope.names.all λ x => x.2 != .free || ((vs.lookup x.1).isSome && names.lookup x.1 != some .local)
noncomputable def compNames (names : List (Str × NameKind)) (scope : Scope) : List (Str × NameKind) :=
 scope.names.map λ x => if x.2 == .free && names.lookup x.1 == some .cell then (x.1, .cell) else x
noncomputable def freeNames (scope : Scope) : List (Str × NameKind) := scope.names.filter λ x => x.2 == .free
noncomputable def compVs (n : Nat) (vs : List (Str × Nat)) (scope : Scope) : List (Str × Nat) :=
 numbered n (ownNames scope.names) ++ (freeNames scope).filterMap λ x => (vs.lookup x.1).map λ k => (x.1, k)
theorem Zgc {α : Type} {x : Str} {a : α} : ∀ {l r : List (Str × α)}, (l ++ r).lookup x = some a -> l.lookup x = some a ∨ (l.lookup x = none ∧ r.lookup x = some a)
 | [], r, h => .inr ⟨rfl, h⟩
 | (y, b) :: l, r, h => by
  rw [List.cons_append, lookup_cons] at h
  rw [lookup_cons]
  cases q : x == y with
  | true => rw [q] at h; exact .inl h
  | false => rw [q] at h; exact Zgc h
theorem Zit {env : Env} {x : Str} {a : Addr} (ha : env.cells.lookup x = some a) : ∀ (l : List (Str × NameKind)) (cs : List (Str × Addr)), ((x, NameKind.free) ∈ l ∨ cs.lookup x = some a) ->
  (l.foldl (λ cs x => if x.2 == .free then (x.1, (env.cells.lookup x.1).getD 0) :: cs else cs) cs).lookup x = some a
 | [], cs, h => h.resolve_left (λ h => nomatch h)
 | y :: l, cs, h => by
  rw [foldl_cons]
  refine Zit ha l _ ?_
  rcases h with h | h
  ·rcases Qmc h with e | h
   ·right
    subst e
    simp [ha]
   ·exact .inl h
  ·right
   split
   ·rw [lookup_cons]
    cases q : x == y.1 with
    | true => rw [<- eq_of_beq q, ha]; rfl
    | false => exact h
   ·exact h
theorem Zd7 (x : Str) {a : Addr} : ∀ (names : List (Str × NameKind)) (n : Nat) (acc : List (Str × Addr)), (x, NameKind.cell) ∉ names -> acc.lookup x = some a -> (cellsFrom n names acc).lookup x = some a
 | [], n, acc, _, h => h
 | (y, k) :: r, n, acc, hn, h => by
  unfold cellsFrom
  have hr : (x, NameKind.cell) ∉ r := λ h => hn (mem_cons_of_mem _ h)
  split
  ·rename_i hk
   have hk := eq_of_beq hk
   refine Zd7 x r _ _ hr ?_
   rw [lookup_cons]
   have : (x == y) = false := by
    rw [beq_eq_false_iff_ne]
    intro e
    exact hn (by rw [e, <- hk]; exact mem_cons_self)
   rw [this]; exact h
  ·exact Zd7 x r _ _ hr h
theorem Zd8 (x : Str) : ∀ (names : List (Str × NameKind)) (n : Nat) (acc acc' : List (Str × Addr)), ((x, NameKind.cell) ∈ names ∨ acc.lookup x = acc'.lookup x) -> (cellsFrom n names acc).lookup x = (cellsFrom n names acc').lookup x
 | [], n, acc, acc', h => h.resolve_left (λ h => nomatch h)
 | (y, k) :: r, n, acc, acc', h => by
  unfold cellsFrom
  split
  ·rename_i hk
   refine Zd8 x r _ _ _ ?_
   rcases h with h | h
   ·rcases Qmc h with e | h
    ·cases e; right; simp
    ·exact .inl h
   ·right
    rw [lookup_cons, lookup_cons, h]
  ·rename_i hk
   refine Zd8 x r _ _ _ ?_
   rcases h with h | h
   ·rcases Qmc h with e | h
    ·cases e; exact absurd rfl hk
    ·exact .inl h
   ·exact .inr h
theorem Ziu {env : Env} {names : List (Str × NameKind)} {scope : Scope} (hk : env.scope.kind = .function) (hn : env.scope.names = names) : (scope.names.map λ (n, k) => if ownCell env n k then (n, NameKind.cell) else (n, k)) = compNames names scope := by
 unfold compNames ownCell
 refine map_congr_left λ x _ => ?_
 obtain ⟨n, k⟩ := x
 dsimp only
 rw [hk, show env.kindOf n = names.lookup n by unfold Env.kindOf; rw [hn]]
 simp
theorem Zft {names : List (Str × NameKind)} {scope : Scope} {x : Str} {k : NameKind} (hn : (scope.names.map (·.1)).Nodup) (h : (x, k) ∈ scope.names) :
  (compNames names scope).lookup x = some (if k == .free && names.lookup x == some .cell then .cell else k) := by
 refine Zaz ?_ ?_
 ·unfold compNames
  rw [map_map]
  have : ((λ x => x.1) ∘ λ x : Str × NameKind => if x.2 == .free && names.lookup x.1 == some .cell then (x.1, NameKind.cell) else x) = (·.1) := by
   funext x; dsimp only [Function.comp]; split <;> rfl
  rw [this]; exact hn
 ·unfold compNames
  refine mem_map.mpr ⟨(x, k), h, ?_⟩
  dsimp only
  split <;> rfl
theorem FxG.cells {F : Fx} {names : List (Str × NameKind)} {vs : List (Str × Nat)} {n lv : Nat} (G : FxG F names vs n lv) {x : Str} (h1 : (vs.lookup x).isSome = true) (h2 : names.lookup x ≠ some .local) :
  ∃ k a, vs.lookup x = some k ∧ F.env.cells.lookup x = some a ∧ F.locs[k]? = some (.cell a) ∧ (names.lookup x = some .cell ∨ names.lookup x = some .free) := by
 obtain ⟨k, hk⟩ := Option.isSome_iff_exists.mp h1
 have e : F.env.kindOf x = names.lookup x := by unfold Env.kindOf; rw [G.names]
 cases G.var x k hk with
 | loc h _ => rw [e] at h; exact absurd h h2
 | cell h q r => rw [e] at h; exact ⟨k, _, hk, q, r, .inl h⟩
 | free h q r => rw [e] at h; exact ⟨k, _, hk, q, r, .inr h⟩
theorem FxG.closure {F : Fx} {names : List (Str × NameKind)} {vs : List (Str × Nat)} {n lv : Nat} (G : FxG F names vs n lv) {scope : Scope} (h : freeOk names vs scope = true) : closureFor scope F.env = pure (cloOf scope F.env) := by
 refine Zmt λ x hx hf => ?_
 unfold freeOk at h
 have := all_eq_true.mp h x hx
 rw [hf, Bool.or_eq_true, Bool.and_eq_true] at this
 rcases this with this | this
 ·cases this
 obtain ⟨k, a, _, q, _⟩ := G.cells this.1 (bne_iff_ne.mp this.2)
 rw [q]; rfl
theorem FxG.comp {F : Fx} {names : List (Str × NameKind)} {vs : List (Str × Nat)} {n lv : Nat} (G : FxG F names vs n lv) {scope : Scope} (hk : scope.kind = .function) (hn : (scope.names.map (·.1)).Nodup) (hf : freeOk names vs scope = true) (Lc : Addr) :
  FxG (compFx F scope Lc (cloOf scope F.env)) (compNames names scope) (compVs n vs scope) (n + (ownNames scope.names).length) lv := by
 have hnames : (compFx F scope Lc (cloOf scope F.env)).env.scope.names = compNames names scope := Ziu G.kind G.names
 refine ⟨hk, G.glob, G.bui, G.lv, hnames, ?_, mem_cons_self, λ x k h => ?_⟩
 ·show (F.locs ++ locsOf Lc (newCells Lc scope) scope.names).length = _
  rw [length_append, G.flen]
  congr 1
  unfold locsOf; simp
 ·have hko : (compFx F scope Lc (cloOf scope F.env)).env.kindOf x = (compNames names scope).lookup x := by unfold Env.kindOf; rw [hnames]
  have hlook : ∀ kd, scope.names.lookup x = some kd -> (compNames names scope).lookup x = some (if kd == .free && names.lookup x == some .cell then .cell else kd) := λ kd hkd => Zft hn (mem_of_lookup hkd)
  rcases Zgc h with h | ⟨_, h⟩
  ·obtain ⟨hle, q⟩ := Zis (L := Lc) (c₀ := Lc + 1) (acc := []) hn h
   have hat : ∀ l, (locsOf Lc (newCells Lc scope) scope.names)[k - n]? = some l -> (compFx F scope Lc (cloOf scope F.env)).locs[k]? = some l := λ l hl => by
    show (F.locs ++ locsOf Lc (newCells Lc scope) scope.names)[k]? = _
    rw [List.getElem?_append_right (by rw [G.flen]; exact hle), G.flen]
    exact hl
   rcases q with ⟨h1, h2⟩ | ⟨h1, a, h2, h3⟩
   ·exact .loc (hko.trans (hlook _ h1)) (hat _ h2)
   ·refine .cell (hko.trans (hlook _ h1)) (a := a) ?_ (hat _ h3)
    show (cellsFrom (Lc + 1) scope.names (cloOf scope F.env)).lookup x = some a
    rw [<- h2]
    exact Zd8 x scope.names (Lc + 1) (cloOf scope F.env) [] (.inl (mem_of_lookup h1))
  ·have hm := mem_of_lookup h
   obtain ⟨y, hy, e⟩ := List.mem_filterMap.mp hm
   obtain ⟨k', hk', e⟩ := Option.map_eq_some_iff.mp e
   cases e
   obtain ⟨hy1, hy2⟩ := mem_filter.mp hy
   have hy2 : y.2 = .free := by simpa using hy2
   obtain ⟨x, kd⟩ := y
   dsimp only at hy2 hk'
   subst hy2
   have hfo := all_eq_true.mp hf _ hy1
   rw [Bool.or_eq_true, Bool.and_eq_true] at hfo
   rcases hfo with hfo | hfo
   ·cases hfo
   obtain ⟨kC, a, q1, q2, q3, q4⟩ := G.cells hfo.1 (bne_iff_ne.mp hfo.2)
   rw [hk'] at q1; cases q1
   have hl := Zaz hn hy1
   have hcl : (compFx F scope Lc (cloOf scope F.env)).env.cells.lookup x = some a := by
    show (cellsFrom (Lc + 1) scope.names (cloOf scope F.env)).lookup x = some a
    refine Zd7 x scope.names _ _ (λ hc => ?_) (Zit q2 scope.names [] (.inl hy1))
    have := Zaz hn hc
    rw [hl] at this; cases this
   have hat : (compFx F scope Lc (cloOf scope F.env)).locs[k]? = some (.cell a) := getElem?_app q3
   rcases q4 with q4 | q4
   ·refine .cell ((hko.trans (hlook _ hl)).trans ?_) hcl hat
    rw [q4]; rfl
   ·refine .free ((hko.trans (hlook _ hl)).trans ?_) hcl hat
    rw [q4]; rfl

section
variable {c : Cx} {G : Fx}
end

section
variable {c : Cx} {F : Fx}
theorem Zdd {φ : List Addr} {h : Heap} {vs : List Value} {xs : List PV} (r : VRs φ h vs xs) : ∀ {is : List Int}, intsOf xs = some is -> IntsAre vs is := by
 induction r using VRs.ind with
 | nil => intro is e; cases e; exact .nil
 | cons a b ih =>
  intro is e
  obtain ⟨i, js, rfl, e', rfl⟩ := Zcw e
  obtain ⟨t, rfl⟩ := a.int_inv rfl
  exact .cons _ _ (ih e')
theorem Ziv {φ : List Addr} {h : Heap} {vs : List Value} {is : List Int} (r : IntsAre vs is) : VRs φ h vs (is.map .int) := by
 induction r with
 | nil => exact .nil
 | cons n t _ ih => exact .cons (.int n t) ih
end

noncomputable def stAt (l : List Stmt) (i : Nat) : Stmt := l.getD i (.Pass ⟨0, 0, 0, 0⟩)
noncomputable def partsSt : Stmt -> List Stmt × Scope × Arguments
 | .FunctionDef _ a b _ _ _ s _ _ _ => (b, s, a)
 | .ClassDef _ _ _ b _ _ _ _ _ _ _ => (b, default, default)
 | _ => ([], default, default)
noncomputable def bodySt (st : Stmt) : List Stmt := (partsSt st).1
noncomputable def scopeSt (st : Stmt) : Scope := (partsSt st).2.1
noncomputable def paramsSt (st : Stmt) : Arguments := (partsSt st).2.2
structure FnOk (c : Cx) (f : Addr) (st : Stmt) (dflt : FuncData -> Prop) : Prop where
 ok : ∃ fd, FnAt c f fd (bodySt st) ∧ fd.scope = scopeSt st ∧ fd.params = paramsSt st ∧ fd.globals = mainGlobals ∧ fd.builtins = builtinsNs ∧ dflt fd
def CallOk (c : Cx) (f : Addr) (lv : Nat) (k : List PV -> PM PV) : Prop :=
 ∀ (F : Fx) (vs : List Value) (xs : List PV) (A : Around) (φ : List Addr) (μ : St) (s : Shared) (R : Result -> Shared -> Prop), lv + 1 <= F.lv -> F.hd = true -> ACtx F A -> Rep c F φ μ s -> VRs φ s.heap vs xs -> k xs μ ≠ .bad ->
  (∀ v y φ' μ' s', k xs μ = .ok y μ' -> Rep c F φ' μ' s' -> Ext F.nss F.cls φ s.heap φ' s'.heap -> VR φ' s'.heap v y -> R (.ok (.ret v)) s') ->
  (∀ e x φ' μ' s', k xs μ = .exc x μ' -> Rep c F φ' μ' s' -> Ext F.nss F.cls φ s.heap φ' s'.heap -> ExcR c (dom s.heap) φ' s'.heap e x -> R (.error e) s') ->
  codeAny (model c.prog c.w) A (.call (.ref f) ⟨vs, []⟩) R s
section
variable {c : Cx} {F : Fx} {names : List (Str × NameKind)} {vs : List (Str × Nat)} {n lv : Nat}
theorem CallOk.call {f : Addr} {k : List PV -> PM PV} {l : Nat} (h : CallOk c f l k) (hlv : l + 1 <= F.lv) (hh : F.hd = true) : SimCall c F (.ref f) k :=
 λ vs ys A φ μ s Q E hA R p hb hQ hE => wpAny_call (h F vs ys A φ μ s _ hlv hh hA R p hb (λ v y φ' μ' s' e R' x' r => hQ v y φ' μ' s' e R' x' r) λ e x φ' μ' s' he R' x' r => hE e x φ' μ' s' he R' x' r)
theorem CallOk.mk {f : Addr} {fd : FuncData} {body : List Stmt} {ks : List Str} {arr frm : List PV -> Option (List PV)} {l : Nat} {g : PM MF} (hf : FnAt c f fd body) (hbd : Binds c fd ks arr)
  (hfrm : ∀ xs fr, frm xs = some fr -> ∃ ys, arr xs = some ys ∧ fr = initFr fd.scope.names ks ys) (hbody : ∀ L outer, SimSS c (fxOf fd L f outer l) body g) : CallOk c f l (callF frm g) :=
 λ F vs xs A φ μ s R hlv hh hA Rp hv hb hQ hE => Zqn hf hbd hfrm hbody hlv hh hA Rp hv hb hQ hE
noncomputable def okName (vs : List (Str × Nat)) (x : Str) (k : Nat) : Bool := vs.lookup x == some k && !(x == ("__debug__" : Str)) && !(x == ("__classdict__" : Str))
theorem FxG.name (G : FxG F names vs n lv) {x : Str} {k : Nat} {pos : Pos} (h : okName vs x k = true := by kernel_rfl) : SimE c F (.Name x pos) (getVar k) := by
 unfold okName at h
 simp only [Bool.and_eq_true, Bool.not_eq_true'] at h
 exact Zov G.kind (G.var x k (eq_of_beq h.1.1)) h.1.2 h.2
theorem FxG.asg (G : FxG F names vs n lv) {x : Str} {k : Nat} {pos : Pos} (h : (vs.lookup x == some k) = true := by kernel_rfl) : SimT c F (assign (.Name x pos) F.env) (setVar k) :=
 Zkh G.kind (G.var x k (eq_of_beq h))
noncomputable def okGlob (names : List (Str × NameKind)) (x : Str) : Bool := names.lookup x == some .globalImplicit && !(x == ("__debug__" : Str)) && !(x == ("__name__" : Str))
theorem FxG.glob' (G : FxG F names vs n lv) {x : Str} (h : okGlob names x = true) : F.env.kindOf x = some .globalImplicit ∧ (x == ("__debug__" : Str)) = false ∧ x ≠ "__name__" := by
 unfold okGlob at h
 simp only [Bool.and_eq_true, Bool.not_eq_true'] at h
 refine ⟨?_, h.1.2, beq_eq_false_iff_ne.mp h.2⟩
 unfold Env.kindOf; rw [G.names]; exact eq_of_beq h.1.1
theorem FxG.global (G : FxG F names vs n lv) {x : Str} (h : okGlob names x = true) {v : Value} {pv : PV} (e : nsIn c.K mainGlobals x = some (some v)) (hv : ∀ φ h, VR φ h v pv) {pos : Pos} : SimE c F (.Name x pos) (pure pv) :=
 Zl9 G.kind G.glob (G.glob' h).1 (G.glob' h).2.1 e hv
theorem FxG.hGlob (G : FxG F names vs n lv) {x : Str} (h : okGlob names x = true) {v : Value} (e : nsIn c.K mainGlobals x = some (some v)) {np : Pos} : ∀ A φ μ s Q (E : Value -> Shared -> Prop), ACtx F A -> Rep c F φ μ s -> Q v s -> wpAny (model c.prog c.w) A (eval (.Name x np) F.env) Q E s :=
 Zkj G.kind G.glob (G.glob' h).1 (G.glob' h).2.1 e
theorem FxG.hBui (G : FxG F names vs n lv) {x : Str} (h : okGlob names x = true) {v : Value} (e : nsIn c.K mainGlobals x = some none) (hb : bootBuiltins x = some v) {np : Pos} : ∀ A φ μ s Q (E : Value -> Shared -> Prop), ACtx F A -> Rep c F φ μ s -> Q v s -> wpAny (model c.prog c.w) A (eval (.Name x np) F.env) Q E s :=
 Zo1 G.kind G.glob G.bui (G.glob' h).1 (G.glob' h).2.1 e hb (G.glob' h).2.2
theorem FxG.callB (G : FxG F names vs n lv) {np pos : Pos} {x : Str} {id : String} (e : nsIn c.K mainGlobals x = some none) (hb : bootBuiltins x = some (.builtin id)) {args : List Expr} {g : PM (List PV)} {k : List PV -> PM PV} (hargs : CallArgs c F (starEach args F.env) g) (hcall : SimCall c F (.builtin id) k) (h : okGlob names x = true := by kernel_rfl) : SimE c F (.Call (.Name x np) args [] pos) (g >>= k) :=
 Zbi (G.hBui h e hb) hargs Zie hcall
theorem FxG.callT (G : FxG F names vs n lv) {np pos : Pos} {x : Str} {id : String} (e : nsIn c.K mainGlobals x = some none) (hb : bootBuiltins x = some (.type id)) {args : List Expr} {g : PM (List PV)} {k : List PV -> PM PV} (hargs : CallArgs c F (starEach args F.env) g) (hcall : SimCall c F (.type id) k) (h : okGlob names x = true := by kernel_rfl) : SimE c F (.Call (.Name x np) args [] pos) (g >>= k) :=
 Zbi (G.hBui h e hb) hargs Zns hcall
theorem FxG.callG (G : FxG F names vs n lv) {np pos : Pos} (hh : F.hd = true) {x : Str} {f : Addr} {l : Nat} {st : Stmt} {D : FuncData -> Prop} (h : okGlob names x = true) (e : nsIn c.K mainGlobals x = some (some (.ref f))) (hf : FnOk c f st D) {args : List Expr} {g : PM (List PV)} {k : List PV -> PM PV} (hargs : CallArgs c F (starEach args F.env) g) (hcall : CallOk c f l k) (hl : l + 1 <= lv) : SimE c F (.Call (.Name x np) args [] pos) (g >>= k) := by
 obtain ⟨fd, hat, _⟩ := hf.ok
 exact Zbi (G.hGlob h e) hargs (Zk9 hat) (hcall.call (by rw [G.lv]; exact hl) hh)
theorem Zho {e : Expr} {pos : Pos} {f : PM PV} (h : SimE c F e f) : SimE c F (.JoinedStr [e] pos) f := h
noncomputable def swapB (names : List (Str × NameKind)) (t : Str) (tline vline : Nat) (scope : Scope) : Bool := names.lookup t == some .local && tline == vline && !(scope.names.any λ (n, k) => n == t && (k == .local || k == .cell))
theorem FxG.swap (G : FxG F names vs n lv) {t : Str} {tp cpos : Pos} {elt : Expr} {gens : List Comprehension} {scope : Scope} {line : Nat} : swapsWithSole [.Name t tp] (.ListComp elt gens scope cpos) line F.env = pure (swapB names t tp.line cpos.line scope) := by
 show (pure _ : Sem Bool) = _
 have e1 : F.env.blockKind = .function := by
  unfold Env.blockKind; rw [G.kind]; rfl
 have e2 : F.env.kindOf t = names.lookup t := by unfold Env.kindOf; rw [G.names]
 unfold swapB
 rw [e1, e2]
 rfl
theorem FxG.quiet (G : FxG F names vs n lv) : interactive F.env = false := by
 unfold interactive; rw [G.kind]; rfl
end

set_option genInjectivity false in
structure Ad where
 NI : Addr
 CE : Addr
 TS : Addr
noncomputable def argC (f : PM PV) (g : PM (List PV)) : PM (List PV) := f >>= λ x => g >>= λ xs => pure (x :: xs)
noncomputable def argS (f : PM PV) : PM (List PV) := f >>= λ x => starItems x
noncomputable def buiNames : List Str := ["len", "range", "sum", "any", "all", "sorted", "list", "tuple", "set", "bool", "iter", "max", "min", "isinstance", "ValueError", "StopIteration"]
theorem Zao : bootBuiltins "len" = some (.builtin "len") := by decide +kernel
theorem Za3 : bootBuiltins "range" = some (.type "range") := by decide +kernel
theorem Zo9 : bootBuiltins "sum" = some (.builtin "sum") := by decide +kernel
theorem Zpa : bootBuiltins "all" = some (.builtin "all") := by decide +kernel
theorem Zfc : bootBuiltins "sorted" = some (.builtin "sorted") := by decide +kernel
theorem Zn5 : bootBuiltins "list" = some (.type "list") := by decide +kernel
theorem Zmu : bootBuiltins "tuple" = some (.type "tuple") := by decide +kernel
theorem Zpb : bootBuiltins "set" = some (.type "set") := by decide +kernel
theorem Zn6 : bootBuiltins "bool" = some (.type "bool") := by decide +kernel
theorem Zn7 : bootBuiltins "iter" = some (.builtin "iter") := by decide +kernel
theorem Zd9 : bootBuiltins "StopIteration" = some (.type "StopIteration") := by decide +kernel
noncomputable def isCE (d : Ad) (x : Value) : Option Bool := match x with
 | .ref a => if a = d.CE then some true else none
 | .type n => if n = "ValueError" ∨ n = "StopIteration" then some false else none
 | _ => none
noncomputable def isStopIteration (d : Ad) (x : Value) : Option Bool := match x with
 | .type n => if n = "StopIteration" then some true else if n = "ValueError" then some false else none
 | _ => none
section
variable {c : Cx} {F : Fx} {names : List (Str × NameKind)} {vs : List (Str × Nat)} {n lv : Nat}
theorem FxG.globI (G : FxG F names vs n lv) {x : Str} (h : okGlob names x = true) {i : Int} (e : ∃ t, nsIn c.K mainGlobals x = some (some (.int i t))) {pos : Pos} : SimE c F (.Name x pos) (pure (.int i)) := by
 obtain ⟨t, e⟩ := e
 exact G.global h e λ _ _ => .int _ _
theorem Za8 {C : Addr} {name : Str} {k : Nat} (hC : SlotName c C name k) {o : Expr} {pos : Pos} {f : PM PV} (hf : SimE c F o f) (he : attributeBase o name F.env (eval o F.env) = eval o F.env) : SimE c F (.Attribute o name pos) (eSlot C k f) := λ A φ μ s Q E hA R p hb hQ hE => by
 rw [arm_eval_Attribute, he]
 unfold eSlot at hb hQ hE
 refine Qb (hf.use hA R p hb hE λ v y φ' μ' s' eg R' x r => ?_)
 rw [eg] at hb hQ hE
 refine Qb (wpAny_standAt (Qb (wpAny_holding ((Zdw hC).fin hA R' r rfl x hb (λ a b φ1 μ1 sB e RB xB rB => ?_) hE))))
 exact Qb (wpAny_letTemporaryGo (Qp (hQ _ _ _ _ _ e RB xB rB)))
theorem FxG.callM (G : FxG F names vs n lv) (hh : F.hd = true) {C f : Addr} {st : Stmt} {D : FuncData -> Prop} {name : Str} (hM : MethAt c C name f) (hf : FnOk c f st D) {o : Expr} {apos pos : Pos} {args : List Expr} {fo : PM PV} {g : PM (List PV)} {k : List PV -> PM PV} {l : Nat} {b : Bool}
  (hbase : attributeBase o name F.env (eval o F.env) = eval o F.env) (hst : methodCallForm (args.length + 0) (backTo pos (starEach args F.env)) [] = b) (hpos : (apos.endLine == pos.line) = true) (ho : SimE c F o fo) (hargs : CallArgs c F (starEach args F.env) g)
  (hk : CallOk c f l k) (hl : l + 1 <= lv) : SimE c F (.Call (.Attribute o name apos) args [] pos) (eMeth C name fo g k) := by
 obtain ⟨fd, hat, _⟩ := hf.ok
 exact Zih hM hat hbase hst hpos ho hargs λ vs xs A φ μ s R hA Rp hv hb hQ hE => hk F vs xs A φ μ s R (by rw [G.lv]; exact hl) hh hA Rp hv hb hQ hE
theorem FxG.callC (G : FxG F names vs n lv) {np pos : Pos} (hh : F.hd = true) {x : Str} {C f : Addr} {slotted : Bool} {k : List PV -> PM PV} {l : Nat} (h : okGlob names x = true) (e : nsIn c.K mainGlobals x = some (some (.ref C))) (hM : MakeAt c C f) (hk : CallOk c f l k) (hl : l + 2 <= lv)
  {args : List Expr} {g : PM (List PV)} (hargs : CallArgs c F (starEach args F.env) g) : SimE c F (.Call (.Name x np) args [] pos) (g >>= newM C slotted k) :=
 Zbi (G.hGlob h e) hargs (λ φ h X _ => keeps_K hM.keep h X) (Zqy hM (lv := l + 1) (by rw [G.lv]; exact hl) λ vs xs A φ μ s R hA Rp hv hb hQ hE => hk (lower F (l + 1)) vs xs A φ μ s R Qr hh hA Rp hv hb hQ hE)
theorem FxG.handling (G : FxG F names vs n lv) : FxG (Mine.handling F) names vs n lv := ⟨G.kind, G.glob, G.bui, G.lv, G.names, G.flen, G.loc, λ x k h => by
 cases G.var x k h with
 | loc a b => exact .loc a b
 | cell a b c => exact .cell a b c
 | free a b c => exact .free a b c⟩
end

noncomputable def arrPlain (m : Nat) (xs : List PV) : Option (List PV) := match decide (xs.length = m) with
 | true => some xs
 | false => none
noncomputable def arrStar (m : Nat) (xs : List PV) : Option (List PV) := match decide (m <= xs.length) && lenOk (xs.drop m) with
 | true => some (xs.take m ++ [.tup (xs.drop m)])
 | false => none
noncomputable def arrDflt (m : Nat) (xs : List PV) : Option (List PV) := match decide (xs.length = m) with
 | true => some xs
 | false => (match decide (xs.length + 1 = m) with
  | true => some (xs ++ [.none])
  | false => none)
noncomputable def ownKs (fd : FuncData) (ks : List Str) : Bool := ks.all λ k => fd.scope.names.lookup k == some .local || fd.scope.names.lookup k == some .cell
theorem len1 {l : List Value} (h : l.length + 1 = 2) : ∃ a, l = [a] := by
 rcases l with _ | ⟨a, _ | ⟨b, l⟩⟩
 ·cases h
 ·exact ⟨a, rfl⟩
 ·cases h
theorem len2 {l : List Value} (h : l.length = 2) : ∃ a b, l = [a, b] := by
 rcases l with _ | ⟨a, _ | ⟨b, _ | ⟨c, l⟩⟩⟩
 ·cases h
 ·cases h
 ·exact ⟨a, b, rfl⟩
 ·cases h
section
variable {c : Cx} {fd : FuncData} {ks : List Str} {m : Nat}
theorem Zy (own : ownKs fd ks = true) (h : ∀ vs : List Value, vs.length = m -> bindArgs fd ⟨vs, []⟩ = pure (ks.zip vs)) : Binds c fd ks (arrPlain m) :=
 ⟨own, λ F φ μ s vs xs ys A Q E R hv ha hQ => by
  unfold arrPlain at ha
  split at ha
  ·rename_i hd
   cases ha
   rw [h vs (hv.length.trans (of_decide_eq_true hd))]
   exact Qp (hQ vs s R Ext.refl (λ _ _ e => e) hv)
  ·cases ha⟩
theorem Zgd (own : ownKs fd ks = true) (h : ∀ vs r : List Value, vs.length = m -> bindArgs fd ⟨vs ++ r, []⟩ = (newTuple r >>= λ t => pure (ks.zip (vs ++ [t])))) : Binds c fd ks (arrStar m) :=
 ⟨own, λ F φ μ s vs xs ys A Q E R hv ha hQ => by
  unfold arrStar at ha
  split at ha
  ·rename_i hd
   cases ha
   rw [Bool.and_eq_true] at hd
   have hm := of_decide_eq_true hd.1
   have hl := Zz hd.2
   have e := hv.length
   rw [<- take_append_drop m vs, h (vs.take m) (vs.drop m) (by rw [length_take]; lia)]
   unfold newTuple
   refine Qb (wpAny_newObj_type ?_ (by show (vs.drop m).toArray.size <= sizeLine; simp only [size_toArray, length_drop]; rw [length_drop] at hl; lia))
   obtain ⟨RB, xB⟩ := R.push { cls := .type "tuple", data := .seq (vs.drop m).toArray } (tk := s.toks)
   refine Qp (hQ _ _ RB xB (λ a o q => Heap.get?_push_of_some _ q) ?_)
   exact ((hv.ext R xB).take m).append (.cons (.tup (Heap.get?_push_size _ rfl) (λ hm => absurd (R.phiLt hm) (Nat.lt_irrefl _)) ((hv.ext R xB).drop m)) .nil)
  ·cases ha⟩
theorem Zmv (own : ownKs fd ks = true) {t : Addr} {k : Nat} (ht : c.K.lookup t = some { cls := .type "tuple", data := .seq #[.none] k })
  (h : ∀ (vs : List Value) (A : Around) (s : Shared) (Q : List (Str × Value) -> Shared -> Prop) (E : Value -> Shared -> Prop), s.heap.get? t = some { cls := .type "tuple", data := .seq #[.none] k } -> (vs.length = m -> Q (ks.zip vs) s -> wpAny (model c.prog c.w) A (bindArgs fd ⟨vs, []⟩) Q E s) ∧ (vs.length + 1 = m -> Q (ks.zip (vs ++ [.none])) s -> wpAny (model c.prog c.w) A (bindArgs fd ⟨vs, []⟩) Q E s)) : Binds c fd ks (arrDflt m) :=
 ⟨own, λ F φ μ s vs xs ys A Q E R hv ha hQ => by
  have e := hv.length
  have hts := R.inB _ _ ht
  unfold arrDflt at ha
  split at ha
  ·rename_i hd
   cases ha
   exact (h vs A s Q E hts).1 (e.trans (of_decide_eq_true hd)) (hQ vs s R Ext.refl (λ _ _ e => e) hv)
  split at ha
  ·rename_i _ _ _ hd2
   cases ha
   refine (h vs A s Q E hts).2 (by rw [e]; exact of_decide_eq_true hd2) (hQ _ s R Ext.refl (λ _ _ e => e) (hv.append (.cons .none .nil)))
  ·cases ha⟩
end

section
variable {c : Cx} {F : Fx}
end

section
variable {c : Cx} {F : Fx} {names : List (Str × NameKind)} {vs : List (Str × Nat)} {m lv : Nat}
theorem FxG.listComp (G : FxG F names vs m lv) {elt target iter : Expr} {ifs : List Expr} {rest : List Comprehension} {scope : Scope} {pos : Pos} {n : Nat} {f : PM PV} {tf : Nat -> PV -> PM Unit}
  (hh : F.hd = true) (hkind : scope.kind = .function) (hn : decide ((scope.names.map (·.1)).Nodup) = true) (hf : freeOk names vs scope = true) (hfold : ∀ x, foldedSetIterable iter F.env x = pure x) (hfirst : SimE c F iter f)
  (hloop : ∀ Lc acc i, FxG (compFx F scope Lc (cloOf scope F.env)) (compNames names scope) (compVs m vs scope) (m + (ownNames scope.names).length) lv -> LoopSim c (compFx F scope Lc (cloOf scope F.env)) (.ListComp elt (⟨target, iter, ifs, 0⟩ :: rest) scope pos) 0 acc i (tf i)) :
  SimE c F (.ListComp elt (⟨target, iter, ifs, 0⟩ :: rest) scope pos) (compM n (ownNames scope.names).length f tf) :=
 Zin hh hfirst (G.closure hf) hkind (of_decide_eq_true hn) hfold λ Lc acc i => hloop Lc acc i (G.comp hkind (of_decide_eq_true hn) hf Lc)
theorem FxG.asgComp (G : FxG F names vs m lv) {x : Str} {tp : Pos} {elt target iter : Expr} {ifs : List Expr} {rest : List Comprehension} {scope : Scope} {cpos pos : Pos} {n : Nat} {f : PM PV} {tf : Nat -> PV -> PM Unit} {a : PV -> PM Unit}
  (hh : F.hd = true) (hkind : scope.kind = .function) (hn : decide ((scope.names.map (·.1)).Nodup) = true) (hf : freeOk names vs scope = true) (hfold : ∀ x, foldedSetIterable iter F.env x = pure x) (hsw : swapB names x tp.line cpos.line scope = true) (hfirst : SimE c F iter f)
  (hloop : ∀ Lc acc i, FxG (compFx F scope Lc (cloOf scope F.env)) (compNames names scope) (compVs m vs scope) (m + (ownNames scope.names).length) lv -> LoopSim c (compFx F scope Lc (cloOf scope F.env)) (.ListComp elt (⟨target, iter, ifs, 0⟩ :: rest) scope cpos) 0 acc i (tf i))
  (ht : SimT c F (assign (.Name x tp) F.env) a) :
  SimS c F (.Assign [.Name x tp] (.ListComp elt (⟨target, iter, ifs, 0⟩ :: rest) scope cpos) pos) (sAsg (compM n (ownNames scope.names).length f tf) a) :=
 Zgr hh hfirst (G.closure hf) hkind (of_decide_eq_true hn) hfold (λ Lc acc i => hloop Lc acc i (G.comp hkind (of_decide_eq_true hn) hf Lc)) ht (by rw [G.swap, hsw]) rfl
end

noncomputable def fdAt (K : Frag) (f : Addr) : FuncData := match K.lookup f with
 | some ⟨_, _, .func fd, _⟩ => fd
 | _ => default
noncomputable def isFunc (K : Frag) (f : Addr) : Bool := match K.lookup f with
 | some ⟨_, _, .func _, _⟩ => true
 | _ => false
theorem Zq3 {K : Frag} {f : Addr} (h : isFunc K f = true) : ∃ oc od osl, K.lookup f = some ⟨oc, od, .func (fdAt K f), osl⟩ := by
 unfold isFunc at h
 unfold fdAt
 cases q : K.lookup f with
 | none => rw [q] at h; exact (Bool.false_ne_true h).elim
 | some o =>
  obtain ⟨oc, od, dt, sl⟩ := o
  rw [q] at h
  cases dt with
  | func fd => exact ⟨_, _, _, rfl⟩
  | _ => exact (Bool.false_ne_true h).elim
theorem Zad {c : Cx} {f : Addr} {st : Stmt} {D : FuncData -> Prop} (h1 : isFunc c.K f = true) (h2 : codeIn c.K (fdAt c.K f).code (fdAt c.K f).qualname = true) (h3 : (fdAt c.K f).body = .stmts (bodySt st)) (h4 : (fdAt c.K f).closure = [])
  (h5 : (fdAt c.K f).scope = scopeSt st) (h6 : ((scopeSt st).isCoroutine || (scopeSt st).isGenerator) = false) (h7 : (scopeSt st).kind = .function) (h8 : decide (((scopeSt st).names.map (·.1)).Nodup) = true)
  (h9 : (fdAt c.K f).params = paramsSt st) (h10 : (fdAt c.K f).globals = mainGlobals) (h11 : (fdAt c.K f).builtins = builtinsNs) (h12 : D (fdAt c.K f)) : FnOk c f st D := by
 rw [Bool.or_eq_false_iff] at h6
 exact ⟨fdAt c.K f, ⟨Zq3 h1, h2, h3, h4, by rw [h5]; exact h6.1, by rw [h5]; exact h6.2, by rw [h5]; exact h7, by rw [h5]; exact of_decide_eq_true h8⟩, h5, h9, h10, h11, h12⟩
theorem Ziw {c : Cx} {T : Value} {m : Value -> Option Bool} {xA : Value} {bA : Bool} (h₀ : exmOne c.K xA T = some bA) (h : ∀ x b, m x = some b -> exmOne c.K x T = some b) : CatchAt c T m :=
 ⟨λ hp X => exm_ty X h₀, λ hp X => (exm_cls X h₀).1, λ x b hm hp X => (exm_cls X (h x b hm)).2⟩
theorem Zpc {c : Cx} {d : Ad} (h1 : exmOne c.K (.ref d.CE) (.ref d.CE) = some true) (h2 : exmOne c.K (.type "ValueError") (.ref d.CE) = some false) (h3 : exmOne c.K (.type "StopIteration") (.ref d.CE) = some false) : CatchAt c (.ref d.CE) (isCE d) :=
 Ziw h1 λ x b hm => by
  unfold isCE at hm
  split at hm
  ·split at hm
   ·rename_i e; cases hm; rw [e]; exact h1
   ·cases hm
  ·split at hm
   ·rename_i e; cases hm; rcases e with rfl | rfl
    ·exact h2
    ·exact h3
   ·cases hm
  ·cases hm
theorem Zmw {c : Cx} {d : Ad} (h1 : exmOne c.K (.type "StopIteration") (.type "StopIteration") = some true) (h2 : exmOne c.K (.type "ValueError") (.type "StopIteration") = some false) : CatchAt c (.type "StopIteration") (isStopIteration d) :=
 Ziw h1 λ x b hm => by
  unfold isStopIteration at hm
  split at hm
  ·split at hm
   ·rename_i e; cases hm; rw [e]; exact h1
   ·split at hm
    ·rename_i e; cases hm; rw [e]; exact h2
    ·cases hm
  ·cases hm
theorem Za0 {c : Cx} {C f : Addr} {name : Str} (h1 : findIn c.K (.ref C) name = some (some (.ref f))) (h2 : typeIn c.K (.ref f) = some (.type "function")) (h3 : findIn c.K (.ref C) "__getattribute__" = some (some (.builtin "object.__getattribute__")))
  (h4 : findIn c.K (.ref C) "__getattr__" = some none) (h5 : (clsIn c.K C).any (·.hasDict) = true) (h6 : specialIn c.K (.ref f) "__get__" = some (some (.builtin "function.__get__"))) (h7 : takesIn c.K (.ref f) = some false) (h8 : copiedNames.contains name = false) : MethAt c C name f :=
 ⟨h1, h2, h3, h4, h5, h6, h7, h8⟩
theorem Zr8 {c : Cx} (h : (buiNames.all λ x => match nsIn c.K mainGlobals x with | some none => true | _ => false) = true) (x : Str) (hx : buiNames.contains x = true) : nsIn c.K mainGlobals x = some none := by
 have := all_eq_true.mp h x (List.contains_iff_mem.mp hx)
 cases q : nsIn c.K mainGlobals x with
 | none => rw [q] at this; exact (Bool.false_ne_true this).elim
 | some o =>
  rw [q] at this
  cases o with
  | none => rfl
  | some _ => exact (Bool.false_ne_true this).elim
theorem Zq4 {prog : Program} {w : World} {h : Heap} {os : OsState} {mg mb : Str -> Option Value} {K : Frag} (kin : K.In h) (g : h.Ns mainGlobals mg) (b : h.Ns builtinsNs mb) (nl : h.NoLimit)
  (bt : ∀ x : Str, x ≠ "__name__" -> mb x = bootBuiltins x) : CxOk { prog := prog, w := w, B := h, os := os, mg := mg, mb := mb, K := K } := ⟨kin, g, b, nl, bt⟩
noncomputable def fx0 (env : Env) : Fx := { env := env, locs := [], nss := [], cls := [], frames := [], lv := 20, hd := true }
theorem rep0 {c : Cx} {s : Shared} (C : CxOk c) (hB : c.B = s.heap) (hos : c.os = s.os) (hg : s.gens = #[]) (env : Env) : Rep c (fx0 env) [] ⟨[], []⟩ s :=
 ⟨C, by rw [hB]; exact λ _ _ e => e, hos.symm, hg, rfl, nodup_nil, (λ a h => nomatch h), (λ i a o h => nomatch h), rfl, nodup_nil, (λ L h => nomatch h), (λ a h => nomatch h), (λ k L x h => nomatch h), (λ k a h => nomatch h), (λ e h => nomatch h)⟩
theorem actx0 (env : Env) : ACtx (fx0 env) callerA := ⟨λ _ => rfl, rfl, rfl, show callerA.depth + 10 * 20 <= 900 by decide, show callerA.units + 100 * 20 <= 9000 by decide⟩
end Mine
namespace Mine
open PySem PySem.W PyProof.Rows

set_option genInjectivity false in
structure EqT where
 α : Type
 l : Frag -> α
 r : α
noncomputable def obsT : List EqT -> Type
 | [] => Unit
 | e :: es => e.α × obsT es
noncomputable def obsL (K : Frag) : (es : List EqT) -> obsT es
 | [] => ()
 | e :: es => (e.l K, obsL K es)
noncomputable def obsR : (es : List EqT) -> obsT es
 | [] => ()
 | e :: es => (e.r, obsR es)
theorem Za {K : Frag} : ∀ {es : List EqT}, obsL K es = obsR es -> ∀ (i : Nat) (e : EqT), es[i]? = some e -> e.l K = e.r
 | [], _, i, e, h => by simp at h
 | a :: es, q, 0, e, h => by
  cases h
  exact congrArg Prod.fst q
 | a :: es, q, i + 1, e, h => Za (es := es) (congrArg Prod.snd q) i e h
noncomputable def fragAt (as : List Addr) (h : Heap) : Frag := as.filterMap λ a => (h.get? a).map λ o => (a, o)
theorem Zea {h h' : Heap} (k : ∀ b o, h.get? b = some o -> h'.get? b = some o) : ∀ (as : List Addr), (fragAt as h).In h'
 | [], a, o, e => nomatch e
 | b :: as, a, o, e => by
  unfold fragAt at e
  rw [List.filterMap_cons] at e
  cases hb : h.get? b with
  | none => rw [hb] at e; exact Zea k as a o e
  | some x =>
   rw [hb] at e
   simp only [Option.map_some, List.lookup] at e
   split at e
   ·rename_i q
    cases e
    rw [beq_iff_eq.mp q]
    exact k b _ hb
   ·exact Zea k as a o e
noncomputable def obsHook (as : List Addr) (es : List EqT) : Hook :=
 ⟨obsT es, λ s => obsL (fragAt as s.heap) es, λ _ => obsR es, λ _ h => ∃ h₀, obsL (fragAt as h₀) es = obsR es ∧ ∀ b o, h₀.get? b = some o -> h.get? b = some o,
  λ _ s e => ⟨s.heap, e, λ _ _ q => q⟩, λ _ _ _ ⟨h₀, e, k⟩ kk => ⟨h₀, e, λ b o q => kk b o (k b o q)⟩⟩
theorem Zr9 {as : List Addr} {es : List EqT} {w : World} {h : Heap} (Y : (obsHook as es).says w h) : ∃ K : Frag, K.In h ∧ obsL K es = obsR es :=
 Y.elim λ h₀ q => ⟨fragAt as h₀, Zea q.2 as, q.1⟩
end Mine
namespace Mine
open PySem PySem.W PyProof.Rows PySem.Calls

section
variable {c : Cx} {F : Fx}
end

noncomputable def KV (n : Nat) {α : Type} : KasT α -> (α -> Prop) -> Prop
 | .ret a, P => P a
 | .ask i j k, P => (i < n ∧ j < n) ∧ ∀ b, KV n (k b) P
noncomputable def kRun (ans : Nat -> Nat -> Bool) {α : Type} : KasT α -> α
 | .ret a => a
 | .ask i j k => kRun ans (k (ans i j))
section
variable {n : Nat}
theorem KV.bind {α β : Type} {f : α -> KasT β} {P : β -> Prop} : ∀ {t : KasT α}, KV n t (λ a => KV n (f a) P) -> KV n (t.bind f) P
 | .ret _, h => h
 | .ask _ _ _, h => ⟨h.1, λ b => KV.bind (h.2 b)⟩
theorem KV.mono {α : Type} {P P' : α -> Prop} (q : ∀ a, P a -> P' a) : ∀ {t : KasT α}, KV n t P -> KV n t P'
 | .ret _, h => q _ h
 | .ask _ _ _, h => ⟨h.1, λ b => KV.mono q (h.2 b)⟩
theorem KV.run {α : Type} {P : α -> Prop} (ans : Nat -> Nat -> Bool) : ∀ {t : KasT α}, KV n t P -> P (kRun ans t)
 | .ret _, h => h
 | .ask i j k, h => KV.run (t := k (ans i j)) ans (h.2 _)
theorem KV.wp {α : Type} {P : α -> Prop} {ans : Nat -> Nat -> Bool} {cmp : Nat -> Nat -> (Bool -> Shared -> Prop) -> Shared -> Prop} {I : Shared -> Prop} {Q : α -> Shared -> Prop}
  (hc : ∀ i j C s, i < n -> j < n -> I s -> (∀ s', I s' -> C (ans i j) s') -> cmp i j C s) : ∀ {t : KasT α} {s : Shared}, KV n t P -> I s -> (∀ s', I s' -> Q (kRun ans t) s') -> t.kasWp cmp Q s
 | .ret _, s, _, hI, hQ => hQ s hI
 | .ask i j k, s, h, hI, hQ => hc i j _ s h.1.1 h.1.2 hI λ s' hI' => KV.wp hc (h.2 _) hI' hQ
noncomputable abbrev Lt (n : Nat) (p : Array Nat) : Prop := ∀ i, p.getD i 0 < n
theorem Zlh {p q : Array Nat} (hp : q.Perm p) (h : Lt n p) : Lt n q := λ i => by
 by_cases hi : i < q.size
 ·have e : q.getD i 0 = q[i] := by simp [Array.getD, hi]
  rw [e]
  have hm : q[i] ∈ p := (Array.Perm.mem_iff hp).mp (Array.getElem_mem hi)
  obtain ⟨j, hj, e⟩ := Array.getElem_of_mem hm
  have := h j
  rw [show p.getD j 0 = p[j] by simp [Array.getD, hj], e] at this
  exact this
 ·have e : q.getD i 0 = 0 := by simp [Array.getD, hi]
  rw [e]; exact Nat.lt_of_le_of_lt (Nat.zero_le _) (h 0)
theorem Zeb {p : Array Nat} {i j : Nat} (h : Lt n p) : Lt n (kas_rev p i j) := Zlh (mirror_perm _ _ _ _) h
theorem Zix {p : Array Nat} (h : Lt n p) : ∀ (f k : Nat), KV n (kas_asc p f k) λ _ => True
 | 0, _ => trivial
 | f + 1, k => ⟨⟨h _, h _⟩, λ b => by cases b <;> first | exact trivial | exact Zix h f (k + 1)⟩
theorem Zey : ∀ (f : Nat) {p : Array Nat} (k q : Nat), Lt n p -> KV n (kas_desc f p k q) λ r => Lt n r.1
 | 0, _, _, _, h => h
 | f + 1, p, k, q, h => ⟨⟨h _, h _⟩, λ b => by
  cases b with
  | true =>
   dsimp only
   rw [if_pos rfl]
   split
   ·exact Zey f _ _ (Zeb h)
   ·exact Zey f _ _ h
  | false =>
   dsimp only
   rw [if_neg Bool.false_ne_true]
   refine ⟨⟨h _, h _⟩, λ b => ?_⟩
   cases b with
   | true => exact h
   | false => exact Zey f _ _ h⟩
theorem Ziy {p : Array Nat} {k m : Nat} (h : Lt n p) : KV n (kas_tail3 k m p) λ r => Lt n r.2 := KV.bind ((Zix (Zeb h) _ _).mono λ _ _ => Zeb h)
theorem Zfd {p : Array Nat} {k m : Nat} (h : Lt n p) : KV n (kas_descPart k m p) λ r => Lt n r.2 := KV.bind ((Zey _ _ _ h).mono λ r hr => by
 try dsimp only
 split
 ·exact Ziy (Zeb hr)
 ·exact Ziy hr)
theorem Zpd {p : Array Nat} {m : Nat} (h : Lt n p) : KV n (kas_count m p) λ r => Lt n r.2 := KV.bind ((Zix h _ _).mono λ k _ => by
 try dsimp only
 split
 ·exact h
 ·split
  ·refine ⟨⟨h _, h _⟩, λ b => ?_⟩
   cases b with
   | true => exact h
   | false => exact Zfd (Zeb h)
  ·exact Zfd h)
theorem Ziz {p : Array Nat} {k : Nat} (h : Lt n p) : ∀ (f l r : Nat), KV n (kas_place p k f l r) λ _ => True
 | 0, _, _ => trivial
 | f + 1, l, r => by
  rw [kas_place]
  split
  ·exact trivial
  ·refine ⟨⟨h _, h _⟩, λ b => ?_⟩
   cases b <;> exact Ziz h f _ _
theorem Zn8 : ∀ (f : Nat) {p : Array Nat} (k : Nat), Lt n p -> KV n (kas_bin f p k) (Lt n)
 | 0, _, _, h => h
 | f + 1, p, k, h => KV.bind ((Ziz h _ _ _).mono λ l _ => Zn8 f _ (Zlh (bubble_perm _ _ _) h))
theorem Zi0 (hn : 0 < n) : Lt n (List.toArray (List.range n)) := λ i => by
 by_cases hi : i < n
 ·simp [Array.getD, hi]
 ·simp [Array.getD, hi, hn]
theorem Zc4 (hn : 0 < n) : KV n (kas_sort n) (Lt n) := KV.bind ((Zpd (Zi0 hn)).mono λ r hr => by
 try dsimp only
 split
 ·exact Zn8 _ _ hr
 ·exact hr)
end
noncomputable def yesC (p : Prop) : Bool := @decide p (Classical.propDecidable p)
theorem Zi1 {p : Prop} : yesC p = true ↔ p := @decide_eq_true_iff p (Classical.propDecidable p)
theorem Zsa {M : Model} {α : Type} {t : Sem α} {b : α -> Bool} {s : Shared} (h1 : wpAny M {} t (λ a _ => b a = true) (λ _ _ => False) s) (h2 : wpAny M {} t (λ a _ => b a = false) (λ _ _ => False) s) : False := by
 have one : ∀ v : Bool, wpAny M {} t (λ a _ => b a = v) (λ _ _ => False) s -> ∃ s', Reach M [] s (t >>= λ a => (pure (.done (.ret (.bool (b a)))) : Sem PySem.Fin)) (.builtin "boot" {}) default [] s' (.ret (.ok (.ret (.bool v)))) := λ v h => by
  have h' : wpAny M {} (t >>= λ a => (pure (.done (.ret (.bool (b a)))) : Sem PySem.Fin)) (λ f s' => f = .done (.ret (.bool v))) (λ _ _ => False) s :=
   Qb (wpAny_mono h (λ a s' e => Qp (by rw [e])) λ _ _ e => e)
  have h2 := h' _ default boot_in
  obtain ⟨r, s', hr, e⟩ := (wp_iff_reach (base := []) (c := .builtin "boot" {}) _ (λ r _ => r = .ok (.ret (.bool v))) default s).mp (Sem.wp_mono M _ _ (λ a _ s' e => by subst e; exact rfl) (λ e _ s' h => h.elim) _ _ h2)
  subst e
  exact ⟨s', hr⟩
 obtain ⟨_, r1⟩ := one true h1
 obtain ⟨_, r2⟩ := one false h2
 have := (r1.det r2).2
 cases this
theorem Zn9 (prog : Program) (w : World) (s : Shared) {n : Nat} (h2 : 2 <= n) (h64 : n < 64) (key : Nat -> Int) {p : Array Nat} (ep : kRun (λ i j => decide (key i < key j)) (kas_sort n) = p) :
  p.size = n ∧ p.toList.Perm (List.range n) ∧ ∀ i j, i <= j -> j < n -> key (p.getD i 0) <= key (p.getD j 0) := by
 have hl : Lt n p := by rw [<- ep]; exact (Zc4 (by lia)).run _
 obtain ⟨it, hit⟩ : ∃ it : Array Keyed, it = ((List.range n).map λ i => ((Value.int (key i) 0, Value.int (i : Int) 0) : Keyed)).toArray := ⟨_, rfl⟩
 have isz : it.size = n := by rw [hit]; simp
 have iat : ∀ i, i < n -> kas_item it i = (Value.int (key i) 0, Value.int (i : Int) 0) := λ i hi => by
  unfold kas_item
  rw [hit]
  simp [Array.getD, hi]
 obtain ⟨b, hb⟩ : ∃ b : Unit × SortSt -> Bool, b = λ r => yesC (p.size = n ∧ arrOf r.2 = p.map (kas_item it)) := ⟨_, rfl⟩
 have g1 : wpAny (model prog w) {} (sortRuns'.run (kas_st oneType' it (List.toArray (List.range n)))) (λ r _ => b r = true) (λ _ _ => False) s := by
  refine kas_runs (Q := λ _ st _ => b ((), st) = true) (G := λ p' _ => p' = p) h2 h64 (λ p' st' s' h1 h2 _ h3 => ?_) ?_
  ·subst h3; rw [hb]; exact Zi1.mpr ⟨h1, h2⟩
  ·refine (Zc4 (by lia)).wp (I := λ _ => True) (ans := λ i j => decide (key i < key j)) (λ i j C s hi hj _ h => ?_) trivial λ _ _ => ep
   unfold kas_cmp
   rw [iat i hi, iat j hj]
   exact kat_lt_int (h _ trivial)
 refine Classical.byContradiction λ hn => Zsa g1 ?_
 refine wpAny_mono (wpS_sortRuns (a₀ := it) (Q := λ _ st => b ((), st) = false) (λ q hq => ?_) ⟨?_, rfl, rfl, rfl⟩ (by rw [isz]; exact h2) (by rw [isz]; exact h64) λ st hp _ hs => ?_) (λ _ _ h => h.2) λ _ _ h => h
 ·rw [hit] at hq
  simp at hq
  obtain ⟨i, _, rfl⟩ := hq
  exact ⟨_, _, rfl⟩
 ·show (Array.map (kas_item it) (List.toArray (List.range n))).Perm it
  rw [<- isz, kas_range]
 ·rw [hb]
  refine Bool.eq_false_iff.mpr λ h => hn ?_
  obtain ⟨z, e⟩ := Zi1.mp h
  have at' : ∀ i, i < n -> (arrOf st)[i]? = some (Value.int (key (p.getD i 0)) 0, Value.int (p.getD i 0 : Int) 0) := λ i hi => by
   have : arrOf st = p.map (kas_item it) := e
   rw [this, Array.getElem?_map]
   have : p[i]? = some (p.getD i 0) := by rw [Array.getElem?_eq_getElem (by lia)]; simp [Array.getD, show i < p.size by lia]
   rw [this, Option.map_some, iat _ (hl i)]
  refine ⟨z, ?_, λ i j hij hj => ?_⟩
  ·have q := (Array.perm_iff_toList_perm.mp hp).map λ x : Keyed => (numOf x.2).toNat
   have e1 : (arrOf st).toList.map (λ x : Keyed => (numOf x.2).toNat) = p.toList := by
    refine List.ext_getElem? λ i => ?_
    rw [List.getElem?_map, Array.getElem?_toList, Array.getElem?_toList]
    by_cases hi : i < n
    ·rw [at' i hi, Array.getElem?_eq_getElem (by lia)]
     simp [Array.getD, show i < p.size by lia]
     rfl
    ·have : arrOf st = p.map (kas_item it) := e
     rw [this, Array.getElem?_eq_none (by simp; lia), Array.getElem?_eq_none (by lia)]
     rfl
   have e2 : it.toList.map (λ x : Keyed => (numOf x.2).toNat) = List.range n := by
    rw [hit]
    simp
    exact (map_congr_left λ i _ => rfl).trans (List.map_id _)
   rw [e1, e2] at q
   exact q
  ·have := hs i j hij (by rw [isz]; exact hj)
   unfold PyProof.Rows.K at this
   rw [at' i (by lia), at' j hj] at this
   exact this

open PySem.AutoSeq1 (wpAny_loadPart')
open PySem.MeetsSeq
noncomputable def ltL : List Int -> List Int -> Bool
 | [], ys => !ys.isEmpty
 | _ :: _, [] => false
 | x :: xs, y :: ys => if x = y then ltL xs ys else decide (x < y)
theorem ltL_s {x y : Int} {xs ys : List Int} : ltL (x :: xs) (y :: ys) = if x = y then ltL xs ys else decide (x < y) := rfl
theorem Zli {xs : List Int} : ltL xs [] = false := by cases xs <;> rfl
theorem Zcx {vs : List Value} {xs : List Int} (h : IntsAre vs xs) : vs.length = xs.length := by
 induction h with
 | nil => rfl
 | cons _ _ _ ih => exact congrArg Nat.succ ih
theorem Zge {vs : List Value} {xs : List Int} (h : IntsAre vs xs) : ∀ {i : Nat}, i < vs.length -> ∃ x t, vs[i]? = some (.int x t) ∧ xs.drop i = x :: xs.drop (i + 1) := by
 induction h with
 | nil => exact λ h => absurd h (Nat.not_lt_zero _)
 | cons n t _ ih => exact λ {i} h => match i, h with
  | 0, _ => ⟨n, t, rfl, rfl⟩
  | i + 1, h => ih (Nat.lt_of_succ_lt_succ h)
noncomputable abbrev LtAt (l b : Addr) (vs ws : List Value) (n n2 : Nat) (xs ys : List Int) (i : Nat) : Prop := Meets (Builtin.«list.__eq__.loop» ⟨[.ref l, .ref b, rawInt i, rawInt 0], []⟩)
   (λ _ R s => s.heap.get? l = some { cls := .type "list", dict := none, data := .seq vs.toArray n, slots := #[] } ∧ s.heap.get? b = some { cls := .type "list", dict := none, data := .seq ws.toArray n2, slots := #[] } ∧
    R (.ok (.ret (.bool (ltL (xs.drop i) (ys.drop i))))) s)
theorem Zlj {l b : Addr} {vs ws : List Value} {xs ys : List Int} {n n2 : Nat} (hx : IntsAre vs xs) (hy : IntsAre ws ys) {i : Nat} (h1 : i <= vs.length) (h2 : i <= ws.length) (next : i < vs.length -> i < ws.length -> LtAt l b vs ws n n2 xs ys (i + 1)) : LtAt l b vs ws n n2 xs ys i := by
 intro prog w A R s h
 obtain ⟨hp, g, d, tk, os⟩ := s; obtain ⟨hl, hb, h⟩ := h
 wp_walk using wpAny_loadPart' hl, wpAny_loadPart' hb
 have out : (¬ (i < vs.length ∧ i < ws.length)) -> R (.ok (.ret (.bool (decide (vs.toArray.size < ws.toArray.size))))) ⟨hp, g, d, tk, os⟩ := λ q => by
  have e : ltL (xs.drop i) (ys.drop i) = decide (vs.toArray.size < ws.toArray.size) := by
   by_cases q1 : i < vs.length
   ·rw [show ys.drop i = [] by rw [List.drop_eq_nil_iff, <- Zcx hy]; lia, Zli]
    exact (decide_eq_false (by simp; lia)).symm
   ·rw [show xs.drop i = [] by rw [List.drop_eq_nil_iff, <- Zcx hx]; lia]
    show (!(ys.drop i).isEmpty) = _
    rw [Bool.eq_iff_iff]
    simp
    rw [<- Zcx hy]
    lia
  rw [e] at h
  exact h
 by_cases q1 : i < vs.length
 ·obtain ⟨x, t, e1, e2⟩ := Zge hx q1
  have hi1 : vs.toArray[((i : Nat) : Int).toNat]? = some (.int x t) := by simpa using e1
  rw [hi1]
  by_cases hj : i < ws.length
  ·obtain ⟨y, u, e3, e4⟩ := Zge hy hj
   have hi2 : ws.toArray[((i : Nat) : Int).toNat]? = some (.int y u) := by simpa using e3
   rw [hi2]
   rw [e2, e4, ltL_s] at h
   refine Qb (EqGives.int _ _ _ _ prog w _ _ _ _ ?_)
   by_cases q : x = y
   ·subst q
    rw [if_pos rfl] at h
    rw [beq_self_eq_true]
    have hc : ((i : Int) + 1) = ((i + 1 : Nat) : Int) := rfl
    wp_walk
    rw [hc]
    exact ⟨plainId_quiet MeetsSeq3.plain_eq_loop _, codeAny_builtin MeetsSeq3.entry_eq_loop (by
     rw [Around.under_plainId MeetsSeq3.plain_eq_loop _]
     exact next q1 hj prog w A R _ ⟨hl, hb, h⟩)⟩
   ·rw [if_neg q] at h
    rw [beq_eq_false_iff_ne.mpr q]
    wp_walk using wpAny_loadPart' hl, wpAny_loadPart' hb
    rw [hi1, hi2]
    refine Qb (lt_int (prog := prog) (w := w) ?_)
    exact Qp h
  ·have hi2 : ws.toArray[((i : Nat) : Int).toNat]? = none := by simp; lia
   rw [hi2]
   wp_walk using wpAny_loadPart' hl, wpAny_loadPart' hb
   exact out λ q => hj q.2
 ·have hi1 : vs.toArray[((i : Nat) : Int).toNat]? = none := by simp; lia
  rw [hi1]
  wp_walk using wpAny_loadPart' hl, wpAny_loadPart' hb
  exact out λ q => q1 q.1
theorem Zq5 {l b : Addr} {vs ws : List Value} {xs ys : List Int} {n n2 : Nat} (hx : IntsAre vs xs) (hy : IntsAre ws ys) (k : Nat) : ∀ i : Nat, vs.length - i = k -> i <= vs.length -> i <= ws.length -> LtAt l b vs ws n n2 xs ys i := by
 induction k with
 | zero => exact λ i hk h1 h2 => Zlj hx hy h1 h2 λ q => absurd q (Nat.not_lt_of_le (Nat.le_of_sub_eq_zero hk))
 | succ k ih => exact λ i hk h1 h2 => Zlj hx hy h1 h2 λ q1 q2 => ih (i + 1) (congrArg Nat.pred hk) q1 q2
theorem Zlk {l b : Addr} {vs ws : List Value} {xs ys : List Int} {n n2 : Nat} (hx : IntsAre vs xs) (hy : IntsAre ws ys) : Meets (Builtin.«list.__lt__» ⟨[.ref l, .ref b], []⟩)
   (λ _ R s => s.heap.get? l = some { cls := .type "list", dict := none, data := .seq vs.toArray n, slots := #[] } ∧ s.heap.get? b = some { cls := .type "list", dict := none, data := .seq ws.toArray n2, slots := #[] } ∧
    R (.ok (.ret (.bool (ltL xs ys)))) s) := by
 intro prog w A R s h
 obtain ⟨hp, g, d, tk, os⟩ := s; obtain ⟨hl, hb, h⟩ := h
 have f3 := AutoSeq1.sub_list_list
 wp_walk using wpAny_loadPart' hl, wpAny_loadPart' hb
 exact ⟨plainId_quiet MeetsSeq3.plain_eq_loop _, codeAny_builtin MeetsSeq3.entry_eq_loop (by
  rw [Around.under_plainId MeetsSeq3.plain_eq_loop _]
  exact Zq5 hx hy _ 0 rfl (Nat.zero_le _) (Nat.zero_le _) prog w A R _ ⟨hl, hb, h⟩)⟩

section
variable {prog : Program} {w : World} {A : Around} {E : Value -> Shared -> Prop} {s : Shared}
theorem Zll (ans : Nat -> Nat -> Bool) {n : Nat} (h : n < 2) : kRun ans (kas_sort n) = List.toArray (List.range n) := by
 match n, h with
 | 0, _ => rfl
 | 1, _ => rfl
theorem Zhp {κ : SortKind} {ans : Nat -> Nat -> Bool} {a : Addr} {vs : List Value} {n : Nat} {P : PySem.Fin -> Shared -> Prop} (ho : s.heap.get? a = some (seqObj "list" vs.toArray n)) (h64 : vs.length < 64)
  (hT : 2 <= vs.length -> ∀ h' : Heap, (∀ b o, b ≠ a -> s.heap.get? b = some o -> h'.get? b = some o) -> ∀ Q : SortKind -> Shared -> Prop, Q κ { s with heap := h' } -> wpAny (model prog w) A (keyKind' vs.toArray) Q E { s with heap := h' })
  (hc : ∀ h' : Heap, (∀ b o, b ≠ a -> s.heap.get? b = some o -> h'.get? b = some o) -> ∀ (i j : Nat) (C : Bool -> Shared -> Prop), i < vs.length -> j < vs.length -> C (ans i j) { s with heap := h' } ->
   wpAny (model prog w) A (keyLt' κ (vs.getD i .none) (vs.getD j .none)) C (λ _ _ => False) { s with heap := h' })
  (h : P (.done (.ret .none)) { s with heap := sortedHeap s.heap a vs ((kRun ans (kas_sort vs.length)).map λ i => vs.getD i .none) }) :
  wpAny (model prog w) A (Builtin.«list.sort» ⟨[.ref a], []⟩) P E s := by
 rw [list_sort_plain]
 have ha : a < s.heap.objs.size := Heap.lt_size ho
 refine Qb (listItems_at ho rfl ?_)
 refine Qb (listUpdate_at ho rfl ?_)
 obtain ⟨e1, ho1⟩ : ∃ e1, (s.heap.update a (Obj.mapSeq λ _ => #[])).get? a = some (seqObj "list" #[] e1) := ⟨_, get?_update_seq ho (λ _ => #[])⟩
 refine Qb (seqEpoch_at ho1 rfl ?_)
 refine Qb (wpAny_newTuple ?_)
 refine Qb (wpAny_newList ?_)
 refine wpAny_holding ?_
 obtain ⟨h6, e6⟩ : ∃ h6, h6 = ((s.heap.update a (Obj.mapSeq λ _ => #[])).push (seqObj "tuple" vs.toArray 0)).push (seqObj "list" #[] 0) := ⟨_, rfl⟩
 have ho6 : h6.get? a = some (seqObj "list" #[] e1) := by
  rw [e6, Heap.get?_push_ne _ _ _ (by rw [size_push', Heap.size_update]; exact Nat.ne_of_lt (Nat.lt_succ_of_lt ha)), Heap.get?_push_ne _ _ _ (by rw [Heap.size_update]; exact Nat.ne_of_lt ha)]
  exact ho1
 have keep : ∀ b o, b ≠ a -> s.heap.get? b = some o -> h6.get? b = some o := λ b o hb q => by
  have hlt : b < s.heap.objs.size := Heap.lt_size q
  rw [e6, Heap.get?_push_ne _ _ _ (by rw [size_push', Heap.size_update]; exact Nat.ne_of_lt (Nat.lt_succ_of_lt hlt)), Heap.get?_push_ne _ _ _ (by rw [Heap.size_update]; exact Nat.ne_of_lt hlt), Heap.get?_update_ne _ _ _ _ hb]
  exact q
 show wpAny (model prog w) A _ P E { s with heap := ((s.heap.update a (Obj.mapSeq λ _ => #[])).push (seqObj "tuple" vs.toArray 0)).push (seqObj "list" #[] 0) }
 have fin : P (.done (.ret .none)) { s with heap := h6.update a (Obj.mapSeq λ _ => (kRun ans (kas_sort vs.length)).map λ i => vs.getD i .none) } := by rw [e6]; exact h
 rw [<- e6]
 dsimp only
 have hsz : vs.toArray.size = vs.length := by simp
 by_cases h2 : vs.toArray.size < 2
 ·rw [if_pos h2, if_pos h2]
  refine Qb (Qp ?_)
  rw [StateT.run_pure]
  refine Qb (Qp ?_)
  dsimp only
  refine Qb (seqEpoch_at ho6 rfl ?_)
  refine Qb (listUpdate_at ho6 rfl ?_ (hsz2 := by rw [Array.size_map]; show (pairsOf vs).size <= _; rw [pairsOf_size, sizeLine_eq]; lia))
  simp only [bne_self_eq_false, Bool.false_eq_true, if_false]
  refine Qp ?_
  rw [Zll ans (by rw [<- hsz]; exact h2)] at fin
  have e : (List.toArray (List.range vs.length)).map (λ i => vs.getD i .none) = (vs.toArray.zip vs.toArray).map (·.2) := by
   refine Array.ext (by simp) λ i h1 h2 => ?_
   simp at h1
   simp [h1]
  rw [e] at fin
  exact fin
 ·rw [if_neg h2, if_neg h2]
  refine Qb (hT (by lia) h6 keep _ ?_)
  have hn : vs.length = (pairsOf vs).size := (pairsOf_size _).symm
  refine Qb ?_
  have K := kas_runs (prog := prog) (w := w) (A := A) (κ := κ) (it := pairsOf vs) (n := vs.length) (E := E) (s := { s with heap := h6 }) (Q := λ _ st s' => arrOf st = (kRun ans (kas_sort vs.length)).map (kas_item (pairsOf vs)) ∧ failedOf st = none ∧ s' = { s with heap := h6 } ∧ (kRun ans (kas_sort vs.length)).size = vs.length) (G := λ p s' => p = kRun ans (kas_sort vs.length) ∧ s' = { s with heap := h6 })
   (by lia) h64 (λ p' st' s' q0 q1 q2 q3 => ⟨by rw [q1, q3.1], q2, q3.2, by rw [<- q3.1]; exact q0⟩) ((Zc4 (by lia)).wp (I := λ s' => s' = { s with heap := h6 }) (ans := ans) (λ i j C s' hi hj hs hC => by
    subst hs
    unfold kas_cmp
    rw [kas_item_eq, kas_item_eq]
    exact hc h6 keep i j C hi hj (hC _ rfl)) rfl λ s' hs => ⟨rfl, hs⟩)
  have est : kas_st κ (pairsOf vs) (List.toArray (List.range vs.length)) = SortSt.mk' κ (vs.toArray.zip vs.toArray) #[] 7 none := by
   unfold kas_st
   rw [hn, kas_range]; rfl
  rw [est] at K
  refine wpAny_mono K ?_ λ _ _ e => e
  rintro ⟨⟨⟩, st'⟩ s' ⟨hp, hf, rfl, hz⟩
  dsimp only
  have hout : (arrOf st').map (·.2) = (kRun ans (kas_sort vs.length)).map λ i => vs.getD i .none := by
   have : arrOf st' = _ := hp
   rw [this, Array.map_map]
   congr 1
   funext i
   show (kas_item (pairsOf vs) i).2 = _
   rw [kas_item_eq]
  refine Qb (seqEpoch_at ho6 rfl ?_)
  refine Qb (listUpdate_at ho6 rfl ?_ (hsz2 := by
   rw [hout, Array.size_map, hz, sizeLine_eq]; lia))
  rw [hf]
  simp only [bne_self_eq_false, Bool.false_eq_true, if_false]
  rw [hout]
  exact Qp fin
end

section
variable {prog : Program} {w : World} {A : Around} {E : Value -> Shared -> Prop} {s : Shared}
end
noncomputable def llOf (hp : List MO) (x : PV) : Option (List Int) := (isLst hp x).bind intsOf
theorem Zpe {φ : List Addr} {h : Heap} {vs : List Value} {xs : List PV} (r : VRs φ h vs xs) (i : Nat) : VR φ h (vs.getD i .none) (xs.getD i .none) := by
 rw [getD_eq_getElem?_getD, getD_eq_getElem?_getD]
 cases e : xs[i]? with
 | some x =>
  obtain ⟨w, hw, hr⟩ := r.get e
  rw [hw]; exact hr
 | none =>
  have : vs[i]? = none := by
   rw [List.getElem?_eq_none_iff] at e ⊢
   rw [r.length]; exact e
  rw [this]; exact .none
theorem Zi2 {φ φ' : List Addr} {h h' : Heap} {vs : List Value} {xs : List PV} (r : VRs φ h vs xs) (hm : ∀ v x, VR φ h v x -> VR φ' h' v x) : ∀ is : List Nat, VRs φ' h' (is.map λ i => vs.getD i .none) (is.map λ i => xs.getD i .none)
 | [] => .nil
 | i :: is => .cons (hm _ _ (Zpe r i)) (Zi2 r hm is)
theorem Zgt {α β : Type} {f : α -> Option β} : ∀ {xs : List α} {ys : List β}, mapO f xs = some ys -> ∀ {i : Nat} {x : α}, xs[i]? = some x -> ∃ y, f x = some y ∧ ys[i]? = some y
 | x :: xs, ys, h, i, z, hz => by
  rw [Zc2] at h
  cases e : f x with
  | none => rw [e] at h; cases h
  | some y =>
   rw [e] at h
   obtain ⟨zs, e2, rfl⟩ := Option.map_eq_some_iff.mp h
   match i, hz with
   | 0, hz => cases hz; exact ⟨y, e, rfl⟩
   | i + 1, hz => exact Zgt e2 hz
section
variable {c : Cx} {F : Fx}
theorem Zpf {prog : Program} {w : World} {A : Around} {a b : Addr} {vs ws : List Value} {xs ys : List Int} {n m : Nat} {s : Shared} {C : Bool -> Shared -> Prop} (hu : A.units < cLine)
  (ha : s.heap.get? a = some { cls := .type "list", data := .seq vs.toArray n }) (hb : s.heap.get? b = some { cls := .type "list", data := .seq ws.toArray m }) (hx : IntsAre vs xs) (hy : IntsAre ws ys) (h : C (ltL xs ys) s) :
  wpAny (model prog w) A (keyLt' oneType' (.ref a) (.ref b)) C (λ _ _ => False) s := by
 rw [keyLt'_oneType, oneLt'_eq]
 simp only [if_true]
 refine Qb (wpAny_cRoomFor hu ?_)
 refine Qb (wpAny_callSpecialIfBound?_slot (T := "list") (id := "list.__lt__") ⟨_, ha, rfl⟩ PySem.F.slot_list_lt (call_meets PySem.F.slot_list_lt ⟨_, ha, rfl⟩ PySem.F.entry_list_lt (PySem.F.args_list_lt_2 _ _) (Zlk hx hy) ⟨ha, hb, ?_⟩))
 exact wpAny_truthy_bool h
theorem Zpg {φ : List Addr} {μ : St} {s : Shared} (R : Rep c F φ μ s) {h' : Heap} {tk : Nat} (keep : ∀ b o, s.heap.get? b = some o -> h'.get? b = some o) (size : s.heap.objs.size <= h'.objs.size) :
  Rep c F φ μ { s with heap := h', toks := tk } ∧ Ext F.nss F.cls φ s.heap φ h' ∧ (∀ w x, VR φ s.heap w x -> VR φ h' w x) := by
 have S : Side c F φ s.heap h' := ⟨size, λ a oa ha => .inl (keep a oa ha)⟩
 exact ⟨R.side S, Ext.refl.after size (λ a o ho => .inl (keep a o ho)) λ a _ ⟨o, ho⟩ => ⟨o, keep a o ho⟩, λ w x r => S.mv R r⟩
noncomputable def pSortIntsL : List PV -> PM PV := oneM λ x => lstM intsOf x >>= λ is => chk (decide (is.length < 64)) >>= λ _ => pure (.lst ((sortI is).map .int))
theorem Zdl : SimCall c F (.builtin "sorted") pSortIntsL := Zas λ v x A φ μ s Q E hA R p hb hQ hE => by
 obtain ⟨xs, y, e1, e2, e3⟩ := Zlg (λ e => hb (by rw [PM.B, e]))
 rw [PM.C e3] at hb hQ
 obtain ⟨h1, h2⟩ := Zn hb
 rw [h2] at hQ
 obtain ⟨a, vs, rfl, hL, hvs⟩ := Zf0 R p e1
 have h64 : vs.length < 64 := by rw [<- (Zbx hvs e2).1]; exact of_decide_eq_true h1
 refine Z8 (sorted_ints hL (Zdd hvs e2) h64 λ out ns' hi hp hs size => ?_)
 obtain ⟨e, he⟩ := sortedAll_at s.heap vs out
 obtain ⟨RB, xB, _⟩ := Zpg (tk := s.toks) R (λ b o q => sortedAll_old q) size
 refine hQ _ _ _ _ _ rfl RB xB (.lst (vs := out.toList) he (λ hm => absurd (R.phiLt hm) (Nat.not_lt_of_le (Nat.le_succ _))) ?_)
 rw [<- eq_sortI hp hs]
 exact Ziv hi
end

open PySem.AutoSeq1 (wpAny_loadPart')
open PySem.MeetsSeq
theorem Zhc {prog : Program} {w : World} {A : Around} {E : Value -> Shared -> Prop} {s : Shared} {a b : Addr} {vs ws : List Value} {xs ys : List Int} {n m : Nat} {Q : Value -> Shared -> Prop} (hu : A.units < cLine)
  (ha : s.heap.get? a = some { cls := .type "list", data := .seq vs.toArray n }) (hb : s.heap.get? b = some { cls := .type "list", data := .seq ws.toArray m }) (hx : IntsAre vs xs) (hy : IntsAre ws ys) (h : Q (.bool (ltL xs ys)) s) :
  wpAny (model prog w) A (compareOp .Lt (.ref a) (.ref b)) Q E s :=
 richCompare_meets_room (op := .Lt) (T := "list") ⟨_, ha, rfl⟩ ⟨_, hb, rfl⟩ PySem.F.slot_list_lt PySem.F.entry_list_lt (PySem.F.args_list_lt_2 _ _) (Zlk hx hy) ⟨ha, hb, ⟨Value.noConfusion, h⟩⟩ hu
theorem Zi3 {l : Addr} {items : Array Value} {n : Nat} {x : Value} {j : Nat} (hj : j < items.size) (hs1 : items.size <= sizeLine) (k : Nat) : ∀ i : Nat, j - i = k -> i <= j -> Meets (Builtin.«list.remove.loop» ⟨[.ref l, x, rawInt i], []⟩)
   (λ A R s => s.heap.get? l = some { cls := .type "list", dict := none, data := .seq items n, slots := #[] } ∧ (∀ m (hm : m < items.size), m <= j -> SeqAt.EqAt A.in1 s items[m] x (decide (m = j))) ∧
    R (.ok (.ret .none)) { s with heap := s.heap.update l (Obj.mapSeq λ xs => xs.eraseIdxIfInBounds j) }) := by
 induction k with
 | zero =>
  intro i hk hij prog w A R s h
  obtain ⟨hp, g, d, tk, os⟩ := s; obtain ⟨hl, he, h⟩ := h
  obtain rfl : i = j := Nat.le_antisymm hij (Nat.le_of_sub_eq_zero hk)
  wp_walk using wpAny_loadPart' hl
  have hi : items[((i : Nat) : Int).toNat]? = some items[i] := by simp [hj]
  rw [hi]
  refine Qb (he i hj Qr prog w _ _ ?_)
  rw [decide_eq_true rfl]
  have hz' : (items.eraseIdxIfInBounds i).size <= sizeLine + 1 := Nat.le_trans (size_erased items _) (Nat.le_succ_of_le hs1)
  wp_walk using (wpAny_updateSeq hl rfl (hz := hs1) (_hz' := hz')), wpAny_loadPart' hl
  simpa using h
 | succ k ih =>
  intro i hk hij prog w A R s h
  obtain ⟨hp, g, d, tk, os⟩ := s; obtain ⟨hl, he, h⟩ := h
  have hlt : i < j := Nat.lt_of_sub_ne_zero (λ e => nomatch e.symm.trans hk)
  have hlt' : i < items.size := Nat.lt_trans hlt hj
  wp_walk using wpAny_loadPart' hl
  have hi : items[((i : Nat) : Int).toNat]? = some items[i] := by simp [hlt']
  have hc : ((i : Int) + 1) = ((i + 1 : Nat) : Int) := rfl
  rw [hi]
  refine Qb (he i hlt' hij prog w _ _ ?_)
  rw [decide_eq_false (Nat.ne_of_lt hlt)]
  wp_walk
  rw [hc]
  exact ⟨plainId_quiet plain_remove_loop _, codeAny_builtin entry_remove_loop (by
   rw [Around.under_plainId plain_remove_loop _]
   exact ih (i + 1) (by lia) hlt prog w A R _ ⟨hl, he, h⟩)⟩
theorem Zi4 {l : Addr} {items : Array Value} {n : Nat} {x : Value} {j : Nat} (hj : j < items.size) (hs1 : items.size <= sizeLine) : Meets (Builtin.«list.remove» ⟨[.ref l, x], []⟩)
   (λ A R s => s.heap.get? l = some { cls := .type "list", dict := none, data := .seq items n, slots := #[] } ∧ (∀ m (hm : m < items.size), m <= j -> SeqAt.EqAt A.in1 s items[m] x (decide (m = j))) ∧
    R (.ok (.ret .none)) { s with heap := s.heap.update l (Obj.mapSeq λ xs => xs.eraseIdxIfInBounds j) }) := by
 intro prog w A R s h
 obtain ⟨hp, g, d, tk, os⟩ := s; obtain ⟨hl, he, h⟩ := h
 wp_walk using wpAny_loadPart' hl
 exact ⟨plainId_quiet plain_remove_loop _, codeAny_builtin entry_remove_loop (by
  rw [Around.under_plainId plain_remove_loop _]
  exact Zi3 hj hs1 _ 0 rfl (Nat.zero_le _) prog w A R _ ⟨hl, he, h⟩)⟩
section
variable {c : Cx} {F : Fx}
theorem Zlm {φ : List Addr} {μ : St} {s : Shared} (R : Rep c F φ μ s) {v : Value} {x : PV} {is : List Int} (r : VR φ s.heap v x) (e : llOf μ.hp x = some is) : ∃ (a : Addr) (vs : List Value) (n : Nat), v = .ref a ∧ s.heap.get? a = some { cls := .type "list", data := .seq vs.toArray n } ∧ IntsAre vs is := by
 obtain ⟨zs, q3, q4⟩ := Option.bind_eq_some_iff.mp e
 obtain ⟨b, ws, n, rfl, q5, q6⟩ := Zfl R r q3
 exact ⟨b, ws, n, rfl, q5, Zdd q6 q4⟩
noncomputable def pLtL (x y : PV) : PM Bool := λ μ => match llOf μ.hp x, llOf μ.hp y with
 | some a, some b => .ok (ltL a b) μ
 | _, _ => .bad
noncomputable def bLtL (f g : PM PV) : PM Bool := f >>= λ x => g >>= λ y => pLtL x y
theorem Zq6 {v w : Value} {x y : PV} : Sim c F (V2 v w x y) (λ _ _ a b => a = .bool b) (compareOp .Lt v w) (pLtL x y) := by
 intro A φ μ s Q E hA R p hb hQ hE
 unfold pLtL at hb hQ
 cases h1 : llOf μ.hp x with
 | none => rw [h1] at hb; exact absurd rfl hb
 | some d =>
  cases h2 : llOf μ.hp y with
  | none => rw [h1, h2] at hb; exact absurd rfl hb
  | some e =>
   rw [h1, h2] at hQ
   obtain ⟨a, vs, n, rfl, ha, hx⟩ := Zlm R p.1 h1
   obtain ⟨b, ws, m, rfl, hb', hy⟩ := Zlm R p.2 h2
   exact Zhc (Nat.lt_of_le_of_lt (Nat.le_add_right _ _) hA.room) ha hb' hx hy (hQ _ _ _ _ _ rfl R Ext.refl rfl)
theorem Zph {l r : Expr} {pos : Pos} {f g : PM PV} (h : SimE c F l f) (h' : SimE c F r g) (hm : behindInMarks .Lt r = false) : SimB c F (.Compare l [.Lt] [r] pos) (bLtL f g) := Zg4 (p := pLtL) (λ _ _ _ _ => Zq6) h h' hm
theorem Zi5 {α β : Type} {f : α -> Option β} : ∀ {xs : List α} {ys : List β}, mapO f xs = some ys -> xs.length = ys.length
 | [], _, h => by cases h; rfl
 | x :: xs, ys, h => by
  rw [Zc2] at h
  cases e : f x with
  | none => rw [e] at h; cases h
  | some y =>
   rw [e] at h
   obtain ⟨zs, e2, rfl⟩ := Option.map_eq_some_iff.mp h
   exact congrArg Nat.succ (Zi5 e2)
noncomputable def remAt (y : PV) (xs : List PV) : PM Nat := λ μ => match reify μ.hp 16 y, mapO (reify μ.hp 16) xs with
 | some d, some ds => (match ds.findIdx? λ z => PyData.eqv z d with
  | some j => .ok j μ
  | none => .bad)
 | _, _ => .bad
theorem Zpi {y : PV} {xs : List PV} {μ : St} (h : remAt y xs μ ≠ .bad) : ∃ d ds j, reify μ.hp 16 y = some d ∧ mapO (reify μ.hp 16) xs = some ds ∧ (ds.findIdx? λ z => PyData.eqv z d) = some j ∧ remAt y xs μ = .ok j μ := by
 unfold remAt at h ⊢
 cases h1 : reify μ.hp 16 y with
 | none => rw [h1] at h; exact (h rfl).elim
 | some d =>
  cases h2 : mapO (reify μ.hp 16) xs with
  | none => rw [h1, h2] at h; exact (h rfl).elim
  | some ds =>
   rw [h1, h2] at h
   try dsimp only at h ⊢
   cases h3 : ds.findIdx? λ z => PyData.eqv z d with
   | none => rw [h3] at h; exact (h rfl).elim
   | some j => exact ⟨d, ds, j, rfl, rfl, h3, rfl⟩
noncomputable def pRemove (o : PV) : List PV -> PM PV
 | [y] => theLst o >>= λ p => chk (lenOk p.2) >>= λ _ => remAt y p.2 >>= λ j => putM p.1 (.lst (p.2.eraseIdx j)) >>= λ _ => pure .none
 | _ => PM.H
noncomputable def mRemove (fo : PM PV) (ga : PM (List PV)) : PM PV := fo >>= λ x => theLst x >>= λ _ => ga >>= pRemove x
theorem Zmx {o : Expr} {apos pos : Pos} {args : List Expr} {fo : PM PV} {ga : PM (List PV)} (hbase : attributeBase o "remove" F.env (eval o F.env) = eval o F.env) (hfew : hFew c F pos args) (hline : (apos.endLine == pos.line) = true)
  (h : SimE c F o fo) (hargs : CallArgs c F (starEach args F.env) ga) : SimE c F (.Call (.Attribute o "remove" apos) args [] pos) (mRemove fo ga) :=
 Zay hbase hfew hline PySem.F.plainAttrs_list PySem.F.slot_list_remove PySem.F.type_list_remove h Zaw hargs λ a x vs ys A φ μ s Q E hA R p hb hQ hE => by
  unfold pRemove at hb hQ
  split at hb
  ·rename_i y
   dsimp only at hQ
   obtain ⟨i, xs, et⟩ := Zaj (λ e => hb (by rw [PM.B, e]))
   obtain ⟨a', vs', n, ea, hi, hl, hvs, rfl⟩ := Zbh R p.1 et
   cases ea
   rw [PM.C et] at hb hQ
   obtain ⟨hln, e2⟩ := Zn hb
   rw [e2] at hb hQ
   obtain ⟨p1, p2⟩ := p
   cases p2 with
   | cons q r =>
   cases r
   dsimp only at hb hQ
   obtain ⟨d, ds, j, h1, h2, h3, h4⟩ := Zpi (λ e => hb (by rw [PM.B, e]))
   rw [PM.C h4] at hb hQ
   obtain ⟨g0, gl, gd⟩ := Zo R 16 q h1
   obtain ⟨_, r0⟩ := g0
   obtain ⟨hjl, hj1, hj2⟩ := List.findIdx?_eq_some_iff_getElem.mp h3
   have hlen := hvs.length
   have item : ∀ m, m < vs'.length -> ∃ dm, ds[m]? = some dm ∧ ∃ v, vs'[m]? = some v ∧ Good s.heap v dm 16 := λ m hm => by
    have hx : xs[m]? = some (xs[m]'(hlen ▸ hm)) := List.getElem?_eq_getElem _
    obtain ⟨dm, q1, q2⟩ := Zgt h2 hx
    obtain ⟨v, hv, hr⟩ := hvs.get hx
    exact ⟨dm, q2, v, hv, Zo R 16 hr q1⟩
   have hjv : j < vs'.length := by
    rw [hlen, Zi5 h2]; exact hjl
   have hroom := hA.room
   obtain ⟨R3, xD⟩ := R.relist (tk := s.toks) hi hl (g := λ xs => xs.eraseIdxIfInBounds j) (ws := vs'.eraseIdx j) (by simp) (hvs.eraseIdx j)
   refine call_meets PySem.F.slot_list_remove ⟨_, hl, rfl⟩ PySem.F.entry_list_remove (PySem.F.args_list_remove_2 _ _) (Zi4 (n := n) (j := j) (items := vs'.toArray) (by simpa using hjv) (by rw [size_toArray, hlen]; exact Zz hln)) ⟨hl, λ m hm hmj => ?_, hQ _ _ _ _ _ rfl R3 xD .none⟩
   have hm' : m < vs'.length := by simpa using hm
   obtain ⟨dm, q1, v, q2, ⟨_, rm⟩, lm, km⟩ := item m hm'
   have ev : vs'.toArray[m] = v := by
    simp only [List.getElem_toArray]
    exact (Qge q2)
   have ed : PyData.eqv dm d = decide (m = j) := by
    rcases Nat.lt_or_eq_of_le hmj with hlt | rfl
    ·rw [decide_eq_false (Nat.ne_of_lt hlt), <- (Qge q1)]
     exact Bool.eq_false_iff.mpr (hj2 m hlt)
    ·rw [decide_eq_true rfl, <- (Qge q1)]
     exact hj1
   rw [ev, <- ed]
   exact SeqAt.eqAt_reads dm d _ s v _ _ _ rm r0 lm gl (by
    have := Nat.min_le_left dm.depth d.depth
    have : A.in1.units = A.units + 1 := rfl
    lia)
  ·exact (hb rfl).elim
end

noncomputable def ltP (p q : List Int × List Int) : Bool := if p.1 = q.1 then (if p.2 = q.2 then false else ltL p.2 q.2) else ltL p.1 q.1
noncomputable def lsI : PV -> Option (List Int)
 | .lst xs => intsOf xs
 | _ => none
noncomputable def prOf : PV -> Option (List Int × List Int)
 | .tup [x, y] => (lsI x).bind λ a => (lsI y).map λ b => (a, b)
 | _ => none
noncomputable def ansP (ds : List (List Int × List Int)) (i j : Nat) : Bool := ltP (ds.getD i ([], [])) (ds.getD j ([], []))
noncomputable def sortP (ds : List (List Int × List Int)) (xs : List PV) : List PV := (kRun (ansP ds) (kas_sort xs.length)).toList.map λ i => xs.getD i .none
def LsAt (h : Heap) (a : Addr) (v : Value) (d : List Int) : Prop := ∃ x xs k, v = .ref x ∧ x ≠ a ∧ h.get? x = some { cls := .type "list", data := .seq (List.toArray xs) k } ∧ IntsAre xs d
def PrAt (h : Heap) (a : Addr) (v : Value) (d : List Int × List Int) : Prop :=
 ∃ t n p q, v = .ref t ∧ t ≠ a ∧ h.get? t = some { cls := .type "tuple", data := .seq (List.toArray [p, q]) n } ∧ LsAt h a p d.1 ∧ LsAt h a q d.2
section
variable {h h' : Heap} {a : Addr}
theorem LsAt.move {v : Value} {d : List Int} (k : ∀ b o, b ≠ a -> h.get? b = some o -> h'.get? b = some o) : LsAt h a v d -> LsAt h' a v d
 | ⟨x, xs, n, e, hx, hg, hi⟩ => ⟨x, xs, n, e, hx, k _ _ hx hg, hi⟩
theorem PrAt.move {v : Value} {d : List Int × List Int} (k : ∀ b o, b ≠ a -> h.get? b = some o -> h'.get? b = some o) : PrAt h a v d -> PrAt h' a v d
 | ⟨t, n, p, q, e, ht, hg, h1, h2⟩ => ⟨t, n, p, q, e, ht, k _ _ ht hg, h1.move k, h2.move k⟩
theorem Zgf {vs : List Value} {is : List Int} (hi : IntsAre vs is) : (∃ as, ReadsAll h vs (is.map .int) as) ∧ PyData.canLayAll0 (is.map .int) = true ∧ PyData.depthAll (is.map .int) <= 1 := by
 induction hi with
 | nil => exact ⟨⟨_, .nil⟩, rfl, Nat.zero_le _⟩
 | cons i t _ ih =>
  obtain ⟨⟨as, r⟩, l, d⟩ := ih
  exact ⟨⟨_, .cons (.int i t) r⟩, by rw [map_cons, PyData.canLayAll0, l]; rfl, by
   rw [map_cons, PyData.depthAll]
   exact Nat.max_le.mpr ⟨by rw [PyData.depth]; exact Nat.zero_le _, d⟩⟩
theorem Zln : ∀ (xs ys : List Int), PyData.eqvAll (xs.map .int) (ys.map .int) = decide (xs = ys)
 | [], [] => rfl
 | [], _ :: _ => rfl
 | _ :: _, [] => rfl
 | x :: xs, y :: ys => by
  rw [map_cons, map_cons, PyData.eqvAll, Zln xs ys, PyData.eqv, Bool.eq_iff_iff]
  simp
end
section
variable {prog : Program} {w : World} {A : Around} {s : Shared} {a : Addr}
theorem eq_ls {p q : Value} {x y : List Int} {Q : Bool -> Shared -> Prop} {E : Value -> Shared -> Prop} (hu : A.units + 2 < cLine) (h1 : LsAt s.heap a p x) (h2 : LsAt s.heap a q y) (h : Q (decide (x = y)) s) : wpAny (model prog w) A (eqBool p q) Q E s := by
 obtain ⟨u, us, k, rfl, _, g1, i1⟩ := h1
 obtain ⟨v, vs, m, rfl, _, g2, i2⟩ := h2
 obtain ⟨⟨as, r1⟩, l1, d1⟩ := Zgf (h := s.heap) i1
 obtain ⟨⟨bs, r2⟩, l2, d2⟩ := Zgf (h := s.heap) i2
 refine SeqAt.eqAt_reads (.list (x.map .int)) (.list (y.map .int)) A s _ _ _ _ (Za2 g1 rfl rfl r1) (Za2 g2 rfl rfl r2) l1 l2 ?_ prog w E Q ?_
 ·have := Nat.min_le_left (PyData.depth (.list (x.map .int))) (PyData.depth (.list (y.map .int)))
  have e : PyData.depth (.list (x.map .int)) = PyData.depthAll (x.map .int) + 1 := by rw [PyData.depth]
  lia
 ·rw [PyData.eqv, Zln]; exact h
theorem Zpj {v v' : Value} {x y : List Int × List Int} {Q : Bool -> Shared -> Prop} (hu : A.units + 2 < cLine) (h1 : PrAt s.heap a v x) (h2 : PrAt s.heap a v' y) (h : Q (ltP x y) s) : wpAny (model prog w) A (keyLt' (tuples' true) v v') Q (λ _ _ => False) s := by
 obtain ⟨t, n, p, q, rfl, _, g1, p1, q1⟩ := h1
 obtain ⟨t', n', p', q', rfl, _, g2, p2, q2⟩ := h2
 have hu' : A.units < cLine := Nat.lt_of_le_of_lt (Nat.le_add_right _ _) hu
 unfold ltP at h
 refine kat_lt g1 rfl g2 rfl (kat_cons (eq_ls hu p1 p2 (kat_go (λ e => kat_yes (kat_cons (eq_ls hu q1 q2 (kat_go (λ e' => kat_yes (kat_nil ?_)) λ e' => kat_no (kat_one _ _ ?_))))) λ e => kat_no ?_)))
 ·rw [if_pos (of_decide_eq_true e), if_pos (of_decide_eq_true e')] at h
  exact h
 ·rw [if_pos (of_decide_eq_true e), if_neg (of_decide_eq_false e')] at h
  obtain ⟨u, us, k, rfl, _, g1, i1⟩ := q1
  obtain ⟨v, vs, m, rfl, _, g2, i2⟩ := q2
  exact Zhc hu' g1 g2 i1 i2 h
 ·rw [if_neg (of_decide_eq_false e)] at h
  obtain ⟨u, us, k, rfl, _, g1, i1⟩ := p1
  obtain ⟨v, vs, m, rfl, _, g2, i2⟩ := p2
  exact Zpf hu' g1 g2 i1 i2 h
theorem Zlo {M : Model} {h : Heap} : ∀ vs : List Value, (∀ v ∈ vs, ∃ d, PrAt h a v d) -> ∃ fs, fs.length = vs.length ∧ KatTups h vs fs ∧ ∀ f ∈ fs, Looks M h (typeOf f) (.type "list")
 | [], _ => ⟨[], rfl, .nil, λ _ m => nomatch m⟩
 | v :: vs, q => by
  obtain ⟨fs, e, k, l⟩ := Zlo vs λ v m => q v (.tail _ m)
  obtain ⟨d, t, n, p, p', rfl, _, g, ⟨u, us, m, rfl, _, gu, _⟩, _⟩ := q v (.head _)
  refine ⟨.ref u :: fs, congrArg Nat.succ e, .cons g rfl rfl rfl k, λ f hf => ?_⟩
  rcases Qmc hf with rfl | hf
  ·exact λ A Q E s' k q => wpAny_typeOf ⟨_, k _ _ gu, rfl⟩ q
  ·exact l f hf
end
theorem VR.un_tup {φ : List Addr} {h : Heap} {v : Value} {x : PV} (r : VR φ h v x) : ∀ {xs}, x = .tup xs -> ∃ a vs n, v = .ref a ∧ h.get? a = some { cls := .type "tuple", data := .seq (List.toArray vs) n } ∧ a ∉ φ ∧ VRs φ h vs xs := by
 induction r using VR.cs with
 | tup h1 h2 h3 => intro xs e; cases e; exact ⟨_, _, _, rfl, h1, h2, h3⟩
 | _ => intro xs e; cases e
section
variable {c : Cx} {F : Fx}
theorem Zoa {φ : List Addr} {h : Heap} {a : Addr} {v : Value} {x : PV} {d : List Int} (ha : a ∈ φ) (r : VR φ h v x) (e : lsI x = some d) : LsAt h a v d := by
 cases x with
 | lst xs =>
  obtain ⟨u, us, n, rfl, g, hm, rs⟩ := r.un_lst rfl
  exact ⟨u, us, n, rfl, λ e => hm (e ▸ ha), g, Zdd rs e⟩
 | _ => exact Zf e
theorem Zq7 {φ : List Addr} {h : Heap} {a : Addr} {v : Value} {x : PV} {d : List Int × List Int} (ha : a ∈ φ) (r : VR φ h v x) (e : prOf x = some d) : PrAt h a v d := by
 obtain ⟨y, z, rfl⟩ : ∃ y z, x = .tup [y, z] := by
  clear r
  unfold prOf at e
  split at e
  ·exact ⟨_, _, rfl⟩
  ·exact Zf e
 obtain ⟨b, e1, e2⟩ := Option.bind_eq_some_iff.mp (show (lsI y).bind (λ a => (lsI z).map λ b => (a, b)) = some d from e)
 obtain ⟨b', e3, rfl⟩ := Option.map_eq_some_iff.mp e2
 obtain ⟨t, us, n, rfl, g, hm, rs⟩ := r.un_tup rfl
 cases rs with
 | cons r1 rs =>
 cases rs with
 | cons r2 rs =>
 cases rs
 exact ⟨t, n, _, _, rfl, λ e => hm (e ▸ ha), g, Zoa ha r1 e1, Zoa ha r2 e3⟩
noncomputable def prsM (xs : List PV) : PM (List (List Int × List Int)) := λ μ => match mapO prOf xs with
 | some ds => .ok ds μ
 | none => .bad
theorem Zq8 {xs : List PV} {μ : St} (h : prsM xs μ ≠ .bad) : ∃ ds, mapO prOf xs = some ds ∧ prsM xs μ = .ok ds μ := by
 unfold prsM at h ⊢
 cases h2 : mapO prOf xs with
 | none => rw [h2] at h; exact (h rfl).elim
 | some ds => exact ⟨ds, rfl, rfl⟩
noncomputable def pSortP (o : PV) : List PV -> PM PV
 | [] => theLst o >>= λ p => chk (decide (p.2.length < 64)) >>= λ _ => prsM p.2 >>= λ ds => putM p.1 (.lst (sortP ds p.2)) >>= λ _ => pure .none
 | _ => PM.H
noncomputable def mSortP (fo : PM PV) (ga : PM (List PV)) : PM PV := fo >>= λ x => theLst x >>= λ _ => ga >>= pSortP x
theorem Zob {o : Expr} {apos pos : Pos} {args : List Expr} {fo : PM PV} {ga : PM (List PV)} (hbase : attributeBase o "sort" F.env (eval o F.env) = eval o F.env) (hfew : hFew c F pos args) (hline : (apos.endLine == pos.line) = true)
  (h : SimE c F o fo) (hargs : CallArgs c F (starEach args F.env) ga) : SimE c F (.Call (.Attribute o "sort" apos) args [] pos) (mSortP fo ga) :=
 Zay hbase hfew hline PySem.F.plainAttrs_list slot_list_sort PySem.F.type_list_sort h Zaw hargs λ a x vs ys A φ μ s Q E hA R p hb hQ hE => by
  unfold pSortP at hb hQ
  split at hb
  ·dsimp only at hQ
   obtain ⟨i, xs, et⟩ := Zaj (λ e => hb (by rw [PM.B, e]))
   obtain ⟨a', vs', n, ea, hi, hl, hvs, rfl⟩ := Zbh R p.1 et
   cases ea
   rw [PM.C et] at hb hQ
   obtain ⟨h64, e2⟩ := Zn hb
   rw [e2] at hb hQ
   obtain ⟨p1, p2⟩ := p
   cases p2
   dsimp only at hb hQ
   obtain ⟨ds, h2, h4⟩ := Zq8 (λ e => hb (by rw [PM.B, e]))
   rw [PM.C h4] at hb hQ
   have hm : a ∈ φ := mem_of_getElem? hi
   have hlen := hvs.length
   have h64' : vs'.length < 64 := by rw [hlen]; exact of_decide_eq_true h64
   have item : ∀ i, i < vs'.length -> PrAt s.heap a (vs'.getD i .none) (ds.getD i ([], [])) := λ i hi => by
    have hx : xs[i]? = some (xs[i]'(hlen ▸ hi)) := List.getElem?_eq_getElem _
    obtain ⟨d, q1, q2⟩ := Zgt h2 hx
    obtain ⟨w, hw, hr⟩ := hvs.get hx
    rw [getD_eq_getElem?_getD, getD_eq_getElem?_getD, hw, q2]
    exact Zq7 hm hr q1
   have hroom := hA.room
   refine wpAny_call_entry slot_list_sort ⟨_, hl, rfl⟩ entry_list_sort (Zhp (κ := tuples' true) (ans := ansP ds) hl h64' (λ h2 h' hk Q hq => ?_) (λ h' hk i j C hi hj hC => ?_) ⟨_, rfl, ?_⟩) (args_list_sort _)
   ·obtain ⟨fs, e1, e2, e3⟩ := Zlo (M := model c.prog c.w) (h := h') vs' λ v hv => by
     obtain ⟨i, hi⟩ := List.getElem?_of_mem hv
     have := item i (Qgl hi)
     rw [getD_eq_getElem?_getD, hi] at this
     exact ⟨_, this.move hk⟩
    exact kat_kind (T := .type "list") e2 (by lia) e3 (by decide) hq
   ·exact Zpj (by show A.units + 1 + 2 < cLine; lia) ((item i hi).move hk) ((item j hj).move hk) hC
   ·obtain ⟨RB, xB⟩ := R.relist (tk := s.toks) hi hl (g := λ _ => #[]) (ws := []) (ys := []) rfl .nil
    obtain ⟨RC, x2⟩ := RB.push (seqObj "tuple" vs'.toArray 0) (tk := s.toks)
    obtain ⟨R3, xD⟩ := RC.push (seqObj "list" #[] 0) (tk := s.toks)
    have x := (xB.trans x2).trans xD
    obtain ⟨k, hk⟩ : ∃ k, IsL (((s.heap.update a (Obj.mapSeq λ _ => #[])).push (seqObj "tuple" vs'.toArray 0)).push (seqObj "list" #[] 0)) a (List.toArray []) k := by
     obtain ⟨e1, ho1⟩ : ∃ e1, (s.heap.update a (Obj.mapSeq λ _ => #[])).get? a = some (seqObj "list" #[] e1) := ⟨_, get?_update_seq hl (λ _ => #[])⟩
     exact ⟨e1, Heap.get?_push_of_some _ (Heap.get?_push_of_some _ ho1)⟩
    obtain ⟨R4, x4⟩ := R3.relist (tk := s.toks) hi hk (g := λ _ => (kRun (ansP ds) (kas_sort vs'.length)).map λ i => vs'.getD i .none) (ws := (kRun (ansP ds) (kas_sort vs'.length)).toList.map λ i => vs'.getD i .none) (ys := sortP ds xs) (by rw [<- Array.toList_map]) (by
     unfold sortP
     rw [<- hlen]
     exact Zi2 hvs (λ v y r => r.ext R x) _)
    refine hQ _ _ _ _ _ rfl ?_ (x.trans x4) .none
    have : (μ.hp.set i (.lst [])).set i (.lst (sortP ds xs)) = μ.hp.set i (.lst (sortP ds xs)) := set_set _
    exact this ▸ R4
  ·exact (hb rfl).elim
end
end Mine
namespace Mine
open PySem PySem.W PyProof.Rows PySem.Calls PySem.MeetsSeq

noncomputable def d : Ad := ⟨40, 55, 137⟩
noncomputable def Zec (d : Ad) : PM MF := sSeq (sAsg (getVar 1) (tAttr (pSetSlot d.NI 0) (getVar 0))) (sSeq (sAsg (pure (PV.int 0)) (tAttr (pSetSlot d.NI 1) (getVar 0))) (sSeq (sAsg (eList true (pure [])) (tAttr (pSetSlot d.NI 2) (getVar 0))) (sNext)))
noncomputable def Zkr : List PV -> Option (List PV)
 | [x0, x1] => some [x0, x1]
 | _ => none
noncomputable def Zed (d : Ad) : List PV -> PM PV := callF Zkr (Zec d)
noncomputable def Zde (d : Ad) : PM MF := sSeq (sIf (bCmp .Is (eWal (mDictGet (eAttr d.TS ("_node2info" : Str) (getVar 0)) (argC (getVar 1) (pure []))) (setVar 2)) (pure PV.none)) (sSeq (sAsg2 ((argC (getVar 1) (pure [])) >>= newM d.NI true (Zed d)) (tSub (eAttr d.TS ("_node2info" : Str) (getVar 0)) (getVar 1)) (setVar 2)) (sNext)) (sNext)) (sSeq (sRet (getVar 2)) (sNext))
noncomputable def Zi6 : List PV -> Option (List PV)
 | [x0, x1] => some [x0, x1, .undef]
 | _ => none
noncomputable def Zb7 (d : Ad) : List PV -> PM PV := callF Zi6 (Zde d)
noncomputable def Zlp (d : Ad) : PM MF := sSeq (sAsg (eMeth d.TS ("_get_nodeinfo" : Str) (getVar 0) (argC (getVar 4) (pure [])) (Zb7 d)) (setVar 5)) (sSeq (sExpr (mAppend (eSlot d.NI 2 (getVar 5)) (getVar 1))) (sNext))
noncomputable def g_add (d : Ad) : PM MF := sSeq (sIf (bCmp .IsNot (eAttr d.TS ("_ready_nodes" : Str) (getVar 0)) (pure PV.none)) (sSeq (PM.H) (sNext)) (sNext)) (sSeq (sAsg (eMeth d.TS ("_get_nodeinfo" : Str) (getVar 0) (argC (getVar 1) (pure [])) (Zb7 d)) (setVar 3)) (sSeq (sAugAttr .Add (getVar 3) (pSlot d.NI 1) (pSetSlot d.NI 1) ((argC (getVar 2) (pure [])) >>= pLen)) (sSeq (sFor (getVar 2) (setVar 4) (Zlp d) fuel) (sNext))))
noncomputable def Zq9 : List PV -> Option (List PV)
 | x0 :: x1 :: r => (match lenOk r with
  | true => some [x0, x1, .tup r, .undef, .undef, .undef]
  | false => none)
 | _ => none
noncomputable def k_add (d : Ad) : List PV -> PM PV := callF Zq9 (g_add d)
noncomputable def Zee (d : Ad) : PM MF := sSeq (sAsg (eDict) (tAttr (pSetAttr d.TS ("_node2info" : Str)) (getVar 0))) (sSeq (sAsg (pure PV.none) (tAttr (pSetAttr d.TS ("_ready_nodes" : Str)) (getVar 0))) (sSeq (sAsg (pure (PV.int 0)) (tAttr (pSetAttr d.TS ("_npassedout" : Str)) (getVar 0))) (sSeq (sAsg (pure (PV.int 0)) (tAttr (pSetAttr d.TS ("_nfinished" : Str)) (getVar 0))) (sSeq (sIf (bCmp .IsNot (getVar 1) (pure PV.none)) (sSeq (PM.H) (sNext)) (sNext)) (sNext)))))
noncomputable def Zks : List PV -> Option (List PV)
 | [x0, x1] => some [x0, x1, .undef, .undef]
 | [x0] => some [x0, .none, .undef, .undef]
 | _ => none
noncomputable def Zco (d : Ad) : List PV -> PM PV := callF Zks (Zee d)
noncomputable def Zch (d : Ad) : PM MF := sSeq (tryM (sSeq (sAsg (eNextCall (eSub (getVar 3) (eNeg (pure (PV.int 1))))) (setVar 6)) (sSeq (pure .brk) (sNext))) [((isStopIteration d), sSeq (sDel (getVar 5) (mPop (getVar 2))) (sSeq (sExpr (mPop (getVar 3))) (sNext)))]) (sNext)
noncomputable def Zci (d : Ad) : PM MF := sSeq (sIf (bCmp .In (getVar 6) (getVar 4)) (sSeq (sIf (bCmp .In (getVar 6) (getVar 5)) (sSeq (sRet (eCat false (eSlice false (getVar 2) (eSub (getVar 5) (getVar 6))) (eList false (argC (getVar 6) (pure []))))) (sNext)) (sNext)) (sNext)) (sSeq (sExpr (mSetAdd (getVar 4) (argC (getVar 6) (pure [])))) (sSeq (sExpr (mAppend (getVar 3) (eNxt ((argC (eSlot d.NI 2 (eSub (getVar 1) (getVar 6))) (pure [])) >>= pIter)))) (sSeq (sAsg ((argC (getVar 2) (pure [])) >>= pLen) (tSub (getVar 5) (getVar 6))) (sSeq (sExpr (mAppend (getVar 2) (getVar 6))) (sNext)))))) (sSeq (whileM (bVal (getVar 2)) (Zch d) (sSeq (pure .brk) (sNext)) fuel) (sNext))
noncomputable def Zi7 (d : Ad) : PM MF := sSeq (sIf (bCmp .In (getVar 6) (getVar 4)) (sSeq (pure .cont) (sNext)) (sNext)) (sSeq (whileM (bVal (pure (PV.bool true))) (Zci d) (sNext) fuel) (sNext))
noncomputable def Zi8 (d : Ad) : PM MF := sSeq (sAsg (eAttr d.TS ("_node2info" : Str) (getVar 0)) (setVar 1)) (sSeq (sAsg (eList true (pure [])) (setVar 2)) (sSeq (sAsg (eList true (pure [])) (setVar 3)) (sSeq (sAsg ((pure []) >>= (noneM pSet)) (setVar 4)) (sSeq (sAsg (eDict) (setVar 5)) (sSeq (sFor (getVar 1) (setVar 6) (Zi7 d) fuel) (sSeq (sRet (pure PV.none)) (sNext)))))))
noncomputable def Zpk : List PV -> Option (List PV)
 | [x0] => some [x0, .undef, .undef, .undef, .undef, .undef, .undef]
 | _ => none
noncomputable def Zgg (d : Ad) : List PV -> PM PV := callF Zpk (Zi8 d)
noncomputable def Zfe (d : Ad) : Nat -> PV -> PM Unit := tfB (setVar 3) (bCmp .Eq (eSlot d.NI 1 (getVar 3)) (pure (PV.int 0))) (eSlot d.NI 0 (getVar 3))
noncomputable def Zef (d : Ad) : PM MF := sSeq (sIf (bCmp .IsNot (eAttr d.TS ("_ready_nodes" : Str) (getVar 0)) (pure PV.none)) (sSeq (PM.H) (sNext)) (sNext)) (sSeq (sAsg (compM fuel 2 (mValues (eAttr d.TS ("_node2info" : Str) (getVar 0)) (pure [])) (Zfe d)) (tAttr (pSetAttr d.TS ("_ready_nodes" : Str)) (getVar 0))) (sSeq (sAsg (eMeth d.TS ("_find_cycle" : Str) (getVar 0) (pure []) (Zgg d)) (setVar 1)) (sSeq (sIf (bVal (getVar 1)) (sSeq (sRaise (.ref d.CE) (argC (pure (PV.str ("nodes are in a cycle" : Str))) (argC (getVar 1) (pure [])))) (sNext)) (sNext)) (sNext))))
noncomputable def Zkt : List PV -> Option (List PV)
 | [x0] => some [x0, .undef]
 | _ => none
noncomputable def Zeg (d : Ad) : List PV -> PM PV := callF Zkt (Zef d)
noncomputable def Zdm (d : Ad) : PM MF := sSeq (sAsg (pure (PV.int (-1))) (tAttr (pSetSlot d.NI 1) (eSub (getVar 2) (getVar 3)))) (sNext)
noncomputable def Zcy (d : Ad) : PM MF := sSeq (sIf (bCmp .Is (eAttr d.TS ("_ready_nodes" : Str) (getVar 0)) (pure PV.none)) (sSeq (PM.H) (sNext)) (sNext)) (sSeq (sAsg ((argC (eAttr d.TS ("_ready_nodes" : Str) (getVar 0)) (pure [])) >>= pTuple) (setVar 1)) (sSeq (sAsg (eAttr d.TS ("_node2info" : Str) (getVar 0)) (setVar 2)) (sSeq (sFor (getVar 1) (setVar 3) (Zdm d) fuel) (sSeq (sExpr (mClear (eAttr d.TS ("_ready_nodes" : Str) (getVar 0)))) (sSeq (sAugAttr .Add (getVar 0) (pAttr d.TS ("_npassedout" : Str)) (pSetAttr d.TS ("_npassedout" : Str)) ((argC (getVar 1) (pure [])) >>= pLen)) (sSeq (sRet (getVar 1)) (sNext)))))))
noncomputable def Zhq : List PV -> Option (List PV)
 | [x0] => some [x0, .undef, .undef, .undef]
 | _ => none
noncomputable def Zbt (d : Ad) : List PV -> PM PV := callF Zhq (Zcy d)
noncomputable def Zcz (d : Ad) : PM MF := sSeq (sIf (bCmp .Is (eAttr d.TS ("_ready_nodes" : Str) (getVar 0)) (pure PV.none)) (sSeq (PM.H) (sNext)) (sNext)) (sSeq (sRet (eOr (eCmp .Lt (eAttr d.TS ("_nfinished" : Str) (getVar 0)) (eAttr d.TS ("_npassedout" : Str) (getVar 0))) ((argC (eAttr d.TS ("_ready_nodes" : Str) (getVar 0)) (pure [])) >>= pBool))) (sNext))
noncomputable def Zhr : List PV -> Option (List PV)
 | [x0] => some [x0]
 | _ => none
noncomputable def Zbu (d : Ad) : List PV -> PM PV := callF Zhr (Zcz d)
noncomputable def Zfu (d : Ad) : PM MF := sSeq (sAsg (eSub (getVar 2) (getVar 6)) (setVar 7)) (sSeq (sAugAttr .Sub (getVar 7) (pSlot d.NI 1) (pSetSlot d.NI 1) (pure (PV.int 1))) (sSeq (sIf (bCmp .Eq (eSlot d.NI 1 (getVar 7)) (pure (PV.int 0))) (sSeq (sExpr (mAppend (eAttr d.TS ("_ready_nodes" : Str) (getVar 0)) (getVar 6))) (sNext)) (sNext)) (sNext)))
noncomputable def Zfv (d : Ad) : PM MF := sSeq (sIf (bCmp .Is (eWal (mDictGet (getVar 2) (argC (getVar 3) (pure []))) (setVar 4)) (pure PV.none)) (sSeq (PM.H) (sNext)) (sNext)) (sSeq (sAsg (eSlot d.NI 1 (getVar 4)) (setVar 5)) (sSeq (sIf (bCmp .NotEq (getVar 5) (pure (PV.int (-1)))) (sSeq (sIf (bCmp .GtE (getVar 5) (pure (PV.int 0))) (sSeq (PM.H) (sNext)) (sSeq (sIf (bCmp .Eq (getVar 5) (pure (PV.int (-2)))) (sSeq (PM.H) (sNext)) (sSeq (PM.H) (sNext))) (sNext))) (sNext)) (sNext)) (sSeq (sAsg (pure (PV.int (-2))) (tAttr (pSetSlot d.NI 1) (getVar 4))) (sSeq (sFor (eSlot d.NI 2 (getVar 4)) (setVar 6) (Zfu d) fuel) (sSeq (sAugAttr .Add (getVar 0) (pAttr d.TS ("_nfinished" : Str)) (pSetAttr d.TS ("_nfinished" : Str)) (pure (PV.int 1))) (sNext))))))
noncomputable def Zi9 (d : Ad) : PM MF := sSeq (sIf (bCmp .Is (eAttr d.TS ("_ready_nodes" : Str) (getVar 0)) (pure PV.none)) (sSeq (PM.H) (sNext)) (sNext)) (sSeq (sAsg (eAttr d.TS ("_node2info" : Str) (getVar 0)) (setVar 2)) (sSeq (sFor (getVar 1) (setVar 3) (Zfv d) fuel) (sNext)))
noncomputable def Zpl : List PV -> Option (List PV)
 | x0 :: r => (match lenOk r with
  | true => some [x0, .tup r, .undef, .undef, .undef, .undef, .undef, .undef]
  | false => none)
 | _ => none
noncomputable def Zgh (d : Ad) : List PV -> PM PV := callF Zpl (Zi9 d)

noncomputable def Zb0 (d : Ad) : PM MF := sSeq (sExpr (mAppend (getVar 5) (mPopAt (getVar 6) (eBin .Mod (getVar 4) (getVar 7))))) (sSeq (sAsg (eBin .FloorDiv (getVar 4) (getVar 7)) (setVar 4)) (sNext))
noncomputable def Zhs (d : Ad) : Nat -> PV -> PM Unit := tfA (setVar 9) (eBin .FloorDiv (getVar 9) (pure (PV.int 25)))
noncomputable def Zht (d : Ad) : Nat -> PV -> PM Unit := tfA (setVar 9) (eTup (argC (eBin .Mod (getVar 9) (pure (PV.int 5))) (argC (eBin .Mod (eBin .FloorDiv (getVar 9) (pure (PV.int 5))) (pure (PV.int 5))) (pure []))))
noncomputable def Zb1 (d : Ad) : PM MF := sSeq (sIf (bCmp .Lt (getVar 2) (pure (PV.int 8))) (sSeq (sExpr (mAppend (getVar 1) (eSub (getVar 0) (getVar 2)))) (sNext)) (sSeq (sAugSub .Add (getVar 1) (eBin .Mod (getVar 2) (pure (PV.int 8))) (eSub (getVar 0) (getVar 2))) (sNext))) (sNext)
noncomputable def g_law_drawn (d : Ad) : PM MF := sSeq (sAsg (eList true (pure [])) (setVar 1)) (sSeq (sFor ((argC ((argC (getVar 0) (pure [])) >>= pLen) (pure [])) >>= pRange) (setVar 2) (Zb1 d) fuel) (sSeq (sAsg (compM fuel 2 (getVar 1) (Zht d)) (setVar 3)) (sSeq (sAsg ((argC (compM fuel 2 (getVar 1) (Zhs d)) (pure [])) >>= pSum) (setVar 4)) (sSeq (sAsg (eList true (pure [])) (setVar 5)) (sSeq (sAsg (eList true (argC (pure (PV.int 0)) (argC (pure (PV.int 1)) (argC (pure (PV.int 2)) (argC (pure (PV.int 3)) (argC (pure (PV.int 4)) (pure []))))))) (setVar 6)) (sSeq (sFor (eTup (argC (pure (PV.int 5)) (argC (pure (PV.int 4)) (argC (pure (PV.int 3)) (argC (pure (PV.int 2)) (argC (pure (PV.int 1)) (pure []))))))) (setVar 7) (Zb0 d) fuel) (sSeq (sRet (eTup (argC (getVar 5) (argC (getVar 3) (pure []))))) (sNext))))))))
noncomputable def Zhu : List PV -> Option (List PV)
 | [x0] => some [x0, .undef, .undef, .undef, .undef, .undef, .undef, .undef]
 | _ => none
noncomputable def Zc0 (d : Ad) : List PV -> PM PV := callF Zhu (g_law_drawn d)
noncomputable def Zx (d : Ad) : PM MF := sSeq (sIf (bAnd (bCmp .Eq (eSub (eSub (getVar 1) (getVar 3)) (pure (PV.int 0))) (getVar 7)) (bAnd (bCmp .NotIn (eSub (eSub (getVar 1) (getVar 3)) (pure (PV.int 1))) (getVar 6)) (pure true))) (sSeq (sExpr (mAppend (getVar 4) (eTup (argC (eCat false (getVar 5) (eList false (argC (getVar 3) (pure [])))) (argC (eCat false (getVar 6) (eList false (argC (eSub (eSub (getVar 1) (getVar 3)) (pure (PV.int 1))) (pure [])))) (pure [])))))) (sNext)) (sNext)) (sNext)
noncomputable def Za1 (d : Ad) : PM MF := sSeq (sAsg (mPop (getVar 4)) (asgTup [setVar 5, setVar 6])) (sSeq (sAsg (eSub (getVar 6) (eNeg (pure (PV.int 1)))) (setVar 7)) (sSeq (sIf (bOr (bCmp .NotIn (getVar 7) (getVar 2)) (bOr (bLtL (getVar 5) (eSub (eSub (getVar 2) (getVar 7)) (pure (PV.int 0)))) (pure false))) (sSeq (sAsg (eTup (argC (getVar 5) (argC (getVar 6) (pure [])))) (tSub (getVar 2) (getVar 7))) (sNext)) (sNext)) (sSeq (sFor ((argC ((argC (getVar 1) (pure [])) >>= pLen) (pure [])) >>= pRange) (setVar 3) (Zx d) fuel) (sNext))))
noncomputable def Zeh (d : Ad) : Nat -> PV -> PM Unit := tfA (setVar 9) (eTup (argC (eList false (argC (getVar 9) (pure []))) (argC (eList false (argC (eSub (getVar 0) (getVar 9)) (pure []))) (pure []))))
noncomputable def g_law_first_ways (d : Ad) : PM MF := sSeq (sAsg (eDict) (setVar 2)) (sSeq (sAsg (compM fuel 2 ((argC ((argC (getVar 0) (pure [])) >>= pLen) (pure [])) >>= pRange) (Zeh d)) (setVar 4)) (sSeq (whileM (bVal (getVar 4)) (Za1 d) (sNext) fuel) (sSeq (sRet (getVar 2)) (sNext))))
noncomputable def Zei : List PV -> Option (List PV)
 | [x0, x1] => some [x0, x1, .undef, .undef, .undef, .undef, .undef, .undef]
 | _ => none
noncomputable def Za9 (d : Ad) : List PV -> PM PV := callF Zei (g_law_first_ways d)
noncomputable def Zhv (d : Ad) : Nat -> PV -> PM Unit := tfA (asgTup [setVar 10, setVar 11]) (getVar 11)
noncomputable def Zb2 (d : Ad) : PM MF := sSeq (sAsg (eSub (getVar 1) (getVar 4)) (asgTup [setVar 5, setVar 6])) (sSeq (sAsg (eSub (getVar 2) (getVar 5)) (asgTup [setVar 7, setVar 8])) (sSeq (sIf (bCmp .In (getVar 6) (getVar 8)) (sSeq (sExpr (mAppend (getVar 3) (eTup (argC (eCat false (getVar 7) (eList false (argC (getVar 4) (pure [])))) (argC (eCat false (eSlice false (getVar 8) (mIndex (getVar 8) (argC (getVar 6) (pure [])))) (eList false (argC (getVar 6) (pure [])))) (pure [])))))) (sNext)) (sNext)) (sNext)))
noncomputable def g_law_rings (d : Ad) : PM MF := sSeq (sAsg ((argC (getVar 0) (argC (getVar 1) (pure []))) >>= Za9 d) (setVar 2)) (sSeq (sAsg (eList true (pure [])) (setVar 3)) (sSeq (sFor ((argC ((argC (getVar 1) (pure [])) >>= pLen) (pure [])) >>= pRange) (setVar 4) (Zb2 d) fuel) (sSeq (sExpr (mSortP (getVar 3) (pure []))) (sSeq (sRet (compM fuel 3 (getVar 3) (Zhv d))) (sNext)))))
noncomputable def Zhw : List PV -> Option (List PV)
 | [x0, x1] => some [x0, x1, .undef, .undef, .undef, .undef, .undef, .undef, .undef]
 | _ => none
noncomputable def Zbv (d : Ad) : List PV -> PM PV := callF Zhw (g_law_rings d)
noncomputable def Zlq (d : Ad) : Nat -> PV -> PM Unit := tfA (asgTup [setVar 15, setVar 16]) (eCmp .Lt (mIndex (getVar 12) (argC (getVar 15) (pure []))) (mIndex (getVar 12) (argC (getVar 16) (pure []))))
noncomputable def Zez (d : Ad) : PM MF := sSeq (sAsg (eMeth d.TS ("get_ready" : Str) (getVar 6) (pure []) (Zbt d)) (setVar 13)) (sSeq (sExpr (mExtend (getVar 12) (argC (getVar 13) (pure [])))) (sSeq (sExpr (eMeth d.TS ("done" : Str) (getVar 6) (argS (getVar 13)) (Zgh d))) (sNext)))
noncomputable def Zgu (d : Ad) : PM MF := sSeq (sExpr (eMeth d.TS ("add" : Str) (getVar 6) (argC (getVar 9) (argC (getVar 8) (pure []))) (k_add d))) (sNext)
noncomputable def Zgv (d : Ad) : PM MF := sSeq (sExpr (eMeth d.TS ("add" : Str) (getVar 6) (argC (getVar 7) (pure [])) (k_add d))) (sNext)
noncomputable def Zgw (d : Ad) : PM MF := sSeq (sAsg ((pure []) >>= newM d.TS false (Zco d)) (setVar 6)) (sSeq (sFor (getVar 1) (setVar 7) (Zgv d) fuel) (sSeq (sFor (getVar 3) (asgTup [setVar 8, setVar 9]) (Zgu d) fuel) (sSeq (sAsg (eMeth d.TS ("_find_cycle" : Str) (getVar 6) (pure []) (Zgg d)) (setVar 10)) (sSeq (sAsg (pure (PV.bool false)) (setVar 11)) (sSeq (tryM (sSeq (sExpr (eMeth d.TS ("prepare" : Str) (getVar 6) (pure []) (Zeg d))) (sNext)) [((isCE d), sSeq (sAsg (pure (PV.bool true)) (setVar 11)) (sNext))]) (sSeq (sIf (bCmp .NotEq (getVar 11) (eCmp .IsNot (getVar 10) (pure PV.none))) (sSeq (sRet (pure (PV.bool false))) (sNext)) (sNext)) (sSeq (sIf (bCmp .Is (getVar 10) (pure PV.none)) (sSeq (pure .brk) (sNext)) (sNext)) (sSeq (sExpr (mAppend (getVar 4) (getVar 10))) (sSeq (sIf (bOr (bCmp .Lt ((argC (getVar 10) (pure [])) >>= pLen) (pure (PV.int 2))) (bOr (bCmp .NotIn (eTup (argC (eSub (getVar 10) (eNeg (pure (PV.int 2)))) (argC (eSub (getVar 10) (eNeg (pure (PV.int 1)))) (pure [])))) (getVar 3)) (pure false))) (sSeq (sRet (pure (PV.bool false))) (sNext)) (sNext)) (sSeq (sExpr (mRemove (getVar 3) (argC (eTup (argC (eSub (getVar 10) (eNeg (pure (PV.int 2)))) (argC (eSub (getVar 10) (eNeg (pure (PV.int 1)))) (pure [])))) (pure [])))) (sNext)))))))))))
noncomputable def g_law (d : Ad) : PM MF := sSeq (sAsg ((argC (getVar 0) (pure [])) >>= Zc0 d) (asgTup [setVar 1, setVar 2])) (sSeq (sAsg ((argC (getVar 2) (pure [])) >>= (oneM pListOf)) (setVar 3)) (sSeq (sAsg (eList true (pure [])) (setVar 4)) (sSeq (sFor ((argC (eBin .Add ((argC (getVar 2) (pure [])) >>= pLen) (pure (PV.int 1))) (pure [])) >>= pRange) (setVar 5) (Zgw d) fuel) (sSeq (sIf (bCmp .NotEq (getVar 4) ((argC (getVar 1) (argC (getVar 2) (pure []))) >>= Zbv d)) (sSeq (sRet (pure (PV.bool false))) (sNext)) (sNext)) (sSeq (sAsg (eList true (pure [])) (setVar 12)) (sSeq (sFor ((argC ((argC (getVar 1) (pure [])) >>= pLen) (pure [])) >>= pRange) (setVar 5) (Zez d) fuel) (sSeq (sIf (bOr (bCmp .NotEq ((argC (getVar 12) (pure [])) >>= pSortIntsL) ((argC (getVar 1) (pure [])) >>= pSortIntsL)) (bOr (bVal (eMeth d.TS ("is_active" : Str) (getVar 6) (pure []) (Zbu d))) (pure false))) (sSeq (sRet (pure (PV.bool false))) (sNext)) (sNext)) (sSeq (sRet ((argC (compM fuel 3 (getVar 3) (Zlq d)) (pure [])) >>= pAll)) (sNext)))))))))
noncomputable def Zra : List PV -> Option (List PV)
 | [x0] => some [x0, .undef, .undef, .undef, .undef, .undef, .undef, .undef, .undef, .undef, .undef, .undef, .undef, .undef]
 | _ => none
noncomputable def k_law (d : Ad) : List PV -> PM PV := callF Zra (g_law d)

noncomputable def Zak : Stmt := stAt (bodySt (stAt PySem.Challenge.pw_sr0004_01.main.body 4)) 1
noncomputable def Zmy : List (Str × NameKind) := [(("self" : Str), .local), (("node" : Str), .local)]
noncomputable def Zmz : List (Str × Nat) := [(("self" : Str), 0), (("node" : Str), 1)]
noncomputable def Zaa : Stmt := stAt (bodySt (stAt PySem.Challenge.pw_sr0004_01.main.body 6)) 1
noncomputable def Zku : List (Str × NameKind) := [(("self" : Str), .local), (("node" : Str), .local), (("result" : Str), .local), (("_NodeInfo" : Str), .globalImplicit)]
noncomputable def Zkv : List (Str × Nat) := [(("self" : Str), 0), (("node" : Str), 1), (("result" : Str), 2)]
noncomputable def Zby : Stmt := stAt (bodySt (stAt PySem.Challenge.pw_sr0004_01.main.body 6)) 2
noncomputable def Zsb : List (Str × NameKind) := [(("self" : Str), .local), (("node" : Str), .local), (("predecessors" : Str), .local), (("nodeinfo" : Str), .local), (("pred" : Str), .local), (("pred_info" : Str), .local), (("ValueError" : Str), .globalImplicit), (("len" : Str), .globalImplicit)]
noncomputable def Zsc : List (Str × Nat) := [(("self" : Str), 0), (("node" : Str), 1), (("predecessors" : Str), 2), (("nodeinfo" : Str), 3), (("pred" : Str), 4), (("pred_info" : Str), 5)]
noncomputable def Zal : Stmt := stAt (bodySt (stAt PySem.Challenge.pw_sr0004_01.main.body 6)) 0
noncomputable def Zm0 : List (Str × NameKind) := [(("self" : Str), .local), (("graph" : Str), .local), (("node" : Str), .local), (("predecessors" : Str), .local)]
noncomputable def Zm1 : List (Str × Nat) := [(("self" : Str), 0), (("graph" : Str), 1), (("node" : Str), 2), (("predecessors" : Str), 3)]
noncomputable def Zbd : Stmt := stAt (bodySt (stAt PySem.Challenge.pw_sr0004_01.main.body 6)) 8
noncomputable def Zrb : List (Str × NameKind) := [(("self" : Str), .local), (("n2i" : Str), .local), (("stack" : Str), .local), (("itstack" : Str), .local), (("seen" : Str), .local), (("node2stacki" : Str), .local), (("node" : Str), .local), (("set" : Str), .globalImplicit), (("iter" : Str), .globalImplicit), (("len" : Str), .globalImplicit), (("StopIteration" : Str), .globalImplicit)]
noncomputable def Zrc : List (Str × Nat) := [(("self" : Str), 0), (("n2i" : Str), 1), (("stack" : Str), 2), (("itstack" : Str), 3), (("seen" : Str), 4), (("node2stacki" : Str), 5), (("node" : Str), 6)]
noncomputable def Zam : Stmt := stAt (bodySt (stAt PySem.Challenge.pw_sr0004_01.main.body 6)) 3
noncomputable def Zm2 : List (Str × NameKind) := [(("self" : Str), .local), (("cycle" : Str), .local), (("ValueError" : Str), .globalImplicit), (("CycleError" : Str), .globalImplicit)]
noncomputable def Zm3 : List (Str × Nat) := [(("self" : Str), 0), (("cycle" : Str), 1)]
noncomputable def Z1 : Stmt := stAt (bodySt (stAt PySem.Challenge.pw_sr0004_01.main.body 6)) 4
noncomputable def Zja : List (Str × NameKind) := [(("self" : Str), .local), (("result" : Str), .local), (("n2i" : Str), .local), (("node" : Str), .local), (("ValueError" : Str), .globalImplicit), (("tuple" : Str), .globalImplicit), (("_NODE_OUT" : Str), .globalImplicit), (("len" : Str), .globalImplicit)]
noncomputable def Zjb : List (Str × Nat) := [(("self" : Str), 0), (("result" : Str), 1), (("n2i" : Str), 2), (("node" : Str), 3)]
noncomputable def Z2 : Stmt := stAt (bodySt (stAt PySem.Challenge.pw_sr0004_01.main.body 6)) 5
noncomputable def Zjc : List (Str × NameKind) := [(("self" : Str), .local), (("ValueError" : Str), .globalImplicit), (("bool" : Str), .globalImplicit)]
noncomputable def Zjd : List (Str × Nat) := [(("self" : Str), 0)]
noncomputable def Zbe : Stmt := stAt (bodySt (stAt PySem.Challenge.pw_sr0004_01.main.body 6)) 7
noncomputable def Zrd : List (Str × NameKind) := [(("self" : Str), .local), (("nodes" : Str), .local), (("n2i" : Str), .local), (("node" : Str), .local), (("nodeinfo" : Str), .local), (("stat" : Str), .local), (("successor" : Str), .local), (("successor_info" : Str), .local), (("ValueError" : Str), .globalImplicit), (("_NODE_OUT" : Str), .globalImplicit), (("_NODE_DONE" : Str), .globalImplicit)]
noncomputable def Zre : List (Str × Nat) := [(("self" : Str), 0), (("nodes" : Str), 1), (("n2i" : Str), 2), (("node" : Str), 3), (("nodeinfo" : Str), 4), (("stat" : Str), 5), (("successor" : Str), 6), (("successor_info" : Str), 7)]
noncomputable def Z3 : Stmt := stAt PySem.Challenge.pw_sr0004_01.main.body 8
noncomputable def Zje : List (Str × NameKind) := [(("script" : Str), .local), (("slots" : Str), .local), (("place" : Str), .local), (("told" : Str), .local), (("code" : Str), .local), (("names" : Str), .local), (("others" : Str), .local), (("room" : Str), .local), (("range" : Str), .globalImplicit), (("len" : Str), .globalImplicit), (("sum" : Str), .globalImplicit)]
noncomputable def Zjf : List (Str × Nat) := [(("script" : Str), 0), (("slots" : Str), 1), (("place" : Str), 2), (("told" : Str), 3), (("code" : Str), 4), (("names" : Str), 5), (("others" : Str), 6), (("room" : Str), 7)]
noncomputable def Zt : Stmt := stAt PySem.Challenge.pw_sr0004_01.main.body 9
noncomputable def Ze2 : List (Str × NameKind) := [(("names" : Str), .cell), (("told" : Str), .local), (("first" : Str), .local), (("place" : Str), .local), (("ways" : Str), .local), (("word" : Str), .local), (("way" : Str), .local), (("last" : Str), .local), (("range" : Str), .globalImplicit), (("len" : Str), .globalImplicit)]
noncomputable def Ze3 : List (Str × Nat) := [(("names" : Str), 0), (("told" : Str), 1), (("first" : Str), 2), (("place" : Str), 3), (("ways" : Str), 4), (("word" : Str), 5), (("way" : Str), 6), (("last" : Str), 7)]
noncomputable def Z4 : Stmt := stAt PySem.Challenge.pw_sr0004_01.main.body 10
noncomputable def Zjg : List (Str × NameKind) := [(("names" : Str), .local), (("told" : Str), .local), (("first" : Str), .local), (("closing" : Str), .local), (("place" : Str), .local), (("tail" : Str), .local), (("head" : Str), .local), (("word" : Str), .local), (("way" : Str), .local), (("_law_first_ways" : Str), .globalImplicit), (("range" : Str), .globalImplicit), (("len" : Str), .globalImplicit)]
noncomputable def Zjh : List (Str × Nat) := [(("names" : Str), 0), (("told" : Str), 1), (("first" : Str), 2), (("closing" : Str), 3), (("place" : Str), 4), (("tail" : Str), 5), (("head" : Str), 6), (("word" : Str), 7), (("way" : Str), 8)]
noncomputable def Zbz : Stmt := stAt PySem.Challenge.pw_sr0004_01.main.body 11
noncomputable def Zsd : List (Str × NameKind) := [(("script" : Str), .local), (("names" : Str), .local), (("told" : Str), .local), (("left" : Str), .local), (("met" : Str), .local), (("turn" : Str), .local), (("sorter" : Str), .local), (("name" : Str), .local), (("tail" : Str), .local), (("head" : Str), .local), (("ring" : Str), .local), (("refused" : Str), .local), (("order" : Str), .cell), (("group" : Str), .local), (("_law_drawn" : Str), .globalImplicit), (("list" : Str), .globalImplicit), (("range" : Str), .globalImplicit), (("len" : Str), .globalImplicit), (("TopologicalSorter" : Str), .globalImplicit), (("CycleError" : Str), .globalImplicit), (("_law_rings" : Str), .globalImplicit), (("sorted" : Str), .globalImplicit), (("all" : Str), .globalImplicit)]
noncomputable def Zse : List (Str × Nat) := [(("script" : Str), 0), (("names" : Str), 1), (("told" : Str), 2), (("left" : Str), 3), (("met" : Str), 4), (("turn" : Str), 5), (("sorter" : Str), 6), (("name" : Str), 7), (("tail" : Str), 8), (("head" : Str), 9), (("ring" : Str), 10), (("refused" : Str), 11), (("order" : Str), 12), (("group" : Str), 13)]
set_option genInjectivity false in
structure Fa where
 a_ni_init : Addr
 a_get_info : Addr
 a_add : Addr
 a_ts_init : Addr
 a_find : Addr
 a_prepare : Addr
 a_get_ready : Addr
 a_is_active : Addr
 a_done : Addr
 a_law_drawn : Addr
 a_law_first_ways : Addr
 a_law_rings : Addr
 a_law : Addr
structure Facts (c : Cx) (d : Ad) (z : Fa) : Prop where
 f_ni_init : FnOk c z.a_ni_init Zak (λ fd => fd.defaults = .none)
 f_get_info : FnOk c z.a_get_info Zaa (λ fd => fd.defaults = .none)
 f_add : FnOk c z.a_add Zby (λ fd => fd.defaults = .none)
 f_ts_init : FnOk c z.a_ts_init Zal (λ fd => ∃ t k, fd.defaults = .ref t ∧ c.K.lookup t = some { cls := .type "tuple", data := .seq #[.none] k })
 f_find : FnOk c z.a_find Zbd (λ fd => fd.defaults = .none)
 f_prepare : FnOk c z.a_prepare Zam (λ fd => fd.defaults = .none)
 f_get_ready : FnOk c z.a_get_ready Z1 (λ fd => fd.defaults = .none)
 f_is_active : FnOk c z.a_is_active Z2 (λ fd => fd.defaults = .none)
 f_done : FnOk c z.a_done Zbe (λ fd => fd.defaults = .none)
 f_law_drawn : FnOk c z.a_law_drawn Z3 (λ fd => fd.defaults = .none)
 f_law_first_ways : FnOk c z.a_law_first_ways Zt (λ fd => fd.defaults = .none)
 f_law_rings : FnOk c z.a_law_rings Z4 (λ fd => fd.defaults = .none)
 f_law : FnOk c z.a_law Zbz (λ fd => fd.defaults = .none)
 m_get_info : MethAt c d.TS ("_get_nodeinfo" : Str) z.a_get_info
 m_add : MethAt c d.TS ("add" : Str) z.a_add
 m_find : MethAt c d.TS ("_find_cycle" : Str) z.a_find
 m_prepare : MethAt c d.TS ("prepare" : Str) z.a_prepare
 m_get_ready : MethAt c d.TS ("get_ready" : Str) z.a_get_ready
 m_is_active : MethAt c d.TS ("is_active" : Str) z.a_is_active
 m_done : MethAt c d.TS ("done" : Str) z.a_done
 g_law_drawn : nsIn c.K mainGlobals ("_law_drawn" : Str) = some (some (.ref z.a_law_drawn))
 g_law_first_ways : nsIn c.K mainGlobals ("_law_first_ways" : Str) = some (some (.ref z.a_law_first_ways))
 g_law_rings : nsIn c.K mainGlobals ("_law_rings" : Str) = some (some (.ref z.a_law_rings))
 g_law : nsIn c.K mainGlobals ("law" : Str) = some (some (.ref z.a_law))
 n_nfinished : OwnName c d.TS ("_nfinished" : Str)
 o_nfinished : OwnStore c d.TS ("_nfinished" : Str)
 n_node2info : OwnName c d.TS ("_node2info" : Str)
 o_node2info : OwnStore c d.TS ("_node2info" : Str)
 n_npassedout : OwnName c d.TS ("_npassedout" : Str)
 o_npassedout : OwnStore c d.TS ("_npassedout" : Str)
 n_ready_nodes : OwnName c d.TS ("_ready_nodes" : Str)
 o_ready_nodes : OwnStore c d.TS ("_ready_nodes" : Str)
 s_node : SlotStore c d.NI ("node" : Str) 0
 s_npredecessors : SlotStore c d.NI ("npredecessors" : Str) 1
 s_successors : SlotStore c d.NI ("successors" : Str) 2
 g_NI : nsIn c.K mainGlobals ("_NodeInfo" : Str) = some (some (.ref d.NI))
 g_TS : nsIn c.K mainGlobals ("TopologicalSorter" : Str) = some (some (.ref d.TS))
 mk_NI : MakeAt c d.NI z.a_ni_init
 mk_TS : MakeAt c d.TS z.a_ts_init
 x_CE : OwnExc c ("CycleError" : Str) d.CE "ValueError.__new__" [.type "ValueError", .type "Exception", .type "BaseException", .type "object"]
 c_CE : CatchAt c (.ref d.CE) (isCE d)
 c_StopIteration : CatchAt c (.type "StopIteration") (isStopIteration d)
 node_out : ∃ t, nsIn c.K mainGlobals ("_NODE_OUT" : Str) = some (some (.int (-1) t))
 node_done : ∃ t, nsIn c.K mainGlobals ("_NODE_DONE" : Str) = some (some (.int (-2) t))
 bui : ∀ x : Str, buiNames.contains x = true -> nsIn c.K mainGlobals x = some none
theorem Facts.bu {c : Cx} {d : Ad} {z : Fa} (Γ : Facts c d z) {x : Str} (h : buiNames.contains x = true := by kernel_rfl) : nsIn c.K mainGlobals x = some none := Γ.bui x h

theorem Zkw {c : Cx} {d : Ad} {z : Fa} (Γ : Facts c d z) {fd : FuncData} {L a : Addr} {outer : List Env} (hs : fd.scope = scopeSt Zak) (hg : fd.globals = mainGlobals) (hb : fd.builtins = builtinsNs) : SimSS c (fxOf fd L a outer 0) (bodySt Zak) (Zec d) := by
 have G : FxG (fxOf fd L a outer 0) Zmy Zmz 2 0 := FxG.fn hs rfl hg hb (of_decide_eq_true (by kernel_rfl))
 have hfr : (fxOf fd L a outer 0).frames = (fxOf fd L a outer 0).env :: outer := rfl
 have hh : (fxOf fd L a outer 0).hd = true := rfl
 generalize fxOf fd L a outer 0 = F at G hfr hh
 exact Zb (Zd G.name (Z9 G.name (λ _ _ _ _ => Zag Γ.s_node)) rfl rfl rfl) (Zb (Zd (Zh) (Z9 G.name (λ _ _ _ _ => Zag Γ.s_npredecessors)) rfl rfl rfl) (Zb (Zd (Zw true (.nil)) (Z9 G.name (λ _ _ _ _ => Zag Γ.s_successors)) rfl rfl rfl) (Zc)))
theorem Zkx {c : Cx} {fd : FuncData} (hp : fd.params = paramsSt Zak) (hd : fd.defaults = .none) (hs : fd.scope = scopeSt Zak) : Binds c fd [("self" : Str), ("node" : Str)] (arrPlain 2) := Zy (by unfold ownKs; rw [hs]; kernel_rfl) λ vs hl => by
 rcases vs with _ | ⟨v0, _ | ⟨v1, _ | ⟨_, _⟩⟩⟩ <;> first | (simp at hl; done) | skip
 obtain ⟨a1, a2, a3, a4, a5, a6, a7, a8, a9, a10, a11, a12, a13, a14, a15⟩ := fd
 dsimp only at hp hd
 subst hp hd
 rfl
theorem Zm4 {c : Cx} {d : Ad} {z : Fa} (Γ : Facts c d z) : CallOk c z.a_ni_init 0 (Zed d) := by
 obtain ⟨fd, hat, hs, hp, hg, hb, hd⟩ := Γ.f_ni_init.ok
 refine CallOk.mk hat (Zkx hp hd hs) ?_ λ L outer => Zkw Γ hs hg hb
 ·intro xs fr h
  rcases xs with _ | ⟨_, _ | ⟨_, _ | ⟨_, _⟩⟩⟩ <;> first | exact Zf h | (cases h; exact ⟨_, rfl, by rw [hs]; rfl⟩)
theorem Zji {c : Cx} {d : Ad} {z : Fa} (Γ : Facts c d z) {fd : FuncData} {L a : Addr} {outer : List Env} (hs : fd.scope = scopeSt Zaa) (hg : fd.globals = mainGlobals) (hb : fd.builtins = builtinsNs) : SimSS c (fxOf fd L a outer 2) (bodySt Zaa) (Zde d) := by
 have G : FxG (fxOf fd L a outer 2) Zku Zkv 3 2 := FxG.fn hs rfl hg hb (of_decide_eq_true (by kernel_rfl))
 have hfr : (fxOf fd L a outer 2).frames = (fxOf fd L a outer 2).env :: outer := rfl
 have hh : (fxOf fd L a outer 2).hd = true := rfl
 generalize fxOf fd L a outer 2 = F at G hfr hh
 exact Zb (Zs (Zj (Zdk (Zfb rfl rfl rfl (Zi Γ.n_node2info G.name rfl) (.cons G.name (.nil))) G.asg) (Z5) rfl) (Zb (Zkm (G.callC hh (by kernel_rfl) Γ.g_NI Γ.mk_NI (Zm4 Γ) (by decide) (.cons G.name (.nil))) (Zfq (Zi Γ.n_node2info G.name rfl) G.name) G.asg rfl rfl) (Zc)) (Zc)) (Zb (Zu G.name) (Zc))
theorem Zjj {c : Cx} {fd : FuncData} (hp : fd.params = paramsSt Zaa) (hd : fd.defaults = .none) (hs : fd.scope = scopeSt Zaa) : Binds c fd [("self" : Str), ("node" : Str)] (arrPlain 2) := Zy (by unfold ownKs; rw [hs]; kernel_rfl) λ vs hl => by
 rcases vs with _ | ⟨v0, _ | ⟨v1, _ | ⟨_, _⟩⟩⟩ <;> first | (simp at hl; done) | skip
 obtain ⟨a1, a2, a3, a4, a5, a6, a7, a8, a9, a10, a11, a12, a13, a14, a15⟩ := fd
 dsimp only at hp hd
 subst hp hd
 rfl
theorem Zff {c : Cx} {d : Ad} {z : Fa} (Γ : Facts c d z) : CallOk c z.a_get_info 2 (Zb7 d) := by
 obtain ⟨fd, hat, hs, hp, hg, hb, hd⟩ := Γ.f_get_info.ok
 refine CallOk.mk hat (Zjj hp hd hs) ?_ λ L outer => Zji Γ hs hg hb
 ·intro xs fr h
  rcases xs with _ | ⟨_, _ | ⟨_, _ | ⟨_, _⟩⟩⟩ <;> first | exact Zf h | (cases h; exact ⟨_, rfl, by rw [hs]; rfl⟩)
theorem Zrf {c : Cx} {d : Ad} {z : Fa} (Γ : Facts c d z) {fd : FuncData} {L a : Addr} {outer : List Env} (hs : fd.scope = scopeSt Zby) (hg : fd.globals = mainGlobals) (hb : fd.builtins = builtinsNs) : SimSS c (fxOf fd L a outer 3) (bodySt Zby) (g_add d) := by
 have G : FxG (fxOf fd L a outer 3) Zsb Zsc 6 3 := FxG.fn hs rfl hg hb (of_decide_eq_true (by kernel_rfl))
 have hfr : (fxOf fd L a outer 3).frames = (fxOf fd L a outer 3).env :: outer := rfl
 have hh : (fxOf fd L a outer 3).hd = true := rfl
 generalize fxOf fd L a outer 3 = F at G hfr hh
 exact Zb (Zs (Zj (Zi Γ.n_ready_nodes G.name rfl) (Z5) rfl) (Zb (Sim.B) (Zc)) (Zc)) (Zb (Zd (G.callM hh Γ.m_get_info Γ.f_get_info rfl rfl rfl G.name (.cons G.name (.nil)) (Zff Γ) (by decide)) G.asg rfl rfl rfl) (Zb (Zbs G.name (G.callB Γ.bu Zao (.cons G.name (.nil)) Zat) (λ _ _ => Zdw Γ.s_npredecessors.toSlotName) (λ _ _ _ _ => Zag Γ.s_npredecessors)) (Zb (Zac hfr hh fuel G.name G.asg (Zb (Zd (G.callM hh Γ.m_get_info Γ.f_get_info rfl rfl rfl G.name (.cons G.name (.nil)) (Zff Γ) (by decide)) G.asg rfl rfl rfl) (Zb (Zr (Z7 rfl rfl rfl rfl (Za8 Γ.s_successors.toSlotName G.name rfl) G.name) G.quiet rfl) (Zc))) (λ _ => rfl)) (Zc))))
theorem Zrg {c : Cx} {fd : FuncData} (hp : fd.params = paramsSt Zby) (hd : fd.defaults = .none) (hs : fd.scope = scopeSt Zby) : Binds c fd [("self" : Str), ("node" : Str), ("predecessors" : Str)] (arrStar 2) := Zgd (by unfold ownKs; rw [hs]; kernel_rfl) λ vs r hl => by
 rcases vs with _ | ⟨v0, _ | ⟨v1, _ | ⟨_, _⟩⟩⟩ <;> first | (simp at hl; done) | skip
 obtain ⟨a1, a2, a3, a4, a5, a6, a7, a8, a9, a10, a11, a12, a13, a14, a15⟩ := fd
 dsimp only at hp hd
 subst hp hd
 cases r <;> rfl
theorem Zoc {c : Cx} {d : Ad} {z : Fa} (Γ : Facts c d z) : CallOk c z.a_add 3 (k_add d) := by
 obtain ⟨fd, hat, hs, hp, hg, hb, hd⟩ := Γ.f_add.ok
 refine CallOk.mk hat (Zrg hp hd hs) ?_ λ L outer => Zrf Γ hs hg hb
 ·intro xs fr h
  rcases xs with _ | ⟨_, _ | ⟨_, r⟩⟩ <;> first | exact Zf h | skip
  have h : (match lenOk r with | true => some _ | false => none) = some fr := h
  cases hl : lenOk r with
  | false => rw [hl] at h; exact Zf h
  | true => rw [hl] at h; cases h; exact ⟨_, by unfold arrStar; simp [hl]; rfl, by rw [hs]; rfl⟩
theorem Zky {c : Cx} {d : Ad} {z : Fa} (Γ : Facts c d z) {fd : FuncData} {L a : Addr} {outer : List Env} (hs : fd.scope = scopeSt Zal) (hg : fd.globals = mainGlobals) (hb : fd.builtins = builtinsNs) : SimSS c (fxOf fd L a outer 4) (bodySt Zal) (Zee d) := by
 have G : FxG (fxOf fd L a outer 4) Zm0 Zm1 4 4 := FxG.fn hs rfl hg hb (of_decide_eq_true (by kernel_rfl))
 have hfr : (fxOf fd L a outer 4).frames = (fxOf fd L a outer 4).env :: outer := rfl
 have hh : (fxOf fd L a outer 4).hd = true := rfl
 generalize fxOf fd L a outer 4 = F at G hfr hh
 exact Zb (Zd (Zfp) (Z9 G.name (λ _ _ _ _ => Zaf Γ.o_node2info)) rfl rfl rfl) (Zb (Zd (Z5) (Z9 G.name (λ _ _ _ _ => Zaf Γ.o_ready_nodes)) rfl rfl rfl) (Zb (Zd (Zh) (Z9 G.name (λ _ _ _ _ => Zaf Γ.o_npassedout)) rfl rfl rfl) (Zb (Zd (Zh) (Z9 G.name (λ _ _ _ _ => Zaf Γ.o_nfinished)) rfl rfl rfl) (Zb (Zs (Zj G.name (Z5) rfl) (Zb (Sim.B) (Zc)) (Zc)) (Zc)))))
theorem Zkz {c : Cx} {fd : FuncData} (hp : fd.params = paramsSt Zal) {t : Addr} {k : Nat} (hd : fd.defaults = .ref t) (ht : c.K.lookup t = some { cls := .type "tuple", data := .seq #[.none] k }) (hs : fd.scope = scopeSt Zal) : Binds c fd [("self" : Str), ("graph" : Str)] (arrDflt 2) := Zmv (by unfold ownKs; rw [hs]; kernel_rfl) ht λ vs A s Q E ht => by
 obtain ⟨a1, a2, a3, a4, a5, a6, a7, a8, a9, a10, a11, a12, a13, a14, a15⟩ := fd
 dsimp only at hp hd
 subst hp hd
 refine ⟨λ hl h => ?_, λ hl h => ?_⟩
 ·obtain ⟨v0, v1, rfl⟩ := len2 hl
  show wpAny _ _ (seqItems? (.ref t) >>= _) _ _ s
  exact Qb (wpAny_seqItems ht rfl (Qp h))
 ·obtain ⟨v0, rfl⟩ := len1 hl
  show wpAny _ _ (seqItems? (.ref t) >>= _) _ _ s
  exact Qb (wpAny_seqItems ht rfl (Qp h))
theorem Zm5 {c : Cx} {d : Ad} {z : Fa} (Γ : Facts c d z) : CallOk c z.a_ts_init 4 (Zco d) := by
 obtain ⟨fd, hat, hs, hp, hg, hb, hd⟩ := Γ.f_ts_init.ok
 obtain ⟨t, k, hd, ht⟩ := hd
 refine CallOk.mk hat (Zkz hp hd ht hs) ?_ λ L outer => Zky Γ hs hg hb
 ·intro xs fr h
  rcases xs with _ | ⟨_, _ | ⟨_, _ | ⟨_, _⟩⟩⟩ <;> first | exact Zf h | (cases h; exact ⟨_, rfl, by rw [hs]; rfl⟩)
theorem Zpm {c : Cx} {d : Ad} {z : Fa} (Γ : Facts c d z) {fd : FuncData} {L a : Addr} {outer : List Env} (hs : fd.scope = scopeSt Zbd) (hg : fd.globals = mainGlobals) (hb : fd.builtins = builtinsNs) : SimSS c (fxOf fd L a outer 1) (bodySt Zbd) (Zi8 d) := by
 have G : FxG (fxOf fd L a outer 1) Zrb Zrc 7 1 := FxG.fn hs rfl hg hb (of_decide_eq_true (by kernel_rfl))
 have hfr : (fxOf fd L a outer 1).frames = (fxOf fd L a outer 1).env :: outer := rfl
 have hh : (fxOf fd L a outer 1).hd = true := rfl
 generalize fxOf fd L a outer 1 = F at G hfr hh
 exact Zb (Zd (Zi Γ.n_node2info G.name rfl) G.asg rfl rfl rfl) (Zb (Zd (Zw true (.nil)) G.asg rfl rfl rfl) (Zb (Zd (Zw true (.nil)) G.asg rfl rfl rfl) (Zb (Zd (G.callT Γ.bu Zpb (.nil) Zq1) G.asg rfl rfl rfl) (Zb (Zd (Zfp) G.asg rfl rfl rfl) (Zb (Zac hfr hh fuel G.name G.asg (Zb (Zs (Zj G.name G.name rfl) (Zb (Zh6) (Zc)) (Zc)) (Zb (Zdr hfr fuel (Zcc (Za7) rfl) (Zb (Zs (Zj G.name G.name rfl) (Zb (Zs (Zj G.name G.name rfl) (Zb (Zu (Zcg false (Zga false G.name (Zg G.name G.name (λ _ _ => rfl)) (λ _ _ => rfl)) (Zw false (.cons G.name (.nil))))) (Zc)) (Zc)) (Zc)) (Zb (Zr (Zml rfl rfl rfl G.name (.cons G.name (.nil))) G.quiet rfl) (Zb (Zr (Z7 rfl rfl rfl rfl G.name (Zo7 (G.callB Γ.bu Zn7 (.cons (Za8 Γ.s_successors.toSlotName (Zg G.name G.name (λ _ _ => rfl)) rfl) (.nil)) Zo6) rfl)) G.quiet rfl) (Zb (Zd (G.callB Γ.bu Zao (.cons G.name (.nil)) Zat) (Zfq G.name G.name) rfl rfl rfl) (Zb (Zr (Z7 rfl rfl rfl rfl G.name G.name) G.quiet rfl) (Zc)))))) (Zb (Zdr hfr fuel (Zcc G.name rfl) (Zb (have G4 := G.handling; Zlf hfr (Zb (Zd (Zhn hh (Zg G.name (Zbm (Zh)) (λ _ _ => rfl)) rfl) G.asg rfl rfl rfl) (Zb (Zdp) (Zc))) (.cons (G.handling.hBui (by kernel_rfl) Γ.bu Zd9) Γ.c_StopIteration (Zb (Zmf G4.name (Zgp rfl rfl rfl G4.name)) (Zb (Zr (Zgp rfl rfl rfl G4.name) G4.quiet rfl) (Zc))) (.nil))) (Zc)) (Zb (Zdp) (Zc))) (Zc))) (Zc)) (Zc))) (λ _ => rfl)) (Zb (Zu (Z5)) (Zc)))))))
theorem Zpn {c : Cx} {fd : FuncData} (hp : fd.params = paramsSt Zbd) (hd : fd.defaults = .none) (hs : fd.scope = scopeSt Zbd) : Binds c fd [("self" : Str)] (arrPlain 1) := Zy (by unfold ownKs; rw [hs]; kernel_rfl) λ vs hl => by
 rcases vs with _ | ⟨v0, _ | ⟨_, _⟩⟩ <;> first | (simp at hl; done) | skip
 obtain ⟨a1, a2, a3, a4, a5, a6, a7, a8, a9, a10, a11, a12, a13, a14, a15⟩ := fd
 dsimp only at hp hd
 subst hp hd
 rfl
theorem Zlr {c : Cx} {d : Ad} {z : Fa} (Γ : Facts c d z) : CallOk c z.a_find 1 (Zgg d) := by
 obtain ⟨fd, hat, hs, hp, hg, hb, hd⟩ := Γ.f_find.ok
 refine CallOk.mk hat (Zpn hp hd hs) ?_ λ L outer => Zpm Γ hs hg hb
 ·intro xs fr h
  rcases xs with _ | ⟨_, _ | ⟨_, _⟩⟩ <;> first | exact Zf h | (cases h; exact ⟨_, rfl, by rw [hs]; rfl⟩)
theorem Zk0 {c : Cx} {d : Ad} {z : Fa} (Γ : Facts c d z) {fd : FuncData} {L a : Addr} {outer : List Env} (hs : fd.scope = scopeSt Zam) (hg : fd.globals = mainGlobals) (hb : fd.builtins = builtinsNs) : SimSS c (fxOf fd L a outer 4) (bodySt Zam) (Zef d) := by
 have G : FxG (fxOf fd L a outer 4) Zm2 Zm3 2 4 := FxG.fn hs rfl hg hb (of_decide_eq_true (by kernel_rfl))
 have hfr : (fxOf fd L a outer 4).frames = (fxOf fd L a outer 4).env :: outer := rfl
 have hh : (fxOf fd L a outer 4).hd = true := rfl
 generalize fxOf fd L a outer 4 = F at G hfr hh
 exact Zb (Zs (Zj (Zi Γ.n_ready_nodes G.name rfl) (Z5) rfl) (Zb (Sim.B) (Zc)) (Zc)) (Zb (Zd (G.listComp hh rfl (by kernel_rfl) (by kernel_rfl) (λ _ => rfl) (Zmn rfl rfl rfl (Zi Γ.n_node2info G.name rfl) (.nil)) (λ Lc acc i G1 => Zr7 G1.asg (Zj (Za8 Γ.s_npredecessors.toSlotName G1.name rfl) (Zh) rfl) (Za8 Γ.s_node.toSlotName G1.name rfl))) (Z9 G.name (λ _ _ _ _ => Zaf Γ.o_ready_nodes)) rfl rfl rfl) (Zb (Zd (G.callM hh Γ.m_find Γ.f_find rfl rfl rfl G.name (.nil) (Zlr Γ) (by decide)) G.asg rfl rfl rfl) (Zb (Zs (Zcc G.name rfl) (Zb (Zij PySem.F.excBase_ValueError Γ.x_CE hh rfl (G.hGlob (by kernel_rfl) Γ.x_CE.glob) (.cons (Zho (Zqj)) (.cons G.name (.nil)))) (Zc)) (Zc)) (Zc))))
theorem Zk1 {c : Cx} {fd : FuncData} (hp : fd.params = paramsSt Zam) (hd : fd.defaults = .none) (hs : fd.scope = scopeSt Zam) : Binds c fd [("self" : Str)] (arrPlain 1) := Zy (by unfold ownKs; rw [hs]; kernel_rfl) λ vs hl => by
 rcases vs with _ | ⟨v0, _ | ⟨_, _⟩⟩ <;> first | (simp at hl; done) | skip
 obtain ⟨a1, a2, a3, a4, a5, a6, a7, a8, a9, a10, a11, a12, a13, a14, a15⟩ := fd
 dsimp only at hp hd
 subst hp hd
 rfl
theorem Zm6 {c : Cx} {d : Ad} {z : Fa} (Γ : Facts c d z) : CallOk c z.a_prepare 4 (Zeg d) := by
 obtain ⟨fd, hat, hs, hp, hg, hb, hd⟩ := Γ.f_prepare.ok
 refine CallOk.mk hat (Zk1 hp hd hs) ?_ λ L outer => Zk0 Γ hs hg hb
 ·intro xs fr h
  rcases xs with _ | ⟨_, _ | ⟨_, _⟩⟩ <;> first | exact Zf h | (cases h; exact ⟨_, rfl, by rw [hs]; rfl⟩)
theorem Zhx {c : Cx} {d : Ad} {z : Fa} (Γ : Facts c d z) {fd : FuncData} {L a : Addr} {outer : List Env} (hs : fd.scope = scopeSt Z1) (hg : fd.globals = mainGlobals) (hb : fd.builtins = builtinsNs) : SimSS c (fxOf fd L a outer 1) (bodySt Z1) (Zcy d) := by
 have G : FxG (fxOf fd L a outer 1) Zja Zjb 4 1 := FxG.fn hs rfl hg hb (of_decide_eq_true (by kernel_rfl))
 have hfr : (fxOf fd L a outer 1).frames = (fxOf fd L a outer 1).env :: outer := rfl
 have hh : (fxOf fd L a outer 1).hd = true := rfl
 generalize fxOf fd L a outer 1 = F at G hfr hh
 exact Zb (Zs (Zj (Zi Γ.n_ready_nodes G.name rfl) (Z5) rfl) (Zb (Sim.B) (Zc)) (Zc)) (Zb (Zd (G.callT Γ.bu Zmu (.cons (Zi Γ.n_ready_nodes G.name rfl) (.nil)) Znw) G.asg rfl rfl rfl) (Zb (Zd (Zi Γ.n_node2info G.name rfl) G.asg rfl rfl rfl) (Zb (Zac hfr hh fuel G.name G.asg (Zb (Zd (G.globI (by kernel_rfl) Γ.node_out) (Z9 (Zg G.name G.name (λ _ _ => rfl)) (λ _ _ _ _ => Zag Γ.s_npredecessors)) rfl rfl rfl) (Zc)) (λ _ => rfl)) (Zb (Zr (Znr rfl rfl rfl (Zi Γ.n_ready_nodes G.name rfl)) G.quiet rfl) (Zb (Zbs G.name (G.callB Γ.bu Zao (.cons G.name (.nil)) Zat) (λ _ _ => Zdv Γ.n_npassedout) (λ _ _ _ _ => Zaf Γ.o_npassedout)) (Zb (Zu G.name) (Zc)))))))
theorem Zhy {c : Cx} {fd : FuncData} (hp : fd.params = paramsSt Z1) (hd : fd.defaults = .none) (hs : fd.scope = scopeSt Z1) : Binds c fd [("self" : Str)] (arrPlain 1) := Zy (by unfold ownKs; rw [hs]; kernel_rfl) λ vs hl => by
 rcases vs with _ | ⟨v0, _ | ⟨_, _⟩⟩ <;> first | (simp at hl; done) | skip
 obtain ⟨a1, a2, a3, a4, a5, a6, a7, a8, a9, a10, a11, a12, a13, a14, a15⟩ := fd
 dsimp only at hp hd
 subst hp hd
 rfl
theorem Zjk {c : Cx} {d : Ad} {z : Fa} (Γ : Facts c d z) : CallOk c z.a_get_ready 1 (Zbt d) := by
 obtain ⟨fd, hat, hs, hp, hg, hb, hd⟩ := Γ.f_get_ready.ok
 refine CallOk.mk hat (Zhy hp hd hs) ?_ λ L outer => Zhx Γ hs hg hb
 ·intro xs fr h
  rcases xs with _ | ⟨_, _ | ⟨_, _⟩⟩ <;> first | exact Zf h | (cases h; exact ⟨_, rfl, by rw [hs]; rfl⟩)
theorem Zhz {c : Cx} {d : Ad} {z : Fa} (Γ : Facts c d z) {fd : FuncData} {L a : Addr} {outer : List Env} (hs : fd.scope = scopeSt Z2) (hg : fd.globals = mainGlobals) (hb : fd.builtins = builtinsNs) : SimSS c (fxOf fd L a outer 1) (bodySt Z2) (Zcz d) := by
 have G : FxG (fxOf fd L a outer 1) Zjc Zjd 1 1 := FxG.fn hs rfl hg hb (of_decide_eq_true (by kernel_rfl))
 have hfr : (fxOf fd L a outer 1).frames = (fxOf fd L a outer 1).env :: outer := rfl
 have hh : (fxOf fd L a outer 1).hd = true := rfl
 generalize fxOf fd L a outer 1 = F at G hfr hh
 exact Zb (Zs (Zj (Zi Γ.n_ready_nodes G.name rfl) (Z5) rfl) (Zb (Sim.B) (Zc)) (Zc)) (Zb (Zu (Zl5 (Zo4 (Zfn (Zi Γ.n_nfinished G.name rfl) (Zi Γ.n_npassedout G.name rfl) rfl) (Zng (G.callT Γ.bu Zn6 (.cons (Zi Γ.n_ready_nodes G.name rfl) (.nil)) Zmp))))) (Zc))
theorem Zh0 {c : Cx} {fd : FuncData} (hp : fd.params = paramsSt Z2) (hd : fd.defaults = .none) (hs : fd.scope = scopeSt Z2) : Binds c fd [("self" : Str)] (arrPlain 1) := Zy (by unfold ownKs; rw [hs]; kernel_rfl) λ vs hl => by
 rcases vs with _ | ⟨v0, _ | ⟨_, _⟩⟩ <;> first | (simp at hl; done) | skip
 obtain ⟨a1, a2, a3, a4, a5, a6, a7, a8, a9, a10, a11, a12, a13, a14, a15⟩ := fd
 dsimp only at hp hd
 subst hp hd
 rfl
theorem Zjl {c : Cx} {d : Ad} {z : Fa} (Γ : Facts c d z) : CallOk c z.a_is_active 1 (Zbu d) := by
 obtain ⟨fd, hat, hs, hp, hg, hb, hd⟩ := Γ.f_is_active.ok
 refine CallOk.mk hat (Zh0 hp hd hs) ?_ λ L outer => Zhz Γ hs hg hb
 ·intro xs fr h
  rcases xs with _ | ⟨_, _ | ⟨_, _⟩⟩ <;> first | exact Zf h | (cases h; exact ⟨_, rfl, by rw [hs]; rfl⟩)
theorem Zpo {c : Cx} {d : Ad} {z : Fa} (Γ : Facts c d z) {fd : FuncData} {L a : Addr} {outer : List Env} (hs : fd.scope = scopeSt Zbe) (hg : fd.globals = mainGlobals) (hb : fd.builtins = builtinsNs) : SimSS c (fxOf fd L a outer 1) (bodySt Zbe) (Zi9 d) := by
 have G : FxG (fxOf fd L a outer 1) Zrd Zre 8 1 := FxG.fn hs rfl hg hb (of_decide_eq_true (by kernel_rfl))
 have hfr : (fxOf fd L a outer 1).frames = (fxOf fd L a outer 1).env :: outer := rfl
 have hh : (fxOf fd L a outer 1).hd = true := rfl
 generalize fxOf fd L a outer 1 = F at G hfr hh
 exact Zb (Zs (Zj (Zi Γ.n_ready_nodes G.name rfl) (Z5) rfl) (Zb (Sim.B) (Zc)) (Zc)) (Zb (Zd (Zi Γ.n_node2info G.name rfl) G.asg rfl rfl rfl) (Zb (Zac hfr hh fuel G.name G.asg (Zb (Zs (Zj (Zdk (Zfb rfl rfl rfl G.name (.cons G.name (.nil))) G.asg) (Z5) rfl) (Zb (Sim.B) (Zc)) (Zc)) (Zb (Zd (Za8 Γ.s_npredecessors.toSlotName G.name rfl) G.asg rfl rfl rfl) (Zb (Zs (Zj G.name (G.globI (by kernel_rfl) Γ.node_out) rfl) (Zb (Zs (Zj G.name (Zh) rfl) (Zb (Sim.B) (Zc)) (Zb (Zs (Zj G.name (G.globI (by kernel_rfl) Γ.node_done) rfl) (Zb (Sim.B) (Zc)) (Zb (Sim.B) (Zc))) (Zc))) (Zc)) (Zc)) (Zb (Zd (G.globI (by kernel_rfl) Γ.node_done) (Z9 G.name (λ _ _ _ _ => Zag Γ.s_npredecessors)) rfl rfl rfl) (Zb (Zac hfr hh fuel (Za8 Γ.s_successors.toSlotName G.name rfl) G.asg (Zb (Zd (Zg G.name G.name (λ _ _ => rfl)) G.asg rfl rfl rfl) (Zb (Zbs G.name (Zh) (λ _ _ => Zdw Γ.s_npredecessors.toSlotName) (λ _ _ _ _ => Zag Γ.s_npredecessors)) (Zb (Zs (Zj (Za8 Γ.s_npredecessors.toSlotName G.name rfl) (Zh) rfl) (Zb (Zr (Z7 rfl rfl rfl rfl (Zi Γ.n_ready_nodes G.name rfl) G.name) G.quiet rfl) (Zc)) (Zc)) (Zc)))) (λ _ => rfl)) (Zb (Zbs G.name (Zh) (λ _ _ => Zdv Γ.n_nfinished) (λ _ _ _ _ => Zaf Γ.o_nfinished)) (Zc))))))) (λ _ => rfl)) (Zc)))
theorem Zpp {c : Cx} {fd : FuncData} (hp : fd.params = paramsSt Zbe) (hd : fd.defaults = .none) (hs : fd.scope = scopeSt Zbe) : Binds c fd [("self" : Str), ("nodes" : Str)] (arrStar 1) := Zgd (by unfold ownKs; rw [hs]; kernel_rfl) λ vs r hl => by
 rcases vs with _ | ⟨v0, _ | ⟨_, _⟩⟩ <;> first | (simp at hl; done) | skip
 obtain ⟨a1, a2, a3, a4, a5, a6, a7, a8, a9, a10, a11, a12, a13, a14, a15⟩ := fd
 dsimp only at hp hd
 subst hp hd
 cases r <;> rfl
theorem Zrh {c : Cx} {d : Ad} {z : Fa} (Γ : Facts c d z) : CallOk c z.a_done 1 (Zgh d) := by
 obtain ⟨fd, hat, hs, hp, hg, hb, hd⟩ := Γ.f_done.ok
 refine CallOk.mk hat (Zpp hp hd hs) ?_ λ L outer => Zpo Γ hs hg hb
 ·intro xs fr h
  rcases xs with _ | ⟨_, r⟩ <;> first | exact Zf h | skip
  have h : (match lenOk r with | true => some _ | false => none) = some fr := h
  cases hl : lenOk r with
  | false => rw [hl] at h; exact Zf h
  | true => rw [hl] at h; cases h; exact ⟨_, by unfold arrStar; simp [hl]; rfl, by rw [hs]; rfl⟩

theorem Zh1 {c : Cx} {d : Ad} {z : Fa} (Γ : Facts c d z) {fd : FuncData} {L a : Addr} {outer : List Env} (hs : fd.scope = scopeSt Z3) (hg : fd.globals = mainGlobals) (hb : fd.builtins = builtinsNs) : SimSS c (fxOf fd L a outer 6) (bodySt Z3) (g_law_drawn d) := by
 have G : FxG (fxOf fd L a outer 6) Zje Zjf 8 6 := FxG.fn hs rfl hg hb (of_decide_eq_true (by kernel_rfl))
 have hfr : (fxOf fd L a outer 6).frames = (fxOf fd L a outer 6).env :: outer := rfl
 have hh : (fxOf fd L a outer 6).hd = true := rfl
 generalize fxOf fd L a outer 6 = F at G hfr hh
 exact Zb (Zd (Zw true (.nil)) G.asg rfl rfl rfl) (Zb (Zac hfr hh fuel (G.callT Γ.bu Za3 (.cons (G.callB Γ.bu Zao (.cons G.name (.nil)) Zat) (.nil)) Zbc) G.asg (Zb (Zs (Zj G.name (Zh) rfl) (Zb (Zr (Z7 rfl rfl rfl rfl G.name (Zg G.name G.name (λ _ _ => rfl))) G.quiet rfl) (Zc)) (Zb (Zme G.name (Zav G.name (Zh)) (Zg G.name G.name (λ _ _ => rfl)) (λ _ _ _ => rfl)) (Zc))) (Zc)) (λ _ => rfl)) (Zb (G.asgComp hh rfl (by kernel_rfl) (by kernel_rfl) (λ _ => rfl) (by kernel_rfl) G.name (λ Lc acc i G3 => Zd2 G3.asg (Zai (.cons (Zav G3.name (Zh)) (.cons (Zav (Zav G3.name (Zh)) (Zh)) (.nil))))) G.asg) (Zb (Zd (G.callB Γ.bu Zo9 (.cons (G.listComp hh rfl (by kernel_rfl) (by kernel_rfl) (λ _ => rfl) G.name (λ Lc acc i G2 => Zd2 G2.asg (Zav G2.name (Zh)))) (.nil)) (Zqz hh)) G.asg rfl rfl rfl) (Zb (Zd (Zw true (.nil)) G.asg rfl rfl rfl) (Zb (Zd (Zw true (.cons (Zh) (.cons (Zh) (.cons (Zh) (.cons (Zh) (.cons (Zh) (.nil))))))) G.asg rfl rfl rfl) (Zb (Zac hfr hh fuel (Zai (.cons (Zh) (.cons (Zh) (.cons (Zh) (.cons (Zh) (.cons (Zh) (.nil))))))) G.asg (Zb (Zr (Z7 rfl rfl rfl rfl G.name (Znq rfl rfl rfl rfl G.name (Zav G.name G.name))) G.quiet rfl) (Zb (Zd (Zav G.name G.name) G.asg rfl rfl rfl) (Zc))) (λ _ => rfl)) (Zb (Zu (Zai (.cons G.name (.cons G.name (.nil))))) (Zc))))))))
theorem Zh2 {c : Cx} {fd : FuncData} (hp : fd.params = paramsSt Z3) (hd : fd.defaults = .none) (hs : fd.scope = scopeSt Z3) : Binds c fd [("script" : Str)] (arrPlain 1) := Zy (by unfold ownKs; rw [hs]; kernel_rfl) λ vs hl => by
 rcases vs with _ | ⟨v0, _ | ⟨_, _⟩⟩ <;> first | (simp at hl; done) | skip
 obtain ⟨a1, a2, a3, a4, a5, a6, a7, a8, a9, a10, a11, a12, a13, a14, a15⟩ := fd
 dsimp only at hp hd
 subst hp hd
 rfl
theorem Zjm {c : Cx} {d : Ad} {z : Fa} (Γ : Facts c d z) : CallOk c z.a_law_drawn 6 (Zc0 d) := by
 obtain ⟨fd, hat, hs, hp, hg, hb, hd⟩ := Γ.f_law_drawn.ok
 refine CallOk.mk hat (Zh2 hp hd hs) ?_ λ L outer => Zh1 Γ hs hg hb
 ·intro xs fr h
  rcases xs with _ | ⟨_, _ | ⟨_, _⟩⟩ <;> first | exact Zf h | (cases h; exact ⟨_, rfl, by rw [hs]; rfl⟩)
theorem Zej {c : Cx} {d : Ad} {z : Fa} (Γ : Facts c d z) {fd : FuncData} {L a : Addr} {outer : List Env} (hs : fd.scope = scopeSt Zt) (hg : fd.globals = mainGlobals) (hb : fd.builtins = builtinsNs) : SimSS c (fxOf fd L a outer 6) (bodySt Zt) (g_law_first_ways d) := by
 have G : FxG (fxOf fd L a outer 6) Ze2 Ze3 8 6 := FxG.fn hs rfl hg hb (of_decide_eq_true (by kernel_rfl))
 have hfr : (fxOf fd L a outer 6).frames = (fxOf fd L a outer 6).env :: outer := rfl
 have hh : (fxOf fd L a outer 6).hd = true := rfl
 generalize fxOf fd L a outer 6 = F at G hfr hh
 exact Zb (Zd (Zfp) G.asg rfl rfl rfl) (Zb (G.asgComp hh rfl (by kernel_rfl) (by kernel_rfl) (λ _ => rfl) (by kernel_rfl) (G.callT Γ.bu Za3 (.cons (G.callB Γ.bu Zao (.cons G.name (.nil)) Zat) (.nil)) Zbc) (λ Lc acc i G3 => Zd2 G3.asg (Zai (.cons (Zw false (.cons G3.name (.nil))) (.cons (Zw false (.cons (Zg G3.name G3.name (λ _ _ => rfl)) (.nil))) (.nil))))) G.asg) (Zb (Zdr hfr fuel (Zcc G.name rfl) (Zb (Zd (Zgp rfl rfl rfl G.name) (Zar hh (.cons G.asg (.cons G.asg (.nil)))) rfl rfl rfl) (Zb (Zd (Zg G.name (Zbm (Zh)) (λ _ _ => rfl)) G.asg rfl rfl rfl) (Zb (Zs (Zcl (Zab (Zj G.name G.name rfl) (Zab (Zph G.name (Zg (Zg G.name G.name (λ _ _ => rfl)) (Zh) (λ _ _ => rfl)) rfl) (Zau)))) (Zb (Zd (Zai (.cons G.name (.cons G.name (.nil)))) (Zfq G.name G.name) rfl rfl rfl) (Zc)) (Zc)) (Zb (Zac hfr hh fuel (G.callT Γ.bu Za3 (.cons (G.callB Γ.bu Zao (.cons G.name (.nil)) Zat) (.nil)) Zbc) G.asg (Zb (Zs (Zcl (Zck (Zj (Zg (Zg G.name G.name (λ _ _ => rfl)) (Zh) (λ _ _ => rfl)) G.name rfl) (Zck (Zj (Zg (Zg G.name G.name (λ _ _ => rfl)) (Zh) (λ _ _ => rfl)) G.name rfl) (Zdo)))) (Zb (Zr (Z7 rfl rfl rfl rfl G.name (Zai (.cons (Zcg false G.name (Zw false (.cons G.name (.nil)))) (.cons (Zcg false G.name (Zw false (.cons (Zg (Zg G.name G.name (λ _ _ => rfl)) (Zh) (λ _ _ => rfl)) (.nil)))) (.nil))))) G.quiet rfl) (Zc)) (Zc)) (Zc)) (λ _ => rfl)) (Zc))))) (Zc)) (Zb (Zu G.name) (Zc))))
theorem Zek {c : Cx} {fd : FuncData} (hp : fd.params = paramsSt Zt) (hd : fd.defaults = .none) (hs : fd.scope = scopeSt Zt) : Binds c fd [("names" : Str), ("told" : Str)] (arrPlain 2) := Zy (by unfold ownKs; rw [hs]; kernel_rfl) λ vs hl => by
 rcases vs with _ | ⟨v0, _ | ⟨v1, _ | ⟨_, _⟩⟩⟩ <;> first | (simp at hl; done) | skip
 obtain ⟨a1, a2, a3, a4, a5, a6, a7, a8, a9, a10, a11, a12, a13, a14, a15⟩ := fd
 dsimp only at hp hd
 subst hp hd
 rfl
theorem Ze4 {c : Cx} {d : Ad} {z : Fa} (Γ : Facts c d z) : CallOk c z.a_law_first_ways 6 (Za9 d) := by
 obtain ⟨fd, hat, hs, hp, hg, hb, hd⟩ := Γ.f_law_first_ways.ok
 refine CallOk.mk hat (Zek hp hd hs) ?_ λ L outer => Zej Γ hs hg hb
 ·intro xs fr h
  rcases xs with _ | ⟨_, _ | ⟨_, _ | ⟨_, _⟩⟩⟩ <;> first | exact Zf h | (cases h; exact ⟨_, rfl, by rw [hs]; rfl⟩)
theorem Zh3 {c : Cx} {d : Ad} {z : Fa} (Γ : Facts c d z) {fd : FuncData} {L a : Addr} {outer : List Env} (hs : fd.scope = scopeSt Z4) (hg : fd.globals = mainGlobals) (hb : fd.builtins = builtinsNs) : SimSS c (fxOf fd L a outer 7) (bodySt Z4) (g_law_rings d) := by
 have G : FxG (fxOf fd L a outer 7) Zjg Zjh 9 7 := FxG.fn hs rfl hg hb (of_decide_eq_true (by kernel_rfl))
 have hfr : (fxOf fd L a outer 7).frames = (fxOf fd L a outer 7).env :: outer := rfl
 have hh : (fxOf fd L a outer 7).hd = true := rfl
 generalize fxOf fd L a outer 7 = F at G hfr hh
 exact Zb (Zd (G.callG hh (by kernel_rfl) Γ.g_law_first_ways Γ.f_law_first_ways (.cons G.name (.cons G.name (.nil))) (Ze4 Γ) (by decide)) G.asg rfl rfl rfl) (Zb (Zd (Zw true (.nil)) G.asg rfl rfl rfl) (Zb (Zac hfr hh fuel (G.callT Γ.bu Za3 (.cons (G.callB Γ.bu Zao (.cons G.name (.nil)) Zat) (.nil)) Zbc) G.asg (Zb (Zd (Zg G.name G.name (λ _ _ => rfl)) (Zar hh (.cons G.asg (.cons G.asg (.nil)))) rfl rfl rfl) (Zb (Zd (Zg G.name G.name (λ _ _ => rfl)) (Zar hh (.cons G.asg (.cons G.asg (.nil)))) rfl rfl rfl) (Zb (Zs (Zj G.name G.name rfl) (Zb (Zr (Z7 rfl rfl rfl rfl G.name (Zai (.cons (Zcg false G.name (Zw false (.cons G.name (.nil)))) (.cons (Zcg false (Zga false G.name (Zd5 rfl rfl rfl G.name (.cons G.name (.nil))) (λ _ _ => rfl)) (Zw false (.cons G.name (.nil)))) (.nil))))) G.quiet rfl) (Zc)) (Zc)) (Zc)))) (λ _ => rfl)) (Zb (Zr (Zob rfl rfl rfl G.name (.nil)) G.quiet rfl) (Zb (Zu (G.listComp hh rfl (by kernel_rfl) (by kernel_rfl) (λ _ => rfl) G.name (λ Lc acc i G1 => Zd2 (Zar hh (.cons G1.asg (.cons G1.asg (.nil)))) G1.name))) (Zc)))))
theorem Zh4 {c : Cx} {fd : FuncData} (hp : fd.params = paramsSt Z4) (hd : fd.defaults = .none) (hs : fd.scope = scopeSt Z4) : Binds c fd [("names" : Str), ("told" : Str)] (arrPlain 2) := Zy (by unfold ownKs; rw [hs]; kernel_rfl) λ vs hl => by
 rcases vs with _ | ⟨v0, _ | ⟨v1, _ | ⟨_, _⟩⟩⟩ <;> first | (simp at hl; done) | skip
 obtain ⟨a1, a2, a3, a4, a5, a6, a7, a8, a9, a10, a11, a12, a13, a14, a15⟩ := fd
 dsimp only at hp hd
 subst hp hd
 rfl
theorem Zjn {c : Cx} {d : Ad} {z : Fa} (Γ : Facts c d z) : CallOk c z.a_law_rings 7 (Zbv d) := by
 obtain ⟨fd, hat, hs, hp, hg, hb, hd⟩ := Γ.f_law_rings.ok
 refine CallOk.mk hat (Zh4 hp hd hs) ?_ λ L outer => Zh3 Γ hs hg hb
 ·intro xs fr h
  rcases xs with _ | ⟨_, _ | ⟨_, _ | ⟨_, _⟩⟩⟩ <;> first | exact Zf h | (cases h; exact ⟨_, rfl, by rw [hs]; rfl⟩)
theorem Zri {c : Cx} {d : Ad} {z : Fa} (Γ : Facts c d z) {fd : FuncData} {L a : Addr} {outer : List Env} (hs : fd.scope = scopeSt Zbz) (hg : fd.globals = mainGlobals) (hb : fd.builtins = builtinsNs) : SimSS c (fxOf fd L a outer 9) (bodySt Zbz) (g_law d) := by
 have G : FxG (fxOf fd L a outer 9) Zsd Zse 14 9 := FxG.fn hs rfl hg hb (of_decide_eq_true (by kernel_rfl))
 have hfr : (fxOf fd L a outer 9).frames = (fxOf fd L a outer 9).env :: outer := rfl
 have hh : (fxOf fd L a outer 9).hd = true := rfl
 generalize fxOf fd L a outer 9 = F at G hfr hh
 exact Zb (Zd (G.callG hh (by kernel_rfl) Γ.g_law_drawn Γ.f_law_drawn (.cons G.name (.nil)) (Zjm Γ) (by decide)) (Zar hh (.cons G.asg (.cons G.asg (.nil)))) rfl rfl rfl) (Zb (Zd (G.callT Γ.bu Zn5 (.cons G.name (.nil)) (Zmj hh)) G.asg rfl rfl rfl) (Zb (Zd (Zw true (.nil)) G.asg rfl rfl rfl) (Zb (Zac hfr hh fuel (G.callT Γ.bu Za3 (.cons (Zav (G.callB Γ.bu Zao (.cons G.name (.nil)) Zat) (Zh)) (.nil)) Zbc) G.asg (Zb (Zd (G.callC hh (by kernel_rfl) Γ.g_TS Γ.mk_TS (Zm5 Γ) (by decide) (.nil)) G.asg rfl rfl rfl) (Zb (Zac hfr hh fuel G.name G.asg (Zb (Zr (G.callM hh Γ.m_add Γ.f_add rfl rfl rfl G.name (.cons G.name (.nil)) (Zoc Γ) (by decide)) G.quiet rfl) (Zc)) (λ _ => rfl)) (Zb (Zac hfr hh fuel G.name (Zar hh (.cons G.asg (.cons G.asg (.nil)))) (Zb (Zr (G.callM hh Γ.m_add Γ.f_add rfl rfl rfl G.name (.cons G.name (.cons G.name (.nil))) (Zoc Γ) (by decide)) G.quiet rfl) (Zc)) (λ _ => rfl)) (Zb (Zd (G.callM hh Γ.m_find Γ.f_find rfl rfl rfl G.name (.nil) (Zlr Γ) (by decide)) G.asg rfl rfl rfl) (Zb (Zd (Za7) G.asg rfl rfl rfl) (Zb (have G4 := G.handling; Zlf hfr (Zb (Zr (G.callM hh Γ.m_prepare Γ.f_prepare rfl rfl rfl G.name (.nil) (Zm6 Γ) (by decide)) G.quiet rfl) (Zc)) (.cons (G.handling.hGlob (by kernel_rfl) Γ.x_CE.glob) Γ.c_CE (Zb (Zd (Za7) G4.asg rfl rfl rfl) (Zc)) (.nil))) (Zb (Zs (Zj G.name (Zfn G.name (Z5) rfl) rfl) (Zb (Zu (Za7)) (Zc)) (Zc)) (Zb (Zs (Zj G.name (Z5) rfl) (Zb (Zdp) (Zc)) (Zc)) (Zb (Zr (Z7 rfl rfl rfl rfl G.name G.name) G.quiet rfl) (Zb (Zs (Zcl (Zab (Zj (G.callB Γ.bu Zao (.cons G.name (.nil)) Zat) (Zh) rfl) (Zab (Zj (Zai (.cons (Zg G.name (Zbm (Zh)) (λ _ _ => rfl)) (.cons (Zg G.name (Zbm (Zh)) (λ _ _ => rfl)) (.nil)))) G.name rfl) (Zau)))) (Zb (Zu (Za7)) (Zc)) (Zc)) (Zb (Zr (Zmx rfl rfl rfl G.name (.cons (Zai (.cons (Zg G.name (Zbm (Zh)) (λ _ _ => rfl)) (.cons (Zg G.name (Zbm (Zh)) (λ _ _ => rfl)) (.nil)))) (.nil))) G.quiet rfl) (Zc)))))))))))) (λ _ => rfl)) (Zb (Zs (Zj G.name (G.callG hh (by kernel_rfl) Γ.g_law_rings Γ.f_law_rings (.cons G.name (.cons G.name (.nil))) (Zjn Γ) (by decide)) rfl) (Zb (Zu (Za7)) (Zc)) (Zc)) (Zb (Zd (Zw true (.nil)) G.asg rfl rfl rfl) (Zb (Zac hfr hh fuel (G.callT Γ.bu Za3 (.cons (G.callB Γ.bu Zao (.cons G.name (.nil)) Zat) (.nil)) Zbc) G.asg (Zb (Zd (G.callM hh Γ.m_get_ready Γ.f_get_ready rfl rfl rfl G.name (.nil) (Zjk Γ) (by decide)) G.asg rfl rfl rfl) (Zb (Zr (Zmq rfl rfl rfl G.name (.cons G.name (.nil))) G.quiet rfl) (Zb (Zr (G.callM hh Γ.m_done Γ.f_done rfl rfl rfl G.name (.star G.name) (Zrh Γ) (by decide)) G.quiet rfl) (Zc)))) (λ _ => rfl)) (Zb (Zs (Zcl (Zab (Zj (G.callB Γ.bu Zfc (.cons G.name (.nil)) Zdl) (G.callB Γ.bu Zfc (.cons G.name (.nil)) Zdl) rfl) (Zab (Zcc (G.callM hh Γ.m_is_active Γ.f_is_active rfl rfl rfl G.name (.nil) (Zjl Γ) (by decide)) rfl) (Zau)))) (Zb (Zu (Za7)) (Zc)) (Zc)) (Zb (Zu (G.callB Γ.bu Zpa (.cons (G.listComp hh rfl (by kernel_rfl) (by kernel_rfl) (λ _ => rfl) G.name (λ Lc acc i G1 => Zd2 (Zar hh (.cons G1.asg (.cons G1.asg (.nil)))) (Zfn (Zd5 rfl rfl rfl G1.name (.cons G1.name (.nil))) (Zd5 rfl rfl rfl G1.name (.cons G1.name (.nil))) rfl))) (.nil)) (Zq0 hh))) (Zc)))))))))
theorem Zrj {c : Cx} {fd : FuncData} (hp : fd.params = paramsSt Zbz) (hd : fd.defaults = .none) (hs : fd.scope = scopeSt Zbz) : Binds c fd [("script" : Str)] (arrPlain 1) := Zy (by unfold ownKs; rw [hs]; kernel_rfl) λ vs hl => by
 rcases vs with _ | ⟨v0, _ | ⟨_, _⟩⟩ <;> first | (simp at hl; done) | skip
 obtain ⟨a1, a2, a3, a4, a5, a6, a7, a8, a9, a10, a11, a12, a13, a14, a15⟩ := fd
 dsimp only at hp hd
 subst hp hd
 rfl
theorem Zsf {c : Cx} {d : Ad} {z : Fa} (Γ : Facts c d z) : CallOk c z.a_law 9 (k_law d) := by
 obtain ⟨fd, hat, hs, hp, hg, hb, hd⟩ := Γ.f_law.ok
 refine CallOk.mk hat (Zrj hp hd hs) ?_ λ L outer => Zri Γ hs hg hb
 ·intro xs fr h
  rcases xs with _ | ⟨_, _ | ⟨_, _⟩⟩ <;> first | exact Zf h | (cases h; exact ⟨_, rfl, by rw [hs]; rfl⟩)

noncomputable def seen1 : List EqT := [
 ⟨_, λ K => isFunc K 36, true⟩,
 ⟨_, λ K => codeIn K (fdAt K 36).code (fdAt K 36).qualname, true⟩,
 ⟨_, λ K => (fdAt K 36).body, .stmts (bodySt Zak)⟩,
 ⟨_, λ K => (fdAt K 36).closure, []⟩,
 ⟨_, λ K => (fdAt K 36).scope, scopeSt Zak⟩,
 ⟨_, λ K => (fdAt K 36).params, paramsSt Zak⟩,
 ⟨_, λ K => (fdAt K 36).globals, mainGlobals⟩,
 ⟨_, λ K => (fdAt K 36).builtins, builtinsNs⟩,
 ⟨_, λ K => (fdAt K 36).defaults, Value.none⟩,
 ⟨_, λ K => isFunc K 80, true⟩,
 ⟨_, λ K => codeIn K (fdAt K 80).code (fdAt K 80).qualname, true⟩,
 ⟨_, λ K => (fdAt K 80).body, .stmts (bodySt Zaa)⟩,
 ⟨_, λ K => (fdAt K 80).closure, []⟩,
 ⟨_, λ K => (fdAt K 80).scope, scopeSt Zaa⟩,
 ⟨_, λ K => (fdAt K 80).params, paramsSt Zaa⟩,
 ⟨_, λ K => (fdAt K 80).globals, mainGlobals⟩,
 ⟨_, λ K => (fdAt K 80).builtins, builtinsNs⟩,
 ⟨_, λ K => (fdAt K 80).defaults, Value.none⟩,
 ⟨_, λ K => isFunc K 87, true⟩,
 ⟨_, λ K => codeIn K (fdAt K 87).code (fdAt K 87).qualname, true⟩,
 ⟨_, λ K => (fdAt K 87).body, .stmts (bodySt Zby)⟩,
 ⟨_, λ K => (fdAt K 87).closure, []⟩,
 ⟨_, λ K => (fdAt K 87).scope, scopeSt Zby⟩,
 ⟨_, λ K => (fdAt K 87).params, paramsSt Zby⟩,
 ⟨_, λ K => (fdAt K 87).globals, mainGlobals⟩,
 ⟨_, λ K => (fdAt K 87).builtins, builtinsNs⟩,
 ⟨_, λ K => (fdAt K 87).defaults, Value.none⟩,
 ⟨_, λ K => isFunc K 73, true⟩,
 ⟨_, λ K => codeIn K (fdAt K 73).code (fdAt K 73).qualname, true⟩,
 ⟨_, λ K => (fdAt K 73).body, .stmts (bodySt Zal)⟩,
 ⟨_, λ K => (fdAt K 73).closure, []⟩,
 ⟨_, λ K => (fdAt K 73).scope, scopeSt Zal⟩,
 ⟨_, λ K => (fdAt K 73).params, paramsSt Zal⟩,
 ⟨_, λ K => (fdAt K 73).globals, mainGlobals⟩,
 ⟨_, λ K => (fdAt K 73).builtins, builtinsNs⟩,
 ⟨_, λ K => K.lookup 66, some { cls := .type "tuple", data := .seq #[.none] 0 }⟩,
 ⟨_, λ K => (fdAt K 73).defaults, Value.ref 66⟩,
 ⟨_, λ K => isFunc K 127, true⟩,
 ⟨_, λ K => codeIn K (fdAt K 127).code (fdAt K 127).qualname, true⟩,
 ⟨_, λ K => (fdAt K 127).body, .stmts (bodySt Zbd)⟩,
 ⟨_, λ K => (fdAt K 127).closure, []⟩,
 ⟨_, λ K => (fdAt K 127).scope, scopeSt Zbd⟩,
 ⟨_, λ K => (fdAt K 127).params, paramsSt Zbd⟩,
 ⟨_, λ K => (fdAt K 127).globals, mainGlobals⟩,
 ⟨_, λ K => (fdAt K 127).builtins, builtinsNs⟩,
 ⟨_, λ K => (fdAt K 127).defaults, Value.none⟩,
 ⟨_, λ K => isFunc K 92, true⟩,
 ⟨_, λ K => codeIn K (fdAt K 92).code (fdAt K 92).qualname, true⟩,
 ⟨_, λ K => (fdAt K 92).body, .stmts (bodySt Zam)⟩,
 ⟨_, λ K => (fdAt K 92).closure, []⟩,
 ⟨_, λ K => (fdAt K 92).scope, scopeSt Zam⟩,
 ⟨_, λ K => (fdAt K 92).params, paramsSt Zam⟩,
 ⟨_, λ K => (fdAt K 92).globals, mainGlobals⟩,
 ⟨_, λ K => (fdAt K 92).builtins, builtinsNs⟩,
 ⟨_, λ K => (fdAt K 92).defaults, Value.none⟩,
 ⟨_, λ K => isFunc K 99, true⟩,
 ⟨_, λ K => codeIn K (fdAt K 99).code (fdAt K 99).qualname, true⟩,
 ⟨_, λ K => (fdAt K 99).body, .stmts (bodySt Z1)⟩,
 ⟨_, λ K => (fdAt K 99).closure, []⟩,
 ⟨_, λ K => (fdAt K 99).scope, scopeSt Z1⟩,
 ⟨_, λ K => (fdAt K 99).params, paramsSt Z1⟩,
 ⟨_, λ K => (fdAt K 99).globals, mainGlobals⟩,
 ⟨_, λ K => (fdAt K 99).builtins, builtinsNs⟩,
 ⟨_, λ K => (fdAt K 99).defaults, Value.none⟩,
 ⟨_, λ K => isFunc K 106, true⟩,
 ⟨_, λ K => codeIn K (fdAt K 106).code (fdAt K 106).qualname, true⟩,
 ⟨_, λ K => (fdAt K 106).body, .stmts (bodySt Z2)⟩,
 ⟨_, λ K => (fdAt K 106).closure, []⟩,
 ⟨_, λ K => (fdAt K 106).scope, scopeSt Z2⟩,
 ⟨_, λ K => (fdAt K 106).params, paramsSt Z2⟩,
 ⟨_, λ K => (fdAt K 106).globals, mainGlobals⟩,
 ⟨_, λ K => (fdAt K 106).builtins, builtinsNs⟩,
 ⟨_, λ K => (fdAt K 106).defaults, Value.none⟩,
 ⟨_, λ K => isFunc K 120, true⟩,
 ⟨_, λ K => codeIn K (fdAt K 120).code (fdAt K 120).qualname, true⟩,
 ⟨_, λ K => (fdAt K 120).body, .stmts (bodySt Zbe)⟩,
 ⟨_, λ K => (fdAt K 120).closure, []⟩,
 ⟨_, λ K => (fdAt K 120).scope, scopeSt Zbe⟩,
 ⟨_, λ K => (fdAt K 120).params, paramsSt Zbe⟩,
 ⟨_, λ K => (fdAt K 120).globals, mainGlobals⟩,
 ⟨_, λ K => (fdAt K 120).builtins, builtinsNs⟩,
 ⟨_, λ K => (fdAt K 120).defaults, Value.none⟩,
 ⟨_, λ K => isFunc K 146, true⟩,
 ⟨_, λ K => codeIn K (fdAt K 146).code (fdAt K 146).qualname, true⟩,
 ⟨_, λ K => (fdAt K 146).body, .stmts (bodySt Z3)⟩,
 ⟨_, λ K => (fdAt K 146).closure, []⟩,
 ⟨_, λ K => (fdAt K 146).scope, scopeSt Z3⟩,
 ⟨_, λ K => (fdAt K 146).params, paramsSt Z3⟩,
 ⟨_, λ K => (fdAt K 146).globals, mainGlobals⟩,
 ⟨_, λ K => (fdAt K 146).builtins, builtinsNs⟩,
 ⟨_, λ K => (fdAt K 146).defaults, Value.none⟩,
 ⟨_, λ K => isFunc K 151, true⟩,
 ⟨_, λ K => codeIn K (fdAt K 151).code (fdAt K 151).qualname, true⟩,
 ⟨_, λ K => (fdAt K 151).body, .stmts (bodySt Zt)⟩,
 ⟨_, λ K => (fdAt K 151).closure, []⟩,
 ⟨_, λ K => (fdAt K 151).scope, scopeSt Zt⟩,
 ⟨_, λ K => (fdAt K 151).params, paramsSt Zt⟩,
 ⟨_, λ K => (fdAt K 151).globals, mainGlobals⟩,
 ⟨_, λ K => (fdAt K 151).builtins, builtinsNs⟩,
 ⟨_, λ K => (fdAt K 151).defaults, Value.none⟩,
 ⟨_, λ K => isFunc K 156, true⟩,
 ⟨_, λ K => codeIn K (fdAt K 156).code (fdAt K 156).qualname, true⟩,
 ⟨_, λ K => (fdAt K 156).body, .stmts (bodySt Z4)⟩,
 ⟨_, λ K => (fdAt K 156).closure, []⟩,
 ⟨_, λ K => (fdAt K 156).scope, scopeSt Z4⟩,
 ⟨_, λ K => (fdAt K 156).params, paramsSt Z4⟩,
 ⟨_, λ K => (fdAt K 156).globals, mainGlobals⟩,
 ⟨_, λ K => (fdAt K 156).builtins, builtinsNs⟩,
 ⟨_, λ K => (fdAt K 156).defaults, Value.none⟩,
 ⟨_, λ K => isFunc K 161, true⟩,
 ⟨_, λ K => codeIn K (fdAt K 161).code (fdAt K 161).qualname, true⟩,
 ⟨_, λ K => (fdAt K 161).body, .stmts (bodySt Zbz)⟩,
 ⟨_, λ K => (fdAt K 161).closure, []⟩,
 ⟨_, λ K => (fdAt K 161).scope, scopeSt Zbz⟩,
 ⟨_, λ K => (fdAt K 161).params, paramsSt Zbz⟩,
 ⟨_, λ K => (fdAt K 161).globals, mainGlobals⟩,
 ⟨_, λ K => (fdAt K 161).builtins, builtinsNs⟩,
 ⟨_, λ K => (fdAt K 161).defaults, Value.none⟩,
 ⟨_, λ K => findIn K (.ref 137) ("_get_nodeinfo" : Str), some (some (Value.ref 80))⟩,
 ⟨_, λ K => typeIn K (.ref 80), some (Value.type "function")⟩,
 ⟨_, λ K => findIn K (.ref 137) "__getattribute__", (some (some (.builtin "object.__getattribute__")) : Option (Option Value))⟩,
 ⟨_, λ K => findIn K (.ref 137) "__getattr__", some none⟩,
 ⟨_, λ K => (clsIn K 137).any (·.hasDict), true⟩,
 ⟨_, λ K => specialIn K (.ref 80) "__get__", some (some (Value.builtin "function.__get__"))⟩,
 ⟨_, λ K => takesIn K (.ref 80), some false⟩,
 ⟨_, λ K => findIn K (.ref 137) ("add" : Str), some (some (Value.ref 87))⟩,
 ⟨_, λ K => typeIn K (.ref 87), some (Value.type "function")⟩,
 ⟨_, λ K => specialIn K (.ref 87) "__get__", some (some (Value.builtin "function.__get__"))⟩,
 ⟨_, λ K => takesIn K (.ref 87), some false⟩,
 ⟨_, λ K => findIn K (.ref 137) ("_find_cycle" : Str), some (some (Value.ref 127))⟩,
 ⟨_, λ K => typeIn K (.ref 127), some (Value.type "function")⟩,
 ⟨_, λ K => specialIn K (.ref 127) "__get__", some (some (Value.builtin "function.__get__"))⟩,
 ⟨_, λ K => takesIn K (.ref 127), some false⟩,
 ⟨_, λ K => findIn K (.ref 137) ("prepare" : Str), some (some (Value.ref 92))⟩,
 ⟨_, λ K => typeIn K (.ref 92), some (Value.type "function")⟩,
 ⟨_, λ K => specialIn K (.ref 92) "__get__", some (some (Value.builtin "function.__get__"))⟩,
 ⟨_, λ K => takesIn K (.ref 92), some false⟩,
 ⟨_, λ K => findIn K (.ref 137) ("get_ready" : Str), some (some (Value.ref 99))⟩,
 ⟨_, λ K => typeIn K (.ref 99), some (Value.type "function")⟩,
 ⟨_, λ K => specialIn K (.ref 99) "__get__", some (some (Value.builtin "function.__get__"))⟩,
 ⟨_, λ K => takesIn K (.ref 99), some false⟩,
 ⟨_, λ K => findIn K (.ref 137) ("is_active" : Str), some (some (Value.ref 106))⟩,
 ⟨_, λ K => typeIn K (.ref 106), some (Value.type "function")⟩,
 ⟨_, λ K => specialIn K (.ref 106) "__get__", some (some (Value.builtin "function.__get__"))⟩,
 ⟨_, λ K => takesIn K (.ref 106), some false⟩,
 ⟨_, λ K => findIn K (.ref 137) ("done" : Str), some (some (Value.ref 120))⟩,
 ⟨_, λ K => typeIn K (.ref 120), some (Value.type "function")⟩,
 ⟨_, λ K => specialIn K (.ref 120) "__get__", some (some (Value.builtin "function.__get__"))⟩,
 ⟨_, λ K => takesIn K (.ref 120), some false⟩,
 ⟨_, λ K => nsIn K mainGlobals ("_law_drawn" : Str), some (some (Value.ref 146))⟩,
 ⟨_, λ K => nsIn K mainGlobals ("_law_first_ways" : Str), some (some (Value.ref 151))⟩,
 ⟨_, λ K => nsIn K mainGlobals ("_law_rings" : Str), some (some (Value.ref 156))⟩,
 ⟨_, λ K => nsIn K mainGlobals ("law" : Str), some (some (Value.ref 161))⟩,
 ⟨_, λ K => findIn K (.ref 137) ("_nfinished" : Str), some none⟩,
 ⟨_, λ K => plainOver K 137, true⟩,
 ⟨_, λ K => takerIn K 137 ("_nfinished" : Str), some none⟩,
 ⟨_, λ K => findIn K (.ref 137) "__setattr__", some (some (Value.builtin "object.__setattr__"))⟩,
 ⟨_, λ K => findIn K (.ref 137) ("_node2info" : Str), some none⟩,
 ⟨_, λ K => takerIn K 137 ("_node2info" : Str), some none⟩,
 ⟨_, λ K => findIn K (.ref 137) ("_npassedout" : Str), some none⟩,
 ⟨_, λ K => takerIn K 137 ("_npassedout" : Str), some none⟩,
 ⟨_, λ K => findIn K (.ref 137) ("_ready_nodes" : Str), some none⟩,
 ⟨_, λ K => takerIn K 137 ("_ready_nodes" : Str), some none⟩,
 ⟨_, λ K => λ od => findObj K 40 od ("node" : Str), λ _ => some (.bind (.builtin "member_descriptor.__get__") (.ref 41))⟩,
 ⟨_, λ K => slotIn K 41 40, some 0⟩,
 ⟨_, λ K => takerIn K 40 ("node" : Str), some (some (Value.ref 41))⟩,
 ⟨_, λ K => typeIn K (.ref 41), some (Value.type "member_descriptor")⟩,
 ⟨_, λ K => findIn K (.ref 40) "__getattribute__", (some (some (.builtin "object.__getattribute__")) : Option (Option Value))⟩,
 ⟨_, λ K => findIn K (.ref 40) "__getattr__", some none⟩,
 ⟨_, λ K => plainOver K 40, true⟩,
 ⟨_, λ K => findIn K (.ref 40) "__setattr__", some (some (Value.builtin "object.__setattr__"))⟩,
 ⟨_, λ K => λ od => findObj K 40 od ("npredecessors" : Str), λ _ => some (.bind (.builtin "member_descriptor.__get__") (.ref 42))⟩,
 ⟨_, λ K => slotIn K 42 40, some 1⟩,
 ⟨_, λ K => takerIn K 40 ("npredecessors" : Str), some (some (Value.ref 42))⟩,
 ⟨_, λ K => typeIn K (.ref 42), some (Value.type "member_descriptor")⟩,
 ⟨_, λ K => λ od => findObj K 40 od ("successors" : Str), λ _ => some (.bind (.builtin "member_descriptor.__get__") (.ref 43))⟩,
 ⟨_, λ K => slotIn K 43 40, some 2⟩,
 ⟨_, λ K => takerIn K 40 ("successors" : Str), some (some (Value.ref 43))⟩,
 ⟨_, λ K => typeIn K (.ref 43), some (Value.type "member_descriptor")⟩,
 ⟨_, λ K => nsIn K mainGlobals ("_NodeInfo" : Str), some (some (Value.ref 40))⟩,
 ⟨_, λ K => nsIn K mainGlobals ("TopologicalSorter" : Str), some (some (Value.ref 137))⟩,
 ⟨_, λ K => makesIn K 40, true⟩,
 ⟨_, λ K => findIn K (.ref 40) "__init__", some (some (Value.ref 36))⟩,
 ⟨_, λ K => typeIn K (.ref 36), some (Value.type "function")⟩,
 ⟨_, λ K => keepIn K (.ref 40), true⟩,
 ⟨_, λ K => makesIn K 137, true⟩,
 ⟨_, λ K => findIn K (.ref 137) "__init__", some (some (Value.ref 73))⟩,
 ⟨_, λ K => typeIn K (.ref 73), some (Value.type "function")⟩,
 ⟨_, λ K => keepIn K (.ref 137), true⟩,
 ⟨_, λ K => nsIn K mainGlobals ("CycleError" : Str), some (some (Value.ref 55))⟩,
 ⟨_, λ K => excIn K 55 [.type "ValueError", .type "Exception", .type "BaseException", .type "object"] "ValueError.__new__", true⟩,
 ⟨_, λ K => exmOne K (.ref 55) (.ref 55), some true⟩,
 ⟨_, λ K => exmOne K (.type "ValueError") (.ref 55), some false⟩,
 ⟨_, λ K => exmOne K (.type "StopIteration") (.ref 55), some false⟩,
 ⟨_, λ K => exmOne K (.type "StopIteration") (.type "StopIteration"), some true⟩,
 ⟨_, λ K => exmOne K (.type "ValueError") (.type "StopIteration"), some false⟩,
 ⟨_, λ K => nsIn K mainGlobals ("_NODE_OUT" : Str), some (some (Value.int (-1) 197))⟩,
 ⟨_, λ K => nsIn K mainGlobals ("_NODE_DONE" : Str), some (some (Value.int (-2) 200))⟩,
 ⟨_, λ K => buiNames.all λ x => match nsIn K mainGlobals x with | some none => true | _ => false, true⟩]
noncomputable def seenAt1 : List Addr := [2, 3, 15, 17, 18, 20, 21, 29, 30, 32, 33, 35, 36, 37, 39, 40, 41, 42, 43, 46, 53, 54, 55, 56, 66, 67, 69, 70, 72, 73, 74, 76, 77, 79, 80, 81, 83, 84, 86, 87, 88, 91, 92, 93, 95, 96, 98, 99, 100, 102, 103, 105, 106, 107, 109, 110, 112, 113, 114, 116, 117, 119, 120, 121, 123, 124, 126, 127, 128, 130, 131, 133, 134, 135, 136, 137, 138, 139, 142, 145, 146, 147, 150, 151, 152, 155, 156, 157, 160, 161]
noncomputable abbrev zz1 : Fa := ⟨36, 80, 87, 73, 127, 92, 99, 106, 120, 146, 151, 156, 161⟩
theorem ce1 {K : Frag} {h₀ : Heap} {mg mb : Str -> Option Value} {p : Program} {loose : List Str} (X : K.In h₀) (T : TopRead p loose mg mb h₀) (e : obsL K seen1 = obsR seen1) : OwnCls ("CycleError" : Str) 55 [.type "ValueError", .type "Exception", .type "BaseException", .type "object"] "ValueError.__new__" mg h₀ :=
 own_of_in X T (Za e 189 _ rfl) (Za e 190 _ rfl)
theorem facts1 {c : Cx} (e : obsL c.K seen1 = obsR seen1) (hx : OwnCls ("CycleError" : Str) 55 [.type "ValueError", .type "Exception", .type "BaseException", .type "object"] "ValueError.__new__" c.mg c.B) : Facts c d zz1 := {
 f_ni_init := Zad (Za e 0 _ rfl) (Za e 1 _ rfl) (Za e 2 _ rfl) (Za e 3 _ rfl) (Za e 4 _ rfl) (by kernel_rfl) (by kernel_rfl) (by kernel_rfl) (Za e 5 _ rfl) (Za e 6 _ rfl) (Za e 7 _ rfl) (Za e 8 _ rfl)
 f_get_info := Zad (Za e 9 _ rfl) (Za e 10 _ rfl) (Za e 11 _ rfl) (Za e 12 _ rfl) (Za e 13 _ rfl) (by kernel_rfl) (by kernel_rfl) (by kernel_rfl) (Za e 14 _ rfl) (Za e 15 _ rfl) (Za e 16 _ rfl) (Za e 17 _ rfl)
 f_add := Zad (Za e 18 _ rfl) (Za e 19 _ rfl) (Za e 20 _ rfl) (Za e 21 _ rfl) (Za e 22 _ rfl) (by kernel_rfl) (by kernel_rfl) (by kernel_rfl) (Za e 23 _ rfl) (Za e 24 _ rfl) (Za e 25 _ rfl) (Za e 26 _ rfl)
 f_ts_init := Zad (Za e 27 _ rfl) (Za e 28 _ rfl) (Za e 29 _ rfl) (Za e 30 _ rfl) (Za e 31 _ rfl) (by kernel_rfl) (by kernel_rfl) (by kernel_rfl) (Za e 32 _ rfl) (Za e 33 _ rfl) (Za e 34 _ rfl) ⟨66, 0, (Za e 36 _ rfl), (Za e 35 _ rfl)⟩
 f_find := Zad (Za e 37 _ rfl) (Za e 38 _ rfl) (Za e 39 _ rfl) (Za e 40 _ rfl) (Za e 41 _ rfl) (by kernel_rfl) (by kernel_rfl) (by kernel_rfl) (Za e 42 _ rfl) (Za e 43 _ rfl) (Za e 44 _ rfl) (Za e 45 _ rfl)
 f_prepare := Zad (Za e 46 _ rfl) (Za e 47 _ rfl) (Za e 48 _ rfl) (Za e 49 _ rfl) (Za e 50 _ rfl) (by kernel_rfl) (by kernel_rfl) (by kernel_rfl) (Za e 51 _ rfl) (Za e 52 _ rfl) (Za e 53 _ rfl) (Za e 54 _ rfl)
 f_get_ready := Zad (Za e 55 _ rfl) (Za e 56 _ rfl) (Za e 57 _ rfl) (Za e 58 _ rfl) (Za e 59 _ rfl) (by kernel_rfl) (by kernel_rfl) (by kernel_rfl) (Za e 60 _ rfl) (Za e 61 _ rfl) (Za e 62 _ rfl) (Za e 63 _ rfl)
 f_is_active := Zad (Za e 64 _ rfl) (Za e 65 _ rfl) (Za e 66 _ rfl) (Za e 67 _ rfl) (Za e 68 _ rfl) (by kernel_rfl) (by kernel_rfl) (by kernel_rfl) (Za e 69 _ rfl) (Za e 70 _ rfl) (Za e 71 _ rfl) (Za e 72 _ rfl)
 f_done := Zad (Za e 73 _ rfl) (Za e 74 _ rfl) (Za e 75 _ rfl) (Za e 76 _ rfl) (Za e 77 _ rfl) (by kernel_rfl) (by kernel_rfl) (by kernel_rfl) (Za e 78 _ rfl) (Za e 79 _ rfl) (Za e 80 _ rfl) (Za e 81 _ rfl)
 f_law_drawn := Zad (Za e 82 _ rfl) (Za e 83 _ rfl) (Za e 84 _ rfl) (Za e 85 _ rfl) (Za e 86 _ rfl) (by kernel_rfl) (by kernel_rfl) (by kernel_rfl) (Za e 87 _ rfl) (Za e 88 _ rfl) (Za e 89 _ rfl) (Za e 90 _ rfl)
 f_law_first_ways := Zad (Za e 91 _ rfl) (Za e 92 _ rfl) (Za e 93 _ rfl) (Za e 94 _ rfl) (Za e 95 _ rfl) (by kernel_rfl) (by kernel_rfl) (by kernel_rfl) (Za e 96 _ rfl) (Za e 97 _ rfl) (Za e 98 _ rfl) (Za e 99 _ rfl)
 f_law_rings := Zad (Za e 100 _ rfl) (Za e 101 _ rfl) (Za e 102 _ rfl) (Za e 103 _ rfl) (Za e 104 _ rfl) (by kernel_rfl) (by kernel_rfl) (by kernel_rfl) (Za e 105 _ rfl) (Za e 106 _ rfl) (Za e 107 _ rfl) (Za e 108 _ rfl)
 f_law := Zad (Za e 109 _ rfl) (Za e 110 _ rfl) (Za e 111 _ rfl) (Za e 112 _ rfl) (Za e 113 _ rfl) (by kernel_rfl) (by kernel_rfl) (by kernel_rfl) (Za e 114 _ rfl) (Za e 115 _ rfl) (Za e 116 _ rfl) (Za e 117 _ rfl)
 m_get_info := Za0 (Za e 118 _ rfl) (Za e 119 _ rfl) (Za e 120 _ rfl) (Za e 121 _ rfl) (Za e 122 _ rfl) (Za e 123 _ rfl) (Za e 124 _ rfl) (by kernel_rfl)
 m_add := Za0 (Za e 125 _ rfl) (Za e 126 _ rfl) (Za e 120 _ rfl) (Za e 121 _ rfl) (Za e 122 _ rfl) (Za e 127 _ rfl) (Za e 128 _ rfl) (by kernel_rfl)
 m_find := Za0 (Za e 129 _ rfl) (Za e 130 _ rfl) (Za e 120 _ rfl) (Za e 121 _ rfl) (Za e 122 _ rfl) (Za e 131 _ rfl) (Za e 132 _ rfl) (by kernel_rfl)
 m_prepare := Za0 (Za e 133 _ rfl) (Za e 134 _ rfl) (Za e 120 _ rfl) (Za e 121 _ rfl) (Za e 122 _ rfl) (Za e 135 _ rfl) (Za e 136 _ rfl) (by kernel_rfl)
 m_get_ready := Za0 (Za e 137 _ rfl) (Za e 138 _ rfl) (Za e 120 _ rfl) (Za e 121 _ rfl) (Za e 122 _ rfl) (Za e 139 _ rfl) (Za e 140 _ rfl) (by kernel_rfl)
 m_is_active := Za0 (Za e 141 _ rfl) (Za e 142 _ rfl) (Za e 120 _ rfl) (Za e 121 _ rfl) (Za e 122 _ rfl) (Za e 143 _ rfl) (Za e 144 _ rfl) (by kernel_rfl)
 m_done := Za0 (Za e 145 _ rfl) (Za e 146 _ rfl) (Za e 120 _ rfl) (Za e 121 _ rfl) (Za e 122 _ rfl) (Za e 147 _ rfl) (Za e 148 _ rfl) (by kernel_rfl)
 g_law_drawn := (Za e 149 _ rfl)
 g_law_first_ways := (Za e 150 _ rfl)
 g_law_rings := (Za e 151 _ rfl)
 g_law := (Za e 152 _ rfl)
 n_nfinished := ⟨(Za e 153 _ rfl), (Za e 122 _ rfl), (Za e 120 _ rfl)⟩
 o_nfinished := ⟨(Za e 154 _ rfl), (Za e 122 _ rfl), (Za e 155 _ rfl), (Za e 156 _ rfl)⟩
 n_node2info := ⟨(Za e 157 _ rfl), (Za e 122 _ rfl), (Za e 120 _ rfl)⟩
 o_node2info := ⟨(Za e 154 _ rfl), (Za e 122 _ rfl), (Za e 158 _ rfl), (Za e 156 _ rfl)⟩
 n_npassedout := ⟨(Za e 159 _ rfl), (Za e 122 _ rfl), (Za e 120 _ rfl)⟩
 o_npassedout := ⟨(Za e 154 _ rfl), (Za e 122 _ rfl), (Za e 160 _ rfl), (Za e 156 _ rfl)⟩
 n_ready_nodes := ⟨(Za e 161 _ rfl), (Za e 122 _ rfl), (Za e 120 _ rfl)⟩
 o_ready_nodes := ⟨(Za e 154 _ rfl), (Za e 122 _ rfl), (Za e 162 _ rfl), (Za e 156 _ rfl)⟩
 s_node := ⟨⟨⟨41, λ od => congrFun (Za e 163 _ rfl) od, (Za e 164 _ rfl), (Za e 165 _ rfl), (Za e 166 _ rfl)⟩, (Za e 167 _ rfl), (Za e 168 _ rfl)⟩, (Za e 169 _ rfl), (Za e 170 _ rfl)⟩
 s_npredecessors := ⟨⟨⟨42, λ od => congrFun (Za e 171 _ rfl) od, (Za e 172 _ rfl), (Za e 173 _ rfl), (Za e 174 _ rfl)⟩, (Za e 167 _ rfl), (Za e 168 _ rfl)⟩, (Za e 169 _ rfl), (Za e 170 _ rfl)⟩
 s_successors := ⟨⟨⟨43, λ od => congrFun (Za e 175 _ rfl) od, (Za e 176 _ rfl), (Za e 177 _ rfl), (Za e 178 _ rfl)⟩, (Za e 167 _ rfl), (Za e 168 _ rfl)⟩, (Za e 169 _ rfl), (Za e 170 _ rfl)⟩
 g_NI := (Za e 179 _ rfl)
 g_TS := (Za e 180 _ rfl)
 mk_NI := ⟨(Za e 181 _ rfl), (Za e 182 _ rfl), (Za e 183 _ rfl), (Za e 184 _ rfl)⟩
 mk_TS := ⟨(Za e 185 _ rfl), (Za e 186 _ rfl), (Za e 187 _ rfl), (Za e 188 _ rfl)⟩
 x_CE := ⟨(Za e 189 _ rfl), hx⟩
 c_CE := Zpc (Za e 191 _ rfl) (Za e 192 _ rfl) (Za e 193 _ rfl)
 c_StopIteration := Zmw (Za e 194 _ rfl) (Za e 195 _ rfl)
 node_out := ⟨197, (Za e 196 _ rfl)⟩
 node_done := ⟨200, (Za e 197 _ rfl)⟩
 bui := Zr8 (Za e 198 _ rfl)
 }
end Mine
namespace Mine
open PySem PySem.W PyProof.Rows

inductive Ex1 (f : PV -> List PV) (p : List MO -> Prop) : St -> Prop
 | mk {a : PV} {hp : List MO} (h : p hp) : Ex1 f p ⟨f a, hp⟩
inductive Ex2 (f : PV -> PV -> List PV) (p : List MO -> Prop) : St -> Prop
 | mk {a b : PV} {hp : List MO} (h : p hp) : Ex2 f p ⟨f a b, hp⟩
inductive Ex3 (f : PV -> PV -> PV -> List PV) (p : List MO -> Prop) : St -> Prop
 | mk {a b c : PV} {hp : List MO} (h : p hp) : Ex3 f p ⟨f a b c, hp⟩
inductive Ex4 (f : PV -> PV -> PV -> PV -> List PV) (p : List MO -> Prop) : St -> Prop
 | mk {a b c d : PV} {hp : List MO} (h : p hp) : Ex4 f p ⟨f a b c d, hp⟩
inductive Ex5 (f : PV -> PV -> PV -> PV -> PV -> List PV) (p : List MO -> Prop) : St -> Prop
 | mk {a b c d e : PV} {hp : List MO} (h : p hp) : Ex5 f p ⟨f a b c d e, hp⟩
noncomputable def uq : PV -> Bool
 | .undef => true
 | _ => false
theorem und {v : PV} (h : uq v = false) : v ≠ .undef := λ e => by subst e; cases h
noncomputable def mt : MO -> Nat
 | .lst _ => 0
 | .dct _ _ => 1
 | .set _ => 2
 | .ins _ _ => 3
 | .ns _ => 4
 | .slt _ _ _ => 5
 | .itr _ _ => 6
 | .dead => 7
theorem mn {x y : MO} (h : Nat.beq (mt x) (mt y) = false) : x ≠ y := λ e => by subst e; rw [Nat.beq_refl] at h; cases h
def Wp0 {α : Type} (f : PM α) (μ : St) (Q : α -> St -> Prop) (E : Value -> St -> Prop) : Prop := match f μ with
 | .ok a μ' => Q a μ'
 | .exc x μ' => E x μ'
 | .bad => False
inductive Wp {α : Type} (f : PM α) (μ : St) (Q : α -> St -> Prop) (E : Value -> St -> Prop) : Prop
 | mk (h : Wp0 f μ Q E) : Wp f μ Q E
theorem Wp.get {α : Type} {f : PM α} {μ : St} {Q : α -> St -> Prop} {E : Value -> St -> Prop} (h : Wp f μ Q E) : Wp0 f μ Q E := by cases h with | mk h => exact h
section
variable {α β : Type} {μ : St} {Q : α -> St -> Prop} {E : Value -> St -> Prop}
theorem Wp.C {f : PM β} {g : β -> PM α} (h : Wp f μ (λ b μ' => Wp (g b) μ' Q E) E) : Wp (f >>= g) μ Q E := by
 refine .mk ?_
 have h := h.get
 unfold Wp0 at h ⊢
 rw [PM.B]
 cases e : f μ with
 | ok a μ' => rw [e] at h; exact h.get
 | exc x μ' => rw [e] at h; exact h
 | bad => rw [e] at h; exact h
theorem Wp.mono {f : PM α} {Q' : α -> St -> Prop} {E' : Value -> St -> Prop} (h : Wp f μ Q E) (hQ : ∀ a μ', Q a μ' -> Q' a μ') (hE : ∀ x μ', E x μ' -> E' x μ') : Wp f μ Q' E' := by
 refine .mk ?_
 have h := h.get
 unfold Wp0 at h ⊢
 cases e : f μ with
 | ok a μ' => rw [e] at h; exact hQ _ _ h
 | exc x μ' => rw [e] at h; exact hE _ _ h
 | bad => rw [e] at h; exact h
theorem Wp.R {a : α} (h : Q a μ) : Wp (Pure.pure a : PM α) μ Q E := .mk h
theorem Wp.run {f : PM α} (h : Wp f μ Q λ _ _ => False) : ∃ a μ', f μ = .ok a μ' ∧ Q a μ' := by
 have h := h.get
 unfold Wp0 at h
 cases e : f μ with
 | ok a μ' => rw [e] at h; exact ⟨a, μ', rfl, h⟩
 | exc x μ' => rw [e] at h; exact h.elim
 | bad => rw [e] at h; exact h.elim
theorem Wp.J {f : PM α} {a : α} {μ' : St} (e : f μ = .ok a μ') (h : Q a μ') : Wp f μ Q E := by refine .mk ?_; unfold Wp0; rw [e]; exact h
theorem Wp.E6 {f g : PM α} (e : f μ = g μ) (h : Wp g μ Q E) : Wp f μ Q E := by
 refine .mk ?_
 have h := h.get
 unfold Wp0 at h ⊢
 rw [e]; exact h
theorem Wp.A9 {f : PM β} {g : β -> α} (h : Wp f μ (λ b μ' => Q (g b) μ') E) : Wp (f >>= λ b => Pure.pure (g b)) μ Q E := Wp.C (h.mono (λ _ _ h => Wp.R h) λ _ _ e => e)
theorem Wp.J7 {x : Value} (h : E x μ) : Wp (raiseM x : PM α) μ Q E := .mk h
end
section
variable {fr : List PV} {hp : List MO} {E : Value -> St -> Prop}
theorem Wp.B {k : Nat} {v : PV} {Q : PV -> St -> Prop} (e : fr[k]? = some v) (hv : uq v = false) (h : Q v ⟨fr, hp⟩) : Wp (Mine.getVar k) ⟨fr, hp⟩ Q E := by
 have hv := und hv
 refine Wp.J ?_ h
 unfold Mine.getVar
 try dsimp only
 rw [e]
 cases v <;> first | rfl | exact absurd rfl hv
theorem Wp.H {k : Nat} {v : PV} {Q : Unit -> St -> Prop} (h : Q () ⟨fr.set k v, hp⟩) : Wp (Mine.setVar k v) ⟨fr, hp⟩ Q E := .mk h
theorem Wp.A6 {b : Bool} {μ : St} {Q : Unit -> St -> Prop} (hb : b = true) (h : Q () μ) : Wp (Mine.chk b) μ Q E := by subst hb; exact .mk h
theorem Wp.C3 {i : Nat} {o : MO} {Q : Unit -> St -> Prop} (h : Q () ⟨fr, hp.set i o⟩) : Wp (Mine.putM i o) ⟨fr, hp⟩ Q E := .mk h
theorem Wp.b {o : MO} {Q : Nat -> St -> Prop} (h : Q hp.length ⟨fr, hp ++ [o]⟩) : Wp (Mine.allocM o) ⟨fr, hp⟩ Q E := .mk h
noncomputable def SQ (b : PM MF) (Q : MF -> St -> Prop) (E : Value -> St -> Prop) : MF -> St -> Prop := λ f μ' => match f with | .next => Wp b μ' Q E | f => Q f μ'
noncomputable def IQ (a b : PM MF) (Q : MF -> St -> Prop) (E : Value -> St -> Prop) : Bool -> St -> Prop := λ x μ' => match x with | true => Wp a μ' Q E | false => Wp b μ' Q E
noncomputable def NQ {α : Type} (Q : MF -> St -> Prop) : α -> St -> Prop := λ _ μ' => Q .next μ'
noncomputable def AQ (a : PV -> PM Unit) (Q : MF -> St -> Prop) (E : Value -> St -> Prop) : PV -> St -> Prop := λ y μ' => Wp (a y) μ' (NQ Q) E
noncomputable def RQ (Q : MF -> St -> Prop) : PV -> St -> Prop := λ v μ' => Q (.ret v) μ'
noncomputable def CQ (fr : List PV) (Q : PV -> St -> Prop) : MF -> St -> Prop := λ f μ' => match f with | .ret v => Q v ⟨fr, μ'.hp⟩ | .next => Q .none ⟨fr, μ'.hp⟩ | _ => False
noncomputable def CX (fr : List PV) (E : Value -> St -> Prop) : Value -> St -> Prop := λ x μ' => E x ⟨fr, μ'.hp⟩
noncomputable def LQ (I : Nat -> St -> Prop) (k : Nat) (Q : MF -> St -> Prop) : MF -> St -> Prop := λ f μ'' => match f with
 | .next | .cont => I (k + 1) μ''
 | .brk => Q .next μ''
 | .ret v => Q (.ret v) μ''
noncomputable def BQ (body : PM MF) (I : Nat -> St -> Prop) (k : Nat) (Q : MF -> St -> Prop) (E : Value -> St -> Prop) : Unit -> St -> Prop := λ _ μ' => Wp body μ' (LQ I k Q) E
theorem Wp.I {a b : PM MF} {μ : St} {Q : MF -> St -> Prop} (h : Wp a μ (SQ b Q E) E) : Wp (sSeq a b) μ Q E := by
 unfold sSeq
 refine Wp.C (h.mono (λ f μ' hf => ?_) λ _ _ e => e)
 cases f <;> first | exact hf | exact Wp.mk hf
theorem Wp.V {μ : St} {Q : MF -> St -> Prop} (h : Q .next μ) : Wp sNext μ Q E := .mk h
theorem Wp.A2 {t : PM Bool} {a b : PM MF} {μ : St} {Q : MF -> St -> Prop} (h : Wp t μ (IQ a b Q E) E) : Wp (sIf t a b) μ Q E := by
 unfold sIf
 refine Wp.C (h.mono (λ x μ' hx => ?_) λ _ _ e => e)
 cases x <;> exact hx
theorem Wp.Y {f : PM PV} {a : PV -> PM Unit} {μ : St} {Q : MF -> St -> Prop} (h : Wp f μ (AQ a Q E) E) : Wp (sAsg f a) μ Q E := Wp.C (h.mono (λ _ _ h => Wp.A9 h) λ _ _ e => e)
theorem Wp.asg2 {f : PM PV} {a a' : PV -> PM Unit} {μ : St} {Q : MF -> St -> Prop} (h : Wp f μ (λ y μ' => Wp (a y) μ' (λ _ μ'' => Wp (a' y) μ'' (λ _ μ3 => Q .next μ3) E) E) E) : Wp (sAsg2 f a a') μ Q E :=
 Wp.C (h.mono (λ _ _ h => Wp.C (h.mono (λ _ _ h => Wp.A9 h) λ _ _ e => e)) λ _ _ e => e)
theorem Wp.i {f : PM PV} {μ : St} {Q : MF -> St -> Prop} (h : Wp f μ (NQ Q) E) : Wp (sExpr f) μ Q E := Wp.A9 h
theorem Wp.D1 {f : PM PV} {μ : St} {Q : MF -> St -> Prop} (h : Wp f μ (RQ Q) E) : Wp (sRet f) μ Q E := Wp.A9 h
theorem Wp.I1 {x : Value} {g : PM (List PV)} {μ : St} {Q : MF -> St -> Prop} (h : Wp g μ (λ xs μ' => lenOk xs = true ∧ E x μ') E) : Wp (sRaise x g) μ Q E :=
 Wp.C (h.mono (λ xs μ' h => Wp.C (Wp.A6 h.1 (Wp.J7 h.2))) λ _ _ e => e)
theorem Wp.A0 {frm : List PV -> Option (List PV)} {g : PM MF} {xs init : List PV} {Q : PV -> St -> Prop} (e : frm xs = some init)
  (h : Wp g ⟨init, hp⟩ (CQ fr Q) (CX fr E)) : Wp (Mine.callF frm g xs) ⟨fr, hp⟩ Q E := by
 unfold Mine.callF
 rw [e]
 refine .mk ?_
 have h := h.get
 unfold Wp0 callM at *
 try dsimp only at h ⊢
 cases e : g ⟨init, hp⟩ with
 | ok a μ' => rw [e] at h; cases a <;> exact h
 | exc x μ' => rw [e] at h; exact h
 | bad => rw [e] at h; exact h
theorem Wp.u {get : Nat -> St -> Option (Option PV)} {asg : PV -> PM Unit} {body : PM MF} {Q : MF -> St -> Prop} (I : Nat -> St -> Prop) (N : Nat)
  (h : ∀ k μ, I k μ -> k <= N -> (get k μ = some none ∧ Q .next μ) ∨ (k < N ∧ ∃ x, get k μ = some (some x) ∧ Wp (asg x) μ (BQ body I k Q E) E)) : ∀ (n k : Nat) (μ : St), N < n + k -> k <= N -> I k μ -> Wp (Mine.forIx get asg body n k) μ Q E := by
 intro n
 induction n with
 | zero => intro k μ hn hk _; lia
 | succ n ih =>
  intro k μ hn hk hi
  rcases h k μ hi hk with ⟨e, hq⟩ | ⟨hlt, x, e, hw⟩
  ·exact Wp.J (a := .next) (μ' := μ) (by simp only [Zex, e]) hq
  ·have : Wp (asg x >>= λ _ => body >>= flowM (Mine.forIx get asg body n (k + 1))) μ Q E := by
    refine Wp.C (hw.mono (λ _ μ' h => Wp.C (h.mono (λ f μ'' hf => ?_) λ _ _ e => e)) λ _ _ e => e)
    cases f with
    | next => exact ih (k + 1) μ'' (by lia) (by lia) hf
    | cont => exact ih (k + 1) μ'' (by lia) (by lia) hf
    | brk => exact Wp.mk hf
    | ret v => exact Wp.mk hf
   exact Wp.E6 (by simp only [Zex, e]) this
theorem Wp.J5 {t : PM Bool} {body els : PM MF} {Q : MF -> St -> Prop} (I : Nat -> St -> Prop)
  (h : ∀ m μ, I m μ -> Wp t μ (λ b μ' => match b with
   | true => Wp body μ' (λ f μ'' => match f with
    | .next | .cont => ∃ m', m' < m ∧ I m' μ''
    | .brk => Q .next μ''
    | .ret v => Q (.ret v) μ'') E
   | false => Wp els μ' Q E) E) : ∀ (n m : Nat) (μ : St), m < n -> I m μ -> Wp (whileM t body els n) μ Q E := by
 intro n
 induction n with
 | zero => intro m μ hn _; lia
 | succ n ih =>
  intro m μ hn hi
  rw [Zda]
  refine Wp.C ((h m μ hi).mono (λ b μ' hb => ?_) λ _ _ e => e)
  cases b with
  | true =>
   refine Wp.C (Wp.mono hb (λ f μ'' hf => ?_) λ _ _ e => e)
   cases f with
   | next => obtain ⟨m', h1, h2⟩ := hf; exact ih m' μ'' (by lia) h2
   | cont => obtain ⟨m', h1, h2⟩ := hf; exact ih m' μ'' (by lia) h2
   | brk => exact Wp.mk hf
   | ret v => exact Wp.mk hf
  | false => exact hb
end

section
variable {fr : List PV} {hp : List MO} {E : Value -> St -> Prop}
theorem Wp.j {μ : St} {Q : List PV -> St -> Prop} (h : Q [] μ) : Wp (Pure.pure [] : PM (List PV)) μ Q E := (Wp.mk h)
theorem Wp.e {f : PM PV} {g : PM (List PV)} {μ : St} {Q : List PV -> St -> Prop} (h : Wp f μ (λ x μ' => Wp g μ' (λ xs μ'' => Q (x :: xs) μ'') E) E) : Wp (Mine.argC f g) μ Q E :=
 Wp.C (h.mono (λ _ _ h => Wp.A9 h) λ _ _ e => e)
theorem Wp.W {f : PM PV} {μ : St} {Q : List PV -> St -> Prop} (h : Wp f μ (λ x μ' => Q [x] μ') E) : Wp (Mine.argC f (Pure.pure [])) μ Q E := Wp.e (h.mono (λ _ _ h => Wp.j h) λ _ _ e => e)
theorem Wp.E4 {C : Addr} {o dn : Nat} {fs : List (Str × PV)} (h1 : hp[o]? = some (.ins C dn)) (h2 : hp[dn]? = some (.ns fs)) : Mine.ownNs C (.obj o) ⟨fr, hp⟩ = some (dn, fs) := by
 unfold Mine.ownNs
 try dsimp only
 rw [h1]
 try dsimp only
 rw [decide_eq_true rfl, h2]
theorem Wp.C2 {C : Addr} {o dn : Nat} {fs : List (Str × PV)} {name : Str} {x : PV} {Q : PV -> St -> Prop} (h1 : hp[o]? = some (.ins C dn)) (h2 : hp[dn]? = some (.ns fs)) (h3 : fs.lookup name = some x) (h4 : notRaw x = true) (h : Q x ⟨fr, hp⟩) : Wp (Mine.pAttr C name (.obj o)) ⟨fr, hp⟩ Q E := by
 refine Wp.J ?_ h
 unfold Mine.pAttr
 rw [Wp.E4 h1 h2]
 try dsimp only
 rw [h3]
 try dsimp only
 rw [h4]
theorem Wp.l {C : Addr} {o dn : Nat} {fs : List (Str × PV)} {name : Str} {y : PV} {Q : Unit -> St -> Prop} (h1 : hp[o]? = some (.ins C dn)) (h2 : hp[dn]? = some (.ns fs)) (h3 : fs.length <= 100) (h : Q () ⟨fr, hp.set dn (.ns (nsPut name y fs))⟩) : Wp (Mine.pSetAttr C name (.obj o) y) ⟨fr, hp⟩ Q E := by
 refine Wp.J ?_ h
 unfold Mine.pSetAttr
 rw [Wp.E4 h1 h2]
 try dsimp only
 rw [decide_eq_true h3]
theorem Wp.K1 {C : Addr} {o dn : Nat} {fs : List (Str × PV)} {name : Str} {Q : Unit -> St -> Prop} (h1 : hp[o]? = some (.ins C dn)) (h2 : hp[dn]? = some (.ns fs)) (h3 : fs.lookup name = none) (h : Q () ⟨fr, hp⟩) : Wp (Mine.isIns C name (.obj o)) ⟨fr, hp⟩ Q E := by
 refine Wp.J ?_ h
 unfold Mine.isIns
 rw [Wp.E4 h1 h2]
 try dsimp only
 rw [h3]
theorem Wp.B1 {C : Addr} {k i d : Nat} {fs : List (Option PV)} {x : PV} {Q : PV -> St -> Prop} (h1 : hp[i]? = some (.slt C d fs)) (h2 : (fs[k]?).join = some x) (h3 : notRaw x = true) (h : Q x ⟨fr, hp⟩) : Wp (Mine.pSlot C k (.obj i)) ⟨fr, hp⟩ Q E := by
 refine Wp.J ?_ h
 unfold Mine.pSlot
 try dsimp only
 rw [h1]
 try dsimp only
 rw [decide_eq_true rfl, h2]
 try dsimp only
 rw [h3]
theorem Wp.k {C : Addr} {k i d : Nat} {fs : List (Option PV)} {y : PV} {Q : Unit -> St -> Prop} (h1 : hp[i]? = some (.slt C d fs)) (hk : k < 100) (h : Q () ⟨fr, hp.set i (.slt C d ((fs ++ List.replicate (k + 1 - fs.length) none).set k (some y)))⟩) : Wp (Mine.pSetSlot C k (.obj i) y) ⟨fr, hp⟩ Q E := by
 refine Wp.J ?_ h
 unfold Mine.pSetSlot
 try dsimp only
 rw [h1]
 try dsimp only
 rw [decide_eq_true rfl, decide_eq_true hk]
theorem Wp.A4 {x : PV} {b : Bool} {μ : St} {Q : Bool -> St -> Prop} (e : Mine.isNone x = some b) (h : Q b μ) : Wp (pCmp .Is x .none) μ Q E := by
 refine Wp.J ?_ h
 show pIs x .none μ = _
 unfold pIs
 rw [e]
theorem Wp.F4 {f : PM Bool} {μ : St} {Q : Bool -> St -> Prop} (h : Wp f μ (λ b μ' => Q (!b) μ') E) : Wp (Mine.bNot f) μ Q E := Wp.A9 h
theorem Wp.A5 {x : PV} {b : Bool} {μ : St} {Q : Bool -> St -> Prop} (e : Mine.isNone x = some b) (h : Q (!b) μ) : Wp (pCmp .IsNot x .none) μ Q E := Wp.F4 (Wp.A4 e h)
theorem Wp.Z {op : CmpOp} {f g : PM PV} {μ : St} {Q : Bool -> St -> Prop} (h : Wp f μ (λ x μ' => Wp g μ' (λ y μ'' => Wp (pCmp op x y) μ'' Q E) E) E) : Wp (Mine.bCmp op f g) μ Q E := Wp.C (h.mono (λ _ _ h => Wp.C h) λ _ _ e => e)
theorem Wp.D8 {i j : Int} {μ : St} {Q : Bool -> St -> Prop} (h : Q (i == j) μ) : Wp (pCmp .Eq (.int i) (.int j)) μ Q E := Wp.J rfl h
theorem Wp.K0 {i j : Int} {μ : St} {Q : Bool -> St -> Prop} (h : Q (!(i == j)) μ) : Wp (pCmp .NotEq (.int i) (.int j)) μ Q E := Wp.F4 (Wp.D8 h)
theorem Wp.A8 {C : Addr} {name : Str} {fo : PM PV} {g : PM (List PV)} {k : List PV -> PM PV} {μ : St} {Q : PV -> St -> Prop} (h : Wp fo μ (λ x μ' => Wp (Mine.isIns C name x) μ' (λ _ μ'' => Wp g μ'' (λ ys μ3 => Wp (k (x :: ys)) μ3 Q E) E) E) E) : Wp (Mine.eMeth C name fo g k) μ Q E :=
 Wp.C (h.mono (λ _ _ h => Wp.C (h.mono (λ _ _ h => Wp.C h) λ _ _ e => e)) λ _ _ e => e)
theorem Wp.D9 {C : Addr} {name : Str} {f : PM PV} {μ : St} {Q : PV -> St -> Prop} (h : Wp f μ (λ x μ' => Wp (Mine.pAttr C name x) μ' Q E) E) : Wp (Mine.eAttr C name f) μ Q E := Wp.C h
theorem Wp.B7 {C : Addr} {k : Nat} {f : PM PV} {μ : St} {Q : PV -> St -> Prop} (h : Wp f μ (λ x μ' => Wp (Mine.pSlot C k x) μ' Q E) E) : Wp (Mine.eSlot C k f) μ Q E := Wp.C h
theorem Wp.A7 {ps : PV -> PV -> PM Unit} {g : PM PV} {y : PV} {μ : St} {Q : Unit -> St -> Prop} (h : Wp g μ (λ x μ' => Wp (ps x y) μ' Q E) E) : Wp (Mine.tAttr ps g y) μ Q E := Wp.C h
theorem Wp.G2 {g k : PM PV} {y : PV} {μ : St} {Q : Unit -> St -> Prop} (h : Wp g μ (λ x μ' => Wp k μ' (λ i μ'' => Wp (pSetItem x i y) μ'' Q E) E) E) : Wp (Mine.tSub g k y) μ Q E := Wp.C (h.mono (λ _ _ h => Wp.C h) λ _ _ e => e)
theorem Wp.A3 {g k : PM PV} {μ : St} {Q : PV -> St -> Prop} (h : Wp g μ (λ x μ' => Wp k μ' (λ i μ'' => Wp (pGet x i) μ'' Q E) E) E) : Wp (Mine.eSub g k) μ Q E := Wp.C (h.mono (λ _ _ h => Wp.C h) λ _ _ e => e)
theorem Wp.J2 {f : PM PV} {a : PV -> PM Unit} {μ : St} {Q : PV -> St -> Prop} (h : Wp f μ (λ y μ' => Wp (a y) μ' (λ _ μ'' => Q y μ'') E) E) : Wp (Mine.eWal f a) μ Q E := Wp.C (h.mono (λ _ _ h => Wp.A9 h) λ _ _ e => e)
theorem Wp.F1 {f : PM PV} {μ : St} {Q : PV -> St -> Prop} (h : Wp f μ (λ x μ' => ∃ i, x = .int i ∧ Q (.int (-i)) μ') E) : Wp (Mine.eNeg f) μ Q E := Wp.C (h.mono (λ x μ' ⟨i, e, h⟩ => by subst e; exact Wp.mk h) λ _ _ e => e)
theorem Wp.C0 {op : Operator} {g f : PM PV} {pg : PV -> PM PV} {ps : PV -> PV -> PM Unit} {μ : St} {Q : MF -> St -> Prop} (h : Wp g μ (λ x μ1 => Wp (pg x) μ1 (λ old μ2 => Wp f μ2 (λ v μ3 => Wp (pInp op old v) μ3 (λ new μ4 => Wp (ps x new) μ4 (λ _ μ5 => Q .next μ5) E) E) E) E) E) : Wp (sAugAttr op g pg ps f) μ Q E :=
 Wp.C (h.mono (λ _ _ h => Wp.C (h.mono (λ _ _ h => Wp.C (h.mono (λ _ _ h => Wp.C (h.mono (λ _ _ h => Wp.A9 h) λ _ _ e => e)) λ _ _ e => e)) λ _ _ e => e)) λ _ _ e => e)
theorem Wp.C7 {i j : Int} {μ : St} {Q : PV -> St -> Prop} (h : Q (.int (i + j)) μ) : Wp (pInp .Add (.int i) (.int j)) μ Q E := Wp.J rfl h
theorem Wp.I4 {i j : Int} {μ : St} {Q : PV -> St -> Prop} (h : Q (.int (i - j)) μ) : Wp (pInp .Sub (.int i) (.int j)) μ Q E := Wp.J rfl h
theorem Wp.D5 {f : PM PV} {μ : St} {Q : Bool -> St -> Prop} (h : Wp f μ (λ x μ' => Wp (pTruth x) μ' Q E) E) : Wp (Mine.bVal f) μ Q E := Wp.C h
theorem Wp.C9 {μ : St} {x : PV} {xs : List PV} {Q : List PV -> St -> Prop} (e : isLst μ.hp x = some xs ∨ x = .tup xs) (h : Q xs μ) : Wp (pItems x) μ Q E := by
 refine Wp.J ?_ h
 rcases e with e | rfl
 ·unfold isLst at e
  unfold pItems
  cases x <;> dsimp only at e ⊢ <;> first | (cases e; done) | skip
  ·cases e; rfl
  ·split at e
   ·cases e; rfl
   ·cases e
 ·rfl
theorem Wp.B4 {μ : St} {x : PV} {xs : List PV} {Q : PV -> St -> Prop} (e : isLst μ.hp x = some xs ∨ x = .tup xs) (hl : xs.length <= 1000000) (h : Q (.int xs.length) μ) : Wp (pLen [x]) μ Q E :=
 Wp.C (Wp.C9 e (Wp.C (Wp.A6 (decide_eq_true hl) (Wp.mk h))))
theorem Wp.H7 {μ : St} {x : PV} {xs : List PV} {Q : PV -> St -> Prop} (e : isLst μ.hp x = some xs ∨ x = .tup xs) (hl : xs.length <= 1000000) (h : Q (.tup xs) μ) : Wp (pTuple [x]) μ Q E :=
 Wp.C (Wp.C9 e (Wp.C (Wp.A6 (decide_eq_true hl) (Wp.mk h))))
theorem Wp.X {i : Nat} {xs : List PV} {Q : Nat × List PV -> St -> Prop} (e : hp[i]? = some (.lst xs)) (h : Q (i, xs) ⟨fr, hp⟩) : Wp (Mine.theLst (.obj i)) ⟨fr, hp⟩ Q E := by
 refine Wp.J ?_ h
 unfold Mine.theLst
 try dsimp only
 rw [e]
theorem Wp.A1 {i : Nat} {xs : List PV} {y : PV} {Q : PV -> St -> Prop} (e : hp[i]? = some (.lst xs)) (hl : xs.length <= 1000000) (h : Q .none ⟨fr, hp.set i (.lst (xs ++ [y]))⟩) : Wp (pAppend (.obj i) y) ⟨fr, hp⟩ Q E :=
 Wp.C (Wp.X e (Wp.C (Wp.A6 (decide_eq_true hl) (Wp.C (Wp.C3 (Wp.mk h))))))
theorem Wp.f {fo fe : PM PV} {μ : St} {Q : PV -> St -> Prop} (h : Wp fo μ (λ x μ1 => Wp (Mine.theLst x) μ1 (λ _ μ2 => Wp fe μ2 (λ y μ3 => Wp (pAppend x y) μ3 Q E) E) E) E) : Wp (Mine.mAppend fo fe) μ Q E :=
 Wp.C (h.mono (λ _ _ h => Wp.C (h.mono (λ _ _ h => Wp.C h) λ _ _ e => e)) λ _ _ e => e)
theorem Wp.I3 {fo : PM PV} {μ : St} {Q : PV -> St -> Prop} (h : Wp fo μ (λ x μ1 => ∃ i xs, x = .obj i ∧ μ1.hp[i]? = some (.lst xs) ∧ xs.length <= 1000000 ∧ Q .none ⟨μ1.fr, μ1.hp.set i (.lst [])⟩) E) : Wp (Mine.mClear fo) μ Q E :=
 Wp.C (h.mono (λ x μ1 hh => by
  obtain ⟨i, xs, e, e2, hl, h⟩ := hh
  subst e
  obtain ⟨fr, hp⟩ := μ1
  exact Wp.C (Wp.X e2 (Wp.C (Wp.X e2 (Wp.C (Wp.A6 (decide_eq_true hl) (Wp.C (Wp.C3 (Wp.mk h))))))))) λ _ _ e => e)
theorem Wp.D4 {i : Nat} {es : List (Int × PV)} {ep : Nat} {k : Int} {x : PV} {Q : PV -> St -> Prop} (e : hp[i]? = some (.dct es ep)) (hk : dGet es k = some x) (h : Q x ⟨fr, hp⟩) : Wp (pGet (.obj i) (.int k)) ⟨fr, hp⟩ Q E := by
 refine Wp.J ?_ h
 unfold pGet
 try dsimp only
 rw [e]
 try dsimp only
 rw [hk]
theorem Wp.B9 {i : Nat} {es : List (Int × PV)} {ep : Nat} {Q : Nat × List (Int × PV) -> St -> Prop} (e : hp[i]? = some (.dct es ep)) (h : Q (i, es) ⟨fr, hp⟩) : Wp (Mine.theDct (.obj i)) ⟨fr, hp⟩ Q E := by
 refine Wp.J ?_ h
 unfold Mine.theDct
 try dsimp only
 rw [e]
theorem Wp.E1 {fo : PM PV} {ga : PM (List PV)} {μ : St} {Q : PV -> St -> Prop} (h : Wp fo μ (λ x μ1 => Wp (Mine.theDct x) μ1 (λ _ μ2 => Wp ga μ2 (λ ys μ3 => Wp (pDictGet x ys) μ3 Q E) E) E) E) : Wp (mDictGet fo ga) μ Q E :=
 Wp.C (h.mono (λ _ _ h => Wp.C (h.mono (λ _ _ h => Wp.C h) λ _ _ e => e)) λ _ _ e => e)
theorem Wp.D2 {i : Nat} {es : List (Int × PV)} {ep : Nat} {k : Int} {Q : PV -> St -> Prop} (e : hp[i]? = some (.dct es ep)) (h : Q ((dGet es k).getD .none) ⟨fr, hp⟩) : Wp (Mine.pDictGet (.obj i) [.int k]) ⟨fr, hp⟩ Q E := Wp.C (Wp.B9 e (Wp.mk h))
end

set_option genInjectivity false in
structure TSt where
 order : List Int
 np : Int -> Int
 sc : Int -> List Int
 ready : Option (List Int)
 passed : Int
 fin : Int
set_option genInjectivity false in
structure Lay where
 dn : Nat
 n2i : Nat
 rn : Nat
 ep : Nat
 li : Int -> Nat
 ls : Int -> Nat
 dx : Int -> Nat
noncomputable def upd {α : Type} (f : Int -> α) (a : Int) (x : α) : Int -> α := λ b => if b = a then x else f b
theorem Zp {α : Type} {f : Int -> α} {a : Int} {x : α} : upd f a x a = x := by unfold upd; rw [if_pos rfl]
theorem Zv {α : Type} {f : Int -> α} {a b : Int} {x : α} (h : b ≠ a) : upd f a x b = f b := by unfold upd; rw [if_neg h]
noncomputable def nsTS (n r : PV) (p q : Int) : List (Str × PV) := [(("_node2info" : Str), n), (("_ready_nodes" : Str), r), (("_npassedout" : Str), .int p), (("_nfinished" : Str), .int q)]
noncomputable def rdy (T : TSt) (ly : Lay) : PV := match T.ready with
 | none => .none
 | some _ => .obj ly.rn
section
variable {n r x : PV} {p q z : Int}
theorem ns_n : (nsTS n r p q).lookup ("_node2info" : Str) = some n := by kernel_rfl
theorem ns_r : (nsTS n r p q).lookup ("_ready_nodes" : Str) = some r := by kernel_rfl
theorem ns_p : (nsTS n r p q).lookup ("_npassedout" : Str) = some (.int p) := by kernel_rfl
theorem ns_q : (nsTS n r p q).lookup ("_nfinished" : Str) = some (.int q) := by kernel_rfl
theorem put_r : nsPut ("_ready_nodes" : Str) x (nsTS n r p q) = nsTS n x p q := by kernel_rfl
theorem put_p : nsPut ("_npassedout" : Str) (.int z) (nsTS n r p q) = nsTS n r z q := by kernel_rfl
theorem put_q : nsPut ("_nfinished" : Str) (.int z) (nsTS n r p q) = nsTS n r p z := by kernel_rfl
theorem Zrk (x : Str) (h : ([("_node2info" : Str), "_ready_nodes", "_npassedout", "_nfinished"].contains x) = false) : (nsTS n r p q).lookup x = none := by
 simp only [List.contains_cons, List.contains_nil, Bool.or_false, Bool.or_eq_false_iff] at h
 unfold nsTS
 simp only [lookup_cons, h.1, h.2.1, h.2.2.1, h.2.2.2, List.lookup_nil]
end
structure SAt (d : Ad) (hp : List MO) (o : Nat) (T : TSt) (ly : Lay) : Prop where
 ins : hp[o]? = some (.ins d.TS ly.dn)
 ns : hp[ly.dn]? = some (.ns (nsTS (.obj ly.n2i) (rdy T ly) T.passed T.fin))
 dct : hp[ly.n2i]? = some (.dct (T.order.map λ a => (a, .obj (ly.li a))) ly.ep)
 rd : ∀ xs, T.ready = some xs -> hp[ly.rn]? = some (.lst (xs.map .int))
 inf : ∀ a ∈ T.order, hp[ly.li a]? = some (.slt d.NI (ly.dx a) [some (.int a), some (.int (T.np a)), some (.obj (ly.ls a))])
 suc : ∀ a ∈ T.order, hp[ly.ls a]? = some (.lst ((T.sc a).map .int))
 lsi : ∀ a ∈ T.order, ∀ b ∈ T.order, ly.ls a = ly.ls b -> a = b
 rls : T.ready ≠ none -> ∀ a ∈ T.order, ly.ls a ≠ ly.rn
 ond : T.order.Nodup
def Fp (o : Nat) (T : TSt) (ly : Lay) (i : Nat) : Prop := i = o ∨ i = ly.dn ∨ i = ly.n2i ∨ (T.ready ≠ none ∧ i = ly.rn) ∨ ∃ a ∈ T.order, i = ly.li a ∨ i = ly.ls a
section
variable {hp hp' : List MO} {o : Nat} {T : TSt} {ly : Lay}
theorem SAt.keep (S : SAt d hp o T ly) (h : ∀ i, Fp o T ly i -> hp'[i]? = hp[i]?) : SAt d hp' o T ly :=
 ⟨(h o (.inl rfl)).trans S.ins, (h _ (.inr (.inl rfl))).trans S.ns, (h _ (.inr (.inr (.inl rfl)))).trans S.dct, λ xs e => (h _ (.inr (.inr (.inr (.inl ⟨(by rw [e]; exact Option.some_ne_none _), rfl⟩))))).trans (S.rd xs e),
  λ a ha => (h _ (.inr (.inr (.inr (.inr ⟨a, ha, .inl rfl⟩))))).trans (S.inf a ha), λ a ha => (h _ (.inr (.inr (.inr (.inr ⟨a, ha, .inr rfl⟩))))).trans (S.suc a ha), S.lsi, S.rls, S.ond⟩
theorem Ze {i j : Nat} {v x y : MO} (hi : hp[i]? = some x) (hj : hp[j]? = some y) (hne : x ≠ y) : (hp.set i v)[j]? = some y := by
 rw [List.getElem?_set_ne (λ e => by subst e; rw [hi] at hj; exact hne (Option.some.inj hj))]
 exact hj
theorem Zk {i j : Nat} {v y : MO} (h : i ≠ j) (hj : hp[j]? = some y) : (hp.set i v)[j]? = some y := by rw [List.getElem?_set_ne h]; exact hj
theorem Zm {i : Nat} {v x : MO} (hi : hp[i]? = some x) : (hp.set i v)[i]? = some v := List.getElem?_set_self (Qgl hi)
theorem SAt.setNs (S : SAt d hp o T ly) (p q : Int) : SAt d (hp.set ly.dn (.ns (nsTS (.obj ly.n2i) (rdy T ly) p q))) o { T with passed := p, fin := q } ly :=
 ⟨Ze S.ns S.ins (mn rfl), Zm S.ns, Ze S.ns S.dct (mn rfl), λ xs e => Ze S.ns (S.rd xs e) (mn rfl), λ a ha => Ze S.ns (S.inf a ha) (mn rfl), λ a ha => Ze S.ns (S.suc a ha) (mn rfl), S.lsi, S.rls, S.ond⟩
theorem SAt.setRd (S : SAt d hp o T ly) {xs : List Int} (e : T.ready = some xs) (ys : List Int) : SAt d (hp.set ly.rn (.lst (ys.map .int))) o { T with ready := some ys } ly := by
 have hr := S.rd xs e
 have hn : T.ready ≠ none := by rw [e]; exact Option.some_ne_none _
 have e1 : rdy { T with ready := some ys } ly = rdy T ly := by unfold rdy; rw [e]
 exact ⟨Ze hr S.ins (mn rfl), by rw [e1]; exact Ze hr S.ns (mn rfl), Ze hr S.dct (mn rfl), λ zs ez => by cases ez; exact Zm hr, λ a ha => Ze hr (S.inf a ha) (mn rfl),
  λ a ha => Zk (Ne.symm (S.rls hn a ha)) (S.suc a ha), S.lsi, λ _ => S.rls hn, S.ond⟩
theorem SAt.setNp (S : SAt d hp o T ly) {a : Int} (ha : a ∈ T.order) (z : Int) : SAt d (hp.set (ly.li a) (.slt d.NI (ly.dx a) [some (.int a), some (.int z), some (.obj (ly.ls a))])) o { T with np := upd T.np a z } ly := by
 have hi := S.inf a ha
 refine ⟨Ze hi S.ins (mn rfl), Ze hi S.ns (mn rfl), Ze hi S.dct (mn rfl), λ xs e => Ze hi (S.rd xs e) (mn rfl), λ b hb => ?_, λ b hb => Ze hi (S.suc b hb) (mn rfl), S.lsi, S.rls, S.ond⟩
 by_cases e : b = a
 ·subst e; show _ = some (MO.slt _ _ [_, some (PV.int (upd T.np b z b)), _]); rw [Zp]; exact Zm hi
 ·show _ = some (MO.slt _ _ [_, some (PV.int (upd T.np a z b)), _]); rw [Zv e]
  refine Ze hi (S.inf b hb) λ h => e ?_
  injection h with _ _ h
  injection h with h
  injection h with h
  injection h with h
  exact h.symm
theorem SAt.setSc (S : SAt d hp o T ly) {a : Int} (ha : a ∈ T.order) (ys : List Int) : SAt d (hp.set (ly.ls a) (.lst (ys.map .int))) o { T with sc := upd T.sc a ys } ly := by
 have hi := S.suc a ha
 refine ⟨Ze hi S.ins (mn rfl), Ze hi S.ns (mn rfl), Ze hi S.dct (mn rfl), λ xs e => ?_, λ b hb => Ze hi (S.inf b hb) (mn rfl), λ b hb => ?_, S.lsi, S.rls, S.ond⟩
 ·exact Zk (S.rls (by rw [show T.ready = some xs from e]; exact Option.some_ne_none _) a ha) (S.rd xs e)
 ·by_cases e : b = a
  ·subst e; show _ = some (MO.lst ((upd T.sc b ys b).map PV.int)); rw [Zp]; exact Zm hi
  ·show _ = some (MO.lst ((upd T.sc a ys b).map PV.int)); rw [Zv e]; exact Zk (λ h => e (S.lsi a ha b hb h).symm) (S.suc b hb)
theorem Zbn {f : Int -> PV} {a : Int} : ∀ {l : List Int}, a ∈ l -> dGet (l.map λ a => (a, f a)) a = some (f a)
 | b :: l, h => by
  unfold dGet
  rw [map_cons, List.find?_cons]
  try dsimp only
  cases e : b == a with
  | true => rw [<- eq_of_beq e]; rfl
  | false =>
   rcases Qmc h with h | h
   ·rw [h] at e; simp at e
   ·exact Zbn h
theorem Zh5 {f : Int -> PV} {a : Int} {l : List Int} (h : a ∉ l) : dGet (l.map λ a => (a, f a)) a = none := by
 unfold dGet
 rw [Option.map_eq_none_iff, List.find?_eq_none]
 intro x hx
 obtain ⟨b, hb, rfl⟩ := Qmm hx
 simp
 intro e; exact h (e ▸ hb)
end

def Same (o : Nat) (T : TSt) (ly : Lay) (hp hp' : List MO) : Prop := hp'.length = hp.length ∧ ∀ i, ¬ Fp o T ly i -> hp'[i]? = hp[i]?
theorem Same.refl {o : Nat} {T : TSt} {ly : Lay} {hp : List MO} : Same o T ly hp hp := ⟨rfl, λ _ _ => rfl⟩
theorem Same.set {o : Nat} {T : TSt} {ly : Lay} {hp hp' : List MO} {i : Nat} {v : MO} (h : Same o T ly hp hp') (hi : Fp o T ly i) : Same o T ly hp (hp'.set i v) :=
 ⟨by rw [length_set]; exact h.1, λ j hj => by rw [List.getElem?_set_ne (λ e : i = j => hj (e ▸ hi))]; exact h.2 j hj⟩
theorem fp_o {o : Nat} {T : TSt} {ly : Lay} : Fp o T ly o := .inl rfl
theorem fp_dn {o : Nat} {T : TSt} {ly : Lay} : Fp o T ly ly.dn := .inr (.inl rfl)
theorem Zgi {o : Nat} {T : TSt} {ly : Lay} : Fp o T ly ly.n2i := .inr (.inr (.inl rfl))
theorem fp_rn {o : Nat} {T : TSt} {ly : Lay} {xs : List Int} (e : T.ready = some xs) : Fp o T ly ly.rn := .inr (.inr (.inr (.inl ⟨by rw [e]; exact Option.some_ne_none _, rfl⟩)))
theorem fp_li {o : Nat} {T : TSt} {ly : Lay} {a : Int} (h : a ∈ T.order) : Fp o T ly (ly.li a) := .inr (.inr (.inr (.inr ⟨a, h, .inl rfl⟩)))
theorem fp_ls {o : Nat} {T : TSt} {ly : Lay} {a : Int} (h : a ∈ T.order) : Fp o T ly (ly.ls a) := .inr (.inr (.inr (.inr ⟨a, h, .inr rfl⟩)))
theorem fp_eq {o : Nat} {T T' : TSt} {ly : Lay} (h1 : T'.order = T.order) (h2 : T'.ready = none ↔ T.ready = none) (i : Nat) : Fp o T' ly i ↔ Fp o T ly i := by
 unfold Fp; rw [h1, Ne, Ne, h2]
noncomputable def outT (T : TSt) (xs : List Int) : TSt := { T with np := λ a => if a ∈ xs then -1 else T.np a }
noncomputable def getT (T : TSt) (xs : List Int) : TSt := { outT T xs with ready := some [], passed := T.passed + xs.length }
section
variable {hp : List MO} {o : Nat} {T : TSt} {ly : Lay} {fr : List PV} {E : Value -> St -> Prop}
theorem Zjo {n r : PV} {p q : Int} : (nsTS n r p q).length <= 100 := by unfold nsTS; simp
theorem Zba {xs : List Int} (e : T.ready = some xs) : rdy T ly = .obj ly.rn := by unfold rdy; rw [e]
theorem Zjp (e : T.ready = none) : rdy T ly = .none := by unfold rdy; rw [e]
theorem Zl {i : Nat} {xs : List PV} (h : hp[i]? = some (.lst xs)) : isLst hp (.obj i) = some xs := by unfold isLst; try dsimp only; rw [h]
theorem Wp.B0 {f : PM PV} {asg : PV -> PM Unit} {body : PM MF} {n : Nat} {μ : St} {Q : MF -> St -> Prop} (h : Wp f μ (λ pv μ' => Wp (Mine.forIx (getOf pv μ') asg body n 0) μ' Q E) E) : Wp (Mine.sFor f asg body n) μ Q E := by
 unfold Mine.sFor
 exact Wp.C (h.mono (λ _ _ h => Wp.E6 rfl h) λ _ _ e => e)
theorem Wp.D6 (S : SAt d hp o T ly) {k : Nat} {Q : PV -> St -> Prop} (e : fr[k]? = some (.obj o)) (h : Q (rdy T ly) ⟨fr, hp⟩) : Wp (Mine.eAttr d.TS ("_ready_nodes" : Str) (Mine.getVar k)) ⟨fr, hp⟩ Q E :=
 Wp.D9 (Wp.B e rfl (Wp.C2 S.ins S.ns ns_r (by unfold rdy; split <;> rfl) h))
theorem Wp.F7 (S : SAt d hp o T ly) {k : Nat} {Q : PV -> St -> Prop} (e : fr[k]? = some (.obj o)) (h : Q (.obj ly.n2i) ⟨fr, hp⟩) : Wp (Mine.eAttr d.TS ("_node2info" : Str) (Mine.getVar k)) ⟨fr, hp⟩ Q E :=
 Wp.D9 (Wp.B e rfl (Wp.C2 S.ins S.ns ns_n rfl h))
theorem Wp.psA (S : SAt d hp o T ly) {k : Nat} {Q : PV -> St -> Prop} (e : fr[k]? = some (.obj o)) (h : Q (.int T.passed) ⟨fr, hp⟩) : Wp (Mine.eAttr d.TS ("_npassedout" : Str) (Mine.getVar k)) ⟨fr, hp⟩ Q E :=
 Wp.D9 (Wp.B e rfl (Wp.C2 S.ins S.ns ns_p rfl h))
theorem Wp.fiA (S : SAt d hp o T ly) {k : Nat} {Q : PV -> St -> Prop} (e : fr[k]? = some (.obj o)) (h : Q (.int T.fin) ⟨fr, hp⟩) : Wp (Mine.eAttr d.TS ("_nfinished" : Str) (Mine.getVar k)) ⟨fr, hp⟩ Q E :=
 Wp.D9 (Wp.B e rfl (Wp.C2 S.ins S.ns ns_q rfl h))
theorem Zpq {xs : List Int} {k : Nat} {a : Int} (e : xs[k]? = some a) (b : Int) : b ∈ xs.take (k + 1) ↔ b ∈ xs.take k ∨ b = a := by
 have hl := (Qgl e)
 rw [take_succ_eq_append_getElem hl]
 have := (Qge e)
 simp [this]
theorem Zpr {xs : List Int} {k : Nat} {a : Int} (e : xs[k]? = some a) : ({ outT T (xs.take k) with np := upd (outT T (xs.take k)).np a (-1) } : TSt) = outT T (xs.take (k + 1)) := by
 have key : upd (λ a => if a ∈ xs.take k then (-1 : Int) else T.np a) a (-1) = λ a => if a ∈ xs.take (k + 1) then (-1 : Int) else T.np a := by
  funext b
  unfold upd
  have := Zpq e b
  by_cases h1 : b = a
  ·rw [if_pos h1, if_pos (this.mpr (.inr h1))]
  ·rw [if_neg h1]
   try dsimp only
   by_cases h2 : b ∈ xs.take k
   ·rw [if_pos h2, if_pos (this.mpr (.inl h2))]
   ·rw [if_neg h2, if_neg λ h => (this.mp h).elim h2 h1]
 show ({ order := T.order, np := upd (λ a => if a ∈ xs.take k then (-1 : Int) else T.np a) a (-1), sc := T.sc, ready := T.ready, passed := T.passed, fin := T.fin } : TSt) = { order := T.order, np := λ a => if a ∈ xs.take (k + 1) then (-1 : Int) else T.np a, sc := T.sc, ready := T.ready, passed := T.passed, fin := T.fin }
 rw [key]
theorem Zcp {xs : List PV} {k : Nat} {μ0 μ : St} : getOf (.tup xs) μ0 k μ = some xs[k]? := rfl
theorem Zjq (S : SAt d hp o T ly) {xs : List Int} (hr : T.ready = some xs) (hsub : ∀ a ∈ xs, a ∈ T.order) (hlen : xs.length <= 1000) {Q : PV -> St -> Prop}
  (h : ∀ hp', SAt d hp' o (getT T xs) ly -> Same o T ly hp hp' -> Q (.tup (xs.map .int)) ⟨fr, hp'⟩) : Wp (Zbt d [.obj o]) ⟨fr, hp⟩ Q E := by
 refine Wp.A0 rfl ?_
 unfold Zcy
 have hrd := S.rd xs hr
 refine Wp.I (Wp.A2 (Wp.Z (Wp.D6 S rfl ?_)))
 rw [Zba hr]
 refine Wp.R (Wp.A4 rfl ?_)
 refine Wp.V (Wp.I (Wp.Y (Wp.C (Wp.W (Wp.D6 S rfl ?_)))))
 rw [Zba hr]
 refine Wp.H7 (xs := xs.map .int) (.inl (Zl hrd)) (by rw [length_map]; lia) (Wp.H ?_)
 refine Wp.I (Wp.Y (Wp.F7 S rfl (Wp.H ?_)))
 show Wp _ ⟨[.obj o, .tup (xs.map .int), .obj ly.n2i, .undef], hp⟩ _ _
 refine Wp.I (Wp.B0 (Wp.B rfl rfl ?_))
 refine Wp.u (λ k => Ex1 (λ v => [.obj o, .tup (xs.map .int), .obj ly.n2i, v]) (λ hp' => SAt d hp' o (outT T (xs.take k)) ly ∧ Same o T ly hp hp')) xs.length (λ k μ hI hk => ?_) fuel 0 _ (by unfold fuel; lia) (Nat.zero_le _)
  (.mk ⟨show SAt d hp o (outT T []) ly by
   have : outT T [] = T := by (unfold outT; simp)
   rw [this]; exact S, Same.refl⟩)
 obtain ⟨S', hs⟩ := hI
 rename_i v hp'
 rw [Zcp, List.getElem?_map]
 cases hx : xs[k]? with
 | none =>
  left
  have hk' : k = xs.length := by have := Qgn hx; lia
  subst hk'
  rw [take_length] at S'
  refine ⟨rfl, ?_⟩
  try dsimp only
  refine Wp.I (Wp.i (Wp.I3 (Wp.D6 S' rfl ?_)))
  have hr' : (outT T xs).ready = some xs := hr
  rw [Zba hr']
  refine ⟨_, _, rfl, S'.rd xs hr', by rw [length_map]; lia, ?_⟩
  try dsimp only
  have S2 := S'.setRd hr' []
  refine Wp.I (Wp.C0 (Wp.B rfl rfl (Wp.C2 S2.ins S2.ns ns_p rfl (Wp.C (Wp.W (Wp.B rfl rfl (Wp.B4 (xs := xs.map .int) (.inr rfl) (by rw [length_map]; lia) (Wp.C7 (Wp.l S2.ins S2.ns Zjo ?_)))))))))
  rw [put_p]
  have S3 := S2.setNs ((outT T xs).passed + ((xs.map PV.int).length : Int)) (outT T xs).fin
  rw [length_map] at S3 ⊢
  refine Wp.I (Wp.D1 (Wp.B rfl rfl ?_))
  refine h _ S3 ((hs.set (fp_rn hr)).set fp_dn)
 | some a =>
  right
  refine ⟨(Qgl hx), .int a, rfl, Wp.H ?_⟩
  have ha : a ∈ T.order := hsub a (mem_of_getElem? hx)
  unfold Zdm
  refine Wp.I (Wp.Y (Wp.R (Wp.A7 (Wp.A3 (Wp.B rfl rfl (Wp.B rfl rfl (Wp.D4 S'.dct (Zbn ha) (Wp.k (S'.inf a ha) (by decide) ?_))))))))
  refine Wp.V ?_
  try dsimp only
  refine Ex1.mk ⟨?_, hs.set (fp_li ha)⟩
  have := S'.setNp ha (-1)
  rw [Zpr hx] at this
  exact this
end

noncomputable def decT (T : TSt) (s : Int) : TSt := { T with np := upd T.np s (T.np s - 1), ready := if T.np s - 1 = 0 then T.ready.map (· ++ [s]) else T.ready }
noncomputable def fin1 (T : TSt) (a : Int) : TSt := { (T.sc a).foldl decT { T with np := upd T.np a (-2) } with fin := ((T.sc a).foldl decT { T with np := upd T.np a (-2) }).fin + 1 }
noncomputable def rlen (T : TSt) : Nat := (T.ready.getD []).length
theorem Zm7 {T : TSt} {s : Int} (h : T.ready ≠ none) : (decT T s).ready ≠ none := by
 unfold decT; try dsimp only
 split
 ·intro e; exact h (Option.map_eq_none_iff.mp e)
 ·exact h
theorem Zod (T : TSt) (s : Int) : rlen (decT T s) <= rlen T + 1 := by
 unfold rlen decT; try dsimp only
 split
 ·cases T.ready <;> simp
 ·lia
theorem Za4 : ∀ (xs : List Int) (T : TSt), (xs.foldl decT T).order = T.order
 | [], T => rfl
 | x :: xs, T => (Za4 xs (decT T x)).trans rfl
theorem Ze0 : ∀ (xs : List Int) (T : TSt), (xs.foldl decT T).sc = T.sc
 | [], T => rfl
 | x :: xs, T => (Ze0 xs (decT T x)).trans rfl
theorem Zjr : ∀ (xs : List Int) (T : TSt), (xs.foldl decT T).fin = T.fin
 | [], T => rfl
 | x :: xs, T => (Zjr xs (decT T x)).trans rfl
theorem Zfg : ∀ (xs : List Int) (T : TSt), (xs.foldl decT T).passed = T.passed
 | [], T => rfl
 | x :: xs, T => (Zfg xs (decT T x)).trans rfl
theorem Zb8 : ∀ (xs : List Int) (T : TSt), T.ready ≠ none -> (xs.foldl decT T).ready ≠ none
 | [], T, h => h
 | x :: xs, T, h => Zb8 xs (decT T x) (Zm7 h)
theorem Zel : ∀ (xs : List Int) (T : TSt), rlen (xs.foldl decT T) <= rlen T + xs.length
 | [], T => Qr
 | x :: xs, T => by
  have h1 := Zel xs (decT T x)
  have h2 := Zod T x
  simp only [foldl_cons, length_cons]
  lia
section
variable {hp : List MO} {o : Nat} {T : TSt} {ly : Lay} {fr : List PV} {E : Value -> St -> Prop}
theorem Zsg (S : SAt d hp o T ly) {s : Int} (hs : s ∈ T.order) (hr : T.ready ≠ none) (hl : rlen T <= 1000000) {v1 v3 v4 v5 v7 : PV} {Q : MF -> St -> Prop}
  (h : ∀ hp', SAt d hp' o (decT T s) ly -> Same o T ly hp hp' -> Q .next ⟨[.obj o, v1, .obj ly.n2i, v3, v4, v5, .int s, .obj (ly.li s)], hp'⟩) : Wp (Zfu d) ⟨[.obj o, v1, .obj ly.n2i, v3, v4, v5, .int s, v7], hp⟩ Q E := by
 unfold Zfu
 refine Wp.I (Wp.Y (Wp.A3 (Wp.B rfl rfl (Wp.B rfl rfl (Wp.D4 S.dct (Zbn hs) (Wp.H ?_))))))
 refine Wp.I (Wp.C0 (Wp.B rfl rfl (Wp.B1 (S.inf s hs) rfl rfl (Wp.R (Wp.I4 (Wp.k (S.inf s hs) (by decide) ?_))))))
 have S1 := S.setNp hs (T.np s - 1)
 have sB := (Same.refl (o := o) (T := T) (ly := ly) (hp := hp)).set (v := .slt d.NI (ly.dx s) [some (.int s), some (.int (T.np s - 1)), some (.obj (ly.ls s))]) (fp_li hs)
 have e1 : (upd T.np s (T.np s - 1)) s = T.np s - 1 := Zp
 have hi := S1.inf s hs
 refine Wp.I (Wp.A2 (Wp.Z (Wp.B7 (Wp.B rfl rfl (Wp.B1 hi rfl rfl (Wp.R (Wp.D8 ?_)))))))
 try dsimp only
 rw [e1]
 by_cases hz : T.np s - 1 = 0
 ·rw [show (T.np s - 1 == 0) = true by simp [hz]]
  obtain ⟨rs, hrs⟩ := Option.ne_none_iff_exists'.mp hr
  have hl' : rs.length <= 1000000 := by unfold rlen at hl; rw [hrs] at hl; exact hl
  have S2 := S1.setRd (xs := rs) hrs (rs ++ [s])
  refine Wp.I (Wp.i (Wp.f (Wp.D6 S1 rfl ?_)))
  rw [Zba (T := { T with np := upd T.np s (T.np s - 1) }) hrs]
  refine Wp.X (S1.rd rs hrs) (Wp.B rfl rfl (Wp.A1 (S1.rd rs hrs) (by rw [length_map]; exact hl') ?_))
  refine Wp.V (Wp.V ?_)
  rw [map_append] at S2
  refine h _ ?_ (sB.set (fp_rn hrs))
  unfold decT
  rw [if_pos hz, hrs]
  exact S2
 ·rw [show (T.np s - 1 == 0) = false by simpa using hz]
  refine Wp.V (Wp.V ?_)
  refine h _ ?_ sB
  unfold decT
  rw [if_neg hz]
  exact S1
end

theorem Zm8 (T : TSt) (a : Int) : (fin1 T a).order = T.order := Za4 _ _
theorem Zls (T : TSt) (a : Int) : (fin1 T a).sc = T.sc := Ze0 _ _
theorem Zm9 {T : TSt} {a : Int} (h : T.ready ≠ none) : (fin1 T a).ready ≠ none := Zb8 _ _ h
theorem Zoe (T : TSt) (a : Int) : rlen (fin1 T a) <= rlen T + (T.sc a).length := Zel _ { T with np := upd T.np a (-2) }
theorem Same.trans {o : Nat} {T T' : TSt} {ly : Lay} {hp hp' hp'' : List MO} (h1 : Same o T ly hp hp') (h2 : Same o T' ly hp' hp'') (e : ∀ i, Fp o T' ly i ↔ Fp o T ly i) : Same o T ly hp hp'' :=
 ⟨h2.1.trans h1.1, λ i hi => (h2.2 i λ h => hi ((e i).mp h)).trans (h1.2 i hi)⟩
section
variable {hp : List MO} {o : Nat} {T : TSt} {ly : Lay} {fr : List PV} {E : Value -> St -> Prop}
theorem Zcq {α β : Type} {f : β -> α -> β} {xs : List α} {k : Nat} {a : α} (e : xs[k]? = some a) (b : β) : (xs.take (k + 1)).foldl f b = f ((xs.take k).foldl f b) a := by
 have hl := (Qgl e)
 rw [take_succ_eq_append_getElem hl, List.foldl_append]
 have := (Qge e)
 simp [this]
theorem Zcr {i : Nat} {xs ys : List PV} {k : Nat} {μ0 μ : St} (h₀ : μ0.hp[i]? = some (.lst xs)) (h : μ.hp[i]? = some (.lst ys)) : getOf (.obj i) μ0 k μ = some ys[k]? := by
 unfold getOf
 try dsimp only
 rw [h₀, h]; rfl
theorem Zrl (S : SAt d hp o T ly) {a : Int} (ha : a ∈ T.order) (hn : T.np a = -1) (hsub : ∀ s ∈ T.sc a, s ∈ T.order) (hr : T.ready ≠ none) (hl : rlen T + (T.sc a).length <= 900000) {v1 v4 v5 v6 v7 : PV} {Q : MF -> St -> Prop}
  (h : ∀ hp' v4 v5 v6 v7, SAt d hp' o (fin1 T a) ly -> Same o T ly hp hp' -> Q .next ⟨[.obj o, v1, .obj ly.n2i, .int a, v4, v5, v6, v7], hp'⟩) : Wp (Zfv d) ⟨[.obj o, v1, .obj ly.n2i, .int a, v4, v5, v6, v7], hp⟩ Q E := by
 unfold Zfv
 refine Wp.I (Wp.A2 (Wp.Z (Wp.J2 (Wp.E1 (Wp.B rfl rfl (Wp.B9 S.dct (Wp.W (Wp.B rfl rfl (Wp.D2 S.dct ?_)))))))))
 rw [Zbn ha]
 refine Wp.H (Wp.R (Wp.A4 (x := .obj (ly.li a)) rfl ?_))
 have hi := S.inf a ha
 refine Wp.V (Wp.I (Wp.Y (Wp.B7 (Wp.B rfl rfl (Wp.B1 hi rfl rfl (Wp.H ?_))))))
 refine Wp.I (Wp.A2 (Wp.Z (Wp.B rfl rfl (Wp.R (Wp.K0 ?_)))))
 rw [hn]
 refine Wp.V (Wp.I (Wp.Y (Wp.R (Wp.A7 (Wp.B rfl rfl (Wp.k hi (by decide) ?_))))))
 have S1 := S.setNp ha (-2)
 have sB := (Same.refl (o := o) (T := T) (ly := ly) (hp := hp)).set (v := .slt d.NI (ly.dx a) [some (.int a), some (.int (-2)), some (.obj (ly.ls a))]) (fp_li ha)
 have hsu := S1.suc a ha
 refine Wp.I (Wp.B0 (Wp.B7 (Wp.B rfl rfl (Wp.B1 (S1.inf a ha) rfl rfl ?_))))
 refine Wp.u (λ k => Ex2 (λ w6 w7 => [.obj o, v1, .obj ly.n2i, .int a, .obj (ly.li a), .int (-1), w6, w7]) (λ hp' => SAt d hp' o (((T.sc a).take k).foldl decT { T with np := upd T.np a (-2) }) ly ∧ Same o T ly hp hp')) (T.sc a).length (λ k μ hI hk => ?_) fuel 0 _ (by unfold fuel; lia) (Nat.zero_le _)
  (by rw [hn]; exact Ex2.mk ⟨S1, sB⟩)
 obtain ⟨S', s'⟩ := hI
 rename_i w6 w7 hp'
 have ho : a ∈ (((T.sc a).take k).foldl decT { T with np := upd T.np a (-2) }).order := by rw [Za4]; exact ha
 have hsu' := S'.suc a ho
 rw [Ze0] at hsu'
 rw [Zcr hsu hsu', List.getElem?_map]
 cases hx : (T.sc a)[k]? with
 | none =>
  left
  have hk' : k = (T.sc a).length := by have := Qgn hx; lia
  subst hk'
  rw [take_length] at S'
  refine ⟨rfl, ?_⟩
  try dsimp only
  refine Wp.I (Wp.C0 (Wp.B rfl rfl (Wp.C2 S'.ins S'.ns ns_q rfl (Wp.R (Wp.C7 (Wp.l S'.ins S'.ns Zjo ?_))))))
  rw [put_q]
  refine Wp.V (h _ _ _ _ _ (S'.setNs _ _) (s'.set fp_dn))
 | some s =>
  right
  refine ⟨(Qgl hx), .int s, rfl, Wp.H ?_⟩
  have hso : s ∈ (((T.sc a).take k).foldl decT { T with np := upd T.np a (-2) }).order := by rw [Za4]; exact hsub s (mem_of_getElem? hx)
  refine Zsg S' hso (Zb8 _ _ hr) ?_ λ hp'' S'' s'' => ?_
  ·have := Zel ((T.sc a).take k) { T with np := upd T.np a (-2) }
   have e : rlen { T with np := upd T.np a (-2) } = rlen T := rfl
   rw [e, length_take] at this
   lia
  ·try dsimp only
   rw [<- Zcq (f := decT) hx] at S''
   refine Ex2.mk ⟨S'', s'.trans s'' λ i => fp_eq (Za4 _ _) ?_ i⟩
   exact ⟨λ e => absurd e (Zb8 _ _ hr), λ e => absurd e hr⟩
theorem Zrm (S : SAt d hp o T ly) (as : List Int) (hr : T.ready ≠ none) (hl : rlen T + (as.map λ a => (T.sc a).length).sum <= 800000) (hlen : as.length <= 1000)
  (hok : ∀ k a, as[k]? = some a -> a ∈ T.order ∧ ((as.take k).foldl fin1 T).np a = -1 ∧ ∀ s ∈ T.sc a, s ∈ T.order) {Q : PV -> St -> Prop}
  (h : ∀ hp', SAt d hp' o (as.foldl fin1 T) ly -> Same o T ly hp hp' -> Q .none ⟨fr, hp'⟩) : Wp (Zgh d (.obj o :: as.map .int)) ⟨fr, hp⟩ Q E := by
 refine Wp.A0 (init := [.obj o, .tup (as.map .int), .undef, .undef, .undef, .undef, .undef, .undef]) ?_ ?_
 ·show (match lenOk (as.map PV.int) with | true => _ | false => _) = _
  rw [show lenOk (as.map PV.int) = true from decide_eq_true (by rw [length_map]; lia)]
 unfold Zi9
 have fold_order : ∀ (bs : List Int) (T : TSt), (bs.foldl fin1 T).order = T.order := λ bs => by
  induction bs with
  | nil => intro T; rfl
  | cons b bs ih => intro T; exact (ih _).trans (Zm8 _ _)
 have fold_sc : ∀ (bs : List Int) (T : TSt), (bs.foldl fin1 T).sc = T.sc := λ bs => by
  induction bs with
  | nil => intro T; rfl
  | cons b bs ih => intro T; exact (ih _).trans (Zls _ _)
 have fold_ready : ∀ (bs : List Int) (T : TSt), T.ready ≠ none -> (bs.foldl fin1 T).ready ≠ none := λ bs => by
  induction bs with
  | nil => intro T h; exact h
  | cons b bs ih => intro T h; exact ih _ (Zm9 h)
 have fold_rlen : ∀ (bs : List Int) (T : TSt), rlen (bs.foldl fin1 T) <= rlen T + (bs.map λ a => (T.sc a).length).sum := λ bs => by
  induction bs with
  | nil => intro T; exact Qr
  | cons b bs ih =>
   intro T
   have h1 := ih (fin1 T b)
   have h2 := Zoe T b
   rw [Zls] at h1
   simp only [foldl_cons, map_cons, sum_cons]
   lia
 obtain ⟨rs, hrs⟩ := Option.ne_none_iff_exists'.mp hr
 refine Wp.I (Wp.A2 (Wp.Z (Wp.D6 S rfl ?_)))
 rw [Zba hrs]
 refine Wp.R (Wp.A4 rfl ?_)
 refine Wp.V (Wp.I (Wp.Y (Wp.F7 S rfl (Wp.H ?_))))
 refine Wp.I (Wp.B0 (Wp.B rfl rfl ?_))
 refine Wp.u (λ k => Ex5 (λ w3 w4 w5 w6 w7 => [.obj o, .tup (as.map .int), .obj ly.n2i, w3, w4, w5, w6, w7]) (λ hp' => SAt d hp' o ((as.take k).foldl fin1 T) ly ∧ Same o T ly hp hp')) as.length (λ k μ hI hk => ?_) fuel 0 _ (by unfold fuel; lia) (Nat.zero_le _)
  (.mk ⟨S, Same.refl⟩)
 obtain ⟨S', s'⟩ := hI
 rename_i w3 w4 w5 w6 w7 hp'
 rw [Zcp, List.getElem?_map]
 cases hx : as[k]? with
 | none =>
  left
  have hk' : k = as.length := by have := Qgn hx; lia
  subst hk'
  rw [take_length] at S'
  exact ⟨rfl, Wp.V (h _ S' s')⟩
 | some a =>
  right
  obtain ⟨h1, h2, h3⟩ := hok k a hx
  refine ⟨(Qgl hx), .int a, rfl, Wp.H ?_⟩
  have hlt := (Qgl hx)
  refine Zrl S' (by rw [fold_order]; exact h1) h2 (by rw [fold_sc, fold_order]; exact h3) (fold_ready _ _ hr) ?_ λ hp'' u4 u5 u6 u7 S'' s'' => ?_
  ·rw [fold_sc]
   have := fold_rlen (as.take k) T
   have e : (as.map λ a => (T.sc a).length).sum = ((as.take k).map λ a => (T.sc a).length).sum + ((as.drop k).map λ a => (T.sc a).length).sum := by
    rw [<- sum_append, <- map_append, take_append_drop]
   have e2 : (T.sc a).length <= ((as.drop k).map λ a => (T.sc a).length).sum := by
    rw [List.drop_eq_getElem_cons hlt, map_cons, sum_cons, (Qge hx)]
    lia
   lia
  ·try dsimp only
   rw [<- Zcq (f := fin1) hx] at S''
   exact Ex5.mk ⟨S'', s'.trans s'' λ i => fp_eq (fold_order _ _) ⟨λ e => absurd e (fold_ready _ _ hr), λ e => absurd e hr⟩ i⟩
end

section
variable {hp : List MO} {o : Nat} {T : TSt} {ly : Lay} {fr : List PV} {E : Value -> St -> Prop}
theorem Wp.F2 {f g : PM PV} {μ : St} {Q : PV -> St -> Prop} (h : Wp f μ (λ x μ' => Wp g μ' (λ y μ'' => ∃ i j, x = .int i ∧ y = .int j ∧ Q (.bool (decide (i < j))) μ'') E) E) : Wp (Mine.eCmp .Lt f g) μ Q E :=
 Wp.C (h.mono (λ _ _ h => Wp.C (h.mono (λ _ _ hh => by
  obtain ⟨i, j, e1, e2, h'⟩ := hh
  subst e1 e2; exact Wp.C (Wp.J rfl (Wp.R h'))) λ _ _ e => e)) λ _ _ e => e)
theorem Wp.eOr {f g : PM PV} {μ : St} {Q : PV -> St -> Prop} (h : Wp f μ (λ x μ' => ∃ b, x = .bool b ∧ (b = true -> Q (.bool true) μ') ∧ (b = false -> Wp g μ' Q E)) E) : Wp (Mine.eOr f g) μ Q E :=
 Wp.C (h.mono (λ x μ' hh => by
  obtain ⟨b, e, h1, h2⟩ := hh
  subst e
  refine Wp.C (Wp.J rfl ?_)
  cases b with
  | true => exact Wp.R (h1 rfl)
  | false => exact h2 rfl) λ _ _ e => e)
theorem Wp.J9 {i : Nat} {xs : List PV} {Q : PV -> St -> Prop} (e : hp[i]? = some (.lst xs)) (hl : xs.length <= 1000000) (h : Q (.bool (!xs.isEmpty)) ⟨fr, hp⟩) : Wp (Mine.pBool [.obj i]) ⟨fr, hp⟩ Q E := by
 refine Wp.C (Wp.J (a := xs) (μ' := ⟨fr, hp⟩) ?_ (Wp.C (Wp.A6 (decide_eq_true hl) (Wp.mk h))))
 unfold aLst
 try dsimp only
 rw [Zl e]
theorem Zjs (S : SAt d hp o T ly) {xs : List Int} (hr : T.ready = some xs) (hl : xs.length <= 1000000) {Q : PV -> St -> Prop} (h : Q (.bool (decide (T.fin < T.passed) || !xs.isEmpty)) ⟨fr, hp⟩) : Wp (Zbu d [.obj o]) ⟨fr, hp⟩ Q E := by
 refine Wp.A0 rfl ?_
 unfold Zcz
 refine Wp.I (Wp.A2 (Wp.Z (Wp.D6 S rfl ?_)))
 rw [Zba hr]
 refine Wp.R (Wp.A4 rfl ?_)
 refine Wp.V (Wp.I (Wp.D1 (Wp.eOr (Wp.F2 (Wp.fiA S rfl (Wp.psA S rfl ⟨_, _, rfl, rfl, _, rfl, λ e => ?_, λ e => ?_⟩))))))
 ·rw [e, Bool.true_or] at h; exact h
 ·refine Wp.C (Wp.W (Wp.D6 S rfl ?_))
  rw [Zba hr]
  refine Wp.J9 (S.rd xs hr) (by rw [length_map]; exact hl) ?_
  rw [e, Bool.false_or] at h
  have : (xs.map PV.int).isEmpty = xs.isEmpty := by cases xs <;> rfl
  rw [this]
  exact h
theorem Zdf {x : MO} {l : List MO} : (hp ++ x :: l)[hp.length]? = some x := by simp
theorem Zk2 {a : Int} {Q : PV -> St -> Prop}
  (h : ∀ hp', hp'.length = hp.length + 3 -> (∀ i, i < hp.length -> hp'[i]? = hp[i]?) -> hp'[hp.length + 1]? = some (.slt d.NI hp.length [some (.int a), some (.int 0), some (.obj (hp.length + 2))]) -> hp'[hp.length + 2]? = some (.lst []) -> Q (.obj (hp.length + 1)) ⟨fr, hp'⟩) :
  Wp (newM d.NI true (Zed d) [.int a]) ⟨fr, hp⟩ Q E := by
 unfold newM
 refine Wp.C (Wp.b (Wp.C (Wp.b (Wp.C (Wp.A0 rfl ?_)))))
 have hl1 : (hp ++ [MO.ns []]).length = hp.length + 1 := by simp
 rw [hl1]
 have e1 : ((hp ++ [MO.ns []]) ++ [mkInst d.NI true hp.length])[hp.length + 1]? = some (.slt d.NI hp.length []) := by rw [<- hl1]; simp [mkInst]
 have len1 : ((hp ++ [MO.ns []]) ++ [mkInst d.NI true hp.length]).length = hp.length + 2 := by simp
 have old1 : ∀ i, i < hp.length -> ((hp ++ [MO.ns []]) ++ [mkInst d.NI true hp.length])[i]? = hp[i]? := λ i hi => by
  rw [List.getElem?_append_left (by simp; lia), List.getElem?_append_left hi]
 generalize ((hp ++ [MO.ns []]) ++ [mkInst d.NI true hp.length]) = h1 at e1 len1 old1 ⊢
 unfold Zec
 refine Wp.I (Wp.Y (Wp.B rfl rfl (Wp.A7 (Wp.B rfl rfl (Wp.k e1 (by decide) ?_)))))
 have e2 : (h1.set (hp.length + 1) (.slt d.NI hp.length [some (.int a)]))[hp.length + 1]? = some (.slt d.NI hp.length [some (.int a)]) := Zm e1
 refine Wp.I (Wp.Y (Wp.R (Wp.A7 (Wp.B rfl rfl (Wp.k e2 (by decide) ?_)))))
 have e3 : ((h1.set (hp.length + 1) (.slt d.NI hp.length [some (.int a)])).set (hp.length + 1) (.slt d.NI hp.length [some (.int a), some (.int 0)]))[hp.length + 1]? = some (.slt d.NI hp.length [some (.int a), some (.int 0)]) := Zm e2
 refine Wp.I (Wp.Y (Wp.C (Wp.j (Wp.C (Wp.A6 rfl (Wp.C (Wp.b (Wp.R (Wp.A7 (Wp.B rfl rfl ?_))))))))))
 have len3 : ((h1.set (hp.length + 1) (.slt d.NI hp.length [some (.int a)])).set (hp.length + 1) (.slt d.NI hp.length [some (.int a), some (.int 0)])).length = hp.length + 2 := by simp [len1]
 have e4 := getElem?_app (r := [MO.lst []]) e3
 have e3' : h1.set (hp.length + 1) (.slt d.NI hp.length (([] ++ List.replicate (0 + 1 - ([] : List (Option PV)).length) none).set 0 (some (.int a)))) = h1.set (hp.length + 1) (.slt d.NI hp.length [some (.int a)]) := rfl
 refine Wp.k e4 (by decide) ?_
 refine Wp.V ?_
 try dsimp only
 refine Wp.R (h _ ?_ ?_ ?_ ?_)
 ·simp [len1]
 ·intro i hi
  rw [List.getElem?_set_ne (by lia), List.getElem?_append_left (by simp [len1]; lia), List.getElem?_set_ne (by lia), List.getElem?_set_ne (by lia)]
  exact old1 i hi
 ·refine (Zm e4).trans ?_
  simp [len1]
 ·rw [List.getElem?_set_ne (by lia)]
  rw [<- len3]
  simp
end

noncomputable def infoT (T : TSt) (a : Int) : TSt := if a ∈ T.order then T else { T with order := T.order ++ [a], np := upd T.np a 0, sc := upd T.sc a [] }
noncomputable def edgeT (a : Int) (T : TSt) (p : Int) : TSt := { infoT T p with sc := upd (infoT T p).sc p ((infoT T p).sc p ++ [a]) }
noncomputable def addT (T : TSt) (a : Int) (ps : List Int) : TSt := ps.foldl (edgeT a) { infoT T a with np := upd (infoT T a).np a ((infoT T a).np a + ps.length) }
structure Grow (o : Nat) (T : TSt) (ly : Lay) (hp : List MO) (T' : TSt) (ly' : Lay) (hp' : List MO) : Prop where
 len : hp.length <= hp'.length
 old : ∀ i, i < hp.length -> ¬ Fp o T ly i -> hp'[i]? = hp[i]?
 new : ∀ i, Fp o T' ly' i -> Fp o T ly i ∨ hp.length <= i
theorem Grow.refl {o : Nat} {T : TSt} {ly : Lay} {hp : List MO} : Grow o T ly hp T ly hp := ⟨Qr, λ _ _ _ => rfl, λ _ h => .inl h⟩
theorem Grow.trans {o : Nat} {T T' T'' : TSt} {ly ly' ly'' : Lay} {hp hp' hp'' : List MO} (h1 : Grow o T ly hp T' ly' hp') (h2 : Grow o T' ly' hp' T'' ly'' hp'') : Grow o T ly hp T'' ly'' hp'' :=
 ⟨Nat.le_trans h1.len h2.len, λ i hi hn => (h2.old i (Nat.lt_of_lt_of_le hi h1.len) λ h => (h1.new i h).elim hn λ h => absurd hi (Nat.not_lt_of_le h)).trans (h1.old i hi hn),
  λ i h => (h2.new i h).elim (h1.new i) λ h => .inr (Nat.le_trans h1.len h)⟩
section
variable {hp : List MO} {o : Nat} {T : TSt} {ly : Lay} {fr : List PV} {E : Value -> St -> Prop}
theorem SAt.lt (S : SAt d hp o T ly) {i : Nat} (h : Fp o T ly i) : i < hp.length := by
 have key : ∀ {x : MO}, hp[i]? = some x -> i < hp.length := λ e => (Qgl e)
 rcases h with rfl | rfl | rfl | ⟨h, rfl⟩ | ⟨a, ha, rfl | rfl⟩
 ·exact key S.ins
 ·exact key S.ns
 ·exact key S.dct
 ·obtain ⟨xs, e⟩ := Option.ne_none_iff_exists'.mp h
  exact key (S.rd xs e)
 ·exact key (S.inf a ha)
 ·exact key (S.suc a ha)
theorem Wp.I8 {i : Nat} {es : List (Int × PV)} {ep : Nat} {k : Int} {y : PV} {Q : Unit -> St -> Prop} (e : hp[i]? = some (.dct es ep)) (hl : es.length <= 1000000) (hk : dHas es k = false) (h : Q () ⟨fr, hp.set i (.dct (es ++ [(k, y)]) (ep + 1))⟩) : Wp (pSetItem (.obj i) (.int k) y) ⟨fr, hp⟩ Q E := by
 refine Wp.J ?_ h
 unfold pSetItem
 try dsimp only
 rw [e]
 try dsimp only
 rw [show lenOk es = true from decide_eq_true hl]
 try dsimp only
 unfold dPut
 rw [hk]
theorem Zps {f : Int -> PV} {a : Int} {l : List Int} (h : a ∉ l) : dHas (l.map λ a => (a, f a)) a = false := by
 unfold dHas
 rw [List.any_eq_false]
 intro x hx
 obtain ⟨b, hb, rfl⟩ := Qmm hx
 simp
 intro e; exact h (e ▸ hb)
theorem Zfh (S : SAt d hp o T ly) (a : Int) (hl : T.order.length <= 1000) {Q : PV -> St -> Prop}
  (h : ∀ hp' ly', SAt d hp' o (infoT T a) ly' -> Grow o T ly hp (infoT T a) ly' hp' -> Q (.obj (ly'.li a)) ⟨fr, hp'⟩) : Wp (Zb7 d [.obj o, .int a]) ⟨fr, hp⟩ Q E := by
 refine Wp.A0 rfl ?_
 unfold Zde
 refine Wp.I (Wp.A2 (Wp.Z (Wp.J2 (Wp.E1 (Wp.F7 S rfl (Wp.B9 S.dct (Wp.W (Wp.B rfl rfl (Wp.D2 S.dct ?_)))))))))
 by_cases ha : a ∈ T.order
 ·rw [Zbn ha]
  refine Wp.H (Wp.R (Wp.A4 (x := .obj (ly.li a)) rfl ?_))
  refine Wp.V (Wp.I (Wp.D1 (Wp.B rfl rfl ?_)))
  have e : infoT T a = T := if_pos ha
  rw [e] at h
  exact h hp ly S Grow.refl
 ·rw [Zh5 ha]
  refine Wp.H (Wp.R (Wp.A4 (x := .none) rfl ?_))
  refine Wp.I (Wp.asg2 (Wp.C (Wp.W (Wp.B rfl rfl (Zk2 λ hp' hlen hold h1 h2 => ?_)))))
  have S' : SAt d hp' o T ly := S.keep λ i hi => hold i (S.lt hi)
  refine Wp.G2 (Wp.F7 S' rfl (Wp.B rfl rfl (Wp.I8 S'.dct (by rw [length_map]; lia) (Zps ha) (Wp.H ?_))))
  refine Wp.V (Wp.I (Wp.D1 (Wp.B (v := .obj (hp.length + 1)) rfl rfl ?_)))
  have e : infoT T a = { T with order := T.order ++ [a], np := upd T.np a 0, sc := upd T.sc a [] } := if_neg ha
  rw [e] at h
  have ne : ∀ b ∈ T.order, b ≠ a := λ b hb e => ha (e ▸ hb)
  have hn2 : ly.n2i < hp.length := S.lt Zgi
  have new : ∀ {i : Nat} {x : MO}, hp.length <= i -> hp'[i]? = some x -> (hp'.set ly.n2i (.dct ((T.order.map λ a => (a, PV.obj (ly.li a))) ++ [(a, .obj (hp.length + 1))]) (ly.ep + 1)))[i]? = some x := λ hi hx => Zk (by lia) hx
  have := h (hp'.set ly.n2i (.dct ((T.order.map λ a => (a, PV.obj (ly.li a))) ++ [(a, .obj (hp.length + 1))]) (ly.ep + 1)))
   { ly with ep := ly.ep + 1, li := upd ly.li a (hp.length + 1), ls := upd ly.ls a (hp.length + 2), dx := upd ly.dx a hp.length } ?_ ?_
  ·dsimp only at this
   rw [show upd ly.li a (hp.length + 1) a = hp.length + 1 from Zp] at this
   exact this
  ·refine ⟨Ze S'.dct S'.ins (mn rfl), ?_, ?_, λ xs e => Ze S'.dct (S'.rd xs e) (mn rfl), λ b hb => ?_, λ b hb => ?_, λ b hb c hc hbc => ?_, λ hr b hb => ?_, ?_⟩
   ·exact Ze S'.dct S'.ns (mn rfl)
   ·refine (Zm S'.dct).trans ?_
    congr 2
    show _ = (T.order ++ [a]).map λ b => (b, PV.obj (upd ly.li a (hp.length + 1) b))
    rw [map_append]
    congr 1
    ·exact map_congr_left λ b hb => by rw [Zv (ne b hb)]
    ·simp [Zp]
   ·rcases Qma hb with hb | hb
    ·show _ = some (MO.slt d.NI (upd ly.dx a hp.length b) [_, some (PV.int (upd T.np a 0 b)), some (PV.obj (upd ly.ls a (hp.length + 2) b))])
     rw [Zv (ne b hb), Zv (ne b hb), Zv (ne b hb)]
     show (hp'.set _ _)[upd ly.li a (hp.length + 1) b]? = _
     rw [Zv (ne b hb)]
     exact Ze S'.dct (S'.inf b hb) (mn rfl)
    ·rw [mem_singleton] at hb
     subst hb
     show (hp'.set _ _)[upd ly.li b (hp.length + 1) b]? = some (MO.slt d.NI (upd ly.dx b hp.length b) [_, some (PV.int (upd T.np b 0 b)), some (PV.obj (upd ly.ls b (hp.length + 2) b))])
     rw [Zp, Zp, Zp, Zp]
     exact new (by lia) h1
   ·rcases Qma hb with hb | hb
    ·show (hp'.set _ _)[upd ly.ls a (hp.length + 2) b]? = some (MO.lst ((upd T.sc a [] b).map PV.int))
     rw [Zv (ne b hb), Zv (ne b hb)]
     exact Ze S'.dct (S'.suc b hb) (mn rfl)
    ·rw [mem_singleton] at hb
     subst hb
     show (hp'.set _ _)[upd ly.ls b (hp.length + 2) b]? = some (MO.lst ((upd T.sc b [] b).map PV.int))
     rw [Zp, Zp]
     exact new (by lia) h2
   ·have hbc : upd ly.ls a (hp.length + 2) b = upd ly.ls a (hp.length + 2) c := hbc
    rcases Qma hb with kb | kb <;> rcases Qma hc with kc | kc
    ·rw [Zv (ne b kb), Zv (ne c kc)] at hbc; exact S.lsi b kb c kc hbc
    ·rw [mem_singleton] at kc
     rw [Zv (ne b kb), kc, Zp] at hbc
     have := S.lt (fp_ls kb (o := o)); lia
    ·rw [mem_singleton] at kb
     rw [Zv (ne c kc), kb, Zp] at hbc
     have := S.lt (fp_ls kc (o := o)); lia
    ·rw [mem_singleton] at kb kc; rw [kb, kc]
   ·show upd ly.ls a (hp.length + 2) b ≠ ly.rn
    have hrn : ly.rn < hp.length := S.lt (.inr (.inr (.inr (.inl ⟨hr, rfl⟩))))
    rcases Qma hb with hb | hb
    ·rw [Zv (ne b hb)]; exact S.rls hr b hb
    ·rw [mem_singleton] at hb; subst hb; rw [Zp]; lia
   ·refine nodup_append.mpr ⟨S.ond, by simp, λ x hx y hy e => ?_⟩
    rw [mem_singleton] at hy
    exact ha (by rw [<- hy, <- e]; exact hx)
  ·refine ⟨by rw [length_set]; lia, λ i hi hn => ?_, λ i hi => ?_⟩
   ·rw [List.getElem?_set_ne (λ e => hn (by subst e; exact Zgi))]
    exact hold i hi
   ·rcases hi with rfl | rfl | rfl | ⟨hr, rfl⟩ | ⟨b, hb, hi⟩
    ·exact .inl fp_o
    ·exact .inl fp_dn
    ·exact .inl Zgi
    ·exact .inl (.inr (.inr (.inr (.inl ⟨hr, rfl⟩))))
    ·rcases Qma hb with hb | hb
     ·rcases hi with rfl | rfl
      ·left; show Fp o T ly (upd ly.li a _ b); rw [Zv (ne b hb)]; exact fp_li hb
      ·left; show Fp o T ly (upd ly.ls a _ b); rw [Zv (ne b hb)]; exact fp_ls hb
     ·rw [mem_singleton] at hb; subst hb
      rcases hi with rfl | rfl
      ·right; show _ <= upd ly.li b _ b; rw [Zp]; lia
      ·right; show _ <= upd ly.ls b _ b; rw [Zp]; lia
end

theorem Zjt (T : TSt) (a : Int) : a ∈ (infoT T a).order := by
 unfold infoT
 split
 ·assumption
 ·exact mem_append_right _ (mem_singleton.mpr rfl)
theorem Zju (T : TSt) (a : Int) : (infoT T a).order.length <= T.order.length + 1 := by
 unfold infoT
 split
 ·lia
 ·simp
theorem Zgx (T : TSt) (a p : Int) : ((infoT T a).sc p).length <= (T.sc p).length := by
 unfold infoT
 split
 ·lia
 ·show (upd T.sc a [] p).length <= _
  unfold upd
  split <;> simp
theorem Zpt (a : Int) (T : TSt) (p : Int) : (edgeT a T p).order.length <= T.order.length + 1 := Zju T p
theorem Zrn (a : Int) (T : TSt) (p q : Int) : ((edgeT a T p).sc q).length <= (T.sc q).length + 1 := by
 show (upd (infoT T p).sc p ((infoT T p).sc p ++ [a]) q).length <= _
 unfold upd
 have h1 := Zgx T p q
 split
 ·rename_i e; subst e; rw [length_append, length_singleton]; lia
 ·lia
theorem Zhd (a : Int) : ∀ (ps : List Int) (T : TSt), (ps.foldl (edgeT a) T).order.length <= T.order.length + ps.length
 | [], T => Qr
 | p :: ps, T => by
  have h1 := Zhd a ps (edgeT a T p)
  have h2 := Zpt a T p
  simp only [foldl_cons, length_cons]
  lia
theorem Zjv (a q : Int) : ∀ (ps : List Int) (T : TSt), ((ps.foldl (edgeT a) T).sc q).length <= (T.sc q).length + ps.length
 | [], T => Qr
 | p :: ps, T => by
  have h1 := Zjv a q ps (edgeT a T p)
  have h2 := Zrn a T p q
  simp only [foldl_cons, length_cons]
  lia
theorem Zlt {o : Nat} {T T' : TSt} {ly : Lay} {hp hp' : List MO} (hl : hp'.length = hp.length) (ho : ∀ i, ¬ Fp o T ly i -> hp'[i]? = hp[i]?) (h1 : T'.order = T.order) (h2 : T'.ready = T.ready) : Grow o T ly hp T' ly hp' :=
 ⟨Nat.le_of_eq hl.symm, λ i _ hn => ho i hn, λ i hi => .inl ((fp_eq h1 (by rw [h2]) i).mp hi)⟩
section
variable {hp : List MO} {o : Nat} {T : TSt} {ly : Lay} {fr : List PV} {E : Value -> St -> Prop}
theorem Wp.B5 (S : SAt d hp o T ly) {name : Str} (hn : ([("_node2info" : Str), "_ready_nodes", "_npassedout", "_nfinished"].contains name) = false) {Q : Unit -> St -> Prop} (h : Q () ⟨fr, hp⟩) : Wp (Mine.isIns d.TS name (.obj o)) ⟨fr, hp⟩ Q E :=
 Wp.K1 S.ins S.ns (Zrk name hn) h
theorem Zof (S : SAt d hp o T ly) (a : Int) (ps : List Int) (hr : T.ready = none) (hl : T.order.length + ps.length <= 900) (hsc : ∀ q, (T.sc q).length <= 1000) {Q : PV -> St -> Prop}
  (h : ∀ hp' ly', SAt d hp' o (addT T a ps) ly' -> Grow o T ly hp (addT T a ps) ly' hp' -> Q .none ⟨fr, hp'⟩) : Wp (k_add d (.obj o :: .int a :: ps.map .int)) ⟨fr, hp⟩ Q E := by
 refine Wp.A0 (init := [.obj o, .int a, .tup (ps.map .int), .undef, .undef, .undef]) ?_ ?_
 ·show (match lenOk (ps.map PV.int) with | true => _ | false => _) = _
  rw [show lenOk (ps.map PV.int) = true from decide_eq_true (by rw [length_map]; lia)]
 unfold g_add
 refine Wp.I (Wp.A2 (Wp.Z (Wp.D6 S rfl ?_)))
 rw [Zjp hr]
 refine Wp.R (Wp.A5 (x := .none) rfl ?_)
 refine Wp.V (Wp.I (Wp.Y (Wp.A8 (Wp.B rfl rfl (Wp.B5 S (by kernel_rfl) (Wp.W (Wp.B rfl rfl (Zfh S a (by lia) λ hp1 ly1 S1 gB => Wp.H ?_))))))))
 have ha := Zjt T a
 refine Wp.I (Wp.C0 (Wp.B (v := .obj (ly1.li a)) rfl rfl (Wp.B1 (S1.inf a ha) rfl rfl (Wp.C (Wp.W (Wp.B rfl rfl (Wp.B4 (xs := ps.map .int) (.inr rfl) (by rw [length_map]; lia) (Wp.C7 (Wp.k (S1.inf a ha) (by decide) ?_)))))))))
 rw [length_map]
 have S2 := S1.setNp ha ((infoT T a).np a + ps.length)
 have gC : Grow o (infoT T a) ly1 hp1 { infoT T a with np := upd (infoT T a).np a ((infoT T a).np a + ps.length) } ly1 (hp1.set (ly1.li a) (.slt d.NI (ly1.dx a) [some (.int a), some (.int ((infoT T a).np a + ps.length)), some (.obj (ly1.ls a))])) :=
  Zlt (by rw [length_set]) (λ i hi => by rw [List.getElem?_set_ne (λ e => hi (by rw [<- e]; exact fp_li ha))]) rfl rfl
 refine Wp.I (Wp.B0 (Wp.B rfl rfl ?_))
 refine Wp.u (λ k => Ex2 (λ w4 w5 => [.obj o, .int a, .tup (ps.map .int), .obj (ly1.li a), w4, w5]) (λ hp' => ∃ ly', SAt d hp' o ((ps.take k).foldl (edgeT a) { infoT T a with np := upd (infoT T a).np a ((infoT T a).np a + ps.length) }) ly' ∧
   Grow o T ly hp ((ps.take k).foldl (edgeT a) { infoT T a with np := upd (infoT T a).np a ((infoT T a).np a + ps.length) }) ly' hp')) ps.length (λ k μ hI hk => ?_) fuel 0 _ (by unfold fuel; lia) (Nat.zero_le _)
  (.mk ⟨ly1, S2, gB.trans gC⟩)
 obtain ⟨ly', S', g'⟩ := hI
 rename_i w4 w5 hp'
 rw [Zcp, List.getElem?_map]
 cases hx : ps[k]? with
 | none =>
  left
  have hk' : k = ps.length := by have := Qgn hx; lia
  subst hk'
  rw [take_length] at S' g'
  exact ⟨rfl, Wp.V (h _ _ S' g')⟩
 | some p =>
  right
  refine ⟨(Qgl hx), .int p, rfl, Wp.H ?_⟩
  have b1 := Zhd a (ps.take k) { infoT T a with np := upd (infoT T a).np a ((infoT T a).np a + ps.length) }
  have b2 : (infoT T a).order.length <= T.order.length + 1 := Zju T a
  have b3 : (ps.take k).length <= ps.length := by rw [length_take]; lia
  unfold Zlp
  refine Wp.I (Wp.Y (Wp.A8 (Wp.B rfl rfl (Wp.B5 S' (by kernel_rfl) (Wp.W (Wp.B rfl rfl (Zfh S' p ?_ λ hp2 ly2 S3 gD => Wp.H ?_)))))))
  ·have b4 : ({ infoT T a with np := upd (infoT T a).np a ((infoT T a).np a + ps.length) } : TSt).order = (infoT T a).order := rfl
   rw [b4] at b1
   lia
  have hp_ := Zjt ((ps.take k).foldl (edgeT a) { infoT T a with np := upd (infoT T a).np a ((infoT T a).np a + ps.length) }) p
  have b5 := Zjv a p (ps.take k) { infoT T a with np := upd (infoT T a).np a ((infoT T a).np a + ps.length) }
  have b6 : ((infoT T a).sc p).length <= (T.sc p).length := Zgx T a p
  have b7 := Zgx ((ps.take k).foldl (edgeT a) { infoT T a with np := upd (infoT T a).np a ((infoT T a).np a + ps.length) }) p p
  have b8 := hsc p
  have b9 : ({ infoT T a with np := upd (infoT T a).np a ((infoT T a).np a + ps.length) } : TSt).sc = (infoT T a).sc := rfl
  rw [b9] at b5
  refine Wp.I (Wp.i (Wp.f (Wp.B7 (Wp.B (v := .obj (ly2.li p)) rfl rfl (Wp.B1 (S3.inf p hp_) rfl rfl (Wp.X (S3.suc p hp_) (Wp.B rfl rfl (Wp.A1 (S3.suc p hp_) (by rw [length_map]; lia) ?_))))))))
  refine Wp.V ?_
  try dsimp only
  have S4 := S3.setSc hp_ ((infoT ((ps.take k).foldl (edgeT a) { infoT T a with np := upd (infoT T a).np a ((infoT T a).np a + ps.length) }) p).sc p ++ [a])
  rw [map_append] at S4
  refine Ex2.mk ⟨ly2, ?_, ?_⟩
  ·rw [Zcq (f := edgeT a) hx]
   exact S4
  ·rw [Zcq (f := edgeT a) hx]
   exact g'.trans (gD.trans (Zlt (by rw [length_set]) (λ i hi => by rw [List.getElem?_set_ne (λ e => hi (by rw [<- e]; exact fp_ls hp_))]) rfl rfl))
end

noncomputable def T0 : TSt := { order := [], np := λ _ => 0, sc := λ _ => [], ready := none, passed := 0, fin := 0 }
section
variable {hp : List MO} {fr : List PV} {E : Value -> St -> Prop}
theorem put_1 {n : PV} : nsPut ("_node2info" : Str) n [] = [(("_node2info" : Str), n)] := by kernel_rfl
theorem put_2 {n r : PV} : nsPut ("_ready_nodes" : Str) r [(("_node2info" : Str), n)] = [(("_node2info" : Str), n), (("_ready_nodes" : Str), r)] := by kernel_rfl
theorem put_3 {n r p : PV} : nsPut ("_npassedout" : Str) p [(("_node2info" : Str), n), (("_ready_nodes" : Str), r)] = [(("_node2info" : Str), n), (("_ready_nodes" : Str), r), (("_npassedout" : Str), p)] := by kernel_rfl
theorem put_4 {n r p q : PV} : nsPut ("_nfinished" : Str) q [(("_node2info" : Str), n), (("_ready_nodes" : Str), r), (("_npassedout" : Str), p)] = [(("_node2info" : Str), n), (("_ready_nodes" : Str), r), (("_npassedout" : Str), p), (("_nfinished" : Str), q)] := by kernel_rfl
theorem Zsh {Q : PV -> St -> Prop} (h : ∀ hp' o ly, SAt d hp' o T0 ly -> hp.length <= hp'.length -> (∀ i, i < hp.length -> hp'[i]? = hp[i]?) -> (∀ i, Fp o T0 ly i -> hp.length <= i) -> Q (.obj o) ⟨fr, hp'⟩) :
  Wp (newM d.TS false (Zco d) []) ⟨fr, hp⟩ Q E := by
 unfold newM
 refine Wp.C (Wp.b (Wp.C (Wp.b (Wp.C (Wp.A0 rfl ?_)))))
 have hl1 : (hp ++ [MO.ns []]).length = hp.length + 1 := by simp
 rw [hl1]
 have e1 : ((hp ++ [MO.ns []]) ++ [mkInst d.TS false hp.length])[hp.length + 1]? = some (.ins d.TS hp.length) := by rw [<- hl1]; simp [mkInst]
 have e2 : ((hp ++ [MO.ns []]) ++ [mkInst d.TS false hp.length])[hp.length]? = some (.ns []) := by simp
 have len1 : ((hp ++ [MO.ns []]) ++ [mkInst d.TS false hp.length]).length = hp.length + 2 := by simp
 have old1 : ∀ i, i < hp.length -> ((hp ++ [MO.ns []]) ++ [mkInst d.TS false hp.length])[i]? = hp[i]? := λ i hi => by
  rw [List.getElem?_append_left (by simp; lia), List.getElem?_append_left hi]
 generalize ((hp ++ [MO.ns []]) ++ [mkInst d.TS false hp.length]) = h1 at e1 e2 len1 old1 ⊢
 unfold Zee
 refine Wp.I (Wp.Y (Wp.C (Wp.b (Wp.R (Wp.A7 (Wp.B rfl rfl (Wp.l (getElem?_app e1) (getElem?_app e2) (by simp) ?_)))))))
 rw [put_1, len1]
 have a1 : ((h1 ++ [MO.dct [] 0]).set hp.length (.ns [(("_node2info" : Str), .obj (hp.length + 2))]))[hp.length + 1]? = some (.ins d.TS hp.length) := Zk (by lia) (getElem?_app e1)
 have a2 : ((h1 ++ [MO.dct [] 0]).set hp.length (.ns [(("_node2info" : Str), .obj (hp.length + 2))]))[hp.length]? = some (.ns [(("_node2info" : Str), .obj (hp.length + 2))]) := Zm (getElem?_app e2)
 have a3 : ((h1 ++ [MO.dct [] 0]).set hp.length (.ns [(("_node2info" : Str), .obj (hp.length + 2))]))[hp.length + 2]? = some (.dct [] 0) := Zk (by lia) (by rw [<- len1]; simp)
 have a4 : ((h1 ++ [MO.dct [] 0]).set hp.length (.ns [(("_node2info" : Str), .obj (hp.length + 2))])).length = hp.length + 3 := by simp [len1]
 have a5 : ∀ i, i < hp.length -> ((h1 ++ [MO.dct [] 0]).set hp.length (.ns [(("_node2info" : Str), .obj (hp.length + 2))]))[i]? = hp[i]? := λ i hi => by
  rw [List.getElem?_set_ne (by lia), List.getElem?_append_left (by lia)]; exact old1 i hi
 generalize ((h1 ++ [MO.dct [] 0]).set hp.length (.ns [(("_node2info" : Str), .obj (hp.length + 2))])) = h2 at a1 a2 a3 a4 a5 ⊢
 refine Wp.I (Wp.Y (Wp.R (Wp.A7 (Wp.B rfl rfl (Wp.l a1 a2 (by simp) ?_)))))
 rw [put_2]
 have b1 := Zk (v := MO.ns [(("_node2info" : Str), .obj (hp.length + 2)), (("_ready_nodes" : Str), .none)]) (show hp.length ≠ hp.length + 1 by lia) a1
 have b2 := Zm (v := MO.ns [(("_node2info" : Str), .obj (hp.length + 2)), (("_ready_nodes" : Str), .none)]) a2
 refine Wp.I (Wp.Y (Wp.R (Wp.A7 (Wp.B rfl rfl (Wp.l b1 b2 (by simp) ?_)))))
 rw [put_3]
 have c1 := Zk (v := MO.ns [(("_node2info" : Str), .obj (hp.length + 2)), (("_ready_nodes" : Str), .none), (("_npassedout" : Str), .int 0)]) (show hp.length ≠ hp.length + 1 by lia) b1
 have c2 := Zm (v := MO.ns [(("_node2info" : Str), .obj (hp.length + 2)), (("_ready_nodes" : Str), .none), (("_npassedout" : Str), .int 0)]) b2
 refine Wp.I (Wp.Y (Wp.R (Wp.A7 (Wp.B rfl rfl (Wp.l c1 c2 (by simp) ?_)))))
 rw [put_4]
 refine Wp.I (Wp.A2 (Wp.Z (Wp.B rfl rfl (Wp.R (Wp.A5 (x := .none) rfl ?_)))))
 refine Wp.V (Wp.V ?_)
 try dsimp only
 refine Wp.R (h _ (hp.length + 1) { dn := hp.length, n2i := hp.length + 2, rn := 0, ep := 0, li := λ _ => 0, ls := λ _ => 0, dx := λ _ => 0 } ?_ ?_ ?_ ?_)
 ·refine ⟨?_, ?_, ?_, (λ xs e => nomatch e), (λ a ha => nomatch ha), (λ a ha => nomatch ha), (λ a ha => nomatch ha), (λ hr => absurd rfl hr), nodup_nil⟩
  ·exact Zk (by show hp.length ≠ hp.length + 1; lia) c1
  ·exact Zm c2
  ·show (List.set _ _ _)[hp.length + 2]? = some (MO.dct [] 0)
   exact Zk (by lia) (Zk (by lia) (Zk (by lia) a3))
 ·simp only [length_set]; lia
 ·intro i hi
  rw [List.getElem?_set_ne (by lia), List.getElem?_set_ne (by lia), List.getElem?_set_ne (by lia)]
  exact a5 i hi
 ·rintro i (rfl | rfl | rfl | ⟨hr, rfl⟩ | ⟨a, ha, _⟩)
  ·lia
  ·exact Qr
  ·show hp.length <= hp.length + 2; lia
  ·exact absurd rfl hr
  ·exact nomatch ha
end

section
variable {hp : List MO} {fr : List PV} {E : Value -> St -> Prop}
theorem Wp.G9 {i : Nat} {xs : List Int} {k : Int} {Q : Bool -> St -> Prop} (e : hp[i]? = some (.set xs)) (h : Q (decide (k ∈ xs)) ⟨fr, hp⟩) : Wp (pCmp .In (.int k) (.obj i)) ⟨fr, hp⟩ Q E := by
 refine Wp.J ?_ h
 show pIn (.int k) (.obj i) ⟨fr, hp⟩ = _
 unfold pIn
 try dsimp only
 rw [e]
theorem Wp.H2 {i : Nat} {es : List (Int × PV)} {ep : Nat} {k : Int} {Q : Bool -> St -> Prop} (e : hp[i]? = some (.dct es ep)) (h : Q (dHas es k) ⟨fr, hp⟩) : Wp (pCmp .In (.int k) (.obj i)) ⟨fr, hp⟩ Q E := by
 refine Wp.J ?_ h
 show pIn (.int k) (.obj i) ⟨fr, hp⟩ = _
 unfold pIn
 try dsimp only
 rw [e]
 rfl
theorem Wp.E8 {i : Nat} {xs : List Int} {Q : Nat × List Int -> St -> Prop} (e : hp[i]? = some (.set xs)) (h : Q (i, xs) ⟨fr, hp⟩) : Wp (Mine.theSet (.obj i)) ⟨fr, hp⟩ Q E := by
 refine Wp.J ?_ h
 unfold Mine.theSet
 try dsimp only
 rw [e]
theorem Wp.I0 {i : Nat} {xs : List Int} {k : Int} {Q : PV -> St -> Prop} (e : hp[i]? = some (.set xs)) (hl : xs.length + 1 < 4096) (hk : k ∉ xs) (h : Q .none ⟨fr, hp.set i (.set (xs ++ [k]))⟩) : Wp (pSetAdd (.obj i) [.int k]) ⟨fr, hp⟩ Q E := by
 refine Wp.C (Wp.E8 e (Wp.C (Wp.A6 (decide_eq_true hl) (Wp.C (Wp.C3 (Wp.R ?_))))))
 show Q .none ⟨fr, hp.set i (.set (addInt xs k))⟩
 unfold addInt
 rw [decide_eq_false hk]
 exact h
theorem Wp.G6 {fo : PM PV} {ga : PM (List PV)} {μ : St} {Q : PV -> St -> Prop} (h : Wp fo μ (λ x μ1 => Wp (Mine.theSet x) μ1 (λ _ μ2 => Wp ga μ2 (λ ys μ3 => Wp (pSetAdd x ys) μ3 Q E) E) E) E) : Wp (Mine.mSetAdd fo ga) μ Q E :=
 Wp.C (h.mono (λ _ _ h => Wp.C (h.mono (λ _ _ h => Wp.C h) λ _ _ e => e)) λ _ _ e => e)
theorem Wp.E3 {μ : St} {x : PV} {xs : List PV} {Q : List PV -> St -> Prop} (e : isLst μ.hp x = some xs) (h : Q xs μ) : Wp (Mine.aLst x) μ Q E := by
 refine Wp.J ?_ h
 unfold Mine.aLst
 rw [e]
theorem Wp.B6 {f : PM (List PV)} {μ : St} {Q : PV -> St -> Prop} (h : Wp f μ (λ xs μ' => xs.length <= 1000000 ∧ Q (.lst xs) μ') E) : Wp (Mine.eList false f) μ Q E :=
 Wp.C (h.mono (λ xs μ' h => Wp.C (Wp.A6 (decide_eq_true h.1) (Wp.R h.2))) λ _ _ e => e)
theorem Wp.B2 {f : PM (List PV)} {μ : St} {Q : PV -> St -> Prop} (h : Wp f μ (λ xs μ' => xs.length <= 1000000 ∧ Q (.obj μ'.hp.length) ⟨μ'.fr, μ'.hp ++ [.lst xs]⟩) E) : Wp (Mine.eList true f) μ Q E :=
 Wp.C (h.mono (λ xs μ' h => Wp.C (Wp.A6 (decide_eq_true h.1) (Wp.C (Wp.b (Wp.R h.2))))) λ _ _ e => e)
theorem Wp.E2 {f g : PM PV} {μ : St} {Q : PV -> St -> Prop} (h : Wp f μ (λ x μ1 => Wp g μ1 (λ y μ2 => ∃ xs ys, isLst μ2.hp x = some xs ∧ isLst μ2.hp y = some ys ∧ xs.length + ys.length <= 1000000 ∧ Q (.lst (xs ++ ys)) μ2) E) E) : Wp (Mine.eCat false f g) μ Q E :=
 Wp.C (h.mono (λ x μ1 h => Wp.C (h.mono (λ y μ2 hh => hh.elim λ xs hh => hh.elim λ ys q => Wp.C (Wp.E3 q.1 (Wp.C (Wp.E3 q.2.1 (Wp.C (Wp.A6 (decide_eq_true (by rw [length_append]; exact q.2.2.1)) (Wp.R q.2.2.2))))))) λ _ _ e => e)) λ _ _ e => e)
theorem Wp.E9 {f g : PM PV} {μ : St} {Q : PV -> St -> Prop} (h : Wp f μ (λ x μ1 => Wp g μ1 (λ y μ2 => ∃ xs, ∃ k : Nat, isLst μ2.hp x = some xs ∧ y = .int k ∧ k <= xs.length ∧ xs.length <= 1000000 ∧ Q (.lst (xs.drop k)) μ2) E) E) : Wp (Mine.eSlice false f g) μ Q E :=
 Wp.C (h.mono (λ x μ1 h => Wp.C (h.mono (λ y μ2 hh => by
  obtain ⟨xs, k, e1, e2, hk, hl, h⟩ := hh
  subst e2
  refine Wp.C (Wp.E3 e1 (Wp.C (Wp.A6 ?_ (Wp.C (Wp.A6 (decide_eq_true ?_) (Wp.R ?_))))))
  ·simp only [Bool.and_eq_true, decide_eq_true_eq]
   exact ⟨⟨by lia, by lia⟩, decide_eq_true hl⟩
  ·rw [length_drop]; lia
  ·simpa using h) λ _ _ e => e)) λ _ _ e => e)
theorem Wp.J8 {i : Nat} {xs : List PV} {Q : PV -> St -> Prop} (e : hp[i]? = some (.lst xs)) (h : Q (.obj hp.length) ⟨fr, hp ++ [.itr i 0]⟩) : Wp (Mine.pIter [.obj i]) ⟨fr, hp⟩ Q E :=
 Wp.C (Wp.X e (Wp.C (Wp.b (Wp.R h))))
theorem Wp.eNxt {f : PM PV} {μ : St} {Q : PV -> St -> Prop} (h : Wp f μ (λ x μ' => ∃ i l k, x = .obj i ∧ μ'.hp[i]? = some (.itr l k) ∧ Q (.nxt i) μ') E) : Wp (Mine.eNxt f) μ Q E :=
 Wp.C (h.mono (λ x μ' hh => by
  obtain ⟨i, l, k, e, e2, h⟩ := hh
  subst e
  refine Wp.J ?_ h
  try dsimp only
  rw [e2]) λ _ _ e => e)
theorem Wp.G7 {fo : PM PV} {μ : St} {Q : PV -> St -> Prop} (h : Wp fo μ (λ x μ1 => ∃ i xs y, x = .obj i ∧ μ1.hp[i]? = some (.lst (xs ++ [y])) ∧ xs.length < 1000000 ∧ Q y ⟨μ1.fr, μ1.hp.set i (.lst xs)⟩) E) : Wp (Mine.mPop fo) μ Q E :=
 Wp.C (h.mono (λ x μ1 hh => by
  obtain ⟨i, xs, y, e, e2, hl, h⟩ := hh
  subst e
  obtain ⟨fr, hp⟩ := μ1
  refine Wp.C (Wp.X e2 (Wp.C (Wp.X e2 (Wp.C (Wp.A6 (decide_eq_true (by simp; lia)) ?_)))))
  try dsimp only
  rw [List.getLast?_concat]
  refine Wp.C (Wp.C3 (Wp.R ?_))
  rw [List.dropLast_concat]
  exact h) λ _ _ e => e)
theorem Wp.del {g k : PM PV} {μ : St} {Q : MF -> St -> Prop} (h : Wp g μ (λ x μ1 => Wp k μ1 (λ y μ2 => ∃ i es ep z, x = .obj i ∧ y = .int z ∧ μ2.hp[i]? = some (.dct es ep) ∧ es.length <= 1000000 ∧ dHas es z = true ∧ Q .next ⟨μ2.fr, μ2.hp.set i (.dct (dDel es z) (ep + 1))⟩) E) E) : Wp (sDel g k) μ Q E :=
 Wp.C (h.mono (λ x μ1 h => Wp.C (h.mono (λ y μ2 hh => by
  obtain ⟨i, es, ep, z, e1, e2, e3, hl, hz, h'⟩ := hh
  subst e1 e2
  refine Wp.C (Wp.J (a := ()) (μ' := ⟨μ2.fr, μ2.hp.set i (.dct (dDel es z) (ep + 1))⟩) ?_ (Wp.R h'))
  unfold pDelItem
  try dsimp only
  rw [e3]
  try dsimp only
  rw [show lenOk es = true from decide_eq_true hl, hz]) λ _ _ e => e)) λ _ _ e => e)
theorem Wp.F5 {i l k : Nat} {xs : List PV} {y : PV} {Q : PV -> St -> Prop} (e : hp[i]? = some (.itr l k)) (el : hp[l]? = some (.lst xs)) (hy : xs[k]? = some y) (h : Q y ⟨fr, hp.set i (.itr l (k + 1))⟩) : Wp (pNext (.nxt i) []) ⟨fr, hp⟩ Q E := by
 refine Wp.J ?_ h
 unfold pNext
 try dsimp only
 rw [e]; try dsimp only
 rw [el]; try dsimp only
 rw [hy]
theorem Wp.F6 {i l k : Nat} {xs : List PV} {Q : PV -> St -> Prop} (e : hp[i]? = some (.itr l k)) (el : hp[l]? = some (.lst xs)) (hy : xs[k]? = none) (h : E (.type "StopIteration") ⟨fr, hp.set i .dead⟩) : Wp (pNext (.nxt i) []) ⟨fr, hp⟩ Q E := by
 refine .mk ?_
 unfold Wp0 pNext
 try dsimp only
 rw [e]; try dsimp only
 rw [el]; try dsimp only
 rw [hy]
 exact h
theorem Wp.D0 {f : PM PV} {μ : St} {Q : PV -> St -> Prop} (h : Wp f μ (λ x μ' => Wp (pNext x []) μ' Q E) E) : Wp (Mine.eNextCall f) μ Q E := Wp.C h
theorem Wp.G1 {f g : PM MF} {m : Value -> Option Bool} {μ : St} {Q : MF -> St -> Prop} (h : Wp f μ Q (λ x μ' => m x = some true ∧ Wp g μ' Q (λ _ _ => False))) : Wp (tryM f [(m, g)]) μ Q E := by
 refine .mk ?_
 have h := h.get
 unfold Wp0 at h ⊢
 unfold tryM
 cases e : f μ with
 | ok a μ' => rw [e] at h; exact h
 | bad => rw [e] at h; exact h
 | exc x μ' =>
  rw [e] at h
  try dsimp only at h ⊢
  obtain ⟨h1, h2⟩ := h
  have h2 := h2.get
  unfold Wp0 at h2
  rw [Zg7, h1]
  try dsimp only
  unfold noExc
  dsimp only
  cases e2 : g μ' with
  | ok a μ'' => rw [e2] at h2; exact h2
  | exc x' μ'' => rw [e2] at h2; exact h2.elim
  | bad => rw [e2] at h2; exact h2.elim
theorem Wp.E7 {i : Nat} {xs : List PV} {Q : Bool -> St -> Prop} (e : hp[i]? = some (.lst xs)) (hl : xs.length <= 1000000) (h : Q (!xs.isEmpty) ⟨fr, hp⟩) : Wp (pTruth (.obj i)) ⟨fr, hp⟩ Q E := by
 refine Wp.J ?_ h
 unfold pTruth
 try dsimp only
 rw [e]; try dsimp only
 rw [decide_eq_true hl]
theorem Wp.H3 {i : Nat} {xs : List PV} {y : PV} {Q : PV -> St -> Prop} (e : hp[i]? = some (.lst (xs ++ [y]))) (hl : xs.length < 1000000) (h : Q y ⟨fr, hp⟩) : Wp (pGet (.obj i) (.int (-1))) ⟨fr, hp⟩ Q E := by
 refine Wp.J ?_ h
 unfold pGet
 try dsimp only
 rw [e]; try dsimp only
 have : pIdx (xs ++ [y]).length (-1) = some xs.length := by
  unfold pIdx
  rw [if_neg (by lia), if_pos (by simp; lia)]
  congr 1
  simp only [length_append, length_singleton]
  lia
 rw [this]
 simp
end

inductive FS where
 | proc (x : Int) (st : List (Int × List Int)) (seen : List Int)
 | back (st : List (Int × List Int)) (seen : List Int)
inductive FRes where
 | ring (r : List Int)
 | out (seen : List Int)
noncomputable def ringOf (x : Int) (st : List (Int × List Int)) : List Int := (st.map (·.1)).reverse.drop ((st.map (·.1)).reverse.idxOf x) ++ [x]
noncomputable def runF (sc : Int -> List Int) : Nat -> FS -> Option FRes
 | 0, _ => none
 | n + 1, .proc x st seen => match decide (x ∈ seen), decide (x ∈ st.map (·.1)) with
  | true, true => some (.ring (ringOf x st))
  | true, false => runF sc n (.back st seen)
  | false, _ => runF sc n (.back ((x, sc x) :: st) (seen ++ [x]))
 | n + 1, .back [] seen => some (.out seen)
 | n + 1, .back ((x, []) :: st) seen => runF sc n (.back st seen)
 | n + 1, .back ((x, y :: ys) :: st) seen => runF sc n (.proc y ((x, ys) :: st) seen)
theorem Zjw {sc : Int -> List Int} {n : Nat} {x : Int} {st : List (Int × List Int)} {seen : List Int} : runF sc (n + 1) (.proc x st seen) = (match decide (x ∈ seen), decide (x ∈ st.map (·.1)) with | true, true => some (.ring (ringOf x st)) | true, false => runF sc n (.back st seen) | false, _ => runF sc n (.back ((x, sc x) :: st) (seen ++ [x]))) := rfl
noncomputable def findF (sc : Int -> List Int) (n : Nat) : List Int -> List Int -> Option (Option (List Int))
 | [], _ => some none
 | x :: xs, seen => match decide (x ∈ seen) with
  | true => findF sc n xs seen
  | false => match runF sc n (.proc x [] seen) with
   | some (.ring r) => some (some r)
   | some (.out seen') => findF sc n xs seen'
   | none => none
theorem Zgy {sc : Int -> List Int} {n : Nat} {x : Int} {xs seen : List Int} : findF sc n (x :: xs) seen = (match decide (x ∈ seen) with | true => findF sc n xs seen | false => match runF sc n (.proc x [] seen) with | some (.ring r) => some (some r) | some (.out seen') => findF sc n xs seen' | none => none) := rfl
set_option genInjectivity false in
structure En where
 x : Int
 r : List Int
 i : Nat
noncomputable def pureS (st : List En) : List (Int × List Int) := st.map λ e => (e.x, e.r)
noncomputable def nmS (st : List En) : List Int := (st.map (·.x)).reverse
theorem Zjx (st : List En) : (pureS st).map (·.1) = st.map (·.x) := by unfold pureS; rw [map_map]; rfl
noncomputable def enumF (xs : List Int) : List (Int × PV) := xs.zipIdx.map λ p => (p.1, PV.int p.2)
theorem Zjy (xs : List Int) (x : Int) : enumF (xs ++ [x]) = enumF xs ++ [(x, .int xs.length)] := by unfold enumF; simp [List.zipIdx_append]
theorem Zjz (xs : List Int) : (enumF xs).length = xs.length := by unfold enumF; simp
theorem Zfw (xs : List Int) (x : Int) : dHas (enumF xs) x = decide (x ∈ xs) := by
 unfold dHas enumF
 rw [Bool.eq_iff_iff, any_eq_true]
 simp only [decide_eq_true_eq, beq_iff_eq, mem_map]
 constructor
 ·rintro ⟨e, ⟨p, hp, rfl⟩, rfl⟩
  exact (List.mem_zipIdx' hp).2 ▸ getElem_mem _
 ·intro h
  obtain ⟨k, hk⟩ := List.getElem?_of_mem h
  exact ⟨_, ⟨(x, k), List.mem_zipIdx_iff_getElem?.mpr hk, rfl⟩, rfl⟩
theorem Zfi (x : Int) : ∀ (xs : List Int) (n : Nat), x ∈ xs -> dGet ((xs.zipIdx n).map λ p => (p.1, PV.int p.2)) x = some (.int ((xs.idxOf x + n : Nat) : Int))
 | y :: ys, n, h => by
  unfold dGet
  rw [List.zipIdx_cons, map_cons, List.find?_cons]
  try dsimp only
  cases e : y == x with
  | true =>
   rw [eq_of_beq e, List.idxOf_cons_self]
   simp
  | false =>
   have hne : y ≠ x := λ q => by rw [q] at e; simp at e
   rcases Qmc h with h | h
   ·exact absurd h.symm hne
   ·have := Zfi x ys (n + 1) h
    unfold dGet at this
    try dsimp only
    rw [this, List.idxOf_cons, e]
    show some (PV.int ((ys.idxOf x + (n + 1) : Nat) : Int)) = some (PV.int ((ys.idxOf x + 1 + n : Nat) : Int))
    congr 3
    lia
theorem Zpu {xs : List Int} {x : Int} (h : x ∈ xs) : dGet (enumF xs) x = some (.int (xs.idxOf x : Nat)) := Zfi x xs 0 h
theorem Zpv {xs : List Int} {x : Int} (h : x ∉ xs) : dDel (enumF (xs ++ [x])) x = enumF xs := by
 rw [Zjy]
 unfold dDel
 rw [filter_append, filter_eq_self.mpr]
 ·simp
 ·intro e he
  unfold enumF at he
  obtain ⟨p, hp, rfl⟩ := Qmm he
  have : p.1 ∈ xs := (List.mem_zipIdx' hp).2 ▸ getElem_mem _
  simp
  intro q; exact h (q ▸ this)
structure FAt (o : Nat) (T : TSt) (ly : Lay) (hp0 hp : List MO) (sk it se nd : Nat) (st : List En) (seen : List Int) : Prop where
 len : hp0.length <= hp.length
 old : ∀ i, i < hp0.length -> hp[i]? = hp0[i]?
 ge : hp0.length <= sk ∧ hp0.length <= it ∧ hp0.length <= se ∧ hp0.length <= nd
 ne : sk ≠ it
 stk : hp[sk]? = some (.lst ((nmS st).map .int))
 itk : hp[it]? = some (.lst (((st.map (·.i)).reverse).map .nxt))
 set : hp[se]? = some (.set seen)
 dct : ∃ ep, hp[nd]? = some (.dct (enumF (nmS st)) ep)
 iter : ∀ e ∈ st, hp0.length <= e.i ∧ ∃ pos, hp[e.i]? = some (.itr (ly.ls e.x) pos) ∧ (T.sc e.x).drop pos = e.r
 inod : (st.map (·.i)).Nodup
 xnod : (st.map (·.x)).Nodup
 xin : ∀ e ∈ st, e.x ∈ seen
 snod : seen.Nodup
 sin : ∀ a ∈ seen, a ∈ T.order
theorem Zq {α : Type} [DecidableEq α] {xs ys : List α} (h : xs.Nodup) (hs : ∀ a ∈ xs, a ∈ ys) : xs.length <= ys.length := by
 induction xs generalizing ys with
 | nil => simp
 | cons x xs ih =>
  rw [nodup_cons] at h
  have hx := hs x mem_cons_self
  have := ih (ys := ys.erase x) h.2 λ a ha => by
   rw [List.mem_erase_of_ne (λ e : a = x => h.1 (e ▸ ha))]
   exact hs a (mem_cons_of_mem _ ha)
  rw [List.length_erase_of_mem hx] at this
  have : 0 < ys.length := List.length_pos_of_mem hx
  simp; lia
section
variable {hp hp0 : List MO} {o : Nat} {T : TSt} {ly : Lay} {fr : List PV} {E : Value -> St -> Prop} {sk it se nd : Nat} {st : List En} {seen : List Int}
theorem FAt.sat (F : FAt o T ly hp0 hp sk it se nd st seen) (S : SAt d hp0 o T ly) : SAt d hp o T ly := S.keep λ i hi => F.old i (S.lt hi)
theorem FAt.seenLen (F : FAt o T ly hp0 hp sk it se nd st seen) : seen.length <= T.order.length := Zq F.snod F.sin
theorem FAt.stLen (F : FAt o T ly hp0 hp sk it se nd st seen) : st.length <= T.order.length := by
 have := Zq (ys := seen) F.xnod (λ a ha => by obtain ⟨e, he, rfl⟩ := Qmm ha; exact F.xin e he)
 rw [length_map] at this
 exact Nat.le_trans this F.seenLen
theorem FAt.nmLen (F : FAt o T ly hp0 hp sk it se nd st seen) : (nmS st).length = st.length := by unfold nmS; simp
noncomputable abbrev frF (o : Nat) (ly : Lay) (sk it se nd : Nat) (v : PV) : List PV := [.obj o, .obj ly.n2i, .obj sk, .obj it, .obj se, .obj nd, v]
theorem Zro (S : SAt d hp0 o T ly) (hsub : ∀ a ∈ T.order, ∀ s ∈ T.sc a, s ∈ T.order) (hol : T.order.length <= 1000) {res : FRes} {Q : MF -> St -> Prop} {N : Nat}
  (hproc : ∀ hp' st' y n', n' < N -> FAt o T ly hp0 hp' sk it se nd st' seen -> y ∈ T.order -> runF T.sc n' (.proc y (pureS st') seen) = some res -> Q .next ⟨frF o ly sk it se nd (.int y), hp'⟩)
  (hout : ∀ hp' v, FAt o T ly hp0 hp' sk it se nd [] seen -> res = .out seen -> Q .brk ⟨frF o ly sk it se nd v, hp'⟩) :
  ∀ (n : Nat) (hp : List MO) (st : List En) (v : PV) (m : Nat), n <= N -> FAt o T ly hp0 hp sk it se nd st seen -> runF T.sc n (.back (pureS st) seen) = some res -> st.length < m ->
   Wp (whileM (bVal (Mine.getVar 2)) (Zch d) (sSeq (Pure.pure .brk) sNext) m) ⟨frF o ly sk it se nd v, hp⟩ Q E := by
 intro n
 induction n with
 | zero => intro hp st v m _ F hrun _; cases hrun
 | succ n ih =>
  intro hp st v m hN F hrun hm
  cases m with
  | zero => lia
  | succ m =>
  rw [Zda]
  refine Wp.C (Wp.D5 (Wp.B (v := .obj sk) rfl rfl (Wp.E7 F.stk (by rw [length_map, F.nmLen]; have := F.stLen; lia) ?_)))
  cases st with
  | nil =>
   show Wp (sSeq (Pure.pure .brk) sNext) _ Q E
   cases hrun
   exact Wp.I (Wp.R (hout hp v F rfl))
  | cons e st =>
   have hne : (!(List.map PV.int (nmS (e :: st))).isEmpty) = true := by unfold nmS; simp
   rw [hne]
   show Wp (Zch d >>= flowM _) _ Q E
   obtain ⟨x, r, i⟩ := e
   have enm : nmS (⟨x, r, i⟩ :: st) = nmS st ++ [x] := by unfold nmS; simp
   have eit : ((⟨x, r, i⟩ :: st : List En).map (·.i)).reverse.map PV.nxt = ((st.map (·.i)).reverse.map PV.nxt) ++ [PV.nxt i] := by simp
   obtain ⟨hige, pos, hi, hr⟩ := F.iter ⟨x, r, i⟩ mem_cons_self
   have hxo : x ∈ T.order := F.sin x (F.xin ⟨x, r, i⟩ mem_cons_self)
   have S' := F.sat S
   have hsuc := S'.suc x hxo
   have hstl := F.stLen
   rw [length_cons] at hstl hm
   have hitk := F.itk
   rw [eit] at hitk
   have hstk := F.stk
   rw [enm, map_append] at hstk
   obtain ⟨ep, hdct⟩ := F.dct
   have hnil : (st.map (·.i)).length = st.length := by simp
   have hlast : Wp (Mine.eSub (Mine.getVar 3) (Mine.eNeg (Pure.pure (PV.int 1)))) ⟨frF o ly sk it se nd v, hp⟩ (λ y μ' => y = .nxt i ∧ μ' = ⟨frF o ly sk it se nd v, hp⟩) (λ _ _ => False) :=
    Wp.A3 (Wp.B (v := .obj it) rfl rfl (Wp.F1 (Wp.R ⟨1, rfl, Wp.H3 hitk (by simp; lia) ⟨rfl, rfl⟩⟩)))
   obtain ⟨y0, μ0, eA, rfl, rfl⟩ := hlast.run
   have xnod := F.xnod
   have inod := F.inod
   rw [map_cons, nodup_cons] at xnod inod
   refine Wp.C ?_
   unfold Zch
   cases r with
   | cons y ys =>
    have hy : ((T.sc x).map PV.int)[pos]? = some (.int y) := by
     have hr : (T.sc x).drop pos = y :: ys := hr
     have : ((T.sc x).drop pos)[0]? = some y := by rw [hr]; rfl
     rw [List.getElem?_drop] at this
     rw [List.getElem?_map]
     simpa using this
    refine Wp.I (Wp.G1 (Wp.I (Wp.Y (Wp.D0 (Wp.J eA (Wp.F5 hi hsuc hy (Wp.H ?_)))))))
    refine Wp.I (Wp.R ?_)
    show Wp (flowM _ .brk) _ Q E
    have hyo : y ∈ T.order := hsub x hxo y (by
     have hr : (T.sc x).drop pos = y :: ys := hr
     exact List.mem_of_mem_drop (hr ▸ mem_cons_self))
    refine Wp.R (hproc _ (⟨x, ys, i⟩ :: st) y n (by lia) ?_ hyo hrun)
    refine ⟨by rw [length_set]; exact F.len, λ j hj => by rw [List.getElem?_set_ne (show i ≠ j by have : hp0.length <= i := hige; lia)]; exact F.old j hj, F.ge, F.ne, ?_, ?_, Ze hi F.set (mn rfl), ⟨ep, ?_⟩, λ e he => ?_, F.inod, F.xnod, λ e he => ?_, F.snod, F.sin⟩
    ·exact Ze hi F.stk (mn rfl)
    ·exact Ze hi F.itk (mn rfl)
    ·exact Ze hi hdct (mn rfl)
    ·rcases Qmc he with rfl | he
     ·refine ⟨hige, pos + 1, Zm hi, ?_⟩
      have hr : (T.sc x).drop pos = y :: ys := hr
      show (T.sc x).drop (pos + 1) = ys
      rw [<- List.drop_drop, hr]; rfl
     ·obtain ⟨q1, p', q2, q3⟩ := F.iter e (mem_cons_of_mem _ he)
      refine ⟨q1, p', Zk (λ q => inod.1 ?_) q2, q3⟩
      rw [show i = e.i from q]
      exact mem_map_of_mem (f := (·.i)) he
    ·rcases Qmc he with rfl | he
     ·exact F.xin ⟨x, y :: ys, i⟩ mem_cons_self
     ·exact F.xin e (mem_cons_of_mem _ he)
   | nil =>
    have hy : ((T.sc x).map PV.int)[pos]? = none := by
     have hr : (T.sc x).drop pos = [] := hr
     rw [List.drop_eq_nil_iff] at hr
     rw [List.getElem?_eq_none_iff, length_map]; exact hr
    refine Wp.I (Wp.G1 (Wp.I (Wp.Y (Wp.D0 (Wp.J eA (Wp.F6 hi hsuc hy ?_))))))
    refine ⟨by unfold isStopIteration; simp, ?_⟩
    have k1 := Ze (v := MO.dead) hi hstk (mn rfl)
    have k2 := Ze (v := MO.dead) hi hdct (mn rfl)
    have k3 := Ze (v := MO.dead) hi hitk (mn rfl)
    refine Wp.I (Wp.del (Wp.B (v := .obj nd) rfl rfl (Wp.G7 (Wp.B (v := .obj sk) rfl rfl ⟨sk, (nmS st).map .int, .int x, rfl, k1, by rw [length_map]; unfold nmS; simp; lia, ?_⟩))))
    have k4 := Ze (v := MO.lst ((nmS st).map .int)) k1 k2 (mn rfl)
    have hxn : x ∉ nmS st := λ q => xnod.1 (by unfold nmS at q; simpa using q)
    refine ⟨nd, _, ep, x, rfl, rfl, k4, by rw [Zjz, F.nmLen, length_cons]; lia, ?_, ?_⟩
    ·rw [Zfw, enm]; exact decide_eq_true (by simp)
    rw [show dDel (enumF (nmS (⟨x, [], i⟩ :: st))) x = enumF (nmS st) from by rw [enm]; exact Zpv hxn]
    have k5 := Zk (v := MO.lst ((nmS st).map .int)) F.ne k3
    have k6 := Ze (v := MO.dct (enumF (nmS st)) (ep + 1)) k4 k5 (mn rfl)
    refine Wp.I (Wp.i (Wp.G7 (Wp.B (v := .obj it) rfl rfl ⟨it, _, .nxt i, rfl, k6, by simp; lia, ?_⟩)))
    refine Wp.V (Wp.V ?_)
    show Wp (flowM _ .next) _ Q E
    refine ih _ st v m (by lia) ?_ hrun (by lia)
    have old : ∀ j, j < hp0.length -> ((((hp.set i MO.dead).set sk (MO.lst ((nmS st).map .int))).set nd (MO.dct (enumF (nmS st)) (ep + 1))).set it (MO.lst ((st.map (·.i)).reverse.map .nxt)))[j]? = hp0[j]? := λ j hj => by
     have g := F.ge
     have hige : hp0.length <= i := hige
     rw [List.getElem?_set_ne (by lia), List.getElem?_set_ne (by lia), List.getElem?_set_ne (by lia), List.getElem?_set_ne (by lia)]
     exact F.old j hj
    refine ⟨by simp only [length_set]; exact F.len, old, F.ge, F.ne, ?_, ?_, ?_, ⟨ep + 1, ?_⟩, λ e he => ?_, inod.2, xnod.2, λ e he => F.xin e (mem_cons_of_mem _ he), F.snod, F.sin⟩
    ·exact Zk (Ne.symm F.ne) (Ze k4 (Zm k1) (mn rfl))
    ·exact Zm k6
    ·exact Ze k6 (Ze k4 (Ze k1 (Ze hi F.set (mn rfl)) (mn rfl)) (mn rfl)) (mn rfl)
    ·exact Ze k6 (Zm k4) (mn rfl)
    ·obtain ⟨q1, p', q2, q3⟩ := F.iter e (mem_cons_of_mem _ he)
     refine ⟨q1, p', ?_, q3⟩
     have hie : i ≠ e.i := λ q => inod.1 (by rw [show i = e.i from q]; exact mem_map_of_mem (f := (·.i)) he)
     exact Ze k6 (Ze k4 (Ze k1 (Zk hie q2) (mn rfl)) (mn rfl)) (mn rfl)
end

section
variable {hp hp0 : List MO} {o : Nat} {T : TSt} {ly : Lay} {fr : List PV} {E : Value -> St -> Prop} {sk it se nd : Nat} {st : List En} {seen : List Int}
theorem Zpw (S : SAt d hp0 o T ly) (hsub : ∀ a ∈ T.order, ∀ s ∈ T.sc a, s ∈ T.order) (hol : T.order.length <= 1000) {res : FRes} {Q : MF -> St -> Prop}
  (hring : ∀ hp' v r, res = .ring r -> hp0.length <= hp'.length -> (∀ i, i < hp0.length -> hp'[i]? = hp0[i]?) -> Q (.ret (.lst (r.map .int))) ⟨frF o ly sk it se nd v, hp'⟩)
  (hout : ∀ hp' v seen', FAt o T ly hp0 hp' sk it se nd [] seen' -> res = .out seen' -> Q .next ⟨frF o ly sk it se nd v, hp'⟩) :
  ∀ (n m : Nat) (hp : List MO) (st : List En) (seen : List Int) (x : Int), n < m -> FAt o T ly hp0 hp sk it se nd st seen -> x ∈ T.order -> runF T.sc n (.proc x (pureS st) seen) = some res ->
   Wp (whileM (bVal (Pure.pure (PV.bool true))) (Zci d) sNext m) ⟨frF o ly sk it se nd (.int x), hp⟩ Q E := by
 intro n
 induction n using Nat.strongRecOn with
 | ind n ih =>
  intro m hp st seen x hm F hx hrun
  cases n with
  | zero => cases hrun
  | succ n =>
  cases m with
  | zero => lia
  | succ m =>
  rw [Zda]
  refine Wp.C (Wp.D5 (Wp.R (Wp.J rfl ?_)))
  show Wp (Zci d >>= flowM _) _ Q E
  refine Wp.C ?_
  unfold Zci
  have S' := F.sat S
  have hstl := F.stLen
  have hsl := F.seenLen
  obtain ⟨ep, hdct⟩ := F.dct
  have after : ∀ (hp' : List MO) (st' : List En) (seen' : List Int), FAt o T ly hp0 hp' sk it se nd st' seen' -> runF T.sc n (.back (pureS st') seen') = some res ->
    Wp (sSeq (whileM (bVal (Mine.getVar 2)) (Zch d) (sSeq (Pure.pure .brk) sNext) fuel) sNext) ⟨frF o ly sk it se nd (.int x), hp'⟩ (λ b μ' => Wp (flowM (whileM (bVal (Pure.pure (PV.bool true))) (Zci d) sNext m) b) μ' Q E) E := λ hp' st' seen' F' hrun' => by
   refine Wp.I (Zro S hsub hol (res := res) (N := n) (λ hp'' st'' y n' hn' F'' hy hr => ?_) (λ hp'' v F'' e => ?_) n hp' st' _ fuel Qr F' hrun' (by have := F'.stLen; unfold fuel; lia))
   ·exact Wp.V (ih n' (by lia) m hp'' st'' _ y (by lia) F'' hy hr)
   ·exact Wp.R (hout hp'' v _ F'' e)
  refine Wp.I (Wp.A2 (Wp.Z (Wp.B (v := .int x) rfl rfl (Wp.B (v := .obj se) rfl rfl (Wp.G9 F.set ?_)))))
  rw [Zjw] at hrun
  cases hs : decide (x ∈ seen) with
  | true =>
   rw [hs] at hrun
   refine Wp.I (Wp.A2 (Wp.Z (Wp.B (v := .int x) rfl rfl (Wp.B (v := .obj nd) rfl rfl (Wp.H2 hdct ?_)))))
   rw [Zfw]
   have e1 : decide (x ∈ nmS st) = decide (x ∈ (pureS st).map (·.1)) := by rw [Zjx]; unfold nmS; simp
   rw [e1]
   cases hk : decide (x ∈ (pureS st).map (·.1)) with
   | true =>
    rw [hk] at hrun
    have hkn : x ∈ nmS st := of_decide_eq_true (e1.trans hk)
    cases hrun
    refine Wp.I (Wp.D1 (Wp.E2 (Wp.E9 (Wp.B (v := .obj sk) rfl rfl (Wp.A3 (Wp.B (v := .obj nd) rfl rfl (Wp.B (v := .int x) rfl rfl (Wp.D4 hdct (Zpu hkn) ⟨(nmS st).map .int, (nmS st).idxOf x, Zl F.stk, rfl, ?_, ?_, ?_⟩))))))))
    ·rw [length_map]; exact Nat.le_of_lt (idxOf_lt_length_iff.mpr hkn)
    ·rw [length_map, F.nmLen]; lia
    refine Wp.B6 (Wp.W (Wp.B (v := .int x) rfl rfl ⟨by simp, _, _, rfl, rfl, ?_, ?_⟩))
    ·rw [length_drop, length_map, F.nmLen]; simp; lia
    show Wp (flowM _ (.ret _)) _ Q E
    refine Wp.R ?_
    have e2 : ((nmS st).map PV.int).drop ((nmS st).idxOf x) ++ [PV.int x] = (ringOf x (pureS st)).map PV.int := by
     unfold ringOf
     rw [Zjx]
     show _ = ((nmS st).drop ((nmS st).idxOf x) ++ [x]).map PV.int
     rw [map_append, List.map_drop]; rfl
    rw [e2]
    exact hring hp _ _ rfl F.len F.old
   | false =>
    rw [hk] at hrun
    exact Wp.V (Wp.V (after hp st seen F hrun))
  | false =>
   rw [hs] at hrun
   have hxs : x ∉ seen := of_decide_eq_false hs
   have hxn : x ∉ nmS st := λ h => by
    unfold nmS at h
    rw [mem_reverse] at h
    obtain ⟨e, he, q⟩ := Qmm h
    exact hxs (q ▸ F.xin e he)
   have hsx : seen.length + 1 <= T.order.length := by
    have := Zq (xs := seen ++ [x]) (ys := T.order) (nodup_append.mpr ⟨F.snod, by simp, λ a ha b hb e => hxs (by rw [mem_singleton] at hb; rw [<- hb, <- e]; exact ha)⟩) (λ a ha => by
     rcases Qma ha with ha | ha
     ·exact F.sin a ha
     ·rw [mem_singleton] at ha; rw [ha]; exact hx)
    simpa using this
   refine Wp.I (Wp.i (Wp.G6 (Wp.B (v := .obj se) rfl rfl (Wp.E8 F.set (Wp.W (Wp.B (v := .int x) rfl rfl (Wp.I0 F.set (by lia) hxs ?_)))))))
   have g := F.ge
   have S1 : SAt d (hp.set se (.set (seen ++ [x]))) o T ly := S.keep λ i hi => by
    have := S.lt hi
    rw [List.getElem?_set_ne (by lia)]; exact F.old i this
   have j1 := Ze (v := MO.set (seen ++ [x])) F.set F.itk (mn rfl)
   have hln : (hp.set se (MO.set (seen ++ [x]))).length = hp.length := by simp
   refine Wp.I (Wp.i (Wp.f (Wp.B (v := .obj it) rfl rfl (Wp.X j1 (Wp.eNxt ?_)))))
   refine Wp.C (Wp.W (Wp.B7 (Wp.A3 (Wp.B (v := .obj ly.n2i) rfl rfl (Wp.B (v := .int x) rfl rfl (Wp.D4 S1.dct (Zbn hx) (Wp.B1 (S1.inf x hx) rfl rfl ?_)))))))
   refine Wp.J8 (S1.suc x hx) ⟨hp.length, ly.ls x, 0, by rw [hln], by rw [<- hln]; exact Zdf, ?_⟩
   have j2 := getElem?_app (r := [MO.itr (ly.ls x) 0]) j1
   refine Wp.A1 j2 (by simp; lia) ?_
   have k0 : ((hp.set se (MO.set (seen ++ [x]))) ++ [MO.itr (ly.ls x) 0])[hp.length]? = some (MO.itr (ly.ls x) 0) := by rw [<- hln]; exact Zdf
   have k1 := getElem?_app (r := [MO.itr (ly.ls x) 0]) (Ze (v := MO.set (seen ++ [x])) F.set F.stk (mn rfl))
   have k2 := getElem?_app (r := [MO.itr (ly.ls x) 0]) (Ze (v := MO.set (seen ++ [x])) F.set hdct (mn rfl))
   have k3 := getElem?_app (r := [MO.itr (ly.ls x) 0]) (Zm (v := MO.set (seen ++ [x])) F.set)
   have k4 : ∀ e ∈ st, ∃ pos, ((hp.set se (MO.set (seen ++ [x]))) ++ [MO.itr (ly.ls x) 0])[e.i]? = some (.itr (ly.ls e.x) pos) ∧ (T.sc e.x).drop pos = e.r := λ e he => by
    obtain ⟨_, pos, q1, q2⟩ := F.iter e he
    exact ⟨pos, getElem?_app (Ze F.set q1 (mn rfl)), q2⟩
   have k5 : ∀ j, j < hp0.length -> ((hp.set se (MO.set (seen ++ [x]))) ++ [MO.itr (ly.ls x) 0])[j]? = hp0[j]? := λ j hj => by
    have := F.len
    rw [List.getElem?_append_left (by rw [hln]; lia), List.getElem?_set_ne (by lia)]; exact F.old j hj
   have k6 : ((hp.set se (MO.set (seen ++ [x]))) ++ [MO.itr (ly.ls x) 0]).length = hp.length + 1 := by simp
   have k7 : ∀ e ∈ st, e.i < hp.length := λ e he => by
    obtain ⟨_, pos, q1, _⟩ := F.iter e he
    exact (Qgl q1)
   have hlen := F.len
   have k8 : it < hp.length := (Qgl F.itk)
   generalize ((hp.set se (MO.set (seen ++ [x]))) ++ [MO.itr (ly.ls x) 0]) = h₁ at j2 k0 k1 k2 k3 k4 k5 k6 ⊢
   have m1 := Zk (v := MO.lst ((st.map (·.i)).reverse.map PV.nxt ++ [PV.nxt hp.length])) (Ne.symm F.ne) k1
   have m2 := Ze (v := MO.lst ((st.map (·.i)).reverse.map PV.nxt ++ [PV.nxt hp.length])) j2 k2 (mn rfl)
   refine Wp.I (Wp.Y (Wp.C (Wp.W (Wp.B (v := .obj sk) rfl rfl (Wp.B4 (.inl (Zl m1)) (by rw [length_map, F.nmLen]; lia) ?_)))))
   rw [length_map]
   refine Wp.G2 (Wp.B (v := .obj nd) rfl rfl (Wp.B (v := .int x) rfl rfl (Wp.I8 m2 (by rw [Zjz, F.nmLen]; lia) (by rw [Zfw]; exact decide_eq_false hxn) ?_)))
   rw [<- Zjy]
   have n1 := Ze (v := MO.dct (enumF (nmS st ++ [x])) (ep + 1)) m2 m1 (mn rfl)
   refine Wp.I (Wp.i (Wp.f (Wp.B (v := .obj sk) rfl rfl (Wp.X n1 (Wp.B (v := .int x) rfl rfl (Wp.A1 n1 (by rw [length_map, F.nmLen]; lia) ?_))))))
   refine Wp.V ?_
   have enm : nmS (⟨x, T.sc x, hp.length⟩ :: st) = nmS st ++ [x] := by unfold nmS; simp
   have i1 := Zm (v := MO.lst ((st.map (·.i)).reverse.map PV.nxt ++ [PV.nxt hp.length])) j2
   have i2 := Ze (v := MO.dct (enumF (nmS st ++ [x])) (ep + 1)) m2 i1 (mn rfl)
   have d1 := Zm (v := MO.dct (enumF (nmS st ++ [x])) (ep + 1)) m2
   refine after _ (⟨x, T.sc x, hp.length⟩ :: st) (seen ++ [x]) ?_ hrun
   refine ⟨by simp only [length_set]; lia, λ j hj => ?_, F.ge, F.ne, ?_, ?_, ?_, ⟨ep + 1, ?_⟩, λ e he => ?_, ?_, ?_, λ e he => ?_, ?_, λ a ha => ?_⟩
   ·rw [List.getElem?_set_ne (by lia), List.getElem?_set_ne (by lia), List.getElem?_set_ne (by lia)]; exact k5 j hj
   ·rw [enm, map_append]; exact Zm n1
   ·refine (Zk F.ne i2).trans ?_
    simp
   ·exact Ze n1 (Ze m2 (Ze j2 k3 (mn rfl)) (mn rfl)) (mn rfl)
   ·rw [enm]; exact Ze n1 d1 (mn rfl)
   ·rcases Qmc he with rfl | he
    ·exact ⟨hlen, 0, Ze n1 (Ze m2 (Ze j2 k0 (mn rfl)) (mn rfl)) (mn rfl), rfl⟩
    ·obtain ⟨pos, q1, q2⟩ := k4 e he
     exact ⟨(F.iter e he).1, pos, Ze n1 (Ze m2 (Ze j2 q1 (mn rfl)) (mn rfl)) (mn rfl), q2⟩
   ·rw [map_cons, nodup_cons]
    refine ⟨λ h => ?_, F.inod⟩
    obtain ⟨e, he, q⟩ := Qmm h
    have := k7 e he
    have q : e.i = hp.length := q
    lia
   ·rw [map_cons, nodup_cons]
    exact ⟨λ h => hxn (by unfold nmS; rw [mem_reverse]; exact h), F.xnod⟩
   ·rcases Qmc he with rfl | he
    ·exact mem_append_right _ (mem_singleton.mpr rfl)
    ·exact mem_append_left _ (F.xin e he)
   ·exact nodup_append.mpr ⟨F.snod, by simp, λ a ha b hb e => hxs (by rw [mem_singleton] at hb; rw [<- hb, <- e]; exact ha)⟩
   ·rcases Qma ha with ha | ha
    ·exact F.sin a ha
    ·rw [mem_singleton] at ha; rw [ha]; exact hx
end

noncomputable def ringV : Option (List Int) -> PV
 | none => .none
 | some r => .lst (r.map .int)
section
variable {hp : List MO} {o : Nat} {T : TSt} {ly : Lay} {fr : List PV} {E : Value -> St -> Prop}
theorem Zog {i : Nat} {es : List (Int × PV)} {ep k : Nat} {μ0 μ : St} (h₀ : μ0.hp[i]? = some (.dct es ep)) (h : μ.hp[i]? = some (.dct es ep)) : getOf (.obj i) μ0 k μ = some ((es[k]?).map λ e => .int e.1) := by
 unfold getOf
 try dsimp only
 rw [h₀, h]
 dsimp only [getO]
 rw [if_pos ⟨rfl, rfl⟩]
theorem Zlu (S : SAt d hp o T ly) (hsub : ∀ a ∈ T.order, ∀ s ∈ T.sc a, s ∈ T.order) (hol : T.order.length <= 1000) {N : Nat} {res : Option (List Int)} (hf : findF T.sc N T.order [] = some res) (hN : N < fuel) {Q : PV -> St -> Prop}
  (h : ∀ hp', hp.length <= hp'.length -> (∀ i, i < hp.length -> hp'[i]? = hp[i]?) -> Q (ringV res) ⟨fr, hp'⟩) : Wp (Zgg d [.obj o]) ⟨fr, hp⟩ Q E := by
 refine Wp.A0 rfl ?_
 unfold Zi8
 refine Wp.I (Wp.Y (Wp.F7 S rfl (Wp.H ?_)))
 refine Wp.I (Wp.Y (Wp.B2 (Wp.j ⟨by simp, Wp.H ?_⟩)))
 refine Wp.I (Wp.Y (Wp.B2 (Wp.j ⟨by simp, Wp.H ?_⟩)))
 refine Wp.I (Wp.Y (Wp.C (Wp.j (Wp.C (Wp.b (Wp.R (Wp.H ?_)))))))
 refine Wp.I (Wp.Y (Wp.C (Wp.b (Wp.R (Wp.H ?_)))))
 have l1 : (hp ++ [MO.lst []]).length = hp.length + 1 := by simp
 have l2 : (hp ++ [MO.lst []] ++ [MO.lst []]).length = hp.length + 2 := by simp
 have l3 : (hp ++ [MO.lst []] ++ [MO.lst []] ++ [MO.set []]).length = hp.length + 3 := by simp
 have f0 : (hp ++ [MO.lst []] ++ [MO.lst []] ++ [MO.set []] ++ [MO.dct [] 0]) = hp ++ [MO.lst [], MO.lst [], MO.set [], MO.dct [] 0] := by simp
 have F0 : FAt o T ly hp (hp ++ [MO.lst []] ++ [MO.lst []] ++ [MO.set []] ++ [MO.dct [] 0]) hp.length (hp.length + 1) (hp.length + 2) (hp.length + 3) [] [] := by
  rw [f0]
  refine ⟨by simp, λ i hi => List.getElem?_append_left hi, ⟨Qr, by lia, by lia, by lia⟩, by lia, ?_, ?_, ?_, ⟨0, ?_⟩, (λ e he => nomatch he), nodup_nil, nodup_nil, (λ e he => nomatch he), nodup_nil, (λ e he => nomatch he)⟩
  ·rw [List.getElem?_append_right Qr]; simp [nmS]
  ·rw [List.getElem?_append_right (by lia)]; simp
  ·rw [List.getElem?_append_right (by lia)]; simp
  ·rw [List.getElem?_append_right (by lia)]; simp [nmS, enumF]
 refine Wp.I (Wp.B0 (Wp.B (v := .obj ly.n2i) rfl rfl ?_))
 try dsimp only
 refine Wp.u (λ k μ => ∃ hp' v seen, μ = ⟨frF o ly hp.length (hp.length + 1) (hp.length + 2) (hp.length + 3) v, hp'⟩ ∧ FAt o T ly hp hp' hp.length (hp.length + 1) (hp.length + 2) (hp.length + 3) [] seen ∧ findF T.sc N (T.order.drop k) seen = some res) T.order.length (λ k μ hI hk => ?_) fuel 0 _ (by unfold fuel; lia) (Nat.zero_le _)
  ⟨_, .undef, [], ?_, F0, hf⟩
 ·obtain ⟨hp', v, seen, rfl, F, hff⟩ := hI
  rw [Zog (F0.sat S).dct (F.sat S).dct, List.getElem?_map]
  cases hx : T.order[k]? with
  | none =>
   left
   have hk' : k = T.order.length := by have := Qgn hx; lia
   subst hk'
   rw [List.drop_length] at hff
   cases hff
   refine ⟨rfl, ?_⟩
   try dsimp only
   exact Wp.I (Wp.D1 (Wp.R (h hp' F.len F.old)))
  | some x =>
   right
   have hlt := (Qgl hx)
   have hxo : x ∈ T.order := mem_of_getElem? hx
   rw [List.drop_eq_getElem_cons hlt, (Qge hx)] at hff
   rw [Zgy] at hff
   refine ⟨hlt, .int x, rfl, Wp.H ?_⟩
   unfold Zi7
   refine Wp.I (Wp.A2 (Wp.Z (Wp.B (v := .int x) rfl rfl (Wp.B (v := .obj (hp.length + 2)) rfl rfl (Wp.G9 F.set ?_)))))
   cases hs : decide (x ∈ seen) with
   | true =>
    rw [hs] at hff
    exact Wp.I (Wp.R ⟨hp', .int x, seen, rfl, F, hff⟩)
   | false =>
    rw [hs] at hff
    try dsimp only at hff
    refine Wp.V (Wp.I ?_)
    cases hr : runF T.sc N (.proc x [] seen) with
    | none => rw [hr] at hff; cases hff
    | some r =>
     rw [hr] at hff
     refine Zpw S hsub hol (res := r) (sk := hp.length) (it := hp.length + 1) (se := hp.length + 2) (nd := hp.length + 3) (λ hp'' v r' e lB old => ?_) (λ hp'' v seen' F' e => ?_) N fuel hp' [] seen x hN F hxo hr
     ·subst e
      cases hff
      exact h hp'' lB old
     ·subst e
      exact Wp.V ⟨hp'', v, seen', rfl, F', hff⟩
 ·simp only [l1, l2, l3]
  rfl
end

section
variable {hp : List MO} {fr : List PV} {E : Value -> St -> Prop}
theorem Wp.H6 {n m : Nat} {f : PM PV} {tf : Nat -> PV -> PM Unit} {μ : St} {Q : PV -> St -> Prop} (h : Wp f μ (λ pv μ1 => Wp (compIx (getIt pv μ1) (tf μ1.hp.length) n 0) (pushU ⟨μ1.fr, μ1.hp ++ [.lst []]⟩ m) (λ _ μ2 => Q (.obj μ1.hp.length) ⟨μ2.fr.take μ1.fr.length, μ2.hp⟩) (λ _ _ => False)) E) :
  Wp (Mine.compM n m f tf) μ Q E := by
 unfold Mine.compM
 refine Wp.C (h.mono (λ pv μ1 h => ?_) λ _ _ e => e)
 obtain ⟨u, μ2, e, hq⟩ := h.run
 refine Wp.J ?_ hq
 unfold compRun
 rw [e]
theorem Wp.F3 {get : Nat -> St -> Option (Option PV)} {tf : PV -> PM Unit} {Q : Unit -> St -> Prop} (I : Nat -> St -> Prop) (N : Nat)
  (h : ∀ k μ, I k μ -> k <= N -> (get k μ = some none ∧ Q () μ) ∨ (k < N ∧ ∃ x, get k μ = some (some x) ∧ Wp (tf x) μ (λ _ μ' => I (k + 1) μ') E)) : ∀ (n k : Nat) (μ : St), N < n + k -> k <= N -> I k μ -> Wp (Mine.compIx get tf n k) μ Q E := by
 intro n
 induction n with
 | zero => intro k μ hn hk _; omega
 | succ n ih =>
  intro k μ hn hk hi
  rcases h k μ hi hk with ⟨e, hq⟩ | ⟨hlt, x, e, hw⟩
  ·exact Wp.J (a := ()) (μ' := μ) (by simp only [Mine.compIx, e]) hq
  ·have : Wp (tf x >>= λ _ => Mine.compIx get tf n (k + 1)) μ Q E := Wp.C (hw.mono (λ _ μ' h => ih (k + 1) μ' (by omega) (by omega) h) λ _ _ e => e)
   exact Wp.E6 (by simp only [Mine.compIx, e]) this
theorem Wp.J1 {f : PM PV} {i : Nat} {μ : St} {Q : Unit -> St -> Prop} (h : Wp f μ (λ y μ' => ∃ xs, μ'.hp[i]? = some (.lst xs) ∧ xs.length <= 1000000 ∧ Q () ⟨μ'.fr, μ'.hp.set i (.lst (xs ++ [y]))⟩) E) : Wp (emitM f i) μ Q E := by
 unfold emitM
 refine Wp.C (h.mono (λ y μ' ⟨xs, e, hl, h⟩ => ?_) λ _ _ e => e)
 obtain ⟨fr, hp⟩ := μ'
 exact Wp.C (Wp.A1 e hl (Wp.R h))
theorem Wp.tfA {asg : PV -> PM Unit} {f : PM PV} {i : Nat} {x : PV} {μ : St} {Q : Unit -> St -> Prop} (h : Wp (asg x) μ (λ _ μ' => Wp (emitM f i) μ' Q E) E) : Wp (Mine.tfA asg f i x) μ Q E := Wp.C h
theorem Wp.tfB {asg : PV -> PM Unit} {t : PM Bool} {f : PM PV} {i : Nat} {x : PV} {μ : St} {Q : Unit -> St -> Prop} (h : Wp (asg x) μ (λ _ μ' => Wp t μ' (λ b μ'' => match b with
  | true => Wp (emitM f i) μ'' Q E
  | false => Q () μ'') E) E) : Wp (Mine.tfB asg t f i x) μ Q E := by
 unfold Mine.tfB
 refine Wp.C (h.mono (λ _ μ' h => Wp.C (h.mono (λ b μ'' h => ?_) λ _ _ e => e)) λ _ _ e => e)
 cases b <;> first | exact h | exact Wp.mk h
end
noncomputable def readyT (T : TSt) : TSt := { T with ready := some (T.order.filter λ a => T.np a == 0) }
section
variable {hp : List MO} {o : Nat} {T : TSt} {ly : Lay} {fr : List PV} {E : Value -> St -> Prop}
theorem Wp.H8 {xs : List PV} {μ : St} {Q : Bool -> St -> Prop} (hl : xs.length <= 1000000) (h : Q (!xs.isEmpty) μ) : Wp (pTruth (.lst xs)) μ Q E := by
 refine Wp.J ?_ h
 unfold pTruth
 try dsimp only
 rw [decide_eq_true hl]
theorem Wp.G5 {fo : PM PV} {μ : St} {Q : PV -> St -> Prop} (h : Wp fo μ (λ x μ1 => ∃ i es ep, x = .obj i ∧ μ1.hp[i]? = some (.dct es ep) ∧ Q (.vals i) μ1) E) : Wp (Mine.mValues fo (Pure.pure [])) μ Q E :=
 Wp.C (h.mono (λ x μ1 hh => by
  obtain ⟨i, es, ep, e, e2, h⟩ := hh
  subst e
  obtain ⟨fr, hp⟩ := μ1
  exact Wp.C (Wp.B9 e2 (Wp.C (Wp.j (Wp.C (Wp.B9 e2 (Wp.R h))))))) λ _ _ e => e)
theorem Zna {i : Nat} {es : List (Int × PV)} {ep k : Nat} {μ0 μ : St} (h₀ : μ0.hp[i]? = some (.dct es ep)) (h : μ.hp[i]? = some (.dct es ep)) : getIt (.vals i) μ0 k μ = some ((es[k]?).map λ e => e.2) := by
 unfold getIt
 try dsimp only
 rw [h₀, h]
 try dsimp only
 rw [if_pos ⟨rfl, rfl⟩]
theorem Zfj {xs : List Int} {p : Int -> Bool} {k : Nat} {a : Int} (e : xs[k]? = some a) : (xs.take (k + 1)).filter p = (xs.take k).filter p ++ (if p a then [a] else []) := by
 have hl := (Qgl e)
 rw [take_succ_eq_append_getElem hl, filter_append]
 have := (Qge e)
 rw [this]
 congr 1
 cases q : p a <;> simp [q]
theorem Zoh (S : SAt d hp o T ly) (hr : T.ready = none) {rn : Nat} {rs : List Int} (hrn : hp[rn]? = some (.lst (rs.map .int))) (hnf : ¬ Fp o T ly rn) :
  SAt d (hp.set ly.dn (.ns (nsTS (.obj ly.n2i) (.obj rn) T.passed T.fin))) o { T with ready := some rs } { ly with rn := rn } :=
 ⟨Ze S.ns S.ins (mn rfl), Zm S.ns, Ze S.ns S.dct (mn rfl), λ xs e => by cases e; exact Ze S.ns hrn (mn rfl), λ a ha => Ze S.ns (S.inf a ha) (mn rfl), λ a ha => Ze S.ns (S.suc a ha) (mn rfl), S.lsi,
  λ _ a ha e => hnf (by rw [<- show ly.ls a = rn from e]; exact fp_ls ha), S.ond⟩
theorem Znb (S : SAt d hp o T ly) (hr : T.ready = none) (hsub : ∀ a ∈ T.order, ∀ s ∈ T.sc a, s ∈ T.order) (hol : T.order.length <= 1000) {N : Nat} {res : Option (List Int)} (hf : findF T.sc N T.order [] = some res) (hN : N < fuel)
  (hlen : ∀ r, res = some r -> r ≠ [] ∧ r.length <= 100000) {Q : PV -> St -> Prop}
  (h : ∀ hp' ly', SAt d hp' o (readyT T) ly' -> Grow o T ly hp (readyT T) ly' hp' -> (res = none -> Q .none ⟨fr, hp'⟩) ∧ (res ≠ none -> E (.ref d.CE) ⟨fr, hp'⟩)) : Wp (Zeg d [.obj o]) ⟨fr, hp⟩ Q E := by
 refine Wp.A0 rfl ?_
 unfold Zef
 refine Wp.I (Wp.A2 (Wp.Z (Wp.D6 S rfl ?_)))
 rw [Zjp hr]
 refine Wp.R (Wp.A5 (x := .none) rfl ?_)
 refine Wp.V (Wp.I (Wp.Y (Wp.H6 (Wp.G5 (Wp.F7 S rfl ⟨ly.n2i, _, _, rfl, S.dct, ?_⟩)))))
 have S0 : SAt d (hp ++ [MO.lst []]) o T ly := S.keep λ i hi => List.getElem?_append_left (S.lt hi)
 have hnew : ∀ i, Fp o T ly i -> i ≠ hp.length := λ i hi => Nat.ne_of_lt (S.lt hi)
 refine Wp.F3 (λ k μ => ∃ v1 v2, μ = ⟨[.obj o, .undef, v1, v2], (hp ++ [MO.lst []]).set hp.length (.lst (((T.order.take k).filter λ a => T.np a == 0).map .int))⟩) T.order.length (λ k μ hI hk => ?_) fuel 0 _ (by unfold fuel; lia) (Nat.zero_le _) ?_
 ·obtain ⟨v1, v2, rfl⟩ := hI
  have S1 : SAt d ((hp ++ [MO.lst []]).set hp.length (.lst (((T.order.take k).filter λ a => T.np a == 0).map .int))) o T ly := S0.keep λ i hi => List.getElem?_set_ne (hnew i hi).symm
  rw [Zna S.dct S1.dct, List.getElem?_map]
  cases hx : T.order[k]? with
  | none =>
   left
   have hk' : k = T.order.length := by have := Qgn hx; lia
   subst hk'
   rw [take_length] at S1 ⊢
   refine ⟨rfl, ?_⟩
   try dsimp only
   have hrn : ((hp ++ [MO.lst []]).set hp.length (.lst ((T.order.filter λ a => T.np a == 0).map .int)))[hp.length]? = some (.lst ((T.order.filter λ a => T.np a == 0).map .int)) := Zm Zdf
   refine Wp.A7 (Wp.B rfl rfl (Wp.l S1.ins S1.ns Zjo ?_))
   rw [put_r]
   have S2 := Zoh S1 hr hrn (λ hi => hnew _ hi rfl)
   have oldC : ∀ i, i < hp.length -> ¬ Fp o T ly i -> (((hp ++ [MO.lst []]).set hp.length (.lst ((T.order.filter λ a => T.np a == 0).map .int))).set ly.dn (.ns (nsTS (.obj ly.n2i) (.obj hp.length) T.passed T.fin)))[i]? = hp[i]? := λ i hi hn => by
    rw [List.getElem?_set_ne (λ e => hn (by rw [<- e]; exact fp_dn)), List.getElem?_set_ne (by lia), List.getElem?_append_left hi]
   have lenC : (((hp ++ [MO.lst []]).set hp.length (.lst ((T.order.filter λ a => T.np a == 0).map .int))).set ly.dn (.ns (nsTS (.obj ly.n2i) (.obj hp.length) T.passed T.fin))).length = hp.length + 1 := by simp
   generalize (((hp ++ [MO.lst []]).set hp.length (.lst ((T.order.filter λ a => T.np a == 0).map .int))).set ly.dn (.ns (nsTS (.obj ly.n2i) (.obj hp.length) T.passed T.fin))) = h₂ at S2 oldC lenC ⊢
   refine Wp.I (Wp.Y (Wp.A8 (Wp.B rfl rfl (Wp.B5 S2 (by kernel_rfl) (Wp.j (Zlu S2 hsub hol hf hN λ hp3 lD old3 => Wp.H ?_))))))
   have S3 : SAt d hp3 o (readyT T) { ly with rn := hp.length } := S2.keep λ i hi => old3 i (S2.lt hi)
   have g : Grow o T ly hp (readyT T) { ly with rn := hp.length } hp3 := by
    refine ⟨by lia, λ i hi hn => (old3 i (by lia)).trans (oldC i hi hn), λ i hi => ?_⟩
    rcases hi with rfl | rfl | rfl | ⟨_, rfl⟩ | ⟨a, ha, hi⟩
    ·exact .inl fp_o
    ·exact .inl fp_dn
    ·exact .inl Zgi
    ·exact .inr Qr
    ·rcases hi with rfl | rfl
     ·exact .inl (fp_li ha)
     ·exact .inl (fp_ls ha)
   obtain ⟨q1, q2⟩ := h hp3 _ S3 g
   cases res with
   | none =>
    refine Wp.I (Wp.A2 (Wp.D5 (Wp.B (v := .none) rfl rfl (Wp.J rfl ?_))))
    exact Wp.V (Wp.V (q1 rfl))
   | some r =>
    obtain ⟨z1, z2⟩ := hlen r rfl
    refine Wp.I (Wp.A2 (Wp.D5 (Wp.B (v := .lst (r.map .int)) rfl rfl (Wp.H8 (by rw [length_map]; lia) ?_))))
    rw [show (!(r.map PV.int).isEmpty) = true by cases r with | nil => exact absurd rfl z1 | cons => rfl]
    refine Wp.I (Wp.I1 (Wp.e (Wp.R (Wp.W (Wp.B (v := .lst (r.map .int)) rfl rfl ⟨rfl, q2 nofun⟩)))))
  | some a =>
   right
   have ha : a ∈ T.order := mem_of_getElem? hx
   refine ⟨(Qgl hx), .obj (ly.li a), rfl, ?_⟩
   unfold Zfe
   refine Wp.tfB (Wp.H (Wp.Z (Wp.B7 (Wp.B (v := .obj (ly.li a)) rfl rfl (Wp.B1 (S1.inf a ha) rfl rfl (Wp.R (Wp.D8 ?_)))))))
   cases hz : T.np a == 0 with
   | true =>
    refine Wp.J1 (Wp.B7 (Wp.B (v := .obj (ly.li a)) rfl rfl (Wp.B1 (S1.inf a ha) rfl rfl ⟨_, Zm Zdf, ?_, v1, .obj (ly.li a), ?_⟩)))
    ·rw [length_map]
     have := length_filter_le (λ a => T.np a == 0) (T.order.take k)
     rw [length_take] at this
     lia
    ·try dsimp only
     rw [set_set, Zfj hx, hz, map_append]
     rfl
   | false =>
    refine ⟨v1, .obj (ly.li a), ?_⟩
    rw [Zfj hx, hz]
    simp
 ·refine ⟨.undef, .undef, ?_⟩
  unfold pushU
  simp
end

noncomputable abbrev Pth := List (Nat × Int)
noncomputable def Wlt : Pth -> Pth -> Prop
 | _, [] => False
 | [], _ :: _ => True
 | a :: as, b :: bs => a.1 < b.1 ∨ (a.1 = b.1 ∧ Wlt as bs)
noncomputable def en : Int -> Pth -> Int
 | v, [] => v
 | _, e :: z => en e.2 z
noncomputable def Pa (S : Int -> Nat -> Int -> Prop) : Int -> Pth -> Prop
 | _, [] => True
 | v, e :: z => S v e.1 e.2 ∧ Pa S e.2 z
theorem wlt_z {a : Pth} (h : Wlt a []) : False := by cases a <;> exact h
theorem wlt_c {a b : Nat × Int} {as bs : Pth} : Wlt (a :: as) (b :: bs) ↔ a.1 < b.1 ∨ (a.1 = b.1 ∧ Wlt as bs) := Iff.rfl
theorem Zbo : ∀ {a : Pth}, ¬ Wlt a a
 | [], h => h
 | _ :: _, .inl h => Nat.lt_irrefl _ h
 | _ :: _, .inr h => Zbo h.2
theorem Zc5 : ∀ {a b c : Pth}, Wlt a b -> Wlt b c -> Wlt a c
 | _, [], _, h, _ => (wlt_z h).elim
 | _, _ :: _, [], _, h => h.elim
 | [], _ :: _, _ :: _, _, _ => trivial
 | _ :: _, _ :: _, _ :: _, .inl h, .inl k => .inl (Nat.lt_trans h k)
 | _ :: _, _ :: _, _ :: _, .inl h, .inr k => .inl (k.1 ▸ h)
 | _ :: _, _ :: _, _ :: _, .inr h, .inl k => .inl (h.1 ▸ k)
 | _ :: _, _ :: _, _ :: _, .inr h, .inr k => .inr ⟨h.1.trans k.1, Zc5 h.2 k.2⟩
theorem Zgz : ∀ {b c a t : Pth}, Wlt (b ++ c) a -> Wlt b (a ++ t)
 | _, _, [], _, h => (wlt_z h).elim
 | [], _, _ :: _, _, _ => trivial
 | _ :: _, _, _ :: _, _, .inl h => .inl h
 | _ :: _, _, _ :: _, _, .inr h => .inr ⟨h.1, Zgz h.2⟩
theorem Zlv : ∀ {a b c : Pth}, Wlt b c -> Wlt (a ++ b) (a ++ c)
 | [], _, _, h => h
 | _ :: _, _, _, h => .inr ⟨rfl, Zlv h⟩
theorem Zah : ∀ {v : Int} {a b : Pth}, en v (a ++ b) = en (en v a) b
 | _, [], _ => rfl
 | _, e :: a, _ => Zah (v := e.2) (a := a)
theorem Zem : ∀ {v : Int} {a : Pth}, a ≠ [] -> en v a ∈ a.map (·.2)
 | _, [], h => absurd rfl h
 | _, [e], _ => mem_singleton.mpr rfl
 | _, e :: f :: a, _ => mem_cons_of_mem _ (Zem (v := e.2) (a := f :: a) (cons_ne_nil _ _))
theorem en_at : ∀ {v x : Int} {a : Pth}, x ∈ a.map (·.2) -> ∃ b c, a = b ++ c ∧ b ≠ [] ∧ en v b = x
 | v, x, e :: a, h => by
  rcases Qmc h with rfl | h
  ·exact ⟨[e], a, rfl, cons_ne_nil _ _, rfl⟩
  ·obtain ⟨b, c, h1, _, h3⟩ := en_at (v := e.2) h
   exact ⟨e :: b, c, congrArg (e :: ·) h1, cons_ne_nil _ _, h3⟩
section
variable {S : Int -> Nat -> Int -> Prop}
theorem Z0 : ∀ {v : Int} {a b : Pth}, Pa S v (a ++ b) ↔ Pa S v a ∧ Pa S (en v a) b
 | _, [], _ => ⟨λ h => ⟨trivial, h⟩, λ h => h.2⟩
 | _, e :: a, _ => ⟨λ h => ⟨⟨h.1, (Z0.mp h.2).1⟩, (Z0.mp h.2).2⟩, λ h => ⟨h.1.1, Z0.mpr ⟨h.1.2, h.2⟩⟩⟩
theorem Zae {S' : Int -> Nat -> Int -> Prop} (h : ∀ v p x, S' v p x -> S v p x) : ∀ {v : Int} {a : Pth}, Pa S' v a -> Pa S v a
 | _, [], _ => trivial
 | _, _ :: _, k => ⟨h _ _ _ k.1, Zae h k.2⟩
def Simp (S : Int -> Nat -> Int -> Prop) (a : Pth) : Prop := Pa S (-1) a ∧ (a.map (·.2)).Nodup
structure First (S : Int -> Nat -> Int -> Prop) (v : Int) (a : Pth) : Prop where
 ok : Simp S a
 to : en (-1) a = v
 min : ∀ b, Simp S b -> en (-1) b = v -> ¬ Wlt b a
variable (det : ∀ v p x y, S v p x -> S v p y -> x = y)
include det
theorem Zc6 : ∀ {v : Int} {a b : Pth}, Pa S v a -> Pa S v b -> Wlt a b ∨ a = b ∨ Wlt b a
 | _, [], [], _, _ => .inr (.inl rfl)
 | _, [], _ :: _, _, _ => .inl trivial
 | _, _ :: _, [], _, _ => .inr (.inr trivial)
 | _, (p, x) :: a, (q, y) :: b, h, k => by
  rcases Nat.lt_trichotomy p q with e | e | e
  ·exact .inl (.inl e)
  ·cases e
   cases det _ _ _ _ h.1 k.1
   rcases Zc6 h.2 k.2 with e | e | e
   ·exact .inl (.inr ⟨rfl, e⟩)
   ·exact .inr (.inl (congrArg _ e))
   ·exact .inr (.inr (.inr ⟨rfl, e⟩))
  ·exact .inr (.inr (.inl e))
theorem Zen : ∀ {v : Int} {b a : Pth}, Pa S v b -> Pa S v a -> Wlt b a -> (∃ e c, a = b ++ e :: c) ∨ ∀ s t, Wlt (b ++ s) (a ++ t)
 | _, _, [], _, _, h => (wlt_z h).elim
 | _, [], e :: c, _, _, _ => .inl ⟨e, c, rfl⟩
 | _, (p, x) :: b, (q, y) :: a, k, l, .inl h => .inr λ s t => .inl h
 | _, (p, x) :: b, (q, y) :: a, k, l, .inr h => by
  cases (show p = q from h.1)
  cases det _ _ _ _ k.1 l.1
  rcases Zen k.2 l.2 h.2 with ⟨e, c, h⟩ | h
  ·exact .inl ⟨e, c, congrArg _ h⟩
  ·exact .inr λ s t => .inr ⟨rfl, h s t⟩
theorem Zj0 : ∀ {v : Int} {w a : Pth} {e : Nat × Int}, Pa S v w -> Pa S v a -> Wlt w (a ++ [e]) -> Wlt w a ∨ w = a ∨ ∃ f z, w = a ++ f :: z ∧ f.1 < e.1
 | _, [], [], _, _, _, _ => .inr (.inl rfl)
 | _, [], _ :: _, _, _, _, _ => .inl trivial
 | _, f :: z, [], e, _, _, .inl h => .inr (.inr ⟨f, z, rfl, h⟩)
 | _, f :: z, [], e, _, _, .inr h => (wlt_z h.2).elim
 | _, (p, x) :: w, (q, y) :: a, e, k, l, .inl h => .inl (.inl h)
 | _, (p, x) :: w, (q, y) :: a, e, k, l, .inr h => by
  cases (show p = q from h.1)
  cases det _ _ _ _ k.1 l.1
  rcases Zj0 k.2 l.2 h.2 with h | h | ⟨f, z, h, i⟩
  ·exact .inl (.inr ⟨rfl, h⟩)
  ·exact .inr (.inl (congrArg _ h))
  ·exact .inr (.inr ⟨f, z, congrArg _ h, i⟩)
theorem First.uniq {v : Int} {a b : Pth} (A : First S v a) (B : First S v b) : a = b := by
 rcases Zc6 det A.ok.1 B.ok.1 with h | h | h
 ·exact absurd h (B.min a A.ok A.to)
 ·exact h
 ·exact absurd h (A.min b B.ok B.to)
omit det in
theorem Zcb {a b : Pth} {x : Int} (h : ((a ++ b).map (·.2)).Nodup) (h1 : x ∈ a.map (·.2)) (h2 : x ∈ b.map (·.2)) : False := by
 rw [map_append] at h
 exact (nodup_append.mp h).2.2 x h1 x h2 rfl
omit det in
theorem Simp.pre {a b : Pth} (h : Simp S (a ++ b)) : Simp S a := ⟨(Z0.mp h.1).1, by
 have := h.2
 rw [map_append] at this
 exact (nodup_append.mp this).1⟩
omit det in
theorem Zbj (nor : ∀ v p x, S v p x -> x ≠ -1) : ∀ {v : Int} {a : Pth}, Pa S v a -> a ≠ [] -> en v a ≠ -1
 | _, [], _, h => absurd rfl h
 | _, [e], k, _ => nor _ _ _ k.1
 | _, e :: f :: a, k, _ => Zbj nor (v := e.2) (a := f :: a) k.2 (cons_ne_nil _ _)
variable (nor : ∀ v p x, S v p x -> x ≠ -1)
include nor
theorem First.back {v : Int} {a : Pth} {e : Nat × Int} (A : First S v (a ++ [e])) (ha : a ≠ []) : First S (en (-1) a) a := by
 refine ⟨A.ok.pre, rfl, λ b hb eb hlt => ?_⟩
 have hp := Z0.mp A.ok.1
 have hv : e.2 = v := A.to ▸ (Zah (v := -1) (a := a) (b := [e])).symm
 by_cases hm : v ∈ b.map (·.2)
 ·obtain ⟨b1, b2, rfl, _, e1⟩ := en_at (v := -1) hm
  exact A.min b1 hb.pre e1 (Zgz hlt)
 ·rcases Zen det hb.1 hp.1 hlt with ⟨f, c, rfl⟩ | h
  ·by_cases hb0 : b = []
   ·subst hb0
    rw [List.nil_append] at eb hp
    exact Zbj nor hp.1 (cons_ne_nil _ _) eb.symm
   ·refine Zcb A.ok.pre.2 (eb ▸ Zem (v := -1) hb0) ?_
    rw [Zah]; exact Zem (cons_ne_nil f c)
  ·refine A.min (b ++ [e]) ⟨Z0.mpr ⟨hb.1, eb ▸ hp.2⟩, ?_⟩ (by rw [Zah]; exact hv) (h [e] [e])
   rw [map_append]
   exact nodup_append.mpr ⟨hb.2, nodup_cons.mpr ⟨not_mem_nil, nodup_nil⟩, λ x hx y hy q => hm (by
    rw [List.map_singleton, mem_singleton] at hy
    rw [<- hv, <- hy, <- q]; exact hx)⟩
end

noncomputable abbrev Fine (sc : Int -> List Int) (a : Int) : Prop := Acc (λ s a => s ∈ sc a) a
set_option genInjectivity false in
structure Gr (S S' : Int -> Nat -> Int -> Prop) (N : List Int) (pl : Int -> List Nat) (hd : Nat -> Int) (sc : Int -> List Int) : Prop where
 det : ∀ v p x y, S v p x -> S v p y -> x = y
 nor : ∀ v p x, S v p x -> x ≠ -1
 sub : ∀ v p x, S' v p x -> S v p x
 kp : ∀ v p x, S v p x -> S' v p x ∨ ∃ a, First S v a ∧ x ∈ a.map (·.2)
 fst : ∀ a, Pa S (-1) a -> a ≠ [] -> ∃ f, First S (en (-1) a) f
 rt : ∀ i x, S' (-1) i x ↔ N[i]? = some x
 out : ∀ v p x, v ≠ -1 -> (S' v p x ↔ p ∈ pl v ∧ hd p = x)
 inc : ∀ v, (pl v).Pairwise (· < ·)
 scE : ∀ v, sc v = (pl v).map hd
section
variable {S S' : Int -> Nat -> Int -> Prop} {N : List Int} {pl : Int -> List Nat} {hd : Nat -> Int} {sc : Int -> List Int} (G : Gr S S' N pl hd sc)
include G
omit G in
theorem First.pre (det : ∀ v p x y, S v p x -> S v p y -> x = y) (nor : ∀ v p x, S v p x -> x ≠ -1) : ∀ {b a : Pth} {v : Int}, First S v (a ++ b) -> a ≠ [] -> First S (en (-1) a) a
 | [], a, v, A, _ => by rw [append_nil] at A; exact A.to ▸ A
 | e :: b, a, v, A, ha => (First.pre det nor (b := b) (a := a ++ [e]) (v := v) (by rw [append_assoc]; exact A) (by simp)).back det nor ha
theorem Gr.first_in {v : Int} {a : Pth} (A : First S v a) : Pa S' (-1) a := by
 have key : ∀ (b a : Pth) (v : Int), First S v (a ++ b) -> Pa S' (-1) a -> Pa S' (en (-1) a) b := by
  intro b
  induction b with
  | nil => intro _ _ _ _; trivial
  | cons e b ih =>
   intro a v A h
   have A' : First S v ((a ++ [e]) ++ b) := by rw [append_assoc]; exact A
   have B := A'.pre G.det G.nor (by simp)
   have he := Z0.mp B.ok.1
   have hs : S' (en (-1) a) e.1 e.2 := by
    rcases G.kp _ _ _ he.2.1 with k | ⟨c, C, k⟩
    ·exact k
    ·by_cases ha : a = []
     ·subst ha
      by_cases hc : c = []
      ·subst hc; cases k
      ·exact absurd C.to (Zbj G.nor C.ok.1 hc)
     ·have e1 := C.uniq G.det (B.back G.det G.nor ha)
      subst e1
      exact (Zcb B.ok.2 k (mem_singleton.mpr rfl)).elim
   refine ⟨hs, ?_⟩
   have := ih (a ++ [e]) v A' (Z0.mpr ⟨h, hs, trivial⟩)
   rw [Zah] at this
   exact this
 exact key a [] v A trivial
theorem Gr.fine_cyc {y : Int} (h : Fine sc y) : y ≠ -1 -> ∀ l, l ≠ [] -> Pa S' y l -> en y l = y -> False := by
 induction h with
 | intro y _ ih =>
  intro hy l hl hp he
  cases l with
  | nil => exact hl rfl
  | cons e z =>
   have hm : e.2 ∈ sc y := by
    rw [G.scE]
    have := (G.out _ _ _ hy).mp hp.1
    exact mem_map.mpr ⟨e.1, this.1, this.2⟩
   have he : en e.2 z = y := he
   refine ih e.2 hm (G.nor _ _ _ (G.sub _ _ _ hp.1)) (z ++ [e]) (by simp) (Z0.mpr ⟨hp.2, ?_, trivial⟩) (by rw [Zah]; rfl)
   rw [he]; exact hp.1
inductive Pe (N : List Int) (pl : Int -> List Nat) (hd : Nat -> Int) (F : Int -> Prop) : List (Int × List Nat) -> Pth -> Prop
 | root {i : Nat} {x : Int} : N[i]? = some x -> (∀ j y, j < i -> N[j]? = some y -> F y) -> Pe N pl hd F [] [(i, x)]
 | step {st : List (Int × List Nat)} {a : Pth} {x : Int} {p : Nat} {dn q : List Nat} : Pe N pl hd F st a -> en (-1) a = x -> x ∉ st.map (·.1) -> pl x = dn ++ p :: q -> (∀ r ∈ dn, F (hd r)) -> Pe N pl hd F ((x, q) :: st) (a ++ [(p, hd p)])
omit G in
theorem Pe.mono {F F' : Int -> Prop} (h : ∀ y, F y -> F' y) {st : List (Int × List Nat)} {a : Pth} (P : Pe N pl hd F st a) : Pe N pl hd F' st a := by
 induction P with
 | root h1 h2 => exact .root h1 λ j y a b => h _ (h2 j y a b)
 | step _ h1 h2 h3 h4 ih => exact .step ih h1 h2 h3 λ r hr => h _ (h4 r hr)
omit G in
theorem Pe.ne {F : Int -> Prop} {st : List (Int × List Nat)} {a : Pth} (P : Pe N pl hd F st a) : a ≠ [] := by
 cases P with
 | root => exact cons_ne_nil _ _
 | step => simp
theorem Pe.pa {F : Int -> Prop} {st : List (Int × List Nat)} {a : Pth} (P : Pe N pl hd F st a) : Pa S' (-1) a := by
 induction P with
 | root h1 h2 => exact ⟨(G.rt _ _).mpr h1, trivial⟩
 | step P h1 h2 h3 h4 ih =>
  refine Z0.mpr ⟨ih, (G.out _ _ _ (Zbj G.nor (Zae G.sub ih) P.ne)).mpr ⟨?_, rfl⟩, trivial⟩
  rw [h1, h3]; simp
omit G in
theorem Pe.nm {F : Int -> Prop} {st : List (Int × List Nat)} {a : Pth} (P : Pe N pl hd F st a) : a.map (·.2) = (st.map (·.1)).reverse ++ [en (-1) a] := by
 induction P with
 | root h1 h2 => rfl
 | step P h1 h2 h3 h4 ih =>
  rw [map_append, ih, h1, Zah]
  simp [en]
omit G in
theorem Pe.nd {F : Int -> Prop} {st : List (Int × List Nat)} {a : Pth} (P : Pe N pl hd F st a) : (st.map (·.1)).Nodup := by
 induction P with
 | root h1 h2 => exact nodup_nil
 | step P h1 h2 h3 h4 ih => exact nodup_cons.mpr ⟨h2, ih⟩
theorem Gr.cl {F : Int -> Prop} (hF : ∀ y, F y -> ∀ s ∈ sc y, F s) (hn : ∀ y, F y -> y ≠ -1) : ∀ {z : Pth} {y : Int}, F y -> Pa S' y z -> F (en y z)
 | [], _, h, _ => h
 | e :: z, y, h, k => by
  refine Gr.cl hF hn (z := z) (hF y h e.2 ?_) k.2
  rw [G.scE]
  have := (G.out _ _ _ (hn y h)).mp k.1
  exact mem_map.mpr ⟨e.1, this.1, this.2⟩
theorem Gr.less {F : Int -> Prop} (hF : ∀ y, F y -> ∀ s ∈ sc y, F s) (hn : ∀ y, F y -> y ≠ -1) {st : List (Int × List Nat)} {a : Pth} (P : Pe N pl hd F st a) :
  ∀ {w : Pth}, Pa S' (-1) w -> Wlt w a -> F (en (-1) w) ∨ ∃ c z, a = w ++ c :: z := by
 induction P with
 | root h1 h2 =>
  rename_i i x
  intro w hw hlt
  match w, hw, hlt with
  | [], _, _ => exact .inr ⟨(i, x), [], rfl⟩
  | f :: z, hw, .inl h =>
   have := h2 _ f.2 h ((G.rt _ _).mp hw.1)
   exact .inl (G.cl hF hn (y := f.2) this hw.2)
  | f :: z, hw, .inr h => exact (wlt_z h.2).elim
 | step P h1 h2 h3 h4 ih =>
  rename_i st a x p dn q
  intro w hw hlt
  have hpa := P.pa G
  rcases Zj0 G.det (Zae G.sub hw) (Zae G.sub hpa) hlt with h | rfl | ⟨f, z, rfl, h⟩
  ·rcases ih hw h with k | ⟨c, z, rfl⟩
   ·exact .inl k
   ·exact .inr ⟨c, z ++ [(p, hd p)], by simp⟩
  ·exact .inr ⟨_, [], rfl⟩
  ·have k := (Z0.mp hw).2
   have hx : en (-1) a ≠ -1 := Zbj G.nor (Zae G.sub hpa) P.ne
   obtain ⟨k1, k2⟩ := (G.out _ _ _ hx).mp k.1
   rw [h1, h3] at k1
   have hi := G.inc x
   rw [h3] at hi
   have hf : f.1 ∈ dn := by
    rcases Qma k1 with k1 | k1
    ·exact k1
    ·have : p <= f.1 := by
      rcases Qmc k1 with k1 | k1
      ·exact Nat.le_of_eq k1.symm
      ·exact Nat.le_of_lt ((List.pairwise_cons.mp (List.pairwise_append.mp hi).2.1).1 _ k1)
     exact absurd h (Nat.not_lt_of_le this)
   left
   rw [Zah]
   have hf := h4 _ hf
   rw [k2] at hf
   exact G.cl hF hn (y := f.2) hf k.2
end

noncomputable def ringP (a : Pth) (x : Int) : List Int := (a.map (·.2)).drop ((a.map (·.2)).idxOf x) ++ [x]
structure Clo (S S' : Int -> Nat -> Int -> Prop) (a : Pth) (e : Nat × Int) : Prop where
 f : First S (en (-1) a) a
 s : S' (en (-1) a) e.1 e.2
 m : e.2 ∈ a.map (·.2)
inductive RingOk (S S' : Int -> Nat -> Int -> Prop) : List Int -> Prop
 | mk {a : Pth} {e : Nat × Int} (c : Clo S S' a e) (l : ∀ b f, Clo S S' b f -> b ++ [f] = a ++ [e] ∨ Wlt (a ++ [e]) (b ++ [f])) : RingOk S S' (ringP a e.2)
noncomputable abbrev Fq (seen nm : List Int) (y : Int) : Prop := y ∈ seen ∧ y ∉ nm
structure Ok (sc : Int -> List Int) (seen nm : List Int) : Prop where
 cl : ∀ y, Fq seen nm y -> ∀ s ∈ sc y, Fq seen nm s
 fi : ∀ y, Fq seen nm y -> Fine sc y
 ss : ∀ y ∈ nm, y ∈ seen
 nr : ∀ y ∈ seen, y ≠ -1
noncomputable def hs (hd : Nat -> Int) (st : List (Int × List Nat)) : List (Int × List Int) := st.map λ e => (e.1, e.2.map hd)
theorem hs_nm {hd : Nat -> Int} {st : List (Int × List Nat)} : (hs hd st).map (·.1) = st.map (·.1) := by unfold hs; rw [map_map]; rfl
noncomputable def Bk (N : List Int) (pl : Int -> List Nat) (hd : Nat -> Int) (F : Int -> Prop) : List (Int × List Nat) -> Prop
 | [] => True
 | (x, q) :: st => ∃ a dn, Pe N pl hd F st a ∧ en (-1) a = x ∧ x ∉ st.map (·.1) ∧ pl x = dn ++ q ∧ ∀ r ∈ dn, F (hd r)
section
variable {S S' : Int -> Nat -> Int -> Prop} {N : List Int} {pl : Int -> List Nat} {hd : Nat -> Int} {sc : Int -> List Int}
theorem Pe.bk {F F' : Int -> Prop} (h : ∀ y, F y -> F' y) {st : List (Int × List Nat)} {a : Pth} (P : Pe N pl hd F st a) (hx : F' (en (-1) a)) : Bk N pl hd F' st := by
 cases P with
 | root => trivial
 | step P h1 h2 h3 h4 =>
  rename_i st a x p dn q
  rw [Zah] at hx
  refine ⟨a, dn ++ [p], P.mono h, h1, h2, by rw [h3, append_assoc]; rfl, λ r hr => ?_⟩
  rcases Qma hr with hr | hr
  ·exact h _ (h4 r hr)
  ·rw [mem_singleton] at hr; subst hr; exact hx
variable (G : Gr S S' N pl hd sc)
include G
theorem Gr.scM {v p x} (h : S' v p x) (hv : v ≠ -1) : x ∈ sc v := by
 rw [G.scE]
 have := (G.out _ _ _ hv).mp h
 exact mem_map.mpr ⟨p, this.1, this.2⟩
theorem Gr.fines : ∀ {z : Pth} {y : Int}, y ≠ -1 -> Fine sc y -> Pa S' y z -> Fine sc (en y z)
 | [], _, _, h, _ => h
 | e :: z, y, hy, h, k => Gr.fines (z := z) (G.nor _ _ _ (G.sub _ _ _ k.1)) (h.inv (G.scM k.1 hy)) k.2
theorem Gr.turn {b : Pth} {f : Nat × Int} (C : Clo S S' b f) (hf : Fine sc f.2) : False := by
 have hp := G.first_in C.f
 obtain ⟨b1, b2, e1, h1, h2⟩ := en_at (v := -1) C.m
 rw [e1, Z0, h2] at hp
 refine G.fine_cyc hf (by rw [<- h2]; exact Zbj G.nor (Zae G.sub hp.1) h1) (b2 ++ [f]) (by simp) (Z0.mpr ⟨hp.2, ?_, trivial⟩) (by rw [Zah]; rfl)
 have := C.s
 rw [e1, Zah, h2] at this
 exact this
theorem Gr.ring {seen : List Int} {st : List (Int × List Nat)} {a : Pth} (P : Pe N pl hd (Fq seen (st.map (·.1))) st a) (K : Ok sc seen (st.map (·.1))) (hx : en (-1) a ∈ st.map (·.1)) : RingOk S S' (ringOf (en (-1) a) (hs hd st)) := by
 have hn : ∀ y, Fq seen (st.map (·.1)) y -> y ≠ -1 := λ y h => K.nr y h.1
 have hpa := P.pa G
 have less := λ {w : Pth} => G.less K.cl hn P (w := w)
 cases P with
 | root => cases hx
 | step P h1 h2 h3 h4 =>
  rename_i st a u p dn q
  have e1 : en (-1) (a ++ [(p, hd p)]) = hd p := Zah
  rw [e1] at hx ⊢
  have nm : a.map (·.2) = (((u, q) :: st).map (·.1)).reverse := by rw [P.nm, h1, map_cons, reverse_cons]
  have hnd : (a.map (·.2)).Nodup := by
   rw [nm, (List.reverse_perm _).nodup_iff]
   exact nodup_cons.mpr ⟨h2, P.nd⟩
  have hpa' := Z0.mp hpa
  have hm : hd p ∈ a.map (·.2) := by rw [nm, mem_reverse]; exact hx
  have A : First S (en (-1) a) a := by
   refine ⟨⟨Zae G.sub hpa'.1, hnd⟩, rfl, λ b hb eb hlt => ?_⟩
   obtain ⟨f, A⟩ := G.fst a (Zae G.sub hpa'.1) P.ne
   have hfa : Wlt f a := by
    rcases Zc6 G.det hb.1 A.ok.1 with h | h | h
    ·exact absurd h (A.min b hb eb)
    ·rw [<- h]; exact hlt
    ·exact Zc5 h hlt
   rcases less (G.first_in A) (Zgz (b := f) (c := []) (by rw [append_nil]; exact hfa)) with h | ⟨c, z, h⟩
   ·rw [A.to, h1] at h
    exact h.2 mem_cons_self
   ·by_cases hf : f = []
    ·have := A.to
     rw [hf] at this
     exact Zbj G.nor (Zae G.sub hpa'.1) P.ne this.symm
    ·rcases Zen G.det A.ok.1 (Zae G.sub hpa'.1) hfa with ⟨e, c, h⟩ | h'
     ·refine Zcb (a := f) (b := e :: c) (x := en (-1) a) (by rw [<- h]; exact hnd) (by rw [<- A.to]; exact Zem hf) ?_
      rw [h, Zah]; exact Zem (cons_ne_nil _ _)
     ·have := h' (c :: z) [(p, hd p)]
      rw [h] at this
      exact Zbo this
  have e2 : ringOf (hd p) (hs hd ((u, q) :: st)) = ringP a (hd p) := by
   unfold ringOf ringP
   rw [hs_nm, <- nm]
  rw [e2]
  refine RingOk.mk (a := a) (e := (p, hd p)) ⟨A, hpa'.2.1, hm⟩ λ b f C => ?_
  have hb := G.first_in C.f
  have hbf : Pa S' (-1) (b ++ [f]) := Z0.mpr ⟨hb, C.s, trivial⟩
  rcases Zc6 G.det (Zae G.sub hbf) (Zae G.sub hpa) with h | h | h
  ·exfalso
   rcases less hbf h with h | ⟨c, z, h⟩
   ·rw [Zah] at h
    exact G.turn C (K.fi _ h)
   ·have h3 : a ++ [(p, hd p)] = (b ++ [f]) ++ c :: z := h
    rcases List.append_eq_append_iff.mp h3 with ⟨l, h4, h5⟩ | ⟨l, h4, h5⟩
    ·cases l with
     | nil =>
      rw [append_nil] at h4
      rw [<- h4] at hnd
      exact Zcb hnd C.m (mem_singleton.mpr rfl)
     | cons x l =>
      have := congrArg List.length h5
      simp at this
    ·rw [h4, append_assoc] at hnd
     exact Zcb hnd C.m (by simp)
  ·exact .inl h
  ·exact .inr h
end

noncomputable def OutG (S S' : Int -> Nat -> Int -> Prop) (sc : Int -> List Int) (seen : List Int) : FRes -> Prop
 | .ring r => RingOk S S' r
 | .out seen' => Ok sc seen' [] ∧ ∀ y ∈ seen, y ∈ seen'
section
variable {S S' : Int -> Nat -> Int -> Prop} {N : List Int} {pl : Int -> List Nat} {hd : Nat -> Int} {sc : Int -> List Int} (G : Gr S S' N pl hd sc)
include G
omit G in
theorem OutG.le {seen seenB : List Int} (h : ∀ y ∈ seen, y ∈ seenB) {res : FRes} (k : OutG S S' sc seenB res) : OutG S S' sc seen res := by
 cases res with
 | ring r => exact k
 | out s => exact ⟨k.1, λ y hy => k.2 y (h y hy)⟩
theorem Gr.run : ∀ n : Nat, (∀ (st : List (Int × List Nat)) (a : Pth) (seen : List Int) (res : FRes), Pe N pl hd (Fq seen (st.map (·.1))) st a -> Ok sc seen (st.map (·.1)) -> runF sc n (.proc (en (-1) a) (hs hd st) seen) = some res -> OutG S S' sc (en (-1) a :: seen) res) ∧
  (∀ (st : List (Int × List Nat)) (seen : List Int) (res : FRes), Bk N pl hd (Fq seen (st.map (·.1))) st -> Ok sc seen (st.map (·.1)) -> runF sc n (.back (hs hd st) seen) = some res -> OutG S S' sc seen res) := by
 intro n
 induction n with
 | zero => exact ⟨λ _ _ _ _ _ _ h => Zf h, λ _ _ _ _ _ h => Zf h⟩
 | succ n ih =>
  refine ⟨λ st a seen res P K h => ?_, λ st seen res B K h => ?_⟩
  ·obtain ⟨x, hx⟩ : ∃ x, en (-1) a = x := ⟨_, rfl⟩
   rw [Zjw, hs_nm] at h
   cases hse : decide (en (-1) a ∈ seen) with
   | true =>
    have hse' := of_decide_eq_true hse
    cases hk : decide (en (-1) a ∈ st.map (·.1)) with
    | true =>
     rw [hse, hk] at h
     cases h
     exact G.ring P K (of_decide_eq_true hk)
    | false =>
     rw [hse, hk] at h
     refine OutG.le ?_ (ih.2 st seen res (P.bk (λ _ h => h) ⟨hse', of_decide_eq_false hk⟩) K h)
     intro y hy
     rcases Qmc hy with rfl | hy
     ·exact hse'
     ·exact hy
   | false =>
    have hse' := of_decide_eq_false hse
    have h : runF sc n (.back (hs hd ((en (-1) a, pl (en (-1) a)) :: st)) (seen ++ [en (-1) a])) = some res := by
     rw [hse] at h
     have e : hs hd ((en (-1) a, pl (en (-1) a)) :: st) = (en (-1) a, sc (en (-1) a)) :: hs hd st := by
      unfold hs
      rw [map_cons, G.scE]
     rw [e]
     cases hk : decide (en (-1) a ∈ st.map (·.1)) with
     | true => rw [hk] at h; exact h
     | false => rw [hk] at h; exact h
    have hF : ∀ y, Fq seen (st.map (·.1)) y -> Fq (seen ++ [en (-1) a]) (((en (-1) a, pl (en (-1) a)) :: st).map (·.1)) y := λ y hy => ⟨mem_append_left _ hy.1, λ q => by
     rcases Qmc q with rfl | q
     ·exact hse' hy.1
     ·exact hy.2 q⟩
    have hF' : ∀ y, Fq (seen ++ [en (-1) a]) (((en (-1) a, pl (en (-1) a)) :: st).map (·.1)) y -> Fq seen (st.map (·.1)) y := λ y hy => by
     refine ⟨?_, λ q => hy.2 (mem_cons_of_mem _ q)⟩
     rcases Qma hy.1 with q | q
     ·exact q
     ·rw [mem_singleton] at q
      exact absurd (q ▸ mem_cons_self) hy.2
    refine OutG.le ?_ (ih.2 ((en (-1) a, pl (en (-1) a)) :: st) (seen ++ [en (-1) a]) res ⟨a, [], P.mono hF, rfl, λ q => hse' (K.ss _ q), rfl, λ r hr => nomatch hr⟩ ⟨λ y hy s hs => hF s (K.cl y (hF' y hy) s hs), λ y hy => K.fi y (hF' y hy), λ y hy => ?_, λ y hy => ?_⟩ h)
    ·intro y hy
     rcases Qmc hy with rfl | hy
     ·exact mem_append_right _ (mem_singleton.mpr rfl)
     ·exact mem_append_left _ hy
    ·rcases Qmc hy with rfl | hy
     ·exact mem_append_right _ (mem_singleton.mpr rfl)
     ·exact mem_append_left _ (K.ss y hy)
    ·rcases Qma hy with hy | hy
     ·exact K.nr y hy
     ·rw [mem_singleton] at hy; subst hy
      exact Zbj G.nor (Zae G.sub (P.pa G)) P.ne
  ·cases st with
   | nil => cases h; exact ⟨K, λ y hy => hy⟩
   | cons e st =>
    obtain ⟨x, q⟩ := e
    obtain ⟨a, dn, P, h1, h2, h3, h4⟩ := B
    cases q with
    | nil =>
     rw [append_nil] at h3
     have hF : ∀ y, Fq seen (((x, []) :: st).map (·.1)) y -> Fq seen (st.map (·.1)) y := λ y hy => ⟨hy.1, λ q => hy.2 (mem_cons_of_mem _ q)⟩
     have hF' : ∀ y, Fq seen (st.map (·.1)) y -> y = x ∨ Fq seen (((x, ([] : List Nat)) :: st).map (·.1)) y := λ y hy => by
      by_cases e : y = x
      ·exact .inl e
      ·exact .inr ⟨hy.1, λ q => (Qmc q).elim e hy.2⟩
     have hx : ∀ s ∈ sc x, Fq seen (((x, ([] : List Nat)) :: st).map (·.1)) s := λ s hs => by
      rw [G.scE, h3] at hs
      obtain ⟨r, hr, rfl⟩ := Qmm hs
      exact h4 r hr
     refine ih.2 st seen res (P.bk hF ⟨by rw [h1]; exact K.ss x mem_cons_self, by rw [h1]; exact h2⟩) ⟨λ y hy s hs => ?_, λ y hy => ?_, λ y hy => K.ss y (mem_cons_of_mem _ hy), K.nr⟩ h
     ·rcases hF' y hy with rfl | hy
      ·exact hF s (hx s hs)
      ·exact hF s (K.cl y hy s hs)
     ·rcases hF' y hy with rfl | hy
      ·exact Acc.intro _ λ s hs => K.fi s (hx s hs)
      ·exact K.fi y hy
    | cons p q =>
     have P' : Pe N pl hd (Fq seen (((x, q) :: st).map (·.1))) ((x, q) :: st) (a ++ [(p, hd p)]) := .step P h1 h2 h3 h4
     have e1 : en (-1) (a ++ [(p, hd p)]) = hd p := Zah
     have := ih.1 _ _ seen res P' K (by rw [e1]; exact h)
     exact OutG.le (λ y hy => mem_cons_of_mem _ hy) this
theorem Gr.find {n : Nat} {res : Option (List Int)} : ∀ (xs as seen : List Int), N = as ++ xs -> (∀ y ∈ as, y ∈ seen) -> Ok sc seen [] -> findF sc n xs seen = some res ->
  (match res with
   | none => ∀ y ∈ N, Fine sc y
   | some r => RingOk S S' r)
 | [], as, seen, e, ha, K, h => by
  cases h
  intro y hy
  rw [e, append_nil] at hy
  exact K.fi y ⟨ha y hy, λ q => nomatch q⟩
 | x :: xs, as, seen, e, ha, K, h => by
  have e' : N = (as ++ [x]) ++ xs := by rw [e, append_assoc]; rfl
  have ha' : ∀ seen' : List Int, (∀ y ∈ seen, y ∈ seen') -> x ∈ seen' -> ∀ y ∈ as ++ [x], y ∈ seen' := λ seen' h1 h2 y hy => by
   rcases Qma hy with hy | hy
   ·exact h1 y (ha y hy)
   ·rw [mem_singleton] at hy; rw [hy]; exact h2
  rw [Zgy] at h
  cases hd' : decide (x ∈ seen) with
  | true =>
   rw [hd'] at h
   exact Gr.find xs (as ++ [x]) seen e' (ha' seen (λ _ h => h) (of_decide_eq_true hd')) K h
  | false =>
   rw [hd'] at h
   try dsimp only at h
   have P : Pe N pl hd (Fq seen (([] : List (Int × List Nat)).map (·.1))) [] [(as.length, x)] := by
    refine .root (by rw [e, List.getElem?_append_right Qr, Nat.sub_self]; rfl) λ j y hj hy => ⟨ha y ?_, λ q => nomatch q⟩
    rw [e, List.getElem?_append_left hj] at hy
    exact mem_of_getElem? hy
   cases hr : runF sc n (.proc x [] seen) with
   | none => rw [hr] at h; cases h
   | some r =>
    rw [hr] at h
    have inv := (G.run n).1 [] _ seen r P K hr
    cases r with
    | ring r => cases h; exact inv
    | out seen' => exact Gr.find xs (as ++ [x]) seen' e' (ha' seen' (λ y hy => inv.2 y (mem_cons_of_mem _ hy)) (inv.2 x mem_cons_self)) inv.1 h
theorem Gr.none (hf : ∀ y ∈ N, Fine sc y) {b : Pth} {f : Nat × Int} (C : Clo S S' b f) : False := by
 have hp := G.first_in C.f
 obtain ⟨b1, b2, e1, h1, h2⟩ := en_at (v := -1) C.m
 refine G.turn C ?_
 rw [<- h2]
 rw [e1, Z0] at hp
 cases b1 with
 | nil => exact absurd rfl h1
 | cons e b1 =>
  have := hp.1
  exact G.fines (y := e.2) (G.nor _ _ _ (G.sub _ _ _ this.1)) (hf _ (mem_of_getElem? ((G.rt _ _).mp this.1))) this.2
end

noncomputable def wgt (sc : Int -> List Int) (a : Int) : Nat := 2 * (sc a).length + 1
noncomputable def Wt (sc : Int -> List Int) (U seen : List Int) : Nat := ((U.filter λ a => decide (a ∉ seen)).map (wgt sc)).sum
noncomputable def Sw (st : List (Int × List Int)) : Nat := (st.map λ e => 2 * e.2.length + 1).sum
section
variable {sc : Int -> List Int} {U : List Int}
theorem wt_go {seen : List Int} {x : Int} (hs : x ∉ seen) : ∀ (U : List Int), x ∈ U -> Wt sc U (seen ++ [x]) + wgt sc x <= Wt sc U seen ∧ True
 | [], h => nomatch h
 | a :: U, h => by
  have mono : ∀ (V : List Int), Wt sc V (seen ++ [x]) <= Wt sc V seen := λ V => by
   induction V with
   | nil => exact Qr
   | cons b V ih =>
    unfold Wt at ih ⊢
    simp only [filter_cons]
    by_cases h1 : b ∈ seen
    ·rw [if_neg (by simp [h1]), if_neg (by simp [h1])]; exact ih
    ·by_cases h2 : b = x
     ·rw [if_neg (by simp [h2]), if_pos (by simp [h1])]
      simp only [map_cons, sum_cons]; lia
     ·rw [if_pos (by simp [h1, h2]), if_pos (by simp [h1])]
      simp only [map_cons, sum_cons]; lia
  refine ⟨?_, trivial⟩
  by_cases e : a = x
  ·have m := mono U
   subst e
   unfold Wt at m ⊢
   simp only [filter_cons]
   rw [if_neg (by simp), if_pos (by simp [hs])]
   simp only [map_cons, sum_cons]; lia
  ·have ih := (wt_go hs U (by
    rcases Qmc h with h | h
    ·exact absurd h.symm e
    ·exact h)).1
   unfold Wt at ih ⊢
   simp only [filter_cons]
   by_cases h1 : a ∈ seen
   ·rw [if_neg (by simp [h1]), if_neg (by simp [h1])]; exact ih
   ·rw [if_pos (by simp [h1, e]), if_pos (by simp [h1])]
    simp only [map_cons, sum_cons]; lia
theorem wt_le (seen : List Int) : ∀ (U : List Int), Wt sc U seen <= Wt sc U []
 | [] => Qr
 | a :: U => by
  have ih := wt_le seen U
  unfold Wt at ih ⊢
  simp only [filter_cons]
  rw [if_pos (show (decide (a ∉ ([] : List Int))) = true by simp)]
  split
  ·simp only [map_cons, sum_cons]; omega
  ·simp only [map_cons, sum_cons]; omega
theorem Zoi (hU : ∀ a ∈ U, ∀ s ∈ sc a, s ∈ U) : ∀ (n : Nat) (f : FS),
  (match f with
   | .proc x st seen => 1 + Sw st + Wt sc U seen < n ∧ x ∈ U ∧ ∀ e ∈ st, ∀ s ∈ e.2, s ∈ U
   | .back st seen => Sw st + Wt sc U seen < n ∧ ∀ e ∈ st, ∀ s ∈ e.2, s ∈ U) -> ∃ res, runF sc n f = some res := by
 intro n
 induction n with
 | zero => intro f h; cases f <;> exact absurd h.1 (Nat.not_lt_zero _)
 | succ n ih =>
  intro f h
  cases f with
  | proc x st seen =>
   obtain ⟨h1, h2, h3⟩ := h
   rw [Zjw]
   cases hs : decide (x ∈ seen) with
   | true =>
    cases hk : decide (x ∈ st.map (·.1)) with
    | true => exact ⟨_, rfl⟩
    | false => exact ih (.back st seen) ⟨by lia, h3⟩
   | false =>
    have hw := (wt_go (sc := sc) (of_decide_eq_false hs) U h2).1
    have : ∃ res, runF sc n (.back ((x, sc x) :: st) (seen ++ [x])) = some res := ih _ ⟨by
     unfold Sw wgt at *
     simp only [map_cons, sum_cons]
     lia, λ e he => by
     rcases Qmc he with rfl | he
     ·exact hU x h2
     ·exact h3 e he⟩
    cases decide (x ∈ st.map (·.1)) <;> exact this
  | back st seen =>
   obtain ⟨h1, h2⟩ := h
   cases st with
   | nil => exact ⟨_, rfl⟩
   | cons e st =>
    obtain ⟨x, r⟩ := e
    unfold Sw at h1
    simp only [map_cons, sum_cons] at h1
    cases r with
    | nil => exact ih (.back st seen) ⟨by unfold Sw; simp only [length_nil] at h1; lia, λ e he => h2 e (mem_cons_of_mem _ he)⟩
    | cons y ys =>
     refine ih (.proc y ((x, ys) :: st) seen) ⟨?_, h2 _ mem_cons_self y mem_cons_self, λ e he => ?_⟩
     ·unfold Sw
      simp only [map_cons, sum_cons, length_cons] at h1 ⊢
      lia
     ·rcases Qmc he with rfl | he
      ·exact λ s hs => h2 _ mem_cons_self s (mem_cons_of_mem _ hs)
      ·exact h2 e (mem_cons_of_mem _ he)
theorem Zdg (hU : ∀ a ∈ U, ∀ s ∈ sc a, s ∈ U) {n : Nat} (hn : Wt sc U [] + 1 < n) : ∀ (xs seen : List Int), (∀ a ∈ xs, a ∈ U) -> ∃ res, findF sc n xs seen = some res
 | [], seen, _ => ⟨_, rfl⟩
 | x :: xs, seen, h => by
  rw [Zgy]
  have hx := λ a ha => h a (mem_cons_of_mem x ha)
  cases hd : decide (x ∈ seen) with
  | true => exact Zdg hU hn xs seen hx
  | false =>
   have := wt_le (sc := sc) seen U
   obtain ⟨r, hr⟩ := Zoi hU n (.proc x [] seen) ⟨by unfold Sw; simp; lia, h x mem_cons_self, λ e he => nomatch he⟩
   rw [hr]
   cases r with
   | ring r => exact ⟨_, rfl⟩
   | out seen' => exact Zdg hU hn xs seen' hx
end
end Mine
namespace Mine

noncomputable def yes (p : Prop) : Bool := @decide p (Classical.propDecidable p)
theorem Zbf {p : Prop} : yes p = true ↔ p := @decide_eq_true_iff p (Classical.propDecidable p)
inductive Way (E : Int -> Int -> Prop) : Int -> Int -> Prop
 | one {a b : Int} : E a b -> Way E a b
 | snoc {a b c : Int} : Way E a b -> E b c -> Way E a c
section
variable {E E' : Int -> Int -> Prop}
theorem Way.cons {a b c : Int} (h : E a b) (w : Way E b c) : Way E a c := by
 induction w with
 | one e => exact .snoc (.one h) e
 | snoc _ e ih => exact .snoc ih e
theorem Way.last {a c : Int} (w : Way E a c) : ∃ b, E b c ∧ (a = b ∨ Way E a b) := by
 cases w with
 | one e => exact ⟨a, e, .inl rfl⟩
 | snoc w e => exact ⟨_, e, .inr w⟩
theorem Way.flip {a b : Int} (w : Way E a b) : Way (λ a b => E b a) b a := by
 induction w with
 | one e => exact .one e
 | snoc _ e ih => exact .cons e ih
theorem Zgj {x : Int} (h : Acc E x) : ∀ z, (z = x ∨ Way E z x) -> ¬ Way E z z := by
 induction h with
 | intro x _ ih =>
  intro z hz w
  have : ∃ p, E p x ∧ Way E p p := by
   rcases hz with rfl | hz
   ·obtain ⟨p, e, q⟩ := w.last
    rcases q with rfl | q
    ·exact ⟨z, e, w⟩
    ·exact ⟨p, e, .cons e q⟩
   ·obtain ⟨p, e, q⟩ := hz.last
    rcases q with rfl | q
    ·exact ⟨z, e, w⟩
    ·exact absurd w (ih p e z (.inr q))
  obtain ⟨p, e, q⟩ := this
  exact ih p e p (.inl rfl) q
theorem Zgk {x : Int} (h : Acc E x) : ¬ Way E x x := Zgj h x (.inl rfl)
theorem Zhe {α : Type} {p q : α -> Prop} {a : α} : ∀ (U : List α), (∀ x, p x -> q x) -> a ∈ U -> q a -> ¬ p a -> (U.filter λ x => yes (p x)).length < (U.filter λ x => yes (q x)).length := by
 have le : ∀ (V : List α), (∀ x, p x -> q x) -> (V.filter λ x => yes (p x)).length <= (V.filter λ x => yes (q x)).length := λ V h => by
  induction V with
  | nil => exact Qr
  | cons b V ih =>
   simp only [filter_cons]
   by_cases hp : p b
   ·rw [if_pos (Zbf.mpr hp), if_pos (Zbf.mpr (h b hp))]; simpa using ih
   ·rw [if_neg (λ q => hp (Zbf.mp q))]
    split
    ·simp only [length_cons]; lia
    ·exact ih
 intro U h ha hq hp
 induction U with
 | nil => cases ha
 | cons b U ih =>
  simp only [filter_cons]
  by_cases e : b = a
  ·subst e
   rw [if_neg (λ q => hp (Zbf.mp q)), if_pos (Zbf.mpr hq)]
   have := le U h
   simp only [length_cons]; lia
  ·have := ih (by
    rcases Qmc ha with h | h
    ·exact absurd h.symm e
    ·exact h)
   by_cases hpb : p b
   ·rw [if_pos (Zbf.mpr hpb), if_pos (Zbf.mpr (h b hpb))]; simpa using this
   ·rw [if_neg (λ q => hpb (Zbf.mp q))]
    split
    ·simp only [length_cons]; lia
    ·exact this
theorem Znc (U : List Int) (hU : ∀ a b, E a b -> a ∈ U) : ∀ (n : Nat) (x : Int), (U.filter λ a => yes (Way E a x)).length < n -> (∀ z, (z = x ∨ Way E z x) -> ¬ Way E z z) -> Acc E x := by
 intro n
 induction n with
 | zero => intro x h; lia
 | succ n ih =>
  intro x hn h
  refine Acc.intro x λ p e => ih p ?_ λ z hz w => ?_
  ·have := Zhe (p := λ a => Way E a p) (q := λ a => Way E a x) (a := p) U (λ a w => .snoc w e) (hU p x e) (.one e) (h p (.inr (.one e)))
   lia
  ·rcases hz with rfl | hz
   ·exact h z (.inr (.one e)) w
   ·exact h z (.inr (.snoc hz e)) w
theorem Zlw (U : List Int) (hU : ∀ a b, E a b -> a ∈ U) (x : Int) : Acc E x ↔ ∀ z, (z = x ∨ Way E z x) -> ¬ Way E z z :=
 ⟨Zgj, Znc U hU _ x (Nat.lt_succ_self _)⟩
theorem Zrp (U : List Int) (hU : ∀ a b, E a b -> a ∈ U ∧ b ∈ U) : (∀ x ∈ U, Acc E x) ↔ ∀ x ∈ U, Acc (λ a b => E b a) x := by
 have k1 : (∀ x ∈ U, Acc E x) ↔ ∀ z, ¬ Way E z z := by
  constructor
  ·intro h z w
   obtain ⟨p, e, _⟩ := w.last
   exact Zgk (h z (hU _ _ e).2) w
  ·intro h x _
   exact (Zlw U (λ a b e => (hU a b e).1) x).mpr λ z _ => h z
 have k2 : (∀ x ∈ U, Acc (λ a b => E b a) x) ↔ ∀ z, ¬ Way (λ a b => E b a) z z := by
  constructor
  ·intro h z w
   obtain ⟨p, e, _⟩ := w.last
   exact Zgk (h z (hU _ _ e).1) w
  ·intro h x _
   exact (Zlw U (λ a b e => (hU b a e).2) x).mpr λ z _ => h z
 rw [k1, k2]
 exact ⟨λ h z w => h z w.flip, λ h z w => h z w.flip⟩
end
noncomputable abbrev Ed := List (Int × Int)
noncomputable abbrev St1 (ts : Ed) (a b : Int) : Prop := (a, b) ∈ ts
noncomputable abbrev Fr (ts : Ed) (a : Int) : Prop := Acc (St1 ts) a
noncomputable def scL (ts : Ed) (a : Int) : List Int := (ts.filter λ e => e.1 == a).map (·.2)
noncomputable def lastOcc : List Int -> List Int
 | [] => []
 | x :: xs => match decide (x ∈ xs) with
  | true => lastOcc xs
  | false => x :: lastOcc xs
theorem Zeo {x : Int} {xs : List Int} : lastOcc (x :: xs) = (match decide (x ∈ xs) with | true => lastOcc xs | false => x :: lastOcc xs) := rfl
theorem Zhf : lastOcc [] = [] := rfl
theorem Za5 {ts : Ed} {a b : Int} : b ∈ scL ts a ↔ (a, b) ∈ ts := by
 unfold scL
 rw [mem_map]
 constructor
 ·rintro ⟨⟨x, y⟩, h, rfl⟩
  rw [mem_filter] at h
  have := h.2
  simp at this
  subst this; exact h.1
 ·intro h; exact ⟨(a, b), mem_filter.mpr ⟨h, by simp⟩, rfl⟩
theorem Za6 {x : Int} : ∀ {xs : List Int}, x ∈ lastOcc xs ↔ x ∈ xs
 | [] => by simp [Zhf]
 | y :: ys => by
  rw [Zeo]
  have ih := Za6 (x := x) (xs := ys)
  cases h : decide (y ∈ ys) with
  | true =>
   have hy := of_decide_eq_true h
   rw [ih, mem_cons]
   exact ⟨.inr, λ q => q.elim (λ e => e ▸ hy) id⟩
  | false => rw [mem_cons, mem_cons, ih]
theorem Zb3 : ∀ (xs : List Int), (lastOcc xs).Nodup
 | [] => nodup_nil
 | y :: ys => by
  rw [Zeo]
  cases h : decide (y ∈ ys) with
  | true => exact Zb3 ys
  | false =>
   rw [nodup_cons, Za6]
   exact ⟨of_decide_eq_false h, Zb3 ys⟩
noncomputable def cnt (ts : Ed) (D : List Int) (a : Int) : Nat := (ts.filter λ e => e.2 == a && !decide (e.1 ∈ D)).length
noncomputable abbrev allIn (ts : Ed) (D : List Int) (a : Int) : Prop := ∀ p, (p, a) ∈ ts -> p ∈ D
theorem Zfx {ts : Ed} {D : List Int} {a : Int} : cnt ts D a = 0 ↔ allIn ts D a := by
 unfold cnt
 rw [List.length_eq_zero_iff, List.filter_eq_nil_iff]
 constructor
 ·intro h p hp
  have := h _ hp
  simp at this
  exact this
 ·rintro h ⟨p, b⟩ hp
  simp
  intro e; subst e; exact h p hp
noncomputable def one (b : Bool) : Nat := match b with
 | true => 1
 | false => 0
theorem Zj1 (x y : Int) (ts : Ed) (D : List Int) (a : Int) : cnt ((x, y) :: ts) D a = cnt ts D a + one (y == a && !decide (x ∈ D)) := by
 unfold cnt
 rw [filter_cons]
 dsimp only
 cases (y == a && !decide (x ∈ D)) <;> rfl
theorem Zrq (x y : Int) (ts : Ed) (b a : Int) : (scL ((x, y) :: ts) b).count a = (scL ts b).count a + one (x == b && y == a) := by
 unfold scL
 rw [filter_cons]
 dsimp only
 cases x == b with
 | false => rfl
 | true =>
  rw [if_pos rfl, map_cons, List.count_cons, Bool.true_and]
  dsimp only
  cases y == a <;> rfl
theorem Zoj (D : List Int) (b x y a : Int) (hb : b ∉ D) : one (y == a && !decide (x ∈ D)) = one (y == a && !decide (x ∈ D ++ [b])) + one (x == b && y == a) := by
 cases y == a with
 | false => rw [Bool.and_false]; rfl
 | true =>
  by_cases e : x = b
  ·subst e
   rw [decide_eq_false hb, decide_eq_true (mem_append_right D mem_cons_self), beq_self_eq_true]; rfl
  ·have : decide (x ∈ D ++ [b]) = decide (x ∈ D) := decide_eq_decide.mpr ⟨λ h => (Qma h).resolve_right λ q => e (Qms q), mem_append_left _⟩
   rw [this, beq_eq_false_iff_ne.mpr e]; rfl
theorem Zfy {ts : Ed} {D : List Int} {b a : Int} (hb : b ∉ D) : cnt ts D a = cnt ts (D ++ [b]) a + (scL ts b).count a := by
 induction ts with
 | nil => rfl
 | cons e ts ih =>
  obtain ⟨x, y⟩ := e
  rw [Zj1, Zj1, Zrq, ih, Zoj D b x y a hb, Nat.add_add_add_comm]
theorem Zsi {ts : Ed} {D : List Int} {b a : Int} (hb : b ∉ D) : (scL ts b).count a <= cnt ts D a := by
 rw [Zfy hb]; lia
noncomputable def newly (ts : Ed) (D : List Int) (b : Int) : List Int := (lastOcc (scL ts b)).filter λ a => cnt ts D a == 0
theorem Zhg {ts : Ed} {D : List Int} {a b : Int} : a ∈ newly ts D b ↔ (b, a) ∈ ts ∧ allIn ts D a := by
 unfold newly
 rw [mem_filter, Za6, Za5, beq_iff_eq, Zfx]
theorem Zk3 {ts : Ed} {D : List Int} {b : Int} : (newly ts D b).Nodup := (Zb3 _).sublist List.filter_sublist
end Mine
namespace Mine
open PySem PySem.W PyProof.Rows

theorem Zj2 : ∀ (xs : List Int) (T : TSt), (∀ s ∈ xs, (xs.count s : Int) <= T.np s) ->
  (xs.foldl decT T).np = (λ s => T.np s - xs.count s) ∧ (xs.foldl decT T).ready = T.ready.map (· ++ (lastOcc xs).filter λ s => T.np s == (xs.count s : Int))
 | [], T, _ => by
  refine ⟨by funext s; simp, ?_⟩
  show T.ready = _
  cases T.ready <;> simp [Zhf]
 | x :: xs, T, h => by
  have hx := h x mem_cons_self
  rw [count_cons_self] at hx
  have npd : (decT T x).np = λ s => if s = x then T.np x - 1 else T.np s := rfl
  have cne : ∀ s, s ≠ x -> (x :: xs).count s = xs.count s := λ s e => List.count_cons_of_ne (Ne.symm e)
  have hle : ∀ s ∈ xs, (xs.count s : Int) <= (decT T x).np s := λ s hs => by
   rw [npd]
   by_cases e : s = x
   ·subst e; simp only [if_true]; lia
   ·simp only [if_neg e]
    have := h s (mem_cons_of_mem _ hs)
    rw [cne s e] at this; exact this
  obtain ⟨ih1, ih2⟩ := Zj2 xs (decT T x) hle
  refine ⟨?_, ?_⟩
  ·rw [foldl_cons, ih1, npd]
   funext s
   by_cases e : s = x
   ·subst e; simp only [if_true]; rw [count_cons_self]; lia
   ·simp only [if_neg e]; rw [cne s e]
  ·rw [foldl_cons, ih2]
   have hr : (decT T x).ready = if T.np x - 1 = 0 then T.ready.map (· ++ [x]) else T.ready := rfl
   rw [hr]
   have hf : ∀ l : List Int, (∀ s ∈ l, s ∈ xs) -> l.filter (λ s => (decT T x).np s == (xs.count s : Int)) = l.filter λ s => T.np s == ((x :: xs).count s : Int) := λ l hl => by
    refine filter_congr λ s hs => ?_
    rw [npd]
    by_cases e : s = x
    ·subst e; simp only [if_true]; rw [count_cons_self, Bool.eq_iff_iff, beq_iff_eq, beq_iff_eq]; lia
    ·simp only [if_neg e]; rw [cne s e]
   rw [hf (lastOcc xs) λ s hs => Za6.mp hs]
   rw [Zeo]
   by_cases hz : T.np x - 1 = 0
   ·rw [if_pos hz]
    have c0 : xs.count x = 0 := by lia
    have hn : x ∉ xs := count_eq_zero.mp c0
    rw [decide_eq_false hn]
    try dsimp only
    rw [filter_cons, count_cons_self, if_pos (by rw [beq_iff_eq]; lia)]
    cases T.ready <;> simp
   ·rw [if_neg hz]
    by_cases hn : x ∈ xs
    ·rw [decide_eq_true hn]
    ·rw [decide_eq_false hn]
     try dsimp only
     rw [filter_cons, count_cons_self, if_neg (by rw [beq_iff_eq, count_eq_zero.mpr hn]; lia)]
structure Bt (ns : List Int) (ts : Ed) (T : TSt) : Prop where
 order : T.order = ns
 sc : T.sc = scL ts
 np : ∀ a ∈ ns, T.np a = cnt ts [] a
 ready : T.ready = none
 passed : T.passed = 0
 fin : T.fin = 0
 tin : ∀ e ∈ ts, e.1 ∈ ns ∧ e.2 ∈ ns
theorem Zlx {ts : Ed} {a : Int} (h : ∀ e ∈ ts, e.1 ≠ a) : scL ts a = [] := by
 unfold scL
 rw [List.map_eq_nil_iff, List.filter_eq_nil_iff]
 intro e he; simpa using h e he
theorem Zly {ts : Ed} {D : List Int} {a : Int} (h : ∀ e ∈ ts, e.2 ≠ a) : cnt ts D a = 0 := by
 rw [Zfx]; intro p hp; exact absurd rfl (h _ hp)
theorem Bt.nil : Bt [] [] T0 := ⟨rfl, rfl, (λ a h => nomatch h), rfl, rfl, rfl, λ e h => nomatch h⟩
theorem Bt.name {ns : List Int} {ts : Ed} {T : TSt} (B : Bt ns ts T) {a : Int} (ha : a ∉ ns) : Bt (ns ++ [a]) ts (addT T a []) := by
 have e1 : infoT T a = { T with order := T.order ++ [a], np := upd T.np a 0, sc := upd T.sc a [] } := if_neg (by rw [B.order]; exact ha)
 have e : addT T a [] = { order := T.order ++ [a], np := upd (upd T.np a 0) a (upd T.np a 0 a + 0), sc := upd T.sc a [], ready := T.ready, passed := T.passed, fin := T.fin } := by
  show ({ infoT T a with np := upd (infoT T a).np a ((infoT T a).np a + 0) } : TSt) = _
  rw [e1]
 rw [e]
 refine ⟨by dsimp only; rw [B.order], ?_, λ b hb => ?_, B.ready, B.passed, B.fin, λ e he => ⟨mem_append_left _ (B.tin e he).1, mem_append_left _ (B.tin e he).2⟩⟩
 ·funext b
  show upd T.sc a [] b = _
  unfold upd
  split
  ·rename_i q; subst q
   exact (Zlx λ e he q => ha (by rw [<- q]; exact (B.tin e he).1)).symm
  ·rw [B.sc]
 ·show upd (upd T.np a 0) a (upd T.np a 0 a + 0) b = _
  by_cases q : b = a
  ·subst q; rw [Zp, Zp, Zly λ e he q => ha (by rw [<- q]; exact (B.tin e he).2)]; rfl
  ·rw [Zv q, Zv q]
   rcases Qma hb with hb | hb
   ·exact B.np b hb
   ·rw [mem_singleton] at hb; exact absurd hb q
theorem Zrr {ts ts' : Ed} {D : List Int} {a : Int} : cnt (ts ++ ts') D a = cnt ts D a + cnt ts' D a := by unfold cnt; rw [filter_append, length_append]
theorem Zrs {ts ts' : Ed} {a : Int} : scL (ts ++ ts') a = scL ts a ++ scL ts' a := by unfold scL; rw [filter_append, map_append]
theorem Bt.step {ns : List Int} {ts : Ed} {T : TSt} (B : Bt ns ts T) {t h : Int} (ht : t ∈ ns) (hh : h ∈ ns) : Bt ns (ts ++ [(t, h)]) (addT T h [t]) := by
 have e1 : infoT T h = T := if_pos (by rw [B.order]; exact hh)
 have e2 : ∀ U : TSt, U.order = T.order -> infoT U t = U := λ U q => if_pos (by rw [q, B.order]; exact ht)
 have e : addT T h [t] = { T with np := upd T.np h (T.np h + 1), sc := upd T.sc t (T.sc t ++ [h]) } := by
  show edgeT h { infoT T h with np := upd (infoT T h).np h ((infoT T h).np h + 1) } t = _
  rw [e1]
  have e3 := e2 { T with np := upd T.np h (T.np h + 1) } rfl
  show ({ infoT { T with np := upd T.np h (T.np h + 1) } t with sc := upd (infoT { T with np := upd T.np h (T.np h + 1) } t).sc t ((infoT { T with np := upd T.np h (T.np h + 1) } t).sc t ++ [h]) } : TSt) = _
  rw [e3]
 rw [e]
 refine ⟨B.order, ?_, λ b hb => ?_, B.ready, B.passed, B.fin, λ e he => ?_⟩
 ·funext b
  show upd T.sc t (T.sc t ++ [h]) b = _
  rw [Zrs]
  unfold upd
  split
  ·rename_i q; subst q
   rw [B.sc]
   congr 1
   unfold scL; simp
  ·rename_i q
   rw [B.sc, Zlx (ts := [(t, h)]) (λ e he q' => by rw [mem_singleton] at he; subst he; exact q q'.symm), append_nil]
 ·show upd T.np h (T.np h + 1) b = _
  rw [Zrr]
  unfold upd
  split
  ·rename_i q; subst q
   rw [B.np b hb]
   have : cnt [(t, b)] [] b = 1 := by unfold cnt; simp
   rw [this]; rfl
  ·rename_i q
   rw [B.np b hb, Zly (ts := [(t, h)]) (λ e he q' => by rw [mem_singleton] at he; subst he; exact q q'.symm)]; rfl
 ·rcases Qma he with he | he
  ·exact B.tin e he
  ·rw [mem_singleton] at he; subst he; exact ⟨ht, hh⟩
structure Kn (ns : List Int) (ts : Ed) (T : TSt) (O D rd : List Int) : Prop where
 order : T.order = ns
 sc : T.sc = scL ts
 np : ∀ a ∈ ns, T.np a = if a ∈ D then -2 else if a ∈ O then -1 else (cnt ts D a : Int)
 ready : T.ready = some rd
 passed : T.passed = O.length
 fin : T.fin = D.length
 nnd : ns.Nodup
 ond : O.Nodup
 dnd : D.Nodup
 dO : ∀ a ∈ D, a ∈ O
 oN : ∀ a ∈ O, a ∈ ns
 cl : ∀ a ∈ O, allIn ts D a
 rnd : rd.Nodup
 rm : ∀ a, a ∈ rd ↔ a ∈ ns ∧ a ∉ O ∧ allIn ts D a
 tin : ∀ e ∈ ts, e.1 ∈ ns ∧ e.2 ∈ ns
section
variable {ns : List Int} {ts : Ed} {T : TSt} {O D rd : List Int}
theorem Bt.start (B : Bt ns ts T) (hn : ns.Nodup) : Kn ns ts (readyT T) [] [] (ns.filter λ a => cnt ts [] a == 0) := by
 refine ⟨B.order, B.sc, λ a ha => ?_, ?_, B.passed, B.fin, hn, nodup_nil, nodup_nil, (λ a h => nomatch h), (λ a h => nomatch h), (λ a h => nomatch h), hn.sublist List.filter_sublist, λ a => ?_, B.tin⟩
 ·rw [if_neg (λ h => nomatch h), if_neg (λ h => nomatch h)]; exact B.np a ha
 ·show some _ = some _
  rw [B.order]
  congr 1
  refine filter_congr λ a ha => ?_
  rw [B.np a ha, Bool.eq_iff_iff, beq_iff_eq, beq_iff_eq]; lia
 ·rw [mem_filter, beq_iff_eq, Zfx]
  simp
theorem Kn.get (K : Kn ns ts T O D rd) : Kn ns ts (getT T rd) (O ++ rd) D [] := by
 refine ⟨K.order, K.sc, λ a ha => ?_, rfl, ?_, K.fin, K.nnd, ?_, K.dnd, λ a h => mem_append_left _ (K.dO a h), λ a h => ?_, λ a h => ?_, nodup_nil, λ a => ?_, K.tin⟩
 ·show (if a ∈ rd then (-1 : Int) else T.np a) = _
  by_cases h1 : a ∈ rd
  ·have h2 : a ∉ D := λ h => ((K.rm a).mp h1).2.1 (K.dO a h)
   rw [if_pos h1, if_neg h2, if_pos (mem_append_right _ h1)]
  ·rw [if_neg h1, K.np a ha]
   simp [h1]
 ·show T.passed + (rd.length : Int) = _
  rw [K.passed, length_append]; lia
 ·exact nodup_append.mpr ⟨K.ond, K.rnd, λ a h b h' e => ((K.rm b).mp h').2.1 (e ▸ h)⟩
 ·exact (Qma h).elim (K.oN a) λ h => ((K.rm a).mp h).1
 ·exact (Qma h).elim (K.cl a) λ h => ((K.rm a).mp h).2.2
 ·constructor
  ·intro h; cases h
  ·rintro ⟨h1, h2, h3⟩
   exact absurd (mem_append_right O ((K.rm a).mpr ⟨h1, λ h => h2 (mem_append_left _ h), h3⟩)) h2
theorem Kn.done (K : Kn ns ts T O D rd) {b : Int} (hb : b ∈ O) (hd : b ∉ D) : Kn ns ts (fin1 T b) O (D ++ [b]) (rd ++ newly ts (D ++ [b]) b) := by
 have notO : ∀ s, (b, s) ∈ ts -> s ∉ O := λ s hs ho => hd (K.cl s ho b hs)
 have bb : (b, b) ∉ ts := λ h => notO b h hb
 have b0 : (scL ts b).count b = 0 := count_eq_zero.mpr λ h => bb (Za5.mp h)
 have npU : ∀ s ∈ scL ts b, (upd T.np b (-2)) s = (cnt ts D s : Int) := λ s hs => by
  have h1 := Za5.mp hs
  have h2 : s ≠ b := λ e => bb (e ▸ h1)
  have h3 := notO s h1
  rw [Zv h2, K.np s (K.tin _ h1).2, if_neg (λ h => h3 (K.dO s h)), if_neg h3]
 obtain ⟨k1, k2⟩ := Zj2 (scL ts b) { T with np := upd T.np b (-2) } λ s hs => by
  show _ <= upd T.np b (-2) s
  rw [npU s hs]
  exact Int.ofNat_le.mpr (Zsi hd)
 have e : fin1 T b = { (scL ts b).foldl decT { T with np := upd T.np b (-2) } with fin := T.fin + 1 } := by
  unfold fin1
  rw [K.sc, Zjr]
 rw [e]
 refine ⟨(Za4 _ _).trans K.order, (Ze0 _ _).trans K.sc, λ a ha => ?_, ?_, (Zfg _ _).trans K.passed, ?_, K.nnd, K.ond, ?_, λ a h => ?_, K.oN, λ a h p hp => mem_append_left _ (K.cl a h p hp), ?_, λ a => ?_, K.tin⟩
 ·show ((scL ts b).foldl decT { T with np := upd T.np b (-2) }).np a = _
  rw [k1]
  show upd T.np b (-2) a - _ = _
  by_cases h1 : a = b
  ·subst h1; rw [Zp, b0, if_pos (by simp)]; rfl
  ·rw [Zv h1]
   have npa := K.np a ha
   by_cases h2 : a ∈ D
   ·have : (scL ts b).count a = 0 := count_eq_zero.mpr λ h => notO a (Za5.mp h) (K.dO a h2)
    rw [npa, if_pos h2, if_pos (mem_append_left _ h2), this]; rfl
   ·rw [if_neg (show a ∉ D ++ [b] by simp [h1, h2]), npa, if_neg h2]
    by_cases h3 : a ∈ O
    ·have : (scL ts b).count a = 0 := count_eq_zero.mpr λ h => notO a (Za5.mp h) h3
     rw [if_pos h3, if_pos h3, this]; rfl
    ·rw [if_neg h3, if_neg h3, Zfy hd]
     lia
 ·show ((scL ts b).foldl decT { T with np := upd T.np b (-2) }).ready = _
  rw [k2]
  show T.ready.map _ = _
  rw [K.ready]
  show some (rd ++ _) = some (rd ++ _)
  congr 2
  unfold newly
  refine filter_congr λ s hs => ?_
  show (upd T.np b (-2) s == _) = _
  rw [npU s (Za6.mp hs), Zfy hd, Bool.eq_iff_iff, beq_iff_eq, beq_iff_eq]
  lia
 ·show T.fin + 1 = _
  rw [K.fin, length_append, length_singleton]; rfl
 ·exact nodup_append.mpr ⟨K.dnd, by simp, λ a h c h' q => by rw [mem_singleton] at h'; exact hd (by rw [<- h', <- q]; exact h)⟩
 ·rcases Qma h with h | h
  ·exact K.dO a h
  ·rw [mem_singleton] at h; rw [h]; exact hb
 ·refine nodup_append.mpr ⟨K.rnd, Zk3, λ a h c h' q => ?_⟩
  subst q
  exact hd (((K.rm a).mp h).2.2 b (Zhg.mp h').1)
 ·rw [List.mem_append, K.rm, Zhg]
  constructor
  ·rintro (⟨h1, h2, h3⟩ | ⟨h1, h2⟩)
   ·exact ⟨h1, h2, λ p hp => mem_append_left _ (h3 p hp)⟩
   ·exact ⟨(K.tin _ h1).2, notO a h1, h2⟩
  ·rintro ⟨h1, h2, h3⟩
   by_cases q : (b, a) ∈ ts
   ·exact .inr ⟨q, h3⟩
   ·refine .inl ⟨h1, h2, λ p hp => ?_⟩
    rcases Qma (h3 p hp) with h | h
    ·exact h
    ·rw [mem_singleton] at h; subst h; exact absurd hp q
end

section
variable {hp : List MO} {fr : List PV} {E : Value -> St -> Prop}
theorem Wp.G8 {i j : Int} {μ : St} {Q : Bool -> St -> Prop} (h : Q (decide (i < j)) μ) : Wp (pCmp .Lt (.int i) (.int j)) μ Q E := Wp.J rfl h
theorem Wp.C5 {op : Operator} {f g : PM PV} {μ : St} {Q : PV -> St -> Prop} (h : Wp f μ (λ x μ' => Wp g μ' (λ y μ'' => Wp (pBin op x y) μ'' Q E) E) E) : Wp (Mine.eBin op f g) μ Q E := Wp.C (h.mono (λ _ _ h => Wp.C h) λ _ _ e => e)
theorem Wp.addI {i j : Int} {μ : St} {Q : PV -> St -> Prop} (h : Q (.int (i + j)) μ) : Wp (pBin .Add (.int i) (.int j)) μ Q E := Wp.J rfl h
theorem Wp.F0 {i j : Int} {μ : St} {Q : PV -> St -> Prop} (hj : j ≠ 0) (h : Q (.int (i.fmod j)) μ) : Wp (pBin .Mod (.int i) (.int j)) μ Q E := by
 refine Wp.J ?_ h
 show (pArith (λ i j => i.fmod j) (λ j => j != 0) (.int i) (.int j) : PM PV) μ = _
 unfold pArith
 try dsimp only
 rw [show (j != 0) = true from bne_iff_ne.mpr hj]
theorem Wp.H5 {i j : Int} {μ : St} {Q : PV -> St -> Prop} (hj : j ≠ 0) (hb : j.natAbs < 1000) (h : Q (.int (i.fdiv j)) μ) : Wp (pBin .FloorDiv (.int i) (.int j)) μ Q E := by
 refine Wp.J ?_ h
 show (pArith (λ i j => i.fdiv j) (λ j => j != 0 && decide (j.natAbs < 1000)) (.int i) (.int j) : PM PV) μ = _
 unfold pArith
 try dsimp only
 rw [show ((j != 0) && decide (j.natAbs < 1000)) = true by rw [bne_iff_ne.mpr hj, decide_eq_true hb]; rfl]
theorem Wp.B3 {n : Int} {μ : St} {Q : PV -> St -> Prop} (h : Q (.rng 0 n 1) μ) : Wp (pRange [.int n]) μ Q E := Wp.J rfl h
theorem Zj3 {n k : Nat} (h : k < n) (hn : n <= 1000000) : pIdx n (k : Int) = some k := by
 have h1 : (k : Int) < 4611686018427387904 := by lia
 have e : (2 : Int) ^ 62 = 4611686018427387904 := by decide
 unfold pIdx
 rw [if_pos (Int.natCast_nonneg k), e, if_pos h1, Int.toNat_natCast]
theorem Zj4 {xs : List PV} {k : Nat} {y : PV} (hy : xs[k]? = some y) (hl : xs.length <= 1000000) : (pIdx xs.length (k : Int)).bind (λ i => xs[i]?) = some y := by
 rw [Zj3 (Qgl hy) hl, Option.bind_some]
 exact hy
theorem Zj5 {xs : List PV} {z : Int} {y : PV} {μ : St} (e : (pIdx xs.length z).bind (λ i => xs[i]?) = some y) : pGet (.tup xs) (.int z) μ = .ok y μ := by
 unfold pGet
 try dsimp only
 rw [e]
theorem Zj6 {xs : List PV} {z : Int} {y : PV} {μ : St} (e : (pIdx xs.length z).bind (λ i => xs[i]?) = some y) : pGet (.lst xs) (.int z) μ = .ok y μ := by
 unfold pGet
 try dsimp only
 rw [e]
theorem Zj7 {i : Nat} {xs : List PV} {z : Int} {y : PV} {μ : St} (h : μ.hp[i]? = some (.lst xs)) (e : (pIdx xs.length z).bind (λ i => xs[i]?) = some y) : pGet (.obj i) (.int z) μ = .ok y μ := by
 unfold pGet
 try dsimp only
 rw [h]
 try dsimp only
 rw [e]
theorem Wp.H4 {x : PV} {xs : List PV} {k : Nat} {y : PV} {μ : St} {Q : PV -> St -> Prop} (e : isLst μ.hp x = some xs ∨ x = .tup xs) (hy : xs[k]? = some y) (hl : xs.length <= 1000000) (h : Q y μ) : Wp (pGet x (.int k)) μ Q E := by
 have b := Zj4 hy hl
 generalize (k : Int) = z at b ⊢
 refine Wp.J ?_ h
 rcases e with e | rfl
 ·unfold isLst at e
  cases x <;> dsimp only at e <;> first | (cases e; done) | skip
  ·cases e; exact Zj6 b
  ·split at e
   ·rename_i q; cases e; exact Zj7 q b
   ·cases e
 ·exact Zj5 b
theorem Wp.I7 {op : Operator} {g k f : PM PV} {μ : St} {Q : MF -> St -> Prop} (h : Wp g μ (λ x μ1 => Wp k μ1 (λ i μ2 => Wp (pGet x i) μ2 (λ old μ3 => Wp f μ3 (λ v μ4 => Wp (pInp op old v) μ4 (λ new μ5 => Wp (pSetItem x i new) μ5 (λ _ μ6 => Q .next μ6) E) E) E) E) E) E) : Wp (sAugSub op g k f) μ Q E :=
 Wp.C (h.mono (λ _ _ h => Wp.C (h.mono (λ _ _ h => Wp.C (h.mono (λ _ _ h => Wp.C (h.mono (λ _ _ h => Wp.C (h.mono (λ _ _ h => Wp.A9 h) λ _ _ e => e)) λ _ _ e => e)) λ _ _ e => e)) λ _ _ e => e)) λ _ _ e => e)
theorem Wp.I2 {fo fe : PM PV} {μ : St} {Q : PV -> St -> Prop} (h : Wp fo μ (λ x μ1 => ∃ i xs, x = .obj i ∧ μ1.hp[i]? = some (.lst xs) ∧ Wp fe μ1 (λ z μ2 => ∃ (w : Int) (k : Nat) (ys : List PV) (y : PV), z = .int w ∧ pIdx ys.length w = some k ∧ μ2.hp[i]? = some (.lst ys) ∧ ys[k]? = some y ∧ ys.length <= 1000000 ∧ Q y ⟨μ2.fr, μ2.hp.set i (.lst (ys.eraseIdx k))⟩) E) E) : Wp (Mine.mPopAt fo fe) μ Q E :=
 Wp.C (h.mono (λ x μ1 hh => by
  obtain ⟨i, xs, e, e2, h⟩ := hh
  subst e
  obtain ⟨fr, hp⟩ := μ1
  refine Wp.C (Wp.X e2 (Wp.C (h.mono (λ z μ2 hh => ?_) λ _ _ e => e)))
  obtain ⟨w, k, ys, y, e, ew, e3, hy, hl, h⟩ := hh
  subst e
  obtain ⟨fr, hp⟩ := μ2
  have hk := (Qgl hy)
  refine Wp.C (Wp.X e3 (Wp.C (Wp.A6 (decide_eq_true hl) ?_)))
  try dsimp only
  rw [ew]
  try dsimp only
  rw [hy]
  exact Wp.C (Wp.C3 (Wp.R h))) λ _ _ e => e)
theorem Wp.sum {x : PV} {xs : List PV} {is : List Int} {μ : St} {Q : PV -> St -> Prop} (e : isLst μ.hp x = some xs) (ei : intsOf xs = some is) (h : Q (.int is.sum) μ) : Wp (pSum [x]) μ Q E := by
 refine Wp.C (Wp.J (a := is) (μ' := μ) ?_ (Wp.mk h))
 unfold lstM
 rw [e]; try dsimp only
 rw [ei]
theorem Zbb : ∀ (is : List Int), intsOf (is.map PV.int) = some is
 | [] => rfl
 | i :: is => by rw [map_cons, Zo0, Zbb is]; rfl
end

theorem Zb9 {i : Int} (h : i.natAbs <= 1000001) : Builtin.Range.rangeFitsLong i = true := by
 unfold Builtin.Range.rangeFitsLong
 have e : (2 : Int) ^ 63 = 9223372036854775808 := by decide
 rw [e, Bool.and_eq_true, decide_eq_true_eq, decide_eq_true_eq]
 omega
theorem Zlz {n : Nat} : Builtin.Range.rangeSize 0 n 1 = n := by
 unfold Builtin.Range.rangeSize
 rw [if_pos (by lia)]
 split
 ·rw [Int.ediv_one]; lia
 ·lia
theorem Zpx {n : Nat} (h : n <= 1000000) : Builtin.Range.small 0 n 1 = true := by
 unfold Builtin.Range.small
 rw [Zlz, Zb9 (i := 0) (by lia), Zb9 (i := n) (by lia), Zb9 (i := 1) (by lia), if_pos (by lia), Zb9 (i := (n : Int) + (1 - 1)) (by lia)]
 simp only [Bool.and_self, Bool.or_true]
theorem Zbp {n k : Nat} (h : n <= 1000000) (hk : k <= n) {μ0 μ : St} : getOf (.rng 0 n 1) μ0 k μ = some (if k < n then some (.int k) else none) := by
 unfold getOf
 try dsimp only
 rw [if_pos (Zpx h)]
 have e := Zlz (n := n)
 rw [e]
 by_cases q : k < n
 ·rw [if_pos (by lia), if_pos q]; simp
 ·rw [if_neg (by lia), if_neg q]

noncomputable def putS (ys : List Int) (p : Nat × Int) : List Int := if p.1 < 8 then ys ++ [p.2] else ys.set (p.1 % 8) (ys.getD (p.1 % 8) 0 + p.2)
noncomputable def slots (xs : List Int) (k : Nat) : List Int := match k with
 | 0 => []
 | k + 1 => putS (slots xs k) (k, xs.getD k 0)
theorem Zg0 {xs : List Int} {k : Nat} : slots xs (k + 1) = putS (slots xs k) (k, xs.getD k 0) := rfl
theorem Zcs (xs : List Int) : ∀ k, (slots xs k).length = min k 8
 | 0 => rfl
 | k + 1 => by
  rw [Zg0]
  unfold putS
  have := Zcs xs k
  split
  ·rename_i h; rw [length_append, length_singleton, this, Nat.min_eq_left (Nat.le_of_lt h)]; exact (Nat.min_eq_left h).symm
  ·rename_i h; rw [length_set, this, Nat.min_eq_right (Qn h)]; exact (Nat.min_eq_right (Nat.le.step (Qn h))).symm
section
variable {hp : List MO} {fr : List PV} {E : Value -> St -> Prop}
theorem Wp.E0 {x : PV} {xs : List PV} {z : Int} {k : Nat} (hz : z = k) {y : PV} {μ : St} {Q : PV -> St -> Prop} (e : isLst μ.hp x = some xs ∨ x = .tup xs) (hy : xs[k]? = some y) (hl : xs.length <= 1000000) (h : Q y μ) : Wp (pGet x (.int z)) μ Q E := by
 have b := Zj4 hy hl
 rw [<- hz] at b
 refine Wp.J ?_ h
 rcases e with e | rfl
 ·unfold isLst at e
  cases x <;> dsimp only at e <;> first | (cases e; done) | skip
  ·cases e; exact Zj6 b
  ·split at e
   ·rename_i q; cases e; exact Zj7 q b
   ·cases e
 ·exact Zj5 b
theorem Wp.setZ {i : Nat} {xs : List PV} {z : Int} {k : Nat} (hz : z = k) {y : PV} {Q : Unit -> St -> Prop} (e : hp[i]? = some (.lst xs)) (hk : k < xs.length) (hl : xs.length <= 1000000) (h : Q () ⟨fr, hp.set i (.lst (xs.set k y))⟩) : Wp (pSetItem (.obj i) (.int z) y) ⟨fr, hp⟩ Q E := by
 refine Wp.J ?_ h
 have h1 : (0 : Int) <= z ∧ z < xs.length := by lia
 have h2 : z.toNat = k := by lia
 unfold pSetItem
 try dsimp only
 rw [e]; try dsimp only
 rw [decide_eq_true h1, show lenOk xs = true from decide_eq_true hl]
 try dsimp only
 rw [h2]
theorem Zpy {xs : List Int} (hl : xs.length <= 63) {sl k : Nat} (hk : k < xs.length) {z : Int} (hzk : z = k) {zs : List PV} (hz : zs = (slots xs k).map .int) (hs : hp[sl]? = some (.lst zs)) {v3 v4 v5 v6 v7 : PV} {Q : MF -> St -> Prop}
  (h : Q .next ⟨[.lst (xs.map .int), .obj sl, .int z, v3, v4, v5, v6, v7], hp.set sl (.lst ((slots xs (k + 1)).map .int))⟩) : Wp (Zb1 d) ⟨[.lst (xs.map .int), .obj sl, .int z, v3, v4, v5, v6, v7], hp⟩ Q E := by
 have hx : (xs.map PV.int)[k]? = some (.int (xs.getD k 0)) := by
  rw [List.getElem?_map, getD_eq_getElem?_getD, List.getElem?_eq_getElem hk]; rfl
 unfold Zb1
 refine Wp.I (Wp.A2 (Wp.Z (Wp.B (v := .int z) rfl rfl (Wp.R (Wp.G8 ?_)))))
 by_cases h8 : k < 8
 ·rw [decide_eq_true (show z < 8 by lia)]
  refine Wp.I (Wp.i (Wp.f (Wp.B (v := .obj sl) rfl rfl (Wp.X hs (Wp.A3 (Wp.B (v := .lst (xs.map .int)) rfl rfl (Wp.B (v := .int z) rfl rfl ?_)))))))
  refine Wp.E0 hzk (y := .int (xs.getD k 0)) (xs := xs.map .int) (Or.inl (show isLst _ (PV.lst (xs.map .int)) = some (xs.map .int) from rfl)) hx (by rw [length_map]; exact Nat.le_trans hl (by decide)) ?_
  refine Wp.A1 hs (by rw [hz, length_map, Zcs]; lia) ?_
  refine Wp.V (Wp.V ?_)
  have e : slots xs (k + 1) = slots xs k ++ [xs.getD k 0] := by rw [Zg0]; unfold putS; rw [if_pos h8]
  rw [e, map_append, <- hz] at h
  exact h
 ·rw [decide_eq_false (show ¬ z < 8 by lia)]
  have hm : z.fmod 8 = ((k % 8 : Nat) : Int) := by rw [hzk, Int.fmod_eq_emod_of_nonneg _ (by lia)]; lia
  have hsl := Zcs xs k
  have hlt : k % 8 < (slots xs k).length := by lia
  have hy : zs[k % 8]? = some (.int ((slots xs k).getD (k % 8) 0)) := by
   rw [hz, List.getElem?_map, getD_eq_getElem?_getD, List.getElem?_eq_getElem hlt]; rfl
  have hzl : zs.length = (slots xs k).length := by rw [hz, length_map]
  refine Wp.I (Wp.I7 (Wp.B rfl rfl (Wp.C5 (Wp.B (v := .int z) rfl rfl (Wp.R (Wp.F0 (by lia) ?_))))))
  refine Wp.E0 hm (Or.inl (Zl hs)) hy (by lia) (Wp.A3 (Wp.B (v := .lst (xs.map .int)) rfl rfl (Wp.B (v := .int z) rfl rfl ?_)))
  refine Wp.E0 hzk (y := .int (xs.getD k 0)) (xs := xs.map .int) (Or.inl (show isLst _ (PV.lst (xs.map .int)) = some (xs.map .int) from rfl)) hx (by rw [length_map]; exact Nat.le_trans hl (by decide)) (Wp.C7 ?_)
  refine Wp.setZ hm hs (by lia) (by lia) ?_
  refine Wp.V (Wp.V ?_)
  have e : slots xs (k + 1) = (slots xs k).set (k % 8) ((slots xs k).getD (k % 8) 0 + xs.getD k 0) := by rw [Zg0]; unfold putS; rw [if_neg h8]
  rw [e, List.map_set, <- hz] at h
  exact h
end

section
variable {hp : List MO} {fr : List PV} {E : Value -> St -> Prop}
theorem Z6 {x : MO} : (hp ++ [x])[hp.length]? = some x := by simp
theorem Zl0 {x y : MO} : (hp ++ [x]).set hp.length y = hp ++ [y] := by simp
theorem Wp.I9 {n m : Nat} {f e : PM PV} {asg : PV -> PM Unit} {Q : PV -> St -> Prop} (pv : PV) (xs ys : List PV) (hn : xs.length < n) (hl : ys.length = xs.length) (hlen : ys.length <= 1000000)
  (hf : Wp f ⟨fr, hp⟩ (λ v μ => v = pv ∧ μ = ⟨fr, hp⟩) (λ _ _ => False)) (hget : ∀ k, k <= xs.length -> ∀ fr' z, getIt pv ⟨fr, hp⟩ k ⟨fr', hp ++ [.lst z]⟩ = some xs[k]?)
  (step : ∀ (k : Nat) (x y : PV) (us : List PV) (z : List PV), us.length = m -> xs[k]? = some x -> ys[k]? = some y -> Wp (asg x) ⟨fr ++ us, hp ++ [.lst z]⟩ (λ _ μ => Wp e μ (λ v μ' => v = y ∧ ∃ us, us.length = m ∧ μ' = ⟨fr ++ us, hp ++ [.lst z]⟩) (λ _ _ => False)) (λ _ _ => False))
  (h : Q (.obj hp.length) ⟨fr, hp ++ [.lst ys]⟩) : Wp (Mine.compM n m f (Mine.tfA asg e)) ⟨fr, hp⟩ Q E := by
 refine Wp.H6 (hf.mono (λ v μ hv => ?_) λ _ _ e => e.elim)
 obtain ⟨rfl, rfl⟩ := hv
 try dsimp only
 refine Wp.F3 (λ k μ => ∃ us, us.length = m ∧ μ = ⟨fr ++ us, hp ++ [.lst (ys.take k)]⟩) xs.length (λ k μ hI hk => ?_) n 0 _ (by lia) (Nat.zero_le _) ⟨_, List.length_replicate .., rfl⟩
 obtain ⟨us, hu, rfl⟩ := hI
 rw [hget k hk]
 cases hx : xs[k]? with
 | none =>
  left
  have hk' : k = ys.length := by have := Qgn hx; lia
  refine ⟨rfl, ?_⟩
  try dsimp only
  rw [hk', take_length, List.take_left]
  exact h
 | some x =>
  right
  have hlt := (Qgl hx)
  have hy : ys[k]? = some ys[k] := List.getElem?_eq_getElem (by lia)
  refine ⟨hlt, x, rfl, Wp.tfA ((step k x _ us _ hu hx hy).mono (λ _ μ hs => ?_) λ _ _ e => e.elim)⟩
  refine Wp.J1 (hs.mono (λ v μ' hv => ?_) λ _ _ e => e.elim)
  obtain ⟨rfl, us', hu', rfl⟩ := hv
  refine ⟨ys.take k, Z6, by rw [length_take]; lia, us', hu', ?_⟩
  try dsimp only
  rw [Zl0, take_succ_eq_append_getElem (by lia)]
theorem lenP2 : ∀ {l : List PV}, l.length = 2 -> ∃ a b, l = [a, b]
 | [a, b], _ => ⟨a, b, rfl⟩
theorem lenP3 : ∀ {l : List PV}, l.length = 3 -> ∃ a b c, l = [a, b, c]
 | [a, b, c], _ => ⟨a, b, c, rfl⟩
theorem Wp.G4 {n : Nat} {f e : PM PV} {asg : PV -> PM Unit} {Q : PV -> St -> Prop} (pv : PV) (xs ys : List PV) (hn : xs.length < n) (hl : ys.length = xs.length) (hlen : ys.length <= 1000000)
  (hf : Wp f ⟨fr, hp⟩ (λ v μ => v = pv ∧ μ = ⟨fr, hp⟩) (λ _ _ => False)) (hget : ∀ k, k <= xs.length -> ∀ fr' z, getIt pv ⟨fr, hp⟩ k ⟨fr', hp ++ [.lst z]⟩ = some xs[k]?)
  (step : ∀ (k : Nat) (x y u w : PV) (z : List PV), xs[k]? = some x -> ys[k]? = some y -> Wp (asg x) ⟨fr ++ [u, w], hp ++ [.lst z]⟩ (λ _ μ => Wp e μ (λ v μ' => v = y ∧ ∃ u w, μ' = ⟨fr ++ [u, w], hp ++ [.lst z]⟩) (λ _ _ => False)) (λ _ _ => False))
  (h : Q (.obj hp.length) ⟨fr, hp ++ [.lst ys]⟩) : Wp (Mine.compM n 2 f (Mine.tfA asg e)) ⟨fr, hp⟩ Q E :=
 Wp.I9 pv xs ys hn hl hlen hf hget (λ k x y us z hu hx hy => by
  obtain ⟨u, w, rfl⟩ := lenP2 hu
  exact (step k x y u w z hx hy).mono (λ _ μ h => h.mono (λ v μ' ⟨h1, u, w, h2⟩ => ⟨h1, _, rfl, h2⟩) λ _ _ e => e) λ _ _ e => e) h
theorem Wp.J0 {n : Nat} {f e : PM PV} {asg : PV -> PM Unit} {Q : PV -> St -> Prop} (pv : PV) (xs ys : List PV) (hn : xs.length < n) (hl : ys.length = xs.length) (hlen : ys.length <= 1000000)
  (hf : Wp f ⟨fr, hp⟩ (λ v μ => v = pv ∧ μ = ⟨fr, hp⟩) (λ _ _ => False)) (hget : ∀ k, k <= xs.length -> ∀ fr' z, getIt pv ⟨fr, hp⟩ k ⟨fr', hp ++ [.lst z]⟩ = some xs[k]?)
  (step : ∀ (k : Nat) (x y u w t : PV) (z : List PV), xs[k]? = some x -> ys[k]? = some y -> Wp (asg x) ⟨fr ++ [u, w, t], hp ++ [.lst z]⟩ (λ _ μ => Wp e μ (λ v μ' => v = y ∧ ∃ u w t, μ' = ⟨fr ++ [u, w, t], hp ++ [.lst z]⟩) (λ _ _ => False)) (λ _ _ => False))
  (h : Q (.obj hp.length) ⟨fr, hp ++ [.lst ys]⟩) : Wp (Mine.compM n 3 f (Mine.tfA asg e)) ⟨fr, hp⟩ Q E :=
 Wp.I9 pv xs ys hn hl hlen hf hget (λ k x y us z hu hx hy => by
  obtain ⟨u, w, t, rfl⟩ := lenP3 hu
  exact (step k x y u w t z hx hy).mono (λ _ μ h => h.mono (λ v μ' ⟨h1, u, w, t, h2⟩ => ⟨h1, _, rfl, h2⟩) λ _ _ e => e) λ _ _ e => e) h
theorem Zj8 {pv : PV} {μ0 μ : St} {k : Nat} (h : ∀ i, pv ≠ .vals i) : getIt pv μ0 k μ = getOf pv μ0 k μ := by
 cases pv <;> first | rfl | exact absurd rfl (h _)
theorem Zct {i : Nat} {xs : List PV} (h : hp[i]? = some (.lst xs)) {k : Nat} {fr' : List PV} {z : MO} : getIt (.obj i) ⟨fr, hp⟩ k ⟨fr', hp ++ [z]⟩ = some xs[k]? := by
 rw [Zj8 (by intro i e; cases e)]
 exact Zcr h (getElem?_app h)
theorem Zpz {n k : Nat} (h : n <= 1000000) (hk : k <= n) {μ0 μ : St} : getIt (.rng 0 n 1) μ0 k μ = some ((List.range n).map λ (i : Nat) => PV.int i)[k]? := by
 rw [Zj8 (by intro i e; cases e), Zbp h hk, List.getElem?_map]
 by_cases q : k < n
 ·rw [if_pos q, List.getElem?_range q]; rfl
 ·rw [if_neg q, List.getElem?_eq_none (by rw [length_range]; lia)]; rfl
noncomputable abbrev pairV (e : Int × Int) : PV := .tup [.int e.1, .int e.2]
structure Drawn (n : Nat) (ns : List Int) (ts : Ed) : Prop where
 nnd : ns.Nodup
 mem : ∀ a, a ∈ ns ↔ 0 <= a ∧ a < n
 tin : ∀ e ∈ ts, e.1 ∈ ns ∧ e.2 ∈ ns
 tl : ts.length <= 10
theorem Drawn.len {n : Nat} {ns : List Int} {ts : Ed} (D : Drawn n ns ts) : ns.length = n := by
 have h1 := Zq (ys := (List.range n).map λ (i : Nat) => (i : Int)) D.nnd λ a ha => by
  have := (D.mem a).mp ha
  exact mem_map.mpr ⟨a.toNat, by rw [mem_range]; lia, by lia⟩
 have h2 := Zq (xs := (List.range n).map λ (i : Nat) => (i : Int)) (ys := ns) (by
  unfold List.Nodup
  rw [pairwise_map]
  exact List.nodup_range.imp λ h e => h (by lia)) λ a ha => by
  obtain ⟨i, hi, rfl⟩ := Qmm ha
  rw [mem_range] at hi
  exact (D.mem _).mpr ⟨by lia, by lia⟩
 rw [length_map, length_range] at h1 h2
 lia
end

section
variable {hp : List MO} {fr : List PV} {E : Value -> St -> Prop}
theorem Wp.C1 {x : PV} {μ : St} {Q : PV -> St -> Prop} (h : Q x μ) : Wp (Pure.pure x : PM PV) μ Q E := (Wp.mk h)
theorem Wp.C4 {f : PM (List PV)} {μ : St} {Q : PV -> St -> Prop} (h : Wp f μ (λ xs μ' => xs.length <= 1000000 ∧ Q (.tup xs) μ') E) : Wp (Mine.eTup f) μ Q E :=
 Wp.C (h.mono (λ xs μ' h => Wp.C (Wp.A6 (decide_eq_true h.1) (Wp.R h.2))) λ _ _ e => e)
theorem Zrt {xs : List PV} : isLst hp (PV.lst xs) = some xs := rfl
theorem Zep {α β : Type} (f : α -> β) : ∀ (l : List α) (k : Nat), (l.eraseIdx k).map f = (l.map f).eraseIdx k
 | [], _ => rfl
 | _ :: _, 0 => rfl
 | a :: l, k + 1 => congrArg (f a :: ·) (Zep f l k)
theorem Zru {nm ot : List Int} {n7 n6 : Nat} {c r : Int} (hne : n6 ≠ n7) (h6 : hp[n6]? = some (.lst (nm.map .int))) (h7 : hp[n7]? = some (.lst (ot.map .int))) (hr : r = ot.length) (ho : ot ≠ []) (hl : ot.length <= 100) (hl' : nm.length <= 100) {v0 v1 v2 v3 : PV} {Q : MF -> St -> Prop}
  (h : ∀ (k : Nat) (y : Int), ot[k]? = some y -> Q .next ⟨[v0, v1, v2, v3, .int (c.fdiv r), .obj n6, .obj n7, .int r], (hp.set n7 (.lst ((ot.eraseIdx k).map .int))).set n6 (.lst ((nm ++ [y]).map .int))⟩) :
  Wp (Zb0 d) ⟨[v0, v1, v2, v3, .int c, .obj n6, .obj n7, .int r], hp⟩ Q E := by
 have hpos : 0 < ot.length := List.length_pos_iff.mpr ho
 have hr0 : r ≠ 0 := by lia
 have hw0 : 0 <= c.fmod r := Int.fmod_nonneg_of_pos _ (by lia)
 have hw1 : c.fmod r < r := Int.fmod_lt_of_pos _ (by lia)
 have hk : (c.fmod r).toNat < ot.length := by lia
 have hy : ot[(c.fmod r).toNat]? = some ot[(c.fmod r).toNat] := List.getElem?_eq_getElem hk
 have hidx : pIdx (ot.map PV.int).length (c.fmod r) = some (c.fmod r).toNat := by
  have := Zj3 (n := (ot.map PV.int).length) (k := (c.fmod r).toNat) (by rw [length_map]; exact hk) (by rw [length_map]; lia)
  rw [Int.toNat_of_nonneg hw0] at this
  exact this
 unfold Zb0
 refine Wp.I (Wp.i (Wp.f (Wp.B (v := .obj n6) rfl rfl (Wp.X h6 (Wp.I2 (Wp.B (v := .obj n7) rfl rfl ⟨n7, ot.map .int, rfl, h7, ?_⟩))))))
 refine Wp.C5 (Wp.B (v := .int c) rfl rfl (Wp.B (v := .int r) rfl rfl (Wp.F0 hr0 ?_)))
 have hyp : (ot.map PV.int)[(c.fmod r).toNat]? = some (.int (ot[(c.fmod r).toNat])) := by rw [List.getElem?_map, hy]; rfl
 refine ⟨c.fmod r, (c.fmod r).toNat, ot.map .int, .int ot[(c.fmod r).toNat], rfl, hidx, h7, hyp, by rw [length_map]; lia, ?_⟩
 refine Wp.A1 (Zk (Ne.symm hne) h6) (by rw [length_map]; lia) ?_
 have h := h _ _ hy
 refine Wp.I (Wp.Y (Wp.C5 (Wp.B (v := .int c) rfl rfl (Wp.B (v := .int r) rfl rfl (Wp.H5 hr0 (by lia) (Wp.H (Wp.V ?_)))))))
 rw [Zep, map_append] at h
 exact h
structure Dw (hp hp' : List MO) (n k : Nat) (nm ot : List Int) (tv : List PV) : Prop where
 h6 : hp'[hp.length + 3]? = some (.lst (nm.map .int))
 h7 : hp'[hp.length + 4]? = some (.lst (ot.map .int))
 ht : hp'[hp.length + 1]? = some (.lst tv)
 old : ∀ i, i < hp.length -> hp'[i]? = hp[i]?
 len : hp.length <= hp'.length
 nl : nm.length = k
 ol : ot.length = n - k
 perm : (nm ++ ot).Perm ((List.range n).map λ (i : Nat) => (i : Int))
theorem Dw.next {hp hp' : List MO} {n k : Nat} {nm ot : List Int} {tv : List PV} (D : Dw hp hp' n k nm ot tv) {j : Nat} {y : Int} (hy : ot[j]? = some y) :
  Dw hp ((hp'.set (hp.length + 4) (.lst ((ot.eraseIdx j).map .int))).set (hp.length + 3) (.lst ((nm ++ [y]).map .int))) n (k + 1) (nm ++ [y]) (ot.eraseIdx j) tv := by
 have hj := (Qgl hy)
 have n1 : hp.length + 4 ≠ hp.length + 3 := λ e => by cases Nat.add_left_cancel e
 have n2 : hp.length + 3 ≠ hp.length + 1 := λ e => by cases Nat.add_left_cancel e
 have n3 : hp.length + 4 ≠ hp.length + 1 := λ e => by cases Nat.add_left_cancel e
 have ne : ∀ {i m : Nat}, i < hp.length -> hp.length + m ≠ i := λ h e => Nat.not_lt_of_le (Nat.le_add_right _ _) (e ▸ h)
 refine ⟨Zm (x := .lst (nm.map .int)) (Zk n1 D.h6), Zk (Ne.symm n1) (Zm D.h7), Zk n2 (Zk n3 D.ht), λ i hi => ?_, ?_, ?_, ?_, ?_⟩
 ·rw [List.getElem?_set_ne (ne hi), List.getElem?_set_ne (ne hi)]; exact D.old i hi
 ·rw [length_set, length_set]; exact D.len
 ·rw [length_append, D.nl]; rfl
 ·rw [List.length_eraseIdx, if_pos hj, D.ol]; rfl
 ·have e := (Qge hy)
  have p1 : (ot.take j ++ y :: ot.drop (j + 1)).Perm (y :: (ot.take j ++ ot.drop (j + 1))) := List.perm_middle
  have p2 : ot = ot.take j ++ y :: ot.drop (j + 1) := by rw [<- e]; simp
  rw [<- p2] at p1
  rw [List.eraseIdx_eq_take_drop_succ, append_assoc]
  exact (List.Perm.append_left nm p1.symm).trans D.perm
inductive Dr1 (ln : Nat) (v0 v1 v2 : PV) (tv : List PV) (hp : List MO) (k : Nat) : St -> Prop
 | mk {v7 : PV} {nm ot : List Int} {c : Int} {hp' : List MO} (D : Dw hp hp' 5 k nm ot tv) : Dr1 ln v0 v1 v2 tv hp k ⟨[v0, v1, v2, .obj (ln + 1), .int c, .obj (ln + 3), .obj (ln + 4), v7], hp'⟩
noncomputable def tellV (ss : List Int) : List PV := ss.map λ s => pairV (s.fmod 5, (s.fdiv 5).fmod 5)
noncomputable def codeV (ss : List Int) : List PV := ss.map λ s => .int (s.fdiv 25)
theorem Zp0 : ∀ {k : Nat}, k < 5 -> [PV.int 5, .int 4, .int 3, .int 2, .int 1][k]? = some (.int ((5 - k : Nat) : Int))
 | 0, _ => rfl
 | 1, _ => rfl
 | 2, _ => rfl
 | 3, _ => rfl
 | 4, _ => rfl
 | k + 5, h => absurd h (Nat.not_lt_of_le (Nat.le_add_left _ _))
theorem Zj9 {xs : List Int} (hl : xs.length <= 63) {Q : PV -> St -> Prop}
  (h : ∀ hp' ni ti ns ts, hp.length <= hp'.length -> (∀ i, i < hp.length -> hp'[i]? = hp[i]?) -> hp.length <= ni -> hp.length <= ti -> ni ≠ ti -> Drawn 5 ns ts -> hp'[ni]? = some (.lst (ns.map .int)) -> hp'[ti]? = some (.lst (ts.map pairV)) -> Q (.tup [.obj ni, .obj ti]) ⟨fr, hp'⟩) :
  Wp (Zc0 d [.lst (xs.map .int)]) ⟨fr, hp⟩ Q E := by
 refine Wp.A0 rfl ?_
 unfold g_law_drawn
 have hN : 1000 < fuel := by unfold fuel; lia
 generalize fuel = N at hN ⊢
 have hlx : (xs.map PV.int).length = xs.length := length_map ..
 have hm : (xs.map PV.int).length <= 1000000 := by lia
 refine Wp.I (Wp.Y (Wp.B2 (Wp.j ⟨by simp, Wp.H ?_⟩)))
 refine Wp.I (Wp.B0 (Wp.C (Wp.W (Wp.C (Wp.W (Wp.B rfl rfl (Wp.B4 (.inl Zrt) hm ?_)))))))
 refine Wp.B3 ?_
 refine Wp.u (λ k μ => ∃ v2, μ = ⟨[.lst (xs.map .int), .obj hp.length, v2, .undef, .undef, .undef, .undef, .undef], hp ++ [.lst ((slots xs k).map .int)]⟩) xs.length (λ k μ hI hk => ?_) N 0 _ (by lia) (Nat.zero_le _)
  ⟨.undef, rfl⟩
 obtain ⟨v2, rfl⟩ := hI
 rw [hlx, Zbp (by lia) hk]
 by_cases hkx : k < xs.length
 ·right
  rw [if_pos hkx]
  refine ⟨hkx, _, rfl, Wp.H ?_⟩
  obtain ⟨y, hy⟩ : ∃ y : Int, y = k := ⟨_, rfl⟩
  rw [<- hy]
  refine Zpy hl hkx hy rfl Z6 ⟨.int y, ?_⟩
  rw [Zl0]
 left
 rw [if_neg hkx]
 refine ⟨rfl, ?_⟩
 have hk' : k = xs.length := by lia
 subst hk'
 try dsimp only
 have hsl := Zcs xs xs.length
 generalize slots xs xs.length = ss at hsl ⊢
 replace hsl : ss.length <= 8 := hsl ▸ Nat.min_le_right _ _
 clear hm hkx hk
 refine Wp.I (Wp.Y (Wp.G4 (pv := .obj hp.length) (ss.map .int) (tellV ss) (by rw [length_map]; lia) (by unfold tellV; simp) (by unfold tellV; rw [length_map]; lia)
  (Wp.B (v := .obj hp.length) rfl rfl ⟨rfl, rfl⟩) (λ k hk fr' zz => Zct Z6) (λ k x y u w zz hx hy => ?_) (Wp.H ?_)))
 ·unfold tellV at hy
  rw [List.getElem?_map] at hx hy
  cases hs : ss[k]? with
  | none => rw [hs] at hx; cases hx
  | some s =>
   rw [hs] at hx hy
   cases hx; cases hy
   refine Wp.H (Wp.C4 (Wp.e (Wp.C5 (Wp.B (v := .int s) rfl rfl (Wp.C1 (Wp.F0 (by lia) (Wp.W (Wp.C5 (Wp.C5 (Wp.B (v := .int s) rfl rfl (Wp.C1 (Wp.H5 (by lia) (by lia) (Wp.C1 (Wp.F0 (by lia) ?_))))))))))))))
   exact ⟨by simp, rfl, _, _, rfl⟩
 have l1 : (hp ++ [MO.lst (ss.map .int)]).length = hp.length + 1 := by simp
 rw [l1]
 refine Wp.I (Wp.Y (Wp.C (Wp.W (Wp.G4 (pv := .obj hp.length) (ss.map .int) (codeV ss) (by rw [length_map]; lia) (by unfold codeV; simp) (by unfold codeV; rw [length_map]; lia)
  (Wp.B (v := .obj hp.length) rfl rfl ⟨rfl, rfl⟩) (λ k hk fr' zz => Zct (getElem?_app Z6)) (λ k x y u w zz hx hy => ?_) ?_))))
 ·unfold codeV at hy
  rw [List.getElem?_map] at hx hy
  cases hs : ss[k]? with
  | none => rw [hs] at hx; cases hx
  | some s =>
   rw [hs] at hx hy
   cases hx; cases hy
   exact Wp.H (Wp.C5 (Wp.B (v := .int s) rfl rfl (Wp.C1 (Wp.H5 (by lia) (by lia) ⟨rfl, _, _, rfl⟩))))
 refine Wp.sum (xs := codeV ss) (is := ss.map λ s => s.fdiv 25) (Zl Z6) (by rw [<- Zbb, map_map]; rfl) (Wp.H ?_)
 generalize (ss.map λ s => s.fdiv 25).sum = code
 have l2 : (hp ++ [MO.lst (ss.map .int)] ++ [MO.lst (tellV ss)] ++ [MO.lst (codeV ss)]).length = hp.length + 3 := by simp
 have t2 : (hp ++ [MO.lst (ss.map .int)] ++ [MO.lst (tellV ss)] ++ [MO.lst (codeV ss)])[hp.length + 1]? = some (.lst (tellV ss)) := getElem?_app (by rw [<- l1]; exact Z6)
 have o2 : ∀ i, i < hp.length -> (hp ++ [MO.lst (ss.map .int)] ++ [MO.lst (tellV ss)] ++ [MO.lst (codeV ss)])[i]? = hp[i]? := λ i hi => by
  rw [List.getElem?_append_left (by simp; lia), List.getElem?_append_left (by simp; lia), List.getElem?_append_left hi]
 generalize (hp ++ [MO.lst (ss.map .int)] ++ [MO.lst (tellV ss)] ++ [MO.lst (codeV ss)]) = hq at l2 t2 o2 ⊢
 refine Wp.I (Wp.Y (Wp.B2 (Wp.j ⟨by simp, Wp.H ?_⟩)))
 try dsimp only
 refine Wp.I (Wp.Y (Wp.B2 (Wp.e (Wp.C1 (Wp.e (Wp.C1 (Wp.e (Wp.C1 (Wp.e (Wp.C1 (Wp.W (Wp.C1 ⟨by simp, Wp.H ?_⟩)))))))))))) 
 have l3 : (hq ++ [MO.lst []]).length = hp.length + 4 := by simp [l2]
 rw [l2, l3]
 have n6 : (hq ++ [MO.lst []] ++ [MO.lst [.int 0, .int 1, .int 2, .int 3, .int 4]])[hp.length + 3]? = some (.lst ([].map PV.int)) := getElem?_app (by rw [<- l2]; exact Z6)
 have n7 : (hq ++ [MO.lst []] ++ [MO.lst [.int 0, .int 1, .int 2, .int 3, .int 4]])[hp.length + 4]? = some (.lst (((List.range 5).map λ (i : Nat) => (i : Int)).map PV.int)) := by rw [<- l3]; exact Z6
 have t3 : (hq ++ [MO.lst []] ++ [MO.lst [.int 0, .int 1, .int 2, .int 3, .int 4]])[hp.length + 1]? = some (.lst (tellV ss)) := getElem?_app (getElem?_app t2)
 have o3 : ∀ i, i < hp.length -> (hq ++ [MO.lst []] ++ [MO.lst [.int 0, .int 1, .int 2, .int 3, .int 4]])[i]? = hp[i]? := λ i hi => by
  rw [List.getElem?_append_left (by simp [l2]; lia), List.getElem?_append_left (by lia)]
  exact o2 i hi
 have l4 : (hq ++ [MO.lst []] ++ [MO.lst [.int 0, .int 1, .int 2, .int 3, .int 4]]).length = hp.length + 5 := by simp [l2]
 generalize (hq ++ [MO.lst []] ++ [MO.lst [.int 0, .int 1, .int 2, .int 3, .int 4]]) = hr at n6 n7 t3 o3 l4 ⊢
 try dsimp only
 refine Wp.I (Wp.B0 (Wp.C4 (Wp.e (Wp.C1 (Wp.e (Wp.C1 (Wp.e (Wp.C1 (Wp.e (Wp.C1 (Wp.W (Wp.C1 ⟨by simp, ?_⟩))))))))))))
 refine Wp.u (Dr1 hp.length (.lst (xs.map .int)) (.obj hp.length) v2 (tellV ss) hp) 5 (λ k μ hI hk => ?_) N 0 _ (by lia) (Nat.zero_le _)
  (.mk (nm := []) ⟨n6, n7, t3, o3, by lia, rfl, by simp, by simp⟩)
 obtain ⟨DW⟩ := hI
 rename_i v7 nm ot c hp'
 rw [Zcp]
 by_cases hkn : k < 5
 ·right
  rw [Zp0 hkn]
  refine ⟨hkn, _, rfl, Wp.H ?_⟩
  obtain ⟨r, hr'⟩ : ∃ r : Int, r = ((5 - k : Nat) : Int) := ⟨_, rfl⟩
  rw [<- hr']
  have hol := DW.ol
  have hnl := DW.nl
  exact Zru (nm := nm) (ot := ot) (by lia) DW.h6 DW.h7 (by lia) (λ e => by subst e; simp at hol; lia) (by lia) (by lia) λ j y hy => Dr1.mk (DW.next hy)
 left
 have hk' : k = 5 := by lia
 subst hk'
 refine ⟨rfl, ?_⟩
 try dsimp only
 obtain ⟨h6, h7, ht, ho, hlen, hnl, hol, hperm⟩ := DW
 have ho0 : ot = [] := List.length_eq_zero_iff.mp hol
 subst ho0
 rw [append_nil] at hperm
 refine Wp.I (Wp.D1 (Wp.C4 (Wp.e (Wp.B (v := .obj (hp.length + 3)) rfl rfl (Wp.W (Wp.B (v := .obj (hp.length + 1)) rfl rfl ?_))))))
 have hmem : ∀ a, a ∈ nm ↔ 0 <= a ∧ a < (5 : Nat) := λ a => by
  rw [hperm.mem_iff, mem_map]
  constructor
  ·rintro ⟨i, hi, rfl⟩; rw [mem_range] at hi; lia
  ·intro q; exact ⟨a.toNat, by rw [mem_range]; lia, by lia⟩
 refine ⟨by simp, h hp' _ _ nm (ss.map λ s => (s.fmod 5, (s.fdiv 5).fmod 5)) hlen ho (by lia) (by lia) (by lia) ⟨?_, hmem, λ e he => ?_, by rw [length_map]; lia⟩ h6 (by rw [map_map]; exact ht)⟩
 ·refine hperm.nodup_iff.mpr ?_
  unfold List.Nodup
  rw [pairwise_map]
  exact List.nodup_range.imp λ h e => h (by lia)
 ·obtain ⟨s, _, rfl⟩ := Qmm he
  try dsimp only
  rw [hmem, hmem]
  exact ⟨⟨Int.fmod_nonneg_of_pos _ (by lia), Int.fmod_lt_of_pos _ (by lia)⟩, Int.fmod_nonneg_of_pos _ (by lia), Int.fmod_lt_of_pos _ (by lia)⟩
end

structure New (hp hp' : List MO) (o : Nat) (T : TSt) (ly : Lay) : Prop where
 len : hp.length <= hp'.length
 old : ∀ i, i < hp.length -> hp'[i]? = hp[i]?
 new : ∀ i, Fp o T ly i -> hp.length <= i
theorem New.grow {hp hp1 hp2 : List MO} {o : Nat} {T T' : TSt} {ly ly' : Lay} (N : New hp hp1 o T ly) (g : Grow o T ly hp1 T' ly' hp2) : New hp hp2 o T' ly' :=
 ⟨Nat.le_trans N.len g.len, λ i hi => (g.old i (Nat.lt_of_lt_of_le hi N.len) λ h => absurd (N.new i h) (by lia)).trans (N.old i hi), λ i h => (g.new i h).elim (N.new i) λ h => Nat.le_trans N.len h⟩
theorem Bt.scLen {ns : List Int} {ts : Ed} {T : TSt} (B : Bt ns ts T) (q : Int) : (T.sc q).length <= ts.length := by
 rw [B.sc]
 unfold scL
 rw [length_map]
 exact length_filter_le _ _
section
variable {hp : List MO} {fr : List PV} {E : Value -> St -> Prop}
theorem Wp.B8 {a b : PV -> PM Unit} {x y : PV} {μ : St} {Q : Unit -> St -> Prop} (h : Wp (a x) μ (λ _ μ' => Wp (b y) μ' Q E) E) : Wp (asgTup [a, b] (.tup [x, y])) μ Q E :=
 Wp.C (h.mono (λ _ _ h => Wp.C (h.mono (λ _ _ h => Wp.R h) λ _ _ e => e)) λ _ _ e => e)
end

theorem Zbq {α : Type} {f : PV -> Option PyData} {g : α -> PV} {k : α -> PyData} : ∀ {l : List α}, (∀ x ∈ l, f (g x) = some (k x)) -> mapO f (l.map g) = some (l.map k)
 | [], _ => rfl
 | x :: l, h => by
  rw [map_cons, Zc2, h x mem_cons_self]
  try dsimp only
  rw [Zbq λ y hy => h y (mem_cons_of_mem _ hy)]
  rfl
theorem Zcu {hp : List MO} {n : Nat} {i : Int} : reify hp (n + 1) (.int i) = some (.int i) := rfl
theorem Zok {α : Type} {hp : List MO} {n i : Nat} {l : List α} {g : α -> PV} {k : α -> PyData} (hi : hp[i]? = some (.lst (l.map g))) (h : ∀ x ∈ l, reify hp n (g x) = some (k x)) : reify hp (n + 1) (.obj i) = some (.list (l.map k)) := by
 rw [Zk6]
 rw [hi]
 try dsimp only
 rw [Zbq h]; rfl
theorem Zgl {hp : List MO} {n : Nat} {x y : PV} {a b : PyData} (h1 : reify hp n x = some a) (h2 : reify hp n y = some b) : reify hp (n + 1) (.tup [x, y]) = some (.tuple [a, b]) := by
 show (mapO (reify hp n) [x, y]).map PyData.tuple = _
 simp only [Zc2, h1, h2]
 rfl
theorem Zdh {hp : List MO} {n : Nat} {e : Int × Int} : reify hp (n + 2) (pairV e) = some (.tuple [.int e.1, .int e.2]) := Zgl rfl rfl
theorem Ze1 {α : Type} {k : α -> PyData} (h : ∀ x, (k x).canLay0 = true) : ∀ (l : List α), PyData.canLayAll0 (l.map k) = true
 | [] => rfl
 | x :: l => by rw [map_cons, PyData.canLayAll0, h x, Ze1 h l]; rfl
section
variable {hp : List MO} {fr : List PV} {E : Value -> St -> Prop}
theorem Wp.I6 {x y : PV} {a : PyData} {μ : St} {Q : Bool -> St -> Prop} (h1 : reify μ.hp 16 x = some a) (h2 : reify μ.hp 16 y = some a) (hl : a.canLay0 = true) (h : Q true μ) : Wp (pCmp .Eq x y) μ Q E := by
 refine Wp.J ?_ h
 show pEq x y μ = _
 unfold pEq
 rw [h1, h2]
 try dsimp only
 rw [PySem.SeqAt.eqv_refl a hl]
theorem Wp.C6 {x y : PV} {a : PyData} {μ : St} {Q : Bool -> St -> Prop} (h1 : reify μ.hp 16 x = some a) (h2 : reify μ.hp 16 y = some a) (hl : a.canLay0 = true) (h : Q false μ) : Wp (pCmp .NotEq x y) μ Q E := Wp.F4 (Wp.I6 h1 h2 hl h)
theorem Zp1 (xs : List Int) (a : Int) : ((xs.map PyData.int).any λ y => PyData.eqv y (.int a)) = decide (a ∈ xs) := by
 rw [Bool.eq_iff_iff, any_eq_true, decide_eq_true_eq]
 constructor
 ·rintro ⟨y, hy, e⟩
  obtain ⟨b, hb, rfl⟩ := Qmm hy
  rw [PyData.eqv, beq_iff_eq] at e
  exact e ▸ hb
 ·intro h; exact ⟨.int a, mem_map.mpr ⟨a, h, rfl⟩, by rw [PyData.eqv, beq_iff_eq]⟩
theorem Zol (xs : Ed) (a b : Int) : ((xs.map λ e => PyData.tuple [.int e.1, .int e.2]).any λ y => PyData.eqv y (.tuple [.int a, .int b])) = decide ((a, b) ∈ xs) := by
 have key : ∀ e : Int × Int, PyData.eqv (.tuple [.int e.1, .int e.2]) (.tuple [.int a, .int b]) = true ↔ e = (a, b) := λ e => by
  rw [PyData.eqv, PyData.eqvAll, PyData.eqvAll, PyData.eqvAll, PyData.eqv, PyData.eqv]
  simp [Prod.ext_iff]
 rw [Bool.eq_iff_iff, any_eq_true, decide_eq_true_eq]
 constructor
 ·rintro ⟨y, hy, e⟩
  obtain ⟨p, hp, rfl⟩ := Qmm hy
  exact (key p).mp e ▸ hp
 ·intro h; exact ⟨_, mem_map.mpr ⟨(a, b), h, rfl⟩, (key (a, b)).mpr rfl⟩
theorem Zrv {x : PV} {i : Nat} {xs : List PV} {μ : St} (h : μ.hp[i]? = some (.lst xs)) : pIn x (.obj i) μ = inSeq μ x xs := by unfold pIn; try dsimp only; rw [h]
theorem Znd {μ : St} {a : Int} {xs : List Int} : inSeq μ (.int a) (xs.map .int) = .ok (decide (a ∈ xs)) μ := by
 unfold inSeq
 rw [Zcu, Zbq (k := PyData.int) λ _ _ => Zcu]
 try dsimp only
 rw [Zp1]
theorem Zk4 {μ : St} {a b : Int} {xs : Ed} : inSeq μ (.tup [.int a, .int b]) (xs.map pairV) = .ok (decide ((a, b) ∈ xs)) μ := by
 unfold inSeq
 rw [Zgl Zcu Zcu, Zbq (k := λ e : Int × Int => PyData.tuple [.int e.1, .int e.2]) λ e _ => Zdh]
 try dsimp only
 rw [Zol]
theorem Wp.H0 {a b : Int} {i : Nat} {xs : Ed} {μ : St} {Q : Bool -> St -> Prop} (e : μ.hp[i]? = some (.lst (xs.map pairV))) (h : Q (decide ((a, b) ∈ xs)) μ) : Wp (pCmp .In (.tup [.int a, .int b]) (.obj i)) μ Q E :=
 Wp.J (f := pIn (.tup [.int a, .int b]) (.obj i)) ((Zrv e).trans Zk4) h
theorem Wp.E5 {x y : PV} {μ : St} {Q : Bool -> St -> Prop} (h : Wp (pCmp .In x y) μ (λ b μ' => Q (!b) μ') E) : Wp (pCmp .NotIn x y) μ Q E := Wp.F4 (f := pIn x y) h
theorem Wp.J3 {op : CmpOp} {f g : PM PV} {μ : St} {Q : PV -> St -> Prop} (h : Wp f μ (λ x μ' => Wp g μ' (λ y μ'' => Wp (pCmp op x y) μ'' (λ b μ3 => Q (.bool b) μ3) E) E) E) : Wp (Mine.eCmp op f g) μ Q E :=
 Wp.C (h.mono (λ _ _ h => Wp.C (h.mono (λ _ _ h => Wp.A9 h) λ _ _ e => e)) λ _ _ e => e)
theorem Wp.J4 {f g : PM Bool} {μ : St} {Q : Bool -> St -> Prop} (h : Wp f μ (λ b μ' => match b with | true => Wp g μ' Q E | false => Q false μ') E) : Wp (Mine.bAnd f g) μ Q E :=
 Wp.C (h.mono (λ x μ' h => by cases x with
  | true => exact h
  | false => exact Wp.R h) λ _ _ e => e)
theorem Wp.G0 {f g : PM Bool} {μ : St} {Q : Bool -> St -> Prop} (h : Wp f μ (λ b μ' => match b with | true => Q true μ' | false => Wp g μ' Q E) E) : Wp (Mine.bOr f g) μ Q E :=
 Wp.C (h.mono (λ x μ' h => by cases x with
  | true => exact Wp.R h
  | false => exact h) λ _ _ e => e)
theorem Wp.H9 {b : Bool} {μ : St} {Q : Bool -> St -> Prop} (h : Q b μ) : Wp (pTruth (.bool b)) μ Q E := Wp.J rfl h
end
noncomputable def newAll (ts : Ed) : List Int -> List Int -> List Int
 | _, [] => []
 | D, b :: bs => newly ts (D ++ [b]) b ++ newAll ts (D ++ [b]) bs
theorem Zp2 {ts : Ed} {D bs : List Int} {b : Int} : newAll ts D (b :: bs) = newly ts (D ++ [b]) b ++ newAll ts (D ++ [b]) bs := rfl
theorem Zp3 {ts : Ed} {D : List Int} : newAll ts D [] = [] := rfl
theorem Kn.doneAll {ns : List Int} {ts : Ed} : ∀ (bs : List Int) {T : TSt} {O D rd : List Int}, Kn ns ts T O D rd -> bs.Nodup -> (∀ b ∈ bs, b ∈ O ∧ b ∉ D) -> Kn ns ts (bs.foldl fin1 T) O (D ++ bs) (rd ++ newAll ts D bs)
 | [], T, O, D, rd, K, _, _ => by simpa [Zp3] using K
 | b :: bs, T, O, D, rd, K, hn, h => by
  rw [nodup_cons] at hn
  have h1 := h b mem_cons_self
  have ih := Kn.doneAll bs (K.done h1.1 h1.2) hn.2 λ c hc => ⟨(h c (mem_cons_of_mem _ hc)).1, λ q => by
   rcases Qma q with q | q
   ·exact (h c (mem_cons_of_mem _ hc)).2 q
   ·rw [mem_singleton] at q; subst q; exact hn.1 hc⟩
  rw [Zp2, foldl_cons]
  rw [append_assoc, append_assoc] at ih
  exact ih
theorem Kn.scLen {ns : List Int} {ts : Ed} {T : TSt} {O D rd : List Int} (K : Kn ns ts T O D rd) (q : Int) : (T.sc q).length <= ts.length := by
 rw [K.sc]
 unfold scL
 rw [length_map]
 exact length_filter_le _ _
theorem Kn.rdLen {ns : List Int} {ts : Ed} {T : TSt} {O D rd : List Int} (K : Kn ns ts T O D rd) : rd.length <= ns.length := Zq K.rnd λ a h => ((K.rm a).mp h).1
theorem Kn.scIn {ns : List Int} {ts : Ed} {T : TSt} {O D rd : List Int} (K : Kn ns ts T O D rd) {a : Int} : ∀ s ∈ T.sc a, s ∈ T.order := λ s hs => by
 rw [K.sc, Za5] at hs
 rw [K.order]
 exact (K.tin _ hs).2
section
variable {hp : List MO} {o : Nat} {T : TSt} {ly : Lay} {fr : List PV} {E : Value -> St -> Prop} {ns : List Int} {ts : Ed} {O D rd : List Int}
theorem Zka {f : Int -> Nat} {m : Nat} (h : ∀ a, f a <= m) : ∀ (l : List Int), (l.map f).sum <= l.length * m
 | [] => by simp
 | a :: l => by
  have h1 := Zka h l
  have h2 := h a
  simp only [map_cons, sum_cons, length_cons]
  rw [Nat.succ_mul]; lia
theorem Zsj (S : SAt d hp o T ly) (K : Kn ns ts T O D rd) (hnl : ns.length <= 100) {Q : PV -> St -> Prop}
  (h : ∀ hp' T', SAt d hp' o T' ly -> Kn ns ts T' (O ++ rd) D [] -> Same o T ly hp hp' -> (∀ i, Fp o T' ly i ↔ Fp o T ly i) -> Q (.tup (rd.map .int)) ⟨fr, hp'⟩) : Wp (Zbt d [.obj o]) ⟨fr, hp⟩ Q E := by
 have hl := K.rdLen
 refine Zjq S K.ready (λ a ha => by rw [K.order]; exact ((K.rm a).mp ha).1) (by lia) λ hp' S' s' => h hp' _ S' K.get s' λ i => fp_eq (T := T) (T' := getT T rd) rfl ?_ i
 rw [K.ready]
 exact ⟨(λ e => nomatch e), λ e => nomatch e⟩
theorem Zp4 (S : SAt d hp o T ly) (K : Kn ns ts T O D rd) (hnl : ns.length <= 100) (htl : ts.length <= 1000) (bs : List Int) (hbn : bs.Nodup) (hb : ∀ b ∈ bs, b ∈ O ∧ b ∉ D) {Q : PV -> St -> Prop}
  (h : ∀ hp' T', SAt d hp' o T' ly -> Kn ns ts T' O (D ++ bs) (rd ++ newAll ts D bs) -> Same o T ly hp hp' -> (∀ i, Fp o T' ly i ↔ Fp o T ly i) -> Q .none ⟨fr, hp'⟩) : Wp (Zgh d (.obj o :: bs.map .int)) ⟨fr, hp⟩ Q E := by
 have hl := K.rdLen
 have hbl : bs.length <= ns.length := Zq hbn λ b q => K.oN b (hb b q).1
 have hs := Zka (f := λ a => (T.sc a).length) K.scLen bs
 have hr : T.ready ≠ none := by rw [K.ready]; exact Option.some_ne_none _
 have K' := K.doneAll bs hbn hb
 refine Zrm S bs hr ?_ (by lia) (λ k a hk => ?_) λ hp' S' s' => h hp' _ S' K' s' λ i => fp_eq ?_ ?_ i
 ·have e : rlen T = rd.length := by unfold rlen; rw [K.ready]; rfl
  have : bs.length * ts.length <= 100 * 1000 := Nat.mul_le_mul (by lia) htl
  lia
 ·have ha := mem_of_getElem? hk
  have hlt := (Qgl hk)
  have Kp := K.doneAll (bs.take k) (hbn.sublist (List.take_sublist _ _)) λ b q => hb b (List.mem_of_mem_take q)
  refine ⟨by rw [K.order]; exact K.oN a (hb a ha).1, ?_, K.scIn⟩
  rw [Kp.np a (K.oN a (hb a ha).1), if_neg, if_pos (hb a ha).1]
  intro q
  rcases Qma q with q | q
  ·exact (hb a ha).2 q
  ·have nn := hbn
   rw [<- take_append_drop k bs, nodup_append] at nn
   refine nn.2.2 a q a ?_ rfl
   rw [List.drop_eq_getElem_cons hlt, (Qge hk)]
   exact mem_cons_self
 ·rw [K'.order, K.order]
 ·rw [K'.ready, K.ready]; exact ⟨(λ e => nomatch e), λ e => nomatch e⟩
end

def Sd (N : List Int) (ts : Ed) (v : Int) (p : Nat) (x : Int) : Prop := (v = -1 ∧ N[p]? = some x) ∨ (v ≠ -1 ∧ ts[p]? = some (v, x))
theorem Zgm {N : List Int} {ts : Ed} (v : Int) (p : Nat) (x y : Int) (h : Sd N ts v p x) (k : Sd N ts v p y) : x = y := by
 rcases h with h | h <;> rcases k with k | k
 ·exact Option.some.inj (h.2.symm.trans k.2)
 ·exact absurd h.1 k.1
 ·exact absurd k.1 h.1
 ·exact congrArg Prod.snd (Option.some.inj (h.2.symm.trans k.2))
structure FW (S : Int -> Nat -> Int -> Prop) (W : List Pth) (D : Int -> Option Pth) : Prop where
 wp : ∀ a ∈ W, Simp S a ∧ a ≠ []
 dp : ∀ v a, D v = some a -> Simp S a ∧ a ≠ [] ∧ en (-1) a = v
 all : ∀ a, Simp S a -> a ≠ [] -> (∃ b ∈ W, ∃ c, a = b ++ c) ∨ ∃ q, D (en (-1) a) = some q ∧ ¬ Wlt a q
def better (D : Int -> Option Pth) (a : Pth) : Prop := ∀ q, D (en (-1) a) = some q -> Wlt a q
noncomputable def keepW (D : Int -> Option Pth) (a : Pth) : Bool -> Int -> Option Pth
 | true => upd D (en (-1) a) (some a)
 | false => D
noncomputable def nextP (ts : Ed) (a : Pth) (p : Nat) : List Pth := match ts[p]? with
 | some e => if e.1 = en (-1) a ∧ e.2 ∉ a.map (·.2) then [a ++ [(p, e.2)]] else []
 | none => []
noncomputable def nextW (ts : Ed) (a : Pth) (k : Nat) : List Pth := (List.range k).flatMap (nextP ts a)
theorem Zl1 {ts : Ed} {a : Pth} {k : Nat} : nextW ts a (k + 1) = nextW ts a k ++ nextP ts a k := by
 unfold nextW
 rw [List.range_succ, List.flatMap_append]; simp
theorem Zeq {ts : Ed} {a : Pth} : ∀ k, (nextW ts a k).length <= k
 | 0 => Qr
 | k + 1 => by
  rw [Zl1, length_append]
  have := Zeq (ts := ts) (a := a) k
  have : (nextP ts a k).length <= 1 := by
   unfold nextP
   split
   ·split <;> simp
   ·simp
  lia
section
variable {N : List Int} {ts : Ed}
theorem Zer {a b : Pth} {k : Nat} : b ∈ nextW ts a k ↔ ∃ p x, p < k ∧ ts[p]? = some (en (-1) a, x) ∧ x ∉ a.map (·.2) ∧ b = a ++ [(p, x)] := by
 unfold nextW
 rw [List.mem_flatMap]
 constructor
 ·rintro ⟨p, hp, h⟩
  unfold nextP at h
  cases e : ts[p]? with
  | none => rw [e] at h; cases h
  | some q =>
   rw [e] at h
   try dsimp only at h
   by_cases hq : q.1 = en (-1) a ∧ q.2 ∉ a.map (·.2)
   ·rw [if_pos hq] at h
    exact ⟨p, q.2, mem_range.mp hp, by rw [e, <- hq.1], hq.2, Qms h⟩
   ·rw [if_neg hq] at h; cases h
 ·rintro ⟨p, x, h1, h2, h3, h4⟩
  refine ⟨p, mem_range.mpr h1, ?_⟩
  unfold nextP
  rw [h2]
  try dsimp only
  rw [if_pos ⟨rfl, h3⟩, h4]; exact mem_singleton.mpr rfl
theorem Zbg {a : Pth} (nor : ∀ v p x, Sd N ts v p x -> x ≠ -1) (h : Simp (Sd N ts) a) (ha : a ≠ []) : en (-1) a ≠ -1 := Zbj nor h.1 ha
theorem Zhh {a : Pth} {p : Nat} {x : Int} (nor : ∀ v p x, Sd N ts v p x -> x ≠ -1) (h : Simp (Sd N ts) a) (ha : a ≠ []) (e : ts[p]? = some (en (-1) a, x)) (hx : x ∉ a.map (·.2)) : Simp (Sd N ts) (a ++ [(p, x)]) := by
 refine ⟨Z0.mpr ⟨h.1, .inr ⟨Zbg nor h ha, e⟩, trivial⟩, ?_⟩
 rw [map_append]
 exact nodup_append.mpr ⟨h.2, nodup_cons.mpr ⟨not_mem_nil, nodup_nil⟩, λ y hy z hz q => hx (by
  rw [List.map_singleton, mem_singleton] at hz
  have hz : z = x := hz
  rw [<- hz, <- q]; exact hy)⟩
theorem FW.step (nor : ∀ v p x, Sd N ts v p x -> x ≠ -1) {W : List Pth} {a : Pth} {D : Int -> Option Pth} (F : FW (Sd N ts) (W ++ [a]) D) {t : Bool} (ht : t = true ↔ better D a) : FW (Sd N ts) (W ++ nextW ts a ts.length) (keepW D a t) := by
 obtain ⟨sa, na⟩ := F.wp a (mem_append_right _ (mem_singleton.mpr rfl))
 have key : ∀ b, (b = a ∨ ∃ q, D (en (-1) b) = some q ∧ ¬ Wlt b q) -> ∃ q, keepW D a t (en (-1) b) = some q ∧ ¬ Wlt b q := λ b hb => by
  cases t with
  | true =>
   have hB := ht.mp rfl
   show ∃ q, upd D (en (-1) a) (some a) (en (-1) b) = some q ∧ _
   by_cases e : en (-1) b = en (-1) a
   ·refine ⟨a, by rw [e]; exact Zp, ?_⟩
    rcases hb with rfl | ⟨q, h1, h2⟩
    ·exact Zbo
    ·exact λ h => h2 (Zc5 h (hB q (e ▸ h1)))
   ·rcases hb with rfl | ⟨q, h1, h2⟩
    ·exact absurd rfl e
    ·exact ⟨q, (Zv e).trans h1, h2⟩
  | false =>
   rcases hb with rfl | h
   ·obtain ⟨q, hq⟩ := Classical.not_forall.mp λ h => Bool.false_ne_true (ht.mpr h)
    obtain ⟨h1, h2⟩ := Classical.not_imp.mp hq
    exact ⟨q, h1, h2⟩
   ·exact h
 refine ⟨λ b hb => ?_, λ v b hb => ?_, λ b sb nb => ?_⟩
 ·rcases Qma hb with hb | hb
  ·exact F.wp b (mem_append_left _ hb)
  ·obtain ⟨p, x, _, h2, h3, rfl⟩ := Zer.mp hb
   exact ⟨Zhh nor sa na h2 h3, by simp⟩
 ·cases t with
  | true =>
   have hb : upd D (en (-1) a) (some a) v = some b := hb
   by_cases e : v = en (-1) a
   ·rw [e, Zp] at hb
    cases hb
    exact ⟨sa, na, e.symm⟩
   ·rw [Zv e] at hb; exact F.dp v b hb
  | false => exact F.dp v b hb
 ·rcases F.all b sb nb with ⟨c, hc, z, hz⟩ | h
  ·rcases Qma hc with hc | hc
   ·exact .inl ⟨c, mem_append_left _ hc, z, hz⟩
   ·rw [mem_singleton] at hc
    subst hc
    cases z with
    | nil => rw [append_nil] at hz; exact .inr (key b (.inl hz))
    | cons e z =>
     left
     rw [hz] at sb
     have hs := (Z0.mp sb.1).2.1
     rcases hs with h | h
     ·exact absurd h.1 (Zbg nor sa na)
     ·refine ⟨c ++ [e], mem_append_right _ (Zer.mpr ⟨e.1, e.2, (Qgl h.2), h.2, λ q => ?_, rfl⟩), z, by rw [hz, append_assoc]; rfl⟩
      exact Zcb sb.2 q (by simp)
  ·exact .inr (key b (.inr h))
theorem FW.done (nor : ∀ v p x, Sd N ts v p x -> x ≠ -1) {D : Int -> Option Pth} (F : FW (Sd N ts) [] D) {v : Int} {a : Pth} (h : D v = some a) : First (Sd N ts) v a := by
 obtain ⟨h1, h2, h3⟩ := F.dp v a h
 refine ⟨h1, h3, λ b hb eb => ?_⟩
 have nb : b ≠ [] := λ q => by
  subst q
  exact Zbg nor h1 h2 (h3.trans eb.symm)
 rcases F.all b hb nb with ⟨c, hc, _⟩ | ⟨q, h4, h5⟩
 ·cases hc
 ·rw [eb, h] at h4
  cases h4
  exact h5
noncomputable def gm : Nat -> Nat
 | 0 => 1
 | k + 1 => 1 + 10 * gm k
noncomputable def wtP (a : Pth) : Nat := gm (5 - a.length)
theorem Zom : ∀ k, 1 <= gm k
 | 0 => Qr
 | k + 1 => Nat.le_add_right _ _
theorem Zkb : ∀ W : List Pth, W.length <= (W.map wtP).sum
 | [] => Qr
 | a :: W => by
  have := Zkb W
  have := Zom (5 - a.length)
  rw [map_cons, sum_cons, length_cons]
  show _ <= gm (5 - a.length) + _
  lia
theorem Zcj (h5 : N.length <= 5) (tin : ∀ e ∈ ts, e.2 ∈ N) {a : Pth} (h : Simp (Sd N ts) a) : a.length <= 5 := by
 have := Zq (ys := N) h.2 λ x hx => by
  have key : ∀ (a : Pth) (v : Int), Pa (Sd N ts) v a -> ∀ x ∈ a.map (·.2), x ∈ N := by
   intro a
   induction a with
   | nil => intro _ _ x hx; cases hx
   | cons e a ih =>
    intro v hp x hx
    rcases Qmc hx with rfl | hx
    ·rcases hp.1 with k | k
     ·exact mem_of_getElem? k.2
     ·exact tin _ (mem_of_getElem? k.2)
    ·exact ih e.2 hp.2 x hx
  exact key a _ h.1 x hx
 rw [length_map] at this
 lia
theorem Zrw (nor : ∀ v p x, Sd N ts v p x -> x ≠ -1) (h5 : N.length <= 5) (tin : ∀ e ∈ ts, e.2 ∈ N) (tl : ts.length <= 10) {a : Pth} (sa : Simp (Sd N ts) a) (na : a ≠ []) : ((nextW ts a ts.length).map wtP).sum < wtP a := by
 have hall : ∀ b ∈ nextW ts a ts.length, a.length + 1 <= 5 ∧ wtP b = gm (5 - (a.length + 1)) := λ b hb => by
  obtain ⟨p, x, _, h2, h3, rfl⟩ := Zer.mp hb
  have := Zcj h5 tin (Zhh nor sa na h2 h3)
  rw [length_append] at this
  exact ⟨this, by unfold wtP; rw [length_append]; rfl⟩
 have hsum : ∀ (l : List Pth) (g : Nat), (∀ b ∈ l, wtP b = g) -> (l.map wtP).sum = l.length * g := by
  intro l g
  induction l with
  | nil => intro _; simp
  | cons b l ih =>
   intro h
   rw [map_cons, sum_cons, ih λ b hb => h b (mem_cons_of_mem _ hb), h b mem_cons_self, length_cons, Nat.succ_mul, Nat.add_comm]
 rw [hsum _ _ λ b hb => (hall b hb).2]
 have hl := Zeq (ts := ts) (a := a) ts.length
 cases hn : nextW ts a ts.length with
 | nil => rw [length_nil, Nat.zero_mul]; exact Zom _
 | cons b l =>
  have := (hall b (by rw [hn]; exact mem_cons_self)).1
  have e : wtP a = 1 + 10 * gm (5 - (a.length + 1)) := by
   unfold wtP
   rw [show 5 - a.length = (5 - (a.length + 1)) + 1 by lia]; rfl
  rw [e, <- hn]
  have := Nat.mul_le_mul_right (gm (5 - (a.length + 1))) (Nat.le_trans hl tl)
  lia
end

def Kw (i : Nat) (hp hp' : List MO) : Prop := hp'.length = hp.length ∧ ∀ j, j ≠ i -> hp'[j]? = hp[j]?
theorem Kw.refl {i : Nat} {hp : List MO} : Kw i hp hp := ⟨rfl, λ _ _ => rfl⟩
theorem Kw.trans {i : Nat} {hp hp' hp'' : List MO} (h1 : Kw i hp hp') (h2 : Kw i hp' hp'') : Kw i hp hp'' := ⟨h2.1.trans h1.1, λ j hj => (h2.2 j hj).trans (h1.2 j hj)⟩
theorem Kw.of_set {i : Nat} {hp : List MO} {v : MO} : Kw i hp (hp.set i v) := ⟨length_set, λ j hj => List.getElem?_set_ne (Ne.symm hj)⟩
noncomputable def wordV (a : Pth) : List PV := a.map λ e => PV.int e.1
noncomputable def namesV (a : Pth) : List PV := (a.map (·.2)).map PV.int
noncomputable def wayV (a : Pth) : PV := .tup [.lst (wordV a), .lst (namesV a)]
noncomputable def wd (a : Pth) : List Int := a.map λ e => (e.1 : Int)
theorem wd_lt : ∀ {a b : Pth}, ltL (wd a) (wd b) = true ↔ Wlt a b
 | a, [] => by
  rw [show wd [] = [] from rfl, Zli]
  exact ⟨λ h => absurd h Bool.false_ne_true, λ h => (wlt_z h).elim⟩
 | [], _ :: _ => ⟨λ _ => trivial, λ _ => rfl⟩
 | e :: a, f :: b => by
  show ltL ((e.1 : Int) :: wd a) ((f.1 : Int) :: wd b) = true ↔ _
  rw [ltL_s, wlt_c]
  by_cases h : e.1 = f.1
  ·rw [if_pos (congrArg _ h), wd_lt]
   exact ⟨λ k => .inr ⟨h, k⟩, λ k => k.elim (λ k => absurd h (Nat.ne_of_lt k)) (·.2)⟩
  ·rw [if_neg (λ q : (e.1 : Int) = f.1 => h (Int.ofNat.inj q)), decide_eq_true_iff]
   exact ⟨λ k => .inl (Int.ofNat_lt.mp k), λ k => k.elim Int.ofNat_lt.mpr λ k => absurd k.1 h⟩
theorem Zfz {es : List (Int × PV)} {k : Int} : dHas es k = (dGet es k).isSome := by
 unfold dHas dGet
 rw [Option.isSome_map, Bool.eq_iff_iff, any_eq_true, List.find?_isSome]
noncomputable def putF (k : Int) (x : PV) (e : Int × PV) : Int × PV := match e.1 == k with
 | true => (e.1, x)
 | false => e
theorem Zp5 {k : Int} {x : PV} {e : Int × PV} : (putF k x e).1 = e.1 := by unfold putF; cases e.1 == k <;> rfl
theorem Zsk {es : List (Int × PV)} {k : Int} {x : PV} (h : dHas es k = true) : dPut es k x = es.map (putF k x) := by unfold dPut; rw [h]; rfl
theorem Zsl {es : List (Int × PV)} {k : Int} {x : PV} (h : dHas es k = false) : dPut es k x = es ++ [(k, x)] := by unfold dPut; rw [h]
theorem Zes {e : Int × PV} {es : List (Int × PV)} {v : Int} : dGet (e :: es) v = match e.1 == v with | true => some e.2 | false => dGet es v := by
 unfold dGet
 rw [List.find?_cons]
 cases e.1 == v <;> rfl
theorem Zhi {k v : Int} {x : PV} : ∀ {es : List (Int × PV)}, dGet (es.map (putF k x)) v = if v = k then (dGet es v).map λ _ => x else dGet es v
 | [] => by split <;> rfl
 | e :: es => by
  rw [map_cons, Zes, Zes, Zhi, Zp5]
  cases h : e.1 == v with
  | true =>
   unfold putF
   by_cases hv : v = k
   ·rw [if_pos hv, if_pos hv, eq_of_beq h, hv, beq_self_eq_true]; rfl
   ·rw [if_neg hv, if_neg hv, eq_of_beq h, beq_eq_false_iff_ne.mpr hv]
  | false => rfl
theorem Zkc {v : Int} {fs : List (Int × PV)} : ∀ {es : List (Int × PV)}, dGet (es ++ fs) v = (dGet es v).or (dGet fs v)
 | [] => rfl
 | e :: es => by
  rw [List.cons_append, Zes, Zes, Zkc]
  cases e.1 == v <;> rfl
theorem Zp6 {es : List (Int × PV)} {k v : Int} {x : PV} : dGet (dPut es k x) v = upd (dGet es) k (some x) v := by
 unfold upd
 cases h : dHas es k with
 | true =>
  rw [Zsk h, Zhi]
  by_cases hv : v = k
  ·rw [if_pos hv, if_pos hv, hv]
   rw [Zfz] at h
   obtain ⟨y, hy⟩ := Option.isSome_iff_exists.mp h
   rw [hy]; rfl
  ·rw [if_neg hv, if_neg hv]
 | false =>
  rw [Zsl h, Zkc, Zes]
  rw [Zfz] at h
  by_cases hv : v = k
  ·rw [if_pos hv, hv, Option.isSome_eq_false_iff.mp h |> Option.isNone_iff_eq_none.mp, beq_self_eq_true]; rfl
  ·rw [if_neg hv, beq_eq_false_iff_ne.mpr λ q => hv q.symm]
   show (dGet es v).or none = _
   rw [Option.or_none]
theorem Zp7 {es : List (Int × PV)} {k : Int} {x : PV} : (dPut es k x).length <= es.length + 1 := by
 unfold dPut
 cases dHas es k with
 | true => rw [length_map]; exact Nat.le_succ _
 | false => rw [length_append]; exact Qr
section
variable {hp : List MO} {fr : List PV} {E : Value -> St -> Prop}
theorem Wp.putD {i : Nat} {es : List (Int × PV)} {ep : Nat} {k : Int} {y : PV} {Q : Unit -> St -> Prop} (e : hp[i]? = some (.dct es ep)) (hl : es.length <= 1000000) (h : ∀ ep', Q () ⟨fr, hp.set i (.dct (dPut es k y) ep')⟩) : Wp (pSetItem (.obj i) (.int k) y) ⟨fr, hp⟩ Q E := by
 refine Wp.J ?_ (h (match dHas es k with | true => ep | false => ep + 1))
 unfold pSetItem
 try dsimp only
 rw [e]; try dsimp only
 rw [show lenOk es = true from decide_eq_true hl]
 all_goals rfl
theorem Wp.D3 {xs : List PV} {y : PV} {μ : St} {Q : PV -> St -> Prop} (hl : xs.length < 1000000) (h : Q y μ) : Wp (pGet (.lst (xs ++ [y])) (.int (-1))) μ Q E := by
 refine Wp.J ?_ h
 unfold pGet
 try dsimp only
 have : pIdx (xs ++ [y]).length (-1) = some xs.length := by
  unfold pIdx
  rw [if_neg (by lia), if_pos (by simp; lia)]
  congr 1
  simp only [length_append, length_singleton]
  lia
 rw [this]
 simp
theorem Wp.H1 {a : Int} {xs : List Int} {μ : St} {Q : Bool -> St -> Prop} (h : Q (decide (a ∈ xs)) μ) : Wp (pCmp .In (.int a) (.lst (xs.map .int))) μ Q E :=
 Wp.J (f := pIn (.int a) (.lst (xs.map .int))) (show inSeq μ _ _ = _ from Znd) h
theorem Wp.ltL {f g : PM PV} {μ : St} {Q : Bool -> St -> Prop} (h : Wp f μ (λ x μ' => Wp g μ' (λ y μ'' => ∃ xs ys, llOf μ''.hp x = some xs ∧ llOf μ''.hp y = some ys ∧ Q (Mine.ltL xs ys) μ'') E) E) : Wp (Mine.bLtL f g) μ Q E :=
 Wp.C (h.mono (λ x μ1 h => Wp.C (h.mono (λ y μ2 hh => by
  obtain ⟨xs, ys, e1, e2, h⟩ := hh
  refine Wp.J ?_ h
  unfold pLtL
  rw [e1, e2]) λ _ _ e => e)) λ _ _ e => e)
theorem Zl2 {a : Pth} {hp : List MO} : llOf hp (.lst (wordV a)) = some (wd a) := by
 show intsOf (wordV a) = _
 have : wordV a = (wd a).map PV.int := by unfold wordV wd; rw [map_map]; rfl
 rw [this]; exact Zbb _
theorem Zk5 {a : Pth} (h : a ≠ []) : ∃ xs, namesV a = xs ++ [.int (en (-1) a)] ∧ xs.length < a.length := by
 have key : ∀ (a : Pth) (v : Int), a ≠ [] -> ∃ xs, namesV a = xs ++ [.int (en v a)] ∧ xs.length < a.length := by
  intro a
  induction a with
  | nil => intro _ h; exact absurd rfl h
  | cons e a ih =>
   intro v _
   cases a with
   | nil => exact ⟨[], rfl, Nat.zero_lt_one⟩
   | cons f a =>
    obtain ⟨xs, h1, h2⟩ := ih e.2 (cons_ne_nil _ _)
    exact ⟨.int e.2 :: xs, congrArg (PV.int e.2 :: ·) h1, Nat.succ_lt_succ h2⟩
 exact key a _ h
theorem Zp8 {ni ti fi wi : Nat} {ts : Ed} {a : Pth} {W : List Pth} {p : Nat} {z : Int} (hz : z = p) (hp' : p < ts.length) (tl : ts.length <= 1000) (ht : hp[ti]? = some (.lst (ts.map pairV))) (hw : hp[wi]? = some (.lst (W.map wayV))) (hwl : W.length <= 100000) (ha : a.length <= 100) {Q : MF -> St -> Prop}
  (h : ∀ hp', hp'[wi]? = some (.lst ((W ++ nextP ts a p).map wayV)) -> Kw wi hp hp' -> Q .next ⟨[.obj ni, .obj ti, .obj fi, .int z, .obj wi, .lst (wordV a), .lst (namesV a), .int (en (-1) a)], hp'⟩) :
  Wp (Zx d) ⟨[.obj ni, .obj ti, .obj fi, .int z, .obj wi, .lst (wordV a), .lst (namesV a), .int (en (-1) a)], hp⟩ Q E := by
 obtain ⟨e, he⟩ : ∃ e, ts[p]? = some e := ⟨_, List.getElem?_eq_getElem hp'⟩
 have hte : (ts.map pairV)[p]? = some (pairV e) := by rw [List.getElem?_map, he]; rfl
 have hln : (namesV a).length = a.length := by unfold namesV; simp
 have hlw : (wordV a).length = a.length := by unfold wordV; simp
 have hn : nextP ts a p = if e.1 = en (-1) a ∧ e.2 ∉ a.map (·.2) then [a ++ [(p, e.2)]] else [] := by unfold nextP; rw [he]
 rw [hn] at h
 unfold Zx
 have two : (2 : Nat) <= 1000000 := by lia
 have get : ∀ {k : Nat} {y : PV} {Q : PV -> St -> Prop}, [PV.int e.1, .int e.2][k]? = some y -> Q y ⟨[.obj ni, .obj ti, .obj fi, .int z, .obj wi, .lst (wordV a), .lst (namesV a), .int (en (-1) a)], hp⟩ ->
   Wp (eSub (eSub (Mine.getVar 1) (Mine.getVar 3)) (Pure.pure (PV.int k))) ⟨[.obj ni, .obj ti, .obj fi, .int z, .obj wi, .lst (wordV a), .lst (namesV a), .int (en (-1) a)], hp⟩ Q E := λ hk hq =>
  Wp.A3 (Wp.A3 (Wp.B (v := .obj ti) rfl rfl (Wp.B (v := .int z) rfl rfl (Wp.E0 hz (.inl (Zl ht)) hte (by rw [length_map]; lia) (Wp.C1 (Wp.H4 (.inr rfl) hk two hq))))))
 refine Wp.I (Wp.A2 (Wp.J4 (Wp.Z (get (k := 0) rfl (Wp.B (v := .int (en (-1) a)) rfl rfl (Wp.D8 ?_))))))
 cases h1 : e.1 == en (-1) a with
 | false =>
  rw [if_neg (λ q => by rw [q.1, beq_self_eq_true] at h1; cases h1), append_nil] at h
  exact Wp.V (Wp.V (h hp hw .refl))
 | true =>
  refine Wp.J4 (Wp.Z (get (k := 1) rfl (Wp.B (v := .lst (namesV a)) rfl rfl (Wp.E5 (Wp.H1 ?_)))))
  cases h2 : decide (e.2 ∈ a.map (·.2)) with
  | true =>
   rw [if_neg (λ q => q.2 (of_decide_eq_true h2)), append_nil] at h
   exact Wp.V (Wp.V (h hp hw .refl))
  | false =>
   rw [if_pos ⟨eq_of_beq h1, of_decide_eq_false h2⟩] at h
   refine Wp.R ?_
   refine Wp.I (Wp.i (Wp.f (Wp.B (v := .obj wi) rfl rfl (Wp.X hw (Wp.C4 (Wp.e (Wp.E2 (Wp.B (v := .lst (wordV a)) rfl rfl (Wp.B6 (Wp.W (Wp.B (v := .int z) rfl rfl ⟨Nat.le_trans (Nat.le_succ 1) two, _, _, rfl, rfl, ?_, ?_⟩)))))))))))
   ·rw [hlw]; simp; lia
   refine Wp.W (Wp.E2 (Wp.B (v := .lst (namesV a)) rfl rfl (Wp.B6 (Wp.W (get (k := 1) rfl ⟨Nat.le_trans (Nat.le_succ 1) two, _, _, rfl, rfl, ?_, ?_⟩)))))
   ·rw [hln]; simp; lia
   refine ⟨two, Wp.A1 hw (by rw [length_map]; lia) (Wp.V (Wp.V (h _ (Zm hw ▸ ?_) .of_set)))⟩
   rw [map_append]
   have e1 : wordV a ++ [.int z] = wordV (a ++ [(p, e.2)]) := by unfold wordV; rw [map_append, hz]; rfl
   have e2 : namesV a ++ [.int e.2] = namesV (a ++ [(p, e.2)]) := by unfold namesV; rw [map_append, map_append]; rfl
   rw [e1, e2]
   rfl
end

inductive Pl1 (ni ti fi wi : Nat) (ts : Ed) (a : Pth) (W : List Pth) (hp : List MO) (k : Nat) : St -> Prop
 | mk {v3 : PV} {hp' : List MO} (h1 : hp'[wi]? = some (.lst ((W ++ nextW ts a k).map wayV))) (h2 : Kw wi hp hp') : Pl1 ni ti fi wi ts a W hp k ⟨[.obj ni, .obj ti, .obj fi, v3, .obj wi, .lst (wordV a), .lst (namesV a), .int (en (-1) a)], hp'⟩
inductive Fwl (N : List Int) (ts : Ed) (ni ti fi wi : Nat) (hp : List MO) (m : Nat) : St -> Prop
 | mk {W : List Pth} {D : Int -> Option Pth} {es : List (Int × PV)} {ep : Nat} {v3 v5 v6 v7 : PV} {hp' : List MO} (F : FW (Sd N ts) W D) (hf : hp'[fi]? = some (.dct es ep)) (hg : ∀ v, dGet es v = (D v).map wayV) (hw : hp'[wi]? = some (.lst (W.map wayV))) (hm : (W.map wtP).sum = m)
  (hl : es.length + m <= 60000) (old : ∀ i, i < hp.length -> hp'[i]? = hp[i]?) : Fwl N ts ni ti fi wi hp m ⟨[.obj ni, .obj ti, .obj fi, v3, .obj wi, v5, v6, v7], hp'⟩
section
variable {hp : List MO} {fr : List PV} {E : Value -> St -> Prop}
theorem Zon {ni ti fi wi : Nat} {ts : Ed} {a : Pth} {W : List Pth} (tl : ts.length <= 100) (ht : hp[ti]? = some (.lst (ts.map pairV))) (hti : ti ≠ wi) (hw : hp[wi]? = some (.lst (W.map wayV))) (hwl : W.length <= 60000) (ha : a.length <= 100) {v3 : PV} {Q : MF -> St -> Prop}
  (h : ∀ v3 hp', hp'[wi]? = some (.lst ((W ++ nextW ts a ts.length).map wayV)) -> Kw wi hp hp' -> Q .next ⟨[.obj ni, .obj ti, .obj fi, v3, .obj wi, .lst (wordV a), .lst (namesV a), .int (en (-1) a)], hp'⟩) :
  Wp (sSeq (sFor ((argC ((argC (Mine.getVar 1) (Pure.pure [])) >>= pLen) (Pure.pure [])) >>= pRange) (Mine.setVar 3) (Zx d) fuel) sNext) ⟨[.obj ni, .obj ti, .obj fi, v3, .obj wi, .lst (wordV a), .lst (namesV a), .int (en (-1) a)], hp⟩ Q E := by
 have hN : 1000 < fuel := by unfold fuel; lia
 generalize fuel = n at hN ⊢
 have hlt : (ts.map pairV).length = ts.length := length_map ..
 refine Wp.I (Wp.B0 (Wp.C (Wp.W (Wp.C (Wp.W (Wp.B (v := .obj ti) rfl rfl (Wp.B4 (.inl (Zl ht)) (by lia) ?_)))))))
 refine Wp.B3 ?_
 refine Wp.u (Pl1 ni ti fi wi ts a W hp) ts.length (λ k μ hI hk => ?_) n 0 _ (by lia) (Nat.zero_le _) (.mk (by rw [show nextW ts a 0 = [] from rfl, append_nil]; exact hw) .refl)
 obtain ⟨h1, h2⟩ := hI
 rename_i v3 hp'
 rw [hlt, Zbp (by lia) hk]
 by_cases hkx : k < ts.length
 ·right
  rw [if_pos hkx]
  refine ⟨hkx, _, rfl, Wp.H ?_⟩
  obtain ⟨y, hy⟩ : ∃ y : Int, y = k := ⟨_, rfl⟩
  rw [<- hy]
  have hnl := Zeq (ts := ts) (a := a) k
  refine Zp8 hy hkx (by lia) ((h2.2 ti hti).trans ht) h1 (by rw [length_append]; lia) ha λ hp'' h3 h4 => ?_
  refine .mk ?_ (h2.trans h4)
  rw [Zl1, <- append_assoc]; exact h3
 ·left
  rw [if_neg hkx]
  have hk' : k = ts.length := by lia
  subst hk'
  exact ⟨rfl, Wp.V (h _ _ h1 h2)⟩
theorem Zrx {N : List Int} {ts : Ed} {ni ti fi wi : Nat} {W : List Pth} {a : Pth} {D : Int -> Option Pth} {es : List (Int × PV)} {ep : Nat} {m : Nat} {hp0 : List MO} (DR : Drawn 5 N ts) (h7 : hp0[ti]? = some (.lst (ts.map pairV))) (hfi : hp0.length <= fi) (hwi : hp0.length <= wi)
  (F : FW (Sd N ts) (W ++ [a]) D) (nor : ∀ v p x, Sd N ts v p x -> x ≠ -1) (hf : hp[fi]? = some (.dct es ep)) (hg : ∀ v, dGet es v = (D v).map wayV) (hw : hp[wi]? = some (.lst ((W ++ [a]).map wayV))) (hm : ((W ++ [a]).map wtP).sum = m) (hl : es.length + m <= 60000) (old : ∀ i, i < hp0.length -> hp[i]? = hp0[i]?) {v3 v5 v6 v7 : PV} {Q : MF -> St -> Prop}
  (h : ∀ m' μ, m' < m -> Fwl N ts ni ti fi wi hp0 m' μ -> Q .next μ) : Wp (Za1 d) ⟨[.obj ni, .obj ti, .obj fi, v3, .obj wi, v5, v6, v7], hp⟩ Q E := by
 obtain ⟨sa, na⟩ := F.wp a (mem_append_right _ (mem_singleton.mpr rfl))
 have hN5 : N.length <= 5 := Nat.le_of_eq DR.len
 have tin : ∀ e ∈ ts, e.2 ∈ N := λ e he => (DR.tin e he).2
 have hal := Zcj hN5 tin sa
 have hWl := Zkb W
 have hwt := Zrw nor hN5 tin DR.tl sa na
 rw [map_append, sum_append] at hm
 have hm : (W.map wtP).sum + wtP a = m := by rw [<- hm]; simp
 have hti : ti < hp0.length := (Qgl h7)
 have hfw : fi ≠ wi := λ q => by rw [q, hw] at hf; cases hf
 unfold Za1
 refine Wp.I (Wp.Y (Wp.G7 (Wp.B (v := .obj wi) rfl rfl ⟨wi, W.map wayV, wayV a, rfl, by rw [hw, map_append]; rfl, by rw [length_map]; lia, Wp.B8 (Wp.H (Wp.H ?_))⟩)))
 obtain ⟨xs, hx1, hx2⟩ := Zk5 na
 refine Wp.I (Wp.Y (Wp.A3 (Wp.B (v := .lst (namesV a)) rfl rfl (Wp.F1 (Wp.C1 ⟨1, rfl, ?_⟩)))))
 rw [hx1]
 refine Wp.D3 (by lia) (Wp.H ?_)
 rw [<- hx1]
 have hf' : (hp.set wi (.lst (W.map wayV)))[fi]? = some (.dct es ep) := Zk hfw.symm hf
 have hw' : (hp.set wi (.lst (W.map wayV)))[wi]? = some (.lst (W.map wayV)) := Zm hw
 have old' : ∀ i, i < hp0.length -> (hp.set wi (.lst (W.map wayV)))[i]? = hp0[i]? := λ i hi => by
  rw [List.getElem?_set_ne (by lia)]; exact old i hi
 generalize hp.set wi (.lst (W.map wayV)) = h1 at hf' hw' old' ⊢
 have after : ∀ (t : Bool) (h2 : List MO) (es' : List (Int × PV)) (ep' : Nat), (t = true ↔ better D a) -> h2[fi]? = some (.dct es' ep') -> (∀ v, dGet es' v = (keepW D a t v).map wayV) -> es'.length <= es.length + 1 -> h2[wi]? = some (.lst (W.map wayV)) -> (∀ i, i < hp0.length -> h2[i]? = hp0[i]?) ->
   Wp (sSeq (sFor ((argC ((argC (Mine.getVar 1) (Pure.pure [])) >>= pLen) (Pure.pure [])) >>= pRange) (Mine.setVar 3) (Zx d) fuel) sNext) ⟨[.obj ni, .obj ti, .obj fi, v3, .obj wi, .lst (wordV a), .lst (namesV a), .int (en (-1) a)], h2⟩ Q E := λ t h2 es' ep' ht hf2 hg2 hl2 hw2 old2 => by
  refine Zon (by have := DR.tl; lia) ((old2 ti hti).trans h7) (by lia) hw2 (by lia) (by lia) λ v3 h3 hw3 k3 => ?_
  refine h (((W ++ nextW ts a ts.length).map wtP).sum) _ ?_ (.mk (F.step nor ht) ((k3.2 fi hfw).trans hf2) hg2 hw3 rfl ?_ λ i hi => (k3.2 i (by lia)).trans (old2 i hi))
  ·rw [map_append, sum_append]; lia
  ·rw [map_append, sum_append]; lia
 have store : better D a -> Wp (sSeq (sAsg (eTup (argC (Mine.getVar 5) (argC (Mine.getVar 6) (Pure.pure [])))) (tSub (Mine.getVar 2) (Mine.getVar 7))) sNext) ⟨[.obj ni, .obj ti, .obj fi, v3, .obj wi, .lst (wordV a), .lst (namesV a), .int (en (-1) a)], h1⟩
   (SQ (sSeq (sFor ((argC ((argC (Mine.getVar 1) (Pure.pure [])) >>= pLen) (Pure.pure [])) >>= pRange) (Mine.setVar 3) (Zx d) fuel) sNext) Q E) E := λ hB => by
  refine Wp.I (Wp.Y (Wp.C4 (Wp.e (Wp.B (v := .lst (wordV a)) rfl rfl (Wp.W (Wp.B (v := .lst (namesV a)) rfl rfl ⟨by simp, Wp.G2 (Wp.B (v := .obj fi) rfl rfl (Wp.B (v := .int (en (-1) a)) rfl rfl (Wp.putD hf' (by lia) λ ep' => ?_)))⟩))))))
  refine Wp.V (after true _ _ ep' ⟨λ _ => hB, λ _ => rfl⟩ (Zm hf') (λ v => ?_) Zp7 (Zk hfw hw') λ i hi => by rw [List.getElem?_set_ne (by lia)]; exact old' i hi)
  rw [Zp6]
  show _ = (upd D (en (-1) a) (some a) v).map wayV
  unfold upd
  by_cases e : v = en (-1) a
  ·rw [if_pos e, if_pos e]; rfl
  ·rw [if_neg e, if_neg e]; exact hg v
 refine Wp.I (Wp.A2 (Wp.G0 (Wp.Z (Wp.B (v := .int (en (-1) a)) rfl rfl (Wp.B (v := .obj fi) rfl rfl (Wp.E5 (Wp.H2 hf' ?_)))))))
 rw [Zfz, hg]
 cases hD : D (en (-1) a) with
 | none => exact store λ q hq => by rw [hD] at hq; exact Zf hq
 | some q =>
  have hq : dGet es (en (-1) a) = some (wayV q) := by rw [hg, hD]; rfl
  refine Wp.G0 (Wp.ltL (Wp.B (v := .lst (wordV a)) rfl rfl (Wp.A3 (Wp.A3 (Wp.B (v := .obj fi) rfl rfl (Wp.B (v := .int (en (-1) a)) rfl rfl (Wp.D4 hf' hq (Wp.C1 (Wp.H4 (k := 0) (.inr rfl) rfl (by simp) ⟨wd a, wd q, Zl2, Zl2, ?_⟩)))))))))
  cases hlt : ltL (wd a) (wd q) with
  | true => exact store λ q' hq' => by rw [hD] at hq'; cases hq'; exact wd_lt.mp hlt
  | false =>
   refine Wp.R (Wp.V ?_)
   refine after false h1 es ep ⟨λ h => absurd h Bool.false_ne_true, λ h => ?_⟩ hf' hg (Nat.le_succ _) hw' old'
   exact hlt.symm.trans (wd_lt.mpr (h q hD))
end

noncomputable def oneW (N : List Int) (i : Nat) : Pth := [(i, N.getD i 0)]
theorem Zg1 {N : List Int} {i : Nat} {x : Int} (h : N[i]? = some x) : N.getD i 0 = x := by rw [getD_eq_getElem?_getD, h]; rfl
section
variable {N : List Int} {ts : Ed}
theorem Zc7 (DR : Drawn 5 N ts) (v : Int) (p : Nat) (x : Int) (h : Sd N ts v p x) : x ≠ -1 := by
 have key : x ∈ N := by
  rcases h with h | h
  ·exact mem_of_getElem? h.2
  ·exact (DR.tin _ (mem_of_getElem? h.2)).2
 have := (DR.mem x).mp key
 lia
theorem FW.start : FW (Sd N ts) ((List.range N.length).map (oneW N)) λ _ => none := by
 refine ⟨λ a ha => ?_, λ v a h => Zf h, λ a sa na => .inl ?_⟩
 ·obtain ⟨i, hi, rfl⟩ := Qmm ha
  rw [mem_range] at hi
  refine ⟨⟨⟨.inl ⟨rfl, ?_⟩, trivial⟩, nodup_cons.mpr ⟨not_mem_nil, nodup_nil⟩⟩, cons_ne_nil _ _⟩
  rw [List.getElem?_eq_getElem hi, Zg1 (List.getElem?_eq_getElem hi)]
 ·cases a with
  | nil => exact absurd rfl na
  | cons e z =>
   rcases sa.1.1 with k | k
   ·refine ⟨[e], mem_map.mpr ⟨e.1, mem_range.mpr (Qgl k.2), ?_⟩, z, rfl⟩
    unfold oneW
    rw [Zg1 k.2]
   ·exact absurd rfl k.1
theorem Zkd : ∀ l : List Nat, ((l.map (oneW N)).map wtP).sum = l.length * 11111
 | [] => rfl
 | i :: l => by
  rw [map_cons, map_cons, sum_cons, Zkd l, length_cons, Nat.succ_mul, Nat.add_comm]
  rfl
end
section
variable {hp : List MO} {fr : List PV} {E : Value -> St -> Prop}
theorem Zdn {N : List Int} {ts : Ed} {ni ti : Nat} (DR : Drawn 5 N ts) (h6 : hp[ni]? = some (.lst (N.map .int))) (h7 : hp[ti]? = some (.lst (ts.map pairV))) {Q : PV -> St -> Prop}
  (h : ∀ hp' fi es ep D, (∀ i, i < hp.length -> hp'[i]? = hp[i]?) -> hp'[fi]? = some (.dct es ep) -> (∀ v, dGet es v = (D v).map wayV) -> FW (Sd N ts) [] D -> Q (.obj fi) ⟨fr, hp'⟩) : Wp (Za9 d [.obj ni, .obj ti]) ⟨fr, hp⟩ Q E := by
 refine Wp.A0 rfl ?_
 unfold g_law_first_ways
 have hN : 60000 < fuel := by unfold fuel; lia
 have hlN : (N.map PV.int).length = N.length := length_map ..
 have h5 := DR.len
 refine Wp.I (Wp.Y (Wp.C (Wp.b (Wp.R (Wp.H ?_)))))
 have g6 : (hp ++ [MO.dct [] 0])[ni]? = some (.lst (N.map .int)) := getElem?_app h6
 refine Wp.I (Wp.Y (Wp.G4 (pv := .rng 0 (N.length : Nat) 1) ((List.range N.length).map λ (i : Nat) => PV.int i) (((List.range N.length).map (oneW N)).map wayV) (by rw [length_map, length_range]; lia) (by simp) (by simp; lia)
  (Wp.C (Wp.W (Wp.C (Wp.W (Wp.B (v := .obj ni) rfl rfl (Wp.B4 (.inl (Zl g6)) (by lia) (hlN ▸ Wp.B3 ⟨rfl, rfl⟩))))))) (λ k hk fr' zz => Zpz (by lia) (by rw [length_map, length_range] at hk; exact hk)) (λ k x y u w zz hx hy => ?_) (Wp.H ?_)))
 ·rw [List.getElem?_map] at hx
  rw [map_map, List.getElem?_map] at hy
  cases hs : (List.range N.length)[k]? with
  | none => rw [hs] at hx; cases hx
  | some i =>
   have hi : i < N.length := mem_range.mp (mem_of_getElem? hs)
   rw [hs] at hx hy
   cases hx; cases hy
   have hNi : (N.map PV.int)[i]? = some (.int (N.getD i 0)) := by rw [List.getElem?_map, List.getElem?_eq_getElem hi, Zg1 (List.getElem?_eq_getElem hi)]; rfl
   refine Wp.H (Wp.C4 (Wp.e (Wp.B6 (Wp.W (Wp.B (v := .int i) rfl rfl ⟨by simp, Wp.W (Wp.B6 (Wp.W (Wp.A3 (Wp.B (v := .obj ni) rfl rfl (Wp.B (v := .int i) rfl rfl (Wp.H4 (.inl (Zl (getElem?_app g6))) hNi (by lia) ?_))))))⟩)))))
   exact ⟨by simp, by simp, rfl, _, _, rfl⟩
 have l1 : (hp ++ [MO.dct [] 0]).length = hp.length + 1 := by simp
 rw [l1]
 have f1 : (hp ++ [MO.dct [] 0] ++ [MO.lst (((List.range N.length).map (oneW N)).map wayV)])[hp.length]? = some (.dct [] 0) := getElem?_app Z6
 have w1 : (hp ++ [MO.dct [] 0] ++ [MO.lst (((List.range N.length).map (oneW N)).map wayV)])[hp.length + 1]? = some (.lst (((List.range N.length).map (oneW N)).map wayV)) := by rw [<- l1]; exact Z6
 have o1 : ∀ i, i < hp.length -> (hp ++ [MO.dct [] 0] ++ [MO.lst (((List.range N.length).map (oneW N)).map wayV)])[i]? = hp[i]? := λ i hi => by
  rw [List.getElem?_append_left (by lia), List.getElem?_append_left hi]
 generalize (hp ++ [MO.dct [] 0] ++ [MO.lst (((List.range N.length).map (oneW N)).map wayV)]) = h1 at f1 w1 o1 ⊢
 have hwt := (Zkd (N := N) (List.range N.length)).trans (congrArg (· * 11111) (length_range.trans h5))
 refine Wp.I ?_
 generalize fuel = n at hN ⊢
 refine Wp.J5 (Fwl N ts ni ti hp.length (hp.length + 1) hp) (λ m μ hI => ?_) n (5 * 11111) _ (by lia) (.mk FW.start f1 (λ v => rfl) w1 hwt (by simp) o1)
 obtain ⟨F, hf, hg, hw, hm, hl, old⟩ := hI
 rename_i W D es ep v3 v5 v6 v7 hp'
 have hWl := Zkb W
 refine Wp.D5 (Wp.B (v := .obj (hp.length + 1)) rfl rfl (Wp.E7 hw (by rw [length_map]; lia) ?_))
 rcases List.eq_nil_or_concat W with rfl | ⟨W, a, rfl⟩
 ·exact Wp.V (Wp.I (Wp.D1 (Wp.B (v := .obj hp.length) rfl rfl (h hp' _ es ep D old hf hg F))))
 ·have e : (!((W.concat a).map wayV).isEmpty) = true := by simp
  rw [e]
  rw [List.concat_eq_append] at F hw hm
  exact Zrx DR h7 Qr (Nat.le_succ _) F (Zc7 DR) hf hg hw hm hl old λ m' μ h1 h2 => ⟨m', h1, h2⟩
end

def KSorts : Prop := ∀ n : Nat, 2 <= n -> n < 64 -> ∀ key : Nat -> Int, (kRun (λ i j => decide (key i < key j)) (kas_sort n)).size = n ∧ (kRun (λ i j => decide (key i < key j)) (kas_sort n)).toList.Perm (List.range n) ∧
 ∀ i j, i <= j -> j < n -> key ((kRun (λ i j => decide (key i < key j)) (kas_sort n)).getD i 0) <= key ((kRun (λ i j => decide (key i < key j)) (kas_sort n)).getD j 0)
theorem Zoo (prog : Program) (w : World) (s : Shared) : KSorts := λ _ h2 h64 key => Zn9 prog w s h2 h64 key rfl
theorem Zgn {α : Type} {r : α -> α -> Prop} (as : ∀ a b, r a b -> ¬ r b a) : ∀ {xs ys : List α}, xs.Pairwise r -> ys.Pairwise r -> (∀ a, a ∈ xs ↔ a ∈ ys) -> xs = ys
 | [], [], _, _, _ => rfl
 | [], y :: ys, _, _, h => by have := (h y).mpr mem_cons_self; cases this
 | x :: xs, [], _, _, h => by have := (h x).mp mem_cons_self; cases this
 | x :: xs, y :: ys, h1, h2, h => by
  rw [List.pairwise_cons] at h1 h2
  have ir : ∀ a, ¬ r a a := λ a q => as a a q q
  have e : x = y := by
   rcases Qmc ((h x).mp mem_cons_self) with q | q
   ·exact q
   ·rcases Qmc ((h y).mpr mem_cons_self) with q2 | q2
    ·exact q2.symm
    ·exact absurd (h2.1 x q) (as _ _ (h1.1 y q2))
  subst e
  congr 1
  refine Zgn as h1.2 h2.2 λ a => ⟨λ q => ?_, λ q => ?_⟩
  ·rcases Qmc ((h a).mp (mem_cons_of_mem _ q)) with q2 | q2
   ·subst q2; exact absurd (h1.1 _ q) (ir _)
   ·exact q2
  ·rcases Qmc ((h a).mpr (mem_cons_of_mem _ q)) with q2 | q2
   ·subst q2; exact absurd (h2.1 _ q) (ir _)
   ·exact q2
theorem KV.congr {α : Type} {P : α -> Prop} {n : Nat} {f g : Nat -> Nat -> Bool} (h : ∀ i j, i < n -> j < n -> f i j = g i j) : ∀ {t : KasT α}, KV n t P -> kRun f t = kRun g t
 | .ret _, _ => rfl
 | .ask i j k, q => by
  show kRun f (k (f i j)) = kRun g (k (g i j))
  rw [h i j q.1.1 q.1.2]
  exact KV.congr h (q.2 _)
theorem Zp9 (K : KSorts) {α : Type} (z : α) (g : α -> PV) (key : α -> Int) (ans : Nat -> Nat -> Bool) (ds : List α) (h64 : ds.length < 64) (nd : (ds.map key).Nodup) (ha : ∀ i j, i < ds.length -> j < ds.length -> ans i j = decide (key (ds.getD i z) < key (ds.getD j z))) :
  ∃ es : List α, (kRun ans (kas_sort (ds.map g).length)).toList.map (λ i => (ds.map g).getD i .none) = es.map g ∧ es.Perm ds ∧ es.Pairwise λ a b => key a < key b := by
 have eX : ∀ p : Array Nat, Lt ds.length p ∨ p.size = 0 -> p.toList.map (λ i => (ds.map g).getD i .none) = (p.toList.map λ i => ds.getD i z).map g := λ p hp => by
  rw [map_map]
  refine map_congr_left λ i hi => ?_
  have hlt : i < ds.length := by
   rcases hp with hp | hp
   ·obtain ⟨j, hj, e⟩ := List.getElem_of_mem hi
    have := hp j
    rw [Array.length_toList] at hj
    rw [show p.getD j 0 = p[j] by simp [Array.getD, hj]] at this
    rw [<- e]; simpa using this
   ·have : p.toList = [] := List.length_eq_zero_iff.mp (by rw [Array.length_toList]; exact hp)
    rw [this] at hi; cases hi
  show (ds.map g).getD i .none = g (ds.getD i z)
  rw [getD_eq_getElem?_getD, getD_eq_getElem?_getD, List.getElem?_map, List.getElem?_eq_getElem hlt]; rfl
 have self : (List.range ds.length).map (λ i => ds.getD i z) = ds := by
  refine ext_getElem (by simp) λ i h1 h2 => ?_
  rw [getElem_map, List.getElem_range, getD_eq_getElem?_getD, List.getElem?_eq_getElem h2]; rfl
 rw [length_map]
 by_cases h2 : ds.length < 2
 ·rw [Zll _ h2]
  refine ⟨ds, ?_, List.Perm.refl _, ?_⟩
  ·rw [eX _ (by
    by_cases q : 0 < ds.length
    ·exact .inl (Zi0 q)
    ·exact .inr (by rw [show ds.length = 0 by lia]; rfl))]
   rw [show (List.toArray (List.range ds.length)).toList = List.range ds.length from rfl, self]
  ·rw [List.pairwise_iff_getElem]
   exact λ i j hi hj hij => by lia
 ·have hn : 0 < ds.length := by lia
  have hk : kRun ans (kas_sort ds.length) = kRun (λ i j => decide (key (ds.getD i z) < key (ds.getD j z))) (kas_sort ds.length) := (Zc4 hn).congr ha
  obtain ⟨k1, k2, k3⟩ := K ds.length (by lia) h64 λ i => key (ds.getD i z)
  rw [<- hk] at k1 k2 k3
  have hl := (Zc4 hn).run ans
  generalize kRun ans (kas_sort ds.length) = p at k1 k2 k3 hl ⊢
  have hp : (p.toList.map λ i => ds.getD i z).Perm ds := by
   have := k2.map λ i => ds.getD i z
   rw [self] at this; exact this
  refine ⟨_, eX _ (.inl hl), hp, ?_⟩
  have nd : ((p.toList.map λ i => ds.getD i z).map key).Nodup := (hp.map key).nodup_iff.mpr nd
  rw [List.pairwise_iff_getElem]
  intro i j hi hj hij
  have hi' : i < p.size := by simpa using hi
  have hj' : j < p.size := by simpa using hj
  have := k3 i j (by lia) (by lia)
  rw [show p.getD i 0 = p[i] by simp [Array.getD, hi'], show p.getD j 0 = p[j] by simp [Array.getD, hj']] at this
  have e : ∀ k (hk : k < (p.toList.map λ i => ds.getD i z).length) (hk' : k < p.size), (p.toList.map λ i => ds.getD i z)[k] = ds.getD p[k] z := λ k hk hk' => by rw [getElem_map, Array.getElem_toList]
  rw [<- e i hi hi', <- e j hj hj'] at this
  refine Int.lt_iff_le_and_ne.mpr ⟨this, λ q => absurd ?_ (Nat.ne_of_lt hij)⟩
  refine (getElem_inj (h₀ := by rw [length_map]; exact hi) (h₁ := by rw [length_map]; exact hj) nd).mp ?_
  rw [getElem_map (f := key), getElem_map (f := key)]
  exact q
noncomputable abbrev CE := Pth × (Nat × Int)
noncomputable def cw (c : CE) : Pth := c.1 ++ [c.2]
noncomputable abbrev CLt (c c' : CE) : Prop := Wlt (cw c) (cw c')
theorem Zop (a b : CE) (h : CLt a b) (k : CLt b a) : False := Zbo (Zc5 h k)
noncomputable def cloV (c : CE) : PV := .tup [.lst (wordV (cw c)), .lst ((ringP c.1 c.2.2).map .int)]
noncomputable def rankC (ds : List CE) (c : CE) : Int := ((ds.filter λ x => yes (CLt x c)).length : Nat)
theorem Zc8 {ds : List CE} {c c' : CE} (hc : c ∈ ds) (h : CLt c c') : rankC ds c < rankC ds c' :=
 Int.ofNat_lt.mpr (Zhe (p := λ x => CLt x c) (q := λ x => CLt x c') (a := c) ds (λ x hx => Zc5 hx h) hc h Zbo)
noncomputable def closE (ts : Ed) (D : Int -> Option Pth) (p : Nat) : List CE := match ts[p]? with
 | some e => match D e.1 with
  | some a => if e.2 ∈ a.map (·.2) then [(a, (p, e.2))] else []
  | none => []
 | none => []
noncomputable def closL (ts : Ed) (D : Int -> Option Pth) (k : Nat) : List CE := (List.range k).flatMap (closE ts D)
theorem Zl3 {ts : Ed} {D : Int -> Option Pth} {k : Nat} : closL ts D (k + 1) = closL ts D k ++ closE ts D k := by
 unfold closL
 rw [List.range_succ, List.flatMap_append]; simp
theorem Zet {ts : Ed} {D : Int -> Option Pth} {p : Nat} {c : CE} : c ∈ closE ts D p ↔ ∃ v, ts[p]? = some (v, c.2.2) ∧ D v = some c.1 ∧ c.2.2 ∈ c.1.map (·.2) ∧ c.2.1 = p := by
 unfold closE
 constructor
 ·intro h
  cases e : ts[p]? with
  | none => rw [e] at h; cases h
  | some q =>
   rw [e] at h
   try dsimp only at h
   cases e2 : D q.1 with
   | none => rw [e2] at h; cases h
   | some a =>
    rw [e2] at h
    try dsimp only at h
    by_cases hq : q.2 ∈ a.map (·.2)
    ·rw [if_pos hq] at h
     rw [Qms h]
     exact ⟨q.1, rfl, e2, hq, rfl⟩
    ·rw [if_neg hq] at h; cases h
 ·rintro ⟨v, h1, h2, h3, h4⟩
  rw [h1]
  try dsimp only
  rw [h2]
  try dsimp only
  rw [if_pos h3, mem_singleton, <- h4]
theorem Zeu {ts : Ed} {D : Int -> Option Pth} {k : Nat} {c : CE} : c ∈ closL ts D k ↔ ∃ v, c.2.1 < k ∧ ts[c.2.1]? = some (v, c.2.2) ∧ D v = some c.1 ∧ c.2.2 ∈ c.1.map (·.2) := by
 unfold closL
 rw [List.mem_flatMap]
 constructor
 ·rintro ⟨p, hp, h⟩
  obtain ⟨v, h1, h2, h3, h4⟩ := Zet.mp h
  rw [<- h4] at h1 hp
  exact ⟨v, mem_range.mp hp, h1, h2, h3⟩
 ·rintro ⟨v, h0, h1, h2, h3⟩
  exact ⟨_, mem_range.mpr h0, Zet.mpr ⟨v, h1, h2, h3, rfl⟩⟩
theorem Zoq {ts : Ed} {D : Int -> Option Pth} {k : Nat} : (closE ts D k).length <= 1 := by
 unfold closE
 split
 ·split
  ·split <;> simp
  ·simp
 ·simp
theorem Zc1 {ts : Ed} {D : Int -> Option Pth} : ∀ k, ((closL ts D k).map λ c => c.2.1).Nodup ∧ (closL ts D k).length <= k
 | 0 => ⟨nodup_nil, Qr⟩
 | k + 1 => by
  obtain ⟨h1, h2⟩ := Zc1 (ts := ts) (D := D) k
  have h3 := Zoq (ts := ts) (D := D) (k := k)
  rw [Zl3, map_append, length_append]
  refine ⟨nodup_append.mpr ⟨h1, ?_, λ a ha b hb q => ?_⟩, by lia⟩
  ·cases h : closE ts D k with
   | nil => exact nodup_nil
   | cons x l =>
    cases l with
    | nil => exact nodup_cons.mpr ⟨not_mem_nil, nodup_nil⟩
    | cons y l => rw [h] at h3; simp at h3
  ·obtain ⟨c, hc, rfl⟩ := Qmm ha
   obtain ⟨c', hc', rfl⟩ := Qmm hb
   obtain ⟨_, h4, _⟩ := Zeu.mp hc
   obtain ⟨_, _, _, _, h5⟩ := Zet.mp hc'
   lia

theorem Zl4 : ∀ d : List Int, ltL d d = false
 | [] => rfl
 | x :: d => by rw [ltL_s, if_pos rfl]; exact Zl4 d
noncomputable def prC (c : CE) : List Int × List Int := (wd (cw c), ringP c.1 c.2.2)
theorem Zqa {a : Pth} : wordV a = (wd a).map PV.int := by unfold wordV wd; rw [map_map]; rfl
theorem Zsm (c : CE) : prOf (cloV c) = some (prC c) := by
 unfold cloV
 rw [Zqa]
 show (intsOf ((wd (cw c)).map PV.int)).bind _ = _
 rw [Zbb]
 show (intsOf _).map _ = _
 rw [Zbb]; rfl
theorem Zke {α β γ : Type} {f : β -> Option γ} {g : α -> β} {k : α -> γ} (h : ∀ x, f (g x) = some (k x)) : ∀ l : List α, mapO f (l.map g) = some (l.map k)
 | [] => rfl
 | x :: l => by rw [map_cons, Zc2, h, Zke h l]; rfl
section
variable {N : List Int} {ts : Ed} {D : Int -> Option Pth}
theorem Zry (nor : ∀ v p x, Sd N ts v p x -> x ≠ -1) (F : FW (Sd N ts) [] D) {k : Nat} {c c' : CE} (h : c ∈ closL ts D k) (h' : c' ∈ closL ts D k) : CLt c c' ∨ cw c = cw c' ∨ CLt c' c := by
 have pa : ∀ c, c ∈ closL ts D k -> Pa (Sd N ts) (-1) (cw c) := λ c h => by
  obtain ⟨v, _, h1, h2, h3⟩ := Zeu.mp h
  have A := F.done nor h2
  have hne : c.1 ≠ [] := λ q => by rw [q] at h3; cases h3
  exact Z0.mpr ⟨A.ok.1, .inr ⟨Zbg nor A.ok hne, A.to ▸ h1⟩, trivial⟩
 exact Zc6 Zgm (pa c h) (pa c' h')
theorem cw_inj {c c' : CE} (h : cw c = cw c') : c = c' := by
 obtain ⟨h1, h2⟩ := List.append_inj' h rfl
 cases c; cases c'; cases h1; cases h2; rfl
theorem Zqb (K : KSorts) (nor : ∀ v p x, Sd N ts v p x -> x ≠ -1) (F : FW (Sd N ts) [] D) (hk : ts.length <= 60) :
  ∃ es : List CE, sortP ((closL ts D ts.length).map prC) ((closL ts D ts.length).map cloV) = es.map cloV ∧ es.Perm (closL ts D ts.length) ∧ es.Pairwise CLt := by
 obtain ⟨h1, h2⟩ := Zc1 (ts := ts) (D := D) ts.length
 have tri := λ {c c' : CE} => Zry (c := c) (c' := c') nor F (k := ts.length)
 generalize closL ts D ts.length = ds at h1 h2 tri ⊢
 have nd : (ds.map (rankC ds)).Nodup := by
  unfold List.Nodup at h1 ⊢
  rw [pairwise_map] at h1 ⊢
  refine List.Pairwise.imp_of_mem (λ {a b} ha hb h q => ?_) h1
  rcases tri ha hb with k | k | k
  ·exact absurd (Zc8 ha k) (by rw [q]; exact Int.lt_irrefl _)
  ·exact h (by rw [cw_inj k])
  ·exact absurd (Zc8 hb k) (by rw [q]; exact Int.lt_irrefl _)
 have at' : ∀ i, i < ds.length -> ds.getD i ([], (0, 0)) ∈ ds ∧ (ds.map prC).getD i ([], []) = prC (ds.getD i ([], (0, 0))) ∧ (ds.getD i ([], (0, 0))) = ds.getD i ([], (0, 0)) := λ i hi => by
  rw [getD_eq_getElem?_getD, getD_eq_getElem?_getD, List.getElem?_map, List.getElem?_eq_getElem hi]
  exact ⟨getElem_mem hi, rfl, rfl⟩
 have ha : ∀ i j, i < ds.length -> j < ds.length -> ansP (ds.map prC) i j = decide (rankC ds (ds.getD i ([], (0, 0))) < rankC ds (ds.getD j ([], (0, 0)))) := λ i j hi hj => by
  obtain ⟨mi, ei, _⟩ := at' i hi
  obtain ⟨mj, ej, _⟩ := at' j hj
  unfold ansP
  rw [ei, ej]
  generalize ds.getD i ([], (0, 0)) = c at mi ⊢
  generalize ds.getD j ([], (0, 0)) = c' at mj ⊢
  have hne : ∀ {x y : CE}, CLt x y -> wd (cw x) ≠ wd (cw y) := λ {x y} h q => by
   have := wd_lt.mpr h
   rw [q, Zl4] at this
   exact Bool.false_ne_true this
  unfold ltP prC
  try dsimp only
  rcases tri mi mj with k | k | k
  ·rw [if_neg (hne k), decide_eq_true (Zc8 mi k)]; exact wd_lt.mpr k
  ·rw [cw_inj k, if_pos rfl, if_pos rfl]
   exact (decide_eq_false (Int.lt_irrefl _)).symm
  ·rw [if_neg (hne k).symm, decide_eq_false (Int.not_lt.mpr (Int.le_of_lt (Zc8 mj k)))]
   rw [Bool.eq_false_iff]
   exact λ q => Zop _ _ k (wd_lt.mp q)
 obtain ⟨es, e1, e2, e3⟩ := Zp9 K ([], (0, 0)) cloV (rankC ds) (ansP (ds.map prC)) ds (by lia) nd ha
 refine ⟨es, e1, e2, List.Pairwise.imp_of_mem (λ {a b} ha hb h => ?_) e3⟩
 have ha := e2.mem_iff.mp ha
 have hb := e2.mem_iff.mp hb
 rcases tri ha hb with k | k | k
 ·exact k
 ·rw [cw_inj k] at h; exact absurd h (Int.lt_irrefl _)
 ·exact absurd h (Int.not_lt.mpr (Int.le_of_lt (Zc8 hb k)))
end
section
variable {hp : List MO} {fr : List PV} {E : Value -> St -> Prop}
theorem Wp.D7 {fo : PM PV} {ga : PM (List PV)} {μ : St} {Q : PV -> St -> Prop} (h : Wp fo μ (λ x μ1 => ∃ (xs : List Int) (k : Int), isLst μ1.hp x = some (xs.map .int) ∧ Wp ga μ1 (λ ys μ2 => isLst μ2.hp x = some (xs.map .int) ∧ ys = [.int k] ∧ k ∈ xs ∧ xs.length <= 1000000 ∧ Q (.int (xs.idxOf k : Nat)) μ2) E) E) : Wp (Mine.mIndex fo ga) μ Q E :=
 Wp.C (h.mono (λ x μ1 hh => by
  obtain ⟨xs, k, e1, h⟩ := hh
  refine Wp.C (Wp.E3 e1 (Wp.C (h.mono (λ ys μ2 hh => ?_) λ _ _ e => e)))
  obtain ⟨e2, rfl, hk, hl, h⟩ := hh
  refine Wp.C (Wp.E3 e2 ?_)
  unfold pIndex
  rw [Zbb]
  try dsimp only
  rw [List.findIdx?_eq_some_iff_findIdx_eq.mpr ⟨idxOf_lt_length_iff.mpr hk, rfl⟩]
  refine Wp.C (Wp.A6 (decide_eq_true (by rw [length_map]; exact hl)) (Wp.R h))) λ _ _ e => e)
theorem Wp.J6 {fo : PM PV} {i : Nat} {xs : List PV} {ds : List (List Int × List Int)} {Q : PV -> St -> Prop} (e : hp[i]? = some (.lst xs)) (hl : xs.length < 64) (hd : mapO prOf xs = some ds) (hf : Wp fo ⟨fr, hp⟩ (λ v μ => v = .obj i ∧ μ = ⟨fr, hp⟩) E) (h : Q .none ⟨fr, hp.set i (.lst (sortP ds xs))⟩) : Wp (mSortP fo (Pure.pure [])) ⟨fr, hp⟩ Q E :=
 Wp.C (hf.mono (λ x μ hh => by
  obtain ⟨rfl, rfl⟩ := hh
  refine Wp.C (Wp.X e (Wp.C (Wp.j (Wp.C (Wp.X e (Wp.C (Wp.A6 (decide_eq_true hl) (Wp.C (Wp.J (a := ds) (μ' := ⟨fr, hp⟩) ?_ (Wp.C (Wp.C3 (Wp.R h))))))))))))
  unfold prsM
  rw [hd]) λ _ _ e => e)
end

noncomputable def rgV (c : CE) : PV := .lst ((ringP c.1 c.2.2).map .int)
inductive Rg1 (ni ti fi ci : Nat) (ts : Ed) (D : Int -> Option Pth) (hp : List MO) (k : Nat) : St -> Prop
 | mk {v4 v5 v6 v7 v8 : PV} {hp' : List MO} (h1 : hp'[ci]? = some (.lst ((closL ts D k).map cloV))) (h2 : Kw ci hp hp') : Rg1 ni ti fi ci ts D hp k ⟨[.obj ni, .obj ti, .obj fi, .obj ci, v4, v5, v6, v7, v8], hp'⟩
section
variable {hp : List MO} {fr : List PV} {E : Value -> St -> Prop}
theorem Zrz {ni ti fi ci p : Nat} {ts : Ed} {D : Int -> Option Pth} {es : List (Int × PV)} {ep : Nat} {cs : List CE} {z : Int} (hz : z = p) (hp' : p < ts.length) (tl : ts.length <= 100) (ht : hp[ti]? = some (.lst (ts.map pairV))) (hf : hp[fi]? = some (.dct es ep)) (hg : ∀ v, dGet es v = (D v).map wayV)
  (hD : ∀ e ∈ ts, ∃ a, D e.1 = some a ∧ a.length <= 5) (hc : hp[ci]? = some (.lst (cs.map cloV))) (hcl : cs.length <= 100) {v5 v6 v7 v8 : PV} {Q : MF -> St -> Prop}
  (h : ∀ v5 v6 v7 v8 hp', hp'[ci]? = some (.lst ((cs ++ closE ts D p).map cloV)) -> Kw ci hp hp' -> Q .next ⟨[.obj ni, .obj ti, .obj fi, .obj ci, .int z, v5, v6, v7, v8], hp'⟩) :
  Wp (Zb2 d) ⟨[.obj ni, .obj ti, .obj fi, .obj ci, .int z, v5, v6, v7, v8], hp⟩ Q E := by
 obtain ⟨e, he⟩ : ∃ e, ts[p]? = some e := ⟨_, List.getElem?_eq_getElem hp'⟩
 have hte : (ts.map pairV)[p]? = some (pairV e) := by rw [List.getElem?_map, he]; rfl
 obtain ⟨a, ha, hal⟩ := hD e (mem_of_getElem? he)
 have hga : dGet es e.1 = some (wayV a) := by rw [hg, ha]; rfl
 have hn : closE ts D p = if e.2 ∈ a.map (·.2) then [(a, (p, e.2))] else [] := by unfold closE; rw [he]; try dsimp only; rw [ha]
 have hln : (a.map (·.2)).length = a.length := length_map ..
 have hlw : (wordV a).length = a.length := by unfold wordV; simp
 unfold Zb2
 refine Wp.I (Wp.Y (Wp.A3 (Wp.B (v := .obj ti) rfl rfl (Wp.B (v := .int z) rfl rfl (Wp.E0 hz (.inl (Zl ht)) hte (by rw [length_map]; lia) (Wp.B8 (Wp.H (Wp.H ?_))))))))
 refine Wp.I (Wp.Y (Wp.A3 (Wp.B (v := .obj fi) rfl rfl (Wp.B (v := .int e.1) rfl rfl (Wp.D4 hf hga (Wp.B8 (Wp.H (Wp.H ?_))))))))
 refine Wp.I (Wp.A2 (Wp.Z (Wp.B (v := .int e.2) rfl rfl (Wp.B (v := .lst (namesV a)) rfl rfl (Wp.H1 ?_)))))
 rw [hn] at h
 cases hm : decide (e.2 ∈ a.map (·.2)) with
 | false =>
  rw [if_neg (of_decide_eq_false hm), append_nil] at h
  exact Wp.V (Wp.V (h _ _ _ _ hp hc .refl))
 | true =>
  have hm' := of_decide_eq_true hm
  rw [if_pos hm'] at h
  have hix : (a.map (·.2)).idxOf e.2 <= (namesV a).length := by
   unfold namesV
   rw [length_map]; exact Nat.le_of_lt (idxOf_lt_length_iff.mpr hm')
  have hnl : (namesV a).length = a.length := by unfold namesV; simp
  refine Wp.I (Wp.i (Wp.f (Wp.B (v := .obj ci) rfl rfl (Wp.X hc (Wp.C4 (Wp.e (Wp.E2 (Wp.B (v := .lst (wordV a)) rfl rfl (Wp.B6 (Wp.W (Wp.B (v := .int z) rfl rfl ⟨by simp, _, _, rfl, rfl, ?_, ?_⟩)))))))))))
  ·rw [hlw]; simp; lia
  refine Wp.W (Wp.E2 (Wp.E9 (Wp.B (v := .lst (namesV a)) rfl rfl (Wp.D7 (Wp.B (v := .lst (namesV a)) rfl rfl ⟨a.map (·.2), e.2, rfl, ?_⟩)))))
  refine Wp.W (Wp.B (v := .int e.2) rfl rfl ⟨rfl, rfl, hm', by lia, _, (a.map (·.2)).idxOf e.2, rfl, rfl, hix, by lia, ?_⟩)
  refine Wp.B6 (Wp.W (Wp.B (v := .int e.2) rfl rfl ⟨by simp, _, _, rfl, rfl, ?_, ?_⟩))
  ·rw [length_drop]; simp; lia
  refine ⟨by simp, Wp.A1 hc (by rw [length_map]; lia) (Wp.V (Wp.V (h _ _ _ _ _ (Zm hc ▸ ?_) .of_set)))⟩
  rw [map_append]
  have e1 : wordV a ++ [.int z] = wordV (cw (a, (p, e.2))) := by unfold cw wordV; rw [map_append, hz]; rfl
  have e2 : (namesV a).drop ((a.map (·.2)).idxOf e.2) ++ [.int e.2] = (ringP a e.2).map PV.int := by unfold namesV ringP; rw [map_append, List.map_drop]; rfl
  rw [e1, e2]
  rfl
theorem Zkf (K : KSorts) {N : List Int} {ts : Ed} {ni ti : Nat} (DR : Drawn 5 N ts) (h6 : hp[ni]? = some (.lst (N.map .int))) (h7 : hp[ti]? = some (.lst (ts.map pairV))) {Q : PV -> St -> Prop}
  (h : ∀ hp' ri D (es : List CE), (∀ i, i < hp.length -> hp'[i]? = hp[i]?) -> FW (Sd N ts) [] D -> es.Perm (closL ts D ts.length) -> es.Pairwise CLt -> hp'[ri]? = some (.lst (es.map rgV)) -> Q (.obj ri) ⟨fr, hp'⟩) : Wp (Zbv d [.obj ni, .obj ti]) ⟨fr, hp⟩ Q E := by
 refine Wp.A0 rfl ?_
 unfold g_law_rings
 have hN : 1000 < fuel := by unfold fuel; lia
 have tl := DR.tl
 have nor := Zc7 DR
 have l7 := (Qgl h7)
 refine Wp.I (Wp.Y (Wp.C (Wp.e (Wp.B (v := .obj ni) rfl rfl (Wp.W (Wp.B (v := .obj ti) rfl rfl (Zdn DR h6 h7 λ h1 fi es ep D old hf hg F => Wp.H ?_)))))))
 refine Wp.I (Wp.Y (Wp.B2 (Wp.j ⟨by simp, Wp.H ?_⟩)))
 have lf := (Qgl hf)
 have g7 : (h1 ++ [MO.lst []])[ti]? = some (.lst (ts.map pairV)) := getElem?_app ((old ti l7).trans h7)
 have gf : (h1 ++ [MO.lst []])[fi]? = some (.dct es ep) := getElem?_app hf
 have gc : (h1 ++ [MO.lst []])[h1.length]? = some (.lst []) := Z6
 have hD : ∀ e ∈ ts, ∃ a, D e.1 = some a ∧ a.length <= 5 := λ e he => by
  obtain ⟨i, hi⟩ := List.getElem?_of_mem (DR.tin e he).1
  have hs : Simp (Sd N ts) [(i, e.1)] := ⟨⟨.inl ⟨rfl, hi⟩, trivial⟩, nodup_cons.mpr ⟨not_mem_nil, nodup_nil⟩⟩
  rcases F.all _ hs (cons_ne_nil _ _) with ⟨b, hb, _⟩ | ⟨q, hq, _⟩
  ·cases hb
  ·exact ⟨q, hq, Zcj (Nat.le_of_eq DR.len) (λ e he => (DR.tin e he).2) (F.done nor hq).ok⟩
 have hlt : (ts.map pairV).length = ts.length := length_map ..
 have l1 : hp.length <= h1.length := by
  apply Nat.le_of_not_lt
  intro q
  have := old h1.length q
  rw [List.getElem?_eq_none Qr, List.getElem?_eq_getElem q] at this
  exact Zf this
 refine Wp.I (Wp.B0 (Wp.C (Wp.W (Wp.C (Wp.W (Wp.B (v := .obj ti) rfl rfl (Wp.B4 (.inl (Zl g7)) (by lia) ?_)))))))
 refine Wp.B3 ?_
 generalize fuel = n at hN ⊢
 refine Wp.u (Rg1 ni ti fi h1.length ts D (h1 ++ [MO.lst []])) ts.length (λ k μ hI hk => ?_) n 0 _ (by lia) (Nat.zero_le _) (.mk gc .refl)
 obtain ⟨c1, c2⟩ := hI
 rename_i v4 v5 v6 v7 v8 h2
 rw [hlt, Zbp (by lia) hk]
 have hcl := (Zc1 (ts := ts) (D := D) k).2
 have lti : ti ≠ h1.length := λ q => by lia
 by_cases hkx : k < ts.length
 ·right
  rw [if_pos hkx]
  refine ⟨hkx, _, rfl, Wp.H ?_⟩
  obtain ⟨y, hy⟩ : ∃ y : Int, y = k := ⟨_, rfl⟩
  rw [<- hy]
  refine Zrz hy hkx (by lia) ((c2.2 ti lti).trans g7) ((c2.2 fi (by lia)).trans gf) hg hD c1 (by lia) λ v5 v6 v7 v8 h3 c3 c4 => ?_
  exact .mk (by rw [Zl3]; exact c3) (c2.trans c4)
 left
 rw [if_neg hkx]
 have hk' : k = ts.length := by lia
 subst hk'
 refine ⟨rfl, ?_⟩
 obtain ⟨cs, s1, s2, s3⟩ := Zqb K nor F (by lia)
 have hcs : cs.length <= 10 := by rw [s2.length_eq]; lia
 refine Wp.I (Wp.i (Wp.J6 c1 (by rw [length_map]; lia) (Zke Zsm _) (Wp.B (v := .obj h1.length) rfl rfl ⟨rfl, rfl⟩) ?_))
 rw [s1]
 have c3 : (h2.set h1.length (.lst (cs.map cloV)))[h1.length]? = some (.lst (cs.map cloV)) := Zm c1
 have o3 : ∀ i, i < hp.length -> (h2.set h1.length (.lst (cs.map cloV)))[i]? = hp[i]? := λ i hi => by
  rw [List.getElem?_set_ne (by lia), c2.2 i (by lia), List.getElem?_append_left (by lia)]
  exact old i hi
 have l3 : (h2.set h1.length (.lst (cs.map cloV))).length = h1.length + 1 := by rw [length_set, c2.1]; simp
 generalize h2.set h1.length (.lst (cs.map cloV)) = h3 at c3 o3 l3 ⊢
 refine Wp.I (Wp.D1 (Wp.J0 (pv := .obj h1.length) (cs.map cloV) (cs.map rgV) (by rw [length_map]; lia) (by simp) (by rw [length_map]; lia) (Wp.B (v := .obj h1.length) rfl rfl ⟨rfl, rfl⟩) (λ k hk fr' zz => Zct c3) (λ k x y u w t zz hx hy => ?_) ?_))
 ·rw [List.getElem?_map] at hx hy
  cases hs : cs[k]? with
  | none => rw [hs] at hx; cases hx
  | some c =>
   rw [hs] at hx hy
   cases hx; cases hy
   exact Wp.B8 (Wp.H (Wp.H (Wp.B (v := rgV c) rfl rfl ⟨rfl, _, _, _, rfl⟩)))
 ·exact h _ _ D cs (λ i hi => by rw [List.getElem?_append_left (by lia)]; exact o3 i hi) F s2 s3 Z6
end

noncomputable def atP (ts : Ed) (p : Nat) : Int × Int := ts.getD p (0, 0)
noncomputable def lftP (ts : Ed) (dn : List Nat) : List Nat := (List.range ts.length).filter λ p => decide (p ∉ dn)
noncomputable def lft (ts : Ed) (dn : List Nat) : Ed := (lftP ts dn).map (atP ts)
def Sl (N : List Int) (ts : Ed) (dn : List Nat) (v : Int) (p : Nat) (x : Int) : Prop := (v = -1 ∧ N[p]? = some x) ∨ (v ≠ -1 ∧ ts[p]? = some (v, x) ∧ p ∉ dn)
noncomputable abbrev Cl (N : List Int) (ts : Ed) (c : CE) : Prop := Clo (Sd N ts) (Sd N ts) c.1 c.2
noncomputable def dnL (L : List CE) : List Nat := L.map λ c => c.2.1
structure Tn (N : List Int) (ts : Ed) (L : List CE) : Prop where
 cl : ∀ c ∈ L, Cl N ts c
 pw : L.Pairwise CLt
 up : ∀ c ∈ L, ∀ c', Cl N ts c' -> c' ∉ L -> CLt c c'
theorem Zc9 {ts : Ed} {p : Nat} {e : Int × Int} (h : ts[p]? = some e) : atP ts p = e := by unfold atP; rw [getD_eq_getElem?_getD, h]; rfl
theorem Zdi {ts : Ed} {dn : List Nat} {p : Nat} : p ∈ lftP ts dn ↔ p < ts.length ∧ p ∉ dn := by
 unfold lftP
 rw [mem_filter, mem_range, decide_eq_true_iff]
theorem Zor {ts : Ed} {dn : List Nat} {e : Int × Int} (h : e ∈ lft ts dn) : e ∈ ts := by
 obtain ⟨p, hp, rfl⟩ := Qmm h
 have hl := (Zdi.mp hp).1
 rw [Zc9 (List.getElem?_eq_getElem hl)]
 exact getElem_mem hl
theorem Zg2 {ts : Ed} {dn : List Nat} : (lft ts dn).length <= ts.length := by
 unfold lft lftP
 rw [length_map]
 exact Nat.le_trans (length_filter_le _ _) (Nat.le_of_eq length_range)
theorem Zr0 {ts : Ed} : lft ts [] = ts := by
 unfold lft lftP
 rw [filter_eq_self.mpr λ p _ => by simp]
 refine ext_getElem (by simp) λ i h1 h2 => ?_
 rw [getElem_map, List.getElem_range, Zc9 (List.getElem?_eq_getElem h2)]
section
variable {N : List Int} {ts : Ed} {L : List CE}
theorem Cl.ne {c : CE} (h : Cl N ts c) : c.1 ≠ [] := λ q => by have := h.m; rw [q] at this; cases this
theorem Cl.st (DR : Drawn 5 N ts) {c : CE} (h : Cl N ts c) : en (-1) c.1 ≠ -1 ∧ ts[c.2.1]? = some (en (-1) c.1, c.2.2) := by
 have h1 := Zbg (Zc7 DR) h.f.ok h.ne
 exact ⟨h1, h.s.elim (λ q => absurd q.1 h1) (·.2)⟩
theorem Cl.uniq (DR : Drawn 5 N ts) {c c' : CE} (h : Cl N ts c) (h' : Cl N ts c') (e : c.2.1 = c'.2.1) : c = c' := by
 have h1 := (Cl.st DR h).2
 have h2 := (Cl.st DR h').2
 rw [e, h2] at h1
 have h1 := Prod.mk.inj (Option.some.inj h1)
 have e1 : en (-1) c'.1 = en (-1) c.1 := h1.1
 have e2 : c'.2.2 = c.2.2 := h1.2
 have A := h'.f
 rw [e1] at A
 exact Prod.ext (h.f.uniq Zgm A) (Prod.ext e e2.symm)
theorem Zgo {p : Nat} (h : p ∈ dnL L) : ∃ c ∈ L, c.2.1 = p := Qmm h
theorem Tn.gr (DR : Drawn 5 N ts) (H : ∀ v ∈ N, ∃ f, First (Sd N ts) v f) (T : Tn N ts L) : Gr (Sd N ts) (Sl N ts (dnL L)) N (λ v => (lftP ts (dnL L)).filter λ p => (atP ts p).1 == v) (λ p => (atP ts p).2) (scL (lft ts (dnL L))) := by
 refine ⟨Zgm, Zc7 DR, λ v p x h => h.elim .inl λ h => .inr ⟨h.1, h.2.1⟩, λ v p x h => ?_, λ a h ha => H _ ?_, λ i x => ?_, λ v p x hv => ?_, λ v => ?_, λ v => ?_⟩
 ·rcases h with h | h
  ·exact .inl (.inl h)
  ·by_cases hp : p ∈ dnL L
   ·obtain ⟨c, hc, rfl⟩ := Zgo hp
    have C := T.cl c hc
    have := (Cl.st DR C).2
    rw [h.2] at this
    cases this
    exact .inr ⟨c.1, C.f, C.m⟩
   ·exact .inl (.inr ⟨h.1, h.2, hp⟩)
 ·have key : ∀ (a : Pth) (v : Int), Pa (Sd N ts) v a -> a ≠ [] -> en v a ∈ N := by
   intro a
   induction a with
   | nil => intro _ _ h; exact absurd rfl h
   | cons e a ih =>
    intro v hp _
    cases a with
    | nil => exact hp.1.elim (λ k => mem_of_getElem? k.2) λ k => (DR.tin _ (mem_of_getElem? k.2)).2
    | cons f a => exact ih e.2 hp.2 (cons_ne_nil _ _)
  exact key a _ h ha
 ·exact ⟨λ h => h.elim (·.2) λ h => absurd rfl h.1, λ h => .inl ⟨rfl, h⟩⟩
 ·rw [mem_filter, Zdi, beq_iff_eq]
  constructor
  ·rintro (h | ⟨_, h1, h2⟩)
   ·exact absurd h.1 hv
   ·have := Zc9 h1
    rw [this]
    exact ⟨⟨⟨(Qgl h1), h2⟩, rfl⟩, rfl⟩
  ·rintro ⟨⟨⟨h1, h2⟩, h3⟩, h4⟩
   refine .inr ⟨hv, ?_, h2⟩
   have e := Zc9 (List.getElem?_eq_getElem h1)
   rw [List.getElem?_eq_getElem h1, <- e, <- h3, <- h4]
 ·exact List.Pairwise.filter _ (List.Pairwise.filter _ List.pairwise_lt_range)
 ·unfold scL lft
  rw [List.filter_map, map_map]; rfl
theorem Tn.next (DR : Drawn 5 N ts) (T : Tn N ts L) {a : Pth} {e : Nat × Int} (C : Clo (Sd N ts) (Sl N ts (dnL L)) a e) (l : ∀ b f, Clo (Sd N ts) (Sl N ts (dnL L)) b f -> b ++ [f] = a ++ [e] ∨ Wlt (a ++ [e]) (b ++ [f])) : Tn N ts (L ++ [(a, e)]) := by
 have C' : Cl N ts (a, e) := ⟨C.f, C.s.elim .inl λ h => .inr ⟨h.1, h.2.1⟩, C.m⟩
 have nd : e.1 ∉ dnL L := C.s.elim (λ h => absurd h.1 (Cl.st DR C').1) (·.2.2)
 have nL : (a, e) ∉ L := λ h => nd (mem_map.mpr ⟨_, h, rfl⟩)
 refine ⟨λ c hc => ?_, ?_, λ c hc c' k hc' => ?_⟩
 ·rcases Qma hc with hc | hc
  ·exact T.cl c hc
  ·rw [mem_singleton] at hc; rw [hc]; exact C'
 ·refine List.pairwise_append.mpr ⟨T.pw, List.pairwise_singleton _ _, λ c hc c' hc' => ?_⟩
  rw [mem_singleton] at hc'
  rw [hc']
  exact T.up c hc _ C' nL
 ·have h1 : c' ∉ L := λ h => hc' (mem_append_left _ h)
  rcases Qma hc with hc | hc
  ·exact T.up c hc c' k h1
  ·rw [mem_singleton] at hc
   subst hc
   have hs := Cl.st DR k
   have h2 : c'.2.1 ∉ dnL L := λ h => by
    obtain ⟨c, hc, e⟩ := Zgo h
    exact h1 (Cl.uniq DR (T.cl c hc) k e ▸ hc)
   rcases l c'.1 c'.2 ⟨k.f, .inr ⟨hs.1, hs.2, h2⟩, k.m⟩ with h | h
   ·have := cw_inj (c := c') (c' := (a, e)) h
    exact absurd (mem_append_right _ (mem_singleton.mpr this)) hc'
   ·exact h
theorem Tn.len (DR : Drawn 5 N ts) (T : Tn N ts L) : L.length <= ts.length := by
 have h1 : (dnL L).Nodup := by
  unfold dnL List.Nodup
  rw [pairwise_map]
  refine List.Pairwise.imp_of_mem (λ {c c'} hc hc' h q => ?_) T.pw
  rw [Cl.uniq DR (T.cl c hc) (T.cl c' hc') q] at h
  exact Zbo h
 have h2 : (dnL L).length <= (List.range ts.length).length := by
  refine Nat.le_trans ?_ (Nat.le_of_eq rfl)
  have key : ∀ (l m : List Nat), l.Nodup -> (∀ x ∈ l, x ∈ m) -> l.length <= m.length := λ l m => Zq
  exact key _ _ h1 λ p hp => by
   obtain ⟨c, hc, rfl⟩ := Zgo hp
   exact mem_range.mpr (Qgl (Cl.st DR (T.cl c hc)).2)
 rw [length_range] at h2
 unfold dnL at h2
 rw [length_map] at h2
 exact h2
theorem Tn.cut (DR : Drawn 5 N ts) {a : Pth} {e : Nat × Int} (C : Clo (Sd N ts) (Sl N ts (dnL L)) a e) (l : ∀ b f, Clo (Sd N ts) (Sl N ts (dnL L)) b f -> b ++ [f] = a ++ [e] ∨ Wlt (a ++ [e]) (b ++ [f])) :
  ∃ l1 l2, lft ts (dnL L) = l1 ++ (en (-1) a, e.2) :: l2 ∧ (en (-1) a, e.2) ∉ l1 ∧ lft ts (dnL (L ++ [(a, e)])) = l1 ++ l2 := by
 have C' : Cl N ts (a, e) := ⟨C.f, C.s.elim .inl λ h => .inr ⟨h.1, h.2.1⟩, C.m⟩
 have nd : e.1 ∉ dnL L := C.s.elim (λ h => absurd h.1 (Cl.st DR C').1) (·.2.2)
 have he := (Cl.st DR C').2
 have hm : e.1 ∈ lftP ts (dnL L) := Zdi.mpr ⟨(Qgl he), nd⟩
 obtain ⟨q1, q2, hq⟩ := List.append_of_mem hm
 have srt : (lftP ts (dnL L)).Pairwise (· < ·) := List.Pairwise.filter _ List.pairwise_lt_range
 rw [hq] at srt
 obtain ⟨s1, s2, s3⟩ := List.pairwise_append.mp srt
 have hne1 : ∀ p ∈ q1, p ≠ e.1 := λ p hp => Nat.ne_of_lt (s3 p hp _ mem_cons_self)
 have hne2 : ∀ p ∈ q2, p ≠ e.1 := λ p hp => (Nat.ne_of_lt ((List.pairwise_cons.mp s2).1 p hp)).symm
 refine ⟨q1.map (atP ts), q2.map (atP ts), ?_, λ h => ?_, ?_⟩
 ·unfold lft
  rw [hq, map_append, map_cons, Zc9 he]
 ·obtain ⟨p, hp, hpe⟩ := Qmm h
  have hpm := Zdi.mp (hq ▸ mem_append_left _ hp)
  have h1 := Zc9 (List.getElem?_eq_getElem hpm.1)
  have h2 : ts[p]? = some (en (-1) a, e.2) := by rw [List.getElem?_eq_getElem hpm.1, <- h1, hpe]
  have hlt := s3 p hp _ mem_cons_self
  have D : Clo (Sd N ts) (Sl N ts (dnL L)) a (p, e.2) := ⟨C.f, .inr ⟨(Cl.st DR C').1, h2, hpm.2⟩, C.m⟩
  rcases l a (p, e.2) D with k | k
  ·have := (List.cons.inj (List.append_inj_right' k rfl)).1
   rw [<- this] at hlt
   exact Nat.lt_irrefl _ hlt
  ·exact Zbo (Zc5 k (Zlv (a := a) (b := [(p, e.2)]) (c := [e]) (.inl hlt)))
 ·unfold lft
  have e1 : lftP ts (dnL (L ++ [(a, e)])) = (lftP ts (dnL L)).filter λ p => decide (p ≠ e.1) := by
   unfold lftP
   rw [List.filter_filter]
   refine filter_congr λ p _ => ?_
   unfold dnL
   rw [map_append, Bool.eq_iff_iff]
   simp
   exact And.comm
  rw [e1, hq, filter_append, filter_cons, if_neg (by simp), filter_eq_self.mpr λ p hp => decide_eq_true (hne1 p hp), filter_eq_self.mpr λ p hp => decide_eq_true (hne2 p hp), map_append]
end

theorem Zqc {sc : Int -> List Int} {m : Nat} (h : ∀ a, (sc a).length <= m) (U : List Int) : Wt sc U [] <= U.length * (2 * m + 1) := by
 unfold Wt
 have e : (U.filter λ a => decide (a ∉ ([] : List Int))) = U := filter_eq_self.mpr λ a _ => by simp
 rw [e]
 exact Zka (f := wgt sc) (λ a => by unfold wgt; have := h a; lia) U
theorem Zr1 {ns : List Int} {ts : Ed} (tin : ∀ e ∈ ts, e.1 ∈ ns ∧ e.2 ∈ ns) : (∀ a ∈ ns, Fine (scL ts) a) ↔ ∀ a ∈ ns, Fr ts a := by
 have e : (λ s a => s ∈ scL ts a) = λ s a => (a, s) ∈ ts := by funext s a; exact propext Za5
 show (∀ a ∈ ns, Acc (λ s a => s ∈ scL ts a) a) ↔ _
 rw [e]
 exact (Zrp (E := St1 ts) ns λ a b h => tin _ h).symm
inductive Srch (N : List Int) (ts : Ed) (L : List CE) : Option (List Int) -> Prop
 | done (h1 : ∀ y ∈ N, Fine (scL (lft ts (dnL L))) y) (h2 : ∀ c, Cl N ts c -> c ∈ L) : Srch N ts L none
 | ring {a : Pth} {e : Nat × Int} (C : Clo (Sd N ts) (Sl N ts (dnL L)) a e) (l : ∀ b f, Clo (Sd N ts) (Sl N ts (dnL L)) b f -> b ++ [f] = a ++ [e] ∨ Wlt (a ++ [e]) (b ++ [f])) : Srch N ts L (some (ringP a e.2))
section
variable {N : List Int} {ts : Ed} {L : List CE}
theorem Tn.search (DR : Drawn 5 N ts) (H : ∀ v ∈ N, ∃ f, First (Sd N ts) v f) (T : Tn N ts L) : ∃ n res, n < fuel ∧ findF (scL (lft ts (dnL L))) n N [] = some res ∧ Srch N ts L res := by
 have G := T.gr DR H
 have hs : ∀ a, (scL (lft ts (dnL L)) a).length <= 10 := λ a => by
  unfold scL
  rw [length_map]
  exact Nat.le_trans (length_filter_le _ _) (Nat.le_trans Zg2 DR.tl)
 have hw := Zqc hs N
 rw [DR.len] at hw
 obtain ⟨res, hf⟩ := Zdg (sc := scL (lft ts (dnL L))) (U := N) (λ a _ s hs => (DR.tin _ (Zor (Za5.mp hs))).2) (n := Wt (scL (lft ts (dnL L))) N [] + 2) (by lia) N [] λ a h => h
 have K0 : Ok (scL (lft ts (dnL L))) [] [] := ⟨λ y h => absurd h.1 not_mem_nil, λ y h => absurd h.1 not_mem_nil, λ y h => absurd h not_mem_nil, λ y h => absurd h not_mem_nil⟩
 have := G.find N [] [] rfl (λ y h => absurd h not_mem_nil) K0 hf
 refine ⟨_, res, by unfold fuel; lia, hf, ?_⟩
 cases res with
 | none =>
  refine .done this λ c C => Classical.byContradiction λ hc => ?_
  have hs := Cl.st DR C
  refine G.none this (b := c.1) (f := c.2) ⟨C.f, .inr ⟨hs.1, hs.2, λ h => ?_⟩, C.m⟩
  obtain ⟨c', h1, h2⟩ := Zgo h
  exact hc (Cl.uniq DR (T.cl c' h1) C h2 ▸ h1)
 | some r =>
  obtain ⟨C, l⟩ := this
  exact .ring C l
theorem Zhj {a : Pth} {e : Nat × Int} (ha : a ≠ []) (h : e.2 ∈ a.map (·.2)) : ∃ r, ringP a e.2 = r ++ [en (-1) a, e.2] ∧ r.length <= a.length := by
 have key : ∀ (a : Pth) (v : Int), a ≠ [] -> ∃ xs, a.map (·.2) = xs ++ [en v a] ∧ xs.length < a.length := by
  intro a
  induction a with
  | nil => intro _ h; exact absurd rfl h
  | cons e a ih =>
   intro v _
   cases a with
   | nil => exact ⟨[], rfl, Nat.zero_lt_one⟩
   | cons f a =>
    obtain ⟨xs, h1, h2⟩ := ih e.2 (cons_ne_nil _ _)
    exact ⟨e.2 :: xs, congrArg (e.2 :: ·) h1, Nat.succ_lt_succ h2⟩
 obtain ⟨xs, h1, h2⟩ := key a (-1) ha
 have hi := idxOf_lt_length_iff.mpr h
 unfold ringP
 generalize (a.map (·.2)).idxOf e.2 = i at hi
 rw [h1] at hi ⊢
 rw [length_append] at hi
 refine ⟨xs.drop i, ?_, by rw [length_drop]; lia⟩
 rw [List.drop_append_of_le_length (Nat.le_of_lt_succ hi), append_assoc]; rfl
end
section
variable {hp : List MO} {fr : List PV} {E : Value -> St -> Prop}
theorem Wp.F9 {xs : List PV} {y z : PV} {μ : St} {Q : PV -> St -> Prop} (hl : xs.length < 1000000) (h : Q y μ) : Wp (pGet (.lst (xs ++ [y, z])) (.int (-2))) μ Q E := by
 refine Wp.J ?_ h
 unfold pGet
 try dsimp only
 have : pIdx (xs ++ [y, z]).length (-2) = some xs.length := by
  unfold pIdx
  rw [if_neg (by lia), if_pos (by simp; lia)]
  congr 1
  simp only [length_append, length_cons, length_nil]
  lia
 rw [this]
 simp
theorem Wp.G3 {fo : PM PV} {ga : PM (List PV)} {i : Nat} {l1 l2 : Ed} {e : Int × Int} {Q : PV -> St -> Prop} (hi : hp[i]? = some (.lst ((l1 ++ e :: l2).map pairV))) (hn : e ∉ l1) (hl : (l1 ++ e :: l2).length <= 1000000) (hf : Wp fo ⟨fr, hp⟩ (λ v μ => v = .obj i ∧ μ = ⟨fr, hp⟩) E) (hg : Wp ga ⟨fr, hp⟩ (λ v μ => v = [pairV e] ∧ μ = ⟨fr, hp⟩) E)
  (h : Q .none ⟨fr, hp.set i (.lst ((l1 ++ l2).map pairV))⟩) : Wp (mRemove fo ga) ⟨fr, hp⟩ Q E :=
 Wp.C (hf.mono (λ x μ hh => by
  obtain ⟨rfl, rfl⟩ := hh
  refine Wp.C (Wp.X hi (Wp.C (hg.mono (λ ys μ hh => ?_) λ _ _ e => e)))
  obtain ⟨rfl, rfl⟩ := hh
  refine Wp.C (Wp.X hi (Wp.C (Wp.A6 (decide_eq_true (by rw [length_map]; exact hl)) (Wp.C (Wp.J (a := l1.length) (μ' := ⟨fr, hp⟩) ?_ (Wp.C (Wp.C3 (Wp.R ?_))))))))
  ·unfold remAt
   rw [Zdh, Zbq (k := λ e : Int × Int => PyData.tuple [.int e.1, .int e.2]) λ e _ => Zdh]
   try dsimp only
   have eq : ∀ f : Int × Int, PyData.eqv (.tuple [.int f.1, .int f.2]) (.tuple [.int e.1, .int e.2]) = decide (f = e) := λ f => by
    rw [PyData.eqv, PyData.eqvAll, PyData.eqvAll, PyData.eqvAll, PyData.eqv, PyData.eqv, Bool.eq_iff_iff]
    simp [Prod.ext_iff]
   have : (((l1 ++ e :: l2).map λ e : Int × Int => PyData.tuple [.int e.1, .int e.2]).findIdx? λ z => PyData.eqv z (.tuple [.int e.1, .int e.2])) = some l1.length := by
    refine List.findIdx?_eq_some_iff_getElem.mpr ⟨by simp, ?_, λ j hj => ?_⟩
    ·rw [getElem_map, eq, List.getElem_append_right Qr]
     exact decide_eq_true (by simp)
    ·rw [getElem_map, eq, List.getElem_append_left hj]
     simp only [decide_eq_true_eq]
     exact λ q => hn (q ▸ getElem_mem hj)
   rw [this]
  ·have : ((l1 ++ e :: l2).map pairV).eraseIdx l1.length = (l1 ++ l2).map pairV := by
    rw [map_append, map_cons, List.eraseIdx_append_of_length_le (by simp), length_map, Nat.sub_self, map_append]; rfl
   try dsimp only
   rw [this]; exact h) λ _ _ e => e)
end

inductive Bd (hp : List MO) (o : Nat) (N : List Int) (ts : Ed) (hp' : List MO) : Prop
 | mk {T : TSt} {ly : Lay} (S : SAt d hp' o T ly) (B : Bt N ts T) (W : New hp hp' o T ly) : Bd hp o N ts hp'
section
variable {hp : List MO} {fr : List PV} {E : Value -> St -> Prop}
theorem Zqd {K : PM MF} {N : List Int} {ls : Ed} {ni li : Nat} (nnd : N.Nodup) (tin : ∀ e ∈ ls, e.1 ∈ N ∧ e.2 ∈ N) (hnl : N.length <= 100) (htl : ls.length <= 100) (h6 : hp[ni]? = some (.lst (N.map .int))) (h7 : hp[li]? = some (.lst (ls.map pairV))) {v0 v2 v4 v5 v6 v7 v8 v9 v10 v11 v12 v13 : PV} {Q : MF -> St -> Prop}
  (h : ∀ hp' o T ly v7 v8 v9, SAt d hp' o T ly -> Bt N ls T -> New hp hp' o T ly -> Wp K ⟨[v0, .obj ni, v2, .obj li, v4, v5, .obj o, v7, v8, v9, v10, v11, v12, v13], hp'⟩ Q E) :
  Wp (sSeq (sAsg ((Pure.pure []) >>= newM d.TS false (Zco d)) (Mine.setVar 6)) (sSeq (sFor (Mine.getVar 1) (Mine.setVar 7) (Zgv d) fuel) (sSeq (sFor (Mine.getVar 3) (asgTup [Mine.setVar 8, Mine.setVar 9]) (Zgu d) fuel) K))) ⟨[v0, .obj ni, v2, .obj li, v4, v5, v6, v7, v8, v9, v10, v11, v12, v13], hp⟩ Q E := by
 have hN : 1000 < fuel := by unfold fuel; lia
 generalize fuel = n at hN ⊢
 have l6 : ni < hp.length := (Qgl h6)
 have l7 : li < hp.length := (Qgl h7)
 refine Wp.I (Wp.Y (Wp.C (Wp.j (Zsh λ hp1 o ly1 S1 lenB oldB new1 => Wp.H ?_))))
 refine Wp.I (Wp.B0 (Wp.B (v := .obj ni) rfl rfl ?_))
 refine Wp.u (λ k => Ex1 (λ v7 => [v0, .obj ni, v2, .obj li, v4, v5, .obj o, v7, v8, v9, v10, v11, v12, v13]) (Bd hp o (N.take k) [])) N.length (λ k μ hI hk => ?_) n 0 _ (by lia) (Nat.zero_le _)
  (.mk (.mk S1 Bt.nil ⟨lenB, oldB, new1⟩))
 obtain ⟨S, B, W⟩ := hI
 rename_i v7 hp2 T ly
 rw [Zcr (xs := N.map .int) (ys := N.map .int) ((oldB ni l6).trans h6) ((W.old ni l6).trans h6), List.getElem?_map]
 cases hx : N[k]? with
 | some a =>
  right
  have hlt := (Qgl hx)
  have hxe := (Qge hx)
  refine ⟨hlt, .int a, rfl, Wp.H ?_⟩
  unfold Zgv
  have ha : a ∉ N.take k := λ q => by
   have nn := nnd
   rw [<- take_append_drop k N, nodup_append] at nn
   refine nn.2.2 a q a ?_ rfl
   rw [List.drop_eq_getElem_cons hlt, hxe]
   exact mem_cons_self
  refine Wp.I (Wp.i (Wp.A8 (Wp.B (v := .obj o) rfl rfl (Wp.B5 S (by kernel_rfl) (Wp.W (Wp.B (v := .int a) rfl rfl (Zof S a [] B.ready ?_ (λ q => ?_) λ hp' ly' S' g' => ?_)))))))
  ·rw [B.order]; simp; lia
  ·have := B.scLen q; simp at this; rw [this]; simp
  ·have B' := B.name ha
   rw [<- show N.take (k + 1) = N.take k ++ [a] by rw [take_succ_eq_append_getElem hlt, hxe]] at B'
   exact Wp.V (.mk (.mk S' B' (W.grow g')))
 | none =>
  left
  have hk' : k = N.length := by have := Qgn hx; lia
  subst hk'
  refine ⟨rfl, ?_⟩
  try dsimp only
  rw [take_length] at B
  refine Wp.I (Wp.B0 (Wp.B (v := .obj li) rfl rfl ?_))
  refine Wp.u (λ k => Ex2 (λ v8 v9 => [v0, .obj ni, v2, .obj li, v4, v5, .obj o, v7, v8, v9, v10, v11, v12, v13]) (Bd hp o N (ls.take k))) ls.length (λ k μ hI hk => ?_) n 0 _ (by lia) (Nat.zero_le _)
   (.mk (.mk S B W))
  obtain ⟨S', B', W'⟩ := hI
  rename_i v8 v9 hp3 T' ly'
  rw [Zcr (xs := ls.map pairV) (ys := ls.map pairV) ((W.old li l7).trans h7) ((W'.old li l7).trans h7), List.getElem?_map]
  cases hx : ls[k]? with
  | some e =>
   right
   have hlt := (Qgl hx)
   obtain ⟨t, hd⟩ := e
   refine ⟨hlt, pairV (t, hd), rfl, Wp.B8 (Wp.H (Wp.H ?_))⟩
   unfold Zgu
   have hin := tin _ (mem_of_getElem? hx)
   refine Wp.I (Wp.i (Wp.A8 (Wp.B (v := .obj o) rfl rfl (Wp.B5 S' (by kernel_rfl) (Wp.e (Wp.B (v := .int hd) rfl rfl (Wp.W (Wp.B (v := .int t) rfl rfl (Zof S' hd [t] B'.ready ?_ (λ q => ?_) λ hp' ly'' S'' g' => ?_)))))))))
   ·rw [B'.order]; simp; lia
   ·have := B'.scLen q; rw [length_take] at this; lia
   ·have B'' := B'.step hin.1 hin.2
    rw [<- show ls.take (k + 1) = ls.take k ++ [(t, hd)] by rw [take_succ_eq_append_getElem hlt, (Qge hx)]] at B''
    exact Wp.V (.mk (.mk S'' B'' (W'.grow g')))
  | none =>
   left
   have hk' : k = ls.length := by have := Qgn hx; lia
   subst hk'
   refine ⟨rfl, ?_⟩
   try dsimp only
   rw [take_length] at B'
   exact h _ _ _ _ _ _ _ S' B' W'
end

structure Hv (N : List Int) (ts : Ed) (L : List CE) (ni ti li mi : Nat) (hp : List MO) : Prop where
 n : hp[ni]? = some (.lst (N.map .int))
 t : hp[ti]? = some (.lst (ts.map pairV))
 l : hp[li]? = some (.lst ((lft ts (dnL L)).map pairV))
 m : hp[mi]? = some (.lst (L.map rgV))
theorem Hv.keep {N : List Int} {ts : Ed} {L : List CE} {ni ti li mi : Nat} {hp hp' : List MO} (H : Hv N ts L ni ti li mi hp) (k : ∀ i, i < hp.length -> hp'[i]? = hp[i]?) : Hv N ts L ni ti li mi hp' :=
 have g : ∀ {i : Nat} {x : MO}, hp[i]? = some x -> hp'[i]? = some x := λ h => (k _ (Qgl h)).trans h
 ⟨g H.n, g H.t, g H.l, g H.m⟩
section
variable {hp : List MO} {fr : List PV} {E : Value -> St -> Prop}
theorem Zr2 {N : List Int} {ts : Ed} {L : List CE} {ni ti li mi : Nat} (DR : Drawn 5 N ts) (H : ∀ v ∈ N, ∃ f, First (Sd N ts) v f) (T : Tn N ts L) (V : Hv N ts L ni ti li mi hp) (hlm : li ≠ mi) (hlt : li ≠ ti) (hln : li ≠ ni) (hmt : mi ≠ ti) (hmn : mi ≠ ni) {v0 v5 v6 v7 v8 v9 v10 v11 v12 v13 : PV} {Q : MF -> St -> Prop}
  (hnext : ∀ hp' L' v6 v7 v8 v9 v10 v11, Tn N ts L' -> L'.length = L.length + 1 -> Hv N ts L' ni ti li mi hp' -> Q .next ⟨[v0, .obj ni, .obj ti, .obj li, .obj mi, v5, v6, v7, v8, v9, v10, v11, v12, v13], hp'⟩)
  (hbrk : ∀ hp' o T' ly rd v7 v8 v9 v10 v11, (∀ c, Cl N ts c -> c ∈ L) -> (∀ a ∈ N, Fr (lft ts (dnL L)) a) -> Hv N ts L ni ti li mi hp' -> SAt d hp' o T' ly -> Kn N (lft ts (dnL L)) T' [] [] rd -> (∀ i, Fp o T' ly i -> hp.length <= i) -> hp.length <= hp'.length -> (∀ i, i < hp.length -> hp'[i]? = hp[i]?) -> Q .brk ⟨[v0, .obj ni, .obj ti, .obj li, .obj mi, v5, .obj o, v7, v8, v9, v10, v11, v12, v13], hp'⟩) :
  Wp (Zgw d) ⟨[v0, .obj ni, .obj ti, .obj li, .obj mi, v5, v6, v7, v8, v9, v10, v11, v12, v13], hp⟩ Q E := by
 obtain ⟨n, res, hn, hf, hS⟩ := T.search DR H
 have tin : ∀ e ∈ lft ts (dnL L), e.1 ∈ N ∧ e.2 ∈ N := λ e he => DR.tin e (Zor he)
 have hll : (lft ts (dnL L)).length <= 10 := Nat.le_trans Zg2 DR.tl
 have hL := T.len DR
 have h5 := DR.len
 have tl := DR.tl
 unfold Zgw
 refine Zqd DR.nnd tin (by lia) (by lia) V.n V.l λ hp1 o TB ly v7 v8 v9 S B W => ?_
 have hsub : ∀ a ∈ TB.order, ∀ s ∈ TB.sc a, s ∈ TB.order := λ a _ s hs => by
  rw [B.sc, Za5] at hs
  rw [B.order]; exact (tin _ hs).2
 have hol : TB.order.length <= 1000 := by rw [B.order]; lia
 rw [<- B.sc, <- B.order] at hf
 refine Wp.I (Wp.Y (Wp.A8 (Wp.B (v := .obj o) rfl rfl (Wp.B5 S (by kernel_rfl) (Wp.j (Zlu S hsub hol hf hn λ hp2 lC oldC => Wp.H ?_))))))
 have S2 : SAt d hp2 o TB ly := S.keep λ i hi => oldC i (S.lt hi)
 have W2 : New hp hp2 o TB ly := ⟨Nat.le_trans W.len lC, λ i hi => (oldC i (Nat.lt_of_lt_of_le hi W.len)).trans (W.old i hi), W.new⟩
 have hrl : ∀ r, res = some r -> r ≠ [] ∧ r.length <= 100000 := λ r e => by
  subst e
  cases hS
  rename_i a e C l
  have hne : a ≠ [] := λ q => by have := C.m; rw [q] at this; cases this
  obtain ⟨r, e1, e2⟩ := Zhj hne C.m
  have := Zcj (Nat.le_of_eq h5) (λ e he => (DR.tin e he).2) C.f.ok
  rw [e1]
  exact ⟨by simp, by rw [length_append]; simp; lia⟩
 refine Wp.I (Wp.Y (Wp.C1 (Wp.H ?_)))
 refine Wp.I (Wp.G1 (Wp.I (Wp.i (Wp.A8 (Wp.B (v := .obj o) rfl rfl (Wp.B5 S2 (by kernel_rfl) (Wp.j (Znb S2 B.ready hsub hol hf hn hrl λ hp3 ly3 S3 gD => ?_))))))))
 have W3 := W2.grow gD
 cases hS with
 | done h1 h2 =>
  refine ⟨λ _ => Wp.V ?_, λ e => absurd rfl e⟩
  refine Wp.I (Wp.A2 (Wp.Z (Wp.B (v := .bool false) rfl rfl (Wp.J3 (Wp.B (v := .none) rfl rfl (Wp.C1 (Wp.A5 (x := .none) rfl (Wp.C6 (a := .bool false) rfl rfl rfl ?_))))))))
  refine Wp.V (Wp.I (Wp.A2 (Wp.Z (Wp.B (v := .none) rfl rfl (Wp.C1 (Wp.A4 (x := .none) rfl ?_))))))
  refine Wp.I (Wp.R ?_)
  have K := B.start DR.nnd
  exact hbrk hp3 o _ ly3 _ _ _ _ _ _ h2 ((Zr1 tin).mp h1) (V.keep W3.old) S3 K W3.new W3.len W3.old
 | ring C l =>
  rename_i a e
  refine ⟨λ e => Zf e.symm, λ _ => ⟨by unfold isCE; simp, Wp.I (Wp.Y (Wp.C1 (Wp.H (Wp.V ?_))))⟩⟩
  have hne : a ≠ [] := λ q => by have := C.m; rw [q] at this; cases this
  obtain ⟨r, e1, e2⟩ := Zhj hne C.m
  have hal := Zcj (Nat.le_of_eq h5) (λ e he => (DR.tin e he).2) C.f.ok
  have V3 := V.keep W3.old
  obtain ⟨l1, l2, c1, c2, c3⟩ := Tn.cut DR C l
  have hrg : PV.lst ((ringP a e.2).map .int) = .lst ((r.map .int) ++ [.int (en (-1) a), .int e.2]) := by rw [e1, map_append]; rfl
  have hrg2 : PV.lst ((r.map PV.int) ++ [.int (en (-1) a), .int e.2]) = .lst (((r.map PV.int) ++ [.int (en (-1) a)]) ++ [.int e.2]) := by rw [append_assoc]; rfl
  have hrv : ringV (some (ringP a e.2)) = .lst ((r.map .int) ++ [.int (en (-1) a), .int e.2]) := hrg
  rw [hrv]
  refine Wp.I (Wp.A2 (Wp.Z (Wp.B (v := .bool true) rfl rfl (Wp.J3 (Wp.B (v := .lst _) rfl rfl (Wp.C1 (Wp.A5 (x := .lst _) (b := false) rfl (Wp.C6 (a := .bool true) rfl rfl rfl ?_))))))))
  refine Wp.V (Wp.I (Wp.A2 (Wp.Z (Wp.B (v := .lst _) rfl rfl (Wp.C1 (Wp.A4 (x := .lst _) (b := false) rfl ?_))))))
  refine Wp.V (Wp.I (Wp.i (Wp.f (Wp.B (v := .obj mi) rfl rfl (Wp.X V3.m (Wp.B (v := .lst _) rfl rfl (Wp.A1 V3.m (by rw [length_map]; lia) ?_)))))))
  have two : ∀ {hp : List MO} {Q : PV -> St -> Prop}, Q (pairV (en (-1) a, e.2)) ⟨[v0, .obj ni, .obj ti, .obj li, .obj mi, v5, .obj o, v7, v8, v9, .lst ((r.map .int) ++ [.int (en (-1) a), .int e.2]), .bool true, v12, v13], hp⟩ ->
    Wp (eTup (Mine.argC (eSub (Mine.getVar 10) (eNeg (Pure.pure (PV.int 2)))) (Mine.argC (eSub (Mine.getVar 10) (eNeg (Pure.pure (PV.int 1)))) (Pure.pure [])))) ⟨[v0, .obj ni, .obj ti, .obj li, .obj mi, v5, .obj o, v7, v8, v9, .lst ((r.map .int) ++ [.int (en (-1) a), .int e.2]), .bool true, v12, v13], hp⟩ Q E := λ hq => by
   refine Wp.C4 (Wp.e (Wp.A3 (Wp.B (v := .lst _) rfl rfl (Wp.F1 (Wp.C1 ⟨2, rfl, Wp.F9 (by rw [length_map]; lia) (Wp.W (Wp.A3 (Wp.B (v := .lst _) rfl rfl (Wp.F1 (Wp.C1 ⟨1, rfl, ?_⟩)))))⟩)))))
   rw [hrg2] at hq ⊢
   exact Wp.D3 (by simp; lia) ⟨by simp, hq⟩
  have m4 : (hp3.set mi (.lst (L.map rgV ++ [.lst ((r.map .int) ++ [.int (en (-1) a), .int e.2])])))[mi]? = some (.lst ((L ++ [(a, e)]).map rgV)) := by
   rw [Zm V3.m, map_append, <- hrg]; rfl
  have n4 := Zk (v := MO.lst (L.map rgV ++ [.lst ((r.map .int) ++ [.int (en (-1) a), .int e.2])])) hmn V3.n
  have t4 := Zk (v := MO.lst (L.map rgV ++ [.lst ((r.map .int) ++ [.int (en (-1) a), .int e.2])])) hmt V3.t
  have l4 := Zk (v := MO.lst (L.map rgV ++ [.lst ((r.map .int) ++ [.int (en (-1) a), .int e.2])])) hlm.symm V3.l
  generalize hp3.set mi (.lst (L.map rgV ++ [.lst ((r.map .int) ++ [.int (en (-1) a), .int e.2])])) = hp4 at m4 n4 t4 l4 ⊢
  have hin : (en (-1) a, e.2) ∈ lft ts (dnL L) := by rw [c1]; simp
  refine Wp.I (Wp.A2 (Wp.G0 (Wp.Z (Wp.C (Wp.W (Wp.B (v := .lst _) rfl rfl (Wp.B4 (.inl rfl) (by simp; lia) (Wp.C1 (Wp.G8 ?_)))))))))
  rw [decide_eq_false (by simp; lia)]
  refine Wp.G0 (Wp.Z ?_)
  refine two (Wp.B (v := .obj li) rfl rfl (Wp.E5 (Wp.H0 l4 ?_)))
  rw [decide_eq_true hin]
  refine Wp.R (Wp.V ?_)
  rw [c1] at l4
  refine Wp.I (Wp.i (Wp.G3 (l1 := l1) (l2 := l2) (e := (en (-1) a, e.2)) l4 c2 (by rw [<- c1]; lia) (Wp.B (v := .obj li) rfl rfl ⟨rfl, rfl⟩) (Wp.W (two ⟨rfl, rfl⟩)) (Wp.V ?_)))
  refine hnext _ (L ++ [(a, e)]) _ _ _ _ _ _ (T.next DR C l) (by simp) ⟨Zk hln n4, Zk hlt t4, ?_, Zk hlm m4⟩
  rw [c3]; exact Zm l4
end

theorem Zhk : ∀ (bs : List Bool), boolsOf (bs.map PV.bool) = some bs
 | [] => rfl
 | b :: bs => by rw [map_cons, Znx, Zhk bs]; rfl
theorem Zos {xs ys : List Int} (hx : xs.Nodup) (hy : ys.Nodup) (h : ∀ a, a ∈ xs ↔ a ∈ ys) : sortI xs = sortI ys := by
 have p : xs.Perm ys := (List.perm_ext_iff_of_nodup hx hy).mpr h
 exact eq_sortI ((sortI_perm xs).trans p) (sortI_rises xs)
section
variable {hp : List MO} {fr : List PV} {E : Value -> St -> Prop}
theorem Wp.I5 {fo : PM PV} {ga : PM (List PV)} {μ : St} {Q : PV -> St -> Prop} (h : Wp fo μ (λ x μ1 => ∃ i xs, x = .obj i ∧ μ1.hp[i]? = some (.lst xs) ∧ Wp ga μ1 (λ ys μ2 => ∃ y zs, ys = [y] ∧ μ2.hp[i]? = some (.lst xs) ∧ (isLst μ2.hp y = some zs ∨ y = .tup zs) ∧ xs.length + zs.length <= 1000000 ∧ Q .none ⟨μ2.fr, μ2.hp.set i (.lst (xs ++ zs))⟩) E) E) : Wp (Mine.mExtend fo ga) μ Q E :=
 Wp.C (h.mono (λ x μ1 hh => by
  obtain ⟨i, xs, e, e2, h⟩ := hh
  subst e
  obtain ⟨fr, hp⟩ := μ1
  refine Wp.C (Wp.X e2 (Wp.C (h.mono (λ ys μ2 hh => ?_) λ _ _ e => e)))
  obtain ⟨y, zs, e, e3, ey, hl, h⟩ := hh
  subst e
  obtain ⟨fr, hp⟩ := μ2
  exact Wp.C (Wp.X e3 (Wp.C (Wp.C9 ey (Wp.C (Wp.A6 (decide_eq_true (by rw [length_append]; exact hl)) (Wp.C (Wp.C3 (Wp.R h))))))))) λ _ _ e => e)
theorem Wp.all {x : PV} {xs : List PV} {bs : List Bool} {μ : St} {Q : PV -> St -> Prop} (e : isLst μ.hp x = some xs) (eb : boolsOf xs = some bs) (h : Q (.bool (bs.all id)) μ) : Wp (pAll [x]) μ Q E := by
 refine Wp.C (Wp.J (a := bs) (μ' := μ) ?_ (Wp.R h))
 unfold lstM
 rw [e]; try dsimp only
 rw [eb]
theorem Wp.C8 {x : PV} {is : List Int} (e : isLst hp x = some (is.map .int)) (hl : is.length < 64) {Q : PV -> St -> Prop} (h : Q (.lst ((sortI is).map .int)) ⟨fr, hp⟩) : Wp (pSortIntsL [x]) ⟨fr, hp⟩ Q E := by
 refine Wp.C (Wp.J (a := is) (μ' := ⟨fr, hp⟩) ?_ (Wp.C (Wp.A6 (decide_eq_true hl) (Wp.R h))))
 unfold lstM
 try dsimp only
 rw [e]; try dsimp only
 rw [Zbb]
theorem Wp.argT {f : PM PV} {μ : St} {Q : List PV -> St -> Prop} (h : Wp f μ (λ x μ' => ∃ xs, x = .tup xs ∧ xs.length <= 1000000 ∧ Q xs μ') E) : Wp (Mine.argS f) μ Q E :=
 Wp.C (h.mono (λ x μ' ⟨xs, e, hl, h⟩ => Wp.C (Wp.C9 (.inr e) (Wp.C (Wp.A6 (decide_eq_true hl) (Wp.R h))))) λ _ _ e => e)
end
noncomputable abbrev Ord (ls : Ed) (O : List Int) : Prop := ∀ e ∈ ls, e.2 ∈ O -> O.idxOf e.1 < O.idxOf e.2
section
variable {N : List Int} {ls : Ed} {T : TSt} {O rd : List Int}
theorem Zqe (K : Kn N ls T O O rd) (h : Ord ls O) : Ord ls (O ++ rd) := λ e he hm => by
 have h1 : ∀ x ∈ O, (O ++ rd).idxOf x = O.idxOf x := λ x hx => List.idxOf_append.trans (if_pos hx)
 by_cases hO : e.2 ∈ O
 ·have ht := K.dO _ (K.cl e.2 hO e.1 he)
  rw [h1 _ ht, h1 _ hO]
  exact h e he hO
 ·have hr : e.2 ∈ rd := (Qma hm).resolve_left hO
  have ht : e.1 ∈ O := ((K.rm _).mp hr).2.2 e.1 he
  rw [h1 _ ht, List.idxOf_append, if_neg hO]
  exact Nat.lt_of_lt_of_le (idxOf_lt_length_iff.mpr ht) (Nat.le_add_left _ _)
theorem Zqf (K : Kn N ls T O O rd) (hf : ∀ a ∈ N, Fr ls a) {k : Nat} (h : k <= O.length ∨ ∀ a ∈ N, a ∈ O) : k + 1 <= (O ++ rd).length ∨ ∀ a ∈ N, a ∈ O ++ rd := by
 rcases h with h | h
 ·cases rd with
  | nil =>
   right
   intro a ha
   rw [append_nil]
   have key : ∀ a, Fr ls a -> a ∈ N -> a ∈ O := λ a q => by
    induction q with
    | intro a _ ih =>
     intro hn
     by_cases hO : a ∈ O
     ·exact hO
     ·exact absurd ((K.rm a).mpr ⟨hn, hO, λ p hp => ih p hp (K.tin _ hp).1⟩) not_mem_nil
   exact key a (hf a ha) ha
  | cons b rd => left; rw [length_append, length_cons]; lia
 ·exact .inr λ a ha => mem_append_left _ (h a ha)
theorem Zsn (K : Kn N ls T O O rd) (h : N.length <= O.length ∨ ∀ a ∈ N, a ∈ O) : (∀ a, a ∈ O ↔ a ∈ N) ∧ rd = [] := by
 have h1 : ∀ a ∈ N, a ∈ O := by
  rcases h with h | h
  ·intro a ha
   by_cases q : a ∈ O
   ·exact q
   ·have := Zq (xs := a :: O) (ys := N) (nodup_cons.mpr ⟨q, K.ond⟩) λ b hb => by
     rcases Qmc hb with rfl | hb
     ·exact ha
     ·exact K.oN b hb
    rw [length_cons] at this
    lia
  ·exact h
 refine ⟨λ a => ⟨K.oN a, h1 a⟩, ?_⟩
 cases hr : rd with
 | nil => rfl
 | cons b l =>
  have := (K.rm b).mp (by rw [hr]; exact mem_cons_self)
  exact absurd (h1 b this.1) this.2.1
end
inductive Gp (N : List Int) (ls : Ed) (v0 v2 v4 v7 v8 v9 v10 v11 : PV) (ni li o oi lo : Nat) (ly : Lay) (hp : List MO) (k : Nat) : St -> Prop
 | mk {v5 v13 : PV} {hp' : List MO} {T : TSt} {O rd : List Int} (S : SAt d hp' o T ly) (K : Kn N ls T O O rd) (hO : hp'[oi]? = some (.lst (O.map .int))) (hl : k <= O.length ∨ ∀ a ∈ N, a ∈ O) (od : Ord ls O) (fp : ∀ i, Fp o T ly i -> lo <= i ∧ i ≠ oi) (old : ∀ i, i < lo -> hp'[i]? = hp[i]?) :
  Gp N ls v0 v2 v4 v7 v8 v9 v10 v11 ni li o oi lo ly hp k ⟨[v0, .obj ni, v2, .obj li, v4, v5, .obj o, v7, v8, v9, v10, v11, .obj oi, v13], hp'⟩
section
variable {hp : List MO} {fr : List PV} {E : Value -> St -> Prop}
theorem Zqg {N : List Int} {ls : Ed} {v0 v2 v4 v5 v7 v8 v9 v10 v11 v13 : PV} {ni li o oi lo : Nat} {ly : Lay} {hp0 : List MO} {k : Nat} {T : TSt} {O rd : List Int} (h5 : N.length <= 5) (hls : ls.length <= 10) (hf : ∀ a ∈ N, Fr ls a) (hlo : lo <= oi) (S : SAt d hp o T ly) (K : Kn N ls T O O rd) (hO : hp[oi]? = some (.lst (O.map .int)))
  (hl : k <= O.length ∨ ∀ a ∈ N, a ∈ O) (od : Ord ls O) (fp : ∀ i, Fp o T ly i -> lo <= i ∧ i ≠ oi) (old : ∀ i, i < lo -> hp[i]? = hp0[i]?) {Q : MF -> St -> Prop} (h : ∀ μ, Gp N ls v0 v2 v4 v7 v8 v9 v10 v11 ni li o oi lo ly hp0 (k + 1) μ -> Q .next μ) :
  Wp (Zez d) ⟨[v0, .obj ni, v2, .obj li, v4, v5, .obj o, v7, v8, v9, v10, v11, .obj oi, v13], hp⟩ Q E := by
 have hrd := K.rdLen
 have hOl : O.length <= N.length := Zq K.ond K.oN
 unfold Zez
 refine Wp.I (Wp.Y (Wp.A8 (Wp.B (v := .obj o) rfl rfl (Wp.B5 S (by kernel_rfl) (Wp.j (Zsj S K (by omega) λ hp1 TB S1 KB sB fB => Wp.H ?_))))))
 have noi : ¬ Fp o T ly oi := λ q => (fp oi q).2 rfl
 have hO1 : hp1[oi]? = some (.lst (O.map .int)) := (sB.2 oi noi).trans hO
 refine Wp.I (Wp.i (Wp.I5 (Wp.B (v := .obj oi) rfl rfl ⟨oi, O.map .int, rfl, hO1, Wp.W (Wp.B (v := .tup (rd.map .int)) rfl rfl ⟨_, _, rfl, hO1, .inr rfl, by rw [length_map, length_map]; omega, ?_⟩)⟩)))
 have S2 : SAt d (hp1.set oi (.lst (O.map .int ++ rd.map .int))) o TB ly := S1.keep λ i hi => by rw [List.getElem?_set_ne (λ q => (fp i ((fB i).mp hi)).2 q.symm)]
 have hO2 : (hp1.set oi (.lst (O.map .int ++ rd.map .int)))[oi]? = some (.lst ((O ++ rd).map .int)) := by rw [Zm hO1, map_append]
 have oldC : ∀ i, i < lo -> (hp1.set oi (.lst (O.map .int ++ rd.map .int)))[i]? = hp0[i]? := λ i hi => by
  rw [List.getElem?_set_ne (by omega), sB.2 i λ q => by have := (fp i q).1; omega]
  exact old i hi
 generalize hp1.set oi (.lst (O.map .int ++ rd.map .int)) = hp2 at S2 hO2 oldC ⊢
 refine Wp.I (Wp.i (Wp.A8 (Wp.B (v := .obj o) rfl rfl (Wp.B5 S2 (by kernel_rfl) (Wp.argT (Wp.B (v := .tup (rd.map .int)) rfl rfl ⟨rd.map .int, rfl, by rw [length_map]; omega, Zp4 S2 KB (by omega) (by omega) rd K.rnd (λ b hb => ⟨mem_append_right _ hb, ((K.rm b).mp hb).2.1⟩) λ hp3 T3 S3 K3 sD fD => ?_⟩))))))
 have f : ∀ i, Fp o T3 ly i -> Fp o T ly i := λ i q => (fB i).mp ((fD i).mp q)
 refine Wp.V (h _ (.mk S3 K3 ((sD.2 oi λ q => noi ((fB oi).mp q)).trans hO2) (Zqf K hf hl) (Zqe K od) (λ i q => fp i (f i q)) λ i hi => ?_))
 rw [sD.2 i λ q => by have := (fp i ((fB i).mp q)).1; omega]
 exact oldC i hi
end

theorem Zev {α : Type} {hp : List MO} {n : Nat} {l : List α} {g : α -> PV} {k : α -> PyData} (h : ∀ x ∈ l, reify hp n (g x) = some (k x)) : reify hp (n + 1) (.lst (l.map g)) = some (.list (l.map k)) := by
 show (mapO (reify hp n) (l.map g)).map PyData.list = _
 rw [Zbq h]; rfl
noncomputable def rgD (c : CE) : PyData := .list ((ringP c.1 c.2.2).map .int)
theorem Zqh (L : List CE) : (PyData.list (L.map rgD)).canLay0 = true := Ze1 (k := rgD) (λ c => Ze1 (k := PyData.int) (λ _ => rfl) _) L
theorem Zfk {hp : List MO} {i : Nat} {L : List CE} (h : hp[i]? = some (.lst (L.map rgV))) : reify hp 16 (.obj i) = some (.list (L.map rgD)) := Zok (n := 15) h λ c _ => Zev (n := 14) λ _ _ => rfl
section
variable {N : List Int} {ts : Ed} {L : List CE}
theorem Tn.same (DR : Drawn 5 N ts) (T : Tn N ts L) (hall : ∀ c, Cl N ts c -> c ∈ L) {D : Int -> Option Pth} {es : List CE} (F : FW (Sd N ts) [] D) (pm : es.Perm (closL ts D ts.length)) (pw : es.Pairwise CLt) : L = es := by
 have nor := Zc7 DR
 refine Zgn Zop T.pw pw λ c => ?_
 rw [pm.mem_iff, Zeu]
 constructor
 ·intro h
  have C := T.cl c h
  obtain ⟨_, hs⟩ := Cl.st DR C
  refine ⟨_, (Qgl hs), hs, ?_, C.m⟩
  rcases F.all c.1 C.f.ok C.ne with ⟨b, hb, _⟩ | ⟨q, hq, _⟩
  ·cases hb
  ·rw [hq, (F.done nor hq).uniq Zgm C.f]
 ·rintro ⟨v, _, h1, h2, h3⟩
  have A := F.done nor h2
  have hne : c.1 ≠ [] := λ q => by rw [q] at h3; cases h3
  have B : First (Sd N ts) (en (-1) c.1) c.1 := by rw [A.to]; exact A
  exact hall c ⟨B, .inr ⟨Zbg nor A.ok hne, by rw [A.to]; exact h1⟩, h3⟩
end
noncomputable def rest1 (d : Ad) : PM MF := sSeq (sIf (bCmp .NotEq (Mine.getVar 4) ((argC (Mine.getVar 1) (argC (Mine.getVar 2) (Pure.pure []))) >>= Zbv d)) (sSeq (sRet (Pure.pure (PV.bool false))) (sNext)) (sNext)) (sSeq (sAsg (eList true (Pure.pure [])) (Mine.setVar 12)) (sSeq (sFor ((argC ((argC (Mine.getVar 1) (Pure.pure [])) >>= pLen) (Pure.pure [])) >>= pRange) (Mine.setVar 5) (Zez d) fuel) (sSeq (sIf (bOr (bCmp .NotEq ((argC (Mine.getVar 12) (Pure.pure [])) >>= pSortIntsL) ((argC (Mine.getVar 1) (Pure.pure [])) >>= pSortIntsL)) (bOr (bVal (eMeth d.TS ("is_active" : Str) (Mine.getVar 6) (Pure.pure []) (Zbu d))) (Pure.pure false))) (sSeq (sRet (Pure.pure (PV.bool false))) (sNext)) (sNext)) (sSeq (sRet ((argC (compM fuel 3 (Mine.getVar 3) (Zlq d)) (Pure.pure [])) >>= pAll)) (sNext)))))
section
variable {hp : List MO} {fr : List PV} {E : Value -> St -> Prop}
theorem Zqi (KS : KSorts) {N : List Int} {ts : Ed} {L : List CE} {ni ti li mi o lo : Nat} {T : TSt} {ly : Lay} {rd : List Int} (DR : Drawn 5 N ts) (R : Tn N ts L) (hall : ∀ c, Cl N ts c -> c ∈ L) (hf : ∀ a ∈ N, Fr (lft ts (dnL L)) a) (V : Hv N ts L ni ti li mi hp) (S : SAt d hp o T ly) (K : Kn N (lft ts (dnL L)) T [] [] rd) (hfp : ∀ i, Fp o T ly i -> lo <= i) (hl : lo <= hp.length) (l6 : ni < lo) (l8 : li < lo)
  {v0 v5 v7 v8 v9 v10 v11 v13 : PV} {Q : MF -> St -> Prop} (h : ∀ μ, Q (.ret (.bool true)) μ) : Wp (rest1 d) ⟨[v0, .obj ni, .obj ti, .obj li, .obj mi, v5, .obj o, v7, v8, v9, v10, v11, .undef, v13], hp⟩ Q E := by
 have h5 := DR.len
 have hN : 1000 < fuel := by unfold fuel; lia
 have hll : (lft ts (dnL L)).length <= 10 := Nat.le_trans Zg2 DR.tl
 unfold rest1
 generalize fuel = n at hN ⊢
 refine Wp.I (Wp.A2 (Wp.Z (Wp.B (v := .obj mi) rfl rfl (Wp.C (Wp.e (Wp.B (v := .obj ni) rfl rfl (Wp.W (Wp.B (v := .obj ti) rfl rfl (Zkf KS DR V.n V.t λ hp1 ri D es old F pm pw hr => ?_)))))))))
 have e := R.same DR hall F pm pw
 subst e
 have V1 := V.keep old
 have S1 : SAt d hp1 o T ly := S.keep λ i hi => old i (S.lt hi)
 refine Wp.C6 (Zfk V1.m) (Zfk hr) (Zqh _) (Wp.V ?_)
 have l1 : hp.length <= hp1.length := by
  apply Nat.le_of_not_lt
  intro q
  have := old hp1.length q
  rw [List.getElem?_eq_none Qr, List.getElem?_eq_getElem q] at this
  exact Zf this
 refine Wp.I (Wp.Y (Wp.B2 (Wp.j ⟨by simp, Wp.H ?_⟩)))
 have S2 : SAt d (hp1 ++ [MO.lst []]) o T ly := S1.keep λ i hi => List.getElem?_append_left (S1.lt hi)
 have nC : (hp1 ++ [MO.lst []])[ni]? = some (.lst (N.map .int)) := getElem?_app V1.n
 have vC : (hp1 ++ [MO.lst []])[li]? = some (.lst ((lft ts (dnL L)).map pairV)) := getElem?_app V1.l
 have oC : (hp1 ++ [MO.lst []])[hp1.length]? = some (.lst (([] : List Int).map .int)) := Z6
 have hlN : (N.map PV.int).length = N.length := length_map ..
 refine Wp.I (Wp.B0 (Wp.C (Wp.W (Wp.C (Wp.W (Wp.B (v := .obj ni) rfl rfl (Wp.B4 (.inl (Zl nC)) (by lia) ?_)))))))
 refine Wp.B3 ?_
 refine Wp.u (Gp N (lft ts (dnL L)) v0 (.obj ti) (.obj mi) v7 v8 v9 v10 v11 ni li o hp1.length lo ly (hp1 ++ [MO.lst []])) N.length (λ k μ hI hk => ?_) n 0 _ (by lia) (Nat.zero_le _)
  (.mk S2 K oC (.inl (Nat.zero_le _)) (λ e _ h => nomatch h) (λ i hi => ⟨hfp i hi, Nat.ne_of_lt (S1.lt hi)⟩) λ i hi => rfl)
 obtain ⟨S3, K3, O3, hl3, od, fp, old3⟩ := hI
 rename_i v5 v13 hp3 T3 O rd3
 rw [hlN, Zbp (by lia) hk]
 by_cases hkx : k < N.length
 ·right
  rw [if_pos hkx]
  exact ⟨hkx, _, rfl, Wp.H (Zqg (Nat.le_of_eq h5) hll hf (by lia) S3 K3 O3 hl3 od fp old3 λ μ h => h)⟩
 left
 rw [if_neg hkx]
 have hk' : k = N.length := by lia
 subst hk'
 refine ⟨rfl, ?_⟩
 obtain ⟨hm, rfl⟩ := Zsn K3 hl3
 have nD := (old3 ni l6).trans nC
 have vD := (old3 li l8).trans vC
 have hOl : O.length <= N.length := Zq K3.ond K3.oN
 refine Wp.I (Wp.A2 (Wp.G0 (Wp.Z (Wp.C (Wp.W (Wp.B (v := .obj hp1.length) rfl rfl (Wp.C8 (Zl O3) (by lia) (Wp.C (Wp.W (Wp.B (v := .obj ni) rfl rfl (Wp.C8 (Zl nD) (by lia) ?_)))))))))))
 rw [Zos K3.ond DR.nnd hm]
 refine Wp.C6 (a := .list ((sortI N).map .int)) (Zev λ _ _ => rfl) (Zev λ _ _ => rfl) (Ze1 (k := PyData.int) (λ _ => rfl) _) ?_
 refine Wp.G0 (Wp.D5 (Wp.A8 (Wp.B (v := .obj o) rfl rfl (Wp.B5 S3 (by kernel_rfl) (Wp.j (Zjs S3 K3.ready (by simp) (Wp.H9 ?_)))))))
 rw [K3.fin, K3.passed, decide_eq_false (Int.lt_irrefl _)]
 refine Wp.R (Wp.V ?_)
 refine Wp.I (Wp.D1 (Wp.C (Wp.W (Wp.J0 (pv := .obj li) ((lft ts (dnL L)).map pairV) (((lft ts (dnL L)).map λ _ => true).map PV.bool) (by rw [length_map]; lia) (by simp) (by simp; lia) (Wp.B (v := .obj li) rfl rfl ⟨rfl, rfl⟩) (λ k hk fr' zz => Zct vD) (λ k x y u w t zz hx hy => ?_) (Wp.all (Zl Z6) (Zhk _) ?_)))))
 ·rw [map_map, List.getElem?_map] at hy
  rw [List.getElem?_map] at hx
  cases hs : (lft ts (dnL L))[k]? with
  | none => rw [hs] at hx; cases hx
  | some e =>
   rw [hs] at hx hy
   cases hx; cases hy
   have he := mem_of_getElem? hs
   have tin := K3.tin e he
   refine Wp.B8 (Wp.H (Wp.H (Wp.F2 (Wp.D7 (Wp.B (v := .obj hp1.length) rfl rfl ⟨O, e.1, Zl (getElem?_app O3), Wp.W (Wp.B (v := .int e.1) rfl rfl ⟨Zl (getElem?_app O3), rfl, (hm _).mpr tin.1, by lia, ?_⟩)⟩)))))
   refine Wp.D7 (Wp.B (v := .obj hp1.length) rfl rfl ⟨O, e.2, Zl (getElem?_app O3), Wp.W (Wp.B (v := .int e.2) rfl rfl ⟨Zl (getElem?_app O3), rfl, (hm _).mpr tin.2, by lia, _, _, rfl, rfl, ?_⟩)⟩)
   rw [decide_eq_true (Int.ofNat_lt.mpr (od e he ((hm _).mpr tin.2)))]
   exact ⟨rfl, _, _, _, rfl⟩
 ·have : ((lft ts (dnL L)).map λ _ => true).all id = true := by simp
  rw [this]
  exact h _
end

inductive Lp1 (N : List Int) (ts : Ed) (v0 : PV) (ni ti li mi : Nat) (k : Nat) : St -> Prop
 | mk {L : List CE} {v5 v6 v7 v8 v9 v10 v11 : PV} {hp : List MO} (T : Tn N ts L) (hL : L.length = k) (V : Hv N ts L ni ti li mi hp) : Lp1 N ts v0 ni ti li mi k ⟨[v0, .obj ni, .obj ti, .obj li, .obj mi, v5, v6, v7, v8, v9, v10, v11, .undef, .undef], hp⟩
section
variable {hp : List MO} {fr : List PV} {E : Value -> St -> Prop}
theorem Wp.F8 {i : Nat} {xs : List PV} (e : hp[i]? = some (.lst xs)) (hl : xs.length <= 1000000) {Q : PV -> St -> Prop} (h : Q (.obj hp.length) ⟨fr, hp ++ [.lst xs]⟩) : Wp (oneM pListOf [.obj i]) ⟨fr, hp⟩ Q E := by
 show Wp (pListOf (.obj i)) ⟨fr, hp⟩ Q E
 unfold pListOf
 exact Wp.C (Wp.C9 (.inl (Zl e)) (Wp.C (Wp.A6 (decide_eq_true hl) (Wp.C (Wp.b (Wp.R h))))))
theorem Zot {N : List Int} {ts : Ed} {ni ti : Nat} (DR : Drawn 5 N ts) (h6 : hp[ni]? = some (.lst (N.map .int))) (h7 : hp[ti]? = some (.lst (ts.map pairV))) : ∀ v ∈ N, ∃ f, First (Sd N ts) v f := by
 obtain ⟨_, _, _, h⟩ := (Zdn (fr := []) (E := λ _ _ => False) (Q := λ _ _ => ∀ v ∈ N, ∃ f, First (Sd N ts) v f) DR h6 h7 λ hp' fi es ep D _ _ _ F v hv => by
  obtain ⟨i, hi⟩ := List.getElem?_of_mem hv
  have hs : Simp (Sd N ts) [(i, v)] := ⟨⟨.inl ⟨rfl, hi⟩, trivial⟩, nodup_cons.mpr ⟨not_mem_nil, nodup_nil⟩⟩
  rcases F.all _ hs (cons_ne_nil _ _) with ⟨b, hb, _⟩ | ⟨q, hq, _⟩
  ·cases hb
  ·exact ⟨q, F.done (Zc7 DR) hq⟩).run
 exact h
theorem Zr3 (KS : KSorts) {xs : List Int} (hl : xs.length <= 63) : Wp (k_law d [.lst (xs.map .int)]) ⟨fr, hp⟩ (λ v _ => v = .bool true) (λ _ _ => False) := by
 refine Wp.A0 rfl ?_
 unfold g_law
 refine Wp.I (Wp.Y (Wp.C (Wp.W (Wp.B (v := .lst (xs.map .int)) rfl rfl (Zj9 hl λ hp1 ni ti N ts _ _ _ _ hnt DR h6 h7 => Wp.B8 (Wp.H (Wp.H ?_)))))))
 have H := Zot DR h6 h7
 have tl := DR.tl
 have l6 := (Qgl h6)
 have l7 := (Qgl h7)
 have hlt : (ts.map pairV).length = ts.length := length_map ..
 have hN : 1000 < fuel := by unfold fuel; lia
 refine Wp.I (Wp.Y (Wp.C (Wp.W (Wp.B (v := .obj ti) rfl rfl (Wp.F8 h7 (by lia) (Wp.H ?_))))))
 refine Wp.I (Wp.Y (Wp.B2 (Wp.j ⟨by simp, Wp.H ?_⟩)))
 have l1 : (hp1 ++ [MO.lst (ts.map pairV)]).length = hp1.length + 1 := by simp
 rw [l1]
 have V : Hv N ts [] ni ti hp1.length (hp1.length + 1) (hp1 ++ [MO.lst (ts.map pairV)] ++ [MO.lst []]) := ⟨getElem?_app (getElem?_app h6), getElem?_app (getElem?_app h7), getElem?_app (by
  rw [show dnL [] = [] from rfl, Zr0]; exact Z6), by rw [<- l1]; exact Z6⟩
 generalize (hp1 ++ [MO.lst (ts.map pairV)] ++ [MO.lst []]) = hp2 at V ⊢
 refine Wp.I (Wp.B0 (Wp.C (Wp.W (Wp.C5 (Wp.C (Wp.W (Wp.B (v := .obj ti) rfl rfl (Wp.B4 (.inl (Zl V.t)) (by lia) (Wp.C1 (Wp.addI ?_))))))))))
 rw [hlt]
 refine Wp.B3 ?_
 have rest : ∀ {μ : St} {Q : MF -> St -> Prop} {E : Value -> St -> Prop}, Wp (rest1 d) μ Q E -> SQ (rest1 d) Q E .next μ := λ h => h
 have e1 : ((ts.length : Int) + 1) = ((ts.length + 1 : Nat) : Int) := rfl
 rw [e1]
 refine Wp.u (Lp1 N ts (.lst (xs.map .int)) ni ti hp1.length (hp1.length + 1)) (ts.length + 1) (λ k μ hI hk => ?_) fuel 0 _ (by lia) (Nat.zero_le _)
  (.mk (L := []) ⟨λ c h => absurd h not_mem_nil, List.Pairwise.nil, λ c h => absurd h not_mem_nil⟩ rfl V)
 obtain ⟨T, hL, V'⟩ := hI
 rename_i L v5 v6 v7 v8 v9 v10 v11 hp3
 have hTL := T.len DR
 rw [Zbp (by lia) hk]
 right
 rw [if_pos (by lia)]
 refine ⟨by lia, _, rfl, Wp.H ?_⟩
 have n6 := (Qgl V'.n)
 have n8 := (Qgl V'.l)
 refine Zr2 DR H T V' (by lia) (by lia) (by lia) (by lia) (by lia) (λ hp' L' v6 v7 v8 v9 v10 v11 T' hL' V'' => .mk T' (by lia) V'') λ hp' o T' ly rd v7 v8 v9 v10 v11 hall hf V'' S K hfp hlen old => ?_
 exact rest (Zqi KS DR T hall hf V'' S K (lo := hp3.length) hfp hlen n6 n8 λ μ => rfl)
end
theorem PL1 (KS : KSorts) (xs : List Int) (hl : xs.length <= 63) : ∃ μ', k_law d [.lst (xs.map .int)] ⟨[], []⟩ = .ok (.bool true) μ' := by
 obtain ⟨v, μ', e, hv⟩ := (Zr3 KS hl).run
 subst hv
 exact ⟨μ', e⟩
end Mine
open PySem PySem.W PyProof.Rows Mine
set_option maxRecDepth 100000 in
set_option maxHeartbeats 8000000 in
theorem PySem.Challenge.cw_sr0004_01_holds : PySem.Challenge.rw_sr0004_01.Holds := by
 w_on; refine holds_law (by decide +kernel) λ said => ?_
 refine holds_open (q := view PySem.Challenge.pw_sr0004_01 [0, 2, 3, 4, 5, 6, 8, 9, 10, 11]) (loose := [Str.ofString "_NodeInfo"]) (Xt := λ s => xlAt (view PySem.Challenge.pw_sr0004_01 [0, 2, 3, 4, 5, 6, 8, 9, 10, 11]) [] s && recOk (RowW.records (OpenRow.toRowW (OpenLaw.row PySem.Challenge.rw_sr0004_01))) s) (XP := XL (view PySem.Challenge.pw_sr0004_01 [0, 2, 3, 4, 5, 6, 8, 9, 10, 11]) []) (Yf := Hook.obs (obsHook seenAt1 seen1)) (Ya := Hook.val (obsHook seenAt1 seen1)) (YP := Hook.says (obsHook seenAt1 seen1)) (N := 2504) ?hl (Hook.of (obsHook seenAt1 seen1)) (Hook.keeps (obsHook seenAt1 seen1)) (λ s e => xl_of s (Bool.and_eq_true_iff.mp e).1) XL.keeps (by rfl) (by rfl) (by rfl) (λ s e => recFacts_of (Bool.and_eq_true_iff.mp e).2) (by rfl) (by first | assumption | decide +kernel) (by decide +kernel) ⟨rfl, rfl, rfl, rfl, rfl, by decide +kernel⟩ ?hw ?hc
 case hl => exact λ w => by kernel_rfl
 (case hw => w_witness2)
 w_strict (
  intro w s0 sB mg mb G Y fa o pm cd doc dV kV ho hd hcd hD hmg hg args vals as hpre hlay hrd hwl hlo
  obtain ⟨K, KX, eK⟩ := Zr9 Y
  refine Ground.open G ?_
  intro T B D TE TW
  wrow_args hpre hlay hrd hwl hlo
  (case hc =>
   have CC := Zq4 (prog := PySem.Challenge.pw_sr0004_01) (w := w) (os := sB.os) KX T.g T.b T.nolimit T.builtins
   have FF := facts1 (c := { prog := PySem.Challenge.pw_sr0004_01, w := w, B := sB.heap, os := sB.os, mg := mg, mb := mb, K := K }) eK (ce1 KX (topRead_of T) eK)
   have PL : ∀ (xs : List Int), xs.length <= 63 -> ∃ μ', k_law d [.lst (xs.map .int)] ⟨[], []⟩ = .ok (.bool true) μ' := Mine.PL1 (Mine.Zoo PySem.Challenge.pw_sr0004_01 w sB)
   have efa : fa = 161 := by
    have q := mg_of KX T.g FF.g_law
    rw [hmg] at q
    cases q; rfl
   clear hd hcd hD hmg
   subst efa
   rename_i xs _ _ _ _ _ _ _ l vs _ hL _ w1 _ hI _ hlen _
   obtain ⟨μ', hok⟩ := PL xs (by omega)
   have hv : VRs [] sB.heap [.ref l] [.lst (xs.map .int)] := by
    cases w1 with
    | list h1 h2 =>
     obtain ⟨o', ho', _, n', hd'⟩ := hL
     rw [h1] at ho'
     cases ho'
     have e := (Data.seq.inj hd').1
     rw [e] at h1
     exact .cons (.lst h1 (λ h => nomatch h) (Ziv hI)) .nil
   refine (Zsf FF).call (F := fx0 default) (by decide) rfl [.ref l] [.lst (xs.map .int)] callerA [] ⟨[], []⟩ sB _ _ (actx0 default) (rep0 CC rfl rfl hg default) hv (by rw [hok]; exact λ e => nomatch e) (λ v y φ' μ1 s' e R' x' r => ?_) λ e x φ' μ1 s' he => by rw [hok] at he; cases he
   rw [hok] at e
   cases e
   cases r
   refine ⟨.inl ⟨.bool true, .bool true, [], rfl, λ _ => ?_, ?_, ?_, ?_⟩, .of_keep R'.keep, R'.os, ?_⟩
   ·first | rfl | (intro; rfl) | simp
   ·first | exact .bool _ | exact ReadsW.of_reads .bool | constructor
   ·show WTm.holds _ (.eq .res (.lit (.bool true))) _ = true
    kernel_rfl
   ·exact λ _ => ⟨List.nodup_nil, λ a h => nomatch h⟩
   ·exact AllBare.of_eq R'.gens

  ))
