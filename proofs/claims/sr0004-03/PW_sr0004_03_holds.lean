import PyProof.Rows.All
import Wide.All
import OpenK.AllK
import Wide.FinOn
import KE.KStar
import KE.KSuperObj
import PyProof.RulesAssignMore
import PyProof.ExcClass2
import PyProof.WalksMore
import PyProof.DictWalks
import PyProof.DictValues
import PyProof.CompMap
import PyProof.Conv_bool
import PyProof.WalkInts
import KE.KTryMore
import PyProof.DictItems
import KE.KSortTup
import PyProof.Ends
import PyProof.Sound
import PyProof.MeetsSeq3
import PyProof.FactsAll.list_2
import PyProof.Rows.SortShellK
import PySem.Challenge.RW_sr0004_03
set_option Elab.async false
set_option linter.unusedVariables false
set_option linter.unusedSimpArgs false
set_option maxRecDepth 100000
set_option backward.eqns.nonrecursive false
set_option bootstrap.genMatcherCode false
set_option genSizeOf false
open List (all_eq_true any_cons any_eq_false any_eq_true append_assoc append_nil count_cons_self count_eq_zero drop_eq_getElem_cons ext_getElem filter_append filter_congr filter_cons filter_sublist flatMap_append flatMap_def foldl_cons forIn_cons forIn_nil getD_eq_getElem?_getD getElem_inj getElem_map getElem_mem length_append length_cons length_drop length_filter_le length_map length_pos_iff length_range length_set length_singleton length_take lookup_cons map_append map_congr_left map_cons map_map mem_append mem_append_left mem_append_right mem_cons mem_cons_of_mem mem_cons_self mem_filter mem_map mem_map_of_mem mem_of_getElem? mem_range mem_reverse mem_singleton nodup_append nodup_cons nodup_nil nodup_range pairwise_map range_succ reverse_cons size_toArray sum_cons take_append_drop take_length take_succ_eq_append_getElem)
namespace Mine
open PySem PySem.W PyProof.Rows
theorem Qll {a b c : Nat} (h : a < b) (g : b <= c) : a < c := Nat.lt_of_lt_of_le h g
theorem Qkl {a b c : Nat} (h : a <= b) (g : b < c) : a < c := Nat.lt_of_le_of_lt h g
theorem Qkk {a b c : Nat} (h : a <= b) (g : b <= c) : a <= c := Nat.le_trans h g
theorem Qlk {a b c : Nat} (h : a < b) (g : b <= c) : a <= c := Nat.le_trans (Nat.le_of_lt h) g
theorem Qlll {a b c d : Nat} (h : a < b) (g : b <= c) (k : c <= d) : a < d := Qll (Qll h g) k
theorem Qkkk {a b c d : Nat} (h : a <= b) (g : b <= c) (k : c <= d) : a <= d := Qkk (Qkk h g) k
theorem Qle {a b c : Nat} (h : a < b) (g : c = b) : a < c := g ▸ h
theorem Qke {a b c : Nat} (h : a <= b) (g : c = b) : a <= c := g ▸ h
theorem Qek {a b c : Nat} (g : a = b) (h : b <= c) : a <= c := g ▸ h
theorem Qkb {a b c : Nat} (h : a <= b) (g : Nat.ble b c = true) : a <= c := Nat.le_trans h (Nat.le_of_ble_eq_true g)
theorem Qlb {a b c : Nat} (h : a <= b) (g : Nat.ble (b + 1) c = true) : a < c := Nat.lt_of_le_of_lt h (Nat.le_of_ble_eq_true g)
theorem Qkkb {a b c d : Nat} (h : a <= b) (k : b <= c) (g : Nat.ble c d = true) : a <= d := Qkb (Qkk h k) g
theorem Qklb {a b c d : Nat} (h : a <= b) (k : b <= c) (g : Nat.ble (c + 1) d = true) : a < d := Qlb (Qkk h k) g
theorem Qkxl {a b c d : Nat} (h : a <= b) (k : c < d) (g : Nat.ble b c = true) : a < d := Qkl (Qkb h g) k
theorem Qfk {a b : Nat} (h : a < b) (k : b <= a) : False := Nat.lt_irrefl a (Qll h k)
theorem Qnl {a b : Nat} (h : a < b) : ¬ b = a := Nat.ne_of_gt h
theorem Qnk {a b : Nat} (h : a < b) : ¬ a = b := Nat.ne_of_lt h
theorem Qnlk {a b c : Nat} (h : a < b) (g : b <= c) : ¬ c = a := Qnl (Qll h g)
theorem Qnkl {a b c : Nat} (h : a < b) (g : b <= c) : ¬ a = c := Qnk (Qll h g)
theorem Qgs {α : Type _} {l : List α} {i : Nat} {a : α} (h : l[i]? = some a) : ∃ h : i < l.length, l[i] = a := List.getElem?_eq_some_iff.mp h
theorem Qgl {α : Type _} {l : List α} {i : Nat} {a : α} (h : l[i]? = some a) : i < l.length := (Qgs h).1
theorem Qge {α : Type _} {l : List α} {i : Nat} {a : α} (h : l[i]? = some a) : l[i]'(Qgl h) = a := (Qgs h).2
theorem Qgn {α : Type _} {l : List α} {i : Nat} (h : l[i]? = none) : l.length <= i := List.getElem?_eq_none_iff.mp h
theorem Qmc {α : Type _} {l : List α} {a b : α} (h : a ∈ b :: l) : a = b ∨ a ∈ l := List.mem_cons.mp h
theorem Qma {α : Type _} {l r : List α} {a : α} (h : a ∈ l ++ r) : a ∈ l ∨ a ∈ r := List.mem_append.mp h
theorem Qmm {α β : Type _} {f : α -> β} {l : List α} {b : β} (h : b ∈ l.map f) : ∃ a, a ∈ l ∧ f a = b := List.mem_map.mp h
theorem Qms {α : Type _} {a b : α} (h : a ∈ [b]) : a = b := List.mem_singleton.mp h
theorem Qr {n : Nat} : n <= n := Nat.le.refl
theorem Qs {a b : Nat} (h : a <= b) : a <= b + 1 := Nat.le.step h
theorem Qb {M : Model} {A : Around} {s : Shared} {E : Value -> Shared -> Prop} {α β : Type} {m : Sem α} {f : α -> Sem β} {Q : β -> Shared -> Prop} (h : wpAny M A m (λ a s' => wpAny M A (f a) Q E s') E s) : wpAny M A (m >>= f) Q E s := wpAny_bind h
theorem Qp {M : Model} {A : Around} {s : Shared} {E : Value -> Shared -> Prop} {α : Type} {a : α} {Q : α -> Shared -> Prop} (h : Q a s) : wpAny M A (pure a) Q E s := wpAny_pure h
theorem Qn {a b : Nat} (h : ¬ a < b) : b <= a := Nat.le_of_not_lt h
theorem Qfl {a b c : Nat} (h : a + b <= c) : a <= c := Nat.le_trans (Nat.le_add_right a b) h
theorem Qfr {a b c : Nat} (h : a + b <= c) : b <= c := Nat.le_trans (Nat.le_add_left b a) h
theorem Qfrb {a b c d : Nat} (h : a + b <= c) (g : Nat.ble c d = true) : b <= d := Nat.le_trans (Qfr h) (Nat.le_of_ble_eq_true g)
theorem Qflb {a b c d : Nat} (h : a + b <= c) (g : Nat.ble c d = true) : a <= d := Nat.le_trans (Qfl h) (Nat.le_of_ble_eq_true g)
theorem Qfrl {a b c d : Nat} (h : a + b <= c) (g : Nat.ble (c + 1) d = true) : b < d := Nat.lt_of_le_of_lt (Qfr h) (Nat.le_of_ble_eq_true g)
theorem Qs1 {a b : Nat} (h : a < b + 1) : a <= b := Nat.le_of_lt_succ h
theorem Qnn {a b : Nat} (h : ¬ a < b) (g : a <= b) : a = b := Nat.le_antisymm g (Nat.le_of_not_lt h)
theorem Qtl {a : Int} {n : Nat} (h : 0 <= a) (g : a < n) : a.toNat < n := (Int.toNat_lt h).mpr g
theorem Qtn {a : Int} (h : 0 <= a) : (a.toNat : Int) = a := Int.toNat_of_nonneg h
theorem Qcl {a b : Nat} (h : a < b) : (a : Int) < b := Int.ofNat_lt.mpr h
theorem Qck {a b : Nat} (h : a <= b) : (a : Int) <= b := Int.ofNat_le.mpr h
theorem Qdl {a b : Nat} (h : (a : Int) < b) : a < b := Int.ofNat_lt.mp h
theorem Qtlk {k : Int} {n : Nat} (h : 0 <= k) (g : k.toNat < n) : k < n := (Int.toNat_lt h).mp g
theorem Qlkc {a b c : Nat} (h : a < b) (g : Nat.ble b c = true) : a <= c := Nat.le_trans (Nat.le_of_lt h) (Nat.le_of_ble_eq_true g)
theorem Qcg {a b : Nat} (h : a = b) : (a : Int) = b := congrArg _ h
theorem Qzl {z : Int} {k n : Nat} (e : z = k) (h : k < n) : z < n := e ▸ Qcl h
theorem Qzp {z : Int} {n : Nat} (e : z = n) (h : 0 < n) : 0 < z := e ▸ Qcl h
theorem Qnz {z : Int} {k n : Nat} (e : z = k) (h : ¬ k < n) : ¬ z < n := λ q => h (Qdl (e ▸ q))
theorem Qzn {z : Int} {k n b : Nat} (e : z = k) (h : k <= n) (g : Nat.ble (n + 1) b = true) : z.natAbs < b := e ▸ Qlb h g

inductive PV where
 | undef
 | none
 | bool (b : Bool)
 | int (i : Int)
 | str (s : Str)
 | tup (xs : List PV)
 | lst (xs : List PV)
 | rng (a b c : Int)
 | obj (i : Nat)
 | nxt (i : Nat)
 | vals (i : Nat)
 | raw (v : Value)
 deriving Inhabited
inductive MO where
 | lst (xs : List PV)
 | dct (es : List (Int × PV)) (ep : Nat)
 | set (xs : List Int)
 | ins (C : Addr) (d : Nat)
 | ns (fs : List (Str × PV))
 | slt (C : Addr) (d : Nat) (fs : List (Option PV))
 | itr (l : Nat) (k : Nat)
 | dead
 deriving Inhabited
structure St where
 fr : List PV
 hp : List MO
inductive Out (α : Type) where
 | ok (a : α) (μ : St)
 | exc (x : Value) (μ : St)
 | bad
noncomputable def PM (α : Type) := St -> Out α
noncomputable def PM.pure {α : Type} (a : α) : PM α := λ μ => .ok a μ
noncomputable def PM.bind {α β : Type} (f : PM α) (g : α -> PM β) : PM β := λ μ => match f μ with
 | .ok a μ' => g a μ'
 | .exc x μ' => .exc x μ'
 | .bad => .bad
noncomputable instance : Monad PM where
 pure := PM.pure
 bind := PM.bind
noncomputable def PM.H {α : Type} : PM α := λ _ => .bad
theorem PM.B {α β : Type} (f : PM α) (g : α -> PM β) (μ : St) : (f >>= g) μ = match f μ with
 | .ok a μ' => g a μ'
 | .exc x μ' => .exc x μ'
 | .bad => .bad := rfl
theorem Zh {α : Type} {a : α} {P : Prop} (e : none = some a) : P := nomatch e
mutual
inductive VR (φ : List Addr) (h : Heap) : Value -> PV -> Prop
 | none : VR φ h .none .none
 | bool (b : Bool) : VR φ h (.bool b) (.bool b)
 | int (i : Int) (t : Tok) : VR φ h (.int i t) (.int i)
 | str (x : Str) (t : Tok) : VR φ h (.str x t) (.str x)
 | tup {a : Addr} {vs : List Value} {n : Nat} {xs : List PV} : h.get? a = some { cls := .type "tuple", data := .seq vs.toArray n } -> a ∉ φ -> VRs φ h vs xs -> VR φ h (.ref a) (.tup xs)
 | lst {a : Addr} {vs : List Value} {n : Nat} {xs : List PV} : h.get? a = some { cls := .type "list", data := .seq vs.toArray n } -> a ∉ φ -> VRs φ h vs xs -> VR φ h (.ref a) (.lst xs)
 | rng {r : Addr} {a b c : Int} {t u v : Tok} : IsRange h r a b c t u v -> r ∉ φ -> VR φ h (.ref r) (.rng a b c)
 | obj {i : Nat} {a : Addr} : φ[i]? = some a -> VR φ h (.ref a) (.obj i)
 | nxt {i : Nat} {a m : Addr} : φ[i]? = some a -> h.get? m = some { cls := .type "method-wrapper", data := .fields #[.builtin "list_iterator.__next__", .ref a] } -> m ∉ φ -> VR φ h (.ref m) (.nxt i)
 | vals {i : Nat} {a m : Addr} : φ[i]? = some a -> h.get? m = some { cls := .type "dict_values", data := .fields #[.ref a] } -> m ∉ φ -> VR φ h (.ref m) (.vals i)
 | raw (v : Value) : VR φ h v (.raw v)
inductive VRs (φ : List Addr) (h : Heap) : List Value -> List PV -> Prop
 | nil : VRs φ h [] []
 | cons {v : Value} {vs : List Value} {x : PV} {xs : List PV} : VR φ h v x -> VRs φ h vs xs -> VRs φ h (v :: vs) (x :: xs)
end
structure Ext0 (nss cls : List Addr) (φ : List Addr) (h : Heap) (φ' : List Addr) (h' : Heap) : Prop where
 grow : ∃ ψ, φ' = φ ++ ψ ∧ ∀ b ∈ ψ, h.objs.size <= b
 size : h.objs.size <= h'.objs.size
 old : ∀ a o, h.get? a = some o -> a ∉ φ -> a ∉ nss -> a ∉ cls -> h'.get? a = some o ∨ ((∃ es ep, o.data = .dict es ep) ∧ ∃ sl, h'.get? a = some { o with slots := sl })
theorem getElem?_app {α : Type} {l r : List α} {i : Nat} {a : α} (h : l[i]? = some a) : (l ++ r)[i]? = some a := by
 obtain ⟨hi, _⟩ := Qgs h
 rw [List.getElem?_append_left hi, h]
def FzO (o : Obj) : Prop := (o.cls = .type "tuple" ∨ o.cls = .type "list" ∨ o.cls = .type "range" ∨ o.cls = .type "method-wrapper" ∨ o.cls = .type "dict_values") ∧ ((∃ vs n, o.data = .seq vs n) ∨ ∃ vs, o.data = .fields vs)
theorem FzO.notFrame {o : Obj} (h : FzO o) : ¬ ∃ es ep, o.data = .dict es ep := by
 rintro ⟨es, ep, e⟩
 rcases h.2 with ⟨vs, n, q⟩ | ⟨vs, q⟩ <;> rw [e] at q <;> cases q
theorem VRs.ind {φ : List Addr} {h : Heap} {motive : (vs : List Value) -> (xs : List PV) -> VRs φ h vs xs -> Prop} (nil : motive [] [] .nil)
  (cons : ∀ {v : Value} {vs : List Value} {x : PV} {xs : List PV} (a : VR φ h v x) (b : VRs φ h vs xs) (ih : motive vs xs b), motive (v :: vs) (x :: xs) (.cons a b)) {vs : List Value} {xs : List PV} (r : VRs φ h vs xs) : motive vs xs r :=
 VRs.rec (motive_1 := λ _ _ _ => True) (motive_2 := motive) trivial (λ _ => trivial) (λ _ _ => trivial) (λ _ _ => trivial) (λ _ _ _ _ => trivial) (λ _ _ _ _ => trivial) (λ _ _ => trivial) (λ _ => trivial) (λ _ _ _ => trivial) (λ _ _ _ => trivial) (λ _ => trivial) nil (λ a b _ ih => cons a b ih) r
theorem VR.move {φ φ' : List Addr} {h h' : Heap} (hφ : ∀ (i : Nat) (a : Addr), φ[i]? = some a -> φ'[i]? = some a) (hn : ∀ a o, h.get? a = some o -> a ∉ φ -> a ∉ φ')
  (hk : ∀ a o, h.get? a = some o -> a ∉ φ -> FzO o -> h'.get? a = some o) {v : Value} {x : PV} (r : VR φ h v x) : VR φ' h' v x :=
 VR.rec (motive_1 := λ v x _ => VR φ' h' v x) (motive_2 := λ vs xs _ => VRs φ' h' vs xs) .none (λ b => .bool b) (λ i t => .int i t) (λ x t => .str x t)
  (λ h1 h4 _ ih => .tup (hk _ _ h1 h4 ⟨.inl rfl, .inl ⟨_, _, rfl⟩⟩) (hn _ _ h1 h4) ih)
  (λ h1 h4 _ ih => .lst (hk _ _ h1 h4 ⟨.inr (.inl rfl), .inl ⟨_, _, rfl⟩⟩) (hn _ _ h1 h4) ih)
  (λ h1 h2 => .rng (hk _ _ h1 h2 ⟨.inr (.inr (.inl rfl)), .inr ⟨_, rfl⟩⟩) (hn _ _ h1 h2))
  (λ h1 => .obj (hφ _ _ h1))
  (λ h1 h2 h3 => .nxt (hφ _ _ h1) (hk _ _ h2 h3 ⟨.inr (.inr (.inr (.inl rfl))), .inr ⟨_, rfl⟩⟩) (hn _ _ h2 h3))
  (λ h1 h2 h3 => .vals (hφ _ _ h1) (hk _ _ h2 h3 ⟨.inr (.inr (.inr (.inr rfl))), .inr ⟨_, rfl⟩⟩) (hn _ _ h2 h3))
  (λ v => .raw v) .nil (λ _ _ a b => .cons a b) r
section
variable {φ : List Addr} {h : Heap} {vs : List Value} {xs : List PV}
theorem VRs.length (r : VRs φ h vs xs) : vs.length = xs.length := by
 induction r using VRs.ind with
 | nil => rfl
 | cons a b ih => exact congrArg Nat.succ ih
theorem VRs.append {ws : List Value} {ys : List PV} (r : VRs φ h vs xs) (q : VRs φ h ws ys) : VRs φ h (vs ++ ws) (xs ++ ys) := by
 induction r using VRs.ind with
 | nil => exact q
 | cons a b ih => exact .cons a ih
theorem VRs.get (r : VRs φ h vs xs) : ∀ {k : Nat} {x : PV}, xs[k]? = some x -> ∃ v, vs[k]? = some v ∧ VR φ h v x := by
 induction r using VRs.ind with
 | nil => exact λ e => nomatch e
 | cons a b ih => exact λ {k x} e => match k, e with
  | 0, e => ⟨_, rfl, (Option.some.inj e) ▸ a⟩
  | k + 1, e => ih (k := k) e
theorem VRs.take (r : VRs φ h vs xs) : ∀ n, VRs φ h (vs.take n) (xs.take n) := by
 induction r using VRs.ind with
 | nil => exact λ n => by rw [List.take_nil, List.take_nil]; exact .nil
 | cons a b ih => exact λ n => match n with
  | 0 => .nil
  | n + 1 => .cons a (ih n)
theorem VRs.drop (r : VRs φ h vs xs) : ∀ n, VRs φ h (vs.drop n) (xs.drop n) := by
 induction r using VRs.ind with
 | nil => exact λ n => by rw [List.drop_nil, List.drop_nil]; exact .nil
 | cons a b ih => exact λ n => match n with
  | 0 => .cons a b
  | n + 1 => ih n
theorem VRs.set (r : VRs φ h vs xs) : ∀ (k : Nat) {v : Value} {x : PV}, VR φ h v x -> VRs φ h (vs.set k v) (xs.set k x) := by
 induction r using VRs.ind with
 | nil => exact λ _ _ _ _ => .nil
 | cons a b ih => exact λ k {v x} e => match k with
  | 0 => .cons e b
  | k + 1 => .cons a (ih k e)
theorem VRs.eraseIdx (r : VRs φ h vs xs) : ∀ (k : Nat), VRs φ h (vs.eraseIdx k) (xs.eraseIdx k) := by
 induction r using VRs.ind with
 | nil => exact λ _ => .nil
 | cons a b ih => exact λ k => match k with
  | 0 => b
  | k + 1 => .cons a (ih k)
end
set_option genInjectivity false in
structure Cx where
 prog : Program
 w : World
 B : Heap
 os : OsState
 mg : Str -> Option Value
 mb : Str -> Option Value
 K : Frag
inductive DRs (φ : List Addr) (h : Heap) : List (Int × Value) -> List (Int × PV) -> Prop
 | nil : DRs φ h [] []
 | cons {k : Int} {v : Value} {x : PV} {ds : List (Int × Value)} {es : List (Int × PV)} : VR φ h v x -> DRs φ h ds es -> DRs φ h ((k, v) :: ds) ((k, x) :: es)
inductive NRs (φ : List Addr) (h : Heap) : List DictEntry -> List (Str × PV) -> Prop
 | nil : NRs φ h [] []
 | cons {k : Str} {t : Tok} {e : DictEntry} {x : PV} {ds : List DictEntry} {es : List (Str × PV)} : e.key = .str k t -> VR φ h e.val x -> NRs φ h ds es -> NRs φ h (e :: ds) ((k, x) :: es)
inductive ORs (φ : List Addr) (h : Heap) : List (Option Value) -> List (Option PV) -> Prop
 | nil : ORs φ h [] []
 | none {vs : List (Option Value)} {xs : List (Option PV)} : ORs φ h vs xs -> ORs φ h (none :: vs) (none :: xs)
 | some {v : Value} {x : PV} {vs : List (Option Value)} {xs : List (Option PV)} : VR φ h v x -> ORs φ h vs xs -> ORs φ h (some v :: vs) (some x :: xs)
section
variable {φ φ' : List Addr} {h h' : Heap} (hm : ∀ v x, VR φ h v x -> VR φ' h' v x)
include hm
theorem DRs.move {ds : List (Int × Value)} {es : List (Int × PV)} (r : DRs φ h ds es) : DRs φ' h' ds es := by
 induction r with
 | nil => exact .nil
 | cons a _ ih => exact .cons (hm _ _ a) ih
theorem NRs.move {ds : List DictEntry} {es : List (Str × PV)} (r : NRs φ h ds es) : NRs φ' h' ds es := by
 induction r with
 | nil => exact .nil
 | cons k a _ ih => exact .cons k (hm _ _ a) ih
theorem ORs.move {ds : List (Option Value)} {es : List (Option PV)} (r : ORs φ h ds es) : ORs φ' h' ds es := by
 induction r with
 | nil => exact .nil
 | none _ ih => exact .none ih
 | some a _ ih => exact .some (hm _ _ a) ih
theorem VRs.mv {ds : List Value} {es : List PV} (r : VRs φ h ds es) : VRs φ' h' ds es := by
 induction r using VRs.ind with
 | nil => exact .nil
 | cons a _ ih => exact .cons (hm _ _ a) ih
end
inductive OR (c : Cx) (φ : List Addr) (h : Heap) (a : Addr) : MO -> Prop
 | lst {vs : List Value} {n : Nat} {xs : List PV} : h.get? a = some { cls := .type "list", data := .seq vs.toArray n } -> VRs φ h vs xs -> OR c φ h a (.lst xs)
 | dct {kvs : List (Int × Value)} {es : List (Int × PV)} {ep : Nat} : h.DictAt (intKind c.prog c.w) a kvs ep -> DRs φ h kvs es -> OR c φ h a (.dct es ep)
 | set {xs : List Int} : h.SetOf (intKind c.prog c.w) a (λ k => decide (k ∈ xs)) xs.length -> OR c φ h a (.set xs)
 | ins {C : Addr} {d : Nat} {dx : Addr} : φ[d]? = some dx -> h.get? a = some { cls := .ref C, dict := some dx, data := .plain } -> OR c φ h a (.ins C d)
 | ns {ds : List DictEntry} {n : Nat} {fs : List (Str × PV)} : h.get? a = some { cls := .type "dict", data := .dict ds.toArray n } -> NRs φ h ds fs -> OR c φ h a (.ns fs)
 | slt {C : Addr} {d : Nat} {dx : Addr} {sl : List (Option Value)} {fs : List (Option PV)} : φ[d]? = some dx -> h.get? a = some { cls := .ref C, dict := some dx, data := .plain, slots := sl.toArray } -> ORs φ h sl fs -> OR c φ h a (.slt C d fs)
 | itr {l k : Nat} {la : Addr} : φ[l]? = some la -> h.get? a = some { cls := .type "list_iterator", data := .fields #[.ref la, .int k 0] } -> OR c φ h a (.itr l k)
 | dead {o : Obj} : h.get? a = some o -> OR c φ h a .dead
theorem VR.cs {φ : List Addr} {h : Heap} {motive : (v : Value) -> (x : PV) -> VR φ h v x -> Prop} (none : motive .none .none .none) (bool : ∀ b, motive (.bool b) (.bool b) (.bool b)) (int : ∀ i t, motive (.int i t) (.int i) (.int i t)) (str : ∀ x t, motive (.str x t) (.str x) (.str x t))
  (tup : ∀ {a : Addr} {vs : List Value} {n : Nat} {xs : List PV} (h1 : h.get? a = some { cls := .type "tuple", data := .seq vs.toArray n }) (h2 : a ∉ φ) (h3 : VRs φ h vs xs), motive (.ref a) (.tup xs) (.tup h1 h2 h3))
  (lst : ∀ {a : Addr} {vs : List Value} {n : Nat} {xs : List PV} (h1 : h.get? a = some { cls := .type "list", data := .seq vs.toArray n }) (h2 : a ∉ φ) (h3 : VRs φ h vs xs), motive (.ref a) (.lst xs) (.lst h1 h2 h3))
  (rng : ∀ {r : Addr} {a b c : Int} {t u v : Tok} (h1 : IsRange h r a b c t u v) (h2 : r ∉ φ), motive (.ref r) (.rng a b c) (.rng h1 h2))
  (obj : ∀ {i : Nat} {a : Addr} (h1 : φ[i]? = some a), motive (.ref a) (.obj i) (.obj h1))
  (nxt : ∀ {i : Nat} {a m : Addr} (h1 : φ[i]? = some a) (h2 : h.get? m = some { cls := .type "method-wrapper", data := .fields #[.builtin "list_iterator.__next__", .ref a] }) (h3 : m ∉ φ), motive (.ref m) (.nxt i) (.nxt h1 h2 h3))
  (vals : ∀ {i : Nat} {a m : Addr} (h1 : φ[i]? = some a) (h2 : h.get? m = some { cls := .type "dict_values", data := .fields #[.ref a] }) (h3 : m ∉ φ), motive (.ref m) (.vals i) (.vals h1 h2 h3))
  (raw : ∀ v, motive v (.raw v) (.raw v)) {v : Value} {x : PV} (r : VR φ h v x) : motive v x r := by
 cases r with
 | none => exact none
 | bool b => exact bool b
 | int i t => exact int i t
 | str x t => exact str x t
 | tup a b c => exact tup a b c
 | lst a b c => exact lst a b c
 | rng a b => exact rng a b
 | obj a => exact obj a
 | nxt a b c => exact nxt a b c
 | vals a b c => exact vals a b c
 | raw v => exact raw v
theorem OR.cs {c : Cx} {φ : List Addr} {h : Heap} {a : Addr} {motive : (o : MO) -> OR c φ h a o -> Prop}
 (lst : ∀ {vs : List Value} {n : Nat} {xs : List PV} (h1 : h.get? a = some { cls := .type "list", data := .seq vs.toArray n }) (h2 : VRs φ h vs xs), motive (.lst xs) (.lst h1 h2))
 (dct : ∀ {kvs : List (Int × Value)} {es : List (Int × PV)} {ep : Nat} (h1 : h.DictAt (intKind c.prog c.w) a kvs ep) (h2 : DRs φ h kvs es), motive (.dct es ep) (.dct h1 h2))
 (set : ∀ {xs : List Int} (h1 : h.SetOf (intKind c.prog c.w) a (λ k => decide (k ∈ xs)) xs.length), motive (.set xs) (.set h1))
 (ins : ∀ {C : Addr} {d : Nat} {dx : Addr} (h1 : φ[d]? = some dx) (h2 : h.get? a = some { cls := .ref C, dict := some dx, data := .plain }), motive (.ins C d) (.ins h1 h2))
 (ns : ∀ {ds : List DictEntry} {n : Nat} {fs : List (Str × PV)} (h1 : h.get? a = some { cls := .type "dict", data := .dict ds.toArray n }) (h2 : NRs φ h ds fs), motive (.ns fs) (.ns h1 h2))
 (slt : ∀ {C : Addr} {d : Nat} {dx : Addr} {sl : List (Option Value)} {fs : List (Option PV)} (h1 : φ[d]? = some dx) (h2 : h.get? a = some { cls := .ref C, dict := some dx, data := .plain, slots := sl.toArray }) (h3 : ORs φ h sl fs), motive (.slt C d fs) (.slt h1 h2 h3))
 (itr : ∀ {l k : Nat} {la : Addr} (h1 : φ[l]? = some la) (h2 : h.get? a = some { cls := .type "list_iterator", data := .fields #[.ref la, .int k 0] }), motive (.itr l k) (.itr h1 h2))
 (dead : ∀ {o : Obj} (h1 : h.get? a = some o), motive .dead (.dead h1)) {o : MO} (r : OR c φ h a o) : motive o r := by
 cases r with
 | lst a b => exact lst a b
 | dct a b => exact dct a b
 | set a => exact set a
 | ins a b => exact ins a b
 | ns a b => exact ns a b
 | slt a b c => exact slt a b c
 | itr a b => exact itr a b
 | dead a => exact dead a
theorem VRs.cs {φ : List Addr} {h : Heap} {motive : (vs : List Value) -> (xs : List PV) -> VRs φ h vs xs -> Prop} (nil : motive [] [] .nil)
  (cons : ∀ {v : Value} {vs : List Value} {x : PV} {xs : List PV} (a : VR φ h v x) (b : VRs φ h vs xs), motive (v :: vs) (x :: xs) (.cons a b)) {vs : List Value} {xs : List PV} (r : VRs φ h vs xs) : motive vs xs r :=
 VRs.ind nil (λ a b _ => cons a b) r
theorem VR.int_inv {φ : List Addr} {h : Heap} {v : Value} {x : PV} (r : VR φ h v x) : ∀ {i : Int}, x = .int i -> ∃ t, v = Value.int i t := by
 induction r using VR.cs with
 | int => intro i e; cases e; exact ⟨_, rfl⟩
 | _ => intro i e; cases e
theorem VRs.un {φ : List Addr} {h : Heap} {vs : List Value} {ys : List PV} (r : VRs φ h vs ys) : ∀ {x : PV} {xs : List PV}, ys = x :: xs -> ∃ v ws, vs = v :: ws ∧ VR φ h v x ∧ VRs φ h ws xs := by
 induction r using VRs.ind with
 | nil => intro x xs e; cases e
 | cons a b => intro x xs e; cases e; exact ⟨_, _, rfl, a, b⟩
theorem VRs.un0 {φ : List Addr} {h : Heap} {vs : List Value} {ys : List PV} (r : VRs φ h vs ys) : ys = [] -> vs = [] := by
 induction r using VRs.ind with
 | nil => exact λ _ => rfl
 | cons => exact λ e => nomatch e
theorem VRs.one {φ : List Addr} {h : Heap} {vs : List Value} {x : PV} (r : VRs φ h vs [x]) : ∃ v, vs = [v] ∧ VR φ h v x := by
 obtain ⟨v, ws, rfl, a, b⟩ := r.un rfl
 rw [b.un0 rfl]; exact ⟨v, rfl, a⟩
theorem VRs.ints1 {φ : List Addr} {h : Heap} {vs : List Value} {a : Int} (r : VRs φ h vs [.int a]) : ∃ t, vs = [.int a t] := by
 obtain ⟨v, rfl, q⟩ := r.one
 obtain ⟨t, rfl⟩ := q.int_inv rfl
 exact ⟨t, rfl⟩
theorem VRs.ints2 {φ : List Addr} {h : Heap} {vs : List Value} {a b : Int} (r : VRs φ h vs [.int a, .int b]) : ∃ t u, vs = [.int a t, .int b u] := by
 obtain ⟨v, ws, rfl, q, r'⟩ := r.un rfl
 obtain ⟨t, rfl⟩ := q.int_inv rfl
 obtain ⟨u, rfl⟩ := r'.ints1
 exact ⟨t, u, rfl⟩
theorem VRs.ints3 {φ : List Addr} {h : Heap} {vs : List Value} {a b c : Int} (r : VRs φ h vs [.int a, .int b, .int c]) : ∃ t u v, vs = [.int a t, .int b u, .int c v] := by
 obtain ⟨v, ws, rfl, q, r'⟩ := r.un rfl
 obtain ⟨t, rfl⟩ := q.int_inv rfl
 obtain ⟨u, w, rfl⟩ := r'.ints2
 exact ⟨t, u, w, rfl⟩
section
variable {c : Cx} {φ : List Addr} {h : Heap} {a : Addr} {v : Value} {x : PV} {o : MO}
theorem VR.inv_tup (r : VR φ h v x) : ∀ {a xs}, v = .ref a -> x = .tup xs -> ∃ vs n, h.get? a = some { cls := .type "tuple", data := .seq (List.toArray vs) n } ∧ a ∉ φ ∧ VRs φ h vs xs := by
 induction r using VR.cs with
 | tup h1 h2 h3 => intro a xs e1 e2; cases e1; cases e2; exact ⟨_, _, h1, h2, h3⟩
 | _ => intro a xs e1 e2; cases e2
theorem VR.un_lst (r : VR φ h v x) : ∀ {xs}, x = .lst xs -> ∃ a vs n, v = .ref a ∧ h.get? a = some { cls := .type "list", data := .seq (List.toArray vs) n } ∧ a ∉ φ ∧ VRs φ h vs xs := by
 induction r using VR.cs with
 | lst h1 h2 h3 => intro xs e; cases e; exact ⟨_, _, _, rfl, h1, h2, h3⟩
 | _ => intro xs e; cases e
theorem VR.inv_lst (r : VR φ h v x) {a : Addr} {xs : List PV} (e1 : v = .ref a) (e2 : x = .lst xs) : ∃ vs n, h.get? a = some { cls := .type "list", data := .seq (List.toArray vs) n } ∧ a ∉ φ ∧ VRs φ h vs xs := by
 obtain ⟨a', vs, n, e, q⟩ := r.un_lst e2
 cases e1.symm.trans e
 exact ⟨vs, n, q⟩
theorem VR.un_obj (r : VR φ h v x) : ∀ {i}, x = .obj i -> ∃ a, v = .ref a ∧ φ[i]? = some a := by
 induction r using VR.cs with
 | obj h1 => intro i e; cases e; exact ⟨_, rfl, h1⟩
 | _ => intro i e; cases e
theorem VR.inv_obj (r : VR φ h v x) {a : Addr} {i : Nat} (e1 : v = .ref a) (e2 : x = .obj i) : φ[i]? = some a := by
 obtain ⟨a', e, q⟩ := r.un_obj e2
 cases e1.symm.trans e
 exact q
theorem OR.inv_set (r : OR c φ h a o) : ∀ {xs}, o = .set xs -> h.SetOf (intKind c.prog c.w) a (λ k => decide (k ∈ xs)) xs.length := by
 induction r using OR.cs with
 | set h1 => intro xs e; cases e; exact h1
 | _ => intro xs e; cases e
theorem OR.inv_ins (r : OR c φ h a o) : ∀ {C d}, o = .ins C d -> ∃ dx, φ[d]? = some dx ∧ h.get? a = some { cls := .ref C, dict := some dx, data := .plain } := by
 induction r using OR.cs with
 | ins h1 h2 => intro C d e; cases e; exact ⟨_, h1, h2⟩
 | _ => intro C d e; cases e
theorem OR.inv_ns (r : OR c φ h a o) : ∀ {fs}, o = .ns fs -> ∃ ds n, h.get? a = some { cls := .type "dict", data := .dict (List.toArray ds) n } ∧ NRs φ h ds fs := by
 induction r using OR.cs with
 | ns h1 h2 => intro fs e; cases e; exact ⟨_, _, h1, h2⟩
 | _ => intro fs e; cases e
theorem OR.inv_lst (r : OR c φ h a o) : ∀ {xs}, o = .lst xs -> ∃ vs n, h.get? a = some { cls := .type "list", data := .seq (List.toArray vs) n } ∧ VRs φ h vs xs := by
 induction r using OR.cs with
 | lst h1 h2 => intro xs e; cases e; exact ⟨_, _, h1, h2⟩
 | _ => intro xs e; cases e
theorem OR.inv_dct (r : OR c φ h a o) : ∀ {es ep}, o = .dct es ep -> ∃ kvs, h.DictAt (intKind c.prog c.w) a kvs ep ∧ DRs φ h kvs es := by
 induction r using OR.cs with
 | dct h1 h2 => intro es ep e; cases e; exact ⟨_, h1, h2⟩
 | _ => intro es ep e; cases e
end
theorem OR.get {c : Cx} {φ : List Addr} {h : Heap} {a : Addr} {o : MO} (r : OR c φ h a o) : ∃ ob, h.get? a = some ob := by
 cases r with
 | dct h1 _ => obtain ⟨o, _, h, _⟩ := h1; exact ⟨o, h⟩
 | set h1 => obtain ⟨o, _, _, _, h, _⟩ := h1; exact ⟨o, h⟩
 | lst h1 _ => exact ⟨_, h1⟩
 | ins _ h1 => exact ⟨_, h1⟩
 | ns h1 _ => exact ⟨_, h1⟩
 | slt _ h1 _ => exact ⟨_, h1⟩
 | itr _ h1 => exact ⟨_, h1⟩
 | dead h1 => exact ⟨_, h1⟩
theorem OR.move {c : Cx} {φ φ' : List Addr} {h h' : Heap} {a : Addr} {o : MO} (hφ : ∀ (i : Nat) (b : Addr), φ[i]? = some b -> φ'[i]? = some b) (hm : ∀ v x, VR φ h v x -> VR φ' h' v x) (he : h'.get? a = h.get? a)
  (r : OR c φ h a o) : OR c φ' h' a o := by
 cases r with
 | lst h1 h2 => exact .lst (he.trans h1) (h2.mv hm)
 | dct h1 h2 => obtain ⟨o, es, ho, r⟩ := h1; exact .dct ⟨o, es, he.trans ho, r⟩ (h2.move hm)
 | set h1 => obtain ⟨o, es, ep, t, ho, r⟩ := h1; exact .set ⟨o, es, ep, t, he.trans ho, r⟩
 | ins h1 h2 => exact .ins (hφ _ _ h1) (he.trans h2)
 | ns h1 h2 => exact .ns (he.trans h1) (h2.move hm)
 | slt h0 h1 h2 => exact .slt (hφ _ _ h0) (he.trans h1) (h2.move hm)
 | itr h1 h2 => exact .itr (hφ _ _ h1) (he.trans h2)
 | dead h1 => exact .dead (he.trans h1)
inductive Loc where
 | loc (L : Addr) (x : Str)
 | cell (a : Addr)
 deriving DecidableEq
set_option genInjectivity false in
structure Fx where
 env : Env
 locs : List Loc
 nss : List Addr
 cls : List Addr
 frames : List Env
 lv : Nat
 hd : Bool
structure CxOk (c : Cx) : Prop where
 kin : c.K.In c.B
 glob : c.B.Ns mainGlobals c.mg
 bui : c.B.Ns builtinsNs c.mb
 nolimit : c.B.NoLimit
 boot : ∀ x : Str, x ≠ "__name__" -> c.mb x = bootBuiltins x
structure Rep (c : Cx) (F : Fx) (φ : List Addr) (μ : St) (s : Shared) : Prop where
 ok : CxOk c
 keep : c.B.StaysIn s.heap
 os : s.os = c.os
 gens : s.gens = #[]
 len : φ.length = μ.hp.length
 nodup : φ.Nodup
 phiB : ∀ a ∈ φ, c.B.get? a = none ∧ (a == sysModules) = false
 objs : ∀ (i : Nat) (a : Addr) (o : MO), φ[i]? = some a -> μ.hp[i]? = some o -> OR c φ s.heap a o
 flen : μ.fr.length = F.locs.length
 lnodup : F.locs.Nodup
 nss : ∀ L ∈ F.nss, L ∉ φ ∧ c.B.get? L = none ∧ ∃ m, s.heap.Ns L m
 cls : ∀ a ∈ F.cls, a ∉ φ ∧ c.B.get? a = none ∧ ∃ v, s.heap.IsCell a v
 vloc : ∀ (k : Nat) (L : Addr) (x : Str), F.locs[k]? = some (.loc L x) -> L ∈ F.nss ∧ ∀ pv, μ.fr[k]? = some pv -> pv ≠ .undef -> ∃ m v, s.heap.Ns L m ∧ m x = some v ∧ VR φ s.heap v pv
 vcell : ∀ (k : Nat) (a : Addr), F.locs[k]? = some (.cell a) -> a ∈ F.cls ∧ ∀ pv, μ.fr[k]? = some pv -> pv ≠ .undef -> ∃ v, s.heap.IsCell a (some v) ∧ VR φ s.heap v pv
 frm : ∀ env ∈ F.frames, env.scope.kind ≠ .module ∧ ∃ L, env.frame = some L ∧ L ∉ φ ∧ c.B.get? L = none ∧ ∃ o es ep, s.heap.get? L = some o ∧ o.data = .dict es ep
structure Rest (c : Cx) (F : Fx) (φ : List Addr) (fr : List PV) (h : Heap) : Prop where
 nss : ∀ L ∈ F.nss, L ∉ φ ∧ c.B.get? L = none ∧ ∃ m, h.Ns L m
 cls : ∀ a ∈ F.cls, a ∉ φ ∧ c.B.get? a = none ∧ ∃ v, h.IsCell a v
 vloc : ∀ (k : Nat) (L : Addr) (x : Str), F.locs[k]? = some (.loc L x) -> L ∈ F.nss ∧ ∀ pv, fr[k]? = some pv -> pv ≠ .undef -> ∃ m v, h.Ns L m ∧ m x = some v ∧ VR φ h v pv
 vcell : ∀ (k : Nat) (a : Addr), F.locs[k]? = some (.cell a) -> a ∈ F.cls ∧ ∀ pv, fr[k]? = some pv -> pv ≠ .undef -> ∃ v, h.IsCell a (some v) ∧ VR φ h v pv
 frm : ∀ env ∈ F.frames, env.scope.kind ≠ .module ∧ ∃ L, env.frame = some L ∧ L ∉ φ ∧ c.B.get? L = none ∧ ∃ o es ep, h.get? L = some o ∧ o.data = .dict es ep
theorem Rep.rest {c : Cx} {F : Fx} {φ φ' : List Addr} {μ : St} {s : Shared} {h' : Heap} (R : Rep c F φ μ s) (nin : ∀ a o, s.heap.get? a = some o -> a ∉ φ -> a ∉ φ')
  (sl : ∀ a o, s.heap.get? a = some o -> a ∉ φ -> (∀ vs, o.data ≠ .fields vs) -> ∃ sl, h'.get? a = some { o with slots := sl }) (mv : ∀ v x, VR φ s.heap v x -> VR φ' h' v x) : Rest c F φ' μ.fr h' := by
 have ns : ∀ {L m}, L ∉ φ -> s.heap.Ns L m -> h'.Ns L m := λ {L m} hn ⟨o, es, ep, ho, hd, r⟩ => by
  obtain ⟨q, hq⟩ := sl L o ho hn (λ vs e => by rw [hd] at e; cases e)
  exact ⟨_, es, ep, hq, hd, r⟩
 have cl : ∀ {a v}, a ∉ φ -> s.heap.IsCell a v -> h'.IsCell a v := λ {a v} hn ⟨o, ho, hd⟩ => by
  obtain ⟨q, hq⟩ := sl a o ho hn (λ vs e => by rw [hd] at e; cases e)
  exact ⟨_, hq, hd⟩
 refine ⟨λ L hL => ?_, λ a ha => ?_, λ k L x hk => ⟨(R.vloc k L x hk).1, λ pv hp hu => ?_⟩, λ k a hk => ⟨(R.vcell k a hk).1, λ pv hp hu => ?_⟩, λ env he => ?_⟩
 ·obtain ⟨h1, h2, m, hm⟩ := R.nss L hL
  have hm' := hm
  obtain ⟨o, _, _, ho, _⟩ := hm'
  exact ⟨nin L o ho h1, h2, m, ns h1 hm⟩
 ·obtain ⟨h1, h2, v, hv⟩ := R.cls a ha
  have hv' := hv
  obtain ⟨o, ho, _⟩ := hv'
  exact ⟨nin a o ho h1, h2, v, cl h1 hv⟩
 ·obtain ⟨hL, h2⟩ := R.vloc k L x hk
  obtain ⟨m, v, hm, hx, hv⟩ := h2 pv hp hu
  exact ⟨m, v, ns (R.nss L hL).1 hm, hx, mv _ _ hv⟩
 ·obtain ⟨ha, h2⟩ := R.vcell k a hk
  obtain ⟨v, hv, hr⟩ := h2 pv hp hu
  exact ⟨v, cl (R.cls a ha).1 hv, mv _ _ hr⟩
 ·obtain ⟨h1, L, h2, h3, h4, o, es, ep, ho, hd⟩ := R.frm env he
  obtain ⟨q, hq⟩ := sl L o ho h3 (λ vs e => by rw [hd] at e; cases e)
  exact ⟨h1, L, h2, nin L o ho h3, h4, _, es, ep, hq, hd⟩
theorem Rep.lt {c : Cx} {F : Fx} {φ : List Addr} {μ : St} {s : Shared} (R : Rep c F φ μ s) {a : Addr} (h : a ∈ φ) : ∃ o, s.heap.get? a = some o := by
 obtain ⟨i, hi⟩ := List.getElem?_of_mem h
 have hl : i < μ.hp.length := by rw [<- R.len]; exact (Qgl hi)
 exact (R.objs i a _ hi (List.getElem?_eq_getElem hl)).get
theorem Rep.notSys {c : Cx} {F : Fx} {φ : List Addr} {μ : St} {s : Shared} (R : Rep c F φ μ s) {a : Addr} (h : a ∈ φ) : (a == sysModules) = false := (R.phiB a h).2
theorem Rep.phiLt {c : Cx} {F : Fx} {φ : List Addr} {μ : St} {s : Shared} (R : Rep c F φ μ s) {a : Addr} (h : a ∈ φ) : a < s.heap.objs.size := by
 obtain ⟨o, ho⟩ := R.lt h
 exact Heap.lt_size ho
theorem Ext0.refl {nss cls φ : List Addr} {h : Heap} : Ext0 nss cls φ h φ h := ⟨⟨[], by simp, by simp⟩, Qr, λ _ _ e _ _ _ => .inl e⟩
theorem Ext0.idx {nss cls φ φ' : List Addr} {h h' : Heap} (e : Ext0 nss cls φ h φ' h') (i : Nat) (a : Addr) (hi : φ[i]? = some a) : φ'[i]? = some a := by
 obtain ⟨⟨ψ, rfl, _⟩, _, _⟩ := e
 exact getElem?_app hi
theorem Ext0.nin {nss cls φ φ' : List Addr} {h h' : Heap} (e : Ext0 nss cls φ h φ' h') {a : Addr} {o : Obj} (ho : h.get? a = some o) (hn : a ∉ φ) : a ∉ φ' := by
 obtain ⟨⟨ψ, rfl, hψ⟩, _, _⟩ := e
 intro hm
 rcases Qma hm with hm | hm
 ·exact hn hm
 ·exact absurd (Heap.lt_size ho) (Nat.not_lt_of_le (hψ _ hm))
theorem Ext0.trans {nss cls φ φ' φ'' : List Addr} {h h' h'' : Heap} (e : Ext0 nss cls φ h φ' h') (e' : Ext0 nss cls φ' h' φ'' h'') : Ext0 nss cls φ h φ'' h'' := by
 refine ⟨?_, Nat.le_trans e.size e'.size, λ a o ho h1 h2 h3 => ?_⟩
 ·obtain ⟨ψ, hψ, b1⟩ := e.grow
  obtain ⟨ψ', hψ', b2⟩ := e'.grow
  refine ⟨ψ ++ ψ', by rw [hψ', hψ, append_assoc], λ b hb => ?_⟩
  rcases Qma hb with hb | hb
  ·exact b1 b hb
  ·exact Nat.le_trans e.size (b2 b hb)
 ·have hn := e.nin ho h1
  rcases e.old a o ho h1 h2 h3 with k | ⟨kc, sl, k⟩
  ·exact e'.old a o k hn h2 h3
  ·rcases e'.old a _ k hn h2 h3 with k' | ⟨_, sl', k'⟩
   ·exact .inr ⟨kc, sl, k'⟩
   ·exact .inr ⟨kc, sl', k'⟩
theorem Rep.notOwn {c : Cx} {F : Fx} {φ : List Addr} {μ : St} {s : Shared} (R : Rep c F φ μ s) {a : Addr} {o : Obj} (ho : s.heap.get? a = some o) (hd : (∃ vs n, o.data = .seq vs n) ∨ (∃ vs, o.data = .fields vs)) : a ∉ F.nss ∧ a ∉ F.cls := by
 constructor
 ·intro hm
  obtain ⟨_, _, m, o', es, ep, h1, h2, _⟩ := R.nss a hm
  rw [ho] at h1; cases h1
  rcases hd with ⟨_, _, e⟩ | ⟨_, e⟩ <;> rw [h2] at e <;> cases e
 ·intro hm
  obtain ⟨_, _, v, o', h1, h2⟩ := R.cls a hm
  rw [ho] at h1; cases h1
  rcases hd with ⟨_, _, e⟩ | ⟨_, e⟩ <;> rw [h2] at e <;> cases e
theorem VR.ext0 {c : Cx} {F : Fx} {φ φ' : List Addr} {μ : St} {s : Shared} {h' : Heap} (R : Rep c F φ μ s) (e : Ext0 F.nss F.cls φ s.heap φ' h') {v : Value} {x : PV} (r : VR φ s.heap v x) : VR φ' h' v x := by
 refine r.move e.idx (λ a o ho hn => e.nin ho hn) λ a o ho hn hd => ?_
 have q := R.notOwn ho hd.2
 rcases e.old a o ho hn q.1 q.2 with k | ⟨k, _⟩
 ·exact k
 ·exact absurd k hd.notFrame
theorem VRs.ext0 {c : Cx} {F : Fx} {φ φ' : List Addr} {μ : St} {s : Shared} {h' : Heap} (R : Rep c F φ μ s) (e : Ext0 F.nss F.cls φ s.heap φ' h') {v : List Value} {x : List PV} (r : VRs φ s.heap v x) : VRs φ' h' v x :=
 r.mv λ _ _ q => q.ext0 R e
noncomputable def dom (h : Heap) : Addr -> Prop := λ a => ∃ o, h.get? a = some o
structure Ext (nss cls : List Addr) (φ : List Addr) (h : Heap) (φ' : List Addr) (h' : Heap) : Prop extends Ext0 nss cls φ h φ' h' where
 dom : ∀ a, Mine.dom h a -> Mine.dom h' a
theorem Ext.refl {nss cls φ : List Addr} {h : Heap} : Ext nss cls φ h φ h := ⟨Ext0.refl, λ _ x => x⟩
theorem Ext.idx {nss cls φ φ' : List Addr} {h h' : Heap} (e : Ext nss cls φ h φ' h') (i : Nat) (a : Addr) (hi : φ[i]? = some a) : φ'[i]? = some a := e.toExt0.idx i a hi
theorem Ext.nin {nss cls φ φ' : List Addr} {h h' : Heap} (e : Ext nss cls φ h φ' h') {a : Addr} {o : Obj} (ho : h.get? a = some o) (hn : a ∉ φ) : a ∉ φ' := e.toExt0.nin ho hn
theorem Ext.trans {nss cls φ φ' φ'' : List Addr} {h h' h'' : Heap} (e : Ext nss cls φ h φ' h') (e' : Ext nss cls φ' h' φ'' h'') : Ext nss cls φ h φ'' h'' := ⟨e.toExt0.trans e'.toExt0, λ a x => e'.dom a (e.dom a x)⟩
theorem VR.ext {c : Cx} {F : Fx} {φ φ' : List Addr} {μ : St} {s : Shared} {h' : Heap} (R : Rep c F φ μ s) (e : Ext F.nss F.cls φ s.heap φ' h') {v : Value} {x : PV} (r : VR φ s.heap v x) : VR φ' h' v x := r.ext0 R e.toExt0
theorem VRs.ext {c : Cx} {F : Fx} {φ φ' : List Addr} {μ : St} {s : Shared} {h' : Heap} (R : Rep c F φ μ s) (e : Ext F.nss F.cls φ s.heap φ' h') {v : List Value} {x : List PV} (r : VRs φ s.heap v x) : VRs φ' h' v x := r.ext0 R e.toExt0

section
variable {c : Cx} {F : Fx} {φ φ' : List Addr} {μ : St} {s : Shared}
theorem Rep.mut (R : Rep c F φ μ s) {ψ : List Addr} {h' : Heap} {hp' : List MO} {tk : Nat} (hψ : ∀ b ∈ ψ, s.heap.objs.size <= b) (hψn : ψ.Nodup) (size : s.heap.objs.size <= h'.objs.size)
  (stay : ∀ a o, s.heap.get? a = some o -> a ∉ φ -> h'.get? a = some o) (len : (φ ++ ψ).length = hp'.length)
  (objs : (∀ v x, VR φ s.heap v x -> VR (φ ++ ψ) h' v x) -> ∀ (i : Nat) (a : Addr) (o : MO), (φ ++ ψ)[i]? = some a -> hp'[i]? = some o -> OR c (φ ++ ψ) h' a o) :
  Rep c F (φ ++ ψ) { fr := μ.fr, hp := hp' } { s with heap := h', toks := tk } ∧ Ext F.nss F.cls φ s.heap (φ ++ ψ) h' := by
 have e : Ext0 F.nss F.cls φ s.heap (φ ++ ψ) h' := ⟨⟨ψ, rfl, hψ⟩, size, λ a o ho h1 _ _ => .inl (stay a o ho h1)⟩
 have hm : ∀ v x, VR φ s.heap v x -> VR (φ ++ ψ) h' v x := λ v x r => r.ext0 R e
 have hdom : ∀ a, dom s.heap a -> dom h' a := λ a ⟨o, ho⟩ => by
  by_cases hm' : a ∈ φ
  ·obtain ⟨i, hi⟩ := List.getElem?_of_mem (mem_append_left ψ hm')
   have hl : i < hp'.length := by rw [<- len]; exact (Qgl hi)
   exact (objs hm i a _ hi (List.getElem?_eq_getElem hl)).get
  ·exact ⟨o, stay a o ho hm'⟩
 have low : sysModules < s.heap.objs.size := modules_low (R.ok.nolimit.keeps R.keep)
 have fresh0 : ∀ b ∈ ψ, c.B.get? b = none := λ b hb => by
  cases q : c.B.get? b with
  | none => rfl
  | some o => exact absurd (Heap.lt_size (R.keep b o q)) (Nat.not_lt_of_le (hψ b hb))
 have fresh : ∀ b ∈ ψ, c.B.get? b = none ∧ (b == sysModules) = false := λ b hb => ⟨fresh0 b hb, beq_eq_false_iff_ne.mpr λ e => absurd (hψ b hb) (Nat.not_le.mpr (by rw [e]; exact low))⟩
 have notin : ∀ a o, s.heap.get? a = some o -> a ∉ φ -> a ∉ φ ++ ψ := λ a o ho hn => e.nin ho hn
 have rest : Rest c F (φ ++ ψ) μ.fr h' := R.rest notin (λ a o ho hn _ => ⟨o.slots, stay a o ho hn⟩) hm
 refine ⟨⟨R.ok, λ b o hb => ?_, R.os, R.gens, len, ?_, ?_, objs hm, R.flen, R.lnodup, rest.nss, rest.cls, rest.vloc, rest.vcell, rest.frm⟩, ⟨e, hdom⟩⟩
 ·exact stay b o (R.keep b o hb) λ hm => by rw [(R.phiB b hm).1] at hb; cases hb
 ·refine nodup_append.mpr ⟨R.nodup, hψn, λ a ha b hb hab => ?_⟩
  subst hab
  exact absurd (R.phiLt ha) (Nat.not_lt_of_le (hψ _ hb))
 ·intro a ha
  rcases Qma ha with ha | ha
  ·exact R.phiB a ha
  ·exact fresh a ha
theorem Rep.toks (R : Rep c F φ μ s) (tk : Nat) : Rep c F φ μ { s with toks := tk } :=
 ⟨R.ok, R.keep, R.os, R.gens, R.len, R.nodup, R.phiB, R.objs, R.flen, R.lnodup, R.nss, R.cls, R.vloc, R.vcell, R.frm⟩
theorem Rep.still (R : Rep c F φ μ s) {h' : Heap} {tk : Nat} (size : s.heap.objs.size <= h'.objs.size) (stay : ∀ a o, s.heap.get? a = some o -> h'.get? a = some o) :
  Rep c F φ μ { s with heap := h', toks := tk } ∧ Ext F.nss F.cls φ s.heap φ h' := by
 have q := R.mut (ψ := []) (h' := h') (hp' := μ.hp) (tk := tk) (by simp) (by simp) size (λ a o h _ => stay a o h) (by simpa using R.len) (λ hm i a o h1 h2 => by
  rw [append_nil] at h1 hm ⊢
  obtain ⟨ob, hob⟩ := R.lt (mem_of_getElem? h1)
  exact (R.objs i a o h1 h2).move (λ _ _ e => e) hm ((stay _ _ hob).trans hob.symm))
 rw [append_nil] at q
 exact q
theorem Rep.push (R : Rep c F φ μ s) (o : Obj) {tk : Nat} : Rep c F φ μ { s with heap := s.heap.push o, toks := tk } ∧ Ext F.nss F.cls φ s.heap φ (s.heap.push o) :=
 R.still (by rw [Heap.size_push]; exact Nat.le_succ _) λ a o' e => Heap.get?_push_of_some _ e
theorem Rep.upd (R : Rep c F φ μ s) {i : Nat} {a : Addr} {h' : Heap} {o : MO} {tk : Nat} (hi : φ[i]? = some a) (hs : Heap.SameBut a s.heap h') (ho : (∀ v x, VR φ s.heap v x -> VR φ h' v x) -> OR c φ h' a o) :
  Rep c F φ { fr := μ.fr, hp := μ.hp.set i o } { s with heap := h', toks := tk } ∧ Ext F.nss F.cls φ s.heap φ h' := by
 have q := R.mut (ψ := []) (h' := h') (hp' := μ.hp.set i o) (tk := tk) (by simp) (by simp) (Nat.le_of_eq hs.1.symm)
  (λ b o' h hn => (hs.2 b λ e => hn (e ▸ mem_of_getElem? hi)).trans h) (by simpa using R.len) (λ hm j b o' h1 h2 => by
   rw [append_nil] at h1 hm ⊢
   by_cases hj : j = i
   ·subst hj
    rw [hi] at h1; cases h1
    have hl : j < μ.hp.length := by rw [<- R.len]; exact (Qgl hi)
    rw [List.getElem?_set_self hl] at h2; cases h2
    exact ho hm
   ·rw [List.getElem?_set_ne (Ne.symm hj)] at h2
    refine (R.objs j b o' h1 h2).move (λ _ _ e => e) hm (hs.2 b λ e => hj ?_)
    subst e
    obtain ⟨l1, e1⟩ := Qgs h1
    obtain ⟨l2, e2⟩ := Qgs hi
    exact (getElem_inj R.nodup).mp (e1.trans e2.symm))
 rw [append_nil] at q
 exact q
theorem Rep.alloc (R : Rep c F φ μ s) {ob : Obj} {o : MO} {tk : Nat} (hf : ob.isFreed = false)
  (ho : (s.heap.push ob).get? s.heap.objs.size = some ob -> (φ ++ [s.heap.objs.size])[μ.hp.length]? = some s.heap.objs.size -> (∀ v x, VR φ s.heap v x -> VR (φ ++ [s.heap.objs.size]) (s.heap.push ob) v x) -> OR c (φ ++ [s.heap.objs.size]) (s.heap.push ob) s.heap.objs.size o) :
  Rep c F (φ ++ [s.heap.objs.size]) { fr := μ.fr, hp := μ.hp ++ [o] } { s with heap := s.heap.push ob, toks := tk } ∧ Ext F.nss F.cls φ s.heap (φ ++ [s.heap.objs.size]) (s.heap.push ob) := by
 have hself : (φ ++ [s.heap.objs.size])[μ.hp.length]? = some s.heap.objs.size := by rw [<- R.len]; simp
 refine R.mut (ψ := [s.heap.objs.size]) (by simp) (by simp) (by rw [Heap.size_push]; exact Nat.le_succ _) (λ a o' e _ => Heap.get?_push_of_some _ e) (by simp [R.len]) (λ hm i a o' h1 h2 => ?_)
 by_cases hi : i < φ.length
 ·rw [List.getElem?_append_left hi] at h1
  rw [List.getElem?_append_left (by rw [<- R.len]; exact hi)] at h2
  obtain ⟨ob', hob⟩ := R.lt (mem_of_getElem? h1)
  exact (R.objs i a o' h1 h2).move (λ _ _ e => getElem?_app e) hm ((Heap.get?_push_of_some _ hob).trans hob.symm)
 ·have hi' : i = φ.length := by
   have := (Qgl h1)
   simp at this; lia
  subst hi'
  rw [R.len] at h1 h2
  rw [hself] at h1; cases h1
  simp at h2; subst h2
  exact ho (Heap.get?_push_size _ hf) hself hm
end
inductive MF where
 | next
 | brk
 | cont
 | ret (x : PV)
inductive FR (φ : List Addr) (h : Heap) : Flow -> MF -> Prop
 | next : FR φ h .next .next
 | brk : FR φ h .brk .brk
 | cont : FR φ h .cont .cont
 | ret {v : Value} {x : PV} : VR φ h v x -> FR φ h (.ret v) (.ret x)
theorem FR.cs {φ : List Addr} {h : Heap} {motive : (f : Flow) -> (m : MF) -> FR φ h f m -> Prop} (next : motive .next .next .next) (brk : motive .brk .brk .brk) (cont : motive .cont .cont .cont)
  (ret : ∀ {v : Value} {x : PV} (r : VR φ h v x), motive (.ret v) (.ret x) (.ret r)) {f : Flow} {m : MF} (r : FR φ h f m) : motive f m r := by
 cases r with
 | next => exact next
 | brk => exact brk
 | cont => exact cont
 | ret r => exact ret r
structure ACtx (F : Fx) (A : Around) : Prop where
 handled : F.hd = true -> A.handled = none
 frames : A.frames = some F.frames
 guards : A.guards = some []
 depth : A.depth + 10 * F.lv <= 900
 units : A.units + 100 * F.lv <= 9000
structure ExcR (c : Cx) (D : Addr -> Prop) (φ : List Addr) (h : Heap) (e x : Value) : Prop where
 there : ∃ (ea : Addr) (oe : Obj) (vs : Array Value), e = .ref ea ∧ h.get? ea = some oe ∧ oe.cls = x ∧ ¬ FzO oe ∧ oe.data = .fields vs ∧ 5 <= vs.size ∧ ea ∉ φ ∧ c.B.get? ea = none ∧ ¬ D ea ∧
  (vs[1]? = some .none ∨ ∃ (T : Addr) (oT : Obj) (ts : Array Value), vs[1]? = some (.ref T) ∧ T ≠ ea ∧ T ∉ φ ∧ c.B.get? T = none ∧ ¬ D T ∧ h.get? T = some oT ∧ oT.cls = .type "traceback" ∧ oT.data = .fields ts ∧ 3 < ts.size)
theorem ExcR.le {c : Cx} {D D' : Addr -> Prop} {φ : List Addr} {h : Heap} {e x : Value} (r : ExcR c D φ h e x) (hm : ∀ a, D' a -> D a) : ExcR c D' φ h e x := by
 obtain ⟨ea, oe, vs, h1, h2, h3, h4, h5, h6, h7, h8, h9, h10⟩ := r.there
 refine ⟨ea, oe, vs, h1, h2, h3, h4, h5, h6, h7, h8, λ q => h9 (hm _ q), ?_⟩
 rcases h10 with h | ⟨T, oT, ts, a1, a2, a3, a4, a5, a6⟩
 ·exact .inl h
 ·exact .inr ⟨T, oT, ts, a1, a2, a3, a4, λ q => a5 (hm _ q), a6⟩
def OkK (c : Cx) (F : Fx) {α β : Type} (RR : List Addr -> Heap -> α -> β -> Prop) (φ : List Addr) (s : Shared) (Q : α -> Shared -> Prop) (o : Out β) : Prop :=
 ∀ a b φ' μ' s', o = .ok b μ' -> Rep c F φ' μ' s' -> Ext F.nss F.cls φ s.heap φ' s'.heap -> RR φ' s'.heap a b -> Q a s'
def ExK (c : Cx) (F : Fx) {β : Type} (φ : List Addr) (s : Shared) (E : Value -> Shared -> Prop) (o : Out β) : Prop :=
 ∀ e x φ' μ' s', o = .exc x μ' -> Rep c F φ' μ' s' -> Ext F.nss F.cls φ s.heap φ' s'.heap -> ExcR c (dom s.heap) φ' s'.heap e x -> E e s'
def Sim (c : Cx) (F : Fx) {α β : Type} (P : List Addr -> Heap -> Prop) (RR : List Addr -> Heap -> α -> β -> Prop) (t : Sem α) (f : PM β) : Prop :=
 ∀ (A : Around) (φ : List Addr) (μ : St) (s : Shared) (Q : α -> Shared -> Prop) (E : Value -> Shared -> Prop), ACtx F A -> Rep c F φ μ s -> P φ s.heap -> f μ ≠ .bad -> OkK c F RR φ s Q (f μ) -> ExK c F φ s E (f μ) ->
  wpAny (model c.prog c.w) A t Q E s
theorem gen {c : Cx} {F : Fx} {α β : Type} {RR : List Addr -> Heap -> α -> β -> Prop} {φ : List Addr} {s : Shared} {Q : α -> Shared -> Prop} {E : Value -> Shared -> Prop} {o : Out β} {P : Prop} (k : ∀ O, o = O -> O ≠ .bad -> OkK c F RR φ s Q O -> ExK c F φ s E O -> P) : o ≠ .bad -> OkK c F RR φ s Q o -> ExK c F φ s E o -> P := λ a b d => k o rfl a b d
noncomputable abbrev NoP : List Addr -> Heap -> Prop := λ _ _ => True
noncomputable abbrev SimE (c : Cx) (F : Fx) (e : Expr) (f : PM PV) : Prop := Sim c F NoP (λ φ h v x => VR φ h v x) (eval e F.env) f
noncomputable abbrev SimS (c : Cx) (F : Fx) (st : Stmt) (f : PM MF) : Prop := Sim c F NoP FR (exec st F.env) f
noncomputable abbrev SimSS (c : Cx) (F : Fx) (st : List Stmt) (f : PM MF) : Prop := Sim c F NoP FR (execs st F.env) f
noncomputable abbrev SimB (c : Cx) (F : Fx) (e : Expr) (f : PM Bool) : Prop := Sim c F NoP (λ _ _ a b => a = b) (isTrue e F.env (eval e F.env)) f
section
variable {c : Cx} {F : Fx} {α β γ δ : Type} {P : List Addr -> Heap -> Prop} {R1 : List Addr -> Heap -> α -> β -> Prop} {R2 : List Addr -> Heap -> γ -> δ -> Prop}
theorem Sim.bind {t1 : Sem α} {f1 : PM β} {t2 : α -> Sem γ} {f2 : β -> PM δ} (h1 : Sim c F P R1 t1 f1) (h2 : ∀ a b, Sim c F (λ φ h => R1 φ h a b) R2 (t2 a) (f2 b)) : Sim c F P R2 (t1 >>= t2) (f1 >>= f2) := by
 intro A φ μ s Q E hA R hP hb hQ hE
 rw [PM.B] at hb
 refine Qb (h1 A φ μ s _ _ hA R hP (λ e => by rw [e] at hb; exact hb rfl) (λ a b φ' μ' s' e R' x r => ?_) λ e y φ' μ' s' he R' x r => ?_)
 ·rw [e] at hb
  refine h2 a b A φ' μ' s' _ _ hA R' r hb (λ a' b' φ'' μ'' s'' e' R'' x' r' => hQ a' b' φ'' μ'' s'' ?_ R'' (x.trans x') r') λ eB y1 φ'' μ'' s'' e' R'' x' r' => hE eB y1 φ'' μ'' s'' ?_ R'' (x.trans x') (r'.le x.dom)
  ·rw [PM.B, e]; exact e'
  ·rw [PM.B, e]; exact e'
 ·exact hE e y φ' μ' s' (by rw [PM.B, he]) R' x r
theorem Sim.mono {P' : List Addr -> Heap -> Prop} {R2' : List Addr -> Heap -> γ -> δ -> Prop} {t : Sem γ} {f : PM δ} (h : Sim c F P R2 t f) (hP : ∀ φ hh, P' φ hh -> P φ hh) (hR : ∀ φ hh a b, R2 φ hh a b -> R2' φ hh a b) : Sim c F P' R2' t f :=
 λ A φ μ s Q E hA R p hb hQ hE => h A φ μ s Q E hA R (hP _ _ p) hb (λ a b φ' μ' s' e R' x r => hQ a b φ' μ' s' e R' x (hR _ _ _ _ r)) hE
theorem Sim.B {t : Sem γ} : Sim c F P R2 t (PM.H : PM δ) := λ _ _ _ _ _ _ _ _ _ hb _ _ => absurd rfl hb
theorem Sim.H {vs : List Value} {t : Sem γ} {f : PM δ} (h : Sim c F P R2 t f) : Sim c F P R2 (PySem.holding vs t) f :=
 λ A φ μ s Q E hA R p hb hQ hE => wpAny_holding (h A φ μ s Q E hA R p hb hQ hE)
theorem Sim.C {pos : Pos} {t : Sem γ} {f : PM δ} (h : Sim c F P R2 t f) : Sim c F P R2 (do PySem.standAt pos; t) f :=
 λ A φ μ s Q E hA R p hb hQ hE => Qb (wpAny_standAt (h A φ μ s Q E hA R p hb hQ hE))
theorem Sim.keep {v : Value} {x : PV} {t : Sem γ} {f : PM δ} (h : Sim c F NoP R2 t f) : Sim c F (λ φ hh => VR φ hh v x) (λ φ hh a b => VR φ hh v x ∧ R2 φ hh a b) t f :=
 λ A φ μ s Q E hA R p hb hQ hE => h A φ μ s Q E hA R trivial hb (λ a b φ' μ' s' e R' x' r => hQ a b φ' μ' s' e R' x' ⟨p.ext R x', r⟩) hE
end

theorem Zn0 (M : Model) (Γ : Ctx) (E : Value -> Pos -> Shared -> Prop) (p : Pos) (s : Shared) {a : Addr} {m : Str -> Option Value} {o : Obj} (hn : s.heap.Ns a m) (hoA : s.heap.get? a = some o) (name : Str) (v : Value) (Q : Unit -> Pos -> Shared -> Prop)
  (hQ : ∀ h' o', h'.Ns a (λ x => if x = name then some v else m x) -> Heap.SameBut a s.heap h' -> h'.get? a = some o' -> o'.cls = o.cls ->
   Q () p { s with heap := h', toks := s.toks + 1 }) : Sem.wp M Γ (nsSet a name v) Q E p s := by
 obtain ⟨o1, es, ep, ho, hd, hk, hm⟩ := hn
 rw [hoA] at ho
 cases ho
 have ho := hoA
 simp only [nsSet, strHash, Sem.wp_bind', Sem.wp_cmd_ask, Sem.wp_pure', Sem.wp_cmd_mkText]
 rw [Sem.wp_loadPart_of M Γ E p { s with toks := s.toks + 1 } (o := o) _ ho]
 have hany : es.any (·.refKey) = false := by
  rw [Array.any_eq_false']; intro e he; obtain ⟨n, t, h⟩ := hk e he; simp [DictEntry.refKey, h]
 simp only [hd, aRefKeyMayBeTheName_eq, aRefKeyMayBeTheNameByArray, hany, Bool.and_false, Bool.false_eq_true, if_false, Sem.wp_cmd_updatePart]
 obtain ⟨c, d, dt, sl⟩ := o
 subst hd
 cases hi : es.findIdx? (·.key.isStr name) with
 | some i =>
  have g : (s.heap.update a (Obj.putName name (if name.cps.isEmpty = true then 0 else reduceHash (M.w.params.strHash name.cps)) (Value.str name s.toks) v)).get? a = some ⟨c, d, .dict (es.modify i λ e => { e with val := v }) ep, sl⟩ :=
   (Heap.get?_update_self _ ho (by simp only [Obj.putName_eq, Obj.putNameByArray, hi]; rfl)).trans (by simp only [Obj.putName_eq, Obj.putNameByArray, hi])
  refine ⟨by rw [ho]; rfl, hQ _ _ ⟨_, _, ep, g, rfl, hk.modify _ _, λ x => ?_⟩ (Heap.SameBut.update ..) g rfl⟩
  show _ = if x = name then some v else m x
  rw [<- hm]; exact findBy_modify (λ n v => v.isStr n) Value.isStr_inj es name x v i hi
 | none =>
  have g : (s.heap.update a (Obj.putName name (if name.cps.isEmpty = true then 0 else reduceHash (M.w.params.strHash name.cps)) (Value.str name s.toks) v)).get? a = some ⟨c, d, .dict (es.push ⟨if name.cps.isEmpty = true then 0 else reduceHash (M.w.params.strHash name.cps), Value.str name s.toks, v⟩) (ep + 1), sl⟩ :=
   (Heap.get?_update_self _ ho (by simp only [Obj.putName_eq, Obj.putNameByArray, hi]; rfl)).trans (by simp only [Obj.putName_eq, Obj.putNameByArray, hi])
  refine ⟨by rw [ho]; rfl, hQ _ _ ⟨_, _, ep + 1, g, rfl, hk.push _ _ _ _, λ x => ?_⟩ (Heap.SameBut.update ..) g rfl⟩
  show _ = if x = name then some v else m x
  rw [<- hm]
  exact findBy_push (λ n v => v.isStr n) es name x _ _ v (λ y => by
   show (name == y) = decide (y = name)
   by_cases h : y = name
   ·subst h; simp
   ·have : ¬ name = y := λ e => h e.symm
    simp [h, this]) hi
inductive VarAt (F : Fx) (x : Str) (k : Nat) : Prop
 | loc : F.env.kindOf x = some .local -> F.locs[k]? = some (.loc F.env.locals x) -> VarAt F x k
 | cell {a : Addr} : F.env.kindOf x = some .cell -> F.env.cells.lookup x = some a -> F.locs[k]? = some (.cell a) -> VarAt F x k
 | free {a : Addr} : F.env.kindOf x = some .free -> F.env.cells.lookup x = some a -> F.locs[k]? = some (.cell a) -> VarAt F x k
noncomputable def getVar (k : Nat) : PM PV := λ μ => match μ.fr[k]? with
 | some .undef => .bad
 | some v => .ok v μ
 | none => .bad
noncomputable def setVar (k : Nat) (v : PV) : PM Unit := λ μ => .ok () { fr := μ.fr.set k v, hp := μ.hp }
theorem Ns.uniq {h : Heap} {L : Addr} {m m' : Str -> Option Value} (a : h.Ns L m) (b : h.Ns L m') (x : Str) : m x = m' x := by
 obtain ⟨o, es, ep, ho, hd, _, hm⟩ := a
 obtain ⟨o', es', ep', ho', hd', _, hm'⟩ := b
 rw [ho] at ho'; cases ho'
 rw [hd] at hd'; cases hd'
 rw [<- hm, <- hm']
section
variable {c : Cx} {F : Fx} {φ φ' : List Addr} {μ : St} {s : Shared}
theorem Zpg {x : Str} {k : Nat} (hk : F.env.scope.kind = .function) (hv : VarAt F x k) (hcd : (x == ("__classdict__" : Str)) = false) : Sim c F NoP (λ φ h v x => VR φ h v x) (loadName F.env x) (getVar k) := by
 intro A φ μ s Q E hA R _ hb hQ hE
 unfold getVar at hb hQ
 cases hf : μ.fr[k]? with
 | none => rw [hf] at hb; exact absurd rfl hb
 | some pv =>
  have hu : pv ≠ .undef := λ e => by subst e; rw [hf] at hb; exact hb rfl
  rw [hf] at hQ
  have fin : ∀ v, VR φ s.heap v pv -> Q v s := λ v r => hQ v pv φ μ s (by cases pv <;> first | rfl | exact absurd rfl hu) R Ext.refl r
  cases hv with
  | loc h1 h2 =>
   obtain ⟨_, q⟩ := R.vloc k _ x h2
   obtain ⟨m, v, hn, hx, hr⟩ := q pv hf hu
   exact wpAny_loadName_local hk h1 hn hx (fin v hr)
  | cell h1 h2 h3 =>
   obtain ⟨_, q⟩ := R.vcell k _ h3
   obtain ⟨v, hn, hr⟩ := q pv hf hu
   exact wpAny_loadName_cell hk h1 h2 hn (fin v hr)
  | free h1 h2 h3 =>
   obtain ⟨_, q⟩ := R.vcell k _ h3
   obtain ⟨v, hn, hr⟩ := q pv hf hu
   exact wpAny_loadName_free hk h1 h2 hn (fin v hr) hcd
theorem Zph {x : Str} {pos : Pos} {k : Nat} (hk : F.env.scope.kind = .function) (hv : VarAt F x k) (hd : (x == ("__debug__" : Str)) = false) (hcd : (x == ("__classdict__" : Str)) = false) : SimE c F (.Name x pos) (getVar k) :=
 λ A φ μ s Q E hA R p hb hQ hE => wpAny_Name (Zpg hk hv hcd A φ μ s Q E hA R p hb hQ hE) hd
theorem Rep.own (R : Rep c F φ μ s) {b : Addr} {k : Nat} {pv : PV} {h' : Heap} {tk : Nat} (hb : b ∈ F.nss ∨ b ∈ F.cls) (hs : Heap.SameBut b s.heap h')
  (hloc : ∀ m, s.heap.Ns b m -> ∃ m', h'.Ns b m' ∧ (∀ (j : Nat) (x : Str), F.locs[j]? = some (.loc b x) -> (j ≠ k -> m' x = m x) ∧ (j = k -> ∀ q, (μ.fr.set k pv)[j]? = some q -> ∃ v, m' x = some v ∧ VR φ h' v pv)))
  (hcell : ∀ v, s.heap.IsCell b v -> ∃ v', h'.IsCell b v' ∧ ∀ (j : Nat), F.locs[j]? = some (.cell b) -> j = k ∧ ∃ w, v' = some w ∧ VR φ h' w pv)
  (hk : F.locs[k]? = some (.cell b) ∨ ∃ x, F.locs[k]? = some (.loc b x)) :
  Rep c F φ { fr := μ.fr.set k pv, hp := μ.hp } { s with heap := h', toks := tk } ∧ Ext F.nss F.cls φ s.heap φ h' := by
 have e0 : Ext0 F.nss F.cls φ s.heap φ h' := ⟨⟨[], by simp, by simp⟩, Nat.le_of_eq hs.1.symm, λ a o ho _ h2 h3 => .inl ((hs.2 a λ q => by subst q; rcases hb with hb | hb; exact h2 hb; exact h3 hb).trans ho)⟩
 have hm : ∀ v x, VR φ s.heap v x -> VR φ h' v x := λ v x r => r.ext0 R e0
 have e : Ext F.nss F.cls φ s.heap φ h' := ⟨e0, λ a ⟨o, ho⟩ => by
  by_cases hab : a = b
  ·subst hab
   rcases hb with hb | hb
   ·obtain ⟨_, _, m, hn⟩ := R.nss a hb
    obtain ⟨m', ⟨o', _, _, ho', _⟩, _⟩ := hloc m hn
    exact ⟨o', ho'⟩
   ·obtain ⟨_, _, v, hc⟩ := R.cls a hb
    obtain ⟨v', ⟨o', ho', _⟩, _⟩ := hcell v hc
    exact ⟨o', ho'⟩
  ·exact ⟨o, (hs.2 a hab).trans ho⟩⟩
 have hbφ : b ∉ φ := by rcases hb with hb | hb; exact (R.nss b hb).1; exact (R.cls b hb).1
 have hbB : c.B.get? b = none := by rcases hb with hb | hb; exact (R.nss b hb).2.1; exact (R.cls b hb).2.1
 refine ⟨⟨R.ok, λ a o ho => (hs.2 a λ q => by subst q; rw [hbB] at ho; cases ho).trans (R.keep a o ho), R.os, R.gens, R.len, R.nodup, R.phiB, λ i a o h1 h2 => ?_, by simpa using R.flen, R.lnodup, λ L hL => ?_, λ a ha => ?_, λ j L x hj => ?_, λ j a hj => ?_, λ env he => ?_⟩, e⟩
 ·exact (R.objs i a o h1 h2).move (λ _ _ e => e) hm (hs.2 a λ q => hbφ (q ▸ mem_of_getElem? h1))
 ·obtain ⟨h1, h2, m, hn⟩ := R.nss L hL
  refine ⟨h1, h2, ?_⟩
  by_cases hLb : L = b
  ·subst hLb; obtain ⟨m', h', _⟩ := hloc m hn; exact ⟨m', h'⟩
  ·exact ⟨m, hn.sameBut hs hLb⟩
 ·obtain ⟨h1, h2, v, o, ho, hd⟩ := R.cls a ha
  refine ⟨h1, h2, ?_⟩
  by_cases hab : a = b
  ·subst hab; obtain ⟨v', h', _⟩ := hcell v ⟨o, ho, hd⟩; exact ⟨v', h'⟩
  ·exact ⟨v, o, (hs.2 a hab).trans ho, hd⟩
 ·obtain ⟨h1, h2⟩ := R.vloc j L x hj
  refine ⟨h1, λ q hq hu => ?_⟩
  by_cases hLb : L = b
  ·subst hLb
   by_cases hjk : j = k
   ·obtain ⟨_, _, m, hn⟩ := R.nss L h1
    obtain ⟨m', hn', hx⟩ := hloc m hn
    obtain ⟨v, hv, hr⟩ := (hx j x hj).2 hjk q hq
    subst hjk
    have hl : j < μ.fr.length := by rw [R.flen]; exact (Qgl hj)
    simp only [List.getElem?_set_self hl] at hq; cases hq
    exact ⟨m', v, hn', hv, hr⟩
   ·simp only [List.getElem?_set_ne (Ne.symm hjk)] at hq
    obtain ⟨m, v, hn, hv, hr⟩ := h2 q hq hu
    obtain ⟨m', hn', hx⟩ := hloc m hn
    exact ⟨m', v, hn', ((hx j x hj).1 hjk).trans hv, hm _ _ hr⟩
  ·have hjk : j ≠ k := by
    intro q; subst q
    rcases hk with hk | ⟨y, hk⟩ <;> rw [hj] at hk <;> cases hk
    exact hLb rfl
   simp only [List.getElem?_set_ne (Ne.symm hjk)] at hq
   obtain ⟨m, v, hn, hv, hr⟩ := h2 q hq hu
   exact ⟨m, v, hn.sameBut hs hLb, hv, hm _ _ hr⟩
 ·obtain ⟨h1, h2⟩ := R.vcell j a hj
  refine ⟨h1, λ q hq hu => ?_⟩
  by_cases hab : a = b
  ·subst hab
   obtain ⟨_, _, v, hc⟩ := R.cls a h1
   obtain ⟨v', hc', hx⟩ := hcell v hc
   obtain ⟨hjk, w, hw, hr⟩ := hx j hj
   subst hjk
   have hl : j < μ.fr.length := by rw [R.flen]; exact (Qgl hj)
   simp only [List.getElem?_set_self hl] at hq; cases hq
   exact ⟨w, hw ▸ hc', hr⟩
  ·have hjk : j ≠ k := by
    intro q; subst q
    rcases hk with hk | ⟨y, hk⟩ <;> rw [hj] at hk <;> cases hk
    exact hab rfl
   simp only [List.getElem?_set_ne (Ne.symm hjk)] at hq
   obtain ⟨v, ⟨o, ho, hd⟩, hr⟩ := h2 q hq hu
   exact ⟨v, ⟨o, (hs.2 a hab).trans ho, hd⟩, hm _ _ hr⟩
 ·obtain ⟨h1, L, h2, h3, h4, o, es, ep, ho, hd⟩ := R.frm env he
  refine ⟨h1, L, h2, h3, h4, ?_⟩
  by_cases hLb : L = b
  ·subst hLb
   rcases hb with hb | hb
   ·obtain ⟨_, _, m, hn⟩ := R.nss L hb
    obtain ⟨m', ⟨o', es', ep', ho', hd', _⟩, _⟩ := hloc m hn
    exact ⟨o', es', ep', ho', hd'⟩
   ·obtain ⟨_, _, v, o', ho', hd'⟩ := R.cls L hb
    rw [ho] at ho'; cases ho'
    rw [hd] at hd'; cases hd'
  ·exact ⟨o, es, ep, (hs.2 L hLb).trans ho, hd⟩
theorem Zn1 {x : Str} {k : Nat} {v : Value} {pv : PV} (hk : F.env.scope.kind = .function) (hv : VarAt F x k) : Sim c F (λ φ h => VR φ h v pv) (λ _ _ _ _ => True) (storeName F.env x v) (setVar k pv) := by
 intro A φ μ s Q E hA R hr hb hQ hE
 have hlt : ∀ {l}, F.locs[k]? = some l -> k < μ.fr.length := λ h => by rw [R.flen]; exact (Qgl h)
 have uq : ∀ {j l}, F.locs[k]? = some l -> F.locs[j]? = some l -> j = k := λ {j l} h1 h2 => by
  obtain ⟨l1, e1⟩ := Qgs h1
  obtain ⟨l2, e2⟩ := Qgs h2
  exact (getElem_inj R.lnodup).mp (e2.trans e1.symm)
 have cellCase : ∀ a, F.locs[k]? = some (.cell a) -> ∀ h', h'.IsCell a (some v) -> Heap.SameBut a s.heap h' -> Q () { s with heap := h' } := λ a h3 h' hc' hs => by
  obtain ⟨hL, _⟩ := R.vcell k _ h3
  obtain ⟨_, _, vA, o0, hoA, hd0⟩ := R.cls a hL
  have key := R.own (tk := s.toks) (.inr hL) (pv := pv) hs (λ m hm => by obtain ⟨o1, _, _, hoB, hd1, _⟩ := hm; rw [hoA] at hoB; cases hoB; rw [hd0] at hd1; cases hd1)
   (λ vA hc => ⟨_, hc', λ j hj => ⟨uq h3 hj, v, rfl, hr.ext0 R ⟨⟨[], by simp, by simp⟩, Nat.le_of_eq hs.1.symm, λ b o ho _ _ q3 => .inl ((hs.2 b λ e => q3 (by rw [e]; exact hL)).trans ho)⟩⟩⟩)
   (.inl h3)
  exact hQ () () φ _ _ rfl key.1 key.2 trivial
 cases hv with
 | loc h1 h2 =>
  obtain ⟨hL, _⟩ := R.vloc k _ x h2
  obtain ⟨_, _, m, hn⟩ := R.nss _ hL
  have hn0 := hn
  obtain ⟨o, es, ep, ho, hd, _, _⟩ := hn0
  rw [storeName_local h1 (by rw [hk]; rfl)]
  refine λ Γ p _ => Zn0 _ Γ _ p s hn ho x v _ λ h' o' hn' hs ho' hc' => ?_
  have key := R.own (tk := s.toks + 1) (.inl hL) (pv := pv) hs (λ mB hm1 => ⟨_, hn', λ j y hj => ⟨λ hjk => ?_, λ hjk q _ => ?_⟩⟩) (λ vA hc => ?_) (.inr ⟨x, h2⟩)
  ·exact hQ () () φ _ _ rfl key.1 key.2 trivial
  ·have hyx : y ≠ x := λ e => by subst e; exact hjk (uq h2 hj)
   simp only [if_neg hyx]
   exact Ns.uniq hn hm1 y
  ·subst hjk
   rw [h2] at hj; cases hj
   exact ⟨v, by simp, hr.ext0 R ⟨⟨[], by simp, by simp⟩, Nat.le_of_eq hs.1.symm, λ a o ho _ q2 _ => .inl ((hs.2 a λ e => q2 (by rw [e]; exact hL)).trans ho)⟩⟩
  ·obtain ⟨o1, hoB, hd1⟩ := hc
   rw [ho] at hoB; cases hoB
   rw [hd] at hd1; cases hd1
 | cell h1 h2 h3 =>
  obtain ⟨hL, _⟩ := R.vcell k _ h3
  obtain ⟨_, _, vA, hc0⟩ := R.cls _ hL
  exact wpAny_storeName_cell hk h1 h2 hc0 λ h' hc' hs => cellCase _ h3 h' hc' hs
 | free h1 h2 h3 =>
  obtain ⟨hL, _⟩ := R.vcell k _ h3
  obtain ⟨_, _, vA, hc0⟩ := R.cls _ hL
  unfold storeName
  rw [h1, hk]
  show wpAny _ _ (cellOf F.env _ >>= λ c => cellSet c (some v)) _ _ _
  exact Qb (wpAny_cellOf h2 (wpAny_cellSet hc0 λ h' hc' hs => cellCase _ h3 h' hc' hs))
end
end Mine
namespace Mine
open PySem PySem.W PyProof.Rows PySem.Calls

noncomputable def fuel : Nat := 1000000
noncomputable def pTruth (v : PV) : PM Bool := λ μ => match v with
 | .none => .ok false μ
 | .bool b => .ok b μ
 | .lst xs => match decide (xs.length <= 1000000) with
  | true => .ok (!xs.isEmpty) μ
  | false => .bad
 | .obj i => match μ.hp[i]? with
  | some (.lst xs) => (match decide (xs.length <= 1000000) with
   | true => .ok (!xs.isEmpty) μ
   | false => .bad)
  | _ => .bad
 | _ => .bad
noncomputable def bVal (f : PM PV) : PM Bool := f >>= pTruth
noncomputable def eNot (b : PM Bool) : PM PV := b >>= λ x => pure (.bool !x)
noncomputable def bNot (b : PM Bool) : PM Bool := b >>= λ x => pure !x
noncomputable def bAnd (b1 b2 : PM Bool) : PM Bool := b1 >>= λ x => if x then b2 else pure false
noncomputable def bOr (b1 b2 : PM Bool) : PM Bool := b1 >>= λ x => if x then pure true else b2
noncomputable def sIf (t : PM Bool) (a b : PM MF) : PM MF := t >>= λ x => if x then a else b
noncomputable def sSeq (a b : PM MF) : PM MF := a >>= λ f => match f with
 | .next => b
 | f => pure f
noncomputable def sNext : PM MF := pure .next
noncomputable def flowM (k : PM MF) : MF -> PM MF
 | .next => k
 | .cont => k
 | .brk => pure .next
 | .ret v => pure (.ret v)
noncomputable def whileM (t : PM Bool) (body els : PM MF) : Nat -> PM MF
 | 0 => PM.H
 | n + 1 => t >>= λ x => if x then body >>= flowM (whileM t body els n) else els
theorem Zfp {t : PM Bool} {body els : PM MF} {n : Nat} : whileM t body els (n + 1) = (t >>= λ x => if x then body >>= flowM (whileM t body els n) else els) := rfl
section
variable {c : Cx} {F : Fx}
theorem Z6 {k : Nat} {pos : Pos} : SimE c F (.Constant .none k pos) (pure .none) := λ A φ μ s Q E hA R p hb hQ hE => wpAny_Constant_none (hQ _ _ _ _ _ rfl R Ext.refl .none)
theorem Zcl {b : Bool} {k : Nat} {pos : Pos} : SimE c F (.Constant (.bool b) k pos) (pure (.bool b)) := λ A φ μ s Q E hA R p hb hQ hE => wpAny_Constant_bool (hQ _ _ _ _ _ rfl R Ext.refl (.bool b))
theorem Zq {i : Int} {k : Nat} {pos : Pos} : SimE c F (.Constant (.int i) k pos) (pure (.int i)) := λ A φ μ s Q E hA R p hb hQ hE => wpAny_Constant_int (hQ _ _ _ _ _ rfl (R.toks _) Ext.refl (.int i _))
theorem Zcw {v : Value} {pv : PV} : Sim c F (λ φ h => VR φ h v pv) (λ _ _ a b => a = b) (truthy v) (pTruth pv) := by
 intro A φ μ s Q E hA R hr hb hQ hE
 unfold pTruth at hb hQ
 induction hr using VR.cs with
 | none => exact (λ _ _ _ => hQ _ _ _ _ _ rfl R Ext.refl rfl)
 | bool b => exact wpAny_truthy_bool (hQ _ _ _ _ _ rfl R Ext.refl rfl)
 | int i t => exact absurd rfl hb
 | tup h1 h4 h5 => exact absurd rfl hb
 | @lst a vs n xs h1 h4 h5 =>
  dsimp only at hb hQ
  cases hl : decide (xs.length <= 1000000) with
  | false => rw [hl] at hb; exact absurd rfl hb
  | true =>
   rw [hl] at hQ
   have hle := of_decide_eq_true hl
   have e := h5.length
   refine wpAny_truthy_list (items := vs.toArray) ⟨_, h1, rfl, _, rfl⟩ (by simp; lia) ?_
   exact hQ _ _ _ _ _ rfl (R.toks _) Ext.refl (by cases h5 <;> rfl)
 | @obj i a h1 =>
  dsimp only at hb hQ
  split at hb
  ·rename_i xs hys
   rw [hys] at hQ
   dsimp only at hQ
   cases hl : decide (xs.length <= 1000000) with
   | false => rw [hl] at hb; exact absurd rfl hb
   | true =>
    rw [hl] at hQ
    have hle := of_decide_eq_true hl
    have q := R.objs i a _ h1 hys
    obtain ⟨vs, n, k1, k2⟩ := q.inv_lst rfl
    ·
     have e := k2.length
     refine wpAny_truthy_list ⟨_, k1, rfl, _, rfl⟩ (by simp; lia) ?_
     exact hQ _ _ _ _ _ rfl (R.toks _) Ext.refl (by cases k2 <;> rfl)
  ·exact absurd rfl hb
 | str => exact absurd rfl hb
 | rng => exact absurd rfl hb
 | nxt => exact absurd rfl hb
 | vals => exact absurd rfl hb
 | raw => exact absurd rfl hb
theorem Zal {e : Expr} {f : PM PV} (h : SimE c F e f) (he : isTrue e F.env (eval e F.env) = (do let v <- eval e F.env; standAt e.pos; holding [v] (truthy v))) : SimB c F e (bVal f) := by
 unfold SimB
 rw [he]
 exact h.bind λ a b => Sim.C (Sim.H Zcw)
theorem Zin {e : Expr} {pos : Pos} {f : PM Bool} (h : SimB c F e f) : SimB c F (.UnaryOp .Not e pos) (bNot f) :=
 λ A φ μ s Q E hA R p hb hQ hE => by
  refine wpAny_isTrue_Not ?_
  refine h A φ μ s _ _ hA R p (λ e => hb (by unfold bNot; rw [PM.B, e])) (λ a b φ' μ' s' e R' x r => ?_) (λ e x φ' μ' s' he R' x' r => hE e x φ' μ' s' (by unfold bNot; rw [PM.B, he]) R' x' r)
  subst r
  exact hQ _ _ φ' μ' s' (by unfold bNot; rw [PM.B, e]; rfl) R' x rfl
theorem Zpi {e : Expr} {pos : Pos} {f : PM PV} (h : SimE c F e f) : SimE c F (.UnaryOp .Not e pos) (eNot (bVal f)) := λ A φ μ s Q E hA R p hb hQ hE => by
 rw [arm_eval_UnaryOp]
 unfold eNot bVal at hb hQ hE
 have hb₁ : f μ ≠ .bad := λ e => hb (by rw [PM.B, PM.B, e])
 refine Qb (h A φ μ s _ _ hA R trivial hb₁ (λ v y φ' μ' s' eg R' x r => ?_) λ e x φ' μ' s' he R' x' r => hE e x φ' μ' s' (by rw [PM.B, PM.B, he]) R' x' r)
 rw [PM.B, PM.B, eg] at hb hQ hE
 dsimp only at hb hQ hE
 have hbC : pTruth y μ' ≠ .bad := λ e => hb (by rw [e])
 refine Qb (wpAny_standAt (wpAny_holding ?_))
 unfold unaryOp
 refine wpAny_holding ?_
 simp only [beq_self_eq_true, if_true]
 refine Qb (Zcw A φ' μ' s' _ _ hA R' r hbC (λ a b φ'' μ'' s'' eg R'' x'' r'' => ?_) λ e z φ'' μ'' s'' he R'' x'' r'' => hE e z φ'' μ'' s'' (by rw [he]) R'' (x.trans x'') (r''.le x.dom))
 subst r''
 exact Qp (hQ _ _ φ'' μ'' s'' (by rw [eg]; rfl) R'' (x.trans x'') (.bool _))
def SimBo (c : Cx) (F : Fx) (pos : Pos) (op : BoolOp) (ts : List (Sem Value)) (g : PM PV) : Prop := Sim c F NoP (λ φ h v x => VR φ h v x) (boolOp pos op ts) g
noncomputable def andM (v : PV) (g : PM PV) : Bool -> PM PV
 | true => g
 | false => pure v
noncomputable def eAnd (f g : PM PV) : PM PV := f >>= λ v => pTruth v >>= λ b => andM v g b
theorem Zhf {pos : Pos} {op : BoolOp} {e : Expr} {f : PM PV} (h : SimE c F e f) : SimBo c F pos op (evalEach [e] F.env) f := h
theorem Zn2 {pos : Pos} {e e' : Expr} {es : List Expr} {f g : PM PV} (h : SimE c F e f) (h' : SimBo c F pos .And (evalEach (e' :: es) F.env) g) : SimBo c F pos .And (evalEach (e :: e' :: es) F.env) (eAnd f g) := λ A φ μ s Q E hA R p hb hQ hE => by
 show wpAny _ _ (eval e F.env >>= λ v => standAt pos >>= λ _ => holding [v] (truthy v) >>= λ t => match BoolOp.And, t with
  | .And, false | .Or, true => pure v
  | _, _ => boolOp pos .And (evalEach (e' :: es) F.env)) _ _ _
 unfold eAnd at hb hQ hE
 have hb₁ : f μ ≠ .bad := λ e => hb (by rw [PM.B, e])
 refine Qb (h A φ μ s _ _ hA R trivial hb₁ (λ v y φ' μ' s' eg R' x r => ?_) λ e x φ' μ' s' he R' x' r => hE e x φ' μ' s' (by rw [PM.B, he]) R' x' r)
 rw [PM.B, eg] at hb hQ hE
 dsimp only at hb hQ hE
 have hbC : pTruth y μ' ≠ .bad := λ e => hb (by rw [PM.B, e])
 refine Qb (wpAny_standAt (Qb (wpAny_holding (Zcw A φ' μ' s' _ _ hA R' r hbC (λ a b φ'' μ'' s'' eg R'' x'' r'' => ?_) λ e z φ'' μ'' s'' he R'' x'' r'' => hE e z φ'' μ'' s'' (by rw [PM.B, he]) R'' (x.trans x'') (r''.le x.dom)))))
 rw [PM.B, eg] at hb hQ hE
 dsimp only at hb hQ hE
 obtain rfl := r''
 cases a with
 | true => exact h' A φ'' μ'' s'' _ _ hA R'' trivial hb (λ a b φ3 μ3 s3 eg R3 xD rD => hQ a b φ3 μ3 s3 eg R3 (x.trans (x''.trans xD)) rD) λ e z φ3 μ3 s3 he R3 xD rD => hE e z φ3 μ3 s3 he R3 (x.trans (x''.trans xD)) (rD.le (x.trans x'').dom)
 | false => exact Qp (hQ _ _ _ _ _ rfl R'' (x.trans x'') (r.ext R' x''))
theorem Zf5 {op : BoolOp} {values : List Expr} {pos : Pos} {g : PM PV} (h : SimBo c F pos op (evalEach values F.env) g) : SimE c F (.BoolOp op values pos) g := h
theorem Zao : Sim c F NoP (λ _ _ a b => a = b) (allTrue .And [] F.env) (pure true) := λ A φ μ s Q E hA R p hb hQ hE => wpAny_allTrue_And_nil (hQ _ _ _ _ _ rfl R Ext.refl rfl)
theorem Zaz : Sim c F NoP (λ _ _ a b => a = b) (allTrue .Or [] F.env) (pure false) := λ A φ μ s Q E hA R p hb hQ hE => wpAny_allTrue_Or_nil (hQ _ _ _ _ _ rfl R Ext.refl rfl)
theorem Zx {x : Expr} {rest : List Expr} {f g : PM Bool} (h : SimB c F x f) (h' : Sim c F NoP (λ _ _ a b => a = b) (allTrue .And rest F.env) g) :
  Sim c F NoP (λ _ _ a b => a = b) (allTrue .And (x :: rest) F.env) (bAnd f g) := λ A φ μ s Q E hA R p hb hQ hE => by
 refine wpAny_allTrue_And_cons ?_
 refine h A φ μ s _ _ hA R p (λ e => hb (by unfold bAnd; rw [PM.B, e])) (λ a b φ' μ' s' e R' x r => ?_) (λ e x φ' μ' s' he R' x' r => hE e x φ' μ' s' (by unfold bAnd; rw [PM.B, he]) R' x' r)
 subst r
 have e' : bAnd f g μ = (if a then g else pure false) μ' := by unfold bAnd; rw [PM.B, e]
 rw [e'] at hb hQ hE
 cases a with
 | true => exact h' A φ' μ' s' _ _ hA R' trivial hb (λ a b φ'' μ'' s'' e R'' x'' r => hQ a b φ'' μ'' s'' e R'' (x.trans x'') r) (λ a b φ'' μ'' s'' e R'' x'' r => hE a b φ'' μ'' s'' e R'' (x.trans x'') (r.le x.dom))
 | false => exact hQ _ _ φ' μ' s' rfl R' x rfl
theorem Z7 {x : Expr} {rest : List Expr} {f g : PM Bool} (h : SimB c F x f) (h' : Sim c F NoP (λ _ _ a b => a = b) (allTrue .Or rest F.env) g) :
  Sim c F NoP (λ _ _ a b => a = b) (allTrue .Or (x :: rest) F.env) (bOr f g) := λ A φ μ s Q E hA R p hb hQ hE => by
 refine wpAny_allTrue_Or_cons ?_
 refine h A φ μ s _ _ hA R p (λ e => hb (by unfold bOr; rw [PM.B, e])) (λ a b φ' μ' s' e R' x r => ?_) (λ e x φ' μ' s' he R' x' r => hE e x φ' μ' s' (by unfold bOr; rw [PM.B, he]) R' x' r)
 subst r
 have e' : bOr f g μ = (if a then pure true else g) μ' := by unfold bOr; rw [PM.B, e]
 rw [e'] at hb hQ hE
 cases a with
 | false => exact h' A φ' μ' s' _ _ hA R' trivial hb (λ a b φ'' μ'' s'' e R'' x'' r => hQ a b φ'' μ'' s'' e R'' (x.trans x'') r) (λ a b φ'' μ'' s'' e R'' x'' r => hE a b φ'' μ'' s'' e R'' (x.trans x'') (r.le x.dom))
 | true => exact hQ _ _ φ' μ' s' rfl R' x rfl
theorem Za0 {op : BoolOp} {values : List Expr} {pos : Pos} {f : PM Bool} (h : Sim c F NoP (λ _ _ a b => a = b) (allTrue op values F.env) f) : SimB c F (.BoolOp op values pos) f :=
 λ A φ μ s Q E hA R p hb hQ hE => wpAny_isTrue_BoolOp (h A φ μ s Q E hA R p hb hQ hE)
theorem Zd2 {pos : Pos} : SimS c F (.Break pos) (pure .brk) := λ A φ μ s Q E hA R p hb hQ hE => (λ _ _ _ => hQ _ _ _ _ _ rfl R Ext.refl .brk)
theorem Zio {pos : Pos} : SimS c F (.Continue pos) (pure .cont) := λ A φ μ s Q E hA R p hb hQ hE => (λ _ _ _ => hQ _ _ _ _ _ rfl R Ext.refl .cont)
theorem Zc : SimSS c F [] sNext := λ A φ μ s Q E hA R p hb hQ hE => wpAny_execs_nil (hQ _ _ _ _ _ rfl R Ext.refl .next)
theorem Zb {st : Stmt} {rest : List Stmt} {f g : PM MF} (h : SimS c F st f) (h' : SimSS c F rest g) : SimSS c F (st :: rest) (sSeq f g) := λ A φ μ s Q E hA R p hb hQ hE => by
 refine wpAny_execs_cons ?_
 unfold sSeq at hb hQ hE
 rw [PM.B] at hb hQ hE
 refine h A φ μ s _ _ hA R p (λ e => hb (by rw [e])) (λ a b φ' μ' s' e R' x r => ?_) (λ e x φ' μ' s' he R' x' r => hE e x φ' μ' s' (by rw [he]) R' x' r)
 rw [e] at hb hQ hE
 induction r using FR.cs with
 | next => exact h' A φ' μ' s' _ _ hA R' trivial hb (λ a b φ'' μ'' s'' e R'' x'' r => hQ a b φ'' μ'' s'' e R'' (x.trans x'') r) (λ a b φ'' μ'' s'' e R'' x'' r => hE a b φ'' μ'' s'' e R'' (x.trans x'') (r.le x.dom))
 | brk => exact hQ _ _ φ' μ' s' rfl R' x .brk
 | cont => exact hQ _ _ φ' μ' s' rfl R' x .cont
 | ret r => exact hQ _ _ φ' μ' s' rfl R' x (.ret r)
theorem Zr {test : Expr} {body orelse : List Stmt} {pos : Pos} {t : PM Bool} {f g : PM MF} (h : SimB c F test t) (h1 : SimSS c F body f) (h2 : SimSS c F orelse g) : SimS c F (.If test body orelse pos) (sIf t f g) :=
 λ A φ μ s Q E hA R p hb hQ hE => by
 refine wpAny_If ?_
 unfold sIf at hb hQ hE
 rw [PM.B] at hb hQ hE
 refine h A φ μ s _ _ hA R p (λ e => hb (by rw [e])) (λ a b φ' μ' s' e R' x r => ?_) (λ e x φ' μ' s' he R' x' r => hE e x φ' μ' s' (by rw [he]) R' x' r)
 rw [e] at hb hQ hE
 subst r
 cases a with
 | true => exact h1 A φ' μ' s' _ _ hA R' trivial hb (λ a b φ'' μ'' s'' e R'' x'' r => hQ a b φ'' μ'' s'' e R'' (x.trans x'') r) (λ a b φ'' μ'' s'' e R'' x'' r => hE a b φ'' μ'' s'' e R'' (x.trans x'') (r.le x.dom))
 | false => exact h2 A φ' μ' s' _ _ hA R' trivial hb (λ a b φ'' μ'' s'' e R'' x'' r => hQ a b φ'' μ'' s'' e R'' (x.trans x'') r) (λ a b φ'' μ'' s'' e R'' x'' r => hE a b φ'' μ'' s'' e R'' (x.trans x'') (r.le x.dom))
noncomputable def sRet (f : PM PV) : PM MF := f >>= λ v => pure (.ret v)
theorem Zy {e : Expr} {pos : Pos} {f : PM PV} (h : SimE c F e f) : SimS c F (.Return (some e) pos) (sRet f) := λ A φ μ s Q E hA R p hb hQ hE => by
 refine wpAny_Return_some ?_
 unfold sRet at hb hQ hE
 rw [PM.B] at hb hQ hE
 refine h A φ μ s _ _ hA R p (λ e => hb (by rw [e])) (λ a b φ' μ' s' e R' x r => ?_) (λ e x φ' μ' s' he R' x' r => hE e x φ' μ' s' (by rw [he]) R' x' r)
 rw [e] at hQ
 exact hQ _ _ φ' μ' s' rfl R' x (.ret r)
noncomputable def sExpr (f : PM PV) : PM MF := f >>= λ _ => pure .next
theorem Zz {e : Expr} {pos : Pos} {f : PM PV} (h : SimE c F e f) (hi : interactive F.env = false) (hs : swapsWith e none pos.line F.env = pure false) : SimS c F (.Expr e pos) (sExpr f) := λ A φ μ s Q E hA R p hb hQ hE => by
 refine wpAny_Expr_any ?_ hi hs
 unfold sExpr at hb hQ hE
 rw [PM.B] at hb hQ hE
 refine h A φ μ s _ _ hA R p (λ e => hb (by rw [e])) (λ a b φ' μ' s' e R' x r => ?_) (λ e x φ' μ' s' he R' x' r => hE e x φ' μ' s' (by rw [he]) R' x' r)
 rw [e] at hQ
 exact hQ _ _ φ' μ' s' rfl R' x .next
end

section
variable {c : Cx} {F : Fx}
theorem Sim.use {α β δ : Type} {P : List Addr -> Heap -> Prop} {RR : List Addr -> Heap -> α -> β -> Prop} {t : Sem α} {f : PM β} {g : β -> PM δ} (h : Sim c F P RR t f)
  {A : Around} {φ : List Addr} {μ : St} {s : Shared} {Q' : α -> Shared -> Prop} {E : Value -> Shared -> Prop} (hA : ACtx F A) (R : Rep c F φ μ s) (p : P φ s.heap) (hb : (f >>= g) μ ≠ .bad)
  (hE : ∀ e x φ' μ' s', (f >>= g) μ = .exc x μ' -> Rep c F φ' μ' s' -> Ext F.nss F.cls φ s.heap φ' s'.heap -> ExcR c (dom s.heap) φ' s'.heap e x -> E e s')
  (hQ : ∀ a b φ' μ' s', (f >>= g) μ = g b μ' -> Rep c F φ' μ' s' -> Ext F.nss F.cls φ s.heap φ' s'.heap -> RR φ' s'.heap a b -> Q' a s') : wpAny (model c.prog c.w) A t Q' E s :=
 h A φ μ s Q' E hA R p (λ e => hb (by rw [PM.B, e])) (λ a b φ' μ' s' e R' x r => hQ a b φ' μ' s' (by rw [PM.B, e]) R' x r)
  (λ e x φ' μ' s' he R' x' r => hE e x φ' μ' s' (by rw [PM.B, he]) R' x' r)
theorem Sim.fin {α β : Type} {P : List Addr -> Heap -> Prop} {RR : List Addr -> Heap -> α -> β -> Prop} {t : Sem α} {f : PM β} (h : Sim c F P RR t f)
  {A : Around} {φ φ0 : List Addr} {μ : St} {s s0 : Shared} {Q : α -> Shared -> Prop} {E : Value -> Shared -> Prop} {o : Out β} (hA : ACtx F A) (R : Rep c F φ μ s) (p : P φ s.heap) (eo : o = f μ) (xA : Ext F.nss F.cls φ0 s0.heap φ s.heap) (hb : o ≠ .bad)
  (hQ : ∀ a b φ' μ' s', o = .ok b μ' -> Rep c F φ' μ' s' -> Ext F.nss F.cls φ0 s0.heap φ' s'.heap -> RR φ' s'.heap a b -> Q a s')
  (hE : ∀ e x φ' μ' s', o = .exc x μ' -> Rep c F φ' μ' s' -> Ext F.nss F.cls φ0 s0.heap φ' s'.heap -> ExcR c (dom s0.heap) φ' s'.heap e x -> E e s') : wpAny (model c.prog c.w) A t Q E s := by
 subst eo
 exact h A φ μ s Q E hA R p hb (λ a b φ' μ' s' e R' x r => hQ a b φ' μ' s' e R' (xA.trans x) r) (λ e x φ' μ' s' he R' x' r => hE e x φ' μ' s' he R' (xA.trans x') (r.le xA.dom))
end
noncomputable def mapO {α β : Type} (f : α -> Option β) : List α -> Option (List β)
 | [] => some []
 | x :: xs => match f x with
  | some y => (mapO f xs).map (y :: ·)
  | none => none
theorem Zd3 {α β : Type} {f : α -> Option β} {x : α} {xs : List α} : mapO f (x :: xs) = (match f x with | some y => (mapO f xs).map (y :: ·) | none => none) := rfl
noncomputable def reify (hp : List MO) : Nat -> PV -> Option PyData
 | 0, _ => none
 | n + 1, v => match v with
  | .none => some .none
  | .bool b => some (.bool b)
  | .int i => some (.int i)
  | .str x => if PyData.strOk x then some (.str x) else none
  | .tup xs => (mapO (reify hp n) xs).map .tuple
  | .lst xs => (mapO (reify hp n) xs).map .list
  | .obj i => match hp[i]? with
   | some (.lst xs) => (mapO (reify hp n) xs).map .list
   | _ => none
  | _ => none
theorem Zlu {hp : List MO} {n i : Nat} : reify hp (n + 1) (.obj i) = (match hp[i]? with | some (.lst xs) => (mapO (reify hp n) xs).map .list | _ => none) := rfl
theorem Zcd {h : Heap} {a : Addr} {o : Obj} {vs : List Value} {n : Nat} {xs : List PyData} {as : List Addr} (h1 : h.get? a = some o) (h2 : o.cls = .type "list") (h3 : o.data = .seq vs.toArray n) (h4 : ReadsAll h vs xs as) : Reads h (.ref a) (.list xs) (a :: as) :=
 .list h1 h2 h3 (by simpa using h4)
theorem Ze8 {h : Heap} {a : Addr} {o : Obj} {vs : List Value} {n : Nat} {xs : List PyData} {as : List Addr} (h1 : h.get? a = some o) (h2 : o.cls = .type "tuple") (h3 : o.data = .seq vs.toArray n) (h4 : ReadsAll h vs xs as) : Reads h (.ref a) (.tuple xs) as :=
 .tuple h1 h2 h3 (by simpa using h4)
section
variable {c : Cx} {F : Fx} {φ : List Addr} {μ : St} {s : Shared}
def Good (h : Heap) (v : Value) (d : PyData) (n : Nat) : Prop := (∃ as, Reads h v d as) ∧ d.canLay0 = true ∧ d.depth <= n
def Goods (h : Heap) (vs : List Value) (ds : List PyData) (n : Nat) : Prop := (∃ as, ReadsAll h vs ds as) ∧ PyData.canLayAll0 ds = true ∧ PyData.depthAll ds <= n
theorem Zbl {n : Nat} {h : Heap} {φ : List Addr} {f : PV -> Option PyData} (ih : ∀ {v x d}, VR φ h v x -> f x = some d -> Good h v d n) {vs : List Value} {xs : List PV} (r : VRs φ h vs xs) : ∀ {ds : List PyData}, mapO f xs = some ds -> Goods h vs ds n := by
 induction r using VRs.ind with
 | nil => intro ds e; cases e; exact ⟨⟨_, .nil⟩, rfl, Nat.zero_le _⟩
 | @cons v vs x xs a b ihb =>
  intro ds e
  rw [Zd3] at e
  cases hx : f x with
  | none => rw [hx] at e; cases e
  | some y =>
   rw [hx] at e
   cases hxs : mapO f xs with
   | none => rw [hxs] at e; cases e
   | some ys =>
    rw [hxs] at e; cases e
    obtain ⟨⟨_, r1⟩, l1, d1⟩ := ih a hx
    obtain ⟨⟨_, r2⟩, l2, d2⟩ := ihb hxs
    exact ⟨⟨_, .cons r1 r2⟩, by simp [PyData.canLayAll0, l1, l2], by simp only [PyData.depthAll]; lia⟩
theorem Zv (R : Rep c F φ μ s) : ∀ (n : Nat) {v : Value} {x : PV} {d : PyData}, VR φ s.heap v x -> reify μ.hp n x = some d -> Good s.heap v d n
 | 0, _, _, _, _, e => by cases e
 | n + 1, v, x, d, r, e => by
  induction r using VR.cs with
  | none => cases e; exact ⟨⟨_, .none⟩, rfl, by simp [PyData.depth]⟩
  | bool b => cases e; exact ⟨⟨_, .bool b⟩, rfl, by simp [PyData.depth]⟩
  | int i t => cases e; exact ⟨⟨_, .int i t⟩, rfl, by simp [PyData.depth]⟩
  | str x t =>
   have e : (if PyData.strOk x then some (PyData.str x) else none) = some d := e
   by_cases hs : PyData.strOk x = true
   ·rw [if_pos hs] at e; cases e; exact ⟨⟨_, .str x t⟩, hs, by simp [PyData.depth]⟩
   ·rw [if_neg hs] at e; exact Zh e
  | tup h1 h4 h5 =>
   obtain ⟨ds, hds, rfl⟩ := Option.map_eq_some_iff.mp (show Option.map _ (mapO (reify μ.hp n) _) = _ from e)
   obtain ⟨⟨as, r⟩, l, dd⟩ := Zbl (λ a b => Zv R n a b) h5 hds
   exact ⟨⟨_, Ze8 h1 rfl rfl r⟩, l, by simp only [PyData.depth]; exact Qkl dd Qr⟩
  | lst h1 h4 h5 =>
   obtain ⟨ds, hds, rfl⟩ := Option.map_eq_some_iff.mp (show Option.map _ (mapO (reify μ.hp n) _) = _ from e)
   obtain ⟨⟨as, r⟩, l, dd⟩ := Zbl (λ a b => Zv R n a b) h5 hds
   exact ⟨⟨_, Zcd h1 rfl rfl r⟩, l, by simp only [PyData.depth]; exact Qkl dd Qr⟩
  | @obj i a h1 =>
   rw [Zlu] at e
   cases hxs : μ.hp[i]? with
   | none => rw [hxs] at e; exact Zh e
   | some o =>
    rw [hxs] at e
    cases o with
    | lst xs =>
     obtain ⟨ds, hds, rfl⟩ := Option.map_eq_some_iff.mp e
     obtain ⟨_, _, k1, k2⟩ := (R.objs i a _ h1 hxs).inv_lst rfl
     obtain ⟨⟨as, r⟩, l, dd⟩ := Zbl (λ a b => Zv R n a b) k2 hds
     exact ⟨⟨_, Zcd k1 rfl rfl r⟩, l, by simp only [PyData.depth]; exact Qkl dd Qr⟩
    | _ => exact Zh e
  | rng => exact Zh e
  | nxt => exact Zh e
  | vals => exact Zh e
  | raw => exact Zh e
noncomputable def pItems (v : PV) : PM (List PV) := λ μ => match v with
 | .lst xs => .ok xs μ
 | .tup xs => .ok xs μ
 | .obj i => match μ.hp[i]? with
  | some (.lst xs) => .ok xs μ
  | _ => .bad
 | _ => .bad
noncomputable def isLst (hp : List MO) : PV -> Option (List PV)
 | .lst xs => some xs
 | .obj i => match hp[i]? with
  | some (.lst xs) => some xs
  | _ => none
 | _ => none
theorem Zn3 {hp : List MO} {x : PV} {xs : List PV} (e : isLst hp x = some xs) : x = .lst xs ∨ ∃ i, x = .obj i ∧ hp[i]? = some (.lst xs) := by
 cases x with
 | lst ys => cases e; exact .inl rfl
 | obj i =>
  refine .inr ⟨i, rfl, ?_⟩
  unfold isLst at e
  dsimp only at e
  cases hi : hp[i]? with
  | none => rw [hi] at e; exact Zh e
  | some o =>
   rw [hi] at e
   cases o with
   | lst ys => cases e; rfl
   | _ => exact Zh e
 | _ => exact Zh e
theorem Zfq (R : Rep c F φ μ s) {v : Value} {x : PV} {xs : List PV} (r : VR φ s.heap v x) (e : isLst μ.hp x = some xs) : ∃ (a : Addr) (vs : List Value) (n : Nat), v = .ref a ∧ s.heap.get? a = some { cls := .type "list", data := .seq vs.toArray n } ∧ VRs φ s.heap vs xs := by
 rcases Zn3 e with rfl | ⟨i, rfl, hi⟩
 ·obtain ⟨a, vs, n, rfl, h1, _, h5⟩ := r.un_lst rfl
  exact ⟨a, vs, n, rfl, h1, h5⟩
 ·obtain ⟨a, rfl, h1⟩ := r.un_obj rfl
  obtain ⟨vs, n, k1, k2⟩ := (R.objs i a _ h1 hi).inv_lst rfl
  exact ⟨a, vs, n, rfl, k1, k2⟩
theorem Zdj (R : Rep c F φ μ s) {v : Value} {x : PV} {xs : List PV} (r : VR φ s.heap v x) (e : isLst μ.hp x = some xs) : ∃ (a : Addr) (vs : List Value), v = .ref a ∧ s.heap.IsList a vs.toArray ∧ VRs φ s.heap vs xs := by
 obtain ⟨a, vs, n, rfl, h1, h2⟩ := Zfq R r e
 exact ⟨a, vs, rfl, ⟨_, h1, rfl, _, rfl⟩, h2⟩
end
noncomputable def pEq (a b : PV) : PM Bool := λ μ => match reify μ.hp 16 a, reify μ.hp 16 b with
 | some d, some e => .ok (PyData.eqv d e) μ
 | _, _ => .bad
noncomputable def lenOk {α : Type} (xs : List α) : Bool := decide (xs.length <= 1000000)
noncomputable def inSeq (μ : St) (x : PV) (xs : List PV) : Out Bool := match reify μ.hp 16 x, mapO (reify μ.hp 16) xs with
 | some d, some ds => .ok (ds.any λ y => PyData.eqv y d) μ
 | _, _ => .bad
noncomputable def pIn (x y : PV) : PM Bool := λ μ => match y with
 | .obj i => match μ.hp[i]? with
  | some (.dct es _) => (match x with
   | .int k => .ok (es.any λ e => e.1 == k) μ
   | _ => .bad)
  | some (.set ks) => (match x with
   | .int k => .ok (decide (k ∈ ks)) μ
   | _ => .bad)
  | some (.lst xs) => inSeq μ x xs
  | _ => .bad
 | .lst xs => inSeq μ x xs
 | .tup xs => inSeq μ x xs
 | _ => .bad
section
variable {c : Cx} {F : Fx}
theorem ACtx.room {A : Around} (hA : ACtx F A) : A.units + 64 < cLine := by
 have := hA.units
 have e : cLine = 9900 := rfl
 lia
theorem Zcx {h : Heap} {v : Value} {d : PyData} {n : Nat} (g : Good h v d n) (hn : n <= 64) : SeqAt.shaped d = true := by
 unfold SeqAt.shaped
 rw [g.2.1, Bool.true_and]
 exact decide_eq_true (Nat.le_trans g.2.2 hn)
noncomputable abbrev V2 (v w : Value) (x y : PV) : List Addr -> Heap -> Prop := λ φ h => VR φ h v x ∧ VR φ h w y
theorem Zsu {v w : Value} {x y : PV} : Sim c F (V2 v w x y) (λ _ _ a b => a = .bool b) (compareOp .Eq v w) (pEq x y) := by
 intro A φ μ s Q E hA R p hb hQ hE
 unfold pEq at hb hQ
 cases h1 : reify μ.hp 16 x with
 | none => rw [h1] at hb; exact absurd rfl hb
 | some d =>
  cases h2 : reify μ.hp 16 y with
  | none => rw [h1, h2] at hb; exact absurd rfl hb
  | some e =>
   rw [h1, h2] at hQ
   have g1 := Zv R 16 p.1 h1
   have g2 := Zv R 16 p.2 h2
   obtain ⟨_, r1⟩ := g1.1
   obtain ⟨_, r2⟩ := g2.1
   exact SeqAt.compareEq_shaped r1 r2 (Zcx g1 (by decide)) (Zcx g2 (by decide)) hA.room (hQ _ _ _ _ _ rfl R Ext.refl rfl)
theorem Zsv {v w : Value} {x y : PV} : Sim c F (V2 v w x y) (λ _ _ a b => a = .bool b) (compareOp .NotEq v w) (bNot (pEq x y)) := by
 intro A φ μ s Q E hA R p hb hQ hE
 unfold bNot at hb hQ
 rw [PM.B] at hb hQ
 unfold pEq at hb hQ
 cases h1 : reify μ.hp 16 x with
 | none => rw [h1] at hb; exact absurd rfl hb
 | some d =>
  cases h2 : reify μ.hp 16 y with
  | none => rw [h1, h2] at hb; exact absurd rfl hb
  | some e =>
   rw [h1, h2] at hQ
   have g1 := Zv R 16 p.1 h1
   have g2 := Zv R 16 p.2 h2
   obtain ⟨_, r1⟩ := g1.1
   obtain ⟨_, r2⟩ := g2.1
   exact SeqAt.compareNe_shaped r1 r2 (Zcx g1 (by decide)) (Zcx g2 (by decide)) hA.room (hQ _ _ _ _ _ rfl R Ext.refl rfl)
theorem Zfr {φ : List Addr} {h : Heap} {kvs : List (Int × Value)} {es : List (Int × PV)} (r : DRs φ h kvs es) (k : Int) : (valueAt kvs k).isSome = es.any λ e => e.1 == k := by
 induction r with
 | nil => rfl
 | @cons k' _ _ _ _ a b ih =>
  unfold valueAt at ih ⊢
  rw [List.find?_cons, any_cons]
  by_cases hk : k' = k
  ·rw [show decide (k' = k) = true from decide_eq_true hk, show (k' == k) = true from beq_iff_eq.mpr hk]; rfl
  ·rw [show decide (k' = k) = false from decide_eq_false hk, show (k' == k) = false from beq_eq_false_iff_ne.mpr hk]
   exact ih
theorem Zn4 {v w : Value} {x y : PV} : Sim c F (V2 v w x y) (λ _ _ a b => a = .bool b) (compareOp .In v w) (pIn x y) := by
 intro A φ μ s Q E hA R p hb hQ hE
 obtain ⟨rx, ry⟩ := p
 have seq : ∀ xs : List PV, inSeq μ x xs = pIn x y μ -> ∃ d ds, reify μ.hp 16 x = some d ∧ mapO (reify μ.hp 16) xs = some ds ∧ pIn x y μ = Out.ok (ds.any λ y => PyData.eqv y d) μ := by
  intro xs e
  unfold inSeq at e
  cases h1 : reify μ.hp 16 x with
  | none => rw [h1] at e; exact absurd (e.symm) hb
  | some d =>
   cases h2 : mapO (reify μ.hp 16) xs with
   | none => rw [h1, h2] at e; exact absurd (e.symm) hb
   | some ds => rw [h1, h2] at e; exact ⟨d, ds, rfl, rfl, e.symm⟩
 have room : ∀ {ds d}, PyData.depthAll ds <= 16 -> A.units + 1 + min (PyData.depthAll ds) (PyData.depth d) < cLine := λ h => by
  have := hA.units
  have e : cLine = 9900 := rfl
  have := Nat.min_le_left (PyData.depthAll ‹_›) (PyData.depth ‹_›)
  lia
 induction ry using VR.cs with
 | lst h1 h4 h5 =>
  obtain ⟨d, ds, e1, e2, e3⟩ := seq _ rfl
  have g1 := Zv R 16 rx e1
  have g2 := Zbl (λ a b => Zv R 16 a b) h5 e2
  obtain ⟨_, r1⟩ := g1.1
  obtain ⟨_, r2⟩ := g2.1
  exact SeqAt.in_list_reads (Zcd h1 rfl rfl r2) r1 g2.2.1 g1.2.1 (room g2.2.2) (hQ _ _ _ _ _ e3 R Ext.refl rfl)
 | tup h1 h4 h5 =>
  obtain ⟨d, ds, e1, e2, e3⟩ := seq _ rfl
  have g1 := Zv R 16 rx e1
  have g2 := Zbl (λ a b => Zv R 16 a b) h5 e2
  obtain ⟨_, r1⟩ := g1.1
  obtain ⟨_, r2⟩ := g2.1
  exact SeqAt.in_tuple_reads (Ze8 h1 rfl rfl r2) r1 g2.2.1 g1.2.1 (room g2.2.2) (hQ _ _ _ _ _ e3 R Ext.refl rfl)
 | @obj i a h1 =>
  have hw := R.notSys (mem_of_getElem? h1)
  cases hi : μ.hp[i]? with
  | none => exact absurd (by unfold pIn; simp only [hi]) hb
  | some o =>
   have ob := R.objs i a o h1 hi
   cases ob with
   | @lst _ _ xs k1 k2 =>
    obtain ⟨d, ds, e1, e2, e3⟩ := seq xs (by unfold pIn; simp only [hi])
    have g1 := Zv R 16 rx e1
    have g2 := Zbl (λ a b => Zv R 16 a b) k2 e2
    obtain ⟨_, r1⟩ := g1.1
    obtain ⟨_, r2⟩ := g2.1
    exact SeqAt.in_list_reads (Zcd k1 rfl rfl r2) r1 g2.2.1 g1.2.1 (room g2.2.2) (hQ _ _ _ _ _ e3 R Ext.refl rfl)
   | dct k1 k2 =>
    induction rx using VR.cs with
    | int k t =>
     refine wpAny_in_of (knd := intKind c.prog c.w) (k := k) (by show Value.isInt k (.int k t) = true; simp [Value.isInt]) hw k1.dictOf.mapOf ?_
     rw [Zfr k2]
     exact hQ _ _ _ _ _ (by unfold pIn; simp only [hi]) (R.toks _) Ext.refl rfl
    | _ => exact absurd (by unfold pIn; simp only [hi]) hb
   | set k1 =>
    induction rx using VR.cs with
    | int k t =>
     refine wpAny_inSet_of (knd := intKind c.prog c.w) (k := k) (by show Value.isInt k (.int k t) = true; simp [Value.isInt]) rfl k1 ?_
     exact hQ _ _ _ _ _ (by unfold pIn; simp only [hi]) (R.toks _) Ext.refl rfl
    | _ => exact absurd (by unfold pIn; simp only [hi]) hb
   | _ => exact absurd (by unfold pIn; simp only [hi]) hb
 | none => exact absurd rfl hb
 | bool => exact absurd rfl hb
 | int => exact absurd rfl hb
 | str => exact absurd rfl hb
 | rng => exact absurd rfl hb
 | nxt => exact absurd rfl hb
 | vals => exact absurd rfl hb
 | raw => exact absurd rfl hb
end

section
variable {c : Cx} {F : Fx}
theorem Zn5 {M : Model} {A : Around} {v w : Value} {s : Shared} {Q : Value -> Shared -> Prop} {E : Value -> Shared -> Prop} (h : wpAny M A (compareOp .In v w) (λ x s' => ∀ b, x = .bool b -> Q (.bool (!b)) s') E s) : wpAny M A (compareOp .NotIn v w) Q E s := λ Γ p hΓ => by
 have q := h Γ p hΓ
 change Sem.wp M Γ (contains w v >>= λ r => (pure (Value.bool r) : Sem Value)) _ _ p s at q
 show Sem.wp M Γ (contains w v >>= λ r => (pure (Value.bool !r) : Sem Value)) _ _ p s
 rw [Sem.wp_bind'] at q ⊢
 exact Sem.wp_mono M Γ _ (λ a _ s' h => h a rfl) (λ _ _ _ e => e) p s q
theorem Zn6 {v w : Value} {x y : PV} : Sim c F (V2 v w x y) (λ _ _ a b => a = .bool b) (compareOp .NotIn v w) (bNot (pIn x y)) := by
 intro A φ μ s Q E hA R p hb hQ hE
 unfold bNot at hb hQ hE
 rw [PM.B] at hb hQ hE
 refine Zn5 (Zn4 A φ μ s _ E hA R p (λ e => hb (by rw [e])) (λ a b φ' μ' s' e R' x' r b' e' => ?_) λ e y φ' μ' s' he => hE e y φ' μ' s' (by rw [he]))
 cases r.symm.trans e'
 exact hQ _ _ _ _ _ (by rw [e]; rfl) R' x' rfl
noncomputable def isNone : PV -> Option Bool
 | .none => some true
 | .raw _ => none
 | .undef => none
 | _ => some false
noncomputable def pIs (x y : PV) : PM Bool := λ μ => match y, isNone x with
 | .none, some b => .ok b μ
 | _, _ => .bad
theorem Zf6 {φ : List Addr} {h : Heap} {v : Value} {x : PV} {b : Bool} (r : VR φ h v x) (e : isNone x = some b) : (v == Value.none) = b := by
 induction r using VR.cs with
 | raw => exact Zh e
 | _ => exact Option.some.inj e
theorem Zsw {v w : Value} {x y : PV} : Sim c F (V2 v w x y) (λ _ _ a b => a = .bool b) (compareOp .Is v w) (pIs x y) := by
 intro A φ μ s Q E hA R p hb hQ hE
 obtain ⟨rx, ry⟩ := p
 unfold pIs at hb hQ
 induction ry using VR.cs with
 | none =>
  cases hx : isNone x with
  | none => rw [hx] at hb; exact (hb rfl).elim
  | some b =>
   refine is_none ?_
   rw [Zf6 rx hx]
   exact hQ _ _ _ _ _ (by rw [hx]) R Ext.refl rfl
 | _ => exact (hb rfl).elim
theorem Zn7 {v w : Value} {x y : PV} : Sim c F (V2 v w x y) (λ _ _ a b => a = .bool b) (compareOp .IsNot v w) (bNot (pIs x y)) := by
 intro A φ μ s Q E hA R p hb hQ hE
 obtain ⟨rx, ry⟩ := p
 unfold bNot at hb hQ
 rw [PM.B] at hb hQ
 unfold pIs at hb hQ
 induction ry using VR.cs with
 | none =>
  cases hx : isNone x with
  | none => rw [hx] at hb; exact (hb rfl).elim
  | some b =>
   refine isNot_none ?_
   rw [Zf6 rx hx]
   exact hQ _ _ _ _ _ (by rw [hx]; rfl) R Ext.refl rfl
 | _ => exact (hb rfl).elim
noncomputable def pOrd (f : Int -> Int -> Bool) (x y : PV) : PM Bool := λ μ => match x, y with
 | .int i, .int j => .ok (f i j) μ
 | _, _ => .bad
noncomputable def pCmp : CmpOp -> PV -> PV -> PM Bool
 | .Eq => pEq
 | .NotEq => λ x y => bNot (pEq x y)
 | .In => pIn
 | .NotIn => λ x y => bNot (pIn x y)
 | .Is => pIs
 | .IsNot => λ x y => bNot (pIs x y)
 | .Lt => pOrd λ i j => decide (i < j)
 | .LtE => pOrd λ i j => decide (i <= j)
 | .Gt => pOrd λ i j => decide (i > j)
 | .GtE => pOrd λ i j => decide (i ≥ j)
theorem Zey {f : Int -> Int -> Bool} {op : CmpOp} {v w : Value} {x y : PV} (hf : ∀ (A : Around) (s : Shared) (E : Value -> Shared -> Prop) (Q : Value -> Shared -> Prop) (i : Int) (t : Tok) (j : Int) (u : Tok), Q (.bool (f i j)) s -> wpAny (model c.prog c.w) A (compareOp op (.int i t) (.int j u)) Q E s) :
  Sim c F (V2 v w x y) (λ _ _ a b => a = .bool b) (compareOp op v w) (pOrd f x y) := by
 intro A φ μ s Q E hA R p hb hQ hE
 obtain ⟨rx, ry⟩ := p
 induction rx using VR.cs with
 | int i t =>
  induction ry using VR.cs with
  | int j u => exact hf _ _ _ _ _ _ _ _ (hQ _ _ _ _ _ rfl R Ext.refl rfl)
  | _ => exact (hb rfl).elim
 | _ => exact (hb rfl).elim
theorem Zlv {op : CmpOp} {v w : Value} {x y : PV} : Sim c F (V2 v w x y) (λ _ _ a b => a = .bool b) (compareOp op v w) (pCmp op x y) := by
 cases op with
 | Eq => exact Zsu
 | NotEq => exact Zsv
 | In => exact Zn4
 | NotIn => exact Zn6
 | Is => exact Zsw
 | IsNot => exact Zn7
 | Lt => exact Zey (op := .Lt) (f := λ i j => decide (i < j)) (λ A s E Q i t j u h => P.lt_int h)
 | LtE => exact Zey (op := .LtE) (f := λ i j => decide (i <= j)) (λ A s E Q i t j u h => P.le_int h)
 | Gt => exact Zey (op := .Gt) (f := λ i j => decide (i > j)) (λ A s E Q i t j u h => P.gt_int h)
 | GtE => exact Zey (op := .GtE) (f := λ i j => decide (i ≥ j)) (λ A s E Q i t j u h => P.ge_int h)
noncomputable def bCmp (op : CmpOp) (f g : PM PV) : PM Bool := f >>= λ x => g >>= λ y => pCmp op x y
noncomputable def eCmp (op : CmpOp) (f g : PM PV) : PM PV := f >>= λ x => g >>= λ y => pCmp op x y >>= λ b => pure (.bool b)
theorem Zi {op : CmpOp} {l r : Expr} {pos : Pos} {f g : PM PV} (h : SimE c F l f) (h' : SimE c F r g) (hm : behindInMarks op r = false) : SimB c F (.Compare l [op] [r] pos) (bCmp op f g) := λ A φ μ s Q E hA R p hb hQ hE => by
 unfold bCmp at hb hQ hE
 refine wpAny_isTrue_Compare1 ?_ hm
 refine h.use hA R p hb hE λ a b φ' μ' s' eg R' x r => ?_
 rw [eg] at hb hQ hE
 refine (h'.keep (v := a) (x := b)).use hA R' r hb (λ e y φ' μ' s' he R' x' r => hE e y φ' μ' s' he R' (x.trans x') (r.le x.dom)) λ aC bC φ2 μ2 s2 eg RC xC rC => ?_
 rw [eg] at hb hQ hE
 refine Zlv A φ2 μ2 s2 _ _ hA RC rC hb (λ aD bD φ3 μ3 s3 e₃ R3 xD rD => ?_) (λ e y φ' μ' s' he R' x' r => hE e y φ' μ' s' he R' (x.trans (xC.trans x')) (r.le (x.trans xC).dom))
 subst rD
 exact wpAny_truthy_bool (hQ _ _ _ _ _ e₃ R3 (x.trans (xC.trans xD)) rfl)
theorem Zcm {op : CmpOp} {l r : Expr} {pos : Pos} {f g : PM PV} (h : SimE c F l f) (h' : SimE c F r g) (hm : behindInMarks op r = false) : SimE c F (.Compare l [op] [r] pos) (eCmp op f g) := λ A φ μ s Q E hA R p hb hQ hE => by
 unfold eCmp at hb hQ hE
 refine wpAny_Compare1 ?_ hm
 refine h.use hA R p hb hE λ a b φ' μ' s' eg R' x r => ?_
 rw [eg] at hb hQ hE
 refine (h'.keep (v := a) (x := b)).use hA R' r hb (λ e y φ' μ' s' he R' x' r => hE e y φ' μ' s' he R' (x.trans x') (r.le x.dom)) λ aC bC φ2 μ2 s2 eg RC xC rC => ?_
 rw [eg] at hb hQ hE
 refine Zlv.use hA RC rC hb (λ e y φ' μ' s' he R' x' r => hE e y φ' μ' s' he R' (x.trans (xC.trans x')) (r.le (x.trans xC).dom)) λ aD bD φ3 μ3 s3 e₃ R3 xD rD => ?_
 rw [e₃] at hQ
 subst rD
 exact hQ _ _ _ _ _ rfl R3 (x.trans (xC.trans xD)) (.bool _)
noncomputable def pArith (f : Int -> Int -> Int) (ok : Int -> Bool) (x y : PV) : PM PV := λ μ => match x, y with
 | .int i, .int j => (match ok j with | true => .ok (.int (f i j)) μ | false => .bad)
 | _, _ => .bad
noncomputable def pBin : Operator -> PV -> PV -> PM PV
 | .Add => pArith (λ i j => i + j) λ _ => true
 | .Sub => pArith (λ i j => i - j) λ _ => true
 | .Mod => pArith (λ i j => i.fmod j) λ j => j != 0
 | .FloorDiv => pArith (λ i j => i.fdiv j) λ j => j != 0 && decide (j.natAbs < 1000)
 | _ => λ _ _ => PM.H
theorem noPylong {i j : Int} (h : j.natAbs < 1000) : Builtin.divisionGoesByPylong i j = false := by
 unfold Builtin.divisionGoesByPylong
 have h2 : j.natAbs.log2 < 10 := by
  by_cases h0 : j.natAbs = 0
  ·rw [h0]; decide
  ·exact (Nat.log2_lt h0).mpr (Qkb h rfl)
 dsimp only
 split
 ·simp
 ·simp only [Bool.and_eq_false_iff, decide_eq_false_iff_not]
  left; lia
theorem Zcy {f : Int -> Int -> Int} {ok : Int -> Bool} {op : Operator} {v w : Value} {x y : PV}
  (hf : ∀ (A : Around) (s : Shared) (E : Value -> Shared -> Prop) (Q : Value -> Shared -> Prop) (i : Int) (t : Tok) (j : Int) (u : Tok), ok j = true -> Q (.int (f i j) s.toks) { s with toks := s.toks + 1 } -> wpAny (model c.prog c.w) A (binaryOp op (.int i t) (.int j u)) Q E s) :
  Sim c F (V2 v w x y) (λ φ h a b => VR φ h a b) (binaryOp op v w) (pArith f ok x y) := by
 intro A φ μ s Q E hA R p hb hQ hE
 obtain ⟨rx, ry⟩ := p
 induction rx using VR.cs with
 | int i t =>
  induction ry using VR.cs with
  | int j u =>
   have e : pArith f ok (.int i) (.int j) μ = (match ok j with | true => .ok (.int (f i j)) μ | false => .bad) := rfl
   rw [e] at hb hQ
   cases hj : ok j with
   | true =>
    rw [hj] at hQ
    with_reducible refine hf A s E Q i t j u hj ?_
    refine hQ _ (.int (f i j)) φ μ _ ?_ ?_ ?_ ?_
    ·rfl
    ·exact R.toks _
    ·exact Ext.refl
    ·exact .int _ _
   | false => rw [hj] at hb; exact (hb rfl).elim
  | _ => exact (hb rfl).elim
 | _ => exact (hb rfl).elim
theorem Zq4 {op : Operator} {v w : Value} {x y : PV} : Sim c F (V2 v w x y) (λ φ h a b => VR φ h a b) (binaryOp op v w) (pBin op x y) := by
 cases op with
 | Add => exact Zcy (op := .Add) (f := λ i j => i + j) (ok := λ _ => true) λ A s E Q i t j u _ h => wpAny_add_int h
 | Sub => exact Zcy (op := .Sub) (f := λ i j => i - j) (ok := λ _ => true) λ A s E Q i t j u _ h => AutoIntOps.sub_0 h
 | Mod => exact Zcy (op := .Mod) (f := λ i j => i.fmod j) (ok := λ j => j != 0) λ A s E Q i t j u ok h => AutoIntOps.mod_1 (by simpa using ok) h
 | FloorDiv =>
  refine Zcy (op := .FloorDiv) (f := λ i j => i.fdiv j) (ok := λ j => j != 0 && decide (j.natAbs < 1000)) λ A s E Q i t j u ok h => ?_
  simp only [Bool.and_eq_true, decide_eq_true_eq] at ok
  exact AutoIntOps.floordiv_1 (by simpa using ok.1) (by rw [noPylong ok.2]; exact Bool.false_ne_true) h
 | _ => exact Sim.B
noncomputable def eBin (op : Operator) (f g : PM PV) : PM PV := f >>= λ x => g >>= λ y => pBin op x y
theorem Zau {op : Operator} {l r : Expr} {pos : Pos} {f g : PM PV} (h : SimE c F l f) (h' : SimE c F r g) : SimE c F (.BinOp l op r pos) (eBin op f g) := λ A φ μ s Q E hA R p hb hQ hE => by
 unfold eBin at hb hQ hE
 refine wpAny_BinOp ?_
 refine h.use hA R p hb hE λ a b φ' μ' s' eg R' x r => ?_
 rw [eg] at hb hQ hE
 refine (h'.keep (v := a) (x := b)).use hA R' r hb (λ e y φ' μ' s' he R' x' r => hE e y φ' μ' s' he R' (x.trans x') (r.le x.dom)) λ aC bC φ2 μ2 s2 eg RC xC rC => ?_
 rw [eg] at hb hQ hE
 exact Zq4.fin hA RC rC rfl (x.trans xC) hb hQ hE
end

section
variable {c : Cx} {F : Fx} {φ φ0 : List Addr} {μ : St} {s : Shared} {h₀ h' : Heap}
noncomputable def Fx.stk (F : Fx) : List Addr := F.frames.filterMap (·.frame)
structure Side (c : Cx) (F : Fx) (φ : List Addr) (h h' : Heap) : Prop where
 size : h.objs.size <= h'.objs.size
 keep : ∀ a o, h.get? a = some o -> h'.get? a = some o ∨ (a ∈ F.stk ∧ ∃ sl, h'.get? a = some { o with slots := sl }) ∨ (¬ FzO o ∧ (∃ vs, o.data = .fields vs) ∧ a ∉ φ ∧ c.B.get? a = none)
theorem Rep.stkAt (R : Rep c F φ μ s) {a : Addr} (h : a ∈ F.stk) : a ∉ φ ∧ c.B.get? a = none ∧ ∃ o es ep, s.heap.get? a = some o ∧ o.data = .dict es ep := by
 obtain ⟨env, he, hf⟩ := List.mem_filterMap.mp h
 obtain ⟨_, L, h2, h3, h4, r⟩ := R.frm env he
 rw [h2] at hf; cases hf
 exact ⟨h3, h4, r⟩
theorem Side.mv (S : Side c F φ s.heap h') (R : Rep c F φ μ s) {v : Value} {x : PV} (r : VR φ s.heap v x) : VR φ h' v x := by
 refine r.move (λ _ _ e => e) (λ _ _ _ h => h) λ a o ho hn hz => ?_
 rcases S.keep a o ho with k | ⟨k, _⟩ | ⟨k, _⟩
 ·exact k
 ·obtain ⟨_, _, o', es, ep, ho', hd⟩ := R.stkAt k
  rw [ho] at ho'; cases ho'
  exact absurd ⟨es, ep, hd⟩ hz.notFrame
 ·exact absurd hz k
theorem Side.data (S : Side c F φ s.heap h') (R : Rep c F φ μ s) {a : Addr} {o : Obj} (ho : s.heap.get? a = some o) (hd : ∀ vs, o.data ≠ .fields vs) : ∃ sl, h'.get? a = some { o with slots := sl } := by
 rcases S.keep a o ho with k | ⟨_, sl, k⟩ | ⟨_, ⟨vs, k⟩, _⟩
 ·exact ⟨o.slots, k⟩
 ·exact ⟨sl, k⟩
 ·exact absurd k (hd vs)
theorem Rep.side (R : Rep c F φ μ s) (S : Side c F φ s.heap h') {tk : Nat} : Rep c F φ μ { s with heap := h', toks := tk } := by
 have exact_ : ∀ a o, s.heap.get? a = some o -> a ∉ F.stk -> (a ∈ φ ∨ (∃ ob, c.B.get? a = some ob)) -> h'.get? a = some o := λ a o ho hs hb => by
  rcases S.keep a o ho with k | ⟨k, _⟩ | ⟨_, _, k1, k2⟩
  ·exact k
  ·exact absurd k hs
  ·rcases hb with hb | ⟨ob, hb⟩
   ·exact absurd hb k1
   ·rw [k2] at hb; cases hb
 have mv : ∀ v x, VR φ s.heap v x -> VR φ h' v x := λ v x r => S.mv R r
 have rest : Rest c F φ μ.fr h' := R.rest (λ _ _ _ h => h) (λ a o ho _ hd => S.data R ho hd) mv
 refine ⟨R.ok, λ b o hb => ?_, R.os, R.gens, R.len, R.nodup, R.phiB, λ i a o h1 h2 => ?_, R.flen, R.lnodup, rest.nss, rest.cls, rest.vloc, rest.vcell, rest.frm⟩
 ·exact exact_ b o (R.keep b o hb) (λ h => by rw [(R.stkAt h).2.1] at hb; cases hb) (.inr ⟨o, hb⟩)
 ·obtain ⟨ob, hob⟩ := R.lt (mem_of_getElem? h1)
  exact (R.objs i a o h1 h2).move (λ _ _ e => e) mv ((exact_ a ob hob (λ h => (R.stkAt h).1 (mem_of_getElem? h1)) (.inl (mem_of_getElem? h1))).trans hob.symm)
theorem Ext.after {nss cls : List Addr} (xA : Ext nss cls φ0 h₀ φ s.heap) (size : s.heap.objs.size <= h'.objs.size)
  (keep : ∀ a o, s.heap.get? a = some o -> h'.get? a = some o ∨ ((∃ es ep, o.data = .dict es ep) ∧ ∃ sl, h'.get? a = some { o with slots := sl }) ∨ ¬ Mine.dom h₀ a) (hdom : ∀ a, Mine.dom h₀ a -> Mine.dom s.heap a -> Mine.dom h' a) : Ext nss cls φ0 h₀ φ h' := by
 refine ⟨⟨xA.grow, Nat.le_trans xA.size size, λ a o ho h1 h2 h3 => ?_⟩, λ a x => hdom a x (xA.dom a x)⟩
 rcases xA.old a o ho h1 h2 h3 with k | ⟨kc, sl, k⟩
 ·rcases keep a o k with q | q | q
  ·exact .inl q
  ·exact .inr q
  ·exact absurd ⟨o, ho⟩ q
 ·rcases keep a _ k with q | ⟨_, sl', q⟩ | q
  ·exact .inr ⟨kc, sl, q⟩
  ·exact .inr ⟨kc, sl', q⟩
  ·exact absurd ⟨o, ho⟩ q
theorem Side.trans {h'' : Heap} (S : Side c F φ s.heap h') (S' : Side c F φ h' h'') (hst : ∀ a ∈ F.stk, ∃ o es ep, s.heap.get? a = some o ∧ o.data = .dict es ep) : Side c F φ s.heap h'' := by
 refine ⟨Nat.le_trans S.size S'.size, λ a o ho => ?_⟩
 rcases S.keep a o ho with k | ⟨k, sl, k'⟩ | k
 ·exact S'.keep a o k
 ·refine .inr (.inl ⟨k, ?_⟩)
  obtain ⟨o', es, ep, ho', hd⟩ := hst a k
  rw [ho] at ho'; cases ho'
  rcases S'.keep a _ k' with q | ⟨_, sl', q⟩ | ⟨_, ⟨vs, q⟩, _⟩
  ·exact ⟨sl, q⟩
  ·exact ⟨sl', q⟩
  ·rw [hd] at q; cases q
 ·exact .inr (.inr k)
theorem Side.one {T : Addr} {o : Obj} {vs : Array Value} (ho : s.heap.get? T = some o) (hz : ¬ FzO o) (hd : o.data = .fields vs) (hn : T ∉ φ) (hb : c.B.get? T = none) (hs : Heap.SameBut T s.heap h') : Side c F φ s.heap h' := by
 refine ⟨Nat.le_of_eq hs.1.symm, λ a oa ha => ?_⟩
 by_cases e : a = T
 ·subst e
  rw [ho] at ha; cases ha
  exact .inr (.inr ⟨hz, ⟨vs, hd⟩, hn, hb⟩)
 ·exact .inl ((hs.2 a e).trans ha)
theorem Side.push {o : Obj} : Side c F φ s.heap (s.heap.push o) := ⟨by rw [Heap.size_push]; exact Nat.le_succ _, λ a oa ha => .inl (Heap.get?_push_of_some _ ha)⟩
theorem Side.slots (S : Heap.SlotsOnly F.stk s.heap h') : Side c F φ s.heap h' := by
 refine ⟨Nat.le_of_eq S.1.symm, λ a oa ha => ?_⟩
 by_cases e : a ∈ F.stk
 ·exact .inr (.inl ⟨e, S.2.2 a oa ha⟩)
 ·exact .inl ((S.2.1 a e).trans ha)
theorem Rep.fun (R : Rep c F φ μ s) : s.heap.FunFrames {} F.frames := by
 have go : ∀ l : List Env, (∀ env ∈ l, env ∈ F.frames) -> s.heap.FunFrames {} l := by
  intro l
  induction l with
  | nil => intro _; trivial
  | cons env r ih =>
   intro h
   obtain ⟨h1, L, h2, h3, h4, o, es, ep, ho, hd⟩ := R.frm env (h env (.head _))
   exact ⟨h1, ⟨L, o, h2, rfl, ho, λ vs e => by rw [hd] at e; cases e⟩, ih λ e he => h e (.tail _ he)⟩
 exact go F.frames λ _ h => h
theorem Zce {o : Obj} {n : String} (h : o.cls = .type n) (h1 : n ≠ "tuple") (h2 : n ≠ "list") (h3 : n ≠ "range") (h4 : n ≠ "method-wrapper") (h5 : n ≠ "dict_values" := by decide) : ¬ FzO o := by
 rintro ⟨e | e | e | e | e, _⟩ <;> rw [h] at e <;> injection e <;> contradiction
structure ExcN (c : Cx) (F : Fx) (n : Addr -> Prop) (φ : List Addr) (h h' : Heap) : Prop where
 side : Side c F φ h h'
 ext : ∀ {nss cls φ0 h₀}, (∀ a, dom h₀ a -> n a) -> Ext nss cls φ0 h₀ φ h -> Ext nss cls φ0 h₀ φ h'
theorem ExcN.trans {n : Addr -> Prop} {h'' : Heap} (R : Rep c F φ μ s) (a : ExcN c F n φ s.heap h') (b : ExcN c F n φ h' h'') : ExcN c F n φ s.heap h'' :=
 ⟨a.side.trans b.side λ x hx => (R.stkAt hx).2.2, λ hn x => b.ext hn (a.ext hn x)⟩
theorem ExcN.one {n : Addr -> Prop} {T : Addr} {o : Obj} {vs : Array Value} (ho : s.heap.get? T = some o) (hz : ¬ FzO o) (hd : o.data = .fields vs) (hn : T ∉ φ) (hb : c.B.get? T = none) (hT : ¬ n T) (hal : dom h' T) (hs : Heap.SameBut T s.heap h') : ExcN c F n φ s.heap h' := by
 refine ⟨Side.one ho hz hd hn hb hs, λ h0 x => x.after (Nat.le_of_eq hs.1.symm) (λ a oa ha => ?_) λ a _ ⟨oa, ha⟩ => by
  by_cases e : a = T
  ·rw [e]; exact hal
  ·exact ⟨oa, (hs.2 a e).trans ha⟩⟩
 by_cases e : a = T
 ·exact .inr (.inr (by rw [e]; exact λ q => hT (h0 _ q)))
 ·exact .inl ((hs.2 a e).trans ha)
theorem ExcN.push {n : Addr -> Prop} {o : Obj} : ExcN c F n φ s.heap (s.heap.push o) :=
 ⟨Side.push, λ h0 x => x.after (by rw [Heap.size_push]; exact Nat.le_succ _) (λ a oa ha => .inl (Heap.get?_push_of_some _ ha)) λ a _ ⟨oa, ha⟩ => ⟨oa, Heap.get?_push_of_some _ ha⟩⟩
theorem ExcN.slots {n : Addr -> Prop} (R : Rep c F φ μ s) (S : Heap.SlotsOnly F.stk s.heap h') : ExcN c F n φ s.heap h' := by
 refine ⟨Side.slots S, λ h0 x => x.after (Nat.le_of_eq S.1.symm) (λ a oa ha => ?_) λ a _ ⟨oa, ha⟩ => by
  by_cases e : a ∈ F.stk
  ·obtain ⟨sl, q⟩ := S.2.2 a oa ha
   exact ⟨_, q⟩
  ·exact ⟨oa, (S.2.1 a e).trans ha⟩⟩
 by_cases e : a ∈ F.stk
 ·obtain ⟨_, _, o, es, ep, ho, hd⟩ := R.stkAt e
  rw [ha] at ho; cases ho
  exact .inr (.inl ⟨⟨es, ep, hd⟩, S.2.2 a oa ha⟩)
 ·exact .inl ((S.2.1 a e).trans ha)
def ExcT (c : Cx) (n : Addr -> Prop) (φ : List Addr) (h : Heap) (e x : Value) : Prop :=
 ∃ (ea : Addr) (oe : Obj) (vs : Array Value) (T : Addr) (oT : Obj) (ts : Array Value), e = .ref ea ∧ h.get? ea = some oe ∧ oe.cls = x ∧ ¬ FzO oe ∧ oe.data = .fields vs ∧ 5 <= vs.size ∧ ea ∉ φ ∧ c.B.get? ea = none ∧ ¬ n ea ∧
  vs[1]? = some (.ref T) ∧ T ≠ ea ∧ T ∉ φ ∧ c.B.get? T = none ∧ ¬ n T ∧ h.get? T = some oT ∧ oT.cls = .type "traceback" ∧ oT.data = .fields ts ∧ 3 < ts.size
theorem ExcT.r {n : Addr -> Prop} {h : Heap} {e x : Value} (t : ExcT c n φ h e x) : ExcR c n φ h e x := by
 obtain ⟨ea, oe, vs, T, oT, ts, h1, h2, h3, h4, h5, h6, h7, h8, h9, h10, r⟩ := t
 exact ⟨ea, oe, vs, h1, h2, h3, h4, h5, h6, h7, h8, h9, .inr ⟨T, oT, ts, h10, r⟩⟩
theorem Zpj {pl : List Value} {a b d e f : Value} : 3 < (([a, b, d, e, f] ++ (if pl.isEmpty then List.replicate 6 Value.none else pl)).toArray).size := by
 simp only [size_toArray, length_append, length_cons, List.length_nil]; lia
theorem Zfs {A : Around} {n : Addr -> Prop} {e x : Value} {outer : List Env} {E : Value -> Shared -> Prop} {Q : Unit -> Shared -> Prop} (hA : ACtx F A) (R : Rep c F φ μ s) (hfr : F.frames = F.env :: outer) (hx : ExcR c n φ s.heap e x)
  (hQ : ∀ h', ExcN c F n φ s.heap h' -> ExcT c n φ h' e x -> Q () { s with heap := h' }) (hn : ∀ a, n a -> dom s.heap a) : wpAny (model c.prog c.w) A (noteFrame e F.env) Q E s := by
 obtain ⟨ea, oe, vs, rfl, h2, h3, hz, h4, h5, h6, h7, h8, h9⟩ := hx.there
 obtain ⟨hk, L, hL, hLφ, hLB, oL, esL, epL, hoL, hdL⟩ := R.frm F.env (by rw [hfr]; exact .head _)
 have hstk : F.stk = (F.env :: outer).filterMap (·.frame) := by unfold Fx.stk; rw [hfr]
 have entry : ∀ (s1 : Shared) (RB : Rep c F φ μ s1) (head : Value) (hadNext : Bool), ExcN c F n φ s.heap s1.heap -> s1.heap.get? ea = some oe -> (∀ h', ExcN c F n φ s.heap h' -> ExcT c n φ h' (.ref ea) x -> Q () { s1 with heap := h' }) ->
   wpAny (model c.prog c.w) A (do let a <- frameOf F.env; let pl <- entryPlaceOf L hadNext; let b <- EntryCells.newEntry head a .none (rawInt L) .none pl; setField (.ref ea) 1 b) Q E s1 := by
  intro s1 RB head hadNext N1 he hQ1
  refine Qb (wpAny_frameOf_fun (base := {}) (by rw [hA.frames, hfr]) (by have := RB.fun; rw [hfr] at this; exact this) hL λ h₁ hsB => ?_)
  rw [<- hstk] at hsB
  have N2 : ExcN c F n φ s1.heap h₁ := ExcN.slots RB hsB
  have RC : Rep c F φ μ { s1 with heap := h₁ } := RB.side (tk := s1.toks) N2.side
  have he2 : h₁.get? ea = some oe := (hsB.2.1 ea λ hm => by
   obtain ⟨_, _, o, _, _, ho, hd⟩ := RB.stkAt hm
   rw [he] at ho; cases ho; rw [h4] at hd; cases hd).trans he
  refine Qb (wpAny_entryPlaceOf λ pl hpl => ?_)
  unfold EntryCells.newEntry newFields
  refine Qb (wpAny_newObj_type ?_ (hpl.sizeOk5 _ _ _ _ _))
  have he3 := Heap.get?_push_of_some (h := h₁) { cls := .type "traceback", dict := none, data := .fields ([head, .ref L, .none, rawInt L, .none] ++ (if pl.isEmpty then List.replicate 6 Value.none else pl)).toArray } he2
  refine wpAny_setField he3 h4 (Qkxl Qr h5 rfl) ?_
  have R3 : Rep c F φ μ { s1 with heap := h₁.push { cls := .type "traceback", dict := none, data := .fields ([head, .ref L, .none, rawInt L, .none] ++ (if pl.isEmpty then List.replicate 6 Value.none else pl)).toArray } } := RC.side (tk := s1.toks) (Side.push (s := { s1 with heap := h₁ }))
  have N3 : ExcN c F n φ s1.heap (h₁.push { cls := .type "traceback", dict := none, data := .fields ([head, .ref L, .none, rawInt L, .none] ++ (if pl.isEmpty then List.replicate 6 Value.none else pl)).toArray }) := N2.trans RB (ExcN.push (s := { s1 with heap := h₁ }))
  have sb := Heap.SameBut.update (h₁.push { cls := .type "traceback", dict := none, data := .fields ([head, .ref L, .none, rawInt L, .none] ++ (if pl.isEmpty then List.replicate 6 Value.none else pl)).toArray }) ea (Obj.mapFields (·.setIfInBounds 1 (Value.ref h₁.objs.size)))
  have N4 := N3.trans RB (ExcN.one (s := { s1 with heap := h₁.push { cls := .type "traceback", dict := none, data := .fields ([head, .ref L, .none, rawInt L, .none] ++ (if pl.isEmpty then List.replicate 6 Value.none else pl)).toArray } }) (F := F) (c := c) (φ := φ) (n := n) he3 hz h4 h6 h7 h8 ⟨_, Heap.get?_update_self _ he3 (Obj.isFreed_of_fields (Obj.data_mapFields h4 _))⟩ sb)
  have hTe : h₁.objs.size ≠ ea := Nat.ne_of_gt (Heap.lt_size he2)
  have hd4 := Obj.data_mapFields h4 (·.setIfInBounds 1 (Value.ref h₁.objs.size))
  refine hQ1 _ (N1.trans R N4) ⟨ea, _, _, h₁.objs.size, _, _, rfl, Heap.get?_update_self _ he3 (Obj.isFreed_of_fields hd4), (Obj.cls_mapFields _ _).trans h3, ?_, hd4, by simpa using h5, h6, h7, h8, ?_, hTe, ?_, ?_, ?_, (sb.2 _ hTe).trans (Heap.get?_push_size _ rfl), rfl, rfl, Zpj⟩
  rotate_left
  ·show (vs.setIfInBounds 1 (Value.ref h₁.objs.size))[1]? = some (Value.ref h₁.objs.size)
   have : 1 < vs.size := Qkxl Qr h5 rfl
   simp [this]
  rotate_right
  ·rintro ⟨q1, q2⟩
   refine hz ⟨?_, ?_⟩
   ·rw [Obj.cls_mapFields] at q1; exact q1
   ·exact .inr ⟨_, h4⟩
  ·intro hm
   exact absurd (RC.phiLt hm) (Nat.lt_irrefl _)
  ·cases q : c.B.get? h₁.objs.size with
   | none => rfl
   | some o => exact absurd (Heap.lt_size (RC.keep _ o q)) (Nat.lt_irrefl _)
  ·intro q
   obtain ⟨oq, hq⟩ := hn _ q
   exact absurd (Heap.lt_size hq) (Nat.not_lt_of_le (Nat.le_trans N1.side.size N2.side.size))
 unfold noteFrame
 simp only [hL]
 rcases h9 with h9 | ⟨T, oT, ts, a1, a2, a3, a4, a5, a6, a7, a8, a9⟩
 ·refine Qb (wpAny_field h2 h4 h9 ?_)
  rw [if_neg (by decide)]
  exact entry s R _ _ ⟨⟨Qr, λ _ _ h => .inl h⟩, λ _ x => x⟩ h2 hQ
 ·refine Qb (wpAny_field h2 h4 a1 ?_)
  rw [if_pos (show (Value.ref T != Value.none) = true from by simp)]
  obtain ⟨x3, hx3⟩ : ∃ x3, ts[3]? = some x3 := ⟨_, Array.getElem?_eq_getElem a9⟩
  refine Qb (wpAny_field a6 a8 hx3 ?_)
  cases hq : (x3 == rawInt L) with
  | true =>
   rw [if_pos rfl]
   exact Qp (hQ _ ⟨⟨Qr, λ _ _ h => .inl h⟩, λ _ x => x⟩ ⟨ea, oe, vs, T, oT, ts, rfl, h2, h3, hz, h4, h5, h6, h7, h8, a1, a2, a3, a4, a5, a6, a7, a8, a9⟩)
  | false =>
   rw [if_neg Bool.false_ne_true]
   have hzT : ¬ FzO oT := Zce a7 (by decide) (by decide) (by decide) (by decide)
   refine Qb (wpAny_setField a6 a8 a9 ?_)
   have sb := Heap.SameBut.update s.heap T (Obj.mapFields (·.setIfInBounds 3 Value.none))
   have N1 : ExcN c F n φ s.heap (s.heap.update T (Obj.mapFields (·.setIfInBounds 3 Value.none))) := ExcN.one a6 hzT a8 a3 a4 a5 ⟨_, Heap.get?_update_self _ a6 (Obj.isFreed_of_fields (Obj.data_mapFields a8 _))⟩ sb
   exact entry { s with heap := s.heap.update T (Obj.mapFields (·.setIfInBounds 3 Value.none)) } (R.side (tk := s.toks) N1.side) _ _ N1 ((sb.2 ea (Ne.symm a2)).trans h2) hQ
theorem Zcf {A : Around} {n : Addr -> Prop} {e x : Value} {fl : Option Addr} {E : Value -> Shared -> Prop} {Q : Unit -> Shared -> Prop} (R : Rep c F φ μ s) (hx : ExcT c n φ s.heap e x)
  (hQ : ∀ h', ExcN c F n φ s.heap h' -> ExcT c n φ h' e x -> Q () { s with heap := h' }) : wpAny (model c.prog c.w) A (setFlight e fl) Q E s := by
 obtain ⟨ea, oe, vs, T, oT, ts, rfl, h2, h3, hz, h4, h5, h6, h7, h8, a1, a2, a3, a4, a5, a6, a7, a8, a9⟩ := hx
 have hzT : ¬ FzO oT := Zce a7 (by decide) (by decide) (by decide) (by decide)
 unfold setFlight
 refine Qb (wpAny_field h2 h4 a1 ?_)
 rw [if_pos (show (Value.ref T != Value.none) = true from by simp)]
 refine wpAny_setField a6 a8 a9 ?_
 have sb := Heap.SameBut.update s.heap T (Obj.mapFields (·.setIfInBounds 3 (fl.elim Value.none λ f => rawInt f)))
 have hd4 := Obj.data_mapFields a8 (·.setIfInBounds 3 (fl.elim Value.none λ f => rawInt f))
 exact hQ _ (ExcN.one a6 hzT a8 a3 a4 a5 ⟨_, Heap.get?_update_self _ a6 (Obj.isFreed_of_fields hd4)⟩ sb) ⟨ea, oe, vs, T, _, _, rfl, (sb.2 ea (Ne.symm a2)).trans h2, h3, hz, h4, h5, h6, h7, h8, a1, a2, a3, a4, a5, Heap.get?_update_self _ a6 (Obj.isFreed_of_fields hd4), (Obj.cls_mapFields _ _).trans a7, hd4, by simpa using a9⟩
end

theorem Zd4 {M : Model} {Γ : Ctx} {p : Pos} {t : Sem Fin} {fs : List Frame} {s s' : Shared} {e : End} (h : Runs M Γ p t fs s e s') : s.heap.objs.size <= s'.heap.objs.size := by
 induction h <;> (try simp only [Shared.setGen, Heap.size_after_update, Heap.size_push] at *) <;> lia
theorem Zip {M : Model} {Γ : Ctx} {p : Pos} {s s' : Shared} {r : Result} (h : Returns M Γ p s r s') : s.heap.objs.size <= s'.heap.objs.size := Zd4 h
theorem Zmn {M : Model} {Γ : Ctx} {p : Pos} {g : Nat} {r : Resume} {s s' : Shared} {res : GenResult} (h : Wakes M Γ p g r s res s') : s.heap.objs.size <= s'.heap.objs.size := by
 unfold Wakes at h
 split at h
 ·exact h.elim
 ·split at h
  ·obtain ⟨eB, s1, hr, _, _, rfl⟩ := h; exact (Zd4 hr : (s.setGen g .running).heap.objs.size <= s1.heap.objs.size)
  ·rw [h.2]; exact Qr
  ·rw [h.2]; exact Qr
 ·obtain ⟨eB, s1, hr, _, _, rfl⟩ := h; exact (Zd4 hr : (s.setGen g .running).heap.objs.size <= s1.heap.objs.size)
 ·rw [h.2]; exact Qr
 ·rw [h.2]; exact Qr
theorem Zq5 {α : Type} (M : Model) (Γ : Ctx) (n : Nat) (t : Sem α) : ∀ (Q : α -> Pos -> Shared -> Prop) (E : Value -> Pos -> Shared -> Prop) (p : Pos) (s : Shared), n <= s.heap.objs.size -> Sem.wp M Γ t Q E p s ->
  Sem.wp M Γ t (λ a p' s' => n <= s'.heap.objs.size ∧ Q a p' s') (λ e p' s' => n <= s'.heap.objs.size ∧ E e p' s') p s := by
 induction t with
 | pure a => intro Q E p s hn h; exact ⟨hn, h⟩
 | raise e => intro Q E p s hn h; exact ⟨hn, h⟩
 | unsupported _ => intro Q E p s _ h; exact h
 | finish _ => intro Q E p s _ h; exact h
 | rule _ k ih => intro Q E p s hn h; exact ih () Q E p s hn h
 | «at» p' k ih => intro Q E p s hn h; exact ih () Q E p' s hn h
 | load a _ k ih => intro Q E p s hn h; obtain ⟨o, ho, h⟩ := h; exact ⟨o, ho, ih o Q E p s hn h⟩
 | update a _ f k ih => intro Q E p s hn h; exact ⟨h.1, ih () Q E p _ (by rw [Heap.size_after_update]; exact hn) h.2⟩
 | loadIfAlive a k ih => intro Q E p s hn h; exact ih _ Q E p s hn h
 | point _ k ih => intro Q E p s hn h; exact ih () Q E p s hn h
 | register _ _ => intro Q E p s _ h; exact h
 | alloc o k ih => intro Q E p s hn h; exact ih _ Q E p _ (by rw [Heap.size_push]; exact Nat.le_succ_of_le hn) h
 | fresh k ih => intro Q E p s hn h; exact ih _ Q E p _ hn h
 | ask k ih => intro Q E p s hn h; exact ih _ Q E p s hn h
 | choose src m k ih => intro Q E p s hn h; exact ⟨h.1, ih _ Q E p _ hn h.2⟩
 | os q _ k ih => intro Q E p s hn h; exact ih _ Q E p _ hn h
 | call c hd _ _ k ih => intro Q E p s hn h; obtain ⟨r, s', hr, h⟩ := h; exact ⟨r, s', hr, ih r Q E p s' (Nat.le_trans hn (Zip hr)) h⟩
 | handled own k ih => intro Q E p s hn h; exact ih _ Q E p s hn h
 | genState g k ih => intro Q E p s hn h; obtain ⟨st, hs, h⟩ := h; exact ⟨st, hs, ih _ Q E p s hn h⟩
 | newGen c k ih => intro Q E p s hn h; exact ih _ Q E p _ hn h
 | resume g r _ k ih => intro Q E p s hn h; obtain ⟨res, s', hw, h⟩ := h; exact ⟨res, s', hw, ih res Q E p s' (Nat.le_trans hn (Zmn hw)) h⟩
 | yield _ _ _ _ => intro Q E p s _ h; exact h
 | stack k ih => intro Q E p s hn h; exact ih _ Q E p s hn h
 | fork _ _ => intro Q E p s _ h; exact h
 | thread k ih => intro Q E p s hn h; exact ih _ Q E p s hn h
 | await _ _ _ _ _ => intro Q E p s _ h; exact h
theorem Z1 {α : Type} {M : Model} {A : Around} {s : Shared} {t : Sem α} {Q : α -> Shared -> Prop} {E : Value -> Shared -> Prop}
  (h : wpAny M A t (λ a s' => s.heap.objs.size <= s'.heap.objs.size -> Q a s') (λ e s' => s.heap.objs.size <= s'.heap.objs.size -> E e s') s) : wpAny M A t Q E s :=
 λ Γ p hΓ => Sem.wp_mono M Γ t (λ _ _ _ x => x.2 x.1) (λ _ _ _ x => x.2 x.1) _ _ (Zq5 M Γ _ t _ _ p s Qr (h Γ p hΓ))
section
variable {c : Cx} {F : Fx}
theorem Zn8 {A : Around} {n : Addr -> Prop} {φ : List Addr} {μ : St} {s : Shared} {e x : Value} {E : Value -> Shared -> Prop} (R : Rep c F φ μ s) (hx : ExcT c n φ s.heap e x)
  (hE : ∀ h', ExcN c F n φ s.heap h' -> ExcT c n φ h' e x -> E e { s with heap := h' }) : cameBackBy (model c.prog c.w) A F.env E e s := by
 unfold cameBackBy
 obtain ⟨ea, oe, vs, T, oT, ts, rfl, h2, h3, hz, h4, h5, h6, h7, h8, a1, r⟩ := id hx
 refine Qb (wpAny_field h2 h4 a1 ?_)
 rw [if_neg (show ¬ ((Value.ref T == Value.none) = true) from by simp)]
 exact Zcf R hx hE
theorem Zpk {A : Around} {n : Addr -> Prop} {φ : List Addr} {μ : St} {s : Shared} {e x : Value} {outer : List Env} {E : Value -> Shared -> Prop} (hA : ACtx F A) (hfr : F.frames = F.env :: outer) (R : Rep c F φ μ s) (hx : ExcR c n φ s.heap e x) (hn : ∀ a, n a -> dom s.heap a)
  (hE : ∀ h', ExcN c F n φ s.heap h' -> ExcT c n φ h' e x -> E e { s with heap := h' }) : notedBy (model c.prog c.w) A F.env E e s := Zfs hA R hfr hx hE hn
theorem Ziq {A : Around} {φ φ0 : List Addr} {h₀ : Heap} {μ : St} {s : Shared} {e x : Value} {outer : List Env} {E : Value -> Shared -> Prop} (hA : ACtx F A) (hfr : F.frames = F.env :: outer) (R : Rep c F φ μ s) (hx : ExcR c (dom h₀) φ s.heap e x)
  (xA : Ext F.nss F.cls φ0 h₀ φ s.heap) (hE : ∀ s', Rep c F φ μ s' -> Ext F.nss F.cls φ0 h₀ φ s'.heap -> ExcR c (dom h₀) φ s'.heap e x -> E e s') :
  notedBy (model c.prog c.w) A F.env (λ e s' => cameBackBy (model c.prog c.w) A F.env E e s') e s :=
 Zpk hA hfr R hx xA.dom λ h₁ N1 TB => Zn8 (s := { s with heap := h₁ }) (R.side (tk := s.toks) N1.side) TB λ h₂ N2 TC =>
  hE { s with heap := h₂ } ((R.side (tk := s.toks) N1.side).side (tk := s.toks) N2.side) (N2.ext (λ _ q => q) (N1.ext (λ _ q => q) xA)) TC.r
theorem Zhg {test : Expr} {body orelse : List Stmt} {pos : Pos} {outer : List Env} {t : PM Bool} {f g : PM MF} (hfr : F.frames = F.env :: outer) (n : Nat) (ht : SimB c F test t) (hb : SimSS c F body f) (he : SimSS c F orelse g) :
  SimS c F (.While test body orelse pos) (whileM t f g n) := by
 intro A φ μ s Q E hA R p
 refine gen λ O hO hbad hQ hE => ?_
 refine wpAny_While ?_
 refine codeAny_whileLoop (λ m s' => ∃ φ' μ', Rep c F φ' μ' s' ∧ Ext F.nss F.cls φ s.heap φ' s'.heap ∧ whileM t f g m μ' = O) ?_ n ⟨φ, μ, R, Ext.refl, hO⟩
 rintro m s1 ⟨φ1, μ1, RB, xB, eB⟩
 cases m with
 | zero => exact (hbad eB.symm).elim
 | succ m =>
  rw [Zfp] at eB
  have exc : ∀ e x φ' μ' s', O = .exc x μ' -> Rep c F φ' μ' s' -> Ext F.nss F.cls φ s.heap φ' s'.heap -> ExcR c (dom s.heap) φ' s'.heap e x -> notedBy (model c.prog c.w) A F.env (λ e s' => cameBackBy (model c.prog c.w) A F.env E e s') e s' :=
   λ e x φ' μ' s' ho R' x' r => Ziq hA hfr R' r x' λ s'' R'' x'' r'' => hE e x φ' μ' s'' ho R'' x'' r''
  refine ht.use hA RB trivial (by rw [eB]; exact hbad) (λ e x φ' μ' s' ho R' x' r => exc e x φ' μ' s' (eB.symm.trans ho) R' (xB.trans x') (r.le xB.dom)) λ a b φ2 μ2 s2 eg RC xC rC => ?_
  subst rC
  rw [eg] at eB
  have x12 := xB.trans xC
  cases a with
  | true =>
   simp only [if_true] at eB ⊢
   refine hb.use hA RC trivial (by rw [eB]; exact hbad) (λ e x φ' μ' s' ho R' x' r => exc e x φ' μ' s' (eB.symm.trans ho) R' (x12.trans x') (r.le x12.dom)) λ a b φ3 μ3 s3 eg R3 xD rD => ?_
   rw [eg] at eB
   have x13 := x12.trans xD
   induction rD using FR.cs with
   | next => exact ⟨m, Nat.lt_succ_self _, φ3, μ3, R3, x13, eB⟩
   | cont => exact ⟨m, Nat.lt_succ_self _, φ3, μ3, R3, x13, eB⟩
   | brk => exact hQ _ _ φ3 μ3 s3 eB.symm R3 x13 .next
   | ret r => exact hQ _ _ φ3 μ3 s3 eB.symm R3 x13 (.ret r)
  | false =>
   simp only [Bool.false_eq_true, if_false] at eB ⊢
   refine he A φ2 μ2 s2 _ _ hA RC trivial (by rw [eB]; exact hbad) (λ a b φ3 μ3 s3 e₃ R3 xD rD => hQ a b φ3 μ3 s3 (eB.symm.trans e₃) R3 (x12.trans xD) rD) λ e x φ' μ' s' ho R' x' r => exc e x φ' μ' s' (eB.symm.trans ho) R' (x12.trans x') (r.le x12.dom)
end

structure ItP (c : Cx) (F : Fx) (it : Addr) (ob : Nat -> Obj -> Prop) (v : Value) (pv : PV) (get : Nat -> St -> Option (Option PV)) : Prop where
 data : ∀ k o, ob k o -> (∃ vs, o.data = .fields vs) ∧ ¬ FzO o
 next : ∀ (k : Nat) (A : Around) (φ : List Addr) (μ : St) (s : Shared) (Q : Option Value -> Shared -> Prop) (E : Value -> Shared -> Prop), ACtx F A -> Rep c F φ μ s -> (∃ o, s.heap.get? it = some o ∧ ob k o) -> VR φ s.heap v pv ->
  (get k μ = some none -> ∀ h' tk, Heap.ExtBut it s.heap h' -> Q none { s with heap := h', toks := tk }) ->
  (∀ x, get k μ = some (some x) -> ∀ w h' tk, (∃ o, h'.get? it = some o ∧ ob (k + 1) o) -> Heap.ExtBut it s.heap h' -> VR φ h' w x -> Q (some w) { s with heap := h', toks := tk }) ->
  get k μ ≠ none -> wpAny (model c.prog c.w) A (pyNext (.ref it)) Q E s
noncomputable def forIx (get : Nat -> St -> Option (Option PV)) (asg : PV -> PM Unit) (body : PM MF) : Nat -> Nat -> PM MF
 | 0, _ => PM.H
 | n + 1, k => λ μ => match get k μ with
  | none => .bad
  | some none => .ok .next μ
  | some (some x) => (asg x >>= λ _ => body >>= flowM (forIx get asg body n (k + 1))) μ
theorem Zez {get : Nat -> St -> Option (Option PV)} {asg : PV -> PM Unit} {body : PM MF} {n k : Nat} : forIx get asg body (n + 1) k = λ μ => match get k μ with | none => .bad | some none => .ok .next μ | some (some x) => (asg x >>= λ _ => body >>= flowM (forIx get asg body n (k + 1))) μ := rfl
section
variable {c : Cx} {F : Fx}
theorem Side.extBut {φ : List Addr} {s : Shared} {h' : Heap} {it : Addr} {o : Obj} (ho : s.heap.get? it = some o) (hz : ¬ FzO o) (hd : ∃ vs, o.data = .fields vs) (hn : it ∉ φ) (hb : c.B.get? it = none) (hs : Heap.ExtBut it s.heap h') (size : s.heap.objs.size <= h'.objs.size) : Side c F φ s.heap h' := by
 refine ⟨size, λ a oa ha => ?_⟩
 by_cases e : a = it
 ·subst e
  rw [ho] at ha; cases ha
  exact .inr (.inr ⟨hz, hd, hn, hb⟩)
 ·exact .inl (hs a oa e ha)
noncomputable def goQ (c : Cx) (A : Around) (target : Expr) (it : Addr) (Q : Shared -> Prop) (Q' : Value -> Shared -> Prop) (E : Value -> Shared -> Prop) : Option Value -> Shared -> Prop
 | none, s => Q s
 | some w, s => wpAny (model c.prog c.w) A (letOwnedTupleGo target (.ref it) w) (λ _ s => Q' w s) E s
structure TnP (c : Cx) (F : Fx) (target : Expr) (it : Addr) (ob : Nat -> Obj -> Prop) (v : Value) (pv : PV) (get : Nat -> St -> Option (Option PV)) : Prop where
 data : ∀ k o, ob k o -> (∃ vs, o.data = .fields vs) ∧ ¬ FzO o
 turn : ∀ (k : Nat) (A : Around) (φ : List Addr) (μ : St) (s : Shared) (Q : Shared -> Prop) (Q' : Value -> Shared -> Prop) (E : Value -> Shared -> Prop), ACtx F A -> Rep c F φ μ s -> (∃ o, s.heap.get? it = some o ∧ ob k o) -> VR φ s.heap v pv ->
  (get k μ = some none -> ∀ h' tk, Heap.ExtBut it s.heap h' -> s.heap.objs.size <= h'.objs.size -> Q { s with heap := h', toks := tk }) ->
  (∀ x, get k μ = some (some x) -> ∀ w h' tk, (∃ o, h'.get? it = some o ∧ ob (k + 1) o) -> Heap.ExtBut it s.heap h' -> VR φ h' w x -> s.heap.objs.size <= h'.objs.size -> Q' w { s with heap := h', toks := tk }) ->
  get k μ ≠ none -> wpAny (model c.prog c.w) A (pyNext (.ref it)) (goQ c A target it Q Q' E) E s
theorem ItP.turns {target : Expr} {it : Addr} {ob : Nat -> Obj -> Prop} {v : Value} {pv : PV} {get : Nat -> St -> Option (Option PV)} (hI : ItP c F it ob v pv get) (hlet : ∀ k w (A : Around) (s : Shared) (Q : Unit -> Shared -> Prop) (E : Value -> Shared -> Prop), (∃ o, s.heap.get? it = some o ∧ ob k o) -> Q () s -> wpAny (model c.prog c.w) A (letOwnedTupleGo target (.ref it) w) Q E s) : TnP c F target it ob v pv get :=
 ⟨hI.data, λ k A φ μ s Q Q' E hA R hit hr hn hi hb => Z1 (hI.next k A φ μ s _ _ hA R hit hr (λ hg h' tk hs size => hn hg h' tk hs size) (λ x hg w h' tk hit' hs hw size => hlet (k + 1) w A _ _ _ hit' (hi x hg w h' tk hit' hs hw size)) hb)⟩
structure FI (c : Cx) (F : Fx) (it : Addr) (ob : Nat -> Obj -> Prop) (v : Value) (pv : PV) {β : Type} (f : Nat -> PM β) (O : Out β) (φ0 : List Addr) (h₀ : Heap) (k : Nat) (φ : List Addr) (μ : St) (s : Shared) : Prop where
 R : Rep c F φ μ s
 x : Ext F.nss F.cls φ0 h₀ φ s.heap
 hit : ∃ o, s.heap.get? it = some o ∧ ob k o
 nin : it ∉ φ
 hv : VR φ s.heap v pv
 eq : f k μ = O
theorem FI.step {it : Addr} {ob : Nat -> Obj -> Prop} {v : Value} {pv : PV} (hI : ∀ k o, ob k o -> (∃ vs, o.data = .fields vs) ∧ ¬ FzO o) {β : Type} {f : Nat -> PM β} {O : Out β} {φ0 : List Addr} {h₀ : Heap} {k : Nat} {φ : List Addr} {μ : St} {s : Shared}
  (I : FI c F it ob v pv f O φ0 h₀ k φ μ s) (hnew : h₀.objs.size <= it) (hitB : c.B.get? it = none) {h' : Heap} {tk : Nat} (hs : Heap.ExtBut it s.heap h') (size : s.heap.objs.size <= h'.objs.size) :
  Rep c F φ μ { s with heap := h', toks := tk } ∧ Ext F.nss F.cls φ0 h₀ φ h' ∧ (∀ w x, VR φ s.heap w x -> VR φ h' w x) := by
 obtain ⟨o1, hio1, hob1⟩ := I.hit
 obtain ⟨hdt, hz⟩ := hI k o1 hob1
 have S : Side c F φ s.heap _ := Side.extBut hio1 hz hdt I.nin hitB hs size
 refine ⟨I.R.side S, I.x.after size (λ a o ho => ?_) (λ a hd ⟨o, ho⟩ => ?_), λ w x r => S.mv I.R r⟩
 ·by_cases e : a = it
  ·exact .inr (.inr λ ⟨oq, hq⟩ => absurd (Heap.lt_size hq) (Nat.not_lt_of_le (e ▸ hnew)))
  ·exact .inl (hs a o e ho)
 ·by_cases e : a = it
  ·obtain ⟨oq, hq⟩ := hd
   exact absurd (Heap.lt_size hq) (Nat.not_lt_of_le (e ▸ hnew))
  ·exact ⟨o, hs a o e ho⟩
theorem FI.hold {it : Addr} {ob : Nat -> Obj -> Prop} (hI : ∀ k o, ob k o -> (∃ vs, o.data = .fields vs) ∧ ¬ FzO o) {k : Nat} {φ φ' : List Addr} {μ : St} {s s' : Shared} (R : Rep c F φ μ s) (hit : ∃ o, s.heap.get? it = some o ∧ ob k o) (nin : it ∉ φ)
  (x : Ext F.nss F.cls φ s.heap φ' s'.heap) : (∃ o, s'.heap.get? it = some o ∧ ob k o) ∧ it ∉ φ' := by
 obtain ⟨oC, hio2, hob2⟩ := hit
 obtain ⟨⟨vs, hvs⟩, hz⟩ := hI k oC hob2
 have hown := R.notOwn hio2 (.inr ⟨vs, hvs⟩)
 refine ⟨?_, x.nin hio2 nin⟩
 rcases x.old it _ hio2 nin hown.1 hown.2 with q | ⟨⟨es, ep, q⟩, _⟩
 ·exact ⟨oC, q, hob2⟩
 ·rw [hvs] at q; cases q
theorem Ze9 {target : Expr} {body : List Stmt} {outer : List Env} {it : Addr} {ob : Nat -> Obj -> Prop} {v : Value} {pv : PV} {get : Nat -> St -> Option (Option PV)} {asg : PV -> PM Unit} {g : PM MF} (hfr : F.frames = F.env :: outer)
  (hI : TnP c F target it ob v pv get)
  (hasg : ∀ w x, Sim c F (λ φ h => VR φ h w x) (λ _ _ _ _ => True) (assign target F.env w) (asg x)) (hbody : SimSS c F body g)
  {A : Around} {φ0 φ : List Addr} {s0 : Shared} {μ : St} {s : Shared} {Q : Flow -> Shared -> Prop} {E : Value -> Shared -> Prop} (hA : ACtx F A) (n k : Nat) {O : Out MF} (I : FI c F it ob v pv (forIx get asg g n) O φ0 s0.heap k φ μ s)
  (hnew : s0.heap.objs.size <= it) (hitB : c.B.get? it = none) (hbad : O ≠ .bad) (hQ : OkK c F FR φ0 s0 Q O) (hE : ExK c F φ0 s0 E O) :
  codeAny (model c.prog c.w) A (.forLoop target (.ref it) body [] F.env) (λ r s' => match r with | .ok f => Q f s' | .error e => cameBackBy (model c.prog c.w) A F.env E e s') s := by
 refine codeAny_forLoop_any (λ m s' => ∃ k' φ' μ', FI c F it ob v pv (forIx get asg g m) O φ0 s0.heap k' φ' μ' s') ?_ n ⟨k, φ, μ, I⟩
 rintro m s1 ⟨kB, φ1, μ1, I⟩
 cases m with
 | zero => exact (hbad I.eq.symm).elim
 | succ m =>
  have eB := I.eq
  rw [Zez] at eB
  dsimp only at eB
  refine wpAny_mono (hI.turn kB A φ1 μ1 s1 _ _ _ hA I.R I.hit I.hv (λ hg h' tk hs size => ?_) (λ x hg w h' tk hit' hs hw size => ?_) (λ hg => hbad (by rw [<- eB, hg]))) (λ r s h => by cases r <;> exact h) λ _ _ h => h
  ·obtain ⟨RC, xC, _⟩ := I.step hI.data hnew hitB (tk := tk) hs size
   refine wpAny_execs_nil ?_
   rw [hg] at eB
   exact hQ _ _ _ _ _ eB.symm RC xC .next
  ·obtain ⟨RC, xC, mv⟩ := I.step hI.data hnew hitB (tk := tk) hs size
   rw [hg] at eB
   dsimp only at eB
   have nin := I.nin
   have hv2 := mv _ _ I.hv
   clear mv
   clear I
   have exc : ∀ e y φ' μ' s', O = .exc y μ' -> Rep c F φ' μ' s' -> Ext F.nss F.cls φ0 s0.heap φ' s'.heap -> ExcR c (dom s0.heap) φ' s'.heap e y -> notedBy (model c.prog c.w) A F.env (λ e s' => cameBackBy (model c.prog c.w) A F.env E e s') e s' :=
    λ e y φ' μ' s' ho R' x' r => Ziq hA hfr R' r x' λ s'' R'' x'' r'' => hE e y φ' μ' s'' ho R'' x'' r''
   refine (hasg w x).use hA RC hw (by rw [eB]; exact hbad) (λ e y φ' μ' s' ho R' x' r => exc e y φ' μ' s' (eB.symm.trans ho) R' (xC.trans x') (r.le xC.dom)) λ a b φ3 μ3 s3 eg R3 xD _ => ?_
   rw [eg] at eB
   refine hbody.use hA R3 trivial (by rw [eB]; exact hbad) (λ e y φ' μ' s' ho R' x' r => exc e y φ' μ' s' (eB.symm.trans ho) R' (xC.trans (xD.trans x')) (r.le (xC.trans xD).dom)) λ a b φ4 μ4 s4 eg R4 x4 rE => ?_
   rw [eg] at eB
   have hv4 : VR φ4 s4.heap v pv := (hv2.ext RC xD).ext R3 x4
   obtain ⟨h4, n4⟩ := FI.hold hI.data RC hit' nin (xD.trans x4)
   have x24 := xC.trans (xD.trans x4)
   induction rE using FR.cs with
   | next => exact ⟨m, Nat.lt_succ_self _, kB + 1, φ4, μ4, R4, x24, h4, n4, hv4, eB⟩
   | cont => exact ⟨m, Nat.lt_succ_self _, kB + 1, φ4, μ4, R4, x24, h4, n4, hv4, eB⟩
   | brk => exact hQ _ _ φ4 μ4 s4 eB.symm R4 x24 .next
   | ret r => exact hQ _ _ φ4 μ4 s4 eB.symm R4 x24 (.ret r)
end

section
variable {c : Cx} {F : Fx}
noncomputable def getO (o0 o : Option MO) (k : Nat) : Option (Option PV) := match o0 with
 | some (.lst _) => (match o with
  | some (.lst xs) => some xs[k]?
  | _ => none)
 | some (.dct es0 ep0) => (match o with
  | some (.dct es ep) => if es.length = es0.length ∧ ep = ep0 then some ((es[k]?).map λ e => .int e.1) else none
  | _ => none)
 | _ => none
noncomputable def getOf (pv : PV) (μ0 : St) (k : Nat) (μ : St) : Option (Option PV) := match pv with
 | .lst xs => some xs[k]?
 | .tup xs => some xs[k]?
 | .rng a b st => if Builtin.Range.small a b st then (if (k : Int) < Builtin.Range.rangeSize a b st then some (some (.int (a + k * st))) else some none) else none
 | .obj i => getO μ0.hp[i]? μ.hp[i]? k
 | _ => none
theorem Zbg {o : Obj} {n : String} (h : o.cls = .type n) (h1 : n ≠ "tuple") (h2 : n ≠ "list") (h3 : n ≠ "range") (h4 : n ≠ "method-wrapper") (h5 : n ≠ "dict_values" := by decide) : ¬ FzO o := Zce h h1 h2 h3 h4 h5
theorem Zir {l : Addr} {pv : PV} {it : Addr} {get : Nat -> St -> Option (Option PV)}
  (hg : ∀ φ μ s k, Rep c F φ μ s -> VR φ s.heap (.ref l) pv -> get k μ ≠ none -> ∃ vs xs, s.heap.IsList l vs.toArray ∧ VRs φ s.heap vs xs ∧ get k μ = some xs[k]?) (hl : it ≠ l ∨ True) (hh : F.hd = true) :
  ItP c F it (λ k o => o.cls = .type "list_iterator" ∧ o.data = .fields #[.ref l, .int k 0]) (.ref l) pv get := by
 refine ⟨λ k o h => ⟨⟨_, h.2⟩, Zbg h.1 (by decide) (by decide) (by decide) (by decide)⟩, λ k A φ μ s Q E hA R hit hv hn hi hb => ?_⟩
 obtain ⟨o, ho, hc, hd⟩ := hit
 obtain ⟨vs, xs, hL, hvs, hget⟩ := hg φ μ s k R hv hb
 cases hx : xs[k]? with
 | none =>
  have : vs[k]? = none := by
   rw [List.getElem?_eq_none_iff] at hx ⊢
   rw [hvs.length]; exact hx
  exact wpAny_pyNext_list_end (hA.handled hh) ⟨o, ho, hc, hd⟩ hL (by simpa using this) λ h' hs => hn (by rw [hget, hx]) h' s.toks hs
 | some x =>
  obtain ⟨w, hw, hr⟩ := hvs.get hx
  refine wpAny_pyNext_list_item ⟨o, ho, hc, hd⟩ hL (by simpa using hw) λ h' hit' hs => hi x (by rw [hget, hx]) w h' s.toks ?_ hs.extBut ?_
  ·obtain ⟨o', ho', hc', hd'⟩ := hit'
   exact ⟨o', ho', hc', hd'⟩
  ·refine hr.move (λ _ _ e => e) (λ _ _ _ h => h) λ a oa ha _ hz => (hs.2 a λ e => ?_).trans ha
   subst e
   rw [ho] at ha; cases ha
   exact Zbg hc (by decide) (by decide) (by decide) (by decide) (by decide) hz
theorem Zn9 {l : Addr} {xs : List PV} {it : Addr} (hh : F.hd = true) :
  ItP c F it (λ k o => o.cls = .type "tuple_iterator" ∧ o.data = .fields #[.ref l, .int k 0]) (.ref l) (.tup xs) (λ k _ => some xs[k]?) := by
 refine ⟨λ k o h => ⟨⟨_, h.2⟩, Zbg h.1 (by decide) (by decide) (by decide) (by decide)⟩, λ k A φ μ s Q E hA R hit hv hn hi hb => ?_⟩
 obtain ⟨o, ho, hc, hd⟩ := hit
 obtain ⟨vs, n, h1, h4, hvs⟩ := hv.inv_tup rfl rfl
 ·
  cases hx : xs[k]? with
  | none =>
   have : vs[k]? = none := by
    rw [List.getElem?_eq_none_iff] at hx ⊢
    rw [hvs.length]; exact hx
   exact wpAny_pyNext_tuple_end (hA.handled hh) ⟨o, ho, hc, hd⟩ ⟨_, h1, rfl, _, rfl⟩ (by simpa using this) λ h' hs => hn (by rw [hx]) h' s.toks hs
  | some x =>
   obtain ⟨w, hw, hr⟩ := hvs.get hx
   refine wpAny_pyNext_tuple_item ⟨o, ho, hc, hd⟩ ⟨_, h1, rfl, _, rfl⟩ (by simpa using hw) λ h' hit' hs => hi x (by rw [hx]) w h' s.toks ?_ hs.extBut ?_
   ·obtain ⟨o', ho', hc', hd'⟩ := hit'
    exact ⟨o', ho', hc', hd'⟩
   ·refine hr.move (λ _ _ e => e) (λ _ _ _ h => h) λ a oa ha _ hz => (hs.2 a λ e => ?_).trans ha
    subst e
    rw [ho] at ha; cases ha
    exact Zbg hc (by decide) (by decide) (by decide) (by decide) (by decide) hz
theorem Zoa {r : Addr} {a b st : Int} {it : Addr} {v : Value} {pv : PV} (hh : F.hd = true) :
  ItP c F it (λ k o => o = { cls := .type "range_iterator", dict := none, data := .fields #[rawInt (a + k * st), rawInt (Builtin.Range.rangeSize a b st - k), rawInt st], slots := #[] }) v pv
   (λ k _ => if (k : Int) < Builtin.Range.rangeSize a b st then some (some (.int (a + k * st))) else some none) := by
 refine ⟨λ k o h => by subst h; exact ⟨⟨_, rfl⟩, Zbg (n := "range_iterator") rfl (by decide) (by decide) (by decide) (by decide)⟩, λ k A φ μ s Q E hA R hit hv hn hi hb => ?_⟩
 obtain ⟨o, ho, rfl⟩ := hit
 by_cases hk : (k : Int) < Builtin.Range.rangeSize a b st
 ·refine wpAny_pyNext_range_item ho (by lia) λ h' hit' hs => hi (.int (a + k * st)) (by rw [if_pos hk]) _ h' _ ⟨_, hit', ?_⟩ hs.extBut (.int _ _)
  have e1 : a + (k : Int) * st + st = a + ((k + 1 : Nat) : Int) * st := by rw [Int.natCast_add, Int.add_mul]; lia
  have e2 : Builtin.Range.rangeSize a b st - k - 1 = Builtin.Range.rangeSize a b st - ((k + 1 : Nat) : Int) := by lia
  rw [e1, e2]
 ·exact wpAny_pyNext_range_end (hA.handled hh) ho (by lia) λ h' hs => hn (by rw [if_neg hk]) h' s.toks hs
theorem Zgv {φ : List Addr} {h : Heap} {kvs : List (Int × Value)} {es : List (Int × PV)} (r : DRs φ h kvs es) : ∀ {k : Nat} {e : Int × PV}, es[k]? = some e -> ∃ v, kvs[k]? = some (e.1, v) ∧ VR φ h v e.2 := by
 induction r with
 | nil => exact λ e => nomatch e
 | cons a b ih => exact λ {k e} q => match k, q with
  | 0, q => by cases q; exact ⟨_, rfl, a⟩
  | k + 1, q => ih (k := k) q
theorem Zbb {φ : List Addr} {h : Heap} {kvs : List (Int × Value)} {es : List (Int × PV)} (r : DRs φ h kvs es) : kvs.length = es.length := by
 induction r with
 | nil => rfl
 | cons _ _ ih => exact congrArg Nat.succ ih
theorem Zpl {d : Addr} {i n ep : Nat} {it : Addr} {get : Nat -> St -> Option (Option PV)}
  (hg : ∀ k μ, get k μ ≠ none -> ∃ es, μ.hp[i]? = some (.dct es ep) ∧ es.length = n ∧ get k μ = some ((es[k]?).map λ e => .int e.1)) (hh : F.hd = true) :
  ItP c F it (λ k o => o.cls = .type "dict_keyiterator" ∧ o.data = .fields #[.ref d, .int k 0, .int n 0, .int ep 0]) (.ref d) (.obj i) get := by
 refine ⟨λ k o h => ⟨⟨_, h.2⟩, Zbg h.1 (by decide) (by decide) (by decide) (by decide)⟩, λ k A φ μ s Q E hA R hit hv hn hi hb => ?_⟩
 obtain ⟨o, ho, hc, hd⟩ := hit
 obtain ⟨es, hes, hlen, hget⟩ := hg k μ hb
 have h1 := hv.inv_obj rfl rfl
 ·
  have q := R.objs i d _ h1 hes
  obtain ⟨kvs, k1, k2⟩ := q.inv_dct rfl
  ·
   have hkl : kvs.length = n := by rw [Zbb k2, hlen]
   subst hkl
   cases hx : es[k]? with
   | none =>
    have : kvs[k]? = none := by
     rw [List.getElem?_eq_none_iff] at hx ⊢
     exact Qek hlen.symm hx
    exact wpAny_pyNext_dict_end (knd := intKind c.prog c.w) (hA.handled hh) ⟨o, ho, hc, hd⟩ k1 this λ h' hs => hn (by rw [hget, hx]; rfl) h' s.toks hs
   | some e =>
    obtain ⟨w, hw, hr⟩ := Zgv k2 hx
    refine wpAny_pyNext_dict_item (knd := intKind c.prog c.w) ⟨o, ho, hc, hd⟩ k1 hw λ key h' hkey hit' hs => hi (.int e.1) (by rw [hget, hx]; rfl) key h' s.toks ?_ hs.extBut ?_
    ·obtain ⟨o', ho', hc', hd'⟩ := hit'
     exact ⟨o', ho', hc', hd'⟩
    ·obtain ⟨t, rfl⟩ := Value.isInt_shape hkey
     exact .int _ _
noncomputable def sFor (f : PM PV) (asg : PV -> PM Unit) (body : PM MF) (n : Nat) : PM MF := f >>= λ pv => λ μ => forIx (getOf pv μ) asg body n 0 μ
theorem Zfa {get get' : Nat -> St -> Option (Option PV)} {asg : PV -> PM Unit} {g : PM MF} (h : ∀ k μ, get k μ = get' k μ) : ∀ n k, forIx get asg g n k = forIx get' asg g n k
 | 0, _ => rfl
 | n + 1, k => by
  funext μ
  simp only [Zez, h, Zfa h n]
end

noncomputable def asgAll : List (PV -> PM Unit) -> List PV -> PM Unit
 | a :: as, x :: xs => a x >>= λ _ => asgAll as xs
 | _, _ => pure ()
theorem Zpm {a : PV -> PM Unit} {as : List (PV -> PM Unit)} {x : PV} {xs : List PV} : asgAll (a :: as) (x :: xs) = (a x >>= λ _ => asgAll as xs) := rfl
noncomputable def asgTup (as : List (PV -> PM Unit)) (v : PV) : PM Unit := match v with
 | .tup xs => (match decide (xs.length = as.length) with
  | true => asgAll as xs
  | false => PM.H)
 | _ => PM.H
noncomputable def pIdx (len : Nat) (k : Int) : Option Nat :=
 if 0 <= k then (if k < 2 ^ 62 then some k.toNat else none) else (if -(len : Int) <= k ∧ (len : Int) < 2 ^ 62 then some (k + len).toNat else none)
noncomputable def dGet (es : List (Int × PV)) (k : Int) : Option PV := (es.find? λ e => e.1 == k).map (·.2)
noncomputable def pGet (o i : PV) : PM PV := λ μ => match o, i with
 | .lst xs, .int k => (match (pIdx xs.length k).bind (xs[·]?) with
  | some x => .ok x μ
  | none => .bad)
 | .tup xs, .int k => (match (pIdx xs.length k).bind (xs[·]?) with
  | some x => .ok x μ
  | none => .bad)
 | .obj j, .int k => (match μ.hp[j]? with
  | some (.lst xs) => (match (pIdx xs.length k).bind (xs[·]?) with
   | some x => .ok x μ
   | none => .bad)
  | some (.dct es _) => (match dGet es k with
   | some x => .ok x μ
   | none => .bad)
  | _ => .bad)
 | _, _ => .bad
noncomputable def eSub (f g : PM PV) : PM PV := f >>= λ o => g >>= λ i => pGet o i
section
variable {c : Cx} {F : Fx}
theorem Zk4 {x : Str} {pos : Pos} {k : Nat} (hk : F.env.scope.kind = .function) (hv : VarAt F x k) : ∀ w y, Sim c F (λ φ h => VR φ h w y) (λ _ _ _ _ => True) (assign (.Name x pos) F.env w) (setVar k y) :=
 λ w y A φ μ s Q E hA R p hb hQ hE => wpAny_assign_Name (Zn1 hk hv A φ μ s Q E hA R p hb hQ hE)
inductive SimTs (c : Cx) (F : Fx) : List (Bool × (Value -> Sem Unit)) -> List (PV -> PM Unit) -> Prop
 | nil : SimTs c F [] []
 | cons {t : Value -> Sem Unit} {a : PV -> PM Unit} {ts : List (Bool × (Value -> Sem Unit))} {as : List (PV -> PM Unit)} : (∀ w y, Sim c F (λ φ h => VR φ h w y) (λ _ _ _ _ => True) (t w) (a y)) -> SimTs c F ts as -> SimTs c F ((false, t) :: ts) (a :: as)
theorem SimTs.length {ts : List (Bool × (Value -> Sem Unit))} {as : List (PV -> PM Unit)} (h : SimTs c F ts as) : ts.length = as.length := by
 induction h with
 | nil => rfl
 | cons _ _ ih => simp [ih]
theorem SimTs.star {ts : List (Bool × (Value -> Sem Unit))} {as : List (PV -> PM Unit)} (h : SimTs c F ts as) : ts.findIdx? (·.1) = none := by
 induction h with
 | nil => rfl
 | cons _ _ ih => simp [List.findIdx?_cons, ih]
theorem Zmo {ts : List (Bool × (Value -> Sem Unit))} {as : List (PV -> PM Unit)} (h : SimTs c F ts as) : ∀ ws ys, Sim c F (λ φ h => VRs φ h ws ys) (λ _ _ _ _ => True) (assignInOrder (ts.map (·.2)) ws) (asgAll as ys) := by
 induction h with
 | nil => intro ws ys; exact λ A φ μ s Q E hA R p hb hQ hE => Qp (hQ _ _ _ _ _ rfl R Ext.refl trivial)
 | @cons t a ts as ht hts ih =>
  intro ws ys A φ μ s Q E hA R p hb hQ hE
  cases p with
  | nil => exact Qp (hQ _ _ _ _ _ rfl R Ext.refl trivial)
  | @cons w ws y ys p1 p2 =>
   rw [Zpm] at hb hQ hE
   rw [map_cons]
   refine Qb (wpAny_holding ((ht w y).use hA R p1 hb hE λ _ _ φ1 μ1 s1 eg RB xB _ => ?_))
   rw [eg] at hb hQ hE
   exact (ih ws ys).fin hA RB (p2.ext R xB) rfl xB hb hQ hE
theorem Zdk {elts : List Expr} {x1 : Nat} {pos : Pos} {as : List (PV -> PM Unit)} (hh : F.hd = true) (h : SimTs c F (assignEach elts F.env) as) : ∀ w y, Sim c F (λ φ h => VR φ h w y) (λ _ _ _ _ => True) (assign (.Tuple elts x1 pos) F.env w) (asgTup as y) := by
 intro w y A φ μ s Q E hA R p hb hQ hE
 induction p using VR.cs with
 | @tup a vs n xs h1 h4 h5 =>
  unfold asgTup at hb hQ hE
  dsimp only at hb hQ hE
  cases hl : decide (xs.length = as.length) with
  | false => rw [hl] at hb; exact (hb rfl).elim
  | true =>
   rw [hl] at hb hQ hE
   have hl' := of_decide_eq_true hl
   rw [arm_assign_Tuple]
   refine Qb (wpAny_standAt ?_)
   unfold unpack
   rw [h.star, show (assignEach elts F.env).length = vs.toArray.size by rw [h.length, size_toArray, h5.length, hl']]
   refine Qb (wpAny_holding (Z1 (wpAny_unpackItems_tuple (hA.handled hh) ⟨_, h1, rfl, _, rfl⟩ λ h' hs hz => ?_)))
   obtain ⟨RB, xB⟩ : Rep c F φ μ { s with heap := h' } ∧ Ext F.nss F.cls φ s.heap φ h' := R.still (tk := s.toks) hz λ b ob hb => hs b ob (Nat.ne_of_lt (Heap.lt_size hb)) hb
   exact (Zmo h vs xs).fin hA RB (h5.ext R xB) rfl xB hb hQ hE
 | none => exact (hb rfl).elim
 | bool => exact (hb rfl).elim
 | int => exact (hb rfl).elim
 | str => exact (hb rfl).elim
 | lst => exact (hb rfl).elim
 | rng => exact (hb rfl).elim
 | obj => exact (hb rfl).elim
 | nxt => exact (hb rfl).elim
 | vals => exact (hb rfl).elim
 | raw => exact (hb rfl).elim
theorem Zdx {k : Int} {len : Nat} (h : 0 <= k) (h2 : k.toNat < len) : seqIndex? k len = some k.toNat := by
 unfold seqIndex?
 have e : (if k < 0 then k + len else k) = k := if_neg (by lia)
 simp only [e, Bool.and_eq_true, decide_eq_true_eq]
 rw [if_pos ⟨h, by lia⟩]
theorem Zf7 {k : Int} {len : Nat} (h : k < 0) (h2 : -(len : Int) <= k) : seqIndex? k len = some (k + len).toNat := by
 unfold seqIndex?
 have e : (if k < 0 then k + len else k) = k + len := if_pos h
 simp only [e, Bool.and_eq_true, decide_eq_true_eq]
 rw [if_pos ⟨by lia, by lia⟩]
theorem Zcg {len : Nat} {k : Int} {j : Nat} (h : pIdx len k = some j) : (0 <= k ∧ k < 2 ^ 62 ∧ j = k.toNat) ∨ (k < 0 ∧ -(len : Int) <= k ∧ (len : Int) < 2 ^ 62 ∧ j = (k + len).toNat) := by
 unfold pIdx at h
 split at h
 ·split at h
  ·cases h; exact .inl ⟨by omega, by omega, rfl⟩
  ·cases h
 ·split at h
  ·cases h; exact .inr ⟨by omega, by omega, by omega, rfl⟩
  ·cases h
theorem getList {l : Addr} {vs : List Value} {xs : List PV} {φ : List Addr} {k : Int} {t : Tok} {x : PV} {s : Shared} {A : Around} {Q : Value -> Shared -> Prop} {E : Value -> Shared -> Prop} (hl : s.heap.IsList l vs.toArray) (hv : VRs φ s.heap vs xs) (hx : (pIdx xs.length k).bind (xs[·]?) = some x)
  (h : ∀ w, VR φ s.heap w x -> Q w s) : wpAny (model c.prog c.w) A (getItem (.ref l) (.int k t)) Q E s := by
 obtain ⟨j, hj, hxj⟩ := Option.bind_eq_some_iff.mp hx
 obtain ⟨w, hw, hr⟩ := hv.get hxj
 have hlen := hv.length
 rcases Zcg hj with ⟨h1, h2, rfl⟩ | ⟨h1, h2, h3, rfl⟩
 ·exact wpAny_getItem_list hl h1 (by lia) (by simpa using hw) (h w hr)
 ·exact wpAny_getItem_list_neg hl h1 (by simp; lia) (by lia) (by simpa [hlen] using hw) (h w hr)
theorem Zhh {φ : List Addr} {h : Heap} {kvs : List (Int × Value)} {es : List (Int × PV)} (r : DRs φ h kvs es) : ∀ {k : Int} {x : PV}, dGet es k = some x -> ∃ v, valueAt kvs k = some v ∧ VR φ h v x := by
 induction r with
 | nil => exact λ e => nomatch e
 | @cons k' _ _ _ _ a b ih =>
  intro k x e
  unfold dGet at e
  unfold valueAt
  rw [List.find?_cons] at e ⊢
  by_cases hk : k' = k
  ·rw [show (k' == k) = true from beq_iff_eq.mpr hk] at e
   rw [show decide (k' = k) = true from decide_eq_true hk]
   cases e
   exact ⟨_, rfl, a⟩
  ·rw [show (k' == k) = false from beq_eq_false_iff_ne.mpr hk] at e
   rw [show decide (k' = k) = false from decide_eq_false hk]
   exact ih e
theorem Zis {v w : Value} {x y : PV} : Sim c F (V2 v w x y) (λ φ h a b => VR φ h a b) (getItem v w) (pGet x y) := by
 intro A φ μ s Q E hA R p hb hQ hE
 obtain ⟨rx, ry⟩ := p
 induction rx using VR.cs with
 | lst h1 h4 h5 =>
  induction ry using VR.cs with
  | int k t =>
   unfold pGet at hb hQ
   dsimp only at hb hQ
   split at hb
   ·rename_i x hx
    exact getList ⟨_, h1, rfl, _, rfl⟩ h5 hx λ w hw => hQ w _ φ μ s (by rw [hx]) R Ext.refl hw
   ·exact (hb rfl).elim
  | _ => exact (hb rfl).elim
 | tup h1 h4 h5 =>
  induction ry using VR.cs with
  | int k t =>
   unfold pGet at hb hQ
   dsimp only at hb hQ
   split at hb
   ·rename_i x hx
    have hx0 := hx
    obtain ⟨j, hj, hxj⟩ := Option.bind_eq_some_iff.mp hx
    obtain ⟨w, hw, hr⟩ := h5.get hxj
    have hlt := (Qgl hw)
    have hlen := h5.length
    rcases Zcg hj with ⟨q1, q2, rfl⟩ | ⟨q1, q2, q3, rfl⟩
    ·exact PyProof.Rows.getItem_tuple ⟨_, h1, rfl, _, rfl⟩ (by lia) (by lia) (j := k.toNat) (by rw [size_toArray]; exact Zdx q1 hlt) (by simpa using hw) (hQ w _ φ μ s (by rw [hx0]) R Ext.refl hr)
    ·exact PyProof.Rows.getItem_tuple ⟨_, h1, rfl, _, rfl⟩ (by lia) (by lia) (by rw [size_toArray, hlen]; exact Zf7 q1 q2) (by simpa using hw) (hQ w _ φ μ s (by rw [hx0]) R Ext.refl hr)
   ·exact (hb rfl).elim
  | _ => exact (hb rfl).elim
 | @obj i a h1 =>
  induction ry using VR.cs with
  | int k t =>
   unfold pGet at hb hQ
   dsimp only at hb hQ
   cases hi : μ.hp[i]? with
   | none => rw [hi] at hb; exact (hb rfl).elim
   | some ob =>
    rw [hi] at hb hQ
    have q := R.objs i a ob h1 hi
    cases q with
    | lst k1 k2 =>
     dsimp only at hb hQ
     split at hb
     ·rename_i x hx
      exact getList ⟨_, k1, rfl, _, rfl⟩ k2 hx λ w hw => hQ w _ φ μ s (by rw [hx]) R Ext.refl hw
     ·exact (hb rfl).elim
    | dct k1 k2 =>
     dsimp only at hb hQ
     split at hb
     ·rename_i x hx
      obtain ⟨w, hw, hr⟩ := Zhh k2 hx
      refine wpAny_getItem_of (knd := intKind c.prog c.w) (k := k) (by show Value.isInt k (.int k t) = true; simp [Value.isInt]) k1.dictOf.mapOf hw ?_
      exact hQ w _ φ μ _ (by rw [hx]) (R.toks _) Ext.refl hr
     ·exact (hb rfl).elim
    | _ => exact (hb rfl).elim
  | _ => exact (hb rfl).elim
 | none => exact (hb rfl).elim
 | bool => exact (hb rfl).elim
 | int => exact (hb rfl).elim
 | str => exact (hb rfl).elim
 | rng => exact (hb rfl).elim
 | nxt => exact (hb rfl).elim
 | vals => exact (hb rfl).elim
 | raw => exact (hb rfl).elim
theorem Zob {φ : List Addr} {μ : St} {s : Shared} {v w : Value} {x y : PV} (R : Rep c F φ μ s) (r : VR φ s.heap v x) (h : pGet x y μ ≠ .bad) : ∃ T id, s.TypeIs v T ∧ typeLookup (.type T) "__getitem__" = pure (some (.builtin id)) := by
 induction r using VR.cs with
 | lst h1 h4 h5 => exact ⟨"list", _, ⟨_, h1, rfl⟩, slot_list_getitem.lookup⟩
 | tup h1 h4 h5 => exact ⟨"tuple", _, ⟨_, h1, rfl⟩, PySem.F.slot_tuple_getitem.lookup⟩
 | @obj i a h1 =>
  cases hi : μ.hp[i]? with
  | none => exact (h (by unfold pGet; cases y <;> first | rfl | (dsimp only; rw [hi]; try rfl))).elim
  | some ob =>
   have q := R.objs i a ob h1 hi
   cases q with
   | lst k1 k2 => exact ⟨"list", _, ⟨_, k1, rfl⟩, slot_list_getitem.lookup⟩
   | dct k1 k2 => exact ⟨"dict", _, k1.dictOf.typeIs, slot_dict_getitem.lookup⟩
   | _ => exact (h (by unfold pGet; cases y <;> first | rfl | (dsimp only; rw [hi]; try rfl))).elim
 | none => exact (h rfl).elim
 | bool => exact (h rfl).elim
 | int => exact (h rfl).elim
 | str => exact (h rfl).elim
 | rng => exact (h rfl).elim
 | nxt => exact (h rfl).elim
 | vals => exact (h rfl).elim
 | raw => exact (h rfl).elim
theorem Ze {value slice : Expr} {pos : Pos} {f g : PM PV} (h : SimE c F value f) (h' : SimE c F slice g) (hs : ∀ o i, subscripted slice false o i = PySem.operate [o, i] (getItem o i)) : SimE c F (.Subscript value slice pos) (eSub f g) := λ A φ μ s Q E hA R p hb hQ hE => by
 unfold eSub at hb hQ hE
 refine Subscript_ ?_
 refine h.use hA R p hb hE λ a b φ' μ' s' eg R' x r => ?_
 rw [eg] at hb hQ hE
 refine (h'.keep (v := a) (x := b)).use hA R' r hb (λ e y φ' μ' s' he R' x' r => hE e y φ' μ' s' he R' (x.trans x') (r.le x.dom)) λ aC bC φ2 μ2 s2 eg RC xC rC => ?_
 rw [eg] at hb hQ hE
 obtain ⟨T, id, hT, hl⟩ := Zob (w := aC) RC rC.1 hb
 exact tail_any hT hl (Zis.fin hA RC rC rfl (x.trans xC) hb hQ hE) (hs a aC)
end

noncomputable def allocM (o : MO) : PM Nat := λ μ => .ok μ.hp.length { fr := μ.fr, hp := μ.hp ++ [o] }
noncomputable def chk (b : Bool) : PM Unit := match b with
 | true => pure ()
 | false => PM.H
noncomputable def mkList (mu_ : Bool) (xs : List PV) : PM PV := chk (lenOk xs) >>= λ _ => match mu_ with
 | true => allocM (.lst xs) >>= λ i => pure (.obj i)
 | false => pure (.lst xs)
noncomputable def mkTup (xs : List PV) : PM PV := chk (lenOk xs) >>= λ _ => pure (.tup xs)
noncomputable def putM (i : Nat) (o : MO) : PM Unit := λ μ => .ok () { fr := μ.fr, hp := μ.hp.set i o }
noncomputable def theLst (v : PV) : PM (Nat × List PV) := λ μ => match v with
 | .obj i => (match μ.hp[i]? with
  | some (.lst xs) => .ok (i, xs) μ
  | _ => .bad)
 | _ => .bad
noncomputable def aLst (v : PV) : PM (List PV) := λ μ => match isLst μ.hp v with
 | some xs => .ok xs μ
 | none => .bad
section
variable {c : Cx} {F : Fx}
theorem PM.C {α β : Type} {f : PM α} {g : α -> PM β} {μ μ' : St} {a : α} (h : f μ = .ok a μ') : (f >>= g) μ = g a μ' := by rw [PM.B, h]
theorem Zs {α : Type} {b : Bool} {g : Unit -> PM α} {μ : St} (h : (chk b >>= g) μ ≠ .bad) : b = true ∧ (chk b >>= g) μ = g () μ := by
 cases b with
 | true => exact ⟨rfl, rfl⟩
 | false => exact (h rfl).elim
theorem Zaf {α : Type} {xs : List α} (h : lenOk xs = true) : xs.length <= sizeLine := Nat.le_trans (of_decide_eq_true h) (by decide)
theorem Za1 {α : Type} {xs : List α} (h : lenOk xs = true) : xs.length <= 1000000 := of_decide_eq_true h
inductive SimArgs (c : Cx) (F : Fx) : List (Bool × Sem Value) -> PM (List PV) -> Prop
 | nil : SimArgs c F [] (pure [])
 | cons {t : Sem Value} {f : PM PV} {ts : List (Bool × Sem Value)} {g : PM (List PV)} : Sim c F NoP (λ φ h v x => VR φ h v x) t f -> SimArgs c F ts g -> SimArgs c F ((false, t) :: ts) (f >>= λ x => g >>= λ xs => pure (x :: xs))
theorem Zfb {ts : List (Bool × Sem Value)} {g : PM (List PV)} (h : SimArgs c F ts g) : Sim c F NoP (λ φ h v x => VRs φ h v x) (spliced ts) g := by
 induction h with
 | nil => exact λ A φ μ s Q E hA R p hb hQ hE => spliced_nil (hQ _ _ _ _ _ rfl R Ext.refl .nil)
 | @cons t f ts g ht hts ih =>
  intro A φ μ s Q E hA R p hb hQ hE
  refine spliced_cons (ht.use hA R p hb hE λ a b φ' μ' s' eg R' x r => ?_)
  rw [eg] at hb hQ hE
  refine (ih.keep (v := a) (x := b)).use hA R' r hb (λ e y φ' μ' s' he R' x' r => hE e y φ' μ' s' he R' (x.trans x') (r.le x.dom)) λ aC bC φ2 μ2 s2 eg RC xC rC => ?_
  rw [eg] at hQ
  exact hQ _ _ _ _ _ rfl RC (x.trans xC) (.cons rC.1 rC.2)
theorem SimArgs.back {env : Env} {pos : Pos} {es : List Expr} {g : PM (List PV)} (h : SimArgs c F (starEach es env) g) : SimArgs c F (backTo pos (starEach es env)) g := by
 have go : ∀ ts g, SimArgs c F ts g -> SimArgs c F (backTo pos ts) g := by
  intro ts g h
  induction h with
  | nil => exact .nil
  | cons ht _ ih => exact .cons ht ih
 exact go _ _ h
theorem Zk5 (mu_ : Bool) {vs : List Value} {xs : List PV} : Sim c F (λ φ h => VRs φ h vs xs) (λ φ h v x => VR φ h v x) (newList vs) (mkList mu_ xs) := by
 intro A φ μ s Q E hA R p hb hQ hE
 unfold mkList at hb hQ
 obtain ⟨hl, e⟩ := Zs hb
 rw [e] at hb hQ
 refine wpAny_newObj_type ?_ (by show vs.toArray.size <= sizeLine; rw [size_toArray, p.length]; exact Zaf hl)
 cases mu_ with
 | true =>
  obtain ⟨RB, xB⟩ := R.alloc (ob := { cls := .type "list", data := .seq vs.toArray }) (o := .lst xs) (tk := s.toks) rfl λ hg hi hm => .lst hg (p.mv hm)
  exact hQ _ _ _ _ _ rfl RB xB (.obj (by rw [<- R.len]; simp))
 | false =>
  obtain ⟨RB, xB⟩ := R.push { cls := .type "list", data := .seq vs.toArray } (tk := s.toks)
  exact hQ _ _ _ _ _ rfl RB xB (.lst (Heap.get?_push_size _ rfl) (λ hm => absurd (R.phiLt hm) (Nat.lt_irrefl _)) (p.ext R xB))
theorem Zit {vs : List Value} {xs : List PV} : Sim c F (λ φ h => VRs φ h vs xs) (λ φ h v x => VR φ h v x) (newTuple vs) (mkTup xs) := by
 intro A φ μ s Q E hA R p hb hQ hE
 unfold mkTup at hb hQ
 obtain ⟨hl, e⟩ := Zs hb
 rw [e] at hb hQ
 refine wpAny_newObj_type ?_ (by show vs.toArray.size <= sizeLine; rw [size_toArray, p.length]; exact Zaf hl)
 obtain ⟨RB, xB⟩ := R.push { cls := .type "tuple", data := .seq vs.toArray } (tk := s.toks)
 exact hQ _ _ _ _ _ rfl RB xB (.tup (Heap.get?_push_size _ rfl) (λ hm => absurd (R.phiLt hm) (Nat.lt_irrefl _)) (p.ext R xB))
noncomputable def eList (mu_ : Bool) (f : PM (List PV)) : PM PV := f >>= mkList mu_
noncomputable def eTup (f : PM (List PV)) : PM PV := f >>= mkTup
theorem Z8 (mu_ : Bool) {elts : List Expr} {pos : Pos} {f : PM (List PV)} (h : SimArgs c F (starEach elts F.env) f) : SimE c F (.List elts pos) (eList mu_ f) := λ A φ μ s Q E hA R p hb hQ hE => by
 unfold eList at hb hQ hE
 refine List_ ((Zfb h.back).use hA R p hb hE λ a b φ' μ' s' eg R' x r => ?_)
 rw [eg] at hb hQ hE
 exact (Zk5 mu_).fin hA R' r rfl x hb hQ hE
theorem Zd5 {elts : List Expr} {k : Nat} {pos : Pos} {f : PM (List PV)} (h : SimArgs c F (starEach elts F.env) f) : SimE c F (.Tuple elts k pos) (eTup f) := λ A φ μ s Q E hA R p hb hQ hE => by
 unfold eTup at hb hQ hE
 refine Tuple_ ((Zfb h.back).use hA R p hb hE λ a b φ' μ' s' eg R' x r => ?_)
 rw [eg] at hb hQ hE
 exact Zit.fin hA R' r rfl x hb hQ hE
noncomputable def eDict : PM PV := allocM (.dct [] 0) >>= λ i => pure (.obj i)
theorem Zft {pos : Pos} : SimE c F (.Dict [] [] pos) eDict := λ A φ μ s Q E hA R p hb hQ hE => by
 refine wpAny_Dict_empty ?_
 obtain ⟨RB, xB⟩ := R.alloc (ob := { cls := .type "dict", data := .dict #[] }) (o := .dct [] 0) (tk := s.toks) rfl λ hg hi hm => .dct (kvs := []) ⟨_, #[], hg, ⟨rfl, rfl, rfl⟩, rfl, λ e he => by simp at he, .nil, by simp⟩ .nil
 exact hQ _ _ _ _ _ rfl RB xB (.obj (by rw [<- R.len]; simp))
theorem Zcn {o : Expr} {name : Str} {apos pos : Pos} {args : List Expr} {T id : String} {fo : PM PV} {β γ : Type} {ck : PV -> PM β} {RR : List Addr -> Heap -> Value -> γ -> Prop} {k : PV -> β -> PM γ}
  (hbase : attributeBase o name F.env (eval o F.env) = eval o F.env)
  (hfew : ((backTo pos (starEach args F.env)).all (λ x => !x.1) && (backToKw pos (keywordEach [] F.env)).all (λ x => x.1.isSome)
   && decide (args.length + ([] : List Keyword).length + (if ([] : List Keyword).isEmpty then 0 else 1) < 30)) = true)
  (hline : (apos.endLine == pos.line) = true)
  (pa : PlainAttrs T) (slot : Slot T name id) (hty : typeOf (.builtin id) = pure (.type "method_descriptor"))
  (h : SimE c F o fo) (hck : ∀ φ μ s v x, Rep c F φ μ s -> VR φ s.heap v x -> ck x μ ≠ .bad -> ∃ b, ck x μ = .ok b μ ∧ s.TypeIs v T ∧ (∃ a, v = .ref a ∧ ∃ ob, s.heap.get? a = some ob ∧ ob.dict = none))
  (hk : ∀ a x b, Sim c F (λ φ h => VR φ h (.ref a) x) RR (callWith pos (.builtin id) [.ref a] (backTo pos (starEach args F.env)) []) (k x b)) :
  Sim c F NoP RR (eval (.Call (.Attribute o name apos) args [] pos) F.env) (fo >>= λ x => ck x >>= k x) := λ A φ μ s Q E hA R p hb hQ hE => by
 refine wpAny_Call_method hbase hfew hline pa slot hty ?_
 refine h.use hA R p hb hE λ a b φ' μ' s' eg R' x r => ?_
 rw [eg] at hb hQ hE
 have hc : ck b μ' ≠ .bad := λ e => hb (by rw [PM.B, e])
 obtain ⟨y, e, hT, l, rfl, hd⟩ := hck φ' μ' s' a b R' r hc
 rw [PM.B, e] at hb hQ hE
 exact ⟨hT, λ a e => by cases e; exact hd, (hk l b y).fin hA R' r rfl x hb hQ hE⟩
theorem Zf8 {μ : St} {x : PV} (h : theLst x μ ≠ .bad) : ∃ i xs, x = .obj i ∧ μ.hp[i]? = some (.lst xs) ∧ theLst x μ = .ok (i, xs) μ := by
 unfold theLst at h ⊢
 cases x with
 | obj i =>
  dsimp only at h ⊢
  cases hi : μ.hp[i]? with
  | none => rw [hi] at h; exact (h rfl).elim
  | some o =>
   rw [hi] at h
   cases o with
   | lst xs => exact ⟨i, xs, rfl, hi, rfl⟩
   | _ => exact (h rfl).elim
 | _ => exact (h rfl).elim
theorem Zcz : ∀ φ μ s v x, Rep c F φ μ s -> VR φ s.heap v x -> theLst x μ ≠ .bad -> ∃ b, theLst x μ = .ok b μ ∧ s.TypeIs v "list" ∧ (∃ a, v = .ref a ∧ ∃ ob, s.heap.get? a = some ob ∧ ob.dict = none) := by
 intro φ μ s v x R r hb
 obtain ⟨i, xs, rfl, hi, e⟩ := Zf8 hb
 obtain ⟨a, rfl, h1⟩ := r.un_obj rfl
 obtain ⟨vs, n, k1, k2⟩ := (R.objs i a _ h1 hi).inv_lst rfl
 exact ⟨_, e, ⟨_, k1, rfl⟩, ⟨a, rfl, _, k1, rfl⟩⟩
theorem Zq6 : ∀ φ μ s v x, Rep c F φ μ s -> VR φ s.heap v x -> aLst x μ ≠ .bad -> ∃ b, aLst x μ = .ok b μ ∧ s.TypeIs v "list" ∧ (∃ a, v = .ref a ∧ ∃ ob, s.heap.get? a = some ob ∧ ob.dict = none) := by
 intro φ μ s v x R r hb
 unfold aLst at hb ⊢
 cases hl : isLst μ.hp x with
 | none => rw [hl] at hb; exact (hb rfl).elim
 | some xs =>
  induction r using VR.cs with
  | lst h1 h4 h5 => exact ⟨_, rfl, ⟨_, h1, rfl⟩, ⟨_, rfl, _, h1, rfl⟩⟩
  | @obj i a h1 =>
   unfold isLst at hl
   dsimp only at hl
   split at hl
   ·rename_i ys hys
    have q := R.objs i a _ h1 hys
    obtain ⟨_, _, k1, k2⟩ := q.inv_lst rfl
    ·exact ⟨_, rfl, ⟨_, k1, rfl⟩, ⟨_, rfl, _, k1, rfl⟩⟩
   ·cases hl
  | _ => cases hl
theorem Zdf {φ : List Addr} {μ : St} {s : Shared} (R : Rep c F φ μ s) {v : Value} {x : PV} {i : Nat} {xs : List PV} (r : VR φ s.heap v x) (e : theLst x μ = .ok (i, xs) μ) : ∃ a vs n, v = .ref a ∧ φ[i]? = some a ∧ IsL s.heap a vs.toArray n ∧ VRs φ s.heap vs xs ∧ x = .obj i := by
 obtain ⟨j, ys, rfl, hi, e'⟩ := Zf8 (λ q => nomatch e.symm.trans q)
 rw [e'] at e
 cases e
 obtain ⟨a, rfl, h1⟩ := r.un_obj rfl
 obtain ⟨vs, n, k1, k2⟩ := (R.objs i a _ h1 hi).inv_lst rfl
 exact ⟨a, vs, n, rfl, h1, k1, k2, rfl⟩
theorem Zbc {x : PV} {μ : St} (h : theLst x μ ≠ .bad) : ∃ i xs, theLst x μ = .ok (i, xs) μ := by
 unfold theLst at h ⊢
 cases x with
 | obj i =>
  dsimp only at h ⊢
  cases hi : μ.hp[i]? with
  | none => rw [hi] at h; exact (h rfl).elim
  | some ob =>
   cases ob with
   | lst xs => exact ⟨_, _, rfl⟩
   | _ => rw [hi] at h; exact (h rfl).elim
 | _ => exact (h rfl).elim
theorem Rep.relist {φ : List Addr} {μ : St} {s : Shared} (R : Rep c F φ μ s) {i : Nat} {a : Addr} {vs : List Value} {n : Nat} (hi : φ[i]? = some a) (hl : IsL s.heap a vs.toArray n) {g : Array Value -> Array Value} {ws : List Value} {ys : List PV} (hg : g vs.toArray = ws.toArray) (hw : VRs φ s.heap ws ys) {tk : Nat} :
  Rep c F φ { fr := μ.fr, hp := μ.hp.set i (.lst ys) } { s with heap := s.heap.update a (Obj.mapSeq g), toks := tk } ∧ Ext F.nss F.cls φ s.heap φ (s.heap.update a (Obj.mapSeq g)) := by
 refine R.upd hi (Heap.SameBut.update ..) λ hm => ?_
 have := hl.update g
 rw [hg] at this
 exact .lst this (hw.mv hm)
noncomputable def pAppend (o y : PV) : PM PV := theLst o >>= λ p => chk (lenOk p.2) >>= λ _ => putM p.1 (.lst (p.2 ++ [y])) >>= λ _ => pure .none
noncomputable def mAppend (fo fe : PM PV) : PM PV := fo >>= λ x => theLst x >>= λ _ => fe >>= λ y => pAppend x y
theorem Z9 {o e : Expr} {apos pos : Pos} {fo fe : PM PV} (hbase : attributeBase o "append" F.env (eval o F.env) = eval o F.env)
  (hfew : ((backTo pos (starEach [e] F.env)).all (λ x => !x.1) && (backToKw pos (keywordEach [] F.env)).all (λ x => x.1.isSome)
   && decide ([e].length + ([] : List Keyword).length + (if ([] : List Keyword).isEmpty then 0 else 1) < 30)) = true)
  (hline : (apos.endLine == pos.line) = true) (htr : backTo pos (starEach [e] F.env) = [(false, eval e F.env)]) (h : SimE c F o fo) (h' : SimE c F e fe) : SimE c F (.Call (.Attribute o "append" apos) [e] [] pos) (mAppend fo fe) := by
 refine Zcn hbase hfew hline PySem.F.plainAttrs_list PySem.F.slot_list_append PySem.F.type_list_append h (ck := theLst) (k := λ x _ => fe >>= λ y => pAppend x y) Zcz λ l x b => ?_
 rw [htr]
 intro A φ μ s Q E hA R p hb hQ hE
 refine P.append_list (h'.use hA R trivial hb hE λ v y φ' μ' s' eg R' x' r => ?_)
 rw [eg] at hb hQ hE
 unfold pAppend at hb hQ
 obtain ⟨i, xs, et⟩ := Zbc (λ e => hb (by rw [PM.B, e]))
 obtain ⟨a, vs, n, ea, hi, hl, hvs, rfl⟩ := Zdf R' (p.ext R x') et
 cases ea
 rw [PM.C et] at hb hQ
 obtain ⟨hln, e2⟩ := Zs hb
 rw [e2] at hQ
 refine ⟨_, _, by rw [size_toArray, hvs.length]; exact Zaf hln, hl, ?_⟩
 obtain ⟨R3, xD⟩ := R'.relist (tk := s'.toks) hi hl (g := λ xs => xs.push v) (ws := vs ++ [v]) (by simp) (hvs.append (.cons r .nil))
 exact hQ _ _ _ _ _ rfl R3 (x'.trans xD) .none
noncomputable abbrev hFew (c : Cx) (F : Fx) (pos : Pos) (args : List Expr) : Prop := ((backTo pos (starEach args F.env)).all (λ x => !x.1) && (backToKw pos (keywordEach [] F.env)).all (λ x => x.1.isSome)
   && decide (args.length + ([] : List Keyword).length + (if ([] : List Keyword).isEmpty then 0 else 1) < 30)) = true
noncomputable def pPop (o : PV) : PM PV := theLst o >>= λ p => chk (lenOk p.2) >>= λ _ => match p.2.getLast? with
 | some y => putM p.1 (.lst p.2.dropLast) >>= λ _ => pure y
 | none => PM.H
noncomputable def mPop (fo : PM PV) : PM PV := fo >>= λ x => theLst x >>= λ _ => pPop x
theorem Zlw {o : Expr} {apos pos : Pos} {fo : PM PV} (hbase : attributeBase o "pop" F.env (eval o F.env) = eval o F.env) (hfew : hFew c F pos []) (hline : (apos.endLine == pos.line) = true) (h : SimE c F o fo) :
  SimE c F (.Call (.Attribute o "pop" apos) [] [] pos) (mPop fo) := by
 refine Zcn hbase hfew hline PySem.F.plainAttrs_list PySem.F.slot_list_pop PySem.F.type_list_pop h (ck := theLst) (k := λ x _ => pPop x) Zcz λ l x b => ?_
 show Sim c F _ _ (callWith pos (.builtin "list.pop") [.ref l] [] []) _
 intro A φ μ s Q E hA R p hb hQ hE
 unfold pPop at hb hQ
 obtain ⟨i, xs, et⟩ := Zbc (λ e => hb (by rw [PM.B, e]))
 obtain ⟨a, vs, n, ea, hi, hl, hvs, rfl⟩ := Zdf R p et
 cases ea
 rw [PM.C et] at hb hQ
 obtain ⟨hln, e2⟩ := Zs hb
 rw [e2] at hb hQ
 dsimp only at hb hQ
 cases hg : xs.getLast? with
 | none => rw [hg] at hb; exact (hb rfl).elim
 | some y =>
  rw [hg] at hQ
  have hlen := hvs.length
  have hne : xs ≠ [] := by intro e; subst e; cases hg
  have hpos : 0 < xs.length := length_pos_iff.mpr hne
  rw [List.getLast?_eq_getElem?] at hg
  obtain ⟨w, hw, hr⟩ := hvs.get hg
  refine P.pop_list hl (y := w) (by simp only [size_toArray, hlen]; simpa using hw) ?_ (by rw [size_toArray, hlen]; exact Zaf hln)
  obtain ⟨R3, xD⟩ := R.relist (tk := s.toks) hi hl (g := λ xs => xs.eraseIdxIfInBounds (vs.toArray.size - 1)) (ws := vs.take (vs.length - 1)) (ys := xs.dropLast) (by
   simp only [size_toArray, List.eraseIdxIfInBounds_toArray]
   congr 1
   rw [<- List.dropLast_eq_take]
   have hne' : vs ≠ [] := by intro e; subst e; simp at hlen; exact Qnl hpos hlen.symm
   obtain ⟨ys, y, rfl⟩ := (List.eq_nil_or_concat vs).resolve_left hne'
   simp [List.eraseIdx_append_of_length_le]) (by
   rw [List.dropLast_eq_take, <- hlen]
   exact hvs.take _)
  exact hQ _ _ _ _ _ rfl R3 xD (hr.ext R xD)
noncomputable def pPopAt (o y : PV) : PM PV := theLst o >>= λ p => chk (lenOk p.2) >>= λ _ => match y with
 | .int k => (match pIdx p.2.length k with
  | some j => (match p.2[j]? with
   | some x => putM p.1 (.lst (p.2.eraseIdx j)) >>= λ _ => pure x
   | none => PM.H)
  | none => PM.H)
 | _ => PM.H
noncomputable def mPopAt (fo fe : PM PV) : PM PV := fo >>= λ x => theLst x >>= λ _ => fe >>= λ y => pPopAt x y
theorem Zoc {o e : Expr} {apos pos : Pos} {fo fe : PM PV} (hbase : attributeBase o "pop" F.env (eval o F.env) = eval o F.env) (hfew : hFew c F pos [e]) (hline : (apos.endLine == pos.line) = true)
  (htr : backTo pos (starEach [e] F.env) = [(false, eval e F.env)]) (h : SimE c F o fo) (h' : SimE c F e fe) : SimE c F (.Call (.Attribute o "pop" apos) [e] [] pos) (mPopAt fo fe) := by
 refine Zcn hbase hfew hline PySem.F.plainAttrs_list PySem.F.slot_list_pop PySem.F.type_list_pop h (ck := theLst) (k := λ x _ => fe >>= λ y => pPopAt x y) Zcz λ l x b => ?_
 rw [htr]
 intro A φ μ s Q E hA R p hb hQ hE
 refine P.pop_at_list (h'.use hA R trivial hb hE λ v y φ' μ' s' eg R' x' r => ?_)
 rw [eg] at hb hQ hE
 unfold pPopAt at hb hQ
 obtain ⟨i, xs, et⟩ := Zbc (λ e => hb (by rw [PM.B, e]))
 obtain ⟨a, vs, n, ea, hi, hl, hvs, rfl⟩ := Zdf R' (p.ext R x') et
 cases ea
 rw [PM.C et] at hb hQ
 obtain ⟨hln, e2⟩ := Zs hb
 rw [e2] at hb hQ
 have hlen := hvs.length
 have hk : ∃ k, y = .int k := by
  clear hQ hE r R' x' eg e2 et
  cases y with
  | int k => exact ⟨k, rfl⟩
  | _ => exact (hb rfl).elim
 obtain ⟨k, rfl⟩ := hk
 obtain ⟨t, rfl⟩ := r.int_inv rfl
 ·dsimp only at hb hQ
  cases hj : pIdx xs.length k with
  | none => rw [hj] at hb; exact (hb rfl).elim
  | some j =>
   rw [hj] at hb hQ
   dsimp only at hb hQ
   cases hx : xs[j]? with
   | none => rw [hx] at hb; exact (hb rfl).elim
   | some x =>
    rw [hx] at hQ
    obtain ⟨w, hw, hr⟩ := hvs.get hx
    have hlt := (Qgl hw)
    obtain ⟨R3, xD⟩ := R'.relist (tk := s'.toks) hi hl (g := λ xs => xs.eraseIdxIfInBounds j) (ws := vs.eraseIdx j) (by simp) (hvs.eraseIdx j)
    have hl2 := Za1 hln
    refine ⟨vs.toArray, n, k, t, j, w, by rw [size_toArray, hlen]; exact Zaf hln, rfl, hl, ?_, ?_, by simpa using hw, hQ _ _ _ _ _ rfl R3 (x'.trans xD) (hr.ext R' xD)⟩
    ·unfold Builtin.List.listFitsIndex
     rcases Zcg hj with ⟨q1, q2, q3⟩ | ⟨q1, q2, q3, q4⟩ <;> simp <;> omega
    ·rcases Zcg hj with ⟨q1, q2, rfl⟩ | ⟨q1, q2, q3, rfl⟩
     ·rw [size_toArray]; exact Zdx q1 hlt
     ·rw [size_toArray, hlen]; exact Zf7 q1 q2
noncomputable def pClear (o : PV) : PM PV := theLst o >>= λ p => chk (lenOk p.2) >>= λ _ => putM p.1 (.lst []) >>= λ _ => pure .none
noncomputable def mClear (fo : PM PV) : PM PV := fo >>= λ x => theLst x >>= λ _ => pClear x
theorem Zod {o : Expr} {apos pos : Pos} {fo : PM PV} (hbase : attributeBase o "clear" F.env (eval o F.env) = eval o F.env) (hfew : hFew c F pos []) (hline : (apos.endLine == pos.line) = true) (h : SimE c F o fo) :
  SimE c F (.Call (.Attribute o "clear" apos) [] [] pos) (mClear fo) := by
 refine Zcn hbase hfew hline PySem.F.plainAttrs_list PySem.F.slot_list_clear PySem.F.type_list_clear h (ck := theLst) (k := λ x _ => pClear x) Zcz λ l x b => ?_
 show Sim c F _ _ (callWith pos (.builtin "list.clear") [.ref l] [] []) _
 intro A φ μ s Q E hA R p hb hQ hE
 unfold pClear at hb hQ
 obtain ⟨i, xs, et⟩ := Zbc (λ e => hb (by rw [PM.B, e]))
 obtain ⟨a, vs, n, ea, hi, hl, hvs, rfl⟩ := Zdf R p et
 cases ea
 rw [PM.C et] at hb hQ
 obtain ⟨hln, e2⟩ := Zs hb
 rw [e2] at hb hQ
 refine P.clear_list hl ?_ (by rw [size_toArray, hvs.length]; exact Zaf hln)
 obtain ⟨R3, xD⟩ := R.relist (tk := s.toks) hi hl (g := λ _ => #[]) (ws := []) (ys := []) rfl .nil
 exact hQ _ _ _ _ _ rfl R3 xD .none
noncomputable def intsOf : List PV -> Option (List Int)
 | [] => some []
 | .int i :: r => (intsOf r).map (i :: ·)
 | _ :: _ => none
theorem Zpn {i : Int} {r : List PV} : intsOf (.int i :: r) = (intsOf r).map (i :: ·) := rfl
noncomputable def pCount (xs : List PV) (y : PV) : PM PV := match intsOf xs, y with
 | some is, .int k => pure (.int (is.count k : Nat))
 | _, _ => PM.H
end

noncomputable def ownNames (names : List (Str × NameKind)) : List (Str × NameKind) := names.filter λ x => x.2 == .local || x.2 == .cell
noncomputable def locsOf (L : Addr) (cells : List (Str × Addr)) (names : List (Str × NameKind)) : List Loc :=
 (ownNames names).map λ x => if x.2 == .local then .loc L x.1 else .cell ((cells.lookup x.1).getD 0)
noncomputable def initFr (names : List (Str × NameKind)) (ks : List Str) (ys : List PV) : List PV := (ownNames names).map λ x => ((ks.zip ys).reverse.lookup x.1).getD .undef
noncomputable def fxOf (fd : FuncData) (L a : Addr) (outer : List Env) (lv : Nat) : Fx :=
 { env := callEnvC fd L a, locs := locsOf L (cellsFrom (L + 1) fd.scope.names []) fd.scope.names, nss := [L], cls := (cellsFrom (L + 1) fd.scope.names []).map (·.2), frames := callEnvC fd L a :: outer, lv := lv, hd := true }
noncomputable def callM (init : List PV) (body : PM MF) : PM PV := λ μ => match body ⟨init, μ.hp⟩ with
 | .ok (.ret v) μ' => .ok v ⟨μ.fr, μ'.hp⟩
 | .ok .next μ' => .ok .none ⟨μ.fr, μ'.hp⟩
 | .ok _ _ => .bad
 | .exc x μ' => .exc x ⟨μ.fr, μ'.hp⟩
 | .bad => .bad
noncomputable def callF (frm : List PV -> Option (List PV)) (g : PM MF) (xs : List PV) : PM PV := match frm xs with
 | some fr => callM fr g
 | none => PM.H
theorem Zay (x : Str) : ∀ (names : List (Str × NameKind)) (n : Nat) (acc : List (Str × Addr)), ((x, NameKind.cell) ∈ names ∨ (acc.lookup x).isSome = true) -> ((cellsFrom n names acc).lookup x).isSome = true
 | [], n, acc, h => by
  rcases h with h | h
  ·simp at h
  ·exact h
 | (y, k) :: r, n, acc, h => by
  unfold cellsFrom
  split
  ·refine Zay x r _ _ ?_
   rcases h with h | h
   ·rcases Qmc h with h | h
    ·cases h; right; simp
    ·exact .inl h
   ·right
    rw [lookup_cons]
    split <;> simp_all
  ·rename_i hk
   refine Zay x r _ _ ?_
   rcases h with h | h
   ·rcases Qmc h with h | h
    ·cases h; exact absurd rfl hk
    ·exact .inl h
   ·exact .inr h
theorem Zax {names : List (Str × NameKind)} {x : Str × NameKind} (h : x ∈ ownNames names) : x ∈ names ∧ (x.2 = .local ∨ x.2 = .cell) := by
 unfold ownNames at h
 rw [mem_filter] at h
 refine ⟨h.1, ?_⟩
 have h2 := h.2
 rw [Bool.or_eq_true] at h2
 rcases h2 with h2 | h2
 ·exact .inl (eq_of_beq h2)
 ·exact .inr (eq_of_beq h2)
theorem Zf9 {L : Addr} {cells : List (Str × Addr)} {names : List (Str × NameKind)} (hn : (names.map (·.1)).Nodup) (hap : cells.Pairwise λ x y => x.2 ≠ y.2) (hhas : ∀ x, (x, NameKind.cell) ∈ names -> (cells.lookup x).isSome = true) : (locsOf L cells names).Nodup := by
 unfold locsOf
 have hn' : ((ownNames names).map (·.1)).Nodup := (filter_sublist.map _).nodup hn
 rw [List.nodup_iff_pairwise_ne, pairwise_map] at *
 refine List.Pairwise.imp_of_mem ?_ hn'
 intro a b ha hb hab e
 obtain ⟨ha1, ha2⟩ := Zax ha
 obtain ⟨hb1, hb2⟩ := Zax hb
 obtain ⟨x, k⟩ := a
 obtain ⟨y, j⟩ := b
 dsimp only at *
 rcases ha2 with rfl | rfl <;> rcases hb2 with rfl | rfl
 ·simp at e; exact hab e
 ·simp at e
 ·simp at e
 ·obtain ⟨c1, h1⟩ := Option.isSome_iff_exists.mp (hhas _ ha1)
  obtain ⟨c2, h2⟩ := Option.isSome_iff_exists.mp (hhas _ hb1)
  have e2 : NameKind.cell == NameKind.local := by
   rw [h1, h2] at e
   simp at e
   have : c1 = c2 := by first | exact e | exact e.2
   subst this
   exact absurd (name_of_addr hap (mem_of_lookup h1) (mem_of_lookup h2)) hab
  exact absurd e2 (by decide)
theorem Zd6 {kindOf : Str -> Option NameKind} {x : Str} (hx : kindOf x = some .local) : ∀ (binds : List (Str × Value)) (m : Str -> Option Value), bindL kindOf binds m x = (binds.reverse.lookup x).or (m x)
 | [], m => by simp [bindL]
 | (n, v) :: r, m => by
  rw [bindL, Zd6 hx r, reverse_cons, List.lookup_append, Option.or_assoc]
  congr 1
  by_cases e : x = n
  ·subst e; rw [if_pos hx]; simp
  ·have : (x == n) = false := by simpa using e
   rw [lookup_cons, this]
   by_cases hn : kindOf n = some .local
   ·rw [if_pos hn]; simp [e]
   ·rw [if_neg hn]; simp
theorem Zd7 {kindOf : Str -> Option NameKind} {x : Str} (hx : kindOf x ≠ some .local) : ∀ (binds : List (Str × Value)) (m : Str -> Option Value), bindC kindOf binds m x = (binds.reverse.lookup x).or (m x)
 | [], m => by simp [bindC]
 | (n, v) :: r, m => by
  rw [bindC, Zd7 hx r, reverse_cons, List.lookup_append, Option.or_assoc]
  congr 1
  by_cases e : x = n
  ·subst e; rw [if_neg hx]; simp
  ·have : (x == n) = false := by simpa using e
   rw [lookup_cons, this]
   by_cases hn : kindOf n = some .local
   ·rw [if_pos hn]; simp
   ·rw [if_neg hn]; simp [e]
theorem Ziu {φ : List Addr} {h : Heap} (x : Str) {ws : List Value} {ys : List PV} (r : VRs φ h ws ys) : ∀ (ks : List Str), (∃ v y, (ks.zip ws).reverse.lookup x = some v ∧ (ks.zip ys).reverse.lookup x = some y ∧ VR φ h v y) ∨ ((ks.zip ws).reverse.lookup x = none ∧ (ks.zip ys).reverse.lookup x = none) := by
 induction r using VRs.ind with
 | nil => intro ks; right; rw [List.zip_nil_right, List.zip_nil_right]; exact ⟨rfl, rfl⟩
 | @cons v vs y ys a b ih =>
  intro ks
  cases ks with
  | nil => right; exact ⟨rfl, rfl⟩
  | cons k ks =>
  simp only [List.zip_cons_cons, reverse_cons, List.lookup_append]
  rcases ih ks with ⟨v', y', h1, h2, h3⟩ | ⟨h1, h2⟩
  ·left; exact ⟨v', y', by rw [h1]; rfl, by rw [h2]; rfl, h3⟩
  ·rw [h1, h2]
   by_cases e : x = k
   ·subst e; left; exact ⟨v, y, by simp, by simp, a⟩
   ·have : (x == k) = false := by simpa using e
    right; simp [lookup_cons, this]
section
variable {c : Cx} {F : Fx} {φ : List Addr} {μ : St} {s s1 : Shared}
theorem Rep.above (R : Rep c F φ μ s) {a : Addr} (h : s.heap.objs.size <= a) : a ∉ φ ∧ c.B.get? a = none := by
 refine ⟨λ hm => absurd (R.phiLt hm) (Nat.not_lt_of_le h), ?_⟩
 cases q : c.B.get? a with
 | none => rfl
 | some o => exact absurd (Heap.lt_size (R.keep _ o q)) (Nat.not_lt_of_le h)
theorem Rep.enter (R : Rep c F φ μ s) {fd : FuncData} {L f : Addr} {ks : List Str} {ws : List Value} {ys : List PV} (hw : VRs φ s.heap ws ys) (hk : fd.scope.kind = .function) (hn : (fd.scope.names.map (·.1)).Nodup)
  (hL : L = s.heap.objs.size) (x : InCallC s L (bindL (callEnvC fd L f).kindOf (ks.zip ws) λ _ => none) (callEnvC fd L f).cells (bindC (callEnvC fd L f).kindOf (ks.zip ws) λ _ => none) s1) (lv : Nat) :
  Rep c F φ μ s1 ∧ Ext F.nss F.cls φ s.heap φ s1.heap ∧ Rep c (fxOf fd L f F.frames lv) φ ⟨initFr fd.scope.names ks ys, μ.hp⟩ s1 := by
 obtain ⟨h₁, tk, rfl⟩ := x.toInCall.same
 have hLlt := x.toInCall.ns.lt
 obtain ⟨RB, xB⟩ := R.still (h' := h₁) (tk := tk) (Nat.le_of_lt (Nat.lt_of_le_of_lt x.toInCall.fresh hLlt)) x.toInCall.keep
 refine ⟨RB, xB, ?_⟩
 have hcells : (callEnvC fd L f).cells = cellsFrom (L + 1) fd.scope.names [] := rfl
 have hkind : ∀ y, (callEnvC fd L f).kindOf y = fd.scope.names.lookup y := λ y => rfl
 have look : ∀ y k, (y, k) ∈ fd.scope.names -> fd.scope.names.lookup y = some k := by
  intro y k hm
  have go : ∀ (l : List (Str × NameKind)), (l.map (·.1)).Nodup -> (y, k) ∈ l -> l.lookup y = some k := by
   intro l
   induction l with
   | nil => intro _ hm; simp at hm
   | cons z r ih =>
    intro hn hm
    obtain ⟨z1, z2⟩ := z
    simp only [map_cons, nodup_cons] at hn
    rcases Qmc hm with e | hm
    ·cases e; simp
    ·have : (y == z1) = false := by
      have : y ≠ z1 := λ e => hn.1 (by rw [<- e]; exact mem_map_of_mem (f := (·.1)) hm)
      simpa using this
     rw [lookup_cons, this]
     exact ih hn.2 hm
  exact go _ hn hm
 have hwB := hw.ext R xB
 have ap := x.apart
 rw [hcells] at ap
 have place : ∀ (k : Nat) (l : Loc), (fxOf fd L f F.frames lv).locs[k]? = some l -> ∃ y, (ownNames fd.scope.names)[k]? = some y ∧ l = (if y.2 == NameKind.local then .loc L y.1 else .cell (((cellsFrom (L + 1) fd.scope.names []).lookup y.1).getD 0)) := by
  intro k l hk
  show ∃ y, _
  have : (locsOf L (cellsFrom (L + 1) fd.scope.names []) fd.scope.names)[k]? = some l := hk
  unfold locsOf at this
  rw [List.getElem?_map] at this
  cases hy : (ownNames fd.scope.names)[k]? with
  | none => rw [hy] at this; cases this
  | some y => rw [hy] at this; exact ⟨y, rfl, (Option.some.inj this).symm⟩
 have frAt : ∀ (k : Nat) (y : Str × NameKind) (pv : PV), (ownNames fd.scope.names)[k]? = some y -> (initFr fd.scope.names ks ys)[k]? = some pv -> pv = ((ks.zip ys).reverse.lookup y.1).getD .undef := by
  intro k y pv hy hp
  unfold initFr at hp
  rw [List.getElem?_map, hy] at hp
  exact (Option.some.inj hp).symm
 have cellAt : ∀ y, (y, NameKind.cell) ∈ fd.scope.names -> ∃ a, (cellsFrom (L + 1) fd.scope.names []).lookup y = some a := λ y hy => Option.isSome_iff_exists.mp (Zay y _ _ _ (.inl hy))
 refine ⟨RB.ok, RB.keep, RB.os, RB.gens, RB.len, RB.nodup, RB.phiB, RB.objs, ?_, ?_, ?_, ?_, ?_, ?_, ?_⟩
 ·show (initFr _ _ _).length = (locsOf _ _ _).length
  unfold initFr locsOf; simp
 ·exact Zf9 hn ap λ y hy => Zay y _ _ _ (.inl hy)
 ·intro L' hL'
  have hL' : L' = L := by simpa [fxOf] using hL'
  subst hL'
  have ab := R.above (a := L') (Nat.le_of_eq hL.symm)
  exact ⟨ab.1, ab.2, _, x.toInCall.ns⟩
 ·intro a ha
  obtain ⟨⟨y, a'⟩, hm, rfl⟩ := Qmm (show a ∈ (cellsFrom (L + 1) fd.scope.names []).map (·.2) from ha)
  have ab := R.above (a := a') (by have q : L < a' := x.above y a' hm; rw [hL] at q; exact Nat.le_of_lt q)
  refine ⟨ab.1, ab.2, ?_⟩
  have : ∃ y, (cellsFrom (L + 1) fd.scope.names []).lookup y = some a' := by
   refine ⟨y, ?_⟩
   have go : ∀ (l : List (Str × Addr)), (l.map (·.1)).Nodup -> (y, a') ∈ l -> l.lookup y = some a' := by
    intro l
    induction l with
    | nil => intro _ hm; simp at hm
    | cons z r ih =>
     intro hn hm
     obtain ⟨z1, z2⟩ := z
     simp only [map_cons, nodup_cons] at hn
     rcases Qmc hm with e | hm
     ·cases e; simp
     ·have : (y == z1) = false := by
       have : y ≠ z1 := λ e => hn.1 (by rw [<- e]; exact mem_map_of_mem (f := (·.1)) hm)
       simpa using this
      rw [lookup_cons, this]
      exact ih hn.2 hm
   refine go _ ?_ hm
   have go2 : ∀ (names : List (Str × NameKind)) (n : Nat) (acc : List (Str × Addr)), (names.map (·.1)).Nodup -> (acc.map (·.1)).Nodup -> (∀ p ∈ acc, p.1 ∉ names.map (·.1)) -> ((cellsFrom n names acc).map (·.1)).Nodup := by
    intro names
    induction names with
    | nil => intro n acc _ h _; exact h
    | cons z r ih =>
     intro n acc hn ha hd
     obtain ⟨z1, z2⟩ := z
     simp only [map_cons, nodup_cons] at hn
     unfold cellsFrom
     split
     ·refine ih _ _ hn.2 ?_ ?_
      ·simp only [map_cons, nodup_cons]
       refine ⟨λ hm => ?_, ha⟩
       obtain ⟨p, hp, e⟩ := Qmm hm
       exact hd p hp (by rw [e]; simp)
      ·intro p hp
       rcases Qmc hp with e | hp
       ·rw [e]; exact hn.1
       ·intro hm; exact hd p hp (by simp only [map_cons]; exact mem_cons_of_mem _ hm)
     ·exact ih _ _ hn.2 ha λ p hp hm => hd p hp (by simp only [map_cons]; exact mem_cons_of_mem _ hm)
   exact go2 _ _ _ hn (by simp) (by simp)
  obtain ⟨y, hy⟩ := this
  exact ⟨_, x.cell y a' hy⟩
 ·intro k L' y hk
  obtain ⟨z, hz, e⟩ := place k _ hk
  have hzm := mem_of_getElem? hz
  obtain ⟨hz1, hz2⟩ := Zax hzm
  split at e
  ·rename_i hl
   cases e
   refine ⟨by simp [fxOf], λ pv hp hu => ?_⟩
   have hp := frAt k z pv hz hp
   have hkd : (callEnvC fd L f).kindOf z.1 = some .local := by rw [hkind]; rw [look z.1 z.2 hz1, eq_of_beq hl]
   rcases Ziu z.1 hwB ks with ⟨v, w, q1, q2, q3⟩ | ⟨q1, q2⟩
   ·refine ⟨_, v, x.toInCall.ns, ?_, ?_⟩
    ·rw [Zd6 hkd, q1]; rfl
    ·rw [hp, q2]; exact q3
   ·rw [q2] at hp; exact absurd hp hu
  ·cases e
 ·intro k a hk
  obtain ⟨z, hz, e⟩ := place k _ hk
  have hzm := mem_of_getElem? hz
  obtain ⟨hz1, hz2⟩ := Zax hzm
  split at e
  ·cases e
  ·rename_i hl
   have hc : z.2 = .cell := by
    rcases hz2 with h | h
    ·rw [h] at hl; exact absurd rfl hl
    ·exact h
   obtain ⟨a', ha'⟩ := cellAt z.1 (by rw [<- hc]; exact hz1)
   rw [ha'] at e
   cases e
   refine ⟨mem_map.mpr ⟨_, mem_of_lookup ha', rfl⟩, λ pv hp hu => ?_⟩
   have hp := frAt k z pv hz hp
   have hkd : (callEnvC fd L f).kindOf z.1 ≠ some .local := by rw [hkind]; rw [look z.1 z.2 hz1, hc]; decide
   rcases Ziu z.1 hwB ks with ⟨v, w, q1, q2, q3⟩ | ⟨q1, q2⟩
   ·refine ⟨v, ?_, ?_⟩
    ·have := x.cell z.1 a' ha'
     rw [Zd7 hkd, q1] at this
     exact this
    ·rw [hp, q2]; exact q3
   ·rw [q2] at hp; exact absurd hp hu
 ·intro env he
  rcases Qmc (show env ∈ callEnvC fd L f :: F.frames from he) with e | he
  ·subst e
   have ab := R.above (a := L) (Nat.le_of_eq hL.symm)
   obtain ⟨o, es, ep, ho, hd, _⟩ := x.toInCall.ns
   refine ⟨?_, L, rfl, ab.1, ab.2, o, es, ep, ho, hd⟩
   show fd.scope.kind ≠ .module
   rw [hk]; decide
  ·exact RB.frm env he
theorem Rep.leave {fd : FuncData} {L f : Addr} {lv : Nat} {φ' : List Addr} {μ' : St} {s' : Shared} (R : Rep c F φ μ s) (hL : L = s.heap.objs.size) (hcell : ∀ a ∈ (fxOf fd L f F.frames lv).cls, s.heap.objs.size <= a)
  (xB : Ext F.nss F.cls φ s.heap φ s1.heap) (hkeep : ∀ a o, s.heap.get? a = some o -> s1.heap.get? a = some o)
  (R' : Rep c (fxOf fd L f F.frames lv) φ' μ' s') (x' : Ext (fxOf fd L f F.frames lv).nss (fxOf fd L f F.frames lv).cls φ s1.heap φ' s'.heap) :
  Rep c F φ' ⟨μ.fr, μ'.hp⟩ s' ∧ Ext F.nss F.cls φ s.heap φ' s'.heap := by
 have stay : ∀ a o, s.heap.get? a = some o -> a ∉ φ -> s'.heap.get? a = some o ∨ ((∃ es ep, o.data = .dict es ep) ∧ ∃ sl, s'.heap.get? a = some { o with slots := sl }) := λ a o ho hn => by
  have hlt := Heap.lt_size ho
  refine x'.old a o (hkeep a o ho) hn (λ hm => ?_) (λ hm => ?_)
  ·have : a = L := by simpa [fxOf] using hm
   rw [this, hL] at hlt; exact absurd hlt (Nat.lt_irrefl _)
  ·exact absurd hlt (Nat.not_lt_of_le (hcell a hm))
 have e : Ext F.nss F.cls φ s.heap φ' s'.heap := by
  refine ⟨⟨?_, Nat.le_trans xB.size x'.size, λ a o ho hn _ _ => stay a o ho hn⟩, λ a h => x'.dom a (xB.dom a h)⟩
  obtain ⟨ψ, e, hb⟩ := x'.grow
  exact ⟨ψ, e, λ b h => Nat.le_trans xB.size (hb b h)⟩
 have mv : ∀ v y, VR φ s.heap v y -> VR φ' s'.heap v y := λ v y r => r.ext R e
 have sl : ∀ {a o}, s.heap.get? a = some o -> a ∉ φ -> ∃ sl, s'.heap.get? a = some { o with slots := sl } := λ {a o} ho hn => by
  rcases stay a o ho hn with k | ⟨_, sl, k⟩
  ·exact ⟨o.slots, k⟩
  ·exact ⟨sl, k⟩
 have rest : Rest c F φ' μ.fr s'.heap := R.rest (λ _ _ ho hn => e.nin ho hn) (λ a o ho hn _ => sl ho hn) mv
 exact ⟨⟨R'.ok, R'.keep, R'.os, R'.gens, R'.len, R'.nodup, R'.phiB, R'.objs, R.flen, R.lnodup, rest.nss, rest.cls, rest.vloc, rest.vcell, rest.frm⟩, e⟩
end

structure FnAt (c : Cx) (f : Addr) (fd : FuncData) (body : List Stmt) : Prop where
 at_ : ∃ oc od osl, c.K.lookup f = some ⟨oc, od, .func fd, osl⟩
 code : codeIn c.K fd.code fd.qualname = true
 body : fd.body = .stmts body
 clo : fd.closure = []
 co : fd.scope.isCoroutine = false
 gen : fd.scope.isGenerator = false
 kind : fd.scope.kind = .function
 nodup : (fd.scope.names.map (·.1)).Nodup
structure Binds (c : Cx) (fd : FuncData) (ks : List Str) (arr : List PV -> Option (List PV)) : Prop where
 own : (ks.all λ k => fd.scope.names.lookup k == some .local || fd.scope.names.lookup k == some .cell) = true
 bind : ∀ (F : Fx) (φ : List Addr) (μ : St) (s : Shared) (vs : List Value) (xs ys : List PV) (A : Around) (Q : List (Str × Value) -> Shared -> Prop) (E : Value -> Shared -> Prop), Rep c F φ μ s -> VRs φ s.heap vs xs -> arr xs = some ys ->
  (∀ ws s1, Rep c F φ μ s1 -> Ext F.nss F.cls φ s.heap φ s1.heap -> (∀ a o, s.heap.get? a = some o -> s1.heap.get? a = some o) -> VRs φ s1.heap ws ys -> Q (ks.zip ws) s1) -> wpAny (model c.prog c.w) A (bindArgs fd ⟨vs, []⟩) Q E s
section
variable {c : Cx} {F : Fx}
theorem Rep.inB {φ : List Addr} {μ : St} {s : Shared} (R : Rep c F φ μ s) : c.K.In s.heap := λ a o h => R.keep a o (R.ok.kin a o h)
theorem Zbz : ∀ (names : List (Str × NameKind)) (n : Nat) (acc : List (Str × Addr)) (m : Nat), m <= n -> (∀ p ∈ acc, m <= p.2) -> ∀ p ∈ cellsFrom n names acc, m <= p.2
 | [], n, acc, m, h, ha => ha
 | (y, k) :: r, n, acc, m, h, ha => by
  unfold cellsFrom
  split
  ·refine Zbz r _ _ m (Nat.le_succ_of_le h) λ p hp => ?_
   rcases Qmc hp with e | hp
   ·rw [e]; exact h
   ·exact ha p hp
  ·exact Zbz r _ _ m h ha
theorem Zmp {names : List (Str × NameKind)} {x : Str} (h : (names.lookup x == some .local || names.lookup x == some .cell) = true) (n : Nat) :
  names.lookup x = some .local ∨ (names.lookup x = some .cell ∧ ((cellsFrom n names []).lookup x).isSome = true) := by
 rw [Bool.or_eq_true] at h
 rcases h with h | h
 ·exact .inl (eq_of_beq h)
 ·exact .inr ⟨eq_of_beq h, Zay x names n [] (.inl (mem_of_lookup (eq_of_beq h)))⟩
noncomputable def retO (fr : List PV) (μ : St) (m : MF) : Out PV := match m with
 | .ret v => .ok v ⟨fr, μ.hp⟩
 | .next => .ok .none ⟨fr, μ.hp⟩
 | _ => .bad
theorem Zq7 {f : Addr} {fd : FuncData} {body : List Stmt} {ks : List Str} {arr frm : List PV -> Option (List PV)} {lv : Nat} {g : PM MF} (hf : FnAt c f fd body) (hbd : Binds c fd ks arr)
  (hfrm : ∀ xs fr, frm xs = some fr -> ∃ ys, arr xs = some ys ∧ fr = initFr fd.scope.names ks ys)
  (hbody : ∀ L outer, SimSS c (fxOf fd L f outer lv) body g) (hlv : lv + 1 <= F.lv) (hh : F.hd = true)
  {vs : List Value} {xs : List PV} {A : Around} {φ : List Addr} {μ : St} {s : Shared} {R : Result -> Shared -> Prop} (hA : ACtx F A) (Rp : Rep c F φ μ s) (hv : VRs φ s.heap vs xs) (hb : callF frm g xs μ ≠ .bad)
  (hQ : ∀ v y φ' μ' s', callF frm g xs μ = .ok y μ' -> Rep c F φ' μ' s' -> Ext F.nss F.cls φ s.heap φ' s'.heap -> VR φ' s'.heap v y -> R (.ok (.ret v)) s')
  (hE : ∀ e x φ' μ' s', callF frm g xs μ = .exc x μ' -> Rep c F φ' μ' s' -> Ext F.nss F.cls φ s.heap φ' s'.heap -> ExcR c (dom s.heap) φ' s'.heap e x -> R (.error e) s') :
  codeAny (model c.prog c.w) A (.call (.ref f) ⟨vs, []⟩) R s := by
 generalize hO : callF frm g xs μ = O at hb hQ hE
 unfold callF at hO
 cases hfr : frm xs with
 | none => rw [hfr] at hO; exact (hb hO.symm).elim
 | some fr =>
  rw [hfr] at hO
  obtain ⟨ys, hys, rfl⟩ := hfrm xs fr hfr
  dsimp only at hO
  obtain ⟨oc, od, osl, hlk⟩ := hf.at_
  have X := Rp.inB
  have hdep : A.depth < recursionLimit := by
   have := hA.depth
   have e : recursionLimit = 1000 := rfl
   lia
  refine codeAny_call_function hdep (X _ _ hlk) rfl hf.co hf.gen hf.body (codeRec_of X hf.code) ?_
  refine hbd.bind F φ μ s vs xs ys A.in1 _ _ Rp hv hys λ ws s1 RB xB kB hw => ?_
  rw [hf.clo]
  refine wpAny_newFunctionEnv_cells hf.kind (λ p hp => Zmp (all_eq_true.mp hbd.own p.1 ?_) _) λ env he s2 x => ?_
  ·exact (List.of_mem_zip hp).1
  subst he
  obtain ⟨RC, xC, RG⟩ := RB.enter hw hf.kind hf.nodup rfl x lv
  have hnl : s2.heap.NoLimit := RC.ok.nolimit.keeps RC.keep
  have hcell : ∀ a ∈ (fxOf fd s1.heap.objs.size f F.frames lv).cls, s1.heap.objs.size <= a := λ a ha => by
   obtain ⟨p, hp, rfl⟩ := Qmm (show a ∈ (cellsFrom (s1.heap.objs.size + 1) fd.scope.names []).map (·.2) from ha)
   exact Zbz _ _ _ _ (Nat.le_succ _) (by simp) p hp
  have hAG : ACtx (fxOf fd s1.heap.objs.size f F.frames lv) (A.deeper (callEnvC fd s1.heap.objs.size f)) := by
   refine ⟨λ _ => hA.handled hh, ?_, hA.guards, ?_, ?_⟩
   ·show A.frames.map _ = _
    rw [hA.frames]; rfl
   ·show A.depth + 1 + 10 * lv <= 900
    have := hA.depth; lia
   ·show A.units + 3 + 100 * lv <= 9000
    have := hA.units; lia
  refine ⟨hnl, codeAny_func (hbody s1.heap.objs.size F.frames (A.deeper (callEnvC fd s1.heap.objs.size f)) φ _ s2 _ _ hAG RG trivial (λ e => hb (by rw [<- hO]; unfold callM; rw [e])) (λ fl mf φ' μ' s' e R' x' r => ?_) λ e y φ' μ' s' he R' x' r => ?_)⟩
  ·have back := Rep.leave RB rfl hcell xC x.toInCall.keep R' x'
   have eo : callM (initFr fd.scope.names ks ys) g μ = retO μ.fr μ' mf := by
    unfold callM; rw [e]; cases mf <;> rfl
   rw [eo] at hO
   induction r using FR.cs with
   | next => exact hQ _ _ φ' _ s' hO.symm back.1 (xB.trans back.2) .none
   | ret r => exact hQ _ _ φ' _ s' hO.symm back.1 (xB.trans back.2) r
   | brk => exact (hb hO.symm).elim
   | cont => exact (hb hO.symm).elim
  ·have eo : callM (initFr fd.scope.names ks ys) g μ = .exc y ⟨μ.fr, μ'.hp⟩ := by
    unfold callM; rw [he]
   rw [eo] at hO
   unfold leaving
   refine Qb (Zfs hAG R' (outer := F.frames) rfl r (λ h₁ N1 TB => ?_) x'.dom)
   refine Zcf (s := { s' with heap := h₁ }) (R'.side (tk := s'.toks) N1.side) TB λ h₂ N2 TC => ?_
   have RG2 := (R'.side (tk := s'.toks) N1.side).side (tk := s'.toks) N2.side
   have xG := N2.ext (λ _ q => q) (N1.ext (λ _ q => q) x')
   have back := Rep.leave RB rfl hcell xC x.toInCall.keep RG2 xG
   exact hE _ _ φ' _ { s' with heap := h₂ } hO.symm back.1 (xB.trans back.2) (TC.r.le λ a q => xC.dom a (xB.dom a q))
end

noncomputable def starItems (v : PV) : PM (List PV) := pItems v >>= λ xs => chk (lenOk xs) >>= λ _ => pure xs
section
variable {c : Cx} {F : Fx}
inductive CallArgs (c : Cx) (F : Fx) : List (Bool × Sem Value) -> PM (List PV) -> Prop
 | nil : CallArgs c F [] (pure [])
 | cons {t : Sem Value} {f : PM PV} {ts : List (Bool × Sem Value)} {g : PM (List PV)} : Sim c F NoP (λ φ h v x => VR φ h v x) t f -> CallArgs c F ts g -> CallArgs c F ((false, t) :: ts) (f >>= λ x => g >>= λ xs => pure (x :: xs))
 | star {t : Sem Value} {f : PM PV} : Sim c F NoP (λ φ h v x => VR φ h v x) t f -> CallArgs c F [(true, t)] (f >>= λ x => starItems x)
theorem Ziv {v : Value} {x : PV} : Sim c F (λ φ h => VR φ h v x) (λ φ h vs xs => VRs φ h vs xs) (do if <- notIterableAtAll v then raiseError "TypeError" s!"" else collect v) (starItems x) ∧
  ∀ (A : Around) (φ : List Addr) (μ : St) (s : Shared) (Q : List Value -> Shared -> Prop) (E : Value -> Shared -> Prop), ACtx F A -> Rep c F φ μ s -> VR φ s.heap v x -> starItems x μ ≠ .bad ->
   (∀ vs xs s', starItems x μ = .ok xs μ -> Rep c F φ μ s' -> Ext F.nss F.cls φ s.heap φ s'.heap -> VRs φ s'.heap vs xs -> Q vs s') -> StarOf (model c.prog c.w) A E v Q s := by
 have main : ∀ (A : Around) (φ : List Addr) (μ : St) (s : Shared) (Q : List Value -> Shared -> Prop) (E : Value -> Shared -> Prop), ACtx F A -> Rep c F φ μ s -> VR φ s.heap v x -> starItems x μ ≠ .bad ->
   (∀ vs xs s', starItems x μ = .ok xs μ -> Rep c F φ μ s' -> Ext F.nss F.cls φ s.heap φ s'.heap -> VRs φ s'.heap vs xs -> Q vs s') -> StarOf (model c.prog c.w) A E v Q s := by
  intro A φ μ s Q E hA R r hb hQ
  have seq : ∀ (a : Addr) (T : String) (vs : List Value) (n : Nat) (xs : List PV), v = .ref a -> s.heap.get? a = some { cls := .type T, data := .seq vs.toArray n } -> (T = "list" ∨ T = "tuple") -> VRs φ s.heap vs xs -> pItems x μ = .ok xs μ -> StarOf (model c.prog c.w) A E v Q s := by
   intro a T vs n xs ev ho hT hvs hp
   subst ev
   unfold starItems at hb hQ
   rw [PM.C hp] at hb hQ
   obtain ⟨hl, e2⟩ := Zs hb
   rw [e2] at hQ
   have hT' : s.TypeIs (.ref a) T := ⟨_, ho, rfl⟩
   have z : wpAny (model c.prog c.w) A (collect (.ref a)) Q E s := by
    refine Z1 (wpAny_collect_seq a hT ho rfl rfl (λ h' hk size => ?_) (by rw [size_toArray, hvs.length]; exact Zaf hl))
    obtain ⟨RB, xB⟩ := R.still (h' := h') (tk := s.toks) size hk
    exact hQ _ xs _ rfl RB xB (by simpa using hvs.ext R xB)
   unfold StarOf notIterableAtAll
   rcases hT with rfl | rfl
   ·exact Qb (wpAny_specialOf hT' PySem.F.slot_list_iter.lookup (Qp ⟨rfl, z⟩))
   ·exact Qb (wpAny_specialOf hT' PySem.F.slot_tuple_iter.lookup (Qp ⟨rfl, z⟩))
  have bad : pItems x μ = .bad -> False := λ e => hb (by unfold starItems; rw [PM.B, e])
  induction r using VR.cs with
  | tup h1 h4 h5 => exact seq _ "tuple" _ _ _ rfl h1 (.inr rfl) h5 rfl
  | lst h1 h4 h5 => exact seq _ "list" _ _ _ rfl h1 (.inl rfl) h5 rfl
  | @obj i a h1 =>
   cases hi : μ.hp[i]? with
   | none => exact (bad (by unfold pItems; simp only [hi])).elim
   | some ob =>
    have q := R.objs i a ob h1 hi
    cases q with
    | lst k1 k2 => exact seq _ "list" _ _ _ rfl k1 (.inl rfl) k2 (by unfold pItems; simp only [hi])
    | _ => exact (bad (by unfold pItems; simp only [hi])).elim
  | _ => exact (bad rfl).elim
 refine ⟨λ A φ μ s Q E hA R r hb hQ hE => ?_, main⟩
 have z := main A φ μ s (λ vs s' => Q vs s') E hA R r hb λ vs xs s' e R' x' r' => hQ vs xs φ μ s' e R' x' r'
 unfold StarOf at z
 refine Qb (wpAny_mono z (λ b s2 h₂ => ?_) λ _ _ e => e)
 obtain ⟨rfl, h₂⟩ := h₂
 exact h₂
theorem Zc8 {pos : Pos} {t : Sem Value} {ts : List (Bool × Sem Value)} : backTo pos ((false, t) :: ts) = (false, t) :: backTo pos ts := rfl
theorem Zfc {pos : Pos} {t : Sem Value} : backTo pos [(true, t)] = [(true, (do let v <- t; standAt pos; pure v))] := rfl
theorem Zga {pos : Pos} {ts : List (Bool × Sem Value)} {g : PM (List PV)} (h : CallArgs c F ts g) : Sim c F NoP (λ φ h v x => VRs φ h v x) (spliced (backTo pos ts)) g := by
 induction h with
 | nil => exact λ A φ μ s Q E hA R p hb hQ hE => spliced_nil (hQ _ _ _ _ _ rfl R Ext.refl .nil)
 | @cons t f ts g ht hts ih =>
  intro A φ μ s Q E hA R p hb hQ hE
  rw [Zc8]
  refine spliced_cons (ht.use hA R p hb hE λ a b φ' μ' s' eg R' x r => ?_)
  rw [eg] at hb hQ hE
  refine (ih.keep (v := a) (x := b)).use hA R' r hb (λ e y φ' μ' s' he R' x' r => hE e y φ' μ' s' he R' (x.trans x') (r.le x.dom)) λ aC bC φ2 μ2 s2 eg RC xC rC => ?_
  rw [eg] at hQ
  exact hQ _ _ _ _ _ rfl RC (x.trans xC) (.cons rC.1 rC.2)
 | @star t f ht =>
  intro A φ μ s Q E hA R p hb hQ hE
  rw [Zfc]
  refine ks_spliced (ht.use hA R p hb hE λ a b φ' μ' s' eg R' x r => ?_)
  rw [eg] at hb hQ hE
  refine (Ziv (c := c) (F := F)).2 A φ' μ' s' _ _ hA R' r hb λ vs xs s'' e R'' x'' r'' => spliced_nil ?_
  rw [append_nil]
  exact hQ _ _ _ _ _ e R'' (x.trans x'') r''
theorem Ziw {f : Value} {pos : Pos} {ts : List (Bool × Sem Value)} {g : PM (List PV)} (h : CallArgs c F ts g) : Sim c F NoP (λ φ h (a : Args) x => VRs φ h a.pos x ∧ a.kw = []) (evalArgs f true (backTo pos ts) []) g := by
 intro A φ μ s Q E hA R p hb hQ hE
 cases h with
 | nil => exact PySem.evalArgs_none (hQ _ _ _ _ _ rfl R Ext.refl ⟨.nil, rfl⟩)
 | @cons t f ts g ht hts =>
  rw [Zc8]
  refine evalArgs_plain ?_
  rw [<- Zc8]
  exact Zga (.cons ht hts) A φ μ s _ _ hA R p hb (λ a b φ' μ' s' e R' x r => hQ ⟨a, []⟩ b φ' μ' s' e R' x ⟨r, rfl⟩) hE
 | @star t f ht =>
  rw [Zfc]
  refine ks_lone (ht.use hA R p hb hE λ a b φ' μ' s' eg R' x r => ?_)
  rw [eg] at hb hQ hE
  exact (Ziv (c := c) (F := F)).2 A φ' μ' s' _ _ hA R' r hb λ vs xs s'' e R'' x'' r'' => hQ ⟨vs, []⟩ _ _ _ _ e R'' (x.trans x'') ⟨r'', rfl⟩
theorem Za2 {pos : Pos} {f : Value} {first : List Value} {ts : List (Bool × Sem Value)} {g : PM (List PV)} {β : Type} {k : List PV -> PM β} {P : List Addr -> Heap -> Prop} {RR : List Addr -> Heap -> Value -> β -> Prop} (hargs : CallArgs c F ts g)
  (hP : ∀ φ μ s φ' h', Rep c F φ μ s -> Ext F.nss F.cls φ s.heap φ' h' -> P φ s.heap -> P φ' h')
  (hkeep : ∀ φ h, c.K.In h -> P φ h -> ∃ k, (k = Keeper.frame ∨ k = Keeper.machine ∨ k = Keeper.boundFrame) ∧ Looks (model c.prog c.w) h (keeperOf f) k)
  (hcall : ∀ vs ys, Sim c F (λ φ h => P φ h ∧ VRs φ h vs ys) RR (call f (first ++ vs)) (k ys)) :
  Sim c F P RR (callWith pos f first (backTo pos ts) []) (g >>= k) := by
 intro A φ μ s Q E hA R p hb hQ hE
 have core : wpAny (model c.prog c.w) A (evalArgs f true (backTo pos ts) []) (λ a s1 => (∃ φ, c.K.In s1.heap ∧ P φ s1.heap) ∧ wpAny (model c.prog c.w) A (call f (first ++ a.pos) a.kw) Q E s1) E s := by
  refine (Ziw hargs).use hA R trivial hb hE λ a b φ' μ' s' eg R' x r => ?_
  rw [eg] at hb hQ hE
  obtain ⟨ap, akw⟩ := a
  obtain ⟨r1, r2⟩ := r
  obtain rfl : akw = [] := r2
  exact ⟨⟨φ', R'.inB, hP _ _ _ _ _ R x p⟩, (hcall ap b).fin hA R' ⟨hP _ _ _ _ _ R x p, r1⟩ rfl x hb hQ hE⟩
 have hk : ∀ h, (∃ φ, c.K.In h ∧ P φ h) -> ∃ k, (k = Keeper.frame ∨ k = Keeper.machine ∨ k = Keeper.boundFrame) ∧ Looks (model c.prog c.w) h (keeperOf f) k := λ h ⟨φ, a, b⟩ => hkeep φ h a b
 cases hst : (backTo pos ts).any (·.1) with
 | true => exact ks_call hst hk core
 | false => exact callWith_of (by rw [hst]; rfl) hk core
theorem NoP.stable : ∀ φ μ s φ' h', Rep c F φ μ s -> Ext F.nss F.cls φ s.heap φ' h' -> NoP φ s.heap -> NoP φ' h' := λ _ _ _ _ _ _ _ _ => trivial
end

section
variable {c : Cx} {F : Fx}
theorem Rep.glob {φ : List Addr} {μ : St} {s : Shared} (R : Rep c F φ μ s) : s.heap.Ns mainGlobals c.mg := R.ok.glob.keeps R.keep
theorem Rep.bui {φ : List Addr} {μ : St} {s : Shared} (R : Rep c F φ μ s) : s.heap.Ns builtinsNs c.mb := R.ok.bui.keeps R.keep
theorem Zmq {x : Str} {pos : Pos} {v : Value} {pv : PV} (hk : F.env.scope.kind = .function) (hg : F.env.globals = mainGlobals) (hx : F.env.kindOf x = some .globalImplicit) (hd : (x == ("__debug__" : Str)) = false)
  (e : nsIn c.K mainGlobals x = some (some v)) (hv : ∀ φ h, VR φ h v pv) : SimE c F (.Name x pos) (pure pv) := λ A φ μ s Q E hA R p hb hQ hE =>
 Name_function_global hk hx (loadGlobal_global (by rw [hg]; exact R.glob) (mg_of R.ok.kin R.ok.glob e) (hQ _ _ _ _ _ rfl R Ext.refl (hv _ _))) hd
theorem Zbh {x : Str} {np pos : Pos} {args : List Expr} {f : Value} {g : PM (List PV)} {k : List PV -> PM PV}
  (hn : ∀ A φ μ s Q (E : Value -> Shared -> Prop), ACtx F A -> Rep c F φ μ s -> Q f s -> wpAny (model c.prog c.w) A (eval (.Name x np) F.env) Q E s)
  (hargs : CallArgs c F (starEach args F.env) g)
  (hkeep : ∀ φ h, c.K.In h -> NoP φ h -> ∃ k, (k = Keeper.frame ∨ k = Keeper.machine ∨ k = Keeper.boundFrame) ∧ Looks (model c.prog c.w) h (keeperOf f) k)
  (hcall : ∀ vs ys, Sim c F (λ φ h => VRs φ h vs ys) (λ φ h v x => VR φ h v x) (call f vs) (k ys)) : SimE c F (.Call (.Name x np) args [] pos) (g >>= k) := λ A φ μ s Q E hA R p hb hQ hE => by
 refine Call_Name rfl (hn A φ μ s _ _ hA R ?_)
 exact Za2 hargs NoP.stable hkeep (λ vs ys => (hcall vs ys).mono (λ _ _ h => h.2) λ _ _ _ _ h => h) A φ μ s Q E hA R trivial hb hQ hE
theorem Zk6 {x : Str} {np : Pos} {v : Value} (hk : F.env.scope.kind = .function) (hg : F.env.globals = mainGlobals) (hx : F.env.kindOf x = some .globalImplicit) (hd : (x == ("__debug__" : Str)) = false)
  (e : nsIn c.K mainGlobals x = some (some v)) : ∀ A φ μ s Q (E : Value -> Shared -> Prop), ACtx F A -> Rep c F φ μ s -> Q v s -> wpAny (model c.prog c.w) A (eval (.Name x np) F.env) Q E s :=
 λ A φ μ s Q E hA R h => Name_function_global hk hx (loadGlobal_global (by rw [hg]; exact R.glob) (mg_of R.ok.kin R.ok.glob e) h) hd
theorem Zpo {x : Str} {np : Pos} {v : Value} (hk : F.env.scope.kind = .function) (hg : F.env.globals = mainGlobals) (hbn : F.env.builtins = builtinsNs) (hx : F.env.kindOf x = some .globalImplicit) (hd : (x == ("__debug__" : Str)) = false)
  (e : nsIn c.K mainGlobals x = some none) (hb' : bootBuiltins x = some v) (hn : x ≠ "__name__") : ∀ A φ μ s Q (E : Value -> Shared -> Prop), ACtx F A -> Rep c F φ μ s -> Q v s -> wpAny (model c.prog c.w) A (eval (.Name x np) F.env) Q E s :=
 λ A φ μ s Q E hA R h => Name_function_global hk hx (loadGlobal_builtin (by rw [hg]; exact R.glob) (mg_none_of R.ok.kin R.ok.glob e) (by rw [hbn]; exact R.bui) ((R.ok.boot x hn).trans hb') h) hd
theorem Zix {id : String} : ∀ φ h, c.K.In h -> NoP φ h -> ∃ k, (k = Keeper.frame ∨ k = Keeper.machine ∨ k = Keeper.boundFrame) ∧ Looks (model c.prog c.w) h (keeperOf (.builtin id)) k := λ _ _ _ _ => ⟨.machine, .inr (.inl rfl), Looks.of_pure rfl⟩
theorem Zoe {id : String} : ∀ φ h, c.K.In h -> NoP φ h -> ∃ k, (k = Keeper.frame ∨ k = Keeper.machine ∨ k = Keeper.boundFrame) ∧ Looks (model c.prog c.w) h (keeperOf (.type id)) k := λ _ _ _ _ => ⟨.machine, .inr (.inl rfl), Looks.of_pure rfl⟩
theorem Zlx {f : Addr} {fd : FuncData} {body : List Stmt} (hf : FnAt c f fd body) : ∀ φ h, c.K.In h -> NoP φ h -> ∃ k, (k = Keeper.frame ∨ k = Keeper.machine ∨ k = Keeper.boundFrame) ∧ Looks (model c.prog c.w) h (keeperOf (.ref f)) k := λ _ _ X _ => by
 obtain ⟨oc, od, osl, hlk⟩ := hf.at_
 exact ⟨.frame, .inl rfl, (Looks.ld (part := none) (X _ _ hlk)).andThen .now⟩
end

noncomputable def notRaw : PV -> Bool
 | .raw _ => false
 | .undef => false
 | _ => true
theorem Zhi {φ : List Addr} {h : Heap} {v : Value} {x : PV} (r : VR φ h v x) (e : notRaw x = true) : handedIn v = true := by
 induction r using VR.cs <;> first | rfl | cases e
noncomputable def ownNs (C : Addr) (o : PV) (μ : St) : Option (Nat × List (Str × PV)) := match o with
 | .obj i => (match μ.hp[i]? with
  | some (.ins C' d) => (match decide (C' = C), μ.hp[d]? with
   | true, some (.ns fs) => some (d, fs)
   | _, _ => none)
  | _ => none)
 | _ => none
noncomputable def pAttr (C : Addr) (name : Str) (o : PV) : PM PV := λ μ => match ownNs C o μ with
 | some (_, fs) => (match fs.lookup name with
  | some x => (match notRaw x with
   | true => .ok x μ
   | false => .bad)
  | none => .bad)
 | none => .bad
noncomputable def eAttr (C : Addr) (name : Str) (f : PM PV) : PM PV := f >>= pAttr C name
noncomputable def pSlot (C : Addr) (k : Nat) (o : PV) : PM PV := λ μ => match o with
 | .obj i => (match μ.hp[i]? with
  | some (.slt C' _ fs) => (match decide (C' = C), (fs[k]?).join with
   | true, some x => (match notRaw x with
    | true => .ok x μ
    | false => .bad)
   | _, _ => .bad)
  | _ => .bad)
 | _ => .bad
noncomputable def eSlot (C : Addr) (k : Nat) (f : PM PV) : PM PV := f >>= pSlot C k
structure OwnName (c : Cx) (C : Addr) (name : Str) : Prop where
 find : findIn c.K (.ref C) name = some none
 cls : (clsIn c.K C).any (·.hasDict) = true
 ga : findIn c.K (.ref C) "__getattribute__" = some (some (.builtin "object.__getattribute__"))
structure SlotName (c : Cx) (C : Addr) (name : Str) (k : Nat) : Prop where
 find : ∃ p, (∀ od, findObj c.K C od name = some (.bind (.builtin "member_descriptor.__get__") (.ref p))) ∧ slotIn c.K p C = some k ∧ takerIn c.K C name = some (some (.ref p)) ∧ typeIn c.K (.ref p) = some (.type "member_descriptor")
 ga : findIn c.K (.ref C) "__getattribute__" = some (some (.builtin "object.__getattribute__"))
 gattr : findIn c.K (.ref C) "__getattr__" = some none
theorem Zdl {φ : List Addr} {h : Heap} {name : Str} {ds : List DictEntry} {fs : List (Str × PV)} (r : NRs φ h ds fs) : (∀ x, fs.lookup name = some x -> ∃ e, ds.find? (·.key.isStr name) = some e ∧ VR φ h e.val x) ∧ (fs.lookup name = none -> ds.find? (·.key.isStr name) = none) ∧ ds.any (·.refKey) = false := by
 induction r with
 | nil => exact ⟨λ x e => by simp at e, λ _ => rfl, rfl⟩
 | @cons k t e x ds es hk hv hr ih =>
  obtain ⟨i1, i2, i3⟩ := ih
  have ek : e.key.isStr name = (k == name) := by rw [hk]; rfl
  have rk : e.refKey = false := by unfold DictEntry.refKey; rw [hk]
  refine ⟨λ x h => ?_, λ h => ?_, ?_⟩
  ·rw [List.find?_cons, ek]
   rw [lookup_cons] at h
   by_cases q : name = k
   ·subst q; simp at h ⊢; subst h; exact hv
   ·have q1 : (name == k) = false := by simpa using q
    have q2 : (k == name) = false := by simpa using λ e => q e.symm
    rw [q1] at h; rw [q2]; exact i1 x h
  ·rw [List.find?_cons, ek]
   rw [lookup_cons] at h
   by_cases q : name = k
   ·subst q; simp at h
   ·have q1 : (name == k) = false := by simpa using q
    have q2 : (k == name) = false := by simpa using λ e => q e.symm
    rw [q1] at h; rw [q2]; exact i2 h
  ·rw [any_cons, rk, i3]; rfl
section
variable {c : Cx} {F : Fx} {φ : List Addr} {μ : St} {s : Shared}
theorem Zof {C : Addr} {x : PV} {μ : St} {d : Nat} {fs : List (Str × PV)} (e : ownNs C x μ = some (d, fs)) : ∃ i, x = .obj i ∧ μ.hp[i]? = some (.ins C d) ∧ μ.hp[d]? = some (.ns fs) := by
 cases x with
 | obj i =>
  unfold ownNs at e
  dsimp only at e
  cases hi : μ.hp[i]? with
  | none => rw [hi] at e; exact Zh e
  | some o =>
   rw [hi] at e
   cases o with
   | ins C' d' =>
    dsimp only at e
    cases hC : decide (C' = C) with
    | false => rw [hC] at e; exact Zh e
    | true =>
     rw [hC] at e
     cases hd : μ.hp[d']? with
     | none => rw [hd] at e; exact Zh e
     | some od =>
      rw [hd] at e
      cases od with
      | ns fs' => cases e; exact ⟨i, rfl, of_decide_eq_true hC ▸ hi, hd⟩
      | _ => exact Zh e
   | _ => exact Zh e
 | _ => exact Zh e
theorem Zgb (R : Rep c F φ μ s) {C : Addr} {v : Value} {x : PV} {d : Nat} {fs : List (Str × PV)} (r : VR φ s.heap v x) (e : ownNs C x μ = some (d, fs)) :
  ∃ a dx ds n, v = .ref a ∧ φ[d]? = some dx ∧ s.heap.get? a = some { cls := .ref C, dict := some dx, data := .plain } ∧ s.heap.get? dx = some { cls := .type "dict", data := .dict ds.toArray n } ∧ NRs φ s.heap ds fs := by
 obtain ⟨i, rfl, hi, hd⟩ := Zof e
 obtain ⟨a, rfl, h1⟩ := r.un_obj rfl
 obtain ⟨dx, k1, k2⟩ := (R.objs i a _ h1 hi).inv_ins rfl
 obtain ⟨ds, n, g1, g2⟩ := (R.objs d dx _ k1 hd).inv_ns rfl
 exact ⟨a, dx, ds, n, rfl, k1, k2, g1, g2⟩
theorem Zk7 {K : Frag} {C : Addr} {od : Obj} {name : Str} {v : Value} (h1 : findIn K (.ref C) name = some none) (h2 : (clsIn K C).any (·.hasDict) = true) (h3 : lookIn name od = some (some v)) : findObj K C (some od) name = some (.value v) := by
 obtain ⟨cd, hc, hd⟩ := any_some h2
 unfold findObj
 rw [hc, Option.bind_some, h1, Option.bind_some]
 dsimp only [Option.bind_some]
 unfold PySem.W.ownOf
 rw [hd, if_pos rfl]
 dsimp only
 rw [h3]; rfl
theorem Zd8 {C : Addr} {name : Str} (hC : OwnName c C name) {v : Value} {x : PV} : Sim c F (λ φ h => VR φ h v x) (λ φ h v x => VR φ h v x) (getAttr v name true) (pAttr C name x) := by
 intro A φ μ s Q E hA R p hb hQ hE
 unfold pAttr at hb hQ
 cases ho : ownNs C x μ with
 | none => rw [ho] at hb; exact (hb rfl).elim
 | some df =>
  obtain ⟨d, fs⟩ := df
  rw [ho] at hb hQ
  dsimp only at hb hQ
  obtain ⟨a, dx, ds, n, rfl, h1, h2, h3, h4⟩ := Zgb R p ho
  cases hl : fs.lookup name with
  | none => rw [hl] at hb; exact (hb rfl).elim
  | some y =>
   rw [hl] at hb hQ
   dsimp only at hb hQ
   cases hr : notRaw y with
   | false => rw [hr] at hb; exact (hb rfl).elim
   | true =>
    rw [hr] at hQ
    obtain ⟨i1, i2, i3⟩ := Zdl (name := name) h4
    obtain ⟨e, he, hv⟩ := i1 y hl
    refine get_value (od := some { cls := .type "dict", data := .dict ds.toArray n }) R.inB ⟨h2, rfl, rfl, h3⟩ hC.ga (Zk7 hC.find hC.cls (v := e.val) ?_) (Zhi hv hr) (hQ _ _ _ _ _ rfl (R.toks _) Ext.refl hv)
    unfold lookIn
    dsimp only
    rw [he]
theorem Zk {C : Addr} {name : Str} (hC : OwnName c C name) {o : Expr} {pos : Pos} {f : PM PV} (hf : SimE c F o f) (he : attributeBase o name F.env (eval o F.env) = eval o F.env) : SimE c F (.Attribute o name pos) (eAttr C name f) := λ A φ μ s Q E hA R p hb hQ hE => by
 unfold eAttr at hb hQ hE
 refine Attribute_any_ (hf.use hA R p hb hE λ a b φ' μ' s' eg R' x r => ?_) (by rw [arm_eval_Attribute, he])
 rw [eg] at hb hQ hE
 exact (Zd8 hC).fin hA R' r rfl x hb hQ hE
end
end Mine
namespace Mine
open PySem PySem.W PyProof.Rows PySem.Calls Builtin Builtin.ObjectAttr

noncomputable def nsPut (n : Str) (x : PV) : List (Str × PV) -> List (Str × PV)
 | [] => [(n, x)]
 | (k, y) :: r => match k == n with
  | true => (k, x) :: r
  | false => (k, y) :: nsPut n x r
theorem Zly {n : Str} {x : PV} {e : Str × PV} {r : List (Str × PV)} : nsPut n x (e :: r) = (match e.1 == n with | true => (e.1, x) :: r | false => (e.1, e.2) :: nsPut n x r) := rfl
noncomputable def pSetAttr (C : Addr) (name : Str) (o y : PV) : PM Unit := λ μ => match ownNs C o μ with
 | some (d, fs) => (match decide (fs.length <= 100) with
  | true => .ok () { fr := μ.fr, hp := μ.hp.set d (.ns (nsPut name y fs)) }
  | false => .bad)
 | none => .bad
noncomputable def pSetSlot (C : Addr) (k : Nat) (o y : PV) : PM Unit := λ μ => match o with
 | .obj i => (match μ.hp[i]? with
  | some (.slt C' d fs) => (match decide (C' = C), decide (k < 100) with
   | true, true => .ok () { fr := μ.fr, hp := μ.hp.set i (.slt C' d ((fs ++ List.replicate (k + 1 - fs.length) none).set k (some y))) }
   | _, _ => .bad)
  | _ => .bad)
 | _ => .bad
theorem Zlz {φ : List Addr} {h : Heap} {ds : List DictEntry} {fs : List (Str × PV)} (r : NRs φ h ds fs) : ds.length = fs.length := by
 induction r with
 | nil => rfl
 | cons _ _ _ ih => exact congrArg Nat.succ ih
theorem Zl0 {φ : List Addr} {h : Heap} {name : Str} {v : Value} {y : PV} {hs : Int} {t : Tok} (hv : VR φ h v y) {ds : List DictEntry} {fs : List (Str × PV)} (r : NRs φ h ds fs) :
  (∀ i, ds.findIdx? (·.key.isStr name) = some i -> NRs φ h (ds.modify i λ e => { e with val := v }) (nsPut name y fs)) ∧ (ds.findIdx? (·.key.isStr name) = none -> NRs φ h (ds ++ [⟨hs, .str name t, v⟩]) (nsPut name y fs)) := by
 induction r with
 | nil => exact ⟨λ i e => Zh e, λ _ => .cons rfl hv .nil⟩
 | @cons k t' e x ds es hk hv' hr ih =>
  obtain ⟨i1, i2⟩ := ih
  have ek : e.key.isStr name = (k == name) := by rw [hk]; rfl
  refine ⟨λ i h => ?_, λ h => ?_⟩
  ·rw [List.findIdx?_cons, ek] at h
   rw [Zly]
   cases q : (k == name) with
   | true =>
    rw [q] at h; simp at h; subst h
    exact .cons (t := t') hk hv hr
   | false =>
    rw [q] at h
    simp only [Bool.false_eq_true, if_false] at h
    cases hf : List.findIdx? (λ x => x.key.isStr name) ds with
    | none => rw [hf] at h; cases h
    | some j =>
     rw [hf] at h; cases h
     exact .cons (t := t') hk hv' (i1 j hf)
  ·rw [List.findIdx?_cons, ek] at h
   rw [Zly]
   cases q : (k == name) with
   | true => rw [q] at h; simp at h
   | false =>
    rw [q] at h
    simp only [Bool.false_eq_true, if_false, Option.map_eq_none_iff] at h
    exact .cons (t := t') hk hv' (i2 h)
structure OwnStore (c : Cx) (C : Addr) (name : Str) : Prop where
 plain : plainOver c.K C = true
 cls : (clsIn c.K C).any (·.hasDict) = true
 taker : takerIn c.K C name = some none
 sa : findIn c.K (.ref C) "__setattr__" = some (some (.builtin "object.__setattr__"))
section
variable {c : Cx} {F : Fx} {φ : List Addr} {μ : St} {s : Shared}
theorem Zam {C : Addr} {name : Str} (hC : OwnStore c C name) {v w : Value} {x y : PV} : Sim c F (V2 v w x y) (λ _ _ _ _ => True) (setAttr v name w) (pSetAttr C name x y) := by
 intro A φ μ s Q E hA R p hb hQ hE
 obtain ⟨rx, ry⟩ := p
 unfold pSetAttr at hb hQ
 cases ho : ownNs C x μ with
 | none => rw [ho] at hb; exact (hb rfl).elim
 | some df =>
  obtain ⟨d, fs⟩ := df
  rw [ho] at hb hQ
  dsimp only at hb hQ
  obtain ⟨a, dx, ds, n, rfl, h1, h2, h3, h4⟩ := Zgb R rx ho
  cases hl : decide (fs.length <= 100) with
  | false => rw [hl] at hb; exact (hb rfl).elim
  | true =>
   rw [hl] at hQ
   dsimp only at hQ
   have hlen := of_decide_eq_true hl
   have I : InstAt s.heap a { cls := .ref C, dict := some dx, data := .plain } C (some { cls := .type "dict", data := .dict ds.toArray n }) := ⟨h2, rfl, rfl, h3⟩
   refine set_plain R.inB I hC.sa (osa_open (s := { s with toks := s.toks + 1 }) R.inB I hC.plain hC.taker λ b => ?_)
   obtain ⟨cd, hc, hd'⟩ := any_some hC.cls
   show wpAny _ _ (storeInOwnDict _ _ _ _ _ _) _ _ _
   refine Qb (Qp (Qb (Qb (wpAny_loadPart h2 (Qb ((looks_clsIn (R.toks (s.toks + 1)).inB hc).here ?_))))))
   rw [hd']
   refine Qp (a := some dx) (Qb (Qp (Qb ?_)))
   unfold nsSet
   refine Qb (Qb (wpAny_askSetting (Qp (Qb (wpAny_mkText (Qb (wpAny_loadPart h3 ?_)))))))
   dsimp only
   obtain ⟨_, _, hrk⟩ := Zdl (name := name) h4
   have cc : (!ds.toArray.any (·.key.isStr name) && ds.toArray.any (·.refKey)) = false := by
    rw [show ds.toArray.any (·.refKey) = false from by rw [List.any_toArray]; exact hrk, Bool.and_false]
   rw [aRefKeyMayBeTheName_at, cc]
   refine wpAny_updatePart h3 ?_
   have hput : ∀ (f : Obj -> Obj), f = Obj.putName name (if name.cps.isEmpty = true then 0 else reduceHash ((model c.prog c.w).w.params.strHash name.cps)) (.str name (s.toks + 1)) w ->
     ∃ ds' n', (s.heap.update dx f).get? dx = some { cls := .type "dict", data := .dict ds'.toArray n' } ∧ ds'.length <= 101 ∧ ∀ h', VR φ h' w y -> NRs φ h' ds fs -> NRs φ h' ds' (nsPut name y fs) := by
    intro f hf
    subst hf
    cases hi : ds.findIdx? (·.key.isStr name) with
    | some i =>
     refine ⟨ds.modify i λ e => { e with val := w }, n, ?_, ?_, λ h' r1 r2 => (Zl0 (hs := 0) (t := 0) r1 r2).1 i hi⟩
     ·refine (Heap.get?_update_self _ h3 ?_).trans ?_ <;> simp only [Obj.putName_eq, Obj.putNameByArray, List.findIdx?_toArray, hi] <;> (try simp) <;> rfl
     ·rw [List.length_modify, Zlz h4]; omega
    | none =>
     refine ⟨ds ++ [⟨if name.cps.isEmpty = true then 0 else reduceHash ((model c.prog c.w).w.params.strHash name.cps), .str name (s.toks + 1), w⟩], n + 1, ?_, ?_, λ h' r1 r2 => (Zl0 r1 r2).2 hi⟩
     ·refine (Heap.get?_update_self _ h3 ?_).trans ?_ <;> simp only [Obj.putName_eq, Obj.putNameByArray, List.findIdx?_toArray, hi] <;> (try simp) <;> rfl
     ·rw [length_append, Zlz h4]; simp; omega
   obtain ⟨ds', n', g1, g2, g3⟩ := hput _ rfl
   refine Qb (wpAny_lookBehind g1 (pastItsLine_dict (by rw [size_toArray, sizeLine_eq]; omega)) ?_)
   obtain ⟨RB, xB⟩ := R.upd (tk := s.toks + 1 + 1) (o := .ns (nsPut name y fs)) h1 (Heap.SameBut.update s.heap dx _) λ hm => .ns g1 (g3 _ (hm _ _ ry) (h4.move hm))
   exact Qp (hQ _ _ _ _ _ rfl RB xB trivial)
end
end Mine
namespace Mine
open PySem PySem.W PyProof.Rows PySem.Calls Builtin Builtin.ObjectAttr Builtin.Getset_descriptor

theorem Zq8 {φ : List Addr} {h : Heap} {vs : List (Option Value)} {xs : List (Option PV)} (r : ORs φ h vs xs) : ∀ {k : Nat} {x : PV}, (xs[k]?).join = some x -> ∃ v, (vs[k]?).join = some v ∧ VR φ h v x := by
 induction r with
 | nil => exact λ e => nomatch e
 | none b ih => exact λ {k x} q => match k, q with
  | 0, q => nomatch q
  | k + 1, q => ih (k := k) q
 | some a b ih => exact λ {k x} q => match k, q with
  | 0, q => by cases q; exact ⟨_, rfl, a⟩
  | k + 1, q => ih (k := k) q
theorem Zq9 {φ : List Addr} {h : Heap} {vs : List (Option Value)} {xs : List (Option PV)} (r : ORs φ h vs xs) : vs.length = xs.length := by
 induction r with
 | nil => rfl
 | none _ ih => exact congrArg Nat.succ ih
 | some _ _ ih => exact congrArg Nat.succ ih
theorem Zra {φ : List Addr} {h : Heap} (n : Nat) {vs : List (Option Value)} {xs : List (Option PV)} (r : ORs φ h vs xs) : ORs φ h (vs ++ List.replicate n none) (xs ++ List.replicate n none) := by
 induction r with
 | none _ ih => exact .none ih
 | some a _ ih => exact .some a ih
 | nil =>
  induction n with
  | zero => exact .nil
  | succ n ih => exact .none ih
theorem Zrb {φ : List Addr} {h : Heap} {v : Value} {x : PV} (hv : VR φ h v x) {vs : List (Option Value)} {xs : List (Option PV)} (r : ORs φ h vs xs) : ∀ k, ORs φ h (vs.set k (some v)) (xs.set k (some x)) := by
 induction r with
 | nil => exact λ _ => .nil
 | none b ih => exact λ k => match k with
  | 0 => .some hv b
  | k + 1 => .none (ih k)
 | some a b ih => exact λ k => match k with
  | 0 => .some hv b
  | k + 1 => .some a (ih k)
theorem slotsArr {α : Type} (l : List α) (n k : Nat) (a b : α) : (l.toArray ++ Array.replicate n a).setIfInBounds k b = ((l ++ List.replicate n a).set k b).toArray := by
 apply Array.toList_inj.mp
 simp
structure SlotStore (c : Cx) (C : Addr) (name : Str) (k : Nat) : Prop extends SlotName c C name k where
 plain : plainOver c.K C = true
 sa : findIn c.K (.ref C) "__setattr__" = some (some (.builtin "object.__setattr__"))
section
variable {c : Cx} {F : Fx} {φ : List Addr} {μ : St} {s : Shared}
theorem Zd9 {C : Addr} {name : Str} {k : Nat} (hC : SlotName c C name k) {v : Value} {x : PV} : Sim c F (λ φ h => VR φ h v x) (λ φ h v x => VR φ h v x) (getAttr v name true) (pSlot C k x) := by
 intro A φ μ s Q E hA R p
 refine gen λ O hO hb hQ hE => ?_
 unfold pSlot at hO
 induction p using VR.cs with
 | @obj i a h1 =>
  dsimp only at hO
  cases hi : μ.hp[i]? with
  | none => rw [hi] at hO; exact (hb hO.symm).elim
  | some ob =>
   rw [hi] at hO
   have q := R.objs i a ob h1 hi
   induction q using OR.cs with
   | @slt C' d dx sl fs k0 k1 k2 =>
    dsimp only at hO
    cases hC' : decide (C' = C) with
    | false => rw [hC'] at hO; exact (hb hO.symm).elim
    | true =>
     have e := of_decide_eq_true hC'
     subst e
     cases hx : (fs[k]?).join with
     | none => rw [hC', hx] at hO; exact (hb hO.symm).elim
     | some y =>
      rw [hC', hx] at hO
      dsimp only at hO
      cases hr : notRaw y with
      | false => rw [hr] at hO; exact (hb hO.symm).elim
      | true =>
       rw [hr] at hO
       obtain ⟨w, hw, hv⟩ := Zq8 k2 hx
       obtain ⟨p, f1, f2, _⟩ := hC.find
       obtain ⟨odx, hodx⟩ := R.lt (mem_of_getElem? k0)
       have I : InstAt s.heap a { cls := .ref C', dict := some dx, data := .plain, slots := sl.toArray } C' (some odx) := ⟨k1, rfl, rfl, hodx⟩
       refine get_bind R.inB I hC.ga (f1 _) hC.gattr (wpAny_call (slot_get (s := { s with toks := s.toks + 1 }) (R.toks (s.toks + 1)).inB I f2 (v := w) (by simpa using hw) ?_))
       show wpAny _ _ (handedOut w) _ _ _
       rw [handedOut_of (Zhi hv hr)]
       exact Qp (hQ _ _ _ _ _ hO.symm (R.toks _) Ext.refl hv)
   | _ => exact (hb hO.symm).elim
 | _ => exact (hb hO.symm).elim
theorem Zmr {prog : Program} {w : World} {A : Around} {K : Frag} {x C : Addr} {s : Shared} {R : Result -> Shared -> Prop} {ox : Obj} {od : Option Obj} {v : Value} {p i : Nat} (X : K.In s.heap) (I : InstAt s.heap x ox C od)
  (hp : slotIn K p C = some i) (hi : i < 1000)
  (h : R (.ok (.ret .none)) { s with heap := s.heap.update x λ o => { o with slots := (o.slots ++ Array.replicate (i + 1 - o.slots.size) none).setIfInBounds i (some v) } }) :
  codeAny (model prog w) A (.call (.builtin "member_descriptor.__set__") ⟨[.ref p, .ref x, v], []⟩) R s := by
 obtain ⟨n, tn, owner, behind, tb, d, sl, cd, ho, hc, hm, hb, rfl⟩ := slot_of X hp
 obtain ⟨hh, g, dr, t, os⟩ := s
 have T0 := I.type (M := model prog w)
 have T1 := looks_mroIn (M := model prog w) X hm
 have T2 : Looks (model prog w) hh (Slots.slotNamesOf (.ref C)) cd.slotNames := (looks_clsIn X hc).andThen .now
 have hx := I.at_
 dsimp only at ho hx T0 T1
 have f0 := looks_field (M := model prog w) ho 0 (v := .str n tn) rfl
 have f1 := looks_field (M := model prog w) ho 1 (v := owner) rfl
 have f3 := looks_field (M := model prog w) ho 3 (v := .builtin "proto.slot#set") rfl
 have f4 := looks_field (M := model prog w) ho 4 (v := .int behind tb) rfl
 have f5 : Looks (model prog w) hh (descrItself (.ref p)) [.ref p] := ((Looks.ld (part := none) ho).andThen .now).andThen (Looks.of_pure (by kernel_rfl))
 refine codeAny_call_builtin KF.slot_mset.plain KF.entry_mset (KF.slot_mset.check _ _ _ _ _ _ _ _ ⟨_, ho, rfl⟩ (KF.args_mset _ _ _) ?_)
 unfold Builtin.«member_descriptor.__set__» Builtin.Getset_descriptor.descrSet Builtin.Getset_descriptor.descrStoreThrough Builtin.Getset_descriptor.descrCheckInstance Builtin.Getset_descriptor.descrNameAndClass isInstance
 repeat lk
 refine ⟨Code.quiet_builtin _ (by decide +kernel), codeAny_builtin KF.entry_slotset ?_⟩
 unfold Builtin.«proto.slot#set» Slots.target
 repeat lk
 rw [if_neg hb]
 refine Qp (Qb ?_)
 unfold setSlotAt
 dsimp only
 rw [if_neg (by rw [sizeLine_eq]; lia)]
 exact wpAny_updatePart hx (Qp h)
theorem Zan {C : Addr} {name : Str} {k : Nat} (hC : SlotStore c C name k) {v w : Value} {x y : PV} : Sim c F (V2 v w x y) (λ _ _ _ _ => True) (setAttr v name w) (pSetSlot C k x y) := by
 intro A φ μ s Q E hA R p
 refine gen λ O hO hb hQ hE => ?_
 obtain ⟨rx, ry⟩ := p
 unfold pSetSlot at hO
 induction rx using VR.cs with
 | @obj i a h1 =>
  dsimp only at hO
  cases hi : μ.hp[i]? with
  | none => rw [hi] at hO; exact (hb hO.symm).elim
  | some ob =>
   rw [hi] at hO
   have q := R.objs i a ob h1 hi
   induction q using OR.cs with
   | @slt C' d dx sl fs k0 k1 k2 =>
    dsimp only at hO
    cases hC' : decide (C' = C) with
    | false => rw [hC'] at hO; exact (hb hO.symm).elim
    | true =>
     have e := of_decide_eq_true hC'
     subst e
     cases hk : decide (k < 100) with
     | false => rw [hC', hk] at hO; exact (hb hO.symm).elim
     | true =>
      rw [hC', hk] at hO
      dsimp only at hO
      obtain ⟨p, f1, f2, f3, f4⟩ := hC.find
      obtain ⟨odx, hodx⟩ := R.lt (mem_of_getElem? k0)
      have I : InstAt s.heap a { cls := .ref C', dict := some dx, data := .plain, slots := sl.toArray } C' (some odx) := ⟨k1, rfl, rfl, hodx⟩
      have hk := of_decide_eq_true hk
      refine set_plain R.inB I hC.sa (osa_open (s := { s with toks := s.toks + 1 }) R.inB I hC.plain f3 λ b => ?_)
      refine Qb (wpAny_rule (Qb (wpAny_holding (Qb (Qb ((looks_typeIn (R.toks (s.toks + 1)).inB f4).here ((Looks.of_pure KF.slot_mset.lookup).here (wpAny_holding ?_))))))))
      rw [KF.slot_mset.bind]
      refine Qb (Qp (Qb (wpAny_call (Zmr (s := { s with toks := s.toks + 1 }) (R.toks (s.toks + 1)).inB I f2 (Qkb hk rfl) ?_))))
      refine Qp (Qp ?_)
      have hs := Heap.SameBut.update s.heap a λ o => { o with slots := (o.slots ++ Array.replicate (k + 1 - o.slots.size) none).setIfInBounds k (some w) }
      obtain ⟨RB, xB⟩ := R.upd (tk := s.toks + 1) (o := .slt C' d ((fs ++ List.replicate (k + 1 - fs.length) none).set k (some y))) h1 hs λ hm => .slt k0 (sl := (sl ++ List.replicate (k + 1 - sl.length) none).set k (some w))
       ((Heap.get?_update_self _ k1 rfl).trans (by simp only [size_toArray]; rw [slotsArr])) (by rw [Zq9 k2]; exact Zrb (hm _ _ ry) (Zra _ (k2.move hm)) k)
      exact hQ _ _ _ _ _ hO.symm RB xB trivial
   | _ => exact (hb hO.symm).elim
 | _ => exact (hb hO.symm).elim
end
end Mine
namespace Mine
open PySem PySem.W PyProof.Rows PySem.Calls

noncomputable def dHas (es : List (Int × PV)) (k : Int) : Bool := es.any λ e => e.1 == k
noncomputable def dPut (es : List (Int × PV)) (k : Int) (x : PV) : List (Int × PV) := match dHas es k with
 | true => es.map λ e => match e.1 == k with
  | true => (e.1, x)
  | false => e
 | false => es ++ [(k, x)]
noncomputable def dDel (es : List (Int × PV)) (k : Int) : List (Int × PV) := es.filter λ e => !(e.1 == k)
theorem Zl1 {φ : List Addr} {h : Heap} {kvs : List (Int × Value)} {es : List (Int × PV)} (r : DRs φ h kvs es) (k : Int) : (kvs.any λ kv => decide (kv.1 = k)) = dHas es k := by
 induction r with
 | nil => rfl
 | cons a b ih =>
  unfold dHas at ih ⊢
  rw [any_cons, any_cons, ih]
  rfl
theorem Zrc {φ : List Addr} {h : Heap} {v : Value} {x : PV} (hv : VR φ h v x) {kvs : List (Int × Value)} {es : List (Int × PV)} (r : DRs φ h kvs es) (k : Int) : DRs φ h (kvs.map λ kv => if kv.1 = k then (kv.1, v) else kv) (es.map λ e => match e.1 == k with
  | true => (e.1, x)
  | false => e) := by
 induction r with
 | nil => exact .nil
 | @cons k' _ _ _ _ a b ih =>
  rw [map_cons, map_cons]
  by_cases e : k' = k
  ·subst e; simp only [if_pos, beq_self_eq_true]; exact .cons hv ih
  ·have : (k' == k) = false := by simpa using e
   simp only [if_neg e, this]; exact .cons a ih
theorem Zrd {φ : List Addr} {h : Heap} {k : Int} {v : Value} {x : PV} (hv : VR φ h v x) {kvs : List (Int × Value)} {es : List (Int × PV)} (r : DRs φ h kvs es) : DRs φ h (kvs ++ [(k, v)]) (es ++ [(k, x)]) := by
 induction r with
 | nil => exact .cons hv .nil
 | cons a _ ih => exact .cons a ih
theorem Zre {φ : List Addr} {h : Heap} {k : Int} {v : Value} {x : PV} (hv : VR φ h v x) {kvs : List (Int × Value)} {es : List (Int × PV)} (r : DRs φ h kvs es) : DRs φ h (stored kvs k v) (dPut es k x) := by
 unfold stored dPut
 rw [Zl1 r k]
 cases dHas es k with
 | true => rw [if_pos rfl]; exact Zrc hv r k
 | false => rw [if_neg Bool.false_ne_true]; exact Zrd hv r
theorem Zrf {φ : List Addr} {h : Heap} {k : Int} {kvs : List (Int × Value)} {es : List (Int × PV)} (r : DRs φ h kvs es) : DRs φ h (without kvs k) (dDel es k) := by
 induction r with
 | nil => exact .nil
 | @cons k' _ _ _ _ a b ih =>
  unfold without dDel at ih ⊢
  rw [filter_cons, filter_cons]
  by_cases e : k' = k
  ·rw [if_neg (by simp [e]), if_neg (by simp [e])]; exact ih
  ·rw [if_pos (by simp [e]), if_pos (by simp [e])]; exact .cons a ih
section
variable {prog : Program} {w : World} {A : Around} {E : Value -> Shared -> Prop} {s : Shared} {K : Type} [DecidableEq K] {knd : KeyKind prog w K}
theorem Zms {d : Addr} {kvs : List (K × Value)} {ep : Nat} {k : K} {key v : Value} {Q : Unit -> Shared -> Prop} (hkey : knd.is k key = true) (hm : s.heap.DictAt knd d kvs ep)
  (hQ : ∀ h', h'.DictAt knd d (stored kvs k v) (if (kvs.any λ kv => decide (kv.1 = k)) = true then ep else ep + 1) -> Heap.SameBut d s.heap h' -> Q () { s with heap := h', toks := s.toks + 1 })
  (hsz : kvs.length <= sizeLine) : wpAny (model prog w) A (dictSet d key v) Q E s := by
 obtain ⟨o, es, ho, hc, hd, hk, hp, hn⟩ := hm
 have hes : es.size <= sizeLine := by
  have e1 := hp.length
  have e2 : es.toList.length = es.size := by simp
  exact Qek e1 hsz
 unfold dictSet
 try with_reducible refine wpAny_holding ?_
 refine Qb (knd.pyHash hkey ?_)
 unfold dictSetHashed
 try with_reducible refine wpAny_holding ?_
 refine Qb (wpAny_dictFind_of (s := { s with toks := s.toks + 1 }) hkey ho hd hk ?_)
 have hidx : (es.findIdx? λ e => knd.is k e.key) = kvs.findIdx? λ kv => decide (kv.1 = k) := by
  rw [<- hp.findIdx k]; obtain ⟨l⟩ := es; simp
 cases hi : es.findIdx? λ e => knd.is k e.key with
 | some i =>
  have hany : (kvs.any λ kv => decide (kv.1 = k)) = true := any_of_findIdx_some (hidx ▸ hi)
  rw [if_pos hany] at hQ
  have hl : (es.toList.findIdx? λ e => knd.is k e.key) = some i := by rw [<- hi]; obtain ⟨l⟩ := es; simp
  have hpm := hp.modify hn hl v
  refine Qb (wpAny_rule (Qb (wpAny_updateDict (s := { s with toks := s.toks + 1 }) ho hd (wpAny_point (hQ _ ⟨_, _, Heap.get?_update_self _ ho (Obj.isFreed_of_dict (Obj.data_mapDict hd _)),
   hc.mapDict _, Obj.data_mapDict hd _, hk.modify _ _, ?_, ?_⟩ (Heap.SameBut.update ..))))))
  ·rw [stored, if_pos hany]
   obtain ⟨l⟩ := es
   simpa using hpm
  ·rw [stored, if_pos hany, keys_map_store]; exact hn
 | none =>
  have hnot : k ∉ kvs.map (·.1) := not_mem_of_findIdx_none (hidx ▸ hi)
  have hany : ¬ (kvs.any λ kv => decide (kv.1 = k)) = true := by
   rw [any_eq_true]; rintro ⟨kv, hkv, he⟩
   exact hnot (mem_map.mpr ⟨kv, hkv, of_decide_eq_true he⟩)
  rw [if_neg hany] at hQ
  have hpa := hp.append hkey (knd.hash k) v
  refine Qb (wpAny_rule (wpAny_updateDictKeys (hz := hes) (s := { s with toks := s.toks + 1 }) ho hd (hQ _ ⟨_, _, Heap.get?_update_self _ ho (Obj.isFreed_of_dict (Obj.data_mapDictKeys hd _)),
   hc.mapDictKeys _, Obj.data_mapDictKeys hd _, hk.push hkey _, ?_, ?_⟩ (Heap.SameBut.update ..))))
  ·rw [stored, if_neg hany]
   obtain ⟨l⟩ := es
   simpa using hpa
  ·rw [stored, if_neg hany, map_append, nodup_append]
   refine ⟨hn, by simp, ?_⟩
   intro a ha b hb
   simp only [map_cons, List.map_nil, mem_singleton] at hb
   subst hb
   exact λ e => hnot (e ▸ ha)
theorem Zmt {d : Addr} {kvs : List (K × Value)} {ep : Nat} {k : K} {key v : Value} {Q : Unit -> Shared -> Prop} (hkey : knd.is k key = true) (hm : s.heap.DictAt knd d kvs ep)
  (hQ : ∀ h', h'.DictAt knd d (stored kvs k v) (if (kvs.any λ kv => decide (kv.1 = k)) = true then ep else ep + 1) -> Heap.SameBut d s.heap h' -> Q () { s with heap := h', toks := s.toks + 1 })
  (hsz : kvs.length <= sizeLine) : wpAny (model prog w) A (setItem (.ref d) key v) Q E s := by
 have hT := hm.dictOf.typeIs
 unfold setItem
 try with_reducible refine wpAny_holding ?_
 refine Qb (wpAny_sequenceKey hT (by decide) ?_)
 refine Qb (wpAny_callSpecial?_slot (name := Str.ofString "__setitem__") hT slot_dict_setitem
  (wpAny_call_entry slot_dict_setitem hT entry_dict_setitem ?_ (args_dict_setitem _ _ _)))
 show wpAny _ _ (Builtin.Dict.notOrdered "__setitem__" ⟨[.ref d, key, v], []⟩ >>= _) _ _ s
 refine Qb (wpAny_notOrdered_dict hT ?_)
 show wpAny _ _ (dictSet d key v >>= _) _ _ s
 exact Qb (Zms hkey hm (λ h' hm' hs' => Qp ⟨.none, rfl, Qp (hQ h' hm' hs')⟩) hsz)
theorem Zmu {d : Addr} {kvs : List (K × Value)} {ep : Nat} {k : K} {key : Value} {Q : Option DictEntry -> Shared -> Prop} (hkey : knd.is k key = true) (hm : s.heap.DictAt knd d kvs ep)
  (hthere : (valueAt kvs k).isSome = true) (hsome : ∀ e h', h'.DictAt knd d (without kvs k) (ep + 1) -> Heap.SameBut d s.heap h' -> Q (some e) { s with heap := h', toks := s.toks + 1 })
  (hsz : kvs.length <= sizeLine) : wpAny (model prog w) A (Builtin.Dict.takeOut d key) Q E s := by
 obtain ⟨o, es, ho, hc, hd, hk, hp, hn⟩ := hm
 have hes : es.size <= sizeLine := by
  have e1 := hp.length
  have e2 : es.toList.length = es.size := by simp
  exact Qek e1 hsz
 unfold Builtin.Dict.takeOut
 try with_reducible refine wpAny_holding ?_
 refine Qb (knd.pyHash hkey ?_)
 refine Qb (wpAny_dictFind_of (s := { s with toks := s.toks + 1 }) hkey ho hd hk ?_)
 cases hi : es.findIdx? λ e => knd.is k e.key with
 | none =>
  have hn' : valueAt kvs k = none := by
   rw [<- hp.find k]
   have : (es.toList.find? λ e => knd.is k e.key) = none := by
    rw [List.find?_eq_none]
    intro e he
    have := Array.findIdx?_eq_none_iff.mp hi e (Array.mem_toList_iff.mp he)
    simpa using this
   rw [this]; rfl
  rw [hn'] at hthere; cases hthere
 | some i =>
  have hl : (es.toList.findIdx? λ e => knd.is k e.key) = some i := by rw [<- hi]; obtain ⟨l⟩ := es; simp
  obtain ⟨e, he, hek, hev⟩ := hp.at hl
  refine Qb (wpAny_dictEntries (s := { s with toks := s.toks + 1 }) ho hd ?_)
  have he' : es[i]? = some e := by rw [<- he]; obtain ⟨l⟩ := es; simp
  rw [he']
  have hpe := hp.erase hn hl
  refine Qb (wpAny_updateDictKeys (hz := hes) (s := { s with toks := s.toks + 1 }) ho hd (Qp (hsome e _ ⟨_, _, Heap.get?_update_self _ ho (Obj.isFreed_of_dict (Obj.data_mapDictKeys hd _)),
   hc.mapDictKeys _, Obj.data_mapDictKeys hd _, hk.erase _, ?_, nodup_without hn k⟩ (Heap.SameBut.update ..))))
  obtain ⟨l⟩ := es
  simpa using hpe
theorem Zgc {d : Addr} {kvs : List (K × Value)} {ep : Nat} {k : K} {key : Value} {Q : Unit -> Shared -> Prop} (hkey : knd.is k key = true) (hm : s.heap.DictAt knd d kvs ep)
  (hthere : (valueAt kvs k).isSome = true) (hQ : ∀ h', h'.DictAt knd d (without kvs k) (ep + 1) -> Heap.SameBut d s.heap h' -> Q () { s with heap := h', toks := s.toks + 1 })
  (hsz : kvs.length <= sizeLine) : wpAny (model prog w) A (delItem (.ref d) key) Q E s := by
 have hT := hm.dictOf.typeIs
 unfold delItem
 try with_reducible refine wpAny_holding ?_
 refine Qb (wpAny_sequenceKey hT (by decide) ?_)
 refine Qb (wpAny_callSpecial?_slot (name := Str.ofString "__delitem__") hT PySem.F.slot_dict_delitem
  (wpAny_call_entry PySem.F.slot_dict_delitem hT PySem.F.entry_dict_delitem ?_ (PySem.F.args_dict_delitem_2 _ _)))
 unfold Builtin.«dict.__delitem__»
 refine Qb ?_
 unfold Builtin.Dict.dictSlotArgs
 refine Qb (wpAny_notOrdered_dict hT ?_)
 show wpAny _ _ (pure (Value.ref d, key)) _ _ s
 refine Qp ?_
 show wpAny _ _ (Builtin.Dict.takeOut d key >>= _) _ _ s
 refine Qb (Zmu hkey hm hthere (λ e h' hm' hs' => ?_) hsz)
 exact Qb (wpAny_letGo (Qp ⟨.none, rfl, Qp (hQ h' hm' hs')⟩))
end

noncomputable abbrev SimT (c : Cx) (F : Fx) (t : Value -> Sem Unit) (a : PV -> PM Unit) : Prop := ∀ w y, Sim c F (λ φ h => VR φ h w y) (λ _ _ _ _ => True) (t w) (a y)
noncomputable def pSetItem (o i y : PV) : PM Unit := λ μ => match o, i with
 | .obj j, .int k => (match μ.hp[j]? with
  | some (.lst xs) => (match decide (0 <= k ∧ k < xs.length), lenOk xs with
   | true, true => .ok () { fr := μ.fr, hp := μ.hp.set j (.lst (xs.set k.toNat y)) }
   | _, _ => .bad)
  | some (.dct es ep) => (match lenOk es with
   | true => .ok () { fr := μ.fr, hp := μ.hp.set j (.dct (dPut es k y) (match dHas es k with
    | true => ep
    | false => ep + 1)) }
   | false => .bad)
  | _ => .bad)
 | _, _ => .bad
noncomputable def pDelItem (o i : PV) : PM Unit := λ μ => match o, i with
 | .obj j, .int k => (match μ.hp[j]? with
  | some (.dct es ep) => (match lenOk es, dHas es k with
   | true, true => .ok () { fr := μ.fr, hp := μ.hp.set j (.dct (dDel es k) (ep + 1)) }
   | _, _ => .bad)
  | _ => .bad)
 | _, _ => .bad
section
variable {prog : Program} {w : World} {A : Around} {E : Value -> Shared -> Prop} {s : Shared}
theorem Zk8 {l : Addr} {vs : List Value} {n : Nat} {k : Int} {t : Tok} {v : Value} {Q : Unit -> Shared -> Prop} (hl : IsL s.heap l vs.toArray n)
  (h0 : 0 <= k) (hn : k < vs.length) (hz : vs.length <= 1000000) (hQ : Q () { s with heap := s.heap.update l (Obj.mapSeq λ xs => xs.setIfInBounds k.toNat v) }) :
  wpAny (model prog w) A (setItem (.ref l) (.int k t) v) Q E s := by
 have hT : s.TypeIs (.ref l) "list" := ⟨_, hl, rfl⟩
 unfold setItem
 try with_reducible refine wpAny_holding ?_
 first | refine Qb (Qp ?_) | skip
 refine Qb (wpAny_sequenceKey hT (by decide) ?_)
 refine Qb (wpAny_callSpecial?_slot (name := Str.ofString "__setitem__") hT slot_list_setitem
  (wpAny_call_entry slot_list_setitem hT entry_list_setitem ?_ (args_list_setitem _ _ _)))
 show wpAny _ _ (Builtin.List.listSubscript? (.int k t) >>= _) _ _ s
 refine Qb (wpAny_listSubscript_int (by unfold Builtin.List.listFitsIndex; simp only [Bool.and_eq_true, decide_eq_true_eq]; lia) ?_)
 obtain ⟨j, rfl⟩ := Int.eq_ofNat_of_zero_le h0
 have hj : j < vs.toArray.size := by rw [size_toArray]; exact Qdl hn
 have hx' : vs.toArray[j]? = some vs.toArray[j] := Array.getElem?_eq_getElem hj
 show wpAny _ _ ((seqItemAt l j >>= λ r => pure (r.map (j, ·))) >>= _) _ _ s
 refine Qb (Qb (wpAny_seqItemAt hl rfl (Qp ?_)))
 rw [hx']
 show wpAny _ _ (setSeqItemAt l j v >>= _) _ _ s
 refine Qb (wpAny_setSeqItemAt hl rfl ?_)
 first
  | exact Qb (Qp (Qp ⟨.none, rfl, Qp hQ⟩))
  | exact Qp ⟨.none, rfl, Qp hQ⟩
end
section
variable {c : Cx} {F : Fx}
theorem Zrg {φ : List Addr} {h : Heap} {kvs : List (Int × Value)} {es : List (Int × PV)} (r : DRs φ h kvs es) (k : Int) : (valueAt kvs k).isSome = dHas es k := Zfr r k
noncomputable abbrev VV3 (v w u : Value) (x y z : PV) : List Addr -> Heap -> Prop := λ φ h => VR φ h v x ∧ VR φ h w y ∧ VR φ h u z
theorem Zea {v w u : Value} {x y z : PV} : Sim c F (VV3 v w u x y z) (λ _ _ _ _ => True) (setItem v w u) (pSetItem x y z) := by
 intro A φ μ s Q E hA R p
 refine gen λ O hO hb hQ hE => ?_
 obtain ⟨rx, ry, rz⟩ := p
 unfold pSetItem at hO
 induction rx using VR.cs with
 | @obj j a h1 =>
  induction ry using VR.cs with
  | int k t =>
   dsimp only at hO
   cases hi : μ.hp[j]? with
   | none => rw [hi] at hO; exact (hb hO.symm).elim
   | some ob =>
    rw [hi] at hO
    have q := R.objs j a ob h1 hi
    induction q using OR.cs with
    | @lst vs n xs k1 k2 =>
     dsimp only at hO
     cases hd : decide (0 <= k ∧ k < xs.length) with
     | false => rw [hd] at hO; exact (hb hO.symm).elim
     | true =>
      cases hl : lenOk xs with
      | false => rw [hd, hl] at hO; exact (hb hO.symm).elim
      | true =>
       rw [hd, hl] at hO
       obtain ⟨d1, d2⟩ := of_decide_eq_true hd
       have hlen := k2.length
       refine Zk8 k1 d1 (by omega) (by rw [hlen]; exact Za1 hl) ?_
       obtain ⟨R3, xD⟩ := R.relist (tk := s.toks) h1 k1 (g := λ xs => xs.setIfInBounds k.toNat u) (ws := vs.set k.toNat u) (by simp) (k2.set k.toNat rz)
       exact hQ _ _ _ _ _ hO.symm R3 xD trivial
    | @dct kvs es ep k1 k2 =>
     dsimp only at hO
     cases hl : lenOk es with
     | false => rw [hl] at hO; exact (hb hO.symm).elim
     | true =>
      rw [hl] at hO
      refine Zmt (knd := intKind c.prog c.w) (k := k) (by show Value.isInt k (.int k t) = true; simp [Value.isInt]) k1 (λ h' hd' hs' => ?_) (by rw [Zbb k2]; exact Nat.le_trans (Za1 hl) (by decide))
      rw [Zl1 k2 k] at hd'
      obtain ⟨R3, xD⟩ := R.upd (tk := s.toks + 1) (o := .dct (dPut es k z) (match dHas es k with
       | true => ep
       | false => ep + 1)) h1 hs' λ hm => .dct (kvs := stored kvs k u) (by
        cases hh : dHas es k with
        | true => rw [hh] at hd'; exact hd'
        | false => rw [hh] at hd'; exact hd') (Zre (hm _ _ rz) (k2.move hm))
      exact hQ _ _ _ _ _ hO.symm R3 xD trivial
    | _ => exact (hb hO.symm).elim
  | _ => exact (hb hO.symm).elim
 | _ => exact (hb hO.symm).elim
theorem Ziy {v w : Value} {x y : PV} : Sim c F (V2 v w x y) (λ _ _ _ _ => True) (delItem v w) (pDelItem x y) := by
 intro A φ μ s Q E hA R p
 refine gen λ O hO hb hQ hE => ?_
 obtain ⟨rx, ry⟩ := p
 unfold pDelItem at hO
 induction rx using VR.cs with
 | @obj j a h1 =>
  induction ry using VR.cs with
  | int k t =>
   dsimp only at hO
   cases hi : μ.hp[j]? with
   | none => rw [hi] at hO; exact (hb hO.symm).elim
   | some ob =>
    rw [hi] at hO
    have q := R.objs j a ob h1 hi
    induction q using OR.cs with
    | @dct kvs es ep k1 k2 =>
     dsimp only at hO
     cases hl : lenOk es with
     | false => rw [hl] at hO; exact (hb hO.symm).elim
     | true =>
      cases hh : dHas es k with
      | false => rw [hl, hh] at hO; exact (hb hO.symm).elim
      | true =>
       rw [hl, hh] at hO
       refine Zgc (knd := intKind c.prog c.w) (k := k) (by show Value.isInt k (.int k t) = true; simp [Value.isInt]) k1 (by rw [Zrg k2]; exact hh) (λ h' hd' hs' => ?_) (by rw [Zbb k2]; exact Nat.le_trans (Za1 hl) (by decide))
       obtain ⟨R3, xD⟩ := R.upd (tk := s.toks + 1) (o := .dct (dDel es k) (ep + 1)) h1 hs' λ hm => .dct (kvs := without kvs k) hd' (Zrf (k2.move hm))
       exact hQ _ _ _ _ _ hO.symm R3 xD trivial
    | _ => exact (hb hO.symm).elim
  | _ => exact (hb hO.symm).elim
 | _ => exact (hb hO.symm).elim
noncomputable def sAsg (f : PM PV) (a : PV -> PM Unit) : PM MF := f >>= λ y => a y >>= λ _ => pure .next
theorem Zd {t value : Expr} {pos : Pos} {f : PM PV} {a : PV -> PM Unit} (h : SimE c F value f) (ht : SimT c F (assign t F.env) a)
  (hs : swapsWithSole [t] value pos.line F.env = pure false) (hw : swappedStores [t] value F.env = pure none) (he : (assignEach [t] F.env).map (·.2) = [assign t F.env]) : SimS c F (.Assign [t] value pos) (sAsg f a) := λ A φ μ s Q E hA R p hb hQ hE => by
 unfold sAsg at hb hQ hE
 refine wpAny_Assign_stores (h.use hA R p hb hE λ v y φ' μ' s' eg R' x r => ?_) hs hw
 rw [eg] at hb hQ hE
 rw [he]
 show wpAny _ _ (assign t F.env v) _ _ _
 refine (ht v y).use hA R' r hb (λ e y φ' μ' s' he R' x' r => hE e y φ' μ' s' he R' (x.trans x') (r.le x.dom)) λ vC y2 φ2 μ2 s2 eg RC xC rC => ?_
 rw [eg] at hQ
 exact hQ _ _ _ _ _ rfl RC (x.trans xC) .next
noncomputable def sAsg2 (f : PM PV) (a a' : PV -> PM Unit) : PM MF := f >>= λ y => a y >>= λ _ => a' y >>= λ _ => pure .next
theorem Zk9 {t t' value : Expr} {pos : Pos} {f : PM PV} {a a' : PV -> PM Unit} (h : SimE c F value f) (ht : SimT c F (assign t F.env) a) (ht' : SimT c F (assign t' F.env) a')
  (hw : swappedStores [t, t'] value F.env = pure none) (he : (assignEach [t, t'] F.env).map (·.2) = [assign t F.env, assign t' F.env]) : SimS c F (.Assign [t, t'] value pos) (sAsg2 f a a') := λ A φ μ s Q E hA R p hb hQ hE => by
 unfold sAsg2 at hb hQ hE
 refine wpAny_Assign_stores (h.use hA R p hb hE λ v y φ' μ' s' eg R' x r => ?_) rfl hw
 rw [eg] at hb hQ hE
 rw [he]
 refine Qb (wpAny_holding ((ht v y).use hA R' r hb (λ e y φ' μ' s' he R' x' r => hE e y φ' μ' s' he R' (x.trans x') (r.le x.dom)) λ vC y2 φ2 μ2 s2 eg RC xC rC => ?_))
 rw [eg] at hb hQ hE
 refine (ht' v y).use hA RC (r.ext R' xC) hb (λ e y φ' μ' s' he R' x' r => hE e y φ' μ' s' he R' (x.trans (xC.trans x')) (r.le (x.trans xC).dom)) λ vD y3 φ3 μ3 s3 eg R3 xD rD => ?_
 rw [eg] at hQ
 exact hQ _ _ _ _ _ rfl R3 (x.trans (xC.trans xD)) .next
noncomputable def eWal (f : PM PV) (a : PV -> PM Unit) : PM PV := f >>= λ y => a y >>= λ _ => pure y
theorem Zdy {t value : Expr} {pos : Pos} {f : PM PV} {a : PV -> PM Unit} (h : SimE c F value f) (ht : SimT c F (assign t F.env) a) : SimE c F (.NamedExpr t value pos) (eWal f a) := λ A φ μ s Q E hA R p hb hQ hE => by
 unfold eWal at hb hQ hE
 refine wpAny_NamedExpr (h.use hA R p hb hE λ v y φ' μ' s' eg R' x r => ?_)
 rw [eg] at hb hQ hE
 refine ((ht v y).use hA R' r hb (λ e y φ' μ' s' he R' x' r => hE e y φ' μ' s' he R' (x.trans x') (r.le x.dom)) λ vC y2 φ2 μ2 s2 eg RC xC rC => ?_)
 rw [eg] at hQ
 exact hQ _ _ _ _ _ rfl RC (x.trans xC) (r.ext R' xC)
noncomputable def tAttr (ps : PV -> PV -> PM Unit) (g : PM PV) (y : PV) : PM Unit := g >>= λ x => ps x y
theorem Zah {o : Expr} {attr : Str} {pos : Pos} {g : PM PV} {ps : PV -> PV -> PM Unit} (h : SimE c F o g) (hset : ∀ v w x y, Sim c F (V2 v w x y) (λ _ _ _ _ => True) (setAttr v attr w) (ps x y)) : SimT c F (assign (.Attribute o attr pos) F.env) (tAttr ps g) := λ w y A φ μ s Q E hA R p hb hQ hE => by
 unfold tAttr at hb hQ hE
 rw [arm_assign_Attribute]
 refine Qb (wpAny_holding ((h.keep (v := w) (x := y)).use hA R p hb hE λ v x φ' μ' s' eg R' x' r => ?_))
 rw [eg] at hb hQ hE
 refine Qb (wpAny_standAt (Qb (wpAny_holding ((hset v w x y).fin hA R' ⟨r.2, r.1⟩ rfl x' hb (λ a b φ2 μ2 s2 e RC xC rC => ?_) hE))))
 exact wpAny_releaseD (hQ a b φ2 μ2 s2 e RC xC rC)
noncomputable def tSub (g h : PM PV) (y : PV) : PM Unit := g >>= λ x => h >>= λ k => pSetItem x k y
theorem Zco {o i : Expr} {pos : Pos} {g h : PM PV} (hg : SimE c F o g) (hh : SimE c F i h) : SimT c F (assign (.Subscript o i pos) F.env) (tSub g h) := λ w y A φ μ s Q E hA R p hb hQ hE => by
 unfold tSub at hb hQ hE
 rw [arm_assign_Subscript]
 refine Qb (wpAny_holding ((hg.keep (v := w) (x := y)).use hA R p hb hE λ v x φ' μ' s' eg R' x' r => ?_))
 rw [eg] at hb hQ hE
 refine Qb (wpAny_holding (hh.use hA R' trivial hb (λ e y φ' μ' s' he R' x'' r => hE e y φ' μ' s' he R' (x'.trans x'') (r.le x'.dom)) λ k j φ2 μ2 s2 eg RC xC rC => ?_))
 rw [eg] at hb hQ hE
 refine Qb (wpAny_standAt (Qb (wpAny_holding (Zea.fin hA RC ⟨r.2.ext R' xC, rC, r.1.ext R' xC⟩ rfl (x'.trans xC) hb (λ a b φ3 μ3 s3 e R3 xD rD => ?_) hE))))
 exact wpAny_releaseD (hQ a b φ3 μ3 s3 e R3 xD rD)
end

noncomputable def pInp : Operator -> PV -> PV -> PM PV
 | .Add => pArith (λ i j => i + j) λ _ => true
 | .Sub => pArith (λ i j => i - j) λ _ => true
 | _ => λ _ _ => PM.H
section
variable {c : Cx} {F : Fx}
theorem Zeb {f : Int -> Int -> Int} {op : Operator} {v w : Value} {x y : PV}
  (hf : ∀ (A : Around) (s : Shared) (E : Value -> Shared -> Prop) (Q : Value -> Shared -> Prop) (i : Int) (t : Tok) (j : Int) (u : Tok), Q (.int (f i j) s.toks) { s with toks := s.toks + 1 } -> wpAny (model c.prog c.w) A (inplaceOp op (.int i t) (.int j u)) Q E s) :
  Sim c F (V2 v w x y) (λ φ h a b => VR φ h a b) (inplaceOp op v w) (pArith f (λ _ => true) x y) := by
 intro A φ μ s Q E hA R p hb hQ hE
 obtain ⟨rx, ry⟩ := p
 induction rx using VR.cs with
 | int i t =>
  induction ry using VR.cs with
  | int j u =>
   have e : pArith f (λ _ => true) (.int i) (.int j) μ = .ok (.int (f i j)) μ := rfl
   rw [e] at hQ
   with_reducible refine hf A s E Q i t j u ?_
   refine hQ _ (.int (f i j)) φ μ _ ?_ ?_ ?_ ?_
   ·rfl
   ·exact R.toks _
   ·exact Ext.refl
   ·exact .int _ _
  | _ => exact (hb rfl).elim
 | _ => exact (hb rfl).elim
theorem Zl2 {op : Operator} {v w : Value} {x y : PV} : Sim c F (V2 v w x y) (λ φ h a b => VR φ h a b) (inplaceOp op v w) (pInp op x y) := by
 cases op with
 | Add => exact Zeb (op := .Add) (f := λ i j => i + j) λ A s E Q i t j u h => AutoIntOps.iadd_0 h
 | Sub => exact Zeb (op := .Sub) (f := λ i j => i - j) λ A s E Q i t j u h => AutoIntOps.isub_0 h
 | _ => exact Sim.B
noncomputable def sAugAttr (op : Operator) (g : PM PV) (pg : PV -> PM PV) (ps : PV -> PV -> PM Unit) (f : PM PV) : PM MF := g >>= λ x => pg x >>= λ old => f >>= λ v => pInp op old v >>= λ new => ps x new >>= λ _ => pure .next
theorem Zb0 {o value : Expr} {attr : Str} {tpos pos : Pos} {op : Operator} {f g : PM PV} {pg : PV -> PM PV} {ps : PV -> PV -> PM Unit} (hg : SimE c F o g) (hf : SimE c F value f)
  (hget : ∀ v x, Sim c F (λ φ h => VR φ h v x) (λ φ h v x => VR φ h v x) (getAttr v attr true) (pg x)) (hset : ∀ v w x y, Sim c F (V2 v w x y) (λ _ _ _ _ => True) (setAttr v attr w) (ps x y)) :
  SimS c F (.AugAssign (.Attribute o attr tpos) op value pos) (sAugAttr op g pg ps f) := λ A φ μ s Q E hA R p hb hQ hE => by
 unfold sAugAttr at hb hQ hE
 refine wpAny_AugAssign_AttributeAny (hg.use hA R p hb hE λ ov x φ1 μ1 s1 eg RB xB rB => ?_)
 rw [eg] at hb hQ hE
 have E1 : ∀ {h' : Heap} {φ'}, Ext F.nss F.cls φ1 s1.heap φ' h' -> Ext F.nss F.cls φ s.heap φ' h' := λ z => xB.trans z
 refine (hget ov x).use hA RB rB hb (λ e y φ' μ' s' he R' x' r => hE e y φ' μ' s' he R' (xB.trans x') (r.le xB.dom)) λ old y φ2 μ2 s2 eg RC xC rC => ?_
 rw [eg] at hb hQ hE
 refine hf.use hA RC trivial hb (λ e y φ' μ' s' he R' x' r => hE e y φ' μ' s' he R' (xB.trans (xC.trans x')) (r.le (xB.trans xC).dom)) λ v z φ3 μ3 s3 eg R3 xD rD => ?_
 rw [eg] at hb hQ hE
 refine Zl2.use hA R3 ⟨rC.ext RC xD, rD⟩ hb (λ e y φ' μ' s' he R' x' r => hE e y φ' μ' s' he R' (xB.trans (xC.trans (xD.trans x'))) (r.le (xB.trans (xC.trans xD)).dom)) λ new n φ4 μ4 s4 eg R4 x4 rE => ?_
 rw [eg] at hb hQ hE
 refine (hset ov new x n).use hA R4 ⟨((rB.ext RB xC).ext RC xD).ext R3 x4, rE⟩ hb (λ e y φ' μ' s' he R' x' r => hE e y φ' μ' s' he R' (xB.trans (xC.trans (xD.trans (x4.trans x')))) (r.le (xB.trans (xC.trans (xD.trans x4))).dom)) λ _ _ φ5 μ5 s5 eg R5 x5 r5 => ?_
 rw [eg] at hQ
 exact hQ _ _ _ _ _ rfl R5 (xB.trans (xC.trans (xD.trans (x4.trans x5)))) .next
noncomputable def sAugSub (op : Operator) (g h f : PM PV) : PM MF := g >>= λ x => h >>= λ k => pGet x k >>= λ old => f >>= λ v => pInp op old v >>= λ new => pSetItem x k new >>= λ _ => pure .next
theorem Zmv {o i value : Expr} {tpos pos : Pos} {op : Operator} {f g h : PM PV} (hg : SimE c F o g) (hh : SimE c F i h) (hf : SimE c F value f)
  (hi : ∀ ov iv new, augStore i ov iv new = (do holding [new, ov, iv] (setItem ov iv new); release [new, ov, iv] []; pure .next)) :
  SimS c F (.AugAssign (.Subscript o i tpos) op value pos) (sAugSub op g h f) := λ A φ μ s Q E hA R p hb hQ hE => by
 unfold sAugSub at hb hQ hE
 refine PySem.wpAny_AugAssign_SubscriptAny (hg.use hA R p hb hE λ ov x φ1 μ1 s1 eg RB xB rB => ?_) hi
 rw [eg] at hb hQ hE
 refine hh.use hA RB trivial hb (λ e y φ' μ' s' he R' x' r => hE e y φ' μ' s' he R' (xB.trans x') (r.le xB.dom)) λ iv k φ2 μ2 s2 eg RC xC rC => ?_
 rw [eg] at hb hQ hE
 refine Zis.use hA RC ⟨rB.ext RB xC, rC⟩ hb (λ e y φ' μ' s' he R' x' r => hE e y φ' μ' s' he R' (xB.trans (xC.trans x')) (r.le (xB.trans xC).dom)) λ old y φ3 μ3 s3 eg R3 xD rD => ?_
 rw [eg] at hb hQ hE
 refine hf.use hA R3 trivial hb (λ e y φ' μ' s' he R' x' r => hE e y φ' μ' s' he R' (xB.trans (xC.trans (xD.trans x'))) (r.le (xB.trans (xC.trans xD)).dom)) λ v z φ4 μ4 s4 eg R4 x4 rE => ?_
 rw [eg] at hb hQ hE
 refine Zl2.use hA R4 ⟨rD.ext R3 x4, rE⟩ hb (λ e y φ' μ' s' he R' x' r => hE e y φ' μ' s' he R' (xB.trans (xC.trans (xD.trans (x4.trans x')))) (r.le (xB.trans (xC.trans (xD.trans x4))).dom)) λ new n φ5 μ5 s5 eg R5 x5 r5 => ?_
 rw [eg] at hb hQ hE
 refine Zea.use hA R5 ⟨(((rB.ext RB xC).ext RC xD).ext R3 x4).ext R4 x5, ((rC.ext RC xD).ext R3 x4).ext R4 x5, r5⟩ hb (λ e y φ' μ' s' he R' x' r => hE e y φ' μ' s' he R' (xB.trans (xC.trans (xD.trans (x4.trans (x5.trans x'))))) (r.le (xB.trans (xC.trans (xD.trans (x4.trans x5)))).dom)) λ _ _ φ6 μ6 s6 eg R6 x6 r6 => ?_
 rw [eg] at hQ
 exact hQ _ _ _ _ _ rfl R6 (xB.trans (xC.trans (xD.trans (x4.trans (x5.trans x6))))) .next
noncomputable def sDel (g h : PM PV) : PM MF := g >>= λ x => h >>= λ k => pDelItem x k >>= λ _ => pure .next
theorem Zmw {o i : Expr} {tpos pos : Pos} {g h : PM PV} (hg : SimE c F o g) (hh : SimE c F i h) : SimS c F (.Delete [.Subscript o i tpos] pos) (sDel g h) := λ A φ μ s Q E hA R p hb hQ hE => by
 unfold sDel at hb hQ hE
 refine wpAny_Delete (wpAny_deleteEach_cons (delete_Subscript (hg.use hA R p hb hE λ ov x φ1 μ1 s1 eg RB xB rB => ?_)))
 rw [eg] at hb hQ hE
 refine hh.use hA RB trivial hb (λ e y φ' μ' s' he R' x' r => hE e y φ' μ' s' he R' (xB.trans x') (r.le xB.dom)) λ iv k φ2 μ2 s2 eg RC xC rC => ?_
 rw [eg] at hb hQ hE
 refine Ziy.use hA RC ⟨rB.ext RB xC, rC⟩ hb (λ e y φ' μ' s' he R' x' r => hE e y φ' μ' s' he R' (xB.trans (xC.trans x')) (r.le (xB.trans xC).dom)) λ _ _ φ3 μ3 s3 eg R3 xD rD => ?_
 rw [eg] at hQ
 exact wpAny_deleteEach_nil (hQ _ _ _ _ _ rfl R3 (xB.trans (xC.trans xD)) .next)
end
structure MethAt (c : Cx) (C : Addr) (name : Str) (f : Addr) : Prop where
 find : findIn c.K (.ref C) name = some (some (.ref f))
 fn : typeIn c.K (.ref f) = some (.type "function")
 ga : findIn c.K (.ref C) "__getattribute__" = some (some (.builtin "object.__getattribute__"))
 gattr : findIn c.K (.ref C) "__getattr__" = some none
 cls : (clsIn c.K C).any (·.hasDict) = true
 special : specialIn c.K (.ref f) "__get__" = some (some (.builtin "function.__get__"))
 takes : takesIn c.K (.ref f) = some false
 copied : copiedNames.contains name = false
section
variable {c : Cx} {F : Fx}
noncomputable def isIns (C : Addr) (name : Str) (o : PV) : PM Unit := λ μ => match ownNs C o μ with
 | some (_, fs) => (match fs.lookup name with
  | none => .ok () μ
  | some _ => .bad)
 | none => .bad
theorem Zmx {M : Model} {A : Around} {E : Value -> Shared -> Prop} {s : Shared} {dx : Addr} {ds : List DictEntry} {n : Nat} {name : Str} {Q : Option Value -> Shared -> Prop} (h3 : s.heap.get? dx = some { cls := .type "dict", data := .dict ds.toArray n })
  (hn : ds.find? (·.key.isStr name) = none) (hr : ds.any (·.refKey) = false) (h : Q none s) : wpAny M A (nsGet dx name) Q E s := by
 unfold nsGet
 refine Qb (wpAny_loadPart h3 ?_)
 rw [nsLook_of (r := none) (by unfold lookIn; dsimp only; rw [hn, hr]; rfl)]
 exact Qp h
theorem Zhy {C f : Addr} {name : Str} (hM : MethAt c C name f) {v : Value} {x : PV} {pl : Sem Bool} : Sim c F (λ φ h => VR φ h v x) (λ φ h p _ => p = (.ref f, [v]) ∧ VR φ h v x) (getMethod v name pl) (isIns C name x) := by
 intro A φ μ s Q E hA R p
 refine gen λ O hO hb hQ hE => ?_
 unfold isIns at hO
 cases ho : ownNs C x μ with
 | none => rw [ho] at hO; exact (hb hO.symm).elim
 | some df =>
  obtain ⟨d, fs⟩ := df
  rw [ho] at hO
  dsimp only at hO
  obtain ⟨a, dx, ds, n, rfl, h1, h2, h3, h4⟩ := Zgb R p ho
  cases hl : fs.lookup name with
  | some y => rw [hl] at hO; exact (hb hO.symm).elim
  | none =>
   rw [hl] at hO
   obtain ⟨_, i2, i3⟩ := Zdl (name := name) h4
   have I : InstAt s.heap a { cls := .ref C, dict := some dx, data := .plain } C (some { cls := .type "dict", data := .dict ds.toArray n }) := ⟨h2, rfl, rfl, h3⟩
   have T := I.type (M := model c.prog c.w)
   have X := R.inB
   unfold getMethod specialOf
   refine Qb (Qb (T.here ((looks_findIn X hM.ga).here ?_)))
   show wpAny _ _ (if (Manifest.canonical "object.__getattribute__" != "object.__getattribute__") = true then _ else _) _ _ _
   rw [if_neg (by decide +kernel)]
   refine Qb (Qb (T.here ((looks_findIn X hM.gattr).here ?_)))
   rw [if_neg (by decide)]
   refine Qb (Qb (T.here ((looks_findIn X hM.find).here ?_)))
   dsimp only
   refine Qb ((looks_typeIn X hM.fn).here ?_)
   rw [if_neg (by decide)]
   refine Qb (wpAny_loadPart h2 ?_)
   dsimp only
   refine Qb (Zmx h3 (i2 hl) i3 ?_)
   rw [if_neg (by decide)]
   exact Qb (wpAny_rule (Qp (hQ _ () φ μ s hO.symm R Ext.refl ⟨rfl, p⟩)))
end

theorem Ziz {K : Frag} {C f : Addr} {od : Obj} {name : Str} (h1 : findIn K (.ref C) name = some (some (.ref f))) (h2 : (clsIn K C).any (·.hasDict) = true) (h3 : lookIn name od = some none)
  (h4 : specialIn K (.ref f) "__get__" = some (some (.builtin "function.__get__"))) (h5 : takesIn K (.ref f) = some false) (h6 : copiedNames.contains name = false) : findObj K C (some od) name = some (.bind (.builtin "function.__get__") (.ref f)) := by
 obtain ⟨cd, hc, hd⟩ := any_some h2
 unfold findObj
 rw [hc, Option.bind_some, h1, Option.bind_some]
 dsimp only
 rw [h4, Option.bind_some]
 dsimp only
 rw [h5, Option.bind_some]
 unfold PySem.W.ownOf
 rw [hd, if_pos rfl]
 dsimp only
 rw [h3, Option.bind_some]
 dsimp only
 rw [h6, Bool.false_and, if_neg Bool.false_ne_true]
section
variable {c : Cx} {F : Fx}
noncomputable def eMeth (C : Addr) (name : Str) (fo : PM PV) (g : PM (List PV)) (k : List PV -> PM PV) : PM PV := fo >>= λ x => isIns C name x >>= λ _ => g >>= λ ys => k (x :: ys)
theorem Zi0 {C f : Addr} {fd : FuncData} {body : List Stmt} {name : Str} (hM : MethAt c C name f) (hf : FnAt c f fd body) {o : Expr} {apos pos : Pos} {args : List Expr} {fo : PM PV} {g : PM (List PV)} {k : List PV -> PM PV} {st : Bool}
  (hbase : attributeBase o name F.env (eval o F.env) = eval o F.env) (hst : methodCallForm (args.length + 0) (backTo pos (starEach args F.env)) [] = st)
  (hpos : (apos.endLine == pos.line) = true) (ho : SimE c F o fo) (hargs : CallArgs c F (starEach args F.env) g)
  (hcall : ∀ vs xs, ∀ (A : Around) (φ : List Addr) (μ : St) (s : Shared) (R : Result -> Shared -> Prop), ACtx F A -> Rep c F φ μ s -> VRs φ s.heap vs xs -> k xs μ ≠ .bad ->
   (∀ v y φ' μ' s', k xs μ = .ok y μ' -> Rep c F φ' μ' s' -> Ext F.nss F.cls φ s.heap φ' s'.heap -> VR φ' s'.heap v y -> R (.ok (.ret v)) s') ->
   (∀ e x φ' μ' s', k xs μ = .exc x μ' -> Rep c F φ' μ' s' -> Ext F.nss F.cls φ s.heap φ' s'.heap -> ExcR c (dom s.heap) φ' s'.heap e x -> R (.error e) s') -> codeAny (model c.prog c.w) A (.call (.ref f) ⟨vs, []⟩) R s) :
  SimE c F (.Call (.Attribute o name apos) args [] pos) (eMeth C name fo g k) := λ A φ μ s Q E hA R p hb hQ hE => by
 unfold eMeth at hb hQ hE
 rw [arm_eval_Call, hbase]
 refine Qb (ho.use hA R p hb hE λ v x φ1 μ1 s1 eg RB xB rB => ?_)
 rw [eg] at hb hQ hE
 refine Qb (wpAny_standAt ?_)
 unfold methodCall
 have hp : methodCallPos st o F.env apos pos = pure pos := by unfold methodCallPos; simp [hpos]
 have hform : methodCallForm (args.length + ([] : List Keyword).length) (backTo pos (starEach args F.env)) (backToKw pos (keywordEach [] F.env)) = st := hst
 rw [hform]
 cases st with
 | true =>
  refine Qb (wpAny_holding ((Zhy hM).use hA RB rB hb (λ e y φ' μ' s' he R' x' r => hE e y φ' μ' s' he R' (xB.trans x') (r.le xB.dom)) λ pr _ φ2 μ2 s2 eg RC xC rC => ?_))
  rw [eg] at hb hQ hE
  obtain ⟨rfl, rC⟩ := rC
  refine Qb (wpAny_of_eq hp ?_)
  show wpAny _ _ (callWith pos (.ref f) [v] (backTo pos (starEach args F.env)) []) _ _ _
  refine (Za2 (k := λ ys => k (x :: ys)) (P := λ φ h => VR φ h v x) hargs (λ _ _ _ _ _ R e r => r.ext R e) (λ φ h X _ => Zlx hf φ h X trivial) (λ vs ys A φ μ s Q E hA R p hb hQ hE => ?_)).fin hA RC rC rfl (xB.trans xC) hb hQ hE
  exact wpAny_call (hcall ([v] ++ vs) (x :: ys) A φ μ s _ hA R (.cons p.1 p.2) hb (λ v y φ' μ' s' e R' x' r => hQ v y φ' μ' s' e R' x' r) λ e x φ' μ' s' he R' x' r => hE e x φ' μ' s' he R' x' r)
 | false =>
  show wpAny _ _ (holding [v] (do pure (<- getAttr v name true, [])) >>= _) _ _ _
  have hne : isIns C name x μ1 ≠ .bad := λ e => hb (by rw [PM.B, e])
  unfold isIns at hne
  cases hown : ownNs C x μ1 with
  | none => rw [hown] at hne; exact (hne rfl).elim
  | some df =>
   obtain ⟨d, fs⟩ := df
   rw [hown] at hne
   dsimp only at hne
   obtain ⟨a, dx, ds, n, rfl, h1, h2, h3, h4⟩ := Zgb RB rB hown
   cases hl : fs.lookup name with
   | some y => rw [hl] at hne; exact (hne rfl).elim
   | none =>
    have hk : isIns C name x μ1 = .ok () μ1 := by unfold isIns; rw [hown]; dsimp only; rw [hl]
    rw [PM.C hk] at hb hQ hE
    obtain ⟨_, i2, i3⟩ := Zdl (name := name) h4
    have I : InstAt s1.heap a { cls := .ref C, dict := some dx, data := .plain } C (some { cls := .type "dict", data := .dict ds.toArray n }) := ⟨h2, rfl, rfl, h3⟩
    have hlk : lookIn name { cls := .type "dict", data := .dict ds.toArray n } = some none := by
     unfold lookIn; dsimp only; rw [i2 hl, i3]; rfl
    have hfo := Ziz hM.find hM.cls hlk hM.special hM.takes hM.copied
    refine Qb (wpAny_holding (Qb (get_bind RB.inB I hM.ga hfo hM.gattr (wpAny_call (fn_get (s := { s1 with toks := s1.toks + 1 }) (RB.toks (s1.toks + 1)).inB hM.fn ?_)))))
    show wpAny _ _ (handedOut (.ref s1.heap.objs.size)) _ _ _
    rw [handedOut_of rfl]
    refine Qp (Qp ?_)
    refine Qb (wpAny_of_eq hp ?_)
    obtain ⟨RC, xC⟩ := RB.push (methodObj (.ref f) (.ref a)) (tk := s1.toks + 1)
    have hself : (s1.heap.push (methodObj (.ref f) (.ref a))).get? s1.heap.objs.size = some (methodObj (.ref f) (.ref a)) := Heap.get?_push_size _ rfl
    show wpAny _ _ (callWith pos (.ref s1.heap.objs.size) [] (backTo pos (starEach args F.env)) []) _ _ _
    have hzz : ¬ FzO (methodObj (.ref f) (.ref a)) := Zce (n := "method") rfl (by decide) (by decide) (by decide) (by decide)
    refine (Za2 (k := λ ys => k (x :: ys)) (P := λ φ h => (s1.heap.objs.size ∉ φ ∧ h.get? s1.heap.objs.size = some (methodObj (.ref f) (.ref a))) ∧ VR φ h (.ref a) x) hargs (λ φ μ s φ' h' R e r => ?_) (λ φ h X hp => ?_) (λ vs ys A φ μ s Q E hA R p hb hQ hE => ?_)).fin hA RC ⟨⟨λ hm => absurd (RB.phiLt hm) (Nat.lt_irrefl _), hself⟩, rB.ext RB xC⟩ rfl (xB.trans xC) hb hQ hE
    ·obtain ⟨⟨q1, q2⟩, q3⟩ := r
     refine ⟨⟨e.nin q2 q1, ?_⟩, q3.ext R e⟩
     have ho := R.notOwn q2 (.inr ⟨_, rfl⟩)
     rcases e.old _ _ q2 q1 ho.1 ho.2 with z | ⟨⟨es, ep, z⟩, _⟩
     ·exact z
     ·cases z
    ·obtain ⟨oc, od, osl, hlkf⟩ := hf.at_
     refine ⟨.boundFrame, .inr (.inr rfl), (Looks.ld (part := none) hp.1.2).andThen ?_⟩
     exact (Looks.ld (part := none) (X _ _ hlkf)).andThen .now
    ·refine wpAny_call (ks_codeAny_call_bound p.1.1.2 ?_)
     exact hcall (.ref a :: vs) (x :: ys) A φ μ s _ hA R (.cons p.1.2 p.2) hb (λ v y φ' μ' s' e R' x' r => hQ v y φ' μ' s' e R' x' r) λ e x φ' μ' s' he R' x' r => hE e x φ' μ' s' he R' x' r
end

theorem Zog (C : Addr) (rest : List Value) (kw : List (Str × Value)) : (Code.builtin "type.__call__" ⟨.ref C :: rest, kw⟩).weight = 1 := by kernel_rfl
theorem Zrh (C : Addr) (rest : List Value) (kw : List (Str × Value)) : (Code.builtin "type.__call__" ⟨.ref C :: rest, kw⟩).envs = [] := by kernel_rfl
theorem Zoh (C : Addr) (rest : List Value) (kw : List (Str × Value)) : (Code.builtin "type.__call__" ⟨.ref C :: rest, kw⟩).guards = [] := by kernel_rfl
theorem Zpp (C : Addr) (rest : List Value) (kw : List (Str × Value)) : (Code.builtin "type.__call__" ⟨.ref C :: rest, kw⟩).cUnits = 1 := by kernel_rfl
structure MakeAt (c : Cx) (C f : Addr) : Prop where
 makes : makesIn c.K C = true
 init : findIn c.K (.ref C) "__init__" = some (some (.ref f))
 fn : typeIn c.K (.ref f) = some (.type "function")
 keep : keepIn c.K (.ref C) = true
noncomputable def lower (F : Fx) (n : Nat) : Fx := { F with lv := n }
section
variable {c : Cx} {F : Fx}
theorem Rep.lower {φ : List Addr} {μ : St} {s : Shared} {n : Nat} (R : Rep c F φ μ s) : Rep c (Mine.lower F n) φ μ s :=
 ⟨R.ok, R.keep, R.os, R.gens, R.len, R.nodup, R.phiB, R.objs, R.flen, R.lnodup, R.nss, R.cls, R.vloc, R.vcell, R.frm⟩
theorem Rep.raise {φ : List Addr} {μ : St} {s : Shared} {n : Nat} (R : Rep c (Mine.lower F n) φ μ s) : Rep c F φ μ s :=
 ⟨R.ok, R.keep, R.os, R.gens, R.len, R.nodup, R.phiB, R.objs, R.flen, R.lnodup, R.nss, R.cls, R.vloc, R.vcell, R.frm⟩
noncomputable def mkInst (C : Addr) (slotted : Bool) (d : Nat) : MO := match slotted with
 | true => .slt C d []
 | false => .ins C d
noncomputable def retNone (v r : PV) : PM PV := match r with
 | .none => pure v
 | _ => PM.H
noncomputable def newM (C : Addr) (slotted : Bool) (k : List PV -> PM PV) (xs : List PV) : PM PV :=
 allocM (.ns []) >>= λ d => allocM (mkInst C slotted d) >>= λ i => k (.obj i :: xs) >>= retNone (.obj i)
theorem Zri {C f : Addr} {slotted : Bool} (hM : MakeAt c C f) {k : List PV -> PM PV} {lv : Nat} (hlv : lv + 1 <= F.lv)
  (hcall : ∀ vs xs, ∀ (A : Around) (φ : List Addr) (μ : St) (s : Shared) (R : Result -> Shared -> Prop), ACtx (lower F lv) A -> Rep c (lower F lv) φ μ s -> VRs φ s.heap vs xs -> k xs μ ≠ .bad ->
   (∀ v y φ' μ' s', k xs μ = .ok y μ' -> Rep c (lower F lv) φ' μ' s' -> Ext F.nss F.cls φ s.heap φ' s'.heap -> VR φ' s'.heap v y -> R (.ok (.ret v)) s') ->
   (∀ e x φ' μ' s', k xs μ = .exc x μ' -> Rep c (lower F lv) φ' μ' s' -> Ext F.nss F.cls φ s.heap φ' s'.heap -> ExcR c (dom s.heap) φ' s'.heap e x -> R (.error e) s') -> codeAny (model c.prog c.w) A (.call (.ref f) ⟨vs, []⟩) R s) (vs : List Value) (xs : List PV) :
  Sim c F (λ φ h => VRs φ h vs xs) (λ φ h v x => VR φ h v x) (call (.ref C) vs) (newM C slotted k xs) := by
 intro A φ μ s Q E hA R p hb hQ hE
 unfold newM at hb hQ hE
 obtain ⟨hh, g, d, t, os⟩ := s
 have Y := makes_of (M := model c.prog c.w) R.inB hM.makes
 refine wpAny_call (make_core Y (looks_findIn R.inB hM.init) (λ self => bind_fn R.inB self hM.fn) (.inl rfl) ?_)
 have hU : A.under (.builtin "type.__call__" ⟨.ref C :: vs, []⟩) = { A with depth := A.depth + 1, units := A.units + 1 } := by
  obtain ⟨hd, dp, fr, gs, u⟩ := A
  simp [Around.under, Zog, Zrh, Zoh, Zpp, pushEnvs, pushGuards]
 rw [hU]
 have hA' : ACtx (lower F lv) { A with depth := A.depth + 1, units := A.units + 1 } := by
  refine ⟨hA.handled, hA.frames, hA.guards, ?_, ?_⟩
  ·show A.depth + 1 + 10 * lv <= 900
   have := hA.depth; lia
  ·show A.units + 1 + 100 * lv <= 9000
   have := hA.units; lia
 obtain ⟨RB, xB⟩ := R.alloc (ob := emptyDict) (o := .ns []) (tk := t) rfl λ hg hi hm => .ns (ds := []) hg .nil
 have hd1 : (φ ++ [hh.objs.size])[μ.hp.length]? = some hh.objs.size := by rw [<- R.len]; simp
 obtain ⟨RC, xC⟩ := RB.alloc (ob := instObj C hh.objs.size) (o := mkInst C slotted μ.hp.length) (tk := t) rfl λ hg hi hm => by
   cases slotted with
   | true => exact .slt (sl := []) (getElem?_app hd1) hg .nil
   | false => exact .ins (getElem?_app hd1) hg
 have sz : (hh.push emptyDict).objs.size = hh.objs.size + 1 := Heap.size_push ..
 have e2 : (allocM (.ns []) >>= λ d => allocM (mkInst C slotted d) >>= λ i => k (.obj i :: xs) >>= retNone (.obj i)) μ = (k (.obj (μ.hp ++ [MO.ns []]).length :: xs) >>= retNone (.obj (μ.hp ++ [MO.ns []]).length)) ⟨μ.fr, μ.hp ++ [.ns []] ++ [mkInst C slotted μ.hp.length]⟩ := rfl
 rw [e2] at hb hQ hE
 have hself : VR (φ ++ [hh.objs.size] ++ [(hh.push emptyDict).objs.size]) ((hh.push emptyDict).push (instObj C hh.objs.size)) (.ref (hh.objs.size + 1)) (.obj (μ.hp ++ [MO.ns []]).length) :=
  .obj (by rw [<- sz, length_append, <- R.len]; simp)
 have hxs : VRs (φ ++ [hh.objs.size] ++ [(hh.push emptyDict).objs.size]) ((hh.push emptyDict).push (instObj C hh.objs.size)) vs xs := (p.ext R xB).ext RB xC
 refine hcall _ _ _ _ _ _ _ hA' RC.lower (.cons hself hxs) (λ e => hb (by rw [PM.B, e])) (λ v y φ' μ' s' eo R' x' r => ?_) λ e x φ' μ' s' eo R' x' r => ?_
 ·rw [PM.C eo] at hb hQ
  induction r using VR.cs with
  | none => exact ⟨rfl, hQ _ _ φ' μ' s' rfl R'.raise (xB.trans (xC.trans x')) (hself.ext RC x')⟩
  | _ => exact (hb rfl).elim
 ·exact hE _ _ φ' μ' s' (by rw [PM.B, eo]) R'.raise (xB.trans (xC.trans x')) (r.le (xB.trans xC).dom)
end

section
variable {c : Cx} {F : Fx} {φ φ0 : List Addr} {μ : St} {s s0 : Shared} {h' : Heap}
theorem Zpq (R : Rep c F φ μ s) {e : Addr} {cls : Value} (x : Ext F.nss F.cls φ0 s0.heap φ s.heap) (hnew : s.heap.get? e = none) (stay : ∀ a o, s.heap.get? a = some o -> h'.get? a = some o) {vs : Array Value} {oe : Obj}
  (hthere : h'.get? e = some oe) (hc : oe.cls = cls) (hd : oe.data = .fields vs) (h5 : 5 <= vs.size) (h1 : vs[1]? = some .none) (hcls : ∀ n ∈ ["tuple", "list", "range", "method-wrapper", "dict_values"], cls ≠ .type n) : ExcR c (dom s0.heap) φ h' (.ref e) cls := by
 refine ⟨e, oe, vs, rfl, hthere, hc, ?_, hd, h5, λ hm => ?_, ?_, λ ⟨o, ho⟩ => ?_, .inl h1⟩
 ·rintro ⟨q | q | q | q | q, _⟩ <;> rw [hc] at q <;> exact absurd q (hcls _ (by simp))
 ·obtain ⟨o, ho⟩ := R.lt hm
  rw [hnew] at ho; cases ho
 ·cases q : c.B.get? e with
  | none => rfl
  | some o => have := R.keep e o q; rw [hnew] at this; cases this
 ·obtain ⟨o', ho'⟩ := x.dom e ⟨o, ho⟩
  rw [hnew] at ho'; cases ho'
structure OwnExc (c : Cx) (x : Str) (C : Addr) (newId : String) (bmB : List Value) : Prop where
 glob : nsIn c.K mainGlobals x = some (some (.ref C))
 at_ : OwnCls x C bmB newId c.mg c.B
end

noncomputable def noExc {α : Type} (f : PM α) : PM α := λ μ => match f μ with
 | .ok a μ' => .ok a μ'
 | .exc _ _ => .bad
 | .bad => .bad
noncomputable def handleM : List ((Value -> Option Bool) × PM MF) -> Value -> PM MF
 | [], _ => PM.H
 | (m, g) :: rest, x => match m x with
  | some true => noExc g
  | some false => handleM rest x
  | none => PM.H
theorem Zhj {m : Value -> Option Bool} {g : PM MF} {rest : List ((Value -> Option Bool) × PM MF)} {x : Value} : handleM ((m, g) :: rest) x = (match m x with | some true => noExc g | some false => handleM rest x | none => PM.H) := rfl
noncomputable def tryM (f : PM MF) (hs : List ((Value -> Option Bool) × PM MF)) : PM MF := λ μ => match f μ with
 | .ok a μ' => .ok a μ'
 | .exc x μ' => handleM hs x μ'
 | .bad => .bad
structure CatchAt (c : Cx) (T : Value) (m : Value -> Option Bool) : Prop where
 nt : ∀ h, c.K.In h -> Looks (model c.prog c.w) h (isInstance T (.type "tuple")) false
 exc : ∀ h, c.K.In h -> Looks (model c.prog c.w) h (isExcClass T) true
 sub : ∀ x b, m x = some b -> ∀ h, c.K.In h -> Looks (model c.prog c.w) h (isSubtype x T) b
noncomputable def handling (F : Fx) : Fx := { F with hd := false }
inductive HandlersAt (c : Cx) (F : Fx) : List ExceptHandler -> List ((Value -> Option Bool) × PM MF) -> Prop
 | nil : HandlersAt c F [] []
 | cons {t : Expr} {bA : Stmt} {suite : List Stmt} {pos : Pos} {T : Value} {m : Value -> Option Bool} {g : PM MF} {hs : List ExceptHandler} {ms : List ((Value -> Option Bool) × PM MF)} :
   (∀ A φ μ s Q (E : Value -> Shared -> Prop), ACtx (handling F) A -> Rep c (handling F) φ μ s -> Q T s -> wpAny (model c.prog c.w) A (eval t F.env) Q E s) -> CatchAt c T m ->
   SimSS c (handling F) (bA :: suite) g -> HandlersAt c F hs ms -> HandlersAt c F (.ExceptHandler (some t) none (bA :: suite) pos :: hs) ((m, g) :: ms)
section
variable {c : Cx} {F : Fx} {φ φ0 : List Addr} {μ : St} {s s0 : Shared} {h' : Heap}
theorem Rep.handling (R : Rep c F φ μ s) : Rep c (Mine.handling F) φ μ s :=
 ⟨R.ok, R.keep, R.os, R.gens, R.len, R.nodup, R.phiB, R.objs, R.flen, R.lnodup, R.nss, R.cls, R.vloc, R.vcell, R.frm⟩
theorem Rep.handled (R : Rep c (Mine.handling F) φ μ s) : Rep c F φ μ s :=
 ⟨R.ok, R.keep, R.os, R.gens, R.len, R.nodup, R.phiB, R.objs, R.flen, R.lnodup, R.nss, R.cls, R.vloc, R.vcell, R.frm⟩
theorem ACtx.mark {A : Around} (hA : ACtx F A) (h : Option Value) : ACtx (Mine.handling F) (A.mark h) := ⟨λ e => (nomatch e), hA.frames, hA.guards, hA.depth, hA.units⟩
theorem Zla {M : Model} {A : Around} {E : Value -> Shared -> Prop} {e T x : Value} {b : Bool} {Q : Bool -> Shared -> Prop} (h1 : Looks M s.heap (isInstance T (.type "tuple")) false) (h2 : Looks M s.heap (isExcClass T) true)
  (h3 : Looks M s.heap (typeOf e) x) (h4 : Looks M s.heap (isSubtype x T) b) (h : Q b s) : wpAny M A (excMatches e T) Q E s := by
 unfold excMatches
 refine Qb (h1.here ?_)
 rw [if_neg Bool.false_ne_true]
 refine Qb (Qp ?_)
 dsimp only
 rw [forIn_cons]
 refine Qb (Qb (Qb (h2.here ?_)))
 rw [if_neg (by decide)]
 refine Qp ?_
 dsimp only
 rw [forIn_nil]
 refine Qp (Qb (h3.here ?_))
 rw [forIn_cons]
 refine Qb (Qb (Qb (h4.here ?_)))
 cases b with
 | true => rw [if_pos rfl]; exact Qp (Qp (Qp h))
 | false =>
  rw [if_neg Bool.false_ne_true]
  refine Qp ?_
  dsimp only
  rw [forIn_nil]
  exact Qp (Qp h)
theorem Zi1 {hs : List ExceptHandler} {ms : List ((Value -> Option Bool) × PM MF)} (H : HandlersAt c F hs ms) {A : Around} {e x : Value} {Q : Flow -> Shared -> Prop} {E : Value -> Shared -> Prop} {h₀ : Heap} (hA : ACtx F A) :
  ∀ {φ : List Addr} {μ : St} {s : Shared}, Rep c F φ μ s -> Ext F.nss F.cls φ0 h₀ φ s.heap -> ExcT c (dom h₀) φ s.heap e x -> handleM ms x μ ≠ .bad ->
  (∀ a b φ' μ' s', handleM ms x μ = .ok b μ' -> Rep c F φ' μ' s' -> Ext F.nss F.cls φ0 h₀ φ' s'.heap -> FR φ' s'.heap a b -> Q a s') -> wpAny (model c.prog c.w) A (handleBy e F.env hs) Q E s := by
 induction H with
 | nil => intro φ μ s R xA hx hb hQ; exact (hb rfl).elim
 | @cons t bA suite pos T m g hs ms hn hC hg hr ih =>
  intro φ μ s R xA hx hb hQ
  rw [Zhj] at hb hQ
  obtain ⟨ea, oe, vs, T', oT, ts, he, h2, h3, hz⟩ := id hx
  have hnb : e ≠ byPass := by rw [he]; intro q; cases q
  cases hm : m x with
  | none => rw [hm] at hb; exact (hb rfl).elim
  | some b =>
   rw [hm] at hb hQ
   refine wpAny_handleBy_cons (codeAny_handlers_test (hn _ φ μ s _ _ (hA.mark _) R.handling ?_)) hnb
   have X := R.inB
   have hty : Looks (model c.prog c.w) s.heap (typeOf e) x := by
    subst he; subst h3
    exact (Looks.ld h2).andThen .now
   refine Zla (hC.nt _ X) (hC.exc _ X) hty (hC.sub x b hm _ X) ?_
   cases b with
   | true =>
    refine codeAny_handlers_suite (Zcf (s := s) (F := F) R hx λ h₁ N1 TB => ?_)
    dsimp only at hb hQ
    unfold noExc at hb hQ
    dsimp only at hb hQ
    have RB : Rep c F φ μ { s with heap := h₁ } := R.side (tk := s.toks) N1.side
    have xB := N1.ext (λ _ q => q) xA
    refine hg _ φ μ { s with heap := h₁ } _ _ (hA.mark _) RB.handling trivial (λ e => hb (by rw [e])) (λ a b φ' μ' s' eo R' x' r => ?_) λ e y φ' μ' s' eo _ _ _ => (hb (by rw [eo])).elim
    exact hQ a b φ' μ' s' (by rw [eo]) R'.handled (xB.trans x') r
   | false => exact ih R xA hx hb hQ
theorem Zrj {body : List Stmt} {h₁ : ExceptHandler} {hs : List ExceptHandler} {pos : Pos} {f : PM MF} {ms : List ((Value -> Option Bool) × PM MF)} {outer : List Env} (hfr : F.frames = F.env :: outer)
  (hb : SimSS c F body f) (H : HandlersAt c F (h₁ :: hs) ms) : SimS c F (.Try body (h₁ :: hs) [] [] pos) (tryM f ms) := λ A φ μ s Q E hA R p hbad hQ hE => by
 unfold tryM at hbad hQ hE
 refine wpAny_Try_except (hb A φ μ s _ _ hA R trivial (λ e => hbad (by rw [e])) (λ a b φ' μ' s' eo R' x r => ?_) λ e y φ' μ' s' eo R' x r => ?_)
 ·have z := hQ a b φ' μ' s' (by rw [eo]) R' x r
  cases a with
  | next => exact wpAny_execs_nil z
  | _ => exact z
 ·rw [eo] at hbad hQ
  refine Zfs hA R' hfr r (λ h₂ N2 TC => ?_) x.dom
  refine Zcf (s := { s' with heap := h₂ }) (R'.side (tk := s'.toks) N2.side) TC λ h₃ N3 T3 => ?_
  exact Zi1 H hA (s := { s' with heap := h₃ }) ((R'.side (tk := s'.toks) N2.side).side (tk := s'.toks) N3.side) (N3.ext (λ _ q => q) (N2.ext (λ _ q => q) x)) T3 hbad hQ
end

noncomputable def ownCell (env : Env) (n : Str) (k : NameKind) : Bool := k == .free && env.scope.kind == .function && env.kindOf n == some .cell
noncomputable def cEnv (env : Env) (scope : Scope) (Lc : Addr) (clo : List (Str × Addr)) : Env :=
 { scope := { scope with names := scope.names.map λ (n, k) => if ownCell env n k then (n, .cell) else (n, k) }, locals := Lc, globals := env.globals, cells := cellsFrom (Lc + 1) scope.names clo, qual := env.qual, func := none, code := env.code, frame := env.frame, builtins := env.builtins }
noncomputable def newCells (Lc : Addr) (scope : Scope) : List (Str × Addr) := cellsFrom (Lc + 1) scope.names []
noncomputable def compFx (F : Fx) (scope : Scope) (Lc : Addr) (clo : List (Str × Addr)) : Fx :=
 { env := cEnv F.env scope Lc clo, locs := F.locs ++ locsOf Lc (newCells Lc scope) scope.names, nss := Lc :: F.nss, cls := F.cls ++ (newCells Lc scope).map (·.2), frames := F.frames, lv := F.lv, hd := F.hd }
noncomputable def pushU (μ : St) (m : Nat) : St := ⟨μ.fr ++ List.replicate m .undef, μ.hp⟩
section
variable {c : Cx} {F : Fx} {φ φ' : List Addr} {μ μ' : St} {s s' : Shared} {h' : Heap}
theorem Zbm : ∀ (names : List (Str × NameKind)) (h : Heap), h.objs.size <= (pushCells h names).objs.size
 | [], h => Qr
 | (_, kind) :: r, h => by
  unfold pushCells
  split
  ·exact Nat.le_trans (by rw [Heap.size_push]; exact Nat.le_succ _) (Zbm r _)
  ·exact Zbm r h
theorem Rep.enterC (R : Rep c F φ μ s) {scope : Scope} (hn : (scope.names.map (·.1)).Nodup) (clo : List (Str × Addr)) (o : Obj) (ho : o = { cls := .type "dict", data := .dict #[] }) :
  Rep c F φ μ { s with heap := pushCells (s.heap.push o) scope.names } ∧ Ext F.nss F.cls φ s.heap φ (pushCells (s.heap.push o) scope.names) ∧
  Rep c (compFx F scope s.heap.objs.size clo) φ (pushU μ (ownNames scope.names).length) { s with heap := pushCells (s.heap.push o) scope.names } := by
 subst ho
 have keep : ∀ a ob, s.heap.get? a = some ob -> (pushCells (s.heap.push { cls := .type "dict", data := .dict #[] }) scope.names).get? a = some ob := λ a ob e => pushCells_keeps _ _ _ _ (Heap.get?_push_of_some _ e)
 obtain ⟨RB, xB⟩ := R.still (tk := s.toks) (h' := pushCells (s.heap.push { cls := .type "dict", data := .dict #[] }) scope.names) (Nat.le_trans (by rw [Heap.size_push]; exact Nat.le_succ _) (Zbm scope.names _)) keep
 refine ⟨RB, xB, ?_⟩
 have hns : (pushCells (s.heap.push { cls := .type "dict", data := .dict #[] }) scope.names).Ns s.heap.objs.size λ _ => none := (Heap.Ns.new s.heap (.type "dict")).keeps (pushCells_keeps _ _)
 have cok : CellsOk (pushCells (s.heap.push { cls := .type "dict", data := .dict #[] }) scope.names) (s.heap.objs.size + 1) (newCells s.heap.objs.size scope) := by
  have := cellsFrom_ok scope.names (s.heap.push { cls := .type "dict", data := .dict #[] }) (s.heap.objs.size + 1) [] ⟨λ _ _ hm => (nomatch hm), List.Pairwise.nil⟩ (by rw [Heap.size_push]; exact Qr)
  rw [Heap.size_push] at this
  exact this
 have oldNs : ∀ L ∈ F.nss, L < s.heap.objs.size := λ L hL => by
  obtain ⟨_, _, m, hm⟩ := R.nss L hL
  exact hm.lt
 have oldCl : ∀ a ∈ F.cls, a < s.heap.objs.size := λ a ha => by
  obtain ⟨_, _, v, o, ho, _⟩ := R.cls a ha
  exact Heap.lt_size ho
 have hlen : (locsOf s.heap.objs.size (newCells s.heap.objs.size scope) scope.names).length = (ownNames scope.names).length := by unfold locsOf; simp
 have newAt : ∀ (k : Nat) (pv : PV), (μ.fr ++ List.replicate (ownNames scope.names).length PV.undef)[k]? = some pv -> pv ≠ .undef -> k < F.locs.length ∧ μ.fr[k]? = some pv := λ k pv e hu => by
  by_cases hk : k < μ.fr.length
  ·rw [List.getElem?_append_left hk] at e
   exact ⟨by rw [<- R.flen]; exact hk, e⟩
  ·rw [List.getElem?_append_right (Nat.le_of_not_lt hk)] at e
   have := mem_of_getElem? e
   exact absurd (List.eq_of_mem_replicate this) hu
 have inNew : ∀ l ∈ locsOf s.heap.objs.size (newCells s.heap.objs.size scope) scope.names, (∃ y, l = .loc s.heap.objs.size y) ∨ ∃ a, l = .cell a ∧ a ∈ (newCells s.heap.objs.size scope).map (·.2) := λ l hl => by
  unfold locsOf at hl
  obtain ⟨⟨y, k⟩, hy, rfl⟩ := Qmm hl
  obtain ⟨h1, h2⟩ := Zax hy
  dsimp only
  split
  ·exact .inl ⟨y, rfl⟩
  ·rename_i hk
   have hc : k = .cell := by
    rcases h2 with h | h
    ·have h : k = .local := h
     subst h; exact absurd rfl hk
    ·exact h
   subst hc
   obtain ⟨a, ha⟩ := Option.isSome_iff_exists.mp (Zay y scope.names (s.heap.objs.size + 1) [] (.inl h1))
   refine .inr ⟨a, ?_, mem_map.mpr ⟨_, mem_of_lookup ha, rfl⟩⟩
   show Loc.cell (((newCells s.heap.objs.size scope).lookup y).getD 0) = _
   unfold newCells
   rw [ha]; rfl
 have newAbove : ∀ a ∈ (newCells s.heap.objs.size scope).map (·.2), s.heap.objs.size + 1 <= a ∧ (pushCells (s.heap.push { cls := .type "dict", data := .dict #[] }) scope.names).IsCell a none := λ a ha => by
  obtain ⟨⟨y, a'⟩, hm, rfl⟩ := Qmm ha
  exact ⟨(cok.empty _ _ hm).2, (cok.empty _ _ hm).1⟩
 refine ⟨RB.ok, RB.keep, RB.os, RB.gens, RB.len, RB.nodup, RB.phiB, RB.objs, ?_, ?_, λ L hL => ?_, λ a ha => ?_, λ k L x hk => ?_, λ k a hk => ?_, λ env he => ?_⟩
 ·show (μ.fr ++ List.replicate _ _).length = (F.locs ++ _).length
  rw [length_append, length_append, List.length_replicate, hlen, R.flen]
 ·show (F.locs ++ _).Nodup
  refine nodup_append.mpr ⟨R.lnodup, Zf9 hn cok.apart λ y hy => Zay y _ _ _ (.inl hy), λ l hl l' hl' e => ?_⟩
  subst e
  obtain ⟨k, hk⟩ := List.getElem?_of_mem hl
  rcases inNew l hl' with ⟨y, rfl⟩ | ⟨a, rfl, ha⟩
  ·exact absurd (oldNs _ (R.vloc k _ _ hk).1) (Nat.lt_irrefl _)
  ·have h1 := oldCl _ (R.vcell k _ hk).1
   have h2 := (newAbove a ha).1
   exact absurd h1 (Nat.not_lt_of_le (Nat.le_trans (Nat.le_succ _) h2))
 ·rcases Qmc (show L ∈ s.heap.objs.size :: F.nss from hL) with rfl | hL
  ·have ab := R.above (Nat.le_refl s.heap.objs.size)
   exact ⟨ab.1, ab.2, _, hns⟩
  ·exact RB.nss L hL
 ·rcases Qma (show a ∈ F.cls ++ (newCells s.heap.objs.size scope).map (·.2) from ha) with ha | ha
  ·exact RB.cls a ha
  ·have ab := R.above (Nat.le_trans (Nat.le_succ _) (newAbove a ha).1)
   exact ⟨ab.1, ab.2, _, (newAbove a ha).2⟩
 ·have hk : (F.locs ++ locsOf s.heap.objs.size (newCells s.heap.objs.size scope) scope.names)[k]? = some (.loc L x) := hk
  refine ⟨?_, λ pv hp hu => ?_⟩
  ·by_cases hlt : k < F.locs.length
   ·rw [List.getElem?_append_left hlt] at hk
    exact mem_cons_of_mem _ (R.vloc k L x hk).1
   ·rw [List.getElem?_append_right (Nat.le_of_not_lt hlt)] at hk
    rcases inNew _ (mem_of_getElem? hk) with ⟨y, e⟩ | ⟨a, e, _⟩
    ·cases e; exact mem_cons_self
    ·cases e
  ·obtain ⟨h1, h2⟩ := newAt k pv hp hu
   rw [List.getElem?_append_left h1] at hk
   exact (RB.vloc k L x hk).2 pv h2 hu
 ·have hk : (F.locs ++ locsOf s.heap.objs.size (newCells s.heap.objs.size scope) scope.names)[k]? = some (.cell a) := hk
  refine ⟨?_, λ pv hp hu => ?_⟩
  ·by_cases hlt : k < F.locs.length
   ·rw [List.getElem?_append_left hlt] at hk
    exact mem_append_left _ (R.vcell k a hk).1
   ·rw [List.getElem?_append_right (Nat.le_of_not_lt hlt)] at hk
    rcases inNew _ (mem_of_getElem? hk) with ⟨y, e⟩ | ⟨a, e, ha⟩
    ·cases e
    ·cases e; exact mem_append_right _ ha
  ·obtain ⟨h1, h2⟩ := newAt k pv hp hu
   rw [List.getElem?_append_left h1] at hk
   exact (RB.vcell k a hk).2 pv h2 hu
 ·exact RB.frm env he
theorem Rep.spare (R : Rep c F φ μ s) {a : Addr} (hs : Heap.SameBut a s.heap h') (h1 : a ∉ φ) (h2 : a ∉ F.nss) (h3 : a ∉ F.cls) (h4 : a ∉ F.stk) (h5 : c.B.get? a = none) (h6 : ∀ o, s.heap.get? a = some o -> ¬ FzO o) {tk : Nat} : Rep c F φ μ { s with heap := h', toks := tk } := by
 have hm : ∀ v x, VR φ s.heap v x -> VR φ h' v x := λ v x r => r.move (λ _ _ e => e) (λ _ _ _ h => h) λ b o ho _ hz => (hs.2 b λ e => h6 o (e ▸ ho) hz).trans ho
 refine ⟨R.ok, λ b o hb => (hs.2 b λ e => by rw [e, h5] at hb; cases hb).trans (R.keep b o hb), R.os, R.gens, R.len, R.nodup, R.phiB, λ i b o q1 q2 => ?_, R.flen, R.lnodup, λ L hL => ?_, λ b hb => ?_, λ k L x hk => ?_, λ k b hk => ?_, λ env he => ?_⟩
 ·exact (R.objs i b o q1 q2).move (λ _ _ e => e) hm (hs.2 b λ e => h1 (e ▸ mem_of_getElem? q1))
 ·obtain ⟨q1, q2, m, hn⟩ := R.nss L hL
  exact ⟨q1, q2, m, hn.sameBut hs λ e => h2 (e ▸ hL)⟩
 ·obtain ⟨q1, q2, v, hn⟩ := R.cls b hb
  exact ⟨q1, q2, v, hn.sameBut hs λ e => h3 (e ▸ hb)⟩
 ·obtain ⟨q1, q2⟩ := R.vloc k L x hk
  refine ⟨q1, λ pv hp hu => ?_⟩
  obtain ⟨m, v, hn, hx, hv⟩ := q2 pv hp hu
  exact ⟨m, v, hn.sameBut hs λ e => h2 (e ▸ q1), hx, hm _ _ hv⟩
 ·obtain ⟨q1, q2⟩ := R.vcell k b hk
  refine ⟨q1, λ pv hp hu => ?_⟩
  obtain ⟨v, hn, hv⟩ := q2 pv hp hu
  exact ⟨v, hn.sameBut hs λ e => h3 (e ▸ q1), hm _ _ hv⟩
 ·obtain ⟨q1, L, q2, q3, q4, o, es, ep, ho, r⟩ := R.frm env he
  exact ⟨q1, L, q2, q3, q4, o, es, ep, (hs.2 L λ e => h4 (e ▸ List.mem_filterMap.mpr ⟨env, he, q2⟩)).trans ho, r⟩
end

noncomputable def getIt (pv : PV) (μ0 : St) (k : Nat) (μ : St) : Option (Option PV) := match pv with
 | .vals i => (match μ0.hp[i]? with
  | some (.dct es0 ep0) => (match μ.hp[i]? with
   | some (.dct es ep) => if es.length = es0.length ∧ ep = ep0 then some ((es[k]?).map λ e => e.2) else none
   | _ => none)
  | _ => none)
 | pv => getOf pv μ0 k μ
structure SelfIter (c : Cx) (it : Addr) (ob : Nat -> Obj -> Prop) : Prop where
 self : ∀ (k : Nat) (A : Around) (s : Shared) (Q : Value -> Shared -> Prop) (E : Value -> Shared -> Prop), (∃ o, s.heap.get? it = some o ∧ ob k o) -> Q (.ref it) s -> wpAny (model c.prog c.w) A (pyIter (.ref it)) Q E s
 letGo : ∀ (k : Nat) (target : Expr) (w : Value) (A : Around) (s : Shared) (Q : Unit -> Shared -> Prop) (E : Value -> Shared -> Prop), (∃ o, s.heap.get? it = some o ∧ ob k o) -> Q () s -> wpAny (model c.prog c.w) A (letOwnedTupleGo target (.ref it) w) Q E s
section
variable {c : Cx} {F : Fx}
theorem Zcp {M : Model} {A : Around} {s : Shared} {Q : Unit -> Shared -> Prop} {E : Value -> Shared -> Prop} {it : Addr} {target : Expr} {w : Value} {o : Obj} {T : String} {vs : Array Value} (ho : s.heap.get? it = some o) (hc : o.cls = .type T) (hd : o.data = .fields vs)
  (hT : T = "list_iterator" ∨ T = "tuple_iterator" ∨ T = "range_iterator" ∨ T = "dict_keyiterator" ∨ T = "dict_valueiterator") (h : Q () s) : wpAny M A (letOwnedTupleGo target (.ref it) w) Q E s := by
 unfold letOwnedTupleGo
 cases target <;> first
  | exact Qp h
  | (cases w <;> first
    | exact Qp h
    | (refine Qb (wpAny_load ho ?_); rw [hc, hd]; rcases hT with rfl | rfl | rfl | rfl | rfl <;> exact Qp h))
theorem Zpr {d : Addr} {i n ep : Nat} {it : Addr} {get : Nat -> St -> Option (Option PV)}
  (hg : ∀ k μ, get k μ ≠ none -> ∃ es, μ.hp[i]? = some (.dct es ep) ∧ es.length = n ∧ get k μ = some ((es[k]?).map λ e => e.2)) (hh : F.hd = true) :
  ItP c F it (λ k o => o.cls = .type "dict_valueiterator" ∧ o.data = .fields #[.ref d, .int k 0, .int n 0, .int ep 0]) (.ref d) (.obj i) get := by
 refine ⟨λ k o h => ⟨⟨_, h.2⟩, Zbg h.1 (by decide) (by decide) (by decide) (by decide)⟩, λ k A φ μ s Q E hA R hit hr hn hi hb => ?_⟩
 obtain ⟨o, ho, hc, hd⟩ := hit
 obtain ⟨es, hes, hlen, hget⟩ := hg k μ hb
 have hdi : φ[i]? = some d := hr.inv_obj rfl rfl
 have q := R.objs i d _ hdi hes
 obtain ⟨kvs, k1, k2⟩ := q.inv_dct rfl
 ·
  have hkl : kvs.length = n := by rw [Zbb k2, hlen]
  subst hkl
  cases hx : es[k]? with
  | none =>
   have : kvs[k]? = none := by
    rw [List.getElem?_eq_none_iff] at hx ⊢
    exact Qek hlen.symm hx
   exact wpAny_pyNext_values_end (knd := intKind c.prog c.w) (hA.handled hh) ⟨o, ho, hc, hd⟩ k1 this λ h' hs => hn (by rw [hget, hx]; rfl) h' s.toks hs
  | some e =>
   obtain ⟨w, hw, hr⟩ := Zgv k2 hx
   refine wpAny_pyNext_values_item (knd := intKind c.prog c.w) ⟨o, ho, hc, hd⟩ k1 hw λ h' hit' hs => hi e.2 (by rw [hget, hx]; rfl) w h' s.toks ?_ hs.extBut ?_
   ·obtain ⟨o', ho', hc', hd'⟩ := hit'
    exact ⟨o', ho', hc', hd'⟩
   ·refine hr.move (λ _ _ e => e) (λ _ _ _ h => h) λ a oa ha _ hz => (hs.2 a λ e => ?_).trans ha
    subst e
    rw [ho] at ha; cases ha
    exact Zbg hc (by decide) (by decide) (by decide) (by decide) (by decide) hz
theorem Zdm {A : Around} {φ : List Addr} {μ : St} {s : Shared} {Q : Value -> Shared -> Prop} {E : Value -> Shared -> Prop} {v : Value} {pv : PV} (R : Rep c F φ μ s) (r : VR φ s.heap v pv) (hne : getIt pv μ 0 μ ≠ none)
  (K : ∀ (o : Obj) (ob : Nat -> Obj -> Prop) (get : Nat -> St -> Option (Option PV)) (v' : Value) (pv' : PV), o.isFreed = false -> VR φ s.heap v' pv' -> (∀ G : Fx, G.hd = true -> ItP c G s.heap.objs.size ob v' pv' get) -> ob 0 o -> (∀ k μ', getIt pv μ k μ' = get k μ') -> SelfIter c s.heap.objs.size ob -> Q (.ref s.heap.objs.size) { s with heap := s.heap.push o }) :
  wpAny (model c.prog c.w) A (pyIter v) Q E s := by
 have selfL : ∀ a, SelfIter c s.heap.objs.size (λ k o => o.cls = .type "list_iterator" ∧ o.data = .fields #[.ref a, .int k 0]) := λ a =>
  ⟨λ k A s Q E ⟨o, ho, hc, hd⟩ h => wpAny_pyIter_listiter ⟨o, ho, hc, hd⟩ h, λ k t w A s Q E ⟨o, ho, hc, hd⟩ h => Zcp ho hc hd (.inl rfl) h⟩
 induction r using VR.cs with
 | @lst a vs m xs h1 h4 h5 =>
  refine wpAny_pyIter_list ⟨_, h1, rfl, _, rfl⟩ (K _ (λ k o => o.cls = .type "list_iterator" ∧ o.data = .fields #[.ref a, .int k 0]) (λ k _ => some xs[k]?) _ _ rfl (.lst h1 h4 h5) (λ G hG => Zir (λ φ μ s k R hv _ => ?_) (.inr trivial) hG) ⟨rfl, rfl⟩ (λ _ _ => rfl) (selfL a))
  obtain ⟨_, _, q1, q4, q5⟩ := hv.inv_lst rfl rfl
  ·exact ⟨_, _, ⟨_, q1, rfl, _, rfl⟩, q5, rfl⟩
 | @tup a vs m xs h1 h4 h5 =>
  refine wpAny_pyIter_tuple ⟨_, h1, rfl, _, rfl⟩ (K _ (λ k o => o.cls = .type "tuple_iterator" ∧ o.data = .fields #[.ref a, .int k 0]) (λ k _ => some xs[k]?) _ _ rfl (.tup h1 h4 h5) (λ G hG => Zn9 hG) ⟨rfl, rfl⟩ (λ _ _ => rfl) ⟨λ k A s Q E hit h => ?_, λ k t w A s Q E hit h => ?_⟩)
  ·obtain ⟨o, ho, hc, hd⟩ := hit; exact wpAny_pyIter_tupleiter ⟨o, ho, hc, hd⟩ h
  ·obtain ⟨o, ho, hc, hd⟩ := hit; exact Zcp ho hc hd (.inr (.inl rfl)) h
 | @rng r a b st t u w h1 h2 =>
  cases hsm : Builtin.Range.small a b st with
  | false => exact (hne (by show getOf (.rng a b st) μ 0 μ = none; unfold getOf; dsimp only; rw [hsm]; rfl)).elim
  | true =>
   refine wpAny_pyIter_range h1 hsm (K _ _ (λ k _ => if (k : Int) < Builtin.Range.rangeSize a b st then some (some (.int (a + k * st))) else some none) _ _ rfl (.rng h1 h2) (λ G hG => Zoa (r := r) hG) (by simp) (λ k μ' => by show getOf (.rng a b st) μ k μ' = _; unfold getOf; dsimp only; rw [hsm]; rfl) ⟨λ k A s Q E hit h => ?_, λ k t w A s Q E hit h => ?_⟩)
   ·obtain ⟨o, ho, hd⟩ := hit; subst hd; exact wpAny_pyIter_rangeiter ho h
   ·obtain ⟨o, ho, hd⟩ := hit; subst hd; exact Zcp ho rfl rfl (.inr (.inr (.inl rfl))) h
 | @obj i a h1 =>
  have hsys := R.notSys (mem_of_getElem? h1)
  cases hi : μ.hp[i]? with
  | none => exact (hne (by show getOf (.obj i) μ 0 μ = none; unfold getOf; dsimp only; rw [hi]; try rfl)).elim
  | some ob =>
   have q := R.objs i a ob h1 hi
   cases q with
   | @lst vs m xs k1 k2 =>
    refine wpAny_pyIter_list ⟨_, k1, rfl, _, rfl⟩ (K _ (λ k o => o.cls = .type "list_iterator" ∧ o.data = .fields #[.ref a, .int k 0]) (λ k μ' => getOf (.obj i) μ k μ') _ _ rfl (.obj h1) (λ G hG => Zir (λ φ μ' s k R hv hne => ?_) (.inr trivial) hG) ⟨rfl, rfl⟩ (λ _ _ => rfl) (selfL a))
    have q1 := hv.inv_obj rfl rfl
    ·
     unfold getOf at hne ⊢; dsimp only at hne ⊢; rw [hi] at hne ⊢; dsimp only [getO] at hne ⊢
     cases hj : μ'.hp[i]? with
     | none => rw [hj] at hne; exact (hne rfl).elim
     | some o2 =>
      cases o2 with
      | lst ys =>
       have q := R.objs i a _ q1 hj
       obtain ⟨_, _, z1, z2⟩ := q.inv_lst rfl
       ·exact ⟨_, ys, ⟨_, z1, rfl, _, rfl⟩, z2, rfl⟩
      | _ => rw [hj] at hne; exact (hne rfl).elim
   | @dct kvs es ep k1 k2 =>
    refine wpAny_pyIter_dict (knd := intKind c.prog c.w) hsys k1 (K _ (λ k o => o.cls = .type "dict_keyiterator" ∧ o.data = .fields #[.ref a, .int k 0, .int (es.length : Nat) 0, .int ep 0]) (λ k μ' => getOf (.obj i) μ k μ') _ _ rfl (.obj h1) (λ G hG => Zpl (λ k μ' hne => ?_) hG) ⟨rfl, ?_⟩ (λ _ _ => rfl) ⟨λ k A s Q E hit h => ?_, λ k t w A s Q E hit h => ?_⟩)
    ·unfold getOf at hne ⊢; dsimp only at hne ⊢; rw [hi] at hne ⊢; dsimp only [getO] at hne ⊢
     cases hj : μ'.hp[i]? with
     | none => rw [hj] at hne; exact (hne rfl).elim
     | some o2 =>
      cases o2 with
      | dct ys ep' =>
       rw [hj] at hne; dsimp only at hne ⊢
       by_cases hq : ys.length = es.length ∧ ep' = ep
       ·obtain ⟨e1, e2⟩ := hq
        subst e2
        exact ⟨ys, rfl, e1, by rw [if_pos ⟨e1, rfl⟩]⟩
       ·rw [if_neg hq] at hne; exact (hne rfl).elim
      | _ => rw [hj] at hne; exact (hne rfl).elim
    ·rw [Zbb k2]; rfl
    ·obtain ⟨o, ho, hc, hd⟩ := hit; exact wpAny_pyIter_keyiter ⟨o, ho, hc, hd⟩ h
    ·obtain ⟨o, ho, hc, hd⟩ := hit; exact Zcp ho hc hd (.inr (.inr (.inr (.inl rfl)))) h
   | _ => exact (hne (by show getOf (.obj i) μ 0 μ = none; unfold getOf; dsimp only; rw [hi]; try rfl)).elim
 | @vals i a m h1 h2 h3 =>
  cases hi : μ.hp[i]? with
  | none => exact (hne (by unfold getIt; dsimp only; rw [hi]; try rfl)).elim
  | some ob =>
   have q := R.objs i a ob h1 hi
   cases q with
   | @dct kvs es ep k1 k2 =>
    refine wpAny_pyIter_values (knd := intKind c.prog c.w) ⟨_, h2, rfl, rfl⟩ k1 (K _ (λ k o => o.cls = .type "dict_valueiterator" ∧ o.data = .fields #[.ref a, .int k 0, .int (es.length : Nat) 0, .int ep 0]) (λ k μ' => getIt (.vals i) μ k μ') _ _ rfl (.obj h1) (λ G hG => Zpr (λ k μ' hne => ?_) hG) ⟨rfl, ?_⟩ (λ _ _ => rfl) ⟨λ k A s Q E hit h => ?_, λ k t w A s Q E hit h => ?_⟩)
    ·unfold getIt at hne ⊢; dsimp only at hne ⊢; rw [hi] at hne ⊢; dsimp only at hne ⊢
     cases hj : μ'.hp[i]? with
     | none => rw [hj] at hne; exact (hne rfl).elim
     | some o2 =>
      cases o2 with
      | dct ys ep' =>
       rw [hj] at hne; dsimp only at hne ⊢
       by_cases hq : ys.length = es.length ∧ ep' = ep
       ·obtain ⟨e1, e2⟩ := hq
        subst e2
        exact ⟨ys, rfl, e1, by rw [if_pos ⟨e1, rfl⟩]⟩
       ·rw [if_neg hq] at hne; exact (hne rfl).elim
      | _ => rw [hj] at hne; exact (hne rfl).elim
    ·rw [Zbb k2]; rfl
    ·obtain ⟨o, ho, hc, hd⟩ := hit; exact wpAny_pyIter_valiter ⟨o, ho, hc, hd⟩ h
    ·obtain ⟨o, ho, hc, hd⟩ := hit; exact Zcp ho hc hd (.inr (.inr (.inr (.inr rfl)))) h
   | _ => exact (hne (by unfold getIt; dsimp only; rw [hi]; try rfl)).elim
 | none => exact (hne rfl).elim
 | bool => exact (hne rfl).elim
 | int => exact (hne rfl).elim
 | str => exact (hne rfl).elim
 | nxt => exact (hne rfl).elim
 | raw => exact (hne rfl).elim
theorem Zw {target iter : Expr} {body : List Stmt} {pos : Pos} {outer : List Env} {f : PM PV} {asg : PV -> PM Unit} {g : PM MF} (hfr : F.frames = F.env :: outer) (hh : F.hd = true) (n : Nat) (hi : SimE c F iter f)
  (hasg : ∀ w x, Sim c F (λ φ h => VR φ h w x) (λ _ _ _ _ => True) (assign target F.env w) (asg x)) (hbody : SimSS c F body g)
  (hs : ∀ x, foldedSetIterable iter F.env x = pure x) : SimS c F (.For target iter body [] pos) (sFor f asg g n) := by
 intro A φ μ s Q E hA R p hb hQ hE
 unfold sFor at hb hQ hE
 refine wpAny_For ?_ hs
 refine hi.use hA R p hb hE λ v pv φ1 μ1 s1 eg RB xB rB => ?_
 rw [eg] at hb hQ hE
 have hnv : ∀ i, pv ≠ .vals i := λ i e => by subst e; exact hb (by cases n <;> rfl)
 have hge : ∀ k μ', getOf pv μ1 k μ' = getIt pv μ1 k μ' := λ k μ' => by
  unfold getIt
  split
  ·exact absurd rfl (hnv _)
  ·rfl
 have hne : getIt pv μ1 0 μ1 ≠ none := λ e => hb (by
  cases n with
  | zero => rfl
  | succ n => show (match getOf pv μ1 0 μ1 with | none => _ | some none => _ | some (some x) => _) = _; rw [hge, e])
 refine Zdm RB rB hne λ o ob get v' pv' hf hv' hI h0 hg hS => ?_
 have ec := Zfa (asg := asg) (g := g) (λ k μ => (hge k μ).trans (hg k μ)) n 0
 rw [ec] at hb hQ hE
 obtain ⟨RC, xC⟩ := RB.push o (tk := s1.toks)
 have hB : c.B.get? s1.heap.objs.size = none := by
  cases q : c.B.get? s1.heap.objs.size with
  | none => rfl
  | some o => exact absurd (Heap.lt_size (RB.keep _ o q)) (Nat.lt_irrefl _)
 exact Ze9 hfr ((hI F hh).turns λ k w A s Q E hit hq => hS.letGo k _ w A s Q E hit hq) hasg hbody hA n 0 ⟨RC, xB.trans xC, ⟨o, Heap.get?_push_size _ hf, h0⟩, λ hm => absurd (RB.phiLt hm) (Nat.lt_irrefl _), hv'.ext RB xC, rfl⟩ xB.size hB hb hQ hE
end

noncomputable def compIx (get : Nat -> St -> Option (Option PV)) (tf : PV -> PM Unit) : Nat -> Nat -> PM Unit
 | 0, _ => PM.H
 | n + 1, k => λ μ => match get k μ with
  | none => .bad
  | some none => .ok () μ
  | some (some x) => (tf x >>= λ _ => compIx get tf n (k + 1)) μ
theorem Zbn {get : Nat -> St -> Option (Option PV)} {tf : PV -> PM Unit} {n k : Nat} : compIx get tf (n + 1) k = λ μ => match get k μ with | none => .bad | some none => .ok () μ | some (some x) => (tf x >>= λ _ => compIx get tf n (k + 1)) μ := rfl
theorem Zcq {get get' : Nat -> St -> Option (Option PV)} {tf : PV -> PM Unit} (h : ∀ k μ, get k μ = get' k μ) : ∀ n k, compIx get tf n k = compIx get' tf n k
 | 0, _ => rfl
 | n + 1, k => by
  funext μ
  simp only [Zbn, h, Zcq h n]
section
variable {c : Cx} {G : Fx}
theorem Zbi {e : Expr} {d : Nat} {it : Addr} {acc : Value} {p : Pos} {target : Expr} {T : Value -> Sem Fin} {tf : PV -> PM Unit} {P : List Addr -> Heap -> Prop} {ob : Nat -> Obj -> Prop} {v : Value} {pv : PV} {get : Nat -> St -> Option (Option PV)}
  (hturn : compTurn e d (.ref it) acc G.env = (standAt p >>= λ _ => pyNext (.ref it) >>= λ r => match r with
   | none => pure (.done .next)
   | some v => letOwnedTupleGo target (.ref it) v >>= λ _ => T v))
  (hq : (Code.compLoop e d (.ref it) acc G.env).quiet = true) (hden : (model c.prog c.w).den (.compLoop e d (.ref it) acc G.env) = (compTurn e d (.ref it) acc G.env).onRaise (λ x => do noteFrame x G.env; theTreesLotGoes x))
  (hunder : ∀ A : Around, A.under (.compLoop e d (.ref it) acc G.env) = A)
  (hI : ItP c G it ob v pv get) (hS : SelfIter c it ob) (hP : ∀ φ μ s φ' h', Rep c G φ μ s -> Ext G.nss G.cls φ s.heap φ' h' -> P φ s.heap -> P φ' h') (hP2 : ∀ φ μ (s : Shared) h', Rep c G φ μ s -> (∀ w x, VR φ s.heap w x -> VR φ h' w x) -> P φ s.heap -> P φ h')
  (hT : ∀ w x, Sim c G (λ φ h => VR φ h w x ∧ P φ h) (λ _ _ fin _ => fin = .again (.compLoop e d (.ref it) acc G.env)) (T w) (tf x))
  {A : Around} {φ0 φ : List Addr} {h₀ : Heap} {μ μF : St} {s : Shared} {Rr : Result -> Shared -> Prop} (hA : ACtx G A) (n k : Nat) (R : Rep c G φ μ s) (xA : Ext G.nss G.cls φ0 h₀ φ s.heap)
  (hit : ∃ o, s.heap.get? it = some o ∧ ob k o) (hnew : h₀.objs.size <= it) (hitφ : it ∉ φ) (hitB : c.B.get? it = none) (hv : VR φ s.heap v pv) (hp : P φ s.heap) (hok : compIx get tf n k μ = .ok () μF)
  (hQ : ∀ φ' s', Rep c G φ' μF s' -> Ext G.nss G.cls φ0 h₀ φ' s'.heap -> P φ' s'.heap -> Rr (.ok .next) s') :
  codeAny (model c.prog c.w) A (.compLoop e d (.ref it) acc G.env) Rr s := by
 refine codeAny_loop hq (λ m s' => ∃ k' φ' μ', FI c G it ob v pv (compIx get tf m) (.ok () μF) φ0 h₀ k' φ' μ' s' ∧ P φ' s'.heap) ?_ n ⟨k, φ, μ, ⟨R, xA, hit, hitφ, hv, hok⟩, hp⟩
 clear R xA hit hitφ hv hp hok
 rintro m s1 ⟨kB, φ1, μ1, I, hpB⟩
 cases m with
 | zero => cases I.eq
 | succ m =>
  rw [hunder, hden]
  refine wpAny_noted ?_
  rw [hturn]
  have eB := I.eq
  rw [Zbn] at eB
  dsimp only at eB
  refine Qb (wpAny_standAt (Qb (Z1 (hI.next kB A φ1 μ1 s1 _ _ hA I.R I.hit I.hv (λ hg h' tk hs size => ?_) (λ x hg w h' tk hit' hs hw size => ?_) (λ hg => by rw [hg] at eB; cases eB)))))
  ·obtain ⟨RC, xC, mv⟩ := I.step hI.data hnew hitB (tk := tk) hs size
   rw [hg] at eB
   cases eB
   exact Qp (hQ φ1 _ RC xC (hP2 φ1 _ s1 h' I.R mv hpB))
  ·obtain ⟨RC, xC, mv⟩ := I.step hI.data hnew hitB (tk := tk) hs size
   rw [hg] at eB
   dsimp only at eB
   have nin := I.nin
   have hv2 := mv _ _ I.hv
   have hp2 := hP2 φ1 μ1 s1 h' I.R mv hpB
   clear I mv
   refine Qb (hS.letGo (kB + 1) target w A _ _ _ hit' ?_)
   refine ((hT w x).use (g := λ _ => compIx get tf m (kB + 1)) hA RC ⟨hw, hp2⟩ (by rw [eB]; exact λ e => nomatch e) (λ e y φ' μ' s' he => nomatch eB.symm.trans he) λ a b φ3 μ3 s3 eg R3 xD hfin => ?_)
   subst hfin
   obtain ⟨h3, n3⟩ := FI.hold hI.data RC hit' nin xD
   exact ⟨rfl, m, Nat.lt_succ_self _, kB + 1, φ3, μ3, ⟨R3, xC.trans xD, h3, n3, hv2.ext RC xD, eg.symm.trans eB⟩, hP _ _ _ _ _ RC xD hp2⟩
end

theorem Zec {env : Env} {y : Str} : ∀ {names : List (Str × NameKind)}, (names.map (·.1)).Nodup -> (y, NameKind.local) ∈ names -> (names.map λ (n, k) => if ownCell env n k then (n, NameKind.cell) else (n, k)).lookup y = some .local
 | [], _, h => by simp at h
 | (n, k) :: r, hn, h => by
  simp only [map_cons, nodup_cons] at hn
  rw [map_cons]
  rcases Qmc h with e | h
  ·cases e
   have : ownCell env y .local = false := by unfold ownCell; rfl
   simp only [this, Bool.false_eq_true, if_false]
   simp
  ·have hne : (y == n) = false := by
    have : y ≠ n := λ e => hn.1 (by rw [<- e]; exact mem_map_of_mem (f := (·.1)) h)
    simpa using this
   have ih := Zec (env := env) hn.2 h
   dsimp only
   split <;> rw [lookup_cons, hne] <;> exact ih
section
variable {M : Model} {A : Around} {E : Value -> Shared -> Prop} {s : Shared}
theorem newEnvC {scope : Scope} {g : Addr} {clo : List (Str × Addr)} {q : Str} {env : Env} {Q : Env -> Shared -> Prop}
  (h : Q { scope, locals := s.heap.objs.size, globals := g, cells := cellsFrom (s.heap.objs.size + 1) scope.names clo, qual := q, func := none, code := env.code, frame := env.frame, builtins := env.builtins } { s with heap := pushCells (s.heap.push { cls := .type "dict", data := .dict #[] }) scope.names }) :
  wpAny M A (newFunctionEnv scope g clo [] q none .none (some env)) Q E s := by
 simp only [newFunctionEnv, Option.isSome_some, if_true]
 refine Qb (wpAny_alloc ?_)
 refine Qb (wpAny_layCells _ (λ name kind cells => by cases hkc : kind == NameKind.cell <;> simp [hkc]) _ _ _ _ ?_)
 rw [show ({ s with heap := s.heap.push { cls := .type "dict", data := .dict #[] } } : Shared).heap.objs.size = s.heap.objs.size + 1 from Heap.size_push ..]
 simp only [forIn_nil]
 exact Qb (Qp (Qp h))
end
section
variable {prog : Program} {w : World} {A : Around} {E : Value -> Shared -> Prop} {s : Shared}
theorem Zgw {l : Addr} {items : Array Value} {n : Nat} {x : Value} {Q : Value -> Shared -> Prop} (hl : IsL s.heap l items n)
  (hQ : Q .none { s with heap := s.heap.update l (Obj.mapSeq λ xs => xs.push x) }) (hsz : items.size <= sizeLine) :
  wpAny (model prog w) A (call (.builtin "list.append") [.ref l, x]) Q E s := by
 have hT : s.TypeIs (.ref l) "list" := ⟨_, hl, rfl⟩
 refine wpAny_call_entry slot_list_append hT entry_list_append ?_ (args_list_append _ _)
 show wpAny _ _ (updateSeq l (·.push x) >>= λ _ => ret .none) _ _ s
 refine Qb ?_
 exact wpAny_updateSeq hl rfl (Qp ⟨.none, rfl, hQ⟩)
theorem Zed {e : Expr} {d : Nat} {it : Addr} {acc : Value} {env : Env} {R : Result -> Shared -> Prop} {t i : Expr} {ifs : List Expr} (hcl : (clausesOf e)[d]? = some ⟨t, i, ifs, 0⟩)
  (hq : (Code.compLoop e d (.ref it) acc env).quiet = true) (hden : (model prog w).den (.compStart e d (.ref it) acc env) = (compStart e d (.ref it) acc env).onRaise (λ x => do noteFrame x env; standAt theWindowsPlace))
  (hunder : A.under (.compStart e d (.ref it) acc env) = A)
  (hit : ∀ (Q : Value -> Shared -> Prop) (E : Value -> Shared -> Prop), Q (.ref it) s -> wpAny (model prog w) A (pyIter (.ref it)) Q E s)
  (h : codeAny (model prog w) A (.compLoop e d (.ref it) acc env) R s) : codeAny (model prog w) A (.compStart e d (.ref it) acc env) R s := by
 refine codeAny_of_tree ?_
 rw [hunder, hden]
 refine wpAny_notedAt ?_
 unfold compStart
 rw [hcl]
 show wpAny _ _ (ask >>= _) _ _ s
 refine Qb (wpAny_askSetting (wpAny_ite ?_))
 split
 ·first
   | exact Qb (Qp (Qp (And.intro hq h)))
   | exact Qp (And.intro hq h)
 ·first
   | exact Qb (wpAny_rule (Qb (wpAny_standAt (Qb (hit _ _ (Qp (And.intro hq h)))))))
   | (refine Qb (wpAny_rule ?_); show wpAny _ _ (standAt i.pos >>= _) _ _ s; exact Qb (wpAny_standAt (Qb (hit _ _ (Qp (And.intro hq h))))))
end
def LoopSim (c : Cx) (G : Fx) (e : Expr) (d : Nat) (acc : Addr) (i : Nat) (tf : PV -> PM Unit) : Prop :=
 ∀ (it : Addr) (ob : Nat -> Obj -> Prop) (v : Value) (pv : PV) (get : Nat -> St -> Option (Option PV)), ItP c G it ob v pv get -> SelfIter c it ob ->
  ∀ (A : Around) (φ0 φ : List Addr) (h₀ : Heap) (μ μF : St) (s : Shared) (Rr : Result -> Shared -> Prop), ACtx G A -> ∀ (n k : Nat), Rep c G φ μ s -> Ext G.nss G.cls φ0 h₀ φ s.heap ->
  (∃ o, s.heap.get? it = some o ∧ ob k o) -> h₀.objs.size <= it -> it ∉ φ -> c.B.get? it = none -> VR φ s.heap v pv -> VR φ s.heap (.ref acc) (.obj i) -> compIx get tf n k μ = .ok () μF ->
  (∀ φ' s', Rep c G φ' μF s' -> Ext G.nss G.cls φ0 h₀ φ' s'.heap -> VR φ' s'.heap (.ref acc) (.obj i) -> Rr (.ok .next) s') -> codeAny (model c.prog c.w) A (.compLoop e d (.ref it) (.ref acc) G.env) Rr s
noncomputable def emitM (f : PM PV) (i : Nat) : PM Unit := f >>= λ y => pAppend (.obj i) y >>= λ _ => pure ()
noncomputable def tfA (asg : PV -> PM Unit) (f : PM PV) (i : Nat) (x : PV) : PM Unit := asg x >>= λ _ => emitM f i
noncomputable def whenM (b : Bool) (f : PM Unit) : PM Unit := match b with
 | true => f
 | false => pure ()
noncomputable def tfB (asg : PV -> PM Unit) (t : PM Bool) (f : PM PV) (i : Nat) (x : PV) : PM Unit := asg x >>= λ _ => t >>= λ b => whenM b (emitM f i)
section
variable {c : Cx} {G : Fx}
theorem Zfu {elt : Expr} {f : PM PV} {acc : Addr} {i : Nat} (hf : SimE c G elt f) : Sim c G (λ φ h => VR φ h (.ref acc) (.obj i)) (λ _ _ _ _ => True) (do let _ <- call (.builtin "list.append") [.ref acc, <- eval elt G.env]) (emitM f i) := by
 intro A φ μ s Q E hA R p hb hQ hE
 unfold emitM at hb hQ hE
 refine Qb ((hf.keep (v := .ref acc) (x := .obj i)).use hA R p hb hE λ v y φ1 μ1 s1 eg RB xB rB => ?_)
 rw [eg] at hb hQ hE
 unfold pAppend at hb hQ
 have hne : theLst (.obj i) μ1 ≠ .bad := λ e => hb (by rw [PM.B, PM.B, e])
 obtain ⟨j, xs, et⟩ := Zbc hne
 obtain ⟨a, vs, n, ea, hi, hl, hvs, ej⟩ := Zdf RB rB.1 et
 cases ea
 cases ej
 have e1 : ∀ (K : PV -> PM Unit), ((theLst (.obj i) >>= λ p => chk (lenOk p.2) >>= λ _ => putM p.1 (.lst (p.2 ++ [y])) >>= λ _ => pure PV.none) >>= K) μ1 = (chk (lenOk xs) >>= λ _ => putM i (.lst (xs ++ [y])) >>= λ _ => K .none) μ1 := λ K => by
  rw [PM.B, PM.C et]
  cases lenOk xs <;> rfl
 rw [e1] at hb hQ
 obtain ⟨hln, e2⟩ := Zs hb
 rw [e2] at hQ
 obtain ⟨R3, xD⟩ := RB.relist (tk := s1.toks) hi hl (g := λ xs => xs.push v) (ws := vs ++ [v]) (by simp) (hvs.append (.cons rB.2 .nil))
 refine Qb (Zgw hl (Qp ?_) (by rw [size_toArray, hvs.length]; exact Zaf hln))
 exact hQ _ _ _ _ _ rfl R3 (xB.trans xD) trivial
theorem Zb3 {elt target iter : Expr} {scope : Scope} {pos : Pos} {asg : PV -> PM Unit} {f : PM PV} {acc : Addr} {i : Nat} (hasg : SimT c G (assign target G.env) asg) (hf : SimE c G elt f) :
  LoopSim c G (.ListComp elt [⟨target, iter, [], 0⟩] scope pos) 0 acc i (tfA asg f i) := λ it ob v pv get hI hS A φ0 φ h₀ μ μF s Rr hA n k R xA hit hnew hn hB hv hacc hok hQ => by
 refine Zbi (p := iter.pos) (target := target) (P := λ φ h => VR φ h (.ref acc) (.obj i)) (compTurn_list1 ..) rfl rfl (λ A => ?_) hI hS
  (λ _ _ _ _ _ R e r => r.ext R e) (λ _ _ _ _ _ mv r => mv _ _ r) (λ w x => ?_) hA n k R xA hit hnew hn hB hv hacc hok hQ
 ·exact Around.under_of_weight rfl
 ·intro A φ μ s Q E hA R p hb hQ hE
  unfold tfA at hb hQ hE
  refine Qb ((hasg w x).use hA R p.1 hb hE λ _ _ φ1 μ1 s1 eg RB xB _ => ?_)
  rw [eg] at hb hQ hE
  exact Qb ((Zfu hf).fin hA RB (p.2.ext R xB) rfl xB hb (λ a b φ' μ' s' e R' x' _ => Qp (hQ _ b φ' μ' s' e R' x' rfl)) hE)
theorem Zi2 {elt target iter t : Expr} {scope : Scope} {pos : Pos} {asg : PV -> PM Unit} {f : PM PV} {tm : PM Bool} {acc : Addr} {i : Nat} (hasg : SimT c G (assign target G.env) asg) (ht : SimB c G t tm) (hf : SimE c G elt f) :
  LoopSim c G (.ListComp elt [⟨target, iter, [t], 0⟩] scope pos) 0 acc i (tfB asg tm f i) := λ it ob v pv get hI hS A φ0 φ h₀ μ μF s Rr hA n k R xA hit hnew hn hB hv hacc hok hQ => by
 refine Zbi (p := iter.pos) (target := target) (T := λ v => (do
    assign target G.env v
    let mut ok := true
    for c in [t] do
     if ok then ok <- isTrue c G.env (eval c G.env)
    if ok then
     (do let _ <- call (.builtin "list.append") [.ref acc, <- eval elt G.env])
    again (.compLoop (.ListComp elt [⟨target, iter, [t], 0⟩] scope pos) 0 (.ref it) (.ref acc) G.env))) (P := λ φ h => VR φ h (.ref acc) (.obj i)) (by rw [compTurn_list]; rfl) rfl rfl (λ A => ?_) hI hS
  (λ _ _ _ _ _ R e r => r.ext R e) (λ _ _ _ _ _ mv r => mv _ _ r) (λ w x => ?_) hA n k R xA hit hnew hn hB hv hacc hok hQ
 ·exact Around.under_of_weight rfl
 ·intro A φ μ s Q E hA R p hb hQ hE
  unfold tfB at hb hQ hE
  refine Qb ((hasg w x).use hA R p.1 hb hE λ _ _ φ1 μ1 s1 eg RB xB _ => ?_)
  rw [eg] at hb hQ hE
  refine Qb (wpAny_tests_one (ht.use hA RB trivial hb (λ e y φ' μ' s' he R' x' r => hE e y φ' μ' s' he R' (xB.trans x') (r.le xB.dom)) λ a b φ2 μ2 s2 eg RC xC rC => ?_))
  subst rC
  rw [eg] at hb hQ hE
  cases a with
  | true => exact Qb ((Zfu hf).fin hA RC ((p.2.ext R xB).ext RB xC) rfl (xB.trans xC) hb (λ a b φ' μ' s' e R' x' _ => Qp (hQ _ b φ' μ' s' e R' x' rfl)) hE)
  | false => exact Qp (hQ _ _ _ _ _ rfl RC (xB.trans xC) rfl)
end

noncomputable def compRun (n m : Nat) (pv : PV) (tf : Nat -> PV -> PM Unit) : PM PV := λ μ => match compIx (getIt pv μ) (tf μ.hp.length) n 0 (pushU ⟨μ.fr, μ.hp ++ [.lst []]⟩ m) with
 | .ok _ μ' => .ok (.obj μ.hp.length) ⟨μ'.fr.take μ.fr.length, μ'.hp⟩
 | _ => .bad
noncomputable def compM (n m : Nat) (f : PM PV) (tf : Nat -> PV -> PM Unit) : PM PV := f >>= λ pv => compRun n m pv tf
section
variable {c : Cx} {F : Fx}
theorem Ext.later {φ0 φ : List Addr} {s : Shared} {h₀ h' : Heap} {nss cls : List Addr} {a : Addr} (xA : Ext nss cls φ0 h₀ φ s.heap) (hs : Heap.SameBut a s.heap h') (hn : h₀.objs.size <= a) : Ext nss cls φ0 h₀ φ h' := by
 refine xA.after (Nat.le_of_eq hs.1.symm) (λ b o ho => ?_) λ b hd ⟨o, ho⟩ => ?_
 ·by_cases e : b = a
  ·exact .inr (.inr λ ⟨oq, hq⟩ => absurd (Heap.lt_size hq) (Nat.not_lt_of_le (e ▸ hn)))
  ·exact .inl ((hs.2 b e).trans ho)
 ·by_cases e : b = a
  ·obtain ⟨oq, hq⟩ := hd
   exact absurd (Heap.lt_size hq) (Nat.not_lt_of_le (e ▸ hn))
  ·exact ⟨o, (hs.2 b e).trans ho⟩
theorem Ext.wider {φ0 φ : List Addr} {h₀ h' : Heap} {nss cls nss' cls' : List Addr} (x : Ext nss cls φ0 h₀ φ h') (h1 : ∀ a ∈ nss, a ∈ nss') (h2 : ∀ a ∈ cls, a ∈ cls') : Ext nss' cls' φ0 h₀ φ h' :=
 ⟨⟨x.grow, x.size, λ a o ho q1 q2 q3 => x.old a o ho q1 (λ q => q2 (h1 a q)) λ q => q3 (h2 a q)⟩, x.dom⟩
theorem Ext.narrow {φ0 φ : List Addr} {h₀ h' : Heap} {scope : Scope} {Lc : Addr} {clo : List (Str × Addr)} (x : Ext (compFx F scope Lc clo).nss (compFx F scope Lc clo).cls φ0 h₀ φ h') (hL : h₀.objs.size <= Lc) : Ext F.nss F.cls φ0 h₀ φ h' := by
 refine ⟨⟨x.grow, x.size, λ a o ho q1 q2 q3 => x.old a o ho q1 (λ hm => ?_) λ hm => ?_⟩, x.dom⟩
 ·have hlt := Heap.lt_size ho
  rcases Qmc (show a ∈ Lc :: F.nss from hm) with e | hm
  ·rw [e] at hlt; exact absurd hlt (Nat.not_lt_of_le hL)
  ·exact q2 hm
 ·have hlt := Heap.lt_size ho
  rcases Qma (show a ∈ F.cls ++ (newCells Lc scope).map (·.2) from hm) with hm | hm
  ·exact q3 hm
  ·obtain ⟨p, hp, rfl⟩ := Qmm hm
   have := Zbz scope.names (Lc + 1) [] (Lc + 1) Qr (by simp) p hp
   exact absurd hlt (Nat.not_lt_of_le (Nat.le_trans hL (Nat.le_trans (Nat.le_succ _) this)))
theorem Rep.leaveB {φ φ' : List Addr} {μ μ' : St} {s s' : Shared} {scope : Scope} {Lc : Addr} {clo : List (Str × Addr)} (R : Rep c F φ μ s) (R' : Rep c (compFx F scope Lc clo) φ' μ' s') : Rep c F φ' ⟨μ'.fr.take μ.fr.length, μ'.hp⟩ s' := by
 have hfl : (μ'.fr.take μ.fr.length).length = F.locs.length := by
  have h := R'.flen
  have : (F.locs ++ locsOf Lc (newCells Lc scope) scope.names).length = μ'.fr.length := h.symm
  rw [length_append] at this
  rw [length_take, R.flen]; lia
 refine ⟨R'.ok, R'.keep, R'.os, R'.gens, R'.len, R'.nodup, R'.phiB, R'.objs, hfl, R.lnodup, λ L hL => R'.nss L (mem_cons_of_mem _ hL), λ a ha => R'.cls a (mem_append_left _ ha), λ k L x hk => ?_, λ k a hk => ?_, R'.frm⟩
 ·refine ⟨(R.vloc k L x hk).1, λ pv hp hu => ?_⟩
  have hlt := (Qgl hk)
  have hp : (μ'.fr.take μ.fr.length)[k]? = some pv := hp
  rw [List.getElem?_take_of_lt (by rw [R.flen]; exact hlt)] at hp
  exact (R'.vloc k L x (by show (F.locs ++ _)[k]? = _; rw [List.getElem?_append_left hlt]; exact hk)).2 pv hp hu
 ·refine ⟨(R.vcell k a hk).1, λ pv hp hu => ?_⟩
  have hlt := (Qgl hk)
  have hp : (μ'.fr.take μ.fr.length)[k]? = some pv := hp
  rw [List.getElem?_take_of_lt (by rw [R.flen]; exact hlt)] at hp
  exact (R'.vcell k a (by show (F.locs ++ _)[k]? = _; rw [List.getElem?_append_left hlt]; exact hk)).2 pv hp hu
theorem Zlb {pv : PV} {μ : St} {fr : List PV} {l : List MO} (h : getIt pv μ 0 ⟨fr, μ.hp ++ l⟩ ≠ none) : getIt pv μ 0 μ ≠ none := by
 cases pv with
 | vals i =>
  unfold getIt at h ⊢
  dsimp only at h ⊢
  cases hi : μ.hp[i]? with
  | none => rw [hi] at h; exact (h rfl).elim
  | some o => rw [getElem?_app hi, hi] at h; exact h
 | obj i =>
  unfold getIt getOf at h ⊢
  dsimp only at h ⊢
  cases hi : μ.hp[i]? with
  | none => rw [hi] at h; exact (h rfl).elim
  | some o => rw [getElem?_app hi, hi] at h; exact h
 | _ => exact h
noncomputable def compVars (scope : Scope) : List (Str × NameKind) := scope.names.filter λ (n, k) => (k == .local || k == .cell) && n != (".0" : Str)
noncomputable def compTail (use : Option (Value -> Sem Unit)) (cenv : Env) (cellsOf : List (Str × NameKind) -> List Value) (vars : List (Str × NameKind)) (acc : Value) : Sem Value := match use with
 | none => (do holding [acc] (comprehension.letGo cenv cellsOf vars.reverse); pure acc)
 | some u => (do
  rule "comprehension.stores-exchanged"
  holding (cellsOf vars) (u acc)
  comprehension.letGo cenv cellsOf (vars.reverse.drop 1 ++ vars.reverse.take 1)
  pure .none)
theorem Zhk {elt target iter : Expr} {ifs : List Expr} {rest : List Comprehension} {scope : Scope} {cpos pos : Pos} {first : Sem Value} {use : Option (Value -> Sem Unit)} {clo : List (Str × Addr)} {n : Nat} {f : PM PV} {tf : Nat -> PV -> PM Unit}
  (hh : F.hd = true) (hfirst : Sim c F NoP (λ φ h v x => VR φ h v x) first f) (hclo : closureFor scope F.env = pure clo) (hn : (scope.names.map (·.1)).Nodup) (hfold : ∀ x, foldedSetIterable iter F.env x = pure x)
  (hloop : ∀ Lc acc i, LoopSim c (compFx F scope Lc clo) (.ListComp elt (⟨target, iter, ifs, 0⟩ :: rest) scope cpos) 0 acc i (tf i))
  {A : Around} {φ : List Addr} {μ : St} {s : Shared} {Q : Value -> Shared -> Prop} {E : Value -> Shared -> Prop} (hA : ACtx F A) (R : Rep c F φ μ s) {O : Out PV} (hO : compM n (ownNames scope.names).length f tf μ = O) (hb : O ≠ .bad)
  (hE : ∀ e x φ' μ' s', O = .exc x μ' -> Rep c F φ' μ' s' -> Ext F.nss F.cls φ s.heap φ' s'.heap -> ExcR c (dom s.heap) φ' s'.heap e x -> E e s')
  (K : ∀ (acc : Value) (i : Nat) (φ' : List Addr) (μ' : St) (s' : Shared) (Lc : Addr) (cellsOf : List (Str × NameKind) -> List Value), O = .ok (.obj i) μ' -> Rep c F φ' μ' s' -> Ext F.nss F.cls φ s.heap φ' s'.heap -> VR φ' s'.heap acc (.obj i) ->
   s.heap.objs.size <= Lc -> Lc ∉ φ' -> c.B.get? Lc = none -> Lc ∉ F.stk -> (∃ m, s'.heap.Ns Lc m) ->
   wpAny (model c.prog c.w) A (compTail use (cEnv F.env scope Lc clo) cellsOf (compVars scope) acc) Q E s') :
  wpAny (model c.prog c.w) A (comprehension (.ListComp elt (⟨target, iter, ifs, 0⟩ :: rest) scope cpos) scope F.env pos (newList []) false first use) Q E s := by
 unfold compM at hO
 unfold comprehension
 rw [hclo]
 refine Qb (hfirst.use hA R trivial (by rw [hO]; exact hb) (λ e x φ' μ' s' h => hE e x φ' μ' s' (hO.symm.trans h)) λ x pv φ1 μ1 s1 eg RB xB rB => ?_)
 rw [eg] at hO
 unfold compRun at hO
 refine Qb (wpAny_standAt (Qb (wpAny_of_eq (hfold x) (Qb (wpAny_holding ?_)))))
 cases hrun : compIx (getIt pv μ1) (tf μ1.hp.length) n 0 (pushU ⟨μ1.fr, μ1.hp ++ [.lst []]⟩ (ownNames scope.names).length) with
 | bad => rw [hrun] at hO; exact (hb hO.symm).elim
 | exc y μ' => rw [hrun] at hO; exact (hb hO.symm).elim
 | ok u μF =>
  rw [hrun] at hO
  dsimp only at hO
  have hne : getIt pv μ1 0 μ1 ≠ none := by
   refine Zlb (fr := (pushU ⟨μ1.fr, μ1.hp ++ [.lst []]⟩ (ownNames scope.names).length).fr) (l := [.lst []]) λ e => ?_
   cases n with
   | zero => cases hrun
   | succ n =>
    rw [Zbn] at hrun
    have e : getIt pv μ1 0 (pushU ⟨μ1.fr, μ1.hp ++ [.lst []]⟩ (ownNames scope.names).length) = none := e
    dsimp only at hrun
    rw [e] at hrun
    cases hrun
  refine Zdm RB rB hne λ o ob get v' pv' hf hv' hI h0 hge hS => ?_
  rw [Zcq hge] at hrun
  refine wpAny_standIf ?_
  obtain ⟨RC, xC⟩ := RB.push o (tk := s1.toks)
  have hit2 : (s1.heap.push o).get? s1.heap.objs.size = some o := Heap.get?_push_size _ hf
  refine Qb ?_
  unfold newList
  refine wpAny_newObj_type ?_ (by show (#[] : Array Value).size <= sizeLine; decide)
  obtain ⟨R3, xD⟩ := RC.alloc (ob := { cls := .type "list", data := .seq #[] }) (o := .lst []) (tk := s1.toks) rfl λ hg hi hm => .lst (vs := []) hg .nil
  refine Qb (Qp (Qb (newEnvC ?_)))
  obtain ⟨R4, x4, RG⟩ := R3.enterC hn clo _ rfl
  have x14 : Ext F.nss F.cls φ1 s1.heap (φ1 ++ [(s1.heap.push o).objs.size]) _ := xC.trans (xD.trans x4)
  have hitφ : s1.heap.objs.size ∉ φ1 := λ hm => absurd (RB.phiLt hm) (Nat.lt_irrefl _)
  have hit3 : ((s1.heap.push o).push { cls := .type "list", data := .seq #[] }).get? s1.heap.objs.size = some o := Heap.get?_push_of_some _ hit2
  have hit4 := pushCells_keeps scope.names _ _ _ (Heap.get?_push_of_some { cls := .type "dict", data := .dict #[] } hit3)
  have hLc : s1.heap.objs.size <= ((s1.heap.push o).push { cls := .type "list", data := .seq #[] }).objs.size := Nat.le_trans xC.size xD.size
  have hacc : VR (φ1 ++ [(s1.heap.push o).objs.size]) (pushCells (((s1.heap.push o).push { cls := .type "list", data := .seq #[] }).push { cls := .type "dict", data := .dict #[] }) scope.names) (.ref (s1.heap.push o).objs.size) (.obj μ1.hp.length) := .obj (by rw [<- RC.len]; simp)
  refine wpAny_holding (Qb (wpAny_attempt (wpAny_holding (wpAny_run ?_))))
  refine Zed (t := target) (i := iter) (ifs := ifs) rfl rfl rfl (Around.under_of_weight rfl) (λ Q E h => hS.self 0 A _ Q E ⟨o, hit4, h0⟩ h) ?_
  refine hloop ((s1.heap.push o).push { cls := .type "list", data := .seq #[] }).objs.size (s1.heap.push o).objs.size μ1.hp.length s1.heap.objs.size ob v' pv' get (hI _ hh) hS A φ1 (φ1 ++ [(s1.heap.push o).objs.size]) s1.heap _ μF _ _ ⟨hA.handled, hA.frames, hA.guards, hA.depth, hA.units⟩ n 0 RG
   (x14.wider (λ a h => mem_cons_of_mem _ h) λ a h => mem_append_left _ h) ⟨o, hit4, h0⟩ Qr ?_ ?_ ((hv'.ext RB xC).ext RC xD |>.ext R3 x4) hacc hrun λ φ' s' R' x' hacc' => ?_
  ·exact (xD.trans x4).nin hit2 hitφ
  ·exact (RB.above Qr).2
  ·have xF := x'.narrow hLc
   have RF := R3.leaveB R'
   obtain ⟨q1, q2, q3⟩ := R'.nss ((s1.heap.push o).push { cls := .type "list", data := .seq #[] }).objs.size mem_cons_self
   have hstk : ((s1.heap.push o).push { cls := .type "list", data := .seq #[] }).objs.size ∉ F.stk := λ hm => ?_
   ·have z := K (.ref (s1.heap.push o).objs.size) μ1.hp.length φ' ⟨μF.fr.take μ1.fr.length, μF.hp⟩ s' ((s1.heap.push o).push { cls := .type "list", data := .seq #[] }).objs.size
    cases use with
    | none => exact z _ hO.symm RF (xB.trans xF) hacc' (Nat.le_trans xB.size hLc) q1 q2 hstk q3
    | some u => exact z _ hO.symm RF (xB.trans xF) hacc' (Nat.le_trans xB.size hLc) q1 q2 hstk q3
   ·obtain ⟨_, _, ob', es, ep, hob, _⟩ := R3.stkAt hm
    exact absurd (Heap.lt_size hob) (Nat.lt_irrefl _)
end

section
variable {c : Cx} {F : Fx}
theorem Rep.fresh {φ : List Addr} {μ : St} {s : Shared} (R : Rep c F φ μ s) {a : Addr} (h : s.heap.objs.size <= a) : a ∉ F.nss ∧ a ∉ F.cls := by
 refine ⟨λ hm => ?_, λ hm => ?_⟩
 ·obtain ⟨_, _, m, hn⟩ := R.nss a hm
  exact absurd hn.lt (Nat.not_lt_of_le h)
 ·obtain ⟨_, _, v, o, ho, _⟩ := R.cls a hm
  exact absurd (Heap.lt_size ho) (Nat.not_lt_of_le h)
theorem Zcr {scope : Scope} {x : Str × NameKind} (h : x ∈ compVars scope) : x ∈ scope.names := (mem_filter.mp h).1
theorem Zfd {φ0 φ : List Addr} {μ0 μ : St} {s0 s : Shared} {scope : Scope} {Lc : Addr} {clo : List (Str × Addr)} {cellsOf : List (Str × NameKind) -> List Value} {A : Around} {Q : Unit -> Shared -> Prop} {E : Value -> Shared -> Prop}
  (R0 : Rep c F φ0 μ0 s0) (R : Rep c F φ μ s) (xA : Ext F.nss F.cls φ0 s0.heap φ s.heap) (hL : s0.heap.objs.size <= Lc) (hφ : Lc ∉ φ) (hB : c.B.get? Lc = none) (hstk : Lc ∉ F.stk) (hns : ∃ m, s.heap.Ns Lc m)
  (hkind : scope.kind = .function) (hn : (scope.names.map (·.1)).Nodup) (vs : List (Str × NameKind)) (hvs : ∀ x ∈ vs, x ∈ scope.names)
  (hQ : ∀ h', Rep c F φ μ { s with heap := h' } -> Ext F.nss F.cls φ0 s0.heap φ h' -> (∀ w x, VR φ s.heap w x -> VR φ h' w x) -> Q () { s with heap := h' }) :
  wpAny (model c.prog c.w) A (comprehension.letGo (cEnv F.env scope Lc clo) cellsOf vs) Q E s := by
 obtain ⟨m, hm⟩ := hns
 refine wpAny_comp_letGo (cenv := cEnv F.env scope Lc clo) hkind vs s m (λ x hx hk => ?_) hm λ h' m' hn' hs => ?_
 ·have : (x.1, NameKind.local) ∈ scope.names := hk ▸ hvs x hx
  exact Zec hn this
 ·have hs : Heap.SameBut Lc s.heap h' := hs
  obtain ⟨f1, f2⟩ := R0.fresh hL
  have hz : ∀ o, s.heap.get? Lc = some o -> ¬ FzO o := λ o ho hz => by
   obtain ⟨o', es, ep, h1, h2, _⟩ := hm
   have h1 : s.heap.get? Lc = some o' := h1
   rw [ho] at h1; cases h1
   exact hz.notFrame ⟨_, _, h2⟩
  refine hQ h' (R.spare hs hφ f1 f2 hstk hB hz) (xA.later hs hL) λ w x r => ?_
  exact r.move (λ _ _ e => e) (λ _ _ _ h => h) λ b o ho _ hzo => (hs.2 b λ e => hz o (e ▸ ho) hzo).trans ho
theorem Zi3 {elt target iter : Expr} {ifs : List Expr} {rest : List Comprehension} {scope : Scope} {pos : Pos} {clo : List (Str × Addr)} {n : Nat} {f : PM PV} {tf : Nat -> PV -> PM Unit}
  (hh : F.hd = true) (hfirst : SimE c F iter f) (hclo : closureFor scope F.env = pure clo) (hkind : scope.kind = .function) (hn : (scope.names.map (·.1)).Nodup) (hfold : ∀ x, foldedSetIterable iter F.env x = pure x)
  (hloop : ∀ Lc acc i, LoopSim c (compFx F scope Lc clo) (.ListComp elt (⟨target, iter, ifs, 0⟩ :: rest) scope pos) 0 acc i (tf i)) :
  SimE c F (.ListComp elt (⟨target, iter, ifs, 0⟩ :: rest) scope pos) (compM n (ownNames scope.names).length f tf) := λ A φ μ s Q E hA R p hb hQ hE => by
 rw [eval_ListComp]
 refine Zhk hh hfirst hclo hn hfold hloop hA R rfl hb hE λ acc i φ' μ' s' Lc cellsOf eg R' x' hacc hL hφ hB hstk hns => ?_
 refine Qb (wpAny_holding (Zfd R R' x' hL hφ hB hstk hns hkind hn _ (λ x hx => Zcr (mem_reverse.mp hx)) λ h' RC xC mv => ?_))
 exact Qp (hQ _ _ _ _ _ eg RC xC (mv _ _ hacc))
end

section
variable {c : Cx} {F : Fx}
theorem Zgx {t elt target iter : Expr} {ifs : List Expr} {rest : List Comprehension} {scope : Scope} {cpos pos : Pos} {clo : List (Str × Addr)} {n : Nat} {f : PM PV} {tf : Nat -> PV -> PM Unit} {a : PV -> PM Unit}
  (hh : F.hd = true) (hfirst : SimE c F iter f) (hclo : closureFor scope F.env = pure clo) (hkind : scope.kind = .function) (hn : (scope.names.map (·.1)).Nodup) (hfold : ∀ x, foldedSetIterable iter F.env x = pure x)
  (hloop : ∀ Lc acc i, LoopSim c (compFx F scope Lc clo) (.ListComp elt (⟨target, iter, ifs, 0⟩ :: rest) scope cpos) 0 acc i (tf i))
  (ht : SimT c F (assign t F.env) a) (hs : swapsWithSole [t] (.ListComp elt (⟨target, iter, ifs, 0⟩ :: rest) scope cpos) pos.line F.env = pure true) (he : (assignEach [t] F.env).map (·.2) = [assign t F.env]) :
  SimS c F (.Assign [t] (.ListComp elt (⟨target, iter, ifs, 0⟩ :: rest) scope cpos) pos) (sAsg (compM n (ownNames scope.names).length f tf) a) := λ A φ μ s Q E hA R p hb hQ hE => by
 rw [exec_Assign_arm, hs, he]
 refine Qb (wpAny_standAt (Qb (Qp ?_)))
 rw [if_pos rfl]
 show wpAny _ _ (evalThenUse (.ListComp elt (⟨target, iter, ifs, 0⟩ :: rest) scope cpos) F.env (λ v => assignAll v [assign t F.env]) >>= λ _ => pure Flow.next) _ _ _
 refine Qb ?_
 unfold sAsg at hb hQ hE
 have hb₁ : compM n (ownNames scope.names).length f tf μ ≠ .bad := λ e => hb (by rw [PM.B, e])
 show wpAny _ _ (comprehension (.ListComp elt (⟨target, iter, ifs, 0⟩ :: rest) scope cpos) scope F.env (firstIterPos (⟨target, iter, ifs, 0⟩ :: rest) cpos) (newList []) false (eval iter F.env) (some (λ v => assignAll v [assign t F.env])) >>= λ _ => pure ()) _ _ _
 refine Qb (Zhk hh hfirst hclo hn hfold hloop hA R rfl hb₁ (λ e x φ' μ' s' eg R' x' r => hE e x φ' μ' s' (by rw [PM.B, eg]) R' x' r) λ acc i φ' μ' s' Lc cellsOf eg R' x' hacc hL hφ hB hstk hns => ?_)
 rw [PM.B, eg] at hb hQ hE
 dsimp only at hb hQ hE
 show wpAny _ _ (rule "comprehension.stores-exchanged" >>= λ _ => holding (cellsOf (compVars scope)) (assign t F.env acc) >>= λ _ => comprehension.letGo (cEnv F.env scope Lc clo) cellsOf ((compVars scope).reverse.drop 1 ++ (compVars scope).reverse.take 1) >>= λ _ => pure Value.none) _ _ _
 have hLN : Lc ∉ F.nss := (R.fresh hL).1
 obtain ⟨o, ho, es, hd⟩ : ∃ o, s'.heap.get? Lc = some o ∧ ∃ es ep, o.data = .dict es ep := by
  obtain ⟨m, o', es, ep, h1, h2, _⟩ := hns
  exact ⟨o', h1, es, ep, h2⟩
 refine Qb (wpAny_rule (Qb (wpAny_holding ((ht acc (.obj i)).use hA R' hacc hb (λ e y φ' μ' s' he R' x'' r => hE e y φ' μ' s' he R' (x'.trans x'') (r.le x'.dom)) λ vC y2 φ2 μ2 s2 eg2 RC xC rC => ?_))))
 rw [eg2] at hQ
 have hnew : Lc ∉ φ2 := xC.nin ho hφ
 have hns2 : ∃ m, s2.heap.Ns Lc m := by
  obtain ⟨m, o', es', ep', h1, h2, h3, h4⟩ := hns
  rcases xC.old Lc o' h1 hφ hLN (R.fresh hL).2 with q | ⟨_, sl, q⟩
  ·exact ⟨m, o', es', ep', q, h2, h3, h4⟩
  ·exact ⟨m, _, es', ep', q, h2, h3, h4⟩
 refine Qb (Zfd R RC (x'.trans xC) hL hnew hB hstk hns2 hkind hn _ (λ x hx => ?_) λ h' R3 xD mv => ?_)
 ·rcases Qma hx with hx | hx
  ·exact Zcr (mem_reverse.mp (List.mem_of_mem_drop hx))
  ·exact Zcr (mem_reverse.mp (List.mem_of_mem_take hx))
 ·exact Qp (Qp (Qp (hQ _ _ _ _ _ rfl R3 xD .next)))
end

noncomputable def oneM (f : PV -> PM PV) : List PV -> PM PV
 | [x] => f x
 | _ => PM.H
noncomputable def noneM (f : PM PV) : List PV -> PM PV
 | [] => f
 | _ => PM.H
noncomputable abbrev SimCall (c : Cx) (F : Fx) (f : Value) (g : List PV -> PM PV) : Prop := ∀ vs ys, Sim c F (λ φ h => VRs φ h vs ys) (λ φ h v x => VR φ h v x) (call f vs) (g ys)
section
variable {c : Cx} {F : Fx}
theorem Zav {f : Value} {g : PV -> PM PV} (h : ∀ v x, Sim c F (λ φ h => VR φ h v x) (λ φ h v x => VR φ h v x) (call f [v]) (g x)) : SimCall c F f (oneM g) := λ vs ys A φ μ s Q E hA R p hb hQ hE => by
 induction p using VRs.cs with
 | nil => exact (hb rfl).elim
 | cons q r => induction r using VRs.cs with
  | nil => exact h _ _ A φ μ s Q E hA R q hb hQ hE
  | cons _ _ => exact (hb rfl).elim
theorem Zi4 {f : Value} {g : PM PV} (h : Sim c F NoP (λ φ h v x => VR φ h v x) (call f []) g) : SimCall c F f (noneM g) := λ vs ys A φ μ s Q E hA R p hb hQ hE => by
 induction p using VRs.cs with
 | nil => exact h A φ μ s Q E hA R trivial hb hQ hE
 | cons q r => exact (hb rfl).elim
theorem Zhl {φ : List Addr} {μ : St} {s : Shared} (R : Rep c F φ μ s) {v : Value} {x : PV} (r : VR φ s.heap v x) (h : pItems x μ ≠ .bad) :
  ∃ a T vs n xs, v = .ref a ∧ (T = "list" ∨ T = "tuple") ∧ s.heap.get? a = some { cls := .type T, data := .seq vs.toArray n } ∧ VRs φ s.heap vs xs ∧ (T = "tuple" -> VR φ s.heap v (.tup xs)) ∧ pItems x μ = .ok xs μ := by
 induction r using VR.cs with
 | tup h1 h4 h5 => exact ⟨_, _, _, _, _, rfl, .inr rfl, h1, h5, λ _ => .tup h1 h4 h5, rfl⟩
 | lst h1 h4 h5 => exact ⟨_, _, _, _, _, rfl, .inl rfl, h1, h5, (λ e => nomatch (show "list" ≠ "tuple" by decide) e), rfl⟩
 | @obj i a h1 =>
  cases hi : μ.hp[i]? with
  | none => exact (h (by unfold pItems; simp only [hi])).elim
  | some o =>
   have q := R.objs _ _ o h1 hi
   induction q using OR.cs with
   | lst k1 k2 => exact ⟨_, _, _, _, _, rfl, .inl rfl, k1, k2, (λ e => nomatch (show "list" ≠ "tuple" by decide) e), by unfold pItems; simp only [hi]⟩
   | _ => exact (h (by unfold pItems; simp only [hi])).elim
 | _ => exact (h rfl).elim
noncomputable def pSeqM (k : List PV -> PM PV) (x : PV) : PM PV := pItems x >>= λ xs => chk (lenOk xs) >>= λ _ => k xs
theorem simSeq {f : Value} {k : List PV -> PM PV} (h : ∀ A φ μ s Q E a T vs n xs, ACtx F A -> Rep c F φ μ s -> (T = "list" ∨ T = "tuple") -> s.heap.get? a = some { cls := .type T, data := .seq vs.toArray n } -> VRs φ s.heap vs xs -> (T = "tuple" -> VR φ s.heap (.ref a) (.tup xs)) -> lenOk xs = true -> k xs μ ≠ .bad ->
   (∀ v x φ' μ' s', k xs μ = .ok x μ' -> Rep c F φ' μ' s' -> Ext F.nss F.cls φ s.heap φ' s'.heap -> VR φ' s'.heap v x -> Q v s') ->
   (∀ e x φ' μ' s', k xs μ = .exc x μ' -> Rep c F φ' μ' s' -> Ext F.nss F.cls φ s.heap φ' s'.heap -> ExcR c (dom s.heap) φ' s'.heap e x -> E e s') -> wpAny (model c.prog c.w) A (call f [.ref a]) Q E s) : SimCall c F f (oneM (pSeqM k)) :=
 Zav λ v x A φ μ s Q E hA R p hb hQ hE => by
  unfold pSeqM at hb hQ hE
  obtain ⟨a, T, vs, n, xs, rfl, hT, ho, hvs, htup, e⟩ := Zhl R p (λ e => hb (by rw [PM.B, e]))
  rw [PM.C e] at hb hQ hE
  obtain ⟨hln, e2⟩ := Zs hb
  rw [e2] at hb hQ hE
  exact h A φ μ s Q E a T vs n xs hA R hT ho hvs htup hln hb hQ hE
noncomputable def pLen : List PV -> PM PV := oneM (pSeqM λ xs => pure (.int xs.length))
theorem Zae : SimCall c F (.builtin "len") pLen := simSeq λ A φ μ s Q E a T vs n xs hA R hT ho hvs _ hln hb hQ hE => by
 have e := hvs.length
 have hle := Za1 hln
 have fin : ∀ tk t, Q (.int vs.toArray.size t) { s with toks := tk } := λ tk t => hQ _ _ _ _ _ rfl (R.toks _) Ext.refl (by rw [size_toArray, e]; exact .int _ _)
 rcases hT with rfl | rfl
 ·exact call_len_list ⟨_, ho, rfl, _, rfl⟩ (by simp; lia) (fin _ _)
 ·exact P.len_tuple (n := n) ho (by simp; lia) (fin _ _)
noncomputable def pTuple : List PV -> PM PV := oneM (pSeqM λ xs => pure (.tup xs))
theorem Zoi : SimCall c F (.type "tuple") pTuple := simSeq λ A φ μ s Q E a T vs n xs hA R hT ho hvs hr hln hb hQ hE => by
 have e := hvs.length
 have hle := Za1 hln
 rcases hT with rfl | rfl
 ·refine Z1 (call_tuple_list (items := vs.toArray) ⟨_, ho, rfl, _, rfl⟩ (λ h' keep size => ?_) (by rw [size_toArray, e]; exact Zaf hln))
  obtain ⟨RB, xB⟩ := R.still (tk := s.toks) size (λ b o q => Heap.get?_push_of_some _ (keep b o q))
  refine hQ _ _ _ _ _ rfl RB xB (.tup (n := 0) (Heap.get?_push_size _ rfl) ?_ (hvs.ext R xB))
  intro hm
  obtain ⟨o, ho⟩ := R.lt hm
  exact absurd (Heap.lt_size (keep _ _ ho)) (Nat.lt_irrefl _)
 ·exact call_tuple_same (items := vs.toArray) ⟨_, ho, rfl, _, rfl⟩ (hQ _ _ _ _ _ rfl R Ext.refl (hr rfl))
end

theorem Zdn {prog : Program} {w : World} {A : Around} (hh : A.handled = none) {l it : Addr} {vs : List Value} (hne : l ≠ it) : Walks prog w A it [l, it] [it] vs.length (λ i v => vs[i]? = some v)
  (λ k h => h.IsList l vs.toArray ∧ ∃ o, h.get? it = some o ∧ o.cls = .type "list_iterator" ∧ o.data = .fields #[.ref l, .int k 0]) where
 sub := λ b hb => by simp at hb; simp [hb]
 frame := λ i h h' st hk => by
  obtain ⟨⟨o, ho, r⟩, o', ho', r'⟩ := st
  exact ⟨⟨o, hk l (by simp) o ho, r⟩, o', hk it (by simp) o' ho', r'⟩
 item := λ i s Q E hi st hQ => by
  obtain ⟨hL, o, ho, hc, hd⟩ := st
  refine wpAny_pyNext_list_item (x := vs[i]) ⟨o, ho, hc, hd⟩ hL (by simp) λ h' hit' hs => hQ _ h' s.toks (by simp) ?_ ?_
  ·obtain ⟨o', ho', hc', hd'⟩ := hit'
   obtain ⟨ol, hol, r⟩ := hL
   exact ⟨⟨ol, (hs.2 l hne).trans hol, r⟩, o', ho', hc', by rw [hd']⟩
  ·exact λ b o' hb h => (hs.2 b (by simpa using hb)).trans h
 done := λ s Q E st hQ => by
  obtain ⟨hL, o, ho, hc, hd⟩ := st
  exact wpAny_pyNext_list_end hh ⟨o, ho, hc, hd⟩ hL (by simp) λ h' hs => hQ h' s.toks λ b o' hb h => hs b o' (by simpa using hb) h
 self := λ i s Q E st h => by
  obtain ⟨hL, o, ho, hc, hd⟩ := st
  exact wpAny_pyIter_listiter ⟨o, ho, hc, hd⟩ h
theorem Zfe {is : List Int} : ∀ n, n <= is.length -> preSum (λ i => is.getD i 0) n = (is.take n).sum
 | 0, _ => by simp [preSum]
 | n + 1, h => by
  have this : n < is.length := h
  rw [preSum, Zfe n (Nat.le_of_succ_le h), take_succ_eq_append_getElem this]
  rw [List.sum_append]
  simp [List.getD, this]
theorem Zmy {is : List Int} : preSum (λ i => is.getD i 0) is.length = is.sum := by rw [Zfe _ Qr, take_length]
noncomputable def boolsOf : List PV -> Option (List Bool)
 | [] => some []
 | .bool b :: r => (boolsOf r).map (b :: ·)
 | _ :: _ => none
theorem Zoj {b : Bool} {r : List PV} : boolsOf (.bool b :: r) = (boolsOf r).map (b :: ·) := rfl
theorem Zc9 {x : PV} {xs : List PV} {is : List Int} (e : intsOf (x :: xs) = some is) : ∃ i js, x = .int i ∧ intsOf xs = some js ∧ is = i :: js := by
 cases x with
 | int i => obtain ⟨js, e', rfl⟩ := Option.map_eq_some_iff.mp (show (intsOf _).map _ = some is from e); exact ⟨i, js, rfl, e', rfl⟩
 | _ => exact Zh e
theorem Zc0 {φ : List Addr} {h : Heap} {vs : List Value} {xs : List PV} (r : VRs φ h vs xs) : ∀ {is : List Int}, intsOf xs = some is -> is.length = vs.length ∧ ∀ k v, vs[k]? = some v -> ∃ t, v = Value.int (is.getD k 0) t := by
 induction r using VRs.ind with
 | nil => intro is e; cases e; exact ⟨rfl, λ k v h => nomatch h⟩
 | cons a b ih =>
  intro is e
  obtain ⟨i, js, rfl, e', rfl⟩ := Zc9 e
  obtain ⟨h1, h2⟩ := ih e'
  refine ⟨congrArg Nat.succ h1, λ k v h => match k, h with
   | 0, h => ?_
   | k + 1, h => h2 k v h⟩
  cases h
  exact a.int_inv rfl
theorem Zi5 {x : PV} {xs : List PV} {is : List Bool} (e : boolsOf (x :: xs) = some is) : ∃ i js, x = .bool i ∧ boolsOf xs = some js ∧ is = i :: js := by
 cases x with
 | bool i => obtain ⟨js, e', rfl⟩ := Option.map_eq_some_iff.mp (show (boolsOf _).map _ = some is from e); exact ⟨i, js, rfl, e', rfl⟩
 | _ => exact Zh e
theorem VR.bool_inv {φ : List Addr} {h : Heap} {v : Value} {x : PV} (r : VR φ h v x) : ∀ {i : Bool}, x = .bool i -> v = Value.bool i := by
 induction r using VR.cs with
 | bool => intro i e; cases e; first | rfl | exact ⟨_, rfl⟩
 | _ => intro i e; cases e
theorem Zgd {φ : List Addr} {h : Heap} {vs : List Value} {xs : List PV} (r : VRs φ h vs xs) : ∀ {is : List Bool}, boolsOf xs = some is -> is.length = vs.length ∧ ∀ k v, vs[k]? = some v -> v = Value.bool (is.getD k false) := by
 induction r using VRs.ind with
 | nil => intro is e; cases e; exact ⟨rfl, λ k v h => nomatch h⟩
 | cons a b ih =>
  intro is e
  obtain ⟨i, js, rfl, e', rfl⟩ := Zi5 e
  obtain ⟨h1, h2⟩ := ih e'
  refine ⟨congrArg Nat.succ h1, λ k v h => match k, h with
   | 0, h => ?_
   | k + 1, h => h2 k v h⟩
  cases h
  exact a.bool_inv rfl
noncomputable def lstM {α : Type} (g : List PV -> Option α) (x : PV) : PM α := λ μ => match isLst μ.hp x with
 | some xs => (match g xs with
  | some a => .ok a μ
  | none => .bad)
 | none => .bad
theorem Zl3 {α : Type} {g : List PV -> Option α} {x : PV} {μ : St} (h : lstM g x μ ≠ .bad) : ∃ xs a, isLst μ.hp x = some xs ∧ g xs = some a ∧ lstM g x μ = .ok a μ := by
 unfold lstM at h ⊢
 cases e : isLst μ.hp x with
 | none => rw [e] at h; exact (h rfl).elim
 | some xs =>
  rw [e] at h
  dsimp only at h ⊢
  cases e' : g xs with
  | none => rw [e'] at h; exact (h rfl).elim
  | some a => exact ⟨xs, a, rfl, e', rfl⟩
section
variable {c : Cx} {F : Fx}
theorem simWalk {f : Value} {α : Type} {g : List PV -> Option α} {k : α -> PV} (hh : F.hd = true)
  (h : ∀ A φ μ s (Q : Value -> Shared -> Prop) E a vs xs y, ACtx F A -> Rep c F φ μ s -> s.heap.IsList a vs.toArray -> VRs φ s.heap vs xs -> g xs = some y -> A.handled = none ->
   (∀ v s', VR φ s.heap v (k y) -> Rep c F φ μ s' -> Ext F.nss F.cls φ s.heap φ s'.heap -> Q v s') ->
   (∀ h' tk, (∀ b o, b ∉ [s.heap.objs.size] -> (s.heap.push { cls := .type "list_iterator", data := .fields #[.ref a, .int 0 0] }).get? b = some o -> h'.get? b = some o) -> s.heap.objs.size <= h'.objs.size -> Rep c F φ μ { s with heap := h', toks := tk } ∧ Ext F.nss F.cls φ s.heap φ h') ->
   wpAny (model c.prog c.w) A (call f [.ref a]) (λ v s' => s.heap.objs.size <= s'.heap.objs.size -> Q v s') E s) (hk : ∀ y φ h h' v, VR φ h v (k y) -> VR φ h' v (k y)) : SimCall c F f (oneM λ x => lstM g x >>= λ y => pure (k y)) :=
 Zav λ v x A φ μ s Q E hA R p hb hQ hE => by
  obtain ⟨xs, y, e1, e2, e3⟩ := Zl3 (λ e => hb (by rw [PM.B, e]))
  rw [PM.C e3] at hQ
  obtain ⟨a, vs, rfl, hL, hvs⟩ := Zdj R p e1
  refine Z1 (wpAny_mono (h A φ μ s Q E a vs xs y hA R hL hvs e2 (hA.handled hh) (λ v s' r R' x' => hQ _ _ _ _ _ rfl R' x' (hk _ _ _ _ _ r)) λ h' tk keep size => R.still size λ b o hb => keep b o (λ hm => ?_) (Heap.get?_push_of_some _ hb)) (λ _ _ q => q) λ _ _ q => λ _ => q)
  have := Heap.lt_size hb
  simp at hm
  rw [hm] at this
  exact Nat.lt_irrefl _ this
noncomputable def pSum : List PV -> PM PV := oneM λ x => lstM intsOf x >>= λ is => pure (.int is.sum)
theorem Zrk (hh : F.hd = true) : SimCall c F (.builtin "sum") pSum := simWalk (k := λ is : List Int => PV.int is.sum) hh (λ A φ μ s Q E a vs xs is hA R hL hvs e hA' hQ hS => by
 obtain ⟨q1, q2⟩ := Zc0 hvs e
 have hlt : a < s.heap.objs.size := by obtain ⟨o, ho, _⟩ := hL; exact Heap.lt_size ho
 refine call_sum_walkG (wpAny_pyIter_list hL ⟨_, _, _, _, _, _, λ i => is.getD i 0, rfl, Zdn (A := A.in1) (vs := vs) hA' (Nat.ne_of_lt hlt), ⟨hL.push _, _, Heap.get?_push_size _ rfl, rfl, rfl⟩, λ b hb => ?_, λ i v hv => q2 i v hv, λ h' tk t' keep size => ?_⟩)
 ·rw [Heap.size_push]
  simp at hb
  rcases hb with rfl | rfl
  ·exact Nat.lt_succ_of_lt hlt
  ·exact Nat.lt_succ_self _
 ·obtain ⟨R', x'⟩ := hS h' tk keep size
  refine hQ _ _ ?_ R' x'
  rw [<- q1, Zmy]
  exact .int _ _) (λ y φ h h' v r => by cases r; exact .int _ _)
theorem Zok {bs : List Bool} : ∀ n, n = bs.length -> (List.range n).any (λ i => bs.getD i false) = bs.any id := λ n e => by
 subst e
 rw [Bool.eq_iff_iff, any_eq_true, any_eq_true]
 constructor
 ·rintro ⟨i, hi, h⟩
  rw [mem_range] at hi
  refine ⟨bs[i], by simp, ?_⟩
  simpa [List.getD, hi] using h
 ·rintro ⟨b, hb, h⟩
  obtain ⟨i, hi⟩ := List.getElem?_of_mem hb
  exact ⟨i, mem_range.mpr (Qgl hi), by simpa [List.getD, hi] using h⟩
theorem Zol {bs : List Bool} : ∀ n, n = bs.length -> (List.range n).all (λ i => bs.getD i false) = bs.all id := λ n e => by
 subst e
 rw [Bool.eq_iff_iff, all_eq_true, all_eq_true]
 constructor
 ·intro h b hb
  obtain ⟨i, hi⟩ := List.getElem?_of_mem hb
  have := h i (mem_range.mpr (Qgl hi))
  simpa [List.getD, hi] using this
 ·intro h i hi
  rw [mem_range] at hi
  have := h bs[i] (by simp)
  simpa [List.getD, hi] using this
noncomputable def pAny : List PV -> PM PV := oneM λ x => lstM boolsOf x >>= λ is => pure (.bool (is.any id))
theorem Zrl (hh : F.hd = true) : SimCall c F (.builtin "any") pAny := simWalk (k := λ is : List Bool => PV.bool (is.any id)) hh (λ A φ μ s Q E a vs xs is hA R hL hvs e hA' hQ hS => by
 obtain ⟨q1, q2⟩ := Zgd hvs e
 have hlt : a < s.heap.objs.size := by obtain ⟨o, ho, _⟩ := hL; exact Heap.lt_size ho
 refine call_any_walk (wpAny_pyIter_list hL ⟨_, _, _, _, _, _, λ i => is.getD i false, rfl, Zdn (A := A.in1) (vs := vs) hA' (Nat.ne_of_lt hlt), ⟨hL.push _, _, Heap.get?_push_size _ rfl, rfl, rfl⟩, λ i v s Q E hv hq => ?_, λ h' tk keep size => ?_⟩)
 ·rw [q2 i v hv]; exact wpAny_truthy_bool hq
 ·obtain ⟨R', x'⟩ := hS h' tk keep size
  refine hQ _ _ ?_ R' x'
  rw [Zok _ q1.symm]
  exact .bool _) (λ y φ h h' v r => by cases r; exact .bool _)
noncomputable def pAll : List PV -> PM PV := oneM λ x => lstM boolsOf x >>= λ is => pure (.bool (is.all id))
theorem Zrm (hh : F.hd = true) : SimCall c F (.builtin "all") pAll := simWalk (k := λ is : List Bool => PV.bool (is.all id)) hh (λ A φ μ s Q E a vs xs is hA R hL hvs e hA' hQ hS => by
 obtain ⟨q1, q2⟩ := Zgd hvs e
 have hlt : a < s.heap.objs.size := by obtain ⟨o, ho, _⟩ := hL; exact Heap.lt_size ho
 refine call_all_walk (wpAny_pyIter_list hL ⟨_, _, _, _, _, _, λ i => is.getD i false, rfl, Zdn (A := A.in1) (vs := vs) hA' (Nat.ne_of_lt hlt), ⟨hL.push _, _, Heap.get?_push_size _ rfl, rfl, rfl⟩, λ i v s Q E hv hq => ?_, λ h' tk keep size => ?_⟩)
 ·rw [q2 i v hv]; exact wpAny_truthy_bool hq
 ·obtain ⟨R', x'⟩ := hS h' tk keep size
  refine hQ _ _ ?_ R' x'
  rw [Zol _ q1.symm]
  exact .bool _) (λ y φ h h' v r => by cases r; exact .bool _)
end

section
variable {c : Cx} {F : Fx}
noncomputable def rngOf : List Int -> PM PV
 | [] => PM.H
 | [n] => pure (.rng 0 n 1)
 | [a, b] => pure (.rng a b 1)
 | [a, b, st] => chk (decide (st ≠ 0) && decide (st.natAbs < 1073741824)) >>= λ _ => pure (.rng a b st)
 | _ :: _ :: _ :: _ :: _ => PM.H
noncomputable def pRange (ys : List PV) : PM PV := match intsOf ys with
 | some is => rngOf is
 | none => PM.H
theorem Zc1 : ∀ {ys : List PV} {is : List Int}, intsOf ys = some is -> ys = is.map .int
 | [], is, e => by cases e; rfl
 | y :: ys, is, e => by
  obtain ⟨i, js, rfl, e', rfl⟩ := Zc9 e
  rw [Zc1 e']; rfl
theorem Zgy {φ : List Addr} {μ : St} {s : Shared} (R : Rep c F φ μ s) {a b st : Int} {t u v : Tok} {tk : Nat} {Q : Value -> Shared -> Prop}
  (hQ : ∀ w φ' s', Rep c F φ' μ s' -> Ext F.nss F.cls φ s.heap φ' s'.heap -> VR φ' s'.heap w (.rng a b st) -> Q w s') : Q (.ref s.heap.objs.size) { s with heap := s.heap.push { cls := .type "range", data := .fields #[.int a t, .int b u, .int st v] }, toks := tk } := by
 obtain ⟨RB, xB⟩ := R.push { cls := .type "range", data := .fields #[.int a t, .int b u, .int st v] } (tk := tk)
 exact hQ _ _ _ RB xB (.rng (Heap.get?_push_size _ rfl) λ hm => absurd (R.phiLt hm) (Nat.lt_irrefl _))
theorem Zo : SimCall c F (.type "range") pRange := λ vs ys A φ μ s Q E hA R p hb hQ hE => by
 unfold pRange at hb hQ hE
 cases hi : intsOf ys with
 | none => rw [hi] at hb; exact (hb rfl).elim
 | some is =>
  rw [hi] at hb hQ hE
  have hys := Zc1 hi
  subst hys
  cases is with
  | nil => exact (hb rfl).elim
  | cons a r =>
  cases r with
  | nil => obtain ⟨_, rfl⟩ := p.ints1; exact call_range_1 (Zgy R λ w φ' s' R' x' r => hQ _ _ _ _ _ rfl R' x' r)
  | cons b r =>
  cases r with
  | nil => obtain ⟨_, _, rfl⟩ := p.ints2; exact call_range_2 (Zgy R λ w φ' s' R' x' r => hQ _ _ _ _ _ rfl R' x' r)
  | cons st r =>
  cases r with
  | cons => exact (hb rfl).elim
  | nil =>
  dsimp only [rngOf] at hb hQ
  obtain ⟨h1, h2⟩ := Zs hb
  rw [h2] at hQ
  rw [Bool.and_eq_true] at h1
  obtain ⟨_, _, _, rfl⟩ := p.ints3
  exact call_range_3 (of_decide_eq_true h1.1) (Zgy R λ w φ' s' R' x' r => hQ _ _ _ _ _ rfl R' x' r) (Or.inl (PyProof.noPylong_small (of_decide_eq_true h1.2)))
noncomputable def rngList (a st : Int) (n : Nat) : List PV := (List.range n).map λ (i : Nat) => PV.int (a + i * st)
noncomputable def pListOf : PV -> PM PV
 | .rng a b st => chk (Builtin.Range.small a b st && decide (Builtin.Range.rangeSize a b st <= 1000000)) >>= λ _ => allocM (.lst (rngList a st (Builtin.Range.rangeSize a b st).toNat)) >>= λ i => pure (.obj i)
 | x => pSeqM (λ xs => allocM (.lst xs) >>= λ i => pure (.obj i)) x
theorem Zi6 {φ : List Addr} {μ : St} {s : Shared} (R : Rep c F φ μ s) {h' : Heap} {tk : Nat} {vs : List Value} {n : Nat} {xs : List PV} (keep : ∀ b o, s.heap.get? b = some o -> h'.get? b = some o) (size : s.heap.objs.size <= h'.objs.size)
  (hnew : h'.get? s.heap.objs.size = some { cls := .type "list", data := .seq vs.toArray n }) (hv : ∀ (φ' : List Addr), (∀ v x, VR φ s.heap v x -> VR φ' h' v x) -> VRs φ' h' vs xs) :
  Rep c F (φ ++ [s.heap.objs.size]) { fr := μ.fr, hp := μ.hp ++ [.lst xs] } { s with heap := h', toks := tk } ∧ Ext F.nss F.cls φ s.heap (φ ++ [s.heap.objs.size]) h' := by
 have hself : (φ ++ [s.heap.objs.size])[μ.hp.length]? = some s.heap.objs.size := by rw [<- R.len]; simp
 refine R.mut (ψ := [s.heap.objs.size]) (by simp) (by simp) size (λ a o' e _ => keep a o' e) (by simp [R.len]) (λ hm i a o' h1 h2 => ?_)
 by_cases hi : i < φ.length
 ·rw [List.getElem?_append_left hi] at h1
  rw [List.getElem?_append_left (by rw [<- R.len]; exact hi)] at h2
  obtain ⟨ob', hob⟩ := R.lt (mem_of_getElem? h1)
  exact (R.objs i a o' h1 h2).move (λ _ _ e => getElem?_app e) hm ((keep _ _ hob).trans hob.symm)
 ·have hi' : i = φ.length := by
   have := (Qgl h1)
   simp at this; lia
  subst hi'
  rw [R.len] at h1 h2
  rw [hself] at h1; cases h1
  simp at h2; subst h2
  exact .lst hnew (hv _ hm)
theorem Zom {φ : List Addr} {h : Heap} : ∀ {vs : List Value} {xs : List PV}, vs.length = xs.length -> (∀ (j : Nat) (v : Value) (x : PV), vs[j]? = some v -> xs[j]? = some x -> VR φ h v x) -> VRs φ h vs xs
 | [], [], _, _ => .nil
 | v :: vs, x :: xs, e, r => .cons (r 0 v x rfl rfl) (Zom (by simpa using e) λ j v x h1 h2 => r (j + 1) v x (by simpa using h1) (by simpa using h2))
 | [], _ :: _, e, _ => by simp at e
 | _ :: _, [], e, _ => by simp at e
theorem Zon {φ : List Addr} {h : Heap} {a st : Int} {acc : Array Value} {n : Nat} (it : ItemsOf (λ i v => ∃ t, v = Value.int (a + i * st) t) acc n) : VRs φ h acc.toList (rngList a st n) := by
 obtain ⟨h1, h2⟩ := it
 refine Zom (by unfold rngList; simp [h1]) λ j v x q1 q2 => ?_
 obtain ⟨t, rfl⟩ := h2 j v (by simpa using q1)
 unfold rngList at q2
 rw [List.getElem?_map] at q2
 obtain ⟨i, hi, rfl⟩ := Option.map_eq_some_iff.mp q2
 obtain ⟨hl, e⟩ := Qgs hi
 simp at e
 subst e
 exact .int _ _
theorem Zfv (a b st : Int) : 0 <= Builtin.Range.rangeSize a b st := by
 unfold Builtin.Range.rangeSize
 split
 ·split
  ·have := Int.ediv_nonneg (a := b - a - 1) (b := st) (by lia) (by lia); lia
  ·exact Int.le_refl _
 ·split
  ·have := Int.ediv_nonneg (a := a - b - 1) (b := -st) (by lia) (by lia); lia
  ·exact Int.le_refl _
theorem Zmz (hh : F.hd = true) : SimCall c F (.type "list") (oneM pListOf) := Zav λ v x A φ μ s Q E hA R p hb hQ hE => by
 have seq : ∀ k : PV -> PM PV, pSeqM (λ xs => allocM (.lst xs) >>= λ i => pure (.obj i)) x μ ≠ .bad ->
  (∀ a b φ' μ' s', pSeqM (λ xs => allocM (.lst xs) >>= λ i => pure (.obj i)) x μ = .ok b μ' -> Rep c F φ' μ' s' -> Ext F.nss F.cls φ s.heap φ' s'.heap -> VR φ' s'.heap a b -> Q a s') -> wpAny (model c.prog c.w) A (call (.type "list") [v]) Q E s := λ _ hb hQ => by
  unfold pSeqM at hb hQ
  obtain ⟨a, T, vs, n, xs, rfl, hT, ho, hvs, _, e⟩ := Zhl R p (λ e => hb (by rw [PM.B, e]))
  rw [PM.C e] at hb hQ
  obtain ⟨hln, e2⟩ := Zs hb
  rw [e2] at hQ
  refine Z1 (call_list_seq a hT ho rfl rfl (λ h' c' keep hnew size => ?_) (by rw [size_toArray, hvs.length]; exact Zaf hln))
  obtain ⟨RB, xB⟩ := Zi6 (tk := s.toks) R keep size hnew (xs := xs) λ φ' hm => hvs.mv hm
  exact hQ _ _ _ _ _ rfl RB xB (.obj (by rw [<- R.len]; simp))
 cases x with
 | rng a b st =>
  unfold pListOf at hb hQ
  dsimp only at hb hQ
  obtain ⟨h1, h2⟩ := Zs hb
  rw [h2] at hQ
  rw [Bool.and_eq_true] at h1
  cases p with
  | @rng r _ _ _ t u v hr hn =>
  have hle := of_decide_eq_true h1.2
  refine Z1 (call_list_range (hA.handled hh) hr h1.1 (n := (Builtin.Range.rangeSize a b st).toNat) ?_ (by lia) λ h' tk acc' c' keep hnew hit size => ?_)
  ·have := Zfv a b st
   lia
  ·obtain ⟨RB, xB⟩ := Zi6 (tk := tk) R (vs := acc'.toList) keep size hnew (xs := rngList a st (Builtin.Range.rangeSize a b st).toNat) λ φ' hm => Zon hit
   exact hQ _ _ _ _ _ rfl RB xB (.obj (by rw [<- R.len]; simp))
 | _ => exact seq pListOf hb hQ
end

section
variable {c : Cx} {F : Fx}
theorem Zb4 {o : Expr} {name : Str} {apos pos : Pos} {args : List Expr} {T id : String} {fo : PM PV} {β γ : Type} {ck : PV -> PM β} {ga : PM (List PV)} {RR : List Addr -> Heap -> Value -> γ -> Prop} {k : PV -> List PV -> PM γ}
  (hbase : attributeBase o name F.env (eval o F.env) = eval o F.env) (hfew : hFew c F pos args) (hline : (apos.endLine == pos.line) = true)
  (pa : PlainAttrs T) (slot : Slot T name id) (hty : typeOf (.builtin id) = pure (.type "method_descriptor"))
  (h : SimE c F o fo) (hck : ∀ φ μ s v x, Rep c F φ μ s -> VR φ s.heap v x -> ck x μ ≠ .bad -> ∃ b, ck x μ = .ok b μ ∧ s.TypeIs v T ∧ (∃ a, v = .ref a ∧ ∃ ob, s.heap.get? a = some ob ∧ ob.dict = none))
  (hargs : CallArgs c F (starEach args F.env) ga)
  (hk : ∀ a x vs ys, Sim c F (λ φ h => VR φ h (.ref a) x ∧ VRs φ h vs ys) RR (call (.builtin id) (.ref a :: vs)) (k x ys)) :
  Sim c F NoP RR (eval (.Call (.Attribute o name apos) args [] pos) F.env) (fo >>= λ x => ck x >>= λ _ => ga >>= k x) :=
 Zcn hbase hfew hline pa slot hty h (k := λ x _ => ga >>= k x) hck λ a x b =>
  Za2 (first := [.ref a]) hargs (λ _ _ _ _ _ R e r => r.ext R e) (λ φ h X _ => Zix φ h X trivial) λ vs ys => hk a x vs ys
noncomputable def theSet (v : PV) : PM (Nat × List Int) := λ μ => match v with
 | .obj i => match μ.hp[i]? with
  | some (.set xs) => .ok (i, xs) μ
  | _ => .bad
 | _ => .bad
theorem Zm0 {μ : St} {x : PV} (h : theSet x μ ≠ .bad) : ∃ i xs, x = .obj i ∧ μ.hp[i]? = some (.set xs) := by
 cases x with
 | obj i =>
  unfold theSet at h
  dsimp only at h
  cases hi : μ.hp[i]? with
  | none => rw [hi] at h; exact (h rfl).elim
  | some o =>
   rw [hi] at h
   cases o with
   | set xs => exact ⟨i, xs, rfl, hi⟩
   | _ => exact (h rfl).elim
 | _ => exact (h rfl).elim
theorem Zhm {φ : List Addr} {μ : St} {s : Shared} (R : Rep c F φ μ s) {v : Value} {x : PV} (r : VR φ s.heap v x) (h : theSet x μ ≠ .bad) :
  ∃ a i xs, v = .ref a ∧ φ[i]? = some a ∧ s.heap.SetOf (intKind c.prog c.w) a (λ k => decide (k ∈ xs)) xs.length ∧ theSet x μ = .ok (i, xs) μ := by
 obtain ⟨i, xs, rfl, hi⟩ := Zm0 h
 obtain ⟨a, rfl, h1⟩ := r.un_obj rfl
 exact ⟨a, i, xs, rfl, h1, (R.objs i a _ h1 hi).inv_set rfl, by unfold theSet; dsimp only; rw [hi]⟩
theorem Zoo : ∀ φ μ s v x, Rep c F φ μ s -> VR φ s.heap v x -> theSet x μ ≠ .bad -> ∃ b, theSet x μ = .ok b μ ∧ s.TypeIs v "set" ∧ (∃ a, v = .ref a ∧ ∃ ob, s.heap.get? a = some ob ∧ ob.dict = none) := by
 intro φ μ s v x R r hb
 obtain ⟨a, i, xs, rfl, hi, hS, e⟩ := Zhm R r hb
 obtain ⟨o, es, ep, t, ho, hx, _⟩ := id hS
 exact ⟨_, e, hS.typeIs, a, rfl, o, ho, hx.2.1⟩
noncomputable def pSet : PM PV := allocM (.set []) >>= λ i => pure (.obj i)
theorem Zrn : SimCall c F (.type "set") (noneM pSet) := Zi4 λ A φ μ s Q E hA R p hb hQ hE => by
 refine call_set_0 λ led => ?_
 obtain ⟨RB, xB⟩ := R.alloc (ob := { cls := .type "set", dict := none, data := .set #[] 0 (.fresh 0 0 led) }) (o := .set []) (tk := s.toks) rfl λ hg hi hm => .set (by
  have q := PyProof.Rows.setObjOf_fresh (knd := intKind c.prog c.w) led
  have := q.setOf hg (by decide)
  simpa using this)
 exact hQ _ _ _ _ _ rfl RB xB (.obj (by rw [<- R.len]; simp))
noncomputable def addInt (xs : List Int) (k : Int) : List Int := match decide (k ∈ xs) with
 | true => xs
 | false => xs ++ [k]
noncomputable def pSetAdd (o : PV) : List PV -> PM PV
 | [.int k] => theSet o >>= λ p => chk (decide (p.2.length + 1 < scanBound)) >>= λ _ => putM p.1 (.set (addInt p.2 k)) >>= λ _ => pure .none
 | _ => PM.H
theorem Zlc {o : PV} {ys : List PV} {μ : St} (h : pSetAdd o ys μ ≠ .bad) : ∃ k, ys = [.int k] := by
 rcases ys with _ | ⟨y, _ | _⟩
 ·exact (h rfl).elim
 ·cases y with
  | int k => exact ⟨k, rfl⟩
  | _ => exact (h rfl).elim
 ·exact (h (by cases y <;> rfl)).elim
noncomputable def mSetAdd (fo : PM PV) (ga : PM (List PV)) : PM PV := fo >>= λ x => theSet x >>= λ _ => ga >>= pSetAdd x
theorem Zm1 {o : Expr} {apos pos : Pos} {args : List Expr} {fo : PM PV} {ga : PM (List PV)} (hbase : attributeBase o "add" F.env (eval o F.env) = eval o F.env) (hfew : hFew c F pos args) (hline : (apos.endLine == pos.line) = true)
  (h : SimE c F o fo) (hargs : CallArgs c F (starEach args F.env) ga) : SimE c F (.Call (.Attribute o "add" apos) args [] pos) (mSetAdd fo ga) :=
 Zb4 hbase hfew hline PySem.F.plainAttrs_set PySem.F.slot_set_add PySem.F.type_set_add h Zoo hargs λ a x vs ys A φ μ s Q E hA R p hb hQ hE => by
  obtain ⟨k, rfl⟩ := Zlc hb
  unfold pSetAdd at hb hQ
  ·dsimp only at hb hQ
   obtain ⟨a', i, xs, ea, hi, hS, e⟩ := Zhm R p.1 (λ e => hb (by rw [PM.B, e]))
   cases ea
   rw [PM.C e] at hb hQ
   obtain ⟨hln, e2⟩ := Zs hb
   rw [e2] at hQ
   obtain ⟨p1, p2⟩ := p
   obtain ⟨t, rfl⟩ := p2.ints1
   refine call_set_add (knd := intKind c.prog c.w) (intKind_is _ _ _ _) rfl hS (of_decide_eq_true hln) λ h' hs hS' => ?_
   obtain ⟨R3, xD⟩ := R.upd (tk := s.toks + 1) (o := .set (addInt xs k)) hi hs λ hm => .set (by
    have e1 : (λ k' => decide (k' ∈ xs) || decide (k' = k)) = λ k' => decide (k' ∈ addInt xs k) := by
     funext k'
     unfold addInt
     by_cases hk : k ∈ xs
     ·rw [decide_eq_true hk]
      by_cases e : k' = k
      ·subst e; simp [hk]
      ·simp [e]
     ·rw [decide_eq_false hk]
      by_cases e : k' = k <;> simp [e]
    have e2 : (if decide (k ∈ xs) = true then xs.length else xs.length + 1) = (addInt xs k).length := by
     unfold addInt
     by_cases hk : k ∈ xs
     ·rw [decide_eq_true hk]; rfl
     ·rw [decide_eq_false hk]; simp
    rw [e1, e2] at hS'
    exact hS')
   exact hQ _ _ _ _ _ rfl R3 xD .none
end
end Mine
namespace Mine
open PySem PySem.W PyProof.Rows PySem.Calls PySem.MeetsSeq

section
variable {c : Cx} {F : Fx}
noncomputable def theDct (v : PV) : PM (Nat × List (Int × PV)) := λ μ => match v with
 | .obj i => match μ.hp[i]? with
  | some (.dct es ep) => .ok (i, es) μ
  | _ => .bad
 | _ => .bad
theorem Zm2 {μ : St} {x : PV} (h : theDct x μ ≠ .bad) : ∃ i es ep, x = .obj i ∧ μ.hp[i]? = some (.dct es ep) := by
 cases x with
 | obj i =>
  unfold theDct at h
  dsimp only at h
  cases hi : μ.hp[i]? with
  | none => rw [hi] at h; exact (h rfl).elim
  | some o =>
   rw [hi] at h
   cases o with
   | dct es ep => exact ⟨i, es, ep, rfl, hi⟩
   | _ => exact (h rfl).elim
 | _ => exact (h rfl).elim
theorem Zc2 {φ : List Addr} {μ : St} {s : Shared} (R : Rep c F φ μ s) {v : Value} {x : PV} (r : VR φ s.heap v x) (h : theDct x μ ≠ .bad) :
  ∃ a i es kvs ep, v = .ref a ∧ φ[i]? = some a ∧ s.heap.DictAt (intKind c.prog c.w) a kvs ep ∧ DRs φ s.heap kvs es ∧ theDct x μ = .ok (i, es) μ := by
 obtain ⟨i, es, ep, rfl, hi⟩ := Zm2 h
 obtain ⟨a, rfl, h1⟩ := r.un_obj rfl
 obtain ⟨kvs, k1, k2⟩ := (R.objs i a _ h1 hi).inv_dct rfl
 exact ⟨a, i, es, kvs, ep, rfl, h1, k1, k2, by unfold theDct; dsimp only; rw [hi]⟩
theorem Zee : ∀ φ μ s v x, Rep c F φ μ s -> VR φ s.heap v x -> theDct x μ ≠ .bad -> ∃ b, theDct x μ = .ok b μ ∧ s.TypeIs v "dict" ∧ (∃ a, v = .ref a ∧ ∃ ob, s.heap.get? a = some ob ∧ ob.dict = none) := by
 intro φ μ s v x R r hb
 obtain ⟨a, i, es, kvs, ep, rfl, hi, hS, _, e⟩ := Zc2 R r hb
 obtain ⟨ob, h1, h2⟩ := hS.dictOf.mapOf.noDict a rfl
 exact ⟨_, e, hS.dictOf.typeIs, a, rfl, ob, h1, h2⟩
theorem Zop {φ : List Addr} {h : Heap} {kvs : List (Int × Value)} {es : List (Int × PV)} (r : DRs φ h kvs es) {k : Int} (e : dGet es k = none) : valueAt kvs k = none := by
 have := Zfr r k
 have hn : (es.any λ e => e.1 == k) = false := by
  unfold dGet at e
  rw [Option.map_eq_none_iff, List.find?_eq_none] at e
  rw [any_eq_false]
  exact e
 rw [hn] at this
 cases q : valueAt kvs k with
 | none => rfl
 | some v => rw [q] at this; cases this
noncomputable def pDictGet (o : PV) : List PV -> PM PV
 | [.int k] => theDct o >>= λ p => pure ((dGet p.2 k).getD .none)
 | _ => PM.H
noncomputable def mDictGet (fo : PM PV) (ga : PM (List PV)) : PM PV := fo >>= λ x => theDct x >>= λ _ => ga >>= pDictGet x
theorem Zff {o : Expr} {apos pos : Pos} {args : List Expr} {fo : PM PV} {ga : PM (List PV)} (hbase : attributeBase o "get" F.env (eval o F.env) = eval o F.env) (hfew : hFew c F pos args) (hline : (apos.endLine == pos.line) = true)
  (h : SimE c F o fo) (hargs : CallArgs c F (starEach args F.env) ga) : SimE c F (.Call (.Attribute o "get" apos) args [] pos) (mDictGet fo ga) :=
 Zb4 hbase hfew hline PySem.F.plainAttrs_dict PySem.F.slot_dict_get PySem.F.type_dict_get h Zee hargs λ a x vs ys A φ μ s Q E hA R p hb hQ hE => by
  unfold pDictGet at hb hQ
  split at hb
  ·rename_i k
   dsimp only at hQ
   obtain ⟨a', i, es, kvs, ep, ea, hi, hS, hr, e⟩ := Zc2 R p.1 (λ e => hb (by rw [PM.B, e]))
   cases ea
   rw [PM.C e] at hQ
   have hm : a ∈ φ := mem_of_getElem? hi
   obtain ⟨p1, p2⟩ := p
   obtain ⟨t, rfl⟩ := p2.ints1
   refine call_meetsIn PySem.F.slot_dict_get hS.dictOf.typeIs PySem.F.entry_dict_get (PySem.F.args_dict_get_2 _ _) (meets_dict_get (intKind c.prog c.w) a (intKind_is _ _ k t) (R.notSys hm)) ⟨_, hS.dictOf.mapOf, ?_⟩
   have := hQ ((valueAt kvs k).getD .none) _ φ μ { s with toks := s.toks + 1 } rfl (R.toks _) Ext.refl (by
    cases hg : dGet es k with
    | none => rw [Zop hr hg]; exact .none
    | some y =>
     obtain ⟨w, hw, hv⟩ := Zhh hr hg
     rw [hw]; exact hv)
   exact this
  ·exact (hb rfl).elim
noncomputable def pValues (o : PV) : List PV -> PM PV
 | [] => theDct o >>= λ p => pure (.vals p.1)
 | _ => PM.H
noncomputable def mValues (fo : PM PV) (ga : PM (List PV)) : PM PV := fo >>= λ x => theDct x >>= λ _ => ga >>= pValues x
theorem Zm3 {o : Expr} {apos pos : Pos} {args : List Expr} {fo : PM PV} {ga : PM (List PV)} (hbase : attributeBase o "values" F.env (eval o F.env) = eval o F.env) (hfew : hFew c F pos args) (hline : (apos.endLine == pos.line) = true)
  (h : SimE c F o fo) (hargs : CallArgs c F (starEach args F.env) ga) : SimE c F (.Call (.Attribute o "values" apos) args [] pos) (mValues fo ga) :=
 Zb4 hbase hfew hline PySem.F.plainAttrs_dict PySem.F.slot_dict_values PySem.F.type_dict_values h Zee hargs λ a x vs ys A φ μ s Q E hA R p hb hQ hE => by
  unfold pValues at hb hQ
  split at hb
  ·dsimp only at hQ
   obtain ⟨a', i, es, kvs, ep, ea, hi, hS, hr, e⟩ := Zc2 R p.1 (λ e => hb (by rw [PM.B, e]))
   cases ea
   rw [PM.C e] at hQ
   have hm : a ∈ φ := mem_of_getElem? hi
   obtain ⟨p1, p2⟩ := p
   cases p2
   refine call_meetsIn PySem.F.slot_dict_values hS.dictOf.typeIs PySem.F.entry_dict_values (PySem.F.args_dict_values_1 _) (meets_dict_values (intKind c.prog c.w) a (R.notSys hm)) ⟨⟨_, hS.dictOf⟩, ?_⟩
   obtain ⟨RB, xB⟩ := R.push { cls := .type "dict_values", data := .fields #[.ref a] } (tk := s.toks)
   exact hQ _ _ _ _ _ rfl RB xB (.vals hi (Heap.get?_push_size _ rfl) λ hm => absurd (R.phiLt hm) (Nat.lt_irrefl _))
  ·exact (hb rfl).elim
noncomputable def eqInt (k : Int) : Value -> Bool
 | .int i _ => i == k
 | _ => false
theorem Zld {φ : List Addr} {h : Heap} {vs : List Value} {xs : List PV} {is : List Int} (hv : VRs φ h vs xs) (e : intsOf xs = some is) (k : Int) (t : Tok) : ∀ y ∈ vs.toArray, EqGives y (.int k t) (eqInt k y) := λ y hy => by
 obtain ⟨j, hj⟩ := List.getElem?_of_mem (by simpa using hy)
 obtain ⟨t', rfl⟩ := (Zc0 hv e).2 j y hj
 exact EqGives.int _ _ _ _
theorem Zoq {φ : List Addr} {h : Heap} {vs : List Value} {xs : List PV} {is : List Int} (hv : VRs φ h vs xs) (e : intsOf xs = some is) (k : Int) : vs.map (eqInt k) = is.map (· == k) := by
 obtain ⟨h1, h2⟩ := Zc0 hv e
 refine ext_getElem (by simp [h1]) λ j a b => ?_
 simp at a b
 obtain ⟨t', e⟩ := h2 j vs[j] (by simp)
 simp only [getElem_map]
 rw [e]
 simp [eqInt, b]
noncomputable def pCountL (o : PV) : List PV -> PM PV
 | [y] => aLst o >>= λ xs => pCount xs y
 | _ => PM.H
noncomputable def mCount (fo : PM PV) (ga : PM (List PV)) : PM PV := fo >>= λ x => aLst x >>= λ _ => ga >>= pCountL x
theorem Zck {φ : List Addr} {μ : St} {s : Shared} (R : Rep c F φ μ s) {v : Value} {x : PV} (r : VR φ s.heap v x) (h : aLst x μ ≠ .bad) :
  ∃ a vs n xs, v = .ref a ∧ IsL s.heap a vs.toArray n ∧ VRs φ s.heap vs xs ∧ aLst x μ = .ok xs μ := by
 unfold aLst at h ⊢
 cases e : isLst μ.hp x with
 | none => rw [e] at h; exact (h rfl).elim
 | some xs =>
  obtain ⟨a, vs, n, rfl, h1, h2⟩ := Zfq R r e
  exact ⟨a, vs, n, xs, rfl, h1, h2, rfl⟩
theorem Zor {o : Expr} {apos pos : Pos} {args : List Expr} {fo : PM PV} {ga : PM (List PV)} (hbase : attributeBase o "count" F.env (eval o F.env) = eval o F.env) (hfew : hFew c F pos args) (hline : (apos.endLine == pos.line) = true)
  (h : SimE c F o fo) (hargs : CallArgs c F (starEach args F.env) ga) : SimE c F (.Call (.Attribute o "count" apos) args [] pos) (mCount fo ga) :=
 Zb4 hbase hfew hline PySem.F.plainAttrs_list PySem.F.slot_list_count PySem.F.type_list_count h Zq6 hargs λ a x vs ys A φ μ s Q E hA R p hb hQ hE => by
  unfold pCountL at hb hQ
  split at hb
  ·rename_i y
   dsimp only at hQ
   obtain ⟨a', vs', n, xs, ea, hL, hvs, e⟩ := Zck R p.1 (λ e => hb (by rw [PM.B, e]))
   cases ea
   rw [PM.C e] at hb hQ
   obtain ⟨p1, p2⟩ := p
   cases p2 with
   | cons q r =>
   cases r
   unfold pCount at hb hQ
   cases hi : intsOf xs with
   | none => rw [hi] at hb; exact (hb rfl).elim
   | some is =>
   rw [hi] at hb hQ
   induction q using VR.cs with
   | int k t =>
    dsimp only at hb hQ
    refine call_meets PySem.F.slot_list_count ⟨_, hL, rfl⟩ PySem.F.entry_list_count (PySem.F.args_list_count_2 _ _) (list_count a vs'.toArray n (.int k t) (eqInt k) (Zld hvs hi k t)) ⟨hL, ?_⟩
    have hm : vs'.countP (eqInt k) = is.count k := by
     have h1 := congrArg (List.countP id) (Zoq hvs hi k)
     rw [List.countP_map, List.countP_map] at h1
     exact h1
    refine hQ _ _ _ _ { s with toks := s.toks + 1 } rfl (R.toks _) Ext.refl ?_
    rw [<- hm]
    exact .int _ _
   | _ => exact (hb rfl).elim
  ·exact (hb rfl).elim
end

section
variable {c : Cx} {F : Fx}
theorem Zfw (mu_ : Bool) {φ φ0 : List Addr} {h₀ : Heap} {μ : St} {s : Shared} (R : Rep c F φ μ s) (x : Ext F.nss F.cls φ0 h₀ φ s.heap) {vs : List Value} {xs : List PV} (p : VRs φ s.heap vs xs) (hb : mkList mu_ xs μ ≠ .bad) {tk : Nat} {Q : Value -> Shared -> Prop}
  (hQ : ∀ v y φ' μ' s', mkList mu_ xs μ = .ok y μ' -> Rep c F φ' μ' s' -> Ext F.nss F.cls φ0 h₀ φ' s'.heap -> VR φ' s'.heap v y -> Q v s') :
  Q (.ref s.heap.objs.size) { s with heap := s.heap.push { cls := .type "list", data := .seq vs.toArray }, toks := tk } := by
 unfold mkList at hb hQ
 obtain ⟨hl, e⟩ := Zs hb
 rw [e] at hb hQ
 cases mu_ with
 | true =>
  obtain ⟨RB, xB⟩ := R.alloc (ob := { cls := .type "list", data := .seq vs.toArray }) (o := .lst xs) (tk := tk) rfl λ hg hi hm => .lst hg (p.mv hm)
  exact hQ _ _ _ _ _ rfl RB (x.trans xB) (.obj (by rw [<- R.len]; simp))
 | false =>
  obtain ⟨RB, xB⟩ := R.push { cls := .type "list", data := .seq vs.toArray } (tk := tk)
  exact hQ _ _ _ _ _ rfl RB (x.trans xB) (.lst (Heap.get?_push_size _ rfl) (λ hm => absurd (R.phiLt hm) (Nat.lt_irrefl _)) (p.ext R xB))
theorem Zge {mu_ : Bool} {xs : List PV} {μ : St} (hb : mkList mu_ xs μ ≠ .bad) : xs.length <= 1000000 := by
 unfold mkList at hb
 exact Za1 (Zs hb).1
noncomputable def pCat (mu_ : Bool) (x y : PV) : PM PV := aLst x >>= λ xs => aLst y >>= λ ys => mkList mu_ (xs ++ ys)
theorem Zro (mu_ : Bool) {v w : Value} {x y : PV} : Sim c F (V2 v w x y) (λ φ h a b => VR φ h a b) (binaryOp .Add v w) (pCat mu_ x y) := λ A φ μ s Q E hA R p hb hQ hE => by
 unfold pCat at hb hQ
 obtain ⟨a, vs, n, xs, rfl, hl, hv, e⟩ := Zck R p.1 (λ e => hb (by rw [PM.B, e]))
 rw [PM.C e] at hb hQ
 obtain ⟨a', vs', n', ys, rfl, hl', hv', e'⟩ := Zck R p.2 (λ e => hb (by rw [PM.B, e]))
 rw [PM.C e'] at hb hQ
 have hle := Zge hb
 have e1 := hv.length
 have e2 := hv'.length
 rw [length_append] at hle
 refine P.add_list hl hl' ?_ (by simp only [size_toArray]; exact Nat.le_trans (by lia) (show 1000000 <= sizeLine by decide))
 have := Zfw (vs := vs ++ vs') (tk := s.toks) (Q := Q) mu_ R Ext.refl (hv.append hv') hb λ v y φ' μ' s' e R' x' r => hQ v y φ' μ' s' e R' x' r
 simpa using this
noncomputable def eCat (mu_ : Bool) (f g : PM PV) : PM PV := f >>= λ x => g >>= λ y => pCat mu_ x y
theorem Zi7 (mu_ : Bool) {l r : Expr} {pos : Pos} {f g : PM PV} (h : SimE c F l f) (h' : SimE c F r g) : SimE c F (.BinOp l .Add r pos) (eCat mu_ f g) := λ A φ μ s Q E hA R p hb hQ hE => by
 unfold eCat at hb hQ hE
 refine wpAny_BinOp ?_
 refine h.use hA R p hb hE λ a b φ' μ' s' eg R' x r => ?_
 rw [eg] at hb hQ hE
 refine (h'.keep (v := a) (x := b)).use hA R' r hb (λ e y φ' μ' s' he R' x' r => hE e y φ' μ' s' he R' (x.trans x') (r.le x.dom)) λ aC bC φ2 μ2 s2 eg RC xC rC => ?_
 rw [eg] at hb hQ hE
 exact (Zro mu_).fin hA RC rC rfl (x.trans xC) hb hQ hE
noncomputable def repL {α : Type} : Nat -> List α -> List α
 | 0, _ => []
 | n + 1, xs => repL n xs ++ xs
theorem Zgf {α : Type} {n : Nat} {xs : List α} : repL (n + 1) xs = repL n xs ++ xs := rfl
theorem Zl4 {φ : List Addr} {h : Heap} {vs : List Value} {xs : List PV} (r : VRs φ h vs xs) : ∀ n, VRs φ h (repL n vs) (repL n xs)
 | 0 => .nil
 | n + 1 => (Zl4 r n).append r
theorem Zi8 {α : Type} (xs : List α) : ∀ n, (repL n xs).length = n * xs.length
 | 0 => (Nat.zero_mul _).symm
 | n + 1 => by simp [Zgf, Zi8 xs n, Nat.succ_mul]
theorem Zi9 {α : Type} : ∀ n, repL n ([] : List α) = []
 | 0 => rfl
 | n + 1 => by simp [Zgf, Zi9 n]
theorem Zos {α : Type} (vs : List α) : ∀ n (acc : Array α), List.foldl (λ x1 x2 => x1 ++ x2) acc (List.replicate n vs.toArray) = acc ++ (repL n vs).toArray := by
 have comm : ∀ n, repL n vs ++ vs = vs ++ repL n vs := λ n => by
  induction n with
  | zero => exact append_nil vs |>.symm
  | succ n ih => simp only [Zgf]; rw [ih, append_assoc, ih]
 intro n
 induction n with
 | zero => intro acc; simp [show repL 0 vs = [] from rfl]
 | succ n ih =>
  intro acc
  rw [List.replicate_succ, foldl_cons, ih]
  show _ = acc ++ (repL n vs ++ vs).toArray
  rw [comm]
  simp
noncomputable def pRep (mu_ : Bool) (x y : PV) : PM PV := aLst x >>= λ xs => match y with
 | .int k => chk (decide (0 <= k) && decide (k <= 1000000)) >>= λ _ => mkList mu_ (repL k.toNat xs)
 | _ => PM.H
theorem Zrp (mu_ : Bool) {v w : Value} {x y : PV} : Sim c F (V2 v w x y) (λ φ h a b => VR φ h a b) (binaryOp .Mult v w) (pRep mu_ x y) := λ A φ μ s Q E hA R p hb hQ hE => by
 unfold pRep at hb hQ
 obtain ⟨a, vs, n, xs, rfl, hl, hv, e⟩ := Zck R p.1 (λ e => hb (by rw [PM.B, e]))
 rw [PM.C e] at hb hQ
 obtain ⟨p1, p2⟩ := p
 induction p2 using VR.cs with
 | int k t =>
  dsimp only at hb hQ
  obtain ⟨h1, h2⟩ := Zs hb
  rw [h2] at hb hQ
  rw [Bool.and_eq_true] at h1
  have k0 := of_decide_eq_true h1.1
  have k1 := of_decide_eq_true h1.2
  have hle := Zge hb
  rw [Zi8] at hle
  have e1 := hv.length
  have hm : vs.toArray.size * k.toNat <= 1000000 := by rw [size_toArray, e1, Nat.mul_comm]; exact hle
  refine wpAny_binaryOp_repeat_ref (T := "list") (U := "int") (by decide) ⟨_, hl, rfl⟩ (λ s' => typeIs_int s' k t) noFill_list_mul PySem.F.fills_int_mul PySem.F.slot_int_rmul repeat_list PySem.F.slot_int_index.lookup ?_
  refine call_meets PySem.F.slot_int_rmul (typeIs_int _ k t) PySem.F.entry_int_rmul (PySem.F.args_int_rmul_2 _ _) (int___rmul___int_list k t a vs.toArray n) ⟨hl, rfl, ⟨_, hl, rfl⟩, ?_⟩
  refine call_meets PySem.F.slot_list_mul ⟨_, hl, rfl⟩ PySem.F.entry_list_mul (PySem.F.args_list_mul_2 _ _)
    (AutoListH.list___mul___list_int_3 a vs.toArray n k t (by simp [Builtin.List.listFitsIndex]; lia) (by lia) (by simp [Builtin.List.listTooLong, sizeLine] at hm ⊢; lia)) ⟨hl, ?_⟩
  have := Zfw (vs := repL k.toNat vs) (tk := s.toks) (Q := Q) mu_ R Ext.refl (Zl4 hv _) hb λ v y φ' μ' s' e R' x' r => hQ v y φ' μ' s' e R' x' r
  have e2 : List.foldl (λ x1 x2 => x1 ++ x2) #[] (List.replicate (if vs.toArray.isEmpty = true then 0 else k.toNat) vs.toArray) = (repL k.toNat vs).toArray := by
   by_cases hv0 : vs = []
   ·subst hv0; simp [Zi9]
   ·have hv1 : vs.toArray.isEmpty = false := by cases vs with
     | nil => exact absurd rfl hv0
     | cons => rfl
    rw [hv1]
    simp only [Bool.false_eq_true, if_false]
    rw [Zos]; simp
  rw [e2]
  exact this
 | _ => exact (hb rfl).elim
noncomputable def eRep (mu_ : Bool) (f g : PM PV) : PM PV := f >>= λ x => g >>= λ y => pRep mu_ x y
theorem Zps (mu_ : Bool) {l r : Expr} {pos : Pos} {f g : PM PV} (h : SimE c F l f) (h' : SimE c F r g) : SimE c F (.BinOp l .Mult r pos) (eRep mu_ f g) := λ A φ μ s Q E hA R p hb hQ hE => by
 unfold eRep at hb hQ hE
 refine wpAny_BinOp ?_
 refine h.use hA R p hb hE λ a b φ' μ' s' eg R' x r => ?_
 rw [eg] at hb hQ hE
 refine (h'.keep (v := a) (x := b)).use hA R' r hb (λ e y φ' μ' s' he R' x' r => hE e y φ' μ' s' he R' (x.trans x') (r.le x.dom)) λ aC bC φ2 μ2 s2 eg RC xC rC => ?_
 rw [eg] at hb hQ hE
 exact (Zrp mu_).fin hA RC rC rfl (x.trans xC) hb hQ hE
noncomputable def pSlice (mu_ : Bool) (o i : PV) : PM PV := aLst o >>= λ xs => match i with
 | .int k => chk (decide (0 <= k) && decide (k <= xs.length) && lenOk xs) >>= λ _ => mkList mu_ (xs.drop k.toNat)
 | _ => PM.H
noncomputable def eSlice (mu_ : Bool) (f g : PM PV) : PM PV := f >>= λ x => g >>= λ y => pSlice mu_ x y
theorem Zgg (mu_ : Bool) {value lo : Expr} {p pos : Pos} {f g : PM PV} (h : SimE c F value f) (h' : SimE c F lo g) (ht : ∀ o r, letTemporaryGo value o r = pure ()) : SimE c F (.Subscript value (.Slice (some lo) none none p) pos) (eSlice mu_ f g) := λ A φ μ s Q E hA R p hb hQ hE => by
 unfold eSlice at hb hQ hE
 refine wpAny_Subscript_list_slice ?_ ht
 refine h.use hA R p hb hE λ a b φ' μ' s' eg R' x r => ?_
 rw [eg] at hb hQ hE
 show wpAny _ _ (eval lo F.env) _ _ _
 refine (h'.keep (v := a) (x := b)).use hA R' r hb (λ e y φ' μ' s' he R' x' r => hE e y φ' μ' s' he R' (x.trans x') (r.le x.dom)) λ aC bC φ2 μ2 s2 eg RC xC rC => ?_
 rw [eg] at hb hQ hE
 rw [evalPart_none]
 refine Qp ?_
 unfold pSlice at hb hQ
 obtain ⟨l, vs, n, xs, rfl, hl, hv, e⟩ := Zck RC rC.1 (λ e => hb (by rw [PM.B, e]))
 rw [PM.C e] at hb hQ
 obtain ⟨p1, p2⟩ := rC
 induction p2 using VR.cs with
 | int k t =>
  dsimp only at hb hQ
  obtain ⟨h1, h2⟩ := Zs hb
  rw [h2] at hb hQ
  simp only [Bool.and_eq_true] at h1
  have k0 := of_decide_eq_true h1.1.1
  have k1 := of_decide_eq_true h1.1.2
  have e1 := hv.length
  refine ⟨l, vs.toArray, some k, none, rfl, hl.isList, by rw [size_toArray, e1]; exact Zaf h1.2, .int _ _, .none, ?_⟩
  obtain ⟨R3, xD⟩ := RC.push { cls := .type "slice", data := .fields #[.int k t, .none, .none] } (tk := s2.toks)
  have := Zfw (vs := vs.drop k.toNat) (tk := s2.toks) (Q := Q) mu_ R3 ((x.trans xC).trans xD) ((hv.ext RC xD).drop k.toNat) hb λ v y φ' μ' s' e R' x' r => hQ v y φ' μ' s' e R' x' r
  have hk : slicePick vs.toArray (some k) none none = (vs.drop k.toNat).toArray := by
   have := slicePick_from vs.toArray k.toNat (by simp; omega)
   rw [show ((k.toNat : Nat) : Int) = k by omega] at this
   simpa using this
  rw [hk]
  rw [Heap.size_push] at this
  exact this
 | _ => exact (hb rfl).elim
end

theorem Zgh (l : Addr) (vs : List Value) (n : Nat) (hn : vs.length <= 1000000) :
  Meets (Builtin.«bool.__new__» ⟨[.type "bool", .ref l], []⟩) (λ _ R s => IsL s.heap l vs.toArray n ∧ R (.ok (.ret (.bool (!vs.toArray.isEmpty)))) { s with toks := s.toks + 1 + 1 }) :=
 Meets.of_wp λ prog w A R s hs => by
  obtain ⟨hp, g, d, tk, os⟩ := s
  obtain ⟨hl, hs⟩ := hs
  have f1 := F.conv_sub_bool
  repeat (any_goals (first | assumption | (with_reducible refine wpAny_truthy_list (items := vs.toArray) (IsL.isList hl) (by simp; lia) ?_) | wp_step))
  all_goals first | exact ⟨_, rfl, hs⟩ | exact hs | skip
section
variable {c : Cx} {F : Fx}
noncomputable def pBool : List PV -> PM PV := oneM λ x => aLst x >>= λ xs => chk (lenOk xs) >>= λ _ => pure (.bool (!xs.isEmpty))
theorem Zm4 : SimCall c F (.type "bool") pBool := Zav λ v x A φ μ s Q E hA R p hb hQ hE => by
 obtain ⟨a, vs, n, xs, rfl, hl, hv, e⟩ := Zck R p (λ e => hb (by rw [PM.B, e]))
 rw [PM.C e] at hb hQ
 obtain ⟨h1, h2⟩ := Zs hb
 rw [h2] at hQ
 have hle := Za1 h1
 have e1 := hv.length
 refine call_bool_1 (Zgh a vs n (Qek e1 hle)) ⟨hl, rfl, ?_⟩
 exact hQ _ _ _ _ { s with toks := s.toks + 1 + 1 } rfl (R.toks _) Ext.refl (by cases hv <;> exact .bool _)
noncomputable def eNeg (f : PM PV) : PM PV := f >>= λ x => match x with
 | .int i => pure (.int (-i))
 | _ => PM.H
theorem Zfx {e : Expr} {pos : Pos} {f : PM PV} (h : SimE c F e f) : SimE c F (.UnaryOp .USub e pos) (eNeg f) := λ A φ μ s Q E hA R p hb hQ hE => by
 rw [arm_eval_UnaryOp]
 unfold eNeg at hb hQ hE
 refine Qb (h.use hA R p hb hE λ v y φ' μ' s' eg R' x r => ?_)
 rw [eg] at hb hQ hE
 induction r using VR.cs with
 | int i t => exact Qb (wpAny_standAt (wpAny_holding (neg_int (hQ _ _ _ _ _ rfl (R'.toks _) x (.int _ _)))))
 | _ => exact (hb rfl).elim
noncomputable def orM (v : PV) (g : PM PV) : Bool -> PM PV
 | true => pure v
 | false => g
noncomputable def eOr (f g : PM PV) : PM PV := f >>= λ v => pTruth v >>= λ b => orM v g b
theorem Zpt {pos : Pos} {e e' : Expr} {es : List Expr} {f g : PM PV} (h : SimE c F e f) (h' : SimBo c F pos .Or (evalEach (e' :: es) F.env) g) : SimBo c F pos .Or (evalEach (e :: e' :: es) F.env) (eOr f g) := λ A φ μ s Q E hA R p hb hQ hE => by
 show wpAny _ _ (eval e F.env >>= λ v => standAt pos >>= λ _ => holding [v] (truthy v) >>= λ t => match BoolOp.Or, t with
  | .And, false | .Or, true => pure v
  | _, _ => boolOp pos .Or (evalEach (e' :: es) F.env)) _ _ _
 unfold eOr at hb hQ hE
 refine Qb (h.use hA R trivial hb hE λ v y φ' μ' s' eg R' x r => ?_)
 rw [eg] at hb hQ hE
 refine Qb (wpAny_standAt (Qb (wpAny_holding (Zcw.use hA R' r hb (λ e z φ'' μ'' s'' he R'' x'' r'' => hE e z φ'' μ'' s'' he R'' (x.trans x'') (r''.le x.dom)) (λ a b φ'' μ'' s'' eg R'' x'' r'' => ?_)))))
 rw [eg] at hb hQ hE
 obtain rfl := r''
 cases a with
 | true => exact Qp (hQ _ _ _ _ _ rfl R'' (x.trans x'') (r.ext R' x''))
 | false => exact h'.fin hA R'' trivial rfl (x.trans x'') hb hQ hE
end

namespace FI
theorem slot_li_ga : Slot "list_iterator" "__getattribute__" "object.__getattribute__" :=
 .of (owner := "object") (n := "__getattribute__") (by rw [typeLookup_type, builtinLookup_eq_fast]; kernel_rfl) (by decide +kernel) (by decide +kernel) (by decide +kernel)
  (by first | exact .inl (by decide +kernel) | exact .inr (by decide +kernel)) (by rw [isSubtype_type]; kernel_rfl)
theorem lk_li_next : typeLookup (.type "list_iterator") "__next__" = pure (some (.builtin "list_iterator.__next__")) := by rw [typeLookup_type, builtinLookup_eq_fast]; kernel_rfl
theorem ty_li_next : typeOf (.builtin "list_iterator.__next__") = pure (.type "wrapper_descriptor") := by show builtinType _ = _; rw [builtinType_eq_fast]; kernel_rfl
theorem slot_wd_get : Slot "wrapper_descriptor" "__get__" "wrapper_descriptor.__get__" :=
 .of (owner := "wrapper_descriptor") (n := "__get__") (by rw [typeLookup_type, builtinLookup_eq_fast]; kernel_rfl) (by decide +kernel) (by decide +kernel) (by decide +kernel)
  (by first | exact .inl (by decide +kernel) | exact .inr (by decide +kernel)) (by rw [isSubtype_type]; kernel_rfl)
theorem lk_wd_set : typeLookup (.type "wrapper_descriptor") "__set__" = pure none := by rw [typeLookup_type, builtinLookup_eq_fast]; kernel_rfl
theorem lk_wd_del : typeLookup (.type "wrapper_descriptor") "__delete__" = pure none := by rw [typeLookup_type, builtinLookup_eq_fast]; kernel_rfl
theorem entry_wd_get : entryFor table "wrapper_descriptor.__get__" = some Builtin.«wrapper_descriptor.__get__» := entryFor_of_tree (by kernel_rfl)
theorem entry_obj_ga : entryFor table "object.__getattribute__" = some Builtin.«object.__getattribute__» := entryFor_of_tree (by kernel_rfl)
theorem Zhz : ".".intercalate ("list_iterator.__next__".cutAt '.').dropLast = "list_iterator" := by decide +kernel
theorem sub_li_next : isSubtype (.type "list_iterator") (.type (".".intercalate ("list_iterator.__next__".cutAt '.').dropLast)) = pure true := by
 rw [Zhz, isSubtype_type]; kernel_rfl
end FI
section
variable {prog : Program} {w : World} {A : Around} {E : Value -> Shared -> Prop} {h : Heap} {g : Array GenState} {d : Drawn} {t : Nat} {os : OsState} {a : Addr} {o : Obj}
theorem Zpu {R : Result -> Shared -> Prop} (hx : h.get? a = some o) (hc : o.cls = .type "list_iterator") (hq : R (.ok (.ret (.ref h.objs.size))) ⟨h.push { cls := .type "method-wrapper", data := .fields #[.builtin "list_iterator.__next__", .ref a] }, g, d, t, os⟩) :
  codeAny (model prog w) A (.call (.builtin "wrapper_descriptor.__get__") ⟨[.builtin "list_iterator.__next__", .ref a, .type "list_iterator"], []⟩) R ⟨h, g, d, t, os⟩ := by
 have hT : (⟨h, g, d, t, os⟩ : Shared).TypeIs (.ref a) "list_iterator" := ⟨_, hx, hc⟩
 have hT5 : (⟨h, g, d, t, os⟩ : Shared).TypeIs (.builtin "list_iterator.__next__") "wrapper_descriptor" := FI.ty_li_next
 have f8 := FI.sub_li_next
 refine codeAny_call_builtin FI.slot_wd_get.plain FI.entry_wd_get (FI.slot_wd_get.check _ _ _ _ _ _ _ _ hT5 (by unfold argsOk; kernel_rfl) ?_)
 repeat (any_goals (first | assumption | wp_step))
theorem Zm5 {vs : Array Value} {tk : Tok} {Q : Fin -> Shared -> Prop} (hx : h.get? a = some { cls := .type "list_iterator", data := .fields vs }) (hq : Q (.done (.ret (.ref h.objs.size))) ⟨h.push { cls := .type "method-wrapper", data := .fields #[.builtin "list_iterator.__next__", .ref a] }, g, d, t, os⟩) :
  wpAny (model prog w) A (Builtin.«object.__getattribute__» ⟨[.ref a, .str "__next__" tk], []⟩) Q E ⟨h, g, d, t, os⟩ := by
 have hT : (⟨h, g, d, t, os⟩ : Shared).TypeIs (.ref a) "list_iterator" := ⟨_, hx, rfl⟩
 have hT5 : (⟨h, g, d, t, os⟩ : Shared).TypeIs (.builtin "list_iterator.__next__") "wrapper_descriptor" := FI.ty_li_next
 have f4 := FI.lk_li_next
 have f5 := FI.ty_li_next
 have f6 := FI.slot_wd_get.lookup
 have f7 := FI.lk_wd_set
 have f9 := FI.lk_wd_del
 repeat (any_goals (first | assumption | wp_step))
 refine Zpu hx rfl ?_
 repeat (any_goals (first | assumption | wp_step))
theorem Zot {vs : Array Value} {Q : Value -> Shared -> Prop} (hx : h.get? a = some { cls := .type "list_iterator", data := .fields vs }) (hq : Q (.ref h.objs.size) ⟨h.push { cls := .type "method-wrapper", data := .fields #[.builtin "list_iterator.__next__", .ref a] }, g, d, t + 1, os⟩) :
  wpAny (model prog w) A (getAttr (.ref a) "__next__" true) Q E ⟨h, g, d, t, os⟩ := by
 have hT : ∀ t, (⟨h, g, d, t, os⟩ : Shared).TypeIs (.ref a) "list_iterator" := λ t => ⟨_, hx, rfl⟩
 have f2 := FI.slot_li_ga.lookup
 have f3 := FI.slot_li_ga.bind (.ref a)
 unfold getAttr getAttrBy
 repeat (any_goals (first | assumption | exact hT _ | wp_step))
 refine codeAny_call_builtin FI.slot_li_ga.plain FI.entry_obj_ga (FI.slot_li_ga.check _ _ _ _ _ _ _ _ (hT _) (by unfold argsOk; kernel_rfl) ?_)
 refine Zm5 hx ?_
 repeat (any_goals (first | assumption | wp_step))
end
namespace FI
theorem kind_iter : builtinKind "iter" = none := by decide +kernel
theorem plain_iter : plainId "iter" = true := by decide +kernel
theorem entry_iter : entryFor table "iter" = some Builtin.«iter» := entryFor_of_fast (by kernel_rfl)
theorem args_iter1 (a : Value) : argsOk "iter" ⟨[a], []⟩ := by unfold argsOk; kernel_rfl
theorem check_li_next (a : Value) : checkBoundCall "list_iterator.__next__" ⟨[a], []⟩ = pure () := by first | kernel_rfl | rfl
end FI
section
variable {c : Cx} {F : Fx}
noncomputable def pIter : List PV -> PM PV := oneM λ x => theLst x >>= λ p => allocM (.itr p.1 0) >>= λ i => pure (.obj i)
theorem Zpv : SimCall c F (.builtin "iter") pIter := Zav λ v x A φ μ s Q E hA R p hb hQ hE => by
 obtain ⟨i, xs, et⟩ := Zbc (λ e => hb (by rw [PM.B, e]))
 obtain ⟨a, vs', n, rfl, hi, hl, hvs, rfl⟩ := Zdf R p et
 rw [PM.C et] at hQ
 refine Calls.call_function_entry FI.kind_iter FI.plain_iter FI.entry_iter (FI.args_iter1 _) ?_
 unfold Builtin.«iter»
 refine Qb (m := someArgs "iter" 1 2 _) (Qp ?_)
 refine Qb (wpAny_pyIter_list hl.isList ?_)
 refine Qp ?_
 obtain ⟨RB, xB⟩ := R.alloc (ob := { cls := .type "list_iterator", data := .fields #[.ref a, .int 0 0] }) (o := .itr i 0) (tk := s.toks) rfl λ hg _ _ => .itr (getElem?_app hi) hg
 exact ⟨_, rfl, hQ _ _ _ _ _ rfl RB xB (.obj (by rw [<- R.len]; simp))⟩
noncomputable def eNxt (f : PM PV) : PM PV := f >>= λ x => match x with
 | .obj i => λ μ => match μ.hp[i]? with
  | some (.itr _ _) => .ok (.nxt i) μ
  | _ => .bad
 | _ => PM.H
theorem Zpw {value : Expr} {pos : Pos} {f : PM PV} (h : SimE c F value f) (hbase : attributeBase value "__next__" F.env (eval value F.env) = eval value F.env) : SimE c F (.Attribute value "__next__" pos) (eNxt f) := λ A φ μ s Q E hA R p hb hQ hE => by
 rw [arm_eval_Attribute, hbase]
 unfold eNxt at hb hQ hE
 refine Qb (h.use hA R p hb hE λ v y φ' μ' s' eg R' x r => ?_)
 rw [eg] at hb hQ hE
 induction r using VR.cs with
 | @obj i a h1 =>
  dsimp only at hb hQ
  cases hi : μ'.hp[i]? with
  | none => rw [hi] at hb; exact (hb rfl).elim
  | some ob =>
   have q := R'.objs i a ob h1 hi
   induction q using OR.cs with
   | itr k1 k2 =>
    rw [hi] at hQ
    refine Qb (wpAny_standAt (Qb (wpAny_holding (Zot k2 ?_))))
    obtain ⟨RB, xB⟩ := R'.push { cls := .type "method-wrapper", data := .fields #[.builtin "list_iterator.__next__", .ref a] } (tk := s'.toks + 1)
    exact Qb (wpAny_letTemporaryGo (Qp (hQ _ _ _ _ _ rfl RB (x.trans xB) (.nxt h1 (Heap.get?_push_size _ rfl) λ hm => absurd (R'.phiLt hm) (Nat.lt_irrefl _)))))
   | _ => rw [hi] at hb; exact (hb rfl).elim
 | _ => exact (hb rfl).elim
noncomputable def pNext (x : PV) : List PV -> PM PV
 | [] => (match x with
  | .nxt i => λ μ => match μ.hp[i]? with
   | some (.itr l k) => (match μ.hp[l]? with
    | some (.lst xs) => (match xs[k]? with
     | some y => .ok y ⟨μ.fr, μ.hp.set i (.itr l (k + 1))⟩
     | none => .exc (.type "StopIteration") ⟨μ.fr, μ.hp.set i .dead⟩)
    | _ => .bad)
   | _ => .bad
  | _ => PM.H)
 | _ => PM.H
theorem Zpx (hh : F.hd = true) (f : Value) (x : PV) (vs : List Value) (ys : List PV) : Sim c F (λ φ h => VR φ h f x ∧ VRs φ h vs ys) (λ φ h v x => VR φ h v x) (call f vs) (pNext x ys) := λ A φ μ s Q E hA R p hb hQ hE => by
 unfold pNext at hb hQ hE
 obtain ⟨p1, p2⟩ := p
 induction p2 using VRs.cs with
 | cons => exact (hb rfl).elim
 | nil =>
 induction p1 using VR.cs with
 | @nxt i a m h1 h2 h3 =>
  dsimp only at hb hQ hE
  cases hi : μ.hp[i]? with
  | none => rw [hi] at hb; exact (hb rfl).elim
  | some ob =>
   have q := R.objs i a ob h1 hi
   induction q using OR.cs with
   | @itr l k la k1 k2 =>
    rw [hi] at hb hQ hE
    dsimp only at hb hQ hE
    cases hl : μ.hp[l]? with
    | none => rw [hl] at hb; exact (hb rfl).elim
    | some ol =>
     have q := R.objs l la ol k1 hl
     cases q with
     | @lst vs n xs l1 l2 =>
      rw [hl] at hb hQ hE
      dsimp only at hb hQ hE
      refine wpAny_call (codeAny_of_tree ?_)
      show wpAny _ A.in1 (callAny (.ref m) ⟨[], []⟩) _ _ s
      unfold callAny
      dsimp only
      refine Qb (wpAny_load h2 ?_)
      simp only [show (Value.type "method-wrapper" == Value.type "method" || Value.type "method-wrapper" == Value.type "builtin_function_or_method" || Value.type "method-wrapper" == Value.type "method-wrapper") = true by decide, if_true]
      refine wpAny_ite ?_
      rw [if_pos (by decide)]
      refine Qb (wpAny_of_eq (a := ()) (FI.check_li_next _) ?_)
      refine Qb (Qp (Qp ⟨Code.quiet_builtin _ (by decide +kernel), codeAny_builtin entry_listiter_next ?_⟩))
      show wpAny _ _ (field (.ref a) 0 >>= _) _ _ s
      refine Qb (wpAny_field k2 rfl (x := .ref la) rfl ?_)
      show wpAny _ _ (if (Value.ref la == Value.none) = true then _ else _) _ _ s
      rw [if_neg (show ¬ ((Value.ref la == Value.none) = true) from Bool.false_ne_true)]
      show wpAny _ _ (field (.ref a) 1 >>= _) _ _ s
      refine Qb (wpAny_field k2 rfl (x := .int k 0) rfl ?_)
      show wpAny _ _ (seqItems? (.ref la) >>= _) _ _ s
      refine Qb (wpAny_seqItems l1 rfl ?_)
      cases hx : xs[k]? with
      | some y =>
       rw [hx] at hQ
       obtain ⟨w, hw, hr⟩ := l2.get hx
       simp only [Int.toNat_natCast, show vs.toArray[k]? = some w by simpa using hw]
       refine Qb (wpAny_setField k2 rfl (by simp) (Qp ?_))
       obtain ⟨RB, xB⟩ := R.upd (tk := s.toks) (o := .itr l (k + 1)) h1 (Heap.SameBut.update s.heap a (Obj.mapFields (·.set! 1 (rawInt ((k : Int) + 1))))) λ hm => .itr k1 (Heap.get?_update_self _ k2 rfl)
       exact hQ _ _ _ _ _ rfl RB xB (hr.ext R xB)
      | none =>
       rw [hx] at hE
       have hn : vs.toArray[k]? = none := by
        have := l2.length
        rw [List.getElem?_eq_none_iff] at hx
        simp; exact Qek this hx
       simp only [Int.toNat_natCast, hn]
       refine Qb (wpAny_rule (Qb (wpAny_setField k2 rfl (by simp) ?_)))
       obtain ⟨RB, xB⟩ := R.upd (tk := s.toks) (o := .dead) h1 (Heap.SameBut.update s.heap a (Obj.mapFields (·.set! 0 .none))) λ hm => .dead (Heap.get?_update_self _ k2 rfl)
       obtain ⟨RC, xC⟩ := RB.push { cls := .type "tuple", data := .seq #[] } (tk := s.toks)
       show wpAny _ _ (newExc (.type "StopIteration") [] >>= _) _ _ _
       refine Qb ?_
       simp only [newExc, newTuple]
       refine Qb (wpAny_newObj_type ?_ (by size_fits))
       refine Qb (m := firstArgMember _ _) (wpAny_of_eq (a := Value.none) (by first | rfl | (simp only [firstArgMember]; rfl)) ?_)
       refine wpAny_newObj_type ?_ (by size_fits)
       unfold raiseNew
       refine Qb (wpAny_handled ?_)
       rw [show (A.under (Code.builtin "list_iterator.__next__" { pos := [#[Value.builtin "list_iterator.__next__", Value.ref a][1]] })).handled = none from hA.handled hh]
       refine wpAny_throw ?_
       have e1 : (λ x : Array Value => x.setIfInBounds 0 Value.none) = (λ x : Array Value => x.set! 0 Value.none) := rfl
       rw [e1]
       refine hE _ _ φ _ _ rfl (RC.push _ (tk := s.toks)).1 (xB.trans (xC.trans (RC.push _ (tk := s.toks)).2)) ?_
       refine Zpq RC (xB.trans xC) (Heap.StaysIn.fresh (λ _ _ e => e)) (λ a o e => Heap.get?_push_of_some _ e) (Heap.get?_push_size _ rfl) rfl rfl (by simp; exact Qkb Qr rfl) rfl (by intro n hn; simp at hn; rcases hn with rfl | rfl | rfl | rfl | rfl <;> decide)
     | _ => rw [hl] at hb; exact (hb rfl).elim
   | _ => rw [hi] at hb; exact (hb rfl).elim
 | _ => exact (hb rfl).elim
end

section
variable {c : Cx} {F : Fx}
noncomputable def eNextCall (f : PM PV) : PM PV := f >>= λ x => pNext x []
theorem Zh0 {func : Expr} {pos : Pos} {f : PM PV} (hh : F.hd = true) (h : SimE c F func f) (he : eval (.Call func [] [] pos) F.env = (eval func F.env >>= λ g => callWith pos g [] [] [])) : SimE c F (.Call func [] [] pos) (eNextCall f) := λ A φ μ s Q E hA R p hb hQ hE => by
 rw [he]
 unfold eNextCall at hb hQ hE
 refine Qb (h.use hA R p hb hE λ v y φ' μ' s' eg R' x r => ?_)
 rw [eg] at hb hQ hE
 cases y with
 | nxt i =>
  have := Za2 (c := c) (F := F) (pos := pos) (f := v) (first := []) (ts := []) (g := pure []) (k := pNext (.nxt i)) (P := λ φ h => VR φ h v (.nxt i)) .nil (λ _ _ _ _ _ R e r => r.ext R e) (λ φ h X r => by
    cases r with
    | nxt h1 h2 h3 => exact ⟨.machine, .inr (.inl rfl), (Looks.ld (part := none) h2).andThen .now⟩) (λ vs ys => Zpx hh v (.nxt i) vs ys)
  exact this.fin hA R' r rfl x hb hQ hE
 | _ => exact (hb rfl).elim
end

structure FxG (F : Fx) (names : List (Str × NameKind)) (vs : List (Str × Nat)) (n lv : Nat) : Prop where
 kind : F.env.scope.kind = .function
 glob : F.env.globals = mainGlobals
 bui : F.env.builtins = builtinsNs
 lv : F.lv = lv
 names : F.env.scope.names = names
 flen : F.locs.length = n
 loc : F.env.locals ∈ F.nss
 var : ∀ x k, vs.lookup x = some k -> VarAt F x k
noncomputable def numbered {α : Type} (n : Nat) : List (Str × α) -> List (Str × Nat)
 | [] => []
 | (x, _) :: r => (x, n) :: numbered (n + 1) r
theorem Zm6 {α : Type} {n : Nat} {e : Str × α} {r : List (Str × α)} : numbered n (e :: r) = (e.1, n) :: numbered (n + 1) r := rfl
theorem Zef {α : Type} {x : Str} {k : Nat} : ∀ {l : List (Str × α)} {n : Nat}, (numbered n l).lookup x = some k -> ∃ a, l[k - n]? = some (x, a) ∧ n <= k
 | [], n, h => by cases h
 | (y, a) :: r, n, h => by
  rw [Zm6, lookup_cons] at h
  cases q : x == y with
  | true =>
   rw [q] at h
   cases h
   rw [eq_of_beq q]
   exact ⟨a, by simp, Qr⟩
  | false =>
   rw [q] at h
   obtain ⟨b, h1, h2⟩ := Zef h
   refine ⟨b, ?_, Qlk h2 Qr⟩
   rw [show k - n = (k - (n + 1)) + 1 by lia]
   exact h1
theorem Za3 {α : Type} {x : Str} {a : α} : ∀ {l : List (Str × α)}, (l.map (·.1)).Nodup -> (x, a) ∈ l -> l.lookup x = some a
 | [], _, h => nomatch h
 | (y, b) :: r, hn, h => by
  rw [map_cons, nodup_cons] at hn
  rw [lookup_cons]
  rcases Qmc h with e | h'
  ·cases e; simp
  ·have : (x == y) = false := by
    rw [beq_eq_false_iff_ne]
    intro e
    subst e
    exact hn.1 (mem_map_of_mem (f := (·.1)) h')
   rw [this]
   exact Za3 hn.2 h'
noncomputable def fnVs (names : List (Str × NameKind)) : List (Str × Nat) := numbered 0 (ownNames names)
theorem Zja {names : List (Str × NameKind)} (hn : (names.map (·.1)).Nodup) {x : Str} {k n L c₀ : Nat} {acc : List (Str × Addr)} (h : (numbered n (ownNames names)).lookup x = some k) :
  n <= k ∧ ((names.lookup x = some .local ∧ (locsOf L (cellsFrom c₀ names acc) names)[k - n]? = some (.loc L x)) ∨
   (names.lookup x = some .cell ∧ ∃ a, (cellsFrom c₀ names acc).lookup x = some a ∧ (locsOf L (cellsFrom c₀ names acc) names)[k - n]? = some (.cell a))) := by
 obtain ⟨kd, h1, h2⟩ := Zef h
 refine ⟨h2, ?_⟩
 obtain ⟨hm, hk⟩ := Zax (mem_of_getElem? h1)
 have hl := Za3 hn hm
 have e : (locsOf L (cellsFrom c₀ names acc) names)[k - n]? = some (if kd == .local then .loc L x else .cell (((cellsFrom c₀ names acc).lookup x).getD 0)) := by
  unfold locsOf
  rw [List.getElem?_map, h1]; rfl
 rcases hk with hk | hk
 ·have hk : kd = .local := hk
  subst hk
  exact .inl ⟨hl, e⟩
 ·have hk : kd = .cell := hk
  subst hk
  obtain ⟨a, ha⟩ := Option.isSome_iff_exists.mp (Zay x names c₀ acc (.inl hm))
  refine .inr ⟨hl, a, ha, e.trans ?_⟩
  rw [ha]; rfl
theorem FxG.fn {fd : FuncData} {L a : Addr} {outer : List Env} {lv : Nat} {sc : Scope} (hs : fd.scope = sc) (hk : sc.kind = .function) (hg : fd.globals = mainGlobals) (hb : fd.builtins = builtinsNs) (hn : (sc.names.map (·.1)).Nodup) :
  FxG (fxOf fd L a outer lv) sc.names (fnVs sc.names) (ownNames sc.names).length lv := by
 subst hs
 refine ⟨hk, hg, hb, rfl, rfl, ?_, mem_singleton.mpr rfl, λ x k h => ?_⟩
 ·show (locsOf L _ fd.scope.names).length = _
  unfold locsOf; simp
 ·rcases (Zja (L := L) (c₀ := L + 1) (acc := []) hn h).2 with ⟨h1, h2⟩ | ⟨h1, a, h2, h3⟩
  ·exact .loc h1 h2
  ·exact .cell h1 h2 h3
noncomputable def cloOf (scope : Scope) (env : Env) : List (Str × Addr) := scope.names.foldl (λ cs x => if x.2 == .free then (x.1, (env.cells.lookup x.1).getD 0) :: cs else cs) []
theorem Zdo {env : Env} : ∀ (l : List (Str × NameKind)) (cs : List (Str × Addr)), (∀ x ∈ l, x.2 = .free -> (env.cells.lookup x.1).isSome = true) ->
  (forIn l cs (λ x (r : List (Str × Addr)) => (if x.2 == NameKind.free then do let a <- cellOf env x.1; pure (ForInStep.yield ((x.1, a) :: r)) else pure (ForInStep.yield r) : Sem (ForInStep (List (Str × Addr)))))) =
   pure (l.foldl (λ cs x => if x.2 == .free then (x.1, (env.cells.lookup x.1).getD 0) :: cs else cs) cs)
 | [], cs, _ => rfl
 | x :: l, cs, h => by
  rw [forIn_cons, foldl_cons]
  cases hk : x.2 == NameKind.free with
  | false =>
   simp only [Bool.false_eq_true, if_false]
   rw [pure_bind]
   exact Zdo l cs λ y hy => h y (mem_cons_of_mem _ hy)
  | true =>
   obtain ⟨a, ha⟩ := Option.isSome_iff_exists.mp (h x mem_cons_self (eq_of_beq hk))
   simp only [if_true]
   have : cellOf env x.1 = pure a := by unfold cellOf; rw [ha]
   rw [this, pure_bind, pure_bind, ha]
   exact Zdo l _ λ y hy => h y (mem_cons_of_mem _ hy)
theorem Zm7 {scope : Scope} {env : Env} (h : ∀ x ∈ scope.names, x.2 = .free -> (env.cells.lookup x.1).isSome = true) : closureFor scope env = pure (cloOf scope env) := by
 unfold closureFor cloOf
 have := Zdo scope.names [] h
 simp only [bind_pure] at this ⊢
 refine Eq.trans ?_ this
 rfl
noncomputable def freeOk (names : List (Str × NameKind)) (vs : List (Str × Nat)) (scope : Scope) : Bool :=
 scope.names.all λ x => x.2 != .free || ((vs.lookup x.1).isSome && names.lookup x.1 != some .local)
noncomputable def compNames (names : List (Str × NameKind)) (scope : Scope) : List (Str × NameKind) :=
 scope.names.map λ x => if x.2 == .free && names.lookup x.1 == some .cell then (x.1, .cell) else x
noncomputable def freeNames (scope : Scope) : List (Str × NameKind) := scope.names.filter λ x => x.2 == .free
noncomputable def compVs (n : Nat) (vs : List (Str × Nat)) (scope : Scope) : List (Str × Nat) :=
 numbered n (ownNames scope.names) ++ (freeNames scope).filterMap λ x => (vs.lookup x.1).map λ k => (x.1, k)
theorem Zgi {α : Type} {x : Str} {a : α} : ∀ {l r : List (Str × α)}, (l ++ r).lookup x = some a -> l.lookup x = some a ∨ (l.lookup x = none ∧ r.lookup x = some a)
 | [], r, h => .inr ⟨rfl, h⟩
 | (y, b) :: l, r, h => by
  rw [List.cons_append, lookup_cons] at h
  rw [lookup_cons]
  cases q : x == y with
  | true => rw [q] at h; exact .inl h
  | false => rw [q] at h; exact Zgi h
theorem Zjb {env : Env} {x : Str} {a : Addr} (ha : env.cells.lookup x = some a) : ∀ (l : List (Str × NameKind)) (cs : List (Str × Addr)), ((x, NameKind.free) ∈ l ∨ cs.lookup x = some a) ->
  (l.foldl (λ cs x => if x.2 == .free then (x.1, (env.cells.lookup x.1).getD 0) :: cs else cs) cs).lookup x = some a
 | [], cs, h => h.resolve_left (λ h => nomatch h)
 | y :: l, cs, h => by
  rw [foldl_cons]
  refine Zjb ha l _ ?_
  rcases h with h | h
  ·rcases Qmc h with e | h
   ·right
    subst e
    simp [ha]
   ·exact .inl h
  ·right
   split
   ·rw [lookup_cons]
    cases q : x == y.1 with
    | true => rw [<- eq_of_beq q, ha]; rfl
    | false => exact h
   ·exact h
theorem Zeg (x : Str) {a : Addr} : ∀ (names : List (Str × NameKind)) (n : Nat) (acc : List (Str × Addr)), (x, NameKind.cell) ∉ names -> acc.lookup x = some a -> (cellsFrom n names acc).lookup x = some a
 | [], n, acc, _, h => h
 | (y, k) :: r, n, acc, hn, h => by
  unfold cellsFrom
  have hr : (x, NameKind.cell) ∉ r := λ h => hn (mem_cons_of_mem _ h)
  split
  ·rename_i hk
   have hk := eq_of_beq hk
   refine Zeg x r _ _ hr ?_
   rw [lookup_cons]
   have : (x == y) = false := by
    rw [beq_eq_false_iff_ne]
    intro e
    exact hn (by rw [e, <- hk]; exact mem_cons_self)
   rw [this]; exact h
  ·exact Zeg x r _ _ hr h
theorem Zeh (x : Str) : ∀ (names : List (Str × NameKind)) (n : Nat) (acc acc' : List (Str × Addr)), ((x, NameKind.cell) ∈ names ∨ acc.lookup x = acc'.lookup x) -> (cellsFrom n names acc).lookup x = (cellsFrom n names acc').lookup x
 | [], n, acc, acc', h => h.resolve_left (λ h => nomatch h)
 | (y, k) :: r, n, acc, acc', h => by
  unfold cellsFrom
  split
  ·rename_i hk
   refine Zeh x r _ _ _ ?_
   rcases h with h | h
   ·rcases Qmc h with e | h
    ·cases e; right; simp
    ·exact .inl h
   ·right
    rw [lookup_cons, lookup_cons, h]
  ·rename_i hk
   refine Zeh x r _ _ _ ?_
   rcases h with h | h
   ·rcases Qmc h with e | h
    ·cases e; exact absurd rfl hk
    ·exact .inl h
   ·exact .inr h
theorem Zjc {env : Env} {names : List (Str × NameKind)} {scope : Scope} (hk : env.scope.kind = .function) (hn : env.scope.names = names) : (scope.names.map λ (n, k) => if ownCell env n k then (n, NameKind.cell) else (n, k)) = compNames names scope := by
 unfold compNames ownCell
 refine map_congr_left λ x _ => ?_
 obtain ⟨n, k⟩ := x
 dsimp only
 rw [hk, show env.kindOf n = names.lookup n by unfold Env.kindOf; rw [hn]]
 simp
theorem Zfy {names : List (Str × NameKind)} {scope : Scope} {x : Str} {k : NameKind} (hn : (scope.names.map (·.1)).Nodup) (h : (x, k) ∈ scope.names) :
  (compNames names scope).lookup x = some (if k == .free && names.lookup x == some .cell then .cell else k) := by
 refine Za3 ?_ ?_
 ·unfold compNames
  rw [map_map]
  have : ((λ x => x.1) ∘ λ x : Str × NameKind => if x.2 == .free && names.lookup x.1 == some .cell then (x.1, NameKind.cell) else x) = (·.1) := by
   funext x; dsimp only [Function.comp]; split <;> rfl
  rw [this]; exact hn
 ·unfold compNames
  refine mem_map.mpr ⟨(x, k), h, ?_⟩
  dsimp only
  split <;> rfl
theorem FxG.cells {F : Fx} {names : List (Str × NameKind)} {vs : List (Str × Nat)} {n lv : Nat} (G : FxG F names vs n lv) {x : Str} (h1 : (vs.lookup x).isSome = true) (h2 : names.lookup x ≠ some .local) :
  ∃ k a, vs.lookup x = some k ∧ F.env.cells.lookup x = some a ∧ F.locs[k]? = some (.cell a) ∧ (names.lookup x = some .cell ∨ names.lookup x = some .free) := by
 obtain ⟨k, hk⟩ := Option.isSome_iff_exists.mp h1
 have e : F.env.kindOf x = names.lookup x := by unfold Env.kindOf; rw [G.names]
 cases G.var x k hk with
 | loc h _ => rw [e] at h; exact absurd h h2
 | cell h q r => rw [e] at h; exact ⟨k, _, hk, q, r, .inl h⟩
 | free h q r => rw [e] at h; exact ⟨k, _, hk, q, r, .inr h⟩
theorem FxG.closure {F : Fx} {names : List (Str × NameKind)} {vs : List (Str × Nat)} {n lv : Nat} (G : FxG F names vs n lv) {scope : Scope} (h : freeOk names vs scope = true) : closureFor scope F.env = pure (cloOf scope F.env) := by
 refine Zm7 λ x hx hf => ?_
 unfold freeOk at h
 have := all_eq_true.mp h x hx
 rw [hf, Bool.or_eq_true, Bool.and_eq_true] at this
 rcases this with this | this
 ·cases this
 obtain ⟨k, a, _, q, _⟩ := G.cells this.1 (bne_iff_ne.mp this.2)
 rw [q]; rfl
theorem FxG.comp {F : Fx} {names : List (Str × NameKind)} {vs : List (Str × Nat)} {n lv : Nat} (G : FxG F names vs n lv) {scope : Scope} (hk : scope.kind = .function) (hn : (scope.names.map (·.1)).Nodup) (hf : freeOk names vs scope = true) (Lc : Addr) :
  FxG (compFx F scope Lc (cloOf scope F.env)) (compNames names scope) (compVs n vs scope) (n + (ownNames scope.names).length) lv := by
 have hnames : (compFx F scope Lc (cloOf scope F.env)).env.scope.names = compNames names scope := Zjc G.kind G.names
 refine ⟨hk, G.glob, G.bui, G.lv, hnames, ?_, mem_cons_self, λ x k h => ?_⟩
 ·show (F.locs ++ locsOf Lc (newCells Lc scope) scope.names).length = _
  rw [length_append, G.flen]
  congr 1
  unfold locsOf; simp
 ·have hko : (compFx F scope Lc (cloOf scope F.env)).env.kindOf x = (compNames names scope).lookup x := by unfold Env.kindOf; rw [hnames]
  have hlook : ∀ kd, scope.names.lookup x = some kd -> (compNames names scope).lookup x = some (if kd == .free && names.lookup x == some .cell then .cell else kd) := λ kd hkd => Zfy hn (mem_of_lookup hkd)
  rcases Zgi h with h | ⟨_, h⟩
  ·obtain ⟨hle, q⟩ := Zja (L := Lc) (c₀ := Lc + 1) (acc := []) hn h
   have hat : ∀ l, (locsOf Lc (newCells Lc scope) scope.names)[k - n]? = some l -> (compFx F scope Lc (cloOf scope F.env)).locs[k]? = some l := λ l hl => by
    show (F.locs ++ locsOf Lc (newCells Lc scope) scope.names)[k]? = _
    rw [List.getElem?_append_right (by rw [G.flen]; exact hle), G.flen]
    exact hl
   rcases q with ⟨h1, h2⟩ | ⟨h1, a, h2, h3⟩
   ·exact .loc (hko.trans (hlook _ h1)) (hat _ h2)
   ·refine .cell (hko.trans (hlook _ h1)) (a := a) ?_ (hat _ h3)
    show (cellsFrom (Lc + 1) scope.names (cloOf scope F.env)).lookup x = some a
    rw [<- h2]
    exact Zeh x scope.names (Lc + 1) (cloOf scope F.env) [] (.inl (mem_of_lookup h1))
  ·have hm := mem_of_lookup h
   obtain ⟨y, hy, e⟩ := List.mem_filterMap.mp hm
   obtain ⟨k', hk', e⟩ := Option.map_eq_some_iff.mp e
   cases e
   obtain ⟨hy1, hy2⟩ := mem_filter.mp hy
   have hy2 : y.2 = .free := by simpa using hy2
   obtain ⟨x, kd⟩ := y
   dsimp only at hy2 hk'
   subst hy2
   have hfo := all_eq_true.mp hf _ hy1
   rw [Bool.or_eq_true, Bool.and_eq_true] at hfo
   rcases hfo with hfo | hfo
   ·cases hfo
   obtain ⟨kC, a, q1, q2, q3, q4⟩ := G.cells hfo.1 (bne_iff_ne.mp hfo.2)
   rw [hk'] at q1; cases q1
   have hl := Za3 hn hy1
   have hcl : (compFx F scope Lc (cloOf scope F.env)).env.cells.lookup x = some a := by
    show (cellsFrom (Lc + 1) scope.names (cloOf scope F.env)).lookup x = some a
    refine Zeg x scope.names _ _ (λ hc => ?_) (Zjb q2 scope.names [] (.inl hy1))
    have := Za3 hn hc
    rw [hl] at this; cases this
   have hat : (compFx F scope Lc (cloOf scope F.env)).locs[k]? = some (.cell a) := getElem?_app q3
   rcases q4 with q4 | q4
   ·refine .cell ((hko.trans (hlook _ hl)).trans ?_) hcl hat
    rw [q4]; rfl
   ·refine .free ((hko.trans (hlook _ hl)).trans ?_) hcl hat
    rw [q4]; rfl

noncomputable def tfTwo (asg : PV -> PM Unit) (g : PM PV) (tf : PV -> PM Unit) (n : Nat) (x : PV) : PM Unit := asg x >>= λ _ => g >>= λ pv => λ μ => match compIx (getIt pv μ) tf n 0 μ with
 | .ok u μ' => .ok u μ'
 | _ => .bad
section
variable {c : Cx} {G : Fx}
theorem Zrq {elt t0 i0 t1 i1 : Expr} {scope : Scope} {pos : Pos} {asg : PV -> PM Unit} {f : PM PV} {acc : Addr} {i : Nat} (hasg : SimT c G (assign t1 G.env) asg) (hf : SimE c G elt f) :
  LoopSim c G (.ListComp elt [⟨t0, i0, [], 0⟩, ⟨t1, i1, [], 0⟩] scope pos) 1 acc i (tfA asg f i) := λ it ob v pv get hI hS A φ0 φ h₀ μ μF s Rr hA n k R xA hit hnew hn hB hv hacc hok hQ => by
 refine Zbi (p := i1.pos) (target := t1) (T := λ v => (assign t1 G.env v >>= λ _ => (eval elt G.env >>= λ x => call (.builtin "list.append") [.ref acc, x] >>= λ _ => pure ()) >>= λ _ =>
     again (.compLoop (.ListComp elt [⟨t0, i0, [], 0⟩, ⟨t1, i1, [], 0⟩] scope pos) 1 (.ref it) (.ref acc) G.env))) (P := λ φ h => VR φ h (.ref acc) (.obj i)) rfl rfl rfl (λ A => ?_) hI hS
  (λ _ _ _ _ _ R e r => r.ext R e) (λ _ _ _ _ _ mv r => mv _ _ r) (λ w x => ?_) hA n k R xA hit hnew hn hB hv hacc hok hQ
 ·exact Around.under_of_weight rfl
 ·intro A φ μ s Q E hA R p hb hQ hE
  unfold tfA at hb hQ hE
  refine Qb ((hasg w x).use hA R p.1 hb hE λ _ _ φ1 μ1 s1 eg RB xB _ => ?_)
  rw [eg] at hb hQ hE
  exact Qb ((Zfu hf).fin hA RB (p.2.ext R xB) rfl xB hb (λ a b φ' μ' s' e R' x' _ => Qp (hQ _ b φ' μ' s' e R' x' rfl)) hE)
theorem Zsx {elt t0 i0 t1 i1 : Expr} {scope : Scope} {pos : Pos} {asg : PV -> PM Unit} {g : PM PV} {tf : Nat -> PV -> PM Unit} {nB : Nat} {acc : Addr} {i : Nat} (hh : G.hd = true) (hasg : SimT c G (assign t0 G.env) asg) (hg : SimE c G i1 g)
  (hfold : ∀ x, foldedSetIterable i1 G.env x = pure x) (hin : LoopSim c G (.ListComp elt [⟨t0, i0, [], 0⟩, ⟨t1, i1, [], 0⟩] scope pos) 1 acc i (tf i)) :
  LoopSim c G (.ListComp elt [⟨t0, i0, [], 0⟩, ⟨t1, i1, [], 0⟩] scope pos) 0 acc i (tfTwo asg g (tf i) nB) := λ it ob v pv get hI hS A φ0 φ h₀ μ μF s Rr hA n k R xA hit hnew hn hB hv hacc hok hQ => by
 refine Zbi (p := i0.pos) (target := t0) (T := λ v => (assign t0 G.env v >>= λ _ => (eval i1 G.env >>= λ x => standAt i1.pos >>= λ _ => foldedSetIterable i1 G.env x >>= λ x => holding [x] (pyIter x) >>= λ j =>
     runOwn (.compStart (.ListComp elt [⟨t0, i0, [], 0⟩, ⟨t1, i1, [], 0⟩] scope pos) 1 j (.ref acc) G.env) G.env >>= λ _ =>
     again (.compLoop (.ListComp elt [⟨t0, i0, [], 0⟩, ⟨t1, i1, [], 0⟩] scope pos) 0 (.ref it) (.ref acc) G.env)))) (P := λ φ h => VR φ h (.ref acc) (.obj i)) rfl rfl rfl (λ A => ?_) hI hS
  (λ _ _ _ _ _ R e r => r.ext R e) (λ _ _ _ _ _ mv r => mv _ _ r) (λ w x => ?_) hA n k R xA hit hnew hn hB hv hacc hok hQ
 ·exact Around.under_of_weight rfl
 ·intro A φ μ s Q E hA R p hb hQ hE
  unfold tfTwo at hb hQ hE
  refine Qb ((hasg w x).use hA R p.1 hb hE λ _ _ φ1 μ1 s1 eg RB xB _ => ?_)
  rw [eg] at hb hQ hE
  refine Qb (hg.use hA RB trivial hb (λ e y φ' μ' s' he R' x' r => hE e y φ' μ' s' he R' (xB.trans x') (r.le xB.dom)) λ y pv2 φ2 μ2 s2 eg RC xC rC => ?_)
  rw [eg] at hb hQ hE
  try dsimp only at hb hQ
  cases hrun : compIx (getIt pv2 μ2) (tf i) nB 0 μ2 with
  | bad => rw [hrun] at hb; exact (hb rfl).elim
  | exc y μ' => rw [hrun] at hb; exact (hb rfl).elim
  | ok u μ3 =>
   rw [hrun] at hQ
   refine Qb (wpAny_standAt (Qb (wpAny_of_eq (hfold y) (Qb (wpAny_holding ?_)))))
   have hne : getIt pv2 μ2 0 μ2 ≠ none := by
    intro e
    cases nB with
    | zero => cases hrun
    | succ nB =>
     rw [Zbn] at hrun
     dsimp only at hrun
     rw [e] at hrun
     cases hrun
   refine Zdm RC rC hne λ o ob2 get2 vC pv2' hf hv2 hI2 h0 hge hS2 => ?_
   rw [Zcq hge] at hrun
   obtain ⟨R3, xD⟩ := RC.push o (tk := s2.toks)
   have hit3 : (s2.heap.push o).get? s2.heap.objs.size = some o := Heap.get?_push_size _ hf
   refine Qb (wpAny_runOwn ?_)
   refine Zed (t := t1) (i := i1) (ifs := []) rfl rfl rfl (Around.under_of_weight rfl) (λ Q E h => hS2.self 0 _ _ Q E ⟨o, hit3, h0⟩ h) ?_
   refine hin s2.heap.objs.size ob2 vC pv2' get2 (hI2 _ hh) hS2 (A.mark none) φ2 φ2 s2.heap μ2 μ3 _ _ ⟨hA.handled, hA.frames, hA.guards, hA.depth, hA.units⟩ nB 0 R3 xD ⟨o, hit3, h0⟩ Qr ?_ ?_ (hv2.ext RC xD) (((p.2.ext R xB).ext RB xC).ext RC xD) hrun λ φ4 s4 R4 x4 rE => ?_
   ·exact λ hm => absurd (RC.phiLt hm) (Nat.lt_irrefl _)
   ·exact (RC.above Qr).2
   ·exact Qp (hQ _ _ φ4 μ3 s4 rfl R4 (xB.trans (xC.trans x4)) rfl)
end

section
variable {c : Cx} {F : Fx}
theorem Zgj {φ : List Addr} {h : Heap} {vs : List Value} {xs : List PV} (r : VRs φ h vs xs) : ∀ {is : List Int}, intsOf xs = some is -> IntsAre vs is := by
 induction r using VRs.ind with
 | nil => intro is e; cases e; exact .nil
 | cons a b ih =>
  intro is e
  obtain ⟨i, js, rfl, e', rfl⟩ := Zc9 e
  obtain ⟨t, rfl⟩ := a.int_inv rfl
  exact .cons _ _ (ih e')
theorem Zjd {φ : List Addr} {h : Heap} {vs : List Value} {is : List Int} (r : IntsAre vs is) : VRs φ h vs (is.map .int) := by
 induction r with
 | nil => exact .nil
 | cons n t _ ih => exact .cons (.int n t) ih
end

noncomputable def stAt (l : List Stmt) (i : Nat) : Stmt := l.getD i (.Pass ⟨0, 0, 0, 0⟩)
noncomputable def partsSt : Stmt -> List Stmt × Scope × Arguments
 | .FunctionDef _ a b _ _ _ s _ _ _ => (b, s, a)
 | .ClassDef _ _ _ b _ _ _ _ _ _ _ => (b, default, default)
 | _ => ([], default, default)
noncomputable def bodySt (st : Stmt) : List Stmt := (partsSt st).1
noncomputable def scopeSt (st : Stmt) : Scope := (partsSt st).2.1
noncomputable def paramsSt (st : Stmt) : Arguments := (partsSt st).2.2
structure FnOk (c : Cx) (f : Addr) (st : Stmt) (dflt : FuncData -> Prop) : Prop where
 ok : ∃ fd, FnAt c f fd (bodySt st) ∧ fd.scope = scopeSt st ∧ fd.params = paramsSt st ∧ fd.globals = mainGlobals ∧ fd.builtins = builtinsNs ∧ dflt fd
def CallOk (c : Cx) (f : Addr) (lv : Nat) (k : List PV -> PM PV) : Prop :=
 ∀ (F : Fx) (vs : List Value) (xs : List PV) (A : Around) (φ : List Addr) (μ : St) (s : Shared) (R : Result -> Shared -> Prop), lv + 1 <= F.lv -> F.hd = true -> ACtx F A -> Rep c F φ μ s -> VRs φ s.heap vs xs -> k xs μ ≠ .bad ->
  (∀ v y φ' μ' s', k xs μ = .ok y μ' -> Rep c F φ' μ' s' -> Ext F.nss F.cls φ s.heap φ' s'.heap -> VR φ' s'.heap v y -> R (.ok (.ret v)) s') ->
  (∀ e x φ' μ' s', k xs μ = .exc x μ' -> Rep c F φ' μ' s' -> Ext F.nss F.cls φ s.heap φ' s'.heap -> ExcR c (dom s.heap) φ' s'.heap e x -> R (.error e) s') ->
  codeAny (model c.prog c.w) A (.call (.ref f) ⟨vs, []⟩) R s
section
variable {c : Cx} {F : Fx} {names : List (Str × NameKind)} {vs : List (Str × Nat)} {n lv : Nat}
theorem CallOk.call {f : Addr} {k : List PV -> PM PV} {l : Nat} (h : CallOk c f l k) (hlv : l + 1 <= F.lv) (hh : F.hd = true) : SimCall c F (.ref f) k :=
 λ vs ys A φ μ s Q E hA R p hb hQ hE => wpAny_call (h F vs ys A φ μ s _ hlv hh hA R p hb (λ v y φ' μ' s' e R' x' r => hQ v y φ' μ' s' e R' x' r) λ e x φ' μ' s' he R' x' r => hE e x φ' μ' s' he R' x' r)
theorem CallOk.mk {f : Addr} {fd : FuncData} {body : List Stmt} {ks : List Str} {arr frm : List PV -> Option (List PV)} {l : Nat} {g : PM MF} (hf : FnAt c f fd body) (hbd : Binds c fd ks arr)
  (hfrm : ∀ xs fr, frm xs = some fr -> ∃ ys, arr xs = some ys ∧ fr = initFr fd.scope.names ks ys) (hbody : ∀ L outer, SimSS c (fxOf fd L f outer l) body g) : CallOk c f l (callF frm g) :=
 λ F vs xs A φ μ s R hlv hh hA Rp hv hb hQ hE => Zq7 hf hbd hfrm hbody hlv hh hA Rp hv hb hQ hE
noncomputable def okName (vs : List (Str × Nat)) (x : Str) (k : Nat) : Bool := vs.lookup x == some k && !(x == ("__debug__" : Str)) && !(x == ("__classdict__" : Str))
theorem FxG.name (G : FxG F names vs n lv) {x : Str} {k : Nat} {pos : Pos} (h : okName vs x k = true := by kernel_rfl) : SimE c F (.Name x pos) (getVar k) := by
 unfold okName at h
 simp only [Bool.and_eq_true, Bool.not_eq_true'] at h
 exact Zph G.kind (G.var x k (eq_of_beq h.1.1)) h.1.2 h.2
theorem FxG.asg (G : FxG F names vs n lv) {x : Str} {k : Nat} {pos : Pos} (h : (vs.lookup x == some k) = true := by kernel_rfl) : SimT c F (assign (.Name x pos) F.env) (setVar k) :=
 Zk4 G.kind (G.var x k (eq_of_beq h))
noncomputable def okGlob (names : List (Str × NameKind)) (x : Str) : Bool := names.lookup x == some .globalImplicit && !(x == ("__debug__" : Str)) && !(x == ("__name__" : Str))
theorem FxG.glob' (G : FxG F names vs n lv) {x : Str} (h : okGlob names x = true) : F.env.kindOf x = some .globalImplicit ∧ (x == ("__debug__" : Str)) = false ∧ x ≠ "__name__" := by
 unfold okGlob at h
 simp only [Bool.and_eq_true, Bool.not_eq_true'] at h
 refine ⟨?_, h.1.2, beq_eq_false_iff_ne.mp h.2⟩
 unfold Env.kindOf; rw [G.names]; exact eq_of_beq h.1.1
theorem FxG.global (G : FxG F names vs n lv) {x : Str} (h : okGlob names x = true) {v : Value} {pv : PV} (e : nsIn c.K mainGlobals x = some (some v)) (hv : ∀ φ h, VR φ h v pv) {pos : Pos} : SimE c F (.Name x pos) (pure pv) :=
 Zmq G.kind G.glob (G.glob' h).1 (G.glob' h).2.1 e hv
theorem FxG.hGlob (G : FxG F names vs n lv) {x : Str} (h : okGlob names x = true) {v : Value} (e : nsIn c.K mainGlobals x = some (some v)) {np : Pos} : ∀ A φ μ s Q (E : Value -> Shared -> Prop), ACtx F A -> Rep c F φ μ s -> Q v s -> wpAny (model c.prog c.w) A (eval (.Name x np) F.env) Q E s :=
 Zk6 G.kind G.glob (G.glob' h).1 (G.glob' h).2.1 e
theorem FxG.hBui (G : FxG F names vs n lv) {x : Str} (h : okGlob names x = true) {v : Value} (e : nsIn c.K mainGlobals x = some none) (hb : bootBuiltins x = some v) {np : Pos} : ∀ A φ μ s Q (E : Value -> Shared -> Prop), ACtx F A -> Rep c F φ μ s -> Q v s -> wpAny (model c.prog c.w) A (eval (.Name x np) F.env) Q E s :=
 Zpo G.kind G.glob G.bui (G.glob' h).1 (G.glob' h).2.1 e hb (G.glob' h).2.2
theorem FxG.callB (G : FxG F names vs n lv) {np pos : Pos} {x : Str} {id : String} (e : nsIn c.K mainGlobals x = some none) (hb : bootBuiltins x = some (.builtin id)) {args : List Expr} {g : PM (List PV)} {k : List PV -> PM PV} (hargs : CallArgs c F (starEach args F.env) g) (hcall : SimCall c F (.builtin id) k) (h : okGlob names x = true := by kernel_rfl) : SimE c F (.Call (.Name x np) args [] pos) (g >>= k) :=
 Zbh (G.hBui h e hb) hargs Zix hcall
theorem FxG.callT (G : FxG F names vs n lv) {np pos : Pos} {x : Str} {id : String} (e : nsIn c.K mainGlobals x = some none) (hb : bootBuiltins x = some (.type id)) {args : List Expr} {g : PM (List PV)} {k : List PV -> PM PV} (hargs : CallArgs c F (starEach args F.env) g) (hcall : SimCall c F (.type id) k) (h : okGlob names x = true := by kernel_rfl) : SimE c F (.Call (.Name x np) args [] pos) (g >>= k) :=
 Zbh (G.hBui h e hb) hargs Zoe hcall
theorem FxG.callG (G : FxG F names vs n lv) {np pos : Pos} (hh : F.hd = true) {x : Str} {f : Addr} {l : Nat} {st : Stmt} {D : FuncData -> Prop} (h : okGlob names x = true) (e : nsIn c.K mainGlobals x = some (some (.ref f))) (hf : FnOk c f st D) {args : List Expr} {g : PM (List PV)} {k : List PV -> PM PV} (hargs : CallArgs c F (starEach args F.env) g) (hcall : CallOk c f l k) (hl : l + 1 <= lv) : SimE c F (.Call (.Name x np) args [] pos) (g >>= k) := by
 obtain ⟨fd, hat, _⟩ := hf.ok
 exact Zbh (G.hGlob h e) hargs (Zlx hat) (hcall.call (by rw [G.lv]; exact hl) hh)
noncomputable def swapB (names : List (Str × NameKind)) (t : Str) (tline vline : Nat) (scope : Scope) : Bool := names.lookup t == some .local && tline == vline && !(scope.names.any λ (n, k) => n == t && (k == .local || k == .cell))
theorem FxG.swap (G : FxG F names vs n lv) {t : Str} {tp cpos : Pos} {elt : Expr} {gens : List Comprehension} {scope : Scope} {line : Nat} : swapsWithSole [.Name t tp] (.ListComp elt gens scope cpos) line F.env = pure (swapB names t tp.line cpos.line scope) := by
 show (pure _ : Sem Bool) = _
 have e1 : F.env.blockKind = .function := by
  unfold Env.blockKind; rw [G.kind]; rfl
 have e2 : F.env.kindOf t = names.lookup t := by unfold Env.kindOf; rw [G.names]
 unfold swapB
 rw [e1, e2]
 rfl
theorem FxG.quiet (G : FxG F names vs n lv) : interactive F.env = false := by
 unfold interactive; rw [G.kind]; rfl
end

set_option genInjectivity false in
structure Ad where
 NI : Addr
 CE : Addr
 TS : Addr
noncomputable def argC (f : PM PV) (g : PM (List PV)) : PM (List PV) := f >>= λ x => g >>= λ xs => pure (x :: xs)
noncomputable def argS (f : PM PV) : PM (List PV) := f >>= λ x => starItems x
noncomputable def buiNames : List Str := ["len", "range", "sum", "any", "all", "sorted", "list", "tuple", "set", "bool", "iter", "max", "min", "isinstance", "ValueError", "StopIteration"]
theorem Z4 : bootBuiltins "len" = some (.builtin "len") := by decide +kernel
theorem Zl : bootBuiltins "range" = some (.type "range") := by decide +kernel
theorem Zpy : bootBuiltins "sum" = some (.builtin "sum") := by decide +kernel
theorem Zpz : bootBuiltins "any" = some (.builtin "any") := by decide +kernel
theorem Zp0 : bootBuiltins "all" = some (.builtin "all") := by decide +kernel
theorem Zfg : bootBuiltins "sorted" = some (.builtin "sorted") := by decide +kernel
theorem Zou : bootBuiltins "list" = some (.type "list") := by decide +kernel
theorem Zm8 : bootBuiltins "tuple" = some (.type "tuple") := by decide +kernel
theorem Zp1 : bootBuiltins "set" = some (.type "set") := by decide +kernel
theorem Zov : bootBuiltins "bool" = some (.type "bool") := by decide +kernel
theorem Zow : bootBuiltins "iter" = some (.builtin "iter") := by decide +kernel
theorem Zp2 : bootBuiltins "max" = some (.builtin "max") := by decide +kernel
theorem Zei : bootBuiltins "StopIteration" = some (.type "StopIteration") := by decide +kernel
noncomputable def isStopIteration (d : Ad) (x : Value) : Option Bool := match x with
 | .type n => if n = "StopIteration" then some true else if n = "ValueError" then some false else none
 | _ => none
section
variable {c : Cx} {F : Fx} {names : List (Str × NameKind)} {vs : List (Str × Nat)} {n lv : Nat}
theorem FxG.globI (G : FxG F names vs n lv) {x : Str} (h : okGlob names x = true) {i : Int} (e : ∃ t, nsIn c.K mainGlobals x = some (some (.int i t))) {pos : Pos} : SimE c F (.Name x pos) (pure (.int i)) := by
 obtain ⟨t, e⟩ := e
 exact G.global h e λ _ _ => .int _ _
theorem Za9 {C : Addr} {name : Str} {k : Nat} (hC : SlotName c C name k) {o : Expr} {pos : Pos} {f : PM PV} (hf : SimE c F o f) (he : attributeBase o name F.env (eval o F.env) = eval o F.env) : SimE c F (.Attribute o name pos) (eSlot C k f) := λ A φ μ s Q E hA R p hb hQ hE => by
 rw [arm_eval_Attribute, he]
 unfold eSlot at hb hQ hE
 refine Qb (hf.use hA R p hb hE λ v y φ' μ' s' eg R' x r => ?_)
 rw [eg] at hb hQ hE
 refine Qb (wpAny_standAt (Qb (wpAny_holding ((Zd9 hC).fin hA R' r rfl x hb (λ a b φ1 μ1 s1 e RB xB rB => ?_) hE))))
 exact Qb (wpAny_letTemporaryGo (Qp (hQ _ _ _ _ _ e RB xB rB)))
theorem FxG.callM (G : FxG F names vs n lv) (hh : F.hd = true) {C f : Addr} {st : Stmt} {D : FuncData -> Prop} {name : Str} (hM : MethAt c C name f) (hf : FnOk c f st D) {o : Expr} {apos pos : Pos} {args : List Expr} {fo : PM PV} {g : PM (List PV)} {k : List PV -> PM PV} {l : Nat} {b : Bool}
  (hbase : attributeBase o name F.env (eval o F.env) = eval o F.env) (hst : methodCallForm (args.length + 0) (backTo pos (starEach args F.env)) [] = b) (hpos : (apos.endLine == pos.line) = true) (ho : SimE c F o fo) (hargs : CallArgs c F (starEach args F.env) g)
  (hk : CallOk c f l k) (hl : l + 1 <= lv) : SimE c F (.Call (.Attribute o name apos) args [] pos) (eMeth C name fo g k) := by
 obtain ⟨fd, hat, _⟩ := hf.ok
 exact Zi0 hM hat hbase hst hpos ho hargs λ vs xs A φ μ s R hA Rp hv hb hQ hE => hk F vs xs A φ μ s R (by rw [G.lv]; exact hl) hh hA Rp hv hb hQ hE
theorem FxG.callC (G : FxG F names vs n lv) {np pos : Pos} (hh : F.hd = true) {x : Str} {C f : Addr} {slotted : Bool} {k : List PV -> PM PV} {l : Nat} (h : okGlob names x = true) (e : nsIn c.K mainGlobals x = some (some (.ref C))) (hM : MakeAt c C f) (hk : CallOk c f l k) (hl : l + 2 <= lv)
  {args : List Expr} {g : PM (List PV)} (hargs : CallArgs c F (starEach args F.env) g) : SimE c F (.Call (.Name x np) args [] pos) (g >>= newM C slotted k) :=
 Zbh (G.hGlob h e) hargs (λ φ h X _ => keeps_K hM.keep h X) (Zri hM (lv := l + 1) (by rw [G.lv]; exact hl) λ vs xs A φ μ s R hA Rp hv hb hQ hE => hk (lower F (l + 1)) vs xs A φ μ s R Qr hh hA Rp hv hb hQ hE)
theorem FxG.handling (G : FxG F names vs n lv) : FxG (Mine.handling F) names vs n lv := ⟨G.kind, G.glob, G.bui, G.lv, G.names, G.flen, G.loc, λ x k h => by
 cases G.var x k h with
 | loc a b => exact .loc a b
 | cell a b c => exact .cell a b c
 | free a b c => exact .free a b c⟩
end

noncomputable def arrPlain (m : Nat) (xs : List PV) : Option (List PV) := match decide (xs.length = m) with
 | true => some xs
 | false => none
noncomputable def arrStar (m : Nat) (xs : List PV) : Option (List PV) := match decide (m <= xs.length) && lenOk (xs.drop m) with
 | true => some (xs.take m ++ [.tup (xs.drop m)])
 | false => none
noncomputable def arrDflt (m : Nat) (xs : List PV) : Option (List PV) := match decide (xs.length = m) with
 | true => some xs
 | false => (match decide (xs.length + 1 = m) with
  | true => some (xs ++ [.none])
  | false => none)
noncomputable def ownKs (fd : FuncData) (ks : List Str) : Bool := ks.all λ k => fd.scope.names.lookup k == some .local || fd.scope.names.lookup k == some .cell
theorem len1 {l : List Value} (h : l.length + 1 = 2) : ∃ a, l = [a] := by
 rcases l with _ | ⟨a, _ | ⟨b, l⟩⟩
 ·cases h
 ·exact ⟨a, rfl⟩
 ·cases h
theorem len2 {l : List Value} (h : l.length = 2) : ∃ a b, l = [a, b] := by
 rcases l with _ | ⟨a, _ | ⟨b, _ | ⟨c, l⟩⟩⟩
 ·cases h
 ·cases h
 ·exact ⟨a, b, rfl⟩
 ·cases h
section
variable {c : Cx} {fd : FuncData} {ks : List Str} {m : Nat}
theorem Z3 (own : ownKs fd ks = true) (h : ∀ vs : List Value, vs.length = m -> bindArgs fd ⟨vs, []⟩ = pure (ks.zip vs)) : Binds c fd ks (arrPlain m) :=
 ⟨own, λ F φ μ s vs xs ys A Q E R hv ha hQ => by
  unfold arrPlain at ha
  split at ha
  ·rename_i hd
   cases ha
   rw [h vs (hv.length.trans (of_decide_eq_true hd))]
   exact Qp (hQ vs s R Ext.refl (λ _ _ e => e) hv)
  ·cases ha⟩
theorem Zgk (own : ownKs fd ks = true) (h : ∀ vs r : List Value, vs.length = m -> bindArgs fd ⟨vs ++ r, []⟩ = (newTuple r >>= λ t => pure (ks.zip (vs ++ [t])))) : Binds c fd ks (arrStar m) :=
 ⟨own, λ F φ μ s vs xs ys A Q E R hv ha hQ => by
  unfold arrStar at ha
  split at ha
  ·rename_i hd
   cases ha
   rw [Bool.and_eq_true] at hd
   have hm := of_decide_eq_true hd.1
   have hl := Zaf hd.2
   have e := hv.length
   rw [<- take_append_drop m vs, h (vs.take m) (vs.drop m) (by rw [length_take]; lia)]
   unfold newTuple
   refine Qb (wpAny_newObj_type ?_ (by show (vs.drop m).toArray.size <= sizeLine; simp only [size_toArray, length_drop]; rw [length_drop] at hl; lia))
   obtain ⟨RB, xB⟩ := R.push { cls := .type "tuple", data := .seq (vs.drop m).toArray } (tk := s.toks)
   refine Qp (hQ _ _ RB xB (λ a o q => Heap.get?_push_of_some _ q) ?_)
   exact ((hv.ext R xB).take m).append (.cons (.tup (Heap.get?_push_size _ rfl) (λ hm => absurd (R.phiLt hm) (Nat.lt_irrefl _)) ((hv.ext R xB).drop m)) .nil)
  ·cases ha⟩
theorem Zm9 (own : ownKs fd ks = true) {t : Addr} {k : Nat} (ht : c.K.lookup t = some { cls := .type "tuple", data := .seq #[.none] k })
  (h : ∀ (vs : List Value) (A : Around) (s : Shared) (Q : List (Str × Value) -> Shared -> Prop) (E : Value -> Shared -> Prop), s.heap.get? t = some { cls := .type "tuple", data := .seq #[.none] k } -> (vs.length = m -> Q (ks.zip vs) s -> wpAny (model c.prog c.w) A (bindArgs fd ⟨vs, []⟩) Q E s) ∧ (vs.length + 1 = m -> Q (ks.zip (vs ++ [.none])) s -> wpAny (model c.prog c.w) A (bindArgs fd ⟨vs, []⟩) Q E s)) : Binds c fd ks (arrDflt m) :=
 ⟨own, λ F φ μ s vs xs ys A Q E R hv ha hQ => by
  have e := hv.length
  have hts := R.inB _ _ ht
  unfold arrDflt at ha
  split at ha
  ·rename_i hd
   cases ha
   exact (h vs A s Q E hts).1 (e.trans (of_decide_eq_true hd)) (hQ vs s R Ext.refl (λ _ _ e => e) hv)
  split at ha
  ·rename_i _ _ _ hd2
   cases ha
   refine (h vs A s Q E hts).2 (by rw [e]; exact of_decide_eq_true hd2) (hQ _ s R Ext.refl (λ _ _ e => e) (hv.append (.cons .none .nil)))
  ·cases ha⟩
end

theorem Zle {prog : Program} {w : World} {A : Around} (hh : A.handled = none) {l it : Addr} {vs : List Value} (hne : l ≠ it) : Walks prog w A it [l, it] [it] vs.length (λ i v => vs[i]? = some v)
  (λ k h => h.IsTuple l vs.toArray ∧ ∃ o, h.get? it = some o ∧ o.cls = .type "tuple_iterator" ∧ o.data = .fields #[.ref l, .int k 0]) where
 sub := λ b hb => by simp at hb; simp [hb]
 frame := λ i h h' st hk => by
  obtain ⟨⟨o, ho, r⟩, o', ho', r'⟩ := st
  exact ⟨⟨o, hk l (by simp) o ho, r⟩, o', hk it (by simp) o' ho', r'⟩
 item := λ i s Q E hi st hQ => by
  obtain ⟨hL, o, ho, hc, hd⟩ := st
  refine wpAny_pyNext_tuple_item (x := vs[i]) ⟨o, ho, hc, hd⟩ hL (by simp) λ h' hit' hs => hQ _ h' s.toks (by simp) ?_ ?_
  ·obtain ⟨o', ho', hc', hd'⟩ := hit'
   obtain ⟨ol, hol, r⟩ := hL
   exact ⟨⟨ol, (hs.2 l hne).trans hol, r⟩, o', ho', hc', by rw [hd']⟩
  ·exact λ b o' hb h => (hs.2 b (by simpa using hb)).trans h
 done := λ s Q E st hQ => by
  obtain ⟨hL, o, ho, hc, hd⟩ := st
  exact wpAny_pyNext_tuple_end hh ⟨o, ho, hc, hd⟩ hL (by simp) λ h' hs => hQ h' s.toks λ b o' hb h => hs b o' (by simpa using hb) h
 self := λ i s Q E st h => by
  obtain ⟨hL, o, ho, hc, hd⟩ := st
  exact wpAny_pyIter_tupleiter ⟨o, ho, hc, hd⟩ h
section
variable {c : Cx} {F : Fx}
noncomputable def intAt (i j : Int) (k : Nat) : Int := match k with | 0 => i | _ => j
noncomputable def minOf : List Int -> PM PV
 | [] => PM.H
 | [_] => PM.H
 | [i, j] => pure (.int (min i j))
 | _ :: _ :: _ :: _ => PM.H
noncomputable def pMin (ys : List PV) : PM PV := match intsOf ys with
 | some is => minOf is
 | none => PM.H
noncomputable def maxOf : List Int -> PM PV
 | [] => PM.H
 | [_] => PM.H
 | [i, j] => pure (.int (max i j))
 | _ :: _ :: _ :: _ => PM.H
noncomputable def pMax (ys : List PV) : PM PV := match intsOf ys with
 | some is => maxOf is
 | none => PM.H
theorem Zje {i j : Int} {t u : Tok} : ∀ (k : Nat) (v : Value), [Value.int i t, Value.int j u][k]? = some v -> ∃ t', v = Value.int (intAt i j k) t'
 | 0, v, h => by simp at h; subst h; exact ⟨_, rfl⟩
 | 1, v, h => by simp at h; subst h; exact ⟨_, rfl⟩
 | k + 2, v, h => by simp at h
theorem Zjf {φ : List Addr} {μ : St} {s : Shared} {i j m : Int} {t u : Tok} {A : Around} {Q : Value -> Shared -> Prop} {E : Value -> Shared -> Prop} {bt : Nat -> Nat -> Bool} {op : CmpOp} (hh : A.handled = none) (R : Rep c F φ μ s)
  (hcmp : CmpOf c.prog c.w A.in1 op (λ k v => [Value.int i t, Value.int j u][k]? = some v) bt) (hm : intAt i j (argBest bt 1) = m) (hQ : ∀ v s', VR φ s.heap v (.int m) -> Rep c F φ μ s' -> Ext F.nss F.cls φ s.heap φ s'.heap -> Q v s') :
  wpAny (model c.prog c.w) A.in1 (pyIter (.ref s.heap.objs.size)) (λ it s2 => ∃ I, ∃ fp wr : List Addr, ∃ n P St bt, it = .ref I ∧ Walks c.prog c.w A.in1 I fp wr n P St ∧ St 0 s2.heap ∧ (∀ b ∈ fp, b < s2.heap.objs.size) ∧ 0 < n ∧ CmpOf c.prog c.w A.in1 op P bt ∧
   ∀ v h' tk, P (argBest bt (n - 1)) v -> (∀ b o, b ∉ wr -> s2.heap.get? b = some o -> h'.get? b = some o) -> (λ v (s' : Shared) => s.heap.objs.size <= s'.heap.objs.size -> Q v s') v { s2 with heap := h', toks := tk }) E { s with heap := s.heap.push { cls := .type "tuple", data := .seq #[.int i t, .int j u] } } := by
 have ht : (s.heap.push { cls := .type "tuple", data := .seq #[.int i t, .int j u] }).IsTuple s.heap.objs.size #[.int i t, .int j u] := ⟨_, Heap.get?_push_size _ rfl, rfl, _, rfl⟩
 refine wpAny_pyIter_tuple ht ⟨_, _, _, _, _, _, bt, rfl, Zle (A := A.in1) (l := s.heap.objs.size) (vs := [.int i t, .int j u]) hh (Nat.ne_of_lt ?_), ⟨?_, _, Heap.get?_push_size _ rfl, rfl, rfl⟩, λ b hb => ?_, by simp, hcmp, λ v h' tk hv keep size => ?_⟩
 ·rw [Heap.size_push]; exact Nat.lt_succ_self _
 ·exact ⟨_, Heap.get?_push_of_some _ (Heap.get?_push_size _ rfl), rfl, _, rfl⟩
 ·simp only [Heap.size_push] at hb ⊢
  simp at hb
  rcases hb with rfl | rfl
  ·exact Nat.lt_succ_of_lt (Nat.lt_succ_self _)
  ·exact Nat.lt_succ_self _
 ·obtain ⟨t', rfl⟩ := Zje _ _ hv
  obtain ⟨R', x'⟩ := R.still (tk := tk) (h' := h') size λ b o ho => keep b o (λ hm => by
   have := Heap.lt_size ho
   simp [Heap.size_push] at hm
   rw [hm] at this
   exact absurd this (Nat.not_lt_of_le (Nat.le_succ _))) (Heap.get?_push_of_some _ (Heap.get?_push_of_some _ ho))
  refine hQ _ _ ?_ R' x'
  rw [show [Value.int i t, Value.int j u].length - 1 = 1 from rfl, hm]
  exact .int _ _
theorem Zrr (hh : F.hd = true) : SimCall c F (.builtin "min") pMin := λ vs ys A φ μ s Q E hA R p hb hQ hE => by
 unfold pMin at hb hQ
 cases hi : intsOf ys with
 | none => rw [hi] at hb; exact (hb rfl).elim
 | some is =>
  rw [hi] at hb hQ
  have hys := Zc1 hi
  subst hys
  cases is with
  | nil => exact (hb rfl).elim
  | cons i r =>
  cases r with
  | nil => exact (hb rfl).elim
  | cons j r =>
  cases r with
  | cons => exact (hb rfl).elim
  | nil =>
  obtain ⟨t, u, rfl⟩ := p.ints2
  ·····
       refine Z1 (call_min_two (wpAny_mono (Zjf (Q := Q) (E := λ e s' => s.heap.objs.size <= s'.heap.objs.size -> E e s') (hA.handled hh) R (m := min i j) (CmpOf.ints_lt (intAt i j) Zje) ?_ λ v s' r R' x' => hQ _ _ _ _ _ rfl R' x' (by cases r; exact .int _ _)) (λ _ _ e => e) λ _ _ e => e))
       show intAt i j (if decide (intAt i j 1 < intAt i j 0) then 1 else 0) = _
       by_cases h : j < i
       ·rw [if_pos (decide_eq_true (show intAt i j 1 < intAt i j 0 from h))]; show j = _; lia
       ·rw [if_neg (by simpa [intAt] using h)]; show i = _; lia
theorem Zrs (hh : F.hd = true) : SimCall c F (.builtin "max") pMax := λ vs ys A φ μ s Q E hA R p hb hQ hE => by
 unfold pMax at hb hQ
 cases hi : intsOf ys with
 | none => rw [hi] at hb; exact (hb rfl).elim
 | some is =>
  rw [hi] at hb hQ
  have hys := Zc1 hi
  subst hys
  cases is with
  | nil => exact (hb rfl).elim
  | cons i r =>
  cases r with
  | nil => exact (hb rfl).elim
  | cons j r =>
  cases r with
  | cons => exact (hb rfl).elim
  | nil =>
  obtain ⟨t, u, rfl⟩ := p.ints2
  ·····
       refine Z1 (call_max_two (wpAny_mono (Zjf (Q := Q) (E := λ e s' => s.heap.objs.size <= s'.heap.objs.size -> E e s') (hA.handled hh) R (m := max i j) (CmpOf.ints_gt (intAt i j) Zje) ?_ λ v s' r R' x' => hQ _ _ _ _ _ rfl R' x' (by cases r; exact .int _ _)) (λ _ _ e => e) λ _ _ e => e))
       show intAt i j (if decide (intAt i j 1 > intAt i j 0) then 1 else 0) = _
       by_cases h : j > i
       ·rw [if_pos (decide_eq_true (show intAt i j 1 > intAt i j 0 from h))]; show j = _; lia
       ·rw [if_neg (by simpa [intAt] using h)]; show i = _; lia
theorem Zp3 : bootBuiltins "min" = some (.builtin "min") := by decide +kernel
end

section
variable {c : Cx} {F : Fx} {names : List (Str × NameKind)} {vs : List (Str × Nat)} {m lv : Nat}
theorem FxG.listComp (G : FxG F names vs m lv) {elt target iter : Expr} {ifs : List Expr} {rest : List Comprehension} {scope : Scope} {pos : Pos} {n : Nat} {f : PM PV} {tf : Nat -> PV -> PM Unit}
  (hh : F.hd = true) (hkind : scope.kind = .function) (hn : decide ((scope.names.map (·.1)).Nodup) = true) (hf : freeOk names vs scope = true) (hfold : ∀ x, foldedSetIterable iter F.env x = pure x) (hfirst : SimE c F iter f)
  (hloop : ∀ Lc acc i, FxG (compFx F scope Lc (cloOf scope F.env)) (compNames names scope) (compVs m vs scope) (m + (ownNames scope.names).length) lv -> LoopSim c (compFx F scope Lc (cloOf scope F.env)) (.ListComp elt (⟨target, iter, ifs, 0⟩ :: rest) scope pos) 0 acc i (tf i)) :
  SimE c F (.ListComp elt (⟨target, iter, ifs, 0⟩ :: rest) scope pos) (compM n (ownNames scope.names).length f tf) :=
 Zi3 hh hfirst (G.closure hf) hkind (of_decide_eq_true hn) hfold λ Lc acc i => hloop Lc acc i (G.comp hkind (of_decide_eq_true hn) hf Lc)
theorem FxG.asgComp (G : FxG F names vs m lv) {x : Str} {tp : Pos} {elt target iter : Expr} {ifs : List Expr} {rest : List Comprehension} {scope : Scope} {cpos pos : Pos} {n : Nat} {f : PM PV} {tf : Nat -> PV -> PM Unit} {a : PV -> PM Unit}
  (hh : F.hd = true) (hkind : scope.kind = .function) (hn : decide ((scope.names.map (·.1)).Nodup) = true) (hf : freeOk names vs scope = true) (hfold : ∀ x, foldedSetIterable iter F.env x = pure x) (hsw : swapB names x tp.line cpos.line scope = true) (hfirst : SimE c F iter f)
  (hloop : ∀ Lc acc i, FxG (compFx F scope Lc (cloOf scope F.env)) (compNames names scope) (compVs m vs scope) (m + (ownNames scope.names).length) lv -> LoopSim c (compFx F scope Lc (cloOf scope F.env)) (.ListComp elt (⟨target, iter, ifs, 0⟩ :: rest) scope cpos) 0 acc i (tf i))
  (ht : SimT c F (assign (.Name x tp) F.env) a) :
  SimS c F (.Assign [.Name x tp] (.ListComp elt (⟨target, iter, ifs, 0⟩ :: rest) scope cpos) pos) (sAsg (compM n (ownNames scope.names).length f tf) a) :=
 Zgx hh hfirst (G.closure hf) hkind (of_decide_eq_true hn) hfold (λ Lc acc i => hloop Lc acc i (G.comp hkind (of_decide_eq_true hn) hf Lc)) ht (by rw [G.swap, hsw]) rfl
end

noncomputable def fdAt (K : Frag) (f : Addr) : FuncData := match K.lookup f with
 | some ⟨_, _, .func fd, _⟩ => fd
 | _ => default
noncomputable def isFunc (K : Frag) (f : Addr) : Bool := match K.lookup f with
 | some ⟨_, _, .func _, _⟩ => true
 | _ => false
theorem Zrt {K : Frag} {f : Addr} (h : isFunc K f = true) : ∃ oc od osl, K.lookup f = some ⟨oc, od, .func (fdAt K f), osl⟩ := by
 unfold isFunc at h
 unfold fdAt
 cases q : K.lookup f with
 | none => rw [q] at h; exact (Bool.false_ne_true h).elim
 | some o =>
  obtain ⟨oc, od, dt, sl⟩ := o
  rw [q] at h
  cases dt with
  | func fd => exact ⟨_, _, _, rfl⟩
  | _ => exact (Bool.false_ne_true h).elim
theorem Zaj {c : Cx} {f : Addr} {st : Stmt} {D : FuncData -> Prop} (h1 : isFunc c.K f = true) (h2 : codeIn c.K (fdAt c.K f).code (fdAt c.K f).qualname = true) (h3 : (fdAt c.K f).body = .stmts (bodySt st)) (h4 : (fdAt c.K f).closure = [])
  (h5 : (fdAt c.K f).scope = scopeSt st) (h6 : ((scopeSt st).isCoroutine || (scopeSt st).isGenerator) = false) (h7 : (scopeSt st).kind = .function) (h8 : decide (((scopeSt st).names.map (·.1)).Nodup) = true)
  (h9 : (fdAt c.K f).params = paramsSt st) (h10 : (fdAt c.K f).globals = mainGlobals) (h11 : (fdAt c.K f).builtins = builtinsNs) (h12 : D (fdAt c.K f)) : FnOk c f st D := by
 rw [Bool.or_eq_false_iff] at h6
 exact ⟨fdAt c.K f, ⟨Zrt h1, h2, h3, h4, by rw [h5]; exact h6.1, by rw [h5]; exact h6.2, by rw [h5]; exact h7, by rw [h5]; exact of_decide_eq_true h8⟩, h5, h9, h10, h11, h12⟩
theorem Zp4 {c : Cx} {T : Value} {m : Value -> Option Bool} {xA : Value} {bA : Bool} (h₀ : exmOne c.K xA T = some bA) (h : ∀ x b, m x = some b -> exmOne c.K x T = some b) : CatchAt c T m :=
 ⟨λ hp X => exm_ty X h₀, λ hp X => (exm_cls X h₀).1, λ x b hm hp X => (exm_cls X (h x b hm)).2⟩
theorem Zna {c : Cx} {d : Ad} (h1 : exmOne c.K (.type "StopIteration") (.type "StopIteration") = some true) (h2 : exmOne c.K (.type "ValueError") (.type "StopIteration") = some false) : CatchAt c (.type "StopIteration") (isStopIteration d) :=
 Zp4 h1 λ x b hm => by
  unfold isStopIteration at hm
  split at hm
  ·split at hm
   ·rename_i e; cases hm; rw [e]; exact h1
   ·split at hm
    ·rename_i e; cases hm; rw [e]; exact h2
    ·cases hm
  ·cases hm
theorem Za4 {c : Cx} {C f : Addr} {name : Str} (h1 : findIn c.K (.ref C) name = some (some (.ref f))) (h2 : typeIn c.K (.ref f) = some (.type "function")) (h3 : findIn c.K (.ref C) "__getattribute__" = some (some (.builtin "object.__getattribute__")))
  (h4 : findIn c.K (.ref C) "__getattr__" = some none) (h5 : (clsIn c.K C).any (·.hasDict) = true) (h6 : specialIn c.K (.ref f) "__get__" = some (some (.builtin "function.__get__"))) (h7 : takesIn c.K (.ref f) = some false) (h8 : copiedNames.contains name = false) : MethAt c C name f :=
 ⟨h1, h2, h3, h4, h5, h6, h7, h8⟩
theorem Zsy {c : Cx} (h : (buiNames.all λ x => match nsIn c.K mainGlobals x with | some none => true | _ => false) = true) (x : Str) (hx : buiNames.contains x = true) : nsIn c.K mainGlobals x = some none := by
 have := all_eq_true.mp h x (List.contains_iff_mem.mp hx)
 cases q : nsIn c.K mainGlobals x with
 | none => rw [q] at this; exact (Bool.false_ne_true this).elim
 | some o =>
  rw [q] at this
  cases o with
  | none => rfl
  | some _ => exact (Bool.false_ne_true this).elim
theorem Zru {prog : Program} {w : World} {h : Heap} {os : OsState} {mg mb : Str -> Option Value} {K : Frag} (kin : K.In h) (g : h.Ns mainGlobals mg) (b : h.Ns builtinsNs mb) (nl : h.NoLimit)
  (bt : ∀ x : Str, x ≠ "__name__" -> mb x = bootBuiltins x) : CxOk { prog := prog, w := w, B := h, os := os, mg := mg, mb := mb, K := K } := ⟨kin, g, b, nl, bt⟩
noncomputable def fx0 (env : Env) : Fx := { env := env, locs := [], nss := [], cls := [], frames := [], lv := 20, hd := true }
theorem rep0 {c : Cx} {s : Shared} (C : CxOk c) (hB : c.B = s.heap) (hos : c.os = s.os) (hg : s.gens = #[]) (env : Env) : Rep c (fx0 env) [] ⟨[], []⟩ s :=
 ⟨C, by rw [hB]; exact λ _ _ e => e, hos.symm, hg, rfl, nodup_nil, (λ a h => nomatch h), (λ i a o h => nomatch h), rfl, nodup_nil, (λ L h => nomatch h), (λ a h => nomatch h), (λ k L x h => nomatch h), (λ k a h => nomatch h), (λ e h => nomatch h)⟩
theorem actx0 (env : Env) : ACtx (fx0 env) callerA := ⟨λ _ => rfl, rfl, rfl, show callerA.depth + 10 * 20 <= 900 by decide, show callerA.units + 100 * 20 <= 9000 by decide⟩
end Mine
namespace Mine
open PySem PySem.W PyProof.Rows

set_option genInjectivity false in
structure EqT where
 α : Type
 l : Frag -> α
 r : α
noncomputable def obsT : List EqT -> Type
 | [] => Unit
 | e :: es => e.α × obsT es
noncomputable def obsL (K : Frag) : (es : List EqT) -> obsT es
 | [] => ()
 | e :: es => (e.l K, obsL K es)
noncomputable def obsR : (es : List EqT) -> obsT es
 | [] => ()
 | e :: es => (e.r, obsR es)
theorem Za {K : Frag} : ∀ {es : List EqT}, obsL K es = obsR es -> ∀ (i : Nat) (e : EqT), es[i]? = some e -> e.l K = e.r
 | [], _, i, e, h => by simp at h
 | a :: es, q, 0, e, h => by
  cases h
  exact congrArg Prod.fst q
 | a :: es, q, i + 1, e, h => Za (es := es) (congrArg Prod.snd q) i e h
noncomputable def fragAt (as : List Addr) (h : Heap) : Frag := as.filterMap λ a => (h.get? a).map λ o => (a, o)
theorem Zej {h h' : Heap} (k : ∀ b o, h.get? b = some o -> h'.get? b = some o) : ∀ (as : List Addr), (fragAt as h).In h'
 | [], a, o, e => nomatch e
 | b :: as, a, o, e => by
  unfold fragAt at e
  rw [List.filterMap_cons] at e
  cases hb : h.get? b with
  | none => rw [hb] at e; exact Zej k as a o e
  | some x =>
   rw [hb] at e
   simp only [Option.map_some, List.lookup] at e
   split at e
   ·rename_i q
    cases e
    rw [beq_iff_eq.mp q]
    exact k b _ hb
   ·exact Zej k as a o e
noncomputable def obsHook (as : List Addr) (es : List EqT) : Hook :=
 ⟨obsT es, λ s => obsL (fragAt as s.heap) es, λ _ => obsR es, λ _ h => ∃ h₀, obsL (fragAt as h₀) es = obsR es ∧ ∀ b o, h₀.get? b = some o -> h.get? b = some o,
  λ _ s e => ⟨s.heap, e, λ _ _ q => q⟩, λ _ _ _ ⟨h₀, e, k⟩ kk => ⟨h₀, e, λ b o q => kk b o (k b o q)⟩⟩
theorem Zsz {as : List Addr} {es : List EqT} {w : World} {h : Heap} (Y : (obsHook as es).says w h) : ∃ K : Frag, K.In h ∧ obsL K es = obsR es :=
 Y.elim λ h₀ q => ⟨fragAt as h₀, Zej q.2 as, q.1⟩
end Mine
namespace Mine
open PySem PySem.W PyProof.Rows PySem.Calls

noncomputable def getIm (i : Nat) (μ0 : St) (k : Nat) (μ : St) : Option (Option PV) := match μ0.hp[i]? with
 | some (.dct es0 ep0) => (match μ.hp[i]? with
  | some (.dct es ep) => if es.length = es0.length ∧ ep = ep0 then some ((es[k]?).map λ e => .tup [.int e.1, e.2]) else none
  | _ => none)
 | _ => none
noncomputable def pIms (o : PV) : List PV -> PM Nat
 | [] => theDct o >>= λ p => pure p.1
 | _ => PM.H
noncomputable def mItems (fo : PM PV) (ga : PM (List PV)) : PM Nat := fo >>= λ x => theDct x >>= λ _ => ga >>= pIms x
def IV (φ : List Addr) (h : Heap) (v : Value) (i : Nat) : Prop := ∃ a m, v = .ref m ∧ φ[i]? = some a ∧ h.IsItemsView m a
noncomputable def sItems (f : PM Nat) (asg : PV -> PM Unit) (body : PM MF) (n : Nat) : PM MF := f >>= λ i => λ μ => forIx (getIm i μ) asg body n 0 μ
section
variable {c : Cx} {F : Fx}
theorem Zox {o : Expr} {apos pos : Pos} {args : List Expr} {fo : PM PV} {ga : PM (List PV)} (hbase : attributeBase o "items" F.env (eval o F.env) = eval o F.env) (hfew : hFew c F pos args) (hline : (apos.endLine == pos.line) = true)
  (h : SimE c F o fo) (hargs : CallArgs c F (starEach args F.env) ga) : Sim c F NoP IV (eval (.Call (.Attribute o "items" apos) args [] pos) F.env) (mItems fo ga) :=
 Zb4 hbase hfew hline PySem.F.plainAttrs_dict PySem.F.slot_dict_items PySem.F.type_dict_items h Zee hargs λ a x vs ys A φ μ s Q E hA R p hb hQ hE => by
  unfold pIms at hb hQ
  split at hb
  ·dsimp only at hQ
   obtain ⟨a', i, es, kvs, ep, ea, hi, hS, hr, e⟩ := Zc2 R p.1 (λ e => hb (by rw [PM.B, e]))
   cases ea
   rw [PM.C e] at hQ
   have hm : a ∈ φ := mem_of_getElem? hi
   obtain ⟨p1, p2⟩ := p
   cases p2
   refine call_meetsIn PySem.F.slot_dict_items hS.dictOf.typeIs PySem.F.entry_dict_items (PySem.F.args_dict_items_1 _) (meets_dict_items (intKind c.prog c.w) a (R.notSys hm)) ⟨⟨_, hS.dictOf⟩, ?_⟩
   obtain ⟨RB, xB⟩ := R.push { cls := .type "dict_items", data := .fields #[.ref a] } (tk := s.toks)
   exact hQ _ _ _ _ _ rfl RB xB ⟨a, _, rfl, hi, _, Heap.get?_push_size _ rfl, rfl, rfl⟩
  ·exact (hb rfl).elim
theorem Zoy {i : Nat} {es0 : List (Int × PV)} {ep k : Nat} {μ0 μ : St} (h₀ : μ0.hp[i]? = some (.dct es0 ep)) (h : getIm i μ0 k μ ≠ none) : ∃ es, μ.hp[i]? = some (.dct es ep) ∧ es.length = es0.length ∧ getIm i μ0 k μ = some ((es[k]?).map λ e => .tup [.int e.1, e.2]) := by
 unfold getIm at h ⊢
 rw [h₀] at h ⊢
 try dsimp only at h ⊢
 cases hj : μ.hp[i]? with
 | none => rw [hj] at h; exact (h rfl).elim
 | some o =>
  rw [hj] at h
  cases o with
  | dct es ep' =>
   dsimp only at h ⊢
   by_cases q : es.length = es0.length ∧ ep' = ep
   ·obtain ⟨q1, rfl⟩ := q
    exact ⟨es, rfl, q1, if_pos ⟨q1, rfl⟩⟩
   ·rw [if_neg q] at h; exact (h rfl).elim
  | _ => exact (h rfl).elim
theorem Zoz {d : Addr} {i ep : Nat} {es0 : List (Int × PV)} {it : Addr} {μ0 : St} {elts : List Expr} {x1 : Nat} {tp : Pos} (h₀ : μ0.hp[i]? = some (.dct es0 ep)) (hh : F.hd = true) :
  TnP c F (.Tuple elts x1 tp) it (λ k o => ∃ ok ov, o = { cls := .type "dict_itemiterator", dict := none, data := .fields #[.none, .bool false, .ref d, .int k 0, .int (es0.length : Nat) 0, .int ep 0, ok, ov], slots := #[] }) (.ref d) (.obj i) (getIm i μ0) := by
 have nfz : ∀ {o : Obj}, o.cls = .type "dict_itemiterator" -> ¬ FzO o := λ h => Zbg h (by decide) (by decide) (by decide) (by decide)
 refine ⟨λ k o ⟨ok, ov, h⟩ => by subst h; exact ⟨⟨_, rfl⟩, nfz rfl⟩, λ k A φ μ s Q Q' E hA R hit hv hn hi hb => ?_⟩
 obtain ⟨o, ho, ok, ov, rfl⟩ := hit
 obtain ⟨es, hes, hlen, hget⟩ := Zoy h₀ hb
 have h1 := hv.inv_obj rfl rfl
 obtain ⟨kvs, k1, k2⟩ := (R.objs i d _ h1 hes).inv_dct rfl
 have hkl : kvs.length = es0.length := by rw [Zbb k2, hlen]
 rw [<- hkl] at ho hi
 cases hx : es[k]? with
 | none =>
  have : kvs[k]? = none := by
   rw [List.getElem?_eq_none_iff] at hx ⊢
   lia
  exact Z1 (wpAny_pyNext_items_end (knd := intKind c.prog c.w) (hA.handled hh) ho k1 this λ h' hs size => hn (by rw [hget, hx]; rfl) h' s.toks hs size)
 | some e =>
  obtain ⟨w, hw, hr⟩ := Zgv k2 hx
  refine wpAny_pyNext_items_item (knd := intKind c.prog c.w) ho k1 hw λ key h' hkey hit' hp sz hs => ?_
  refine wpAny_letOwnedTupleGo_items hit' λ h'' hit'' hs' => hi _ (by rw [hget, hx]; rfl) _ h'' s.toks ⟨_, hit'', _, _, rfl⟩ (λ b o hb ho => (hs'.2 b hb).trans (hs b o hb ho)) ?_ (by rw [hs'.1, sz]; exact Nat.le_succ _)
  have hne : s.heap.objs.size ≠ it := λ e => absurd (Heap.lt_size ho) (by rw [<- e]; exact Nat.lt_irrefl _)
  obtain ⟨t, rfl⟩ := Value.isInt_shape hkey
  refine .tup (vs := [.int e.1 t, w]) ((hs'.2 _ hne).trans hp) (λ hm => absurd (R.phiLt hm) (Nat.lt_irrefl _)) (.cons (.int _ _) (.cons ?_ .nil))
  refine hr.move (λ _ _ e => e) (λ _ _ _ h => h) λ a oa ha _ hz => ?_
  have : a ≠ it := λ e => by
   subst e
   rw [ho] at ha; cases ha
   exact nfz rfl hz
  exact (hs'.2 a this).trans (hs a oa this ha)
theorem Zjg {elts : List Expr} {x1 : Nat} {tp : Pos} {iter : Expr} {body : List Stmt} {pos : Pos} {outer : List Env} {f : PM Nat} {asg : PV -> PM Unit} {g : PM MF} (hfr : F.frames = F.env :: outer) (hh : F.hd = true) (n : Nat) (hi : Sim c F NoP IV (eval iter F.env) f)
  (hasg : ∀ w x, Sim c F (λ φ h => VR φ h w x) (λ _ _ _ _ => True) (assign (.Tuple elts x1 tp) F.env w) (asg x)) (hbody : SimSS c F body g)
  (hs : ∀ x, foldedSetIterable iter F.env x = pure x) : SimS c F (.For (.Tuple elts x1 tp) iter body [] pos) (sItems f asg g n) := by
 intro A φ μ s Q E hA R p hb hQ hE
 unfold sItems at hb hQ hE
 refine wpAny_For ?_ hs
 refine hi.use hA R p hb hE λ v i φ1 μ1 s1 eg RB xB rB => ?_
 rw [eg] at hb hQ hE
 obtain ⟨a, m, rfl, ha, hv⟩ := rB
 have hne : getIm i μ1 0 μ1 ≠ none := λ e => hb (by
  cases n with
  | zero => rfl
  | succ n => show (match getIm i μ1 0 μ1 with | none => _ | some none => _ | some (some x) => _) = _; rw [e])
 cases hj : μ1.hp[i]? with
 | none => exact (hne (by unfold getIm; rw [hj])).elim
 | some o =>
  cases o with
  | dct es ep =>
   obtain ⟨kvs, k1, k2⟩ := (RB.objs i a _ ha hj).inv_dct rfl
   refine wpAny_pyIter_items (knd := intKind c.prog c.w) hv k1 ?_
   rw [Zbb k2]
   obtain ⟨RC, xC⟩ := RB.push { cls := .type "dict_itemiterator", data := .fields #[.none, .bool false, .ref a, .int 0 0, .int (es.length : Nat) 0, .int ep 0, .none, .none] } (tk := s1.toks)
   have hB : c.B.get? s1.heap.objs.size = none := by
    cases q : c.B.get? s1.heap.objs.size with
    | none => rfl
    | some o => exact absurd (Heap.lt_size (RB.keep _ o q)) (Nat.lt_irrefl _)
   exact Ze9 hfr (Zoz hj hh) hasg hbody hA n 0 ⟨RC, xB.trans xC, ⟨_, Heap.get?_push_size _ rfl, _, _, rfl⟩, λ hm => absurd (RB.phiLt hm) (Nat.lt_irrefl _), .obj (xC.idx _ _ ha), rfl⟩ xB.size hB hb hQ hE
  | _ => exact (hne (by unfold getIm; rw [hj])).elim
end

noncomputable def KV (n : Nat) {α : Type} : KasT α -> (α -> Prop) -> Prop
 | .ret a, P => P a
 | .ask i j k, P => (i < n ∧ j < n) ∧ ∀ b, KV n (k b) P
noncomputable def kRun (ans : Nat -> Nat -> Bool) {α : Type} : KasT α -> α
 | .ret a => a
 | .ask i j k => kRun ans (k (ans i j))
section
variable {n : Nat}
theorem KV.bind {α β : Type} {f : α -> KasT β} {P : β -> Prop} : ∀ {t : KasT α}, KV n t (λ a => KV n (f a) P) -> KV n (t.bind f) P
 | .ret _, h => h
 | .ask _ _ _, h => ⟨h.1, λ b => KV.bind (h.2 b)⟩
theorem KV.mono {α : Type} {P P' : α -> Prop} (q : ∀ a, P a -> P' a) : ∀ {t : KasT α}, KV n t P -> KV n t P'
 | .ret _, h => q _ h
 | .ask _ _ _, h => ⟨h.1, λ b => KV.mono q (h.2 b)⟩
theorem KV.run {α : Type} {P : α -> Prop} (ans : Nat -> Nat -> Bool) : ∀ {t : KasT α}, KV n t P -> P (kRun ans t)
 | .ret _, h => h
 | .ask i j k, h => KV.run (t := k (ans i j)) ans (h.2 _)
theorem KV.wp {α : Type} {P : α -> Prop} {ans : Nat -> Nat -> Bool} {cmp : Nat -> Nat -> (Bool -> Shared -> Prop) -> Shared -> Prop} {I : Shared -> Prop} {Q : α -> Shared -> Prop}
  (hc : ∀ i j C s, i < n -> j < n -> I s -> (∀ s', I s' -> C (ans i j) s') -> cmp i j C s) : ∀ {t : KasT α} {s : Shared}, KV n t P -> I s -> (∀ s', I s' -> Q (kRun ans t) s') -> t.kasWp cmp Q s
 | .ret _, s, _, hI, hQ => hQ s hI
 | .ask i j k, s, h, hI, hQ => hc i j _ s h.1.1 h.1.2 hI λ s' hI' => KV.wp hc (h.2 _) hI' hQ
noncomputable abbrev Lt (n : Nat) (p : Array Nat) : Prop := ∀ i, p.getD i 0 < n
theorem Zl5 {p q : Array Nat} (hp : q.Perm p) (h : Lt n p) : Lt n q := λ i => by
 by_cases hi : i < q.size
 ·have e : q.getD i 0 = q[i] := by simp [Array.getD, hi]
  rw [e]
  have hm : q[i] ∈ p := (Array.Perm.mem_iff hp).mp (Array.getElem_mem hi)
  obtain ⟨j, hj, e⟩ := Array.getElem_of_mem hm
  have := h j
  rw [show p.getD j 0 = p[j] by simp [Array.getD, hj], e] at this
  exact this
 ·have e : q.getD i 0 = 0 := by simp [Array.getD, hi]
  rw [e]; exact Nat.lt_of_le_of_lt (Nat.zero_le _) (h 0)
theorem Zek {p : Array Nat} {i j : Nat} (h : Lt n p) : Lt n (kas_rev p i j) := Zl5 (mirror_perm _ _ _ _) h
theorem Zjh {p : Array Nat} (h : Lt n p) : ∀ (f k : Nat), KV n (kas_asc p f k) λ _ => True
 | 0, _ => trivial
 | f + 1, k => ⟨⟨h _, h _⟩, λ b => by cases b <;> first | exact trivial | exact Zjh h f (k + 1)⟩
theorem Ze0 : ∀ (f : Nat) {p : Array Nat} (k q : Nat), Lt n p -> KV n (kas_desc f p k q) λ r => Lt n r.1
 | 0, _, _, _, h => h
 | f + 1, p, k, q, h => ⟨⟨h _, h _⟩, λ b => by
  cases b with
  | true =>
   dsimp only
   rw [if_pos rfl]
   split
   ·exact Ze0 f _ _ (Zek h)
   ·exact Ze0 f _ _ h
  | false =>
   dsimp only
   rw [if_neg Bool.false_ne_true]
   refine ⟨⟨h _, h _⟩, λ b => ?_⟩
   cases b with
   | true => exact h
   | false => exact Ze0 f _ _ h⟩
theorem Zji {p : Array Nat} {k m : Nat} (h : Lt n p) : KV n (kas_tail3 k m p) λ r => Lt n r.2 := KV.bind ((Zjh (Zek h) _ _).mono λ _ _ => Zek h)
theorem Zfh {p : Array Nat} {k m : Nat} (h : Lt n p) : KV n (kas_descPart k m p) λ r => Lt n r.2 := KV.bind ((Ze0 _ _ _ h).mono λ r hr => by
 try dsimp only
 split
 ·exact Zji (Zek hr)
 ·exact Zji hr)
theorem Zp5 {p : Array Nat} {m : Nat} (h : Lt n p) : KV n (kas_count m p) λ r => Lt n r.2 := KV.bind ((Zjh h _ _).mono λ k _ => by
 try dsimp only
 split
 ·exact h
 ·split
  ·refine ⟨⟨h _, h _⟩, λ b => ?_⟩
   cases b with
   | true => exact h
   | false => exact Zfh (Zek h)
  ·exact Zfh h)
theorem Zjj {p : Array Nat} {k : Nat} (h : Lt n p) : ∀ (f l r : Nat), KV n (kas_place p k f l r) λ _ => True
 | 0, _, _ => trivial
 | f + 1, l, r => by
  rw [kas_place]
  split
  ·exact trivial
  ·refine ⟨⟨h _, h _⟩, λ b => ?_⟩
   cases b <;> exact Zjj h f _ _
theorem Zo0 : ∀ (f : Nat) {p : Array Nat} (k : Nat), Lt n p -> KV n (kas_bin f p k) (Lt n)
 | 0, _, _, h => h
 | f + 1, p, k, h => KV.bind ((Zjj h _ _ _).mono λ l _ => Zo0 f _ (Zl5 (bubble_perm _ _ _) h))
theorem Zjk (hn : 0 < n) : Lt n (List.toArray (List.range n)) := λ i => by
 by_cases hi : i < n
 ·simp [Array.getD, hi]
 ·simp [Array.getD, hi, hn]
theorem Zdg (hn : 0 < n) : KV n (kas_sort n) (Lt n) := KV.bind ((Zp5 (Zjk hn)).mono λ r hr => by
 try dsimp only
 split
 ·exact Zo0 _ _ hr
 ·exact hr)
end
noncomputable def yesC (p : Prop) : Bool := @decide p (Classical.propDecidable p)
theorem Zjl {p : Prop} : yesC p = true ↔ p := @decide_eq_true_iff p (Classical.propDecidable p)
theorem Zs0 {M : Model} {α : Type} {t : Sem α} {b : α -> Bool} {s : Shared} (h1 : wpAny M {} t (λ a _ => b a = true) (λ _ _ => False) s) (h2 : wpAny M {} t (λ a _ => b a = false) (λ _ _ => False) s) : False := by
 have one : ∀ v : Bool, wpAny M {} t (λ a _ => b a = v) (λ _ _ => False) s -> ∃ s', Reach M [] s (t >>= λ a => (pure (.done (.ret (.bool (b a)))) : Sem PySem.Fin)) (.builtin "boot" {}) default [] s' (.ret (.ok (.ret (.bool v)))) := λ v h => by
  have h' : wpAny M {} (t >>= λ a => (pure (.done (.ret (.bool (b a)))) : Sem PySem.Fin)) (λ f s' => f = .done (.ret (.bool v))) (λ _ _ => False) s :=
   Qb (wpAny_mono h (λ a s' e => Qp (by rw [e])) λ _ _ e => e)
  have h2 := h' _ default boot_in
  obtain ⟨r, s', hr, e⟩ := (wp_iff_reach (base := []) (c := .builtin "boot" {}) _ (λ r _ => r = .ok (.ret (.bool v))) default s).mp (Sem.wp_mono M _ _ (λ a _ s' e => by subst e; exact rfl) (λ e _ s' h => h.elim) _ _ h2)
  subst e
  exact ⟨s', hr⟩
 obtain ⟨_, r1⟩ := one true h1
 obtain ⟨_, r2⟩ := one false h2
 have := (r1.det r2).2
 cases this
theorem Zo1 (prog : Program) (w : World) (s : Shared) {n : Nat} (h2 : 2 <= n) (h64 : n < 64) (key : Nat -> Int) {p : Array Nat} (ep : kRun (λ i j => decide (key i < key j)) (kas_sort n) = p) :
  p.size = n ∧ p.toList.Perm (List.range n) ∧ ∀ i j, i <= j -> j < n -> key (p.getD i 0) <= key (p.getD j 0) := by
 have hl : Lt n p := by rw [<- ep]; exact (Zdg (Qlk h2 Qr)).run _
 obtain ⟨it, hit⟩ : ∃ it : Array Keyed, it = ((List.range n).map λ i => ((Value.int (key i) 0, Value.int (i : Int) 0) : Keyed)).toArray := ⟨_, rfl⟩
 have isz : it.size = n := by rw [hit]; simp
 have iat : ∀ i, i < n -> kas_item it i = (Value.int (key i) 0, Value.int (i : Int) 0) := λ i hi => by
  unfold kas_item
  rw [hit]
  simp [Array.getD, hi]
 obtain ⟨b, hb⟩ : ∃ b : Unit × SortSt -> Bool, b = λ r => yesC (p.size = n ∧ arrOf r.2 = p.map (kas_item it)) := ⟨_, rfl⟩
 have g1 : wpAny (model prog w) {} (sortRuns'.run (kas_st oneType' it (List.toArray (List.range n)))) (λ r _ => b r = true) (λ _ _ => False) s := by
  refine kas_runs (Q := λ _ st _ => b ((), st) = true) (G := λ p' _ => p' = p) h2 h64 (λ p' st' s' h1 h2 _ h3 => ?_) ?_
  ·subst h3; rw [hb]; exact Zjl.mpr ⟨h1, h2⟩
  ·refine (Zdg (Qlk h2 Qr)).wp (I := λ _ => True) (ans := λ i j => decide (key i < key j)) (λ i j C s hi hj _ h => ?_) trivial λ _ _ => ep
   unfold kas_cmp
   rw [iat i hi, iat j hj]
   exact kat_lt_int (h _ trivial)
 refine Classical.byContradiction λ hn => Zs0 g1 ?_
 refine wpAny_mono (wpS_sortRuns (a₀ := it) (Q := λ _ st => b ((), st) = false) (λ q hq => ?_) ⟨?_, rfl, rfl, rfl⟩ (by rw [isz]; exact h2) (by rw [isz]; exact h64) λ st hp _ hs => ?_) (λ _ _ h => h.2) λ _ _ h => h
 ·rw [hit] at hq
  simp at hq
  obtain ⟨i, _, rfl⟩ := hq
  exact ⟨_, _, rfl⟩
 ·show (Array.map (kas_item it) (List.toArray (List.range n))).Perm it
  rw [<- isz, kas_range]
 ·rw [hb]
  refine Bool.eq_false_iff.mpr λ h => hn ?_
  obtain ⟨z, e⟩ := Zjl.mp h
  have at' : ∀ i, i < n -> (arrOf st)[i]? = some (Value.int (key (p.getD i 0)) 0, Value.int (p.getD i 0 : Int) 0) := λ i hi => by
   have : arrOf st = p.map (kas_item it) := e
   rw [this, Array.getElem?_map]
   have : p[i]? = some (p.getD i 0) := by rw [Array.getElem?_eq_getElem (by exact Qle hi z)]; simp [Array.getD, show i < p.size by lia]
   rw [this, Option.map_some, iat _ (hl i)]
  refine ⟨z, ?_, λ i j hij hj => ?_⟩
  ·have q := (Array.perm_iff_toList_perm.mp hp).map λ x : Keyed => (numOf x.2).toNat
   have e1 : (arrOf st).toList.map (λ x : Keyed => (numOf x.2).toNat) = p.toList := by
    refine List.ext_getElem? λ i => ?_
    rw [List.getElem?_map, Array.getElem?_toList, Array.getElem?_toList]
    by_cases hi : i < n
    ·rw [at' i hi, Array.getElem?_eq_getElem (by exact Qle hi z)]
     simp [Array.getD, show i < p.size by lia]
     rfl
    ·have : arrOf st = p.map (kas_item it) := e
     rw [this, Array.getElem?_eq_none (by simp; lia), Array.getElem?_eq_none (by lia)]
     rfl
   have e2 : it.toList.map (λ x : Keyed => (numOf x.2).toNat) = List.range n := by
    rw [hit]
    simp
    exact (map_congr_left λ i _ => rfl).trans (List.map_id _)
   rw [e1, e2] at q
   exact q
  ·have := hs i j hij (by rw [isz]; exact hj)
   unfold PyProof.Rows.K at this
   rw [at' i (by exact Qkl hij hj), at' j hj] at this
   exact this

open PySem.AutoSeq1 (wpAny_loadPart')
open PySem.MeetsSeq
noncomputable def ltL : List Int -> List Int -> Bool
 | [], ys => !ys.isEmpty
 | _ :: _, [] => false
 | x :: xs, y :: ys => if x = y then ltL xs ys else decide (x < y)
theorem ltL_s {x y : Int} {xs ys : List Int} : ltL (x :: xs) (y :: ys) = if x = y then ltL xs ys else decide (x < y) := rfl
theorem Zrv {xs : List Int} : ltL xs [] = false := by cases xs <;> rfl
theorem Zda {vs : List Value} {xs : List Int} (h : IntsAre vs xs) : vs.length = xs.length := by
 induction h with
 | nil => rfl
 | cons _ _ _ ih => exact congrArg Nat.succ ih
theorem Zgl {vs : List Value} {xs : List Int} (h : IntsAre vs xs) : ∀ {i : Nat}, i < vs.length -> ∃ x t, vs[i]? = some (.int x t) ∧ xs.drop i = x :: xs.drop (i + 1) := by
 induction h with
 | nil => exact λ h => absurd h (Nat.not_lt_zero _)
 | cons n t _ ih => exact λ {i} h => match i, h with
  | 0, _ => ⟨n, t, rfl, rfl⟩
  | i + 1, h => ih (Nat.lt_of_succ_lt_succ h)
noncomputable abbrev LtAt (l b : Addr) (vs ws : List Value) (n n2 : Nat) (xs ys : List Int) (i : Nat) : Prop := Meets (Builtin.«list.__eq__.loop» ⟨[.ref l, .ref b, rawInt i, rawInt 0], []⟩)
   (λ _ R s => s.heap.get? l = some { cls := .type "list", dict := none, data := .seq vs.toArray n, slots := #[] } ∧ s.heap.get? b = some { cls := .type "list", dict := none, data := .seq ws.toArray n2, slots := #[] } ∧
    R (.ok (.ret (.bool (ltL (xs.drop i) (ys.drop i))))) s)
theorem Zl6 {l b : Addr} {vs ws : List Value} {xs ys : List Int} {n n2 : Nat} (hx : IntsAre vs xs) (hy : IntsAre ws ys) {i : Nat} (h1 : i <= vs.length) (h2 : i <= ws.length) (next : i < vs.length -> i < ws.length -> LtAt l b vs ws n n2 xs ys (i + 1)) : LtAt l b vs ws n n2 xs ys i := by
 intro prog w A R s h
 obtain ⟨hp, g, d, tk, os⟩ := s; obtain ⟨hl, hb, h⟩ := h
 wp_walk using wpAny_loadPart' hl, wpAny_loadPart' hb
 have out : (¬ (i < vs.length ∧ i < ws.length)) -> R (.ok (.ret (.bool (decide (vs.toArray.size < ws.toArray.size))))) ⟨hp, g, d, tk, os⟩ := λ q => by
  have e : ltL (xs.drop i) (ys.drop i) = decide (vs.toArray.size < ws.toArray.size) := by
   by_cases q1 : i < vs.length
   ·rw [show ys.drop i = [] by rw [List.drop_eq_nil_iff, <- Zda hy]; exact Qn λ a => q ⟨q1, a⟩, Zrv]
    exact (decide_eq_false (by simp; lia)).symm
   ·rw [show xs.drop i = [] by rw [List.drop_eq_nil_iff, <- Zda hx]; lia]
    show (!(ys.drop i).isEmpty) = _
    rw [Bool.eq_iff_iff]
    simp
    rw [<- Zda hy]
    lia
  rw [e] at h
  exact h
 by_cases q1 : i < vs.length
 ·obtain ⟨x, t, e1, e2⟩ := Zgl hx q1
  have hi1 : vs.toArray[((i : Nat) : Int).toNat]? = some (.int x t) := by simpa using e1
  rw [hi1]
  by_cases hj : i < ws.length
  ·obtain ⟨y, u, e3, e4⟩ := Zgl hy hj
   have hi2 : ws.toArray[((i : Nat) : Int).toNat]? = some (.int y u) := by simpa using e3
   rw [hi2]
   rw [e2, e4, ltL_s] at h
   refine Qb (EqGives.int _ _ _ _ prog w _ _ _ _ ?_)
   by_cases q : x = y
   ·subst q
    rw [if_pos rfl] at h
    rw [beq_self_eq_true]
    have hc : ((i : Int) + 1) = ((i + 1 : Nat) : Int) := rfl
    wp_walk
    rw [hc]
    exact ⟨plainId_quiet MeetsSeq3.plain_eq_loop _, codeAny_builtin MeetsSeq3.entry_eq_loop (by
     rw [Around.under_plainId MeetsSeq3.plain_eq_loop _]
     exact next q1 hj prog w A R _ ⟨hl, hb, h⟩)⟩
   ·rw [if_neg q] at h
    rw [beq_eq_false_iff_ne.mpr q]
    wp_walk using wpAny_loadPart' hl, wpAny_loadPart' hb
    rw [hi1, hi2]
    refine Qb (lt_int (prog := prog) (w := w) ?_)
    exact Qp h
  ·have hi2 : ws.toArray[((i : Nat) : Int).toNat]? = none := by simp; lia
   rw [hi2]
   wp_walk using wpAny_loadPart' hl, wpAny_loadPart' hb
   exact out λ q => hj q.2
 ·have hi1 : vs.toArray[((i : Nat) : Int).toNat]? = none := by simp; lia
  rw [hi1]
  wp_walk using wpAny_loadPart' hl, wpAny_loadPart' hb
  exact out λ q => q1 q.1
theorem Zrw {l b : Addr} {vs ws : List Value} {xs ys : List Int} {n n2 : Nat} (hx : IntsAre vs xs) (hy : IntsAre ws ys) (k : Nat) : ∀ i : Nat, vs.length - i = k -> i <= vs.length -> i <= ws.length -> LtAt l b vs ws n n2 xs ys i := by
 induction k with
 | zero => exact λ i hk h1 h2 => Zl6 hx hy h1 h2 λ q => absurd q (Nat.not_lt_of_le (Nat.le_of_sub_eq_zero hk))
 | succ k ih => exact λ i hk h1 h2 => Zl6 hx hy h1 h2 λ q1 q2 => ih (i + 1) (congrArg Nat.pred hk) q1 q2
theorem Zrx {l b : Addr} {vs ws : List Value} {xs ys : List Int} {n n2 : Nat} (hx : IntsAre vs xs) (hy : IntsAre ws ys) : Meets (Builtin.«list.__lt__» ⟨[.ref l, .ref b], []⟩)
   (λ _ R s => s.heap.get? l = some { cls := .type "list", dict := none, data := .seq vs.toArray n, slots := #[] } ∧ s.heap.get? b = some { cls := .type "list", dict := none, data := .seq ws.toArray n2, slots := #[] } ∧
    R (.ok (.ret (.bool (ltL xs ys)))) s) := by
 intro prog w A R s h
 obtain ⟨hp, g, d, tk, os⟩ := s; obtain ⟨hl, hb, h⟩ := h
 have f3 := AutoSeq1.sub_list_list
 wp_walk using wpAny_loadPart' hl, wpAny_loadPart' hb
 exact ⟨plainId_quiet MeetsSeq3.plain_eq_loop _, codeAny_builtin MeetsSeq3.entry_eq_loop (by
  rw [Around.under_plainId MeetsSeq3.plain_eq_loop _]
  exact Zrw hx hy _ 0 rfl (Nat.zero_le _) (Nat.zero_le _) prog w A R _ ⟨hl, hb, h⟩)⟩

section
variable {prog : Program} {w : World} {A : Around} {E : Value -> Shared -> Prop} {s : Shared}
theorem Zl7 (ans : Nat -> Nat -> Bool) {n : Nat} (h : n < 2) : kRun ans (kas_sort n) = List.toArray (List.range n) := by
 match n, h with
 | 0, _ => rfl
 | 1, _ => rfl
theorem Zh1 {ans : Nat -> Nat -> Bool} {a : Addr} {vs : List Value} {n : Nat} {P : PySem.Fin -> Shared -> Prop} (ho : s.heap.get? a = some (seqObj "list" vs.toArray n)) (h64 : vs.length < 64)
  (hT : ∀ h' : Heap, (∀ b o, b ≠ a -> s.heap.get? b = some o -> h'.get? b = some o) -> ∀ v ∈ vs, Looks (model prog w) h' (typeOf v) (.type "list"))
  (hc : ∀ h' : Heap, (∀ b o, b ≠ a -> s.heap.get? b = some o -> h'.get? b = some o) -> ∀ (i j : Nat) (C : Bool -> Shared -> Prop), i < vs.length -> j < vs.length -> C (ans i j) { s with heap := h' } ->
   wpAny (model prog w) A (keyLt' oneType' (vs.getD i .none) (vs.getD j .none)) C (λ _ _ => False) { s with heap := h' })
  (h : P (.done (.ret .none)) { s with heap := sortedHeap s.heap a vs ((kRun ans (kas_sort vs.length)).map λ i => vs.getD i .none) }) :
  wpAny (model prog w) A (Builtin.«list.sort» ⟨[.ref a], []⟩) P E s := by
 rw [list_sort_plain]
 have ha : a < s.heap.objs.size := Heap.lt_size ho
 refine Qb (listItems_at ho rfl ?_)
 refine Qb (listUpdate_at ho rfl ?_)
 obtain ⟨e1, ho1⟩ : ∃ e1, (s.heap.update a (Obj.mapSeq λ _ => #[])).get? a = some (seqObj "list" #[] e1) := ⟨_, get?_update_seq ho (λ _ => #[])⟩
 refine Qb (seqEpoch_at ho1 rfl ?_)
 refine Qb (wpAny_newTuple ?_)
 refine Qb (wpAny_newList ?_)
 refine wpAny_holding ?_
 obtain ⟨h6, e6⟩ : ∃ h6, h6 = ((s.heap.update a (Obj.mapSeq λ _ => #[])).push (seqObj "tuple" vs.toArray 0)).push (seqObj "list" #[] 0) := ⟨_, rfl⟩
 have ho6 : h6.get? a = some (seqObj "list" #[] e1) := by
  rw [e6, Heap.get?_push_ne _ _ _ (by rw [size_push', Heap.size_update]; exact Nat.ne_of_lt (Nat.lt_succ_of_lt ha)), Heap.get?_push_ne _ _ _ (by rw [Heap.size_update]; exact Nat.ne_of_lt ha)]
  exact ho1
 have keep : ∀ b o, b ≠ a -> s.heap.get? b = some o -> h6.get? b = some o := λ b o hb q => by
  have hlt : b < s.heap.objs.size := Heap.lt_size q
  rw [e6, Heap.get?_push_ne _ _ _ (by rw [size_push', Heap.size_update]; exact Nat.ne_of_lt (Nat.lt_succ_of_lt hlt)), Heap.get?_push_ne _ _ _ (by rw [Heap.size_update]; exact Nat.ne_of_lt hlt), Heap.get?_update_ne _ _ _ _ hb]
  exact q
 show wpAny (model prog w) A _ P E { s with heap := ((s.heap.update a (Obj.mapSeq λ _ => #[])).push (seqObj "tuple" vs.toArray 0)).push (seqObj "list" #[] 0) }
 have fin : P (.done (.ret .none)) { s with heap := h6.update a (Obj.mapSeq λ _ => (kRun ans (kas_sort vs.length)).map λ i => vs.getD i .none) } := by rw [e6]; exact h
 rw [<- e6]
 dsimp only
 have hsz : vs.toArray.size = vs.length := by simp
 by_cases h2 : vs.toArray.size < 2
 ·rw [if_pos h2, if_pos h2]
  refine Qb (Qp ?_)
  rw [StateT.run_pure]
  refine Qb (Qp ?_)
  dsimp only
  refine Qb (seqEpoch_at ho6 rfl ?_)
  refine Qb (listUpdate_at ho6 rfl ?_ (hsz2 := by rw [Array.size_map]; show (pairsOf vs).size <= _; rw [pairsOf_size, sizeLine_eq]; exact Qlkc h64 rfl))
  simp only [bne_self_eq_false, Bool.false_eq_true, if_false]
  refine Qp ?_
  rw [Zl7 ans (by rw [<- hsz]; exact h2)] at fin
  have e : (List.toArray (List.range vs.length)).map (λ i => vs.getD i .none) = (vs.toArray.zip vs.toArray).map (·.2) := by
   refine Array.ext (by simp) λ i h1 h2 => ?_
   simp at h1
   simp [h1]
  rw [e] at fin
  exact fin
 ·rw [if_neg h2, if_neg h2]
  refine Qb (kas_kind (Qn h2) (hT h6 keep) (by decide) (by decide) ?_)
  have hn : vs.length = (pairsOf vs).size := (pairsOf_size _).symm
  refine Qb ?_
  have K := kas_runs (prog := prog) (w := w) (A := A) (κ := oneType') (it := pairsOf vs) (n := vs.length) (E := E) (s := { s with heap := h6 }) (Q := λ _ st s' => arrOf st = (kRun ans (kas_sort vs.length)).map (kas_item (pairsOf vs)) ∧ failedOf st = none ∧ s' = { s with heap := h6 } ∧ (kRun ans (kas_sort vs.length)).size = vs.length) (G := λ p s' => p = kRun ans (kas_sort vs.length) ∧ s' = { s with heap := h6 })
   (Qn h2) h64 (λ p' st' s' q0 q1 q2 q3 => ⟨by rw [q1, q3.1], q2, q3.2, by rw [<- q3.1]; exact q0⟩) ((Zdg (Qn λ a => h2 (Qs a))).wp (I := λ s' => s' = { s with heap := h6 }) (ans := ans) (λ i j C s' hi hj hs hC => by
    subst hs
    unfold kas_cmp
    rw [kas_item_eq, kas_item_eq]
    exact hc h6 keep i j C hi hj (hC _ rfl)) rfl λ s' hs => ⟨rfl, hs⟩)
  have est : kas_st oneType' (pairsOf vs) (List.toArray (List.range vs.length)) = SortSt.mk' oneType' (vs.toArray.zip vs.toArray) #[] 7 none := by
   unfold kas_st
   rw [hn, kas_range]; rfl
  rw [est] at K
  refine wpAny_mono K ?_ λ _ _ e => e
  rintro ⟨⟨⟩, st'⟩ s' ⟨hp, hf, rfl, hz⟩
  dsimp only
  have hout : (arrOf st').map (·.2) = (kRun ans (kas_sort vs.length)).map λ i => vs.getD i .none := by
   have : arrOf st' = _ := hp
   rw [this, Array.map_map]
   congr 1
   funext i
   show (kas_item (pairsOf vs) i).2 = _
   rw [kas_item_eq]
  refine Qb (seqEpoch_at ho6 rfl ?_)
  refine Qb (listUpdate_at ho6 rfl ?_ (hsz2 := by
   rw [hout, Array.size_map, hz, sizeLine_eq]; exact Qlkc h64 rfl))
  rw [hf]
  simp only [bne_self_eq_false, Bool.false_eq_true, if_false]
  rw [hout]
  exact Qp fin
end

section
variable {prog : Program} {w : World} {A : Around} {E : Value -> Shared -> Prop} {s : Shared}
theorem Znb {ans : Nat -> Nat -> Bool} {l : Addr} {vs : List Value} {Q : Value -> Shared -> Prop} (hl : s.heap.IsList l vs.toArray) (h64 : vs.length < 64)
  (hT : ∀ h' : Heap, (∀ b o, s.heap.get? b = some o -> h'.get? b = some o) -> ∀ v ∈ vs, Looks (model prog w) h' (typeOf v) (.type "list"))
  (hc : ∀ h' : Heap, (∀ b o, s.heap.get? b = some o -> h'.get? b = some o) -> ∀ (i j : Nat) (C : Bool -> Shared -> Prop), i < vs.length -> j < vs.length -> C (ans i j) { s with heap := h' } ->
   wpAny (model prog w) A.in1.in1 (keyLt' oneType' (vs.getD i .none) (vs.getD j .none)) C (λ _ _ => False) { s with heap := h' })
  (h : Q (.ref (s.heap.objs.size + 1)) { s with heap := sortedAll s.heap vs ((kRun ans (kas_sort vs.length)).map λ i => vs.getD i .none) }) :
  wpAny (model prog w) A (call (.builtin "sorted") [.ref l]) Q E s := by
 refine Calls.call_function_entry kind_sorted plain_sorted entry_sorted (args_sorted1 _) ?_
 unfold Builtin.«sorted»
 refine Qb (m := checkCount "sorted" 1 1 _) (Qp ?_)
 refine Qb (collect_list hl ?_)
 refine Qb (wpAny_newList ?_)
 have hsz : ((s.heap.push (seqObj "list" #[] 0)).update s.heap.objs.size (Obj.mapSeq (· ++ vs.toArray))).objs.size = s.heap.objs.size + 1 := by
  rw [Heap.size_update, size_push']
 have hoL : (((s.heap.push (seqObj "list" #[] 0)).update s.heap.objs.size (Obj.mapSeq (· ++ vs.toArray))).push (seqObj "list" vs.toArray 0)).get? (s.heap.objs.size + 1) = some (seqObj "list" vs.toArray 0) := by
  rw [<- hsz]; exact Heap.get?_push_size _ rfl
 have keep : ∀ b o, s.heap.get? b = some o -> (((s.heap.push (seqObj "list" #[] 0)).update s.heap.objs.size (Obj.mapSeq (· ++ vs.toArray))).push (seqObj "list" vs.toArray 0)).get? b = some o := λ b o q => by
  have hlt : b < s.heap.objs.size := Heap.lt_size q
  rw [Heap.get?_push_ne _ _ _ (by rw [hsz]; exact Nat.ne_of_lt (Nat.lt_succ_of_lt hlt)), Heap.get?_update_ne _ _ _ _ (Nat.ne_of_lt hlt), Heap.get?_push_ne _ _ _ (Nat.ne_of_lt hlt)]
  exact q
 have keep' : ∀ h' : Heap, (∀ b o, b ≠ s.heap.objs.size + 1 -> (((s.heap.push (seqObj "list" #[] 0)).update s.heap.objs.size (Obj.mapSeq (· ++ vs.toArray))).push (seqObj "list" vs.toArray 0)).get? b = some o -> h'.get? b = some o) -> ∀ b o, s.heap.get? b = some o -> h'.get? b = some o :=
  λ h' hk b o q => hk b o (Nat.ne_of_lt (Nat.lt_succ_of_lt (Heap.lt_size q))) (keep b o q)
 show wpAny _ _ _ _ _ { s with heap := ((s.heap.push (seqObj "list" #[] 0)).update s.heap.objs.size (Obj.mapSeq (· ++ vs.toArray))).push (seqObj "list" vs.toArray 0) }
 rw [hsz]
 refine Qb (wpAny_holding (wpAny_call_entry slot_list_sort ⟨_, hoL, rfl⟩ entry_list_sort (Zh1 (ans := ans) hoL h64 (λ h' hk => hT h' (keep' h' hk)) (λ h' hk => hc h' (keep' h' hk)) ⟨_, rfl, ?_⟩) (args_list_sort _)))
 exact Qp ⟨_, rfl, h⟩
end
noncomputable def llOf (hp : List MO) (x : PV) : Option (List Int) := (isLst hp x).bind intsOf
noncomputable def llM (x : PV) : PM (List PV × List (List Int)) := λ μ => match isLst μ.hp x with
 | some xs => (match mapO (llOf μ.hp) xs with
  | some ds => .ok (xs, ds) μ
  | none => .bad)
 | none => .bad
noncomputable def ansL (ds : List (List Int)) (i j : Nat) : Bool := ltL (ds.getD i []) (ds.getD j [])
noncomputable def sortLL (ds : List (List Int)) (xs : List PV) : List PV := (kRun (ansL ds) (kas_sort xs.length)).toList.map λ i => xs.getD i .none
noncomputable def pSortLL : List PV -> PM PV := oneM λ x => llM x >>= λ p => chk (decide (p.1.length < 64)) >>= λ _ => pure (.lst (sortLL p.2 p.1))
theorem Zp6 {φ : List Addr} {h : Heap} {vs : List Value} {xs : List PV} (r : VRs φ h vs xs) (i : Nat) : VR φ h (vs.getD i .none) (xs.getD i .none) := by
 rw [getD_eq_getElem?_getD, getD_eq_getElem?_getD]
 cases e : xs[i]? with
 | some x =>
  obtain ⟨w, hw, hr⟩ := r.get e
  rw [hw]; exact hr
 | none =>
  have : vs[i]? = none := by
   rw [List.getElem?_eq_none_iff] at e ⊢
   rw [r.length]; exact e
  rw [this]; exact .none
theorem Zjm {φ φ' : List Addr} {h h' : Heap} {vs : List Value} {xs : List PV} (r : VRs φ h vs xs) (hm : ∀ v x, VR φ h v x -> VR φ' h' v x) : ∀ is : List Nat, VRs φ' h' (is.map λ i => vs.getD i .none) (is.map λ i => xs.getD i .none)
 | [] => .nil
 | i :: is => .cons (hm _ _ (Zp6 r i)) (Zjm r hm is)
theorem Zl8 {α β : Type} {f : α -> Option β} : ∀ {xs : List α} {ys : List β}, mapO f xs = some ys -> ∀ {i : Nat} {x : α}, xs[i]? = some x -> ∃ y, f x = some y ∧ ys[i]? = some y
 | x :: xs, ys, h, i, z, hz => by
  rw [Zd3] at h
  cases e : f x with
  | none => rw [e] at h; cases h
  | some y =>
   rw [e] at h
   obtain ⟨zs, e2, rfl⟩ := Option.map_eq_some_iff.mp h
   match i, hz with
   | 0, hz => cases hz; exact ⟨y, e, rfl⟩
   | i + 1, hz => exact Zl8 e2 hz
section
variable {c : Cx} {F : Fx}
theorem Zp7 {prog : Program} {w : World} {A : Around} {a b : Addr} {vs ws : List Value} {xs ys : List Int} {n m : Nat} {s : Shared} {C : Bool -> Shared -> Prop} (hu : A.units < cLine)
  (ha : s.heap.get? a = some { cls := .type "list", data := .seq vs.toArray n }) (hb : s.heap.get? b = some { cls := .type "list", data := .seq ws.toArray m }) (hx : IntsAre vs xs) (hy : IntsAre ws ys) (h : C (ltL xs ys) s) :
  wpAny (model prog w) A (keyLt' oneType' (.ref a) (.ref b)) C (λ _ _ => False) s := by
 rw [keyLt'_oneType, oneLt'_eq]
 simp only [if_true]
 refine Qb (wpAny_cRoomFor hu ?_)
 refine Qb (wpAny_callSpecialIfBound?_slot (T := "list") (id := "list.__lt__") ⟨_, ha, rfl⟩ PySem.F.slot_list_lt (call_meets PySem.F.slot_list_lt ⟨_, ha, rfl⟩ PySem.F.entry_list_lt (PySem.F.args_list_lt_2 _ _) (Zrx hx hy) ⟨ha, hb, ?_⟩))
 exact wpAny_truthy_bool h
theorem Zjn {φ : List Addr} {μ : St} {s : Shared} (R : Rep c F φ μ s) {h' : Heap} {tk : Nat} (keep : ∀ b o, s.heap.get? b = some o -> h'.get? b = some o) (size : s.heap.objs.size <= h'.objs.size) :
  Rep c F φ μ { s with heap := h', toks := tk } ∧ Ext F.nss F.cls φ s.heap φ h' ∧ (∀ w x, VR φ s.heap w x -> VR φ h' w x) := by
 have S : Side c F φ s.heap h' := ⟨size, λ a oa ha => .inl (keep a oa ha)⟩
 exact ⟨R.side S, Ext.refl.after size (λ a o ho => .inl (keep a o ho)) λ a _ ⟨o, ho⟩ => ⟨o, keep a o ho⟩, λ w x r => S.mv R r⟩
noncomputable def pSortIntsL : List PV -> PM PV := oneM λ x => lstM intsOf x >>= λ is => chk (decide (is.length < 64)) >>= λ _ => pure (.lst ((sortI is).map .int))
theorem Zh2 : SimCall c F (.builtin "sorted") pSortIntsL := Zav λ v x A φ μ s Q E hA R p hb hQ hE => by
 obtain ⟨xs, y, e1, e2, e3⟩ := Zl3 (λ e => hb (by rw [PM.B, e]))
 rw [PM.C e3] at hb hQ
 obtain ⟨h1, h2⟩ := Zs hb
 rw [h2] at hQ
 obtain ⟨a, vs, rfl, hL, hvs⟩ := Zdj R p e1
 have h64 : vs.length < 64 := by rw [<- (Zc0 hvs e2).1]; exact of_decide_eq_true h1
 refine Z1 (sorted_ints hL (Zgj hvs e2) h64 λ out ns' hi hp hs size => ?_)
 obtain ⟨e, he⟩ := sortedAll_at s.heap vs out
 obtain ⟨RB, xB, _⟩ := Zjn (tk := s.toks) R (λ b o q => sortedAll_old q) size
 refine hQ _ _ _ _ _ rfl RB xB (.lst (vs := out.toList) he (λ hm => absurd (R.phiLt hm) (Nat.not_lt_of_le (Nat.le_succ _))) ?_)
 rw [<- eq_sortI hp hs]
 exact Zjd hi
theorem Znc : SimCall c F (.builtin "sorted") pSortLL := Zav λ v x A φ μ s Q E hA R p hb hQ hE => by
 have hb' : llM x μ ≠ .bad := λ e => hb (by rw [PM.B, e])
 obtain ⟨xs, ds, e1, e2, e3⟩ : ∃ xs ds, isLst μ.hp x = some xs ∧ mapO (llOf μ.hp) xs = some ds ∧ llM x μ = .ok (xs, ds) μ := by
  unfold llM at hb' ⊢
  cases q : isLst μ.hp x with
  | none => rw [q] at hb'; exact (hb' rfl).elim
  | some xs =>
   rw [q] at hb'
   try dsimp only at hb' ⊢
   cases q2 : mapO (llOf μ.hp) xs with
   | none => rw [q2] at hb'; exact (hb' rfl).elim
   | some ds => exact ⟨xs, ds, rfl, q2, rfl⟩
 clear hb'
 rw [PM.C e3] at hb hQ
 obtain ⟨h1, h2⟩ := Zs hb
 rw [h2] at hQ
 obtain ⟨a, vs, rfl, hL, hvs⟩ := Zdj R p e1
 have hlen : vs.length = xs.length := hvs.length
 have h64 : vs.length < 64 := by rw [hlen]; exact of_decide_eq_true h1
 have item : ∀ i, i < vs.length -> ∃ (b : Addr) (ws : List Value) (n : Nat) (d : List Int), vs[i]? = some (.ref b) ∧ s.heap.get? b = some { cls := .type "list", data := .seq ws.toArray n } ∧ IntsAre ws d ∧ ds.getD i [] = d := λ i hi => by
  have hx : xs[i]? = some (xs[i]'(hlen ▸ hi)) := List.getElem?_eq_getElem _
  obtain ⟨d, q1, q2⟩ := Zl8 e2 hx
  obtain ⟨w, hw, hr⟩ := hvs.get hx
  obtain ⟨zs, q3, q4⟩ := Option.bind_eq_some_iff.mp q1
  obtain ⟨b, ws, n, rfl, q5, q6⟩ := Zfq R hr q3
  exact ⟨b, ws, n, d, hw, q5, Zgj q6 q4, by rw [getD_eq_getElem?_getD, q2]; rfl⟩
 refine Z1 (Znb (ans := ansL ds) hL h64 (λ h' hk v hv => ?_) (λ h' hk i j C hi hj hC => ?_) λ size => ?_)
 ·obtain ⟨i, hi⟩ := List.getElem?_of_mem hv
  obtain ⟨b, ws, n, d, q1, q2, _, _⟩ := item i (Qgl hi)
  rw [hi] at q1
  cases q1
  exact λ A Q E s' k q => wpAny_typeOf ⟨_, k _ _ (hk _ _ q2), rfl⟩ q
 ·obtain ⟨b, ws, n, d, q1, q2, q3, q4⟩ := item i hi
  obtain ⟨b', ws', n', d', r1, r2, r3, r4⟩ := item j hj
  rw [getD_eq_getElem?_getD, getD_eq_getElem?_getD, q1, r1]
  refine Zp7 (by have := hA.units; show A.units + 1 + 1 < cLine; unfold cLine; lia) (hk _ _ q2) (hk _ _ r2) q3 r3 ?_
  unfold ansL at hC
  rw [q4, r4] at hC
  exact hC
 ·rw [hlen] at *
  obtain ⟨e, he⟩ := sortedAll_at s.heap vs ((kRun (ansL ds) (kas_sort xs.length)).map λ i => vs.getD i .none)
  have he' : (sortedAll s.heap vs ((kRun (ansL ds) (kas_sort xs.length)).map λ i => vs.getD i .none)).get? (s.heap.objs.size + 1) = some { cls := .type "list", data := .seq ((kRun (ansL ds) (kas_sort xs.length)).toList.map λ i => vs.getD i .none).toArray e } := by
   rw [he]
   unfold seqObj
   congr 3
   rw [<- Array.toList_map]
  obtain ⟨RB, xB, hm⟩ := Zjn (tk := s.toks) R (λ b o q => sortedAll_old q) size
  exact hQ _ _ _ _ _ rfl RB xB (.lst he' (λ hm => absurd (R.phiLt hm) (Nat.not_lt_of_le (Nat.le_succ _))) (Zjm hvs hm _))
end
end Mine
namespace Mine
open PySem PySem.W PyProof.Rows PySem.Calls PySem.MeetsSeq

noncomputable def d : Ad := ⟨40, 55, 137⟩
noncomputable def Zel (d : Ad) : PM MF := sSeq (sAsg (getVar 1) (tAttr (pSetSlot d.NI 0) (getVar 0))) (sSeq (sAsg (pure (PV.int 0)) (tAttr (pSetSlot d.NI 1) (getVar 0))) (sSeq (sAsg (eList true (pure [])) (tAttr (pSetSlot d.NI 2) (getVar 0))) (sNext)))
noncomputable def Zlf : List PV -> Option (List PV)
 | [x0, x1] => some [x0, x1]
 | _ => none
noncomputable def Zem (d : Ad) : List PV -> PM PV := callF Zlf (Zel d)
noncomputable def Zdp (d : Ad) : PM MF := sSeq (sIf (bCmp .Is (eWal (mDictGet (eAttr d.TS ("_node2info" : Str) (getVar 0)) (argC (getVar 1) (pure []))) (setVar 2)) (pure PV.none)) (sSeq (sAsg2 ((argC (getVar 1) (pure [])) >>= newM d.NI true (Zem d)) (tSub (eAttr d.TS ("_node2info" : Str) (getVar 0)) (getVar 1)) (setVar 2)) (sNext)) (sNext)) (sSeq (sRet (getVar 2)) (sNext))
noncomputable def Zjo : List PV -> Option (List PV)
 | [x0, x1] => some [x0, x1, .undef]
 | _ => none
noncomputable def Zch (d : Ad) : List PV -> PM PV := callF Zjo (Zdp d)
noncomputable def Zl9 (d : Ad) : PM MF := sSeq (sAsg (eMeth d.TS ("_get_nodeinfo" : Str) (getVar 0) (argC (getVar 4) (pure [])) (Zch d)) (setVar 5)) (sSeq (sExpr (mAppend (eSlot d.NI 2 (getVar 5)) (getVar 1))) (sNext))
noncomputable def g_add (d : Ad) : PM MF := sSeq (sIf (bCmp .IsNot (eAttr d.TS ("_ready_nodes" : Str) (getVar 0)) (pure PV.none)) (sSeq (PM.H) (sNext)) (sNext)) (sSeq (sAsg (eMeth d.TS ("_get_nodeinfo" : Str) (getVar 0) (argC (getVar 1) (pure [])) (Zch d)) (setVar 3)) (sSeq (sAugAttr .Add (getVar 3) (pSlot d.NI 1) (pSetSlot d.NI 1) ((argC (getVar 2) (pure [])) >>= pLen)) (sSeq (sFor (getVar 2) (setVar 4) (Zl9 d) fuel) (sNext))))
noncomputable def Zry : List PV -> Option (List PV)
 | x0 :: x1 :: r => (match lenOk r with
  | true => some [x0, x1, .tup r, .undef, .undef, .undef]
  | false => none)
 | _ => none
noncomputable def k_add (d : Ad) : List PV -> PM PV := callF Zry (g_add d)
noncomputable def Zfi (d : Ad) : PM MF := sSeq (sExpr (eMeth d.TS ("add" : Str) (getVar 0) (argC (getVar 2) (argS (getVar 3))) (k_add d))) (sNext)
noncomputable def Zen (d : Ad) : PM MF := sSeq (sAsg (eDict) (tAttr (pSetAttr d.TS ("_node2info" : Str)) (getVar 0))) (sSeq (sAsg (pure PV.none) (tAttr (pSetAttr d.TS ("_ready_nodes" : Str)) (getVar 0))) (sSeq (sAsg (pure (PV.int 0)) (tAttr (pSetAttr d.TS ("_npassedout" : Str)) (getVar 0))) (sSeq (sAsg (pure (PV.int 0)) (tAttr (pSetAttr d.TS ("_nfinished" : Str)) (getVar 0))) (sSeq (sIf (bCmp .IsNot (getVar 1) (pure PV.none)) (sSeq (sItems (mItems (getVar 1) (pure [])) (asgTup [setVar 2, setVar 3]) (Zfi d) fuel) (sNext)) (sNext)) (sNext)))))
noncomputable def Zlg : List PV -> Option (List PV)
 | [x0, x1] => some [x0, x1, .undef, .undef]
 | [x0] => some [x0, .none, .undef, .undef]
 | _ => none
noncomputable def Zeo (d : Ad) : List PV -> PM PV := callF Zlg (Zen d)
noncomputable def Zcs (d : Ad) : PM MF := sSeq (tryM (sSeq (sAsg (eNextCall (eSub (getVar 3) (eNeg (pure (PV.int 1))))) (setVar 6)) (sSeq (pure .brk) (sNext))) [((isStopIteration d), sSeq (sDel (getVar 5) (mPop (getVar 2))) (sSeq (sExpr (mPop (getVar 3))) (sNext)))]) (sNext)
noncomputable def Zct (d : Ad) : PM MF := sSeq (sIf (bCmp .In (getVar 6) (getVar 4)) (sSeq (sIf (bCmp .In (getVar 6) (getVar 5)) (sSeq (sRet (eCat false (eSlice false (getVar 2) (eSub (getVar 5) (getVar 6))) (eList false (argC (getVar 6) (pure []))))) (sNext)) (sNext)) (sNext)) (sSeq (sExpr (mSetAdd (getVar 4) (argC (getVar 6) (pure [])))) (sSeq (sExpr (mAppend (getVar 3) (eNxt ((argC (eSlot d.NI 2 (eSub (getVar 1) (getVar 6))) (pure [])) >>= pIter)))) (sSeq (sAsg ((argC (getVar 2) (pure [])) >>= pLen) (tSub (getVar 5) (getVar 6))) (sSeq (sExpr (mAppend (getVar 2) (getVar 6))) (sNext)))))) (sSeq (whileM (bVal (getVar 2)) (Zcs d) (sSeq (pure .brk) (sNext)) fuel) (sNext))
noncomputable def Zjp (d : Ad) : PM MF := sSeq (sIf (bCmp .In (getVar 6) (getVar 4)) (sSeq (pure .cont) (sNext)) (sNext)) (sSeq (whileM (bVal (pure (PV.bool true))) (Zct d) (sNext) fuel) (sNext))
noncomputable def Zjq (d : Ad) : PM MF := sSeq (sAsg (eAttr d.TS ("_node2info" : Str) (getVar 0)) (setVar 1)) (sSeq (sAsg (eList true (pure [])) (setVar 2)) (sSeq (sAsg (eList true (pure [])) (setVar 3)) (sSeq (sAsg ((pure []) >>= (noneM pSet)) (setVar 4)) (sSeq (sAsg (eDict) (setVar 5)) (sSeq (sFor (getVar 1) (setVar 6) (Zjp d) fuel) (sSeq (sRet (pure PV.none)) (sNext)))))))
noncomputable def Zp8 : List PV -> Option (List PV)
 | [x0] => some [x0, .undef, .undef, .undef, .undef, .undef, .undef]
 | _ => none
noncomputable def Zgm (d : Ad) : List PV -> PM PV := callF Zp8 (Zjq d)
noncomputable def Zfj (d : Ad) : Nat -> PV -> PM Unit := tfB (setVar 3) (bCmp .Eq (eSlot d.NI 1 (getVar 3)) (pure (PV.int 0))) (eSlot d.NI 0 (getVar 3))
noncomputable def Zep (d : Ad) : PM MF := sSeq (sIf (bCmp .IsNot (eAttr d.TS ("_ready_nodes" : Str) (getVar 0)) (pure PV.none)) (sSeq (PM.H) (sNext)) (sNext)) (sSeq (sAsg (compM fuel 2 (mValues (eAttr d.TS ("_node2info" : Str) (getVar 0)) (pure [])) (Zfj d)) (tAttr (pSetAttr d.TS ("_ready_nodes" : Str)) (getVar 0))) (sSeq (sAsg (eMeth d.TS ("_find_cycle" : Str) (getVar 0) (pure []) (Zgm d)) (setVar 1)) (sSeq (sIf (bVal (getVar 1)) (sSeq (PM.H) (sNext)) (sNext)) (sNext))))
noncomputable def Zlh : List PV -> Option (List PV)
 | [x0] => some [x0, .undef]
 | _ => none
noncomputable def Zbd (d : Ad) : List PV -> PM PV := callF Zlh (Zep d)
noncomputable def Zdz (d : Ad) : PM MF := sSeq (sAsg (pure (PV.int (-1))) (tAttr (pSetSlot d.NI 1) (eSub (getVar 2) (getVar 3)))) (sNext)
noncomputable def Zdb (d : Ad) : PM MF := sSeq (sIf (bCmp .Is (eAttr d.TS ("_ready_nodes" : Str) (getVar 0)) (pure PV.none)) (sSeq (PM.H) (sNext)) (sNext)) (sSeq (sAsg ((argC (eAttr d.TS ("_ready_nodes" : Str) (getVar 0)) (pure [])) >>= pTuple) (setVar 1)) (sSeq (sAsg (eAttr d.TS ("_node2info" : Str) (getVar 0)) (setVar 2)) (sSeq (sFor (getVar 1) (setVar 3) (Zdz d) fuel) (sSeq (sExpr (mClear (eAttr d.TS ("_ready_nodes" : Str) (getVar 0)))) (sSeq (sAugAttr .Add (getVar 0) (pAttr d.TS ("_npassedout" : Str)) (pSetAttr d.TS ("_npassedout" : Str)) ((argC (getVar 1) (pure [])) >>= pLen)) (sSeq (sRet (getVar 1)) (sNext)))))))
noncomputable def Zh3 : List PV -> Option (List PV)
 | [x0] => some [x0, .undef, .undef, .undef]
 | _ => none
noncomputable def Zb1 (d : Ad) : List PV -> PM PV := callF Zh3 (Zdb d)
noncomputable def Zdc (d : Ad) : PM MF := sSeq (sIf (bCmp .Is (eAttr d.TS ("_ready_nodes" : Str) (getVar 0)) (pure PV.none)) (sSeq (PM.H) (sNext)) (sNext)) (sSeq (sRet (eOr (eCmp .Lt (eAttr d.TS ("_nfinished" : Str) (getVar 0)) (eAttr d.TS ("_npassedout" : Str) (getVar 0))) ((argC (eAttr d.TS ("_ready_nodes" : Str) (getVar 0)) (pure [])) >>= pBool))) (sNext))
noncomputable def Zh4 : List PV -> Option (List PV)
 | [x0] => some [x0]
 | _ => none
noncomputable def Zb2 (d : Ad) : List PV -> PM PV := callF Zh4 (Zdc d)
noncomputable def Zfz (d : Ad) : PM MF := sSeq (sAsg (eSub (getVar 2) (getVar 6)) (setVar 7)) (sSeq (sAugAttr .Sub (getVar 7) (pSlot d.NI 1) (pSetSlot d.NI 1) (pure (PV.int 1))) (sSeq (sIf (bCmp .Eq (eSlot d.NI 1 (getVar 7)) (pure (PV.int 0))) (sSeq (sExpr (mAppend (eAttr d.TS ("_ready_nodes" : Str) (getVar 0)) (getVar 6))) (sNext)) (sNext)) (sNext)))
noncomputable def Zf0 (d : Ad) : PM MF := sSeq (sIf (bCmp .Is (eWal (mDictGet (getVar 2) (argC (getVar 3) (pure []))) (setVar 4)) (pure PV.none)) (sSeq (PM.H) (sNext)) (sNext)) (sSeq (sAsg (eSlot d.NI 1 (getVar 4)) (setVar 5)) (sSeq (sIf (bCmp .NotEq (getVar 5) (pure (PV.int (-1)))) (sSeq (sIf (bCmp .GtE (getVar 5) (pure (PV.int 0))) (sSeq (PM.H) (sNext)) (sSeq (sIf (bCmp .Eq (getVar 5) (pure (PV.int (-2)))) (sSeq (PM.H) (sNext)) (sSeq (PM.H) (sNext))) (sNext))) (sNext)) (sNext)) (sSeq (sAsg (pure (PV.int (-2))) (tAttr (pSetSlot d.NI 1) (getVar 4))) (sSeq (sFor (eSlot d.NI 2 (getVar 4)) (setVar 6) (Zfz d) fuel) (sSeq (sAugAttr .Add (getVar 0) (pAttr d.TS ("_nfinished" : Str)) (pSetAttr d.TS ("_nfinished" : Str)) (pure (PV.int 1))) (sNext))))))
noncomputable def Zjr (d : Ad) : PM MF := sSeq (sIf (bCmp .Is (eAttr d.TS ("_ready_nodes" : Str) (getVar 0)) (pure PV.none)) (sSeq (PM.H) (sNext)) (sNext)) (sSeq (sAsg (eAttr d.TS ("_node2info" : Str) (getVar 0)) (setVar 2)) (sSeq (sFor (getVar 1) (setVar 3) (Zf0 d) fuel) (sNext)))
noncomputable def Zp9 : List PV -> Option (List PV)
 | x0 :: r => (match lenOk r with
  | true => some [x0, .tup r, .undef, .undef, .undef, .undef, .undef, .undef]
  | false => none)
 | _ => none
noncomputable def Zgn (d : Ad) : List PV -> PM PV := callF Zp9 (Zjr d)

noncomputable def Zb8 (d : Ad) : PM MF := sSeq (sExpr (mAppend (getVar 6) (mPopAt (getVar 7) (eBin .Mod (getVar 5) (getVar 8))))) (sSeq (sAsg (eBin .FloorDiv (getVar 5) (getVar 8)) (setVar 5)) (sNext))
noncomputable def Zh5 (d : Ad) : Nat -> PV -> PM Unit := tfA (setVar 10) (eBin .FloorDiv (getVar 10) (pure (PV.int 36)))
noncomputable def Zh6 (d : Ad) : Nat -> PV -> PM Unit := tfA (setVar 10) (eTup (argC (eBin .Mod (getVar 10) (getVar 1)) (argC (eBin .Mod (eBin .FloorDiv (getVar 10) (getVar 1)) (getVar 1)) (pure []))))
noncomputable def Zb9 (d : Ad) : PM MF := sSeq (sIf (bCmp .Lt (getVar 3) (pure (PV.int 10))) (sSeq (sExpr (mAppend (getVar 2) (eSub (getVar 0) (getVar 3)))) (sNext)) (sSeq (sAugSub .Add (getVar 2) (eBin .Mod (getVar 3) (pure (PV.int 10))) (eSub (getVar 0) (getVar 3))) (sNext))) (sNext)
noncomputable def g_law_drawn (d : Ad) : PM MF := sSeq (sAsg ((argC (pure (PV.int 6)) (argC (eBin .Add (pure (PV.int 2)) ((argC (getVar 0) (pure [])) >>= pLen)) (pure []))) >>= pMin) (setVar 1)) (sSeq (sAsg (eList true (pure [])) (setVar 2)) (sSeq (sFor ((argC ((argC (getVar 0) (pure [])) >>= pLen) (pure [])) >>= pRange) (setVar 3) (Zb9 d) fuel) (sSeq (sAsg (compM fuel 2 (getVar 2) (Zh6 d)) (setVar 4)) (sSeq (sAsg ((argC (compM fuel 2 (getVar 2) (Zh5 d)) (pure [])) >>= pSum) (setVar 5)) (sSeq (sAsg (eList true (pure [])) (setVar 6)) (sSeq (sAsg ((argC ((argC (getVar 1) (pure [])) >>= pRange) (pure [])) >>= (oneM pListOf)) (setVar 7)) (sSeq (sFor ((argC (getVar 1) (argC (pure (PV.int 0)) (argC (eNeg (pure (PV.int 1))) (pure [])))) >>= pRange) (setVar 8) (Zb8 d) fuel) (sSeq (sRet (eTup (argC (getVar 6) (argC (getVar 4) (pure []))))) (sNext)))))))))
noncomputable def Zh7 : List PV -> Option (List PV)
 | [x0] => some [x0, .undef, .undef, .undef, .undef, .undef, .undef, .undef, .undef]
 | _ => none
noncomputable def Zdd (d : Ad) : List PV -> PM PV := callF Zh7 (g_law_drawn d)
noncomputable def Zbo (d : Ad) : Nat -> PV -> PM Unit := tfB (setVar 13) (bOr (bCmp .Eq (getVar 13) (getVar 2)) (bOr (bAnd (bVal (eSub (eSub (getVar 4) (getVar 2)) (getVar 13))) (bAnd (bVal (eSub (eSub (getVar 4) (getVar 13)) (getVar 2))) (pure true))) (pure false))) (getVar 13)
noncomputable def Zbp (d : Ad) : PM MF := sSeq (sAsg (compM fuel 2 ((argC (getVar 0) (pure [])) >>= pRange) (Zbo d)) (setVar 11)) (sSeq (sIf (bAnd (bCmp .Eq (eSub (getVar 6) (getVar 2)) (getVar 9)) (bAnd (bCmp .NotIn (getVar 11) (getVar 10)) (pure true))) (sSeq (sExpr (mAppend (getVar 10) (getVar 11))) (sNext)) (sNext)) (sNext))
noncomputable def Zbq (d : Ad) : PM MF := sSeq (sAsg (eList true (pure [])) (setVar 10)) (sSeq (sFor ((argC (getVar 0) (pure [])) >>= pRange) (setVar 2) (Zbp d) fuel) (sSeq (sExpr (mAppend (getVar 8) (getVar 10))) (sNext)))
noncomputable def Zbr (d : Ad) : PM MF := sSeq (sIf (bAnd (bVal (eSub (eSub (getVar 4) (getVar 2)) (getVar 3))) (bAnd (bNot (bVal (eSub (eSub (getVar 4) (getVar 3)) (getVar 2)))) (pure true))) (sSeq (sAsg ((argC (eSub (getVar 6) (getVar 3)) (argC (eBin .Add (eSub (getVar 6) (getVar 2)) (pure (PV.int 1))) (pure []))) >>= pMax) (tSub (getVar 6) (getVar 3))) (sNext)) (sNext)) (sNext)
noncomputable def Zbs (d : Ad) : PM MF := sSeq (sFor ((argC (getVar 0) (pure [])) >>= pRange) (setVar 3) (Zbr d) fuel) (sNext)
noncomputable def Zbt (d : Ad) : PM MF := sSeq (sFor ((argC (getVar 0) (pure [])) >>= pRange) (setVar 2) (Zbs d) fuel) (sNext)
noncomputable def Zbu (d : Ad) : PM MF := sSeq (sIf (bVal (eSub (eSub (getVar 4) (getVar 5)) (getVar 3))) (sSeq (sAsg (pure (PV.bool true)) (tSub (eSub (getVar 4) (getVar 2)) (getVar 3))) (sNext)) (sNext)) (sNext)
noncomputable def Zbv (d : Ad) : PM MF := sSeq (sIf (bVal (eSub (eSub (getVar 4) (getVar 2)) (getVar 5))) (sSeq (sFor ((argC (getVar 0) (pure [])) >>= pRange) (setVar 3) (Zbu d) fuel) (sNext)) (sNext)) (sNext)
noncomputable def Zbw (d : Ad) : PM MF := sSeq (sFor ((argC (getVar 0) (pure [])) >>= pRange) (setVar 2) (Zbv d) fuel) (sNext)
noncomputable def Zbj (d : Ad) : Nat -> PV -> PM Unit := tfA (setVar 15) (eCmp .In (eTup (argC (getVar 13) (argC (getVar 15) (pure [])))) (getVar 1))
noncomputable def Zc3 (d : Ad) : Nat -> PV -> PM Unit := tfA (setVar 13) (compM fuel 2 ((argC (getVar 0) (pure [])) >>= pRange) (Zbj d))
noncomputable def g_law_rounds (d : Ad) : PM MF := sSeq (sAsg (compM fuel 2 ((argC (getVar 0) (pure [])) >>= pRange) (Zc3 d)) (setVar 4)) (sSeq (sFor ((argC (getVar 0) (pure [])) >>= pRange) (setVar 5) (Zbw d) fuel) (sSeq (sAsg (eRep true (eList false (argC (pure (PV.int 0)) (pure []))) (getVar 0)) (setVar 6)) (sSeq (sFor ((argC (getVar 0) (pure [])) >>= pRange) (setVar 7) (Zbt d) fuel) (sSeq (sAsg (eList true (pure [])) (setVar 8)) (sSeq (sFor ((argC (getVar 0) (pure [])) >>= pRange) (setVar 9) (Zbq d) fuel) (sSeq (sRet (getVar 8)) (sNext)))))))
noncomputable def Zgz : List PV -> Option (List PV)
 | [x0, x1] => some [x0, x1, .undef, .undef, .undef, .undef, .undef, .undef, .undef, .undef, .undef, .undef]
 | _ => none
noncomputable def Zbk (d : Ad) : List PV -> PM PV := callF Zgz (g_law_rounds d)
noncomputable def Zca (d : Ad) : PM MF := sSeq (sIf (bCmp .In (getVar 5) (eSub (getVar 0) (getVar 7))) (sSeq (sExpr (mAppend (eSub (getVar 2) (getVar 7)) (getVar 6))) (sNext)) (sNext)) (sNext)
noncomputable def Zcb (d : Ad) : PM MF := sSeq (sIf (bAnd (bCmp .In (getVar 4) (eSub (getVar 0) (getVar 6))) (bAnd (bCmp .NotIn (getVar 5) (eSub (getVar 0) (getVar 6))) (pure true))) (sSeq (sFor ((argC ((argC (getVar 0) (pure [])) >>= pLen) (pure [])) >>= pRange) (setVar 7) (Zca d) fuel) (sNext)) (sNext)) (sNext)
noncomputable def Zd0 (d : Ad) : PM MF := sSeq (sFor ((argC ((argC (getVar 0) (pure [])) >>= pLen) (pure [])) >>= pRange) (setVar 6) (Zcb d) fuel) (sNext)
noncomputable def Zd1 (d : Ad) : PM MF := sSeq (sAsg (eList true (pure [])) (tSub (getVar 2) (getVar 3))) (sNext)
noncomputable def g_law_graph (d : Ad) : PM MF := sSeq (sAsg (eDict) (setVar 2)) (sSeq (sFor ((argC ((argC (getVar 0) (pure [])) >>= pLen) (pure [])) >>= pRange) (setVar 3) (Zd1 d) fuel) (sSeq (sFor (getVar 1) (asgTup [setVar 4, setVar 5]) (Zd0 d) fuel) (sSeq (sRet (getVar 2)) (sNext))))
noncomputable def Zh8 : List PV -> Option (List PV)
 | [x0, x1] => some [x0, x1, .undef, .undef, .undef, .undef, .undef, .undef]
 | _ => none
noncomputable def Zde (d : Ad) : List PV -> PM PV := callF Zh8 (g_law_graph d)
noncomputable def Zg0 (d : Ad) : Nat -> PV -> PM Unit := tfA (setVar 13) (eSub (getVar 3) (getVar 13))
noncomputable def Ze1 (d : Ad) : PM MF := sSeq (sAsg (eMeth d.TS ("get_ready" : Str) (getVar 6) (pure []) (Zb1 d)) (setVar 11)) (sSeq (sExpr (mAppend (getVar 10) ((argC (compM fuel 2 (getVar 11) (Zg0 d)) (pure [])) >>= pSortLL))) (sSeq (sExpr (eMeth d.TS ("done" : Str) (getVar 6) (argS (getVar 11)) (Zgn d))) (sNext)))
noncomputable def Zg1 (d : Ad) : Nat -> PV -> PM Unit := tfB (setVar 13) (bCmp .NotIn (getVar 13) (getVar 8)) (eSub (getVar 3) (getVar 13))
noncomputable def Zjs (d : Ad) : Nat -> PV -> PM Unit := tfA (setVar 14) (getVar 14)
noncomputable def Zg2 (d : Ad) : Nat -> PV -> PM Unit := (λ i => tfTwo (setVar 13) (eSub (getVar 3) (getVar 13)) (Zjs d i) fuel)
noncomputable def Zg3 (d : Ad) : Nat -> PV -> PM Unit := tfA (setVar 13) (eCmp .In (eSub (getVar 7) (getVar 13)) (eSub (getVar 5) (eSub (getVar 7) (eBin .Add (getVar 13) (pure (PV.int 1))))))
noncomputable def Zg4 (d : Ad) : Nat -> PV -> PM Unit := tfA (setVar 13) (eCmp .Gt (mCount (getVar 8) (argC (getVar 13) (pure []))) (pure (PV.int 1)))
noncomputable def Zg5 (d : Ad) : PM MF := sSeq (sAsg ((argC (getVar 3) (argC (getVar 2) (pure []))) >>= Zde d) (setVar 5)) (sSeq (sAsg ((argC (getVar 5) (pure [])) >>= newM d.TS false (Zeo d)) (setVar 6)) (sSeq (sAsg (eMeth d.TS ("_find_cycle" : Str) (getVar 6) (pure []) (Zgm d)) (setVar 7)) (sSeq (sIf (bCmp .Is (getVar 7) (pure PV.none)) (sSeq (pure .brk) (sNext)) (sNext)) (sSeq (sAsg (eSlice false (getVar 7) (pure (PV.int 1))) (setVar 8)) (sSeq (sIf (bOr (bCmp .Lt ((argC (getVar 8) (pure [])) >>= pLen) (pure (PV.int 2))) (bOr (bCmp .NotEq (eSub (getVar 7) (pure (PV.int 0))) (eSub (getVar 7) (eNeg (pure (PV.int 1))))) (bOr (bVal ((argC (compM fuel 2 (getVar 8) (Zg4 d)) (pure [])) >>= pAny)) (pure false)))) (sSeq (sRet (pure (PV.bool false))) (sNext)) (sNext)) (sSeq (sIf (bNot (bVal ((argC (compM fuel 2 ((argC ((argC (getVar 8) (pure [])) >>= pLen) (pure [])) >>= pRange) (Zg3 d)) (pure [])) >>= pAll))) (sSeq (sRet (pure (PV.bool false))) (sNext)) (sNext)) (sSeq (sAsg ((argC (compM fuel 3 (getVar 8) (Zg2 d)) (pure [])) >>= pSortIntsL) (setVar 9)) (sSeq (sAsg (eCat true (compM fuel 2 ((argC ((argC (getVar 3) (pure [])) >>= pLen) (pure [])) >>= pRange) (Zg1 d)) (eList false (argC (getVar 9) (pure [])))) (setVar 3)) (sNext)))))))))
noncomputable def Zma (d : Ad) : Nat -> PV -> PM Unit := tfA (setVar 13) (eList false (argC (getVar 13) (pure [])))
noncomputable def g_law (d : Ad) : PM MF := sSeq (sAsg ((argC (getVar 0) (pure [])) >>= Zdd d) (asgTup [setVar 1, setVar 2])) (sSeq (sAsg (compM fuel 2 (getVar 1) (Zma d)) (setVar 3)) (sSeq (sFor ((argC ((argC (getVar 1) (pure [])) >>= pLen) (pure [])) >>= pRange) (setVar 4) (Zg5 d) fuel) (sSeq (sIf (bOr (bCmp .IsNot (getVar 7) (pure PV.none)) (bOr (bCmp .IsNot (eMeth d.TS ("prepare" : Str) (getVar 6) (pure []) (Zbd d)) (pure PV.none)) (pure false))) (sSeq (sRet (pure (PV.bool false))) (sNext)) (sNext)) (sSeq (sAsg (eList true (pure [])) (setVar 10)) (sSeq (sFor ((argC ((argC (getVar 1) (pure [])) >>= pLen) (pure [])) >>= pRange) (setVar 4) (Ze1 d) fuel) (sSeq (sRet (eAnd (eCmp .Eq (getVar 10) ((argC ((argC (getVar 1) (pure [])) >>= pLen) (argC (getVar 2) (pure []))) >>= Zbk d)) (eNot (bVal (eMeth d.TS ("is_active" : Str) (getVar 6) (pure []) (Zb2 d)))))) (sNext)))))))
noncomputable def Zrz : List PV -> Option (List PV)
 | [x0] => some [x0, .undef, .undef, .undef, .undef, .undef, .undef, .undef, .undef, .undef, .undef, .undef]
 | _ => none
noncomputable def k_law (d : Ad) : List PV -> PM PV := callF Zrz (g_law d)

noncomputable def Zaq : Stmt := stAt (bodySt (stAt PySem.Challenge.pw_sr0004_03.main.body 4)) 1
noncomputable def Znd : List (Str × NameKind) := [(("self" : Str), .local), (("node" : Str), .local)]
noncomputable def Zne : List (Str × Nat) := [(("self" : Str), 0), (("node" : Str), 1)]
noncomputable def Zai : Stmt := stAt (bodySt (stAt PySem.Challenge.pw_sr0004_03.main.body 6)) 1
noncomputable def Zli : List (Str × NameKind) := [(("self" : Str), .local), (("node" : Str), .local), (("result" : Str), .local), (("_NodeInfo" : Str), .globalImplicit)]
noncomputable def Zlj : List (Str × Nat) := [(("self" : Str), 0), (("node" : Str), 1), (("result" : Str), 2)]
noncomputable def Zb5 : Stmt := stAt (bodySt (stAt PySem.Challenge.pw_sr0004_03.main.body 6)) 2
noncomputable def Zs1 : List (Str × NameKind) := [(("self" : Str), .local), (("node" : Str), .local), (("predecessors" : Str), .local), (("nodeinfo" : Str), .local), (("pred" : Str), .local), (("pred_info" : Str), .local), (("ValueError" : Str), .globalImplicit), (("len" : Str), .globalImplicit)]
noncomputable def Zs2 : List (Str × Nat) := [(("self" : Str), 0), (("node" : Str), 1), (("predecessors" : Str), 2), (("nodeinfo" : Str), 3), (("pred" : Str), 4), (("pred_info" : Str), 5)]
noncomputable def Zar : Stmt := stAt (bodySt (stAt PySem.Challenge.pw_sr0004_03.main.body 6)) 0
noncomputable def Znf : List (Str × NameKind) := [(("self" : Str), .local), (("graph" : Str), .local), (("node" : Str), .local), (("predecessors" : Str), .local)]
noncomputable def Zng : List (Str × Nat) := [(("self" : Str), 0), (("graph" : Str), 1), (("node" : Str), 2), (("predecessors" : Str), 3)]
noncomputable def Zbe : Stmt := stAt (bodySt (stAt PySem.Challenge.pw_sr0004_03.main.body 6)) 8
noncomputable def Zr0 : List (Str × NameKind) := [(("self" : Str), .local), (("n2i" : Str), .local), (("stack" : Str), .local), (("itstack" : Str), .local), (("seen" : Str), .local), (("node2stacki" : Str), .local), (("node" : Str), .local), (("set" : Str), .globalImplicit), (("iter" : Str), .globalImplicit), (("len" : Str), .globalImplicit), (("StopIteration" : Str), .globalImplicit)]
noncomputable def Zr1 : List (Str × Nat) := [(("self" : Str), 0), (("n2i" : Str), 1), (("stack" : Str), 2), (("itstack" : Str), 3), (("seen" : Str), 4), (("node2stacki" : Str), 5), (("node" : Str), 6)]
noncomputable def Zas : Stmt := stAt (bodySt (stAt PySem.Challenge.pw_sr0004_03.main.body 6)) 3
noncomputable def Znh : List (Str × NameKind) := [(("self" : Str), .local), (("cycle" : Str), .local), (("ValueError" : Str), .globalImplicit), (("CycleError" : Str), .globalImplicit)]
noncomputable def Zni : List (Str × Nat) := [(("self" : Str), 0), (("cycle" : Str), 1)]
noncomputable def Zaa : Stmt := stAt (bodySt (stAt PySem.Challenge.pw_sr0004_03.main.body 6)) 4
noncomputable def Zjt : List (Str × NameKind) := [(("self" : Str), .local), (("result" : Str), .local), (("n2i" : Str), .local), (("node" : Str), .local), (("ValueError" : Str), .globalImplicit), (("tuple" : Str), .globalImplicit), (("_NODE_OUT" : Str), .globalImplicit), (("len" : Str), .globalImplicit)]
noncomputable def Zju : List (Str × Nat) := [(("self" : Str), 0), (("result" : Str), 1), (("n2i" : Str), 2), (("node" : Str), 3)]
noncomputable def Zab : Stmt := stAt (bodySt (stAt PySem.Challenge.pw_sr0004_03.main.body 6)) 5
noncomputable def Zjv : List (Str × NameKind) := [(("self" : Str), .local), (("ValueError" : Str), .globalImplicit), (("bool" : Str), .globalImplicit)]
noncomputable def Zjw : List (Str × Nat) := [(("self" : Str), 0)]
noncomputable def Zbf : Stmt := stAt (bodySt (stAt PySem.Challenge.pw_sr0004_03.main.body 6)) 7
noncomputable def Zr2 : List (Str × NameKind) := [(("self" : Str), .local), (("nodes" : Str), .local), (("n2i" : Str), .local), (("node" : Str), .local), (("nodeinfo" : Str), .local), (("stat" : Str), .local), (("successor" : Str), .local), (("successor_info" : Str), .local), (("ValueError" : Str), .globalImplicit), (("_NODE_OUT" : Str), .globalImplicit), (("_NODE_DONE" : Str), .globalImplicit)]
noncomputable def Zr3 : List (Str × Nat) := [(("self" : Str), 0), (("nodes" : Str), 1), (("n2i" : Str), 2), (("node" : Str), 3), (("nodeinfo" : Str), 4), (("stat" : Str), 5), (("successor" : Str), 6), (("successor_info" : Str), 7)]
noncomputable def Zac : Stmt := stAt PySem.Challenge.pw_sr0004_03.main.body 8
noncomputable def Zjx : List (Str × NameKind) := [(("script" : Str), .local), (("size" : Str), .cell), (("slots" : Str), .local), (("place" : Str), .local), (("told" : Str), .local), (("code" : Str), .local), (("names" : Str), .local), (("others" : Str), .local), (("room" : Str), .local), (("min" : Str), .globalImplicit), (("len" : Str), .globalImplicit), (("range" : Str), .globalImplicit), (("sum" : Str), .globalImplicit), (("list" : Str), .globalImplicit)]
noncomputable def Zjy : List (Str × Nat) := [(("script" : Str), 0), (("size" : Str), 1), (("slots" : Str), 2), (("place" : Str), 3), (("told" : Str), 4), (("code" : Str), 5), (("names" : Str), 6), (("others" : Str), 7), (("room" : Str), 8)]
noncomputable def Z5 : Stmt := stAt PySem.Challenge.pw_sr0004_03.main.body 9
noncomputable def Zh9 : List (Str × NameKind) := [(("size" : Str), .cell), (("told" : Str), .cell), (("x" : Str), .cell), (("y" : Str), .local), (("reach" : Str), .cell), (("z" : Str), .local), (("height" : Str), .local), (("turn" : Str), .local), (("rounds" : Str), .local), (("level" : Str), .local), (("met" : Str), .local), (("part" : Str), .local), (("range" : Str), .globalImplicit), (("max" : Str), .globalImplicit)]
noncomputable def Zia : List (Str × Nat) := [(("size" : Str), 0), (("told" : Str), 1), (("x" : Str), 2), (("y" : Str), 3), (("reach" : Str), 4), (("z" : Str), 5), (("height" : Str), 6), (("turn" : Str), 7), (("rounds" : Str), 8), (("level" : Str), 9), (("met" : Str), 10), (("part" : Str), 11)]
noncomputable def Zad : Stmt := stAt PySem.Challenge.pw_sr0004_03.main.body 10
noncomputable def Zjz : List (Str × NameKind) := [(("parts" : Str), .local), (("told" : Str), .local), (("graph" : Str), .local), (("place" : Str), .local), (("tail" : Str), .local), (("head" : Str), .local), (("ahead" : Str), .local), (("behind" : Str), .local), (("range" : Str), .globalImplicit), (("len" : Str), .globalImplicit)]
noncomputable def Zj0 : List (Str × Nat) := [(("parts" : Str), 0), (("told" : Str), 1), (("graph" : Str), 2), (("place" : Str), 3), (("tail" : Str), 4), (("head" : Str), 5), (("ahead" : Str), 6), (("behind" : Str), 7)]
noncomputable def Zb6 : Stmt := stAt PySem.Challenge.pw_sr0004_03.main.body 11
noncomputable def Zs3 : List (Str × NameKind) := [(("script" : Str), .local), (("names" : Str), .local), (("told" : Str), .local), (("parts" : Str), .cell), (("turn" : Str), .local), (("graph" : Str), .cell), (("sorter" : Str), .local), (("ring" : Str), .cell), (("body" : Str), .cell), (("joined" : Str), .local), (("rounds" : Str), .local), (("group" : Str), .local), (("_law_drawn" : Str), .globalImplicit), (("range" : Str), .globalImplicit), (("len" : Str), .globalImplicit), (("_law_graph" : Str), .globalImplicit), (("TopologicalSorter" : Str), .globalImplicit), (("any" : Str), .globalImplicit), (("all" : Str), .globalImplicit), (("sorted" : Str), .globalImplicit), (("_law_rounds" : Str), .globalImplicit)]
noncomputable def Zs4 : List (Str × Nat) := [(("script" : Str), 0), (("names" : Str), 1), (("told" : Str), 2), (("parts" : Str), 3), (("turn" : Str), 4), (("graph" : Str), 5), (("sorter" : Str), 6), (("ring" : Str), 7), (("body" : Str), 8), (("joined" : Str), 9), (("rounds" : Str), 10), (("group" : Str), 11)]
set_option genInjectivity false in
structure Fa where
 a_ni_init : Addr
 a_get_info : Addr
 a_add : Addr
 a_ts_init : Addr
 a_find : Addr
 a_prepare : Addr
 a_get_ready : Addr
 a_is_active : Addr
 a_done : Addr
 a_law_drawn : Addr
 a_law_rounds : Addr
 a_law_graph : Addr
 a_law : Addr
structure Facts (c : Cx) (d : Ad) (z : Fa) : Prop where
 f_ni_init : FnOk c z.a_ni_init Zaq (λ fd => fd.defaults = .none)
 f_get_info : FnOk c z.a_get_info Zai (λ fd => fd.defaults = .none)
 f_add : FnOk c z.a_add Zb5 (λ fd => fd.defaults = .none)
 f_ts_init : FnOk c z.a_ts_init Zar (λ fd => ∃ t k, fd.defaults = .ref t ∧ c.K.lookup t = some { cls := .type "tuple", data := .seq #[.none] k })
 f_find : FnOk c z.a_find Zbe (λ fd => fd.defaults = .none)
 f_prepare : FnOk c z.a_prepare Zas (λ fd => fd.defaults = .none)
 f_get_ready : FnOk c z.a_get_ready Zaa (λ fd => fd.defaults = .none)
 f_is_active : FnOk c z.a_is_active Zab (λ fd => fd.defaults = .none)
 f_done : FnOk c z.a_done Zbf (λ fd => fd.defaults = .none)
 f_law_drawn : FnOk c z.a_law_drawn Zac (λ fd => fd.defaults = .none)
 f_law_rounds : FnOk c z.a_law_rounds Z5 (λ fd => fd.defaults = .none)
 f_law_graph : FnOk c z.a_law_graph Zad (λ fd => fd.defaults = .none)
 f_law : FnOk c z.a_law Zb6 (λ fd => fd.defaults = .none)
 m_get_info : MethAt c d.TS ("_get_nodeinfo" : Str) z.a_get_info
 m_add : MethAt c d.TS ("add" : Str) z.a_add
 m_find : MethAt c d.TS ("_find_cycle" : Str) z.a_find
 m_prepare : MethAt c d.TS ("prepare" : Str) z.a_prepare
 m_get_ready : MethAt c d.TS ("get_ready" : Str) z.a_get_ready
 m_is_active : MethAt c d.TS ("is_active" : Str) z.a_is_active
 m_done : MethAt c d.TS ("done" : Str) z.a_done
 g_law_drawn : nsIn c.K mainGlobals ("_law_drawn" : Str) = some (some (.ref z.a_law_drawn))
 g_law_rounds : nsIn c.K mainGlobals ("_law_rounds" : Str) = some (some (.ref z.a_law_rounds))
 g_law_graph : nsIn c.K mainGlobals ("_law_graph" : Str) = some (some (.ref z.a_law_graph))
 g_law : nsIn c.K mainGlobals ("law" : Str) = some (some (.ref z.a_law))
 n_nfinished : OwnName c d.TS ("_nfinished" : Str)
 o_nfinished : OwnStore c d.TS ("_nfinished" : Str)
 n_node2info : OwnName c d.TS ("_node2info" : Str)
 o_node2info : OwnStore c d.TS ("_node2info" : Str)
 n_npassedout : OwnName c d.TS ("_npassedout" : Str)
 o_npassedout : OwnStore c d.TS ("_npassedout" : Str)
 n_ready_nodes : OwnName c d.TS ("_ready_nodes" : Str)
 o_ready_nodes : OwnStore c d.TS ("_ready_nodes" : Str)
 s_node : SlotStore c d.NI ("node" : Str) 0
 s_npredecessors : SlotStore c d.NI ("npredecessors" : Str) 1
 s_successors : SlotStore c d.NI ("successors" : Str) 2
 g_NI : nsIn c.K mainGlobals ("_NodeInfo" : Str) = some (some (.ref d.NI))
 g_TS : nsIn c.K mainGlobals ("TopologicalSorter" : Str) = some (some (.ref d.TS))
 mk_NI : MakeAt c d.NI z.a_ni_init
 mk_TS : MakeAt c d.TS z.a_ts_init
 c_StopIteration : CatchAt c (.type "StopIteration") (isStopIteration d)
 node_out : ∃ t, nsIn c.K mainGlobals ("_NODE_OUT" : Str) = some (some (.int (-1) t))
 node_done : ∃ t, nsIn c.K mainGlobals ("_NODE_DONE" : Str) = some (some (.int (-2) t))
 bui : ∀ x : Str, buiNames.contains x = true -> nsIn c.K mainGlobals x = some none
theorem Facts.bu {c : Cx} {d : Ad} {z : Fa} (Γ : Facts c d z) {x : Str} (h : buiNames.contains x = true := by kernel_rfl) : nsIn c.K mainGlobals x = some none := Γ.bui x h

theorem Zlk {c : Cx} {d : Ad} {z : Fa} (Γ : Facts c d z) {fd : FuncData} {L a : Addr} {outer : List Env} (hs : fd.scope = scopeSt Zaq) (hg : fd.globals = mainGlobals) (hb : fd.builtins = builtinsNs) : SimSS c (fxOf fd L a outer 0) (bodySt Zaq) (Zel d) := by
 have G : FxG (fxOf fd L a outer 0) Znd Zne 2 0 := FxG.fn hs rfl hg hb (of_decide_eq_true (by kernel_rfl))
 have hfr : (fxOf fd L a outer 0).frames = (fxOf fd L a outer 0).env :: outer := rfl
 have hh : (fxOf fd L a outer 0).hd = true := rfl
 generalize fxOf fd L a outer 0 = F at G hfr hh
 exact Zb (Zd G.name (Zah G.name (λ _ _ _ _ => Zan Γ.s_node)) rfl rfl rfl) (Zb (Zd (Zq) (Zah G.name (λ _ _ _ _ => Zan Γ.s_npredecessors)) rfl rfl rfl) (Zb (Zd (Z8 true (.nil)) (Zah G.name (λ _ _ _ _ => Zan Γ.s_successors)) rfl rfl rfl) (Zc)))
theorem Zll {c : Cx} {fd : FuncData} (hp : fd.params = paramsSt Zaq) (hd : fd.defaults = .none) (hs : fd.scope = scopeSt Zaq) : Binds c fd [("self" : Str), ("node" : Str)] (arrPlain 2) := Z3 (by unfold ownKs; rw [hs]; kernel_rfl) λ vs hl => by
 rcases vs with _ | ⟨v0, _ | ⟨v1, _ | ⟨_, _⟩⟩⟩ <;> first | (simp at hl; done) | skip
 obtain ⟨a1, a2, a3, a4, a5, a6, a7, a8, a9, a10, a11, a12, a13, a14, a15⟩ := fd
 dsimp only at hp hd
 subst hp hd
 rfl
theorem Znj {c : Cx} {d : Ad} {z : Fa} (Γ : Facts c d z) : CallOk c z.a_ni_init 0 (Zem d) := by
 obtain ⟨fd, hat, hs, hp, hg, hb, hd⟩ := Γ.f_ni_init.ok
 refine CallOk.mk hat (Zll hp hd hs) ?_ λ L outer => Zlk Γ hs hg hb
 ·intro xs fr h
  rcases xs with _ | ⟨_, _ | ⟨_, _ | ⟨_, _⟩⟩⟩ <;> first | exact Zh h | (cases h; exact ⟨_, rfl, by rw [hs]; rfl⟩)
theorem Zj1 {c : Cx} {d : Ad} {z : Fa} (Γ : Facts c d z) {fd : FuncData} {L a : Addr} {outer : List Env} (hs : fd.scope = scopeSt Zai) (hg : fd.globals = mainGlobals) (hb : fd.builtins = builtinsNs) : SimSS c (fxOf fd L a outer 2) (bodySt Zai) (Zdp d) := by
 have G : FxG (fxOf fd L a outer 2) Zli Zlj 3 2 := FxG.fn hs rfl hg hb (of_decide_eq_true (by kernel_rfl))
 have hfr : (fxOf fd L a outer 2).frames = (fxOf fd L a outer 2).env :: outer := rfl
 have hh : (fxOf fd L a outer 2).hd = true := rfl
 generalize fxOf fd L a outer 2 = F at G hfr hh
 exact Zb (Zr (Zi (Zdy (Zff rfl rfl rfl (Zk Γ.n_node2info G.name rfl) (.cons G.name (.nil))) G.asg) (Z6) rfl) (Zb (Zk9 (G.callC hh (by kernel_rfl) Γ.g_NI Γ.mk_NI (Znj Γ) (by decide) (.cons G.name (.nil))) (Zco (Zk Γ.n_node2info G.name rfl) G.name) G.asg rfl rfl) (Zc)) (Zc)) (Zb (Zy G.name) (Zc))
theorem Zj2 {c : Cx} {fd : FuncData} (hp : fd.params = paramsSt Zai) (hd : fd.defaults = .none) (hs : fd.scope = scopeSt Zai) : Binds c fd [("self" : Str), ("node" : Str)] (arrPlain 2) := Z3 (by unfold ownKs; rw [hs]; kernel_rfl) λ vs hl => by
 rcases vs with _ | ⟨v0, _ | ⟨v1, _ | ⟨_, _⟩⟩⟩ <;> first | (simp at hl; done) | skip
 obtain ⟨a1, a2, a3, a4, a5, a6, a7, a8, a9, a10, a11, a12, a13, a14, a15⟩ := fd
 dsimp only at hp hd
 subst hp hd
 rfl
theorem Zfk {c : Cx} {d : Ad} {z : Fa} (Γ : Facts c d z) : CallOk c z.a_get_info 2 (Zch d) := by
 obtain ⟨fd, hat, hs, hp, hg, hb, hd⟩ := Γ.f_get_info.ok
 refine CallOk.mk hat (Zj2 hp hd hs) ?_ λ L outer => Zj1 Γ hs hg hb
 ·intro xs fr h
  rcases xs with _ | ⟨_, _ | ⟨_, _ | ⟨_, _⟩⟩⟩ <;> first | exact Zh h | (cases h; exact ⟨_, rfl, by rw [hs]; rfl⟩)
theorem Zr4 {c : Cx} {d : Ad} {z : Fa} (Γ : Facts c d z) {fd : FuncData} {L a : Addr} {outer : List Env} (hs : fd.scope = scopeSt Zb5) (hg : fd.globals = mainGlobals) (hb : fd.builtins = builtinsNs) : SimSS c (fxOf fd L a outer 3) (bodySt Zb5) (g_add d) := by
 have G : FxG (fxOf fd L a outer 3) Zs1 Zs2 6 3 := FxG.fn hs rfl hg hb (of_decide_eq_true (by kernel_rfl))
 have hfr : (fxOf fd L a outer 3).frames = (fxOf fd L a outer 3).env :: outer := rfl
 have hh : (fxOf fd L a outer 3).hd = true := rfl
 generalize fxOf fd L a outer 3 = F at G hfr hh
 exact Zb (Zr (Zi (Zk Γ.n_ready_nodes G.name rfl) (Z6) rfl) (Zb (Sim.B) (Zc)) (Zc)) (Zb (Zd (G.callM hh Γ.m_get_info Γ.f_get_info rfl rfl rfl G.name (.cons G.name (.nil)) (Zfk Γ) (by decide)) G.asg rfl rfl rfl) (Zb (Zb0 G.name (G.callB Γ.bu Z4 (.cons G.name (.nil)) Zae) (λ _ _ => Zd9 Γ.s_npredecessors.toSlotName) (λ _ _ _ _ => Zan Γ.s_npredecessors)) (Zb (Zw hfr hh fuel G.name G.asg (Zb (Zd (G.callM hh Γ.m_get_info Γ.f_get_info rfl rfl rfl G.name (.cons G.name (.nil)) (Zfk Γ) (by decide)) G.asg rfl rfl rfl) (Zb (Zz (Z9 rfl rfl rfl rfl (Za9 Γ.s_successors.toSlotName G.name rfl) G.name) G.quiet rfl) (Zc))) (λ _ => rfl)) (Zc))))
theorem Zr5 {c : Cx} {fd : FuncData} (hp : fd.params = paramsSt Zb5) (hd : fd.defaults = .none) (hs : fd.scope = scopeSt Zb5) : Binds c fd [("self" : Str), ("node" : Str), ("predecessors" : Str)] (arrStar 2) := Zgk (by unfold ownKs; rw [hs]; kernel_rfl) λ vs r hl => by
 rcases vs with _ | ⟨v0, _ | ⟨v1, _ | ⟨_, _⟩⟩⟩ <;> first | (simp at hl; done) | skip
 obtain ⟨a1, a2, a3, a4, a5, a6, a7, a8, a9, a10, a11, a12, a13, a14, a15⟩ := fd
 dsimp only at hp hd
 subst hp hd
 cases r <;> rfl
theorem Zs5 {c : Cx} {d : Ad} {z : Fa} (Γ : Facts c d z) : CallOk c z.a_add 3 (k_add d) := by
 obtain ⟨fd, hat, hs, hp, hg, hb, hd⟩ := Γ.f_add.ok
 refine CallOk.mk hat (Zr5 hp hd hs) ?_ λ L outer => Zr4 Γ hs hg hb
 ·intro xs fr h
  rcases xs with _ | ⟨_, _ | ⟨_, r⟩⟩ <;> first | exact Zh h | skip
  have h : (match lenOk r with | true => some _ | false => none) = some fr := h
  cases hl : lenOk r with
  | false => rw [hl] at h; exact Zh h
  | true => rw [hl] at h; cases h; exact ⟨_, by unfold arrStar; simp [hl]; rfl, by rw [hs]; rfl⟩
theorem Zlm {c : Cx} {d : Ad} {z : Fa} (Γ : Facts c d z) {fd : FuncData} {L a : Addr} {outer : List Env} (hs : fd.scope = scopeSt Zar) (hg : fd.globals = mainGlobals) (hb : fd.builtins = builtinsNs) : SimSS c (fxOf fd L a outer 4) (bodySt Zar) (Zen d) := by
 have G : FxG (fxOf fd L a outer 4) Znf Zng 4 4 := FxG.fn hs rfl hg hb (of_decide_eq_true (by kernel_rfl))
 have hfr : (fxOf fd L a outer 4).frames = (fxOf fd L a outer 4).env :: outer := rfl
 have hh : (fxOf fd L a outer 4).hd = true := rfl
 generalize fxOf fd L a outer 4 = F at G hfr hh
 exact Zb (Zd (Zft) (Zah G.name (λ _ _ _ _ => Zam Γ.o_node2info)) rfl rfl rfl) (Zb (Zd (Z6) (Zah G.name (λ _ _ _ _ => Zam Γ.o_ready_nodes)) rfl rfl rfl) (Zb (Zd (Zq) (Zah G.name (λ _ _ _ _ => Zam Γ.o_npassedout)) rfl rfl rfl) (Zb (Zd (Zq) (Zah G.name (λ _ _ _ _ => Zam Γ.o_nfinished)) rfl rfl rfl) (Zb (Zr (Zi G.name (Z6) rfl) (Zb (Zjg hfr hh fuel (Zox rfl rfl rfl G.name .nil) (Zdk hh (.cons G.asg (.cons G.asg (.nil)))) (Zb (Zz (G.callM hh Γ.m_add Γ.f_add rfl rfl rfl G.name (.cons G.name (.star G.name)) (Zs5 Γ) (by decide)) G.quiet rfl) (Zc)) (λ _ => rfl)) (Zc)) (Zc)) (Zc)))))
theorem Zln {c : Cx} {fd : FuncData} (hp : fd.params = paramsSt Zar) {t : Addr} {k : Nat} (hd : fd.defaults = .ref t) (ht : c.K.lookup t = some { cls := .type "tuple", data := .seq #[.none] k }) (hs : fd.scope = scopeSt Zar) : Binds c fd [("self" : Str), ("graph" : Str)] (arrDflt 2) := Zm9 (by unfold ownKs; rw [hs]; kernel_rfl) ht λ vs A s Q E ht => by
 obtain ⟨a1, a2, a3, a4, a5, a6, a7, a8, a9, a10, a11, a12, a13, a14, a15⟩ := fd
 dsimp only at hp hd
 subst hp hd
 refine ⟨λ hl h => ?_, λ hl h => ?_⟩
 ·obtain ⟨v0, v1, rfl⟩ := len2 hl
  show wpAny _ _ (seqItems? (.ref t) >>= _) _ _ s
  exact Qb (wpAny_seqItems ht rfl (Qp h))
 ·obtain ⟨v0, rfl⟩ := len1 hl
  show wpAny _ _ (seqItems? (.ref t) >>= _) _ _ s
  exact Qb (wpAny_seqItems ht rfl (Qp h))
theorem Znk {c : Cx} {d : Ad} {z : Fa} (Γ : Facts c d z) : CallOk c z.a_ts_init 4 (Zeo d) := by
 obtain ⟨fd, hat, hs, hp, hg, hb, hd⟩ := Γ.f_ts_init.ok
 obtain ⟨t, k, hd, ht⟩ := hd
 refine CallOk.mk hat (Zln hp hd ht hs) ?_ λ L outer => Zlm Γ hs hg hb
 ·intro xs fr h
  rcases xs with _ | ⟨_, _ | ⟨_, _ | ⟨_, _⟩⟩⟩ <;> first | exact Zh h | (cases h; exact ⟨_, rfl, by rw [hs]; rfl⟩)
theorem Zqa {c : Cx} {d : Ad} {z : Fa} (Γ : Facts c d z) {fd : FuncData} {L a : Addr} {outer : List Env} (hs : fd.scope = scopeSt Zbe) (hg : fd.globals = mainGlobals) (hb : fd.builtins = builtinsNs) : SimSS c (fxOf fd L a outer 1) (bodySt Zbe) (Zjq d) := by
 have G : FxG (fxOf fd L a outer 1) Zr0 Zr1 7 1 := FxG.fn hs rfl hg hb (of_decide_eq_true (by kernel_rfl))
 have hfr : (fxOf fd L a outer 1).frames = (fxOf fd L a outer 1).env :: outer := rfl
 have hh : (fxOf fd L a outer 1).hd = true := rfl
 generalize fxOf fd L a outer 1 = F at G hfr hh
 exact Zb (Zd (Zk Γ.n_node2info G.name rfl) G.asg rfl rfl rfl) (Zb (Zd (Z8 true (.nil)) G.asg rfl rfl rfl) (Zb (Zd (Z8 true (.nil)) G.asg rfl rfl rfl) (Zb (Zd (G.callT Γ.bu Zp1 (.nil) Zrn) G.asg rfl rfl rfl) (Zb (Zd (Zft) G.asg rfl rfl rfl) (Zb (Zw hfr hh fuel G.name G.asg (Zb (Zr (Zi G.name G.name rfl) (Zb (Zio) (Zc)) (Zc)) (Zb (Zhg hfr fuel (Zal (Zcl) rfl) (Zb (Zr (Zi G.name G.name rfl) (Zb (Zr (Zi G.name G.name rfl) (Zb (Zy (Zi7 false (Zgg false G.name (Ze G.name G.name (λ _ _ => rfl)) (λ _ _ => rfl)) (Z8 false (.cons G.name (.nil))))) (Zc)) (Zc)) (Zc)) (Zb (Zz (Zm1 rfl rfl rfl G.name (.cons G.name (.nil))) G.quiet rfl) (Zb (Zz (Z9 rfl rfl rfl rfl G.name (Zpw (G.callB Γ.bu Zow (.cons (Za9 Γ.s_successors.toSlotName (Ze G.name G.name (λ _ _ => rfl)) rfl) (.nil)) Zpv) rfl)) G.quiet rfl) (Zb (Zd (G.callB Γ.bu Z4 (.cons G.name (.nil)) Zae) (Zco G.name G.name) rfl rfl rfl) (Zb (Zz (Z9 rfl rfl rfl rfl G.name G.name) G.quiet rfl) (Zc)))))) (Zb (Zhg hfr fuel (Zal G.name rfl) (Zb (have G4 := G.handling; Zrj hfr (Zb (Zd (Zh0 hh (Ze G.name (Zfx (Zq)) (λ _ _ => rfl)) rfl) G.asg rfl rfl rfl) (Zb (Zd2) (Zc))) (.cons (G.handling.hBui (by kernel_rfl) Γ.bu Zei) Γ.c_StopIteration (Zb (Zmw G4.name (Zlw rfl rfl rfl G4.name)) (Zb (Zz (Zlw rfl rfl rfl G4.name) G4.quiet rfl) (Zc))) (.nil))) (Zc)) (Zb (Zd2) (Zc))) (Zc))) (Zc)) (Zc))) (λ _ => rfl)) (Zb (Zy (Z6)) (Zc)))))))
theorem Zqb {c : Cx} {fd : FuncData} (hp : fd.params = paramsSt Zbe) (hd : fd.defaults = .none) (hs : fd.scope = scopeSt Zbe) : Binds c fd [("self" : Str)] (arrPlain 1) := Z3 (by unfold ownKs; rw [hs]; kernel_rfl) λ vs hl => by
 rcases vs with _ | ⟨v0, _ | ⟨_, _⟩⟩ <;> first | (simp at hl; done) | skip
 obtain ⟨a1, a2, a3, a4, a5, a6, a7, a8, a9, a10, a11, a12, a13, a14, a15⟩ := fd
 dsimp only at hp hd
 subst hp hd
 rfl
theorem Zmb {c : Cx} {d : Ad} {z : Fa} (Γ : Facts c d z) : CallOk c z.a_find 1 (Zgm d) := by
 obtain ⟨fd, hat, hs, hp, hg, hb, hd⟩ := Γ.f_find.ok
 refine CallOk.mk hat (Zqb hp hd hs) ?_ λ L outer => Zqa Γ hs hg hb
 ·intro xs fr h
  rcases xs with _ | ⟨_, _ | ⟨_, _⟩⟩ <;> first | exact Zh h | (cases h; exact ⟨_, rfl, by rw [hs]; rfl⟩)
theorem Zlo {c : Cx} {d : Ad} {z : Fa} (Γ : Facts c d z) {fd : FuncData} {L a : Addr} {outer : List Env} (hs : fd.scope = scopeSt Zas) (hg : fd.globals = mainGlobals) (hb : fd.builtins = builtinsNs) : SimSS c (fxOf fd L a outer 4) (bodySt Zas) (Zep d) := by
 have G : FxG (fxOf fd L a outer 4) Znh Zni 2 4 := FxG.fn hs rfl hg hb (of_decide_eq_true (by kernel_rfl))
 have hfr : (fxOf fd L a outer 4).frames = (fxOf fd L a outer 4).env :: outer := rfl
 have hh : (fxOf fd L a outer 4).hd = true := rfl
 generalize fxOf fd L a outer 4 = F at G hfr hh
 exact Zb (Zr (Zi (Zk Γ.n_ready_nodes G.name rfl) (Z6) rfl) (Zb (Sim.B) (Zc)) (Zc)) (Zb (Zd (G.listComp hh rfl (by kernel_rfl) (by kernel_rfl) (λ _ => rfl) (Zm3 rfl rfl rfl (Zk Γ.n_node2info G.name rfl) (.nil)) (λ Lc acc i G1 => Zi2 G1.asg (Zi (Za9 Γ.s_npredecessors.toSlotName G1.name rfl) (Zq) rfl) (Za9 Γ.s_node.toSlotName G1.name rfl))) (Zah G.name (λ _ _ _ _ => Zam Γ.o_ready_nodes)) rfl rfl rfl) (Zb (Zd (G.callM hh Γ.m_find Γ.f_find rfl rfl rfl G.name (.nil) (Zmb Γ) (by decide)) G.asg rfl rfl rfl) (Zb (Zr (Zal G.name rfl) (Zb (Sim.B) (Zc)) (Zc)) (Zc))))
theorem Zlp {c : Cx} {fd : FuncData} (hp : fd.params = paramsSt Zas) (hd : fd.defaults = .none) (hs : fd.scope = scopeSt Zas) : Binds c fd [("self" : Str)] (arrPlain 1) := Z3 (by unfold ownKs; rw [hs]; kernel_rfl) λ vs hl => by
 rcases vs with _ | ⟨v0, _ | ⟨_, _⟩⟩ <;> first | (simp at hl; done) | skip
 obtain ⟨a1, a2, a3, a4, a5, a6, a7, a8, a9, a10, a11, a12, a13, a14, a15⟩ := fd
 dsimp only at hp hd
 subst hp hd
 rfl
theorem Znl {c : Cx} {d : Ad} {z : Fa} (Γ : Facts c d z) : CallOk c z.a_prepare 4 (Zbd d) := by
 obtain ⟨fd, hat, hs, hp, hg, hb, hd⟩ := Γ.f_prepare.ok
 refine CallOk.mk hat (Zlp hp hd hs) ?_ λ L outer => Zlo Γ hs hg hb
 ·intro xs fr h
  rcases xs with _ | ⟨_, _ | ⟨_, _⟩⟩ <;> first | exact Zh h | (cases h; exact ⟨_, rfl, by rw [hs]; rfl⟩)
theorem Zib {c : Cx} {d : Ad} {z : Fa} (Γ : Facts c d z) {fd : FuncData} {L a : Addr} {outer : List Env} (hs : fd.scope = scopeSt Zaa) (hg : fd.globals = mainGlobals) (hb : fd.builtins = builtinsNs) : SimSS c (fxOf fd L a outer 1) (bodySt Zaa) (Zdb d) := by
 have G : FxG (fxOf fd L a outer 1) Zjt Zju 4 1 := FxG.fn hs rfl hg hb (of_decide_eq_true (by kernel_rfl))
 have hfr : (fxOf fd L a outer 1).frames = (fxOf fd L a outer 1).env :: outer := rfl
 have hh : (fxOf fd L a outer 1).hd = true := rfl
 generalize fxOf fd L a outer 1 = F at G hfr hh
 exact Zb (Zr (Zi (Zk Γ.n_ready_nodes G.name rfl) (Z6) rfl) (Zb (Sim.B) (Zc)) (Zc)) (Zb (Zd (G.callT Γ.bu Zm8 (.cons (Zk Γ.n_ready_nodes G.name rfl) (.nil)) Zoi) G.asg rfl rfl rfl) (Zb (Zd (Zk Γ.n_node2info G.name rfl) G.asg rfl rfl rfl) (Zb (Zw hfr hh fuel G.name G.asg (Zb (Zd (G.globI (by kernel_rfl) Γ.node_out) (Zah (Ze G.name G.name (λ _ _ => rfl)) (λ _ _ _ _ => Zan Γ.s_npredecessors)) rfl rfl rfl) (Zc)) (λ _ => rfl)) (Zb (Zz (Zod rfl rfl rfl (Zk Γ.n_ready_nodes G.name rfl)) G.quiet rfl) (Zb (Zb0 G.name (G.callB Γ.bu Z4 (.cons G.name (.nil)) Zae) (λ _ _ => Zd8 Γ.n_npassedout) (λ _ _ _ _ => Zam Γ.o_npassedout)) (Zb (Zy G.name) (Zc)))))))
theorem Zic {c : Cx} {fd : FuncData} (hp : fd.params = paramsSt Zaa) (hd : fd.defaults = .none) (hs : fd.scope = scopeSt Zaa) : Binds c fd [("self" : Str)] (arrPlain 1) := Z3 (by unfold ownKs; rw [hs]; kernel_rfl) λ vs hl => by
 rcases vs with _ | ⟨v0, _ | ⟨_, _⟩⟩ <;> first | (simp at hl; done) | skip
 obtain ⟨a1, a2, a3, a4, a5, a6, a7, a8, a9, a10, a11, a12, a13, a14, a15⟩ := fd
 dsimp only at hp hd
 subst hp hd
 rfl
theorem Zj3 {c : Cx} {d : Ad} {z : Fa} (Γ : Facts c d z) : CallOk c z.a_get_ready 1 (Zb1 d) := by
 obtain ⟨fd, hat, hs, hp, hg, hb, hd⟩ := Γ.f_get_ready.ok
 refine CallOk.mk hat (Zic hp hd hs) ?_ λ L outer => Zib Γ hs hg hb
 ·intro xs fr h
  rcases xs with _ | ⟨_, _ | ⟨_, _⟩⟩ <;> first | exact Zh h | (cases h; exact ⟨_, rfl, by rw [hs]; rfl⟩)
theorem Zid {c : Cx} {d : Ad} {z : Fa} (Γ : Facts c d z) {fd : FuncData} {L a : Addr} {outer : List Env} (hs : fd.scope = scopeSt Zab) (hg : fd.globals = mainGlobals) (hb : fd.builtins = builtinsNs) : SimSS c (fxOf fd L a outer 1) (bodySt Zab) (Zdc d) := by
 have G : FxG (fxOf fd L a outer 1) Zjv Zjw 1 1 := FxG.fn hs rfl hg hb (of_decide_eq_true (by kernel_rfl))
 have hfr : (fxOf fd L a outer 1).frames = (fxOf fd L a outer 1).env :: outer := rfl
 have hh : (fxOf fd L a outer 1).hd = true := rfl
 generalize fxOf fd L a outer 1 = F at G hfr hh
 exact Zb (Zr (Zi (Zk Γ.n_ready_nodes G.name rfl) (Z6) rfl) (Zb (Sim.B) (Zc)) (Zc)) (Zb (Zy (Zf5 (Zpt (Zcm (Zk Γ.n_nfinished G.name rfl) (Zk Γ.n_npassedout G.name rfl) rfl) (Zhf (G.callT Γ.bu Zov (.cons (Zk Γ.n_ready_nodes G.name rfl) (.nil)) Zm4))))) (Zc))
theorem Zie {c : Cx} {fd : FuncData} (hp : fd.params = paramsSt Zab) (hd : fd.defaults = .none) (hs : fd.scope = scopeSt Zab) : Binds c fd [("self" : Str)] (arrPlain 1) := Z3 (by unfold ownKs; rw [hs]; kernel_rfl) λ vs hl => by
 rcases vs with _ | ⟨v0, _ | ⟨_, _⟩⟩ <;> first | (simp at hl; done) | skip
 obtain ⟨a1, a2, a3, a4, a5, a6, a7, a8, a9, a10, a11, a12, a13, a14, a15⟩ := fd
 dsimp only at hp hd
 subst hp hd
 rfl
theorem Zj4 {c : Cx} {d : Ad} {z : Fa} (Γ : Facts c d z) : CallOk c z.a_is_active 1 (Zb2 d) := by
 obtain ⟨fd, hat, hs, hp, hg, hb, hd⟩ := Γ.f_is_active.ok
 refine CallOk.mk hat (Zie hp hd hs) ?_ λ L outer => Zid Γ hs hg hb
 ·intro xs fr h
  rcases xs with _ | ⟨_, _ | ⟨_, _⟩⟩ <;> first | exact Zh h | (cases h; exact ⟨_, rfl, by rw [hs]; rfl⟩)
theorem Zqc {c : Cx} {d : Ad} {z : Fa} (Γ : Facts c d z) {fd : FuncData} {L a : Addr} {outer : List Env} (hs : fd.scope = scopeSt Zbf) (hg : fd.globals = mainGlobals) (hb : fd.builtins = builtinsNs) : SimSS c (fxOf fd L a outer 1) (bodySt Zbf) (Zjr d) := by
 have G : FxG (fxOf fd L a outer 1) Zr2 Zr3 8 1 := FxG.fn hs rfl hg hb (of_decide_eq_true (by kernel_rfl))
 have hfr : (fxOf fd L a outer 1).frames = (fxOf fd L a outer 1).env :: outer := rfl
 have hh : (fxOf fd L a outer 1).hd = true := rfl
 generalize fxOf fd L a outer 1 = F at G hfr hh
 exact Zb (Zr (Zi (Zk Γ.n_ready_nodes G.name rfl) (Z6) rfl) (Zb (Sim.B) (Zc)) (Zc)) (Zb (Zd (Zk Γ.n_node2info G.name rfl) G.asg rfl rfl rfl) (Zb (Zw hfr hh fuel G.name G.asg (Zb (Zr (Zi (Zdy (Zff rfl rfl rfl G.name (.cons G.name (.nil))) G.asg) (Z6) rfl) (Zb (Sim.B) (Zc)) (Zc)) (Zb (Zd (Za9 Γ.s_npredecessors.toSlotName G.name rfl) G.asg rfl rfl rfl) (Zb (Zr (Zi G.name (G.globI (by kernel_rfl) Γ.node_out) rfl) (Zb (Zr (Zi G.name (Zq) rfl) (Zb (Sim.B) (Zc)) (Zb (Zr (Zi G.name (G.globI (by kernel_rfl) Γ.node_done) rfl) (Zb (Sim.B) (Zc)) (Zb (Sim.B) (Zc))) (Zc))) (Zc)) (Zc)) (Zb (Zd (G.globI (by kernel_rfl) Γ.node_done) (Zah G.name (λ _ _ _ _ => Zan Γ.s_npredecessors)) rfl rfl rfl) (Zb (Zw hfr hh fuel (Za9 Γ.s_successors.toSlotName G.name rfl) G.asg (Zb (Zd (Ze G.name G.name (λ _ _ => rfl)) G.asg rfl rfl rfl) (Zb (Zb0 G.name (Zq) (λ _ _ => Zd9 Γ.s_npredecessors.toSlotName) (λ _ _ _ _ => Zan Γ.s_npredecessors)) (Zb (Zr (Zi (Za9 Γ.s_npredecessors.toSlotName G.name rfl) (Zq) rfl) (Zb (Zz (Z9 rfl rfl rfl rfl (Zk Γ.n_ready_nodes G.name rfl) G.name) G.quiet rfl) (Zc)) (Zc)) (Zc)))) (λ _ => rfl)) (Zb (Zb0 G.name (Zq) (λ _ _ => Zd8 Γ.n_nfinished) (λ _ _ _ _ => Zam Γ.o_nfinished)) (Zc))))))) (λ _ => rfl)) (Zc)))
theorem Zqd {c : Cx} {fd : FuncData} (hp : fd.params = paramsSt Zbf) (hd : fd.defaults = .none) (hs : fd.scope = scopeSt Zbf) : Binds c fd [("self" : Str), ("nodes" : Str)] (arrStar 1) := Zgk (by unfold ownKs; rw [hs]; kernel_rfl) λ vs r hl => by
 rcases vs with _ | ⟨v0, _ | ⟨_, _⟩⟩ <;> first | (simp at hl; done) | skip
 obtain ⟨a1, a2, a3, a4, a5, a6, a7, a8, a9, a10, a11, a12, a13, a14, a15⟩ := fd
 dsimp only at hp hd
 subst hp hd
 cases r <;> rfl
theorem Zr6 {c : Cx} {d : Ad} {z : Fa} (Γ : Facts c d z) : CallOk c z.a_done 1 (Zgn d) := by
 obtain ⟨fd, hat, hs, hp, hg, hb, hd⟩ := Γ.f_done.ok
 refine CallOk.mk hat (Zqd hp hd hs) ?_ λ L outer => Zqc Γ hs hg hb
 ·intro xs fr h
  rcases xs with _ | ⟨_, r⟩ <;> first | exact Zh h | skip
  have h : (match lenOk r with | true => some _ | false => none) = some fr := h
  cases hl : lenOk r with
  | false => rw [hl] at h; exact Zh h
  | true => rw [hl] at h; cases h; exact ⟨_, by unfold arrStar; simp [hl]; rfl, by rw [hs]; rfl⟩

theorem Zif {c : Cx} {d : Ad} {z : Fa} (Γ : Facts c d z) {fd : FuncData} {L a : Addr} {outer : List Env} (hs : fd.scope = scopeSt Zac) (hg : fd.globals = mainGlobals) (hb : fd.builtins = builtinsNs) : SimSS c (fxOf fd L a outer 6) (bodySt Zac) (g_law_drawn d) := by
 have G : FxG (fxOf fd L a outer 6) Zjx Zjy 9 6 := FxG.fn hs rfl hg hb (of_decide_eq_true (by kernel_rfl))
 have hfr : (fxOf fd L a outer 6).frames = (fxOf fd L a outer 6).env :: outer := rfl
 have hh : (fxOf fd L a outer 6).hd = true := rfl
 generalize fxOf fd L a outer 6 = F at G hfr hh
 exact Zb (Zd (G.callB Γ.bu Zp3 (.cons (Zq) (.cons (Zau (Zq) (G.callB Γ.bu Z4 (.cons G.name (.nil)) Zae)) (.nil))) (Zrr hh)) G.asg rfl rfl rfl) (Zb (Zd (Z8 true (.nil)) G.asg rfl rfl rfl) (Zb (Zw hfr hh fuel (G.callT Γ.bu Zl (.cons (G.callB Γ.bu Z4 (.cons G.name (.nil)) Zae) (.nil)) Zo) G.asg (Zb (Zr (Zi G.name (Zq) rfl) (Zb (Zz (Z9 rfl rfl rfl rfl G.name (Ze G.name G.name (λ _ _ => rfl))) G.quiet rfl) (Zc)) (Zb (Zmv G.name (Zau G.name (Zq)) (Ze G.name G.name (λ _ _ => rfl)) (λ _ _ _ => rfl)) (Zc))) (Zc)) (λ _ => rfl)) (Zb (G.asgComp hh rfl (by kernel_rfl) (by kernel_rfl) (λ _ => rfl) (by kernel_rfl) G.name (λ Lc acc i G3 => Zb3 G3.asg (Zd5 (.cons (Zau G3.name G3.name) (.cons (Zau (Zau G3.name G3.name) G3.name) (.nil))))) G.asg) (Zb (Zd (G.callB Γ.bu Zpy (.cons (G.listComp hh rfl (by kernel_rfl) (by kernel_rfl) (λ _ => rfl) G.name (λ Lc acc i G2 => Zb3 G2.asg (Zau G2.name (Zq)))) (.nil)) (Zrk hh)) G.asg rfl rfl rfl) (Zb (Zd (Z8 true (.nil)) G.asg rfl rfl rfl) (Zb (Zd (G.callT Γ.bu Zou (.cons (G.callT Γ.bu Zl (.cons G.name (.nil)) Zo) (.nil)) (Zmz hh)) G.asg rfl rfl rfl) (Zb (Zw hfr hh fuel (G.callT Γ.bu Zl (.cons G.name (.cons (Zq) (.cons (Zfx (Zq)) (.nil)))) Zo) G.asg (Zb (Zz (Z9 rfl rfl rfl rfl G.name (Zoc rfl rfl rfl rfl G.name (Zau G.name G.name))) G.quiet rfl) (Zb (Zd (Zau G.name G.name) G.asg rfl rfl rfl) (Zc))) (λ _ => rfl)) (Zb (Zy (Zd5 (.cons G.name (.cons G.name (.nil))))) (Zc)))))))))
theorem Zig {c : Cx} {fd : FuncData} (hp : fd.params = paramsSt Zac) (hd : fd.defaults = .none) (hs : fd.scope = scopeSt Zac) : Binds c fd [("script" : Str)] (arrPlain 1) := Z3 (by unfold ownKs; rw [hs]; kernel_rfl) λ vs hl => by
 rcases vs with _ | ⟨v0, _ | ⟨_, _⟩⟩ <;> first | (simp at hl; done) | skip
 obtain ⟨a1, a2, a3, a4, a5, a6, a7, a8, a9, a10, a11, a12, a13, a14, a15⟩ := fd
 dsimp only at hp hd
 subst hp hd
 rfl
theorem Zj5 {c : Cx} {d : Ad} {z : Fa} (Γ : Facts c d z) : CallOk c z.a_law_drawn 6 (Zdd d) := by
 obtain ⟨fd, hat, hs, hp, hg, hb, hd⟩ := Γ.f_law_drawn.ok
 refine CallOk.mk hat (Zig hp hd hs) ?_ λ L outer => Zif Γ hs hg hb
 ·intro xs fr h
  rcases xs with _ | ⟨_, _ | ⟨_, _⟩⟩ <;> first | exact Zh h | (cases h; exact ⟨_, rfl, by rw [hs]; rfl⟩)
theorem Zg6 {c : Cx} {d : Ad} {z : Fa} (Γ : Facts c d z) {fd : FuncData} {L a : Addr} {outer : List Env} (hs : fd.scope = scopeSt Z5) (hg : fd.globals = mainGlobals) (hb : fd.builtins = builtinsNs) : SimSS c (fxOf fd L a outer 6) (bodySt Z5) (g_law_rounds d) := by
 have G : FxG (fxOf fd L a outer 6) Zh9 Zia 12 6 := FxG.fn hs rfl hg hb (of_decide_eq_true (by kernel_rfl))
 have hfr : (fxOf fd L a outer 6).frames = (fxOf fd L a outer 6).env :: outer := rfl
 have hh : (fxOf fd L a outer 6).hd = true := rfl
 generalize fxOf fd L a outer 6 = F at G hfr hh
 exact Zb (Zd (G.listComp hh rfl (by kernel_rfl) (by kernel_rfl) (λ _ => rfl) (G.callT Γ.bu Zl (.cons G.name (.nil)) Zo) (λ Lc acc i G10 => Zb3 G10.asg (G10.listComp hh rfl (by kernel_rfl) (by kernel_rfl) (λ _ => rfl) (G10.callT Γ.bu Zl (.cons G10.name (.nil)) Zo) (λ Lc acc i G11 => Zb3 G11.asg (Zcm (Zd5 (.cons G11.name (.cons G11.name (.nil)))) G11.name rfl))))) G.asg (G.swap.trans (congrArg pure (by kernel_rfl))) rfl rfl) (Zb (Zw hfr hh fuel (G.callT Γ.bu Zl (.cons G.name (.nil)) Zo) G.asg (Zb (Zw hfr hh fuel (G.callT Γ.bu Zl (.cons G.name (.nil)) Zo) G.asg (Zb (Zr (Zal (Ze (Ze G.name G.name (λ _ _ => rfl)) G.name (λ _ _ => rfl)) rfl) (Zb (Zw hfr hh fuel (G.callT Γ.bu Zl (.cons G.name (.nil)) Zo) G.asg (Zb (Zr (Zal (Ze (Ze G.name G.name (λ _ _ => rfl)) G.name (λ _ _ => rfl)) rfl) (Zb (Zd (Zcl) (Zco (Ze G.name G.name (λ _ _ => rfl)) G.name) rfl rfl rfl) (Zc)) (Zc)) (Zc)) (λ _ => rfl)) (Zc)) (Zc)) (Zc)) (λ _ => rfl)) (Zc)) (λ _ => rfl)) (Zb (Zd (Zps true (Z8 false (.cons (Zq) (.nil))) G.name) G.asg rfl rfl rfl) (Zb (Zw hfr hh fuel (G.callT Γ.bu Zl (.cons G.name (.nil)) Zo) G.asg (Zb (Zw hfr hh fuel (G.callT Γ.bu Zl (.cons G.name (.nil)) Zo) G.asg (Zb (Zw hfr hh fuel (G.callT Γ.bu Zl (.cons G.name (.nil)) Zo) G.asg (Zb (Zr (Za0 (Zx (Zal (Ze (Ze G.name G.name (λ _ _ => rfl)) G.name (λ _ _ => rfl)) rfl) (Zx (Zin (Zal (Ze (Ze G.name G.name (λ _ _ => rfl)) G.name (λ _ _ => rfl)) rfl)) (Zao)))) (Zb (Zd (G.callB Γ.bu Zp2 (.cons (Ze G.name G.name (λ _ _ => rfl)) (.cons (Zau (Ze G.name G.name (λ _ _ => rfl)) (Zq)) (.nil))) (Zrs hh)) (Zco G.name G.name) rfl rfl rfl) (Zc)) (Zc)) (Zc)) (λ _ => rfl)) (Zc)) (λ _ => rfl)) (Zc)) (λ _ => rfl)) (Zb (Zd (Z8 true (.nil)) G.asg rfl rfl rfl) (Zb (Zw hfr hh fuel (G.callT Γ.bu Zl (.cons G.name (.nil)) Zo) G.asg (Zb (Zd (Z8 true (.nil)) G.asg rfl rfl rfl) (Zb (Zw hfr hh fuel (G.callT Γ.bu Zl (.cons G.name (.nil)) Zo) G.asg (Zb (G.asgComp hh rfl (by kernel_rfl) (by kernel_rfl) (λ _ => rfl) (by kernel_rfl) (G.callT Γ.bu Zl (.cons G.name (.nil)) Zo) (λ Lc acc i G3 => Zi2 G3.asg (Za0 (Z7 (Zi G3.name G3.name rfl) (Z7 (Za0 (Zx (Zal (Ze (Ze G3.name G3.name (λ _ _ => rfl)) G3.name (λ _ _ => rfl)) rfl) (Zx (Zal (Ze (Ze G3.name G3.name (λ _ _ => rfl)) G3.name (λ _ _ => rfl)) rfl) (Zao)))) (Zaz)))) G3.name) G.asg) (Zb (Zr (Za0 (Zx (Zi (Ze G.name G.name (λ _ _ => rfl)) G.name rfl) (Zx (Zi G.name G.name rfl) (Zao)))) (Zb (Zz (Z9 rfl rfl rfl rfl G.name G.name) G.quiet rfl) (Zc)) (Zc)) (Zc))) (λ _ => rfl)) (Zb (Zz (Z9 rfl rfl rfl rfl G.name G.name) G.quiet rfl) (Zc)))) (λ _ => rfl)) (Zb (Zy G.name) (Zc)))))))
theorem Zg7 {c : Cx} {fd : FuncData} (hp : fd.params = paramsSt Z5) (hd : fd.defaults = .none) (hs : fd.scope = scopeSt Z5) : Binds c fd [("size" : Str), ("told" : Str)] (arrPlain 2) := Z3 (by unfold ownKs; rw [hs]; kernel_rfl) λ vs hl => by
 rcases vs with _ | ⟨v0, _ | ⟨v1, _ | ⟨_, _⟩⟩⟩ <;> first | (simp at hl; done) | skip
 obtain ⟨a1, a2, a3, a4, a5, a6, a7, a8, a9, a10, a11, a12, a13, a14, a15⟩ := fd
 dsimp only at hp hd
 subst hp hd
 rfl
theorem Zih {c : Cx} {d : Ad} {z : Fa} (Γ : Facts c d z) : CallOk c z.a_law_rounds 6 (Zbk d) := by
 obtain ⟨fd, hat, hs, hp, hg, hb, hd⟩ := Γ.f_law_rounds.ok
 refine CallOk.mk hat (Zg7 hp hd hs) ?_ λ L outer => Zg6 Γ hs hg hb
 ·intro xs fr h
  rcases xs with _ | ⟨_, _ | ⟨_, _ | ⟨_, _⟩⟩⟩ <;> first | exact Zh h | (cases h; exact ⟨_, rfl, by rw [hs]; rfl⟩)
theorem Zii {c : Cx} {d : Ad} {z : Fa} (Γ : Facts c d z) {fd : FuncData} {L a : Addr} {outer : List Env} (hs : fd.scope = scopeSt Zad) (hg : fd.globals = mainGlobals) (hb : fd.builtins = builtinsNs) : SimSS c (fxOf fd L a outer 6) (bodySt Zad) (g_law_graph d) := by
 have G : FxG (fxOf fd L a outer 6) Zjz Zj0 8 6 := FxG.fn hs rfl hg hb (of_decide_eq_true (by kernel_rfl))
 have hfr : (fxOf fd L a outer 6).frames = (fxOf fd L a outer 6).env :: outer := rfl
 have hh : (fxOf fd L a outer 6).hd = true := rfl
 generalize fxOf fd L a outer 6 = F at G hfr hh
 exact Zb (Zd (Zft) G.asg rfl rfl rfl) (Zb (Zw hfr hh fuel (G.callT Γ.bu Zl (.cons (G.callB Γ.bu Z4 (.cons G.name (.nil)) Zae) (.nil)) Zo) G.asg (Zb (Zd (Z8 true (.nil)) (Zco G.name G.name) rfl rfl rfl) (Zc)) (λ _ => rfl)) (Zb (Zw hfr hh fuel G.name (Zdk hh (.cons G.asg (.cons G.asg (.nil)))) (Zb (Zw hfr hh fuel (G.callT Γ.bu Zl (.cons (G.callB Γ.bu Z4 (.cons G.name (.nil)) Zae) (.nil)) Zo) G.asg (Zb (Zr (Za0 (Zx (Zi G.name (Ze G.name G.name (λ _ _ => rfl)) rfl) (Zx (Zi G.name (Ze G.name G.name (λ _ _ => rfl)) rfl) (Zao)))) (Zb (Zw hfr hh fuel (G.callT Γ.bu Zl (.cons (G.callB Γ.bu Z4 (.cons G.name (.nil)) Zae) (.nil)) Zo) G.asg (Zb (Zr (Zi G.name (Ze G.name G.name (λ _ _ => rfl)) rfl) (Zb (Zz (Z9 rfl rfl rfl rfl (Ze G.name G.name (λ _ _ => rfl)) G.name) G.quiet rfl) (Zc)) (Zc)) (Zc)) (λ _ => rfl)) (Zc)) (Zc)) (Zc)) (λ _ => rfl)) (Zc)) (λ _ => rfl)) (Zb (Zy G.name) (Zc))))
theorem Zij {c : Cx} {fd : FuncData} (hp : fd.params = paramsSt Zad) (hd : fd.defaults = .none) (hs : fd.scope = scopeSt Zad) : Binds c fd [("parts" : Str), ("told" : Str)] (arrPlain 2) := Z3 (by unfold ownKs; rw [hs]; kernel_rfl) λ vs hl => by
 rcases vs with _ | ⟨v0, _ | ⟨v1, _ | ⟨_, _⟩⟩⟩ <;> first | (simp at hl; done) | skip
 obtain ⟨a1, a2, a3, a4, a5, a6, a7, a8, a9, a10, a11, a12, a13, a14, a15⟩ := fd
 dsimp only at hp hd
 subst hp hd
 rfl
theorem Zj6 {c : Cx} {d : Ad} {z : Fa} (Γ : Facts c d z) : CallOk c z.a_law_graph 6 (Zde d) := by
 obtain ⟨fd, hat, hs, hp, hg, hb, hd⟩ := Γ.f_law_graph.ok
 refine CallOk.mk hat (Zij hp hd hs) ?_ λ L outer => Zii Γ hs hg hb
 ·intro xs fr h
  rcases xs with _ | ⟨_, _ | ⟨_, _ | ⟨_, _⟩⟩⟩ <;> first | exact Zh h | (cases h; exact ⟨_, rfl, by rw [hs]; rfl⟩)
theorem Zr7 {c : Cx} {d : Ad} {z : Fa} (Γ : Facts c d z) {fd : FuncData} {L a : Addr} {outer : List Env} (hs : fd.scope = scopeSt Zb6) (hg : fd.globals = mainGlobals) (hb : fd.builtins = builtinsNs) : SimSS c (fxOf fd L a outer 9) (bodySt Zb6) (g_law d) := by
 have G : FxG (fxOf fd L a outer 9) Zs3 Zs4 12 9 := FxG.fn hs rfl hg hb (of_decide_eq_true (by kernel_rfl))
 have hfr : (fxOf fd L a outer 9).frames = (fxOf fd L a outer 9).env :: outer := rfl
 have hh : (fxOf fd L a outer 9).hd = true := rfl
 generalize fxOf fd L a outer 9 = F at G hfr hh
 exact Zb (Zd (G.callG hh (by kernel_rfl) Γ.g_law_drawn Γ.f_law_drawn (.cons G.name (.nil)) (Zj5 Γ) (by decide)) (Zdk hh (.cons G.asg (.cons G.asg (.nil)))) rfl rfl rfl) (Zb (Zd (G.listComp hh rfl (by kernel_rfl) (by kernel_rfl) (λ _ => rfl) G.name (λ Lc acc i G8 => Zb3 G8.asg (Z8 false (.cons G8.name (.nil))))) G.asg (G.swap.trans (congrArg pure (by kernel_rfl))) rfl rfl) (Zb (Zw hfr hh fuel (G.callT Γ.bu Zl (.cons (G.callB Γ.bu Z4 (.cons G.name (.nil)) Zae) (.nil)) Zo) G.asg (Zb (Zd (G.callG hh (by kernel_rfl) Γ.g_law_graph Γ.f_law_graph (.cons G.name (.cons G.name (.nil))) (Zj6 Γ) (by decide)) G.asg rfl rfl rfl) (Zb (Zd (G.callC hh (by kernel_rfl) Γ.g_TS Γ.mk_TS (Znk Γ) (by decide) (.cons G.name (.nil))) G.asg rfl rfl rfl) (Zb (Zd (G.callM hh Γ.m_find Γ.f_find rfl rfl rfl G.name (.nil) (Zmb Γ) (by decide)) G.asg rfl rfl rfl) (Zb (Zr (Zi G.name (Z6) rfl) (Zb (Zd2) (Zc)) (Zc)) (Zb (Zd (Zgg false G.name (Zq) (λ _ _ => rfl)) G.asg rfl rfl rfl) (Zb (Zr (Za0 (Z7 (Zi (G.callB Γ.bu Z4 (.cons G.name (.nil)) Zae) (Zq) rfl) (Z7 (Zi (Ze G.name (Zq) (λ _ _ => rfl)) (Ze G.name (Zfx (Zq)) (λ _ _ => rfl)) rfl) (Z7 (Zal (G.callB Γ.bu Zpz (.cons (G.listComp hh rfl (by kernel_rfl) (by kernel_rfl) (λ _ => rfl) G.name (λ Lc acc i G7 => Zb3 G7.asg (Zcm (Zor rfl rfl rfl G7.name (.cons G7.name (.nil))) (Zq) rfl))) (.nil)) (Zrl hh)) rfl) (Zaz))))) (Zb (Zy (Zcl)) (Zc)) (Zc)) (Zb (Zr (Zin (Zal (G.callB Γ.bu Zp0 (.cons (G.listComp hh rfl (by kernel_rfl) (by kernel_rfl) (λ _ => rfl) (G.callT Γ.bu Zl (.cons (G.callB Γ.bu Z4 (.cons G.name (.nil)) Zae) (.nil)) Zo) (λ Lc acc i G6 => Zb3 G6.asg (Zcm (Ze G6.name G6.name (λ _ _ => rfl)) (Ze G6.name (Ze G6.name (Zau G6.name (Zq)) (λ _ _ => rfl)) (λ _ _ => rfl)) rfl))) (.nil)) (Zrm hh)) rfl)) (Zb (Zy (Zcl)) (Zc)) (Zc)) (Zb (Zd (G.callB Γ.bu Zfg (.cons (G.listComp hh rfl (by kernel_rfl) (by kernel_rfl) (λ _ => rfl) G.name (λ Lc acc i G5 => Zsx hh G5.asg (Ze G5.name G5.name (λ _ _ => rfl)) (λ _ => rfl) (Zrq G5.asg G5.name))) (.nil)) Zh2) G.asg rfl rfl rfl) (Zb (Zd (Zi7 true (G.listComp hh rfl (by kernel_rfl) (by kernel_rfl) (λ _ => rfl) (G.callT Γ.bu Zl (.cons (G.callB Γ.bu Z4 (.cons G.name (.nil)) Zae) (.nil)) Zo) (λ Lc acc i G4 => Zi2 G4.asg (Zi G4.name G4.name rfl) (Ze G4.name G4.name (λ _ _ => rfl)))) (Z8 false (.cons G.name (.nil)))) G.asg rfl rfl rfl) (Zc)))))))))) (λ _ => rfl)) (Zb (Zr (Za0 (Z7 (Zi G.name (Z6) rfl) (Z7 (Zi (G.callM hh Γ.m_prepare Γ.f_prepare rfl rfl rfl G.name (.nil) (Znl Γ) (by decide)) (Z6) rfl) (Zaz)))) (Zb (Zy (Zcl)) (Zc)) (Zc)) (Zb (Zd (Z8 true (.nil)) G.asg rfl rfl rfl) (Zb (Zw hfr hh fuel (G.callT Γ.bu Zl (.cons (G.callB Γ.bu Z4 (.cons G.name (.nil)) Zae) (.nil)) Zo) G.asg (Zb (Zd (G.callM hh Γ.m_get_ready Γ.f_get_ready rfl rfl rfl G.name (.nil) (Zj3 Γ) (by decide)) G.asg rfl rfl rfl) (Zb (Zz (Z9 rfl rfl rfl rfl G.name (G.callB Γ.bu Zfg (.cons (G.listComp hh rfl (by kernel_rfl) (by kernel_rfl) (λ _ => rfl) G.name (λ Lc acc i G2 => Zb3 G2.asg (Ze G2.name G2.name (λ _ _ => rfl)))) (.nil)) Znc)) G.quiet rfl) (Zb (Zz (G.callM hh Γ.m_done Γ.f_done rfl rfl rfl G.name (.star G.name) (Zr6 Γ) (by decide)) G.quiet rfl) (Zc)))) (λ _ => rfl)) (Zb (Zy (Zf5 (Zn2 (Zcm G.name (G.callG hh (by kernel_rfl) Γ.g_law_rounds Γ.f_law_rounds (.cons (G.callB Γ.bu Z4 (.cons G.name (.nil)) Zae) (.cons G.name (.nil))) (Zih Γ) (by decide)) rfl) (Zhf (Zpi (G.callM hh Γ.m_is_active Γ.f_is_active rfl rfl rfl G.name (.nil) (Zj4 Γ) (by decide))))))) (Zc)))))))
theorem Zr8 {c : Cx} {fd : FuncData} (hp : fd.params = paramsSt Zb6) (hd : fd.defaults = .none) (hs : fd.scope = scopeSt Zb6) : Binds c fd [("script" : Str)] (arrPlain 1) := Z3 (by unfold ownKs; rw [hs]; kernel_rfl) λ vs hl => by
 rcases vs with _ | ⟨v0, _ | ⟨_, _⟩⟩ <;> first | (simp at hl; done) | skip
 obtain ⟨a1, a2, a3, a4, a5, a6, a7, a8, a9, a10, a11, a12, a13, a14, a15⟩ := fd
 dsimp only at hp hd
 subst hp hd
 rfl
theorem Zs6 {c : Cx} {d : Ad} {z : Fa} (Γ : Facts c d z) : CallOk c z.a_law 9 (k_law d) := by
 obtain ⟨fd, hat, hs, hp, hg, hb, hd⟩ := Γ.f_law.ok
 refine CallOk.mk hat (Zr8 hp hd hs) ?_ λ L outer => Zr7 Γ hs hg hb
 ·intro xs fr h
  rcases xs with _ | ⟨_, _ | ⟨_, _⟩⟩ <;> first | exact Zh h | (cases h; exact ⟨_, rfl, by rw [hs]; rfl⟩)

noncomputable def seen3 : List EqT := [
 ⟨_, λ K => isFunc K 36, true⟩,
 ⟨_, λ K => codeIn K (fdAt K 36).code (fdAt K 36).qualname, true⟩,
 ⟨_, λ K => (fdAt K 36).body, .stmts (bodySt Zaq)⟩,
 ⟨_, λ K => (fdAt K 36).closure, []⟩,
 ⟨_, λ K => (fdAt K 36).scope, scopeSt Zaq⟩,
 ⟨_, λ K => (fdAt K 36).params, paramsSt Zaq⟩,
 ⟨_, λ K => (fdAt K 36).globals, mainGlobals⟩,
 ⟨_, λ K => (fdAt K 36).builtins, builtinsNs⟩,
 ⟨_, λ K => (fdAt K 36).defaults, Value.none⟩,
 ⟨_, λ K => isFunc K 80, true⟩,
 ⟨_, λ K => codeIn K (fdAt K 80).code (fdAt K 80).qualname, true⟩,
 ⟨_, λ K => (fdAt K 80).body, .stmts (bodySt Zai)⟩,
 ⟨_, λ K => (fdAt K 80).closure, []⟩,
 ⟨_, λ K => (fdAt K 80).scope, scopeSt Zai⟩,
 ⟨_, λ K => (fdAt K 80).params, paramsSt Zai⟩,
 ⟨_, λ K => (fdAt K 80).globals, mainGlobals⟩,
 ⟨_, λ K => (fdAt K 80).builtins, builtinsNs⟩,
 ⟨_, λ K => (fdAt K 80).defaults, Value.none⟩,
 ⟨_, λ K => isFunc K 87, true⟩,
 ⟨_, λ K => codeIn K (fdAt K 87).code (fdAt K 87).qualname, true⟩,
 ⟨_, λ K => (fdAt K 87).body, .stmts (bodySt Zb5)⟩,
 ⟨_, λ K => (fdAt K 87).closure, []⟩,
 ⟨_, λ K => (fdAt K 87).scope, scopeSt Zb5⟩,
 ⟨_, λ K => (fdAt K 87).params, paramsSt Zb5⟩,
 ⟨_, λ K => (fdAt K 87).globals, mainGlobals⟩,
 ⟨_, λ K => (fdAt K 87).builtins, builtinsNs⟩,
 ⟨_, λ K => (fdAt K 87).defaults, Value.none⟩,
 ⟨_, λ K => isFunc K 73, true⟩,
 ⟨_, λ K => codeIn K (fdAt K 73).code (fdAt K 73).qualname, true⟩,
 ⟨_, λ K => (fdAt K 73).body, .stmts (bodySt Zar)⟩,
 ⟨_, λ K => (fdAt K 73).closure, []⟩,
 ⟨_, λ K => (fdAt K 73).scope, scopeSt Zar⟩,
 ⟨_, λ K => (fdAt K 73).params, paramsSt Zar⟩,
 ⟨_, λ K => (fdAt K 73).globals, mainGlobals⟩,
 ⟨_, λ K => (fdAt K 73).builtins, builtinsNs⟩,
 ⟨_, λ K => K.lookup 66, some { cls := .type "tuple", data := .seq #[.none] 0 }⟩,
 ⟨_, λ K => (fdAt K 73).defaults, Value.ref 66⟩,
 ⟨_, λ K => isFunc K 127, true⟩,
 ⟨_, λ K => codeIn K (fdAt K 127).code (fdAt K 127).qualname, true⟩,
 ⟨_, λ K => (fdAt K 127).body, .stmts (bodySt Zbe)⟩,
 ⟨_, λ K => (fdAt K 127).closure, []⟩,
 ⟨_, λ K => (fdAt K 127).scope, scopeSt Zbe⟩,
 ⟨_, λ K => (fdAt K 127).params, paramsSt Zbe⟩,
 ⟨_, λ K => (fdAt K 127).globals, mainGlobals⟩,
 ⟨_, λ K => (fdAt K 127).builtins, builtinsNs⟩,
 ⟨_, λ K => (fdAt K 127).defaults, Value.none⟩,
 ⟨_, λ K => isFunc K 92, true⟩,
 ⟨_, λ K => codeIn K (fdAt K 92).code (fdAt K 92).qualname, true⟩,
 ⟨_, λ K => (fdAt K 92).body, .stmts (bodySt Zas)⟩,
 ⟨_, λ K => (fdAt K 92).closure, []⟩,
 ⟨_, λ K => (fdAt K 92).scope, scopeSt Zas⟩,
 ⟨_, λ K => (fdAt K 92).params, paramsSt Zas⟩,
 ⟨_, λ K => (fdAt K 92).globals, mainGlobals⟩,
 ⟨_, λ K => (fdAt K 92).builtins, builtinsNs⟩,
 ⟨_, λ K => (fdAt K 92).defaults, Value.none⟩,
 ⟨_, λ K => isFunc K 99, true⟩,
 ⟨_, λ K => codeIn K (fdAt K 99).code (fdAt K 99).qualname, true⟩,
 ⟨_, λ K => (fdAt K 99).body, .stmts (bodySt Zaa)⟩,
 ⟨_, λ K => (fdAt K 99).closure, []⟩,
 ⟨_, λ K => (fdAt K 99).scope, scopeSt Zaa⟩,
 ⟨_, λ K => (fdAt K 99).params, paramsSt Zaa⟩,
 ⟨_, λ K => (fdAt K 99).globals, mainGlobals⟩,
 ⟨_, λ K => (fdAt K 99).builtins, builtinsNs⟩,
 ⟨_, λ K => (fdAt K 99).defaults, Value.none⟩,
 ⟨_, λ K => isFunc K 106, true⟩,
 ⟨_, λ K => codeIn K (fdAt K 106).code (fdAt K 106).qualname, true⟩,
 ⟨_, λ K => (fdAt K 106).body, .stmts (bodySt Zab)⟩,
 ⟨_, λ K => (fdAt K 106).closure, []⟩,
 ⟨_, λ K => (fdAt K 106).scope, scopeSt Zab⟩,
 ⟨_, λ K => (fdAt K 106).params, paramsSt Zab⟩,
 ⟨_, λ K => (fdAt K 106).globals, mainGlobals⟩,
 ⟨_, λ K => (fdAt K 106).builtins, builtinsNs⟩,
 ⟨_, λ K => (fdAt K 106).defaults, Value.none⟩,
 ⟨_, λ K => isFunc K 120, true⟩,
 ⟨_, λ K => codeIn K (fdAt K 120).code (fdAt K 120).qualname, true⟩,
 ⟨_, λ K => (fdAt K 120).body, .stmts (bodySt Zbf)⟩,
 ⟨_, λ K => (fdAt K 120).closure, []⟩,
 ⟨_, λ K => (fdAt K 120).scope, scopeSt Zbf⟩,
 ⟨_, λ K => (fdAt K 120).params, paramsSt Zbf⟩,
 ⟨_, λ K => (fdAt K 120).globals, mainGlobals⟩,
 ⟨_, λ K => (fdAt K 120).builtins, builtinsNs⟩,
 ⟨_, λ K => (fdAt K 120).defaults, Value.none⟩,
 ⟨_, λ K => isFunc K 146, true⟩,
 ⟨_, λ K => codeIn K (fdAt K 146).code (fdAt K 146).qualname, true⟩,
 ⟨_, λ K => (fdAt K 146).body, .stmts (bodySt Zac)⟩,
 ⟨_, λ K => (fdAt K 146).closure, []⟩,
 ⟨_, λ K => (fdAt K 146).scope, scopeSt Zac⟩,
 ⟨_, λ K => (fdAt K 146).params, paramsSt Zac⟩,
 ⟨_, λ K => (fdAt K 146).globals, mainGlobals⟩,
 ⟨_, λ K => (fdAt K 146).builtins, builtinsNs⟩,
 ⟨_, λ K => (fdAt K 146).defaults, Value.none⟩,
 ⟨_, λ K => isFunc K 151, true⟩,
 ⟨_, λ K => codeIn K (fdAt K 151).code (fdAt K 151).qualname, true⟩,
 ⟨_, λ K => (fdAt K 151).body, .stmts (bodySt Z5)⟩,
 ⟨_, λ K => (fdAt K 151).closure, []⟩,
 ⟨_, λ K => (fdAt K 151).scope, scopeSt Z5⟩,
 ⟨_, λ K => (fdAt K 151).params, paramsSt Z5⟩,
 ⟨_, λ K => (fdAt K 151).globals, mainGlobals⟩,
 ⟨_, λ K => (fdAt K 151).builtins, builtinsNs⟩,
 ⟨_, λ K => (fdAt K 151).defaults, Value.none⟩,
 ⟨_, λ K => isFunc K 158, true⟩,
 ⟨_, λ K => codeIn K (fdAt K 158).code (fdAt K 158).qualname, true⟩,
 ⟨_, λ K => (fdAt K 158).body, .stmts (bodySt Zad)⟩,
 ⟨_, λ K => (fdAt K 158).closure, []⟩,
 ⟨_, λ K => (fdAt K 158).scope, scopeSt Zad⟩,
 ⟨_, λ K => (fdAt K 158).params, paramsSt Zad⟩,
 ⟨_, λ K => (fdAt K 158).globals, mainGlobals⟩,
 ⟨_, λ K => (fdAt K 158).builtins, builtinsNs⟩,
 ⟨_, λ K => (fdAt K 158).defaults, Value.none⟩,
 ⟨_, λ K => isFunc K 163, true⟩,
 ⟨_, λ K => codeIn K (fdAt K 163).code (fdAt K 163).qualname, true⟩,
 ⟨_, λ K => (fdAt K 163).body, .stmts (bodySt Zb6)⟩,
 ⟨_, λ K => (fdAt K 163).closure, []⟩,
 ⟨_, λ K => (fdAt K 163).scope, scopeSt Zb6⟩,
 ⟨_, λ K => (fdAt K 163).params, paramsSt Zb6⟩,
 ⟨_, λ K => (fdAt K 163).globals, mainGlobals⟩,
 ⟨_, λ K => (fdAt K 163).builtins, builtinsNs⟩,
 ⟨_, λ K => (fdAt K 163).defaults, Value.none⟩,
 ⟨_, λ K => findIn K (.ref 137) ("_get_nodeinfo" : Str), some (some (Value.ref 80))⟩,
 ⟨_, λ K => typeIn K (.ref 80), some (Value.type "function")⟩,
 ⟨_, λ K => findIn K (.ref 137) "__getattribute__", (some (some (.builtin "object.__getattribute__")) : Option (Option Value))⟩,
 ⟨_, λ K => findIn K (.ref 137) "__getattr__", some none⟩,
 ⟨_, λ K => (clsIn K 137).any (·.hasDict), true⟩,
 ⟨_, λ K => specialIn K (.ref 80) "__get__", some (some (Value.builtin "function.__get__"))⟩,
 ⟨_, λ K => takesIn K (.ref 80), some false⟩,
 ⟨_, λ K => findIn K (.ref 137) ("add" : Str), some (some (Value.ref 87))⟩,
 ⟨_, λ K => typeIn K (.ref 87), some (Value.type "function")⟩,
 ⟨_, λ K => specialIn K (.ref 87) "__get__", some (some (Value.builtin "function.__get__"))⟩,
 ⟨_, λ K => takesIn K (.ref 87), some false⟩,
 ⟨_, λ K => findIn K (.ref 137) ("_find_cycle" : Str), some (some (Value.ref 127))⟩,
 ⟨_, λ K => typeIn K (.ref 127), some (Value.type "function")⟩,
 ⟨_, λ K => specialIn K (.ref 127) "__get__", some (some (Value.builtin "function.__get__"))⟩,
 ⟨_, λ K => takesIn K (.ref 127), some false⟩,
 ⟨_, λ K => findIn K (.ref 137) ("prepare" : Str), some (some (Value.ref 92))⟩,
 ⟨_, λ K => typeIn K (.ref 92), some (Value.type "function")⟩,
 ⟨_, λ K => specialIn K (.ref 92) "__get__", some (some (Value.builtin "function.__get__"))⟩,
 ⟨_, λ K => takesIn K (.ref 92), some false⟩,
 ⟨_, λ K => findIn K (.ref 137) ("get_ready" : Str), some (some (Value.ref 99))⟩,
 ⟨_, λ K => typeIn K (.ref 99), some (Value.type "function")⟩,
 ⟨_, λ K => specialIn K (.ref 99) "__get__", some (some (Value.builtin "function.__get__"))⟩,
 ⟨_, λ K => takesIn K (.ref 99), some false⟩,
 ⟨_, λ K => findIn K (.ref 137) ("is_active" : Str), some (some (Value.ref 106))⟩,
 ⟨_, λ K => typeIn K (.ref 106), some (Value.type "function")⟩,
 ⟨_, λ K => specialIn K (.ref 106) "__get__", some (some (Value.builtin "function.__get__"))⟩,
 ⟨_, λ K => takesIn K (.ref 106), some false⟩,
 ⟨_, λ K => findIn K (.ref 137) ("done" : Str), some (some (Value.ref 120))⟩,
 ⟨_, λ K => typeIn K (.ref 120), some (Value.type "function")⟩,
 ⟨_, λ K => specialIn K (.ref 120) "__get__", some (some (Value.builtin "function.__get__"))⟩,
 ⟨_, λ K => takesIn K (.ref 120), some false⟩,
 ⟨_, λ K => nsIn K mainGlobals ("_law_drawn" : Str), some (some (Value.ref 146))⟩,
 ⟨_, λ K => nsIn K mainGlobals ("_law_rounds" : Str), some (some (Value.ref 151))⟩,
 ⟨_, λ K => nsIn K mainGlobals ("_law_graph" : Str), some (some (Value.ref 158))⟩,
 ⟨_, λ K => nsIn K mainGlobals ("law" : Str), some (some (Value.ref 163))⟩,
 ⟨_, λ K => findIn K (.ref 137) ("_nfinished" : Str), some none⟩,
 ⟨_, λ K => plainOver K 137, true⟩,
 ⟨_, λ K => takerIn K 137 ("_nfinished" : Str), some none⟩,
 ⟨_, λ K => findIn K (.ref 137) "__setattr__", some (some (Value.builtin "object.__setattr__"))⟩,
 ⟨_, λ K => findIn K (.ref 137) ("_node2info" : Str), some none⟩,
 ⟨_, λ K => takerIn K 137 ("_node2info" : Str), some none⟩,
 ⟨_, λ K => findIn K (.ref 137) ("_npassedout" : Str), some none⟩,
 ⟨_, λ K => takerIn K 137 ("_npassedout" : Str), some none⟩,
 ⟨_, λ K => findIn K (.ref 137) ("_ready_nodes" : Str), some none⟩,
 ⟨_, λ K => takerIn K 137 ("_ready_nodes" : Str), some none⟩,
 ⟨_, λ K => λ od => findObj K 40 od ("node" : Str), λ _ => some (.bind (.builtin "member_descriptor.__get__") (.ref 41))⟩,
 ⟨_, λ K => slotIn K 41 40, some 0⟩,
 ⟨_, λ K => takerIn K 40 ("node" : Str), some (some (Value.ref 41))⟩,
 ⟨_, λ K => typeIn K (.ref 41), some (Value.type "member_descriptor")⟩,
 ⟨_, λ K => findIn K (.ref 40) "__getattribute__", (some (some (.builtin "object.__getattribute__")) : Option (Option Value))⟩,
 ⟨_, λ K => findIn K (.ref 40) "__getattr__", some none⟩,
 ⟨_, λ K => plainOver K 40, true⟩,
 ⟨_, λ K => findIn K (.ref 40) "__setattr__", some (some (Value.builtin "object.__setattr__"))⟩,
 ⟨_, λ K => λ od => findObj K 40 od ("npredecessors" : Str), λ _ => some (.bind (.builtin "member_descriptor.__get__") (.ref 42))⟩,
 ⟨_, λ K => slotIn K 42 40, some 1⟩,
 ⟨_, λ K => takerIn K 40 ("npredecessors" : Str), some (some (Value.ref 42))⟩,
 ⟨_, λ K => typeIn K (.ref 42), some (Value.type "member_descriptor")⟩,
 ⟨_, λ K => λ od => findObj K 40 od ("successors" : Str), λ _ => some (.bind (.builtin "member_descriptor.__get__") (.ref 43))⟩,
 ⟨_, λ K => slotIn K 43 40, some 2⟩,
 ⟨_, λ K => takerIn K 40 ("successors" : Str), some (some (Value.ref 43))⟩,
 ⟨_, λ K => typeIn K (.ref 43), some (Value.type "member_descriptor")⟩,
 ⟨_, λ K => nsIn K mainGlobals ("_NodeInfo" : Str), some (some (Value.ref 40))⟩,
 ⟨_, λ K => nsIn K mainGlobals ("TopologicalSorter" : Str), some (some (Value.ref 137))⟩,
 ⟨_, λ K => makesIn K 40, true⟩,
 ⟨_, λ K => findIn K (.ref 40) "__init__", some (some (Value.ref 36))⟩,
 ⟨_, λ K => typeIn K (.ref 36), some (Value.type "function")⟩,
 ⟨_, λ K => keepIn K (.ref 40), true⟩,
 ⟨_, λ K => makesIn K 137, true⟩,
 ⟨_, λ K => findIn K (.ref 137) "__init__", some (some (Value.ref 73))⟩,
 ⟨_, λ K => typeIn K (.ref 73), some (Value.type "function")⟩,
 ⟨_, λ K => keepIn K (.ref 137), true⟩,
 ⟨_, λ K => exmOne K (.type "StopIteration") (.type "StopIteration"), some true⟩,
 ⟨_, λ K => exmOne K (.type "ValueError") (.type "StopIteration"), some false⟩,
 ⟨_, λ K => nsIn K mainGlobals ("_NODE_OUT" : Str), some (some (Value.int (-1) 197))⟩,
 ⟨_, λ K => nsIn K mainGlobals ("_NODE_DONE" : Str), some (some (Value.int (-2) 200))⟩,
 ⟨_, λ K => buiNames.all λ x => match nsIn K mainGlobals x with | some none => true | _ => false, true⟩]
noncomputable def seenAt3 : List Addr := [2, 3, 15, 17, 18, 20, 21, 29, 30, 32, 33, 35, 36, 37, 39, 40, 41, 42, 43, 46, 53, 54, 55, 56, 66, 67, 69, 70, 72, 73, 74, 76, 77, 79, 80, 81, 83, 84, 86, 87, 88, 91, 92, 93, 95, 96, 98, 99, 100, 102, 103, 105, 106, 107, 109, 110, 112, 113, 114, 116, 117, 119, 120, 121, 123, 124, 126, 127, 128, 130, 131, 133, 134, 135, 136, 137, 138, 139, 142, 145, 146, 147, 150, 151, 152, 154, 155, 157, 158, 159, 162, 163]
noncomputable abbrev zz3 : Fa := ⟨36, 80, 87, 73, 127, 92, 99, 106, 120, 146, 151, 158, 163⟩
theorem facts3 {c : Cx} (e : obsL c.K seen3 = obsR seen3) : Facts c d zz3 := {
 f_ni_init := Zaj (Za e 0 _ rfl) (Za e 1 _ rfl) (Za e 2 _ rfl) (Za e 3 _ rfl) (Za e 4 _ rfl) (by kernel_rfl) (by kernel_rfl) (by kernel_rfl) (Za e 5 _ rfl) (Za e 6 _ rfl) (Za e 7 _ rfl) (Za e 8 _ rfl)
 f_get_info := Zaj (Za e 9 _ rfl) (Za e 10 _ rfl) (Za e 11 _ rfl) (Za e 12 _ rfl) (Za e 13 _ rfl) (by kernel_rfl) (by kernel_rfl) (by kernel_rfl) (Za e 14 _ rfl) (Za e 15 _ rfl) (Za e 16 _ rfl) (Za e 17 _ rfl)
 f_add := Zaj (Za e 18 _ rfl) (Za e 19 _ rfl) (Za e 20 _ rfl) (Za e 21 _ rfl) (Za e 22 _ rfl) (by kernel_rfl) (by kernel_rfl) (by kernel_rfl) (Za e 23 _ rfl) (Za e 24 _ rfl) (Za e 25 _ rfl) (Za e 26 _ rfl)
 f_ts_init := Zaj (Za e 27 _ rfl) (Za e 28 _ rfl) (Za e 29 _ rfl) (Za e 30 _ rfl) (Za e 31 _ rfl) (by kernel_rfl) (by kernel_rfl) (by kernel_rfl) (Za e 32 _ rfl) (Za e 33 _ rfl) (Za e 34 _ rfl) ⟨66, 0, (Za e 36 _ rfl), (Za e 35 _ rfl)⟩
 f_find := Zaj (Za e 37 _ rfl) (Za e 38 _ rfl) (Za e 39 _ rfl) (Za e 40 _ rfl) (Za e 41 _ rfl) (by kernel_rfl) (by kernel_rfl) (by kernel_rfl) (Za e 42 _ rfl) (Za e 43 _ rfl) (Za e 44 _ rfl) (Za e 45 _ rfl)
 f_prepare := Zaj (Za e 46 _ rfl) (Za e 47 _ rfl) (Za e 48 _ rfl) (Za e 49 _ rfl) (Za e 50 _ rfl) (by kernel_rfl) (by kernel_rfl) (by kernel_rfl) (Za e 51 _ rfl) (Za e 52 _ rfl) (Za e 53 _ rfl) (Za e 54 _ rfl)
 f_get_ready := Zaj (Za e 55 _ rfl) (Za e 56 _ rfl) (Za e 57 _ rfl) (Za e 58 _ rfl) (Za e 59 _ rfl) (by kernel_rfl) (by kernel_rfl) (by kernel_rfl) (Za e 60 _ rfl) (Za e 61 _ rfl) (Za e 62 _ rfl) (Za e 63 _ rfl)
 f_is_active := Zaj (Za e 64 _ rfl) (Za e 65 _ rfl) (Za e 66 _ rfl) (Za e 67 _ rfl) (Za e 68 _ rfl) (by kernel_rfl) (by kernel_rfl) (by kernel_rfl) (Za e 69 _ rfl) (Za e 70 _ rfl) (Za e 71 _ rfl) (Za e 72 _ rfl)
 f_done := Zaj (Za e 73 _ rfl) (Za e 74 _ rfl) (Za e 75 _ rfl) (Za e 76 _ rfl) (Za e 77 _ rfl) (by kernel_rfl) (by kernel_rfl) (by kernel_rfl) (Za e 78 _ rfl) (Za e 79 _ rfl) (Za e 80 _ rfl) (Za e 81 _ rfl)
 f_law_drawn := Zaj (Za e 82 _ rfl) (Za e 83 _ rfl) (Za e 84 _ rfl) (Za e 85 _ rfl) (Za e 86 _ rfl) (by kernel_rfl) (by kernel_rfl) (by kernel_rfl) (Za e 87 _ rfl) (Za e 88 _ rfl) (Za e 89 _ rfl) (Za e 90 _ rfl)
 f_law_rounds := Zaj (Za e 91 _ rfl) (Za e 92 _ rfl) (Za e 93 _ rfl) (Za e 94 _ rfl) (Za e 95 _ rfl) (by kernel_rfl) (by kernel_rfl) (by kernel_rfl) (Za e 96 _ rfl) (Za e 97 _ rfl) (Za e 98 _ rfl) (Za e 99 _ rfl)
 f_law_graph := Zaj (Za e 100 _ rfl) (Za e 101 _ rfl) (Za e 102 _ rfl) (Za e 103 _ rfl) (Za e 104 _ rfl) (by kernel_rfl) (by kernel_rfl) (by kernel_rfl) (Za e 105 _ rfl) (Za e 106 _ rfl) (Za e 107 _ rfl) (Za e 108 _ rfl)
 f_law := Zaj (Za e 109 _ rfl) (Za e 110 _ rfl) (Za e 111 _ rfl) (Za e 112 _ rfl) (Za e 113 _ rfl) (by kernel_rfl) (by kernel_rfl) (by kernel_rfl) (Za e 114 _ rfl) (Za e 115 _ rfl) (Za e 116 _ rfl) (Za e 117 _ rfl)
 m_get_info := Za4 (Za e 118 _ rfl) (Za e 119 _ rfl) (Za e 120 _ rfl) (Za e 121 _ rfl) (Za e 122 _ rfl) (Za e 123 _ rfl) (Za e 124 _ rfl) (by kernel_rfl)
 m_add := Za4 (Za e 125 _ rfl) (Za e 126 _ rfl) (Za e 120 _ rfl) (Za e 121 _ rfl) (Za e 122 _ rfl) (Za e 127 _ rfl) (Za e 128 _ rfl) (by kernel_rfl)
 m_find := Za4 (Za e 129 _ rfl) (Za e 130 _ rfl) (Za e 120 _ rfl) (Za e 121 _ rfl) (Za e 122 _ rfl) (Za e 131 _ rfl) (Za e 132 _ rfl) (by kernel_rfl)
 m_prepare := Za4 (Za e 133 _ rfl) (Za e 134 _ rfl) (Za e 120 _ rfl) (Za e 121 _ rfl) (Za e 122 _ rfl) (Za e 135 _ rfl) (Za e 136 _ rfl) (by kernel_rfl)
 m_get_ready := Za4 (Za e 137 _ rfl) (Za e 138 _ rfl) (Za e 120 _ rfl) (Za e 121 _ rfl) (Za e 122 _ rfl) (Za e 139 _ rfl) (Za e 140 _ rfl) (by kernel_rfl)
 m_is_active := Za4 (Za e 141 _ rfl) (Za e 142 _ rfl) (Za e 120 _ rfl) (Za e 121 _ rfl) (Za e 122 _ rfl) (Za e 143 _ rfl) (Za e 144 _ rfl) (by kernel_rfl)
 m_done := Za4 (Za e 145 _ rfl) (Za e 146 _ rfl) (Za e 120 _ rfl) (Za e 121 _ rfl) (Za e 122 _ rfl) (Za e 147 _ rfl) (Za e 148 _ rfl) (by kernel_rfl)
 g_law_drawn := (Za e 149 _ rfl)
 g_law_rounds := (Za e 150 _ rfl)
 g_law_graph := (Za e 151 _ rfl)
 g_law := (Za e 152 _ rfl)
 n_nfinished := ⟨(Za e 153 _ rfl), (Za e 122 _ rfl), (Za e 120 _ rfl)⟩
 o_nfinished := ⟨(Za e 154 _ rfl), (Za e 122 _ rfl), (Za e 155 _ rfl), (Za e 156 _ rfl)⟩
 n_node2info := ⟨(Za e 157 _ rfl), (Za e 122 _ rfl), (Za e 120 _ rfl)⟩
 o_node2info := ⟨(Za e 154 _ rfl), (Za e 122 _ rfl), (Za e 158 _ rfl), (Za e 156 _ rfl)⟩
 n_npassedout := ⟨(Za e 159 _ rfl), (Za e 122 _ rfl), (Za e 120 _ rfl)⟩
 o_npassedout := ⟨(Za e 154 _ rfl), (Za e 122 _ rfl), (Za e 160 _ rfl), (Za e 156 _ rfl)⟩
 n_ready_nodes := ⟨(Za e 161 _ rfl), (Za e 122 _ rfl), (Za e 120 _ rfl)⟩
 o_ready_nodes := ⟨(Za e 154 _ rfl), (Za e 122 _ rfl), (Za e 162 _ rfl), (Za e 156 _ rfl)⟩
 s_node := ⟨⟨⟨41, λ od => congrFun (Za e 163 _ rfl) od, (Za e 164 _ rfl), (Za e 165 _ rfl), (Za e 166 _ rfl)⟩, (Za e 167 _ rfl), (Za e 168 _ rfl)⟩, (Za e 169 _ rfl), (Za e 170 _ rfl)⟩
 s_npredecessors := ⟨⟨⟨42, λ od => congrFun (Za e 171 _ rfl) od, (Za e 172 _ rfl), (Za e 173 _ rfl), (Za e 174 _ rfl)⟩, (Za e 167 _ rfl), (Za e 168 _ rfl)⟩, (Za e 169 _ rfl), (Za e 170 _ rfl)⟩
 s_successors := ⟨⟨⟨43, λ od => congrFun (Za e 175 _ rfl) od, (Za e 176 _ rfl), (Za e 177 _ rfl), (Za e 178 _ rfl)⟩, (Za e 167 _ rfl), (Za e 168 _ rfl)⟩, (Za e 169 _ rfl), (Za e 170 _ rfl)⟩
 g_NI := (Za e 179 _ rfl)
 g_TS := (Za e 180 _ rfl)
 mk_NI := ⟨(Za e 181 _ rfl), (Za e 182 _ rfl), (Za e 183 _ rfl), (Za e 184 _ rfl)⟩
 mk_TS := ⟨(Za e 185 _ rfl), (Za e 186 _ rfl), (Za e 187 _ rfl), (Za e 188 _ rfl)⟩
 c_StopIteration := Zna (Za e 189 _ rfl) (Za e 190 _ rfl)
 node_out := ⟨197, (Za e 191 _ rfl)⟩
 node_done := ⟨200, (Za e 192 _ rfl)⟩
 bui := Zsy (Za e 193 _ rfl)
 }
end Mine
namespace Mine
open PySem PySem.W PyProof.Rows

inductive Ex1 (f : PV -> List PV) (p : List MO -> Prop) : St -> Prop
 | mk {a : PV} {hp : List MO} (h : p hp) : Ex1 f p ⟨f a, hp⟩
inductive Ex2 (f : PV -> PV -> List PV) (p : List MO -> Prop) : St -> Prop
 | mk {a b : PV} {hp : List MO} (h : p hp) : Ex2 f p ⟨f a b, hp⟩
inductive Ex3 (f : PV -> PV -> PV -> List PV) (p : List MO -> Prop) : St -> Prop
 | mk {a b c : PV} {hp : List MO} (h : p hp) : Ex3 f p ⟨f a b c, hp⟩
inductive Ex4 (f : PV -> PV -> PV -> PV -> List PV) (p : List MO -> Prop) : St -> Prop
 | mk {a b c d : PV} {hp : List MO} (h : p hp) : Ex4 f p ⟨f a b c d, hp⟩
inductive Ex5 (f : PV -> PV -> PV -> PV -> PV -> List PV) (p : List MO -> Prop) : St -> Prop
 | mk {a b c d e : PV} {hp : List MO} (h : p hp) : Ex5 f p ⟨f a b c d e, hp⟩
noncomputable def uq : PV -> Bool
 | .undef => true
 | _ => false
theorem und {v : PV} (h : uq v = false) : v ≠ .undef := λ e => by subst e; cases h
noncomputable def mt : MO -> Nat
 | .lst _ => 0
 | .dct _ _ => 1
 | .set _ => 2
 | .ins _ _ => 3
 | .ns _ => 4
 | .slt _ _ _ => 5
 | .itr _ _ => 6
 | .dead => 7
theorem mn {x y : MO} (h : Nat.beq (mt x) (mt y) = false) : x ≠ y := λ e => by subst e; rw [Nat.beq_refl] at h; cases h
def Wp0 {α : Type} (f : PM α) (μ : St) (Q : α -> St -> Prop) (E : Value -> St -> Prop) : Prop := match f μ with
 | .ok a μ' => Q a μ'
 | .exc x μ' => E x μ'
 | .bad => False
inductive Wp {α : Type} (f : PM α) (μ : St) (Q : α -> St -> Prop) (E : Value -> St -> Prop) : Prop
 | mk (h : Wp0 f μ Q E) : Wp f μ Q E
theorem Wp.get {α : Type} {f : PM α} {μ : St} {Q : α -> St -> Prop} {E : Value -> St -> Prop} (h : Wp f μ Q E) : Wp0 f μ Q E := by cases h with | mk h => exact h
section
variable {α β : Type} {μ : St} {Q : α -> St -> Prop} {E : Value -> St -> Prop}
theorem Wp.C {f : PM β} {g : β -> PM α} (h : Wp f μ (λ b μ' => Wp (g b) μ' Q E) E) : Wp (f >>= g) μ Q E := by
 refine .mk ?_
 have h := h.get
 unfold Wp0 at h ⊢
 rw [PM.B]
 cases e : f μ with
 | ok a μ' => rw [e] at h; exact h.get
 | exc x μ' => rw [e] at h; exact h
 | bad => rw [e] at h; exact h
theorem Wp.mono {f : PM α} {Q' : α -> St -> Prop} {E' : Value -> St -> Prop} (h : Wp f μ Q E) (hQ : ∀ a μ', Q a μ' -> Q' a μ') (hE : ∀ x μ', E x μ' -> E' x μ') : Wp f μ Q' E' := by
 refine .mk ?_
 have h := h.get
 unfold Wp0 at h ⊢
 cases e : f μ with
 | ok a μ' => rw [e] at h; exact hQ _ _ h
 | exc x μ' => rw [e] at h; exact hE _ _ h
 | bad => rw [e] at h; exact h
theorem Wp.L {a : α} (h : Q a μ) : Wp (Pure.pure a : PM α) μ Q E := .mk h
theorem Wp.run {f : PM α} (h : Wp f μ Q λ _ _ => False) : ∃ a μ', f μ = .ok a μ' ∧ Q a μ' := by
 have h := h.get
 unfold Wp0 at h
 cases e : f μ with
 | ok a μ' => rw [e] at h; exact ⟨a, μ', rfl, h⟩
 | exc x μ' => rw [e] at h; exact h.elim
 | bad => rw [e] at h; exact h.elim
theorem Wp.J {f : PM α} {a : α} {μ' : St} (e : f μ = .ok a μ') (h : Q a μ') : Wp f μ Q E := by refine .mk ?_; unfold Wp0; rw [e]; exact h
theorem Wp.E0 {f g : PM α} (e : f μ = g μ) (h : Wp g μ Q E) : Wp f μ Q E := by
 refine .mk ?_
 have h := h.get
 unfold Wp0 at h ⊢
 rw [e]; exact h
theorem Wp.A9 {f : PM β} {g : β -> α} (h : Wp f μ (λ b μ' => Q (g b) μ') E) : Wp (f >>= λ b => Pure.pure (g b)) μ Q E := Wp.C (h.mono (λ _ _ h => Wp.L h) λ _ _ e => e)
end
section
variable {fr : List PV} {hp : List MO} {E : Value -> St -> Prop}
theorem Wp.B {k : Nat} {v : PV} {Q : PV -> St -> Prop} (e : fr[k]? = some v) (hv : uq v = false) (h : Q v ⟨fr, hp⟩) : Wp (Mine.getVar k) ⟨fr, hp⟩ Q E := by
 have hv := und hv
 refine Wp.J ?_ h
 unfold Mine.getVar
 try dsimp only
 rw [e]
 cases v <;> first | rfl | exact absurd rfl hv
theorem Wp.H {k : Nat} {v : PV} {Q : Unit -> St -> Prop} (h : Q () ⟨fr.set k v, hp⟩) : Wp (Mine.setVar k v) ⟨fr, hp⟩ Q E := .mk h
theorem Wp.A6 {b : Bool} {μ : St} {Q : Unit -> St -> Prop} (hb : b = true) (h : Q () μ) : Wp (Mine.chk b) μ Q E := by subst hb; exact .mk h
theorem Wp.E2 {i : Nat} {o : MO} {Q : Unit -> St -> Prop} (h : Q () ⟨fr, hp.set i o⟩) : Wp (Mine.putM i o) ⟨fr, hp⟩ Q E := .mk h
theorem Wp.Z {o : MO} {Q : Nat -> St -> Prop} (h : Q hp.length ⟨fr, hp ++ [o]⟩) : Wp (Mine.allocM o) ⟨fr, hp⟩ Q E := .mk h
noncomputable def SQ (b : PM MF) (Q : MF -> St -> Prop) (E : Value -> St -> Prop) : MF -> St -> Prop := λ f μ' => match f with | .next => Wp b μ' Q E | f => Q f μ'
noncomputable def IQ (a b : PM MF) (Q : MF -> St -> Prop) (E : Value -> St -> Prop) : Bool -> St -> Prop := λ x μ' => match x with | true => Wp a μ' Q E | false => Wp b μ' Q E
noncomputable def NQ {α : Type} (Q : MF -> St -> Prop) : α -> St -> Prop := λ _ μ' => Q .next μ'
noncomputable def AQ (a : PV -> PM Unit) (Q : MF -> St -> Prop) (E : Value -> St -> Prop) : PV -> St -> Prop := λ y μ' => Wp (a y) μ' (NQ Q) E
noncomputable def RQ (Q : MF -> St -> Prop) : PV -> St -> Prop := λ v μ' => Q (.ret v) μ'
noncomputable def CQ (fr : List PV) (Q : PV -> St -> Prop) : MF -> St -> Prop := λ f μ' => match f with | .ret v => Q v ⟨fr, μ'.hp⟩ | .next => Q .none ⟨fr, μ'.hp⟩ | _ => False
noncomputable def CX (fr : List PV) (E : Value -> St -> Prop) : Value -> St -> Prop := λ x μ' => E x ⟨fr, μ'.hp⟩
noncomputable def LQ (I : Nat -> St -> Prop) (k : Nat) (Q : MF -> St -> Prop) : MF -> St -> Prop := λ f μ'' => match f with
 | .next | .cont => I (k + 1) μ''
 | .brk => Q .next μ''
 | .ret v => Q (.ret v) μ''
noncomputable def BQ (body : PM MF) (I : Nat -> St -> Prop) (k : Nat) (Q : MF -> St -> Prop) (E : Value -> St -> Prop) : Unit -> St -> Prop := λ _ μ' => Wp body μ' (LQ I k Q) E
theorem Wp.I {a b : PM MF} {μ : St} {Q : MF -> St -> Prop} (h : Wp a μ (SQ b Q E) E) : Wp (sSeq a b) μ Q E := by
 unfold sSeq
 refine Wp.C (h.mono (λ f μ' hf => ?_) λ _ _ e => e)
 cases f <;> first | exact hf | exact Wp.mk hf
theorem Wp.N {μ : St} {Q : MF -> St -> Prop} (h : Q .next μ) : Wp sNext μ Q E := .mk h
theorem Wp.A2 {t : PM Bool} {a b : PM MF} {μ : St} {Q : MF -> St -> Prop} (h : Wp t μ (IQ a b Q E) E) : Wp (sIf t a b) μ Q E := by
 unfold sIf
 refine Wp.C (h.mono (λ x μ' hx => ?_) λ _ _ e => e)
 cases x <;> exact hx
theorem Wp.S {f : PM PV} {a : PV -> PM Unit} {μ : St} {Q : MF -> St -> Prop} (h : Wp f μ (AQ a Q E) E) : Wp (sAsg f a) μ Q E := Wp.C (h.mono (λ _ _ h => Wp.A9 h) λ _ _ e => e)
theorem Wp.asg2 {f : PM PV} {a a' : PV -> PM Unit} {μ : St} {Q : MF -> St -> Prop} (h : Wp f μ (λ y μ' => Wp (a y) μ' (λ _ μ'' => Wp (a' y) μ'' (λ _ μ3 => Q .next μ3) E) E) E) : Wp (sAsg2 f a a') μ Q E :=
 Wp.C (h.mono (λ _ _ h => Wp.C (h.mono (λ _ _ h => Wp.A9 h) λ _ _ e => e)) λ _ _ e => e)
theorem Wp.A8 {f : PM PV} {μ : St} {Q : MF -> St -> Prop} (h : Wp f μ (NQ Q) E) : Wp (sExpr f) μ Q E := Wp.A9 h
theorem Wp.D3 {f : PM PV} {μ : St} {Q : MF -> St -> Prop} (h : Wp f μ (RQ Q) E) : Wp (sRet f) μ Q E := Wp.A9 h
theorem Wp.A1 {frm : List PV -> Option (List PV)} {g : PM MF} {xs init : List PV} {Q : PV -> St -> Prop} (e : frm xs = some init)
  (h : Wp g ⟨init, hp⟩ (CQ fr Q) (CX fr E)) : Wp (Mine.callF frm g xs) ⟨fr, hp⟩ Q E := by
 unfold Mine.callF
 rw [e]
 refine .mk ?_
 have h := h.get
 unfold Wp0 callM at *
 try dsimp only at h ⊢
 cases e : g ⟨init, hp⟩ with
 | ok a μ' => rw [e] at h; cases a <;> exact h
 | exc x μ' => rw [e] at h; exact h
 | bad => rw [e] at h; exact h
theorem Wp.X {get : Nat -> St -> Option (Option PV)} {asg : PV -> PM Unit} {body : PM MF} {Q : MF -> St -> Prop} (I : Nat -> St -> Prop) (N : Nat)
  (h : ∀ k μ, I k μ -> k <= N -> (get k μ = some none ∧ Q .next μ) ∨ (k < N ∧ ∃ x, get k μ = some (some x) ∧ Wp (asg x) μ (BQ body I k Q E) E)) : ∀ (n k : Nat) (μ : St), N < n + k -> k <= N -> I k μ -> Wp (Mine.forIx get asg body n k) μ Q E := by
 intro n
 induction n with
 | zero => intro k μ hn hk _; lia
 | succ n ih =>
  intro k μ hn hk hi
  rcases h k μ hi hk with ⟨e, hq⟩ | ⟨hlt, x, e, hw⟩
  ·exact Wp.J (a := .next) (μ' := μ) (by simp only [Zez, e]) hq
  ·have : Wp (asg x >>= λ _ => body >>= flowM (Mine.forIx get asg body n (k + 1))) μ Q E := by
    refine Wp.C (hw.mono (λ _ μ' h => Wp.C (h.mono (λ f μ'' hf => ?_) λ _ _ e => e)) λ _ _ e => e)
    cases f with
    | next => exact ih (k + 1) μ'' (by lia) hlt hf
    | cont => exact ih (k + 1) μ'' (by lia) hlt hf
    | brk => exact Wp.mk hf
    | ret v => exact Wp.mk hf
   exact Wp.E0 (by simp only [Zez, e]) this
end

section
variable {fr : List PV} {hp : List MO} {E : Value -> St -> Prop}
theorem Wp.A3 {μ : St} {Q : List PV -> St -> Prop} (h : Q [] μ) : Wp (Pure.pure [] : PM (List PV)) μ Q E := (Wp.mk h)
theorem Wp.B9 {f : PM PV} {g : PM (List PV)} {μ : St} {Q : List PV -> St -> Prop} (h : Wp f μ (λ x μ' => Wp g μ' (λ xs μ'' => Q (x :: xs) μ'') E) E) : Wp (Mine.argC f g) μ Q E :=
 Wp.C (h.mono (λ _ _ h => Wp.A9 h) λ _ _ e => e)
theorem Wp.R {f : PM PV} {μ : St} {Q : List PV -> St -> Prop} (h : Wp f μ (λ x μ' => Q [x] μ') E) : Wp (Mine.argC f (Pure.pure [])) μ Q E := Wp.B9 (h.mono (λ _ _ h => Wp.A3 h) λ _ _ e => e)
theorem Wp.E7 {C : Addr} {o dn : Nat} {fs : List (Str × PV)} (h1 : hp[o]? = some (.ins C dn)) (h2 : hp[dn]? = some (.ns fs)) : Mine.ownNs C (.obj o) ⟨fr, hp⟩ = some (dn, fs) := by
 unfold Mine.ownNs
 try dsimp only
 rw [h1]
 try dsimp only
 rw [decide_eq_true rfl, h2]
theorem Wp.C5 {C : Addr} {o dn : Nat} {fs : List (Str × PV)} {name : Str} {x : PV} {Q : PV -> St -> Prop} (h1 : hp[o]? = some (.ins C dn)) (h2 : hp[dn]? = some (.ns fs)) (h3 : fs.lookup name = some x) (h4 : notRaw x = true) (h : Q x ⟨fr, hp⟩) : Wp (Mine.pAttr C name (.obj o)) ⟨fr, hp⟩ Q E := by
 refine Wp.J ?_ h
 unfold Mine.pAttr
 rw [Wp.E7 h1 h2]
 try dsimp only
 rw [h3]
 try dsimp only
 rw [h4]
theorem Wp.A0 {C : Addr} {o dn : Nat} {fs : List (Str × PV)} {name : Str} {y : PV} {Q : Unit -> St -> Prop} (h1 : hp[o]? = some (.ins C dn)) (h2 : hp[dn]? = some (.ns fs)) (h3 : fs.length <= 100) (h : Q () ⟨fr, hp.set dn (.ns (nsPut name y fs))⟩) : Wp (Mine.pSetAttr C name (.obj o) y) ⟨fr, hp⟩ Q E := by
 refine Wp.J ?_ h
 unfold Mine.pSetAttr
 rw [Wp.E7 h1 h2]
 try dsimp only
 rw [decide_eq_true h3]
theorem Wp.K1 {C : Addr} {o dn : Nat} {fs : List (Str × PV)} {name : Str} {Q : Unit -> St -> Prop} (h1 : hp[o]? = some (.ins C dn)) (h2 : hp[dn]? = some (.ns fs)) (h3 : fs.lookup name = none) (h : Q () ⟨fr, hp⟩) : Wp (Mine.isIns C name (.obj o)) ⟨fr, hp⟩ Q E := by
 refine Wp.J ?_ h
 unfold Mine.isIns
 rw [Wp.E7 h1 h2]
 try dsimp only
 rw [h3]
theorem Wp.B4 {C : Addr} {k i d : Nat} {fs : List (Option PV)} {x : PV} {Q : PV -> St -> Prop} (h1 : hp[i]? = some (.slt C d fs)) (h2 : (fs[k]?).join = some x) (h3 : notRaw x = true) (h : Q x ⟨fr, hp⟩) : Wp (Mine.pSlot C k (.obj i)) ⟨fr, hp⟩ Q E := by
 refine Wp.J ?_ h
 unfold Mine.pSlot
 try dsimp only
 rw [h1]
 try dsimp only
 rw [decide_eq_true rfl, h2]
 try dsimp only
 rw [h3]
theorem Wp.u {C : Addr} {k i d : Nat} {fs : List (Option PV)} {y : PV} {Q : Unit -> St -> Prop} (h1 : hp[i]? = some (.slt C d fs)) (hk : k < 100) (h : Q () ⟨fr, hp.set i (.slt C d ((fs ++ List.replicate (k + 1 - fs.length) none).set k (some y)))⟩) : Wp (Mine.pSetSlot C k (.obj i) y) ⟨fr, hp⟩ Q E := by
 refine Wp.J ?_ h
 unfold Mine.pSetSlot
 try dsimp only
 rw [h1]
 try dsimp only
 rw [decide_eq_true rfl, decide_eq_true hk]
theorem Wp.A5 {x : PV} {b : Bool} {μ : St} {Q : Bool -> St -> Prop} (e : Mine.isNone x = some b) (h : Q b μ) : Wp (pCmp .Is x .none) μ Q E := by
 refine Wp.J ?_ h
 show pIs x .none μ = _
 unfold pIs
 rw [e]
theorem Wp.E5 {f : PM Bool} {μ : St} {Q : Bool -> St -> Prop} (h : Wp f μ (λ b μ' => Q (!b) μ') E) : Wp (Mine.bNot f) μ Q E := Wp.A9 h
theorem Wp.A7 {x : PV} {b : Bool} {μ : St} {Q : Bool -> St -> Prop} (e : Mine.isNone x = some b) (h : Q (!b) μ) : Wp (pCmp .IsNot x .none) μ Q E := Wp.E5 (Wp.A5 e h)
theorem Wp.Y {op : CmpOp} {f g : PM PV} {μ : St} {Q : Bool -> St -> Prop} (h : Wp f μ (λ x μ' => Wp g μ' (λ y μ'' => Wp (pCmp op x y) μ'' Q E) E) E) : Wp (Mine.bCmp op f g) μ Q E := Wp.C (h.mono (λ _ _ h => Wp.C h) λ _ _ e => e)
theorem Wp.D0 {i j : Int} {μ : St} {Q : Bool -> St -> Prop} (h : Q (i == j) μ) : Wp (pCmp .Eq (.int i) (.int j)) μ Q E := Wp.J rfl h
theorem Wp.G5 {i j : Int} {μ : St} {Q : Bool -> St -> Prop} (h : Q (!(i == j)) μ) : Wp (pCmp .NotEq (.int i) (.int j)) μ Q E := Wp.E5 (Wp.D0 h)
theorem Wp.B5 {C : Addr} {name : Str} {fo : PM PV} {g : PM (List PV)} {k : List PV -> PM PV} {μ : St} {Q : PV -> St -> Prop} (h : Wp fo μ (λ x μ' => Wp (Mine.isIns C name x) μ' (λ _ μ'' => Wp g μ'' (λ ys μ3 => Wp (k (x :: ys)) μ3 Q E) E) E) E) : Wp (Mine.eMeth C name fo g k) μ Q E :=
 Wp.C (h.mono (λ _ _ h => Wp.C (h.mono (λ _ _ h => Wp.C h) λ _ _ e => e)) λ _ _ e => e)
theorem Wp.D9 {C : Addr} {name : Str} {f : PM PV} {μ : St} {Q : PV -> St -> Prop} (h : Wp f μ (λ x μ' => Wp (Mine.pAttr C name x) μ' Q E) E) : Wp (Mine.eAttr C name f) μ Q E := Wp.C h
theorem Wp.C2 {C : Addr} {k : Nat} {f : PM PV} {μ : St} {Q : PV -> St -> Prop} (h : Wp f μ (λ x μ' => Wp (Mine.pSlot C k x) μ' Q E) E) : Wp (Mine.eSlot C k f) μ Q E := Wp.C h
theorem Wp.B2 {ps : PV -> PV -> PM Unit} {g : PM PV} {y : PV} {μ : St} {Q : Unit -> St -> Prop} (h : Wp g μ (λ x μ' => Wp (ps x y) μ' Q E) E) : Wp (Mine.tAttr ps g y) μ Q E := Wp.C h
theorem Wp.E1 {g k : PM PV} {y : PV} {μ : St} {Q : Unit -> St -> Prop} (h : Wp g μ (λ x μ' => Wp k μ' (λ i μ'' => Wp (pSetItem x i y) μ'' Q E) E) E) : Wp (Mine.tSub g k y) μ Q E := Wp.C (h.mono (λ _ _ h => Wp.C h) λ _ _ e => e)
theorem Wp.f {g k : PM PV} {μ : St} {Q : PV -> St -> Prop} (h : Wp g μ (λ x μ' => Wp k μ' (λ i μ'' => Wp (pGet x i) μ'' Q E) E) E) : Wp (Mine.eSub g k) μ Q E := Wp.C (h.mono (λ _ _ h => Wp.C h) λ _ _ e => e)
theorem Wp.J3 {f : PM PV} {a : PV -> PM Unit} {μ : St} {Q : PV -> St -> Prop} (h : Wp f μ (λ y μ' => Wp (a y) μ' (λ _ μ'' => Q y μ'') E) E) : Wp (Mine.eWal f a) μ Q E := Wp.C (h.mono (λ _ _ h => Wp.A9 h) λ _ _ e => e)
theorem Wp.H4 {f : PM PV} {μ : St} {Q : PV -> St -> Prop} (h : Wp f μ (λ x μ' => ∃ i, x = .int i ∧ Q (.int (-i)) μ') E) : Wp (Mine.eNeg f) μ Q E := Wp.C (h.mono (λ x μ' ⟨i, e, h⟩ => by subst e; exact Wp.mk h) λ _ _ e => e)
theorem Wp.C4 {op : Operator} {g f : PM PV} {pg : PV -> PM PV} {ps : PV -> PV -> PM Unit} {μ : St} {Q : MF -> St -> Prop} (h : Wp g μ (λ x μ1 => Wp (pg x) μ1 (λ old μ2 => Wp f μ2 (λ v μ3 => Wp (pInp op old v) μ3 (λ new μ4 => Wp (ps x new) μ4 (λ _ μ5 => Q .next μ5) E) E) E) E) E) : Wp (sAugAttr op g pg ps f) μ Q E :=
 Wp.C (h.mono (λ _ _ h => Wp.C (h.mono (λ _ _ h => Wp.C (h.mono (λ _ _ h => Wp.C (h.mono (λ _ _ h => Wp.A9 h) λ _ _ e => e)) λ _ _ e => e)) λ _ _ e => e)) λ _ _ e => e)
theorem Wp.C8 {i j : Int} {μ : St} {Q : PV -> St -> Prop} (h : Q (.int (i + j)) μ) : Wp (pInp .Add (.int i) (.int j)) μ Q E := Wp.J rfl h
theorem Wp.I6 {i j : Int} {μ : St} {Q : PV -> St -> Prop} (h : Q (.int (i - j)) μ) : Wp (pInp .Sub (.int i) (.int j)) μ Q E := Wp.J rfl h
theorem Wp.B6 {f : PM PV} {μ : St} {Q : Bool -> St -> Prop} (h : Wp f μ (λ x μ' => Wp (pTruth x) μ' Q E) E) : Wp (Mine.bVal f) μ Q E := Wp.C h
theorem Wp.D8 {μ : St} {x : PV} {xs : List PV} {Q : List PV -> St -> Prop} (e : isLst μ.hp x = some xs ∨ x = .tup xs) (h : Q xs μ) : Wp (pItems x) μ Q E := by
 refine Wp.J ?_ h
 rcases e with e | rfl
 ·unfold isLst at e
  unfold pItems
  cases x <;> dsimp only at e ⊢ <;> first | (cases e; done) | skip
  ·cases e; rfl
  ·split at e
   ·cases e; rfl
   ·cases e
 ·rfl
theorem Wp.B0 {μ : St} {x : PV} {xs : List PV} {Q : PV -> St -> Prop} (e : isLst μ.hp x = some xs ∨ x = .tup xs) (hl : xs.length <= 1000000) (h : Q (.int xs.length) μ) : Wp (pLen [x]) μ Q E :=
 Wp.C (Wp.D8 e (Wp.C (Wp.A6 (decide_eq_true hl) (Wp.mk h))))
theorem Wp.H7 {μ : St} {x : PV} {xs : List PV} {Q : PV -> St -> Prop} (e : isLst μ.hp x = some xs ∨ x = .tup xs) (hl : xs.length <= 1000000) (h : Q (.tup xs) μ) : Wp (pTuple [x]) μ Q E :=
 Wp.C (Wp.D8 e (Wp.C (Wp.A6 (decide_eq_true hl) (Wp.mk h))))
theorem Wp.W {i : Nat} {xs : List PV} {Q : Nat × List PV -> St -> Prop} (e : hp[i]? = some (.lst xs)) (h : Q (i, xs) ⟨fr, hp⟩) : Wp (Mine.theLst (.obj i)) ⟨fr, hp⟩ Q E := by
 refine Wp.J ?_ h
 unfold Mine.theLst
 try dsimp only
 rw [e]
theorem Wp.l {i : Nat} {xs : List PV} {y : PV} {Q : PV -> St -> Prop} (e : hp[i]? = some (.lst xs)) (hl : xs.length <= 1000000) (h : Q .none ⟨fr, hp.set i (.lst (xs ++ [y]))⟩) : Wp (pAppend (.obj i) y) ⟨fr, hp⟩ Q E :=
 Wp.C (Wp.W e (Wp.C (Wp.A6 (decide_eq_true hl) (Wp.C (Wp.E2 (Wp.mk h))))))
theorem Wp.j {fo fe : PM PV} {μ : St} {Q : PV -> St -> Prop} (h : Wp fo μ (λ x μ1 => Wp (Mine.theLst x) μ1 (λ _ μ2 => Wp fe μ2 (λ y μ3 => Wp (pAppend x y) μ3 Q E) E) E) E) : Wp (Mine.mAppend fo fe) μ Q E :=
 Wp.C (h.mono (λ _ _ h => Wp.C (h.mono (λ _ _ h => Wp.C h) λ _ _ e => e)) λ _ _ e => e)
theorem Wp.I5 {fo : PM PV} {μ : St} {Q : PV -> St -> Prop} (h : Wp fo μ (λ x μ1 => ∃ i xs, x = .obj i ∧ μ1.hp[i]? = some (.lst xs) ∧ xs.length <= 1000000 ∧ Q .none ⟨μ1.fr, μ1.hp.set i (.lst [])⟩) E) : Wp (Mine.mClear fo) μ Q E :=
 Wp.C (h.mono (λ x μ1 hh => by
  obtain ⟨i, xs, e, e2, hl, h⟩ := hh
  subst e
  obtain ⟨fr, hp⟩ := μ1
  exact Wp.C (Wp.W e2 (Wp.C (Wp.W e2 (Wp.C (Wp.A6 (decide_eq_true hl) (Wp.C (Wp.E2 (Wp.mk h))))))))) λ _ _ e => e)
theorem Wp.D5 {i : Nat} {es : List (Int × PV)} {ep : Nat} {k : Int} {x : PV} {Q : PV -> St -> Prop} (e : hp[i]? = some (.dct es ep)) (hk : dGet es k = some x) (h : Q x ⟨fr, hp⟩) : Wp (pGet (.obj i) (.int k)) ⟨fr, hp⟩ Q E := by
 refine Wp.J ?_ h
 unfold pGet
 try dsimp only
 rw [e]
 try dsimp only
 rw [hk]
theorem Wp.B3 {i : Nat} {es : List (Int × PV)} {ep : Nat} {Q : Nat × List (Int × PV) -> St -> Prop} (e : hp[i]? = some (.dct es ep)) (h : Q (i, es) ⟨fr, hp⟩) : Wp (Mine.theDct (.obj i)) ⟨fr, hp⟩ Q E := by
 refine Wp.J ?_ h
 unfold Mine.theDct
 try dsimp only
 rw [e]
theorem Wp.E4 {fo : PM PV} {ga : PM (List PV)} {μ : St} {Q : PV -> St -> Prop} (h : Wp fo μ (λ x μ1 => Wp (Mine.theDct x) μ1 (λ _ μ2 => Wp ga μ2 (λ ys μ3 => Wp (pDictGet x ys) μ3 Q E) E) E) E) : Wp (mDictGet fo ga) μ Q E :=
 Wp.C (h.mono (λ _ _ h => Wp.C (h.mono (λ _ _ h => Wp.C h) λ _ _ e => e)) λ _ _ e => e)
theorem Wp.D4 {i : Nat} {es : List (Int × PV)} {ep : Nat} {k : Int} {Q : PV -> St -> Prop} (e : hp[i]? = some (.dct es ep)) (h : Q ((dGet es k).getD .none) ⟨fr, hp⟩) : Wp (Mine.pDictGet (.obj i) [.int k]) ⟨fr, hp⟩ Q E := Wp.C (Wp.B3 e (Wp.mk h))
end

set_option genInjectivity false in
structure TSt where
 order : List Int
 np : Int -> Int
 sc : Int -> List Int
 ready : Option (List Int)
 passed : Int
 fin : Int
set_option genInjectivity false in
structure Lay where
 dn : Nat
 n2i : Nat
 rn : Nat
 ep : Nat
 li : Int -> Nat
 ls : Int -> Nat
 dx : Int -> Nat
noncomputable def upd {α : Type} (f : Int -> α) (a : Int) (x : α) : Int -> α := λ b => if b = a then x else f b
theorem Zu {α : Type} {f : Int -> α} {a : Int} {x : α} : upd f a x a = x := by unfold upd; rw [if_pos rfl]
theorem Z2 {α : Type} {f : Int -> α} {a b : Int} {x : α} (h : b ≠ a) : upd f a x b = f b := by unfold upd; rw [if_neg h]
noncomputable def nsTS (n r : PV) (p q : Int) : List (Str × PV) := [(("_node2info" : Str), n), (("_ready_nodes" : Str), r), (("_npassedout" : Str), .int p), (("_nfinished" : Str), .int q)]
noncomputable def rdy (T : TSt) (ly : Lay) : PV := match T.ready with
 | none => .none
 | some _ => .obj ly.rn
section
variable {n r x : PV} {p q z : Int}
theorem ns_n : (nsTS n r p q).lookup ("_node2info" : Str) = some n := by kernel_rfl
theorem ns_r : (nsTS n r p q).lookup ("_ready_nodes" : Str) = some r := by kernel_rfl
theorem ns_p : (nsTS n r p q).lookup ("_npassedout" : Str) = some (.int p) := by kernel_rfl
theorem ns_q : (nsTS n r p q).lookup ("_nfinished" : Str) = some (.int q) := by kernel_rfl
theorem put_r : nsPut ("_ready_nodes" : Str) x (nsTS n r p q) = nsTS n x p q := by kernel_rfl
theorem put_p : nsPut ("_npassedout" : Str) (.int z) (nsTS n r p q) = nsTS n r z q := by kernel_rfl
theorem put_q : nsPut ("_nfinished" : Str) (.int z) (nsTS n r p q) = nsTS n r p z := by kernel_rfl
theorem Zr9 (x : Str) (h : ([("_node2info" : Str), "_ready_nodes", "_npassedout", "_nfinished"].contains x) = false) : (nsTS n r p q).lookup x = none := by
 simp only [List.contains_cons, List.contains_nil, Bool.or_false, Bool.or_eq_false_iff] at h
 unfold nsTS
 simp only [lookup_cons, h.1, h.2.1, h.2.2.1, h.2.2.2, List.lookup_nil]
end
structure SAt (d : Ad) (hp : List MO) (o : Nat) (T : TSt) (ly : Lay) : Prop where
 ins : hp[o]? = some (.ins d.TS ly.dn)
 ns : hp[ly.dn]? = some (.ns (nsTS (.obj ly.n2i) (rdy T ly) T.passed T.fin))
 dct : hp[ly.n2i]? = some (.dct (T.order.map λ a => (a, .obj (ly.li a))) ly.ep)
 rd : ∀ xs, T.ready = some xs -> hp[ly.rn]? = some (.lst (xs.map .int))
 inf : ∀ a ∈ T.order, hp[ly.li a]? = some (.slt d.NI (ly.dx a) [some (.int a), some (.int (T.np a)), some (.obj (ly.ls a))])
 suc : ∀ a ∈ T.order, hp[ly.ls a]? = some (.lst ((T.sc a).map .int))
 lsi : ∀ a ∈ T.order, ∀ b ∈ T.order, ly.ls a = ly.ls b -> a = b
 rls : T.ready ≠ none -> ∀ a ∈ T.order, ly.ls a ≠ ly.rn
 ond : T.order.Nodup
def Fp (o : Nat) (T : TSt) (ly : Lay) (i : Nat) : Prop := i = o ∨ i = ly.dn ∨ i = ly.n2i ∨ (T.ready ≠ none ∧ i = ly.rn) ∨ ∃ a ∈ T.order, i = ly.li a ∨ i = ly.ls a
section
variable {hp hp' : List MO} {o : Nat} {T : TSt} {ly : Lay}
theorem SAt.keep (S : SAt d hp o T ly) (h : ∀ i, Fp o T ly i -> hp'[i]? = hp[i]?) : SAt d hp' o T ly :=
 ⟨(h o (.inl rfl)).trans S.ins, (h _ (.inr (.inl rfl))).trans S.ns, (h _ (.inr (.inr (.inl rfl)))).trans S.dct, λ xs e => (h _ (.inr (.inr (.inr (.inl ⟨(by rw [e]; exact Option.some_ne_none _), rfl⟩))))).trans (S.rd xs e),
  λ a ha => (h _ (.inr (.inr (.inr (.inr ⟨a, ha, .inl rfl⟩))))).trans (S.inf a ha), λ a ha => (h _ (.inr (.inr (.inr (.inr ⟨a, ha, .inr rfl⟩))))).trans (S.suc a ha), S.lsi, S.rls, S.ond⟩
theorem Zf {i j : Nat} {v x y : MO} (hi : hp[i]? = some x) (hj : hp[j]? = some y) (hne : x ≠ y) : (hp.set i v)[j]? = some y := by
 rw [List.getElem?_set_ne (λ e => by subst e; rw [hi] at hj; exact hne (Option.some.inj hj))]
 exact hj
theorem Zj {i j : Nat} {v y : MO} (h : i ≠ j) (hj : hp[j]? = some y) : (hp.set i v)[j]? = some y := by rw [List.getElem?_set_ne h]; exact hj
theorem Zm {i : Nat} {v x : MO} (hi : hp[i]? = some x) : (hp.set i v)[i]? = some v := List.getElem?_set_self (Qgl hi)
theorem SAt.setNs (S : SAt d hp o T ly) (p q : Int) : SAt d (hp.set ly.dn (.ns (nsTS (.obj ly.n2i) (rdy T ly) p q))) o { T with passed := p, fin := q } ly :=
 ⟨Zf S.ns S.ins (mn rfl), Zm S.ns, Zf S.ns S.dct (mn rfl), λ xs e => Zf S.ns (S.rd xs e) (mn rfl), λ a ha => Zf S.ns (S.inf a ha) (mn rfl), λ a ha => Zf S.ns (S.suc a ha) (mn rfl), S.lsi, S.rls, S.ond⟩
theorem SAt.setRd (S : SAt d hp o T ly) {xs : List Int} (e : T.ready = some xs) (ys : List Int) : SAt d (hp.set ly.rn (.lst (ys.map .int))) o { T with ready := some ys } ly := by
 have hr := S.rd xs e
 have hn : T.ready ≠ none := by rw [e]; exact Option.some_ne_none _
 have e1 : rdy { T with ready := some ys } ly = rdy T ly := by unfold rdy; rw [e]
 exact ⟨Zf hr S.ins (mn rfl), by rw [e1]; exact Zf hr S.ns (mn rfl), Zf hr S.dct (mn rfl), λ zs ez => by cases ez; exact Zm hr, λ a ha => Zf hr (S.inf a ha) (mn rfl),
  λ a ha => Zj (Ne.symm (S.rls hn a ha)) (S.suc a ha), S.lsi, λ _ => S.rls hn, S.ond⟩
theorem SAt.setNp (S : SAt d hp o T ly) {a : Int} (ha : a ∈ T.order) (z : Int) : SAt d (hp.set (ly.li a) (.slt d.NI (ly.dx a) [some (.int a), some (.int z), some (.obj (ly.ls a))])) o { T with np := upd T.np a z } ly := by
 have hi := S.inf a ha
 refine ⟨Zf hi S.ins (mn rfl), Zf hi S.ns (mn rfl), Zf hi S.dct (mn rfl), λ xs e => Zf hi (S.rd xs e) (mn rfl), λ b hb => ?_, λ b hb => Zf hi (S.suc b hb) (mn rfl), S.lsi, S.rls, S.ond⟩
 by_cases e : b = a
 ·subst e; show _ = some (MO.slt _ _ [_, some (PV.int (upd T.np b z b)), _]); rw [Zu]; exact Zm hi
 ·show _ = some (MO.slt _ _ [_, some (PV.int (upd T.np a z b)), _]); rw [Z2 e]
  refine Zf hi (S.inf b hb) λ h => e ?_
  injection h with _ _ h
  injection h with h
  injection h with h
  injection h with h
  exact h.symm
theorem SAt.setSc (S : SAt d hp o T ly) {a : Int} (ha : a ∈ T.order) (ys : List Int) : SAt d (hp.set (ly.ls a) (.lst (ys.map .int))) o { T with sc := upd T.sc a ys } ly := by
 have hi := S.suc a ha
 refine ⟨Zf hi S.ins (mn rfl), Zf hi S.ns (mn rfl), Zf hi S.dct (mn rfl), λ xs e => ?_, λ b hb => Zf hi (S.inf b hb) (mn rfl), λ b hb => ?_, S.lsi, S.rls, S.ond⟩
 ·exact Zj (S.rls (by rw [show T.ready = some xs from e]; exact Option.some_ne_none _) a ha) (S.rd xs e)
 ·by_cases e : b = a
  ·subst e; show _ = some (MO.lst ((upd T.sc b ys b).map PV.int)); rw [Zu]; exact Zm hi
  ·show _ = some (MO.lst ((upd T.sc a ys b).map PV.int)); rw [Z2 e]; exact Zj (λ h => e (S.lsi a ha b hb h).symm) (S.suc b hb)
theorem Za5 {f : Int -> PV} {a : Int} : ∀ {l : List Int}, a ∈ l -> dGet (l.map λ a => (a, f a)) a = some (f a)
 | b :: l, h => by
  unfold dGet
  rw [map_cons, List.find?_cons]
  try dsimp only
  cases e : b == a with
  | true => rw [<- eq_of_beq e]; rfl
  | false =>
   rcases Qmc h with h | h
   ·rw [h] at e; simp at e
   ·exact Za5 h
theorem Zik {f : Int -> PV} {a : Int} {l : List Int} (h : a ∉ l) : dGet (l.map λ a => (a, f a)) a = none := by
 unfold dGet
 rw [Option.map_eq_none_iff, List.find?_eq_none]
 intro x hx
 obtain ⟨b, hb, rfl⟩ := Qmm hx
 simp
 intro e; exact h (e ▸ hb)
end

def Same (o : Nat) (T : TSt) (ly : Lay) (hp hp' : List MO) : Prop := hp'.length = hp.length ∧ ∀ i, ¬ Fp o T ly i -> hp'[i]? = hp[i]?
theorem Same.refl {o : Nat} {T : TSt} {ly : Lay} {hp : List MO} : Same o T ly hp hp := ⟨rfl, λ _ _ => rfl⟩
theorem Same.set {o : Nat} {T : TSt} {ly : Lay} {hp hp' : List MO} {i : Nat} {v : MO} (h : Same o T ly hp hp') (hi : Fp o T ly i) : Same o T ly hp (hp'.set i v) :=
 ⟨by rw [length_set]; exact h.1, λ j hj => by rw [List.getElem?_set_ne (λ e : i = j => hj (e ▸ hi))]; exact h.2 j hj⟩
theorem fp_o {o : Nat} {T : TSt} {ly : Lay} : Fp o T ly o := .inl rfl
theorem fp_dn {o : Nat} {T : TSt} {ly : Lay} : Fp o T ly ly.dn := .inr (.inl rfl)
theorem Zgo {o : Nat} {T : TSt} {ly : Lay} : Fp o T ly ly.n2i := .inr (.inr (.inl rfl))
theorem fp_rn {o : Nat} {T : TSt} {ly : Lay} {xs : List Int} (e : T.ready = some xs) : Fp o T ly ly.rn := .inr (.inr (.inr (.inl ⟨by rw [e]; exact Option.some_ne_none _, rfl⟩)))
theorem fp_li {o : Nat} {T : TSt} {ly : Lay} {a : Int} (h : a ∈ T.order) : Fp o T ly (ly.li a) := .inr (.inr (.inr (.inr ⟨a, h, .inl rfl⟩)))
theorem fp_ls {o : Nat} {T : TSt} {ly : Lay} {a : Int} (h : a ∈ T.order) : Fp o T ly (ly.ls a) := .inr (.inr (.inr (.inr ⟨a, h, .inr rfl⟩)))
theorem fp_eq {o : Nat} {T T' : TSt} {ly : Lay} (h1 : T'.order = T.order) (h2 : T'.ready = none ↔ T.ready = none) (i : Nat) : Fp o T' ly i ↔ Fp o T ly i := by
 unfold Fp; rw [h1, Ne, Ne, h2]
noncomputable def outT (T : TSt) (xs : List Int) : TSt := { T with np := λ a => if a ∈ xs then -1 else T.np a }
noncomputable def getT (T : TSt) (xs : List Int) : TSt := { outT T xs with ready := some [], passed := T.passed + xs.length }
section
variable {hp : List MO} {o : Nat} {T : TSt} {ly : Lay} {fr : List PV} {E : Value -> St -> Prop}
theorem Zj7 {n r : PV} {p q : Int} : (nsTS n r p q).length <= 100 := by unfold nsTS; simp
theorem Zba {xs : List Int} (e : T.ready = some xs) : rdy T ly = .obj ly.rn := by unfold rdy; rw [e]
theorem Zj8 (e : T.ready = none) : rdy T ly = .none := by unfold rdy; rw [e]
theorem Zg {i : Nat} {xs : List PV} (h : hp[i]? = some (.lst xs)) : isLst hp (.obj i) = some xs := by unfold isLst; try dsimp only; rw [h]
theorem Wp.i {f : PM PV} {asg : PV -> PM Unit} {body : PM MF} {n : Nat} {μ : St} {Q : MF -> St -> Prop} (h : Wp f μ (λ pv μ' => Wp (Mine.forIx (getOf pv μ') asg body n 0) μ' Q E) E) : Wp (Mine.sFor f asg body n) μ Q E := by
 unfold Mine.sFor
 exact Wp.C (h.mono (λ _ _ h => Wp.E0 rfl h) λ _ _ e => e)
theorem Wp.D6 (S : SAt d hp o T ly) {k : Nat} {Q : PV -> St -> Prop} (e : fr[k]? = some (.obj o)) (h : Q (rdy T ly) ⟨fr, hp⟩) : Wp (Mine.eAttr d.TS ("_ready_nodes" : Str) (Mine.getVar k)) ⟨fr, hp⟩ Q E :=
 Wp.D9 (Wp.B e rfl (Wp.C5 S.ins S.ns ns_r (by unfold rdy; split <;> rfl) h))
theorem Wp.G1 (S : SAt d hp o T ly) {k : Nat} {Q : PV -> St -> Prop} (e : fr[k]? = some (.obj o)) (h : Q (.obj ly.n2i) ⟨fr, hp⟩) : Wp (Mine.eAttr d.TS ("_node2info" : Str) (Mine.getVar k)) ⟨fr, hp⟩ Q E :=
 Wp.D9 (Wp.B e rfl (Wp.C5 S.ins S.ns ns_n rfl h))
theorem Wp.psA (S : SAt d hp o T ly) {k : Nat} {Q : PV -> St -> Prop} (e : fr[k]? = some (.obj o)) (h : Q (.int T.passed) ⟨fr, hp⟩) : Wp (Mine.eAttr d.TS ("_npassedout" : Str) (Mine.getVar k)) ⟨fr, hp⟩ Q E :=
 Wp.D9 (Wp.B e rfl (Wp.C5 S.ins S.ns ns_p rfl h))
theorem Wp.fiA (S : SAt d hp o T ly) {k : Nat} {Q : PV -> St -> Prop} (e : fr[k]? = some (.obj o)) (h : Q (.int T.fin) ⟨fr, hp⟩) : Wp (Mine.eAttr d.TS ("_nfinished" : Str) (Mine.getVar k)) ⟨fr, hp⟩ Q E :=
 Wp.D9 (Wp.B e rfl (Wp.C5 S.ins S.ns ns_q rfl h))
theorem Zqe {xs : List Int} {k : Nat} {a : Int} (e : xs[k]? = some a) (b : Int) : b ∈ xs.take (k + 1) ↔ b ∈ xs.take k ∨ b = a := by
 have hl := (Qgl e)
 rw [take_succ_eq_append_getElem hl]
 have := (Qge e)
 simp [this]
theorem Zqf {xs : List Int} {k : Nat} {a : Int} (e : xs[k]? = some a) : ({ outT T (xs.take k) with np := upd (outT T (xs.take k)).np a (-1) } : TSt) = outT T (xs.take (k + 1)) := by
 have key : upd (λ a => if a ∈ xs.take k then (-1 : Int) else T.np a) a (-1) = λ a => if a ∈ xs.take (k + 1) then (-1 : Int) else T.np a := by
  funext b
  unfold upd
  have := Zqe e b
  by_cases h1 : b = a
  ·rw [if_pos h1, if_pos (this.mpr (.inr h1))]
  ·rw [if_neg h1]
   try dsimp only
   by_cases h2 : b ∈ xs.take k
   ·rw [if_pos h2, if_pos (this.mpr (.inl h2))]
   ·rw [if_neg h2, if_neg λ h => (this.mp h).elim h2 h1]
 show ({ order := T.order, np := upd (λ a => if a ∈ xs.take k then (-1 : Int) else T.np a) a (-1), sc := T.sc, ready := T.ready, passed := T.passed, fin := T.fin } : TSt) = { order := T.order, np := λ a => if a ∈ xs.take (k + 1) then (-1 : Int) else T.np a, sc := T.sc, ready := T.ready, passed := T.passed, fin := T.fin }
 rw [key]
theorem Zeq {xs : List PV} {k : Nat} {μ0 μ : St} : getOf (.tup xs) μ0 k μ = some xs[k]? := rfl
theorem Zj9 (S : SAt d hp o T ly) {xs : List Int} (hr : T.ready = some xs) (hsub : ∀ a ∈ xs, a ∈ T.order) (hlen : xs.length <= 1000) {Q : PV -> St -> Prop}
  (h : ∀ hp', SAt d hp' o (getT T xs) ly -> Same o T ly hp hp' -> Q (.tup (xs.map .int)) ⟨fr, hp'⟩) : Wp (Zb1 d [.obj o]) ⟨fr, hp⟩ Q E := by
 refine Wp.A1 rfl ?_
 unfold Zdb
 have hrd := S.rd xs hr
 refine Wp.I (Wp.A2 (Wp.Y (Wp.D6 S rfl ?_)))
 rw [Zba hr]
 refine Wp.L (Wp.A5 rfl ?_)
 refine Wp.N (Wp.I (Wp.S (Wp.C (Wp.R (Wp.D6 S rfl ?_)))))
 rw [Zba hr]
 refine Wp.H7 (xs := xs.map .int) (.inl (Zg hrd)) (by rw [length_map]; exact Qkb hlen rfl) (Wp.H ?_)
 refine Wp.I (Wp.S (Wp.G1 S rfl (Wp.H ?_)))
 show Wp _ ⟨[.obj o, .tup (xs.map .int), .obj ly.n2i, .undef], hp⟩ _ _
 refine Wp.I (Wp.i (Wp.B rfl rfl ?_))
 refine Wp.X (λ k => Ex1 (λ v => [.obj o, .tup (xs.map .int), .obj ly.n2i, v]) (λ hp' => SAt d hp' o (outT T (xs.take k)) ly ∧ Same o T ly hp hp')) xs.length (λ k μ hI hk => ?_) fuel 0 _ (by unfold fuel; exact Qlb hlen rfl) (Nat.zero_le _)
  (.mk ⟨show SAt d hp o (outT T []) ly by
   have : outT T [] = T := by (unfold outT; simp)
   rw [this]; exact S, Same.refl⟩)
 obtain ⟨S', hs⟩ := hI
 rename_i v hp'
 rw [Zeq, List.getElem?_map]
 cases hx : xs[k]? with
 | none =>
  left
  have hk' : k = xs.length := by have := Qgn hx; lia
  subst hk'
  rw [take_length] at S'
  refine ⟨rfl, ?_⟩
  try dsimp only
  refine Wp.I (Wp.A8 (Wp.I5 (Wp.D6 S' rfl ?_)))
  have hr' : (outT T xs).ready = some xs := hr
  rw [Zba hr']
  refine ⟨_, _, rfl, S'.rd xs hr', by rw [length_map]; exact Qkb hlen rfl, ?_⟩
  try dsimp only
  have S2 := S'.setRd hr' []
  refine Wp.I (Wp.C4 (Wp.B rfl rfl (Wp.C5 S2.ins S2.ns ns_p rfl (Wp.C (Wp.R (Wp.B rfl rfl (Wp.B0 (xs := xs.map .int) (.inr rfl) (by rw [length_map]; exact Qkb hlen rfl) (Wp.C8 (Wp.A0 S2.ins S2.ns Zj7 ?_)))))))))
  rw [put_p]
  have S3 := S2.setNs ((outT T xs).passed + ((xs.map PV.int).length : Int)) (outT T xs).fin
  rw [length_map] at S3 ⊢
  refine Wp.I (Wp.D3 (Wp.B rfl rfl ?_))
  refine h _ S3 ((hs.set (fp_rn hr)).set fp_dn)
 | some a =>
  right
  refine ⟨(Qgl hx), .int a, rfl, Wp.H ?_⟩
  have ha : a ∈ T.order := hsub a (mem_of_getElem? hx)
  unfold Zdz
  refine Wp.I (Wp.S (Wp.L (Wp.B2 (Wp.f (Wp.B rfl rfl (Wp.B rfl rfl (Wp.D5 S'.dct (Za5 ha) (Wp.u (S'.inf a ha) (by decide) ?_))))))))
  refine Wp.N ?_
  try dsimp only
  refine Ex1.mk ⟨?_, hs.set (fp_li ha)⟩
  have := S'.setNp ha (-1)
  rw [Zqf hx] at this
  exact this
end

noncomputable def decT (T : TSt) (s : Int) : TSt := { T with np := upd T.np s (T.np s - 1), ready := if T.np s - 1 = 0 then T.ready.map (· ++ [s]) else T.ready }
noncomputable def fin1 (T : TSt) (a : Int) : TSt := { (T.sc a).foldl decT { T with np := upd T.np a (-2) } with fin := ((T.sc a).foldl decT { T with np := upd T.np a (-2) }).fin + 1 }
noncomputable def rlen (T : TSt) : Nat := (T.ready.getD []).length
theorem Znm {T : TSt} {s : Int} (h : T.ready ≠ none) : (decT T s).ready ≠ none := by
 unfold decT; try dsimp only
 split
 ·intro e; exact h (Option.map_eq_none_iff.mp e)
 ·exact h
theorem Zo2 (T : TSt) (s : Int) : rlen (decT T s) <= rlen T + 1 := by
 unfold rlen decT; try dsimp only
 split
 ·cases T.ready <;> simp
 ·exact Qs Qr
theorem Za6 : ∀ (xs : List Int) (T : TSt), (xs.foldl decT T).order = T.order
 | [], T => rfl
 | x :: xs, T => (Za6 xs (decT T x)).trans rfl
theorem Ze2 : ∀ (xs : List Int) (T : TSt), (xs.foldl decT T).sc = T.sc
 | [], T => rfl
 | x :: xs, T => (Ze2 xs (decT T x)).trans rfl
theorem Zka : ∀ (xs : List Int) (T : TSt), (xs.foldl decT T).fin = T.fin
 | [], T => rfl
 | x :: xs, T => (Zka xs (decT T x)).trans rfl
theorem Zfl : ∀ (xs : List Int) (T : TSt), (xs.foldl decT T).passed = T.passed
 | [], T => rfl
 | x :: xs, T => (Zfl xs (decT T x)).trans rfl
theorem Zci : ∀ (xs : List Int) (T : TSt), T.ready ≠ none -> (xs.foldl decT T).ready ≠ none
 | [], T, h => h
 | x :: xs, T, h => Zci xs (decT T x) (Znm h)
theorem Zer : ∀ (xs : List Int) (T : TSt), rlen (xs.foldl decT T) <= rlen T + xs.length
 | [], T => Qr
 | x :: xs, T => by
  have h1 := Zer xs (decT T x)
  have h2 := Zo2 T x
  simp only [foldl_cons, length_cons]
  lia
section
variable {hp : List MO} {o : Nat} {T : TSt} {ly : Lay} {fr : List PV} {E : Value -> St -> Prop}
theorem Zs7 (S : SAt d hp o T ly) {s : Int} (hs : s ∈ T.order) (hr : T.ready ≠ none) (hl : rlen T <= 1000000) {v1 v3 v4 v5 v7 : PV} {Q : MF -> St -> Prop}
  (h : ∀ hp', SAt d hp' o (decT T s) ly -> Same o T ly hp hp' -> Q .next ⟨[.obj o, v1, .obj ly.n2i, v3, v4, v5, .int s, .obj (ly.li s)], hp'⟩) : Wp (Zfz d) ⟨[.obj o, v1, .obj ly.n2i, v3, v4, v5, .int s, v7], hp⟩ Q E := by
 unfold Zfz
 refine Wp.I (Wp.S (Wp.f (Wp.B rfl rfl (Wp.B rfl rfl (Wp.D5 S.dct (Za5 hs) (Wp.H ?_))))))
 refine Wp.I (Wp.C4 (Wp.B rfl rfl (Wp.B4 (S.inf s hs) rfl rfl (Wp.L (Wp.I6 (Wp.u (S.inf s hs) (by decide) ?_))))))
 have S1 := S.setNp hs (T.np s - 1)
 have s1 := (Same.refl (o := o) (T := T) (ly := ly) (hp := hp)).set (v := .slt d.NI (ly.dx s) [some (.int s), some (.int (T.np s - 1)), some (.obj (ly.ls s))]) (fp_li hs)
 have e1 : (upd T.np s (T.np s - 1)) s = T.np s - 1 := Zu
 have hi := S1.inf s hs
 refine Wp.I (Wp.A2 (Wp.Y (Wp.C2 (Wp.B rfl rfl (Wp.B4 hi rfl rfl (Wp.L (Wp.D0 ?_)))))))
 try dsimp only
 rw [e1]
 by_cases hz : T.np s - 1 = 0
 ·rw [show (T.np s - 1 == 0) = true by simp [hz]]
  obtain ⟨rs, hrs⟩ := Option.ne_none_iff_exists'.mp hr
  have hl' : rs.length <= 1000000 := by unfold rlen at hl; rw [hrs] at hl; exact hl
  have S2 := S1.setRd (xs := rs) hrs (rs ++ [s])
  refine Wp.I (Wp.A8 (Wp.j (Wp.D6 S1 rfl ?_)))
  rw [Zba (T := { T with np := upd T.np s (T.np s - 1) }) hrs]
  refine Wp.W (S1.rd rs hrs) (Wp.B rfl rfl (Wp.l (S1.rd rs hrs) (by rw [length_map]; exact hl') ?_))
  refine Wp.N (Wp.N ?_)
  rw [map_append] at S2
  refine h _ ?_ (s1.set (fp_rn hrs))
  unfold decT
  rw [if_pos hz, hrs]
  exact S2
 ·rw [show (T.np s - 1 == 0) = false by simpa using hz]
  refine Wp.N (Wp.N ?_)
  refine h _ ?_ s1
  unfold decT
  rw [if_neg hz]
  exact S1
end

theorem Znn (T : TSt) (a : Int) : (fin1 T a).order = T.order := Za6 _ _
theorem Zmc (T : TSt) (a : Int) : (fin1 T a).sc = T.sc := Ze2 _ _
theorem Zno {T : TSt} {a : Int} (h : T.ready ≠ none) : (fin1 T a).ready ≠ none := Zci _ _ h
theorem Zo3 (T : TSt) (a : Int) : rlen (fin1 T a) <= rlen T + (T.sc a).length := Zer _ { T with np := upd T.np a (-2) }
theorem Same.trans {o : Nat} {T T' : TSt} {ly : Lay} {hp hp' hp'' : List MO} (h1 : Same o T ly hp hp') (h2 : Same o T' ly hp' hp'') (e : ∀ i, Fp o T' ly i ↔ Fp o T ly i) : Same o T ly hp hp'' :=
 ⟨h2.1.trans h1.1, λ i hi => (h2.2 i λ h => hi ((e i).mp h)).trans (h1.2 i hi)⟩
section
variable {hp : List MO} {o : Nat} {T : TSt} {ly : Lay} {fr : List PV} {E : Value -> St -> Prop}
theorem Zc4 {α β : Type} {f : β -> α -> β} {xs : List α} {k : Nat} {a : α} (e : xs[k]? = some a) (b : β) : (xs.take (k + 1)).foldl f b = f ((xs.take k).foldl f b) a := by
 have hl := (Qgl e)
 rw [take_succ_eq_append_getElem hl, List.foldl_append]
 have := (Qge e)
 simp [this]
theorem Zes {i : Nat} {xs ys : List PV} {k : Nat} {μ0 μ : St} (h₀ : μ0.hp[i]? = some (.lst xs)) (h : μ.hp[i]? = some (.lst ys)) : getOf (.obj i) μ0 k μ = some ys[k]? := by
 unfold getOf
 try dsimp only
 rw [h₀, h]; rfl
theorem Zsa (S : SAt d hp o T ly) {a : Int} (ha : a ∈ T.order) (hn : T.np a = -1) (hsub : ∀ s ∈ T.sc a, s ∈ T.order) (hr : T.ready ≠ none) (hl : rlen T + (T.sc a).length <= 900000) {v1 v4 v5 v6 v7 : PV} {Q : MF -> St -> Prop}
  (h : ∀ hp' v4 v5 v6 v7, SAt d hp' o (fin1 T a) ly -> Same o T ly hp hp' -> Q .next ⟨[.obj o, v1, .obj ly.n2i, .int a, v4, v5, v6, v7], hp'⟩) : Wp (Zf0 d) ⟨[.obj o, v1, .obj ly.n2i, .int a, v4, v5, v6, v7], hp⟩ Q E := by
 unfold Zf0
 refine Wp.I (Wp.A2 (Wp.Y (Wp.J3 (Wp.E4 (Wp.B rfl rfl (Wp.B3 S.dct (Wp.R (Wp.B rfl rfl (Wp.D4 S.dct ?_)))))))))
 rw [Za5 ha]
 refine Wp.H (Wp.L (Wp.A5 (x := .obj (ly.li a)) rfl ?_))
 have hi := S.inf a ha
 refine Wp.N (Wp.I (Wp.S (Wp.C2 (Wp.B rfl rfl (Wp.B4 hi rfl rfl (Wp.H ?_))))))
 refine Wp.I (Wp.A2 (Wp.Y (Wp.B rfl rfl (Wp.L (Wp.G5 ?_)))))
 rw [hn]
 refine Wp.N (Wp.I (Wp.S (Wp.L (Wp.B2 (Wp.B rfl rfl (Wp.u hi (by decide) ?_))))))
 have S1 := S.setNp ha (-2)
 have s1 := (Same.refl (o := o) (T := T) (ly := ly) (hp := hp)).set (v := .slt d.NI (ly.dx a) [some (.int a), some (.int (-2)), some (.obj (ly.ls a))]) (fp_li ha)
 have hsu := S1.suc a ha
 refine Wp.I (Wp.i (Wp.C2 (Wp.B rfl rfl (Wp.B4 (S1.inf a ha) rfl rfl ?_))))
 refine Wp.X (λ k => Ex2 (λ w6 w7 => [.obj o, v1, .obj ly.n2i, .int a, .obj (ly.li a), .int (-1), w6, w7]) (λ hp' => SAt d hp' o (((T.sc a).take k).foldl decT { T with np := upd T.np a (-2) }) ly ∧ Same o T ly hp hp')) (T.sc a).length (λ k μ hI hk => ?_) fuel 0 _ (by unfold fuel; lia) (Nat.zero_le _)
  (by rw [hn]; exact Ex2.mk ⟨S1, s1⟩)
 obtain ⟨S', s'⟩ := hI
 rename_i w6 w7 hp'
 have ho : a ∈ (((T.sc a).take k).foldl decT { T with np := upd T.np a (-2) }).order := by rw [Za6]; exact ha
 have hsu' := S'.suc a ho
 rw [Ze2] at hsu'
 rw [Zes hsu hsu', List.getElem?_map]
 cases hx : (T.sc a)[k]? with
 | none =>
  left
  have hk' : k = (T.sc a).length := by have := Qgn hx; lia
  subst hk'
  rw [take_length] at S'
  refine ⟨rfl, ?_⟩
  try dsimp only
  refine Wp.I (Wp.C4 (Wp.B rfl rfl (Wp.C5 S'.ins S'.ns ns_q rfl (Wp.L (Wp.C8 (Wp.A0 S'.ins S'.ns Zj7 ?_))))))
  rw [put_q]
  refine Wp.N (h _ _ _ _ _ (S'.setNs _ _) (s'.set fp_dn))
 | some s =>
  right
  refine ⟨(Qgl hx), .int s, rfl, Wp.H ?_⟩
  have hso : s ∈ (((T.sc a).take k).foldl decT { T with np := upd T.np a (-2) }).order := by rw [Za6]; exact hsub s (mem_of_getElem? hx)
  refine Zs7 S' hso (Zci _ _ hr) ?_ λ hp'' S'' s'' => ?_
  ·have := Zer ((T.sc a).take k) { T with np := upd T.np a (-2) }
   have e : rlen { T with np := upd T.np a (-2) } = rlen T := rfl
   rw [e, length_take] at this
   lia
  ·try dsimp only
   rw [<- Zc4 (f := decT) hx] at S''
   refine Ex2.mk ⟨S'', s'.trans s'' λ i => fp_eq (Za6 _ _) ?_ i⟩
   exact ⟨λ e => absurd e (Zci _ _ hr), λ e => absurd e hr⟩
theorem Zsb (S : SAt d hp o T ly) (as : List Int) (hr : T.ready ≠ none) (hl : rlen T + (as.map λ a => (T.sc a).length).sum <= 800000) (hlen : as.length <= 1000)
  (hok : ∀ k a, as[k]? = some a -> a ∈ T.order ∧ ((as.take k).foldl fin1 T).np a = -1 ∧ ∀ s ∈ T.sc a, s ∈ T.order) {Q : PV -> St -> Prop}
  (h : ∀ hp', SAt d hp' o (as.foldl fin1 T) ly -> Same o T ly hp hp' -> Q .none ⟨fr, hp'⟩) : Wp (Zgn d (.obj o :: as.map .int)) ⟨fr, hp⟩ Q E := by
 refine Wp.A1 (init := [.obj o, .tup (as.map .int), .undef, .undef, .undef, .undef, .undef, .undef]) ?_ ?_
 ·show (match lenOk (as.map PV.int) with | true => _ | false => _) = _
  rw [show lenOk (as.map PV.int) = true from decide_eq_true (by rw [length_map]; exact Qkb hlen rfl)]
 unfold Zjr
 have fold_order : ∀ (bs : List Int) (T : TSt), (bs.foldl fin1 T).order = T.order := λ bs => by
  induction bs with
  | nil => intro T; rfl
  | cons b bs ih => intro T; exact (ih _).trans (Znn _ _)
 have fold_sc : ∀ (bs : List Int) (T : TSt), (bs.foldl fin1 T).sc = T.sc := λ bs => by
  induction bs with
  | nil => intro T; rfl
  | cons b bs ih => intro T; exact (ih _).trans (Zmc _ _)
 have fold_ready : ∀ (bs : List Int) (T : TSt), T.ready ≠ none -> (bs.foldl fin1 T).ready ≠ none := λ bs => by
  induction bs with
  | nil => intro T h; exact h
  | cons b bs ih => intro T h; exact ih _ (Zno h)
 have fold_rlen : ∀ (bs : List Int) (T : TSt), rlen (bs.foldl fin1 T) <= rlen T + (bs.map λ a => (T.sc a).length).sum := λ bs => by
  induction bs with
  | nil => intro T; exact Qr
  | cons b bs ih =>
   intro T
   have h1 := ih (fin1 T b)
   have h2 := Zo3 T b
   rw [Zmc] at h1
   simp only [foldl_cons, map_cons, sum_cons]
   lia
 obtain ⟨rs, hrs⟩ := Option.ne_none_iff_exists'.mp hr
 refine Wp.I (Wp.A2 (Wp.Y (Wp.D6 S rfl ?_)))
 rw [Zba hrs]
 refine Wp.L (Wp.A5 rfl ?_)
 refine Wp.N (Wp.I (Wp.S (Wp.G1 S rfl (Wp.H ?_))))
 refine Wp.I (Wp.i (Wp.B rfl rfl ?_))
 refine Wp.X (λ k => Ex5 (λ w3 w4 w5 w6 w7 => [.obj o, .tup (as.map .int), .obj ly.n2i, w3, w4, w5, w6, w7]) (λ hp' => SAt d hp' o ((as.take k).foldl fin1 T) ly ∧ Same o T ly hp hp')) as.length (λ k μ hI hk => ?_) fuel 0 _ (by unfold fuel; exact Qlb hlen rfl) (Nat.zero_le _)
  (.mk ⟨S, Same.refl⟩)
 obtain ⟨S', s'⟩ := hI
 rename_i w3 w4 w5 w6 w7 hp'
 rw [Zeq, List.getElem?_map]
 cases hx : as[k]? with
 | none =>
  left
  have hk' : k = as.length := by have := Qgn hx; lia
  subst hk'
  rw [take_length] at S'
  exact ⟨rfl, Wp.N (h _ S' s')⟩
 | some a =>
  right
  obtain ⟨h1, h2, h3⟩ := hok k a hx
  refine ⟨(Qgl hx), .int a, rfl, Wp.H ?_⟩
  have hlt := (Qgl hx)
  refine Zsa S' (by rw [fold_order]; exact h1) h2 (by rw [fold_sc, fold_order]; exact h3) (fold_ready _ _ hr) ?_ λ hp'' u4 u5 u6 u7 S'' s'' => ?_
  ·rw [fold_sc]
   have := fold_rlen (as.take k) T
   have e : (as.map λ a => (T.sc a).length).sum = ((as.take k).map λ a => (T.sc a).length).sum + ((as.drop k).map λ a => (T.sc a).length).sum := by
    rw [<- List.sum_append, <- map_append, take_append_drop]
   have e2 : (T.sc a).length <= ((as.drop k).map λ a => (T.sc a).length).sum := by
    rw [drop_eq_getElem_cons hlt, map_cons, sum_cons, (Qge hx)]
    lia
   lia
  ·try dsimp only
   rw [<- Zc4 (f := fin1) hx] at S''
   exact Ex5.mk ⟨S'', s'.trans s'' λ i => fp_eq (fold_order _ _) ⟨λ e => absurd e (fold_ready _ _ hr), λ e => absurd e hr⟩ i⟩
end

section
variable {hp : List MO} {o : Nat} {T : TSt} {ly : Lay} {fr : List PV} {E : Value -> St -> Prop}
theorem Wp.I8 {f g : PM PV} {μ : St} {Q : PV -> St -> Prop} (h : Wp f μ (λ x μ' => Wp g μ' (λ y μ'' => ∃ i j, x = .int i ∧ y = .int j ∧ Q (.bool (decide (i < j))) μ'') E) E) : Wp (Mine.eCmp .Lt f g) μ Q E :=
 Wp.C (h.mono (λ _ _ h => Wp.C (h.mono (λ _ _ hh => by
  obtain ⟨i, j, e1, e2, h'⟩ := hh
  subst e1 e2; exact Wp.C (Wp.J rfl (Wp.L h'))) λ _ _ e => e)) λ _ _ e => e)
theorem Wp.eOr {f g : PM PV} {μ : St} {Q : PV -> St -> Prop} (h : Wp f μ (λ x μ' => ∃ b, x = .bool b ∧ (b = true -> Q (.bool true) μ') ∧ (b = false -> Wp g μ' Q E)) E) : Wp (Mine.eOr f g) μ Q E :=
 Wp.C (h.mono (λ x μ' hh => by
  obtain ⟨b, e, h1, h2⟩ := hh
  subst e
  refine Wp.C (Wp.J rfl ?_)
  cases b with
  | true => exact Wp.L (h1 rfl)
  | false => exact h2 rfl) λ _ _ e => e)
theorem Wp.J8 {i : Nat} {xs : List PV} {Q : PV -> St -> Prop} (e : hp[i]? = some (.lst xs)) (hl : xs.length <= 1000000) (h : Q (.bool (!xs.isEmpty)) ⟨fr, hp⟩) : Wp (Mine.pBool [.obj i]) ⟨fr, hp⟩ Q E := by
 refine Wp.C (Wp.J (a := xs) (μ' := ⟨fr, hp⟩) ?_ (Wp.C (Wp.A6 (decide_eq_true hl) (Wp.mk h))))
 unfold aLst
 try dsimp only
 rw [Zg e]
theorem Zkb (S : SAt d hp o T ly) {xs : List Int} (hr : T.ready = some xs) (hl : xs.length <= 1000000) {Q : PV -> St -> Prop} (h : Q (.bool (decide (T.fin < T.passed) || !xs.isEmpty)) ⟨fr, hp⟩) : Wp (Zb2 d [.obj o]) ⟨fr, hp⟩ Q E := by
 refine Wp.A1 rfl ?_
 unfold Zdc
 refine Wp.I (Wp.A2 (Wp.Y (Wp.D6 S rfl ?_)))
 rw [Zba hr]
 refine Wp.L (Wp.A5 rfl ?_)
 refine Wp.N (Wp.I (Wp.D3 (Wp.eOr (Wp.I8 (Wp.fiA S rfl (Wp.psA S rfl ⟨_, _, rfl, rfl, _, rfl, λ e => ?_, λ e => ?_⟩))))))
 ·rw [e, Bool.true_or] at h; exact h
 ·refine Wp.C (Wp.R (Wp.D6 S rfl ?_))
  rw [Zba hr]
  refine Wp.J8 (S.rd xs hr) (by rw [length_map]; exact hl) ?_
  rw [e, Bool.false_or] at h
  have : (xs.map PV.int).isEmpty = xs.isEmpty := by cases xs <;> rfl
  rw [this]
  exact h
theorem Zdq {x : MO} {l : List MO} : (hp ++ x :: l)[hp.length]? = some x := by simp
theorem Zlq {a : Int} {Q : PV -> St -> Prop}
  (h : ∀ hp', hp'.length = hp.length + 3 -> (∀ i, i < hp.length -> hp'[i]? = hp[i]?) -> hp'[hp.length + 1]? = some (.slt d.NI hp.length [some (.int a), some (.int 0), some (.obj (hp.length + 2))]) -> hp'[hp.length + 2]? = some (.lst []) -> Q (.obj (hp.length + 1)) ⟨fr, hp'⟩) :
  Wp (newM d.NI true (Zem d) [.int a]) ⟨fr, hp⟩ Q E := by
 unfold newM
 refine Wp.C (Wp.Z (Wp.C (Wp.Z (Wp.C (Wp.A1 rfl ?_)))))
 have hl1 : (hp ++ [MO.ns []]).length = hp.length + 1 := by simp
 rw [hl1]
 have e1 : ((hp ++ [MO.ns []]) ++ [mkInst d.NI true hp.length])[hp.length + 1]? = some (.slt d.NI hp.length []) := by rw [<- hl1]; simp [mkInst]
 have len1 : ((hp ++ [MO.ns []]) ++ [mkInst d.NI true hp.length]).length = hp.length + 2 := by simp
 have old1 : ∀ i, i < hp.length -> ((hp ++ [MO.ns []]) ++ [mkInst d.NI true hp.length])[i]? = hp[i]? := λ i hi => by
  rw [List.getElem?_append_left (by simp; lia), List.getElem?_append_left hi]
 generalize ((hp ++ [MO.ns []]) ++ [mkInst d.NI true hp.length]) = h1 at e1 len1 old1 ⊢
 unfold Zel
 refine Wp.I (Wp.S (Wp.B rfl rfl (Wp.B2 (Wp.B rfl rfl (Wp.u e1 (by decide) ?_)))))
 have e2 : (h1.set (hp.length + 1) (.slt d.NI hp.length [some (.int a)]))[hp.length + 1]? = some (.slt d.NI hp.length [some (.int a)]) := Zm e1
 refine Wp.I (Wp.S (Wp.L (Wp.B2 (Wp.B rfl rfl (Wp.u e2 (by decide) ?_)))))
 have e3 : ((h1.set (hp.length + 1) (.slt d.NI hp.length [some (.int a)])).set (hp.length + 1) (.slt d.NI hp.length [some (.int a), some (.int 0)]))[hp.length + 1]? = some (.slt d.NI hp.length [some (.int a), some (.int 0)]) := Zm e2
 refine Wp.I (Wp.S (Wp.C (Wp.A3 (Wp.C (Wp.A6 rfl (Wp.C (Wp.Z (Wp.L (Wp.B2 (Wp.B rfl rfl ?_))))))))))
 have len3 : ((h1.set (hp.length + 1) (.slt d.NI hp.length [some (.int a)])).set (hp.length + 1) (.slt d.NI hp.length [some (.int a), some (.int 0)])).length = hp.length + 2 := by simp [len1]
 have e4 := getElem?_app (r := [MO.lst []]) e3
 have e3' : h1.set (hp.length + 1) (.slt d.NI hp.length (([] ++ List.replicate (0 + 1 - ([] : List (Option PV)).length) none).set 0 (some (.int a)))) = h1.set (hp.length + 1) (.slt d.NI hp.length [some (.int a)]) := rfl
 refine Wp.u e4 (by decide) ?_
 refine Wp.N ?_
 try dsimp only
 refine Wp.L (h _ ?_ ?_ ?_ ?_)
 ·simp [len1]
 ·intro i hi
  rw [List.getElem?_set_ne (by exact Qnl (Qs hi)), List.getElem?_append_left (by simp [len1]; exact Qll hi (Qs (Qs Qr))), List.getElem?_set_ne (Qnl (Qs hi)), List.getElem?_set_ne (Qnl (Qs hi))]
  exact old1 i hi
 ·refine (Zm e4).trans ?_
  simp [len1]
 ·rw [List.getElem?_set_ne (by exact Qnk Qr)]
  rw [<- len3]
  simp
end

noncomputable def infoT (T : TSt) (a : Int) : TSt := if a ∈ T.order then T else { T with order := T.order ++ [a], np := upd T.np a 0, sc := upd T.sc a [] }
noncomputable def edgeT (a : Int) (T : TSt) (p : Int) : TSt := { infoT T p with sc := upd (infoT T p).sc p ((infoT T p).sc p ++ [a]) }
noncomputable def addT (T : TSt) (a : Int) (ps : List Int) : TSt := ps.foldl (edgeT a) { infoT T a with np := upd (infoT T a).np a ((infoT T a).np a + ps.length) }
structure Grow (o : Nat) (T : TSt) (ly : Lay) (hp : List MO) (T' : TSt) (ly' : Lay) (hp' : List MO) : Prop where
 len : hp.length <= hp'.length
 old : ∀ i, i < hp.length -> ¬ Fp o T ly i -> hp'[i]? = hp[i]?
 new : ∀ i, Fp o T' ly' i -> Fp o T ly i ∨ hp.length <= i
theorem Grow.refl {o : Nat} {T : TSt} {ly : Lay} {hp : List MO} : Grow o T ly hp T ly hp := ⟨Qr, λ _ _ _ => rfl, λ _ h => .inl h⟩
theorem Grow.trans {o : Nat} {T T' T'' : TSt} {ly ly' ly'' : Lay} {hp hp' hp'' : List MO} (h1 : Grow o T ly hp T' ly' hp') (h2 : Grow o T' ly' hp' T'' ly'' hp'') : Grow o T ly hp T'' ly'' hp'' :=
 ⟨Nat.le_trans h1.len h2.len, λ i hi hn => (h2.old i (Nat.lt_of_lt_of_le hi h1.len) λ h => (h1.new i h).elim hn λ h => absurd hi (Nat.not_lt_of_le h)).trans (h1.old i hi hn),
  λ i h => (h2.new i h).elim (h1.new i) λ h => .inr (Nat.le_trans h1.len h)⟩
section
variable {hp : List MO} {o : Nat} {T : TSt} {ly : Lay} {fr : List PV} {E : Value -> St -> Prop}
theorem SAt.lt (S : SAt d hp o T ly) {i : Nat} (h : Fp o T ly i) : i < hp.length := by
 have key : ∀ {x : MO}, hp[i]? = some x -> i < hp.length := λ e => (Qgl e)
 rcases h with rfl | rfl | rfl | ⟨h, rfl⟩ | ⟨a, ha, rfl | rfl⟩
 ·exact key S.ins
 ·exact key S.ns
 ·exact key S.dct
 ·obtain ⟨xs, e⟩ := Option.ne_none_iff_exists'.mp h
  exact key (S.rd xs e)
 ·exact key (S.inf a ha)
 ·exact key (S.suc a ha)
theorem Wp.G4 {i : Nat} {es : List (Int × PV)} {ep : Nat} {k : Int} {y : PV} {Q : Unit -> St -> Prop} (e : hp[i]? = some (.dct es ep)) (hl : es.length <= 1000000) (hk : dHas es k = false) (h : Q () ⟨fr, hp.set i (.dct (es ++ [(k, y)]) (ep + 1))⟩) : Wp (pSetItem (.obj i) (.int k) y) ⟨fr, hp⟩ Q E := by
 refine Wp.J ?_ h
 unfold pSetItem
 try dsimp only
 rw [e]
 try dsimp only
 rw [show lenOk es = true from decide_eq_true hl]
 try dsimp only
 unfold dPut
 rw [hk]
theorem Zqg {f : Int -> PV} {a : Int} {l : List Int} (h : a ∉ l) : dHas (l.map λ a => (a, f a)) a = false := by
 unfold dHas
 rw [any_eq_false]
 intro x hx
 obtain ⟨b, hb, rfl⟩ := Qmm hx
 simp
 intro e; exact h (e ▸ hb)
theorem Zfm (S : SAt d hp o T ly) (a : Int) (hl : T.order.length <= 1000) {Q : PV -> St -> Prop}
  (h : ∀ hp' ly', SAt d hp' o (infoT T a) ly' -> Grow o T ly hp (infoT T a) ly' hp' -> Q (.obj (ly'.li a)) ⟨fr, hp'⟩) : Wp (Zch d [.obj o, .int a]) ⟨fr, hp⟩ Q E := by
 refine Wp.A1 rfl ?_
 unfold Zdp
 refine Wp.I (Wp.A2 (Wp.Y (Wp.J3 (Wp.E4 (Wp.G1 S rfl (Wp.B3 S.dct (Wp.R (Wp.B rfl rfl (Wp.D4 S.dct ?_)))))))))
 by_cases ha : a ∈ T.order
 ·rw [Za5 ha]
  refine Wp.H (Wp.L (Wp.A5 (x := .obj (ly.li a)) rfl ?_))
  refine Wp.N (Wp.I (Wp.D3 (Wp.B rfl rfl ?_)))
  have e : infoT T a = T := if_pos ha
  rw [e] at h
  exact h hp ly S Grow.refl
 ·rw [Zik ha]
  refine Wp.H (Wp.L (Wp.A5 (x := .none) rfl ?_))
  refine Wp.I (Wp.asg2 (Wp.C (Wp.R (Wp.B rfl rfl (Zlq λ hp' hlen hold h1 h2 => ?_)))))
  have S' : SAt d hp' o T ly := S.keep λ i hi => hold i (S.lt hi)
  refine Wp.E1 (Wp.G1 S' rfl (Wp.B rfl rfl (Wp.G4 S'.dct (by rw [length_map]; exact Qkb hl rfl) (Zqg ha) (Wp.H ?_))))
  refine Wp.N (Wp.I (Wp.D3 (Wp.B (v := .obj (hp.length + 1)) rfl rfl ?_)))
  have e : infoT T a = { T with order := T.order ++ [a], np := upd T.np a 0, sc := upd T.sc a [] } := if_neg ha
  rw [e] at h
  have ne : ∀ b ∈ T.order, b ≠ a := λ b hb e => ha (e ▸ hb)
  have hn2 : ly.n2i < hp.length := S.lt Zgo
  have new : ∀ {i : Nat} {x : MO}, hp.length <= i -> hp'[i]? = some x -> (hp'.set ly.n2i (.dct ((T.order.map λ a => (a, PV.obj (ly.li a))) ++ [(a, .obj (hp.length + 1))]) (ly.ep + 1)))[i]? = some x := λ hi hx => Zj (Qnkl hn2 hi) hx
  have := h (hp'.set ly.n2i (.dct ((T.order.map λ a => (a, PV.obj (ly.li a))) ++ [(a, .obj (hp.length + 1))]) (ly.ep + 1)))
   { ly with ep := ly.ep + 1, li := upd ly.li a (hp.length + 1), ls := upd ly.ls a (hp.length + 2), dx := upd ly.dx a hp.length } ?_ ?_
  ·dsimp only at this
   rw [show upd ly.li a (hp.length + 1) a = hp.length + 1 from Zu] at this
   exact this
  ·refine ⟨Zf S'.dct S'.ins (mn rfl), ?_, ?_, λ xs e => Zf S'.dct (S'.rd xs e) (mn rfl), λ b hb => ?_, λ b hb => ?_, λ b hb c hc hbc => ?_, λ hr b hb => ?_, ?_⟩
   ·exact Zf S'.dct S'.ns (mn rfl)
   ·refine (Zm S'.dct).trans ?_
    congr 2
    show _ = (T.order ++ [a]).map λ b => (b, PV.obj (upd ly.li a (hp.length + 1) b))
    rw [map_append]
    congr 1
    ·exact map_congr_left λ b hb => by rw [Z2 (ne b hb)]
    ·simp [Zu]
   ·rcases Qma hb with hb | hb
    ·show _ = some (MO.slt d.NI (upd ly.dx a hp.length b) [_, some (PV.int (upd T.np a 0 b)), some (PV.obj (upd ly.ls a (hp.length + 2) b))])
     rw [Z2 (ne b hb), Z2 (ne b hb), Z2 (ne b hb)]
     show (hp'.set _ _)[upd ly.li a (hp.length + 1) b]? = _
     rw [Z2 (ne b hb)]
     exact Zf S'.dct (S'.inf b hb) (mn rfl)
    ·rw [mem_singleton] at hb
     subst hb
     show (hp'.set _ _)[upd ly.li b (hp.length + 1) b]? = some (MO.slt d.NI (upd ly.dx b hp.length b) [_, some (PV.int (upd T.np b 0 b)), some (PV.obj (upd ly.ls b (hp.length + 2) b))])
     rw [Zu, Zu, Zu, Zu]
     exact new (Qs Qr) h1
   ·rcases Qma hb with hb | hb
    ·show (hp'.set _ _)[upd ly.ls a (hp.length + 2) b]? = some (MO.lst ((upd T.sc a [] b).map PV.int))
     rw [Z2 (ne b hb), Z2 (ne b hb)]
     exact Zf S'.dct (S'.suc b hb) (mn rfl)
    ·rw [mem_singleton] at hb
     subst hb
     show (hp'.set _ _)[upd ly.ls b (hp.length + 2) b]? = some (MO.lst ((upd T.sc b [] b).map PV.int))
     rw [Zu, Zu]
     exact new (Qs (Qs Qr)) h2
   ·have hbc : upd ly.ls a (hp.length + 2) b = upd ly.ls a (hp.length + 2) c := hbc
    rcases Qma hb with kb | kb <;> rcases Qma hc with kc | kc
    ·rw [Z2 (ne b kb), Z2 (ne c kc)] at hbc; exact S.lsi b kb c kc hbc
    ·rw [mem_singleton] at kc
     rw [Z2 (ne b kb), kc, Zu] at hbc
     have := S.lt (fp_ls kb (o := o)); lia
    ·rw [mem_singleton] at kb
     rw [Z2 (ne c kc), kb, Zu] at hbc
     have := S.lt (fp_ls kc (o := o)); lia
    ·rw [mem_singleton] at kb kc; rw [kb, kc]
   ·show upd ly.ls a (hp.length + 2) b ≠ ly.rn
    have hrn : ly.rn < hp.length := S.lt (.inr (.inr (.inr (.inl ⟨hr, rfl⟩))))
    rcases Qma hb with hb | hb
    ·rw [Z2 (ne b hb)]; exact S.rls hr b hb
    ·rw [mem_singleton] at hb; subst hb; rw [Zu]; exact Qnl (Qs (Qs hrn))
   ·refine nodup_append.mpr ⟨S.ond, by simp, λ x hx y hy e => ?_⟩
    rw [mem_singleton] at hy
    exact ha (by rw [<- hy, <- e]; exact hx)
  ·refine ⟨by rw [length_set]; lia, λ i hi hn => ?_, λ i hi => ?_⟩
   ·rw [List.getElem?_set_ne (λ e => hn (by subst e; exact Zgo))]
    exact hold i hi
   ·rcases hi with rfl | rfl | rfl | ⟨hr, rfl⟩ | ⟨b, hb, hi⟩
    ·exact .inl fp_o
    ·exact .inl fp_dn
    ·exact .inl Zgo
    ·exact .inl (.inr (.inr (.inr (.inl ⟨hr, rfl⟩))))
    ·rcases Qma hb with hb | hb
     ·rcases hi with rfl | rfl
      ·left; show Fp o T ly (upd ly.li a _ b); rw [Z2 (ne b hb)]; exact fp_li hb
      ·left; show Fp o T ly (upd ly.ls a _ b); rw [Z2 (ne b hb)]; exact fp_ls hb
     ·rw [mem_singleton] at hb; subst hb
      rcases hi with rfl | rfl
      ·right; show _ <= upd ly.li b _ b; rw [Zu]; exact Qs Qr
      ·right; show _ <= upd ly.ls b _ b; rw [Zu]; exact Qs (Qs Qr)
end

theorem Zkc (T : TSt) (a : Int) : a ∈ (infoT T a).order := by
 unfold infoT
 split
 ·assumption
 ·exact mem_append_right _ (mem_singleton.mpr rfl)
theorem Zkd (T : TSt) (a : Int) : (infoT T a).order.length <= T.order.length + 1 := by
 unfold infoT
 split
 ·exact Qs Qr
 ·simp
theorem Zg8 (T : TSt) (a p : Int) : ((infoT T a).sc p).length <= (T.sc p).length := by
 unfold infoT
 split
 ·exact Qkk Qr Qr
 ·show (upd T.sc a [] p).length <= _
  unfold upd
  split <;> simp
theorem Zqh (a : Int) (T : TSt) (p : Int) : (edgeT a T p).order.length <= T.order.length + 1 := Zkd T p
theorem Zsc (a : Int) (T : TSt) (p q : Int) : ((edgeT a T p).sc q).length <= (T.sc q).length + 1 := by
 show (upd (infoT T p).sc p ((infoT T p).sc p ++ [a]) q).length <= _
 unfold upd
 have h1 := Zg8 T p q
 split
 ·rename_i e; subst e; rw [length_append, length_singleton]; exact Qkl h1 Qr
 ·exact Qkk h1 (Qs Qr)
theorem Zhn (a : Int) : ∀ (ps : List Int) (T : TSt), (ps.foldl (edgeT a) T).order.length <= T.order.length + ps.length
 | [], T => Qr
 | p :: ps, T => by
  have h1 := Zhn a ps (edgeT a T p)
  have h2 := Zqh a T p
  simp only [foldl_cons, length_cons]
  lia
theorem Zke (a q : Int) : ∀ (ps : List Int) (T : TSt), ((ps.foldl (edgeT a) T).sc q).length <= (T.sc q).length + ps.length
 | [], T => Qr
 | p :: ps, T => by
  have h1 := Zke a q ps (edgeT a T p)
  have h2 := Zsc a T p q
  simp only [foldl_cons, length_cons]
  lia
theorem Zmd {o : Nat} {T T' : TSt} {ly : Lay} {hp hp' : List MO} (hl : hp'.length = hp.length) (ho : ∀ i, ¬ Fp o T ly i -> hp'[i]? = hp[i]?) (h1 : T'.order = T.order) (h2 : T'.ready = T.ready) : Grow o T ly hp T' ly hp' :=
 ⟨Nat.le_of_eq hl.symm, λ i _ hn => ho i hn, λ i hi => .inl ((fp_eq h1 (by rw [h2]) i).mp hi)⟩
section
variable {hp : List MO} {o : Nat} {T : TSt} {ly : Lay} {fr : List PV} {E : Value -> St -> Prop}
theorem Wp.C3 (S : SAt d hp o T ly) {name : Str} (hn : ([("_node2info" : Str), "_ready_nodes", "_npassedout", "_nfinished"].contains name) = false) {Q : Unit -> St -> Prop} (h : Q () ⟨fr, hp⟩) : Wp (Mine.isIns d.TS name (.obj o)) ⟨fr, hp⟩ Q E :=
 Wp.K1 S.ins S.ns (Zr9 name hn) h
theorem Zs8 (S : SAt d hp o T ly) (a : Int) (ps : List Int) (hr : T.ready = none) (hl : T.order.length + ps.length <= 900) (hsc : ∀ q, (T.sc q).length <= 1000) {Q : PV -> St -> Prop}
  (h : ∀ hp' ly', SAt d hp' o (addT T a ps) ly' -> Grow o T ly hp (addT T a ps) ly' hp' -> Q .none ⟨fr, hp'⟩) : Wp (k_add d (.obj o :: .int a :: ps.map .int)) ⟨fr, hp⟩ Q E := by
 refine Wp.A1 (init := [.obj o, .int a, .tup (ps.map .int), .undef, .undef, .undef]) ?_ ?_
 ·show (match lenOk (ps.map PV.int) with | true => _ | false => _) = _
  rw [show lenOk (ps.map PV.int) = true from decide_eq_true (by rw [length_map]; exact Qfrb hl rfl)]
 unfold g_add
 refine Wp.I (Wp.A2 (Wp.Y (Wp.D6 S rfl ?_)))
 rw [Zj8 hr]
 refine Wp.L (Wp.A7 (x := .none) rfl ?_)
 refine Wp.N (Wp.I (Wp.S (Wp.B5 (Wp.B rfl rfl (Wp.C3 S (by kernel_rfl) (Wp.R (Wp.B rfl rfl (Zfm S a (Qflb hl rfl) λ hpB ly1 S1 g₁ => Wp.H ?_))))))))
 have ha := Zkc T a
 refine Wp.I (Wp.C4 (Wp.B (v := .obj (ly1.li a)) rfl rfl (Wp.B4 (S1.inf a ha) rfl rfl (Wp.C (Wp.R (Wp.B rfl rfl (Wp.B0 (xs := ps.map .int) (.inr rfl) (by rw [length_map]; exact Qfrb hl rfl) (Wp.C8 (Wp.u (S1.inf a ha) (by decide) ?_)))))))))
 rw [length_map]
 have S2 := S1.setNp ha ((infoT T a).np a + ps.length)
 have gC : Grow o (infoT T a) ly1 hpB { infoT T a with np := upd (infoT T a).np a ((infoT T a).np a + ps.length) } ly1 (hpB.set (ly1.li a) (.slt d.NI (ly1.dx a) [some (.int a), some (.int ((infoT T a).np a + ps.length)), some (.obj (ly1.ls a))])) :=
  Zmd (by rw [length_set]) (λ i hi => by rw [List.getElem?_set_ne (λ e => hi (by rw [<- e]; exact fp_li ha))]) rfl rfl
 refine Wp.I (Wp.i (Wp.B rfl rfl ?_))
 refine Wp.X (λ k => Ex2 (λ w4 w5 => [.obj o, .int a, .tup (ps.map .int), .obj (ly1.li a), w4, w5]) (λ hp' => ∃ ly', SAt d hp' o ((ps.take k).foldl (edgeT a) { infoT T a with np := upd (infoT T a).np a ((infoT T a).np a + ps.length) }) ly' ∧
   Grow o T ly hp ((ps.take k).foldl (edgeT a) { infoT T a with np := upd (infoT T a).np a ((infoT T a).np a + ps.length) }) ly' hp')) ps.length (λ k μ hI hk => ?_) fuel 0 _ (by unfold fuel; exact Qfrl hl rfl) (Nat.zero_le _)
  (.mk ⟨ly1, S2, g₁.trans gC⟩)
 obtain ⟨ly', S', g'⟩ := hI
 rename_i w4 w5 hp'
 rw [Zeq, List.getElem?_map]
 cases hx : ps[k]? with
 | none =>
  left
  have hk' : k = ps.length := by have := Qgn hx; lia
  subst hk'
  rw [take_length] at S' g'
  exact ⟨rfl, Wp.N (h _ _ S' g')⟩
 | some p =>
  right
  refine ⟨(Qgl hx), .int p, rfl, Wp.H ?_⟩
  have b1 := Zhn a (ps.take k) { infoT T a with np := upd (infoT T a).np a ((infoT T a).np a + ps.length) }
  have b2 : (infoT T a).order.length <= T.order.length + 1 := Zkd T a
  have b3 : (ps.take k).length <= ps.length := by rw [length_take]; lia
  unfold Zl9
  refine Wp.I (Wp.S (Wp.B5 (Wp.B rfl rfl (Wp.C3 S' (by kernel_rfl) (Wp.R (Wp.B rfl rfl (Zfm S' p ?_ λ hp2 ly2 S3 gD => Wp.H ?_)))))))
  ·have b4 : ({ infoT T a with np := upd (infoT T a).np a ((infoT T a).np a + ps.length) } : TSt).order = (infoT T a).order := rfl
   rw [b4] at b1
   lia
  have hp_ := Zkc ((ps.take k).foldl (edgeT a) { infoT T a with np := upd (infoT T a).np a ((infoT T a).np a + ps.length) }) p
  have b5 := Zke a p (ps.take k) { infoT T a with np := upd (infoT T a).np a ((infoT T a).np a + ps.length) }
  have b6 : ((infoT T a).sc p).length <= (T.sc p).length := Zg8 T a p
  have b7 := Zg8 ((ps.take k).foldl (edgeT a) { infoT T a with np := upd (infoT T a).np a ((infoT T a).np a + ps.length) }) p p
  have b8 := hsc p
  have b9 : ({ infoT T a with np := upd (infoT T a).np a ((infoT T a).np a + ps.length) } : TSt).sc = (infoT T a).sc := rfl
  rw [b9] at b5
  refine Wp.I (Wp.A8 (Wp.j (Wp.C2 (Wp.B (v := .obj (ly2.li p)) rfl rfl (Wp.B4 (S3.inf p hp_) rfl rfl (Wp.W (S3.suc p hp_) (Wp.B rfl rfl (Wp.l (S3.suc p hp_) (by rw [length_map]; lia) ?_))))))))
  refine Wp.N ?_
  try dsimp only
  have S4 := S3.setSc hp_ ((infoT ((ps.take k).foldl (edgeT a) { infoT T a with np := upd (infoT T a).np a ((infoT T a).np a + ps.length) }) p).sc p ++ [a])
  rw [map_append] at S4
  refine Ex2.mk ⟨ly2, ?_, ?_⟩
  ·rw [Zc4 (f := edgeT a) hx]
   exact S4
  ·rw [Zc4 (f := edgeT a) hx]
   exact g'.trans (gD.trans (Zmd (by rw [length_set]) (λ i hi => by rw [List.getElem?_set_ne (λ e => hi (by rw [<- e]; exact fp_ls hp_))]) rfl rfl))
end

noncomputable def T0 : TSt := { order := [], np := λ _ => 0, sc := λ _ => [], ready := none, passed := 0, fin := 0 }
section
variable {hp : List MO} {fr : List PV} {E : Value -> St -> Prop}
theorem put_1 {n : PV} : nsPut ("_node2info" : Str) n [] = [(("_node2info" : Str), n)] := by kernel_rfl
theorem put_2 {n r : PV} : nsPut ("_ready_nodes" : Str) r [(("_node2info" : Str), n)] = [(("_node2info" : Str), n), (("_ready_nodes" : Str), r)] := by kernel_rfl
theorem put_3 {n r p : PV} : nsPut ("_npassedout" : Str) p [(("_node2info" : Str), n), (("_ready_nodes" : Str), r)] = [(("_node2info" : Str), n), (("_ready_nodes" : Str), r), (("_npassedout" : Str), p)] := by kernel_rfl
theorem put_4 {n r p q : PV} : nsPut ("_nfinished" : Str) q [(("_node2info" : Str), n), (("_ready_nodes" : Str), r), (("_npassedout" : Str), p)] = [(("_node2info" : Str), n), (("_ready_nodes" : Str), r), (("_npassedout" : Str), p), (("_nfinished" : Str), q)] := by kernel_rfl
end

section
variable {hp : List MO} {fr : List PV} {E : Value -> St -> Prop}
theorem Wp.G9 {i : Nat} {xs : List Int} {k : Int} {Q : Bool -> St -> Prop} (e : hp[i]? = some (.set xs)) (h : Q (decide (k ∈ xs)) ⟨fr, hp⟩) : Wp (pCmp .In (.int k) (.obj i)) ⟨fr, hp⟩ Q E := by
 refine Wp.J ?_ h
 show pIn (.int k) (.obj i) ⟨fr, hp⟩ = _
 unfold pIn
 try dsimp only
 rw [e]
theorem Wp.K3 {i : Nat} {es : List (Int × PV)} {ep : Nat} {k : Int} {Q : Bool -> St -> Prop} (e : hp[i]? = some (.dct es ep)) (h : Q (dHas es k) ⟨fr, hp⟩) : Wp (pCmp .In (.int k) (.obj i)) ⟨fr, hp⟩ Q E := by
 refine Wp.J ?_ h
 show pIn (.int k) (.obj i) ⟨fr, hp⟩ = _
 unfold pIn
 try dsimp only
 rw [e]
 rfl
theorem Wp.F3 {i : Nat} {xs : List Int} {Q : Nat × List Int -> St -> Prop} (e : hp[i]? = some (.set xs)) (h : Q (i, xs) ⟨fr, hp⟩) : Wp (Mine.theSet (.obj i)) ⟨fr, hp⟩ Q E := by
 refine Wp.J ?_ h
 unfold Mine.theSet
 try dsimp only
 rw [e]
theorem Wp.I0 {i : Nat} {xs : List Int} {k : Int} {Q : PV -> St -> Prop} (e : hp[i]? = some (.set xs)) (hl : xs.length + 1 < 4096) (hk : k ∉ xs) (h : Q .none ⟨fr, hp.set i (.set (xs ++ [k]))⟩) : Wp (pSetAdd (.obj i) [.int k]) ⟨fr, hp⟩ Q E := by
 refine Wp.C (Wp.F3 e (Wp.C (Wp.A6 (decide_eq_true hl) (Wp.C (Wp.E2 (Wp.L ?_))))))
 show Q .none ⟨fr, hp.set i (.set (addInt xs k))⟩
 unfold addInt
 rw [decide_eq_false hk]
 exact h
theorem Wp.G7 {fo : PM PV} {ga : PM (List PV)} {μ : St} {Q : PV -> St -> Prop} (h : Wp fo μ (λ x μ1 => Wp (Mine.theSet x) μ1 (λ _ μ2 => Wp ga μ2 (λ ys μ3 => Wp (pSetAdd x ys) μ3 Q E) E) E) E) : Wp (Mine.mSetAdd fo ga) μ Q E :=
 Wp.C (h.mono (λ _ _ h => Wp.C (h.mono (λ _ _ h => Wp.C h) λ _ _ e => e)) λ _ _ e => e)
theorem Wp.C7 {μ : St} {x : PV} {xs : List PV} {Q : List PV -> St -> Prop} (e : isLst μ.hp x = some xs) (h : Q xs μ) : Wp (Mine.aLst x) μ Q E := by
 refine Wp.J ?_ h
 unfold Mine.aLst
 rw [e]
theorem Wp.D7 {f : PM (List PV)} {μ : St} {Q : PV -> St -> Prop} (h : Wp f μ (λ xs μ' => xs.length <= 1000000 ∧ Q (.lst xs) μ') E) : Wp (Mine.eList false f) μ Q E :=
 Wp.C (h.mono (λ xs μ' h => Wp.C (Wp.A6 (decide_eq_true h.1) (Wp.L h.2))) λ _ _ e => e)
theorem Wp.B8 {f : PM (List PV)} {μ : St} {Q : PV -> St -> Prop} (h : Wp f μ (λ xs μ' => xs.length <= 1000000 ∧ Q (.obj μ'.hp.length) ⟨μ'.fr, μ'.hp ++ [.lst xs]⟩) E) : Wp (Mine.eList true f) μ Q E :=
 Wp.C (h.mono (λ xs μ' h => Wp.C (Wp.A6 (decide_eq_true h.1) (Wp.C (Wp.Z (Wp.L h.2))))) λ _ _ e => e)
theorem Wp.catF {f g : PM PV} {μ : St} {Q : PV -> St -> Prop} (h : Wp f μ (λ x μ1 => Wp g μ1 (λ y μ2 => ∃ xs ys, isLst μ2.hp x = some xs ∧ isLst μ2.hp y = some ys ∧ xs.length + ys.length <= 1000000 ∧ Q (.lst (xs ++ ys)) μ2) E) E) : Wp (Mine.eCat false f g) μ Q E :=
 Wp.C (h.mono (λ x μ1 h => Wp.C (h.mono (λ y μ2 hh => hh.elim λ xs hh => hh.elim λ ys q => Wp.C (Wp.C7 q.1 (Wp.C (Wp.C7 q.2.1 (Wp.C (Wp.A6 (decide_eq_true (by rw [length_append]; exact q.2.2.1)) (Wp.L q.2.2.2))))))) λ _ _ e => e)) λ _ _ e => e)
theorem Wp.F4 {f g : PM PV} {μ : St} {Q : PV -> St -> Prop} (h : Wp f μ (λ x μ1 => Wp g μ1 (λ y μ2 => ∃ xs, ∃ k : Nat, isLst μ2.hp x = some xs ∧ y = .int k ∧ k <= xs.length ∧ xs.length <= 1000000 ∧ Q (.lst (xs.drop k)) μ2) E) E) : Wp (Mine.eSlice false f g) μ Q E :=
 Wp.C (h.mono (λ x μ1 h => Wp.C (h.mono (λ y μ2 hh => by
  obtain ⟨xs, k, e1, e2, hk, hl, h⟩ := hh
  subst e2
  refine Wp.C (Wp.C7 e1 (Wp.C (Wp.A6 ?_ (Wp.C (Wp.A6 (decide_eq_true ?_) (Wp.L ?_))))))
  ·simp only [Bool.and_eq_true, decide_eq_true_eq]
   exact ⟨⟨by lia, Qck hk⟩, decide_eq_true hl⟩
  ·rw [length_drop]; lia
  ·simpa using h) λ _ _ e => e)) λ _ _ e => e)
theorem Wp.J7 {i : Nat} {xs : List PV} {Q : PV -> St -> Prop} (e : hp[i]? = some (.lst xs)) (h : Q (.obj hp.length) ⟨fr, hp ++ [.itr i 0]⟩) : Wp (Mine.pIter [.obj i]) ⟨fr, hp⟩ Q E :=
 Wp.C (Wp.W e (Wp.C (Wp.Z (Wp.L h))))
theorem Wp.eNxt {f : PM PV} {μ : St} {Q : PV -> St -> Prop} (h : Wp f μ (λ x μ' => ∃ i l k, x = .obj i ∧ μ'.hp[i]? = some (.itr l k) ∧ Q (.nxt i) μ') E) : Wp (Mine.eNxt f) μ Q E :=
 Wp.C (h.mono (λ x μ' hh => by
  obtain ⟨i, l, k, e, e2, h⟩ := hh
  subst e
  refine Wp.J ?_ h
  try dsimp only
  rw [e2]) λ _ _ e => e)
theorem Wp.J2 {fo : PM PV} {μ : St} {Q : PV -> St -> Prop} (h : Wp fo μ (λ x μ1 => ∃ i xs y, x = .obj i ∧ μ1.hp[i]? = some (.lst (xs ++ [y])) ∧ xs.length < 1000000 ∧ Q y ⟨μ1.fr, μ1.hp.set i (.lst xs)⟩) E) : Wp (Mine.mPop fo) μ Q E :=
 Wp.C (h.mono (λ x μ1 hh => by
  obtain ⟨i, xs, y, e, e2, hl, h⟩ := hh
  subst e
  obtain ⟨fr, hp⟩ := μ1
  refine Wp.C (Wp.W e2 (Wp.C (Wp.W e2 (Wp.C (Wp.A6 (decide_eq_true (by simp; exact Qs1 hl)) ?_)))))
  try dsimp only
  rw [List.getLast?_concat]
  refine Wp.C (Wp.E2 (Wp.L ?_))
  rw [List.dropLast_concat]
  exact h) λ _ _ e => e)
theorem Wp.del {g k : PM PV} {μ : St} {Q : MF -> St -> Prop} (h : Wp g μ (λ x μ1 => Wp k μ1 (λ y μ2 => ∃ i es ep z, x = .obj i ∧ y = .int z ∧ μ2.hp[i]? = some (.dct es ep) ∧ es.length <= 1000000 ∧ dHas es z = true ∧ Q .next ⟨μ2.fr, μ2.hp.set i (.dct (dDel es z) (ep + 1))⟩) E) E) : Wp (sDel g k) μ Q E :=
 Wp.C (h.mono (λ x μ1 h => Wp.C (h.mono (λ y μ2 hh => by
  obtain ⟨i, es, ep, z, e1, e2, e3, hl, hz, h'⟩ := hh
  subst e1 e2
  refine Wp.C (Wp.J (a := ()) (μ' := ⟨μ2.fr, μ2.hp.set i (.dct (dDel es z) (ep + 1))⟩) ?_ (Wp.L h'))
  unfold pDelItem
  try dsimp only
  rw [e3]
  try dsimp only
  rw [show lenOk es = true from decide_eq_true hl, hz]) λ _ _ e => e)) λ _ _ e => e)
theorem Wp.F9 {i l k : Nat} {xs : List PV} {y : PV} {Q : PV -> St -> Prop} (e : hp[i]? = some (.itr l k)) (el : hp[l]? = some (.lst xs)) (hy : xs[k]? = some y) (h : Q y ⟨fr, hp.set i (.itr l (k + 1))⟩) : Wp (pNext (.nxt i) []) ⟨fr, hp⟩ Q E := by
 refine Wp.J ?_ h
 unfold pNext
 try dsimp only
 rw [e]; try dsimp only
 rw [el]; try dsimp only
 rw [hy]
theorem Wp.G0 {i l k : Nat} {xs : List PV} {Q : PV -> St -> Prop} (e : hp[i]? = some (.itr l k)) (el : hp[l]? = some (.lst xs)) (hy : xs[k]? = none) (h : E (.type "StopIteration") ⟨fr, hp.set i .dead⟩) : Wp (pNext (.nxt i) []) ⟨fr, hp⟩ Q E := by
 refine .mk ?_
 unfold Wp0 pNext
 try dsimp only
 rw [e]; try dsimp only
 rw [el]; try dsimp only
 rw [hy]
 exact h
theorem Wp.D1 {f : PM PV} {μ : St} {Q : PV -> St -> Prop} (h : Wp f μ (λ x μ' => Wp (pNext x []) μ' Q E) E) : Wp (Mine.eNextCall f) μ Q E := Wp.C h
theorem Wp.J1 {f g : PM MF} {m : Value -> Option Bool} {μ : St} {Q : MF -> St -> Prop} (h : Wp f μ Q (λ x μ' => m x = some true ∧ Wp g μ' Q (λ _ _ => False))) : Wp (tryM f [(m, g)]) μ Q E := by
 refine .mk ?_
 have h := h.get
 unfold Wp0 at h ⊢
 unfold tryM
 cases e : f μ with
 | ok a μ' => rw [e] at h; exact h
 | bad => rw [e] at h; exact h
 | exc x μ' =>
  rw [e] at h
  try dsimp only at h ⊢
  obtain ⟨h1, h2⟩ := h
  have h2 := h2.get
  unfold Wp0 at h2
  rw [Zhj, h1]
  try dsimp only
  unfold noExc
  dsimp only
  cases e2 : g μ' with
  | ok a μ'' => rw [e2] at h2; exact h2
  | exc x' μ'' => rw [e2] at h2; exact h2.elim
  | bad => rw [e2] at h2; exact h2.elim
theorem Wp.H8 {i : Nat} {xs : List PV} {Q : Bool -> St -> Prop} (e : hp[i]? = some (.lst xs)) (hl : xs.length <= 1000000) (h : Q (!xs.isEmpty) ⟨fr, hp⟩) : Wp (pTruth (.obj i)) ⟨fr, hp⟩ Q E := by
 refine Wp.J ?_ h
 unfold pTruth
 try dsimp only
 rw [e]; try dsimp only
 rw [decide_eq_true hl]
theorem Wp.H2 {i : Nat} {xs : List PV} {y : PV} {Q : PV -> St -> Prop} (e : hp[i]? = some (.lst (xs ++ [y]))) (hl : xs.length < 1000000) (h : Q y ⟨fr, hp⟩) : Wp (pGet (.obj i) (.int (-1))) ⟨fr, hp⟩ Q E := by
 refine Wp.J ?_ h
 unfold pGet
 try dsimp only
 rw [e]; try dsimp only
 have : pIdx (xs ++ [y]).length (-1) = some xs.length := by
  unfold pIdx
  rw [if_neg (by lia), if_pos (by simp; lia)]
  congr 1
  simp only [length_append, length_singleton]
  lia
 rw [this]
 simp
end

inductive FS where
 | proc (x : Int) (st : List (Int × List Int)) (seen : List Int)
 | back (st : List (Int × List Int)) (seen : List Int)
inductive FRes where
 | ring (r : List Int)
 | out (seen : List Int)
noncomputable def ringOf (x : Int) (st : List (Int × List Int)) : List Int := (st.map (·.1)).reverse.drop ((st.map (·.1)).reverse.idxOf x) ++ [x]
noncomputable def runF (sc : Int -> List Int) : Nat -> FS -> Option FRes
 | 0, _ => none
 | n + 1, .proc x st seen => match decide (x ∈ seen), decide (x ∈ st.map (·.1)) with
  | true, true => some (.ring (ringOf x st))
  | true, false => runF sc n (.back st seen)
  | false, _ => runF sc n (.back ((x, sc x) :: st) (seen ++ [x]))
 | n + 1, .back [] seen => some (.out seen)
 | n + 1, .back ((x, []) :: st) seen => runF sc n (.back st seen)
 | n + 1, .back ((x, y :: ys) :: st) seen => runF sc n (.proc y ((x, ys) :: st) seen)
theorem Zgp {sc : Int -> List Int} {n : Nat} {x : Int} {st : List (Int × List Int)} {seen : List Int} : runF sc (n + 1) (.proc x st seen) = (match decide (x ∈ seen), decide (x ∈ st.map (·.1)) with | true, true => some (.ring (ringOf x st)) | true, false => runF sc n (.back st seen) | false, _ => runF sc n (.back ((x, sc x) :: st) (seen ++ [x]))) := rfl
noncomputable def findF (sc : Int -> List Int) (n : Nat) : List Int -> List Int -> Option (Option (List Int))
 | [], _ => some none
 | x :: xs, seen => match decide (x ∈ seen) with
  | true => findF sc n xs seen
  | false => match runF sc n (.proc x [] seen) with
   | some (.ring r) => some (some r)
   | some (.out seen') => findF sc n xs seen'
   | none => none
theorem Ze3 {sc : Int -> List Int} {n : Nat} {x : Int} {xs seen : List Int} : findF sc n (x :: xs) seen = (match decide (x ∈ seen) with | true => findF sc n xs seen | false => match runF sc n (.proc x [] seen) with | some (.ring r) => some (some r) | some (.out seen') => findF sc n xs seen' | none => none) := rfl
set_option genInjectivity false in
structure En where
 x : Int
 r : List Int
 i : Nat
noncomputable def pureS (st : List En) : List (Int × List Int) := st.map λ e => (e.x, e.r)
noncomputable def nmS (st : List En) : List Int := (st.map (·.x)).reverse
theorem Zkf (st : List En) : (pureS st).map (·.1) = st.map (·.x) := by unfold pureS; rw [map_map]; rfl
noncomputable def enumF (xs : List Int) : List (Int × PV) := xs.zipIdx.map λ p => (p.1, PV.int p.2)
theorem Zkg (xs : List Int) (x : Int) : enumF (xs ++ [x]) = enumF xs ++ [(x, .int xs.length)] := by unfold enumF; simp [List.zipIdx_append]
theorem Zkh (xs : List Int) : (enumF xs).length = xs.length := by unfold enumF; simp
theorem Zf1 (xs : List Int) (x : Int) : dHas (enumF xs) x = decide (x ∈ xs) := by
 unfold dHas enumF
 rw [Bool.eq_iff_iff, any_eq_true]
 simp only [decide_eq_true_eq, beq_iff_eq, mem_map]
 constructor
 ·rintro ⟨e, ⟨p, hp, rfl⟩, rfl⟩
  exact (List.mem_zipIdx' hp).2 ▸ getElem_mem _
 ·intro h
  obtain ⟨k, hk⟩ := List.getElem?_of_mem h
  exact ⟨_, ⟨(x, k), List.mem_zipIdx_iff_getElem?.mpr hk, rfl⟩, rfl⟩
theorem Zfn (x : Int) : ∀ (xs : List Int) (n : Nat), x ∈ xs -> dGet ((xs.zipIdx n).map λ p => (p.1, PV.int p.2)) x = some (.int ((xs.idxOf x + n : Nat) : Int))
 | y :: ys, n, h => by
  unfold dGet
  rw [List.zipIdx_cons, map_cons, List.find?_cons]
  try dsimp only
  cases e : y == x with
  | true =>
   rw [eq_of_beq e, List.idxOf_cons_self]
   simp
  | false =>
   have hne : y ≠ x := λ q => by rw [q] at e; simp at e
   rcases Qmc h with h | h
   ·exact absurd h.symm hne
   ·have := Zfn x ys (n + 1) h
    unfold dGet at this
    try dsimp only
    rw [this, List.idxOf_cons, e]
    show some (PV.int ((ys.idxOf x + (n + 1) : Nat) : Int)) = some (PV.int ((ys.idxOf x + 1 + n : Nat) : Int))
    congr 3
    lia
theorem Zqi {xs : List Int} {x : Int} (h : x ∈ xs) : dGet (enumF xs) x = some (.int (xs.idxOf x : Nat)) := Zfn x xs 0 h
theorem Zqj {xs : List Int} {x : Int} (h : x ∉ xs) : dDel (enumF (xs ++ [x])) x = enumF xs := by
 rw [Zkg]
 unfold dDel
 rw [filter_append, List.filter_eq_self.mpr]
 ·simp
 ·intro e he
  unfold enumF at he
  obtain ⟨p, hp, rfl⟩ := Qmm he
  have : p.1 ∈ xs := (List.mem_zipIdx' hp).2 ▸ getElem_mem _
  simp
  intro q; exact h (q ▸ this)
structure FAt (o : Nat) (T : TSt) (ly : Lay) (hp0 hp : List MO) (sk it se nd : Nat) (st : List En) (seen : List Int) : Prop where
 len : hp0.length <= hp.length
 old : ∀ i, i < hp0.length -> hp[i]? = hp0[i]?
 ge : hp0.length <= sk ∧ hp0.length <= it ∧ hp0.length <= se ∧ hp0.length <= nd
 ne : sk ≠ it
 stk : hp[sk]? = some (.lst ((nmS st).map .int))
 itk : hp[it]? = some (.lst (((st.map (·.i)).reverse).map .nxt))
 set : hp[se]? = some (.set seen)
 dct : ∃ ep, hp[nd]? = some (.dct (enumF (nmS st)) ep)
 iter : ∀ e ∈ st, hp0.length <= e.i ∧ ∃ pos, hp[e.i]? = some (.itr (ly.ls e.x) pos) ∧ (T.sc e.x).drop pos = e.r
 inod : (st.map (·.i)).Nodup
 xnod : (st.map (·.x)).Nodup
 xin : ∀ e ∈ st, e.x ∈ seen
 snod : seen.Nodup
 sin : ∀ a ∈ seen, a ∈ T.order
theorem Zp {α : Type} [DecidableEq α] {xs ys : List α} (h : xs.Nodup) (hs : ∀ a ∈ xs, a ∈ ys) : xs.length <= ys.length := by
 induction xs generalizing ys with
 | nil => simp
 | cons x xs ih =>
  rw [nodup_cons] at h
  have hx := hs x mem_cons_self
  have := ih (ys := ys.erase x) h.2 λ a ha => by
   rw [List.mem_erase_of_ne (λ e : a = x => h.1 (e ▸ ha))]
   exact hs a (mem_cons_of_mem _ ha)
  rw [List.length_erase_of_mem hx] at this
  have : 0 < ys.length := List.length_pos_of_mem hx
  simp; lia
section
variable {hp hp0 : List MO} {o : Nat} {T : TSt} {ly : Lay} {fr : List PV} {E : Value -> St -> Prop} {sk it se nd : Nat} {st : List En} {seen : List Int}
theorem FAt.sat (F : FAt o T ly hp0 hp sk it se nd st seen) (S : SAt d hp0 o T ly) : SAt d hp o T ly := S.keep λ i hi => F.old i (S.lt hi)
theorem FAt.seenLen (F : FAt o T ly hp0 hp sk it se nd st seen) : seen.length <= T.order.length := Zp F.snod F.sin
theorem FAt.stLen (F : FAt o T ly hp0 hp sk it se nd st seen) : st.length <= T.order.length := by
 have := Zp (ys := seen) F.xnod (λ a ha => by obtain ⟨e, he, rfl⟩ := Qmm ha; exact F.xin e he)
 rw [length_map] at this
 exact Nat.le_trans this F.seenLen
theorem FAt.nmLen (F : FAt o T ly hp0 hp sk it se nd st seen) : (nmS st).length = st.length := by unfold nmS; simp
noncomputable abbrev frF (o : Nat) (ly : Lay) (sk it se nd : Nat) (v : PV) : List PV := [.obj o, .obj ly.n2i, .obj sk, .obj it, .obj se, .obj nd, v]
theorem Zsd (S : SAt d hp0 o T ly) (hsub : ∀ a ∈ T.order, ∀ s ∈ T.sc a, s ∈ T.order) (hol : T.order.length <= 1000) {res : FRes} {Q : MF -> St -> Prop} {N : Nat}
  (hproc : ∀ hp' st' y n', n' < N -> FAt o T ly hp0 hp' sk it se nd st' seen -> y ∈ T.order -> runF T.sc n' (.proc y (pureS st') seen) = some res -> Q .next ⟨frF o ly sk it se nd (.int y), hp'⟩)
  (hout : ∀ hp' v, FAt o T ly hp0 hp' sk it se nd [] seen -> res = .out seen -> Q .brk ⟨frF o ly sk it se nd v, hp'⟩) :
  ∀ (n : Nat) (hp : List MO) (st : List En) (v : PV) (m : Nat), n <= N -> FAt o T ly hp0 hp sk it se nd st seen -> runF T.sc n (.back (pureS st) seen) = some res -> st.length < m ->
   Wp (whileM (bVal (Mine.getVar 2)) (Zcs d) (sSeq (Pure.pure .brk) sNext) m) ⟨frF o ly sk it se nd v, hp⟩ Q E := by
 intro n
 induction n with
 | zero => intro hp st v m _ F hrun _; cases hrun
 | succ n ih =>
  intro hp st v m hN F hrun hm
  cases m with
  | zero => lia
  | succ m =>
  rw [Zfp]
  refine Wp.C (Wp.B6 (Wp.B (v := .obj sk) rfl rfl (Wp.H8 F.stk (by rw [length_map, F.nmLen]; have := F.stLen; exact Qkkb this hol rfl) ?_)))
  cases st with
  | nil =>
   show Wp (sSeq (Pure.pure .brk) sNext) _ Q E
   cases hrun
   exact Wp.I (Wp.L (hout hp v F rfl))
  | cons e st =>
   have hne : (!(List.map PV.int (nmS (e :: st))).isEmpty) = true := by unfold nmS; simp
   rw [hne]
   show Wp (Zcs d >>= flowM _) _ Q E
   obtain ⟨x, r, i⟩ := e
   have enm : nmS (⟨x, r, i⟩ :: st) = nmS st ++ [x] := by unfold nmS; simp
   have eit : ((⟨x, r, i⟩ :: st : List En).map (·.i)).reverse.map PV.nxt = ((st.map (·.i)).reverse.map PV.nxt) ++ [PV.nxt i] := by simp
   obtain ⟨hige, pos, hi, hr⟩ := F.iter ⟨x, r, i⟩ mem_cons_self
   have hxo : x ∈ T.order := F.sin x (F.xin ⟨x, r, i⟩ mem_cons_self)
   have S' := F.sat S
   have hsuc := S'.suc x hxo
   have hstl := F.stLen
   rw [length_cons] at hstl hm
   have hitk := F.itk
   rw [eit] at hitk
   have hstk := F.stk
   rw [enm, map_append] at hstk
   obtain ⟨ep, hdct⟩ := F.dct
   have hnil : (st.map (·.i)).length = st.length := by simp
   have hlast : Wp (Mine.eSub (Mine.getVar 3) (Mine.eNeg (Pure.pure (PV.int 1)))) ⟨frF o ly sk it se nd v, hp⟩ (λ y μ' => y = .nxt i ∧ μ' = ⟨frF o ly sk it se nd v, hp⟩) (λ _ _ => False) :=
    Wp.f (Wp.B (v := .obj it) rfl rfl (Wp.H4 (Wp.L ⟨1, rfl, Wp.H2 hitk (by simp; exact Qkkb hstl hol rfl) ⟨rfl, rfl⟩⟩)))
   obtain ⟨y0, μ0, eA, rfl, rfl⟩ := hlast.run
   have xnod := F.xnod
   have inod := F.inod
   rw [map_cons, nodup_cons] at xnod inod
   refine Wp.C ?_
   unfold Zcs
   cases r with
   | cons y ys =>
    have hy : ((T.sc x).map PV.int)[pos]? = some (.int y) := by
     have hr : (T.sc x).drop pos = y :: ys := hr
     have : ((T.sc x).drop pos)[0]? = some y := by rw [hr]; rfl
     rw [List.getElem?_drop] at this
     rw [List.getElem?_map]
     simpa using this
    refine Wp.I (Wp.J1 (Wp.I (Wp.S (Wp.D1 (Wp.J eA (Wp.F9 hi hsuc hy (Wp.H ?_)))))))
    refine Wp.I (Wp.L ?_)
    show Wp (flowM _ .brk) _ Q E
    have hyo : y ∈ T.order := hsub x hxo y (by
     have hr : (T.sc x).drop pos = y :: ys := hr
     exact List.mem_of_mem_drop (hr ▸ mem_cons_self))
    refine Wp.L (hproc _ (⟨x, ys, i⟩ :: st) y n hN ?_ hyo hrun)
    refine ⟨by rw [length_set]; exact F.len, λ j hj => by rw [List.getElem?_set_ne (show i ≠ j by have : hp0.length <= i := hige; lia)]; exact F.old j hj, F.ge, F.ne, ?_, ?_, Zf hi F.set (mn rfl), ⟨ep, ?_⟩, λ e he => ?_, F.inod, F.xnod, λ e he => ?_, F.snod, F.sin⟩
    ·exact Zf hi F.stk (mn rfl)
    ·exact Zf hi F.itk (mn rfl)
    ·exact Zf hi hdct (mn rfl)
    ·rcases Qmc he with rfl | he
     ·refine ⟨hige, pos + 1, Zm hi, ?_⟩
      have hr : (T.sc x).drop pos = y :: ys := hr
      show (T.sc x).drop (pos + 1) = ys
      rw [<- List.drop_drop, hr]; rfl
     ·obtain ⟨q1, p', q2, q3⟩ := F.iter e (mem_cons_of_mem _ he)
      refine ⟨q1, p', Zj (λ q => inod.1 ?_) q2, q3⟩
      rw [show i = e.i from q]
      exact mem_map_of_mem (f := (·.i)) he
    ·rcases Qmc he with rfl | he
     ·exact F.xin ⟨x, y :: ys, i⟩ mem_cons_self
     ·exact F.xin e (mem_cons_of_mem _ he)
   | nil =>
    have hy : ((T.sc x).map PV.int)[pos]? = none := by
     have hr : (T.sc x).drop pos = [] := hr
     rw [List.drop_eq_nil_iff] at hr
     rw [List.getElem?_eq_none_iff, length_map]; exact hr
    refine Wp.I (Wp.J1 (Wp.I (Wp.S (Wp.D1 (Wp.J eA (Wp.G0 hi hsuc hy ?_))))))
    refine ⟨by unfold isStopIteration; simp, ?_⟩
    have k1 := Zf (v := MO.dead) hi hstk (mn rfl)
    have k2 := Zf (v := MO.dead) hi hdct (mn rfl)
    have k3 := Zf (v := MO.dead) hi hitk (mn rfl)
    refine Wp.I (Wp.del (Wp.B (v := .obj nd) rfl rfl (Wp.J2 (Wp.B (v := .obj sk) rfl rfl ⟨sk, (nmS st).map .int, .int x, rfl, k1, by rw [length_map]; unfold nmS; simp; exact Qkkb hstl hol rfl, ?_⟩))))
    have k4 := Zf (v := MO.lst ((nmS st).map .int)) k1 k2 (mn rfl)
    have hxn : x ∉ nmS st := λ q => xnod.1 (by unfold nmS at q; simpa using q)
    refine ⟨nd, _, ep, x, rfl, rfl, k4, by rw [Zkh, F.nmLen, length_cons]; exact Qkkb hstl hol rfl, ?_, ?_⟩
    ·rw [Zf1, enm]; exact decide_eq_true (by simp)
    rw [show dDel (enumF (nmS (⟨x, [], i⟩ :: st))) x = enumF (nmS st) from by rw [enm]; exact Zqj hxn]
    have k5 := Zj (v := MO.lst ((nmS st).map .int)) F.ne k3
    have k6 := Zf (v := MO.dct (enumF (nmS st)) (ep + 1)) k4 k5 (mn rfl)
    refine Wp.I (Wp.A8 (Wp.J2 (Wp.B (v := .obj it) rfl rfl ⟨it, _, .nxt i, rfl, k6, by simp; exact Qkkb hstl hol rfl, ?_⟩)))
    refine Wp.N (Wp.N ?_)
    show Wp (flowM _ .next) _ Q E
    refine ih _ st v m (Qlk hN Qr) ?_ hrun (Qs1 hm)
    have old : ∀ j, j < hp0.length -> ((((hp.set i MO.dead).set sk (MO.lst ((nmS st).map .int))).set nd (MO.dct (enumF (nmS st)) (ep + 1))).set it (MO.lst ((st.map (·.i)).reverse.map .nxt)))[j]? = hp0[j]? := λ j hj => by
     have g := F.ge
     have hige : hp0.length <= i := hige
     rw [List.getElem?_set_ne (by lia), List.getElem?_set_ne (by lia), List.getElem?_set_ne (by lia), List.getElem?_set_ne (by lia)]
     exact F.old j hj
    refine ⟨by simp only [length_set]; exact F.len, old, F.ge, F.ne, ?_, ?_, ?_, ⟨ep + 1, ?_⟩, λ e he => ?_, inod.2, xnod.2, λ e he => F.xin e (mem_cons_of_mem _ he), F.snod, F.sin⟩
    ·exact Zj (Ne.symm F.ne) (Zf k4 (Zm k1) (mn rfl))
    ·exact Zm k6
    ·exact Zf k6 (Zf k4 (Zf k1 (Zf hi F.set (mn rfl)) (mn rfl)) (mn rfl)) (mn rfl)
    ·exact Zf k6 (Zm k4) (mn rfl)
    ·obtain ⟨q1, p', q2, q3⟩ := F.iter e (mem_cons_of_mem _ he)
     refine ⟨q1, p', ?_, q3⟩
     have hie : i ≠ e.i := λ q => inod.1 (by rw [show i = e.i from q]; exact mem_map_of_mem (f := (·.i)) he)
     exact Zf k6 (Zf k4 (Zf k1 (Zj hie q2) (mn rfl)) (mn rfl)) (mn rfl)
end

section
variable {hp hp0 : List MO} {o : Nat} {T : TSt} {ly : Lay} {fr : List PV} {E : Value -> St -> Prop} {sk it se nd : Nat} {st : List En} {seen : List Int}
theorem Zqk (S : SAt d hp0 o T ly) (hsub : ∀ a ∈ T.order, ∀ s ∈ T.sc a, s ∈ T.order) (hol : T.order.length <= 1000) {res : FRes} {Q : MF -> St -> Prop}
  (hring : ∀ hp' v r, res = .ring r -> hp0.length <= hp'.length -> (∀ i, i < hp0.length -> hp'[i]? = hp0[i]?) -> Q (.ret (.lst (r.map .int))) ⟨frF o ly sk it se nd v, hp'⟩)
  (hout : ∀ hp' v seen', FAt o T ly hp0 hp' sk it se nd [] seen' -> res = .out seen' -> Q .next ⟨frF o ly sk it se nd v, hp'⟩) :
  ∀ (n m : Nat) (hp : List MO) (st : List En) (seen : List Int) (x : Int), n < m -> FAt o T ly hp0 hp sk it se nd st seen -> x ∈ T.order -> runF T.sc n (.proc x (pureS st) seen) = some res ->
   Wp (whileM (bVal (Pure.pure (PV.bool true))) (Zct d) sNext m) ⟨frF o ly sk it se nd (.int x), hp⟩ Q E := by
 intro n
 induction n using Nat.strongRecOn with
 | ind n ih =>
  intro m hp st seen x hm F hx hrun
  cases n with
  | zero => cases hrun
  | succ n =>
  cases m with
  | zero => lia
  | succ m =>
  rw [Zfp]
  refine Wp.C (Wp.B6 (Wp.L (Wp.J rfl ?_)))
  show Wp (Zct d >>= flowM _) _ Q E
  refine Wp.C ?_
  unfold Zct
  have S' := F.sat S
  have hstl := F.stLen
  have hsl := F.seenLen
  obtain ⟨ep, hdct⟩ := F.dct
  have after : ∀ (hp' : List MO) (st' : List En) (seen' : List Int), FAt o T ly hp0 hp' sk it se nd st' seen' -> runF T.sc n (.back (pureS st') seen') = some res ->
    Wp (sSeq (whileM (bVal (Mine.getVar 2)) (Zcs d) (sSeq (Pure.pure .brk) sNext) fuel) sNext) ⟨frF o ly sk it se nd (.int x), hp'⟩ (λ b μ' => Wp (flowM (whileM (bVal (Pure.pure (PV.bool true))) (Zct d) sNext m) b) μ' Q E) E := λ hp' st' seen' F' hrun' => by
   refine Wp.I (Zsd S hsub hol (res := res) (N := n) (λ hp'' st'' y n' hn' F'' hy hr => ?_) (λ hp'' v F'' e => ?_) n hp' st' _ fuel Qr F' hrun' (by have := F'.stLen; unfold fuel; exact Qklb this hol rfl))
   ·exact Wp.N (ih n' (Qll hn' (Qs Qr)) m hp'' st'' _ y (by lia) F'' hy hr)
   ·exact Wp.L (hout hp'' v _ F'' e)
  refine Wp.I (Wp.A2 (Wp.Y (Wp.B (v := .int x) rfl rfl (Wp.B (v := .obj se) rfl rfl (Wp.G9 F.set ?_)))))
  rw [Zgp] at hrun
  cases hs : decide (x ∈ seen) with
  | true =>
   rw [hs] at hrun
   refine Wp.I (Wp.A2 (Wp.Y (Wp.B (v := .int x) rfl rfl (Wp.B (v := .obj nd) rfl rfl (Wp.K3 hdct ?_)))))
   rw [Zf1]
   have e1 : decide (x ∈ nmS st) = decide (x ∈ (pureS st).map (·.1)) := by rw [Zkf]; unfold nmS; simp
   rw [e1]
   cases hk : decide (x ∈ (pureS st).map (·.1)) with
   | true =>
    rw [hk] at hrun
    have hkn : x ∈ nmS st := of_decide_eq_true (e1.trans hk)
    cases hrun
    refine Wp.I (Wp.D3 (Wp.catF (Wp.F4 (Wp.B (v := .obj sk) rfl rfl (Wp.f (Wp.B (v := .obj nd) rfl rfl (Wp.B (v := .int x) rfl rfl (Wp.D5 hdct (Zqi hkn) ⟨(nmS st).map .int, (nmS st).idxOf x, Zg F.stk, rfl, ?_, ?_, ?_⟩))))))))
    ·rw [length_map]; exact Nat.le_of_lt (List.idxOf_lt_length_iff.mpr hkn)
    ·rw [length_map, F.nmLen]; exact Qkkb hstl hol rfl
    refine Wp.D7 (Wp.R (Wp.B (v := .int x) rfl rfl ⟨by simp, _, _, rfl, rfl, ?_, ?_⟩))
    ·rw [length_drop, length_map, F.nmLen]; simp; lia
    show Wp (flowM _ (.ret _)) _ Q E
    refine Wp.L ?_
    have e2 : ((nmS st).map PV.int).drop ((nmS st).idxOf x) ++ [PV.int x] = (ringOf x (pureS st)).map PV.int := by
     unfold ringOf
     rw [Zkf]
     show _ = ((nmS st).drop ((nmS st).idxOf x) ++ [x]).map PV.int
     rw [map_append, List.map_drop]; rfl
    rw [e2]
    exact hring hp _ _ rfl F.len F.old
   | false =>
    rw [hk] at hrun
    exact Wp.N (Wp.N (after hp st seen F hrun))
  | false =>
   rw [hs] at hrun
   have hxs : x ∉ seen := of_decide_eq_false hs
   have hxn : x ∉ nmS st := λ h => by
    unfold nmS at h
    rw [mem_reverse] at h
    obtain ⟨e, he, q⟩ := Qmm h
    exact hxs (q ▸ F.xin e he)
   have hsx : seen.length + 1 <= T.order.length := by
    have := Zp (xs := seen ++ [x]) (ys := T.order) (nodup_append.mpr ⟨F.snod, by simp, λ a ha b hb e => hxs (by rw [mem_singleton] at hb; rw [<- hb, <- e]; exact ha)⟩) (λ a ha => by
     rcases Qma ha with ha | ha
     ·exact F.sin a ha
     ·rw [mem_singleton] at ha; rw [ha]; exact hx)
    simpa using this
   refine Wp.I (Wp.A8 (Wp.G7 (Wp.B (v := .obj se) rfl rfl (Wp.F3 F.set (Wp.R (Wp.B (v := .int x) rfl rfl (Wp.I0 F.set (Qklb hsx hol rfl) hxs ?_)))))))
   have g := F.ge
   have S1 : SAt d (hp.set se (.set (seen ++ [x]))) o T ly := S.keep λ i hi => by
    have := S.lt hi
    rw [List.getElem?_set_ne (by lia)]; exact F.old i this
   have j1 := Zf (v := MO.set (seen ++ [x])) F.set F.itk (mn rfl)
   have hln : (hp.set se (MO.set (seen ++ [x]))).length = hp.length := by simp
   refine Wp.I (Wp.A8 (Wp.j (Wp.B (v := .obj it) rfl rfl (Wp.W j1 (Wp.eNxt ?_)))))
   refine Wp.C (Wp.R (Wp.C2 (Wp.f (Wp.B (v := .obj ly.n2i) rfl rfl (Wp.B (v := .int x) rfl rfl (Wp.D5 S1.dct (Za5 hx) (Wp.B4 (S1.inf x hx) rfl rfl ?_)))))))
   refine Wp.J7 (S1.suc x hx) ⟨hp.length, ly.ls x, 0, by rw [hln], by rw [<- hln]; exact Zdq, ?_⟩
   have j2 := getElem?_app (r := [MO.itr (ly.ls x) 0]) j1
   refine Wp.l j2 (by simp; exact Qkkb hstl hol rfl) ?_
   have k0 : ((hp.set se (MO.set (seen ++ [x]))) ++ [MO.itr (ly.ls x) 0])[hp.length]? = some (MO.itr (ly.ls x) 0) := by rw [<- hln]; exact Zdq
   have k1 := getElem?_app (r := [MO.itr (ly.ls x) 0]) (Zf (v := MO.set (seen ++ [x])) F.set F.stk (mn rfl))
   have k2 := getElem?_app (r := [MO.itr (ly.ls x) 0]) (Zf (v := MO.set (seen ++ [x])) F.set hdct (mn rfl))
   have k3 := getElem?_app (r := [MO.itr (ly.ls x) 0]) (Zm (v := MO.set (seen ++ [x])) F.set)
   have k4 : ∀ e ∈ st, ∃ pos, ((hp.set se (MO.set (seen ++ [x]))) ++ [MO.itr (ly.ls x) 0])[e.i]? = some (.itr (ly.ls e.x) pos) ∧ (T.sc e.x).drop pos = e.r := λ e he => by
    obtain ⟨_, pos, q1, q2⟩ := F.iter e he
    exact ⟨pos, getElem?_app (Zf F.set q1 (mn rfl)), q2⟩
   have k5 : ∀ j, j < hp0.length -> ((hp.set se (MO.set (seen ++ [x]))) ++ [MO.itr (ly.ls x) 0])[j]? = hp0[j]? := λ j hj => by
    have := F.len
    rw [List.getElem?_append_left (by rw [hln]; exact Qll hj this), List.getElem?_set_ne (by lia)]; exact F.old j hj
   have k6 : ((hp.set se (MO.set (seen ++ [x]))) ++ [MO.itr (ly.ls x) 0]).length = hp.length + 1 := by simp
   have k7 : ∀ e ∈ st, e.i < hp.length := λ e he => by
    obtain ⟨_, pos, q1, _⟩ := F.iter e he
    exact (Qgl q1)
   have hlen := F.len
   have k8 : it < hp.length := (Qgl F.itk)
   generalize ((hp.set se (MO.set (seen ++ [x]))) ++ [MO.itr (ly.ls x) 0]) = h₁ at j2 k0 k1 k2 k3 k4 k5 k6 ⊢
   have m1 := Zj (v := MO.lst ((st.map (·.i)).reverse.map PV.nxt ++ [PV.nxt hp.length])) (Ne.symm F.ne) k1
   have m2 := Zf (v := MO.lst ((st.map (·.i)).reverse.map PV.nxt ++ [PV.nxt hp.length])) j2 k2 (mn rfl)
   refine Wp.I (Wp.S (Wp.C (Wp.R (Wp.B (v := .obj sk) rfl rfl (Wp.B0 (.inl (Zg m1)) (by rw [length_map, F.nmLen]; exact Qkkb hstl hol rfl) ?_)))))
   rw [length_map]
   refine Wp.E1 (Wp.B (v := .obj nd) rfl rfl (Wp.B (v := .int x) rfl rfl (Wp.G4 m2 (by rw [Zkh, F.nmLen]; exact Qkkb hstl hol rfl) (by rw [Zf1]; exact decide_eq_false hxn) ?_)))
   rw [<- Zkg]
   have n1 := Zf (v := MO.dct (enumF (nmS st ++ [x])) (ep + 1)) m2 m1 (mn rfl)
   refine Wp.I (Wp.A8 (Wp.j (Wp.B (v := .obj sk) rfl rfl (Wp.W n1 (Wp.B (v := .int x) rfl rfl (Wp.l n1 (by rw [length_map, F.nmLen]; exact Qkkb hstl hol rfl) ?_))))))
   refine Wp.N ?_
   have enm : nmS (⟨x, T.sc x, hp.length⟩ :: st) = nmS st ++ [x] := by unfold nmS; simp
   have i1 := Zm (v := MO.lst ((st.map (·.i)).reverse.map PV.nxt ++ [PV.nxt hp.length])) j2
   have i2 := Zf (v := MO.dct (enumF (nmS st ++ [x])) (ep + 1)) m2 i1 (mn rfl)
   have d1 := Zm (v := MO.dct (enumF (nmS st ++ [x])) (ep + 1)) m2
   refine after _ (⟨x, T.sc x, hp.length⟩ :: st) (seen ++ [x]) ?_ hrun
   refine ⟨by simp only [length_set]; lia, λ j hj => ?_, F.ge, F.ne, ?_, ?_, ?_, ⟨ep + 1, ?_⟩, λ e he => ?_, ?_, ?_, λ e he => ?_, ?_, λ a ha => ?_⟩
   ·rw [List.getElem?_set_ne (by lia), List.getElem?_set_ne (by lia), List.getElem?_set_ne (by lia)]; exact k5 j hj
   ·rw [enm, map_append]; exact Zm n1
   ·refine (Zj F.ne i2).trans ?_
    simp
   ·exact Zf n1 (Zf m2 (Zf j2 k3 (mn rfl)) (mn rfl)) (mn rfl)
   ·rw [enm]; exact Zf n1 d1 (mn rfl)
   ·rcases Qmc he with rfl | he
    ·exact ⟨hlen, 0, Zf n1 (Zf m2 (Zf j2 k0 (mn rfl)) (mn rfl)) (mn rfl), rfl⟩
    ·obtain ⟨pos, q1, q2⟩ := k4 e he
     exact ⟨(F.iter e he).1, pos, Zf n1 (Zf m2 (Zf j2 q1 (mn rfl)) (mn rfl)) (mn rfl), q2⟩
   ·rw [map_cons, nodup_cons]
    refine ⟨λ h => ?_, F.inod⟩
    obtain ⟨e, he, q⟩ := Qmm h
    have := k7 e he
    have q : e.i = hp.length := q
    lia
   ·rw [map_cons, nodup_cons]
    exact ⟨λ h => hxn (by unfold nmS; rw [mem_reverse]; exact h), F.xnod⟩
   ·rcases Qmc he with rfl | he
    ·exact mem_append_right _ (mem_singleton.mpr rfl)
    ·exact mem_append_left _ (F.xin e he)
   ·exact nodup_append.mpr ⟨F.snod, by simp, λ a ha b hb e => hxs (by rw [mem_singleton] at hb; rw [<- hb, <- e]; exact ha)⟩
   ·rcases Qma ha with ha | ha
    ·exact F.sin a ha
    ·rw [mem_singleton] at ha; rw [ha]; exact hx
end

noncomputable def ringV : Option (List Int) -> PV
 | none => .none
 | some r => .lst (r.map .int)
section
variable {hp : List MO} {o : Nat} {T : TSt} {ly : Lay} {fr : List PV} {E : Value -> St -> Prop}
theorem Zo4 {i : Nat} {es : List (Int × PV)} {ep k : Nat} {μ0 μ : St} (h₀ : μ0.hp[i]? = some (.dct es ep)) (h : μ.hp[i]? = some (.dct es ep)) : getOf (.obj i) μ0 k μ = some ((es[k]?).map λ e => .int e.1) := by
 unfold getOf
 try dsimp only
 rw [h₀, h]
 dsimp only [getO]
 rw [if_pos ⟨rfl, rfl⟩]
theorem Zme (S : SAt d hp o T ly) (hsub : ∀ a ∈ T.order, ∀ s ∈ T.sc a, s ∈ T.order) (hol : T.order.length <= 1000) {N : Nat} {res : Option (List Int)} (hf : findF T.sc N T.order [] = some res) (hN : N < fuel) {Q : PV -> St -> Prop}
  (h : ∀ hp', hp.length <= hp'.length -> (∀ i, i < hp.length -> hp'[i]? = hp[i]?) -> Q (ringV res) ⟨fr, hp'⟩) : Wp (Zgm d [.obj o]) ⟨fr, hp⟩ Q E := by
 refine Wp.A1 rfl ?_
 unfold Zjq
 refine Wp.I (Wp.S (Wp.G1 S rfl (Wp.H ?_)))
 refine Wp.I (Wp.S (Wp.B8 (Wp.A3 ⟨by simp, Wp.H ?_⟩)))
 refine Wp.I (Wp.S (Wp.B8 (Wp.A3 ⟨by simp, Wp.H ?_⟩)))
 refine Wp.I (Wp.S (Wp.C (Wp.A3 (Wp.C (Wp.Z (Wp.L (Wp.H ?_)))))))
 refine Wp.I (Wp.S (Wp.C (Wp.Z (Wp.L (Wp.H ?_)))))
 have l1 : (hp ++ [MO.lst []]).length = hp.length + 1 := by simp
 have l2 : (hp ++ [MO.lst []] ++ [MO.lst []]).length = hp.length + 2 := by simp
 have l3 : (hp ++ [MO.lst []] ++ [MO.lst []] ++ [MO.set []]).length = hp.length + 3 := by simp
 have f0 : (hp ++ [MO.lst []] ++ [MO.lst []] ++ [MO.set []] ++ [MO.dct [] 0]) = hp ++ [MO.lst [], MO.lst [], MO.set [], MO.dct [] 0] := by simp
 have F0 : FAt o T ly hp (hp ++ [MO.lst []] ++ [MO.lst []] ++ [MO.set []] ++ [MO.dct [] 0]) hp.length (hp.length + 1) (hp.length + 2) (hp.length + 3) [] [] := by
  rw [f0]
  refine ⟨by simp, λ i hi => List.getElem?_append_left hi, ⟨Qr, Qs Qr, Qs (Qs Qr), Qs (Qs (Qs Qr))⟩, Qnk Qr, ?_, ?_, ?_, ⟨0, ?_⟩, (λ e he => nomatch he), nodup_nil, nodup_nil, (λ e he => nomatch he), nodup_nil, (λ e he => nomatch he)⟩
  ·rw [List.getElem?_append_right Qr]; simp [nmS]
  ·rw [List.getElem?_append_right (by exact Qs Qr)]; simp
  ·rw [List.getElem?_append_right (by exact Qs (Qs Qr))]; simp
  ·rw [List.getElem?_append_right (by exact Qs (Qs (Qs Qr)))]; simp [nmS, enumF]
 refine Wp.I (Wp.i (Wp.B (v := .obj ly.n2i) rfl rfl ?_))
 try dsimp only
 refine Wp.X (λ k μ => ∃ hp' v seen, μ = ⟨frF o ly hp.length (hp.length + 1) (hp.length + 2) (hp.length + 3) v, hp'⟩ ∧ FAt o T ly hp hp' hp.length (hp.length + 1) (hp.length + 2) (hp.length + 3) [] seen ∧ findF T.sc N (T.order.drop k) seen = some res) T.order.length (λ k μ hI hk => ?_) fuel 0 _ (by unfold fuel; exact Qlb hol rfl) (Nat.zero_le _)
  ⟨_, .undef, [], ?_, F0, hf⟩
 ·obtain ⟨hp', v, seen, rfl, F, hff⟩ := hI
  rw [Zo4 (F0.sat S).dct (F.sat S).dct, List.getElem?_map]
  cases hx : T.order[k]? with
  | none =>
   left
   have hk' : k = T.order.length := by have := Qgn hx; lia
   subst hk'
   rw [List.drop_length] at hff
   cases hff
   refine ⟨rfl, ?_⟩
   try dsimp only
   exact Wp.I (Wp.D3 (Wp.L (h hp' F.len F.old)))
  | some x =>
   right
   have hlt := (Qgl hx)
   have hxo : x ∈ T.order := mem_of_getElem? hx
   rw [drop_eq_getElem_cons hlt, (Qge hx)] at hff
   rw [Ze3] at hff
   refine ⟨hlt, .int x, rfl, Wp.H ?_⟩
   unfold Zjp
   refine Wp.I (Wp.A2 (Wp.Y (Wp.B (v := .int x) rfl rfl (Wp.B (v := .obj (hp.length + 2)) rfl rfl (Wp.G9 F.set ?_)))))
   cases hs : decide (x ∈ seen) with
   | true =>
    rw [hs] at hff
    exact Wp.I (Wp.L ⟨hp', .int x, seen, rfl, F, hff⟩)
   | false =>
    rw [hs] at hff
    try dsimp only at hff
    refine Wp.N (Wp.I ?_)
    cases hr : runF T.sc N (.proc x [] seen) with
    | none => rw [hr] at hff; cases hff
    | some r =>
     rw [hr] at hff
     refine Zqk S hsub hol (res := r) (sk := hp.length) (it := hp.length + 1) (se := hp.length + 2) (nd := hp.length + 3) (λ hp'' v r' e l₁ old => ?_) (λ hp'' v seen' F' e => ?_) N fuel hp' [] seen x hN F hxo hr
     ·subst e
      cases hff
      exact h hp'' l₁ old
     ·subst e
      exact Wp.N ⟨hp'', v, seen', rfl, F', hff⟩
 ·simp only [l1, l2, l3]
  rfl
end

section
variable {hp : List MO} {fr : List PV} {E : Value -> St -> Prop}
theorem Wp.D2 {n m : Nat} {f : PM PV} {tf : Nat -> PV -> PM Unit} {μ : St} {Q : PV -> St -> Prop} (h : Wp f μ (λ pv μ1 => Wp (compIx (getIt pv μ1) (tf μ1.hp.length) n 0) (pushU ⟨μ1.fr, μ1.hp ++ [.lst []]⟩ m) (λ _ μ2 => Q (.obj μ1.hp.length) ⟨μ2.fr.take μ1.fr.length, μ2.hp⟩) (λ _ _ => False)) E) :
  Wp (Mine.compM n m f tf) μ Q E := by
 unfold Mine.compM
 refine Wp.C (h.mono (λ pv μ1 h => ?_) λ _ _ e => e)
 obtain ⟨u, μ2, e, hq⟩ := h.run
 refine Wp.J ?_ hq
 unfold compRun
 rw [e]
theorem Wp.C0 {get : Nat -> St -> Option (Option PV)} {tf : PV -> PM Unit} {Q : Unit -> St -> Prop} (I : Nat -> St -> Prop) (N : Nat)
  (h : ∀ k μ, I k μ -> k <= N -> (get k μ = some none ∧ Q () μ) ∨ (k < N ∧ ∃ x, get k μ = some (some x) ∧ Wp (tf x) μ (λ _ μ' => I (k + 1) μ') E)) : ∀ (n k : Nat) (μ : St), N < n + k -> k <= N -> I k μ -> Wp (Mine.compIx get tf n k) μ Q E := by
 intro n
 induction n with
 | zero => intro k μ hn hk _; omega
 | succ n ih =>
  intro k μ hn hk hi
  rcases h k μ hi hk with ⟨e, hq⟩ | ⟨hlt, x, e, hw⟩
  ·exact Wp.J (a := ()) (μ' := μ) (by simp only [Zbn, e]) hq
  ·have : Wp (tf x >>= λ _ => Mine.compIx get tf n (k + 1)) μ Q E := Wp.C (hw.mono (λ _ μ' h => ih (k + 1) μ' (by omega) (by omega) h) λ _ _ e => e)
   exact Wp.E0 (by simp only [Zbn, e]) this
theorem Wp.E3 {f : PM PV} {i : Nat} {μ : St} {Q : Unit -> St -> Prop} (h : Wp f μ (λ y μ' => ∃ xs, μ'.hp[i]? = some (.lst xs) ∧ xs.length <= 1000000 ∧ Q () ⟨μ'.fr, μ'.hp.set i (.lst (xs ++ [y]))⟩) E) : Wp (emitM f i) μ Q E := by
 unfold emitM
 refine Wp.C (h.mono (λ y μ' ⟨xs, e, hl, h⟩ => ?_) λ _ _ e => e)
 obtain ⟨fr, hp⟩ := μ'
 exact Wp.C (Wp.l e hl (Wp.L h))
theorem Wp.J5 {asg : PV -> PM Unit} {f : PM PV} {i : Nat} {x : PV} {μ : St} {Q : Unit -> St -> Prop} (h : Wp (asg x) μ (λ _ μ' => Wp (emitM f i) μ' Q E) E) : Wp (Mine.tfA asg f i x) μ Q E := Wp.C h
theorem Wp.tfB {asg : PV -> PM Unit} {t : PM Bool} {f : PM PV} {i : Nat} {x : PV} {μ : St} {Q : Unit -> St -> Prop} (h : Wp (asg x) μ (λ _ μ' => Wp t μ' (λ b μ'' => match b with
  | true => Wp (emitM f i) μ'' Q E
  | false => Q () μ'') E) E) : Wp (Mine.tfB asg t f i x) μ Q E := by
 unfold Mine.tfB
 refine Wp.C (h.mono (λ _ μ' h => Wp.C (h.mono (λ b μ'' h => ?_) λ _ _ e => e)) λ _ _ e => e)
 cases b <;> first | exact h | exact Wp.mk h
end
noncomputable def readyT (T : TSt) : TSt := { T with ready := some (T.order.filter λ a => T.np a == 0) }
section
variable {hp : List MO} {o : Nat} {T : TSt} {ly : Lay} {fr : List PV} {E : Value -> St -> Prop}
theorem Wp.G6 {fo : PM PV} {μ : St} {Q : PV -> St -> Prop} (h : Wp fo μ (λ x μ1 => ∃ i es ep, x = .obj i ∧ μ1.hp[i]? = some (.dct es ep) ∧ Q (.vals i) μ1) E) : Wp (Mine.mValues fo (Pure.pure [])) μ Q E :=
 Wp.C (h.mono (λ x μ1 hh => by
  obtain ⟨i, es, ep, e, e2, h⟩ := hh
  subst e
  obtain ⟨fr, hp⟩ := μ1
  exact Wp.C (Wp.B3 e2 (Wp.C (Wp.A3 (Wp.C (Wp.B3 e2 (Wp.L h))))))) λ _ _ e => e)
theorem Znp {i : Nat} {es : List (Int × PV)} {ep k : Nat} {μ0 μ : St} (h₀ : μ0.hp[i]? = some (.dct es ep)) (h : μ.hp[i]? = some (.dct es ep)) : getIt (.vals i) μ0 k μ = some ((es[k]?).map λ e => e.2) := by
 unfold getIt
 try dsimp only
 rw [h₀, h]
 try dsimp only
 rw [if_pos ⟨rfl, rfl⟩]
theorem Zfo {xs : List Int} {p : Int -> Bool} {k : Nat} {a : Int} (e : xs[k]? = some a) : (xs.take (k + 1)).filter p = (xs.take k).filter p ++ (if p a then [a] else []) := by
 have hl := (Qgl e)
 rw [take_succ_eq_append_getElem hl, filter_append]
 have := (Qge e)
 rw [this]
 congr 1
 cases q : p a <;> simp [q]
theorem Zo5 (S : SAt d hp o T ly) (hr : T.ready = none) {rn : Nat} {rs : List Int} (hrn : hp[rn]? = some (.lst (rs.map .int))) (hnf : ¬ Fp o T ly rn) :
  SAt d (hp.set ly.dn (.ns (nsTS (.obj ly.n2i) (.obj rn) T.passed T.fin))) o { T with ready := some rs } { ly with rn := rn } :=
 ⟨Zf S.ns S.ins (mn rfl), Zm S.ns, Zf S.ns S.dct (mn rfl), λ xs e => by cases e; exact Zf S.ns hrn (mn rfl), λ a ha => Zf S.ns (S.inf a ha) (mn rfl), λ a ha => Zf S.ns (S.suc a ha) (mn rfl), S.lsi,
  λ _ a ha e => hnf (by rw [<- show ly.ls a = rn from e]; exact fp_ls ha), S.ond⟩
theorem Znq (S : SAt d hp o T ly) (hr : T.ready = none) (hsub : ∀ a ∈ T.order, ∀ s ∈ T.sc a, s ∈ T.order) (hol : T.order.length <= 1000) {N : Nat} (hf : findF T.sc N T.order [] = some none) (hN : N < fuel) {Q : PV -> St -> Prop}
  (h : ∀ hp' ly', SAt d hp' o (readyT T) ly' -> Grow o T ly hp (readyT T) ly' hp' -> Q .none ⟨fr, hp'⟩) : Wp (Zbd d [.obj o]) ⟨fr, hp⟩ Q E := by
 refine Wp.A1 rfl ?_
 unfold Zep
 refine Wp.I (Wp.A2 (Wp.Y (Wp.D6 S rfl ?_)))
 rw [Zj8 hr]
 refine Wp.L (Wp.A7 (x := .none) rfl ?_)
 refine Wp.N (Wp.I (Wp.S (Wp.D2 (Wp.G6 (Wp.G1 S rfl ⟨ly.n2i, _, _, rfl, S.dct, ?_⟩)))))
 have S0 : SAt d (hp ++ [MO.lst []]) o T ly := S.keep λ i hi => List.getElem?_append_left (S.lt hi)
 have hnew : ∀ i, Fp o T ly i -> i ≠ hp.length := λ i hi => Nat.ne_of_lt (S.lt hi)
 refine Wp.C0 (λ k μ => ∃ v1 v2, μ = ⟨[.obj o, .undef, v1, v2], (hp ++ [MO.lst []]).set hp.length (.lst (((T.order.take k).filter λ a => T.np a == 0).map .int))⟩) T.order.length (λ k μ hI hk => ?_) fuel 0 _ (by unfold fuel; exact Qlb hol rfl) (Nat.zero_le _) ?_
 ·obtain ⟨v1, v2, rfl⟩ := hI
  have S1 : SAt d ((hp ++ [MO.lst []]).set hp.length (.lst (((T.order.take k).filter λ a => T.np a == 0).map .int))) o T ly := S0.keep λ i hi => List.getElem?_set_ne (hnew i hi).symm
  rw [Znp S.dct S1.dct, List.getElem?_map]
  cases hx : T.order[k]? with
  | none =>
   left
   have hk' : k = T.order.length := by have := Qgn hx; lia
   subst hk'
   rw [take_length] at S1 ⊢
   refine ⟨rfl, ?_⟩
   try dsimp only
   have hrn : ((hp ++ [MO.lst []]).set hp.length (.lst ((T.order.filter λ a => T.np a == 0).map .int)))[hp.length]? = some (.lst ((T.order.filter λ a => T.np a == 0).map .int)) := Zm Zdq
   refine Wp.B2 (Wp.B rfl rfl (Wp.A0 S1.ins S1.ns Zj7 ?_))
   rw [put_r]
   have S2 := Zo5 S1 hr hrn (λ hi => hnew _ hi rfl)
   have old2 : ∀ i, i < hp.length -> ¬ Fp o T ly i -> (((hp ++ [MO.lst []]).set hp.length (.lst ((T.order.filter λ a => T.np a == 0).map .int))).set ly.dn (.ns (nsTS (.obj ly.n2i) (.obj hp.length) T.passed T.fin)))[i]? = hp[i]? := λ i hi hn => by
    rw [List.getElem?_set_ne (λ e => hn (by rw [<- e]; exact fp_dn)), List.getElem?_set_ne (Qnl hi), List.getElem?_append_left hi]
   have lenC : (((hp ++ [MO.lst []]).set hp.length (.lst ((T.order.filter λ a => T.np a == 0).map .int))).set ly.dn (.ns (nsTS (.obj ly.n2i) (.obj hp.length) T.passed T.fin))).length = hp.length + 1 := by simp
   generalize (((hp ++ [MO.lst []]).set hp.length (.lst ((T.order.filter λ a => T.np a == 0).map .int))).set ly.dn (.ns (nsTS (.obj ly.n2i) (.obj hp.length) T.passed T.fin))) = h₂ at S2 old2 lenC ⊢
   refine Wp.I (Wp.S (Wp.B5 (Wp.B rfl rfl (Wp.C3 S2 (by kernel_rfl) (Wp.A3 (Zme S2 hsub hol hf hN λ hp3 lD old3 => Wp.H ?_))))))
   have S3 : SAt d hp3 o (readyT T) { ly with rn := hp.length } := S2.keep λ i hi => old3 i (S2.lt hi)
   have g : Grow o T ly hp (readyT T) { ly with rn := hp.length } hp3 := by
    refine ⟨by lia, λ i hi hn => (old3 i (by lia)).trans (old2 i hi hn), λ i hi => ?_⟩
    rcases hi with rfl | rfl | rfl | ⟨_, rfl⟩ | ⟨a, ha, hi⟩
    ·exact .inl fp_o
    ·exact .inl fp_dn
    ·exact .inl Zgo
    ·exact .inr Qr
    ·rcases hi with rfl | rfl
     ·exact .inl (fp_li ha)
     ·exact .inl (fp_ls ha)
   refine Wp.I (Wp.A2 (Wp.B6 (Wp.B (v := .none) rfl rfl (Wp.J rfl ?_))))
   exact Wp.N (Wp.N (h hp3 _ S3 g))
  | some a =>
   right
   have ha : a ∈ T.order := mem_of_getElem? hx
   refine ⟨(Qgl hx), .obj (ly.li a), rfl, ?_⟩
   unfold Zfj
   refine Wp.tfB (Wp.H (Wp.Y (Wp.C2 (Wp.B (v := .obj (ly.li a)) rfl rfl (Wp.B4 (S1.inf a ha) rfl rfl (Wp.L (Wp.D0 ?_)))))))
   cases hz : T.np a == 0 with
   | true =>
    refine Wp.E3 (Wp.C2 (Wp.B (v := .obj (ly.li a)) rfl rfl (Wp.B4 (S1.inf a ha) rfl rfl ⟨_, Zm Zdq, ?_, v1, .obj (ly.li a), ?_⟩)))
    ·rw [length_map]
     have := length_filter_le (λ a => T.np a == 0) (T.order.take k)
     rw [length_take] at this
     lia
    ·try dsimp only
     rw [List.set_set, Zfo hx, hz, map_append]
     rfl
   | false =>
    refine ⟨v1, .obj (ly.li a), ?_⟩
    rw [Zfo hx, hz]
    simp
 ·refine ⟨.undef, .undef, ?_⟩
  unfold pushU
  simp
end

noncomputable abbrev Fine (sc : Int -> List Int) (a : Int) : Prop := Acc (λ s a => s ∈ sc a) a
inductive Chain (sc : Int -> List Int) : Option Int -> List (Int × List Int) -> Prop
 | nil {c : Option Int} : Chain sc c []
 | cons {c : Option Int} {x : Int} {r : List Int} {st : List (Int × List Int)} : (∀ s ∈ sc x, s ∈ r ∨ Fine sc s ∨ c = some s) -> (∀ y, c = some y -> y ∈ sc x) -> (∀ s ∈ r, s ∈ sc x) -> Chain sc (some x) st -> Chain sc c ((x, r) :: st)
def Adj (R : Int -> Int -> Prop) (xs : List Int) : Prop := ∀ l r a b, xs = l ++ a :: b :: r -> R a b
theorem Adj.drop {R : Int -> Int -> Prop} {p q : List Int} (h : Adj R (p ++ q)) : Adj R q := λ l r a b e => h (p ++ l) r a b (by rw [e, append_assoc])
theorem Adj.rev {R : Int -> Int -> Prop} {xs : List Int} (h : Adj R xs) : Adj (λ a b => R b a) xs.reverse := λ l r a b e => h r.reverse l.reverse b a (by
 have := congrArg List.reverse e
 rw [List.reverse_reverse] at this
 rw [this]; simp)
theorem Adj.cons {R : Int -> Int -> Prop} {y x : Int} {xs : List Int} (hyx : R y x) (h : Adj R (x :: xs)) : Adj R (y :: x :: xs) := λ l r a b e => by
 cases l with
 | nil => injection e with e1 e2; injection e2 with e2 e3; rw [<- e1, <- e2]; exact hyx
 | cons z l => injection e with e1 e2; exact h l r a b e2
theorem Adj.one {R : Int -> Int -> Prop} {x : Int} : Adj R [x] := λ l r a b e => by
 have := congrArg List.length e
 simp at this
 lia
theorem Adj.nil {R : Int -> Int -> Prop} : Adj R [] := λ l r a b e => by simp at e
def Ring (sc : Int -> List Int) (r : List Int) : Prop := ∃ x mid, r = x :: mid ++ [x] ∧ (x :: mid).Nodup ∧ Adj (λ a b => b ∈ sc a) r
section
variable {sc : Int -> List Int}
theorem Znr {c : Option Int} {st : List (Int × List Int)} (h : Chain sc c st) : Adj (λ a b => a ∈ sc b) (c.toList ++ st.map (·.1)) := by
 induction h with
 | nil => rename_i c; cases c with
  | none => exact Adj.nil
  | some x => exact Adj.one
 | @cons c x r st h1 h2 h3 h4 ih =>
  cases c with
  | none => simpa using ih
  | some y => exact Adj.cons (h2 y rfl) ih
theorem Zse {x : Int} {st : List (Int × List Int)} (h : Chain sc (some x) st) (hx : x ∈ st.map (·.1)) (hn : (st.map (·.1)).Nodup) : Ring sc (ringOf x st) := by
 have hw := (Znr h).rev
 rw [Option.toList_some, List.singleton_append, reverse_cons] at hw
 have hxr : x ∈ (st.map (·.1)).reverse := mem_reverse.mpr hx
 have hnr : (st.map (·.1)).reverse.Nodup := by
  unfold List.Nodup
  rw [List.pairwise_reverse]
  exact hn.imp λ h e => h e.symm
 unfold ringOf
 generalize (st.map (·.1)).reverse = l at hw hxr hnr ⊢
 have hlt := List.idxOf_lt_length_iff.mpr hxr
 have hd : l.drop (l.idxOf x) = x :: l.drop (l.idxOf x + 1) := by
  rw [drop_eq_getElem_cons hlt]; simp
 refine ⟨x, l.drop (l.idxOf x + 1), by rw [hd], ?_, ?_⟩
 ·rw [<- hd]; exact hnr.sublist (List.drop_sublist _ _)
 ·have : l ++ [x] = l.take (l.idxOf x) ++ (l.drop (l.idxOf x) ++ [x]) := by rw [<- append_assoc, take_append_drop]
  rw [this] at hw
  exact hw.drop
theorem Zql {S : Int -> Prop} (h : ∀ a, S a -> ∃ b, S b ∧ b ∈ sc a) : ∀ a, Fine sc a -> ¬ S a := λ a ha => by
 induction ha with
 | intro a _ ih => intro hs; obtain ⟨b, hb, q⟩ := h a hs; exact ih b q hb
theorem Zil {r : List Int} (h : Ring sc r) : ∀ x ∈ r, ¬ Fine sc x := by
 obtain ⟨x, mid, rfl, _, hc⟩ := h
 intro y hy hf
 refine Zql (S := λ a => a ∈ x :: mid) (λ a ha => ?_) y hf (by
  rcases Qma hy with h | h
  ·exact h
  ·rw [mem_singleton] at h; rw [h]; exact mem_cons_self)
 obtain ⟨l1, l2, e⟩ := List.append_of_mem ha
 cases l2 with
 | nil => exact ⟨x, mem_cons_self, hc l1 [] a x (by rw [e]; simp)⟩
 | cons b l2 => exact ⟨b, by rw [e]; simp, hc l1 (l2 ++ [x]) a b (by rw [e]; simp)⟩
noncomputable def InvF (sc : Int -> List Int) : FS -> Prop
 | .proc x st seen => Chain sc (some x) st ∧ (st.map (·.1)).Nodup ∧ (∀ a ∈ seen, Fine sc a ∨ a ∈ st.map (·.1)) ∧ ∀ e ∈ st, e.1 ∈ seen
 | .back st seen => Chain sc none st ∧ (st.map (·.1)).Nodup ∧ (∀ a ∈ seen, Fine sc a ∨ a ∈ st.map (·.1)) ∧ ∀ e ∈ st, e.1 ∈ seen
noncomputable def KeptF (seen' : List Int) : FS -> Prop
 | .proc x st seen => x ∈ seen' ∧ ∀ a ∈ seen, a ∈ seen'
 | .back st seen => ∀ a ∈ seen, a ∈ seen'
noncomputable def OutF (sc : Int -> List Int) (f : FS) : FRes -> Prop
 | .ring r => Ring sc r
 | .out seen' => (∀ a ∈ seen', Fine sc a) ∧ KeptF seen' f
theorem Zqm : ∀ (n : Nat) (f : FS) (res : FRes), runF sc n f = some res -> InvF sc f -> OutF sc f res := by
 intro n
 induction n with
 | zero => intro f res h; cases h
 | succ n ih =>
  intro f res h hinv
  cases f with
  | proc x st seen =>
   obtain ⟨h1, h2, h3, h4⟩ := hinv
   rw [Zgp] at h
   cases hs : decide (x ∈ seen) with
   | true =>
    have hsx := of_decide_eq_true hs
    cases hk : decide (x ∈ st.map (·.1)) with
    | true =>
     rw [hs, hk] at h
     cases h
     exact Zse h1 (of_decide_eq_true hk) h2
    | false =>
     rw [hs, hk] at h
     have hkx := of_decide_eq_false hk
     have hfx : Fine sc x := (h3 x hsx).resolve_right hkx
     have := ih (.back st seen) res h ⟨by
      cases h1 with
      | nil => exact .nil
      | cons a b c d => exact .cons (λ s hs => by
        rcases a s hs with q | q | q
        ·exact .inl q
        ·exact .inr (.inl q)
        ·cases q; exact .inr (.inl hfx)) (λ y e => nomatch e) c d, h2, h3, h4⟩
     cases res with
     | ring r => exact this
     | out seen' => exact ⟨this.1, this.2 x hsx, this.2⟩
   | false =>
    have hsx := of_decide_eq_false hs
    have h : runF sc n (.back ((x, sc x) :: st) (seen ++ [x])) = some res := by
     rw [hs] at h
     revert h
     cases decide (x ∈ st.map (·.1)) <;> exact λ h => h
    have := ih (.back ((x, sc x) :: st) (seen ++ [x])) res h ⟨.cons (λ s hs => .inl hs) (λ y e => nomatch e) (λ s hs => hs) h1, by
     rw [map_cons, nodup_cons]
     exact ⟨λ hm => by
      obtain ⟨e, he, q⟩ := Qmm hm
      have q : e.1 = x := q
      exact hsx (by rw [<- q]; exact h4 e he), h2⟩, λ a ha => by
     rcases Qma ha with ha | ha
     ·rcases h3 a ha with q | q
      ·exact .inl q
      ·exact .inr (mem_cons_of_mem _ q)
     ·rw [mem_singleton] at ha; rw [ha]; exact .inr mem_cons_self, λ e he => by
     rcases Qmc he with rfl | he
     ·exact mem_append_right _ (mem_singleton.mpr rfl)
     ·exact mem_append_left _ (h4 e he)⟩
    cases res with
    | ring r => exact this
    | out seen' => exact ⟨this.1, this.2 x (by simp), λ a ha => this.2 a (mem_append_left _ ha)⟩
  | back st seen =>
   obtain ⟨h1, h2, h3, h4⟩ := hinv
   cases st with
   | nil =>
    cases h
    exact ⟨λ a ha => (h3 a ha).resolve_right (by simp), λ a ha => ha⟩
   | cons e st =>
    obtain ⟨x, r⟩ := e
    rw [map_cons, nodup_cons] at h2
    cases h1 with
    | cons a b c d =>
    cases r with
    | nil =>
     have hfx : Fine sc x := Acc.intro x λ s hs => by
      rcases a s hs with q | q | q
      ·cases q
      ·exact q
      ·cases q
     exact ih (.back st seen) res h ⟨by
      cases d with
      | nil => exact .nil
      | cons a' b' c' d' => exact .cons (λ s hs => by
        rcases a' s hs with q | q | q
        ·exact .inl q
        ·exact .inr (.inl q)
        ·cases q; exact .inr (.inl hfx)) (λ y e => nomatch e) c' d', h2.2, λ a ha => by
      rcases h3 a ha with q | q
      ·exact .inl q
      ·rcases Qmc q with q | q
       ·rw [q]; exact .inl hfx
       ·exact .inr q, λ e he => h4 e (mem_cons_of_mem _ he)⟩
    | cons y ys =>
     have := ih (.proc y ((x, ys) :: st) seen) res h ⟨.cons (λ s hs => by
      rcases a s hs with q | q | q
      ·rcases Qmc q with q | q
       ·rw [q]; exact .inr (.inr rfl)
       ·exact .inl q
      ·exact .inr (.inl q)
      ·cases q) (λ z e => by cases e; exact c y mem_cons_self) (λ s hs => c s (mem_cons_of_mem _ hs)) d, by rw [map_cons, nodup_cons]; exact h2, h3, λ e he => by
      rcases Qmc he with rfl | he
      ·exact h4 (x, y :: ys) mem_cons_self
      ·exact h4 e (mem_cons_of_mem _ he)⟩
     cases res with
     | ring r => exact this
     | out seen' => exact ⟨this.1, this.2.2⟩
theorem Zf2 : ∀ (xs seen : List Int) (n : Nat) (res : Option (List Int)), findF sc n xs seen = some res -> (∀ a ∈ seen, Fine sc a) ->
  (match res with
   | none => ∀ a ∈ xs, Fine sc a
   | some r => Ring sc r)
 | [], seen, n, res, h, hs => by cases h; exact λ a ha => nomatch ha
 | x :: xs, seen, n, res, h, hs => by
  rw [Ze3] at h
  cases hd : decide (x ∈ seen) with
  | true =>
   rw [hd] at h
   have := Zf2 xs seen n res h hs
   cases res with
   | none => intro a ha; rcases Qmc ha with rfl | ha; exact hs a (of_decide_eq_true hd); exact this a ha
   | some r => exact this
  | false =>
   rw [hd] at h
   try dsimp only at h
   cases hr : runF sc n (.proc x [] seen) with
   | none => rw [hr] at h; cases h
   | some r =>
    rw [hr] at h
    have inv := Zqm n _ r hr ⟨.nil, nodup_nil, λ a ha => .inl (hs a ha), λ e he => nomatch he⟩
    cases r with
    | ring r => cases h; exact inv
    | out seen' =>
     have := Zf2 xs seen' n res h inv.1
     cases res with
     | none => intro a ha; rcases Qmc ha with rfl | ha; exact inv.1 _ inv.2.1; exact this a ha
     | some r => exact this
end

noncomputable def wgt (sc : Int -> List Int) (a : Int) : Nat := 2 * (sc a).length + 1
noncomputable def Wt (sc : Int -> List Int) (U seen : List Int) : Nat := ((U.filter λ a => decide (a ∉ seen)).map (wgt sc)).sum
noncomputable def Sw (st : List (Int × List Int)) : Nat := (st.map λ e => 2 * e.2.length + 1).sum
section
variable {sc : Int -> List Int} {U : List Int}
theorem wt_go {seen : List Int} {x : Int} (hs : x ∉ seen) : ∀ (U : List Int), x ∈ U -> Wt sc U (seen ++ [x]) + wgt sc x <= Wt sc U seen ∧ True
 | [], h => nomatch h
 | a :: U, h => by
  have mono : ∀ (V : List Int), Wt sc V (seen ++ [x]) <= Wt sc V seen := λ V => by
   induction V with
   | nil => exact Qr
   | cons b V ih =>
    unfold Wt at ih ⊢
    simp only [filter_cons]
    by_cases h1 : b ∈ seen
    ·rw [if_neg (by simp [h1]), if_neg (by simp [h1])]; exact ih
    ·by_cases h2 : b = x
     ·rw [if_neg (by simp [h2]), if_pos (by simp [h1])]
      simp only [map_cons, sum_cons]; exact Nat.le_trans ih (Nat.le_add_left _ _)
     ·rw [if_pos (by simp [h1, h2]), if_pos (by simp [h1])]
      simp only [map_cons, sum_cons]; exact Nat.add_le_add_left ih _
  refine ⟨?_, trivial⟩
  by_cases e : a = x
  ·have m := mono U
   subst e
   unfold Wt at m ⊢
   simp only [filter_cons]
   rw [if_neg (by simp), if_pos (by simp [hs])]
   simp only [map_cons, sum_cons]; exact Nat.le_trans (Nat.add_le_add_right m _) (Nat.le_of_eq (Nat.add_comm _ _))
  ·have ih := (wt_go hs U (by
    rcases Qmc h with h | h
    ·exact absurd h.symm e
    ·exact h)).1
   unfold Wt at ih ⊢
   simp only [filter_cons]
   by_cases h1 : a ∈ seen
   ·rw [if_neg (by simp [h1]), if_neg (by simp [h1])]; exact ih
   ·rw [if_pos (by simp [h1, e]), if_pos (by simp [h1])]
    simp only [map_cons, sum_cons]; exact Nat.le_trans (Nat.le_of_eq (Nat.add_assoc _ _ _)) (Nat.add_le_add_left ih _)
theorem wt_le (seen : List Int) : ∀ (U : List Int), Wt sc U seen <= Wt sc U []
 | [] => Qr
 | a :: U => by
  have ih := wt_le seen U
  unfold Wt at ih ⊢
  simp only [filter_cons]
  rw [if_pos (show (decide (a ∉ ([] : List Int))) = true by simp)]
  split
  ·simp only [map_cons, sum_cons]; omega
  ·simp only [map_cons, sum_cons]; omega
theorem Zo6 (hU : ∀ a ∈ U, ∀ s ∈ sc a, s ∈ U) : ∀ (n : Nat) (f : FS),
  (match f with
   | .proc x st seen => 1 + Sw st + Wt sc U seen < n ∧ x ∈ U ∧ ∀ e ∈ st, ∀ s ∈ e.2, s ∈ U
   | .back st seen => Sw st + Wt sc U seen < n ∧ ∀ e ∈ st, ∀ s ∈ e.2, s ∈ U) -> ∃ res, runF sc n f = some res := by
 intro n
 induction n with
 | zero => intro f h; cases f <;> exact absurd h.1 (Nat.not_lt_zero _)
 | succ n ih =>
  intro f h
  cases f with
  | proc x st seen =>
   obtain ⟨h1, h2, h3⟩ := h
   rw [Zgp]
   cases hs : decide (x ∈ seen) with
   | true =>
    cases hk : decide (x ∈ st.map (·.1)) with
    | true => exact ⟨_, rfl⟩
    | false => exact ih (.back st seen) ⟨by lia, h3⟩
   | false =>
    have hw := (wt_go (sc := sc) (of_decide_eq_false hs) U h2).1
    have : ∃ res, runF sc n (.back ((x, sc x) :: st) (seen ++ [x])) = some res := ih _ ⟨by
     unfold Sw wgt at *
     simp only [map_cons, sum_cons]
     lia, λ e he => by
     rcases Qmc he with rfl | he
     ·exact hU x h2
     ·exact h3 e he⟩
    cases decide (x ∈ st.map (·.1)) <;> exact this
  | back st seen =>
   obtain ⟨h1, h2⟩ := h
   cases st with
   | nil => exact ⟨_, rfl⟩
   | cons e st =>
    obtain ⟨x, r⟩ := e
    unfold Sw at h1
    simp only [map_cons, sum_cons] at h1
    cases r with
    | nil => exact ih (.back st seen) ⟨by unfold Sw; simp only [List.length_nil] at h1; lia, λ e he => h2 e (mem_cons_of_mem _ he)⟩
    | cons y ys =>
     refine ih (.proc y ((x, ys) :: st) seen) ⟨?_, h2 _ mem_cons_self y mem_cons_self, λ e he => ?_⟩
     ·unfold Sw
      simp only [map_cons, sum_cons, length_cons] at h1 ⊢
      lia
     ·rcases Qmc he with rfl | he
      ·exact λ s hs => h2 _ mem_cons_self s (mem_cons_of_mem _ hs)
      ·exact h2 e (mem_cons_of_mem _ he)
theorem Zdr (hU : ∀ a ∈ U, ∀ s ∈ sc a, s ∈ U) {n : Nat} (hn : Wt sc U [] + 1 < n) : ∀ (xs seen : List Int), (∀ a ∈ xs, a ∈ U) -> ∃ res, findF sc n xs seen = some res
 | [], seen, _ => ⟨_, rfl⟩
 | x :: xs, seen, h => by
  rw [Ze3]
  have hx := λ a ha => h a (mem_cons_of_mem x ha)
  cases hd : decide (x ∈ seen) with
  | true => exact Zdr hU hn xs seen hx
  | false =>
   have := wt_le (sc := sc) seen U
   obtain ⟨r, hr⟩ := Zo6 hU n (.proc x [] seen) ⟨by unfold Sw; simp; lia, h x mem_cons_self, λ e he => nomatch he⟩
   rw [hr]
   cases r with
   | ring r => exact ⟨_, rfl⟩
   | out seen' => exact Zdr hU hn xs seen' hx
end

section
variable {sc : Int -> List Int} {U : List Int}
theorem Zsf (hU : ∀ a ∈ U, ∀ s ∈ sc a, s ∈ U) : ∀ (n : Nat) (f : FS) (r : List Int), runF sc n f = some (.ring r) ->
  (match f with
   | .proc x st _ => x ∈ U ∧ ∀ e ∈ st, e.1 ∈ U ∧ ∀ s ∈ e.2, s ∈ U
   | .back st _ => ∀ e ∈ st, e.1 ∈ U ∧ ∀ s ∈ e.2, s ∈ U) -> ∀ a ∈ r, a ∈ U := by
 intro n
 induction n with
 | zero => intro f r h; cases h
 | succ n ih =>
  intro f r h hin
  cases f with
  | proc x st seen =>
   obtain ⟨h1, h2⟩ := hin
   rw [Zgp] at h
   cases hs : decide (x ∈ seen) with
   | true =>
    cases hk : decide (x ∈ st.map (·.1)) with
    | true =>
     rw [hs, hk] at h
     cases h
     intro a ha
     unfold ringOf at ha
     rcases Qma ha with ha | ha
     ·have := mem_reverse.mp (List.mem_of_mem_drop ha)
      obtain ⟨e, he, rfl⟩ := Qmm this
      exact (h2 e he).1
     ·rw [mem_singleton] at ha; rw [ha]; exact h1
    | false => rw [hs, hk] at h; exact ih _ r h h2
   | false =>
    have h : runF sc n (.back ((x, sc x) :: st) (seen ++ [x])) = some (.ring r) := by
     rw [hs] at h
     revert h
     cases decide (x ∈ st.map (·.1)) <;> exact λ h => h
    refine ih _ r h λ e he => ?_
    rcases Qmc he with rfl | he
    ·exact ⟨h1, hU x h1⟩
    ·exact h2 e he
  | back st seen =>
   cases st with
   | nil => cases h
   | cons e st =>
    obtain ⟨x, q⟩ := e
    cases q with
    | nil => exact ih _ r h λ e he => hin e (mem_cons_of_mem _ he)
    | cons y ys =>
     refine ih (.proc y ((x, ys) :: st) seen) r h ⟨(hin _ mem_cons_self).2 y mem_cons_self, λ e he => ?_⟩
     rcases Qmc he with rfl | he
     ·exact ⟨(hin _ mem_cons_self).1, λ s hs => (hin _ mem_cons_self).2 s (mem_cons_of_mem _ hs)⟩
     ·exact hin e (mem_cons_of_mem _ he)
theorem Zds (hU : ∀ a ∈ U, ∀ s ∈ sc a, s ∈ U) (n : Nat) : ∀ (xs seen r : List Int), (∀ a ∈ xs, a ∈ U) -> findF sc n xs seen = some (some r) -> ∀ a ∈ r, a ∈ U
 | [], seen, r, _, h => by cases h
 | x :: xs, seen, r, hx, h => by
  have hx' := λ a ha => hx a (mem_cons_of_mem x ha)
  rw [Ze3] at h
  cases hd : decide (x ∈ seen) with
  | true => rw [hd] at h; exact Zds hU n xs seen r hx' h
  | false =>
   rw [hd] at h
   try dsimp only at h
   cases hr : runF sc n (.proc x [] seen) with
   | none => rw [hr] at h; cases h
   | some q =>
    rw [hr] at h
    cases q with
    | ring r' => cases h; exact Zsf hU n _ _ hr ⟨hx x mem_cons_self, λ e he => nomatch he⟩
    | out seen' => exact Zds hU n xs seen' r hx' h
theorem Zgq (hU : ∀ a ∈ U, ∀ s ∈ sc a, s ∈ U) {n : Nat} (hn : Wt sc U [] + 1 < n) : ∃ res, findF sc n U [] = some res ∧ (res = none ↔ ∀ a ∈ U, Fine sc a) ∧ ∀ r, res = some r -> Ring sc r ∧ (∀ a ∈ r, a ∈ U) ∧ r.length <= U.length + 1 := by
 obtain ⟨res, h⟩ := Zdr hU hn U [] (λ a ha => ha)
 have ok := Zf2 U [] n res h (λ a ha => nomatch ha)
 refine ⟨res, h, ?_, λ r e => ?_⟩
 ·cases res with
  | none => exact ⟨λ _ => ok, λ _ => rfl⟩
  | some r =>
   refine ⟨(λ e => nomatch e), λ hall => ?_⟩
   have hin := Zds hU n U [] r (λ a ha => ha) h
   obtain ⟨x, mid, rfl, _⟩ := id ok
   exact absurd (hall x (hin x (by simp))) (Zil ok x (by simp))
 ·subst e
  have hin := Zds hU n U [] r (λ a ha => ha) h
  refine ⟨ok, hin, ?_⟩
  obtain ⟨x, mid, rfl, hnd, _⟩ := id ok
  have := Zp hnd (λ a ha => hin a (mem_append_left _ ha))
  rw [length_append]
  simp only [length_singleton]
  exact Qkl this Qr
end
section
variable {hp : List MO} {o : Nat} {T : TSt} {ly : Lay} {fr : List PV} {E : Value -> St -> Prop}
theorem Zsg (S : SAt d hp o T ly) (hr : T.ready = none) (hsub : ∀ a ∈ T.order, ∀ s ∈ T.sc a, s ∈ T.order) (hol : T.order.length <= 1000) (hw : Wt T.sc T.order [] <= 900000) (hfi : ∀ a ∈ T.order, Fine T.sc a) {Q : PV -> St -> Prop}
  (h : ∀ hp' ly', SAt d hp' o (readyT T) ly' -> Grow o T ly hp (readyT T) ly' hp' -> Q .none ⟨fr, hp'⟩) : Wp (Zbd d [.obj o]) ⟨fr, hp⟩ Q E := by
 obtain ⟨res, hf, h1, h2⟩ := Zgq hsub (n := Wt T.sc T.order [] + 2) (Qll Qr Qr)
 rw [h1.mpr hfi] at hf
 exact Znq S hr hsub hol hf (by unfold fuel; lia) h
end

section
variable {hp : List MO} {fr : List PV} {E : Value -> St -> Prop}
theorem Wp.G8 {i j : Int} {μ : St} {Q : Bool -> St -> Prop} (h : Q (decide (i < j)) μ) : Wp (pCmp .Lt (.int i) (.int j)) μ Q E := Wp.J rfl h
theorem Wp.C1 {op : Operator} {f g : PM PV} {μ : St} {Q : PV -> St -> Prop} (h : Wp f μ (λ x μ' => Wp g μ' (λ y μ'' => Wp (pBin op x y) μ'' Q E) E) E) : Wp (Mine.eBin op f g) μ Q E := Wp.C (h.mono (λ _ _ h => Wp.C h) λ _ _ e => e)
theorem Wp.H6 {i j : Int} {μ : St} {Q : PV -> St -> Prop} (h : Q (.int (i + j)) μ) : Wp (pBin .Add (.int i) (.int j)) μ Q E := Wp.J rfl h
theorem Wp.F6 {i j : Int} {μ : St} {Q : PV -> St -> Prop} (hj : j ≠ 0) (h : Q (.int (i.fmod j)) μ) : Wp (pBin .Mod (.int i) (.int j)) μ Q E := by
 refine Wp.J ?_ h
 show (pArith (λ i j => i.fmod j) (λ j => j != 0) (.int i) (.int j) : PM PV) μ = _
 unfold pArith
 try dsimp only
 rw [show (j != 0) = true from bne_iff_ne.mpr hj]
theorem Wp.H5 {i j : Int} {μ : St} {Q : PV -> St -> Prop} (hj : j ≠ 0) (hb : j.natAbs < 1000) (h : Q (.int (i.fdiv j)) μ) : Wp (pBin .FloorDiv (.int i) (.int j)) μ Q E := by
 refine Wp.J ?_ h
 show (pArith (λ i j => i.fdiv j) (λ j => j != 0 && decide (j.natAbs < 1000)) (.int i) (.int j) : PM PV) μ = _
 unfold pArith
 try dsimp only
 rw [show ((j != 0) && decide (j.natAbs < 1000)) = true by rw [bne_iff_ne.mpr hj, decide_eq_true hb]; rfl]
theorem Wp.V {n : Int} {μ : St} {Q : PV -> St -> Prop} (h : Q (.rng 0 n 1) μ) : Wp (pRange [.int n]) μ Q E := Wp.J rfl h
theorem Wp.I2 {a b st : Int} {μ : St} {Q : PV -> St -> Prop} (h0 : st ≠ 0) (h1 : st.natAbs < 1073741824) (h : Q (.rng a b st) μ) : Wp (pRange [.int a, .int b, .int st]) μ Q E :=
 Wp.C (Wp.A6 (by rw [decide_eq_true h0, decide_eq_true h1]; rfl) (Wp.mk h))
theorem Wp.pMin {i j : Int} {μ : St} {Q : PV -> St -> Prop} (h : Q (.int (min i j)) μ) : Wp (Mine.pMin [.int i, .int j]) μ Q E := Wp.J rfl h
theorem Zki {n k : Nat} (h : k < n) (hn : n <= 1000000) : pIdx n (k : Int) = some k := by
 have h1 : (k : Int) < 4611686018427387904 := by lia
 have e : (2 : Int) ^ 62 = 4611686018427387904 := by decide
 unfold pIdx
 rw [if_pos (Int.natCast_nonneg k), e, if_pos h1, Int.toNat_natCast]
theorem Zkj {xs : List PV} {k : Nat} {y : PV} (hy : xs[k]? = some y) (hl : xs.length <= 1000000) : (pIdx xs.length (k : Int)).bind (λ i => xs[i]?) = some y := by
 rw [Zki (Qgl hy) hl, Option.bind_some]
 exact hy
theorem Zkk {xs : List PV} {z : Int} {y : PV} {μ : St} (e : (pIdx xs.length z).bind (λ i => xs[i]?) = some y) : pGet (.tup xs) (.int z) μ = .ok y μ := by
 unfold pGet
 try dsimp only
 rw [e]
theorem Zkl {xs : List PV} {z : Int} {y : PV} {μ : St} (e : (pIdx xs.length z).bind (λ i => xs[i]?) = some y) : pGet (.lst xs) (.int z) μ = .ok y μ := by
 unfold pGet
 try dsimp only
 rw [e]
theorem Zkm {i : Nat} {xs : List PV} {z : Int} {y : PV} {μ : St} (h : μ.hp[i]? = some (.lst xs)) (e : (pIdx xs.length z).bind (λ i => xs[i]?) = some y) : pGet (.obj i) (.int z) μ = .ok y μ := by
 unfold pGet
 try dsimp only
 rw [h]
 try dsimp only
 rw [e]
theorem Wp.getI {x : PV} {xs : List PV} {k : Nat} {y : PV} {μ : St} {Q : PV -> St -> Prop} (e : isLst μ.hp x = some xs ∨ x = .tup xs) (hy : xs[k]? = some y) (hl : xs.length <= 1000000) (h : Q y μ) : Wp (pGet x (.int k)) μ Q E := by
 have b := Zkj hy hl
 generalize (k : Int) = z at b ⊢
 refine Wp.J ?_ h
 rcases e with e | rfl
 ·unfold isLst at e
  cases x <;> dsimp only at e <;> first | (cases e; done) | skip
  ·cases e; exact Zkl b
  ·split at e
   ·rename_i q; cases e; exact Zkm q b
   ·cases e
 ·exact Zkk b
theorem Wp.J0 {op : Operator} {g k f : PM PV} {μ : St} {Q : MF -> St -> Prop} (h : Wp g μ (λ x μ1 => Wp k μ1 (λ i μ2 => Wp (pGet x i) μ2 (λ old μ3 => Wp f μ3 (λ v μ4 => Wp (pInp op old v) μ4 (λ new μ5 => Wp (pSetItem x i new) μ5 (λ _ μ6 => Q .next μ6) E) E) E) E) E) E) : Wp (sAugSub op g k f) μ Q E :=
 Wp.C (h.mono (λ _ _ h => Wp.C (h.mono (λ _ _ h => Wp.C (h.mono (λ _ _ h => Wp.C (h.mono (λ _ _ h => Wp.C (h.mono (λ _ _ h => Wp.A9 h) λ _ _ e => e)) λ _ _ e => e)) λ _ _ e => e)) λ _ _ e => e)) λ _ _ e => e)
theorem Wp.I3 {fo fe : PM PV} {μ : St} {Q : PV -> St -> Prop} (h : Wp fo μ (λ x μ1 => ∃ i xs, x = .obj i ∧ μ1.hp[i]? = some (.lst xs) ∧ Wp fe μ1 (λ z μ2 => ∃ (w : Int) (k : Nat) (ys : List PV) (y : PV), z = .int w ∧ pIdx ys.length w = some k ∧ μ2.hp[i]? = some (.lst ys) ∧ ys[k]? = some y ∧ ys.length <= 1000000 ∧ Q y ⟨μ2.fr, μ2.hp.set i (.lst (ys.eraseIdx k))⟩) E) E) : Wp (Mine.mPopAt fo fe) μ Q E :=
 Wp.C (h.mono (λ x μ1 hh => by
  obtain ⟨i, xs, e, e2, h⟩ := hh
  subst e
  obtain ⟨fr, hp⟩ := μ1
  refine Wp.C (Wp.W e2 (Wp.C (h.mono (λ z μ2 hh => ?_) λ _ _ e => e)))
  obtain ⟨w, k, ys, y, e, ew, e3, hy, hl, h⟩ := hh
  subst e
  obtain ⟨fr, hp⟩ := μ2
  have hk := (Qgl hy)
  refine Wp.C (Wp.W e3 (Wp.C (Wp.A6 (decide_eq_true hl) ?_)))
  try dsimp only
  rw [ew]
  try dsimp only
  rw [hy]
  exact Wp.C (Wp.E2 (Wp.L h))) λ _ _ e => e)
theorem Wp.sum {x : PV} {xs : List PV} {is : List Int} {μ : St} {Q : PV -> St -> Prop} (e : isLst μ.hp x = some xs) (ei : intsOf xs = some is) (h : Q (.int is.sum) μ) : Wp (pSum [x]) μ Q E := by
 refine Wp.C (Wp.J (a := is) (μ' := μ) ?_ (Wp.mk h))
 unfold lstM
 rw [e]; try dsimp only
 rw [ei]
theorem Zcu : ∀ (is : List Int), intsOf (is.map PV.int) = some is
 | [] => rfl
 | i :: is => by rw [map_cons, Zpn, Zcu is]; rfl
end

theorem Zat {i : Int} (h : i.natAbs <= 1000001) : Builtin.Range.rangeFitsLong i = true := by
 unfold Builtin.Range.rangeFitsLong
 have e : (2 : Int) ^ 63 = 9223372036854775808 := by decide
 rw [e, Bool.and_eq_true, decide_eq_true_eq, decide_eq_true_eq]
 omega
theorem Zg9 {n : Nat} : Builtin.Range.rangeSize 0 n 1 = n := by
 unfold Builtin.Range.rangeSize
 rw [if_pos (by lia)]
 split
 ·rw [Int.ediv_one]; lia
 ·lia
theorem Zho {n : Nat} : Builtin.Range.rangeSize n 0 (-1) = n := by
 unfold Builtin.Range.rangeSize
 rw [if_neg (by omega)]
 split
 ·rw [show (-(-1 : Int)) = 1 from rfl, Int.ediv_one]; omega
 ·omega
theorem Zkn {n : Nat} (h : n <= 1000000) : Builtin.Range.small 0 n 1 = true := by
 unfold Builtin.Range.small
 rw [Zg9, Zat (i := 0) (by exact Qkb Qr rfl), Zat (i := n) (by exact Qkb h rfl), Zat (i := 1) (by exact Qkb Qr rfl), if_pos (by lia), Zat (i := (n : Int) + (1 - 1)) (by exact Qkb h rfl)]
 simp only [Bool.and_self, Bool.or_true]
theorem Zns {n : Nat} (h : n <= 1000000) : Builtin.Range.small n 0 (-1) = true := by
 unfold Builtin.Range.small
 rw [Zho, Zat (i := n) (by exact Qkb h rfl), Zat (i := 0) (by exact Qkb Qr rfl), Zat (i := -1) (by exact Qkb Qr rfl), if_neg (by lia), Zat (i := (0 : Int) + (-1 + 1)) (by exact Qkb Qr rfl)]
 simp only [Bool.and_self, Bool.or_true]
theorem Z0 {n k : Nat} (h : n <= 1000000) (hk : k <= n) {μ0 μ : St} : getOf (.rng 0 n 1) μ0 k μ = some (if k < n then some (.int k) else none) := by
 unfold getOf
 try dsimp only
 rw [if_pos (Zkn h)]
 have e := Zg9 (n := n)
 rw [e]
 by_cases q : k < n
 ·rw [if_pos (by lia), if_pos q]; simp
 ·rw [if_neg (by lia), if_neg q]
theorem Znt {n k : Nat} (h : n <= 1000000) (hk : k <= n) {μ0 μ : St} : getOf (.rng n 0 (-1)) μ0 k μ = some (if k < n then some (.int ((n - k : Nat) : Int)) else none) := by
 unfold getOf
 try dsimp only
 rw [if_pos (Zns h)]
 have e := Zho (n := n)
 rw [e]
 by_cases q : k < n
 ·rw [if_pos (by lia), if_pos q]
  congr 3
  lia
 ·rw [if_neg (by lia), if_neg q]

noncomputable def putS (ys : List Int) (p : Nat × Int) : List Int := if p.1 < 10 then ys ++ [p.2] else ys.set (p.1 % 10) (ys.getD (p.1 % 10) 0 + p.2)
noncomputable def slots (xs : List Int) (k : Nat) : List Int := match k with
 | 0 => []
 | k + 1 => putS (slots xs k) (k, xs.getD k 0)
theorem Zha {xs : List Int} {k : Nat} : slots xs (k + 1) = putS (slots xs k) (k, xs.getD k 0) := rfl
theorem Zc5 (xs : List Int) : ∀ k, (slots xs k).length = min k 10
 | 0 => rfl
 | k + 1 => by
  rw [Zha]
  unfold putS
  have := Zc5 xs k
  split
  ·rename_i h; rw [length_append, length_singleton, this, Nat.min_eq_left (Nat.le_of_lt h)]; exact (Nat.min_eq_left h).symm
  ·rename_i h; rw [length_set, this, Nat.min_eq_right (Qn h)]; exact (Nat.min_eq_right (Nat.le.step (Qn h))).symm
section
variable {hp : List MO} {fr : List PV} {E : Value -> St -> Prop}
theorem Wp.B1 {x : PV} {xs : List PV} {z : Int} {k : Nat} (hz : z = k) {y : PV} {μ : St} {Q : PV -> St -> Prop} (e : isLst μ.hp x = some xs ∨ x = .tup xs) (hy : xs[k]? = some y) (hl : xs.length <= 1000000) (h : Q y μ) : Wp (pGet x (.int z)) μ Q E := by
 have b := Zkj hy hl
 rw [<- hz] at b
 refine Wp.J ?_ h
 rcases e with e | rfl
 ·unfold isLst at e
  cases x <;> dsimp only at e <;> first | (cases e; done) | skip
  ·cases e; exact Zkl b
  ·split at e
   ·rename_i q; cases e; exact Zkm q b
   ·cases e
 ·exact Zkk b
theorem Wp.G3 {i : Nat} {xs : List PV} {z : Int} {k : Nat} (hz : z = k) {y : PV} {Q : Unit -> St -> Prop} (e : hp[i]? = some (.lst xs)) (hk : k < xs.length) (hl : xs.length <= 1000000) (h : Q () ⟨fr, hp.set i (.lst (xs.set k y))⟩) : Wp (pSetItem (.obj i) (.int z) y) ⟨fr, hp⟩ Q E := by
 refine Wp.J ?_ h
 have h1 : (0 : Int) <= z ∧ z < xs.length := by lia
 have h2 : z.toNat = k := by lia
 unfold pSetItem
 try dsimp only
 rw [e]; try dsimp only
 rw [decide_eq_true h1, show lenOk xs = true from decide_eq_true hl]
 try dsimp only
 rw [h2]
theorem Zqn {xs : List Int} (hl : xs.length <= 63) {sl k : Nat} (hk : k < xs.length) {z : Int} (hzk : z = k) {zs : List PV} (hz : zs = (slots xs k).map .int) (hs : hp[sl]? = some (.lst zs)) {v1 v4 v5 v6 v7 v8 : PV} {Q : MF -> St -> Prop}
  (h : Q .next ⟨[.lst (xs.map .int), v1, .obj sl, .int z, v4, v5, v6, v7, v8], hp.set sl (.lst ((slots xs (k + 1)).map .int))⟩) : Wp (Zb9 d) ⟨[.lst (xs.map .int), v1, .obj sl, .int z, v4, v5, v6, v7, v8], hp⟩ Q E := by
 have hx : (xs.map PV.int)[k]? = some (.int (xs.getD k 0)) := by
  rw [List.getElem?_map, getD_eq_getElem?_getD, List.getElem?_eq_getElem hk]; rfl
 unfold Zb9
 refine Wp.I (Wp.A2 (Wp.Y (Wp.B (v := .int z) rfl rfl (Wp.L (Wp.G8 ?_)))))
 by_cases h8 : k < 10
 ·rw [decide_eq_true (show z < 10 by lia)]
  refine Wp.I (Wp.A8 (Wp.j (Wp.B (v := .obj sl) rfl rfl (Wp.W hs (Wp.f (Wp.B (v := .lst (xs.map .int)) rfl rfl (Wp.B (v := .int z) rfl rfl ?_)))))))
  refine Wp.B1 hzk (y := .int (xs.getD k 0)) (xs := xs.map .int) (Or.inl (show isLst _ (PV.lst (xs.map .int)) = some (xs.map .int) from rfl)) hx (by rw [length_map]; exact Nat.le_trans hl (by decide)) ?_
  refine Wp.l hs (by rw [hz, length_map, Zc5]; exact Qkb (Nat.min_le_right _ _) rfl) ?_
  refine Wp.N (Wp.N ?_)
  have e : slots xs (k + 1) = slots xs k ++ [xs.getD k 0] := by rw [Zha]; unfold putS; rw [if_pos h8]
  rw [e, map_append, <- hz] at h
  exact h
 ·rw [decide_eq_false (show ¬ z < 10 by lia)]
  have hm : z.fmod 10 = ((k % 10 : Nat) : Int) := by rw [hzk, Int.fmod_eq_emod_of_nonneg _ (by lia)]; lia
  have hsl := Zc5 xs k
  have hlt : k % 10 < (slots xs k).length := Qle (Nat.mod_lt k (Nat.succ_pos 9)) (hsl.trans (Nat.min_eq_right (Qn h8)))
  have hy : zs[k % 10]? = some (.int ((slots xs k).getD (k % 10) 0)) := by
   rw [hz, List.getElem?_map, getD_eq_getElem?_getD, List.getElem?_eq_getElem hlt]; rfl
  have hzl : zs.length = (slots xs k).length := by rw [hz, length_map]
  refine Wp.I (Wp.J0 (Wp.B rfl rfl (Wp.C1 (Wp.B (v := .int z) rfl rfl (Wp.L (Wp.F6 (by lia) ?_))))))
  refine Wp.B1 hm (Or.inl (Zg hs)) hy (Qkkb (Nat.le_of_eq (hzl.trans hsl)) (Nat.min_le_right _ _) rfl) (Wp.f (Wp.B (v := .lst (xs.map .int)) rfl rfl (Wp.B (v := .int z) rfl rfl ?_)))
  refine Wp.B1 hzk (y := .int (xs.getD k 0)) (xs := xs.map .int) (Or.inl (show isLst _ (PV.lst (xs.map .int)) = some (xs.map .int) from rfl)) hx (by rw [length_map]; exact Nat.le_trans hl (by decide)) (Wp.C8 ?_)
  refine Wp.G3 hm hs (Qle hlt hzl) (Qkkb (Nat.le_of_eq (hzl.trans hsl)) (Nat.min_le_right _ _) rfl) ?_
  refine Wp.N (Wp.N ?_)
  have e : slots xs (k + 1) = (slots xs k).set (k % 10) ((slots xs k).getD (k % 10) 0 + xs.getD k 0) := by rw [Zha]; unfold putS; rw [if_neg h8]
  rw [e, List.map_set, <- hz] at h
  exact h
end
end Mine
namespace Mine

noncomputable def yes (p : Prop) : Bool := @decide p (Classical.propDecidable p)
theorem Za7 {p : Prop} : yes p = true ↔ p := @decide_eq_true_iff p (Classical.propDecidable p)
inductive Way (E : Int -> Int -> Prop) : Int -> Int -> Prop
 | one {a b : Int} : E a b -> Way E a b
 | snoc {a b c : Int} : Way E a b -> E b c -> Way E a c
section
variable {E E' : Int -> Int -> Prop}
theorem Way.cons {a b c : Int} (h : E a b) (w : Way E b c) : Way E a c := by
 induction w with
 | one e => exact .snoc (.one h) e
 | snoc _ e ih => exact .snoc ih e
theorem Way.trans {a b c : Int} (v : Way E a b) (w : Way E b c) : Way E a c := by
 induction w with
 | one e => exact .snoc v e
 | snoc _ e ih => exact .snoc ih e
theorem Way.last {a c : Int} (w : Way E a c) : ∃ b, E b c ∧ (a = b ∨ Way E a b) := by
 cases w with
 | one e => exact ⟨a, e, .inl rfl⟩
 | snoc w e => exact ⟨_, e, .inr w⟩
theorem Way.first {a c : Int} (w : Way E a c) : ∃ b, E a b ∧ (b = c ∨ Way E b c) := by
 induction w with
 | one e => exact ⟨_, e, .inl rfl⟩
 | snoc w e ih =>
  obtain ⟨b, h, q⟩ := ih
  rcases q with rfl | q
  ·exact ⟨b, h, .inr (.one e)⟩
  ·exact ⟨b, h, .inr (.snoc q e)⟩
theorem Way.flip {a b : Int} (w : Way E a b) : Way (λ a b => E b a) b a := by
 induction w with
 | one e => exact .one e
 | snoc _ e ih => exact .cons e ih
theorem Zgr {x : Int} (h : Acc E x) : ∀ z, (z = x ∨ Way E z x) -> ¬ Way E z z := by
 induction h with
 | intro x _ ih =>
  intro z hz w
  have : ∃ p, E p x ∧ Way E p p := by
   rcases hz with rfl | hz
   ·obtain ⟨p, e, q⟩ := w.last
    rcases q with rfl | q
    ·exact ⟨z, e, w⟩
    ·exact ⟨p, e, .cons e q⟩
   ·obtain ⟨p, e, q⟩ := hz.last
    rcases q with rfl | q
    ·exact ⟨z, e, w⟩
    ·exact absurd w (ih p e z (.inr q))
  obtain ⟨p, e, q⟩ := this
  exact ih p e p (.inl rfl) q
theorem Zdt {x : Int} (h : Acc E x) : ¬ Way E x x := Zgr h x (.inl rfl)
theorem Zhp {p q : Int -> Prop} {a : Int} : ∀ (U : List Int), (∀ x, p x -> q x) -> a ∈ U -> q a -> ¬ p a -> (U.filter λ x => yes (p x)).length < (U.filter λ x => yes (q x)).length := by
 have le : ∀ (V : List Int), (∀ x, p x -> q x) -> (V.filter λ x => yes (p x)).length <= (V.filter λ x => yes (q x)).length := λ V h => by
  induction V with
  | nil => exact Qr
  | cons b V ih =>
   simp only [filter_cons]
   by_cases hp : p b
   ·rw [if_pos (Za7.mpr hp), if_pos (Za7.mpr (h b hp))]; simpa using ih
   ·rw [if_neg (λ q => hp (Za7.mp q))]
    split
    ·simp only [length_cons]; exact Qkk ih (Qs Qr)
    ·exact ih
 intro U h ha hq hp
 induction U with
 | nil => cases ha
 | cons b U ih =>
  simp only [filter_cons]
  by_cases e : b = a
  ·subst e
   rw [if_neg (λ q => hp (Za7.mp q)), if_pos (Za7.mpr hq)]
   have := le U h
   simp only [length_cons]; exact Qkl (le U h) Qr
  ·have := ih (by
    rcases Qmc ha with h | h
    ·exact absurd h.symm e
    ·exact h)
   by_cases hpb : p b
   ·rw [if_pos (Za7.mpr hpb), if_pos (Za7.mpr (h b hpb))]; simpa using this
   ·rw [if_neg (λ q => hpb (Za7.mp q))]
    split
    ·simp only [length_cons]; exact Qll this (Qs Qr)
    ·exact this
theorem Znu (U : List Int) (hU : ∀ a b, E a b -> a ∈ U) : ∀ (n : Nat) (x : Int), (U.filter λ a => yes (Way E a x)).length < n -> (∀ z, (z = x ∨ Way E z x) -> ¬ Way E z z) -> Acc E x := by
 intro n
 induction n with
 | zero => intro x h; lia
 | succ n ih =>
  intro x hn h
  refine Acc.intro x λ p e => ih p ?_ λ z hz w => ?_
  ·have := Zhp (p := λ a => Way E a p) (q := λ a => Way E a x) (a := p) U (λ a w => .snoc w e) (hU p x e) (.one e) (h p (.inr (.one e)))
   lia
  ·rcases hz with rfl | hz
   ·exact h z (.inr (.one e)) w
   ·exact h z (.inr (.snoc hz e)) w
theorem Zmf (U : List Int) (hU : ∀ a b, E a b -> a ∈ U) (x : Int) : Acc E x ↔ ∀ z, (z = x ∨ Way E z x) -> ¬ Way E z z :=
 ⟨Zgr, Znu U hU _ x (Nat.lt_succ_self _)⟩
theorem Zsh (U : List Int) (hU : ∀ a b, E a b -> a ∈ U ∧ b ∈ U) : (∀ x ∈ U, Acc E x) ↔ ∀ x ∈ U, Acc (λ a b => E b a) x := by
 have k1 : (∀ x ∈ U, Acc E x) ↔ ∀ z, ¬ Way E z z := by
  constructor
  ·intro h z w
   obtain ⟨p, e, _⟩ := w.last
   exact Zdt (h z (hU _ _ e).2) w
  ·intro h x _
   exact (Zmf U (λ a b e => (hU a b e).1) x).mpr λ z _ => h z
 have k2 : (∀ x ∈ U, Acc (λ a b => E b a) x) ↔ ∀ z, ¬ Way (λ a b => E b a) z z := by
  constructor
  ·intro h z w
   obtain ⟨p, e, _⟩ := w.last
   exact Zdt (h z (hU _ _ e).1) w
  ·intro h x _
   exact (Zmf U (λ a b e => (hU b a e).2) x).mpr λ z _ => h z
 rw [k1, k2]
 exact ⟨λ h z w => h z w.flip, λ h z w => h z w.flip⟩
end
noncomputable abbrev Ed := List (Int × Int)
noncomputable abbrev St1 (ts : Ed) (a b : Int) : Prop := (a, b) ∈ ts
noncomputable abbrev Fr (ts : Ed) (a : Int) : Prop := Acc (St1 ts) a
noncomputable abbrev Rc (ts : Ed) : Int -> Int -> Prop := Way (St1 ts)
noncomputable def scL (ts : Ed) (a : Int) : List Int := (ts.filter λ e => e.1 == a).map (·.2)
noncomputable def lastOcc : List Int -> List Int
 | [] => []
 | x :: xs => match decide (x ∈ xs) with
  | true => lastOcc xs
  | false => x :: lastOcc xs
theorem Zet {x : Int} {xs : List Int} : lastOcc (x :: xs) = (match decide (x ∈ xs) with | true => lastOcc xs | false => x :: lastOcc xs) := rfl
theorem Zhq : lastOcc [] = [] := rfl
theorem Zap {ts : Ed} {a b : Int} : b ∈ scL ts a ↔ (a, b) ∈ ts := by
 unfold scL
 rw [mem_map]
 constructor
 ·rintro ⟨⟨x, y⟩, h, rfl⟩
  rw [mem_filter] at h
  have := h.2
  simp at this
  subst this; exact h.1
 ·intro h; exact ⟨(a, b), mem_filter.mpr ⟨h, by simp⟩, rfl⟩
theorem Za8 {x : Int} : ∀ {xs : List Int}, x ∈ lastOcc xs ↔ x ∈ xs
 | [] => by simp [Zhq]
 | y :: ys => by
  rw [Zet]
  have ih := Za8 (x := x) (xs := ys)
  cases h : decide (y ∈ ys) with
  | true =>
   have hy := of_decide_eq_true h
   rw [ih, mem_cons]
   exact ⟨.inr, λ q => q.elim (λ e => e ▸ hy) id⟩
  | false => rw [mem_cons, mem_cons, ih]
theorem Zcc : ∀ (xs : List Int), (lastOcc xs).Nodup
 | [] => nodup_nil
 | y :: ys => by
  rw [Zet]
  cases h : decide (y ∈ ys) with
  | true => exact Zcc ys
  | false =>
   rw [nodup_cons, Za8]
   exact ⟨of_decide_eq_false h, Zcc ys⟩
noncomputable def cnt (ts : Ed) (D : List Int) (a : Int) : Nat := (ts.filter λ e => e.2 == a && !decide (e.1 ∈ D)).length
noncomputable abbrev allIn (ts : Ed) (D : List Int) (a : Int) : Prop := ∀ p, (p, a) ∈ ts -> p ∈ D
theorem Zf3 {ts : Ed} {D : List Int} {a : Int} : cnt ts D a = 0 ↔ allIn ts D a := by
 unfold cnt
 rw [List.length_eq_zero_iff, List.filter_eq_nil_iff]
 constructor
 ·intro h p hp
  have := h _ hp
  simp at this
  exact this
 ·rintro h ⟨p, b⟩ hp
  simp
  intro e; subst e; exact h p hp
noncomputable def one (b : Bool) : Nat := match b with
 | true => 1
 | false => 0
theorem Zko (x y : Int) (ts : Ed) (D : List Int) (a : Int) : cnt ((x, y) :: ts) D a = cnt ts D a + one (y == a && !decide (x ∈ D)) := by
 unfold cnt
 rw [filter_cons]
 dsimp only
 cases (y == a && !decide (x ∈ D)) <;> rfl
theorem Zsi (x y : Int) (ts : Ed) (b a : Int) : (scL ((x, y) :: ts) b).count a = (scL ts b).count a + one (x == b && y == a) := by
 unfold scL
 rw [filter_cons]
 dsimp only
 cases x == b with
 | false => rfl
 | true =>
  rw [if_pos rfl, map_cons, List.count_cons, Bool.true_and]
  dsimp only
  cases y == a <;> rfl
theorem Zo7 (D : List Int) (b x y a : Int) (hb : b ∉ D) : one (y == a && !decide (x ∈ D)) = one (y == a && !decide (x ∈ D ++ [b])) + one (x == b && y == a) := by
 cases y == a with
 | false => rw [Bool.and_false]; rfl
 | true =>
  by_cases e : x = b
  ·subst e
   rw [decide_eq_false hb, decide_eq_true (mem_append_right D mem_cons_self), beq_self_eq_true]; rfl
  ·have : decide (x ∈ D ++ [b]) = decide (x ∈ D) := decide_eq_decide.mpr ⟨λ h => (Qma h).resolve_right λ q => e (Qms q), mem_append_left _⟩
   rw [this, beq_eq_false_iff_ne.mpr e]; rfl
theorem Zf4 {ts : Ed} {D : List Int} {b a : Int} (hb : b ∉ D) : cnt ts D a = cnt ts (D ++ [b]) a + (scL ts b).count a := by
 induction ts with
 | nil => rfl
 | cons e ts ih =>
  obtain ⟨x, y⟩ := e
  rw [Zko, Zko, Zsi, ih, Zo7 D b x y a hb, Nat.add_add_add_comm]
theorem Zs9 {ts : Ed} {D : List Int} {b a : Int} (hb : b ∉ D) : (scL ts b).count a <= cnt ts D a := by
 rw [Zf4 hb]; lia
noncomputable def newly (ts : Ed) (D : List Int) (b : Int) : List Int := (lastOcc (scL ts b)).filter λ a => cnt ts D a == 0
theorem Zhr {ts : Ed} {D : List Int} {a b : Int} : a ∈ newly ts D b ↔ (b, a) ∈ ts ∧ allIn ts D a := by
 unfold newly
 rw [mem_filter, Za8, Zap, beq_iff_eq, Zf3]
theorem Zlr {ts : Ed} {D : List Int} {b : Int} : (newly ts D b).Nodup := (Zcc _).sublist filter_sublist
end Mine
namespace Mine
open PySem PySem.W PyProof.Rows

theorem Zkp : ∀ (xs : List Int) (T : TSt), (∀ s ∈ xs, (xs.count s : Int) <= T.np s) ->
  (xs.foldl decT T).np = (λ s => T.np s - xs.count s) ∧ (xs.foldl decT T).ready = T.ready.map (· ++ (lastOcc xs).filter λ s => T.np s == (xs.count s : Int))
 | [], T, _ => by
  refine ⟨by funext s; simp, ?_⟩
  show T.ready = _
  cases T.ready <;> simp [Zhq]
 | x :: xs, T, h => by
  have hx := h x mem_cons_self
  rw [count_cons_self] at hx
  have npd : (decT T x).np = λ s => if s = x then T.np x - 1 else T.np s := rfl
  have cne : ∀ s, s ≠ x -> (x :: xs).count s = xs.count s := λ s e => List.count_cons_of_ne (Ne.symm e)
  have hle : ∀ s ∈ xs, (xs.count s : Int) <= (decT T x).np s := λ s hs => by
   rw [npd]
   by_cases e : s = x
   ·subst e; simp only [if_true]; lia
   ·simp only [if_neg e]
    have := h s (mem_cons_of_mem _ hs)
    rw [cne s e] at this; exact this
  obtain ⟨ih1, ih2⟩ := Zkp xs (decT T x) hle
  refine ⟨?_, ?_⟩
  ·rw [foldl_cons, ih1, npd]
   funext s
   by_cases e : s = x
   ·subst e; simp only [if_true]; rw [count_cons_self]; lia
   ·simp only [if_neg e]; rw [cne s e]
  ·rw [foldl_cons, ih2]
   have hr : (decT T x).ready = if T.np x - 1 = 0 then T.ready.map (· ++ [x]) else T.ready := rfl
   rw [hr]
   have hf : ∀ l : List Int, (∀ s ∈ l, s ∈ xs) -> l.filter (λ s => (decT T x).np s == (xs.count s : Int)) = l.filter λ s => T.np s == ((x :: xs).count s : Int) := λ l hl => by
    refine filter_congr λ s hs => ?_
    rw [npd]
    by_cases e : s = x
    ·subst e; simp only [if_true]; rw [count_cons_self, Bool.eq_iff_iff, beq_iff_eq, beq_iff_eq]; lia
    ·simp only [if_neg e]; rw [cne s e]
   rw [hf (lastOcc xs) λ s hs => Za8.mp hs]
   rw [Zet]
   by_cases hz : T.np x - 1 = 0
   ·rw [if_pos hz]
    have c0 : xs.count x = 0 := by lia
    have hn : x ∉ xs := count_eq_zero.mp c0
    rw [decide_eq_false hn]
    try dsimp only
    rw [filter_cons, count_cons_self, if_pos (by rw [beq_iff_eq]; lia)]
    cases T.ready <;> simp
   ·rw [if_neg hz]
    by_cases hn : x ∈ xs
    ·rw [decide_eq_true hn]
    ·rw [decide_eq_false hn]
     try dsimp only
     rw [filter_cons, count_cons_self, if_neg (by rw [beq_iff_eq, count_eq_zero.mpr hn]; lia)]
structure Bt (ns : List Int) (ts : Ed) (T : TSt) : Prop where
 order : T.order = ns
 sc : T.sc = scL ts
 np : ∀ a ∈ ns, T.np a = cnt ts [] a
 ready : T.ready = none
 passed : T.passed = 0
 fin : T.fin = 0
 tin : ∀ e ∈ ts, e.1 ∈ ns ∧ e.2 ∈ ns
theorem Zmg {ts : Ed} {a : Int} (h : ∀ e ∈ ts, e.1 ≠ a) : scL ts a = [] := by
 unfold scL
 rw [List.map_eq_nil_iff, List.filter_eq_nil_iff]
 intro e he; simpa using h e he
theorem Zmh {ts : Ed} {D : List Int} {a : Int} (h : ∀ e ∈ ts, e.2 ≠ a) : cnt ts D a = 0 := by
 rw [Zf3]; intro p hp; exact absurd rfl (h _ hp)
theorem Bt.nil : Bt [] [] T0 := ⟨rfl, rfl, (λ a h => nomatch h), rfl, rfl, rfl, λ e h => nomatch h⟩
theorem Zsj {ts ts' : Ed} {D : List Int} {a : Int} : cnt (ts ++ ts') D a = cnt ts D a + cnt ts' D a := by unfold cnt; rw [filter_append, length_append]
theorem Zsk {ts ts' : Ed} {a : Int} : scL (ts ++ ts') a = scL ts a ++ scL ts' a := by unfold scL; rw [filter_append, map_append]
structure Kn (ns : List Int) (ts : Ed) (T : TSt) (O D rd : List Int) : Prop where
 order : T.order = ns
 sc : T.sc = scL ts
 np : ∀ a ∈ ns, T.np a = if a ∈ D then -2 else if a ∈ O then -1 else (cnt ts D a : Int)
 ready : T.ready = some rd
 passed : T.passed = O.length
 fin : T.fin = D.length
 nnd : ns.Nodup
 ond : O.Nodup
 dnd : D.Nodup
 dO : ∀ a ∈ D, a ∈ O
 oN : ∀ a ∈ O, a ∈ ns
 cl : ∀ a ∈ O, allIn ts D a
 rnd : rd.Nodup
 rm : ∀ a, a ∈ rd ↔ a ∈ ns ∧ a ∉ O ∧ allIn ts D a
 tin : ∀ e ∈ ts, e.1 ∈ ns ∧ e.2 ∈ ns
section
variable {ns : List Int} {ts : Ed} {T : TSt} {O D rd : List Int}
theorem Bt.start (B : Bt ns ts T) (hn : ns.Nodup) : Kn ns ts (readyT T) [] [] (ns.filter λ a => cnt ts [] a == 0) := by
 refine ⟨B.order, B.sc, λ a ha => ?_, ?_, B.passed, B.fin, hn, nodup_nil, nodup_nil, (λ a h => nomatch h), (λ a h => nomatch h), (λ a h => nomatch h), hn.sublist filter_sublist, λ a => ?_, B.tin⟩
 ·rw [if_neg (λ h => nomatch h), if_neg (λ h => nomatch h)]; exact B.np a ha
 ·show some _ = some _
  rw [B.order]
  congr 1
  refine filter_congr λ a ha => ?_
  rw [B.np a ha, Bool.eq_iff_iff, beq_iff_eq, beq_iff_eq]; lia
 ·rw [mem_filter, beq_iff_eq, Zf3]
  simp
theorem Kn.get (K : Kn ns ts T O D rd) : Kn ns ts (getT T rd) (O ++ rd) D [] := by
 refine ⟨K.order, K.sc, λ a ha => ?_, rfl, ?_, K.fin, K.nnd, ?_, K.dnd, λ a h => mem_append_left _ (K.dO a h), λ a h => ?_, λ a h => ?_, nodup_nil, λ a => ?_, K.tin⟩
 ·show (if a ∈ rd then (-1 : Int) else T.np a) = _
  by_cases h1 : a ∈ rd
  ·have h2 : a ∉ D := λ h => ((K.rm a).mp h1).2.1 (K.dO a h)
   rw [if_pos h1, if_neg h2, if_pos (mem_append_right _ h1)]
  ·rw [if_neg h1, K.np a ha]
   simp [h1]
 ·show T.passed + (rd.length : Int) = _
  rw [K.passed, length_append]; lia
 ·exact nodup_append.mpr ⟨K.ond, K.rnd, λ a h b h' e => ((K.rm b).mp h').2.1 (e ▸ h)⟩
 ·exact (Qma h).elim (K.oN a) λ h => ((K.rm a).mp h).1
 ·exact (Qma h).elim (K.cl a) λ h => ((K.rm a).mp h).2.2
 ·constructor
  ·intro h; cases h
  ·rintro ⟨h1, h2, h3⟩
   exact absurd (mem_append_right O ((K.rm a).mpr ⟨h1, λ h => h2 (mem_append_left _ h), h3⟩)) h2
theorem Kn.done (K : Kn ns ts T O D rd) {b : Int} (hb : b ∈ O) (hd : b ∉ D) : Kn ns ts (fin1 T b) O (D ++ [b]) (rd ++ newly ts (D ++ [b]) b) := by
 have notO : ∀ s, (b, s) ∈ ts -> s ∉ O := λ s hs ho => hd (K.cl s ho b hs)
 have bb : (b, b) ∉ ts := λ h => notO b h hb
 have b0 : (scL ts b).count b = 0 := count_eq_zero.mpr λ h => bb (Zap.mp h)
 have npU : ∀ s ∈ scL ts b, (upd T.np b (-2)) s = (cnt ts D s : Int) := λ s hs => by
  have h1 := Zap.mp hs
  have h2 : s ≠ b := λ e => bb (e ▸ h1)
  have h3 := notO s h1
  rw [Z2 h2, K.np s (K.tin _ h1).2, if_neg (λ h => h3 (K.dO s h)), if_neg h3]
 obtain ⟨k1, k2⟩ := Zkp (scL ts b) { T with np := upd T.np b (-2) } λ s hs => by
  show _ <= upd T.np b (-2) s
  rw [npU s hs]
  exact Int.ofNat_le.mpr (Zs9 hd)
 have e : fin1 T b = { (scL ts b).foldl decT { T with np := upd T.np b (-2) } with fin := T.fin + 1 } := by
  unfold fin1
  rw [K.sc, Zka]
 rw [e]
 refine ⟨(Za6 _ _).trans K.order, (Ze2 _ _).trans K.sc, λ a ha => ?_, ?_, (Zfl _ _).trans K.passed, ?_, K.nnd, K.ond, ?_, λ a h => ?_, K.oN, λ a h p hp => mem_append_left _ (K.cl a h p hp), ?_, λ a => ?_, K.tin⟩
 ·show ((scL ts b).foldl decT { T with np := upd T.np b (-2) }).np a = _
  rw [k1]
  show upd T.np b (-2) a - _ = _
  by_cases h1 : a = b
  ·subst h1; rw [Zu, b0, if_pos (by simp)]; rfl
  ·rw [Z2 h1]
   have npa := K.np a ha
   by_cases h2 : a ∈ D
   ·have : (scL ts b).count a = 0 := count_eq_zero.mpr λ h => notO a (Zap.mp h) (K.dO a h2)
    rw [npa, if_pos h2, if_pos (mem_append_left _ h2), this]; rfl
   ·rw [if_neg (show a ∉ D ++ [b] by simp [h1, h2]), npa, if_neg h2]
    by_cases h3 : a ∈ O
    ·have : (scL ts b).count a = 0 := count_eq_zero.mpr λ h => notO a (Zap.mp h) h3
     rw [if_pos h3, if_pos h3, this]; rfl
    ·rw [if_neg h3, if_neg h3, Zf4 hd]
     lia
 ·show ((scL ts b).foldl decT { T with np := upd T.np b (-2) }).ready = _
  rw [k2]
  show T.ready.map _ = _
  rw [K.ready]
  show some (rd ++ _) = some (rd ++ _)
  congr 2
  unfold newly
  refine filter_congr λ s hs => ?_
  show (upd T.np b (-2) s == _) = _
  rw [npU s (Za8.mp hs), Zf4 hd, Bool.eq_iff_iff, beq_iff_eq, beq_iff_eq]
  lia
 ·show T.fin + 1 = _
  rw [K.fin, length_append, length_singleton]; rfl
 ·exact nodup_append.mpr ⟨K.dnd, by simp, λ a h c h' q => by rw [mem_singleton] at h'; exact hd (by rw [<- h', <- q]; exact h)⟩
 ·rcases Qma h with h | h
  ·exact K.dO a h
  ·rw [mem_singleton] at h; rw [h]; exact hb
 ·refine nodup_append.mpr ⟨K.rnd, Zlr, λ a h c h' q => ?_⟩
  subst q
  exact hd (((K.rm a).mp h).2.2 b (Zhr.mp h').1)
 ·rw [mem_append, K.rm, Zhr]
  constructor
  ·rintro (⟨h1, h2, h3⟩ | ⟨h1, h2⟩)
   ·exact ⟨h1, h2, λ p hp => mem_append_left _ (h3 p hp)⟩
   ·exact ⟨(K.tin _ h1).2, notO a h1, h2⟩
  ·rintro ⟨h1, h2, h3⟩
   by_cases q : (b, a) ∈ ts
   ·exact .inr ⟨q, h3⟩
   ·refine .inl ⟨h1, h2, λ p hp => ?_⟩
    rcases Qma (h3 p hp) with h | h
    ·exact h
    ·rw [mem_singleton] at h; subst h; exact absurd hp q
end

section
variable {hp : List MO} {fr : List PV} {E : Value -> St -> Prop}
theorem Zt {x : MO} : (hp ++ [x])[hp.length]? = some x := by simp
theorem Zhb {x y : MO} : (hp ++ [x]).set hp.length y = hp ++ [y] := by simp
theorem Wp.C9 {n : Nat} {f e : PM PV} {asg : PV -> PM Unit} {Q : PV -> St -> Prop} (pv : PV) (xs ys : List PV) (hn : xs.length < n) (hl : ys.length = xs.length) (hlen : ys.length <= 1000000)
  (hf : Wp f ⟨fr, hp⟩ (λ v μ => v = pv ∧ μ = ⟨fr, hp⟩) (λ _ _ => False)) (hget : ∀ k, k <= xs.length -> ∀ fr' z, getIt pv ⟨fr, hp⟩ k ⟨fr', hp ++ [.lst z]⟩ = some xs[k]?)
  (step : ∀ (k : Nat) (x y u w : PV) (z : List PV), xs[k]? = some x -> ys[k]? = some y -> Wp (asg x) ⟨fr ++ [u, w], hp ++ [.lst z]⟩ (λ _ μ => Wp e μ (λ v μ' => v = y ∧ ∃ u w, μ' = ⟨fr ++ [u, w], hp ++ [.lst z]⟩) (λ _ _ => False)) (λ _ _ => False))
  (h : Q (.obj hp.length) ⟨fr, hp ++ [.lst ys]⟩) : Wp (Mine.compM n 2 f (Mine.tfA asg e)) ⟨fr, hp⟩ Q E := by
 refine Wp.D2 (hf.mono (λ v μ hv => ?_) λ _ _ e => e.elim)
 obtain ⟨rfl, rfl⟩ := hv
 try dsimp only
 refine Wp.C0 (λ k μ => ∃ u w, μ = ⟨fr ++ [u, w], hp ++ [.lst (ys.take k)]⟩) xs.length (λ k μ hI hk => ?_) n 0 _ hn (Nat.zero_le _) ⟨.undef, .undef, rfl⟩
 obtain ⟨u, w, rfl⟩ := hI
 rw [hget k hk]
 cases hx : xs[k]? with
 | none =>
  left
  have hk' : k = ys.length := by have := Qgn hx; lia
  refine ⟨rfl, ?_⟩
  try dsimp only
  rw [hk', take_length, List.take_left]
  exact h
 | some x =>
  right
  have hlt := (Qgl hx)
  have hy : ys[k]? = some ys[k] := List.getElem?_eq_getElem (Qle hlt hl)
  refine ⟨hlt, x, rfl, Wp.J5 ((step k x _ u w _ hx hy).mono (λ _ μ hs => ?_) λ _ _ e => e.elim)⟩
  refine Wp.E3 (hs.mono (λ v μ' hv => ?_) λ _ _ e => e.elim)
  obtain ⟨rfl, u', w', rfl⟩ := hv
  refine ⟨ys.take k, Zt, by rw [length_take]; lia, u', w', ?_⟩
  try dsimp only
  rw [Zhb, take_succ_eq_append_getElem (by exact Qle hlt hl)]
theorem Zkq {pv : PV} {μ0 μ : St} {k : Nat} (h : ∀ i, pv ≠ .vals i) : getIt pv μ0 k μ = getOf pv μ0 k μ := by
 cases pv <;> first | rfl | exact absurd rfl (h _)
theorem Zeu {i : Nat} {xs : List PV} (h : hp[i]? = some (.lst xs)) {k : Nat} {fr' : List PV} {z : MO} : getIt (.obj i) ⟨fr, hp⟩ k ⟨fr', hp ++ [z]⟩ = some xs[k]? := by
 rw [Zkq (by intro i e; cases e)]
 exact Zes h (getElem?_app h)
theorem Zcv {n k : Nat} (h : n <= 1000000) (hk : k <= n) {μ0 μ : St} : getIt (.rng 0 n 1) μ0 k μ = some ((List.range n).map λ (i : Nat) => PV.int i)[k]? := by
 rw [Zkq (by intro i e; cases e), Z0 h hk, List.getElem?_map]
 by_cases q : k < n
 ·rw [if_pos q, List.getElem?_range q]; rfl
 ·rw [if_neg q, List.getElem?_eq_none (by rw [length_range]; lia)]; rfl
theorem Znv (n : Nat) : rngList 0 1 n = (List.range n).map λ (i : Nat) => PV.int i := by
 unfold rngList
 refine map_congr_left λ i _ => ?_
 rw [Int.mul_one, Int.zero_add]
noncomputable def upTo (n : Nat) : List PV := (List.range n).map λ (i : Nat) => PV.int i
theorem Wp.F0 {n : Nat} (hn : n <= 1000000) {Q : PV -> St -> Prop} (h : Q (.obj hp.length) ⟨fr, hp ++ [.lst (upTo n)]⟩) : Wp (oneM pListOf [.rng 0 n 1]) ⟨fr, hp⟩ Q E := by
 show Wp (pListOf (.rng 0 n 1)) ⟨fr, hp⟩ Q E
 unfold pListOf
 have e := Zg9 (n := n)
 have hc : (Builtin.Range.small 0 (n : Int) 1 && decide (Builtin.Range.rangeSize 0 (n : Int) 1 <= 1000000)) = true := by
  rw [Bool.and_eq_true, decide_eq_true_eq, e]
  exact ⟨Zkn hn, by lia⟩
 try dsimp only
 rw [hc]
 refine Wp.C (Wp.A6 rfl (Wp.C (Wp.Z (Wp.L ?_))))
 rw [e, Int.toNat_natCast, Znv]
 exact h
noncomputable abbrev pairV (e : Int × Int) : PV := .tup [.int e.1, .int e.2]
structure Drawn (n : Nat) (ns : List Int) (ts : Ed) : Prop where
 nnd : ns.Nodup
 mem : ∀ a, a ∈ ns ↔ 0 <= a ∧ a < n
 tin : ∀ e ∈ ts, e.1 ∈ ns ∧ e.2 ∈ ns
 tl : ts.length <= 10
theorem Drawn.len {n : Nat} {ns : List Int} {ts : Ed} (D : Drawn n ns ts) : ns.length = n := by
 have h1 := Zp (ys := (List.range n).map λ (i : Nat) => (i : Int)) D.nnd λ a ha => by
  have := (D.mem a).mp ha
  exact mem_map.mpr ⟨a.toNat, by rw [mem_range]; exact Qtl this.1 this.2, Qtn this.1⟩
 have h2 := Zp (xs := (List.range n).map λ (i : Nat) => (i : Int)) (ys := ns) (by
  unfold List.Nodup
  rw [pairwise_map]
  exact nodup_range.imp λ h e => h (Int.ofNat.inj e)) λ a ha => by
  obtain ⟨i, hi, rfl⟩ := Qmm ha
  rw [mem_range] at hi
  exact (D.mem _).mpr ⟨Int.natCast_nonneg _, Qcl hi⟩
 rw [length_map, length_range] at h1 h2
 exact Nat.le_antisymm h1 h2
end

section
variable {hp : List MO} {fr : List PV} {E : Value -> St -> Prop}
theorem Wp.F5 {x : PV} {μ : St} {Q : PV -> St -> Prop} (h : Q x μ) : Wp (Pure.pure x : PM PV) μ Q E := (Wp.mk h)
theorem Wp.H3 {f : PM (List PV)} {μ : St} {Q : PV -> St -> Prop} (h : Wp f μ (λ xs μ' => xs.length <= 1000000 ∧ Q (.tup xs) μ') E) : Wp (Mine.eTup f) μ Q E :=
 Wp.C (h.mono (λ xs μ' h => Wp.C (Wp.A6 (decide_eq_true h.1) (Wp.L h.2))) λ _ _ e => e)
theorem Zdh {xs : List PV} : isLst hp (PV.lst xs) = some xs := rfl
theorem Zev {α β : Type} (f : α -> β) : ∀ (l : List α) (k : Nat), (l.eraseIdx k).map f = (l.map f).eraseIdx k
 | [], _ => rfl
 | _ :: _, 0 => rfl
 | a :: l, k + 1 => congrArg (f a :: ·) (Zev f l k)
theorem Zsl {nm ot : List Int} {n7 n6 : Nat} {c r : Int} (hne : n6 ≠ n7) (h6 : hp[n6]? = some (.lst (nm.map .int))) (h7 : hp[n7]? = some (.lst (ot.map .int))) (hr : r = ot.length) (ho : ot ≠ []) (hl : ot.length <= 100) (hl' : nm.length <= 100) {v0 v1 v2 v3 v4 : PV} {Q : MF -> St -> Prop}
  (h : ∀ (k : Nat) (y : Int), ot[k]? = some y -> Q .next ⟨[v0, v1, v2, v3, v4, .int (c.fdiv r), .obj n6, .obj n7, .int r], (hp.set n7 (.lst ((ot.eraseIdx k).map .int))).set n6 (.lst ((nm ++ [y]).map .int))⟩) :
  Wp (Zb8 d) ⟨[v0, v1, v2, v3, v4, .int c, .obj n6, .obj n7, .int r], hp⟩ Q E := by
 have hpos : 0 < ot.length := length_pos_iff.mpr ho
 have hr0 : r ≠ 0 := Int.ne_of_gt (Qzp hr hpos)
 have hw0 : 0 <= c.fmod r := Int.fmod_nonneg_of_pos _ (Qzp hr hpos)
 have hw1 : c.fmod r < r := Int.fmod_lt_of_pos _ (Qzp hr hpos)
 have hk : (c.fmod r).toNat < ot.length := Qtl hw0 (Int.lt_of_lt_of_le hw1 (Int.le_of_eq hr))
 have hy : ot[(c.fmod r).toNat]? = some ot[(c.fmod r).toNat] := List.getElem?_eq_getElem hk
 have hidx : pIdx (ot.map PV.int).length (c.fmod r) = some (c.fmod r).toNat := by
  have := Zki (n := (ot.map PV.int).length) (k := (c.fmod r).toNat) (by rw [length_map]; exact hk) (by rw [length_map]; exact Qkb hl rfl)
  rw [Int.toNat_of_nonneg hw0] at this
  exact this
 unfold Zb8
 refine Wp.I (Wp.A8 (Wp.j (Wp.B (v := .obj n6) rfl rfl (Wp.W h6 (Wp.I3 (Wp.B (v := .obj n7) rfl rfl ⟨n7, ot.map .int, rfl, h7, ?_⟩))))))
 refine Wp.C1 (Wp.B (v := .int c) rfl rfl (Wp.B (v := .int r) rfl rfl (Wp.F6 hr0 ?_)))
 have hyp : (ot.map PV.int)[(c.fmod r).toNat]? = some (.int (ot[(c.fmod r).toNat])) := by rw [List.getElem?_map, hy]; rfl
 refine ⟨c.fmod r, (c.fmod r).toNat, ot.map .int, .int ot[(c.fmod r).toNat], rfl, hidx, h7, hyp, by rw [length_map]; exact Qkb hl rfl, ?_⟩
 refine Wp.l (Zj (Ne.symm hne) h6) (by rw [length_map]; exact Qkb hl' rfl) ?_
 have h := h _ _ hy
 refine Wp.I (Wp.S (Wp.C1 (Wp.B (v := .int c) rfl rfl (Wp.B (v := .int r) rfl rfl (Wp.H5 hr0 (Qzn hr hl rfl) (Wp.H (Wp.N ?_)))))))
 rw [Zev, map_append] at h
 exact h
structure Dw (hp hp' : List MO) (n k : Nat) (nm ot : List Int) (tv : List PV) : Prop where
 h6 : hp'[hp.length + 3]? = some (.lst (nm.map .int))
 h7 : hp'[hp.length + 4]? = some (.lst (ot.map .int))
 ht : hp'[hp.length + 1]? = some (.lst tv)
 old : ∀ i, i < hp.length -> hp'[i]? = hp[i]?
 len : hp.length <= hp'.length
 nl : nm.length = k
 ol : ot.length = n - k
 perm : (nm ++ ot).Perm ((List.range n).map λ (i : Nat) => (i : Int))
theorem Dw.next {hp hp' : List MO} {n k : Nat} {nm ot : List Int} {tv : List PV} (D : Dw hp hp' n k nm ot tv) {j : Nat} {y : Int} (hy : ot[j]? = some y) :
  Dw hp ((hp'.set (hp.length + 4) (.lst ((ot.eraseIdx j).map .int))).set (hp.length + 3) (.lst ((nm ++ [y]).map .int))) n (k + 1) (nm ++ [y]) (ot.eraseIdx j) tv := by
 have hj := (Qgl hy)
 have n1 : hp.length + 4 ≠ hp.length + 3 := λ e => by cases Nat.add_left_cancel e
 have n2 : hp.length + 3 ≠ hp.length + 1 := λ e => by cases Nat.add_left_cancel e
 have n3 : hp.length + 4 ≠ hp.length + 1 := λ e => by cases Nat.add_left_cancel e
 have ne : ∀ {i m : Nat}, i < hp.length -> hp.length + m ≠ i := λ h e => Nat.not_lt_of_le (Nat.le_add_right _ _) (e ▸ h)
 refine ⟨Zm (x := .lst (nm.map .int)) (Zj n1 D.h6), Zj (Ne.symm n1) (Zm D.h7), Zj n2 (Zj n3 D.ht), λ i hi => ?_, ?_, ?_, ?_, ?_⟩
 ·rw [List.getElem?_set_ne (ne hi), List.getElem?_set_ne (ne hi)]; exact D.old i hi
 ·rw [length_set, length_set]; exact D.len
 ·rw [length_append, D.nl]; rfl
 ·rw [List.length_eraseIdx, if_pos hj, D.ol]; rfl
 ·have e := (Qge hy)
  have p1 : (ot.take j ++ y :: ot.drop (j + 1)).Perm (y :: (ot.take j ++ ot.drop (j + 1))) := List.perm_middle
  have p2 : ot = ot.take j ++ y :: ot.drop (j + 1) := by rw [<- e]; simp
  rw [<- p2] at p1
  rw [List.eraseIdx_eq_take_drop_succ, append_assoc]
  exact (List.Perm.append_left nm p1.symm).trans D.perm
inductive Dr3 (n ln : Nat) (v0 v1 v2 v3 : PV) (tv : List PV) (hp : List MO) (k : Nat) : St -> Prop
 | mk {v8 : PV} {nm ot : List Int} {c : Int} {hp' : List MO} (D : Dw hp hp' n k nm ot tv) : Dr3 n ln v0 v1 v2 v3 tv hp k ⟨[v0, v1, v2, v3, .obj (ln + 1), .int c, .obj (ln + 3), .obj (ln + 4), v8], hp'⟩
noncomputable def tellV (z : Int) (ss : List Int) : List PV := ss.map λ s => pairV (s.fmod z, (s.fdiv z).fmod z)
noncomputable def codeV (ss : List Int) : List PV := ss.map λ s => .int (s.fdiv 36)
theorem Zkr {xs : List Int} (hl : xs.length <= 63) {Q : PV -> St -> Prop}
  (h : ∀ hp' ni ti n ns ts, hp.length <= hp'.length -> (∀ i, i < hp.length -> hp'[i]? = hp[i]?) -> hp.length <= ni -> hp.length <= ti -> ni ≠ ti -> 2 <= n -> n <= 6 -> Drawn n ns ts -> hp'[ni]? = some (.lst (ns.map .int)) -> hp'[ti]? = some (.lst (ts.map pairV)) -> Q (.tup [.obj ni, .obj ti]) ⟨fr, hp'⟩) :
  Wp (Zdd d [.lst (xs.map .int)]) ⟨fr, hp⟩ Q E := by
 refine Wp.A1 rfl ?_
 unfold g_law_drawn
 have hN : 1000 < fuel := by unfold fuel; exact Qkb Qr rfl
 generalize fuel = N at hN ⊢
 have hlx : (xs.map PV.int).length = xs.length := length_map ..
 have hm : (xs.map PV.int).length <= 1000000 := Qkb (Qek hlx hl) rfl
 refine Wp.I (Wp.S (Wp.C (Wp.B9 (Wp.F5 (Wp.R (Wp.C1 (Wp.F5 (Wp.C (Wp.R (Wp.B rfl rfl (Wp.B0 (.inl Zdh) hm (Wp.H6 ?_))))))))))))
 have hmin0 : ∃ w : Int, w = 2 + ((xs.map PV.int).length : Int) := ⟨_, rfl⟩
 obtain ⟨w0, hw0⟩ := hmin0
 rw [<- hw0]
 refine Wp.pMin (Wp.H ?_)
 rw [hw0]
 have hn2 : 2 <= min 6 (2 + xs.length) := Nat.le_min.mpr ⟨Qs (Qs (Qs (Qs Qr))), Nat.le_add_right 2 _⟩
 have hn5 : min 6 (2 + xs.length) <= 6 := Nat.min_le_left _ _
 have hmin : min (6 : Int) (2 + ((xs.map PV.int).length : Int)) = ((min 6 (2 + xs.length) : Nat) : Int) := by rw [hlx]; exact (Lean.Omega.Int.ofNat_min 6 (2 + xs.length)).symm
 rw [hmin]
 generalize min 6 (2 + xs.length) = n at hn2 hn5 hmin
 obtain ⟨z, hz⟩ : ∃ z : Int, z = n := ⟨_, rfl⟩
 rw [<- hz]
 refine Wp.I (Wp.S (Wp.B8 (Wp.A3 ⟨by simp, Wp.H ?_⟩)))
 refine Wp.I (Wp.i (Wp.C (Wp.R (Wp.C (Wp.R (Wp.B rfl rfl (Wp.B0 (.inl Zdh) hm ?_)))))))
 refine Wp.V ?_
 refine Wp.X (λ k μ => ∃ v3, μ = ⟨[.lst (xs.map .int), .int z, .obj hp.length, v3, .undef, .undef, .undef, .undef, .undef], hp ++ [.lst ((slots xs k).map .int)]⟩) xs.length (λ k μ hI hk => ?_) N 0 _ (Qkxl hl hN rfl) (Nat.zero_le _)
  ⟨.undef, rfl⟩
 obtain ⟨v3, rfl⟩ := hI
 rw [hlx, Z0 (by exact Qkb hl rfl) hk]
 by_cases hkx : k < xs.length
 ·right
  rw [if_pos hkx]
  refine ⟨hkx, _, rfl, Wp.H ?_⟩
  obtain ⟨y, hy⟩ : ∃ y : Int, y = k := ⟨_, rfl⟩
  rw [<- hy]
  refine Zqn hl hkx hy rfl Zt ⟨.int y, ?_⟩
  rw [Zhb]
 left
 rw [if_neg hkx]
 refine ⟨rfl, ?_⟩
 have hk' : k = xs.length := Qnn hkx hk
 subst hk'
 try dsimp only
 have hsl := Zc5 xs xs.length
 generalize slots xs xs.length = ss at hsl ⊢
 replace hsl : ss.length <= 10 := hsl ▸ Nat.min_le_right _ _
 clear hmin hw0 hm hkx hk
 have hz0 : z ≠ 0 := Int.ne_of_gt (Qzp hz (Qll Nat.two_pos hn2))
 have hzn : z.natAbs < 1000 := Qzn hz hn5 rfl
 refine Wp.I (Wp.S (Wp.C9 (pv := .obj hp.length) (ss.map .int) (tellV z ss) (by rw [length_map]; exact Qkxl hsl hN rfl) (by unfold tellV; simp) (by unfold tellV; rw [length_map]; exact Qkb hsl rfl)
  (Wp.B (v := .obj hp.length) rfl rfl ⟨rfl, rfl⟩) (λ k hk fr' zz => Zeu Zt) (λ k x y u w zz hx hy => ?_) (Wp.H ?_)))
 ·unfold tellV at hy
  rw [List.getElem?_map] at hx hy
  cases hs : ss[k]? with
  | none => rw [hs] at hx; cases hx
  | some s =>
   rw [hs] at hx hy
   cases hx; cases hy
   refine Wp.H (Wp.H3 (Wp.B9 (Wp.C1 (Wp.B (v := .int s) rfl rfl (Wp.B (v := .int z) rfl rfl (Wp.F6 hz0 (Wp.R (Wp.C1 (Wp.C1 (Wp.B (v := .int s) rfl rfl (Wp.B (v := .int z) rfl rfl (Wp.H5 hz0 hzn (Wp.B (v := .int z) rfl rfl (Wp.F6 hz0 ?_))))))))))))))
   exact ⟨by simp, rfl, _, _, rfl⟩
 have l1 : (hp ++ [MO.lst (ss.map .int)]).length = hp.length + 1 := by simp
 rw [l1]
 refine Wp.I (Wp.S (Wp.C (Wp.R (Wp.C9 (pv := .obj hp.length) (ss.map .int) (codeV ss) (by rw [length_map]; exact Qkxl hsl hN rfl) (by unfold codeV; simp) (by unfold codeV; rw [length_map]; exact Qkb hsl rfl)
  (Wp.B (v := .obj hp.length) rfl rfl ⟨rfl, rfl⟩) (λ k hk fr' zz => Zeu (getElem?_app Zt)) (λ k x y u w zz hx hy => ?_) ?_))))
 ·unfold codeV at hy
  rw [List.getElem?_map] at hx hy
  cases hs : ss[k]? with
  | none => rw [hs] at hx; cases hx
  | some s =>
   rw [hs] at hx hy
   cases hx; cases hy
   exact Wp.H (Wp.C1 (Wp.B (v := .int s) rfl rfl (Wp.F5 (Wp.H5 (by lia) (Qkb Qr rfl) ⟨rfl, _, _, rfl⟩))))
 refine Wp.sum (xs := codeV ss) (is := ss.map λ s => s.fdiv 36) (Zg Zt) (by rw [<- Zcu, map_map]; rfl) (Wp.H ?_)
 generalize (ss.map λ s => s.fdiv 36).sum = code
 have l2 : (hp ++ [MO.lst (ss.map .int)] ++ [MO.lst (tellV z ss)] ++ [MO.lst (codeV ss)]).length = hp.length + 3 := by simp
 have t2 : (hp ++ [MO.lst (ss.map .int)] ++ [MO.lst (tellV z ss)] ++ [MO.lst (codeV ss)])[hp.length + 1]? = some (.lst (tellV z ss)) := getElem?_app (by rw [<- l1]; exact Zt)
 have o2 : ∀ i, i < hp.length -> (hp ++ [MO.lst (ss.map .int)] ++ [MO.lst (tellV z ss)] ++ [MO.lst (codeV ss)])[i]? = hp[i]? := λ i hi => by
  rw [List.getElem?_append_left (by simp; lia), List.getElem?_append_left (by simp; lia), List.getElem?_append_left hi]
 generalize (hp ++ [MO.lst (ss.map .int)] ++ [MO.lst (tellV z ss)] ++ [MO.lst (codeV ss)]) = hq at l2 t2 o2 ⊢
 refine Wp.I (Wp.S (Wp.B8 (Wp.A3 ⟨by simp, Wp.H ?_⟩)))
 try dsimp only
 refine Wp.I (Wp.S (Wp.C (Wp.R (Wp.C (Wp.R (Wp.B (v := .int z) rfl rfl (Wp.V ?_)))))))
 rw [hz]
 have hn6 : n <= 1000000 := Qkb hn5 rfl
 refine Wp.F0 hn6 ?_
 refine Wp.H ?_
 rw [<- hz]
 have l3 : (hq ++ [MO.lst []]).length = hp.length + 4 := by simp [l2]
 rw [l2, l3]
 have n6 : (hq ++ [MO.lst []] ++ [MO.lst (upTo n)])[hp.length + 3]? = some (.lst ([].map PV.int)) := getElem?_app (by rw [<- l2]; exact Zt)
 have n7 : (hq ++ [MO.lst []] ++ [MO.lst (upTo n)])[hp.length + 4]? = some (.lst (((List.range n).map λ (i : Nat) => (i : Int)).map PV.int)) := by rw [<- l3, map_map]; exact Zt
 have t3 : (hq ++ [MO.lst []] ++ [MO.lst (upTo n)])[hp.length + 1]? = some (.lst (tellV z ss)) := getElem?_app (getElem?_app t2)
 have o3 : ∀ i, i < hp.length -> (hq ++ [MO.lst []] ++ [MO.lst (upTo n)])[i]? = hp[i]? := λ i hi => by
  rw [List.getElem?_append_left (by simp [l2]; exact Qll hi (Qs (Qs (Qs (Qs Qr))))), List.getElem?_append_left (Qle (Nat.lt_add_right 3 hi) l2)]
  exact o2 i hi
 have l4 : (hq ++ [MO.lst []] ++ [MO.lst (upTo n)]).length = hp.length + 5 := by simp [l2]
 generalize (hq ++ [MO.lst []] ++ [MO.lst (upTo n)]) = hr at n6 n7 t3 o3 l4 ⊢
 try dsimp only
 refine Wp.I (Wp.i (Wp.C (Wp.B9 (Wp.B (v := .int z) rfl rfl (Wp.B9 (Wp.F5 (Wp.R (Wp.H4 (Wp.F5 ⟨1, rfl, ?_⟩)))))))))
 have hs1 : ((-1 : Int)).natAbs < 1073741824 := by rw [show ((-1 : Int)).natAbs = 1 from rfl]; exact Qkb Qr rfl
 refine Wp.I2 (a := z) (b := 0) (st := -1) (by lia) hs1 ?_
 refine Wp.X (Dr3 n hp.length (.lst (xs.map .int)) (.int z) (.obj hp.length) v3 (tellV z ss) hp) n (λ k μ hI hk => ?_) N 0 _ (Qkxl hn5 hN rfl) (Nat.zero_le _)
  (.mk (nm := []) ⟨n6, n7, t3, o3, Qke (Nat.le_add_right _ 5) l4, rfl, by simp, by simp⟩)
 obtain ⟨DW⟩ := hI
 rename_i v8 nm ot c hp'
 rw [hz, Znt (by exact hn6) hk]
 by_cases hkn : k < n
 ·right
  rw [if_pos hkn]
  refine ⟨hkn, _, rfl, Wp.H ?_⟩
  obtain ⟨r, hr'⟩ : ∃ r : Int, r = ((n - k : Nat) : Int) := ⟨_, rfl⟩
  rw [<- hr', <- hz]
  have hol := DW.ol
  have hnl := DW.nl
  exact Zsl (nm := nm) (ot := ot) (Qnk Qr) DW.h6 DW.h7 (hr'.trans (Qcg hol.symm)) (λ e => Nat.sub_ne_zero_of_lt hkn (hol.symm.trans (congrArg List.length e))) (Qkb (Qek hol (Qkk (Nat.sub_le _ _) hn5)) rfl) (Qkb (Qek hnl (Qkk hk hn5)) rfl) λ j y hy => Dr3.mk (DW.next hy)
 left
 rw [if_neg hkn]
 refine ⟨rfl, ?_⟩
 try dsimp only
 obtain ⟨h6, h7, ht, ho, hlen, hnl, hol, hperm⟩ := DW
 have ho0 : ot = [] := List.length_eq_zero_iff.mp (hol.trans (Nat.sub_eq_zero_of_le (Qn hkn)))
 subst ho0
 rw [append_nil] at hperm
 refine Wp.I (Wp.D3 (Wp.H3 (Wp.B9 (Wp.B (v := .obj (hp.length + 3)) rfl rfl (Wp.R (Wp.B (v := .obj (hp.length + 1)) rfl rfl ?_))))))
 have hmem : ∀ a, a ∈ nm ↔ 0 <= a ∧ a < n := λ a => by
  rw [hperm.mem_iff, mem_map]
  constructor
  ·rintro ⟨i, hi, rfl⟩; rw [mem_range] at hi; exact ⟨Int.natCast_nonneg _, Qcl hi⟩
  ·intro q; exact ⟨a.toNat, by rw [mem_range]; exact Qtl q.1 q.2, Qtn q.1⟩
 refine ⟨by simp, h hp' _ _ n nm (ss.map λ s => (s.fmod z, (s.fdiv z).fmod z)) hlen ho (Qs (Qs (Qs Qr))) (Qs Qr) (Qnl (Qs Qr)) hn2 hn5 ⟨?_, hmem, λ e he => ?_, by rw [length_map]; exact hsl⟩ h6 (by rw [map_map]; exact ht)⟩
 ·refine hperm.nodup_iff.mpr ?_
  unfold List.Nodup
  rw [pairwise_map]
  exact nodup_range.imp λ h e => h (Int.ofNat.inj e)
 ·obtain ⟨s, _, rfl⟩ := Qmm he
  try dsimp only
  rw [hmem, hmem, <- hz]
  have hz1 : 0 < z := Qzp hz (Qll Nat.two_pos hn2)
  exact ⟨⟨Int.fmod_nonneg_of_pos _ hz1, Int.fmod_lt_of_pos _ hz1⟩, Int.fmod_nonneg_of_pos _ hz1, Int.fmod_lt_of_pos _ hz1⟩
end

section
variable {ns : List Int} {ts : Ed} (tin : ∀ e ∈ ts, e.1 ∈ ns ∧ e.2 ∈ ns)
include tin
variable (nnd : ns.Nodup)
include nnd
end
section
variable {ns : List Int} {ts : Ed} {T : TSt} {O D rd : List Int}
theorem Zmi (tin : ∀ e ∈ ts, e.1 ∈ ns ∧ e.2 ∈ ns) : (∀ a ∈ ns, Fine (scL ts) a) ↔ ∀ a ∈ ns, Fr ts a := by
 have e : (λ s a => s ∈ scL ts a) = λ s a => (a, s) ∈ ts := by funext s a; exact propext Zap
 show (∀ a ∈ ns, Acc (λ s a => s ∈ scL ts a) a) ↔ _
 rw [e]
 exact (Zsh (E := St1 ts) ns λ a b h => tin _ h).symm
end

structure New (hp hp' : List MO) (o : Nat) (T : TSt) (ly : Lay) : Prop where
 len : hp.length <= hp'.length
 old : ∀ i, i < hp.length -> hp'[i]? = hp[i]?
 new : ∀ i, Fp o T ly i -> hp.length <= i
theorem New.grow {hp hpB hp2 : List MO} {o : Nat} {T T' : TSt} {ly ly' : Lay} (N : New hp hpB o T ly) (g : Grow o T ly hpB T' ly' hp2) : New hp hp2 o T' ly' :=
 ⟨Nat.le_trans N.len g.len, λ i hi => (g.old i (Nat.lt_of_lt_of_le hi N.len) λ h => absurd (N.new i h) (Qfk hi)).trans (N.old i hi), λ i h => (g.new i h).elim (N.new i) λ h => Nat.le_trans N.len h⟩
theorem Bt.scLen {ns : List Int} {ts : Ed} {T : TSt} (B : Bt ns ts T) (q : Int) : (T.sc q).length <= ts.length := by
 rw [B.sc]
 unfold scL
 rw [length_map]
 exact length_filter_le _ _
section
variable {hp : List MO} {fr : List PV} {E : Value -> St -> Prop}
theorem Wp.F2 {a b : PV -> PM Unit} {x y : PV} {μ : St} {Q : Unit -> St -> Prop} (h : Wp (a x) μ (λ _ μ' => Wp (b y) μ' Q E) E) : Wp (asgTup [a, b] (.tup [x, y])) μ Q E :=
 Wp.C (h.mono (λ _ _ h => Wp.C (h.mono (λ _ _ h => Wp.L h) λ _ _ e => e)) λ _ _ e => e)
end

theorem Zbx {α : Type} {f : PV -> Option PyData} {g : α -> PV} {k : α -> PyData} : ∀ {l : List α}, (∀ x ∈ l, f (g x) = some (k x)) -> mapO f (l.map g) = some (l.map k)
 | [], _ => rfl
 | x :: l, h => by
  rw [map_cons, Zd3, h x mem_cons_self]
  try dsimp only
  rw [Zbx λ y hy => h y (mem_cons_of_mem _ hy)]
  rfl
theorem Zc6 {hp : List MO} {n : Nat} {i : Int} : reify hp (n + 1) (.int i) = some (.int i) := rfl
theorem Zb7 {α : Type} {hp : List MO} {n i : Nat} {l : List α} {g : α -> PV} {k : α -> PyData} (hi : hp[i]? = some (.lst (l.map g))) (h : ∀ x ∈ l, reify hp n (g x) = some (k x)) : reify hp (n + 1) (.obj i) = some (.list (l.map k)) := by
 rw [Zlu]
 rw [hi]
 try dsimp only
 rw [Zbx h]; rfl
theorem Zgs {hp : List MO} {n : Nat} {x y : PV} {a b : PyData} (h1 : reify hp n x = some a) (h2 : reify hp n y = some b) : reify hp (n + 1) (.tup [x, y]) = some (.tuple [a, b]) := by
 show (mapO (reify hp n) [x, y]).map PyData.tuple = _
 simp only [Zd3, h1, h2]
 rfl
theorem Znw {hp : List MO} {n : Nat} {e : Int × Int} : reify hp (n + 2) (pairV e) = some (.tuple [.int e.1, .int e.2]) := Zgs rfl rfl
theorem Ze4 {α : Type} {k : α -> PyData} (h : ∀ x, (k x).canLay0 = true) : ∀ (l : List α), PyData.canLayAll0 (l.map k) = true
 | [] => rfl
 | x :: l => by rw [map_cons, PyData.canLayAll0, h x, Ze4 h l]; rfl
section
variable {hp : List MO} {fr : List PV} {E : Value -> St -> Prop}
theorem Wp.I7 {x y : PV} {a : PyData} {μ : St} {Q : Bool -> St -> Prop} (h1 : reify μ.hp 16 x = some a) (h2 : reify μ.hp 16 y = some a) (hl : a.canLay0 = true) (h : Q true μ) : Wp (pCmp .Eq x y) μ Q E := by
 refine Wp.J ?_ h
 show pEq x y μ = _
 unfold pEq
 rw [h1, h2]
 try dsimp only
 rw [PySem.SeqAt.eqv_refl a hl]
theorem Zqo (xs : List Int) (a : Int) : ((xs.map PyData.int).any λ y => PyData.eqv y (.int a)) = decide (a ∈ xs) := by
 rw [Bool.eq_iff_iff, any_eq_true, decide_eq_true_eq]
 constructor
 ·rintro ⟨y, hy, e⟩
  obtain ⟨b, hb, rfl⟩ := Qmm hy
  rw [PyData.eqv, beq_iff_eq] at e
  exact e ▸ hb
 ·intro h; exact ⟨.int a, mem_map.mpr ⟨a, h, rfl⟩, by rw [PyData.eqv, beq_iff_eq]⟩
theorem Zo8 (xs : Ed) (a b : Int) : ((xs.map λ e => PyData.tuple [.int e.1, .int e.2]).any λ y => PyData.eqv y (.tuple [.int a, .int b])) = decide ((a, b) ∈ xs) := by
 have key : ∀ e : Int × Int, PyData.eqv (.tuple [.int e.1, .int e.2]) (.tuple [.int a, .int b]) = true ↔ e = (a, b) := λ e => by
  rw [PyData.eqv, PyData.eqvAll, PyData.eqvAll, PyData.eqvAll, PyData.eqv, PyData.eqv]
  simp [Prod.ext_iff]
 rw [Bool.eq_iff_iff, any_eq_true, decide_eq_true_eq]
 constructor
 ·rintro ⟨y, hy, e⟩
  obtain ⟨p, hp, rfl⟩ := Qmm hy
  exact (key p).mp e ▸ hp
 ·intro h; exact ⟨_, mem_map.mpr ⟨(a, b), h, rfl⟩, (key (a, b)).mpr rfl⟩
theorem Zhc {x : PV} {i : Nat} {xs : List PV} {μ : St} (h : μ.hp[i]? = some (.lst xs)) : pIn x (.obj i) μ = inSeq μ x xs := by unfold pIn; try dsimp only; rw [h]
theorem Zcj {μ : St} {a : Int} {xs : List Int} : inSeq μ (.int a) (xs.map .int) = .ok (decide (a ∈ xs)) μ := by
 unfold inSeq
 rw [Zc6, Zbx (k := PyData.int) λ _ _ => Zc6]
 try dsimp only
 rw [Zqo]
theorem Zls {μ : St} {a b : Int} {xs : Ed} : inSeq μ (.tup [.int a, .int b]) (xs.map pairV) = .ok (decide ((a, b) ∈ xs)) μ := by
 unfold inSeq
 rw [Zgs Zc6 Zc6, Zbx (k := λ e : Int × Int => PyData.tuple [.int e.1, .int e.2]) λ e _ => Znw]
 try dsimp only
 rw [Zo8]
theorem Wp.K2 {a : Int} {i : Nat} {xs : List Int} {μ : St} {Q : Bool -> St -> Prop} (e : μ.hp[i]? = some (.lst (xs.map .int))) (h : Q (decide (a ∈ xs)) μ) : Wp (pCmp .In (.int a) (.obj i)) μ Q E :=
 Wp.J (f := pIn (.int a) (.obj i)) ((Zhc e).trans Zcj) h
theorem Wp.H0 {a b : Int} {i : Nat} {xs : Ed} {μ : St} {Q : Bool -> St -> Prop} (e : μ.hp[i]? = some (.lst (xs.map pairV))) (h : Q (decide ((a, b) ∈ xs)) μ) : Wp (pCmp .In (.tup [.int a, .int b]) (.obj i)) μ Q E :=
 Wp.J (f := pIn (.tup [.int a, .int b]) (.obj i)) ((Zhc e).trans Zls) h
theorem Wp.E9 {x y : PV} {μ : St} {Q : Bool -> St -> Prop} (h : Wp (pCmp .In x y) μ (λ b μ' => Q (!b) μ') E) : Wp (pCmp .NotIn x y) μ Q E := Wp.E5 (f := pIn x y) h
theorem Wp.F8 {op : CmpOp} {f g : PM PV} {μ : St} {Q : PV -> St -> Prop} (h : Wp f μ (λ x μ' => Wp g μ' (λ y μ'' => Wp (pCmp op x y) μ'' (λ b μ3 => Q (.bool b) μ3) E) E) E) : Wp (Mine.eCmp op f g) μ Q E :=
 Wp.C (h.mono (λ _ _ h => Wp.C (h.mono (λ _ _ h => Wp.A9 h) λ _ _ e => e)) λ _ _ e => e)
theorem Wp.eAnd {f g : PM PV} {μ : St} {Q : PV -> St -> Prop} (h : Wp f μ (λ x μ' => ∃ b, x = .bool b ∧ (b = false -> Q (.bool false) μ') ∧ (b = true -> Wp g μ' Q E)) E) : Wp (Mine.eAnd f g) μ Q E :=
 Wp.C (h.mono (λ x μ' hh => by
  obtain ⟨b, e, h1, h2⟩ := hh
  subst e
  refine Wp.C (Wp.J rfl ?_)
  cases b with
  | false => exact Wp.L (h1 rfl)
  | true => exact h2 rfl) λ _ _ e => e)
theorem Wp.C6 {f g : PM Bool} {μ : St} {Q : Bool -> St -> Prop} (h : Wp f μ (λ b μ' => match b with | true => Wp g μ' Q E | false => Q false μ') E) : Wp (Mine.bAnd f g) μ Q E :=
 Wp.C (h.mono (λ x μ' h => by cases x with
  | true => exact h
  | false => exact Wp.L h) λ _ _ e => e)
theorem Wp.F1 {f g : PM Bool} {μ : St} {Q : Bool -> St -> Prop} (h : Wp f μ (λ b μ' => match b with | true => Q true μ' | false => Wp g μ' Q E) E) : Wp (Mine.bOr f g) μ Q E :=
 Wp.C (h.mono (λ x μ' h => by cases x with
  | true => exact Wp.L h
  | false => exact h) λ _ _ e => e)
theorem Wp.A4 {b : Bool} {μ : St} {Q : Bool -> St -> Prop} (h : Q b μ) : Wp (pTruth (.bool b)) μ Q E := Wp.J rfl h
theorem Wp.argS {f : PM PV} {μ : St} {Q : List PV -> St -> Prop} (h : Wp f μ (λ x μ' => ∃ xs, isLst μ'.hp x = some xs ∧ xs.length <= 1000000 ∧ Q xs μ') E) : Wp (Mine.argS f) μ Q E :=
 Wp.C (h.mono (λ x μ' ⟨xs, e, hl, h⟩ => Wp.C (Wp.D8 (.inl e) (Wp.C (Wp.A6 (decide_eq_true hl) (Wp.L h))))) λ _ _ e => e)
theorem Zo9 {xs : List PV} {k : Nat} {μ0 μ : St} : getIt (.tup xs) μ0 k μ = some xs[k]? := rfl
theorem Wp.G2 {n : Nat} {f e : PM PV} {t : PM Bool} {asg : PV -> PM Unit} {Q : PV -> St -> Prop} (pv : PV) (xs : List Int) (p : Int -> Bool) (gv : Int -> PV) (hn : xs.length < n) (hlen : xs.length <= 1000000)
  (hf : Wp f ⟨fr, hp⟩ (λ v μ => v = pv ∧ μ = ⟨fr, hp⟩) (λ _ _ => False)) (hget : ∀ k, k <= xs.length -> ∀ fr' z, getIt pv ⟨fr, hp⟩ k ⟨fr', hp ++ [.lst z]⟩ = some (xs.map PV.int)[k]?)
  (step : ∀ (x : Int) (u w : PV) (z : List PV), x ∈ xs -> Wp (asg (.int x)) ⟨fr ++ [u, w], hp ++ [.lst z]⟩ (λ _ μ => Wp t μ (λ b μ' => b = p x ∧ ∃ u w, μ' = ⟨fr ++ [u, w], hp ++ [.lst z]⟩ ∧ (b = true -> Wp e ⟨fr ++ [u, w], hp ++ [.lst z]⟩ (λ v μ'' => v = gv x ∧ μ'' = ⟨fr ++ [u, w], hp ++ [.lst z]⟩) (λ _ _ => False))) (λ _ _ => False)) (λ _ _ => False))
  (h : Q (.obj hp.length) ⟨fr, hp ++ [.lst ((xs.filter p).map gv)]⟩) : Wp (Mine.compM n 2 f (Mine.tfB asg t e)) ⟨fr, hp⟩ Q E := by
 refine Wp.D2 (hf.mono (λ v μ hv => ?_) λ _ _ e => e.elim)
 obtain ⟨rfl, rfl⟩ := hv
 try dsimp only
 refine Wp.C0 (λ k μ => ∃ u w, μ = ⟨fr ++ [u, w], hp ++ [.lst (((xs.take k).filter p).map gv)]⟩) xs.length (λ k μ hI hk => ?_) n 0 _ hn (Nat.zero_le _) ⟨.undef, .undef, rfl⟩
 obtain ⟨u, w, rfl⟩ := hI
 rw [hget k hk, List.getElem?_map]
 cases hx : xs[k]? with
 | none =>
  left
  have hk' : k = xs.length := by have := Qgn hx; lia
  refine ⟨rfl, ?_⟩
  try dsimp only
  rw [hk', take_length, List.take_left]
  exact h
 | some x =>
  right
  have hlt := (Qgl hx)
  refine ⟨hlt, .int x, rfl, Wp.tfB ((step x u w _ (mem_of_getElem? hx)).mono (λ _ μ hs => hs.mono (λ b μ' hb => ?_) λ _ _ e => e.elim) λ _ _ e => e.elim)⟩
  obtain ⟨hb, u', w', rfl, he⟩ := hb
  have et : xs.take (k + 1) = xs.take k ++ [x] := by rw [take_succ_eq_append_getElem hlt, (Qge hx)]
  cases b with
  | true =>
   refine Wp.E3 ((he rfl).mono (λ v μ'' hv => ?_) λ _ _ e => e.elim)
   obtain ⟨rfl, rfl⟩ := hv
   refine ⟨_, Zt, ?_, u', w', ?_⟩
   ·rw [length_map]
    have := length_filter_le p (xs.take k)
    rw [length_take] at this; lia
   ·try dsimp only
    rw [Zhb, et, filter_append, map_append, filter_cons, if_pos hb.symm]
    rfl
  | false =>
   refine ⟨u', w', ?_⟩
   rw [et, filter_append, filter_cons, if_neg (by rw [<- hb]; exact Bool.false_ne_true), List.filter_nil, append_nil]
end
noncomputable def newAll (ts : Ed) : List Int -> List Int -> List Int
 | _, [] => []
 | D, b :: bs => newly ts (D ++ [b]) b ++ newAll ts (D ++ [b]) bs
theorem Zqp {ts : Ed} {D bs : List Int} {b : Int} : newAll ts D (b :: bs) = newly ts (D ++ [b]) b ++ newAll ts (D ++ [b]) bs := rfl
theorem Zqq {ts : Ed} {D : List Int} : newAll ts D [] = [] := rfl
theorem Kn.doneAll {ns : List Int} {ts : Ed} : ∀ (bs : List Int) {T : TSt} {O D rd : List Int}, Kn ns ts T O D rd -> bs.Nodup -> (∀ b ∈ bs, b ∈ O ∧ b ∉ D) -> Kn ns ts (bs.foldl fin1 T) O (D ++ bs) (rd ++ newAll ts D bs)
 | [], T, O, D, rd, K, _, _ => by simpa [Zqq] using K
 | b :: bs, T, O, D, rd, K, hn, h => by
  rw [nodup_cons] at hn
  have h1 := h b mem_cons_self
  have ih := Kn.doneAll bs (K.done h1.1 h1.2) hn.2 λ c hc => ⟨(h c (mem_cons_of_mem _ hc)).1, λ q => by
   rcases Qma q with q | q
   ·exact (h c (mem_cons_of_mem _ hc)).2 q
   ·rw [mem_singleton] at q; subst q; exact hn.1 hc⟩
  rw [Zqp, foldl_cons]
  rw [append_assoc, append_assoc] at ih
  exact ih
theorem Kn.scLen {ns : List Int} {ts : Ed} {T : TSt} {O D rd : List Int} (K : Kn ns ts T O D rd) (q : Int) : (T.sc q).length <= ts.length := by
 rw [K.sc]
 unfold scL
 rw [length_map]
 exact length_filter_le _ _
theorem Kn.rdLen {ns : List Int} {ts : Ed} {T : TSt} {O D rd : List Int} (K : Kn ns ts T O D rd) : rd.length <= ns.length := Zp K.rnd λ a h => ((K.rm a).mp h).1
theorem Kn.scIn {ns : List Int} {ts : Ed} {T : TSt} {O D rd : List Int} (K : Kn ns ts T O D rd) {a : Int} : ∀ s ∈ T.sc a, s ∈ T.order := λ s hs => by
 rw [K.sc, Zap] at hs
 rw [K.order]
 exact (K.tin _ hs).2
section
variable {hp : List MO} {o : Nat} {T : TSt} {ly : Lay} {fr : List PV} {E : Value -> St -> Prop} {ns : List Int} {ts : Ed} {O D rd : List Int}
theorem Zks {f : Int -> Nat} {m : Nat} (h : ∀ a, f a <= m) : ∀ (l : List Int), (l.map f).sum <= l.length * m
 | [] => by simp
 | a :: l => by
  have h1 := Zks h l
  have h2 := h a
  simp only [map_cons, sum_cons, length_cons]
  rw [Nat.succ_mul]; lia
theorem Zta (S : SAt d hp o T ly) (K : Kn ns ts T O D rd) (hnl : ns.length <= 100) {Q : PV -> St -> Prop}
  (h : ∀ hp' T', SAt d hp' o T' ly -> Kn ns ts T' (O ++ rd) D [] -> Same o T ly hp hp' -> (∀ i, Fp o T' ly i ↔ Fp o T ly i) -> Q (.tup (rd.map .int)) ⟨fr, hp'⟩) : Wp (Zb1 d [.obj o]) ⟨fr, hp⟩ Q E := by
 have hl := K.rdLen
 refine Zj9 S K.ready (λ a ha => by rw [K.order]; exact ((K.rm a).mp ha).1) (Qkkb hl hnl rfl) λ hp' S' s' => h hp' _ S' K.get s' λ i => fp_eq (T := T) (T' := getT T rd) rfl ?_ i
 rw [K.ready]
 exact ⟨(λ e => nomatch e), λ e => nomatch e⟩
theorem Zqr (S : SAt d hp o T ly) (K : Kn ns ts T O D rd) (hnl : ns.length <= 100) (htl : ts.length <= 1000) (bs : List Int) (hbn : bs.Nodup) (hb : ∀ b ∈ bs, b ∈ O ∧ b ∉ D) {Q : PV -> St -> Prop}
  (h : ∀ hp' T', SAt d hp' o T' ly -> Kn ns ts T' O (D ++ bs) (rd ++ newAll ts D bs) -> Same o T ly hp hp' -> (∀ i, Fp o T' ly i ↔ Fp o T ly i) -> Q .none ⟨fr, hp'⟩) : Wp (Zgn d (.obj o :: bs.map .int)) ⟨fr, hp⟩ Q E := by
 have hl := K.rdLen
 have hbl : bs.length <= ns.length := Zp hbn λ b q => K.oN b (hb b q).1
 have hs := Zks (f := λ a => (T.sc a).length) K.scLen bs
 have hr : T.ready ≠ none := by rw [K.ready]; exact Option.some_ne_none _
 have K' := K.doneAll bs hbn hb
 refine Zsb S bs hr ?_ (Qkkb hbl hnl rfl) (λ k a hk => ?_) λ hp' S' s' => h hp' _ S' K' s' λ i => fp_eq ?_ ?_ i
 ·have e : rlen T = rd.length := by unfold rlen; rw [K.ready]; rfl
  have : bs.length * ts.length <= 100 * 1000 := Nat.mul_le_mul (Qkk hbl hnl) htl
  lia
 ·have ha := mem_of_getElem? hk
  have hlt := (Qgl hk)
  have Kp := K.doneAll (bs.take k) (hbn.sublist (List.take_sublist _ _)) λ b q => hb b (List.mem_of_mem_take q)
  refine ⟨by rw [K.order]; exact K.oN a (hb a ha).1, ?_, K.scIn⟩
  rw [Kp.np a (K.oN a (hb a ha).1), if_neg, if_pos (hb a ha).1]
  intro q
  rcases Qma q with q | q
  ·exact (hb a ha).2 q
  ·have nn := hbn
   rw [<- take_append_drop k bs, nodup_append] at nn
   refine nn.2.2 a q a ?_ rfl
   rw [drop_eq_getElem_cons hlt, (Qge hk)]
   exact mem_cons_self
 ·rw [K'.order, K.order]
 ·rw [K'.ready, K.ready]; exact ⟨(λ e => nomatch e), λ e => nomatch e⟩
end

theorem Zkt {sc : Int -> List Int} {m : Nat} (h : ∀ a, (sc a).length <= m) (U : List Int) : Wt sc U [] <= U.length * (2 * m + 1) := by
 unfold Wt
 have e : (U.filter λ a => decide (a ∉ ([] : List Int))) = U := List.filter_eq_self.mpr λ a _ => by simp
 rw [e]
 exact Zks (f := wgt sc) (λ a => by unfold wgt; have := h a; lia) U
section
variable {hp : List MO} {o : Nat} {T : TSt} {ly : Lay} {fr : List PV} {E : Value -> St -> Prop} {ns : List Int} {ts : Ed}
theorem Zqs (S : SAt d hp o T ly) (B : Bt ns ts T) (nnd : ns.Nodup) (hnl : ns.length <= 100) (htl : ts.length <= 1000) (hfr : ∀ a ∈ ns, Fr ts a) {Q : PV -> St -> Prop}
  (h : ∀ hp' ly' T', SAt d hp' o T' ly' -> Kn ns ts T' [] [] (ns.filter λ a => cnt ts [] a == 0) -> Grow o T ly hp T' ly' hp' -> Q .none ⟨fr, hp'⟩) : Wp (Zbd d [.obj o]) ⟨fr, hp⟩ Q E := by
 refine Zsg S B.ready (λ a _ s hs => ?_) (by rw [B.order]; exact Qkb hnl rfl) ?_ ?_ λ hp' ly' S' g' => h hp' ly' _ S' (B.start nnd) g'
 ·rw [B.sc, Zap] at hs
  rw [B.order]; exact (B.tin _ hs).2
 ·have := Zkt B.scLen T.order
  have e : T.order.length * (2 * ts.length + 1) <= 100 * 2001 := Nat.mul_le_mul (by rw [B.order]; exact hnl) (by lia)
  exact Qkkb this e rfl
 ·rw [B.order, B.sc]; exact (Zmi B.tin).mpr hfr
end
end Mine
namespace Mine

noncomputable def edM (ts : Ed) (a b : Nat) : Bool := decide (((a : Int), (b : Int)) ∈ ts)
noncomputable def wM (ts : Ed) : Nat -> Nat -> Nat -> Bool
 | 0 => edM ts
 | k + 1 => λ a b => wM ts k a b || (wM ts k a k && wM ts k k b)
theorem wM_s {ts : Ed} {k a b : Nat} : wM ts (k + 1) a b = (wM ts k a b || (wM ts k a k && wM ts k k b)) := rfl
theorem Zdu {ts : Ed} : ∀ (k : Nat) {a b : Nat}, wM ts k a b = true -> Rc ts a b
 | 0, a, b, h => .one (of_decide_eq_true h)
 | k + 1, a, b, h => by
  rw [wM_s, Bool.or_eq_true, Bool.and_eq_true] at h
  rcases h with h | ⟨h1, h2⟩
  ·exact Zdu k h
  ·exact (Zdu k h1).trans (Zdu k h2)
theorem Zhd {ts : Ed} : ∀ (k : Nat) {a b : Nat}, edM ts a b = true -> wM ts k a b = true
 | 0, a, b, h => h
 | k + 1, a, b, h => by show (wM ts k a b || _) = true; rw [Zhd k h]; rfl
theorem Zhs {ts : Ed} : ∀ (k : Nat) {z a b : Nat}, z < k -> wM ts k a z = true -> wM ts k z b = true -> wM ts k a b = true
 | 0, z, a, b, h, _, _ => absurd h (Nat.not_lt_zero _)
 | k + 1, z, a, b, h, h1, h2 => by
  have ih := @Zhs ts k
  rw [wM_s, Bool.or_eq_true, Bool.and_eq_true] at h1 h2 ⊢
  by_cases e : z = k
  ·subst e
   have q1 : wM ts z a z = true := by rcases h1 with q | q; exact q; exact q.1
   have q2 : wM ts z z b = true := by rcases h2 with q | q; exact q; exact q.2
   exact .inr ⟨q1, q2⟩
  ·have hz : z < k := by lia
   rcases h1 with h1 | ⟨h1, h1'⟩
   ·rcases h2 with h2 | ⟨h2, h2'⟩
    ·exact .inl (ih hz h1 h2)
    ·exact .inr ⟨ih hz h1 h2, h2'⟩
   ·rcases h2 with h2 | ⟨h2, h2'⟩
    ·exact .inr ⟨h1, ih hz h1' h2⟩
    ·exact .inr ⟨h1, h2'⟩
theorem wM_rc {ts : Ed} {n : Nat} (tin : ∀ e ∈ ts, (0 <= e.1 ∧ e.1 < n) ∧ 0 <= e.2 ∧ e.2 < n) {a b : Nat} : wM ts n a b = true ↔ Rc ts a b := by
 refine ⟨Zdu n, λ h => ?_⟩
 have key : ∀ x y : Int, Rc ts x y -> ∀ a b : Nat, x = a -> y = b -> wM ts n a b = true := λ x y w => by
  induction w with
  | one e => intro a b ha hb; subst ha hb; exact Zhd n (decide_eq_true e)
  | @snoc y z w e ih =>
   intro a b ha hb
   subst ha hb
   have hy := (tin _ e).1
   obtain ⟨c, rfl⟩ : ∃ c : Nat, y = c := ⟨y.toNat, by have : (0 : Int) <= y := hy.1; lia⟩
   have hc : c < n := by have : (c : Int) < n := hy.2; lia
   exact Zhs n hc (ih a c rfl rfl) (Zhd n (decide_eq_true e))
 exact key a b h a b rfl rfl
noncomputable def stM (m : Nat -> Nat -> Bool) (z x y : Nat) (a b : Nat) : Bool := if a < x ∨ (a = x ∧ b < y) then m a b || (m a z && m z b) else m a b
theorem Ztb (m : Nat -> Nat -> Bool) (z x y : Nat) : stM m z x y z y = m z y := by
 unfold stM
 split
 ·cases m z y <;> simp
 ·rfl
theorem Ztc (m : Nat -> Nat -> Bool) (z x : Nat) : stM m z x 0 x z = m x z := by
 unfold stM
 rw [if_neg (by lia)]
theorem Zpa (m : Nat -> Nat -> Bool) (z : Nat) : stM m z 0 0 = m := by
 funext a b
 unfold stM
 rw [if_neg (by lia)]
theorem Zqt {m : Nat -> Nat -> Bool} {z x : Nat} (h : m x z = false) : stM m z (x + 1) 0 = stM m z x 0 := by
 funext a b
 unfold stM
 by_cases h1 : a < x
 ·rw [if_pos (by lia), if_pos (by lia)]
 ·rw [if_neg (by lia : ¬ (a < x ∨ (a = x ∧ b < 0)))]
  by_cases h2 : a = x
  ·subst h2; rw [if_pos (by lia), h]; simp
  ·rw [if_neg (by lia)]
theorem Zsm {m : Nat -> Nat -> Bool} {z x n : Nat} {a b : Nat} (hb : b < n) : stM m z x n a b = stM m z (x + 1) 0 a b := by
 unfold stM
 by_cases h1 : a <= x
 ·rw [if_pos (by lia), if_pos (by lia)]
 ·rw [if_neg (by lia), if_neg (by lia)]
theorem Zku {m : Nat -> Nat -> Bool} {z x y : Nat} (hxz : m x z = true) (a b : Nat) : stM m z x (y + 1) a b = if a = x ∧ b = y ∧ m z y = true then true else stM m z x y a b := by
 unfold stM
 by_cases h1 : a < x
 ·rw [if_pos (by lia), if_neg (by lia), if_pos (by lia)]
 ·by_cases h2 : a = x
  ·subst h2
   by_cases h3 : b = y
   ·subst h3
    rw [if_pos (by lia)]
    cases hm : m z b with
    | true => rw [if_pos (by simp), hxz]; simp
    | false => rw [if_neg (by simp), if_neg (by lia), hxz]; simp
   ·rw [if_neg (by lia : ¬ (a = a ∧ b = y ∧ _))]
    by_cases h4 : b < y
    ·rw [if_pos (by lia), if_pos (by lia)]
    ·rw [if_neg (by lia), if_neg (by lia)]
  ·rw [if_neg (by lia), if_neg (by lia), if_neg (by lia)]
theorem Zqu {m : Nat -> Nat -> Bool} {z n : Nat} {a b : Nat} (ha : a < n) : stM m z n 0 a b = (m a b || (m a z && m z b)) := by
 unfold stM
 rw [if_pos (by lia)]
end Mine
namespace Mine
open PySem PySem.W PyProof.Rows

structure Mx (hp : List MO) (r n : Nat) (m : Nat -> Nat -> Bool) : Prop where
 rows : hp[r]? = some (.lst ((List.range n).map λ (x : Nat) => PV.obj (r + 1 + x)))
 row : ∀ x, x < n -> hp[r + 1 + x]? = some (.lst ((List.range n).map λ (y : Nat) => PV.bool (m x y)))
theorem Zaw {n x : Nat} {f : Nat -> PV} (h : x < n) : ((List.range n).map f)[x]? = some (f x) := by
 rw [List.getElem?_map, List.getElem?_range h]; rfl
theorem Mx.congr {hp : List MO} {r n : Nat} {m m' : Nat -> Nat -> Bool} (M : Mx hp r n m) (h : ∀ a b, a < n -> b < n -> m a b = m' a b) : Mx hp r n m' :=
 ⟨M.rows, λ x hx => by
  rw [M.row x hx]
  congr 2
  exact map_congr_left λ y hy => by rw [h x y hx (mem_range.mp hy)]⟩
theorem Mx.keep {hp hp' : List MO} {r n : Nat} {m : Nat -> Nat -> Bool} (M : Mx hp r n m) (h : ∀ i, r <= i -> i <= r + n -> hp'[i]? = hp[i]?) : Mx hp' r n m :=
 ⟨(h r Qr (by lia)).trans M.rows, λ x hx => (h _ (by lia) (by lia)).trans (M.row x hx)⟩
theorem Mx.push {hp : List MO} {r n : Nat} {m : Nat -> Nat -> Bool} (M : Mx hp r n m) (l : List MO) : Mx (hp ++ l) r n m :=
 ⟨getElem?_app M.rows, λ x hx => getElem?_app (M.row x hx)⟩
theorem Mx.lt {hp : List MO} {r n : Nat} {m : Nat -> Nat -> Bool} (M : Mx hp r n m) : r + n < hp.length := by
 by_cases h : 0 < n
 ·have := (Qgl (M.row (n - 1) (Nat.sub_lt h Nat.one_pos)))
  lia
 ·have := (Qgl M.rows)
  lia
theorem Zht {n y : Nat} {f : Nat -> PV} {v : PV} : ((List.range n).map f).set y v = (List.range n).map λ z => if z = y then v else f z := by
 apply List.ext_getElem?
 intro i
 rw [List.getElem?_set]
 by_cases hi : i < n
 ·rw [Zaw hi, Zaw hi]
  by_cases e : y = i
  ·subst e; simp [hi]
  ·rw [if_neg e, if_neg (λ q => e q.symm)]
 ·have h1 : ((List.range n).map f)[i]? = none := by rw [List.getElem?_eq_none_iff]; simp; lia
  have h2 : ((List.range n).map λ z => if z = y then v else f z)[i]? = none := by rw [List.getElem?_eq_none_iff]; simp; lia
  rw [h1, h2]
  split <;> simp_all
theorem Mx.set {hp : List MO} {r n : Nat} {m : Nat -> Nat -> Bool} (M : Mx hp r n m) {x y : Nat} (hx : x < n) (hy : y < n) : Mx (hp.set (r + 1 + x) (.lst (((List.range n).map λ (y : Nat) => PV.bool (m x y)).set y (.bool true)))) r n (λ a b => if a = x ∧ b = y then true else m a b) := by
 refine ⟨Zj (by lia) M.rows, λ a ha => ?_⟩
 by_cases e : a = x
 ·subst e
  rw [Zm (M.row a hx), Zht]
  congr 2
  refine map_congr_left λ z _ => ?_
  by_cases q : z = y
  ·rw [if_pos q, if_pos ⟨rfl, q⟩]
  ·rw [if_neg q, if_neg λ h => q h.2]
 ·rw [Zj (by lia) (M.row a ha)]
  congr 2
  refine map_congr_left λ z _ => ?_
  rw [if_neg λ h => e h.1]
section
variable {hp : List MO} {fr : List PV} {E : Value -> St -> Prop}
theorem Wp.mx {f gx gy : PM PV} {r n x y : Nat} {zx zy : Int} {m : Nat -> Nat -> Bool} (M : Mx hp r n m) (hn : n <= 1000) (hx : x < n) (hy : y < n) (ex : zx = x) (ey : zy = y) {Q : PV -> St -> Prop}
  (hf : Wp f ⟨fr, hp⟩ (λ v μ => v = .obj r ∧ μ = ⟨fr, hp⟩) (λ _ _ => False)) (hgx : Wp gx ⟨fr, hp⟩ (λ v μ => v = .int zx ∧ μ = ⟨fr, hp⟩) (λ _ _ => False)) (hgy : Wp gy ⟨fr, hp⟩ (λ v μ => v = .int zy ∧ μ = ⟨fr, hp⟩) (λ _ _ => False))
  (h : Q (.bool (m x y)) ⟨fr, hp⟩) : Wp (Mine.eSub (Mine.eSub f gx) gy) ⟨fr, hp⟩ Q E := by
 refine Wp.f (Wp.f (hf.mono (λ v μ hv => ?_) λ _ _ e => e.elim))
 obtain ⟨rfl, rfl⟩ := hv
 refine hgx.mono (λ v μ hv => ?_) λ _ _ e => e.elim
 obtain ⟨rfl, rfl⟩ := hv
 refine Wp.B1 ex (.inl (Zg M.rows)) (Zaw hx) (by simp; exact Qkb hn rfl) ?_
 refine hgy.mono (λ v μ hv => ?_) λ _ _ e => e.elim
 obtain ⟨rfl, rfl⟩ := hv
 exact Wp.B1 ey (.inl (Zg (M.row x hx))) (Zaw hy) (by simp; exact Qkb hn rfl) h
theorem Wp.mx1 {f gx : PM PV} {r n x : Nat} {zx : Int} {m : Nat -> Nat -> Bool} (M : Mx hp r n m) (hn : n <= 1000) (hx : x < n) (ex : zx = x) {Q : PV -> St -> Prop}
  (hf : Wp f ⟨fr, hp⟩ (λ v μ => v = .obj r ∧ μ = ⟨fr, hp⟩) (λ _ _ => False)) (hgx : Wp gx ⟨fr, hp⟩ (λ v μ => v = .int zx ∧ μ = ⟨fr, hp⟩) (λ _ _ => False))
  (h : Q (.obj (r + 1 + x)) ⟨fr, hp⟩) : Wp (Mine.eSub f gx) ⟨fr, hp⟩ Q E := by
 refine Wp.f (hf.mono (λ v μ hv => ?_) λ _ _ e => e.elim)
 obtain ⟨rfl, rfl⟩ := hv
 refine hgx.mono (λ v μ hv => ?_) λ _ _ e => e.elim
 obtain ⟨rfl, rfl⟩ := hv
 exact Wp.B1 ex (.inl (Zg M.rows)) (Zaw hx) (by simp; exact Qkb hn rfl) h
theorem Wp.J9 {N m n : Nat} {f inner : PM PV} {asg : PV -> PM Unit} {Q : PV -> St -> Prop} (t : Nat -> Nat -> Bool) (J : List PV -> Prop) (hn : n < N) (hn' : n <= 1000)
  (hf : Wp f ⟨fr, hp⟩ (λ v μ => v = .rng 0 n 1 ∧ μ = ⟨fr, hp⟩) (λ _ _ => False)) (hJ0 : J (fr ++ List.replicate m .undef)) (hJ : ∀ fr', J fr' -> fr'.take fr.length = fr)
  (step : ∀ (x : Nat) (z : Int) (fr' : List PV) (hp' : List MO), x < n -> z = x -> J fr' -> (∀ i, i < hp.length -> hp'[i]? = hp[i]?) -> Wp (asg (.int z)) ⟨fr', hp'⟩ (λ _ μ => Wp inner μ (λ v μ' => v = .obj hp'.length ∧ ∃ fr'', J fr'' ∧ μ' = ⟨fr'', hp' ++ [.lst ((List.range n).map λ (y : Nat) => PV.bool (t x y))]⟩) (λ _ _ => False)) (λ _ _ => False))
  (h : ∀ hp', hp'.length = hp.length + 1 + n -> (∀ i, i < hp.length -> hp'[i]? = hp[i]?) -> Mx hp' hp.length n t -> Q (.obj hp.length) ⟨fr, hp'⟩) : Wp (Mine.compM N m f (Mine.tfA asg inner)) ⟨fr, hp⟩ Q E := by
 refine Wp.D2 (hf.mono (λ v μ hv => ?_) λ _ _ e => e.elim)
 obtain ⟨rfl, rfl⟩ := hv
 try dsimp only
 refine Wp.C0 (λ k μ => ∃ fr' hp', J fr' ∧ μ = ⟨fr', hp'⟩ ∧ hp'.length = hp.length + 1 + k ∧ (∀ i, i < hp.length -> hp'[i]? = hp[i]?) ∧ hp'[hp.length]? = some (.lst ((List.range k).map λ (x : Nat) => PV.obj (hp.length + 1 + x))) ∧ ∀ x, x < k -> hp'[hp.length + 1 + x]? = some (.lst ((List.range n).map λ (y : Nat) => PV.bool (t x y)))) n (λ k μ hI hk => ?_) N 0 _ hn (Nat.zero_le _)
  ⟨_, _, hJ0, rfl, by simp, λ i hi => List.getElem?_append_left hi, by simp, λ x hx => absurd hx (Nat.not_lt_zero _)⟩
 obtain ⟨fr', hp', hj, rfl, hl, ho, h1, h2⟩ := hI
 rw [Zcv (by exact Qkb hn' rfl) hk]
 by_cases hkn : k < n
 ·right
  refine ⟨hkn, .int k, congrArg some (Zaw (f := λ (i : Nat) => PV.int i) hkn), Wp.J5 ?_⟩
  refine (step k k fr' hp' hkn rfl hj ho).mono (λ _ μ hs => Wp.E3 (hs.mono (λ v μ' hv => ?_) λ _ _ e => e.elim)) λ _ _ e => e.elim
  obtain ⟨rfl, fr'', hj', rfl⟩ := hv
  have h1' := getElem?_app (r := [MO.lst ((List.range n).map λ (y : Nat) => PV.bool (t k y))]) h1
  refine ⟨_, h1', by simp; exact Qkkb hk hn' rfl, fr'', _, hj', rfl, by simp; lia, λ i hi => ?_, ?_, λ x hx => ?_⟩
  ·rw [List.getElem?_set_ne (by exact Qnl hi), List.getElem?_append_left (by lia)]; exact ho i hi
  ·rw [Zm h1', range_succ, map_append, hl]; rfl
  ·refine Zj (by lia) ?_
   by_cases e : x = k
   ·subst e
    rw [<- hl]; exact Zt
   ·exact getElem?_app (h2 x (by lia))
 ·left
  have hk' : k = n := by lia
  subst hk'
  refine ⟨by rw [List.getElem?_eq_none (by simp)], ?_⟩
  try dsimp only
  rw [hJ fr' hj]
  exact h hp' hl ho ⟨h1, h2⟩
end

def Kp (r n : Nat) (hp hp' : List MO) : Prop := hp'.length = hp.length ∧ ∀ i, ¬ (r <= i ∧ i <= r + n) -> hp'[i]? = hp[i]?
theorem Kp.refl {r n : Nat} {hp : List MO} : Kp r n hp hp := ⟨rfl, λ _ _ => rfl⟩
theorem Kp.trans {r n : Nat} {hp hp' hp'' : List MO} (h1 : Kp r n hp hp') (h2 : Kp r n hp' hp'') : Kp r n hp hp'' := ⟨h2.1.trans h1.1, λ i hi => (h2.2 i hi).trans (h1.2 i hi)⟩
section
variable {hp : List MO} {fr : List PV} {E : Value -> St -> Prop}
theorem Wp.B7 {k : Nat} {v : PV} (e : fr[k]? = some v) (hv : uq v = false) : Wp (Mine.getVar k) ⟨fr, hp⟩ (λ w μ => w = v ∧ μ = ⟨fr, hp⟩) (λ _ _ => False) := Wp.B e hv ⟨rfl, rfl⟩
theorem wp_w8 {r n x y z : Nat} {zx zy zz : Int} {m : Nat -> Nat -> Bool} (M : Mx hp r n (stM m z x y)) (hn : n <= 1000) (hx : x < n) (hy : y < n) (hz : z < n) (ex : zx = x) (ey : zy = y) (ez : zz = z) (hxz : m x z = true) {v0 v1 v6 v7 v8 v9 v10 v11 : PV} {Q : MF -> St -> Prop}
  (h : ∀ hp', Mx hp' r n (stM m z x (y + 1)) -> Kp r n hp hp' -> Q .next ⟨[v0, v1, .int zx, .int zy, .obj r, .int zz, v6, v7, v8, v9, v10, v11], hp'⟩) :
  Wp (Zbu d) ⟨[v0, v1, .int zx, .int zy, .obj r, .int zz, v6, v7, v8, v9, v10, v11], hp⟩ Q E := by
 unfold Zbu
 refine Wp.I (Wp.A2 (Wp.B6 (Wp.mx M hn hz hy ez ey (Wp.B7 rfl rfl) (Wp.B7 rfl rfl) (Wp.B7 rfl rfl) (Wp.A4 ?_))))
 rw [Ztb]
 cases hm : m z y with
 | false =>
  refine Wp.N (Wp.N (h hp (M.congr λ a b _ _ => ?_) Kp.refl))
  rw [Zku hxz, if_neg (by rw [hm]; simp)]
 | true =>
  have M' := M.set hx hy
  refine Wp.I (Wp.S (Wp.F5 (Wp.E1 (Wp.mx1 M hn hx ex (Wp.B7 rfl rfl) (Wp.B7 rfl rfl) (Wp.B rfl rfl (Wp.G3 ey (M.row x hx) (by simp; exact hy) (by simp; exact Qkb hn rfl) (Wp.N (Wp.N ?_))))))))
  refine h _ (M'.congr λ a b _ _ => ?_) ⟨by rw [length_set], λ i hi => by rw [List.getElem?_set_ne (by lia)]⟩
  rw [Zku hxz, hm]
  simp
theorem wp_w7 {r n x z : Nat} {zx zn zz : Int} {m : Nat -> Nat -> Bool} (M : Mx hp r n (stM m z x 0)) (hn : n <= 1000) (hx : x < n) (hz : z < n) (ex : zx = x) (ez : zz = z) (en : zn = n) {v1 v3 v6 v7 v8 v9 v10 v11 : PV} {Q : MF -> St -> Prop}
  (h : ∀ hp' v3, Mx hp' r n (stM m z (x + 1) 0) -> Kp r n hp hp' -> Q .next ⟨[.int zn, v1, .int zx, v3, .obj r, .int zz, v6, v7, v8, v9, v10, v11], hp'⟩) :
  Wp (Zbv d) ⟨[.int zn, v1, .int zx, v3, .obj r, .int zz, v6, v7, v8, v9, v10, v11], hp⟩ Q E := by
 unfold Zbv
 have hN : 1000 < fuel := by unfold fuel; exact Qkb Qr rfl
 generalize fuel = N at hN ⊢
 refine Wp.I (Wp.A2 (Wp.B6 (Wp.mx M hn hx hz ex ez (Wp.B7 rfl rfl) (Wp.B7 rfl rfl) (Wp.B7 rfl rfl) (Wp.A4 ?_))))
 rw [Ztc]
 cases hm : m x z with
 | false =>
  refine Wp.N (Wp.N (h hp _ ?_ Kp.refl))
  rw [Zqt hm]; exact M
 | true =>
  refine Wp.I (Wp.i (Wp.C (Wp.R (Wp.B rfl rfl (Wp.V ?_)))))
  rw [en]
  refine Wp.X (λ k => Ex1 (λ v3 => [.int n, v1, .int zx, v3, .obj r, .int zz, v6, v7, v8, v9, v10, v11]) (λ hp' => Mx hp' r n (stM m z x k) ∧ Kp r n hp hp')) n (λ k μ hI hk => ?_) N 0 _ (Qkl hn hN) (Nat.zero_le _) (.mk ⟨M, Kp.refl⟩)
  obtain ⟨M', kp⟩ := hI
  rename_i v3' hp'
  rw [Z0 (by exact Qkb hn rfl) hk]
  by_cases hkn : k < n
  ·right
   rw [if_pos hkn]
   refine ⟨hkn, _, rfl, Wp.H ?_⟩
   exact wp_w8 M' hn hx hkn hz ex rfl ez hm λ hp'' M'' kp' => Ex1.mk ⟨M'', kp.trans kp'⟩
  ·left
   rw [if_neg hkn]
   have hk' : k = n := by lia
   subst hk'
   refine ⟨rfl, Wp.N (Wp.N ?_)⟩
   rw [<- en]
   exact h hp' _ (M'.congr λ a b _ hb => Zsm hb) kp
theorem wp_w6 {r n z : Nat} {zn zz : Int} {ts : Ed} (M : Mx hp r n (wM ts z)) (hn : n <= 1000) (hz : z < n) (ez : zz = z) (en : zn = n) {v1 v2 v3 v6 v7 v8 v9 v10 v11 : PV} {Q : MF -> St -> Prop}
  (h : ∀ hp' v2 v3, Mx hp' r n (wM ts (z + 1)) -> Kp r n hp hp' -> Q .next ⟨[.int zn, v1, v2, v3, .obj r, .int zz, v6, v7, v8, v9, v10, v11], hp'⟩) :
  Wp (Zbw d) ⟨[.int zn, v1, v2, v3, .obj r, .int zz, v6, v7, v8, v9, v10, v11], hp⟩ Q E := by
 unfold Zbw
 have hN : 1000 < fuel := by unfold fuel; exact Qkb Qr rfl
 generalize fuel = N at hN ⊢
 refine Wp.I (Wp.i (Wp.C (Wp.R (Wp.B rfl rfl (Wp.V ?_)))))
 rw [en]
 refine Wp.X (λ k => Ex2 (λ v2 v3 => [.int n, v1, v2, v3, .obj r, .int zz, v6, v7, v8, v9, v10, v11]) (λ hp' => Mx hp' r n (stM (wM ts z) z k 0) ∧ Kp r n hp hp')) n (λ k μ hI hk => ?_) N 0 _ (Qkl hn hN) (Nat.zero_le _) (.mk ⟨by rw [Zpa]; exact M, Kp.refl⟩)
 obtain ⟨M', kp⟩ := hI
 rename_i v2' v3' hp'
 rw [Z0 (by exact Qkb hn rfl) hk]
 by_cases hkn : k < n
 ·right
  rw [if_pos hkn]
  refine ⟨hkn, _, rfl, Wp.H ?_⟩
  exact wp_w7 M' hn hkn hz rfl ez rfl λ hp'' w4 M'' kp' => Ex2.mk ⟨M'', kp.trans kp'⟩
 ·left
  rw [if_neg hkn]
  have hk' : k = n := by lia
  subst hk'
  refine ⟨rfl, Wp.N ?_⟩
  rw [<- en]
  exact h hp' _ _ (M'.congr λ a b ha _ => Zqu ha) kp
theorem Ztd {ti n : Nat} {ts : Ed} {zn : Int} (h7 : hp[ti]? = some (.lst (ts.map pairV))) (hn : n <= 1000) (en : zn = n) {x : Nat} {zx : Int} (ex : zx = x) {v2 v3 v4 v5 v6 v7 v8 v9 v10 v11 v12 : PV} {Q : PV -> St -> Prop}
  (h : Q (.obj hp.length) ⟨[.int zn, .obj ti, v2, v3, v4, v5, v6, v7, v8, v9, v10, v11, v12, .int zx], hp ++ [.lst ((List.range n).map λ (y : Nat) => PV.bool (edM ts x y))]⟩) :
  Wp (compM fuel 2 ((argC (getVar 0) (Pure.pure [])) >>= pRange) (Zbj d)) ⟨[.int zn, .obj ti, v2, v3, v4, v5, v6, v7, v8, v9, v10, v11, v12, .int zx], hp⟩ Q E := by
 unfold Zbj
 have hN : 1000 < fuel := by unfold fuel; exact Qkb Qr rfl
 generalize fuel = N at hN ⊢
 refine Wp.C9 (pv := .rng 0 n 1) ((List.range n).map λ (i : Nat) => PV.int i) ((List.range n).map λ (y : Nat) => PV.bool (edM ts x y)) (by simp; exact Qkl hn hN) (by simp) (by simp; exact Qkb hn rfl)
  (Wp.C (Wp.R (Wp.B rfl rfl (Wp.V ⟨by rw [en], rfl⟩)))) (λ k hk fr' z => Zcv (Qkb hn rfl) (by simpa using hk)) (λ k a b u w z ha hb => ?_) h
 have hk : k < n := by have := (Qgl ha); simpa using this
 rw [Zaw (f := λ (i : Nat) => PV.int i) hk] at ha
 rw [Zaw (f := λ (y : Nat) => PV.bool (edM ts x y)) hk] at hb
 cases ha; cases hb
 refine Wp.H (Wp.F8 (Wp.H3 (Wp.B9 (Wp.B (v := .int zx) rfl rfl (Wp.R (Wp.B (v := .int k) rfl rfl ⟨by simp, Wp.B (v := .obj ti) rfl rfl (Wp.H0 (getElem?_app h7) ⟨?_, _, _, rfl⟩)⟩))))))
 rw [ex]; rfl
end

noncomputable def hS (m : Nat -> Nat -> Bool) (x y : Nat) (hs : Nat -> Nat) : Nat -> Nat := λ b => if b = y ∧ m x y = true ∧ m y x = false then max (hs y) (hs x + 1) else hs b
noncomputable def hY (m : Nat -> Nat -> Bool) (x : Nat) (hs : Nat -> Nat) (k : Nat) : Nat -> Nat := match k with
 | 0 => hs
 | k + 1 => hS m x k (hY m x hs k)
noncomputable def hX (m : Nat -> Nat -> Bool) (n : Nat) (hs : Nat -> Nat) (k : Nat) : Nat -> Nat := match k with
 | 0 => hs
 | k + 1 => hY m k (hX m n hs k) n
noncomputable def hT (m : Nat -> Nat -> Bool) (n : Nat) (k : Nat) : Nat -> Nat := match k with
 | 0 => λ _ => 0
 | k + 1 => hX m n (hT m n k) n
noncomputable def htV (n : Nat) (hs : Nat -> Nat) : List PV := (List.range n).map λ y => PV.int (hs y)
theorem Ze5 {n : Nat} {hs : Nat -> Nat} : (htV n hs).length = n := by unfold htV; simp
theorem Kp.of_set {hp : List MO} {i : Nat} {v : MO} : Kp i 0 hp (hp.set i v) := ⟨length_set, λ j hj => List.getElem?_set_ne (by lia)⟩
theorem Mx.kp {hp hp' : List MO} {r n i : Nat} {m : Nat -> Nat -> Bool} (M : Mx hp r n m) (k : Kp i 0 hp hp') (h : r + n < i) : Mx hp' r n m := M.keep λ j h1 h2 => k.2 j (by lia)
section
variable {hp : List MO} {fr : List PV} {E : Value -> St -> Prop}
theorem Wp.J6 {i j : Int} {μ : St} {Q : PV -> St -> Prop} (h : Q (.int (max i j)) μ) : Wp (Mine.pMax [.int i, .int j]) μ Q E := Wp.J rfl h
theorem hAt {f g : PM PV} {i n x : Nat} {zx : Int} {hs : Nat -> Nat} (hH : hp[i]? = some (.lst (htV n hs))) (hn : n <= 1000) (hx : x < n) (ex : zx = x) {Q : PV -> St -> Prop}
  (hf : Wp f ⟨fr, hp⟩ (λ v μ => v = .obj i ∧ μ = ⟨fr, hp⟩) (λ _ _ => False)) (hg : Wp g ⟨fr, hp⟩ (λ v μ => v = .int zx ∧ μ = ⟨fr, hp⟩) (λ _ _ => False)) (h : Q (.int (hs x)) ⟨fr, hp⟩) : Wp (Mine.eSub f g) ⟨fr, hp⟩ Q E := by
 refine Wp.f (hf.mono (λ v μ hv => ?_) λ _ _ e => e.elim)
 obtain ⟨rfl, rfl⟩ := hv
 refine hg.mono (λ v μ hv => ?_) λ _ _ e => e.elim
 obtain ⟨rfl, rfl⟩ := hv
 exact Wp.B1 ex (.inl (Zg hH)) (Zaw (f := λ y => PV.int (hs y)) hx) (by rw [Ze5]; exact Qkb hn rfl) h
theorem wp_h6 {r n x y i : Nat} {zx zy : Int} {m : Nat -> Nat -> Bool} {hs : Nat -> Nat} (M : Mx hp r n m) (hi : r + n < i) (hH : hp[i]? = some (.lst (htV n hs))) (hn : n <= 1000) (hx : x < n) (hy : y < n) (ex : zx = x) (ey : zy = y) {v0 v1 v5 v7 v8 v9 v10 v11 : PV} {Q : MF -> St -> Prop}
  (h : ∀ hp', hp'[i]? = some (.lst (htV n (hS m x y hs))) -> Kp i 0 hp hp' -> Q .next ⟨[v0, v1, .int zx, .int zy, .obj r, v5, .obj i, v7, v8, v9, v10, v11], hp'⟩) :
  Wp (Zbr d) ⟨[v0, v1, .int zx, .int zy, .obj r, v5, .obj i, v7, v8, v9, v10, v11], hp⟩ Q E := by
 unfold Zbr
 have skip : m x y = false ∨ m y x = true -> hS m x y hs = hs := λ q => by
  funext b
  unfold hS
  rw [if_neg]
  rintro ⟨_, q1, q2⟩
  rcases q with q | q
  ·rw [q] at q1; cases q1
  ·rw [q] at q2; cases q2
 refine Wp.I (Wp.A2 (Wp.C6 (Wp.B6 (Wp.mx M hn hx hy ex ey (Wp.B7 rfl rfl) (Wp.B7 rfl rfl) (Wp.B7 rfl rfl) (Wp.A4 ?_)))))
 cases hm : m x y with
 | false => exact Wp.N (Wp.N (h hp (by rw [skip (.inl hm)]; exact hH) Kp.refl))
 | true =>
  refine Wp.C6 (Wp.E5 (Wp.B6 (Wp.mx M hn hy hx ey ex (Wp.B7 rfl rfl) (Wp.B7 rfl rfl) (Wp.B7 rfl rfl) (Wp.A4 ?_))))
  cases hm' : m y x with
  | true => exact Wp.N (Wp.N (h hp (by rw [skip (.inr hm')]; exact hH) Kp.refl))
  | false =>
   refine Wp.L ?_
   refine Wp.I (Wp.S (Wp.C (Wp.B9 (hAt hH hn hy ey (Wp.B7 rfl rfl) (Wp.B7 rfl rfl) (Wp.R (Wp.C1 (hAt hH hn hx ex (Wp.B7 rfl rfl) (Wp.B7 rfl rfl) (Wp.F5 (Wp.H6 (Wp.J6 ?_))))))))))
   refine Wp.E1 (Wp.B rfl rfl (Wp.B rfl rfl (Wp.G3 ey hH (by rw [Ze5]; exact hy) (by rw [Ze5]; exact Qkb hn rfl) (Wp.N (Wp.N (h _ ?_ Kp.of_set))))))
   rw [Zm hH]
   unfold htV
   rw [Zht]
   congr 2
   refine map_congr_left λ b _ => ?_
   unfold hS
   by_cases q : b = y
   ·rw [if_pos q, if_pos ⟨q, hm, hm'⟩]
    congr 1
    lia
   ·rw [if_neg q, if_neg λ h => q h.1]
theorem wp_h5 {r n x i : Nat} {zx zn : Int} {m : Nat -> Nat -> Bool} {hs : Nat -> Nat} (M : Mx hp r n m) (hi : r + n < i) (hH : hp[i]? = some (.lst (htV n hs))) (hn : n <= 1000) (hx : x < n) (ex : zx = x) (en : zn = n) {v1 v3 v5 v7 v8 v9 v10 v11 : PV} {Q : MF -> St -> Prop}
  (h : ∀ hp' v3, hp'[i]? = some (.lst (htV n (hY m x hs n))) -> Kp i 0 hp hp' -> Q .next ⟨[.int zn, v1, .int zx, v3, .obj r, v5, .obj i, v7, v8, v9, v10, v11], hp'⟩) :
  Wp (Zbs d) ⟨[.int zn, v1, .int zx, v3, .obj r, v5, .obj i, v7, v8, v9, v10, v11], hp⟩ Q E := by
 unfold Zbs
 have hN : 1000 < fuel := by unfold fuel; exact Qkb Qr rfl
 generalize fuel = N at hN ⊢
 refine Wp.I (Wp.i (Wp.C (Wp.R (Wp.B rfl rfl (Wp.V ?_)))))
 rw [en]
 refine Wp.X (λ k => Ex1 (λ v3 => [.int n, v1, .int zx, v3, .obj r, v5, .obj i, v7, v8, v9, v10, v11]) (λ hp' => hp'[i]? = some (.lst (htV n (hY m x hs k))) ∧ Kp i 0 hp hp')) n (λ k μ hI hk => ?_) N 0 _ (Qkl hn hN) (Nat.zero_le _) (.mk ⟨hH, Kp.refl⟩)
 obtain ⟨H', kp⟩ := hI
 rename_i v3' hp'
 rw [Z0 (by exact Qkb hn rfl) hk]
 by_cases hkn : k < n
 ·right
  rw [if_pos hkn]
  refine ⟨hkn, _, rfl, Wp.H ?_⟩
  exact wp_h6 (M.kp kp hi) hi H' hn hx hkn ex rfl λ hp'' H'' kp' => Ex1.mk ⟨H'', kp.trans kp'⟩
 ·left
  rw [if_neg hkn]
  have hk' : k = n := by lia
  subst hk'
  refine ⟨rfl, Wp.N ?_⟩
  rw [<- en]
  exact h hp' _ H' kp
theorem wp_h4 {r n i : Nat} {zn : Int} {m : Nat -> Nat -> Bool} {hs : Nat -> Nat} (M : Mx hp r n m) (hi : r + n < i) (hH : hp[i]? = some (.lst (htV n hs))) (hn : n <= 1000) (en : zn = n) {v1 v2 v3 v5 v7 v8 v9 v10 v11 : PV} {Q : MF -> St -> Prop}
  (h : ∀ hp' v2 v3, hp'[i]? = some (.lst (htV n (hX m n hs n))) -> Kp i 0 hp hp' -> Q .next ⟨[.int zn, v1, v2, v3, .obj r, v5, .obj i, v7, v8, v9, v10, v11], hp'⟩) :
  Wp (Zbt d) ⟨[.int zn, v1, v2, v3, .obj r, v5, .obj i, v7, v8, v9, v10, v11], hp⟩ Q E := by
 unfold Zbt
 have hN : 1000 < fuel := by unfold fuel; exact Qkb Qr rfl
 generalize fuel = N at hN ⊢
 refine Wp.I (Wp.i (Wp.C (Wp.R (Wp.B rfl rfl (Wp.V ?_)))))
 rw [en]
 refine Wp.X (λ k => Ex2 (λ v2 v3 => [.int n, v1, v2, v3, .obj r, v5, .obj i, v7, v8, v9, v10, v11]) (λ hp' => hp'[i]? = some (.lst (htV n (hX m n hs k))) ∧ Kp i 0 hp hp')) n (λ k μ hI hk => ?_) N 0 _ (Qkl hn hN) (Nat.zero_le _) (.mk ⟨hH, Kp.refl⟩)
 obtain ⟨H', kp⟩ := hI
 rename_i v2' v3' hp'
 rw [Z0 (by exact Qkb hn rfl) hk]
 by_cases hkn : k < n
 ·right
  rw [if_pos hkn]
  refine ⟨hkn, _, rfl, Wp.H ?_⟩
  exact wp_h5 (M.kp kp hi) hi H' hn hkn rfl rfl λ hp'' w3 H'' kp' => Ex2.mk ⟨H'', kp.trans kp'⟩
 ·left
  rw [if_neg hkn]
  have hk' : k = n := by lia
  subst hk'
  refine ⟨rfl, Wp.N ?_⟩
  rw [<- en]
  exact h hp' _ _ H' kp
end

structure Own (hp hp' : List MO) (i : Nat) (xs : List PV) : Prop where
 len : hp.length <= hp'.length
 old : ∀ j, j < hp.length -> hp'[j]? = hp[j]?
 ge : hp.length <= i
 at_ : hp'[i]? = some (.lst xs)
theorem Own.mx {hp hp' : List MO} {i r n : Nat} {xs : List PV} {m : Nat -> Nat -> Bool} (W : Own hp hp' i xs) (M : Mx hp r n m) : Mx hp' r n m := M.keep λ j _ h => W.old j (by have := M.lt; exact Qkl h this)
theorem Own.get {hp hp' : List MO} {i j : Nat} {xs : List PV} {o : MO} (W : Own hp hp' i xs) (h : hp[j]? = some o) : hp'[j]? = some o := (W.old j (Qgl h)).trans h
theorem Own.new {hp : List MO} {xs : List PV} : Own hp (hp ++ [.lst xs]) hp.length xs := ⟨by simp, λ j hj => List.getElem?_append_left hj, Qr, Zt⟩
theorem Own.set {hp hp' : List MO} {i : Nat} {xs ys : List PV} (W : Own hp hp' i xs) : Own hp (hp'.set i (.lst ys)) i ys :=
 ⟨by rw [length_set]; exact W.len, λ j hj => by rw [List.getElem?_set_ne (by have := W.ge; lia)]; exact W.old j hj, W.ge, Zm W.at_⟩
theorem Own.push {hp hp' : List MO} {i : Nat} {xs : List PV} (W : Own hp hp' i xs) (l : List MO) : Own hp (hp' ++ l) i xs :=
 ⟨by rw [length_append]; have := W.len; lia, λ j hj => by rw [List.getElem?_append_left (by have := W.len; lia)]; exact W.old j hj, W.ge, getElem?_app W.at_⟩
def CL (hp : List MO) (lo : Nat) (ps : List (Nat × List Int)) : Prop := ∀ p ∈ ps, lo < p.1 ∧ hp[p.1]? = some (.lst (p.2.map .int))
noncomputable def adV (ps : List (Nat × List Int)) : List PV := ps.map λ p => .obj p.1
noncomputable def encL (xs : List Int) : PyData := .list (xs.map .int)
theorem CL.keep {hp hp' : List MO} {lo : Nat} {ps : List (Nat × List Int)} (C : CL hp lo ps) (h : ∀ i, lo < i -> i < hp.length -> hp'[i]? = hp[i]?) : CL hp' lo ps := λ p hp =>
 ⟨(C p hp).1, (h _ (C p hp).1 (Qgl (C p hp).2)).trans (C p hp).2⟩
theorem CL.reify {hp : List MO} {lo n : Nat} {ps : List (Nat × List Int)} (C : CL hp lo ps) : ∀ p ∈ ps, Mine.reify hp (n + 2) (.obj p.1) = some (encL p.2) := λ p h => Zb7 (C p h).2 λ _ _ => rfl
theorem Zkv : ∀ (xs ys : List Int), PyData.eqvAll (xs.map .int) (ys.map .int) = decide (xs = ys)
 | [], [] => rfl
 | [], _ :: _ => rfl
 | _ :: _, [] => rfl
 | x :: xs, y :: ys => by
  rw [map_cons, map_cons, PyData.eqvAll, Zkv xs ys, PyData.eqv, Bool.eq_iff_iff]
  simp
theorem Zpb (ds : List (List Int)) (d : List Int) : ((ds.map encL).any λ y => PyData.eqv y (encL d)) = decide (d ∈ ds) := by
 have key : ∀ e : List Int, PyData.eqv (encL e) (encL d) = decide (e = d) := λ e => by
  show PyData.eqv (.list _) (.list _) = _
  rw [PyData.eqv, Zkv]
 rw [Bool.eq_iff_iff, any_eq_true, decide_eq_true_eq]
 constructor
 ·rintro ⟨y, hy, e⟩
  obtain ⟨b, hb, rfl⟩ := Qmm hy
  rw [key, decide_eq_true_eq] at e
  exact e ▸ hb
 ·intro h; exact ⟨_, mem_map.mpr ⟨d, h, rfl⟩, by rw [key]; simp⟩
noncomputable def cls (m : Nat -> Nat -> Bool) (n x : Nat) : List Int := ((List.range n).map λ (i : Nat) => (i : Int)).filter λ y => y == (x : Int) || (m x y.toNat && m y.toNat x)
noncomputable def metL (m : Nat -> Nat -> Bool) (n : Nat) (hs : Nat -> Nat) (lv k : Nat) : List (List Int) := match k with
 | 0 => []
 | k + 1 => if hs k = lv ∧ cls m n k ∉ metL m n hs lv k then metL m n hs lv k ++ [cls m n k] else metL m n hs lv k
theorem Zew {m : Nat -> Nat -> Bool} {n : Nat} {hs : Nat -> Nat} {lv k : Nat} : metL m n hs lv (k + 1) = if hs k = lv ∧ cls m n k ∉ metL m n hs lv k then metL m n hs lv k ++ [cls m n k] else metL m n hs lv k := rfl
theorem Zkw (m : Nat -> Nat -> Bool) (n : Nat) (hs : Nat -> Nat) (lv : Nat) : ∀ k, (metL m n hs lv k).length <= k
 | 0 => Qr
 | k + 1 => by
  have := Zkw m n hs lv k
  rw [Zew]
  split
  ·rw [length_append, length_singleton]; exact Qkl this Qr
  ·exact Qkk this (Qs Qr)
section
variable {hp : List MO} {fr : List PV} {E : Value -> St -> Prop}
theorem Wp.H1 {j i lo : Nat} {d : List Int} {ps : List (Nat × List Int)} (hj : hp[j]? = some (.lst (d.map .int))) (hi : hp[i]? = some (.lst (adV ps))) (C : CL hp lo ps) {Q : Bool -> St -> Prop} (h : Q (decide (d ∈ ps.map (·.2))) ⟨fr, hp⟩) : Wp (pCmp .In (.obj j) (.obj i)) ⟨fr, hp⟩ Q E := by
 refine Wp.J (f := pIn (.obj j) (.obj i)) ((Zhc (μ := ⟨fr, hp⟩) hi).trans ?_) h
 unfold inSeq adV
 rw [show Mine.reify hp 16 (.obj j) = some (encL d) from Zb7 hj λ _ _ => rfl, Zbx (k := λ p : Nat × List Int => encL p.2) C.reify]
 try dsimp only
 rw [<- Zpb, map_map]; rfl
theorem Zsn {r n x : Nat} {zx zn : Int} {m : Nat -> Nat -> Bool} (M : Mx hp r n m) (hn : n <= 1000) (hx : x < n) (ex : zx = x) (en : zn = n) {v1 v3 v5 v6 v7 v8 v9 v10 v11 : PV} {Q : PV -> St -> Prop}
  (h : Q (.obj hp.length) ⟨[.int zn, v1, .int zx, v3, .obj r, v5, v6, v7, v8, v9, v10, v11], hp ++ [.lst ((cls m n x).map .int)]⟩) :
  Wp (compM fuel 2 ((argC (getVar 0) (Pure.pure [])) >>= pRange) (Zbo d)) ⟨[.int zn, v1, .int zx, v3, .obj r, v5, v6, v7, v8, v9, v10, v11], hp⟩ Q E := by
 unfold Zbo
 have hN : 1000 < fuel := by unfold fuel; exact Qkb Qr rfl
 generalize fuel = N at hN ⊢
 refine Wp.G2 (pv := .rng 0 n 1) ((List.range n).map λ (i : Nat) => (i : Int)) (λ y => y == (x : Int) || (m x y.toNat && m y.toNat x)) PV.int (by simp; exact Qkl hn hN) (by simp; exact Qkb hn rfl)
  (Wp.C (Wp.R (Wp.B rfl rfl (Wp.V ⟨by rw [en], rfl⟩)))) (λ k hk fr' z => ?_) (λ a u w z ha => ?_) h
 ·rw [map_map]; exact Zcv (Qkb hn rfl) (by simpa using hk)
 obtain ⟨y, hy, rfl⟩ := Qmm ha
 rw [mem_range] at hy
 have M' := M.push [.lst z]
 generalize ez : ((y : Nat) : Int) = zy
 have ey : zy = y := ez.symm
 have e2 : zy.toNat = y := by lia
 obtain ⟨P, eP⟩ : ∃ P, (zy == (x : Int) || (m x zy.toNat && m zy.toNat x)) = P := ⟨_, rfl⟩
 try dsimp only
 rw [eP]
 rw [<- ex, e2] at eP
 have fin : ∀ {b : Bool}, b = P -> b = P ∧ ∃ u' w', (⟨([.int zn, v1, .int zx, v3, .obj r, v5, v6, v7, v8, v9, v10, v11] ++ [u, w]).set 13 (.int zy), hp ++ [.lst z]⟩ : St) = ⟨[.int zn, v1, .int zx, v3, .obj r, v5, v6, v7, v8, v9, v10, v11] ++ [u', w'], hp ++ [.lst z]⟩ ∧
   (b = true -> Wp (Mine.getVar 13) ⟨[.int zn, v1, .int zx, v3, .obj r, v5, v6, v7, v8, v9, v10, v11] ++ [u', w'], hp ++ [.lst z]⟩ (λ v μ'' => v = .int zy ∧ μ'' = ⟨[.int zn, v1, .int zx, v3, .obj r, v5, v6, v7, v8, v9, v10, v11] ++ [u', w'], hp ++ [.lst z]⟩) (λ _ _ => False)) := λ hb =>
  ⟨hb, u, .int zy, rfl, λ _ => Wp.B rfl rfl ⟨rfl, rfl⟩⟩
 refine Wp.H (Wp.F1 (Wp.Y (Wp.B (v := .int zy) rfl rfl (Wp.B (v := .int zx) rfl rfl (Wp.D0 ?_)))))
 cases hq : zy == zx with
 | true => exact fin (by rw [<- eP, hq]; rfl)
 | false =>
  rw [hq, Bool.false_or] at eP
  refine Wp.F1 (Wp.C6 (Wp.B6 (Wp.mx M' hn hx hy ex ey (Wp.B7 rfl rfl) (Wp.B7 rfl rfl) (Wp.B7 rfl rfl) (Wp.A4 ?_))))
  cases hm : m x y with
  | false => exact Wp.L (fin (by rw [<- eP, hm]; rfl))
  | true =>
   refine Wp.C6 (Wp.B6 (Wp.mx M' hn hy hx ey ex (Wp.B7 rfl rfl) (Wp.B7 rfl rfl) (Wp.B7 rfl rfl) (Wp.A4 ?_)))
   cases hm' : m y x with
   | false => exact Wp.L (fin (by rw [<- eP, hm, hm']; rfl))
   | true => exact Wp.L (fin (by rw [<- eP, hm, hm']; rfl))
end

theorem Zso {ps : List (Nat × List Int)} : (adV ps).length = ps.length := by unfold adV; simp
theorem CL.low {hp : List MO} {lo lo' : Nat} {ps : List (Nat × List Int)} (C : CL hp lo ps) (h : lo' <= lo) : CL hp lo' ps := λ p q => ⟨Nat.lt_of_le_of_lt h (C p q).1, (C p q).2⟩
def QL (hp : List MO) (lo : Nat) (qs : List (Nat × List (Nat × List Int))) : Prop := ∀ q ∈ qs, lo < q.1 ∧ hp[q.1]? = some (.lst (adV q.2)) ∧ CL hp lo q.2
noncomputable def adQ (qs : List (Nat × List (Nat × List Int))) : List PV := qs.map λ q => .obj q.1
noncomputable def tellQ (qs : List (Nat × List (Nat × List Int))) : List (List (List Int)) := qs.map λ q => q.2.map (·.2)
theorem QL.keep {hp hp' : List MO} {lo : Nat} {qs : List (Nat × List (Nat × List Int))} (C : QL hp lo qs) (h : ∀ i, lo < i -> i < hp.length -> hp'[i]? = hp[i]?) : QL hp' lo qs := λ q hq =>
 ⟨(C q hq).1, (h _ (C q hq).1 (Qgl (C q hq).2.1)).trans (C q hq).2.1, (C q hq).2.2.keep h⟩
section
variable {hp hp0 : List MO} {fr : List PV} {E : Value -> St -> Prop}
theorem wp_r2 {r n x i im lv : Nat} {zx zn zl : Int} {m : Nat -> Nat -> Bool} {hs : Nat -> Nat} {ps : List (Nat × List Int)} (M : Mx hp0 r n m) (hH : hp0[i]? = some (.lst (htV n hs))) (hn : n <= 1000) (hx : x < n) (ex : zx = x) (en : zn = n) (el : zl = lv)
  (W : Own hp0 hp im (adV ps)) (C : CL hp im ps) (ec : ps.map (·.2) = metL m n hs lv x) {v1 v3 v5 v7 v8 v11 : PV} {Q : MF -> St -> Prop}
  (h : ∀ hp' ps' v11, Own hp0 hp' im (adV ps') -> CL hp' im ps' -> ps'.map (·.2) = metL m n hs lv (x + 1) -> Q .next ⟨[.int zn, v1, .int zx, v3, .obj r, v5, .obj i, v7, v8, .int zl, .obj im, v11], hp'⟩) :
  Wp (Zbp d) ⟨[.int zn, v1, .int zx, v3, .obj r, v5, .obj i, v7, v8, .int zl, .obj im, v11], hp⟩ Q E := by
 unfold Zbp
 have lim := (Qgl W.at_)
 refine Wp.I (Wp.S (Zsn (W.mx M) hn hx ex en (Wp.H ?_)))
 have W1 := W.push [.lst ((cls m n x).map .int)]
 have CB : CL (hp ++ [.lst ((cls m n x).map .int)]) im ps := C.keep λ i _ hi => List.getElem?_append_left hi
 have hpl : ps.length <= x := by
  have := Zkw m n hs lv x
  rw [<- ec, length_map] at this; exact this
 have skip : ¬ (hs x = lv ∧ cls m n x ∉ metL m n hs lv x) -> metL m n hs lv x = metL m n hs lv (x + 1) := λ q => by rw [Zew, if_neg q]
 refine Wp.I (Wp.A2 (Wp.C6 (Wp.Y (hAt (W1.get hH) hn hx ex (Wp.B7 rfl rfl) (Wp.B7 rfl rfl) (Wp.B (v := .int zl) rfl rfl (Wp.D0 ?_))))))
 cases hq : ((hs x : Int) == zl) with
 | false =>
  have : hs x ≠ lv := λ e => by rw [e, <- el, beq_self_eq_true] at hq; cases hq
  exact Wp.N (Wp.N (h _ ps _ W1 CB (by rw [ec]; exact skip λ q => this q.1)))
 | true =>
  have hl : hs x = lv := by have := eq_of_beq hq; lia
  refine Wp.C6 (Wp.Y (Wp.B (v := .obj hp.length) rfl rfl (Wp.B (v := .obj im) rfl rfl (Wp.E9 (Wp.H1 Zt W1.at_ CB ?_)))))
  rw [ec]
  by_cases hc : cls m n x ∈ metL m n hs lv x
  ·rw [decide_eq_true hc]
   exact Wp.N (Wp.N (h _ ps _ W1 CB (by rw [ec]; exact skip λ q => q.2 hc)))
  ·rw [decide_eq_false hc]
   refine Wp.L ?_
   refine Wp.I (Wp.A8 (Wp.j (Wp.B (v := .obj im) rfl rfl (Wp.W W1.at_ (Wp.B (v := .obj hp.length) rfl rfl (Wp.l W1.at_ (by rw [Zso]; lia) ?_))))))
   have e : adV ps ++ [.obj hp.length] = adV (ps ++ [(hp.length, cls m n x)]) := by unfold adV; simp
   rw [e]
   refine Wp.N (Wp.N (h _ (ps ++ [(hp.length, cls m n x)]) _ W1.set (λ p hp' => ?_) ?_))
   ·rcases Qma hp' with q | q
    ·exact ⟨(CB p q).1, Zj (Nat.ne_of_lt (CB p q).1) (CB p q).2⟩
    ·rw [mem_singleton] at q; subst q
     exact ⟨lim, Zj (Nat.ne_of_lt lim) Zt⟩
   ·rw [map_append, ec, Zew, if_pos ⟨hl, hc⟩]; rfl
theorem wp_r1 {r n i ir lv : Nat} {zn zl : Int} {m : Nat -> Nat -> Bool} {hs : Nat -> Nat} {qs : List (Nat × List (Nat × List Int))} (M : Mx hp r n m) (hH : hp[i]? = some (.lst (htV n hs))) (hri : r + n < ir) (hii : i ≠ ir) (hn : n <= 1000) (en : zn = n) (el : zl = lv)
  (hR : hp[ir]? = some (.lst (adQ qs))) (C : QL hp ir qs) (hql : qs.length <= 1000) {v1 v2 v3 v5 v7 v10 v11 : PV} {Q : MF -> St -> Prop}
  (h : ∀ hp' q v2 v10 v11, hp'[ir]? = some (.lst (adQ (qs ++ [q]))) -> QL hp' ir (qs ++ [q]) -> q.2.map (·.2) = metL m n hs lv n -> hp.length <= hp'.length -> (∀ j, j < hp.length -> j ≠ ir -> hp'[j]? = hp[j]?) -> Q .next ⟨[.int zn, v1, v2, v3, .obj r, v5, .obj i, v7, .obj ir, .int zl, v10, v11], hp'⟩) :
  Wp (Zbq d) ⟨[.int zn, v1, v2, v3, .obj r, v5, .obj i, v7, .obj ir, .int zl, v10, v11], hp⟩ Q E := by
 unfold Zbq
 have hN : 1000 < fuel := by unfold fuel; exact Qkb Qr rfl
 generalize fuel = N at hN ⊢
 have lir := (Qgl hR)
 refine Wp.I (Wp.S (Wp.B8 (Wp.A3 ⟨by simp, Wp.H ?_⟩)))
 refine Wp.I (Wp.i (Wp.C (Wp.R (Wp.B (v := .int zn) rfl rfl (Wp.V ?_)))))
 rw [en]
 refine Wp.X (λ k => Ex2 (λ v2 v11 => [.int n, v1, v2, v3, .obj r, v5, .obj i, v7, .obj ir, .int zl, .obj hp.length, v11]) (λ hp' => ∃ ps, Own hp hp' hp.length (adV ps) ∧ CL hp' hp.length ps ∧ ps.map (·.2) = metL m n hs lv k)) n (λ k μ hI hk => ?_) N 0 _ (Qkl hn hN) (Nat.zero_le _)
  (.mk ⟨[], Own.new, λ p q => (nomatch q), rfl⟩)
 obtain ⟨ps, W, C', ec⟩ := hI
 rename_i w2 w11 hp'
 rw [Z0 (by exact Qkb hn rfl) hk]
 by_cases hkn : k < n
 ·right
  rw [if_pos hkn]
  refine ⟨hkn, _, rfl, Wp.H ?_⟩
  exact wp_r2 M hH hn hkn rfl rfl el W C' ec λ hp'' ps' u11 W' C'' ec' => Ex2.mk ⟨ps', W', C'', ec'⟩
 ·left
  rw [if_neg hkn]
  have hk' : k = n := by lia
  subst hk'
  refine ⟨rfl, ?_⟩
  have hR' := W.get hR
  refine Wp.I (Wp.A8 (Wp.j (Wp.B (v := .obj ir) rfl rfl (Wp.W hR' (Wp.B (v := .obj hp.length) rfl rfl (Wp.l hR' (by unfold adQ; rw [length_map]; exact Qkb hql rfl) (Wp.N ?_)))))))
  have e : adQ qs ++ [.obj hp.length] = adQ (qs ++ [(hp.length, ps)]) := by unfold adQ; simp
  rw [e, <- en]
  have keep : ∀ j, ir < j -> j < hp'.length -> (hp'.set ir (.lst (adQ (qs ++ [(hp.length, ps)]))))[j]? = hp'[j]? := λ j hj _ => List.getElem?_set_ne (Qnk hj)
  refine h _ (hp.length, ps) _ _ _ (Zm hR') (λ q hq => ?_) ec (by rw [length_set]; exact W.len) λ j hj hne => by rw [List.getElem?_set_ne (Ne.symm hne)]; exact W.old j hj
  rcases Qma hq with hq | hq
  ·exact (C.keep (λ j _ hj => W.old j hj)).keep keep q hq
  ·rw [mem_singleton] at hq; subst hq
   exact ⟨lir, Zj (Qnk lir) W.at_, (C'.low (Qlk lir Qr)).keep keep⟩
end

theorem Zhu : ∀ n : Nat, repL n [PV.int 0] = htV n λ _ => 0
 | 0 => rfl
 | n + 1 => by
  rw [Zgf, Zhu n]
  unfold htV
  rw [range_succ, map_append]; rfl
section
variable {hp : List MO} {fr : List PV} {E : Value -> St -> Prop}
theorem Wp.J4 {g : PM PV} {n : Nat} (hn : n <= 1000) {Q : PV -> St -> Prop} (hg : Wp g ⟨fr, hp⟩ (λ v μ => v = .int n ∧ μ = ⟨fr, hp⟩) (λ _ _ => False)) (h : Q (.obj hp.length) ⟨fr, hp ++ [.lst (htV n λ _ => 0)]⟩) :
  Wp (eRep true (Mine.eList false (Mine.argC (Pure.pure (PV.int 0)) (Pure.pure []))) g) ⟨fr, hp⟩ Q E := by
 unfold eRep
 refine Wp.C (Wp.D7 (Wp.R (Wp.F5 ⟨by simp, Wp.C (hg.mono (λ v μ hv => ?_) λ _ _ e => e.elim)⟩)))
 obtain ⟨rfl, rfl⟩ := hv
 unfold pRep
 refine Wp.C (Wp.C7 (xs := [PV.int 0]) rfl ?_)
 try dsimp only
 refine Wp.C (Wp.A6 (by rw [decide_eq_true (Int.natCast_nonneg n), decide_eq_true (show (n : Int) <= 1000000 by lia)]; rfl) ?_)
 rw [Int.toNat_natCast, Zhu]
 exact Wp.C (Wp.A6 (decide_eq_true (by rw [Ze5]; exact Qkb hn rfl)) (Wp.C (Wp.Z (Wp.L h))))
inductive Ro3 (n ti r i ir : Nat) (ts : Ed) (v5 v7 : PV) (hp : List MO) (lv : Nat) : St -> Prop
 | mk {v2 v3 v9 v10 v11 : PV} {hp' : List MO} {qs : List (Nat × List (Nat × List Int))} (h1 : hp'[ir]? = some (.lst (adQ qs))) (C : QL hp' ir qs) (h2 : qs.length = lv) (h3 : tellQ qs = (List.range lv).map (λ lv => metL (wM ts n) n (hT (wM ts n) n n) lv n)) (len : hp.length <= hp'.length) (old : ∀ j, j < hp.length -> hp'[j]? = hp[j]?) :
  Ro3 n ti r i ir ts v5 v7 hp lv ⟨[.int n, .obj ti, v2, v3, .obj r, v5, .obj i, v7, .obj ir, v9, v10, v11], hp'⟩
theorem Zim {n ti : Nat} {ts : Ed} (hn : n <= 100) (h7 : hp[ti]? = some (.lst (ts.map pairV))) {zn : Int} (en : zn = n) {Q : PV -> St -> Prop}
  (h : ∀ hp' ir qs, (∀ i, i < hp.length -> hp'[i]? = hp[i]?) -> hp'[ir]? = some (.lst (adQ qs)) -> QL hp' ir qs -> tellQ qs = (List.range n).map (λ lv => metL (wM ts n) n (hT (wM ts n) n n) lv n) -> Q (.obj ir) ⟨fr, hp'⟩) :
  Wp (Zbk d [.int zn, .obj ti]) ⟨fr, hp⟩ Q E := by
 refine Wp.A1 rfl ?_
 unfold g_law_rounds Zc3
 have hN : 1000 < fuel := by unfold fuel; exact Qkb Qr rfl
 refine Wp.I (Wp.S (Wp.J9 (n := n) (edM ts) (λ fr' => ∃ u w, fr' = [.int zn, .obj ti, .undef, .undef, .undef, .undef, .undef, .undef, .undef, .undef, .undef, .undef, u, w]) (Qlb hn rfl) (Qkb hn rfl)
  (Wp.C (Wp.R (Wp.B rfl rfl (Wp.V ⟨by rw [en], rfl⟩)))) ⟨_, _, rfl⟩ (λ fr' ⟨u, w, e⟩ => by subst e; rfl) (λ x z fr' hp' hx ez ⟨u, w, e⟩ old => ?_) λ hpB lenB oldB M1 => Wp.H ?_))
 ·subst e
  exact Wp.H (Ztd ((old ti (Qgl h7)).trans h7) (Qkb hn rfl) en ez ⟨rfl, _, ⟨_, _, rfl⟩, rfl⟩)
 generalize fuel = N at hN ⊢
 refine Wp.I (Wp.i (Wp.C (Wp.R (Wp.B (v := .int zn) rfl rfl (Wp.V ?_)))))
 rw [en]
 refine Wp.X (λ k => Ex3 (λ v2 v3 v5 => [.int n, .obj ti, v2, v3, .obj hp.length, v5, .undef, .undef, .undef, .undef, .undef, .undef]) (λ hp' => Mx hp' hp.length n (wM ts k) ∧ Kp hp.length n hpB hp')) n (λ k μ hI hk => ?_) N 0 _ (Qkxl hn hN rfl) (Nat.zero_le _)
  (.mk ⟨M1, Kp.refl⟩)
 obtain ⟨M2, kp⟩ := hI
 rename_i v2 v3 v5 hp2
 rw [Z0 (by exact Qkb hn rfl) hk]
 by_cases hkn : k < n
 ·right
  rw [if_pos hkn]
  refine ⟨hkn, _, rfl, Wp.H ?_⟩
  exact wp_w6 M2 (Qkb hn rfl) hkn rfl rfl λ hp' w3 w4 M' kp' => Ex3.mk ⟨M', kp.trans kp'⟩
 left
 rw [if_neg hkn]
 have hk' : k = n := by lia
 subst hk'
 clear hkn hk
 refine ⟨rfl, ?_⟩
 have old2 : ∀ i, i < hp.length -> hp2[i]? = hp[i]? := λ i hi => (kp.2 i (by lia)).trans (oldB i hi)
 have lenC : hp2.length = hp.length + 1 + k := by rw [kp.1, lenB]
 refine Wp.I (Wp.S (Wp.J4 (n := k) (Qkb hn rfl) (Wp.B rfl rfl ⟨rfl, rfl⟩) (Wp.H ?_)))
 refine Wp.I (Wp.i (Wp.C (Wp.R (Wp.B (v := .int k) rfl rfl (Wp.V ?_)))))
 have M3 := M2.push [.lst (htV k λ _ => 0)]
 have lenD : (hp2 ++ [MO.lst (htV k λ _ => 0)]).length = hp2.length + 1 := by simp
 have old3 : ∀ i, i < hp.length -> (hp2 ++ [MO.lst (htV k λ _ => 0)])[i]? = hp[i]? := λ i hi => by rw [List.getElem?_append_left (by lia)]; exact old2 i hi
 have HD : (hp2 ++ [MO.lst (htV k λ _ => 0)])[hp2.length]? = some (.lst (htV k (hT (wM ts k) k 0))) := Zt
 generalize hp2 ++ [MO.lst (htV k λ _ => 0)] = hp3 at M3 lenD old3 HD ⊢
 refine Wp.X (λ t => Ex3 (λ v2 v3 v7 => [.int k, .obj ti, v2, v3, .obj hp.length, v5, .obj hp2.length, v7, .undef, .undef, .undef, .undef]) (λ hp' => hp'[hp2.length]? = some (.lst (htV k (hT (wM ts k) k t))) ∧ Kp hp2.length 0 hp3 hp')) k (λ t μ hI ht => ?_) N 0 _ (Qkxl hn hN rfl) (Nat.zero_le _)
  (.mk ⟨HD, Kp.refl⟩)
 obtain ⟨HE, kp4⟩ := hI
 rename_i w2 w3 v7 hp4
 rw [Z0 (by exact Qkb hn rfl) ht]
 have M4 := M3.kp kp4 (by lia)
 by_cases htk : t < k
 ·right
  rw [if_pos htk]
  refine ⟨htk, _, rfl, Wp.H ?_⟩
  exact wp_h4 M4 (by lia) HE (Qkb hn rfl) rfl λ hp' u2 u3 H' kp' => Ex3.mk ⟨H', kp4.trans kp'⟩
 left
 rw [if_neg htk]
 have ht' : t = k := by lia
 subst ht'
 clear htk ht
 refine ⟨rfl, ?_⟩
 have old4 : ∀ i, i < hp.length -> hp4[i]? = hp[i]? := λ i hi => (kp4.2 i (by lia)).trans (old3 i hi)
 have len4 := kp4.1
 refine Wp.I (Wp.S (Wp.B8 (Wp.A3 ⟨by simp, Wp.H ?_⟩)))
 refine Wp.I (Wp.i (Wp.C (Wp.R (Wp.B (v := .int t) rfl rfl (Wp.V ?_)))))
 refine Wp.X (Ro3 t ti hp.length hp2.length hp4.length ts v5 v7 hp4) t (λ lv μ hI hlv => ?_) N 0 _ (Qkxl hn hN rfl) (Nat.zero_le _)
  (.mk (qs := []) Zt (λ q hq => (nomatch hq)) rfl rfl (by simp) λ j hj => List.getElem?_append_left hj)
 obtain ⟨R5, CF, ql, eq, len5, old5⟩ := hI
 rename_i u2 u3 v9 v10 v11 hp5 qs
 rw [Z0 (by exact Qkb hn rfl) hlv]
 by_cases hlt : lv < t
 ·right
  rw [if_pos hlt]
  refine ⟨hlt, _, rfl, Wp.H ?_⟩
  refine wp_r1 (lv := lv) (M4.keep λ j _ hj => old5 j (by lia)) ((old5 _ (by lia)).trans HE) (by lia) (by lia) (Qkb hn rfl) rfl rfl R5 CF (by lia) λ hp' q w2 w10 w11 R' C' ec len' old' => .mk R' C' ?_ ?_ (Qkk len5 len') λ j hj => ?_
  ·rw [length_append, ql]; rfl
  ·unfold tellQ at eq ⊢
   rw [map_append, eq, range_succ, map_append, List.map_singleton, ec]; rfl
  ·rw [old' j (by exact Qll hj len5) (by exact Qnk hj)]; exact old5 j hj
 left
 rw [if_neg hlt]
 have hl' : lv = t := by lia
 rw [hl'] at eq
 refine ⟨rfl, Wp.I (Wp.D3 (Wp.B (v := .obj hp4.length) rfl rfl (h hp5 _ qs (λ i hi => ?_) R5 CF eq)))⟩
 exact (old5 i (by lia)).trans (old4 i hi)
end

noncomputable def partV (p : List Int) : PV := .lst (p.map .int)
noncomputable def upI (m : Nat) : List Int := (List.range m).map λ (i : Nat) => (i : Int)
theorem Zn {m : Nat} {a : Int} : a ∈ upI m ↔ 0 <= a ∧ a < m := by
 unfold upI
 rw [mem_map]
 constructor
 ·rintro ⟨i, hi, rfl⟩; rw [mem_range] at hi; lia
 ·intro q; exact ⟨a.toNat, by rw [mem_range]; lia, by lia⟩
theorem Zqv (m : Nat) : upI (m + 1) = upI m ++ [(m : Int)] := by unfold upI; rw [range_succ, map_append]; rfl
noncomputable def grV (g m : Nat) : List (Int × PV) := (upI m).map λ a => (a, PV.obj (g + 1 + a.toNat))
theorem Zmj {g m : Nat} : (grV g m).length = m := by unfold grV upI; simp
structure Gr (hp hp' : List MO) (g m : Nat) (gr : Nat -> List Int) : Prop where
 len : hp.length <= hp'.length
 old : ∀ j, j < hp.length -> hp'[j]? = hp[j]?
 ge : hp.length <= g
 dct : ∃ ep, hp'[g]? = some (.dct (grV g m) ep)
 row : ∀ i, i < m -> hp'[g + 1 + i]? = some (.lst ((gr i).map .int))
theorem Gr.get {hp hp' : List MO} {g m j : Nat} {gr : Nat -> List Int} {o : MO} (G : Gr hp hp' g m gr) (h : hp[j]? = some o) : hp'[j]? = some o := (G.old j (Qgl h)).trans h
noncomputable def gB (P : List (List Int)) (hd : Int) (a : Nat) (gr : Nat -> List Int) (k : Nat) : Nat -> List Int := λ c => if c < k ∧ hd ∈ P.getD c [] then gr c ++ [(a : Int)] else gr c
noncomputable def gA (P : List (List Int)) (tl hd : Int) (gr : Nat -> List Int) (k : Nat) : Nat -> List Int := match k with
 | 0 => gr
 | k + 1 => if tl ∈ P.getD k [] ∧ hd ∉ P.getD k [] then gB P hd k (gA P tl hd gr k) P.length else gA P tl hd gr k
theorem gA_s {P : List (List Int)} {tl hd : Int} {gr : Nat -> List Int} {k : Nat} : gA P tl hd gr (k + 1) = if tl ∈ P.getD k [] ∧ hd ∉ P.getD k [] then gB P hd k (gA P tl hd gr k) P.length else gA P tl hd gr k := rfl
noncomputable def gE (P : List (List Int)) (ts : Ed) (k : Nat) : Nat -> List Int := match k with
 | 0 => λ _ => []
 | k + 1 => gA P (ts.getD k (0, 0)).1 (ts.getD k (0, 0)).2 (gE P ts k) P.length
theorem gE_s {P : List (List Int)} {ts : Ed} {k : Nat} : gE P ts (k + 1) = gA P (ts.getD k (0, 0)).1 (ts.getD k (0, 0)).2 (gE P ts k) P.length := rfl
theorem Zte {P : List (List Int)} {hd : Int} {a k c : Nat} {gr : Nat -> List Int} : (gB P hd a gr k c).length <= (gr c).length + 1 := by
 unfold gB
 split
 ·simp
 ·exact Qs Qr
theorem Zkx {P : List (List Int)} {tl hd : Int} {gr : Nat -> List Int} {c : Nat} : ∀ k, (gA P tl hd gr k c).length <= (gr c).length + k
 | 0 => Qr
 | k + 1 => by
  have := Zkx (P := P) (tl := tl) (hd := hd) (gr := gr) (c := c) k
  rw [gA_s]
  split
  ·have := Zte (P := P) (hd := hd) (a := k) (k := P.length) (c := c) (gr := gA P tl hd gr k); lia
  ·exact Qkk this (Qs Qr)
theorem Zky {P : List (List Int)} {ts : Ed} {c : Nat} : ∀ k, (gE P ts k c).length <= k * P.length
 | 0 => Nat.zero_le _
 | k + 1 => by
  have h1 := Zky (P := P) (ts := ts) (c := c) k
  rw [gE_s]
  have := Zkx (P := P) (tl := (ts.getD k (0, 0)).1) (hd := (ts.getD k (0, 0)).2) (gr := gE P ts k) (c := c) P.length
  rw [Nat.succ_mul]; lia
section
variable {hp hp0 : List MO} {fr : List PV} {E : Value -> St -> Prop}
theorem Wp.F7 {P : List (List Int)} {pi k : Nat} {x z : Int} {f g : PM PV} (hk : k < P.length) (hz : z = k) (hl : P.length <= 1000) (hP : hp[pi]? = some (.lst (P.map partV))) (hf : Wp f ⟨fr, hp⟩ (λ v μ => v = .obj pi ∧ μ = ⟨fr, hp⟩) (λ _ _ => False)) (hg : Wp g ⟨fr, hp⟩ (λ v μ => v = .int z ∧ μ = ⟨fr, hp⟩) (λ _ _ => False))
  {e : PM PV} (he : Wp e ⟨fr, hp⟩ (λ v μ => v = .int x ∧ μ = ⟨fr, hp⟩) (λ _ _ => False)) {Q : Bool -> St -> Prop} (h : Q (decide (x ∈ P.getD k [])) ⟨fr, hp⟩) : Wp (Mine.bCmp .In e (Mine.eSub f g)) ⟨fr, hp⟩ Q E := by
 refine Wp.Y (he.mono (λ v μ hv => ?_) λ _ _ e => e.elim)
 obtain ⟨rfl, rfl⟩ := hv
 refine Wp.f (hf.mono (λ v μ hv => ?_) λ _ _ e => e.elim)
 obtain ⟨rfl, rfl⟩ := hv
 refine hg.mono (λ v μ hv => ?_) λ _ _ e => e.elim
 obtain ⟨rfl, rfl⟩ := hv
 refine Wp.B1 hz (y := partV (P.getD k [])) (.inl (Zg hP)) (by rw [List.getElem?_map, getD_eq_getElem?_getD, List.getElem?_eq_getElem hk]; rfl) (by rw [length_map]; exact Qkb hl rfl) ?_
 exact Wp.J (f := pIn (.int x) (partV (P.getD k []))) (Zcj (μ := ⟨fr, hp⟩)) h
theorem Wp.E8 {P : List (List Int)} {pi k : Nat} {x z : Int} {f g : PM PV} (hk : k < P.length) (hz : z = k) (hl : P.length <= 1000) (hP : hp[pi]? = some (.lst (P.map partV))) (hf : Wp f ⟨fr, hp⟩ (λ v μ => v = .obj pi ∧ μ = ⟨fr, hp⟩) (λ _ _ => False)) (hg : Wp g ⟨fr, hp⟩ (λ v μ => v = .int z ∧ μ = ⟨fr, hp⟩) (λ _ _ => False))
  {e : PM PV} (he : Wp e ⟨fr, hp⟩ (λ v μ => v = .int x ∧ μ = ⟨fr, hp⟩) (λ _ _ => False)) {Q : Bool -> St -> Prop} (h : Q (!decide (x ∈ P.getD k [])) ⟨fr, hp⟩) : Wp (Mine.bCmp .NotIn e (Mine.eSub f g)) ⟨fr, hp⟩ Q E := by
 refine Wp.Y (he.mono (λ v μ hv => ?_) λ _ _ e => e.elim)
 obtain ⟨rfl, rfl⟩ := hv
 refine Wp.f (hf.mono (λ v μ hv => ?_) λ _ _ e => e.elim)
 obtain ⟨rfl, rfl⟩ := hv
 refine hg.mono (λ v μ hv => ?_) λ _ _ e => e.elim
 obtain ⟨rfl, rfl⟩ := hv
 refine Wp.B1 hz (y := partV (P.getD k [])) (.inl (Zg hP)) (by rw [List.getElem?_map, getD_eq_getElem?_getD, List.getElem?_eq_getElem hk]; rfl) (by rw [length_map]; exact Qkb hl rfl) ?_
 exact Wp.E9 (Wp.J (f := pIn (.int x) (partV (P.getD k []))) (Zcj (μ := ⟨fr, hp⟩)) h)
theorem wp_g3 {P : List (List Int)} {pi g a k : Nat} {gr : Nat -> List Int} {hd za zk : Int} (hk : k < P.length) (ek : zk = k) (ea : za = a) (hl : P.length <= 100) (hP : hp0[pi]? = some (.lst (P.map partV))) (G : Gr hp0 hp g P.length (gB P hd a gr k)) (hgl : ∀ c, (gr c).length <= 1000) {v1 v3 v4 : PV} {Q : MF -> St -> Prop}
  (h : ∀ hp', Gr hp0 hp' g P.length (gB P hd a gr (k + 1)) -> Q .next ⟨[.obj pi, v1, .obj g, v3, v4, .int hd, .int za, .int zk], hp'⟩) :
  Wp (Zca d) ⟨[.obj pi, v1, .obj g, v3, v4, .int hd, .int za, .int zk], hp⟩ Q E := by
 unfold Zca
 refine Wp.I (Wp.A2 (Wp.F7 (x := hd) hk ek (Qkb hl rfl) (G.get hP) (Wp.B7 rfl rfl) (Wp.B7 rfl rfl) (Wp.B7 rfl rfl) ?_))
 by_cases hm : hd ∈ P.getD k []
 ·rw [decide_eq_true hm]
  obtain ⟨ep, hD⟩ := G.dct
  have hrow := G.row k hk
  have e1 : gB P hd a gr k k = gr k := by unfold gB; rw [if_neg (by lia)]
  rw [e1] at hrow
  have hg1 : dGet (grV g P.length) zk = some (.obj (g + 1 + k)) := by
   have := Za5 (f := λ a => PV.obj (g + 1 + a.toNat)) (a := zk) (l := upI P.length) (Zn.mpr (by lia))
   rw [show zk.toNat = k by lia] at this
   exact this
  refine Wp.I (Wp.A8 (Wp.j (Wp.f (Wp.B (v := .obj g) rfl rfl (Wp.B (v := .int zk) rfl rfl (Wp.D5 hD hg1 (Wp.W hrow (Wp.B (v := .int za) rfl rfl (Wp.l hrow (by have := hgl k; rw [length_map]; exact Qkb (hgl k) rfl) (Wp.N (Wp.N ?_)))))))))))
  have e2 : (gr k).map PV.int ++ [PV.int za] = (gr k ++ [(a : Int)]).map .int := by rw [map_append, ea]; rfl
  rw [e2]
  refine h _ ⟨by rw [length_set]; exact G.len, λ j hj => by rw [List.getElem?_set_ne (by have := G.ge; lia)]; exact G.old j hj, G.ge, ⟨ep, Zj (by lia) hD⟩, λ i hi => ?_⟩
  by_cases e : i = k
  ·subst e
   rw [Zm hrow]
   unfold gB
   rw [if_pos ⟨Nat.lt_succ_self _, hm⟩]
  ·rw [Zj (by lia) (G.row i hi)]
   unfold gB
   by_cases q : hd ∈ P.getD i []
   ·by_cases q2 : i < k
    ·rw [if_pos ⟨q2, q⟩, if_pos ⟨by lia, q⟩]
    ·rw [if_neg (λ h => q2 h.1), if_neg (λ h => by have := h.1; lia)]
   ·rw [if_neg (λ h => q h.2), if_neg (λ h => q h.2)]
 ·rw [decide_eq_false hm]
  refine Wp.N (Wp.N (h hp ?_))
  have e : gB P hd a gr (k + 1) = gB P hd a gr k := by
   funext c
   unfold gB
   by_cases q : hd ∈ P.getD c []
   ·have : c ≠ k := λ e => hm (e ▸ q)
    by_cases q2 : c < k
    ·rw [if_pos ⟨by lia, q⟩, if_pos ⟨q2, q⟩]
    ·rw [if_neg (λ h => by have := h.1; lia), if_neg (λ h => q2 h.1)]
   ·rw [if_neg (λ h => q h.2), if_neg (λ h => q h.2)]
  rw [e]; exact G
theorem wp_g2 {P : List (List Int)} {pi g a : Nat} {gr : Nat -> List Int} {tl hd za : Int} (hk : a < P.length) (ea : za = a) (hl : P.length <= 100) (hP : hp0[pi]? = some (.lst (P.map partV))) (G : Gr hp0 hp g P.length (gA P tl hd gr a)) (hgl : ∀ c, (gr c).length <= 900) {v1 v3 v7 : PV} {Q : MF -> St -> Prop}
  (h : ∀ hp' v7, Gr hp0 hp' g P.length (gA P tl hd gr (a + 1)) -> Q .next ⟨[.obj pi, v1, .obj g, v3, .int tl, .int hd, .int za, v7], hp'⟩) :
  Wp (Zcb d) ⟨[.obj pi, v1, .obj g, v3, .int tl, .int hd, .int za, v7], hp⟩ Q E := by
 unfold Zcb
 have hN : 1000 < fuel := by unfold fuel; exact Qkb Qr rfl
 generalize fuel = N at hN ⊢
 have skip : ¬ (tl ∈ P.getD a [] ∧ hd ∉ P.getD a []) -> Gr hp0 hp g P.length (gA P tl hd gr (a + 1)) := λ q => by rw [gA_s, if_neg q]; exact G
 refine Wp.I (Wp.A2 (Wp.C6 (Wp.F7 (x := tl) hk ea (Qkb hl rfl) (G.get hP) (Wp.B7 rfl rfl) (Wp.B7 rfl rfl) (Wp.B7 rfl rfl) ?_)))
 by_cases h1 : tl ∈ P.getD a []
 ·rw [decide_eq_true h1]
  refine Wp.C6 (Wp.E8 (x := hd) hk ea (Qkb hl rfl) (G.get hP) (Wp.B7 rfl rfl) (Wp.B7 rfl rfl) (Wp.B7 rfl rfl) ?_)
  by_cases h2 : hd ∈ P.getD a []
  ·rw [decide_eq_true h2]
   exact Wp.N (Wp.N (h _ _ (skip λ q => q.2 h2)))
  ·rw [decide_eq_false h2]
   refine Wp.L (Wp.I (Wp.i (Wp.C (Wp.R (Wp.C (Wp.R (Wp.B (v := .obj pi) rfl rfl (Wp.B0 (.inl (Zg (G.get hP))) (by rw [length_map]; exact Qkb hl rfl) (Wp.V ?_)))))))))
   rw [length_map]
   have hgl' : ∀ c, (gA P tl hd gr a c).length <= 1000 := λ c => by have := Zkx (P := P) (tl := tl) (hd := hd) (gr := gr) (c := c) a; have := hgl c; lia
   refine Wp.X (λ k => Ex1 (λ v7 => [.obj pi, v1, .obj g, v3, .int tl, .int hd, .int za, v7]) (λ hp' => Gr hp0 hp' g P.length (gB P hd a (gA P tl hd gr a) k))) P.length (λ k μ hI hk => ?_) N 0 _ (Qkxl hl hN rfl) (Nat.zero_le _)
    (.mk (by
     have e : gB P hd a (gA P tl hd gr a) 0 = gA P tl hd gr a := by funext c; unfold gB; rw [if_neg (by lia)]
     rw [e]; exact G))
   obtain ⟨G'⟩ := hI
   rename_i w7 hp'
   rw [Z0 (by exact Qkb hl rfl) hk]
   by_cases hkn : k < P.length
   ·right
    rw [if_pos hkn]
    refine ⟨hkn, _, rfl, Wp.H ?_⟩
    exact wp_g3 hkn rfl ea hl hP G' hgl' λ hp'' G'' => Ex1.mk G''
   ·left
    rw [if_neg hkn]
    have hk' : k = P.length := by lia
    subst hk'
    refine ⟨rfl, Wp.N (Wp.N (h hp' _ ?_))⟩
    rw [gA_s, if_pos ⟨h1, h2⟩]; exact G'
 ·rw [decide_eq_false h1]
  exact Wp.N (Wp.N (h _ _ (skip λ q => h1 q.1)))
theorem Zkz {P : List (List Int)} {pi ti : Nat} {ts : Ed} (hl : P.length <= 50) (htl : ts.length <= 10) (hP : hp[pi]? = some (.lst (P.map partV))) (h7 : hp[ti]? = some (.lst (ts.map pairV))) {Q : PV -> St -> Prop}
  (h : ∀ hp' g, Gr hp hp' g P.length (gE P ts ts.length) -> Q (.obj g) ⟨fr, hp'⟩) : Wp (Zde d [.obj pi, .obj ti]) ⟨fr, hp⟩ Q E := by
 refine Wp.A1 rfl ?_
 unfold g_law_graph
 have hN : 1000 < fuel := by unfold fuel; exact Qkb Qr rfl
 generalize fuel = N at hN ⊢
 refine Wp.I (Wp.S (Wp.C (Wp.Z (Wp.L (Wp.H ?_)))))
 refine Wp.I (Wp.i (Wp.C (Wp.R (Wp.C (Wp.R (Wp.B (v := .obj pi) rfl rfl (Wp.B0 (.inl (Zg (getElem?_app hP))) (by rw [length_map]; exact Qkb hl rfl) (Wp.V ?_))))))))
 rw [length_map]
 refine Wp.X (λ k => Ex1 (λ v3 => [.obj pi, .obj ti, .obj hp.length, v3, .undef, .undef, .undef, .undef]) (λ hp' => Gr hp hp' hp.length k (λ _ => []) ∧ hp'.length = hp.length + 1 + k)) P.length (λ k μ hI hk => ?_) N 0 _ (Qkxl hl hN rfl) (Nat.zero_le _)
  (.mk ⟨⟨by simp, λ j hj => List.getElem?_append_left hj, Qr, ⟨0, Zt⟩, λ i hi => absurd hi (Nat.not_lt_zero _)⟩, by simp⟩)
 obtain ⟨GB, lenB⟩ := hI
 rename_i v3 hpB
 rw [Z0 (by exact Qkb hl rfl) hk]
 by_cases hkn : k < P.length
 ·right
  rw [if_pos hkn]
  refine ⟨hkn, _, rfl, Wp.H ?_⟩
  generalize ez : ((k : Nat) : Int) = zk
  unfold Zd1
  obtain ⟨ep, hD⟩ := GB.dct
  have hno : dHas (grV hp.length k) zk = false := by
   refine Bool.eq_false_iff.mpr λ hq => ?_
   obtain ⟨e, he, hek⟩ := any_eq_true.mp hq
   obtain ⟨a, ha, rfl⟩ := Qmm he
   have := Zn.mp ha
   have := eq_of_beq hek
   dsimp only at this
   lia
  refine Wp.I (Wp.S (Wp.B8 (Wp.A3 ⟨by simp, Wp.E1 (Wp.B (v := .obj hp.length) rfl rfl (Wp.B (v := .int zk) rfl rfl (Wp.G4 (getElem?_app hD) (by rw [Zmj]; exact Qkkb hk hl rfl) hno (Wp.N ?_))))⟩)))
  have eV : grV hp.length k ++ [(zk, .obj hpB.length)] = grV hp.length (k + 1) := by
   unfold grV
   rw [Zqv, map_append, lenB, List.map_singleton, ez, show zk.toNat = k by lia]
  try dsimp only
  rw [eV]
  refine Ex1.mk ⟨⟨?_, λ j hj => ?_, Qr, ⟨_, Zm (getElem?_app hD)⟩, λ i hi => ?_⟩, ?_⟩
  ·rw [length_set, length_append]; lia
  ·rw [List.getElem?_set_ne (by exact Qnl hj), List.getElem?_append_left (by lia)]; exact GB.old j hj
  ·by_cases e : i = k
   ·subst e
    refine Zj (by lia) ?_
    rw [<- lenB]; exact Zt
   ·exact Zj (by lia) (getElem?_app (GB.row i (by lia)))
  ·rw [length_set, length_append, length_singleton]; lia
 left
 rw [if_neg hkn]
 have hk' : k = P.length := by lia
 subst hk'
 clear hkn hk
 refine ⟨rfl, ?_⟩
 refine Wp.I (Wp.i (Wp.B (v := .obj ti) rfl rfl ?_))
 refine Wp.X (λ k => Ex4 (λ v4 v5 v6 v7 => [.obj pi, .obj ti, .obj hp.length, v3, v4, v5, v6, v7]) (λ hp' => Gr hp hp' hp.length P.length (gE P ts k))) ts.length (λ k μ hI hk => ?_) N 0 _ (Qkxl htl hN rfl) (Nat.zero_le _)
  (.mk GB)
 obtain ⟨GC⟩ := hI
 rename_i v4 v5 v6 v7 hp2
 rw [Zes (xs := ts.map pairV) (ys := ts.map pairV) (GB.get h7) (GC.get h7), List.getElem?_map]
 cases hx : ts[k]? with
 | some e =>
  right
  have hlt := (Qgl hx)
  have eD : ts.getD k (0, 0) = e := by rw [getD_eq_getElem?_getD, hx]; rfl
  obtain ⟨tl, hd⟩ := e
  refine ⟨hlt, pairV (tl, hd), rfl, Wp.F2 (Wp.H (Wp.H ?_))⟩
  unfold Zd0
  have hN' : 1000 < fuel := by unfold fuel; exact Qkb Qr rfl
  generalize fuel = N' at hN' ⊢
  have hgl : ∀ c, (gE P ts k c).length <= 900 := λ c => by
   have := Zky (P := P) (ts := ts) (c := c) k
   have : k * P.length <= 10 * 50 := Nat.mul_le_mul (Qkk hk htl) hl
   lia
  refine Wp.I (Wp.i (Wp.C (Wp.R (Wp.C (Wp.R (Wp.B (v := .obj pi) rfl rfl (Wp.B0 (.inl (Zg (GC.get hP))) (by rw [length_map]; exact Qkb hl rfl) (Wp.V ?_))))))))
  rw [length_map]
  try dsimp only
  refine Wp.X (λ a => Ex2 (λ v6 v7 => [.obj pi, .obj ti, .obj hp.length, v3, .int tl, .int hd, v6, v7]) (λ hp' => Gr hp hp' hp.length P.length (gA P tl hd (gE P ts k) a))) P.length (λ a μ hI ha => ?_) N' 0 _ (Qkxl hl hN' rfl) (Nat.zero_le _)
   (.mk (by exact GC))
  obtain ⟨GD⟩ := hI
  rename_i w6 w7 hp3
  rw [Z0 (by exact Qkb hl rfl) ha]
  by_cases han : a < P.length
  ·right
   rw [if_pos han]
   refine ⟨han, _, rfl, Wp.H ?_⟩
   exact wp_g2 han rfl (Qkb hl rfl) hP GD hgl λ hp' u7 G' => Ex2.mk G'
  ·left
   rw [if_neg han]
   have ha' : a = P.length := by lia
   subst ha'
   refine ⟨rfl, Wp.N (Ex4.mk ?_)⟩
   rw [gE_s, eD]; exact GD
 | none =>
  left
  have hk' : k = ts.length := by have := Qgn hx; lia
  subst hk'
  exact ⟨rfl, Wp.I (Wp.D3 (Wp.B (v := .obj hp.length) rfl rfl (h hp2 _ GC)))⟩
end

structure Bq (ns : List Int) (ts : Ed) (T : TSt) (e : Int -> Int) : Prop where
 order : T.order = ns
 sc : T.sc = scL ts
 np : ∀ b ∈ ns, T.np b = (cnt ts [] b : Int) + e b
 ready : T.ready = none
 passed : T.passed = 0
 fin : T.fin = 0
 tin : ∀ e ∈ ts, e.1 ∈ ns ∧ e.2 ∈ ns
theorem Bq.info {ns : List Int} {ts : Ed} {T : TSt} {e : Int -> Int} (B : Bq ns ts T e) {p : Int} (hp : p ∉ ns -> e p = 0) : ∃ ns', Bq ns' ts (infoT T p) e ∧ (∀ x, x ∈ ns' ↔ x ∈ ns ∨ x = p) ∧ (ns.Nodup -> ns'.Nodup) := by
 by_cases h : p ∈ ns
 ·have q : infoT T p = T := if_pos (by rw [B.order]; exact h)
  rw [q]
  exact ⟨ns, B, λ x => ⟨.inl, λ q => q.elim id λ q => q ▸ h⟩, id⟩
 ·have q : infoT T p = { T with order := T.order ++ [p], np := upd T.np p 0, sc := upd T.sc p [] } := if_neg (by rw [B.order]; exact h)
  rw [q]
  refine ⟨ns ++ [p], ⟨by show T.order ++ [p] = _; rw [B.order], ?_, λ b hb => ?_, B.ready, B.passed, B.fin, λ e he => ⟨mem_append_left _ (B.tin e he).1, mem_append_left _ (B.tin e he).2⟩⟩, λ x => by simp, λ hn => ?_⟩
  ·funext b
   show upd T.sc p [] b = _
   unfold upd
   split
   ·rename_i q; subst q
    exact (Zmg λ e he q => h (by rw [<- q]; exact (B.tin e he).1)).symm
   ·rw [B.sc]
  ·show upd T.np p 0 b = _
   by_cases q : b = p
   ·subst q
    rw [Zu, Zmh λ e he q => h (by rw [<- q]; exact (B.tin e he).2), hp h]; rfl
   ·rw [Z2 q]
    rcases Qma hb with hb | hb
    ·exact B.np b hb
    ·rw [mem_singleton] at hb; exact absurd hb q
  ·exact nodup_append.mpr ⟨hn, by simp, λ a ha c hc q => by rw [mem_singleton] at hc; exact h (by rw [<- hc, <- q]; exact ha)⟩
theorem Bq.edge {ns : List Int} {ts : Ed} {T : TSt} {e e' : Int -> Int} (B : Bq ns ts T e) {a p : Int} (ha : a ∈ ns) (hp : p ∉ ns -> e p = 0) (he : ∀ b, e b = e' b + if b = a then 1 else 0) :
  ∃ ns', Bq ns' (ts ++ [(p, a)]) (edgeT a T p) e' ∧ (∀ x, x ∈ ns' ↔ x ∈ ns ∨ x = p) ∧ (ns.Nodup -> ns'.Nodup) := by
 obtain ⟨ns', B', hm, hn⟩ := B.info hp
 refine ⟨ns', ⟨B'.order, ?_, λ b hb => ?_, B'.ready, B'.passed, B'.fin, λ e he => ?_⟩, hm, hn⟩
 ·funext b
  show upd (infoT T p).sc p ((infoT T p).sc p ++ [a]) b = _
  rw [Zsk]
  unfold upd
  split
  ·rename_i q; subst q
   rw [B'.sc]
   congr 1
   unfold scL; simp
  ·rename_i q
   rw [B'.sc, Zmg (ts := [(p, a)]) (λ e he q' => by rw [mem_singleton] at he; subst he; exact q q'.symm), append_nil]
 ·show (infoT T p).np b = _
  rw [B'.np b hb, Zsj, he b]
  by_cases q : b = a
  ·subst q
   have : cnt [(p, b)] [] b = 1 := by unfold cnt; simp
   rw [this, if_pos rfl]; lia
  ·rw [if_neg q, Zmh (ts := [(p, a)]) (λ e he q' => by rw [mem_singleton] at he; subst he; exact q q'.symm)]; lia
 ·rcases Qma he with he | he
  ·exact B'.tin e he
  ·rw [mem_singleton] at he; subst he
   exact ⟨(hm _).mpr (.inr rfl), (hm _).mpr (.inl ha)⟩
theorem Bq.edges {a : Int} : ∀ (ps : List Int) {ns : List Int} {ts : Ed} {T : TSt}, Bq ns ts T (λ b => if b = a then (ps.length : Int) else 0) -> a ∈ ns ->
  ∃ ns', Bq ns' (ts ++ ps.map λ p => (p, a)) (ps.foldl (edgeT a) T) (λ _ => 0) ∧ (∀ x, x ∈ ns' ↔ x ∈ ns ∨ x ∈ ps) ∧ (ns.Nodup -> ns'.Nodup)
 | [], ns, ts, T, B, ha => by
  refine ⟨ns, ?_, λ x => by simp, id⟩
  have e : (λ b : Int => if b = a then (([] : List Int).length : Int) else 0) = λ _ => 0 := by funext b; simp
  rw [e] at B
  simpa using B
 | p :: ps, ns, ts, T, B, ha => by
  obtain ⟨ns1, BB, mB, nB⟩ := B.edge (p := p) (e' := λ b => if b = a then (ps.length : Int) else 0) ha (λ h => if_neg (show ¬ p = a from λ q => h (q ▸ ha))) λ b => by
   by_cases q : b = a
   ·rw [if_pos q, if_pos q, if_pos q, length_cons]; lia
   ·rw [if_neg q, if_neg q, if_neg q]; rfl
  obtain ⟨ns2, BC, mC, nC⟩ := Bq.edges ps BB ((mB a).mpr (.inl ha))
  refine ⟨ns2, ?_, λ x => ?_, λ h => nC (nB h)⟩
  ·rw [append_assoc] at BC
   exact BC
  ·rw [mC, mB, mem_cons, or_assoc]
theorem Bt.adds {ns : List Int} {ts : Ed} {T : TSt} (B : Bt ns ts T) (a : Int) (ps : List Int) : ∃ ns', Bt ns' (ts ++ ps.map λ p => (p, a)) (addT T a ps) ∧ (∀ x, x ∈ ns' ↔ x ∈ ns ∨ x = a ∨ x ∈ ps) := by
 have BA : Bq ns ts T λ _ => 0 := ⟨B.order, B.sc, λ b hb => by rw [B.np b hb]; lia, B.ready, B.passed, B.fin, B.tin⟩
 obtain ⟨ns1, BB, mB, _⟩ := BA.info (p := a) λ _ => rfl
 have ha : a ∈ ns1 := (mB a).mpr (.inr rfl)
 have BC : Bq ns1 ts { infoT T a with np := upd (infoT T a).np a ((infoT T a).np a + (ps.length : Int)) } λ b => if b = a then (ps.length : Int) else 0 := ⟨BB.order, BB.sc, λ b hb => by
  show upd (infoT T a).np a ((infoT T a).np a + (ps.length : Int)) b = _
  by_cases q : b = a
  ·subst q; rw [Zu, BB.np b hb, if_pos rfl]; lia
  ·rw [Z2 q, BB.np b hb, if_neg q], BB.ready, BB.passed, BB.fin, BB.tin⟩
 obtain ⟨ns2, BD, mC, _⟩ := BC.edges ps ha
 refine ⟨ns2, ⟨BD.order, BD.sc, λ b hb => (BD.np b hb).trans (Int.add_zero _), BD.ready, BD.passed, BD.fin, BD.tin⟩, λ x => ?_⟩
 rw [mC, mB, or_assoc]
noncomputable def grT (m : Nat) (gr : Nat -> List Int) : Ed := (List.range m).flatMap λ i => (gr i).map λ a => (a, (i : Int))
theorem Zk0 {m : Nat} {gr : Nat -> List Int} : grT (m + 1) gr = grT m gr ++ (gr m).map λ a => (a, (m : Int)) := by
 unfold grT
 rw [range_succ, flatMap_append]; simp
theorem Zmk {m : Nat} {gr : Nat -> List Int} {a b : Int} : (a, b) ∈ grT m gr ↔ ∃ i, i < m ∧ b = (i : Int) ∧ a ∈ gr i := by
 unfold grT
 rw [List.mem_flatMap]
 constructor
 ·rintro ⟨i, hi, h⟩
  obtain ⟨x, hx, e⟩ := Qmm h
  cases e
  exact ⟨i, mem_range.mp hi, rfl, hx⟩
 ·rintro ⟨i, hi, rfl, h⟩
  exact ⟨i, mem_range.mpr hi, mem_map.mpr ⟨a, h, rfl⟩⟩
theorem Zml {m L : Nat} {gr : Nat -> List Int} (h : ∀ i, i < m -> (gr i).length <= L) : (grT m gr).length <= m * L := by
 induction m with
 | zero => simp [grT]
 | succ m ih =>
  have h1 := ih λ i hi => h i (Qll hi (Qs Qr))
  have h2 := h m (Qll Qr Qr)
  rw [Zk0, length_append, length_map, Nat.succ_mul]; lia
section
variable {hp : List MO} {fr : List PV} {E : Value -> St -> Prop}
theorem Wp.I1 {f : PM Nat} {asg : PV -> PM Unit} {body : PM MF} {n : Nat} {μ : St} {Q : MF -> St -> Prop} (h : Wp f μ (λ i μ' => Wp (Mine.forIx (getIm i μ') asg body n 0) μ' Q E) E) : Wp (Mine.sItems f asg body n) μ Q E :=
 Wp.C (h.mono (λ i μ' h => Wp.E0 rfl h) λ _ _ e => e)
theorem Wp.I4 {fo : PM PV} {μ : St} {Q : Nat -> St -> Prop} (h : Wp fo μ (λ x μ1 => ∃ i es ep, x = .obj i ∧ μ1.hp[i]? = some (.dct es ep) ∧ Q i μ1) E) : Wp (Mine.mItems fo (Pure.pure [])) μ Q E :=
 Wp.C (h.mono (λ x μ1 hh => by
  obtain ⟨i, es, ep, e, e2, h⟩ := hh
  subst e
  obtain ⟨fr, hp⟩ := μ1
  exact Wp.C (Wp.B3 e2 (Wp.C (Wp.L (Wp.C (Wp.B3 e2 (Wp.L h)))))) ) λ _ _ e => e)
theorem Zqw {i k : Nat} {es : List (Int × PV)} {ep : Nat} {μ0 μ : St} (h₀ : μ0.hp[i]? = some (.dct es ep)) (h : μ.hp[i]? = some (.dct es ep)) : getIm i μ0 k μ = some ((es[k]?).map λ e => .tup [.int e.1, e.2]) := by
 unfold getIm
 rw [h₀, h]
 exact if_pos ⟨rfl, rfl⟩
inductive Ad3 (m o g : Nat) (gr : Nat -> List Int) (hp : List MO) (k : Nat) : St -> Prop
 | mk {v2 v3 : PV} {hp' : List MO} {T : TSt} {ly : Lay} {ns : List Int} (S : SAt d hp' o T ly) (B : Bt ns (grT k gr) T) (h1 : ∀ x ∈ ns, 0 <= x ∧ x < m) (h2 : ∀ x : Int, 0 <= x -> x < k -> x ∈ ns) (W : New hp hp' o T ly) : Ad3 m o g gr hp k ⟨[.obj o, .obj g, v2, v3], hp'⟩
theorem Zsp {g m : Nat} {gr : Nat -> List Int} {hq : List MO} (G : Gr hq hp g m gr) (hm : m <= 10) (hgr : ∀ i, i < m -> (gr i).length <= 100 ∧ ∀ a ∈ gr i, 0 <= a ∧ a < m) {Q : PV -> St -> Prop}
  (h : ∀ hp' o ns T ly, SAt d hp' o T ly -> Bt ns (grT m gr) T -> (∀ a, a ∈ ns ↔ 0 <= a ∧ a < m) -> New hp hp' o T ly -> Q (.obj o) ⟨fr, hp'⟩) :
  Wp (newM d.TS false (Zeo d) [.obj g]) ⟨fr, hp⟩ Q E := by
 unfold newM
 refine Wp.C (Wp.Z (Wp.C (Wp.Z (Wp.C (Wp.A1 rfl ?_)))))
 have hl1 : (hp ++ [MO.ns []]).length = hp.length + 1 := by simp
 rw [hl1]
 have e1 : ((hp ++ [MO.ns []]) ++ [mkInst d.TS false hp.length])[hp.length + 1]? = some (.ins d.TS hp.length) := by rw [<- hl1]; simp [mkInst]
 have e2 : ((hp ++ [MO.ns []]) ++ [mkInst d.TS false hp.length])[hp.length]? = some (.ns []) := by simp
 have len1 : ((hp ++ [MO.ns []]) ++ [mkInst d.TS false hp.length]).length = hp.length + 2 := by simp
 have old1 : ∀ i, i < hp.length -> ((hp ++ [MO.ns []]) ++ [mkInst d.TS false hp.length])[i]? = hp[i]? := λ i hi => by
  rw [List.getElem?_append_left (by simp; lia), List.getElem?_append_left hi]
 generalize ((hp ++ [MO.ns []]) ++ [mkInst d.TS false hp.length]) = h1 at e1 e2 len1 old1 ⊢
 unfold Zen
 refine Wp.I (Wp.S (Wp.C (Wp.Z (Wp.L (Wp.B2 (Wp.B rfl rfl (Wp.A0 (getElem?_app e1) (getElem?_app e2) (by simp) ?_)))))))
 rw [put_1, len1]
 have a1 : ((h1 ++ [MO.dct [] 0]).set hp.length (.ns [(("_node2info" : Str), .obj (hp.length + 2))]))[hp.length + 1]? = some (.ins d.TS hp.length) := Zj (Qnk Qr) (getElem?_app e1)
 have a2 : ((h1 ++ [MO.dct [] 0]).set hp.length (.ns [(("_node2info" : Str), .obj (hp.length + 2))]))[hp.length]? = some (.ns [(("_node2info" : Str), .obj (hp.length + 2))]) := Zm (getElem?_app e2)
 have a3 : ((h1 ++ [MO.dct [] 0]).set hp.length (.ns [(("_node2info" : Str), .obj (hp.length + 2))]))[hp.length + 2]? = some (.dct [] 0) := Zj (Qnk (Qs Qr)) (by rw [<- len1]; simp)
 have a4 : ((h1 ++ [MO.dct [] 0]).set hp.length (.ns [(("_node2info" : Str), .obj (hp.length + 2))])).length = hp.length + 3 := by simp [len1]
 have a5 : ∀ i, i < hp.length -> ((h1 ++ [MO.dct [] 0]).set hp.length (.ns [(("_node2info" : Str), .obj (hp.length + 2))]))[i]? = hp[i]? := λ i hi => by
  rw [List.getElem?_set_ne (by exact Qnl hi), List.getElem?_append_left (by exact Qle (Nat.lt_add_right 2 hi) len1)]; exact old1 i hi
 generalize ((h1 ++ [MO.dct [] 0]).set hp.length (.ns [(("_node2info" : Str), .obj (hp.length + 2))])) = h2 at a1 a2 a3 a4 a5 ⊢
 refine Wp.I (Wp.S (Wp.L (Wp.B2 (Wp.B rfl rfl (Wp.A0 a1 a2 (by simp) ?_)))))
 rw [put_2]
 have b1 := Zj (v := MO.ns [(("_node2info" : Str), .obj (hp.length + 2)), (("_ready_nodes" : Str), .none)]) (show hp.length ≠ hp.length + 1 from Qnk Qr) a1
 have b2 := Zm (v := MO.ns [(("_node2info" : Str), .obj (hp.length + 2)), (("_ready_nodes" : Str), .none)]) a2
 refine Wp.I (Wp.S (Wp.L (Wp.B2 (Wp.B rfl rfl (Wp.A0 b1 b2 (by simp) ?_)))))
 rw [put_3]
 have c1 := Zj (v := MO.ns [(("_node2info" : Str), .obj (hp.length + 2)), (("_ready_nodes" : Str), .none), (("_npassedout" : Str), .int 0)]) (show hp.length ≠ hp.length + 1 from Qnk Qr) b1
 have c2 := Zm (v := MO.ns [(("_node2info" : Str), .obj (hp.length + 2)), (("_ready_nodes" : Str), .none), (("_npassedout" : Str), .int 0)]) b2
 refine Wp.I (Wp.S (Wp.L (Wp.B2 (Wp.B rfl rfl (Wp.A0 c1 c2 (by simp) ?_)))))
 rw [put_4]
 have S0 : SAt d ((h2.set hp.length (.ns [(("_node2info" : Str), .obj (hp.length + 2)), (("_ready_nodes" : Str), .none)])).set hp.length (.ns [(("_node2info" : Str), .obj (hp.length + 2)), (("_ready_nodes" : Str), .none), (("_npassedout" : Str), .int 0)]) |>.set hp.length (.ns [(("_node2info" : Str), .obj (hp.length + 2)), (("_ready_nodes" : Str), .none), (("_npassedout" : Str), .int 0), (("_nfinished" : Str), .int 0)])) (hp.length + 1) T0 { dn := hp.length, n2i := hp.length + 2, rn := 0, ep := 0, li := λ _ => 0, ls := λ _ => 0, dx := λ _ => 0 } := by
  refine ⟨?_, ?_, ?_, (λ xs e => nomatch e), (λ a ha => nomatch ha), (λ a ha => nomatch ha), (λ a ha => nomatch ha), (λ hr => absurd rfl hr), nodup_nil⟩
  ·exact Zj (by show hp.length ≠ hp.length + 1; exact Qnk Qr) c1
  ·exact Zm c2
  ·show (List.set _ _ _)[hp.length + 2]? = some (MO.dct [] 0)
   exact Zj (Qnk (Qs Qr)) (Zj (Qnk (Qs Qr)) (Zj (Qnk (Qs Qr)) a3))
 have len0 : hp.length <= (((h2.set hp.length (.ns [(("_node2info" : Str), .obj (hp.length + 2)), (("_ready_nodes" : Str), .none)])).set hp.length (.ns [(("_node2info" : Str), .obj (hp.length + 2)), (("_ready_nodes" : Str), .none), (("_npassedout" : Str), .int 0)])).set hp.length (.ns [(("_node2info" : Str), .obj (hp.length + 2)), (("_ready_nodes" : Str), .none), (("_npassedout" : Str), .int 0), (("_nfinished" : Str), .int 0)])).length := by
  simp only [length_set]; lia
 have old0 : ∀ i, i < hp.length -> (((h2.set hp.length (.ns [(("_node2info" : Str), .obj (hp.length + 2)), (("_ready_nodes" : Str), .none)])).set hp.length (.ns [(("_node2info" : Str), .obj (hp.length + 2)), (("_ready_nodes" : Str), .none), (("_npassedout" : Str), .int 0)])).set hp.length (.ns [(("_node2info" : Str), .obj (hp.length + 2)), (("_ready_nodes" : Str), .none), (("_npassedout" : Str), .int 0), (("_nfinished" : Str), .int 0)]))[i]? = hp[i]? := λ i hi => by
  rw [List.getElem?_set_ne (by exact Qnl hi), List.getElem?_set_ne (by exact Qnl hi), List.getElem?_set_ne (by exact Qnl hi)]
  exact a5 i hi
 generalize (((h2.set hp.length (.ns [(("_node2info" : Str), .obj (hp.length + 2)), (("_ready_nodes" : Str), .none)])).set hp.length (.ns [(("_node2info" : Str), .obj (hp.length + 2)), (("_ready_nodes" : Str), .none), (("_npassedout" : Str), .int 0)])).set hp.length (.ns [(("_node2info" : Str), .obj (hp.length + 2)), (("_ready_nodes" : Str), .none), (("_npassedout" : Str), .int 0), (("_nfinished" : Str), .int 0)])) = h3 at S0 len0 old0 ⊢
 have W0 : New hp h3 (hp.length + 1) T0 { dn := hp.length, n2i := hp.length + 2, rn := 0, ep := 0, li := λ _ => 0, ls := λ _ => 0, dx := λ _ => 0 } := by
  refine ⟨len0, old0, ?_⟩
  rintro i (rfl | rfl | rfl | ⟨hr, rfl⟩ | ⟨a, ha, _⟩)
  ·exact Qs Qr
  ·exact Qr
  ·show hp.length <= hp.length + 2; exact Qs (Qs Qr)
  ·exact absurd rfl hr
  ·exact nomatch ha
 generalize ({ dn := hp.length, n2i := hp.length + 2, rn := 0, ep := 0, li := λ _ => 0, ls := λ _ => 0, dx := λ _ => 0 } : Lay) = ly0 at S0 W0
 clear a1 a2 a3 a4 a5 b1 b2 c1 c2
 refine Wp.I (Wp.A2 (Wp.Y (Wp.B rfl rfl (Wp.L (Wp.A7 (x := .obj g) rfl ?_)))))
 obtain ⟨ep, hD⟩ := G.dct
 have lg := (Qgl hD)
 have hN : 1000 < fuel := by unfold fuel; exact Qkb Qr rfl
 refine Wp.I (Wp.I1 (Wp.I4 (Wp.B (v := .obj g) rfl rfl ⟨g, _, ep, rfl, (old0 g lg).trans hD, ?_⟩)))
 generalize fuel = N at hN ⊢
 refine Wp.X (Ad3 m (hp.length + 1) g gr hp) m (λ k μ hI hk => ?_) N 0 _ (Qkxl hm hN rfl) (Nat.zero_le _)
  (.mk S0 Bt.nil (λ x q => (nomatch q)) (λ x q1 q2 => absurd (Int.lt_of_le_of_lt q1 q2) (Int.lt_irrefl 0)) W0)
 obtain ⟨S, B, hin, hcov, W⟩ := hI
 rename_i v2 v3 hp' T ly ns
 rw [Zqw ((old0 g lg).trans hD) ((W.old g lg).trans hD)]
 by_cases hkm : k < m
 ·right
  have hes : (grV g m)[k]? = some ((k : Int), .obj (g + 1 + k)) := by
   unfold grV upI
   rw [map_map, List.getElem?_map, List.getElem?_range hkm]
   simp
  rw [hes]
  refine ⟨hkm, .tup [.int k, .obj (g + 1 + k)], rfl, Wp.F2 (Wp.H (Wp.H ?_))⟩
  unfold Zfi
  have hrow := G.row k hkm
  have lrow := (Qgl hrow)
  have hgk := hgr k hkm
  generalize ez : ((k : Nat) : Int) = z
  have hol : T.order.length <= 10 := by
   have := Zp (ys := upI m) S.ond λ a ha => by
    rw [B.order] at ha
    exact Zn.mpr (hin a ha)
   unfold upI at this
   rw [length_map, length_range] at this
   exact Qkk this hm
  refine Wp.I (Wp.A8 (Wp.B5 (Wp.B (v := .obj (hp.length + 1)) rfl rfl (Wp.C3 S (by kernel_rfl) (Wp.B9 (Wp.B (v := .int z) rfl rfl (Wp.argS (Wp.B (v := .obj (g + 1 + k)) rfl rfl ⟨_, Zg ((W.old _ lrow).trans hrow), by rw [length_map]; lia, Zs8 S z (gr k) B.ready (by lia) (λ q => ?_) λ hp'' ly' S' g' => ?_⟩))))))))
  ·have h1 := B.scLen q
   have h2 := Zml (m := k) (L := 100) (gr := gr) λ i hi => (hgr i (Qll hi hk)).1
   have : k * 100 <= 10 * 100 := Nat.mul_le_mul (Qkk hk hm) Qr
   exact Qkkk h1 h2 this
  ·obtain ⟨ns', B', m'⟩ := B.adds z (gr k)
   have B'' : Bt ns' (grT (k + 1) gr) (addT T z (gr k)) := by rw [Zk0, ez]; exact B'
   refine Wp.N (.mk S' B'' (λ x hx => ?_) (λ x q1 q2 => ?_) (W.grow g'))
   ·rcases (m' x).mp hx with q | q | q
    ·exact hin x q
    ·lia
    ·exact hgk.2 x q
   ·rw [m']
    by_cases q : x < k
    ·exact .inl (hcov x q1 q)
    ·exact .inr (.inl (by lia))
 ·left
  have hk' : k = m := by lia
  subst hk'
  have hes : (grV g k)[k]? = none := by rw [List.getElem?_eq_none_iff, Zmj]; exact Qr
  rw [hes]
  refine ⟨rfl, Wp.N (Wp.N ?_)⟩
  try dsimp only
  exact Wp.L (h hp' _ ns T ly S B (λ a => ⟨hin a, λ q => hcov a q.1 q.2⟩) W)
end

def KSorts : Prop := ∀ n : Nat, 2 <= n -> n < 64 -> ∀ key : Nat -> Int, (kRun (λ i j => decide (key i < key j)) (kas_sort n)).size = n ∧ (kRun (λ i j => decide (key i < key j)) (kas_sort n)).toList.Perm (List.range n) ∧
 ∀ i j, i <= j -> j < n -> key ((kRun (λ i j => decide (key i < key j)) (kas_sort n)).getD i 0) <= key ((kRun (λ i j => decide (key i < key j)) (kas_sort n)).getD j 0)
theorem Zpc (prog : Program) (w : World) (s : Shared) : KSorts := λ _ h2 h64 key => Zo1 prog w s h2 h64 key rfl
theorem Zdv {α : Type} {r : α -> α -> Prop} (as : ∀ a b, r a b -> ¬ r b a) : ∀ {xs ys : List α}, xs.Pairwise r -> ys.Pairwise r -> (∀ a, a ∈ xs ↔ a ∈ ys) -> xs = ys
 | [], [], _, _, _ => rfl
 | [], y :: ys, _, _, h => by have := (h y).mpr mem_cons_self; cases this
 | x :: xs, [], _, _, h => by have := (h x).mp mem_cons_self; cases this
 | x :: xs, y :: ys, h1, h2, h => by
  rw [List.pairwise_cons] at h1 h2
  have ir : ∀ a, ¬ r a a := λ a q => as a a q q
  have e : x = y := by
   rcases Qmc ((h x).mp mem_cons_self) with q | q
   ·exact q
   ·rcases Qmc ((h y).mpr mem_cons_self) with q2 | q2
    ·exact q2.symm
    ·exact absurd (h2.1 x q) (as _ _ (h1.1 y q2))
  subst e
  congr 1
  refine Zdv as h1.2 h2.2 λ a => ⟨λ q => ?_, λ q => ?_⟩
  ·rcases Qmc ((h a).mp (mem_cons_of_mem _ q)) with q2 | q2
   ·subst q2; exact absurd (h1.1 _ q) (ir _)
   ·exact q2
  ·rcases Qmc ((h a).mpr (mem_cons_of_mem _ q)) with q2 | q2
   ·subst q2; exact absurd (h2.1 _ q) (ir _)
   ·exact q2
noncomputable abbrev hdI (d : List Int) : Int := d.headD 0
noncomputable abbrev HLt (d e : List Int) : Prop := hdI d < hdI e
theorem Ztf (d e : List Int) (h : HLt d e) : ¬ HLt e d := Int.not_lt.mpr (Int.le_of_lt h)
theorem Zgt : ∀ d : List Int, ltL d d = false
 | [] => rfl
 | x :: d => by rw [ltL_s, if_pos rfl]; exact Zgt d
theorem Ztg {d e : List Int} (h1 : d ≠ []) (h2 : e ≠ []) (h : hdI d ≠ hdI e) : ltL d e = decide (hdI d < hdI e) := by
 cases d with
 | nil => exact absurd rfl h1
 | cons x d =>
  cases e with
  | nil => exact absurd rfl h2
  | cons y e => rw [ltL_s, if_neg (show ¬ x = y from h)]; rfl
theorem KV.congr {α : Type} {P : α -> Prop} {n : Nat} {f g : Nat -> Nat -> Bool} (h : ∀ i j, i < n -> j < n -> f i j = g i j) : ∀ {t : KasT α}, KV n t P -> kRun f t = kRun g t
 | .ret _, _ => rfl
 | .ask i j k, q => by
  show kRun f (k (f i j)) = kRun g (k (g i j))
  rw [h i j q.1.1 q.1.2]
  exact KV.congr h (q.2 _)
theorem Zpd (K : KSorts) {ds : List (List Int)} (h64 : ds.length < 64) (hne : ∀ d ∈ ds, d ≠ []) (hd : (ds.map hdI).Nodup) : ∃ es : List (List Int), sortLL ds (ds.map partV) = es.map partV ∧ es.Perm ds ∧ es.Pairwise HLt := by
 have eX : ∀ p : Array Nat, Lt ds.length p ∨ p.size = 0 -> p.toList.map (λ i => (ds.map partV).getD i .none) = (p.toList.map λ i => ds.getD i []).map partV := λ p hp => by
  rw [map_map]
  refine map_congr_left λ i hi => ?_
  have hlt : i < ds.length := by
   rcases hp with hp | hp
   ·obtain ⟨j, hj, e⟩ := List.getElem_of_mem hi
    have := hp j
    rw [Array.length_toList] at hj
    rw [show p.getD j 0 = p[j] by simp [Array.getD, hj]] at this
    rw [<- e]; simpa using this
   ·have : p.toList = [] := List.length_eq_zero_iff.mp (by rw [Array.length_toList]; exact hp)
    rw [this] at hi; cases hi
  show (ds.map partV).getD i .none = partV (ds.getD i [])
  rw [getD_eq_getElem?_getD, getD_eq_getElem?_getD, List.getElem?_map, List.getElem?_eq_getElem hlt]; rfl
 have self : (List.range ds.length).map (λ i => ds.getD i []) = ds := by
  refine ext_getElem (by simp) λ i h1 h2 => ?_
  rw [getElem_map, List.getElem_range, getD_eq_getElem?_getD, List.getElem?_eq_getElem h2]; rfl
 unfold sortLL
 rw [length_map]
 by_cases h2 : ds.length < 2
 ·rw [Zl7 _ h2]
  refine ⟨ds, ?_, List.Perm.refl _, ?_⟩
  ·rw [eX _ (by
    by_cases q : 0 < ds.length
    ·exact .inl (Zjk q)
    ·exact .inr (by rw [show ds.length = 0 by lia]; rfl))]
   rw [show (List.toArray (List.range ds.length)).toList = List.range ds.length from rfl, self]
  ·rw [List.pairwise_iff_getElem]
   exact λ i j hi hj hij => by lia
 ·have hn : 0 < ds.length := by lia
  have hk : kRun (ansL ds) (kas_sort ds.length) = kRun (λ i j => decide (hdI (ds.getD i []) < hdI (ds.getD j []))) (kas_sort ds.length) := (Zdg hn).congr λ i j hi hj => by
   unfold ansL
   by_cases e : i = j
   ·subst e; rw [Zgt, decide_eq_false (Int.lt_irrefl _)]
   ·have at' : ∀ k, k < ds.length -> ds.getD k [] ∈ ds := λ k hk => by
     rw [getD_eq_getElem?_getD, List.getElem?_eq_getElem hk]; exact getElem_mem hk
    refine Ztg (hne _ (at' i hi)) (hne _ (at' j hj)) λ q => e ?_
    have h1 : i < (ds.map hdI).length := by rw [length_map]; exact hi
    have h2 : j < (ds.map hdI).length := by rw [length_map]; exact hj
    refine (getElem_inj (h₀ := h1) (h₁ := h2) hd).mp ?_
    rw [getElem_map, getElem_map]
    rw [getD_eq_getElem?_getD, getD_eq_getElem?_getD, List.getElem?_eq_getElem hi, List.getElem?_eq_getElem hj] at q
    exact q
  obtain ⟨k1, k2, k3⟩ := K ds.length (by lia) h64 λ i => hdI (ds.getD i [])
  rw [<- hk] at k1 k2 k3
  have hl := (Zdg hn).run (ansL ds)
  have hp : ((kRun (ansL ds) (kas_sort ds.length)).toList.map λ i => ds.getD i []).Perm ds := by
   have := k2.map λ i => ds.getD i []
   rw [self] at this; exact this
  refine ⟨_, eX _ (.inl hl), hp, ?_⟩
  have nd : ((((kRun (ansL ds) (kas_sort ds.length)).toList.map λ i => ds.getD i [])).map hdI).Nodup := (hp.map hdI).nodup_iff.mpr hd
  rw [List.pairwise_iff_getElem]
  intro i j hi hj hij
  have hi' : i < (kRun (ansL ds) (kas_sort ds.length)).size := by simpa using hi
  have hj' : j < (kRun (ansL ds) (kas_sort ds.length)).size := by simpa using hj
  have := k3 i j (Qlk hij Qr) (Qle hj' k1.symm)
  rw [show (kRun (ansL ds) (kas_sort ds.length)).getD i 0 = (kRun (ansL ds) (kas_sort ds.length))[i] by simp [Array.getD, hi'], show (kRun (ansL ds) (kas_sort ds.length)).getD j 0 = (kRun (ansL ds) (kas_sort ds.length))[j] by simp [Array.getD, hj']] at this
  have e : ∀ k (hk : k < ((kRun (ansL ds) (kas_sort ds.length)).toList.map λ i => ds.getD i []).length) (hk' : k < (kRun (ansL ds) (kas_sort ds.length)).size), ((kRun (ansL ds) (kas_sort ds.length)).toList.map λ i => ds.getD i [])[k] = ds.getD (kRun (ansL ds) (kas_sort ds.length))[k] [] := λ k hk hk' => by rw [getElem_map, Array.getElem_toList]
  rw [<- e i hi hi', <- e j hj hj'] at this
  refine Int.lt_iff_le_and_ne.mpr ⟨this, λ q => absurd ?_ (Nat.ne_of_lt hij)⟩
  refine (getElem_inj (h₀ := by rw [length_map]; exact hi) (h₁ := by rw [length_map]; exact hj) nd).mp ?_
  rw [getElem_map (f := hdI), getElem_map (f := hdI)]
  exact q

noncomputable abbrev pa (P : List (List Int)) (a : Int) : List Int := P.getD a.toNat []
theorem Zth {P : List (List Int)} {hd x : Int} {a k c : Nat} {gr : Nat -> List Int} : x ∈ gB P hd a gr k c ↔ x ∈ gr c ∨ (c < k ∧ hd ∈ P.getD c []) ∧ x = (a : Int) := by
 unfold gB
 split
 ·rename_i h
  rw [mem_append, mem_singleton]
  exact ⟨λ q => q.imp id λ q => ⟨h, q⟩, λ q => q.imp id And.right⟩
 ·rename_i h
  exact ⟨.inl, λ q => q.elim id λ q => absurd q.1 h⟩
theorem Zpe {P : List (List Int)} {tl hd x : Int} {c : Nat} {gr : Nat -> List Int} : ∀ k, x ∈ gA P tl hd gr k c ↔ x ∈ gr c ∨ ∃ a, a < k ∧ (tl ∈ P.getD a [] ∧ hd ∉ P.getD a []) ∧ (c < P.length ∧ hd ∈ P.getD c []) ∧ x = (a : Int)
 | 0 => ⟨.inl, λ q => q.elim id λ ⟨a, h, _⟩ => absurd h (Nat.not_lt_zero _)⟩
 | k + 1 => by
  have ih := Zpe (P := P) (tl := tl) (hd := hd) (x := x) (c := c) (gr := gr) k
  rw [gA_s]
  split
  ·rename_i h
   rw [Zth, ih]
   constructor
   ·rintro ((q | ⟨a, q1, q2⟩) | q)
    ·exact .inl q
    ·exact .inr ⟨a, Qll q1 (Qs Qr), q2⟩
    ·exact .inr ⟨k, Nat.lt_succ_self _, h, q⟩
   ·rintro (q | ⟨a, q1, q2, q3⟩)
    ·exact .inl (.inl q)
    ·by_cases e : a = k
     ·subst e; exact .inr q3
     ·exact .inl (.inr ⟨a, by lia, q2, q3⟩)
  ·rename_i h
   rw [ih]
   constructor
   ·rintro (q | ⟨a, q1, q2⟩)
    ·exact .inl q
    ·exact .inr ⟨a, Qll q1 (Qs Qr), q2⟩
   ·rintro (q | ⟨a, q1, q2, q3⟩)
    ·exact .inl q
    ·by_cases e : a = k
     ·subst e; exact absurd q2 h
     ·exact .inr ⟨a, by lia, q2, q3⟩
theorem Zgu {P : List (List Int)} {ts : Ed} {x : Int} {c : Nat} : ∀ k, x ∈ gE P ts k c ↔ ∃ j, j < k ∧ ∃ a, a < P.length ∧ ((ts.getD j (0, 0)).1 ∈ P.getD a [] ∧ (ts.getD j (0, 0)).2 ∉ P.getD a []) ∧ (c < P.length ∧ (ts.getD j (0, 0)).2 ∈ P.getD c []) ∧ x = (a : Int)
 | 0 => ⟨λ q => (nomatch q), λ ⟨j, h, _⟩ => absurd h (Nat.not_lt_zero _)⟩
 | k + 1 => by
  rw [gE_s, Zpe, Zgu k]
  constructor
  ·rintro (⟨j, q1, q2⟩ | q)
   ·exact ⟨j, Qll q1 (Qs Qr), q2⟩
   ·exact ⟨k, Nat.lt_succ_self _, q⟩
  ·rintro ⟨j, q1, q2⟩
   by_cases e : j = k
   ·subst e; exact .inr q2
   ·exact .inl ⟨j, by lia, q2⟩
noncomputable def qT (P : List (List Int)) (ts : Ed) : Ed := grT P.length (gE P ts ts.length)
theorem Zdi {P : List (List Int)} {ts : Ed} {a b : Int} : (a, b) ∈ qT P ts ↔ ∃ e ∈ ts, a ∈ upI P.length ∧ b ∈ upI P.length ∧ e.1 ∈ pa P a ∧ e.2 ∉ pa P a ∧ e.2 ∈ pa P b := by
 unfold qT
 rw [Zmk]
 constructor
 ·rintro ⟨i, hi, rfl, h⟩
  obtain ⟨j, hj, x, hx, ⟨h1, h2⟩, ⟨_, h3⟩, rfl⟩ := (Zgu _).mp h
  have e : ts.getD j (0, 0) = ts[j] := by rw [getD_eq_getElem?_getD, List.getElem?_eq_getElem hj]; rfl
  rw [e] at h1 h2 h3
  exact ⟨ts[j], getElem_mem hj, Zn.mpr (⟨Int.natCast_nonneg _, Qcl hx⟩), Zn.mpr (⟨Int.natCast_nonneg _, Qcl hi⟩), h1, h2, h3⟩
 ·rintro ⟨e, he, ha, hb, h1, h2, h3⟩
  rw [Zn] at ha hb
  obtain ⟨j, hj, rfl⟩ := List.getElem_of_mem he
  have e : ts.getD j (0, 0) = ts[j] := by rw [getD_eq_getElem?_getD, List.getElem?_eq_getElem hj]; rfl
  refine ⟨b.toNat, Qtl hb.1 hb.2, by lia, (Zgu _).mpr ⟨j, hj, a.toNat, Qtl ha.1 ha.2, ?_, ⟨by lia, ?_⟩, by lia⟩⟩
  ·rw [e]; exact ⟨h1, h2⟩
  ·rw [e]; exact h3
theorem Zc7 (n : Nat) : (upI n).Nodup := by
 unfold List.Nodup upI
 rw [pairwise_map]
 exact nodup_range.imp λ h e => h (by lia)
theorem Zak (n : Nat) : (upI n).length = n := by unfold upI; simp
theorem Zsq (P : List (List Int)) : (upI P.length).map (pa P) = P := by
 refine ext_getElem (by rw [length_map, Zak]) λ i h1 h2 => ?_
 have e : (upI P.length)[i]'(by rw [Zak]; exact h2) = (i : Int) := by simp [upI]
 rw [getElem_map, e]
 show P.getD (Int.toNat (i : Int)) [] = _
 rw [Int.toNat_natCast, getD_eq_getElem?_getD, List.getElem?_eq_getElem h2]; rfl
theorem Zti {m : Nat} {a : Int} (h : a ∈ upI m) : a.toNat < m := by have := Zn.mp h; exact Qtl this.1 this.2
theorem Zk1 {m : Nat} {a : Int} (h : a ∈ upI m) : a = (a.toNat : Int) := by have := Zn.mp h; exact (Qtn this.1).symm
theorem Zhe {P : List (List Int)} {a : Int} (h : a ∈ upI P.length) : (P.map partV)[a.toNat]? = some (partV (pa P a)) := by
 have := Zti h
 rw [List.getElem?_map, List.getElem?_eq_getElem this]
 show _ = some (partV (P.getD a.toNat []))
 rw [getD_eq_getElem?_getD, List.getElem?_eq_getElem this]; rfl
structure Pt (n : Nat) (ts : Ed) (P : List (List Int)) : Prop where
 perm : P.flatten.Perm (upI n)
 ne : ∀ p ∈ P, p ≠ []
 srt : ∀ p ∈ P, p.Pairwise (· < ·)
 con : ∀ p ∈ P, ∀ a ∈ p, ∀ b ∈ p, a = b ∨ Rc ts a b ∧ Rc ts b a
section
variable {n : Nat} {ts : Ed} {P : List (List Int)}
theorem Zag {u : Int} (hu : u ∈ upI P.length) : pa P u ∈ P := by
 rw [Zn] at hu
 show P.getD u.toNat [] ∈ P
 rw [getD_eq_getElem?_getD, List.getElem?_eq_getElem (by lia)]
 exact getElem_mem (by lia)
theorem Pt.inN (H : Pt n ts P) {u x : Int} (hu : u ∈ upI P.length) (hx : x ∈ pa P u) : x ∈ upI n := H.perm.mem_iff.mp (List.mem_flatten.mpr ⟨_, Zag hu, hx⟩)
theorem Pt.find (H : Pt n ts P) {x : Int} (hx : x ∈ upI n) : ∃ u, u ∈ upI P.length ∧ x ∈ pa P u := by
 obtain ⟨p, hp, h⟩ := List.mem_flatten.mp (H.perm.mem_iff.mpr hx)
 obtain ⟨i, hi, rfl⟩ := List.getElem_of_mem hp
 refine ⟨i, Zn.mpr (by lia), ?_⟩
 show x ∈ P.getD (Int.toNat (i : Int)) []
 rw [Int.toNat_natCast, getD_eq_getElem?_getD, List.getElem?_eq_getElem hi]; exact h
theorem Pt.uniq (H : Pt n ts P) {u v x : Int} (hu : u ∈ upI P.length) (hv : v ∈ upI P.length) (h1 : x ∈ pa P u) (h2 : x ∈ pa P v) : u = v := by
 have nd : P.flatten.Nodup := H.perm.nodup_iff.mpr (Zc7 n)
 have hd := (List.pairwise_flatten.mp nd).2
 rw [List.pairwise_iff_getElem] at hd
 rw [Zn] at hu hv
 have at' : ∀ w : Int, 0 <= w ∧ w < P.length -> x ∈ pa P w -> ∃ hw : w.toNat < P.length, x ∈ P[w.toNat] := λ w hw h => by
  have q : w.toNat < P.length := Qtl hw.1 hw.2
  refine ⟨q, ?_⟩
  have h : x ∈ P.getD w.toNat [] := h
  rw [getD_eq_getElem?_getD, List.getElem?_eq_getElem q] at h
  exact h
 obtain ⟨q1, q2⟩ := at' u hu h1
 obtain ⟨q3, q4⟩ := at' v hv h2
 rcases Nat.lt_trichotomy u.toNat v.toNat with q | q | q
 ·exact absurd rfl (hd _ _ q1 q3 q x q2 x q4)
 ·exact (Qtn hu.1).symm.trans ((Qcg q).trans (Qtn hv.1))
 ·exact absurd rfl (hd _ _ q3 q1 q x q4 x q2)
theorem Pt.in1 (H : Pt n ts P) {u x y : Int} (hu : u ∈ upI P.length) (h1 : x ∈ pa P u) (h2 : y ∈ pa P u) : x = y ∨ Rc ts x y := (H.con _ (Zag hu) x h1 y h2).imp id And.left
theorem Pt.lift (H : Pt n ts P) (tin : ∀ e ∈ ts, e.1 ∈ upI n ∧ e.2 ∈ upI n) {x y : Int} (w : Rc ts x y) : ∀ {u v : Int}, u ∈ upI P.length -> v ∈ upI P.length -> x ∈ pa P u -> y ∈ pa P v -> u = v ∨ Rc (qT P ts) u v := by
 have step : ∀ {b c w v : Int}, (b, c) ∈ ts -> w ∈ upI P.length -> v ∈ upI P.length -> b ∈ pa P w -> c ∈ pa P v -> w = v ∨ (w, v) ∈ qT P ts := λ {b c w v} e hw hv h1 h2 => by
  by_cases q : w = v
  ·exact .inl q
  ·exact .inr (Zdi.mpr ⟨_, e, hw, hv, h1, λ h => q (H.uniq hw hv h h2), h2⟩)
 induction w with
 | one e => exact λ hu hv h1 h2 => (step e hu hv h1 h2).imp id .one
 | @snoc b c _ e ih =>
  intro u v hu hv h1 h2
  obtain ⟨w, hw, hb⟩ := H.find (tin _ e).1
  rcases ih hu hw h1 hb with rfl | q
  ·exact (step e hw hv hb h2).imp id .one
  ·rcases step e hw hv hb h2 with rfl | q2
   ·exact .inr q
   ·exact .inr (.snoc q q2)
theorem Pt.drop (H : Pt n ts P) {u v : Int} (w : Rc (qT P ts) u v) : ∀ {x y : Int}, x ∈ pa P u -> y ∈ pa P v -> Rc ts x y := by
 have step : ∀ {u v x y : Int}, (u, v) ∈ qT P ts -> x ∈ pa P u -> y ∈ pa P v -> Rc ts x y := λ {u v x y} e hx hy => by
  obtain ⟨e, he, hu, hv, h1, _, h3⟩ := Zdi.mp e
  have w1 : Rc ts e.1 e.2 := .one he
  have w2 : Rc ts x e.2 := (H.in1 hu hx h1).elim (λ q => q ▸ w1) λ q => q.trans w1
  exact (H.in1 hv h3 hy).elim (λ q => q ▸ w2) λ q => w2.trans q
 induction w with
 | one e => exact λ hx hy => step e hx hy
 | @snoc b c w e ih =>
  intro x y hx hy
  obtain ⟨_, _, hb, _⟩ := Zdi.mp e
  obtain ⟨z, hz⟩ := List.exists_mem_of_ne_nil _ (H.ne _ (Zag hb))
  exact (ih hx hz).trans (step e hz hy)
theorem Ze6 {R : Int -> Int -> Prop} : ∀ {l : List Int} {a : Int}, Adj R (a :: l) -> ∀ b ∈ l, Way R a b
 | c :: l, a, h, b, hb => by
  have h1 : R a c := h [] l a c rfl
  rcases Qmc hb with rfl | hb
  ·exact .one h1
  ·exact .cons h1 (Ze6 (Adj.drop (p := [a]) h) b hb)
theorem Zqx {R : Int -> Int -> Prop} {l : List Int} {b : Int} (h : Adj R (l ++ [b])) : ∀ a ∈ l, Way R a b := λ a ha => by
 have := h.rev
 rw [List.reverse_append] at this
 exact (Ze6 (l := l.reverse) this a (mem_reverse.mpr ha)).flip
theorem Zhv {R : Int -> Int -> Prop} {x : Int} {mid : List Int} (h : Adj R (x :: mid ++ [x])) : ∀ u ∈ x :: mid, Way R u x ∧ Way R x u := λ u hu => by
 have h0 : Adj R (x :: (mid ++ [x])) := h
 refine ⟨Zqx h u hu, ?_⟩
 rcases Qmc hu with rfl | hu
 ·exact Ze6 h0 _ (mem_append_right _ (mem_singleton.mpr rfl))
 ·exact Ze6 h0 _ (mem_append_left _ hu)
noncomputable def joinP (P : List (List Int)) (body : List Int) : List (List Int) := ((upI P.length).filter λ a => decide (a ∉ body)).map (pa P) ++ [sortI (body.flatMap (pa P))]
theorem Pt.join (H : Pt n ts P) {x : Int} {mid : List Int} (hn : (x :: mid).Nodup) (hm : mid ≠ []) (hU : ∀ a ∈ x :: mid, a ∈ upI P.length) (hA : Adj (λ a b => b ∈ scL (qT P ts) a) (x :: mid ++ [x])) :
  Pt n ts (joinP P (mid ++ [x])) ∧ (joinP P (mid ++ [x])).length < P.length := by
 have hA' : Adj (St1 (qT P ts)) (x :: mid ++ [x]) := λ l r a b e => Zap.mp (hA l r a b e)
 have hpm : (mid ++ [x]).Perm (x :: mid) := List.perm_append_singleton x mid
 generalize eb : mid ++ [x] = body at hpm
 have hbn : body.Nodup := hpm.nodup_iff.mpr hn
 have hbU : ∀ a ∈ body, a ∈ upI P.length := λ a h => hU a (hpm.mem_iff.mp h)
 have hbw : ∀ u ∈ body, ∀ v ∈ body, Rc (qT P ts) u v := λ u hu v hv => ((Zhv hA' u (hpm.mem_iff.mp hu)).1).trans (Zhv hA' v (hpm.mem_iff.mp hv)).2
 have hsp : ((upI P.length).filter (λ a => decide (a ∉ body)) ++ body).Perm (upI P.length) := by
  refine (List.Perm.append_left _ ?_).trans (List.filter_append_perm (λ a => decide (a ∉ body)) (upI P.length))
  refine (List.perm_ext_iff_of_nodup hbn ((Zc7 _).sublist filter_sublist)).mpr λ a => ?_
  rw [mem_filter]
  simp
  exact λ h => hbU a h
 have hjp := sortI_perm (body.flatMap (pa P))
 have hjm : ∀ a, a ∈ sortI (body.flatMap (pa P)) ↔ ∃ u ∈ body, a ∈ pa P u := λ a => by rw [hjp.mem_iff, List.mem_flatMap]
 have hx : x ∈ body := by rw [<- eb]; simp
 have perm : (joinP P body).flatten.Perm (upI n) := by
  unfold joinP
  rw [List.flatten_append, List.flatten_singleton, <- flatMap_def]
  refine ((List.Perm.append_left _ hjp).trans ?_).trans H.perm
  rw [<- flatMap_append]
  have := hsp.flatMap_right (pa P)
  rw [flatMap_def (l := upI P.length), Zsq] at this
  exact this
 refine ⟨⟨perm, λ p hp => ?_, λ p hp => ?_, λ p hp => ?_⟩, ?_⟩
 ·rcases Qma hp with q | q
  ·obtain ⟨a, ha, rfl⟩ := Qmm q
   exact H.ne _ (Zag (mem_filter.mp ha).1)
  ·rw [mem_singleton] at q; subst q
   obtain ⟨z, hz⟩ := List.exists_mem_of_ne_nil _ (H.ne _ (Zag (hbU x hx)))
   exact List.ne_nil_of_mem ((hjm z).mpr ⟨x, hx, hz⟩)
 ·rcases Qma hp with q | q
  ·obtain ⟨a, ha, rfl⟩ := Qmm q
   exact H.srt _ (Zag (mem_filter.mp ha).1)
  ·rw [mem_singleton] at q; subst q
   have nd : (joinP P body).flatten.Nodup := perm.nodup_iff.mpr (Zc7 n)
   have n1 : (sortI (body.flatMap (pa P))).Nodup := (List.pairwise_flatten.mp nd).1 _ (mem_append_right _ (mem_singleton.mpr rfl))
   exact List.Pairwise.imp₂ (λ a b h1 h2 => Int.lt_iff_le_and_ne.mpr ⟨h1, h2⟩) (sortI_rises _) n1
 ·rcases Qma hp with q | q
  ·obtain ⟨a, ha, rfl⟩ := Qmm q
   exact H.con _ (Zag (mem_filter.mp ha).1)
  ·rw [mem_singleton] at q; subst q
   intro a ha b hb
   obtain ⟨u, hu, ha⟩ := (hjm a).mp ha
   obtain ⟨v, hv, hb⟩ := (hjm b).mp hb
   exact .inr ⟨H.drop (hbw u hu v hv) ha hb, H.drop (hbw v hv u hu) hb ha⟩
 ·have hl := hsp.length_eq
  rw [length_append, Zak] at hl
  unfold joinP
  rw [length_append, length_map, length_singleton]
  have : 2 <= body.length := by
   rw [<- eb, length_append, length_singleton]
   have := length_pos_iff.mpr hm
   exact Qkl this Qr
  lia
end

noncomputable def qL (Q : Ed) : Nat -> Int -> Prop
 | 0, _ => False
 | r + 1, b => ∀ a, (a, b) ∈ Q -> qL Q r a
noncomputable def nL (ts : Ed) : Nat -> Int -> Prop
 | 0, _ => False
 | r + 1, y => ∀ x, Rc ts x y -> ¬ Rc ts y x -> nL ts r x
theorem Zby {Q : Ed} : ∀ {r : Nat} {b : Int}, qL Q r b -> qL Q (r + 1) b
 | 0, _, h => h.elim
 | _ + 1, _, h => λ a e => Zby (h a e)
theorem Zmm {ts : Ed} : ∀ {r : Nat} {b : Int}, nL ts r b -> nL ts (r + 1) b
 | 0, _, h => h.elim
 | _ + 1, _, h => λ a e q => Zmm (h a e q)
theorem nL_le {ts : Ed} {b : Int} {r r' : Nat} (h : r <= r') (q : nL ts r b) : nL ts r' b := by
 induction h with
 | refl => exact q
 | step _ ih => exact Zmm ih
theorem qL_le {Q : Ed} {b : Int} {r r' : Nat} (h : r <= r') (q : qL Q r b) : qL Q r' b := by
 induction h with
 | refl => exact q
 | step _ ih => exact Zby ih
theorem Zsr {Q : Ed} {r : Nat} {a b : Int} (w : Rc Q a b) : qL Q r b -> qL Q r a := by
 have step : ∀ {a b : Int}, (a, b) ∈ Q -> qL Q r b -> qL Q r a := λ {a b} e h => by
  cases r with
  | zero => exact h.elim
  | succ r => exact Zby (h a e)
 induction w with
 | one e => exact step e
 | snoc _ e ih => exact λ h => ih (step e h)
theorem Zss {E : Int -> Int -> Prop} {p : Int -> Prop} {U : List Int} (hU : ∀ a b, E a b -> a ∈ U) {x : Int} (h : Acc E x) : x ∈ U -> ¬ p x -> ∃ w ∈ U, ¬ p w ∧ ∀ a, E a w -> p a := by
 induction h with
 | intro x _ ih =>
  intro hx hp
  by_cases q : ∀ a, E a x -> p a
  ·exact ⟨x, hx, hp, q⟩
  ·obtain ⟨a, q⟩ := Classical.not_forall.mp q
   obtain ⟨e, q⟩ := Classical.not_imp.mp q
   exact ih a e (hU a x e) q
theorem Zpf {Q : Ed} {U : List Int} (hQ : ∀ e ∈ Q, e.1 ∈ U ∧ e.2 ∈ U) (hf : ∀ v ∈ U, Fr Q v) : ∀ v ∈ U, qL Q U.length v := by
 have key : ∀ r, (∀ v ∈ U, qL Q r v) ∨ r <= (U.filter λ v => yes (qL Q r v)).length := λ r => by
  induction r with
  | zero => exact .inr (Nat.zero_le _)
  | succ r ih =>
   rcases ih with ih | ih
   ·exact .inl λ v hv => Zby (ih v hv)
   ·by_cases q : ∀ v ∈ U, qL Q (r + 1) v
    ·exact .inl q
    ·right
     obtain ⟨v, q⟩ := Classical.not_forall.mp q
     obtain ⟨hv, q⟩ := Classical.not_imp.mp q
     obtain ⟨w, hw, h1, h2⟩ := Zss (E := St1 Q) (p := qL Q r) (U := U) (λ a b e => (hQ _ e).1) (hf v hv) hv λ h => q (Zby h)
     have := Zhp (p := qL Q r) (q := qL Q (r + 1)) (a := w) U (λ x => Zby) hw h2 h1
     exact Qkl ih this
 rcases key U.length with h | h
 ·exact h
 ·have e := List.length_filter_eq_length_iff.mp (Nat.le_antisymm (length_filter_le (λ v => yes (qL Q U.length v)) U) h)
  exact λ v hv => Za7.mp (e v hv)
section
variable {n : Nat} {ts : Ed} {P : List (List Int)}
theorem qT_in : ∀ e ∈ qT P ts, e.1 ∈ upI P.length ∧ e.2 ∈ upI P.length := λ e h => by
 obtain ⟨a, b⟩ := e
 obtain ⟨_, _, h1, h2, _⟩ := Zdi.mp h
 exact ⟨h1, h2⟩
theorem Pt.same (H : Pt n ts P) (tin : ∀ e ∈ ts, e.1 ∈ upI n ∧ e.2 ∈ upI n) (hf : ∀ a ∈ upI P.length, Fr (qT P ts) a) {u v x y : Int} (hu : u ∈ upI P.length) (hv : v ∈ upI P.length) (hx : x ∈ pa P u) (hy : y ∈ pa P v) (w1 : Rc ts x y) (w2 : Rc ts y x) : u = v := by
 rcases H.lift tin w1 hu hv hx hy with q | q
 ·exact q
 ·rcases H.lift tin w2 hv hu hy hx with q2 | q2
  ·exact q2.symm
  ·exact absurd (q.trans q2) (Zdt (hf u hu))
theorem Pt.lev (H : Pt n ts P) (tin : ∀ e ∈ ts, e.1 ∈ upI n ∧ e.2 ∈ upI n) (hf : ∀ a ∈ upI P.length, Fr (qT P ts) a) : ∀ (r : Nat) {v y : Int}, v ∈ upI P.length -> y ∈ pa P v -> (qL (qT P ts) r v ↔ nL ts r y)
 | 0, _, _, _, _ => Iff.rfl
 | r + 1, v, y, hv, hy => by
  constructor
  ·intro h x w1 w2
   obtain ⟨z, e, _⟩ := w1.first
   obtain ⟨u, hu, hx⟩ := H.find (tin _ e).1
   refine (H.lev tin hf r hu hx).mp ?_
   rcases H.lift tin w1 hu hv hx hy with rfl | q
   ·rcases H.con _ (Zag hu) _ hy _ hx with q | q
    ·subst q; exact absurd w1 w2
    ·exact absurd q.1 w2
   ·obtain ⟨w, e2, q2⟩ := q.last
    rcases q2 with rfl | q2
    ·exact h _ e2
    ·exact Zsr q2 (h _ e2)
  ·intro h a e
   obtain ⟨e', he, ha, _, h1, h2, h3⟩ := Zdi.mp e
   refine (H.lev tin hf r ha h1).mpr ?_
   have w : Rc ts e'.1 y := (H.in1 hv h3 hy).elim (λ q => q ▸ .one he) λ q => Way.trans (.one he) q
   refine h _ w λ q => ?_
   have := H.same tin hf ha hv h1 hy w q
   exact h2 (this ▸ h3)
theorem Znx (m : Nat -> Nat -> Bool) (n x : Nat) : (cls m n x).Pairwise (· < ·) := by
 unfold cls
 refine List.Pairwise.sublist filter_sublist ?_
 rw [pairwise_map]
 exact List.pairwise_lt_range.imp λ h => Int.ofNat_lt.mpr h
theorem Pt.cls (H : Pt n ts P) (tin : ∀ e ∈ ts, e.1 ∈ upI n ∧ e.2 ∈ upI n) (hf : ∀ a ∈ upI P.length, Fr (qT P ts) a) {u : Int} {x : Nat} (hu : u ∈ upI P.length) (hx : (x : Int) ∈ pa P u) : pa P u = cls (wM ts n) n x := by
 have tin' : ∀ e ∈ ts, (0 <= e.1 ∧ e.1 < n) ∧ 0 <= e.2 ∧ e.2 < n := λ e he => ⟨Zn.mp (tin e he).1, Zn.mp (tin e he).2⟩
 refine Zdv (r := (· < ·)) (λ a b h => Int.not_lt.mpr (Int.le_of_lt h)) (H.srt _ (Zag hu)) (Znx _ _ _) λ y => ?_
 have mc : y ∈ Mine.cls (wM ts n) n x ↔ y ∈ upI n ∧ (y = x ∨ Rc ts x y ∧ Rc ts y x) := by
  unfold Mine.cls
  rw [mem_filter]
  show y ∈ upI n ∧ _ ↔ _
  refine and_congr_right λ hy => ?_
  have e : ((y.toNat : Nat) : Int) = y := by have := Zn.mp hy; lia
  rw [Bool.or_eq_true, Bool.and_eq_true, beq_iff_eq, wM_rc tin', wM_rc tin', e]
 rw [mc]
 constructor
 ·intro hy
  refine ⟨H.inN hu hy, ?_⟩
  rcases H.con _ (Zag hu) _ hx _ hy with q | q
  ·exact .inl q.symm
  ·exact .inr q
 ·rintro ⟨h1, rfl | ⟨h2, h3⟩⟩
  ·exact hx
  ·obtain ⟨v, hv, hy⟩ := H.find h1
   rw [H.same tin hf hu hv hx hy h2 h3]; exact hy
end
section
variable {n : Nat} {ts : Ed} {m : Nat -> Nat -> Bool} {x y b k : Nat} {hs : Nat -> Nat}
theorem hS_ge : hs b <= hS m x y hs b := by
 unfold hS
 split
 ·rename_i q; rw [q.1]; exact Nat.le_max_left _ _
 ·exact Qr
theorem hY_le : ∀ (k j : Nat), hY m x hs k b <= hY m x hs (k + j) b
 | k, 0 => Qr
 | k, j + 1 => Nat.le_trans (hY_le k j) hS_ge
theorem hX_le {n : Nat} : ∀ (k j : Nat), hX m n hs k b <= hX m n hs (k + j) b
 | k, 0 => Qr
 | k, j + 1 => Nat.le_trans (hX_le k j) (by have := hY_le (m := m) (x := k + j) (hs := hX m n hs (k + j)) (b := b) 0 n; rw [Nat.zero_add] at this; exact this)
theorem Ztj (hy : y < k) (h1 : m x y = true) (h2 : m y x = false) : hs x + 1 <= hY m x hs k y := by
 have e : hs x + 1 <= hY m x hs (y + 1) y := by
  show _ <= hS m x y (hY m x hs y) y
  unfold hS
  rw [if_pos ⟨rfl, h1, h2⟩]
  have := hY_le (m := m) (x := x) (hs := hs) (b := x) 0 y
  rw [Nat.zero_add] at this
  have q : hs x <= hY m x hs y x := this
  exact Nat.le_trans (Nat.succ_le_succ q) (Nat.le_max_right _ _)
 have := hY_le (m := m) (x := x) (hs := hs) (b := y) (y + 1) (k - (y + 1))
 rw [show y + 1 + (k - (y + 1)) = k from Nat.add_sub_of_le hy] at this
 exact Nat.le_trans e this
theorem Ztk (hx : x < k) (hy : y < n) (h1 : m x y = true) (h2 : m y x = false) : hs x + 1 <= hX m n hs k y := by
 have e : hs x + 1 <= hX m n hs (x + 1) y := by
  have q := Ztj (m := m) (hs := hX m n hs x) hy h1 h2
  have := hX_le (m := m) (n := n) (hs := hs) (b := x) 0 x
  rw [Nat.zero_add] at this
  have q2 : hs x <= hX m n hs x x := this
  exact Nat.le_trans (Nat.succ_le_succ q2) q
 have := hX_le (m := m) (n := n) (hs := hs) (b := y) (x + 1) (k - (x + 1))
 rw [show x + 1 + (k - (x + 1)) = k by lia] at this
 exact Nat.le_trans e this
noncomputable abbrev HUp (ts : Ed) (n : Nat) (hs : Nat -> Nat) : Prop := ∀ k y : Nat, y < n -> nL ts k y -> hs y < k
noncomputable abbrev HLo (ts : Ed) (n t : Nat) (hs : Nat -> Nat) : Prop := ∀ y : Nat, y < n -> nL ts (hs y + 1) y ∨ t <= hs y
theorem hS_up (tin : ∀ e ∈ ts, (0 <= e.1 ∧ e.1 < n) ∧ 0 <= e.2 ∧ e.2 < n) (hx : x < n) (h : HUp ts n hs) : HUp ts n (hS (wM ts n) x y hs) := λ k b hb q => by
 unfold hS
 split
 ·rename_i c
  obtain ⟨rfl, c1, c2⟩ := c
  have w1 := (wM_rc tin).mp c1
  have w2 : ¬ Rc ts b x := λ w => by have := (wM_rc tin).mpr w; rw [c2] at this; cases this
  cases k with
  | zero => exact q.elim
  | succ k =>
   have := h k x hx (q _ w1 w2)
   have := h (k + 1) b hb q
   lia
 ·exact h k b hb q
theorem hY_up (tin : ∀ e ∈ ts, (0 <= e.1 ∧ e.1 < n) ∧ 0 <= e.2 ∧ e.2 < n) (hx : x < n) (h : HUp ts n hs) : ∀ k, HUp ts n (hY (wM ts n) x hs k)
 | 0 => h
 | k + 1 => hS_up tin hx (hY_up tin hx h k)
theorem hX_up (tin : ∀ e ∈ ts, (0 <= e.1 ∧ e.1 < n) ∧ 0 <= e.2 ∧ e.2 < n) (h : HUp ts n hs) : ∀ k, k <= n -> HUp ts n (hX (wM ts n) n hs k)
 | 0, _ => h
 | k + 1, hk => hY_up tin hk (hX_up tin h k (Qlk hk Qr)) n
theorem hX_lo (tin : ∀ e ∈ ts, (0 <= e.1 ∧ e.1 < n) ∧ 0 <= e.2 ∧ e.2 < n) {t : Nat} (h : HLo ts n t hs) : HLo ts n (t + 1) (hX (wM ts n) n hs n) := λ y hy => by
 by_cases q : t + 1 <= hX (wM ts n) n hs n y
 ·exact .inr q
 ·left
  intro x w1 w2
  obtain ⟨z, e, _⟩ := w1.first
  have hx := (tin _ e).1
  obtain ⟨x', rfl⟩ : ∃ x' : Nat, x = x' := ⟨x.toNat, by have : 0 <= x := hx.1; lia⟩
  have hx' : x' < n := by have : (x' : Int) < n := hx.2; lia
  have c2 : wM ts n y x' = false := by
   cases c : wM ts n y x' with
   | false => rfl
   | true => exact absurd ((wM_rc tin).mp c) w2
  have hit := Ztk (hs := hs) hx' hy ((wM_rc tin).mpr w1) c2
  rcases h x' hx' with q2 | q2
  ·exact nL_le hit q2
  ·lia
theorem hT_ok (tin : ∀ e ∈ ts, (0 <= e.1 ∧ e.1 < n) ∧ 0 <= e.2 ∧ e.2 < n) (hall : ∀ y : Nat, y < n -> nL ts n y) : ∀ y : Nat, y < n -> nL ts (hT (wM ts n) n n y + 1) y ∧ ¬ nL ts (hT (wM ts n) n n y) y := by
 have up : ∀ t, HUp ts n (hT (wM ts n) n t) := λ t => by
  induction t with
  | zero =>
   intro k y _ q
   cases k with
   | zero => exact q.elim
   | succ k => exact Nat.succ_pos _
  | succ t ih => exact hX_up tin ih n Qr
 have lo : ∀ t, HLo ts n t (hT (wM ts n) n t) := λ t => by
  induction t with
  | zero => exact λ y _ => .inr (Nat.zero_le _)
  | succ t ih => exact hX_lo tin ih
 intro y hy
 refine ⟨(lo n y hy).resolve_right λ h => ?_, λ h => Nat.lt_irrefl _ (up n _ y hy h)⟩
 have := up n n y hy (hall y hy)
 exact Qnlk this h rfl
theorem Ztl {a b : Nat} {y : Int} (h1 : nL ts (a + 1) y) (h2 : ¬ nL ts a y) (h3 : nL ts (b + 1) y) (h4 : ¬ nL ts b y) : a = b := by
 rcases Nat.lt_trichotomy a b with q | q | q
 ·exact absurd (nL_le q h1) h4
 ·exact q
 ·exact absurd (nL_le q h3) h2
end

theorem Zdw {m : Nat -> Nat -> Bool} {n lv : Nat} {hs : Nat -> Nat} {d : List Int} : ∀ k, d ∈ metL m n hs lv k ↔ ∃ x, x < k ∧ hs x = lv ∧ d = cls m n x
 | 0 => ⟨λ h => (nomatch h), λ ⟨x, h, _⟩ => absurd h (Nat.not_lt_zero _)⟩
 | k + 1 => by
  have ih := Zdw (m := m) (n := n) (lv := lv) (hs := hs) (d := d) k
  have ih' := Zdw (m := m) (n := n) (lv := lv) (hs := hs) (d := cls m n k) k
  rw [Zew]
  split
  ·rename_i h
   rw [mem_append, ih, mem_singleton]
   constructor
   ·rintro (⟨x, h1, h2⟩ | q)
    ·exact ⟨x, Qll h1 (Qs Qr), h2⟩
    ·exact ⟨k, Nat.lt_succ_self _, h.1, q⟩
   ·rintro ⟨x, h1, h2, h3⟩
    by_cases e : x = k
    ·subst e; exact .inr h3
    ·exact .inl ⟨x, by lia, h2, h3⟩
  ·rename_i h
   rw [ih]
   constructor
   ·rintro ⟨x, h1, h2⟩
    exact ⟨x, Qll h1 (Qs Qr), h2⟩
   ·rintro ⟨x, h1, h2, h3⟩
    by_cases e : x = k
    ·subst e
     have : cls m n x ∈ metL m n hs lv x := Classical.byContradiction λ q => h ⟨h2, q⟩
     obtain ⟨z, z1, z2, z3⟩ := ih'.mp this
     exact ⟨z, z1, z2, h3.trans z3⟩
    ·exact ⟨x, by lia, h2, h3⟩
theorem Ze7 {d : List Int} (h : d ≠ []) : hdI d ∈ d := by
 cases d with
 | nil => exact absurd rfl h
 | cons x d => exact mem_cons_self
theorem Ztm {d : List Int} (h : d.Pairwise (· < ·)) {x : Int} (hx : x ∈ d) : hdI d <= x := by
 cases d with
 | nil => cases hx
 | cons y d =>
  rcases Qmc hx with rfl | q
  ·exact Int.le_refl _
  ·exact Int.le_of_lt ((List.pairwise_cons.mp h).1 x q)
theorem Zk2 : ∀ {P : List (List Int)}, (∀ p ∈ P, p ≠ []) -> P.length <= P.flatten.length
 | [], _ => Qr
 | p :: P, h => by
  have h1 := Zk2 λ q hq => h q (mem_cons_of_mem _ hq)
  have h2 := length_pos_iff.mpr (h p mem_cons_self)
  rw [List.flatten_cons, length_append, length_cons]; lia
section
variable {n : Nat} {ts : Ed} {P : List (List Int)}
theorem Pt.len (H : Pt n ts P) : P.length <= n := by
 have := Zk2 H.ne
 rw [H.perm.length_eq, Zak] at this; exact this
theorem Pt.ht (H : Pt n ts P) (tin : ∀ e ∈ ts, e.1 ∈ upI n ∧ e.2 ∈ upI n) (hf : ∀ a ∈ upI P.length, Fr (qT P ts) a) : ∀ y : Nat, y < n -> nL ts (hT (wM ts n) n n y + 1) y ∧ ¬ nL ts (hT (wM ts n) n n y) y := by
 refine hT_ok (λ e he => ⟨Zn.mp (tin e he).1, Zn.mp (tin e he).2⟩) λ y hy => ?_
 obtain ⟨v, hv, h⟩ := H.find (x := y) (Zn.mpr (by lia))
 have := Zpf qT_in hf v hv
 rw [Zak] at this
 exact nL_le H.len ((H.lev tin hf _ hv h).mp this)
theorem Pt.hEq (H : Pt n ts P) (tin : ∀ e ∈ ts, e.1 ∈ upI n ∧ e.2 ∈ upI n) (hf : ∀ a ∈ upI P.length, Fr (qT P ts) a) {v : Int} {y r : Nat} (hv : v ∈ upI P.length) (hy : (y : Int) ∈ pa P v) :
  hT (wM ts n) n n y = r ↔ qL (qT P ts) (r + 1) v ∧ ¬ qL (qT P ts) r v := by
 have hyn := Zn.mp (H.inN hv hy)
 obtain ⟨h1, h2⟩ := H.ht tin hf y (by omega)
 rw [H.lev tin hf _ hv hy, H.lev tin hf _ hv hy]
 constructor
 ·rintro rfl; exact ⟨h1, h2⟩
 ·rintro ⟨h3, h4⟩; exact Ztl h1 h2 h3 h4
theorem Pt.metSorted (H : Pt n ts P) (tin : ∀ e ∈ ts, e.1 ∈ upI n ∧ e.2 ∈ upI n) (hf : ∀ a ∈ upI P.length, Fr (qT P ts) a) (r : Nat) : ∀ k, k <= n -> (metL (wM ts n) n (hT (wM ts n) n n) r k).Pairwise HLt ∧ ∀ d ∈ metL (wM ts n) n (hT (wM ts n) n n) r k, hdI d < k
 | 0, _ => ⟨.nil, λ d h => (nomatch h)⟩
 | k + 1, hk => by
  obtain ⟨h1, h2⟩ := H.metSorted tin hf r k (Qlk hk Qr)
  rw [Zew]
  split
  ·rename_i h
   obtain ⟨u, hu, hx⟩ := H.find (x := k) (Zn.mpr (by lia))
   have ec := H.cls tin hf hu hx
   have hz := Ze7 (H.ne _ (Zag hu))
   have hle := Ztm (H.srt _ (Zag hu)) hx
   have hzn := Zn.mp (H.inN hu hz)
   have e : hdI (Mine.cls (wM ts n) n k) = k := by
    rw [<- ec]
    refine Int.le_antisymm hle (Int.not_lt.mp λ q => h.2 ?_)
    obtain ⟨z, ez⟩ : ∃ z : Nat, hdI (pa P u) = z := ⟨(hdI (pa P u)).toNat, by lia⟩
    rw [ez] at hz q
    refine (Zdw k).mpr ⟨z, by lia, ?_, by rw [<- ec, H.cls tin hf hu hz]⟩
    exact (H.hEq tin hf hu hz).mpr ((H.hEq tin hf hu hx).mp h.1)
   refine ⟨List.pairwise_append.mpr ⟨h1, List.pairwise_singleton _ _, λ d hd e' he => ?_⟩, λ d hd => ?_⟩
   ·rw [mem_singleton] at he; subst he
    show hdI d < hdI _
    rw [e]; exact h2 d hd
   ·rcases Qma hd with q | q
    ·have := h2 d q; lia
    ·rw [mem_singleton] at q; subst q
     rw [e]; lia
  ·exact ⟨h1, λ d hd => by have := h2 d hd; lia⟩
theorem Pt.roundEq (H : Pt n ts P) (tin : ∀ e ∈ ts, e.1 ∈ upI n ∧ e.2 ∈ upI n) (hf : ∀ a ∈ upI P.length, Fr (qT P ts) a) {r : Nat} {rd : List Int} (hrd : ∀ a, a ∈ rd ↔ a ∈ upI P.length ∧ qL (qT P ts) (r + 1) a ∧ ¬ qL (qT P ts) r a)
  {es : List (List Int)} (hp : es.Perm (rd.map (pa P))) (hs : es.Pairwise HLt) : es = metL (wM ts n) n (hT (wM ts n) n n) r n := by
 refine Zdv Ztf hs (H.metSorted tin hf r n Qr).1 λ d => ?_
 rw [hp.mem_iff, mem_map, Zdw]
 constructor
 ·rintro ⟨a, ha, rfl⟩
  obtain ⟨h1, h2⟩ := (hrd a).mp ha
  have hz := Ze7 (H.ne _ (Zag h1))
  have hzn := Zn.mp (H.inN h1 hz)
  obtain ⟨z, ez⟩ : ∃ z : Nat, hdI (pa P a) = z := ⟨(hdI (pa P a)).toNat, by lia⟩
  rw [ez] at hz hzn
  exact ⟨z, by lia, (H.hEq tin hf h1 hz).mpr h2, H.cls tin hf h1 hz⟩
 ·rintro ⟨x, hx, h1, rfl⟩
  obtain ⟨u, hu, hxu⟩ := H.find (x := x) (Zn.mpr (by lia))
  exact ⟨u, (hrd u).mpr ⟨hu, (H.hEq tin hf hu hxu).mp h1⟩, H.cls tin hf hu hxu⟩
theorem Pt.heads (H : Pt n ts P) {rd : List Int} (hn : rd.Nodup) (hU : ∀ a ∈ rd, a ∈ upI P.length) : ((rd.map (pa P)).map hdI).Nodup ∧ ∀ d ∈ rd.map (pa P), d ≠ [] := by
 refine ⟨?_, λ d hd => ?_⟩
 ·unfold List.Nodup
  rw [pairwise_map, pairwise_map]
  refine List.Pairwise.imp_of_mem (λ {a b} ha hb hab e => hab ?_) hn
  have h1 := Ze7 (H.ne _ (Zag (hU a ha)))
  have h2 := Ze7 (H.ne _ (Zag (hU b hb)))
  rw [e] at h1
  exact H.uniq (hU a ha) (hU b hb) h1 h2
 ·obtain ⟨a, ha, rfl⟩ := Qmm hd
  exact H.ne _ (Zag (hU a ha))
end

theorem Zex : ∀ (bs : List Bool), boolsOf (bs.map PV.bool) = some bs
 | [] => rfl
 | b :: bs => by rw [map_cons, Zoj, Zex bs]; rfl
section
variable {hp : List MO} {fr : List PV} {E : Value -> St -> Prop}
theorem Wp.any {x : PV} {xs : List PV} {bs : List Bool} {μ : St} {Q : PV -> St -> Prop} (e : isLst μ.hp x = some xs) (eb : boolsOf xs = some bs) (h : Q (.bool (bs.any id)) μ) : Wp (pAny [x]) μ Q E := by
 refine Wp.C (Wp.J (a := bs) (μ' := μ) ?_ (Wp.L h))
 unfold lstM
 rw [e]; try dsimp only
 rw [eb]
theorem Wp.all {x : PV} {xs : List PV} {bs : List Bool} {μ : St} {Q : PV -> St -> Prop} (e : isLst μ.hp x = some xs) (eb : boolsOf xs = some bs) (h : Q (.bool (bs.all id)) μ) : Wp (pAll [x]) μ Q E := by
 refine Wp.C (Wp.J (a := bs) (μ' := μ) ?_ (Wp.L h))
 unfold lstM
 rw [e]; try dsimp only
 rw [eb]
theorem Wp.E6 {x : PV} {is : List Int} (e : isLst hp x = some (is.map .int)) (hl : is.length < 64) {Q : PV -> St -> Prop} (h : Q (partV (sortI is)) ⟨fr, hp⟩) : Wp (pSortIntsL [x]) ⟨fr, hp⟩ Q E := by
 refine Wp.C (Wp.J (a := is) (μ' := ⟨fr, hp⟩) ?_ (Wp.C (Wp.A6 (decide_eq_true hl) (Wp.L h))))
 unfold lstM
 try dsimp only
 rw [e]; try dsimp only
 rw [Zcu]
theorem Zhw : ∀ ds : List (List Int), mapO (llOf hp) (ds.map partV) = some ds
 | [] => rfl
 | x :: ds => by
  rw [map_cons, Zd3, show llOf hp (partV x) = some x from Zcu x]
  try dsimp only
  rw [Zhw ds]; rfl
theorem Wp.H9 {x : PV} {ds : List (List Int)} (e : isLst hp x = some (ds.map partV)) (hl : ds.length < 64) {Q : PV -> St -> Prop} (h : Q (.lst (Mine.sortLL ds (ds.map partV))) ⟨fr, hp⟩) : Wp (pSortLL [x]) ⟨fr, hp⟩ Q E := by
 refine Wp.C (Wp.J (a := (ds.map partV, ds)) (μ' := ⟨fr, hp⟩) ?_ (Wp.C (Wp.A6 (decide_eq_true (by rw [length_map]; exact hl)) (Wp.L h))))
 unfold llM
 try dsimp only
 rw [e]; try dsimp only
 rw [Zhw]
theorem Wp.two {asg : PV -> PM Unit} {g : PM PV} {tf : PV -> PM Unit} {n : Nat} {x : PV} {μ : St} {Q : Unit -> St -> Prop} (h : Wp (asg x) μ (λ _ μ' => Wp g μ' (λ pv μ'' => Wp (Mine.compIx (getIt pv μ'') tf n 0) μ'' Q (λ _ _ => False)) E) E) : Wp (tfTwo asg g tf n x) μ Q E := by
 unfold tfTwo
 refine Wp.C (h.mono (λ _ μ' h => Wp.C (h.mono (λ pv μ'' h => ?_) λ _ _ e => e)) λ _ _ e => e)
 obtain ⟨u, μ3, e, hq⟩ := h.run
 refine Wp.J ?_ hq
 rw [e]
theorem Wp.catT {f g : PM PV} {μ : St} {Q : PV -> St -> Prop} (h : Wp f μ (λ x μ1 => Wp g μ1 (λ y μ2 => ∃ xs ys, isLst μ2.hp x = some xs ∧ isLst μ2.hp y = some ys ∧ xs.length + ys.length <= 1000000 ∧ Q (.obj μ2.hp.length) ⟨μ2.fr, μ2.hp ++ [.lst (xs ++ ys)]⟩) E) E) : Wp (Mine.eCat true f g) μ Q E :=
 Wp.C (h.mono (λ x μ1 h => Wp.C (h.mono (λ y μ2 hh => by
  obtain ⟨xs, ys, e1, e2, hl, h⟩ := hh
  exact Wp.C (Wp.C7 e1 (Wp.C (Wp.C7 e2 (Wp.C (Wp.A6 (decide_eq_true (by rw [length_append]; exact hl)) (Wp.C (Wp.Z (Wp.L h))))))))) λ _ _ e => e)) λ _ _ e => e)
theorem Wp.K0 {xs : List PV} {y : PV} {Q : PV -> St -> Prop} (hl : xs.length < 1000000) (h : Q y ⟨fr, hp⟩) : Wp (pGet (.lst (xs ++ [y])) (.int (-1))) ⟨fr, hp⟩ Q E := by
 refine Wp.J ?_ h
 unfold pGet
 try dsimp only
 have : pIdx (xs ++ [y]).length (-1) = some xs.length := by
  unfold pIdx
  rw [if_neg (by lia), if_pos (by simp; lia)]
  congr 1
  simp only [length_append, length_singleton]
  lia
 rw [this]
 simp
theorem Wp.I9 {fo : PM PV} {ga : PM (List PV)} {μ : St} {Q : PV -> St -> Prop} (h : Wp fo μ (λ x μ1 => ∃ is : List Int, x = .lst (is.map .int) ∧ Wp ga μ1 (λ ys μ2 => ∃ k : Int, ys = [.int k] ∧ Q (.int (is.count k : Nat)) μ2) E) E) : Wp (mCount fo ga) μ Q E :=
 Wp.C (h.mono (λ x μ1 hh => by
  obtain ⟨is, e, h⟩ := hh
  subst e
  refine Wp.C (Wp.C7 (xs := is.map .int) rfl (Wp.C (h.mono (λ ys μ2 hh => ?_) λ _ _ e => e)))
  obtain ⟨k, e, h⟩ := hh
  subst e
  refine Wp.C (Wp.C7 (xs := is.map .int) rfl (Wp.J ?_ h))
  unfold pCount
  rw [Zcu]; rfl) λ _ _ e => e)
end

section
variable {hp : List MO} {fr : List PV} {E : Value -> St -> Prop}
theorem wp_c7 {bd : List Int} (hn : bd.Nodup) (hl : bd.length <= 100) {v0 v1 v2 v3 v4 v5 v6 v7 v9 v10 v11 : PV} {Q : PV -> St -> Prop}
  (h : Q (.obj hp.length) ⟨[v0, v1, v2, v3, v4, v5, v6, v7, .lst (bd.map .int), v9, v10, v11], hp ++ [.lst ((bd.map λ _ => false).map .bool)]⟩) :
  Wp (compM fuel 2 (getVar 8) (Zg4 d)) ⟨[v0, v1, v2, v3, v4, v5, v6, v7, .lst (bd.map .int), v9, v10, v11], hp⟩ Q E := by
 unfold Zg4
 have hN : 1000 < fuel := by unfold fuel; exact Qkb Qr rfl
 generalize fuel = N at hN ⊢
 refine Wp.C9 (pv := .lst (bd.map .int)) (bd.map .int) ((bd.map λ _ => false).map .bool) (by rw [length_map]; exact Qkxl hl hN rfl) (by simp) (by simp; exact Qkb hl rfl)
  (Wp.B7 rfl rfl) (λ k _ fr' z => rfl) (λ k x y u w z hx hy => ?_) h
 rw [map_map, List.getElem?_map] at hy
 rw [List.getElem?_map] at hx
 cases hk : bd[k]? with
 | none => rw [hk] at hx; cases hx
 | some a =>
  rw [hk] at hx hy
  cases hx; cases hy
  have hc : bd.count a = 1 := by
   have := List.nodup_iff_count.mp hn a
   have := List.count_pos_iff.mpr (mem_of_getElem? hk)
   lia
  refine Wp.H (Wp.F8 (Wp.I9 (Wp.B (v := .lst (bd.map .int)) rfl rfl ⟨bd, rfl, Wp.R (Wp.B (v := .int a) rfl rfl ⟨a, rfl, Wp.F5 (Wp.J rfl ⟨?_, _, _, rfl⟩)⟩)⟩)))
  rw [hc]; rfl
theorem wp_c6 {r bd : List Int} {g m ep : Nat} {gr : Nat -> List Int} {L : Nat} (hL : bd.length = L) (hl : L <= 100) (hr : r.length <= 100) (hm : m <= 100) (hD : hp[g]? = some (.dct (grV g m) ep)) (hrow : ∀ i, i < m -> hp[g + 1 + i]? = some (.lst ((gr i).map .int)))
  (he : ∀ k, k < L -> ∃ a b, r[k]? = some a ∧ r[k + 1]? = some b ∧ b ∈ upI m ∧ a ∈ gr b.toNat) {v0 v1 v2 v3 v4 v6 v9 v10 v11 : PV} {Q : PV -> St -> Prop}
  (h : Q (.obj hp.length) ⟨[v0, v1, v2, v3, v4, .obj g, v6, .lst (r.map .int), .lst (bd.map .int), v9, v10, v11], hp ++ [.lst (((List.range L).map λ _ => true).map .bool)]⟩) :
  Wp (compM fuel 2 ((argC ((argC (getVar 8) (Pure.pure [])) >>= pLen) (Pure.pure [])) >>= pRange) (Zg3 d)) ⟨[v0, v1, v2, v3, v4, .obj g, v6, .lst (r.map .int), .lst (bd.map .int), v9, v10, v11], hp⟩ Q E := by
 unfold Zg3
 have hN : 1000 < fuel := by unfold fuel; exact Qkb Qr rfl
 generalize fuel = N at hN ⊢
 refine Wp.C9 (pv := .rng 0 L 1) ((List.range L).map λ (i : Nat) => PV.int i) (((List.range L).map λ _ => true).map .bool) (by simp; exact Qkxl hl hN rfl) (by simp) (by simp; exact Qkb hl rfl)
  (Wp.C (Wp.R (Wp.C (Wp.R (Wp.B (v := .lst (bd.map .int)) rfl rfl (Wp.B0 (.inl rfl) (by rw [length_map]; lia) (Wp.V ⟨by rw [length_map, hL], rfl⟩))))))) (λ k hk fr' z => Zcv (Qkb hl rfl) (by simpa using hk)) (λ k x y u w z hx hy => ?_) h
 have hk : k < L := by have := (Qgl hx); simpa using this
 rw [Zaw (f := λ (i : Nat) => PV.int i) hk] at hx
 rw [map_map, List.getElem?_map, List.getElem?_range hk] at hy
 cases hx; cases hy
 obtain ⟨a, b, h1, h2, h3, h4⟩ := he k hk
 have h3' := Zn.mp h3
 have q1 : (r.map PV.int)[k]? = some (.int a) := by rw [List.getElem?_map, h1]; rfl
 have q2 : (r.map PV.int)[k + 1]? = some (.int b) := by rw [List.getElem?_map, h2]; rfl
 have rl : (r.map PV.int).length <= 1000000 := by rw [length_map]; exact Qkb hr rfl
 generalize ez : ((k : Nat) : Int) = zk
 refine Wp.H (Wp.F8 (Wp.f (Wp.B (v := .lst (r.map .int)) rfl rfl (Wp.B (v := .int zk) rfl rfl ?_))))
 refine Wp.B1 ez.symm (.inl Zdh) q1 rl ?_
 refine Wp.f (Wp.B (v := .obj g) rfl rfl (Wp.f (Wp.B (v := .lst (r.map .int)) rfl rfl (Wp.C1 (Wp.B (v := .int zk) rfl rfl (Wp.F5 (Wp.H6 ?_)))))))
 refine Wp.B1 (k := k + 1) (by lia) (.inl Zdh) q2 rl ?_
 have hg1 : dGet (grV g m) b = some (.obj (g + 1 + b.toNat)) := Za5 (f := λ a => PV.obj (g + 1 + a.toNat)) (a := b) (l := upI m) h3
 refine Wp.D5 (getElem?_app hD) hg1 (Wp.K2 (getElem?_app (hrow _ (by lia))) ⟨?_, _, _, rfl⟩)
 rw [decide_eq_true h4]; rfl
theorem wp_c5 {P : List (List Int)} {bd : List Int} {pi : Nat} (hb : ∀ a ∈ bd, a ∈ upI P.length) (hl : bd.length <= 100) (hPl : P.length <= 100) (hfl : (bd.flatMap (pa P)).length <= 100) (hP : hp[pi]? = some (.lst (P.map partV))) {v0 v1 v2 v4 v5 v6 v7 v9 v10 v11 : PV} {Q : PV -> St -> Prop}
  (h : Q (.obj hp.length) ⟨[v0, v1, v2, .obj pi, v4, v5, v6, v7, .lst (bd.map .int), v9, v10, v11], hp ++ [.lst ((bd.flatMap (pa P)).map .int)]⟩) :
  Wp (compM fuel 3 (getVar 8) (Zg2 d)) ⟨[v0, v1, v2, .obj pi, v4, v5, v6, v7, .lst (bd.map .int), v9, v10, v11], hp⟩ Q E := by
 unfold Zg2 Zjs
 have hN : 2000 < fuel := by unfold fuel; exact Qkb Qr rfl
 generalize fuel = N at hN ⊢
 have pre : ∀ k, ((bd.take k).flatMap (pa P)).length <= (bd.flatMap (pa P)).length := λ k => by
  conv => rhs; rw [<- take_append_drop k bd, flatMap_append, length_append]
  lia
 refine Wp.D2 (Wp.B (v := .lst (bd.map .int)) rfl rfl ?_)
 try dsimp only
 refine Wp.C0 (λ k μ => ∃ a b c, μ = ⟨[v0, v1, v2, .obj pi, v4, v5, v6, v7, .lst (bd.map .int), v9, v10, v11, a, b, c], hp ++ [.lst (((bd.take k).flatMap (pa P)).map .int)]⟩) bd.length (λ k μ hI hk => ?_) N 0 _ (Qkxl hl hN rfl) (Nat.zero_le _)
  ⟨_, _, _, rfl⟩
 obtain ⟨a, b, c, rfl⟩ := hI
 rw [show getIt (.lst (bd.map .int)) ⟨[v0, v1, v2, .obj pi, v4, v5, v6, v7, .lst (bd.map .int), v9, v10, v11], hp⟩ k ⟨[v0, v1, v2, .obj pi, v4, v5, v6, v7, .lst (bd.map .int), v9, v10, v11, a, b, c], hp ++ [.lst (((bd.take k).flatMap (pa P)).map .int)]⟩ = some (bd.map PV.int)[k]? from rfl, List.getElem?_map]
 cases hx : bd[k]? with
 | some u =>
  right
  have hlt := (Qgl hx)
  have hu := hb u (mem_of_getElem? hx)
  have et : (bd.take (k + 1)).flatMap (pa P) = (bd.take k).flatMap (pa P) ++ pa P u := by
   rw [take_succ_eq_append_getElem hlt, (Qge hx), flatMap_append]; simp
  have hp1 := pre (k + 1)
  rw [et, length_append] at hp1
  refine ⟨hlt, .int u, rfl, Wp.two (Wp.H (Wp.f (Wp.B (v := .obj pi) rfl rfl (Wp.B (v := .int u) rfl rfl (Wp.B1 (Zk1 hu) (.inl (Zg (getElem?_app hP))) (Zhe hu) (by rw [length_map]; exact Qkb hPl rfl) ?_)))))⟩
  rw [et]
  generalize (bd.take k).flatMap (pa P) = pre at hp1 ⊢
  generalize pa P u = pu at hp1 ⊢
  refine Wp.C0 (λ j μ => ∃ c, μ = ⟨[v0, v1, v2, .obj pi, v4, v5, v6, v7, .lst (bd.map .int), v9, v10, v11, a, .int u, c], hp ++ [.lst ((pre ++ pu.take j).map .int)]⟩) pu.length (λ j μ hI hj => ?_) N 0 _ (by lia) (Nat.zero_le _)
   ⟨c, by simp⟩
  obtain ⟨c', rfl⟩ := hI
  rw [show ∀ μ0 μ, getIt (partV pu) μ0 j μ = some (pu.map PV.int)[j]? from λ _ _ => rfl, List.getElem?_map]
  cases hy : pu[j]? with
  | some y =>
   right
   have hlj := (Qgl hy)
   refine ⟨hlj, .int y, rfl, Wp.J5 (Wp.H (Wp.E3 (Wp.B (v := .int y) rfl rfl ⟨_, Zt, ?_, .int y, ?_⟩)))⟩
   ·rw [length_map, length_append, length_take]; lia
   ·rw [take_succ_eq_append_getElem hlj, (Qge hy)]
    simp
  | none =>
   left
   have hj' : j = pu.length := by have := Qgn hy; lia
   subst hj'
   rw [take_length]
   exact ⟨rfl, _, _, _, rfl⟩
 | none =>
  left
  have hk' : k = bd.length := by have := Qgn hx; lia
  subst hk'
  rw [take_length]
  exact ⟨rfl, h⟩
theorem wp_c4 {P : List (List Int)} {bd : List Int} {pi : Nat} (hPl : P.length <= 100) (hP : hp[pi]? = some (.lst (P.map partV))) {v0 v1 v2 v4 v5 v6 v7 v9 v10 v11 : PV} {Q : PV -> St -> Prop}
  (h : Q (.obj hp.length) ⟨[v0, v1, v2, .obj pi, v4, v5, v6, v7, .lst (bd.map .int), v9, v10, v11], hp ++ [.lst (((upI P.length).filter λ a => decide (a ∉ bd)).map λ a => partV (pa P a))]⟩) :
  Wp (compM fuel 2 ((argC ((argC (getVar 3) (Pure.pure [])) >>= pLen) (Pure.pure [])) >>= pRange) (Zg1 d)) ⟨[v0, v1, v2, .obj pi, v4, v5, v6, v7, .lst (bd.map .int), v9, v10, v11], hp⟩ Q E := by
 unfold Zg1
 have hN : 1000 < fuel := by unfold fuel; omega
 generalize fuel = N at hN ⊢
 refine Wp.G2 (pv := .rng 0 P.length 1) (upI P.length) (λ a => decide (a ∉ bd)) (λ a => partV (pa P a)) (by rw [Zak]; omega) (by rw [Zak]; omega)
  (Wp.C (Wp.R (Wp.C (Wp.R (Wp.B (v := .obj pi) rfl rfl (Wp.B0 (.inl (Zg hP)) (by rw [length_map]; omega) (Wp.V ⟨by rw [length_map], rfl⟩))))))) (λ k hk fr' z => ?_) (λ a u w z ha => ?_) h
 ·unfold upI at hk ⊢
  rw [map_map]; exact Zcv (by omega) (by simpa using hk)
 refine Wp.H (Wp.Y (Wp.B (v := .int a) rfl rfl (Wp.B (v := .lst (bd.map .int)) rfl rfl (Wp.E9 (Wp.J (f := pIn (.int a) (.lst (bd.map .int))) Zcj ⟨?_, _, _, rfl, λ _ => ?_⟩)))))
 ·rw [decide_not]
 ·exact Wp.f (Wp.B (v := .obj pi) rfl rfl (Wp.B (v := .int a) rfl rfl (Wp.B1 (Zk1 ha) (.inl (Zg (getElem?_app hP))) (Zhe ha) (by rw [length_map]; omega) ⟨rfl, rfl⟩)))
end

theorem Zk3 {n : Nat} {ts : Ed} {P : List (List Int)} (H : Pt n ts P) (hn : n <= 6) (htl : ts.length <= 10) : (∀ i, i < P.length -> (gE P ts ts.length i).length <= 60) ∧ (qT P ts).length <= 360 := by
 have hl := H.len
 have h1 : ∀ i, i < P.length -> (gE P ts ts.length i).length <= 60 := λ i _ => by
  have := Zky (P := P) (ts := ts) (c := i) ts.length
  have : ts.length * P.length <= 10 * 6 := Nat.mul_le_mul htl (Qkk hl hn)
  lia
 refine ⟨h1, ?_⟩
 have := Zml (m := P.length) (L := 60) (gr := gE P ts ts.length) h1
 have : P.length * 60 <= 6 * 60 := Nat.mul_le_mul (Qkk hl hn) Qr
 unfold qT
 lia
theorem Ztn {R : Int -> Int -> Prop} {l : List Int} (h : Adj R l) {k : Nat} (hk : k + 1 < l.length) : ∃ a b, l[k]? = some a ∧ l[k + 1]? = some b ∧ R a b := by
 refine ⟨l[k], l[k + 1], List.getElem?_eq_getElem _, List.getElem?_eq_getElem _, h (l.take k) (l.drop (k + 2)) _ _ ?_⟩
 rw [<- drop_eq_getElem_cons (by omega), <- drop_eq_getElem_cons (by omega), take_append_drop]
section
variable {hp : List MO} {fr : List PV} {E : Value -> St -> Prop}
theorem Zqy {n ti pi : Nat} {ts : Ed} {P : List (List Int)} (hn : n <= 6) (htl : ts.length <= 10) (tin : ∀ e ∈ ts, e.1 ∈ upI n ∧ e.2 ∈ upI n) (h7 : hp[ti]? = some (.lst (ts.map pairV))) (H : Pt n ts P) (hP : hp[pi]? = some (.lst (P.map partV))) {v0 v1 v4 v5 v6 v7 v8 v9 v10 v11 : PV} {Q : MF -> St -> Prop}
  (hbrk : ∀ hp' o ns T ly g, SAt d hp' o T ly -> Bt ns (qT P ts) T -> (∀ a, a ∈ ns ↔ a ∈ upI P.length) -> (∀ i, i < hp.length -> hp'[i]? = hp[i]?) -> (∀ i, Fp o T ly i -> hp.length <= i) -> (∀ a ∈ upI P.length, Fr (qT P ts) a) ->
   Q .brk ⟨[v0, v1, .obj ti, .obj pi, v4, .obj g, .obj o, .none, v8, v9, v10, v11], hp'⟩)
  (hnext : ∀ hp' pi' P' v5 v6 v7 v8 v9, Pt n ts P' -> P'.length < P.length -> hp'[pi']? = some (.lst (P'.map partV)) -> (∀ i, i < hp.length -> hp'[i]? = hp[i]?) -> Q .next ⟨[v0, v1, .obj ti, .obj pi', v4, v5, v6, v7, v8, v9, v10, v11], hp'⟩) :
  Wp (Zg5 d) ⟨[v0, v1, .obj ti, .obj pi, v4, v5, v6, v7, v8, v9, v10, v11], hp⟩ Q E := by
 unfold Zg5
 have hPl := H.len
 obtain ⟨hgl, hql⟩ := Zk3 H hn htl
 refine Wp.I (Wp.S (Wp.C (Wp.B9 (Wp.B (v := .obj pi) rfl rfl (Wp.R (Wp.B (v := .obj ti) rfl rfl (Zkz (Qkkb hPl hn rfl) htl hP h7 λ hpB g G => Wp.H ?_)))))))
 refine Wp.I (Wp.S (Wp.C (Wp.R (Wp.B (v := .obj g) rfl rfl (Zsp G (Qkk hPl (Qs (Qs (Qs (Qs hn))))) (λ i hi => ⟨Nat.le_trans (hgl i hi) (by decide), λ a ha => ?_⟩) λ hp2 o ns T ly S B hmem W => Wp.H ?_)))))
 ·obtain ⟨_, _, a', ha', _, _, rfl⟩ := (Zgu _).mp ha
  exact ⟨Int.natCast_nonneg _, Qcl ha'⟩
 have hns : ∀ a, a ∈ ns ↔ a ∈ upI P.length := λ a => by rw [hmem, Zn]
 have hsub : ∀ a ∈ T.order, ∀ s ∈ T.sc a, s ∈ T.order := λ a _ s hs => by
  rw [B.sc, Zap] at hs
  rw [B.order]; exact (B.tin _ hs).2
 have hol : T.order.length <= 6 := by
  have := Zp (ys := upI P.length) S.ond λ a ha => by
   rw [B.order] at ha
   exact (hns a).mp ha
  rw [Zak] at this
  exact Qkkk this hPl hn
 have hwt : Wt T.sc T.order [] + 1 < 500000 := by
  have := Zkt B.scLen T.order
  have e : T.order.length * (2 * (qT P ts).length + 1) <= 6 * 721 := Nat.mul_le_mul hol (Nat.add_le_add_right (Nat.mul_le_mul_left 2 hql) 1)
  unfold qT at e
  exact Qlb (Nat.succ_le_succ (Qkk this e)) rfl
 obtain ⟨res, hf, hnone, hring⟩ := Zgq hsub hwt
 rw [B.order, B.sc, Zmi B.tin] at hnone
 rw [B.order, B.sc] at hring
 have lenB := G.len
 have old2 : ∀ i, i < hp.length -> hp2[i]? = hp[i]? := λ i hi => (W.old i (Qll hi lenB)).trans (G.old i hi)
 refine Wp.I (Wp.S (Wp.B5 (Wp.B (v := .obj o) rfl rfl (Wp.C3 S (by kernel_rfl) (Wp.A3 (Zme S hsub (Qkb hol rfl) hf (by unfold fuel; lia) λ hp3 lenD old3 => Wp.H ?_))))))
 have lenC := W.len
 have oldA : ∀ i, i < hp.length -> hp3[i]? = hp[i]? := λ i hi => (old3 i (Qlll hi lenB lenC)).trans (old2 i hi)
 cases res with
 | none =>
  refine Wp.I (Wp.A2 (Wp.Y (Wp.B (v := .none) rfl rfl (Wp.L (Wp.A5 (x := .none) rfl ?_)))))
  refine Wp.I (Wp.mk ?_)
  refine hbrk hp3 o ns T ly g (S.keep λ i hi => old3 i (S.lt hi)) B hns oldA (λ i hi => ?_) λ a ha => hnone.mp rfl a ((hns a).mpr ha)
  have := W.new i hi
  exact Qkk lenB this
 | some r =>
  obtain ⟨⟨x, mid, er, hnd, hadj⟩, hrin, hrl⟩ := hring r rfl
  refine Wp.I (Wp.A2 (Wp.Y (Wp.B (v := .lst (r.map .int)) rfl rfl (Wp.L (Wp.A5 (x := .lst (r.map .int)) rfl ?_)))))
  refine Wp.N ?_
  have hrl' : r.length <= 7 := by
   have : ns.length <= 6 := by rw [<- B.order]; exact hol
   exact Qkk hrl (Nat.succ_le_succ this)
  have hml : mid.length <= 6 := by have q := hrl'; rw [er] at q; simp at q; exact Qkb q rfl
  have hdrop : (r.map PV.int).drop 1 = (mid ++ [x]).map .int := by rw [er]; rfl
  have hlen : (mid ++ [x]).length + 1 = r.length := by rw [er]; simp
  have hU : ∀ a ∈ x :: mid, a ∈ upI P.length := λ a ha => (hns a).mp (hrin a (by rw [er]; exact mem_append_left _ ha))
  have hmid : mid ≠ [] := λ e => by
   subst e
   have : (x, x) ∈ qT P ts := Zap.mp (hadj [] [] x x er)
   obtain ⟨e, _, _, _, _, h2, h3⟩ := Zdi.mp this
   exact h2 h3
  have hb2 : 2 <= (mid ++ [x]).length := by
   rw [length_append, length_singleton]
   have := length_pos_iff.mpr hmid
   exact Qkl this Qr
  have hadj' := hadj
  rw [er] at hadj'
  have hperm : (mid ++ [x]).Perm (x :: mid) := List.perm_append_singleton x mid
  have hbn : (mid ++ [x]).Nodup := hperm.nodup_iff.mpr hnd
  have hbU : ∀ a ∈ mid ++ [x], a ∈ upI P.length := λ a h => hU a (hperm.mem_iff.mp h)
  obtain ⟨hPt, hPlt⟩ := H.join hnd hmid hU hadj'
  refine Wp.I (Wp.S (Wp.F4 (Wp.B (v := .lst (r.map .int)) rfl rfl (Wp.F5 ⟨r.map .int, 1, rfl, rfl, by rw [length_map]; lia, by rw [length_map]; exact Qkb hrl' rfl, Wp.H ?_⟩))))
  rw [hdrop]
  have hlast : r.map PV.int = (x :: mid).map .int ++ [.int x] := by rw [er, map_append]; rfl
  have hedge : ∀ k, k < (mid ++ [x]).length -> ∃ a b, r[k]? = some a ∧ r[k + 1]? = some b ∧ b ∈ upI P.length ∧ a ∈ gE P ts ts.length b.toNat := λ k hk => by
   obtain ⟨a, b, q1, q2, q3⟩ := Ztn hadj (k := k) (by lia)
   have q4 := Zap.mp q3
   obtain ⟨i, hi, e, q5⟩ := Zmk.mp q4
   subst e
   exact ⟨a, i, q1, q2, Zn.mpr (⟨Int.natCast_nonneg _, Qcl hi⟩), by rw [Int.toNat_natCast]; exact q5⟩
  generalize hbd : mid ++ [x] = bd at *
  obtain ⟨ep, hD⟩ := G.dct
  have hD3 : hp3[g]? = some (.dct (grV g P.length) ep) := by
   have lg := (Qgl hD)
   exact (old3 g (Qll lg lenC)).trans ((W.old g lg).trans hD)
  have hR3 : ∀ i, i < P.length -> hp3[g + 1 + i]? = some (.lst ((gE P ts ts.length i).map .int)) := λ i hi => by
   have hr := G.row i hi
   have lg := (Qgl hr)
   exact (old3 _ (Qll lg lenC)).trans ((W.old _ lg).trans hr)
  have hP3 : hp3[pi]? = some (.lst (P.map partV)) := (oldA pi (Qgl hP)).trans hP
  have len3' : hp.length <= hp3.length := Qkkk lenB lenC lenD
  have bl : (bd.map PV.int).length = bd.length := length_map ..
  refine Wp.I (Wp.A2 (Wp.F1 (Wp.Y (Wp.C (Wp.R (Wp.B (v := .lst (bd.map .int)) rfl rfl (Wp.B0 (.inl rfl) (by lia) (Wp.F5 (Wp.G8 ?_)))))))))
  rw [bl, decide_eq_false (by exact λ q => Nat.not_lt_of_le hb2 (Qdl q))]
  refine Wp.F1 (Wp.Y (Wp.f (Wp.B (v := .lst (r.map .int)) rfl rfl (Wp.F5 ?_))))
  refine Wp.getI (k := 0) (.inl Zdh) (y := .int x) (by rw [er]; rfl) (by rw [length_map]; exact Qkb hrl' rfl) (Wp.f (Wp.B (v := .lst (r.map .int)) rfl rfl (Wp.H4 (Wp.F5 ⟨1, rfl, ?_⟩))))
  rw [hlast]
  refine Wp.K0 (by simp; lia) (Wp.G5 ?_)
  rw [beq_self_eq_true]
  refine Wp.F1 (Wp.B6 (Wp.C (Wp.R (wp_c7 hbn (by lia) (Wp.any (Zg Zt) (Zex _) (Wp.A4 ?_))))))
  have e1 : (bd.map λ _ => false).any id = false := by
   rw [any_eq_false]
   intro y hy
   obtain ⟨_, _, rfl⟩ := Qmm hy
   exact Bool.false_ne_true
  rw [e1]
  refine Wp.L (Wp.N ?_)
  refine Wp.I (Wp.A2 (Wp.E5 (Wp.B6 (Wp.C (Wp.R (wp_c6 (L := bd.length) rfl (by lia) (Qkb hrl' rfl) (Qkkb hPl hn rfl) (getElem?_app hD3) (λ i hi => getElem?_app (hR3 i hi)) hedge (Wp.all (Zg Zt) (Zex _) (Wp.A4 ?_))))))))
  have e2 : ((List.range bd.length).map λ _ => true).all id = true := by
   rw [all_eq_true]
   intro y hy
   obtain ⟨_, _, rfl⟩ := Qmm hy
   rfl
  rw [e2]
  refine Wp.N ?_
  have hfl : (bd.flatMap (pa P)).length <= 6 := by
   have h1 := hPt.perm.length_eq
   have h2 := (sortI_perm (bd.flatMap (pa P))).length_eq
   rw [Zak] at h1
   unfold joinP at h1
   rw [List.flatten_append, length_append, List.flatten_singleton] at h1
   lia
  refine Wp.I (Wp.S (Wp.C (Wp.R (wp_c5 hbU (by lia) (Qkkb hPl hn rfl) (Qkb hfl rfl) (getElem?_app (getElem?_app hP3)) (Wp.E6 (Zg Zt) (Qlb hfl rfl) (Wp.H ?_))))))
  refine Wp.I (Wp.S (Wp.catT (wp_c4 (by lia) (getElem?_app (getElem?_app (getElem?_app hP3))) (Wp.D7 (Wp.R (Wp.B (v := partV (sortI (bd.flatMap (pa P)))) rfl rfl ⟨by simp, _, _, Zg Zt, rfl, ?_, Wp.H (Wp.N ?_)⟩))))))
  ·have := length_filter_le (λ a => decide (a ∉ bd)) (upI P.length)
   rw [Zak] at this
   simp only [length_map, length_singleton]
   lia
  ·refine hnext _ _ (joinP P bd) _ _ _ _ _ hPt hPlt ?_ λ i hi => ?_
   ·refine (show _ = some (MO.lst _) from Zt).trans ?_
    unfold joinP
    rw [map_append, map_map]; rfl
   ·rw [List.getElem?_append_left (by simp; lia), List.getElem?_append_left (by simp; lia), List.getElem?_append_left (by simp; lia), List.getElem?_append_left (by simp; lia), List.getElem?_append_left (by lia)]
    exact oldA i hi
end

noncomputable def roundV (es : List (List Int)) : PV := .lst (es.map partV)
section
variable {hp : List MO} {fr : List PV} {E : Value -> St -> Prop}
theorem Wp.K4 {f : PM PV} {μ : St} {Q : List PV -> St -> Prop} (h : Wp f μ (λ x μ' => ∃ xs, x = .tup xs ∧ xs.length <= 1000000 ∧ Q xs μ') E) : Wp (Mine.argS f) μ Q E :=
 Wp.C (h.mono (λ x μ' hh => by
  obtain ⟨xs, e, hl, h⟩ := hh
  exact Wp.C (Wp.D8 (.inr e) (Wp.C (Wp.A6 (decide_eq_true hl) (Wp.L h))))) λ _ _ e => e)
theorem Zqz {P : List (List Int)} {rd : List Int} {pi : Nat} (hU : ∀ a ∈ rd, a ∈ upI P.length) (hl : rd.length <= 100) (hPl : P.length <= 100) (hP : hp[pi]? = some (.lst (P.map partV))) {v0 v1 v2 v4 v5 v6 v7 v8 v9 v10 : PV} {Q : PV -> St -> Prop}
  (h : Q (.obj hp.length) ⟨[v0, v1, v2, .obj pi, v4, v5, v6, v7, v8, v9, v10, .tup (rd.map .int)], hp ++ [.lst ((rd.map (pa P)).map partV)]⟩) :
  Wp (compM fuel 2 (getVar 11) (Zg0 d)) ⟨[v0, v1, v2, .obj pi, v4, v5, v6, v7, v8, v9, v10, .tup (rd.map .int)], hp⟩ Q E := by
 unfold Zg0
 have hN : 1000 < fuel := by unfold fuel; omega
 generalize fuel = N at hN ⊢
 refine Wp.C9 (pv := .tup (rd.map .int)) (rd.map .int) ((rd.map (pa P)).map partV) (by rw [length_map]; omega) (by simp) (by simp; omega)
  (Wp.B7 rfl rfl) (λ k _ fr' z => Zo9) (λ k x y u w z hx hy => ?_) h
 rw [map_map, List.getElem?_map] at hy
 rw [List.getElem?_map] at hx
 cases hk : rd[k]? with
 | none => rw [hk] at hx; cases hx
 | some a =>
  rw [hk] at hx hy
  cases hx; cases hy
  have hu := hU a (mem_of_getElem? hk)
  refine Wp.H (Wp.f (Wp.B (v := .obj pi) rfl rfl (Wp.B (v := .int a) rfl rfl (Wp.B1 (Zk1 hu) (.inl (Zg (getElem?_app hP))) (Zhe hu) (by rw [length_map]; omega) ⟨rfl, _, _, rfl⟩))))
structure Rd (n : Nat) (ts : Ed) (P : List (List Int)) (ns : List Int) (T : TSt) (r : Nat) (O D rd : List Int) : Prop where
 K : Kn ns (qT P ts) T O D rd
 dm : ∀ a, a ∈ D ↔ a ∈ upI P.length ∧ qL (qT P ts) r a
 od : ∀ a ∈ O, a ∈ D
theorem Rd.rm {n : Nat} {ts : Ed} {P : List (List Int)} {ns : List Int} {T : TSt} {r : Nat} {O D rd : List Int} (R : Rd n ts P ns T r O D rd) (hns : ∀ a, a ∈ ns ↔ a ∈ upI P.length) :
  ∀ a, a ∈ rd ↔ a ∈ upI P.length ∧ qL (qT P ts) (r + 1) a ∧ ¬ qL (qT P ts) r a := λ a => by
 rw [R.K.rm, hns]
 refine and_congr_right λ ha => ?_
 have h1 : a ∉ O ↔ ¬ qL (qT P ts) r a := ⟨λ h q => h (R.K.dO a ((R.dm a).mpr ⟨ha, q⟩)), λ h q => h ((R.dm a).mp (R.od a q)).2⟩
 have h2 : allIn (qT P ts) D a ↔ qL (qT P ts) (r + 1) a := ⟨λ h p hp => ((R.dm p).mp (h p hp)).2, λ h p hp => (R.dm p).mpr ⟨(qT_in _ hp).1, h p hp⟩⟩
 rw [h1, h2, and_comm]
theorem Zq0 {n ti pi ir o r lo : Nat} {ts : Ed} {P : List (List Int)} {rss : List (List (List Int))} {ns O D rd : List Int} {T : TSt} {ly : Lay} (KS : KSorts) (hn : n <= 6) (htl : ts.length <= 10) (tin : ∀ e ∈ ts, e.1 ∈ upI n ∧ e.2 ∈ upI n) (H : Pt n ts P) (hf : ∀ a ∈ upI P.length, Fr (qT P ts) a)
  (hns : ∀ a, a ∈ ns ↔ a ∈ upI P.length) (hP : hp[pi]? = some (.lst (P.map partV))) (hpl : pi < lo) (hfp : ∀ i, Fp o T ly i -> lo <= i ∧ i < ir) (S : SAt d hp o T ly) (R : Rd n ts P ns T r O D rd) (hR : hp[ir]? = some (.lst (rss.map roundV))) (hrl : rss.length <= 100) {v0 v1 v4 v5 v7 v8 v9 v11 : PV} {Q : MF -> St -> Prop}
  (h : ∀ hp' T' O' D' rd' v11, SAt d hp' o T' ly -> Rd n ts P ns T' (r + 1) O' D' rd' -> (∀ i, Fp o T' ly i ↔ Fp o T ly i) -> hp'[ir]? = some (.lst ((rss ++ [metL (wM ts n) n (hT (wM ts n) n n) r n]).map roundV)) -> (∀ i, i < hp.length -> ¬ Fp o T ly i -> i ≠ ir -> hp'[i]? = hp[i]?) -> hp.length <= hp'.length -> Q .next ⟨[v0, v1, .obj ti, .obj pi, v4, v5, .obj o, v7, v8, v9, .obj ir, v11], hp'⟩) :
  Wp (Ze1 d) ⟨[v0, v1, .obj ti, .obj pi, v4, v5, .obj o, v7, v8, v9, .obj ir, v11], hp⟩ Q E := by
 unfold Ze1
 have hPl := H.len
 obtain ⟨_, hql⟩ := Zk3 H hn htl
 have hnl : ns.length <= 6 := by
  have := Zp (ys := upI P.length) R.K.nnd λ a ha => (hns a).mp ha
  rw [Zak] at this
  exact Qkkk this hPl hn
 have hrm := R.rm hns
 have hrdl := R.K.rdLen
 have hrn := R.K.rnd
 have lir := (Qgl hR)
 refine Wp.I (Wp.S (Wp.B5 (Wp.B (v := .obj o) rfl rfl (Wp.C3 S (by kernel_rfl) (Wp.A3 (Zta S R.K (Qkb hnl rfl) λ hpB TB S1 KB s1 fB => Wp.H ?_))))))
 have hU : ∀ a ∈ rd, a ∈ upI P.length := λ a ha => ((hrm a).mp ha).1
 have npi : ¬ Fp o T ly pi := λ q => by have := (hfp pi q).1; exact Qnlk hpl this rfl
 have nir : ¬ Fp o T ly ir := λ q => by have := (hfp ir q).2; exact Qnl this rfl
 have hP1 := (s1.2 pi npi).trans hP
 have hR1 := (s1.2 ir nir).trans hR
 obtain ⟨hhd, hne⟩ := H.heads hrn hU
 have hmm : (rd.map (pa P)).map partV = (rd.map (pa P)).map partV := rfl
 obtain ⟨es, hes, hperm, hpw⟩ := Zpd KS (ds := rd.map (pa P)) (by rw [length_map]; exact Qklb hrdl hnl rfl) hne hhd
 have hme := H.roundEq tin hf hrm hperm hpw
 refine Wp.I (Wp.A8 (Wp.j (Wp.B (v := .obj ir) rfl rfl (Wp.W hR1 (Wp.C (Wp.R (Zqz hU (Qkkb hrdl hnl rfl) (Qkkb hPl hn rfl) hP1 (Wp.H9 (Zg Zt) (by rw [length_map]; exact Qklb hrdl hnl rfl) ?_))))))))
 rw [hes]
 refine Wp.l (getElem?_app hR1) (by rw [length_map]; exact Qkb hrl rfl) ?_
 have S2 : SAt d ((hpB ++ [MO.lst ((rd.map (pa P)).map partV)]).set ir (.lst (rss.map roundV ++ [PV.lst (es.map partV)]))) o TB ly := S1.keep λ i hi => by
  have q := hfp i ((fB i).mp hi)
  rw [List.getElem?_set_ne (by lia), List.getElem?_append_left (S1.lt hi)]
 have e2 : rss.map roundV ++ [PV.lst (es.map partV)] = (rss ++ [metL (wM ts n) n (hT (wM ts n) n n) r n]).map roundV := by rw [<- hme, map_append]; rfl
 have l₁ := s1.1
 have old2 : ∀ i, i < hp.length -> ¬ Fp o T ly i -> i ≠ ir -> ((hpB ++ [MO.lst ((rd.map (pa P)).map partV)]).set ir (.lst (rss.map roundV ++ [PV.lst (es.map partV)])))[i]? = hp[i]? := λ i hi hnf hne => by
  rw [List.getElem?_set_ne (Ne.symm hne), List.getElem?_append_left (by exact Qle hi l₁)]
  exact s1.2 i hnf
 have RC : ((hpB ++ [MO.lst ((rd.map (pa P)).map partV)]).set ir (.lst (rss.map roundV ++ [PV.lst (es.map partV)])))[ir]? = some (.lst (rss.map roundV ++ [PV.lst (es.map partV)])) := Zm (getElem?_app hR1)
 have lC : ((hpB ++ [MO.lst ((rd.map (pa P)).map partV)]).set ir (.lst (rss.map roundV ++ [PV.lst (es.map partV)]))).length = hp.length + 1 := by simp; exact l₁
 generalize (hpB ++ [MO.lst ((rd.map (pa P)).map partV)]).set ir (.lst (rss.map roundV ++ [PV.lst (es.map partV)])) = hp2 at S2 old2 RC lC ⊢
 refine Wp.I (Wp.A8 (Wp.B5 (Wp.B (v := .obj o) rfl rfl (Wp.C3 S2 (by kernel_rfl) (Wp.K4 (Wp.B (v := .tup (rd.map .int)) rfl rfl ⟨_, rfl, by rw [length_map]; exact Qkkb hrdl hnl rfl, Zqr S2 KB (Qkb hnl rfl) (Qkb hql rfl) rd hrn (λ b hb => ⟨mem_append_right _ hb, λ q => ((hrm b).mp hb).2.2 ((R.dm b).mp q).2⟩) λ hp3 T3 S3 KD s3 fD => Wp.N ?_⟩))))))
 have f13 : ∀ i, Fp o T3 ly i ↔ Fp o T ly i := λ i => (fD i).trans (fB i)
 refine h hp3 T3 _ _ _ _ S3 ⟨KD, λ a => ?_, λ a ha => ?_⟩ f13 ?_ (λ i hi hnf hne => ?_) ?_
 ·rw [mem_append, R.dm, hrm]
  constructor
  ·rintro (⟨h1, h2⟩ | ⟨h1, h2, _⟩)
   ·exact ⟨h1, Zby h2⟩
   ·exact ⟨h1, h2⟩
  ·rintro ⟨h1, h2⟩
   by_cases q : qL (qT P ts) r a
   ·exact .inl ⟨h1, q⟩
   ·exact .inr ⟨h1, h2, q⟩
 ·rcases Qma ha with q | q
  ·exact mem_append_left _ (R.od a q)
  ·exact mem_append_right _ q
 ·rw [s3.2 ir λ q => nir ((fB ir).mp q), RC, e2]
 ·rw [s3.2 i λ q => hnf ((fB i).mp q)]
  exact old2 i hi hnf hne
 ·have := s3.1; lia
end

theorem Zhx {α : Type} {hp : List MO} {n : Nat} {l : List α} {g : α -> PV} {k : α -> PyData} (h : ∀ x ∈ l, reify hp n (g x) = some (k x)) : reify hp (n + 1) (.lst (l.map g)) = some (.list (l.map k)) := by
 show (mapO (reify hp n) (l.map g)).map PyData.list = _
 rw [Zbx h]; rfl
noncomputable def encR (es : List (List Int)) : PyData := .list (es.map encL)
theorem Zlt {hp : List MO} {n : Nat} {es : List (List Int)} : reify hp (n + 3) (roundV es) = some (encR es) := Zhx λ p _ => Zhx λ _ _ => rfl
theorem Zq1 (p : List Int) : (encL p).canLay0 = true := Ze4 (k := PyData.int) (λ _ => rfl) p
theorem Zq2 (es : List (List Int)) : (encR es).canLay0 = true := Ze4 (k := encL) Zq1 es
theorem Zny (rss : List (List (List Int))) : (PyData.list (rss.map encR)).canLay0 = true := Ze4 (k := encR) Zq2 rss
theorem Znz {hp : List MO} {ir lo : Nat} {qs : List (Nat × List (Nat × List Int))} (hR : hp[ir]? = some (.lst (adQ qs))) (C : QL hp lo qs) : reify hp 16 (.obj ir) = some (.list ((tellQ qs).map encR)) := by
 have := Zb7 (n := 15) (k := λ q : Nat × List (Nat × List Int) => encR (q.2.map (·.2))) hR λ q hq => by
  have := Zb7 (n := 14) (k := λ p : Nat × List Int => encL p.2) (C q hq).2.1 (C q hq).2.2.reify
  rw [this]
  unfold encR
  rw [map_map]; rfl
 rw [this]
 unfold tellQ
 rw [map_map]; rfl
noncomputable def rest3 (d : Ad) : PM MF := sSeq (sIf (bOr (bCmp .IsNot (getVar 7) (pure PV.none)) (bOr (bCmp .IsNot (eMeth d.TS ("prepare" : Str) (getVar 6) (pure []) (Zbd d)) (pure PV.none)) (pure false))) (sSeq (sRet (pure (PV.bool false))) (sNext)) (sNext)) (sSeq (sAsg (eList true (pure [])) (setVar 10)) (sSeq (sFor ((argC ((argC (getVar 1) (pure [])) >>= pLen) (pure [])) >>= pRange) (setVar 4) (Ze1 d) fuel) (sSeq (sRet (eAnd (eCmp .Eq (getVar 10) ((argC ((argC (getVar 1) (pure [])) >>= pLen) (argC (getVar 2) (pure []))) >>= Zbk d)) (eNot (bVal (eMeth d.TS ("is_active" : Str) (getVar 6) (pure []) (Zb2 d)))))) (sNext))))
inductive In3 (n : Nat) (ts : Ed) (P : List (List Int)) (ns : List Int) (ni ti pi o ir lo : Nat) (hp : List MO) (TB : TSt) (ly : Lay) (v0 v5 v8 v9 : PV) (k : Nat) : St -> Prop
 | mk {v4 v11 : PV} {hp' : List MO} {T : TSt} {O D rd : List Int} (S : SAt d hp' o T ly) (R : Rd n ts P ns T k O D rd) (f : ∀ i, Fp o T ly i ↔ Fp o TB ly i) (r : hp'[ir]? = some (.lst (((List.range k).map λ lv => metL (wM ts n) n (hT (wM ts n) n n) lv n).map roundV)))
  (old : ∀ i, i < lo -> hp'[i]? = hp[i]?) (len : hp.length <= hp'.length) : In3 n ts P ns ni ti pi o ir lo hp TB ly v0 v5 v8 v9 k ⟨[v0, .obj ni, .obj ti, .obj pi, v4, v5, .obj o, .none, v8, v9, .obj ir, v11], hp'⟩
inductive Lp3 (xs ns : List Int) (ts : Ed) (n ni ti : Nat) (k : Nat) : St -> Prop
 | mk {pi : Nat} {P : List (List Int)} {v4 v5 v6 v7 v8 v9 : PV} {hp : List MO} (h1 : hp[pi]? = some (.lst (P.map partV))) (H : Pt n ts P) (h2 : P.length + k <= n) (h3 : hp[ni]? = some (.lst (ns.map .int))) (h4 : hp[ti]? = some (.lst (ts.map pairV))) :
  Lp3 xs ns ts n ni ti k ⟨[.lst (xs.map .int), .obj ni, .obj ti, .obj pi, v4, v5, v6, v7, v8, v9, .undef, .undef], hp⟩
section
variable {hp : List MO} {fr : List PV} {E : Value -> St -> Prop}
theorem Zq3 {n ni ti pi o lo : Nat} {ts : Ed} {P : List (List Int)} {nm ns : List Int} {T : TSt} {ly : Lay} (KS : KSorts) (hn : n <= 6) (hnm : nm.length = n) (htl : ts.length <= 10) (tin : ∀ e ∈ ts, e.1 ∈ upI n ∧ e.2 ∈ upI n) (H : Pt n ts P) (hf : ∀ a ∈ upI P.length, Fr (qT P ts) a)
  (hns : ∀ a, a ∈ ns ↔ a ∈ upI P.length) (hP : hp[pi]? = some (.lst (P.map partV))) (h6 : hp[ni]? = some (.lst (nm.map .int))) (h7 : hp[ti]? = some (.lst (ts.map pairV))) (hl : lo <= hp.length) (lp : pi < lo) (l6 : ni < lo) (l7 : ti < lo) (hfp : ∀ i, Fp o T ly i -> lo <= i)
  (S : SAt d hp o T ly) (B : Bt ns (qT P ts) T) {v0 v4 v5 v8 v9 v11 : PV} {Q : MF -> St -> Prop} (h : ∀ μ, Q (.ret (.bool true)) μ) :
  Wp (rest3 d) ⟨[v0, .obj ni, .obj ti, .obj pi, v4, v5, .obj o, .none, v8, v9, .undef, v11], hp⟩ Q E := by
 unfold rest3
 have hPl := H.len
 obtain ⟨_, hql⟩ := Zk3 H hn htl
 have nnd : ns.Nodup := by rw [<- B.order]; exact S.ond
 have hnl : ns.length <= 6 := by
  have := Zp (ys := upI P.length) nnd λ a ha => (hns a).mp ha
  rw [Zak] at this
  exact Qkkk this hPl hn
 refine Wp.I (Wp.A2 (Wp.F1 (Wp.Y (Wp.B (v := .none) rfl rfl (Wp.L (Wp.A7 (x := .none) rfl ?_))))))
 refine Wp.F1 (Wp.Y (Wp.B5 (Wp.B (v := .obj o) rfl rfl (Wp.C3 S (by kernel_rfl) (Wp.A3 (Zqs S B nnd (Qkb hnl rfl) (Qkb hql rfl) (λ a ha => hf a ((hns a).mp ha)) λ hpB ly1 TB S1 KB g₁ => ?_))))))
 refine Wp.L (Wp.A7 (x := .none) rfl ?_)
 try dsimp only
 refine Wp.L (Wp.N ?_)
 have l₁ := g₁.len
 have nfp : ∀ {i}, i < lo -> ¬ Fp o T ly i := λ hi q => by have := hfp _ q; lia
 have fp1 : ∀ i, Fp o TB ly1 i -> lo <= i := λ i q => (g₁.new i q).elim (hfp i) λ q => Qkk hl q
 have hP1 := (g₁.old pi (Qll lp hl) (nfp lp)).trans hP
 have h61 := (g₁.old ni (Qll l6 hl) (nfp l6)).trans h6
 have h71 := (g₁.old ti (Qll l7 hl) (nfp l7)).trans h7
 refine Wp.I (Wp.S (Wp.B8 (Wp.A3 ⟨by simp, Wp.H ?_⟩)))
 try dsimp only
 have S2 : SAt d (hpB ++ [MO.lst []]) o TB ly1 := S1.keep λ i hi => List.getElem?_append_left (S1.lt hi)
 have hPC : (hpB ++ [MO.lst []])[pi]? = _ := getElem?_app hP1
 have h62 : (hpB ++ [MO.lst []])[ni]? = _ := getElem?_app h61
 have h72 : (hpB ++ [MO.lst []])[ti]? = _ := getElem?_app h71
 have fp2 : ∀ i, Fp o TB ly1 i -> lo <= i ∧ i < hpB.length := λ i q => ⟨fp1 i q, S1.lt q⟩
 have lenC : (hpB ++ [MO.lst []]).length = hpB.length + 1 := by simp
 have RC : (hpB ++ [MO.lst []])[hpB.length]? = some (.lst (((List.range 0).map λ lv => metL (wM ts n) n (hT (wM ts n) n n) lv n).map roundV)) := Zt
 generalize hpB ++ [MO.lst []] = hp2 at S2 hPC h62 h72 lenC RC ⊢
 refine Wp.I (Wp.i (Wp.C (Wp.R (Wp.C (Wp.R (Wp.B (v := .obj ni) rfl rfl (Wp.B0 (.inl (Zg h62)) (by rw [length_map]; lia) (Wp.V ?_))))))))
 rw [length_map, hnm]
 have hN : 1000 < fuel := by unfold fuel; exact Qkb Qr rfl
 generalize fuel = N at hN ⊢
 refine Wp.X (In3 n ts P ns ni ti pi o hpB.length lo hp2 TB ly1 v0 v5 v8 v9) n (λ k μ hI hk => ?_) N 0 _ (Qkxl hn hN rfl) (Nat.zero_le _)
  (.mk S2 ⟨KB, λ a => ⟨λ q => (nomatch q), λ q => q.2.elim⟩, λ a q => (nomatch q)⟩ (λ i => Iff.rfl) RC (λ i _ => rfl) Qr)
 obtain ⟨S3, R, fD, R3, old3, lenD⟩ := hI
 rename_i w4 w11 hp3 T3 O D rd
 rw [Z0 (by exact Qkb hn rfl) hk]
 by_cases hkn : k < n
 ·right
  rw [if_pos hkn]
  refine ⟨hkn, _, rfl, Wp.H ?_⟩
  refine Zq0 KS hn htl tin H hf hns ((old3 pi lp).trans hPC) lp (λ i q => fp2 i ((fD i).mp q)) S3 R R3 (by rw [length_map, length_range]; exact Qkkb hk hn rfl) λ hp' T' O' D' rd' v11' S' R' f' Rr old' len' => .mk S' R' (λ i => (f' i).trans (fD i)) ?_ (λ i hi => ?_) (Qkk lenD len')
  ·rw [Rr, range_succ, map_append (l₁ := List.range k)]; rfl
  ·rw [old' i (by lia) (λ q => by have := (fp2 i ((fD i).mp q)).1; lia) (by lia)]
   exact old3 i hi
 left
 rw [if_neg hkn]
 have hk' : k = n := by lia
 subst hk'
 refine ⟨rfl, ?_⟩
 have hall : ∀ a ∈ upI P.length, qL (qT P ts) k a := λ a ha => by
  have := Zpf qT_in hf a ha
  rw [Zak] at this
  exact qL_le hPl this
 have hrd : rd = [] := by
  refine List.eq_nil_iff_forall_not_mem.mpr λ a ha => ?_
  obtain ⟨h1, _, h3⟩ := (R.rm hns a).mp ha
  exact h3 (hall a h1)
 have hDO : D.length = O.length := Nat.le_antisymm (Zp R.K.dnd R.K.dO) (Zp R.K.ond R.od)
 refine Wp.I (Wp.D3 (Wp.eAnd (Wp.F8 (Wp.B (v := .obj hpB.length) rfl rfl (Wp.C (Wp.B9 (Wp.C (Wp.R (Wp.B (v := .obj ni) rfl rfl (Wp.B0 (.inl (Zg ((old3 ni l6).trans h62))) (by rw [length_map]; lia) (Wp.R (Wp.B (v := .obj ti) rfl rfl ?_))))))))))))
 rw [length_map, hnm]
 refine Zim (Qkb hn rfl) ((old3 ti l7).trans h72) rfl λ hp4 ir2 qs old4 R4 C₄ eq => ?_
 have lR := (Qgl R3)
 have e1 : reify hp4 16 (.obj hpB.length) = some (.list (((List.range k).map λ lv => metL (wM ts k) k (hT (wM ts k) k k) lv k).map encR)) := Zb7 (n := 15) ((old4 _ lR).trans R3) λ es _ => Zlt
 have e2 := Znz R4 C₄
 rw [eq] at e2
 refine Wp.I7 e1 e2 (Zny _) ⟨true, rfl, λ q => (nomatch q), λ _ => ?_⟩
 have S4 : SAt d hp4 o T3 ly1 := S3.keep λ i hi => old4 i (S3.lt hi)
 refine Wp.A9 (Wp.B6 (Wp.B5 (Wp.B (v := .obj o) rfl rfl (Wp.C3 S4 (by kernel_rfl) (Wp.A3 (Zkb S4 R.K.ready (by rw [hrd]; exact Nat.zero_le _) ?_))))))
 rw [R.K.fin, R.K.passed, hDO, hrd, decide_eq_false (Int.lt_irrefl _)]
 exact Wp.A4 (h _)
theorem Zst (KS : KSorts) {xs : List Int} (hl : xs.length <= 63) : Wp (k_law d [.lst (xs.map .int)]) ⟨fr, hp⟩ (λ v _ => v = .bool true) (λ _ _ => False) := by
 refine Wp.A1 rfl ?_
 unfold g_law
 refine Wp.I (Wp.S (Wp.C (Wp.R (Wp.B (v := .lst (xs.map .int)) rfl rfl (Zkr hl λ hpB ni ti n ns ts _ _ _ _ _ h2 hn D h6 h7 => Wp.F2 (Wp.H (Wp.H ?_)))))))
 have l6 := (Qgl h6)
 have l7 := (Qgl h7)
 have hnl := D.len
 have hmem : ∀ a, a ∈ ns ↔ a ∈ upI n := λ a => by rw [D.mem, Zn]
 have tin : ∀ e ∈ ts, e.1 ∈ upI n ∧ e.2 ∈ upI n := λ e he => ⟨(hmem _).mp (D.tin e he).1, (hmem _).mp (D.tin e he).2⟩
 have hN : 1000 < fuel := by unfold fuel; exact Qkb Qr rfl
 have H0 : Pt n ts (ns.map λ a => [a]) := by
  refine ⟨?_, λ p hp => ?_, λ p hp => ?_, λ p hp a ha b hb => ?_⟩
  ·have e : (ns.map λ a => [a]).flatten = ns := by rw [<- flatMap_def]; simp
   rw [e]
   exact (List.perm_ext_iff_of_nodup D.nnd (Zc7 n)).mpr hmem
  ·obtain ⟨a, _, rfl⟩ := Qmm hp
   exact List.cons_ne_nil _ _
  ·obtain ⟨a, _, rfl⟩ := Qmm hp
   exact List.pairwise_singleton _ _
  ·obtain ⟨c, _, rfl⟩ := Qmm hp
   rw [mem_singleton] at ha hb
   exact .inl (ha.trans hb.symm)
 unfold Zma
 refine Wp.I (Wp.S (Wp.C9 (pv := .obj ni) (ns.map .int) ((ns.map λ a => [a]).map partV) (by rw [length_map]; lia) (by simp) (by simp; lia)
  (Wp.B (v := .obj ni) rfl rfl ⟨rfl, rfl⟩) (λ k hk fr' zz => Zeu h6) (λ k x y u w zz hx hy => ?_) (Wp.H ?_)))
 ·rw [map_map, List.getElem?_map] at hy
  rw [List.getElem?_map] at hx
  cases hk : ns[k]? with
  | none => rw [hk] at hx; cases hx
  | some a =>
   rw [hk] at hx hy
   cases hx; cases hy
   exact Wp.H (Wp.D7 (Wp.R (Wp.B (v := .int a) rfl rfl ⟨by simp, rfl, _, _, rfl⟩)))
 have P1 : (hpB ++ [MO.lst ((ns.map λ a => [a]).map partV)])[hpB.length]? = some (.lst ((ns.map λ a => [a]).map partV)) := Zt
 have h61 : (hpB ++ [MO.lst ((ns.map λ a => [a]).map partV)])[ni]? = _ := getElem?_app h6
 have h71 : (hpB ++ [MO.lst ((ns.map λ a => [a]).map partV)])[ti]? = _ := getElem?_app h7
 generalize hpB ++ [MO.lst ((ns.map λ a => [a]).map partV)] = hp2 at P1 h61 h71 ⊢
 try dsimp only
 have l6' := (Qgl h61)
 have l7' := (Qgl h71)
 refine Wp.I (Wp.i (Wp.C (Wp.R (Wp.C (Wp.R (Wp.B (v := .obj ni) rfl rfl (Wp.B0 (.inl (Zg h61)) (by rw [length_map]; lia) (Wp.V ?_))))))))
 rw [length_map, hnl]
 have rest : ∀ {μ : St} {Q : MF -> St -> Prop} {E : Value -> St -> Prop}, Wp (rest3 d) μ Q E -> SQ (rest3 d) Q E .next μ := λ h => h
 refine Wp.X (Lp3 xs ns ts n ni ti) n (λ k μ hI hk => ?_) fuel 0 _ (Qlb hn rfl) (Nat.zero_le _)
  (.mk P1 H0 (by rw [length_map]; exact Qke Qr hnl.symm) h61 h71)
 obtain ⟨P3, H, hPk, h63, h73⟩ := hI
 rename_i pi P v4 v5 v6 v7 v8 v9 hp3
 rw [Z0 (by exact Qkb hn rfl) hk]
 have hpos : 0 < P.length := by
  obtain ⟨u, hu, _⟩ := H.find (x := 0) (Zn.mpr (by lia))
  have := Zn.mp hu
  lia
 right
 rw [if_pos (by lia)]
 refine ⟨by lia, _, rfl, Wp.H ?_⟩
 have lp3 := (Qgl P3)
 have l63 := (Qgl h63)
 have l73 := (Qgl h73)
 refine Zqy hn D.tl tin h73 H P3 (λ hp' o nsT T ly g S B hns old hfp hf => ?_) λ hp' pi' P' w5 w6 w7 w8 w9 H' hlt hP' old => .mk hP' H' (by lia) ((old ni l63).trans h63) ((old ti l73).trans h73)
 refine rest (Zq3 KS hn hnl D.tl tin H hf hns ((old pi lp3).trans P3) ((old ni l63).trans h63) ((old ti l73).trans h73) (lo := hp3.length) ?_ lp3 l63 l73 hfp S B λ μ => rfl)
 have := S.lt (i := o) (.inl rfl)
 have := hfp o (.inl rfl)
 lia
end
theorem PL3 (KS : KSorts) (xs : List Int) (hl : xs.length <= 63) : ∃ μ', k_law d [.lst (xs.map .int)] ⟨[], []⟩ = .ok (.bool true) μ' := by
 obtain ⟨v, μ', e, hv⟩ := (Zst KS hl).run
 subst hv
 exact ⟨μ', e⟩
end Mine
open PySem PySem.W PyProof.Rows Mine
set_option maxRecDepth 100000 in
set_option maxHeartbeats 8000000 in
theorem PySem.Challenge.cw_sr0004_03_holds : PySem.Challenge.rw_sr0004_03.Holds := by
 w_on; refine holds_law (by decide +kernel) λ said => ?_
 refine holds_open (q := view PySem.Challenge.pw_sr0004_03 [0, 2, 3, 4, 5, 6, 8, 9, 10, 11]) (loose := [Str.ofString "_NodeInfo"]) (Xt := λ s => xlAt (view PySem.Challenge.pw_sr0004_03 [0, 2, 3, 4, 5, 6, 8, 9, 10, 11]) [] s && recOk (RowW.records (OpenRow.toRowW (OpenLaw.row PySem.Challenge.rw_sr0004_03))) s) (XP := XL (view PySem.Challenge.pw_sr0004_03 [0, 2, 3, 4, 5, 6, 8, 9, 10, 11]) []) (Yf := Hook.obs (obsHook seenAt3 seen3)) (Ya := Hook.val (obsHook seenAt3 seen3)) (YP := Hook.says (obsHook seenAt3 seen3)) (N := 2504) ?hl (Hook.of (obsHook seenAt3 seen3)) (Hook.keeps (obsHook seenAt3 seen3)) (λ s e => xl_of s (Bool.and_eq_true_iff.mp e).1) XL.keeps (by rfl) (by rfl) (by rfl) (λ s e => recFacts_of (Bool.and_eq_true_iff.mp e).2) (by rfl) (by first | assumption | decide +kernel) (by decide +kernel) ⟨rfl, rfl, rfl, rfl, rfl, by decide +kernel⟩ ?hw ?hc
 case hl => exact λ w => by kernel_rfl
 (case hw => w_witness2)
 w_strict (
  intro w s0 s1 mg mb G Y fa o pm cd doc dV kV ho hd hcd hD hmg hg args vals as hpre hlay hrd hwl hlo
  obtain ⟨K, KX, eK⟩ := Zsz Y
  refine Ground.open G ?_
  intro T B D TE TW
  wrow_args hpre hlay hrd hwl hlo
  (case hc =>
   have CC := Zru (prog := PySem.Challenge.pw_sr0004_03) (w := w) (os := s1.os) KX T.g T.b T.nolimit T.builtins
   have FF := facts3 (c := { prog := PySem.Challenge.pw_sr0004_03, w := w, B := s1.heap, os := s1.os, mg := mg, mb := mb, K := K }) eK
   have PL : ∀ (xs : List Int), xs.length <= 63 -> ∃ μ', k_law d [.lst (xs.map .int)] ⟨[], []⟩ = .ok (.bool true) μ' := Mine.PL3 (Mine.Zpc PySem.Challenge.pw_sr0004_03 w s1)
   have efa : fa = 163 := by
    have q := mg_of KX T.g FF.g_law
    rw [hmg] at q
    cases q; rfl
   clear hd hcd hD hmg
   subst efa
   rename_i xs _ _ _ _ _ _ _ l vs _ hL _ w1 _ hI _ hlen _
   obtain ⟨μ', hok⟩ := PL xs (by omega)
   have hv : VRs [] s1.heap [.ref l] [.lst (xs.map .int)] := by
    cases w1 with
    | list h1 h2 =>
     obtain ⟨o', ho', _, n', hd'⟩ := hL
     rw [h1] at ho'
     cases ho'
     have e := (Data.seq.inj hd').1
     rw [e] at h1
     exact .cons (.lst h1 (λ h => nomatch h) (Zjd hI)) .nil
   refine (Zs6 FF).call (F := fx0 default) (by decide) rfl [.ref l] [.lst (xs.map .int)] callerA [] ⟨[], []⟩ s1 _ _ (actx0 default) (rep0 CC rfl rfl hg default) hv (by rw [hok]; exact λ e => nomatch e) (λ v y φ' μ1 s' e R' x' r => ?_) λ e x φ' μ1 s' he => by rw [hok] at he; cases he
   rw [hok] at e
   cases e
   cases r
   refine ⟨.inl ⟨.bool true, .bool true, [], rfl, λ _ => ?_, ?_, ?_, ?_⟩, .of_keep R'.keep, R'.os, ?_⟩
   ·first | rfl | (intro; rfl) | simp
   ·first | exact .bool _ | exact ReadsW.of_reads .bool | constructor
   ·show WTm.holds _ (.eq .res (.lit (.bool true))) _ = true
    kernel_rfl
   ·exact λ _ => ⟨List.nodup_nil, λ a h => nomatch h⟩
   ·exact AllBare.of_eq R'.gens

  ))
