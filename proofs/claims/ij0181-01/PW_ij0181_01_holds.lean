import PyProof.Rows.All
import PyProof.Rows.SortWalk
import Flt.Sum
import KE.KItem
import KE.KBoundM
import KE.KCallOwn
import KE.KDictIter
import KE.KDictOf
import KE.KLooksOwn
import KE.KSort
import KE.KMulAny
import KE.KOwnIter
import KE.KSortTup
import KE.KStar
import KE.KStopIter
import KE.KSuperObj
import Wide.FinOn
import OpenK.AllK
import Wide.All
import PySem.Challenge.RW_ij0181_01
set_option linter.unusedVariables false
set_option maxRecDepth 100000
set_option Elab.async false
set_option compiler.extract_closed false
set_option genSizeOf false
set_option genInjectivity false
noncomputable section
section
namespace Mine
open PySem
inductive V where
 | none | bool (b : Bool) | int (i : Int) | mrk (i : Int) | flt (n : Int) | str (s : Str)
 | lst (xs : List V) | tup (xs : List V) | rng (n : Nat) | obj (i : Nat) | dv (i : Nat)
 | glob (v : Value)
 deriving Inhabited
set_option genInjectivity true in
inductive O where
 | list (xs : List V) | flist (xs : List V) | dict (es : List (Int × V)) | fdict (es : List (Int × V)) | set (xs : List Int)
 | inst (C : Addr) (d : Nat) | idict (fs : List (Str × V)) | slots (C : Addr) (fs : List (Option V))
 | lit (xs : List V) (k : Nat) | litx | bm (it : Nat)
 deriving Inhabited
inductive FK where
 | lst (vs : List Value) | tup (vs : List Value) | rng (n : Nat) | dv (d : Addr) | dct (des : Array DictEntry) (ep : Nat) | whole (o : Obj)
inductive Own where
 | base | fz | st (i : Nat)
structure Gh where
 kt : Tok → Option (Int ⊕ Int)
 fz : Addr → Option FK
 own : Addr → Option Own
structure Gh.le (G G' : Gh) : Prop where
 kt : ∀ t c, G.kt t = some c → G'.kt t = some c
 fz : ∀ a k, G.fz a = some k → G'.fz a = some k
 own : ∀ a k, G.own a = some k → G'.own a = some k
theorem Gh.le.refl (G : Gh) : G.le G := ⟨fun _ _ h => h, fun _ _ h => h, fun _ _ h => h⟩
theorem Gh.le.trans {G₁ G₂ G₃ : Gh} (x : G₁.le G₂) (y : G₂.le G₃) : G₁.le G₃ :=
 ⟨fun t c h => y.kt t c (x.kt t c h), fun a k h => y.fz a k (x.fz a k h), fun a k h => y.own a k (x.own a k h)⟩
noncomputable def small (n : Int) : Bool := decide (-2 ≤ n) && decide (n ≤ 36)
noncomputable def small2 (n : Int) : Bool := decide (-2 ≤ n) && decide (n ≤ 32)
noncomputable def hf (n : Int) : UInt64 := Float64.ofFrac (decide (n < 0)) n.natAbs 2
mutual
noncomputable def VR (G : Gh) : V → Value → Prop
 | .none, w => w = .none
 | .bool b, w => w = .bool b
 | .int i, w => ∃ t, w = .int i t
 | .mrk i, w => ∃ t, w = .int i t ∧ G.kt t = some (.inl i)
 | .flt n, w => ∃ t, w = .float (hf n) t ∧ G.kt t = some (.inr n)
 | .str x, w => ∃ t, w = .str x t
 | .lst xs, w => ∃ a vs, w = .ref a ∧ G.fz a = some (.lst vs) ∧ VRs G xs vs
 | .tup xs, w => ∃ a vs, w = .ref a ∧ G.fz a = some (.tup vs) ∧ VRs G xs vs
 | .rng n, w => ∃ a, w = .ref a ∧ G.fz a = some (.rng n)
 | .obj i, w => ∃ a, w = .ref a ∧ G.own a = some (.st i)
 | .dv i, w => ∃ a d, w = .ref a ∧ G.fz a = some (.dv d) ∧ G.own d = some (.st i)
 | .glob v, w => w = v
noncomputable def VRs (G : Gh) : List V → List Value → Prop
 | [], vs => vs = []
 | x :: xs, vs => ∃ v us, vs = v :: us ∧ VR G x v ∧ VRs G xs us
end
mutual
theorem VR.mono {G G' : Gh} (hg : G.le G') : ∀ {x : V} {w : Value}, VR G x w → VR G' x w
 | .none, _, h => h
 | .bool _, _, h => h
 | .int _, _, h => h
 | .mrk _, _, h => Exists.imp (fun _ x => ⟨x.1, hg.kt _ _ x.2⟩) h
 | .flt _, _, h => Exists.imp (fun _ x => ⟨x.1, hg.kt _ _ x.2⟩) h
 | .str _, _, h => h
 | .lst _, _, h => Exists.imp (fun _ x => Exists.imp (fun _ y => ⟨y.1, hg.fz _ _ y.2.1, VRs.mono hg y.2.2⟩) x) h
 | .tup _, _, h => Exists.imp (fun _ x => Exists.imp (fun _ y => ⟨y.1, hg.fz _ _ y.2.1, VRs.mono hg y.2.2⟩) x) h
 | .rng _, _, h => Exists.imp (fun _ x => ⟨x.1, hg.fz _ _ x.2⟩) h
 | .obj _, _, h => Exists.imp (fun _ x => ⟨x.1, hg.own _ _ x.2⟩) h
 | .dv _, _, h => Exists.imp (fun _ x => Exists.imp (fun _ y => ⟨y.1, hg.fz _ _ y.2.1, hg.own _ _ y.2.2⟩) x) h
 | .glob _, _, h => h
theorem VRs.mono {G G' : Gh} (hg : G.le G') : ∀ {xs : List V} {vs : List Value}, VRs G xs vs → VRs G' xs vs
 | [], _, h => h
 | _ :: _, _, h => Exists.imp (fun _ x => Exists.imp (fun _ y => ⟨y.1, VR.mono hg y.2.1, VRs.mono hg y.2.2⟩) x) h
end
section
variable {G : Gh}
theorem VRs.nil : VRs G [] [] := rfl
theorem VRs.cons {x : V} {xs : List V} {v : Value} {vs : List Value} (h : VR G x v) (t : VRs G xs vs) : VRs G (x :: xs) (v :: vs) := Exists.intro v ⟨vs, rfl, h, t⟩
theorem VRs.cons_inv {x : V} {xs : List V} {vs : List Value} (h : VRs G (x :: xs) vs) : ∃ v us, vs = v :: us ∧ VR G x v ∧ VRs G xs us := h
theorem VRs.nil_inv {vs : List Value} (h : VRs G [] vs) : vs = [] := h
theorem VRs.length : ∀ {xs : List V} {vs : List Value}, VRs G xs vs → xs.length = vs.length
 | [], vs, h => by rw [h.nil_inv]; rfl
 | x :: xs, vs, h => by
  obtain ⟨v, us, rfl, _, r⟩ := h.cons_inv
  simp [VRs.length r]
theorem VRs.append : ∀ {xs ys : List V} {vs us : List Value}, VRs G xs vs → VRs G ys us → VRs G (xs ++ ys) (vs ++ us)
 | [], _, _, _, h, h' => by rw [h.nil_inv]; exact h'
 | x :: xs, _, _, _, h, h' => by
  obtain ⟨v, us, rfl, k, r⟩ := h.cons_inv
  exact VRs.cons k (VRs.append r h')
theorem VRs.get : ∀ {xs : List V} {vs : List Value} {i : Nat} {x : V}, VRs G xs vs → xs[i]? = some x → ∃ v, vs[i]? = some v ∧ VR G x v
 | [], _, _, _, _, e => by simp at e
 | y :: xs, vs, i, x, h, e => by
  obtain ⟨v, us, rfl, k, r⟩ := h.cons_inv
  cases i with
  | zero => simp at e; subst e; exact ⟨v, by simp, k⟩
  | succ i => simp at e; obtain ⟨u, h1, h2⟩ := VRs.get r e; exact ⟨u, by simpa using h1, h2⟩
theorem VRs.get_none {xs : List V} {vs : List Value} {i : Nat} (h : VRs G xs vs) (e : xs[i]? = none) : vs[i]? = none := by
 rw [List.getElem?_eq_none_iff] at e ⊢
 rw [← h.length]; exact e
theorem VRs.set : ∀ {xs : List V} {vs : List Value} {i : Nat} {x : V} {v : Value}, VRs G xs vs → VR G x v → VRs G (xs.set i x) (vs.set i v)
 | [], _, _, _, _, h, _ => by rw [h.nil_inv]; exact VRs.nil
 | y :: xs, vs, i, x, v, h, k => by
  obtain ⟨u, us, rfl, k', r⟩ := h.cons_inv
  cases i with
  | zero => exact VRs.cons k r
  | succ i => exact VRs.cons k' (VRs.set r k)
theorem VRs.drop : ∀ {xs : List V} {vs : List Value} (n : Nat), VRs G xs vs → VRs G (xs.drop n) (vs.drop n)
 | [], _, n, h => by rw [h.nil_inv]; simpa using VRs.nil
 | x :: xs, vs, 0, h => h
 | x :: xs, vs, n + 1, h => by
  obtain ⟨v, us, rfl, _, r⟩ := h.cons_inv
  exact VRs.drop n r
theorem VRs.take : ∀ {xs : List V} {vs : List Value} (n : Nat), VRs G xs vs → VRs G (xs.take n) (vs.take n)
 | [], _, n, h => by rw [h.nil_inv]; simpa using VRs.nil
 | x :: xs, vs, 0, h => VRs.nil
 | x :: xs, vs, n + 1, h => by
  obtain ⟨v, us, rfl, k, r⟩ := h.cons_inv
  exact VRs.cons k (VRs.take n r)
theorem VRs.snoc {xs : List V} {vs : List Value} {x : V} {v : Value} (h : VRs G xs vs) (k : VR G x v) : VRs G (xs ++ [x]) (vs ++ [v]) := h.append (VRs.cons k VRs.nil)
theorem VRs.dropLast {xs : List V} {vs : List Value} (h : VRs G xs vs) : VRs G xs.dropLast vs.dropLast := by
 rw [List.dropLast_eq_take, List.dropLast_eq_take, h.length]; exact h.take _
end
section
variable {P A B C D E F G H I J : Prop}
theorem a3 (h : A ∧ B ∧ C) (k : A → B → C → P) : P := k h.1 h.2.1 h.2.2
theorem a4 (h : A ∧ B ∧ C ∧ D) (k : A → B → C → D → P) : P := k h.1 h.2.1 h.2.2.1 h.2.2.2
theorem a5 (h : A ∧ B ∧ C ∧ D ∧ E) (k : A → B → C → D → E → P) : P := k h.1 h.2.1 h.2.2.1 h.2.2.2.1 h.2.2.2.2
end
section
variable {P : Prop} {α β γ δ ε : Type}
theorem e1 {R : α → Prop} (h : ∃ a, R a) (k : ∀ a, R a → P) : P := h.elim k
theorem e2 {R : α → β → Prop} (h : ∃ a b, R a b) (k : ∀ a b, R a b → P) : P := h.elim fun a h => h.elim fun b h => k a b h
theorem e3 {R : α → β → γ → Prop} (h : ∃ a b c, R a b c) (k : ∀ a b c, R a b c → P) : P := h.elim fun a h => h.elim fun b h => h.elim fun c h => k a b c h
theorem e4 {R : α → β → γ → δ → Prop} (h : ∃ a b c d, R a b c d) (k : ∀ a b c d, R a b c d → P) : P := h.elim fun a h => h.elim fun b h => h.elim fun c h => h.elim fun d h => k a b c d h
theorem e5 {R : α → β → γ → δ → ε → Prop} (h : ∃ a b c d e, R a b c d e) (k : ∀ a b c d e, R a b c d e → P) : P := h.elim fun a h => h.elim fun b h => h.elim fun c h => h.elim fun d h => h.elim fun e h => k a b c d e h
end
section
variable {a b d k n m N q j p : Nat}
theorem nZ (h : b < n) (hb : Nat.ble a b = true) : a < n := Nat.lt_of_le_of_lt (Nat.le_of_ble_eq_true hb) h
theorem nS (h : b < n) (hb : Nat.ble (a + 1) b = true) : a < n - 1 := Nat.lt_sub_of_add_lt (Nat.lt_of_le_of_lt (Nat.le_of_ble_eq_true hb) h)
theorem bud (hn : 0 < n) (hb : b ≤ a + k) (h : a + k * n ≤ m) : b + k * (n - 1) ≤ m := by
 cases n with
 | zero => cases hn
 | succ n => exact Nat.le_trans (Nat.add_le_add_right hb _) (by rw [Nat.add_assoc, Nat.add_comm k, ← Nat.mul_succ]; exact h)
theorem u1 (h : a + (n + 1) < m) : a + 1 + n < m := by rw [Nat.add_right_comm]; exact h
theorem u0 (h : a + n < m) : a < m := Nat.lt_of_le_of_lt (Nat.le_add_right _ _) h
theorem ad (h : Nat.ble j k = true) : a + j ≤ a + k := Nat.add_le_add_left (Nat.le_of_ble_eq_true h) a
theorem sub_step (h : m - j = k + 1) : m - (j + 1) = k := congrArg Nat.pred h
theorem sub_lt (h : m - j = k + 1) : j < m := Nat.lt_of_sub_eq_succ h
theorem sub_end (h : m - j = 0) : m ≤ j := Nat.le_of_sub_eq_zero h
theorem nA (h : Nat.beq j k = false) : N + j ≠ N + k := fun e => Nat.ne_of_beq_eq_false h (Nat.add_left_cancel e)
theorem nB (h : Nat.beq 0 k = false) : N ≠ N + k := nA (j := 0) h
theorem nC (h : Nat.beq k 0 = false) : N + k ≠ N := nA (k := 0) h
theorem nD (h : N + 3 < q) (hk : Nat.ble k 3 = true) : N + k ≠ q := Nat.ne_of_lt (Nat.lt_of_le_of_lt (Nat.add_le_add_left (Nat.le_of_ble_eq_true hk) N) h)
theorem nE (h : N + 3 < q) (hk : Nat.ble k 3 = true) : q ≠ N + k := (nD h hk).symm
theorem nF (h : N + 3 < q) : N ≠ q := nD (k := 0) h rfl
theorem nG (h : N + 3 < q) : q ≠ N := (nF h).symm
theorem nH (h : N + 3 < q) (hk : Nat.ble k 3 = true) : N + k ≠ q + 1 := nD (Nat.lt_succ_of_lt h) hk
theorem nI (h : N + 3 < q) (hk : Nat.ble k 3 = true) : q + 1 ≠ N + k := (nH h hk).symm
theorem nJ (h : N + 3 < q) : N ≠ q + 1 := nF (Nat.lt_succ_of_lt h)
theorem nK (h : N + 3 < q) : q + 1 ≠ N := (nJ h).symm
theorem nL (h : p < N) : N + k ≠ p := Nat.ne_of_gt (Nat.lt_of_lt_of_le h (Nat.le_add_right N k))
theorem nM (h : p < N) : p ≠ N + k := (nL h).symm
theorem nN (h : p < N) : N ≠ p := Nat.ne_of_gt h
theorem nO (h : p < N) : p ≠ N := Nat.ne_of_lt h
theorem nP (h : p + 1 < N) : N + k ≠ p := nL (Nat.lt_of_succ_lt h)
theorem nQ (h : p + 1 < N) : p ≠ N + k := (nP h).symm
theorem nR (h : N + 3 < q) : N ≤ q := Nat.le_of_lt (Nat.lt_of_le_of_lt (Nat.le_add_right N 3) h)
end
end Mine
end
section
namespace Mine
open PySem
structure Cx where
 prog : Program
 w : World
 K : PySem.W.Frag
 mg : Str → Option Value
 mb : Str → Option Value
 base : Heap
 os : OsState
 gens : Array GenState
 drawn : Drawn
noncomputable abbrev Cx.M (c : Cx) : Model := model c.prog c.w
noncomputable abbrev XE := Addr × (Obj → Prop)
noncomputable def O.fixed : O → Bool | .flist _ => true | .fdict _ => true | _ => false
noncomputable def FzAt (h : Heap) (a : Addr) : FK → Prop
 | .lst vs => ∃ n, h.get? a = some ⟨.type "list", none, .seq vs.toArray n, #[]⟩
 | .tup vs => ∃ n, h.get? a = some ⟨.type "tuple", none, .seq vs.toArray n, #[]⟩
 | .rng n => ∃ t u v, h.get? a = some { cls := .type "range", dict := none, data := .fields #[.int 0 t, .int n u, .int 1 v], slots := #[] }
 | .dv d => h.IsValuesView a d
 | .dct des ep => ∃ o, h.get? a = some o ∧ o.ExactDict ∧ o.data = .dict des ep
 | .whole o => h.get? a = some o
theorem FzAt.keep {h h' : Heap} {a : Addr} (hk : ∀ o, h.get? a = some o → h'.get? a = some o) : ∀ {k : FK}, FzAt h a k → FzAt h' a k
 | .lst _, ⟨n, e⟩ => ⟨n, hk _ e⟩
 | .tup _, ⟨n, e⟩ => ⟨n, hk _ e⟩
 | .rng _, ⟨t, u, v, e⟩ => ⟨t, u, v, hk _ e⟩
 | .dv _, ⟨o, e, r⟩ => ⟨o, hk _ e, r⟩
 | .dct _ _, ⟨o, e, r⟩ => ⟨o, hk _ e, r⟩
 | .whole _, e => hk _ e
theorem FzAt.live {h : Heap} {a : Addr} : ∀ {k : FK}, FzAt h a k → ∃ o, h.get? a = some o
 | .lst _, ⟨_, e⟩ => ⟨_, e⟩
 | .tup _, ⟨_, e⟩ => ⟨_, e⟩
 | .rng _, ⟨_, _, _, e⟩ => ⟨_, e⟩
 | .dv _, ⟨_, e, _⟩ => ⟨_, e⟩
 | .dct _ _, ⟨_, e, _⟩ => ⟨_, e⟩
 | .whole _, e => ⟨_, e⟩
noncomputable def SR (G : Gh) : Option V → Option Value → Prop
 | none, w => w = none
 | some x, w => ∃ v, w = some v ∧ VR G x v
noncomputable def noDict : Obj := { cls := .type "dict", data := .dict #[] }
noncomputable def KVs {κ : Type} (G : Gh) : List (κ × V) → List (κ × Value) → Prop
 | [], kvs => kvs = []
 | e :: es, kvs => ∃ v us, kvs = (e.1, v) :: us ∧ VR G e.2 v ∧ KVs G es us
theorem KVs.mono {κ : Type} {G G' : Gh} (hg : G.le G') : ∀ {es : List (κ × V)} {kvs : List (κ × Value)}, KVs G es kvs → KVs G' es kvs
 | [], _, h => h
 | _ :: _, _, ⟨v, us, e, h, r⟩ => ⟨v, us, e, h.mono hg, KVs.mono hg r⟩
inductive ListAt (G : Gh) (h : Heap) (a : Addr) (xs : List V) : Prop
 | mk (vs : List Value) (n : Nat) (e : h.get? a = some ⟨.type "list", none, .seq vs.toArray n, #[]⟩) (r : VRs G xs vs)
inductive FListAt (G : Gh) (a : Addr) (xs : List V) : Prop
 | mk (vs : List Value) (e : G.fz a = some (.lst vs)) (r : VRs G xs vs)
inductive DictAt (c : Cx) (G : Gh) (h : Heap) (a : Addr) (es : List (Int × V)) : Prop
 | mk (z : a ≠ sysModules) (kvs : List (Int × Value)) (e : h.DictOf (intKind c.prog c.w) a kvs) (r : KVs G es kvs)
inductive FDictAt (c : Cx) (G : Gh) (a : Addr) (es : List (Int × V)) : Prop
 | mk (z : a ≠ sysModules) (des : Array DictEntry) (ep : Nat) (kvs : List (Int × Value)) (e : G.fz a = some (.dct des ep)) (k1 : KeysOf (intKind c.prog c.w) des) (k2 : Pairs (intKind c.prog c.w) des.toList kvs) (k3 : (kvs.map (·.1)).Nodup) (r : KVs G es kvs)
inductive OwnAt (G : Gh) (h : Heap) (a C : Addr) (d : Nat) : Prop
 | mk (b : Addr) (e : h.get? a = some ⟨.ref C, some b, .plain, #[]⟩) (k : G.own b = some (.st d))
inductive IdictAt (c : Cx) (G : Gh) (h : Heap) (a : Addr) (fs : List (Str × V)) : Prop
 | mk (kvs : List (Str × Value)) (e : h.DictOf (strKind c.prog c.w) a kvs) (r : KVs G fs kvs)
inductive SlotsAt (G : Gh) (h : Heap) (a C : Addr) (fs : List (Option V)) : Prop
 | mk (db : Addr) (sl : Array (Option Value)) (e : h.get? a = some ⟨.ref C, some db, .plain, sl⟩) (k0 : G.fz db = some (.whole noDict)) (k : sl.size ≤ fs.length) (r : ∀ (i : Nat) (f : Option V), fs[i]? = some f → SR G f ((sl[i]?).join))
inductive LitAt (G : Gh) (h : Heap) (a : Addr) (xs : List V) (k : Nat) : Prop
 | mk (l : Addr) (vs : List Value) (e : h.IsListIter a l k) (nd : h.NoDictAt (.ref a)) (k : G.fz l = some (.lst vs)) (r : VRs G xs vs)
inductive LitxAt (h : Heap) (a : Addr) : Prop
 | mk (o : Obj) (i : Int) (e : h.get? a = some o) (t : o.cls = .type "list_iterator") (d : o.data = .fields #[.none, .int i 0])
inductive BmAt (G : Gh) (h : Heap) (a : Addr) (it : Nat) : Prop
 | mk (b : Addr) (e : h.get? a = some ⟨.type "method-wrapper", none, .fields #[.builtin "list_iterator.__next__", .ref b], #[]⟩) (k : G.own b = some (.st it))
noncomputable def ORs (c : Cx) (G : Gh) (h : Heap) (a : Addr) : O → Prop
 | .list xs => ListAt G h a xs
 | .flist xs => FListAt G a xs
 | .dict es => DictAt c G h a es
 | .fdict es => FDictAt c G a es
 | .set ns => h.SetOf (intKind c.prog c.w) a (fun k => decide (k ∈ ns)) ns.length
 | .inst C d => OwnAt G h a C d
 | .idict fs => IdictAt c G h a fs
 | .slots C fs => SlotsAt G h a C fs
 | .lit xs k => LitAt G h a xs k
 | .litx => LitxAt h a
 | .bm it => BmAt G h a it
theorem SR.mono {G G' : Gh} (hg : G.le G') : ∀ {f : Option V} {w : Option Value}, SR G f w → SR G' f w
 | none, _, h => h
 | some _, _, ⟨v, e, h⟩ => ⟨v, e, h.mono hg⟩
theorem ORs.mono {c : Cx} {G G' : Gh} {h : Heap} {a : Addr} (hg : G.le G') : ∀ {o : O}, ORs c G h a o → ORs c G' h a o
 | .list _, ⟨vs, n, e, r⟩ => ⟨vs, n, e, r.mono hg⟩
 | .flist _, ⟨vs, e, r⟩ => ⟨vs, hg.fz _ _ e, r.mono hg⟩
 | .dict _, ⟨z, kvs, e, r⟩ => ⟨z, kvs, e, r.mono hg⟩
 | .fdict _, ⟨z, des, ep, kvs, e, k1, k2, k3, r⟩ => ⟨z, des, ep, kvs, hg.fz _ _ e, k1, k2, k3, r.mono hg⟩
 | .set _, x => x
 | .inst _ _, ⟨b, e, k⟩ => ⟨b, e, hg.own _ _ k⟩
 | .idict _, ⟨kvs, e, r⟩ => ⟨kvs, e, r.mono hg⟩
 | .slots _ _, ⟨db, sl, e, k0, k, r⟩ => ⟨db, sl, e, hg.fz _ _ k0, k, fun i f hf => (r i f hf).mono hg⟩
 | .lit _ _, ⟨l, vs, e, nd, k, r⟩ => ⟨l, vs, e, nd, hg.fz _ _ k, r.mono hg⟩
 | .litx, x => x
 | .bm _, ⟨b, e, k⟩ => ⟨b, e, hg.own _ _ k⟩
theorem ORs.keep {c : Cx} {G : Gh} {h h' : Heap} {a : Addr} (hk : ∀ o, h.get? a = some o → h'.get? a = some o) : ∀ {o : O}, ORs c G h a o → ORs c G h' a o
 | .list _, ⟨vs, n, e, r⟩ => ⟨vs, n, hk _ e, r⟩
 | .flist _, x => x
 | .dict _, ⟨z, kvs, ⟨o, es, ep, e, r⟩, r'⟩ => ⟨z, kvs, ⟨o, es, ep, hk _ e, r⟩, r'⟩
 | .fdict _, x => x
 | .set _, ⟨o, es, ep, t, e, r⟩ => ⟨o, es, ep, t, hk _ e, r⟩
 | .inst _ _, ⟨b, e, k⟩ => ⟨b, hk _ e, k⟩
 | .idict _, ⟨kvs, ⟨o, es, ep, e, r⟩, r'⟩ => ⟨kvs, ⟨o, es, ep, hk _ e, r⟩, r'⟩
 | .slots _ _, ⟨db, sl, e, k0, k, r⟩ => ⟨db, sl, hk _ e, k0, k, r⟩
 | .lit _ _, ⟨l, vs, ⟨o, e, q⟩, ⟨o', e', q'⟩, k, r⟩ => ⟨l, vs, ⟨o, hk _ e, q⟩, ⟨o', hk _ e', q'⟩, k, r⟩
 | .litx, ⟨o, i, e, t, d⟩ => ⟨o, i, hk _ e, t, d⟩
 | .bm _, ⟨b, e, k⟩ => ⟨b, hk _ e, k⟩
structure Rel (c : Cx) (G : Gh) (xs : List XE) (σ : List O) (s : Shared) : Prop where
 keep : ∀ b o, c.base.get? b = some o → s.heap.get? b = some o
 baseOwn : ∀ b o, c.base.get? b = some o → G.own b = some .base
 fzc : ∀ a k, G.fz a = some k → FzAt s.heap a k ∧ (G.own a = some .fz ∨ ∃ i o, G.own a = some (.st i) ∧ σ[i]? = some o ∧ o.fixed = true)
 stc : ∀ a i, G.own a = some (.st i) → ∃ o, σ[i]? = some o ∧ (∃ ob, s.heap.get? a = some ob) ∧ ORs c G s.heap a o
 inj : ∀ a a' i, G.own a = some (.st i) → G.own a' = some (.st i) → a = a'
 live : ∀ a k, G.own a = some k → ∃ ob, s.heap.get? a = some ob
 xsc : ∀ e ∈ xs, G.own e.1 = none ∧ ∃ ob, s.heap.get? e.1 = some ob ∧ e.2 ob
 nd : (xs.map (·.1)).Nodup
 tok : ∀ t k, G.kt t = some k → 0 < t ∧ t < s.toks
 pos : 0 < s.toks
 gens : s.gens = c.gens
 drawn : s.drawn = c.drawn
 os : s.os = c.os
section
variable {c : Cx} {G : Gh} {xs : List XE} {σ : List O} {s : Shared}
theorem Rel.fresh (R : Rel c G xs σ s) {a : Addr} (h : s.heap.get? a = none) : G.own a = none := by
 cases e : G.own a with
 | none => rfl
 | some k => obtain ⟨ob, ho⟩ := R.live a k e; rw [h] at ho; cases ho
theorem Rel.fresh_fz (R : Rel c G xs σ s) {a : Addr} (h : s.heap.get? a = none) : G.fz a = none := by
 cases e : G.fz a with
 | none => rfl
 | some k => obtain ⟨ob, ho⟩ := (R.fzc a k e).1.live; rw [h] at ho; cases ho
theorem Rel.fresh_x (R : Rel c G xs σ s) {a : Addr} (h : s.heap.get? a = none) : a ∉ xs.map (·.1) := fun hm => by
 obtain ⟨e, he, rfl⟩ := List.mem_map.mp hm
 obtain ⟨_, ob, ho, _⟩ := R.xsc e he
 rw [h] at ho; cases ho
theorem get_size (h : Heap) : h.get? h.objs.size = none := by
 cases e : h.get? h.objs.size with
 | none => rfl
 | some o => exact absurd (Heap.lt_size e) (Nat.lt_irrefl _)
theorem Rel.ext (R : Rel c G xs σ s) {h' : Heap} {tk : Nat} (hk : ∀ b o, s.heap.get? b = some o → h'.get? b = some o) (ht : s.toks ≤ tk) :
  Rel c G xs σ { s with heap := h', toks := tk } where
 keep := fun b o e => hk _ _ (R.keep b o e)
 baseOwn := R.baseOwn
 fzc := fun a k e => ⟨(R.fzc a k e).1.keep fun o => hk a o, (R.fzc a k e).2⟩
 stc := fun a i e => by
  obtain ⟨o, h1, ⟨ob, h2⟩, h3⟩ := R.stc a i e
  exact ⟨o, h1, ⟨ob, hk _ _ h2⟩, h3.keep fun o => hk a o⟩
 inj := R.inj
 live := fun a k e => by obtain ⟨ob, h⟩ := R.live a k e; exact ⟨ob, hk _ _ h⟩
 xsc := fun e he => by obtain ⟨h1, ob, h2, h3⟩ := R.xsc e he; exact ⟨h1, ob, hk _ _ h2, h3⟩
 nd := R.nd
 tok := fun t k e => ⟨(R.tok t k e).1, Nat.lt_of_lt_of_le (R.tok t k e).2 ht⟩
 pos := Nat.lt_of_lt_of_le R.pos ht
 gens := R.gens
 drawn := R.drawn
 os := R.os
theorem Rel.toks (R : Rel c G xs σ s) {tk : Nat} (ht : s.toks ≤ tk) : Rel c G xs σ { s with toks := tk } := R.ext (fun _ _ e => e) ht
noncomputable def setX (a : Addr) (P : Obj → Prop) (xs : List XE) : List XE := xs.map fun e => if e.1 = a then (a, P) else e
theorem setX_fst (a : Addr) (P : Obj → Prop) (xs : List XE) : (setX a P xs).map (·.1) = xs.map (·.1) := by
 unfold setX
 rw [List.map_map]
 refine List.map_congr_left fun e _ => ?_
 show (if e.1 = a then (a, P) else e).1 = e.1
 split
 ·rename_i h; exact h.symm
 ·rfl
theorem mem_setX {a : Addr} {P : Obj → Prop} {xs : List XE} (h : a ∈ xs.map (·.1)) : (a, P) ∈ setX a P xs := by
 obtain ⟨e, he, rfl⟩ := List.mem_map.mp h
 exact List.mem_map.mpr ⟨e, he, by simp⟩
theorem mem_setX_ne {a : Addr} {P : Obj → Prop} {xs : List XE} {e : XE} (h : e ∈ xs) (hn : e.1 ≠ a) : e ∈ setX a P xs :=
 List.mem_map.mpr ⟨e, h, by simp [hn]⟩
theorem Rel.changeX (R : Rel c G xs σ s) {a : Addr} {P : Obj → Prop} (hm : a ∈ xs.map (·.1)) {h' : Heap} {tk : Nat} (hs : Heap.ExtBut a s.heap h')
  (hp : ∃ ob, h'.get? a = some ob ∧ P ob) (ht : s.toks ≤ tk) : Rel c G (setX a P xs) σ { s with heap := h', toks := tk } := by
 have hna : G.own a = none := by
  obtain ⟨e, he, rfl⟩ := List.mem_map.mp hm
  exact (R.xsc e he).1
 have hnb : ∀ b k, G.own b = some k → b ≠ a := fun b k e q => by rw [q, hna] at e; cases e
 have hfa : ∀ b k, G.fz b = some k → b ≠ a := fun b k e q => by
  rcases (R.fzc b k e).2 with h | ⟨i, o, h, _⟩
  ·exact hnb _ _ h q
  ·exact hnb _ _ h q
 exact {
  keep := fun b o e => hs _ _ (hnb b _ (R.baseOwn b o e)) (R.keep b o e)
  baseOwn := R.baseOwn
  fzc := fun b k e => ⟨(R.fzc b k e).1.keep fun o => hs b o (hfa b k e), (R.fzc b k e).2⟩
  stc := fun b i e => by
   obtain ⟨o, h1, ⟨ob, h2⟩, h3⟩ := R.stc b i e
   exact ⟨o, h1, ⟨ob, hs _ _ (hnb _ _ e) h2⟩, h3.keep fun o => hs b o (hnb _ _ e)⟩
  inj := R.inj
  live := fun b k e => by obtain ⟨ob, h⟩ := R.live b k e; exact ⟨ob, hs _ _ (hnb _ _ e) h⟩
  xsc := fun e he => by
   obtain ⟨e₀, he₀, rfl⟩ := List.mem_map.mp he
   by_cases q : e₀.1 = a
   ·rw [if_pos q]
    exact ⟨hna, hp⟩
   ·rw [if_neg q]
    obtain ⟨h1, ob, h2, h3⟩ := R.xsc e₀ he₀
    exact ⟨h1, ob, hs _ _ q h2, h3⟩
  nd := by rw [setX_fst]; exact R.nd
  tok := fun t k e => ⟨(R.tok t k e).1, Nat.lt_of_lt_of_le (R.tok t k e).2 ht⟩
  pos := Nat.lt_of_lt_of_le R.pos ht
  gens := R.gens
  drawn := R.drawn
  os := R.os }
theorem Rel.addX (R : Rel c G xs σ s) {a : Addr} {P : Obj → Prop} {h' : Heap} {tk : Nat} (hn : s.heap.get? a = none) (hk : ∀ b o, s.heap.get? b = some o → h'.get? b = some o)
  (hp : ∃ ob, h'.get? a = some ob ∧ P ob) (ht : s.toks ≤ tk) : Rel c G ((a, P) :: xs) σ { s with heap := h', toks := tk } :=
 let R' := R.ext hk ht
 { R' with
  xsc := fun e he => by
   rcases List.mem_cons.mp he with rfl | he
   ·exact ⟨R.fresh hn, hp⟩
   ·exact R'.xsc e he
  nd := List.nodup_cons.mpr ⟨R.fresh_x hn, R.nd⟩ }
theorem Rel.subX (R : Rel c G xs σ s) {ys : List XE} (h : ys.Sublist xs) : Rel c G ys σ s :=
 { R with xsc := fun e he => R.xsc e (h.subset he), nd := R.nd.sublist (h.map _) }
theorem Rel.setSt (R : Rel c G xs σ s) {a : Addr} {i : Nat} {o o' : O} (hi : G.own a = some (.st i)) (ho : σ[i]? = some o) (hl : o.fixed = false) {h' : Heap} {tk : Nat} (hs : Heap.ExtBut a s.heap h')
  (hp : ORs c G h' a o') (hv : ∃ ob, h'.get? a = some ob) (ht : s.toks ≤ tk) : Rel c G xs (σ.set i o') { s with heap := h', toks := tk } := by
 have hlt : i < σ.length := (List.getElem?_eq_some_iff.mp ho).1
 have hfa : G.fz a = none := by
  cases e : G.fz a with
  | none => rfl
  | some k =>
   rcases (R.fzc a k e).2 with h | ⟨j, o₂, h, h2, h3⟩
   ·rw [hi] at h; cases h
   ·rw [hi] at h; cases h; rw [ho] at h2; cases h2; rw [hl] at h3; cases h3
 exact {
  keep := fun b o e => hs _ _ (fun q => by have := R.baseOwn b o e; rw [q, hi] at this; cases this) (R.keep b o e)
  baseOwn := R.baseOwn
  fzc := fun b k e => by
   have hba : b ≠ a := fun q => by rw [q, hfa] at e; cases e
   refine ⟨(R.fzc b k e).1.keep fun o => hs b o hba, ?_⟩
   rcases (R.fzc b k e).2 with h | ⟨j, o₂, h, h2, h3⟩
   ·exact .inl h
   ·refine .inr ⟨j, o₂, h, ?_, h3⟩
    have : i ≠ j := fun q => by subst q; rw [ho] at h2; cases h2; rw [hl] at h3; cases h3
    rw [List.getElem?_set_ne this]; exact h2
  stc := fun b j e => by
   by_cases q : b = a
   ·subst q
    rw [hi] at e; cases e
    exact ⟨o', by simp [hlt], hv, hp⟩
   ·obtain ⟨o₂, h1, ⟨ob, h2⟩, h3⟩ := R.stc b j e
    have hij : i ≠ j := fun q' => by subst q'; exact q (R.inj b a _ e hi)
    exact ⟨o₂, by rw [List.getElem?_set_ne hij]; exact h1, ⟨ob, hs _ _ q h2⟩, h3.keep fun o => hs b o q⟩
  inj := R.inj
  live := fun b k e => by
   by_cases q : b = a
   ·subst q; exact hv
   ·obtain ⟨ob, h⟩ := R.live b k e; exact ⟨ob, hs _ _ q h⟩
  xsc := fun e he => by
   obtain ⟨h1, ob, h2, h3⟩ := R.xsc e he
   exact ⟨h1, ob, hs _ _ (fun q => by rw [q, hi] at h1; cases h1) h2, h3⟩
  nd := R.nd
  tok := fun t k e => ⟨(R.tok t k e).1, Nat.lt_of_lt_of_le (R.tok t k e).2 ht⟩
  pos := Nat.lt_of_lt_of_le R.pos ht
  gens := R.gens
  drawn := R.drawn
  os := R.os }
noncomputable def Gh.addSt (G : Gh) (a : Addr) (i : Nat) : Gh := { G with own := fun b => if b = a then some (.st i) else G.own b }
theorem Gh.le_addSt {a : Addr} {i : Nat} (h : G.own a = none) : G.le (G.addSt a i) :=
 ⟨fun _ _ e => e, fun _ _ e => e, fun b k e => by
  show (if b = a then _ else _) = _
  rw [if_neg (fun q => by rw [q, h] at e; cases e)]; exact e⟩
theorem Gh.own_addSt (G : Gh) (a : Addr) (i : Nat) : (G.addSt a i).own a = some (.st i) := by simp [Gh.addSt]
theorem Rel.addSt (R : Rel c G xs σ s) {a : Addr} {o : O} {h' : Heap} {tk : Nat} (hn : s.heap.get? a = none) (hk : ∀ b o, s.heap.get? b = some o → h'.get? b = some o)
  (hp : ORs c (G.addSt a σ.length) h' a o) (hv : ∃ ob, h'.get? a = some ob) (ht : s.toks ≤ tk) : Rel c (G.addSt a σ.length) xs (σ ++ [o]) { s with heap := h', toks := tk } := by
 have hle : G.le (G.addSt a σ.length) := Gh.le_addSt (R.fresh hn)
 have R' := R.ext (h' := h') hk ht
 have hne : ∀ b ob, s.heap.get? b = some ob → b ≠ a := fun b ob e q => by rw [q, hn] at e; cases e
 have own_ne : ∀ b, b ≠ a → (G.addSt a σ.length).own b = G.own b := fun b q => if_neg q
 have lt_len : ∀ b i, G.own b = some (.st i) → i < σ.length := fun b i e => by
  obtain ⟨o, h1, _⟩ := R.stc b i e
  exact (List.getElem?_eq_some_iff.mp h1).1
 have split : ∀ b k, (G.addSt a σ.length).own b = some k → (b = a ∧ k = .st σ.length) ∨ (b ≠ a ∧ G.own b = some k) := fun b k e => by
  by_cases q : b = a
  ·subst q; rw [Gh.own_addSt] at e; cases e; exact .inl ⟨rfl, rfl⟩
  ·rw [own_ne b q] at e; exact .inr ⟨q, e⟩
 exact {
  keep := R'.keep
  baseOwn := fun b o e => hle.own _ _ (R.baseOwn b o e)
  fzc := fun b k e => by
   refine ⟨(R'.fzc b k e).1, ?_⟩
   rcases (R.fzc b k e).2 with h | ⟨j, o₂, h, h2, h3⟩
   ·exact .inl (hle.own _ _ h)
   ·exact .inr ⟨j, o₂, hle.own _ _ h, by rw [List.getElem?_append_left (lt_len _ _ h)]; exact h2, h3⟩
  stc := fun b i e => by
   rcases split b _ e with ⟨rfl, q⟩ | ⟨q, e'⟩
   ·cases q; exact ⟨o, by simp, hv, hp⟩
   ·obtain ⟨o₂, h1, h2, h3⟩ := R'.stc b i e'
    exact ⟨o₂, by rw [List.getElem?_append_left (lt_len _ _ e')]; exact h1, h2, h3.mono hle⟩
  inj := fun b b' i e e' => by
   rcases split b _ e with ⟨rfl, q⟩ | ⟨_, e₁⟩ <;> rcases split b' _ e' with ⟨rfl, q'⟩ | ⟨_, e₁'⟩
   ·rfl
   ·cases q; exact absurd (lt_len _ _ e₁') (Nat.lt_irrefl _)
   ·cases q'; exact absurd (lt_len _ _ e₁) (Nat.lt_irrefl _)
   ·exact R.inj b b' i e₁ e₁'
  live := fun b k e => by
   rcases split b k e with ⟨rfl, _⟩ | ⟨_, e'⟩
   ·exact hv
   ·exact R'.live b k e'
  xsc := fun e he => by
   obtain ⟨h1, r⟩ := R'.xsc e he
   obtain ⟨_, ob, h2, _⟩ := R.xsc e he
   exact ⟨by rw [own_ne e.1 (hne _ _ h2)]; exact h1, r⟩
  nd := R.nd
  tok := R'.tok
  pos := R'.pos
  gens := R.gens
  drawn := R.drawn
  os := R.os }
noncomputable def Gh.addFz (G : Gh) (a : Addr) (k : FK) : Gh := { G with own := fun b => if b = a then some .fz else G.own b, fz := fun b => if b = a then some k else G.fz b }
theorem Gh.le_addFz {a : Addr} {k : FK} (h : G.own a = none) (h' : G.fz a = none) : G.le (G.addFz a k) :=
 ⟨fun _ _ e => e, fun b k e => by
  show (if b = a then _ else _) = _
  rw [if_neg (fun q => by rw [q, h'] at e; cases e)]; exact e, fun b k e => by
  show (if b = a then _ else _) = _
  rw [if_neg (fun q => by rw [q, h] at e; cases e)]; exact e⟩
theorem Gh.fz_addFz (G : Gh) (a : Addr) (k : FK) : (G.addFz a k).fz a = some k := by simp [Gh.addFz]
theorem Rel.addFz (R : Rel c G xs σ s) {a : Addr} {k : FK} {h' : Heap} {tk : Nat} (hn : s.heap.get? a = none) (hk : ∀ b o, s.heap.get? b = some o → h'.get? b = some o)
  (hp : FzAt h' a k) (ht : s.toks ≤ tk) : Rel c (G.addFz a k) xs σ { s with heap := h', toks := tk } := by
 have hle : G.le (G.addFz a k) := Gh.le_addFz (R.fresh hn) (R.fresh_fz hn)
 have R' := R.ext (h' := h') hk ht
 have hne : ∀ b ob, s.heap.get? b = some ob → b ≠ a := fun b ob e q => by rw [q, hn] at e; cases e
 have own_ne : ∀ b, b ≠ a → (G.addFz a k).own b = G.own b := fun b q => if_neg q
 have own_st : ∀ b i, (G.addFz a k).own b = some (.st i) → b ≠ a ∧ G.own b = some (.st i) := fun b i e => by
  by_cases q : b = a
  ·subst q
   have : (G.addFz b k).own b = some .fz := by simp [Gh.addFz]
   rw [this] at e; cases e
  ·exact ⟨q, (own_ne b q) ▸ e⟩
 exact {
  keep := R'.keep
  baseOwn := fun b o e => hle.own _ _ (R.baseOwn b o e)
  fzc := fun b k' e => by
   by_cases q : b = a
   ·subst q
    rw [Gh.fz_addFz] at e; cases e
    exact ⟨hp, .inl (by simp [Gh.addFz])⟩
   ·have e' : G.fz b = some k' := by have : (G.addFz a k).fz b = G.fz b := if_neg q; rw [this] at e; exact e
    refine ⟨(R'.fzc b k' e').1, ?_⟩
    rcases (R.fzc b k' e').2 with h | ⟨j, o₂, h, h2⟩
    ·exact .inl (hle.own _ _ h)
    ·exact .inr ⟨j, o₂, hle.own _ _ h, h2⟩
  stc := fun b i e => by
   obtain ⟨_, e'⟩ := own_st b i e
   obtain ⟨o₂, h1, h2, h3⟩ := R'.stc b i e'
   exact ⟨o₂, h1, h2, h3.mono hle⟩
  inj := fun b b' i e e' => R.inj b b' i (own_st b i e).2 (own_st b' i e').2
  live := fun b k' e => by
   by_cases q : b = a
   ·subst q; exact hp.live
   ·exact R'.live b k' ((own_ne b q) ▸ e)
  xsc := fun e he => by
   obtain ⟨h1, r⟩ := R'.xsc e he
   obtain ⟨_, ob, h2, _⟩ := R.xsc e he
   exact ⟨by rw [own_ne e.1 (hne _ _ h2)]; exact h1, r⟩
  nd := R.nd
  tok := R'.tok
  pos := R'.pos
  gens := R.gens
  drawn := R.drawn
  os := R.os }
noncomputable def Gh.putFz (G : Gh) (a : Addr) (k : FK) : Gh := { G with fz := fun b => if b = a then some k else G.fz b }
theorem Gh.le_putFz {a : Addr} {k : FK} (h' : G.fz a = none) : G.le (G.putFz a k) :=
 ⟨fun _ _ e => e, fun b k e => by
  show (if b = a then _ else _) = _
  rw [if_neg (fun q => by rw [q, h'] at e; cases e)]; exact e, fun _ _ e => e⟩
theorem Gh.fz_putFz (G : Gh) (a : Addr) (k : FK) : (G.putFz a k).fz a = some k := by simp [Gh.putFz]
theorem Rel.not_fz (R : Rel c G xs σ s) {a : Addr} {i : Nat} {o : O} (hi : G.own a = some (.st i)) (ho : σ[i]? = some o) (hl : o.fixed = false) : G.fz a = none := by
 cases e : G.fz a with
 | none => rfl
 | some k =>
  rcases (R.fzc a k e).2 with h | ⟨j, o₂, h, h2, h3⟩
  ·rw [hi] at h; cases h
  ·rw [hi] at h; cases h; rw [ho] at h2; cases h2; rw [hl] at h3; cases h3
theorem Rel.fix (R : Rel c G xs σ s) {a : Addr} {i : Nat} {o o' : O} {k : FK} (hi : G.own a = some (.st i)) (ho : σ[i]? = some o) (hl : o.fixed = false) (hl' : o'.fixed = true)
  (hp : FzAt s.heap a k) (hp' : ORs c (G.putFz a k) s.heap a o') : Rel c (G.putFz a k) xs (σ.set i o') s := by
 have hlt : i < σ.length := (List.getElem?_eq_some_iff.mp ho).1
 have hfa := R.not_fz hi ho hl
 have hle : G.le (G.putFz a k) := Gh.le_putFz hfa
 exact {
  keep := R.keep
  baseOwn := R.baseOwn
  fzc := fun b k' e => by
   by_cases q : b = a
   ·subst q
    rw [Gh.fz_putFz] at e; cases e
    exact ⟨hp, .inr ⟨i, o', hi, by simp [hlt], hl'⟩⟩
   ·have e' : G.fz b = some k' := by have : (G.putFz a k).fz b = G.fz b := if_neg q; rw [this] at e; exact e
    refine ⟨(R.fzc b k' e').1, ?_⟩
    rcases (R.fzc b k' e').2 with h | ⟨j, o₂, h, h2, h3⟩
    ·exact .inl h
    ·by_cases hij : i = j
     ·subst hij; exact absurd (R.inj b a _ h hi) q
     ·exact .inr ⟨j, o₂, h, by rw [List.getElem?_set_ne hij]; exact h2, h3⟩
  stc := fun b j e => by
   by_cases q : b = a
   ·subst q
    have e' : G.own b = some (.st j) := e
    rw [hi] at e'; cases e'
    exact ⟨o', by simp [hlt], (R.stc b _ hi).elim fun _ h => h.2.1, hp'⟩
   ·obtain ⟨o₂, h1, h2, h3⟩ := R.stc b j e
    have hij : i ≠ j := fun q' => by subst q'; exact q (R.inj b a _ e hi)
    exact ⟨o₂, by rw [List.getElem?_set_ne hij]; exact h1, h2, h3.mono hle⟩
  inj := R.inj
  live := R.live
  xsc := R.xsc
  nd := R.nd
  tok := R.tok
  pos := R.pos
  gens := R.gens
  drawn := R.drawn
  os := R.os }
noncomputable def Gh.addTok (G : Gh) (t : Tok) (k : Int ⊕ Int) : Gh := { G with kt := fun u => if u = t then some k else G.kt u }
theorem Gh.le_addTok {t : Tok} {k : Int ⊕ Int} (h : G.kt t = none) : G.le (G.addTok t k) :=
 ⟨fun u k' e => by
  show (if u = t then _ else _) = _
  rw [if_neg (fun q => by rw [q, h] at e; cases e)]; exact e, fun _ _ e => e, fun _ _ e => e⟩
theorem Gh.kt_addTok (G : Gh) (t : Tok) (k : Int ⊕ Int) : (G.addTok t k).kt t = some k := by simp [Gh.addTok]
theorem Rel.no_tok (R : Rel c G xs σ s) {t : Tok} (h : s.toks ≤ t) : G.kt t = none := by
 cases e : G.kt t with
 | none => rfl
 | some k => exact absurd (R.tok t k e).2 (Nat.not_lt.mpr h)
theorem Rel.addTok (R : Rel c G xs σ s) {t : Tok} {k : Int ⊕ Int} {tk : Nat} (h1 : s.toks ≤ t) (h2 : t < tk) : Rel c (G.addTok t k) xs σ { s with toks := tk } := by
 have ht : s.toks ≤ tk := Nat.le_of_lt (Nat.lt_of_le_of_lt h1 h2)
 have R' := R.toks ht
 have hle : G.le (G.addTok t k) := Gh.le_addTok (R.no_tok h1)
 exact { R' with
  stc := fun a i e => by
   obtain ⟨o, h1, h2, h3⟩ := R'.stc a i e
   exact ⟨o, h1, h2, h3.mono hle⟩
  tok := fun u k' e => by
   by_cases q : u = t
   ·subst q; exact ⟨Nat.lt_of_lt_of_le R.pos h1, h2⟩
   ·have e' : G.kt u = some k' := by have : (G.addTok t k).kt u = G.kt u := if_neg q; rw [this] at e; exact e
    exact R'.tok u k' e' }
end
end Mine
end
section
namespace Mine
open PySem PySem.W
inductive X where | stop | cycle
structure St where
 ρ : Str → Option V
 σ : List O
noncomputable def lim : Nat := 10000
theorem lim_fits {k : Nat} (h : k ≤ lim) : k ≤ sizeLine := by rw [sizeLine_eq]; unfold lim at h; omega
structure CxOk (c : Cx) : Prop where
 kin : c.K.In c.base
 g : c.base.Ns mainGlobals c.mg
 b : c.base.Ns builtinsNs c.mb
 nolimit : c.base.NoLimit
 booked : NoneBooked c.base
noncomputable def NsP (m : Str → Option Value) : Obj → Prop := fun ob => ∃ es ep, ob.data = .dict es ep ∧ StrKeys es ∧ ∀ n, nsFind es n = m n
noncomputable def CellP (v : Option Value) : Obj → Prop := fun ob => ob.data = .cell v
theorem ns_of {h : Heap} {a : Addr} {m : Str → Option Value} (x : ∃ ob, h.get? a = some ob ∧ NsP m ob) : h.Ns a m := by
 obtain ⟨ob, ho, es, ep, hd, r⟩ := x
 exact ⟨ob, es, ep, ho, hd, r⟩
theorem of_ns {h : Heap} {a : Addr} {m : Str → Option Value} (x : h.Ns a m) : ∃ ob, h.get? a = some ob ∧ NsP m ob := by
 obtain ⟨ob, es, ep, ho, hd, r⟩ := x
 exact ⟨ob, ho, es, ep, hd, r⟩
theorem cell_of {h : Heap} {a : Addr} {v : Option Value} (x : ∃ ob, h.get? a = some ob ∧ CellP v ob) : h.IsCell a v := x
theorem of_cell {h : Heap} {a : Addr} {v : Option Value} (x : h.IsCell a v) : ∃ ob, h.get? a = some ob ∧ CellP v ob := x
structure Fm where
 env : Env
 sc : Scope
 out : List XE
 frs : List Env
structure FmOk (c : Cx) (F : Fm) : Prop where
 fn : F.env.scope.kind = .function
 glb : F.env.globals = mainGlobals
 blt : F.env.builtins = builtinsNs
 loc : ∀ x, F.sc.names.lookup x = some .local → F.env.kindOf x = some .local
 cel : ∀ x, F.sc.names.lookup x = some .cell → F.env.kindOf x = some .cell ∧ ∃ a, F.env.cells.lookup x = some a ∧ a ∉ F.out.map (·.1) ∧ a ≠ F.env.locals
 fre : ∀ x, F.sc.names.lookup x = some .free → F.env.kindOf x = some .cell ∨ F.env.kindOf x = some .free
 frc : ∀ x, F.sc.names.lookup x = some .free → ∃ a, F.env.cells.lookup x = some a
 glo : ∀ x, F.sc.names.lookup x = some .globalImplicit → F.env.kindOf x = some .globalImplicit
 inj : ∀ x y a, F.sc.names.lookup x = some .cell → F.sc.names.lookup y = some .cell → F.env.cells.lookup x = some a → F.env.cells.lookup y = some a → x = y
 lo : F.env.locals ∉ F.out.map (·.1)
 outNd : (F.out.map (·.1)).Nodup
 abv : c.base.objs.size ≤ F.env.locals
 frm : ∃ L, F.env.frame = some L
 nocd : F.sc.names.lookup ("__classdict__" : Str) = none
structure FR (F : Fm) (G : Gh) (ρ : Str → Option V) (xs : List XE) : Prop where
 loc : ∃ m, (F.env.locals, NsP m) ∈ xs ∧ ∀ x u, F.sc.names.lookup x = some .local → ρ x = some u → ∃ w, m x = some w ∧ VR G u w
 cel : ∀ x a, F.sc.names.lookup x = some .cell → F.env.cells.lookup x = some a → ∃ v, (a, CellP v) ∈ xs ∧ ∀ u, ρ x = some u → ∃ w, v = some w ∧ VR G u w
 fre : ∀ x u, F.sc.names.lookup x = some .free → ρ x = some u → ∃ a w, F.env.cells.lookup x = some a ∧ (a, CellP (some w)) ∈ F.out ∧ VR G u w
 out : ∀ e ∈ F.out, e ∈ xs
 frs : ∀ e ∈ F.frs, e.scope.kind ≠ .module ∧ ∃ L m, e.frame = some L ∧ (L, NsP m) ∈ xs
theorem FR.mono {F : Fm} {G G' : Gh} {ρ : Str → Option V} {xs : List XE} (f : FR F G ρ xs) (hg : G.le G') : FR F G' ρ xs where
 loc := by
  obtain ⟨m, h1, h2⟩ := f.loc
  exact ⟨m, h1, fun x u hx hu => by obtain ⟨w, h3, h4⟩ := h2 x u hx hu; exact ⟨w, h3, h4.mono hg⟩⟩
 cel := fun x a hx ha => by
  obtain ⟨v, h1, h2⟩ := f.cel x a hx ha
  exact ⟨v, h1, fun u hu => by obtain ⟨w, h3, h4⟩ := h2 u hu; exact ⟨w, h3, h4.mono hg⟩⟩
 fre := fun x u hx hu => by
  obtain ⟨a, w, h1, h2, h3⟩ := f.fre x u hx hu
  exact ⟨a, w, h1, h2, h3.mono hg⟩
 out := f.out
 frs := f.frs
structure Inv (c : Cx) (F : Fm) (G : Gh) (ρ : Str → Option V) (σ : List O) (s : Shared) : Prop where
 ok : ∃ xs, Rel c G xs σ s ∧ FR F G ρ xs
theorem nodup_mem {xs : List XE} (nd : (xs.map (·.1)).Nodup) {a : Addr} {P Q : Obj → Prop} (h : (a, P) ∈ xs) (h' : (a, Q) ∈ xs) : P = Q := by
 induction xs with
 | nil => cases h
 | cons e xs ih =>
  rw [List.map_cons, List.nodup_cons] at nd
  rcases List.mem_cons.mp h with rfl | h <;> rcases List.mem_cons.mp h' with e' | h'
  ·cases e'; rfl
  ·exact absurd (List.mem_map_of_mem (f := Prod.fst) h') nd.1
  ·rw [← e'] at nd; exact absurd (List.mem_map_of_mem (f := Prod.fst) h) nd.1
  ·exact ih nd.2 h h'
noncomputable def clsOf (c : Cx) : X → Value
 | .stop => .type "StopIteration"
 | .cycle => (c.mg "CycleError").getD .none
noncomputable def isFrame (frs : List Env) (a : Addr) : Prop := a ∈ frs.filterMap (·.frame)
inductive Exn (c : Cx) (F : Fm) (G : Gh) (ρ : Str → Option V) (σ : List O) (x : X) (e : Value) (s : Shared) : Prop
 | mk (xs : List XE) (B : Heap) (a : Addr) (a0 : Value) (h1 : e = .ref a) (R : Rel c G xs σ s) (f : FR F G ρ xs) (h2 : B.StaysIn s.heap) (h3 : B.get? a = none)
  (h4 : ∀ b o, s.heap.get? b = some o → (c.base.get? b).isSome ∨ (G.own b).isSome ∨ (b ∈ xs.map (·.1) ∧ ¬ isFrame F.frs b) → B.get? b = some o) (h5 : s.heap.FunFrames B F.frs)
  (h6 : (∃ oe vs, s.heap.get? a = some oe ∧ oe.cls = clsOf c x ∧ oe.data = .fields vs ∧ vs[0]? = some a0 ∧ vs[1]? = some .none) ∨ s.heap.TracedW B a (clsOf c x) a0)
structure AOk (F : Fm) (n : Nat) (calm : Bool) (A : Around) : Prop where
 frames : A.frames = some F.frs
 guards : A.guards = some []
 depth : A.depth + 8 * n ≤ 600
 units : A.units + 64 * n ≤ 4000
 handled : calm = true → A.handled = none
structure Kx where
 c : Cx
 n : Nat
 calm : Bool
 F : Fm
 sc : Scope
structure Kx.Ok (K : Kx) (A : Around) : Prop where
 hs : K.F.sc = K.sc
 hc : CxOk K.c
 hF : FmOk K.c K.F
 hA : AOk K.F K.n K.calm A
noncomputable abbrev Kx.Inv (K : Kx) (G : Gh) (st : St) (s : Shared) : Prop := Mine.Inv K.c K.F G st.ρ st.σ s
structure Ends {α β : Type} (K : Kx) (G : Gh) (R : Gh → α → β → Prop) (Q : α → St → Prop) (E : X → St → Prop) (QQ : β → Shared → Prop) (EE : Value → Shared → Prop) : Prop where
 ok : ∀ a st G' b s, Q a st → G.le G' → K.Inv G' st s → R G' a b → QQ b s
 ex : ∀ x st G' e s, E x st → G.le G' → Exn K.c K.F G' st.ρ st.σ x e s → EE e s
noncomputable def Run {α β : Type} (K : Kx) (P : Gh → Prop) (t : Sem β) (R : Gh → α → β → Prop) (st : St) (Q : α → St → Prop) (E : X → St → Prop) : Prop :=
 ∀ A G s QQ EE, K.Ok A → P G → K.Inv G st s → PassesOwn K.c.M A K.F.env EE → Ends K G R Q E QQ EE → wpAny K.c.M A t QQ EE s
noncomputable def Up (P : Gh → Prop) : Prop := ∀ G G', G.le G' → P G → P G'
theorem up_true : Up fun _ => True := fun _ _ _ _ => trivial
theorem up_and {P Q : Gh → Prop} (h : Up P) (h' : Up Q) : Up fun G => P G ∧ Q G := fun G G' hg x => ⟨h G G' hg x.1, h' G G' hg x.2⟩
theorem up_VR {x : V} {v : Value} : Up fun G => VR G x v := fun _ _ hg h => h.mono hg
section
variable {α β γ δ : Type} {K : Kx} {P P' : Gh → Prop} {t : Sem β} {R R' : Gh → α → β → Prop} {st : St} {Q Q' : α → St → Prop} {E E' : X → St → Prop} {G G' : Gh} {QQ : β → Shared → Prop} {EE : Value → Shared → Prop} {s : Shared}
theorem Ends.up (h : Ends K G R Q E QQ EE) (hg : G.le G') : Ends K G' R Q E QQ EE := ⟨fun a st G₂ b s q hg' => h.ok a st G₂ b s q (hg.trans hg'), fun x st G₂ e s q hg' => h.ex x st G₂ e s q (hg.trans hg')⟩
theorem Ends.here (h : Ends K G R Q E QQ EE) {a : α} {b : β} (q : Q a st) (hI : K.Inv G st s) (r : R G a b) : QQ b s := h.ok a st G b s q (Gh.le.refl _) hI r
theorem Run.mono (h : Run K P t R st Q E) (hq : ∀ a st, Q a st → Q' a st) (he : ∀ x st, E x st → E' x st) : Run K P t R st Q' E' :=
 fun A G s QQ EE ok hp hI hE H => h A G s QQ EE ok hp hI hE ⟨fun a st G' b s q => H.ok a st G' b s (hq a st q), fun x st G' e s q => H.ex x st G' e s (he x st q)⟩
theorem Run.imp (h : Run K P t R st Q E) (hq : ∀ a st, Q a st → Q' a st) : Run K P t R st Q' E := h.mono hq fun _ _ q => q
theorem Run.pre (h : Run K P t R st Q E) (hp : ∀ G, P' G → P G) : Run K P' t R st Q E := fun A G s QQ EE ok hp' => h A G s QQ EE ok (hp G hp')
theorem Run.any (h : Run K (fun _ => True) t R st Q E) : Run K P t R st Q E := h.pre fun _ _ => trivial
theorem Run.pure {a : α} {b : β} (h : ∀ G, P G → R G a b) (q : Q a st) : Run K P (Pure.pure b) R st Q E := fun A G s QQ EE ok hp hI hE H => wpAny_pure (H.here q hI (h G hp))
theorem Run.bind {R₁ : Gh → γ → δ → Prop} {t : Sem δ} {k : δ → Sem β} (hP : Up P) (h : Run K P t R₁ st (fun a st' => ∀ b, Run K (fun G => P G ∧ R₁ G a b) (k b) R st' Q E) E) : Run K P (t >>= k) R st Q E :=
 fun A G s QQ EE ok hp hI hE H => wpAny_bind (h A G s _ EE ok hp hI hE ⟨fun a st' G' b s' q hg hI' r => q b A G' s' QQ EE ok ⟨hP _ _ hg hp, r⟩ hI' hE (H.up hg), H.ex⟩)
theorem Run.of_wp {u : Sem β} (h : Run K P t R st Q E) (hw : ∀ A QQ EE s, wpAny K.c.M A t QQ EE s → wpAny K.c.M A u QQ EE s) : Run K P u R st Q E :=
 fun A G s QQ EE ok hp hI hE H => hw A QQ EE s (h A G s QQ EE ok hp hI hE H)
theorem Run.holding {vs : List Value} (h : Run K P t R st Q E) : Run K P (PySem.holding vs t) R st Q E := h.of_wp fun _ _ _ _ => wpAny_holding
theorem Run.standAt {p : Pos} (h : Run K P t R st Q E) : Run K P (PySem.standAt p >>= fun _ => t) R st Q E := h.of_wp fun _ _ _ _ x => wpAny_bind (wpAny_standAt x)
theorem Run.operate {vs : List Value} {t : Sem Value} {R : Gh → α → Value → Prop} (h : Run K P t R st Q E) : Run K P (PySem.operate vs t) R st Q E := h.of_wp fun _ _ _ _ => wpAny_operateT
end
theorem VR_obj {G : Gh} {i : Nat} {a : Addr} (h : G.own a = some (.st i)) : VR G (.obj i) (.ref a) := Exists.intro a ⟨rfl, h⟩
theorem obj_inv {G : Gh} {i : Nat} {w : Value} (h : VR G (.obj i) w) : ∃ a, w = .ref a ∧ G.own a = some (.st i) := h
theorem Inv.own_at {c : Cx} {F : Fm} {G : Gh} {ρ : Str → Option V} {σ : List O} {s : Shared} (hI : Mine.Inv c F G ρ σ s) {a : Addr} {i : Nat} {o : O} (h : G.own a = some (.st i)) (ho : σ[i]? = some o) : ORs c G s.heap a o :=
 hI.ok.elim fun xs h' => (h'.1.stc a i h).elim fun o' h => Option.some.inj (h.1.symm.trans ho) ▸ h.2.2
theorem on_obj {α β : Type} {K : Kx} {P : Gh → Prop} {t : Value → Sem β} {R : Gh → α → β → Prop} {st : St} {Q : α → St → Prop} {E : X → St → Prop} {i : Nat} {o : O} (ho : st.σ[i]? = some o)
  (h : ∀ a A G s QQ EE, K.Ok A → P G → G.own a = some (.st i) → ORs K.c G s.heap a o → K.Inv G st s → PassesOwn K.c.M A K.F.env EE → Ends K G R Q E QQ EE → wpAny K.c.M A (t (.ref a)) QQ EE s) (w : Value) : Run K (fun G => VR G (.obj i) w ∧ P G) (t w) R st Q E := by
 intro A G s QQ EE ok hP hI hE H
 obtain ⟨a, rfl, ha⟩ := obj_inv hP.1
 exact h a A G s QQ EE ok hP.2 ha (hI.own_at ha ho) hI hE H
theorem on_obj1 {α β : Type} {K : Kx} {t : Value → Sem β} {R : Gh → α → β → Prop} {st : St} {Q : α → St → Prop} {E : X → St → Prop} {i : Nat} {o : O} (ho : st.σ[i]? = some o)
  (h : ∀ a A G s QQ EE, K.Ok A → G.own a = some (.st i) → ORs K.c G s.heap a o → K.Inv G st s → PassesOwn K.c.M A K.F.env EE → Ends K G R Q E QQ EE → wpAny K.c.M A (t (.ref a)) QQ EE s) (w : Value) : Run K (fun G => VR G (.obj i) w) (t w) R st Q E :=
 (on_obj (P := fun _ => True) ho (fun a A G s QQ EE ok _ => h a A G s QQ EE ok) w).pre fun _ h => ⟨h, trivial⟩
noncomputable abbrev RV : Gh → V → Value → Prop := fun G x v => VR G x v
noncomputable abbrev RVs : Gh → List V → List Value → Prop := fun G x v => VRs G x v
noncomputable def EX (K : Kx) (e : PySem.Expr) (st : St) (Q : V → St → Prop) (E : X → St → Prop) : Prop := Run K (fun _ => True) (eval e K.F.env) RV st Q E
section
variable {c : Cx} {F : Fm} {G : Gh} {ρ : Str → Option V} {σ : List O} {s : Shared}
theorem Inv.toks (h : Inv c F G ρ σ s) {tk : Nat} (ht : s.toks ≤ tk) : Inv c F G ρ σ { s with toks := tk } := by
 obtain ⟨xs, R, f⟩ := h.ok
 exact ⟨xs, R.toks ht, f⟩
theorem Inv.ext (h : Inv c F G ρ σ s) {h' : Heap} {tk : Nat} (hk : ∀ b o, s.heap.get? b = some o → h'.get? b = some o) (ht : s.toks ≤ tk) : Inv c F G ρ σ { s with heap := h', toks := tk } := by
 obtain ⟨xs, R, f⟩ := h.ok
 exact ⟨xs, R.ext hk ht, f⟩
theorem Inv.addFz (h : Inv c F G ρ σ s) {a : Addr} {k : FK} {h' : Heap} {tk : Nat} (hn : s.heap.get? a = none) (hk : ∀ b o, s.heap.get? b = some o → h'.get? b = some o)
  (hp : FzAt h' a k) (ht : s.toks ≤ tk) : G.le (G.addFz a k) ∧ Inv c F (G.addFz a k) ρ σ { s with heap := h', toks := tk } := by
 obtain ⟨xs, R, f⟩ := h.ok
 have hle := Gh.le_addFz (k := k) (R.fresh hn) (R.fresh_fz hn)
 exact ⟨hle, xs, R.addFz hn hk hp ht, f.mono hle⟩
theorem Inv.addSt (h : Inv c F G ρ σ s) {a : Addr} {o : O} {h' : Heap} {tk : Nat} (hn : s.heap.get? a = none) (hk : ∀ b o, s.heap.get? b = some o → h'.get? b = some o)
  (hp : ORs c (G.addSt a σ.length) h' a o) (hv : ∃ ob, h'.get? a = some ob) (ht : s.toks ≤ tk) : G.le (G.addSt a σ.length) ∧ Inv c F (G.addSt a σ.length) ρ (σ ++ [o]) { s with heap := h', toks := tk } := by
 obtain ⟨xs, R, f⟩ := h.ok
 have hle := Gh.le_addSt (i := σ.length) (R.fresh hn)
 exact ⟨hle, xs, R.addSt hn hk hp hv ht, f.mono hle⟩
theorem Inv.setSt (h : Inv c F G ρ σ s) {a : Addr} {i : Nat} {o o' : O} (hi : G.own a = some (.st i)) (ho : σ[i]? = some o) (hl : o.fixed = false) {h' : Heap} {tk : Nat} (hs : Heap.ExtBut a s.heap h')
  (hp : ORs c G h' a o') (hv : ∃ ob, h'.get? a = some ob) (ht : s.toks ≤ tk) : Inv c F G ρ (σ.set i o') { s with heap := h', toks := tk } := by
 obtain ⟨xs, R, f⟩ := h.ok
 exact ⟨xs, R.setSt hi ho hl hs hp hv ht, f⟩
theorem Inv.addTok (h : Inv c F G ρ σ s) {t : Tok} {k : Int ⊕ Int} {tk : Nat} (h1 : s.toks ≤ t) (h2 : t < tk) : G.le (G.addTok t k) ∧ Inv c F (G.addTok t k) ρ σ { s with toks := tk } := by
 obtain ⟨xs, R, f⟩ := h.ok
 have hle := Gh.le_addTok (k := k) (R.no_tok h1)
 exact ⟨hle, xs, R.addTok h1 h2, f.mono hle⟩
theorem Inv.fix (h : Inv c F G ρ σ s) {a : Addr} {i : Nat} {o o' : O} {k : FK} (hi : G.own a = some (.st i)) (ho : σ[i]? = some o) (hl : o.fixed = false) (hl' : o'.fixed = true)
  (hp : FzAt s.heap a k) (hp' : ORs c (G.putFz a k) s.heap a o') : G.le (G.putFz a k) ∧ Inv c F (G.putFz a k) ρ (σ.set i o') s := by
 obtain ⟨xs, R, f⟩ := h.ok
 have hle := Gh.le_putFz (k := k) (R.not_fz hi ho hl)
 exact ⟨hle, xs, R.fix hi ho hl hl' hp hp', f.mono hle⟩
theorem Inv.fz (h : Inv c F G ρ σ s) {a : Addr} {k : FK} (hk : G.fz a = some k) : FzAt s.heap a k := by
 obtain ⟨xs, R, f⟩ := h.ok
 exact (R.fzc a k hk).1
theorem Inv.keep (h : Inv c F G ρ σ s) : ∀ b o, c.base.get? b = some o → s.heap.get? b = some o := by
 obtain ⟨xs, R, f⟩ := h.ok
 exact R.keep
theorem Inv.tok (h : Inv c F G ρ σ s) {t : Tok} {k : Int ⊕ Int} (hk : G.kt t = some k) : 0 < t ∧ t < s.toks := by
 obtain ⟨xs, R, f⟩ := h.ok
 exact R.tok t k hk
theorem keep_push (h : Heap) (o : Obj) : ∀ b ob, h.get? b = some ob → (h.push o).get? b = some ob := fun _ _ e => Heap.get?_push_of_some o e
theorem Inv.newLst (h : Inv c F G ρ σ s) {xs : List V} {vs : List Value} (r : VRs G xs vs) :
  ∃ G', G.le G' ∧ Inv c F G' ρ σ { s with heap := s.heap.push { cls := .type "list", data := .seq vs.toArray } } ∧ VR G' (.lst xs) (.ref s.heap.objs.size) := by
 obtain ⟨h1, h2⟩ := h.addFz (a := s.heap.objs.size) (k := .lst vs) (h' := s.heap.push { cls := .type "list", data := .seq vs.toArray }) (tk := s.toks) (get_size _) (keep_push _ _) ⟨0, Heap.get?_push_size _ rfl⟩ (Nat.le_refl _)
 refine ⟨_, h1, h2, ?_⟩
 exact Exists.intro _ ⟨vs, rfl, Gh.fz_addFz _ _ _, r.mono h1⟩
theorem Inv.newTup (h : Inv c F G ρ σ s) {xs : List V} {vs : List Value} (r : VRs G xs vs) :
  ∃ G', G.le G' ∧ Inv c F G' ρ σ { s with heap := s.heap.push { cls := .type "tuple", data := .seq vs.toArray } } ∧ VR G' (.tup xs) (.ref s.heap.objs.size) := by
 obtain ⟨h1, h2⟩ := h.addFz (a := s.heap.objs.size) (k := .tup vs) (h' := s.heap.push { cls := .type "tuple", data := .seq vs.toArray }) (tk := s.toks) (get_size _) (keep_push _ _) ⟨0, Heap.get?_push_size _ rfl⟩ (Nat.le_refl _)
 refine ⟨_, h1, h2, ?_⟩
 exact Exists.intro _ ⟨vs, rfl, Gh.fz_addFz _ _ _, r.mono h1⟩
theorem Inv.newObj (h : Inv c F G ρ σ s) {xs : List V} {vs : List Value} (r : VRs G xs vs) :
  ∃ G', G.le G' ∧ Inv c F G' ρ (σ ++ [.list xs]) { s with heap := s.heap.push { cls := .type "list", data := .seq vs.toArray } } ∧ VR G' (.obj σ.length) (.ref s.heap.objs.size) := by
 have hn := get_size s.heap
 obtain ⟨ys, R, f⟩ := h.ok
 have hle := Gh.le_addSt (i := σ.length) (R.fresh hn)
 refine ⟨_, hle, ⟨ys, R.addSt (h' := s.heap.push { cls := .type "list", data := .seq vs.toArray }) (tk := s.toks) hn (keep_push _ _) ?_ ?_ (Nat.le_refl _), f.mono hle⟩, ?_⟩
 ·exact ⟨vs, 0, Heap.get?_push_size _ rfl, r.mono hle⟩
 ·exact ⟨_, Heap.get?_push_size _ rfl⟩
 ·exact Exists.intro _ ⟨rfl, Gh.own_addSt _ _ _⟩
end
end Mine
namespace Mine
open PySem PySem.W PyProof.Rows
noncomputable def allN (B h : Heap) (L : Addr) : List (Addr × Obj) :=
 (List.range h.objs.size).filterMap fun b => if b = L ∨ (B.get? b).isSome then none else (h.get? b).map fun o => (b, o)
theorem allN_news {B h : Heap} {L : Addr} : News B L h (allN B h L) := fun p hp => by
 obtain ⟨b, _, hb⟩ := List.mem_filterMap.mp hp
 split at hb
 ·cases hb
 ·rename_i hn
  obtain ⟨o, ho, e⟩ := Option.map_eq_some_iff.mp hb
  subst e
  exact ⟨ho, fun q => hn (.inl q), by cases q : B.get? b with | none => rfl | some o' => exact absurd (.inr (by rw [q]; rfl)) hn⟩
theorem mem_allN {B h : Heap} {L b : Addr} {o : Obj} (e : h.get? b = some o) (hL : b ≠ L) (hB : B.get? b = none) : (b, o) ∈ allN B h L := by
 refine List.mem_filterMap.mpr ⟨b, List.mem_range.mpr (Heap.lt_size e), ?_⟩
 rw [if_neg (by rw [hB]; rintro (q | q); exact hL q; cases q), e]; rfl
theorem stays_allN {B h h' : Heap} {L : Addr} {m : Str → Option Value} {l : List (Addr × Obj)} (hk : ∀ b o, B.get? b = some o → h.get? b = some o) (F' : Fr B L h' m) (N' : News B L h' l) (hl : ∀ p ∈ allN B h L, p ∈ l) :
  ∀ b o, b ≠ L → h.get? b = some o → h'.get? b = some o := fun b o hb e => by
 cases q : B.get? b with
 | some o' => rw [hk b o' q] at e; cases e; exact F'.keep b _ q
 | none => exact (N' _ (hl _ (mem_allN e hb q))).1
theorem setX_same {xs : List XE} (nd : (xs.map (·.1)).Nodup) {a : Addr} {P : Obj → Prop} (h : (a, P) ∈ xs) : setX a P xs = xs := by
 unfold setX
 conv => rhs; rw [← List.map_id xs]
 refine List.map_congr_left fun e he => ?_
 by_cases q : e.1 = a
 ·obtain ⟨b, Q⟩ := e
  obtain rfl : b = a := q
  rw [if_pos rfl, nodup_mem nd h he]; rfl
 ·rw [if_neg q]; rfl
section
variable {c : Cx} {F : Fm} {G : Gh} {ρ : Str → Option V} {σ : List O} {s : Shared}
theorem Inv.frame (h : Inv c F G ρ σ s) (hF : FmOk c F) : ∃ m, Fr c.base F.env.locals s.heap m := by
 obtain ⟨xs, R, f⟩ := h.ok
 obtain ⟨m, hm, _⟩ := f.loc
 exact ⟨m, ns_of (R.xsc _ hm).2, R.keep, hF.abv⟩
theorem Inv.unL {h' : Heap} {oL : Obj} {m : Str → Option Value} {tk : Nat} (I : Inv c F G ρ σ { s with heap := h'.update F.env.locals (fun _ => oL), toks := tk })
  (hl : ∃ o, h'.get? F.env.locals = some o) (hf : oL.isFreed = false) (h1 : ∃ es ep, oL.data = .dict es ep ∧ StrKeys es ∧ ∀ n, nsFind es n = m n) (h2 : h'.Ns F.env.locals m) : Inv c F G ρ σ { s with heap := h', toks := tk } := by
 obtain ⟨xs, R, f⟩ := I.ok
 obtain ⟨o, ho⟩ := hl
 obtain ⟨m', hm', hloc⟩ := f.loc
 have hself : (h'.update F.env.locals (fun _ => oL)).get? F.env.locals = some oL := Heap.get?_update_self (fun _ => oL) ho hf
 have hP : NsP m = NsP m' := by
  obtain ⟨_, ob, hob, es', ep', hd', _, hn'⟩ := R.xsc _ hm'
  obtain ⟨es, ep, hd, _, hn⟩ := h1
  have e1 : ob = oL := Option.some.inj (hob.symm.trans hself)
  subst e1
  rw [hd] at hd'; cases hd'
  have : m = m' := funext fun n => (hn n).symm.trans (hn' n)
  rw [this]
 have hmem : (F.env.locals, NsP m') ∈ xs := hm'
 refine ⟨xs, ?_, f⟩
 have R' := R.changeX (a := F.env.locals) (P := NsP m') (List.mem_map_of_mem (f := Prod.fst) hmem) (h' := h') (tk := tk)
  (fun b o hb e => by rw [Heap.get?_update_other _ _ (Ne.symm hb)] at e; exact e) (hP ▸ of_ns h2) (Nat.le_refl _)
 rw [setX_same R.nd hmem] at R'
 exact R'
theorem unL_get {h' : Heap} {L : Addr} {oL : Obj} {h : Heap} (hk : ∀ b o, b ≠ L → h.get? b = some o → h'.get? b = some o) (hL : h.get? L = some oL) (hl : ∃ o, h'.get? L = some o) :
  ∀ b o, h.get? b = some o → (h'.update L (fun _ => oL)).get? b = some o := fun b o e => by
 by_cases q : b = L
 ·subst q
  obtain ⟨o', ho'⟩ := hl
  rw [hL] at e; cases e
  exact Heap.get?_update_self (fun _ => oL) ho' (Heap.get?_some_iff.mp hL).2
 ·rw [Heap.get?_update_other _ _ (Ne.symm q)]; exact hk b o q e
theorem Inv.addFzL (h : Inv c F G ρ σ s) {a : Addr} {k : FK} {h' : Heap} {m : Str → Option Value} {tk : Nat} (F₀ : Fr c.base F.env.locals s.heap m) (hn : s.heap.get? a = none) (hk : ∀ b o, b ≠ F.env.locals → s.heap.get? b = some o → h'.get? b = some o)
  (F' : Fr c.base F.env.locals h' m) (hp : FzAt h' a k) (ht : s.toks ≤ tk) : G.le (G.addFz a k) ∧ Inv c F (G.addFz a k) ρ σ { s with heap := h', toks := tk } := by
 obtain ⟨oL, es, ep, hoL, hd, hst, hnf⟩ := F₀.ns
 obtain ⟨oL', _, _, hoL', _⟩ := F'.ns
 have hne : a ≠ F.env.locals := fun q => by rw [q, hoL] at hn; cases hn
 have hg := unL_get hk hoL ⟨_, hoL'⟩
 obtain ⟨h1, h2⟩ := h.addFz (a := a) (k := k) (tk := tk) hn hg (hp.keep fun o e => by rw [Heap.get?_update_other _ _ (Ne.symm hne)]; exact e) ht
 exact ⟨h1, h2.unL ⟨_, hoL'⟩ (Heap.get?_some_iff.mp hoL).2 ⟨es, ep, hd, hst, hnf⟩ F'.ns⟩
end
end Mine
end
section
namespace Mine
open PySem PySem.W PyProof.Rows PySem.SeqAt
section
variable {K : Kx} {P : Gh → Prop} {st : St} {ρ : Str → Option V} {σ : List O} {Q : V → St → Prop} {E : X → St → Prop} {G : Gh} {s : Shared}
noncomputable def isLCF : Option NameKind → Bool
 | some .local => true
 | some .cell => true
 | some .free => true
 | _ => false
noncomputable def isLC : Option NameKind → Bool
 | some .local => true
 | some .cell => true
 | _ => false
noncomputable def isGI : Option NameKind → Bool
 | some .globalImplicit => true
 | _ => false
noncomputable def nDbg (x : Str) : Bool := !(x == ("__debug__" : Str))
theorem LCF_cases {o : Option NameKind} (h : isLCF o = true) : o = some .local ∨ o = some .cell ∨ o = some .free := by
 cases o with
 | none => cases h
 | some k => cases k <;> first | exact .inl rfl | exact .inr (.inl rfl) | exact .inr (.inr rfl) | cases h
theorem GI_eq {o : Option NameKind} (h : isGI o = true) : o = some .globalImplicit := by
 cases o with
 | none => cases h
 | some k => cases k <;> first | rfl | cases h
theorem not_dbg {x : Str} (h : nDbg x = true) : (x == ("__debug__" : Str)) = false := by
 unfold nDbg at h; exact Bool.not_eq_true' _ ▸ h
theorem x_look {x : Str} {p : Pos} {v : V} (h : (isLCF (K.sc.names.lookup x) && nDbg x) = true) (hv : st.ρ x = some v) (q : Q v st) : EX K (.Name x p) st Q E := by
 intro A G s QQ EE ok _ hI hE H
 have h1 := (Bool.and_eq_true_iff.mp h).1
 have hd := not_dbg (Bool.and_eq_true_iff.mp h).2
 rw [← ok.hs] at h1
 obtain ⟨xs, R, f⟩ := hI.ok
 have cellCase : ∀ a w, K.F.env.kindOf x = some .cell → K.F.env.cells.lookup x = some a → (a, CellP (some w)) ∈ xs → VR G v w → wpAny K.c.M A (eval (.Name x p) K.F.env) QQ EE s :=
  fun a w hk ha hm hv => wpAny_Name (wpAny_loadName_cell ok.hF.fn hk ha (cell_of (R.xsc _ hm).2) (H.here q hI hv)) hd
 rcases LCF_cases h1 with hl | hl | hl
 ·obtain ⟨m, hm, hloc⟩ := f.loc
  obtain ⟨w, hw, hvr⟩ := hloc x v hl hv
  exact wpAny_Name (wpAny_loadName_local ok.hF.fn (ok.hF.loc x hl) (ns_of (R.xsc _ hm).2) hw (H.here q hI hvr)) hd
 ·obtain ⟨hk, a, ha, _⟩ := ok.hF.cel x hl
  obtain ⟨v', hm, hu⟩ := f.cel x a hl ha
  obtain ⟨w, rfl, hvr⟩ := hu v hv
  exact cellCase a w hk ha hm hvr
 ·obtain ⟨a, w, ha, hm, hvr⟩ := f.fre x v hl hv
  have hm' := f.out _ hm
  rcases ok.hF.fre x hl with hk | hk
  ·exact cellCase a w hk ha hm' hvr
  ·exact wpAny_Name (wpAny_loadName_free ok.hF.fn hk ha (cell_of (R.xsc _ hm').2) (H.here q hI hvr) (beq_eq_false_iff_ne.mpr fun e => by have := ok.hF.nocd; rw [← e, hl] at this; cases this)) hd
noncomputable def GlobAt (c : Cx) (x : Str) (w : Value) : Prop := c.mg x = some w ∨ (c.mg x = none ∧ c.mb x = some w)
theorem wpAny_glob {F : Fm} {c : Cx} {x : Str} {p : Pos} {w : Value} {A : Around} {QQ EE : Value → Shared → Prop} (hF : FmOk c F) (hc : CxOk c) (hI : Inv c F G ρ σ s) (h : (isGI (F.sc.names.lookup x) && nDbg x) = true) (hw : GlobAt c x w) (q : QQ w s) : wpAny c.M A (eval (.Name x p) F.env) QQ EE s := by
 have h1 := GI_eq (Bool.and_eq_true_iff.mp h).1
 have hd := not_dbg (Bool.and_eq_true_iff.mp h).2
 have hg := hc.g.keeps hI.keep
 refine Calls.Name_function_global hF.fn (hF.glo x h1) ?_ hd
 rcases hw with hw | ⟨hw1, hw2⟩
 ·exact Calls.loadGlobal_global (hF.glb ▸ hg) hw q
 ·exact Calls.loadGlobal_builtin (hF.glb ▸ hg) hw1 (hF.blt ▸ hc.b.keeps hI.keep) hw2 q
theorem x_glob {x : Str} {p : Pos} {v : V} {w : Value} (h : (isGI (K.sc.names.lookup x) && nDbg x) = true) (hw : GlobAt K.c x w) (hv : ∀ G, VR G v w) (q : Q v st) : EX K (.Name x p) st Q E :=
 fun A G s QQ EE ok _ hI hE H => wpAny_glob ok.hF ok.hc hI (ok.hs ▸ h) hw (H.here q hI (hv G))
noncomputable def upd (ρ : Str → Option V) (x : Str) (v : V) : Str → Option V := fun y => if y = x then some v else ρ y
theorem upd_same {x : Str} {v : V} : upd ρ x v x = some v := if_pos rfl
theorem upd_ne {x y : Str} {v : V} {r : Option V} (h : decide (y = x) = false) (e : ρ y = r) : upd ρ x v y = r := (if_neg (of_decide_eq_false h)).trans e
theorem ns_not_cell {c : Cx} {xs : List XE} (R : Rel c G xs σ s) {a : Addr} {m : Str → Option Value} {v : Option Value} (h1 : (a, NsP m) ∈ xs) (h2 : (a, CellP v) ∈ xs) : False := by
 obtain ⟨_, ob, ho, es, ep, hd, _⟩ := R.xsc _ h1
 obtain ⟨_, ob', ho', hd'⟩ := R.xsc _ h2
 have e : ob = ob' := Option.some.inj (ho.symm.trans ho')
 subst e
 have e : ob.data = .cell v := hd'
 rw [hd] at e; cases e
noncomputable def NX (K : Kx) (x : Str) (v : V) (st : St) (Q : Unit → St → Prop) (E : X → St → Prop) : Prop := ∀ w, Run K (fun G => VR G v w) (storeName K.F.env x w) (fun _ _ _ => True) st Q E
theorem FR.setLoc {F : Fm} {xs : List XE} {c : Cx} (f : FR F G ρ xs) (hF : FmOk c F) {x : Str} {v : V} {w : Value} {m : Str → Option Value} (hl : F.sc.names.lookup x = some .local) (hm : (F.env.locals, NsP m) ∈ xs)
  (hloc : ∀ x u, F.sc.names.lookup x = some .local → ρ x = some u → ∃ w, m x = some w ∧ VR G u w) (hv : VR G v w) : FR F G (upd ρ x v) (setX F.env.locals (NsP fun y => if y = x then some w else m y) xs) := by
 have hmem : F.env.locals ∈ xs.map (·.1) := List.mem_map_of_mem (f := Prod.fst) hm
 have ne : ∀ {y : Str} {k : NameKind}, F.sc.names.lookup y = some k → k ≠ .local → y ≠ x := fun hy hk q => hk (Option.some.inj (hy.symm.trans (q ▸ hl)))
 refine ⟨⟨_, mem_setX hmem, fun y u hy hu => ?_⟩, fun y a hy ha => ?_, fun y u hy hu => f.fre y u hy ((if_neg (ne hy (by decide))).symm.trans hu), fun e he => mem_setX_ne (f.out e he) fun q => hF.lo (q ▸ List.mem_map_of_mem (f := Prod.fst) he), fun e he => ?_⟩
 ·by_cases q : y = x
  ·refine ⟨w, if_pos q, ?_⟩
   rw [← Option.some.inj ((if_pos q).symm.trans hu)]; exact hv
  ·obtain ⟨w', h1, h2⟩ := hloc y u hy ((if_neg q).symm.trans hu)
   exact ⟨w', (if_neg q).trans h1, h2⟩
 ·obtain ⟨_, a', ha', _, hne⟩ := hF.cel y hy
  obtain ⟨v', hm', hu'⟩ := f.cel y a hy ha
  exact ⟨v', mem_setX_ne hm' (Option.some.inj (ha.symm.trans ha') ▸ hne), fun u hu => hu' u ((if_neg (ne hy (by decide))).symm.trans hu)⟩
 ·obtain ⟨h1, L, m', h2, h3⟩ := f.frs e he
  refine ⟨h1, L, ?_⟩
  by_cases q : L = F.env.locals
  ·subst q; exact ⟨_, h2, mem_setX hmem⟩
  ·exact ⟨m', h2, mem_setX_ne h3 q⟩
theorem FR.setCel {F : Fm} {xs : List XE} {c : Cx} (R : Rel c G xs σ s) (f : FR F G ρ xs) (hF : FmOk c F) {x : Str} {v : V} {w : Value} {a : Addr} {v₀ : Option Value} (hl : F.sc.names.lookup x = some .cell) (ha : F.env.cells.lookup x = some a)
  (hout : a ∉ F.out.map (·.1)) (hne : a ≠ F.env.locals) (hm : (a, CellP v₀) ∈ xs) (hv : VR G v w) : FR F G (upd ρ x v) (setX a (CellP (some w)) xs) := by
 have hmem : a ∈ xs.map (·.1) := List.mem_map_of_mem (f := Prod.fst) hm
 have ne : ∀ {y : Str} {k : NameKind}, F.sc.names.lookup y = some k → k ≠ .cell → y ≠ x := fun hy hk q => hk (Option.some.inj (hy.symm.trans (q ▸ hl)))
 obtain ⟨m, hm', hloc⟩ := f.loc
 refine ⟨⟨m, mem_setX_ne hm' (Ne.symm hne), fun y u hy hu => hloc y u hy ((if_neg (ne hy (by decide))).symm.trans hu)⟩, fun y b hy hb => ?_, fun y u hy hu => f.fre y u hy ((if_neg (ne hy (by decide))).symm.trans hu),
  fun e he => mem_setX_ne (f.out e he) fun q => hout (q ▸ List.mem_map_of_mem (f := Prod.fst) he), fun e he => ?_⟩
 ·by_cases q : y = x
  ·have hab : a = b := Option.some.inj (ha.symm.trans (q ▸ hb))
   refine ⟨some w, hab ▸ mem_setX hmem, fun u hu => ⟨w, rfl, ?_⟩⟩
   rw [← Option.some.inj ((if_pos q).symm.trans hu)]; exact hv
  ·obtain ⟨v', hm₂, hu'⟩ := f.cel y b hy hb
   exact ⟨v', mem_setX_ne hm₂ fun z => q (hF.inj y x a hy hl (z ▸ hb) ha), fun u hu => hu' u ((if_neg q).symm.trans hu)⟩
 ·obtain ⟨h1, L, m', h2, h3⟩ := f.frs e he
  exact ⟨h1, L, m', h2, mem_setX_ne h3 fun q => by have q' : L = a := q; subst q'; exact ns_not_cell R h3 hm⟩
theorem LC_cases {o : Option NameKind} (h : isLC o = true) : o = some .local ∨ o = some .cell := by
 cases o with
 | none => cases h
 | some k => cases k <;> first | exact .inl rfl | exact .inr rfl | cases h
theorem n_set {x : Str} {v : V} {Q : Unit → St → Prop} (h : isLC (K.sc.names.lookup x) = true) (q : Q () ⟨upd ρ x v, σ⟩) : NX K x v ⟨ρ, σ⟩ Q E := by
 intro w A G s QQ EE ok hP hI hE H
 rw [← ok.hs] at h
 obtain ⟨xs, R, f⟩ := hI.ok
 rcases LC_cases h with hl | hl
 ·obtain ⟨m, hm, hloc⟩ := f.loc
  exact wpAny_storeName_local (ok.hF.loc x hl) (ns_of (R.xsc _ hm).2) (fun h' hn hs => H.here q ⟨_, R.changeX (List.mem_map_of_mem (f := Prod.fst) hm) hs.extBut (of_ns hn) (Nat.le_succ _), f.setLoc ok.hF hl hm hloc hP⟩ trivial)
   (by rw [ok.hF.fn]; rfl)
 ·obtain ⟨hk, a, ha, hout, hne⟩ := ok.hF.cel x hl
  obtain ⟨v₀, hm, _⟩ := f.cel x a hl ha
  exact wpAny_storeName_cell ok.hF.fn hk ha (cell_of (R.xsc _ hm).2) fun h' hn hs =>
   H.here q ⟨_, R.changeX (s := s) (tk := s.toks) (List.mem_map_of_mem (f := Prod.fst) hm) hs.extBut (of_cell hn) (Nat.le_refl _), f.setCel R ok.hF hl ha hout hne hm hP⟩ trivial
end
end Mine
end
section
namespace Mine
open PySem PySem.W PyProof.Rows PySem.SeqAt
noncomputable def V.num : V → Option Int
 | .int a => .some a
 | .mrk a => .some a
 | _ => Option.none
noncomputable def V.isGlob : V → Bool
 | .glob _ => true
 | _ => false
structure SlotF (K : Frag) (C : Addr) (nm : Str) (k : Nat) (p : Addr) : Prop where
 h1 : plainGet K C nm = true
 h2 : isClsIn K C = true
 h3 : findIn K (.ref C) nm = some (some (.ref p))
 h4 : specialIn K (.ref p) "__get__" = some (some (.builtin "member_descriptor.__get__"))
 h5 : takesIn K (.ref p) = some true
 h6 : slotIn K p C = some k
 h7 : findIn K (.ref C) "__setattr__" = some (some (.builtin "object.__setattr__"))
 h8 : plainOver K C = true
 h9 : takerIn K C nm = some (some (.ref p))
 h10 : typeIn K (.ref p) = some (.type "member_descriptor")
 h11 : k < 1000
structure MethF (K : Frag) (C : Addr) (nm : Str) (a : Addr) : Prop where
 get : plainGet K C nm = true
 find : findIn K (.ref C) nm = some (some (.ref a))
 fn : isFn K (.ref a) = true
structure FldF (K : Frag) (C : Addr) (nm : Str) : Prop where
 get : plainGet K C nm = true
 dict : hasDictIn K C = true
 find : findIn K (.ref C) nm = some none
 set : findIn K (.ref C) "__setattr__" = some (some (.builtin "object.__setattr__"))
 over : plainOver K C = true
section
variable {K : Type} [DecidableEq K]
noncomputable def putG (fs : List (K × V)) (k : K) (v : V) : List (K × V) := if fs.any (fun e => decide (e.1 = k)) then fs.map (fun e => if e.1 = k then (e.1, v) else e) else fs ++ [(k, v)]
noncomputable def findG (fs : List (K × V)) (k : K) : Option V := (fs.find? fun e => decide (e.1 = k)).map (·.2)
theorem findG_cons {e : K × V} {es : List (K × V)} {n : K} : findG (e :: es) n = if e.1 = n then some e.2 else findG es n := by
 unfold findG
 rw [List.find?_cons]
 by_cases z : e.1 = n
 ·simp only [z, decide_true, if_true, Option.map_some]
 ·simp only [z, decide_false, if_false]
theorem valueAt_cons {e : K × Value} {es : List (K × Value)} {n : K} : valueAt (e :: es) n = if e.1 = n then some e.2 else valueAt es n := by
 unfold valueAt
 rw [List.find?_cons]
 by_cases z : e.1 = n
 ·simp only [z, decide_true, if_true, Option.map_some]
 ·simp only [z, decide_false, if_false]
theorem KVs.keys {G : Gh} : ∀ {es : List (K × V)} {kvs : List (K × Value)}, KVs G es kvs → kvs.map (·.1) = es.map (·.1)
 | [], _, h => congrArg (List.map (·.1)) h
 | e :: es, _, ⟨v, us, q, _, r⟩ => by rw [q]; exact congrArg (e.1 :: ·) r.keys
theorem KVs.len {G : Gh} {es : List (K × V)} {kvs : List (K × Value)} (h : KVs G es kvs) : kvs.length = es.length := by have := congrArg List.length h.keys; rwa [List.length_map, List.length_map] at this
theorem KVs.snoc {G : Gh} {k : K} {x : V} {u : Value} (hx : VR G x u) : ∀ {es : List (K × V)} {kvs : List (K × Value)}, KVs G es kvs → KVs G (es ++ [(k, x)]) (kvs ++ [(k, u)])
 | [], _, h => ⟨u, [], congrArg (· ++ _) h, hx, rfl⟩
 | e :: es, _, ⟨v, us, q, h, r⟩ => ⟨v, _, congrArg (· ++ _) q, h, r.snoc hx⟩
theorem KVs.find {G : Gh} {n : K} : ∀ {es : List (K × V)} {kvs : List (K × Value)}, KVs G es kvs → (findG es n = none ∧ valueAt kvs n = none) ∨ ∃ x v, findG es n = some x ∧ valueAt kvs n = some v ∧ VR G x v
 | [], _, h => .inl ⟨rfl, by rw [h]; rfl⟩
 | e :: es, _, ⟨v, us, q, h, r⟩ => by
  subst q
  rw [findG_cons, valueAt_cons]
  by_cases z : e.1 = n
  ·rw [if_pos z, if_pos z]; exact .inr ⟨e.2, v, rfl, rfl, h⟩
  ·rw [if_neg z, if_neg z]; exact r.find
theorem KVs.find_some {G : Gh} {n : K} {x : V} {es : List (K × V)} {kvs : List (K × Value)} (h : KVs G es kvs) (e : findG es n = some x) : ∃ v, valueAt kvs n = some v ∧ VR G x v := by
 rcases h.find (n := n) with q | ⟨x', v, q, h⟩
 ·rw [q.1] at e; cases e
 ·rw [e] at q; cases q; exact ⟨v, h⟩
theorem KVs.any {G : Gh} {es : List (K × V)} {kvs : List (K × Value)} (h : KVs G es kvs) (n : K) : kvs.any (fun e => decide (e.1 = n)) = es.any (fun e => decide (e.1 = n)) := by
 have := congrArg (fun l => List.any l fun k => decide (k = n)) h.keys
 rwa [List.any_map, List.any_map] at this
theorem KVs.over {G : Gh} {n : K} {x : V} {u : Value} (hx : VR G x u) : ∀ {es : List (K × V)} {kvs : List (K × Value)}, KVs G es kvs → KVs G (es.map fun e => if e.1 = n then (e.1, x) else e) (kvs.map fun e => if e.1 = n then (e.1, u) else e)
 | [], _, h => congrArg (List.map _) h
 | e :: es, _, ⟨v, us, q, h, r⟩ => by
  subst q
  rw [List.map_cons, List.map_cons]
  by_cases z : e.1 = n
  ·rw [if_pos z, if_pos z]; exact ⟨u, _, rfl, hx, r.over hx⟩
  ·rw [if_neg z, if_neg z]; exact ⟨v, _, rfl, h, r.over hx⟩
theorem KVs.put {G : Gh} {es : List (K × V)} {kvs : List (K × Value)} (h : KVs G es kvs) (n : K) {x : V} {u : Value} (hx : VR G x u) : KVs G (putG es n x) (stored kvs n u) := by
 unfold stored putG
 rw [h.any]
 split
 ·exact h.over hx
 ·exact h.snoc hx
theorem keys_put {α : Type} (fs : List (K × α)) (k : K) (v : α) : (fs.map (fun e => if e.1 = k then (e.1, v) else e)).map (·.1) = fs.map (·.1) := by
 rw [List.map_map]
 refine List.map_congr_left fun e _ => ?_
 by_cases q : e.1 = k
 ·simp [q]
 ·simp [q]
theorem stored_nodup {kvs : List (K × Value)} (h : (kvs.map (·.1)).Nodup) (k : K) (v : Value) : ((stored kvs k v).map (·.1)).Nodup := by
 unfold stored
 split
 ·rw [keys_put]; exact h
 ·rename_i hn
  rw [List.map_append, List.nodup_append]
  refine ⟨h, by simp, ?_⟩
  intro a ha b hb
  simp only [List.map_cons, List.map_nil, List.mem_singleton] at hb
  rintro rfl
  subst hb
  obtain ⟨e, he, he'⟩ := List.mem_map.mp ha
  exact hn (List.any_eq_true.mpr ⟨e, he, by simp [he']⟩)
end
theorem isStr_is (prog : Program) (w : World) (nm : Str) : (fun e : DictEntry => e.key.isStr nm) = fun e => (strKind prog w).is nm e.key := by
 funext e
 show Value.isStr e.key nm = Value.isStrOf nm e.key
 cases e.key <;> rfl
theorem lookIn_strs {prog : Program} {w : World} {nm : Str} {od : Obj} {des : Array DictEntry} {ep : Nat} {kvs : List (Str × Value)} (hd : od.data = .dict des ep) (hk : KeysOf (strKind prog w) des) (hp : Pairs (strKind prog w) des.toList kvs) :
  lookIn nm od = some (valueAt kvs nm) := by
 unfold lookIn
 rw [hd]
 dsimp only
 have hf := hp.find nm
 rw [← isStr_is prog w nm] at hf
 cases e : des.toList.find? (fun e => e.key.isStr nm) with
 | some en => rw [e] at hf; dsimp only; rw [← hf]; rfl
 | none =>
  rw [e] at hf
  have e2 : des.toList.any (·.refKey) = false := by
   rw [List.any_eq_false]
   intro e he
   obtain ⟨k, hk1, _⟩ := hk e (Array.mem_toList_iff.mp he)
   obtain ⟨t, ht⟩ := Value.isStrOf_shape hk1
   simp [DictEntry.refKey, ht]
  dsimp only
  rw [e2, ← hf]; rfl
inductive PutAt (prog : Program) (w : World) (o : Obj) (kvs : List (Str × Value)) : Prop
 | mk (es : List DictEntry) (n : Nat) (e3 : o.data = .dict es.toArray n) (e4 : o.ExactDict) (e5 : KeysOf (strKind prog w) es.toArray) (e6 : Pairs (strKind prog w) es kvs)
theorem put_strs {prog : Program} {w : World} {nm : Str} {od : Obj} {des : Array DictEntry} {ep : Nat} {kvs : List (Str × Value)} (hx : od.ExactDict) (hd : od.data = .dict des ep) (hk : KeysOf (strKind prog w) des) (hp : Pairs (strKind prog w) des.toList kvs)
  (hn : (kvs.map (·.1)).Nodup) (v : Value) (t : Tok) : PutAt prog w (Obj.putName nm (PyData.keyHash w.params nm) (.str nm t) v od) (stored kvs nm v) := by
 obtain ⟨oc, odi, oda, osl⟩ := od
 obtain ⟨h1, h2, h3⟩ := hx
 dsimp only at hd h1 h2 h3
 subst hd h1 h2 h3
 rw [Obj.putName_eq]
 unfold Obj.putNameByArray
 dsimp only
 have hfi := hp.findIdx nm
 have hfa : des.findIdx? (fun e => e.key.isStr nm) = des.toList.findIdx? (fun e => (strKind prog w).is nm e.key) := by
  rw [isStr_is prog w nm]
  obtain ⟨l⟩ := des
  simp
 rw [hfa]
 cases hi : des.toList.findIdx? (fun e => (strKind prog w).is nm e.key) with
 | some i =>
  dsimp only
  have hany : kvs.any (fun e => decide (e.1 = nm)) = true := by
   rw [hi] at hfi
   obtain ⟨hlt, hp', _⟩ := List.findIdx?_eq_some_iff_getElem.mp hfi.symm
   exact List.any_eq_true.mpr ⟨_, List.getElem_mem hlt, hp'⟩
  refine ⟨des.toList.modify i fun e => { e with val := v }, ep, ?_, ⟨rfl, rfl, rfl⟩, ?_, ?_⟩
  ·rw [← Array.toList_modify]
  ·rw [← Array.toList_modify]; exact hk.modify i v
  ·unfold stored; rw [if_pos hany]; exact hp.modify hn hi v
 | none =>
  dsimp only
  have hany : ¬ kvs.any (fun e => decide (e.1 = nm)) = true := by
   rw [hi] at hfi
   intro q
   obtain ⟨e, he, he'⟩ := List.any_eq_true.mp q
   have := List.findIdx?_eq_none_iff.mp hfi.symm e he
   rw [this] at he'; cases he'
  refine ⟨des.toList ++ [⟨PyData.keyHash w.params nm, .str nm t, v⟩], ep + 1, ?_, ⟨rfl, rfl, rfl⟩, ?_, ?_⟩
  ·rw [← Array.toList_push]
  ·rw [← Array.toList_push]; exact hk.push (strKind_is prog w nm t) v
  ·unfold stored; rw [if_neg hany]; exact hp.append (strKind_is prog w nm t) _ v
theorem allN_nodup (B h : Heap) (L : Addr) : ((allN B h L).map (·.1)).Nodup := by
 have key : ∀ l : List Nat, l.Nodup → ((l.filterMap fun b => if b = L ∨ (B.get? b).isSome then none else (h.get? b).map fun o => (b, o)).map (·.1)).Nodup ∧
   ∀ b ∈ ((l.filterMap fun b => if b = L ∨ (B.get? b).isSome then none else (h.get? b).map fun o => (b, o)).map (·.1)), b ∈ l := by
  intro l
  induction l with
  | nil => intro _; exact ⟨by simp, by simp⟩
  | cons a l ih =>
   intro hn
   rw [List.nodup_cons] at hn
   obtain ⟨i1, i2⟩ := ih hn.2
   rw [List.filterMap_cons]
   split
   ·exact ⟨i1, fun b hb => List.mem_cons_of_mem _ (i2 b hb)⟩
   ·rename_i p hp
    have : p.1 = a := by
     split at hp
     ·cases hp
     ·obtain ⟨o, _, e⟩ := Option.map_eq_some_iff.mp hp
      rw [← e]
    rw [List.map_cons, List.nodup_cons, this]
    exact ⟨⟨fun q => hn.1 (i2 _ q), i1⟩, fun b hb => by
     rcases List.mem_cons.mp hb with rfl | hb
     ·exact List.mem_cons_self
     ·exact List.mem_cons_of_mem _ (i2 b hb)⟩
 exact (key _ List.nodup_range).1
inductive SplitAt (l : List (Addr × Obj)) (a : Addr) (o : Obj) : Prop
 | mk (pre post : List (Addr × Obj)) (hl : l = pre ++ (a, o) :: post) (e1 : ∀ p ∈ pre, p.1 ≠ a) (e2 : ∀ p ∈ post, p.1 ≠ a)
theorem allN_split {B h : Heap} {L a : Addr} {o : Obj} (e : h.get? a = some o) (hL : a ≠ L) (hB : B.get? a = none) :
  SplitAt (allN B h L) a o := by
 obtain ⟨pre, post, q⟩ := List.append_of_mem (mem_allN e hL hB)
 have nd := allN_nodup B h L
 rw [q, List.map_append, List.map_cons, List.nodup_append, List.nodup_cons] at nd
 refine ⟨pre, post, q, fun p hp z => ?_, fun p hp z => ?_⟩
 ·exact nd.2.2 p.1 (List.mem_map_of_mem (f := Prod.fst) hp) a List.mem_cons_self z
 ·refine nd.2.1.1 ?_
  show a ∈ post.map (·.1)
  rw [← z]
  exact List.mem_map_of_mem (f := Prod.fst) hp
theorem stays_split {B h h' : Heap} {L a : Addr} {o o' : Obj} {m : Str → Option Value} {pre post : List (Addr × Obj)} (hk : ∀ b o, B.get? b = some o → h.get? b = some o) (hl : allN B h L = pre ++ (a, o) :: post)
  (F' : Fr B L h' m) (N' : News B L h' (pre ++ (a, o') :: post)) : ∀ b ob, b ≠ L → b ≠ a → h.get? b = some ob → h'.get? b = some ob := fun b ob hb hba e => by
 cases q : B.get? b with
 | some o' => rw [hk b o' q] at e; cases e; exact F'.keep b _ q
 | none =>
  have := mem_allN e hb q
  rw [hl] at this
  refine (N' (b, ob) ?_).1
  rcases List.mem_append.mp this with z | z
  ·exact List.mem_append_left _ z
  ·rcases List.mem_cons.mp z with z | z
   ·cases z; exact absurd rfl hba
   ·exact List.mem_append_right _ (List.mem_cons_of_mem _ z)
section
variable {c : Cx} {F : Fm} {G : Gh} {ρ : Str → Option V} {σ : List O} {s : Shared}
theorem Inv.kin (hI : Inv c F G ρ σ s) (hc : CxOk c) : c.K.In s.heap := hc.kin.keeps hI.keep
theorem findObj_descr {K : Frag} {C : Addr} {od : Option Obj} {nm : Str} {a g : Value} (hc : (clsIn K C).isSome = true) (ha : findIn K (.ref C) nm = some (some a)) (hg : specialIn K a "__get__" = some (some g)) (ht : takesIn K a = some true) :
  findObj K C od nm = some (.bind g a) := by
 cases hcd : clsIn K C with
 | none => rw [hcd] at hc; cases hc
 | some cd => simp [findObj, hcd, ha, hg, ht]
theorem slots_inst (hI : Inv c F G ρ σ s) {a C db : Addr} {sl : Array (Option Value)} (e : s.heap.get? a = some ⟨.ref C, some db, .plain, sl⟩) (k0 : G.fz db = some (.whole noDict)) : InstAt s.heap a ⟨.ref C, some db, .plain, sl⟩ C (some noDict) := ⟨e, rfl, rfl, hI.fz k0⟩
theorem handed_of {x : V} {v : Value} (h : VR G x v) (hg : x.isGlob = false) : handedIn v = true := by
 cases x <;> first
  | (obtain rfl : v = _ := h; rfl)
  | (obtain ⟨_, rfl⟩ := h; rfl)
  | (obtain ⟨_, rfl, _⟩ := h; rfl)
  | (obtain ⟨_, _, rfl, _⟩ := h; rfl)
  | exact nomatch hg
theorem fdict_of {c : Cx} (hI : Inv c F G ρ σ s) {a : Addr} {des : Array DictEntry} {ep : Nat} {kvs : List (Int × Value)} (k : G.fz a = some (.dct des ep)) (h1 : KeysOf (intKind c.prog c.w) des) (h2 : Pairs (intKind c.prog c.w) des.toList kvs) (h3 : (kvs.map (·.1)).Nodup) : s.heap.DictOf (intKind c.prog c.w) a kvs :=
 (hI.fz k).elim fun ob h => ⟨ob, des, ep, h.1, h.2.1, h.2.2, h1, h2, h3⟩
theorem Inv.st_base (h : Inv c F G ρ σ s) {a : Addr} {i : Nat} (hi : G.own a = some (.st i)) : c.base.get? a = none := by
 obtain ⟨xs, R, f⟩ := h.ok
 cases q : c.base.get? a with
 | none => rfl
 | some o => rw [R.baseOwn a o q] at hi; cases hi
theorem Inv.st_L (h : Inv c F G ρ σ s) {a : Addr} {i : Nat} (hi : G.own a = some (.st i)) : a ≠ F.env.locals := by
 obtain ⟨xs, R, f⟩ := h.ok
 obtain ⟨m, hm, _⟩ := f.loc
 rintro rfl
 rw [(R.xsc _ hm).1] at hi; cases hi
theorem Inv.setStL (h : Inv c F G ρ σ s) {a : Addr} {i : Nat} {o o' : O} {h' : Heap} {m : Str → Option Value} {tk : Nat} (F₀ : Fr c.base F.env.locals s.heap m) (hi : G.own a = some (.st i)) (ho : σ[i]? = some o) (hl : o.fixed = false)
  (hk : ∀ b o, b ≠ F.env.locals → b ≠ a → s.heap.get? b = some o → h'.get? b = some o) (F' : Fr c.base F.env.locals h' m) (hp : ORs c G h' a o') (hv : ∃ ob, h'.get? a = some ob) (ht : s.toks ≤ tk) :
  Inv c F G ρ (σ.set i o') { s with heap := h', toks := tk } := by
 obtain ⟨oL, es, ep, hoL, hd, hst, hnf⟩ := F₀.ns
 obtain ⟨oL', _, _, hoL', _⟩ := F'.ns
 have hne : a ≠ F.env.locals := h.st_L hi
 have hg : ∀ b o, b ≠ a → s.heap.get? b = some o → (h'.update F.env.locals (fun _ => oL)).get? b = some o := fun b o hb e => by
  by_cases q : b = F.env.locals
  ·subst q
   rw [hoL] at e; cases e
   exact Heap.get?_update_self (fun _ => oL) hoL' (Heap.get?_some_iff.mp hoL).2
  ·rw [Heap.get?_update_other _ _ (Ne.symm q)]; exact hk b o q hb e
 have ha : ∀ o, h'.get? a = some o → (h'.update F.env.locals (fun _ => oL)).get? a = some o := fun o e => by rw [Heap.get?_update_other _ _ (Ne.symm hne)]; exact e
 obtain ⟨ob, hob⟩ := hv
 exact (h.setSt (tk := tk) hi ho hl (fun b o hb e => hg b o (by assumption) (by assumption)) (hp.keep ha) ⟨ob, ha _ hob⟩ ht).unL ⟨_, hoL'⟩ (Heap.get?_some_iff.mp hoL).2 ⟨es, ep, hd, hst, hnf⟩ F'.ns
end
section
variable {K : Kx} {P : Gh → Prop} {st : St} {ρ : Str → Option V} {σ : List O} {Q : V → St → Prop} {E : X → St → Prop} {G : Gh} {s : Shared} {i C d k : Nat} {fs : List (Option V)} {gs : List (Str × V)} {nm : Str} {v x : V} {o : O}
theorem VR_int (j : Int) (t : Tok) : VR G (.int j) (.int j t) := Exists.intro t rfl
theorem VR_bool (b : Bool) : VR G (.bool b) (.bool b) := rfl
theorem VR_none : VR G .none .none := rfl
theorem VR_str (z : Str) (t : Tok) : VR G (.str z) (.str z t) := Exists.intro t rfl
theorem x_int {j : Int} {kk} {p : Pos} (q : Q (.int j) st) : EX K (.Constant (.int j) kk p) st Q E := fun A G s QQ EE ok _ hI hE H => fun _ _ _ => H.here q (hI.toks (Nat.le_succ _)) (VR_int _ _)
theorem x_none {kk} {p : Pos} (q : Q .none st) : EX K (.Constant .none kk p) st Q E := Run.pure (fun _ _ => VR_none) q
theorem x_bool {b : Bool} {kk} {p : Pos} (q : Q (.bool b) st) : EX K (.Constant (.bool b) kk p) st Q E := Run.pure (fun _ _ => VR_bool b) q
theorem x_str {z : Str} {kk} {p : Pos} (q : Q (.str z) st) : EX K (.Constant (.str z) kk p) st Q E := fun A G s QQ EE ok _ hI hE H => fun _ _ _ => H.here q (hI.toks (Nat.le_succ _)) (VR_str _ _)
noncomputable def AX (K : Kx) (v : V) (nm : Str) (st : St) (Q : V → St → Prop) (E : X → St → Prop) : Prop := ∀ w expr, Run K (fun G => VR G v w) (getAttr w nm expr) RV st Q E
noncomputable def AS (K : Kx) (v : V) (nm : Str) (x : V) (st : St) (Q : Unit → St → Prop) (E : X → St → Prop) : Prop := ∀ w u, Run K (fun G => VR G v w ∧ VR G x u) (setAttr w nm u) (fun _ _ _ => True) st Q E
theorem x_attr {o : PySem.Expr} {p : Pos} (hb : ∀ env whole, attributeBase o nm env whole = whole) (h : EX K o st (fun v st' => AX K v nm st' Q E) E) : EX K (.Attribute o nm p) st Q E := by
 unfold EX
 rw [arm_eval_Attribute, hb]
 exact Run.bind up_true (h.imp fun v st' q w => Run.standAt (((q w true).pre fun _ h => h.2).of_wp fun A QQ EE s hw => wpAny_bind (wpAny_holding (wpAny_mono hw (fun r s' h => wpAny_bind (wpAny_letTemporaryGo (wpAny_pure h))) fun _ _ x => x))))
theorem set_size {sl : Array (Option Value)} {u : Option Value} (hl : k < fs.length) (hsz : sl.size ≤ fs.length) : ((sl ++ Array.replicate (k + 1 - sl.size) none).setIfInBounds k u).size ≤ (fs.set k (some x)).length := by
 simp only [Array.size_setIfInBounds, Array.size_append, Array.size_replicate, List.length_set]; omega
theorem taker_none {K : Frag} (h : findIn K (.ref C) nm = some none) : takerIn K C nm = some none := by unfold takerIn; rw [h]; rfl
theorem put_len {c : Cx} {kvs : List (Str × Value)} {es : List DictEntry} {u : Value} (h : Pairs (strKind c.prog c.w) es (stored kvs nm u)) (hk : KVs G gs kvs) (hl : gs.length < 100) : es.length ≤ 1000 := by
 have h1 := h.length
 have h2 := stored_length_le kvs nm u
 have h3 := hk.len
 omega
theorem a_slot {p : Addr} (h : st.σ[i]? = some (.slots C fs)) (hs : SlotF K.c.K C nm k p) (hv : fs[k]? = some (some v)) (hg : v.isGlob = false) (q : Q v st) : AX K (.obj i) nm st Q E := by
 refine fun w expr => on_obj1 (K := K) (t := fun w => getAttr w nm expr) h (fun a A G s QQ EE ok ha hO hI hE H => ?_) w
 cases hO with | mk db sl e k0 hsz r => ?_
 refine (r k _ hv).elim fun u hu => ?_
 exact get_bind (hI.kin ok.hc) (slots_inst hI e k0) (plainGet_of hs.h1).1 (findObj_descr hs.h2 hs.h3 hs.h4 hs.h5) (plainGet_of hs.h1).2
  (wpAny_call (slot_get (s := { s with toks := s.toks + 1 }) (hI.kin ok.hc) (slots_inst hI e k0) hs.h6 hu.1 (handed_on (handed_of hu.2 hg) (H.here q (hI.toks (Nat.le_succ _)) hu.2))))
theorem a_inst (h : st.σ[i]? = some (.inst C d)) (hf : FldF K.c.K C nm) (hd : st.σ[d]? = some (.idict gs)) (hv : findG gs nm = some v) (hg : v.isGlob = false) (q : Q v st) : AX K (.obj i) nm st Q E := by
 refine fun w expr => on_obj1 (K := K) (t := fun w => getAttr w nm expr) h (fun a A G s QQ EE ok ha hO hI hE H => ?_) w
 cases hO with | mk b e hb => ?_
 cases hI.own_at hb hd with | mk kvs hdo hvs => ?_
 obtain ⟨od, des, ep, h1, h2, h3, h4, h5, h6⟩ := hdo
 refine (hvs.find_some hv).elim fun u hu => ?_
 exact get_value (hI.kin ok.hc) ⟨e, rfl, rfl, h1⟩ (plainGet_of hf.get).1 (findObj_own hf.dict hf.find rfl ((lookIn_strs h3 h4 h5).trans (congrArg some hu.1))) (handed_of hu.2 hg) (H.here q (hI.toks (Nat.le_succ _)) hu.2)
theorem SR_set {sl : Array (Option Value)} {u : Value} (hlt : k < fs.length) (hsl : ∀ (i : Nat) (f : Option V), fs[i]? = some f → SR G f ((sl[i]?).join)) (hy : VR G x u) (j : Nat) (f : Option V) (hj : (fs.set k (some x))[j]? = some f) :
  SR G f ((((sl ++ Array.replicate (k + 1 - sl.size) none).setIfInBounds k (some u))[j]?).join) := by
 by_cases q : k = j
 ·subst q
  rw [List.getElem?_set_self hlt] at hj
  cases hj
  rw [Array.getElem?_setIfInBounds_self_of_lt (by simp only [Array.size_append, Array.size_replicate]; omega)]
  exact ⟨u, rfl, hy⟩
 ·rw [List.getElem?_set_ne q] at hj
  rw [Array.getElem?_setIfInBounds_ne q, Array.getElem?_append]
  have hj' := hsl j f hj
  split
  ·exact hj'
  ·rename_i z
   rw [Array.getElem?_eq_none (Nat.le_of_not_lt z)] at hj'
   rw [Array.getElem?_replicate]
   split <;> exact hj'
theorem s_slot {Q : Unit → St → Prop} {p : Addr} (h : σ[i]? = some (.slots C fs)) (hs : SlotF K.c.K C nm k p) (hl : k < fs.length) (q : Q () ⟨ρ, σ.set i (.slots C (fs.set k (some x)))⟩) : AS K (.obj i) nm x ⟨ρ, σ⟩ Q E := by
 refine fun w u => on_obj (K := K) (t := fun w => setAttr w nm u) h (fun a A G s QQ EE ok hP ha hO hI hE H => ?_) w
 refine (hI.frame ok.hF).elim fun m F₀ => ?_
 cases hO with | mk db sl e k0 hsz r => ?_
 cases allN_split (B := K.c.base) (L := K.F.env.locals) e (hI.st_L ha) (hI.st_base ha) with | mk pre post hl' e1 e2 => ?_
 exact set_plain (hI.kin ok.hc) (slots_inst hI e k0) hs.h7 (osa_descr (s := { s with toks := s.toks + 1 }) PySem.W.KF.slot_mset (hI.kin ok.hc) (slots_inst hI e k0) hs.h8 hs.h9 hs.h10
  (slot_set (s := { s with toks := s.toks + 1 }) F₀ (hl' ▸ allN_news) (hI.kin ok.hc) (slots_inst hI e k0) hs.h6 hs.h11 e1 e2 rfl rfl fun h' F' N' =>
   H.here q (hI.setStL F₀ ha h rfl (stays_split hI.keep hl' F' N') F' ⟨db, _, (N' _ (List.mem_append_right pre (.head post))).1, k0, set_size hl hsz, SR_set hl r hP⟩ ⟨_, (N' _ (List.mem_append_right pre (.head post))).1⟩ (Nat.le_succ _)) trivial))
theorem s_inst {Q : Unit → St → Prop} (h : σ[i]? = some (.inst C d)) (hf : FldF K.c.K C nm) (hd : σ[d]? = some (.idict gs)) (hl : gs.length < 100) (q : Q () ⟨ρ, σ.set d (.idict (putG gs nm x))⟩) : AS K (.obj i) nm x ⟨ρ, σ⟩ Q E := by
 refine fun w u => on_obj (K := K) (t := fun w => setAttr w nm u) h (fun a A G s QQ EE ok hP ha hO hI hE H => ?_) w
 refine (hI.frame ok.hF).elim fun m F₀ => ?_
 cases hO with | mk b e hb => ?_
 cases hI.own_at hb hd with | mk kvs hdo hvs => ?_
 obtain ⟨od, des, ep, h1, h2, h3, h4, h5, h6⟩ := hdo
 cases allN_split (B := K.c.base) (L := K.F.env.locals) h1 (hI.st_L hb) (hI.st_base hb) with | mk pre post hl' e1 e2 => ?_
 cases put_strs (nm := nm) h2 h3 h4 h5 h6 u (s.toks + 1) with | mk es n' e3 e4 e5 e6 => ?_
 have hin : InstAt s.heap a ⟨.ref C, some b, .plain, #[]⟩ C (some od) := ⟨e, rfl, rfl, h1⟩
 exact set_plain (hI.kin ok.hc) hin hf.set (osa_dict (s := { s with toks := s.toks + 1 }) (dx := b) F₀ (hl' ▸ allN_news) (hI.kin ok.hc) hin rfl hf.over (taker_none hf.find) hf.dict
  (by rw [lookIn_strs h3 h4 h5]; rfl) e1 e2 rfl e3 (put_len e6 hvs hl) fun h' F' N' =>
   H.here q (hI.setStL F₀ hb hd rfl (stays_split hI.keep hl' F' N') F' ⟨stored kvs nm u, ⟨_, es.toArray, n', (N' _ (List.mem_append_right pre (.head post))).1, e4, e3, e5, e6, stored_nodup h6 nm u⟩, hvs.put nm hP⟩
    ⟨_, (N' _ (List.mem_append_right pre (.head post))).1⟩ (Nat.le_trans (Nat.le_succ _) (Nat.le_succ _))) trivial)
end
end Mine
end
section
namespace Mine
open PySem
noncomputable def smalls : List Int := (List.range 39).map fun (k : Nat) => (k : Int) - 2
theorem mem_smalls {n : Int} (h : small n = true) : n ∈ smalls := by
 simp only [small, Bool.and_eq_true, decide_eq_true_eq] at h
 refine List.mem_map.mpr ⟨(n + 2).toNat, List.mem_range.mpr (by omega), by omega⟩
noncomputable def all1 (p : Int → Bool) : Bool := smalls.all p
theorem all1_use {p : Int → Bool} (h : all1 p = true) {n : Int} (hn : small n = true) : p n = true := List.all_eq_true.mp h n (mem_smalls hn)
noncomputable def all2 (p : Int → Int → Bool) : Bool := smalls.all fun m => smalls.all fun n => p m n
theorem all2_use {p : Int → Int → Bool} (h : all2 p = true) {m n : Int} (hm : small m = true) (hn : small n = true) : p m n = true :=
 List.all_eq_true.mp (List.all_eq_true.mp h m (mem_smalls hm)) n (mem_smalls hn)
noncomputable def dec2 (x : UInt64) : Int := match Float64.decode x with
 | .fin neg m e => (if neg then -1 else 1) * (if e + 1 ≥ 0 then (m : Int) * 2 ^ (e + 1).toNat else (m : Int) / 2 ^ (-(e + 1)).toNat)
 | _ => 0
theorem dec2_hf' : all1 (fun n => dec2 (hf n) == n) = true := by decide +kernel
theorem hf_ofInt' : all1 (fun i => !small (2 * i) || Float64.ofInt i == hf (2 * i)) = true := by decide +kernel
theorem hf_mul' : all1 (fun n => !small (2 * n) || Float64.mul (Float64.ofInt 2) (hf n) == hf (2 * n)) = true := by decide +kernel
theorem hf_inf' : all1 (fun n => !Float64.isInf (hf n) && !Float64.isNaN (hf n)) = true := by decide +kernel
theorem hf_cmpInt' : all2 (fun m i => !small (2 * i) || (Float64.cmpInt (hf m) i == some Ordering.eq) == decide (m = 2 * i)) = true := by decide +kernel
end Mine
end
section
namespace Mine
open PySem
theorem hf_add' : all2 (fun m n => !small (m + n) || Float64.add (hf m) (hf n) == hf (m + n)) = true := by decide +kernel
end Mine
namespace Mine
open PySem
noncomputable def smalls2 : List Int := (List.range 35).map fun (k : Nat) => (k : Int) - 2
theorem mem_smalls2 {n : Int} (h : small2 n = true) : n ∈ smalls2 := by
 simp only [small2, Bool.and_eq_true, decide_eq_true_eq] at h
 refine List.mem_map.mpr ⟨(n + 2).toNat, List.mem_range.mpr (by omega), by omega⟩
noncomputable def all3 (p : Int → Int → Bool) : Bool := smalls2.all fun m => smalls2.all fun n => p m n
theorem all3_use {p : Int → Int → Bool} (h : all3 p = true) {m n : Int} (hm : small2 m = true) (hn : small2 n = true) : p m n = true :=
 List.all_eq_true.mp (List.all_eq_true.mp h m (mem_smalls2 hm)) n (mem_smalls2 hn)
theorem hf_cmp' : all3 (fun m n => Float64.cmp (hf m) (hf n) == some (compare m n)) = true := by decide +kernel
theorem small_of_small2 {n : Int} (h : small2 n = true) : small n = true := by
 simp only [small2, small, Bool.and_eq_true, decide_eq_true_eq] at h ⊢
 omega
theorem hf_add {m n : Int} (hm : small m = true) (hn : small n = true) (h : small (m + n) = true) : Float64.add (hf m) (hf n) = hf (m + n) := by
 have := all2_use hf_add' hm hn
 rw [h] at this
 simpa using this
theorem hf_inj {m n : Int} (hm : small m = true) (hn : small n = true) (h : hf m = hf n) : m = n := by
 have e1 := all1_use dec2_hf' hm
 have e2 := all1_use dec2_hf' hn
 rw [beq_iff_eq] at e1 e2
 rw [← e1, ← e2, h]
theorem hf_ofInt {i : Int} (hi : small i = true) (h : small (2 * i) = true) : Float64.ofInt i = hf (2 * i) := by
 have := all1_use hf_ofInt' hi
 rw [h] at this
 simpa using this
theorem hf_mul {n : Int} (hn : small n = true) (h : small (2 * n) = true) : Float64.mul (Float64.ofInt 2) (hf n) = hf (2 * n) := by
 have := all1_use hf_mul' hn
 rw [h] at this
 simpa using this
theorem hf_inf {n : Int} (hn : small n = true) : Float64.isInf (hf n) = false := by
 have := all1_use hf_inf' hn
 simp only [Bool.and_eq_true, Bool.not_eq_true'] at this
 exact this.1
theorem hf_nan {n : Int} (hn : small n = true) : Float64.isNaN (hf n) = false := by
 have := all1_use hf_inf' hn
 simp only [Bool.and_eq_true, Bool.not_eq_true'] at this
 exact this.2
theorem hf_cmp {m n : Int} (hm : small2 m = true) (hn : small2 n = true) : Float64.cmp (hf m) (hf n) = some (compare m n) := by
 simpa using all3_use hf_cmp' hm hn
theorem hf_cmpInt {m i : Int} (hm : small m = true) (hi : small i = true) (h : small (2 * i) = true) : (Float64.cmpInt (hf m) i == some Ordering.eq) = decide (m = 2 * i) := by
 have := all2_use hf_cmpInt' hm hi
 rw [h] at this
 simpa using this
theorem small_half {i : Int} (h : small (2 * i) = true) : small i = true := by
 simp only [small, Bool.and_eq_true, decide_eq_true_eq] at h ⊢
 omega
theorem small_two {n : Int} (h : small (2 * n) = true) : small n = true := by
 simp only [small, Bool.and_eq_true, decide_eq_true_eq] at h ⊢
 omega
end Mine
end
section
namespace Mine
open PySem PySem.W PyProof.Rows PySem.SeqAt
inductive EqR : Nat → V → V → Bool → Prop
 | none {n} : EqR n .none .none true
 | bool {n} (a b : Bool) : EqR n (.bool a) (.bool b) (a == b)
 | str {n} (a b : Str) : EqR n (.str a) (.str b) (a == b)
 | num {n x y i j} (h : x.num = some i) (h' : y.num = some j) : EqR n x y (decide (i = j))
 | flt {n m m'} (h : small2 m = true) (h' : small2 m' = true) : EqR n (.flt m) (.flt m') (decide (m = m'))
 | fltI {n m y i} (h : small m = true) (h' : small (2 * i) = true) (hy : y.num = some i) : EqR n (.flt m) y (decide (m = 2 * i))
 | lst {n xs ys} (e : Nat → Bool) (hl : xs.length = ys.length) (h : ∀ j x y, xs[j]? = some x → ys[j]? = some y → EqR n x y (e j)) : EqR (n + 1) (.lst xs) (.lst ys) ((List.range xs.length).all e)
 | lstN {n xs ys} (hl : xs.length ≠ ys.length) : EqR n (.lst xs) (.lst ys) false
 | tup {n xs ys} (e : Nat → Bool) (hl : xs.length = ys.length) (h : ∀ j x y, xs[j]? = some x → ys[j]? = some y → EqR n x y (e j)) : EqR (n + 1) (.tup xs) (.tup ys) ((List.range xs.length).all e)
section
variable {G : Gh} {x y : V} {a b : Value} {i : Int}
theorem num_inv (h : VR G x a) (e : x.num = some i) : ∃ t, a = .int i t := by
 cases x <;> first | cases e | skip
 ·exact h
 ·have h' : ∃ t, a = .int i t ∧ G.kt t = some (.inl i) := h
  exact h'.imp fun _ q => q.1
theorem flt_inv {m : Int} (h : VR G (.flt m) a) : ∃ t, a = .float (hf m) t ∧ G.kt t = some (.inr m) := h
theorem str_inv {z : Str} (h : VR G (.str z) a) : ∃ t, a = .str z t := h
theorem bool_inv {z : Bool} (h : VR G (.bool z) a) : a = .bool z := h
theorem none_inv (h : VR G .none a) : a = .none := h
theorem lst_inv {xs : List V} (h : VR G (.lst xs) a) : ∃ l vs, a = .ref l ∧ G.fz l = some (.lst vs) ∧ VRs G xs vs := h
theorem tup_inv {xs : List V} (h : VR G (.tup xs) a) : ∃ l vs, a = .ref l ∧ G.fz l = some (.tup vs) ∧ VRs G xs vs := h
theorem VR_flt {m : Int} {t : Tok} (h : G.kt t = some (.inr m)) : VR G (.flt m) (.float (hf m) t) := Exists.intro t ⟨rfl, h⟩
theorem VR_lst {xs : List V} {l : Addr} {vs : List Value} (k : G.fz l = some (.lst vs)) (r : VRs G xs vs) : VR G (.lst xs) (.ref l) := Exists.intro l ⟨vs, rfl, k, r⟩
theorem VR_tup {xs : List V} {l : Addr} {vs : List Value} (k : G.fz l = some (.tup vs)) (r : VRs G xs vs) : VR G (.tup xs) (.ref l) := Exists.intro l ⟨vs, rfl, k, r⟩
theorem VRs.get' {xs : List V} {vs : List Value} {i : Nat} {v : Value} (h : VRs G xs vs) (e : vs[i]? = some v) : ∃ x, xs[i]? = some x ∧ VR G x v := by
 cases hx : xs[i]? with
 | none => rw [h.get_none hx] at e; cases e
 | some x =>
  obtain ⟨u, h1, h2⟩ := h.get hx
  rw [e] at h1; cases h1
  exact ⟨x, rfl, h2⟩
theorem all_true {xs ys : List V} {vs : List Value} {e : Nat → Bool} {P : V → V → Bool → Prop} (r1 : VRs G xs vs) (r2 : VRs G ys vs) (hl : xs.length = ys.length) (h : ∀ j x y, xs[j]? = some x → ys[j]? = some y → P x y (e j))
  (ih : ∀ x y b v, P x y b → VR G x v → VR G y v → b = true) : (List.range xs.length).all e = true := by
 rw [List.all_eq_true]
 intro j hj
 have hlt := List.mem_range.mp hj
 obtain ⟨v, h1, h2⟩ := r1.get (List.getElem?_eq_getElem hlt)
 obtain ⟨v', h3, h4⟩ := r2.get (List.getElem?_eq_getElem (hl ▸ hlt))
 exact ih _ _ _ v (h j _ _ (List.getElem?_eq_getElem hlt) (List.getElem?_eq_getElem (hl ▸ hlt))) h2 (Option.some.inj (h3.symm.trans h1) ▸ h4)
theorem EqR.same : ∀ {n : Nat} {x y : V} {k : Bool} {a : Value}, EqR n x y k → VR G x a → VR G y a → k = true
 | _, _, _, _, _, .none, _, _ => rfl
 | _, _, _, _, _, .bool p q, h, h' => by have e := (bool_inv h).symm.trans (bool_inv h'); cases e; exact beq_self_eq_true p
 | _, _, _, _, _, .str p q, h, h' => by obtain ⟨t, rfl⟩ := str_inv h; obtain ⟨u, e⟩ := str_inv h'; cases e; exact beq_self_eq_true p
 | _, _, _, _, _, .num p q, h, h' => by obtain ⟨t, rfl⟩ := num_inv h p; obtain ⟨u, e⟩ := num_inv h' q; cases e; exact decide_eq_true rfl
 | _, _, _, _, _, .flt p q, h, h' => by obtain ⟨t, rfl, k⟩ := flt_inv h; obtain ⟨u, e, k'⟩ := flt_inv h'; injection e with e1 e2; subst e2; rw [k] at k'; cases k'; exact decide_eq_true rfl
 | _, _, _, _, _, .fltI p q hy, h, h' => by obtain ⟨t, rfl, k⟩ := flt_inv h; obtain ⟨u, e⟩ := num_inv h' hy; cases e
 | _, _, _, _, _, .lst e hl hj, h, h' => by
  obtain ⟨l, vs, rfl, k, r⟩ := lst_inv h
  obtain ⟨l', vs', e', k', r'⟩ := lst_inv h'
  cases e'; rw [k] at k'; cases k'
  exact all_true r r' hl hj fun _ _ _ _ q h h' => q.same h h'
 | _, _, _, _, _, .lstN hl, h, h' => by
  obtain ⟨l, vs, rfl, k, r⟩ := lst_inv h
  obtain ⟨l', vs', e', k', r'⟩ := lst_inv h'
  cases e'; rw [k] at k'; cases k'
  exact absurd (r.length.trans r'.length.symm) hl
 | _, _, _, _, _, .tup e hl hj, h, h' => by
  obtain ⟨l, vs, rfl, k, r⟩ := tup_inv h
  obtain ⟨l', vs', e', k', r'⟩ := tup_inv h'
  cases e'; rw [k] at k'; cases k'
  exact all_true r r' hl hj fun _ _ _ _ q h h' => q.same h h'
end
section
variable {c : Cx} {F : Fm} {G : Gh} {ρ : Str → Option V} {σ : List O} {s : Shared}
theorem Inv.lst (hI : Inv c F G ρ σ s) {l : Addr} {vs : List Value} (k : G.fz l = some (.lst vs)) : s.heap.IsList l vs.toArray := (hI.fz k).elim fun n ho => ⟨_, ho, rfl, n, rfl⟩
theorem Inv.tup (hI : Inv c F G ρ σ s) {l : Addr} {vs : List Value} (k : G.fz l = some (.tup vs)) : s.heap.IsTuple l vs.toArray := (hI.fz k).elim fun n ho => ⟨_, ho, rfl, n, rfl⟩
theorem wpAny_isSame_flt {M : Model} {A : Around} {E : Value → Shared → Prop} {m n : Int} {t u : Tok} {Q : Bool → Shared → Prop} (hI : Inv c F G ρ σ s) (hb : NoneBooked s.heap)
  (ht : G.kt t = some (.inr m)) (hu : G.kt u = some (.inr n)) (hm : small m = true) (hn : small n = true) (hq : ∀ b, (b = true → m = n) → Q b s) : wpAny M A (isSame (.float (hf m) t) (.float (hf n) u)) Q E s := by
 show wpAny M A (isSame.created (hf m == hf n && !Float64.isNaN (hf m)) t u) Q E s
 have t0 := (hI.tok ht).1
 have u0 := (hI.tok hu).1
 unfold isSame.created
 refine wpAny_ite ?_
 split
 ·rename_i h
  simp only [Bool.or_eq_true, beq_iff_eq] at h
  rcases h with rfl | rfl
  ·exact absurd t0 (Nat.lt_irrefl _)
  ·exact absurd u0 (Nat.lt_irrefl _)
 refine wpAny_ite ?_
 split
 ·rename_i h
  rw [beq_iff_eq] at h
  subst h
  rw [ht] at hu; cases hu
  exact wpAny_pure (hq _ fun _ => rfl)
 refine wpAny_ite ?_
 split
 ·exact wpAny_pure (hq _ fun e => by cases e)
 rename_i hne
 have hmn : m = n := by
  rw [hf_nan hm] at hne
  simp only [Bool.not_false, Bool.and_true, Bool.not_eq_true', Bool.not_eq_false, beq_iff_eq] at hne
  exact hf_inj hm hn hne
 refine wpAny_bind (wpAny_sharingNotTold_none hb ?_)
 rw [if_neg Bool.false_ne_true]
 refine wpAny_bind (wpAny_sharingNotTold_none hb ?_)
 rw [if_neg Bool.false_ne_true]
 exact wpAny_bind (wpAny_rule (wpAny_bind (wpAny_askSetting (wpAny_pure (hq _ fun _ => hmn)))))
theorem RcAt.flt {A : Around} {m n : Int} {t u : Tok} (hm : small2 m = true) (hn : small2 n = true) : RcAt A s (.float (hf m) t) (.float (hf n) u) (decide (m = n)) := fun prog w E Q hq => by
 refine AutoFloatOps.eq_0 (prog := prog) (w := w) ?_
 rw [hf_cmp hm hn]
 have : (some (compare m n) == some Ordering.eq) = decide (m = n) := by
  by_cases h : m = n
  ·subst h; simp
  ·have : compare m n ≠ .eq := fun e => h (Int.compare_eq_eq.mp e)
   simp [h, this]
 rw [this]; exact hq
theorem RcNeAt.flt {A : Around} {m n : Int} {t u : Tok} (hm : small2 m = true) (hn : small2 n = true) : RcNeAt A s (.float (hf m) t) (.float (hf n) u) (!decide (m = n)) := fun prog w E Q hq => by
 refine AutoFloatOps.ne_0 (prog := prog) (w := w) ?_
 rw [hf_cmp hm hn]
 have : (some (compare m n) != some Ordering.eq) = !decide (m = n) := by
  by_cases h : m = n
  ·subst h; simp
  ·have : compare m n ≠ .eq := fun e => h (Int.compare_eq_eq.mp e)
   simp [h, this, bne]
 rw [this]; exact hq
theorem EqAt.flt {A : Around} {m n : Int} {t u : Tok} (hI : Inv c F G ρ σ s) (hb : NoneBooked s.heap) (ht : G.kt t = some (.inr m)) (hu : G.kt u = some (.inr n))
  (hm : small2 m = true) (hn : small2 n = true) : EqAt A s (.float (hf m) t) (.float (hf n) u) (decide (m = n)) := fun prog w E Q hq => by
 unfold eqBool
 refine wpAny_holding ?_
 refine wpAny_ite ?_
 split
 ·rename_i h
  have e := eq_of_beq h
  injection e with e1 e2
  have : m = n := hf_inj (small_of_small2 hm) (small_of_small2 hn) e1
  rw [decide_eq_true this] at hq
  exact wpAny_bind (wpAny_rule (wpAny_pure hq))
 refine wpAny_bind (wpAny_isSame_flt hI hb ht hu (small_of_small2 hm) (small_of_small2 hn) fun b hbm => ?_)
 cases b with
 | true =>
  rw [decide_eq_true (hbm rfl)] at hq
  exact wpAny_pure hq
 | false => exact wpAny_bind (RcAt.flt hm hn prog w E _ (wpAny_truthy_bool hq))
theorem RcAt.flt_int {A : Around} {m i : Int} {t u : Tok} (hm : small m = true) (hi : small (2 * i) = true) : RcAt A s (.float (hf m) t) (.int i u) (decide (m = 2 * i)) := fun prog w E Q hq =>
 PyProof.Rows.eq_fi (prog := prog) (w := w) (by rw [hf_cmpInt hm (small_half hi) hi]; exact hq)
theorem RcNeAt.flt_int {A : Around} {m i : Int} {t u : Tok} (hm : small m = true) (hi : small (2 * i) = true) : RcNeAt A s (.float (hf m) t) (.int i u) (!decide (m = 2 * i)) := fun prog w E Q hq =>
 PyProof.Rows.ne_fi (prog := prog) (w := w) (by rw [show (Float64.cmpInt (hf m) i != some Ordering.eq) = !(Float64.cmpInt (hf m) i == some Ordering.eq) from rfl, hf_cmpInt hm (small_half hi) hi]; exact hq)
theorem EqAt.of_rc {A : Around} {a b : Value} {k : Bool} (hne : (a == b) = false) (hf : ∀ p t q u, ¬ (a = .float p t ∧ b = .float q u)) (h : RcAt A s a b k) : EqAt A s a b k := fun prog w E Q hq => by
 unfold eqBool
 refine wpAny_holding ?_
 refine wpAny_ite ?_
 rw [hne, if_neg Bool.false_ne_true]
 have h' := wpAny_bind (f := truthOfDropped) (h prog w E _ (wpAny_truthy_bool hq))
 cases a <;> first
  | exact h'
  | (cases b <;> first | exact h' | exact absurd ⟨rfl, rfl⟩ (hf _ _ _ _))
structure Eqs (A : Around) (s : Shared) (a b : Value) (k : Bool) : Prop where
 eq : EqAt A s a b k
 rc : RcAt A s a b k
 ne : RcNeAt A s a b (!k)
theorem Eqs.refs {A : Around} {p q : Addr} {k : Bool} (hs : p = q → k = true) (r : RcAt A s (.ref p) (.ref q) k) (r' : RcNeAt A s (.ref p) (.ref q) (!k)) : Eqs A s (.ref p) (.ref q) k := by
 refine ⟨?_, r, r'⟩
 by_cases z : p = q
 ·have := hs z
  subst z this
  exact EqAt.same _
 ·exact EqAt.of_refs z r
theorem eq_items {A : Around} {n : Nat} {xs ys : List V} {vs us : List Value} {e : Nat → Bool} {P : V → V → Bool → Prop} (r1 : VRs G xs vs) (r2 : VRs G ys us) (hl : xs.length = ys.length) (h : ∀ j x y, xs[j]? = some x → ys[j]? = some y → P x y (e j))
  (ih : ∀ x y b v w, P x y b → VR G x v → VR G y w → EqAt A s v w b) : vs.toArray.size = us.toArray.size ∧ xs.length = vs.toArray.size ∧ ∀ j (h1 : j < vs.toArray.size) (h2 : j < us.toArray.size), EqAt A s vs.toArray[j] us.toArray[j] (e j) := by
 have e1 : xs.length = vs.toArray.size := r1.length
 have e2 : ys.length = us.toArray.size := r2.length
 refine ⟨e1.symm.trans (hl.trans e2), e1, fun j h1 h2 => ?_⟩
 obtain ⟨x, hx1, hx2⟩ := r1.get' (List.getElem?_eq_getElem (l := vs) h1)
 obtain ⟨y, hy1, hy2⟩ := r2.get' (List.getElem?_eq_getElem (l := us) h2)
 exact ih _ _ _ _ _ (h j _ _ hx1 hy1) hx2 hy2
theorem EqR.asked (hI : Inv c F G ρ σ s) (hb : NoneBooked s.heap) : ∀ {n : Nat} {x y : V} {k : Bool} {a b : Value} {A : Around}, EqR n x y k → VR G x a → VR G y b → A.units + n < cLine → Eqs A s a b k
 | _, _, _, _, _, _, _, .none, hx, hy, _ => by rw [none_inv hx, none_inv hy]; exact ⟨EqAt.same _, RcAt.none_none, RcNeAt.none_none⟩
 | _, _, _, _, _, _, _, .bool p q, hx, hy, _ => by rw [bool_inv hx, bool_inv hy]; exact ⟨EqAt.bool_bool _ _, RcAt.bool_bool _ _, RcNeAt.bool_bool _ _⟩
 | _, _, _, _, _, _, _, .str p q, hx, hy, _ => by obtain ⟨t, rfl⟩ := str_inv hx; obtain ⟨u, rfl⟩ := str_inv hy; exact ⟨EqAt.str_str _ _ _ _, RcAt.str_str _ _ _ _, RcNeAt.str_str _ _ _ _⟩
 | _, _, _, _, _, _, _, .num p q, hx, hy, _ => by obtain ⟨t, rfl⟩ := num_inv hx p; obtain ⟨u, rfl⟩ := num_inv hy q; exact ⟨EqAt.int_int _ _ _ _, RcAt.int_int _ _ _ _, RcNeAt.int_int _ _ _ _⟩
 | _, _, _, _, _, _, _, .flt p q, hx, hy, _ => by obtain ⟨t, rfl, k⟩ := flt_inv hx; obtain ⟨u, rfl, k'⟩ := flt_inv hy; exact ⟨EqAt.flt hI hb k k' p q, RcAt.flt p q, RcNeAt.flt p q⟩
 | _, _, _, _, _, _, _, .fltI p q z, hx, hy, _ => by
  obtain ⟨t, rfl, k⟩ := flt_inv hx; obtain ⟨u, rfl⟩ := num_inv hy z
  exact ⟨EqAt.of_rc rfl (fun _ _ _ _ q => by cases q.2) (RcAt.flt_int p q), RcAt.flt_int p q, RcNeAt.flt_int p q⟩
 | n + 1, _, _, _, _, _, A, .lst e hl hj, hx, hy, hu => by
  obtain ⟨l, vs, rfl, k, r⟩ := lst_inv hx
  obtain ⟨l', us, rfl, k', r'⟩ := lst_inv hy
  obtain ⟨h1, h2, h3⟩ := eq_items (n := n) (A := A.in1) r r' hl hj fun x y b v w q hx hy => (q.asked hI hb hx hy (u1 hu)).eq
  have hu' : A.units < cLine := u0 hu
  rw [h2]
  exact Eqs.refs (fun z => h2 ▸ (EqR.lst e hl hj).same hx (z ▸ hy)) (RcAt.lists (hI.lst k) (hI.lst k') h1 hu' h3) (RcNeAt.lists (hI.lst k) (hI.lst k') h1 hu' h3)
 | n, _, _, _, _, _, A, .lstN hl, hx, hy, hu => by
  obtain ⟨l, vs, rfl, k, r⟩ := lst_inv hx
  obtain ⟨l', us, rfl, k', r'⟩ := lst_inv hy
  have hu' : A.units < cLine := u0 hu
  have hsz : (vs.toArray.size != us.toArray.size) = true := bne_iff_ne.mpr fun z => hl (r.length.trans (z.trans r'.length.symm))
  exact Eqs.refs (fun z => (EqR.lstN (n := n) hl).same hx (z ▸ hy)) (RcAt.lists_lengths (hI.lst k) (hI.lst k') hsz hu') (RcNeAt.lists_lengths (hI.lst k) (hI.lst k') hsz hu')
 | n + 1, _, _, _, _, _, A, .tup e hl hj, hx, hy, hu => by
  obtain ⟨l, vs, rfl, k, r⟩ := tup_inv hx
  obtain ⟨l', us, rfl, k', r'⟩ := tup_inv hy
  obtain ⟨h1, h2, h3⟩ := eq_items (n := n) (A := A.in1) r r' hl hj fun x y b v w q hx hy => (q.asked hI hb hx hy (u1 hu)).eq
  have hu' : A.units < cLine := u0 hu
  have q := RcAt.tuples (hI.tup k) (hI.tup k') hu' h3
  have q' := RcNeAt.tuples (hI.tup k) (hI.tup k') hu' h3
  rw [h1, Nat.min_self, beq_self_eq_true, Bool.and_true, ← h1, ← h2] at q q'
  exact Eqs.refs (fun z => (EqR.tup e hl hj).same hx (z ▸ hy)) q q'
end
end Mine
end
section
namespace Mine
open PySem PySem.W PyProof.Rows PySem.SeqAt
section
variable {K : Kx} {P : Gh → Prop} {st : St} {ρ : Str → Option V} {σ : List O} {Q : V → St → Prop} {E : X → St → Prop} {G : Gh} {s : Shared} {x y : V} {i j m : Int}
theorem on_nums {α β : Type} {t : Value → Value → Sem β} {R : Gh → α → β → Prop} {Q : α → St → Prop} (hx : x.num = some i) (hy : y.num = some j)
  (h : ∀ p q A G s QQ EE, K.Ok A → K.Inv G st s → Ends K G R Q E QQ EE → wpAny K.c.M A (t (.int i p) (.int j q)) QQ EE s) (va vb : Value) : Run K (fun G => VR G x va ∧ VR G y vb) (t va vb) R st Q E := by
 intro A G s QQ EE ok hP hI _ H
 obtain ⟨p, rfl⟩ := num_inv hP.1 hx
 obtain ⟨q, rfl⟩ := num_inv hP.2 hy
 exact h p q A G s QQ EE ok hI H
theorem Ends.int {R : Gh → V → Value → Prop} {QQ : Value → Shared → Prop} {EE : Value → Shared → Prop} (H : Ends K G RV Q E QQ EE) (hI : K.Inv G st s) (q : Q (.int i) st) : QQ (.int i s.toks) { s with toks := s.toks + 1 } := H.here q (hI.toks (Nat.le_succ _)) (VR_int _ _)
theorem Ends.flt {QQ : Value → Shared → Prop} {EE : Value → Shared → Prop} (H : Ends K G RV Q E QQ EE) (hI : K.Inv G st s) (q : Q (.flt i) st) : QQ (.float (hf i) s.toks) { s with toks := s.toks + 1 } :=
 (hI.addTok (t := s.toks) (k := .inr i) (tk := s.toks + 1) (Nat.le_refl _) (Nat.lt_succ_self _)).elim fun h1 h2 => H.ok _ _ _ _ _ q h1 h2 (VR_flt (Gh.kt_addTok _ _ _))
noncomputable def OX (K : Kx) (op : Operator) (a b : V) (st : St) (Q : V → St → Prop) (E : X → St → Prop) : Prop := ∀ va vb, Run K (fun G => VR G a va ∧ VR G b vb) (binaryOp op va vb) RV st Q E
theorem x_bin {l r : PySem.Expr} {op : Operator} {p : Pos} (h : EX K l st (fun a st => EX K r st (fun b st => OX K op a b st Q E) E) E) : EX K (.BinOp l op r p) st Q E := by
 unfold EX
 rw [arm_eval_BinOp]
 exact Run.bind up_true (h.imp fun a st q va => Run.bind (up_and up_true up_VR) ((q.any.imp fun b st q vb => (Run.standAt (Run.operate (q va vb))).pre fun _ h => ⟨h.1.2, h.2⟩).holding))
theorem o_add (hx : x.num = some i) (hy : y.num = some j) (q : Q (.int (i + j)) st) : OX K .Add x y st Q E := on_nums (t := binaryOp .Add) hx hy fun p q' A G s QQ EE ok hI H => PySem.wpAny_add_int (H.int (R := RV) hI q)
theorem o_sub (hx : x.num = some i) (hy : y.num = some j) (q : Q (.int (i - j)) st) : OX K .Sub x y st Q E := on_nums (t := binaryOp .Sub) hx hy fun p q' A G s QQ EE ok hI H => SiftDown.sub_int (H.int (R := RV) hI q)
theorem bits_small' : all1 (fun i => decide (Builtin.Int.intBits i ≤ 64)) = true := by decide +kernel
theorem o_mul (hx : x.num = some i) (hy : y.num = some j) (hi : small i = true) (q : Q (.int (i * j)) st) : OX K .Mult x y st Q E :=
 on_nums (t := binaryOp .Mult) hx hy fun p q' A G s QQ EE ok hI H => PyProof.Rows.mul_int (H.int (R := RV) hI q) (IntMulOk.of_left (of_decide_eq_true (all1_use bits_small' hi)))
theorem o_div (hx : x.num = some i) (hi : small i = true) (q : Q (.flt i) st) : OX K .Div x (.int 2) st Q E := by
 refine on_nums (t := binaryOp .Div) (j := 2) hx rfl fun p q' A G s QQ EE ok hI H => ?_
 have e : Float64.ofFrac (decide (i < 0) != decide ((2 : Int) < 0)) i.natAbs (2 : Int).natAbs = hf i := by
  show Float64.ofFrac (decide (i < 0) != false) i.natAbs 2 = hf i
  rw [Bool.bne_false]; rfl
 exact PySem.AutoIntOps.truediv_2 (by decide) (by rw [e, hf_inf hi]; exact Bool.false_ne_true) (by rw [e]; exact H.flt hI q)
theorem o_mulF {a : Value} (hm : small (2 * m) = true) (q : Q (.flt (2 * m)) st) : OX K .Mult (.int 2) (.flt m) st Q E := by
 intro va vb A G s QQ EE ok hP hI _ H
 obtain ⟨p, rfl⟩ := num_inv hP.1 rfl
 obtain ⟨u, rfl, _⟩ := flt_inv hP.2
 have e := hf_mul (small_two hm) hm
 exact AutoFloatOps.mul_if_1 (by decide +kernel) (by rw [e]; exact H.flt hI q)
theorem o_addIF (hx : x.num = some i) (h1 : small (2 * i) = true) (h2 : small m = true) (h3 : small (2 * i + m) = true) (q : Q (.flt (2 * i + m)) st) : OX K .Add x (.flt m) st Q E := by
 intro va vb A G s QQ EE ok hP hI _ H
 obtain ⟨p, rfl⟩ := num_inv hP.1 hx
 obtain ⟨u, rfl, _⟩ := flt_inv hP.2
 have e := hf_ofInt (small_half h1) h1
 exact AutoFloatOps.add_if_1 (by rw [e, hf_inf h1]; exact Bool.false_ne_true) (by rw [e, hf_add h1 h2 h3]; exact H.flt hI q)
theorem o_addFI (hy : y.num = some i) (h1 : small (2 * i) = true) (h2 : small m = true) (h3 : small (m + 2 * i) = true) (q : Q (.flt (m + 2 * i)) st) : OX K .Add (.flt m) y st Q E := by
 intro va vb A G s QQ EE ok hP hI _ H
 obtain ⟨p, rfl⟩ := num_inv hP.2 hy
 obtain ⟨u, rfl, _⟩ := flt_inv hP.1
 have e := hf_ofInt (small_half h1) h1
 exact AutoFloatOps.add_fi_1 (by rw [e, hf_inf h1]; exact Bool.false_ne_true) (by rw [e, hf_add h2 h1 h3]; exact H.flt hI q)
theorem Ends.made {QQ : Value → Shared → Prop} {EE : Value → Shared → Prop} {m : Str → Option Value} {k : FK} {v : V} {o : Obj} {h' : Heap} {tk : Nat} (H : Ends K G RV Q E QQ EE) (hI : K.Inv G st s) (F₀ : Fr K.c.base K.F.env.locals s.heap m) (F' : Fr K.c.base K.F.env.locals h' m)
  (N' : News K.c.base K.F.env.locals h' ((s.heap.objs.size, o) :: allN K.c.base s.heap K.F.env.locals)) (ht : s.toks ≤ tk) (hk : h'.get? s.heap.objs.size = some o → FzAt h' s.heap.objs.size k) (hv : ∀ G', G.le G' → G'.fz s.heap.objs.size = some k → VR G' v (.ref s.heap.objs.size)) (q : Q v st) :
  QQ (.ref s.heap.objs.size) { s with heap := h', toks := tk } :=
 (hI.addFzL (k := k) F₀ (get_size _) (stays_allN F₀.keep F' N' fun p hp => .tail _ hp) F' (hk (N' _ (.head _)).1) ht).elim fun h1 h2 => H.ok _ _ _ _ _ q h1 h2 (hv _ h1 (Gh.fz_addFz _ _ _))
theorem o_addL {xs ys : List V} (hl : xs.length + ys.length ≤ lim) (q : Q (.lst (xs ++ ys)) st) : OX K .Add (.lst xs) (.lst ys) st Q E := by
 intro va vb A G s QQ EE ok hP hI _ H
 obtain ⟨a, vs, rfl, k, r⟩ := lst_inv hP.1
 obtain ⟨b, us, rfl, k', r'⟩ := lst_inv hP.2
 refine (hI.frame ok.hF).elim fun m F₀ => ?_
 exact add_lists F₀ allN_news (hI.lst k) (hI.lst k') (fun h' F' N' => H.made (k := .lst (vs ++ us)) hI F₀ F' N' (Nat.le_refl _) (fun e => ⟨0, e⟩) (fun G' hg z => VR_lst z ((r.append r').mono hg)) q) (by rw [← r.length, ← r'.length]; exact lim_fits hl)
theorem o_addT0 {xs : List V} (hl : xs.length ≤ lim) (q : Q (.tup xs) st) : OX K .Add (.tup xs) (.tup []) st Q E := by
 intro va vb A G s QQ EE ok hP hI _ H
 obtain ⟨a, vs, rfl, k, r⟩ := tup_inv hP.1
 obtain ⟨b, us, rfl, k', r'⟩ := tup_inv hP.2
 cases r'.nil_inv
 refine (hI.frame ok.hF).elim fun m F₀ => ?_
 refine add_tuples F₀ allN_news (hI.tup k) (hI.tup k') (fun e => ?_) (fun e1 e2 => H.here q hI hP.1) (fun _ e => absurd rfl e) (by rw [← r.length]; exact lim_fits hl)
 cases e
 have : xs = [] := List.length_eq_zero_iff.mp (r.length.trans rfl)
 subst this
 exact H.here q hI hP.2
end
end Mine
end
section
namespace Mine
open PySem PySem.W PyProof.Rows PySem.SeqAt
section
variable {K : Kx} {P : Gh → Prop} {st : St} {ρ : Str → Option V} {σ : List O} {Q : V → St → Prop} {E : X → St → Prop} {G : Gh} {s : Shared} {x y : V} {i j m n : Int} {k : Bool} {A : Around}
theorem booked_keep {h h' : Heap} (x : NoneBooked h) (hk : ∀ b o, h.get? b = some o → h'.get? b = some o) : NoneBooked h' := let ⟨mc, a, b⟩ := x; ⟨mc, a.keeps hk, b⟩
theorem Inv.booked {c : Cx} {F : Fm} (hI : Inv c F G ρ σ s) (hc : CxOk c) : NoneBooked s.heap := booked_keep hc.booked hI.keep
theorem Kx.Ok.room (ok : K.Ok A) : A.units + 20 < cLine := Nat.lt_of_le_of_lt (Nat.add_le_add_right (Nat.le_trans (Nat.le_add_right _ _) ok.hA.units) 20) (by decide)
theorem Kx.Ok.room8 (ok : K.Ok A) : A.units + 8 < cLine := Nat.lt_of_le_of_lt (Nat.add_le_add_left (by decide) _) ok.room
theorem Ends.bool {QQ : Value → Shared → Prop} {EE : Value → Shared → Prop} (H : Ends K G RV Q E QQ EE) (hI : K.Inv G st s) (q : Q (.bool k) st) : QQ (.bool k) s := H.here q hI (VR_bool _)
noncomputable def QX (K : Kx) (op : CmpOp) (a b : V) (st : St) (Q : V → St → Prop) (E : X → St → Prop) : Prop := ∀ va vb, Run K (fun G => VR G a va ∧ VR G b vb) (compareOp op va vb) RV st Q E
theorem x_cmp {l r : PySem.Expr} {op : CmpOp} {p : Pos} (hm : behindInMarks op r = false) (h : EX K l st (fun a st => EX K r st (fun b st => QX K op a b st Q E) E) E) : EX K (.Compare l [op] [r] p) st Q E := by
 show Run K _ (do let a ← eval l K.F.env; let b ← PySem.holding [a] (markedBehindIn op r (eval r K.F.env)); PySem.standAt p; PySem.operate [a, b] (compareOp op a b)) RV st Q E
 rw [markedBehindIn_of_false hm]
 exact Run.bind up_true (h.imp fun a st q va => Run.bind (up_and up_true up_VR) ((q.any.imp fun b st q vb => (Run.standAt (Run.operate (q va vb))).pre fun _ h => ⟨h.1.2, h.2⟩).holding))
theorem q_eq (h : EqR 8 x y k) (q : Q (.bool k) st) : QX K .Eq x y st Q E := fun va vb A G s QQ EE ok hP hI _ H => (h.asked hI (hI.booked ok.hc) hP.1 hP.2 ok.room8).rc K.c.prog K.c.w EE QQ (H.bool hI q)
theorem q_ne (h : EqR 8 x y k) (q : Q (.bool (!k)) st) : QX K .NotEq x y st Q E := fun va vb A G s QQ EE ok hP hI _ H => (h.asked hI (hI.booked ok.hc) hP.1 hP.2 ok.room8).ne K.c.prog K.c.w EE QQ (H.bool hI q)
theorem q_lt (hx : x.num = some i) (hy : y.num = some j) (q : Q (.bool (decide (i < j))) st) : QX K .Lt x y st Q E := on_nums (t := compareOp .Lt) hx hy fun _ _ A G s QQ EE ok hI H => PyProof.Rows.lt_int (H.bool hI q)
theorem q_gt (hx : x.num = some i) (hy : y.num = some j) (q : Q (.bool (decide (j < i))) st) : QX K .Gt x y st Q E := on_nums (t := compareOp .Gt) hx hy fun _ _ A G s QQ EE ok hI H => PyProof.Rows.gt_int (H.bool hI q)
theorem q_le (hx : x.num = some i) (hy : y.num = some j) (q : Q (.bool (decide (i ≤ j))) st) : QX K .LtE x y st Q E := on_nums (t := compareOp .LtE) hx hy fun _ _ A G s QQ EE ok hI H => PySem.P.le_int (H.bool hI q)
theorem hf_lt (h1 : small2 m = true) (h2 : small2 n = true) : (Float64.cmp (hf m) (hf n) == some Ordering.lt) = decide (m < n) := by
 rw [hf_cmp h1 h2]
 by_cases z : m < n
 ·rw [decide_eq_true z, Int.compare_eq_lt.mpr z]; rfl
 ·rw [decide_eq_false z]; exact beq_eq_false_iff_ne.mpr fun w => z (Int.compare_eq_lt.mp (Option.some.inj w))
theorem hf_gt (h1 : small2 m = true) (h2 : small2 n = true) : (Float64.cmp (hf m) (hf n) == some Ordering.gt) = decide (n < m) := by
 rw [hf_cmp h1 h2]
 by_cases z : n < m
 ·rw [decide_eq_true z, Int.compare_eq_gt.mpr z]; rfl
 ·rw [decide_eq_false z]; exact beq_eq_false_iff_ne.mpr fun w => z (Int.compare_eq_gt.mp (Option.some.inj w))
theorem q_ltF (h1 : small2 m = true) (h2 : small2 n = true) (q : Q (.bool (decide (m < n))) st) : QX K .Lt (.flt m) (.flt n) st Q E := by
 intro va vb A G s QQ EE ok hP hI _ H
 obtain ⟨t, rfl, _⟩ := flt_inv hP.1
 obtain ⟨u, rfl, _⟩ := flt_inv hP.2
 exact AutoFloatOps.lt_0 (by rw [hf_lt h1 h2]; exact H.bool hI q)
theorem q_gtF (h1 : small2 m = true) (h2 : small2 n = true) (q : Q (.bool (decide (n < m))) st) : QX K .Gt (.flt m) (.flt n) st Q E := by
 intro va vb A G s QQ EE ok hP hI _ H
 obtain ⟨t, rfl, _⟩ := flt_inv hP.1
 obtain ⟨u, rfl, _⟩ := flt_inv hP.2
 exact AutoFloatOps.gt_0 (by rw [hf_gt h1 h2]; exact H.bool hI q)
noncomputable def noneB : V → Option Bool
 | .none => some true
 | .glob _ => none
 | _ => some false
theorem noneB_spec {a : Value} (h : VR G x a) (e : noneB x = some k) : (a == Value.none) = k := by
 cases x <;> first | cases e | skip
 all_goals first
  | (obtain rfl : a = _ := h; rfl)
  | (obtain ⟨_, rfl⟩ := h; rfl)
  | (obtain ⟨_, rfl, _⟩ := h; rfl)
  | (obtain ⟨_, _, rfl, _⟩ := h; rfl)
theorem q_isN (e : noneB x = some k) (q : Q (.bool k) st) : QX K .Is x .none st Q E := by
 intro va vb A G s QQ EE ok hP hI _ H
 rw [none_inv hP.2]
 exact is_none (noneB_spec hP.1 e ▸ H.bool hI q)
theorem q_isnotN (e : noneB x = some k) (q : Q (.bool (!k)) st) : QX K .IsNot x .none st Q E := by
 intro va vb A G s QQ EE ok hP hI _ H
 rw [none_inv hP.2]
 exact isNot_none (noneB_spec hP.1 e ▸ H.bool hI q)
theorem glob_inv {v a : Value} (h : VR G (.glob v) a) : a = v := h
theorem q_isT {p r : String} (q : Q (.bool (Value.type p == Value.type r)) st) : QX K .Is (.glob (.type p)) (.glob (.type r)) st Q E := by
 intro va vb A G s QQ EE ok hP hI _ H
 rw [glob_inv hP.1, glob_inv hP.2]
 exact wpAny_is_plain rfl (H.bool hI q)
theorem q_isnotR {p : Addr} (q : Q (.bool false) st) : QX K .IsNot (.glob (.ref p)) (.glob (.ref p)) st Q E := by
 intro va vb A G s QQ EE ok hP hI _ H
 rw [glob_inv hP.1, glob_inv hP.2]
 exact wpAny_isNot_ref_self (H.bool hI q)
open Classical in
theorem in_spec (hI : K.Inv G st s) (hb : NoneBooked s.heap) {a : Value} {ys : List V} {vs : List Value} (e : V → Bool) (h : ∀ z ∈ ys, EqR 8 z x (e z)) (hx : VR G x a) (r : VRs G ys vs) (hu : A.units + 20 < cLine) :
  ∃ f : Value → Bool, (∀ v, v ∈ vs.toArray → EqAt A.in1 s v a (f v)) ∧ vs.toArray.any f = ys.any e := by
 have ask : ∀ z v, z ∈ ys → VR G z v → EqAt A.in1 s v a (e z) := fun z v hz hv => ((h z hz).asked hI hb hv hx (Nat.lt_of_le_of_lt (ad (j := 9) rfl) hu)).eq
 refine ⟨fun v => decide (∃ z ∈ ys, VR G z v ∧ e z = true), fun v hv => ?_, ?_⟩
 ·show EqAt A.in1 s v a (decide (∃ z ∈ ys, VR G z v ∧ e z = true))
  by_cases q : ∃ z ∈ ys, VR G z v ∧ e z = true
  ·rw [decide_eq_true q]
   obtain ⟨z, hz, hzv, he⟩ := q
   exact he ▸ ask z v hz hzv
  ·rw [decide_eq_false q]
   obtain ⟨j, hj, ej⟩ := List.mem_iff_getElem.mp (List.mem_toArray.mp hv)
   obtain ⟨z, hz1, hz2⟩ := r.get' (ej ▸ List.getElem?_eq_getElem hj)
   have hm := List.mem_of_getElem? hz1
   cases he : e z with
   | true => exact absurd ⟨z, hm, hz2, he⟩ q
   | false => exact he ▸ ask z v hm hz2
 ·rw [List.any_toArray, Bool.eq_iff_iff, List.any_eq_true, List.any_eq_true]
  constructor
  ·rintro ⟨v, _, hq⟩
   obtain ⟨z, hz, _, he⟩ := of_decide_eq_true hq
   exact ⟨z, hz, he⟩
  ·rintro ⟨z, hz, he⟩
   obtain ⟨j, hj, ej⟩ := List.mem_iff_getElem.mp hz
   obtain ⟨v, hv1, hv2⟩ := r.get (ej ▸ List.getElem?_eq_getElem hj)
   exact ⟨v, List.mem_of_getElem? hv1, decide_eq_true ⟨z, hz, hv2, he⟩⟩
theorem q_in {ys : List V} (e : V → Bool) (h : ∀ z ∈ ys, EqR 8 z x (e z)) (q : Q (.bool (ys.any e)) st) : QX K .In x (.lst ys) st Q E := by
 intro va vb A G s QQ EE ok hP hI _ H
 obtain ⟨l, vs, rfl, k, r⟩ := lst_inv hP.2
 obtain ⟨f, h1, h2⟩ := in_spec hI (hI.booked ok.hc) e h hP.1 r ok.room
 exact in_listAt f (hI.lst k) h1 (h2 ▸ H.bool hI q)
theorem q_notin {ys : List V} (e : V → Bool) (h : ∀ z ∈ ys, EqR 8 z x (e z)) (q : Q (.bool (!ys.any e)) st) : QX K .NotIn x (.lst ys) st Q E := by
 intro va vb A G s QQ EE ok hP hI _ H
 obtain ⟨l, vs, rfl, k, r⟩ := lst_inv hP.2
 obtain ⟨f, h1, h2⟩ := in_spec hI (hI.booked ok.hc) e h hP.1 r ok.room
 exact notIn_listAt f (hI.lst k) h1 (h2 ▸ H.bool hI q)
theorem q_inS {b : Nat} {ns : List Int} (h : st.σ[b]? = some (.set ns)) (q : Q (.bool (decide (i ∈ ns))) st) : QX K .In (.int i) (.obj b) st Q E := by
 refine fun va vb => (on_obj (K := K) (P := fun G => VR G (.int i) va) (t := compareOp .In va) h (fun a A G s QQ EE ok hP ha hO hI _ H => ?_) vb).pre fun _ h => ⟨h.2, h.1⟩
 obtain ⟨t, rfl⟩ := num_inv hP rfl
 exact wpAny_inSet_of (knd := intKind K.c.prog K.c.w) (intKind_is _ _ _ _) rfl hO (H.bool (hI.toks (Nat.le_succ _)) q)
theorem findG_any {κ : Type} [DecidableEq κ] {es : List (κ × V)} {n : κ} : (findG es n).isSome = es.any fun e => decide (e.1 = n) := by
 unfold findG
 rw [Option.isSome_map, Bool.eq_iff_iff, List.find?_isSome, List.any_eq_true]
theorem KVs.isSome {κ : Type} [DecidableEq κ] {es : List (κ × V)} {kvs : List (κ × Value)} (h : KVs G es kvs) (n : κ) : (valueAt kvs n).isSome = es.any fun e => decide (e.1 = n) := by
 rw [← findG_any]
 rcases h.find (n := n) with q | ⟨_, _, q, q', _⟩
 ·rw [q.1, q.2]; rfl
 ·rw [q, q']; rfl
theorem q_inD {b : Nat} {es : List (Int × V)} (h : st.σ[b]? = some (.dict es)) (q : Q (.bool (es.any fun e => decide (e.1 = i))) st) : QX K .In (.int i) (.obj b) st Q E := by
 refine fun va vb => (on_obj (K := K) (P := fun G => VR G (.int i) va) (t := compareOp .In va) h (fun a A G s QQ EE ok hP ha hO hI _ H => ?_) vb).pre fun _ h => ⟨h.2, h.1⟩
 obtain ⟨t, rfl⟩ := num_inv hP rfl
 cases hO with | mk z kvs hd r => ?_
 exact wpAny_in_of (knd := intKind K.c.prog K.c.w) (intKind_is _ _ _ _) (beq_eq_false_iff_ne.mpr z) hd.mapOf (r.isSome i ▸ H.bool (hI.toks (Nat.le_succ _)) q)
noncomputable def TX (K : Kx) (v : V) (st : St) (Q : Bool → St → Prop) (E : X → St → Prop) : Prop := ∀ w, Run K (fun G => VR G v w) (truthy w) (fun _ b b' => b' = b) st Q E
section
variable {Q : Bool → St → Prop}
theorem t_bool (q : Q k st) : TX K (.bool k) st Q E := by
 intro w A G s QQ EE ok hP hI _ H
 rw [bool_inv hP]
 exact wpAny_truthy_bool (H.here q hI rfl)
theorem t_none (q : Q false st) : TX K .none st Q E := by
 intro w A G s QQ EE ok hP hI _ H
 rw [none_inv hP]
 exact PyProof.Rows.truthy_none (H.here q hI rfl)
theorem truth_list {xs : List V} {vs : List Value} {l : Addr} {QQ : Bool → Shared → Prop} {EE : Value → Shared → Prop} (hl : s.heap.IsList l vs.toArray) (r : VRs G xs vs) (hlim : xs.length ≤ lim) (H : Ends K G (fun _ b b' => b' = b) Q E QQ EE) (hI : K.Inv G st s) (q : Q (!xs.isEmpty) st) : wpAny K.c.M A (truthy (.ref l)) QQ EE s := by
 have e : vs.toArray.isEmpty = xs.isEmpty := by
  cases xs with
  | nil => rw [r.nil_inv]; rfl
  | cons _ _ => obtain ⟨_, _, rfl, _⟩ := r.cons_inv; rfl
 exact wpAny_truthy_list hl (by rw [List.size_toArray, ← r.length]; unfold lim at hlim; omega) (H.here q (hI.toks (Nat.le_trans (Nat.le_succ _) (Nat.le_succ _))) (by rw [e]))
theorem t_lst {xs : List V} (hlim : xs.length ≤ lim) (q : Q (!xs.isEmpty) st) : TX K (.lst xs) st Q E := by
 intro w A G s QQ EE ok hP hI _ H
 obtain ⟨l, vs, rfl, k, r⟩ := lst_inv hP
 exact truth_list (hI.lst k) r hlim H hI q
theorem t_list {b : Nat} {xs : List V} (h : st.σ[b]? = some (.list xs)) (hlim : xs.length ≤ lim) (q : Q (!xs.isEmpty) st) : TX K (.obj b) st Q E := by
 refine fun w => on_obj1 (K := K) (t := truthy) h (fun a A G s QQ EE ok ha hO hI _ H => ?_) w
 cases hO with | mk vs n e r => ?_
 exact truth_list ⟨_, e, rfl, n, rfl⟩ r hlim H hI q
end
end
end Mine
end
section
namespace Mine
open PySem PySem.W PyProof.Rows PySem.SeqAt
noncomputable def KwR (G : Gh) (kv : List (Str × V)) (kvs : List (Str × Value)) : Prop := KVs G kv kvs
noncomputable def KeepsOk (c : Cx) (f : Value) (s : Shared) : Prop := ∀ A (Q : Keeper → Shared → Prop) E, (∀ k, Q k s) → wpAny c.M A (keeperOf f) Q E s
noncomputable def named (k : Keyword) : Bool := k.arg.isSome
section
variable {c : Cx} {s : Shared}
theorem tail_call {c : Cx} {A : Around} {E Q : Value → Shared → Prop} {t : Sem Value} (ht : wpAny c.M A t Q E s) : wpAny c.M A (t >>= fun r => holding [r] point >>= fun _ => pure r) Q E s :=
 wpAny_bind (wpAny_mono ht (fun r s₂ hr => wpAny_bind (wpAny_holding (wpAny_point (wpAny_pure hr)))) fun _ _ x => x)
theorem wpAny_callWith_any {A : Around} {E : Value → Shared → Prop} {f : Value} {pos : Pos} {first : List Value} {args : List (Bool × Sem Value)} {kws : List (Option Str × Sem Value)} {Q : Value → Shared → Prop}
  (h : wpAny c.M A (evalArgs f true args kws) (fun a s₁ => KeepsOk c f s₁ ∧ wpAny c.M A (call f (first ++ a.pos) a.kw) Q E s₁) E s) : wpAny c.M A (callWith pos f first args kws) Q E s := by
 unfold callWith
 refine wpAny_bind (wpAny_holding (wpAny_mono h (fun a s₁ h₁ => wpAny_bind (wpAny_standAt ?_)) fun _ _ x => x))
 have marked (mk : Value) : wpAny c.M A (callMarked mk f (first ++ a.pos) a.kw) Q E s₁ := by unfold callMarked; exact Calls.wpAny_keep h₁.2
 refine wpAny_bind (h₁.1 A _ _ fun k => ?_)
 cases k <;> cases (args.any (·.1) || kws.any (·.1.isNone)) <;> dsimp only <;>
  first
  | exact tail_call h₁.2
  | exact tail_call (marked _)
  | exact tail_call (wpAny_operateT h₁.2)
  | (split <;> first | exact tail_call h₁.2 | exact tail_call (marked _))
theorem evalArgs_spl {M : Model} {A : Around} {E : Value → Shared → Prop} {s : Shared} {f : Value} {args : List (Bool × Sem Value)} {keywords : List (Option Str × Sem Value)} {Q : Args → Shared → Prop}
  (hne : ∀ x, args ≠ [(true, x)]) (hall : keywords.all (·.1.isSome) = true)
  (h : wpAny M A (spliced args) (fun vs s₁ => wpAny M A (evalAll (keywords.map (·.2))) (fun ks s₂ => Q ⟨vs, (keywords.filterMap (·.1)).zip ks⟩ s₂) E s₁) E s) :
  wpAny M A (evalArgs f true args keywords) Q E s := by
 unfold evalArgs
 match args, hne, h with
 | [], _, h => exact evalArgs_kw_nil (f := f) hall (by
   have : wpAny M A (spliced []) (fun vs s₁ => wpAny M A (evalAll (keywords.map (·.2))) (fun ks s₂ => Q ⟨vs, (keywords.filterMap (·.1)).zip ks⟩ s₂) E s₁) E s := h
   exact fun Γ p hΓ => h Γ p hΓ Γ p hΓ)
 | (false, x) :: rest, _, h => exact evalArgs_kw (f := f) hall h
 | [(true, x)], hne, _ => exact absurd rfl (hne x)
 | (true, x) :: y :: rest, _, h =>
  show wpAny M A (spliced ((true, x) :: y :: rest) >>= _) Q E s
  refine wpAny_bind (wpAny_mono h (fun vs s₁ h₁ => ?_) fun _ _ x => x)
  refine wpAny_holding ?_
  simp only [hall, if_true]
  exact wpAny_bind (wpAny_mono h₁ (fun ks s₂ h₂ => wpAny_bind (wpAny_pure (wpAny_pure h₂))) fun _ _ x => x)
theorem not_lone {pos : Pos} {env : Env} {es : List PySem.Expr} {bs : List Bool} (h : ∀ env, (starEach es env).map (·.1) = bs) (hb : (bs == [true]) = false) (x : Sem Value) : backTo pos (starEach es env) ≠ [(true, x)] := fun q => by
 have h1 : (backTo pos (starEach es env)).map (·.1) = bs := by rw [← h env]; unfold backTo; rw [List.map_map]; rfl
 rw [q] at h1
 rw [← h1] at hb
 cases hb
end
section
variable {K : Kx} {P : Gh → Prop} {st : St} {ρ : Str → Option V} {σ : List O} {Q : V → St → Prop} {E : X → St → Prop} {G : Gh} {s : Shared} {x y v : V} {i j m n : Int} {k : Bool} {A : Around}
noncomputable def AR (K : Kx) (es : List PySem.Expr) (st : St) (Q : List V → St → Prop) (E : X → St → Prop) : Prop := ∀ pos, Run K (fun _ => True) (spliced (backTo pos (starEach es K.F.env))) RVs st Q E
section
variable {Q : List V → St → Prop}
theorem a_nil (q : Q [] st) : AR K [] st Q E := fun pos A G s QQ EE ok _ hI _ H => wpAny_items_nil (H.here q hI VRs.nil)
theorem a_cons {e : PySem.Expr} {es : List PySem.Expr} (g : ∀ env, starEach (e :: es) env = (false, eval e env) :: starEach es env) (h : EX K e st (fun v st => AR K es st (fun vs st => Q (v :: vs) st) E) E) : AR K (e :: es) st Q E :=
 fun pos A G s QQ EE ok hp hI hE H => wpAny_items_cons (h A G s _ EE ok hp hI hE ⟨fun v st' G' b s' q hg hI' r => q pos A G' s' _ EE ok hp hI' hE ⟨fun vs st₂ G₂ ws s₂ q' hg' hI₂ r' => (H.up hg).ok _ _ _ _ _ q' hg' hI₂ (VRs.cons (r.mono hg') r'), (H.up hg).ex⟩, H.ex⟩) (g _)
theorem starOf {l : Addr} {T : String} {vs : List Value} {QQ : List Value → Shared → Prop} {EE : Value → Shared → Prop} (hT : T = "list" ∨ T = "tuple") (hlk : typeLookup (.type T) "__iter__" = pure (some (.builtin (T ++ ".__iter__")))) {o : Obj} {n' : Nat} (ho : s.heap.get? l = some o) (hc : o.cls = .type T) (hd : o.data = .seq vs.toArray n')
  (hl : vs.length ≤ sizeLine) (hq : ∀ h', (∀ b o, s.heap.get? b = some o → h'.get? b = some o) → QQ vs { s with heap := h' }) : StarOf K.c.M A EE (.ref l) QQ s := by
 unfold StarOf notIterableAtAll
 exact wpAny_bind (wpAny_specialOf ⟨o, ho, hc⟩ hlk (wpAny_pure ⟨rfl, wpAny_collect_seq l hT ho hc hd (fun h' hk => hq h' hk) hl⟩))
inductive StarV : V → List V → Prop
 | lst {xs : List V} (h : xs.length ≤ lim) : StarV (.lst xs) xs
 | tup {xs : List V} (h : xs.length ≤ lim) : StarV (.tup xs) xs
theorem StarV.of {w : Value} {xs : List V} {QQ : List Value → Shared → Prop} {EE : Value → Shared → Prop} (h : StarV v xs) (hx : VR G v w) (hI : K.Inv G st s) (hq : ∀ h' vs, (∀ b o, s.heap.get? b = some o → h'.get? b = some o) → VRs G xs vs → QQ vs { s with heap := h' }) : StarOf K.c.M A EE w QQ s := by
 cases h with
 | lst h =>
  obtain ⟨l, vs, rfl, k, r⟩ := lst_inv hx
  obtain ⟨n', e⟩ := hI.fz k
  exact starOf (.inl rfl) PySem.F.slot_list_iter.lookup e rfl rfl (by rw [← r.length]; exact lim_fits h) fun h' hk => hq h' vs hk r
 | tup h =>
  obtain ⟨l, vs, rfl, k, r⟩ := tup_inv hx
  obtain ⟨n', e⟩ := hI.fz k
  exact starOf (.inr rfl) PySem.F.slot_tuple_iter.lookup e rfl rfl (by rw [← r.length]; exact lim_fits h) fun h' hk => hq h' vs hk r
theorem a_star {e : PySem.Expr} {es : List PySem.Expr} {p : Pos} (h : EX K e st (fun v st => ∃ xs, StarV v xs ∧ AR K es st (fun vs st => Q (xs ++ vs) st) E) E) : AR K (.Starred e p :: es) st Q E :=
 fun pos A G s QQ EE ok hp hI hE H => items_star (h A G s _ EE ok hp hI hE ⟨fun v st' G' b s' q hg hI' r => q.elim fun xs q => q.1.of r hI' fun h' vs hk rv =>
  q.2 pos A G' _ _ EE ok hp (hI'.ext hk (Nat.le_refl _)) hE ⟨fun ys st₂ G₂ ws s₂ q' hg' hI₂ r' => (H.up hg).ok _ _ _ _ _ q' hg' hI₂ ((rv.mono hg').append r'), (H.up hg).ex⟩, H.ex⟩) rfl
end
noncomputable def kwTrees (pos : Pos) (ks : List Keyword) (env : Env) : List (Sem Value) := (backToKw pos (keywordEach ks env)).map (·.2)
noncomputable def kwNames (ks : List Keyword) : List Str := ks.filterMap (·.arg)
noncomputable def KR (K : Kx) (ks : List Keyword) (st : St) (Q : List (Str × V) → St → Prop) (E : X → St → Prop) : Prop := ∀ pos, Run K (fun _ => True) (evalAll (kwTrees pos ks K.F.env)) (fun G (kv : List (Str × V)) vs => VRs G (kv.map (·.2)) vs ∧ kv.map (·.1) = kwNames ks) st Q E
section
variable {Q : List (Str × V) → St → Prop}
theorem k_nil (q : Q [] st) : KR K [] st Q E := fun pos A G s QQ EE ok _ hI _ H => wpAny_pure (H.here q hI ⟨VRs.nil, rfl⟩)
theorem k_cons {nm : Str} {e : PySem.Expr} {p : Pos} {ks : List Keyword} (h : EX K e st (fun v st => KR K ks st (fun r st => Q ((nm, v) :: r) st) E) E) : KR K (⟨some nm, e, p⟩ :: ks) st Q E := by
 intro pos
 show Run K _ (do let v ← (do let v ← eval e K.F.env; standAt pos; pure v); return v :: (← holding [v] (evalAll (kwTrees pos ks K.F.env)))) _ st Q E
 refine Run.bind (R₁ := RV) up_true ?_
 refine (h.imp fun v st q b => ?_).of_wp fun A QQ EE s h => wpAny_bind (wpAny_mono h (fun v s' h' => wpAny_bind (wpAny_standAt (wpAny_pure h'))) fun _ _ x => x)
 exact Run.bind (up_and up_true up_VR) (((q pos).any.imp fun r st q vs => Run.pure (fun G h => ⟨VRs.cons h.1.2 h.2.1, congrArg (nm :: ·) h.2.2⟩) q).holding)
end
theorem kw_all (pos : Pos) (env : Env) : ∀ {ks : List Keyword}, ks.all named = true → (backToKw pos (keywordEach ks env)).all (·.1.isSome) = true
 | [], _ => rfl
 | ⟨some _, _, _⟩ :: ks, h => by
  rw [List.all_cons, Bool.and_eq_true] at h
  show (true && (backToKw pos (keywordEach ks env)).all (·.1.isSome)) = true
  rw [Bool.true_and]; exact kw_all pos env h.2
 | ⟨none, _, _⟩ :: ks, h => by cases h
theorem kw_names (pos : Pos) (env : Env) : ∀ {ks : List Keyword}, (backToKw pos (keywordEach ks env)).filterMap (·.1) = kwNames ks
 | [] => rfl
 | ⟨some nm, _, _⟩ :: ks => congrArg (nm :: ·) (kw_names pos env)
 | ⟨none, _, _⟩ :: ks => kw_names pos env (ks := ks)
theorem kvs_zip {kv : List (Str × V)} {kws : List Value} (r : VRs G (kv.map (·.2)) kws) : KVs G kv ((kv.map (·.1)).zip kws) := by
 induction kv generalizing kws with
 | nil => rfl
 | cons e kv ih =>
  obtain ⟨v, us, rfl, h, r⟩ := r.cons_inv
  exact ⟨v, _, rfl, h, ih r⟩
structure CallX (K : Kx) (P : Gh → Prop) (f : Value) (first : List Value) (vs : List V) (kv : List (Str × V)) (st : St) (Q : V → St → Prop) (E : X → St → Prop) : Prop where
 run : ∀ ws kvs, Run K (fun G => P G ∧ VRs G vs ws ∧ KwR G kv kvs) (call f (first ++ ws) kvs) RV st Q E
 keep : ∀ G s, CxOk K.c → P G → K.Inv G st s → KeepsOk K.c f s
theorem run_callWith {pos : Pos} {f : Value} {first : List Value} {es : List PySem.Expr} {ks : List Keyword} {bs : List Bool} (hP : Up P) (hs : ∀ env, (starEach es env).map (·.1) = bs) (hb : (bs == [true]) = false) (hn : ks.all named = true)
  (h : AR K es st (fun vs st => KR K ks st (fun kv st => CallX K P f first vs kv st Q E) E) E) : Run K P (callWith pos f first (backTo pos (starEach es K.F.env)) (backToKw pos (keywordEach ks K.F.env))) RV st Q E := by
 intro A G s QQ EE ok hp hI hE H
 refine wpAny_callWith_any (evalArgs_spl (not_lone hs hb) (kw_all pos _ hn) (h pos A G s _ EE ok trivial hI hE ⟨fun vs st₁ G₁ ws s₁ q hg₁ hI₁ r₁ => q pos A G₁ s₁ _ EE ok trivial hI₁ hE ⟨fun kv st₂ G₂ kws s₂ q₂ hg₂ hI₂ r₂ => ?_, (H.up hg₁).ex⟩, H.ex⟩))
 have hp₂ := hP _ _ (hg₁.trans hg₂) hp
 refine ⟨q₂.keep _ _ ok.hc hp₂ hI₂, ?_⟩
 rw [kw_names, ← r₂.2]
 exact q₂.run _ _ A G₂ s₂ QQ EE ok ⟨hp₂, r₁.mono hg₂, kvs_zip r₂.1⟩ hI₂ hE (H.up (hg₁.trans hg₂))
theorem run_lone {pos p : Pos} {f : Value} {first : List Value} {e : PySem.Expr} (hP : Up P) (h : EX K e st (fun v st => ∃ xs, StarV v xs ∧ CallX K P f first xs [] st Q E) E) : Run K P (callWith pos f first (backTo pos (starEach [.Starred e p] K.F.env)) (backToKw pos (keywordEach [] K.F.env))) RV st Q E := by
 intro A G s QQ EE ok hp hI hE H
 refine wpAny_callWith_any (ks_lone (pos := pos) (h A G s _ EE ok trivial hI hE ⟨fun v st₁ G₁ b s₁ q hg hI₁ hv => q.elim fun xs q => q.1.of hv hI₁ fun h' vs hk r => ?_, H.ex⟩))
 have hI' := hI₁.ext hk (Nat.le_refl _)
 exact ⟨q.2.keep _ _ ok.hc (hP _ _ hg hp) hI', q.2.run vs [] A G₁ _ QQ EE ok ⟨hP _ _ hg hp, r, rfl⟩ hI' hE (H.up hg)⟩
theorem x_list {es : List PySem.Expr} {p : Pos} (h : AR K es st (fun vs st => vs.length ≤ lim ∧ Q (.lst vs) st) E) : EX K (.List es p) st Q E := by
 unfold EX
 rw [arm_eval_List]
 refine (Run.bind (R₁ := RVs) up_true ((h p).imp fun vs st q ws => ?_)).standAt
 intro A G s QQ EE ok hp hI _ H
 refine wpAny_newList ?_ (by rw [← hp.2.length]; exact lim_fits q.1)
 exact (hI.newLst hp.2).elim fun G' h => H.ok _ _ _ _ _ q.2 h.1 h.2.1 h.2.2
theorem x_tuple {es : List PySem.Expr} {x1 : Nat} {p : Pos} (h : AR K es st (fun vs st => vs.length ≤ lim ∧ Q (.tup vs) st) E) : EX K (.Tuple es x1 p) st Q E := by
 unfold EX
 rw [arm_eval_Tuple]
 refine (Run.bind (R₁ := RVs) up_true ((h p).imp fun vs st q ws => ?_)).standAt
 intro A G s QQ EE ok hp hI _ H
 refine wpAny_newTuple ?_ (by rw [← hp.2.length]; exact lim_fits q.1)
 exact (hI.newTup hp.2).elim fun G' h => H.ok _ _ _ _ _ q.2 h.1 h.2.1 h.2.2
theorem x_neg {e : PySem.Expr} {p : Pos} (h : EX K e st (fun v st => ∃ i, v.num = some i ∧ Q (.int (-i)) st) E) : EX K (.UnaryOp .USub e p) st Q E := by
 unfold EX
 rw [arm_eval_UnaryOp]
 refine Run.bind up_true (h.imp fun v st q w => (Run.holding ?_).standAt)
 obtain ⟨i, hi, q⟩ := q
 intro A G s QQ EE ok hp hI _ H
 obtain ⟨t, rfl⟩ := num_inv hp.2 hi
 exact PySem.P.neg_int (H.here q (hI.toks (Nat.le_succ _)) (VR_int _ _))
theorem x_walrus {x : Str} {e : PySem.Expr} {p q : Pos} (h : EX K e st (fun v st => NX K x v st (fun _ st => Q v st) E) E) : EX K (.NamedExpr (.Name x p) e q) st Q E := by
 unfold EX
 rw [arm_eval_NamedExpr]
 refine Run.bind up_true (h.imp fun v st z w => Run.bind (γ := Unit) (R₁ := fun _ _ _ => True) (up_and up_true up_VR) ?_)
 rw [arm_assign_Name]
 refine ((((z w).pre fun _ h => h.2).of_wp fun A QQ EE s hw => ?_).standAt.holding).imp fun _ st z _ => Run.pure (fun G h => h.1.2) z
 unfold bindName
 exact wpAny_bind (wpAny_holding (wpAny_point (wpAny_bind (wpAny_mono hw (fun _ _ h => wpAny_point h) fun _ _ x => x))))
noncomputable def bopK (op : BoolOp) (b : Bool) (A B : Prop) : Prop := match op, b with
 | .And, false => A
 | .Or, true => A
 | _, _ => B
noncomputable def BX (K : Kx) (op : BoolOp) (es : List PySem.Expr) (st : St) (Q : V → St → Prop) (E : X → St → Prop) : Prop := ∀ pos, Run K (fun _ => True) (boolOp pos op (evalEach es K.F.env)) RV st Q E
theorem x_boolop {op : BoolOp} {es : List PySem.Expr} {p : Pos} (h : BX K op es st Q E) : EX K (.BoolOp op es p) st Q E := h p
theorem b_one {op : BoolOp} {e : PySem.Expr} (h : EX K e st Q E) : BX K op [e] st Q E := fun _ => h
theorem b_more {op : BoolOp} {e e' : PySem.Expr} {es : List PySem.Expr} (h : EX K e st (fun v st => TX K v st (fun b st => bopK op b (Q v st) (BX K op (e' :: es) st Q E)) E) E) : BX K op (e :: e' :: es) st Q E := by
 intro pos
 show Run K _ (do let v ← eval e K.F.env; PySem.standAt pos; let t ← PySem.holding [v] (truthy v); match op, t with | .And, false | .Or, true => pure v | _, _ => boolOp pos op (evalEach (e' :: es) K.F.env)) RV st Q E
 refine Run.bind up_true (h.imp fun v st q w => (Run.bind (R₁ := fun _ b b' => b' = b) (up_and up_true up_VR) (((q w).pre fun _ h => h.2).holding.imp fun b st q b' => ?_)).standAt)
 refine Run.pre (P := fun G => b' = b ∧ VR G v w) (fun A G s QQ EE ok hp hI hE H => ?_) fun _ h => ⟨h.2, h.1.2⟩
 obtain ⟨rfl, hv⟩ := hp
 cases op <;> cases b' <;> first
  | exact wpAny_pure (H.here q hI hv)
  | exact q pos A G s QQ EE ok trivial hI hE H
end
end Mine
end
section
namespace Mine
open PySem PySem.W PyProof.Rows PySem.SeqAt
theorem cellsFrom_append (n : Nat) : ∀ (names : List (Str × NameKind)) (acc : List (Str × Addr)), cellsFrom n names acc = cellsFrom n names [] ++ acc := by
 intro names
 induction names generalizing n with
 | nil => intro acc; rfl
 | cons x r ih =>
  obtain ⟨nm, k⟩ := x
  intro acc
  unfold cellsFrom
  split
  ·rw [ih (n + 1) ((nm, n) :: acc), ih (n + 1) [(nm, n)], List.append_assoc]; rfl
  ·exact ih n acc
theorem cellsFrom_mem {x : Str} : ∀ (names : List (Str × NameKind)) (n : Nat), (x, NameKind.cell) ∈ names → ∃ a, (x, a) ∈ cellsFrom n names []
 | (nm, k) :: r, n, h => by
  unfold cellsFrom
  rcases List.mem_cons.mp h with q | q
  ·cases q
   rw [if_pos (by rfl), cellsFrom_append]
   exact ⟨n, List.mem_append_right _ List.mem_cons_self⟩
  ·split
   ·obtain ⟨a, ha⟩ := cellsFrom_mem r (n + 1) q
    rw [cellsFrom_append]
    exact ⟨a, List.mem_append_left _ ha⟩
   ·exact cellsFrom_mem r n q
theorem lookup_of_mem {α : Type} {x : Str} {a : α} : ∀ {l : List (Str × α)}, (x, a) ∈ l → ∃ b, l.lookup x = some b
 | (k, v) :: r, h => by
  rw [List.lookup_cons]
  cases hb : x == k with
  | true => exact ⟨v, rfl⟩
  | false =>
   rcases List.mem_cons.mp h with q | q
   ·cases q; simp at hb
   ·exact lookup_of_mem q
section
variable {c : Cx} {F : Fm} {G : Gh} {ρ : Str → Option V} {σ : List O} {s : Shared}
noncomputable def cellXs (l : List (Str × Addr)) : List XE := l.map fun p => (p.2, CellP none)
theorem rel_cells : ∀ (names : List (Str × NameKind)) {xs : List XE} {s : Shared}, Rel c G xs σ s → Rel c G (cellXs (cellsFrom s.heap.objs.size names []) ++ xs) σ { s with heap := pushCells s.heap names }
 | [], xs, s, R => R
 | (nm, k) :: r, xs, s, R => by
  unfold cellsFrom pushCells
  split
  ·have R1 := R.addX (a := s.heap.objs.size) (P := CellP none) (h' := s.heap.push { cls := .type "cell", data := .cell none }) (tk := s.toks) (get_size _) (keep_push _ _) ⟨_, Heap.get?_push_size _ rfl, rfl⟩ (Nat.le_refl _)
   have R2 := rel_cells r R1
   dsimp only at R2
   rw [show (s.heap.push { cls := .type "cell", data := .cell none }).objs.size = s.heap.objs.size + 1 from Heap.size_push ..] at R2
   rw [cellsFrom_append (s.heap.objs.size + 1) r [(nm, s.heap.objs.size)]]
   unfold cellXs at R2 ⊢
   rw [List.map_append, List.append_assoc]
   exact R2
  ·exact rel_cells r R
theorem Rel.pick {xs ys : List XE} (R : Rel c G xs σ s) (h : ∀ e ∈ ys, e ∈ xs) (nd : (ys.map (·.1)).Nodup) : Rel c G ys σ s :=
 { R with xsc := fun e he => R.xsc e (h e he), nd := nd }
noncomputable def FnFm (F : Fm) : Prop := ∃ outer, F.frs = F.env :: outer
theorem rel_settle {xs : List XE} {B : Heap} (R : Rel c G xs σ s) (f : FR F G ρ xs)
  (hB : ∀ b o, s.heap.get? b = some o → (c.base.get? b).isSome ∨ (G.own b).isSome ∨ (b ∈ xs.map (·.1) ∧ ¬ isFrame F.frs b) → B.get? b = some o)
  {h' : Heap} (hs : B.StaysIn h') (hu : s.heap.UpToSlots h') {tk : Nat} (ht : s.toks ≤ tk) : Rel c G xs σ { s with heap := h', toks := tk } := by
 have up : ∀ b o, s.heap.get? b = some o → (c.base.get? b).isSome ∨ (G.own b).isSome ∨ (b ∈ xs.map (·.1) ∧ ¬ isFrame F.frs b) → h'.get? b = some o := fun b o e hc => hs b o (hB b o e hc)
 have own_of_fz : ∀ a k, G.fz a = some k → (G.own a).isSome := fun a k e => by
  rcases (R.fzc a k e).2 with h | ⟨i, o, h, _⟩ <;> rw [h] <;> rfl
 exact {
  keep := fun b o e => up b o (R.keep b o e) (.inl (by rw [e]; rfl))
  baseOwn := R.baseOwn
  fzc := fun a k e => ⟨(R.fzc a k e).1.keep fun o ho => up a o ho (.inr (.inl (own_of_fz a k e))), (R.fzc a k e).2⟩
  stc := fun a i e => by
   obtain ⟨o, h1, ⟨ob, h2⟩, h3⟩ := R.stc a i e
   have hk : ∀ o, s.heap.get? a = some o → h'.get? a = some o := fun o ho => up a o ho (.inr (.inl (by rw [e]; rfl)))
   exact ⟨o, h1, ⟨ob, hk _ h2⟩, h3.keep hk⟩
  inj := R.inj
  live := fun a k e => by obtain ⟨ob, h⟩ := R.live a k e; exact ⟨ob, up a ob h (.inr (.inl (by rw [e]; rfl)))⟩
  xsc := fun e he => by
   obtain ⟨h1, ob, h2, h3⟩ := R.xsc e he
   refine ⟨h1, ?_⟩
   by_cases hf : isFrame F.frs e.1
   ·obtain ⟨env, henv, hfr⟩ := List.mem_filterMap.mp hf
    obtain ⟨_, L, m, hL, hm⟩ := f.frs env henv
    rw [hL] at hfr
    have hLe : L = e.1 := Option.some.inj hfr
    obtain ⟨ea, eP⟩ := e
    dsimp only at hLe h2 h3 ⊢
    subst hLe
    have hP : NsP m = eP := nodup_mem R.nd hm he
    subst hP
    obtain ⟨es, ep, hd, r⟩ := h3
    obtain ⟨sl, hsl⟩ := hu L ob h2 fun vs q => by rw [hd] at q; cases q
    exact ⟨_, hsl, es, ep, hd, r⟩
   ·exact ⟨ob, up _ _ h2 (.inr (.inr ⟨List.mem_map_of_mem (f := Prod.fst) he, hf⟩)), h3⟩
  nd := R.nd
  tok := fun t k e => ⟨(R.tok t k e).1, Nat.lt_of_lt_of_le (R.tok t k e).2 ht⟩
  pos := Nat.lt_of_lt_of_le R.pos ht
  gens := R.gens
  drawn := R.drawn
  os := R.os }
theorem exn_settle {x : X} {xs : List XE} {B : Heap} {a : Addr} {a0 : Value} (R : Rel c G xs σ s) (f : FR F G ρ xs)
  (hB : ∀ b o, s.heap.get? b = some o → (c.base.get? b).isSome ∨ (G.own b).isSome ∨ (b ∈ xs.map (·.1) ∧ ¬ isFrame F.frs b) → B.get? b = some o) (hn : B.get? a = none)
  {h' : Heap} (hs : B.StaysIn h') (hu : s.heap.UpToSlots h') (hf : h'.FunFrames B F.frs) (ht : h'.TracedW B a (clsOf c x) a0) : Exn c F G ρ σ x (.ref a) { s with heap := h' } := by
 refine ⟨xs, B, a, a0, rfl, rel_settle R f hB hs hu (Nat.le_refl _), f, hs, hn, fun b o hb hc => ?_, hf, .inr ht⟩
 have live : ∃ o', s.heap.get? b = some o' := by
  rcases hc with hc | hc | ⟨hc, _⟩
  ·obtain ⟨o', ho'⟩ := Option.isSome_iff_exists.mp hc
   exact ⟨o', R.keep _ _ ho'⟩
  ·obtain ⟨k, hk⟩ := Option.isSome_iff_exists.mp hc
   exact R.live b k hk
  ·obtain ⟨e', he', rfl⟩ := List.mem_map.mp hc
   obtain ⟨_, ob, ho, _⟩ := R.xsc e' he'
   exact ⟨ob, ho⟩
 obtain ⟨o', ho'⟩ := live
 have hb' := hB b o' ho' hc
 have := hs b o' hb'
 dsimp only at hb
 rw [this] at hb; cases hb
 exact hb'
theorem exn_look {x : X} {e : Value} (hF : FmOk c F) (hfr : FnFm F) {A : Around} (hA : A.frames = some F.frs) (hX : Exn c F G ρ σ x e s) {E : Value → Shared → Prop} {K : Shared → Prop}
  (hK : ∀ (B : Heap) (a : Addr) (a0 : Value) h', e = .ref a → Exn c F G ρ σ x e { s with heap := h' } → B.StaysIn h' → h'.FunFrames B F.frs → h'.TracedW B a (clsOf c x) a0 →
   (∀ g, B.StaysIn g → Heap.UpToSlots h' g → Inv c F G ρ σ { s with heap := g }) → K { s with heap := h' }) :
  wpAny c.M A (noteFrame e F.env) (fun _ s₂ => wpAny c.M A (setFlight e none) (fun _ s₃ => K s₃) E s₂) E s := by
 obtain ⟨xs, B, a, a0, rfl, R, f, h2, h3, h4, h5, h6⟩ := hX
 obtain ⟨outer, ho⟩ := hfr
 obtain ⟨L, hL⟩ := hF.frm
 rw [ho] at hA h5
 have fin : ∀ h', Heap.NotedW B (F.env :: outer) a (clsOf c x) a0 (rawInt L) s.heap h' → wpAny c.M A (setFlight (.ref a) none) (fun _ s₃ => K s₃) E { s with heap := h' } := fun h' hN => by
  obtain ⟨k1, k2, k3, k4⟩ := hN
  refine wpAny_setFlight_noneW (s := { s with heap := h' }) k1 k2 k3 fun h'' j1 j2 j3 j4 => ?_
  have hu : s.heap.UpToSlots h'' := (show s.heap.UpToSlots h' from k4).trans fun b o hb hn => ⟨o.slots, j4 b o hb hn⟩
  rw [← ho] at j2
  exact hK B a a0 h'' rfl (exn_settle R f h4 h3 j1 hu j2 j3) j1 j2 j3 fun g hg hu' => ⟨xs, rel_settle R f h4 hg (hu.trans hu') (Nat.le_refl _), f⟩
 rcases h6 with ⟨oe, vs, q1, q2, q3, q4, q5⟩ | ht
 ·unfold noteFrame
  simp only [hL]
  refine wpAny_bind (wpAny_field q1 q3 q5 ?_)
  rw [if_neg (by decide)]
  exact wpAny_entryW hA h5 hL q1 h2 h3 q3 (Array.getElem?_eq_some_iff.mp q5).1 q4 fun h' hN => fin h' (q2 ▸ hN)
 ·exact wpAny_noteFrame_onW hA h5 hL ht h2 h3 fin
end
structure ScOk (sc : Scope) : Prop where
 kind : sc.kind = .function
 gen : sc.isGenerator = false
 co : sc.isCoroutine = false
 nd : (sc.names.map (·.1)).Nodup
 nofree : ∀ x ∈ sc.names, x.2 ≠ .free
 nocd : sc.names.lookup ("__classdict__" : Str) = none
structure DefOk (c : Cx) (a : Addr) (fd : FuncData) (sc : Scope) (body : List Stmt) : Prop where
 obj : ∃ o, c.base.get? a = some o ∧ o.data = .func fd
 scope : fd.scope = sc
 body : fd.body = .stmts body
 glb : fd.globals = mainGlobals
 blt : fd.builtins = builtinsNs
 clo : fd.closure = []
 code : c.base.CodeRec fd.code fd.qualname
 sc : ScOk sc
section
variable {c : Cx} {F : Fm} {G : Gh} {ρ : Str → Option V} {σ : List O} {s : Shared}
theorem CxNoLimit (hc : CxOk c) (hI : Inv c F G ρ σ s) : s.heap.NoLimit := hc.nolimit.keeps hI.keep
theorem wpAny_newDefEnv {A : Around} {E : Value → Shared → Prop} {scope : Scope} {globals builtins : Addr} {binds : List (Str × Value)} {qual : Str} {func : Option Addr} {code : Value} {Q : Env → Shared → Prop}
  (hQ : wpAny c.M A (forIn binds PUnit.unit fun x _ => (do storeName (newEnv scope s.heap.objs.size globals (cellsFrom (s.heap.objs.size + 1) scope.names []) qual func code none builtins) x.1 x.2; pure (ForInStep.yield PUnit.unit)))
   (fun _ s' => Q (newEnv scope s.heap.objs.size globals (cellsFrom (s.heap.objs.size + 1) scope.names []) qual func code none builtins) s') E
   { s with heap := pushCells (s.heap.push { cls := .type "frame", data := .dict #[] }) scope.names }) :
  wpAny c.M A (newFunctionEnv scope globals [] binds qual func code none builtins) Q E s := by
 simp only [newFunctionEnv, Option.isSome_none, Bool.false_eq_true, if_false]
 refine wpAny_bind (wpAny_alloc ?_)
 refine wpAny_bind (wpAny_layCells _ (fun name kind cells => by cases hkc : kind == NameKind.cell <;> simp [hkc]) _ _ _ _ ?_)
 rw [show ({ s with heap := s.heap.push { cls := .type "frame", data := .dict #[] } } : Shared).heap.objs.size = s.heap.objs.size + 1 from Heap.size_push ..]
 exact wpAny_bind (wpAny_mono hQ (fun _ s' h => wpAny_pure h) fun _ _ h => h)
noncomputable def defFm (sc : Scope) (L : Addr) (qual : Str) (func : Option Addr) (code : Value) (xs : List XE) (frs : List Env) : Fm :=
 { env := newEnv sc L mainGlobals (cellsFrom (L + 1) sc.names []) qual func code none builtinsNs, sc := sc, out := xs, frs := frs }
theorem def_lookup {sc : Scope} {base : Nat} {x : Str} (hx : sc.names.lookup x = some .cell) : ∃ a, (cellsFrom base sc.names []).lookup x = some a ∧ (x, a) ∈ cellsFrom base sc.names [] := by
 obtain ⟨a, ha⟩ := cellsFrom_mem sc.names base (mem_of_lookup hx)
 obtain ⟨b, hb⟩ := lookup_of_mem ha
 exact ⟨b, hb, mem_of_lookup hb⟩
theorem defFm_ok {sc : Scope} (hs : ScOk sc) {L : Addr} {qual : Str} {func : Option Addr} {code : Value} {xs : List XE} {frs : List Env} (hL : c.base.objs.size ≤ L)
  (nd : ((cellXs (cellsFrom (L + 1) sc.names []) ++ (L, NsP fun _ => none) :: xs).map (·.1)).Nodup) : FmOk c (defFm sc L qual func code xs frs) := by
 rw [List.map_append, List.nodup_append] at nd
 obtain ⟨nd1, nd2, nd3⟩ := nd
 rw [List.map_cons, List.nodup_cons] at nd2
 have hin : ∀ x a, (x, a) ∈ cellsFrom (L + 1) sc.names [] → a ∈ (cellXs (cellsFrom (L + 1) sc.names [])).map (·.1) := fun x a h => by
  unfold cellXs
  rw [List.map_map]
  exact List.mem_map.mpr ⟨(x, a), h, rfl⟩
 exact {
  fn := hs.kind
  glb := rfl
  blt := rfl
  loc := fun x hx => hx
  cel := fun x hx => by
   refine ⟨hx, ?_⟩
   obtain ⟨a, h1, h2⟩ := def_lookup (base := L + 1) hx
   refine ⟨a, h1, fun q => ?_, fun q => ?_⟩
   ·exact nd3 a (hin x a h2) a (List.mem_cons_of_mem _ q) rfl
   ·have q' : a = L := q
    exact nd3 a (hin x a h2) L List.mem_cons_self q'
  fre := fun x hx => absurd rfl (hs.nofree _ (mem_of_lookup hx))
  frc := fun x hx => absurd rfl (hs.nofree _ (mem_of_lookup hx))
  glo := fun x hx => hx
  inj := fun x y a hx hy hxa hya => by
   obtain ⟨a₁, h1, h2⟩ := def_lookup (base := L + 1) hx
   obtain ⟨a₂, h3, h4⟩ := def_lookup (base := L + 1) hy
   have e1 : a₁ = a := Option.some.inj (h1.symm.trans hxa)
   have e2 : a₂ = a := Option.some.inj (h3.symm.trans hya)
   subst e1
   subst e2
   refine name_of_addr ?_ h2 h4
   unfold cellXs at nd1
   rw [List.map_map] at nd1
   exact (List.pairwise_map.mp nd1).imp fun h => h
  lo := nd2.1
  outNd := nd2.2
  abv := hL
  frm := ⟨L, rfl⟩
  nocd := hs.nocd }
theorem defFm_fr {sc : Scope} (hs : ScOk sc) {L : Addr} {qual : Str} {func : Option Addr} {code : Value} {xs : List XE} {frs : List Env} (hfr : ∀ e ∈ frs, e.scope.kind ≠ .module ∧ ∃ L m, e.frame = some L ∧ (L, NsP m) ∈ xs) :
  FR (defFm sc L qual func code xs frs) G (fun _ => none) (cellXs (cellsFrom (L + 1) sc.names []) ++ (L, NsP fun _ => none) :: xs) where
 loc := ⟨fun _ => none, List.mem_append_right _ List.mem_cons_self, fun x u hx hu => by cases hu⟩
 cel := fun x a hx ha => by
  obtain ⟨b, h1, h2⟩ := def_lookup (base := L + 1) hx
  have e : b = a := Option.some.inj (h1.symm.trans ha)
  subst e
  exact ⟨none, List.mem_append_left _ (List.mem_map.mpr ⟨(x, b), h2, rfl⟩), fun u hu => by cases hu⟩
 fre := fun x u hx hu => by cases hu
 out := fun e he => List.mem_append_right _ (List.mem_cons_of_mem _ he)
 frs := fun e he => by
  obtain ⟨h1, L, m, h2, h3⟩ := hfr e he
  exact ⟨h1, L, m, h2, List.mem_append_right _ (List.mem_cons_of_mem _ h3)⟩
theorem Inv.back {F' : Fm} {xs : List XE} {G' : Gh} {ρ' : Str → Option V} {σ' : List O} {s' : Shared} (hI : Inv c F' G' ρ' σ' s') (ho : F'.out = xs) (f : FR F G ρ xs) (hg : G.le G') (nd : (xs.map (·.1)).Nodup) : Inv c F G' ρ σ' s' := by
 obtain ⟨ys, R, f'⟩ := hI.ok
 subst ho
 exact ⟨F'.out, R.pick f'.out nd, f.mono hg⟩
theorem Exn.back {F' : Fm} {xs : List XE} {G' : Gh} {ρ' : Str → Option V} {σ' : List O} {s' : Shared} {x : X} {e : Value} (hF' : FmOk c F') (hX : Exn c F' G' ρ' σ' x e s') (ho : F'.out = xs) (hfrs : F'.frs = F'.env :: F.frs) (hfm : F'.env.frame = some F'.env.locals)
  (f : FR F G ρ xs) (hg : G.le G') (nd : (xs.map (·.1)).Nodup) : Exn c F G' ρ σ' x e s' := by
 obtain ⟨ys, B, a, a0, h1, R, f', h2, h3, h4, h5, h6⟩ := hX
 subst ho
 refine ⟨F'.out, B, a, a0, h1, R.pick f'.out nd, f.mono hg, h2, h3, fun b o hb hcase => h4 b o hb ?_, ?_, h6⟩
 ·rcases hcase with q | q | ⟨q, q'⟩
  ·exact .inl q
  ·exact .inr (.inl q)
  ·refine .inr (.inr ⟨?_, fun z => ?_⟩)
   ·obtain ⟨e', he', rfl⟩ := List.mem_map.mp q
    exact List.mem_map_of_mem (f := Prod.fst) (f'.out e' he')
   ·unfold isFrame at z q'
    rw [hfrs, List.filterMap_cons, hfm] at z
    rcases List.mem_cons.mp z with z | z
    ·exact hF'.lo (by rw [← z]; exact q)
    ·exact q' z
 ·rw [hfrs] at h5
  exact h5.2.2
end
end Mine
end
section
namespace Mine
open PySem PySem.W PyProof.Rows PySem.SeqAt
inductive Fl where | next | brk | cont | ret (v : V)
noncomputable def FlowR (G : Gh) : Fl → Flow → Prop
 | .next, f => f = .next
 | .brk, f => f = .brk
 | .cont, f => f = .cont
 | .ret v, f => ∃ w, f = .ret w ∧ VR G v w
section
variable {K : Kx} {P : Gh → Prop} {st : St} {ρ : Str → Option V} {σ : List O} {Q : Fl → St → Prop} {E : X → St → Prop} {G : Gh} {s : Shared} {x y v : V} {i j : Nat} {k : Bool} {A : Around}
noncomputable def SX (K : Kx) (t : Stmt) (st : St) (Q : Fl → St → Prop) (E : X → St → Prop) : Prop := Run K (fun _ => True) (exec t K.F.env) FlowR st Q E
noncomputable def SS (K : Kx) (l : List Stmt) (st : St) (Q : Fl → St → Prop) (E : X → St → Prop) : Prop := Run K (fun _ => True) (execs l K.F.env) FlowR st Q E
noncomputable def TA (K : Kx) (t : PySem.Expr) (v : V) (st : St) (Q : Unit → St → Prop) (E : X → St → Prop) : Prop := ∀ w, Run K (fun G => VR G v w) (assign t K.F.env w) (fun _ _ _ => True) st Q E
theorem run_next (q : Q .next st) : Run K P (pure Flow.next) FlowR st Q E := Run.pure (a := Fl.next) (R := FlowR) (fun _ _ => (rfl : Flow.next = .next)) q
theorem run_brk (q : Q .brk st) : Run K P (pure Flow.brk) FlowR st Q E := Run.pure (a := Fl.brk) (R := FlowR) (fun _ _ => (rfl : Flow.brk = .brk)) q
theorem run_cont (q : Q .cont st) : Run K P (pure Flow.cont) FlowR st Q E := Run.pure (a := Fl.cont) (R := FlowR) (fun _ _ => (rfl : Flow.cont = .cont)) q
noncomputable def seqK (A : Prop) (Q : Fl → St → Prop) : Fl → St → Prop
 | .next, _ => A
 | f, s => Q f s
theorem s_nil (q : Q .next st) : SS K [] st Q E := by unfold SS; rw [arm_execs_nil]; exact run_next q
theorem s_cons {t : Stmt} {r : List Stmt} (h : SX K t st (fun f st => seqK (SS K r st Q E) Q f st) E) : SS K (t :: r) st Q E := by
 unfold SS
 rw [arm_execs_cons]
 refine Run.bind up_true (h.imp fun f st q f' => fun A G s QQ EE ok hp hI hE H => ?_)
 cases f with
 | next => cases hp.2; exact q A G s QQ EE ok trivial hI hE H
 | brk => cases hp.2; exact run_brk (P := fun _ => True) (Q := Q) q A G s QQ EE ok trivial hI hE H
 | cont => cases hp.2; exact run_cont (P := fun _ => True) (Q := Q) q A G s QQ EE ok trivial hI hE H
 | ret v =>
  obtain ⟨w, rfl, hw⟩ := hp.2
  exact wpAny_pure (H.here q hI ⟨w, rfl, hw⟩)
theorem s_break {p : Pos} (q : Q .brk st) : SX K (.Break p) st Q E := by unfold SX; rw [arm_exec_Break]; exact (run_brk q).standAt
theorem s_cont {p : Pos} (q : Q .cont st) : SX K (.Continue p) st Q E := by unfold SX; rw [arm_exec_Continue]; exact (run_cont q).standAt
noncomputable def TS (K : Kx) (t : PySem.Expr) (st : St) (Q : Bool → St → Prop) (E : X → St → Prop) : Prop := Run K (fun _ => True) (isTrue t K.F.env (eval t K.F.env)) (fun _ b b' => b' = b) st Q E
theorem s_if {t : PySem.Expr} {a b : List Stmt} {p : Pos} (h : TS K t st (fun c st => if c then SS K a st Q E else SS K b st Q E) E) : SX K (.If t a b p) st Q E := by
 unfold SX
 rw [arm_exec_If]
 refine (Run.bind up_true (h.imp fun c st q c' => fun A G s QQ EE ok hp hI hE H => ?_)).standAt
 cases hp.2
 cases c
 ·exact q A G s QQ EE ok trivial hI hE H
 ·exact q A G s QQ EE ok trivial hI hE H
section
variable {Q : Bool → St → Prop}
theorem q_plain {e : PySem.Expr} (he : ∀ env whole, isTrue e env whole = (do let v ← whole; PySem.standAt e.pos; PySem.holding [v] (truthy v))) (h : EX K e st (fun v st => TX K v st Q E) E) : TS K e st Q E := by
 unfold TS
 rw [he]
 exact Run.bind up_true (h.imp fun v st q w => (((q w).pre fun _ h => h.2).holding.standAt))
theorem q_cmp {l r : PySem.Expr} {op : CmpOp} {p : Pos} (hm : behindInMarks op r = false) (h : EX K l st (fun a st => EX K r st (fun b st => QX K op a b st (fun v st => TX K v st Q E) E) E) E) : TS K (.Compare l [op] [r] p) st Q E := by
 show Run K _ (do let a ← eval l K.F.env; let b ← PySem.holding [a] (markedBehindIn op r (eval r K.F.env)); PySem.standAt p; let v ← PySem.operate [a, b] (compareOp op a b); PySem.holding [v] (truthy v)) _ st Q E
 rw [markedBehindIn_of_false hm]
 exact Run.bind up_true (h.imp fun a st q va => Run.bind (up_and up_true up_VR) ((q.any.imp fun b st q vb => (Run.bind (R₁ := RV) (up_and (up_and up_true up_VR) up_VR)
  (((q va vb).pre fun _ h => ⟨h.1.2, h.2⟩).operate.imp fun v st q w => ((q w).pre fun _ h => h.2).holding)).standAt).holding))
theorem q_not {e : PySem.Expr} {p : Pos} (h : TS K e st (fun b st => Q (!b) st) E) : TS K (.UnaryOp .Not e p) st Q E := by
 unfold TS
 show Run K _ (do let b ← isTrue e K.F.env (eval e K.F.env); return !b) _ st Q E
 exact Run.bind up_true (h.imp fun b st q b' => Run.pure (fun G h => congrArg (!·) h.2) q)
noncomputable def TL (K : Kx) (op : BoolOp) (es : List PySem.Expr) (st : St) (Q : Bool → St → Prop) (E : X → St → Prop) : Prop := Run K (fun _ => True) (allTrue op es K.F.env) (fun _ b b' => b' = b) st Q E
theorem q_boolop {op : BoolOp} {es : List PySem.Expr} {p : Pos} (h : TL K op es st Q E) : TS K (.BoolOp op es p) st Q E := h
noncomputable def endB : BoolOp → Bool
 | .And => true
 | .Or => false
theorem tl_nil {op : BoolOp} (q : Q (endB op) st) : TL K op [] st Q E := by
 unfold TL
 rw [arm_allTrue_nil]
 cases op <;> exact Run.pure (fun _ _ => rfl) q
theorem tl_cons {op : BoolOp} {e : PySem.Expr} {es : List PySem.Expr} (h : TS K e st (fun b st => bopK op b (Q b st) (TL K op es st Q E)) E) : TL K op (e :: es) st Q E := by
 unfold TL
 rw [arm_allTrue_cons]
 refine Run.bind up_true (h.imp fun b st q b' => fun A G s QQ EE ok hp hI hE H => ?_)
 cases hp.2
 cases op <;> cases b <;> first
  | exact wpAny_pure (H.here q hI rfl)
  | exact q A G s QQ EE ok trivial hI hE H
end
section
variable {Q : Unit → St → Prop}
theorem bind_wp {K : Kx} {x : Str} {w : Value} {A : Around} {QQ : Unit → Shared → Prop} {EE : Value → Shared → Prop} {s : Shared} (hw : wpAny K.c.M A (storeName K.F.env x w) QQ EE s) : wpAny K.c.M A (bindName K.F.env x w) QQ EE s := by
 unfold bindName
 exact wpAny_bind (wpAny_holding (wpAny_point (wpAny_bind (wpAny_mono hw (fun _ _ h => wpAny_point h) fun _ _ x => x))))
theorem ta_name {x : Str} {p : Pos} (h : NX K x v st Q E) : TA K (.Name x p) v st Q E := by
 intro w
 rw [arm_assign_Name]
 exact ((h w).of_wp fun A QQ EE s hw => bind_wp hw).standAt
theorem ta_attr {o : PySem.Expr} {nm : Str} {p : Pos} (h : EX K o st (fun u st => AS K u nm v st Q E) E) : TA K (.Attribute o nm p) v st Q E := by
 intro w
 rw [arm_assign_Attribute]
 exact Run.bind up_VR ((h.any.imp fun u st q uw => (((q uw w).pre fun G h => ⟨h.2, h.1⟩).of_wp fun A QQ EE s hw => wpAny_bind (wpAny_holding (wpAny_mono hw (fun _ _ h => wpAny_release h) fun _ _ x => x))).standAt).holding)
noncomputable def IS (K : Kx) (o k v : V) (st : St) (Q : Unit → St → Prop) (E : X → St → Prop) : Prop := ∀ a b u, Run K (fun G => VR G o a ∧ VR G k b ∧ VR G v u) (setItem a b u) (fun _ _ _ => True) st Q E
theorem ta_item {o i : PySem.Expr} {p : Pos} (h : EX K o st (fun u st => EX K i st (fun k st => IS K u k v st Q E) E) E) : TA K (.Subscript o i p) v st Q E := by
 intro w
 rw [arm_assign_Subscript]
 exact Run.bind up_VR ((h.any.imp fun u st q uw => Run.bind (up_and up_VR up_VR) ((q.any.imp fun k st q kw => (((q uw kw w).pre fun G h => ⟨h.1.2, h.2, h.1.1⟩).of_wp fun A QQ EE s hw => wpAny_bind (wpAny_holding (wpAny_mono hw (fun _ _ h => wpAny_release h) fun _ _ x => x))).standAt).holding)).holding)
end
theorem s_assign {t e : PySem.Expr} {p : Pos} (hx : ∀ env, exec (.Assign [t] e p) env = (do PySem.standAt p; let v ← eval e env; assign t env v; pure .next)) (h : EX K e st (fun v st => TA K t v st (fun _ st => Q .next st) E) E) : SX K (.Assign [t] e p) st Q E := by
 unfold SX
 rw [hx]
 exact (Run.bind up_true (h.imp fun v st q w => Run.bind (R₁ := fun _ _ _ => True) (up_and up_true up_VR) (((q w).pre fun _ h => h.2).imp fun _ st q _ => run_next q))).standAt
theorem s_assign2 {t t' e : PySem.Expr} {p : Pos} (hx : ∀ env, exec (.Assign [t, t'] e p) env = (do PySem.standAt p; let v ← eval e env; (do PySem.holding [v] (assign t env v); assign t' env v); pure .next))
  (h : EX K e st (fun v st => TA K t v st (fun _ st => TA K t' v st (fun _ st => Q .next st) E) E) E) : SX K (.Assign [t, t'] e p) st Q E := by
 unfold SX
 rw [hx]
 exact (Run.bind up_true (h.imp fun v st q w => Run.bind (R₁ := fun _ _ _ => True) (up_and up_true up_VR) (Run.bind (R₁ := fun _ _ _ => True) (up_and up_true up_VR) (((q w).pre fun _ h => h.2).holding.imp fun _ st q _ => ((q w).pre fun _ h => h.1.2).imp fun _ st q _ => run_next q)))).standAt
theorem FmOk.notInteractive {c : Cx} {F : Fm} (hF : FmOk c F) : interactive F.env = false := by
 unfold interactive
 rw [hF.fn]; rfl
theorem s_expr {e : PySem.Expr} {p : Pos} (hx : ∀ env, interactive env = false → exec (.Expr e p) env = (do PySem.standAt p; let v ← eval e env; dropValue e p v)) (h : EX K e st (fun _ st => Q .next st) E) : SX K (.Expr e p) st Q E := by
 intro A G s QQ EE ok hp hI hE H
 rw [hx _ ok.hF.notInteractive]
 exact (Run.bind up_true (h.imp (Q' := fun v st => ∀ w, Run K (fun G => True ∧ VR G v w) (dropValue e p w) FlowR st Q E) fun v st q w => fun A G s QQ EE ok hp hI hE H => wpAny_dropValue (H.here q hI (rfl : Flow.next = .next)))).standAt A G s QQ EE ok hp hI hE H
theorem s_aug {x : Str} {np p : Pos} {op : Operator} {e : PySem.Expr} {a : V} (hl : K.sc.names.lookup x = some .local) (hv : st.ρ x = some a) (h : EX K e st (fun b st => ∀ va vb, Run K (fun G => VR G a va ∧ VR G b vb) (inplaceOp op va vb) RV st (fun v st => NX K x v st (fun _ st => Q .next st) E) E) E) : SX K (.AugAssign (.Name x np) op e p) st Q E := by
 unfold SX
 rw [arm_exec_AugAssign]
 refine (Run.bind (R₁ := RV) (t := loadName K.F.env x) up_true (Run.imp (Q := fun v st' => v = a ∧ st' = st) (fun A G s QQ EE ok hp hI hE H => ?_) ?_)).standAt
 ·obtain ⟨xs, R, f⟩ := hI.ok
  obtain ⟨m, hm, hloc⟩ := f.loc
  have hl' := ok.hs ▸ hl
  obtain ⟨w, hw, hvr⟩ := hloc x a hl' hv
  exact wpAny_loadName_local ok.hF.fn (ok.hF.loc x hl') (ns_of (R.xsc _ hm).2) hw (H.here ⟨rfl, rfl⟩ hI hvr)
 ·rintro _ _ ⟨rfl, rfl⟩ va
  exact Run.bind (up_and up_true up_VR) ((h.any.imp fun b st q vb => (Run.bind (R₁ := RV) (up_and (up_and up_true up_VR) up_VR) (((q va vb).pre fun _ h => ⟨h.1.2, h.2⟩).operate.imp fun v st q w =>
   (Run.bind (γ := Unit) (R₁ := fun _ _ _ => True) (up_and (up_and (up_and up_true up_VR) up_VR) up_VR) ((((q w).pre fun _ h => h.2).of_wp fun A QQ EE s hw => bind_wp hw).imp fun _ st q _ => run_next q)).standAt)).standAt).holding)
theorem i_add {Q : V → St → Prop} {m n : Int} (hx : x.num = some m) (hy : y.num = some n) (q : Q (.int (m + n)) st) (va vb : Value) : Run K (fun G => VR G x va ∧ VR G y vb) (inplaceOp .Add va vb) RV st Q E :=
 on_nums (t := inplaceOp .Add) hx hy (fun _ _ A G s QQ EE ok hI H => PySem.P.iadd_int (H.int (R := RV) hI q)) va vb
theorem i_sub {Q : V → St → Prop} {m n : Int} (hx : x.num = some m) (hy : y.num = some n) (q : Q (.int (m - n)) st) (va vb : Value) : Run K (fun G => VR G x va ∧ VR G y vb) (inplaceOp .Sub va vb) RV st Q E :=
 on_nums (t := inplaceOp .Sub) hx hy (fun _ _ A G s QQ EE ok hI H => PySem.P.isub_int (H.int (R := RV) hI q)) va vb
theorem s_augA {o : PySem.Expr} {nm : Str} {tp p : Pos} {op : Operator} {e : PySem.Expr} (h : EX K o st (fun u st => AX K u nm st (fun a st => EX K e st (fun b st => ∀ va vb, Run K (fun G => VR G a va ∧ VR G b vb) (inplaceOp op va vb) RV st (fun v st => AS K u nm v st (fun _ st => Q .next st) E) E) E) E) E) : SX K (.AugAssign (.Attribute o nm tp) op e p) st Q E := by
 unfold SX
 rw [arm_exec_AugAssign_2]
 refine (Run.bind up_true (h.imp fun u st q uw => ?_)).standAt
 have up1 : Up fun G => True ∧ VR G u uw := up_and up_true up_VR
 refine Run.bind (R₁ := RV) up1 (Run.holding (Run.standAt (Run.bind up1 (((q uw _).pre fun _ h => h.2).imp fun a st q va => Run.bind (up_and up1 up_VR) ((q.any.imp fun b st q vb => (((q va vb).pre fun _ h => ⟨h.1.2, h.2⟩).operate.imp fun v st q w => ?_).standAt).holding)))))
 have tail : ∀ (P : Gh → Prop) st, Q .next st → Run K P (do release [w, uw] []; pure Flow.next) FlowR st Q E := fun P st q A G s QQ EE ok hp hI hE H => wpAny_bind (wpAny_release (wpAny_pure (H.here q hI (rfl : Flow.next = .next))))
 exact (Run.bind (R₁ := fun _ _ _ => True) (up_and up1 up_VR) (((q uw w).pre fun _ h => ⟨h.1.2, h.2⟩).holding.imp fun _ st q _ => tail _ st q)).standAt
end
end Mine
end
section
namespace Mine
open PySem PySem.W PyProof.Rows PySem.SeqAt
section
variable {K : Kx} {P : Gh → Prop} {st : St} {ρ : Str → Option V} {σ : List O} {Q : V → St → Prop} {E : X → St → Prop} {G : Gh} {s : Shared} {x y v : V} {i j : Nat} {k : Int} {A : Around} {xs : List V}
theorem wpAny_subTail {E : Value → Shared → Prop} {value slice : PySem.Expr} {o i : Value} {T id : String} {Q : Value → Shared → Prop} (hT : s.TypeIs o T)
  (hl : typeLookup (.type T) "__getitem__" = pure (some (.builtin id))) {vs : List Value} (hs : subscripted slice false o i = operate vs (getItem o i)) (h : wpAny K.c.M A (getItem o i) Q E s) :
  wpAny K.c.M A (do let r ← subscripted slice (← getitemInPython o) o i; letTemporaryGo value o r; pure r) Q E s := by
 have fin : wpAny K.c.M A (subscripted slice false o i) (fun r s₃ => wpAny K.c.M A (letTemporaryGo value o r >>= fun _ => pure r) Q E s₃) E s := by
  rw [hs]
  exact wpAny_operating (wpAny_mono h (fun r s₃ h₃ => wpAny_bind (wpAny_letTemporaryGo (wpAny_pure h₃))) fun _ _ x => x)
 refine wpAny_bind ?_
 rw [getitemInPython_of_ne hT.not_modules]
 refine wpAny_bind (wpAny_specialOf hT hl ?_)
 first
  | exact wpAny_pure (wpAny_bind fin)
  | exact wpAny_bind (wpAny_pure (wpAny_bind fin))
  | exact wpAny_bind fin
noncomputable def IG (K : Kx) (o k : V) (st : St) (Q : V → St → Prop) (E : X → St → Prop) : Prop := ∀ value slice a b, (∀ o i, subscripted slice false o i = operate [o, i] (getItem o i)) →
 Run K (fun G => VR G o a ∧ VR G k b) (do let r ← subscripted slice (← getitemInPython a) a b; letTemporaryGo value a r; pure r) RV st Q E
theorem x_item {o i : PySem.Expr} {p : Pos} (hs : ∀ o k, subscripted i false o k = operate [o, k] (getItem o k)) (h : EX K o st (fun u st => EX K i st (fun k st => IG K u k st Q E) E) E) : EX K (.Subscript o i p) st Q E := by
 unfold EX
 rw [arm_eval_Subscript]
 exact Run.bind up_true (h.imp fun u st q w => Run.bind (up_and up_true up_VR) ((q.any.imp fun k st q kw => ((q o i w kw hs).pre fun _ h => ⟨h.1.2, h.2⟩).standAt).holding))
theorem idx63 {n : Nat} (h : k.toNat < n) (hn : n ≤ lim) : k < 2 ^ 63 := by unfold lim at hn; omega
theorem item_list {l : Addr} {vs : List Value} {t : Tok} {QQ EE : Value → Shared → Prop} (hl : s.heap.IsList l vs.toArray) (r : VRs G xs vs) (hlim : xs.length ≤ lim) (h0 : 0 ≤ k) (hx : xs[k.toNat]? = some x) (hq : ∀ v, VR G x v → QQ v s) : wpAny K.c.M A (getItem (.ref l) (.int k t)) QQ EE s := by
 obtain ⟨v, hv, hvr⟩ := r.get hx
 have hlt := (List.getElem?_eq_some_iff.mp hx).1
 exact wpAny_getItem_list hl h0 (idx63 hlt hlim) (by rw [List.getElem?_toArray]; exact hv) (hq v hvr)
theorem g_lst (hlim : xs.length ≤ lim) (h0 : 0 ≤ k) (hx : xs[k.toNat]? = some x) (q : Q x st) : IG K (.lst xs) (.int k) st Q E := by
 intro value slice a b hs A G s QQ EE ok hP hI _ H
 obtain ⟨l, vs, rfl, z, r⟩ := lst_inv hP.1
 obtain ⟨t, rfl⟩ := num_inv hP.2 rfl
 exact wpAny_subTail (hI.lst z).typeIs slot_list_getitem.lookup (hs _ _) (item_list (hI.lst z) r hlim h0 hx fun u hu => H.here q hI hu)
theorem ListAt.isList {h : Heap} {a : Addr} {vs : List Value} {n : Nat} (e : h.get? a = some ⟨.type "list", none, .seq vs.toArray n, #[]⟩) : h.IsList a vs.toArray := ⟨_, e, rfl, n, rfl⟩
theorem g_last (h : st.σ[i]? = some (.list xs)) (hlim : xs.length ≤ lim) (hx : xs.getLast? = some x) (q : Q x st) : IG K (.obj i) (.int (-1)) st Q E := by
 intro value slice a b hs
 refine on_obj (K := K) (P := fun G => VR G (.int (-1)) b) (t := fun a => do let r ← subscripted slice (← getitemInPython a) a b; letTemporaryGo value a r; pure r) h (fun a A G s QQ EE ok hP ha hO hI _ H => ?_) a
 obtain ⟨t, rfl⟩ := num_inv hP rfl
 cases hO with | mk vs n e r => ?_
 rw [List.getLast?_eq_getElem?] at hx
 obtain ⟨u, hu, hur⟩ := r.get hx
 have hlt := (List.getElem?_eq_some_iff.mp hx).1
 have hlen := r.length
 refine wpAny_subTail (ListAt.isList e).typeIs slot_list_getitem.lookup (hs _ _) (wpAny_getItem_list_neg (ListAt.isList e) (by decide) (by rw [List.size_toArray, ← hlen]; exact Int.neg_le_neg (Int.ofNat_le.mpr (Nat.lt_of_le_of_lt (Nat.zero_le _) hlt))) (by decide) (x := u) ?_ (H.here q hI hur))
 have e : ((-1 : Int) + (vs.toArray.size : Int)).toNat = xs.length - 1 := by rw [List.size_toArray, Int.add_comm, hlen]; exact Int.toNat_sub vs.length 1
 rw [e, List.getElem?_toArray]
 exact hu
theorem g_tup (hlim : xs.length ≤ lim) (h0 : 0 ≤ k) (hx : xs[k.toNat]? = some x) (q : Q x st) : IG K (.tup xs) (.int k) st Q E := by
 intro value slice a b hs A G s QQ EE ok hP hI _ H
 obtain ⟨l, vs, rfl, z, r⟩ := tup_inv hP.1
 obtain ⟨t, rfl⟩ := num_inv hP.2 rfl
 obtain ⟨u, hu, hur⟩ := r.get hx
 have hlt := (List.getElem?_eq_some_iff.mp hx).1
 have hlen := r.length
 obtain ⟨n, ho⟩ := hI.fz z
 have ht : PyProof.Rows.IsTup s.heap l vs.toArray := ⟨_, ho, rfl, n, rfl⟩
 refine wpAny_subTail ht.typeIs slot_tuple_getitem.lookup (hs _ _) (PyProof.Rows.getItem_tuple ht (Int.le_trans (by decide) h0) (idx63 hlt hlim) (j := k.toNat) ?_ (by rw [List.getElem?_toArray]; exact hu) (H.here q hI hur))
 unfold seqIndex?
 rw [if_neg (Int.not_lt.mpr h0), if_pos (by simp only [Bool.and_eq_true, decide_eq_true_eq, List.size_toArray]; exact ⟨h0, (Int.toNat_lt h0).mp (hlen ▸ hlt)⟩)]
theorem g_dict {es : List (Int × V)} (h : st.σ[i]? = some (.dict es)) (hx : findG es k = some x) (q : Q x st) : IG K (.obj i) (.int k) st Q E := by
 intro value slice a b hs
 refine on_obj (K := K) (P := fun G => VR G (.int k) b) (t := fun a => do let r ← subscripted slice (← getitemInPython a) a b; letTemporaryGo value a r; pure r) h (fun a A G s QQ EE ok hP ha hO hI _ H => ?_) a
 obtain ⟨t, rfl⟩ := num_inv hP rfl
 cases hO with | mk z kvs hD r => ?_
 obtain ⟨u, hu, hur⟩ := r.find_some hx
 exact wpAny_subTail hD.typeIs slot_dict_getitem.lookup (hs _ _) (wpAny_getItem_of (knd := intKind K.c.prog K.c.w) (intKind_is _ _ k t) hD.mapOf hu (H.here q (hI.toks (Nat.le_succ _)) hur))
theorem g_fdict {es : List (Int × V)} (h : st.σ[i]? = some (.fdict es)) (hx : findG es k = some x) (q : Q x st) : IG K (.obj i) (.int k) st Q E := by
 intro value slice a b hs
 refine on_obj (K := K) (P := fun G => VR G (.int k) b) (t := fun a => do let r ← subscripted slice (← getitemInPython a) a b; letTemporaryGo value a r; pure r) h (fun a A G s QQ EE ok hP ha hO hI _ H => ?_) a
 obtain ⟨t, rfl⟩ := num_inv hP rfl
 cases hO with | mk z des ep kvs k0 k1 k2 k3 r => ?_
 have hD := fdict_of hI k0 k1 k2 k3
 obtain ⟨u, hu, hur⟩ := r.find_some hx
 exact wpAny_subTail hD.typeIs slot_dict_getitem.lookup (hs _ _) (wpAny_getItem_of (knd := intKind K.c.prog K.c.w) (intKind_is _ _ k t) hD.mapOf hu (H.here q (hI.toks (Nat.le_succ _)) hur))
theorem mapSeq_plain (f : Array Value → Array Value) (its : Array Value) (k : Nat) : ∃ k', Obj.mapSeq f ⟨.type "list", none, .seq its k, #[]⟩ = ⟨.type "list", none, .seq (f its) k', #[]⟩ := by
 unfold Obj.mapSeq
 exact ⟨_, rfl⟩
theorem mapSeq_list {h : Heap} {a : Addr} {its : Array Value} {k : Nat} (f : Array Value → Array Value) (ho : h.get? a = some ⟨.type "list", none, .seq its k, #[]⟩) :
  ∃ k', (h.update a (Obj.mapSeq f)).get? a = some ⟨.type "list", none, .seq (f its) k', #[]⟩ :=
 (mapSeq_plain f its k).imp fun k' e => by rw [Heap.get?_update_self _ ho (by rw [e]; rfl), e]
theorem i_list {Q : Unit → St → Prop} (h : σ[i]? = some (.list xs)) (h0 : 0 ≤ k) (hk : k.toNat < xs.length) (hlim : xs.length ≤ lim) (q : Q () ⟨ρ, σ.set i (.list (xs.set k.toNat v))⟩) : IS K (.obj i) (.int k) v ⟨ρ, σ⟩ Q E := by
 intro a b u
 refine on_obj (K := K) (P := fun G => VR G (.int k) b ∧ VR G v u) (t := fun a => setItem a b u) h (fun a A G s QQ EE ok hP ha hO hI _ H => ?_) a
 obtain ⟨t, rfl⟩ := num_inv hP.1 rfl
 cases hO with | mk vs n e r => ?_
 have hlen := r.length
 obtain ⟨k', ek⟩ := mapSeq_list (fun xs => xs.setIfInBounds k.toNat u) e
 exact ki_setAt (n := n) e h0 (idx63 hk hlim) (by rw [List.size_toArray]; exact (Int.toNat_lt h0).mp (hlen ▸ hk))
  (H.here q (hI.setSt (tk := s.toks) ha h rfl (Heap.SameBut.update ..).extBut ⟨vs.set k.toNat u, k', by rw [ek, List.setIfInBounds_toArray], r.set hP.2⟩ ⟨_, ek⟩ (Nat.le_refl _)) trivial)
theorem dict_live {c : Cx} {h : Heap} {a : Addr} {kvs : List (Int × Value)} (hD : h.DictOf (intKind c.prog c.w) a kvs) : ∃ o, h.get? a = some o := by
 obtain ⟨o, _, _, ho, _⟩ := hD
 exact ⟨o, ho⟩
theorem i_dict {Q : Unit → St → Prop} {es : List (Int × V)} (h : σ[i]? = some (.dict es)) (hl : es.length < lim) (q : Q () ⟨ρ, σ.set i (.dict (putG es k v))⟩) : IS K (.obj i) (.int k) v ⟨ρ, σ⟩ Q E := by
 intro a b u
 refine on_obj (K := K) (P := fun G => VR G (.int k) b ∧ VR G v u) (t := fun a => setItem a b u) h (fun a A G s QQ EE ok hP ha hO hI _ H => ?_) a
 obtain ⟨t, rfl⟩ := num_inv hP.1 rfl
 cases hO with | mk z kvs hD r => ?_
 exact wpAny_setItem_pairs (knd := intKind K.c.prog K.c.w) (k := k) (intKind_is _ _ k t) hD (fun h' hD' hs => H.here q (hI.setSt ha h rfl hs.extBut ⟨z, _, hD', r.put k hP.2⟩ (dict_live hD') (Nat.le_succ _)) trivial) (by rw [r.len]; exact lim_fits (Nat.le_of_lt hl))
theorem x_listO {es : List PySem.Expr} {p : Pos} (h : AR K es st (fun vs st => vs.length ≤ lim ∧ Q (.obj st.σ.length) ⟨st.ρ, st.σ ++ [.list vs]⟩) E) : EX K (.List es p) st Q E := by
 unfold EX
 rw [arm_eval_List]
 refine (Run.bind (R₁ := RVs) up_true ((h p).imp fun vs st q ws => ?_)).standAt
 intro A G s QQ EE ok hp hI _ H
 refine wpAny_newList ?_ (by rw [← hp.2.length]; exact lim_fits q.1)
 exact (hI.newObj hp.2).elim fun G' h => H.ok _ _ _ _ _ q.2 h.1 h.2.1 h.2.2
theorem Inv.pushSt {c : Cx} {F : Fm} (hI : Inv c F G ρ σ s) {o : O} {ob : Obj} {tk : Nat} (hp : ORs c (G.addSt s.heap.objs.size σ.length) (s.heap.push ob) s.heap.objs.size o) (hf : ob.isFreed = false) (ht : s.toks ≤ tk) :
  G.le (G.addSt s.heap.objs.size σ.length) ∧ Inv c F (G.addSt s.heap.objs.size σ.length) ρ (σ ++ [o]) { s with heap := s.heap.push ob, toks := tk } :=
 hI.addSt (get_size _) (keep_push _ _) hp ⟨_, Heap.get?_push_size _ hf⟩ ht
theorem x_dictO {p : Pos} (q : Q (.obj σ.length) ⟨ρ, σ ++ [.dict []]⟩) : EX K (.Dict [] [] p) ⟨ρ, σ⟩ Q E := by
 intro A G s QQ EE ok _ hI _ H
 refine wpAny_Dict_empty ?_
 have hD : (s.heap.push { cls := .type "dict", data := .dict #[] }).DictOf (intKind K.c.prog K.c.w) s.heap.objs.size [] := Heap.DictOf.new _
 exact (hI.pushSt (ob := { cls := .type "dict", data := .dict #[] }) (o := .dict []) (tk := s.toks) ⟨Nat.ne_of_gt (modules_low (ok.hc.nolimit.keeps hI.keep)), [], hD, rfl⟩ rfl (Nat.le_refl _)).elim fun h1 h2 => H.ok _ _ _ _ _ q h1 h2 (VR_obj (Gh.own_addSt _ _ _))
theorem VRs_replicate {w : Value} (h : VR G v w) : ∀ k : Nat, VRs G (List.replicate k v) (List.replicate k w)
 | 0 => VRs.nil
 | k + 1 => VRs.cons h (VRs_replicate h k)
theorem rep_flat (w : Value) : ∀ k : Nat, (List.replicate k [w]).flatten = List.replicate k w
 | 0 => rfl
 | k + 1 => by rw [List.replicate_succ, List.replicate_succ, List.flatten_cons, rep_flat w k]; rfl
theorem o_rep (h0 : 0 ≤ k) (hk : k ≤ 10000) (q : Q (.obj σ.length) ⟨ρ, σ ++ [.list (List.replicate k.toNat v)]⟩) : OX K .Mult (.lst [v]) (.int k) ⟨ρ, σ⟩ Q E := by
 intro va vb A G s QQ EE ok hP hI _ H
 obtain ⟨t, vs, rfl, z, r⟩ := lst_inv hP.1
 obtain ⟨w, us, rfl, hv, r'⟩ := r.cons_inv
 cases r'.nil_inv
 obtain ⟨u, rfl⟩ := num_inv hP.2 rfl
 obtain ⟨m, ho⟩ := hI.fz z
 have hz1 : ([w] : List Value).toArray.size = 1 := rfl
 refine wpAny_binaryOp_repeat_ref (T := "list") (U := "int") (by decide) ⟨_, ho, rfl⟩ (fun s' => typeIs_int s' k u) noFill_list_mul PySem.F.fills_int_mul PySem.F.slot_int_rmul repeat_list PySem.F.slot_int_index.lookup
  (call_meets PySem.F.slot_int_rmul (typeIs_int s k u) PySem.F.entry_int_rmul (PySem.F.args_int_rmul_2 _ _) (lm_int_rmul_list_any k u t [w].toArray m none #[])
   ⟨ho, rfl, ⟨_, ho, rfl⟩, call_meets PySem.F.slot_list_mul ⟨_, ho, rfl⟩ PySem.F.entry_list_mul (PySem.F.args_list_mul_2 _ _)
    (lm_list_mul_any t [w].toArray m none #[] k u (by simp [Builtin.List.listFitsIndex]; omega) (by rw [hz1]; omega) (by rw [hz1]; simp [Builtin.List.listTooLong, sizeLine]; omega))
    ⟨ho, ?_⟩⟩)
 rw [listMul_foldl_if, rep_flat]
 exact (hI.newObj (VRs_replicate hv k.toNat)).elim fun G' h => H.ok _ _ _ _ _ q h.1 h.2.1 h.2.2
end
end Mine
end
section
namespace Mine
open PySem PySem.W PyProof.Rows PySem.SeqAt
section
variable {K : Kx} {P : Gh → Prop} {st : St} {ρ : Str → Option V} {σ σ' : List O} {E : X → St → Prop} {G : Gh} {s : Shared} {x y v w : V} {i j : Nat} {k : Int} {A : Around} {xs : List V} {c : Cx} {F : Fm}
noncomputable def SG (K : Kx) (o k : V) (st : St) (Q : V → St → Prop) (E : X → St → Prop) : Prop := ∀ (value : PySem.Expr) lower p p2 a b A G s QQ EE, K.Ok A → VR G o a → VR G k b → K.Inv G st s → PassesOwn K.c.M A K.F.env EE → Ends K G RV Q E QQ EE →
 wpAny K.c.M A (newFields "slice" [b, .none, .none]) (fun i s' => wpAny K.c.M A (do PySem.standAt p2; let r ← subscripted (.Slice lower none none p) (← getitemInPython a) a i; letTemporaryGo value a r; pure r) QQ EE s') EE s
theorem x_slice {Q : V → St → Prop} {o lo : PySem.Expr} {p q : Pos} (h : EX K o st (fun u st => EX K lo st (fun k st => SG K u k st Q E) E) E) : EX K (.Subscript o (.Slice (some lo) none none q) p) st Q E := by
 unfold EX
 rw [arm_eval_Subscript]
 refine Run.bind up_true (h.imp fun u st q w => fun A G s QQ EE ok hp hI hE H => ?_)
 refine wpAny_bind (wpAny_holding ?_)
 rw [arm_eval_Slice]
 refine wpAny_bind (q A G s _ EE ok trivial hI hE ⟨fun k st' G' b s' q' hg hI' hv => ?_, H.ex⟩)
 exact wpAny_bind (wpAny_holding (wpAny_pure (wpAny_bind (wpAny_holding (wpAny_pure (q' _ _ _ _ _ _ A G' s' QQ EE ok (hp.2.mono hg) hv hI' hE (H.up hg)))))))
theorem sg_list {Q : V → St → Prop} {n : Nat} (h : st.σ[i]? = some (.list xs)) (hn : n ≤ xs.length) (hlim : xs.length ≤ lim) (q : Q (.lst (xs.drop n)) st) : SG K (.obj i) (.int (n : Int)) st Q E := by
 intro value lower p p2 a b A G s QQ EE ok ha hb hI hE H
 obtain ⟨d, rfl, hd⟩ := obj_inv ha
 obtain ⟨t, rfl⟩ := num_inv hb rfl
 cases hI.own_at hd h with | mk vs n' e r => ?_
 have hl : s.heap.IsList d vs.toArray := ⟨_, e, rfl, n', rfl⟩
 have hlen := r.length
 refine wpAny_newObj_type (wpAny_bind (wpAny_standAt ?_))
 refine wpAny_subTail (hl.push _).typeIs slot_list_getitem.lookup (vs := [_, _]) rfl ?_
 refine wpAny_getItem_list_slice (hl.push _) (Heap.IsSliceOf.new ..) (.int _ t) .none .none (by simp) ?_ (by rw [List.size_toArray, ← hlen]; exact lim_fits hlim)
 rw [slicePick_from _ _ (by rw [List.size_toArray]; omega)]
 have hI' : Inv K.c K.F G st.ρ st.σ { s with heap := s.heap.push { cls := .type "slice", data := .fields #[.int n t, .none, .none] } } := hI.ext (keep_push _ _) (Nat.le_refl _)
 exact (hI'.newLst (r.drop n)).elim fun G' g => H.ok _ _ _ _ _ q g.1 g.2.1 g.2.2
theorem KVs.without {κ : Type} [DecidableEq κ] {G : Gh} {n : κ} : ∀ {es : List (κ × V)} {kvs : List (κ × Value)}, KVs G es kvs → KVs G (es.filter fun e => decide (e.1 ≠ n)) (kvs.filter fun e => decide (e.1 ≠ n))
 | [], _, h => congrArg (List.filter _) h
 | e :: es, _, ⟨v, us, q, h, r⟩ => by
  subst q
  rw [List.filter_cons, List.filter_cons]
  split
  ·exact ⟨v, _, rfl, h, r.without⟩
  ·exact r.without
noncomputable def DX (K : Kx) (o k : V) (st : St) (Q : Unit → St → Prop) (E : X → St → Prop) : Prop := ∀ a b, Run K (fun G => VR G o a ∧ VR G k b) (delItem a b) (fun _ _ _ => True) st Q E
theorem d_dict {Q : Unit → St → Prop} {es : List (Int × V)} (h : σ[i]? = some (.dict es)) (hlim : es.length ≤ lim) (hx : findG es k = some x) (q : Q () ⟨ρ, σ.set i (.dict (es.filter fun e => decide (e.1 ≠ k)))⟩) : DX K (.obj i) (.int k) ⟨ρ, σ⟩ Q E := by
 intro a b
 refine on_obj (K := K) (P := fun G => VR G (.int k) b) (t := fun a => delItem a b) h (fun a A G s QQ EE ok hP ha hO hI _ H => ?_) a
 obtain ⟨t, rfl⟩ := num_inv hP rfl
 cases hO with | mk z kvs hD r => ?_
 obtain ⟨v, hv, _⟩ := r.find_some hx
 exact wpAny_delItem_slot hD.typeIs (by decide) PySem.F.slot_dict_delitem (call_meetsIn PySem.F.slot_dict_delitem hD.typeIs PySem.F.entry_dict_delitem (PySem.F.args_dict_delitem_2 _ _)
  (meets_dict_delitem_pairs (intKind K.c.prog K.c.w) a (intKind_is _ _ k t)) ⟨kvs, hD, by rw [r.len]; exact lim_fits hlim, by rw [hv]; rfl, fun h' hD' hs => H.here q (hI.setSt ha h rfl hs.extBut ⟨z, _, hD', r.without⟩ (dict_live hD') (Nat.le_succ _)) trivial⟩)
theorem del_eq (o i : PySem.Expr) (p q : Pos) (env : Env) : exec (.Delete [.Subscript o i q] p) env = (do PySem.standAt p; let ov ← eval o env; let iv ← holding [ov] (eval i env); PySem.standAt q; (do holding [ov, iv] (delItem ov iv); release [ov, iv] []; deleteEach [] env; pure Flow.next)) := by
 rw [arm_exec_Delete]
 show (do PySem.standAt p; (do (do delete (.Subscript o i q) env; deleteEach [] env); pure Flow.next) : Sem Flow) = _
 rw [arm_delete_Subscript]
 simp only [bind_assoc]
theorem s_del {Q : Fl → St → Prop} {o i : PySem.Expr} {p q : Pos} (h : EX K o st (fun u st => EX K i st (fun k st => DX K u k st (fun _ st => Q .next st) E) E) E) : SX K (.Delete [.Subscript o i q] p) st Q E := by
 unfold SX
 rw [del_eq]
 refine (Run.bind up_true (h.imp fun u st q uw => Run.bind (up_and up_true up_VR) ((q.any.imp fun k st q kw => ?_).holding))).standAt
 have tail : ∀ (P : Gh → Prop) st, Q .next st → Run K P (do release [uw, kw] []; deleteEach [] K.F.env; pure Flow.next) FlowR st Q E := fun P st q A G s QQ EE ok hp hI hE H => wpAny_bind (wpAny_release (wpAny_bind (wpAny_pure (wpAny_pure (H.here q hI (rfl : Flow.next = .next))))))
 exact (Run.bind (R₁ := fun _ _ _ => True) (up_and (up_and up_true up_VR) up_VR) (((q uw kw).pre fun _ h => ⟨h.1.2, h.2⟩).holding.imp fun _ st q _ => tail _ st q)).standAt
inductive Frz : V → List O → V → List O → Prop
 | list {i : Nat} {xs : List V} {σ : List O} (h : σ[i]? = some (.list xs)) : Frz (.obj i) σ (.lst xs) (σ.set i (.flist xs))
 | flist {i : Nat} {xs : List V} {σ : List O} (h : σ[i]? = some (.flist xs)) : Frz (.obj i) σ (.lst xs) σ
 | tup {v u w : V} {σ σ' : List O} (h : Frz v σ w σ') : Frz (.tup [v, u]) σ (.tup [w, u]) σ'
theorem Inv.fixList (hI : Inv c F G ρ σ s) {a : Addr} {i : Nat} (ha : G.own a = some (.st i)) (h : σ[i]? = some (.list xs)) : ∃ G' vs, G.le G' ∧ Inv c F G' ρ (σ.set i (.flist xs)) s ∧ G'.fz a = some (.lst vs) ∧ VRs G' xs vs := by
 cases hI.own_at ha h with | mk vs n' e r => ?_
 have hfz : G.fz a = none := hI.ok.elim fun _ R => R.1.not_fz ha h rfl
 have hle : G.le (G.putFz a (.lst vs)) := Gh.le_putFz hfz
 have h1 := hI.fix (o' := .flist xs) (k := .lst vs) ha h rfl rfl ⟨n', e⟩ ⟨vs, Gh.fz_putFz _ _ _, r.mono hle⟩
 exact ⟨_, vs, h1.1, h1.2, Gh.fz_putFz _ _ _, r.mono h1.1⟩
theorem Frz.run {v w : V} {σ σ' : List O} (h : Frz v σ w σ') : ∀ {G : Gh} {b : Value}, Inv c F G ρ σ s → VR G v b → ∃ G', G.le G' ∧ Inv c F G' ρ σ' s ∧ VR G' w b := by
 induction h with
 | list h =>
  intro G b hI hv
  obtain ⟨a, rfl, ha⟩ := obj_inv hv
  exact (hI.fixList ha h).elim fun G' g => g.elim fun vs g => ⟨G', g.1, g.2.1, VR_lst g.2.2.1 g.2.2.2⟩
 | flist h =>
  intro G b hI hv
  obtain ⟨a, rfl, ha⟩ := obj_inv hv
  cases hI.own_at ha h with | mk vs k r => exact ⟨G, Gh.le.refl _, hI, VR_lst k r⟩
 | tup h ih =>
  intro G b hI hv
  obtain ⟨l, vs, rfl, k, r⟩ := tup_inv hv
  obtain ⟨w', us, rfl, h1, r1⟩ := r.cons_inv
  exact (ih hI h1).elim fun G' g => ⟨G', g.1, g.2.1, VR_tup (g.1.fz _ _ k) (VRs.cons g.2.2 (r1.mono g.1))⟩
theorem x_frz {Q : V → St → Prop} {e : PySem.Expr} (h : EX K e st (fun v st => ∃ w σ', Frz v st.σ w σ' ∧ Q w ⟨st.ρ, σ'⟩) E) : EX K e st Q E :=
 fun A G s QQ EE ok hp hI hE H => h A G s QQ EE ok hp hI hE ⟨fun v st G' b s' q hg hI' hv => q.elim fun w q => q.elim fun σ' q => (q.1.run hI' hv).elim fun G₂ g => H.ok w ⟨st.ρ, σ'⟩ G₂ b s' q.2 (hg.trans g.1) g.2.1 g.2.2, H.ex⟩
theorem s_ret {Q : Fl → St → Prop} {e : PySem.Expr} {p : Pos} (h : EX K e st (fun v st => Q (.ret v) st) E) : SX K (.Return (some e) p) st Q E := by
 unfold SX
 rw [arm_exec_Return]
 show Run K _ (do PySem.standAt p; let v ← eval e K.F.env; pure (.ret v)) FlowR st Q E
 exact (Run.bind up_true (h.imp fun v st q w => Run.pure (a := Fl.ret v) (R := FlowR) (fun G h => ⟨w, rfl, h.2⟩) q)).standAt
theorem ta_two {Q : Unit → St → Prop} {a b : PySem.Expr} {x1 : Nat} {p : Pos} (hc : K.calm = true) (he : ∀ env, assignEach [a, b] env = [(false, assign a env), (false, assign b env)]) (h : TA K a v st (fun _ st => TA K b w st Q E) E) : TA K (.Tuple [a, b] x1 p) (.tup [v, w]) st Q E := by
 intro u
 rw [arm_assign_Tuple]
 refine Run.standAt fun A G s QQ EE ok hP hI hE H => ?_
 obtain ⟨t, vs, rfl, ht, r⟩ := tup_inv hP
 obtain ⟨va, us, rfl, h1, r1⟩ := r.cons_inv
 obtain ⟨vb, us, rfl, h2, r2⟩ := r1.cons_inv
 cases r2.nil_inv
 rw [he]
 refine wpAny_unpack_tuple (ok.hA.handled hc) (hI.tup ht) rfl rfl fun h' hx => ?_
 have hI' : K.Inv G st { s with heap := h' } := hI.ext (fun b o e => hx b o (Nat.ne_of_lt (Heap.lt_size e)) e) (Nat.le_refl _)
 exact wpAny_bind (wpAny_holding (h va A G _ _ EE ok h1 hI' hE ⟨fun _ st₁ G₁ _ s₁ q hg hI₁ _ => wpAny_bind (wpAny_holding (q vb A G₁ s₁ _ EE ok (h2.mono hg) hI₁ hE ⟨fun _ st₂ G₂ _ s₂ q hg₂ hI₂ _ => wpAny_pure (H.ok _ _ _ _ _ q (hg.trans hg₂) hI₂ trivial), (H.up hg).ex⟩)), H.ex⟩))
end
end Mine
end
section
namespace Mine
open PySem PySem.W PyProof.Rows PySem.SeqAt
inductive ExcMade (h h' : Heap) (e : Addr) (cls : Value) : Prop
 | mk (keep : ∀ b o, h.get? b = some o → h'.get? b = some o) (new : h.get? e = none) (oe : Obj) (vs : Array Value) (a0 : Value) (h1 : h'.get? e = some oe) (h2 : oe.cls = cls) (h3 : oe.data = .fields vs) (h4 : vs[0]? = some a0) (h5 : vs[1]? = some .none)
section
variable {K : Kx} {P : Gh → Prop} {st : St} {ρ : Str → Option V} {σ σ' : List O} {E : X → St → Prop} {G : Gh} {s : Shared} {x : X} {v w : V} {A : Around} {c : Cx} {F : Fm}
theorem frame_x {xs : List XE} (R : Rel c G xs σ s) (f : FR F G ρ xs) {b : Addr} (hb : isFrame F.frs b) : b ∈ xs.map (·.1) ∧ G.own b = none := by
 obtain ⟨env, he, hfr⟩ := List.mem_filterMap.mp hb
 obtain ⟨_, L, m, hL, hm⟩ := f.frs env he
 rw [hL] at hfr; cases hfr
 exact ⟨List.mem_map_of_mem (f := Prod.fst) hm, (R.xsc _ hm).1⟩
theorem fun_frames {xs : List XE} {h' : Heap} (R : Rel c G xs σ s) (f : FR F G ρ xs) (hk : ∀ b o, s.heap.get? b = some o → h'.get? b = some o) : ∀ l : List Env, (∀ env ∈ l, env ∈ F.frs) → Heap.FunFrames h' (hideAll s.heap (F.frs.filterMap (·.frame))) l
 | [], _ => trivial
 | env :: l, hl => by
  obtain ⟨h6, L, m, hL, hm'⟩ := f.frs env (hl env List.mem_cons_self)
  obtain ⟨_, ob, ho, es, ep, hd, _⟩ := R.xsc _ hm'
  exact ⟨h6, ⟨L, ob, hL, hideAll_none _ (List.mem_filterMap.mpr ⟨env, hl env List.mem_cons_self, hL⟩), hk _ _ ho, fun vs q => by rw [hd] at q; cases q⟩, fun_frames R f hk l fun e he => hl e (List.mem_cons_of_mem _ he)⟩
theorem Exn.of_made (hI : Inv c F G ρ σ s) {h' : Heap} {e : Addr} {tk : Nat} (hm : ExcMade s.heap h' e (clsOf c x)) (ht : s.toks ≤ tk) : Exn c F G ρ σ x (.ref e) { s with heap := h', toks := tk } := by
 obtain ⟨xs, R, f⟩ := hI.ok
 cases hm with | mk keep new oe vs a0 h1 h2 h3 h4 h5 => ?_
 refine ⟨xs, hideAll s.heap (F.frs.filterMap (·.frame)), e, a0, rfl, R.ext keep ht, f, fun b o q => keep _ _ (of_hideAll _ q), ?_, fun b o hb hcase => ?_, fun_frames R f keep F.frs fun _ h => h, .inl ⟨oe, vs, h1, h2, h3, h4, h5⟩⟩
 ·cases q : (hideAll s.heap (F.frs.filterMap (·.frame))).get? e with
  | none => rfl
  | some o => have := of_hideAll _ q; rw [new] at this; cases this
 ·have nf : ¬ isFrame F.frs b := fun q => by
   rcases hcase with hc | hc | ⟨_, hc⟩
   ·obtain ⟨o', ho'⟩ := Option.isSome_iff_exists.mp hc
    have := R.baseOwn _ _ ho'
    rw [(frame_x R f q).2] at this; cases this
   ·rw [(frame_x R f q).2] at hc; cases hc
   ·exact hc q
  obtain ⟨o', ho'⟩ : ∃ o', s.heap.get? b = some o' := by
   rcases hcase with hc | hc | ⟨hc, _⟩
   ·obtain ⟨o', ho'⟩ := Option.isSome_iff_exists.mp hc
    exact ⟨o', R.keep _ _ ho'⟩
   ·obtain ⟨k, hk⟩ := Option.isSome_iff_exists.mp hc
    exact R.live b k hk
   ·obtain ⟨e', he', rfl⟩ := List.mem_map.mp hc
    obtain ⟨_, ob, ho, _⟩ := R.xsc e' he'
    exact ⟨ob, ho⟩
  have := keep _ _ ho'
  dsimp only at hb
  rw [hb] at this; cases this
  exact hideAll_get _ ho' nf
theorem Exn.inv {e : Value} (h : Exn c F G ρ σ x e s) : Inv c F G ρ σ s := by cases h with | mk xs B a a0 h1 R f => exact ⟨xs, R, f⟩
theorem Exn.there {e : Value} (h : Exn c F G ρ σ x e s) : ∃ a o, e = .ref a ∧ s.heap.get? a = some o ∧ o.cls = clsOf c x := by
 obtain ⟨xs, B, a, a0, rfl, R, f, h2, h3, h4, h5, h6⟩ := h
 rcases h6 with ⟨oe, vs, e1, e2, _⟩ | ⟨oe, vs, T, oT, ts, e1, e2, _⟩
 ·exact ⟨a, oe, rfl, e1, e2⟩
 ·exact ⟨a, oe, rfl, e1, e2.1⟩
theorem Exn.stopIs {e : Value} (h : Exn c F G ρ σ .stop e s) : s.TypeIs e "StopIteration" := by
 obtain ⟨a, o, rfl, e1, e2⟩ := h.there
 exact ⟨o, e1, e2⟩
theorem wpAny_stop {M : Model} {α : Type} {Q : α → Shared → Prop} {E : Value → Shared → Prop} (hh : A.handled = none)
  (h : ∀ h' e, ExcMade s.heap h' e (.type "StopIteration") → E (.ref e) { s with heap := h' }) : wpAny M A (newExc (.type "StopIteration") [] >>= fun e => (raiseNew e : Sem α)) Q E s := by
 refine wpAny_bind ?_
 simp only [newExc, newTuple]
 refine wpAny_bind (wpAny_newObj_type ?_ (by size_fits))
 refine wpAny_bind (m := firstArgMember _ _) (wpAny_of_eq (a := Value.none) (by first | rfl | (simp only [firstArgMember]; rfl)) ?_)
 refine wpAny_newObj_type ?_ (by size_fits)
 refine wpAny_raiseNew_none hh (h _ _ ?_)
 have h0 : ∀ (own : Array Value) (x : Value), (#[x, .none, .none, .none, .bool false, .none] ++ own)[0]? = some x := fun own x => by rw [Array.getElem?_append_left (by simp)]; rfl
 have h1 : ∀ (own : Array Value) (x : Value), (#[x, .none, .none, .none, .bool false, .none] ++ own)[1]? = some Value.none := fun own x => by rw [Array.getElem?_append_left (by simp)]; rfl
 exact .mk (fun b o hb => Heap.get?_push_of_some _ (Heap.get?_push_of_some _ hb)) (Heap.get?_none_of_le (by simp)) _ _ _ (Heap.get?_push_size _ rfl) rfl rfl (h0 _ _) (h1 _ _)
noncomputable def cycBases : List Value := [.type "ValueError", .type "Exception", .type "BaseException", .type "object"]
noncomputable def CycAt (c : Cx) (a : Addr) : Prop := OwnCls ("CycleError" : Str) a cycBases "ValueError.__new__" c.mg c.base
theorem clsOf_cycle {a : Addr} (h : CycAt c a) : clsOf c .cycle = .ref a := by
 unfold clsOf
 rw [h.bound]; rfl
theorem s_raiseStop {Q : Fl → St → Prop} {nm : Str} {np pos : Pos} (hc : K.calm = true) (h : (isGI (K.sc.names.lookup nm) && nDbg nm) = true) (hw : GlobAt K.c nm (.type "StopIteration")) (q : E .stop st) : SX K (.Raise (some (.Name nm np)) none pos) st Q E := by
 intro A G s QQ EE ok hp hI hE H
 refine owsi_raiseC (ok.hA.handled hc) (wpAny_glob ok.hF ok.hc hI (ok.hs ▸ h) hw ⟨rfl, rfl⟩) fun h' e hm => ?_
 obtain ⟨t, ht, _⟩ := hm.there
 exact H.ex .stop st G (.ref e) _ q (Gh.le.refl _) (Exn.of_made (tk := s.toks) hI (.mk hm.keeps hm.new _ _ _ ht rfl rfl rfl rfl) (Nat.le_refl _))
theorem s_raiseCyc {Q : Fl → St → Prop} {C : Addr} {nm : Str} {as : List PySem.Expr} {np cpos pos : Pos} (hc : K.calm = true) (hx : CycAt K.c C) (h : (isGI (K.sc.names.lookup nm) && nDbg nm) = true) (hw : GlobAt K.c nm (.ref C))
  (hs : ∀ env, (backTo cpos (starEach as env)).any (·.1) = false) (ha : AR K as st (fun vs st => vs.length ≤ lim ∧ E .cycle st) E) : SX K (.Raise (some (.Call (.Name nm np) as [] cpos)) none pos) st Q E := by
 intro A G s QQ EE ok hp hI hE H
 obtain ⟨tl, N, nm', q, bs, hdct, sn, sub, ab, col, dd, k0, k1, k2, k3, k5, mN, hC, hN, hni, T⟩ := hx.obj
 refine wpAny_Raise_call_subT (C := C) (nm := nm') (q := q) (N := N) (bs := bs) (bm := tl) (hdct := hdct) (sn := sn) (sub := sub) (ab := ab) (col := col) (dd := dd) (k0 := k0) (k1 := k1) (k2 := k2) (k3 := k3) (k5 := k5)
  PySem.F.excBase_ValueError (mN := mN) (T.hasType PySem.F.excBase_ValueError.hasBase) (ok.hA.handled hc) (hs _) hni (wpAny_glob ok.hF ok.hc hI (ok.hs ▸ h) hw ⟨rfl, ?_⟩)
 refine evalArgs_spl (fun x q => by have := hs K.F.env; rw [q] at this; cases this) rfl ?_
 refine ha cpos A G s _ EE ok trivial hI hE ⟨fun vs st₁ G₁ ws s₁ q hg₁ hI₁ hv₁ => wpAny_pure ?_, H.ex⟩
 have keep := hI₁.keep
 refine ⟨rfl, by show ws.length ≤ _; rw [← hv₁.length]; exact lim_fits q.1, keep _ _ hC, hN.keeps keep, T.keeps keep, fun h' e hm => ?_⟩
 obtain ⟨t, ht, _⟩ := hm.there
 exact H.ex .cycle st₁ G₁ (.ref e) _ q.2 hg₁ (Exn.of_made (x := .cycle) (tk := s₁.toks) hI₁ (.mk hm.keeps hm.new _ _ _ ht (clsOf_cycle hx).symm rfl rfl rfl) (Nat.le_refl _))
inductive Fits (c : Cx) : X → Value → Prop
 | stop : Fits c .stop (.type "StopIteration")
 | cycle {C : Addr} (h : CycAt c C) : Fits c .cycle (.ref C)
theorem Fits.wp {e w : Value} (hf : Fits c x w) (hX : Exn c F G ρ σ x e s) {E : Value → Shared → Prop} {Q : Bool → Shared → Prop} (hq : Q true s) : wpAny c.M A (excMatches e w) Q E s := by
 cases hf with
 | stop => exact wpAny_excMatches_type hX.stopIs owsi_raise.isExc (by kernel_rfl) isSubtype_stop hq
 | cycle h =>
  obtain ⟨a, o, rfl, e1, e2⟩ := hX.there
  rw [clsOf_cycle h] at e2
  obtain ⟨tl, N, nm', q, bs, hdct, sn, sub, ab, col, dd, k0, k1, k2, k3, k5, mN, hC, hN, hni, T⟩ := h.obj
  exact wpAny_excMatches_sub_self (hX.inv.keep _ _ hC) e1 e2 (T.hasType PySem.F.excBase_ValueError.hasBase) hq
@[reducible] noncomputable def Kx.hush (K : Kx) : Kx := { K with calm := false }
theorem Kx.Ok.mark (h : K.Ok A) (v : Option Value) : K.hush.Ok (A.mark v) := ⟨h.hs, h.hc, h.hF, ⟨h.hA.frames, h.hA.guards, h.hA.depth, h.hA.units, fun q => by cases q⟩⟩
theorem s_try {Q : Fl → St → Prop} {w : Value} {body suite : List Stmt} {b₀ : Stmt} {nm : Str} {np hpos pos : Pos} (hfr : FnFm K.F) (hn : (isGI (K.sc.names.lookup nm) && nDbg nm) = true) (hw : GlobAt K.c nm w)
  (h : SS K body st Q fun x st => Fits K.c x w ∧ SS K.hush (b₀ :: suite) st Q fun _ _ => False) : SX K (.Try body [.ExceptHandler (some (.Name nm np)) none (b₀ :: suite) hpos] [] [] pos) st Q E := by
 intro A G s QQ EE ok hp hI hE H
 rw [arm_exec_Try]
 refine wpAny_bind (wpAny_standAt (wpAny_tryStmt_except ?_))
 refine h A G s _ _ ok trivial hI PassesOwn.looking ⟨fun f st' G' b s' q hg' hI' hf => ?_, fun x st' G' e s' q hg' hX => ?_⟩
 ·have := H.ok f st' G' b s' q hg' hI' hf
  cases b with
  | next => exact wpAny_execs_nil this
  | _ => exact this
 ·refine exn_look ok.hF hfr ok.hA.frames hX fun B a a0 h' he hX' j1 j2 j3 hback => ?_
  subst he
  refine wpAny_handleBy_cons (codeAny_handlers_test (wpAny_glob ok.hF ok.hc hX'.inv (ok.hs ▸ hn) hw (q.1.wp hX' ?_))) (by intro q; cases q)
  refine codeAny_handlers_suite ?_
  refine wpAny_setFlight_noneW j1 j2 j3.at fun h'' i1 i2 i3 i4 => ?_
  have hI₂ := hback h'' i1 (fun b o hb hn => ⟨o.slots, i4 b o hb hn⟩)
  exact wpAny_noRaise (q.2 _ G' _ _ (fun _ _ => False) (ok.mark _) trivial hI₂ PassesOwn.never ⟨fun f st₂ G₂ b s₂ q hg₂ => H.ok f st₂ G₂ b s₂ q (hg'.trans hg₂), fun _ _ _ _ _ q => q.elim⟩)
end
end Mine
end
section
namespace Mine
open PySem PySem.W PyProof.Rows PySem.SeqAt
noncomputable def rangeV (n : Nat) : List V := (List.range n).map fun (k : Nat) => .int (k : Int)
inductive IK where
 | lst (l : Addr) | tup (t : Addr) | rng (n : Nat) | key (d : Addr) (ep m : Nat) | val (d : Addr) (ep m : Nat)
noncomputable def ItO : IK → Nat → Value × Data
 | .lst l, k => (.type "list_iterator", .fields #[.ref l, .int k 0])
 | .tup t, k => (.type "tuple_iterator", .fields #[.ref t, .int k 0])
 | .rng n, k => (.type "range_iterator", .fields #[rawInt (0 + (k : Nat) * 1), rawInt ((n : Int) - (k : Nat)), rawInt 1])
 | .key d ep m, k => (.type "dict_keyiterator", .fields #[.ref d, .int k 0, .int m 0, .int ep 0])
 | .val d ep m, k => (.type "dict_valueiterator", .fields #[.ref d, .int k 0, .int m 0, .int ep 0])
noncomputable def isRng : IK → Bool
 | .rng _ => true
 | _ => false
noncomputable def ItP (ik : IK) (k : Nat) (o : Obj) : Prop := o.cls = (ItO ik k).1 ∧ o.data = (ItO ik k).2 ∧ (isRng ik = true → o = ⟨(ItO ik k).1, none, (ItO ik k).2, #[]⟩)
theorem itP_fields {ik : IK} {k : Nat} {o : Obj} (h : ItP ik k o) : ∃ vs, o.data = .fields vs := by
 rw [h.2.1]
 cases ik <;> exact ⟨_, rfl⟩
inductive IkOk (c : Cx) (G : Gh) : IK → List V → Prop
 | lst {l : Addr} {vs : List Value} {xs : List V} (h : G.fz l = some (.lst vs)) (r : VRs G xs vs) : IkOk c G (.lst l) xs
 | tup {l : Addr} {vs : List Value} {xs : List V} (h : G.fz l = some (.tup vs)) (r : VRs G xs vs) : IkOk c G (.tup l) xs
 | rng {n : Nat} : IkOk c G (.rng n) (rangeV n)
 | key {d : Addr} {des : Array DictEntry} {ep : Nat} {kvs : List (Int × Value)} {es : List (Int × V)} (h : G.fz d = some (.dct des ep)) (k1 : KeysOf (intKind c.prog c.w) des) (k2 : Pairs (intKind c.prog c.w) des.toList kvs) (k3 : (kvs.map (·.1)).Nodup) (r : KVs G es kvs) : IkOk c G (.key d ep kvs.length) (es.map fun e => .int e.1)
 | val {d : Addr} {des : Array DictEntry} {ep : Nat} {kvs : List (Int × Value)} {es : List (Int × V)} (h : G.fz d = some (.dct des ep)) (k1 : KeysOf (intKind c.prog c.w) des) (k2 : Pairs (intKind c.prog c.w) des.toList kvs) (k3 : (kvs.map (·.1)).Nodup) (r : KVs G es kvs) : IkOk c G (.val d ep kvs.length) (es.map (·.2))
theorem IkOk.mono {c : Cx} {G G' : Gh} (hg : G.le G') {ik : IK} {xs : List V} (h : IkOk c G ik xs) : IkOk c G' ik xs := by
 cases h with
 | lst h r => exact .lst (hg.fz _ _ h) (r.mono hg)
 | tup h r => exact .tup (hg.fz _ _ h) (r.mono hg)
 | rng => exact .rng
 | key h k1 k2 k3 r => exact .key (hg.fz _ _ h) k1 k2 k3 (r.mono hg)
 | val h k1 k2 k3 r => exact .val (hg.fz _ _ h) k1 k2 k3 (r.mono hg)
noncomputable def Fm.plus (F : Fm) (e : XE) : Fm := { F with out := e :: F.out }
section
variable {c : Cx} {F : Fm} {G : Gh} {ρ : Str → Option V} {σ : List O} {s : Shared} {K : Kx} {A : Around} {xs : List V} {v : V} {st : St} {E : X → St → Prop}
theorem FmOk.plus (hF : FmOk c F) {e : XE} (h1 : e.1 ∉ F.out.map (·.1)) (h2 : F.env.locals ≠ e.1) (h3 : ∀ x a, F.sc.names.lookup x = some .cell → F.env.cells.lookup x = some a → a ≠ e.1) : FmOk c (F.plus e) :=
 { hF with
  cel := fun x hx => by
   obtain ⟨hk, a, ha, ho, hl⟩ := hF.cel x hx
   refine ⟨hk, a, ha, fun q => ?_, hl⟩
   rcases List.mem_cons.mp (by simpa [Fm.plus] using q : a ∈ e.1 :: F.out.map (·.1)) with q | q
   ·exact h3 x a hx ha q
   ·exact ho q
  lo := fun q => by
   rcases List.mem_cons.mp (by simpa [Fm.plus] using q : F.env.locals ∈ e.1 :: F.out.map (·.1)) with q | q
   ·exact h2 q
   ·exact hF.lo q
  outNd := by
   show ((e :: F.out).map (·.1)).Nodup
   rw [List.map_cons, List.nodup_cons]
   exact ⟨h1, hF.outNd⟩ }
theorem FmOk.plus_same {e : XE} {P' : Obj → Prop} (hF : FmOk c (F.plus e)) : FmOk c (F.plus (e.1, P')) :=
 { hF with cel := hF.cel, lo := hF.lo, outNd := hF.outNd }
noncomputable def Apart (P : Obj → Prop) : Prop := ∀ o, P o → (∀ v, o.data ≠ .cell v) ∧ ∀ es ep, o.data ≠ .dict es ep
theorem apart_itP {ik : IK} {k : Nat} : Apart (ItP ik k) := fun o h => by
 obtain ⟨vs, hv⟩ := itP_fields h
 exact ⟨fun v q => (by rw [hv] at q; cases q), fun es ep q => (by rw [hv] at q; cases q)⟩
theorem FR.plus {xs : List XE} (f : FR F G ρ xs) (e : XE) : FR (F.plus e) G ρ (e :: xs) where
 loc := by
  obtain ⟨m, h1, h2⟩ := f.loc
  exact ⟨m, List.mem_cons_of_mem _ h1, h2⟩
 cel := fun x a hx ha => by
  obtain ⟨v, h1, h2⟩ := f.cel x a hx ha
  exact ⟨v, List.mem_cons_of_mem _ h1, h2⟩
 fre := fun x u hx hu => by
  obtain ⟨a, w, h1, h2, h3⟩ := f.fre x u hx hu
  exact ⟨a, w, h1, List.mem_cons_of_mem _ h2, h3⟩
 out := fun e' he' => by
  rcases List.mem_cons.mp he' with rfl | he'
  ·exact List.mem_cons_self
  ·exact List.mem_cons_of_mem _ (f.out _ he')
 frs := fun e' he' => by
  obtain ⟨h1, L, m, h2, h3⟩ := f.frs e' he'
  exact ⟨h1, L, m, h2, List.mem_cons_of_mem _ h3⟩
theorem FR.minus {xs : List XE} {e : XE} (R : Rel c G xs σ s) (hP : Apart e.2) (f : FR (F.plus e) G ρ xs) : FR F G ρ xs where
 loc := f.loc
 cel := f.cel
 fre := fun x u hx hu => by
  obtain ⟨a, w, h1, h2, h3⟩ := f.fre x u hx hu
  refine ⟨a, w, h1, ?_, h3⟩
  rcases List.mem_cons.mp h2 with q | q
  ·exfalso
   obtain ⟨_, ob, ho, hp⟩ := R.xsc _ (f.out _ h2)
   have hp' : e.2 ob := by rw [← q]; exact hp
   exact (hP ob hp').1 _ hp
  ·exact q
 out := fun e' he' => f.out _ (List.mem_cons_of_mem _ he')
 frs := f.frs
theorem Inv.plus (hI : Inv c F G ρ σ s) (hF : FmOk c F) {a : Addr} {P : Obj → Prop} {h' : Heap} {tk : Nat} (hn : s.heap.get? a = none) (hk : ∀ b o, s.heap.get? b = some o → h'.get? b = some o)
  (hp : ∃ ob, h'.get? a = some ob ∧ P ob) (ht : s.toks ≤ tk) : FmOk c (F.plus (a, P)) ∧ Inv c (F.plus (a, P)) G ρ σ { s with heap := h', toks := tk } := by
 obtain ⟨xs, R, f⟩ := hI.ok
 have hx := R.fresh_x hn
 refine ⟨hF.plus (fun q => hx ?_) (fun q => hx ?_) (fun x b hxc hb q => hx ?_), ⟨_, R.addX hn hk hp ht, f.plus _⟩⟩
 ·obtain ⟨e, he, q⟩ := List.mem_map.mp q
  exact List.mem_map.mpr ⟨e, f.out _ he, q⟩
 ·obtain ⟨m, hm, _⟩ := f.loc
  exact List.mem_map.mpr ⟨_, hm, q⟩
 ·obtain ⟨v, hm, _⟩ := f.cel x b hxc hb
  exact List.mem_map.mpr ⟨_, hm, q⟩
theorem Inv.minus {e : XE} (hP : Apart e.2) (hI : Inv c (F.plus e) G ρ σ s) : Inv c F G ρ σ s := by
 obtain ⟨xs, R, f⟩ := hI.ok
 exact ⟨xs, R, f.minus R hP⟩
theorem Exn.minus {e : XE} (hP : Apart e.2) {x : X} {v : Value} (h : Exn c (F.plus e) G ρ σ x v s) : Exn c F G ρ σ x v s := by
 obtain ⟨xs, B, a, a0, h1, R, f, h2, h3, h4, h5, h6⟩ := h
 exact ⟨xs, B, a, a0, h1, R, f.minus R hP, h2, h3, h4, h5, h6⟩
theorem FR.move {xs : List XE} {a : Addr} {P P' : Obj → Prop} (hF : FmOk c (F.plus (a, P))) (R : Rel c G xs σ s) (hP : Apart P) (f : FR (F.plus (a, P)) G ρ xs) : FR (F.plus (a, P')) G ρ (setX a P' xs) := by
 have hmem : a ∈ xs.map (·.1) := List.mem_map_of_mem (f := Prod.fst) (f.out (a, P) List.mem_cons_self)
 have hlo : F.env.locals ≠ a := fun q => hF.lo (by rw [show (F.plus (a, P)).env.locals = F.env.locals from rfl, q]; exact List.mem_cons_self)
 refine ⟨?_, ?_, ?_, ?_, ?_⟩
 ·obtain ⟨m, h1, h2⟩ := f.loc
  exact ⟨m, mem_setX_ne h1 hlo, h2⟩
 ·intro x b hx hb
  obtain ⟨v, h1, h2⟩ := f.cel x b hx hb
  refine ⟨v, mem_setX_ne h1 fun q => ?_, h2⟩
  obtain ⟨_, b', hb', ho, _⟩ := hF.cel x hx
  rw [show (F.plus (a, P)).env.cells.lookup x = F.env.cells.lookup x from rfl] at hb'
  have hb2 : F.env.cells.lookup x = some b := hb
  rw [hb2] at hb'; cases hb'
  have q' : b = a := q
  exact ho (by rw [q']; exact List.mem_cons_self)
 ·intro x u hx hu
  obtain ⟨b, w, h1, h2, h3⟩ := (f.minus R hP).fre x u hx hu
  exact ⟨b, w, h1, List.mem_cons_of_mem _ h2, h3⟩
 ·intro e he
  rcases List.mem_cons.mp he with rfl | he
  ·exact mem_setX hmem
  ·refine mem_setX_ne (f.out _ (List.mem_cons_of_mem _ he)) fun q => ?_
   have := hF.outNd
   rw [show (F.plus (a, P)).out = (a, P) :: F.out from rfl, List.map_cons, List.nodup_cons] at this
   exact this.1 (List.mem_map.mpr ⟨e, he, q⟩)
 ·intro e he
  obtain ⟨h1, L, m, h2, h3⟩ := f.frs e he
  refine ⟨h1, L, m, h2, mem_setX_ne h3 fun q => ?_⟩
  have q' : L = a := q
  subst q'
  obtain ⟨_, ob, ho, hp⟩ := R.xsc _ (f.out (L, P) List.mem_cons_self)
  obtain ⟨_, ob', ho', es, ep, hd, _⟩ := R.xsc _ h3
  rw [ho] at ho'; cases ho'
  exact (hP ob hp).2 _ _ hd
theorem Inv.move {a : Addr} {P P' : Obj → Prop} (hF : FmOk c (F.plus (a, P))) (hP : Apart P) (hI : Inv c (F.plus (a, P)) G ρ σ s) {h' : Heap} {tk : Nat} (hs : Heap.ExtBut a s.heap h')
  (hp : ∃ ob, h'.get? a = some ob ∧ P' ob) (ht : s.toks ≤ tk) : Inv c (F.plus (a, P')) G ρ σ { s with heap := h', toks := tk } := by
 obtain ⟨xs, R, f⟩ := hI.ok
 exact ⟨_, R.changeX (List.mem_map_of_mem (f := Prod.fst) (f.out (a, P) List.mem_cons_self)) hs hp ht, f.move hF R hP⟩
theorem Rel.forget {xs : List XE} (R : Rel c G xs σ s) {a : Addr} (hna : G.own a = none) (hx : a ∉ xs.map (·.1)) {h' : Heap} {tk : Nat} (hs : Heap.ExtBut a s.heap h') (ht : s.toks ≤ tk) : Rel c G xs σ { s with heap := h', toks := tk } := by
 have hnb : ∀ b k, G.own b = some k → b ≠ a := fun b k e q => by rw [q, hna] at e; cases e
 have hfa : ∀ b k, G.fz b = some k → b ≠ a := fun b k e q => by
  rcases (R.fzc b k e).2 with h | ⟨i, o, h, _⟩
  ·exact hnb _ _ h q
  ·exact hnb _ _ h q
 exact {
  keep := fun b o e => hs _ _ (hnb b _ (R.baseOwn b o e)) (R.keep b o e)
  baseOwn := R.baseOwn
  fzc := fun b k e => ⟨(R.fzc b k e).1.keep fun o => hs b o (hfa b k e), (R.fzc b k e).2⟩
  stc := fun b i e => by
   obtain ⟨o, h1, ⟨ob, h2⟩, h3⟩ := R.stc b i e
   exact ⟨o, h1, ⟨ob, hs _ _ (hnb _ _ e) h2⟩, h3.keep fun o => hs b o (hnb _ _ e)⟩
  inj := R.inj
  live := fun b k e => by obtain ⟨ob, h⟩ := R.live b k e; exact ⟨ob, hs _ _ (hnb _ _ e) h⟩
  xsc := fun e he => by
   obtain ⟨h1, ob, h2, h3⟩ := R.xsc e he
   exact ⟨h1, ob, hs _ _ (fun q => hx (q ▸ List.mem_map_of_mem (f := Prod.fst) he)) h2, h3⟩
  nd := R.nd
  tok := fun t k e => ⟨(R.tok t k e).1, Nat.lt_of_lt_of_le (R.tok t k e).2 ht⟩
  pos := Nat.lt_of_lt_of_le R.pos ht
  gens := R.gens
  drawn := R.drawn
  os := R.os }
theorem FR.drop {xs : List XE} {a : Addr} {P : Obj → Prop} (hF : FmOk c (F.plus (a, P))) (R : Rel c G xs σ s) (hP : Apart P) (f : FR (F.plus (a, P)) G ρ xs) : FR F G ρ (xs.filter fun e => decide (e.1 ≠ a)) := by
 have f' := f.minus R hP
 have hin : ∀ {e : XE}, e ∈ xs → e.1 ≠ a → e ∈ xs.filter fun e => decide (e.1 ≠ a) := fun he hn => List.mem_filter.mpr ⟨he, by simpa using hn⟩
 have hlo : F.env.locals ≠ a := fun q => hF.lo (by rw [show (F.plus (a, P)).env.locals = F.env.locals from rfl, q]; exact List.mem_cons_self)
 refine ⟨?_, ?_, f'.fre, ?_, ?_⟩
 ·obtain ⟨m, h1, h2⟩ := f'.loc
  exact ⟨m, hin h1 hlo, h2⟩
 ·intro x b hx hb
  obtain ⟨v, h1, h2⟩ := f'.cel x b hx hb
  refine ⟨v, hin h1 fun q => ?_, h2⟩
  obtain ⟨_, b', hb', ho, _⟩ := hF.cel x hx
  rw [show (F.plus (a, P)).env.cells.lookup x = F.env.cells.lookup x from rfl, hb] at hb'
  cases hb'
  have q' : b = a := q
  exact ho (by rw [q']; exact List.mem_cons_self)
 ·intro e he
  refine hin (f'.out _ he) fun q => ?_
  have := hF.outNd
  rw [show (F.plus (a, P)).out = (a, P) :: F.out from rfl, List.map_cons, List.nodup_cons] at this
  exact this.1 (List.mem_map.mpr ⟨e, he, q⟩)
 ·intro e he
  obtain ⟨h1, L, m, h2, h3⟩ := f'.frs e he
  refine ⟨h1, L, m, h2, hin h3 fun q => ?_⟩
  have q' : L = a := q
  subst q'
  obtain ⟨_, ob, ho, hp⟩ := R.xsc _ (f.out (L, P) List.mem_cons_self)
  obtain ⟨_, ob', ho', es, ep, hd, _⟩ := R.xsc _ h3
  rw [ho] at ho'; cases ho'
  exact (hP ob hp).2 _ _ hd
theorem Inv.drop {a : Addr} {P : Obj → Prop} (hF : FmOk c (F.plus (a, P))) (hP : Apart P) (hI : Inv c (F.plus (a, P)) G ρ σ s) {h' : Heap} {tk : Nat} (hs : Heap.ExtBut a s.heap h') (ht : s.toks ≤ tk) : Inv c F G ρ σ { s with heap := h', toks := tk } := by
 obtain ⟨xs, R, f⟩ := hI.ok
 have hna : G.own a = none := (R.xsc _ (f.out (a, P) List.mem_cons_self)).1
 refine ⟨_, (R.subX List.filter_sublist).forget hna (fun q => ?_) hs ht, f.drop hF R hP⟩
 obtain ⟨e, he, rfl⟩ := List.mem_map.mp q
 simpa using (List.mem_filter.mp he).2
theorem Inv.head {e : XE} (hI : Inv c (F.plus e) G ρ σ s) : ∃ ob, s.heap.get? e.1 = some ob ∧ e.2 ob := by
 obtain ⟨xs, R, f⟩ := hI.ok
 exact (R.xsc _ (f.out e List.mem_cons_self)).2
theorem dctAt {d : Addr} {des : Array DictEntry} {ep : Nat} {kvs : List (Int × Value)} (hI : Inv c F G ρ σ s) (h : G.fz d = some (.dct des ep)) (k1 : KeysOf (intKind c.prog c.w) des) (k2 : Pairs (intKind c.prog c.w) des.toList kvs) (k3 : (kvs.map (·.1)).Nodup) : s.heap.DictAt (intKind c.prog c.w) d kvs ep :=
 (hI.fz h).elim fun o e => ⟨o, des, e.1, e.2.1, e.2.2, k1, k2, k3⟩
structure Nxt (c : Cx) (F : Fm) (it : Addr) (ik : IK) (k : Nat) (G : Gh) (ρ : Str → Option V) (σ : List O) (s : Shared) (xs : List V) (Q : Option Value → Shared → Prop) : Prop where
 item : ∀ x v h' tk, xs[k]? = some x → VR G x v → Inv c (F.plus (it, ItP ik (k + 1))) G ρ σ { s with heap := h', toks := tk } → Q (some v) { s with heap := h', toks := tk }
 stop : ∀ h', xs[k]? = none → Inv c F G ρ σ { s with heap := h' } → Q none { s with heap := h' }
section
variable {QQ : Option Value → Shared → Prop} {EE : Value → Shared → Prop} {it : Addr} {ik : IK} {k : Nat}
theorem itP_mk {o : Obj} (h : o.cls = (ItO ik k).1) (h' : o.data = (ItO ik k).2) (hr : isRng ik = false) : ItP ik k o := ⟨h, h', fun q => by rw [hr] at q; cases q⟩
theorem Inv.step (hF' : FmOk c (F.plus (it, ItP ik k))) (hI : Inv c (F.plus (it, ItP ik k)) G ρ σ s) {h' : Heap} {tk : Nat} (hs : Heap.SameBut it s.heap h') {o : Obj} (e : h'.get? it = some o) (hp : ItP ik (k + 1) o) (ht : s.toks ≤ tk) : Inv c (F.plus (it, ItP ik (k + 1))) G ρ σ { s with heap := h', toks := tk } :=
 hI.move hF' apart_itP hs.extBut ⟨o, e, hp⟩ ht
theorem key_of {kvs : List (Int × Value)} {es : List (Int × V)} (r : KVs G es kvs) {kv : Int × Value} (h : kvs[k]? = some kv) : ∃ e, es[k]? = some e ∧ e.1 = kv.1 ∧ VR G e.2 kv.2 := by
 induction es generalizing kvs k with
 | nil => rw [show kvs = [] from r] at h; cases h
 | cons e es ih =>
  obtain ⟨v, us, q, hv, r⟩ := r
  subst q
  cases k with
  | zero => cases h; exact ⟨e, rfl, rfl, hv⟩
  | succ k => exact ih r h
theorem getq_none {α β : Type} {xs : List α} {ys : List β} (h : ys.length = xs.length) (hn : ys[k]? = none) : xs[k]? = none := by
 rw [List.getElem?_eq_none_iff] at hn ⊢; exact h ▸ hn
theorem pyNext_it (hh : A.handled = none) (hF' : FmOk c (F.plus (it, ItP ik k))) (hI : Inv c (F.plus (it, ItP ik k)) G ρ σ s) (hk : IkOk c G ik xs) (N : Nxt c F it ik k G ρ σ s xs QQ) : wpAny c.M A (pyNext (.ref it)) QQ EE s := by
 obtain ⟨o, ho, hp⟩ := hI.head
 have fin : ∀ {h' : Heap}, Heap.ExtBut it s.heap h' → xs[k]? = none → QQ none { s with heap := h' } := fun {h'} hs hn => N.stop h' hn (hI.drop hF' apart_itP hs (Nat.le_refl _))
 cases hk with
 | @lst l vs _ hl r =>
  have hit : s.heap.IsListIter it l k := ⟨o, ho, hp.1, hp.2.1⟩
  cases hv : vs[k]? with
  | some v =>
   obtain ⟨x, hx, hxv⟩ := r.get' hv
   exact wpAny_pyNext_list_item hit (hI.lst hl) (by rw [List.getElem?_toArray]; exact hv) fun h' ⟨ob, e, r1, r2⟩ hs => N.item x v h' s.toks hx hxv (hI.step hF' hs e (itP_mk r1 r2 rfl) (Nat.le_refl _))
  | none => exact wpAny_pyNext_list_end hh hit (hI.lst hl) (by rw [List.getElem?_toArray]; exact hv) fun h' hs => fin hs (getq_none r.length.symm hv)
 | @tup l vs _ hl r =>
  have hit : s.heap.IsTupleIter it l k := ⟨o, ho, hp.1, hp.2.1⟩
  cases hv : vs[k]? with
  | some v =>
   obtain ⟨x, hx, hxv⟩ := r.get' hv
   exact wpAny_pyNext_tuple_item hit (hI.tup hl) (by rw [List.getElem?_toArray]; exact hv) fun h' ⟨ob, e, r1, r2⟩ hs => N.item x v h' s.toks hx hxv (hI.step hF' hs e (itP_mk r1 r2 rfl) (Nat.le_refl _))
  | none => exact wpAny_pyNext_tuple_end hh hit (hI.tup hl) (by rw [List.getElem?_toArray]; exact hv) fun h' hs => fin hs (getq_none r.length.symm hv)
 | @rng m =>
  have ho' := hp.2.2 rfl
  subst ho'
  by_cases hlt : k < m
  ·refine wpAny_pyNext_range_item ho (by omega) fun h' hit' hs => N.item (.int (k : Int)) _ h' _ (by unfold rangeV; simp [hlt]) ?_ (hI.step hF' hs hit' ?_ (Nat.le_succ _))
   ·rw [Int.mul_one, Int.zero_add]
    exact VR_int _ _
   ·have e1 : (0 + ((k : Nat) : Int) * 1 + 1) = 0 + ((k + 1 : Nat) : Int) * 1 := by push_cast; omega
    have e2 : ((m : Int) - (k : Nat) - 1) = (m : Int) - ((k + 1 : Nat) : Int) := by push_cast; omega
    unfold ItP ItO
    rw [e1, e2]
    exact ⟨rfl, rfl, fun _ => rfl⟩
  ·exact wpAny_pyNext_range_end hh ho (by omega) fun h' hs => fin hs (by unfold rangeV; simp; omega)
 | @key d des ep kvs es h k1 k2 k3 r =>
  have hit : s.heap.IsKeyIter it d k kvs.length ep := ⟨o, ho, hp.1, hp.2.1⟩
  have hD := dctAt hI h k1 k2 k3
  cases hv : kvs[k]? with
  | some kv =>
   obtain ⟨e, he, ek, ev⟩ := key_of r hv
   refine wpAny_pyNext_dict_item hit hD (k := kv.1) (v := kv.2) hv fun key h' hk' ⟨ob, e', r1, r2⟩ hs => N.item (.int e.1) _ h' s.toks (by rw [List.getElem?_map, he]; rfl) ?_ (hI.step hF' hs e' (itP_mk r1 r2 rfl) (Nat.le_refl _))
   obtain ⟨t, rfl⟩ := Value.isInt_shape hk'
   exact ek ▸ VR_int _ _
  | none => exact wpAny_pyNext_dict_end hh hit hD hv fun h' hs => fin hs (getq_none (by rw [List.length_map]; exact r.len) hv)
 | @val d des ep kvs es h k1 k2 k3 r =>
  have hit : s.heap.IsValIter it d k kvs.length ep := ⟨o, ho, hp.1, hp.2.1⟩
  have hD := dctAt hI h k1 k2 k3
  cases hv : kvs[k]? with
  | some kv =>
   obtain ⟨e, he, ek, ev⟩ := key_of r hv
   exact wpAny_pyNext_values_item hit hD (k := kv.1) (v := kv.2) hv fun h' ⟨ob, e', r1, r2⟩ hs => N.item e.2 _ h' s.toks (by rw [List.getElem?_map, he]; rfl) ev (hI.step hF' hs e' (itP_mk r1 r2 rfl) (Nat.le_refl _))
  | none => exact wpAny_pyNext_values_end hh hit hD hv fun h' hs => fin hs (getq_none (by rw [List.length_map]; exact r.len) hv)
end
end
end Mine
end
section
namespace Mine
open PySem PySem.W PyProof.Rows PySem.SeqAt
theorem range_small {n : Nat} (h : n ≤ lim) : Builtin.Range.small 0 (n : Int) 1 = true := by
 unfold lim at h
 unfold Builtin.Range.small Builtin.Range.rangeFitsLong Builtin.Range.rangeSize
 simp
 omega
theorem range_size {n : Nat} : Builtin.Range.rangeSize 0 (n : Int) 1 = (n : Int) := by
 unfold Builtin.Range.rangeSize
 simp
 intro h; simp [h]
inductive ItV (σ : List O) : V → List V → List O → Prop
 | lst {xs : List V} : ItV σ (.lst xs) xs σ
 | tup {xs : List V} : ItV σ (.tup xs) xs σ
 | rng {m : Nat} (h : m ≤ lim) : ItV σ (.rng m) (rangeV m) σ
 | list {i : Nat} {xs : List V} (h : σ[i]? = some (.list xs)) : ItV σ (.obj i) xs (σ.set i (.flist xs))
 | flist {i : Nat} {xs : List V} (h : σ[i]? = some (.flist xs)) : ItV σ (.obj i) xs σ
 | dict {i : Nat} {es : List (Int × V)} (h : σ[i]? = some (.dict es)) : ItV σ (.obj i) (es.map fun e => .int e.1) (σ.set i (.fdict es))
 | fdict {i : Nat} {es : List (Int × V)} (h : σ[i]? = some (.fdict es)) : ItV σ (.obj i) (es.map fun e => .int e.1) σ
 | vals {i : Nat} {es : List (Int × V)} (h : σ[i]? = some (.dict es)) : ItV σ (.dv i) (es.map (·.2)) (σ.set i (.fdict es))
 | fvals {i : Nat} {es : List (Int × V)} (h : σ[i]? = some (.fdict es)) : ItV σ (.dv i) (es.map (·.2)) σ
section
variable {K : Kx} {P : Gh → Prop} {st : St} {ρ : Str → Option V} {σ σ' : List O} {E : X → St → Prop} {G : Gh} {s : Shared} {v : V} {w : Value} {A : Around} {c : Cx} {F : Fm} {xs : List V} {i : Nat} {a : Addr}
theorem Inv.fixDict {es : List (Int × V)} (hI : Inv c F G ρ σ s) (ha : G.own a = some (.st i)) (h : σ[i]? = some (.dict es)) : ∃ G', G.le G' ∧ Inv c F G' ρ (σ.set i (.fdict es)) s ∧ FDictAt c G' a es := by
 cases hI.own_at ha h with | mk z kvs e r => ?_
 obtain ⟨ob, des, ep, h1, h2, h3, h4, h5, h6⟩ := e
 have hfz : G.fz a = none := hI.ok.elim fun _ R => R.1.not_fz ha h rfl
 have hle : G.le (G.putFz a (.dct des ep)) := Gh.le_putFz hfz
 have hf : FDictAt c (G.putFz a (.dct des ep)) a es := ⟨z, des, ep, kvs, Gh.fz_putFz _ _ _, h4, h5, h6, r.mono hle⟩
 have g := hI.fix (o' := .fdict es) (k := .dct des ep) ha h rfl rfl ⟨ob, h1, h2, h3⟩ hf
 exact ⟨_, g.1, g.2, hf⟩
structure Made (c : Cx) (F : Fm) (G : Gh) (ρ : Str → Option V) (σ : List O) (s : Shared) (xs : List V) (Q : Value → Shared → Prop) : Prop where
 ok : ∀ G' ik it h', G.le G' → IkOk c G' ik xs → FmOk c (F.plus (it, ItP ik 0)) → Inv c (F.plus (it, ItP ik 0)) G' ρ σ { s with heap := h' } → Q (.ref it) { s with heap := h' }
theorem Made.give {G' : Gh} {ik : IK} {d : Data} {t : Value} {Q : Value → Shared → Prop} (m : Made c F G ρ σ s xs Q) (hF : FmOk c F) (hg : G.le G') (hI : Inv c F G' ρ σ s) (hk : IkOk c G' ik xs) (ht : t = (ItO ik 0).1) (hd : d = (ItO ik 0).2) (hf : (⟨t, none, d, #[]⟩ : Obj).isFreed = false) :
  Q (.ref s.heap.objs.size) { s with heap := s.heap.push ⟨t, none, d, #[]⟩ } := by
 have h := hI.plus hF (P := ItP ik 0) (get_size s.heap) (keep_push s.heap ⟨t, none, d, #[]⟩) ⟨_, Heap.get?_push_size _ hf, ht, hd, fun _ => by rw [ht, hd]⟩ (Nat.le_refl s.toks)
 exact m.ok G' ik _ _ hg hk h.1 h.2
theorem pyIter_it {E : Value → Shared → Prop} {Q : Value → Shared → Prop} (hF : FmOk c F) (hI : Inv c F G ρ σ s) (hv : VR G v w) (h : ItV σ v xs σ') (m : Made c F G ρ σ' s xs Q) : wpAny c.M A (pyIter w) Q E s := by
 cases h with
 | lst =>
  obtain ⟨l, vs, rfl, hl, r⟩ := lst_inv hv
  exact wpAny_pyIter_list (hI.lst hl) (m.give hF (Gh.le.refl _) hI (.lst hl r) rfl rfl rfl)
 | tup =>
  obtain ⟨l, vs, rfl, hl, r⟩ := tup_inv hv
  exact wpAny_pyIter_tuple (hI.tup hl) (m.give hF (Gh.le.refl _) hI (.tup hl r) rfl rfl rfl)
 | @rng n h =>
  obtain ⟨a, rfl, ha⟩ : ∃ a, w = .ref a ∧ G.fz a = some (.rng n) := hv
  obtain ⟨t, u, v, ho⟩ := hI.fz ha
  refine wpAny_pyIter_range ho (range_small h) ?_
  rw [range_size]
  exact m.give hF (ik := .rng n) (Gh.le.refl _) hI .rng rfl (by show _ = Data.fields _; simp) rfl
 | list h =>
  obtain ⟨a, rfl, ha⟩ := obj_inv hv
  obtain ⟨G', vs, g1, g2, g3, g4⟩ := hI.fixList ha h
  exact wpAny_pyIter_list (g2.lst g3) (m.give hF g1 g2 (.lst g3 g4) rfl rfl rfl)
 | flist h =>
  obtain ⟨a, rfl, ha⟩ := obj_inv hv
  cases hI.own_at ha h with | mk vs k r => exact wpAny_pyIter_list (hI.lst k) (m.give hF (Gh.le.refl _) hI (.lst k r) rfl rfl rfl)
 | dict h =>
  obtain ⟨a, rfl, ha⟩ := obj_inv hv
  obtain ⟨G', g1, g2, z, des, ep, kvs, k, k1, k2, k3, r⟩ := hI.fixDict ha h
  exact wpAny_pyIter_dict (beq_eq_false_iff_ne.mpr z) (dctAt g2 k k1 k2 k3) (m.give hF g1 g2 (.key k k1 k2 k3 r) rfl rfl rfl)
 | fdict h =>
  obtain ⟨a, rfl, ha⟩ := obj_inv hv
  cases hI.own_at ha h with | mk z des ep kvs k k1 k2 k3 r => exact wpAny_pyIter_dict (beq_eq_false_iff_ne.mpr z) (dctAt hI k k1 k2 k3) (m.give hF (Gh.le.refl _) hI (.key k k1 k2 k3 r) rfl rfl rfl)
 | @vals i es h =>
  obtain ⟨d, a, rfl, hz, ha⟩ : ∃ b a, w = .ref b ∧ G.fz b = some (.dv a) ∧ G.own a = some (.st i) := hv
  obtain ⟨G', g1, g2, z, des, ep, kvs, k, k1, k2, k3, r⟩ := hI.fixDict ha h
  exact wpAny_pyIter_values (hI.fz hz) (dctAt g2 k k1 k2 k3) (m.give hF g1 g2 (.val k k1 k2 k3 r) rfl rfl rfl)
 | @fvals i es h =>
  obtain ⟨d, a, rfl, hz, ha⟩ : ∃ b a, w = .ref b ∧ G.fz b = some (.dv a) ∧ G.own a = some (.st i) := hv
  cases hI.own_at ha h with | mk z des ep kvs k k1 k2 k3 r => exact wpAny_pyIter_values (hI.fz hz) (dctAt hI k k1 k2 k3) (m.give hF (Gh.le.refl _) hI (.val k k1 k2 k3 r) rfl rfl rfl)
theorem pyIter_self {E : Value → Shared → Prop} {Q : Value → Shared → Prop} {it : Addr} {ik : IK} {k : Nat} (hI : Inv c (F.plus (it, ItP ik k)) G ρ σ s) (hq : Q (.ref it) s) : wpAny c.M A (pyIter (.ref it)) Q E s := by
 obtain ⟨o, ho, h1, h2, h3⟩ := hI.head
 cases ik with
 | lst l => exact wpAny_pyIter_listiter (l := l) (i := k) ⟨o, ho, h1, h2⟩ hq
 | tup l => exact wpAny_pyIter_tupleiter (t := l) (i := k) ⟨o, ho, h1, h2⟩ hq
 | rng m =>
  have e := h3 rfl
  subst e
  exact wpAny_pyIter_rangeiter ho hq
 | key d ep m => exact wpAny_pyIter_keyiter (d := d) (i := k) (n := m) (ep := ep) ⟨o, ho, h1, h2⟩ hq
 | val d ep m => exact wpAny_pyIter_valiter (d := d) (i := k) (n := m) (ep := ep) ⟨o, ho, h1, h2⟩ hq
noncomputable def ownsTuples : List String := ["enumerate", "zip", "dict_itemiterator", "dict_reverseitemiterator", "odict_iterator", "itertools.zip_longest", "itertools.pairwise"]
theorem wpAny_letGo {M : Model} {E : Value → Shared → Prop} {Q : Unit → Shared → Prop} {t : PySem.Expr} {it : Addr} {v : Value} {o : Obj} (ho : s.heap.get? it = some o)
  (hc : ∀ n, o.cls = .type n → ownsTuples.contains n = false) (h : Q () s) : wpAny M A (letOwnedTupleGo t (.ref it) v) Q E s := by
 have key : wpAny M A (do
   let (.ref r, .ref a) := ((Value.ref it : Value), v) | return
   let o ← load r
   match o.cls, o.data with
   | .type n, .fields vs =>
    if ["enumerate", "zip", "dict_itemiterator", "dict_reverseitemiterator", "odict_iterator", "itertools.zip_longest", "itertools.pairwise"].contains n && vs[0]? == some (rawInt a) then
     rule "for.unpacks-the-owned-tuple"
     updateField r 0 .none
   | _, _ => pure ()) Q E s := by
  cases v <;> try exact wpAny_pure h
  dsimp only
  refine wpAny_bind (wpAny_load ho ?_)
  split
  ·rename_i n vs hn hd
   have := hc n hn
   unfold ownsTuples at this
   rw [this]
   exact wpAny_pure h
  ·exact wpAny_pure h
 cases t <;> first | exact key | exact wpAny_pure h
theorem itP_owns {ik : IK} {k : Nat} {o : Obj} (h : ItP ik k o) : ∀ n, o.cls = .type n → ownsTuples.contains n = false := by
 intro nm hn
 rw [h.1] at hn
 cases ik <;> (cases hn; decide)
@[reducible] noncomputable def Kx.plus (K : Kx) (e : XE) : Kx := { K with F := K.F.plus e }
theorem Kx.Ok.plus {e : XE} (h : K.Ok A) (hF : FmOk K.c (K.F.plus e)) : (K.plus e).Ok A := ⟨h.hs, h.hc, hF, ⟨h.hA.frames, h.hA.guards, h.hA.depth, h.hA.units, h.hA.handled⟩⟩
theorem Ends.plus {α β γ δ : Type} {R : Gh → α → β → Prop} {Q' : α → St → Prop} {QQ' : β → Shared → Prop} {R₀ : Gh → γ → δ → Prop} {Q : γ → St → Prop} {QQ : δ → Shared → Prop} {EE : Value → Shared → Prop} {e : XE} (hP : Apart e.2) (H : Ends K G R₀ Q E QQ EE) (hq : ∀ a st G' b s, Q' a st → G.le G' → (K.plus e).Inv G' st s → R G' a b → QQ' b s) : Ends (K.plus e) G R Q' E QQ' EE :=
 ⟨hq, fun x st G' v s q hg hX => H.ex x st G' v s q hg (hX.minus hP)⟩
noncomputable def turnK (A : Prop) (Q : Fl → St → Prop) (st : St) : Fl → Prop
 | .next => A
 | .cont => A
 | .brk => Q .next st
 | .ret v => Q (.ret v) st
theorem turn_end {A' P : Prop} {Q : Fl → St → Prop} {st₂ : St} {G₂ : Gh} {QQ : Flow → Shared → Prop} {EE : Value → Shared → Prop} {f : Fl} {fl : Flow} (H : Ends K G FlowR Q E QQ EE) (hg : G.le G₂) (hI : K.Inv G₂ st₂ s) (hf : FlowR G₂ f fl) (q : turnK A' Q st₂ f) (again : A' → P) :
  match (generalizing := false) fl with
  | .next | .cont => P
  | .brk => QQ .next s
  | .ret v => QQ (.ret v) s := by
 cases f with
 | next => cases (show fl = .next from hf); exact again q
 | cont => cases (show fl = .cont from hf); exact again q
 | brk => cases (show fl = .brk from hf); exact H.ok .next st₂ G₂ .next s q hg hI rfl
 | ret u =>
  obtain ⟨w, rfl, hw⟩ := hf
  exact H.ok (.ret u) st₂ G₂ (.ret w) s q hg hI ⟨w, rfl, hw⟩
noncomputable def LoopI (Kj : Nat → Kx) (G : Gh) (xs : List V) (Iv : Nat → List V → St → Prop) (k : Nat) (s : Shared) : Prop :=
 ∃ j G' st', k = xs.length - j ∧ j ≤ xs.length ∧ G.le G' ∧ (Kj j).Inv G' st' s ∧ Iv j (xs.drop j) st'
theorem LoopI.elim {Kj : Nat → Kx} {Iv : Nat → List V → St → Prop} {k : Nat} {P : Prop} (h : LoopI Kj G xs Iv k s) (f : ∀ j G' st', k = xs.length - j → G.le G' → (Kj j).Inv G' st' s → Iv j (xs.drop j) st' → P) : P :=
 Exists.elim h fun j h => h.elim fun G' h => h.elim fun st' h => f j G' st' h.1 h.2.2.1 h.2.2.2.1 h.2.2.2.2
theorem LoopI.next {Kj : Nat → Kx} {Iv : Nat → List V → St → Prop} {k j : Nat} {x : V} {G' : Gh} {st' : St} (hk : k = xs.length - j) (hx : xs[j]? = some x) (hg : G.le G') (hI : (Kj (j + 1)).Inv G' st' s) (hp : Iv (j + 1) (xs.drop (j + 1)) st') : ∃ m, m < k ∧ LoopI Kj G xs Iv m s :=
 have hlt := (List.getElem?_eq_some_iff.mp hx).1
 ⟨xs.length - (j + 1), hk ▸ Nat.sub_lt_sub_left hlt (Nat.lt_succ_self j), j + 1, G', st', rfl, hlt, hg, hI, hp⟩
noncomputable def LoopW (K : Kx) (G : Gh) (Iv : Nat → St → Prop) (k : Nat) (s : Shared) : Prop := ∃ G' st', G.le G' ∧ K.Inv G' st' s ∧ Iv k st'
theorem LoopW.elim {Iv : Nat → St → Prop} {k : Nat} {P : Prop} (h : LoopW K G Iv k s) (f : ∀ G' st', G.le G' → K.Inv G' st' s → Iv k st' → P) : P :=
 Exists.elim h fun G' h => h.elim fun st' h => f G' st' h.1 h.2.1 h.2.2
theorem LoopW.next {Iv : Nat → St → Prop} {k : Nat} {G' : Gh} {st' : St} (hg : G.le G') (hI : K.Inv G' st' s) (h : ∃ m, m < k ∧ Iv m st') : ∃ m, m < k ∧ LoopW K G Iv m s :=
 h.imp fun _ h => ⟨h.1, G', st', hg, hI, h.2⟩
theorem drop_some {j : Nat} {x : V} {P : List V → Prop} (hx : xs[j]? = some x) (h : P (xs.drop j)) : P (x :: xs.drop (j + 1)) := by
 have hlt := (List.getElem?_eq_some_iff.mp hx).1
 rw [List.drop_eq_getElem_cons hlt, Option.some.inj ((List.getElem?_eq_getElem hlt).symm.trans hx)] at h
 exact h
theorem drop_none {j : Nat} {P : List V → Prop} (hx : xs[j]? = none) (h : P (xs.drop j)) : P [] := by
 rwa [List.drop_eq_nil_of_le (List.getElem?_eq_none_iff.mp hx)] at h
theorem letGo_it {EE : Value → Shared → Prop} {Q : Unit → Shared → Prop} {t : PySem.Expr} {it : Addr} {ik : IK} {k : Nat} {v : Value} (hI : Inv c (F.plus (it, ItP ik k)) G ρ σ s) (h : Q () s) : wpAny c.M A (letOwnedTupleGo t (.ref it) v) Q EE s :=
 hI.head.elim fun _ p => wpAny_letGo p.1 (itP_owns p.2) h
noncomputable def FX (K : Kx) (t : PySem.Expr) (body : List Stmt) (v : V) (st : St) (Q : Fl → St → Prop) (E : X → St → Prop) : Prop := ∀ w A G s QQ EE, K.Ok A → VR G v w → K.Inv G st s → PassesOwn K.c.M A K.F.env EE → Ends K G FlowR Q E QQ EE →
 wpAny K.c.M A (pyIter w) (fun it s' => codeAny K.c.M A (.forLoop t it body [] K.F.env) (fun r s' => match r with | .ok f => QQ f s' | .error e => cameBackBy K.c.M A K.F.env EE e s') s') EE s
theorem s_for {Q : Fl → St → Prop} {t it : PySem.Expr} {body : List Stmt} {pos : Pos} (hs : ∀ env x, foldedSetIterable it env x = pure x) (h : EX K it st (fun v st => FX K t body v st Q E) E) : SX K (.For t it body [] pos) st Q E := by
 intro A G s QQ EE ok hp hI hE H
 exact wpAny_For (h A G s _ EE ok trivial hI hE ⟨fun v st₁ G₁ w s₁ q hg₁ hI₁ hv => q w A G₁ s₁ QQ EE ok hv hI₁ hE (H.up hg₁), H.ex⟩) (hs _)
theorem f_items {Q : Fl → St → Prop} {t : PySem.Expr} {body : List Stmt} (hc : K.calm = true) (Iv : List V → St → Prop) (hv : ItV σ v xs σ') (h0 : Iv xs ⟨ρ, σ'⟩)
  (hstep : ∀ e x r st, Iv (x :: r) st → TA (K.plus e) t x st (fun _ st => SS (K.plus e) body st (fun f st => turnK (Iv r st) Q st f) E) E) (hend : ∀ st, Iv [] st → Q .next st) : FX K t body v ⟨ρ, σ⟩ Q E := by
 intro w A G s QQ EE ok hw hI hE H
 refine pyIter_it ok.hF hI hw hv ⟨fun G₀ ik it h' hg₀ hk hF' hI₀ => ?_⟩
 refine codeAny_forLoop_any (LoopI (fun j => K.plus (it, ItP ik j)) G₀ xs fun _ => Iv) (fun k s' hL => hL.elim fun j G' st' hkj hg hI' hp => ?_) xs.length ⟨0, G₀, ⟨ρ, σ'⟩, rfl, Nat.zero_le _, Gh.le.refl _, hI₀, h0⟩
 have okj := fun j => ok.plus (hF'.plus_same (e := (it, ItP ik 0)) (P' := ItP ik j))
 have hgg := hg₀.trans hg
 refine wpAny_passesOwn hE (pyNext_it (ok.hA.handled hc) (okj j).hF hI' (hk.mono hg) ⟨fun x v h' tk hx hv hI₂ => letGo_it hI₂ ?_, fun h' hx hI₂ => wpAny_execs_nil (H.ok .next st' G' .next _ (hend st' (drop_none (P := fun r => Iv r st') hx hp)) hgg hI₂ rfl)⟩)
 refine wpAny_passesOwn hE (hstep _ x _ st' (drop_some (P := fun r => Iv r st') hx hp) v A G' _ _ EE (okj _) hv hI₂ hE ((H.up hgg).plus apart_itP fun _ st₁ G₁ _ s₁ q hg₁ hI₃ _ => ?_))
 refine wpAny_passesOwn hE (q A G₁ s₁ _ EE (okj _) trivial hI₃ hE ((H.up (hgg.trans hg₁)).plus apart_itP fun f st₂ G₂ fl s₂ q hg₂ hI₄ hf => ?_))
 exact turn_end H ((hgg.trans hg₁).trans hg₂) (hI₄.minus apart_itP) hf q fun hp => LoopI.next hkj hx ((hg.trans hg₁).trans hg₂) hI₄ hp
theorem s_while {Q : Fl → St → Prop} {t : PySem.Expr} {body orelse : List Stmt} {pos : Pos} (Iv : Nat → St → Prop) (k0 : Nat) (h0 : Iv k0 st)
  (hstep : ∀ k st, Iv k st → TS K t st (fun b st => if b then SS K body st (fun f st => turnK (∃ m, m < k ∧ Iv m st) Q st f) E else SS K orelse st Q E) E) : SX K (.While t body orelse pos) st Q E := by
 intro A G s QQ EE ok hp hI hE H
 refine wpAny_While ?_
 refine codeAny_whileLoop (LoopW K G Iv) (fun k s' hL => hL.elim fun G' st' hg hI' hp => ?_) k0 ⟨G, st, Gh.le.refl _, hI, h0⟩
 refine wpAny_passesOwn hE (hstep k st' hp A G' s' _ EE ok trivial hI' hE ⟨fun b st₁ G₁ b' s₁ q hg₁ hI₁ hb' => ?_, (H.up hg).ex⟩)
 cases hb'
 have hgg := hg.trans hg₁
 cases b with
 | false => exact wpAny_passesOwn hE (q A G₁ s₁ _ EE ok trivial hI₁ hE (H.up hgg))
 | true =>
  refine wpAny_passesOwn hE (q A G₁ s₁ _ EE ok trivial hI₁ hE ⟨fun f st₂ G₂ fl s₂ q hg₂ hI₂ hf => ?_, (H.up hgg).ex⟩)
  exact turn_end H (hgg.trans hg₂) hI₂ hf q (LoopW.next (hgg.trans hg₂) hI₂)
end
end Mine
end
section
namespace Mine
open PySem PySem.W PyProof.Rows PySem.SeqAt
noncomputable def CX (K : Kx) (f : Value) (vs : List V) (kv : List (Str × V)) (st : St) (Q : V → St → Prop) (E : X → St → Prop) : Prop := ∀ ws kvs A G s QQ EE, K.Ok A → VRs G vs ws → KwR G kv kvs → K.Inv G st s → Ends K G RV Q E QQ EE → codeAny K.c.M A (.call f ⟨ws, kvs⟩) (wants QQ EE) s
noncomputable def BC (K : Kx) (f : Value) (vs : List V) (st : St) (Q : V → St → Prop) (E : X → St → Prop) : Prop := ∀ ws, Run K (fun G => VRs G vs ws) (call f ws []) RV st Q E
noncomputable def CV (K : Kx) (u : V) (vs : List V) (kv : List (Str × V)) (st : St) (Q : V → St → Prop) (E : X → St → Prop) : Prop := ∀ fv, CallX K (fun G => VR G u fv) fv [] vs kv st Q E
inductive Mt where
 | fn (a : Addr) (self : V) | bi (T : String) (i : Nat) | val (f : V)
noncomputable def MtR (G : Gh) : Mt → Value × List Value → Prop
 | .fn a self, fx => ∃ w, fx = (.ref a, [w]) ∧ VR G self w
 | .bi T i, fx => ∃ a, fx = (.builtin T, [.ref a]) ∧ G.own a = some (.st i)
 | .val f, fx => ∃ w, fx = (w, []) ∧ VR G f w
theorem MtR.mono {G G' : Gh} (hg : G.le G') : ∀ {m : Mt} {fx : Value × List Value}, MtR G m fx → MtR G' m fx
 | .fn _ _, _, ⟨w, e, h⟩ => ⟨w, e, h.mono hg⟩
 | .bi _ _, _, ⟨a, e, h⟩ => ⟨a, e, hg.own _ _ h⟩
 | .val _, _, ⟨w, e, h⟩ => ⟨w, e, h.mono hg⟩
noncomputable def MX (K : Kx) (u : V) (nm : Str) (st : St) (Q : Mt → St → Prop) (E : X → St → Prop) : Prop := ∀ w pl, Run K (fun G => VR G u w) (getMethod w nm pl) MtR st Q E
noncomputable def CM (K : Kx) (m : Mt) (vs : List V) (kv : List (Str × V)) (st : St) (Q : V → St → Prop) (E : X → St → Prop) : Prop := ∀ fv first, CallX K (fun G => MtR G m (fv, first)) fv first vs kv st Q E
section
variable {K : Kx} {P : Gh → Prop} {st : St} {ρ : Str → Option V} {σ σ' : List O} {E : X → St → Prop} {Q : V → St → Prop} {G : Gh} {s : Shared} {u v : V} {w : Value} {A : Around} {c : Cx} {F : Fm} {vs : List V} {kv : List (Str × V)} {i k d : Nat} {a C : Addr} {fs : List (Option V)} {gs : List (Str × V)} {nm : Str} {xs : List V}
theorem KeepsOk.ofK (hI : Inv c F G ρ σ s) (hc : CxOk c) {a : Addr} (h : keepIn c.K (.ref a) = true) : KeepsOk c (.ref a) s := fun A Q E hq => (keeps_K (M := c.M) h s.heap (hI.kin hc)).elim fun k L => L.2.here (A := A) (E := E) (s := s) (Q := Q) (hq k)
theorem KeepsOk.ofNoRef {v : Value} (h : ∀ a, v ≠ .ref a) : KeepsOk c v s := by
 intro A Q E hq
 unfold keeperOf
 cases v <;> first | exact wpAny_pure (hq _) | exact absurd rfl (h _)
theorem VR_glob_eq {v w : Value} (h : VR G (.glob v) w) : w = v := h
theorem KwR.nil_inv {kvs : List (Str × Value)} (h : KwR G [] kvs) : kvs = [] := h
theorem Run.of_code {f : Value} {ws : List Value} {kvs : List (Str × Value)} (h : CX K f vs kv st Q E) : Run K (fun G => VRs G vs ws ∧ KwR G kv kvs) (call f ws kvs) RV st Q E := fun A G s QQ EE ok hP hI hE H => wpAny_call (h ws kvs A G s QQ EE ok hP.1 hP.2 hI H)
theorem cv_code (hk : keepIn K.c.K (.ref a) = true) (h : CX K (.ref a) vs kv st Q E) : CV K (.glob (.ref a)) vs kv st Q E := fun fv =>
 ⟨fun ws kvs A G s QQ EE ok hP hI hE H => by cases VR_glob_eq hP.1; exact Run.of_code h A G s QQ EE ok hP.2 hI hE H, fun G s hc hP hI => by cases VR_glob_eq hP; exact KeepsOk.ofK hI hc hk⟩
noncomputable def noRef : Value → Bool
 | .ref _ => false
 | _ => true
theorem cv_blt {f : Value} (hf : noRef f = true) (h : BC K f vs st Q E) : CV K (.glob f) vs [] st Q E := fun fv =>
 ⟨fun ws kvs A G s QQ EE ok hP hI hE H => by cases VR_glob_eq hP.1; cases hP.2.2.nil_inv; exact h ws A G s QQ EE ok hP.2.1 hI hE H, fun G s hc hP hI => by cases VR_glob_eq hP; exact KeepsOk.ofNoRef fun a q => by rw [q] at hf; cases hf⟩
theorem wpAny_of_code {f : Value} {ws : List Value} {kvs : List (Str × Value)} {QQ EE : Value → Shared → Prop} (h : codeAny c.M A (.call f ⟨ws, kvs⟩) (wants QQ EE) s) : wpAny c.M A (call f ws kvs) QQ EE s := wpAny_call h
theorem cv_obj {f : Addr} (h : st.σ[i]? = some (.slots C fs)) (hm : MethF K.c.K C ("__call__" : Str) f) (hfn : fnIn K.c.K f = true) (hx : CX K (.ref f) (.obj i :: vs) kv st Q E) : CV K (.obj i) vs kv st Q E := by
 refine fun fv => ⟨fun ws kvs A G s QQ EE ok hP hI hE H => ?_, fun G s hc hP hI => ?_⟩
 ·obtain ⟨a, rfl, ha⟩ := obj_inv hP.1
  cases hI.own_at ha h with | mk db sl e k0 hsz r => exact wpAny_of_code (kco_code (hI.kin ok.hc) (slots_inst hI e k0) rfl hm.find hm.fn hfn (hx (.ref a :: ws) kvs A G s QQ EE ok (VRs.cons hP.1 hP.2.1) hP.2.2 hI H))
 ·obtain ⟨a, rfl, ha⟩ := obj_inv hP
  cases hI.own_at ha h with | mk db sl e k0 hsz r =>
   intro A Q E hq
   unfold keeperOf
   exact wpAny_bind (wpAny_load e (wpAny_pure (hq _)))
theorem x_call {f : PySem.Expr} {as : List PySem.Expr} {ks : List Keyword} {pos : Pos} {bs : List Bool} (he : ∀ env, eval (.Call f as ks pos) env = (do callWith pos (← eval f env) [] (backTo pos (starEach as env)) (backToKw pos (keywordEach ks env))))
  (hs : ∀ env, (starEach as env).map (·.1) = bs) (hb : (bs == [true]) = false) (hn : ks.all named = true) (h : EX K f st (fun u st => AR K as st (fun vs st => KR K ks st (fun kv st => CV K u vs kv st Q E) E) E) E) : EX K (.Call f as ks pos) st Q E := by
 unfold EX
 rw [he]
 exact Run.bind up_true (h.imp fun u st q w => (run_callWith up_VR hs hb hn (fun pos => (q pos).imp fun vs st q pos => (q pos).imp fun kv st q => q w)).pre fun _ h => h.2)
theorem m_slots {f : Addr} {Q : Mt → St → Prop} (h : st.σ[i]? = some (.slots C fs)) (hm : MethF K.c.K C nm f) (q : Q (.fn f (.obj i)) st) : MX K (.obj i) nm st Q E := by
 refine fun w pl => on_obj1 (K := K) (t := fun w => getMethod w nm pl) h (fun a A G s QQ EE ok ha hO hI hE H => ?_) w
 cases hO with | mk db sl e k0 hsz r => exact method_fn (hI.kin ok.hc) (slots_inst hI e k0) (plainGet_of hm.get).1 (plainGet_of hm.get).2 hm.find (beq_iff_eq.mp hm.fn) rfl (H.here q hI ⟨_, rfl, VR_obj ha⟩)
theorem m_val {p : Addr} {Q : Mt → St → Prop} (h : st.σ[i]? = some (.slots C fs)) (hs : SlotF K.c.K C nm k p) (hv : fs[k]? = some (some v)) (hg : v.isGlob = false) (q : Q (.val v) st) : MX K (.obj i) nm st Q E := by
 refine fun w pl => on_obj1 (K := K) (t := fun w => getMethod w nm pl) h (fun a A G s QQ EE ok ha hO hI hE H => ?_) w
 cases hO with | mk db sl e k0 hsz r => ?_
 refine method_usual (hI.kin ok.hc) (slots_inst hI e k0) (plainGet_of hs.h1).1 (plainGet_of hs.h1).2 hs.h3 ?_ ?_
 ·show Option.all _ (some (Value.ref p)) = true
  rw [Option.all_some, hs.h10]
  decide
 ·exact a_slot (Q := fun x st => Q (.val x) st) h hs hv hg q (.ref a) _ A G s _ EE ok (VR_obj ha) hI hE ⟨fun x st' G' b s' q hg hI' hv => H.ok _ _ _ _ _ q hg hI' ⟨b, rfl, hv⟩, H.ex⟩
theorem valueAt_none {es : List (Str × V)} {kvs : List (Str × Value)} (r : KVs G es kvs) (h : findG es nm = none) : valueAt kvs nm = none := by
 rcases r.find (n := nm) with q | ⟨x, v, q, _⟩
 ·exact q.2
 ·rw [h] at q; cases q
theorem m_inst {f : Addr} {Q : Mt → St → Prop} (h : st.σ[i]? = some (.inst C d)) (hd : st.σ[d]? = some (.idict gs)) (hno : findG gs nm = none) (hm : MethF K.c.K C nm f) (q : Q (.fn f (.obj i)) st) : MX K (.obj i) nm st Q E := by
 refine fun w pl => on_obj1 (K := K) (t := fun w => getMethod w nm pl) h (fun a A G s QQ EE ok ha hO hI hE H => ?_) w
 cases hO with | mk b e hb => ?_
 cases hI.own_at hb hd with | mk kvs hdo hvs => ?_
 obtain ⟨od, des, ep, h1, h2, h3, h4, h5, h6⟩ := hdo
 refine method_fn (od := some od) (hI.kin ok.hc) ⟨e, rfl, rfl, h1⟩ (plainGet_of hm.get).1 (plainGet_of hm.get).2 hm.find (beq_iff_eq.mp hm.fn) ?_ (H.here q hI ⟨_, rfl, VR_obj ha⟩)
 show (lookIn nm od).map (·.isSome) = some false
 rw [lookIn_strs h3 h4 h5, valueAt_none hvs hno]; rfl
theorem m_list {id : String} {Q : Mt → St → Prop} (h : st.σ[i]? = some (.list xs)) (slot : Slot "list" nm id) (hty : typeOf (.builtin id) = pure (.type "method_descriptor")) (q : Q (.bi id i) st) : MX K (.obj i) nm st Q E := by
 refine fun w pl => on_obj1 (K := K) (t := fun w => getMethod w nm pl) h (fun a A G s QQ EE ok ha hO hI hE H => ?_) w
 cases hO with | mk vs n e r => exact getMethod_builtin (T := "list") ⟨_, e, rfl⟩ PySem.F.plainAttrs_list slot hty (fun b q => by cases q; exact ⟨_, e, rfl⟩) (H.here q hI ⟨_, rfl, ha⟩)
theorem m_dict {es : List (Int × V)} {id : String} {Q : Mt → St → Prop} (h : st.σ[i]? = some (.dict es)) (slot : Slot "dict" nm id) (hty : typeOf (.builtin id) = pure (.type "method_descriptor")) (q : Q (.bi id i) st) : MX K (.obj i) nm st Q E := by
 refine fun w pl => on_obj1 (K := K) (t := fun w => getMethod w nm pl) h (fun a A G s QQ EE ok ha hO hI hE H => ?_) w
 cases hO with | mk z kvs hd r => exact getMethod_builtin hd.mapOf.typeIs PySem.F.plainAttrs_dict slot hty hd.mapOf.noDict (H.here q hI ⟨_, rfl, ha⟩)
theorem m_fdict {es : List (Int × V)} {id : String} {Q : Mt → St → Prop} (h : st.σ[i]? = some (.fdict es)) (slot : Slot "dict" nm id) (hty : typeOf (.builtin id) = pure (.type "method_descriptor")) (q : Q (.bi id i) st) : MX K (.obj i) nm st Q E := by
 refine fun w pl => on_obj1 (K := K) (t := fun w => getMethod w nm pl) h (fun a A G s QQ EE ok ha hO hI hE H => ?_) w
 cases hO with | mk z des ep kvs k0 k1 k2 k3 r =>
  have hd := fdict_of hI k0 k1 k2 k3
  exact getMethod_builtin hd.mapOf.typeIs PySem.F.plainAttrs_dict slot hty hd.mapOf.noDict (H.here q hI ⟨_, rfl, ha⟩)
theorem m_set {ns : List Int} {Q : Mt → St → Prop} (h : st.σ[i]? = some (.set ns)) (q : Q (.bi "set.add" i) st) : MX K (.obj i) "add" st Q E := by
 refine fun w pl => on_obj1 (K := K) (t := fun w => getMethod w "add" pl) h (fun a A G s QQ EE ok ha hO hI hE H => ?_) w
 exact getMethod_set_add (knd := intKind K.c.prog K.c.w) hO (H.here q hI ⟨_, rfl, ha⟩)
theorem cm_fn {f : Addr} (hk : keepIn K.c.K (.ref f) = true) (h : CX K (.ref f) (u :: vs) kv st Q E) : CM K (.fn f u) vs kv st Q E := fun fv first =>
 ⟨fun ws kvs A G s QQ EE ok hP hI hE H => by
  obtain ⟨w, e, hw⟩ := hP.1
  cases e
  exact Run.of_code h A G s QQ EE ok ⟨VRs.cons hw hP.2.1, hP.2.2⟩ hI hE H, fun G s hc hP hI => by
  obtain ⟨w, e, hw⟩ := hP
  cases e
  exact KeepsOk.ofK hI hc hk⟩
theorem cm_val (h : CV K u vs kv st Q E) : CM K (.val u) vs kv st Q E := fun fv first =>
 ⟨fun ws kvs A G s QQ EE ok hP hI hE H => by
  obtain ⟨w, e, hw⟩ := hP.1
  cases e
  exact (h fv).run ws kvs A G s QQ EE ok ⟨hw, hP.2⟩ hI hE H, fun G s hc hP hI => by
  obtain ⟨w, e, hw⟩ := hP
  cases e
  exact (h fv).keep G s hc hw hI⟩
theorem cm_bi {T : String} (h : ∀ d ws, Run K (fun G => G.own d = some (.st i) ∧ VRs G vs ws) (call (.builtin T) (.ref d :: ws)) RV st Q E) : CM K (.bi T i) vs [] st Q E := fun fv first =>
 ⟨fun ws kvs A G s QQ EE ok hP hI hE H => by
  obtain ⟨d, e, hd⟩ := hP.1
  cases e
  cases hP.2.2.nil_inv
  exact h d ws A G s QQ EE ok ⟨hd, hP.2.1⟩ hI hE H, fun G s hc hP hI => by
  obtain ⟨d, e, hd⟩ := hP
  cases e
  exact KeepsOk.ofNoRef fun a q => by cases q⟩
theorem x_callm {o : PySem.Expr} {apos : Pos} {as : List PySem.Expr} {ks : List Keyword} {pos : Pos} {bs : List Bool} (hb : ∀ env whole, attributeBase o nm env whole = whole) (hline : (apos.endLine == pos.line) = true)
  (hf : ∀ env, methodCallForm (as.length + ks.length) (backTo pos (starEach as env)) (backToKw pos (keywordEach ks env)) = true) (hs : ∀ env, (starEach as env).map (·.1) = bs) (hbs : (bs == [true]) = false) (hn : ks.all named = true)
  (h : EX K o st (fun u st => MX K u nm st (fun m st => AR K as st (fun vs st => KR K ks st (fun kv st => CM K m vs kv st Q E) E) E) E) E) : EX K (.Call (.Attribute o nm apos) as ks pos) st Q E := by
 unfold EX
 rw [arm_eval_Call, hb]
 refine Run.bind up_true (h.imp fun u st q w => Run.standAt ?_)
 unfold methodCall
 rw [hf]
 unfold calleeOf
 simp only [if_true]
 have hpos : methodCallPos true o K.F.env apos pos = pure pos := by unfold methodCallPos; rw [hline]; rfl
 refine Run.bind (R₁ := MtR) (up_and up_true up_VR) (((q w _).pre fun _ h => h.2).holding.imp fun m st q fx => ?_)
 obtain ⟨fv, first⟩ := fx
 show Run K _ (methodCallPos true o K.F.env apos pos >>= fun callPos => callWith callPos fv first (backTo pos (starEach as K.F.env)) (backToKw pos (keywordEach ks K.F.env))) RV _ Q E
 rw [hpos]
 exact ((run_callWith (P := fun G => MtR G m (fv, first)) (fun _ _ hg x => x.mono hg) hs hbs hn (fun pos => (q pos).imp fun vs st q pos => (q pos).imp fun kv st q => q fv first)).pre fun _ h => h.2).of_wp fun A Q E s hw => wpAny_bind (wpAny_pure hw)
end
end Mine
end
section
namespace Mine
open PySem PySem.W PyProof.Rows PySem.SeqAt
section
variable {K : Kx} {st : St} {ρ : Str → Option V} {σ σ' : List O} {E : X → St → Prop} {Q : V → St → Prop} {G : Gh} {s : Shared} {u v x : V} {w : Value} {A : Around} {c : Cx} {F : Fm} {vs : List V} {i k d : Nat} {nm : Str} {xs : List V}
theorem one_arg {x : V} {ws : List Value} (h : VRs G [x] ws) : ∃ w, ws = [w] ∧ VR G x w := by
 obtain ⟨w, us, rfl, hx, r⟩ := h.cons_inv
 rw [r.nil_inv]; exact ⟨w, rfl, hx⟩
theorem on_own {T : String} {o : O} (ho : st.σ[i]? = some o) (h : ∀ d ws A G s QQ EE, K.Ok A → G.own d = some (.st i) → VRs G vs ws → ORs K.c G s.heap d o → K.Inv G st s → Ends K G RV Q E QQ EE → wpAny K.c.M A (call (.builtin T) (.ref d :: ws)) QQ EE s) : CM K (.bi T i) vs [] st Q E :=
 cm_bi fun d ws A G s QQ EE ok hP hI hE H => h d ws A G s QQ EE ok hP.1 hP.2 (hI.own_at hP.1 ho) hI H
theorem bm_append (h : σ[i]? = some (.list xs)) (hl : xs.length < lim) (q : Q .none ⟨ρ, σ.set i (.list (xs ++ [v]))⟩) : CM K (.bi "list.append" i) [v] [] ⟨ρ, σ⟩ Q E := on_own h fun d ws A G s QQ EE ok hd hv hO hI H => by
 obtain ⟨w, rfl, hx⟩ := one_arg hv
 cases hO with | mk vs k e r => ?_
 exact wpAny_list_append_plain (items := vs.toArray) ⟨k, e⟩ (fun h' ⟨k', e'⟩ hs => H.here q (hI.setSt (o' := .list (xs ++ [v])) hd h rfl hs.extBut ⟨vs ++ [w], k', by rw [e']; simp, r.snoc hx⟩ ⟨_, e'⟩ (Nat.le_refl _)) VR_none) (by rw [List.size_toArray, ← r.length]; exact lim_fits (Nat.le_of_lt hl))
theorem erase_last (vs : List Value) (h : vs ≠ []) : (vs.toArray.eraseIdxIfInBounds (vs.toArray.size - 1)) = vs.dropLast.toArray := by
 have hl : vs.length - 1 < vs.length := by have := List.length_pos_iff.mpr h; omega
 simp [Array.eraseIdxIfInBounds, hl, List.eraseIdx_length_sub_one]
theorem bm_pop (h : σ[i]? = some (.list xs)) (hx : xs.getLast? = some v) (hl : xs.length ≤ lim) (q : Q v ⟨ρ, σ.set i (.list xs.dropLast)⟩) : CM K (.bi "list.pop" i) [] [] ⟨ρ, σ⟩ Q E := on_own h fun d ws A G s QQ EE ok hd hv hO hI H => by
 cases hv.nil_inv
 cases hO with | mk vs k e r => ?_
 rw [List.getLast?_eq_getElem?] at hx
 obtain ⟨y, hy, hyv⟩ := r.get hx
 have hlen := r.length
 have hne : vs ≠ [] := by rintro rfl; cases hy
 obtain ⟨k', ek⟩ := mapSeq_list (fun xs => xs.eraseIdxIfInBounds (vs.toArray.size - 1)) e
 exact call_meets PySem.F.slot_list_pop ⟨_, e, rfl⟩ PySem.F.entry_list_pop (PySem.F.args_list_pop_1 _) (PySem.MeetsSeq.list_pop_last d vs.toArray k y (by rw [List.size_toArray, ← hlen]; simpa using hy) (by rw [List.size_toArray, ← hlen]; exact lim_fits hl)) ⟨e,
  H.here q (hI.setSt (tk := s.toks) (o' := .list xs.dropLast) hd h rfl (Heap.SameBut.update ..).extBut ⟨vs.dropLast, k', by rw [ek, erase_last vs hne], r.dropLast⟩ ⟨_, ek⟩ (Nat.le_refl _)) hyv⟩
theorem bm_clear (h : σ[i]? = some (.list xs)) (hl : xs.length ≤ lim) (q : Q .none ⟨ρ, σ.set i (.list [])⟩) : CM K (.bi "list.clear" i) [] [] ⟨ρ, σ⟩ Q E := on_own h fun d ws A G s QQ EE ok hd hv hO hI H => by
 cases hv.nil_inv
 cases hO with | mk vs k e r => ?_
 obtain ⟨k', ek⟩ := mapSeq_list (fun _ => #[]) e
 exact call_meets PySem.F.slot_list_clear ⟨_, e, rfl⟩ PySem.F.entry_list_clear (PySem.F.args_list_clear_1 _) (PySem.AutoSeq1.list_clear_list_0 d vs.toArray k (by rw [List.size_toArray, ← r.length]; exact lim_fits hl)) ⟨e,
  H.here q (hI.setSt (tk := s.toks) (o' := .list []) hd h rfl (Heap.SameBut.update ..).extBut ⟨[], k', ek, VRs.nil⟩ ⟨_, ek⟩ (Nat.le_refl _)) VR_none⟩
theorem get_val {es : List (Int × V)} {kvs : List (Int × Value)} {k : Int} (r : KVs G es kvs) : VR G ((findG es k).getD .none) ((valueAt kvs k).getD .none) := by
 rcases r.find (n := k) with q | ⟨x, v, q1, q2, q3⟩
 ·rw [q.1, q.2]; exact VR_none
 ·rw [q1, q2]; exact q3
theorem ne_false {a : Addr} (z : a ≠ sysModules) : (a == sysModules) = false := beq_eq_false_iff_ne.mpr z
theorem bm_get {es : List (Int × V)} {k : Int} (h : st.σ[i]? = some (.dict es)) (q : Q ((findG es k).getD .none) st) : CM K (.bi "dict.get" i) [.int k] [] st Q E := on_own h fun d ws A G s QQ EE ok hd hv hO hI H => by
 obtain ⟨w, rfl, hx⟩ := one_arg hv
 obtain ⟨t, rfl⟩ := num_inv hx rfl
 cases hO with | mk z kvs hD r => ?_
 exact call_meetsIn PySem.F.slot_dict_get hD.typeIs PySem.F.entry_dict_get (PySem.F.args_dict_get_2 _ _) (meets_dict_get (intKind K.c.prog K.c.w) d (intKind_is _ _ k t) (ne_false z)) ⟨_, hD.mapOf, H.here q (hI.toks (Nat.le_succ _)) (get_val r)⟩
theorem bm_fget {es : List (Int × V)} {k : Int} (h : st.σ[i]? = some (.fdict es)) (q : Q ((findG es k).getD .none) st) : CM K (.bi "dict.get" i) [.int k] [] st Q E := on_own h fun d ws A G s QQ EE ok hd hv hO hI H => by
 obtain ⟨w, rfl, hx⟩ := one_arg hv
 obtain ⟨t, rfl⟩ := num_inv hx rfl
 cases hO with | mk z des ep kvs k0 k1 k2 k3 r => ?_
 have hD := fdict_of hI k0 k1 k2 k3
 exact call_meetsIn PySem.F.slot_dict_get hD.typeIs PySem.F.entry_dict_get (PySem.F.args_dict_get_2 _ _) (meets_dict_get (intKind K.c.prog K.c.w) d (intKind_is _ _ k t) (ne_false z)) ⟨_, hD.mapOf, H.here q (hI.toks (Nat.le_succ _)) (get_val r)⟩
theorem VR_dv {a d : Addr} (h : G.fz a = some (.dv d)) (ho : G.own d = some (.st i)) : VR G (.dv i) (.ref a) := Exists.intro a ⟨d, rfl, h, ho⟩
theorem bm_values {es : List (Int × V)} (h : st.σ[i]? = some (.dict es)) (q : Q (.dv i) st) : CM K (.bi "dict.values" i) [] [] st Q E := on_own h fun d ws A G s QQ EE ok hd hv hO hI H => by
 cases hv.nil_inv
 cases hO with | mk z kvs hD r => ?_
 refine call_meetsIn PySem.F.slot_dict_values hD.typeIs PySem.F.entry_dict_values (PySem.F.args_dict_values_1 _) (meets_dict_values (intKind K.c.prog K.c.w) d (ne_false z)) ⟨⟨kvs, hD⟩, ?_⟩
 have h := hI.addFz (a := s.heap.objs.size) (k := .dv d) (h' := s.heap.push { cls := .type "dict_values", data := .fields #[.ref d] }) (tk := s.toks) (get_size _) (keep_push _ _) ⟨_, Heap.get?_push_size _ rfl, rfl, rfl⟩ (Nat.le_refl _)
 exact H.ok _ _ _ _ _ q h.1 h.2 (VR_dv (Gh.fz_addFz _ _ _) (h.1.own _ _ hd))
noncomputable def addS (ns : List Int) (k : Int) : List Int := if k ∈ ns then ns else ns ++ [k]
theorem bm_add {ns : List Int} {k : Int} (h : σ[i]? = some (.set ns)) (hl : ns.length ≤ 100) (q : Q .none ⟨ρ, σ.set i (.set (addS ns k))⟩) : CM K (.bi "set.add" i) [.int k] [] ⟨ρ, σ⟩ Q E := on_own h fun d ws A G s QQ EE ok hd hv hO hI H => by
 obtain ⟨w, rfl, hx⟩ := one_arg hv
 obtain ⟨t, rfl⟩ := num_inv hx rfl
 refine call_set_add (knd := intKind K.c.prog K.c.w) (k := k) (intKind_is _ _ _ _) rfl hO (by unfold scanBound; omega) fun h' hs hS => H.here q (hI.setSt hd h rfl hs.extBut ?_ (let ⟨o, _, _, _, e, _⟩ := hS; ⟨o, e⟩) (Nat.le_succ _)) VR_none
 unfold addS
 show Heap.SetOf _ _ _ _ _
 by_cases q : k ∈ ns
 ·simp only [q, decide_true, if_true] at hS ⊢
  refine (funext fun k' => ?_ : (fun k' => decide (k' ∈ ns)) = fun k' => decide (k' ∈ ns) || decide (k' = k)) ▸ hS
  by_cases z : k' = k
  ·subst z; simp [q]
  ·simp [z]
 ·simp only [q, decide_false, if_false, Bool.false_eq_true] at hS ⊢
  have e1 : (fun k' => decide (k' ∈ ns ++ [k])) = fun k' => decide (k' ∈ ns) || decide (k' = k) := funext fun k' => by simp
  rw [e1, List.length_append]
  exact hS
end
end Mine
end
section
namespace Mine
open PySem PySem.W PyProof.Rows PySem.SeqAt
namespace NA
theorem entry_ga : entryFor table "object.__getattribute__" = some Builtin.«object.__getattribute__» := by first | exact entryFor_of_tree (by kernel_rfl) | exact entryFor_of_fast (by kernel_rfl)
theorem slot_ga : Slot "list_iterator" "__getattribute__" "object.__getattribute__" :=
 .of (owner := "object") (n := "__getattribute__") (by rw [typeLookup_type, builtinLookup_eq_fast]; kernel_rfl) (by decide +kernel) (by decide +kernel) (by decide +kernel)
  (by first | exact .inl (by decide +kernel) | exact .inr (by decide +kernel)) (by rw [isSubtype_type]; kernel_rfl)
theorem args_ga (a b : Value) : argsOk "object.__getattribute__" ⟨[a, b], []⟩ := by unfold argsOk; kernel_rfl
theorem lk_next : typeLookup (.type "list_iterator") "__next__" = pure (some (.builtin "list_iterator.__next__")) := by rw [typeLookup_type, builtinLookup_eq_fast]; kernel_rfl
theorem ty_next : typeOf (.builtin "list_iterator.__next__") = pure (.type "wrapper_descriptor") := by show builtinType _ = _; rw [builtinType_eq_fast]; kernel_rfl
theorem slot_wd_get : Slot "wrapper_descriptor" "__get__" "wrapper_descriptor.__get__" :=
 .of (owner := "wrapper_descriptor") (n := "__get__") (by rw [typeLookup_type, builtinLookup_eq_fast]; kernel_rfl) (by decide +kernel) (by decide +kernel) (by decide +kernel)
  (by first | exact .inl (by decide +kernel) | exact .inr (by decide +kernel)) (by rw [isSubtype_type]; kernel_rfl)
theorem entry_wd_get : entryFor table "wrapper_descriptor.__get__" = some Builtin.«wrapper_descriptor.__get__» := entryFor_of_tree (by kernel_rfl)
theorem args_wd_get (a b c : Value) : argsOk "wrapper_descriptor.__get__" ⟨[a, b, c], []⟩ := by unfold argsOk; kernel_rfl
theorem no_set : typeLookup (.type "wrapper_descriptor") "__set__" = pure none := by rw [typeLookup_type, builtinLookup_eq_fast]; kernel_rfl
theorem no_del : typeLookup (.type "wrapper_descriptor") "__delete__" = pure none := by rw [typeLookup_type, builtinLookup_eq_fast]; kernel_rfl
theorem sub_li : isSubtype (.type "list_iterator") (.type "list_iterator") = pure true := by rw [isSubtype_type]; kernel_rfl
end NA
section
variable {prog : Program} {w : World} {A : Around} {E : Value → Shared → Prop} {h : Heap} {g : Array GenState} {d : Drawn} {t : Nat} {os : OsState} {a : Addr} {o : Obj}
noncomputable def wrapOf (a : Addr) : Obj := { cls := .type "method-wrapper", data := .fields #[.builtin "list_iterator.__next__", .ref a] }
theorem na_get {R : Result → Shared → Prop} (hx : h.get? a = some o) (hc : o.cls = .type "list_iterator") (hq : R (.ok (.ret (.ref h.objs.size))) ⟨h.push (wrapOf a), g, d, t, os⟩) :
  codeAny (model prog w) A (.call (.builtin "wrapper_descriptor.__get__") ⟨[.builtin "list_iterator.__next__", .ref a, .type "list_iterator"], []⟩) R ⟨h, g, d, t, os⟩ := by
 have hT : (⟨h, g, d, t, os⟩ : Shared).TypeIs (.ref a) "list_iterator" := ⟨_, hx, hc⟩
 have hT5 : (⟨h, g, d, t, os⟩ : Shared).TypeIs (.builtin "list_iterator.__next__") "wrapper_descriptor" := NA.ty_next
 refine codeAny_call_builtin NA.slot_wd_get.plain NA.entry_wd_get (NA.slot_wd_get.check _ _ _ _ _ _ _ _ hT5 (NA.args_wd_get _ _ _) ?_)
 unfold Builtin.«wrapper_descriptor.__get__»
 refine wpAny_bind (wpAny_of_eq (a := (.builtin "list_iterator.__next__", some (.ref a), some (.type "list_iterator"))) (by first | rfl | kernel_rfl) ?_)
 dsimp only
 refine wpAny_bind ?_
 refine wpAny_bind (wpAny_of_eq (a := (("__next__" : Str), Value.type "list_iterator")) (by first | rfl | kernel_rfl) ?_)
 dsimp only
 refine wpAny_bind (wpAny_isInstance hT NA.sub_li ?_)
 simp only [Bool.not_true, Bool.false_eq_true, if_false]
 refine wpAny_pure ?_
 unfold newFields
 exact wpAny_bind (wpAny_newObj_type (wpAny_pure hq))
theorem na_entry {tk : Tok} {Q : Fin → Shared → Prop} (hx : h.get? a = some o) (hc : o.cls = .type "list_iterator") (hd : o.dict = none) {vs : Array Value} (hnc : o.data = .fields vs) (hq : Q (.done (.ret (.ref h.objs.size))) ⟨h.push (wrapOf a), g, d, t, os⟩) :
  wpAny (model prog w) A (Builtin.«object.__getattribute__» ⟨[.ref a, .str "__next__" tk], []⟩) Q E ⟨h, g, d, t, os⟩ := by
 have hT : (⟨h, g, d, t, os⟩ : Shared).TypeIs (.ref a) "list_iterator" := ⟨_, hx, hc⟩
 have hT5 : (⟨h, g, d, t, os⟩ : Shared).TypeIs (.builtin "list_iterator.__next__") "wrapper_descriptor" := NA.ty_next
 have f4 := NA.lk_next
 have f5 := NA.ty_next
 have f6 := NA.slot_wd_get.lookup
 have f7 := NA.no_set
 have f8 := NA.no_del
 obtain ⟨oc, od, odt, osl⟩ := o
 dsimp only at hc hd hnc
 subst hc hd hnc
 repeat (any_goals (first | assumption | wp_step))
 refine na_get hx rfl ?_
 repeat (any_goals (first | assumption | wp_step))
theorem na_call {tk : Tok} {R : Result → Shared → Prop} (hx : h.get? a = some o) (hc : o.cls = .type "list_iterator") (hd : o.dict = none) {vs : Array Value} (hnc : o.data = .fields vs) (hq : R (.ok (.ret (.ref h.objs.size))) ⟨h.push (wrapOf a), g, d, t, os⟩) :
  codeAny (model prog w) A (.call (.builtin "object.__getattribute__") ⟨[.ref a, .str "__next__" tk], []⟩) R ⟨h, g, d, t, os⟩ :=
 codeAny_call_builtin NA.slot_ga.plain NA.entry_ga (NA.slot_ga.check _ _ _ _ _ _ _ _ (show (⟨h, g, d, t, os⟩ : Shared).TypeIs (.ref a) "list_iterator" from ⟨_, hx, hc⟩) (NA.args_ga _ _) (na_entry hx hc hd hnc hq))
theorem getAttr_next {expr : Bool} {Q : Value → Shared → Prop} (hx : h.get? a = some o) (hc : o.cls = .type "list_iterator") (hd : o.dict = none) {vs : Array Value} (hnc : o.data = .fields vs) (hq : Q (.ref h.objs.size) ⟨h.push (wrapOf a), g, d, t + 1, os⟩) :
  wpAny (model prog w) A (getAttr (.ref a) "__next__" expr) Q E ⟨h, g, d, t, os⟩ := by
 have hT : (⟨h, g, d, t + 1, os⟩ : Shared).TypeIs (.ref a) "list_iterator" := ⟨_, hx, hc⟩
 have f2 := NA.slot_ga.lookup
 have f3 := NA.slot_ga.bind (.ref a)
 unfold getAttr
 repeat (any_goals (first | assumption | wp_step))
 rw [if_neg (by cases expr <;> exact Bool.false_ne_true)]
 repeat (any_goals (first | assumption | wp_step))
 refine na_call hx hc hd hnc ?_
 repeat (any_goals (first | assumption | wp_step))
end
section
variable {K : Kx} {st : St} {ρ : Str → Option V} {σ σ' : List O} {E : X → St → Prop} {Q : V → St → Prop} {G : Gh} {s : Shared} {u v x : V} {w : Value} {A : Around} {c : Cx} {F : Fm} {vs : List V} {i k d : Nat} {nm : Str} {xs : List V} {P : Gh → Prop}
theorem tree_lit_item {A : Around} {E : Value → Shared → Prop} {it l : Addr} {i : Nat} {items : Array Value} {x : Value} {Q : Value → Shared → Prop} (hit : s.heap.IsListIter it l i)
  (hl : s.heap.IsList l items) (hx : items[i]? = some x)
  (hnd : s.heap.NoDictAt (.ref it)) (hQ : ∀ h', h'.IsListIter it l (i + 1) → h'.NoDictAt (.ref it) → Heap.SameBut it s.heap h' → Q x { s with heap := h' }) :
  wpAny c.M A (Builtin.«list_iterator.__next__» ⟨[.ref it], []⟩) (fun fin s' => ∃ v, fin = .done (.ret v) ∧ Q v s') E s := by
 obtain ⟨o, ho, hc, hd⟩ := id hit
 obtain ⟨ol, hol, _, nl, hdl⟩ := hl
 show wpAny _ _ (field (.ref it) 0 >>= _) _ _ s
 refine wpAny_bind (wpAny_field ho hd (x := .ref l) rfl ?_)
 show wpAny _ _ (if (Value.ref l == Value.none) = true then _ else _) _ _ s
 rw [if_neg (show ¬ ((Value.ref l == Value.none) = true) from Bool.false_ne_true)]
 show wpAny _ _ (field (.ref it) 1 >>= _) _ _ s
 refine wpAny_bind (wpAny_field ho hd (x := .int i 0) rfl ?_)
 show wpAny _ _ (seqItems? (.ref l) >>= _) _ _ s
 refine wpAny_bind (wpAny_seqItems hol hdl ?_)
 simp only [Int.toNat_natCast, hx]
 refine wpAny_bind (wpAny_setField ho hd (by simp) (wpAny_pure ⟨x, rfl, hQ _ ?_ ?_ (Heap.SameBut.update ..)⟩))
 ·exact ⟨_, Heap.get?_update_self _ ho (Obj.isFreed_of_fields (Obj.data_mapFields hd _)), (Obj.cls_mapFields ..).trans hc, by
   rw [Obj.data_mapFields hd]; simp [rawInt]⟩
 ·refine ⟨_, Heap.get?_update_self _ ho (Obj.isFreed_of_fields (Obj.data_mapFields hd _)), ?_⟩
  obtain ⟨o₂, e₂, d₂⟩ := hnd
  rw [ho] at e₂; cases e₂
  obtain ⟨cl, dd, dt, sl⟩ := o
  cases dt <;> exact d₂
theorem tree_lit_end {A : Around} {E : Value → Shared → Prop} {it l : Addr} {i : Nat} {items : Array Value} {Q : Value → Shared → Prop} (hh : A.handled = none) (hit : s.heap.IsListIter it l i)
  (hl : s.heap.IsList l items) (hx : items[i]? = none)
  (hE : ∀ h₁ h' e, Heap.SameBut it s.heap h₁ → (∃ o, h₁.get? it = some o ∧ o.cls = .type "list_iterator" ∧ o.data = .fields #[.none, .int i 0]) → ExcMade h₁ h' e (.type "StopIteration") → E (.ref e) { s with heap := h' }) :
  wpAny c.M A (Builtin.«list_iterator.__next__» ⟨[.ref it], []⟩) (fun fin s' => ∃ v, fin = .done (.ret v) ∧ Q v s') E s := by
 obtain ⟨o, ho, hc, hd⟩ := id hit
 obtain ⟨ol, hol, _, nl, hdl⟩ := hl
 show wpAny _ _ (field (.ref it) 0 >>= _) _ _ s
 refine wpAny_bind (wpAny_field ho hd (x := .ref l) rfl ?_)
 show wpAny _ _ (if (Value.ref l == Value.none) = true then _ else _) _ _ s
 rw [if_neg (show ¬ ((Value.ref l == Value.none) = true) from Bool.false_ne_true)]
 show wpAny _ _ (field (.ref it) 1 >>= _) _ _ s
 refine wpAny_bind (wpAny_field ho hd (x := .int i 0) rfl ?_)
 show wpAny _ _ (seqItems? (.ref l) >>= _) _ _ s
 refine wpAny_bind (wpAny_seqItems hol hdl ?_)
 simp only [Int.toNat_natCast, hx]
 refine wpAny_bind (wpAny_rule (wpAny_bind (wpAny_setField ho hd (by simp) ?_)))
 refine wpAny_stop (α := Fin) (A := A) hh fun h' e hm => hE _ h' e (Heap.SameBut.update ..) ⟨_, Heap.get?_update_self _ ho (Obj.isFreed_of_fields (Obj.data_mapFields hd _)), (Obj.cls_mapFields ..).trans hc, ?_⟩ hm
 rw [Obj.data_mapFields hd]; simp
theorem tree_lit_spent {A : Around} {E : Value → Shared → Prop} {it : Addr} {i : Int} {o : Obj} {Q : Value → Shared → Prop} (hh : A.handled = none) (ho : s.heap.get? it = some o) (hc : o.cls = .type "list_iterator")
  (hd : o.data = .fields #[.none, .int i 0]) (hE : ∀ h' e, ExcMade s.heap h' e (.type "StopIteration") → E (.ref e) { s with heap := h' }) :
  wpAny c.M A (Builtin.«list_iterator.__next__» ⟨[.ref it], []⟩) (fun fin s' => ∃ v, fin = .done (.ret v) ∧ Q v s') E s := by
 show wpAny _ _ (field (.ref it) 0 >>= _) _ _ s
 refine wpAny_bind (wpAny_field ho hd (x := .none) rfl ?_)
 show wpAny _ _ (if (Value.none == Value.none) = true then _ else _) _ _ s
 rw [if_pos (by rfl)]
 exact wpAny_bind (wpAny_rule (wpAny_bind (wpAny_stop (A := A) hh hE)))
theorem wpAny_iter_list {A : Around} {E : Value → Shared → Prop} {l : Addr} {items : Array Value} {Q : Value → Shared → Prop} (hl : s.heap.IsList l items)
  (hQ : Q (.ref s.heap.objs.size) { s with heap := s.heap.push { cls := .type "list_iterator", data := .fields #[.ref l, .int 0 0] } }) :
  wpAny c.M A (call (.builtin "iter") [.ref l]) Q E s := by
 refine Calls.call_function_entry (by decide +kernel) (by decide +kernel) kdk_entry_iter (kdk_args_iter _) ?_
 unfold Builtin.«iter»
 refine wpAny_bind (m := someArgs "iter" 1 2 _) (wpAny_of_eq (a := [Value.ref l]) (by first | rfl | kernel_rfl) ?_)
 show wpAny _ _ (pyIter (.ref l) >>= _) _ _ _
 refine wpAny_bind (wpAny_pyIter_list hl ?_)
 exact wpAny_pure ⟨_, rfl, hQ⟩
theorem call_bool_lst {A : Around} {E : Value → Shared → Prop} {l : Addr} {items : Array Value} {Q : Value → Shared → Prop} (hl : s.heap.IsList l items) (hfit : (items.size : Int) < 2 ^ 63)
  (h : Q (.bool (!items.isEmpty)) { s with toks := s.toks + 1 + 1 }) : wpAny c.M A (call (.type "bool") [.ref l]) Q E s := by
 refine call_bool_1 (S := fun _ R s => s.heap.IsList l items ∧ R (.ok (.ret (.bool (!items.isEmpty)))) { s with toks := s.toks + 1 + 1 }) (Meets.of_wp fun prog w A R s hs => ?_)
  ⟨hl, show wants (fun obj s₁ => s₁.TypeIs obj "bool" ∧ Q obj s₁) E _ _ from ⟨rfl, h⟩⟩
 obtain ⟨hl, hs⟩ := hs
 obtain ⟨hp, g, d, tk, os⟩ := s
 have f1 := F.conv_sub_bool
 repeat (any_goals (first | assumption | (with_reducible refine wpAny_truthy_list hl hfit ?_) | wp_step))
 all_goals first | exact ⟨_, rfl, hs⟩ | exact hs | skip
inductive Lnx (σ : List O) (i : Nat) (Q : V → List O → Prop) (E : List O → Prop) : Prop
 | on (xs : List V) (k : Nat) (h : σ[i]? = some (.lit xs k)) (hi : ∀ x, xs[k]? = some x → Q x (σ.set i (.lit xs (k + 1)))) (he : xs[k]? = none → E (σ.set i .litx))
 | off (h : σ[i]? = some .litx) (e : E σ)
noncomputable abbrev LnxS (i : Nat) (st : St) (Q : V → St → Prop) (E : X → St → Prop) : Prop := Lnx st.σ i (fun x σ => Q x ⟨st.ρ, σ⟩) fun σ => E .stop ⟨st.ρ, σ⟩
theorem Lnx.typeIs {Q' : V → List O → Prop} {E' : List O → Prop} {a : Addr} (hI : Inv c F G ρ σ s) (ha : G.own a = some (.st i)) (h : Lnx σ i Q' E') : s.TypeIs (.ref a) "list_iterator" := by
 cases h with
 | on xs k h hi he => cases hI.own_at ha h with | mk l vs e nd k r => exact e.typeIs
 | off h e => cases hI.own_at ha h with | mk o i e t d => exact ⟨o, e, t⟩
theorem tree_lit {QQ EE : Value → Shared → Prop} {a : Addr} (hh : A.handled = none) (hI : K.Inv G st s) (ha : G.own a = some (.st i)) (H : Ends K G RV Q E QQ EE) (h : LnxS i st Q E) : wpAny K.c.M A (Builtin.«list_iterator.__next__» ⟨[.ref a], []⟩) (fun fin s' => ∃ v, fin = .done (.ret v) ∧ QQ v s') EE s := by
 cases h with
 | off h e => cases hI.own_at ha h with | mk o j e1 e2 e3 => exact tree_lit_spent hh e1 e2 e3 fun h' ev hm => H.ex .stop st G _ _ e (Gh.le.refl _) (Exn.of_made (tk := s.toks) hI hm (Nat.le_refl _))
 | on xs k h hi he =>
  cases hI.own_at ha h with | mk l vs hit hnd hl r => ?_
  cases hx : vs[k]? with
  | some v =>
   obtain ⟨x, hx', hxv⟩ := r.get' hx
   refine tree_lit_item hit (hI.lst hl) (by rw [List.getElem?_toArray]; exact hx) hnd fun h' hit' hnd' hs => ?_
   exact H.here (hi x hx') (hI.setSt (tk := s.toks) (o' := .lit xs (k + 1)) ha h rfl hs.extBut ⟨l, vs, hit', hnd', hl, r⟩ (let ⟨o', e, _⟩ := hit'; ⟨o', e⟩) (Nat.le_refl _)) hxv
  | none =>
   refine tree_lit_end hh hit (hI.lst hl) (by rw [List.getElem?_toArray]; exact hx) fun h₁ h' e hs ⟨o', e1, e2, e3⟩ hm => ?_
   have hI' : Inv K.c K.F G st.ρ (st.σ.set i .litx) { s with heap := h₁ } := hI.setSt (o' := .litx) ha h rfl hs.extBut ⟨o', k, e1, e2, e3⟩ ⟨o', e1⟩ (Nat.le_refl _)
   exact H.ex .stop ⟨st.ρ, st.σ.set i .litx⟩ G _ _ (he (getq_none r.length.symm hx)) (Gh.le.refl _) (Exn.of_made (tk := s.toks) hI' hm (Nat.le_refl _))
theorem code_wrap {m it : Addr} {R : Result → Shared → Prop} (h : s.heap.get? m = some ⟨.type "method-wrapper", none, .fields #[.builtin "list_iterator.__next__", .ref it], #[]⟩)
  (hq : codeAny c.M A (.builtin "list_iterator.__next__" ⟨[.ref it], []⟩) R s) : codeAny c.M A (.call (.ref m) ⟨[], []⟩) R s := by
 refine codeAny_of_tree ?_
 show wpAny _ A.in1 (callAny (.ref m) ⟨[], []⟩) _ _ _
 simp only [callAny]
 refine wpAny_bind (wpAny_load h ?_)
 dsimp only
 rw [if_pos (by decide)]
 have hck : checkBoundCall "list_iterator.__next__" ⟨[.ref it], []⟩ = pure () := by first | kernel_rfl | rfl
 refine wpAny_ite_split (fun _ => ?_) (fun z => absurd (by decide) z)
 refine wpAny_bind (wpAny_of_eq (a := ()) hck ?_)
 exact wpAny_bind (wpAny_pure (wpAny_pure ⟨plainId_quiet (by decide +kernel) _, hq⟩))
theorem KeepsOk.ofWrap {a : Addr} {vs : Array Value} (h : s.heap.get? a = some ⟨.type "method-wrapper", none, .fields vs, #[]⟩) : KeepsOk c (.ref a) s := by
 intro A Q E hq
 unfold keeperOf
 refine wpAny_bind (wpAny_load h ?_)
 dsimp only
 rw [if_pos (by decide)]
 exact wpAny_pure (hq _)
theorem cv_bm {it : Nat} (hc : K.calm = true) (h : st.σ[i]? = some (.bm it)) (hn : LnxS it st Q E) : CV K (.obj i) [] [] st Q E := by
 refine fun fv => ⟨fun ws kvs A G s QQ EE ok hP hI hE H => ?_, fun G s _ hP hI => ?_⟩
 ·obtain ⟨a, rfl, ha⟩ := obj_inv hP.1
  cases hP.2.1.nil_inv
  cases hP.2.2.nil_inv
  cases hI.own_at ha h with | mk b e hb => ?_
  refine wpAny_of_code (code_wrap e (codeAny_builtin entry_listiter_next ?_))
  rw [Around.under_plainId (by decide +kernel)]
  exact wpAny_mono (tree_lit (A := A.in1) (ok.hA.handled hc) hI hb H hn) (fun fin s' h' => by obtain ⟨v, rfl, hv⟩ := h'; exact hv) fun _ _ x => x
 ·obtain ⟨a, rfl, ha⟩ := obj_inv hP
  cases hI.own_at ha h with | mk b e hb => exact KeepsOk.ofWrap e
theorem b_next (hc : K.calm = true) (hn : LnxS i st Q E) : BC K (.builtin "next") [.obj i] st Q E := by
 intro ws A G s QQ EE ok hP hI hE H
 obtain ⟨w, rfl, hx⟩ := one_arg hP
 obtain ⟨a, rfl, ha⟩ := obj_inv hx
 have hT := hn.typeIs hI ha
 refine Calls.call_function_entry (by decide +kernel) (by decide +kernel) kdk_entry_next (kdk_args_next _) ?_
 unfold Builtin.«next»
 refine wpAny_bind (m := someArgs "next" 1 2 _) (wpAny_of_eq (a := [Value.ref a]) (by first | rfl | kernel_rfl) ?_)
 dsimp only
 refine wpAny_bind (wpAny_specialOf (name := Str.ofString "__next__") hT slot_listiter_next.lookup ?_)
 refine wpAny_ite_split (fun hab => absurd hab (by decide)) (fun _ => ?_)
 refine wpAny_bind (wpAny_callSpecial?_slot (name := Str.ofString "__next__") hT slot_listiter_next ?_)
 refine wpAny_mono (Q := QQ) (wpAny_call_entry slot_listiter_next hT entry_listiter_next (tree_lit (A := A.in1.in1) (ok.hA.handled hc) hI ha H hn) (args_listiter_next _)) (fun v s' hq => wpAny_pure ⟨v, rfl, hq⟩) fun _ _ x => x
theorem Inv.pushLit (hI : Inv c F G ρ σ s) {l : Addr} {vs : List Value} (hl : G.fz l = some (.lst vs)) (r : VRs G xs vs) :
  ∃ G', G.le G' ∧ Inv c F G' ρ (σ ++ [.lit xs 0]) { s with heap := s.heap.push { cls := .type "list_iterator", data := .fields #[.ref l, .int 0 0] } } ∧ VR G' (.obj σ.length) (.ref s.heap.objs.size) := by
 have hle : G.le (G.addSt s.heap.objs.size σ.length) := hI.ok.elim fun _ R => Gh.le_addSt (R.1.fresh (get_size _))
 have g := Heap.get?_push_size s.heap (o := { cls := .type "list_iterator", data := .fields #[.ref l, .int 0 0] }) rfl
 have h := hI.pushSt (ob := { cls := .type "list_iterator", data := .fields #[.ref l, .int 0 0] }) (o := .lit xs 0) (tk := s.toks) ⟨l, vs, ⟨_, g, rfl, rfl⟩, ⟨_, g, rfl⟩, hle.fz _ _ hl, r.mono hle⟩ rfl (Nat.le_refl _)
 exact ⟨_, h.1, h.2, VR_obj (Gh.own_addSt _ _ _)⟩
theorem b_iterL (q : Q (.obj σ.length) ⟨ρ, σ ++ [.lit xs 0]⟩) : BC K (.builtin "iter") [.lst xs] ⟨ρ, σ⟩ Q E := by
 intro ws A G s QQ EE ok hP hI hE H
 obtain ⟨w, rfl, hx⟩ := one_arg hP
 obtain ⟨l, vs, rfl, z, r⟩ := lst_inv hx
 exact wpAny_iter_list (hI.lst z) ((hI.pushLit z r).elim fun G' g => H.ok _ _ _ _ _ q g.1 g.2.1 g.2.2)
theorem b_iterO (h : σ[i]? = some (.list xs)) (q : Q (.obj σ.length) ⟨ρ, σ.set i (.flist xs) ++ [.lit xs 0]⟩) : BC K (.builtin "iter") [.obj i] ⟨ρ, σ⟩ Q E := by
 intro ws A G s QQ EE ok hP hI hE H
 obtain ⟨w, rfl, hx⟩ := one_arg hP
 obtain ⟨a, rfl, ha⟩ := obj_inv hx
 obtain ⟨G', vs, g1, g2, g3, g4⟩ := hI.fixList ha h
 refine wpAny_iter_list (g2.lst g3) ((g2.pushLit g3 g4).elim fun G₂ g => ?_)
 have g3 := g.2.2
 rw [List.length_set] at g3
 exact H.ok _ _ _ _ _ q (g1.trans g.1) g.2.1 g3
theorem b_iterF (h : σ[i]? = some (.flist xs)) (q : Q (.obj σ.length) ⟨ρ, σ ++ [.lit xs 0]⟩) : BC K (.builtin "iter") [.obj i] ⟨ρ, σ⟩ Q E := by
 intro ws A G s QQ EE ok hP hI hE H
 obtain ⟨w, rfl, hx⟩ := one_arg hP
 obtain ⟨a, rfl, ha⟩ := obj_inv hx
 cases hI.own_at ha h with | mk vs z r => exact wpAny_iter_list (hI.lst z) ((hI.pushLit z r).elim fun G' g => H.ok _ _ _ _ _ q g.1 g.2.1 g.2.2)
theorem a_next (h : σ[i]? = some (.lit xs k)) (q : Q (.obj σ.length) ⟨ρ, σ ++ [.bm i]⟩) : AX K (.obj i) "__next__" ⟨ρ, σ⟩ Q E := by
 refine fun w expr => on_obj1 (K := K) (t := fun w => getAttr w "__next__" expr) h (fun a A G s QQ EE ok ha hO hI hE H => ?_) w
 cases hO with | mk l vs hit hnd hl r => ?_
 obtain ⟨ob, e1, e2, e3⟩ := hit
 obtain ⟨ob', e4, e5⟩ := hnd
 cases e1.symm.trans e4
 have hle : G.le (G.addSt s.heap.objs.size σ.length) := hI.ok.elim fun _ R => Gh.le_addSt (R.1.fresh (get_size _))
 have g := hI.pushSt (ob := wrapOf a) (o := .bm i) (tk := s.toks + 1) ⟨a, Heap.get?_push_size _ rfl, hle.own _ _ ha⟩ rfl (Nat.le_succ _)
 obtain ⟨hp, gg, dd, t, os⟩ := s
 exact getAttr_next e1 e2 e5 e3 (H.ok _ _ _ _ _ q g.1 g.2 (VR_obj (Gh.own_addSt _ _ _)))
end
end Mine
end
section
namespace Mine
open PySem PySem.W PyProof.Rows PySem.SeqAt
section
variable {K : Kx} {st : St} {ρ : Str → Option V} {σ σ' : List O} {E : X → St → Prop} {Q : V → St → Prop} {G : Gh} {s : Shared} {u v x : V} {w : Value} {A : Around} {c : Cx} {F : Fm} {vs : List V} {kv : List (Str × V)} {i k d : Nat} {nm : Str} {xs : List V} {P : Gh → Prop}
theorem on_one {f : Value} (h : ∀ w A G s QQ EE, K.Ok A → VR G v w → K.Inv G st s → Ends K G RV Q E QQ EE → wpAny K.c.M A (call f [w]) QQ EE s) : BC K f [v] st Q E := fun ws A G s QQ EE ok hP hI hE H => by
 obtain ⟨w, rfl, hx⟩ := one_arg hP
 exact h w A G s QQ EE ok hx hI H
theorem on_one_obj {f : Value} {o : O} (ho : st.σ[i]? = some o) (h : ∀ a A G s QQ EE, K.Ok A → G.own a = some (.st i) → ORs K.c G s.heap a o → K.Inv G st s → Ends K G RV Q E QQ EE → wpAny K.c.M A (call f [.ref a]) QQ EE s) : BC K f [.obj i] st Q E := on_one fun w A G s QQ EE ok hx hI H => by
 obtain ⟨a, rfl, ha⟩ := obj_inv hx
 exact h a A G s QQ EE ok ha (hI.own_at ha ho) hI H
theorem len_at {l : Addr} {ws : List Value} {QQ EE : Value → Shared → Prop} (hL : s.heap.IsList l ws.toArray) (r : ws.length = xs.length) (hl : xs.length ≤ lim) (hI : K.Inv G st s) (H : Ends K G RV Q E QQ EE) (q : Q (.int xs.length) st) : wpAny K.c.M A (call (.builtin "len") [.ref l]) QQ EE s := by
 have hs : ws.toArray.size = xs.length := by rw [List.size_toArray, r]
 refine PyProof.Rows.len_list hL (by rw [hs]; unfold lim at hl; omega) ?_
 rw [hs]
 exact H.here q (hI.toks (by omega)) (VR_int _ _)
theorem b_lenL (hl : xs.length ≤ lim) (q : Q (.int xs.length) st) : BC K (.builtin "len") [.lst xs] st Q E := on_one fun w A G s QQ EE ok hx hI H => by
 obtain ⟨l, vs, rfl, z, r⟩ := lst_inv hx
 exact len_at (hI.lst z) r.length.symm hl hI H q
theorem b_lenO (h : st.σ[i]? = some (.list xs)) (hl : xs.length ≤ lim) (q : Q (.int xs.length) st) : BC K (.builtin "len") [.obj i] st Q E := on_one_obj h fun a A G s QQ EE ok ha hO hI H => by
 cases hO with | mk vs n e r => exact len_at (ListAt.isList e) r.length.symm hl hI H q
theorem b_lenT (hl : xs.length ≤ lim) (q : Q (.int xs.length) st) : BC K (.builtin "len") [.tup xs] st Q E := on_one fun w A G s QQ EE ok hx hI H => by
 obtain ⟨l, vs, rfl, z, r⟩ := tup_inv hx
 have hs : vs.toArray.size = xs.length := by rw [List.size_toArray, r.length]
 refine PyProof.Rows.len_tuple (hI.tup z) (by rw [hs]; unfold lim at hl; omega) ?_
 rw [hs]
 exact H.here q (hI.toks (by omega)) (VR_int _ _)
theorem b_set (q : Q (.obj σ.length) ⟨ρ, σ ++ [.set []]⟩) : BC K (.type "set") [] ⟨ρ, σ⟩ Q E := fun ws A G s QQ EE ok hP hI hE H => by
 cases hP.nil_inv
 refine PySem.call_set_0 fun led => ?_
 have hS : (s.heap.push { cls := .type "set", dict := none, data := .set #[] 0 (.fresh 0 0 led) }).SetOf (intKind K.c.prog K.c.w) s.heap.objs.size (fun k => decide (k ∈ ([] : List Int))) ([] : List Int).length := by
  refine ⟨_, #[], 0, _, Heap.get?_push_size _ rfl, ⟨rfl, rfl, rfl⟩, rfl, fun e he => by simp at he, fun k => by simp, by decide +kernel, ?_, rfl⟩
  cases led <;> decide +kernel
 have g := hI.pushSt (ob := { cls := .type "set", dict := none, data := .set #[] 0 (.fresh 0 0 led) }) (o := .set []) (tk := s.toks) hS rfl (Nat.le_refl _)
 exact H.ok _ _ _ _ _ q g.1 g.2 (VR_obj (Gh.own_addSt _ _ _))
theorem VR_rng {a : Addr} {m : Nat} (h : G.fz a = some (.rng m)) : VR G (.rng m) (.ref a) := Exists.intro a ⟨rfl, h⟩
theorem b_range {m : Int} (h0 : 0 ≤ m) (q : Q (.rng m.toNat) st) : BC K (.type "range") [.int m] st Q E := on_one fun w A G s QQ EE ok hx hI H => by
 obtain ⟨t, rfl⟩ := num_inv hx rfl
 refine call_range_1 ?_
 have g := hI.addFz (a := s.heap.objs.size) (k := .rng m.toNat) (h' := s.heap.push { cls := .type "range", data := .fields #[.int 0 s.toks, .int m t, .int 1 (s.toks + 1)] }) (tk := s.toks + 1 + 1) (get_size _) (keep_push _ _)
  ⟨s.toks, t, s.toks + 1, by rw [Int.toNat_of_nonneg h0]; exact Heap.get?_push_size _ rfl⟩ (by omega)
 exact H.ok _ _ _ _ _ q g.1 g.2 (VR_rng (Gh.fz_addFz _ _ _))
theorem b_listL (hl : xs.length ≤ lim) (q : Q (.lst xs) st) : BC K (.type "list") [.lst xs] st Q E := on_one fun w A G s QQ EE ok hx hI H => by
 obtain ⟨l, vs, rfl, z, r⟩ := lst_inv hx
 obtain ⟨n, ho⟩ := hI.fz z
 refine call_list_seq l (.inl rfl) ho rfl rfl (fun h' c' hk hn => ?_) (by rw [List.size_toArray, ← r.length]; exact lim_fits hl)
 have g := hI.addFz (a := s.heap.objs.size) (k := .lst vs) (tk := s.toks) (get_size _) hk ⟨c', hn⟩ (Nat.le_refl _)
 exact H.ok _ _ _ _ _ q g.1 g.2 (VR_lst (Gh.fz_addFz _ _ _) (r.mono g.1))
theorem b_tupleO (h : st.σ[i]? = some (.list xs)) (hl : xs.length ≤ lim) (q : Q (.tup xs) st) : BC K (.type "tuple") [.obj i] st Q E := on_one_obj h fun a A G s QQ EE ok ha hO hI H => by
 cases hO with | mk vs n e r => ?_
 refine call_tuple_list (ListAt.isList e) (fun h' hk => ?_) (by rw [List.size_toArray, ← r.length]; exact lim_fits hl)
 have hI' : K.Inv G st { s with heap := h' } := hI.ext hk (Nat.le_refl _)
 have g := hI'.addFz (a := h'.objs.size) (k := .tup vs) (h' := h'.push { cls := .type "tuple", data := .seq vs.toArray }) (tk := s.toks) (get_size _) (keep_push _ _) ⟨0, Heap.get?_push_size _ rfl⟩ (Nat.le_refl _)
 exact H.ok _ _ _ _ _ q g.1 g.2 (VR_tup (Gh.fz_addFz _ _ _) (r.mono g.1))
theorem b_boolO (h : st.σ[i]? = some (.list xs)) (hl : xs.length ≤ lim) (q : Q (.bool (!xs.isEmpty)) st) : BC K (.type "bool") [.obj i] st Q E := on_one_obj h fun a A G s QQ EE ok ha hO hI H => by
 cases hO with | mk vs n e r => ?_
 have hsz : vs.toArray.size = xs.length := by rw [List.size_toArray, r.length]
 refine call_bool_lst (ListAt.isList e) (by rw [hsz]; unfold lim at hl; omega) ?_
 have e : vs.toArray.isEmpty = xs.isEmpty := by
  have := r.length
  cases xs <;> cases vs <;> simp_all
 rw [e]
 exact H.here q (hI.toks (by omega)) (VR_bool _)
theorem call_type_at {E : Value → Shared → Prop} {Q : Value → Shared → Prop} {a : Addr} {o : Obj} (ho : s.heap.get? a = some o) (hnb : (o.cls == .type "builtin_function_or_method") = false) (hq : Q o.cls s) : wpAny c.M A (call (.type "type") [.ref a]) Q E s := by
 obtain ⟨h, g, d, t, os⟩ := s
 exact PyProof.Rows.call_type_obj ho hnb hq
theorem VR_glob (w : Value) : VR G (.glob w) w := rfl
theorem b_typeS {C : Addr} {fs : List (Option V)} (h : st.σ[i]? = some (.slots C fs)) (q : Q (.glob (.ref C)) st) : BC K (.type "type") [.obj i] st Q E := on_one_obj h fun a A G s QQ EE ok ha hO hI H => by
 cases hO with | mk db sl e k0 hsz r => exact call_type_at e rfl (H.here q hI (VR_glob _))
theorem b_typeI {m : Int} (q : Q (.glob (.type "int")) st) : BC K (.type "type") [.int m] st Q E := on_one fun w A G s QQ EE ok hx hI H => by
 obtain ⟨t, rfl⟩ := num_inv hx rfl
 exact call_type_of (typeIs_int s m t) (by decide) (H.here q hI (VR_glob _))
structure BndF (K : Frag) (C : Addr) (nm : Str) (a : Addr) : Prop where
 dict : hasDictIn K C = true
 get : specialIn K (.ref a) "__get__" = some (some (.builtin "function.__get__"))
 takes : takesIn K (.ref a) = some false
 plain : copiedNames.contains nm = false
 fn : fnIn K a = true
inductive MtB (c : Cx) (G : Gh) (f : Addr) (self : V) : Value × List Value → Prop
 | mk (w b : Addr) (h3 : G.fz b = some (.whole (methodObj (.ref f) (.ref w)))) (h4 : VR G self (.ref w)) : MtB c G f self (.ref b, [])
theorem MtB.mono {G G' : Gh} (hg : G.le G') {f : Addr} {self : V} {fx : Value × List Value} (x : MtB c G f self fx) : MtB c G' f self fx := by
 cases x with | mk w b h3 h4 => exact ⟨w, b, hg.fz _ _ h3, h4.mono hg⟩
theorem keeps_bound {f : Addr} {fv : Value} {first : List Value} (hc : CxOk c) (hI : Inv c F G ρ σ s) (h5 : fnIn c.K f = true) (hf : MtB c G f u (fv, first)) : KeepsOk c fv s := by
 cases hf with | mk w b h3 h4 => ?_
 have hob : s.heap.get? b = some (methodObj (.ref f) (.ref w)) := hI.fz h3
 unfold fnIn at h5
 split at h5
 case h_2 => cases h5
 rename_i cl dd fd sl ho
 intro A Q E hq
 unfold keeperOf
 refine wpAny_bind (wpAny_load hob ?_)
 show wpAny c.M A (if (Value.type "method" != Value.type "method") = true then _ else _) Q E s
 rw [if_neg (by decide)]
 exact wpAny_bind (wpAny_load (hI.kin hc _ _ ho) (wpAny_pure (hq _)))
theorem call_bound {f : Addr} {fv : Value} {first : List Value} (h5 : fnIn K.c.K f = true) (h : CX K (.ref f) (u :: vs) kv st Q E) : CallX K (fun G => MtB K.c G f u (fv, first)) fv first vs kv st Q E := by
 refine ⟨fun ws kvs A G s QQ EE ok hP hI hE H => ?_, fun G s hc hP hI => keeps_bound hc hI h5 hP⟩
 cases hP.1 with | mk w b h3 h4 => exact wpAny_of_code (ks_codeAny_call_bound (hI.fz h3) (h (.ref w :: ws) kvs A G s QQ EE ok (VRs.cons h4 hP.2.1) hP.2.2 hI H))
theorem getAttr_bound {C f : Addr} {gs : List (Str × V)} (h : st.σ[i]? = some (.inst C d)) (hd : st.σ[d]? = some (.idict gs)) (hno : findG gs nm = none) (hm : MethF K.c.K C nm f) (hB : BndF K.c.K C nm f) :
  Run K (fun G => VR G (.obj i) w) (do let f ← getAttr w nm true; pure (f, [])) (fun G (_ : Unit) fx => MtB K.c G f (.obj i) fx) st (fun _ st' => st' = st) E := by
 refine on_obj1 (K := K) (t := fun w => do let f ← getAttr w nm true; pure (f, [])) h (fun a A G s QQ EE ok ha hO hI hE H => ?_) w
 cases hO with | mk b e hb => ?_
 cases hI.own_at hb hd with | mk kvs hdo hvs => ?_
 obtain ⟨od, des, ep, h1, h2, h3, h4, h5, h6⟩ := hdo
 have X := hI.kin ok.hc
 refine wpAny_bind ?_
 refine get_bind X (od := some od) ⟨e, rfl, rfl, h1⟩ (plainGet_of hm.get).1 (findObj_fn hB.dict hm.find hB.get hB.takes hB.plain ((lookIn_strs h3 h4 h5).trans (congrArg some (valueAt_none hvs hno)))) (plainGet_of hm.get).2
  (wpAny_call (fn_get (s := { s with toks := s.toks + 1 }) X (beq_iff_eq.mp hm.fn) (handed_on rfl (wpAny_pure ?_))))
 have g := hI.addFz (a := s.heap.objs.size) (k := .whole (methodObj (.ref f) (.ref a))) (h' := s.heap.push (methodObj (.ref f) (.ref a))) (tk := s.toks + 1) (get_size _) (keep_push _ _) (Heap.get?_push_size _ rfl) (Nat.le_succ _)
 exact H.ok () st _ _ _ rfl g.1 g.2 ⟨a, _, Gh.fz_addFz _ _ _, (VR_obj ha).mono g.1⟩
theorem x_callstar {C f : Addr} {o : PySem.Expr} {apos : Pos} {as : List PySem.Expr} {pos : Pos} (hb : ∀ env whole, attributeBase o nm env whole = whole)
  (hf : ∀ env, methodCallForm (as.length + 0) (backTo pos (starEach as env)) (backToKw pos (keywordEach [] env)) = false)
  (h : EX K o st (fun u st => ∃ i d gs, u = .obj i ∧ st.σ[i]? = some (.inst C d) ∧ st.σ[d]? = some (.idict gs) ∧ findG gs nm = none ∧ MethF K.c.K C nm f ∧ BndF K.c.K C nm f ∧
   ∀ P fv first, Up P → (∀ vs kv st Q', CX K (.ref f) (.obj i :: vs) kv st Q' E → CallX K P fv first vs kv st Q' E) → Run K P (callWith pos fv first (backTo pos (starEach as K.F.env)) (backToKw pos (keywordEach [] K.F.env))) RV st Q E) E) : EX K (.Call (.Attribute o nm apos) as [] pos) st Q E := by
 unfold EX
 rw [arm_eval_Call, hb]
 refine Run.bind up_true (h.imp fun u st q w => Run.standAt ?_)
 unfold methodCall
 rw [show methodCallForm (as.length + List.length []) (backTo pos (starEach as K.F.env)) (backToKw pos (keywordEach [] K.F.env)) = false from hf _]
 unfold calleeOf
 simp only [Bool.false_eq_true, if_false]
 obtain ⟨i, d, gs, rfl, h1, h2, h3, h4, h5, q⟩ := q
 refine Run.bind (R₁ := fun G (_ : Unit) fx => MtB K.c G f (.obj i) fx) (up_and up_true up_VR) (((getAttr_bound h1 h2 h3 h4 h5).pre fun _ h => h.2).holding.imp fun _ st' q' fx => ?_)
 cases q'
 obtain ⟨fv, first⟩ := fx
 have hpos : methodCallPos false o K.F.env apos pos = pure pos := rfl
 show Run K _ (methodCallPos false o K.F.env apos pos >>= fun callPos => callWith callPos fv first (backTo pos (starEach as K.F.env)) (backToKw pos (keywordEach [] K.F.env))) RV _ Q E
 rw [hpos]
 exact ((q (fun G => MtB K.c G f (.obj i) (fv, first)) fv first (fun _ _ hg x => x.mono hg) (fun vs kv st Q' hx => call_bound h5.fn hx)).pre fun _ h => h.2).of_wp fun A Q E s hw => wpAny_bind (wpAny_pure hw)
end
end Mine
end
section
namespace Mine
open PySem PySem.W PyProof.Rows PySem.SeqAt
noncomputable def bindsR : List (Str × V) → (Str → Option V) → Str → Option V
 | [], ρ => ρ
 | e :: r, ρ => bindsR r (upd ρ e.1 e.2)
noncomputable def retK (Q : V → St → Prop) (st : St) : Fl → Prop
 | .next => Q .none st
 | .ret v => Q v st
 | _ => False
noncomputable def BD (K : Kx) (fd : FuncData) (vs : List V) (kv bs : List (Str × V)) : Prop := ∀ A (G : Gh) st s ws kvs (QQ : List (Str × Value) → Shared → Prop) EE, CxOk K.c → VRs G vs ws → KwR G kv kvs → K.Inv G st s →
 (∀ G' us s', G.le G' → K.Inv G' st s' → KwR G' bs us → QQ us s') → wpAny K.c.M A (bindArgs fd ⟨ws, kvs⟩) QQ EE s
@[reducible] noncomputable def Kx.body (K : Kx) (F' : Fm) (sc : Scope) : Kx := ⟨K.c, K.n - 1, K.calm, F', sc⟩
section
variable {K : Kx} {st : St} {ρ : Str → Option V} {σ σ' : List O} {E : X → St → Prop} {Q : V → St → Prop} {G : Gh} {s : Shared} {A : Around} {c : Cx} {F : Fm} {vs : List V} {kv bs : List (Str × V)} {a : Addr} {fd : FuncData} {sc : Scope} {body : List Stmt}
theorem binds_wp {EE : Value → Shared → Prop} {QQ : Shared → Prop} (ok : K.Ok A) : ∀ {bs : List (Str × V)} {ws : List (Str × Value)} {ρ : Str → Option V} {G : Gh} {s : Shared}, bs.all (fun e => isLC (K.sc.names.lookup e.1)) = true → KwR G bs ws → Inv K.c K.F G ρ σ s →
  (∀ G' s', G.le G' → Inv K.c K.F G' (bindsR bs ρ) σ s' → QQ s') → wpAny K.c.M A (forIn ws PUnit.unit fun x _ => (do storeName K.F.env x.1 x.2; pure (ForInStep.yield PUnit.unit))) (fun _ s' => QQ s') EE s
 | [], ws, ρ, G, s, _, hk, hI, hp => by
  cases hk.nil_inv
  rw [List.forIn_nil]
  exact wpAny_pure (hp G s (Gh.le.refl _) hI)
 | e :: bs, ws, ρ, G, s, hall, hk, hI, hp => by
  obtain ⟨w, us, rfl, hw, hk⟩ := hk
  rw [List.all_cons, Bool.and_eq_true] at hall
  rw [List.forIn_cons]
  refine wpAny_bind (wpAny_bind (wpAny_noRaise (n_set (K := K) (E := fun _ _ => False) (Q := fun _ st => st = ⟨upd ρ e.1 e.2, σ⟩) hall.1 rfl w A G s _ (fun _ _ => False) ok hw hI PassesOwn.never ⟨fun _ st' G₁ _ s₁ q hg hI₁ _ => ?_, fun _ _ _ _ _ q => q.elim⟩)))
  cases q
  exact wpAny_pure (binds_wp ok hall.2 (hk.mono hg) hI₁ fun G' s' hg' => hp G' s' (hg.trans hg'))
theorem frame_up {sc : Scope} {L : Addr} {qn : Str} {fa : Option Addr} {code : Value} {xs : List XE} {frs : List Env} (hS : ScOk sc) (hI : Inv c (defFm sc L qn fa code xs frs) G ρ σ s) : Inv c (defFm sc L qn fa code xs ((defFm sc L qn fa code xs frs).env :: frs)) G ρ σ s :=
 hI.ok.elim fun ys p => ⟨ys, p.1, ⟨p.2.loc, p.2.cel, p.2.fre, p.2.out, fun e' he' => (List.mem_cons.mp he').elim (fun z => z ▸ p.2.loc.elim fun m hm => ⟨by show sc.kind ≠ .module; rw [hS.kind]; decide, L, m, rfl, hm.1⟩) (p.2.frs e')⟩⟩
theorem def_call (hn : 0 < K.n) (hd : DefOk K.c a fd sc body) (hb : BD K fd vs kv bs) (hall : bs.all (fun e => isLC (sc.names.lookup e.1)) = true)
  (h : ∀ F', FnFm F' → SS (K.body F' sc) body ⟨bindsR bs fun _ => none, σ⟩ (fun f st => retK Q ⟨ρ, st.σ⟩ f) fun x st => E x ⟨ρ, st.σ⟩) : CX K (.ref a) vs kv ⟨ρ, σ⟩ Q E := by
 intro ws kvs A G s QQ EE ok hv hk hI H
 obtain ⟨o, ho, hdata⟩ := hd.obj
 have hsc := hd.scope
 have hS := hd.sc
 have hA := ok.hA
 refine codeAny_call_function (Nat.lt_of_le_of_lt (Nat.le_trans (Nat.le_add_right _ _) hA.depth) (by decide)) (hI.keep _ _ ho) hdata (by rw [hsc]; exact hS.co) (by rw [hsc]; exact hS.gen) hd.body (hd.code.keeps hI.keep) (hb _ G _ s ws kvs _ _ ok.hc hv hk hI fun G₁ us s₁ hg₁ hI₁ hk => ?_)
 rw [hsc, hd.glb, hd.clo, hd.blt]
 refine wpAny_newDefEnv ?_
 obtain ⟨xs, R, f⟩ := hI₁.ok
 have R1 := R.addX (a := s₁.heap.objs.size) (P := NsP fun _ => none) (h' := s₁.heap.push { cls := .type "frame", data := .dict #[] }) (tk := s₁.toks) (get_size _) (keep_push _ _) (of_ns (Heap.Ns.new s₁.heap (.type "frame"))) (Nat.le_refl _)
 have R2 := rel_cells sc.names R1
 dsimp only at R2
 rw [show (s₁.heap.push { cls := .type "frame", data := .dict #[] }).objs.size = s₁.heap.objs.size + 1 from Heap.size_push ..] at R2
 obtain ⟨m₀, hm₀, _⟩ := f.loc
 have hbase : K.c.base.objs.size ≤ s₁.heap.objs.size := by
  obtain ⟨_, ob, hob, _⟩ := R.xsc _ hm₀
  exact Nat.le_trans ok.hF.abv (Nat.le_of_lt (Heap.lt_size hob))
 generalize hL : s₁.heap.objs.size = L at R2 hbase ⊢
 generalize hH : pushCells (s₁.heap.push { cls := .type "frame", data := .dict #[] }) sc.names = H' at R2 ⊢
 generalize hfr : defFm sc L (fd.qualname ++ ".<locals>.") (some a) fd.code xs K.F.frs = F₁
 have hF₁ : FmOk K.c F₁ := hfr ▸ defFm_ok hS hbase R2.nd
 have hI₂ : Inv K.c F₁ G₁ (fun _ => none) σ { s₁ with heap := H' } := ⟨_, R2, hfr ▸ defFm_fr hS f.frs⟩
 have ok₁ : (K.body F₁ sc).Ok A.in1 := ⟨hfr ▸ rfl, ok.hc, hF₁, ⟨hA.frames.trans (hfr ▸ rfl), hA.guards, bud hn (Nat.le_add_right _ _) hA.depth, bud hn (ad (j := 1) rfl) hA.units, hA.handled⟩⟩
 have henv : F₁.env = newEnv sc L mainGlobals (cellsFrom (L + 1) sc.names []) (fd.qualname ++ ".<locals>.") (some a) fd.code none builtinsNs := hfr ▸ rfl
 rw [← henv]
 refine binds_wp (K := K.body F₁ sc) ok₁ hall hk hI₂ fun G₂ s₂ hg₂ hI₃ => ?_
 generalize hfr' : defFm sc L (fd.qualname ++ ".<locals>.") (some a) fd.code xs (F₁.env :: K.F.frs) = F₂
 have hF₂ : FmOk K.c F₂ := hfr' ▸ defFm_ok hS hbase R2.nd
 have henv' : F₂.env = F₁.env := henv ▸ hfr' ▸ rfl
 have hfm : F₂.frs = F₂.env :: K.F.frs := henv'.symm ▸ hfr' ▸ rfl
 have ho₂ : F₂.out = xs := hfr' ▸ rfl
 have hI₄ : Inv K.c F₂ G₂ (bindsR bs fun _ => none) σ s₂ := by
  subst hfr hfr'
  exact frame_up hS hI₃
 have hgg : G.le G₂ := hg₁.trans hg₂
 refine ⟨CxNoLimit ok.hc hI₄, codeAny_func ?_⟩
 have ok₂ : (K.body F₂ sc).Ok (A.deeper F₁.env) := ⟨hfr' ▸ rfl, ok.hc, hF₂, ⟨by show A.frames.map _ = some F₂.frs; rw [hA.frames, hfm, henv']; rfl, hA.guards, bud hn (ad (j := 1) rfl) hA.depth, bud hn (ad (j := 3) rfl) hA.units, hA.handled⟩⟩
 have hloc : F₂.env.frame = some F₂.env.locals := hfr' ▸ rfl
 rw [← henv']
 refine h F₂ ⟨_, hfm⟩ _ G₂ s₂ _ _ (henv' ▸ ok₂) trivial hI₄ PassesOwn.leaving ⟨fun fl st₃ G₃ fv s₃ q hg₃ hI₅ hfl => ?_, fun x st₃ G₃ ev s₃ q hg₃ hX => ?_⟩
 ·have hI₆ : Inv K.c K.F G₃ ρ st₃.σ s₃ := hI₅.back (F := K.F) ho₂ (f.mono hg₂) hg₃ R.nd
  cases fl with
  | next =>
   obtain rfl : fv = .next := hfl
   exact H.ok _ ⟨ρ, st₃.σ⟩ G₃ .none s₃ q (hgg.trans hg₃) hI₆ VR_none
  | brk => exact q.elim
  | cont => exact q.elim
  | ret v =>
   obtain ⟨w, rfl, hw⟩ := hfl
   exact H.ok _ ⟨ρ, st₃.σ⟩ G₃ w s₃ q (hgg.trans hg₃) hI₆ hw
 ·unfold leaving
  refine wpAny_bind (exn_look hF₂ ⟨_, hfm⟩ (henv' ▸ ok₂.hA.frames) hX fun B a' a0 h' he hX' _ _ _ _ => ?_)
  exact H.ex x ⟨ρ, st₃.σ⟩ G₃ ev _ q (hgg.trans hg₃) (hX'.back (F := K.F) hF₂ ho₂ hfm hloc (f.mono hg₂) hg₃ R.nd)
end
end Mine
end
section
namespace Mine
open PySem PySem.W PyProof.Rows PySem.SeqAt
structure ClsMk (c : Cx) (C fI : Addr) : Prop where
 makes : makesIn c.K C = true
 init : findIn c.K (.ref C) "__init__" = some (some (.ref fI))
 fn : typeIn c.K (.ref fI) = some (.type "function")
@[reducible] noncomputable def Kx.less (K : Kx) : Kx := { K with n := K.n - 1 }
section
variable {K : Kx} {st : St} {ρ : Str → Option V} {σ σ' : List O} {E : X → St → Prop} {Q : V → St → Prop} {G : Gh} {s : Shared} {A : Around} {c : Cx} {F : Fm} {vs : List V} {kv : List (Str × V)} {C fI : Addr}
noncomputable abbrev tcA (A : Around) (C : Addr) (ws : List Value) (kvs : List (Str × Value)) : Around := A.under (.builtin "type.__call__" ⟨.ref C :: ws, kvs⟩)
theorem Kx.Ok.tc {ws : List Value} {kvs : List (Str × Value)} (hn : 0 < K.n) (h : K.Ok A) : K.less.Ok (tcA A C ws kvs) := by
 have h1 : (tcA A C ws kvs).depth = A.depth + 1 := rfl
 have h2 : (tcA A C ws kvs).units ≤ A.units + 4 := by first | exact Nat.le_refl _ | exact Nat.le_of_eq rfl | exact ad (j := 1) rfl
 refine ⟨h.hs, h.hc, h.hF, ⟨h.hA.frames, h.hA.guards, ?_, ?_, h.hA.handled⟩⟩
 ·rw [h1]; exact bud hn (ad (j := 1) rfl) h.hA.depth
 ·exact bud hn (Nat.le_trans h2 (ad rfl)) h.hA.units
theorem make_own (hc : CxOk c) (hm : ClsMk c C fI) (hI : Inv c F G ρ σ s) {Q E : Value → Shared → Prop} {ws : List Value} {kvs : List (Str × Value)}
  (h : codeAny c.M (tcA A C ws kvs) (.call (.ref fI) ⟨.ref (s.heap.objs.size + 1) :: ws, kvs⟩) (wants (fun v s'' => v = .none ∧ Q (.ref (s.heap.objs.size + 1)) s'') E) { s with heap := (s.heap.push emptyDict).push (instObj C s.heap.objs.size) }) :
  codeAny c.M A (.call (.ref C) ⟨ws, kvs⟩) (wants Q E) s := by
 have X := hI.kin hc
 obtain ⟨hh, g, d, t, os⟩ := s
 refine make_core (makes_of X hm.makes) (looks_findIn X hm.init) (fun self => bind_fn X self hm.fn) (.inl rfl) ?_
 refine codeAny_mono h fun r s' z => ?_
 cases r with
 | error e => exact z
 | ok fl => cases fl <;> exact z
theorem obj_there (h : Heap) (C : Addr) : ((h.push emptyDict).push (instObj C h.objs.size)).get? (h.objs.size + 1) = some (instObj C h.objs.size) ∧ (h.push emptyDict).get? (h.objs.size + 1) = none := by
 have hsz : (h.push emptyDict).objs.size = h.objs.size + 1 := Heap.size_push ..
 exact ⟨by rw [← hsz]; exact Heap.get?_push_size _ rfl, by rw [← hsz]; exact get_size _⟩
theorem Ends.made' {G' : Gh} {i : Nat} {a : Addr} {QQ : Value → Shared → Prop} {EE : Value → Shared → Prop} (H : Ends K G RV Q E QQ EE) (hg : G.le G') (ha : VR G' (.obj i) (.ref a)) : Ends K.less G' RV (fun v st => v = .none ∧ Q (.obj i) st) E (fun v s => v = .none ∧ QQ (.ref a) s) EE :=
 ⟨fun v st G₂ b s q hg₂ hI hv => ⟨by cases q.1; exact hv, H.ok _ st G₂ _ s q.2 (hg.trans hg₂) hI (ha.mono hg₂)⟩, fun x st G₂ e s q hg₂ => H.ex x st G₂ e s q (hg.trans hg₂)⟩
theorem mk_slots (hn : 0 < K.n) (hm : ClsMk K.c C fI) (k : Nat) (h : CX K.less (.ref fI) (.obj σ.length :: vs) kv ⟨ρ, σ ++ [.slots C (List.replicate k none)]⟩ (fun v st => v = .none ∧ Q (.obj σ.length) st) E) : CX K (.ref C) vs kv ⟨ρ, σ⟩ Q E := by
 intro ws kvs A G s QQ EE ok hv hk hI H
 refine make_own ok.hc hm hI ?_
 have g1 := hI.addFz (a := s.heap.objs.size) (k := .whole noDict) (h' := s.heap.push emptyDict) (tk := s.toks) (get_size _) (keep_push _ _) (Heap.get?_push_size _ rfl) (Nat.le_refl _)
 have ot := obj_there s.heap C
 have g2 := g1.2.addSt (a := s.heap.objs.size + 1) (o := .slots C (List.replicate k none)) (h' := (s.heap.push emptyDict).push (instObj C s.heap.objs.size)) (tk := s.toks) ot.2 (keep_push _ _)
  ⟨s.heap.objs.size, #[], ot.1, Gh.fz_addFz _ _ _, Nat.zero_le _, fun i f hf => by
   rw [List.getElem?_replicate] at hf
   split at hf
   ·cases hf; rfl
   ·cases hf⟩ ⟨_, ot.1⟩ (Nat.le_refl _)
 have hg := g1.1.trans g2.1
 have hown := VR_obj (G := (G.addFz s.heap.objs.size (.whole noDict)).addSt (s.heap.objs.size + 1) σ.length) (Gh.own_addSt _ _ _)
 exact h (.ref (s.heap.objs.size + 1) :: ws) kvs _ _ _ _ _ (ok.tc hn) (VRs.cons hown (hv.mono hg)) (hk.mono hg) g2.2 (H.made' hg hown)
theorem mk_inst (hn : 0 < K.n) (hm : ClsMk K.c C fI) (h : CX K.less (.ref fI) (.obj (σ.length + 1) :: vs) kv ⟨ρ, σ ++ [.idict []] ++ [.inst C σ.length]⟩ (fun v st => v = .none ∧ Q (.obj (σ.length + 1)) st) E) : CX K (.ref C) vs kv ⟨ρ, σ⟩ Q E := by
 intro ws kvs A G s QQ EE ok hv hk hI H
 refine make_own ok.hc hm hI ?_
 have hD : (s.heap.push emptyDict).DictOf (strKind K.c.prog K.c.w) s.heap.objs.size [] := Heap.DictOf.new _
 have g1 := hI.addSt (a := s.heap.objs.size) (o := .idict []) (h' := s.heap.push emptyDict) (tk := s.toks) (get_size _) (keep_push _ _) ⟨[], hD, rfl⟩ ⟨_, Heap.get?_push_size _ rfl⟩ (Nat.le_refl _)
 have ot := obj_there s.heap C
 have hlen : (σ ++ [O.idict []]).length = σ.length + 1 := by simp
 have ho1 : (G.addSt s.heap.objs.size σ.length).own s.heap.objs.size = some (.st σ.length) := Gh.own_addSt _ _ _
 have hle := Gh.le_addSt (G := G.addSt s.heap.objs.size σ.length) (a := s.heap.objs.size + 1) (i := (σ ++ [O.idict []]).length) (g1.2.ok.elim fun _ R => R.1.fresh ot.2)
 have g2 := g1.2.addSt (a := s.heap.objs.size + 1) (o := .inst C σ.length) (h' := (s.heap.push emptyDict).push (instObj C s.heap.objs.size)) (tk := s.toks) ot.2 (keep_push _ _) ⟨s.heap.objs.size, ot.1, hle.own _ _ ho1⟩ ⟨_, ot.1⟩ (Nat.le_refl _)
 rw [hlen] at g2
 have hg := g1.1.trans g2.1
 have hown := VR_obj (G := (G.addSt s.heap.objs.size σ.length).addSt (s.heap.objs.size + 1) (σ.length + 1)) (Gh.own_addSt _ _ _)
 exact h (.ref (s.heap.objs.size + 1) :: ws) kvs _ _ _ _ _ (ok.tc hn) (VRs.cons hown (hv.mono hg)) (hk.mono hg) g2.2 (H.made' hg hown)
end
end Mine
end
section
namespace Mine
open PySem PySem.W PyProof.Rows PySem.SeqAt
noncomputable def Fm.wo (F : Fm) (o : List XE) : Fm := { F with out := o }
noncomputable def AccP (vs : List Value) : Obj → Prop := fun ob => ∃ n, ob = { cls := .type "list", data := .seq vs.toArray n }
theorem apart_accP {vs : List Value} : Apart (AccP vs) := fun o h => by
 obtain ⟨n, rfl⟩ := h
 exact ⟨fun v q => (by cases q), fun es ep q => (by cases q)⟩
section
variable {c : Cx} {F : Fm} {G : Gh} {ρ : Str → Option V} {σ : List O} {s : Shared}
noncomputable def testsT (fs : List PySem.Expr) (b : Bool) (env : Env) : Sem Bool := forIn fs b fun c r => if r = true then do let ok ← isTrue c env (eval c env); pure (ForInStep.yield ok) else pure (ForInStep.yield r)
theorem tests_false (env : Env) (fs : List PySem.Expr) : testsT fs false env = pure false := by
 unfold testsT
 induction fs with
 | nil => rfl
 | cons x l ih => rw [List.forIn_cons]; exact ih
theorem tests_cons {env : Env} {e : PySem.Expr} {fs : List PySem.Expr} : testsT (e :: fs) true env = (do let ok ← isTrue e env (eval e env); testsT fs ok env) := by
 unfold testsT
 rw [List.forIn_cons]
 simp only [if_true, bind_assoc, pure_bind]
theorem FR.moveAt {xs o : List XE} {a : Addr} {P' : Obj → Prop} (hm : a ∈ o.map (·.1)) (hF : FmOk c (F.wo o)) (R : Rel c G xs σ s) (hP : ∀ e ∈ o, e.1 = a → Apart e.2) (f : FR (F.wo o) G ρ xs) : FR (F.wo (setX a P' o)) G ρ (setX a P' xs) := by
 have hmem : a ∈ xs.map (·.1) := by
  obtain ⟨e, he, rfl⟩ := List.mem_map.mp hm
  exact List.mem_map_of_mem (f := Prod.fst) (f.out e he)
 obtain ⟨e₀, he₀, hea⟩ := List.mem_map.mp hm
 have hap := hP e₀ he₀ hea
 have hob := R.xsc e₀ (f.out e₀ he₀)
 have hlo : F.env.locals ≠ a := fun q => hF.lo (by rw [show (F.wo o).env.locals = F.env.locals from rfl, q]; exact hm)
 refine ⟨?_, ?_, ?_, ?_, ?_⟩
 ·obtain ⟨m, h1, h2⟩ := f.loc
  exact ⟨m, mem_setX_ne h1 hlo, h2⟩
 ·intro x b hx hb
  obtain ⟨v, h1, h2⟩ := f.cel x b hx hb
  refine ⟨v, mem_setX_ne h1 fun q => ?_, h2⟩
  obtain ⟨_, b', hb', ho, _⟩ := hF.cel x hx
  have hb2 : (F.wo o).env.cells.lookup x = some b := hb
  rw [hb2] at hb'; cases hb'
  have q' : b = a := q
  exact ho (by rw [q']; exact hm)
 ·intro x u hx hu
  obtain ⟨b, w, h1, h2, h3⟩ := f.fre x u hx hu
  refine ⟨b, w, h1, mem_setX_ne h2 fun q => ?_, h3⟩
  have hap' := hP _ h2 q
  obtain ⟨_, ob, ho, hp⟩ := R.xsc _ (f.out _ h2)
  exact (hap' ob hp).1 _ hp
 ·intro e he
  obtain ⟨e₁, he₁, rfl⟩ := List.mem_map.mp he
  by_cases q : e₁.1 = a
  ·rw [if_pos q]; exact mem_setX hmem
  ·rw [if_neg q]; exact mem_setX_ne (f.out _ he₁) q
 ·intro e he
  obtain ⟨h1, L, m, h2, h3⟩ := f.frs e he
  refine ⟨h1, L, m, h2, mem_setX_ne h3 fun q => ?_⟩
  have q' : L = a := q
  obtain ⟨_, ob, ho, hp⟩ := hob
  obtain ⟨_, ob', ho', es, ep, hd, _⟩ := R.xsc _ h3
  rw [hea] at ho
  dsimp only at ho'
  rw [q', ho] at ho'; cases ho'
  exact (hap ob hp).2 _ _ hd
theorem Inv.moveAt {o : List XE} {a : Addr} {P' : Obj → Prop} (hm : a ∈ o.map (·.1)) (hF : FmOk c (F.wo o)) (hP : ∀ e ∈ o, e.1 = a → Apart e.2) (hI : Inv c (F.wo o) G ρ σ s) {h' : Heap} {tk : Nat} (hs : Heap.ExtBut a s.heap h')
  (hp : ∃ ob, h'.get? a = some ob ∧ P' ob) (ht : s.toks ≤ tk) : Inv c (F.wo (setX a P' o)) G ρ σ { s with heap := h', toks := tk } := by
 obtain ⟨xs, R, f⟩ := hI.ok
 have hmem : a ∈ xs.map (·.1) := by
  obtain ⟨e, he, rfl⟩ := List.mem_map.mp hm
  exact List.mem_map_of_mem (f := Prod.fst) (f.out e he)
 exact ⟨_, R.changeX hmem hs hp ht, f.moveAt hm hF R hP⟩
theorem Inv.outAt {o : List XE} {e : XE} (he : e ∈ o) (hI : Inv c (F.wo o) G ρ σ s) : ∃ ob, s.heap.get? e.1 = some ob ∧ e.2 ob := by
 obtain ⟨xs, R, f⟩ := hI.ok
 exact (R.xsc _ (f.out e he)).2
theorem setX_twice {a : Addr} {P P' : Obj → Prop} {o : List XE} : setX a P' (setX a P o) = setX a P' o := by
 unfold setX
 rw [List.map_map]
 refine List.map_congr_left fun e _ => ?_
 show (if (if e.1 = a then (a, P) else e).1 = a then _ else _) = _
 by_cases q : e.1 = a
 ·rw [if_pos q, if_pos rfl, if_pos q]
 ·rw [if_neg q, if_neg q]
theorem setX_apart {a : Addr} {vs : List Value} {o : List XE} : ∀ e ∈ setX a (AccP vs) o, e.1 = a → Apart e.2 := by
 intro e he q
 obtain ⟨e₁, _, rfl⟩ := List.mem_map.mp he
 by_cases z : e₁.1 = a
 ·rw [if_pos z]; exact apart_accP
 ·rw [if_neg z] at q; exact absurd q z
theorem mem_fst_setX {a : Addr} {P : Obj → Prop} {o : List XE} (h : a ∈ o.map (·.1)) : a ∈ (setX a P o).map (·.1) := by rw [setX_fst]; exact h
noncomputable def restT (e elt : PySem.Expr) (gens : List Comprehension) (d : Nat) (acc : Value) (env : Env) (k : Sem Fin) : Sem Fin := match gens[d]? with
 | some g' => do
  let x ← eval g'.iter env
  standAt g'.iter.pos
  if (g'.is_async != 0) = true then do
   let x ← foldedIterable g'.iter x
   let it ← holding [x] (if (g'.is_async != 0) = true then asyncIter x else pyIter x)
   let _ ← runOwn (.compStart e d it acc env) env
   k
  else do
   let x ← foldedSetIterable g'.iter env x
   let it ← holding [x] (if (g'.is_async != 0) = true then asyncIter x else pyIter x)
   let _ ← runOwn (.compStart e d it acc env) env
   k
 | none => do
  (do
   let v ← eval elt env
   let _ ← call (.builtin "list.append") [acc, v]
   pure () : Sem Unit)
  k
theorem compTurn_at {elt : PySem.Expr} {gens : List Comprehension} {scope : Scope} {pos : Pos} {d : Nat} {t it0 : PySem.Expr} {fs : List PySem.Expr} {it acc : Value} {env : Env} (h : gens[d]? = some ⟨t, it0, fs, 0⟩) :
  compTurn (.ListComp elt gens scope pos) d it acc env = (do
   standAt it0.pos
   let r ← pyNext it
   match r with
   | none => pure (.done .next)
   | some v => do
    letOwnedTupleGo t it v
    assign t env v
    let ok ← testsT fs true env
    if ok = true then restT (.ListComp elt gens scope pos) elt gens (d + 1) acc env (again (.compLoop (.ListComp elt gens scope pos) d it acc env))
    else again (.compLoop (.ListComp elt gens scope pos) d it acc env)) := by
 unfold compTurn testsT restT
 simp only [h]
 rfl
theorem code_compStart {A : Around} {R : Result → Shared → Prop} {elt : PySem.Expr} {gens : List Comprehension} {scope : Scope} {pos : Pos} {d : Nat} {t it0 : PySem.Expr} {fs : List PySem.Expr} {it acc : Value} {env : Env} (h : gens[d]? = some ⟨t, it0, fs, 0⟩)
  (h0 : codeAny c.M A (.compLoop (.ListComp elt gens scope pos) d it acc env) R s)
  (h1 : wpAny c.M A (pyIter it) (fun it' s' => codeAny c.M A (.compLoop (.ListComp elt gens scope pos) d it' acc env) R s') (fun _ _ => False) s) :
  codeAny c.M A (.compStart (.ListComp elt gens scope pos) d it acc env) R s := by
 refine codeAny_of_tree ?_
 show wpAny _ _ ((compStart (.ListComp elt gens scope pos) d it acc env).onRaise (fun x => do noteFrame x env; standAt theWindowsPlace)) _ _ s
 refine wpAny_notedAt ?_
 unfold compStart
 have hcl : clausesOf (.ListComp elt gens scope pos) = gens := rfl
 rw [hcl, h]
 show wpAny _ _ (ask >>= _) _ _ s
 refine wpAny_bind (wpAny_askSetting (wpAny_ite ?_))
 split
 ·first
   | exact wpAny_bind (wpAny_pure (wpAny_pure (And.intro rfl h0)))
   | exact wpAny_pure (And.intro rfl h0)
 ·first
   | exact wpAny_bind (wpAny_rule (wpAny_bind (wpAny_standAt (wpAny_bind (wpAny_mono h1 (fun it' s' h' => wpAny_pure (And.intro rfl h')) fun _ _ x => x.elim)))))
   | (refine wpAny_bind (wpAny_rule ?_); show wpAny _ _ (standAt it0.pos >>= _) _ _ s; exact wpAny_bind (wpAny_standAt (wpAny_bind (wpAny_mono h1 (fun it' s' h' => wpAny_pure (And.intro rfl h')) fun _ _ x => x.elim))))
end
@[reducible] noncomputable def Kx.at (k : Kx) (F : Fm) : Kx := { k with F := F }
noncomputable abbrev no : X → St → Prop := fun _ _ => False
noncomputable def EXs (k : Kx) (e : PySem.Expr) (st : St) (Q : V → St → Prop) : Prop := ∀ F, EX (k.at F) e st Q no
noncomputable def TAs (k : Kx) (t : PySem.Expr) (v : V) (st : St) (Q : Unit → St → Prop) : Prop := ∀ F, TA (k.at F) t v st Q no
noncomputable def TEs (k : Kx) : List PySem.Expr → St → (Bool → St → Prop) → Prop
 | [], st, Q => Q true st
 | e :: fs, st, Q => ∀ F, TS (k.at F) e st (fun b st => match b with | true => TEs k fs st Q | false => Q false st) no
noncomputable def CEach (k : Kx) (t : PySem.Expr) (fs : List PySem.Expr) (B : List V → St → (List V → St → Prop) → Prop) : List V → List V → St → (List V → St → Prop) → Prop
 | [], acc, st, Q => Q acc st
 | x :: r, acc, st, Q => TAs k t x st fun _ st => TEs k fs st fun b st => match b with | true => B acc st fun acc st => CEach k t fs B r acc st Q | false => CEach k t fs B r acc st Q
noncomputable def CB (k : Kx) (elt : PySem.Expr) : List Comprehension → List V → St → (List V → St → Prop) → Prop
 | [], acc, st, Q => EXs k elt st fun v st => acc.length < lim ∧ Q (acc ++ [v]) st
 | g :: gs, acc, st, Q => g.is_async = 0 ∧ (∀ env x, foldedSetIterable g.iter env x = pure x) ∧ EXs k g.iter st fun v st => ∃ xs σ', ItV st.σ v xs σ' ∧ CEach k g.target g.ifs (CB k elt gs) xs acc ⟨st.ρ, σ'⟩ Q
noncomputable def MonoB (B : List V → St → (List V → St → Prop) → Prop) : Prop := ∀ acc st Q Q', (∀ a s, Q a s → Q' a s) → B acc st Q → B acc st Q'
theorem TEs.mono {k : Kx} : ∀ {fs : List PySem.Expr} {st : St} {Q Q' : Bool → St → Prop}, (∀ b s, Q b s → Q' b s) → TEs k fs st Q → TEs k fs st Q'
 | [], st, Q, Q', h, x => h true st x
 | e :: fs, st, Q, Q', h, x => fun F => Run.imp (x F) fun b st q => match b with
  | true => TEs.mono h q
  | false => h false st q
theorem CEach.mono {k : Kx} {t : PySem.Expr} {fs : List PySem.Expr} {B : List V → St → (List V → St → Prop) → Prop} (hB : MonoB B) : ∀ xs : List V, MonoB (CEach k t fs B xs)
 | [], acc, st, Q, Q', h, x => h acc st x
 | y :: r, acc, st, Q, Q', h, x => fun F w => Run.imp (x F w) fun _ st q => q.mono fun b st q => match b with
  | true => hB _ _ _ _ (fun a s z => CEach.mono hB r a s _ _ h z) q
  | false => CEach.mono hB r acc st _ _ h q
theorem CB.mono {k : Kx} {elt : PySem.Expr} : ∀ gs : List Comprehension, MonoB (CB k elt gs)
 | [], acc, st, Q, Q', h, x => fun F => Run.imp (x F) fun v st q => ⟨q.1, h _ _ q.2⟩
 | g :: gs, acc, st, Q, Q', h, x => ⟨x.1, x.2.1, fun F => Run.imp (x.2.2 F) fun v st q => q.imp fun xs q => q.imp fun σ' q => ⟨q.1, CEach.mono (CB.mono gs) xs _ _ _ _ h q.2⟩⟩
theorem TEs.run {k : Kx} {F : Fm} : ∀ {fs : List PySem.Expr} {st : St} {Q : Bool → St → Prop}, TEs k fs st Q → Run (k.at F) (fun _ => True) (testsT fs true F.env) (fun _ b b' => b' = b) st Q no
 | [], st, Q, h => Run.pure (fun _ _ => rfl) h
 | e :: fs, st, Q, h => by
  rw [tests_cons]
  refine Run.bind up_true ((h F).imp fun b st q b' A G s QQ EE ok hp hI hE H => ?_)
  cases hp.2
  cases b with
  | true => exact TEs.run q A G s QQ EE ok trivial hI hE H
  | false =>
   rw [tests_false]
   exact wpAny_pure (H.here q hI rfl)
theorem no_ex {α β : Type} {K : Kx} {G : Gh} {R : Gh → α → β → Prop} {Q : α → St → Prop} {QQ : β → Shared → Prop} (h : ∀ a st G' b s, Q a st → G.le G' → K.Inv G' st s → R G' a b → QQ b s) : Ends K G R Q no QQ fun _ _ => False := ⟨h, fun _ _ _ _ _ q => q.elim⟩
noncomputable def RestOk (k : Kx) (F : Fm) (A : Around) (D : Addr) (elt : PySem.Expr) (gens : List Comprehension) (scope : Scope) (pos : Pos) (B : List V → St → (List V → St → Prop) → Prop) (d : Nat) : Prop :=
 ∀ o G st s ys vs (kk : Sem Fin) QQ EE, D ∈ o.map (·.1) → FmOk k.c (F.wo (setX D (AccP vs) o)) → Inv k.c (F.wo (setX D (AccP vs) o)) G st.ρ st.σ s → VRs G ys vs →
  B ys st (fun zs st' => ∀ G' ws s', G.le G' → Inv k.c (F.wo (setX D (AccP ws) o)) G' st'.ρ st'.σ s' → VRs G' zs ws → wpAny k.c.M A kk QQ EE s') → wpAny k.c.M A (restT (.ListComp elt gens scope pos) elt gens d (.ref D) F.env kk) QQ EE s
theorem setX_cons_ne {a b : Addr} {P Q : Obj → Prop} {o : List XE} (h : b ≠ a) : setX a P ((b, Q) :: o) = (b, Q) :: setX a P o := by
 unfold setX
 rw [List.map_cons, if_neg h]
theorem FmOk.same {c : Cx} {F : Fm} {o o' : List XE} (hF : FmOk c (F.wo o)) (e : o'.map (·.1) = o.map (·.1)) : FmOk c (F.wo o') :=
 { hF with
  cel := fun x hx => by
   obtain ⟨h1, b, h2, h3, h4⟩ := hF.cel x hx
   exact ⟨h1, b, h2, by show b ∉ o'.map (·.1); rw [e]; exact h3, h4⟩
  lo := by show F.env.locals ∉ o'.map (·.1); rw [e]; exact hF.lo
  outNd := by show (o'.map (·.1)).Nodup; rw [e]; exact hF.outNd }
theorem FmOk.tail {c : Cx} {F : Fm} {e : XE} {o : List XE} (hF : FmOk c (F.wo (e :: o))) : FmOk c (F.wo o) :=
 { hF with
  cel := fun x hx => by
   obtain ⟨h1, b, h2, h3, h4⟩ := hF.cel x hx
   exact ⟨h1, b, h2, fun q => h3 (List.mem_cons_of_mem _ q), h4⟩
  lo := fun q => hF.lo (List.mem_cons_of_mem _ q)
  outNd := (List.nodup_cons.mp hF.outNd).2 }
section
variable {k : Kx} {F : Fm} {A : Around} {D : Addr} {elt : PySem.Expr} {gens : List Comprehension} {scope : Scope} {pos : Pos} {B : List V → St → (List V → St → Prop) → Prop} {d : Nat} {G : Gh} {st : St} {s : Shared} {t it0 : PySem.Expr} {fs : List PySem.Expr}
noncomputable def CLp (k : Kx) (F : Fm) (D it : Addr) (ik : IK) (o : List XE) (xs : List V) (W : List V → List V → St → Prop) (G : Gh) (m : Nat) (s : Shared) : Prop :=
 ∃ j G' st' ys' vs', m = xs.length - j ∧ G.le G' ∧ Inv k.c (F.wo ((it, ItP ik j) :: setX D (AccP vs') o)) G' st'.ρ st'.σ s ∧ VRs G' ys' vs' ∧ W (xs.drop j) ys' st'
theorem CLp.elim {it : Addr} {ik : IK} {xs : List V} {o : List XE} {W : List V → List V → St → Prop} {m : Nat} {P : Prop} (h : CLp k F D it ik o xs W G m s)
  (f : ∀ j G' st' ys' vs', m = xs.length - j → G.le G' → Inv k.c (F.wo ((it, ItP ik j) :: setX D (AccP vs') o)) G' st'.ρ st'.σ s → VRs G' ys' vs' → W (xs.drop j) ys' st' → P) : P :=
 Exists.elim h fun j h => h.elim fun G' h => h.elim fun st' h => h.elim fun ys h => h.elim fun vs h => f j G' st' ys vs h.1 h.2.1 h.2.2.1 h.2.2.2.1 h.2.2.2.2
theorem CLp.next {it : Addr} {ik : IK} {xs ys : List V} {vs : List Value} {o : List XE} {W : List V → List V → St → Prop} {m j : Nat} {G' : Gh} {st' : St} {x : V} (hm : m = xs.length - j) (hx : xs[j]? = some x) (hg : G.le G') (hI : Inv k.c (F.wo ((it, ItP ik (j + 1)) :: setX D (AccP vs) o)) G' st'.ρ st'.σ s) (hv : VRs G' ys vs) (h : W (xs.drop (j + 1)) ys st') : ∃ m', m' < m ∧ CLp k F D it ik o xs W G m' s :=
 ⟨xs.length - (j + 1), hm ▸ Nat.sub_lt_sub_left (List.getElem?_eq_some_iff.mp hx).1 (Nat.lt_succ_self j), j + 1, G', st', ys, vs, rfl, hg, hI, hv, h⟩
theorem comp_loop (okb : ∀ o, FmOk k.c (F.wo o) → (k.at (F.wo o)).Ok A) (hc : k.calm = true) (hgd : gens[d]? = some ⟨t, it0, fs, 0⟩) (hB : MonoB B) (hrest : RestOk k F A D elt gens scope pos B (d + 1)) {it : Addr} {ik : IK} {xs : List V} {o : List XE} {ys : List V} {vs : List Value} {R : Result → Shared → Prop} {Fn : List V → St → Prop} (hD : D ∈ o.map (·.1))
  (hF : FmOk k.c (F.wo ((it, ItP ik 0) :: setX D (AccP vs) o))) (hI : Inv k.c (F.wo ((it, ItP ik 0) :: setX D (AccP vs) o)) G st.ρ st.σ s) (hk : IkOk k.c G ik xs) (hv : VRs G ys vs)
  (h : CEach k t fs B xs ys st Fn) (hfn : ∀ zs st' G' ws s', Fn zs st' → G.le G' → Inv k.c (F.wo (setX D (AccP ws) o)) G' st'.ρ st'.σ s' → VRs G' zs ws → R (.ok .next) s') :
  codeAny k.c.M A (.compLoop (.ListComp elt gens scope pos) d (.ref it) (.ref D) F.env) R s := by
 have hne : it ≠ D := fun q => (List.nodup_cons.mp hF.outNd).1 (by
  show it ∈ (setX D (AccP vs) o).map (·.1)
  rw [setX_fst, q]; exact hD)
 have hFj : ∀ j vs', FmOk k.c (F.wo ((it, ItP ik j) :: setX D (AccP vs') o)) := fun j vs' => hF.same (by rw [List.map_cons, List.map_cons, setX_fst, setX_fst])
 refine codeAny_loop rfl (CLp k F D it ik o xs (fun r ys st => CEach k t fs B r ys st Fn) G) (fun m s' hL => hL.elim fun j G' st' ys' vs' hm hg' hI' hv' hp => ?_) xs.length ⟨0, G, st, ys, vs, rfl, Gh.le.refl _, hI, hv, h⟩
 show wpAny _ A ((compTurn (.ListComp elt gens scope pos) d (.ref it) (.ref D) F.env).onRaise _) _ _ s'
 refine wpAny_noted ?_
 rw [compTurn_at hgd]
 refine wpAny_bind (wpAny_standAt (wpAny_bind ?_))
 have hset : ∀ ws, setX D (AccP ws) ((it, ItP ik (j + 1)) :: o) = (it, ItP ik (j + 1)) :: setX D (AccP ws) o := fun ws => setX_cons_ne hne
 refine pyNext_it (F := F.wo (setX D (AccP vs') o)) ((okb _ (hFj j vs').tail).hA.handled hc) (hFj j vs') hI' (hk.mono hg') ⟨fun x v h' tk hx hxv hI₂ => wpAny_bind (letGo_it (F := F.wo (setX D (AccP vs') o)) hI₂ (wpAny_bind (wpAny_noRaise ?_))),
  fun h' hx hI₂ => wpAny_pure (hfn _ _ G' vs' _ (drop_none (P := fun r => CEach k t fs B r ys' st' Fn) hx hp) hg' hI₂ hv')⟩
 refine drop_some (P := fun r => CEach k t fs B r ys' st' Fn) hx hp _ v A G' _ _ (fun _ _ => False) (okb _ (hFj (j + 1) vs')) hxv hI₂ PassesOwn.never (no_ex fun _ st₁ G₁ _ s₁ q hg₁ hI₃ _ => wpAny_bind (wpAny_noRaise ?_))
 refine q.run (F := F.wo ((it, ItP ik (j + 1)) :: setX D (AccP vs') o)) A G₁ _ _ (fun _ _ => False) (okb _ (hFj (j + 1) vs')) trivial hI₃ PassesOwn.never (no_ex fun b st₂ G₂ b' s₂ q hg₂ hI₄ hb => ?_)
 cases hb
 have hv₂ : VRs G₂ ys' vs' := (hv'.mono hg₁).mono hg₂
 have hgg := (hg'.trans hg₁).trans hg₂
 cases b with
 | true => exact hrest ((it, ItP ik (j + 1)) :: o) G₂ st₂ s₂ ys' vs' _ _ _ (List.mem_cons_of_mem _ hD) (by rw [hset]; exact hFj _ _) (by rw [hset]; exact hI₄) hv₂ (hB _ _ _ _ (fun zs st₃ q G₃ ws s₃ hg₃ hI₅ hz => wpAny_pure ⟨rfl, CLp.next hm hx (hgg.trans hg₃) (by rw [hset] at hI₅; exact hI₅) hz q⟩) q)
 | false => exact wpAny_pure ⟨rfl, CLp.next hm hx hgg hI₄ hv₂ q⟩
theorem restT_some {e : PySem.Expr} {acc : Value} {env : Env} {k : Sem Fin} (h : gens[d]? = some ⟨t, it0, fs, 0⟩) : restT e elt gens d acc env k = (do
   let x ← eval it0 env
   standAt it0.pos
   let x ← foldedSetIterable it0 env x
   let it ← holding [x] (pyIter x)
   let _ ← runOwn (.compStart e d it acc env) env
   k) := by
 unfold restT
 rw [h]
 rfl
theorem restT_none {e : PySem.Expr} {acc : Value} {env : Env} {k : Sem Fin} (h : gens[d]? = none) : restT e elt gens d acc env k = (do
  (do
   let v ← eval elt env
   let _ ← call (.builtin "list.append") [acc, v]
   pure () : Sem Unit)
  k) := by
 unfold restT
 rw [h]
theorem rest_nil (okb : ∀ o, FmOk k.c (F.wo o) → (k.at (F.wo o)).Ok A) (hn : gens[d]? = none) : RestOk k F A D elt gens scope pos (CB k elt []) d := by
 intro o G st s ys vs kk QQ EE hD hF hI hv hp
 rw [restT_none hn]
 refine wpAny_bind (wpAny_bind (wpAny_noRaise (hp _ A G s _ (fun _ _ => False) (okb _ hF) trivial hI PassesOwn.never (no_ex fun x st₁ G₁ w s₁ q hg₁ hI₁ hw => (hI₁.outAt (mem_setX hD)).elim fun ob p => p.2.elim fun n' hn' => ?_))))
 have hv₁ := hv.mono hg₁
 refine wpAny_bind (wpAny_list_append_plain (items := vs.toArray) ⟨n', hn' ▸ p.1⟩ (fun h' p hs => p.elim fun k' e' => wpAny_pure ?_) (by rw [List.size_toArray, ← hv₁.length]; exact lim_fits (Nat.le_of_lt q.1)))
 have hI₂ := hI₁.moveAt (P' := AccP (vs ++ [w])) (tk := s₁.toks) (mem_fst_setX hD) hF setX_apart hs.extBut ⟨_, e', k', by simp⟩ (Nat.le_refl _)
 rw [setX_twice] at hI₂
 exact q.2 G₁ (vs ++ [w]) _ hg₁ hI₂ (hv₁.snoc hw)
theorem rest_some (okb : ∀ o, FmOk k.c (F.wo o) → (k.at (F.wo o)).Ok A) (hc : k.calm = true) {gs : List Comprehension} (hgd : gens[d]? = some ⟨t, it0, fs, 0⟩) (hrest : RestOk k F A D elt gens scope pos (CB k elt gs) (d + 1)) : RestOk k F A D elt gens scope pos (CB k elt (⟨t, it0, fs, 0⟩ :: gs)) d := by
 intro o G st s ys vs kk QQ EE hD hF hI hv hp
 rw [restT_some hgd]
 refine wpAny_bind (wpAny_noRaise (hp.2.2 _ A G s _ (fun _ _ => False) (okb _ hF) trivial hI PassesOwn.never (no_ex fun x st₁ G₁ w s₁ q hg₁ hI₁ hw => q.elim fun xs q => q.elim fun σ' q => wpAny_bind (wpAny_standAt (wpAny_bind (wpAny_of_eq (hp.2.1 _ w) (wpAny_bind (wpAny_holding ?_))))))))
 refine pyIter_it (F := F.wo (setX D (AccP vs) o)) hF hI₁ hw q.1 ⟨fun G₂ ik itA h' hg₂ hk hF₂ hI₂ => wpAny_bind (wpAny_runOwn ?_)⟩
 rw [Around.mark_none]
 have hl : codeAny k.c.M A (.compLoop (.ListComp elt gens scope pos) d (.ref itA) (.ref D) F.env) (fun r s' => match r with | .ok f => wpAny k.c.M A kk QQ EE s' | .error e => cameBackBy k.c.M A F.env EE e s') { s₁ with heap := h' } :=
  comp_loop (st := ⟨st₁.ρ, σ'⟩) okb hc hgd (CB.mono gs) hrest hD hF₂ hI₂ hk ((hv.mono hg₁).mono hg₂) q.2 fun zs st₃ G' ws s' q hg' => q G' ws s' ((hg₁.trans hg₂).trans hg')
 exact code_compStart hgd hl (pyIter_self (F := F.wo (setX D (AccP vs) o)) hI₂ hl)
theorem rest_ok (okb : ∀ o, FmOk k.c (F.wo o) → (k.at (F.wo o)).Ok A) (hc : k.calm = true) (gs : List Comprehension) : ∀ (d : Nat), gens.drop d = gs → RestOk k F A D elt gens scope pos (CB k elt gs) d := by
 induction gs with
 | nil => exact fun d hd => rest_nil okb (List.getElem?_eq_none_iff.mpr (List.drop_eq_nil_iff.mp hd))
 | cons g gs ih =>
  intro d hd o G st s ys vs kk QQ EE hD hF hI hv hp
  obtain ⟨t, it0, fs, a⟩ := g
  cases (show a = 0 from hp.1)
  exact rest_some okb hc (by have := congrArg (fun l => l[0]?) hd; simpa using this) (ih (d + 1) (by have := congrArg List.tail hd; simpa [List.tail_drop] using this)) o G st s ys vs kk QQ EE hD hF hI hv hp
end
end Mine
end
section
namespace Mine
open PySem PySem.W PyProof.Rows PySem.SeqAt
noncomputable def innerρ (csc : Scope) (ρ : Str → Option V) : Str → Option V := fun x => if csc.names.lookup x = some .free then ρ x else none
noncomputable def nestOk (sc csc : Scope) : Bool := csc.kind == .function && decide (csc.names.map (·.1)).Nodup && decide (csc.names.lookup ("__classdict__" : Str) = none) &&
 csc.names.all fun x => x.2 != .free || decide (sc.names.lookup x.1 = some .cell) || decide (sc.names.lookup x.1 = some .free)
theorem cellsFrom_only {x : Str} {a : Addr} : ∀ (names : List (Str × NameKind)) (n : Nat), (x, a) ∈ cellsFrom n names [] → (x, NameKind.cell) ∈ names
 | [], n, h => by simp [cellsFrom] at h
 | (nm, k) :: r, n, h => by
  unfold cellsFrom at h
  split at h
  ·rename_i hk
   rw [cellsFrom_append] at h
   rcases List.mem_append.mp h with q | q
   ·exact List.mem_cons_of_mem _ (cellsFrom_only r _ q)
   ·cases List.mem_singleton.mp q
    rw [beq_iff_eq.mp hk]
    exact List.mem_cons_self
  ·exact List.mem_cons_of_mem _ (cellsFrom_only r _ h)
noncomputable def freeFrom (env : Env) : List (Str × NameKind) → List (Str × Addr) → List (Str × Addr)
 | [], acc => acc
 | (n, k) :: r, acc => if k == .free then freeFrom env r ((n, (env.cells.lookup n).getD 0) :: acc) else freeFrom env r acc
theorem freeFrom_mem {env : Env} {x : Str} {a : Addr} : ∀ (names : List (Str × NameKind)) (acc : List (Str × Addr)), (x, a) ∈ freeFrom env names acc → (x, a) ∈ acc ∨ a = (env.cells.lookup x).getD 0
 | [], acc, h => .inl h
 | (n, k) :: r, acc, h => by
  unfold freeFrom at h
  split at h
  ·rcases freeFrom_mem r _ h with q | q
   ·rcases List.mem_cons.mp q with z | z
    ·cases z; exact .inr rfl
    ·exact .inl z
   ·exact .inr q
  ·exact freeFrom_mem r acc h
theorem freeFrom_has {env : Env} {x : Str} : ∀ (names : List (Str × NameKind)) (acc : List (Str × Addr)), (x, NameKind.free) ∈ names ∨ (∃ a, (x, a) ∈ acc) → ∃ a, (x, a) ∈ freeFrom env names acc
 | [], acc, h => by
  rcases h with q | q
  ·cases q
  ·exact q
 | (n, k) :: r, acc, h => by
  unfold freeFrom
  split
  ·refine freeFrom_has r _ ?_
   rcases h with q | ⟨a, q⟩
   ·rcases List.mem_cons.mp q with z | z
    ·cases z; exact .inr ⟨_, List.mem_cons_self⟩
    ·exact .inl z
   ·exact .inr ⟨a, List.mem_cons_of_mem _ q⟩
  ·rename_i hk
   refine freeFrom_has r acc ?_
   rcases h with q | q
   ·rcases List.mem_cons.mp q with z | z
    ·cases z; exact absurd (by rfl) hk
    ·exact .inl z
   ·exact .inr q
theorem lookup_none_of {α : Type} {x : Str} {l : List (Str × α)} (h : ∀ a, (x, a) ∉ l) : l.lookup x = none := by
 cases q : l.lookup x with
 | none => rfl
 | some a => exact absurd (mem_of_lookup q) (h a)
theorem lookup_nodup {α : Type} {x : Str} {a : α} {l : List (Str × α)} (nd : (l.map (·.1)).Nodup) (h : (x, a) ∈ l) : l.lookup x = some a := by
 induction l with
 | nil => cases h
 | cons e l ih =>
  obtain ⟨k, v⟩ := e
  rw [List.map_cons, List.nodup_cons] at nd
  rw [List.lookup_cons]
  rcases List.mem_cons.mp h with q | q
  ·cases q; simp
  ·have hne : (x == k) = false := by
    rw [beq_eq_false_iff_ne]
    intro z
    subst z
    exact nd.1 (List.mem_map.mpr ⟨(x, a), q, rfl⟩)
   rw [hne]
   exact ih nd.2 q
theorem freeFrom_lookup {env : Env} {x : Str} {a : Addr} {names : List (Str × NameKind)} (hf : (x, NameKind.free) ∈ names) (he : env.cells.lookup x = some a) : (freeFrom env names []).lookup x = some a := by
 obtain ⟨b, hb⟩ := freeFrom_has (env := env) names [] (.inl hf)
 obtain ⟨b', hb'⟩ := lookup_of_mem hb
 rcases freeFrom_mem names [] (mem_of_lookup hb') with q | q
 ·cases q
 ·rw [hb', q, he]; rfl
theorem closure_is {scope : Scope} {env : Env} (h : ∀ x, (x, NameKind.free) ∈ scope.names → ∃ a, env.cells.lookup x = some a) : closureFor scope env = pure (freeFrom env scope.names []) := by
 have key : ∀ (names : List (Str × NameKind)) (acc : List (Str × Addr)), (∀ x, (x, NameKind.free) ∈ names → ∃ a, env.cells.lookup x = some a) →
   (forIn names acc (fun (x : Str × NameKind) (cs : List (Str × Addr)) => match x with | (name, kind) => if (kind == NameKind.free) = true then do let a ← cellOf env name; pure (ForInStep.yield ((name, a) :: cs)) else pure (ForInStep.yield cs)) : Sem _) = pure (freeFrom env names acc) := by
  intro names
  induction names with
  | nil => intro acc _; rfl
  | cons x r ih =>
   obtain ⟨nm, k⟩ := x
   intro acc hh
   rw [List.forIn_cons]
   unfold freeFrom
   by_cases hk : (k == NameKind.free) = true
   ·simp only [hk, if_true]
    obtain ⟨a, ha⟩ := hh nm (by rw [beq_iff_eq.mp hk]; exact List.mem_cons_self)
    unfold cellOf
    rw [ha]
    simp only [pure_bind, Option.getD_some]
    exact ih _ fun y hy => hh y (List.mem_cons_of_mem _ hy)
   ·simp only [hk, if_false, Bool.false_eq_true, pure_bind]
    exact ih _ fun y hy => hh y (List.mem_cons_of_mem _ hy)
 unfold closureFor
 simp only
 rw [key scope.names [] h]
 rfl
theorem relabel_kind {scope : Scope} {env : Env} {x : Str} {k : NameKind} (h : scope.names.lookup x = some k) : (relabel scope env).names.lookup x = some k ∨ (k = .free ∧ (relabel scope env).names.lookup x = some .cell) := by
 unfold relabel
 dsimp only
 generalize scope.names = names at h
 induction names with
 | nil => cases h
 | cons e r ih =>
  obtain ⟨n, kk⟩ := e
  rw [List.map_cons]
  rw [List.lookup_cons] at h
  cases hb : x == n with
  | true =>
   rw [hb] at h
   dsimp only
   split
   ·rename_i hc
    simp only [Bool.and_eq_true, beq_iff_eq] at hc
    cases h
    exact .inr ⟨hc.1.1, by simp [List.lookup_cons, hb]⟩
   ·cases h
    exact .inl (by simp [List.lookup_cons, hb])
  | false =>
   rw [hb] at h
   dsimp only
   have := ih h
   split
   ·simp only [List.lookup_cons, hb]; exact this
   ·simp only [List.lookup_cons, hb]; exact this
section
variable {c : Cx} {F : Fm} {G : Gh} {ρ : Str → Option V} {σ : List O} {s : Shared} {K : Kx} {A : Around} {st : St} {E : X → St → Prop}
theorem wpAny_newCompEnv {A : Around} {E : Value → Shared → Prop} {scope : Scope} {cl : List (Str × Addr)} {env : Env} {Q : Env → Shared → Prop}
  (hQ : Q { scope := scope, locals := s.heap.objs.size, globals := env.globals, cells := cellsFrom (s.heap.objs.size + 1) scope.names cl, qual := env.qual, func := none, code := env.code, frame := env.frame, builtins := env.builtins }
   { s with heap := pushCells (s.heap.push { cls := .type "dict", data := .dict #[] }) scope.names }) :
  wpAny c.M A (newFunctionEnv scope env.globals cl [] env.qual none .none (some env)) Q E s := by
 simp only [newFunctionEnv, Option.isSome_some, if_true]
 refine wpAny_bind (wpAny_alloc ?_)
 refine wpAny_bind (wpAny_layCells _ (fun name kind cells => by cases hkc : kind == NameKind.cell <;> simp [hkc]) _ _ _ _ ?_)
 rw [show ({ s with heap := s.heap.push { cls := .type "dict", data := .dict #[] } } : Shared).heap.objs.size = s.heap.objs.size + 1 from Heap.size_push ..]
 rw [List.forIn_nil]
 exact wpAny_bind (wpAny_pure (wpAny_pure hQ))
theorem FR.sub {xs xs' : List XE} (f : FR F G ρ xs) (h : ∀ e ∈ xs, e ∈ xs') : FR F G ρ xs' where
 loc := by
  obtain ⟨m, h1, h2⟩ := f.loc
  exact ⟨m, h _ h1, h2⟩
 cel := fun x a hx ha => by
  obtain ⟨v, h1, h2⟩ := f.cel x a hx ha
  exact ⟨v, h _ h1, h2⟩
 fre := f.fre
 out := fun e he => h _ (f.out e he)
 frs := fun e he => by
  obtain ⟨h1, L, m, h2, h3⟩ := f.frs e he
  exact ⟨h1, L, m, h2, h _ h3⟩
theorem Rel.adopt {xs : List XE} (R : Rel c G xs σ s) {a : Addr} {k : FK} (hx : a ∉ xs.map (·.1)) (hn : G.own a = none) (hp : FzAt s.heap a k) : G.le (G.addFz a k) ∧ Rel c (G.addFz a k) xs σ s := by
 have hz : G.fz a = none := by
  cases e : G.fz a with
  | none => rfl
  | some k' => rcases (R.fzc a k' e).2 with h | ⟨i, o, h, _⟩ <;> (rw [hn] at h; cases h)
 have hle : G.le (G.addFz a k) := Gh.le_addFz hn hz
 have own_ne : ∀ b, b ≠ a → (G.addFz a k).own b = G.own b := fun b q => if_neg q
 have own_st : ∀ b i, (G.addFz a k).own b = some (.st i) → b ≠ a ∧ G.own b = some (.st i) := fun b i e => by
  by_cases q : b = a
  ·subst q
   have : (G.addFz b k).own b = some .fz := by simp [Gh.addFz]
   rw [this] at e; cases e
  ·exact ⟨q, (own_ne b q) ▸ e⟩
 refine ⟨hle, ?_⟩
 exact {
  keep := R.keep
  baseOwn := fun b o e => hle.own _ _ (R.baseOwn b o e)
  fzc := fun b k' e => by
   by_cases q : b = a
   ·subst q
    rw [Gh.fz_addFz] at e; cases e
    exact ⟨hp, .inl (by simp [Gh.addFz])⟩
   ·have e' : G.fz b = some k' := by have : (G.addFz a k).fz b = G.fz b := if_neg q; rw [this] at e; exact e
    refine ⟨(R.fzc b k' e').1, ?_⟩
    rcases (R.fzc b k' e').2 with h | ⟨j, o₂, h, h2⟩
    ·exact .inl (hle.own _ _ h)
    ·exact .inr ⟨j, o₂, hle.own _ _ h, h2⟩
  stc := fun b i e => by
   obtain ⟨_, e'⟩ := own_st b i e
   obtain ⟨o₂, h1, h2, h3⟩ := R.stc b i e'
   exact ⟨o₂, h1, h2, h3.mono hle⟩
  inj := fun b b' i e e' => R.inj b b' i (own_st b i e).2 (own_st b' i e').2
  live := fun b k' e => by
   by_cases q : b = a
   ·subst q; exact hp.live
   ·exact R.live b k' ((own_ne b q) ▸ e)
  xsc := fun e he => by
   obtain ⟨h1, r⟩ := R.xsc e he
   exact ⟨by rw [own_ne e.1 (fun q => hx (q ▸ List.mem_map_of_mem (f := Prod.fst) he))]; exact h1, r⟩
  nd := R.nd
  tok := R.tok
  pos := R.pos
  gens := R.gens
  drawn := R.drawn
  os := R.os }
structure Nest (sc csc : Scope) : Prop where
 kind : csc.kind = .function
 nd : (csc.names.map (·.1)).Nodup
 nocd : csc.names.lookup ("__classdict__" : Str) = none
 free : ∀ x, (x, NameKind.free) ∈ csc.names → sc.names.lookup x = some .cell ∨ sc.names.lookup x = some .free
theorem nest_of {sc csc : Scope} (h : nestOk sc csc = true) : Nest sc csc := by
 unfold nestOk at h
 simp only [Bool.and_eq_true, decide_eq_true_eq, List.all_eq_true, Bool.or_eq_true, bne_iff_ne, ne_eq] at h
 obtain ⟨⟨⟨h1, h2⟩, h3⟩, h4⟩ := h
 refine ⟨by simpa using h1, h2, h3, fun x hx => ?_⟩
 rcases h4 _ hx with (q | q) | q
 ·exact absurd rfl q
 ·exact .inl q
 ·exact .inr q
noncomputable def compFm (F : Fm) (csc : Scope) (C : Addr) (base : Nat) (o : List XE) : Fm :=
 { env := { scope := relabel csc F.env, locals := C, globals := F.env.globals, cells := cellsFrom base csc.names (freeFrom F.env csc.names []), qual := F.env.qual, func := none, code := F.env.code, frame := F.env.frame, builtins := F.env.builtins }, sc := csc, out := o, frs := F.frs }
theorem cells_lookup {csc : Scope} {env : Env} {base : Nat} {x : Str} (nd : (csc.names.map (·.1)).Nodup) (hx : csc.names.lookup x = some .cell) :
  ∃ a, (cellsFrom base csc.names (freeFrom env csc.names [])).lookup x = some a ∧ (x, a) ∈ cellsFrom base csc.names [] := by
 obtain ⟨a, ha⟩ := cellsFrom_mem csc.names base (mem_of_lookup hx)
 obtain ⟨b, hb⟩ := lookup_of_mem ha
 refine ⟨b, ?_, mem_of_lookup hb⟩
 rw [cellsFrom_append, List.lookup_append, hb]; rfl
theorem free_lookup {csc : Scope} {env : Env} {base : Nat} {x : Str} {a : Addr} (nd : (csc.names.map (·.1)).Nodup) (hx : csc.names.lookup x = some .free) (he : env.cells.lookup x = some a) :
  (cellsFrom base csc.names (freeFrom env csc.names [])).lookup x = some a := by
 have hno : (cellsFrom base csc.names []).lookup x = none := lookup_none_of fun b hb => by
  have h1 := cellsFrom_only csc.names base hb
  have h2 := lookup_nodup nd h1
  rw [hx] at h2; cases h2
 rw [cellsFrom_append, List.lookup_append, hno]
 exact freeFrom_lookup (mem_of_lookup hx) he
theorem compFm_ok (hF : FmOk c F) {csc : Scope} (hn : Nest F.sc csc) {C : Addr} {base : Nat} {xs o : List XE} (hC : c.base.objs.size ≤ C)
  (nd : ((cellXs (cellsFrom base csc.names []) ++ (C, NsP fun _ => none) :: xs).map (·.1)).Nodup) (ho : ∀ e ∈ o, e ∈ xs) (hnd : (o.map (·.1)).Nodup) : FmOk c (compFm F csc C base o) := by
 rw [List.map_append, List.nodup_append] at nd
 obtain ⟨nd1, nd2, nd3⟩ := nd
 rw [List.map_cons, List.nodup_cons] at nd2
 have hsub : ∀ a, a ∈ o.map (·.1) → a ∈ xs.map (·.1) := fun a ha => by
  obtain ⟨e, he, rfl⟩ := List.mem_map.mp ha
  exact List.mem_map_of_mem (f := Prod.fst) (ho e he)
 have hin : ∀ x a, (x, a) ∈ cellsFrom base csc.names [] → a ∈ (cellXs (cellsFrom base csc.names [])).map (·.1) := fun x a h => by
  unfold cellXs
  rw [List.map_map]
  exact List.mem_map.mpr ⟨(x, a), h, rfl⟩
 exact {
  fn := hn.kind
  glb := hF.glb
  blt := hF.blt
  loc := fun x hx => by
   rcases relabel_kind (env := F.env) hx with q | ⟨q, _⟩
   ·exact q
   ·cases q
  cel := fun x hx => by
   refine ⟨?_, ?_⟩
   ·rcases relabel_kind (env := F.env) hx with q | ⟨q, _⟩
    ·exact q
    ·cases q
   ·obtain ⟨a, h1, h2⟩ := cells_lookup (env := F.env) (base := base) hn.nd hx
    refine ⟨a, h1, fun q => ?_, fun q => ?_⟩
    ·exact nd3 a (hin x a h2) a (List.mem_cons_of_mem _ (hsub a q)) rfl
    ·have q' : a = C := q
     exact nd3 a (hin x a h2) C List.mem_cons_self q'
  fre := fun x hx => by
   rcases relabel_kind (env := F.env) hx with q | ⟨_, q⟩
   ·exact .inr q
   ·exact .inl q
  frc := fun x hx => by
   have hfree := hn.free x (mem_of_lookup hx)
   rcases hfree with q | q
   ·obtain ⟨_, a, ha, _⟩ := hF.cel x q
    exact ⟨a, free_lookup hn.nd hx ha⟩
   ·obtain ⟨a, ha⟩ := hF.frc x q
    exact ⟨a, free_lookup hn.nd hx ha⟩
  glo := fun x hx => by
   rcases relabel_kind (env := F.env) hx with q | ⟨q, _⟩
   ·exact q
   ·cases q
  inj := fun x y a hx hy hxa hya => by
   obtain ⟨a₁, h1, h2⟩ := cells_lookup (env := F.env) (base := base) hn.nd hx
   obtain ⟨a₂, h3, h4⟩ := cells_lookup (env := F.env) (base := base) hn.nd hy
   have e1 : a₁ = a := Option.some.inj (h1.symm.trans hxa)
   have e2 : a₂ = a := Option.some.inj (h3.symm.trans hya)
   subst e1
   subst e2
   refine name_of_addr ?_ h2 h4
   unfold cellXs at nd1
   rw [List.map_map] at nd1
   exact (List.pairwise_map.mp nd1).imp fun h => h
  lo := fun q => nd2.1 (hsub C q)
  outNd := hnd
  abv := hC
  frm := hF.frm
  nocd := hn.nocd }
theorem compFm_fr (hF : FmOk c F) {csc : Scope} (hn : Nest F.sc csc) {C : Addr} {base : Nat} {xs o : List XE} (f : FR F G ρ xs) (ho : ∀ e ∈ o, e ∈ xs) (hfree : ∀ e ∈ xs, (∃ w, e.2 = CellP (some w)) → e ∈ o) :
  FR (compFm F csc C base o) G (innerρ csc ρ) (cellXs (cellsFrom base csc.names []) ++ (C, NsP fun _ => none) :: xs) where
 loc := ⟨fun _ => none, List.mem_append_right _ List.mem_cons_self, fun x u hx hu => by
  unfold innerρ at hu
  have hx' : csc.names.lookup x = some .local := hx
  rw [hx'] at hu
  simp at hu⟩
 cel := fun x a hx ha => by
  obtain ⟨b, h1, h2⟩ := cells_lookup (env := F.env) (base := base) hn.nd hx
  have e : b = a := Option.some.inj (h1.symm.trans ha)
  subst e
  refine ⟨none, List.mem_append_left _ (List.mem_map.mpr ⟨(x, b), h2, rfl⟩), fun u hu => ?_⟩
  unfold innerρ at hu
  have hx' : csc.names.lookup x = some .cell := hx
  rw [hx'] at hu
  simp at hu
 fre := fun x u hx hu => by
  unfold innerρ at hu
  have hx' : csc.names.lookup x = some .free := hx
  rw [hx', if_pos rfl] at hu
  rcases hn.free x (mem_of_lookup hx') with q | q
  ·obtain ⟨_, a, ha, _⟩ := hF.cel x q
   obtain ⟨v, h1, h2⟩ := f.cel x a q ha
   obtain ⟨w, rfl, h3⟩ := h2 u hu
   exact ⟨a, w, free_lookup hn.nd hx' ha, hfree _ h1 ⟨w, rfl⟩, h3⟩
  ·obtain ⟨a, w, h1, h2, h3⟩ := f.fre x u q hu
   exact ⟨a, w, free_lookup hn.nd hx' h1, hfree _ (f.out _ h2) ⟨w, rfl⟩, h3⟩
 out := fun e he => List.mem_append_right _ (List.mem_cons_of_mem _ (ho e he))
 frs := fun e he => by
  obtain ⟨h1, L, m, h2, h3⟩ := f.frs e he
  exact ⟨h1, L, m, h2, List.mem_append_right _ (List.mem_cons_of_mem _ h3)⟩
theorem comp_done {C D : Addr} {m : Str → Option Value} {ws : List Value} {xs₀ : List XE} (R : Rel c G ((C, NsP m) :: (D, AccP ws) :: xs₀) σ s) {h' : Heap} (hs : Heap.SameBut C s.heap h') :
  Rel c G xs₀ σ { s with heap := h' } ∧ D ∉ xs₀.map (·.1) ∧ G.own D = none ∧ ∃ k, h'.get? D = some { cls := .type "list", data := .seq ws.toArray k } := by
 have nd := R.nd
 rw [List.map_cons, List.nodup_cons, List.map_cons, List.nodup_cons] at nd
 obtain ⟨nC, nD, nX⟩ := nd
 have hCn : G.own C = none := (R.xsc _ List.mem_cons_self).1
 have R1 : Rel c G ((D, AccP ws) :: xs₀) σ s := R.pick (fun e he => List.mem_cons_of_mem _ he) (by rw [List.map_cons, List.nodup_cons]; exact ⟨nD, nX⟩)
 have R2 := R1.forget (h' := h') (tk := s.toks) hCn (by rw [List.map_cons]; exact nC) hs.extBut (Nat.le_refl _)
 obtain ⟨h1, ob, h2, k, h3⟩ := R2.xsc _ List.mem_cons_self
 exact ⟨R2.pick (fun e he => List.mem_cons_of_mem _ he) nX, nD, h1, k, by rw [← h3]; exact h2⟩
theorem ns_head {C : Addr} {m : Str → Option Value} {xs : List XE} (R : Rel c G ((C, NsP m) :: xs) σ s) : s.heap.Ns C m := ns_of (R.xsc _ List.mem_cons_self).2
theorem FR.dropK {xs : List XE} {a : Addr} {P : Obj → Prop} (hF : FmOk c (F.plus (a, P))) (R : Rel c G xs σ s) (hcell : ∀ ob, P ob → ∀ v, ob.data ≠ .cell v) (hfrm : ∀ env ∈ F.frs, env.frame ≠ some a) (f : FR (F.plus (a, P)) G ρ xs) :
  FR F G ρ (xs.filter fun e => decide (e.1 ≠ a)) := by
 have hin : ∀ {e : XE}, e ∈ xs → e.1 ≠ a → e ∈ xs.filter fun e => decide (e.1 ≠ a) := fun he hn => List.mem_filter.mpr ⟨he, by simpa using hn⟩
 have hlo : F.env.locals ≠ a := fun q => hF.lo (by rw [show (F.plus (a, P)).env.locals = F.env.locals from rfl, q]; exact List.mem_cons_self)
 refine ⟨?_, ?_, ?_, ?_, ?_⟩
 ·obtain ⟨m, h1, h2⟩ := f.loc
  exact ⟨m, hin h1 hlo, h2⟩
 ·intro x b hx hb
  obtain ⟨v, h1, h2⟩ := f.cel x b hx hb
  refine ⟨v, hin h1 fun q => ?_, h2⟩
  obtain ⟨_, b', hb', ho, _⟩ := hF.cel x hx
  rw [show (F.plus (a, P)).env.cells.lookup x = F.env.cells.lookup x from rfl, hb] at hb'
  cases hb'
  have q' : b = a := q
  exact ho (by rw [q']; exact List.mem_cons_self)
 ·intro x u hx hu
  obtain ⟨b, w, h1, h2, h3⟩ := f.fre x u hx hu
  refine ⟨b, w, h1, ?_, h3⟩
  rcases List.mem_cons.mp h2 with q | q
  ·exfalso
   obtain ⟨_, ob, ho, hp⟩ := R.xsc _ (f.out _ h2)
   have e2 : CellP (some w) = P := congrArg Prod.snd q
   have hp' : P ob := by rw [← e2]; exact hp
   exact hcell ob hp' _ hp
  ·exact q
 ·intro e he
  refine hin (f.out _ (List.mem_cons_of_mem _ he)) fun q => ?_
  have := hF.outNd
  rw [show (F.plus (a, P)).out = (a, P) :: F.out from rfl, List.map_cons, List.nodup_cons] at this
  exact this.1 (List.mem_map.mpr ⟨e, he, q⟩)
 ·intro e he
  obtain ⟨h1, L, m, h2, h3⟩ := f.frs e he
  refine ⟨h1, L, m, h2, hin h3 fun q => ?_⟩
  have q' : L = a := q
  exact hfrm e he (by rw [h2, q'])
@[reducible] noncomputable def Kx.inn (K : Kx) (csc : Scope) : Kx := { K with sc := csc }
noncomputable def CompX (K : Kx) (elt t it0 : PySem.Expr) (fs : List PySem.Expr) (gs : List Comprehension) (csc : Scope) (st : St) (Q : List V → St → Prop) (E : X → St → Prop) : Prop :=
 EX K it0 st (fun v st₁ => ∃ xs σ', ItV st₁.σ v xs σ' ∧ CEach (K.inn csc) t fs (CB (K.inn csc) elt gs) xs [] ⟨innerρ csc st₁.ρ, σ'⟩ fun zs st => Q zs ⟨st₁.ρ, st.σ⟩) E
theorem new_acc {Q : Value → Shared → Prop} {EE : Value → Shared → Prop} (hF : FmOk c F) (hI : Inv c F G ρ σ s) (k : ∀ D h', FmOk c (F.plus (D, AccP [])) → Inv c (F.plus (D, AccP [])) G ρ σ { s with heap := h' } → Q (.ref D) { s with heap := h' }) : wpAny c.M A (newList []) Q EE s := by
 refine wpAny_newList ?_ (by simp)
 have h := hI.plus hF (P := AccP []) (get_size s.heap) (keep_push s.heap { cls := .type "list", data := .seq ([] : List Value).toArray }) ⟨_, Heap.get?_push_size _ rfl, 0, rfl⟩ (Nat.le_refl s.toks)
 exact k _ _ h.1 h.2
theorem comp_in {csc : Scope} {D itA : Addr} {ik : IK} {P : Prop} {sc : Scope} (hs : F.sc = sc) (hF : FmOk c F) (hn : Nest F.sc csc) (hF₂ : FmOk c (F.plus (itA, ItP ik 0))) (hF₃ : FmOk c ((F.plus (itA, ItP ik 0)).plus (D, AccP []))) (hI₃ : Inv c ((F.plus (itA, ItP ik 0)).plus (D, AccP [])) G ρ σ s)
  (k : ∀ o, D ∈ o.map (·.1) → FmOk c ((compFm F csc s.heap.objs.size (s.heap.objs.size + 1) []).wo ((itA, ItP ik 0) :: setX D (AccP []) o)) →
   Inv c ((compFm F csc s.heap.objs.size (s.heap.objs.size + 1) []).wo ((itA, ItP ik 0) :: setX D (AccP []) o)) G (innerρ csc ρ) σ { s with heap := pushCells (s.heap.push { cls := .type "dict", data := .dict #[] }) csc.names } →
   (∀ ws G' ρ' σ' s', G.le G' → Inv c ((compFm F csc s.heap.objs.size (s.heap.objs.size + 1) []).wo (setX D (AccP ws) o)) G' ρ' σ' s' → ∃ m xs₀, Rel c G' ((s.heap.objs.size, NsP m) :: (D, AccP ws) :: xs₀) σ' s' ∧ FR F G' ρ xs₀) → P) : P := by
 refine hI₃.ok.elim fun xs₁ p => ?_
 have R₁ := p.1
 have f₁ := p.2
 have hDx : (D, AccP []) ∈ xs₁ := f₁.out (D, AccP []) List.mem_cons_self
 have hitx : (itA, ItP ik 0) ∈ xs₁ := f₁.out (itA, ItP ik 0) (List.mem_cons_of_mem _ List.mem_cons_self)
 have hDit : D ≠ itA := fun z => (List.nodup_cons.mp hF₃.outNd).1 (z ▸ List.mem_cons_self)
 have ho_sub : ∀ e ∈ xs₁.filter fun e => decide (e.1 ≠ itA), e ∈ xs₁ := fun e he => (List.mem_filter.mp he).1
 have hoD : (D, AccP []) ∈ xs₁.filter fun e => decide (e.1 ≠ itA) := List.mem_filter.mpr ⟨hDx, decide_eq_true hDit⟩
 have ho_nd : ((xs₁.filter fun e => decide (e.1 ≠ itA)).map (·.1)).Nodup := R₁.nd.sublist (List.filter_sublist.map _)
 have hout_sub : ∀ e ∈ (itA, ItP ik 0) :: xs₁.filter fun e => decide (e.1 ≠ itA), e ∈ xs₁ := fun e he => (List.mem_cons.mp he).elim (fun z => z ▸ hitx) (ho_sub e)
 have hit_n : itA ∉ (xs₁.filter fun e => decide (e.1 ≠ itA)).map (·.1) := fun z => (List.mem_map.mp z).elim fun e q => of_decide_eq_true (List.mem_filter.mp q.1).2 q.2
 have R₂ := R₁.addX (a := s.heap.objs.size) (P := NsP fun _ => none) (h' := s.heap.push { cls := .type "dict", data := .dict #[] }) (tk := s.toks) (get_size s.heap) (keep_push s.heap _) ⟨_, Heap.get?_push_size _ rfl, #[], 0, rfl, (Heap.Ns.new s.heap (.type "dict")).elim fun o ho => by
  obtain ⟨es, ep, e1, e2, e3, e4⟩ := ho
  have e5 := Heap.get?_push_size (h := s.heap) (o := { cls := .type "dict", data := .dict #[] }) rfl
  rw [e5] at e1; cases e1; cases e2; exact ⟨e3, e4⟩⟩ (Nat.le_refl _)
 have R₃ := rel_cells csc.names R₂
 dsimp only at R₃
 rw [show (s.heap.push { cls := .type "dict", data := .dict #[] }).objs.size = s.heap.objs.size + 1 from Heap.size_push ..] at R₃
 have hCf : s.heap.objs.size ∉ xs₁.map (·.1) := R₁.fresh_x (get_size s.heap)
 refine k (xs₁.filter fun e => decide (e.1 ≠ itA)) (List.mem_map_of_mem (f := Prod.fst) hoD) ?_ ?_ fun ws G' ρ' σ' s' hg hI' => hI'.ok.elim fun xs₂ p => p.2.loc.elim fun m hm => ⟨m, (xs₁.filter fun e => decide (e.1 ≠ itA)).filter fun e => decide (e.1 ≠ D), p.1.pick (fun e he => ?_) ?_, ?_⟩
 ·rw [setX_same ho_nd hoD]
  exact compFm_ok hF hn (f₁.loc.elim fun m hm => (R₁.xsc _ hm.1).2.elim fun ob hob => Nat.le_trans hF.abv (Nat.le_of_lt (Heap.lt_size hob.1))) R₃.nd hout_sub (List.nodup_cons.mpr ⟨hit_n, ho_nd⟩)
 ·rw [setX_same ho_nd hoD]
  refine ⟨_, R₃, compFm_fr hF hn ((f₁.minus R₁ apart_accP).minus R₁ apart_itP) hout_sub fun e he _ => ?_⟩
  by_cases z : e.1 = itA
  ·obtain ⟨a, Pe⟩ := e
   cases (show a = itA from z)
   cases nodup_mem R₁.nd he hitx
   exact List.mem_cons_self
  ·exact List.mem_cons_of_mem _ (List.mem_filter.mpr ⟨he, decide_eq_true z⟩)
 ·rcases List.mem_cons.mp he with rfl | he
  ·exact hm.1
  ·rcases List.mem_cons.mp he with rfl | he
   ·exact p.2.out _ (mem_setX (List.mem_map_of_mem (f := Prod.fst) hoD))
   ·exact p.2.out _ (mem_setX_ne (List.mem_filter.mp he).1 (of_decide_eq_true (List.mem_filter.mp he).2))
 ·rw [List.map_cons, List.nodup_cons, List.map_cons, List.nodup_cons]
  refine ⟨fun z => ?_, fun z => ?_, ho_nd.sublist (List.filter_sublist.map _)⟩
  ·rcases List.mem_cons.mp z with z | z
   ·exact hCf ((show s.heap.objs.size = D from z) ▸ List.mem_map_of_mem (f := Prod.fst) hDx)
   ·obtain ⟨e, he, z⟩ := List.mem_map.mp z
    exact hCf ((show e.1 = s.heap.objs.size from z) ▸ List.mem_map_of_mem (f := Prod.fst) (ho_sub e (List.mem_filter.mp he).1))
  ·obtain ⟨e, he, z⟩ := List.mem_map.mp z
   exact of_decide_eq_true (List.mem_filter.mp he).2 z
 ·refine FR.mono ((((f₁.drop hF₃ R₁ apart_accP).drop hF₂ (R₁.subX List.filter_sublist) apart_itP).sub fun e he => ?_)) hg
  obtain ⟨h1, h2⟩ := List.mem_filter.mp he
  obtain ⟨h3, h4⟩ := List.mem_filter.mp h1
  exact List.mem_filter.mpr ⟨List.mem_filter.mpr ⟨h3, h2⟩, h4⟩
theorem comp_core (ok : K.Ok A) (hc : K.calm = true) {EE : Value → Shared → Prop} (hE : PassesOwn K.c.M A K.F.env EE) {elt t it0 : PySem.Expr} {fs : List PySem.Expr} {gs : List Comprehension} {csc : Scope} {pos ppos : Pos}
  (hset : ∀ env x, foldedSetIterable it0 env x = pure x) (hnest : nestOk K.sc csc = true) {use : Option (Value → Sem Unit)} {QQ : Value → Shared → Prop} {Qm : List V → St → Prop} (hI : K.Inv G st s)
  (h : CompX K elt t it0 fs gs csc st Qm E) (hex : ∀ x st G' e s, E x st → G.le G' → Exn K.c K.F G' st.ρ st.σ x e s → EE e s)
  (hk : ∀ zs st G' m C D ws xs₀ s', Qm zs st → G.le G' → Rel K.c G' ((C, NsP m) :: (D, AccP ws) :: xs₀) st.σ s' → FR K.F G' st.ρ xs₀ → VRs G' zs ws → compPost K.c.M A EE use QQ (.ref D) C (.ok .next) s') :
  wpAny K.c.M A (comprehension (.ListComp elt (⟨t, it0, fs, 0⟩ :: gs) csc pos) csc K.F.env ppos (newList []) false (eval it0 K.F.env) use) QQ EE s := by
 have hn : Nest K.F.sc csc := nest_of (ok.hs.symm ▸ hnest)
 have hclos : closureFor csc K.F.env = pure (freeFrom K.F.env csc.names []) := closure_is fun x hx => by
  rcases hn.free x hx with q | q
  ·obtain ⟨_, a, ha, _⟩ := ok.hF.cel x q; exact ⟨a, ha⟩
  ·exact ok.hF.frc x q
 refine wpAny_comprehension_free (g := ⟨t, it0, fs, 0⟩) (gs := gs) rfl (hset _) hclos hn.kind (fun x hx hl => lookup_nodup hn.nd (by rw [← hl]; exact hx)) ?_
 refine h A G s _ EE ok trivial hI hE ⟨fun v st₁ G₁ w s₁ q hg₁ hI₁ hv => q.elim fun xs q => q.elim fun σ' q => ?_, hex⟩
 refine pyIter_it ok.hF hI₁ hv q.1 ⟨fun G₂ ik itA h' hg₂ hk' hF₂ hI₂ => new_acc hF₂ hI₂ fun D H hF₃ hI₃ => wpAny_newCompEnv ?_⟩
 refine comp_in ok.hs ok.hF hn hF₂ hF₃ hI₃ fun o hD hFw hIc back => ?_
 have okb : ∀ o, FmOk K.c ((compFm K.F csc H.objs.size (H.objs.size + 1) []).wo o) → ((K.inn csc).at ((compFm K.F csc H.objs.size (H.objs.size + 1) []).wo o)).Ok A := fun o hF => ⟨rfl, ok.hc, hF, ⟨ok.hA.frames, ok.hA.guards, ok.hA.depth, ok.hA.units, ok.hA.handled⟩⟩
 have hloop : codeAny K.c.M A (.compLoop (.ListComp elt (⟨t, it0, fs, 0⟩ :: gs) csc pos) 0 (.ref itA) (.ref D) (compFm K.F csc H.objs.size (H.objs.size + 1) []).env) (compPost K.c.M A EE use QQ (.ref D) H.objs.size)
   { s₁ with heap := pushCells (H.push { cls := .type "dict", data := .dict #[] }) csc.names } :=
  comp_loop (k := K.inn csc) (st := ⟨innerρ csc st₁.ρ, σ'⟩) okb hc rfl (CB.mono gs)
   (rest_ok (k := K.inn csc) okb hc gs 1 rfl) hD hFw hIc hk' VRs.nil q.2 fun zs st G' ws s' q hg' hI' hz =>
    (back ws G' _ _ s' hg' hI').elim fun m p => p.elim fun xs₀ p => hk zs ⟨st₁.ρ, st.σ⟩ G' m H.objs.size D ws xs₀ s' q ((hg₁.trans hg₂).trans hg') p.1 p.2 hz
 exact code_compStart rfl hloop (pyIter_self (F := (compFm K.F csc H.objs.size (H.objs.size + 1) []).wo (setX D (AccP []) o)) hIc hloop)
theorem x_comp {Q : V → St → Prop} {elt t it0 : PySem.Expr} {fs : List PySem.Expr} {gs : List Comprehension} {csc : Scope} {pos : Pos} (hc : K.calm = true) (hset : ∀ env x, foldedSetIterable it0 env x = pure x) (hnest : nestOk K.sc csc = true)
  (h : CompX K elt t it0 fs gs csc st (fun zs st => Q (.lst zs) st) E) : EX K (.ListComp elt (⟨t, it0, fs, 0⟩ :: gs) csc pos) st Q E := by
 intro A G s QQ EE ok hp hI hE H
 rw [arm_eval_ListComp]
 refine comp_core (use := none) ok hc hE hset hnest hI h H.ex fun zs st G' m C D ws xs₀ s' q hg R f hz => ?_
 refine ⟨m, ns_head R, fun h' hs => ?_⟩
 obtain ⟨R', hD, hn, k, hob⟩ := comp_done R hs
 obtain ⟨hle, R''⟩ := R'.adopt (k := .lst ws) hD hn ⟨k, hob⟩
 exact H.ok _ _ _ (.ref D) _ q (hg.trans hle) ⟨xs₀, R'', f.mono hle⟩ (VR_lst (Gh.fz_addFz _ _ _) (hz.mono hle))
end
end Mine
end
section
namespace Mine
open PySem PySem.W PyProof.Rows PySem.SeqAt
structure OwnIt (c : Cx) (C fI fN : Addr) : Prop where
 iter : MethF c.K C "__iter__" fI
 next : MethF c.K C "__next__" fN
 len : findIn c.K (.ref C) "__len__" = some none
 hint : findIn c.K (.ref C) "__length_hint__" = some none
noncomputable def IsO (st : St) (i : Nat) (C : Addr) : Prop := ∃ fs, st.σ[i]? = some (.slots C fs)
structure NXO (K : Kx) (C fN : Addr) (i : Nat) (st : St) (Q : V → St → Prop) (S : St → Prop) : Prop where
 is : IsO st i C
 run : CX K (.ref fN) [.obj i] [] st Q fun x st => x = .stop ∧ S st
section
variable {K : Kx} {st : St} {ρ : Str → Option V} {σ σ' : List O} {E : X → St → Prop} {G : Gh} {s : Shared} {A : Around} {c : Cx} {F : Fm} {C fI fN a : Addr} {i : Nat} {v x : V}
theorem IsO.inst (h : IsO st i C) (hI : K.Inv G st s) (ha : G.own a = some (.st i)) : ∃ db sl, InstAt s.heap a ⟨.ref C, some db, .plain, sl⟩ C (some noDict) := by
 obtain ⟨fs, hfs⟩ := h
 cases hI.own_at ha hfs with | mk db sl e k0 hsz r => exact ⟨db, sl, slots_inst hI e k0⟩
theorem pyNext_own {QQ : Option Value → Shared → Prop} {EE : Value → Shared → Prop} {Q : V → St → Prop} {S : St → Prop} (ok : K.Ok A) (hO : OwnIt K.c C fI fN) (hI : K.Inv G st s) (ha : G.own a = some (.st i)) (h : NXO K C fN i st Q S)
  (hq : ∀ x st' G' v s', Q x st' → G.le G' → K.Inv G' st' s' → VR G' x v → QQ (some v) s') (hs : ∀ st' G' s', S st' → G.le G' → K.Inv G' st' s' → QQ none s') : wpAny K.c.M A (pyNext (.ref a)) QQ EE s := by
 obtain ⟨db, sl, hin⟩ := h.is.inst hI ha
 obtain ⟨m, Fr₀⟩ := hI.frame ok.hF
 refine owit_next Fr₀ ok.hc.kin hin hO.next.find hO.next.fn (wpAny_of_code (h.run [.ref a] [] A G s _ _ ok (VRs.cons (VR_obj ha) VRs.nil) rfl hI ⟨fun x st' G' v s' q hg hI' hv => hq x st' G' v s' q hg hI' hv, fun x st' G' e s' q hg hX => ?_⟩))
 obtain ⟨rfl, q⟩ := q
 unfold OwitStop
 refine wpAny_isInstance hX.stopIs isSubtype_stop ?_
 rw [if_pos rfl]
 exact hs st' G' s' q hg hX.inv
theorem Inv.same_own (hI : Inv c F G ρ σ s) {a a' : Addr} {i : Nat} (h : G.own a = some (.st i)) (h' : G.own a' = some (.st i)) : a = a' := hI.ok.elim fun _ R => R.1.inj a a' i h h'
theorem pyIter_own {QQ : Value → Shared → Prop} {EE : Value → Shared → Prop} {Q : St → Prop} (ok : K.Ok A) (hO : OwnIt K.c C fI fN) (hI : K.Inv G st s) (ha : G.own a = some (.st i)) (hi : IsO st i C)
  (h : CX K (.ref fI) [.obj i] [] st (fun u st' => u = .obj i ∧ IsO st' i C ∧ Q st') E) (hq : ∀ st' G' s', Q st' → IsO st' i C → G.le G' → K.Inv G' st' s' → QQ (.ref a) s') (hx : ∀ x st' G' e s, E x st' → G.le G' → Exn K.c K.F G' st'.ρ st'.σ x e s → EE e s) : wpAny K.c.M A (pyIter (.ref a)) QQ EE s := by
 obtain ⟨db, sl, hin⟩ := hi.inst hI ha
 obtain ⟨m, Fr₀⟩ := hI.frame ok.hF
 refine owit_iter Fr₀ ok.hc.kin hin hO.iter.find hO.iter.fn (wpAny_of_code (h [.ref a] [] A G s _ _ ok (VRs.cons (VR_obj ha) VRs.nil) rfl hI ⟨fun u st' G' w s' q hg hI' hw => ?_, hx⟩))
 obtain ⟨rfl, hi', q⟩ := q
 obtain ⟨a', rfl, ha'⟩ := obj_inv hw
 cases hI'.same_own (hg.own _ _ ha) ha'
 obtain ⟨db', sl', hin'⟩ := hi'.inst hI' ha'
 obtain ⟨m', Fr'⟩ := hI'.frame ok.hF
 exact owit_it Fr' ok.hc.kin hin' hO.next.find (hq st' G' s' q hi' hg hI')
theorem letGo_own {EE : Value → Shared → Prop} {Q : Unit → Shared → Prop} {t : PySem.Expr} {v : Value} (hI : K.Inv G st s) (ha : G.own a = some (.st i)) (h : IsO st i C) (hq : Q () s) : wpAny K.c.M A (letOwnedTupleGo t (.ref a) v) Q EE s :=
 (h.inst hI ha).elim fun _ p => p.elim fun _ p => wpAny_letGo p.1 (fun nm q => by cases q) hq
theorem f_own {Q : Fl → St → Prop} {t : PySem.Expr} {body : List Stmt} (hO : OwnIt K.c C fI fN) (Iv : Nat → St → Prop) (k0 : Nat) (hi : IsO st i C)
  (h0 : CX K (.ref fI) [.obj i] [] st (fun u st' => u = .obj i ∧ IsO st' i C ∧ Iv k0 st') E)
  (hstep : ∀ k st, Iv k st → NXO K C fN i st (fun x st => IsO st i C ∧ TA K t x st (fun _ st => SS K body st (fun f st => turnK (∃ m, m < k ∧ Iv m st) Q st f) E) E) fun st => Q .next st) : FX K t body (.obj i) st Q E := by
 intro w A G s QQ EE ok hw hI hE H
 obtain ⟨a, rfl, ha⟩ := obj_inv hw
 refine pyIter_own ok hO hI ha hi h0 (fun st₁ G₁ s₁ q _ hg₁ hI₁ => ?_) H.ex
 refine codeAny_forLoop_any (LoopW K G Iv) (fun k s' hL => hL.elim fun G' st' hg hI' hp => ?_) k0 ⟨G₁, st₁, hg₁, hI₁, q⟩
 refine wpAny_passesOwn hE (pyNext_own ok hO hI' (hg.own _ _ ha) (hstep k st' hp) (fun x st₁ G₁ v s₁ q hg₁ hI₁ hv => ?_) fun st₁ G₁ s₁ q hg₁ hI₁ => wpAny_execs_nil (H.ok .next st₁ G₁ .next s₁ q (hg.trans hg₁) hI₁ rfl))
 have hgg := hg.trans hg₁
 refine letGo_own hI₁ (hgg.own _ _ ha) q.1 (wpAny_passesOwn hE (q.2 v A G₁ s₁ _ EE ok hv hI₁ hE ⟨fun _ st₂ G₂ _ s₂ q hg₂ hI₂ _ => ?_, (H.up hgg).ex⟩))
 have hg₃ := hgg.trans hg₂
 refine wpAny_passesOwn hE (q A G₂ s₂ _ EE ok trivial hI₂ hE ⟨fun f st₃ G₃ fl s₃ q hg₄ hI₃ hf => ?_, (H.up hg₃).ex⟩)
 exact turn_end H (hg₃.trans hg₄) hI₃ hf q (LoopW.next (hg₃.trans hg₄) hI₃)
noncomputable def Drains (K : Kx) (C fN : Addr) (i : Nat) : Nat → List V → St → (List V → St → Prop) → Prop
 | 0, _, _, _ => False
 | k + 1, ys, st, Q => ∀ e, NXO (K.plus e) C fN i st (fun x st => ys.length < lim ∧ Drains K C fN i k (ys ++ [x]) st Q) fun st => Q ys st
theorem mapSeq_acc {h : Heap} {a : Addr} {vs : List Value} {k : Nat} (f : Array Value → Array Value) {ws : List Value} (hf : f vs.toArray = ws.toArray) (ho : h.get? a = some { cls := .type "list", data := .seq vs.toArray k }) :
  ∃ ob, (h.update a (Obj.mapSeq f)).get? a = some ob ∧ AccP ws ob := by
 obtain ⟨k', e⟩ := mapSeq_list f ho
 exact ⟨_, e, k', by rw [hf]⟩
theorem wpAny_acc {E : Value → Shared → Prop} {S : Addr} {vs ws : List Value} {f : Array Value → Array Value} {Q : Unit → Shared → Prop} (hF : FmOk c (F.plus (S, AccP vs))) (hI : Inv c (F.plus (S, AccP vs)) G ρ σ s)
  (hf : f vs.toArray = ws.toArray) (h1 : vs.length ≤ sizeLine) (h2 : ws.length ≤ sizeLine + 1) (hq : ∀ h', Inv c (F.plus (S, AccP ws)) G ρ σ { s with heap := h' } → Q () { s with heap := h' }) : wpAny c.M A (updateSeq S f) Q E s := by
 obtain ⟨ob, hob, k, hk⟩ := hI.head
 dsimp only at hob
 subst hk
 refine wpAny_updateSeq hob rfl (hq _ ?_) (by simpa using h1) (by rw [hf]; simpa using h2)
 exact hI.move hF apart_accP (Heap.SameBut.update ..).extBut (mapSeq_acc f hf hob) (Nat.le_refl _)
theorem Inv.adoptAcc {S : Addr} {ws : List Value} {zs : List V} {P : Prop} (hF : FmOk c (F.plus (S, AccP ws))) (hI : Inv c (F.plus (S, AccP ws)) G ρ σ s) (hz : VRs G zs ws) (k : ∀ G', G.le G' → Inv c F G' ρ σ s → VR G' (.lst zs) (.ref S) → P) : P := by
 refine hI.ok.elim fun xs₂ q => ?_
 have p := q.1.xsc _ (q.2.out _ List.mem_cons_self : (S, AccP ws) ∈ xs₂)
 refine p.2.elim fun ob o => o.2.elim fun n hk => ?_
 have g := (q.1.subX (List.filter_sublist (p := fun e => decide (e.1 ≠ S)))).adopt (a := S) (k := .lst ws) (fun z => by
  obtain ⟨e, he, rfl⟩ := List.mem_map.mp z
  simpa using (List.mem_filter.mp he).2) p.1 ⟨n, hk ▸ o.1⟩
 exact k _ g.1 ⟨_, g.2, (q.2.drop hF q.1 apart_accP).mono g.1⟩ (VR_lst (Gh.fz_addFz _ _ _) (hz.mono g.1))
theorem drain_loop (hO : OwnIt K.c C fI fN) {R : Result → Shared → Prop} {S a : Addr} (hA : AOk K.F K.n K.calm A.in1) (hs : K.F.sc = K.sc) (hc : CxOk K.c) {Qm : List V → St → Prop}
  (hR : ∀ zs st' G' ws s', Qm zs st' → G.le G' → Inv K.c (K.F.plus (S, AccP ws)) G' st'.ρ st'.σ s' → VRs G' zs ws → R (.ok (.ret .none)) s') :
  ∀ (k : Nat) {G' : Gh} {st : St} {s : Shared} {ys : List V} {vs : List Value}, G.le G' → FmOk K.c (K.F.plus (S, AccP vs)) → Inv K.c (K.F.plus (S, AccP vs)) G' st.ρ st.σ s → VRs G' ys vs → G'.own a = some (.st i) →
   Drains K C fN i k ys st Qm → codeAny K.c.M A (.builtin "list.extend.loop" ⟨[.ref S, .ref a, .none], []⟩) R s
 | 0, _, _, _, _, _, _, _, _, _, _, hp => hp.elim
 | k + 1, G', st, s, ys, vs, hg, hF, hI, hv, ha, hp => by
  refine codeAny_builtin PySem.F.entry_extend_loop ?_
  rw [Around.under_plainId PySem.F.plain_extend_loop _]
  show wpAny _ A.in1 (pyNext (.ref a) >>= _) _ _ s
  refine wpAny_bind (wpAny_noRaise ?_)
  have ok : (K.plus (S, AccP vs)).Ok A.in1 := ⟨hs, hc, hF, ⟨hA.frames, hA.guards, hA.depth, hA.units, hA.handled⟩⟩
  refine pyNext_own (K := K.plus (S, AccP vs)) (EE := fun _ _ => False) ok hO hI ha (hp (S, AccP vs)) (fun x st₁ G₁ v s₁ q hg₁ hI₁ hxv => ?_) fun st₁ G₁ s₁ q hg₁ hI₁ => ?_
  ·have hv₁ := hv.mono hg₁
   have hl : vs.length < lim := hv₁.length ▸ q.1
   show wpAny _ A.in1 (updateSeq S (·.push v) >>= _) _ _ _
   refine wpAny_bind (wpAny_acc (ws := vs ++ [v]) hF hI₁ (by simp) (lim_fits (Nat.le_of_lt hl)) (by rw [List.length_append]; exact Nat.succ_le_succ (lim_fits (Nat.le_of_lt hl))) fun h' hI₂ => ?_)
   exact wpAny_pure ⟨plainId_quiet PySem.F.plain_extend_loop _, drain_loop hO hA hs hc hR k (hg.trans hg₁) hF.plus_same hI₂ (hv₁.snoc hxv) (hg₁.own _ _ ha) q.2⟩
  ·exact wpAny_pure (hR ys st₁ G₁ vs s₁ q (hg.trans hg₁) hI₁ (hv.mono hg₁))
theorem b_drain {Q : V → St → Prop} (hn : 0 < K.n) (hO : OwnIt K.c C fI fN) (k : Nat) (hi : IsO st i C)
  (h : ∀ e, CX (K.less.plus e) (.ref fI) [.obj i] [] st (fun u st' => u = .obj i ∧ IsO st' i C ∧ Drains K.less C fN i k [] st' fun zs st => Q (.lst zs) st) no) : BC K (.type "list") [.obj i] st Q E := by
 intro ws A G s QQ EE ok hP hI hE H
 obtain ⟨w, rfl, hx⟩ := one_arg hP
 obtain ⟨a, rfl, ha⟩ := obj_inv hx
 have X := hI.kin ok.hc
 have hA2 : AOk K.F (K.n - 1) K.calm A.in1.in1 := ⟨ok.hA.frames, ok.hA.guards, bud hn (Nat.le_add_right _ _) ok.hA.depth, bud hn (ad (j := 2) rfl) ok.hA.units, ok.hA.handled⟩
 refine callType_codes (Q₁ := fun obj s₁ => obj = .ref s.heap.objs.size ∧ s₁ = { s with heap := s.heap.push { cls := .type "list", data := .seq #[] } }) PySem.F.called_list (PySem.F.typeCall_list_1 _) PySem.F.entry_list_init
  (code_list_new _ ⟨rfl, rfl⟩) fun obj s₁ h₁ => ?_
 obtain ⟨rfl, rfl⟩ := h₁
 obtain ⟨hF₁, hI₁⟩ := hI.plus ok.hF (P := AccP []) (get_size s.heap) (keep_push s.heap { cls := .type "list", data := .seq #[] }) ⟨_, Heap.get?_push_size _ rfl, 0, rfl⟩ (Nat.le_refl s.toks)
 generalize hS : s.heap.objs.size = S at hF₁ hI₁ ⊢
 generalize hH : s.heap.push { cls := .type "list", data := .seq #[] } = H₀ at hI₁ ⊢
 obtain ⟨ob, hob, k', hk⟩ := hI₁.head
 dsimp only at hob
 subst hk
 refine ⟨⟨_, hob, rfl⟩, PySem.F.args_list_init_2 _ _, ?_⟩
 show wpAny _ A.in1.in1 (do let old ← Builtin.List.listItems (.ref S); Builtin.List.listUpdate (.ref S) (fun _ => #[]); letGo old.toList.reverse; Builtin.List.listExtendWith (.ref S) (.ref a) .none) _ _ _
 refine wpAny_bind ?_
 unfold Builtin.List.listItems
 refine wpAny_bind (wpAny_seqItems hob rfl (wpAny_pure ?_))
 show wpAny _ A.in1.in1 (updateSeq S (fun _ => #[]) >>= fun _ => letGo (#[] : Array Value).toList.reverse >>= fun _ => Builtin.List.listExtendWith (.ref S) (.ref a) .none) _ _ _
 refine wpAny_bind (wpAny_acc (ws := []) hF₁ hI₁ rfl (by simp) (by simp) fun h' hI₂ => ?_)
 refine wpAny_bind (PySem.wpAny_letGo ?_)
 have hI₂' : (K.less.plus (S, AccP [])).Inv G st { s with heap := h' } := hI₂
 obtain ⟨db, sl, hin⟩ := hi.inst hI₂' ha
 have hSa : S ≠ a := fun q => by
  obtain ⟨xs, R, fr⟩ := hI₂.ok
  have := (R.xsc _ (fr.out (S, AccP []) List.mem_cons_self)).1
  dsimp only at this
  rw [q, ha] at this; cases this
 unfold Builtin.List.listExtendWith
 refine wpAny_bind (hin.type.here ?_)
 have h1 : Builtin.List.listSameRef (.ref S) (.ref a) = false := by simp [Builtin.List.listSameRef, hSa]
 have h2 : (Value.ref C == Value.type "list") = false := rfl
 have h3 : (Value.ref C == Value.type "tuple") = false := rfl
 simp only [h1, h2, h3, Bool.or_false, Bool.false_eq_true, if_false]
 refine wpAny_bind (wpAny_noRaise ?_)
 have ok₂ : (K.less.plus (S, AccP [])).Ok A.in1.in1 := ⟨ok.hs, ok.hc, hF₁, ⟨hA2.frames, hA2.guards, hA2.depth, hA2.units, hA2.handled⟩⟩
 refine pyIter_own (K := K.less.plus (S, AccP [])) (EE := fun _ _ => False) ok₂ hO hI₂' ha hi (h _) (fun st₁ G₁ s₁ q hi' hg₁ hI₃ => ?_) (fun _ _ _ _ _ q => q.elim)
 have ha' := hg₁.own _ _ ha
 obtain ⟨db₁, sl₁, hin₁⟩ := hi'.inst hI₃ ha'
 refine wpAny_bind (wpAny_holding ?_)
 have X₁ := hI₃.kin ok.hc
 unfold Builtin.List.listLengthHint
 refine wpAny_bind (wpAny_bind (hin₁.type.here ((looks_findIn X₁ hO.len).here ?_)))
 show wpAny _ A.in1.in1 (specialOf (Value.ref a) (Str.ofString "__length_hint__") >>= _) _ _ _
 refine wpAny_bind (wpAny_bind (hin₁.type.here ((looks_findIn X₁ hO.hint).here ?_)))
 refine wpAny_pure ?_
 show wpAny _ A.in1.in1 (rule "list.extend.makes-room" >>= fun _ => Builtin.List.listTouch (.ref S) >>= fun _ =>
  again (.builtin "list.extend.loop" ⟨[.ref S, .ref a, .none], []⟩)) _ _ _
 refine wpAny_bind (wpAny_rule ?_)
 refine wpAny_bind ?_
 show wpAny _ A.in1.in1 (updateSeq S (·.push .none) >>= fun _ => updateSeq S (·.pop)) _ _ _
 refine wpAny_bind (wpAny_acc (ws := [.none]) hF₁ hI₃ rfl (by simp) (by simp) fun h'' hI₄ => ?_)
 refine wpAny_acc (vs := [.none]) (ws := []) hF₁.plus_same hI₄ rfl (by rw [sizeLine_eq]; simp) (by simp) fun h₃ hI₅ => ?_
 refine wpAny_pure ⟨plainId_quiet PySem.F.plain_extend_loop _, ?_⟩
 refine drain_loop (K := K.less) (G := G₁) hO hA2 ok.hs ok.hc (fun zs st' G' ws s' q hg' hI' hz => ⟨rfl, ?_⟩) k (Gh.le.refl _) hF₁ hI₅ VRs.nil ha' q
 exact hI'.adoptAcc hF₁.plus_same hz fun G₂ hle hI₃ hv => H.ok _ st' _ (.ref S) _ q ((hg₁.trans hg').trans hle) hI₃ hv
end
end Mine
end
section
namespace Mine
open PySem PySem.W PyProof.Rows PySem.SeqAt PySem.Flt
noncomputable def sumFs (a : Int) : List Int → Option Int
 | [] => some a
 | n :: r => if 0 ≤ a ∧ a ≤ 24 ∧ 0 ≤ n ∧ n ≤ 12 then sumFs (a + n) r else none
noncomputable def insI (n : Int) : List Int → List Int
 | [] => [n]
 | m :: r => if n < m then n :: m :: r else m :: insI n r
noncomputable def sortI (l : List Int) : List Int := l.foldl (fun s n => insI n s) []
noncomputable def lostOf (t x : UInt64) : UInt64 := if Float64.cmp (Float64.abs t) (Float64.abs x) == some .lt || Float64.isNaN t || Float64.isNaN x then Float64.add (Float64.sub x (Float64.add t x)) t else Float64.add (Float64.sub t (Float64.add t x)) x
theorem lost_all : ((List.range 25).all fun (a : Nat) => (List.range 13).all fun (n : Nat) => lostOf (hf (a : Int)) (hf (n : Int)) == 0) = true := by decide +kernel
theorem lost_zero {a n : Int} (h : 0 ≤ a ∧ a ≤ 24 ∧ 0 ≤ n ∧ n ≤ 12) : lostOf (hf a) (hf n) = 0 := by
 have h1 := List.all_eq_true.mp lost_all a.toNat (List.mem_range.mpr ((Int.toNat_lt h.1).mpr (Int.lt_of_le_of_lt h.2.1 (by decide))))
 have h2 := List.all_eq_true.mp h1 n.toNat (List.mem_range.mpr ((Int.toNat_lt h.2.2.1).mpr (Int.lt_of_le_of_lt h.2.2.2 (by decide))))
 rw [Int.toNat_of_nonneg h.1, Int.toNat_of_nonneg h.2.2.1] at h2
 simpa using h2
theorem add_zero0 : Float64.add 0 0 = 0 := by decide +kernel
theorem settled0 (t : UInt64) : Num.settled t 0 = t := by
 unfold Num.settled
 rw [if_neg (by decide +kernel)]
theorem insI_perm (n : Int) : ∀ l : List Int, (insI n l).Perm (n :: l)
 | [] => List.Perm.refl _
 | m :: r => by
  unfold insI
  split
  ·exact List.Perm.refl _
  ·exact ((insI_perm n r).cons m).trans (List.Perm.swap n m r)
theorem insI_sorted (n : Int) : ∀ l : List Int, l.Pairwise (· ≤ ·) → (insI n l).Pairwise (· ≤ ·)
 | [], _ => by simp [insI]
 | m :: r, h => by
  obtain ⟨h1, h2⟩ := List.pairwise_cons.mp h
  unfold insI
  split
  ·rename_i hlt
   refine List.pairwise_cons.mpr ⟨fun y hy => ?_, h⟩
   rcases List.mem_cons.mp hy with rfl | hy
   ·exact Int.le_of_lt hlt
   ·exact Int.le_trans (Int.le_of_lt hlt) (h1 y hy)
  ·rename_i hge
   refine List.pairwise_cons.mpr ⟨fun y hy => ?_, insI_sorted n r h2⟩
   rcases List.mem_cons.mp ((insI_perm n r).mem_iff.mp hy) with rfl | hy
   ·exact Int.not_lt.mp hge
   ·exact h1 y hy
theorem sortI_spec (ns : List Int) : (sortI ns).Perm ns ∧ (sortI ns).Pairwise (· ≤ ·) := by
 have key : ∀ (l acc : List Int), acc.Pairwise (· ≤ ·) → (l.foldl (fun s n => insI n s) acc).Perm (l ++ acc) ∧ (l.foldl (fun s n => insI n s) acc).Pairwise (· ≤ ·) := by
  intro l
  induction l with
  | nil => intro acc h; exact ⟨List.Perm.refl _, h⟩
  | cons n l ih =>
   intro acc h
   obtain ⟨h1, h2⟩ := ih (insI n acc) (insI_sorted n acc h)
   refine ⟨h1.trans ?_, h2⟩
   refine (List.Perm.append_left l (insI_perm n acc)).trans ?_
   exact List.perm_middle
 have := key ns [] List.Pairwise.nil
 simpa [sortI] using this
theorem ints_are {G : Gh} : ∀ {vs : List Value} {ns : List Int}, VRs G (ns.map V.int) vs → IntsAre vs ns
 | vs, [], h => by rw [h.nil_inv]; exact .nil
 | vs, n :: ns, h => by
  obtain ⟨v, us, rfl, hx, hr⟩ := h.cons_inv
  obtain ⟨t, rfl⟩ := num_inv hx rfl
  exact .cons _ _ (ints_are hr)
theorem VRs_of_ints {G : Gh} : ∀ {vs : List Value} {ns : List Int}, IntsAre vs ns → VRs G (ns.map V.int) vs
 | _, _, .nil => VRs.nil
 | _, _, .cons n t h => VRs.cons (VR_int n t) (VRs_of_ints h)
section
variable {K : Kx} {st : St} {ρ : Str → Option V} {σ σ' : List O} {E : X → St → Prop} {G : Gh} {s : Shared} {A : Around} {c : Cx} {F : Fm} {Q : V → St → Prop}
theorem comp0 : (((0 : UInt64).toNat : Int)).toNat.toUInt64 = 0 := by decide
theorem FmOk.swap {e₁ e₂ : XE} (hF : FmOk c ((F.plus e₁).plus e₂)) : FmOk c ((F.plus e₂).plus e₁) := by
 have hm : ∀ a, a ∈ (e₁ :: e₂ :: F.out).map (·.1) → a ∈ (e₂ :: e₁ :: F.out).map (·.1) := fun a h => by
  simp only [List.map_cons, List.mem_cons] at h ⊢
  rcases h with h | h | h
  ·exact .inr (.inl h)
  ·exact .inl h
  ·exact .inr (.inr h)
 exact { hF with
  cel := fun x hx => by
   obtain ⟨h1, b, h2, h3, h4⟩ := hF.cel x hx
   exact ⟨h1, b, h2, fun q => h3 (hm b q), h4⟩
  lo := fun q => hF.lo (hm _ q)
  outNd := by
   have h := hF.outNd
   show ((e₁ :: e₂ :: F.out).map (·.1)).Nodup
   have h' : ((e₂ :: e₁ :: F.out).map (·.1)).Nodup := h
   simp only [List.map_cons, List.nodup_cons, List.mem_cons, not_or] at h' ⊢
   exact ⟨⟨fun q => h'.1.1 q.symm, h'.2.1⟩, h'.1.2, h'.2.2⟩ }
theorem Inv.swap {e₁ e₂ : XE} (hI : Inv c ((F.plus e₁).plus e₂) G ρ σ s) : Inv c ((F.plus e₂).plus e₁) G ρ σ s := by
 obtain ⟨xs, R, f⟩ := hI.ok
 have hm : ∀ e : XE, (e ∈ e₁ :: e₂ :: F.out) ↔ (e ∈ e₂ :: e₁ :: F.out) := fun e => by
  simp only [List.mem_cons]
  constructor <;> (rintro (h | h | h) <;> simp [h])
 refine ⟨xs, R, ⟨f.loc, f.cel, fun x u hx hu => ?_, fun e he => f.out e ((hm e).mp he), f.frs⟩⟩
 obtain ⟨b, w, h1, h2, h3⟩ := f.fre x u hx hu
 exact ⟨b, w, h1, (hm _).mpr h2, h3⟩
theorem inf0 : ¬ Float64.isInf (Float64.ofInt 0) = true := by rw [hf_ofInt (i := 0) (by decide) (by decide), hf_inf (by decide)]; exact Bool.false_ne_true
theorem small_of {a : Int} (h1 : -2 ≤ a) (h2 : a ≤ 36) : small a = true := by simp only [small, Bool.and_eq_true, decide_eq_true_eq]; omega
theorem hf_addS {a n : Int} (h : 0 ≤ a ∧ a ≤ 24 ∧ 0 ≤ n ∧ n ≤ 12) : Float64.add (hf a) (hf n) = hf (a + n) :=
 have h0 : (-2 : Int) ≤ 0 := by decide
 hf_add (small_of (Int.le_trans h0 h.1) (Int.le_trans h.2.1 (by decide))) (small_of (Int.le_trans h0 h.2.2.1) (Int.le_trans h.2.2.2 (by decide))) (small_of (Int.le_trans h0 (Int.add_nonneg h.1 h.2.2.1)) (Int.le_trans (Int.add_le_add h.2.1 h.2.2.2) (by decide)))
theorem flts_at {ns : List Int} {j : Nat} {x : V} (h : (ns.map V.flt)[j]? = some x) : ∃ m, ns[j]? = some m ∧ x = .flt m := by
 rw [List.getElem?_map] at h
 obtain ⟨m, h1, h2⟩ := Option.map_eq_some_iff.mp h
 exact ⟨m, h1, h2.symm⟩
theorem sumFs_cons {a n z : Int} {r : List Int} (h : sumFs a (n :: r) = some z) : (0 ≤ a ∧ a ≤ 24 ∧ 0 ≤ n ∧ n ≤ 12) ∧ sumFs (a + n) r = some z := by
 unfold sumFs at h
 split at h
 ·rename_i hb; exact ⟨hb, h⟩
 ·cases h
theorem pyNext_flt {QQ : Option Value → Shared → Prop} {EE : Value → Shared → Prop} {it l : Addr} {ns : List Int} {j : Nat} (hh : A.handled = none) (hF : FmOk c (F.plus (it, ItP (.lst l) j))) (hI : Inv c (F.plus (it, ItP (.lst l) j)) G ρ σ s) (hik : IkOk c G (.lst l) (ns.map V.flt))
  (k1 : ∀ m t h' tk, ns[j]? = some m → Inv c (F.plus (it, ItP (.lst l) (j + 1))) G ρ σ { s with heap := h', toks := tk } → QQ (some (.float (hf m) t)) { s with heap := h', toks := tk })
  (k2 : ∀ h', ns[j]? = none → Inv c F G ρ σ { s with heap := h' } → QQ none { s with heap := h' }) : wpAny c.M A (pyNext (.ref it)) QQ EE s := by
 refine pyNext_it hh hF hI hik ⟨fun x v h' tk hx hv hI₂ => ?_, fun h' hx hI₂ => ?_⟩
 ·obtain ⟨m, hm, rfl⟩ := flts_at hx
  obtain ⟨u, rfl, _⟩ := flt_inv hv
  exact k1 m u h' tk hm hI₂
 ·exact k2 h' (by rw [List.getElem?_map, Option.map_eq_none_iff] at hx; exact hx) hI₂
theorem it_new {QQ : Value → Shared → Prop} {EE : Value → Shared → Prop} {l : Addr} {vs : List Value} (hF : FmOk c F) (hI : Inv c F G ρ σ s) (hl : G.fz l = some (.lst vs))
  (k : ∀ it h', FmOk c (F.plus (it, ItP (.lst l) 0)) → Inv c (F.plus (it, ItP (.lst l) 0)) G ρ σ { s with heap := h' } → QQ (.ref it) { s with heap := h' }) : wpAny c.M A (pyIter (.ref l)) QQ EE s :=
 have h := hI.plus hF (P := ItP (.lst l) 0) (get_size s.heap) (keep_push s.heap { cls := .type "list_iterator", data := .fields #[.ref l, .int 0 0] }) ⟨_, Heap.get?_push_size _ rfl, rfl, rfl, fun q => by cases q⟩ (Nat.le_refl s.toks)
 wpAny_pyIter_list (hI.lst hl) (k _ _ h.1 h.2)
theorem acc_new {QQ : Value → Shared → Prop} {EE : Value → Shared → Prop} {v : Value} (hF : FmOk c F) (hI : Inv c F G ρ σ s)
  (k : ∀ S h', FmOk c (F.plus (S, AccP [v])) → Inv c (F.plus (S, AccP [v])) G ρ σ { s with heap := h' } → QQ (.ref S) { s with heap := h' }) : wpAny c.M A (newObj (.type "list") (.seq #[v])) QQ EE s :=
 have h := hI.plus hF (P := AccP [v]) (get_size s.heap) (keep_push s.heap { cls := .type "list", data := .seq ([v] : List Value).toArray }) ⟨_, Heap.get?_push_size _ rfl, 0, rfl⟩ (Nat.le_refl s.toks)
 wpAny_newObj_type (k _ _ h.1 h.2)
theorem seq_acc {QQ : Option (Array Value) → Shared → Prop} {EE : Value → Shared → Prop} {S : Addr} {ws : List Value} (hI : Inv c (F.plus (S, AccP ws)) G ρ σ s) (q : QQ (some ws.toArray) s) : wpAny c.M A (seqItems? (.ref S)) QQ EE s :=
 hI.head.elim fun _ p => p.2.elim fun _ hk => wpAny_seqItems (hk ▸ p.1) rfl q
theorem sum_loop {R : Result → Shared → Prop} {S it l : Addr} {ns : List Int} (hh : A.handled = none) (hik : IkOk c G (.lst l) (ns.map V.flt)) {z : Int} (hR : ∀ (s' : Shared) (tk : Nat), Inv c F G ρ σ { s' with toks := tk } → R (.ok (.ret (.float (hf z) tk))) { s' with toks := tk + 1 }) (k : Nat) : ∀ (j : Nat) {s : Shared} {a : Int} {t : Tok}, ns.length - j = k →
  FmOk c ((F.plus (S, AccP [.float (hf a) t])).plus (it, ItP (.lst l) j)) → Inv c ((F.plus (S, AccP [.float (hf a) t])).plus (it, ItP (.lst l) j)) G ρ σ s → sumFs a (ns.drop j) = some z →
  codeAny c.M A (.builtin "sum.loop" ⟨[.ref it, .ref S, rawInt 1, rawInt 0], []⟩) R s := by
 induction k with
 | zero =>
  intro j s a t hk hF₂ hI hs
  rw [List.drop_eq_nil_of_le (sub_end hk)] at hs
  cases hs
  refine codeAny_builtin PySem.F.entry_sum_loop ?_
  rw [Around.under_plainId PySem.F.plain_sum_loop _]
  refine wpAny_bind (seq_acc hI.swap (wpAny_bind (wpAny_tryCatch (pyNext_flt (A := A.in1) hh hF₂ hI hik (fun m u h' tk hm => ?_) fun h' hx hI₂ => ?_))))
  ·rw [List.getElem?_eq_none (sub_end hk)] at hm; cases hm
  show wpAny _ A.in1 (mkFloat (Num.settled (hf z) (((0 : UInt64).toNat : Int)).toNat.toUInt64) >>= _) _ _ _
  rw [comp0, settled0]
  exact wpAny_bind (wp_mkFloat (wpAny_pure (hR { s with heap := h' } s.toks (hI₂.minus apart_accP))))
 | succ k ih =>
  intro j s a t hk hF₂ hI hs
  have hlt : j < ns.length := sub_lt hk
  rw [List.drop_eq_getElem_cons hlt] at hs
  have hb := (sumFs_cons hs).1
  have hs := (sumFs_cons hs).2
  refine codeAny_builtin PySem.F.entry_sum_loop ?_
  rw [Around.under_plainId PySem.F.plain_sum_loop _]
  refine wpAny_bind (seq_acc hI.swap (wpAny_bind (wpAny_tryCatch (pyNext_flt (A := A.in1) hh hF₂ hI hik (fun m u h' tk hm hI₂ => wpAny_bind (wpAny_rule ?_)) fun h' hx => ?_))))
  ·have em : ns[j] = m := Option.some.inj ((List.getElem?_eq_getElem hlt).symm.trans hm)
   rw [em] at hs hb
   have hcomp : ((Float64.add (((0 : UInt64).toNat : Int)).toNat.toUInt64 (lostOf (hf a) (hf m))).toNat : Int) = 0 := by
    rw [comp0, lost_zero hb, add_zero0]; rfl
   show wpAny _ A.in1 (mkFloat (Float64.add (hf a) (hf m)) >>= fun x => updateSeq S (fun _ => #[x]) >>= fun _ =>
    again (.builtin "sum.loop" ⟨[.ref it, .ref S, rawInt 1, rawInt ((Float64.add (((0 : UInt64).toNat : Int)).toNat.toUInt64 (lostOf (hf a) (hf m))).toNat : Int)], []⟩)) _ _ _
   rw [hcomp, hf_addS hb]
   have hF₃ : FmOk c ((F.plus (S, AccP [.float (hf a) t])).plus (it, ItP (.lst l) (j + 1))) := hF₂.plus_same (e := (it, ItP (.lst l) j))
   refine wpAny_bind (wp_mkFloat (wpAny_bind (wpAny_acc (F := F.plus (it, ItP (.lst l) (j + 1))) (ws := [.float (hf (a + m)) tk]) hF₃.swap (hI₂.toks (Nat.le_succ _)).swap rfl (by rw [sizeLine_eq]; simp) (by simp) fun h'' hI₄ => wpAny_pure ⟨plainId_quiet PySem.F.plain_sum_loop _, ?_⟩)))
   exact ih (j + 1) (sub_step hk) (hF₃.swap.plus_same (F := F.plus (it, ItP (.lst l) (j + 1))) (e := (S, AccP [.float (hf a) t]))).swap hI₄.swap hs
  ·rw [List.getElem?_eq_getElem hlt] at hx; cases hx
theorem sum_start {R : Result → Shared → Prop} {S it l : Addr} {ns : List Int} (hh : A.handled = none) (hik : IkOk c G (.lst l) (ns.map V.flt)) {z : Int} {t : Tok} (hne : ns ≠ []) (hs : sumFs 0 ns = some z)
  (hF₂ : FmOk c ((F.plus (it, ItP (.lst l) 0)).plus (S, AccP [.int 0 t]))) (hI₂ : Inv c ((F.plus (it, ItP (.lst l) 0)).plus (S, AccP [.int 0 t])) G ρ σ s)
  (hR : ∀ (s' : Shared) (tk : Nat), Inv c F G ρ σ { s' with toks := tk } → R (.ok (.ret (.float (hf z) tk))) { s' with toks := tk + 1 }) : codeAny c.M A (.builtin "sum.loop" ⟨[.ref it, .ref S, rawInt 0, rawInt 0], []⟩) R s := by
 refine codeAny_builtin PySem.F.entry_sum_loop ?_
 rw [Around.under_plainId PySem.F.plain_sum_loop _]
 refine wpAny_bind (seq_acc hI₂ (wpAny_bind (wpAny_tryCatch (pyNext_flt (A := A.in1) (F := F.plus (S, AccP [.int 0 t])) hh hF₂.swap hI₂.swap hik (fun m u h' tk hm hI₃ => wpAny_bind (wpAny_rule (wpAny_bind (wpAny_attempt (wpAny_holding (AutoFloatOps.add_if_1 inf0 ?_)))))) fun h' hx => ?_))))
 ·have hd : ns = m :: ns.drop 1 := by
   cases ns with
   | nil => cases hm
   | cons n r => cases hm; rfl
  have hz : sumFs 0 (m :: ns.drop 1) = some z := hd ▸ hs
  have hb := (sumFs_cons hz).1
  have e1 : Float64.add (Float64.ofInt 0) (hf m) = hf (0 + m) := by rw [hf_ofInt (i := 0) (by decide) (by decide)]; exact hf_addS hb
  have hF₃ : FmOk c ((F.plus (it, ItP (.lst l) 1)).plus (S, AccP [.int 0 t])) := (hF₂.swap.plus_same (e := (it, ItP (.lst l) 0)) (P' := ItP (.lst l) 1)).swap
  have hF₅ : FmOk c ((F.plus (it, ItP (.lst l) 1)).plus (S, AccP [.float (hf (0 + m)) tk])) := hF₃.plus_same (F := F.plus (it, ItP (.lst l) 1)) (e := (S, AccP [.int 0 t]))
  show wpAny _ A.in1 (updateSeq S (fun _ => #[_]) >>= _) _ _ _
  refine wpAny_bind (wpAny_acc (F := F.plus (it, ItP (.lst l) 1)) (ws := [.float (hf (0 + m)) tk]) hF₃ (hI₃.toks (Nat.le_succ _)).swap (by rw [← e1]) (by rw [sizeLine_eq]; simp) (by simp) fun h'' hI₅ => wpAny_bind (PySem.wpAny_letGo ?_))
  show wpAny _ A.in1 (updateSeq S (fun _ => #[_]) >>= _) _ _ _
  refine wpAny_bind (wpAny_acc (F := F.plus (it, ItP (.lst l) 1)) (ws := [.float (hf (0 + m)) tk]) hF₅ hI₅ (by rw [← e1]) (by rw [sizeLine_eq]; simp) (by simp) fun h₃ hI₆ => wpAny_pure ⟨plainId_quiet PySem.F.plain_sum_loop _, ?_⟩)
  exact sum_loop hh hik hR _ 1 rfl hF₅.swap hI₆.swap (sumFs_cons hz).2
 ·cases ns with
  | nil => exact absurd rfl hne
  | cons n r => cases hx
theorem b_sum {ns : List Int} {z : Int} (hc : K.calm = true) (hne : ns ≠ []) (hs : sumFs 0 ns = some z) (q : Q (.flt z) st) : BC K (.builtin "sum") [.lst (ns.map V.flt)] st Q E := on_one fun w A G s QQ EE ok hx hI H => by
 obtain ⟨l, vs, rfl, hl, r⟩ := lst_inv hx
 refine call_function_tree PySem.F.kind_sum PySem.F.plain_sum PySem.F.entry_sum (PySem.F.args_sum1 _) ?_
 unfold Builtin.«sum»
 simp only [List.length_cons, List.length_nil]
 rw [if_neg (by decide)]
 refine wpAny_bind (wpAny_of_eq (show Builtin.Builtins.bindParams "sum" ["start"] 0 { } = pure [none] from rfl) ?_)
 refine wpAny_bind (it_new ok.hF hI hl fun it H₀ hF₁ hI₁ => wpAny_bind (wpAny_mkInt (wpAny_bind (wpAny_pure ?_))))
 simp only [List.forIn_cons, List.forIn_nil]
 refine wpAny_bind (wpAny_bind (wpAny_bind (wpAny_isInstance (T := "int") (b := false) (typeIs_int _ _ _) PySem.sub_int_str (wpAny_pure (wpAny_bind (wpAny_bind (wpAny_isInstance (T := "int") (b := false) (typeIs_int _ _ _) PySem.sub_int_bytes (wpAny_pure (wpAny_bind (wpAny_bind (wpAny_isInstance (T := "int") (b := false) (typeIs_int _ _ _) PySem.sub_int_bytearray (wpAny_pure (wpAny_pure ?_)))))))))))))
 refine wpAny_bind (acc_new hF₁ (hI₁.toks (Nat.le_succ _)) fun S h' hF₂ hI₂ => wpAny_pure ⟨plainId_quiet PySem.F.plain_sum_loop _, ?_⟩)
 refine sum_start (ns := ns) (ok.hA.handled hc) (.lst hl r) hne hs hF₂ hI₂ fun s' tk' hI' => ?_
 have g := hI'.addTok (t := tk') (k := .inr z) (tk := tk' + 1) (Nat.le_refl _) (Nat.lt_succ_self _)
 exact H.ok _ st _ _ _ q g.1 g.2 (VR_flt (Gh.kt_addTok _ _ _))
theorem b_sorted {ns : List Int} (hlen : ns.length ≤ 8) (q : Q (.lst ((sortI ns).map V.int)) st) : BC K (.builtin "sorted") [.tup (ns.map V.int)] st Q E := on_one fun w A G s QQ EE ok hx hI H => by
 obtain ⟨t, vs, rfl, ht, r⟩ := tup_inv hx
 obtain ⟨nt, hot⟩ := hI.fz ht
 have hI' := ints_are r
 have hl : vs.length = ns.length := hI'.length
 refine Calls.call_function_entry kind_sorted plain_sorted entry_sorted (args_sorted1 _) ?_
 unfold Builtin.«sorted»
 refine wpAny_bind (m := checkCount "sorted" 1 1 _) (wpAny_pure ?_)
 refine wpAny_bind (wpAny_collect_seq t (.inr rfl) hot rfl rfl (fun h' hk => ?_) (by rw [List.size_toArray, sizeLine_eq]; omega))
 refine wpAny_bind (wpAny_newList ?_ (by simp only [sizeLine_eq]; omega))
 have hoL : (h'.push (seqObj "list" vs.toArray 0)).get? h'.objs.size = some (seqObj "list" vs.toArray 0) := Heap.get?_push_size _ rfl
 refine wpAny_bind (wpAny_holding (wpAny_call_entry slot_list_sort ⟨_, hoL, rfl⟩ entry_list_sort (list_sort_tree hoL hI' (by omega) fun out ns' a1 a2 a3 => ⟨_, rfl, ?_⟩) (args_list_sort _)))
 refine wpAny_pure ⟨_, rfl, ?_⟩
 obtain ⟨p1, p2⟩ := sortI_spec ns
 have hsame : ns' = sortI ns := lks_uniq (a2.trans p1.symm) a3 p2
 obtain ⟨e, hat⟩ := sortedHeap_at (vs := vs) (out := out) hoL
 have hkeep : ∀ b o, s.heap.get? b = some o → (sortedHeap (h'.push (seqObj "list" vs.toArray 0)) h'.objs.size vs out).get? b = some o := fun b o q => by
  have hb := hk b o q
  have hlt := Heap.lt_size hb
  rw [sortedHeap_old (Nat.ne_of_lt hlt) (by rw [Heap.size_push]; exact Nat.lt_succ_of_lt hlt)]
  exact Heap.get?_push_of_some _ hb
 have hnew : s.heap.get? h'.objs.size = none := by
  cases q : s.heap.get? h'.objs.size with
  | none => rfl
  | some o => exact absurd (Heap.lt_size (hk _ _ q)) (Nat.lt_irrefl _)
 have g := hI.addFz (k := .lst out.toList) (tk := s.toks) hnew hkeep ⟨e, by simpa using hat⟩ (Nat.le_refl _)
 refine H.ok _ st _ _ _ q g.1 g.2 (VR_lst (Gh.fz_addFz _ _ _) ?_)
 rw [← hsame]
 exact VRs_of_ints a1
end
end Mine
end
section
namespace Mine
open PySem PySem.W PyProof.Rows PySem.SeqAt
open AutoSeq1 (wpAny_loadPart')
open MeetsSeq MeetsSeq2 MeetsSeq3 SeqRoads2
inductive LtN : V → V → Bool → Prop
 | num {x y : V} {i j : Int} (h : x.num = some i) (h' : y.num = some j) : LtN x y (decide (i < j))
 | flt {m k : Int} (h : small2 m = true) (h' : small2 k = true) : LtN (.flt m) (.flt k) (decide (m < k))
inductive LtVs : List V → List V → Bool → Prop
 | nil {ys : List V} : LtVs [] ys (!ys.isEmpty)
 | last {x : V} {xs : List V} : LtVs (x :: xs) [] false
 | eq {x y : V} {xs ys : List V} {b : Bool} (h : EqR 8 x y true) (r : LtVs xs ys b) : LtVs (x :: xs) (y :: ys) b
 | ne {x y : V} {xs ys : List V} {b : Bool} (h : EqR 8 x y false) (l : LtN x y b) : LtVs (x :: xs) (y :: ys) b
inductive LtK : V → V → Bool → Prop
 | one {x y : V} {b : Bool} (h : LtN x y b) : LtK x y b
 | lst {xs ys : List V} {b : Bool} (h : LtVs xs ys b) : LtK (.lst xs) (.lst ys) b
inductive LtP : V → V → Bool → Prop
 | eq {p q : V} {i j : Int} (h : EqR 8 p q true) : LtP (.tup [p, .int i]) (.tup [q, .int j]) (decide (i < j))
 | ne {p q : V} {i j : Int} {b : Bool} (h : EqR 8 p q false) (l : LtK p q b) : LtP (.tup [p, .int i]) (.tup [q, .int j]) b
noncomputable def runT {α : Type} (ask : Nat → Nat → Option Bool) : PySem.W.KasT α → Option α
 | .ret a => some a
 | .ask i j k => match ask i j with | some b => runT ask (k b) | none => none
noncomputable def kindK : V → Nat
 | .int _ => 1
 | .mrk _ => 1
 | .flt _ => 2
 | .lst _ => 3
 | _ => 0
noncomputable def LtAt (A : Around) (s : Shared) (y x : Value) (b : Bool) : Prop :=
 ∀ (prog : Program) (w : World) (E : Value → Shared → Prop) (Q : Value → Shared → Prop), Q (.bool b) s → wpAny (model prog w) A (richCompare .Lt y x) Q E s
noncomputable def LtGo (A : Around) (s : Shared) : List Value → List Value → Bool → Prop
 | [], ys, r => r = !ys.isEmpty
 | _ :: _, [], r => r = false
 | x :: xs, y :: ys, r => ∃ e, EqAt A s x y e ∧ (if e = true then LtGo A s xs ys r else LtAt A s x y r)
theorem lt_loopAt (l b : Addr) (items items2 : Array Value) (n n2 : Nat) (dd dd2 : Option Addr) (sl sl2 : Array (Option Value)) (r : Bool) (k : Nat) :
  ∀ i : Nat, items.size - i = k → i ≤ items.size → i ≤ items2.size → Meets (Builtin.«list.__eq__.loop» ⟨[.ref l, .ref b, rawInt i, rawInt 0], []⟩)
   (fun A R s => s.heap.get? l = some { cls := .type "list", dict := dd, data := .seq items n, slots := sl } ∧ s.heap.get? b = some { cls := .type "list", dict := dd2, data := .seq items2 n2, slots := sl2 } ∧
    LtGo A.in1 s (items.toList.drop i) (items2.toList.drop i) r ∧ R (.ok (.ret (.bool r))) s) := by
 induction k with
 | zero =>
  intro i hk h1 h2 prog w A R s h
  obtain ⟨hp, g, d, tk, os⟩ := s; obtain ⟨hl, hb, he, h⟩ := h
  wp_walk using wpAny_loadPart' hl, wpAny_loadPart' hb
  have hi1 : items[((i : Nat) : Int).toNat]? = none := by simp; exact sub_end hk
  have hd : items.toList.drop i = [] := by simp; exact sub_end hk
  rw [hd] at he
  rw [hi1]
  have hr : r = decide (items.size < items2.size) := by
   have := he
   simp only [LtGo] at this
   rw [this]
   have e : items.size = i := Nat.le_antisymm (sub_end hk) h1
   by_cases q : items.size < items2.size
   ·have : items2.toList.drop i ≠ [] := by simp; exact e ▸ q
    cases z : items2.toList.drop i with
    | nil => exact absurd z this
    | cons _ _ => simp [q]
   ·have : items2.toList.drop i = [] := by simp; exact e ▸ Nat.not_lt.mp q
    simp [this, q]
  wp_walk using wpAny_loadPart' hl, wpAny_loadPart' hb
  show R (.ok (.ret (.bool (decide (items.size < items2.size))))) _
  rw [← hr]
  exact h
 | succ k ih =>
  intro i hk h1 h2 prog w A R s h
  obtain ⟨hp, g, d, tk, os⟩ := s; obtain ⟨hl, hb, he, h⟩ := h
  wp_walk using wpAny_loadPart' hl, wpAny_loadPart' hb
  have hlt : i < items.size := sub_lt hk
  have hi1 : items[((i : Nat) : Int).toNat]? = some items[i] := by simp [hlt]
  have hd : items.toList.drop i = items[i] :: items.toList.drop (i + 1) := by simp [List.drop_eq_getElem_cons, hlt]
  have hc : ((i : Int) + 1) = ((i + 1 : Nat) : Int) := by push_cast; rfl
  rw [hd] at he
  by_cases hlt2 : i < items2.size
  ·have hi2 : items2[((i : Nat) : Int).toNat]? = some items2[i] := by simp [hlt2]
   have hd2 : items2.toList.drop i = items2[i] :: items2.toList.drop (i + 1) := by simp [List.drop_eq_getElem_cons, hlt2]
   rw [hd2] at he
   obtain ⟨e, he1, he2⟩ := he
   rw [hi1, hi2]
   refine wpAny_bind (he1 prog w _ _ ?_)
   cases e with
   | true =>
    simp only [if_true] at he2
    wp_walk
    rw [hc]
    exact ⟨plainId_quiet plain_eq_loop _, codeAny_builtin entry_eq_loop (by
     rw [Around.under_plainId plain_eq_loop _]
     exact ih (i + 1) (sub_step hk) hlt hlt2 prog w A R _ ⟨hl, hb, he2, h⟩)⟩
   | false =>
    simp only [Bool.false_eq_true, if_false] at he2
    wp_walk using wpAny_loadPart' hl, wpAny_loadPart' hb
    rw [hi1, hi2]
    dsimp only
    refine wpAny_bind (he2 prog w _ _ ?_)
    exact wpAny_pure h
  ·have hi2 : items2[((i : Nat) : Int).toNat]? = none := by simp; exact Nat.not_lt.mp hlt2
   have hd2 : items2.toList.drop i = [] := by simp; exact Nat.not_lt.mp hlt2
   rw [hd2] at he
   simp only [LtGo] at he
   rw [hi1, hi2]
   wp_walk using wpAny_loadPart' hl, wpAny_loadPart' hb
   show R (.ok (.ret (.bool (decide (items.size < items2.size))))) _
   have : decide (items.size < items2.size) = r := by rw [he]; simp; exact Nat.le_trans (Nat.not_lt.mp hlt2) (Nat.le_of_lt hlt)
   rw [this]
   exact h
theorem list_ltAt (l b : Addr) (items items2 : Array Value) (n n2 : Nat) (dd dd2 : Option Addr) (sl sl2 : Array (Option Value)) (r : Bool) :
  Meets (Builtin.«list.__lt__» ⟨[.ref l, .ref b], []⟩)
   (fun A R s => s.heap.get? l = some { cls := .type "list", dict := dd, data := .seq items n, slots := sl } ∧ s.heap.get? b = some { cls := .type "list", dict := dd2, data := .seq items2 n2, slots := sl2 } ∧
    LtGo A.in1 s items.toList items2.toList r ∧ R (.ok (.ret (.bool r))) s) := by
 intro prog w A R s h
 obtain ⟨hp, g, d, tk, os⟩ := s; obtain ⟨hl, hb, he, h⟩ := h
 have f3 := AutoSeq1.sub_list_list
 wp_walk using wpAny_loadPart' hl, wpAny_loadPart' hb
 exact ⟨plainId_quiet plain_eq_loop _, codeAny_builtin entry_eq_loop (by
  rw [Around.under_plainId plain_eq_loop _]
  exact lt_loopAt l b items items2 n n2 dd dd2 sl sl2 r _ 0 rfl (Nat.zero_le _) (Nat.zero_le _) prog w A R _ ⟨hl, hb, by simpa using he, h⟩)⟩
section
variable {c : Cx} {F : Fm} {G : Gh} {ρ : Str → Option V} {σ : List O} {s : Shared}
noncomputable def OneLt (A : Around) (s : Shared) (a b : Value) (r : Bool) : Prop :=
 ∀ (prog : Program) (w : World) (E : Value → Shared → Prop) (Q : Bool → Shared → Prop), Q r s → wpAny (model prog w) A (oneLt' true a b) Q E s
theorem OneLt.int {A : Around} {i j : Int} {t u : Tok} : OneLt A s (.int i t) (.int j u) (decide (i < j)) := fun prog w E Q hq => oneLt_int hq
theorem OneLt.flt {A : Around} {m k : Int} {t u : Tok} (hm : small2 m = true) (hk : small2 k = true) : OneLt A s (.float (hf m) t) (.float (hf k) u) (decide (m < k)) := fun prog w E Q hq => by
 rw [oneLt'_eq]
 simp only [if_true]
 refine wpAny_bind (wpAny_cRoomFor_byValue rfl ?_)
 refine wpAny_bind (wpAny_callSpecialIfBound?_slot (name := Str.ofString "__lt__") (typeIs_float s (hf m) t) PySem.F.slot_float_lt
  (call_gives PySem.F.slot_float_lt (typeIs_float s (hf m) t) PySem.F.entry_float_lt (PySem.F.args_float_lt_2 _ _) (AutoFloatG5.float___lt___float_float_0 (hf m) t (hf k) u) ?_))
 have e1 : (Float64.cmp (hf m) (hf k) == some Ordering.lt) = decide (m < k) := by
  rw [hf_cmp hm hk]
  by_cases z : m < k
  ·simp [z, Int.compare_eq_lt.mpr z]
  ·have : compare m k ≠ .lt := fun w => z (Int.compare_eq_lt.mp w)
   simp [z, this]
 show wpAny (model prog w) A (truthOfDropped (Value.bool (Float64.cmp (hf m) (hf k) == some Ordering.lt))) Q E s
 rw [e1]
 exact wpAny_truthy_bool hq
theorem OneLt.list {A : Around} {l b : Addr} {items items2 : Array Value} {r : Bool} (hl : s.heap.IsList l items) (hb : s.heap.IsList b items2) (hu : A.units < cLine) (hg : LtGo A.in1 s items.toList items2.toList r) :
  OneLt A s (.ref l) (.ref b) r := fun prog w E Q hq => by
 obtain ⟨⟨cls, dd, data, sl⟩, ho, hc, n, hd⟩ := id hl
 obtain ⟨⟨cls2, dd2, data2, sl2⟩, ho2, hc2, n2, hd2⟩ := id hb
 simp only at hc hd hc2 hd2
 subst hc hd hc2 hd2
 rw [oneLt'_eq]
 simp only [if_true]
 refine wpAny_bind (wpAny_cRoomFor hu ?_)
 refine wpAny_bind (wpAny_callSpecialIfBound?_slot (name := Str.ofString "__lt__") ⟨_, ho, rfl⟩ PySem.F.slot_list_lt
  (call_meets PySem.F.slot_list_lt ⟨_, ho, rfl⟩ PySem.F.entry_list_lt (PySem.F.args_list_lt_2 _ _) (list_ltAt l b items items2 n n2 dd dd2 sl sl2 r) ⟨ho, ho2, hg, ?_⟩))
 exact wpAny_truthy_bool hq
theorem cmp_lt {m k : Int} (hm : small2 m = true) (hk : small2 k = true) : (Float64.cmp (hf m) (hf k) == some Ordering.lt) = decide (m < k) := by
 rw [hf_cmp hm hk]
 by_cases z : m < k
 ·simp [z, Int.compare_eq_lt.mpr z]
 ·have : compare m k ≠ .lt := fun w => z (Int.compare_eq_lt.mp w)
  simp [z, this]
theorem LtN.at {A : Around} {x y : V} {a b : Value} {k : Bool} (h : LtN x y k) (hx : VR G x a) (hy : VR G y b) : LtAt A s a b k := fun prog w E Q hq => by
 cases h with
 | num h h' =>
  obtain ⟨t, rfl⟩ := num_inv hx h
  obtain ⟨u, rfl⟩ := num_inv hy h'
  exact PyProof.Rows.lt_int (prog := prog) (w := w) hq
 | flt h h' =>
  obtain ⟨t, rfl, _⟩ := flt_inv hx
  obtain ⟨u, rfl, _⟩ := flt_inv hy
  exact AutoFloatOps.lt_0 (prog := prog) (w := w) (by rw [cmp_lt h h']; exact hq)
theorem LtN.one {A : Around} {x y : V} {a b : Value} {k : Bool} (h : LtN x y k) (hx : VR G x a) (hy : VR G y b) : OneLt A s a b k := by
 cases h with
 | num h h' =>
  obtain ⟨t, rfl⟩ := num_inv hx h
  obtain ⟨u, rfl⟩ := num_inv hy h'
  exact OneLt.int
 | flt h h' =>
  obtain ⟨t, rfl, _⟩ := flt_inv hx
  obtain ⟨u, rfl, _⟩ := flt_inv hy
  exact OneLt.flt h h'
theorem LtVs.go (hI : Inv c F G ρ σ s) (hb : NoneBooked s.heap) {A : Around} (hu : A.units + 20 < cLine) {xs ys : List V} {r : Bool} (h : LtVs xs ys r) : ∀ {vs us : List Value}, VRs G xs vs → VRs G ys us → LtGo A s vs us r := by
 induction h with
 | @nil ys =>
  intro vs us h1 h2
  rw [h1.nil_inv]
  cases ys with
  | nil => rw [h2.nil_inv]; rfl
  | cons y ys => obtain ⟨v, us', rfl, _⟩ := h2.cons_inv; rfl
 | last =>
  intro vs us h1 h2
  obtain ⟨v, vs', rfl, _⟩ := h1.cons_inv
  rw [h2.nil_inv]; rfl
 | eq h r ih =>
  intro vs us h1 h2
  obtain ⟨v, vs', rfl, k1, r1⟩ := h1.cons_inv
  obtain ⟨u, us', rfl, k2, r2⟩ := h2.cons_inv
  exact ⟨true, (h.asked hI hb k1 k2 (by omega)).eq, by rw [if_pos rfl]; exact ih r1 r2⟩
 | ne h l =>
  intro vs us h1 h2
  obtain ⟨v, vs', rfl, k1, r1⟩ := h1.cons_inv
  obtain ⟨u, us', rfl, k2, r2⟩ := h2.cons_inv
  exact ⟨false, (h.asked hI hb k1 k2 (by omega)).eq, by rw [if_neg Bool.false_ne_true]; exact l.at k1 k2⟩
theorem LtK.at (hI : Inv c F G ρ σ s) (hb : NoneBooked s.heap) {A : Around} (hu : A.units + 21 < cLine) {x y : V} {a b : Value} {k : Bool} (h : LtK x y k) (hx : VR G x a) (hy : VR G y b) : OneLt A s a b k := by
 cases h with
 | one h => exact h.one hx hy
 | lst h =>
  obtain ⟨a1, vs, rfl, hl1, r1⟩ := lst_inv hx
  obtain ⟨a2, us, rfl, hl2, r2⟩ := lst_inv hy
  exact OneLt.list (hI.lst hl1) (hI.lst hl2) (by omega) (h.go hI hb (A := A.in1) (by show A.units + 1 + 20 < cLine; omega) r1 r2)
theorem pair_inv {p : V} {i : Int} {a : Value} (hI : Inv c F G ρ σ s) (h : VR G (.tup [p, .int i]) a) : ∃ l v t n, a = .ref l ∧ s.heap.get? l = some ⟨.type "tuple", none, .seq #[v, .int i t] n, #[]⟩ ∧ VR G p v := by
 obtain ⟨l, vs, rfl, hl, r⟩ := tup_inv h
 obtain ⟨v, us, rfl, k1, r1⟩ := r.cons_inv
 obtain ⟨w, us, rfl, m1, r2⟩ := r1.cons_inv
 cases r2.nil_inv
 obtain ⟨t, rfl⟩ := num_inv m1 rfl
 obtain ⟨n, e⟩ := hI.fz hl
 exact ⟨l, v, t, n, rfl, e, k1⟩
theorem LtP.at (hI : Inv c F G ρ σ s) (hb : NoneBooked s.heap) {A : Around} (hu : A.units + 21 < cLine) {x y : V} {a b : Value} {k : Bool} (h : LtP x y k) (hx : VR G x a) (hy : VR G y b) {E : Value → Shared → Prop} {Q : Bool → Shared → Prop} (hq : Q k s) :
  wpAny c.M A (keyLt' (tuples' true) a b) Q E s := by
 cases h with
 | @eq p q i j e =>
  obtain ⟨l, v1, t, n, rfl, e1, k1⟩ := pair_inv hI hx
  obtain ⟨l', v2, u, n', rfl, e2, k2⟩ := pair_inv hI hy
  refine kat_lt e1 rfl e2 rfl ?_
  show KatLex _ _ A true _ Q [(v1, v2), (.int i t, .int j u)] 0 s
  refine kat_cons ((e.asked hI hb k1 k2 (by omega)).eq _ _ _ _ (kat_yes (kat_cons (wpAny_eqBool_int ?_))))
  by_cases z : i = j
  ·subst z
   have : decide (i < i) = false := by simp
   rw [this] at hq
   simp only [beq_self_eq_true]
   exact kat_yes (kat_nil hq)
  ·have : (i == j) = false := by simpa using z
   rw [this]
   exact kat_no (kat_one _ _ (PyProof.Rows.lt_int hq))
 | @ne p q i j b e l =>
  obtain ⟨l', v1, t, n, rfl, e1, k1⟩ := pair_inv hI hx
  obtain ⟨l'', v2, u, n', rfl, e2, k2⟩ := pair_inv hI hy
  refine kat_lt e1 rfl e2 rfl ?_
  show KatLex _ _ A true _ Q [(v1, v2), (.int i t, .int j u)] 0 s
  exact kat_cons ((e.asked hI hb k1 k2 (by omega)).eq _ _ _ _ (kat_no (l.at hI hb hu k1 k2 _ _ _ _ hq)))
theorem run_tree {α : Type} {ask : Nat → Nat → Option Bool} {vs : List Value} {A : Around} {κ : SortKind} (hr : ∀ i j k, ask i j = some k → ∀ Q : Bool → Shared → Prop, Q k s → kas_ask c.prog c.w A κ vs i j Q s) :
  ∀ (t : KasT α) {a : α} {Q : α → Shared → Prop}, runT ask t = some a → Q a s → t.kasWp (kas_ask c.prog c.w A κ vs) Q s
 | .ret a, _, Q, h, hq => by cases h; exact hq
 | .ask i j k, a, Q, h, hq => by
  unfold runT at h
  split at h
  ·rename_i b e
   exact hr i j b e _ (run_tree hr (k b) h hq)
  ·cases h
end
end Mine
end
section
namespace Mine
open PySem PySem.W PyProof.Rows PySem.SeqAt
theorem wpAny_loadIfAlive {M : Model} {A : Around} {E : Value → Shared → Prop} {s : Shared} {a : Addr} {Q : Option Obj → Shared → Prop} (h : Q (s.heap.get? a) s) : wpAny M A (loadIfAlive a) Q E s := fun Γ p hΓ => by
 unfold loadIfAlive
 rw [Sem.wp_loadIfAlive]
 exact wpAny_pure h Γ p hΓ
noncomputable def ZP (f0 f1 : Value) (TI TO : Addr) : Obj → Prop := fun ob => ob = { cls := .type "zip", dict := none, data := .fields #[f0, f1, .bool false, .ref TI, .ref TO], slots := #[] }
noncomputable def ZM (T TI TO : Addr) : Obj → Prop := fun ob => ∃ f1, ZP (rawInt T) f1 TI TO ob
noncomputable def PairP : Obj → Prop := fun ob => ∃ a b, ob = { cls := .type "tuple", data := .seq #[a, b] }
theorem apart_ZP {f0 f1 : Value} {TI TO : Addr} : Apart (ZP f0 f1 TI TO) := fun o h => by
 have h' : o = _ := h
 subst h'
 exact ⟨fun v q => (by cases q), fun es ep q => (by cases q)⟩
theorem apart_ZM {T TI TO : Addr} : Apart (ZM T TI TO) := fun o ⟨f1, h⟩ => apart_ZP o h
theorem apart_PairP : Apart PairP := fun o ⟨a, b, h⟩ => by
 subst h
 exact ⟨fun v q => (by cases q), fun es ep q => (by cases q)⟩
section
variable {c : Cx} {F : Fm} {G : Gh} {ρ : Str → Option V} {σ : List O} {s : Shared} {K kx : Kx} {st : St} {C fI fN : Addr}
theorem FmOk.perm {o o' : List XE} (h : o.Perm o') (hF : FmOk c (F.wo o)) : FmOk c (F.wo o') :=
 have hm : ∀ a, a ∈ o'.map (·.1) → a ∈ o.map (·.1) := fun a q => ((h.map (·.1)).mem_iff).mpr q
 { hF with
  cel := fun x hx => by
   obtain ⟨h1, b, h2, h3, h4⟩ := hF.cel x hx
   exact ⟨h1, b, h2, fun q => h3 (hm b q), h4⟩
  lo := fun q => hF.lo (hm _ q)
  outNd := ((h.map (·.1)).nodup_iff).mp hF.outNd }
theorem Inv.perm {o o' : List XE} (h : o.Perm o') (hI : Inv c (F.wo o) G ρ σ s) : Inv c (F.wo o') G ρ σ s := by
 obtain ⟨xs, R, f⟩ := hI.ok
 refine ⟨xs, R, ⟨f.loc, f.cel, fun x u hx hu => ?_, fun e he => f.out e (h.mem_iff.mpr he), f.frs⟩⟩
 obtain ⟨b, w, h1, h2, h3⟩ := f.fre x u hx hu
 exact ⟨b, w, h1, h.mem_iff.mp h2, h3⟩
theorem FmOk.mid {p q : List XE} {a : Addr} {P P' : Obj → Prop} (hF : FmOk c (F.wo (p ++ (a, P) :: q))) : FmOk c (F.wo (p ++ (a, P') :: q)) :=
 FmOk.perm List.perm_middle.symm (FmOk.plus_same (F := F.wo (p ++ q)) (e := (a, P)) (hF.perm List.perm_middle))
theorem Inv.mid {p q : List XE} {a : Addr} {P P' : Obj → Prop} (hF : FmOk c (F.wo (p ++ (a, P) :: q))) (hP : Apart P) (hI : Inv c (F.wo (p ++ (a, P) :: q)) G ρ σ s) {h' : Heap} {tk : Nat} (hs : Heap.ExtBut a s.heap h')
  (hp : ∃ ob, h'.get? a = some ob ∧ P' ob) (ht : s.toks ≤ tk) : Inv c (F.wo (p ++ (a, P') :: q)) G ρ σ { s with heap := h', toks := tk } :=
 Inv.perm List.perm_middle.symm (Inv.move (F := F.wo (p ++ q)) (hF.perm List.perm_middle) hP (hI.perm List.perm_middle) hs hp ht)
theorem Inv.atMid {p q : List XE} {a : Addr} {P : Obj → Prop} (hI : Inv c (F.wo (p ++ (a, P) :: q)) G ρ σ s) : ∃ ob, s.heap.get? a = some ob ∧ P ob :=
 Inv.head (F := F.wo (p ++ q)) (e := (a, P)) (hI.perm List.perm_middle)
theorem Inv.offMid {p q : List XE} {a : Addr} {P : Obj → Prop} (hP : Apart P) (hI : Inv c (F.wo (p ++ (a, P) :: q)) G ρ σ s) : Inv c (F.wo (p ++ q)) G ρ σ s :=
 Inv.minus (F := F.wo (p ++ q)) (e := (a, P)) hP (hI.perm List.perm_middle)
theorem Inv.dropMid {p q : List XE} {a : Addr} {P : Obj → Prop} (hF : FmOk c (F.wo (p ++ (a, P) :: q))) (hP : Apart P) (hI : Inv c (F.wo (p ++ (a, P) :: q)) G ρ σ s) {h' : Heap} {tk : Nat} (hs : Heap.ExtBut a s.heap h') (ht : s.toks ≤ tk) :
  Inv c (F.wo (p ++ q)) G ρ σ { s with heap := h', toks := tk } :=
 Inv.drop (F := F.wo (p ++ q)) (hF.perm List.perm_middle) hP (hI.perm List.perm_middle) hs ht
theorem nextOf_own {A : Around} {QQ : Value → Shared → Prop} {EE : Value → Shared → Prop} {Q : V → St → Prop} {C fI fN a : Addr} {i : Nat} (ok : K.Ok A) (hO : OwnIt K.c C fI fN) (hI : K.Inv G st s) (ha : G.own a = some (.st i)) (h : NXO K C fN i st Q fun _ => False)
  (hq : ∀ x st' G' v s', Q x st' → G.le G' → K.Inv G' st' s' → VR G' x v → QQ v s') : wpAny K.c.M A (Builtin.SmallTypes.nextOf (.ref a)) QQ EE s := by
 obtain ⟨db, sl, hin⟩ := h.is.inst hI ha
 obtain ⟨m, Fr₀⟩ := hI.frame ok.hF
 unfold Builtin.SmallTypes.nextOf
 exact wpAny_bind (special_fn (name := "__next__") (args := []) (ok.hc.kin.keeps Fr₀.keep) hin hO.next.find (beq_iff_eq.mp hO.next.fn) (wpAny_of_code (h.run [.ref a] [] A G s _ _ ok (VRs.cons (VR_obj ha) VRs.nil) rfl hI
  ⟨fun x st' G' v s' q hg hI' hv => wpAny_pure (hq x st' G' v s' q hg hI' hv), fun x st' G' e s' q => q.2.elim⟩)))
noncomputable abbrev F4 (F : Fm) (S z TO i1 : Addr) (pS pz pT pi : Obj → Prop) : Fm := F.wo ((S, pS) :: (z, pz) :: (TO, pT) :: (i1, pi) :: F.out)
section
variable {S z TO i1 : Addr} {pS pz pT pi pS' pz' pT' pi' : Obj → Prop}
theorem F4.ne (hF : FmOk c (F4 F S z TO i1 pS pz pT pi)) : S ≠ z ∧ S ≠ TO ∧ S ≠ i1 ∧ z ≠ TO ∧ z ≠ i1 ∧ TO ≠ i1 := by
 have := hF.outNd
 simp only [Fm.wo, List.map_cons, List.nodup_cons, List.mem_cons, not_or] at this
 exact ⟨this.1.1, this.1.2.1, this.1.2.2.1, this.2.1.1, this.2.1.2.1, this.2.2.1.1⟩
theorem F4.okS (hF : FmOk c (F4 F S z TO i1 pS pz pT pi)) : FmOk c (F4 F S z TO i1 pS' pz pT pi) := FmOk.mid (F := F) (p := []) hF
theorem F4.okz (hF : FmOk c (F4 F S z TO i1 pS pz pT pi)) : FmOk c (F4 F S z TO i1 pS pz' pT pi) := FmOk.mid (F := F) (p := [_]) hF
theorem F4.okT (hF : FmOk c (F4 F S z TO i1 pS pz pT pi)) : FmOk c (F4 F S z TO i1 pS pz pT' pi) := FmOk.mid (F := F) (p := [_, _]) hF
theorem F4.oki (hF : FmOk c (F4 F S z TO i1 pS pz pT pi)) : FmOk c (F4 F S z TO i1 pS pz pT pi') := FmOk.mid (F := F) (p := [_, _, _]) hF
theorem F4.setz (hF : FmOk c (F4 F S z TO i1 pS pz pT pi)) (hP : Apart pz) (hI : Inv c (F4 F S z TO i1 pS pz pT pi) G ρ σ s) {h' : Heap} (hs : Heap.ExtBut z s.heap h') (hp : ∃ ob, h'.get? z = some ob ∧ pz' ob) :
  Inv c (F4 F S z TO i1 pS pz' pT pi) G ρ σ { s with heap := h' } := Inv.mid (F := F) (p := [_]) hF hP hI hs hp (Nat.le_refl _)
theorem F4.setT (hF : FmOk c (F4 F S z TO i1 pS pz pT pi)) (hP : Apart pT) (hI : Inv c (F4 F S z TO i1 pS pz pT pi) G ρ σ s) {h' : Heap} (hs : Heap.ExtBut TO s.heap h') (hp : ∃ ob, h'.get? TO = some ob ∧ pT' ob) :
  Inv c (F4 F S z TO i1 pS pz pT' pi) G ρ σ { s with heap := h' } := Inv.mid (F := F) (p := [_, _]) hF hP hI hs hp (Nat.le_refl _)
theorem F4.seti (hF : FmOk c (F4 F S z TO i1 pS pz pT pi)) (hP : Apart pi) (hI : Inv c (F4 F S z TO i1 pS pz pT pi) G ρ σ s) {h' : Heap} (hs : Heap.ExtBut i1 s.heap h') (hp : ∃ ob, h'.get? i1 = some ob ∧ pi' ob) :
  Inv c (F4 F S z TO i1 pS pz pT pi') G ρ σ { s with heap := h' } := Inv.mid (F := F) (p := [_, _, _]) hF hP hI hs hp (Nat.le_refl _)
theorem F4.getz (hI : Inv c (F4 F S z TO i1 pS pz pT pi) G ρ σ s) : ∃ ob, s.heap.get? z = some ob ∧ pz ob := Inv.atMid (F := F) (p := [_]) hI
theorem F4.getT (hI : Inv c (F4 F S z TO i1 pS pz pT pi) G ρ σ s) : ∃ ob, s.heap.get? TO = some ob ∧ pT ob := Inv.atMid (F := F) (p := [_, _]) hI
theorem F4.geti (hI : Inv c (F4 F S z TO i1 pS pz pT pi) G ρ σ s) : ∃ ob, s.heap.get? i1 = some ob ∧ pi ob := Inv.atMid (F := F) (p := [_, _, _]) hI
theorem itP_lst {l : Addr} {k : Nat} (h : ∃ ob, s.heap.get? i1 = some ob ∧ ItP (.lst l) k ob) : s.heap.IsListIter i1 l k := by
 obtain ⟨ob, ho, h1, h2, _⟩ := h
 exact ⟨ob, ho, h1, h2⟩
theorem lst_itP {h : Heap} {l : Addr} {k : Nat} (x : h.IsListIter i1 l k) : ∃ ob, h.get? i1 = some ob ∧ ItP (.lst l) k ob := by
 obtain ⟨ob, ho, h1, h2⟩ := x
 exact ⟨ob, ho, itP_mk h1 h2 rfl⟩
noncomputable def TIo (i1 b : Addr) : Obj := { cls := .type "tuple", data := .seq #[.ref i1, .ref b] }
theorem zturn0 (hO : OwnIt kx.c C fI fN) {A : Around} {E : Value → Shared → Prop} {Q : Value → Shared → Prop} (okf : ∀ o, FmOk kx.c (F.wo o) → (kx.at (F.wo o)).Ok A) {l b TI : Addr} {us : List Value} {k j : Nat} {u : Value}
  (hF : FmOk kx.c (F4 F S z TO i1 pS (ZP .none (.bool false) TI TO) PairP (ItP (.lst l) k))) (hI : Inv kx.c (F4 F S z TO i1 pS (ZP .none (.bool false) TI TO) PairP (ItP (.lst l) k)) G st.ρ st.σ s)
  (hl : G.fz l = some (.lst us)) (hu : us[k]? = some u) (hTI : G.fz TI = some (.whole (TIo i1 b))) (ha : G.own b = some (.st j)) {x : V} {Qv : V → St → Prop} (hx : VR G x u) (e : ∀ F', NXO (kx.at F') C fN j st Qv fun _ => False)
  (hq : ∀ v st' G' T s', Qv v st' → G.le G' → FmOk kx.c (F4 F S z TO i1 pS (ZM T TI TO) PairP (ItP (.lst l) (k + 1))) → Inv kx.c (F4 F S z TO i1 pS (ZM T TI TO) PairP (ItP (.lst l) (k + 1))) G' st'.ρ st'.σ s' → VR G' (.tup [x, v]) (.ref T) → Q (.ref T) s') :
  wpAny kx.c.M A (Builtin.«zip.__next__» ⟨[.ref z], []⟩) (fun fin s' => ∃ v, fin = .done (.ret v) ∧ Q v s') E s := by
 obtain ⟨n1, n2, n3, n4, n5, n6⟩ := F4.ne hF
 obtain ⟨_, hz, rfl⟩ := F4.getz hI
 have hT : s.heap.get? TI = some (TIo i1 b) := hI.fz hTI
 show wpAny _ _ (field (.ref z) 2 >>= _) _ _ _
 refine wpAny_bind (wpAny_field hz rfl (x := .bool false) rfl ?_)
 show wpAny _ _ (field (.ref z) 3 >>= _) _ _ _
 refine wpAny_bind (wpAny_field hz rfl (x := .ref TI) rfl ?_)
 refine wpAny_bind (wpAny_seqItems hT rfl ?_)
 show wpAny _ _ (Builtin.SmallTypes.ownedTupleIsFree (.ref z) >>= _) _ _ _
 refine wpAny_bind ?_
 unfold Builtin.SmallTypes.ownedTupleIsFree
 refine wpAny_bind (wpAny_field hz rfl (x := .none) rfl (wpAny_pure ?_))
 simp only [if_true]
 refine wpAny_bind (wpAny_rule ?_)
 refine wpAny_bind (wpAny_field hz rfl (x := .ref TO) rfl ?_)
 refine wpAny_bind (wpAny_setField_rec hz (by simp) fun h₁ hz₁ hs₁ => ?_)
 have hF₁ : FmOk kx.c (F4 F S z TO i1 pS (ZP .ellipsis (.bool false) TI TO) PairP (ItP (.lst l) k)) := F4.okz hF
 have hI₁ : Inv kx.c (F4 F S z TO i1 pS (ZP .ellipsis (.bool false) TI TO) PairP (ItP (.lst l) k)) G st.ρ st.σ { s with heap := h₁ } := F4.setz hF apart_ZP hI hs₁.extBut ⟨_, hz₁, rfl⟩
 refine wpAny_bind ?_
 simp only [List.zipIdx_cons, List.zipIdx_nil, List.forIn_cons, List.forIn_nil]
 refine wpAny_bind (wpAny_bind (wpAny_onRaise ?_))
 show wpAny _ _ (Builtin.SmallTypes.nextOf (.ref i1) >>= _) _ _ _
 refine wpAny_bind (wpAny_nextOf_list_item (itP_lst (F4.geti hI₁)) (hI₁.lst hl) (by simpa using hu) fun h₂ h1₂ hs₂ => wpAny_pure ?_)
 have hF₂ : FmOk kx.c (F4 F S z TO i1 pS (ZP .ellipsis (.bool false) TI TO) PairP (ItP (.lst l) (k + 1))) := F4.oki hF₁
 have hI₂ : Inv kx.c (F4 F S z TO i1 pS (ZP .ellipsis (.bool false) TI TO) PairP (ItP (.lst l) (k + 1))) G st.ρ st.σ { s with heap := h₂ } := F4.seti (s := { s with heap := h₁ }) hF₁ apart_itP hI₁ hs₂.extBut (lst_itP h1₂)
 obtain ⟨_, hTO₂, p, q, rfl⟩ := F4.getT hI₂
 refine wpAny_bind (wpAny_seqItems hTO₂ rfl ?_)
 refine wpAny_bind (wpAny_updateSeq_pair hTO₂ fun h₃ hTO₃ hs₃ => ?_)
 replace hTO₃ : IsPair h₃ TO u q := hTO₃
 refine wpAny_bind (PySem.wpAny_letGo (wpAny_pure ?_))
 have hI₃ : Inv kx.c (F4 F S z TO i1 pS (ZP .ellipsis (.bool false) TI TO) (fun ob => ob = { cls := .type "tuple", data := .seq #[u, q] }) (ItP (.lst l) (k + 1))) G st.ρ st.σ { s with heap := h₃ } :=
  F4.setT (s := { s with heap := h₂ }) hF₂ apart_PairP hI₂ hs₃.extBut ⟨_, hTO₃, rfl⟩
 have hF₃ : FmOk kx.c (F4 F S z TO i1 pS (ZP .ellipsis (.bool false) TI TO) (fun ob => ob = { cls := .type "tuple", data := .seq #[u, q] }) (ItP (.lst l) (k + 1))) := F4.okT hF₂
 refine wpAny_bind (wpAny_bind (wpAny_onRaise ?_))
 show wpAny _ _ (Builtin.SmallTypes.nextOf (.ref b) >>= _) _ _ _
 refine wpAny_bind (nextOf_own (K := kx.at (F4 F S z TO i1 _ _ _ _)) (okf _ hF₃) hO hI₃ ha (e _) fun v st' G₄ w s₄ hqv hg₄ hI₄ hv => wpAny_pure ?_)
 obtain ⟨_, hTO₄, rfl⟩ := F4.getT hI₄
 refine wpAny_bind (wpAny_seqItems hTO₄ rfl ?_)
 refine wpAny_bind (wpAny_updateSeq_pair hTO₄ fun h₅ hTO₅ hs₅ => ?_)
 replace hTO₅ : IsPair h₅ TO u w := hTO₅
 refine wpAny_bind (PySem.wpAny_letGo (wpAny_pure (wpAny_pure ?_)))
 have apU : Apart fun ob : Obj => ob = { cls := .type "tuple", data := .seq #[u, q] } := fun o h => apart_PairP o ⟨_, _, h⟩
 have hF₅ : FmOk kx.c (F4 F S z TO i1 pS (ZP .ellipsis (.bool false) TI TO) PairP (ItP (.lst l) (k + 1))) := F4.okT hF₃
 have hI₅ : Inv kx.c (F4 F S z TO i1 pS (ZP .ellipsis (.bool false) TI TO) PairP (ItP (.lst l) (k + 1))) G₄ st'.ρ st'.σ { s₄ with heap := h₅ } := F4.setT hF₃ apU hI₄ hs₅.extBut ⟨_, hTO₅, _, _, rfl⟩
 refine wpAny_bind (wpAny_seqItems hTO₅ rfl ?_)
 refine wpAny_bind (wpAny_newTuple ?_)
 obtain ⟨hle, hI₆⟩ := hI₅.addFz (a := h₅.objs.size) (k := .tup [u, w]) (h' := h₅.push { cls := .type "tuple", data := .seq #[u, w] }) (tk := s₄.toks) (get_size _) (keep_push _ _) ⟨0, Heap.get?_push_size _ rfl⟩ (Nat.le_refl _)
 show wpAny _ _ (Builtin.SmallTypes.ownedTupleHandOut (.ref z) (.ref h₅.objs.size) >>= _) _ _ _
 refine wpAny_bind ?_
 unfold Builtin.SmallTypes.ownedTupleHandOut
 obtain ⟨_, hz₆, rfl⟩ := F4.getz hI₆
 refine wpAny_bind (wpAny_setField_rec hz₆ (by simp) fun h₇ hz₇ hs₇ => ?_)
 refine wpAny_setField_rec hz₇ (by simp) fun h₈ hz₈ hs₈ => ?_
 have hI₈ : Inv kx.c (F4 F S z TO i1 pS (ZM h₅.objs.size TI TO) PairP (ItP (.lst l) (k + 1))) (G₄.addFz h₅.objs.size (.tup [u, w])) st'.ρ st'.σ { s₄ with heap := h₈ } :=
  F4.setz (s := { s₄ with heap := h₅.push { cls := .type "tuple", data := .seq #[u, w] } }) hF₅ apart_ZP hI₆ (fun b o hb x => hs₈.extBut b o hb (hs₇.extBut b o hb x)) ⟨_, hz₈, _, rfl⟩
 refine wpAny_pure ⟨_, rfl, hq _ st' _ _ _ hqv (hg₄.trans hle) (F4.okz hF₅) hI₈ ?_⟩
 exact Exists.intro _ ⟨_, rfl, Gh.fz_addFz _ _ _, VRs.cons (hx.mono (hg₄.trans hle)) (VRs.cons (hv.mono hle) VRs.nil)⟩
theorem zfree {A : Around} {E : Value → Shared → Prop} {Q : Bool → Shared → Prop} {T TI : Addr} (hF : FmOk c (F4 F S z TO i1 pS (ZM T TI TO) pT pi)) (hI : Inv c (F4 F S z TO i1 pS (ZM T TI TO) pT pi) G ρ σ s) {kk : FK} (hTl : G.fz T = some kk)
  (hq : ∀ h', Inv c (F4 F S z TO i1 pS (ZM T TI TO) pT pi) G ρ σ { s with heap := h' } → Q false { s with heap := h' }) : wpAny c.M A (Builtin.SmallTypes.ownedTupleIsFree (.ref z)) Q E s := by
 obtain ⟨_, hz, f1, rfl⟩ := F4.getz hI
 obtain ⟨o, ho⟩ := (hI.fz hTl).live
 unfold Builtin.SmallTypes.ownedTupleIsFree
 refine wpAny_bind (wpAny_field hz rfl (x := rawInt T) rfl ?_)
 show wpAny _ _ (loadIfAlive ((T : Int).toNat) >>= _) _ _ _
 refine wpAny_bind (wpAny_loadIfAlive ?_)
 rw [show ((T : Int).toNat) = T from rfl, ho]
 simp only [Option.isNone_some, Bool.false_eq_true, if_false]
 refine wpAny_bind (wpAny_field hz rfl (x := f1) rfl ?_)
 by_cases hf : (f1 != .bool true) = true
 ·rw [if_pos hf]
  refine wpAny_bind (wpAny_setField_rec hz (by simp) fun h₁ hz₁ hs₁ => wpAny_pure (hq h₁ (F4.setz hF apart_ZM hI hs₁.extBut ⟨_, hz₁, .bool true, rfl⟩)))
 ·rw [if_neg hf]
  exact wpAny_bind (wpAny_pure (wpAny_pure (hq s.heap hI)))
theorem zturn (hO : OwnIt kx.c C fI fN) {A : Around} {E : Value → Shared → Prop} {Q : Value → Shared → Prop} (okf : ∀ o, FmOk kx.c (F.wo o) → (kx.at (F.wo o)).Ok A) {l b TI T : Addr} {us : List Value} {k j : Nat} {u : Value}
  (hF : FmOk kx.c (F4 F S z TO i1 pS (ZM T TI TO) PairP (ItP (.lst l) k))) (hI : Inv kx.c (F4 F S z TO i1 pS (ZM T TI TO) PairP (ItP (.lst l) k)) G st.ρ st.σ s) {kk : FK} (hTl : G.fz T = some kk)
  (hl : G.fz l = some (.lst us)) (hu : us[k]? = some u) (hTI : G.fz TI = some (.whole (TIo i1 b))) (ha : G.own b = some (.st j)) {x : V} {Qv : V → St → Prop} (hx : VR G x u) (e : ∀ F', NXO (kx.at F') C fN j st Qv fun _ => False)
  (hq : ∀ v st' G' T' s', Qv v st' → G.le G' → FmOk kx.c (F4 F S z TO i1 pS (ZM T TI TO) PairP (ItP (.lst l) (k + 1))) → Inv kx.c (F4 F S z TO i1 pS (ZM T TI TO) PairP (ItP (.lst l) (k + 1))) G' st'.ρ st'.σ s' → VR G' (.tup [x, v]) (.ref T') → Q (.ref T') s') :
  wpAny kx.c.M A (Builtin.«zip.__next__» ⟨[.ref z], []⟩) (fun fin s' => ∃ v, fin = .done (.ret v) ∧ Q v s') E s := by
 obtain ⟨_, hz, f1, rfl⟩ := F4.getz hI
 have hT : s.heap.get? TI = some (TIo i1 b) := hI.fz hTI
 show wpAny _ _ (field (.ref z) 2 >>= _) _ _ _
 refine wpAny_bind (wpAny_field hz rfl (x := .bool false) rfl ?_)
 show wpAny _ _ (field (.ref z) 3 >>= _) _ _ _
 refine wpAny_bind (wpAny_field hz rfl (x := .ref TI) rfl ?_)
 refine wpAny_bind (wpAny_seqItems hT rfl ?_)
 show wpAny _ _ (Builtin.SmallTypes.ownedTupleIsFree (.ref z) >>= _) _ _ _
 refine wpAny_bind (zfree hF hI hTl fun h₁ hI₁ => ?_)
 simp only [Bool.false_eq_true, if_false]
 refine wpAny_bind ?_
 simp only [← Array.forIn_toList, List.forIn_cons, List.forIn_nil]
 refine wpAny_bind (wpAny_bind (wpAny_holding ?_))
 show wpAny _ _ (Builtin.SmallTypes.nextOf (.ref i1) >>= _) _ _ _
 refine wpAny_bind (wpAny_nextOf_list_item (itP_lst (F4.geti hI₁)) (hI₁.lst hl) (by simpa using hu) fun h₂ h1₂ hs₂ => wpAny_pure (wpAny_pure ?_))
 have hF₂ : FmOk kx.c (F4 F S z TO i1 pS (ZM T TI TO) PairP (ItP (.lst l) (k + 1))) := F4.oki hF
 have hI₂ : Inv kx.c (F4 F S z TO i1 pS (ZM T TI TO) PairP (ItP (.lst l) (k + 1))) G st.ρ st.σ { s with heap := h₂ } := F4.seti (s := { s with heap := h₁ }) hF apart_itP hI₁ hs₂.extBut (lst_itP h1₂)
 refine wpAny_bind (wpAny_bind (wpAny_holding ?_))
 show wpAny _ _ (Builtin.SmallTypes.nextOf (.ref b) >>= _) _ _ _
 refine wpAny_bind (nextOf_own (K := kx.at (F4 F S z TO i1 _ _ _ _)) (okf _ hF₂) hO hI₂ ha (e _) fun v st' G₄ w s₄ hqv hg₄ hI₄ hv => wpAny_pure (wpAny_pure (wpAny_pure ?_)))
 refine wpAny_bind (wpAny_newTuple ?_ (lim_fits (k := 2) (by decide)))
 obtain ⟨hle, hI₆⟩ := hI₄.addFz (a := s₄.heap.objs.size) (k := .tup [u, w]) (h' := s₄.heap.push { cls := .type "tuple", data := .seq #[u, w] }) (tk := s₄.toks) (get_size _) (keep_push _ _) ⟨0, Heap.get?_push_size _ rfl⟩ (Nat.le_refl _)
 refine wpAny_pure ⟨_, rfl, hq _ st' _ _ _ hqv (hg₄.trans hle) hF₂ hI₆ ?_⟩
 exact Exists.intro _ ⟨_, rfl, Gh.fz_addFz _ _ _, VRs.cons (hx.mono (hg₄.trans hle)) (VRs.cons (hv.mono hle) VRs.nil)⟩
theorem zend {A : Around} {E : Value → Shared → Prop} {Q : PySem.Fin → Shared → Prop} (hh : A.handled = none) {l b TI T : Addr} {us : List Value} {k : Nat}
  (hF : FmOk c (F4 F S z TO i1 pS (ZM T TI TO) PairP (ItP (.lst l) k))) (hI : Inv c (F4 F S z TO i1 pS (ZM T TI TO) PairP (ItP (.lst l) k)) G ρ σ s) {kk : FK} (hTl : G.fz T = some kk)
  (hl : G.fz l = some (.lst us)) (hu : us[k]? = none) (hTI : G.fz TI = some (.whole (TIo i1 b))) (hS : Apart pS)
  (hE : ∀ e h', Inv c (F.wo ((S, pS) :: F.out)) G ρ σ { s with heap := h' } → (∃ o, h'.get? e = some o ∧ o.cls = .type "StopIteration") → E (.ref e) { s with heap := h' }) :
  wpAny c.M A (Builtin.«zip.__next__» ⟨[.ref z], []⟩) Q E s := by
 obtain ⟨_, hz, f1, rfl⟩ := F4.getz hI
 have hT : s.heap.get? TI = some (TIo i1 b) := hI.fz hTI
 show wpAny _ _ (field (.ref z) 2 >>= _) _ _ _
 refine wpAny_bind (wpAny_field hz rfl (x := .bool false) rfl ?_)
 show wpAny _ _ (field (.ref z) 3 >>= _) _ _ _
 refine wpAny_bind (wpAny_field hz rfl (x := .ref TI) rfl ?_)
 refine wpAny_bind (wpAny_seqItems hT rfl ?_)
 show wpAny _ _ (Builtin.SmallTypes.ownedTupleIsFree (.ref z) >>= _) _ _ _
 refine wpAny_bind (zfree hF hI hTl fun h₁ hI₁ => ?_)
 simp only [Bool.false_eq_true, if_false]
 refine wpAny_bind ?_
 simp only [← Array.forIn_toList, List.forIn_cons, List.forIn_nil]
 refine wpAny_bind (wpAny_bind (wpAny_holding ?_))
 show wpAny _ _ (Builtin.SmallTypes.nextOf (.ref i1) >>= _) _ _ _
 refine wpAny_bind (wpAny_nextOf_list_end hh (itP_lst (F4.geti hI₁)) (hI₁.lst hl) (by simpa using hu) fun h₂ e hs₂ he => ?_)
 refine hE e h₂ ?_ he
 have h1 : Inv c (F.wo ((S, pS) :: (z, ZM T TI TO) :: (TO, PairP) :: F.out)) G ρ σ { s with heap := h₂ } := Inv.dropMid (F := F) (p := [_, _, _]) (s := { s with heap := h₁ }) hF apart_itP hI₁ hs₂ (Nat.le_refl _)
 exact Inv.offMid (F := F) (p := [_]) apart_PairP (Inv.offMid (F := F) (p := [_]) apart_ZM h1)
end
end
end Mine
end
section
namespace Mine
open PySem PySem.W PyProof.Rows PySem.SeqAt
theorem zip_no_len : typeLookup (.type "zip") "__len__" = pure none := by rw [typeLookup_type, builtinLookup_eq_fast]; kernel_rfl
theorem zip_no_hint : typeLookup (.type "zip") "__length_hint__" = pure none := by rw [typeLookup_type, builtinLookup_eq_fast]; kernel_rfl
theorem FmOk.out0 {c : Cx} {F : Fm} {o : List XE} (hF : FmOk c (F.wo o)) : FmOk c (F.wo []) :=
 { hF with
  cel := fun x hx => by obtain ⟨h1, b, h2, h3, h4⟩ := hF.cel x hx; exact ⟨h1, b, h2, (by intro q; cases q), h4⟩
  lo := by intro q; cases q
  outNd := List.nodup_nil }
section
variable {c : Cx} {F : Fm} {G : Gh} {ρ : Str → Option V} {σ : List O} {s : Shared} {K kx : Kx} {st : St} {C fI fN : Addr} {S z TO i1 : Addr}
theorem code_extend {A : Around} {R : Result → Shared → Prop} {S z : Addr} {res : Value} (h : wpAny c.M A.in1 (pyNext (.ref z)) (fun r s' => match r with
   | none => R (.ok (.ret res)) s'
   | some v => wpAny c.M A.in1 (updateSeq S (·.push v)) (fun _ s'' => codeAny c.M A (.builtin "list.extend.loop" ⟨[.ref S, .ref z, res], []⟩) R s'') (fun e s' => R (.error e) s') s') (fun e s' => R (.error e) s') s) :
  codeAny c.M A (.builtin "list.extend.loop" ⟨[.ref S, .ref z, res], []⟩) R s := by
 refine codeAny_builtin PySem.F.entry_extend_loop ?_
 rw [Around.under_plainId PySem.F.plain_extend_loop _]
 show wpAny _ A.in1 (pyNext (.ref z) >>= _) _ _ s
 refine wpAny_bind (wpAny_mono h (fun r s' h' => ?_) fun _ _ x => x)
 cases r with
 | none => exact wpAny_pure h'
 | some v =>
  show wpAny _ A.in1 (updateSeq S (·.push v) >>= _) _ _ _
  exact wpAny_bind (wpAny_mono h' (fun _ s'' h'' => wpAny_pure ⟨plainId_quiet PySem.F.plain_extend_loop _, h''⟩) fun _ _ x => x)
noncomputable def ZRun (kx : Kx) (C fN : Addr) (j : Nat) : List V → St → (List V → St → Prop) → Prop
 | [], st, Q => Q [] st
 | x :: xs, st, Q => ∀ F, NXO (kx.at F) C fN j st (fun v st => ZRun kx C fN j xs st fun ps st => Q (.tup [x, v] :: ps) st) fun _ => False
theorem CX.imp {K : Kx} {f : Value} {vs : List V} {kv : List (Str × V)} {Q Q' : V → St → Prop} {E : X → St → Prop} (h : CX K f vs kv st Q E) (hq : ∀ v st, Q v st → Q' v st) : CX K f vs kv st Q' E :=
 fun ws kvs A G s QQ EE ok hv hk hI H => h ws kvs A G s QQ EE ok hv hk hI ⟨fun a st G' b s q => H.ok a st G' b s (hq a st q), H.ex⟩
theorem ZRun.mono {kx : Kx} {C fN : Addr} {j : Nat} : ∀ {xs : List V} {st : St} {Q Q' : List V → St → Prop}, (∀ ps st, Q ps st → Q' ps st) → ZRun kx C fN j xs st Q → ZRun kx C fN j xs st Q'
 | [], st, Q, Q', h, x => h [] st x
 | y :: r, st, Q, Q', h, x => fun F => ⟨(x F).is, (x F).run.imp fun v st q => q.mono fun ps st => h _ st⟩
theorem zloop (hO : OwnIt kx.c C fI fN) (hcalm : kx.calm = true) {A : Around} {R : Result → Shared → Prop} {l b TI : Addr} {us : List Value} {j : Nat} (okf : ∀ o, FmOk kx.c (F.wo o) → (kx.at (F.wo o)).Ok A.in1.in1) :
  ∀ (xs : List V) {k : Nat} {G : Gh} {st : St} {s : Shared} {ys : List V} {vs : List Value} {T : Addr} {kk : FK}, FmOk kx.c (F4 F S z TO i1 (AccP vs) (ZM T TI TO) PairP (ItP (.lst l) k)) →
   Inv kx.c (F4 F S z TO i1 (AccP vs) (ZM T TI TO) PairP (ItP (.lst l) k)) G st.ρ st.σ s → G.fz T = some kk → G.fz l = some (.lst us) → G.fz TI = some (.whole (TIo i1 b)) → G.own b = some (.st j) → VRs G ys vs → VRs G xs (us.drop k) → ys.length + xs.length ≤ lim →
   ZRun kx C fN j xs st (fun ps st' => ∀ G' ws s', G.le G' → Inv kx.c F G' st'.ρ st'.σ s' → (∃ ob, s'.heap.get? S = some ob ∧ AccP ws ob) → VRs G' (ys ++ ps) ws → R (.ok (.ret (.ref S))) s') → codeAny kx.c.M A (.builtin "list.extend.loop" ⟨[.ref S, .ref z, .ref S], []⟩) R s
 | [], k, G, st, s, ys, vs, T, kk, hF, hI, hTl, hl, hTI, ha, hv, hx, hlim, hp => by
  have hu : us[k]? = none := by
   have := hx.length
   simp at this
   rw [List.getElem?_eq_none_iff]; exact sub_end this.symm
  obtain ⟨_, hz, f1, rfl⟩ := F4.getz hI
  have hT : s.TypeIs (.ref z) "zip" := ⟨_, hz, rfl⟩
  have hF0 : FmOk kx.c (F.wo []) := (((hF.tail).tail).tail).tail.out0
  refine code_extend ?_
  unfold pyNext
  refine wpAny_bind (wpAny_attempt (wpAny_callSpecial?_slot (name := Str.ofString "__next__") hT PySem.F.slot_zip_next
   (wpAny_call_entry PySem.F.slot_zip_next hT PySem.F.entry_zip_next (zend ((okf _ hF0).hA.handled hcalm) hF hI hTl hl hu hTI apart_accP fun e h' hI' he => ?_) (PySem.F.args_zip_next_1 _))))
  obtain ⟨o, ho, hcl⟩ := he
  refine wpAny_bind (wpAny_isInstance (T := "StopIteration") (b := true) ⟨o, ho, hcl⟩ isSubtype_stop ?_)
  refine wpAny_pure ?_
  exact hp G vs _ (Gh.le.refl _) (Inv.offMid (F := F) (p := []) apart_accP hI') (Inv.atMid (F := F) (p := []) hI') (by rw [List.append_nil]; exact hv)
 | x :: xs, k, G, st, s, ys, vs, T, kk, hF, hI, hTl, hl, hTI, ha, hv, hx, hlim, hp => by
  obtain ⟨u, r', hur, hxu, hr'⟩ := hx.cons_inv
  have hu : us[k]? = some u := by
   have : (us.drop k)[0]? = some u := by rw [hur]; rfl
   simpa using this
  have hd : us.drop (k + 1) = r' := by
   have : (us.drop k).drop 1 = r' := by rw [hur]; rfl
   simpa [Nat.add_comm] using this
  obtain ⟨_, hz, f1, rfl⟩ := F4.getz hI
  have hT : s.TypeIs (.ref z) "zip" := ⟨_, hz, rfl⟩
  refine code_extend ?_
  unfold pyNext
  refine wpAny_bind (wpAny_attempt (wpAny_callSpecial?_slot (name := Str.ofString "__next__") hT PySem.F.slot_zip_next
   (wpAny_call_entry PySem.F.slot_zip_next hT PySem.F.entry_zip_next (zturn hO okf hF hI hTl hl hu hTI ha hxu hp fun v st₁ G₁ T' s₁ q hg₁ hF₁ hI₁ hv₁ => wpAny_pure ?_) (PySem.F.args_zip_next_1 _))))
  have hlen := hv.length
  simp only [List.length_cons] at hlim
  have hv1 : vs.length + 1 ≤ lim := hlen ▸ Nat.le_trans (Nat.add_le_add_left (Nat.succ_le_succ (Nat.zero_le _)) _) hlim
  refine wpAny_acc (F := F.wo ((z, ZM T TI TO) :: (TO, PairP) :: (i1, ItP (.lst l) (k + 1)) :: F.out)) (ws := vs ++ [.ref T']) hF₁ hI₁ (by simp) (lim_fits (Nat.le_of_succ_le hv1)) (by rw [List.length_append]; exact Nat.le_succ_of_le (lim_fits hv1)) fun h' hI₂ => ?_
  exact zloop hO hcalm okf xs (ys := ys ++ [.tup [x, v]]) (F4.okS hF₁) hI₂ (hg₁.fz _ _ hTl) (hg₁.fz _ _ hl) (hg₁.fz _ _ hTI) (hg₁.own _ _ ha) ((hv.mono hg₁).snoc hv₁) (by rw [hd]; exact hr'.mono hg₁) (by rw [List.length_append]; exact Nat.le_trans (Nat.le_of_eq (Nat.succ_add_eq_add_succ _ _)) hlim)
   (q.mono fun ps st₂ q G' ws s' hg' hI' hS hz => q G' ws s' (hg₁.trans hg') hI' hS (by simpa using hz))
theorem zloop0 (hO : OwnIt kx.c C fI fN) (hcalm : kx.calm = true) {A : Around} {R : Result → Shared → Prop} {l b TI : Addr} {us : List Value} {j : Nat} (okf : ∀ o, FmOk kx.c (F.wo o) → (kx.at (F.wo o)).Ok A.in1.in1) {xs : List V} (hne : 2 ≤ xs.length) (hlim : xs.length ≤ lim)
  (hF : FmOk kx.c (F4 F S z TO i1 (AccP []) (ZP .none (.bool false) TI TO) PairP (ItP (.lst l) 0)))
  (hI : Inv kx.c (F4 F S z TO i1 (AccP []) (ZP .none (.bool false) TI TO) PairP (ItP (.lst l) 0)) G st.ρ st.σ s) (hl : G.fz l = some (.lst us)) (hTI : G.fz TI = some (.whole (TIo i1 b))) (ha : G.own b = some (.st j)) (hx : VRs G xs us)
  (hp : ZRun kx C fN j xs st fun ps st' => ∀ G' ws s', G.le G' → Inv kx.c F G' st'.ρ st'.σ s' → (∃ ob, s'.heap.get? S = some ob ∧ AccP ws ob) → VRs G' ps ws → R (.ok (.ret (.ref S))) s') : codeAny kx.c.M A (.builtin "list.extend.loop" ⟨[.ref S, .ref z, .ref S], []⟩) R s := by
 cases xs with
 | nil => simp at hne
 | cons x xs =>
  obtain ⟨u, r', rfl, hxu, hr'⟩ := hx.cons_inv
  obtain ⟨_, hz, rfl⟩ := F4.getz hI
  have hT : s.TypeIs (.ref z) "zip" := ⟨_, hz, rfl⟩
  refine code_extend ?_
  unfold pyNext
  refine wpAny_bind (wpAny_attempt (wpAny_callSpecial?_slot (name := Str.ofString "__next__") hT PySem.F.slot_zip_next
   (wpAny_call_entry PySem.F.slot_zip_next hT PySem.F.entry_zip_next (zturn0 hO okf hF hI hl (by rfl) hTI ha hxu hp fun v st₁ G₁ T' s₁ q hg₁ hF₁ hI₁ hv₁ => wpAny_pure ?_) (PySem.F.args_zip_next_1 _))))
  simp only [List.length_cons] at hlim
  refine wpAny_acc (F := F.wo ((z, ZM T' TI TO) :: (TO, PairP) :: (i1, ItP (.lst l) 1) :: F.out)) (ws := [.ref T']) hF₁ hI₁ (by simp) (by simp) (by simp) fun h' hI₂ => ?_
  obtain ⟨a', vs', q', hk, _⟩ := tup_inv hv₁
  cases q'
  exact zloop hO hcalm okf xs (ys := [.tup [x, v]]) (F4.okS hF₁) hI₂ hk (hg₁.fz _ _ hl) (hg₁.fz _ _ hTI) (hg₁.own _ _ ha) (VRs.cons hv₁ VRs.nil) (by simpa using hr'.mono hg₁) (Nat.le_trans (Nat.le_of_eq (Nat.add_comm 1 _)) hlim)
   (q.mono fun ps st₂ q G' ws s' hg' hI' hS hz => q G' ws s' (hg₁.trans hg') hI' hS (by simpa using hz))
theorem VRs.reverse : ∀ {xs : List V} {vs : List Value}, VRs G xs vs → VRs G xs.reverse vs.reverse
 | [], _, h => by rw [h.nil_inv]; exact VRs.nil
 | x :: xs, _, h => by
  obtain ⟨v, us, rfl, k, r⟩ := h.cons_inv
  rw [List.reverse_cons, List.reverse_cons]
  exact r.reverse.snoc k
theorem VRs.picks {xs : List V} {vs : List Value} (h : VRs G xs vs) : ∀ (p : List Nat), VRs G (p.map fun i => xs.getD i .none) (p.map fun i => vs.getD i Value.none)
 | [] => VRs.nil
 | i :: p => by
  refine VRs.cons ?_ (VRs.picks h p)
  dsimp only
  rw [List.getD_eq_getElem?_getD, List.getD_eq_getElem?_getD]
  cases e : xs[i]? with
  | none => rw [h.get_none e]; exact VR_none
  | some x =>
   obtain ⟨v, h1, h2⟩ := h.get e
   rw [h1]; exact h2
theorem zip_self_rev (vs : List Value) : (vs.toArray.zip vs.toArray).reverse = vs.reverse.toArray.zip vs.reverse.toArray := by
 apply Array.toList_inj.mp
 simp only [Array.toList_reverse, Array.toList_zip]
 have : ∀ l : List Value, l.zip l = l.map fun x => (x, x) := fun l => by induction l with | nil => rfl | cons x l ih => simp [ih]
 rw [this, this, List.map_reverse]
theorem tups_of (hI : Inv c F G ρ σ s) {kd : Nat} : ∀ {ps : List V} {vs : List Value}, (∀ p ∈ ps, ∃ a i, p = .tup [a, .int i] ∧ kindK a = kd) → VRs G ps vs → ∃ fs, KatTups s.heap vs fs ∧ fs.length = ps.length ∧ ∀ f ∈ fs, ∃ x, kindK x = kd ∧ VR G x f
 | [], vs, _, h => by rw [h.nil_inv]; exact ⟨[], KatTups.nil, rfl, fun f hf => by cases hf⟩
 | p :: ps, vs, hp, h => by
  obtain ⟨v, us, rfl, k, r⟩ := h.cons_inv
  obtain ⟨a, i, rfl, hk⟩ := hp p List.mem_cons_self
  obtain ⟨fs, h1, h2, h3⟩ := tups_of hI (fun x hx => hp x (List.mem_cons_of_mem _ hx)) r
  obtain ⟨l, w1, t, n, rfl, e, k1⟩ := pair_inv hI k
  refine ⟨w1 :: fs, KatTups.cons e rfl rfl (by rfl) h1, by simp [h2], fun f hf => ?_⟩
  rcases List.mem_cons.mp hf with rfl | hf
  ·exact ⟨a, hk, k1⟩
  ·exact h3 f hf
theorem looks_kind {M : Model} (hI : Inv c F G ρ σ s) {kd : Nat} (hk : kd = 1 ∨ kd = 2 ∨ kd = 3) : ∃ T, (T == T) = true ∧ (T != Value.type "tuple") = true ∧ ∀ x f, kindK x = kd → VR G x f → Looks M s.heap (typeOf f) T := by
 rcases hk with rfl | rfl | rfl
 ·refine ⟨.type "int", rfl, rfl, fun x f h hx => ?_⟩
  obtain ⟨i, hi⟩ : ∃ i, x.num = some i := by cases x <;> first | exact ⟨_, rfl⟩ | cases h
  obtain ⟨t, rfl⟩ := num_inv hx hi
  exact Looks.of_pure rfl
 ·refine ⟨.type "float", rfl, rfl, fun x f h hx => ?_⟩
  obtain ⟨m, rfl⟩ : ∃ m, x = .flt m := by cases x <;> first | exact ⟨_, rfl⟩ | cases h
  obtain ⟨t, rfl, _⟩ := flt_inv hx
  exact Looks.of_pure rfl
 ·refine ⟨.type "list", rfl, rfl, fun x f h hx => ?_⟩
  obtain ⟨m, rfl⟩ : ∃ m, x = .lst m := by cases x <;> first | exact ⟨_, rfl⟩ | cases h
  obtain ⟨a, vs, rfl, z, _⟩ := lst_inv hx
  obtain ⟨o, ho, hc, _⟩ := hI.lst z
  rw [← hc]
  exact (Looks.ld ho).andThen .now
noncomputable def zres (rev : Bool) (qs : List V) (p : List Nat) : List V := if rev then (p.map fun i => qs.getD i .none).reverse else p.map fun i => qs.getD i .none
inductive ZSorts (rev : Bool) (ps : List V) : List V → Prop
 | mk (h2 : 2 ≤ ps.length) (h64 : ps.length < 64) (kd : Nat) (hkd : kd = 1 ∨ kd = 2 ∨ kd = 3) (hk : ∀ p ∈ ps, ∃ a i, p = .tup [a, .int i] ∧ kindK a = kd) (qs : List V) (hqs : qs = if rev then ps.reverse else ps) (ask : Nat → Nat → Option Bool) (p : Array Nat)
   (hask : ∀ i j k, ask i j = some k → ∃ x y, qs[i]? = some x ∧ qs[j]? = some y ∧ LtP x y k) (hr : runT ask (kas_sort ps.length) = some p) : ZSorts rev ps (zres rev qs p.toList)
theorem fits64 {n : Nat} (h : n < 64) : n ≤ sizeLine := lim_fits (Nat.le_of_lt (Nat.lt_trans h (by decide)))
theorem zip_sort (hc : CxOk c) {h₀ : Heap} {A : Around} {P : PySem.Fin → Shared → Prop} {E : Value → Shared → Prop} {D : Addr} {vs : List Value} {ps ys : List V} {rev : Bool} {k0 : Nat} (hI : Inv c F G ρ σ { s with heap := h₀ }) (hk : ∀ b o, h₀.get? b = some o → s.heap.get? b = some o)
  (hD : h₀.get? D = none) (ho : s.heap.get? D = some (seqObj "list" vs.toArray k0)) (hv : VRs G ps vs) (hz : ZSorts rev ps ys) (hu : A.units + 21 < cLine)
  (h : ∀ h' ws e, (∀ b o, h₀.get? b = some o → h'.get? b = some o) → h'.get? D = some (seqObj "list" ws.toArray e) → VRs G ys ws → P (.done (.ret .none)) { s with heap := h' }) :
  wpAny c.M A (Builtin.«list.sort» ⟨[.ref D], [(Str.ofString "reverse", .bool rev)]⟩) P E s := by
 cases hz with | mk h2 h64 kd hkd hpk qs hqs ask p hasks hr => ?_
 have hlen := hv.length
 rw [hlen] at h2 h64
 have hDne : ∀ b o, h₀.get? b = some o → b ≠ D := fun b o e q => by rw [q, hD] at e; cases e
 rw [list_sort_rev]
 have ha : D < s.heap.objs.size := Heap.lt_size ho
 refine wpAny_bind (listItems_at ho rfl ?_)
 refine wpAny_bind (listUpdate_at ho rfl ?_ (by rw [List.size_toArray]; exact fits64 h64) (Nat.zero_le _))
 obtain ⟨e1, ho1⟩ : ∃ e1, (s.heap.update D (Obj.mapSeq fun _ => #[])).get? D = some (seqObj "list" #[] e1) := ⟨_, get?_update_seq ho (fun _ => #[])⟩
 refine wpAny_bind (seqEpoch_at ho1 rfl ?_)
 refine wpAny_bind (wpAny_newTuple ?_ (fits64 h64))
 refine wpAny_bind (wpAny_newList ?_ (Nat.zero_le _))
 refine wpAny_holding ?_
 have ho6 : (((s.heap.update D (Obj.mapSeq fun _ => #[])).push (seqObj "tuple" vs.toArray 0)).push (seqObj "list" #[] 0)).get? D = some (seqObj "list" #[] e1) := by
  rw [Heap.get?_push_ne _ _ _ (by rw [size_push', Heap.size_update]; exact Nat.ne_of_lt (Nat.lt_succ_of_lt ha)), Heap.get?_push_ne _ _ _ (by rw [Heap.size_update]; exact Nat.ne_of_lt ha)]
  exact ho1
 show wpAny c.M A _ P E { s with heap := ((s.heap.update D (Obj.mapSeq fun _ => #[])).push (seqObj "tuple" vs.toArray 0)).push (seqObj "list" #[] 0) }
 have hk6 : ∀ b o, h₀.get? b = some o → (((s.heap.update D (Obj.mapSeq fun _ => #[])).push (seqObj "tuple" vs.toArray 0)).push (seqObj "list" #[] 0)).get? b = some o := fun b o e =>
  Heap.get?_push_of_some _ (Heap.get?_push_of_some _ (by rw [Heap.get?_update_other _ _ (Ne.symm (hDne b o e))]; exact hk b o e))
 generalize hH : (((s.heap.update D (Obj.mapSeq fun _ => #[])).push (seqObj "tuple" vs.toArray 0)).push (seqObj "list" #[] 0)) = H at ho6 hk6 ⊢
 have hI6 : Inv c F G ρ σ { s with heap := H } := hI.ext (h' := H) (tk := s.toks) hk6 (Nat.le_refl _)
 dsimp only
 have step : ∀ t : Sem PySem.Fin, wpAny c.M A t P E { s with heap := H } → wpAny c.M A (if rev = true then (do let _ ← rule "list.sort.reverse"; t) else t) P E { s with heap := H } := by
  intro t ht
  split
  ·exact wpAny_bind (wpAny_rule ht)
  ·exact ht
 refine step _ ?_
 have hn2 : ¬ vs.toArray.size < 2 := by rw [List.size_toArray]; exact Nat.not_lt.mpr h2
 rw [if_neg hn2, if_neg hn2]
 obtain ⟨fs, hts, hfl, hfs⟩ := tups_of hI6 hpk hv
 obtain ⟨T, hTT, hTt, hTl⟩ := looks_kind (M := c.M) hI6 hkd
 refine wpAny_bind (kat_kind hts (by rw [hfl, hlen]; exact Nat.lt_of_lt_of_le Nat.zero_lt_two h2) (fun f hf => by obtain ⟨x, e, hx⟩ := hfs f hf; exact hTl x f e hx) hTT ?_)
 rw [hTt]
 have hws : VRs G (if rev = true then ps.reverse else ps) (if rev = true then vs.reverse else vs) := by
  cases rev
  ·exact hv
  ·exact hv.reverse
 rw [← hqs] at hws
 have hstart : (if rev = true then (vs.toArray.zip vs.toArray).reverse else vs.toArray.zip vs.toArray) = (if rev = true then vs.reverse else vs).toArray.zip (if rev = true then vs.reverse else vs).toArray := by
  cases rev
  ·rfl
  ·exact zip_self_rev vs
 rw [hstart]
 have hwl : (if rev = true then vs.reverse else vs).length = vs.length := by cases rev <;> simp
 generalize hwsq : (if rev = true then vs.reverse else vs) = ws at hws hwl ⊢
 have hask : ∀ i j k, ask i j = some k → ∀ Q : Bool → Shared → Prop, Q k { s with heap := H } → kas_ask c.prog c.w A (tuples' true) ws i j Q { s with heap := H } := by
  intro i j k hk' Q hq
  obtain ⟨x, y, ex, ey, hlt⟩ := hasks i j k hk'
  obtain ⟨a, ha1, ha2⟩ := hws.get ex
  obtain ⟨b, hb1, hb2⟩ := hws.get ey
  unfold kas_ask
  rw [List.getD_eq_getElem?_getD, List.getD_eq_getElem?_getD, ha1, hb1]
  exact hlt.at hI6 (hI6.booked hc) hu ha2 hb2 hq
 rw [show ps.length = ws.length from hlen.trans hwl.symm] at hr
 have htree := run_tree (c := c) (A := A) (κ := tuples' true) hask (kas_sort ws.length) (Q := fun p' s' => p' = p ∧ s' = { s with heap := H }) hr ⟨rfl, rfl⟩
 refine wpAny_bind (wpAny_mono (kat_run (Q := fun st' s' => ∃ p' : Array Nat, p'.size = ws.length ∧ arrOf st' = p'.map (kas_item (ws.toArray.zip ws.toArray)) ∧ failedOf st' = none ∧ p' = p ∧ s' = { s with heap := H })
  rfl (hwl ▸ h2) (hwl ▸ h64) (fun p' st' s' a1 a2 a3 a4 => ⟨p', a1, a2, a3, a4⟩) htree) ?_ fun _ _ e => e)
 rintro ⟨⟨⟩, st'⟩ s' ⟨p', hp, har, hf, rfl, rfl⟩
 dsimp only
 have hout := kat_snds rfl har
 rw [hout]
 have hpl := hws.picks p'.toList
 have hsz : (p'.toList.map fun i => ws.getD i Value.none).length = vs.length := by rw [List.length_map, Array.length_toList, hp, hwl]
 refine wpAny_bind (seqEpoch_at ho6 rfl ?_)
 have hfin : (if rev = true then (List.toArray (p'.toList.map fun i => ws.getD i Value.none)).reverse else List.toArray (p'.toList.map fun i => ws.getD i Value.none)) = (if rev = true then (p'.toList.map fun i => ws.getD i Value.none).reverse else p'.toList.map fun i => ws.getD i Value.none).toArray := by
  cases rev
  ·rfl
  ·simp
 refine wpAny_bind (listUpdate_at ho6 rfl ?_ (Nat.zero_le _) (by rw [hfin, List.size_toArray]; cases rev <;> simp only [Bool.false_eq_true, if_false, if_true, List.length_reverse, hsz] <;> exact Nat.le_succ_of_le (fits64 h64)))
 rw [hf]
 simp only [bne_self_eq_false, Bool.false_eq_true, if_false]
 obtain ⟨c2, hc2⟩ : ∃ c2, (H.update D (Obj.mapSeq fun _ => if rev = true then (List.toArray (p'.toList.map fun i => ws.getD i Value.none)).reverse else List.toArray (p'.toList.map fun i => ws.getD i Value.none))).get? D = some (seqObj "list" (if rev = true then (List.toArray (p'.toList.map fun i => ws.getD i Value.none)).reverse else List.toArray (p'.toList.map fun i => ws.getD i Value.none)) c2) := ⟨_, get?_update_seq ho6 fun _ => _⟩
 refine wpAny_pure (h _ (if rev = true then (p'.toList.map fun i => ws.getD i Value.none).reverse else p'.toList.map fun i => ws.getD i Value.none) c2 (fun b o e => ?_) ?_ ?_)
 ·rw [Heap.get?_update_other _ _ (Ne.symm (hDne b o e))]; exact hk6 b o e
 ·rw [hfin] at hc2 ⊢; exact hc2
 ·rw [hqs] at hws
  unfold zres
  cases rev
  ·exact hpl
  ·exact hpl.reverse
end
end Mine
end
section
namespace Mine
open PySem PySem.W PyProof.Rows PySem.SeqAt
noncomputable abbrev F3 (F : Fm) (z TI TO i1 l : Addr) : Fm := F.wo ((z, ZP .none (.bool false) TI TO) :: (TO, PairP) :: (i1, ItP (.lst l) 0) :: F.out)
section
variable {F : Fm} {G : Gh} {s : Shared} {K kx : Kx} {st : St} {C fI fN : Addr} {E : X → St → Prop}
theorem zip_new (hO : OwnIt kx.c C fI fN) (hcalm : kx.calm = true) (hF : FmOk kx.c F) (hI : Inv kx.c F G st.ρ st.σ s) {A : Around} {EE : Value → Shared → Prop} {Q : PySem.Fin → Shared → Prop} (okf : ∀ o, FmOk kx.c (F.wo o) → (kx.at (F.wo o)).Ok A) {xs : List V} {j : Nat} {l b : Addr} {us : List Value} {Qi : St → Prop}
  (hl : G.fz l = some (.lst us)) (hx : VRs G xs us) (ha : G.own b = some (.st j)) (hi : IsO st j C) (e : ∀ F', CX (kx.at F') (.ref fI) [.obj j] [] st (fun u st' => u = .obj j ∧ IsO st' j C ∧ Qi st') no)
  (hq : ∀ st' G' z TO TI i1 s', Qi st' → G.le G' → FmOk kx.c (F3 F z TI TO i1 l) → Inv kx.c (F3 F z TI TO i1 l) G' st'.ρ st'.σ s' → G'.fz TI = some (.whole (TIo i1 b)) → Q (.done (.ret (.ref z))) s') :
  wpAny kx.c.M A (Builtin.«zip.__new__» ⟨[.type "zip", .ref l, .ref b], []⟩) Q EE s := by
 have hsub := sub_zip
 have hL1 := hI.lst hl
 obtain ⟨hF₁, hI₁⟩ := hI.plus hF (P := ItP (.lst l) 0) (get_size s.heap) (keep_push s.heap { cls := .type "list_iterator", data := .fields #[.ref l, .int 0 0] }) ⟨_, Heap.get?_push_size _ rfl, itP_mk rfl rfl rfl⟩ (Nat.le_refl s.toks)
 have it2 : ∀ {Q' : Value → Shared → Prop}, (∀ st' G' s', Qi st' → G.le G' → Inv kx.c (F.plus (s.heap.objs.size, ItP (.lst l) 0)) G' st'.ρ st'.σ s' → Q' (.ref b) s') →
   wpAny kx.c.M A (pyIter (.ref b)) Q' EE { s with heap := s.heap.push { cls := .type "list_iterator", data := .fields #[.ref l, .int 0 0] } } :=
  fun {Q'} hq' => pyIter_own (K := kx.at (F.plus (s.heap.objs.size, ItP (.lst l) 0))) (okf _ hF₁) hO hI₁ ha hi (e _) (fun st' G' s' q _ hg hI' => hq' st' G' s' q hg hI') (fun _ _ _ _ _ q => q.elim)
 generalize hH : s.heap.push { cls := .type "list_iterator", data := .fields #[.ref l, .int 0 0] } = H at hI₁ it2
 have lit : ∀ {Q' : Value → Shared → Prop}, Q' (.ref s.heap.objs.size) { s with heap := H } → wpAny kx.c.M A (pyIter (.ref l)) Q' EE s := fun {Q'} hq' =>
  wpAny_pyIter_list hL1 (by rw [hH]; exact hq')
 generalize hi1 : s.heap.objs.size = i1 at hF₁ hI₁ it2 lit
 wp_walk using lit, it2
 intro st' G₁ s₁ hqi hg₁ hI₂
 wp_walk
 obtain ⟨hle, hI₃⟩ := hI₂.addFz (a := s₁.heap.objs.size) (k := .whole (TIo i1 b)) (h' := s₁.heap.push (TIo i1 b)) (tk := s₁.toks) (get_size _) (keep_push _ _) (Heap.get?_push_size _ rfl) (Nat.le_refl _)
 obtain ⟨hF₄, hI₄⟩ := hI₃.plus hF₁ (P := PairP) (get_size (s₁.heap.push (TIo i1 b))) (keep_push _ { cls := .type "tuple", data := .seq #[.none, .none] }) ⟨_, Heap.get?_push_size _ rfl, _, _, rfl⟩ (Nat.le_refl s₁.toks)
 obtain ⟨hF₅, hI₅⟩ := hI₄.plus hF₄ (P := ZP .none (.bool false) s₁.heap.objs.size (s₁.heap.push (TIo i1 b)).objs.size) (get_size ((s₁.heap.push (TIo i1 b)).push { cls := .type "tuple", data := .seq #[.none, .none] }))
  (keep_push _ { cls := .type "zip", data := .fields #[.none, .bool false, .bool false, .ref s₁.heap.objs.size, .ref (s₁.heap.push (TIo i1 b)).objs.size] }) ⟨_, Heap.get?_push_size _ rfl, rfl⟩ (Nat.le_refl s₁.toks)
 exact hq st' _ _ _ _ _ _ hqi (hg₁.trans hle) hF₅ hI₅ (Gh.fz_addFz _ _ _)
theorem call_zip (hO : OwnIt kx.c C fI fN) (hcalm : kx.calm = true) (hF : FmOk kx.c F) (hI : Inv kx.c F G st.ρ st.σ s) {A : Around} {EE : Value → Shared → Prop} {Q : Value → Shared → Prop} (okf : ∀ o, FmOk kx.c (F.wo o) → (kx.at (F.wo o)).Ok A.in1.in1) {xs : List V} {j : Nat} {l b : Addr} {us : List Value} {Qi : St → Prop}
  (hl : G.fz l = some (.lst us)) (hx : VRs G xs us) (ha : G.own b = some (.st j)) (hi : IsO st j C) (e : ∀ F', CX (kx.at F') (.ref fI) [.obj j] [] st (fun u st' => u = .obj j ∧ IsO st' j C ∧ Qi st') no)
  (hq : ∀ st' G' z TO TI i1 s', Qi st' → G.le G' → FmOk kx.c (F3 F z TI TO i1 l) → Inv kx.c (F3 F z TI TO i1 l) G' st'.ρ st'.σ s' → G'.fz TI = some (.whole (TIo i1 b)) → Q (.ref z) s') :
  wpAny kx.c.M A (call (.type "zip") [.ref l, .ref b]) Q EE s := by
 refine callType_codes (Q₁ := fun obj s₁ => ∃ z, obj = .ref z ∧ s₁.TypeIs (.ref z) "zip" ∧ Q (.ref z) s₁) PySem.F.called_zip (PySem.F.typeCall_zip_2 _ _) PySem.F.entry_object_init ?_ ?_
 ·refine codeAny_call_builtin PySem.F.called_zip.plain PySem.F.entry_zip_new (wpAny_of_eq (PySem.F.newCall_zip_2 _ _) ?_)
  refine zip_new hO hcalm hF hI (A := A.in1.in1) okf hl hx ha hi e fun st' G' z TO TI i1 s' h0 h1 h2 h3 h4 => ?_
  obtain ⟨_, hz, rfl⟩ := Inv.atMid (F := F) (p := []) h3
  exact ⟨z, rfl, ⟨_, hz, rfl⟩, hq st' G' z TO TI i1 s' h0 h1 h2 h3 h4⟩
 ·rintro obj s₁ ⟨z, rfl, hT, hq'⟩
  refine ⟨hT, PySem.F.args_object_init_3 _ _ _, ?_⟩
  exact object_init_meets (rest := [.ref l, .ref b]) PySem.F.called_zip.init.lookup PySem.F.called_zip.made (by decide) kx.c.prog kx.c.w A.in1 _ s₁ ⟨hT, rfl, hq'⟩
theorem collect_zip (hO : OwnIt kx.c C fI fN) (hcalm : kx.calm = true) {z TI TO i1 l b : Addr} {us : List Value} {j : Nat} {A : Around} {EE : Value → Shared → Prop} {Q : List Value → Shared → Prop} (okf : ∀ o, FmOk kx.c (F.wo o) → (kx.at (F.wo o)).Ok A.in1.in1) {xs : List V} (hne : 2 ≤ xs.length) (hlim : xs.length ≤ lim)
  (hF : FmOk kx.c (F3 F z TI TO i1 l)) (hI : Inv kx.c (F3 F z TI TO i1 l) G st.ρ st.σ s) (hl : G.fz l = some (.lst us)) (hTI : G.fz TI = some (.whole (TIo i1 b))) (ha : G.own b = some (.st j)) (hx : VRs G xs us)
  (hp : ZRun kx C fN j xs st fun ps st' => ∀ G' ws s', G.le G' → Inv kx.c F G' st'.ρ st'.σ s' → VRs G' ps ws → Q ws s') : wpAny kx.c.M A (collect (.ref z)) Q EE s := by
 obtain ⟨_, hz, rfl⟩ := Inv.atMid (F := F) (p := []) hI
 obtain ⟨hF₁, hI₁⟩ := hI.plus hF (P := AccP []) (get_size s.heap) (keep_push s.heap { cls := .type "list", data := .seq #[] }) ⟨_, Heap.get?_push_size _ rfl, 0, rfl⟩ (Nat.le_refl s.toks)
 unfold collect
 refine wpAny_bind (wpAny_runValue (codeAny_builtin PySem.F.entry_proto_collect ?_))
 rw [Around.under_plainId PySem.F.plain_proto_collect _]
 show wpAny _ A.in1 (newList [] >>= fun l => again (.builtin "list.__iadd__" ⟨[l, .ref z], []⟩)) _ _ s
 refine wpAny_bind (wpAny_newList ?_ (Nat.zero_le _))
 have hSz : s.heap.objs.size ≠ z := fun q => by
  have := Heap.lt_size hz
  rw [q] at this
  exact Nat.lt_irrefl _ this
 refine wpAny_pure ⟨plainId_quiet PySem.F.plain_list_iadd _, codeAny_builtin PySem.F.entry_list_iadd ?_⟩
 rw [Around.under_plainId PySem.F.plain_list_iadd _]
 show wpAny _ A.in1 (Builtin.List.listExtendWith (.ref s.heap.objs.size) (.ref z) (.ref s.heap.objs.size)) _ _ { s with heap := s.heap.push { cls := .type "list", data := .seq #[] } }
 generalize hS : s.heap.objs.size = S at hF₁ hI₁ hSz ⊢
 generalize hH : s.heap.push { cls := .type "list", data := .seq #[] } = H at hI₁ ⊢
 obtain ⟨_, hz₁, rfl⟩ := Inv.atMid (F := F) (p := [_]) hI₁
 have hT : (⟨H, s.gens, s.drawn, s.toks, s.os⟩ : Shared).TypeIs (.ref z) "zip" := ⟨_, hz₁, rfl⟩
 unfold Builtin.List.listExtendWith
 refine wpAny_bind (wpAny_typeOf hT ?_)
 have h1 : Builtin.List.listSameRef (.ref S) (.ref z) = false := by simp [Builtin.List.listSameRef, hSz]
 have h2 : (Value.type "zip" == Value.type "list") = false := by decide
 have h3 : (Value.type "zip" == Value.type "tuple") = false := by decide
 simp only [h1, h2, h3, Bool.or_false, Bool.false_eq_true, if_false]
 refine wpAny_bind (wpAny_pyIter_zip hz₁ ?_)
 refine wpAny_bind (wpAny_holding ?_)
 unfold Builtin.List.listLengthHint
 refine wpAny_bind (wpAny_specialOf hT zip_no_len ?_)
 show wpAny _ A.in1 (specialOf (Value.ref z) (Str.ofString "__length_hint__") >>= _) _ _ _
 refine wpAny_bind (wpAny_specialOf hT zip_no_hint ?_)
 refine wpAny_pure ?_
 show wpAny _ A.in1 (rule "list.extend.makes-room" >>= fun _ => Builtin.List.listTouch (.ref S) >>= fun _ =>
  again (.builtin "list.extend.loop" ⟨[.ref S, .ref z, .ref S], []⟩)) _ _ _
 refine wpAny_bind (wpAny_rule ?_)
 refine wpAny_bind ?_
 show wpAny _ A.in1 (updateSeq S (·.push .none) >>= fun _ => updateSeq S (·.pop)) _ _ _
 refine wpAny_bind (wpAny_acc (F := F3 F z TI TO i1 l) (ws := [.none]) hF₁ hI₁ rfl (by simp) (by simp) fun h'' hI₄ => ?_)
 refine wpAny_acc (F := F3 F z TI TO i1 l) (vs := [.none]) (ws := []) (FmOk.plus_same (F := F3 F z TI TO i1 l) (e := (S, AccP [])) hF₁) hI₄ rfl (by rw [sizeLine_eq]; simp) (by simp) fun h₃ hI₅ => ?_
 refine wpAny_pure ⟨plainId_quiet PySem.F.plain_extend_loop _, ?_⟩
 refine zloop0 hO hcalm okf hne hlim hF₁ hI₅ hl hTI ha hx (hp.mono fun ps st' hp => ?_)
 rintro G' ws s' hg' hI' ⟨ob, hob, k, rfl⟩ hv
 show wpAny _ A (load S >>= _) _ _ s'
 exact wpAny_bind (wpAny_load hob (wpAny_pure (by simpa using hp G' ws s' hg' hI' hv)))
theorem call_sorted_zip (hO : OwnIt kx.c C fI fN) (hcalm : kx.calm = true) {z TI TO i1 l b : Addr} {us : List Value} {j : Nat} {rev : Bool} {A : Around} {EE : Value → Shared → Prop} {Q : Value → Shared → Prop} (okf : ∀ o, FmOk kx.c (F.wo o) → (kx.at (F.wo o)).Ok A.in1.in1.in1) {xs : List V} (hne : 2 ≤ xs.length) (hlim : xs.length ≤ lim)
  (hF : FmOk kx.c (F.wo [])) (hF₃ : FmOk kx.c (F3 F z TI TO i1 l)) (hI : Inv kx.c (F3 F z TI TO i1 l) G st.ρ st.σ s) (hl : G.fz l = some (.lst us)) (hTI : G.fz TI = some (.whole (TIo i1 b))) (ha : G.own b = some (.st j)) (hx : VRs G xs us)
  (hp : ZRun kx C fN j xs st fun ps st' => ps.length = xs.length ∧ ∃ ys, ZSorts rev ps ys ∧ ∀ G' w s', G.le G' → Inv kx.c F G' st'.ρ st'.σ s' → VR G' (.lst ys) w → Q w s') : wpAny kx.c.M A (call (.builtin "sorted") [.ref z] [(Str.ofString "reverse", .bool rev)]) Q EE s := by
 refine call_function_entry_kw kind_sorted plain_sorted entry_sorted (args_sorted_rev _ _) ?_
 unfold Builtin.«sorted»
 refine wpAny_bind (m := checkCount "sorted" 1 1 _) (wpAny_pure ?_)
 refine wpAny_bind (collect_zip (A := A.in1) hO hcalm okf hne hlim hF₃ hI hl hTI ha hx (hp.mono fun ps st' hp G₁ vs s₁ hg₁ hI₁ hv => ?_))
 obtain ⟨hpl, ys, hz, hq⟩ := hp
 have hvl : vs.length = xs.length := by rw [← hv.length, hpl]
 refine wpAny_bind (wpAny_newList ?_ (by rw [hvl]; exact lim_fits hlim))
 have hD : (s₁.heap.push (seqObj "list" vs.toArray 0)).get? s₁.heap.objs.size = some (seqObj "list" vs.toArray 0) := Heap.get?_push_size _ rfl
 refine wpAny_bind (wpAny_holding (wpAny_call_entry_kw slot_list_sort ⟨_, hD, rfl⟩ entry_list_sort
  (zip_sort (s := { s₁ with heap := s₁.heap.push (seqObj "list" vs.toArray 0) }) (okf _ hF).hc hI₁ (keep_push _ _) (get_size _) hD hv hz (by have h9 : A.units + 1 + 1 + 1 + 64 * kx.n ≤ 4000 := (okf _ hF).hA.units; have h8 : 4000 + 30 < cLine := (by decide); show A.units + 1 + 1 + 21 < cLine; omega) fun h' ws e' hk' hD' hv' => ?_) (args_list_sort_rev _ _)))
 refine ⟨_, rfl, wpAny_pure ⟨_, rfl, ?_⟩⟩
 obtain ⟨hle, hI₂⟩ := hI₁.addFz (a := s₁.heap.objs.size) (k := .lst ws) (h' := h') (tk := s₁.toks) (get_size _) hk' ⟨e', hD'⟩ (Nat.le_refl _)
 exact hq _ _ _ (hg₁.trans hle) hI₂ (VR_lst (Gh.fz_addFz _ _ _) (hv'.mono hle))
end
end Mine
end
section
namespace Mine
open PySem PySem.W PyProof.Rows PySem.SeqAt
section
variable {K kx : Kx} {st : St} {C fN : Addr} {E : X → St → Prop} {j : Nat}
theorem ZRun.len : ∀ {xs : List V} {st : St} {Q : List V → St → Prop}, ZRun kx C fN j xs st Q → ZRun kx C fN j xs st fun ps st => ps.length = xs.length ∧ Q ps st
 | [], st, Q, h => ⟨rfl, h⟩
 | x :: xs, st, Q, h => fun F => ⟨(h F).is, (h F).run.imp fun v st q => q.len.mono fun ps st q => ⟨congrArg (· + 1) q.1, q.2⟩⟩
inductive ZipX (K : Kx) (r : Str) (st : St) (Q : V → St → Prop) : List V → Prop
 | mk {C fI fN : Addr} {xs : List V} {j : Nat} (hO : OwnIt K.c C fI fN) (hi : IsO st j C) (h2 : 2 ≤ xs.length) (hl : xs.length ≤ lim)
   (e : ∀ F', CX (K.less.at F') (.ref fI) [.obj j] [] st (fun u st' => u = .obj j ∧ IsO st' j C ∧ ∃ rev, st'.ρ r = some (.bool rev) ∧ ZRun K.less C fN j xs st' fun ps st₂ => ∃ ys, ZSorts rev ps ys ∧ Q (.lst ys) st₂) no) : ZipX K r st Q [.lst xs, .obj j]
theorem x_sortzip {Q : V → St → Prop} {f z r : Str} {fp zp rp kp zpos pos : Pos} {a b : PySem.Expr} (hc : K.calm = true) (hn : 0 < K.n) (hf : (isGI (K.sc.names.lookup f) && nDbg f) = true) (hz : (isGI (K.sc.names.lookup z) && nDbg z) = true) (hr : (isLCF (K.sc.names.lookup r) && nDbg r) = true)
  (gf : GlobAt K.c f (.builtin "sorted")) (gz : GlobAt K.c z (.type "zip")) (ha : ∀ env, starEach [a, b] env = [(false, eval a env), (false, eval b env)]) (h : AR K [a, b] st (fun vs st => ZipX K r st Q vs) E) :
  EX K (.Call (.Name f fp) [.Call (.Name z zp) [a, b] [] zpos] [⟨some (Str.ofString "reverse"), .Name r rp, kp⟩] pos) st Q E := by
 intro A G s QQ EE ok hp hI hE H
 show wpAny K.c.M A (do callWith pos (← eval (.Name f fp) K.F.env) [] (backTo pos (starEach [.Call (.Name z zp) [a, b] [] zpos] K.F.env)) (backToKw pos (keywordEach [⟨some (Str.ofString "reverse"), .Name r rp, kp⟩] K.F.env))) QQ EE s
 refine wpAny_bind (wpAny_glob ok.hF ok.hc hI (ok.hs ▸ hf) gf ?_)
 refine wpAny_callWith_any (evalArgs_spl (fun x q => by cases q) rfl (wpAny_items_cons ?_ rfl))
 show wpAny K.c.M A (do callWith zpos (← eval (.Name z zp) K.F.env) [] (backTo zpos (starEach [a, b] K.F.env)) (backToKw zpos (keywordEach [] K.F.env))) _ EE s
 refine wpAny_bind (wpAny_glob ok.hF ok.hc hI (ok.hs ▸ hz) gz ?_)
 refine wpAny_callWith_any (evalArgs_spl (fun x q => by rw [ha] at q; cases q) rfl (h zpos A G s _ EE ok trivial hI hE ⟨fun vs st₁ G₁ ws s₁ q hg₁ hI₁ hvs => ?_, H.ex⟩))
 refine wpAny_pure ⟨KeepsOk.ofNoRef (fun a q => by cases q), ?_⟩
 cases q with | @mk C fI fN xs j hO hi h2 hl e => ?_
 obtain ⟨va, ws', rfl, hva, hws⟩ := hvs.cons_inv
 obtain ⟨vb, ws'', rfl, hvb, hws⟩ := hws.cons_inv
 cases hws.nil_inv
 obtain ⟨l, us, rfl, hl', hxs⟩ := lst_inv hva
 obtain ⟨b', rfl, hb'⟩ := obj_inv hvb
 have okf : ∀ o A', A'.frames = A.frames → A'.guards = A.guards → A'.depth = A.depth → A'.units ≤ A.units + 3 → A'.handled = A.handled → FmOk K.c (K.F.wo o) → (K.less.at (K.F.wo o)).Ok A' := fun o A' e1 e2 e3 e4 e5 hF =>
  ⟨ok.hs, ok.hc, hF, ⟨e1.trans ok.hA.frames, e2.trans ok.hA.guards, by rw [e3]; exact bud hn (Nat.le_add_right _ _) ok.hA.depth, bud hn (Nat.le_trans e4 (ad rfl)) ok.hA.units, fun q => e5.trans (ok.hA.handled q)⟩⟩
 show wpAny K.c.M A (call (.type "zip") [.ref l, .ref b'] []) _ EE s₁
 refine call_zip (kx := K.less) hO hc ok.hF hI₁ (fun o hF => okf o _ rfl rfl rfl (ad (j := 2) rfl) rfl hF) hl' hxs hb' hi e fun st₂ G₂ zz TO TI i1 s₂ q hg₂ hF₂ hI₂ hTI => ?_
 refine wpAny_items_nil ?_
 obtain ⟨rev, hrev, q⟩ := q
 have okz : (K.at (F3 K.F zz TI TO i1 l)).Ok A := ⟨ok.hs, ok.hc, hF₂, ⟨ok.hA.frames, ok.hA.guards, ok.hA.depth, ok.hA.units, ok.hA.handled⟩⟩
 refine k_cons (K := K.at (F3 K.F zz TI TO i1 l)) (Q := fun kv st => kv = [(Str.ofString "reverse", .bool rev)] ∧ st = st₂) (E := no) (x_look (K := K.at (F3 K.F zz TI TO i1 l)) hr hrev (k_nil ⟨rfl, rfl⟩)) pos A G₂ s₂ _ EE okz trivial hI₂ hE ⟨fun kv st₃ G₃ kws s₃ q' hg₃ hI₃ hkv => ?_, fun _ _ _ _ _ q => q.elim⟩
 obtain ⟨rfl, rfl⟩ := q'
 refine ⟨KeepsOk.ofNoRef (fun a q => by cases q), ?_⟩
 obtain ⟨kv, kvs', rfl, hkv1, hkv2⟩ := hkv.1.cons_inv
 cases hkv2.nil_inv
 cases bool_inv hkv1
 show wpAny K.c.M A (call (.builtin "sorted") [.ref zz] [(Str.ofString "reverse", .bool rev)]) QQ EE s₃
 have hgg := hg₂.trans hg₃
 refine call_sorted_zip (kx := K.less) hO hc (fun o hF => okf o _ rfl rfl rfl (Nat.le_refl _) rfl hF) h2 hl (FmOk.out0 (o := K.F.out) ok.hF) hF₂ hI₃ (hgg.fz _ _ hl') (hg₃.fz _ _ hTI) (hgg.own _ _ hb') (hxs.mono hgg) (q.len.mono fun ps st' q => ⟨q.1, q.2.imp fun ys q' => ⟨q'.1, fun G' w s' hg' hI' hw => ?_⟩⟩)
 exact H.ok _ st' G' w s' q'.2 ((hg₁.trans hgg).trans hg') hI' hw
end
end Mine
end
section
namespace Mine
open PySem PySem.W PyProof.Rows PySem.SeqAt
inductive SameK : V → V → Bool → Prop
 | mrk (i j : Int) : SameK (.mrk i) (.mrk j) (decide (i = j))
 | flt {m k : Int} (h : small2 m = true) (h' : small2 k = true) : SameK (.flt m) (.flt k) (decide (m = k))
 | lst {xs ys : List V} {e : Bool} (h : EqR 8 (.lst xs) (.lst ys) e) : SameK (.lst xs) (.lst ys) e
section
variable {c : Cx} {F : Fm} {G : Gh} {ρ : Str → Option V} {σ : List O} {s : Shared} {K : Kx} {st : St} {E : X → St → Prop} {x y : V}
theorem wpAny_created {M : Model} {A : Around} {E : Value → Shared → Prop} {p : Bool} {t u : Tok} {Q : Bool → Shared → Prop} (hb : NoneBooked s.heap) (ht : 0 < t) (hu : 0 < u) (hq : ∀ b, (b = true → t = u ∨ p = true) → Q b s) : wpAny M A (isSame.created p t u) Q E s := by
 unfold isSame.created
 refine wpAny_ite ?_
 split
 ·rename_i h
  simp only [Bool.or_eq_true, beq_iff_eq] at h
  rcases h with rfl | rfl
  ·exact absurd ht (Nat.lt_irrefl _)
  ·exact absurd hu (Nat.lt_irrefl _)
 refine wpAny_ite ?_
 split
 ·rename_i h
  rw [beq_iff_eq] at h
  exact wpAny_pure (hq _ fun _ => .inl h)
 refine wpAny_ite ?_
 split
 ·exact wpAny_pure (hq _ fun e => by cases e)
 rename_i hne
 have hp : p = true := by simpa using hne
 refine wpAny_bind (wpAny_sharingNotTold_none hb ?_)
 rw [if_neg Bool.false_ne_true]
 refine wpAny_bind (wpAny_sharingNotTold_none hb ?_)
 rw [if_neg Bool.false_ne_true]
 exact wpAny_bind (wpAny_rule (wpAny_bind (wpAny_askSetting (wpAny_pure (hq _ fun _ => .inr hp)))))
theorem mrk_inv {i : Int} {a : Value} (h : VR G (.mrk i) a) : ∃ t, a = .int i t ∧ G.kt t = some (.inl i) := h
theorem SameK.wp (hI : Inv c F G ρ σ s) (hb : NoneBooked s.heap) {A : Around} {E : Value → Shared → Prop} {a b : Value} {k : Bool} {Q : Bool → Shared → Prop} (h : SameK x y k) (hx : VR G x a) (hy : VR G y b) (hq : ∀ r, (r = true → k = true) → Q r s) : wpAny c.M A (isSame a b) Q E s := by
 cases h with
 | mrk i j =>
  obtain ⟨t, rfl, kt⟩ := mrk_inv hx
  obtain ⟨u, rfl, ku⟩ := mrk_inv hy
  have t0 := (hI.tok kt).1
  have u0 := (hI.tok ku).1
  show wpAny c.M A (if (i == j && smallInt i) = true then isSame.cachedInt t u else isSame.created (i == j) t u) Q E s
  refine wpAny_ite ?_
  split
  ·rename_i z
   rw [Bool.and_eq_true, beq_iff_eq] at z
   unfold isSame.cachedInt
   refine wpAny_ite ?_
   split
   ·rename_i h
    simp only [Bool.or_eq_true, beq_iff_eq] at h
    rcases h with rfl | rfl
    ·exact absurd t0 (Nat.lt_irrefl _)
    ·exact absurd u0 (Nat.lt_irrefl _)
   ·exact wpAny_bind (wpAny_rule (wpAny_pure (hq _ fun _ => decide_eq_true z.1)))
  ·refine wpAny_created hb t0 u0 fun r hr => hq r fun e => ?_
   rcases hr e with z | z
   ·subst z
    rw [kt] at ku; cases ku
    exact decide_eq_true rfl
   ·exact decide_eq_true (beq_iff_eq.mp z)
 | flt h h' =>
  obtain ⟨t, rfl, kt⟩ := flt_inv hx
  obtain ⟨u, rfl, ku⟩ := flt_inv hy
  exact wpAny_isSame_flt hI hb kt ku (small_of_small2 h) (small_of_small2 h') fun r hr => hq r fun e => decide_eq_true (hr e)
 | lst h =>
  obtain ⟨p, vs, rfl, hp, _⟩ := lst_inv hx
  obtain ⟨q, us, rfl, hq', _⟩ := lst_inv hy
  by_cases z : p = q
  ·subst z
   exact wpAny_isSame_ref_self (hq _ fun _ => h.same hx hy)
  ·obtain ⟨n1, h1⟩ := hI.fz hp
   obtain ⟨n2, h2⟩ := hI.fz hq'
   exact wpAny_isSame_ref_other z h1 h2 (by simp) (hq _ fun e => by cases e)
theorem q_isK {Q : V → St → Prop} {e : Bool} (h : SameK x y e) (q : ∀ k, (k = true → e = true) → Q (.bool k) st) : QX K .Is x y st Q E := by
 intro va vb A G s QQ EE ok hP hI _ H
 show wpAny K.c.M A (isSame va vb >>= fun r => pure (Value.bool r)) QQ EE s
 exact wpAny_bind (h.wp hI (hI.booked ok.hc) hP.1 hP.2 fun r hr => wpAny_pure (H.here (q r hr) hI (VR_bool r)))
end
section
variable {K : Kx} {fd : FuncData} {x y z v w : V} {n1 n2 n3 n4 n5 k1 k2 : Str}
noncomputable def PeekB (K : Kx) (fd : FuncData) (ws : List Value) (kvs us : List (Str × Value)) : Prop := ∀ S, peek K.c.K S (bindArgs fd ⟨ws, kvs⟩) = some us
theorem BD.of {vs : List V} {kv bs : List (Str × V)} (h : ∀ G ws kvs, VRs G vs ws → KwR G kv kvs → ∃ us, PeekB K fd ws kvs us ∧ KwR G bs us) : BD K fd vs kv bs := fun A G st s ws kvs QQ EE hc hv hk hI hq =>
 (h G ws kvs hv hk).elim fun us h => Looks.here (Looks.of_peek (hI.kin hc) (h.1 _)) (hq G us s (Gh.le.refl _) hI h.2)
theorem bd1 (h : ∀ a, PeekB K fd [a] [] [(n1, a)]) : BD K fd [x] [] [(n1, x)] := .of fun G ws kvs hv hk => by
 obtain ⟨a, us, rfl, h1, hv⟩ := hv.cons_inv
 cases hv.nil_inv
 cases hk.nil_inv
 exact ⟨_, h a, ⟨a, [], rfl, h1, rfl⟩⟩
theorem bd2 (h : ∀ a b, PeekB K fd [a, b] [] [(n1, a), (n2, b)]) : BD K fd [x, y] [] [(n1, x), (n2, y)] := .of fun G ws kvs hv hk => by
 obtain ⟨a, us, rfl, h1, hv⟩ := hv.cons_inv
 obtain ⟨b, us, rfl, h2, hv⟩ := hv.cons_inv
 cases hv.nil_inv
 cases hk.nil_inv
 exact ⟨_, h a b, ⟨a, _, rfl, h1, b, [], rfl, h2, rfl⟩⟩
theorem bd3 (h : ∀ a b c, PeekB K fd [a, b, c] [] [(n1, a), (n2, b), (n3, c)]) : BD K fd [x, y, z] [] [(n1, x), (n2, y), (n3, z)] := .of fun G ws kvs hv hk => by
 obtain ⟨a, us, rfl, h1, hv⟩ := hv.cons_inv
 obtain ⟨b, us, rfl, h2, hv⟩ := hv.cons_inv
 obtain ⟨c, us, rfl, h3, hv⟩ := hv.cons_inv
 cases hv.nil_inv
 cases hk.nil_inv
 exact ⟨_, h a b c, ⟨a, _, rfl, h1, b, _, rfl, h2, c, [], rfl, h3, rfl⟩⟩
theorem bd2k (h : ∀ a b c, PeekB K fd [a, b] [(n3, c)] [(n1, a), (n2, b), (n3, c)]) : BD K fd [x, y] [(n3, z)] [(n1, x), (n2, y), (n3, z)] := .of fun G ws kvs hv hk => by
 obtain ⟨a, us, rfl, h1, hv⟩ := hv.cons_inv
 obtain ⟨b, us, rfl, h2, hv⟩ := hv.cons_inv
 cases hv.nil_inv
 obtain ⟨c, us, rfl, h3, hk⟩ := hk
 obtain rfl : us = [] := hk
 exact ⟨_, h a b c, ⟨a, _, rfl, h1, b, _, rfl, h2, c, [], rfl, h3, rfl⟩⟩
theorem bd1d {ds : List (Str × V)} (h : ∀ a, ∃ us, PeekB K fd [a] [] ((n1, a) :: us) ∧ ∀ G, KwR G ds us) : BD K fd [x] [] ((n1, x) :: ds) := .of fun G ws kvs hv hk => by
 obtain ⟨a, us, rfl, h1, hv⟩ := hv.cons_inv
 cases hv.nil_inv
 cases hk.nil_inv
 exact (h a).elim fun us h => ⟨_, h.1, ⟨a, us, rfl, h1, h.2 G⟩⟩
theorem bdRest {vs r : List V} {pre : List (Str × V)} {nm : Str} (hr : r.length ≤ lim) (h : ∀ G ws kvs, VRs G vs ws → KwR G [] kvs → ∃ preW rs, bindArgs fd ⟨ws, kvs⟩ = (newTuple rs >>= fun t => pure (preW ++ [(nm, t)])) ∧ VRs G r rs ∧ KwR G pre preW) : BD K fd vs [] (pre ++ [(nm, .tup r)]) := by
 intro A G st s ws kvs QQ EE hc hv hk hI hq
 obtain ⟨preW, rs, e, hrs, hp⟩ := h G ws kvs hv hk
 rw [e]
 refine wpAny_bind (wpAny_newTuple ?_ (by rw [← hrs.length]; exact lim_fits hr))
 exact (hI.newTup hrs).elim fun G' g => wpAny_pure (hq G' _ _ g.1 g.2.1 ((hp.mono g.1).snoc g.2.2))
end
end Mine
end
section
namespace Mine
open PySem PySem.W PyProof.Rows PySem.PyData
noncomputable def at1 (i : Nat) : Stmt := (PySem.Challenge.pw_ij0181_01.main.body[i]?).getD (.Pass ⟨0, 0, 0, 0⟩)
noncomputable def bodyOf : Stmt → List Stmt
 | .FunctionDef _ _ b .. => b
 | .ClassDef _ _ _ b .. => b
 | _ => []
noncomputable def scopeOf : Stmt → Scope
 | .FunctionDef _ _ _ _ _ _ sc .. => sc
 | .ClassDef _ _ _ _ _ _ sc .. => sc
 | _ => ⟨.function, [], false, false, []⟩
noncomputable def paramsOf : Stmt → Arguments
 | .FunctionDef _ p .. => p
 | _ => default
noncomputable def nameOf : Stmt → Str
 | .FunctionDef n .. => n
 | _ => default
noncomputable def at2 (i j : Nat) : Stmt := ((bodyOf (at1 i))[j]?).getD (.Pass ⟨0, 0, 0, 0⟩)
noncomputable def sO (x : String) : Str := Str.ofString x
noncomputable def en (P : Params) (k : String) (t : Tok) (v : Value) : DictEntry := ⟨keyHash P (Str.ofString k), .str (Str.ofString k) t, v⟩
noncomputable def fdO (st : Stmt) (q : String) (df kw mod : Value) (code glb : Addr) : FuncData := { name := nameOf st, qualname := Str.ofString q, params := paramsOf st, body := .stmts (bodyOf st), scope := scopeOf st, globals := glb, closure := [], defaults := df, kwdefaults := kw, pyModule := mod, code := .ref code }
noncomputable def fnO (a : Addr) (st : Stmt) (q : String) (df kw mod : Value) (code glb : Addr) : Addr × Obj := (a, { cls := .type "function", data := .func (fdO st q df kw mod code glb) })
noncomputable def KH (P : Params) : Frag := [
 (2, { cls := .none, data := .dict #[] }),
 (3, { cls := .type "dict", data := .dict #[en P "__name__" 165 (.str (sO "law_ij0181_01") 708), en P "__doc__" 166 (.none), en P "__package__" 167 (.none), en P "__loader__" 168 (.builtin "__main__.__loader__#opaque"), en P "__spec__" 169 (.none), en P "__annotations__" 170 (.ref 6), en P "__builtins__" 171 (.ref 4), en P "__file__" 173 (.str (sO "/claim/cut.py") 172), en P "__cached__" 174 (.none), en P "_wall" 193 (.ref 21), en P "_MAXSIZE" 197 (.int 9223372036854775807 196), en P "_is_int" 205 (.ref 28), en P "_pull" 212 (.ref 35), en P "_same" 220 (.ref 42), en P "groupby" 311 (.ref 83), en P "_grouper" 365 (.ref 128), en P "_count_kind" 373 (.ref 140), en P "count" 438 (.ref 181), en P "itemgetter" 496 (.ref 226), en P "_rank" 525 (.ref 237), en P "_NODE_OUT" 530 (.int (-1) 529), en P "_NODE_DONE" 533 (.int (-2) 532), en P "_NodeInfo" 570 (.ref 256), en P "CycleError" 588 (.ref 271), en P "TopologicalSorter" 707 (.ref 353), en P "_law_marks" 715 (.ref 362), en P "_law_twice" 721 (.ref 367), en P "_law_some" 727 (.ref 372), en P "_law_all" 733 (.ref 377), en P "_law_rounds" 745 (.ref 384), en P "_law_plain" 751 (.ref 389), en P "_law_by_rounds" 762 (.ref 396), en P "law" 768 (.ref 401)] 33 }),
 (34, { cls := .type "code", data := .fields #[.str (sO "_pull") 206, .str (sO "_pull") 207, .str (sO "/claim/cut.py") 208, .int 9 0, .int 1 0, .int 0 0, .int 0 0, .int 3 0, .ref 29, .bool true, .int 181 0, .ref 30, .none, .ref 31, .ref 32, .ref 33, .int 210 0, .int 9 0, .str (sO "/claim/cut.py") 211] }),
 fnO 35 (at1 4) "_pull" (.none) (.none) (.str ("itertools") 194) 34 (3),
 (41, { cls := .type "code", data := .fields #[.str (sO "_same") 213, .str (sO "_same") 214, .str (sO "/claim/cut.py") 215, .int 14 0, .int 2 0, .int 0 0, .int 0 0, .int 3 0, .ref 36, .bool true, .int 181 0, .ref 37, .none, .ref 38, .ref 39, .ref 40, .int 218 0, .int 14 0, .str (sO "/claim/cut.py") 219] }),
 fnO 42 (at1 5) "_same" (.none) (.none) (.str ("itertools") 194) 41 (3),
 (51, { cls := .type "tuple", data := .seq #[.none] }),
 (57, { cls := .type "code", data := .fields #[.str (sO "__init__") 244, .str (sO "groupby.__init__") 245, .str (sO "/claim/cut.py") 246, .int 23 0, .int 3 0, .int 0 0, .int 0 0, .int 3 0, .ref 52, .bool true, .int 181 0, .ref 53, .none, .ref 54, .ref 55, .ref 56, .int 250 0, .int 23 0, .str (sO "/claim/cut.py") 251] }),
 fnO 58 (at2 6 1) "groupby.__init__" (.ref 51) (.none) (.str ("itertools") 194) 57 (3),
 (64, { cls := .type "code", data := .fields #[.str (sO "__iter__") 253, .str (sO "groupby.__iter__") 254, .str (sO "/claim/cut.py") 255, .int 35 0, .int 1 0, .int 0 0, .int 0 0, .int 3 0, .ref 59, .bool true, .int 181 0, .ref 60, .none, .ref 61, .ref 62, .ref 63, .int 257 0, .int 35 0, .str (sO "/claim/cut.py") 258] }),
 fnO 65 (at2 6 2) "groupby.__iter__" (.none) (.none) (.str ("itertools") 194) 64 (3),
 (71, { cls := .type "code", data := .fields #[.str (sO "_step") 260, .str (sO "groupby._step") 261, .str (sO "/claim/cut.py") 262, .int 38 0, .int 1 0, .int 0 0, .int 0 0, .int 3 0, .ref 66, .bool true, .int 181 0, .ref 67, .none, .ref 68, .ref 69, .ref 70, .int 267 0, .int 38 0, .str (sO "/claim/cut.py") 268] }),
 fnO 72 (at2 6 3) "groupby._step" (.none) (.none) (.str ("itertools") 194) 71 (3),
 (78, { cls := .type "code", data := .fields #[.str (sO "__next__") 270, .str (sO "groupby.__next__") 271, .str (sO "/claim/cut.py") 272, .int 51 0, .int 1 0, .int 0 0, .int 0 0, .int 3 0, .ref 73, .bool true, .int 181 0, .ref 74, .none, .ref 75, .ref 76, .ref 77, .int 275 0, .int 51 0, .str (sO "/claim/cut.py") 276] }),
 fnO 79 (at2 6 4) "groupby.__next__" (.none) (.none) (.str ("itertools") 194) 78 (3),
 (82, { cls := .type "dict", data := .dict #[en P "__module__" 228 (.str (sO "itertools") 194), en P "__firstlineno__" 232 (.int 20 231), en P "__slots__" 243 (.ref 50), en P "__init__" 252 (.ref 58), en P "__iter__" 259 (.ref 65), en P "_step" 269 (.ref 72), en P "__next__" 277 (.ref 79), en P "__static_attributes__" 288 (.ref 80), en P "_currgrouper" 290 (.ref 84), en P "_currkey" 292 (.ref 85), en P "_currvalue" 294 (.ref 86), en P "_has_currkey" 296 (.ref 87), en P "_has_currvalue" 298 (.ref 88), en P "_has_tgtkey" 300 (.ref 89), en P "_it" 302 (.ref 90), en P "_keyfunc" 304 (.ref 91), en P "_serial" 306 (.ref 92), en P "_tgtkey" 308 (.ref 93), en P "__doc__" 309 (.none)] 12 }),
 (83, { cls := .type "type", data := .cls { name := sO "groupby", bases := [.type "object"], mro := [.ref 83, .type "object"], ns := 82, qualname := sO "groupby", hasDict := false, slotNames := [sO "_currgrouper", sO "_currkey", sO "_currvalue", sO "_has_currkey", sO "_has_currvalue", sO "_has_tgtkey", sO "_it", sO "_keyfunc", sO "_serial", sO "_tgtkey"] }, slots := #[none, none, some (.str (sO "groupby") 221), some (.str (sO "groupby") 229), some (.builtin "object.__new__"), some (.bool false)] }),
 (84, { cls := .type "member_descriptor", data := .fields #[.str (sO "_currgrouper") 289, .ref 83, .builtin "proto.slot", .builtin "proto.slot#set", .int 9 0] }),
 (85, { cls := .type "member_descriptor", data := .fields #[.str (sO "_currkey") 291, .ref 83, .builtin "proto.slot", .builtin "proto.slot#set", .int 8 0] }),
 (86, { cls := .type "member_descriptor", data := .fields #[.str (sO "_currvalue") 293, .ref 83, .builtin "proto.slot", .builtin "proto.slot#set", .int 7 0] }),
 (87, { cls := .type "member_descriptor", data := .fields #[.str (sO "_has_currkey") 295, .ref 83, .builtin "proto.slot", .builtin "proto.slot#set", .int 6 0] }),
 (88, { cls := .type "member_descriptor", data := .fields #[.str (sO "_has_currvalue") 297, .ref 83, .builtin "proto.slot", .builtin "proto.slot#set", .int 5 0] }),
 (89, { cls := .type "member_descriptor", data := .fields #[.str (sO "_has_tgtkey") 299, .ref 83, .builtin "proto.slot", .builtin "proto.slot#set", .int 4 0] }),
 (90, { cls := .type "member_descriptor", data := .fields #[.str (sO "_it") 301, .ref 83, .builtin "proto.slot", .builtin "proto.slot#set", .int 3 0] }),
 (91, { cls := .type "member_descriptor", data := .fields #[.str (sO "_keyfunc") 303, .ref 83, .builtin "proto.slot", .builtin "proto.slot#set", .int 2 0] }),
 (92, { cls := .type "member_descriptor", data := .fields #[.str (sO "_serial") 305, .ref 83, .builtin "proto.slot", .builtin "proto.slot#set", .int 1 0] }),
 (93, { cls := .type "member_descriptor", data := .fields #[.str (sO "_tgtkey") 307, .ref 83, .builtin "proto.slot", .builtin "proto.slot#set", .int 0 0] }),
 (109, { cls := .type "code", data := .fields #[.str (sO "__init__") 328, .str (sO "_grouper.__init__") 329, .str (sO "/claim/cut.py") 330, .int 67 0, .int 3 0, .int 3 0, .int 0 0, .int 3 0, .ref 104, .bool true, .int 181 0, .ref 105, .none, .ref 106, .ref 107, .ref 108, .int 334 0, .int 67 0, .str (sO "/claim/cut.py") 335] }),
 fnO 110 (at2 7 1) "_grouper.__init__" (.none) (.none) (.str ("itertools") 194) 109 (3),
 (116, { cls := .type "code", data := .fields #[.str (sO "__iter__") 337, .str (sO "_grouper.__iter__") 338, .str (sO "/claim/cut.py") 339, .int 76 0, .int 1 0, .int 0 0, .int 0 0, .int 3 0, .ref 111, .bool true, .int 181 0, .ref 112, .none, .ref 113, .ref 114, .ref 115, .int 341 0, .int 76 0, .str (sO "/claim/cut.py") 342] }),
 fnO 117 (at2 7 2) "_grouper.__iter__" (.none) (.none) (.str ("itertools") 194) 116 (3),
 (123, { cls := .type "code", data := .fields #[.str (sO "__next__") 344, .str (sO "_grouper.__next__") 345, .str (sO "/claim/cut.py") 346, .int 79 0, .int 1 0, .int 0 0, .int 0 0, .int 3 0, .ref 118, .bool true, .int 181 0, .ref 119, .none, .ref 120, .ref 121, .ref 122, .int 350 0, .int 79 0, .str (sO "/claim/cut.py") 351] }),
 fnO 124 (at2 7 3) "_grouper.__next__" (.none) (.none) (.str ("itertools") 194) 123 (3),
 (127, { cls := .type "dict", data := .dict #[en P "__module__" 319 (.str (sO "itertools") 194), en P "__firstlineno__" 323 (.int 64 322), en P "__slots__" 327 (.ref 103), en P "__init__" 336 (.ref 110), en P "__iter__" 343 (.ref 117), en P "__next__" 352 (.ref 124), en P "__static_attributes__" 356 (.ref 125), en P "_number" 358 (.ref 129), en P "_parent" 360 (.ref 130), en P "_tgtkey" 362 (.ref 131), en P "__doc__" 363 (.none)] 5 }),
 (128, { cls := .type "type", data := .cls { name := sO "_grouper", bases := [.type "object"], mro := [.ref 128, .type "object"], ns := 127, qualname := sO "_grouper", hasDict := false, slotNames := [sO "_number", sO "_parent", sO "_tgtkey"] }, slots := #[none, none, some (.str (sO "_grouper") 312), some (.str (sO "_grouper") 320), some (.builtin "object.__new__"), some (.bool false)] }),
 (129, { cls := .type "member_descriptor", data := .fields #[.str (sO "_number") 357, .ref 128, .builtin "proto.slot", .builtin "proto.slot#set", .int 2 0] }),
 (130, { cls := .type "member_descriptor", data := .fields #[.str (sO "_parent") 359, .ref 128, .builtin "proto.slot", .builtin "proto.slot#set", .int 1 0] }),
 (131, { cls := .type "member_descriptor", data := .fields #[.str (sO "_tgtkey") 361, .ref 128, .builtin "proto.slot", .builtin "proto.slot#set", .int 0 0] }),
 (139, { cls := .type "code", data := .fields #[.str (sO "_count_kind") 366, .str (sO "_count_kind") 367, .str (sO "/claim/cut.py") 368, .int 93 0, .int 1 0, .int 0 0, .int 0 0, .int 3 0, .ref 134, .bool true, .int 181 0, .ref 135, .none, .ref 136, .ref 137, .ref 138, .int 371 0, .int 93 0, .str (sO "/claim/cut.py") 372] }),
 fnO 140 (at1 8) "_count_kind" (.none) (.none) (.str ("itertools") 194) 139 (3),
 (149, { cls := .type "tuple", data := .seq #[.int 0 390, .int 1 391] }),
 (155, { cls := .type "code", data := .fields #[.str (sO "__init__") 392, .str (sO "count.__init__") 393, .str (sO "/claim/cut.py") 394, .int 105 0, .int 3 0, .int 0 0, .int 0 0, .int 3 0, .ref 150, .bool true, .int 181 0, .ref 151, .none, .ref 152, .ref 153, .ref 154, .int 401 0, .int 105 0, .str (sO "/claim/cut.py") 402] }),
 fnO 156 (at2 9 1) "count.__init__" (.ref 149) (.none) (.str ("itertools") 194) 155 (3),
 (162, { cls := .type "code", data := .fields #[.str (sO "__iter__") 404, .str (sO "count.__iter__") 405, .str (sO "/claim/cut.py") 406, .int 117 0, .int 1 0, .int 0 0, .int 0 0, .int 3 0, .ref 157, .bool true, .int 181 0, .ref 158, .none, .ref 159, .ref 160, .ref 161, .int 408 0, .int 117 0, .str (sO "/claim/cut.py") 409] }),
 fnO 163 (at2 9 2) "count.__iter__" (.none) (.none) (.str ("itertools") 194) 162 (3),
 (169, { cls := .type "code", data := .fields #[.str (sO "__next__") 411, .str (sO "count.__next__") 412, .str (sO "/claim/cut.py") 413, .int 120 0, .int 1 0, .int 0 0, .int 0 0, .int 3 0, .ref 164, .bool true, .int 181 0, .ref 165, .none, .ref 166, .ref 167, .ref 168, .int 416 0, .int 120 0, .str (sO "/claim/cut.py") 417] }),
 fnO 170 (at2 9 3) "count.__next__" (.none) (.none) (.str ("itertools") 194) 169 (3),
 (180, { cls := .type "dict", data := .dict #[en P "__module__" 381 (.str (sO "itertools") 194), en P "__firstlineno__" 385 (.int 102 384), en P "__slots__" 389 (.ref 148), en P "__init__" 403 (.ref 156), en P "__iter__" 410 (.ref 163), en P "__next__" 418 (.ref 170), en P "__repr__" 425 (.ref 177), en P "__static_attributes__" 429 (.ref 178), en P "_cnt" 431 (.ref 182), en P "_fast" 433 (.ref 183), en P "_step" 435 (.ref 184), en P "__doc__" 436 (.none)] 5 }),
 (181, { cls := .type "type", data := .cls { name := sO "count", bases := [.type "object"], mro := [.ref 181, .type "object"], ns := 180, qualname := sO "count", hasDict := false, slotNames := [sO "_cnt", sO "_fast", sO "_step"] }, slots := #[none, none, some (.str (sO "count") 374), some (.str (sO "count") 382), some (.builtin "object.__new__"), some (.bool false)] }),
 (182, { cls := .type "member_descriptor", data := .fields #[.str (sO "_cnt") 430, .ref 181, .builtin "proto.slot", .builtin "proto.slot#set", .int 2 0] }),
 (183, { cls := .type "member_descriptor", data := .fields #[.str (sO "_fast") 432, .ref 181, .builtin "proto.slot", .builtin "proto.slot#set", .int 1 0] }),
 (184, { cls := .type "member_descriptor", data := .fields #[.str (sO "_step") 434, .ref 181, .builtin "proto.slot", .builtin "proto.slot#set", .int 0 0] }),
 (200, { cls := .type "code", data := .fields #[.str (sO "__init__") 455, .str (sO "itemgetter.__init__") 456, .str (sO "/claim/cut.py") 457, .int 133 0, .int 2 0, .int 2 0, .int 0 0, .int 7 0, .ref 195, .bool true, .int 181 0, .ref 196, .none, .ref 197, .ref 198, .ref 199, .int 461 0, .int 133 0, .str (sO "/claim/cut.py") 462] }),
 fnO 201 (at2 11 1) "itemgetter.__init__" (.none) (.none) (.str ("operator") 439) 200 (3),
 (207, { cls := .type "code", data := .fields #[.str (sO "__call__") 464, .str (sO "itemgetter.__call__") 465, .str (sO "/claim/cut.py") 466, .int 136 0, .int 2 0, .int 2 0, .int 0 0, .int 3 0, .ref 202, .bool true, .int 181 0, .ref 203, .none, .ref 204, .ref 205, .ref 206, .int 472 0, .int 136 0, .str (sO "/claim/cut.py") 473] }),
 fnO 208 (at2 11 2) "itemgetter.__call__" (.none) (.none) (.str ("operator") 439) 207 (3),
 (225, { cls := .type "dict", data := .dict #[en P "__module__" 448 (.str (sO "operator") 439), en P "__firstlineno__" 452 (.int 130 451), en P "__slots__" 454 (.ref 194), en P "__init__" 463 (.ref 201), en P "__call__" 474 (.ref 208), en P "__repr__" 482 (.ref 215), en P "__reduce__" 489 (.ref 222), en P "__static_attributes__" 491 (.ref 223), en P "_items" 493 (.ref 227), en P "__doc__" 494 (.none)] 3 }),
 (226, { cls := .type "type", data := .cls { name := sO "itemgetter", bases := [.type "object"], mro := [.ref 226, .type "object"], ns := 225, qualname := sO "itemgetter", hasDict := false, slotNames := [sO "_items"] }, slots := #[none, none, some (.str (sO "itemgetter") 441), some (.str (sO "itemgetter") 449), some (.builtin "object.__new__"), some (.bool false)] }),
 (227, { cls := .type "member_descriptor", data := .fields #[.str (sO "_items") 492, .ref 226, .builtin "proto.slot", .builtin "proto.slot#set", .int 0 0] }),
 (230, { cls := .type "dict", data := .dict #[en P "key" 501 (.none), en P "reverse" 502 (.bool false), en P "ties" 503 (.str (sO "average") 499), en P "start" 504 (.int 1 500)] 4 }),
 (236, { cls := .type "code", data := .fields #[.str (sO "_rank") 505, .str (sO "_rank") 506, .str (sO "/claim/cut.py") 507, .int 156 0, .int 1 0, .int 1 0, .int 4 0, .int 3 0, .ref 231, .bool true, .int 181 0, .ref 232, .none, .ref 233, .ref 234, .ref 235, .int 523 0, .int 156 0, .str (sO "/claim/cut.py") 524] }),
 fnO 237 (at1 13) "_rank" (.none) (.ref 230) (.str ("cpy313.statistics") 497) 236 (3),
 (251, { cls := .type "code", data := .fields #[.str (sO "__init__") 550, .str (sO "_NodeInfo.__init__") 551, .str (sO "/claim/cut.py") 552, .int 178 0, .int 2 0, .int 0 0, .int 0 0, .int 3 0, .ref 246, .bool true, .int 181 0, .ref 247, .none, .ref 248, .ref 249, .ref 250, .int 555 0, .int 178 0, .str (sO "/claim/cut.py") 556] }),
 fnO 252 (at2 17 1) "_NodeInfo.__init__" (.none) (.none) (.str ("cpy313.graphlib") 526) 251 (3),
 (255, { cls := .type "dict", data := .dict #[en P "__module__" 541 (.str (sO "cpy313.graphlib") 526), en P "__firstlineno__" 545 (.int 175 544), en P "__slots__" 549 (.ref 245), en P "__init__" 557 (.ref 252), en P "__static_attributes__" 561 (.ref 253), en P "node" 563 (.ref 257), en P "npredecessors" 565 (.ref 258), en P "successors" 567 (.ref 259), en P "__doc__" 568 (.none)] 5 }),
 (256, { cls := .type "type", data := .cls { name := sO "_NodeInfo", bases := [.type "object"], mro := [.ref 256, .type "object"], ns := 255, qualname := sO "_NodeInfo", hasDict := false, slotNames := [sO "node", sO "npredecessors", sO "successors"] }, slots := #[none, none, some (.str (sO "_NodeInfo") 534), some (.str (sO "_NodeInfo") 542), some (.builtin "object.__new__"), some (.bool false)] }),
 (257, { cls := .type "member_descriptor", data := .fields #[.str (sO "node") 562, .ref 256, .builtin "proto.slot", .builtin "proto.slot#set", .int 2 0] }),
 (258, { cls := .type "member_descriptor", data := .fields #[.str (sO "npredecessors") 564, .ref 256, .builtin "proto.slot", .builtin "proto.slot#set", .int 1 0] }),
 (259, { cls := .type "member_descriptor", data := .fields #[.str (sO "successors") 566, .ref 256, .builtin "proto.slot", .builtin "proto.slot#set", .int 0 0] }),
 (270, { cls := .type "dict", data := .dict #[en P "__module__" 578 (.str (sO "cpy313.graphlib") 526), en P "__firstlineno__" 582 (.int 182 581), en P "__static_attributes__" 583 (.ref 269), en P "__weakref__" 585 (.ref 272), en P "__doc__" 586 (.none)] 3 }),
 (271, { cls := .type "type", data := .cls { name := sO "CycleError", bases := [.type "ValueError"], mro := [.ref 271, .type "ValueError", .type "Exception", .type "BaseException", .type "object"], ns := 270, qualname := sO "CycleError" }, slots := #[some (.ref 262), none, some (.str (sO "CycleError") 571), some (.str (sO "CycleError") 579), some (.builtin "ValueError.__new__"), some (.bool true)] }),
 (272, { cls := .type "getset_descriptor", data := .fields #[.str (sO "__weakref__") 584, .ref 271, .builtin "ExceptionGroup.__weakref__", .none] }),
 (282, { cls := .type "tuple", data := .seq #[.none] }),
 (288, { cls := .type "code", data := .fields #[.str (sO "__init__") 601, .str (sO "TopologicalSorter.__init__") 602, .str (sO "/claim/cut.py") 603, .int 186 0, .int 2 0, .int 0 0, .int 0 0, .int 3 0, .ref 283, .bool true, .int 181 0, .ref 284, .none, .ref 285, .ref 286, .ref 287, .int 608 0, .int 186 0, .str (sO "/claim/cut.py") 609] }),
 fnO 289 (at2 19 0) "TopologicalSorter.__init__" (.ref 282) (.none) (.str ("cpy313.graphlib") 526) 288 (3),
 (295, { cls := .type "code", data := .fields #[.str (sO "_get_nodeinfo") 611, .str (sO "TopologicalSorter._get_nodeinfo") 612, .str (sO "/claim/cut.py") 613, .int 195 0, .int 2 0, .int 0 0, .int 0 0, .int 3 0, .ref 290, .bool true, .int 181 0, .ref 291, .none, .ref 292, .ref 293, .ref 294, .int 617 0, .int 195 0, .str (sO "/claim/cut.py") 618] }),
 fnO 296 (at2 19 1) "TopologicalSorter._get_nodeinfo" (.none) (.none) (.str ("cpy313.graphlib") 526) 295 (3),
 (302, { cls := .type "code", data := .fields #[.str (sO "add") 620, .str (sO "TopologicalSorter.add") 621, .str (sO "/claim/cut.py") 622, .int 200 0, .int 2 0, .int 0 0, .int 0 0, .int 7 0, .ref 297, .bool true, .int 181 0, .ref 298, .none, .ref 299, .ref 300, .ref 301, .int 629 0, .int 200 0, .str (sO "/claim/cut.py") 630] }),
 fnO 303 (at2 19 2) "TopologicalSorter.add" (.none) (.none) (.str ("cpy313.graphlib") 526) 302 (3),
 (307, { cls := .type "code", data := .fields #[.str (sO "prepare") 632, .str (sO "TopologicalSorter.prepare") 633, .str (sO "/claim/cut.py") 634, .int 209 0, .int 1 0, .int 0 0, .int 0 0, .int 3 0, .ref 304, .bool true, .int 181 0, .ref 305, .none, .none, .none, .ref 306, .int 635 0, .int 209 0, .str (sO "/claim/cut.py") 636] }),
 fnO 308 (at2 19 3) "TopologicalSorter.prepare" (.none) (.none) (.str ("cpy313.graphlib") 526) 307 (3),
 (314, { cls := .type "code", data := .fields #[.str (sO "get_ready") 638, .str (sO "TopologicalSorter.get_ready") 639, .str (sO "/claim/cut.py") 640, .int 217 0, .int 1 0, .int 0 0, .int 0 0, .int 3 0, .ref 309, .bool true, .int 181 0, .ref 310, .none, .ref 311, .ref 312, .ref 313, .int 645 0, .int 217 0, .str (sO "/claim/cut.py") 646] }),
 fnO 315 (at2 19 4) "TopologicalSorter.get_ready" (.none) (.none) (.str ("cpy313.graphlib") 526) 314 (3),
 (321, { cls := .type "code", data := .fields #[.str (sO "is_active") 648, .str (sO "TopologicalSorter.is_active") 649, .str (sO "/claim/cut.py") 650, .int 228 0, .int 1 0, .int 0 0, .int 0 0, .int 3 0, .ref 316, .bool true, .int 181 0, .ref 317, .none, .ref 318, .ref 319, .ref 320, .int 652 0, .int 228 0, .str (sO "/claim/cut.py") 653] }),
 fnO 322 (at2 19 5) "TopologicalSorter.is_active" (.none) (.none) (.str ("cpy313.graphlib") 526) 321 (3),
 (335, { cls := .type "code", data := .fields #[.str (sO "done") 662, .str (sO "TopologicalSorter.done") 663, .str (sO "/claim/cut.py") 664, .int 236 0, .int 1 0, .int 0 0, .int 0 0, .int 7 0, .ref 330, .bool true, .int 181 0, .ref 331, .none, .ref 332, .ref 333, .ref 334, .int 673 0, .int 236 0, .str (sO "/claim/cut.py") 674] }),
 fnO 336 (at2 19 7) "TopologicalSorter.done" (.none) (.none) (.str ("cpy313.graphlib") 526) 335 (3),
 (342, { cls := .type "code", data := .fields #[.str (sO "_find_cycle") 676, .str (sO "TopologicalSorter._find_cycle") 677, .str (sO "/claim/cut.py") 678, .int 259 0, .int 1 0, .int 0 0, .int 0 0, .int 3 0, .ref 337, .bool true, .int 181 0, .ref 338, .none, .ref 339, .ref 340, .ref 341, .int 686 0, .int 259 0, .str (sO "/claim/cut.py") 687] }),
 fnO 343 (at2 19 8) "TopologicalSorter._find_cycle" (.none) (.none) (.str ("cpy313.graphlib") 526) 342 (3),
 (352, { cls := .type "dict", data := .dict #[en P "__module__" 596 (.str (sO "cpy313.graphlib") 526), en P "__firstlineno__" 600 (.int 184 599), en P "__init__" 610 (.ref 289), en P "_get_nodeinfo" 619 (.ref 296), en P "add" 631 (.ref 303), en P "prepare" 637 (.ref 308), en P "get_ready" 647 (.ref 315), en P "is_active" 654 (.ref 322), en P "__bool__" 661 (.ref 329), en P "done" 675 (.ref 336), en P "_find_cycle" 688 (.ref 343), en P "static_order" 695 (.ref 350), en P "__static_attributes__" 700 (.ref 351), en P "__dict__" 702 (.ref 354), en P "__weakref__" 704 (.ref 355), en P "__doc__" 705 (.none)] 4 }),
 (353, { cls := .type "type", data := .cls { name := sO "TopologicalSorter", bases := [.type "object"], mro := [.ref 353, .type "object"], ns := 352, qualname := sO "TopologicalSorter" }, slots := #[none, none, some (.str (sO "TopologicalSorter") 589), some (.str (sO "TopologicalSorter") 597), some (.builtin "object.__new__"), some (.bool true)] }),
 (354, { cls := .type "getset_descriptor", data := .fields #[.str (sO "__dict__") 701, .ref 353, .builtin "function.__dict__", .builtin "function.__dict__#set"] }),
 (355, { cls := .type "getset_descriptor", data := .fields #[.str (sO "__weakref__") 703, .ref 353, .builtin "ExceptionGroup.__weakref__", .none] }),
 (361, { cls := .type "code", data := .fields #[.str (sO "_law_marks") 710, .str (sO "_law_marks") 711, .str (sO "/claim/cut.py") 712, .int 291 0, .int 1 0, .int 0 0, .int 0 0, .int 3 0, .ref 358, .bool true, .int 181 0, .ref 359, .none, .none, .none, .ref 360, .int 713 0, .int 291 0, .str (sO "/claim/cut.py") 714] }),
 fnO 362 (at1 21) "_law_marks" (.none) (.none) (.str ("law_ij0181_01") 708) 361 (3),
 (366, { cls := .type "code", data := .fields #[.str (sO "_law_twice") 716, .str (sO "_law_twice") 717, .str (sO "/claim/cut.py") 718, .int 301 0, .int 1 0, .int 0 0, .int 0 0, .int 3 0, .ref 363, .bool true, .int 181 0, .ref 364, .none, .none, .none, .ref 365, .int 719 0, .int 301 0, .str (sO "/claim/cut.py") 720] }),
 fnO 367 (at1 22) "_law_twice" (.none) (.none) (.str ("law_ij0181_01") 708) 366 (3),
 (371, { cls := .type "code", data := .fields #[.str (sO "_law_some") 722, .str (sO "_law_some") 723, .str (sO "/claim/cut.py") 724, .int 303 0, .int 1 0, .int 0 0, .int 0 0, .int 3 0, .ref 368, .bool true, .int 181 0, .ref 369, .none, .none, .none, .ref 370, .int 725 0, .int 303 0, .str (sO "/claim/cut.py") 726] }),
 fnO 372 (at1 23) "_law_some" (.none) (.none) (.str ("law_ij0181_01") 708) 371 (3),
 (376, { cls := .type "code", data := .fields #[.str (sO "_law_all") 728, .str (sO "_law_all") 729, .str (sO "/claim/cut.py") 730, .int 305 0, .int 1 0, .int 0 0, .int 0 0, .int 3 0, .ref 373, .bool true, .int 181 0, .ref 374, .none, .none, .none, .ref 375, .int 731 0, .int 305 0, .str (sO "/claim/cut.py") 732] }),
 fnO 377 (at1 24) "_law_all" (.none) (.none) (.str ("law_ij0181_01") 708) 376 (3),
 (383, { cls := .type "code", data := .fields #[.str (sO "_law_rounds") 734, .str (sO "_law_rounds") 735, .str (sO "/claim/cut.py") 736, .int 311 0, .int 1 0, .int 0 0, .int 0 0, .int 3 0, .ref 378, .bool true, .int 181 0, .ref 379, .none, .ref 380, .ref 381, .ref 382, .int 743 0, .int 311 0, .str (sO "/claim/cut.py") 744] }),
 fnO 384 (at1 25) "_law_rounds" (.none) (.none) (.str ("law_ij0181_01") 708) 383 (3),
 (388, { cls := .type "code", data := .fields #[.str (sO "_law_plain") 746, .str (sO "_law_plain") 747, .str (sO "/claim/cut.py") 748, .int 326 0, .int 1 0, .int 0 0, .int 0 0, .int 3 0, .ref 385, .bool true, .int 181 0, .ref 386, .none, .none, .none, .ref 387, .int 749 0, .int 326 0, .str (sO "/claim/cut.py") 750] }),
 fnO 389 (at1 26) "_law_plain" (.none) (.none) (.str ("law_ij0181_01") 708) 388 (3),
 (395, { cls := .type "code", data := .fields #[.str (sO "_law_by_rounds") 752, .str (sO "_law_by_rounds") 753, .str (sO "/claim/cut.py") 754, .int 335 0, .int 1 0, .int 0 0, .int 0 0, .int 3 0, .ref 390, .bool true, .int 181 0, .ref 391, .none, .ref 392, .ref 393, .ref 394, .int 760 0, .int 335 0, .str (sO "/claim/cut.py") 761] }),
 fnO 396 (at1 27) "_law_by_rounds" (.none) (.none) (.str ("law_ij0181_01") 708) 395 (3),
 (400, { cls := .type "code", data := .fields #[.str (sO "law") 763, .str (sO "law") 764, .str (sO "/claim/cut.py") 765, .int 343 0, .int 1 0, .int 0 0, .int 0 0, .int 3 0, .ref 397, .bool true, .int 181 0, .ref 398, .none, .none, .none, .ref 399, .int 766 0, .int 343 0, .str (sO "/claim/cut.py") 767] }),
 fnO 401 (at1 28) "law" (.none) (.none) (.str ("law_ij0181_01") 708) 400 (3)]
noncomputable def asH : List Addr := [2, 3, 34, 35, 41, 42, 51, 57, 58, 64, 65, 71, 72, 78, 79, 82, 83, 84, 85, 86, 87, 88, 89, 90, 91, 92, 93, 109, 110, 116, 117, 123, 124, 127, 128, 129, 130, 131, 139, 140, 149, 155, 156, 162, 163, 169, 170, 180, 181, 182, 183, 184, 200, 201, 207, 208, 225, 226, 227, 230, 236, 237, 251, 252, 255, 256, 257, 258, 259, 270, 271, 272, 282, 288, 289, 295, 296, 302, 303, 307, 308, 314, 315, 321, 322, 335, 336, 342, 343, 352, 353, 354, 355, 361, 362, 366, 367, 371, 372, 376, 377, 383, 384, 388, 389, 395, 396, 400, 401]
end Mine
end
section
set_option maxHeartbeats 4000000
namespace Mine
open PySem PySem.W PyProof.Rows PySem.SeqAt
structure Opened (c : Cx) : Prop where
 kin : (KH c.w.params).In c.base
 hK : c.K = KH c.w.params
 g : c.base.Ns mainGlobals c.mg
 b : c.base.Ns builtinsNs c.mb
 nolimit : c.base.NoLimit
 builtins : ∀ x : Str, x ≠ "__name__" → c.mb x = bootBuiltins x
 own : ∃ C, CycAt c C
theorem ns_val {h : Heap} {a : Addr} {m : Str → Option Value} {o : Obj} {es : Array DictEntry} {ep : Nat} (n : h.Ns a m) (ho : h.get? a = some o) (hd : o.data = .dict es ep) (x : Str) : m x = nsFind es x := by
 obtain ⟨o', es', ep', h1, h2, h3, h4⟩ := n
 rw [ho] at h1; cases h1
 rw [hd] at h2; cases h2
 exact (h4 x).symm
noncomputable def readNs (p : Params) (a : Addr) (x : Str) : Option (Option Value) := ((KH p).lookup a).bind fun o => match o.data with
 | .dict es _ => some (nsFind es x)
 | _ => none
theorem read_at {c : Cx} {a : Addr} {m : Str → Option Value} (h : Opened c) (n : c.base.Ns a m) {x : Str} {r : Option Value} (e : ∀ p, readNs p a x = some r) : m x = r := by
 have e' := e c.w.params
 unfold readNs at e'
 cases q : (KH c.w.params).lookup a with
 | none => rw [q] at e'; cases e'
 | some o =>
  rw [q] at e'
  have e2 : (match o.data with | .dict es _ => some (nsFind es x) | _ => none) = some r := e'
  split at e2
  ·rename_i es ep hd
   rw [ns_val n (h.kin _ _ q) hd]
   exact Option.some.inj e2
  ·cases e2
section
variable {c : Cx}
theorem Opened.booked (h : Opened c) : NoneBooked c.base := by
 obtain ⟨mc, hn, _⟩ := h.nolimit
 exact ⟨mc, hn, read_at h hn fun _ => rfl⟩
theorem Opened.ok (h : Opened c) : CxOk c := { kin := by rw [h.hK]; exact h.kin, g := h.g, b := h.b, nolimit := h.nolimit, booked := h.booked }
theorem Opened.own_g (h : Opened c) {x : Str} {v : Value} (e : ∀ p, readNs p 3 x = some (some v)) : GlobAt c x v := .inl (read_at h h.g e)
theorem Opened.blt_g (h : Opened c) {x : Str} {v : Value} (e : ∀ p, readNs p 3 x = some none) (hx : x ≠ "__name__") (hb : bootBuiltins x = some v) : GlobAt c x v := .inr ⟨read_at h h.g e, (h.builtins x hx).trans hb⟩
theorem Opened.cyc (h : Opened c) : CycAt c 271 := by
 obtain ⟨C, hC⟩ := h.own
 have e : c.mg ("CycleError" : Str) = some (.ref 271) := read_at h h.g fun _ => rfl
 have hb := hC.bound
 rw [e] at hb
 cases hb
 exact hC
theorem Opened.lk (h : Opened c) {a : Addr} {o : Obj} (e : ∀ p, (KH p).lookup a = some o) : c.base.get? a = some o := h.kin _ _ (e _)
noncomputable def scOk (sc : Scope) : Bool := sc.kind == .function && !sc.isGenerator && !sc.isCoroutine && decide (sc.names.map (·.1)).Nodup && sc.names.all (fun x => x.2 != .free) && decide (sc.names.lookup ("__classdict__" : Str) = none)
theorem ScOk.of {sc : Scope} (h : scOk sc = true) : ScOk sc := by
 unfold scOk at h
 simp only [Bool.and_eq_true, Bool.not_eq_true', decide_eq_true_eq, List.all_eq_true, bne_iff_ne, ne_eq] at h
 obtain ⟨⟨⟨⟨⟨h1, h2⟩, h3⟩, h4⟩, h5⟩, h6⟩ := h
 exact ⟨by simpa using h1, h2, h3, h4, h5, h6⟩
theorem Opened.def_ (h : Opened c) {a : Addr} {st : Stmt} {q : String} {df kw mod : Value} {code : Addr} {sc : Scope} {oc : Obj} {vs : Array Value} {t : Tok} (e : ∀ p, (KH p).lookup a = some (fnO a st q df kw mod code 3).2) (e' : ∀ p, (KH p).lookup code = some oc) (hd : oc.data = .fields vs) (hv : vs[1]? = some (.str (Str.ofString q) t)) (hsc : scopeOf st = sc) (hk : scOk sc = true) :
  DefOk c a (fdO st q df kw mod code 3) sc (bodyOf st) := ⟨⟨_, h.lk e, rfl⟩, hsc, rfl, rfl, rfl, rfl, ⟨code, oc, vs, t, rfl, h.lk e', hd, hv⟩, .of hk⟩
noncomputable def q_s__pull : {x : Scope // x = scopeOf (at1 4)} := by apply Subtype.mk; apply Eq.symm; conv => lhs; whnf
noncomputable def s__pull : Scope := q_s__pull.1
noncomputable abbrev fd_35 : FuncData := fdO (at1 4) "_pull" (.none) (.none) (.str ("itertools") 194) 34 3
theorem d_35 (h : Opened c) : DefOk c 35 fd_35 s__pull (bodyOf (at1 4)) := h.def_ (fun _ => rfl) (fun _ => rfl) rfl rfl rfl (by decide +kernel)
noncomputable def q_s__same : {x : Scope // x = scopeOf (at1 5)} := by apply Subtype.mk; apply Eq.symm; conv => lhs; whnf
noncomputable def s__same : Scope := q_s__same.1
noncomputable abbrev fd_42 : FuncData := fdO (at1 5) "_same" (.none) (.none) (.str ("itertools") 194) 41 3
theorem d_42 (h : Opened c) : DefOk c 42 fd_42 s__same (bodyOf (at1 5)) := h.def_ (fun _ => rfl) (fun _ => rfl) rfl rfl rfl (by decide +kernel)
noncomputable def q_s_groupby___init__ : {x : Scope // x = scopeOf (at2 6 1)} := by apply Subtype.mk; apply Eq.symm; conv => lhs; whnf
noncomputable def s_groupby___init__ : Scope := q_s_groupby___init__.1
noncomputable abbrev fd_58 : FuncData := fdO (at2 6 1) "groupby.__init__" (.ref 51) (.none) (.str ("itertools") 194) 57 3
theorem d_58 (h : Opened c) : DefOk c 58 fd_58 s_groupby___init__ (bodyOf (at2 6 1)) := h.def_ (fun _ => rfl) (fun _ => rfl) rfl rfl rfl (by decide +kernel)
noncomputable def q_s_groupby___iter__ : {x : Scope // x = scopeOf (at2 6 2)} := by apply Subtype.mk; apply Eq.symm; conv => lhs; whnf
noncomputable def s_groupby___iter__ : Scope := q_s_groupby___iter__.1
noncomputable abbrev fd_65 : FuncData := fdO (at2 6 2) "groupby.__iter__" (.none) (.none) (.str ("itertools") 194) 64 3
theorem d_65 (h : Opened c) : DefOk c 65 fd_65 s_groupby___iter__ (bodyOf (at2 6 2)) := h.def_ (fun _ => rfl) (fun _ => rfl) rfl rfl rfl (by decide +kernel)
noncomputable def q_s_groupby__step : {x : Scope // x = scopeOf (at2 6 3)} := by apply Subtype.mk; apply Eq.symm; conv => lhs; whnf
noncomputable def s_groupby__step : Scope := q_s_groupby__step.1
noncomputable abbrev fd_72 : FuncData := fdO (at2 6 3) "groupby._step" (.none) (.none) (.str ("itertools") 194) 71 3
theorem d_72 (h : Opened c) : DefOk c 72 fd_72 s_groupby__step (bodyOf (at2 6 3)) := h.def_ (fun _ => rfl) (fun _ => rfl) rfl rfl rfl (by decide +kernel)
noncomputable def q_s_groupby___next__ : {x : Scope // x = scopeOf (at2 6 4)} := by apply Subtype.mk; apply Eq.symm; conv => lhs; whnf
noncomputable def s_groupby___next__ : Scope := q_s_groupby___next__.1
noncomputable abbrev fd_79 : FuncData := fdO (at2 6 4) "groupby.__next__" (.none) (.none) (.str ("itertools") 194) 78 3
theorem d_79 (h : Opened c) : DefOk c 79 fd_79 s_groupby___next__ (bodyOf (at2 6 4)) := h.def_ (fun _ => rfl) (fun _ => rfl) rfl rfl rfl (by decide +kernel)
noncomputable def q_s__grouper___init__ : {x : Scope // x = scopeOf (at2 7 1)} := by apply Subtype.mk; apply Eq.symm; conv => lhs; whnf
noncomputable def s__grouper___init__ : Scope := q_s__grouper___init__.1
noncomputable abbrev fd_110 : FuncData := fdO (at2 7 1) "_grouper.__init__" (.none) (.none) (.str ("itertools") 194) 109 3
theorem d_110 (h : Opened c) : DefOk c 110 fd_110 s__grouper___init__ (bodyOf (at2 7 1)) := h.def_ (fun _ => rfl) (fun _ => rfl) rfl rfl rfl (by decide +kernel)
noncomputable def q_s__grouper___iter__ : {x : Scope // x = scopeOf (at2 7 2)} := by apply Subtype.mk; apply Eq.symm; conv => lhs; whnf
noncomputable def s__grouper___iter__ : Scope := q_s__grouper___iter__.1
noncomputable abbrev fd_117 : FuncData := fdO (at2 7 2) "_grouper.__iter__" (.none) (.none) (.str ("itertools") 194) 116 3
theorem d_117 (h : Opened c) : DefOk c 117 fd_117 s__grouper___iter__ (bodyOf (at2 7 2)) := h.def_ (fun _ => rfl) (fun _ => rfl) rfl rfl rfl (by decide +kernel)
noncomputable def q_s__grouper___next__ : {x : Scope // x = scopeOf (at2 7 3)} := by apply Subtype.mk; apply Eq.symm; conv => lhs; whnf
noncomputable def s__grouper___next__ : Scope := q_s__grouper___next__.1
noncomputable abbrev fd_124 : FuncData := fdO (at2 7 3) "_grouper.__next__" (.none) (.none) (.str ("itertools") 194) 123 3
theorem d_124 (h : Opened c) : DefOk c 124 fd_124 s__grouper___next__ (bodyOf (at2 7 3)) := h.def_ (fun _ => rfl) (fun _ => rfl) rfl rfl rfl (by decide +kernel)
noncomputable def q_s__count_kind : {x : Scope // x = scopeOf (at1 8)} := by apply Subtype.mk; apply Eq.symm; conv => lhs; whnf
noncomputable def s__count_kind : Scope := q_s__count_kind.1
noncomputable abbrev fd_140 : FuncData := fdO (at1 8) "_count_kind" (.none) (.none) (.str ("itertools") 194) 139 3
theorem d_140 (h : Opened c) : DefOk c 140 fd_140 s__count_kind (bodyOf (at1 8)) := h.def_ (fun _ => rfl) (fun _ => rfl) rfl rfl rfl (by decide +kernel)
noncomputable def q_s_count___init__ : {x : Scope // x = scopeOf (at2 9 1)} := by apply Subtype.mk; apply Eq.symm; conv => lhs; whnf
noncomputable def s_count___init__ : Scope := q_s_count___init__.1
noncomputable abbrev fd_156 : FuncData := fdO (at2 9 1) "count.__init__" (.ref 149) (.none) (.str ("itertools") 194) 155 3
theorem d_156 (h : Opened c) : DefOk c 156 fd_156 s_count___init__ (bodyOf (at2 9 1)) := h.def_ (fun _ => rfl) (fun _ => rfl) rfl rfl rfl (by decide +kernel)
noncomputable def q_s_count___iter__ : {x : Scope // x = scopeOf (at2 9 2)} := by apply Subtype.mk; apply Eq.symm; conv => lhs; whnf
noncomputable def s_count___iter__ : Scope := q_s_count___iter__.1
noncomputable abbrev fd_163 : FuncData := fdO (at2 9 2) "count.__iter__" (.none) (.none) (.str ("itertools") 194) 162 3
theorem d_163 (h : Opened c) : DefOk c 163 fd_163 s_count___iter__ (bodyOf (at2 9 2)) := h.def_ (fun _ => rfl) (fun _ => rfl) rfl rfl rfl (by decide +kernel)
noncomputable def q_s_count___next__ : {x : Scope // x = scopeOf (at2 9 3)} := by apply Subtype.mk; apply Eq.symm; conv => lhs; whnf
noncomputable def s_count___next__ : Scope := q_s_count___next__.1
noncomputable abbrev fd_170 : FuncData := fdO (at2 9 3) "count.__next__" (.none) (.none) (.str ("itertools") 194) 169 3
theorem d_170 (h : Opened c) : DefOk c 170 fd_170 s_count___next__ (bodyOf (at2 9 3)) := h.def_ (fun _ => rfl) (fun _ => rfl) rfl rfl rfl (by decide +kernel)
noncomputable def q_s_itemgetter___init__ : {x : Scope // x = scopeOf (at2 11 1)} := by apply Subtype.mk; apply Eq.symm; conv => lhs; whnf
noncomputable def s_itemgetter___init__ : Scope := q_s_itemgetter___init__.1
noncomputable abbrev fd_201 : FuncData := fdO (at2 11 1) "itemgetter.__init__" (.none) (.none) (.str ("operator") 439) 200 3
theorem d_201 (h : Opened c) : DefOk c 201 fd_201 s_itemgetter___init__ (bodyOf (at2 11 1)) := h.def_ (fun _ => rfl) (fun _ => rfl) rfl rfl rfl (by decide +kernel)
noncomputable def q_s_itemgetter___call__ : {x : Scope // x = scopeOf (at2 11 2)} := by apply Subtype.mk; apply Eq.symm; conv => lhs; whnf
noncomputable def s_itemgetter___call__ : Scope := q_s_itemgetter___call__.1
noncomputable abbrev fd_208 : FuncData := fdO (at2 11 2) "itemgetter.__call__" (.none) (.none) (.str ("operator") 439) 207 3
theorem d_208 (h : Opened c) : DefOk c 208 fd_208 s_itemgetter___call__ (bodyOf (at2 11 2)) := h.def_ (fun _ => rfl) (fun _ => rfl) rfl rfl rfl (by decide +kernel)
noncomputable def q_s__rank : {x : Scope // x = scopeOf (at1 13)} := by apply Subtype.mk; apply Eq.symm; conv => lhs; whnf
noncomputable def s__rank : Scope := q_s__rank.1
noncomputable abbrev fd_237 : FuncData := fdO (at1 13) "_rank" (.none) (.ref 230) (.str ("cpy313.statistics") 497) 236 3
theorem d_237 (h : Opened c) : DefOk c 237 fd_237 s__rank (bodyOf (at1 13)) := h.def_ (fun _ => rfl) (fun _ => rfl) rfl rfl rfl (by decide +kernel)
noncomputable def q_s__NodeInfo___init__ : {x : Scope // x = scopeOf (at2 17 1)} := by apply Subtype.mk; apply Eq.symm; conv => lhs; whnf
noncomputable def s__NodeInfo___init__ : Scope := q_s__NodeInfo___init__.1
noncomputable abbrev fd_252 : FuncData := fdO (at2 17 1) "_NodeInfo.__init__" (.none) (.none) (.str ("cpy313.graphlib") 526) 251 3
theorem d_252 (h : Opened c) : DefOk c 252 fd_252 s__NodeInfo___init__ (bodyOf (at2 17 1)) := h.def_ (fun _ => rfl) (fun _ => rfl) rfl rfl rfl (by decide +kernel)
noncomputable def q_s_TopologicalSorter___init__ : {x : Scope // x = scopeOf (at2 19 0)} := by apply Subtype.mk; apply Eq.symm; conv => lhs; whnf
noncomputable def s_TopologicalSorter___init__ : Scope := q_s_TopologicalSorter___init__.1
noncomputable abbrev fd_289 : FuncData := fdO (at2 19 0) "TopologicalSorter.__init__" (.ref 282) (.none) (.str ("cpy313.graphlib") 526) 288 3
theorem d_289 (h : Opened c) : DefOk c 289 fd_289 s_TopologicalSorter___init__ (bodyOf (at2 19 0)) := h.def_ (fun _ => rfl) (fun _ => rfl) rfl rfl rfl (by decide +kernel)
noncomputable def q_s_TopologicalSorter__get_nodeinfo : {x : Scope // x = scopeOf (at2 19 1)} := by apply Subtype.mk; apply Eq.symm; conv => lhs; whnf
noncomputable def s_TopologicalSorter__get_nodeinfo : Scope := q_s_TopologicalSorter__get_nodeinfo.1
noncomputable abbrev fd_296 : FuncData := fdO (at2 19 1) "TopologicalSorter._get_nodeinfo" (.none) (.none) (.str ("cpy313.graphlib") 526) 295 3
theorem d_296 (h : Opened c) : DefOk c 296 fd_296 s_TopologicalSorter__get_nodeinfo (bodyOf (at2 19 1)) := h.def_ (fun _ => rfl) (fun _ => rfl) rfl rfl rfl (by decide +kernel)
noncomputable def q_s_TopologicalSorter_add : {x : Scope // x = scopeOf (at2 19 2)} := by apply Subtype.mk; apply Eq.symm; conv => lhs; whnf
noncomputable def s_TopologicalSorter_add : Scope := q_s_TopologicalSorter_add.1
noncomputable abbrev fd_303 : FuncData := fdO (at2 19 2) "TopologicalSorter.add" (.none) (.none) (.str ("cpy313.graphlib") 526) 302 3
theorem d_303 (h : Opened c) : DefOk c 303 fd_303 s_TopologicalSorter_add (bodyOf (at2 19 2)) := h.def_ (fun _ => rfl) (fun _ => rfl) rfl rfl rfl (by decide +kernel)
noncomputable def q_s_TopologicalSorter_prepare : {x : Scope // x = scopeOf (at2 19 3)} := by apply Subtype.mk; apply Eq.symm; conv => lhs; whnf
noncomputable def s_TopologicalSorter_prepare : Scope := q_s_TopologicalSorter_prepare.1
noncomputable abbrev fd_308 : FuncData := fdO (at2 19 3) "TopologicalSorter.prepare" (.none) (.none) (.str ("cpy313.graphlib") 526) 307 3
theorem d_308 (h : Opened c) : DefOk c 308 fd_308 s_TopologicalSorter_prepare (bodyOf (at2 19 3)) := h.def_ (fun _ => rfl) (fun _ => rfl) rfl rfl rfl (by decide +kernel)
noncomputable def q_s_TopologicalSorter_get_ready : {x : Scope // x = scopeOf (at2 19 4)} := by apply Subtype.mk; apply Eq.symm; conv => lhs; whnf
noncomputable def s_TopologicalSorter_get_ready : Scope := q_s_TopologicalSorter_get_ready.1
noncomputable abbrev fd_315 : FuncData := fdO (at2 19 4) "TopologicalSorter.get_ready" (.none) (.none) (.str ("cpy313.graphlib") 526) 314 3
theorem d_315 (h : Opened c) : DefOk c 315 fd_315 s_TopologicalSorter_get_ready (bodyOf (at2 19 4)) := h.def_ (fun _ => rfl) (fun _ => rfl) rfl rfl rfl (by decide +kernel)
noncomputable def q_s_TopologicalSorter_is_active : {x : Scope // x = scopeOf (at2 19 5)} := by apply Subtype.mk; apply Eq.symm; conv => lhs; whnf
noncomputable def s_TopologicalSorter_is_active : Scope := q_s_TopologicalSorter_is_active.1
noncomputable abbrev fd_322 : FuncData := fdO (at2 19 5) "TopologicalSorter.is_active" (.none) (.none) (.str ("cpy313.graphlib") 526) 321 3
theorem d_322 (h : Opened c) : DefOk c 322 fd_322 s_TopologicalSorter_is_active (bodyOf (at2 19 5)) := h.def_ (fun _ => rfl) (fun _ => rfl) rfl rfl rfl (by decide +kernel)
noncomputable def q_s_TopologicalSorter_done : {x : Scope // x = scopeOf (at2 19 7)} := by apply Subtype.mk; apply Eq.symm; conv => lhs; whnf
noncomputable def s_TopologicalSorter_done : Scope := q_s_TopologicalSorter_done.1
noncomputable abbrev fd_336 : FuncData := fdO (at2 19 7) "TopologicalSorter.done" (.none) (.none) (.str ("cpy313.graphlib") 526) 335 3
theorem d_336 (h : Opened c) : DefOk c 336 fd_336 s_TopologicalSorter_done (bodyOf (at2 19 7)) := h.def_ (fun _ => rfl) (fun _ => rfl) rfl rfl rfl (by decide +kernel)
noncomputable def q_s_TopologicalSorter__find_cycle : {x : Scope // x = scopeOf (at2 19 8)} := by apply Subtype.mk; apply Eq.symm; conv => lhs; whnf
noncomputable def s_TopologicalSorter__find_cycle : Scope := q_s_TopologicalSorter__find_cycle.1
noncomputable abbrev fd_343 : FuncData := fdO (at2 19 8) "TopologicalSorter._find_cycle" (.none) (.none) (.str ("cpy313.graphlib") 526) 342 3
theorem d_343 (h : Opened c) : DefOk c 343 fd_343 s_TopologicalSorter__find_cycle (bodyOf (at2 19 8)) := h.def_ (fun _ => rfl) (fun _ => rfl) rfl rfl rfl (by decide +kernel)
noncomputable def q_s__law_marks : {x : Scope // x = scopeOf (at1 21)} := by apply Subtype.mk; apply Eq.symm; conv => lhs; whnf
noncomputable def s__law_marks : Scope := q_s__law_marks.1
noncomputable abbrev fd_362 : FuncData := fdO (at1 21) "_law_marks" (.none) (.none) (.str ("law_ij0181_01") 708) 361 3
theorem d_362 (h : Opened c) : DefOk c 362 fd_362 s__law_marks (bodyOf (at1 21)) := h.def_ (fun _ => rfl) (fun _ => rfl) rfl rfl rfl (by decide +kernel)
noncomputable def q_s__law_twice : {x : Scope // x = scopeOf (at1 22)} := by apply Subtype.mk; apply Eq.symm; conv => lhs; whnf
noncomputable def s__law_twice : Scope := q_s__law_twice.1
noncomputable abbrev fd_367 : FuncData := fdO (at1 22) "_law_twice" (.none) (.none) (.str ("law_ij0181_01") 708) 366 3
theorem d_367 (h : Opened c) : DefOk c 367 fd_367 s__law_twice (bodyOf (at1 22)) := h.def_ (fun _ => rfl) (fun _ => rfl) rfl rfl rfl (by decide +kernel)
noncomputable def q_s__law_some : {x : Scope // x = scopeOf (at1 23)} := by apply Subtype.mk; apply Eq.symm; conv => lhs; whnf
noncomputable def s__law_some : Scope := q_s__law_some.1
noncomputable abbrev fd_372 : FuncData := fdO (at1 23) "_law_some" (.none) (.none) (.str ("law_ij0181_01") 708) 371 3
theorem d_372 (h : Opened c) : DefOk c 372 fd_372 s__law_some (bodyOf (at1 23)) := h.def_ (fun _ => rfl) (fun _ => rfl) rfl rfl rfl (by decide +kernel)
noncomputable def q_s__law_all : {x : Scope // x = scopeOf (at1 24)} := by apply Subtype.mk; apply Eq.symm; conv => lhs; whnf
noncomputable def s__law_all : Scope := q_s__law_all.1
noncomputable abbrev fd_377 : FuncData := fdO (at1 24) "_law_all" (.none) (.none) (.str ("law_ij0181_01") 708) 376 3
theorem d_377 (h : Opened c) : DefOk c 377 fd_377 s__law_all (bodyOf (at1 24)) := h.def_ (fun _ => rfl) (fun _ => rfl) rfl rfl rfl (by decide +kernel)
noncomputable def q_s__law_rounds : {x : Scope // x = scopeOf (at1 25)} := by apply Subtype.mk; apply Eq.symm; conv => lhs; whnf
noncomputable def s__law_rounds : Scope := q_s__law_rounds.1
noncomputable abbrev fd_384 : FuncData := fdO (at1 25) "_law_rounds" (.none) (.none) (.str ("law_ij0181_01") 708) 383 3
theorem d_384 (h : Opened c) : DefOk c 384 fd_384 s__law_rounds (bodyOf (at1 25)) := h.def_ (fun _ => rfl) (fun _ => rfl) rfl rfl rfl (by decide +kernel)
noncomputable def q_s__law_plain : {x : Scope // x = scopeOf (at1 26)} := by apply Subtype.mk; apply Eq.symm; conv => lhs; whnf
noncomputable def s__law_plain : Scope := q_s__law_plain.1
noncomputable abbrev fd_389 : FuncData := fdO (at1 26) "_law_plain" (.none) (.none) (.str ("law_ij0181_01") 708) 388 3
theorem d_389 (h : Opened c) : DefOk c 389 fd_389 s__law_plain (bodyOf (at1 26)) := h.def_ (fun _ => rfl) (fun _ => rfl) rfl rfl rfl (by decide +kernel)
noncomputable def q_s__law_by_rounds : {x : Scope // x = scopeOf (at1 27)} := by apply Subtype.mk; apply Eq.symm; conv => lhs; whnf
noncomputable def s__law_by_rounds : Scope := q_s__law_by_rounds.1
noncomputable abbrev fd_396 : FuncData := fdO (at1 27) "_law_by_rounds" (.none) (.none) (.str ("law_ij0181_01") 708) 395 3
theorem d_396 (h : Opened c) : DefOk c 396 fd_396 s__law_by_rounds (bodyOf (at1 27)) := h.def_ (fun _ => rfl) (fun _ => rfl) rfl rfl rfl (by decide +kernel)
noncomputable def q_s_law : {x : Scope // x = scopeOf (at1 28)} := by apply Subtype.mk; apply Eq.symm; conv => lhs; whnf
noncomputable def s_law : Scope := q_s_law.1
end
section
variable {c : Cx} (h : Opened c)
include h
theorem me_58 : MethF c.K 83 ("__init__" : Str) 58 := by rw [h.hK]; exact ⟨rfl, rfl, rfl⟩
theorem me_65 : MethF c.K 83 ("__iter__" : Str) 65 := by rw [h.hK]; exact ⟨rfl, rfl, rfl⟩
theorem me_72 : MethF c.K 83 ("_step" : Str) 72 := by rw [h.hK]; exact ⟨rfl, rfl, rfl⟩
theorem me_79 : MethF c.K 83 ("__next__" : Str) 79 := by rw [h.hK]; exact ⟨rfl, rfl, rfl⟩
theorem me_110 : MethF c.K 128 ("__init__" : Str) 110 := by rw [h.hK]; exact ⟨rfl, rfl, rfl⟩
theorem me_117 : MethF c.K 128 ("__iter__" : Str) 117 := by rw [h.hK]; exact ⟨rfl, rfl, rfl⟩
theorem me_124 : MethF c.K 128 ("__next__" : Str) 124 := by rw [h.hK]; exact ⟨rfl, rfl, rfl⟩
theorem me_156 : MethF c.K 181 ("__init__" : Str) 156 := by rw [h.hK]; exact ⟨rfl, rfl, rfl⟩
theorem me_163 : MethF c.K 181 ("__iter__" : Str) 163 := by rw [h.hK]; exact ⟨rfl, rfl, rfl⟩
theorem me_170 : MethF c.K 181 ("__next__" : Str) 170 := by rw [h.hK]; exact ⟨rfl, rfl, rfl⟩
theorem me_201 : MethF c.K 226 ("__init__" : Str) 201 := by rw [h.hK]; exact ⟨rfl, rfl, rfl⟩
theorem me_208 : MethF c.K 226 ("__call__" : Str) 208 := by rw [h.hK]; exact ⟨rfl, rfl, rfl⟩
theorem me_252 : MethF c.K 256 ("__init__" : Str) 252 := by rw [h.hK]; exact ⟨rfl, rfl, rfl⟩
theorem me_289 : MethF c.K 353 ("__init__" : Str) 289 := by rw [h.hK]; exact ⟨rfl, rfl, rfl⟩
theorem me_296 : MethF c.K 353 ("_get_nodeinfo" : Str) 296 := by rw [h.hK]; exact ⟨rfl, rfl, rfl⟩
theorem me_303 : MethF c.K 353 ("add" : Str) 303 := by rw [h.hK]; exact ⟨rfl, rfl, rfl⟩
theorem me_308 : MethF c.K 353 ("prepare" : Str) 308 := by rw [h.hK]; exact ⟨rfl, rfl, rfl⟩
theorem me_315 : MethF c.K 353 ("get_ready" : Str) 315 := by rw [h.hK]; exact ⟨rfl, rfl, rfl⟩
theorem me_322 : MethF c.K 353 ("is_active" : Str) 322 := by rw [h.hK]; exact ⟨rfl, rfl, rfl⟩
theorem me_336 : MethF c.K 353 ("done" : Str) 336 := by rw [h.hK]; exact ⟨rfl, rfl, rfl⟩
theorem me_343 : MethF c.K 353 ("_find_cycle" : Str) 343 := by rw [h.hK]; exact ⟨rfl, rfl, rfl⟩
theorem sl_83_9 : SlotF c.K 83 ("_tgtkey" : Str) 9 93 := by rw [h.hK]; exact ⟨rfl, rfl, rfl, rfl, rfl, rfl, rfl, rfl, rfl, rfl, by decide⟩
theorem sl_83_8 : SlotF c.K 83 ("_serial" : Str) 8 92 := by rw [h.hK]; exact ⟨rfl, rfl, rfl, rfl, rfl, rfl, rfl, rfl, rfl, rfl, by decide⟩
theorem sl_83_7 : SlotF c.K 83 ("_keyfunc" : Str) 7 91 := by rw [h.hK]; exact ⟨rfl, rfl, rfl, rfl, rfl, rfl, rfl, rfl, rfl, rfl, by decide⟩
theorem sl_83_6 : SlotF c.K 83 ("_it" : Str) 6 90 := by rw [h.hK]; exact ⟨rfl, rfl, rfl, rfl, rfl, rfl, rfl, rfl, rfl, rfl, by decide⟩
theorem sl_83_5 : SlotF c.K 83 ("_has_tgtkey" : Str) 5 89 := by rw [h.hK]; exact ⟨rfl, rfl, rfl, rfl, rfl, rfl, rfl, rfl, rfl, rfl, by decide⟩
theorem sl_83_4 : SlotF c.K 83 ("_has_currvalue" : Str) 4 88 := by rw [h.hK]; exact ⟨rfl, rfl, rfl, rfl, rfl, rfl, rfl, rfl, rfl, rfl, by decide⟩
theorem sl_83_3 : SlotF c.K 83 ("_has_currkey" : Str) 3 87 := by rw [h.hK]; exact ⟨rfl, rfl, rfl, rfl, rfl, rfl, rfl, rfl, rfl, rfl, by decide⟩
theorem sl_83_2 : SlotF c.K 83 ("_currvalue" : Str) 2 86 := by rw [h.hK]; exact ⟨rfl, rfl, rfl, rfl, rfl, rfl, rfl, rfl, rfl, rfl, by decide⟩
theorem sl_83_1 : SlotF c.K 83 ("_currkey" : Str) 1 85 := by rw [h.hK]; exact ⟨rfl, rfl, rfl, rfl, rfl, rfl, rfl, rfl, rfl, rfl, by decide⟩
theorem sl_83_0 : SlotF c.K 83 ("_currgrouper" : Str) 0 84 := by rw [h.hK]; exact ⟨rfl, rfl, rfl, rfl, rfl, rfl, rfl, rfl, rfl, rfl, by decide⟩
theorem sl_128_2 : SlotF c.K 128 ("_tgtkey" : Str) 2 131 := by rw [h.hK]; exact ⟨rfl, rfl, rfl, rfl, rfl, rfl, rfl, rfl, rfl, rfl, by decide⟩
theorem sl_128_1 : SlotF c.K 128 ("_parent" : Str) 1 130 := by rw [h.hK]; exact ⟨rfl, rfl, rfl, rfl, rfl, rfl, rfl, rfl, rfl, rfl, by decide⟩
theorem sl_128_0 : SlotF c.K 128 ("_number" : Str) 0 129 := by rw [h.hK]; exact ⟨rfl, rfl, rfl, rfl, rfl, rfl, rfl, rfl, rfl, rfl, by decide⟩
theorem sl_181_2 : SlotF c.K 181 ("_step" : Str) 2 184 := by rw [h.hK]; exact ⟨rfl, rfl, rfl, rfl, rfl, rfl, rfl, rfl, rfl, rfl, by decide⟩
theorem sl_181_1 : SlotF c.K 181 ("_fast" : Str) 1 183 := by rw [h.hK]; exact ⟨rfl, rfl, rfl, rfl, rfl, rfl, rfl, rfl, rfl, rfl, by decide⟩
theorem sl_181_0 : SlotF c.K 181 ("_cnt" : Str) 0 182 := by rw [h.hK]; exact ⟨rfl, rfl, rfl, rfl, rfl, rfl, rfl, rfl, rfl, rfl, by decide⟩
theorem sl_226_0 : SlotF c.K 226 ("_items" : Str) 0 227 := by rw [h.hK]; exact ⟨rfl, rfl, rfl, rfl, rfl, rfl, rfl, rfl, rfl, rfl, by decide⟩
theorem sl_256_2 : SlotF c.K 256 ("successors" : Str) 2 259 := by rw [h.hK]; exact ⟨rfl, rfl, rfl, rfl, rfl, rfl, rfl, rfl, rfl, rfl, by decide⟩
theorem sl_256_1 : SlotF c.K 256 ("npredecessors" : Str) 1 258 := by rw [h.hK]; exact ⟨rfl, rfl, rfl, rfl, rfl, rfl, rfl, rfl, rfl, rfl, by decide⟩
theorem sl_256_0 : SlotF c.K 256 ("node" : Str) 0 257 := by rw [h.hK]; exact ⟨rfl, rfl, rfl, rfl, rfl, rfl, rfl, rfl, rfl, rfl, by decide⟩
theorem fl_node2info : FldF c.K 353 ("_node2info" : Str) := by rw [h.hK]; exact ⟨rfl, rfl, rfl, rfl, rfl⟩
theorem fl_ready_nodes : FldF c.K 353 ("_ready_nodes" : Str) := by rw [h.hK]; exact ⟨rfl, rfl, rfl, rfl, rfl⟩
theorem fl_npassedout : FldF c.K 353 ("_npassedout" : Str) := by rw [h.hK]; exact ⟨rfl, rfl, rfl, rfl, rfl⟩
theorem fl_nfinished : FldF c.K 353 ("_nfinished" : Str) := by rw [h.hK]; exact ⟨rfl, rfl, rfl, rfl, rfl⟩
theorem ow_83 : OwnIt c 83 65 79 := ⟨me_65 h, me_79 h, by rw [h.hK]; rfl, by rw [h.hK]; rfl⟩
theorem ow_128 : OwnIt c 128 117 124 := ⟨me_117 h, me_124 h, by rw [h.hK]; rfl, by rw [h.hK]; rfl⟩
theorem ow_181 : OwnIt c 181 163 170 := ⟨me_163 h, me_170 h, by rw [h.hK]; rfl, by rw [h.hK]; rfl⟩
theorem mk_83 : ClsMk c 83 58 := ⟨by rw [h.hK]; rfl, by rw [h.hK]; rfl, by rw [h.hK]; rfl⟩
theorem mk_128 : ClsMk c 128 110 := ⟨by rw [h.hK]; rfl, by rw [h.hK]; rfl, by rw [h.hK]; rfl⟩
theorem mk_181 : ClsMk c 181 156 := ⟨by rw [h.hK]; rfl, by rw [h.hK]; rfl, by rw [h.hK]; rfl⟩
theorem mk_226 : ClsMk c 226 201 := ⟨by rw [h.hK]; rfl, by rw [h.hK]; rfl, by rw [h.hK]; rfl⟩
theorem mk_256 : ClsMk c 256 252 := ⟨by rw [h.hK]; rfl, by rw [h.hK]; rfl, by rw [h.hK]; rfl⟩
theorem mk_353 : ClsMk c 353 289 := ⟨by rw [h.hK]; rfl, by rw [h.hK]; rfl, by rw [h.hK]; rfl⟩
theorem bn_303 : BndF c.K 353 ("add" : Str) 303 := by rw [h.hK]; exact ⟨rfl, rfl, rfl, by decide +kernel, rfl⟩
theorem bn_336 : BndF c.K 353 ("done" : Str) 336 := by rw [h.hK]; exact ⟨rfl, rfl, rfl, by decide +kernel, rfl⟩
theorem kn_35 : keepIn c.K (.ref 35) = true := by rw [h.hK]; rfl
theorem kn_42 : keepIn c.K (.ref 42) = true := by rw [h.hK]; rfl
theorem kn_72 : keepIn c.K (.ref 72) = true := by rw [h.hK]; rfl
theorem kn_83 : keepIn c.K (.ref 83) = true := by rw [h.hK]; rfl
theorem kn_128 : keepIn c.K (.ref 128) = true := by rw [h.hK]; rfl
theorem kn_140 : keepIn c.K (.ref 140) = true := by rw [h.hK]; rfl
theorem kn_181 : keepIn c.K (.ref 181) = true := by rw [h.hK]; rfl
theorem kn_208 : keepIn c.K (.ref 208) = true := by rw [h.hK]; rfl
theorem kn_226 : keepIn c.K (.ref 226) = true := by rw [h.hK]; rfl
theorem kn_237 : keepIn c.K (.ref 237) = true := by rw [h.hK]; rfl
theorem kn_256 : keepIn c.K (.ref 256) = true := by rw [h.hK]; rfl
theorem kn_296 : keepIn c.K (.ref 296) = true := by rw [h.hK]; rfl
theorem kn_303 : keepIn c.K (.ref 303) = true := by rw [h.hK]; rfl
theorem kn_308 : keepIn c.K (.ref 308) = true := by rw [h.hK]; rfl
theorem kn_315 : keepIn c.K (.ref 315) = true := by rw [h.hK]; rfl
theorem kn_322 : keepIn c.K (.ref 322) = true := by rw [h.hK]; rfl
theorem kn_336 : keepIn c.K (.ref 336) = true := by rw [h.hK]; rfl
theorem kn_343 : keepIn c.K (.ref 343) = true := by rw [h.hK]; rfl
theorem kn_353 : keepIn c.K (.ref 353) = true := by rw [h.hK]; rfl
theorem kn_362 : keepIn c.K (.ref 362) = true := by rw [h.hK]; rfl
theorem kn_367 : keepIn c.K (.ref 367) = true := by rw [h.hK]; rfl
theorem kn_372 : keepIn c.K (.ref 372) = true := by rw [h.hK]; rfl
theorem kn_377 : keepIn c.K (.ref 377) = true := by rw [h.hK]; rfl
theorem kn_384 : keepIn c.K (.ref 384) = true := by rw [h.hK]; rfl
theorem kn_389 : keepIn c.K (.ref 389) = true := by rw [h.hK]; rfl
theorem kn_396 : keepIn c.K (.ref 396) = true := by rw [h.hK]; rfl
theorem fn_208 : fnIn c.K 208 = true := by rw [h.hK]; rfl
theorem gl__pull : GlobAt c ("_pull" : Str) (.ref 35) := h.own_g fun _ => rfl
theorem gl__same : GlobAt c ("_same" : Str) (.ref 42) := h.own_g fun _ => rfl
theorem gl_groupby : GlobAt c ("groupby" : Str) (.ref 83) := h.own_g fun _ => rfl
theorem gl__grouper : GlobAt c ("_grouper" : Str) (.ref 128) := h.own_g fun _ => rfl
theorem gl__count_kind : GlobAt c ("_count_kind" : Str) (.ref 140) := h.own_g fun _ => rfl
theorem gl_count : GlobAt c ("count" : Str) (.ref 181) := h.own_g fun _ => rfl
theorem gl_itemgetter : GlobAt c ("itemgetter" : Str) (.ref 226) := h.own_g fun _ => rfl
theorem gl__rank : GlobAt c ("_rank" : Str) (.ref 237) := h.own_g fun _ => rfl
theorem gl__NodeInfo : GlobAt c ("_NodeInfo" : Str) (.ref 256) := h.own_g fun _ => rfl
theorem gl_CycleError : GlobAt c ("CycleError" : Str) (.ref 271) := h.own_g fun _ => rfl
theorem gl_TopologicalSorter : GlobAt c ("TopologicalSorter" : Str) (.ref 353) := h.own_g fun _ => rfl
theorem gl__law_marks : GlobAt c ("_law_marks" : Str) (.ref 362) := h.own_g fun _ => rfl
theorem gl__law_twice : GlobAt c ("_law_twice" : Str) (.ref 367) := h.own_g fun _ => rfl
theorem gl__law_some : GlobAt c ("_law_some" : Str) (.ref 372) := h.own_g fun _ => rfl
theorem gl__law_all : GlobAt c ("_law_all" : Str) (.ref 377) := h.own_g fun _ => rfl
theorem gl__law_rounds : GlobAt c ("_law_rounds" : Str) (.ref 384) := h.own_g fun _ => rfl
theorem gl__law_plain : GlobAt c ("_law_plain" : Str) (.ref 389) := h.own_g fun _ => rfl
theorem gl__law_by_rounds : GlobAt c ("_law_by_rounds" : Str) (.ref 396) := h.own_g fun _ => rfl
theorem gl_StopIteration : GlobAt c ("StopIteration" : Str) (.type "StopIteration") := h.blt_g (fun _ => rfl) (by decide +kernel) rfl
theorem gl_len : GlobAt c ("len" : Str) (.builtin "len") := h.blt_g (fun _ => rfl) (by decide +kernel) rfl
theorem gl_sorted : GlobAt c ("sorted" : Str) (.builtin "sorted") := h.blt_g (fun _ => rfl) (by decide +kernel) rfl
theorem gl_sum : GlobAt c ("sum" : Str) (.builtin "sum") := h.blt_g (fun _ => rfl) (by decide +kernel) rfl
theorem gl_iter : GlobAt c ("iter" : Str) (.builtin "iter") := h.blt_g (fun _ => rfl) (by decide +kernel) rfl
theorem gl_next : GlobAt c ("next" : Str) (.builtin "next") := h.blt_g (fun _ => rfl) (by decide +kernel) rfl
theorem gl_abs : GlobAt c ("abs" : Str) (.builtin "abs") := h.blt_g (fun _ => rfl) (by decide +kernel) rfl
theorem gl_range : GlobAt c ("range" : Str) (.type "range") := h.blt_g (fun _ => rfl) (by decide +kernel) rfl
theorem gl_list : GlobAt c ("list" : Str) (.type "list") := h.blt_g (fun _ => rfl) (by decide +kernel) rfl
theorem gl_tuple : GlobAt c ("tuple" : Str) (.type "tuple") := h.blt_g (fun _ => rfl) (by decide +kernel) rfl
theorem gl_bool : GlobAt c ("bool" : Str) (.type "bool") := h.blt_g (fun _ => rfl) (by decide +kernel) rfl
theorem gl_set : GlobAt c ("set" : Str) (.type "set") := h.blt_g (fun _ => rfl) (by decide +kernel) rfl
theorem gl_type : GlobAt c ("type" : Str) (.type "type") := h.blt_g (fun _ => rfl) (by decide +kernel) rfl
theorem gl_zip : GlobAt c ("zip" : Str) (.type "zip") := h.blt_g (fun _ => rfl) (by decide +kernel) rfl
theorem gl_int : GlobAt c ("int" : Str) (.type "int") := h.blt_g (fun _ => rfl) (by decide +kernel) rfl
theorem gl_float : GlobAt c ("float" : Str) (.type "float") := h.blt_g (fun _ => rfl) (by decide +kernel) rfl
theorem gl_enumerate : GlobAt c ("enumerate" : Str) (.type "enumerate") := h.blt_g (fun _ => rfl) (by decide +kernel) rfl
theorem gl__NODE_OUT : ∃ t, GlobAt c ("_NODE_OUT" : Str) (.int (-1) t) := ⟨_, h.own_g fun _ => rfl⟩
theorem gl__NODE_DONE : ∃ t, GlobAt c ("_NODE_DONE" : Str) (.int (-2) t) := ⟨_, h.own_g fun _ => rfl⟩
theorem gl__MAXSIZE : ∃ t, GlobAt c ("_MAXSIZE" : Str) (.int 9223372036854775807 t) := ⟨_, h.own_g fun _ => rfl⟩
end
section
variable {K : Kx} (h : Opened K.c) {x y z v w : V}
include h
theorem bd_35 : BD K fd_35 [x] [] [(("it" : Str), x)] := bd1 (fun _ S => by rw [h.hK]; rfl)
theorem bd_42 : BD K fd_42 [x, y] [] [(("a" : Str), x), (("b" : Str), y)] := bd2 (fun _ _ S => by rw [h.hK]; rfl)
theorem bd_65 : BD K fd_65 [x] [] [(("self" : Str), x)] := bd1 (fun _ S => by rw [h.hK]; rfl)
theorem bd_72 : BD K fd_72 [x] [] [(("self" : Str), x)] := bd1 (fun _ S => by rw [h.hK]; rfl)
theorem bd_79 : BD K fd_79 [x] [] [(("self" : Str), x)] := bd1 (fun _ S => by rw [h.hK]; rfl)
theorem bd_110 : BD K fd_110 [x, y, z] [] [(("self" : Str), x), (("parent" : Str), y), (("tgtkey" : Str), z)] := bd3 (fun _ _ _ S => by rw [h.hK]; rfl)
theorem bd_117 : BD K fd_117 [x] [] [(("self" : Str), x)] := bd1 (fun _ S => by rw [h.hK]; rfl)
theorem bd_124 : BD K fd_124 [x] [] [(("self" : Str), x)] := bd1 (fun _ S => by rw [h.hK]; rfl)
theorem bd_140 : BD K fd_140 [x] [] [(("x" : Str), x)] := bd1 (fun _ S => by rw [h.hK]; rfl)
theorem bd_163 : BD K fd_163 [x] [] [(("self" : Str), x)] := bd1 (fun _ S => by rw [h.hK]; rfl)
theorem bd_170 : BD K fd_170 [x] [] [(("self" : Str), x)] := bd1 (fun _ S => by rw [h.hK]; rfl)
theorem bd_208 : BD K fd_208 [x, y] [] [(("self" : Str), x), (("obj" : Str), y)] := bd2 (fun _ _ S => by rw [h.hK]; rfl)
theorem bd_252 : BD K fd_252 [x, y] [] [(("self" : Str), x), (("node" : Str), y)] := bd2 (fun _ _ S => by rw [h.hK]; rfl)
theorem bd_296 : BD K fd_296 [x, y] [] [(("self" : Str), x), (("node" : Str), y)] := bd2 (fun _ _ S => by rw [h.hK]; rfl)
theorem bd_308 : BD K fd_308 [x] [] [(("self" : Str), x)] := bd1 (fun _ S => by rw [h.hK]; rfl)
theorem bd_315 : BD K fd_315 [x] [] [(("self" : Str), x)] := bd1 (fun _ S => by rw [h.hK]; rfl)
theorem bd_322 : BD K fd_322 [x] [] [(("self" : Str), x)] := bd1 (fun _ S => by rw [h.hK]; rfl)
theorem bd_343 : BD K fd_343 [x] [] [(("self" : Str), x)] := bd1 (fun _ S => by rw [h.hK]; rfl)
theorem bd_362 : BD K fd_362 [x] [] [(("script" : Str), x)] := bd1 (fun _ S => by rw [h.hK]; rfl)
theorem bd_367 : BD K fd_367 [x] [] [(("row" : Str), x)] := bd1 (fun _ S => by rw [h.hK]; rfl)
theorem bd_372 : BD K fd_372 [x] [] [(("rows" : Str), x)] := bd1 (fun _ S => by rw [h.hK]; rfl)
theorem bd_377 : BD K fd_377 [x] [] [(("rows" : Str), x)] := bd1 (fun _ S => by rw [h.hK]; rfl)
theorem bd_384 : BD K fd_384 [x] [] [(("needs" : Str), x)] := bd1 (fun _ S => by rw [h.hK]; rfl)
theorem bd_389 : BD K fd_389 [x] [] [(("needs" : Str), x)] := bd1 (fun _ S => by rw [h.hK]; rfl)
theorem bd_396 : BD K fd_396 [x] [] [(("rounds" : Str), x)] := bd1 (fun _ S => by rw [h.hK]; rfl)
theorem bd_58 : BD K fd_58 [x, y] [(("key" : Str), z)] [(("self" : Str), x), (("iterable" : Str), y), (("key" : Str), z)] := bd2k (fun _ _ _ S => by rw [h.hK]; rfl)
end
end Mine
end
section
set_option maxHeartbeats 4000000
namespace Mine
open PySem PySem.W PyProof.Rows PySem.SeqAt
noncomputable def G0 (base : Heap) : Gh := { kt := fun _ => none, fz := fun _ => none, own := fun a => if (base.get? a).isSome then some .base else none }
section
variable {c : Cx} {s : Shared}
theorem Rel.start (h1 : s.heap = c.base) (h2 : s.gens = c.gens) (h3 : s.drawn = c.drawn) (h4 : s.os = c.os) (h5 : 0 < s.toks) : Rel c (G0 c.base) [] [] s where
 keep := fun b o e => by rw [h1]; exact e
 baseOwn := fun b o e => by show (if _ then _ else _) = _; rw [e]; rfl
 fzc := fun a k e => by cases e
 stc := fun a i e => by
  have e' : (if (c.base.get? a).isSome then some Own.base else none) = some (.st i) := e
  split at e' <;> cases e'
 inj := fun a a' i e => by
  have e' : (if (c.base.get? a).isSome then some Own.base else none) = some (.st i) := e
  split at e' <;> cases e'
 live := fun a k e => by
  have e' : (if (c.base.get? a).isSome then some Own.base else none) = some k := e
  split at e'
  ·rename_i q
   obtain ⟨o, ho⟩ := Option.isSome_iff_exists.mp q
   exact ⟨o, by rw [h1]; exact ho⟩
  ·cases e'
 xsc := fun e he => by cases he
 nd := List.nodup_nil
 tok := fun t k e => by cases e
 pos := h5
 gens := h2
 drawn := h3
 os := h4
noncomputable def LawOk (c : Cx) (l : Addr) : Prop := ∀ F', FnFm F' → SS ⟨c, 25, true, F', s_law⟩ (bodyOf (at1 28)) ⟨bindsR [(("script" : Str), .glob (.ref l))] fun _ => none, []⟩ (fun f _ => f = .ret (.bool true)) no
theorem run_law (h : Opened c) {fa : Addr} {o : Obj} {fd : FuncData} (ho : c.base.get? fa = some o) (hd : o.data = .func fd) (hsc : fd.scope = s_law) (hbody : fd.body = .stmts (bodyOf (at1 28))) (hglb : fd.globals = mainGlobals) (hblt : fd.builtins = builtinsNs) (hclo : fd.closure = [])
  (hcode : c.base.CodeRec fd.code fd.qualname) {l : Addr} (hbind : ∀ (A : Around) (E : Value → Shared → Prop) (Q : List (Str × Value) → Shared → Prop), Q [(("script" : Str), .ref l)] s → wpAny c.M A (bindArgs fd ⟨[.ref l], []⟩) Q E s)
  (h1 : s.heap = c.base) (h2 : s.gens = c.gens) (h3 : s.drawn = c.drawn) (h4 : s.os = c.os) {A : Around} (a1 : A.frames = some []) (a2 : A.guards = some []) (a3 : A.depth ≤ 310) (a4 : A.units ≤ 100) (a5 : A.handled = none)
  (hlaw : LawOk c l) {R : Result → Shared → Prop}
  (hR : ∀ s', (∀ b o, c.base.get? b = some o → s'.heap.get? b = some o) → s'.gens = c.gens → s'.os = c.os → R (.ok (.ret (.bool true))) s') : codeAny c.M A (.call (.ref fa) ⟨[.ref l], []⟩) R s := by
 have hS : ScOk s_law := .of (by decide +kernel)
 refine codeAny_call_function (Nat.lt_of_le_of_lt a3 (by decide)) (by rw [h1]; exact ho) hd (by rw [hsc]; exact hS.co) (by rw [hsc]; exact hS.gen) hbody (by rw [h1]; exact hcode) (hbind _ _ _ ?_)
 rw [hsc, hglb, hclo, hblt]
 refine wpAny_newDefEnv ?_
 have R0 : Rel c (G0 c.base) [] [] { s with toks := s.toks + 1 } := Rel.start h1 h2 h3 h4 (Nat.succ_pos _)
 have R1 := R0.addX (a := s.heap.objs.size) (P := NsP fun _ => none) (h' := s.heap.push { cls := .type "frame", data := .dict #[] }) (tk := s.toks + 1) (get_size _) (keep_push _ _) (of_ns (Heap.Ns.new s.heap (.type "frame"))) (Nat.le_refl _)
 have R2 := rel_cells s_law.names R1
 dsimp only at R2
 rw [show (s.heap.push { cls := .type "frame", data := .dict #[] }).objs.size = s.heap.objs.size + 1 from Heap.size_push ..] at R2
 have hbase : c.base.objs.size ≤ s.heap.objs.size := by rw [h1]; exact Nat.le_refl _
 generalize hL : s.heap.objs.size = L at R2 hbase ⊢
 generalize hH : pushCells (s.heap.push { cls := .type "frame", data := .dict #[] }) s_law.names = H at R2 ⊢
 generalize hf1 : defFm s_law L (fd.qualname ++ ".<locals>.") (some fa) fd.code [] [] = F₁
 have henv : F₁.env = newEnv s_law L mainGlobals (cellsFrom (L + 1) s_law.names []) (fd.qualname ++ ".<locals>.") (some fa) fd.code none builtinsNs := hf1 ▸ rfl
 rw [← henv]
 have hmem : (L, NsP fun _ => none) ∈ (cellXs (cellsFrom (L + 1) s_law.names []) ++ (L, NsP fun _ => none) :: []) := List.mem_append_right _ List.mem_cons_self
 have hNs : H.Ns L fun _ => none := ns_of (R2.xsc _ hmem).2
 have hloc : F₁.env.locals = L := henv ▸ rfl
 rw [List.forIn_cons]
 refine wpAny_bind (wpAny_bind (wpAny_storeName_local (env := F₁.env) (by rw [henv]; show s_law.names.lookup ("script" : Str) = some .local; decide +kernel) (hloc.symm ▸ hNs) (fun h' hn hs => wpAny_pure ?_) (by rw [henv]; rfl)))
 rw [hloc] at hn hs
 dsimp only
 rw [List.forIn_nil]
 refine wpAny_pure ?_
 have hma : L ∈ (cellXs (cellsFrom (L + 1) s_law.names []) ++ (L, NsP fun _ => none) :: []).map (·.1) := List.mem_map_of_mem (f := Prod.fst) hmem
 have R3 := R2.changeX (a := L) (P := NsP fun x => if x = ("script" : Str) then some (.ref l) else none) (h' := h') (tk := s.toks + 1) hma hs.extBut (of_ns hn) (Nat.le_refl _)
 generalize hf2 : defFm s_law L (fd.qualname ++ ".<locals>.") (some fa) fd.code [] [F₁.env] = F₂
 have he2 : F₂.env = F₁.env := henv ▸ hf2 ▸ rfl
 have hfr2 : F₂.frs = [F₂.env] := he2.symm ▸ hf2 ▸ rfl
 have hF : FmOk c F₂ := hf2 ▸ defFm_ok hS hbase R2.nd
 have hI : Inv c F₂ (G0 c.base) (bindsR [(("script" : Str), .glob (.ref l))] fun _ => none) [] { s with heap := h', toks := s.toks + 1 } := by
  subst hf2 hf1
  exact frame_up hS ⟨_, R3, (defFm_fr hS (fun e he => by cases he)).setLoc (defFm_ok hS hbase R2.nd) (x := ("script" : Str)) (by show s_law.names.lookup ("script" : Str) = some .local; decide +kernel) hmem (fun x u hx hu => by cases hu) (VR_glob _)⟩
 have okA : (Kx.mk c 25 true F₂ s_law).Ok (A.deeper F₁.env) := ⟨hf2 ▸ rfl, h.ok, hF, ⟨by show A.frames.map _ = some F₂.frs; rw [a1, hfr2, he2]; rfl, a2, Nat.le_trans (Nat.add_le_add_right (Nat.succ_le_succ a3) _) (by show 311 + 8 * 25 ≤ 600; decide), Nat.le_trans (Nat.add_le_add_right (Nat.add_le_add_right a4 3) _) (by show 103 + 64 * 25 ≤ 4000; decide), fun _ => a5⟩⟩
 refine ⟨CxNoLimit h.ok hI, codeAny_func ?_⟩
 rw [← he2]
 refine hlaw F₂ ⟨[], hfr2⟩ _ (G0 c.base) _ _ _ (he2 ▸ okA) trivial hI PassesOwn.leaving ⟨fun f st' G' b s' q hg hI' hf => ?_, fun _ _ _ _ _ q => q.elim⟩
 subst q
 obtain ⟨w, rfl, hw⟩ := hf
 cases bool_inv hw
 obtain ⟨xs, R', f'⟩ := hI'.ok
 exact hR s' R'.keep R'.gens R'.os
end
end Mine
end
section
namespace Mine
open PySem PySem.W PyProof.Rows PySem.SeqAt
section
variable {σ : List O} {i j : Nat} {o o' : O} {r : Option O}
theorem get_set_same (h : σ[i]? = some o') : (σ.set i o)[i]? = some o := by
 have : i < σ.length := (List.getElem?_eq_some_iff.mp h).1
 simp [this]
theorem get_set_ne (h : i ≠ j) (e : σ[j]? = r) : (σ.set i o)[j]? = r := by
 rw [List.getElem?_set_ne h]; exact e
theorem get_app_len : (σ ++ [o])[σ.length]? = some o := by simp
theorem get_app_old (e : σ[j]? = some o') : (σ ++ [o])[j]? = some o' := by
 have : j < σ.length := (List.getElem?_eq_some_iff.mp e).1
 rw [List.getElem?_append_left this]; exact e
theorem ne_get (h : σ[i]? = some o) (h' : σ[j]? = some o') (n : o ≠ o') : i ≠ j := fun e => n (Option.some.inj (h.symm.trans (e ▸ h')))
theorem lt_get (h : σ[i]? = some o) : i < σ.length := (List.getElem?_eq_some_iff.mp h).1
end
section
variable {K : Kx} {st : St} {E : X → St → Prop} {Q : V → St → Prop} {QF : Fl → St → Prop} {A B : Prop} {b : Bool}
theorem inner_free {csc : Scope} {ρ : Str → Option V} {x : Str} {r : Option V} (h : decide (csc.names.lookup x = some .free) = true) (e : ρ x = r) : innerρ csc ρ x = r := (if_pos (of_decide_eq_true h)).trans e
theorem x_globI {i : Int} {x : Str} {p : Pos} (h : (isGI (K.sc.names.lookup x) && nDbg x) = true) (hw : ∃ t, GlobAt K.c x (.int i t)) (q : Q (.int i) st) : EX K (.Name x p) st Q E := hw.elim fun t hw => x_glob h hw (fun G => VR_int i t) q
theorem seqN (h : A) : seqK A QF .next st := h
theorem seqR {v : V} (h : QF (.ret v) st) : seqK A QF (.ret v) st := h
theorem seqB (h : QF .brk st) : seqK A QF .brk st := h
theorem seqC (h : QF .cont st) : seqK A QF .cont st := h
theorem ifT (hb : b = true) (h : A) : if b = true then A else B := by rw [if_pos hb]; exact h
theorem ifF (hb : b = false) (h : B) : if b = true then A else B := by rw [hb, if_neg Bool.false_ne_true]; exact h
theorem bopAt (hb : b = true) (h : B) : bopK .And b A B := by rw [hb]; exact h
theorem bopOt (hb : b = true) (h : A) : bopK .Or b A B := by rw [hb]; exact h
theorem bopOf (hb : b = false) (h : B) : bopK .Or b A B := by rw [hb]; exact h
theorem turnN (h : A) : turnK A QF st .next := h
theorem turnC (h : A) : turnK A QF st .cont := h
theorem turnB (h : QF .next st) : turnK A QF st .brk := h
theorem turnR {v : V} (h : QF (.ret v) st) : turnK A QF st (.ret v) := h
theorem retN (h : Q .none st) : retK Q st .next := h
theorem retR {v : V} (h : Q v st) : retK Q st (.ret v) := h
noncomputable def stars : List PySem.Expr → List Bool
 | [] => []
 | .Starred .. :: r => true :: stars r
 | _ :: r => false :: stars r
theorem c_plain {f : PySem.Expr} {as : List PySem.Expr} {ks : List Keyword} {pos : Pos} (he : ∀ env, eval (.Call f as ks pos) env = (do callWith pos (← eval f env) [] (backTo pos (starEach as env)) (backToKw pos (keywordEach ks env))))
  (hs : ∀ env, (starEach as env).map (·.1) = stars as) (hb : (stars as == [true]) = false) (hn : ks.all named = true) (h : EX K f st (fun u st => AR K as st (fun vs st => KR K ks st (fun kv st => CV K u vs kv st Q E) E) E) E) : EX K (.Call f as ks pos) st Q E := x_call he hs hb hn h
theorem c_meth {nm : Str} {o : PySem.Expr} {apos : Pos} {as : List PySem.Expr} {ks : List Keyword} {pos : Pos} (hb : ∀ env whole, attributeBase o nm env whole = whole) (hline : (apos.endLine == pos.line) = true)
  (hf : ∀ env, methodCallForm (as.length + ks.length) (backTo pos (starEach as env)) (backToKw pos (keywordEach ks env)) = true) (hs : ∀ env, (starEach as env).map (·.1) = stars as) (hbs : (stars as == [true]) = false) (hn : ks.all named = true)
  (h : EX K o st (fun u st => MX K u nm st (fun m st => AR K as st (fun vs st => KR K ks st (fun kv st => CM K m vs kv st Q E) E) E) E) E) : EX K (.Call (.Attribute o nm apos) as ks pos) st Q E := x_callm hb hline hf hs hbs hn h
theorem br_cons {n x : Str} {v : V} {r : List (Str × V)} {ρ : Str → Option V} {o : Option V} (h : bindsR r (upd ρ n v) x = o) : bindsR ((n, v) :: r) ρ x = o := h
theorem br_nil {x : Str} {ρ : Str → Option V} {o : Option V} (h : ρ x = o) : bindsR [] ρ x = o := h
theorem Lnx.mono {σ : List O} {i : Nat} {P P' : V → List O → Prop} {R R' : List O → Prop} (h : Lnx σ i P R) (hp : ∀ x σ', P x σ' → P' x σ') (hr : ∀ σ', R σ' → R' σ') : Lnx σ i P' R' := by
 cases h with
 | on xs k h hi he => exact .on xs k h (fun x hx => hp _ _ (hi x hx)) fun hx => hr _ (he hx)
 | off h e => exact .off h (hr _ e)
theorem q_eqI {x y : V} {i j : Int} (hx : x.num = some i) (hy : y.num = some j) (q : Q (.bool (decide (i = j))) st) : QX K .Eq x y st Q E := q_eq (.num hx hy) q
theorem q_neI {x y : V} {i j : Int} (hx : x.num = some i) (hy : y.num = some j) (q : Q (.bool (!decide (i = j))) st) : QX K .NotEq x y st Q E := q_ne (.num hx hy) q
theorem q_neS {a b : Str} (q : Q (.bool (!(a == b))) st) : QX K .NotEq (.str a) (.str b) st Q E := q_ne (.str a b) q
theorem s_slotS {ρ : Str → Option V} {τ : List O} {o : O} {i k : Nat} {C : Addr} {nm : Str} {fs : List (Option V)} {x : V} {Q : Unit → St → Prop} {p : Addr} (h : (τ.set i o)[i]? = some (.slots C fs)) (hs : SlotF K.c.K C nm k p) (hl : k < fs.length) (q : Q () ⟨ρ, τ.set i (.slots C (fs.set k (some x)))⟩) : AS K (.obj i) nm x ⟨ρ, τ.set i o⟩ Q E :=
 s_slot h hs hl (by rw [List.set_set]; exact q)
noncomputable def But1 (i : Nat) (σ σ' : List O) : Prop := ∀ q o, q ≠ i → σ[q]? = some o → σ'[q]? = some o
noncomputable def WH (K : Kx) (t : PySem.Expr) (body orelse : List Stmt) (Q : Fl → St → Prop) (E : X → St → Prop) : Nat → St → Prop
 | 0, _ => False
 | k + 1, st => TS K t st (fun b st => if b = true then SS K body st (fun f st => turnK (WH K t body orelse Q E k st) Q st f) E else SS K orelse st Q E) E
theorem turnK.imp {A' : Prop} {f : Fl} (h : turnK A QF st f) (ha : A → A') : turnK A' QF st f := by
 cases f <;> first | exact ha h | exact h
theorem s_whileN {t : PySem.Expr} {body orelse : List Stmt} {pos : Pos} (n : Nat) (h : WH K t body orelse QF E n st) : SX K (.While t body orelse pos) st QF E := by
 refine s_while (WH K t body orelse QF E) n h fun k st hk => ?_
 cases k with
 | zero => exact hk.elim
 | succ k =>
  refine Run.imp hk fun b st q => ?_
  cases b with
  | true => exact Run.imp q fun f st q => q.imp fun h => ⟨k, Nat.lt_succ_self k, h⟩
  | false => exact q
theorem wh_step {t : PySem.Expr} {body orelse : List Stmt} {k : Nat} (h : TS K t st (fun b st => if b = true then SS K body st (fun f st => turnK (WH K t body orelse QF E k st) QF st f) E else SS K orelse st QF E) E) : WH K t body orelse QF E (k + 1) st := h
theorem x_negI {e : PySem.Expr} {p : Pos} (h : EX K e st (fun v st => ∃ i, v.num = some i ∧ Q (.int (-i)) st) E) : EX K (.UnaryOp .USub e p) st Q E := x_neg h
theorem neg_here {v : V} {i : Int} {A : Int → Prop} (hv : v.num = some i) (h : A i) : ∃ i, v.num = some i ∧ A i := ⟨i, hv, h⟩
theorem set_app {σ : List O} {o o' : O} : (σ ++ [o]).set σ.length o' = σ ++ [o'] := by simp
theorem fin_app {ρ : Str → Option V} {σ : List O} {o o' : O} {v : V} (q : Q v ⟨ρ, σ ++ [o']⟩) : Q v ⟨ρ, (σ ++ [o]).set σ.length o'⟩ := by rw [set_app]; exact q
theorem s_instS {ρ : Str → Option V} {τ : List O} {o : O} {i d : Nat} {C : Addr} {nm : Str} {gs : List (Str × V)} {x : V} {Q : Unit → St → Prop} (h : (τ.set d o)[i]? = some (.inst C d)) (hf : FldF K.c.K C nm) (hd : (τ.set d o)[d]? = some (.idict gs)) (hl : gs.length < 100) (q : Q () ⟨ρ, τ.set d (.idict (putG gs nm x))⟩) : AS K (.obj i) nm x ⟨ρ, τ.set d o⟩ Q E :=
 s_inst h hf hd hl (by rw [List.set_set]; exact q)
theorem bm_getS {i : Nat} {es : List (Int × V)} {k : Int} {x : V} (h : st.σ[i]? = some (.dict es)) (hx : findG es k = some x) (q : Q x st) : CM K (.bi "dict.get" i) [.int k] [] st Q E := bm_get h (by rw [hx]; exact q)
theorem bm_getN {i : Nat} {es : List (Int × V)} {k : Int} (h : st.σ[i]? = some (.dict es)) (hx : findG es k = none) (q : Q .none st) : CM K (.bi "dict.get" i) [.int k] [] st Q E := bm_get h (by rw [hx]; exact q)
theorem bm_fgetS {i : Nat} {es : List (Int × V)} {k : Int} {x : V} (h : st.σ[i]? = some (.fdict es)) (hx : findG es k = some x) (q : Q x st) : CM K (.bi "dict.get" i) [.int k] [] st Q E := bm_fget h (by rw [hx]; exact q)
end
end Mine
end
section
namespace Mine
open PySem PySem.W PyProof.Rows PySem.SeqAt
section
variable {K : Kx} {P : Gh → Prop} {st : St} {ρ : Str → Option V} {σ σ' : List O} {E : X → St → Prop} {G : Gh} {s : Shared} {v : V} {w : Value} {A : Around} {c : Cx} {F : Fm}
theorem Rel.adoptSt {xs : List XE} (R : Rel c G xs σ s) {a : Addr} {o : O} (hx : a ∉ xs.map (·.1)) (hn : G.own a = none) (hv : ∃ ob, s.heap.get? a = some ob) (hp : ORs c (G.addSt a σ.length) s.heap a o) : G.le (G.addSt a σ.length) ∧ Rel c (G.addSt a σ.length) xs (σ ++ [o]) s := by
 have hle : G.le (G.addSt a σ.length) := Gh.le_addSt hn
 have own_ne : ∀ b, b ≠ a → (G.addSt a σ.length).own b = G.own b := fun b q => if_neg q
 have lt_len : ∀ b i, G.own b = some (.st i) → i < σ.length := fun b i e => by
  obtain ⟨o, h1, _⟩ := R.stc b i e
  exact (List.getElem?_eq_some_iff.mp h1).1
 have split : ∀ b k, (G.addSt a σ.length).own b = some k → (b = a ∧ k = .st σ.length) ∨ (b ≠ a ∧ G.own b = some k) := fun b k e => by
  by_cases q : b = a
  ·subst q; rw [Gh.own_addSt] at e; cases e; exact .inl ⟨rfl, rfl⟩
  ·rw [own_ne b q] at e; exact .inr ⟨q, e⟩
 refine ⟨hle, ?_⟩
 exact {
  keep := R.keep
  baseOwn := fun b o e => hle.own _ _ (R.baseOwn b o e)
  fzc := fun b k e => by
   refine ⟨(R.fzc b k e).1, ?_⟩
   rcases (R.fzc b k e).2 with h | ⟨j, o₂, h, h2, h3⟩
   ·exact .inl (hle.own _ _ h)
   ·exact .inr ⟨j, o₂, hle.own _ _ h, by rw [List.getElem?_append_left (lt_len _ _ h)]; exact h2, h3⟩
  stc := fun b i e => by
   rcases split b _ e with ⟨rfl, q⟩ | ⟨q, e'⟩
   ·cases q; exact ⟨o, by simp, hv, hp⟩
   ·obtain ⟨o₂, h1, h2, h3⟩ := R.stc b i e'
    exact ⟨o₂, by rw [List.getElem?_append_left (lt_len _ _ e')]; exact h1, h2, h3.mono hle⟩
  inj := fun b b' i e e' => by
   rcases split b _ e with ⟨rfl, q⟩ | ⟨_, e₁⟩ <;> rcases split b' _ e' with ⟨rfl, q'⟩ | ⟨_, e₁'⟩
   ·rfl
   ·cases q; exact absurd (lt_len _ _ e₁') (Nat.lt_irrefl _)
   ·cases q'; exact absurd (lt_len _ _ e₁) (Nat.lt_irrefl _)
   ·exact R.inj b b' i e₁ e₁'
  live := fun b k e => by
   rcases split b k e with ⟨rfl, _⟩ | ⟨_, e'⟩
   ·exact hv
   ·exact R.live b k e'
  xsc := fun e he => by
   obtain ⟨h1, r⟩ := R.xsc e he
   exact ⟨by rw [own_ne e.1 (fun q => hx (q ▸ List.mem_map_of_mem (f := Prod.fst) he))]; exact h1, r⟩
  nd := R.nd
  tok := R.tok
  pos := R.pos
  gens := R.gens
  drawn := R.drawn
  os := R.os }
theorem x_fstr {Q : V → St → Prop} {e : PySem.Expr} {p : Pos} (h : EX K e st Q E) : EX K (.JoinedStr [e] p) st Q E := h
theorem x_compO {Q : V → St → Prop} {elt t it0 : PySem.Expr} {fs : List PySem.Expr} {gs : List Comprehension} {csc : Scope} {pos : Pos} (hc : K.calm = true) (hset : ∀ env x, foldedSetIterable it0 env x = pure x) (hnest : nestOk K.sc csc = true)
  (h : CompX K elt t it0 fs gs csc st (fun zs st => Q (.obj st.σ.length) ⟨st.ρ, st.σ ++ [.list zs]⟩) E) : EX K (.ListComp elt (⟨t, it0, fs, 0⟩ :: gs) csc pos) st Q E := by
 intro A G s QQ EE ok hp hI hE H
 rw [arm_eval_ListComp]
 refine comp_core (use := none) ok hc hE hset hnest hI h H.ex fun zs st G' m C D ws xs₀ s' q hg R f hz => ?_
 refine ⟨m, ns_head R, fun h' hs => ?_⟩
 obtain ⟨R', hD, hn, k, hob⟩ := comp_done R hs
 have hle0 : G'.le (G'.addSt D st.σ.length) := Gh.le_addSt hn
 obtain ⟨hle, R''⟩ := R'.adoptSt (o := .list zs) hD hn ⟨_, hob⟩ ⟨ws, k, hob, hz.mono hle0⟩
 exact H.ok _ _ _ (.ref D) _ q (hg.trans hle) ⟨xs₀, R'', f.mono hle⟩ (VR_obj (Gh.own_addSt _ _ _))
theorem acomp_in {C D : Addr} {m : Str → Option Value} {ws : List Value} {zs : List V} {xs₀ : List XE} {P : Prop} (hF : FmOk c F) (R : Rel c G ((C, NsP m) :: (D, AccP ws) :: xs₀) σ s) (f : FR F G ρ xs₀) (hz : VRs G zs ws)
  (k : ∀ G', G.le G' → FmOk c (F.plus (C, NsP m)) → Inv c (F.plus (C, NsP m)) G' ρ σ s → VR G' (.lst zs) (.ref D) →
   (∀ G₃ ρ' σ' s₃, Inv c (F.plus (C, NsP m)) G₃ ρ' σ' s₃ → s₃.heap.Ns C m ∧ ∀ h', Heap.SameBut C s₃.heap h' → Inv c F G₃ ρ' σ' { s₃ with heap := h', toks := s₃.toks }) → P) : P := by
 have nd := R.nd
 rw [List.map_cons, List.nodup_cons, List.map_cons, List.nodup_cons] at nd
 have nC : C ≠ D ∧ C ∉ xs₀.map (·.1) := ⟨fun z => nd.1 (z ▸ List.mem_cons_self), fun z => nd.1 (List.mem_cons_of_mem _ z)⟩
 have R1 : Rel c G ((C, NsP m) :: xs₀) σ s := R.pick (fun e he => by
  rcases List.mem_cons.mp he with rfl | he
  ·exact List.mem_cons_self
  ·exact List.mem_cons_of_mem _ (List.mem_cons_of_mem _ he)) (List.nodup_cons.mpr ⟨nC.2, nd.2.2⟩)
 have hFC : FmOk c (F.plus (C, NsP m)) := hF.plus (fun z => nC.2 (by
   obtain ⟨e, he, z⟩ := List.mem_map.mp z
   exact List.mem_map.mpr ⟨e, f.out _ he, z⟩)) (fun z => nC.2 (f.loc.elim fun m' hm' => List.mem_map.mpr ⟨_, hm'.1, z⟩)) (fun y b hy hb z => nC.2 ((f.cel y b hy hb).elim fun v hm' => List.mem_map.mpr ⟨_, hm'.1, z⟩))
 have hfrm : ∀ env ∈ F.frs, env.frame ≠ some C := fun env he z => nC.2 (by
  obtain ⟨_, L, m', h2, h3⟩ := f.frs env he
  rw [h2] at z
  cases z
  exact List.mem_map.mpr ⟨_, h3, rfl⟩)
 refine (R.xsc _ (List.mem_cons_of_mem _ List.mem_cons_self : (D, AccP ws) ∈ _)).2.elim fun ob p => p.2.elim fun n hob => ?_
 have g := R1.adopt (k := .lst ws) (a := D) (fun z => (List.mem_cons.mp z).elim (fun z => nC.1 z.symm) nd.2.1) (R.xsc _ (List.mem_cons_of_mem _ List.mem_cons_self : (D, AccP ws) ∈ _)).1 ⟨n, hob ▸ p.1⟩
 refine k _ g.1 hFC ⟨_, g.2, (f.mono g.1).plus (C, NsP m)⟩ (VR_lst (Gh.fz_addFz _ _ _) (hz.mono g.1)) fun G₃ ρ' σ' s₃ hI => hI.ok.elim fun xs₃ q => ⟨ns_of (q.1.xsc _ (q.2.out _ List.mem_cons_self)).2, fun h' hsb => ⟨_, (q.1.subX (List.filter_sublist (p := fun e => decide (e.1 ≠ C)))).forget (h' := h') (tk := s₃.toks) (q.1.xsc _ (q.2.out (C, NsP m) List.mem_cons_self)).1 (fun z => ?_) hsb.extBut (Nat.le_refl _), q.2.dropK hFC q.1 (fun ob ho v q => ?_) hfrm⟩⟩
 ·obtain ⟨e, he, rfl⟩ := List.mem_map.mp z
  simpa using (List.mem_filter.mp he).2
 ·obtain ⟨es, ep, hd, _⟩ := ho
  rw [hd] at q; cases q
theorem s_acompL {Q : Fl → St → Prop} {x : Str} {p spos : Pos} {elt t it0 : PySem.Expr} {fs : List PySem.Expr} {gs : List Comprehension} {csc : Scope} {pos : Pos} (hc : K.calm = true) (hset : ∀ env x, foldedSetIterable it0 env x = pure x) (hnest : nestOk K.sc csc = true)
  (hl : K.sc.names.lookup x = some .local) (hpl : (p.line == pos.line && !(csc.names.any fun (n, k) => n == x && (k == .local || k == .cell))) = true)
  (h : CompX K elt t it0 fs gs csc st (fun zs st => ∀ e, NX (K.plus e) x (.lst zs) st (fun _ st => Q .next st) no) E) : SX K (.Assign [.Name x p] (.ListComp elt (⟨t, it0, fs, 0⟩ :: gs) csc pos) spos) st Q E := by
 intro A G s QQ EE ok hp hI hE H
 rw [arm_exec_Assign]
 refine wpAny_bind (wpAny_standAt ?_)
 have hsw : swapsWithSole [.Name x p] (.ListComp elt (⟨t, it0, fs, 0⟩ :: gs) csc pos) spos.line K.F.env = pure true := by
  have h1 : K.F.env.kindOf x = some .local := ok.hF.loc x (by rw [ok.hs]; exact hl)
  have h2 : K.F.env.blockKind = .function := by unfold Env.blockKind; rw [ok.hF.fn]; rfl
  show (pure (K.F.env.blockKind == .function && K.F.env.kindOf x == some .local && p.line == pos.line && !(csc.names.any fun (n, k) => n == x && (k == .local || k == .cell))) : Sem Bool) = pure true
  rw [h1, h2, Bool.and_assoc, hpl]
  rfl
 rw [hsw]
 refine wpAny_bind (wpAny_pure ?_)
 rw [if_pos rfl, arm_evalThenUse_ListComp]
 have core := comp_core (use := some fun v => assign (.Name x p) K.F.env v) (QQ := fun _ s' => QQ .next s') (ppos := firstIterPos (⟨t, it0, fs, 0⟩ :: gs) pos) (pos := pos) ok hc hE hset hnest hI h H.ex fun zs st G' m C D ws xs₀ s' q hg R f hz => ?_
 ·exact wpAny_bind (wpAny_bind (wpAny_mono core (fun _ s' h => wpAny_pure (wpAny_pure h)) fun _ _ e => e))
 show wpAny K.c.M A (assign (.Name x p) K.F.env (.ref D)) _ EE s'
 refine acomp_in ok.hF R f hz fun G₂ hle hFC I2 hvr back => wpAny_noRaise (ta_name (K := K.plus (C, NsP m)) (p := p) (q (C, NsP m)) (.ref D) A _ s' _ (fun _ _ => False) (ok.plus hFC) hvr I2 PassesOwn.never (no_ex fun _ st₃ G₃ _ s₃ q hg₃ hI₃ _ => ?_))
 exact ⟨m, (back _ _ _ _ hI₃).1, fun h' hsb => H.ok .next st₃ G₃ .next _ q ((hg.trans hle).trans hg₃) ((back _ _ _ _ hI₃).2 h' hsb) rfl⟩
theorem s_assignC {Q : Fl → St → Prop} {x : Str} {p spos : Pos} {elt : PySem.Expr} {gs : List Comprehension} {csc : Scope} {pos : Pos} (hl : K.sc.names.lookup x = some .cell)
  (h : EX K (.ListComp elt gs csc pos) st (fun v st => TA K (.Name x p) v st (fun _ st => Q .next st) E) E) : SX K (.Assign [.Name x p] (.ListComp elt gs csc pos) spos) st Q E := by
 intro A G s QQ EE ok hp hI hE H
 have hsw : swapsWithSole [.Name x p] (.ListComp elt gs csc pos) spos.line K.F.env = pure false := by
  have h1 : K.F.env.kindOf x = some .cell := (ok.hF.cel x (by rw [ok.hs]; exact hl)).1
  show (pure (K.F.env.blockKind == .function && K.F.env.kindOf x == some .local && p.line == pos.line && !(csc.names.any fun (n, k) => n == x && (k == .local || k == .cell))) : Sem Bool) = pure false
  rw [h1]
  have : (some NameKind.cell == some NameKind.local) = false := rfl
  rw [this, Bool.and_false, Bool.false_and, Bool.false_and]
 have hx : exec (.Assign [.Name x p] (.ListComp elt gs csc pos) spos) K.F.env = (do PySem.standAt spos; let v ← eval (.ListComp elt gs csc pos) K.F.env; assign (.Name x p) K.F.env v; pure .next) := by
  rw [arm_exec_Assign, hsw]
  rfl
 rw [hx]
 exact (Run.bind up_true (h.imp fun v st q w => Run.bind (R₁ := fun _ _ _ => True) (up_and up_true up_VR) (((q w).pre fun _ h => h.2).imp fun _ st q _ => run_next q))).standAt A G s QQ EE ok hp hI hE H
end
end Mine
end
section
namespace Mine
open PySem PySem.W PyProof.Rows PySem.SeqAt
section
variable {K : Kx} {P : Gh → Prop} {st : St} {ρ : Str → Option V} {σ σ' : List O} {E : X → St → Prop} {Q : V → St → Prop} {G : Gh} {s : Shared} {u v x y : V} {w : Value} {A : Around} {c : Cx} {F : Fm} {i j k : Int} {p n : Nat} {xs : List V} {ns : List Int}
theorem o_mod (hx : x.num = some i) (hy : y.num = some j) (hj : j ≠ 0) (q : Q (.int (i.fmod j)) st) : OX K .Mod x y st Q E := on_nums (t := binaryOp .Mod) hx hy fun p q' A G s QQ EE ok hI H => mod_int' hj (H.int (R := RV) hI q)
theorem o_fdiv (hx : x.num = some i) (hy : y.num = some j) (hj : j ≠ 0 ∧ j.natAbs < 1000) (q : Q (.int (i.fdiv j)) st) : OX K .FloorDiv x y st Q E := on_nums (t := binaryOp .FloorDiv) hx hy fun p q' A G s QQ EE ok hI H => floordiv_int hj.1 (H.int (R := RV) hI q) (.inl (PyProof.noPylong_small (Nat.lt_trans hj.2 (by decide))))
theorem o_pow (hx : x.num = some i) (hy : y.num = some j) (h0 : 0 ≤ j) (h1 : j ≤ 1000000) (hi : i.natAbs < 2 ^ 64) (q : Q (.int (i ^ j.toNat)) st) : OX K .Pow x y st Q E :=
 on_nums (t := binaryOp .Pow) hx hy fun p q' A G s QQ EE ok hI H => pow_int_small h0 h1 hi (H.int (R := RV) hI q)
theorem VR_mrk {t : Tok} (h : G.kt t = some (.inl i)) : VR G (.mrk i) (.int i t) := Exists.intro t ⟨rfl, h⟩
theorem Ends.mrk {QQ : Value → Shared → Prop} {EE : Value → Shared → Prop} (H : Ends K G RV Q E QQ EE) (hI : K.Inv G st s) (q : Q (.mrk i) st) : QQ (.int i s.toks) { s with toks := s.toks + 1 } :=
 (hI.addTok (t := s.toks) (k := .inl i) (tk := s.toks + 1) (Nat.le_refl _) (Nat.lt_succ_self _)).elim fun h1 h2 => H.ok _ _ _ _ _ q h1 h2 (VR_mrk (Gh.kt_addTok _ _ _))
theorem o_fdivM (hx : x.num = some i) (hy : y.num = some j) (hj : j ≠ 0 ∧ j.natAbs < 1000) (q : Q (.mrk (i.fdiv j)) st) : OX K .FloorDiv x y st Q E := on_nums (t := binaryOp .FloorDiv) hx hy fun p q' A G s QQ EE ok hI H => floordiv_int hj.1 (H.mrk hI q) (.inl (PyProof.noPylong_small (Nat.lt_trans hj.2 (by decide))))
theorem i_addM (hx : x.num = some i) (hy : y.num = some j) (q : Q (.mrk (i + j)) st) (va vb : Value) : Run K (fun G => VR G x va ∧ VR G y vb) (inplaceOp .Add va vb) RV st Q E :=
 on_nums (t := inplaceOp .Add) hx hy (fun _ _ A G s QQ EE ok hI H => PySem.P.iadd_int (H.mrk hI q)) va vb
theorem x_ifexp {t a b : PySem.Expr} {p : Pos} (h : TS K t st (fun c st => if c = true then EX K a st Q E else EX K b st Q E) E) : EX K (.IfExp t a b p) st Q E := by
 unfold EX
 rw [arm_eval_IfExp]
 refine Run.bind up_true (h.imp fun c st q c' => fun A G s QQ EE ok hp hI hE H => ?_)
 cases hp.2
 cases c
 ·exact q A G s QQ EE ok trivial hI hE H
 ·exact q A G s QQ EE ok trivial hI hE H
theorem b_abs (hx : x.num = some i) (q : Q (.int (if i < 0 then -i else i)) st) : BC K (.builtin "abs") [x] st Q E := on_one fun w A G s QQ EE ok hv hI H => by
 obtain ⟨t, rfl⟩ := num_inv hv hx
 exact wpAny_with_toks (Nat.le_refl s.toks) (call_abs_int fun u tk htk => H.here q (hI.toks htk) (VR_int _ _))
theorem b_sumI (hc : K.calm = true) (h : st.σ[p]? = some (.flist (ns.map .int))) (q : Q (.int ns.sum) st) : BC K (.builtin "sum") [.obj p] st Q E := on_one_obj h fun a A G s QQ EE ok ha hO hI H => by
 cases hO with | mk vs k r => ?_
 have hi := ints_are r
 obtain ⟨xs, hx⟩ := hi.allInts.items
 have hl' : s.heap.IsList a (intItems xs) := hx ▸ hI.lst k
 refine wpAny_with_toks (Nat.le_refl s.toks) (sum_intListG (ok.hA.handled hc) hl' fun h' tk t' hk htk => ?_)
 have e1 : ns = xs.toList.map (·.1) := by
  rw [← nums_intItems, ← hx]
  exact (show numsOf vs.toArray.toList = ns from hi.numsOf).symm
 have e2 : preSum (numAt xs) xs.size = ns.sum := by
  rw [preSum_eq, List.take_of_length_le (by simp), e1]
 rw [e2]
 exact H.here q (hI.ext hk htk) (VR_int _ _)
theorem base_list {l : Addr} {vs : List Value} (hb : K.c.base.IsList l vs.toArray) (hI : K.Inv G st s) : s.heap.IsList l vs.toArray := by
 obtain ⟨o, h1, h2⟩ := hb
 exact ⟨o, hI.keep _ _ h1, h2⟩
theorem b_lenG {l : Addr} {vs : List Value} (hb : K.c.base.IsList l vs.toArray) (hl : vs.length ≤ lim) (q : Q (.int vs.length) st) : BC K (.builtin "len") [.glob (.ref l)] st Q E := on_one fun w A G s QQ EE ok hv hI H => by
 cases VR_glob_eq hv
 refine PyProof.Rows.len_list (base_list hb hI) (by rw [List.size_toArray]; unfold lim at hl; omega) ?_
 rw [List.size_toArray]
 exact H.here q (hI.toks (by omega)) (VR_int _ _)
noncomputable def SGt (K : Kx) (o k : V) (st : St) (Q : V → St → Prop) (E : X → St → Prop) : Prop := ∀ (value : PySem.Expr) upper p p2 a b A G s QQ EE, K.Ok A → VR G o a → VR G k b → K.Inv G st s → PassesOwn K.c.M A K.F.env EE → Ends K G RV Q E QQ EE →
 wpAny K.c.M A (newFields "slice" [.none, b, .none]) (fun i s' => wpAny K.c.M A (do PySem.standAt p2; let r ← subscripted (.Slice none upper none p) (← getitemInPython a) a i; letTemporaryGo value a r; pure r) QQ EE s') EE s
theorem x_sliceT {o hi : PySem.Expr} {p q : Pos} (h : EX K o st (fun u st => EX K hi st (fun k st => SGt K u k st Q E) E) E) : EX K (.Subscript o (.Slice none (some hi) none q) p) st Q E := by
 unfold EX
 rw [arm_eval_Subscript]
 refine Run.bind up_true (h.imp fun u st q w => fun A G s QQ EE ok hp hI hE H => ?_)
 refine wpAny_bind (wpAny_holding ?_)
 rw [arm_eval_Slice]
 refine wpAny_bind (wpAny_pure ?_)
 refine wpAny_bind (wpAny_holding (q A G s _ EE ok trivial hI hE ⟨fun k st' G' b s' q' hg hI' hv => ?_, H.ex⟩))
 exact wpAny_bind (wpAny_holding (wpAny_pure (q' _ _ _ _ _ _ A G' s' QQ EE ok (hp.2.mono hg) hv hI' hE (H.up hg))))
theorem sgt_base {l : Addr} {vs : List Value} (hb : K.c.base.IsList l vs.toArray) (hi : IntsAre vs ns) (hlim : vs.length ≤ lim) (q : Q (.lst ((ns.take n).map .int)) st) : SGt K (.glob (.ref l)) (.int (n : Int)) st Q E := by
 intro value upper p p2 a b A G s QQ EE ok ha hv hI hE H
 cases VR_glob_eq ha
 obtain ⟨t, rfl⟩ := num_inv hv rfl
 have hl := base_list hb hI
 refine wpAny_newObj_type (wpAny_bind (wpAny_standAt ?_))
 refine wpAny_subTail (hl.push _).typeIs slot_list_getitem.lookup (vs := [_, _]) rfl ?_
 refine wpAny_getItem_list_slice (hl.push _) (Heap.IsSliceOf.new ..) .none (.int _ t) .none (by simp) ?_ (by rw [List.size_toArray]; exact lim_fits hlim)
 rw [slicePick_upto']
 have hI' : Inv K.c K.F G st.ρ st.σ { s with heap := s.heap.push { cls := .type "slice", data := .fields #[.none, .int n t, .none] } } := hI.ext (keep_push _ _) (Nat.le_refl _)
 have r : VRs G ((ns.take n).map V.int) (vs.take n) := by
  rw [List.map_take]
  exact (VRs_of_ints hi).take n
 exact (hI'.newLst r).elim fun G' g => H.ok _ _ _ _ _ q g.1 g.2.1 g.2.2
noncomputable def GI (K : Kx) (o k : V) (st : St) (Q : V → St → Prop) (E : X → St → Prop) : Prop := ∀ a b, Run K (fun G => VR G o a ∧ VR G k b) (getItem a b) RV st Q E
theorem gi_list (h : st.σ[p]? = some (.list xs)) (hlim : xs.length ≤ lim) (h0 : 0 ≤ k) (hx : xs[k.toNat]? = some x) (q : Q x st) : GI K (.obj p) (.int k) st Q E := by
 intro a b
 refine on_obj (K := K) (P := fun G => VR G (.int k) b) (t := fun a => getItem a b) h (fun a A G s QQ EE ok hP ha hO hI _ H => ?_) a
 obtain ⟨t, rfl⟩ := num_inv hP rfl
 cases hO with | mk vs n e r => ?_
 exact item_list (K := K) (ListAt.isList e) r hlim h0 hx fun u hu => H.here q hI hu
theorem s_augI {o i : PySem.Expr} {sp p : Pos} {op : Operator} {e : PySem.Expr} {QF : Fl → St → Prop} (hs : ∀ ov iv new, augStore i ov iv new = (do holding [new, ov, iv] (setItem ov iv new); release [new, ov, iv] []; pure .next))
  (h : EX K o st (fun u st => EX K i st (fun k st => GI K u k st (fun a st => EX K e st (fun b st => ∀ va vb, Run K (fun G => VR G a va ∧ VR G b vb) (inplaceOp op va vb) RV st (fun v st => IS K u k v st (fun _ st => QF .next st) E) E) E) E) E) E) : SX K (.AugAssign (.Subscript o i sp) op e p) st QF E := by
 unfold SX
 rw [arm_exec_AugAssign_3]
 refine (Run.bind up_true (h.imp fun u st q uw => ?_)).standAt
 have up1 : Up fun G => True ∧ VR G u uw := up_and up_true up_VR
 refine Run.bind (R₁ := RV) up1 (Run.holding (q.any.imp fun k st q kw => ?_))
 have up2 : Up fun G => (True ∧ VR G u uw) ∧ VR G k kw := up_and up1 up_VR
 refine Run.bind (R₁ := RV) up2 (Run.holding (Run.standAt (Run.bind (R₁ := RV) up2 (((q uw kw).pre fun _ h => ⟨h.1.2, h.2⟩).imp fun a st q va => Run.bind (R₁ := RV) (up_and up2 up_VR) (Run.holding (q.any.imp fun b st q vb => (((q va vb).pre fun _ h => ⟨h.1.2, h.2⟩).operate.imp fun v st q w => ?_).standAt))))))
 simp only [hs]
 have tail : ∀ (P : Gh → Prop) st, QF .next st → Run K P (do release [w, uw, kw] []; pure Flow.next) FlowR st QF E := fun P st q A G s QQ EE ok hp hI hE H => wpAny_bind (wpAny_release (wpAny_pure (H.here q hI (rfl : Flow.next = .next))))
 exact (Run.bind (R₁ := fun _ _ _ => True) (up_and up2 up_VR) (((q uw kw w).pre fun _ h => ⟨h.1.1.2, h.1.2, h.2⟩).holding.imp fun _ st q _ => tail _ st q)).standAt
noncomputable def Turn (v : V) (σ : List O) (w : V) (σ' : List O) : Prop := ∀ (c : Cx) (F : Fm) (G : Gh) (ρ : Str → Option V) (s : Shared) (b : Value), Inv c F G ρ σ s → VR G v b → ∃ G', G.le G' ∧ Inv c F G' ρ σ' s ∧ VR G' w b
theorem x_turn {e : PySem.Expr} (h : EX K e st (fun v st => ∃ w σ', Turn v st.σ w σ' ∧ Q w ⟨st.ρ, σ'⟩) E) : EX K e st Q E :=
 fun A G s QQ EE ok hp hI hE H => h A G s QQ EE ok hp hI hE ⟨fun v st G' b s' q hg hI' hv => q.elim fun w q => q.elim fun σ' q => (q.1 _ _ _ _ _ _ hI' hv).elim fun G₂ g => H.ok w ⟨st.ρ, σ'⟩ G₂ b s' q.2 (hg.trans g.1) g.2.1 g.2.2, H.ex⟩
theorem turn_each : ∀ (l : List (Nat × List V)) (σ : List O), (l.map (·.1)).Nodup → (∀ e ∈ l, σ[e.1]? = some (.list e.2)) → ∃ σ', ∀ (c : Cx) (F : Fm) (G : Gh) (ρ : Str → Option V) (s : Shared) (bs : List Value), Inv c F G ρ σ s → VRs G (l.map fun e => .obj e.1) bs → ∃ G', G.le G' ∧ Inv c F G' ρ σ' s ∧ VRs G' (l.map fun e => .lst e.2) bs
 | [], σ, _, _ => ⟨σ, fun c F G ρ s bs hI r => ⟨G, Gh.le.refl _, hI, by rw [r.nil_inv]; exact VRs.nil⟩⟩
 | e :: l, σ, nd, h => by
  rw [List.map_cons, List.nodup_cons] at nd
  have h1 := h e (List.mem_cons_self ..)
  obtain ⟨σ', h2⟩ := turn_each l (σ.set e.1 (.flist e.2)) nd.2 fun f hf => get_set_ne (fun z => nd.1 (by rw [z]; exact List.mem_map_of_mem hf)) (h f (List.mem_cons_of_mem _ hf))
  refine ⟨σ', fun c F G ρ s bs hI r => ?_⟩
  obtain ⟨b, us, rfl, hb, r'⟩ := r.cons_inv
  obtain ⟨a, rfl, ha⟩ := obj_inv hb
  obtain ⟨G1, vs, g1, g2, g3, g4⟩ := hI.fixList ha h1
  obtain ⟨G2, k1, k2, k3⟩ := h2 c F G1 ρ s us g2 (r'.mono g1)
  exact ⟨G2, g1.trans k1, k2, VRs.cons ((VR_lst g3 g4).mono k1) k3⟩
theorem turn_rows {l : List (Nat × List V)} (nd : (l.map (·.1)).Nodup) (h : ∀ e ∈ l, σ[e.1]? = some (.list e.2)) : ∃ σ', Turn (.lst (l.map fun e => .obj e.1)) σ (.lst (l.map fun e => .lst e.2)) σ' := by
 obtain ⟨σ', h2⟩ := turn_each l σ nd h
 refine ⟨σ', fun c F G ρ s b hI hv => ?_⟩
 obtain ⟨a, vs, rfl, k, r⟩ := lst_inv hv
 obtain ⟨G', g1, g2, g3⟩ := h2 c F G ρ s vs hI r
 exact ⟨G', g1, g2, VR_lst (g1.fz _ _ k) g3⟩
end
end Mine
end
section
namespace Mine
open PySem PySem.W PyProof.Rows PySem.SeqAt
section
variable {K : Kx} {st : St} {ρ : Str → Option V} {σ σ' : List O} {E : X → St → Prop} {G : Gh} {s : Shared} {A : Around} {c : Cx} {F : Fm} {j : Nat} {xs : List V}
noncomputable def EnP (it : Addr) (j : Nat) (o : Obj) : Prop := ∃ old, o = { cls := .type "enumerate", dict := none, data := .fields #[.none, .bool false, .ref it, rawInt (j : Int), .none, old], slots := #[] }
theorem apart_enP {it : Addr} : Apart (EnP it j) := fun o h => by
 obtain ⟨old, rfl⟩ := h
 exact ⟨fun v q => (by cases q), fun es ep q => (by cases q)⟩
theorem Inv.both {it e : Addr} {P P' R R' : Obj → Prop} (hne : e ≠ it) (hF : FmOk c ((F.plus (it, P)).plus (e, R))) (hP : Apart P) (hR : Apart R) (hI : Inv c ((F.plus (it, P)).plus (e, R)) G ρ σ s) {h' : Heap} {tk : Nat} (hk : ∀ b o, b ≠ e → b ≠ it → s.heap.get? b = some o → h'.get? b = some o)
  {oi : Obj} (h1 : h'.get? it = some oi) (hf : oi.isFreed = false) (h1' : P' oi) (h2 : ∃ ob, h'.get? e = some ob ∧ R' ob) (ht : s.toks ≤ tk) : Inv c ((F.plus (it, P')).plus (e, R')) G ρ σ { s with heap := h', toks := tk } := by
 obtain ⟨o0, ho0, _⟩ := hI.swap.head
 dsimp only at ho0
 have hm : (s.heap.update it fun _ => oi).get? it = some oi := Heap.get?_update_self _ ho0 hf
 have hI1 := hI.swap.move (P' := P') (h' := s.heap.update it fun _ => oi) (tk := s.toks) hF.swap hP (Heap.SameBut.update ..).extBut ⟨oi, hm, h1'⟩ (Nat.le_refl _)
 refine hI1.swap.move (P' := R') (h' := h') (tk := tk) ((hF.swap.plus_same (F := F.plus (e, R)) (e := (it, P)) (P' := P')).swap) hR (fun b o hb hg => ?_) h2 ht
 by_cases z : b = it
 ·subst z
  rw [hm] at hg
  cases hg
  exact h1
 ·exact hk b o hb z (by
   have e1 : (s.heap.update it fun _ => oi).get? b = s.heap.get? b := Heap.get?_update_other _ _ (Ne.symm z)
   rw [← e1]; exact hg)
theorem en_new {Q : Value → Shared → Prop} {EE : Value → Shared → Prop} {l : Addr} {vs : List Value} (hF : FmOk c F) (hI : Inv c F G ρ σ s) (hl : G.fz l = some (.lst vs))
  (k : ∀ it h, it + 1 ≠ it → (∀ j j', FmOk c ((F.plus (it, ItP (.lst l) j)).plus (it + 1, EnP it j'))) → Inv c ((F.plus (it, ItP (.lst l) 0)).plus (it + 1, EnP it 0)) G ρ σ { s with heap := h } → Q (.ref (it + 1)) { s with heap := h }) : wpAny c.M A (call (.type "enumerate") [.ref l]) Q EE s := by
 refine (hI.fz hl).elim fun n ho => call_enumerate_1 ho fun h₁ en li hz hk => li.elim fun oi hoi => ?_
 have hfi : oi.isFreed = false := Obj.isFreed_of_fields hoi.2.2
 have g1 := hI.plus hF (P := ItP (.lst l) 0) (a := s.heap.objs.size) (h' := s.heap.push oi) (tk := s.toks) (get_size _) (keep_push _ _) ⟨oi, Heap.get?_push_size _ hfi, hoi.2.1, hoi.2.2, fun q => by cases q⟩ (Nat.le_refl _)
 have g2 := g1.2.plus g1.1 (P := EnP s.heap.objs.size 0) (a := s.heap.objs.size + 1) (h' := h₁) (tk := s.toks) (by
   have := get_size (s.heap.push oi)
   rwa [Heap.size_push] at this) (fun b o hb => (Heap.get?_push_cases hb).elim (fun e => by rw [e.1, e.2]; exact hoi.1) fun e => hk b o e) ⟨_, en, _, rfl⟩ (Nat.le_refl _)
 exact k _ h₁ (Nat.succ_ne_self _) (fun j j' => ((g2.1.plus_same (e := (s.heap.objs.size + 1, EnP s.heap.objs.size 0)) (P' := EnP s.heap.objs.size j')).swap.plus_same (F := F.plus (s.heap.objs.size + 1, EnP s.heap.objs.size j')) (e := (s.heap.objs.size, ItP (.lst l) 0)) (P' := ItP (.lst l) j)).swap) g2.2
theorem en_next {Q : Option Value → Shared → Prop} {EE : Value → Shared → Prop} {it l : Addr} {vs : List Value} (hh : A.handled = none) (hne : it + 1 ≠ it) (hF : ∀ j j', FmOk c ((F.plus (it, ItP (.lst l) j)).plus (it + 1, EnP it j'))) (hI : Inv c ((F.plus (it, ItP (.lst l) j)).plus (it + 1, EnP it j)) G ρ σ s) (hl : G.fz l = some (.lst vs)) (r : VRs G xs vs)
  (k0 : ∀ h, xs[j]? = none → Inv c F G ρ σ { s with heap := h, toks := s.toks } → Q none { s with heap := h })
  (k1 : ∀ x a h tk G', xs[j]? = some x → G.le G' → VR G' (.tup [.int (j : Nat), x]) (.ref a) → (∀ {Q' : Unit → Shared → Prop} {E' : Value → Shared → Prop} {elts : List PySem.Expr} {x1 : Nat} {pos : Pos}, (∀ h', Inv c ((F.plus (it, ItP (.lst l) (j + 1))).plus (it + 1, EnP it (j + 1))) G' ρ σ { s with heap := h', toks := tk } → Q' () { s with heap := h', toks := tk }) →
   wpAny c.M A (letOwnedTupleGo (.Tuple elts x1 pos) (.ref (it + 1)) (.ref a)) Q' E' { s with heap := h, toks := tk }) → Q (some (.ref a)) { s with heap := h, toks := tk }) : wpAny c.M A (pyNext (.ref (it + 1))) Q EE s := by
 refine hI.head.elim fun oe p => p.2.elim fun old hold => hI.swap.head.elim fun ol q => ?_
 have hoe := hold ▸ p.1
 have hlist : s.heap.IsListIter it l j := ⟨ol, q.1, q.2.1, q.2.2.1⟩
 have hll : s.heap.IsList l vs.toArray := hI.lst hl
 cases hxj : xs[j]? with
 | none => exact wpAny_pyNext_enum_end hh hoe hlist hll (by rw [List.getElem?_toArray]; exact getq_none r.length hxj) fun h₂ hx₂ => k0 h₂ hxj ((hI.minus apart_enP).drop (hF j j).tail apart_itP hx₂ (Nat.le_refl _))
 | some x =>
  refine (r.get hxj).elim fun v hv => wpAny_pyNext_enum_item hoe hlist hll (by rw [List.getElem?_toArray]; exact hv.1) hne fun h₂ q1 q2 q3 q4 q5 => ?_
  have t1 : (s.heap.push { cls := .type "tuple", data := .seq #[.int j s.toks, v] }).get? s.heap.objs.size = some { cls := .type "tuple", data := .seq #[.int j s.toks, v] } := Heap.get?_push_size _ rfl
  have g := hI.addFz (a := s.heap.objs.size) (k := .tup [.int j s.toks, v]) (h' := s.heap.push { cls := .type "tuple", data := .seq #[.int j s.toks, v] }) (tk := s.toks) (get_size _) (keep_push _ _) ⟨0, t1⟩ (Nat.le_refl _)
  refine k1 x _ h₂ _ _ hxj g.1 (VR_tup (Gh.fz_addFz _ _ _) (VRs.cons (VR_int _ _) (VRs.cons (hv.2.mono g.1) VRs.nil))) fun hq => wpAny_letOwnedTupleGo_enum q1 fun h₃ q6 q7 => hq h₃ ?_
  have q7 : Heap.SameBut (it + 1) h₂ h₃ := q7
  refine q2.elim fun oi hoi => Inv.both (P' := ItP (.lst l) (j + 1)) (R' := EnP it (j + 1)) hne (hF j j) apart_itP apart_enP g.2 (h' := h₃) (tk := s.toks + 1) (fun b o hb1 hb2 hb => ?_) ((q7.2 it (Ne.symm hne)).trans hoi.1) (Obj.isFreed_of_fields hoi.2.2) ⟨hoi.2.1, hoi.2.2, fun q => by cases q⟩ ⟨_, q6, _, rfl⟩ (Nat.le_succ _)
  rcases Heap.get?_push_cases hb with ⟨e1, e2⟩ | e1
  ·rw [e1, e2]; exact (q7.2 _ (Nat.ne_of_gt (Heap.lt_size hoe))).trans q3
  ·exact (q7.2 b hb1).trans (q5 b o hb1 hb2 e1)
theorem en_iter {Q : Value → Shared → Prop} {EE : Value → Shared → Prop} {it l : Addr} (hI : Inv c ((F.plus (it, ItP (.lst l) j)).plus (it + 1, EnP it j)) G ρ σ s) (h : Q (.ref (it + 1)) s) : wpAny c.M A (pyIter (.ref (it + 1))) Q EE s :=
 hI.head.elim fun _ p => p.2.elim fun _ hold => wpAny_pyIter_enum (hold ▸ p.1) h
theorem s_forEnum {Q : Fl → St → Prop} {nm : Str} {np tpos cpos pos : Pos} {arg : PySem.Expr} {elts : List PySem.Expr} {x1 : Nat} {body : List Stmt} (hc : K.calm = true)
  (he : ∀ env, eval (.Call (.Name nm np) [arg] [] cpos) env = (do callWith cpos (← eval (.Name nm np) env) [] (backTo cpos (starEach [arg] env)) (backToKw cpos (keywordEach [] env)))) (hs : ∀ env, (starEach [arg] env).map (·.1) = [false])
  (hset : ∀ env x, foldedSetIterable (.Call (.Name nm np) [arg] [] cpos) env x = pure x) (hn : (isGI (K.sc.names.lookup nm) && nDbg nm) = true) (hw : GlobAt K.c nm (.type "enumerate")) (Iv : Nat → List V → St → Prop)
  (h : AR K [arg] st (fun vs st => ∃ xs, vs = [.lst xs] ∧ Iv 0 xs st) E)
  (hstep : ∀ e1 e2 j x r st, Iv j (x :: r) st → TA ((K.plus e1).plus e2) (.Tuple elts x1 tpos) (.tup [.int (j : Nat), x]) st (fun _ st => SS ((K.plus e1).plus e2) body st (fun f st => turnK (Iv (j + 1) r st) Q st f) E) E)
  (hend : ∀ j st, Iv j [] st → Q .next st) : SX K (.For (.Tuple elts x1 tpos) (.Call (.Name nm np) [arg] [] cpos) body [] pos) st Q E := by
 intro A G s QQ EE ok hp hI hE H
 refine wpAny_For ?_ (hset _)
 rw [he]
 refine wpAny_bind (wpAny_glob ok.hF ok.hc hI (ok.hs ▸ hn) hw ?_)
 refine wpAny_callWith_any (evalArgs_spl (not_lone hs rfl) (kw_all cpos _ rfl) (h cpos A G s _ EE ok trivial hI hE ⟨fun vs st₁ G₁ ws s₁ q hg₁ hI₁ r₁ => ?_, H.ex⟩))
 obtain ⟨xs, rfl, hiv⟩ := q
 obtain ⟨w, rfl, hx⟩ := one_arg r₁
 obtain ⟨l, vs, rfl, hl, r⟩ := lst_inv hx
 refine wpAny_pure ⟨KeepsOk.ofNoRef fun a => (by intro q; cases q), en_new ok.hF hI₁ hl fun it h hne hFj hI₂ => en_iter hI₂ ?_⟩
 refine codeAny_forLoop_any (LoopI (fun j => (K.plus (it, ItP (.lst l) j)).plus (it + 1, EnP it j)) G₁ xs Iv) (fun k s' hL => hL.elim fun j G' st' hkj hg hI' hp => ?_) xs.length ⟨0, G₁, st₁, rfl, Nat.zero_le _, Gh.le.refl _, hI₂, hiv⟩
 have okj := fun j => (ok.plus (hFj j j).tail).plus (hFj j j)
 have hgg := hg₁.trans hg
 refine wpAny_passesOwn hE (en_next (ok.hA.handled hc) hne hFj hI' (hg.fz _ _ hl) (r.mono hg) (fun h₂ hx hI₄ => wpAny_execs_nil (H.ok .next st' G' .next _ (hend j st' (drop_none (P := fun r => Iv j r st') hx hp)) hgg hI₄ rfl)) fun x a h₂ tk G₂ hx hg₂ hv lg => lg fun h₃ hI₃ => ?_)
 have hgg2 := hgg.trans hg₂
 have Hno : ∀ {G₀ : Gh}, G.le G₀ → Ends (K.plus (it, ItP (.lst l) (j + 1))) G₀ (fun _ (_ _ : Unit) => True) (fun _ _ => False) E (fun _ _ => True) EE := fun hg0 => (H.up hg0).plus apart_itP fun _ _ _ _ _ _ _ _ _ => trivial
 refine wpAny_passesOwn hE (hstep _ _ _ x _ st' (drop_some (P := fun r => Iv j r st') hx hp) (.ref a) A _ _ _ EE (okj _) hv hI₃ hE ((Hno hgg2).plus apart_enP fun _ st₂ G₃ _ s₂ q hg₃ hI₅ _ => ?_))
 refine wpAny_passesOwn hE (q A G₃ s₂ _ EE (okj _) trivial hI₅ hE ((Hno (hgg2.trans hg₃)).plus apart_enP fun f st₃ G₄ fl s₃ q hg₄ hI₆ hf => ?_))
 exact turn_end H ((hgg2.trans hg₃).trans hg₄) ((hI₆.minus apart_enP).minus apart_itP) hf q fun hp => LoopI.next hkj hx (((hg.trans hg₂).trans hg₃).trans hg₄) hI₆ hp
end
end Mine
end
section
namespace Mine
open PySem PySem.W PyProof.Rows PySem.SeqAt
section
variable (K : Kx) (E : X → St → Prop)
noncomputable abbrev kS (r : List Stmt) (Q : Fl → St → Prop) : Fl → St → Prop := fun f st => seqK (SS K r st Q E) Q f st
noncomputable abbrev kA (nm : Str) (Q : V → St → Prop) : V → St → Prop := fun v st => AX K v nm st Q E
noncomputable abbrev kB2 (op : Operator) (a : V) (Q : V → St → Prop) : V → St → Prop := fun b st => OX K op a b st Q E
noncomputable abbrev kB1 (r : PySem.Expr) (op : Operator) (Q : V → St → Prop) : V → St → Prop := fun a st => EX K r st (kB2 K E op a Q) E
noncomputable abbrev kC2 (op : CmpOp) (a : V) (Q : V → St → Prop) : V → St → Prop := fun b st => QX K op a b st Q E
noncomputable abbrev kC1 (r : PySem.Expr) (op : CmpOp) (Q : V → St → Prop) : V → St → Prop := fun a st => EX K r st (kC2 K E op a Q) E
noncomputable abbrev kTX (Q : Bool → St → Prop) : V → St → Prop := fun v st => TX K v st Q E
noncomputable abbrev kR2 (v : V) (Q : List V → St → Prop) : List V → St → Prop := fun vs st => Q (v :: vs) st
noncomputable abbrev kR1 (es : List PySem.Expr) (Q : List V → St → Prop) : V → St → Prop := fun v st => AR K es st (kR2 v Q) E
noncomputable abbrev kK2 (nm : Str) (v : V) (Q : List (Str × V) → St → Prop) : List (Str × V) → St → Prop := fun r st => Q ((nm, v) :: r) st
noncomputable abbrev kK1 (ks : List Keyword) (nm : Str) (Q : List (Str × V) → St → Prop) : V → St → Prop := fun v st => KR K ks st (kK2 nm v Q) E
noncomputable abbrev kP3 (u : V) (vs : List V) (Q : V → St → Prop) : List (Str × V) → St → Prop := fun kv st => CV K u vs kv st Q E
noncomputable abbrev kP2 (u : V) (ks : List Keyword) (Q : V → St → Prop) : List V → St → Prop := fun vs st => KR K ks st (kP3 K E u vs Q) E
noncomputable abbrev kP1 (as : List PySem.Expr) (ks : List Keyword) (Q : V → St → Prop) : V → St → Prop := fun u st => AR K as st (kP2 K E u ks Q) E
noncomputable abbrev kM4 (m : Mt) (vs : List V) (Q : V → St → Prop) : List (Str × V) → St → Prop := fun kv st => CM K m vs kv st Q E
noncomputable abbrev kM3 (m : Mt) (ks : List Keyword) (Q : V → St → Prop) : List V → St → Prop := fun vs st => KR K ks st (kM4 K E m vs Q) E
noncomputable abbrev kM2 (as : List PySem.Expr) (ks : List Keyword) (Q : V → St → Prop) : Mt → St → Prop := fun m st => AR K as st (kM3 K E m ks Q) E
noncomputable abbrev kM1 (nm : Str) (as : List PySem.Expr) (ks : List Keyword) (Q : V → St → Prop) : V → St → Prop := fun u st => MX K u nm st (kM2 K E as ks Q) E
noncomputable abbrev kI (a b : List Stmt) (Q : Fl → St → Prop) : Bool → St → Prop := fun c st => if c = true then SS K a st Q E else SS K b st Q E
noncomputable abbrev kU (r : List Stmt) (Q : Fl → St → Prop) : Unit → St → Prop := fun _ st => SS K r st Q E
noncomputable abbrev kE (r : List Stmt) (Q : Fl → St → Prop) : V → St → Prop := fun _ st => SS K r st Q E
noncomputable abbrev kT (t : PySem.Expr) (Q : Unit → St → Prop) : V → St → Prop := fun v st => TA K t v st Q E
noncomputable abbrev kN (Q : Fl → St → Prop) : Unit → St → Prop := fun _ st => Q .next st
noncomputable abbrev kRet (Q : Fl → St → Prop) : V → St → Prop := fun v st => Q (.ret v) st
noncomputable abbrev kAt (nm : Str) (v : V) (Q : Unit → St → Prop) : V → St → Prop := fun u st => AS K u nm v st Q E
noncomputable abbrev kI2 (u v : V) (Q : Unit → St → Prop) : V → St → Prop := fun k st => IS K u k v st Q E
noncomputable abbrev kI1 (i : PySem.Expr) (v : V) (Q : Unit → St → Prop) : V → St → Prop := fun u st => EX K i st (kI2 K E u v Q) E
noncomputable abbrev kG2 (u : V) (Q : V → St → Prop) : V → St → Prop := fun k st => IG K u k st Q E
noncomputable abbrev kG1 (i : PySem.Expr) (Q : V → St → Prop) : V → St → Prop := fun u st => EX K i st (kG2 K E u Q) E
noncomputable abbrev kTup (Q : V → St → Prop) : List V → St → Prop := fun vs st => vs.length ≤ lim ∧ Q (.tup vs) st
noncomputable abbrev kNot (Q : Bool → St → Prop) : Bool → St → Prop := fun b st => Q (!b) st
noncomputable abbrev kTL (op : BoolOp) (es : List PySem.Expr) (Q : Bool → St → Prop) : Bool → St → Prop := fun b st => bopK op b (Q b st) (TL K op es st Q E)
noncomputable abbrev kBo2 (op : BoolOp) (e' : PySem.Expr) (es : List PySem.Expr) (v : V) (Q : V → St → Prop) : Bool → St → Prop := fun b st => bopK op b (Q v st) (BX K op (e' :: es) st Q E)
noncomputable abbrev kBo (op : BoolOp) (e' : PySem.Expr) (es : List PySem.Expr) (Q : V → St → Prop) : V → St → Prop := fun v st => TX K v st (kBo2 K E op e' es v Q) E
noncomputable abbrev kF (t : PySem.Expr) (body : List Stmt) (Q : Fl → St → Prop) : V → St → Prop := fun v st => FX K t body v st Q E
noncomputable abbrev kTurn (A : St → Prop) (Q : Fl → St → Prop) : Fl → St → Prop := fun f st => turnK (A st) Q st f
noncomputable def kV (r : List Stmt) (Q : Fl → St → Prop) (x : Str) (v : V) (st : St) : Prop := SS K r ⟨upd st.ρ x v, st.σ⟩ Q E
noncomputable def kW (Q : Unit → St → Prop) (x : Str) (v : V) (st : St) : Prop := Q () ⟨upd st.ρ x v, st.σ⟩
noncomputable def kWv (Q : V → St → Prop) (x : Str) (v : V) (st : St) : Prop := Q v ⟨upd st.ρ x v, st.σ⟩
noncomputable def kAug (op : Operator) (a : V) (Q : V → St → Prop) (b : V) (st : St) : Prop := ∀ va vb, Run K (fun G => VR G a va ∧ VR G b vb) (inplaceOp op va vb) RV st Q E
end
noncomputable def lcfB (K : Kx) (x : Str) : Bool := isLCF (K.sc.names.lookup x) && nDbg x
noncomputable def gibB (K : Kx) (x : Str) : Bool := isGI (K.sc.names.lookup x) && nDbg x
noncomputable def lcB (K : Kx) (x : Str) : Bool := isLC (K.sc.names.lookup x)
section
variable {K : Kx} {st : St} {ρ : Str → Option V} {σ σ' : List O} {E : X → St → Prop} {Q : V → St → Prop} {QF : Fl → St → Prop} {QB : Bool → St → Prop} {QU : Unit → St → Prop} {v : V} {nm x : Str} {p pos : Pos} {r : List Stmt} {e : PySem.Expr}
theorem ss_id {t : Stmt} (h : SS K (t :: r) st QF E) : SS K (t :: r) st QF E := h
theorem y_cons {t : Stmt} (h : SX K t st (kS K E r QF) E) : SS K (t :: r) st QF E := s_cons h
theorem y_look (h : lcfB K x = true) (hv : st.ρ x = some v) (q : Q v st) : EX K (.Name x p) st Q E := x_look h hv q
theorem y_glob {w : Value} (h : gibB K x = true) (hw : GlobAt K.c x w) (q : Q (.glob w) st) : EX K (.Name x p) st Q E := x_glob h hw (fun _ => VR_glob _) q
theorem y_globI {i : Int} (h : gibB K x = true) (hw : ∃ t, GlobAt K.c x (.int i t)) (q : Q (.int i) st) : EX K (.Name x p) st Q E := x_globI h hw q
theorem y_attr {o : PySem.Expr} (hb : ∀ env whole, attributeBase o nm env whole = whole) (h : EX K o st (kA K E nm Q) E) : EX K (.Attribute o nm p) st Q E := x_attr hb h
theorem y_bin {l r : PySem.Expr} {op : Operator} (h : EX K l st (kB1 K E r op Q) E) : EX K (.BinOp l op r p) st Q E := x_bin h
theorem y_cmp {l r : PySem.Expr} {op : CmpOp} (hm : behindInMarks op r = false) (h : EX K l st (kC1 K E r op Q) E) : EX K (.Compare l [op] [r] p) st Q E := x_cmp hm h
theorem y_qcmp {l r : PySem.Expr} {op : CmpOp} (hm : behindInMarks op r = false) (h : EX K l st (kC1 K E r op (kTX K E QB)) E) : TS K (.Compare l [op] [r] p) st QB E := q_cmp hm h
theorem y_qplain (he : ∀ env whole, isTrue e env whole = (do let v ← whole; PySem.standAt e.pos; PySem.holding [v] (truthy v))) (h : EX K e st (kTX K E QB) E) : TS K e st QB E := q_plain he h
theorem y_qnot (h : TS K e st (kNot QB) E) : TS K (.UnaryOp .Not e p) st QB E := q_not h
theorem y_acons {es : List PySem.Expr} {Q : List V → St → Prop} (g : ∀ env, starEach (e :: es) env = (false, eval e env) :: starEach es env) (h : EX K e st (kR1 K E es Q) E) : AR K (e :: es) st Q E := a_cons g h
theorem y_kcons {ks : List Keyword} {Q : List (Str × V) → St → Prop} (h : EX K e st (kK1 K E ks nm Q) E) : KR K (⟨some nm, e, p⟩ :: ks) st Q E := k_cons h
theorem y_call {f : PySem.Expr} {as : List PySem.Expr} {ks : List Keyword} (he : ∀ env, eval (.Call f as ks pos) env = (do callWith pos (← eval f env) [] (backTo pos (starEach as env)) (backToKw pos (keywordEach ks env))))
  (hs : ∀ env, (starEach as env).map (·.1) = stars as) (hb : (stars as == [true]) = false) (hn : ks.all named = true) (h : EX K f st (kP1 K E as ks Q) E) : EX K (.Call f as ks pos) st Q E := c_plain he hs hb hn h
theorem y_meth {o : PySem.Expr} {apos : Pos} {as : List PySem.Expr} {ks : List Keyword} (hb : ∀ env whole, attributeBase o nm env whole = whole) (hline : (apos.endLine == pos.line) = true)
  (hf : ∀ env, methodCallForm (as.length + ks.length) (backTo pos (starEach as env)) (backToKw pos (keywordEach ks env)) = true) (hs : ∀ env, (starEach as env).map (·.1) = stars as) (hbs : (stars as == [true]) = false) (hn : ks.all named = true)
  (h : EX K o st (kM1 K E nm as ks Q) E) : EX K (.Call (.Attribute o nm apos) as ks pos) st Q E := c_meth hb hline hf hs hbs hn h
theorem y_if {t : PySem.Expr} {a b : List Stmt} (h : TS K t st (kI K E a b (kS K E r QF)) E) : SS K (.If t a b p :: r) st QF E := s_cons (s_if h)
theorem y_set (hx : ∀ env, exec (.Assign [.Name x p] e pos) env = (do PySem.standAt pos; let v ← eval e env; assign (.Name x p) env v; pure .next)) (hl : lcB K x = true) (h : EX K e st (kV K E r QF x) E) : SS K (.Assign [.Name x p] e pos :: r) st QF E :=
 s_cons (s_assign hx (Run.imp h fun v st q => ta_name (n_set (ρ := st.ρ) (σ := st.σ) hl (seqN q))))
theorem v_go (h : SS K r ⟨upd ρ x v, σ⟩ QF E) : kV K E r QF x v ⟨ρ, σ⟩ := h
theorem y_assign {t : PySem.Expr} (hx : ∀ env, exec (.Assign [t] e pos) env = (do PySem.standAt pos; let v ← eval e env; assign t env v; pure .next)) (h : EX K e st (kT K E t (kU K E r QF)) E) : SS K (.Assign [t] e pos :: r) st QF E := s_cons (s_assign hx h)
theorem y_expr (hx : ∀ env, interactive env = false → exec (.Expr e p) env = (do PySem.standAt p; let v ← eval e env; dropValue e p v)) (h : EX K e st (kE K E r QF) E) : SS K (.Expr e p :: r) st QF E := s_cons (s_expr hx h)
theorem y_ret (h : EX K e st (kRet QF) E) : SS K (.Return (some e) p :: r) st QF E := s_cons (s_ret h)
theorem y_aug {np : Pos} {op : Operator} {a : V} (hl : K.sc.names.lookup x = some .local) (hv : st.ρ x = some a) (h : EX K e st (kAug K E op a (kV K E r QF x)) E) : SS K (.AugAssign (.Name x np) op e p :: r) st QF E :=
 s_cons (s_aug hl hv (Run.imp h fun b st q va vb => Run.imp (q va vb) fun v st q => n_set (ρ := st.ρ) (σ := st.σ) (by rw [hl]; rfl) (seqN q)))
theorem y_iadd {x y : V} {i j : Int} (hx : x.num = some i) (hy : y.num = some j) (q : Q (.int (i + j)) st) : kAug K E .Add x Q y st := i_add hx hy q
theorem y_tname (hl : lcB K x = true) (h : kW QU x v st) : TA K (.Name x p) v st QU E := ta_name (n_set (ρ := st.ρ) (σ := st.σ) hl h)
theorem w_go (h : QU () ⟨upd ρ x v, σ⟩) : kW QU x v ⟨ρ, σ⟩ := h
theorem y_tattr {o : PySem.Expr} (h : EX K o st (kAt K E nm v QU) E) : TA K (.Attribute o nm p) v st QU E := ta_attr h
theorem y_titem {o i : PySem.Expr} (h : EX K o st (kI1 K E i v QU) E) : TA K (.Subscript o i p) v st QU E := ta_item h
theorem y_item {o i : PySem.Expr} (hs : ∀ o k, subscripted i false o k = operate [o, k] (getItem o k)) (h : EX K o st (kG1 K E i Q) E) : EX K (.Subscript o i p) st Q E := x_item hs h
theorem y_tuple {es : List PySem.Expr} {x1 : Nat} (h : AR K es st (kTup Q) E) : EX K (.Tuple es x1 p) st Q E := x_tuple h
theorem y_walrus {np : Pos} (hl : lcB K x = true) (h : EX K e st (kWv Q x) E) : EX K (.NamedExpr (.Name x np) e p) st Q E := x_walrus (Run.imp h fun v st q => n_set (ρ := st.ρ) (σ := st.σ) hl q)
theorem wv_go (h : Q v ⟨upd ρ x v, σ⟩) : kWv Q x v ⟨ρ, σ⟩ := h
theorem y_tlcons {op : BoolOp} {es : List PySem.Expr} (h : TS K e st (kTL K E op es QB) E) : TL K op (e :: es) st QB E := tl_cons h
theorem y_bmore {op : BoolOp} {e' : PySem.Expr} {es : List PySem.Expr} (h : EX K e st (kBo K E op e' es Q) E) : BX K op (e :: e' :: es) st Q E := b_more h
theorem y_for {t it : PySem.Expr} {body : List Stmt} (hs : ∀ env x, foldedSetIterable it env x = pure x) (h : EX K it st (kF K E t body QF) E) : SX K (.For t it body [] pos) st QF E := s_for hs h
theorem y_assignC {elt : PySem.Expr} {gs : List Comprehension} {csc : Scope} {spos : Pos} (hl : K.sc.names.lookup x = some .cell) (h : EX K (.ListComp elt gs csc pos) st (kT K E (.Name x p) (kN QF)) E) : SX K (.Assign [.Name x p] (.ListComp elt gs csc pos) spos) st QF E := s_assignC hl h
end
noncomputable def kCz (Z : List V → St → Prop) (ρ : Str → Option V) (zs : List V) (st : St) : Prop := Z zs ⟨ρ, st.σ⟩
noncomputable def kC (K : Kx) (elt t : PySem.Expr) (fs : List PySem.Expr) (gs : List Comprehension) (csc : Scope) (Z : List V → St → Prop) (v : V) (st : St) : Prop :=
 ∃ xs σ', ItV st.σ v xs σ' ∧ CEach (K.inn csc) t fs (CB (K.inn csc) elt gs) xs [] ⟨innerρ csc st.ρ, σ'⟩ (kCz Z st.ρ)
noncomputable abbrev kZ (Q : V → St → Prop) : List V → St → Prop := fun zs st => Q (.lst zs) st
noncomputable def kZO (Q : V → St → Prop) (zs : List V) (st : St) : Prop := Q (.obj st.σ.length) ⟨st.ρ, st.σ ++ [.list zs]⟩
noncomputable def kZA (Q : Fl → St → Prop) (x : Str) (zs : List V) (st : St) : Prop := Q .next ⟨upd st.ρ x (.lst zs), st.σ⟩
noncomputable abbrev kTe (k : Kx) (fs : List PySem.Expr) (Q : Bool → St → Prop) : Bool → St → Prop := fun b st => if b = true then TEs k fs st Q else Q false st
noncomputable abbrev kElt (acc : List V) (Q : List V → St → Prop) : V → St → Prop := fun v st => acc.length < lim ∧ Q (acc ++ [v]) st
noncomputable abbrev kTes (k : Kx) (fs : List PySem.Expr) (Q : Bool → St → Prop) : Unit → St → Prop := fun _ st => TEs k fs st Q
noncomputable abbrev kExs (k : Kx) (elt : PySem.Expr) (Y : V → St → Prop) : Unit → St → Prop := fun _ st => EXs k elt st Y
noncomputable abbrev kBr (B : List V → St → (List V → St → Prop) → Prop) (acc : List V) (I : List V → St → Prop) : Bool → St → Prop := fun b st => match b with
 | true => B acc st I
 | false => I acc st
noncomputable abbrev kSel (k : Kx) (elt : PySem.Expr) (Y : V → St → Prop) (Z : St → Prop) : Bool → St → Prop := fun b st => match b with
 | true => EXs k elt st Y
 | false => Z st
section
variable {K : Kx} {st : St} {ρ ρ' : Str → Option V} {σ σ' : List O} {E : X → St → Prop} {Q : V → St → Prop} {QF : Fl → St → Prop} {Z : List V → St → Prop} {elt t it0 : PySem.Expr} {fs : List PySem.Expr} {gs : List Comprehension} {csc : Scope} {pos p spos : Pos} {xs zs : List V} {x : Str} {v : V}
theorem y_comp (hc : K.calm = true) (hset : ∀ env x, foldedSetIterable it0 env x = pure x) (hnest : nestOk K.sc csc = true) (h : EX K it0 st (kC K elt t fs gs csc (kZ Q)) E) : EX K (.ListComp elt (⟨t, it0, fs, 0⟩ :: gs) csc pos) st Q E := x_comp hc hset hnest h
theorem y_compO (hc : K.calm = true) (hset : ∀ env x, foldedSetIterable it0 env x = pure x) (hnest : nestOk K.sc csc = true) (h : EX K it0 st (kC K elt t fs gs csc (kZO Q)) E) : EX K (.ListComp elt (⟨t, it0, fs, 0⟩ :: gs) csc pos) st Q E := x_compO hc hset hnest h
theorem y_acomp (hc : K.calm = true) (hset : ∀ env x, foldedSetIterable it0 env x = pure x) (hnest : nestOk K.sc csc = true)
  (hl : K.sc.names.lookup x = some .local) (hpl : (p.line == pos.line && !(csc.names.any fun (n, k) => n == x && (k == .local || k == .cell))) = true) (h : EX K it0 st (kC K elt t fs gs csc (kZA QF x)) E) : SX K (.Assign [.Name x p] (.ListComp elt (⟨t, it0, fs, 0⟩ :: gs) csc pos) spos) st QF E :=
 s_acompL hc hset hnest hl hpl (Run.imp h fun v st q => q.elim fun xs q => q.elim fun σ' q => ⟨xs, σ', q.1, CEach.mono (CB.mono _) _ _ _ _ _ (fun zs st' q e => n_set (ρ := st.ρ) (σ := st'.σ) (by show isLC (K.sc.names.lookup x) = true; rw [hl]; rfl) q) q.2⟩)
theorem y_it (h : ItV σ v xs σ') (h2 : CEach (K.inn csc) t fs (CB (K.inn csc) elt gs) xs [] ⟨innerρ csc ρ, σ'⟩ (kCz Z ρ)) : kC K elt t fs gs csc Z v ⟨ρ, σ⟩ := ⟨xs, σ', h, h2⟩
theorem y_lst (h2 : CEach (K.inn csc) t fs (CB (K.inn csc) elt gs) xs [] ⟨innerρ csc ρ, σ⟩ (kCz Z ρ)) : kC K elt t fs gs csc Z (.lst xs) ⟨ρ, σ⟩ := ⟨xs, σ, .lst, h2⟩
theorem cz_go (h : Z zs ⟨ρ, σ⟩) : kCz Z ρ zs ⟨ρ', σ⟩ := h
theorem zo_go (h : Q (.obj σ.length) ⟨ρ, σ ++ [.list zs]⟩) : kZO Q zs ⟨ρ, σ⟩ := h
theorem za_go (h : QF .next ⟨upd ρ x (.lst zs), σ⟩) : kZA QF x zs ⟨ρ, σ⟩ := h
end
end Mine
end
section
namespace Mine
open PySem PySem.W PyProof.Rows PySem.SeqAt
theorem turnK.imp' {A A' : Prop} {QF : Fl → St → Prop} {st : St} {f : Fl} (h : turnK A QF st f) (ha : A → A') : turnK A' QF st f := by
 cases f <;> first | exact ha h | exact h
noncomputable abbrev kWh (K : Kx) (E : X → St → Prop) (body orelse : List Stmt) (Qb Q : Fl → St → Prop) : Bool → St → Prop := fun b st => if b = true then SS K body st Qb E else SS K orelse st Q E
section
variable {K : Kx} {st : St} {ρ : Str → Option V} {σ σ' : List O} {E : X → St → Prop} {v : V} {xs : List V}
theorem g_def {a : Addr} {fd : FuncData} {sc : Scope} {body : List Stmt} {vs : List V} {kv bs : List (Str × V)} {Q : V → St → Prop} (hn : 0 < K.n) (hd : DefOk K.c a fd sc body) (hb : BD K fd vs kv bs) (hall : bs.all (fun e => isLC (sc.names.lookup e.1)) = true)
  (h : ∀ (F' : Fm) (Q' : Fl → St → Prop) (E' : X → St → Prop), FnFm F' → (∀ v st, Q v ⟨ρ, st.σ⟩ → Q' (.ret v) st) → (∀ st, Q .none ⟨ρ, st.σ⟩ → Q' .next st) → (∀ x st, E x ⟨ρ, st.σ⟩ → E' x st) → SS (K.body F' sc) body ⟨bindsR bs fun _ => none, σ⟩ Q' E') : CX K (.ref a) vs kv ⟨ρ, σ⟩ Q E :=
 def_call hn hd hb hall fun F' hF => h F' _ _ hF (fun _ _ h => h) (fun _ h => h) fun _ _ h => h
theorem o_items {α : Type} {f : α → V} {Q : Fl → St → Prop} {t : PySem.Expr} {body : List Stmt} (hc : K.calm = true) (l : List α) (hx : xs = l.map f) (Iv : List α → (Str → Option V) → List O → Prop) (hv : ItV σ v xs σ') (h0 : Iv [] ρ σ')
  (hstep : ∀ (I : List α → St → Prop) (Q' : Fl → St → Prop) (E' : X → St → Prop), (∀ d ρ σ, Iv d ρ σ → I d ⟨ρ, σ⟩) → (∀ f st, Q f st → Q' f st) → ∀ e done a rest ρ σ, l = done ++ a :: rest → Iv done ρ σ → TA (K.plus e) t (f a) ⟨ρ, σ⟩ (kU (K.plus e) E' body (kTurn (I (done ++ [a])) Q')) E')
  (hend : ∀ ρ σ, Iv l ρ σ → Q .next ⟨ρ, σ⟩) : FX K t body v ⟨ρ, σ⟩ Q E := by
 subst hx
 refine f_items hc (fun rest st => ∃ done r, l = done ++ r ∧ rest = r.map f ∧ Iv done st.ρ st.σ) hv ⟨[], l, rfl, rfl, h0⟩ (fun e x rest st h => ?_) fun st h => ?_
 ·obtain ⟨done, r, h1, h2, h3⟩ := h
  cases r with
  | nil => cases h2
  | cons a r =>
   rw [List.map_cons] at h2
   injection h2 with h2a h2b
   subst h2a
   refine fun w => Run.imp (hstep (fun d st => d = done ++ [a] → ∃ done r, l = done ++ r ∧ rest = r.map f ∧ Iv done st.ρ st.σ) Q E (fun d ρ σ h e => ?_) (fun _ _ h => h) e done a r st.ρ st.σ h1 h3 w) fun _ st q => Run.imp q fun f st q => q.imp' fun q => q rfl
   subst e
   exact ⟨_, r, by rw [h1, List.append_assoc]; rfl, h2b, h⟩
 ·obtain ⟨done, r, h1, h2, h3⟩ := h
  cases r with
  | nil => rw [List.append_nil] at h1; subst h1; exact hend _ _ h3
  | cons a r => cases h2
theorem o_while {Q : Fl → St → Prop} {t : PySem.Expr} {body orelse : List Stmt} {pos : Pos} (Iv : Nat → (Str → Option V) → List O → Prop) (k0 : Nat) (h0 : Iv k0 ρ σ)
  (hstep : ∀ (I : Nat → St → Prop) (Q' : Fl → St → Prop) (E' : X → St → Prop), (∀ k ρ σ, Iv k ρ σ → I k ⟨ρ, σ⟩) → (∀ f st, Q f st → Q' f st) → ∀ k ρ σ, Iv k ρ σ → TS K t ⟨ρ, σ⟩ (kWh K E' body orelse (kTurn (fun st => ∃ m, m < k ∧ I m st) Q') Q') E') : SX K (.While t body orelse pos) ⟨ρ, σ⟩ Q E :=
 s_while (fun k st => Iv k st.ρ st.σ) k0 h0 fun k st h => hstep (fun k st => Iv k st.ρ st.σ) Q E (fun _ _ _ h => h) (fun _ _ h => h) k st.ρ st.σ h
theorem o_own {C fI fN : Addr} {i : Nat} {Q : Fl → St → Prop} {t : PySem.Expr} {body : List Stmt} (hO : OwnIt K.c C fI fN) (Iv : Nat → (Str → Option V) → List O → Prop) (k0 : Nat) (hi : IsO ⟨ρ, σ⟩ i C)
  (h0 : CX K (.ref fI) [.obj i] [] ⟨ρ, σ⟩ (fun u st' => u = .obj i ∧ IsO st' i C ∧ Iv k0 st'.ρ st'.σ) E)
  (hstep : ∀ (I : Nat → St → Prop) (Q' : Fl → St → Prop) (E' : X → St → Prop), (∀ k ρ σ, Iv k ρ σ → I k ⟨ρ, σ⟩) → (∀ f st, Q f st → Q' f st) → ∀ k ρ σ, Iv k ρ σ → NXO K C fN i ⟨ρ, σ⟩ (fun x st => IsO st i C ∧ TA K t x st (kU K E' body (kTurn (fun st => ∃ m, m < k ∧ I m st) Q')) E') fun st => Q' .next st) : FX K t body (.obj i) ⟨ρ, σ⟩ Q E :=
 f_own hO (fun k st => Iv k st.ρ st.σ) k0 hi h0 fun k st h => hstep (fun k st => Iv k st.ρ st.σ) Q E (fun _ _ _ h => h) (fun _ _ h => h) k st.ρ st.σ h
theorem o_enum {α : Type} {f : α → V} {Q : Fl → St → Prop} {nm : Str} {np tpos cpos pos : Pos} {arg : PySem.Expr} {elts : List PySem.Expr} {x1 : Nat} {body : List Stmt} (hc : K.calm = true)
  (he : ∀ env, eval (.Call (.Name nm np) [arg] [] cpos) env = (do callWith cpos (← eval (.Name nm np) env) [] (backTo cpos (starEach [arg] env)) (backToKw cpos (keywordEach [] env)))) (hs : ∀ env, (starEach [arg] env).map (·.1) = [false])
  (hset : ∀ env x, foldedSetIterable (.Call (.Name nm np) [arg] [] cpos) env x = pure x) (hn : (isGI (K.sc.names.lookup nm) && nDbg nm) = true) (hw : GlobAt K.c nm (.type "enumerate")) (Iv : (Str → Option V) → List O → Prop)
  (h : AR K [arg] st (fun vs st => ∃ xs, vs = [.lst xs] ∧ ∃ l : List α, xs = l.map f ∧ Iv st.ρ st.σ) E)
  (hstep : ∀ (I : St → Prop) (Q' : Fl → St → Prop) (E' : X → St → Prop), (∀ ρ σ, Iv ρ σ → I ⟨ρ, σ⟩) → ∀ e1 e2 (j : Nat) a ρ σ, Iv ρ σ → TA ((K.plus e1).plus e2) (.Tuple elts x1 tpos) (.tup [.int j, f a]) ⟨ρ, σ⟩ (kU ((K.plus e1).plus e2) E' body (kTurn I Q')) E')
  (hend : ∀ ρ σ, Iv ρ σ → Q .next ⟨ρ, σ⟩) : SX K (.For (.Tuple elts x1 tpos) (.Call (.Name nm np) [arg] [] cpos) body [] pos) st Q E :=
 s_forEnum hc he hs hset hn hw (fun _ r st => ∃ l : List α, r = l.map f ∧ Iv st.ρ st.σ) h (fun e1 e2 j x r st h w => h.elim fun l h => by
  cases l with
  | nil => cases h.1
  | cons a l =>
   obtain ⟨h1, h2⟩ := h
   rw [List.map_cons] at h1
   injection h1 with h1a h1b
   subst h1a
   exact Run.imp (hstep (fun st => Iv st.ρ st.σ) Q E (fun _ _ h => h) e1 e2 j a st.ρ st.σ h2 w) fun _ st q => Run.imp q fun f st q => q.imp' fun q => ⟨l, h1b, q⟩) fun j st h => h.elim fun l h => hend _ _ h.2
end
end Mine
end
section
namespace Mine
open PySem PySem.W PyProof.Rows PySem.SeqAt
set_option compiler.extract_closed false
local macro_rules
 | `(tactic| walk_at $key:str) => do
  let tb : String := match key.getString with
   | "gl" => "gl__pull! gl__same! gl_groupby! gl__grouper! gl__count_kind! gl_count! gl_itemgetter! gl__rank! gl__NodeInfo! gl_CycleError! gl_TopologicalSorter! gl__law_marks! gl__law_twice! gl__law_some! gl__law_all! gl__law_rounds! gl__law_plain! gl__law_by_rounds! gl_StopIteration! gl_len! gl_sorted! gl_sum! gl_iter! gl_next! gl_abs! gl_range! gl_list! gl_tuple! gl_bool! gl_set! gl_type! gl_zip! gl_int! gl_float! gl_enumerate!"
   | "gi" => "gl__NODE_OUT! gl__NODE_DONE! gl__MAXSIZE!"
   | "sl" => "sl_83_0! sl_83_1! sl_83_2! sl_83_3! sl_83_4! sl_83_5! sl_83_6! sl_83_7! sl_83_8! sl_83_9! sl_128_0! sl_128_1! sl_128_2! sl_181_0! sl_181_1! sl_181_2! sl_226_0! sl_256_0! sl_256_1! sl_256_2!"
   | "me" => "me_58! me_65! me_72! me_79! me_110! me_117! me_124! me_156! me_163! me_170! me_201! me_208! me_252! me_289! me_296! me_303! me_308! me_315! me_322! me_336! me_343!"
   | "fl" => "fl_node2info! fl_ready_nodes! fl_npassedout! fl_nfinished!"
   | "kn" => "kn_35! kn_42! kn_72! kn_83! kn_128! kn_140! kn_181! kn_208! kn_226! kn_237! kn_256! kn_296! kn_303! kn_308! kn_315! kn_322! kn_336! kn_343! kn_353! kn_362! kn_367! kn_372! kn_377! kn_384! kn_389! kn_396!"
   | "ms" => "! get_app_len!! get_set_same:m$ get_set_ne:nm$ get_app_old:m$"
   | "mr" => "! br_cons:r$ br_nil:r$ upd_same!! upd_ne:Kr$ inner_free:Kr$"
   | "l" => "v_go: w_go: wv_go: cz_go: zo_go: za_go: y_if: y_set:EK y_assign:E y_expr:x y_ret: y_aug:Kr y_cons: s_nil: y_look:Kr y_glob:Kg y_globI:Ki x_int: x_none: x_dictO: x_bool: x_str: y_attr:F a_slot:ms=R a_inst:mfmRR s_slotS:msB s_slot:msB s_instS:mfmL s_inst:mfmL n_set:K y_bin: o_add:RR o_sub:RR y_cmp:= q_lt:RR q_gt:RR q_le:RR q_ge:RR q_isN:R q_isnotN:R q_isT: q_isnotR: t_bool: t_none: a_nil: y_acons:E k_nil: y_kcons: y_tuple: y_not: x_negI: y_walrus:K x_boolop: b_one: y_bmore: s_pass: s_break: s_cont: y_qnot: q_boolop: y_qcmp:= y_qplain:F s_if: s_assign:E s_expr:x s_ret: s_aug:Kr tl_nil: y_tlcons: y_tname:K y_tattr: y_titem: ta_two:RE s_assign2:E s_augA: y_iadd:RR y_isub:RR i_add:RR i_sub:RR s_raiseStop:RKg s_del: y_item:F x_sortzip:ao===ggE y_meth:F=EE== y_call:EE== m_slots:mM m_val:ms=R m_inst:mmRM m_dict:m1 m_fdict:m1 m_dict:m2 m_list:m3 m_list:m4 m_list:m5 m_set:m bm_getS:ma bm_getN:ma bm_fgetS:ma bm_append:mL i_dict:mL g_dict:ma g_fdict:ma cm_val: cm_fn:k cv_code:k cv_blt:= b_iterL: b_typeS:m b_typeI: b_boolO:mL b_tupleO:mL bm_clear:mL g_lst:Ld= o_addT0:L b_lenT:L b_lenL:L b_lenO:mL g_tup:Ld= q_eqI:RR q_neI:RR q_neS: And.intro:L neg_here:= seqN: seqR: seqB: seqC: turnN: turnC: turnB: turnR: retN: retR: ifT:R ifF:R bopAt:R bopAf:R bopOt:R bopOf:R"
   | "nq" => "nA:=$ nB:=$ nC:=$ nD:a=$ nE:a=$ nF:a$ nG:a$ nH:a=$ nI:a=$ nJ:a$ nK:a$ nL:a$ nM:a$ nN:a$ nO:a$ nP:a$ nQ:a$"
   | _ => ""
  if tb == "" then
   match key.getString with
   | "K" => `(tactic| kernel_rfl)
   | "=" => `(tactic| rfl)
   | "a" => `(tactic| assumption)
   | "R" => `(tactic| first | rfl | assumption)
   | "E" => `(tactic| exact fun _ => rfl)
   | "F" => `(tactic| exact fun _ _ => rfl)
   | "L" => `(tactic| first | exact Nat.le_of_ble_eq_true rfl | assumption)
   | "B" => `(tactic| exact Nat.le_of_ble_eq_true rfl)
   | "d" => `(tactic| decide)
   | "n" => `(tactic| first | with_reducible assumption | with_reducible exact Ne.symm (by assumption) | walk_at "nq" | omega)
   | "o" => `(tactic| first | assumption | omega)
   | "v" => `(tactic| (intro _; exact VR_glob _))
   | "x" => `(tactic| (intro _ hi; rw [arm_exec_Expr, hi]; rfl))
   | "!" => `(tactic| assumption)
   | _ => Lean.Macro.throwUnsupported
  else
   let sc : Nat ← Lean.MonadQuotation.getCurrMacroScope
   let nd (k : Lean.Name) (l : List Lean.Syntax) : Lean.Syntax := .node .none k l.toArray
   let at1 (s : String) : Lean.Syntax := .atom .none s
   let idn (n : Lean.Name) : Lean.Syntax := .ident .none (Lean.Name.toString n).toSubstring n []
   let sq (l : List Lean.Syntax) : Lean.Syntax := nd ``Lean.Parser.Tactic.tacticSeq [nd ``Lean.Parser.Tactic.tacticSeq1Indented [nd `null (l.intersperse (at1 ";"))]]
   let wr (t : Lean.Syntax) : Lean.Syntax := nd ``Lean.Parser.Tactic.withReducible [at1 "with_reducible", sq [t]]
   let wk (s : String) : Lean.Syntax := nd `PyProof.Rows.tacticWalk_at_ [at1 "walk_at ", .node .none `str #[at1 s.quote]]
   let app (h : String) (n : String) (l : List Lean.Syntax) : Lean.Syntax :=
    let f := idn n.toName
    wr (nd (.str `Lean.Parser.Tactic h) [at1 h, if l.isEmpty then f else nd ``Lean.Parser.Term.app [f, nd `null l]])
   let hole (n : Lean.Name) : Lean.Syntax := nd ``Lean.Parser.Term.syntheticHole [at1 "?", idn n]
   let alt (w : String) : Lean.Syntax :=
    match w.splitOn ":" with
    | [n, cs] =>
     let l := cs.toList
     let (as, qs) := (l.filter (· != '$')).foldl (fun (p : List Lean.Syntax × List Lean.Syntax) c =>
      let nm : Lean.Name := .num (.num `j sc) p.1.length
      if c.isDigit then
       let x := if c == '1' then "dict_get" else if c == '2' then "dict_values" else if c == '3' then "list_append" else if c == '4' then "list_pop" else "list_clear"
       (p.1 ++ [idn ("PySem.F.slot_" ++ x).toName, idn ("PySem.F.type_" ++ x).toName], p.2)
      else
       let k := match c with | 'm' => "ms" | 's' => "sl" | 'g' => "gl" | 'i' => "gi" | 'f' => "fl" | 'M' => "me" | 'k' => "kn" | 'r' => "mr" | _ => c.toString
       (p.1 ++ [hole nm], p.2 ++ [nd ``Lean.Parser.Tactic.case [at1 "case", nd `null [nd ``Lean.Parser.Tactic.caseArg [nd ``Lean.binderIdent [idn nm], nd `null []]], at1 "=>", sq [wk k]]])) ([], [])
     sq (app "refine'" n (if l.contains '$' then as else as ++ [hole (.num `k sc)]) :: qs)
    | _ =>
     if w == "!" then sq [wr (wk "!")]
     else
      let n := (w.takeWhile (· != '!')).toString
      if w.endsWith "!!" then sq [app "exact" n []]
      else sq [app "refine'" n [hole (.num `j sc)], wk "!"]
   return nd ``Lean.Parser.Tactic.first [at1 "first", nd `null ((tb.splitOn " ").map fun w => nd `group [at1 "|", alt w])]
section
section
variable {K : Kx} {ρ : Str → Option V} {σ : List O} {E : X → St → Prop} {Q : V → St → Prop} {i : Nat}
theorem k_pull (h : Opened K.c) (hc : K.calm = true) (hn : 0 < K.n) (hL : Lnx σ i (fun x σ' => Q (.tup [.bool true, x]) ⟨ρ, σ'⟩) (fun σ' => Q (.tup [.bool false, .none]) ⟨ρ, σ'⟩)) : CX K (.ref 35) [.obj i] [] ⟨ρ, σ⟩ Q E := by
 refine def_call hn (d_35 h) (bd_35 h) rfl fun F' hF => ?_
 refine y_cons ?_
 with_reducible refine s_try hF ?_ (gl_StopIteration h) ?_
 case refine_1 => kernel_rfl
 repeat walk_at "l"
 repeat walk_at "l"
 refine b_next hc (hL.mono (fun x σ' q => ?_) (fun σ' q => ?_))
 ·repeat walk_at "l"
  exact q
 ·refine ⟨.stop, ?_⟩
  repeat walk_at "l"
  exact q
theorem k_same {x y : V} {e : Bool} (h : Opened K.c) (hn : 0 < K.n) (hx : SameK x y e) (he : EqR 8 x y e) (q : Q (.bool e) ⟨ρ, σ⟩) : CX K (.ref 42) [x, y] [] ⟨ρ, σ⟩ Q E := by
 refine def_call hn (d_42 h) (bd_42 h) rfl fun F' hF => ?_
 refine ss_id ?_
 repeat walk_at "l"
 refine q_isK hx fun k hk => ?_
 repeat walk_at "l"
 cases k with
 | true =>
  cases hk rfl
  repeat walk_at "l"
  exact q
 | false =>
  repeat walk_at "l"
  refine q_eq he ?_
  repeat walk_at "l"
  cases e <;> (repeat walk_at "l") <;> exact q
theorem k_ig {m : Nat} {a b : V} (h : Opened K.c) (hn : 0 < K.n) (hm : σ[m]? = some (.slots 226 [some (.tup [.int 0])])) (q : Q a ⟨ρ, σ⟩) : CX K (.ref 208) [.obj m, .tup [a, b]] [] ⟨ρ, σ⟩ Q E := by
 refine def_call hn (d_208 h) (bd_208 h) rfl fun F' hF => ?_
 refine ss_id ?_
 repeat walk_at "l"
 exact q
end
end
section
section
variable {K : Kx} {ρ : Str → Option V} {σ : List O} {E : X → St → Prop} {Q : V → St → Prop} {i j m k : Nat} {xs : List V} {a b x T : V} {n : Int} {cg ck cv hck hcv htk ser tk : V}
theorem gb_init (h : Opened K.c) (hn : 0 < K.n) (hi : σ[i]? = some (.slots 83 (List.replicate 10 none)))
  (q : ∀ σ', σ'[i]? = some (.slots 83 [some (.int 0), some .none, some .none, some (.bool false), some (.bool false), some (.bool false), some (.obj σ.length), some (.obj m), some (.int 0), some .none]) → σ'[σ.length]? = some (.lit xs 0) → But1 i σ σ' → σ'.length = σ.length + 1 → Q .none ⟨ρ, σ'⟩) :
  CX K (.ref 58) [.obj i, .lst xs] [("key", .obj m)] ⟨ρ, σ⟩ Q E := by
 refine def_call hn (d_58 h) (bd_58 h) rfl fun F' hF => ?_
 refine ss_id ?_
 repeat walk_at "l"
 rw [List.length_set]
 refine q _ (get_set_same (get_app_old (get_set_same hi))) ?_ (fun q o hq e => get_set_ne hq.symm (get_app_old (get_set_ne hq.symm e))) (by simp)
 have l := lt_get hi
 have e := get_app_len (σ := σ.set i (O.slots 83 ((List.replicate 10 none).set 7 (some (V.obj m))))) (o := .lit xs 0)
 rw [List.length_set] at e
 exact get_set_ne (by omega) e
theorem gb_iter (h : Opened K.c) (hn : 0 < K.n) (q : Q x ⟨ρ, σ⟩) : CX K (.ref 65) [x] [] ⟨ρ, σ⟩ Q E := by
 refine def_call hn (d_65 h) (bd_65 h) rfl fun F' hF => ?_
 refine ss_id ?_
 repeat walk_at "l"
 exact q
theorem gb_step (h : Opened K.c) (hc : K.calm = true) (hn : 1 < K.n) (hi : σ[i]? = some (.slots 83 [some cg, some ck, some cv, some hck, some hcv, some htk, some (.obj j), some (.obj m), some ser, some tk]))
  (hj : σ[j]? = some (.lit xs k)) (hm : σ[m]? = some (.slots 226 [some (.tup [.int 0])]))
  (hx : ∀ e, xs[k]? = some e → ∃ a b, e = .tup [a, b] ∧ Q .none ⟨ρ, (σ.set j (.lit xs (k + 1))).set i (.slots 83 [some cg, some a, some (.tup [a, b]), some (.bool true), some (.bool true), some htk, some (.obj j), some (.obj m), some ser, some tk])⟩)
  (he : xs[k]? = none → E .stop ⟨ρ, σ.set j .litx⟩) : CX K (.ref 72) [.obj i] [] ⟨ρ, σ⟩ Q E := by
 have n1 : i ≠ j := ne_get hi hj (by simp)
 have n2 : i ≠ m := ne_get hi hm (by simp)
 have n3 : j ≠ m := ne_get hj hm (by simp)
 have hn' : 0 < K.n - 1 := nS hn rfl
 refine def_call (nZ hn rfl) (d_72 h) (bd_72 h) rfl fun F' hF => ?_
 refine ss_id ?_
 repeat walk_at "l"
 refine k_pull h hc hn' (.on xs k hj (fun e hv => ?_) fun hv => ?_)
 ·obtain ⟨a, b, rfl, q⟩ := hx e hv
  repeat walk_at "l"
  refine cv_obj (get_set_ne n3 hm) (me_208 h) (fn_208 h) (k_ig h hn' (get_set_ne n3 hm) ?_)
  repeat walk_at "l"
  exact q
 ·repeat walk_at "l"
  exact he hv
theorem gr_init (h : Opened K.c) (hn : 1 < K.n) (hi : σ[i]? = some (.slots 83 [some cg, some ck, some cv, some hck, some hcv, some htk, some (.obj j), some (.obj m), some (.int n), some tk]))
  (q : ∀ σ', σ'[i]? = some (.slots 83 [some (.int (n + 1)), some ck, some cv, some hck, some hcv, some htk, some (.obj j), some (.obj m), some (.int (n + 1)), some tk]) → σ'[σ.length]? = some (.slots 128 [some (.int (n + 1)), some (.obj i), some x]) → But1 i σ σ' → Q (.obj σ.length) ⟨ρ, σ'⟩) :
  CX K (.ref 128) [.obj i, x] [] ⟨ρ, σ⟩ Q E := by
 have n1 : i ≠ σ.length := Nat.ne_of_lt (lt_get hi)
 have hn' : 0 < K.n - 1 := nS hn rfl
 refine mk_slots (nZ hn rfl) (mk_128 h) 3 (def_call hn' (d_110 h) (bd_110 h) rfl fun F' hF => ?_)
 have h0 : (σ ++ [O.slots 128 (List.replicate 3 none)])[σ.length]? = some (O.slots 128 [none, none, none]) := get_app_len
 refine ss_id ?_
 repeat walk_at "l"
 refine ⟨rfl, q _ (get_set_same (get_set_ne n1.symm (get_set_same (get_set_ne n1.symm (get_app_old hi))))) (get_set_ne n1 (get_set_same (get_set_ne n1 (get_set_same h0)))) fun q o hq e => ?_⟩
 have n2 := Nat.ne_of_lt (lt_get e)
 exact get_set_ne hq.symm (get_set_ne n2.symm (get_set_ne hq.symm (get_set_ne n2.symm (get_app_old e))))
theorem gr_next {q : Nat} (h : Opened K.c) (hc : K.calm = true) (hn : 2 < K.n) (hq : σ[q]? = some (.slots 128 [some (.int n), some (.obj i), some T]))
  (hi : σ[i]? = some (.slots 83 [some (.int n), some ck, some cv, some (.bool false), some (.bool false), some htk, some (.obj j), some (.obj m), some ser, some tk])) (gT : T.isGlob = false)
  (hj : σ[j]? = some (.lit xs k)) (hm : σ[m]? = some (.slots 226 [some (.tup [.int 0])]))
  (hx : ∀ z, xs[k]? = some z → ∃ a p e, z = .tup [a, .int p] ∧ a.isGlob = false ∧ SameK T a e ∧ EqR 8 T a e ∧
   (e = true → Q (.tup [a, .int p]) ⟨ρ, (σ.set j (.lit xs (k + 1))).set i (.slots 83 [some (.int n), some .none, some .none, some (.bool false), some (.bool false), some htk, some (.obj j), some (.obj m), some ser, some tk])⟩) ∧
   (e = false → E .stop ⟨ρ, (σ.set j (.lit xs (k + 1))).set i (.slots 83 [some (.int n), some a, some (.tup [a, .int p]), some (.bool true), some (.bool true), some htk, some (.obj j), some (.obj m), some ser, some tk])⟩))
  (hend : xs[k]? = none → E .stop ⟨ρ, σ.set j .litx⟩) : CX K (.ref 124) [.obj q] [] ⟨ρ, σ⟩ Q E := by
 have n1 : i ≠ q := ne_get hi hq (by simp)
 have n2 : i ≠ j := ne_get hi hj (by simp)
 have n3 : j ≠ q := ne_get hj hq (by simp)
 have hn' : 1 < K.n - 1 := nS hn rfl
 have hn2 : 0 < K.n - 1 := nS hn rfl
 refine def_call (nZ hn rfl) (d_124 h) (bd_124 h) rfl fun F' hF => ?_
 refine ss_id ?_
 repeat walk_at "l"
 refine ifF (by simp) ?_
 repeat walk_at "l"
 refine gb_step (K := K.body F' _) h hc hn' hi hj hm (fun z hz => ?_) fun hz => hend hz
 obtain ⟨a, p, e, rfl, ga, hs, hE, hy, hno⟩ := hx z hz
 refine ⟨a, _, rfl, ?_⟩
 have hi' : ((σ.set j (.lit xs (k + 1))).set i (.slots 83 [some (.int n), some a, some (.tup [a, .int p]), some (.bool true), some (.bool true), some htk, some (.obj j), some (.obj m), some ser, some tk]))[i]? = some (.slots 83 [some (.int n), some a, some (.tup [a, .int p]), some (.bool true), some (.bool true), some htk, some (.obj j), some (.obj m), some ser, some tk]) := get_set_same (get_set_ne n2.symm hi)
 have hq' : ((σ.set j (.lit xs (k + 1))).set i (.slots 83 [some (.int n), some a, some (.tup [a, .int p]), some (.bool true), some (.bool true), some htk, some (.obj j), some (.obj m), some ser, some tk]))[q]? = some (.slots 128 [some (.int n), some (.obj i), some T]) := get_set_ne n1 (get_set_ne n3 hq)
 repeat walk_at "l"
 refine k_same h hn2 hs hE ?_
 repeat walk_at "l"
 cases e with
 | true =>
  repeat walk_at "l"
  exact hy rfl
 | false =>
  repeat walk_at "l"
  exact hno rfl
theorem gr_have {q : Nat} {p : Int} (h : Opened K.c) (hn : 2 < K.n) (hq : σ[q]? = some (.slots 128 [some (.int n), some (.obj i), some T]))
  (hi : σ[i]? = some (.slots 83 [some (.int n), some a, some (.tup [a, .int p]), some (.bool true), some (.bool true), some htk, some (.obj j), some (.obj m), some ser, some tk])) (gT : T.isGlob = false) (ga : a.isGlob = false) (hs : SameK T a true) (hE : EqR 8 T a true)
  (k : Q (.tup [a, .int p]) ⟨ρ, σ.set i (.slots 83 [some (.int n), some .none, some .none, some (.bool false), some (.bool false), some htk, some (.obj j), some (.obj m), some ser, some tk])⟩) : CX K (.ref 124) [.obj q] [] ⟨ρ, σ⟩ Q E := by
 have n1 : i ≠ q := ne_get hi hq (by simp)
 have hn2 : 0 < K.n - 1 := nS hn rfl
 refine def_call (nZ hn rfl) (d_124 h) (bd_124 h) rfl fun F' hF => ?_
 refine ss_id ?_
 repeat walk_at "l"
 refine ifF (by simp) ?_
 repeat walk_at "l"
 refine k_same h hn2 hs hE ?_
 repeat walk_at "l"
 exact k
theorem gn_next (h : Opened K.c) (hn : 2 < K.n) (hi : σ[i]? = some (.slots 83 [some cg, some a, some cv, some (.bool true), some hcv, some (.bool true), some (.obj j), some (.obj m), some (.int n), some tk]))
  (gk : tk.isGlob = false) (ga : a.isGlob = false) (hs : SameK tk a false) (hE : EqR 8 tk a false)
  (k : ∀ σ', σ'[σ.length]? = some (.slots 128 [some (.int (n + 1)), some (.obj i), some a]) → σ'[i]? = some (.slots 83 [some (.int (n + 1)), some a, some cv, some (.bool true), some hcv, some (.bool true), some (.obj j), some (.obj m), some (.int (n + 1)), some a]) → But1 i σ σ' → Q (.tup [a, .obj σ.length]) ⟨ρ, σ'⟩) :
  CX K (.ref 79) [.obj i] [] ⟨ρ, σ⟩ Q E := by
 have hn2 : 0 < K.n - 1 := nS hn rfl
 have hn3 : 1 < K.n - 1 := nS hn rfl
 refine def_call (nZ hn rfl) (d_79 h) (bd_79 h) rfl fun F' hF => ?_
 refine ss_id ?_
 repeat walk_at "l"
 refine s_whileN 1 (wh_step ?_)
 repeat walk_at "l"
 refine k_same h hn2 hs hE ?_
 repeat walk_at "l"
 refine gr_init (K := K.body F' _) h hn3 (get_set_same hi) fun σ' h1 h2 h3 => ?_
 rw [List.length_set] at h2 ⊢
 repeat walk_at "l"
 exact k σ' h2 h1 fun q o hq e => h3 q o hq (get_set_ne hq.symm e)
theorem gb_off (h : Opened K.c) (hc : K.calm = true) (hn : 1 < K.n) (hi : σ[i]? = some (.slots 83 [some cg, some ck, some cv, some hck, some hcv, some htk, some (.obj j), some (.obj m), some ser, some tk]))
  (hj : σ[j]? = some .litx) (he : E .stop ⟨ρ, σ⟩) : CX K (.ref 72) [.obj i] [] ⟨ρ, σ⟩ Q E := by
 have hn' : 0 < K.n - 1 := nS hn rfl
 refine def_call (nZ hn rfl) (d_72 h) (bd_72 h) rfl fun F' hF => ?_
 refine ss_id ?_
 repeat walk_at "l"
 refine k_pull h hc hn' (.off hj ?_)
 repeat walk_at "l"
 exact he
theorem gn_end (h : Opened K.c) (hc : K.calm = true) (hn : 2 < K.n) (hi : σ[i]? = some (.slots 83 [some cg, some ck, some cv, some (.bool false), some hcv, some htk, some (.obj j), some (.obj m), some ser, some tk]))
  (hj : σ[j]? = some .litx) (he : E .stop ⟨ρ, σ.set i (.slots 83 [some (.int 0), some ck, some cv, some (.bool false), some hcv, some htk, some (.obj j), some (.obj m), some ser, some tk])⟩) : CX K (.ref 79) [.obj i] [] ⟨ρ, σ⟩ Q E := by
 have hn3 : 1 < K.n - 1 := nS hn rfl
 have n1 : i ≠ j := ne_get hi hj (by simp)
 refine def_call (nZ hn rfl) (d_79 h) (bd_79 h) rfl fun F' hF => ?_
 refine ss_id ?_
 repeat walk_at "l"
 refine s_whileN 1 (wh_step ?_)
 repeat walk_at "l"
 refine gb_off (K := K.body F' _) h hc hn3 (get_set_same hi) (get_set_ne n1 hj) ?_
 exact he
theorem gn_first (h : Opened K.c) (hc : K.calm = true) (hn : 2 < K.n) (hi : σ[i]? = some (.slots 83 [some cg, some ck, some cv, some (.bool false), some hcv, some (.bool false), some (.obj j), some (.obj m), some (.int n), some tk]))
  (hj : σ[j]? = some (.lit xs k)) (hm : σ[m]? = some (.slots 226 [some (.tup [.int 0])])) (hx : xs[k]? = some (.tup [a, b])) (ga : a.isGlob = false)
  (q : ∀ σ', σ'[σ.length]? = some (.slots 128 [some (.int (n + 1)), some (.obj i), some a]) → σ'[i]? = some (.slots 83 [some (.int (n + 1)), some a, some (.tup [a, b]), some (.bool true), some (.bool true), some (.bool true), some (.obj j), some (.obj m), some (.int (n + 1)), some a]) →
   σ'[j]? = some (.lit xs (k + 1)) → (∀ q o, q ≠ i → q ≠ j → σ[q]? = some o → σ'[q]? = some o) → Q (.tup [a, .obj σ.length]) ⟨ρ, σ'⟩) :
  CX K (.ref 79) [.obj i] [] ⟨ρ, σ⟩ Q E := by
 have hn3 : 1 < K.n - 1 := nS hn rfl
 have n1 : i ≠ j := ne_get hi hj (by simp)
 have n2 : i ≠ m := ne_get hi hm (by simp)
 have n3 : j ≠ m := ne_get hj hm (by simp)
 refine def_call (nZ hn rfl) (d_79 h) (bd_79 h) rfl fun F' hF => ?_
 refine ss_id ?_
 repeat walk_at "l"
 refine s_whileN 2 (wh_step ?_)
 repeat walk_at "l"
 refine gb_step (K := K.body F' _) h hc hn3 (get_set_same hi) (get_set_ne n1 hj) (get_set_ne n2 hm) (fun z hz => ?_) fun hz => by rw [hx] at hz; cases hz
 cases hx.symm.trans hz
 refine ⟨a, b, rfl, ?_⟩
 rw [List.set_comm _ _ n1, List.set_set]
 have hi' : ((σ.set j (.lit xs (k + 1))).set i (.slots 83 [some (.int 0), some a, some (.tup [a, b]), some (.bool true), some (.bool true), some (.bool false), some (.obj j), some (.obj m), some (.int n), some tk]))[i]? = some (.slots 83 [some (.int 0), some a, some (.tup [a, b]), some (.bool true), some (.bool true), some (.bool false), some (.obj j), some (.obj m), some (.int n), some tk]) := get_set_same (get_set_ne n1.symm hi)
 repeat walk_at "l"
 refine wh_step ?_
 repeat walk_at "l"
 refine gr_init (K := K.body F' _) h hn3 (get_set_same (get_set_ne n1.symm hi)) fun σ' h1 h2 h3 => ?_
 rw [List.length_set, List.length_set] at h2 ⊢
 repeat walk_at "l"
 exact q σ' h2 h1 (h3 j _ n1.symm (get_set_ne n1 (get_set_same hj))) fun q o hq hq' e => h3 q o hq (get_set_ne hq.symm (get_set_ne hq'.symm e))
end
end
section
section
variable {K : Kx} {ρ : Str → Option V} {σ : List O} {E : X → St → Prop} {Q : V → St → Prop} {i j m k : Nat} {xs : List V} {a b x T : V} {n : Int}
theorem k_kind (h : Opened K.c) (hn : 0 < K.n) (q : Q (.int 0) ⟨ρ, σ⟩) : CX K (.ref 140) [.int n] [] ⟨ρ, σ⟩ Q E := by
 refine def_call hn (d_140 h) (bd_140 h) rfl fun F' hF => ?_
 refine ss_id ?_
 repeat walk_at "l"
 exact q
theorem bd_156 (h : Opened K.c) : BD K fd_156 [x] [] [(("self" : Str), x), (("start" : Str), .int 0), (("step" : Str), .int 1)] := bd1d fun a => ⟨_, fun S => by rw [h.hK]; rfl, fun G => ⟨_, _, rfl, VR_int _ _, _, _, rfl, VR_int _ _, rfl⟩⟩
theorem ct_new (h : Opened K.c) (hn : 2 < K.n) (q : Q (.obj σ.length) ⟨ρ, σ ++ [.slots 181 [some (.int 0), some (.bool true), some (.int 1)]]⟩) : CX K (.ref 181) [] [] ⟨ρ, σ⟩ Q E := by
 have hn1 : 0 < K.n - 1 := nS hn rfl
 have hn2 : 0 < K.n - 1 - 1 := nS (b := 1) (nS hn rfl) rfl
 refine mk_slots (nZ hn rfl) (mk_181 h) 3 (def_call hn1 (d_156 h) (bd_156 h) rfl fun F' hF => ?_)
 refine y_cons ?_
 have h0 : (σ ++ [O.slots 181 (List.replicate 3 none)])[σ.length]? = some (O.slots 181 [none, none, none]) := get_app_len
 repeat walk_at "l"
 refine k_kind (K := K.less.body F' _) h hn2 ?_
 repeat walk_at "l"
 refine k_kind (K := K.less.body F' _) h hn2 ?_
 repeat walk_at "l"
 exact ⟨rfl, fin_app q⟩
theorem ct_next {f : V} (h : Opened K.c) (hn : 0 < K.n) (hi : σ[i]? = some (.slots 181 [some (.int n), some f, some (.int 1)])) (q : Q (.int n) ⟨ρ, σ.set i (.slots 181 [some (.int (n + 1)), some f, some (.int 1)])⟩) : CX K (.ref 170) [.obj i] [] ⟨ρ, σ⟩ Q E := by
 refine def_call hn (d_170 h) (bd_170 h) rfl fun F' hF => ?_
 refine ss_id ?_
 repeat walk_at "l"
 exact q
theorem ct_iter (h : Opened K.c) (hn : 0 < K.n) (q : Q x ⟨ρ, σ⟩) : CX K (.ref 163) [x] [] ⟨ρ, σ⟩ Q E := by
 refine def_call hn (d_163 h) (bd_163 h) rfl fun F' hF => ?_
 refine ss_id ?_
 repeat walk_at "l"
 exact q
theorem bd_201 : BD K fd_201 [x, a] [] [(("self" : Str), x), (("item" : Str), a), (("items" : Str), .tup [])] := bdRest (pre := [(("self" : Str), x), (("item" : Str), a)]) (nm := "items") (r := []) (Nat.le_of_ble_eq_true rfl) fun G ws kvs hv hk => by
 obtain ⟨w, us, rfl, h1, hv⟩ := hv.cons_inv
 obtain ⟨w', us, rfl, h2, hv⟩ := hv.cons_inv
 cases hv.nil_inv
 cases hk.nil_inv
 exact ⟨[(("self" : Str), w), (("item" : Str), w')], [], rfl, VRs.nil, ⟨w, _, rfl, h1, w', _, rfl, h2, rfl⟩⟩
theorem ig_new (h : Opened K.c) (hn : 1 < K.n) (q : Q (.obj σ.length) ⟨ρ, σ ++ [.slots 226 [some (.tup [.int 0])]]⟩) : CX K (.ref 226) [.int 0] [] ⟨ρ, σ⟩ Q E := by
 have hn1 : 0 < K.n - 1 := nS hn rfl
 refine mk_slots (nZ hn rfl) (mk_226 h) 1 (def_call hn1 (d_201 h) bd_201 rfl fun F' hF => ?_)
 refine y_cons ?_
 have h0 : (σ ++ [O.slots 226 (List.replicate 1 none)])[σ.length]? = some (O.slots 226 [none]) := get_app_len
 repeat walk_at "l"
 exact ⟨rfl, fin_app q⟩
theorem it_gr (h : Opened K.c) (hn : 0 < K.n) (q : Q x ⟨ρ, σ⟩) : CX K (.ref 117) [x] [] ⟨ρ, σ⟩ Q E := by
 refine def_call hn (d_117 h) (bd_117 h) rfl fun F' hF => ?_
 refine ss_id ?_
 repeat walk_at "l"
 exact q
end
end
section
open PySem PySem.W
noncomputable def pr (e : V × Nat) : V := .tup [e.1, .int e.2]
noncomputable def tab5 (rk : List Nat) (i j : Nat) : Option Bool := match rk[i]?, rk[j]? with
 | some a, some b => some (decide (a < b))
 | _, _ => none
noncomputable def ok5 (rk : List Nat) : Bool := match runT (tab5 rk) (kas_sort 5) with
 | some p => (p.toList.map (fun i => rk.getD i 9) == [0, 1, 2, 3, 4]) && p.toList.isPerm [0, 1, 2, 3, 4]
 | none => false
theorem all5 : ∀ a b c d e : _root_.Fin 5, (!decide ([a.val, b.val, c.val, d.val, e.val].Nodup) || ok5 [a.val, b.val, c.val, d.val, e.val]) = true := by decide +kernel
theorem runT_le {α : Type} {f g : Nat → Nat → Option Bool} (h : ∀ i j b, f i j = some b → g i j = some b) : ∀ (t : KasT α) {a : α}, runT f t = some a → runT g t = some a
 | .ret a, _, e => e
 | .ask i j k, a, e => by
  unfold runT at e ⊢
  cases hf : f i j with
  | none => rw [hf] at e; cases e
  | some b =>
   rw [hf] at e
   rw [h i j b hf]
   exact runT_le h (k b) e
noncomputable def lsP (g : V → Int) (e f : V × Nat) : Bool := if g e.1 = g f.1 then decide (e.2 < f.2) else decide (g e.1 < g f.1)
theorem lsP_iff {g : V → Int} {a b : V × Nat} : lsP g a b = true ↔ g a.1 < g b.1 ∨ (g a.1 = g b.1 ∧ a.2 < b.2) := by
 unfold lsP
 by_cases q : g a.1 = g b.1
 ·rw [if_pos q, decide_eq_true_eq]; exact ⟨fun h => .inr ⟨q, h⟩, fun h => h.elim (fun z => absurd q (Int.ne_of_lt z)) (·.2)⟩
 ·rw [if_neg q, decide_eq_true_eq]; exact ⟨.inl, fun h => h.elim id fun z => absurd z.1 q⟩
theorem lsP_trans {g : V → Int} {a b c : V × Nat} (h : lsP g a b = true) (h' : lsP g b c = true) : lsP g a c = true :=
 lsP_iff.mpr ((lsP_iff.mp h).elim (fun p => (lsP_iff.mp h').elim (fun q => .inl (Int.lt_trans p q)) fun q => .inl (q.1 ▸ p)) fun p => (lsP_iff.mp h').elim (fun q => .inl (p.1 ▸ q)) fun q => .inr ⟨p.1.trans q.1, Nat.lt_trans p.2 q.2⟩)
theorem lsP_irr {g : V → Int} {a : V × Nat} : lsP g a a = false := by simp [lsP]
theorem lsP_tot {g : V → Int} {a b : V × Nat} (h : a.2 ≠ b.2) (h' : lsP g a b = false) : lsP g b a = true := by
 rcases Int.lt_trichotomy (g a.1) (g b.1) with q | q | q
 ·rw [lsP_iff.mpr (.inl q)] at h'; cases h'
 ·exact lsP_iff.mpr (.inr ⟨q.symm, (Nat.lt_or_gt_of_ne h).resolve_left fun z => by rw [lsP_iff.mpr (.inr ⟨q, z⟩)] at h'; cases h'⟩)
 ·exact lsP_iff.mpr (.inl q)
theorem lsP_le {g : V → Int} {a b : V × Nat} (h : lsP g a b = true) : g a.1 ≤ g b.1 := (lsP_iff.mp h).elim Int.le_of_lt fun z => Int.le_of_eq z.1
structure KeyOk (P : List (V × Nat)) (g : V → Int) : Prop where
 glob : ∀ e ∈ P, e.1.isGlob = false
 eq : ∀ e ∈ P, ∀ f ∈ P, EqR 8 e.1 f.1 (decide (g e.1 = g f.1))
 same : ∀ e ∈ P, ∀ f ∈ P, SameK e.1 f.1 (decide (g e.1 = g f.1))
structure KeyLt (P : List (V × Nat)) (g : V → Int) : Prop extends KeyOk P g where
 lt : ∀ e ∈ P, ∀ f ∈ P, LtK e.1 f.1 (decide (g e.1 < g f.1))
 kd : ∃ kd, (kd = 1 ∨ kd = 2 ∨ kd = 3) ∧ ∀ e ∈ P, kindK e.1 = kd
theorem KeyOk.perm {P P' : List (V × Nat)} {g : V → Int} (h : KeyOk P g) (hp : P'.Perm P) : KeyOk P' g := ⟨fun e he => h.glob e (hp.mem_iff.mp he), fun e he f hf => h.eq e (hp.mem_iff.mp he) f (hp.mem_iff.mp hf), fun e he f hf => h.same e (hp.mem_iff.mp he) f (hp.mem_iff.mp hf)⟩
theorem KeyOk.neg {P : List (V × Nat)} {g : V → Int} (h : KeyOk P g) : KeyOk P fun v => -g v :=
 have e : ∀ a b : V, decide (-g a = -g b) = decide (g a = g b) := fun a b => decide_eq_decide.mpr Int.neg_inj
 ⟨h.glob, fun x hx f hf => (e x.1 f.1).symm ▸ h.eq x hx f hf, fun x hx f hf => (e x.1 f.1).symm ▸ h.same x hx f hf⟩
theorem ltP_pr {P : List (V × Nat)} {g : V → Int} (h : KeyLt P g) {e f : V × Nat} (he : e ∈ P) (hf : f ∈ P) : LtP (pr e) (pr f) (lsP g e f) := by
 have h1 := h.eq e he f hf
 simp only [pr, lsP]
 by_cases q : g e.1 = g f.1
 ·rw [decide_eq_true q] at h1
  rw [if_pos q]
  have := LtP.eq (p := e.1) (q := f.1) (i := e.2) (j := f.2) h1
  rwa [show decide ((e.2 : Int) < f.2) = decide (e.2 < f.2) from decide_eq_decide.mpr Int.ofNat_lt] at this
 ·rw [decide_eq_false q] at h1
  rw [if_neg q]
  exact LtP.ne h1 (h.lt e he f hf)
noncomputable def askS (g : V → Int) (S : List (V × Nat)) (i j : Nat) : Option Bool := match S[i]?, S[j]? with
 | some e, some f => some (lsP g e f)
 | _, _ => none
theorem countP_lt {α : Type} {p q : α → Bool} : ∀ {l : List α} {a : α}, (∀ x ∈ l, p x = true → q x = true) → a ∈ l → p a = false → q a = true → l.countP p < l.countP q
 | [], a, _, h, _, _ => by cases h
 | x :: l, a, hpq, h, hp, hq => by
  have hle : l.countP p ≤ l.countP q := List.countP_mono_left fun y hy => hpq y (List.mem_cons_of_mem _ hy)
  rcases List.mem_cons.mp h with rfl | h
  ·rw [List.countP_cons_of_neg (by simp [hp]), List.countP_cons_of_pos hq]
   exact Nat.lt_succ_of_le hle
  ·have := countP_lt (fun y hy => hpq y (List.mem_cons_of_mem _ hy)) h hp hq
   have hx := hpq x (List.mem_cons_self ..)
   by_cases hpx : p x = true
   ·rw [List.countP_cons_of_pos hpx, List.countP_cons_of_pos (hx hpx)]; exact Nat.succ_lt_succ this
   ·rw [List.countP_cons_of_neg hpx]
    by_cases hqx : q x = true
    ·rw [List.countP_cons_of_pos hqx]; exact Nat.lt_succ_of_lt this
    ·rw [List.countP_cons_of_neg hqx]; exact this
noncomputable def cntP (g : V → Int) (S : List (V × Nat)) (e : V × Nat) : Nat := S.countP fun x => lsP g x e
theorem cnt_lt {g : V → Int} {S : List (V × Nat)} {e f : V × Nat} (he : e ∈ S) (h : lsP g e f = true) : cntP g S e < cntP g S f :=
 countP_lt (fun x _ hx => lsP_trans hx h) he lsP_irr h
theorem cnt_iff {g : V → Int} {S : List (V × Nat)} {e f : V × Nat} (he : e ∈ S) (hf : f ∈ S) (hne : e ≠ f → e.2 ≠ f.2) : lsP g e f = decide (cntP g S e < cntP g S f) := by
 by_cases h : lsP g e f = true
 ·rw [h, decide_eq_true (cnt_lt he h)]
 ·have h' : lsP g e f = false := by simpa using h
  rw [h']
  symm
  rw [decide_eq_false_iff_not]
  by_cases hef : e = f
  ·subst hef; exact Nat.lt_irrefl _
  ·have := cnt_lt hf (lsP_tot (hne hef) h')
   exact Nat.lt_asymm this
theorem cnt_len {g : V → Int} {S : List (V × Nat)} {e : V × Nat} (he : e ∈ S) : cntP g S e < S.length := by
 have := countP_lt (p := fun x => lsP g x e) (q := fun _ => true) (l := S) (fun _ _ _ => rfl) he lsP_irr rfl
 simpa [cntP] using this
theorem mem5 {i : Nat} (h : i ∈ [0, 1, 2, 3, 4]) : i < 5 := by
 have h : i ∈ List.range 5 := h
 exact List.mem_range.mp h
theorem sort5 {g : V → Int} {S : List (V × Nat)} (h5 : S.length = 5) (hn : (S.map Prod.snd).Nodup) :
  ∃ p, runT (askS g S) (kas_sort 5) = some p ∧ ∃ S' : List (V × Nat), (p.toList.map fun i => (S.map pr).getD i .none) = S'.map pr ∧ S'.Perm S ∧ S'.Pairwise fun e f => lsP g e f = true := by
 obtain ⟨s0, s1, s2, s3, s4, rfl⟩ : ∃ s0 s1 s2 s3 s4, S = [s0, s1, s2, s3, s4] := by
  match S, h5 with
  | [s0, s1, s2, s3, s4], _ => exact ⟨s0, s1, s2, s3, s4, rfl⟩
 generalize hS : [s0, s1, s2, s3, s4] = S at *
 have hne : ∀ e ∈ S, ∀ f ∈ S, e ≠ f → e.2 ≠ f.2 := by
  have hpw : S.Pairwise fun e f => e.2 ≠ f.2 := by
   rw [List.Nodup, List.pairwise_map] at hn; exact hn
  intro e he f hf hef
  obtain ⟨i, hi, rfl⟩ := List.getElem_of_mem he
  obtain ⟨j, hj, rfl⟩ := List.getElem_of_mem hf
  rcases Nat.lt_trichotomy i j with q | q | q
  ·exact List.pairwise_iff_getElem.mp hpw i j hi hj q
  ·subst q; exact absurd rfl hef
  ·exact (List.pairwise_iff_getElem.mp hpw j i hj hi q).symm
 have hcl : ∀ e ∈ S, cntP g S e < 5 := fun e he => h5 ▸ cnt_len he
 have hci : ∀ e ∈ S, ∀ f ∈ S, lsP g e f = decide (cntP g S e < cntP g S f) := fun e he f hf => cnt_iff he hf (hne e he f hf)
 have hcn : (S.map (cntP g S)).Nodup := by
  rw [List.Nodup, List.pairwise_map]
  have hpw : S.Pairwise fun e f => e.2 ≠ f.2 := by
   rw [List.Nodup, List.pairwise_map] at hn; exact hn
  refine (List.Pairwise.and_mem.mp hpw).imp fun {a b} ⟨ha, hb, hab⟩ hc => ?_
  have h1 := hci a ha b hb
  rw [hc] at h1
  have h2 := hci b hb a ha
  rw [hc] at h2
  simp only [Nat.lt_irrefl, decide_false] at h1 h2
  have := lsP_tot hab h1
  rw [h2] at this
  cases this
 have m0 : s0 ∈ S := by rw [← hS]; simp
 have m1 : s1 ∈ S := by rw [← hS]; simp
 have m2 : s2 ∈ S := by rw [← hS]; simp
 have m3 : s3 ∈ S := by rw [← hS]; simp
 have m4 : s4 ∈ S := by rw [← hS]; simp
 have hall := all5 ⟨_, hcl s0 m0⟩ ⟨_, hcl s1 m1⟩ ⟨_, hcl s2 m2⟩ ⟨_, hcl s3 m3⟩ ⟨_, hcl s4 m4⟩
 have hrk : [cntP g S s0, cntP g S s1, cntP g S s2, cntP g S s3, cntP g S s4] = S.map (cntP g S) := by
  conv => rhs; rw [← hS]
  simp only [List.map_cons, List.map_nil]
  rw [hS]
 simp only [hrk, decide_eq_true hcn, Bool.not_true, Bool.false_or] at hall
 unfold ok5 at hall
 split at hall
 ·rename_i p hp
  simp only [Bool.and_eq_true, beq_iff_eq, List.isPerm_iff] at hall
  obtain ⟨h1, h2⟩ := hall
  refine ⟨p, runT_le (fun i j b e => ?_) _ hp, p.toList.map (fun i => S.getD i s0), ?_, ?_, ?_⟩
  ·unfold tab5 at e
   unfold askS
   simp only [List.getElem?_map] at e
   cases hi : S[i]? with
   | none => rw [hi] at e; cases e
   | some x =>
    cases hj : S[j]? with
    | none => rw [hi, hj] at e; cases e
    | some y =>
     rw [hi, hj] at e
     simp only [Option.map_some] at e ⊢
     rw [hci _ (List.mem_of_getElem? hi) _ (List.mem_of_getElem? hj)]
     exact e
  ·rw [List.map_map]
   refine List.map_congr_left fun i hi => ?_
   have hi' : i < S.length := h5 ▸ mem5 (h2.mem_iff.mp hi)
   simp [List.getD, hi']
  ·have : S = [0, 1, 2, 3, 4].map (fun i => S.getD i s0) := by rw [← hS]; rfl
   conv => rhs; rw [this]
   exact h2.map _
  ·have hpw : (p.toList.map fun i => (S.map (cntP g S)).getD i 9).Pairwise (· < ·) := by rw [h1]; decide
   rw [List.pairwise_map] at hpw ⊢
   refine (List.Pairwise.and_mem.mp hpw).imp fun {i j} ⟨hi, hj, hij⟩ => ?_
   have hi5 : i < S.length := h5 ▸ mem5 (h2.mem_iff.mp hi)
   have hj5 : j < S.length := h5 ▸ mem5 (h2.mem_iff.mp hj)
   simp only [List.getD, List.getElem?_map, List.getElem?_eq_getElem hi5, List.getElem?_eq_getElem hj5, Option.map_some, Option.getD_some] at hij ⊢
   rw [hci _ (List.getElem_mem _) _ (List.getElem_mem _)]
   exact decide_eq_true hij
 ·cases hall
theorem zsorts {rev : Bool} {g : V → Int} {P : List (V × Nat)} (h : KeyLt P g) (h5 : P.length = 5) (hn : (P.map Prod.snd).Nodup) :
  ∃ P' : List (V × Nat), ZSorts rev (P.map pr) (P'.map pr) ∧ P'.Perm P ∧ P'.Pairwise fun e f => if rev then g f.1 ≤ g e.1 else g e.1 ≤ g f.1 := by
 obtain ⟨kd, hkd, hk⟩ := h.kd
 have hk' : ∀ p ∈ P.map pr, ∃ a i, p = .tup [a, .int i] ∧ kindK a = kd := fun p hp => by
  obtain ⟨e, he, rfl⟩ := List.mem_map.mp hp
  exact ⟨e.1, e.2, rfl, hk e he⟩
 have hl : (P.map pr).length = 5 := by rw [List.length_map, h5]
 have ask : ∀ S : List (V × Nat), (∀ e ∈ S, e ∈ P) → ∀ i j k, askS g S i j = some k → ∃ x y, (S.map pr)[i]? = some x ∧ (S.map pr)[j]? = some y ∧ LtP x y k := fun S hS i j k e => by
  unfold askS at e
  simp only [List.getElem?_map]
  cases hi : S[i]? with
  | none => rw [hi] at e; cases e
  | some x =>
   cases hj : S[j]? with
   | none => rw [hi, hj] at e; cases e
   | some y =>
    rw [hi, hj] at e
    cases e
    exact ⟨_, _, rfl, rfl, ltP_pr h (hS _ (List.mem_of_getElem? hi)) (hS _ (List.mem_of_getElem? hj))⟩
 cases rev with
 | false =>
  obtain ⟨p, h1, P', h2, h3, h4⟩ := sort5 h5 hn
  refine ⟨P', ?_, h3, h4.imp fun q => by simpa using lsP_le q⟩
  have z := ZSorts.mk (rev := false) (ps := P.map pr) (by rw [hl]; decide) (by rw [hl]; decide) kd hkd hk' (P.map pr) rfl (askS g P) p (ask P fun _ h => h) (by rw [hl]; exact h1)
  unfold zres at z
  rw [if_neg Bool.false_ne_true, h2] at z
  exact z
 | true =>
  obtain ⟨p, h1, P', h2, h3, h4⟩ := sort5 (g := g) (S := P.reverse) (by rw [List.length_reverse]; exact h5) (by rw [List.map_reverse]; exact List.pairwise_reverse.mpr (hn.imp Ne.symm))
  refine ⟨P'.reverse, ?_, (List.reverse_perm _).trans (h3.trans (List.reverse_perm _)), ?_⟩
  ·have z := ZSorts.mk (rev := true) (ps := P.map pr) (by rw [hl]; decide) (by rw [hl]; decide) kd hkd hk' (P.reverse.map pr) (by rw [if_pos rfl, List.map_reverse]) (askS g P.reverse) p (ask P.reverse fun _ h => List.mem_reverse.mp h) (by rw [hl]; exact h1)
   unfold zres at z
   rw [if_pos rfl, h2, ← List.map_reverse] at z
   exact z
  ·refine List.pairwise_reverse.mpr (h4.imp fun q => ?_)
   simpa using lsP_le q
end
section
open PySem PySem.W
noncomputable def sameK (g : V → Int) (T : V) (e : V × Nat) : Bool := decide (g T = g e.1)
noncomputable def Aft (xs : List V) (i j m k : Nat) (tk : V) (σ : List O) : List (V × Nat) → Prop
 | [] => (∃ cg ck cv hcv n, σ[i]? = some (.slots 83 [some cg, some ck, some cv, some (.bool false), some hcv, some (.bool true), some (.obj j), some (.obj m), some (.int n), some tk])) ∧ σ[j]? = some .litx
 | e :: _ => (∃ cg n, σ[i]? = some (.slots 83 [some cg, some e.1, some (pr e), some (.bool true), some (.bool true), some (.bool true), some (.obj j), some (.obj m), some (.int n), some tk])) ∧ σ[j]? = some (.lit xs (k + 1))
noncomputable def But (i j : Nat) (σ σ' : List O) : Prop := ∀ q o, q ≠ i → q ≠ j → σ[q]? = some o → σ'[q]? = some o
theorem But.trans {i j : Nat} {σ σ' σ'' : List O} (h : But i j σ σ') (h' : But i j σ' σ'') : But i j σ σ'' := fun q o a b e => h' q o a b (h q o a b e)
theorem But.set1 {i j : Nat} {σ : List O} {o : O} : But i j σ (σ.set i o) := fun q o a b e => get_set_ne a.symm e
theorem But.set2 {i j : Nat} {σ : List O} {o : O} : But i j σ (σ.set j o) := fun q o a b e => get_set_ne b.symm e
theorem mem_takeWhile {α : Type} {p : α → Bool} : ∀ {l : List α} {x : α}, x ∈ l.takeWhile p → p x = true
 | [], x, h => by cases h
 | a :: l, x, h => by
  by_cases ha : p a = true
  ·rw [List.takeWhile_cons_of_pos ha] at h
   rcases List.mem_cons.mp h with rfl | h
   ·exact ha
   ·exact mem_takeWhile h
  ·rw [List.takeWhile_cons_of_neg ha] at h
   cases h
theorem drop_after {h : V → Int} {e : V × Nat} : ∀ {l : List (V × Nat)}, (e :: l).Pairwise (fun e f => h e.1 ≤ h f.1) → ∀ f ∈ l.dropWhile (sameK h e.1), h e.1 < h f.1
 | [], _, f, hf => by cases hf
 | a :: l, hs, f, hf => by
  by_cases ha : sameK h e.1 a = true
  ·rw [List.dropWhile_cons_of_pos ha] at hf
   refine drop_after ?_ f hf
   rw [List.pairwise_cons] at hs ⊢
   exact ⟨fun b hb => hs.1 b (List.mem_cons_of_mem _ hb), (List.pairwise_cons.mp hs.2).2⟩
  ·rw [List.dropWhile_cons_of_neg ha] at hf
   rw [List.pairwise_cons] at hs
   have h1 := hs.1 a (List.mem_cons_self ..)
   have h2 : ¬ h e.1 = h a.1 := by simpa [sameK] using ha
   rcases List.mem_cons.mp hf with rfl | hf
   ·exact Int.lt_iff_le_and_ne.mpr ⟨h1, h2⟩
   ·exact Int.lt_of_lt_of_le (Int.lt_iff_le_and_ne.mpr ⟨h1, h2⟩) ((List.pairwise_cons.mp hs.2).1 f hf)
theorem countP_all {α : Type} {p : α → Bool} {l : List α} (h : ∀ x ∈ l, p x = true) : l.countP p = l.length := by
 rw [List.countP_eq_length]; exact h
theorem countP_none {α : Type} {p : α → Bool} {l : List α} (h : ∀ x ∈ l, p x = false) : l.countP p = 0 := by
 rw [List.countP_eq_zero]; intro x hx; rw [h x hx]; exact Bool.false_ne_true
theorem aft_congr {xs : List V} {i j m k : Nat} {tk : V} {σ σ' : List O} {l : List (V × Nat)} (h1 : σ'[i]? = σ[i]?) (h2 : σ'[j]? = σ[j]?) (h : Aft xs i j m k tk σ l) : Aft xs i j m k tk σ' l := by
 cases l with
 | nil => unfold Aft at h ⊢; rw [h1, h2]; exact h
 | cons e l => unfold Aft at h ⊢; rw [h1, h2]; exact h
section
variable {K : Kx} {ρ : Str → Option V} {σ σ' : List O} {E : X → St → Prop} {i j m q k : Nat} {n n' : Int} {xs : List V} {T : V}
theorem group_rest {Q : List V → St → Prop} (h : Opened K.c) (hc : K.calm = true) (hn : 2 < K.n) {g : V → Int} {P : List (V × Nat)} (hx : xs = P.map pr) (hK : KeyOk P g) (hT : T ∈ P.map Prod.fst) : ∀ (l : List (V × Nat)) (k : Nat) (σ : List O) (f : Nat) (ys : List V), P.drop k = l → l.length < f → ys.length + l.length ≤ 500 →
  σ[i]? = some (.slots 83 [some (.int n), some .none, some .none, some (.bool false), some (.bool false), some (.bool true), some (.obj j), some (.obj m), some (.int n'), some T]) →
  σ[q]? = some (.slots 128 [some (.int n), some (.obj i), some T]) → σ[j]? = some (.lit xs k) → σ[m]? = some (.slots 226 [some (.tup [.int 0])]) →
  (∀ σ', Aft xs i j m (k + (l.takeWhile (sameK g T)).length) T σ' (l.dropWhile (sameK g T)) → But i j σ σ' → Q (ys ++ (l.takeWhile (sameK g T)).map pr) ⟨ρ, σ'⟩) → Drains K 128 124 q f ys ⟨ρ, σ⟩ Q
 | [], k, σ, f, ys, hl, hf, hlen, hi, hq, hj, hm, hQ => by
  obtain ⟨f, rfl⟩ := Nat.exists_eq_add_one_of_ne_zero (Nat.ne_of_gt (Nat.lt_of_le_of_lt (Nat.zero_le _) hf))
  obtain ⟨e0, hT1, hTe⟩ := List.mem_map.mp hT
  have hn0 : xs[k]? = none := by
   rw [hx, List.getElem?_map]
   have : P[k]? = none := by
    have := congrArg List.head? hl
    simpa using this
   rw [this]; rfl
  have n1 : j ≠ i := ne_get hj hi (by simp)
  exact fun e => ⟨⟨_, hq⟩, gr_next (K := K.plus e) h hc hn hq hi (hTe ▸ hK.glob _ hT1) hj hm (fun z hz => by rw [hn0] at hz; cases hz) fun _ => ⟨rfl, by
   have := hQ (σ.set j .litx) ⟨⟨_, _, _, _, _, get_set_ne n1 hi⟩, get_set_same hj⟩ But.set2
   rwa [List.takeWhile_nil, List.map_nil, List.append_nil] at this⟩⟩
 | e :: l, k, σ, f, ys, hl, hf, hlen, hi, hq, hj, hm, hQ => by
  obtain ⟨f, rfl⟩ := Nat.exists_eq_add_one_of_ne_zero (Nat.ne_of_gt (Nat.lt_of_le_of_lt (Nat.zero_le _) hf))
  have hP : P[k]? = some e := by
   have := congrArg List.head? hl
   simpa using this
  have hmem : e ∈ P := List.mem_of_getElem? hP
  have hn1 : xs[k]? = some (pr e) := by rw [hx, List.getElem?_map, hP]; rfl
  have hl' : P.drop (k + 1) = l := by
   rw [← List.tail_drop, hl]; rfl
  obtain ⟨e0, hT1, hTe⟩ := List.mem_map.mp hT
  have n1 : i ≠ q := ne_get hi hq (by simp)
  have n2 : i ≠ j := ne_get hi hj (by simp)
  have n3 : j ≠ q := ne_get hj hq (by simp)
  have n4 : i ≠ m := ne_get hi hm (by simp)
  have n5 : j ≠ m := ne_get hj hm (by simp)
  have hS : SameK T e.1 (decide (g T = g e.1)) := hTe ▸ hK.same _ hT1 _ hmem
  have hE : EqR 8 T e.1 (decide (g T = g e.1)) := hTe ▸ hK.eq _ hT1 _ hmem
  simp only [List.length_cons] at hf hlen
  refine fun ex => ⟨⟨_, hq⟩, gr_next (K := K.plus ex) h hc hn hq hi (hTe ▸ hK.glob _ hT1) hj hm (fun z hz => ?_) fun hz => by rw [hn1] at hz; cases hz⟩
  cases hn1.symm.trans hz
  refine ⟨e.1, e.2, _, rfl, hK.glob _ hmem, hS, hE, fun hs => ?_, fun hs => ?_⟩
  ·have hS : sameK g T e = true := hs
   refine ⟨Nat.lt_of_le_of_lt (Nat.le_trans (Nat.le_add_right _ _) hlen) (by decide), group_rest h hc hn hx hK hT l (k + 1) _ f _ hl' (Nat.lt_of_succ_lt_succ hf) (by rw [List.length_append]; exact Nat.le_trans (Nat.le_of_eq (Nat.succ_add_eq_add_succ _ _)) hlen) (get_set_same (get_set_ne n2.symm hi)) (get_set_ne n1 (get_set_ne n3 hq)) (get_set_ne n2 (get_set_same hj)) (get_set_ne n4 (get_set_ne n5 hm)) fun σ' h1 h2 => ?_⟩
   have := hQ σ' (by
    rw [List.takeWhile_cons_of_pos hS, List.dropWhile_cons_of_pos hS, show k + (e :: List.takeWhile (sameK g T) l).length = k + 1 + (List.takeWhile (sameK g T) l).length from (Nat.succ_add_eq_add_succ k _).symm]
    exact h1) ((But.set2.trans But.set1).trans h2)
   rw [List.takeWhile_cons_of_pos hS] at this
   rw [List.append_assoc]
   exact this
  ·have hS : ¬ sameK g T e = true := by
    have : sameK g T e = false := hs
    rw [this]; exact Bool.false_ne_true
   have := hQ ((σ.set j (.lit xs (k + 1))).set i (.slots 83 [some (.int n), some e.1, some (pr e), some (.bool true), some (.bool true), some (.bool true), some (.obj j), some (.obj m), some (.int n'), some T])) (by
    rw [List.takeWhile_cons_of_neg hS, List.dropWhile_cons_of_neg hS]
    exact ⟨⟨_, _, get_set_same (get_set_ne n2.symm hi)⟩, get_set_ne n2 (get_set_same hj)⟩) (But.set2.trans But.set1)
   rw [List.takeWhile_cons_of_neg hS, List.map_nil, List.append_nil] at this
   exact ⟨rfl, this⟩
theorem list_group {Q : V → St → Prop} (h : Opened K.c) (hc : K.calm = true) (hn : 3 < K.n) {g : V → Int} {P : List (V × Nat)} {e : V × Nat} {l : List (V × Nat)} (hx : xs = P.map pr) (hK : KeyOk P g) (hl : P.drop k = e :: l) (hlen : P.length ≤ 400)
  (hi : σ[i]? = some (.slots 83 [some (.int n), some e.1, some (pr e), some (.bool true), some (.bool true), some (.bool true), some (.obj j), some (.obj m), some (.int n'), some e.1]))
  (hq : σ[q]? = some (.slots 128 [some (.int n), some (.obj i), some e.1])) (hj : σ[j]? = some (.lit xs (k + 1))) (hm : σ[m]? = some (.slots 226 [some (.tup [.int 0])]))
  (hQ : ∀ σ', Aft xs i j m (k + 1 + (l.takeWhile (sameK g e.1)).length) e.1 σ' (l.dropWhile (sameK g e.1)) → But i j σ σ' → Q (.lst ((e :: l.takeWhile (sameK g e.1)).map pr)) ⟨ρ, σ'⟩) : BC K (.type "list") [.obj q] ⟨ρ, σ⟩ Q E := by
 have n1 : i ≠ q := ne_get hi hq (by simp)
 have n2 : i ≠ j := ne_get hi hj (by simp)
 have n4 : i ≠ m := ne_get hi hm (by simp)
 have hP : P[k]? = some e := by
  have := congrArg List.head? hl
  simpa using this
 have hmem : e ∈ P := List.mem_of_getElem? hP
 have hl' : P.drop (k + 1) = l := by
  rw [← List.tail_drop, hl]; rfl
 have hll : l.length ≤ 400 := by
  rw [← hl', List.length_drop]; exact Nat.le_trans (Nat.sub_le _ _) hlen
 have hn1 : 2 < K.n - 1 := nS hn rfl
 have hn2 : 0 < K.n - 1 := nS hn rfl
 have e1 : decide (g e.1 = g e.1) = true := decide_eq_true rfl
 refine b_drain (nZ hn rfl) (ow_128 h) 500 ⟨_, hq⟩ fun x => it_gr h hn2 ⟨rfl, ⟨_, hq⟩, fun y => ⟨⟨_, hq⟩, gr_have (K := K.less.plus y) h hn1 hq hi (hK.glob _ hmem) (hK.glob _ hmem) (e1 ▸ hK.same _ hmem _ hmem) (e1 ▸ hK.eq _ hmem _ hmem) ⟨by decide, ?_⟩⟩⟩
 refine group_rest (K := K.less) h hc hn1 hx hK (List.mem_map_of_mem (f := Prod.fst) hmem) l (k + 1) _ 499 _ hl' (Nat.lt_of_le_of_lt hll (by decide)) (Nat.le_trans (Nat.add_le_add_left hll 1) (by decide)) (get_set_same hi) (get_set_ne n1 hq) (get_set_ne n2 hj) (get_set_ne n4 hm) fun σ' h2 h3 => ?_
 exact hQ σ' h2 (But.set1.trans h3)
end
end
section
section
variable {K : Kx} {ρ : Str → Option V} {σ σ' : List O} {E : X → St → Prop} {Q : V → St → Prop} {i j m k : Nat} {n n' : Int} {xs : List V} {T : V}
noncomputable def GbAt (P : List (V × Nat)) (h : V → Int) (i j m k : Nat) (σ : List O) : Prop :=
 (k = 0 ∧ (∃ cg ck cv hcv n tk, σ[i]? = some (.slots 83 [some cg, some ck, some cv, some (.bool false), some hcv, some (.bool false), some (.obj j), some (.obj m), some (.int n), some tk])) ∧ σ[j]? = some (.lit (P.map pr) 0)) ∨
 (∃ e0 ∈ P, Aft (P.map pr) i j m k e0.1 σ (P.drop k) ∧ ∀ f ∈ P.drop k, h e0.1 < h f.1)
theorem gb_nxt {P : List (V × Nat)} {g : V → Int} {S : St → Prop} (h : Opened K.c) (hc : K.calm = true) (hn : 2 < K.n) (hK : KeyOk P g) (hP : P ≠ []) (hG : GbAt P g i j m k σ) (hm : σ[m]? = some (.slots 226 [some (.tup [.int 0])]))
  (hend : P.drop k = [] → ∀ σ', But i j σ σ' → S ⟨ρ, σ'⟩)
  (hx : ∀ e l q n n' σ', P.drop k = e :: l → σ'[q]? = some (.slots 128 [some (.int n), some (.obj i), some e.1]) →
     σ'[i]? = some (.slots 83 [some (.int n), some e.1, some (pr e), some (.bool true), some (.bool true), some (.bool true), some (.obj j), some (.obj m), some (.int n'), some e.1]) →
     σ'[j]? = some (.lit (P.map pr) (k + 1)) → But i j σ σ' → Q (.tup [e.1, .obj q]) ⟨ρ, σ'⟩) : NXO K 83 79 i ⟨ρ, σ⟩ Q S := by
 rcases hG with ⟨rfl, ⟨cg, ck, cv, hcv, n, tk, hi⟩, hj⟩ | ⟨e0, he0, hA, hlt⟩
 ·obtain ⟨e, l, rfl⟩ := List.exists_cons_of_ne_nil hP
  exact ⟨⟨_, hi⟩, gn_first h hc hn hi hj hm (a := e.1) (b := .int e.2) rfl (hK.glob e (List.mem_cons_self ..)) fun σ' h1 h2 h3 h4 => hx e l _ _ _ σ' rfl h1 h2 h3 h4⟩
 ·cases hl : P.drop k with
  | nil =>
   rw [hl] at hA
   obtain ⟨⟨cg, ck, cv, hcv, n, hi⟩, hj⟩ := hA
   exact ⟨⟨_, hi⟩, gn_end h hc hn hi hj ⟨rfl, hend hl _ But.set1⟩⟩
  | cons e l =>
   rw [hl] at hA hlt
   obtain ⟨⟨cg, n, hi⟩, hj⟩ := hA
   have he : e ∈ P := List.mem_of_mem_drop (by rw [hl]; exact List.mem_cons_self ..)
   have n2 : i ≠ j := ne_get hi hj (by simp)
   have hne : decide (g e0.1 = g e.1) = false := decide_eq_false (Int.ne_of_lt (hlt e (List.mem_cons_self ..)))
   exact ⟨⟨_, hi⟩, gn_next h hn hi (hK.glob _ he0) (hK.glob _ he) (hne ▸ hK.same e0 he0 e he) (hne ▸ hK.eq e0 he0 e he) fun σ' h1 h2 h3 => hx e l _ _ _ σ' hl h1 h2 (h3 _ _ n2.symm hj) fun q o a b c => h3 q o a c⟩
theorem gbat_ne {P : List (V × Nat)} {h : V → Int} {r : Nat} {o : O} (hG : GbAt P h i j m k σ) (hr : σ[r]? = some o) (h1 : ∀ fs, o ≠ .slots 83 fs) (h2 : ∀ xs k, o ≠ .lit xs k) (h3 : o ≠ .litx) : r ≠ i ∧ r ≠ j := by
 rcases hG with ⟨_, ⟨_, _, _, _, _, _, hi⟩, hj⟩ | ⟨e0, _, hA, _⟩
 ·exact ⟨ne_get hr hi (h1 _), ne_get hr hj (h2 _ _)⟩
 ·cases hl : P.drop k with
  | nil =>
   rw [hl] at hA
   obtain ⟨⟨_, _, _, _, _, hi⟩, hj⟩ := hA
   exact ⟨ne_get hr hi (h1 _), ne_get hr hj h3⟩
  | cons e l =>
   rw [hl] at hA
   obtain ⟨⟨_, _, hi⟩, hj⟩ := hA
   exact ⟨ne_get hr hi (h1 _), ne_get hr hj (h2 _ _)⟩
noncomputable def tgt (P : List (V × Nat)) (h : V → Int) (st : Int) (e : V × Nat) : Int := 2 * (st - 1) + 2 * (P.countP fun f => decide (h f.1 < h e.1) : Nat) + (P.countP fun f => decide (h f.1 = h e.1) : Nat) + 1
structure Grp (P : List (V × Nat)) (g : V → Int) (st : Int) (k : Nat) (e : V × Nat) (l G : List (V × Nat)) : Prop where
 ex : G = e :: l.takeWhile (sameK g e.1)
 tg : ∀ f ∈ G, tgt P g st f = 2 * (st - 1 + k) + (G.length + 1)
 dr : P.drop (k + G.length) = l.dropWhile (sameK g e.1)
 tk : P.take (k + G.length) = P.take k ++ G
 ord : ∀ a ∈ P.take (k + G.length), ∀ b ∈ P.drop (k + G.length), g a.1 < g b.1
 rest : ∀ f ∈ P.drop (k + G.length), g e.1 < g f.1
 le : k + G.length ≤ P.length
section
variable {P T G D : List (V × Nat)} {g : V → Int} {e : V × Nat} {st : Int} {l : List (V × Nat)}
theorem grp_tgt (hT : ∀ f ∈ T, g f.1 < g e.1) (hG : ∀ f ∈ G, g f.1 = g e.1) (hD : ∀ f ∈ D, g e.1 < g f.1) : ∀ f ∈ G, tgt (T ++ (G ++ D)) g st f = 2 * (st - 1 + T.length) + (G.length + 1) := by
 intro f hf
 unfold tgt
 rw [hG f hf, List.countP_append, List.countP_append, List.countP_append, List.countP_append, countP_all fun x hx => decide_eq_true (hT x hx), countP_none fun x hx => decide_eq_false (Int.not_lt.mpr (Int.le_of_eq (hG x hx).symm)), countP_none fun x hx => decide_eq_false (Int.not_lt.mpr (Int.le_of_lt (hD x hx))),
  countP_none fun x hx => decide_eq_false (Int.ne_of_lt (hT x hx)), countP_all fun x hx => decide_eq_true (hG x hx), countP_none fun x hx => decide_eq_false (Int.ne_of_gt (hD x hx))]
 show 2 * (st - 1) + 2 * (T.length : Int) + ((0 + G.length : Nat) : Int) + 1 = _
 rw [Nat.zero_add, Int.mul_add, Int.add_assoc]
theorem grp (hs : P.Pairwise fun e f => g e.1 ≤ g f.1) (hl : P.drop k = e :: l) (hb : ∀ a ∈ P.take k, ∀ b ∈ P.drop k, g a.1 < g b.1) : ∃ G, Grp P g st k e l G := by
 have hk : k < P.length := Nat.lt_of_not_le fun q => by rw [List.drop_eq_nil_of_le q] at hl; cases hl
 have hkl : (P.take k).length = k := List.length_take_of_le (Nat.le_of_lt hk)
 have h2 : ∀ f ∈ l.dropWhile (sameK g e.1), g e.1 < g f.1 := drop_after (hl ▸ hs.drop)
 have h1 : ∀ f ∈ e :: l.takeWhile (sameK g e.1), g f.1 = g e.1 := fun f hf => by
  rcases List.mem_cons.mp hf with rfl | hf
  ·rfl
  ·have h : sameK g e.1 f = true := mem_takeWhile hf
   exact (of_decide_eq_true h).symm
 have h3 : ∀ f ∈ P.take k, g f.1 < g e.1 := fun f hf => hb f hf e (by rw [hl]; exact List.mem_cons_self ..)
 have hP : P = P.take k ++ ((e :: l.takeWhile (sameK g e.1)) ++ l.dropWhile (sameK g e.1)) := by
  rw [List.cons_append, List.takeWhile_append_dropWhile, ← hl, List.take_append_drop]
 have hlen : (P.take k ++ (e :: l.takeWhile (sameK g e.1))).length = k + (e :: l.takeWhile (sameK g e.1)).length := by rw [List.length_append, hkl]
 have hdr : P.drop (k + (e :: l.takeWhile (sameK g e.1)).length) = l.dropWhile (sameK g e.1) :=
  (congrArg (List.drop _) (hP.trans (List.append_assoc ..).symm)).trans (List.drop_left' hlen)
 have htk : P.take (k + (e :: l.takeWhile (sameK g e.1)).length) = P.take k ++ (e :: l.takeWhile (sameK g e.1)) :=
  (congrArg (List.take _) (hP.trans (List.append_assoc ..).symm)).trans (List.take_left' hlen)
 have ht := grp_tgt (st := st) h3 h1 h2
 rw [← hP, hkl] at ht
 refine ⟨_, rfl, ht, hdr, htk, ?_, by rw [hdr]; exact h2, ?_⟩
 ·rw [hdr, htk]
  intro a ha b hb
  rcases List.mem_append.mp ha with ha | ha
  ·exact Int.lt_trans (h3 a ha) (h2 b hb)
  ·rw [h1 a ha]; exact h2 b hb
 ·rw [← hlen, ← htk]; exact List.length_take_le' ..
theorem Grp.one (h : Grp P g st k e l G) : 1 ≤ G.length := h.ex ▸ Nat.succ_le_succ (Nat.zero_le _)
theorem Grp.mem (h : Grp P g st k e l G) : ∀ f ∈ P.take k ++ G, f ∈ P := fun f hf => List.mem_of_mem_take (h.tk ▸ hf)
theorem Grp.aft (h : Grp P g st k e l G) (h1 : σ'[i]? = σ[i]?) (h2 : σ'[j]? = σ[j]?) (hA : Aft xs i j m (k + 1 + (l.takeWhile (sameK g e.1)).length) e.1 σ (l.dropWhile (sameK g e.1))) : Aft xs i j m (k + G.length) e.1 σ' (P.drop (k + G.length)) := by
 rw [h.dr, h.ex, List.length_cons, ← Nat.add_assoc, Nat.add_right_comm]
 exact aft_congr h1 h2 hA
end
noncomputable def ResAt (r : Nat) (L : List (V × Nat)) (t : V × Nat → Int) (σ : List O) : Prop := ∃ R, σ[r]? = some (.list R) ∧ R.length = 5 ∧ ∀ e ∈ L, R[e.2]? = some (.flt (t e))
structure Idx (P : List (V × Nat)) (xs : List V) : Prop where
 p : P.Perm xs.zipIdx
 h5 : xs.length = 5
section
variable {P L : List (V × Nat)} {g : V → Int} {f : V × Nat} {st : Int} {t : V × Nat → Int} {r : Nat} {R : List V}
theorem Idx.len (h : Idx P xs) : P.length = 5 := by rw [h.p.length_eq, List.length_zipIdx, h.h5]
theorem Idx.at_ (h : Idx P xs) (hf : f ∈ P) : xs[f.2]? = some f.1 := List.mem_zipIdx_iff_getElem?.mp (h.p.mem_iff.mp hf)
theorem Idx.lt (h : Idx P xs) (hf : f ∈ P) : f.2 < 5 := h.h5 ▸ (List.getElem?_eq_some_iff.mp (h.at_ hf)).1
theorem Idx.inj (h : Idx P xs) {e : V × Nat} (he : e ∈ P) (hf : f ∈ P) (q : e.2 = f.2) : e = f :=
 Prod.ext (Option.some.inj ((h.at_ he).symm.trans ((congrArg (xs[·]?) q).trans (h.at_ hf)))) q
theorem Idx.put (h : Idx P xs) (hL : ∀ u ∈ L, u ∈ P) (hf : f ∈ P) (hr : σ[r]? = some (.list R)) (h5 : R.length = 5) (hR : ∀ e ∈ L, R[e.2]? = some (.flt (t e))) : ResAt r (L ++ [f]) t (σ.set r (.list (R.set f.2 (.flt (t f))))) := by
 refine ⟨_, get_set_same hr, by rw [List.length_set, h5], fun u hu => ?_⟩
 by_cases c : u.2 = f.2
 ·have hu : u ∈ P := (List.mem_append.mp hu).elim (hL u) fun q => List.mem_singleton.mp q ▸ hf
  rw [h.inj hu hf c, List.getElem?_set_self (h5 ▸ h.lt hf)]
 ·rw [List.getElem?_set_ne (Ne.symm c)]
  exact hR u ((List.mem_append.mp hu).elim id fun q => absurd (congrArg Prod.snd (List.mem_singleton.mp q)) c)
theorem Idx.fin (h : Idx P xs) (hr : ResAt r P (tgt P g st) σ) : σ[r]? = some (.list (xs.map fun x => .flt (2 * (st - 1) + 2 * (xs.countP fun y => decide (g y < g x) : Nat) + (xs.countP fun y => decide (g y = g x) : Nat) + 1))) := by
 refine a3 (hr.choose_spec) fun h1 h2 h3 => ?_
 have hc : ∀ p : V → Bool, P.countP (fun f => p f.1) = xs.countP p := fun p => by
  have := List.countP_map (p := p) (f := Prod.fst) (l := xs.zipIdx)
  rw [List.zipIdx_map_fst] at this
  rw [h.p.countP_eq, this]; rfl
 rw [h1]
 refine congrArg (fun R => some (O.list R)) (List.ext_getElem? fun p => ?_)
 rw [List.getElem?_map]
 cases hp : xs[p]? with
 | some x =>
  have hm : (x, p) ∈ P := h.p.mem_iff.mpr (List.mem_zipIdx_iff_getElem?.mpr hp)
  rw [h3 _ hm, tgt, hc (fun y => decide (g y < g x)), hc (fun y => decide (g y = g x))]
  rfl
 | none =>
  rw [List.getElem?_eq_none_iff, h.h5, ← h2, ← List.getElem?_eq_none_iff] at hp
  exact hp
end
structure IRS (P : List (V × Nat)) (g : V → Int) (st : Int) (i j m r d : Nat) (ρ : Str → Option V) (σ : List O) : Prop where
 ex : ∃ k, k + d = 5 ∧ GbAt P g i j m k σ ∧ (∀ a ∈ P.take k, ∀ b ∈ P.drop k, g a.1 < g b.1) ∧ ResAt r (P.take k) (tgt P g st) σ ∧ ρ "i" = some (.int (st - 1 + k))
 hm : σ[m]? = some (.slots 226 [some (.tup [.int 0])])
 r1 : ρ "result" = some (.obj r)
structure JRS (P : List (V × Nat)) (g : V → Int) (st : Int) (i j m r k : Nat) (v : V) (σ1 : List O) (n : Nat) (pre : List (V × Nat)) (ρ : Str → Option V) (σ : List O) : Prop where
 e1 : σ[i]? = σ1[i]?
 e2 : σ[j]? = σ1[j]?
 e3 : σ[m]? = σ1[m]?
 res : ResAt r (P.take k ++ pre) (tgt P g st) σ
 r1 : ρ "result" = some (.obj r)
 r2 : ρ "i" = some (.int (st - 1 + k))
 r3 : ρ "rank" = some v
 r4 : ρ "size" = some (.int n)
section
variable {P pre : List (V × Nat)} {g : V → Int} {st : Int} {r d : Nat} {C : Prop} {v : V} {σ1 : List O} {w : Nat}
theorem IRS.elim (h : IRS P g st i j m r d ρ σ) (q : ∀ k R, k + d = 5 → GbAt P g i j m k σ → (∀ a ∈ P.take k, ∀ b ∈ P.drop k, g a.1 < g b.1) → σ[r]? = some (.list R) → R.length = 5 → (∀ e ∈ P.take k, R[e.2]? = some (.flt (tgt P g st e))) → ρ "i" = some (.int (st - 1 + k)) →
  σ[m]? = some (.slots 226 [some (.tup [.int 0])]) → ρ "result" = some (.obj r) → (r ≠ i ∧ r ≠ j) → (m ≠ i ∧ m ≠ j) → C) : C :=
 h.ex.elim fun k e => a5 e fun h1 h2 h3 h4 h5 => h4.elim fun R e => a3 e fun e1 e2 e3 => q k R h1 h2 h3 e1 e2 e3 h5 h.hm h.r1 (gbat_ne h2 e1 nofun nofun nofun) (gbat_ne h2 h.hm nofun nofun nofun)
theorem JRS.elim (h : JRS P g st i j m r k v σ1 w pre ρ σ) (q : ∀ R, σ[r]? = some (.list R) → R.length = 5 → (∀ e ∈ P.take k ++ pre, R[e.2]? = some (.flt (tgt P g st e))) → ρ "result" = some (.obj r) → ρ "i" = some (.int (st - 1 + k)) → ρ "rank" = some v → ρ "size" = some (.int w) → C) : C :=
 h.res.elim fun R e => a3 e fun e1 e2 e3 => q R e1 e2 e3 h.r1 h.r2 h.r3 h.r4
end
theorem rank_all : ((List.range 6).all fun (k : Nat) => (List.range 6).all fun (n : Nat) => [(0 : Int), 1].all fun st => small ((n : Int) + 1) && small (2 * (st - 1 + (k : Int))) && small (2 * (st - 1 + (k : Int)) + ((n : Int) + 1))) = true := by decide +kernel
theorem rank_small {st z : Int} {n : Nat} (hst : st = 0 ∨ st = 1) (hk : k + n ≤ 5) (h1 : 1 ≤ n) (hz : (n : Int) = z) : small (z + 1) = true ∧ small (2 * (st - 1 + k)) = true ∧ small (2 * (st - 1 + k) + (z + 1)) = true :=
 have a1 := List.all_eq_true.mp rank_all k (List.mem_range.mpr (Nat.lt_succ_of_le (Nat.le_trans (Nat.le_add_right _ _) hk)))
 have a2 := List.all_eq_true.mp a1 n (List.mem_range.mpr (Nat.lt_succ_of_le (Nat.le_trans (Nat.le_add_left _ _) hk)))
 have a3 := List.all_eq_true.mp a2 st (List.mem_cons.mpr (hst.imp id List.mem_singleton.mpr))
 have a4 := Bool.and_eq_true_iff.mp a3
 hz ▸ ⟨(Bool.and_eq_true_iff.mp a4.1).1, (Bool.and_eq_true_iff.mp a4.1).2, a4.2⟩
theorem rank_turn {d n : Nat} (h : k + d = 5) (hk : k + n ≤ 5) (h1 : 1 ≤ n) : d - n < d ∧ k + n + (d - n) = 5 :=
 have hd : n ≤ d := Nat.le_of_add_le_add_left (h.symm ▸ hk)
 ⟨Nat.sub_lt (Nat.lt_of_lt_of_le h1 hd) h1, by rw [Nat.add_assoc, Nat.add_sub_cancel' hd]; exact h⟩
theorem rank_i {st : Int} {n : Nat} : st - 1 + ((k + n : Nat) : Int) = st - 1 + k + n := by rw [Int.natCast_add, Int.add_assoc]
theorem rep_new {n : Nat} {v : V} (hk : n ≤ 10000) (q : ∀ (r : Nat) (σ' : List O), σ'[r]? = some (.list (List.replicate n v)) → Q (.obj r) ⟨ρ, σ'⟩) : OX K .Mult (.lst [v]) (.int n) ⟨ρ, σ⟩ Q E :=
 o_rep (Int.natCast_nonneg _) (Int.ofNat_le.mpr hk) (q _ _ (by rw [Int.toNat_natCast]; exact get_app_len))
theorem ig_new' (h : Opened K.c) (hn : 1 < K.n) (q : ∀ (m : Nat) (σ' : List O), σ'[m]? = some (.slots 226 [some (.tup [.int 0])]) → (∀ (q : Nat) (o : O), σ[q]? = some o → σ'[q]? = some o) → Q (.obj m) ⟨ρ, σ'⟩) : CX K (.ref 226) [.int 0] [] ⟨ρ, σ⟩ Q E :=
 ig_new h hn (q _ _ get_app_len fun _ _ e => get_app_old e)
theorem gb_new (h : Opened K.c) (hn : 1 < K.n) (hQ : ∀ (i j : Nat) (σ' : List O), σ'[i]? = some (.slots 83 [some (.int 0), some .none, some .none, some (.bool false), some (.bool false), some (.bool false), some (.obj j), some (.obj m), some (.int 0), some .none]) → σ'[j]? = some (.lit xs 0) →
  (∀ (q : Nat) (o : O), σ[q]? = some o → σ'[q]? = some o) → Q (.obj i) ⟨ρ, σ'⟩) : CX K (.ref 83) [.lst xs] [(("key" : Str), .obj m)] ⟨ρ, σ⟩ Q E := by
 refine mk_slots (Nat.lt_of_succ_lt hn) (mk_83 h) 10 (gb_init (K := K.less) h (nS hn rfl) get_app_len fun σ' h1 h2 h3 h4 => ⟨rfl, hQ _ _ σ' h1 h2 fun q o e => h3 q o (Nat.ne_of_lt (lt_get e)) (get_app_old e)⟩)
theorem zip_run {f : V} (h : Opened K.c) (hn : 0 < K.n) : ∀ (xs : List V) (c : Nat) (σ : List O) (Qz : List V → St → Prop), σ[j]? = some (.slots 181 [some (.int c), some f, some (.int 1)]) → (∀ σ', Qz ((xs.zipIdx c).map pr) ⟨ρ, σ'⟩) → ZRun K 181 170 j xs ⟨ρ, σ⟩ Qz
 | [], c, σ, Qz, hj, hQ => hQ σ
 | x :: xs, c, σ, Qz, hj, hQ => fun F => ⟨⟨_, hj⟩, ct_next (K := K.at F) h hn hj (zip_run h hn xs (c + 1) _ _ (get_set_same hj) fun σ' => hQ σ')⟩
theorem k_rank {kv : List (Str × V)} {rev : Bool} {st : Int} {P : List (V × Nat)} {g : V → Int} (h : Opened K.c) (hc : K.calm = true) (hn : 5 < K.n) (hb : BD K fd_237 [.lst xs] kv [(("data" : Str), .lst xs), (("key" : Str), .none), (("reverse" : Str), .bool rev), (("ties" : Str), .str "average"), (("start" : Str), .int st)])
  (h5 : xs.length = 5) (hz : ZSorts rev (xs.zipIdx.map pr) (P.map pr)) (hP : P.Perm xs.zipIdx) (hK : KeyOk P g) (hs : P.Pairwise fun e f => g e.1 ≤ g f.1) (hst : st = 0 ∨ st = 1)
  (hQ : ∀ σ', Q (.lst (xs.map fun x => .flt (2 * (st - 1) + 2 * (xs.countP fun y => decide (g y < g x) : Nat) + (xs.countP fun y => decide (g y = g x) : Nat) + 1))) ⟨ρ, σ'⟩) : CX K (.ref 237) [.lst xs] kv ⟨ρ, σ⟩ Q E := by
 have hX : Idx P xs := ⟨hP, h5⟩
 refine g_def (Nat.lt_trans (by decide) hn) (d_237 h) hb rfl fun F' Q' E' hF hQ' _ _ => ?_
 have hn4 : 3 < (K.body F' s__rank).n := nS hn rfl
 have hn1 : 2 < (K.body F' s__rank).n := Nat.lt_trans (by decide) hn4
 have hn0 : 1 < (K.body F' s__rank).n := Nat.lt_trans (by decide) hn4
 have hnl : 0 < (K.body F' s__rank).less.n := nS hn4 rfl
 have hl : (P.map pr).length = 5 := by rw [List.length_map, hX.len]
 have hll : (P.map pr).length ≤ lim := hl ▸ (by decide)
 refine ss_id ?_
 repeat walk_at "l"
 refine ct_new h hn1 ?_
 repeat walk_at "l"
 refine .mk (ow_181 h) ⟨_, get_app_len⟩ (by rw [h5]; decide) (by rw [h5]; decide) fun F'' => ct_iter h hnl ⟨rfl, ⟨_, get_app_len⟩, rev, ?_, ?_⟩
 ·walk_at "mr"
 refine zip_run (f := .bool true) (K := (K.body F' _).less) h hnl xs 0 _ _ get_app_len fun σ => ⟨_, hz, ?_⟩
 repeat walk_at "l"
 refine x_list ?_
 repeat walk_at "l"
 refine rep_new (by rw [hl]; decide) fun r σ hr0 => ?_
 rw [hl] at hr0
 repeat walk_at "l"
 refine s_for (fun _ _ => rfl) ?_
 repeat walk_at "l"
 refine ig_new' h hn0 fun m σ hm0 hk0 => ?_
 repeat walk_at "l"
 refine gb_new h hn0 fun i j σ' hi hj hkeep => ?_
 refine o_own (ow_83 h) (fun d ρ σ => IRS P g st i j m r d ρ σ) 5 ⟨_, hi⟩ (gb_iter h (Nat.lt_trans (by decide) hn4) ⟨rfl, ⟨_, hi⟩, ⟨0, rfl, .inl ⟨rfl, ⟨_, _, _, _, _, _, hi⟩, hj⟩, nofun, ⟨_, hkeep _ _ (hk0 _ _ hr0), List.length_replicate .., nofun⟩, ?_⟩, hkeep _ _ hm0, ?_⟩) (fun I Q2 E2 hI hQ2 d ρ σ hP => ?_)
 ·show _ = some (V.int (st - 1 + 0))
  rw [Int.add_zero]
  walk_at "mr"
 ·walk_at "mr"
 ·refine hP.elim fun k R hkd hG hb hr hR5 hR hρi hm hρr nr nm => ?_
  refine gb_nxt h hc hn1 hK (by intro q; have := hX.len; rw [q] at this; cases this) hG hm (fun hd σ1 hbut => hQ2 _ _ ?_) fun e l q n n' σ1 hl hq hi hj hbut => ⟨⟨_, hi⟩, ?_⟩
  ·have hr1 := hX.fin (r := r) (σ := σ1) (g := g) (st := st) ⟨R, hbut _ _ nr.1 nr.2 hr, hR5, fun e he => hR e (by rw [List.take_of_length_le (List.drop_eq_nil_iff.mp hd)]; exact he)⟩
   refine seqN (y_cons (s_ret (x_frz ?_)))
   repeat walk_at "l"
   refine ⟨_, _, .list hr1, ?_⟩
   repeat walk_at "l"
   exact hQ' _ _ (hQ _)
  ·refine (grp (st := st) hs hl hb).elim fun G hg => ?_
   repeat walk_at "l"
   refine list_group h hc hn4 rfl hK hl (by rw [hX.len]; decide) hi hq hj (hbut _ _ nm.1 nm.2 hm) fun σ2 hA hbut2 => ?_
   rw [← hg.ex]
   have hkG : k + G.length ≤ 5 := hX.len ▸ hg.le
   have hl2 : (G.map pr).length ≤ lim := by rw [List.length_map]; exact Nat.le_trans (Nat.le_trans (Nat.le_add_left _ _) hkG) (by decide)
   repeat walk_at "l"
   generalize hz : ((List.map pr G).length : Int) = z
   rw [List.length_map] at hz
   have hs := rank_small hst hkG hg.one hz
   refine o_div rfl hs.1 ?_
   repeat walk_at "l"
   refine o_addIF rfl hs.2.1 hs.1 hs.2.2 ?_
   repeat walk_at "l"
   refine s_for (fun _ _ => rfl) ?_
   repeat walk_at "l"
   refine o_items (f := pr) hc G rfl (fun pre ρ σ => JRS P g st i j m r k (.flt (2 * (st - 1 + k) + (z + 1))) σ2 G.length pre ρ σ) .lst ⟨rfl, rfl, rfl, ⟨R, hbut2 _ _ nr.1 nr.2 (hbut _ _ nr.1 nr.2 hr), hR5, (List.append_nil _).symm ▸ hR⟩, ?_, ?_, ?_, ?_⟩ (fun I3 Q3 E3 hI3 hQ3 x0 pre f rest ρ3 σ3 e hP3 => ?_) (fun ρ3 σ3 hP3 => ?_)
   ·walk_at "mr"
   ·walk_at "mr"
   ·walk_at "mr"
   ·rw [hz]; walk_at "mr"
   ·refine hP3.elim fun R3 g6 g7 g8 g9 g10 g11 g12 => ?_
    have hfG : f ∈ G := e ▸ List.mem_append_right _ (List.mem_cons_self ..)
    have hfP : f ∈ P := hg.mem f (List.mem_append_right _ hfG)
    have hf5 := hX.lt hfP
    unfold pr
    repeat walk_at "l"
    refine i_list g6 (Int.natCast_nonneg _) (by rw [Int.toNat_natCast, g7]; exact hf5) (by rw [g7]; decide) ?_
    repeat walk_at "l"
    refine hI3 _ _ _ ⟨?_, ?_, ?_, ?_, ?_, ?_, ?_, ?_⟩
    ·rw [List.getElem?_set_ne nr.1]; exact hP3.e1
    ·rw [List.getElem?_set_ne nr.2]; exact hP3.e2
    ·rw [List.getElem?_set_ne (ne_get g6 (hP3.e3.trans (hbut2 _ _ nm.1 nm.2 (hbut _ _ nm.1 nm.2 hm))) nofun)]; exact hP3.e3
    ·rw [← List.append_assoc, ← hz, ← hg.tg f hfG]
     refine hX.put (fun u hu => hg.mem u ?_) hfP g6 g7 g8
     rw [e]
     exact (List.mem_append.mp hu).elim (List.mem_append_left _) fun q => List.mem_append_right _ (List.mem_append_left _ q)
    ·walk_at "mr"
    ·walk_at "mr"
    ·walk_at "mr"
    ·walk_at "mr"
   ·refine hP3.elim fun R3 g6 g7 g8 g9 g10 g11 g12 => ?_
    repeat walk_at "l"
    have ht := rank_turn hkd hkG hg.one
    refine ⟨_, ht.1, hI _ _ _ ⟨⟨_, ht.2, .inr ⟨e, List.mem_of_mem_drop (hl ▸ List.mem_cons_self ..), hg.aft hP3.e1 hP3.e2 hA, hg.rest⟩, hg.ord, ⟨R3, g6, g7, hg.tk ▸ g8⟩, ?_⟩, hP3.e3.trans (hbut2 _ _ nm.1 nm.2 (hbut _ _ nm.1 nm.2 hm)), ?_⟩⟩
    ·rw [rank_i]
     walk_at "mr"
    ·walk_at "mr"
end
end
section
section
variable {K : Kx} {ρ : Str → Option V} {σ σ' : List O} {E : X → St → Prop} {Q : V → St → Prop} {xs : List V} {x y z : V}
theorem bd_237 (h : Opened K.c) : BD K fd_237 [x] [] [(("data" : Str), x), (("key" : Str), .none), (("reverse" : Str), .bool false), (("ties" : Str), .str "average"), (("start" : Str), .int 1)] :=
 bd1d fun a => ⟨_, fun S => by rw [h.hK]; rfl, fun G => ⟨_, _, rfl, VR_none, _, _, rfl, VR_bool _, _, _, rfl, VR_str _ _, _, _, rfl, VR_int _ _, rfl⟩⟩
theorem bd_237k (h : Opened K.c) : BD K fd_237 [x] [(("reverse" : Str), y), (("start" : Str), z)] [(("data" : Str), x), (("key" : Str), .none), (("reverse" : Str), y), (("ties" : Str), .str "average"), (("start" : Str), z)] := .of fun G ws kvs hv hk => by
 obtain ⟨a, us, rfl, h1, hv⟩ := hv.cons_inv
 cases hv.nil_inv
 obtain ⟨b, us, rfl, h2, hk⟩ := hk
 obtain ⟨c, us, rfl, h3, hk⟩ := hk
 obtain rfl : us = [] := hk
 exact ⟨_, fun S => by rw [h.hK]; rfl, ⟨_, _, rfl, h1, _, _, rfl, VR_none, _, _, rfl, h2, _, _, rfl, VR_str _ _, _, _, rfl, h3, rfl⟩⟩
noncomputable def rk (g : V → Int) (xs : List V) (x : V) : Int := 2 * (xs.countP fun y => decide (g y < g x) : Nat) + (xs.countP fun y => decide (g y = g x) : Nat) + 1
theorem k_rank_up {g : V → Int} (h : Opened K.c) (hc : K.calm = true) (hn : 5 < K.n) (h5 : xs.length = 5) (hK : KeyLt xs.zipIdx g) (hQ : ∀ σ', Q (.lst (xs.map fun x => .flt (rk g xs x))) ⟨ρ, σ'⟩) : CX K (.ref 237) [.lst xs] [] ⟨ρ, σ⟩ Q E := by
 have hnd : (xs.zipIdx.map Prod.snd).Nodup := by rw [List.zipIdx_map_snd]; exact List.nodup_range' ..
 obtain ⟨P, hz, hp, hs⟩ := zsorts (rev := false) hK (by rw [List.length_zipIdx, h5]) hnd
 refine k_rank (st := 1) h hc hn (bd_237 h) h5 hz hp (hK.toKeyOk.perm hp) (hs.imp fun q => by simpa using q) (.inr rfl) fun σ' => ?_
 have e : (fun x => V.flt (rk g xs x)) = fun x => .flt (2 * ((1 : Int) - 1) + 2 * (xs.countP fun y => decide (g y < g x) : Nat) + (xs.countP fun y => decide (g y = g x) : Nat) + 1) := by
  funext x
  unfold rk
  rw [show (2 : Int) * ((1 : Int) - 1) = 0 from rfl, Int.zero_add]
 rw [← e]
 exact hQ σ'
theorem k_rank_dn {g : V → Int} (h : Opened K.c) (hc : K.calm = true) (hn : 5 < K.n) (h5 : xs.length = 5) (hK : KeyLt xs.zipIdx g) (hQ : ∀ σ', Q (.lst (xs.map fun x => .flt (rk (fun v => -g v) xs x - 2))) ⟨ρ, σ'⟩) :
  CX K (.ref 237) [.lst xs] [(("reverse" : Str), .bool true), (("start" : Str), .int 0)] ⟨ρ, σ⟩ Q E := by
 have hnd : (xs.zipIdx.map Prod.snd).Nodup := by rw [List.zipIdx_map_snd]; exact List.nodup_range' ..
 obtain ⟨P, hz, hp, hs⟩ := zsorts (rev := true) hK (by rw [List.length_zipIdx, h5]) hnd
 refine k_rank (st := 0) (g := fun v => -g v) h hc hn (bd_237k h) h5 hz hp (hK.toKeyOk.perm hp).neg (hs.imp fun q => by
  rw [if_pos rfl] at q
  exact Int.neg_le_neg q) (.inl rfl) fun σ' => ?_
 have e : (fun x => V.flt (rk (fun v => -g v) xs x - 2)) = fun x => .flt (2 * ((0 : Int) - 1) + 2 * (xs.countP fun y => decide (-g y < -g x) : Nat) + (xs.countP fun y => decide (-g y = -g x) : Nat) + 1) := by
  funext x
  unfold rk
  dsimp only
  congr 1
  omega
 rw [← e]
 exact hQ σ'
end
end
section
section
variable {K : Kx} {ρ : Str → Option V} {σ σ' : List O} {E : X → St → Prop} {Q : V → St → Prop} {xs : List V} {x y z : V} {i d m : Nat} {a : Int}
theorem bd_289 (h : Opened K.c) : BD K fd_289 [x] [] [(("self" : Str), x), (("graph" : Str), .none)] := bd1d fun a => ⟨_, fun S => by rw [h.hK]; rfl, fun G => ⟨_, _, rfl, VR_none, rfl⟩⟩
theorem ts_new (h : Opened K.c) (hn : 1 < K.n) (q : ∀ σ' : List O, σ'[σ.length + 1]? = some (.inst 353 σ.length) → σ'[σ.length]? = some (.idict [("_node2info", .obj (σ.length + 2)), ("_ready_nodes", .none), ("_npassedout", .int 0), ("_nfinished", .int 0)]) → σ'[σ.length + 2]? = some (.dict []) → (∀ (q : Nat) (o : O), σ[q]? = some o → σ'[q]? = some o) → Q (.obj (σ.length + 1)) ⟨ρ, σ'⟩) :
  CX K (.ref 353) [] [] ⟨ρ, σ⟩ Q E := by
 refine mk_inst (nZ hn rfl) (mk_353 h) (def_call (nS hn rfl) (d_289 h) (bd_289 h) rfl fun F' hF => ?_)
 have h1 : (σ ++ [O.idict []] ++ [O.inst 353 σ.length])[σ.length + 1]? = some (O.inst 353 σ.length) := by
  have := get_app_len (σ := σ ++ [O.idict []]) (o := O.inst 353 σ.length)
  rwa [List.length_append, List.length_singleton] at this
 have h0 : (σ ++ [O.idict []] ++ [O.inst 353 σ.length])[σ.length]? = some (O.idict []) := get_app_old get_app_len
 have n1 : σ.length ≠ σ.length + 1 := Nat.ne_of_lt (Nat.lt_succ_self _)
 refine ss_id ?_
 repeat walk_at "l"
 have l2 : (σ ++ [O.idict []] ++ [O.inst 353 σ.length]).length = σ.length + 2 := by simp
 have h2 := get_app_len (σ := σ ++ [O.idict []] ++ [O.inst 353 σ.length]) (o := O.dict [])
 dsimp only
 rw [l2] at h2 ⊢
 refine ⟨rfl, q _ (get_set_ne n1 (get_app_old h1)) ?_ (get_set_ne (by omega) h2) fun q o e => get_set_ne (Nat.ne_of_lt (lt_get e)).symm (get_app_old (get_app_old (get_app_old e)))⟩
 refine (get_set_same (get_app_old h0)).trans (congrArg (fun l => some (O.idict l)) ?_)
 kernel_rfl
theorem ni_new (h : Opened K.c) (hn : 1 < K.n) (q : ∀ σ' : List O, σ'[σ.length]? = some (.slots 256 [some (.int a), some (.int 0), some (.obj (σ.length + 1))]) → σ'[σ.length + 1]? = some (.list []) → (∀ (q : Nat) (o : O), σ[q]? = some o → σ'[q]? = some o) → Q (.obj σ.length) ⟨ρ, σ'⟩) : CX K (.ref 256) [.int a] [] ⟨ρ, σ⟩ Q E := by
 refine mk_slots (nZ hn rfl) (mk_256 h) 3 (def_call (nS hn rfl) (d_252 h) (bd_252 h) rfl fun F' hF => ?_)
 refine y_cons ?_
 have h0 : (σ ++ [O.slots 256 (List.replicate 3 none)])[σ.length]? = some (O.slots 256 [none, none, none]) := get_app_len
 repeat walk_at "l"
 refine x_listO ?_
 repeat walk_at "l"
 dsimp only
 simp only [List.length_set, List.length_append, List.length_singleton]
 have hs0 := get_set_same (o := O.slots 256 (([none, none, none].set 0 (some (V.int a))).set 1 (some (V.int 0)))) h0
 have hs1 := get_app_len (σ := (σ ++ [O.slots 256 (List.replicate 3 none)]).set σ.length (O.slots 256 (([none, none, none].set 0 (some (V.int a))).set 1 (some (V.int 0))))) (o := O.list [])
 rw [List.length_set, List.length_append, List.length_singleton] at hs1
 refine ⟨trivial, q _ (get_set_same (get_app_old hs0)) (get_set_ne (by omega) hs1) fun q o e => ?_⟩
 have n1 := Nat.ne_of_lt (lt_get e)
 exact get_set_ne n1.symm (get_app_old (get_set_ne n1.symm (get_app_old e)))
end
end
section
section
variable {K : Kx} {ρ : Str → Option V} {σ σ' : List O} {E : X → St → Prop} {Q : V → St → Prop} {xs : List V} {x y z : V} {i d n p : Nat} {a : Int} {es : List (Int × V)} {rd po fi : V}
theorem gi_found (h : Opened K.c) (hn : 0 < K.n) (hi : σ[i]? = some (.inst 353 d)) (hd : σ[d]? = some (.idict [("_node2info", .obj n), ("_ready_nodes", rd), ("_npassedout", po), ("_nfinished", fi)])) (hm : σ[n]? = some (.dict es)) (he : findG es a = some (.obj p)) (q : Q (.obj p) ⟨ρ, σ⟩) :
  CX K (.ref 296) [.obj i, .int a] [] ⟨ρ, σ⟩ Q E := by
 refine def_call hn (d_296 h) (bd_296 h) rfl fun F' hF => ?_
 refine ss_id ?_
 repeat walk_at "l"
 exact q
theorem gi_new (h : Opened K.c) (hn : 2 < K.n) (hi : σ[i]? = some (.inst 353 d)) (hd : σ[d]? = some (.idict [("_node2info", .obj n), ("_ready_nodes", rd), ("_npassedout", po), ("_nfinished", fi)])) (hm : σ[n]? = some (.dict es)) (he : findG es a = none) (hl : es.length < lim)
  (q : ∀ σ' : List O, σ'[σ.length]? = some (.slots 256 [some (.int a), some (.int 0), some (.obj (σ.length + 1))]) → σ'[σ.length + 1]? = some (.list []) → σ'[n]? = some (.dict (putG es a (.obj σ.length))) → But1 n σ σ' → Q (.obj σ.length) ⟨ρ, σ'⟩) :
  CX K (.ref 296) [.obj i, .int a] [] ⟨ρ, σ⟩ Q E := by
 refine def_call (nZ hn rfl) (d_296 h) (bd_296 h) rfl fun F' hF => ?_
 refine ss_id ?_
 repeat walk_at "l"
 refine ni_new (K := K.body F' _) h (nS hn rfl) fun σ1 h1 h2 h3 => ?_
 have hi1 := h3 _ _ hi
 have hd1 := h3 _ _ hd
 have hm1 := h3 _ _ hm
 repeat walk_at "l"
 have n1 : n ≠ σ.length := Nat.ne_of_lt (lt_get hm)
 have n2 : n ≠ σ.length + 1 := by have := lt_get hm; omega
 exact q _ (get_set_ne n1 h1) (get_set_ne n2 h2) (get_set_same hm1) fun q o hq e => get_set_ne hq.symm (h3 q o e)
end
end
section
section
variable {K : Kx} {ρ : Str → Option V} {σ σ' : List O} {E : X → St → Prop} {Q : V → St → Prop} {xs : List V} {x y z : V} {i d n r : Nat} {p f : Int} {es : List (Int × V)}
theorem k_active (h : Opened K.c) (hn : 0 < K.n) (hi : σ[i]? = some (.inst 353 d)) (hd : σ[d]? = some (.idict [("_node2info", .obj n), ("_ready_nodes", .obj r), ("_npassedout", .int p), ("_nfinished", .int f)])) (hr : σ[r]? = some (.list xs)) (hl : xs.length ≤ lim)
  (q : Q (.bool (decide (f < p) || !xs.isEmpty)) ⟨ρ, σ⟩) : CX K (.ref 322) [.obj i] [] ⟨ρ, σ⟩ Q E := by
 refine def_call hn (d_322 h) (bd_322 h) rfl fun F' hF => ?_
 refine ss_id ?_
 repeat walk_at "l"
 by_cases c : f < p
 ·rw [decide_eq_true c] at q
  refine bopOt (decide_eq_true c) ?_
  rw [decide_eq_true c]
  repeat walk_at "l"
  exact q
 ·rw [decide_eq_false c] at q
  refine bopOf (decide_eq_false c) ?_
  repeat walk_at "l"
  exact q
end
end
section
noncomputable def Inf (σ : List O) (es : List (Int × V)) (np : Int → Int) (su : Int → Nat) : Prop := ∀ a x, findG es a = some x → ∃ p, x = .obj p ∧ σ[p]? = some (.slots 256 [some (.int a), some (.int (np a)), some (.obj (su a))])
noncomputable def KeepI (σ σ' : List O) : Prop := ∀ (q : Nat) (o : O), σ[q]? = some o → (∀ fs, o ≠ .slots 256 fs) → σ'[q]? = some o
noncomputable def npSet (np : Int → Int) (a v : Int) : Int → Int := fun b => if b = a then v else np b
theorem Inf.set {σ : List O} {es : List (Int × V)} {np : Int → Int} {su : Int → Nat} {a v : Int} {p : Nat} (h : Inf σ es np su) (ha : findG es a = some (.obj p)) (hp : σ[p]? = some (.slots 256 [some (.int a), some (.int (np a)), some (.obj (su a))])) : Inf (σ.set p (.slots 256 [some (.int a), some (.int v), some (.obj (su a))])) es (npSet np a v) su := by
 intro b x hb
 obtain ⟨q, rfl, hq⟩ := h b x hb
 refine ⟨q, rfl, ?_⟩
 by_cases e : q = p
 ·subst e
  rw [hp] at hq
  injection hq with hq
  injection hq with _ hq
  injection hq with h1 h2
  injection h1 with h1
  injection h1 with h1
  subst h1
  unfold npSet
  rw [if_pos rfl]
  exact get_set_same hp
 ·unfold npSet
  by_cases e2 : b = a
  ·subst e2
   rw [ha] at hb
   injection hb with hb
   injection hb with hb
   exact absurd hb.symm e
  ·rw [if_neg e2]
   exact get_set_ne (Ne.symm e) hq
theorem Inf.at {σ : List O} {es : List (Int × V)} {np : Int → Int} {su : Int → Nat} {a : Int} {p : Nat} (h : Inf σ es np su) (ha : findG es a = some (.obj p)) : σ[p]? = some (.slots 256 [some (.int a), some (.int (np a)), some (.obj (su a))]) := by
 obtain ⟨q, e, hq⟩ := h a _ ha
 cases e
 exact hq
theorem KeepI.set {σ σ' : List O} {p : Nat} {fs : List (Option V)} {o : O} (h : KeepI σ σ') (hp : σ'[p]? = some (.slots 256 fs)) : KeepI σ (σ'.set p o) := fun q o' e hn => get_set_ne (fun z => hn fs (Option.some.inj ((h q o' e hn).symm.trans (z ▸ hp)))) (h q o' e hn)
section
variable {K : Kx} {ρ : Str → Option V} {σ σ' : List O} {E : X → St → Prop} {Q : V → St → Prop} {xs : List Int} {x y z : V} {i d n r : Nat} {p f : Int} {es : List (Int × V)} {np : Int → Int} {su : Int → Nat}
noncomputable def npOut (np : Int → Int) (done : List Int) : Int → Int := fun b => if b ∈ done then -1 else np b
theorem npOut_snoc {done : List Int} {a : Int} : npSet (npOut np done) a (-1) = npOut np (done ++ [a]) := by
 funext b
 unfold npSet npOut
 by_cases e : b = a
 ·simp [e]
 ·by_cases e2 : b ∈ done <;> simp [e, e2]
theorem k_get_ready (h : Opened K.c) (hc : K.calm = true) (hn : 0 < K.n) (hi : σ[i]? = some (.inst 353 d)) (hd : σ[d]? = some (.idict [("_node2info", .obj n), ("_ready_nodes", .obj r), ("_npassedout", .int p), ("_nfinished", .int f)])) (hm : σ[n]? = some (.fdict es)) (hr : σ[r]? = some (.list (xs.map .int))) (hl : xs.length ≤ lim)
  (hI : Inf σ es np su) (hx : ∀ a ∈ xs, ∃ q, findG es a = some (.obj q))
  (q : ∀ σ' : List O, σ'[d]? = some (.idict [("_node2info", .obj n), ("_ready_nodes", .obj r), ("_npassedout", .int (p + xs.length)), ("_nfinished", .int f)]) → σ'[r]? = some (.list []) → Inf σ' es (npOut np xs) su → (∀ q o, q ≠ d → q ≠ r → σ[q]? = some o → (∀ fs, o ≠ .slots 256 fs) → σ'[q]? = some o) → Q (.tup (xs.map .int)) ⟨ρ, σ'⟩) :
  CX K (.ref 315) [.obj i] [] ⟨ρ, σ⟩ Q E := by
 refine g_def hn (d_315 h) (bd_315 h) rfl fun F' Q' E' hF hQ _ _ => ?_
 have hl2 : (xs.map V.int).length ≤ lim := by rw [List.length_map]; exact hl
 refine ss_id ?_
 repeat walk_at "l"
 refine y_for (fun _ _ => rfl) ?_
 repeat walk_at "l"
 refine o_items (f := V.int) (K := K.body F' _) hc xs rfl (fun done ρ3 σ3 => Inf σ3 es (npOut np done) su ∧ KeepI σ σ3 ∧ ρ3 "result" = some (.tup (xs.map V.int)) ∧ ρ3 "n2i" = some (.obj n) ∧ ρ3 "self" = some (.obj i)) .tup ⟨?_, fun _ _ e _ => e, ?_, ?_, ?_⟩ (fun I Q2 E2 hI2 _ x0 done a rest ρ3 σ3 e hP => ?_) (fun ρ3 σ3 hP => ?_)
 ·have : npOut np [] = np := by funext b; unfold npOut; simp
  rw [this]; exact hI
 ·walk_at "mr"
 ·walk_at "mr"
 ·walk_at "mr"
 ·refine a5 hP fun g3 g4 g5 g6 g7 => ?_
  refine (hx a (by rw [e]; simp)).elim fun w hw => ?_
  have hinf := g3.at hw
  have hm3 := g4 n _ hm (by intro fs; simp)
  repeat walk_at "l"
  refine hI2 _ _ _ ⟨?_, g4.set hinf, ?_, ?_, ?_⟩
  ·rw [← npOut_snoc]
   exact g3.set hw hinf
  ·walk_at "mr"
  ·walk_at "mr"
  ·walk_at "mr"
 ·refine a5 hP fun g3 g4 g5 g6 g7 => ?_
  have hi3 := g4 i _ hi (by intro fs; simp)
  have hd3 := g4 d _ hd (by intro fs; simp)
  have hr3 := g4 r _ hr (by intro fs; simp)
  have ndr : d ≠ r := ne_get hd hr (by simp)
  have nir : r ≠ i := ne_get hr hi (by simp)
  repeat walk_at "l"
  rw [List.length_map]
  refine hQ _ _ (q _ ?_ (get_set_ne ndr (get_set_same hr3)) ?_ (fun q o a b e hn => get_set_ne a.symm (get_set_ne b.symm (g4 q o e hn))))
  ·refine (get_set_same (get_set_ne ndr.symm hd3)).trans (congrArg (fun l => some (O.idict l)) ?_)
   kernel_rfl
  ·intro a x hax
   obtain ⟨w, rfl, hw⟩ := g3 a x hax
   exact ⟨w, rfl, get_set_ne (ne_get hd3 hw (by simp)) (get_set_ne (ne_get hr3 hw (by simp)) hw)⟩
end
end
section
section
variable {K : Kx} {ρ : Str → Option V} {σ σ' : List O} {E : X → St → Prop} {Q : V → St → Prop} {xs : List Int} {x y z : V} {i d n r : Nat} {p f : Int} {es : List (Int × V)} {np : Int → Int} {su : Int → Nat}
theorem bd_336 {vs : List V} (hl : vs.length ≤ lim) : BD K fd_336 (x :: vs) [] [(("self" : Str), x), (("nodes" : Str), .tup vs)] := bdRest (pre := [(("self" : Str), x)]) (nm := "nodes") hl fun G ws kvs hv hk => by
 obtain ⟨w, us, rfl, h1, hv⟩ := hv.cons_inv
 cases hk.nil_inv
 refine ⟨[(("self" : Str), w)], us, ?_, hv, ⟨w, _, rfl, h1, rfl⟩⟩
 cases us <;> kernel_rfl
theorem bd_303 {vs : List V} (hl : vs.length ≤ lim) : BD K fd_303 (x :: y :: vs) [] [(("self" : Str), x), (("node" : Str), y), (("predecessors" : Str), .tup vs)] := bdRest (pre := [(("self" : Str), x), (("node" : Str), y)]) (nm := "predecessors") hl fun G ws kvs hv hk => by
 obtain ⟨w, us, rfl, h1, hv⟩ := hv.cons_inv
 obtain ⟨w', us, rfl, h2, hv⟩ := hv.cons_inv
 cases hk.nil_inv
 refine ⟨[(("self" : Str), w), (("node" : Str), w')], us, ?_, hv, ⟨w, _, rfl, h1, w', _, rfl, h2, rfl⟩⟩
 cases us <;> kernel_rfl
end
end
section
theorem te_nil {k : Kx} {st : St} {Q : Bool → St → Prop} (h : Q true st) : TEs k [] st Q := h
theorem te_cons {k : Kx} {e : PySem.Expr} {fs : List PySem.Expr} {st : St} {Q : Bool → St → Prop} (h : ∀ F, TS (k.at F) e st (kTe k fs Q) no) : TEs k (e :: fs) st Q := fun F => Run.imp (h F) fun b st q => by cases b <;> exact q
theorem cb_elt {k : Kx} {elt : PySem.Expr} {acc : List V} {st : St} {Q : List V → St → Prop} (h : ∀ F, EX (k.at F) elt st (kElt acc Q) no) : CB k elt [] acc st Q := h
theorem o_each {α : Type} {k : Kx} {t : PySem.Expr} {fs : List PySem.Expr} {B : List V → St → (List V → St → Prop) → Prop} {Q : List V → St → Prop} {f : α → V} (hB : MonoB B) (l : List α) (Iv : List α → List V → (Str → Option V) → List O → Prop)
  (step : ∀ I : List α → List V → St → Prop, (∀ d acc ρ σ, Iv d acc ρ σ → I d acc ⟨ρ, σ⟩) → ∀ done a rest acc ρ σ, l = done ++ a :: rest → Iv done acc ρ σ → TAs k t (f a) ⟨ρ, σ⟩ (kTes k fs (kBr B acc (I (done ++ [a])))))
  (hend : ∀ acc ρ σ, Iv l acc ρ σ → Q acc ⟨ρ, σ⟩) {acc : List V} {ρ : Str → Option V} {σ : List O} (h0 : Iv [] acc ρ σ) : CEach k t fs B (l.map f) acc ⟨ρ, σ⟩ Q := by
 have key : ∀ (rest done : List α) (acc : List V) (st : St), l = done ++ rest → Iv done acc st.ρ st.σ → CEach k t fs B (rest.map f) acc st Q := by
  intro rest
  induction rest with
  | nil => intro done acc st e h; rw [List.append_nil] at e; subst e; exact hend acc _ _ h
  | cons a rest ih =>
   intro done acc st e h F w
   refine Run.imp (step (fun d acc st => d = done ++ [a] → CEach k t fs B (rest.map f) acc st Q) (fun d acc ρ σ h e2 => ?_) done a rest acc st.ρ st.σ e h F w) fun _ st q => q.mono fun b st q => ?_
   ·subst e2
    exact ih (done ++ [a]) acc ⟨ρ, σ⟩ (by rw [e, List.append_assoc]; rfl) h
   ·cases b with
    | true => exact hB _ _ _ _ (fun acc st h => h rfl) q
    | false => exact q rfl
 exact key l [] acc ⟨ρ, σ⟩ rfl h0
theorem o_sel {α : Type} {k : Kx} {t elt : PySem.Expr} {fs : List PySem.Expr} {Q : List V → St → Prop} {f g : α → V} (p : α → Bool) (l : List α) (hl : l.length ≤ 100) (P : (Str → Option V) → List O → Prop)
  (step : ∀ (Y : V → St → Prop) (Z : St → Prop) a ρ σ, a ∈ l → P ρ σ → (p a = true → ∀ ρ' σ', P ρ' σ' → Y (g a) ⟨ρ', σ'⟩) → (p a = false → ∀ ρ' σ', P ρ' σ' → Z ⟨ρ', σ'⟩) → TAs k t (f a) ⟨ρ, σ⟩ (kTes k fs (kSel k elt Y Z)))
  (hend : ∀ ρ σ, P ρ σ → Q ((l.filter p).map g) ⟨ρ, σ⟩) {ρ : Str → Option V} {σ : List O} (h0 : P ρ σ) : CEach k t fs (CB k elt []) (l.map f) [] ⟨ρ, σ⟩ Q := by
 refine o_each (CB.mono []) l (fun d acc ρ σ => acc = (d.filter p).map g ∧ P ρ σ) (fun I hI done a rest acc ρ σ e h => ?_) (fun acc ρ σ h => h.1 ▸ hend ρ σ h.2) ⟨rfl, h0⟩
 have hlen : acc.length < lim := by
  have e1 := congrArg List.length e
  have e2 := List.length_filter_le p done
  rw [List.length_append, List.length_cons] at e1
  rw [h.1, List.length_map]
  show _ < 10000
  omega
 have e3 : ((done ++ [a]).filter p).map g = acc ++ if p a = true then [g a] else [] := by
  rw [h.1, List.filter_append, List.map_append]
  congr 1
  rw [List.filter_cons]
  split <;> rfl
 refine fun F w => Run.imp (step (fun v st => acc.length < lim ∧ I (done ++ [a]) (acc ++ [v]) st) (fun st => I (done ++ [a]) acc st) a ρ σ (by rw [e]; simp) h.2 (fun pa ρ' σ' h' => ⟨hlen, hI _ _ _ _ ⟨by rw [e3, if_pos pa], h'⟩⟩) (fun pa ρ' σ' h' => hI _ _ _ _ ⟨by rw [e3, if_neg (by rw [pa]; exact Bool.false_ne_true), List.append_nil], h'⟩) F w) fun _ st q => q.mono fun b st q => ?_
 cases b with
 | true => exact q
 | false => exact q
theorem o_map {α : Type} {k : Kx} {t elt : PySem.Expr} {Q : List V → St → Prop} {f g : α → V} (l : List α) (hl : l.length ≤ 100) (P : (Str → Option V) → List O → Prop)
  (step : ∀ (Y : V → St → Prop) a ρ σ, a ∈ l → P ρ σ → (∀ ρ' σ', P ρ' σ' → Y (g a) ⟨ρ', σ'⟩) → TAs k t (f a) ⟨ρ, σ⟩ (kExs k elt Y))
  (hend : ∀ ρ σ, P ρ σ → Q (l.map g) ⟨ρ, σ⟩) {ρ : Str → Option V} {σ : List O} (h0 : P ρ σ) : CEach k t [] (CB k elt []) (l.map f) [] ⟨ρ, σ⟩ Q :=
 o_sel (f := f) (fun _ => true) l hl P (fun Y Z a ρ σ ha h h1 _ => step Y a ρ σ ha h (h1 rfl)) (fun ρ σ h => by
  rw [List.filter_eq_self.mpr fun _ _ => rfl]
  exact hend ρ σ h) h0
theorem o_selV {k : Kx} {t elt : PySem.Expr} {fs : List PySem.Expr} {Q : List V → St → Prop} {g : V → V} (p : V → Bool) (l : List V) (hl : l.length ≤ 100) (P : (Str → Option V) → List O → Prop)
  (step : ∀ (Y : V → St → Prop) (Z : St → Prop) a ρ σ, a ∈ l → P ρ σ → (p a = true → ∀ ρ' σ', P ρ' σ' → Y (g a) ⟨ρ', σ'⟩) → (p a = false → ∀ ρ' σ', P ρ' σ' → Z ⟨ρ', σ'⟩) → TAs k t a ⟨ρ, σ⟩ (kTes k fs (kSel k elt Y Z)))
  (hend : ∀ ρ σ, P ρ σ → Q ((l.filter p).map g) ⟨ρ, σ⟩) {ρ : Str → Option V} {σ : List O} (h0 : P ρ σ) : CEach k t fs (CB k elt []) l [] ⟨ρ, σ⟩ Q := by
 have := o_sel (f := fun x => x) p l hl P step hend h0
 rwa [List.map_id'] at this
theorem o_mapV {k : Kx} {t elt : PySem.Expr} {Q : List V → St → Prop} {g : V → V} (l : List V) (hl : l.length ≤ 100) (P : (Str → Option V) → List O → Prop)
  (step : ∀ (Y : V → St → Prop) a ρ σ, a ∈ l → P ρ σ → (∀ ρ' σ', P ρ' σ' → Y (g a) ⟨ρ', σ'⟩) → TAs k t a ⟨ρ, σ⟩ (kExs k elt Y))
  (hend : ∀ ρ σ, P ρ σ → Q (l.map g) ⟨ρ, σ⟩) {ρ : Str → Option V} {σ : List O} (h0 : P ρ σ) : CEach k t [] (CB k elt []) l [] ⟨ρ, σ⟩ Q := by
 have := o_map (f := fun x => x) l hl P step hend h0
 rwa [List.map_id'] at this
section
variable {K : Kx} {ρ : Str → Option V} {σ σ' : List O} {E : X → St → Prop} {Q : V → St → Prop} {xs : List V}
theorem k_twice {g : V → Int} (h : Opened K.c) (hc : K.calm = true) (hn : 0 < K.n) (hl : xs.length ≤ 5) (hg : ∀ x ∈ xs, x.num = some (g x)) (q : Q (.lst (xs.map fun x => .int (rk g xs x))) ⟨ρ, σ⟩) : CX K (.ref 367) [.lst xs] [] ⟨ρ, σ⟩ Q E := by
 have hl1 : xs.length ≤ 100 := Nat.le_trans hl (by decide)
 have hfl : ∀ p : V → Bool, (xs.filter p).length ≤ lim := fun p => Nat.le_trans (List.length_filter_le ..) (Nat.le_trans hl (by decide))
 refine g_def hn (d_367 h) (bd_367 h) rfl fun F' Q' E' hF hQ _ _ => ?_
 refine ss_id ?_
 repeat walk_at "l"
 refine y_comp hc (fun _ _ => rfl) (by kernel_rfl) ?_
 repeat walk_at "l"
 refine y_lst ?_
 refine o_mapV (g := fun x => .int (rk g xs x)) xs hl1 (fun ρ1 σ1 => ρ1 "row" = some (.lst xs) ∧ σ1 = σ) (fun Y x ρ1 σ1 hx hP hY => ?_) (fun ρ1 σ1 hP => ?_) ⟨?_, rfl⟩
 ·have h1 := hP.1
  intro F1
  repeat walk_at "l"
  intro F2
  repeat walk_at "l"
  refine y_comp (K := ((K.body F' _).inn _).at F2) hc (fun _ _ => rfl) (by kernel_rfl) ?_
  repeat walk_at "l"
  refine y_lst ?_
  have hx' := hg x hx
  refine o_selV (g := fun x => x) (fun y => decide (g y < g x)) xs hl1 (fun ρ2 σ2 => ρ2 "mark" = some x ∧ σ2 = σ1) (fun Y2 Z2 y ρ2 σ2 hy hP2 hY2 hZ2 => ?_) (fun ρ2 σ2 hP2 => ?_) ⟨?_, rfl⟩
  ·have h2 := hP2.1
   have hy' := hg y hy
   intro F3
   repeat walk_at "l"
   refine te_cons fun F4 => ?_
   repeat walk_at "l"
   by_cases c : g y < g x
   ·refine ifT (decide_eq_true c) (te_nil fun F5 => ?_)
    repeat walk_at "l"
    refine hY2 (decide_eq_true c) _ _ ⟨?_, hP2.2⟩
    walk_at "mr"
   ·refine ifF (decide_eq_false c) (hZ2 (decide_eq_false c) _ _ ⟨?_, hP2.2⟩)
    walk_at "mr"
  ·have hl3 := hfl fun y => decide (g y < g x)
   rw [List.map_id']
   try dsimp only
   rw [hP2.2]
   repeat walk_at "l"
   refine o_mul rfl rfl (by decide) ?_
   repeat walk_at "l"
   refine y_comp (K := ((K.body F' _).inn _).at F2) hc (fun _ _ => rfl) (by kernel_rfl) ?_
   repeat walk_at "l"
   refine y_lst ?_
   refine o_selV (g := fun x => x) (fun y => decide (g y = g x)) xs hl1 (fun ρ2 σ2 => ρ2 "mark" = some x ∧ σ2 = σ1) (fun Y2 Z2 y ρ2 σ2 hy hP2 hY2 hZ2 => ?_) (fun ρ2 σ2 hP2 => ?_) ⟨?_, rfl⟩
   ·have h2 := hP2.1
    have hy' := hg y hy
    intro F3
    repeat walk_at "l"
    refine te_cons fun F4 => ?_
    repeat walk_at "l"
    by_cases c : g y = g x
    ·refine ifT (decide_eq_true c) (te_nil fun F5 => ?_)
     repeat walk_at "l"
     refine hY2 (decide_eq_true c) _ _ ⟨?_, hP2.2⟩
     walk_at "mr"
    ·refine ifF (decide_eq_false c) (hZ2 (decide_eq_false c) _ _ ⟨?_, hP2.2⟩)
     walk_at "mr"
   ·have hl4 := hfl fun y => decide (g y = g x)
    rw [List.map_id']
    try dsimp only
    rw [hP2.2]
    repeat walk_at "l"
    rw [← List.countP_eq_length_filter, ← List.countP_eq_length_filter]
    refine hY _ _ ⟨?_, hP.2⟩
    walk_at "mr"
   ·walk_at "mr"
  ·walk_at "mr"
 ·try dsimp only
  rw [hP.2]
  repeat walk_at "l"
  exact hQ _ _ q
 ·walk_at "mr"
end
end
section
theorem nodup_len : ∀ (l L : List Int), l.Nodup → (∀ a ∈ l, a ∈ L) → l.length ≤ L.length
 | [], _, _, _ => Nat.zero_le _
 | a :: l, L, h, hs => by
  rw [List.nodup_cons] at h
  have ha := hs a (List.mem_cons_self ..)
  have hle := nodup_len l (L.erase a) h.2 fun b hb => (List.mem_erase_of_ne (fun e : b = a => h.1 (by rw [← e]; exact hb))).mpr (hs b (List.mem_cons_of_mem _ hb))
  rw [List.length_erase_of_mem ha] at hle
  exact Nat.le_trans (Nat.succ_le_succ hle) (Nat.le_of_eq (Nat.sub_add_cancel (List.length_pos_of_mem ha)))
theorem five_len {l : List Int} (h : l.Nodup) (h5 : ∀ a ∈ l, 0 ≤ a ∧ a < 5) : l.length ≤ 5 := nodup_len l [0, 1, 2, 3, 4] h fun a ha => by
 have h := h5 a ha
 obtain ⟨n, rfl⟩ := Int.eq_ofNat_of_zero_le h.1
 exact List.mem_map_of_mem (f := fun n : Nat => (n : Int)) (List.mem_range.mpr (Int.ofNat_lt.mp h.2))
theorem findG_none {es : List (Int × V)} {a : Int} (h : findG es a = none) : a ∉ es.map (·.1) := by
 unfold findG at h
 rw [Option.map_eq_none_iff, List.find?_eq_none] at h
 intro hm
 obtain ⟨e, he, rfl⟩ := List.mem_map.mp hm
 exact h e he (by simp)
theorem put_none {es : List (Int × V)} {a : Int} {v : V} (h : findG es a = none) : putG es a v = es ++ [(a, v)] := by
 unfold putG
 rw [← findG_any, h]
 rfl
theorem findG_snoc {es : List (Int × V)} {a b : Int} {v : V} (h : findG es a = none) : findG (es ++ [(a, v)]) b = if b = a then some v else findG es b := by
 induction es with
 | nil =>
  rw [List.nil_append, findG_cons]
  by_cases e : b = a
  ·rw [if_pos e.symm, if_pos e]
  ·rw [if_neg (Ne.symm e), if_neg e]
 | cons x es ih =>
  rw [findG_cons] at h
  by_cases e : x.1 = a
  ·rw [if_pos e] at h; cases h
  ·rw [if_neg e] at h
   rw [List.cons_append, findG_cons, ih h, findG_cons]
   by_cases e2 : x.1 = b
   ·rw [if_pos e2, if_pos e2, if_neg]
    intro e3
    exact e (e2.trans e3)
   ·rw [if_neg e2, if_neg e2]
structure Gr (σ : List O) (i d n : Nat) (es : List (Int × V)) (np : Int → Int) (ss : Int → List Int) : Prop where
 hi : σ[i]? = some (.inst 353 d)
 hd : σ[d]? = some (.idict [("_node2info", .obj n), ("_ready_nodes", .none), ("_npassedout", .int 0), ("_nfinished", .int 0)])
 hm : σ[n]? = some (.dict es)
 hI : ∀ a x, findG es a = some x → ∃ p, x = .obj p ∧ σ[p]? = some (.slots 256 [some (.int a), some (.int (np a)), some (.obj (p + 1))]) ∧ σ[p + 1]? = some (.list ((ss a).map .int))
 h0 : ∀ a, findG es a = none → np a = 0 ∧ ss a = []
 hk : (es.map (·.1)).Nodup ∧ ∀ a ∈ es.map (·.1), 0 ≤ a ∧ a < 5
noncomputable def More (es es' : List (Int × V)) : Prop := ∀ b, (findG es b).isSome = true → (findG es' b).isSome = true
theorem Gr.len {σ : List O} {i d n : Nat} {es : List (Int × V)} {np : Int → Int} {ss : Int → List Int} (g : Gr σ i d n es np ss) : es.length ≤ 5 := by
 have := five_len g.hk.1 g.hk.2
 rwa [List.length_map] at this
theorem Gr.setNp {σ : List O} {i d n : Nat} {es : List (Int × V)} {np : Int → Int} {ss : Int → List Int} {a v : Int} {p : Nat} (g : Gr σ i d n es np ss) (ha : findG es a = some (.obj p)) :
  Gr (σ.set p (.slots 256 [some (.int a), some (.int v), some (.obj (p + 1))])) i d n es (npSet np a v) ss := by
 obtain ⟨p', e, hp, hp1⟩ := g.hI a _ ha
 injection e with e
 subst e
 have kp : ∀ (q : Nat) (o : O), σ[q]? = some o → (∀ fs, o ≠ .slots 256 fs) → (σ.set p (.slots 256 [some (.int a), some (.int v), some (.obj (p + 1))]))[q]? = some o := fun q o e hn => get_set_ne (fun z => hn _ (Option.some.inj (e.symm.trans (z ▸ hp)))) e
 refine ⟨kp _ _ g.hi (by simp), kp _ _ g.hd (by simp), kp _ _ g.hm (by simp), fun b x hb => ?_, fun b hb => ?_, g.hk⟩
 ·obtain ⟨q, rfl, hq, hq1⟩ := g.hI b x hb
  refine ⟨q, rfl, ?_, kp _ _ hq1 (by simp)⟩
  by_cases e : b = a
  ·subst e
   rw [ha] at hb
   injection hb with hb
   injection hb with hb
   subst hb
   simp only [npSet, if_true]
   exact get_set_same hp
  ·simp only [npSet, if_neg e]
   refine get_set_ne ?_ hq
   intro z
   subst z
   rw [hp] at hq
   injection hq with hq
   injection hq with _ hq
   injection hq with h1 h2
   injection h1 with h1
   injection h1 with h1
   exact e h1.symm
 ·have := g.h0 b hb
  have e : b ≠ a := by intro e; subst e; rw [ha] at hb; cases hb
  simp only [npSet, if_neg e]
  exact this
noncomputable def ssAdd (ss : Int → List Int) (a v : Int) : Int → List Int := fun b => if b = a then ss a ++ [v] else ss b
theorem Gr.app {σ : List O} {i d n : Nat} {es : List (Int × V)} {np : Int → Int} {ss : Int → List Int} {a v : Int} {p : Nat} (g : Gr σ i d n es np ss) (ha : findG es a = some (.obj p)) :
  Gr (σ.set (p + 1) (.list ((ss a).map .int ++ [.int v]))) i d n es np (ssAdd ss a v) := by
 obtain ⟨p', e, hp, hp1⟩ := g.hI a _ ha
 injection e with e
 subst e
 have kp : ∀ (q : Nat) (o : O), σ[q]? = some o → (∀ fs, o ≠ .list fs) → (σ.set (p + 1) (.list ((ss a).map .int ++ [.int v])))[q]? = some o := fun q o e hn => get_set_ne (fun z => hn _ (Option.some.inj (e.symm.trans (z ▸ hp1)))) e
 refine ⟨kp _ _ g.hi (by simp), kp _ _ g.hd (by simp), kp _ _ g.hm (by simp), fun b x hb => ?_, fun b hb => ?_, g.hk⟩
 ·obtain ⟨q, rfl, hq, hq1⟩ := g.hI b x hb
  refine ⟨q, rfl, kp _ _ hq (by simp), ?_⟩
  by_cases e : b = a
  ·subst e
   rw [ha] at hb
   injection hb with hb
   injection hb with hb
   subst hb
   simp only [ssAdd, if_true, List.map_append, List.map_cons, List.map_nil]
   exact get_set_same hp1
  ·simp only [ssAdd, if_neg e]
   refine get_set_ne ?_ hq1
   intro z
   have z : p = q := Nat.succ.inj z
   subst z
   rw [hp] at hq
   injection hq with hq
   injection hq with _ hq
   injection hq with h1 h2
   injection h1 with h1
   injection h1 with h1
   exact e h1.symm
 ·have := g.h0 b hb
  have e : b ≠ a := by intro e; subst e; rw [ha] at hb; cases hb
  simp only [ssAdd, if_neg e]
  exact this
section
variable {K : Kx} {ρ : Str → Option V} {σ σ' : List O} {E : X → St → Prop} {Q : V → St → Prop} {xs : List V} {x y z : V} {i d n : Nat} {a : Int} {es : List (Int × V)} {np : Int → Int} {ss : Int → List Int}
theorem k_gi (h : Opened K.c) (hn : 2 < K.n) (g : Gr σ i d n es np ss) (h5 : 0 ≤ a ∧ a < 5) (q : ∀ (σ' : List O) (es' : List (Int × V)) (p : Nat), Gr σ' i d n es' np ss → findG es' a = some (.obj p) → More es es' → Q (.obj p) ⟨ρ, σ'⟩) :
  CX K (.ref 296) [.obj i, .int a] [] ⟨ρ, σ⟩ Q E := by
 cases ha : findG es a with
 | some x =>
  obtain ⟨p, rfl, hp, hp1⟩ := g.hI a x ha
  exact gi_found h (nZ hn rfl) g.hi g.hd g.hm ha (q _ _ _ g ha fun _ e => e)
 | none =>
  have hlen : es.length < lim := Nat.lt_of_le_of_lt g.len (by decide)
  refine gi_new h hn g.hi g.hd g.hm ha hlen fun σ' s1 s2 s3 s4 => ?_
  have hput := put_none (v := .obj σ.length) ha
  rw [hput] at s3
  have hfind : ∀ b, findG (es ++ [(a, .obj σ.length)]) b = if b = a then some (.obj σ.length) else findG es b := fun b => findG_snoc ha
  obtain ⟨z1, z2⟩ := g.h0 a ha
  refine q σ' (es ++ [(a, .obj σ.length)]) σ.length ⟨s4 _ _ (ne_get g.hi g.hm (by simp)) g.hi, s4 _ _ (ne_get g.hd g.hm (by simp)) g.hd, s3, fun b x hb => ?_, fun b hb => ?_, ?_, ?_⟩ ?_ fun b hb => ?_
  ·rw [hfind] at hb
   by_cases e : b = a
   ·subst e
    rw [if_pos rfl] at hb
    injection hb with hb
    subst hb
    exact ⟨_, rfl, by rw [z1]; exact s1, by rw [z2]; exact s2⟩
   ·rw [if_neg e] at hb
    obtain ⟨p, rfl, hp, hp1⟩ := g.hI b x hb
    exact ⟨p, rfl, s4 _ _ (ne_get hp g.hm (by simp)) hp, s4 _ _ (ne_get hp1 g.hm (by simp)) hp1⟩
  ·rw [hfind] at hb
   by_cases e : b = a
   ·rw [if_pos e] at hb; cases hb
   ·rw [if_neg e] at hb; exact g.h0 b hb
  ·rw [List.map_append, List.nodup_append]
   refine ⟨g.hk.1, by simp, fun b hb c hc e => ?_⟩
   simp only [List.map_cons, List.map_nil, List.mem_singleton] at hc
   subst hc
   subst e
   exact findG_none ha hb
  ·intro b hb
   rw [List.map_append, List.mem_append] at hb
   rcases hb with hb | hb
   ·exact g.hk.2 b hb
   ·simp only [List.map_cons, List.map_nil, List.mem_singleton] at hb
    subst hb
    exact h5
  ·rw [hfind, if_pos rfl]
  ·rw [hfind]
   by_cases e : b = a
   ·rw [if_pos e]; rfl
   ·rw [if_neg e]; exact hb
end
end
section
section
variable {K : Kx} {ρ : Str → Option V} {σ σ' : List O} {E : X → St → Prop} {Q : V → St → Prop} {x y z : V} {i d n : Nat} {a : Int} {es : List (Int × V)} {np : Int → Int} {ss : Int → List Int}
theorem ssAdd_len {ss : Int → List Int} {b a : Int} (c : Int) : (ssAdd ss b a c).length ≤ (ss c).length + 1 := by
 unfold ssAdd
 split
 ·rename_i e; rw [e]; simp
 ·exact Nat.le_succ _
theorem Gr.at {σ : List O} {p : Nat} (g : Gr σ i d n es np ss) (ha : findG es a = some (.obj p)) : σ[p]? = some (.slots 256 [some (.int a), some (.int (np a)), some (.obj (p + 1))]) := by
 obtain ⟨q, e, hq, _⟩ := g.hI a _ ha
 cases e
 exact hq
theorem Gr.at1 {σ : List O} {p : Nat} (g : Gr σ i d n es np ss) (ha : findG es a = some (.obj p)) : σ[p + 1]? = some (.list ((ss a).map .int)) := by
 obtain ⟨q, e, _, hq⟩ := g.hI a _ ha
 cases e
 exact hq
theorem addL_len (a : Int) : ∀ (vs : List Int) (ss : Int → List Int) (b : Int), ((vs.foldl (fun ss b => ssAdd ss b a) ss) b).length ≤ (ss b).length + vs.length
 | [], _, _ => Nat.le_refl _
 | v :: vs, ss, b => by
  have h1 := addL_len a vs (ssAdd ss v a) b
  have h2 := ssAdd_len (ss := ss) (b := v) (a := a) b
  exact Nat.le_trans h1 (Nat.le_trans (Nat.add_le_add_right h2 _) (Nat.le_of_eq (Nat.succ_add_eq_add_succ _ _)))
theorem add_len {vs done rest : List Int} {b : Int} (hs : ∀ b, (ss b).length + vs.length ≤ 100) (e : vs = done ++ b :: rest) (c : Int) : ((done.foldl (fun ss b => ssAdd ss b a) ss c).map V.int).length < lim := by
 have h1 := addL_len a done ss c
 have h2 := hs c
 have h3 := congrArg List.length e
 rw [List.length_append] at h3
 rw [List.length_map]
 exact Nat.lt_of_le_of_lt (Nat.le_trans h1 (Nat.le_trans (Nat.add_le_add_left (h3 ▸ Nat.le_add_right _ _) _) h2)) (by decide)
theorem k_add {vs : List Int} (h : Opened K.c) (hc : K.calm = true) (hn : 3 < K.n) (g : Gr σ i d n es np ss) (h5 : 0 ≤ a ∧ a < 5) (hv : ∀ b ∈ vs, 0 ≤ b ∧ b < 5) (hs : ∀ b, (ss b).length + vs.length ≤ 100)
  (q : ∀ (σ' : List O) (es' : List (Int × V)), Gr σ' i d n es' (npSet np a (np a + vs.length)) (vs.foldl (fun ss b => ssAdd ss b a) ss) → (findG es' a).isSome = true → More es es' → Q .none ⟨ρ, σ'⟩) :
  CX K (.ref 303) (.obj i :: .int a :: vs.map .int) [] ⟨ρ, σ⟩ Q E := by
 have hvl : (vs.map V.int).length ≤ lim := by
  have := hs 0
  rw [List.length_map]
  exact Nat.le_trans (Nat.le_add_left _ _) (Nat.le_trans this (by decide))
 refine g_def (nZ hn rfl) (d_303 h) (bd_303 hvl) rfl fun F' Q' E' hF hQ hQn _ => ?_
 have hi := g.hi
 have hd := g.hd
 have hm := g.hm
 refine ss_id ?_
 repeat walk_at "l"
 refine k_gi (K := K.body F' _) h (nS hn rfl) g h5 fun σ1 es1 p g1 ha hmore => ?_
 have hp := g1.at ha
 repeat walk_at "l"
 refine y_for (fun _ _ => rfl) ?_
 repeat walk_at "l"
 have g2 := g1.setNp (v := np a + vs.length) ha
 rw [List.length_map]
 refine o_items (f := V.int) (K := K.body F' _) hc vs rfl (fun done ρ3 σ3 => ∃ es', Gr σ3 i d n es' (npSet np a (np a + vs.length)) (done.foldl (fun ss b => ssAdd ss b a) ss) ∧ More es1 es' ∧ ρ3 "self" = some (.obj i) ∧ ρ3 "node" = some (.int a)) .tup ⟨es1, g2, fun _ e => e, ?_, ?_⟩ (fun I Q2 E2 hI _ x0 done b rest ρ3 σ3 e hP => ?_) (fun ρ3 σ3 hP => ?_)
 ·walk_at "mr"
 ·walk_at "mr"
 ·refine e1 hP fun es' hP => a4 hP fun g5 g6 g8 g9 => ?_
  have hi3 := g5.hi
  have hd3 := g5.hd
  have hm3 := g5.hm
  repeat walk_at "l"
  refine k_gi (K := (K.body F' _).plus x0) h (nS hn rfl) g5 (hv b (by rw [e]; simp)) fun σ4 es4 p4 g10 hb hmore4 => ?_
  have hp4 := g10.at hb
  have hp41 := g10.at1 hb
  have hl4 : ((done.foldl (fun ss b => ssAdd ss b a) ss b).map V.int).length < lim := add_len hs e b
  repeat walk_at "l"
  refine hI _ _ _ ⟨es4, ?_, fun c e => hmore4 c (g6 c e), ?_, ?_⟩
  ·rw [List.foldl_append]
   exact g10.app (v := a) hb
  ·walk_at "mr"
  ·walk_at "mr"
 ·refine e1 hP fun es' hP => a4 hP fun g5 g6 g8 g9 => ?_
  repeat walk_at "l"
  exact hQn _ (q _ _ g5 (g6 a (by rw [ha]; rfl)) fun c e => g6 c (hmore c e))
end
end
section
noncomputable def Lo (σ : List O) (q : Nat) (xs : List V) : Prop := σ[q]? = some (.list xs) ∨ σ[q]? = some (.flist xs)
theorem Lo.keep {σ σ' : List O} {q : Nat} {xs : List V} (h : Lo σ q xs) (hk : ∀ (q : Nat) (o : O), σ[q]? = some o → (o = .list xs ∨ o = .flist xs) → σ'[q]? = some o) : Lo σ' q xs := by
 rcases h with h | h
 ·exact .inl (hk _ _ h (.inl rfl))
 ·exact .inr (hk _ _ h (.inr rfl))
theorem Lo.it {σ : List O} {q : Nat} {xs : List V} (h : Lo σ q xs) : ∃ σ', ItV σ (.obj q) xs σ' ∧ σ' = σ.set q (.flist xs) := by
 rcases h with h | h
 ·exact ⟨_, .list h, rfl⟩
 ·refine ⟨_, .flist h, ?_⟩
  obtain ⟨hl, e⟩ := List.getElem?_eq_some_iff.mp h
  rw [← e, List.set_getElem_self]
theorem Lo.ne {σ : List O} {q r : Nat} {xs : List V} {o : O} (h : Lo σ q xs) (hr : σ[r]? = some o) (h1 : ∀ xs, o ≠ .list xs) (h2 : ∀ xs, o ≠ .flist xs) : q ≠ r := by
 intro e
 subst e
 rcases h with h | h <;> rw [h] at hr <;> injection hr with hr
 ·exact h1 _ hr.symm
 ·exact h2 _ hr.symm
structure Rn (σ : List O) (i d n r : Nat) (es : List (Int × V)) (np : Int → Int) (ss : Int → List Int) (xs : List Int) (p f : Int) : Prop where
 hi : σ[i]? = some (.inst 353 d)
 hd : σ[d]? = some (.idict [("_node2info", .obj n), ("_ready_nodes", .obj r), ("_npassedout", .int p), ("_nfinished", .int f)])
 hm : σ[n]? = some (.fdict es)
 hr : σ[r]? = some (.list (xs.map .int))
 hI : ∀ a x, findG es a = some x → ∃ p, x = .obj p ∧ σ[p]? = some (.slots 256 [some (.int a), some (.int (np a)), some (.obj (p + 1))]) ∧ Lo σ (p + 1) ((ss a).map .int) ∧ p + 1 ≠ r
 hs : ∀ a b, b ∈ ss a → (findG es b).isSome = true
section
variable {σ : List O} {i d n r p : Nat} {es : List (Int × V)} {np : Int → Int} {ss : Int → List Int} {xs : List Int} {po f a b v : Int}
theorem slot_inj {np : Int → Int} {a b : Int} {p q : Nat} (hp : σ[p]? = some (.slots 256 [some (.int a), some (.int (np a)), some (.obj (p + 1))])) (hq : σ[q]? = some (.slots 256 [some (.int b), some (.int (np b)), some (.obj (q + 1))])) (e : p = q) : a = b := by
 subst e
 rw [hp] at hq
 injection hq with hq
 injection hq with _ hq
 injection hq with h1 h2
 injection h1 with h1
 injection h1 with h1
theorem Rn.setNp (g : Rn σ i d n r es np ss xs po f) (ha : findG es a = some (.obj p)) : Rn (σ.set p (.slots 256 [some (.int a), some (.int v), some (.obj (p + 1))])) i d n r es (npSet np a v) ss xs po f := by
 obtain ⟨p', e, hp, hp1, hp2⟩ := g.hI a _ ha
 injection e with e
 subst e
 have kp : ∀ (q : Nat) (o : O), σ[q]? = some o → (∀ fs, o ≠ .slots 256 fs) → (σ.set p (.slots 256 [some (.int a), some (.int v), some (.obj (p + 1))]))[q]? = some o := fun q o e hn => get_set_ne (fun z => hn _ (Option.some.inj (e.symm.trans (z ▸ hp)))) e
 refine ⟨kp _ _ g.hi (by simp), kp _ _ g.hd (by simp), kp _ _ g.hm (by simp), kp _ _ g.hr (by simp), fun b x hb => ?_, g.hs⟩
 obtain ⟨q, rfl, hq, hq1, hq2⟩ := g.hI b x hb
 refine ⟨q, rfl, ?_, hq1.keep fun q o e h => kp _ _ e (by rcases h with rfl | rfl <;> simp), hq2⟩
 by_cases e : b = a
 ·subst e
  rw [ha] at hb
  injection hb with hb
  injection hb with hb
  subst hb
  simp only [npSet, if_true]
  exact get_set_same hp
 ·simp only [npSet, if_neg e]
  exact get_set_ne (fun z => e (slot_inj hp hq z).symm) hq
theorem Rn.frz (g : Rn σ i d n r es np ss xs po f) (ha : findG es a = some (.obj p)) : Rn (σ.set (p + 1) (.flist ((ss a).map .int))) i d n r es np ss xs po f := by
 obtain ⟨p', e, hp, hp1, hp2⟩ := g.hI a _ ha
 injection e with e
 subst e
 have kp : ∀ (q : Nat) (o : O), σ[q]? = some o → (∀ fs, o ≠ .list fs) → (∀ fs, o ≠ .flist fs) → (σ.set (p + 1) (.flist ((ss a).map .int)))[q]? = some o := fun q o e h1 h2 => get_set_ne (hp1.ne e h1 h2) e
 refine ⟨kp _ _ g.hi (by simp) (by simp), kp _ _ g.hd (by simp) (by simp), kp _ _ g.hm (by simp) (by simp), get_set_ne hp2 g.hr, fun b x hb => ?_, g.hs⟩
 obtain ⟨q, rfl, hq, hq1, hq2⟩ := g.hI b x hb
 refine ⟨q, rfl, kp _ _ hq (by simp) (by simp), ?_, hq2⟩
 by_cases e : b = a
 ·subst e
  rw [ha] at hb
  injection hb with hb
  injection hb with hb
  subst hb
  refine .inr ?_
  rcases hp1 with hp1 | hp1 <;> exact get_set_same hp1
 ·have n1 : p + 1 ≠ q + 1 := fun z => e (slot_inj hp hq (Nat.succ.inj z)).symm
  rcases hq1 with hq1 | hq1
  ·exact .inl (get_set_ne n1 hq1)
  ·exact .inr (get_set_ne n1 hq1)
theorem Rn.setR {ys : List V} {zs : List Int} (g : Rn σ i d n r es np ss xs po f) (hz : ys = zs.map .int) : Rn (σ.set r (.list ys)) i d n r es np ss zs po f := by
 subst hz
 have kp : ∀ (q : Nat) (o : O), σ[q]? = some o → (∀ fs, o ≠ .list fs) → (σ.set r (.list (zs.map .int)))[q]? = some o := fun q o e hn => get_set_ne (fun z => hn _ (Option.some.inj (e.symm.trans (z ▸ g.hr)))) e
 refine ⟨kp _ _ g.hi (by simp), kp _ _ g.hd (by simp), kp _ _ g.hm (by simp), get_set_same g.hr, fun b x hb => ?_, g.hs⟩
 obtain ⟨q, rfl, hq, hq1, hq2⟩ := g.hI b x hb
 refine ⟨q, rfl, kp _ _ hq (by simp), ?_, hq2⟩
 rcases hq1 with hq1 | hq1
 ·exact .inl (get_set_ne hq2.symm hq1)
 ·exact .inr (get_set_ne hq2.symm hq1)
theorem Rn.setD {po' f' : Int} {gs : List (Str × V)} (g : Rn σ i d n r es np ss xs po f) (hz : O.idict gs = .idict [("_node2info", .obj n), ("_ready_nodes", .obj r), ("_npassedout", .int po'), ("_nfinished", .int f')]) : Rn (σ.set d (.idict gs)) i d n r es np ss xs po' f' := by
 rw [hz]
 have kp : ∀ (q : Nat) (o : O), σ[q]? = some o → (∀ fs, o ≠ .idict fs) → (σ.set d (.idict [("_node2info", .obj n), ("_ready_nodes", .obj r), ("_npassedout", .int po'), ("_nfinished", .int f')]))[q]? = some o := fun q o e hn => get_set_ne (fun z => hn _ (Option.some.inj (e.symm.trans (z ▸ g.hd)))) e
 refine ⟨kp _ _ g.hi (by simp), get_set_same g.hd, kp _ _ g.hm (by simp), kp _ _ g.hr (by simp), fun b x hb => ?_, g.hs⟩
 obtain ⟨q, rfl, hq, hq1, hq2⟩ := g.hI b x hb
 exact ⟨q, rfl, kp _ _ hq (by simp), hq1.keep fun q o e h => kp _ _ e (by rcases h with rfl | rfl <;> simp), hq2⟩
end
noncomputable def suOf (es : List (Int × V)) (a : Int) : Nat := match findG es a with
 | some (.obj p) => p + 1
 | _ => 0
noncomputable def decS (st : (Int → Int) × List Int) (s : Int) : (Int → Int) × List Int := (npSet st.1 s (st.1 s - 1), if st.1 s - 1 = 0 then st.2 ++ [s] else st.2)
noncomputable def doneS (ss : Int → List Int) (st : (Int → Int) × List Int) (a : Int) : (Int → Int) × List Int := (ss a).foldl decS (npSet st.1 a (-2), st.2)
theorem decS_z {st : (Int → Int) × List Int} {s : Int} (h : st.1 s - 1 = 0) : decS st s = (npSet st.1 s (st.1 s - 1), st.2 ++ [s]) := by unfold decS; rw [if_pos h]
theorem decS_n {st : (Int → Int) × List Int} {s : Int} (h : ¬ st.1 s - 1 = 0) : decS st s = (npSet st.1 s (st.1 s - 1), st.2) := by unfold decS; rw [if_neg h]
theorem decs_len : ∀ (l : List Int) (st : (Int → Int) × List Int), (l.foldl decS st).2.length ≤ st.2.length + l.length
 | [], st => Nat.le_refl _
 | s :: l, st => by
  refine Nat.le_trans (decs_len l (decS st s)) ?_
  have : (decS st s).2.length ≤ st.2.length + 1 := by unfold decS; dsimp only; split <;> simp
  exact Nat.le_trans (Nat.add_le_add_right this _) (Nat.le_of_eq (Nat.succ_add_eq_add_succ _ _))
section
variable {K : Kx} {ρ : Str → Option V} {σ σ' : List O} {E : X → St → Prop} {Q : V → St → Prop} {x y z : V} {i d n r : Nat} {a po f : Int} {es : List (Int × V)} {np : Int → Int} {ss : Int → List Int} {xs : List Int}
theorem k_ready (h : Opened K.c) (hc : K.calm = true) (hn : 0 < K.n) (g : Rn σ i d n r es np ss xs po f) (hx : ∀ a ∈ xs, (findG es a).isSome = true) (hl : xs.length ≤ lim)
  (q : ∀ σ' : List O, Rn σ' i d n r es (npOut np xs) ss [] (po + xs.length) f → (∀ (q : Nat) (ys : List V), q ≠ r → σ[q]? = some (.list ys) → σ'[q]? = some (.list ys)) → Q (.tup (xs.map .int)) ⟨ρ, σ'⟩) : CX K (.ref 315) [.obj i] [] ⟨ρ, σ⟩ Q E := by
 refine k_get_ready (np := np) (su := suOf es) h hc hn g.hi g.hd g.hm g.hr hl ?_ ?_ fun σ' h1 h2 h3 h4 => q σ' ?_ fun q ys hq e => h4 _ _ (ne_get e g.hd (by simp)) hq e (by simp)
 ·intro a x ha
  obtain ⟨p, rfl, hp, hp1, hp2⟩ := g.hI a x ha
  refine ⟨p, rfl, ?_⟩
  unfold suOf
  rw [ha]
  exact hp
 ·intro a ha
  obtain ⟨x, e⟩ := Option.isSome_iff_exists.mp (hx a ha)
  obtain ⟨p, rfl, _⟩ := g.hI a x e
  exact ⟨p, e⟩
 ·refine ⟨h4 _ _ (ne_get g.hi g.hd (by simp)) (ne_get g.hi g.hr (by simp)) g.hi (by simp), h1, h4 _ _ (ne_get g.hm g.hd (by simp)) (ne_get g.hm g.hr (by simp)) g.hm (by simp), h2, fun a x ha => ?_, g.hs⟩
  obtain ⟨p, rfl, hp, hp1, hp2⟩ := g.hI a x ha
  obtain ⟨p', e, hp'⟩ := h3 a _ ha
  injection e with e
  subst e
  unfold suOf at hp'
  rw [ha] at hp'
  refine ⟨p, rfl, hp', ?_, hp2⟩
  have nd : p + 1 ≠ d := hp1.ne g.hd (by simp) (by simp)
  rcases hp1 with hp1 | hp1
  ·exact .inl (h4 _ _ nd hp2 hp1 (by simp))
  ·exact .inr (h4 _ _ nd hp2 hp1 (by simp))
theorem Rn.el {P : Prop} {σ : List O} {a : Int} (g : Rn σ i d n r es np ss xs po f) (ha : (findG es a).isSome = true) (h : ∀ p, findG es a = some (.obj p) → σ[p]? = some (.slots 256 [some (.int a), some (.int (np a)), some (.obj (p + 1))]) → Lo σ (p + 1) ((ss a).map .int) → P) : P := by
 obtain ⟨w, hw⟩ := Option.isSome_iff_exists.mp ha
 obtain ⟨p, rfl, hp, hpl, _⟩ := g.hI a w hw
 exact h p hw hp hpl
theorem Rn.start {σ : List O} {p q0 : Nat} {ys : List V} {a u v : Int} (g : Rn σ i d n r es np ss xs po f) (ha : findG es a = some (.obj p)) (hp : σ[p]? = some (.slots 256 [some (.int a), some (.int u), some (.obj (p + 1))])) (hl : Lo σ (p + 1) ((ss a).map .int)) (hq : q0 ≠ p + 1) (hy : σ[q0]? = some (.list ys)) :
  ∃ σ', ItV (σ.set p (.slots 256 ([some (.int a), some (.int u), some (.obj (p + 1))].set 1 (some (.int v))))) (.obj (p + 1)) ((ss a).map .int) σ' ∧ Rn σ' i d n r es (npSet np a v) ss xs po f ∧ σ'[q0]? = some (.list ys) := by
 have g1 := g.setNp (v := v) ha
 have hl1 : Lo (σ.set p (.slots 256 [some (.int a), some (.int v), some (.obj (p + 1))])) (p + 1) ((ss a).map .int) := hl.keep fun q o e h => get_set_ne (ne_get hp e (by rcases h with rfl | rfl <;> simp)) e
 obtain ⟨σ', h1, h2⟩ := hl1.it
 subst h2
 exact ⟨_, h1, g1.frz ha, get_set_ne hq.symm (get_set_ne (ne_get hp hy (by simp)) hy)⟩
theorem done_fold : ∀ (vs : List Int) (st : (Int → Int) × List Int), (∀ a, (ss a).length ≤ 100) → (vs.foldl (doneS ss) st).2.length ≤ st.2.length + 100 * vs.length
 | [], st, _ => Nat.le_refl _
 | v :: vs, st, hs => by
  have h1 := done_fold vs (doneS ss st v) hs
  have h2 := decs_len (ss v) (npSet st.1 v (-2), st.2)
  have h3 := hs v
  have h4 : (doneS ss st v).2.length ≤ st.2.length + 100 := Nat.le_trans h2 (Nat.add_le_add_left h3 _)
  exact Nat.le_trans h1 (Nat.le_trans (Nat.add_le_add_right h4 _) (Nat.le_of_eq (by rw [List.length_cons, Nat.mul_succ, Nat.add_assoc, Nat.add_comm 100])))
theorem done_len {vs done rest done1 rest1 : List Int} {b c : Int} (hs : ∀ a, (ss a).length ≤ 100) (hb : xs.length + 100 * vs.length ≤ 5000) (e : vs = done ++ b :: rest) (e1 : ss b = done1 ++ c :: rest1) :
  ((done1.foldl decS (npSet (done.foldl (doneS ss) (np, xs)).1 b (-2), (done.foldl (doneS ss) (np, xs)).2)).2.map V.int).length < lim := by
 have h1 := decs_len done1 (npSet (done.foldl (doneS ss) (np, xs)).1 b (-2), (done.foldl (doneS ss) (np, xs)).2)
 have h2 := done_fold (ss := ss) done (np, xs) hs
 have h3 := congrArg List.length e
 have h4 := congrArg List.length e1
 have h5 := hs b
 rw [List.length_append] at h3 h4
 rw [List.length_map]
 have h6 : done.length + 1 ≤ vs.length := by rw [h3]; exact Nat.add_le_add_left (Nat.succ_le_succ (Nat.zero_le _)) _
 refine Nat.lt_of_le_of_lt (Nat.le_trans h1 (Nat.le_trans (Nat.add_le_add h2 (Nat.le_trans (h4 ▸ Nat.le_add_right _ _) h5)) (Nat.le_trans (Nat.le_of_eq (Nat.add_assoc _ _ _)) (Nat.le_trans (Nat.add_le_add_left (Nat.mul_le_mul_left 100 h6) _) hb)))) (by decide)
theorem k_done {vs : List Int} {q0 : Nat} {ys : List V} (hq0 : σ[q0]? = some (.list ys)) (hqr : q0 ≠ r) (hqp : ∀ a p, findG es a = some (.obj p) → q0 ≠ p + 1) (h : Opened K.c) (hc : K.calm = true) (hn : 0 < K.n) (g : Rn σ i d n r es np ss xs po f) (hv : ∀ b ∈ vs, (findG es b).isSome = true) (hl : vs.length ≤ lim)
  (hout : ∀ pre a post, vs = pre ++ a :: post → (pre.foldl (doneS ss) (np, xs)).1 a = -1) (hs : ∀ a, (ss a).length ≤ 100) (hb : xs.length + 100 * vs.length ≤ 5000)
  (q : ∀ σ' : List O, Rn σ' i d n r es (vs.foldl (doneS ss) (np, xs)).1 ss (vs.foldl (doneS ss) (np, xs)).2 po (f + vs.length) → σ'[q0]? = some (.list ys) → Q .none ⟨ρ, σ'⟩) :
  CX K (.ref 336) (.obj i :: vs.map .int) [] ⟨ρ, σ⟩ Q E := by
 have hvl : (vs.map V.int).length ≤ lim := by rw [List.length_map]; exact hl
 refine g_def (nZ hn rfl) (d_336 h) (bd_336 hvl) rfl fun F' Q' E' hF hQ hQn _ => ?_
 have hi := g.hi
 have hd := g.hd
 have hm := g.hm
 refine ss_id ?_
 repeat walk_at "l"
 refine y_for (fun _ _ => rfl) ?_
 repeat walk_at "l"
 refine o_items (f := V.int) (K := K.body F' _) hc vs rfl (fun done ρ3 σ3 => Rn σ3 i d n r es (done.foldl (doneS ss) (np, xs)).1 ss (done.foldl (doneS ss) (np, xs)).2 po (f + done.length) ∧ ρ3 "self" = some (.obj i) ∧ ρ3 "n2i" = some (.obj n) ∧ σ3[q0]? = some (.list ys)) .tup ⟨?_, ?_, ?_, hq0⟩ (fun I Q2 E2 hI _ x0 done b rest ρ3 σ3 e hP => ?_) (fun ρ3 σ3 hP => ?_)
 ·have : f + ((([] : List Int).length : Nat) : Int) = f := Int.add_zero f
  rw [this]; exact g
 ·walk_at "mr"
 ·walk_at "mr"
 ·refine a4 hP fun g5 g7 g8 g9 => ?_
  have hi3 := g5.hi
  have hd3 := g5.hd
  have hm3 := g5.hm
  refine g5.el (hv b (by rw [e]; simp)) fun p hw hp hpl => ?_
  rw [hout done b rest e] at hp
  repeat walk_at "l"
  refine y_for (fun _ _ => rfl) ?_
  repeat walk_at "l"
  refine (g5.start (v := -2) hw hp hpl (hqp b p hw) g9).elim fun σ4 hs4 => a3 hs4 fun hit g11 g9' => ?_
  refine o_items (f := V.int) (K := (K.body F' _).plus x0) hc (ss b) rfl (fun done1 ρ4 σ4 => Rn σ4 i d n r es (done1.foldl decS (npSet (done.foldl (doneS ss) (np, xs)).1 b (-2), (done.foldl (doneS ss) (np, xs)).2)).1 ss (done1.foldl decS (npSet (done.foldl (doneS ss) (np, xs)).1 b (-2), (done.foldl (doneS ss) (np, xs)).2)).2 po (f + done.length) ∧ ρ4 "self" = some (.obj i) ∧ ρ4 "n2i" = some (.obj n) ∧ σ4[q0]? = some (.list ys)) hit ⟨g11, ?_, ?_, g9'⟩ (fun I3 Q3 E3 hI3 _ x1 done1 c rest1 ρ4 σ4 e1 hP2 => ?_) (fun ρ4 σ4 hP2 => ?_)
  ·walk_at "mr"
  ·walk_at "mr"
  ·refine a4 hP2 fun k5 k7 k8 k9 => ?_
   have hi4 := k5.hi
   have hd4 := k5.hd
   have hm4 := k5.hm
   have hr4 := k5.hr
   refine k5.el (g.hs b c (by rw [e1]; simp)) fun pc hwc hpc _ => ?_
   have n1 := ne_get hpc hi4 (by simp)
   have n2 := ne_get hpc hd4 (by simp)
   have n3 := ne_get hpc hr4 (by simp)
   have n4 := ne_get hpc k9 (by simp)
   have hll := done_len hs hb e e1 (np := np)
   repeat walk_at "l"
   by_cases cz : (done1.foldl decS (npSet (done.foldl (doneS ss) (np, xs)).1 b (-2), (done.foldl (doneS ss) (np, xs)).2)).1 c - 1 = 0
   ·refine ifT (decide_eq_true cz) ?_
    repeat walk_at "l"
    refine hI3 _ _ _ ⟨?_, ?_, ?_, get_set_ne hqr.symm (get_set_ne n4 k9)⟩
    ·rw [List.foldl_append]
     show Rn _ _ _ _ _ _ (decS _ c).1 _ (decS _ c).2 _ _
     rw [decS_z cz]
     exact (k5.setNp hwc).setR (by rw [List.map_append]; rfl)
    ·walk_at "mr"
    ·walk_at "mr"
   ·refine ifF (decide_eq_false cz) ?_
    repeat walk_at "l"
    refine hI3 _ _ _ ⟨?_, ?_, ?_, get_set_ne n4 k9⟩
    ·rw [List.foldl_append]
     show Rn _ _ _ _ _ _ (decS _ c).1 _ (decS _ c).2 _ _
     rw [decS_n cz]
     exact k5.setNp hwc
    ·walk_at "mr"
    ·walk_at "mr"
  ·refine a4 hP2 fun k5 k7 k8 k9 => ?_
   have hi4 := k5.hi
   have hd4 := k5.hd
   repeat walk_at "l"
   refine hI _ _ _ ⟨?_, ?_, ?_, get_set_ne (ne_get k5.hd k9 (by simp)) k9⟩
   ·rw [List.foldl_append]
    refine k5.setD ?_
    rw [List.length_append, List.length_singleton, Int.natCast_add, ← Int.add_assoc]
    kernel_rfl
   ·walk_at "mr"
   ·walk_at "mr"
 ·refine a4 hP fun g5 g7 g8 g9 => ?_
  repeat walk_at "l"
  exact hQn _ (q _ g5 g9)
end
end
section
noncomputable def FinL (ss : Int → List Int) : List Int → Prop
 | [] => True
 | a :: l => (∀ b ∈ ss a, b ∈ l) ∧ a ∉ l ∧ FinL ss l
noncomputable abbrev Fr := Int × Nat × Nat
noncomputable def Stk (ss : Int → List Int) (fin : List Int) : Int → List Fr → Prop
 | _, [] => True
 | cur, f :: r => (∀ b ∈ (ss f.1).take f.2.2, b ∈ fin ∨ b = cur) ∧ cur ∈ ss f.1 ∧ Stk ss fin f.1 r
noncomputable def Top (ss : Int → List Int) (fin : List Int) : List Fr → Prop
 | [] => True
 | f :: r => (∀ b ∈ (ss f.1).take f.2.2, b ∈ fin) ∧ Stk ss fin f.1 r
section
variable {ss : Int → List Int} {fin : List Int}
theorem FinL.closed : ∀ {l : List Int}, FinL ss l → ∀ a ∈ l, ∀ b ∈ ss a, b ∈ l
 | [], _, a, ha, _, _ => by cases ha
 | x :: l, ⟨h1, h2, h3⟩, a, ha, b, hb => by
  rcases List.mem_cons.mp ha with rfl | ha
  ·exact List.mem_cons_of_mem _ (h1 b hb)
  ·exact List.mem_cons_of_mem _ (h3.closed a ha b hb)
noncomputable def pos : List Int → Int → Int
 | [], _ => 0
 | y :: l, x => if x = y then -((l.length : Int) + 1) else pos l x
theorem pos_ge : ∀ (l : List Int) (x : Int), -(l.length : Int) ≤ pos l x
 | [], _ => Int.le_refl _
 | y :: l, x => by
  unfold pos
  have := pos_ge l x
  split
  ·simp only [List.length_cons]; omega
  ·simp only [List.length_cons]; omega
theorem FinL.pot : ∀ {l : List Int}, FinL ss l → ∀ a ∈ l, ∀ b ∈ ss a, pos l a < pos l b
 | [], _, a, ha, _, _ => by cases ha
 | x :: l, ⟨h1, h2, h3⟩, a, ha, b, hb => by
  by_cases e : a = x
  ·subst e
   have hbl := h1 b hb
   unfold pos
   rw [if_pos rfl, if_neg (fun z => h2 (by rw [← z]; exact hbl))]
   have := pos_ge l b
   omega
  ·have ha : a ∈ l := by
    rcases List.mem_cons.mp ha with h | h
    ·exact absurd h e
    ·exact h
   have hbl := h3.closed a ha b hb
   unfold pos
   rw [if_neg e, if_neg (fun z => h2 (by rw [← z]; exact hbl))]
   exact h3.pot a ha b hb
theorem Stk.up {fin' : List Int} (h : ∀ a ∈ fin, a ∈ fin') : ∀ {fs : List Fr} {cur : Int}, Stk ss fin cur fs → Stk ss fin' cur fs
 | [], _, _ => trivial
 | f :: r, cur, ⟨h1, h2, h3⟩ => ⟨fun b hb => (h1 b hb).imp (h b) id, h2, h3.up h⟩
theorem Stk.lt {φ : Int → Int} (hφ : ∀ a b, b ∈ ss a → φ a < φ b) : ∀ {fs : List Fr} {cur : Int}, Stk ss fin cur fs → ∀ a ∈ fs.map (·.1), φ a < φ cur
 | [], _, _, a, ha => by cases ha
 | f :: r, cur, ⟨h1, h2, h3⟩, a, ha => by
  rcases List.mem_cons.mp ha with rfl | ha
  ·exact hφ _ _ h2
  ·exact Int.lt_trans (h3.lt hφ a ha) (hφ _ _ h2)
theorem Stk.top {cur : Int} (hc : cur ∈ fin) : ∀ {fs : List Fr}, Stk ss fin cur fs → Top ss fin fs
 | [], _ => trivial
 | f :: r, ⟨h1, h2, h3⟩ => ⟨fun b hb => (h1 b hb).elim id fun e => e ▸ hc, h3⟩
theorem Top.pop {f : Fr} : ∀ {r : List Fr}, Top ss fin (f :: r) → Top ss (f.1 :: fin) r
 | [], _ => trivial
 | g :: r, ⟨_, h1, h2, h3⟩ => ⟨fun b hb => List.mem_cons.mpr ((h1 b hb).symm.imp id id), h3.up fun a => List.mem_cons_of_mem _⟩
theorem Top.next {a b : Int} {q k : Nat} {r : List Fr} (h : Top ss fin ((a, q, k) :: r)) (hb : (ss a)[k]? = some b) : Stk ss fin b ((a, q, k + 1) :: r) := by
 refine ⟨fun x hx => ?_, List.mem_of_getElem? hb, h.2⟩
 have hk : ((ss a).take (k + 1)) = (ss a).take k ++ [b] := by rw [List.take_add_one, hb]; rfl
 dsimp only at hx
 rw [hk, List.mem_append] at hx
 rcases hx with hx | hx
 ·exact .inl (h.1 x hx)
 ·exact .inr (List.mem_singleton.mp hx)
end
noncomputable def names (fs : List Fr) : List Int := fs.map (·.1)
noncomputable def its (fs : List Fr) : List V := fs.map fun f => .obj (f.2.1 + 1)
structure Df (N : Nat) (σ : List O) (ss : Int → List Int) (fs : List Fr) (sn : List Int) (ws : List (Int × V)) : Prop where
 hS : σ[N]? = some (.list ((names fs).reverse.map .int))
 hT : σ[N + 1]? = some (.list (its fs).reverse)
 hU : σ[N + 2]? = some (.set sn)
 hW : σ[N + 3]? = some (.dict ws)
 hf : ∀ f ∈ fs, N + 3 < f.2.1 ∧ σ[f.2.1]? = some (.lit ((ss f.1).map .int) f.2.2) ∧ σ[f.2.1 + 1]? = some (.bm f.2.1)
 hq : (fs.map (·.2.1)).Nodup
 nd : (names fs).Nodup
 hw : ∀ a x, findG ws a = some x → ∃ k : Nat, x = .int k ∧ (names fs).reverse[k]? = some a
 hw2 : ∀ a ∈ names fs, (findG ws a).isSome = true
 lw : ws.length ≤ sn.length
 ls : fs.length ≤ sn.length
 sd : sn.Nodup
section
variable {N q k : Nat} {σ σ' : List O} {ss : Int → List Int} {fs : List Fr} {sn : List Int} {ws : List (Int × V)} {a : Int}
theorem Df.up (g : Df N σ ss fs sn ws) (h : ∀ (q : Nat) (o : O), N ≤ q → σ[q]? = some o → σ'[q]? = some o) : Df N σ' ss fs sn ws where
 hS := h _ _ (Nat.le_refl _) g.hS
 hT := h _ _ (Nat.le_add_right ..) g.hT
 hU := h _ _ (Nat.le_add_right ..) g.hU
 hW := h _ _ (Nat.le_add_right ..) g.hW
 hf := fun f hf => by
  obtain ⟨h1, h2, h3⟩ := g.hf f hf
  exact ⟨h1, h _ _ (nR h1) h2, h _ _ (Nat.le_succ_of_le (nR h1)) h3⟩
 hq := g.hq
 nd := g.nd
 hw := g.hw
 hw2 := g.hw2
 lw := g.lw
 ls := g.ls
 sd := g.sd
theorem Df.wnone (g : Df N σ ss fs sn ws) (h : a ∉ names fs) : findG ws a = none := by
 cases e : findG ws a with
 | none => rfl
 | some x =>
  obtain ⟨k, _, hk⟩ := g.hw a x e
  exact absurd (List.mem_reverse.mp (List.mem_of_getElem? hk)) h
theorem Df.see (g : Df N σ ss fs sn ws) (h : a ∉ sn) : Df N (σ.set (N + 2) (.set (sn ++ [a]))) ss fs (sn ++ [a]) ws where
 hS := get_set_ne (by walk_at "nq") g.hS
 hT := get_set_ne (by walk_at "nq") g.hT
 hU := get_set_same g.hU
 hW := get_set_ne (by walk_at "nq") g.hW
 hf := fun f hf => by
  obtain ⟨h1, h2, h3⟩ := g.hf f hf
  exact ⟨h1, get_set_ne (by walk_at "nq") h2, get_set_ne (by walk_at "nq") h3⟩
 hq := g.hq
 nd := g.nd
 hw := g.hw
 hw2 := g.hw2
 lw := by rw [List.length_append]; exact Nat.le_succ_of_le g.lw
 ls := by rw [List.length_append]; exact Nat.le_succ_of_le g.ls
 sd := by
  rw [List.nodup_append]
  exact ⟨g.sd, by simp, fun x hx y hy e => h (by rw [List.mem_singleton] at hy; rw [← hy, ← e]; exact hx)⟩
theorem findG_put {es : List (Int × V)} {b : Int} {v : V} (h : findG es a = none) : findG (putG es a v) b = if b = a then some v else findG es b := by
 rw [put_none h]
 exact findG_snoc h
theorem names_len : (names fs).length = fs.length := List.length_map ..
theorem its_len : (its fs).length = fs.length := List.length_map ..
theorem Df.push (g : Df N σ ss fs sn ws) (hq : N + 3 < q) (h1 : σ[q]? = some (.lit ((ss a).map .int) 0)) (h2 : σ[q + 1]? = some (.bm q)) (hfr : ∀ f ∈ fs, f.2.1 ≠ q) (na : a ∉ names fs) (hl : ws.length + 1 ≤ sn.length) (hl2 : fs.length + 1 ≤ sn.length) :
  Df N (((σ.set (N + 1) (.list ((its fs).reverse ++ [.obj (q + 1)]))).set (N + 3) (.dict (putG ws a (.int fs.length)))).set N (.list ((names fs).reverse.map .int ++ [.int a]))) ss ((a, q, 0) :: fs) sn (putG ws a (.int fs.length)) := by
 have hn := g.wnone na
 exact {
  hS := by
   have : (names ((a, q, 0) :: fs)).reverse.map V.int = (names fs).reverse.map .int ++ [.int a] := by simp [names]
   rw [this]
   exact get_set_same (get_set_ne (by walk_at "nq") (get_set_ne (by walk_at "nq") g.hS))
  hT := by
   have : (its ((a, q, 0) :: fs)).reverse = (its fs).reverse ++ [.obj (q + 1)] := by simp [its]
   rw [this]
   exact get_set_ne (by walk_at "nq") (get_set_ne (by walk_at "nq") (get_set_same g.hT))
  hU := get_set_ne (by walk_at "nq") (get_set_ne (by walk_at "nq") (get_set_ne (by walk_at "nq") g.hU))
  hW := get_set_ne (by walk_at "nq") (get_set_same (get_set_ne (by walk_at "nq") g.hW))
  hf := fun f hf => by
   have hh : N + 3 < f.2.1 ∧ σ[f.2.1]? = some (.lit ((ss f.1).map .int) f.2.2) ∧ σ[f.2.1 + 1]? = some (.bm f.2.1) := by
    rcases List.mem_cons.mp hf with rfl | hf
    ·exact ⟨hq, h1, h2⟩
    ·exact g.hf f hf
   obtain ⟨h1, h2, h3⟩ := hh
   exact ⟨h1, get_set_ne (by walk_at "nq") (get_set_ne (by walk_at "nq") (get_set_ne (by walk_at "nq") h2)), get_set_ne (by walk_at "nq") (get_set_ne (by walk_at "nq") (get_set_ne (by walk_at "nq") h3))⟩
  hq := by
   rw [List.map_cons, List.nodup_cons]
   refine ⟨fun z => ?_, g.hq⟩
   obtain ⟨f, hf, e⟩ := List.mem_map.mp z
   exact hfr f hf e
  nd := by
   show (a :: names fs).Nodup
   rw [List.nodup_cons]
   exact ⟨na, g.nd⟩
  hw := fun b x hb => by
   rw [findG_put hn] at hb
   have hr : (names ((a, q, 0) :: fs)).reverse = (names fs).reverse ++ [a] := by simp [names]
   rw [hr]
   by_cases e : b = a
   ·subst e
    rw [if_pos rfl] at hb
    injection hb with hb
    subst hb
    exact ⟨fs.length, rfl, by rw [List.getElem?_append_right (by rw [List.length_reverse, names_len]; exact Nat.le_refl _), List.length_reverse, names_len, Nat.sub_self]; rfl⟩
   ·rw [if_neg e] at hb
    obtain ⟨k, e1, e2⟩ := g.hw b x hb
    exact ⟨k, e1, by rw [List.getElem?_append_left (List.getElem?_eq_some_iff.mp e2).1]; exact e2⟩
  hw2 := fun b hb => by
   rw [findG_put hn]
   by_cases e : b = a
   ·rw [if_pos e]; rfl
   ·rw [if_neg e]
    rcases List.mem_cons.mp hb with hb | hb
    ·exact absurd hb e
    ·exact g.hw2 b hb
  lw := by rw [put_none hn, List.length_append]; exact hl
  ls := hl2
  sd := g.sd }
theorem Df.next (g : Df N σ ss ((a, q, k) :: fs) sn ws) : Df N (σ.set q (.lit ((ss a).map .int) (k + 1))) ss ((a, q, k + 1) :: fs) sn ws := by
 obtain ⟨q1, q2, q3⟩ := g.hf _ (List.mem_cons_self ..)
 dsimp only at q1 q2 q3
 have hne : ∀ f ∈ fs, f.2.1 ≠ q := fun f hf e => by
  have := g.hq
  rw [List.map_cons, List.nodup_cons] at this
  exact this.1 (List.mem_map.mpr ⟨f, hf, e⟩)
 exact {
  hS := get_set_ne (by walk_at "nq") g.hS
  hT := get_set_ne (by walk_at "nq") g.hT
  hU := get_set_ne (by walk_at "nq") g.hU
  hW := get_set_ne (by walk_at "nq") g.hW
  hf := fun f hf => by
   rcases List.mem_cons.mp hf with rfl | hf
   ·exact ⟨q1, get_set_same q2, get_set_ne (Nat.ne_of_lt (Nat.lt_succ_self q)) q3⟩
   ·obtain ⟨h1, h2, h3⟩ := g.hf f (List.mem_cons_of_mem _ hf)
    exact ⟨h1, get_set_ne (hne f hf).symm h2, get_set_ne (ne_get q2 h3 (by simp)) h3⟩
  hq := g.hq
  nd := g.nd
  hw := g.hw
  hw2 := g.hw2
  lw := g.lw
  ls := g.ls
  sd := g.sd }
theorem findG_filter {es : List (Int × V)} {b : Int} : findG (es.filter fun e => decide (e.1 ≠ a)) b = if b = a then none else findG es b := by
 induction es with
 | nil => by_cases e : b = a <;> simp [e, findG]
 | cons x es ih =>
  by_cases e : x.1 = a
  ·rw [List.filter_cons_of_neg (by simp [e]), ih, findG_cons]
   by_cases e2 : b = a
   ·rw [if_pos e2, if_pos e2]
   ·rw [if_neg e2, if_neg e2, if_neg (fun z => e2 (z.symm.trans e))]
  ·rw [List.filter_cons_of_pos (by simp [e]), findG_cons, ih, findG_cons]
   by_cases e2 : b = a
   ·rw [if_pos e2, if_pos e2, if_neg (fun z => e (z.trans e2))]
   ·rw [if_neg e2, if_neg e2]
theorem Df.pop (g : Df N σ ss ((a, q, k) :: fs) sn ws) :
  Df N ((((σ.set q .litx).set N (.list ((names fs).reverse.map .int))).set (N + 3) (.dict (ws.filter fun e => decide (e.1 ≠ a)))).set (N + 1) (.list (its fs).reverse)) ss fs sn (ws.filter fun e => decide (e.1 ≠ a)) := by
 obtain ⟨q1, q2, q3⟩ := g.hf _ (List.mem_cons_self ..)
 dsimp only at q1 q2 q3
 have hne : ∀ f ∈ fs, f.2.1 ≠ q := fun f hf e => by
  have := g.hq
  rw [List.map_cons, List.nodup_cons] at this
  exact this.1 (List.mem_map.mpr ⟨f, hf, e⟩)
 have hnd : (a :: names fs).Nodup := g.nd
 rw [List.nodup_cons] at hnd
 have hr : (names ((a, q, k) :: fs)).reverse = (names fs).reverse ++ [a] := by simp [names]
 exact {
  hS := get_set_ne (by walk_at "nq") (get_set_ne (by walk_at "nq") (get_set_same (get_set_ne (by walk_at "nq") g.hS)))
  hT := get_set_same (get_set_ne (by walk_at "nq") (get_set_ne (by walk_at "nq") (get_set_ne (by walk_at "nq") g.hT)))
  hU := get_set_ne (by walk_at "nq") (get_set_ne (by walk_at "nq") (get_set_ne (by walk_at "nq") (get_set_ne (by walk_at "nq") g.hU)))
  hW := get_set_ne (by walk_at "nq") (get_set_same (get_set_ne (by walk_at "nq") (get_set_ne (by walk_at "nq") g.hW)))
  hf := fun f hf => by
   obtain ⟨h1, h2, h3⟩ := g.hf f (List.mem_cons_of_mem _ hf)
   exact ⟨h1, get_set_ne (by walk_at "nq") (get_set_ne (by walk_at "nq") (get_set_ne (by walk_at "nq") (get_set_ne (hne f hf).symm h2))), get_set_ne (by walk_at "nq") (get_set_ne (by walk_at "nq") (get_set_ne (by walk_at "nq") (get_set_ne (ne_get q2 h3 (by simp)) h3)))⟩
  hq := by
   have := g.hq
   rw [List.map_cons, List.nodup_cons] at this
   exact this.2
  nd := hnd.2
  hw := fun b x hb => by
   rw [findG_filter] at hb
   by_cases e : b = a
   ·rw [if_pos e] at hb; cases hb
   ·rw [if_neg e] at hb
    obtain ⟨j, e1, e2⟩ := g.hw b x hb
    rw [hr] at e2
    refine ⟨j, e1, ?_⟩
    by_cases hj : j < (names fs).reverse.length
    ·rwa [List.getElem?_append_left hj] at e2
    ·rw [List.getElem?_append_right (Nat.not_lt.mp hj)] at e2
     have := List.mem_of_getElem? e2
     rw [List.mem_singleton] at this
     exact absurd this e
  hw2 := fun b hb => by
   rw [findG_filter, if_neg (fun e : b = a => hnd.1 (by rw [← e]; exact hb))]
   exact g.hw2 b (List.mem_cons_of_mem _ hb)
  lw := Nat.le_trans (List.length_filter_le ..) g.lw
  ls := Nat.le_trans (Nat.le_succ _) g.ls
  sd := g.sd }
end
structure Lg (ss : Int → List Int) (es : List (Int × V)) (fs : List Fr) (sn fin : List Int) : Prop where
 ff : FinL ss fin
 seen : ∀ a, a ∈ sn ↔ a ∈ fin ∨ a ∈ names fs
 dis : ∀ a ∈ names fs, a ∉ fin
 key : ∀ a ∈ sn, (findG es a).isSome = true
section
variable {ss : Int → List Int} {es : List (Int × V)} {fs : List Fr} {sn fin : List Int} {a b : Int} {q k : Nat}
theorem Lg.push (g : Lg ss es fs sn fin) (h : a ∉ sn) (hk : (findG es a).isSome = true) : Lg ss es ((a, q, 0) :: fs) (sn ++ [a]) fin where
 ff := g.ff
 seen := fun b => by
  rw [List.mem_append, List.mem_singleton, g.seen]
  show _ ↔ b ∈ fin ∨ b ∈ a :: names fs
  rw [List.mem_cons]
  constructor
  ·rintro ((h | h) | h)
   ·exact .inl h
   ·exact .inr (.inr h)
   ·exact .inr (.inl h)
  ·rintro (h | h | h)
   ·exact .inl (.inl h)
   ·exact .inr h
   ·exact .inl (.inr h)
 dis := fun b hb => by
  rcases List.mem_cons.mp hb with rfl | hb
  ·exact fun z => h ((g.seen _).mpr (.inl z))
  ·exact g.dis b hb
 key := fun b hb => by
  rcases List.mem_append.mp hb with hb | hb
  ·exact g.key b hb
  ·rw [List.mem_singleton] at hb; subst hb; exact hk
theorem Lg.next (g : Lg ss es ((a, q, k) :: fs) sn fin) : Lg ss es ((a, q, k + 1) :: fs) sn fin := ⟨g.ff, g.seen, g.dis, g.key⟩
theorem Lg.pop (g : Lg ss es ((a, q, k) :: fs) sn fin) (ht : Top ss fin ((a, q, k) :: fs)) (hk : (ss a)[k]? = none) (nd : (a :: names fs).Nodup) : Lg ss es fs sn (a :: fin) where
 ff := by
  refine ⟨fun b hb => ht.1 b ?_, g.dis a (List.mem_cons_self ..), g.ff⟩
  try dsimp only
  rw [List.take_of_length_le (List.getElem?_eq_none_iff.mp hk)]
  exact hb
 seen := fun b => by
  rw [g.seen]
  show b ∈ fin ∨ b ∈ a :: names fs ↔ _
  rw [List.mem_cons, List.mem_cons]
  constructor
  ·rintro (h | h | h)
   ·exact .inl (.inr h)
   ·exact .inl (.inl h)
   ·exact .inr h
  ·rintro ((h | h) | h)
   ·exact .inr (.inl h)
   ·exact .inl h
   ·exact .inr (.inr h)
 dis := fun b hb z => by
  rw [List.nodup_cons] at nd
  rcases List.mem_cons.mp z with rfl | z
  ·exact nd.1 hb
  ·exact g.dis b (List.mem_cons_of_mem _ hb) z
 key := g.key
theorem Lg.len (g : Lg ss es fs sn fin) (hl : es.length ≤ 5) (nd : sn.Nodup) : sn.length ≤ 5 := by
 have := nodup_len sn (es.map (·.1)) nd fun a ha => by
  have := g.key a ha
  rw [findG_any, List.any_eq_true] at this
  obtain ⟨e, he, h⟩ := this
  rw [decide_eq_true_eq] at h
  exact h ▸ List.mem_map_of_mem he
 rw [List.length_map] at this
 exact Nat.le_trans this hl
end
noncomputable def left (ss : Int → List Int) : List Fr → Nat
 | [] => 0
 | f :: r => ((ss f.1).length - f.2.2) + left ss r
section
variable {σ : List O} {i d n r p q N : Nat} {es : List (Int × V)} {np : Int → Int} {ss : Int → List Int} {xs : List Int} {po f a b v : Int} {o : O}
theorem get_take (h : (σ.take N)[q]? = some o) : σ[q]? = some o ∧ q < N := by
 have hq : q < (σ.take N).length := lt_get h
 rw [List.length_take] at hq
 have hq := Nat.lt_of_lt_of_le hq (Nat.min_le_left ..)
 rw [List.getElem?_take_of_lt hq] at h
 exact ⟨h, hq⟩
theorem Rn.out (g : Rn (σ.take N) i d n r es np ss xs po f) : Rn σ i d n r es np ss xs po f :=
 ⟨(get_take g.hi).1, (get_take g.hd).1, (get_take g.hm).1, (get_take g.hr).1, fun a x h => by
  obtain ⟨p, e, h1, h2, h3⟩ := g.hI a x h
  exact ⟨p, e, (get_take h1).1, h2.imp (fun h => (get_take h).1) (fun h => (get_take h).1), h3⟩, g.hs⟩
end
end
section
theorem s_consM {K : Kx} {s : Stmt} {rest : List Stmt} {st : St} {QF : Fl → St → Prop} {E : X → St → Prop} (Mid : St → Prop) (h1 : SX K s st (fun f st => seqK (Mid st) QF f st) E) (h2 : ∀ st, Mid st → SS K rest st QF E) : SS K (s :: rest) st QF E :=
 s_cons (Run.imp h1 fun f st q => by cases f <;> first | exact h2 _ q | exact q)
theorem b_iterLo {K : Kx} {ρ : Str → Option V} {σ : List O} {E : X → St → Prop} {Q : V → St → Prop} {i : Nat} {xs : List V} (h : Lo σ i xs) (q : Q (.obj (σ.set i (.flist xs)).length) ⟨ρ, σ.set i (.flist xs) ++ [.lit xs 0]⟩) : BC K (.builtin "iter") [.obj i] ⟨ρ, σ⟩ Q E := by
 rw [List.length_set] at q
 rcases h with h | h
 ·exact b_iterO h q
 ·refine b_iterF h ?_
  obtain ⟨hl, e⟩ := List.getElem?_eq_some_iff.mp h
  rw [← e, List.set_getElem_self] at q
  exact q
theorem take_set_ge {σ : List O} {N q : Nat} {o : O} (h : N ≤ q) : (σ.set q o).take N = σ.take N := by
 rw [List.take_set, List.set_eq_of_length_le]
 rw [List.length_take]
 exact Nat.le_trans (Nat.min_le_left ..) h
noncomputable def Nm (ρ : Str → Option V) (n N : Nat) : Prop := ρ "n2i" = some (.obj n) ∧ ρ "stack" = some (.obj N) ∧ ρ "itstack" = some (.obj (N + 1)) ∧ ρ "seen" = some (.obj (N + 2)) ∧ ρ "node2stacki" = some (.obj (N + 3))
theorem findG_mem {es : List (Int × V)} {e : Int × V} (h : e ∈ es) : (findG es e.1).isSome = true := by
 rw [findG_any, List.any_eq_true]
 exact ⟨e, h, by simp⟩
theorem fin_snoc {ss : Int → List Int} {es done : List (Int × V)} {sn fin : List Int} {e : Int × V} (gL : Lg ss es [] sn fin) (gd : ∀ e ∈ done, e.1 ∈ fin) (c : e.1 ∈ sn) : ∀ e' ∈ done ++ [e], e'.1 ∈ fin := fun e' he => by
 rcases List.mem_append.mp he with he | he
 ·exact gd e' he
 ·rw [List.mem_singleton] at he
  subst he
  exact ((gL.seen _).mp c).elim id fun z => by cases z
section
variable {N n i d r m p : Nat} {es : List (Int × V)} {np : Int → Int} {ss : Int → List Int} {xs : List Int} {po f : Int} {fs : List Fr} {sn fin : List Int} {ws : List (Int × V)} {cur : Int} {σ : List O} {P : Prop}
theorem find_start (g : Rn σ i d n r es np ss xs po f) (h : ∀ N, σ.length = N → Rn ((σ ++ [O.list []] ++ [O.list []] ++ [O.set []] ++ [O.dict []]).take N) i d n r es np ss xs po f → Df N (σ ++ [O.list []] ++ [O.list []] ++ [O.set []] ++ [O.dict []]) ss [] [] [] → (σ ++ [O.list []] ++ [O.list []] ++ [O.set []] ++ [O.dict []])[n]? = some (.fdict es) → P) : P := by
 refine h _ rfl (by simpa using g) ?_ (get_app_old (get_app_old (get_app_old (get_app_old g.hm))))
 refine ⟨by simp [names], by simp [its], by simp, by simp, ?_, ?_, ?_, ?_, ?_, ?_, ?_, ?_⟩ <;> simp [names, findG]
theorem lg_start : Lg ss es [] [] [] := by
 refine ⟨trivial, ?_, ?_, ?_⟩ <;> simp [names]
theorem e1_el {x : V} (gD : Df N σ ss fs sn ws) (e : findG ws cur = some x) (h : ∀ k : Nat, x = .int k → cur ∈ names fs → k ≤ ((names fs).reverse.map V.int).length → P) : P := by
 obtain ⟨k, h1, h2⟩ := gD.hw cur x e
 refine h k h1 (List.mem_reverse.mp (List.mem_of_getElem? h2)) ?_
 rw [List.length_map]
 exact Nat.le_of_lt (List.getElem?_eq_some_iff.mp h2).1
theorem node_el {o o1 o2 : O} {ys : List V} {k : Nat} (hp : (σ.take N)[p]? = some o1) (hl : Lo (σ.take N) (p + 1) ys) (hm : (σ.take N)[n]? = some o2) (h : p + 1 < N → σ[p]? = some o1 → σ[n]? = some o2 → n < N → Lo (σ.set (N + k) o) (p + 1) ys → P) : P := by
 have hpN : p + 1 < N := by rcases hl with z | z <;> exact (get_take z).2
 exact h hpN (get_take hp).1 (get_take hm).1 (get_take hm).2 (hl.imp (fun z => get_set_ne (by walk_at "nq") (get_take z).1) fun z => get_set_ne (by walk_at "nq") (get_take z).1)
theorem top_el {c : Int} {q k : Nat} (g : Df N σ ss ((c, q, k) :: fs) sn ws) (h : σ[N]? = some (.list ((names fs).reverse.map V.int ++ [.int c])) → σ[N + 1]? = some (.list ((its fs).reverse ++ [.obj (q + 1)])) → σ[q]? = some (.lit ((ss c).map .int) k) → σ[q + 1]? = some (.bm q) → N + 3 < q → (∃ x, findG ws c = some x) → σ[N + 3]? = some (.dict ws) → P) : P := by
 obtain ⟨h1, h2, h3⟩ := g.hf _ (List.mem_cons_self ..)
 have hS := g.hS
 have hT := g.hT
 rw [show (its ((c, q, k) :: fs)).reverse = (its fs).reverse ++ [.obj (q + 1)] by simp [its]] at hT
 rw [show (names ((c, q, k) :: fs)).reverse.map V.int = (names fs).reverse.map V.int ++ [.int c] by simp [names]] at hS
 exact h hS hT h2 h3 h1 (Option.isSome_iff_exists.mp (g.hw2 c (List.mem_cons_self ..))) g.hW
end
structure Wv (N n i d r : Nat) (es : List (Int × V)) (np : Int → Int) (ss : Int → List Int) (xs : List Int) (po f : Int) (done : List (Int × V)) (root : Int) (m : Nat) (fs : List Fr) (sn fin : List Int) (ws : List (Int × V)) (cur : Int) (ρ : Str → Option V) (σ : List O) : Prop where
 nm : Nm ρ n N
 nd : ρ "node" = some (.int cur)
 gR : Rn (σ.take N) i d n r es np ss xs po f
 gD : Df N σ ss fs sn ws
 gL : Lg ss es fs sn fin
 gT : Stk ss fin cur fs
 hm : left ss fs + 100 * (5 - sn.length) ≤ m
 gd : ∀ e ∈ done, e.1 ∈ fin
 hr : root ∈ sn ∨ cur = root
 hk : (findG es cur).isSome = true
structure Mk (N n i d r : Nat) (es : List (Int × V)) (np : Int → Int) (ss : Int → List Int) (xs : List Int) (po f : Int) (done : List (Int × V)) (root : Int) (m : Nat) (fs : List Fr) (sn fin : List Int) (ws : List (Int × V)) (ρ : Str → Option V) (σ : List O) : Prop where
 nm : Nm ρ n N
 gR : Rn (σ.take N) i d n r es np ss xs po f
 gD : Df N σ ss fs sn ws
 gL : Lg ss es fs sn fin
 gT : Top ss fin fs
 hm : left ss fs + 100 * (5 - sn.length) ≤ m
 gd : ∀ e ∈ done, e.1 ∈ fin
 hr : root ∈ sn
section
variable {N n i d r m p : Nat} {es : List (Int × V)} {np : Int → Int} {ss : Int → List Int} {xs : List Int} {po f : Int} {done : List (Int × V)} {root : Int} {fs : List Fr} {sn fin : List Int} {ws : List (Int × V)} {cur : Int} {ρ ρ' : Str → Option V} {σ : List O}
theorem small5 {a b : Nat} (h : b ≤ 5) (ha : a ≤ b) : a < lim := Nat.lt_of_le_of_lt (Nat.le_trans ha h) (by decide)
theorem df_lens {P : Prop} (gD : Df N σ ss fs sn ws) (gL : Lg ss es fs sn fin) (hlen : es.length ≤ 5) (h : ((names fs).reverse.map V.int).length = fs.length → ((names fs).reverse.map V.int).length < lim → ((names fs).reverse.map V.int).length ≤ lim → (its fs).reverse.length < lim → ws.length < lim → ws.length ≤ lim → sn.length ≤ 100 → P) : P := by
 have hsl := gL.len hlen gD.sd
 have hls := gD.ls
 have hlw := gD.lw
 have hSl : ((names fs).reverse.map V.int).length = fs.length := by rw [List.length_map, List.length_reverse, names_len]
 exact h hSl (hSl ▸ small5 hsl hls) (hSl ▸ Nat.le_of_lt (small5 hsl hls)) (by rw [List.length_reverse, its_len]; exact small5 hsl hls) (small5 hsl hlw) (Nat.le_of_lt (small5 hsl hlw)) (Nat.le_trans hsl (by decide))
theorem Wv.iter {P : Prop} (hW : Wv N n i d r es np ss xs po f done root m fs sn fin ws cur ρ σ) (c1 : cur ∉ sn) (hw : findG es cur = some (.obj p)) (hpN : p + 1 < N) (h : ∀ (τ : List O) (q : Nat), τ = (σ.set (N + 2) (.set (sn ++ [cur]))).set (p + 1) (.flist ((ss cur).map .int)) ++ [O.lit ((ss cur).map .int) 0] ++ [O.bm q] →
   ((σ.set (N + 2) (.set (sn ++ [cur]))).set (p + 1) (.flist ((ss cur).map .int))).length = q → Df N τ ss fs (sn ++ [cur]) ws → Rn (τ.take N) i d n r es np ss xs po f → N + 3 < q ∧ τ[q]? = some (.lit ((ss cur).map .int) 0) ∧ τ[q + 1]? = some (.bm q) ∧ (∀ f ∈ fs, f.2.1 ≠ q) → P) : P := by
 have hN0 : N + 3 < σ.length := lt_get hW.gD.hW
 have rT := hW.gR.frz hw
 have eT : ((σ.set (N + 2) (.set (sn ++ [cur]))).set (p + 1) (.flist ((ss cur).map .int))).take N = (σ.take N).set (p + 1) (.flist ((ss cur).map .int)) := by rw [List.take_set, take_set_ge (Nat.le_add_right ..)]
 rw [← eT] at rT
 have g2 : Df N ((σ.set (N + 2) (.set (sn ++ [cur]))).set (p + 1) (.flist ((ss cur).map .int))) ss fs (sn ++ [cur]) ws := (hW.gD.see c1).up fun q o hq e => get_set_ne (Nat.ne_of_lt (Nat.lt_of_lt_of_le hpN hq)) e
 have hlT0 : ((σ.set (N + 2) (.set (sn ++ [cur]))).set (p + 1) (.flist ((ss cur).map .int))).length = σ.length := by rw [List.length_set, List.length_set]
 refine h _ σ.length rfl hlT0 (g2.up fun q o hq e => get_app_old (get_app_old e)) ?_ ⟨hN0, ?_, ?_, fun f hf e => ?_⟩
 ·rw [List.append_assoc, List.take_append_of_le_length (hlT0 ▸ nR hN0)]
  exact rT
 ·rw [← hlT0]
  exact get_app_old get_app_len
 ·rw [← hlT0]
  simp
 ·exact Nat.ne_of_lt (lt_get (hW.gD.hf f hf).2.1) e
theorem meas0 {c L t m : Nat} (h1 : L + 100 * (t + 1) ≤ m) (h2 : c ≤ 100) : c + L + 100 * t ≤ m := by omega
theorem meas {c L s m : Nat} (h : s + 1 ≤ 5) (h1 : L + 100 * (5 - s) ≤ m) (h2 : c ≤ 100) : c - 0 + L + 100 * (5 - (s + 1)) ≤ m :=
 meas0 (t := 5 - (s + 1)) (by rw [show 5 - (s + 1) + 1 = 5 - s from Nat.sub_add_cancel (Nat.le_sub_of_add_le (Nat.add_comm 1 s ▸ h))]; exact h1) h2
theorem meas_lt {c k L z m : Nat} (hk : k < c) (h : c - k + L + z ≤ m) : c - (k + 1) + L + z < m :=
 Nat.lt_of_lt_of_le (Nat.add_lt_add_right (Nat.add_lt_add_right (Nat.sub_lt_sub_left hk (Nat.lt_succ_self k)) _) _) h
theorem Wv.push {τ : List O} {q : Nat} (hW : Wv N n i d r es np ss xs po f done root m fs sn fin ws cur ρ σ) (c1 : cur ∉ sn) (hs : ∀ a, (ss a).length ≤ 100) (hlen : es.length ≤ 5) (g3 : Df N τ ss fs (sn ++ [cur]) ws) (rT : Rn (τ.take N) i d n r es np ss xs po f) (hq : N + 3 < q ∧ τ[q]? = some (.lit ((ss cur).map .int) 0) ∧ τ[q + 1]? = some (.bm q) ∧ (∀ f ∈ fs, f.2.1 ≠ q)) (hn : Nm ρ' n N) :
  Mk N n i d r es np ss xs po f done root m ((cur, q, 0) :: fs) (sn ++ [cur]) fin (putG ws cur (.int fs.length)) ρ' (((τ.set (N + 1) (.list ((its fs).reverse ++ [.obj (q + 1)]))).set (N + 3) (.dict (putG ws cur (.int fs.length)))).set N (.list ((names fs).reverse.map .int ++ [.int cur]))) := by
 have hsl2 := (hW.gL.push (a := cur) (q := 0) c1 hW.hk).len hlen ((hW.gD.see c1).sd)
 rw [List.length_append, List.length_singleton] at hsl2
 have hls := hW.gD.ls
 have hlw := hW.gD.lw
 have hm := hW.hm
 refine ⟨hn, ?_, g3.push hq.1 hq.2.1 hq.2.2.1 hq.2.2.2 (fun z => c1 ((hW.gL.seen cur).mpr (.inr z))) (by rw [List.length_append, List.length_singleton]; exact Nat.succ_le_succ hlw) (by rw [List.length_append, List.length_singleton]; exact Nat.succ_le_succ hls), hW.gL.push c1 hW.hk, ⟨by simp, hW.gT⟩, ?_, hW.gd, ?_⟩
 ·rw [take_set_ge (Nat.le_refl _), take_set_ge (Nat.le_add_right ..), take_set_ge (Nat.le_add_right ..)]
  exact rT
 ·have := hs cur
  rw [List.length_append, List.length_singleton]
  show ((ss cur).length - 0) + left ss fs + 100 * (5 - (sn.length + 1)) ≤ m
  exact meas hsl2 hm this
 ·rcases hW.hr with z | z
  ·exact List.mem_append_left _ z
  ·subst z; simp
theorem Wv.old (hW : Wv N n i d r es np ss xs po f done root m fs sn fin ws cur ρ σ) (c1 : cur ∈ sn) (hnf : cur ∉ names fs) : Mk N n i d r es np ss xs po f done root m fs sn fin ws ρ σ :=
 ⟨hW.nm, hW.gR, hW.gD, hW.gL, hW.gT.top (((hW.gL.seen cur).mp c1).elim id fun z => absurd z hnf), hW.hm, hW.gd, hW.hr.elim id fun z => z ▸ c1⟩
theorem Mk.next {c b : Int} {q k : Nat} (hM : Mk N n i d r es np ss xs po f done root m ((c, q, k) :: fs) sn fin ws ρ σ) (hb : (ss c)[k]? = some b) (hs : ∀ a b, b ∈ ss a → (findG es b).isSome = true) (hn : Nm ρ' n N) (hb2 : ρ' "node" = some (.int b)) :
  m - 1 < m ∧ Wv N n i d r es np ss xs po f done root (m - 1) ((c, q, k + 1) :: fs) sn fin ws b ρ' (σ.set q (.lit ((ss c).map .int) (k + 1))) := by
 have hkl : k < (ss c).length := (List.getElem?_eq_some_iff.mp hb).1
 have hm : ((ss c).length - k) + left ss fs + 100 * (5 - sn.length) ≤ m := hM.hm
 have hq1 := (hM.gD.hf _ (List.mem_cons_self ..)).1
 dsimp only at hq1
 have hlt := meas_lt hkl hm
 refine ⟨Nat.sub_one_lt_of_lt hlt, hn, hb2, ?_, hM.gD.next, hM.gL.next, hM.gT.next hb, ?_, hM.gd, .inl hM.hr, hs c b (List.mem_of_getElem? hb)⟩
 ·rw [take_set_ge (nR hq1)]
  exact hM.gR
 ·exact Nat.le_sub_one_of_lt hlt
theorem Mk.pop {c : Int} {q k : Nat} (hM : Mk N n i d r es np ss xs po f done root m ((c, q, k) :: fs) sn fin ws ρ σ) (hx : (ss c)[k]? = none) :
  Mk N n i d r es np ss xs po f done root m fs sn (c :: fin) (ws.filter fun e => decide (e.1 ≠ c)) ρ ((((σ.set q .litx).set N (.list ((names fs).reverse.map .int))).set (N + 3) (.dict (ws.filter fun e => decide (e.1 ≠ c)))).set (N + 1) (.list (its fs).reverse)) := by
 have hq1 := (hM.gD.hf _ (List.mem_cons_self ..)).1
 dsimp only at hq1
 have hm : ((ss c).length - k) + left ss fs + 100 * (5 - sn.length) ≤ m := hM.hm
 refine ⟨hM.nm, ?_, hM.gD.pop, hM.gL.pop hM.gT hx hM.gD.nd, hM.gT.pop, Nat.le_trans (Nat.add_le_add_right (Nat.le_add_left ..) _) hm, fun e he => List.mem_cons_of_mem _ (hM.gd e he), hM.hr⟩
 rw [take_set_ge (Nat.le_add_right ..), take_set_ge (Nat.le_add_right ..), take_set_ge (Nat.le_refl _), take_set_ge (nR hq1)]
 exact hM.gR
end
section
variable {K : Kx} {ρ : Str → Option V} {σ σ' : List O} {E : X → St → Prop} {Q : V → St → Prop} {x y z : V} {i d n r : Nat} {a po f : Int} {es : List (Int × V)} {np : Int → Int} {ss : Int → List Int} {xs : List Int}
theorem k_find (h : Opened K.c) (hc : K.calm = true) (hn : 0 < K.n) (g : Rn σ i d n r es np ss xs po f) (hlen : es.length ≤ 5) (hs : ∀ a, (ss a).length ≤ 100)
  (q1 : (∃ φ : Int → Int, ∀ a b, (findG es a).isSome = true → b ∈ ss a → φ a < φ b) → ∀ σ' : List O, Rn σ' i d n r es np ss xs po f → Q .none ⟨ρ, σ'⟩)
  (q2 : (∀ φ : Int → Int, (∀ a b, b ∈ ss a → φ a < φ b) → False) → ∀ (l : List V) (σ' : List O), l ≠ [] → l.length ≤ lim → Rn σ' i d n r es np ss xs po f → Q (.lst l) ⟨ρ, σ'⟩) :
  CX K (.ref 343) [.obj i] [] ⟨ρ, σ⟩ Q E := by
 refine g_def hn (d_343 h) (bd_343 h) rfl fun F' Q' E' hF hQ _ _ => ?_
 have hF0 : ∀ x0, FnFm ((K.body F' s_TopologicalSorter__find_cycle).plus x0).F := fun _ => hF
 have hi := g.hi
 have hd := g.hd
 have hm := g.hm
 refine ss_id ?_
 repeat walk_at "l"
 refine x_listO ?_
 repeat walk_at "l"
 refine x_listO ?_
 repeat walk_at "l"
 refine b_set ?_
 repeat walk_at "l"
 simp only [List.length_append, List.length_singleton]
 refine y_for (fun _ _ => rfl) ?_
 repeat walk_at "l"
 refine find_start g fun N hN g4 d4 hm4 => ?_
 rw [hN]
 generalize hτ : σ ++ [O.list []] ++ [O.list []] ++ [O.set []] ++ [O.dict []] = τ at g4 d4 hm4 ⊢
 clear hτ hi hd hm hN
 refine o_items (f := fun e => V.int e.1) (K := K.body F' _) hc es rfl (fun done ρ1 σ1 => ∃ fin sn ws, Nm ρ1 n N ∧ Rn (σ1.take N) i d n r es np ss xs po f ∧ Df N σ1 ss [] sn ws ∧ Lg ss es [] sn fin ∧ ∀ e ∈ done, e.1 ∈ fin) (.fdict hm4) ⟨[], [], [], ⟨?_, ?_, ?_, ?_, ?_⟩, g4, d4, lg_start, fun e he => by cases he⟩ (fun I Q2 E2 hI hQ2 x0 done e rest ρ3 σ3 he hP => ?_) (fun ρ3 σ3 hP => ?_)
 ·walk_at "mr"
 ·walk_at "mr"
 ·walk_at "mr"
 ·walk_at "mr"
 ·walk_at "mr"
 ·refine e3 hP fun fin sn ws hP => a5 hP fun hnm gR gD gL gd => a5 hnm fun n1 n2 n3 n4 n5 => ?_
  have hU := gD.hU
  repeat walk_at "l"
  refine q_inS hU ?_
  repeat walk_at "l"
  by_cases c : e.1 ∈ sn
  ·refine ifT (decide_eq_true c) ?_
   repeat walk_at "l"
   refine hI _ _ _ ⟨fin, sn, ws, ⟨?_, ?_, ?_, ?_, ?_⟩, gR, gD, gL, fin_snoc gL gd c⟩
   ·walk_at "mr"
   ·walk_at "mr"
   ·walk_at "mr"
   ·walk_at "mr"
   ·walk_at "mr"
  ·refine ifF (decide_eq_false c) ?_
   repeat walk_at "l"
   refine o_while (fun m ρ4 σ4 => ∃ fs sn fin ws cur, Wv N n i d r es np ss xs po f done e.1 m fs sn fin ws cur ρ4 σ4) (100 * (5 - sn.length)) ⟨[], sn, fin, ws, e.1, ⟨?_, ?_, ?_, ?_, ?_⟩, ?_, gR, gD, gL, trivial, Nat.le_of_eq (Nat.zero_add _), gd, .inr rfl, findG_mem (by rw [he]; simp)⟩ (fun I3 Q3 E3 hI3 hQ3 m ρ4 σ4 hP => ?_)
   ·walk_at "mr"
   ·walk_at "mr"
   ·walk_at "mr"
   ·walk_at "mr"
   ·walk_at "mr"
   ·walk_at "mr"
   ·clear n1 n2 n3 n4 n5 hU
    refine e5 hP fun fs sn fin ws cur hW => a5 hW.nm fun n1 n2 n3 n4 n5 => ?_
    have n6 := hW.nd
    have hU := hW.gD.hU
    have hD := hW.gD.hW
    have hS := hW.gD.hS
    have hT := hW.gD.hT
    refine df_lens hW.gD hW.gL hlen fun hSl hlS hlS' hlT hlW hlW' hsn => ?_
    iterate 4 walk_at "l"
    refine s_consM (fun st => ∃ fs sn fin ws, Mk N n i d r es np ss xs po f done e.1 m fs sn fin ws st.ρ st.σ) ?_ ?_
    ·repeat walk_at "l"
     refine q_inS hU ?_
     repeat walk_at "l"
     by_cases c1 : cur ∈ sn
     ·refine ifT (decide_eq_true c1) ?_
      repeat walk_at "l"
      refine q_inD hD ?_
      repeat walk_at "l"
      cases e1 : findG ws cur with
      | some x =>
       refine e1_el hW.gD e1 fun k hx hk2 hka => ?_
       rw [hx] at e1
       refine ifT (by rw [← findG_any, e1]; rfl) ?_
       repeat walk_at "l"
       refine x_slice ?_
       repeat walk_at "l"
       refine sg_list hS hka hlS' ?_
       repeat walk_at "l"
       refine x_list ?_
       repeat walk_at "l"
       have hl2 : ((((names fs).reverse.map V.int).drop k) ++ [V.int cur]).length ≤ lim := by rw [List.length_append, List.length_drop, List.length_singleton]; exact Nat.succ_le_of_lt (Nat.lt_of_le_of_lt (Nat.sub_le _ _) hlS)
       refine o_addL (by rw [List.length_append] at hl2; exact hl2) ?_
       repeat walk_at "l"
       exact hQ3 _ _ (hQ2 _ _ (hQ _ _ (q2 (fun φ hφ => absurd (hW.gT.lt hφ cur hk2) (Int.lt_irrefl _)) _ _ (by simp) hl2 hW.gR.out)))
      | none =>
       refine ifF (by rw [← findG_any, e1]; rfl) ?_
       repeat walk_at "l"
       exact ⟨fs, sn, fin, ws, hW.old c1 fun z => by
        have := hW.gD.hw2 cur z
        rw [e1] at this
        cases this⟩
     ·refine ifF (decide_eq_false c1) ?_
      repeat walk_at "l"
      refine bm_add hU hsn ?_
      rw [show addS sn cur = sn ++ [cur] from if_neg c1]
      refine hW.gR.el hW.hk fun p hw hp hp1 => ?_
      refine node_el (N := N) (o := .set (sn ++ [cur])) (k := 2) hp hp1 hW.gR.hm fun hpN hp' hm3 hmN hpl => ?_
      repeat walk_at "l"
      refine b_iterLo hpl ?_
      refine hW.iter c1 hw hpN fun τ q e2 e3 g3 rT hq => ?_
      refine a_next get_app_len ?_
      rw [List.length_append, List.length_singleton, e3, ← e2]
      have hS := g3.hS
      have hT := g3.hT
      have hD := g3.hW
      repeat walk_at "l"
      rw [hSl]
      refine ⟨_, _, _, _, hW.push c1 hs hlen g3 rT hq ⟨?_, ?_, ?_, ?_, ?_⟩⟩
      ·walk_at "mr"
      ·walk_at "mr"
      ·walk_at "mr"
      ·walk_at "mr"
      ·walk_at "mr"
    ·rintro ⟨ρ5, σ5⟩ hk5
     clear n1 n2 n3 n4 n5 n6 hU hD hS hT
     refine y_cons ?_
     refine e4 hk5 fun fs5 sn5 fin5 ws5 hM5 => ?_
     refine o_while (fun k ρ5 σ5 => ∃ fs sn fin ws, fs.length = k ∧ Mk N n i d r es np ss xs po f done e.1 m fs sn fin ws ρ5 σ5) fs5.length ⟨fs5, sn5, fin5, ws5, rfl, hM5⟩ (fun I4 Q4 E4 hI4 hQ4 k6 ρ6 σ6 hP => ?_)
     clear hk5 hM5
     refine e4 hP fun fs sn fin ws hP => hP.elim fun hk6 hM => a5 hM.nm fun n1 n2 n3 n4 n5 => ?_
     have hS := hM.gD.hS
     refine df_lens hM.gD hM.gL hlen fun hSl hlS hlS' hlT hlW hlW' hsn => ?_
     repeat walk_at "l"
     refine t_list hS hlS' ?_
     cases fs with
     | nil =>
      refine ifF rfl ?_
      repeat walk_at "l"
      refine hQ4 _ _ ?_
      repeat walk_at "l"
      refine hQ3 _ _ ?_
      repeat walk_at "l"
      exact hI _ _ _ ⟨fin, sn, ws, ⟨n1, n2, n3, n4, n5⟩, hM.gR, hM.gD, hM.gL, fin_snoc hM.gL hM.gd hM.hr⟩
     | cons fr fs =>
      obtain ⟨c, q, k⟩ := fr
      refine ifT (by simp [names]) ?_
      refine y_cons ?_
      with_reducible refine s_try (hF0 x0) ?_ (gl_StopIteration h) ?_
      case refine_1 => kernel_rfl
      repeat walk_at "l"
      refine top_el hM.gD fun hS hT hq2 hq3 hqN hwc hD => ?_
      rw [show (its ((c, q, k) :: fs)).reverse = (its fs).reverse ++ [.obj (q + 1)] by simp [its]] at hlT
      rw [show (names ((c, q, k) :: fs)).reverse.map V.int = (names fs).reverse.map V.int ++ [.int c] by simp [names]] at hlS'
      refine g_last hT (Nat.le_of_lt hlT) List.getLast?_concat ?_
      repeat walk_at "l"
      refine cv_bm hc hq3 (.on _ _ hq2 (fun x hx => ?_) (fun hx => ?_))
      ·rw [List.getElem?_map] at hx
       obtain ⟨b, hb, rfl⟩ := Option.map_eq_some_iff.mp hx
       repeat walk_at "l"
       refine hQ4 _ _ ?_
       repeat walk_at "l"
       refine (hM.next (ρ' := upd ρ6 "node" (.int b)) hb g.hs ⟨?_, ?_, ?_, ?_, ?_⟩ ?_).elim fun h1 h2 => ⟨_, h1, hI3 _ _ _ ⟨_, _, _, _, _, h2⟩⟩
       ·walk_at "mr"
       ·walk_at "mr"
       ·walk_at "mr"
       ·walk_at "mr"
       ·walk_at "mr"
       ·walk_at "mr"
      ·refine ⟨.stop, ?_⟩
       rw [List.getElem?_map, Option.map_eq_none_iff] at hx
       refine hwc.elim fun wx hwx => ?_
       repeat walk_at "l"
       try dsimp only
       refine bm_pop (get_set_ne (by walk_at "nq") hS) List.getLast?_concat hlS' ?_
       rw [List.dropLast_concat]
       repeat walk_at "l"
       refine d_dict (get_set_ne (by walk_at "nq") (get_set_ne (by walk_at "nq") hD)) hlW' hwx ?_
       repeat walk_at "l"
       refine bm_pop (get_set_ne (by walk_at "nq") (get_set_ne (by walk_at "nq") (get_set_ne (by walk_at "nq") hT))) List.getLast?_concat (Nat.le_of_lt hlT) ?_
       rw [List.dropLast_concat]
       repeat walk_at "l"
       exact ⟨fs.length, by rw [← hk6]; exact Nat.lt_succ_self _, hI4 _ _ _ ⟨fs, sn, c :: fin, _, rfl, hM.pop hx⟩⟩
 ·refine e3 hP fun fin sn ws hP => a5 hP fun hnm gR gD gL gd => ?_
  repeat walk_at "l"
  refine hQ _ _ (q1 ⟨pos fin, fun a b ha hb => gL.ff.pot a ?_ b hb⟩ _ gR.out)
  rw [findG_any, List.any_eq_true] at ha
  obtain ⟨e, he, z⟩ := ha
  rw [decide_eq_true_eq] at z
  exact z ▸ gd e he
end
end
section
section
variable {K : Kx} {ρ : Str → Option V} {σ σ' : List O} {E : X → St → Prop} {Q : V → St → Prop} {x y z : V} {i d n r : Nat} {a po f : Int} {es : List (Int × V)} {np : Int → Int} {ss : Int → List Int} {xs : List Int}
noncomputable def readyOf (es : List (Int × V)) (np : Int → Int) : List Int := (es.filter fun e => decide (np e.1 = 0)).map (·.1)
theorem findG_of_mem : ∀ {es : List (Int × V)} {e : Int × V}, (es.map (·.1)).Nodup → e ∈ es → findG es e.1 = some e.2
 | [], _, _, h => by cases h
 | x :: es, e, nd, h => by
  rw [List.map_cons, List.nodup_cons] at nd
  rw [findG_cons]
  rcases List.mem_cons.mp h with rfl | h
  ·rw [if_pos rfl]
  ·rw [if_neg (fun z => nd.1 (by rw [z]; exact List.mem_map_of_mem h))]
   exact findG_of_mem nd.2 h
theorem Gr.run {gs : List (Str × V)} (g : Gr σ i d n es np ss) (hcl : ∀ a b, b ∈ ss a → (findG es b).isSome = true) (hz : O.idict gs = .idict [("_node2info", .obj n), ("_ready_nodes", .obj σ.length), ("_npassedout", .int 0), ("_nfinished", .int 0)]) :
  Rn ((σ.set n (.fdict es) ++ [O.list (xs.map .int)]).set d (.idict gs)) i d n σ.length es np ss xs 0 0 := by
 rw [hz]
 have n1 : n ≠ i := ne_get g.hm g.hi (by simp)
 have n2 : n ≠ d := ne_get g.hm g.hd (by simp)
 have n3 : d ≠ i := ne_get g.hd g.hi (by simp)
 have kp : ∀ (q : Nat) (o : O), σ[q]? = some o → (∀ fs, o ≠ .idict fs) → (∀ fs, o ≠ .dict fs) → ((σ.set n (.fdict es) ++ [O.list (xs.map .int)]).set d (.idict [("_node2info", .obj n), ("_ready_nodes", .obj σ.length), ("_npassedout", .int 0), ("_nfinished", .int 0)]))[q]? = some o := fun q o e h1 h2 =>
  get_set_ne (ne_get g.hd e (Ne.symm (h1 _))) (get_app_old (get_set_ne (ne_get g.hm e (Ne.symm (h2 _))) e))
 refine ⟨kp _ _ g.hi (by simp) (by simp), get_set_same (get_app_old (get_set_ne n2 g.hd)), get_set_ne n2.symm (get_app_old (get_set_same g.hm)), get_set_ne (Nat.ne_of_lt (lt_get g.hd)) ?_, fun a x ha => ?_, hcl⟩
 ·have := get_app_len (σ := σ.set n (.fdict es)) (o := O.list (xs.map .int))
  rwa [List.length_set] at this
 ·obtain ⟨p, rfl, hp, hp1⟩ := g.hI a x ha
  exact ⟨p, rfl, kp _ _ hp (by simp) (by simp), .inl (kp _ _ hp1 (by simp) (by simp)), Nat.ne_of_lt (lt_get hp1)⟩
theorem k_prep (h : Opened K.c) (hc : K.calm = true) (hn : 1 < K.n) (g : Gr σ i d n es np ss) (hcl : ∀ a b, b ∈ ss a → (findG es b).isSome = true) (hs : ∀ a, (ss a).length ≤ 100)
  (q1 : (∃ φ : Int → Int, ∀ a b, (findG es a).isSome = true → b ∈ ss a → φ a < φ b) → ∀ (σ' : List O) (r : Nat), Rn σ' i d n r es np ss (readyOf es np) 0 0 → Q .none ⟨ρ, σ'⟩)
  (q2 : (∀ φ : Int → Int, (∀ a b, b ∈ ss a → φ a < φ b) → False) → ∀ (σ' : List O) (r : Nat), Rn σ' i d n r es np ss (readyOf es np) 0 0 → E .cycle ⟨ρ, σ'⟩) :
  CX K (.ref 308) [.obj i] [] ⟨ρ, σ⟩ Q E := by
 refine g_def (Nat.lt_of_succ_lt hn) (d_308 h) (bd_308 h) rfl fun F' Q' E' hF hQ hQn hE => ?_
 have hi := g.hi
 have hd := g.hd
 have hm := g.hm
 refine ss_id ?_
 repeat walk_at "l"
 refine y_compO hc (fun _ _ => rfl) (by kernel_rfl) ?_
 repeat walk_at "l"
 refine bm_values hm (y_it (.vals hm) ?_)
 refine o_sel (f := fun e : Int × V => e.2) (g := fun e => .int e.1) (fun e => decide (np e.1 = 0)) es (Nat.le_trans g.len (by decide)) (fun _ σ1 => σ1 = σ.set n (.fdict es)) (fun Y Z e ρ1 σ1 he hP hY hZ => ?_) (fun ρ1 σ1 hP => ?_) rfl
 ·intro F1
  refine (g.hI e.1 e.2 (findG_of_mem g.hk.1 he)).elim fun p hx => ?_
  have hp : σ1[p]? = some (.slots 256 [some (.int e.1), some (.int (np e.1)), some (.obj (p + 1))]) := hP ▸ get_set_ne (ne_get hm hx.2.1 nofun) hx.2.1
  rw [hx.1]
  repeat walk_at "l"
  refine te_cons fun F2 => ?_
  repeat walk_at "l"
  by_cases c : np e.1 = 0
  ·refine ifT (decide_eq_true c) (te_nil fun F5 => ?_)
   repeat walk_at "l"
   exact hY (decide_eq_true c) _ _ hP
  ·exact ifF (decide_eq_false c) (hZ (decide_eq_false c) _ _ hP)
 ·rw [hP, show (es.filter fun e => decide (np e.1 = 0)).map (fun e => V.int e.1) = (readyOf es np).map .int from (List.map_map ..).symm]
  have hl : (σ.set n (.fdict es)).length = σ.length := List.length_set
  have hi2 : (σ.set n (.fdict es))[i]? = some (.inst 353 d) := get_set_ne (ne_get hm hi nofun) hi
  have hd2 : (σ.set n (.fdict es))[d]? = some (.idict [("_node2info", .obj n), ("_ready_nodes", .none), ("_npassedout", .int 0), ("_nfinished", .int 0)]) := get_set_ne (ne_get hm hd nofun) hd
  repeat walk_at "l"
  rw [hl]
  have gR := g.run (xs := readyOf es np) (gs := putG [("_node2info", .obj n), ("_ready_nodes", .none), ("_npassedout", .int 0), ("_nfinished", .int 0)] "_ready_nodes" (.obj σ.length)) hcl (by kernel_rfl)
  generalize (σ.set n (O.fdict es) ++ [O.list (List.map V.int (readyOf es np))]).set d (O.idict (putG [("_node2info", .obj n), ("_ready_nodes", .none), ("_npassedout", .int 0), ("_nfinished", .int 0)] "_ready_nodes" (.obj σ.length))) = τ at gR ⊢
  clear hi2 hd2
  have hi2 := gR.hi
  have hd2 := gR.hd
  repeat walk_at "l"
  refine k_find h hc (nS hn rfl) gR g.len hs (fun hno σ3 g3 => ?_) (fun hno l σ3 hl hl2 g3 => ?_)
  ·repeat walk_at "l"
   exact hQn _ (q1 hno _ _ g3)
  ·repeat walk_at "l"
   refine t_lst hl2 ?_
   refine ifT (by cases l with | nil => exact absurd rfl hl | cons _ _ => rfl) ?_
   refine y_cons ?_
   refine s_raiseCyc hc h.cyc (by kernel_rfl) (gl_CycleError h) (fun _ => rfl) ?_
   repeat walk_at "l"
   refine x_fstr ?_
   repeat walk_at "l"
   exact hE _ _ (q2 hno _ _ g3)
end
end
section
noncomputable def freeOf (nd : Int → List Int) (lf : List Int) : List Int := lf.filter fun j => (lf.filter fun b => decide (b ∈ nd j)).isEmpty
noncomputable def restOf (nd : Int → List Int) (lf : List Int) : List Int := lf.filter fun j => decide (j ∉ freeOf nd lf)
noncomputable def plainR (nd : Int → List Int) : Nat → List Int → List (List Int) × List Int
 | 0, lf => ([], lf)
 | k + 1, lf => if freeOf nd lf = [] then ([], lf) else ((freeOf nd lf) :: (plainR nd k (restOf nd lf)).1, (plainR nd k (restOf nd lf)).2)
section
variable {nd : Int → List Int} {lf : List Int} {j b : Int}
theorem mem_free : j ∈ freeOf nd lf ↔ j ∈ lf ∧ ∀ b ∈ lf, b ∉ nd j := by
 unfold freeOf
 rw [List.mem_filter, List.isEmpty_iff, List.filter_eq_nil_iff]
 simp
theorem mem_rest : j ∈ restOf nd lf ↔ j ∈ lf ∧ j ∉ freeOf nd lf := by
 unfold restOf
 rw [List.mem_filter, decide_eq_true_eq]
theorem rest_lt (h : freeOf nd lf ≠ []) : (restOf nd lf).length < lf.length := by
 obtain ⟨a, ha⟩ := List.exists_mem_of_ne_nil _ h
 have h1 : a ∈ lf := (mem_free.mp ha).1
 have : ∀ (l : List Int), a ∈ l → (l.filter fun j => decide (j ∉ freeOf nd lf)).length < l.length := by
  intro l
  induction l with
  | nil => intro h; cases h
  | cons x l ih =>
   intro h
   by_cases e : x ∈ freeOf nd lf
   ·rw [List.filter_cons_of_neg (by simp [e])]
    have := List.length_filter_le (fun j => decide (j ∉ freeOf nd lf)) l
    exact Nat.lt_succ_of_le this
   ·rw [List.filter_cons_of_pos (by simp [e])]
    rcases List.mem_cons.mp h with rfl | h
    ·exact absurd ha e
    ·have := ih h
     exact Nat.succ_lt_succ this
 exact this lf h1
theorem plain_stuck : ∀ (k : Nat) (lf : List Int), lf.length < k → freeOf nd (plainR nd k lf).2 = []
 | 0, lf, h => absurd h (Nat.not_lt_zero _)
 | k + 1, lf, h => by
  unfold plainR
  by_cases c : freeOf nd lf = []
  ·rw [if_pos c]; exact c
  ·rw [if_neg c]
   exact plain_stuck k _ (Nat.lt_of_lt_of_le (rest_lt c) (Nat.le_of_lt_succ h))
theorem plain_sub : ∀ (k : Nat) (lf : List Int), ∀ a ∈ (plainR nd k lf).2, a ∈ lf
 | 0, lf, a, h => h
 | k + 1, lf, a, h => by
  unfold plainR at h
  by_cases c : freeOf nd lf = []
  ·rw [if_pos c] at h; exact h
  ·rw [if_neg c] at h
   exact (mem_rest.mp (plain_sub k _ a h)).1
theorem plain_more : ∀ (k m : Nat) (lf : List Int), lf.length < k → lf.length < m → plainR nd k lf = plainR nd m lf
 | 0, _, _, h, _ => absurd h (Nat.not_lt_zero _)
 | _, 0, _, _, h => absurd h (Nat.not_lt_zero _)
 | k + 1, m + 1, lf, h, h' => by
  unfold plainR
  by_cases c : freeOf nd lf = []
  ·rw [if_pos c, if_pos c]
  ·have := rest_lt c
   rw [if_neg c, if_neg c, plain_more k m _ (Nat.lt_of_lt_of_le this (Nat.le_of_lt_succ h)) (Nat.lt_of_lt_of_le this (Nat.le_of_lt_succ h'))]
theorem plain_pot : ∀ (k : Nat) (lf : List Int), (plainR nd k lf).2 = [] → ∃ φ : Int → Nat, ∀ j ∈ lf, ∀ b ∈ nd j, b ∈ lf → φ b < φ j
 | 0, lf, h => ⟨fun _ => 0, fun j hj => by rw [show lf = [] from h] at hj; cases hj⟩
 | k + 1, lf, h => by
  unfold plainR at h
  by_cases c : freeOf nd lf = []
  ·rw [if_pos c] at h
   exact ⟨fun _ => 0, fun j hj => by rw [show lf = [] from h] at hj; cases hj⟩
  ·rw [if_neg c] at h
   obtain ⟨φ, hφ⟩ := plain_pot k _ h
   refine ⟨fun x => if x ∈ freeOf nd lf then 0 else φ x + 1, fun j hj b hb hbl => ?_⟩
   have hjf : j ∉ freeOf nd lf := fun z => (mem_free.mp z).2 b hbl hb
   dsimp only
   rw [if_neg hjf]
   by_cases e : b ∈ freeOf nd lf
   ·rw [if_pos e]; exact Nat.succ_pos _
   ·rw [if_neg e]
    have := hφ j (mem_rest.mpr ⟨hj, hjf⟩) b hb (mem_rest.mpr ⟨hbl, e⟩)
    exact Nat.succ_lt_succ this
theorem min_of (φ : Int → Int) : ∀ (l : List Int), l ≠ [] → ∃ m ∈ l, ∀ x ∈ l, φ m ≤ φ x
 | [], h => absurd rfl h
 | [a], _ => ⟨a, List.mem_singleton.mpr rfl, fun x hx => by rw [List.mem_singleton.mp hx]; exact Int.le_refl _⟩
 | a :: b :: l, _ => by
  obtain ⟨m, hm, h⟩ := min_of φ (b :: l) (by simp)
  by_cases c : φ a ≤ φ m
  ·refine ⟨a, List.mem_cons_self .., fun x hx => ?_⟩
   rcases List.mem_cons.mp hx with rfl | hx
   ·exact Int.le_refl _
   ·exact Int.le_trans c (h x hx)
  ·refine ⟨m, List.mem_cons_of_mem _ hm, fun x hx => ?_⟩
   rcases List.mem_cons.mp hx with rfl | hx
   ·exact Int.le_of_lt (Int.not_le.mp c)
   ·exact h x hx
theorem pot_plain {φ : Int → Int} {k : Nat} (hk : lf.length < k) (h : ∀ j ∈ lf, ∀ b ∈ nd j, φ b < φ j) : (plainR nd k lf).2 = [] := by
 by_cases c : (plainR nd k lf).2 = []
 ·exact c
 ·obtain ⟨m, hm, hmin⟩ := min_of φ _ c
  have : m ∈ freeOf nd (plainR nd k lf).2 := mem_free.mpr ⟨hm, fun b hb z => by
   have h1 := h m (plain_sub k lf m hm) b z
   have h2 := hmin b hb
   exact Int.not_lt.mpr h2 h1⟩
  rw [plain_stuck k lf hk] at this
  cases this
end
noncomputable def Agree (g : List Int) (s t : (Int → Int) × List Int) : Prop := s.2 = t.2 ∧ ∀ j, j ∉ g → s.1 j = t.1 j
section
variable {g : List Int} {ss : Int → List Int} {s t : (Int → Int) × List Int}
theorem Agree.dec {a : Int} (h : Agree g s t) (ha : a ∉ g) : Agree g (decS s a) (decS t a) := by
 have e := h.2 a ha
 constructor
 ·unfold decS
  dsimp only
  rw [e, h.1]
 ·intro j hj
  show npSet s.1 a (s.1 a - 1) j = npSet t.1 a (t.1 a - 1) j
  unfold npSet
  rw [e, h.2 j hj]
theorem Agree.decs : ∀ (l : List Int) {s t : (Int → Int) × List Int}, Agree g s t → (∀ a ∈ l, a ∉ g) → Agree g (l.foldl decS s) (l.foldl decS t)
 | [], _, _, h, _ => h
 | a :: l, _, _, h, ha => Agree.decs l (h.dec (ha a (List.mem_cons_self ..))) fun b hb => ha b (List.mem_cons_of_mem _ hb)
theorem Agree.dones : ∀ (l : List Int) {s t : (Int → Int) × List Int}, Agree g s t → (∀ a ∈ l, a ∈ g) → (∀ a ∈ l, ∀ b ∈ ss a, b ∉ g) → Agree g (l.foldl (doneS ss) s) ((l.flatMap ss).foldl decS t)
 | [], _, _, h, _, _ => h
 | a :: l, s, t, h, hg, hs => by
  rw [List.flatMap_cons, List.foldl_append, List.foldl_cons]
  refine Agree.dones l (Agree.decs (ss a) ⟨h.1, fun j hj => ?_⟩ (hs a (List.mem_cons_self ..))) (fun b hb => hg b (List.mem_cons_of_mem _ hb)) fun b hb => hs b (List.mem_cons_of_mem _ hb)
  show npSet s.1 a (-2) j = t.1 j
  unfold npSet
  rw [if_neg (fun e : j = a => hj (e ▸ hg a (List.mem_cons_self ..)))]
  exact h.2 j hj
theorem decs_in : ∀ (l : List Int) (s : (Int → Int) × List Int) (a : Int), a ∉ l → (l.foldl decS s).1 a = s.1 a
 | [], _, _, _ => rfl
 | b :: l, s, a, h => by
  rw [List.foldl_cons, decs_in l _ a (fun z => h (List.mem_cons_of_mem _ z))]
  show npSet s.1 b _ a = _
  unfold npSet
  rw [if_neg (fun e : a = b => h (by rw [e]; exact List.mem_cons_self ..))]
theorem dones_in : ∀ (l : List Int) (s : (Int → Int) × List Int) (a : Int), a ∉ l → (∀ b ∈ l, a ∉ ss b) → (l.foldl (doneS ss) s).1 a = s.1 a
 | [], _, _, _, _ => rfl
 | b :: l, s, a, h, h' => by
  rw [List.foldl_cons, dones_in l _ a (fun z => h (List.mem_cons_of_mem _ z)) fun c hc => h' c (List.mem_cons_of_mem _ hc)]
  unfold doneS
  rw [decs_in _ _ _ (h' b (List.mem_cons_self ..))]
  show npSet s.1 b _ a = _
  unfold npSet
  rw [if_neg (fun e : a = b => h (by rw [e]; exact List.mem_cons_self ..))]
theorem decs_np : ∀ (l : List Int) (s : (Int → Int) × List Int) (j : Int), (l.foldl decS s).1 j = s.1 j - (l.count j : Nat)
 | [], s, j => by simp
 | b :: l, s, j => by
  rw [List.foldl_cons, decs_np l _ j, List.count_cons]
  show npSet s.1 b _ j - _ = _
  unfold npSet
  by_cases e : j = b
  ·subst e
   simp
   omega
  ·rw [if_neg e]
   have : (b == j) = false := by simp; exact fun z => e z.symm
   rw [this]
   simp
theorem decs_ready : ∀ (l : List Int) (s : (Int → Int) × List Int), (∀ j ∈ l, (l.count j : Int) ≤ s.1 j) → ∃ z : List Int, (l.foldl decS s).2 = s.2 ++ z ∧ z.Nodup ∧ ∀ j, j ∈ z ↔ j ∈ l ∧ s.1 j = (l.count j : Nat)
 | [], s, _ => ⟨[], by simp, by simp, by simp⟩
 | b :: l, s, h => by
  have hcb : ((b :: l).count b : Int) ≤ s.1 b := h b (List.mem_cons_self ..)
  rw [List.count_cons_self] at hcb
  obtain ⟨z, h1, h2, h3⟩ := decs_ready l (decS s b) fun j hj => by
   show (l.count j : Int) ≤ npSet s.1 b (s.1 b - 1) j
   unfold npSet
   by_cases e : j = b
   ·subst e
    rw [if_pos rfl]
    omega
   ·rw [if_neg e]
    have := h j (List.mem_cons_of_mem _ hj)
    rw [List.count_cons_of_ne (Ne.symm e)] at this
    exact this
  have hnp : ∀ j, j ≠ b → (decS s b).1 j = s.1 j := fun j e => if_neg e
  have hnb : (decS s b).1 b = s.1 b - 1 := if_pos rfl
  by_cases c : s.1 b - 1 = 0
  ·have hnl : b ∉ l := fun z => by
    have := List.count_pos_iff.mpr z
    omega
   refine ⟨b :: z, ?_, ?_, fun j => ?_⟩
   ·rw [List.foldl_cons, h1, decS_z c]
    simp
   ·rw [List.nodup_cons]
    exact ⟨fun z => hnl ((h3 b).mp z).1, h2⟩
   ·rw [List.mem_cons, List.mem_cons, h3]
    by_cases e : j = b
    ·subst e
     rw [List.count_cons_self, List.count_eq_zero_of_not_mem hnl]
     simp
     omega
    ·rw [hnp j e, List.count_cons_of_ne (Ne.symm e)]
     simp [e]
  ·refine ⟨z, ?_, h2, fun j => ?_⟩
   ·rw [List.foldl_cons, h1, decS_n c]
   ·rw [List.mem_cons, h3]
    by_cases e : j = b
    ·subst e
     rw [hnb, List.count_cons_self]
     constructor
     ·rintro ⟨x, y⟩
      exact ⟨.inl rfl, by omega⟩
     ·rintro ⟨_, y⟩
      refine ⟨?_, by omega⟩
      rw [← List.count_pos_iff]
      omega
    ·rw [hnp j e, List.count_cons_of_ne (Ne.symm e)]
     simp [e]
end
theorem count_flat {ss nd : Int → List Int} {j : Int} : ∀ (g : List Int), g.Nodup → (∀ b ∈ g, (ss b).count j = (nd j).count b) → (g.flatMap ss).count j = (nd j).countP fun b => decide (b ∈ g)
 | [], _, _ => by simp
 | b :: g, nd', h => by
  rw [List.nodup_cons] at nd'
  rw [List.flatMap_cons, List.count_append, count_flat g nd'.2 fun c hc => h c (List.mem_cons_of_mem _ hc), h b (List.mem_cons_self ..)]
  have : ∀ l : List Int, l.count b + l.countP (fun c => decide (c ∈ g)) = l.countP fun c => decide (c ∈ b :: g) := by
   intro l
   induction l with
   | nil => rfl
   | cons x l ih =>
    rw [List.count_cons, List.countP_cons, List.countP_cons, ← ih]
    by_cases e : x = b
    ·subst e
     simp [nd'.1]
     exact Nat.add_right_comm _ _ _
    ·by_cases e2 : x ∈ g <;> simp [e, e2] <;> rfl
  exact this _
theorem countP_split (l lf fr : List Int) (hs : ∀ a ∈ fr, a ∈ lf) : l.countP (fun b => decide (b ∈ lf)) = l.countP (fun b => decide (b ∈ fr)) + l.countP fun b => decide (b ∈ lf ∧ b ∉ fr) := by
 induction l with
 | nil => rfl
 | cons x l ih =>
  rw [List.countP_cons, List.countP_cons, List.countP_cons, ih]
  by_cases e : x ∈ fr
  ·have := hs x e
   simp [e, this]; exact Nat.add_right_comm _ _ _
  ·by_cases e2 : x ∈ lf <;> simp [e, e2] <;> rfl
theorem sorted_eq {l m : List Int} (h1 : l.Perm m) (h2 : l.Pairwise (· ≤ ·)) (h3 : m.Pairwise (· ≤ ·)) : l = m := h1.eq_of_pairwise (fun a b _ _ x y => Int.le_antisymm x y) h2 h3
end
section
noncomputable def dom : List Int := [0, 1, 2, 3, 4]
theorem mem_dom {a : Int} : a ∈ dom ↔ 0 ≤ a ∧ a < 5 := by
 constructor
 ·intro h
  exact (by decide : ∀ a ∈ dom, 0 ≤ a ∧ a < 5) a h
 ·intro h
  obtain ⟨n, rfl⟩ := Int.eq_ofNat_of_zero_le h.1
  exact List.mem_map_of_mem (f := fun n : Nat => (n : Int)) (List.mem_range.mpr (Int.ofNat_lt.mp h.2))
structure RI (nd : Int → List Int) (lf : List Int) (np : Int → Int) (xs : List Int) : Prop where
 srt : lf.Pairwise (· < ·)
 sub : ∀ a ∈ lf, a ∈ dom
 cl : ∀ j ∈ dom, j ∉ lf → ∀ b ∈ nd j, b ∉ lf
 hnp : ∀ j ∈ lf, np j = ((nd j).countP fun b => decide (b ∈ lf) : Nat)
 xn : xs.Nodup
 xm : ∀ j, j ∈ xs ↔ j ∈ freeOf nd lf
section
variable {nd ss : Int → List Int} {lf xs : List Int} {np : Int → Int}
theorem lt_nodup {l : List Int} (h : l.Pairwise (· < ·)) : l.Nodup := h.imp fun h e => Int.ne_of_lt h e
theorem RI.sorts (g : RI nd lf np xs) : sortI xs = freeOf nd lf := by
 obtain ⟨h1, h2⟩ := sortI_spec xs
 have hf : (freeOf nd lf).Pairwise (· < ·) := g.srt.sublist List.filter_sublist
 refine sorted_eq (h1.trans ((List.perm_ext_iff_of_nodup g.xn (lt_nodup hf)).mpr g.xm)) h2 (hf.imp fun h => Int.le_of_lt h)
theorem RI.len (g : RI nd lf np xs) : xs.length = (freeOf nd lf).length :=
 ((List.perm_ext_iff_of_nodup g.xn (lt_nodup (g.srt.sublist List.filter_sublist))).mpr g.xm).length_eq
theorem RI.empty (g : RI nd lf np xs) : xs = [] ↔ freeOf nd lf = [] := by
 rw [← List.length_eq_zero_iff, g.len, List.length_eq_zero_iff]
variable (hc : ∀ b ∈ dom, ∀ j ∈ dom, (ss b).count j = (nd j).count b) (hd : ∀ b j, j ∈ ss b → j ∈ dom)
include hc hd
theorem RI.succ (g : RI nd lf np xs) {b j : Int} (hb : b ∈ xs) (hj : j ∈ ss b) : b ∈ nd j ∧ j ∈ lf ∧ j ∉ xs := by
 have hbl := (mem_free.mp ((g.xm b).mp hb)).1
 have h1 : b ∈ nd j := by
  have := List.count_pos_iff.mpr hj
  rw [hc b (g.sub b hbl) j (hd b j hj)] at this
  exact List.count_pos_iff.mp this
 refine ⟨h1, ?_, fun z => (mem_free.mp ((g.xm j).mp z)).2 b hbl h1⟩
 by_cases c : j ∈ lf
 ·exact c
 ·exact absurd hbl (g.cl j (hd b j hj) c b h1)
theorem RI.outs (g : RI nd lf np xs) (pre : List Int) (a : Int) (post : List Int) (e : xs = pre ++ a :: post) : (pre.foldl (doneS ss) (npOut np xs, [])).1 a = -1 := by
 have nx := g.xn
 rw [e, List.nodup_append] at nx
 rw [dones_in pre _ a (fun z => nx.2.2 a z a (List.mem_cons_self ..) rfl) fun b hb z => (g.succ hc hd (show b ∈ xs by rw [e]; simp [hb]) z).2.2 (by rw [e]; simp)]
 show npOut np xs a = -1
 unfold npOut
 rw [if_pos (by rw [e]; simp)]
theorem RI.cnt (g : RI nd lf np xs) {j : Int} (hj : j ∈ dom) : (xs.flatMap ss).count j = (nd j).countP fun b => decide (b ∈ xs) :=
 count_flat xs g.xn fun b hb => hc b (g.sub b (mem_free.mp ((g.xm b).mp hb)).1) j hj
theorem RI.round (g : RI nd lf np xs) : RI nd (restOf nd lf) (xs.foldl (doneS ss) (npOut np xs, [])).1 (xs.foldl (doneS ss) (npOut np xs, [])).2 := by
 have hx : ∀ a ∈ xs, a ∈ lf := fun a ha => (mem_free.mp ((g.xm a).mp ha)).1
 have ag : Agree xs (xs.foldl (doneS ss) (npOut np xs, [])) ((xs.flatMap ss).foldl decS (npOut np xs, [])) :=
  Agree.dones xs ⟨rfl, fun _ _ => rfl⟩ (fun a h => h) fun a ha b hb => (g.succ hc hd ha hb).2.2
 have hL : ∀ j, j ∈ xs.flatMap ss → j ∈ lf ∧ j ∉ xs := fun j hj => by
  obtain ⟨b, hb, h⟩ := List.mem_flatMap.mp hj
  exact (g.succ hc hd hb h).2
 have hnpo : ∀ j, j ∉ xs → npOut np xs j = np j := fun j hj => if_neg hj
 have hsp : ∀ j, (nd j).countP (fun b => decide (b ∈ lf)) = (nd j).countP (fun b => decide (b ∈ xs)) + (nd j).countP fun b => decide (b ∈ restOf nd lf) := fun j => by
  rw [countP_split _ lf xs hx]
  congr 1
  refine congrArg (fun f => (nd j).countP f) (funext fun b => ?_)
  refine decide_eq_decide.mpr ?_
  rw [mem_rest, g.xm]
 obtain ⟨z, z1, z2, z3⟩ := decs_ready (xs.flatMap ss) (npOut np xs, []) fun j hj => by
  obtain ⟨h1, h2⟩ := hL j hj
  show _ ≤ npOut np xs j
  rw [hnpo j h2, g.hnp j h1, g.cnt hc hd (g.sub j h1), hsp]
  exact Int.ofNat_le.mpr (Nat.le_add_right _ _)
 rw [List.nil_append] at z1
 have hr : (xs.foldl (doneS ss) (npOut np xs, [])).2 = z := ag.1.trans z1
 have hn : ∀ j ∈ restOf nd lf, (xs.foldl (doneS ss) (npOut np xs, [])).1 j = ((nd j).countP fun b => decide (b ∈ restOf nd lf) : Nat) := fun j hj => by
  have hj' := mem_rest.mp hj
  have hjx : j ∉ xs := fun z => hj'.2 ((g.xm j).mp z)
  rw [ag.2 j hjx, decs_np, g.cnt hc hd (g.sub j hj'.1)]
  show npOut np xs j - _ = _
  rw [hnpo j hjx, g.hnp j hj'.1, hsp, Int.natCast_add, Int.add_comm, Int.add_sub_cancel]
 refine ⟨g.srt.sublist List.filter_sublist, fun a ha => g.sub a (mem_rest.mp ha).1, fun j hj hjl b hb z => ?_, hn, by rw [hr]; exact z2, fun j => ?_⟩
 ·obtain ⟨hbl, hbf⟩ := mem_rest.mp z
  by_cases c : j ∈ lf
  ·have hjf : j ∈ freeOf nd lf := by
    by_cases c2 : j ∈ freeOf nd lf
    ·exact c2
    ·exact absurd (mem_rest.mpr ⟨c, c2⟩) hjl
   exact (mem_free.mp hjf).2 b hbl hb
  ·exact g.cl j hj c b hb hbl
 ·rw [hr, z3]
  constructor
  ·rintro ⟨hj, e⟩
   obtain ⟨h1, h2⟩ := hL j hj
   have h3 : j ∈ restOf nd lf := mem_rest.mpr ⟨h1, fun z => h2 ((g.xm j).mpr z)⟩
   refine mem_free.mpr ⟨h3, fun b hb hbj => ?_⟩
   have e : npOut np xs j = _ := e
   rw [hnpo j h2, g.hnp j h1, g.cnt hc hd (g.sub j h1), hsp] at e
   have e0 : (nd j).countP (fun b => decide (b ∈ restOf nd lf)) = 0 := Nat.add_left_cancel (Int.ofNat_inj.mp e)
   exact List.countP_eq_zero.mp e0 b hbj (decide_eq_true hb)
  ·intro hj
   obtain ⟨h1, h2⟩ := mem_free.mp hj
   obtain ⟨h3, h4⟩ := mem_rest.mp h1
   have h5 : j ∉ xs := fun z => h4 ((g.xm j).mp z)
   have e0 : (nd j).countP (fun b => decide (b ∈ restOf nd lf)) = 0 := List.countP_eq_zero.mpr fun b hb z => h2 b (of_decide_eq_true z) hb
   have e1 : npOut np xs j = ((xs.flatMap ss).count j : Nat) := by
    rw [hnpo j h5, g.hnp j h3, g.cnt hc hd (g.sub j h3), hsp, e0]
    rfl
   refine ⟨?_, e1⟩
   have : ¬ ∀ b ∈ lf, b ∉ nd j := fun z => h4 (mem_free.mpr ⟨h3, z⟩)
   have ⟨b, hb, hbn⟩ : ∃ b, b ∈ lf ∧ b ∈ nd j := by
    by_cases c : ∃ b, b ∈ lf ∧ b ∈ nd j
    ·exact c
    ·exact absurd (fun b hb hbn => c ⟨b, hb, hbn⟩) this
   have hbx : b ∈ xs := by
    rw [g.xm]
    by_cases c : b ∈ freeOf nd lf
    ·exact c
    ·exact absurd hbn (h2 b (mem_rest.mpr ⟨hb, c⟩))
   refine List.mem_flatMap.mpr ⟨b, hbx, ?_⟩
   rw [← List.count_pos_iff, hc b (g.sub b hb) j (g.sub j h3)]
   exact List.count_pos_iff.mpr hbn
end
theorem addF_count (a j : Int) : ∀ (vs : List Int) (ss : Int → List Int) (b : Int), ((vs.foldl (fun ss b => ssAdd ss b a) ss) b).count j = (ss b).count j + if j = a then vs.count b else 0
 | [], ss, b => by simp
 | v :: vs, ss, b => by
  rw [List.foldl_cons, addF_count a j vs (ssAdd ss v a) b, List.count_cons]
  unfold ssAdd
  by_cases e : b = v
  ·subst e
   by_cases e2 : j = a
   ·subst e2
    simp [List.count_append]; exact Nat.add_right_comm _ _ _
   ·have : (a == j) = false := by simp; exact fun z => e2 z.symm
    simp [List.count_append, e2, List.count_cons, this]
  ·have : (v == b) = false := by simp; exact fun z => e z.symm
   simp [e, this]
noncomputable def PlI (nd : Int → List Int) (lf : List Int) (acc : List (List Int)) : Prop :=
 (∀ a ∈ lf, a ∈ dom) ∧ acc.length + lf.length ≤ 5 ∧ plainR nd 6 dom = (acc ++ (plainR nd (lf.length + 1) lf).1, (plainR nd (lf.length + 1) lf).2)
section
variable {nd : Int → List Int} {lf : List Int} {acc : List (List Int)}
theorem PlI.start : PlI nd dom [] := ⟨fun _ h => h, by decide, rfl⟩
theorem PlI.alen (h : PlI nd lf acc) : acc.length ≤ 5 := Nat.le_trans (Nat.le_add_right _ _) h.2.1
theorem PlI.llen (h : PlI nd lf acc) : lf.length ≤ 5 := Nat.le_trans (Nat.le_add_left _ _) h.2.1
theorem PlI.turn (h : PlI nd lf acc) (c : freeOf nd lf ≠ []) : PlI nd (restOf nd lf) (acc ++ [freeOf nd lf]) := by
 have hlt := rest_lt c
 refine ⟨fun a ha => h.1 a (mem_rest.mp ha).1, by rw [List.length_append, List.length_singleton]; exact Nat.le_trans (Nat.le_of_eq (Nat.succ_add_eq_add_succ _ _)) (Nat.le_trans (Nat.add_le_add_left hlt _) h.2.1), ?_⟩
 rw [h.2.2]
 have e1 : plainR nd (lf.length + 1) lf = (freeOf nd lf :: (plainR nd lf.length (restOf nd lf)).1, (plainR nd lf.length (restOf nd lf)).2) := if_neg c
 rw [e1, plain_more lf.length ((restOf nd lf).length + 1) _ hlt (Nat.lt_succ_self _), List.append_assoc]
 rfl
theorem PlI.fin (h : PlI nd lf acc) (c : freeOf nd lf = []) : plainR nd 6 dom = (acc, lf) := by
 rw [h.2.2, show plainR nd (lf.length + 1) lf = ([], lf) from if_pos c, List.append_nil]
end
end
section
section
variable {K : Kx} {ρ : Str → Option V} {σ σ' : List O} {E : X → St → Prop} {Q : V → St → Prop} {x y z : V} {i d n r : Nat} {a po f : Int} {es : List (Int × V)} {np : Int → Int} {ss : Int → List Int} {xs : List Int}
noncomputable def needV (nd : Int → List Int) : V := .lst (dom.map fun j => .lst ((nd j).map .int))
noncomputable def roundsV (l : List (List Int)) : V := .lst (l.map fun r => .lst (r.map .int))
theorem dom_at : ∀ j ∈ dom, dom[j.toNat]? = some j := by decide
theorem need_at {nd : Int → List Int} {j : Int} (h : j ∈ dom) : (dom.map fun j => V.lst ((nd j).map .int))[j.toNat]? = some (.lst ((nd j).map .int)) := by
 rw [List.getElem?_map, dom_at j h]; rfl
theorem Rn.push {o : O} (g : Rn σ i d n r es np ss xs po f) : Rn (σ ++ [o]) i d n r es np ss xs po f :=
 ⟨get_app_old g.hi, get_app_old g.hd, get_app_old g.hm, get_app_old g.hr, fun a x h => by
  obtain ⟨p, e, h1, h2, h3⟩ := g.hI a x h
  exact ⟨p, e, get_app_old h1, h2.imp get_app_old get_app_old, h3⟩, g.hs⟩
theorem Rn.setL {R : Nat} {ys zs : List V} (g : Rn σ i d n r es np ss xs po f) (hR : σ[R]? = some (.list ys)) (h1 : R ≠ r) (h2 : ∀ a p, findG es a = some (.obj p) → R ≠ p + 1) : Rn (σ.set R (.list zs)) i d n r es np ss xs po f :=
 ⟨get_set_ne (ne_get hR g.hi (by simp)) g.hi, get_set_ne (ne_get hR g.hd (by simp)) g.hd, get_set_ne (ne_get hR g.hm (by simp)) g.hm, get_set_ne h1 g.hr, fun a x h => by
  obtain ⟨p, e, k1, k2, k3⟩ := g.hI a x h
  subst e
  exact ⟨p, rfl, get_set_ne (ne_get hR k1 (by simp)) k1, k2.imp (get_set_ne (h2 a p h)) (get_set_ne (h2 a p h)), k3⟩, g.hs⟩
theorem s_mid {K : Kx} {s : Stmt} {st : St} {QF : Fl → St → Prop} {A : St → Prop} {E : X → St → Prop} (Mid : St → Prop) (h1 : SX K s st (fun f st => seqK (Mid st) QF f st) E) (h2 : ∀ st, Mid st → A st) : SX K s st (fun f st => seqK (A st) QF f st) E :=
 Run.imp h1 fun f st q => by cases f <;> first | exact h2 _ q | exact q
theorem ri_start {nd : Int → List Int} {es : List (Int × V)} {np : Int → Int} (hnd : ∀ j ∈ dom, ∀ b ∈ nd j, b ∈ dom) (g5 : ∀ j ∈ dom, np j = (nd j).length ∧ (findG es j).isSome = true) (hk : (es.map (·.1)).Nodup ∧ ∀ a ∈ es.map (·.1), 0 ≤ a ∧ a < 5) : RI nd dom np (readyOf es np) := by
 have hmem : ∀ j, j ∈ readyOf es np ↔ j ∈ es.map (·.1) ∧ np j = 0 := fun j => by
  unfold readyOf
  rw [List.mem_map, List.mem_map]
  constructor
  ·rintro ⟨e, he, rfl⟩
   obtain ⟨h1, h2⟩ := List.mem_filter.mp he
   exact ⟨⟨e, h1, rfl⟩, of_decide_eq_true h2⟩
  ·rintro ⟨⟨e, he, rfl⟩, h2⟩
   exact ⟨e, List.mem_filter.mpr ⟨he, decide_eq_true h2⟩, rfl⟩
 have hkey : ∀ j, j ∈ es.map (·.1) ↔ j ∈ dom := fun j => by
  constructor
  ·exact fun hj => mem_dom.mpr (hk.2 j hj)
  ·intro hj
   have := (g5 j hj).2
   rw [findG_any, List.any_eq_true] at this
   obtain ⟨e, he, z⟩ := this
   rw [decide_eq_true_eq] at z
   exact z ▸ List.mem_map_of_mem he
 refine ⟨by decide, fun a h => h, fun j hj hn => absurd hj hn, fun j hj => ?_, ?_, fun j => ?_⟩
 ·rw [(g5 j hj).1, List.countP_eq_length.mpr fun b hb => decide_eq_true (hnd j hj b hb)]
 ·exact hk.1.sublist (List.filter_sublist.map _)
 ·rw [hmem, hkey, mem_free]
  constructor
  ·rintro ⟨h1, h2⟩
   refine ⟨h1, fun b _ hb => ?_⟩
   rw [(g5 j h1).1] at h2
   have := List.length_pos_of_mem hb
   omega
  ·rintro ⟨h1, h2⟩
   refine ⟨h1, ?_⟩
   rw [(g5 j h1).1, List.eq_nil_iff_forall_not_mem.mpr fun b hb => h2 b (hnd j h1 b hb) hb]
   rfl
structure Ad (nd : Int → List Int) (es : List (Int × V)) (np : Int → Int) (ss : Int → List Int) (done : List Int) : Prop where
 a5 : ∀ j ∈ done, np j = (nd j).length ∧ (findG es j).isSome = true
 a6 : ∀ j, j ∉ done → np j = 0
 a7 : ∀ b j, (ss b).count j = if j ∈ done then (nd j).count b else 0
 a8 : ∀ b, (ss b).length ≤ 15 * done.length
section
variable {nd : Int → List Int} {done : List Int} {es' : List (Int × V)} {j : Int} {ss : Int → List Int}
theorem Ad.nil : Ad nd [] (fun _ => 0) (fun _ => []) [] :=
 ⟨fun j hj => (by cases hj), fun _ _ => rfl, fun b j => (if_neg (nofun : ¬ j ∈ ([] : List Int))).symm, fun _ => Nat.le_refl _⟩
theorem Ad.snoc (g : Ad nd es np ss done) (hj : j ∉ done) (hl : (nd j).length ≤ 15) (h1 : (findG es' j).isSome = true) (h2 : More es es') : Ad nd es' (npSet np j (np j + (nd j).length)) ((nd j).foldl (fun ss b => ssAdd ss b j) ss) (done ++ [j]) := by
 refine ⟨fun a ha => ?_, fun a ha => ?_, fun b a => ?_, fun b => ?_⟩
 ·unfold npSet
  rcases List.mem_append.mp ha with ha | ha
  ·exact ⟨(if_neg fun e : a = j => hj (e ▸ ha)).trans (g.a5 a ha).1, h2 a (g.a5 a ha).2⟩
  ·rw [List.mem_singleton.mp ha]
   exact ⟨by rw [if_pos rfl, g.a6 j hj, Int.zero_add], h1⟩
 ·rw [List.mem_append, not_or, List.mem_singleton] at ha
  exact (if_neg ha.2).trans (g.a6 a ha.1)
 ·rw [addF_count, g.a7]
  by_cases e : a = j
  ·subst e
   simp [hj]
  ·simp [e]
 ·have h1 := addL_len j (nd j) ss b
  rw [List.length_append]
  exact Nat.le_trans h1 (Nat.add_le_add (g.a8 b) hl)
variable (g : Ad nd es np ss dom)
include g
theorem Ad.cnt : ∀ b ∈ dom, ∀ j ∈ dom, (ss b).count j = (nd j).count b := fun b _ j hj => by rw [g.a7, if_pos hj]
theorem Ad.sd : ∀ b j, j ∈ ss b → j ∈ dom := fun b j hj => by
 have := List.count_pos_iff.mpr hj
 rw [g.a7] at this
 by_cases c : j ∈ dom
 ·exact c
 ·rw [if_neg c] at this; exact absurd this (Nat.lt_irrefl _)
theorem Ad.hund (a : Int) : (ss a).length ≤ 100 := Nat.le_trans (g.a8 a) (by decide)
theorem Ad.cl (a b : Int) (hb : b ∈ ss a) : (findG es b).isSome = true := (g.a5 b (g.sd a b hb)).2
theorem Ad.mem {b : Int} (hj : j ∈ dom) : b ∈ nd j ↔ j ∈ ss b := by
 rw [← List.count_pos_iff, ← List.count_pos_iff, g.a7, if_pos hj]
variable (hnd : ∀ j ∈ dom, ∀ b ∈ nd j, b ∈ dom)
include hnd
theorem Ad.ring0 (hp : ∃ φ : Int → Int, ∀ a b, (findG es a).isSome = true → b ∈ ss a → φ a < φ b) : decide ((plainR nd 6 dom).2 ≠ []) = false :=
 e1 hp fun φ hφ => decide_eq_false fun z => z (pot_plain (by decide) fun j hj b hb => hφ b j (g.a5 b (hnd j hj b hb)).2 ((g.mem hj).mp hb))
theorem Ad.ring1 (hp : ∀ φ : Int → Int, (∀ a b, b ∈ ss a → φ a < φ b) → False) : decide ((plainR nd 6 dom).2 ≠ []) = true :=
 decide_eq_true fun z => e1 (plain_pot 6 dom z) fun φ hφ => hp (fun x => φ x) fun a b hb => have hd := g.sd a b hb
  Int.ofNat_lt.mpr (hφ b hd a ((g.mem hd).mpr hb) (hnd b hd a ((g.mem hd).mpr hb)))
end
theorem sorter_new (h : Opened K.c) (hn : 1 < K.n) (q : ∀ (σ' : List O) (i d n : Nat), Gr σ' i d n [] (fun _ => 0) (fun _ => []) → Q (.obj i) ⟨ρ, σ'⟩) : CX K (.ref 353) [] [] ⟨ρ, σ⟩ Q E :=
 ts_new h hn fun σ1 h1 h2 h3 _ => q _ _ _ _ ⟨h1, h2, h3, fun a x e => (by cases e), fun a e => ⟨rfl, rfl⟩, ⟨List.nodup_nil, fun a e => (by cases e)⟩⟩
structure AdS (nd : Int → List Int) (i d n : Nat) (done : List Int) (ρ : Str → Option V) (σ : List O) : Prop where
 ex : ∃ es np ss, Gr σ i d n es np ss ∧ Ad nd es np ss done
 r1 : ρ "sorter" = some (.obj i)
 r2 : ρ "needs" = some (needV nd)
theorem AdS.elim {P : Prop} {nd : Int → List Int} {done : List Int} (h : AdS nd i d n done ρ σ) (k : ∀ es np ss, Gr σ i d n es np ss → Ad nd es np ss done → ρ "sorter" = some (.obj i) → ρ "needs" = some (needV nd) → P) : P :=
 e3 h.ex fun es np ss e => k es np ss e.1 e.2 h.r1 h.r2
structure MdS (nd : Int → List Int) (es : List (Int × V)) (np : Int → Int) (ss : Int → List Int) (i d n r : Nat) (rg : Bool) (ρ : Str → Option V) (σ : List O) : Prop where
 e : decide ((plainR nd 6 dom).2 ≠ []) = rg
 r1 : ρ "ring" = some (.bool rg)
 r2 : ρ "sorter" = some (.obj i)
 g : Rn σ i d n r es np ss (readyOf es np) 0 0
structure RdS (nd : Int → List Int) (es : List (Int × V)) (ss : Int → List Int) (i d n r R : Nat) (rg : Bool) (m : Nat) (ρ : Str → Option V) (σ : List O) : Prop where
 ex : ∃ lf np xs acc, (m = lf.length ∧ PlI nd lf acc) ∧ RI nd lf np xs ∧ (∃ p : Int, Rn σ i d n r es np ss xs p p) ∧ σ[R]? = some (.list (acc.map fun r => .lst (r.map .int)))
 r1 : ρ "ring" = some (.bool rg)
 r2 : ρ "sorter" = some (.obj i)
 r3 : ρ "rounds" = some (.obj R)
section
variable {nd ss : Int → List Int} {rg : Bool} {R m : Nat} {P : Prop} {lf : List Int} {acc : List (List Int)}
theorem RdS.elim (h : RdS nd es ss i d n r R rg m ρ σ) (k : ∀ lf np xs acc p, m = lf.length → PlI nd lf acc → RI nd lf np xs → Rn σ i d n r es np ss xs p p → σ[R]? = some (.list (acc.map fun r => .lst (r.map .int))) → ρ "ring" = some (.bool rg) → ρ "sorter" = some (.obj i) → ρ "rounds" = some (.obj R) → P) : P :=
 e4 h.ex fun lf np xs acc e => a4 e fun e1 e2 e3 e4 => e3.elim fun p e3 => k lf np xs acc p e1.1 e1.2 e2 e3 e4 h.r1 h.r2 h.r3
theorem MdS.elim (h : MdS nd es np ss i d n r rg ρ σ) (k : decide ((plainR nd 6 dom).2 ≠ []) = rg → ρ "ring" = some (.bool rg) → ρ "sorter" = some (.obj i) → Rn σ i d n r es np ss (readyOf es np) 0 0 → P) : P := k h.e h.r1 h.r2 h.g
theorem RI.xl (g : RI nd lf np xs) : xs.length ≤ 5 := five_len g.xn fun a ha => mem_dom.mp (g.sub a (mem_free.mp ((g.xm a).mp ha)).1)
theorem RI.kx (g : RI nd lf np xs) (g5 : ∀ j ∈ dom, (findG es j).isSome = true) : ∀ a ∈ xs, (findG es a).isSome = true := fun a ha => g5 a (g.sub a (mem_free.mp ((g.xm a).mp ha)).1)
theorem int_lim {k : Nat} {l : List Int} (h : l.length ≤ k) (hk : k ≤ lim) : (l.map V.int).length ≤ lim := by rw [List.length_map]; exact Nat.le_trans h hk
theorem acc_lim (h : PlI nd lf acc) : (acc.map fun r => V.lst (r.map .int)).length < lim := by rw [List.length_map]; exact Nat.lt_of_le_of_lt h.alen (by decide)
theorem acc_snoc {l : List Int} (h : σ[R]? = some (.list ((acc.map fun r => V.lst (r.map .int)) ++ [.lst (l.map .int)]))) : σ[R]? = some (.list ((acc ++ [l]).map fun r => .lst (r.map .int))) := by rw [h, List.map_append]; rfl
theorem rounds_fin {B : V → Prop} (he : decide ((plainR nd 6 dom).2 ≠ []) = rg) (hp : PlI nd lf acc) (c : freeOf nd lf = []) (q : B (.tup [roundsV (plainR nd 6 dom).1, .bool (decide ((plainR nd 6 dom).2 ≠ []))])) : B (.tup [.lst (acc.map fun r => .lst (r.map .int)), .bool rg]) := by
 rw [he, hp.fin c] at q
 exact q
theorem apart (gR : Rn σ i d n r es np ss xs a po) : σ.length ≠ r ∧ ∀ a p, findG es a = some (.obj p) → σ.length ≠ p + 1 :=
 ⟨(Nat.ne_of_lt (lt_get gR.hr)).symm, fun a p hp => e1 (gR.hI a _ hp) fun p' e => by
  cases e.1
  exact e.2.2.1.elim (fun hl => (Nat.ne_of_lt (lt_get hl)).symm) fun hl => (Nat.ne_of_lt (lt_get hl)).symm⟩
end
theorem notin_done {done rest : List Int} {j : Int} (e : dom = done ++ j :: rest) : j ∉ done := by
 have nn : dom.Nodup := by decide
 rw [e, List.nodup_append] at nn
 exact fun z => nn.2.2 j z j (List.mem_cons_self ..) rfl
theorem ad_small {nd : Int → List Int} {ss : Int → List Int} {done rest : List Int} {j : Int} (g : Ad nd es np ss done) (hl : (nd j).length ≤ 15) (e : dom = done ++ j :: rest) (b : Int) : (ss b).length + (nd j).length ≤ 100 := by
 have := congrArg List.length e
 rw [List.length_append] at this
 exact Nat.le_trans (Nat.add_le_add (g.a8 b) hl) (Nat.le_trans (Nat.add_le_add_right (Nat.mul_le_mul_left 15 (Nat.le_trans (Nat.le_add_right _ _) (Nat.le_of_eq this.symm))) 15) (by decide))
theorem done_small {xs : List Int} (h : xs.length ≤ 5) : ([] : List Int).length + 100 * xs.length ≤ 5000 := by
 exact Nat.le_trans (Nat.le_of_eq (Nat.zero_add _)) (Nat.le_trans (Nat.mul_le_mul_left 100 h) (by decide))
theorem k_rounds {nd : Int → List Int} (h : Opened K.c) (hc : K.calm = true) (hn : 5 < K.n) (hnd : ∀ j ∈ dom, ∀ b ∈ nd j, b ∈ dom) (hl : ∀ j ∈ dom, (nd j).length ≤ 15)
  (q : ∀ σ' : List O, Q (.tup [roundsV (plainR nd 6 dom).1, .bool (decide ((plainR nd 6 dom).2 ≠ []))]) ⟨ρ, σ'⟩) : CX K (.ref 384) [needV nd] [] ⟨ρ, σ⟩ Q E := by
 refine g_def (Nat.lt_of_le_of_lt (Nat.zero_le _) hn) (d_384 h) (bd_384 h) rfl fun F' Q' E' hF hQ _ _ => ?_
 have hn3 : 3 < (K.body F' s__law_rounds).n := nS hn rfl
 have hn1 : 1 < (K.body F' s__law_rounds).n := Nat.lt_trans (by decide) hn3
 have hn0 : 0 < (K.body F' s__law_rounds).n := Nat.lt_trans (by decide) hn3
 refine ss_id ?_
 repeat walk_at "l"
 refine sorter_new h hn1 fun σ1 i d n hg0 => ?_
 repeat walk_at "l"
 refine y_for (fun _ _ => rfl) ?_
 repeat walk_at "l"
 refine b_range (by omega) ?_
 refine o_items (f := V.int) hc dom rfl (fun done ρ σ => AdS nd i d n done ρ σ) (.rng (by decide)) ⟨⟨_, _, _, hg0, .nil⟩, ?_, ?_⟩ (fun I Q2 E2 hI hQ2 x0 done j rest ρ3 σ3 e hP => ?_) (fun ρ3 σ3 hP => ?_)
 ·walk_at "mr"
 ·walk_at "mr"
 ·refine hP.elim fun es np ss gG gA g9 g10 => ?_
  have hjd : j ∈ dom := e ▸ List.mem_append_right _ (List.mem_cons_self ..)
  repeat walk_at "l"
  refine x_callstar (C := 353) (f := 303) (fun _ _ => rfl) (fun _ => rfl) ?_
  repeat walk_at "l"
  refine ⟨i, d, _, rfl, gG.hi, gG.hd, rfl, me_303 h, bn_303 h, fun P fv first hP hx => run_callWith (bs := [false, true]) hP (fun _ => rfl) rfl rfl ?_⟩
  repeat walk_at "l"
  refine a_star ?_
  repeat walk_at "l"
  refine g_lst (by rw [List.length_map]; decide) (mem_dom.mp hjd).1 (need_at hjd) ?_
  refine ⟨_, .lst (int_lim (hl j hjd) (by decide)), ?_⟩
  repeat walk_at "l"
  refine hx _ _ _ _ ?_
  rw [List.append_nil]
  have hjn : j ∉ done := notin_done e
  refine k_add h hc hn3 gG (mem_dom.mp hjd) (fun b hb => mem_dom.mp (hnd j hjd b hb)) (ad_small gA (hl j hjd) e) fun σ4 es4 gG4 h41 h42 => ?_
  repeat walk_at "l"
  refine hI _ _ _ ⟨⟨_, _, _, gG4, gA.snoc hjn (hl j hjd) h41 h42⟩, ?_, ?_⟩
  ·walk_at "mr"
  ·walk_at "mr"
 ·refine hP.elim fun es np ss gG gA g9 g10 => ?_
  repeat walk_at "l"
  refine s_mid (fun st => ∃ rg r, MdS nd es np ss i d n r rg st.ρ st.σ) ?_ ?_
  ·with_reducible refine s_try hF ?_ (gl_CycleError h) ?_
   case refine_1 => kernel_rfl
   have hi2 := gG.hi
   have hd2 := gG.hd
   refine ss_id ?_
   repeat walk_at "l"
   refine k_prep h hc hn1 gG gA.cl gA.hund (fun hp σ' r gR => ?_) (fun hp σ' r gR => ?_)
   ·repeat walk_at "l"
    refine ⟨false, r, gA.ring0 hnd hp, ?_, ?_, gR⟩
    ·walk_at "mr"
    ·walk_at "mr"
   ·refine ⟨.cycle h.cyc, ?_⟩
    refine ss_id ?_
    repeat walk_at "l"
    refine ⟨true, r, gA.ring1 hnd hp, ?_, ?_, gR⟩
    ·walk_at "mr"
    ·walk_at "mr"
  ·intro st hP
   refine e2 hP fun rg r hP => hP.elim fun he n1 n2 gR => ?_
   refine ss_id ?_
   repeat walk_at "l"
   refine x_listO ?_
   repeat walk_at "l"
   have hRr := apart gR
   have gR0 := gR.push (o := .list [])
   have hR0 := get_app_len (σ := st.σ) (o := O.list [])
   generalize st.σ.length = R at *
   refine o_while (fun m ρ σ => RdS nd es ss i d n r R rg m ρ σ) 5 ⟨⟨dom, np, _, [], ⟨rfl, .start⟩, ri_start hnd gA.a5 gG.hk, ⟨0, gR0⟩, hR0⟩, ?_, ?_, ?_⟩ (fun I Q2 E2 hI hQ2 m ρ5 σ5 hP => ?_)
   ·walk_at "mr"
   ·walk_at "mr"
   ·walk_at "mr"
   ·refine hP.elim fun lf np5 xs acc p hm hpl gI gR hR n1 n2 n3 => ?_
    have hi5 := gR.hi
    have hd5 := gR.hd
    have hxl2 : (xs.map V.int).length ≤ lim := int_lim gI.xl (by decide)
    repeat walk_at "l"
    refine k_active h hn0 hi5 hd5 gR.hr hxl2 ?_
    repeat walk_at "l"
    by_cases c : xs = []
    ·subst c
     refine ifF (by simp) ?_
     refine s_nil ?_
     refine hQ2 _ _ ?_
     refine y_cons (s_ret (x_frz ?_))
     repeat walk_at "l"
     exact ⟨_, _, .tup (.list hR), hQ _ _ (rounds_fin (B := fun v => Q v _) he hpl (gI.empty.mp rfl) (q _))⟩
    ·refine ifT (by cases xs with | nil => exact absurd rfl c | cons _ _ => simp) ?_
     repeat walk_at "l"
     have hkx := gI.kx fun j hj => (gA.a5 j hj).2
     refine k_ready h hc hn0 gR hkx (Nat.le_trans gI.xl (by decide)) fun σ6 gR6 hk6 => ?_
     have hR6 := hk6 R _ hRr.1 hR
     have hacl := acc_lim hpl
     repeat walk_at "l"
     refine b_sorted (Nat.le_trans gI.xl (by decide)) ?_
     repeat walk_at "l"
     refine x_callstar (C := 353) (f := 336) (fun _ _ => rfl) (fun _ => rfl) ?_
     have gR7 := gR6.setL (zs := (acc.map fun r => V.lst (r.map .int)) ++ [.lst ((sortI xs).map .int)]) hR6 hRr.1 hRr.2
     have hR7 := get_set_same (o := O.list ((acc.map fun r => V.lst (r.map .int)) ++ [.lst ((sortI xs).map .int)])) hR6
     repeat walk_at "l"
     refine ⟨i, d, _, rfl, gR7.hi, gR7.hd, rfl, me_336 h, bn_336 h, fun P fv first hP hx => run_lone hP ?_⟩
     repeat walk_at "l"
     refine ⟨_, .tup hxl2, hx _ _ _ _ ?_⟩
     have hf : freeOf nd lf ≠ [] := fun z => c (gI.empty.mpr z)
     refine k_done hR7 hRr.1 hRr.2 h hc hn0 gR7 hkx (Nat.le_trans gI.xl (by decide)) (gI.outs gA.cnt gA.sd) gA.hund (done_small gI.xl) fun σ8 gR8 hR8 => ?_
     repeat walk_at "l"
     refine ⟨_, hm ▸ rest_lt hf, hI _ _ _ ⟨⟨_, _, _, _, ⟨rfl, hpl.turn hf⟩, gI.round gA.cnt gA.sd, ⟨_, gR8⟩, acc_snoc (gI.sorts ▸ hR8)⟩, ?_, ?_, ?_⟩⟩
     ·walk_at "mr"
     ·walk_at "mr"
     ·walk_at "mr"
end
end
section
noncomputable def cell (r : List Int) (i : Int) : Int := (r[i.toNat]?).getD 0
noncomputable def rowsV (w : Int → V) (rs : List (List Int)) : V := .lst (rs.map fun r => .lst (r.map w))
noncomputable def someN (rs : List (List Int)) (j : Int) : List Int := dom.flatMap fun i => (rs.filter fun r => decide (cell r i < cell r j)).map fun _ => i
noncomputable def LtW (w : Int → V) (x y : Int) : Prop := ∀ (K : Kx) (st : St) (Q : V → St → Prop) (E : X → St → Prop), Q (.bool (decide (x < y))) st → QX K .Lt (w x) (w y) st Q E
noncomputable def GtW (w : Int → V) (x y : Int) : Prop := ∀ (K : Kx) (st : St) (Q : V → St → Prop) (E : X → St → Prop), Q (.bool (decide (y < x))) st → QX K .Gt (w x) (w y) st Q E
theorem cell_at {r : List Int} {w : Int → V} {i : Int} (h : r.length = 5) (hi : i ∈ dom) : (r.map w)[i.toNat]? = some (w (cell r i)) := by
 have h1 := mem_dom.mp hi
 have : i.toNat < r.length := by rw [h]; exact (Int.toNat_lt h1.1).mpr h1.2
 unfold cell
 rw [List.getElem?_map, List.getElem?_eq_getElem this]
 rfl
theorem cell_mem {r : List Int} {i : Int} (h : r.length = 5) (hi : i ∈ dom) : cell r i ∈ r := by
 have h1 := mem_dom.mp hi
 have : i.toNat < r.length := by rw [h]; exact (Int.toNat_lt h1.1).mpr h1.2
 unfold cell
 rw [List.getElem?_eq_getElem this]
 exact List.getElem_mem _
theorem flat_len (rs : List (List Int)) (p : Int → List Int → Bool) : ∀ l : List Int, (l.flatMap fun i => (rs.filter (p i)).map fun _ => i).length ≤ rs.length * l.length
 | [] => Nat.zero_le _
 | i :: l => by
  have h1 := flat_len rs p l
  have h2 := List.length_filter_le (p i) rs
  rw [List.flatMap_cons, List.length_append, List.length_map, List.length_cons, Nat.mul_succ, Nat.add_comm]
  exact Nat.add_le_add h1 h2
theorem acc_ok {rs d' rest' : List (List Int)} {row : List Int} {acc acc' : List V} {d rest : List Int} {i j : Int} (h3 : rs.length ≤ 3) (n1 : acc' = acc ++ ((d'.filter fun r => decide (cell r i < cell r j)).map fun _ => i).map .int)
  (k1 : acc = (d.flatMap fun i => (rs.filter fun r => decide (cell r i < cell r j)).map fun _ => i).map .int) (e : dom = d ++ i :: rest) (e' : rs = d' ++ row :: rest') : acc'.length < lim := by
 have e1 := congrArg List.length n1
 have e2 := congrArg List.length k1
 have e3 := flat_len rs (fun i r => decide (cell r i < cell r j)) d
 have e4 := List.length_filter_le (fun r => decide (cell r i < cell r j)) d'
 have e5 := congrArg List.length e'
 have e6 := congrArg List.length e
 have e7 := Nat.mul_le_mul_right d.length h3
 simp only [List.length_append, List.length_map, List.length_cons, dom, List.length_nil] at e1 e2 e5 e6
 show _ < 10000
 omega
section
variable {K : Kx} {ρ : Str → Option V} {σ σ' : List O} {E : X → St → Prop} {Q : V → St → Prop} {rs : List (List Int)} {w : Int → V}
theorem k_some (h : Opened K.c) (hc : K.calm = true) (hn : 0 < K.n) (h3 : rs.length ≤ 3) (h5 : ∀ r ∈ rs, r.length = 5) (hlt : ∀ r ∈ rs, ∀ x ∈ r, ∀ y ∈ r, LtW w x y) (q : Q (needV (someN rs)) ⟨ρ, σ⟩) : CX K (.ref 372) [rowsV w rs] [] ⟨ρ, σ⟩ Q E := by
 refine g_def hn (d_372 h) (bd_372 h) rfl fun F' Q' E' hF hQ _ _ => ?_
 refine ss_id ?_
 repeat walk_at "l"
 refine y_comp hc (fun _ _ => rfl) (by kernel_rfl) ?_
 repeat walk_at "l"
 refine b_range (by omega) (y_it (.rng (by decide)) ?_)
 refine o_map (f := V.int) (g := fun j => .lst ((someN rs j).map .int)) dom (by decide) (fun ρ1 σ1 => ρ1 "rows" = some (rowsV w rs) ∧ σ1 = σ) (fun Y j ρ1 σ1 hj hP hY => ?_) (fun ρ1 σ1 hP => ?_) ⟨?_, rfl⟩
 ·have h1 := hP.1
  intro F1
  repeat walk_at "l"
  intro F2
  refine y_comp (K := ((K.body F' _).inn _).at F2) hc (fun _ _ => rfl) (by kernel_rfl) ?_
  repeat walk_at "l"
  refine b_range (by omega) (y_it (.rng (by decide)) ?_)
  refine o_each (f := V.int) (CB.mono _) dom (fun d acc ρ2 σ2 => acc = (d.flatMap fun i => (rs.filter fun r => decide (cell r i < cell r j)).map fun _ => i).map .int ∧ (ρ2 "rows" = some (rowsV w rs) ∧ ρ2 "j" = some (.int j)) ∧ σ2 = σ1) (fun I hI d i rest acc ρ2 σ2 e hP2 => ?_) (fun acc ρ2 σ2 hP2 => ?_) ⟨rfl, ⟨?_, ?_⟩, rfl⟩
  ·have hi : i ∈ dom := by rw [e]; simp
   refine a3 hP2 fun k1 k2 k3 => ?_
   have k4 := k2.1
   have k5 := k2.2
   intro F3
   repeat walk_at "l"
   refine te_nil ⟨rfl, fun _ _ => rfl, fun F4 => ?_⟩
   repeat walk_at "l"
   refine ⟨_, _, .lst, ?_⟩
   refine o_each (f := fun r => .lst (r.map w)) (CB.mono _) rs (fun d' acc' ρ3 σ3 => acc' = acc ++ ((d'.filter fun r => decide (cell r i < cell r j)).map fun _ => i).map .int ∧ ((ρ3 "rows" = some (rowsV w rs) ∧ ρ3 "j" = some (.int j)) ∧ ρ3 "i" = some (.int i)) ∧ σ3 = σ2) (fun I3 hI3 d' row rest' acc' ρ3 σ3 e' hP3 => ?_) (fun acc' ρ3 σ3 hP3 => ?_) ⟨(List.append_nil _).symm, ⟨⟨?_, ?_⟩, ?_⟩, rfl⟩
   ·have hr : row ∈ rs := by rw [e']; simp
    have hr5 := h5 row hr
    refine a3 hP3 fun n1 n2 n3 => ?_
    have n4 := n2.1.1
    have n5 := n2.1.2
    have n6 := n2.2
    have hrl : (row.map w).length ≤ lim := by rw [List.length_map, hr5]; decide
    intro F5
    repeat walk_at "l"
    refine te_cons fun F6 => ?_
    repeat walk_at "l"
    refine g_lst hrl (mem_dom.mp hi).1 (cell_at hr5 hi) ?_
    repeat walk_at "l"
    refine g_lst hrl (mem_dom.mp hj).1 (cell_at hr5 hj) ?_
    refine hlt row hr _ (cell_mem hr5 hi) _ (cell_mem hr5 hj) _ _ _ _ ?_
    repeat walk_at "l"
    by_cases c : cell row i < cell row j
    ·refine ifT (decide_eq_true c) (te_nil (cb_elt fun F7 => ?_))
     repeat walk_at "l"
     refine ⟨acc_ok h3 n1 k1 e e', hI3 _ _ _ _ ⟨by rw [n1, List.filter_append]; simp [c], ⟨⟨?_, ?_⟩, ?_⟩, n3⟩⟩
     ·walk_at "mr"
     ·walk_at "mr"
     ·walk_at "mr"
    ·refine ifF (decide_eq_false c) (hI3 _ _ _ _ ⟨by rw [n1, List.filter_append]; simp [c], ⟨⟨?_, ?_⟩, ?_⟩, n3⟩)
     ·walk_at "mr"
     ·walk_at "mr"
     ·walk_at "mr"
   ·exact hI _ _ _ _ ⟨by rw [hP3.1, k1, List.flatMap_append]; simp, hP3.2.1.1, hP3.2.2.trans k3⟩
   ·walk_at "mr"
   ·walk_at "mr"
   ·walk_at "mr"
  ·rw [hP2.1, hP2.2.2]
   refine cz_go ?_
   refine hY _ _ ⟨?_, hP.2⟩
   walk_at "mr"
  ·walk_at "mr"
  ·walk_at "mr"
 ·rw [hP.2]
  repeat walk_at "l"
  exact hQ _ _ q
 ·walk_at "mr"
end
end
section
noncomputable def lowN (rs : List (List Int)) (j : Int) : List Int := dom.filter fun i => rs.any fun r => decide (cell r i < cell r j)
noncomputable def clearN (rs : List (List Int)) (j : Int) : List Int := (lowN rs j).filter fun i => !(rs.any fun r => decide (cell r j < cell r i))
theorem low_len (rs : List (List Int)) (j : Int) : (lowN rs j).length ≤ 5 := List.length_filter_le _ dom
section
variable {K : Kx} {st : St} {ρ : Str → Option V} {σ σ' : List O} {E : X → St → Prop} {Q : V → St → Prop} {rs : List (List Int)} {w : Int → V}
theorem eq_nil {l : List V} : EqR 8 (.lst l) (.lst []) l.isEmpty := by
 cases l with
 | nil => exact EqR.lst (n := 7) (fun _ => true) rfl fun j x y hx => by cases hx
 | cons a l => exact .lstN (by simp)
theorem any_filter {l : List (List Int)} {p : List Int → Bool} {f : List Int → V} : ((l.filter p).map f).isEmpty = !l.any p := by
 induction l with
 | nil => rfl
 | cons x l ih =>
  by_cases c : p x
  ·rw [List.filter_cons_of_pos c, List.any_cons, c]; rfl
  ·rw [List.filter_cons_of_neg c, ih, List.any_cons]; simp [c]
theorem k_all (h : Opened K.c) (hc : K.calm = true) (hn : 0 < K.n) (h3 : rs.length ≤ 3) (h5 : ∀ r ∈ rs, r.length = 5) (hlt : ∀ r ∈ rs, ∀ x ∈ r, ∀ y ∈ r, LtW w x y) (hgt : ∀ r ∈ rs, ∀ x ∈ r, ∀ y ∈ r, GtW w x y)
  (q : ∀ σ' : List O, Q (needV (clearN rs)) ⟨ρ, σ'⟩) : CX K (.ref 377) [rowsV w rs] [] ⟨ρ, σ⟩ Q E := by
 have h3' : rs.length ≤ 100 := Nat.le_trans h3 (by decide)
 refine g_def hn (d_377 h) (bd_377 h) rfl fun F' Q' E' hF hQ _ _ => ?_
 refine ss_id ?_
 repeat walk_at "l"
 refine x_listO ?_
 repeat walk_at "l"
 try dsimp only
 refine y_for (fun _ _ => rfl) ?_
 repeat walk_at "l"
 refine b_range (by omega) ?_
 have ht := get_app_len (σ := σ) (o := O.list [])
 generalize σ.length = T at *
 refine o_items (f := V.int) (K := K.body F' _) hc dom rfl (fun d ρ1 σ1 => σ1[T]? = some (.list (d.map fun j => .lst ((clearN rs j).map .int))) ∧ ρ1 "rows" = some (rowsV w rs) ∧ ρ1 "table" = some (.obj T)) (.rng (by decide)) ⟨ht, ?_, ?_⟩ (fun I Q2 E2 hI _ x0 d j rest ρ1 σ1 e hP => ?_) (fun ρ1 σ1 hP => ?_)
 ·walk_at "mr"
 ·walk_at "mr"
 ·have hj : j ∈ dom := by rw [e]; simp
  have hdl : (d.map fun j => V.lst ((clearN rs j).map .int)).length < lim := by
   have e1 := congrArg List.length e
   rw [List.length_map]
   simp only [List.length_append, List.length_cons, dom, List.length_nil] at e1
   exact Nat.lt_of_le_of_lt (Nat.le_trans (Nat.le_add_right _ _) (Nat.le_of_eq e1.symm)) (by decide)
  refine a3 hP fun h4 h6 h7 => ?_
  repeat walk_at "l"
  refine y_acomp hc (fun _ _ => rfl) (by kernel_rfl) (by kernel_rfl) (by kernel_rfl) ?_
  repeat walk_at "l"
  refine b_range (by omega) (y_it (.rng (by decide)) ?_)
  refine o_sel (f := V.int) (g := V.int) (fun i => rs.any fun r => decide (cell r i < cell r j)) dom (by decide) (fun ρ2 σ2 => (ρ2 "rows" = some (rowsV w rs) ∧ ρ2 "j" = some (.int j)) ∧ σ2 = σ1) (fun Y Z i ρ2 σ2 hi hP2 hY hZ => ?_) (fun ρ2 σ2 hP2 => ?_) ⟨⟨?_, ?_⟩, rfl⟩
  ·have k4 := hP2.1.1
   have k5 := hP2.1.2
   intro F1
   repeat walk_at "l"
   refine te_cons fun F2 => ?_
   repeat walk_at "l"
   refine y_comp (K := ((((K.body F' _).plus x0).inn _).at F2)) hc (fun _ _ => rfl) (by kernel_rfl) ?_
   repeat walk_at "l"
   refine y_lst ?_
   refine o_sel (f := fun r => .lst (r.map w)) (g := fun r => .lst (r.map w)) (fun r => decide (cell r i < cell r j)) rs h3' (fun ρ3 σ3 => (ρ3 "j" = some (.int j) ∧ ρ3 "i" = some (.int i)) ∧ σ3 = σ2) (fun Y3 Z3 row ρ3 σ3 hr hP3 hY3 hZ3 => ?_) (fun ρ3 σ3 hP3 => ?_) ⟨⟨?_, ?_⟩, rfl⟩
   ·have m5 := hP3.1.1
    have m6 := hP3.1.2
    have hr5 := h5 row hr
    have hrl : (row.map w).length ≤ lim := by rw [List.length_map, hr5]; decide
    intro F5
    repeat walk_at "l"
    refine te_cons fun F6 => ?_
    repeat walk_at "l"
    refine g_lst hrl (mem_dom.mp hi).1 (cell_at hr5 hi) ?_
    repeat walk_at "l"
    refine g_lst hrl (mem_dom.mp hj).1 (cell_at hr5 hj) ?_
    refine hlt row hr _ (cell_mem hr5 hi) _ (cell_mem hr5 hj) _ _ _ _ ?_
    repeat walk_at "l"
    by_cases c : cell row i < cell row j
    ·refine ifT (decide_eq_true c) (te_nil fun F7 => ?_)
     repeat walk_at "l"
     refine hY3 (decide_eq_true c) _ _ ⟨⟨?_, ?_⟩, hP3.2⟩
     ·walk_at "mr"
     ·walk_at "mr"
    ·refine ifF (decide_eq_false c) (hZ3 (decide_eq_false c) _ _ ⟨⟨?_, ?_⟩, hP3.2⟩)
     ·walk_at "mr"
     ·walk_at "mr"
   ·try dsimp only
    rw [hP3.2]
    repeat walk_at "l"
    refine x_list ?_
    repeat walk_at "l"
    refine q_ne eq_nil ?_
    repeat walk_at "l"
    rw [any_filter, Bool.not_not]
    by_cases c : (rs.any fun r => decide (cell r i < cell r j)) = true
    ·refine ifT c (te_nil fun F7 => ?_)
     repeat walk_at "l"
     refine hY c _ _ ⟨⟨?_, ?_⟩, hP2.2⟩
     ·walk_at "mr"
     ·walk_at "mr"
    ·refine ifF (Bool.not_eq_true _ ▸ c) (hZ (Bool.not_eq_true _ ▸ c) _ _ ⟨⟨?_, ?_⟩, hP2.2⟩)
     ·walk_at "mr"
     ·walk_at "mr"
   ·walk_at "mr"
   ·walk_at "mr"
  ·skip
   have hlow : (dom.filter fun i => rs.any fun r => decide (cell r i < cell r j)) = lowN rs j := rfl
   rw [hlow, hP2.2]
   repeat walk_at "l"
   try dsimp only
   refine y_comp (K := (K.body F' _).plus x0) hc (fun _ _ => rfl) (by kernel_rfl) ?_
   repeat walk_at "l"
   refine y_lst ?_
   refine o_sel (f := V.int) (g := V.int) (fun i => !(rs.any fun r => decide (cell r j < cell r i))) (lowN rs j) (Nat.le_trans (low_len rs j) (by decide)) (fun ρ2 σ2 => (ρ2 "rows" = some (rowsV w rs) ∧ ρ2 "j" = some (.int j)) ∧ σ2 = σ1) (fun Y Z i ρ3 σ3 hil hP2 hY hZ => ?_) (fun ρ3 σ3 hP2 => ?_) ⟨⟨?_, ?_⟩, rfl⟩
   ·have k4 := hP2.1.1
    have k5 := hP2.1.2
    have hi : i ∈ dom := (List.mem_filter.mp hil).1
    intro F1
    repeat walk_at "l"
    refine te_cons fun F2 => ?_
    repeat walk_at "l"
    refine y_comp (K := ((((K.body F' _).plus x0).inn _).at F2)) hc (fun _ _ => rfl) (by kernel_rfl) ?_
    repeat walk_at "l"
    refine y_lst ?_
    refine o_sel (f := fun r => .lst (r.map w)) (g := fun r => .lst (r.map w)) (fun r => decide (cell r j < cell r i)) rs h3' (fun ρ4 σ4 => (ρ4 "j" = some (.int j) ∧ ρ4 "i" = some (.int i)) ∧ σ4 = σ3) (fun Y3 Z3 row ρ4 σ4 hr hP3 hY3 hZ3 => ?_) (fun ρ4 σ4 hP3 => ?_) ⟨⟨?_, ?_⟩, rfl⟩
    ·have m5 := hP3.1.1
     have m6 := hP3.1.2
     have hr5 := h5 row hr
     have hrl : (row.map w).length ≤ lim := by rw [List.length_map, hr5]; decide
     intro F5
     repeat walk_at "l"
     refine te_cons fun F6 => ?_
     repeat walk_at "l"
     refine g_lst hrl (mem_dom.mp hi).1 (cell_at hr5 hi) ?_
     repeat walk_at "l"
     refine g_lst hrl (mem_dom.mp hj).1 (cell_at hr5 hj) ?_
     refine hgt row hr _ (cell_mem hr5 hi) _ (cell_mem hr5 hj) _ _ _ _ ?_
     repeat walk_at "l"
     by_cases c : cell row j < cell row i
     ·refine ifT (decide_eq_true c) (te_nil fun F7 => ?_)
      repeat walk_at "l"
      refine hY3 (decide_eq_true c) _ _ ⟨⟨?_, ?_⟩, hP3.2⟩
      ·walk_at "mr"
      ·walk_at "mr"
     ·refine ifF (decide_eq_false c) (hZ3 (decide_eq_false c) _ _ ⟨⟨?_, ?_⟩, hP3.2⟩)
      ·walk_at "mr"
      ·walk_at "mr"
    ·try dsimp only
     rw [hP3.2]
     repeat walk_at "l"
     refine x_list ?_
     repeat walk_at "l"
     refine q_eq eq_nil ?_
     repeat walk_at "l"
     rw [any_filter]
     by_cases c : (!(rs.any fun r => decide (cell r j < cell r i))) = true
     ·refine ifT c (te_nil fun F7 => ?_)
      repeat walk_at "l"
      refine hY c _ _ ⟨⟨?_, ?_⟩, hP2.2⟩
      ·walk_at "mr"
      ·walk_at "mr"
     ·refine ifF (Bool.not_eq_true _ ▸ c) (hZ (Bool.not_eq_true _ ▸ c) _ _ ⟨⟨?_, ?_⟩, hP2.2⟩)
      ·walk_at "mr"
      ·walk_at "mr"
    ·walk_at "mr"
    ·walk_at "mr"
   ·try dsimp only
    rw [hP2.2]
    repeat walk_at "l"
    refine hI _ _ _ ⟨?_, ?_, ?_⟩
    ·rw [get_set_same h4, List.map_append]
     rfl
    ·walk_at "mr"
    ·walk_at "mr"
   ·walk_at "mr"
   ·walk_at "mr"
  ·walk_at "mr"
  ·walk_at "mr"
 ·refine a3 hP fun h4 h6 h7 => ?_
  refine y_cons (s_ret (x_frz ?_))
  repeat walk_at "l"
  exact ⟨_, _, .list h4, hQ _ _ (q _)⟩
end
end
section
section
variable {K : Kx} {st : St} {ρ : Str → Option V} {σ σ' : List O} {E : X → St → Prop} {Q : V → St → Prop} {nd : Int → List Int} {l : List Int} {a : Int}
noncomputable def isI (a : Int) : V → Bool
 | .int i => decide (i = a)
 | _ => false
theorem any_isI : (l.map V.int).any (isI a) = decide (a ∈ l) := by
 induction l with
 | nil => rfl
 | cons x l ih =>
  rw [List.map_cons, List.any_cons, ih]
  by_cases e : x = a
  ·subst e; simp [isI]
  ·by_cases e2 : a ∈ l
   ·simp [isI, e2]
   ·simp [isI, e, e2, Ne.symm e]
theorem q_inI (q : Q (.bool (decide (a ∈ l))) st) : QX K .In (.int a) (.lst (l.map .int)) st Q E := q_in (isI a) (fun z hz => by
 obtain ⟨i, _, rfl⟩ := List.mem_map.mp hz
 exact .num rfl rfl) (by rw [any_isI]; exact q)
theorem q_notinI (q : Q (.bool (!decide (a ∈ l))) st) : QX K .NotIn (.int a) (.lst (l.map .int)) st Q E := q_notin (isI a) (fun z hz => by
 obtain ⟨i, _, rfl⟩ := List.mem_map.mp hz
 exact .num rfl rfl) (by rw [any_isI]; exact q)
theorem ne_empty : (!(l.map V.int).isEmpty) = decide (l ≠ []) := by cases l <;> simp
theorem map_isEmpty : (l.map V.int).isEmpty = l.isEmpty := by cases l <;> rfl
structure PlS (nd : Int → List Int) (R m : Nat) (ρ : Str → Option V) (σ : List O) : Prop where
 ex : ∃ lf acc, m = lf.length ∧ PlI nd lf acc ∧ ρ "left" = some (.lst (lf.map .int)) ∧ σ[R]? = some (.list (acc.map fun r => .lst (r.map .int)))
 r1 : ρ "needs" = some (needV nd)
 r3 : ρ "rounds" = some (.obj R)
theorem PlS.elim {R m : Nat} {P : Prop} (h : PlS nd R m ρ σ) (k : ∀ lf acc, m = lf.length → PlI nd lf acc → σ[R]? = some (.list (acc.map fun r => .lst (r.map .int))) → ρ "needs" = some (needV nd) → ρ "left" = some (.lst (lf.map .int)) → ρ "rounds" = some (.obj R) → P) : P :=
 e2 h.ex fun lf acc e => k lf acc e.1 e.2.1 e.2.2.2 h.r1 e.2.2.1 h.r3
structure Pl2 (nd : Int → List Int) (x : Str) (v : V) (σ1 : List O) (ρ : Str → Option V) (σ : List O) : Prop where
 r1 : ρ "needs" = some (needV nd)
 r2 : ρ x = some v
 e : σ = σ1
theorem k_plain (h : Opened K.c) (hc : K.calm = true) (hn : 0 < K.n) (q : ∀ σ' : List O, Q (.tup [roundsV (plainR nd 6 dom).1, .bool (decide ((plainR nd 6 dom).2 ≠ []))]) ⟨ρ, σ'⟩) : CX K (.ref 389) [needV nd] [] ⟨ρ, σ⟩ Q E := by
 refine g_def hn (d_389 h) (bd_389 h) rfl fun F' Q' E' hF hQ _ _ => ?_
 refine ss_id ?_
 repeat walk_at "l"
 refine x_listO ?_
 repeat walk_at "l"
 try dsimp only
 refine x_list ?_
 repeat walk_at "l"
 have hR0 := get_app_len (σ := σ) (o := O.list [])
 generalize σ.length = R at *
 refine o_while (fun m ρ1 σ1 => PlS nd R m ρ1 σ1) 5 ⟨⟨dom, [], rfl, .start, ?_, hR0⟩, ?_, ?_⟩ (fun I Q2 E2 hI hQ2 m ρ1 σ1 hP => ?_)
 ·rw [show dom.map V.int = [V.int 0, .int 1, .int 2, .int 3, .int 4] from rfl]
  walk_at "mr"
 ·walk_at "mr"
 ·walk_at "mr"
 ·refine hP.elim fun lf acc hm hL hR n1 n2 n3 => ?_
  have hlf : lf.length ≤ 100 := Nat.le_trans hL.llen (by decide)
  have hacl := acc_lim hL
  repeat walk_at "l"
  refine y_assignC (by kernel_rfl) ?_
  refine y_comp (K := K.body F' _) hc (fun _ _ => rfl) (by kernel_rfl) ?_
  repeat walk_at "l"
  refine y_lst ?_
  refine o_sel (f := V.int) (g := V.int) (fun j => (lf.filter fun b => decide (b ∈ nd j)).isEmpty) lf hlf (fun ρ2 σ2 => Pl2 nd "left" (.lst (lf.map .int)) σ1 ρ2 σ2) (fun Y Z j ρ2 σ2 hjl hP2 hY hZ => ?_) (fun ρ2 σ2 hP2 => ?_) ⟨?_, ?_, rfl⟩
  ·have k4 := hP2.r1
   have k5 := hP2.r2
   have hj : j ∈ dom := hL.1 j hjl
   intro F1
   repeat walk_at "l"
   refine te_cons fun F2 => ?_
   repeat walk_at "l"
   refine y_comp (K := (((K.body F' _).inn _).at F2)) hc (fun _ _ => rfl) (by kernel_rfl) ?_
   repeat walk_at "l"
   refine y_lst ?_
   refine o_sel (f := V.int) (g := V.int) (fun b => decide (b ∈ nd j)) lf hlf (fun ρ3 σ3 => Pl2 nd "item" (.int j) σ2 ρ3 σ3) (fun Y3 Z3 b ρ3 σ3 hb hP3 hY3 hZ3 => ?_) (fun ρ3 σ3 hP3 => ?_) ⟨?_, ?_, rfl⟩
   ·have m4 := hP3.r1
    have m5 := hP3.r2
    intro F5
    repeat walk_at "l"
    refine te_cons fun F6 => ?_
    repeat walk_at "l"
    refine g_lst (by rw [List.length_map]; decide) (mem_dom.mp hj).1 (need_at hj) ?_
    refine q_inI ?_
    repeat walk_at "l"
    by_cases c : b ∈ nd j
    ·refine ifT (decide_eq_true c) (te_nil fun F7 => ?_)
     repeat walk_at "l"
     refine hY3 (decide_eq_true c) _ _ ⟨?_, ?_, hP3.e⟩
     ·walk_at "mr"
     ·walk_at "mr"
    ·refine ifF (decide_eq_false c) (hZ3 (decide_eq_false c) _ _ ⟨?_, ?_, hP3.e⟩)
     ·walk_at "mr"
     ·walk_at "mr"
   ·try dsimp only
    rw [hP3.e]
    repeat walk_at "l"
    refine x_list ?_
    repeat walk_at "l"
    refine q_eq eq_nil ?_
    repeat walk_at "l"
    rw [map_isEmpty]
    by_cases c : (lf.filter fun b => decide (b ∈ nd j)).isEmpty = true
    ·refine ifT c (te_nil fun F7 => ?_)
     repeat walk_at "l"
     refine hY c _ _ ⟨?_, ?_, hP2.e⟩
     ·walk_at "mr"
     ·walk_at "mr"
    ·refine ifF (Bool.not_eq_true _ ▸ c) (hZ (Bool.not_eq_true _ ▸ c) _ _ ⟨?_, ?_, hP2.e⟩)
     ·walk_at "mr"
     ·walk_at "mr"
   ·walk_at "mr"
   ·walk_at "mr"
  ·have hfr : (lf.filter fun j => (lf.filter fun b => decide (b ∈ nd j)).isEmpty) = freeOf nd lf := rfl
   rw [hfr]
   try dsimp only
   rw [hP2.e]
   repeat walk_at "l"
   refine x_list ?_
   repeat walk_at "l"
   refine q_eq eq_nil ?_
   repeat walk_at "l"
   rw [map_isEmpty]
   by_cases c : freeOf nd lf = []
   ·refine ifT (by rw [c]; rfl) ?_
    refine y_cons (s_ret (x_frz ?_))
    repeat walk_at "l"
    refine x_list ?_
    repeat walk_at "l"
    refine q_ne eq_nil ?_
    repeat walk_at "l"
    refine ⟨_, _, .tup (.list hR), hQ2 _ _ (hQ _ _ ?_)⟩
    rw [ne_empty]
    exact rounds_fin (B := fun v => Q v _) (by rw [hL.fin c]) hL c (q _)
   ·refine ifF (by rw [List.isEmpty_eq_false_iff]; exact c) ?_
    repeat walk_at "l"
    refine y_assignC (by kernel_rfl) ?_
    refine y_comp (K := K.body F' _) hc (fun _ _ => rfl) (by kernel_rfl) ?_
    repeat walk_at "l"
    refine y_lst ?_
    refine o_sel (f := V.int) (g := V.int) (fun j => decide (j ∉ freeOf nd lf)) lf hlf (fun ρ3 σ3 => ρ3 "free" = some (.lst ((freeOf nd lf).map .int)) ∧ σ3 = σ1.set R (.list ((acc.map fun r => V.lst (r.map .int)) ++ [.lst ((freeOf nd lf).map .int)]))) (fun Y3 Z3 b ρ3 σ3 hb hP3 hY3 hZ3 => ?_) (fun ρ3 σ3 hP3 => ?_) ⟨?_, rfl⟩
    ·have m4 := hP3.1
     intro F5
     repeat walk_at "l"
     refine te_cons fun F6 => ?_
     repeat walk_at "l"
     refine q_notinI ?_
     repeat walk_at "l"
     by_cases c2 : b ∈ freeOf nd lf
     ·refine ifF (by simp [c2]) (hZ3 (by simp [c2]) _ _ ⟨?_, hP3.2⟩)
      walk_at "mr"
     ·refine ifT (by simp [c2]) (te_nil fun F7 => ?_)
      repeat walk_at "l"
      refine hY3 (by simp [c2]) _ _ ⟨?_, hP3.2⟩
      walk_at "mr"
    ·have hfr2 : (lf.filter fun j => decide (j ∉ freeOf nd lf)) = restOf nd lf := rfl
     rw [hfr2]
     try dsimp only
     rw [hP3.2]
     repeat walk_at "l"
     refine ⟨(restOf nd lf).length, hm ▸ rest_lt c, hI _ _ _ ⟨⟨restOf nd lf, acc ++ [freeOf nd lf], rfl, hL.turn c, ?_, acc_snoc (get_set_same hR)⟩, ?_, ?_⟩⟩
     ·walk_at "mr"
     ·walk_at "mr"
     ·walk_at "mr"
    ·walk_at "mr"
  ·walk_at "mr"
  ·walk_at "mr"
end
end
section
noncomputable def dueG (n : Nat) (d g : List Int) : List Int := g.foldl (fun d i => d.set i.toNat (2 * (n : Int) + (g.length : Nat) + 1)) d
noncomputable def dueR : List (List Int) → Nat → List Int → List Int
 | [], _, d => d
 | g :: r, n, d => dueR r (n + g.length) (dueG n d g)
noncomputable def sumL (l : List (List Int)) : Nat := l.foldl (fun n g => n + g.length) 0
theorem dueR_snoc (g : List Int) : ∀ (l : List (List Int)) (n : Nat) (d : List Int), dueR (l ++ [g]) n d = dueG (l.foldl (fun n g => n + g.length) n) (dueR l n d) g
 | [], n, d => rfl
 | a :: l, n, d => dueR_snoc g l (n + a.length) (dueG n d a)
theorem setF_len (v : Int) : ∀ (g d : List Int), (g.foldl (fun d i => d.set i.toNat v) d).length = d.length
 | [], d => rfl
 | a :: g, d => by rw [List.foldl_cons, setF_len v g, List.length_set]
theorem dueR_len : ∀ (l : List (List Int)) (n : Nat) (d : List Int), (dueR l n d).length = d.length
 | [], n, d => rfl
 | a :: l, n, d => (dueR_len l _ _).trans (setF_len _ a d)
section
variable {K : Kx} {st : St} {ρ : Str → Option V} {σ σ' : List O} {E : X → St → Prop} {Q : V → St → Prop} {rl : List (List Int)}
theorem k_due (h : Opened K.c) (hc : K.calm = true) (hn : 0 < K.n) (hd : ∀ g ∈ rl, g.length ≤ 5 ∧ ∀ a ∈ g, a ∈ dom) (q : ∀ σ' : List O, Q (.lst ((dueR rl 0 [0, 0, 0, 0, 0]).map .int)) ⟨ρ, σ'⟩) : CX K (.ref 396) [roundsV rl] [] ⟨ρ, σ⟩ Q E := by
 refine g_def hn (d_396 h) (bd_396 h) rfl fun F' Q' E' hF hQ _ _ => ?_
 refine ss_id ?_
 repeat walk_at "l"
 refine x_listO ?_
 repeat walk_at "l"
 try dsimp only
 have hR0 : (σ ++ [O.list [V.int 0, V.int 0, V.int 0, V.int 0, V.int 0]])[σ.length]? = some (O.list (([0, 0, 0, 0, 0] : List Int).map V.int)) := get_app_len
 generalize σ.length = R at *
 refine y_for (fun _ _ => rfl) ?_
 repeat walk_at "l"
 refine o_items (f := fun g => .lst (g.map .int)) (K := K.body F' _) hc rl rfl (fun done ρ1 σ1 => σ1[R]? = some (.list ((dueR done 0 [0, 0, 0, 0, 0]).map .int)) ∧ ρ1 "due" = some (.obj R) ∧ ρ1 "gone" = some (.int ((sumL done : Nat) : Int))) .lst ⟨hR0, ?_, ?_⟩ (fun I Q2 E2 hI _ x0 done g rest ρ1 σ1 e hP => ?_) (fun ρ1 σ1 hP => ?_)
 ·walk_at "mr"
 ·rw [show ((sumL [] : Nat) : Int) = 0 from rfl]
  walk_at "mr"
 ·refine a3 hP fun h4 h6 h7 => ?_
  have hgd := hd g (by rw [e]; simp)
  repeat walk_at "l"
  refine y_for (fun _ _ => rfl) ?_
  repeat walk_at "l"
  have hgl : (g.map V.int).length ≤ lim := by rw [List.length_map]; exact Nat.le_trans hgd.1 (by decide)
  refine o_items (f := V.int) (K := (K.body F' _).plus x0) hc g rfl (fun done1 ρ2 σ2 => σ2[R]? = some (.list ((done1.foldl (fun d i => d.set i.toNat (2 * (sumL done : Int) + (g.length : Nat) + 1)) (dueR done 0 [0, 0, 0, 0, 0])).map .int)) ∧ ρ2 "due" = some (.obj R) ∧ ρ2 "gone" = some (.int ((sumL done : Nat) : Int)) ∧ ρ2 "group" = some (.lst (g.map .int))) .lst ⟨h4, ?_, ?_, ?_⟩ (fun I3 Q3 E3 hI3 _ x1 done1 i rest1 ρ2 σ2 e1 hP2 => ?_) (fun ρ2 σ2 hP2 => ?_)
  ·walk_at "mr"
  ·walk_at "mr"
  ·walk_at "mr"
  ·have hi : i ∈ dom := hgd.2 i (by rw [e1]; simp)
   refine a4 hP2 fun k4 k6 k7 k8 => ?_
   repeat walk_at "l"
   refine o_mul rfl rfl (by decide) ?_
   repeat walk_at "l"
   have hlen : ((done1.foldl (fun d i => d.set i.toNat (2 * (sumL done : Int) + (g.length : Nat) + 1)) (dueR done 0 [0, 0, 0, 0, 0])).map V.int).length = 5 := by
    rw [List.length_map, setF_len, dueR_len]; rfl
   refine i_list k4 (mem_dom.mp hi).1 (by rw [hlen]; have := mem_dom.mp hi; omega) (by rw [hlen]; decide) ?_
   repeat walk_at "l"
   refine hI3 _ _ _ ⟨?_, ?_, ?_, ?_⟩
   ·rw [get_set_same k4, List.foldl_append, List.length_map, ← List.map_set]
    rfl
   ·walk_at "mr"
   ·walk_at "mr"
   ·walk_at "mr"
  ·refine a4 hP2 fun k4 k6 k7 k8 => ?_
   repeat walk_at "l"
   refine hI _ _ _ ⟨?_, ?_, ?_⟩
   ·rw [k4, dueR_snoc]
    rfl
   ·walk_at "mr"
   ·have : ((sumL (done ++ [g]) : Nat) : Int) = (sumL done : Int) + (g.map V.int).length := by
     unfold sumL
     rw [List.foldl_append, List.length_map]
     rfl
    rw [this]
    walk_at "mr"
 ·refine a3 hP fun h4 h6 h7 => ?_
  refine y_cons (s_ret (x_frz ?_))
  repeat walk_at "l"
  exact ⟨_, _, .list h4, hQ _ _ (q _)⟩
end
end
section
theorem int_mrk {cs ds : List Int} (h : cs.map V.int = ds.map V.mrk) : cs = [] := by
 cases cs with
 | nil => rfl
 | cons a l => cases ds <;> cases h
structure ScS (C : Nat) (l : Addr) (ρ : Str → Option V) (σ : List O) : Prop where
 ex : ∃ cs : List Int, cs.length = 5 ∧ σ[C]? = some (.list (cs.map V.int))
 r1 : ρ "cells" = some (.obj C)
 r2 : ρ "script" = some (.glob (.ref l))
noncomputable def RowsAt (ps : List (Nat × List Int)) (σ : List O) : Prop := (ps.map (·.1)).Nodup ∧ ∀ e ∈ ps, e.2.length = 5 ∧ σ[e.1]? = some (.list (e.2.map V.mrk))
noncomputable def rowsO (ps : List (Nat × List Int)) : List V := ps.map fun e => V.obj e.1
structure JdS (C : Nat) (cs : List Int) (done : List Nat) (acc : List V) (ρ : Str → Option V) (σ : List O) : Prop where
 r1 : ρ "cells" = some (.obj C)
 lo : Lo σ C (cs.map V.int)
 fz : done ≠ [] → σ[C]? = some (.flist (cs.map V.int))
 ex : ∃ ps, acc = rowsO ps ∧ ps.length = done.length ∧ RowsAt ps σ
structure MkS (k : Nat) (ρ : Str → Option V) (σ : List O) : Prop where
 ex : ∃ ps, ρ "marks" = some (.lst (rowsO ps)) ∧ ps.length = k ∧ RowsAt ps σ
section
variable {K : Kx} {st : St} {ρ : Str → Option V} {σ σ' : List O} {E : X → St → Prop} {Q : V → St → Prop}
theorem ScS.elim {P : Prop} {C : Nat} {l : Addr} (h : ScS C l ρ σ) (k : ∀ cs : List Int, cs.length = 5 → (cs.map V.int).length ≤ lim → σ[C]? = some (.list (cs.map V.int)) → ρ "cells" = some (.obj C) → ρ "script" = some (.glob (.ref l)) → P) : P :=
 h.ex.elim fun cs e => k cs e.1 (by rw [List.length_map, e.1]; decide) e.2 h.r1 h.r2
theorem cells_put {C i : Nat} {cs : List Int} {v : Int} (h : cs.length = 5) (h2 : σ[C]? = some (.list (cs.map V.int))) : ∃ cs' : List Int, cs'.length = 5 ∧ (σ.set C (.list ((cs.map V.int).set i (.int v))))[C]? = some (.list (cs'.map V.int)) :=
 ⟨cs.set i v, by rw [List.length_set, h], by rw [get_set_same h2, List.map_set]⟩
theorem mod5 (j : Nat) : 0 ≤ (j : Int).fmod 5 ∧ ((j : Int).fmod 5).toNat < 5 :=
 have k0 := Int.fmod_nonneg_of_pos (j : Int) (b := 5) (by decide)
 ⟨k0, (Int.toNat_lt k0).mpr (Int.fmod_lt_of_pos _ (by decide))⟩
theorem cellv_at {cs : List Int} {k : Nat} {f : Int → V} (h : cs.length = 5) (hk : k < 5) : ∃ c, (cs.map f)[k]? = some (f c) :=
 ⟨_, by rw [List.getElem?_map, List.getElem?_eq_getElem (h ▸ hk)]; rfl⟩
theorem JdS.nil {C : Nat} {cs : List Int} (h : σ[C]? = some (.list (cs.map V.int))) (r1 : ρ "cells" = some (.obj C)) : JdS C cs [] [] ρ σ :=
 ⟨r1, .inl h, fun z => absurd rfl z, [], rfl, rfl, List.nodup_nil, fun e he => (by cases he)⟩
theorem JdS.snoc {C k : Nat} {cs : List Int} {done : List Nat} {acc : List V} {ρ' : Str → Option V} {σ' : List O} (h1 : cs.length = 5) (h : JdS C cs done acc ρ σ) (hs : σ' = σ.set C (.flist (cs.map V.int))) (g : Int → Int) (r1 : ρ' "cells" = some (.obj C)) :
  JdS C cs (done ++ [k]) (acc ++ [.obj σ'.length]) ρ' (σ' ++ [.list (cs.map fun c => V.mrk (g c))]) := by
 have hfl : σ'[C]? = some (.flist (cs.map V.int)) := by rw [hs]; exact h.lo.elim get_set_same get_set_same
 refine h.ex.elim fun ps e => ?_
 have hold : ∀ e ∈ ps, σ'[e.1]? = some (.list (e.2.map V.mrk)) := fun f hf => by
  have hp := (e.2.2.2 f hf).2
  rw [hs]
  refine get_set_ne (fun z => ?_) hp
  rw [← z] at hp
  rcases h.lo with y | y <;> rw [y] at hp
  ·rw [int_mrk (O.list.inj (Option.some.inj hp))] at h1
   cases h1
  ·cases hp
 refine ⟨r1, .inr (get_app_old hfl), fun _ => get_app_old hfl, ps ++ [(σ'.length, cs.map g)], ?_, ?_, ?_, fun f hf => ?_⟩
 ·rw [e.1, rowsO, rowsO, List.map_append]; rfl
 ·rw [List.length_append, List.length_append, e.2.1]; rfl
 ·rw [List.map_append, List.nodup_append]
  refine ⟨e.2.2.1, List.nodup_cons.mpr ⟨nofun, List.nodup_nil⟩, fun a ha b hb z => ?_⟩
  rw [List.map_cons, List.map_nil, List.mem_singleton] at hb
  obtain ⟨f, hf, rfl⟩ := List.mem_map.mp ha
  exact absurd (z.trans hb) (Nat.ne_of_lt (lt_get (hold f hf)))
 ·rcases List.mem_append.mp hf with hf | hf
  ·exact ⟨(e.2.2.2 f hf).1, get_app_old (hold f hf)⟩
  ·rw [List.mem_singleton.mp hf]
   exact ⟨by rw [List.length_map, h1], by rw [List.map_map]; exact get_app_len⟩
theorem rows_at {ps : List (Nat × List Int)} {i k : Nat} (h : RowsAt ps σ) (hl : ps.length = k) (hi : i < k) : ∃ e ∈ ps, (rowsO ps)[i]? = some (.obj e.1) ∧ e.2.length = 5 ∧ σ[e.1]? = some (.list (e.2.map V.mrk)) :=
 have hi := hl ▸ hi
 ⟨ps[i], List.getElem_mem hi, by rw [rowsO, List.getElem?_map, List.getElem?_eq_getElem hi]; rfl, h.2 _ (List.getElem_mem hi)⟩
theorem rows_put {ps : List (Nat × List Int)} {el : Nat × List Int} {i : Nat} {v : Int} (h : RowsAt ps σ) (h5 : el.2.length = 5) (he : σ[el.1]? = some (.list (el.2.map V.mrk))) :
  ∃ ps', rowsO ps' = rowsO ps ∧ ps'.length = ps.length ∧ RowsAt ps' (σ.set el.1 (.list ((el.2.map V.mrk).set i (.mrk v)))) := by
 refine ⟨ps.map fun e => (e.1, if e.1 = el.1 then el.2.set i v else e.2), ?_, List.length_map .., ?_, fun e he' => ?_⟩
 ·rw [rowsO, List.map_map]; rfl
 ·rw [List.map_map]; exact h.1
 ·obtain ⟨f, hf, rfl⟩ := List.mem_map.mp he'
  by_cases z : f.1 = el.1
  ·rw [if_pos z]
   exact ⟨by rw [List.length_set, h5], by rw [z, get_set_same he, List.map_set]⟩
  ·rw [if_neg z]
   exact ⟨(h.2 f hf).1, get_set_ne (Ne.symm z) (h.2 f hf).2⟩
theorem rows_turn {ps : List (Nat × List Int)} (h : RowsAt ps σ) : ∃ σ', Turn (.lst (rowsO ps)) σ (rowsV .mrk (ps.map (·.2))) σ' := by
 have ht := turn_rows (σ := σ) (l := ps.map fun e => (e.1, e.2.map V.mrk)) (by rw [List.map_map]; exact h.1) fun e he => by
  obtain ⟨f, hf, rfl⟩ := List.mem_map.mp he
  exact (h.2 f hf).2
 rw [List.map_map, List.map_map] at ht
 unfold rowsV
 rw [List.map_map]
 exact ht
theorem rowsO_lim {ps : List (Nat × List Int)} {k : Nat} (h : ps.length = k) (hk : k ≤ 3) : (rowsO ps).length ≤ lim := by
 rw [rowsO, List.length_map, h]; exact Nat.le_trans hk (by decide)
theorem rows_fin {ps : List (Nat × List Int)} {k : Nat} (h : RowsAt ps σ) (hl : ps.length = k) (h2 : 2 ≤ k) (h3 : k ≤ 3) : ps.map (·.2) ≠ [] ∧ (ps.map (·.2)).length ≤ 3 ∧ ∀ r ∈ ps.map (·.2), r.length = 5 := by
 refine ⟨fun z => ?_, by rw [List.length_map, hl]; exact h3, fun r hr => ?_⟩
 ·have := congrArg List.length z
  rw [List.length_map, hl] at this
  rw [this] at h2
  exact absurd h2 (by decide)
 ·obtain ⟨f, hf, rfl⟩ := List.mem_map.mp hr
  exact (h.2 f hf).1
theorem judges (n : Nat) : ∃ k : Nat, 2 + (n : Int).fmod 2 = (k : Int) ∧ 2 ≤ k ∧ k ≤ 3 :=
 have m0 := Int.fmod_nonneg_of_pos (n : Int) (b := 2) (by decide)
 have m1 := Int.fmod_lt_of_pos (n : Int) (b := 2) (by decide)
 ⟨(2 + (n : Int).fmod 2).toNat, by omega, by omega, by omega⟩
theorem halves {M : Int} (h0 : 0 ≤ M) (h : M < 10) : 0 ≤ M.fdiv 2 ∧ (M.fdiv 2).toNat < 5 := by
 rw [Int.fdiv_eq_ediv_of_nonneg _ (by decide)]; exact ⟨Int.ediv_nonneg h0 (by decide), (Int.toNat_lt (Int.ediv_nonneg h0 (by decide))).mpr (Int.ediv_lt_of_lt_mul (by decide) h)⟩
theorem mod_lt (M : Int) {k : Nat} (h : 2 ≤ k) : 0 ≤ M.fmod k ∧ (M.fmod k).toNat < k :=
 have hk : (0 : Int) < k := Int.ofNat_lt.mpr (Nat.lt_of_lt_of_le (by decide) h)
 have k0 := Int.fmod_nonneg_of_pos M hk
 ⟨k0, (Int.toNat_lt k0).mpr (Int.fmod_lt_of_pos _ hk)⟩
theorem jdone {k a : Nat} {done rest : List Nat} (h3 : k ≤ 3) (e : List.range k = done ++ a :: rest) : a < 3 ∧ done.length < 3 := by
 have h1 : a ∈ List.range k := e ▸ List.mem_append_right _ (List.mem_cons_self ..)
 have h2 := congrArg List.length e
 rw [List.length_range, List.length_append, List.length_cons] at h2
 rw [List.mem_range] at h1
 omega
theorem kplus2 {k : Nat} (h : k < 3) : (k : Int) + 2 ≠ 0 ∧ ((k : Int) + 2).natAbs < 1000 := by omega
theorem ne2 {k : Nat} (h : 2 ≤ k) : (k : Int) ≠ 0 := by omega
theorem range_ne {k : Nat} (h : 2 ≤ k) : List.range k ≠ [] := fun z => by
 have := congrArg List.length z
 rw [List.length_range] at this
 rw [this] at h
 exact absurd h (by decide)
theorem acc_small {C : Nat} {cs : List Int} {done : List Nat} {acc : List V} (h : JdS C cs done acc ρ σ) (hd : done.length < 3) : acc.length < lim :=
 h.ex.elim fun ps e => by rw [e.1, rowsO, List.length_map, e.2.1]; exact Nat.lt_trans hd (by decide)
theorem k_marks {l : Addr} {vs : List Value} {ns : List Int} (h : Opened K.c) (hc : K.calm = true) (hn : 0 < K.n) (hb : K.c.base.IsList l vs.toArray) (hi : IntsAre vs ns) (hl : ns.length ≤ 63)
  (q : ∀ (rs : List (List Int)) (σ' : List O), rs ≠ [] → rs.length ≤ 3 → (∀ r ∈ rs, r.length = 5) → Q (rowsV .mrk rs) ⟨ρ, σ'⟩) : CX K (.ref 362) [.glob (.ref l)] [] ⟨ρ, σ⟩ Q E := by
 have hvl : vs.length ≤ lim := by
  have := (VRs_of_ints (G := ⟨fun _ => none, fun _ => none, fun _ => none⟩) hi).length
  rw [List.length_map] at this
  exact Nat.le_trans (this ▸ hl) (by decide)
 refine g_def hn (d_362 h) (bd_362 h) rfl fun F' Q' E' hF hQ _ _ => ?_
 refine ss_id ?_
 repeat walk_at "l"
 refine x_listO ?_
 repeat walk_at "l"
 try dsimp only
 have hC0 : (σ ++ [O.list [V.int 7, V.int 2, V.int 12, V.int 3, V.int 6]])[σ.length]? = some (O.list (([7, 2, 12, 3, 6] : List Int).map V.int)) := get_app_len
 generalize σ.length = C at *
 refine o_enum (f := V.int) hc (fun _ => rfl) (fun _ => rfl) (fun _ _ => rfl) (by kernel_rfl) (gl_enumerate h) (fun ρ σ => ScS C l ρ σ) ?_ (fun I Q2 E2 hI e1 e2 j z ρ1 σ1 hP => ?_) (fun ρ1 σ1 hP => ?_)
 ·repeat walk_at "l"
  refine x_sliceT ?_
  repeat walk_at "l"
  refine sgt_base (n := 60) hb hi hvl ?_
  repeat walk_at "l"
  refine ⟨_, rfl, _, rfl, ⟨[7, 2, 12, 3, 6], rfl, hC0⟩, ?_, ?_⟩
  ·walk_at "mr"
  ·walk_at "mr"
 ·refine hP.elim fun cs h1 hcl h3 h4 h5 => ?_
  have k5 := mod5 j
  repeat walk_at "l"
  refine s_augI (fun _ _ _ => rfl) ?_
  repeat walk_at "l"
  refine o_mod rfl rfl (by decide) ?_
  refine (cellv_at (f := V.int) h1 k5.2).elim fun c hc => gi_list h3 hcl k5.1 hc ?_
  refine x_ifexp ?_
  repeat walk_at "l"
  refine b_abs rfl ?_
  repeat walk_at "l"
  refine o_pow rfl rfl (by decide) (by decide) (by decide) ?_
  repeat walk_at "l"
  have kl : ((j : Int).fmod 5).toNat < (cs.map V.int).length := by rw [List.length_map, h1]; exact k5.2
  generalize decide ((if z < 0 then -z else z) < (10 : Int) ^ (30 : Int).toNat) = d
  cases d with
  | true =>
   repeat walk_at "l"
   refine i_list h3 k5.1 kl hcl ?_
   repeat walk_at "l"
   refine hI _ _ ⟨cells_put h1 h3, ?_, ?_⟩
   ·walk_at "mr"
   ·walk_at "mr"
  | false =>
   repeat walk_at "l"
   refine o_pow rfl rfl (by decide) (by decide) (by decide) ?_
   repeat walk_at "l"
   refine o_mod rfl rfl (by decide) ?_
   repeat walk_at "l"
   refine i_list h3 k5.1 kl hcl ?_
   repeat walk_at "l"
   refine hI _ _ ⟨cells_put h1 h3, ?_, ?_⟩
   ·walk_at "mr"
   ·walk_at "mr"
 ·refine hP.elim fun cs h1 hcl h3 h4 h5 => ?_
  repeat walk_at "l"
  refine b_lenG hb hvl ?_
  repeat walk_at "l"
  refine o_mod rfl rfl (by decide) ?_
  repeat walk_at "l"
  refine (judges vs.length).elim fun J hJ => ?_
  rw [hJ.1]
  refine y_acomp hc (fun _ _ => rfl) (by kernel_rfl) (by kernel_rfl) (by kernel_rfl) ?_
  repeat walk_at "l"
  refine b_range (Int.ofNat_le.mpr (Nat.zero_le _)) (y_it (.rng (Nat.le_trans hJ.2.2 (by decide))) ?_)
  refine o_each (f := fun k : Nat => V.int (k : Int)) (CB.mono _) (List.range J) (fun done acc ρ σ => JdS C cs done acc ρ σ) (fun I hI done k rest acc ρ2 σ2 e hP => ?_) (fun acc ρ2 σ2 hP => ?_) (.nil h3 ?_)
  ·have hk := jdone hJ.2.2 e
   have g3 := hP.r1
   intro F1
   repeat walk_at "l"
   refine te_nil (cb_elt fun F2 => ?_)
   refine y_compO (K := ((K.body F' _).inn _).at F2) hc (fun _ _ => rfl) (by kernel_rfl) ?_
   repeat walk_at "l"
   refine hP.lo.it.elim fun σ3 hi => y_it hi.1 ?_
   refine o_map (f := V.int) (g := fun c => V.mrk ((c + (k : Int)).fdiv ((k : Int) + 2))) cs (by rw [h1]; decide) (fun ρ σ => ρ "judge" = some (.int (k : Int)) ∧ σ = σ3) (fun Y c ρ3 σ4 _ hP3 hY => ?_) (fun ρ3 σ4 hP3 => ?_) ⟨?_, rfl⟩
   ·have k4 := hP3.1
    intro F3
    repeat walk_at "l"
    intro F4
    repeat walk_at "l"
    refine o_fdivM rfl rfl (kplus2 hk.1) ?_
    refine hY _ _ ⟨?_, hP3.2⟩
    walk_at "mr"
   ·try dsimp only
    rw [hP3.2]
    refine ⟨acc_small hP hk.2, ?_⟩
    refine hI _ _ _ _ (hP.snoc h1 hi.2 (fun c => (c + (k : Int)).fdiv ((k : Int) + 2)) ?_)
    walk_at "mr"
   ·walk_at "mr"
  ·refine hP.ex.elim fun ps g => ?_
   skip
   have g3 := hP.r1
   rw [g.1]
   repeat walk_at "l"
   refine b_sumI hc (hP.fz (range_ne hJ.2.1)) ?_
   repeat walk_at "l"
   refine o_mod rfl rfl (by decide) ?_
   have M0 : 0 ≤ cs.sum.fmod 20 := Int.fmod_nonneg_of_pos _ (by decide)
   generalize cs.sum.fmod 20 = M at *
   have hpl : ps.length = J := g.2.1.trans (List.length_range ..)
   walk_at "l"
   refine s_consM (fun st => MkS J st.ρ st.σ) ?_ ?_
   ·repeat walk_at "l"
    by_cases c : M < 10
    ·refine ifT (decide_eq_true c) ?_
     repeat walk_at "l"
     refine s_augI (fun _ _ _ => rfl) ?_
     repeat walk_at "l"
     refine o_mod rfl rfl (ne2 hJ.2.1) ?_
     have t := mod_lt M hJ.2.1
     refine (rows_at g.2.2 hpl t.2).elim fun el he => a4 he fun hm hx e5 eσ => ?_
     refine g_lst (rowsO_lim hpl hJ.2.2) t.1 hx ?_
     repeat walk_at "l"
     refine o_fdiv rfl rfl (by decide) ?_
     have u := halves M0 c
     have hell : (el.2.map V.mrk).length ≤ lim := by rw [List.length_map, e5]; decide
     refine (cellv_at (f := V.mrk) e5 u.2).elim fun c hc => gi_list eσ hell u.1 hc ?_
     iterate 4 walk_at "l"
     refine i_addM rfl rfl ?_
     refine i_list eσ u.1 (by rw [List.length_map, e5]; exact u.2) hell ?_
     repeat walk_at "l"
     refine (rows_put g.2.2 e5 eσ).elim fun ps' e => ⟨ps', ?_, e.2.1.trans hpl, e.2.2⟩
     rw [e.1]
     walk_at "mr"
    ·refine ifF (decide_eq_false c) ?_
     repeat walk_at "l"
     refine ⟨ps, ?_, hpl, g.2.2⟩
     walk_at "mr"
   ·intro st hP
    refine hP.ex.elim fun ps g => a3 g fun f1 f2 f3 => ?_
    refine y_cons (s_ret (x_turn ?_))
    repeat walk_at "l"
    refine (rows_turn f3).elim fun σ' ht => ⟨_, _, ht, ?_⟩
    have z := rows_fin f3 f2 hJ.2.1 hJ.2.2
    exact hQ _ _ (q _ σ' z.1 z.2.1 z.2.2)
  ·walk_at "mr"
end
end
section
noncomputable def Lower (rs : List (List Int)) (i j : Int) : Prop := ∃ r ∈ rs, cell r i < cell r j
theorem any_lower {rs : List (List Int)} {i j : Int} : (rs.any fun r => decide (cell r i < cell r j)) = true ↔ Lower rs i j := by
 rw [List.any_eq_true]
 exact ⟨fun ⟨r, h1, h2⟩ => ⟨r, h1, of_decide_eq_true h2⟩, fun ⟨r, h1, h2⟩ => ⟨r, h1, decide_eq_true h2⟩⟩
theorem mem_some {rs : List (List Int)} {i j : Int} : i ∈ someN rs j ↔ i ∈ dom ∧ Lower rs i j := by
 unfold someN
 rw [List.mem_flatMap]
 constructor
 ·rintro ⟨a, ha, h⟩
  obtain ⟨r, hr, rfl⟩ := List.mem_map.mp h
  obtain ⟨h1, h2⟩ := List.mem_filter.mp hr
  exact ⟨ha, r, h1, of_decide_eq_true h2⟩
 ·rintro ⟨hi, r, h1, h2⟩
  exact ⟨i, hi, List.mem_map.mpr ⟨r, List.mem_filter.mpr ⟨h1, decide_eq_true h2⟩, rfl⟩⟩
theorem mem_clear {rs : List (List Int)} {i j : Int} : i ∈ clearN rs j ↔ i ∈ dom ∧ Lower rs i j ∧ ¬ Lower rs j i := by
 unfold clearN lowN
 rw [List.mem_filter, List.mem_filter, any_lower, Bool.not_eq_true', ← Bool.not_eq_true, any_lower]
 exact ⟨fun ⟨⟨a, b⟩, c⟩ => ⟨a, b, c⟩, fun ⟨a, b, c⟩ => ⟨⟨a, b⟩, c⟩⟩
noncomputable def rkT (S : Int → Int) (i : Int) : Int := 2 * (dom.countP fun j => decide (S j < S i) : Nat) + (dom.countP fun j => decide (S j = S i) : Nat) + 1
noncomputable def rkL (r : List Int) : List Int := r.map fun x => 2 * (r.countP fun y => decide (y < x) : Nat) + (r.countP fun y => decide (y = x) : Nat) + 1
theorem row_dom {r : List Int} (h : r.length = 5) : r = dom.map (cell r) := by
 match r, h with
 | [a, b, c, d, e], _ => rfl
theorem dom_cell {f : Int → Int} {i : Int} (h : i ∈ dom) : cell (dom.map f) i = f i := by
 have h := mem_dom.mp h
 have h : i = 0 ∨ i = 1 ∨ i = 2 ∨ i = 3 ∨ i = 4 := by omega
 rcases h with rfl | rfl | rfl | rfl | rfl <;> rfl
theorem rkL_dom {r : List Int} (h : r.length = 5) : rkL r = dom.map (rkT (cell r)) := by
 have e := row_dom h
 unfold rkL
 conv => lhs; rw [e]
 rw [List.map_map]
 refine List.map_congr_left fun i hi => ?_
 show 2 * _ + _ + 1 = rkT (cell r) i
 unfold rkT
 rw [List.countP_map, List.countP_map]
 have e1 : ∀ x, cell (dom.map (cell r)) x = cell r x := fun x => by rw [← e]
 simp only [Function.comp_def, e1]
theorem rkL_cell {r : List Int} {i : Int} (h : r.length = 5) (hi : i ∈ dom) : cell (rkL r) i = rkT (cell r) i := by rw [rkL_dom h, dom_cell hi]
theorem cp_add {p q : Int → Bool} (h : ∀ x, p x = true → q x = false) (l : List Int) : l.countP p + l.countP q = l.countP fun x => p x || q x := by
 induction l with
 | nil => rfl
 | cons x l ih =>
  rw [List.countP_cons, List.countP_cons, List.countP_cons, ← ih]
  cases hp : p x with
  | true => rw [h x hp]; exact Nat.add_right_comm _ _ _
  | false => exact (Nat.add_assoc _ _ _).symm
theorem lt_eq (S : Int → Int) (i : Int) (l : List Int) : (l.countP fun k => decide (S k < S i)) + (l.countP fun k => decide (S k = S i)) = l.countP fun k => decide (S k < S i) || decide (S k = S i) :=
 cp_add (fun x hx => decide_eq_false (Int.ne_of_lt (of_decide_eq_true hx))) l
theorem countP_le_lt (S : Int → Int) {i j : Int} (h : S i < S j) (l : List Int) : (l.countP fun k => decide (S k < S i)) + (l.countP fun k => decide (S k = S i)) ≤ l.countP fun k => decide (S k < S j) := by
 rw [lt_eq]
 exact List.countP_mono_left fun x _ hx => decide_eq_true ((Bool.or_eq_true_iff.mp hx).elim (fun z => Int.lt_trans (of_decide_eq_true z) h) fun z => (of_decide_eq_true z).symm ▸ h)
theorem count_self (S : Int → Int) {i : Int} (h : i ∈ dom) : 0 < dom.countP fun k => decide (S k = S i) := List.countP_pos_iff.mpr ⟨i, h, by simp⟩
theorem rkT_lt {S : Int → Int} {i j : Int} (hi : i ∈ dom) (hj : j ∈ dom) : rkT S i < rkT S j ↔ S i < S j := by
 have e1 := count_self S hi
 have e2 := count_self S hj
 constructor
 ·intro h
  by_cases c : S i < S j
  ·exact c
  ·by_cases c2 : S i = S j
   ·unfold rkT at h
    rw [c2] at h
    exact absurd h (Int.lt_irrefl _)
   ·have := countP_le_lt S (Int.lt_iff_le_and_ne.mpr ⟨Int.not_lt.mp c, fun z => c2 z.symm⟩) dom
    unfold rkT at h
    omega
 ·intro h
  have := countP_le_lt S h dom
  unfold rkT
  omega
theorem countP_two (S : Int → Int) (i : Int) (l : List Int) : (l.countP fun k => decide (S k < S i)) + (l.countP fun k => decide (S k = S i)) ≤ l.length := by
 rw [lt_eq]
 exact List.countP_le_length
theorem rkT_range {S : Int → Int} {i : Int} (hi : i ∈ dom) : 2 ≤ rkT S i ∧ rkT S i ≤ 10 := by
 have e1 := count_self S hi
 have e2 := countP_two S i dom
 have e3 : dom.length = 5 := rfl
 unfold rkT
 omega
theorem rkT_congr {S T : Int → Int} (h : ∀ i ∈ dom, ∀ j ∈ dom, T i < T j ↔ S i < S j) {i : Int} (hi : i ∈ dom) : rkT T i = rkT S i := by
 unfold rkT
 have e1 : (dom.countP fun j => decide (T j < T i)) = dom.countP fun j => decide (S j < S i) := List.countP_congr fun j hj => by
  rw [decide_eq_true_eq, decide_eq_true_eq]; exact h j hj i hi
 have e2 : (dom.countP fun j => decide (T j = T i)) = dom.countP fun j => decide (S j = S i) := List.countP_congr fun j hj => by
  rw [decide_eq_true_eq, decide_eq_true_eq]
  have h1 := h j hj i hi
  have h2 := h i hi j hj
  have key : ∀ a b : Int, a = b ↔ ¬ a < b ∧ ¬ b < a := fun a b => ⟨fun e => e ▸ ⟨Int.lt_irrefl _, Int.lt_irrefl _⟩, fun h => Int.le_antisymm (Int.not_lt.mp h.2) (Int.not_lt.mp h.1)⟩
  rw [key, key (S j), h1, h2]
 rw [e1, e2]
theorem lower_rk {rs : List (List Int)} (h5 : ∀ r ∈ rs, r.length = 5) {i j : Int} (hi : i ∈ dom) (hj : j ∈ dom) : Lower (rs.map rkL) i j ↔ Lower rs i j := by
 constructor
 ·rintro ⟨r', hr', h⟩
  obtain ⟨r, hr, rfl⟩ := List.mem_map.mp hr'
  rw [rkL_cell (h5 r hr) hi, rkL_cell (h5 r hr) hj, rkT_lt hi hj] at h
  exact ⟨r, hr, h⟩
 ·rintro ⟨r, hr, h⟩
  refine ⟨rkL r, List.mem_map_of_mem hr, ?_⟩
  rw [rkL_cell (h5 r hr) hi, rkL_cell (h5 r hr) hj, rkT_lt hi hj]
  exact h
noncomputable def sumC (rs : List (List Int)) (i : Int) : Int := (rs.map fun r => cell r i).sum
theorem sum_le {i j : Int} : ∀ {rs : List (List Int)}, (∀ r ∈ rs, cell r i ≤ cell r j) → sumC rs i ≤ sumC rs j
 | [], _ => Int.le_refl _
 | r :: rs, h => by
  have h1 := h r (List.mem_cons_self ..)
  have h2 := sum_le (rs := rs) fun r hr => h r (List.mem_cons_of_mem _ hr)
  unfold sumC at *
  rw [List.map_cons, List.map_cons, List.sum_cons, List.sum_cons]
  exact Int.add_le_add h1 h2
theorem sum_lt {i j : Int} : ∀ {rs : List (List Int)}, (∀ r ∈ rs, cell r i ≤ cell r j) → Lower rs i j → sumC rs i < sumC rs j
 | [], _, h => by obtain ⟨r, hr, _⟩ := h; cases hr
 | r :: rs, h, ⟨r', hr', hlt⟩ => by
  have h1 := h r (List.mem_cons_self ..)
  have h0 : ∀ r ∈ rs, cell r i ≤ cell r j := fun r hr => h r (List.mem_cons_of_mem _ hr)
  have h2 := sum_le h0
  rcases List.mem_cons.mp hr' with rfl | hr'
  ·unfold sumC at *
   rw [List.map_cons, List.map_cons, List.sum_cons, List.sum_cons]
   exact Int.add_lt_add_of_lt_of_le hlt h2
  ·have h3 := sum_lt h0 ⟨r', hr', hlt⟩
   unfold sumC at *
   rw [List.map_cons, List.map_cons, List.sum_cons, List.sum_cons]
   exact Int.add_lt_add_of_le_of_lt h1 h3
theorem not_lower {rs : List (List Int)} {i j : Int} (h : ¬ Lower rs j i) : ∀ r ∈ rs, cell r i ≤ cell r j := fun r hr => by
 by_cases c : cell r j < cell r i
 ·exact absurd ⟨r, hr, c⟩ h
 ·exact Int.not_lt.mp c
noncomputable def NoOpp (rs : List (List Int)) : Prop := ∀ i ∈ dom, ∀ j ∈ dom, Lower rs i j → ¬ Lower rs j i
theorem lower_sum {rs : List (List Int)} (h : NoOpp rs) {i j : Int} (hi : i ∈ dom) (hj : j ∈ dom) : Lower rs i j ↔ sumC rs i < sumC rs j := by
 constructor
 ·exact fun hl => sum_lt (not_lower (h i hi j hj hl)) hl
 ·intro hs
  by_cases c : Lower rs i j
  ·exact c
  ·have := sum_le (not_lower c)
   exact absurd hs (Int.not_lt.mpr this)
theorem noopp_rk {rs : List (List Int)} (h5 : ∀ r ∈ rs, r.length = 5) (h : NoOpp rs) : NoOpp (rs.map rkL) := fun i hi j hj hl z => h i hi j hj ((lower_rk h5 hi hj).mp hl) ((lower_rk h5 hj hi).mp z)
theorem free_congr {nd nd' : Int → List Int} {lf : List Int} (h : ∀ j ∈ lf, ∀ b ∈ lf, b ∈ nd j ↔ b ∈ nd' j) : freeOf nd lf = freeOf nd' lf := by
 unfold freeOf
 refine List.filter_congr fun j hj => ?_
 have : (lf.filter fun b => decide (b ∈ nd j)) = lf.filter fun b => decide (b ∈ nd' j) := List.filter_congr fun b hb => decide_eq_decide.mpr (h j hj b hb)
 rw [this]
theorem plain_congr {nd nd' : Int → List Int} : ∀ (k : Nat) (lf : List Int), (∀ j ∈ lf, ∀ b ∈ lf, b ∈ nd j ↔ b ∈ nd' j) → plainR nd k lf = plainR nd' k lf
 | 0, _, _ => rfl
 | k + 1, lf, h => by
  have e1 := free_congr h
  have e2 : restOf nd lf = restOf nd' lf := by unfold restOf; rw [e1]
  unfold plainR
  rw [e1, e2, plain_congr k (restOf nd' lf) fun j hj b hb => h j (mem_rest.mp hj).1 b (mem_rest.mp hb).1]
theorem some_rk {rs : List (List Int)} (h5 : ∀ r ∈ rs, r.length = 5) : plainR (someN (rs.map rkL)) 6 dom = plainR (someN rs) 6 dom := plain_congr 6 dom fun j hj b hb => by
 rw [mem_some, mem_some, lower_rk h5 hb hj]
theorem clear_rk {rs : List (List Int)} (h5 : ∀ r ∈ rs, r.length = 5) : plainR (clearN (rs.map rkL)) 6 dom = plainR (clearN rs) 6 dom := plain_congr 6 dom fun j hj b hb => by
 rw [mem_clear, mem_clear, lower_rk h5 hb hj, lower_rk h5 hj hb]
theorem some_clear {rs : List (List Int)} (h : NoOpp rs) : plainR (clearN rs) 6 dom = plainR (someN rs) 6 dom := plain_congr 6 dom fun j hj b hb => by
 rw [mem_clear, mem_some]
 exact ⟨fun ⟨a, b, _⟩ => ⟨a, b⟩, fun ⟨a, l⟩ => ⟨a, l, h b hb j hj l⟩⟩
theorem ring_clear (rs : List (List Int)) : (plainR (clearN rs) 6 dom).2 = [] := pot_plain (φ := sumC rs) (by decide) fun j hj b hb => by
 obtain ⟨_, h1, h2⟩ := mem_clear.mp hb
 exact sum_lt (not_lower h2) h1
theorem ring_some {rs : List (List Int)} : (plainR (someN rs) 6 dom).2 = [] ↔ NoOpp rs := by
 constructor
 ·intro h i hi j hj hl hl2
  obtain ⟨φ, hφ⟩ := plain_pot 6 dom h
  have h1 := hφ j hj i (mem_some.mpr ⟨hi, hl⟩) hi
  have h2 := hφ i hi j (mem_some.mpr ⟨hj, hl2⟩) hj
  exact Nat.lt_asymm h1 h2
 ·intro h
  refine pot_plain (φ := sumC rs) (by decide) fun j hj b hb => ?_
  obtain ⟨hb, hl⟩ := mem_some.mp hb
  exact (lower_sum h hb hj).mp hl
noncomputable def pairsL (rs : List (List Int)) : List (Int × Int) := dom.flatMap fun i => (dom.filter fun j => rs.any fun r => decide (cell r i < cell r j)).map fun j => (i, j)
noncomputable def oppL (rs : List (List Int)) : List (Int × Int) := (pairsL rs).filter fun p => decide ((p.2, p.1) ∈ pairsL rs)
theorem mem_pairs {rs : List (List Int)} {i j : Int} : (i, j) ∈ pairsL rs ↔ i ∈ dom ∧ j ∈ dom ∧ Lower rs i j := by
 unfold pairsL
 rw [List.mem_flatMap]
 constructor
 ·rintro ⟨a, ha, h⟩
  obtain ⟨b, hb, e⟩ := List.mem_map.mp h
  obtain ⟨h1, h2⟩ := List.mem_filter.mp hb
  cases e
  exact ⟨ha, h1, any_lower.mp h2⟩
 ·rintro ⟨hi, hj, hl⟩
  exact ⟨i, hi, List.mem_map.mpr ⟨j, List.mem_filter.mpr ⟨hj, any_lower.mpr hl⟩, rfl⟩⟩
theorem opp_nil {rs : List (List Int)} : oppL rs = [] ↔ NoOpp rs := by
 unfold oppL
 rw [List.filter_eq_nil_iff]
 constructor
 ·intro h i hi j hj hl hl2
  exact h (i, j) (mem_pairs.mpr ⟨hi, hj, hl⟩) (decide_eq_true (mem_pairs.mpr ⟨hj, hi, hl2⟩))
 ·rintro h ⟨i, j⟩ hp z
  obtain ⟨h1, h2, h3⟩ := mem_pairs.mp hp
  obtain ⟨_, _, h4⟩ := mem_pairs.mp (of_decide_eq_true z)
  exact h i h1 j h2 h3 h4
theorem cell_set {d : List Int} {i j v : Int} (h : d.length = 5) (hi : i ∈ dom) (hj : j ∈ dom) : cell (d.set j.toNat v) i = if i = j then v else cell d i := by
 have h1 := mem_dom.mp hi
 have h2 := mem_dom.mp hj
 unfold cell
 by_cases e : i = j
 ·subst e
  rw [if_pos rfl, List.getElem?_set_self (by rw [h]; exact (Int.toNat_lt h1.1).mpr h1.2)]
  rfl
 ·rw [if_neg e, List.getElem?_set_ne fun z => e ((Int.toNat_of_nonneg h1.1).symm.trans ((congrArg (fun n : Nat => (n : Int)) z.symm).trans (Int.toNat_of_nonneg h2.1)))]
theorem cell_setF (v : Int) {i : Int} (hi : i ∈ dom) : ∀ (g d : List Int), d.length = 5 → (∀ a ∈ g, a ∈ dom) → cell (g.foldl (fun d i => d.set i.toNat v) d) i = if i ∈ g then v else cell d i
 | [], d, _, _ => by simp
 | a :: g, d, h, hg => by
  rw [List.foldl_cons, cell_setF v hi g _ (by rw [List.length_set, h]) fun b hb => hg b (List.mem_cons_of_mem _ hb), cell_set h hi (hg a (List.mem_cons_self ..))]
  by_cases e : i ∈ g
  ·simp [e]
  ·by_cases e2 : i = a <;> simp [e, e2]
theorem due_plain {nd : Int → List Int} {S : Int → Int} (hS : ∀ j ∈ dom, ∀ b ∈ dom, b ∈ nd j ↔ S b < S j) : ∀ (k : Nat) (lf : List Int) (n : Nat) (d : List Int), lf.length < k → lf.Pairwise (· < ·) → (∀ a ∈ lf, a ∈ dom) →
  (∀ i ∈ dom, i ∉ lf → ∀ j ∈ lf, S i < S j) → n = dom.countP (fun i => decide (i ∉ lf)) → d.length = 5 → (∀ i ∈ dom, i ∉ lf → cell d i = rkT S i) → ∀ i ∈ dom, cell (dueR (plainR nd k lf).1 n d) i = rkT S i
 | 0, lf, n, d, h, _, _, _, _, _, _ => absurd h (Nat.not_lt_zero _)
 | k + 1, lf, n, d, hk, hs, hsub, hcl, hn, hd, hdone => by
  by_cases c : freeOf nd lf = []
  ·have : lf = [] := by
    by_cases c2 : lf = []
    ·exact c2
    ·obtain ⟨m, hm, hmin⟩ := min_of S lf c2
     have : m ∈ freeOf nd lf := mem_free.mpr ⟨hm, fun b hb z => by
      have h1 := (hS m (hsub m hm) b (hsub b hb)).mp z
      have h2 := hmin b hb
      exact Int.not_lt.mpr h2 h1⟩
     rw [c] at this; cases this
   subst this
   unfold plainR
   rw [if_pos c]
   exact fun i hi => hdone i hi (by simp)
  ·unfold plainR
   rw [if_neg c]
   have hfree : ∀ i, i ∈ freeOf nd lf → ∀ b ∈ lf, S i ≤ S b := fun i hi b hb => by
    obtain ⟨h1, h2⟩ := mem_free.mp hi
    have h3 := h2 b hb
    rw [hS i (hsub i h1) b (hsub b hb)] at h3
    exact Int.not_lt.mp h3
   have hnf : ∀ i, i ∈ lf → i ∉ freeOf nd lf → ∀ f ∈ freeOf nd lf, S f < S i := fun i hi hn f hf => by
    have h0 : ¬ ∀ b ∈ lf, b ∉ nd i := fun z => hn (mem_free.mpr ⟨hi, z⟩)
    have ⟨b, hb, hbn⟩ : ∃ b, b ∈ lf ∧ b ∈ nd i := by
     by_cases c : ∃ b, b ∈ lf ∧ b ∈ nd i
     ·exact c
     ·exact absurd (fun b hb hbn => c ⟨b, hb, hbn⟩) h0
    have h1 := (hS i (hsub i hi) b (hsub b hb)).mp hbn
    have h2 := hfree f hf b hb
    exact Int.lt_of_le_of_lt h2 h1
   have hsubf : ∀ a ∈ freeOf nd lf, a ∈ dom := fun a ha => hsub a (mem_free.mp ha).1
   refine due_plain hS k (restOf nd lf) (n + (freeOf nd lf).length) (dueG n d (freeOf nd lf)) (Nat.lt_of_lt_of_le (rest_lt c) (Nat.le_of_lt_succ hk)) (hs.sublist List.filter_sublist) (fun a ha => hsub a (mem_rest.mp ha).1) (fun i hi hir j hj => ?_) ?_ ((setF_len _ _ _).trans hd) fun i hi hir => ?_
   ·obtain ⟨j1, j2⟩ := mem_rest.mp hj
    by_cases e : i ∈ lf
    ·have e2 : i ∈ freeOf nd lf := by
      by_cases e2 : i ∈ freeOf nd lf
      ·exact e2
      ·exact absurd (mem_rest.mpr ⟨e, e2⟩) hir
     exact hnf j j1 j2 i e2
    ·exact hcl i hi e j j1
   ·have hfl : (freeOf nd lf).length = dom.countP fun i => decide (i ∈ freeOf nd lf) := by
     rw [List.countP_eq_length_filter]
     refine List.Perm.length_eq ((List.perm_ext_iff_of_nodup (lt_nodup (hs.sublist List.filter_sublist)) ((by decide : dom.Nodup).sublist List.filter_sublist)).mpr fun a => ?_)
     have e : a ∈ dom.filter (fun i => decide (i ∈ freeOf nd lf)) ↔ a ∈ dom ∧ a ∈ freeOf nd lf := by rw [List.mem_filter, decide_eq_true_eq]
     rw [e]
     exact ⟨fun h => ⟨hsubf a h, h⟩, fun h => h.2⟩
    rw [hn, hfl]
    have : ∀ l : List Int, l.countP (fun i => decide (i ∉ lf)) + l.countP (fun i => decide (i ∈ freeOf nd lf)) = l.countP fun i => decide (i ∉ restOf nd lf) := by
     intro l
     induction l with
     | nil => rfl
     | cons x l ih =>
      rw [List.countP_cons, List.countP_cons, List.countP_cons, ← ih]
      by_cases e : x ∈ lf
      ·by_cases e2 : x ∈ freeOf nd lf
       ·have e3 : x ∉ restOf nd lf := fun z => (mem_rest.mp z).2 e2
        simp [e, e2, e3]; omega
       ·have e3 : x ∈ restOf nd lf := mem_rest.mpr ⟨e, e2⟩
        simp [e, e2, e3]
      ·have e2 : x ∉ freeOf nd lf := fun z => e (mem_free.mp z).1
       have e3 : x ∉ restOf nd lf := fun z => e (mem_rest.mp z).1
       simp [e, e2, e3]; omega
    exact this dom
   ·unfold dueG
    rw [cell_setF _ hi _ _ hd hsubf]
    by_cases e : i ∈ freeOf nd lf
    ·rw [if_pos e]
     have il := (mem_free.mp e).1
     unfold rkT
     have e1 : (dom.countP fun j => decide (S j < S i)) = n := by
      rw [hn]
      refine List.countP_congr fun j hj => ?_
      rw [decide_eq_true_eq, decide_eq_true_eq]
      constructor
      ·intro h z
       have := hfree i e j z
       exact Int.not_lt.mpr this h
      ·exact fun z => hcl j hj z i il
     have e2 : (dom.countP fun j => decide (S j = S i)) = (freeOf nd lf).length := by
      rw [List.countP_eq_length_filter]
      refine List.Perm.length_eq ((List.perm_ext_iff_of_nodup ((by decide : dom.Nodup).sublist List.filter_sublist) (lt_nodup (hs.sublist List.filter_sublist))).mpr fun a => ?_)
      have e3 : a ∈ dom.filter (fun j => decide (S j = S i)) ↔ a ∈ dom ∧ S a = S i := by rw [List.mem_filter, decide_eq_true_eq]
      rw [e3]
      constructor
      ·rintro ⟨ha, he⟩
       by_cases c1 : a ∈ lf
       ·by_cases c2 : a ∈ freeOf nd lf
        ·exact c2
        ·exact absurd he (Int.ne_of_gt (hnf a c1 c2 i e))
       ·exact absurd he (Int.ne_of_lt (hcl a ha c1 i il))
      ·intro ha
       have h1 := hfree a ha i il
       have h2 := hfree i e a (mem_free.mp ha).1
       exact ⟨hsubf a ha, Int.le_antisymm h1 h2⟩
     rw [e1, e2]
    ·rw [if_neg e]
     exact hdone i hi fun z => hir (mem_rest.mpr ⟨z, e⟩)
theorem due_sums {rs : List (List Int)} (h : NoOpp rs) : dueR (plainR (someN rs) 6 dom).1 0 [0, 0, 0, 0, 0] = dom.map (rkT (sumC rs)) := by
 have h1 : (dueR (plainR (someN rs) 6 dom).1 0 [0, 0, 0, 0, 0]).length = 5 := dueR_len _ _ _
 rw [row_dom h1]
 refine List.map_congr_left fun i hi => ?_
 refine due_plain (S := sumC rs) (fun j hj b hb => ?_) 6 dom 0 [0, 0, 0, 0, 0] (by decide) (by decide) (fun a h => h) (fun i hi hn => absurd hi hn) (by decide) rfl (fun i hi hn => absurd hi hn) i hi
 rw [mem_some, lower_sum h hb hj]
 exact ⟨fun h => h.2, fun h => ⟨hb, h⟩⟩
theorem sums_rk {rs : List (List Int)} (h5 : ∀ r ∈ rs, r.length = 5) (h : NoOpp rs) {i : Int} (hi : i ∈ dom) : rkT (sumC (rs.map rkL)) i = rkT (sumC rs) i := rkT_congr (fun i hi j hj => by
 rw [← lower_sum h hi hj, ← lower_sum (noopp_rk h5 h) hi hj, lower_rk h5 hi hj]) hi
end
section
noncomputable def num1 : V → Int
 | .mrk i => i
 | _ => 0
noncomputable def keyV : V → Int
 | .mrk i => i
 | .int i => i
 | .flt m => m
 | .lst l => (l.map num1).sum
 | _ => 0
theorem zip_mem {xs : List V} {e : V × Nat} (h : e ∈ xs.zipIdx) : e.1 ∈ xs := by
 have := List.mem_map_of_mem (f := Prod.fst) h
 rwa [List.zipIdx_map_fst] at this
theorem keyLt_of {xs : List V} {kd : Nat} (hkd : kd = 1 ∨ kd = 2 ∨ kd = 3) (h1 : ∀ x ∈ xs, x.isGlob = false) (h2 : ∀ x ∈ xs, ∀ y ∈ xs, EqR 8 x y (decide (keyV x = keyV y))) (h3 : ∀ x ∈ xs, ∀ y ∈ xs, SameK x y (decide (keyV x = keyV y))) (h4 : ∀ x ∈ xs, ∀ y ∈ xs, LtK x y (decide (keyV x < keyV y))) (h5 : ∀ x ∈ xs, kindK x = kd) : KeyLt xs.zipIdx keyV :=
 { glob := fun e he => h1 _ (zip_mem he), eq := fun e he f hf => h2 _ (zip_mem he) _ (zip_mem hf), same := fun e he f hf => h3 _ (zip_mem he) _ (zip_mem hf), lt := fun e he f hf => h4 _ (zip_mem he) _ (zip_mem hf), kd := ⟨kd, hkd, fun e he => h5 _ (zip_mem he)⟩ }
theorem of_map {f : Int → V} {l : List Int} {P : V → Prop} (h : ∀ m ∈ l, P (f m)) : ∀ x ∈ l.map f, P x := fun x hx => by
 obtain ⟨m, hm, rfl⟩ := List.mem_map.mp hx
 exact h m hm
theorem key_mrk (r : List Int) : KeyLt (r.map V.mrk).zipIdx keyV :=
 keyLt_of (kd := 1) (.inl rfl) (of_map fun _ _ => rfl) (of_map fun _ _ => of_map fun _ _ => .num rfl rfl) (of_map fun _ _ => of_map fun _ _ => .mrk _ _) (of_map fun _ _ => of_map fun _ _ => .one (.num rfl rfl)) (of_map fun _ _ => rfl)
theorem key_flt {r : List Int} (h : ∀ m ∈ r, small2 m = true) : KeyLt (r.map V.flt).zipIdx keyV :=
 keyLt_of (kd := 2) (.inr (.inl rfl)) (of_map fun _ _ => rfl) (of_map fun m hm => of_map fun k hk => .flt (h m hm) (h k hk)) (of_map fun m hm => of_map fun k hk => .flt (h m hm) (h k hk)) (of_map fun m hm => of_map fun k hk => .one (.flt (h m hm) (h k hk))) (of_map fun _ _ => rfl)
noncomputable def colV (rs : List (List Int)) (i : Int) : V := .lst (rs.map fun r => .mrk (cell r i))
theorem key_col {rs : List (List Int)} {i : Int} : keyV (colV rs i) = sumC rs i := by
 unfold colV sumC
 show ((rs.map fun r => V.mrk (cell r i)).map num1).sum = _
 rw [List.map_map]
 rfl
noncomputable def Cmp (rs : List (List Int)) (i j : Int) : Prop := (∀ r ∈ rs, cell r i ≤ cell r j) ∨ ∀ r ∈ rs, cell r j ≤ cell r i
theorem Cmp.tail {r : List Int} {rs : List (List Int)} {i j : Int} (h : Cmp (r :: rs) i j) : Cmp rs i j := h.imp (fun h r hr => h r (List.mem_cons_of_mem _ hr)) fun h r hr => h r (List.mem_cons_of_mem _ hr)
theorem Cmp.of {rs : List (List Int)} (h : NoOpp rs) {i j : Int} (hi : i ∈ dom) (hj : j ∈ dom) : Cmp rs i j := by
 by_cases c : Lower rs i j
 ·exact .inl (not_lower (h i hi j hj c))
 ·exact .inr (not_lower c)
theorem sum_eq {rs : List (List Int)} {i j : Int} (h : Cmp rs i j) : sumC rs i = sumC rs j ↔ ∀ r ∈ rs, cell r i = cell r j := by
 constructor
 ·intro e r hr
  by_cases c : cell r i = cell r j
  ·exact c
  ·rcases h with h | h
   ·exact absurd e (Int.ne_of_lt (sum_lt h ⟨r, hr, Int.lt_iff_le_and_ne.mpr ⟨h r hr, c⟩⟩))
   ·exact absurd e (Int.ne_of_gt (sum_lt h ⟨r, hr, Int.lt_iff_le_and_ne.mpr ⟨h r hr, fun z => c z.symm⟩⟩))
 ·intro h
  unfold sumC
  rw [List.map_congr_left h]
theorem col_eq {rs : List (List Int)} {i j : Int} (h : Cmp rs i j) : EqR 8 (colV rs i) (colV rs j) (decide (sumC rs i = sumC rs j)) := by
 have e : ((List.range (rs.map fun r => V.mrk (cell r i)).length).all fun k => decide (cell ((rs[k]?).getD []) i = cell ((rs[k]?).getD []) j)) = decide (sumC rs i = sumC rs j) := by
  rw [Bool.eq_iff_iff, List.all_eq_true, decide_eq_true_eq, sum_eq h, List.length_map]
  constructor
  ·intro h r hr
   obtain ⟨k, hk, e⟩ := List.getElem_of_mem hr
   have := h k (List.mem_range.mpr hk)
   rw [List.getElem?_eq_getElem hk, decide_eq_true_eq, e] at this
   exact this
  ·intro h k hk
   have hk := List.mem_range.mp hk
   rw [List.getElem?_eq_getElem hk, decide_eq_true_eq]
   exact h _ (List.getElem_mem hk)
 rw [← e]
 refine EqR.lst (n := 7) _ (by rw [List.length_map, List.length_map]) fun k x y hx hy => ?_
 rw [List.getElem?_map, Option.map_eq_some_iff] at hx hy
 obtain ⟨r, hr, rfl⟩ := hx
 obtain ⟨r', hr', rfl⟩ := hy
 rw [hr] at hr'
 cases hr'
 rw [hr]
 exact .num rfl rfl
theorem col_lt {i j : Int} : ∀ {rs : List (List Int)}, Cmp rs i j → LtVs (rs.map fun r => .mrk (cell r i)) (rs.map fun r => .mrk (cell r j)) (decide (sumC rs i < sumC rs j))
 | [], _ => .nil
 | r :: rs, h => by
  have h2 := col_lt h.tail
  have e1 : ∀ k, sumC (r :: rs) k = cell r k + sumC rs k := fun k => by unfold sumC; rw [List.map_cons, List.sum_cons]
  by_cases c : cell r i = cell r j
  ·have e : decide (sumC (r :: rs) i < sumC (r :: rs) j) = decide (sumC rs i < sumC rs j) := decide_eq_decide.mpr (by rw [e1, e1, c]; exact Int.add_lt_add_iff_left _)
   rw [e]
   refine .eq ?_ h2
   have : EqR 8 (V.mrk (cell r i)) (V.mrk (cell r j)) (decide (cell r i = cell r j)) := .num rfl rfl
   rwa [decide_eq_true c] at this
  ·have e : decide (sumC (r :: rs) i < sumC (r :: rs) j) = decide (cell r i < cell r j) := by
    refine decide_eq_decide.mpr ⟨fun hs => ?_, fun hl => ?_⟩
    ·rcases h with h | h
     ·exact Int.lt_iff_le_and_ne.mpr ⟨h r (List.mem_cons_self ..), c⟩
     ·exact absurd hs (Int.not_lt.mpr (sum_le h))
    ·rcases h with h | h
     ·exact sum_lt h ⟨r, List.mem_cons_self .., hl⟩
     ·exact absurd hl (Int.not_lt.mpr (h r (List.mem_cons_self ..)))
   rw [e]
   refine .ne ?_ (.num rfl rfl)
   have : EqR 8 (V.mrk (cell r i)) (V.mrk (cell r j)) (decide (cell r i = cell r j)) := .num rfl rfl
   rwa [decide_eq_false c] at this
theorem key_cols {rs : List (List Int)} (h : NoOpp rs) : KeyLt (dom.map (colV rs)).zipIdx keyV := by
 have he : ∀ i ∈ dom, ∀ j ∈ dom, EqR 8 (colV rs i) (colV rs j) (decide (keyV (colV rs i) = keyV (colV rs j))) := fun i hi j hj => by rw [key_col, key_col]; exact col_eq (Cmp.of h hi hj)
 exact keyLt_of (kd := 3) (.inr (.inr rfl)) (of_map fun _ _ => rfl) (of_map fun i hi => of_map fun j hj => he i hi j hj) (of_map fun i hi => of_map fun j hj => .lst (he i hi j hj))
  (of_map fun i hi => of_map fun j hj => by rw [key_col, key_col]; exact .lst (col_lt (Cmp.of h hi hj))) (of_map fun _ _ => rfl)
theorem rk_mrk {r : List Int} {x : Int} : rk keyV (r.map V.mrk) (.mrk x) = 2 * (r.countP fun y => decide (y < x) : Nat) + (r.countP fun y => decide (y = x) : Nat) + 1 := by
 unfold rk
 rw [List.countP_map, List.countP_map]
 rfl
theorem ranks_mrk {r : List Int} {f : Int → V} : (r.map V.mrk).map (fun x => f (rk keyV (r.map V.mrk) x)) = (rkL r).map f := by
 unfold rkL
 rw [List.map_map, List.map_map]
 refine List.map_congr_left fun x _ => ?_
 show f (rk keyV (r.map V.mrk) (.mrk x)) = _
 rw [rk_mrk]
 rfl
theorem rk_neg {r : List Int} {x : Int} : rk keyV (r.map fun x => V.int (-x)) (.int (-x)) = rk (fun v => -keyV v) (r.map V.mrk) (.mrk x) := by
 unfold rk
 rw [List.countP_map, List.countP_map, List.countP_map, List.countP_map]
 rfl
theorem rk_dom {f : Int → V} {S : Int → Int} (h : ∀ i ∈ dom, keyV (f i) = S i) {i : Int} (hi : i ∈ dom) : rk keyV (dom.map f) (f i) = rkT S i := by
 unfold rk rkT
 rw [List.countP_map, List.countP_map]
 have e1 : dom.countP ((fun y => decide (keyV y < keyV (f i))) ∘ f) = dom.countP fun j => decide (S j < S i) := List.countP_congr fun j hj => by
  show decide (keyV (f j) < keyV (f i)) = true ↔ _
  rw [h j hj, h i hi]
 have e2 : dom.countP ((fun y => decide (keyV y = keyV (f i))) ∘ f) = dom.countP fun j => decide (S j = S i) := List.countP_congr fun j hj => by
  show decide (keyV (f j) = keyV (f i)) = true ↔ _
  rw [h j hj, h i hi]
 rw [e1, e2]
theorem rkL_range {r : List Int} (h : r.length = 5) : ∀ m ∈ rkL r, 2 ≤ m ∧ m ≤ 10 := fun m hm => by
 rw [rkL_dom h] at hm
 obtain ⟨i, hi, rfl⟩ := List.mem_map.mp hm
 exact rkT_range hi
theorem eq_map {α : Type} {f g : α → V} {l : List α} {n : Nat} (h : ∀ m ∈ l, EqR n (f m) (g m) true) : EqR (n + 1) (.lst (l.map f)) (.lst (l.map g)) true := by
 have e : ((List.range (l.map f).length).all fun _ => true) = true := by simp
 rw [← e]
 refine EqR.lst (fun _ => true) (by rw [List.length_map, List.length_map]) fun k x y hx hy => ?_
 rw [List.getElem?_map, Option.map_eq_some_iff] at hx hy
 obtain ⟨r, hr, rfl⟩ := hx
 obtain ⟨r', hr', rfl⟩ := hy
 rw [hr] at hr'
 cases hr'
 exact h r (List.mem_of_getElem? hr)
theorem eq_num {x y : V} {i : Int} {n : Nat} (h : x.num = some i) (h' : y.num = some i) : EqR n x y true := by
 have : EqR n x y (decide (i = i)) := .num h h'
 rwa [decide_eq_true rfl] at this
theorem eq_half {m : Int} {n : Nat} (h : 0 ≤ m ∧ m ≤ 18) : EqR n (.flt (2 * m)) (.int m) true := by
 have : EqR n (.flt (2 * m)) (.int m) (decide (2 * m = 2 * m)) := .fltI (small_of (by omega) (by omega)) (small_of (by omega) (by omega)) rfl
 rwa [decide_eq_true rfl] at this
theorem eq_rows {rs : List (List Int)} {w : Int → V} {n : Nat} (h : ∀ i k, EqR k (w i) (w i) true) : EqR (n + 2) (rowsV w rs) (rowsV w rs) true := eq_map fun r _ => eq_map fun i _ => h i n
theorem eq_rounds {l : List (List Int)} {n : Nat} : EqR (n + 2) (roundsV l) (roundsV l) true := eq_map fun r _ => eq_map fun i _ => eq_num rfl rfl
theorem eq_pair {l : List (List Int)} {b : Bool} {n : Nat} : EqR (n + 3) (.tup [roundsV l, .bool b]) (.tup [roundsV l, .bool b]) true := by
 have e : ((List.range [roundsV l, .bool b].length).all fun _ => true) = true := rfl
 rw [← e]
 refine EqR.tup (fun _ => true) rfl fun k x y hx hy => ?_
 rw [hx] at hy
 cases hy
 match k, hx with
 | 0, hx => cases hx; exact eq_rounds
 | 1, hx =>
  cases hx
  have : EqR (n + 2) (.bool b) (.bool b) (b == b) := .bool b b
  rwa [beq_self_eq_true] at this
end
section
noncomputable def pV (p : Int × Int) : V := .tup [.int p.1, .int p.2]
theorem some_len {rs : List (List Int)} (h : rs.length ≤ 3) (j : Int) : (someN rs j).length ≤ 15 := by
 have e1 := flat_len rs (fun i r => decide (cell r i < cell r j)) dom
 have e2 : dom.length = 5 := rfl
 have e3 := Nat.mul_le_mul_right dom.length h
 exact Nat.le_trans e1 e3
theorem clear_len {rs : List (List Int)} (j : Int) : (clearN rs j).length ≤ 15 := by
 have e1 := List.length_filter_le (fun i => !(rs.any fun r => decide (cell r j < cell r i))) (lowN rs j)
 have e2 := low_len rs j
 exact Nat.le_trans e1 (Nat.le_trans e2 (by decide))
theorem pairs_len (rs : List (List Int)) : ∀ l : List Int, (l.flatMap fun i => (dom.filter fun j => rs.any fun r => decide (cell r i < cell r j)).map fun j => (i, j)).length ≤ 5 * l.length
 | [] => Nat.zero_le _
 | i :: l => by
  have h1 := pairs_len rs l
  have h2 := List.length_filter_le (fun j => rs.any fun r => decide (cell r i < cell r j)) dom
  have h3 : dom.length = 5 := rfl
  rw [List.flatMap_cons, List.length_append, List.length_map, List.length_cons, Nat.mul_succ, Nat.add_comm]
  exact Nat.add_le_add h1 h2
noncomputable def isP (a b : Int) : V → Bool
 | .tup [.int x, .int y] => decide (x = a) && decide (y = b)
 | _ => false
theorem any_isP {l : List (Int × Int)} {a b : Int} : (l.map pV).any (isP a b) = decide ((a, b) ∈ l) := by
 induction l with
 | nil => rfl
 | cons x l ih =>
  rw [List.map_cons, List.any_cons, ih]
  obtain ⟨c, d⟩ := x
  show ((decide (c = a) && decide (d = b)) || _) = _
  rw [Bool.eq_iff_iff]
  simp only [Bool.or_eq_true, Bool.and_eq_true, decide_eq_true_eq, List.mem_cons, Prod.mk.injEq]
  exact ⟨fun h => h.imp (fun ⟨a, b⟩ => ⟨a.symm, b.symm⟩) id, fun h => h.imp (fun ⟨a, b⟩ => ⟨a.symm, b.symm⟩) id⟩
theorem q_inP {K : Kx} {st : St} {E : X → St → Prop} {Q : V → St → Prop} {l : List (Int × Int)} {a b : Int} (q : Q (.bool (decide ((a, b) ∈ l))) st) : QX K .In (.tup [.int a, .int b]) (.lst (l.map pV)) st Q E := q_in (isP a b) (fun z hz => by
 obtain ⟨p, _, rfl⟩ := List.mem_map.mp hz
 have e : ((List.range [V.int p.1, .int p.2].length).all fun k => match k with | 0 => decide (p.1 = a) | _ => decide (p.2 = b)) = isP a b (pV p) := by
  show (decide (p.1 = a) && (decide (p.2 = b) && true)) = _
  rw [Bool.and_true]
  rfl
 rw [← e]
 refine EqR.tup (n := 7) _ rfl fun k x y hx hy => ?_
 match k, hx, hy with
 | 0, hx, hy => cases hx; cases hy; exact .num rfl rfl
 | 1, hx, hy => cases hx; cases hy; exact .num rfl rfl) (by rw [any_isP]; exact q)
theorem ring_opp {rs : List (List Int)} : decide ((plainR (someN rs) 6 dom).2 ≠ []) = !((oppL rs).map pV).isEmpty := by
 by_cases no : NoOpp rs
 ·rw [ring_some.mpr no, opp_nil.mpr no]; rfl
 ·have h1 : (plainR (someN rs) 6 dom).2 ≠ [] := fun z => no (ring_some.mp z)
  have h2 : oppL rs ≠ [] := fun z => no (opp_nil.mp z)
  rw [decide_eq_true h1]
  cases hh : oppL rs with
  | nil => exact absurd hh h2
  | cons _ _ => rfl
theorem plain_groups {nd : Int → List Int} : ∀ (k : Nat) (lf : List Int), ∀ g ∈ (plainR nd k lf).1, g.length ≤ lf.length ∧ ∀ a ∈ g, a ∈ lf
 | 0, _, g, h => by cases h
 | k + 1, lf, g, h => by
  unfold plainR at h
  by_cases c : freeOf nd lf = []
  ·rw [if_pos c] at h; cases h
  ·rw [if_neg c] at h
   rcases List.mem_cons.mp h with rfl | h
   ·exact ⟨List.length_filter_le .., fun a ha => (mem_free.mp ha).1⟩
   ·obtain ⟨h1, h2⟩ := plain_groups k _ g h
    exact ⟨Nat.le_of_lt (Nat.lt_of_le_of_lt h1 (rest_lt c)), fun a ha => (mem_rest.mp (h2 a ha)).1⟩
theorem sum_fs : ∀ (ns : List Int) (a : Int), 0 ≤ a → a + 10 * ns.length ≤ 34 → (∀ n ∈ ns, 0 ≤ n ∧ n ≤ 10) → sumFs a ns = some (a + ns.sum)
 | [], a, _, _, _ => by unfold sumFs; simp
 | n :: ns, a, h0, h1, h2 => by
  have hn := h2 n (List.mem_cons_self ..)
  simp only [List.length_cons] at h1
  unfold sumFs
  rw [if_pos (by omega), sum_fs ns (a + n) (by omega) (by omega) fun m hm => h2 m (List.mem_cons_of_mem _ hm), List.sum_cons, Int.add_assoc]
theorem sum_halves {rs : List (List Int)} (h3 : rs.length ≤ 3) (h5 : ∀ r ∈ rs, r.length = 5) {i : Int} (hi : i ∈ dom) : sumFs 0 ((rs.map rkL).map fun r => cell r i) = some (sumC (rs.map rkL) i) := by
 rw [sum_fs _ 0 (Int.le_refl _) (by rw [List.length_map, List.length_map]; omega) fun n hn => ?_, Int.zero_add]
 ·rfl
 ·obtain ⟨r', hr', rfl⟩ := List.mem_map.mp hn
  obtain ⟨r, hr, rfl⟩ := List.mem_map.mp hr'
  rw [rkL_cell (h5 r hr) hi]
  have := rkT_range (S := cell r) hi
  exact ⟨Int.le_trans (by decide) this.1, this.2⟩
theorem sum_small {rs : List (List Int)} (h3 : rs.length ≤ 3) (h5 : ∀ r ∈ rs, r.length = 5) {i : Int} (hi : i ∈ dom) : small2 (sumC (rs.map rkL) i) = true := by
 have key : ∀ l : List Int, (∀ n ∈ l, 0 ≤ n ∧ n ≤ 10) → 0 ≤ l.sum ∧ l.sum ≤ 10 * l.length := by
  intro l
  induction l with
  | nil => intro _; simp
  | cons n l ih =>
   intro h
   have h1 := h n (List.mem_cons_self ..)
   have h2 := ih fun m hm => h m (List.mem_cons_of_mem _ hm)
   rw [List.sum_cons, List.length_cons, Int.natCast_add, Int.mul_add, Int.add_comm (10 * _)]
   exact ⟨Int.add_nonneg h1.1 h2.1, Int.add_le_add h1.2 h2.2⟩
 have := key ((rs.map rkL).map fun r => cell r i) fun n hn => by
  obtain ⟨r', hr', rfl⟩ := List.mem_map.mp hn
  obtain ⟨r, hr, rfl⟩ := List.mem_map.mp hr'
  rw [rkL_cell (h5 r hr) hi]
  have := rkT_range (S := cell r) hi
  exact ⟨Int.le_trans (by decide) this.1, this.2⟩
 rw [List.length_map, List.length_map] at this
 unfold sumC
 simp only [small2, Bool.and_eq_true, decide_eq_true_eq]
 omega
theorem sums_ranks {rs : List (List Int)} (h5 : ∀ r ∈ rs, r.length = 5) (no : NoOpp rs) : (((dom.map (sumC (rs.map rkL))).map V.flt).map fun x => V.flt (rk keyV ((dom.map (sumC (rs.map rkL))).map V.flt) x)) = (dom.map (rkT (sumC rs))).map V.flt := by
 simp only [List.map_map]
 refine List.map_congr_left fun i hi => ?_
 show V.flt (rk keyV (dom.map fun i => V.flt (sumC (rs.map rkL) i)) (V.flt (sumC (rs.map rkL) i))) = V.flt (rkT (sumC rs) i)
 rw [rk_dom (f := fun i => V.flt (sumC (rs.map rkL) i)) (S := sumC (rs.map rkL)) (fun _ _ => rfl) hi, sums_rk h5 no hi]
theorem cols_ranks {rs : List (List Int)} : ((dom.map (colV rs)).map fun x => V.flt (rk keyV (dom.map (colV rs)) x)) = (dom.map (rkT (sumC rs))).map V.flt := by
 rw [List.map_map, List.map_map]
 refine List.map_congr_left fun i hi => ?_
 show V.flt (rk keyV (dom.map (colV rs)) (colV rs i)) = V.flt (rkT (sumC rs) i)
 rw [rk_dom (S := sumC rs) (fun _ _ => key_col) hi]
theorem row_el {P : Prop} {rs : List (List Int)} {k : Nat} (hk : k < rs.length) (h : ∀ row, row ∈ rs → rs[k]? = some row → P) : P := h rs[k] (List.getElem_mem _) (List.getElem?_eq_getElem hk)
theorem turn_el {P : Prop} {row : List Int} (hr5 : row.length = 5) (h : ∀ rd : Int → Int, (∀ x ∈ row, 2 ≤ rd x ∧ rd x ≤ 16) → ((row.map V.mrk).map fun x => V.flt (rk (fun v => -keyV v) (row.map V.mrk) x - 2)) = row.map (fun x => V.flt (rd x - 2)) →
  ((row.map fun x => V.int (-x)).map fun x => V.int (rk keyV (row.map fun x => V.int (-x)) x)) = row.map (fun x => V.int (rd x)) → P) : P := by
 refine h (fun x : Int => rk (fun v => -keyV v) (row.map V.mrk) (.mrk x)) (fun x hx => ?_) ?_ ?_
 ·have e1 : 0 < (row.map V.mrk).countP fun y => decide (-keyV y = -keyV (.mrk x)) := List.countP_pos_iff.mpr ⟨.mrk x, List.mem_map_of_mem hx, by simp⟩
  have e2 := List.countP_le_length (l := row.map V.mrk) (p := fun y => decide (-keyV y = -keyV (.mrk x)))
  have e3 := List.countP_le_length (l := row.map V.mrk) (p := fun y => decide (-keyV y < -keyV (.mrk x)))
  rw [List.length_map, hr5] at e2 e3
  unfold rk
  try dsimp only
  omega
 ·rw [List.map_map]
  rfl
 ·rw [List.map_map]
  refine List.map_congr_left fun x _ => ?_
  show V.int (rk keyV (row.map fun x => V.int (-x)) (.int (-x))) = _
  rw [rk_neg]
theorem eq_turn {r : Int} (hm : 2 ≤ r ∧ r ≤ 16) : EqR 7 (.flt (2 * (r - 2) + 2 * 2)) (.int r) true := by
 have e : EqR 7 (.flt (2 * (r - 2) + 2 * 2)) (.int r) (decide (2 * (r - 2) + 2 * 2 = 2 * r)) := .fltI (small_of (by omega) (by omega)) (small_of (by omega) (by omega)) rfl
 rwa [decide_eq_true (by omega)] at e
theorem rk_facts {P : Prop} {rs : List (List Int)} (h3 : rs.length ≤ 3) (h5 : ∀ r ∈ rs, r.length = 5) (h : (rs.map rkL).length ≤ 3 → (∀ r ∈ rs.map rkL, r.length = 5) → (∀ r ∈ rs.map rkL, ∀ x ∈ r, ∀ y ∈ r, LtW V.flt x y) → (∀ r ∈ rs.map rkL, ∀ x ∈ r, ∀ y ∈ r, GtW V.flt x y) → P) : P := by
 have hsm : ∀ r ∈ rs.map rkL, ∀ x ∈ r, small2 x = true := fun r hr x hx => by
  obtain ⟨r', hr', rfl⟩ := List.mem_map.mp hr
  have := rkL_range (h5 r' hr') x hx
  simp only [small2, Bool.and_eq_true, decide_eq_true_eq]
  exact ⟨Int.le_trans (by decide) this.1, Int.le_trans this.2 (by decide)⟩
 refine h (by rw [List.length_map]; exact h3) (fun r hr => ?_) (fun r hr x hx y hy K st Q E q => q_ltF (hsm r hr x hx) (hsm r hr y hy) q) fun r hr x hx y hy K st Q E q => q_gtF (hsm r hr x hx) (hsm r hr y hy) q
 obtain ⟨r', hr', rfl⟩ := List.mem_map.mp hr
 unfold rkL
 rw [List.length_map, h5 r' hr']
theorem sums_small {rs : List (List Int)} (h3 : rs.length ≤ 3) (h5 : ∀ r ∈ rs, r.length = 5) : ∀ m ∈ dom.map (sumC (rs.map rkL)), small2 m = true := fun m hm => by
 obtain ⟨i, hi, rfl⟩ := List.mem_map.mp hm
 exact sum_small h3 h5 hi
theorem pairs_ok {rs : List (List Int)} {acc acc2 : List V} {d rest d2 rest2 : List Int} {i j : Int} (k3 : acc = (d.flatMap fun i => (dom.filter fun j => rs.any fun r => decide (cell r i < cell r j)).map fun j => (i, j)).map pV)
  (i3 : acc2 = acc ++ ((d2.filter fun j => rs.any fun r => decide (cell r i < cell r j)).map fun j => (i, j)).map pV) (e : dom = d ++ i :: rest) (e2 : dom = d2 ++ j :: rest2) : acc2.length < lim := by
 have e1 := pairs_len rs d
 have e4 := List.length_filter_le (fun j => rs.any fun r => decide (cell r i < cell r j)) d2
 have e3 := congrArg List.length e
 have e5 := congrArg List.length e2
 have : dom.length = 5 := rfl
 rw [List.length_append] at e3 e5
 rw [i3, k3, List.length_append, List.length_map, List.length_map, List.length_map]
 show _ < 10000
 omega
structure LA (rs : List (List Int)) (ρ : Str → Option V) : Prop where
 m : ρ "marks" = some (rowsV .mrk rs)
 h : ρ "handed" = some (rowsV .mrk rs)
 r : ρ "ranks" = some (rowsV .flt (rs.map rkL))
structure LB (rs : List (List Int)) (ρ : Str → Option V) : Prop where
 m : ρ "marks" = some (rowsV .mrk rs)
 r : ρ "ranks" = some (rowsV .flt (rs.map rkL))
 f : ρ "first" = some (.tup [roundsV (plainR (someN rs) 6 dom).1, .bool (decide ((plainR (someN rs) 6 dom).2 ≠ []))])
 s : ρ "second" = some (.tup [roundsV (plainR (clearN rs) 6 dom).1, .bool false])
 p : ρ "pairs" = some (.lst ((pairsL rs).map pV))
structure LC (rs : List (List Int)) (ρ : Str → Option V) : Prop where
 m : ρ "marks" = some (rowsV .mrk rs)
 r : ρ "ranks" = some (rowsV .flt (rs.map rkL))
 f : ρ "first" = some (.tup [roundsV (plainR (someN rs) 6 dom).1, .bool (decide ((plainR (someN rs) 6 dom).2 ≠ []))])
 s : ρ "second" = some (.tup [roundsV (plainR (clearN rs) 6 dom).1, .bool false])
 o : ρ "opposed" = some (.lst ((oppL rs).map pV))
section
variable {C : Prop} {rs : List (List Int)} {ρ : Str → Option V}
theorem LA.elim (h : LA rs ρ) (k : ρ "marks" = some (rowsV .mrk rs) → ρ "handed" = some (rowsV .mrk rs) → ρ "ranks" = some (rowsV .flt (rs.map rkL)) → C) : C := k h.m h.h h.r
theorem LB.elim (h : LB rs ρ) (k : ρ "marks" = some (rowsV .mrk rs) → ρ "ranks" = some (rowsV .flt (rs.map rkL)) → ρ "first" = some (.tup [roundsV (plainR (someN rs) 6 dom).1, .bool (decide ((plainR (someN rs) 6 dom).2 ≠ []))]) →
  ρ "second" = some (.tup [roundsV (plainR (clearN rs) 6 dom).1, .bool false]) → ρ "pairs" = some (.lst ((pairsL rs).map pV)) → C) : C := k h.m h.r h.f h.s h.p
theorem LC.elim (h : LC rs ρ) (k : ρ "marks" = some (rowsV .mrk rs) → ρ "ranks" = some (rowsV .flt (rs.map rkL)) → ρ "first" = some (.tup [roundsV (plainR (someN rs) 6 dom).1, .bool (decide ((plainR (someN rs) 6 dom).2 ≠ []))]) →
  ρ "second" = some (.tup [roundsV (plainR (clearN rs) 6 dom).1, .bool false]) → ρ "opposed" = some (.lst ((oppL rs).map pV)) → C) : C := k h.m h.r h.f h.s h.o
end
theorem rows_lim {rs : List (List Int)} (h3 : rs.length ≤ 3) (w : List Int → V) : (rs.map w).length ≤ lim := by rw [List.length_map]; exact Nat.le_trans h3 (by decide)
theorem row_lim {row : List Int} {w : Int → V} (h5 : row.length = 5) : (row.map w).length ≤ lim := by rw [List.length_map, h5]; decide
theorem nth_row {rs : List (List Int)} {row : List Int} {k : Nat} (h : rs[k]? = some row) (w : List Int → V) : (rs.map w)[(k : Int).toNat]? = some (w row) := by rw [Int.toNat_natCast, List.getElem?_map, h]; rfl
theorem rk_small {m : Int} (h : 2 ≤ m ∧ m ≤ 10) : small (2 * m) = true ∧ 0 ≤ m ∧ m ≤ 18 := ⟨small_of (by omega) (by omega), by omega⟩
theorem rd_small {m : Int} (h : 2 ≤ m ∧ m ≤ 16) : small (2 * (m - 2)) = true ∧ small (2 * (m - 2) + 2 * 2) = true := ⟨small_of (by omega) (by omega), small_of (by omega) (by omega)⟩
theorem pairs_step {p : Int → Bool} {acc acc2 : List V} {d2 : List Int} {i j : Int} (h : acc2 = acc ++ ((d2.filter p).map fun j => (i, j)).map pV) (cc : p j = true) : acc2 ++ [.tup [.int i, .int j]] = acc ++ (((d2 ++ [j]).filter p).map fun j => (i, j)).map pV := by
 rw [h, List.filter_append, List.filter_cons_of_pos cc, List.map_append, List.map_append, List.append_assoc]; rfl
theorem pairs_skip {p : Int → Bool} {acc acc2 : List V} {d2 : List Int} {i j : Int} (h : acc2 = acc ++ ((d2.filter p).map fun j => (i, j)).map pV) (cc : ¬ p j = true) : acc2 = acc ++ (((d2 ++ [j]).filter p).map fun j => (i, j)).map pV := by
 rw [h, List.filter_append, List.filter_cons_of_neg cc, List.filter_nil, List.append_nil]
theorem eq_no {rs : List (List Int)} (no : NoOpp rs) : EqR 8 (.tup [roundsV (plainR (clearN rs) 6 dom).1, .bool false]) (.tup [roundsV (plainR (someN rs) 6 dom).1, .bool (decide ((plainR (someN rs) 6 dom).2 ≠ []))]) true := by
 rw [some_clear no, decide_eq_false fun z => z (ring_some.mpr no)]
 exact eq_pair
theorem opp_cons {rs : List (List Int)} (no : ¬ NoOpp rs) : ((oppL rs).map pV).isEmpty = false := by
 cases hh : oppL rs with
 | nil => exact absurd (opp_nil.mp hh) no
 | cons _ _ => rfl
@[reducible] noncomputable def KL (c : Cx) (F' : Fm) : Kx := ⟨c, 25, true, F', s_law⟩
theorem lt_mrk {rs : List (List Int)} : ∀ r ∈ rs, ∀ x ∈ r, ∀ y ∈ r, LtW V.mrk x y := fun r hr x hx y hy K st Q E q => q_lt rfl rfl q
theorem gt_mrk {rs : List (List Int)} : ∀ r ∈ rs, ∀ x ∈ r, ∀ y ∈ r, GtW V.mrk x y := fun r hr x hx y hy K st Q E q => q_gt rfl rfl q
set_option maxHeartbeats 4000000 in
theorem law_body {c : Cx} {l : Addr} {vs : List Value} {ns : List Int} {F' : Fm} {Q : Fl → St → Prop} {E : X → St → Prop} {σ0 : List O} (h : Opened (KL c F').c) (hc : (KL c F').calm = true) (hb : c.base.IsList l vs.toArray) (hi : IntsAre vs ns) (hl : ns.length ≤ 63) (hQ : ∀ st, Q (.ret (.bool true)) st) :
  SS (KL c F') (bodyOf (at1 28)) ⟨bindsR [(("script" : Str), .glob (.ref l))] fun _ => none, σ0⟩ Q E := by
 have n0 : 0 < (KL c F').n := by show 0 < 25; decide
 have n5 : 5 < (KL c F').n := by show 5 < 25; decide
 refine ss_id ?_
 repeat walk_at "l"
 refine k_marks h hc n0 hb hi hl fun rs σ1 hne h3 h5 => ?_
 have h3' : rs.length ≤ 100 := Nat.le_trans h3 (by decide)
 have hl2 := rows_lim h3
 repeat walk_at "l"
 refine y_acomp hc (fun _ _ => rfl) (by kernel_rfl) (by kernel_rfl) (by kernel_rfl) ?_
 repeat walk_at "l"
 refine y_lst ?_
 refine o_map (f := fun r => V.lst (r.map V.mrk)) (g := fun r => V.lst (r.map V.mrk)) rs h3' (fun _ _ => True) (fun Y row ρ2 σ2 hr _ hY => ?_) (fun ρ2 σ2 _ => ?_) trivial
 ·have hrl := row_lim (w := V.mrk) (h5 row hr)
  intro F1
  repeat walk_at "l"
  intro F2
  repeat walk_at "l"
  exact b_listL hrl (hY _ _ trivial)
 ·skip
  repeat walk_at "l"
  refine s_mid (fun st => LA rs st.ρ) ?_ ?_
  ·refine y_assignC (by kernel_rfl) ?_
   refine y_comp hc (fun _ _ => rfl) (by kernel_rfl) ?_
   repeat walk_at "l"
   refine y_lst ?_
   refine o_map (f := fun r => V.lst (r.map V.mrk)) (g := fun r => V.lst ((rkL r).map V.flt)) rs h3' (fun _ _ => True) (fun Y row ρ3 σ3 hr _ hY => ?_) (fun ρ3 σ3 _ => ?_) trivial
   ·intro F1
    repeat walk_at "l"
    intro F2
    repeat walk_at "l"
    refine k_rank_up (K := ((KL c F').inn _).at F2) (g := keyV) h hc n5 (by rw [List.length_map, h5 row hr]) (key_mrk row) fun σ4 => ?_
    rw [ranks_mrk]
    exact hY _ _ trivial
   ·repeat walk_at "l"
    refine ⟨?_, ?_, ?_⟩
    ·unfold rowsV; walk_at "mr"
    ·unfold rowsV; walk_at "mr"
    ·unfold rowsV; rw [List.map_map]
     show _ = some (V.lst (rs.map fun r => V.lst ((rkL r).map V.flt)))
     walk_at "mr"
  intro st hP
  refine hP.elim fun m1 m2 m3 => ?_
  refine s_consM (fun st => LA rs st.ρ) ?_ ?_
  ·refine y_for (fun _ _ => rfl) ?_
   repeat walk_at "l"
   refine b_lenL (xs := rs.map fun r => V.lst (r.map V.mrk)) (hl2 _) ?_
   repeat walk_at "l"
   refine b_range (Int.natCast_nonneg _) ?_
   rw [List.length_map, Int.toNat_natCast]
   refine o_items (f := fun (k : Nat) => V.int (k : Int)) hc (List.range rs.length) rfl (fun _ ρ4 _ => LA rs ρ4) (.rng (Nat.le_trans h3 (by decide))) ⟨m1, m2, m3⟩ (fun I Q2 E2 hI _ x0 dk k rest ρ4 σ4 hdk hP => ?_) (fun ρ4 σ4 hP => hP)
   have hk : k < rs.length := List.mem_range.mp (hdk ▸ List.mem_append_right _ (List.mem_cons_self ..))
   refine hP.elim fun m1 m2 m3 => ?_
   refine row_el hk fun row hrow hrk => ?_
   have hr5 := h5 row hrow
   have hat := nth_row hrk
   repeat walk_at "l"
   refine y_comp (K := (KL c F').plus x0) hc (fun _ _ => rfl) (by kernel_rfl) ?_
   repeat walk_at "l"
   refine g_lst (xs := (rs.map rkL).map fun r => V.lst (r.map V.flt)) (by rw [List.map_map]; exact hl2 _) (Int.natCast_nonneg k) (by rw [List.map_map]; exact hat _) ?_
   refine y_lst ?_
   refine o_map (f := V.flt) (g := fun m => V.flt (2 * m)) (rkL row) (by unfold rkL; rw [List.length_map, hr5]; decide) (fun _ _ => True) (fun Y m ρ5 σ5 hm _ hY => ?_) (fun ρ5 σ5 _ => ?_) trivial
   ·have hm := rk_small (rkL_range hr5 m hm)
    intro F1
    repeat walk_at "l"
    intro F2
    repeat walk_at "l"
    exact o_mulF (a := .none) hm.1 (hY _ _ trivial)
   repeat walk_at "l"
   refine g_lst (xs := rs.map fun r => V.lst (r.map V.mrk)) (hl2 _) (Int.natCast_nonneg k) (hat _) ?_
   repeat walk_at "l"
   refine k_twice (K := (KL c F').plus x0) (g := keyV) h hc n0 (by rw [List.length_map, hr5]; decide) (of_map fun _ _ => rfl) ?_
   rw [ranks_mrk]
   refine q_ne (eq_map fun m hm => eq_half (rk_small (rkL_range hr5 m hm)).2) ?_
   repeat walk_at "l"
   refine g_lst (xs := rs.map fun r => V.lst (r.map V.mrk)) (hl2 _) (Int.natCast_nonneg k) (hat _) ?_
   repeat walk_at "l"
   refine k_rank_dn (K := (KL c F').plus x0) (g := keyV) h hc n5 (by rw [List.length_map, hr5]) (key_mrk row) fun σ6 => ?_
   refine turn_el hr5 fun rd hrd htn hng => ?_
   rw [htn]
   repeat walk_at "l"
   refine y_comp (K := (KL c F').plus x0) hc (fun _ _ => rfl) (by kernel_rfl) ?_
   repeat walk_at "l"
   refine y_lst ?_
   refine o_map (f := fun x => V.flt (rd x - 2)) (g := fun x => V.flt (2 * (rd x - 2) + 2 * 2)) row (by rw [hr5]; decide) (fun _ _ => True) (fun Y m ρ6 σ6 hm _ hY => ?_) (fun ρ6 σ6 _ => ?_) trivial
   ·have hm := rd_small (hrd m hm)
    intro F1
    repeat walk_at "l"
    intro F2
    repeat walk_at "l"
    refine o_mulF (a := .none) hm.1 ?_
    repeat walk_at "l"
    exact o_addFI rfl (by decide) hm.1 hm.2 (hY _ _ trivial)
   repeat walk_at "l"
   refine y_comp (K := (KL c F').plus x0) hc (fun _ _ => rfl) (by kernel_rfl) ?_
   repeat walk_at "l"
   refine g_lst (xs := rs.map fun r => V.lst (r.map V.mrk)) (hl2 _) (Int.natCast_nonneg k) (hat _) ?_
   refine y_lst ?_
   refine o_map (f := V.mrk) (g := fun x => V.int (-x)) row (by rw [hr5]; decide) (fun _ _ => True) (fun Y m ρ7 σ7 hm _ hY => ?_) (fun ρ7 σ7 _ => ?_) trivial
   ·intro F1
    repeat walk_at "l"
    intro F2
    repeat walk_at "l"
    exact hY _ _ trivial
   repeat walk_at "l"
   refine k_twice (K := (KL c F').plus x0) (g := keyV) h hc n0 (by rw [List.length_map, hr5]; decide) (of_map fun _ _ => rfl) ?_
   rw [hng]
   refine q_ne (eq_map fun m hm => eq_turn (hrd m hm)) ?_
   repeat walk_at "l"
   refine hI _ _ _ ⟨?_, ?_, ?_⟩
   ·walk_at "mr"
   ·walk_at "mr"
   ·walk_at "mr"
  clear m1 m2 m3
  intro st hP
  refine hP.elim fun m1 m2 m3 => ?_
  refine ss_id ?_
  repeat walk_at "l"
  refine q_ne (eq_rows fun i k => eq_num rfl rfl) ?_
  repeat walk_at "l"
  refine rk_facts h3 h5 fun h3R h5R hltR hgtR => ?_
  refine k_some h hc n0 h3R h5R hltR ?_
  repeat walk_at "l"
  refine k_rounds h hc n5 (fun j hj b hb => (mem_some.mp hb).1) (fun j _ => some_len h3R j) fun σ7 => ?_
  rw [some_rk h5]
  repeat walk_at "l"
  refine k_all h hc n0 h3R h5R hltR hgtR fun σ8 => ?_
  repeat walk_at "l"
  refine k_rounds h hc n5 (fun j hj b hb => (mem_clear.mp hb).1) (fun j _ => clear_len j) fun σ9 => ?_
  rw [clear_rk h5, ring_clear]
  rw [show decide (([] : List Int) ≠ []) = false from rfl]
  repeat walk_at "l"
  refine s_mid (fun st => LB rs st.ρ) ?_ ?_
  ·refine y_assignC (by kernel_rfl) ?_
   refine y_comp hc (fun _ _ => rfl) (by kernel_rfl) ?_
   repeat walk_at "l"
   refine b_range (by decide) (y_it (.rng (by decide)) ?_)
   refine o_each (f := V.int) (CB.mono _) dom (fun d acc ρ5 σ5 => acc = (d.flatMap fun i => (dom.filter fun j => rs.any fun r => decide (cell r i < cell r j)).map fun j => (i, j)).map pV ∧ ρ5 "marks" = some (rowsV .mrk rs)) (fun I hI d i rest acc ρ5 σ5 e hP => ?_) (fun acc ρ5 σ5 hP => ?_) ⟨rfl, ?_⟩
   ·have hi : i ∈ dom := e ▸ List.mem_append_right _ (List.mem_cons_self ..)
    have k4 := hP.2
    intro F1
    repeat walk_at "l"
    refine te_nil ⟨rfl, fun _ _ => rfl, fun F4 => ?_⟩
    repeat walk_at "l"
    refine b_range (by decide) ⟨_, _, .rng (by decide), ?_⟩
    refine o_each (f := V.int) (CB.mono _) dom (fun d2 acc2 ρ6 σ6 => acc2 = acc ++ ((d2.filter fun j => rs.any fun r => decide (cell r i < cell r j)).map fun j => (i, j)).map pV ∧ ρ6 "marks" = some (rowsV .mrk rs) ∧ ρ6 "i" = some (.int i)) (fun I3 hI3 d2 j rest2 acc2 ρ6 σ6 e2 hP2 => ?_) (fun acc2 ρ6 σ6 hP2 => ?_) ⟨(List.append_nil _).symm, ?_, ?_⟩
    ·have hj : j ∈ dom := e2 ▸ List.mem_append_right _ (List.mem_cons_self ..)
     refine a3 hP2 fun i3 i4 i5 => ?_
     intro F5
     repeat walk_at "l"
     refine te_cons fun F2 => ?_
     repeat walk_at "l"
     refine y_comp (K := (((KL c F').inn _).at F2)) hc (fun _ _ => rfl) (by kernel_rfl) ?_
     repeat walk_at "l"
     refine y_lst ?_
     refine o_sel (f := fun r => .lst (r.map V.mrk)) (g := fun r => .lst (r.map V.mrk)) (fun r => decide (cell r i < cell r j)) rs h3' (fun ρ7 _ => ρ7 "j" = some (.int j) ∧ ρ7 "i" = some (.int i)) (fun Y3 Z3 row ρ7 σ7 hr hP3 hY3 hZ3 => ?_) (fun ρ7 σ7 hP3 => ?_) ⟨?_, ?_⟩
     ·have n4 := hP3.1
      have n5 := hP3.2
      have hr5 := h5 row hr
      have hrl := row_lim (w := V.mrk) hr5
      intro F6
      repeat walk_at "l"
      refine te_cons fun F7 => ?_
      repeat walk_at "l"
      refine g_lst hrl (mem_dom.mp hi).1 (cell_at hr5 hi) ?_
      repeat walk_at "l"
      refine g_lst hrl (mem_dom.mp hj).1 (cell_at hr5 hj) ?_
      repeat walk_at "l"
      by_cases cc : cell row i < cell row j
      ·refine ifT (decide_eq_true cc) (te_nil fun F8 => ?_)
       repeat walk_at "l"
       refine hY3 (decide_eq_true cc) _ _ ⟨?_, ?_⟩
       ·walk_at "mr"
       ·walk_at "mr"
      ·refine ifF (decide_eq_false cc) (hZ3 (decide_eq_false cc) _ _ ⟨?_, ?_⟩)
       ·walk_at "mr"
       ·walk_at "mr"
     ·repeat walk_at "l"
      refine x_list ?_
      repeat walk_at "l"
      refine q_ne eq_nil ?_
      repeat walk_at "l"
      rw [any_filter, Bool.not_not]
      by_cases cc : (rs.any fun r => decide (cell r i < cell r j)) = true
      ·refine ifT cc (te_nil (cb_elt fun F8 => ?_))
       repeat walk_at "l"
       refine ⟨pairs_ok hP.1 i3 e e2, hI3 _ _ _ _ ⟨pairs_step i3 cc, ?_, ?_⟩⟩
       ·walk_at "mr"
       ·walk_at "mr"
      ·refine ifF (Bool.not_eq_true _ ▸ cc) (hI3 _ _ _ _ ⟨pairs_skip i3 cc, ?_, ?_⟩)
       ·walk_at "mr"
       ·walk_at "mr"
     ·walk_at "mr"
     ·walk_at "mr"
    ·exact hI _ _ _ _ ⟨by rw [hP2.1, hP.1, List.flatMap_append, List.map_append, List.flatMap_cons, List.flatMap_nil, List.append_nil], hP2.2.1⟩
    ·walk_at "mr"
    ·walk_at "mr"
   ·have hpl : (dom.flatMap fun i => (dom.filter fun j => rs.any fun r => decide (cell r i < cell r j)).map fun j => (i, j)) = pairsL rs := rfl
    rw [hP.1, hpl]
    repeat walk_at "l"
    refine ⟨?_, ?_, ?_, ?_, ?_⟩
    ·walk_at "mr"
    ·walk_at "mr"
    ·walk_at "mr"
    ·walk_at "mr"
    ·walk_at "mr"
   ·walk_at "mr"
  clear m1 m2 m3
  intro st hP
  refine hP.elim fun m1 m2 m3 m4 m5 => ?_
  refine s_consM (fun st => LC rs st.ρ) ?_ ?_
  ·refine y_acomp hc (fun _ _ => rfl) (by kernel_rfl) (by kernel_rfl) (by kernel_rfl) ?_
   repeat walk_at "l"
   refine y_lst ?_
   refine o_sel (f := pV) (g := pV) (fun p => decide ((p.2, p.1) ∈ pairsL rs)) (pairsL rs) (Nat.le_trans (pairs_len rs dom) (by decide)) (fun ρ6 _ => ρ6 "pairs" = some (.lst ((pairsL rs).map pV))) (fun Y Z p ρ6 σ6 hp n4 hY hZ => ?_) (fun ρ6 σ6 _ => ?_) ?_
   ·intro F1
    refine ta_two (v := .int p.1) (w := .int p.2) (K := ((KL c F').inn _).at F1) hc (fun _ => rfl) ?_
    repeat walk_at "l"
    refine te_cons fun F2 => ?_
    repeat walk_at "l"
    refine q_inP ?_
    repeat walk_at "l"
    by_cases cc : (p.2, p.1) ∈ pairsL rs
    ·refine ifT (decide_eq_true cc) (te_nil fun F8 => ?_)
     repeat walk_at "l"
     refine hY (decide_eq_true cc) _ _ ?_
     walk_at "mr"
    ·refine ifF (decide_eq_false cc) (hZ (decide_eq_false cc) _ _ ?_)
     walk_at "mr"
   ·skip
    have hop : ((pairsL rs).filter fun p => decide ((p.2, p.1) ∈ pairsL rs)) = oppL rs := rfl
    rw [hop]
    repeat walk_at "l"
    refine ⟨?_, ?_, ?_, ?_, ?_⟩
    ·walk_at "mr"
    ·walk_at "mr"
    ·walk_at "mr"
    ·walk_at "mr"
    ·walk_at "mr"
   ·walk_at "mr"
  clear m1 m2 m3 m4 m5
  intro st hP
  refine hP.elim fun m1 m2 m3 m4 m5 => ?_
  refine s_consM (fun st => LC rs st.ρ) ?_ ?_
  ·repeat walk_at "l"
   refine x_list ?_
   repeat walk_at "l"
   refine q_ne eq_nil ?_
   rw [ring_opp]
   refine q_ne (.bool _ _) ?_
   rw [beq_self_eq_true]
   repeat walk_at "l"
   exact hP
  clear m1 m2 m3 m4 m5
  intro st hP
  refine hP.elim fun m1 m2 m3 m4 m5 => ?_
  refine s_consM (fun st => LC rs st.ρ) ?_ ?_
  ·repeat walk_at "l"
   refine x_list ?_
   repeat walk_at "l"
   refine q_eq eq_nil ?_
   repeat walk_at "l"
   by_cases no : NoOpp rs
   ·have ho : oppL rs = [] := opp_nil.mpr no
    refine ifT (by rw [ho]; rfl) ?_
    repeat walk_at "l"
    refine k_due h hc n0 (fun g hg => plain_groups 6 dom g hg) fun σ10 => ?_
    rw [due_sums no]
    repeat walk_at "l"
    refine y_acomp hc (fun _ _ => rfl) (by kernel_rfl) (by kernel_rfl) (by kernel_rfl) ?_
    repeat walk_at "l"
    refine b_range (by decide) (y_it (.rng (by decide)) ?_)
    refine o_map (f := V.int) (g := fun i => V.flt (sumC (rs.map rkL) i)) dom (by decide) (fun ρ7 _ => ρ7 "ranks" = some (rowsV .flt (rs.map rkL))) (fun Y i ρ7 σ7 hi k4 hY => ?_) (fun ρ7 σ7 _ => ?_) ?_
    ·intro F1
     repeat walk_at "l"
     intro F2
     repeat walk_at "l"
     refine y_comp (K := (((KL c F').inn _).at F2)) hc (fun _ _ => rfl) (by kernel_rfl) ?_
     repeat walk_at "l"
     refine y_lst ?_
     refine rk_facts h3 h5 fun h3R h5R _ _ => ?_
     refine o_map (f := fun r => .lst (r.map V.flt)) (g := fun r => V.flt (cell r i)) (rs.map rkL) (Nat.le_trans h3R (by decide)) (fun ρ8 _ => ρ8 "item" = some (.int i)) (fun Y3 row ρ8 σ8 hr n4 hY3 => ?_) (fun ρ8 σ8 _ => ?_) ?_
     ·have hr5 := h5R row hr
      have hrl := row_lim (w := V.flt) hr5
      intro F6
      repeat walk_at "l"
      intro F7
      repeat walk_at "l"
      refine g_lst hrl (mem_dom.mp hi).1 (cell_at hr5 hi) (hY3 _ _ ?_)
      walk_at "mr"
     ·rw [show ((rs.map rkL).map fun r => V.flt (cell r i)) = ((rs.map rkL).map fun r => cell r i).map V.flt from (List.map_map ..).symm]
      repeat walk_at "l"
      refine b_sum (z := sumC (rs.map rkL) i) hc (fun z => hne (List.map_eq_nil_iff.mp (List.map_eq_nil_iff.mp z))) (sum_halves h3 h5 hi) (hY _ _ ?_)
      walk_at "mr"
     ·walk_at "mr"
    ·skip
     rw [show (dom.map fun i => V.flt (sumC (rs.map rkL) i)) = (dom.map (sumC (rs.map rkL))).map V.flt from (List.map_map ..).symm]
     repeat walk_at "l"
     refine y_acomp hc (fun _ _ => rfl) (by kernel_rfl) (by kernel_rfl) (by kernel_rfl) ?_
     repeat walk_at "l"
     refine b_range (by decide) (y_it (.rng (by decide)) ?_)
     refine o_map (f := V.int) (g := colV rs) dom (by decide) (fun ρ8 _ => ρ8 "marks" = some (rowsV .mrk rs)) (fun Y i ρ8 σ8 hi k4 hY => ?_) (fun ρ8 σ8 _ => ?_) ?_
     ·intro F1
      repeat walk_at "l"
      intro F2
      repeat walk_at "l"
      refine y_comp (K := (((KL c F').inn _).at F2)) hc (fun _ _ => rfl) (by kernel_rfl) ?_
      repeat walk_at "l"
      refine y_lst ?_
      refine o_map (f := fun r => .lst (r.map V.mrk)) (g := fun r => V.mrk (cell r i)) rs h3' (fun ρ9 _ => ρ9 "item" = some (.int i)) (fun Y3 row ρ9 σ9 hr n4 hY3 => ?_) (fun ρ9 σ9 _ => ?_) ?_
      ·have hr5 := h5 row hr
       have hrl := row_lim (w := V.mrk) hr5
       intro F6
       repeat walk_at "l"
       intro F7
       repeat walk_at "l"
       refine g_lst hrl (mem_dom.mp hi).1 (cell_at hr5 hi) (hY3 _ _ ?_)
       walk_at "mr"
      ·refine hY _ _ ?_
       walk_at "mr"
      ·walk_at "mr"
     ·skip
      repeat walk_at "l"
      refine q_ne (eq_no no) ?_
      repeat walk_at "l"
      have hdue : ∀ m ∈ dom.map (rkT (sumC rs)), 2 ≤ m ∧ m ≤ 10 := fun m hm => by
       obtain ⟨i, hi, rfl⟩ := List.mem_map.mp hm
       exact rkT_range hi
      refine y_comp hc (fun _ _ => rfl) (by kernel_rfl) ?_
      repeat walk_at "l"
      refine k_rank_up (g := keyV) h hc n5 (by rw [List.length_map, List.length_map]; rfl) (key_flt (sums_small h3 h5)) fun σ11 => ?_
      rw [sums_ranks h5 no]
      refine y_lst ?_
      refine o_map (f := V.flt) (g := fun m => .flt (2 * m)) (dom.map (rkT (sumC rs))) (by rw [List.length_map]; decide) (fun _ _ => True) (fun Y m ρ9 σ9 hm _ hY => ?_) (fun ρ9 σ9 _ => ?_) trivial
      ·have hm := rk_small (hdue m hm)
       intro F1
       repeat walk_at "l"
       intro F2
       repeat walk_at "l"
       exact o_mulF (a := .none) hm.1 (hY _ _ trivial)
      repeat walk_at "l"
      refine q_ne (eq_map fun m hm => eq_half (rk_small (hdue m hm)).2) ?_
      repeat walk_at "l"
      refine y_comp hc (fun _ _ => rfl) (by kernel_rfl) ?_
      repeat walk_at "l"
      refine k_rank_up (g := keyV) h hc n5 (by rw [List.length_map]; rfl) (key_cols no) fun σ12 => ?_
      rw [cols_ranks]
      refine y_lst ?_
      refine o_map (f := V.flt) (g := fun m => .flt (2 * m)) (dom.map (rkT (sumC rs))) (by rw [List.length_map]; decide) (fun _ _ => True) (fun Y m ρ9 σ9 hm _ hY => ?_) (fun ρ9 σ9 _ => ?_) trivial
      ·have hm := rk_small (hdue m hm)
       intro F1
       repeat walk_at "l"
       intro F2
       repeat walk_at "l"
       exact o_mulF (a := .none) hm.1 (hY _ _ trivial)
      repeat walk_at "l"
      refine q_ne (eq_map fun m hm => eq_half (rk_small (hdue m hm)).2) ?_
      repeat walk_at "l"
      refine ⟨?_, ?_, ?_, ?_, ?_⟩
      ·walk_at "mr"
      ·walk_at "mr"
      ·walk_at "mr"
      ·walk_at "mr"
      ·walk_at "mr"
     ·walk_at "mr"
    ·walk_at "mr"
   ·refine ifF (opp_cons no) ?_
    repeat walk_at "l"
    exact hP
  clear m1 m2 m3 m4 m5
  intro st hP
  refine hP.elim fun m1 m2 m3 m4 m5 => ?_
  refine ss_id ?_
  repeat walk_at "l"
  refine k_some h hc n0 h3 h5 lt_mrk ?_
  repeat walk_at "l"
  refine k_plain h hc n0 fun σ20 => ?_
  refine q_eq eq_pair ?_
  repeat walk_at "l"
  refine k_all h hc n0 h3 h5 lt_mrk gt_mrk fun σ21 => ?_
  repeat walk_at "l"
  refine k_plain h hc n0 fun σ22 => ?_
  rw [ring_clear, show decide (([] : List Int) ≠ []) = false from rfl]
  refine q_eq eq_pair ?_
  repeat walk_at "l"
  exact hQ _
theorem law_walk {c : Cx} {l : Addr} {vs : List Value} {ns : List Int} (h : Opened c) (hb : c.base.IsList l vs.toArray) (hi : IntsAre vs ns) (hl : ns.length ≤ 63) : LawOk c l :=
 fun F' hF => law_body (F' := F') h rfl hb hi hl fun _ => rfl
end
end Mine
end
section
open PySem PySem.W PyProof.Rows
set_option maxHeartbeats 8000000
namespace Mine
def Asked : Prop := ∀ (c : Cx), Opened c → ∀ (l : Addr) (vs : List Value) (ns : List Int), c.base.IsList l vs.toArray → IntsAre vs ns → ns.length ≤ 63 → LawOk c l
theorem lawAll : Asked := fun c h l vs ns hb hi hl => law_walk h hb hi hl
def top.tw18164388396756303480 := ()
def top.tw1139600151236580504 := ()
def top.tw10996937224433265937 := ()
def top.tw16104615914030681952 := ()
def top.tw18186074749648716422 := ()
def top.tw18085771088847121727 := ()
def top.tw705360758644809490 := ()
def top.tw6368444912582307175 := ()
def top.tw8107780213005350392 := ()
def top.tw8657480035899644758 := ()
def top.tw3969286963782609292 := ()
def top.tw8237333600419904120 := ()
def top.tw9437893007894698314 := ()
def top.tw10915162052029792233 := ()
def top.tw10936122117785486979 := ()
def top.tw17810072253543177317 := ()
def top.tw13177472732611162249 := ()
def top.tw7444641836354208208 := ()
def top.tw6859976401760118174 := ()
def top.tw14402358008270493973 := ()
def top.tw14371913498598963198 := ()
def top.tw14917401599646851644 := ()
def top.tw10773188271377071773 := ()
def top.tw12415523145999629524 := ()
def top.tw15177526630643400193 := ()
def top.tw9962302188120564619 := ()
def top.tw2822501910515967889 := ()
def top.tw1284575025550258836 := ()
def top.tw5766051744304087583 := ()
def top.tw5135275324214544563 := ()
def top.tw14372152842798730730 := ()
def top.tw1516213087968936877 := ()
def top.tw8148004212497801138 := ()
def top.tw13369591340354186047 := ()
def top.tw987869383939708018 := ()
def top.tw10346583481516643702 := ()
def top.tw8640399195822439974 := ()
def top.tw5118827330378232414 := ()
def top.tw12094960947251128927 := ()
def top.tw7990429038631628895 := ()
def top.tw13501252493785611398 := ()
def top.tw4985058935396193736 := ()
def top.tw339143206060000330 := ()
def top.tw6756868429301003459 := ()
def top.tw1212798325632107971 := ()
def top.tw5667650583090716360 := ()
def top.tw17470836177267949868 := ()
def top.tw17046948494117081484 := ()
def top.tw6610085992087608168 := ()
def top.tw15877122091014420850 := ()
def top.tw4655869559712951663 := ()
def top.tw12080426169559351053 := ()
def top.tw16666122058527598403 := ()
def top.tw1706793611546318481 := ()
def top.tw4498253355057717688 := ()
def top.tw13091174067606910046 := ()
def top.tw3584897518013459382 := ()
def top.tw53344730913325255 := ()
def top.tw6749217079512962374 := ()
def top.tw14399976873020721970 := ()
def top.tw16713831800681072344 := ()
def top.tw16795567611416646642 := ()
def top.tw15878805988109762761 := ()
def top.tw1047907039808853306 := ()
def top.tw956942650209027819 := ()
def top.tw11141966352661209427 := ()
def top.tw8973803690348224638 := ()
def top.tw18194552166560175392 := ()
def top.tw8443935842833279946 := ()
def top.tw13272337422414781067 := ()
def top.tw8813761850579938390 := ()
def top.tw427269002284569659 := ()
def top.tw9961057766049560675 := ()
def top.tw594810645892935528 := ()
def top.tw10987319290404115282 := ()
def top.tw2249405535684624136 := ()
def top.tw2007660962349395123 := ()
def top.tw11133666699803404755 := ()
def top.tw5105846836358774362 := ()
def top.tw8107277231737898597 := ()
def top.tw12622177474791663080 := ()
def top.tw2508421608060233526 := ()
def top.tw16878204669230926818 := ()
def top.tw15362295582089109014 := ()
def top.tw13420762306968818387 := ()
def top.tw2514443458684651071 := ()
def top.tw6761616313442571491 := ()
def top.tw7389250965806765224 := ()
def top.tw5225916559131626549 := ()
def top.tw8679839319945467846 := ()
def top.tw13083224199667937846 := ()
def top.tw16885616592811714743 := ()
def top.tw6885214360128481674 := ()
def top.tw9229161468869434483 := ()
def top.tw6430265229019958763 := ()
def top.tw7557910624720293991 := ()
def top.tw11199710921928265848 := ()
def top.tw453181688931711583 := ()
def top.tw2988451766255067171 := ()
def top.tw7429413206186439793 := ()
def top.tw15740088241188596515 := ()
def top.tw8140125068956082859 := ()
def top.tw7600245330811189008 := ()
def top.tw5491692252707697346 := ()
def top.tw17177869089781658578 := ()
def top.tw17565814175750979855 := ()
def top.tw2741389259953327712 := ()
def top.tw14861896470697024400 := ()
def top.tw1483126911874232274 := ()
def top.tw4859757453598101857 := ()
def top.tw9503340733035011235 := ()
def top.tw2464713573024523455 := ()
def top.tw4801916741778618903 := ()
def top.tw352232786441526191 := ()
def top.tw8321918168302905379 := ()
def top.tw8265191368974092141 := ()
def top.tw11199532085631943738 := ()
def top.tw7458633546980236471 := ()
def top.tw11423202765487971197 := ()
def top.tw1195175773429642966 := ()
def top.tw10567129059001840431 := ()
def top.tw289051476735527038 := ()
def top.tw1638113669730673903 := ()
def top.tw6899488460726452626 := ()
def top.tw15860264024139754761 := ()
def top.tw5860347150701562758 := ()
def top.tw887695700811335699 := ()
def top.tw8689318265317240412 := ()
def top.tw1869187583165140508 := ()
def top.tw620129878449983639 := ()
def top.tw4205137553216949640 := ()
def top.tw12535971307161669396 := ()
def top.tw11102211075282905558 := ()
def top.tw7250933059871147345 := ()
def top.tw18237780215024852062 := ()
def top.tw13698093540088096225 := ()
def top.tw13068111086705522682 := ()
def top.tw4680269561136488386 := ()
def top.tw15058813355848621054 := ()
def top.tw12385144161495827662 := ()
def top.tw12376051458212225564 := ()
def top.tw3855276242980373810 := ()
def top.tw3337584539547039419 := ()
def top.tw15299407806266782574 := ()
def top.tw6505410396798821541 := ()
def top.tw17315540178315561739 := ()
def top.tw13889309363888878346 := ()
def top.tw12105128591322288922 := ()
def top.tw9108098604805947806 := ()
def top.tw10648311167861321448 := ()
def top.tw381845443943030031 := ()
def top.tw15646934709686841381 := ()
def top.tw6664487174759623829 := ()
def top.tw11960245374511038805 := ()
def top.tw16840627104734473223 := ()
def top.tw6898770573198911631 := ()
def top.tw11624971203582042403 := ()
def top.tw11466170419677230873 := ()
def top.tw1142415686869020238 := ()
def top.tw6473336682457920079 := ()
def top.tw7198060816514059695 := ()
def top.tw16325430554902658873 := ()
def top.tw76412952228603488 := ()
def top.tw17486766287000646611 := ()
def top.tw9059672392935016618 := ()
def top.tw2581206410525282061 := ()
def top.tw5476889619067714990 := ()
def top.tw1149218181149386328 := ()
def top.tw7008692893051332821 := ()
def top.tw5938664839603501006 := ()
def top.tw9378254376102152143 := ()
def top.tw7360493887585077711 := ()
def top.tw12787338502077490372 := ()
def top.tw9631074621892390191 := ()
def top.tw6211089042160764376 := ()
def top.tw10090393231696489298 := ()
def top.tw13359135706311490777 := ()
def top.tw5225153198818245361 := ()
def top.tw14349089067433371257 := ()
def top.tw16759092144687519636 := ()
def top.tw15470379304558344453 := ()
def top.tw10404823597219466188 := ()
def top.tw2462062305354472974 := ()
def top.tw8184561461823581802 := ()
def top.tw15985961358823992270 := ()
def top.tw8435561252592420358 := ()
def top.tw14390669486469195807 := ()
def top.tw370947364307004932 := ()
def top.tw8410488445778877200 := ()
def top.tw11459358961799972967 := ()
def top.tw1040915598704419856 := ()
def top.tw8345894832289464959 := ()
def top.tw13120753694373217308 := ()
def top.tw16155163154822807229 := ()
def top.tw4269840412008162865 := ()
def top.tw13802547742096326172 := ()
def top.tw4656485037274611717 := ()
def top.tw5523086135645875356 := ()
def top.tw18034075008235765660 := ()
def top.tw12427389293880184781 := ()
def top.tw14608685727046917156 := ()
def top.tw15169761463676818070 := ()
def top.tw11858546649754279707 := ()
def top.tw2924597203103170677 := ()
def top.tw4299629679881509495 := ()
def top.tw11582926029173025856 := ()
def top.tw3561193834555079511 := ()
def top.tw4597200072644226624 := ()
def top.tw11845233108574324481 := ()
def top.tw9063741608606530840 := ()
def top.tw4784893810139332661 := ()
def top.tw12318557346453588183 := ()
def top.tw4213018616267185653 := ()
def top.tw1732150942055357024 := ()
def top.tw13706816188851595723 := ()
def top.tw110587190935186819 := ()
def top.tw8507776931139520737 := ()
def top.tw16174758807025615021 := ()
def top.tw11430207588045935325 := ()
def top.tw9068506458530023791 := ()
def top.tw2287823674025257028 := ()
def top.tw6127594578889010139 := ()
def top.tw14796646475526232899 := ()
def top.tw10864713392326063847 := ()
def top.tw4571971715460732019 := ()
def top.tw15254643099363442306 := ()
def top.tw8810280945414196856 := ()
def top.tw12819366960792805191 := ()
def top.tw12958502747184954254 := ()
def top.tw10448899703829047738 := ()
def top.tw14632489290957082403 := ()
def top.tw15503665604740900718 := ()
def top.tw16044733080236030384 := ()
def top.tw10548783162686979305 := ()
def top.tw575894324575664597 := ()
def top.tw6431110157172167083 := ()
def top.tw17323899518341599180 := ()
def top.tw16580785732701462914 := ()
def top.tw2731995056826638727 := ()
def top.tw2145171640123136144 := ()
def top.tw2732273902793177162 := ()
def top.tw17886615442053742456 := ()
def top.tw16204670001084760307 := ()
def top.tw12540527436937284434 := ()
def top.tw8363718466572441477 := ()
def top.tw1585457916280141200 := ()
def top.tw9524260341145920341 := ()
def top.tw11922380849998532372 := ()
def top.tw788273225186049534 := ()
def top.tw16352630495959832749 := ()
def top.tw8212240652046128837 := ()
def top.tw10008474027749305400 := ()
def top.tw1733831254367769698 := ()
def top.tw390997316461189296 := ()
def top.tw7313339093194340965 := ()
def top.tw18371284783138465269 := ()
def top.tw8694864300669457046 := ()
def top.tw6919701780365589675 := ()
def top.tw9382581127745807760 := ()
def top.tw7830913209206220567 := ()
def top.tw2867133514656366558 := ()
def top.tw17245063709577357528 := ()
def top.tw15240379268576122478 := ()
def top.tw6883741973766446791 := ()
def top.tw6438537300738474071 := ()
def top.tw1492452104121835379 := ()
def top.tw283044589724301 := ()
def top.tw1245559373397905713 := ()
def top.tw16058212318047004132 := ()
def top.tw4713442408853163898 := ()
def top.tw18245740138792012028 := ()
def top.tw501154541418245514 := ()
def top.tw6042063481754889096 := ()
def top.tw2218668502564051296 := ()
def top.tw1736530178072539846 := ()
def top.tw12718909917080609646 := ()
def top.tw8523463495250067690 := ()
def top.tw17555251805378815213 := ()
set_option Elab.async true in
theorem top : PySem.Challenge.rw_ij0181_01.Holds := by
 w_on
 o_law
 o_head (kHook KH asH (fun _ => by kernel_rfl))
 case hw => w_witness2
 k_fill
 intro w s₀ s₁ mg mb G Y fa o pm cd doc dV kV ho hd hcd hD hmg hg args vals as hpre hlay hrd hwl hlo
 have KX := kIn_of Y
 refine Ground.open G ?_
 intro T B D TE TW
 clear D
 wrow_args hpre hlay hrd hwl hlo
 have he := Dflts.none hD rfl
 subst he
 have he := Dflts.noKw hD
 subst he
 rename_i ns _ _ _ _ _ _ _ l vs _ hL _ _ _ hI _ hlen _
 have hop : Opened { prog := PySem.Challenge.rw_ij0181_01.row.prog, w := w, K := KH w.params, mg := mg, mb := mb, base := s₁.heap, os := s₁.os, gens := s₁.gens, drawn := s₁.drawn } :=
  { kin := KX, hK := rfl, g := T.g, b := T.b, nolimit := T.nolimit, builtins := T.builtins, own := (T.own _ (List.mem_of_getElem? (i := 0) rfl)).imp fun C h => h.1.own }
 have hfd := fd_plain hd
 refine wpAny_call (run_law (A := callerA) hop ho hfd rfl rfl rfl rfl rfl hcd (fun A E Q hq => BindsTo.of_eq rfl _ _ _ _ hq) rfl rfl rfl rfl rfl rfl (by decide) (by decide) rfl (lawAll _ hop l vs ns hL hI (by omega)) fun s' k1 k2 k3 => ?_)
 refine GoodW.toG ⟨.inl ⟨_, _, [], rfl, raisesW_false ?_, ReadsW.bool true, ?_, unshared_nil⟩, k1, k3, k2.trans hg⟩
 ·intro ct hct
  cases hct
 ·first | rfl | wrow_post
end Mine
end
end
theorem PySem.Challenge.cw_ij0181_01_holds : PySem.Challenge.rw_ij0181_01.Holds := by
 exact Mine.top
