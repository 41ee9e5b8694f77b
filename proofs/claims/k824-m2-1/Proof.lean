import JvmDerived
import JvmDerived.Pilot.@@N@@Statement
import JvmDerived.Pilot.@@N@@Code
set_option linter.unusedVariables false
set_option linter.unusedSimpArgs false
namespace Jvm.OwnKit
open Sem ClassFile Op Lib Jvm.Free Jvm.Stand Jvm.LawKit Jvm.RoadKit
/-! My own layer: an abstract heap (a list of objects made since the law began) and one rule a bytecode step, each over a law of the library. -/
abbrev oz : Value := .int 0
abbrev ol : Value := .long 0
abbrev rf (n0 i : Nat) : Value := .ref (n0 + i)
abbrev Ob : Type := (Nat × List Value) ⊕ (FieldType × List Value)
abbrev KTab : Type := List (String × List (String × String × String))
def ObAt (Z : State) (K : KTab) (h : Heap) (a : Addr) : Ob → Prop
  | .inl (k, vs) => ∃ C fs, K[k]? = some (C, fs) ∧ Exa Z h a C ∧ vs.length = fs.length ∧ ∀ (j : Nat) (f : String × String × String) (v : Value), fs[j]? = some f → vs[j]? = some v → Fld Z h a f.1 f.2.1 f.2.2 v
  | .inr (ty, vs) => (Exa Z h a ("[" ++ ty.toString) ∧ ∀ v ∈ vs, fits ty v = true) ∧ ∃ c : Cell, Arr Z h a c ty ∧ c.slots = vs.toArray ∧ ∀ C, ty = .object C → Ovr Z c.cls C
def Rel (Z : State) (K : KTab) (n0 : Nat) (h : Heap) (A : List Ob) : Prop := h.size = n0 + A.length ∧ ∀ (i : Nat) (o : Ob), A[i]? = some o → ObAt Z K h (n0 + i) o
def KOk (Z : State) (a0 : Array Value) (K : KTab) : Prop := ∀ (k : Nat) (C : String) (fs : List (String × String × String)), K[k]? = some (C, fs) →
  (∃ n, (Cond.instantiable C n).before a0 Z = true) ∧ (∀ (j : Nat) (f : String × String × String), fs[j]? = some f → Laid Z a0 C f.1 f.2.1 f.2.2 ∧ ∃ t, parseFieldDescriptor f.2.2 = some t) ∧
  ∀ (i j : Nat) (f g : String × String × String), fs[i]? = some f → fs[j]? = some g → i ≠ j → f.2.1 ≠ g.2.1
section Facts
variable {Z : State} {a0 : Array Value} {K : KTab} {h h' : Heap} {a b : Addr} {o o' : Ob} {n0 : Nat} {A : List Ob} {sl : Nat} {v : Value}
theorem ObAt.ext (E : Ext h h') (F : ObAt Z K h a o) : ObAt Z K h' a o := by
  rcases o with ⟨k, vs⟩ | ⟨ty, vs⟩
  · obtain ⟨C, fs, h1, h2, h3, h4⟩ := F
    exact ⟨C, fs, h1, h2.ext E, h3, fun j f v q r => (h4 j f v q r).ext E⟩
  · obtain ⟨⟨h1, hf⟩, c, h2, h3, h4⟩ := F
    exact ⟨⟨h1.ext E, hf⟩, c, h2.ext E, h3, h4⟩
theorem ObAt.other (W : Wr h h' b sl v) (hne : a ≠ b) (F : ObAt Z K h a o) : ObAt Z K h' a o := by
  rcases o with ⟨k, vs⟩ | ⟨ty, vs⟩
  · obtain ⟨C, fs, h1, h2, h3, h4⟩ := F
    exact ⟨C, fs, h1, h2.wr W, h3, fun j f v q r => (h4 j f v q r).other W (Or.inl hne)⟩
  · obtain ⟨⟨h1, hf⟩, c, h2, h3, h4⟩ := F
    exact ⟨⟨h1.wr W, hf⟩, c, h2.other W hne, h3, h4⟩
theorem ObAt.keep {ws : List Addr} (E : Keep h h' ws) (hne : a ∉ ws) (F : ObAt Z K h a o) : ObAt Z K h' a o := by
  rcases o with ⟨k, vs⟩ | ⟨ty, vs⟩
  · obtain ⟨C, fs, h1, h2, h3, h4⟩ := F
    exact ⟨C, fs, h1, h2.keep E, h3, fun j f v q r => (h4 j f v q r).keep E hne⟩
  · obtain ⟨⟨h1, hf⟩, c, h2, h3, h4⟩ := F
    exact ⟨⟨h1.keep E, hf⟩, c, ⟨E.2.1 a c h2.1 hne, h2.2⟩, h3, h4⟩
theorem Rel.keep {i : Nat} (R : Rel Z K n0 h A) (E : Keep h h' [n0 + i]) (hs : h'.size = h.size) (hO : ObAt Z K h' (n0 + i) o') : Rel Z K n0 h' (A.set i o') := by
  refine ⟨by rw [hs, R.1]; simp, fun j o hj => ?_⟩
  by_cases e : i = j
  · subst e
    obtain ⟨hl, -⟩ := List.getElem?_eq_some_iff.mp hj
    rw [List.getElem?_set_self (by simpa using hl)] at hj
    cases hj; exact hO
  · rw [List.getElem?_set_ne e] at hj
    exact (R.2 j o hj).keep E (fun q => e (Nat.add_left_cancel (List.mem_singleton.mp q)).symm)
theorem ObAt.exa {k : Nat} {vs : List Value} {C : String} {fs : List (String × String × String)} (hk : K[k]? = some (C, fs)) (F : ObAt Z K h a (.inl (k, vs))) : Exa Z h a C := by
  obtain ⟨C', fs', h1, h2, -⟩ := F
  cases hk.symm.trans h1; exact h2
theorem Rel.push (R : Rel Z K n0 h A) (E : Ext h h') (hs : h'.size = n0 + (A.length + 1)) (hN : ObAt Z K h' (n0 + A.length) o) : Rel Z K n0 h' (A ++ [o]) := by
  refine ⟨by rw [hs]; simp, fun i o' hi => ?_⟩
  by_cases hlt : i < A.length
  · rw [List.getElem?_append_left hlt] at hi; exact (R.2 i o' hi).ext E
  · rw [List.getElem?_append_right (by omega)] at hi
    have he : i - A.length = 0 := by
      have := (List.getElem?_eq_some_iff.mp hi).1
      simp at this; omega
    rw [he] at hi
    cases hi
    have : i = A.length := by omega
    rw [this]; exact hN
theorem Rel.set {i : Nat} (R : Rel Z K n0 h A) (W : Wr h h' (n0 + i) sl v) (hO : ObAt Z K h' (n0 + i) o') : Rel Z K n0 h' (A.set i o') := by
  refine ⟨by rw [W.size, R.1]; simp, fun j o hj => ?_⟩
  by_cases e : i = j
  · subst e
    obtain ⟨hl, -⟩ := List.getElem?_eq_some_iff.mp hj
    rw [List.getElem?_set_self (by simpa using hl)] at hj
    cases hj; exact hO
  · rw [List.getElem?_set_ne e] at hj
    exact (R.2 j o hj).other W (fun q => e (Nat.add_left_cancel q).symm)
theorem ObAt.setF (KK : KOk Z a0 K) {k j : Nat} {vs : List Value} {C : String} {fs : List (String × String × String)} {f : String × String × String} (hk : K[k]? = some (C, fs)) (hj : fs[j]? = some f) (W : Wr h h' a (RoadKit.slotOf Z f.1 f.2.1 f.2.2) v) (F : ObAt Z K h a (.inl (k, vs))) : ObAt Z K h' a (.inl (k, vs.set j v)) := by
  obtain ⟨C', fs', h1, h2, h3, h4⟩ := F
  cases hk.symm.trans h1
  refine ⟨C, fs, hk, h2.wr W, by simpa using h3, fun j' f' v' q r => ?_⟩
  by_cases e : j = j'
  · subst e
    cases hj.symm.trans q
    have hl : j < vs.length := by rw [h3]; exact (List.getElem?_eq_some_iff.mp hj).1
    rw [List.getElem?_set_self hl] at r
    cases r
    exact (h4 j f vs[j] hj (List.getElem?_eq_getElem hl)).same W
  · rw [List.getElem?_set_ne e] at r
    obtain ⟨-, k2, k3⟩ := KK k C fs hk
    obtain ⟨L1, t1, p1⟩ := k2 j f hj
    obtain ⟨L2, t2, p2⟩ := k2 j' f' q
    exact (h4 j' f' v' q r).other W (Or.inr (slot_ne L2 L1 (k3 j' j f' f q hj (Ne.symm e)) p2 p1))
theorem ObAt.setA {ty : FieldType} {vs : List Value} {j : Nat} (W : Wr h h' a j v) (hv : fits ty v = true) (F : ObAt Z K h a (.inr (ty, vs))) : ObAt Z K h' a (.inr (ty, vs.set j v)) := by
  obtain ⟨⟨h1, hf⟩, c, h2, h3, h4⟩ := F
  refine ⟨⟨h1.wr W, fun w hw => ?_⟩, c.setSlot j v, h2.same W, ?_, h4⟩
  · rcases List.mem_or_eq_of_mem_set hw with q | rfl
    · exact hf w q
    · exact hv
  simp [Cell.setSlot, h3]
end Facts
/-! ## The walk -/
def Go (p : Program) (l : Launch) (e : Env) (R : Room) (s : State) (m : MethodId) (args : Array Value) (below : List Frame) (meth : Method) (c : Code) (Z : State) (K : KTab) (n0 : Nat) (Q : Option Value → List Ob → Prop)
    (pc : Nat) (ls : Array Slot) (st : List Value) (A : List Ob) (k n : Nat) : Prop :=
  ∀ (T : State) (locs : List Loc), Stand p l e R s m args below meth c T locs k n → Rel Z K n0 T.heap A → Fr n0 locs →
    ∃ s₂ o, Steps p.tables e below (T.setTop (mkF m pc ls st)) s₂ ∧ s₂.status = .running ∧ Ended s₂ below o ∧ ∃ v L, o = .returned v ∧ (∃ A', Q v A' ∧ Rel Z K n0 s₂.heap A' ∧ Fr n0 L) ∧ FrameEnd s o s₂ L R.cells R.slots
abbrev GoT : Type := Nat → Array Slot → List Value → List Ob → Nat → Nat → Prop
def IsGo (l : Launch) (Z : State) (a0 : Array Value) (K : KTab) (n0 b0 : Nat) (y : MethodName) (bytes : ByteArray) (maxL : Nat) (ret : Option FieldType) (R : Room) (Q : Option Value → List Ob → Prop) (G : GoT) : Prop :=
  ∃ (p : Program) (e : Env) (s : State) (m : MethodId) (args : Array Value) (below : List Frame) (meth : Method) (c : Code), p.tables.exec = Jvm.exec ∧ c.code = bytes ∧ c.maxLocals = maxL ∧ s.vm.findClass y.cls = some m.cls ∧ meth.name = y.name ∧ meth.sig.returnType = ret ∧ meth.locks = false ∧ Z.Warmed39 s.vm ∧ KOk Z a0 K ∧ s.heap.size = n0 + b0 ∧ G = Go p l e R s m args below meth c Z K n0 Q
/-- the contract of a method, by its arguments and the abstract heap -/
def Met (l : Launch) (Z : State) (K : KTab) (n0 : Nat) (y : MethodName) (bytes : ByteArray) (maxL : Nat) (ret : Option FieldType) (R : Room) (as : Array Value) (A : List Ob) (Q : Option Value → List Ob → Prop) : Prop :=
  ∀ (ws : List Jvm.Cond) (h0 : Heap), Rel Z K n0 h0 A → MetFree l y (head1 (Jvm.Cond.code y bytes maxL ret :: ws) R) (fun a U => a = as ∧ Z.Warmed39 U.vm ∧ U.heap = h0) (fun _ _ _ _ _ => True)
    (fun _ U o U' => ∃ v L, o = .returned v ∧ (∃ A', Q v A' ∧ Rel Z K n0 U'.heap A' ∧ Fr n0 L) ∧ FrameEnd U o U' L R.cells R.slots)
def Nx (b : ByteArray) (pc : Nat) (i : Instr) (len pc' : Nat) : Prop := decode b pc = .ok (i, len) ∧ pc' = pc + len
def Bx (b : ByteArray) (pc : Nat) (i : Int → Instr) (t f : Nat) : Prop := ∃ o : Int, decode b pc = .ok (i o, 3) ∧ 0 ≤ (pc : Int) + o ∧ ((pc : Int) + o).toNat = t ∧ f = pc + 3
theorem get_set_self {A : List Ob} {i : Nat} {o o' : Ob} (h : A[i]? = some o) : (A.set i o')[i]? = some o' := List.getElem?_set_self (List.getElem?_eq_some_iff.mp h).1
theorem get_set_ne {A : List Ob} {i j : Nat} {o o' : Ob} (h : A[j]? = some o) (hne : i ≠ j) : (A.set i o')[j]? = some o := by rw [List.getElem?_set_ne hne]; exact h
theorem len_set {A : List Ob} {i N : Nat} {o : Ob} (h : A.length = N) : (A.set i o).length = N := by simpa using h
theorem get_app {A : List Ob} {i : Nat} {o o' : Ob} (h : A[i]? = some o) : (A ++ [o'])[i]? = some o := by rw [List.getElem?_append_left (List.getElem?_eq_some_iff.mp h).1]; exact h
theorem get_last {A : List Ob} {N : Nat} {o : Ob} (h : A.length = N) : (A ++ [o])[N]? = some o := by subst h; simp
theorem len_app {A : List Ob} {N : Nat} {o : Ob} (h : A.length = N) : (A ++ [o]).length = N + 1 := by simp [h]
theorem npOf {d : String} {ps : List FieldType} {r : Option FieldType} {n : Nat} (hd : parseMethodDescriptor d = some ⟨ps, r⟩) (hl : n = ps.length) : ∀ sig, parseMethodDescriptor d = some sig → n = sig.parameters.length := fun sig h => by cases hd.symm.trans h; exact hl
theorem leb {a b : Nat} (h : Nat.ble a b = true) : a ≤ b := Nat.le_of_ble_eq_true h
theorem ltb {a b : Nat} (h : Nat.ble (a + 1) b = true) : a < b := Nat.le_of_ble_eq_true h
theorem fa0 {α : Type} {P : α → Prop} : ∀ x ∈ ([] : List α), P x := fun _ q => nomatch q
theorem faS {α : Type} {P : α → Prop} {y : α} {L : List α} (q : P y) (r : ∀ x ∈ L, P x) : ∀ x ∈ y :: L, P x := fun x z => (List.mem_cons.mp z).elim (fun u => u ▸ q) (r x)
theorem kokOf {Z : State} {a0 : Array Value} {K : KTab} (h : ∀ p ∈ K, (∃ n, (Jvm.Cond.instantiable p.1 n).before a0 Z = true) ∧ (∀ f ∈ p.2, Laid Z a0 p.1 f.1 f.2.1 f.2.2 ∧ ∃ t, parseFieldDescriptor f.2.2 = some t) ∧ (p.2.map (·.2.1)).Nodup) : KOk Z a0 K := by
  intro k C fs hk
  obtain ⟨h1, h2, h3⟩ := h _ (List.mem_of_getElem? hk)
  refine ⟨h1, fun j f hj => h2 f (List.mem_of_getElem? hj), fun i j f g hi hj hne e => hne ?_⟩
  have q1 : (fs.map (·.2.1))[i]? = some f.2.1 := by simp [List.getElem?_map, hi]
  have q2 : (fs.map (·.2.1))[j]? = some f.2.1 := by simp [List.getElem?_map, hj, e]
  obtain ⟨l1, e1⟩ := List.getElem?_eq_some_iff.mp q1
  obtain ⟨l2, e2⟩ := List.getElem?_eq_some_iff.mp q2
  have h4 := List.pairwise_iff_getElem.mp h3
  rcases Nat.lt_trichotomy i j with q | q | q
  · exact absurd (e1.trans e2.symm) (h4 i j l1 l2 q)
  · exact q
  · exact absurd (e2.trans e1.symm) (h4 j i l2 l1 q)
def Is (v : Option Value) (A' : List Ob) : Option Value → List Ob → Prop := fun v' B => v' = v ∧ B = A'
theorem i_lt {u v : Int32} {a b : Int} (hu : u.toInt = a) (hv : v.toInt = b) : u < v ↔ a < b := by subst hu hv; exact Int32.lt_iff_toInt_lt
theorem i_ge {u v : Int32} {a b : Int} (hu : u.toInt = a) (hv : v.toInt = b) : ¬ u < v ↔ b ≤ a := by rw [i_lt hu hv]; omega
theorem i_eq {u v : Int32} {a b : Int} (hu : u.toInt = a) (hv : v.toInt = b) : u = v ↔ a = b := by subst hu hv; exact Int32.toInt_inj.symm
theorem i_ne {u v : Int32} {a b : Int} (hu : u.toInt = a) (hv : v.toInt = b) : ¬ u = v ↔ ¬ a = b := not_congr (i_eq hu hv)
theorem j_lt {u v : Int64} {a b : Int} (hu : u.toInt = a) (hv : v.toInt = b) : u < v ↔ a < b := by subst hu hv; exact Int64.lt_iff_toInt_lt
theorem j_ge {u v : Int64} {a b : Int} (hu : u.toInt = a) (hv : v.toInt = b) : ¬ u < v ↔ b ≤ a := by rw [j_lt hu hv]; omega
theorem j_eq {u v : Int64} {a b : Int} (hu : u.toInt = a) (hv : v.toInt = b) : u = v ↔ a = b := by subst hu hv; exact Int64.toInt_inj.symm
theorem j_ne {u v : Int64} {a b : Int} (hu : u.toInt = a) (hv : v.toInt = b) : ¬ u = v ↔ ¬ a = b := not_congr (j_eq hu hv)
theorem x_iadd {a b : Int32} {x y : Int} (ha : a.toInt = x) (hb : b.toInt = y) (h : -2147483648 ≤ x + y ∧ x + y < 2147483648) : (a + b).toInt = x + y := by
  have q := c_iadd a b
  have r := rng32 (a + b)
  rw [ha, hb] at q
  omega
theorem x_isub {a b : Int32} {x y : Int} (ha : a.toInt = x) (hb : b.toInt = y) (h : -2147483648 ≤ x - y ∧ x - y < 2147483648) : (a - b).toInt = x - y := by
  have q := c_isub a b
  have r := rng32 (a - b)
  rw [ha, hb] at q
  omega
theorem x_imul {a b : Int32} {x y : Int} (ha : a.toInt = x) (hb : b.toInt = y) (h : -2147483648 ≤ x * y ∧ x * y < 2147483648) : (a * b).toInt = x * y := by
  have q := c_imul a b
  have r := rng32 (a * b)
  rw [ha, hb] at q
  omega
theorem x_ineg {a : Int32} {x : Int} (ha : a.toInt = x) (h : -2147483648 < x) : (-a).toInt = -x := by
  have q := c_ineg a
  have r := rng32 (-a)
  have r2 := rng32 a
  rw [ha] at q r2
  omega
theorem x_ladd {a b : Int64} {x y : Int} (ha : a.toInt = x) (hb : b.toInt = y) (h : -9223372036854775808 ≤ x + y ∧ x + y < 9223372036854775808) : (a + b).toInt = x + y := by
  have q := c_ladd a b
  have r := rng64 (a + b)
  rw [ha, hb] at q
  omega
theorem x_lsub {a b : Int64} {x y : Int} (ha : a.toInt = x) (hb : b.toInt = y) (h : -9223372036854775808 ≤ x - y ∧ x - y < 9223372036854775808) : (a - b).toInt = x - y := by
  have q := c_lsub a b
  have r := rng64 (a - b)
  rw [ha, hb] at q
  omega
theorem x_lmul {a b : Int64} {x y : Int} (ha : a.toInt = x) (hb : b.toInt = y) (h : -9223372036854775808 ≤ x * y ∧ x * y < 9223372036854775808) : (a * b).toInt = x * y := by
  have q := c_lmul a b
  have r := rng64 (a * b)
  rw [ha, hb] at q
  omega
theorem x_lneg {a : Int64} {x : Int} (ha : a.toInt = x) (h : -9223372036854775808 < x) : (-a).toInt = -x := by
  have q := c_lneg a
  have r := rng64 (-a)
  have r2 := rng64 a
  rw [ha] at q r2
  omega
theorem x_irem {a b : Int32} {x y : Int} (ha : a.toInt = x) (hb : b.toInt = y) (h : 0 ≤ x) : (a % b).toInt = x % y := by
  rw [(c_irem a b y hb).1 (by rw [ha]; exact h), ha]
theorem x_idiv {a b : Int32} {x y : Int} (ha : a.toInt = x) (hb : b.toInt = y) (h : 0 ≤ x) (hy : 0 < y) : (a / b).toInt = x / y := by
  have hm : b ≠ -1 := fun e => by
    have q : (-1 : Int32).toInt = -1 := by decide
    rw [e, q] at hb
    omega
  rw [(c_idiv a b y hb hm).1 (by rw [ha]; exact h), ha]
theorem x_i2l {a : Int32} {x : Int} (ha : a.toInt = x) : (a.toInt64).toInt = x := by rw [c_i2l]; exact ha
theorem x_l2i {a : Int64} {x : Int} (ha : a.toInt = x) (h : -2147483648 ≤ x ∧ x < 2147483648) : (a.toInt32).toInt = x := by
  have q := c_l2i a
  have r := rng32 a.toInt32
  rw [ha] at q
  omega
theorem mod_b {x y : Int} (hy : 0 < y) : 0 ≤ x % y ∧ x % y < y := ⟨Int.emod_nonneg _ (by omega), Int.emod_lt_of_pos _ hy⟩
section Rules
variable {l : Launch} {Z : State} {a0 : Array Value} {K : KTab} {n0 b0 : Nat} {y : MethodName} {bytes : ByteArray} {maxL : Nat} {ret : Option FieldType} {R : Room} {Q : Option Value → List Ob → Prop} {G : GoT}
variable {pc pc' : Nat} {ls ls' : Array Slot} {st st' : List Value} {A A' : List Ob} {k k' n n' : Nat}
theorem Met.of (KK : KOk Z a0 K) (hp : plainFor y = true) {as : Array Value} (hef : ∀ m, entryFrame m as maxL = mkF m 0 ls []) (body : ∀ G, IsGo l Z a0 K n0 A.length y bytes maxL ret R Q G → G 0 ls [] A 0 0) : Met l Z K n0 y bytes maxL ret R as A Q := by
  intro ws h0 hR
  refine MetFree.of_bodySF hp hisR ?_
  intro p e s m args below meth c s₁ Bd hml0 hP hK
  obtain ⟨rfl, hZ, hh⟩ := hP
  have e0 : s₁.heap = h0 := by rw [← hh, Bd.state]; rfl
  have H := body (Go p l e R s m args below meth c Z K n0 Q) ⟨p, e, s, m, args, below, meth, c, Bd.exec, Bd.bytes, hml0, findClass_of_methodNamed Bd.named, (name_of_methodNamed Bd.named Bd.method).1, Bd.returns, Bd.notSynchronized, hZ, KK, by rw [hh]; exact hR.1, rfl⟩
  obtain ⟨s₂, o, h1, h2, h3, h4⟩ := H s₁ [] (Stand.of_body Bd) (by rw [e0]; exact hR) (Fr.nil n0)
  exact ⟨s₂, o, castTop (hef m) h1, h2, h3, h4⟩
theorem Met.mono {as : Array Value} {Q' : Option Value → List Ob → Prop} (M : Met l Z K n0 y bytes maxL ret R as A Q) (h : ∀ v A', Q v A' → Q' v A') : Met l Z K n0 y bytes maxL ret R as A Q' := by
  intro ws h0 hR p e ha hc hk s m args below hf happ hP hK
  obtain ⟨n, o, h1, h2, h3, v, L, h4, ⟨A', h5, h6⟩, h7⟩ := M ws h0 hR p e ha hc hk s m args below hf happ hP hK
  exact ⟨n, o, h1, h2, h3, v, L, h4, ⟨A', h _ _ h5, h6⟩, h7⟩
theorem IsGo.lift (H : IsGo l Z a0 K n0 b0 y bytes maxL ret R Q G) (hs : ∀ {p : Program} {e : Env} {below : List Frame} {T target : State} {m : MethodId} {c : Code}, At T m c below → p.tables.exec = Jvm.exec → c.code = bytes → Steps p.tables e below (T.setTop (mkF m pc' ls' st')) target → Steps p.tables e below (T.setTop (mkF m pc ls st)) target)
    (h : G pc' ls' st' A k n) : G pc ls st A k n := by
  obtain ⟨p, e, s, m, args, below, meth, c, hx, hby, hml, hown, hnm, hret, hlk, hZ, hK, hb0, rfl⟩ := H
  intro T locs X hR hF
  obtain ⟨s₂, o, h1, h2⟩ := h T locs X hR hF
  exact ⟨s₂, o, hs X.here hx hby h1, h2⟩
/-! ### loads, stores, constants -/
theorem IsGo.iloadN (H : IsGo l Z a0 K n0 b0 y bytes maxL ret R Q G) {i : Fin 4} (hd : Nx bytes pc (.iload_n i) 1 pc') {v : Int32} (hl : ls[i.val]? = some (.val (.int v))) (h : G pc' ls (.int v :: st) A k n) : G pc ls st A k n := by
  obtain ⟨hd, rfl⟩ := hd
  exact H.lift (fun hA hx hby hr => XS.iloadN hA hx rfl (hb hby hd) hl hr) h
theorem IsGo.iload (H : IsGo l Z a0 K n0 b0 y bytes maxL ret R Q G) {i : Nat} (hd : Nx bytes pc (.iload i) 2 pc') {v : Int32} (hl : ls[i]? = some (.val (.int v))) (h : G pc' ls (.int v :: st) A k n) : G pc ls st A k n := by
  obtain ⟨hd, rfl⟩ := hd
  exact H.lift (fun hA hx hby hr => XS.iload hA hx rfl (hb hby hd) hl hr) h
theorem IsGo.lloadN (H : IsGo l Z a0 K n0 b0 y bytes maxL ret R Q G) {i : Fin 4} (hd : Nx bytes pc (.lload_n i) 1 pc') {v : Int64} (hl : ls[i.val]? = some (.val (.long v))) (h : G pc' ls (.long v :: st) A k n) : G pc ls st A k n := by
  obtain ⟨hd, rfl⟩ := hd
  exact H.lift (fun hA hx hby hr => XS.lloadN hA hx rfl (hb hby hd) hl hr) h
theorem IsGo.lload (H : IsGo l Z a0 K n0 b0 y bytes maxL ret R Q G) {i : Nat} (hd : Nx bytes pc (.lload i) 2 pc') {v : Int64} (hl : ls[i]? = some (.val (.long v))) (h : G pc' ls (.long v :: st) A k n) : G pc ls st A k n := by
  obtain ⟨hd, rfl⟩ := hd
  exact H.lift (fun hA hx hby hr => XS.lload hA hx rfl (hb hby hd) hl hr) h
theorem IsGo.aloadN (H : IsGo l Z a0 K n0 b0 y bytes maxL ret R Q G) {i : Fin 4} (hd : Nx bytes pc (.aload_n i) 1 pc') {v : Value} (hl : ls[i.val]? = some (.val v)) (hv : v.isRef = true) (h : G pc' ls (v :: st) A k n) : G pc ls st A k n := by
  obtain ⟨hd, rfl⟩ := hd
  exact H.lift (fun hA hx hby hr => XS.aloadN hA hx rfl (hb hby hd) hl hv hr) h
theorem IsGo.aload (H : IsGo l Z a0 K n0 b0 y bytes maxL ret R Q G) {i : Nat} (hd : Nx bytes pc (.aload i) 2 pc') {v : Value} (hl : ls[i]? = some (.val v)) (hv : v.isRef = true) (h : G pc' ls (v :: st) A k n) : G pc ls st A k n := by
  obtain ⟨hd, rfl⟩ := hd
  exact H.lift (fun hA hx hby hr => XS.aload hA hx rfl (hb hby hd) hl hv hr) h
theorem IsGo.istoreN (H : IsGo l Z a0 K n0 b0 y bytes maxL ret R Q G) {i : Fin 4} (hd : Nx bytes pc (.istore_n i) 1 pc') {v : Int32} (hl : storeLocals ls i.val (.int v) = some ls') (h : G pc' ls' st A k n) : G pc ls (.int v :: st) A k n := by
  obtain ⟨hd, rfl⟩ := hd
  exact H.lift (fun hA hx hby hr => XS.istoreN hA hx rfl (hb hby hd) rfl hl hr) h
theorem IsGo.istore (H : IsGo l Z a0 K n0 b0 y bytes maxL ret R Q G) {i : Nat} (hd : Nx bytes pc (.istore i) 2 pc') {v : Int32} (hl : storeLocals ls i (.int v) = some ls') (h : G pc' ls' st A k n) : G pc ls (.int v :: st) A k n := by
  obtain ⟨hd, rfl⟩ := hd
  exact H.lift (fun hA hx hby hr => XS.istore hA hx rfl (hb hby hd) rfl hl hr) h
theorem IsGo.lstoreN (H : IsGo l Z a0 K n0 b0 y bytes maxL ret R Q G) {i : Fin 4} (hd : Nx bytes pc (.lstore_n i) 1 pc') {v : Int64} (hl : storeLocals ls i.val (.long v) = some ls') (h : G pc' ls' st A k n) : G pc ls (.long v :: st) A k n := by
  obtain ⟨hd, rfl⟩ := hd
  exact H.lift (fun hA hx hby hr => XS.lstoreN hA hx rfl (hb hby hd) rfl hl hr) h
theorem IsGo.lstore (H : IsGo l Z a0 K n0 b0 y bytes maxL ret R Q G) {i : Nat} (hd : Nx bytes pc (.lstore i) 2 pc') {v : Int64} (hl : storeLocals ls i (.long v) = some ls') (h : G pc' ls' st A k n) : G pc ls (.long v :: st) A k n := by
  obtain ⟨hd, rfl⟩ := hd
  exact H.lift (fun hA hx hby hr => XS.lstore hA hx rfl (hb hby hd) rfl hl hr) h
theorem IsGo.astoreN (H : IsGo l Z a0 K n0 b0 y bytes maxL ret R Q G) {i : Fin 4} (hd : Nx bytes pc (.astore_n i) 1 pc') {v : Value} (hv : v.isRef = true) (hl : storeLocals ls i.val v = some ls') (h : G pc' ls' st A k n) : G pc ls (v :: st) A k n := by
  obtain ⟨hd, rfl⟩ := hd
  exact H.lift (fun hA hx hby hr => XS.astoreN hA hx rfl (hb hby hd) rfl hv hl hr) h
theorem IsGo.astore (H : IsGo l Z a0 K n0 b0 y bytes maxL ret R Q G) {i : Nat} (hd : Nx bytes pc (.astore i) 2 pc') {v : Value} (hv : v.isRef = true) (hl : storeLocals ls i v = some ls') (h : G pc' ls' st A k n) : G pc ls (v :: st) A k n := by
  obtain ⟨hd, rfl⟩ := hd
  exact H.lift (fun hA hx hby hr => XS.astore hA hx rfl (hb hby hd) rfl hv hl hr) h
theorem IsGo.iconst (H : IsGo l Z a0 K n0 b0 y bytes maxL ret R Q G) {i : Int} (hd : Nx bytes pc (.iconst i) 1 pc') {v : Int32} (hv : Int32.ofInt i = v) (h : G pc' ls (.int v :: st) A k n) : G pc ls st A k n := by
  obtain ⟨hd, rfl⟩ := hd
  subst hv
  exact H.lift (fun hA hx hby hr => XS.iconst hA hx rfl (hb hby hd) hr) h
theorem IsGo.bipush (H : IsGo l Z a0 K n0 b0 y bytes maxL ret R Q G) {i : Int} (hd : Nx bytes pc (.bipush i) 2 pc') {v : Int32} (hv : (Int8.ofInt i).toInt32 = v) (h : G pc' ls (.int v :: st) A k n) : G pc ls st A k n := by
  obtain ⟨hd, rfl⟩ := hd
  subst hv
  exact H.lift (fun hA hx hby hr => XS.bipush hA hx rfl (hb hby hd) hr) h
theorem IsGo.sipush (H : IsGo l Z a0 K n0 b0 y bytes maxL ret R Q G) {i : Int} (hd : Nx bytes pc (.sipush i) 3 pc') {v : Int32} (hv : (Int16.ofInt i).toInt32 = v) (h : G pc' ls (.int v :: st) A k n) : G pc ls st A k n := by
  obtain ⟨hd, rfl⟩ := hd
  subst hv
  exact H.lift (fun hA hx hby hr => XS.sipush hA hx rfl (hb hby hd) hr) h
theorem IsGo.lconst (H : IsGo l Z a0 K n0 b0 y bytes maxL ret R Q G) {i : Fin 2} (hd : Nx bytes pc (.lconst i) 1 pc') {v : Int64} (hv : Int64.ofNat i = v) (h : G pc' ls (.long v :: st) A k n) : G pc ls st A k n := by
  obtain ⟨hd, rfl⟩ := hd
  subst hv
  exact H.lift (fun hA hx hby hr => XS.lconst hA hx rfl (hb hby hd) hr) h
theorem IsGo.aconstNull (H : IsGo l Z a0 K n0 b0 y bytes maxL ret R Q G) (hd : Nx bytes pc .aconst_null 1 pc') (h : G pc' ls (.null :: st) A k n) : G pc ls st A k n := by
  obtain ⟨hd, rfl⟩ := hd
  exact H.lift (fun hA hx hby hr => XS.aconstNull hA hx rfl (hb hby hd) hr) h
theorem IsGo.ldc (H : IsGo l Z a0 K n0 b0 y bytes maxL ret R Q G) {i : Nat} (hd : Nx bytes pc (.ldc i) 2 pc') {v : Int32} (w : (Jvm.Cond.constant y.cls i v).before a0 Z = true) (h : G pc' ls (.int v :: st) A k n) : G pc ls st A k n := by
  obtain ⟨hd, rfl⟩ := hd
  obtain ⟨p, e, s, m, args, below, meth, c, hx, hby, hml, hown, hnm, hret, hlk, hZ, hK, hb0, rfl⟩ := H
  intro T locs X hR hF
  obtain ⟨s₂, o, h1, h2⟩ := h T locs X hR hF
  exact ⟨s₂, o, X.ldcInt hx hown (mvT hZ w) (g := mkF m pc ls st) rfl (hb hby hd) _ h1, h2⟩
theorem IsGo.ldcW (H : IsGo l Z a0 K n0 b0 y bytes maxL ret R Q G) {i : Nat} (hd : Nx bytes pc (.ldc_w i) 3 pc') {v : Int32} (w : (Jvm.Cond.constant y.cls i v).before a0 Z = true) (h : G pc' ls (.int v :: st) A k n) : G pc ls st A k n := by
  obtain ⟨hd, rfl⟩ := hd
  obtain ⟨p, e, s, m, args, below, meth, c, hx, hby, hml, hown, hnm, hret, hlk, hZ, hK, hb0, rfl⟩ := H
  intro T locs X hR hF
  obtain ⟨s₂, o, h1, h2⟩ := h T locs X hR hF
  exact ⟨s₂, o, X.ldcwInt hx hown (mvT hZ w) (g := mkF m pc ls st) rfl (hb hby hd) _ h1, h2⟩
theorem IsGo.ldc2 (H : IsGo l Z a0 K n0 b0 y bytes maxL ret R Q G) {i : Nat} (hd : Nx bytes pc (.ldc2_w i) 3 pc') {v : Int64} (w : (Jvm.Cond.constantLong y.cls i v).before a0 Z = true) (h : G pc' ls (.long v :: st) A k n) : G pc ls st A k n := by
  obtain ⟨hd, rfl⟩ := hd
  obtain ⟨p, e, s, m, args, below, meth, c, hx, hby, hml, hown, hnm, hret, hlk, hZ, hK, hb0, rfl⟩ := H
  intro T locs X hR hF
  obtain ⟨s₂, o, h1, h2⟩ := h T locs X hR hF
  exact ⟨s₂, o, X.ldc2Long hx hown (mvT hZ w) (g := mkF m pc ls st) rfl (hb hby hd) _ h1, h2⟩
/-! ### sums -/
theorem IsGo.iadd (H : IsGo l Z a0 K n0 b0 y bytes maxL ret R Q G) (hd : Nx bytes pc .iadd 1 pc') {u v w : Int32} (hw : u + v = w) (h : G pc' ls (.int w :: st) A k n) : G pc ls (.int v :: .int u :: st) A k n := by
  obtain ⟨hd, rfl⟩ := hd
  subst hw
  exact H.lift (fun hA hx hby hr => XS.iadd hA hx rfl (hb hby hd) rfl hr) h
theorem IsGo.ladd (H : IsGo l Z a0 K n0 b0 y bytes maxL ret R Q G) (hd : Nx bytes pc .ladd 1 pc') {u v w : Int64} (hw : u + v = w) (h : G pc' ls (.long w :: st) A k n) : G pc ls (.long v :: .long u :: st) A k n := by
  obtain ⟨hd, rfl⟩ := hd
  subst hw
  exact H.lift (fun hA hx hby hr => XS.ladd hA hx rfl (hb hby hd) rfl hr) h
theorem IsGo.isub (H : IsGo l Z a0 K n0 b0 y bytes maxL ret R Q G) (hd : Nx bytes pc .isub 1 pc') {u v w : Int32} (hw : u - v = w) (h : G pc' ls (.int w :: st) A k n) : G pc ls (.int v :: .int u :: st) A k n := by
  obtain ⟨hd, rfl⟩ := hd
  subst hw
  exact H.lift (fun hA hx hby hr => XS.isub hA hx rfl (hb hby hd) rfl hr) h
theorem IsGo.lsub (H : IsGo l Z a0 K n0 b0 y bytes maxL ret R Q G) (hd : Nx bytes pc .lsub 1 pc') {u v w : Int64} (hw : u - v = w) (h : G pc' ls (.long w :: st) A k n) : G pc ls (.long v :: .long u :: st) A k n := by
  obtain ⟨hd, rfl⟩ := hd
  subst hw
  exact H.lift (fun hA hx hby hr => XS.lsub hA hx rfl (hb hby hd) rfl hr) h
theorem IsGo.imul (H : IsGo l Z a0 K n0 b0 y bytes maxL ret R Q G) (hd : Nx bytes pc .imul 1 pc') {u v w : Int32} (hw : u * v = w) (h : G pc' ls (.int w :: st) A k n) : G pc ls (.int v :: .int u :: st) A k n := by
  obtain ⟨hd, rfl⟩ := hd
  subst hw
  exact H.lift (fun hA hx hby hr => XS.imul hA hx rfl (hb hby hd) rfl hr) h
theorem IsGo.lmul (H : IsGo l Z a0 K n0 b0 y bytes maxL ret R Q G) (hd : Nx bytes pc .lmul 1 pc') {u v w : Int64} (hw : u * v = w) (h : G pc' ls (.long w :: st) A k n) : G pc ls (.long v :: .long u :: st) A k n := by
  obtain ⟨hd, rfl⟩ := hd
  subst hw
  exact H.lift (fun hA hx hby hr => XS.lmul hA hx rfl (hb hby hd) rfl hr) h
theorem IsGo.iand (H : IsGo l Z a0 K n0 b0 y bytes maxL ret R Q G) (hd : Nx bytes pc .iand 1 pc') {u v w : Int32} (hw : u &&& v = w) (h : G pc' ls (.int w :: st) A k n) : G pc ls (.int v :: .int u :: st) A k n := by
  obtain ⟨hd, rfl⟩ := hd
  subst hw
  exact H.lift (fun hA hx hby hr => XS.iand hA hx rfl (hb hby hd) rfl hr) h
theorem IsGo.land (H : IsGo l Z a0 K n0 b0 y bytes maxL ret R Q G) (hd : Nx bytes pc .land 1 pc') {u v w : Int64} (hw : u &&& v = w) (h : G pc' ls (.long w :: st) A k n) : G pc ls (.long v :: .long u :: st) A k n := by
  obtain ⟨hd, rfl⟩ := hd
  subst hw
  exact H.lift (fun hA hx hby hr => XS.land hA hx rfl (hb hby hd) rfl hr) h
theorem IsGo.ior (H : IsGo l Z a0 K n0 b0 y bytes maxL ret R Q G) (hd : Nx bytes pc .ior 1 pc') {u v w : Int32} (hw : u ||| v = w) (h : G pc' ls (.int w :: st) A k n) : G pc ls (.int v :: .int u :: st) A k n := by
  obtain ⟨hd, rfl⟩ := hd
  subst hw
  exact H.lift (fun hA hx hby hr => XS.ior hA hx rfl (hb hby hd) rfl hr) h
theorem IsGo.lor (H : IsGo l Z a0 K n0 b0 y bytes maxL ret R Q G) (hd : Nx bytes pc .lor 1 pc') {u v w : Int64} (hw : u ||| v = w) (h : G pc' ls (.long w :: st) A k n) : G pc ls (.long v :: .long u :: st) A k n := by
  obtain ⟨hd, rfl⟩ := hd
  subst hw
  exact H.lift (fun hA hx hby hr => XS.lor hA hx rfl (hb hby hd) rfl hr) h
theorem IsGo.ixor (H : IsGo l Z a0 K n0 b0 y bytes maxL ret R Q G) (hd : Nx bytes pc .ixor 1 pc') {u v w : Int32} (hw : u ^^^ v = w) (h : G pc' ls (.int w :: st) A k n) : G pc ls (.int v :: .int u :: st) A k n := by
  obtain ⟨hd, rfl⟩ := hd
  subst hw
  exact H.lift (fun hA hx hby hr => XS.ixor hA hx rfl (hb hby hd) rfl hr) h
theorem IsGo.lxor (H : IsGo l Z a0 K n0 b0 y bytes maxL ret R Q G) (hd : Nx bytes pc .lxor 1 pc') {u v w : Int64} (hw : u ^^^ v = w) (h : G pc' ls (.long w :: st) A k n) : G pc ls (.long v :: .long u :: st) A k n := by
  obtain ⟨hd, rfl⟩ := hd
  subst hw
  exact H.lift (fun hA hx hby hr => XS.lxor hA hx rfl (hb hby hd) rfl hr) h
theorem IsGo.ishl (H : IsGo l Z a0 K n0 b0 y bytes maxL ret R Q G) (hd : Nx bytes pc .ishl 1 pc') {u v w : Int32} (hw : u <<< (v &&& 31) = w) (h : G pc' ls (.int w :: st) A k n) : G pc ls (.int v :: .int u :: st) A k n := by
  obtain ⟨hd, rfl⟩ := hd
  subst hw
  exact H.lift (fun hA hx hby hr => XS.ishl hA hx rfl (hb hby hd) rfl hr) h
theorem IsGo.ishr (H : IsGo l Z a0 K n0 b0 y bytes maxL ret R Q G) (hd : Nx bytes pc .ishr 1 pc') {u v w : Int32} (hw : u >>> (v &&& 31) = w) (h : G pc' ls (.int w :: st) A k n) : G pc ls (.int v :: .int u :: st) A k n := by
  obtain ⟨hd, rfl⟩ := hd
  subst hw
  exact H.lift (fun hA hx hby hr => XS.ishr hA hx rfl (hb hby hd) rfl hr) h
theorem IsGo.iushr (H : IsGo l Z a0 K n0 b0 y bytes maxL ret R Q G) (hd : Nx bytes pc .iushr 1 pc') {u v w : Int32} (hw : (u.toUInt32 >>> (v &&& 31).toUInt32).toInt32 = w) (h : G pc' ls (.int w :: st) A k n) : G pc ls (.int v :: .int u :: st) A k n := by
  obtain ⟨hd, rfl⟩ := hd
  subst hw
  exact H.lift (fun hA hx hby hr => XS.iushr hA hx rfl (hb hby hd) rfl hr) h
theorem IsGo.lshl (H : IsGo l Z a0 K n0 b0 y bytes maxL ret R Q G) (hd : Nx bytes pc .lshl 1 pc') {u w : Int64} {v : Int32} (hw : u <<< (v &&& 0x3f).toInt64 = w) (h : G pc' ls (.long w :: st) A k n) : G pc ls (.int v :: .long u :: st) A k n := by
  obtain ⟨hd, rfl⟩ := hd
  subst hw
  exact H.lift (fun hA hx hby hr => XS.lshl hA hx rfl (hb hby hd) rfl hr) h
theorem IsGo.lshr (H : IsGo l Z a0 K n0 b0 y bytes maxL ret R Q G) (hd : Nx bytes pc .lshr 1 pc') {u w : Int64} {v : Int32} (hw : u >>> (v &&& 0x3f).toInt64 = w) (h : G pc' ls (.long w :: st) A k n) : G pc ls (.int v :: .long u :: st) A k n := by
  obtain ⟨hd, rfl⟩ := hd
  subst hw
  exact H.lift (fun hA hx hby hr => XS.lshr hA hx rfl (hb hby hd) rfl hr) h
theorem IsGo.lushr (H : IsGo l Z a0 K n0 b0 y bytes maxL ret R Q G) (hd : Nx bytes pc .lushr 1 pc') {u w : Int64} {v : Int32} (hw : (u.toUInt64 >>> (v &&& 0x3f).toInt64.toUInt64).toInt64 = w) (h : G pc' ls (.long w :: st) A k n) : G pc ls (.int v :: .long u :: st) A k n := by
  obtain ⟨hd, rfl⟩ := hd
  subst hw
  exact H.lift (fun hA hx hby hr => XS.lushr hA hx rfl (hb hby hd) rfl hr) h
theorem IsGo.ineg (H : IsGo l Z a0 K n0 b0 y bytes maxL ret R Q G) (hd : Nx bytes pc .ineg 1 pc') {u : Int32} {w : Int32} (hw : -u = w) (h : G pc' ls (.int w :: st) A k n) : G pc ls (.int u :: st) A k n := by
  obtain ⟨hd, rfl⟩ := hd
  subst hw
  exact H.lift (fun hA hx hby hr => XS.ineg hA hx rfl (hb hby hd) rfl hr) h
theorem IsGo.lneg (H : IsGo l Z a0 K n0 b0 y bytes maxL ret R Q G) (hd : Nx bytes pc .lneg 1 pc') {u : Int64} {w : Int64} (hw : -u = w) (h : G pc' ls (.long w :: st) A k n) : G pc ls (.long u :: st) A k n := by
  obtain ⟨hd, rfl⟩ := hd
  subst hw
  exact H.lift (fun hA hx hby hr => XS.lneg hA hx rfl (hb hby hd) rfl hr) h
theorem IsGo.i2l (H : IsGo l Z a0 K n0 b0 y bytes maxL ret R Q G) (hd : Nx bytes pc .i2l 1 pc') {u : Int32} {w : Int64} (hw : u.toInt64 = w) (h : G pc' ls (.long w :: st) A k n) : G pc ls (.int u :: st) A k n := by
  obtain ⟨hd, rfl⟩ := hd
  subst hw
  exact H.lift (fun hA hx hby hr => XS.i2l hA hx rfl (hb hby hd) rfl hr) h
theorem IsGo.l2i (H : IsGo l Z a0 K n0 b0 y bytes maxL ret R Q G) (hd : Nx bytes pc .l2i 1 pc') {u : Int64} {w : Int32} (hw : u.toInt32 = w) (h : G pc' ls (.int w :: st) A k n) : G pc ls (.long u :: st) A k n := by
  obtain ⟨hd, rfl⟩ := hd
  subst hw
  exact H.lift (fun hA hx hby hr => XS.l2i hA hx rfl (hb hby hd) rfl hr) h
theorem IsGo.i2b (H : IsGo l Z a0 K n0 b0 y bytes maxL ret R Q G) (hd : Nx bytes pc .i2b 1 pc') {u : Int32} {w : Int32} (hw : u.toInt8.toInt32 = w) (h : G pc' ls (.int w :: st) A k n) : G pc ls (.int u :: st) A k n := by
  obtain ⟨hd, rfl⟩ := hd
  subst hw
  exact H.lift (fun hA hx hby hr => XS.i2b hA hx rfl (hb hby hd) rfl hr) h
theorem IsGo.idiv (H : IsGo l Z a0 K n0 b0 y bytes maxL ret R Q G) (hd : Nx bytes pc .idiv 1 pc') {u v w : Int32} (hv : v ≠ 0) (hw : u / v = w) (h : G pc' ls (.int w :: st) A k n) : G pc ls (.int v :: .int u :: st) A k n := by
  obtain ⟨hd, rfl⟩ := hd
  subst hw
  exact H.lift (fun hA hx hby hr => XS.idiv hA hx rfl (hb hby hd) rfl hv hr) h
theorem IsGo.irem (H : IsGo l Z a0 K n0 b0 y bytes maxL ret R Q G) (hd : Nx bytes pc .irem 1 pc') {u v w : Int32} (hv : v ≠ 0) (hw : u % v = w) (h : G pc' ls (.int w :: st) A k n) : G pc ls (.int v :: .int u :: st) A k n := by
  obtain ⟨hd, rfl⟩ := hd
  subst hw
  have q : u - u / v * v = u % v := irem_eq_mod u v
  rw [← q] at h
  exact H.lift (fun hA hx hby hr => XS.irem hA hx rfl (hb hby hd) rfl hv hr) h
theorem IsGo.ldiv (H : IsGo l Z a0 K n0 b0 y bytes maxL ret R Q G) (hd : Nx bytes pc .ldiv 1 pc') {u v w : Int64} (hv : v ≠ 0) (hw : u / v = w) (h : G pc' ls (.long w :: st) A k n) : G pc ls (.long v :: .long u :: st) A k n := by
  obtain ⟨hd, rfl⟩ := hd
  subst hw
  exact H.lift (fun hA hx hby hr => XS.ldiv hA hx rfl (hb hby hd) rfl hv hr) h
theorem IsGo.lrem (H : IsGo l Z a0 K n0 b0 y bytes maxL ret R Q G) (hd : Nx bytes pc .lrem 1 pc') {u v w : Int64} (hv : v ≠ 0) (hw : u % v = w) (h : G pc' ls (.long w :: st) A k n) : G pc ls (.long v :: .long u :: st) A k n := by
  obtain ⟨hd, rfl⟩ := hd
  subst hw
  rw [← lrem_mod u v] at h
  exact H.lift (fun hA hx hby hr => XS.lrem hA hx rfl (hb hby hd) rfl hv hr) h
theorem IsGo.iinc (H : IsGo l Z a0 K n0 b0 y bytes maxL ret R Q G) {i : Nat} {cst : Int} (hd : Nx bytes pc (.iinc i cst) 3 pc') {u w : Int32} (hl : ls[i]? = some (.val (.int u))) (hw : u + Int32.ofInt cst = w) (hl' : storeLocals ls i (.int w) = some ls') (h : G pc' ls' st A k n) : G pc ls st A k n := by
  obtain ⟨hd, rfl⟩ := hd
  subst hw
  exact H.lift (fun hA hx hby hr => XS.iinc hA hx rfl (hb hby hd) hl hl' hr) h
/-! ### the stack -/
theorem IsGo.dup (H : IsGo l Z a0 K n0 b0 y bytes maxL ret R Q G) (hd : Nx bytes pc .dup 1 pc') {u : Value} (hc : u.category = 1) (h : G pc' ls (u :: u :: st) A k n) : G pc ls (u :: st) A k n := by
  obtain ⟨hd, rfl⟩ := hd
  exact H.lift (fun hA hx hby hr => XS.dup hA hx rfl (hb hby hd) rfl hc hr) h
theorem IsGo.dupX1 (H : IsGo l Z a0 K n0 b0 y bytes maxL ret R Q G) (hd : Nx bytes pc .dup_x1 1 pc') {u v : Value} (hc : u.category = 1) (hc' : v.category = 1) (h : G pc' ls (u :: v :: u :: st) A k n) : G pc ls (u :: v :: st) A k n := by
  obtain ⟨hd, rfl⟩ := hd
  exact H.lift (fun hA hx hby hr => XS.dupX1 hA hx rfl (hb hby hd) rfl hc hc' hr) h
theorem IsGo.dup2 (H : IsGo l Z a0 K n0 b0 y bytes maxL ret R Q G) (hd : Nx bytes pc .dup2 1 pc') {u v : Value} (hc : u.category = 1) (hc' : v.category = 1) (h : G pc' ls (u :: v :: u :: v :: st) A k n) : G pc ls (u :: v :: st) A k n := by
  obtain ⟨hd, rfl⟩ := hd
  exact H.lift (fun hA hx hby hr => XT.dup2 hA hx rfl (hb hby hd) rfl hc hc' hr) h
theorem IsGo.dup2L (H : IsGo l Z a0 K n0 b0 y bytes maxL ret R Q G) (hd : Nx bytes pc .dup2 1 pc') {u : Int64} (h : G pc' ls (.long u :: .long u :: st) A k n) : G pc ls (.long u :: st) A k n := by
  obtain ⟨hd, rfl⟩ := hd
  exact H.lift (fun hA hx hby hr => XT.dup2L hA hx rfl (hb hby hd) rfl hr) h
theorem IsGo.pop (H : IsGo l Z a0 K n0 b0 y bytes maxL ret R Q G) (hd : Nx bytes pc .pop 1 pc') {u : Value} (hc : u.category = 1) (h : G pc' ls st A k n) : G pc ls (u :: st) A k n := by
  obtain ⟨hd, rfl⟩ := hd
  exact H.lift (fun hA hx hby hr => XS.pop hA hx rfl (hb hby hd) rfl hc hr) h
theorem dupX2_step {tb : Tables} [Ours tb] {e : Env} {below : List Frame} {T target : State} {m : MethodId} {c : Code} {g : JFrame} (h : At T m c below) (hx : tb.exec = Jvm.exec) (hg : g.method = m) {u v w : Value} {rest : List Value} (hd : decode c.code g.pc = .ok (.dup_x2, 1)) (hs : g.stack = u :: v :: w :: rest) (hc : u.category = 1) (hc2 : v.category = 1) (hc3 : w.category = 1)
    (hr : Steps tb e below (T.setTop { g with pc := g.pc + 1, stack := u :: v :: w :: u :: rest }) target) : Steps tb e below (T.setTop g) target := by
  subst hg
  jvm_step h [h.top, hx, hd, hs, hc, hc2, hc3, dup_x2.wp_sem]
  exact hr
theorem pop2L_step {tb : Tables} [Ours tb] {e : Env} {below : List Frame} {T target : State} {m : MethodId} {c : Code} {g : JFrame} (h : At T m c below) (hx : tb.exec = Jvm.exec) (hg : g.method = m) {u : Int64} {rest : List Value} (hd : decode c.code g.pc = .ok (.pop2, 1)) (hs : g.stack = .long u :: rest)
    (hr : Steps tb e below (T.setTop { g with pc := g.pc + 1, stack := rest }) target) : Steps tb e below (T.setTop g) target := by
  subst hg
  jvm_step h [h.top, hx, hd, hs, pop2.wp_sem, Value.category]
  exact hr
theorem IsGo.dupX2 (H : IsGo l Z a0 K n0 b0 y bytes maxL ret R Q G) (hd : Nx bytes pc .dup_x2 1 pc') {u v w : Value} (hc : u.category = 1) (hc' : v.category = 1) (hc3 : w.category = 1) (h : G pc' ls (u :: v :: w :: u :: st) A k n) : G pc ls (u :: v :: w :: st) A k n := by
  obtain ⟨hd, rfl⟩ := hd
  exact H.lift (fun hA hx hby hr => dupX2_step hA hx rfl (hb hby hd) rfl hc hc' hc3 hr) h
theorem IsGo.pop2L (H : IsGo l Z a0 K n0 b0 y bytes maxL ret R Q G) (hd : Nx bytes pc .pop2 1 pc') {u : Int64} (h : G pc' ls st A k n) : G pc ls (.long u :: st) A k n := by
  obtain ⟨hd, rfl⟩ := hd
  exact H.lift (fun hA hx hby hr => pop2L_step hA hx rfl (hb hby hd) rfl hr) h
/-! ### branches -/
theorem IsGo.goto (H : IsGo l Z a0 K n0 b0 y bytes maxL ret R Q G) {f : Nat} (hd : Bx bytes pc .goto pc' f) (h : G pc' ls st A k n) : G pc ls st A k n := by
  obtain ⟨o, hd, ho, hp, -⟩ := hd
  exact H.lift (fun hA hx hby hr => XS.goto hA hx rfl (pc0 := pc) (pc' := pc') rfl (hb hby hd) ho hp hr) h
/-- what a comparison of two ints says -/
def CP : ClassFile.Cond → Int32 → Int32 → Prop
  | .eq, u, v => u = v
  | .ne, u, v => ¬ u = v
  | .lt, u, v => u < v
  | .ge, u, v => ¬ u < v
  | .gt, u, v => v < u
  | .le, u, v => ¬ v < u
def CPL : ClassFile.Cond → Int64 → Int64 → Prop
  | .eq, u, v => u = v
  | .ne, u, v => ¬ u = v
  | .lt, u, v => u < v
  | .ge, u, v => ¬ u < v
  | .gt, u, v => v < u
  | .le, u, v => ¬ v < u
def ng : ClassFile.Cond → ClassFile.Cond
  | .eq => .ne | .ne => .eq | .lt => .ge | .ge => .lt | .gt => .le | .le => .gt
theorem cp_or (cd : ClassFile.Cond) (u v : Int32) : CP cd u v ∨ CP (ng cd) u v := by
  cases cd <;> simp only [CP, ng] <;> first | exact Classical.em _ | exact (Classical.em _).symm
theorem cpl_or (cd : ClassFile.Cond) (u v : Int64) : CPL cd u v ∨ CPL (ng cd) u v := by
  cases cd <;> simp only [CPL, ng] <;> first | exact Classical.em _ | exact (Classical.em _).symm
theorem cp_t {cd : ClassFile.Cond} {u v : Int32} (h : CP cd u v) : if_icmp.holds cd u v = true := by
  cases cd <;> simp only [CP] at h
  · exact XT.ii_eq_t h
  · exact XT.ii_ne_t h
  · exact XT.ii_lt_t h
  · exact XT.ii_ge_t h
  · exact XT.ii_gt_t h
  · exact XT.ii_le_t h
theorem cp_f {cd : ClassFile.Cond} {u v : Int32} (h : CP (ng cd) u v) : if_icmp.holds cd u v = false := by
  cases cd <;> simp only [CP, ng] at h
  · exact XT.ii_eq_f h
  · exact XT.ii_ne_f h
  · exact XT.ii_lt_f h
  · exact XT.ii_ge_f h
  · exact XT.ii_gt_f h
  · exact XT.ii_le_f h
theorem IsGo.icmpT (H : IsGo l Z a0 K n0 b0 y bytes maxL ret R Q G) {cd : ClassFile.Cond} {t f : Nat} (hd : Bx bytes pc (.if_icmp cd) t f) {u v : Int32} (hc : CP cd u v) (h : G t ls st A k n) : G pc ls (.int v :: .int u :: st) A k n := by
  obtain ⟨o, hd, ho, hp, rfl⟩ := hd
  exact H.lift (fun hA hx hby hr => XS.icmpYes hA hx rfl (pc0 := pc) (pc' := t) rfl (hb hby hd) rfl (cp_t hc) ho hp hr) h
theorem IsGo.icmpF (H : IsGo l Z a0 K n0 b0 y bytes maxL ret R Q G) {cd : ClassFile.Cond} {t f : Nat} (hd : Bx bytes pc (.if_icmp cd) t f) {u v : Int32} (hc : CP (ng cd) u v) (h : G f ls st A k n) : G pc ls (.int v :: .int u :: st) A k n := by
  obtain ⟨o, hd, ho, hp, rfl⟩ := hd
  exact H.lift (fun hA hx hby hr => XS.icmpNo hA hx rfl (hb hby hd) rfl (cp_f hc) hr) h
theorem IsGo.icmpS (H : IsGo l Z a0 K n0 b0 y bytes maxL ret R Q G) {cd : ClassFile.Cond} {t f : Nat} (hd : Bx bytes pc (.if_icmp cd) t f) {u v : Int32} (h1 : CP cd u v → G t ls st A k n) (h2 : CP (ng cd) u v → G f ls st A k n) : G pc ls (.int v :: .int u :: st) A k n :=
  (cp_or cd u v).elim (fun q => H.icmpT hd q (h1 q)) (fun q => H.icmpF hd q (h2 q))
theorem IsGo.ifT (H : IsGo l Z a0 K n0 b0 y bytes maxL ret R Q G) {cd : ClassFile.Cond} {t f : Nat} (hd : Bx bytes pc (.ifCond cd) t f) {u : Int32} (hc : CP cd u 0) (h : G t ls st A k n) : G pc ls (.int u :: st) A k n := by
  obtain ⟨o, hd, ho, hp, rfl⟩ := hd
  exact H.lift (fun hA hx hby hr => XS.ifYes hA hx rfl (pc0 := pc) (pc' := t) rfl (hb hby hd) rfl (by rw [if0]; exact cp_t hc) ho hp hr) h
theorem IsGo.ifF (H : IsGo l Z a0 K n0 b0 y bytes maxL ret R Q G) {cd : ClassFile.Cond} {t f : Nat} (hd : Bx bytes pc (.ifCond cd) t f) {u : Int32} (hc : CP (ng cd) u 0) (h : G f ls st A k n) : G pc ls (.int u :: st) A k n := by
  obtain ⟨o, hd, ho, hp, rfl⟩ := hd
  exact H.lift (fun hA hx hby hr => XS.ifNo hA hx rfl (hb hby hd) rfl (by rw [if0]; exact cp_f hc) hr) h
theorem IsGo.ifS (H : IsGo l Z a0 K n0 b0 y bytes maxL ret R Q G) {cd : ClassFile.Cond} {t f : Nat} (hd : Bx bytes pc (.ifCond cd) t f) {u : Int32} (h1 : CP cd u 0 → G t ls st A k n) (h2 : CP (ng cd) u 0 → G f ls st A k n) : G pc ls (.int u :: st) A k n :=
  (cp_or cd u 0).elim (fun q => H.ifT hd q (h1 q)) (fun q => H.ifF hd q (h2 q))
theorem cpl_cp {cd : ClassFile.Cond} {u v : Int64} (h : CPL cd u v) : CP cd (lcmpW u v) 0 := by
  cases cd <;> simp only [CPL] at h <;> simp only [CP]
  · exact (lw_eq u v).mpr h
  · exact fun q => h ((lw_eq u v).mp q)
  · exact (lw_lt u v).mpr h
  · exact fun q => h ((lw_lt u v).mp q)
  · exact (lw_gt u v).mpr h
  · exact fun q => h ((lw_gt u v).mp q)
theorem IsGo.lcmp (H : IsGo l Z a0 K n0 b0 y bytes maxL ret R Q G) (hd : Nx bytes pc .lcmp 1 pc') {u v : Int64} (h : G pc' ls (.int (lcmpW u v) :: st) A k n) : G pc ls (.long v :: .long u :: st) A k n := by
  obtain ⟨hd, rfl⟩ := hd
  exact H.lift (fun hA hx hby hr => XS.lcmp hA hx rfl (hb hby hd) rfl hr) h
theorem IsGo.lifT (H : IsGo l Z a0 K n0 b0 y bytes maxL ret R Q G) (hd0 : Nx bytes pc .lcmp 1 pc') {cd : ClassFile.Cond} {t f : Nat} (hd : Bx bytes pc' (.ifCond cd) t f) {u v : Int64} (hc : CPL cd u v) (h : G t ls st A k n) : G pc ls (.long v :: .long u :: st) A k n :=
  H.lcmp hd0 (H.ifT hd (cpl_cp hc) h)
theorem cpl_ng {cd : ClassFile.Cond} {u v : Int64} (h : CPL (ng cd) u v) : CP (ng cd) (lcmpW u v) 0 := cpl_cp h
theorem IsGo.lifF (H : IsGo l Z a0 K n0 b0 y bytes maxL ret R Q G) (hd0 : Nx bytes pc .lcmp 1 pc') {cd : ClassFile.Cond} {t f : Nat} (hd : Bx bytes pc' (.ifCond cd) t f) {u v : Int64} (hc : CPL (ng cd) u v) (h : G f ls st A k n) : G pc ls (.long v :: .long u :: st) A k n :=
  H.lcmp hd0 (H.ifF hd (cpl_ng hc) h)
theorem IsGo.lifS (H : IsGo l Z a0 K n0 b0 y bytes maxL ret R Q G) (hd0 : Nx bytes pc .lcmp 1 pc') {cd : ClassFile.Cond} {t f : Nat} (hd : Bx bytes pc' (.ifCond cd) t f) {u v : Int64} (h1 : CPL cd u v → G t ls st A k n) (h2 : CPL (ng cd) u v → G f ls st A k n) : G pc ls (.long v :: .long u :: st) A k n :=
  (cpl_or cd u v).elim (fun q => H.lifT hd0 hd q (h1 q)) (fun q => H.lifF hd0 hd q (h2 q))
theorem IsGo.ifnullT (H : IsGo l Z a0 K n0 b0 y bytes maxL ret R Q G) {t f : Nat} (hd : Bx bytes pc .ifnull t f) (h : G t ls st A k n) : G pc ls (.null :: st) A k n := by
  obtain ⟨o, hd, ho, hp, rfl⟩ := hd
  exact H.lift (fun hA hx hby hr => XS.ifnullYes hA hx rfl (pc0 := pc) (pc' := t) rfl (hb hby hd) rfl ho hp hr) h
theorem IsGo.ifnullF (H : IsGo l Z a0 K n0 b0 y bytes maxL ret R Q G) {t f : Nat} (hd : Bx bytes pc .ifnull t f) {b : Addr} (h : G f ls st A k n) : G pc ls (.ref b :: st) A k n := by
  obtain ⟨o, hd, ho, hp, rfl⟩ := hd
  exact H.lift (fun hA hx hby hr => XS.ifnullNo hA hx rfl (hb hby hd) rfl hr) h
theorem IsGo.ifnonnullT (H : IsGo l Z a0 K n0 b0 y bytes maxL ret R Q G) {t f : Nat} (hd : Bx bytes pc .ifnonnull t f) {b : Addr} (h : G t ls st A k n) : G pc ls (.ref b :: st) A k n := by
  obtain ⟨o, hd, ho, hp, rfl⟩ := hd
  exact H.lift (fun hA hx hby hr => XS.ifnonnullYes hA hx rfl (pc0 := pc) (pc' := t) rfl (hb hby hd) rfl ho hp hr) h
theorem IsGo.ifnonnullF (H : IsGo l Z a0 K n0 b0 y bytes maxL ret R Q G) {t f : Nat} (hd : Bx bytes pc .ifnonnull t f) (h : G f ls st A k n) : G pc ls (.null :: st) A k n := by
  obtain ⟨o, hd, ho, hp, rfl⟩ := hd
  exact H.lift (fun hA hx hby hr => XS.ifnonnullNo hA hx rfl (hb hby hd) rfl hr) h
theorem IsGo.acmp (H : IsGo l Z a0 K n0 b0 y bytes maxL ret R Q G) {cd : ClassFile.ACond} {t f : Nat} (hd : Bx bytes pc (.if_acmp cd) t f) {u v : Value} (h1 : u.isRef = true) (h2 : v.isRef = true) {same : Bool} (hq : decide (u = v) = same) (h : G (if acV cd same = true then t else f) ls st A k n) : G pc ls (v :: u :: st) A k n := by
  obtain ⟨o, hd, ho, hp, rfl⟩ := hd
  obtain ⟨p, e, s, m, args, below, meth, c, hx, hby, hml, hown, hnm, hret, hlk, hZ, hK, hb0, rfl⟩ := H
  intro T locs X hR hF
  obtain ⟨s₂, oo, q1, q2⟩ := h T locs X hR hF
  exact ⟨s₂, oo, RoadKit.acmp X hx (g := mkF m pc ls (v :: u :: st)) rfl h1 h2 (pc0 := pc) rfl (hb hby hd) rfl hq ho (by rw [hp]) q1, q2⟩
/-! ### the heap -/
def FL (Z : State) (a0 : Array Value) (K : KTab) (own : String) (idx k j : Nat) : Prop := ∃ C fs O nm d host, K[k]? = some (C, fs) ∧ fs[j]? = some (O, nm, d) ∧ ((Jvm.Cond.fieldLink own idx O nm d).before a0 Z = true ∨ (Jvm.Cond.fieldLinkNest own idx O nm d host).before a0 Z = true)
def PL (Z : State) (a0 : Array Value) (K : KTab) (own mname : String) (idx k j : Nat) (ty : FieldType) : Prop := ∃ C fs O nm d host, K[k]? = some (C, fs) ∧ fs[j]? = some (O, nm, d) ∧ ((Jvm.Cond.fieldLink own idx O nm d).before a0 Z = true ∨ (Jvm.Cond.fieldLinkNest own idx O nm d host).before a0 Z = true) ∧
  ((Jvm.Cond.lays C O nm d).before a0 Z = true ∨ ((Jvm.Cond.laysFinal C O nm d).before a0 Z = true ∧ own = O ∧ mname = "<init>")) ∧ parseFieldDescriptor d = some ty
theorem IsGo.getfield (H : IsGo l Z a0 K n0 b0 y bytes maxL ret R Q G) {idx kk j i : Nat} (hd : Nx bytes pc (.getfield idx) 3 pc') (L : FL Z a0 K y.cls idx kk j) {vs : List Value} {v : Value} (hA : A[i]? = some (.inl (kk, vs))) (hv : vs[j]? = some v) (h : G pc' ls (v :: st) A k n) : G pc ls (.ref (n0 + i) :: st) A k n := by
  obtain ⟨hd, rfl⟩ := hd
  obtain ⟨p, e, s, m, args, below, meth, c, hx, hby, hml, hown, hnm, hret, hlk, hZ, hK, hb0, rfl⟩ := H
  obtain ⟨C, fs, O, nm, d, host, hk, hj, w⟩ := L
  intro T locs X hR hF
  obtain ⟨C', fs', hk', hE, hlen, hf⟩ := hR.2 i _ hA
  cases hk.symm.trans hk'
  obtain ⟨T', X', eT, sp⟩ := getF X hx hZ hown w Via.refl rfl (hf j _ v hj hv) (g := mkF m pc ls (.ref (n0 + i) :: st)) rfl rfl (hb hby hd)
  obtain ⟨s₂, o, h1, h2⟩ := h T' locs X' (by rw [eT]; exact hR) hF
  exact ⟨s₂, o, sp _ h1, h2⟩
theorem IsGo.putfield (H : IsGo l Z a0 K n0 b0 y bytes maxL ret R Q G) {idx kk j i : Nat} {ty : FieldType} (hd : Nx bytes pc (.putfield idx) 3 pc') (L : PL Z a0 K y.cls y.name idx kk j ty) {vs : List Value} {v : Value} (hA : A[i]? = some (.inl (kk, vs))) (hn : narrow ty v = v) (hf : fits ty v = true) (hA' : A.set i (.inl (kk, vs.set j v)) = A') (h : G pc' ls st A' k n) : G pc ls (v :: .ref (n0 + i) :: st) A k n := by
  obtain ⟨hd, rfl⟩ := hd
  obtain ⟨p, e, s, m, args, below, meth, c, hx, hby, hml, hown, hnm, hret, hlk, hZ, hK, hb0, rfl⟩ := H
  obtain ⟨C, fs, O, nm, d, host, hk, hj, w, wl, hty⟩ := L
  subst hA'
  intro T locs X hR hF
  have hO := hR.2 i _ hA
  obtain ⟨C', fs', hk', hE, hlen, hfl⟩ := hR.2 i _ hA
  cases hk.symm.trans hk'
  obtain ⟨⟨ki, wi⟩, -, -⟩ := hK kk C fs hk
  have hlt : j < vs.length := by rw [hlen]; exact (List.getElem?_eq_some_iff.mp hj).1
  obtain ⟨T', h', X', eT, W, sp⟩ := putF X hx hZ hown w Via.refl rfl (hfl j _ vs[j] hj (List.getElem?_eq_getElem hlt)) hE (by rw [hnm]; exact wl) wi hty hn hf (g := mkF m pc ls (v :: .ref (n0 + i) :: st)) rfl rfl (hb hby hd)
  obtain ⟨s₂, o, h1, h2⟩ := h T' _ X' (by rw [eT]; exact hR.set W (hO.setF hK hk hj W)) (Fr.snoc X' hF (Nat.le_add_right _ _))
  exact ⟨s₂, o, sp _ h1, h2⟩
def NL (Z : State) (a0 : Array Value) (K : KTab) (own : String) (idx kk sz : Nat) (dv : List Value) : Prop := ∃ C fs, K[kk]? = some (C, fs) ∧ (Jvm.Cond.classLink own idx C).before a0 Z = true ∧ (Jvm.Cond.instantiable C sz).before a0 Z = true ∧ (Jvm.Cond.initialized C).before a0 Z = true ∧ fs.map (fun f => (parseFieldDescriptor f.2.2).map defaultValue) = dv.map some
theorem size_up {p : Program} {e : Env} {s T' : State} {m : MethodId} {args : Array Value} {below : List Frame} {meth : Method} {c : Code} {locs : List Loc} {h : Heap} (X : Stand p l e R s m args below meth c T' locs (k + 1) n) (hb : s.heap.size = n0 + b0) (hh : h.size = n0 + A.length) (hk : A.length = b0 + k) (hlt : h.size < T'.heap.size) : T'.heap.size = n0 + (A.length + 1) := by
  have := X.heapSize
  omega
theorem IsGo.new (H : IsGo l Z a0 K n0 b0 y bytes maxL ret R Q G) {idx kk sz i : Nat} {dv : List Value} (hd : Nx bytes pc (.new idx) 3 pc') (L : NL Z a0 K y.cls idx kk sz dv) (hk : A.length = b0 + k) (hc : k + 1 ≤ R.cells) (hs : n + sz ≤ R.slots) (hi : A.length = i) (hA' : A ++ [.inl (kk, dv)] = A') (hk' : k + 1 = k') (hn' : n + sz = n') (h : G pc' ls (.ref (n0 + i) :: st) A' k' n') : G pc ls st A k n := by
  obtain ⟨hd, rfl⟩ := hd
  obtain ⟨p, e, s, m, args, below, meth, c, hx, hby, hml, hown, hnm, hret, hlk, hZ, hK, hb0, rfl⟩ := H
  obtain ⟨C, fs, hkk, w1, w2, w3, hdv⟩ := L
  subst hA' hk' hn' hi
  intro T locs X hR hF
  obtain ⟨T', h', X', eT, E, EA, D, -, sp⟩ := newO X hx hZ hown w1 w2 w3 rfl (g := mkF m pc ls st) rfl (hb hby hd) hc hs
  have hsz : h'.size = n0 + (A.length + 1) := by rw [← eT]; exact size_up X' hb0 hR.1 hk (by rw [eT]; exact EA.lt)
  rw [hR.1] at EA D
  have hlen : dv.length = fs.length := by simpa using (congrArg List.length hdv).symm
  obtain ⟨-, kl, -⟩ := hK kk C fs hkk
  have hN : ObAt Z K h' (n0 + A.length) (.inl (kk, dv)) := ⟨C, fs, hkk, EA, hlen, fun j f v q r => by
    obtain ⟨L1, t, ht⟩ := kl j f q
    have e1 : (fs.map (fun f => (parseFieldDescriptor f.2.2).map defaultValue))[j]? = some (some (defaultValue t)) := by simp [List.getElem?_map, q, ht]
    rw [hdv, List.getElem?_map, r] at e1
    simp only [Option.map_some, Option.some.injEq] at e1
    rw [e1]; exact D L1 ht⟩
  obtain ⟨s₂, o, h1, h2⟩ := h T' locs X' (by rw [eT]; exact hR.push E hsz hN) hF
  rw [← hR.1] at h1
  exact ⟨s₂, o, sp _ h1, h2⟩
def AL (Z : State) (a0 : Array Value) (t : FieldType) : Prop := (Jvm.Cond.arrayClass t).before a0 Z = true
theorem tn_of {z : Int32} {N : Nat} (h : z.toInt = (N : Int)) : ¬ z < 0 ∧ z.toNatClampNeg = N := by
  constructor
  · intro q
    have := Int32.lt_iff_toInt_lt.mp q
    simp at this; omega
  · simp [Int32.toNatClampNeg, h]
theorem IsGo.newarray (H : IsGo l Z a0 K n0 b0 y bytes maxL ret R Q G) {aty : ArrayType} {i N cap : Nat} {z : Int32} {vs : List Value} {ty : FieldType} (hd : Nx bytes pc (.newarray aty) 2 pc') (hty : newarray.typeOf aty = ty) (w : AL Z a0 ty) (hz : z.toInt = (N : Int)) (hvs : List.replicate N (defaultValue ty) = vs) (hcap : N ≤ cap) (hbig : cap * 8 ≤ 536870912) (hk : A.length = b0 + k) (hc : k + 1 ≤ R.cells) (hs : n + cap ≤ R.slots) (hi : A.length = i) (hA' : A ++ [.inr (ty, vs)] = A') (hk' : k + 1 = k') (hn' : n + cap = n') (h : G pc' ls (.ref (n0 + i) :: st) A' k' n') : G pc ls (.int z :: st) A k n := by
  obtain ⟨hd, rfl⟩ := hd
  obtain ⟨p, e, s, m, args, below, meth, c, hx, hby, hml, hown, hnm, hret, hlk, hZ, hK, hb0, rfl⟩ := H
  subst hA' hk' hn' hi hty
  obtain ⟨z1, z2⟩ := tn_of hz
  intro T locs X hR hF
  obtain ⟨T', h', cA, X', eT, E, Ar, EA, sp⟩ := newPE X hx hZ w rfl (g := mkF m pc ls (.int z :: st)) rfl (hb hby hd) rfl z1 (by rw [z2]; exact hcap) hbig hc hs rfl
  have hsz : h'.size = n0 + (A.length + 1) := by rw [← eT]; exact size_up X' hb0 hR.1 hk (by rw [eT]; exact EA.lt)
  rw [hR.1] at EA Ar
  have hN : ObAt Z K h' (n0 + A.length) (.inr (newarray.typeOf aty, vs)) := ⟨⟨EA, fun w hw => by rw [← hvs] at hw; rw [(List.mem_replicate.mp hw).2]; cases aty <;> rfl⟩, _, Ar, by simp [newA, z2, ← hvs], fun C q => by cases aty <;> simp [newarray.typeOf] at q⟩
  obtain ⟨s₂, o, h1, h2⟩ := h T' locs X' (by rw [eT]; exact hR.push E hsz hN) hF
  rw [← hR.1] at h1
  exact ⟨s₂, o, sp _ h1, h2⟩
theorem IsGo.anewarray (H : IsGo l Z a0 K n0 b0 y bytes maxL ret R Q G) {idx i N cap : Nat} {z : Int32} {vs : List Value} {C : String} (hd : Nx bytes pc (.anewarray idx) 3 pc') (w1 : (Jvm.Cond.classLink y.cls idx C).before a0 Z = true) (w2 : (Jvm.Cond.arrayOver (.object C)).before a0 Z = true) (hz : z.toInt = (N : Int)) (hvs : List.replicate N Value.null = vs) (hcap : N ≤ cap) (hbig : cap * 8 ≤ 536870912) (hk : A.length = b0 + k) (hc : k + 1 ≤ R.cells) (hs : n + cap ≤ R.slots) (hi : A.length = i) (hA' : A ++ [.inr (.object C, vs)] = A') (hk' : k + 1 = k') (hn' : n + cap = n') (h : G pc' ls (.ref (n0 + i) :: st) A' k' n') : G pc ls (.int z :: st) A k n := by
  obtain ⟨hd, rfl⟩ := hd
  obtain ⟨p, e, s, m, args, below, meth, c, hx, hby, hml, hown, hnm, hret, hlk, hZ, hK, hb0, rfl⟩ := H
  subst hA' hk' hn' hi
  obtain ⟨z1, z2⟩ := tn_of hz
  intro T locs X hR hF
  obtain ⟨T', h', cA, X', eT, E, Ar, EA, Ov, sp⟩ := newRE X hx hZ hown w1 w2 rfl (g := mkF m pc ls (.int z :: st)) rfl (hb hby hd) rfl z1 (by rw [z2]; exact hcap) hbig hc hs rfl
  have hsz : h'.size = n0 + (A.length + 1) := by rw [← eT]; exact size_up X' hb0 hR.1 hk (by rw [eT]; exact EA.lt)
  rw [hR.1] at EA Ar
  have hN : ObAt Z K h' (n0 + A.length) (.inr (.object C, vs)) := ⟨⟨EA, fun w hw => by rw [← hvs] at hw; rw [(List.mem_replicate.mp hw).2]; rfl⟩, _, Ar, by simp [newA, z2, ← hvs, defaultValue], fun C' q => by cases q; exact Ov⟩
  obtain ⟨s₂, o, h1, h2⟩ := h T' locs X' (by rw [eT]; exact hR.push E hsz hN) hF
  rw [← hR.1] at h1
  exact ⟨s₂, o, sp _ h1, h2⟩
theorem arr_in {c : Cell} {vs : List Value} {z : Int32} {j : Nat} (hz : z.toInt = (j : Int)) (hs : c.slots = vs.toArray) (hj : j < vs.length) : ¬ (z < 0 ∨ c.slots.size ≤ z.toNatClampNeg) := by
  obtain ⟨z1, z2⟩ := tn_of hz
  rw [z2, hs]; simp [z1]; omega
theorem IsGo.arraylength (H : IsGo l Z a0 K n0 b0 y bytes maxL ret R Q G) (hd : Nx bytes pc .arraylength 1 pc') {i : Nat} {ty : FieldType} {vs : List Value} {z : Int32} (hA : A[i]? = some (.inr (ty, vs))) (hz : vs.length.toInt32 = z) (h : G pc' ls (.int z :: st) A k n) : G pc ls (.ref (n0 + i) :: st) A k n := by
  obtain ⟨hd, rfl⟩ := hd
  obtain ⟨p, e, s, m, args, below, meth, c, hx, hby, hml, hown, hnm, hret, hlk, hZ, hK, hb0, rfl⟩ := H
  subst hz
  intro T locs X hR hF
  obtain ⟨EA, cl, Ar, hcs, -⟩ := hR.2 i _ hA
  obtain ⟨s₂, o, h1, h2⟩ := h T locs X hR hF
  have q : vs.length = cl.slots.size := by rw [hcs]; simp
  rw [q] at h1
  exact ⟨s₂, o, X.arraylength hx Ar.1 (State.isArrayOf_alike hZ.alike Ar.2.1) (g := mkF m pc ls (.ref (n0 + i) :: st)) rfl rfl (hb hby hd) _ h1, h2⟩
theorem IsGo.iaload (H : IsGo l Z a0 K n0 b0 y bytes maxL ret R Q G) (hd : Nx bytes pc .iaload 1 pc') {i j : Nat} {vs : List Value} {z : Int32} {v : Value} (hA : A[i]? = some (.inr (.int, vs))) (hz : z.toInt = (j : Int)) (hv : vs[j]? = some v) (h : G pc' ls (v :: st) A k n) : G pc ls (.int z :: .ref (n0 + i) :: st) A k n := by
  obtain ⟨hd, rfl⟩ := hd
  obtain ⟨p, e, s, m, args, below, meth, c, hx, hby, hml, hown, hnm, hret, hlk, hZ, hK, hb0, rfl⟩ := H
  intro T locs X hR hF
  obtain ⟨EA, cl, Ar, hcs, -⟩ := hR.2 i _ hA
  obtain ⟨s₂, o, h1, h2⟩ := h T locs X hR hF
  exact ⟨s₂, o, X.iaload hx Ar.1 (State.isArrayOf_alike hZ.alike Ar.2.1) Ar.2.2 (arr_in hz hcs (List.getElem?_eq_some_iff.mp hv).1) (v := v) (by rw [(tn_of hz).2, hcs]; simpa using hv) (g := mkF m pc ls (.int z :: .ref (n0 + i) :: st)) rfl rfl (hb hby hd) _ h1, h2⟩
theorem IsGo.laload (H : IsGo l Z a0 K n0 b0 y bytes maxL ret R Q G) (hd : Nx bytes pc .laload 1 pc') {i j : Nat} {vs : List Value} {z : Int32} {v : Value} (hA : A[i]? = some (.inr (.long, vs))) (hz : z.toInt = (j : Int)) (hv : vs[j]? = some v) (h : G pc' ls (v :: st) A k n) : G pc ls (.int z :: .ref (n0 + i) :: st) A k n := by
  obtain ⟨hd, rfl⟩ := hd
  obtain ⟨p, e, s, m, args, below, meth, c, hx, hby, hml, hown, hnm, hret, hlk, hZ, hK, hb0, rfl⟩ := H
  intro T locs X hR hF
  obtain ⟨EA, cl, Ar, hcs, -⟩ := hR.2 i _ hA
  obtain ⟨s₂, o, h1, h2⟩ := h T locs X hR hF
  exact ⟨s₂, o, X.laload hx Ar.1 (State.isArrayOf_alike hZ.alike Ar.2.1) Ar.2.2 (arr_in hz hcs (List.getElem?_eq_some_iff.mp hv).1) (v := v) (by rw [(tn_of hz).2, hcs]; simpa using hv) (g := mkF m pc ls (.int z :: .ref (n0 + i) :: st)) rfl rfl (hb hby hd) _ h1, h2⟩
theorem IsGo.aaload (H : IsGo l Z a0 K n0 b0 y bytes maxL ret R Q G) (hd : Nx bytes pc .aaload 1 pc') {i j : Nat} {C : String} {vs : List Value} {z : Int32} {v : Value} (hA : A[i]? = some (.inr (.object C, vs))) (hz : z.toInt = (j : Int)) (hv : vs[j]? = some v) (h : G pc' ls (v :: st) A k n) : G pc ls (.int z :: .ref (n0 + i) :: st) A k n := by
  obtain ⟨hd, rfl⟩ := hd
  obtain ⟨p, e, s, m, args, below, meth, c, hx, hby, hml, hown, hnm, hret, hlk, hZ, hK, hb0, rfl⟩ := H
  intro T locs X hR hF
  obtain ⟨EA, cl, Ar, hcs, -⟩ := hR.2 i _ hA
  obtain ⟨s₂, o, h1, h2⟩ := h T locs X hR hF
  exact ⟨s₂, o, X.aaload hx Ar.1 (State.isArrayOf_alike hZ.alike Ar.2.1) rfl Ar.2.2 (arr_in hz hcs (List.getElem?_eq_some_iff.mp hv).1) (v := v) (by rw [(tn_of hz).2, hcs]; simpa using hv) (g := mkF m pc ls (.int z :: .ref (n0 + i) :: st)) rfl rfl (hb hby hd) _ h1, h2⟩
theorem IsGo.iastore (H : IsGo l Z a0 K n0 b0 y bytes maxL ret R Q G) (hd : Nx bytes pc .iastore 1 pc') {i j : Nat} {vs : List Value} {z v : Int32} (hA : A[i]? = some (.inr (.int, vs))) (hz : z.toInt = (j : Int)) (hj : j < vs.length) (hA' : A.set i (.inr (.int, vs.set j (.int v))) = A') (h : G pc' ls st A' k n) : G pc ls (.int v :: .int z :: .ref (n0 + i) :: st) A k n := by
  obtain ⟨hd, rfl⟩ := hd
  obtain ⟨p, e, s, m, args, below, meth, c, hx, hby, hml, hown, hnm, hret, hlk, hZ, hK, hb0, rfl⟩ := H
  subst hA'
  intro T locs X hR hF
  have hO := hR.2 i _ hA
  obtain ⟨EA, cl, Ar, hcs, -⟩ := hR.2 i _ hA
  obtain ⟨T', h', X', eT, W, sp⟩ := stI X hx hZ rfl Ar (arr_in hz hcs hj) (g := mkF m pc ls (.int v :: .int z :: .ref (n0 + i) :: st)) rfl rfl (hb hby hd)
  rw [(tn_of hz).2] at W
  obtain ⟨s₂, o, h1, h2⟩ := h T' _ X' (by rw [eT]; exact hR.set W (hO.setA W rfl)) (Fr.snoc X' hF (Nat.le_add_right _ _))
  exact ⟨s₂, o, sp _ h1, h2⟩
theorem IsGo.lastore (H : IsGo l Z a0 K n0 b0 y bytes maxL ret R Q G) (hd : Nx bytes pc .lastore 1 pc') {i j : Nat} {vs : List Value} {z : Int32} {v : Int64} (hA : A[i]? = some (.inr (.long, vs))) (hz : z.toInt = (j : Int)) (hj : j < vs.length) (hA' : A.set i (.inr (.long, vs.set j (.long v))) = A') (h : G pc' ls st A' k n) : G pc ls (.long v :: .int z :: .ref (n0 + i) :: st) A k n := by
  obtain ⟨hd, rfl⟩ := hd
  obtain ⟨p, e, s, m, args, below, meth, c, hx, hby, hml, hown, hnm, hret, hlk, hZ, hK, hb0, rfl⟩ := H
  subst hA'
  intro T locs X hR hF
  have hO := hR.2 i _ hA
  obtain ⟨EA, cl, Ar, hcs, -⟩ := hR.2 i _ hA
  obtain ⟨T', h', X', eT, W, sp⟩ := stJ X hx hZ rfl Ar (arr_in hz hcs hj) (g := mkF m pc ls (.long v :: .int z :: .ref (n0 + i) :: st)) rfl rfl (hb hby hd)
  rw [(tn_of hz).2] at W
  obtain ⟨s₂, o, h1, h2⟩ := h T' _ X' (by rw [eT]; exact hR.set W (hO.setA W rfl)) (Fr.snoc X' hF (Nat.le_add_right _ _))
  exact ⟨s₂, o, sp _ h1, h2⟩
theorem IsGo.bastore (H : IsGo l Z a0 K n0 b0 y bytes maxL ret R Q G) (hd : Nx bytes pc .bastore 1 pc') {i j : Nat} {vs : List Value} {z v w : Int32} (hA : A[i]? = some (.inr (.byte, vs))) (hz : z.toInt = (j : Int)) (hj : j < vs.length) (hw : nar .byte v = w) (hA' : A.set i (.inr (.byte, vs.set j (.int w))) = A') (h : G pc' ls st A' k n) : G pc ls (.int v :: .int z :: .ref (n0 + i) :: st) A k n := by
  obtain ⟨hd, rfl⟩ := hd
  obtain ⟨p, e, s, m, args, below, meth, c, hx, hby, hml, hown, hnm, hret, hlk, hZ, hK, hb0, rfl⟩ := H
  subst hA' hw
  intro T locs X hR hF
  have hO := hR.2 i _ hA
  obtain ⟨EA, cl, Ar, hcs, -⟩ := hR.2 i _ hA
  obtain ⟨T', h', X', eT, W, sp⟩ := stB X hx hZ rfl Ar (arr_in hz hcs hj) (g := mkF m pc ls (.int v :: .int z :: .ref (n0 + i) :: st)) rfl rfl (hb hby hd)
  rw [(tn_of hz).2] at W
  obtain ⟨s₂, o, h1, h2⟩ := h T' _ X' (by rw [eT]; exact hR.set W (hO.setA W (fits_nar_byte v))) (Fr.snoc X' hF (Nat.le_add_right _ _))
  exact ⟨s₂, o, sp _ h1, h2⟩
/-- the value can stand in an array of that class -/
def StoO (K : KTab) (C : String) (n0 : Nat) (A : List Ob) (v : Value) : Prop := v = .null ∨ ∃ i kk vs fs, v = .ref (n0 + i) ∧ A[i]? = some (.inl (kk, vs)) ∧ K[kk]? = some (C, fs)
theorem IsGo.aastore (H : IsGo l Z a0 K n0 b0 y bytes maxL ret R Q G) (hd : Nx bytes pc .aastore 1 pc') {i j : Nat} {C : String} {vs : List Value} {z : Int32} {v : Value} (hA : A[i]? = some (.inr (.object C, vs))) (hz : z.toInt = (j : Int)) (hj : j < vs.length) (hv : StoO K C n0 A v) (hA' : A.set i (.inr (.object C, vs.set j v)) = A') (h : G pc' ls st A' k n) : G pc ls (v :: .int z :: .ref (n0 + i) :: st) A k n := by
  obtain ⟨hd, rfl⟩ := hd
  obtain ⟨p, e, s, m, args, below, meth, c, hx, hby, hml, hown, hnm, hret, hlk, hZ, hK, hb0, rfl⟩ := H
  subst hA'
  intro T locs X hR hF
  have hO := hR.2 i _ hA
  obtain ⟨EA, cl, Ar, hcs, hov⟩ := hR.2 i _ hA
  have S : Sto Z T.heap (n0 + i) v := by
    rcases hv with rfl | ⟨i2, kk, vs2, fs, rfl, q1, q2⟩
    · exact Or.inl rfl
    · exact Sto.of Ar (hov C rfl) (Ins.self ((hR.2 i2 _ q1).exa q2))
  obtain ⟨T', h', X', eT, W, sp⟩ := stR X hx hZ rfl Ar (arr_in hz hcs hj) rfl S (g := mkF m pc ls (v :: .int z :: .ref (n0 + i) :: st)) rfl rfl (hb hby hd)
  rw [(tn_of hz).2] at W
  obtain ⟨s₂, o, h1, h2⟩ := h T' _ X' (by rw [eT]; exact hR.set W (hO.setA W (by rcases hv with rfl | ⟨i2, kk, vs2, fs, rfl, -⟩ <;> rfl))) (Fr.snoc X' hF (Nat.le_add_right _ _))
  exact ⟨s₂, o, sp _ h1, h2⟩
/-! ### arraycopy, clone, checkcast -/
def XL (Z : State) (a0 : Array Value) (own : String) (idx : Nat) : Prop := (Jvm.Cond.methodLink own idx Jvm.Stand.acN).before a0 Z = true ∧ (Jvm.Cond.native Jvm.Stand.acN).before a0 Z = true ∧ (Jvm.Cond.static Jvm.Stand.acN).before a0 Z = true ∧ (Jvm.Cond.initialized "java/lang/System").before a0 Z = true
theorem arv_of {h : Heap} {a : Addr} {ty : FieldType} {vs : List Value} (hl : vs.length < 2147483648) (F : ObAt Z K h a (.inr (ty, vs))) : ∃ kc : ClassId, Arv Z h a kc ty vs.length.toInt32 vs .null ∧ ∀ C, ty = .object C → Ovr Z kc C := by
  obtain ⟨⟨h1, hf⟩, c, h2, h3, h4⟩ := F
  have e := len_toInt (n := vs.length) (by omega)
  obtain ⟨z1, z2⟩ := tn_of e
  refine ⟨c.cls, ⟨c, h2, rfl, by rw [z2, h3]; simp, z1, fun k hk => ?_, fun i hi => ?_⟩, h4⟩
  · rw [h3] at hk ⊢
    have hk' : k < vs.length := by simpa using hk
    simp [List.getD, hk']
  · rw [h3] at hi
    have hi' : i < vs.length := by simpa using hi
    have : vs.getD i .null = vs[i] := by simp [List.getD, hi']
    rw [this]; exact hf _ (List.getElem_mem hi')
theorem slots_of {c : Cell} {vs : List Value} {d : Value} (hs : c.slots.size = vs.length) (hh : ∀ k, k < c.slots.size → c.slots[k]? = some (vs.getD k d)) : c.slots = vs.toArray := by
  apply Array.ext
  · simpa using hs
  · intro i h1 h2
    have q := hh i h1
    have h3 : i < vs.length := by simpa using h2
    rw [Array.getElem?_eq_getElem h1] at q
    have e : vs.getD i d = vs[i] := by simp [List.getD, h3]
    rw [e] at q
    simpa using q
theorem IsGo.arraycopy (H : IsGo l Z a0 K n0 b0 y bytes maxL ret R Q G) {idx : Nat} (hd : Nx bytes pc (.invokestatic idx) 3 pc') (L : XL Z a0 y.cls idx) {i j : Nat} {ty : FieldType} {vs vd us : List Value} {sp dp nn : Int32} {p q r : Nat} (hA : A[i]? = some (.inr (ty, vs))) (hB : A[j]? = some (.inr (ty, vd))) (hty : refKind ty = false) (h1 : sp.toInt = (p : Int)) (h2 : dp.toInt = (q : Int)) (h3 : nn.toInt = (r : Int)) (h4 : p + r ≤ vs.length) (h5 : q + r ≤ vd.length) (l1 : vs.length < 2147483648) (l2 : vd.length < 2147483648)
    (hus : (List.range r).map (fun i => vs.getD (p + i) .null) = us) (hls : ls.size = maxL) (hf : 1 ≤ R.frames) (hl : (st.map fun v => v.category).sum + (nativeFrameWords "java/lang/System" "arraycopy" 5 + 11) ≤ R.locals) (hk : A.length = b0 + k) (hA' : A.set j (.inr (ty, vd.take q ++ us ++ vd.drop (q + r))) = A') (h : G pc' ls st A' k n) : G pc ls (.int nn :: .int dp :: .ref (n0 + j) :: .int sp :: .ref (n0 + i) :: st) A k n := by
  obtain ⟨hd, rfl⟩ := hd
  obtain ⟨pp, e, s, m, args, below, meth, c, hx, hby, hml, hown, hnm, hret, hlk, hZ, hK, hb0, rfl⟩ := H
  obtain ⟨w1, w2, w3, w4⟩ := L
  subst hA'
  intro T locs X hR hF
  obtain ⟨k1, V1, -⟩ := arv_of l1 (hR.2 i _ hA)
  obtain ⟨k2, V2, O2⟩ := arv_of l2 (hR.2 j _ hB)
  obtain ⟨⟨EB, fB⟩, -⟩ := hR.2 j _ hB
  obtain ⟨⟨-, fA⟩, -⟩ := hR.2 i _ hA
  obtain ⟨s1, s2⟩ := tn_of h1
  obtain ⟨t1, t2⟩ := tn_of h2
  obtain ⟨u1, u2⟩ := tn_of h3
  have n1 := (tn_of (len_toInt (n := vs.length) (by omega))).2
  have n2 := (tn_of (len_toInt (n := vd.length) (by omega))).2
  obtain ⟨T', h', L', X', eT, F', Kp, V', sp'⟩ := cpA X hx hZ hown w1 w2 w3 w4 rfl V1 V2 (us := us) (Or.inl ⟨rfl, hty⟩) s1 t1 u1 (by rw [s2, u2, n1]; exact h4) (by rw [t2, u2, n2]; exact h5) (by rw [s2, u2]; exact hus.symm) (by rw [t2, u2]; exact h5) (n0 := n0) hF (Nat.le_add_right _ _) (g := mkF m pc ls (.int nn :: .int dp :: .ref (n0 + j) :: .int sp :: .ref (n0 + i) :: st)) rfl (by rw [hml]; exact hls) rfl (hb hby hd) hf (W := (st.map fun v => v.category).sum) (by show 2 * 0 + _ ≤ _; omega) hl
  have hsz : h'.size = T.heap.size := by
    have q1 := X'.heapSize
    have q2 := Kp.1
    have q3 := hR.1
    rw [eT] at q1
    omega
  rw [t2, u2] at V'
  have hlen : (vd.take q ++ us ++ vd.drop (q + r)).length = vd.length := by
    have : us.length = r := by rw [← hus]; simp
    simp [this]; omega
  have hO : ObAt Z K h' (n0 + j) (.inr (ty, vd.take q ++ us ++ vd.drop (q + r))) := by
    obtain ⟨cc, a1, a2, a3, a4, a5, a6⟩ := V'
    have e1 : cc.slots.size = (vd.take q ++ us ++ vd.drop (q + r)).length := by rw [hlen, a3, n2]
    refine ⟨⟨EB.keep Kp, fun w hw => ?_⟩, cc, a1, slots_of e1 a5, fun C q => by rw [a2]; exact O2 C q⟩
    obtain ⟨z, hz, rfl⟩ := List.mem_iff_getElem.mp hw
    have := a6 z (by rw [e1]; exact hz)
    rwa [show (vd.take q ++ us ++ vd.drop (q + r)).getD z .null = (vd.take q ++ us ++ vd.drop (q + r))[z] from by simp only [List.getD, List.getElem?_eq_getElem hz, Option.getD_some]] at this
  obtain ⟨s₂, o, g1, g2⟩ := h T' _ X' (by rw [eT]; exact hR.keep Kp hsz hO) F'
  exact ⟨s₂, o, sp' _ g1, g2⟩
def KL (Z : State) (a0 : Array Value) (own : String) (idx : Nat) (ad : String) : Prop := (Jvm.Cond.methodLink own idx ⟨ad, "clone", "()Ljava/lang/Object;"⟩).before a0 Z = true ∧ (Jvm.Cond.sameMethod ad "java/lang/Object" "clone" "()Ljava/lang/Object;").before a0 Z = true ∧ (Jvm.Cond.native ⟨"java/lang/Object", "clone", "()Ljava/lang/Object;"⟩).before a0 Z = true ∧
  (Jvm.Cond.instanceMethod ⟨"java/lang/Object", "clone", "()Ljava/lang/Object;"⟩).before a0 Z = true ∧ (Jvm.Cond.selects ad ⟨ad, "clone", "()Ljava/lang/Object;"⟩ ⟨"java/lang/Object", "clone", "()Ljava/lang/Object;"⟩).before a0 Z = true ∧ (Jvm.Cond.castable ad "java/lang/Cloneable").before a0 Z = true
theorem IsGo.clone (H : IsGo l Z a0 K n0 b0 y bytes maxL ret R Q G) {idx : Nat} {ad : String} (hd : Nx bytes pc (.invokevirtual idx) 3 pc') (L : KL Z a0 y.cls idx ad) {i ii cap : Nat} {ty : FieldType} {vs : List Value} (hA : A[i]? = some (.inr (ty, vs))) (had : "[" ++ ty.toString = ad) (l1 : vs.length < 2147483648) (hcap : vs.length ≤ cap)
    (hls : ls.size = maxL) (hf : 1 ≤ R.frames) (hl : (st.map fun v => v.category).sum + 14 ≤ R.locals) (hk : A.length = b0 + k) (hc : k + 1 ≤ R.cells) (hs : n + cap ≤ R.slots) (hi : A.length = ii) (hA' : A ++ [.inr (ty, vs)] = A') (hk' : k + 1 = k') (hn' : n + cap = n') (h : G pc' ls (.ref (n0 + ii) :: st) A' k' n') : G pc ls (.ref (n0 + i) :: st) A k n := by
  obtain ⟨hd, rfl⟩ := hd
  obtain ⟨pp, e, s, m, args, below, meth, c, hx, hby, hml, hown, hnm, hret, hlk, hZ, hK, hb0, rfl⟩ := H
  obtain ⟨w1, w2, w3, w4, w5, w6⟩ := L
  subst hA' hk' hn' hi had
  intro T locs X hR hF
  obtain ⟨k1, V1, O1⟩ := arv_of l1 (hR.2 i _ hA)
  obtain ⟨⟨EB, fB⟩, -⟩ := hR.2 i _ hA
  have n1 := (tn_of (len_toInt (n := vs.length) (by omega))).2
  obtain ⟨T', h', X', eT, E, V', EA, sp⟩ := cloneH X hx hZ hown w1 w2 w3 w4 w5 w6 rfl V1.arh EB (g := mkF m pc ls (.ref (n0 + i) :: st)) rfl (by rw [hml]; exact hls) rfl (hb hby hd) hf (W := (st.map fun v => v.category).sum) (cap := cap) (by show 2 * 0 + _ ≤ _; omega) hl (by rw [n1]; exact hcap) hc hs
  have hsz : h'.size = n0 + (A.length + 1) := by rw [← eT]; exact size_up X' hb0 hR.1 hk (by rw [eT]; exact EA.lt)
  rw [hR.1] at EA V'
  have hN : ObAt Z K h' (n0 + A.length) (.inr (ty, vs)) := by
    obtain ⟨cc, a1, a2, a3, a4, a5, a6⟩ := V'
    refine ⟨⟨EA, fB⟩, cc, a1, slots_of (by rw [a3, n1]) a5, fun C q => by rw [a2]; exact O1 C q⟩
  obtain ⟨s₂, o, h1, h2⟩ := h T' locs X' (by rw [eT]; exact hR.push E hsz hN) hF
  rw [← hR.1] at h1
  exact ⟨s₂, o, sp _ h1, h2⟩
theorem IsGo.castA (H : IsGo l Z a0 K n0 b0 y bytes maxL ret R Q G) {idx : Nat} {ad : String} (hd : Nx bytes pc (.checkcast idx) 3 pc') (w : (Jvm.Cond.classLink y.cls idx ad).before a0 Z = true) {i : Nat} {ty : FieldType} {vs : List Value} (hA : A[i]? = some (.inr (ty, vs))) (had : "[" ++ ty.toString = ad) (h : G pc' ls (.ref (n0 + i) :: st) A k n) : G pc ls (.ref (n0 + i) :: st) A k n := by
  obtain ⟨hd, rfl⟩ := hd
  obtain ⟨pp, e, s, m, args, below, meth, c, hx, hby, hml, hown, hnm, hret, hlk, hZ, hK, hb0, rfl⟩ := H
  subst had
  intro T locs X hR hF
  obtain ⟨⟨EB, -⟩, -⟩ := hR.2 i _ hA
  obtain ⟨T', X', eT, sp⟩ := castY X hx hZ hown w rfl (Ins.self EB) (g := mkF m pc ls (.ref (n0 + i) :: st)) rfl rfl (hb hby hd)
  obtain ⟨s₂, o, h1, h2⟩ := h T' locs X' (by rw [eT]; exact hR) hF
  exact ⟨s₂, o, sp _ h1, h2⟩
/-! ### calls -/
def IL (Z : State) (a0 : Array Value) (own : String) (idx : Nat) : Prop := (Jvm.Cond.methodLink own idx Lib.objectInit).before a0 Z = true ∧ (Jvm.Cond.instanceMethod Lib.objectInit).before a0 Z = true ∧ (Jvm.Cond.code Lib.objectInit ⟨#[0xb1]⟩ 1 none).before a0 Z = true
theorem IsGo.initO (H : IsGo l Z a0 K n0 b0 y bytes maxL ret R Q G) {idx : Nat} (hd : Nx bytes pc (.invokespecial idx) 3 pc') (L : IL Z a0 y.cls idx) {a : Addr} (hls : ls.size = maxL) (hf : 1 ≤ R.frames) (hl : (st.map fun v => v.category).sum + 12 ≤ R.locals) (h : G pc' ls st A k n) : G pc ls (.ref a :: st) A k n := by
  obtain ⟨hd, rfl⟩ := hd
  obtain ⟨p, e, s, m, args, below, meth, c, hx, hby, hml, hown, hnm, hret, hlk, hZ, hK, hb0, rfl⟩ := H
  obtain ⟨w1, w2, w3⟩ := L
  intro T locs X hR hF
  obtain ⟨T', X', eT, sp⟩ := RoadKit.initO X hx hZ hown w1 w2 w3 rfl (g := mkF m pc ls (.ref a :: st)) rfl (by rw [hml]; exact hls) rfl (hb hby hd) hf (W := (st.map fun v => v.category).sum) (by show 2 * 0 + _ ≤ _; omega) hl
  obtain ⟨s₂, o, h1, h2⟩ := h T' locs X' (by rw [eT]; exact hR) hF
  exact ⟨s₂, o, sp _ h1, h2⟩
def SL (Z : State) (a0 : Array Value) (own : String) (idx : Nat) (z : MethodName) (zb : ByteArray) (zm : Nat) (zr : Option FieldType) (np : Nat) : Prop :=
  (Jvm.Cond.methodLink own idx z).before a0 Z = true ∧ (Jvm.Cond.static z).before a0 Z = true ∧ (Jvm.Cond.initialized z.cls).before a0 Z = true ∧ (Jvm.Cond.code z zb zm zr).before a0 Z = true ∧ (z.cls ≠ "java/lang/invoke/MethodHandle" ∧ z.cls ≠ "java/lang/invoke/VarHandle") ∧ ∀ sig, parseMethodDescriptor z.desc = some sig → np = sig.parameters.length
theorem IsGo.callS (H : IsGo l Z a0 K n0 b0 y bytes maxL ret R Q G) {idx : Nat} (hd : Nx bytes pc (.invokestatic idx) 3 pc') {z : MethodName} {zb : ByteArray} {zm : Nat} {zr : Option FieldType} {np : Nat} (L : SL Z a0 y.cls idx z zb zm zr np) {rm : Room} {as : Array Value} {QQ : Option Value → List Ob → Prop} (M : Met l Z K n0 z zb zm zr rm as A QQ)
    {argsL rest : List Value} (ha : argsL.toArray = as) (hnp : argsL.length = np) (hst : st = argsL.reverse ++ rest) (hls : ls.size = maxL) (hf : rm.frames + 1 ≤ R.frames) (hl : (rest.map fun v => v.category).sum + (zm + 11) + rm.locals ≤ R.locals) (hc : k + rm.cells ≤ R.cells) (hs : n + rm.slots ≤ R.slots) (h : ∀ v A', QQ v A' → G pc' ls (v.toList ++ rest) A' (k + rm.cells) (n + rm.slots)) : G pc ls st A k n := by
  obtain ⟨hd, rfl⟩ := hd
  obtain ⟨p, e, s, m, args, below, meth, c, hx, hby, hml, hown, hnm, hret, hlk, hZ, hK, hb0, rfl⟩ := H
  obtain ⟨w1, w2, w3, w4, w5, w6⟩ := L
  subst ha hst hnp
  intro T locs X hR hF
  obtain ⟨v, vm₁, ⟨T', L', k', n'⟩, -, X', ⟨Lc, ⟨A', hQ, hR', hF'⟩, e1, e2, e3⟩, sp⟩ := Jvm.LawKit.callS X hx (y := z) hown (mvT hZ w1) (mvT hZ w2) (mvT hZ w3) (mvT hZ w4) w5 (backOf (W := (rest.map fun v => v.category).sum) (Q := fun v h L => ∃ A', QQ v A' ∧ Rel Z K n0 h A' ∧ Fr n0 L) (M [] T.heap hR) hZ w4 w3 hf hl) (g := mkF m pc ls (argsL.reverse ++ rest)) rfl (by rw [hml]; exact hls) (argsL := argsL) (rest := rest) w6 rfl (by show 2 * 0 + _ ≤ _; omega) (hb hby hd) (fun _ _ => ⟨rfl, rfl, hc, hs⟩)
  dsimp only [Pt.U, Pt.locs, Pt.cells, Pt.slots] at X' e1 e2 e3 sp hQ hR'
  subst e1 e2 e3
  obtain ⟨s₂, o, h1, h2⟩ := h v A' hQ T' _ X' hR' (Fr.app hF hF')
  exact ⟨s₂, o, sp _ h1, h2⟩
/-- a constructor by its contract -/
def CL (Z : State) (a0 : Array Value) (own : String) (idx : Nat) (z : MethodName) (zb : ByteArray) (zm : Nat) (np : Nat) : Prop :=
  (Jvm.Cond.methodLink own idx z).before a0 Z = true ∧ (Jvm.Cond.instanceMethod z).before a0 Z = true ∧ (Jvm.Cond.initialized z.cls).before a0 Z = true ∧ (Jvm.Cond.code z zb zm none).before a0 Z = true ∧ (z.cls ≠ "java/lang/invoke/MethodHandle" ∧ z.cls ≠ "java/lang/invoke/VarHandle") ∧ (∀ sig, parseMethodDescriptor z.desc = some sig → np = sig.parameters.length) ∧ z.name = "<init>"
theorem IsGo.callC (H : IsGo l Z a0 K n0 b0 y bytes maxL ret R Q G) {idx : Nat} (hd : Nx bytes pc (.invokespecial idx) 3 pc') {z : MethodName} {zb : ByteArray} {zm : Nat} {np : Nat} (L : CL Z a0 y.cls idx z zb zm np) {rm : Room} {as : Array Value} {QQ : Option Value → List Ob → Prop} (M : Met l Z K n0 z zb zm none rm as A QQ)
    {a : Addr} {argsL rest : List Value} (ha : (Value.ref a :: argsL).toArray = as) (hnp : argsL.length = np) (hst : st = argsL.reverse ++ .ref a :: rest) (hls : ls.size = maxL) (hf : rm.frames + 1 ≤ R.frames) (hl : (rest.map fun v => v.category).sum + (zm + 11) + rm.locals ≤ R.locals) (hc : k + rm.cells ≤ R.cells) (hs : n + rm.slots ≤ R.slots) (h : ∀ v A', QQ v A' → G pc' ls (v.toList ++ rest) A' (k + rm.cells) (n + rm.slots)) : G pc ls st A k n := by
  obtain ⟨hd, rfl⟩ := hd
  obtain ⟨p, e, s, m, args, below, meth, c, hx, hby, hml, hown, hnm, hret, hlk, hZ, hK, hb0, rfl⟩ := H
  obtain ⟨w1, w2, w3, w4, w5, w6, w7⟩ := L
  subst ha hst hnp
  intro T locs X hR hF
  obtain ⟨v, vm₁, ⟨T', L', k', n'⟩, -, X', ⟨Lc, ⟨A', hQ, hR', hF'⟩, e1, e2, e3⟩, sp⟩ := X.specialBack hx (y := z) w7 hown (mvT hZ w1) (mvT hZ w2) (mvT hZ w4) w5 (backOf (W := (rest.map fun v => v.category).sum) (Q := fun v h L => ∃ A', QQ v A' ∧ Rel Z K n0 h A' ∧ Fr n0 L) (M [] T.heap hR) hZ w4 w3 hf hl) (g := mkF m pc ls (argsL.reverse ++ .ref a :: rest)) rfl (by rw [hml]; exact hls) (Steps.refl _) (a := a) (argsL := argsL) (rest := rest) w6 rfl (by show 2 * 0 + _ ≤ _; omega) (hb hby hd) (fun _ _ => ⟨rfl, rfl, hc, hs⟩)
  dsimp only [Pt.U, Pt.locs, Pt.cells, Pt.slots] at X' e1 e2 e3 sp hQ hR'
  subst e1 e2 e3
  obtain ⟨s₂, o, h1, h2⟩ := h v A' hQ T' _ X' hR' (Fr.app hF hF')
  exact ⟨s₂, o, sp.trans h1, h2⟩
/-- a method of an object of class number kk, by its contract -/
def VL (Z : State) (a0 : Array Value) (K : KTab) (own : String) (idx kk : Nat) (z : MethodName) (zb : ByteArray) (zm : Nat) (zr : Option FieldType) (np : Nat) : Prop :=
  ∃ C fs, K[kk]? = some (C, fs) ∧ (Jvm.Cond.methodLink own idx z).before a0 Z = true ∧ (Jvm.Cond.declares z).before a0 Z = true ∧ (Jvm.Cond.selects C z z).before a0 Z = true ∧ (Jvm.Cond.instanceMethod z).before a0 Z = true ∧ (Jvm.Cond.initialized z.cls).before a0 Z = true ∧ (Jvm.Cond.code z zb zm zr).before a0 Z = true ∧ (z.cls ≠ "java/lang/invoke/MethodHandle" ∧ z.cls ≠ "java/lang/invoke/VarHandle") ∧ (∀ sig, parseMethodDescriptor z.desc = some sig → np = sig.parameters.length)
theorem IsGo.callV (H : IsGo l Z a0 K n0 b0 y bytes maxL ret R Q G) {idx kk : Nat} (hd : Nx bytes pc (.invokevirtual idx) 3 pc') {z : MethodName} {zb : ByteArray} {zm : Nat} {zr : Option FieldType} {np : Nat} (L : VL Z a0 K y.cls idx kk z zb zm zr np) {rm : Room} {as : Array Value} {QQ : Option Value → List Ob → Prop} (M : Met l Z K n0 z zb zm zr rm as A QQ)
    {i : Nat} {vs : List Value} (hA : A[i]? = some (.inl (kk, vs))) {argsL rest : List Value} (ha : (Value.ref (n0 + i) :: argsL).toArray = as) (hnp : argsL.length = np) (hst : st = argsL.reverse ++ .ref (n0 + i) :: rest) (hls : ls.size = maxL) (hf : rm.frames + 1 ≤ R.frames) (hl : (rest.map fun v => v.category).sum + (zm + 11) + rm.locals ≤ R.locals) (hc : k + rm.cells ≤ R.cells) (hs : n + rm.slots ≤ R.slots) (h : ∀ v A', QQ v A' → G pc' ls (v.toList ++ rest) A' (k + rm.cells) (n + rm.slots)) : G pc ls st A k n := by
  obtain ⟨hd, rfl⟩ := hd
  obtain ⟨p, e, s, m, args, below, meth, c, hx, hby, hml, hown, hnm, hret, hlk, hZ, hK, hb0, rfl⟩ := H
  obtain ⟨C, fs, hk, w1, w2, w3, w4, w5, w6, w7, w8⟩ := L
  subst ha hst hnp
  intro T locs X hR hF
  obtain ⟨cB, kB, qa, qb, qc⟩ := isOf hZ rfl ((hR.2 i _ hA).exa hk)
  obtain ⟨v, vm₁, ⟨T', L', k', n'⟩, -, X', ⟨Lc, ⟨A', hQ, hR', hF'⟩, e1, e2, e3⟩, sp⟩ := X.virtualBack hx (y := z) (z := z) hown (mvT hZ w1) (mvT hZ w2) (notFace_of_selects (args := #[]) (mvT hZ w3)) (mvT hZ w3) (mvT hZ w4) w7 (backOf (W := (rest.map fun v => v.category).sum) (Q := fun v h L => ∃ A', QQ v A' ∧ Rel Z K n0 h A' ∧ Fr n0 L) (M [] T.heap hR) hZ w6 w5 hf hl) qa qc (g := mkF m pc ls (argsL.reverse ++ .ref (n0 + i) :: rest)) rfl (by rw [hml]; exact hls) (Steps.refl _) (argsL := argsL) (rest := rest) w8 rfl (by show 2 * 0 + _ ≤ _; omega) (hb hby hd) (fun _ _ => ⟨rfl, rfl, hc, hs⟩)
  dsimp only [Pt.U, Pt.locs, Pt.cells, Pt.slots] at X' e1 e2 e3 sp hQ hR'
  subst e1 e2 e3
  obtain ⟨s₂, o, h1, h2⟩ := h v A' hQ T' _ X' hR' (Fr.app hF hF')
  exact ⟨s₂, o, sp.trans h1, h2⟩
/-- a private method -/
def ML (Z : State) (a0 : Array Value) (K : KTab) (own : String) (idx kk : Nat) (z : MethodName) (zb : ByteArray) (zm : Nat) (zr : Option FieldType) (np : Nat) : Prop :=
  ∃ C fs, K[kk]? = some (C, fs) ∧ (Jvm.Cond.methodLink own idx z).before a0 Z = true ∧ (Jvm.Cond.privateMethod z).before a0 Z = true ∧ z.cls = C ∧ (Jvm.Cond.instanceMethod z).before a0 Z = true ∧ (Jvm.Cond.initialized z.cls).before a0 Z = true ∧ (Jvm.Cond.code z zb zm zr).before a0 Z = true ∧ (z.cls ≠ "java/lang/invoke/MethodHandle" ∧ z.cls ≠ "java/lang/invoke/VarHandle") ∧ (∀ sig, parseMethodDescriptor z.desc = some sig → np = sig.parameters.length)
theorem IsGo.callM (H : IsGo l Z a0 K n0 b0 y bytes maxL ret R Q G) {idx kk : Nat} (hd : Nx bytes pc (.invokevirtual idx) 3 pc') {z : MethodName} {zb : ByteArray} {zm : Nat} {zr : Option FieldType} {np : Nat} (L : ML Z a0 K y.cls idx kk z zb zm zr np) {rm : Room} {as : Array Value} {QQ : Option Value → List Ob → Prop} (M : Met l Z K n0 z zb zm zr rm as A QQ)
    {i : Nat} {vs : List Value} (hA : A[i]? = some (.inl (kk, vs))) {argsL rest : List Value} (ha : (Value.ref (n0 + i) :: argsL).toArray = as) (hnp : argsL.length = np) (hst : st = argsL.reverse ++ .ref (n0 + i) :: rest) (hls : ls.size = maxL) (hf : rm.frames + 1 ≤ R.frames) (hl : (rest.map fun v => v.category).sum + (zm + 11) + rm.locals ≤ R.locals) (hc : k + rm.cells ≤ R.cells) (hs : n + rm.slots ≤ R.slots) (h : ∀ v A', QQ v A' → G pc' ls (v.toList ++ rest) A' (k + rm.cells) (n + rm.slots)) : G pc ls st A k n := by
  obtain ⟨hd, rfl⟩ := hd
  obtain ⟨p, e, s, m, args, below, meth, c, hx, hby, hml, hown, hnm, hret, hlk, hZ, hK, hb0, rfl⟩ := H
  obtain ⟨C, fs, hk, w1, w2, w3, w4, w5, w6, w7, w8⟩ := L
  subst ha hst hnp
  intro T locs X hR hF
  obtain ⟨cq, q1, q2⟩ := ((hR.2 i _ hA).exa hk).cell
  obtain ⟨⟨ki, wi⟩, -, -⟩ := hK kk C fs hk
  obtain ⟨c2, k2, i1, i2, -, i4, -⟩ := Cond.instantiable_spec (show (Jvm.Cond.instantiable z.cls ki).before args s = true from mvT hZ (by rw [w3]; exact wi))
  have hni : k2.isInterface = false := by
    simp only [Bool.or_eq_false_iff] at i4
    exact i4.1
  have hpr := Cond.privateMethod_at (mvP hZ w2 (args := #[]))
  have w3' := selects_self_of_private (args := args) i1 i2 hni hpr (mvT hZ w4) w7
  obtain ⟨v, vm₁, ⟨T', L', k', n'⟩, -, X', ⟨Lc, ⟨A', hQ, hR', hF'⟩, e1, e2, e3⟩, sp⟩ := X.privateBack hx (y := z) hown (mvT hZ w1) (mvT hZ w4) w3' hpr (mvT hZ w6) w7 (backOf (W := (rest.map fun v => v.category).sum) (Q := fun v h L => ∃ A', QQ v A' ∧ Rel Z K n0 h A' ∧ Fr n0 L) (M [] T.heap hR) hZ w6 w5 hf hl) (g := mkF m pc ls (argsL.reverse ++ .ref (n0 + i) :: rest)) rfl (by rw [hml]; exact hls) (Steps.refl _) (a := n0 + i) q1 q2 (argsL := argsL) (rest := rest) w8 rfl (by show 2 * 0 + _ ≤ _; omega) (hb hby hd) (fun _ _ => ⟨rfl, rfl, hc, hs⟩)
  dsimp only [Pt.U, Pt.locs, Pt.cells, Pt.slots] at X' e1 e2 e3 sp hQ hR'
  subst e1 e2 e3
  obtain ⟨s₂, o, h1, h2⟩ := h v A' hQ T' _ X' hR' (Fr.app hF hF')
  exact ⟨s₂, o, sp.trans h1, h2⟩
theorem IsGo.callSD (H : IsGo l Z a0 K n0 b0 y bytes maxL ret R Q G) {idx : Nat} (hd : Nx bytes pc (.invokestatic idx) 3 pc') {z : MethodName} {zb : ByteArray} {zm : Nat} {zr : Option FieldType} {np : Nat} (L : SL Z a0 y.cls idx z zb zm zr np) {rm : Room} {as : Array Value} {vo : Option Value} (M : Met l Z K n0 z zb zm zr rm as A (Is vo A'))
    {argsL rest : List Value} (ha : argsL.toArray = as) (hnp : argsL.length = np) (hst : st = argsL.reverse ++ rest) (hls : ls.size = maxL) (hf : rm.frames + 1 ≤ R.frames) (hl : (rest.map fun v => v.category).sum + (zm + 11) + rm.locals ≤ R.locals) (hc : k + rm.cells ≤ R.cells) (hs : n + rm.slots ≤ R.slots) (hst' : vo.toList ++ rest = st') (hk' : k + rm.cells = k') (hn' : n + rm.slots = n') (h : G pc' ls st' A' k' n') : G pc ls st A k n :=
  H.callS hd L M ha hnp hst hls hf hl hc hs (fun v B q => by obtain ⟨rfl, rfl⟩ := q; subst hst' hk' hn'; exact h)
theorem IsGo.callCD (H : IsGo l Z a0 K n0 b0 y bytes maxL ret R Q G) {idx : Nat} (hd : Nx bytes pc (.invokespecial idx) 3 pc') {z : MethodName} {zb : ByteArray} {zm : Nat} {np : Nat} (L : CL Z a0 y.cls idx z zb zm np) {rm : Room} {as : Array Value} {vo : Option Value} (M : Met l Z K n0 z zb zm none rm as A (Is vo A'))
    {a : Addr} {argsL rest : List Value} (ha : (Value.ref a :: argsL).toArray = as) (hnp : argsL.length = np) (hst : st = argsL.reverse ++ .ref a :: rest) (hls : ls.size = maxL) (hf : rm.frames + 1 ≤ R.frames) (hl : (rest.map fun v => v.category).sum + (zm + 11) + rm.locals ≤ R.locals) (hc : k + rm.cells ≤ R.cells) (hs : n + rm.slots ≤ R.slots) (hst' : vo.toList ++ rest = st') (hk' : k + rm.cells = k') (hn' : n + rm.slots = n') (h : G pc' ls st' A' k' n') : G pc ls st A k n :=
  H.callC hd L M ha hnp hst hls hf hl hc hs (fun v B q => by obtain ⟨rfl, rfl⟩ := q; subst hst' hk' hn'; exact h)
theorem IsGo.callVD (H : IsGo l Z a0 K n0 b0 y bytes maxL ret R Q G) {idx kk : Nat} (hd : Nx bytes pc (.invokevirtual idx) 3 pc') {z : MethodName} {zb : ByteArray} {zm : Nat} {zr : Option FieldType} {np : Nat} (L : VL Z a0 K y.cls idx kk z zb zm zr np) {rm : Room} {as : Array Value} {vo : Option Value} (M : Met l Z K n0 z zb zm zr rm as A (Is vo A'))
    {i : Nat} {vs : List Value} (hA : A[i]? = some (.inl (kk, vs))) {argsL rest : List Value} (ha : (Value.ref (n0 + i) :: argsL).toArray = as) (hnp : argsL.length = np) (hst : st = argsL.reverse ++ .ref (n0 + i) :: rest) (hls : ls.size = maxL) (hf : rm.frames + 1 ≤ R.frames) (hl : (rest.map fun v => v.category).sum + (zm + 11) + rm.locals ≤ R.locals) (hc : k + rm.cells ≤ R.cells) (hs : n + rm.slots ≤ R.slots) (hst' : vo.toList ++ rest = st') (hk' : k + rm.cells = k') (hn' : n + rm.slots = n') (h : G pc' ls st' A' k' n') : G pc ls st A k n :=
  H.callV hd L M hA ha hnp hst hls hf hl hc hs (fun v B q => by obtain ⟨rfl, rfl⟩ := q; subst hst' hk' hn'; exact h)
theorem IsGo.callMD (H : IsGo l Z a0 K n0 b0 y bytes maxL ret R Q G) {idx kk : Nat} (hd : Nx bytes pc (.invokevirtual idx) 3 pc') {z : MethodName} {zb : ByteArray} {zm : Nat} {zr : Option FieldType} {np : Nat} (L : ML Z a0 K y.cls idx kk z zb zm zr np) {rm : Room} {as : Array Value} {vo : Option Value} (M : Met l Z K n0 z zb zm zr rm as A (Is vo A'))
    {i : Nat} {vs : List Value} (hA : A[i]? = some (.inl (kk, vs))) {argsL rest : List Value} (ha : (Value.ref (n0 + i) :: argsL).toArray = as) (hnp : argsL.length = np) (hst : st = argsL.reverse ++ .ref (n0 + i) :: rest) (hls : ls.size = maxL) (hf : rm.frames + 1 ≤ R.frames) (hl : (rest.map fun v => v.category).sum + (zm + 11) + rm.locals ≤ R.locals) (hc : k + rm.cells ≤ R.cells) (hs : n + rm.slots ≤ R.slots) (hst' : vo.toList ++ rest = st') (hk' : k + rm.cells = k') (hn' : n + rm.slots = n') (h : G pc' ls st' A' k' n') : G pc ls st A k n :=
  H.callM hd L M hA ha hnp hst hls hf hl hc hs (fun v B q => by obtain ⟨rfl, rfl⟩ := q; subst hst' hk' hn'; exact h)
/-! ### the end -/
theorem IsGo.retW (H : IsGo l Z a0 K n0 b0 y bytes maxL ret R Q G) {i : Instr} (hd : Nx bytes pc i 1 pc') {t : FieldType} {w : Value} (hret : ret = some t) (hn : narrow t w = w)
    (hi : (i = .ireturn ∧ (t = .int ∨ t = .boolean ∨ t = .byte ∨ t = .char ∨ t = .short) ∧ ∃ z, w = .int z) ∨ (i = .lreturn ∧ t = .long ∧ ∃ z, w = .long z) ∨ (i = .dreturn ∧ t = .double ∧ ∃ z, w = .double z) ∨ (i = .freturn ∧ t = .float ∧ ∃ z, w = .float z) ∨ (i = .areturn ∧ t.isReference = true ∧ w.isRef = true))
    (hQ : Q (some w) A) (hc : k ≤ R.cells) (hs : n ≤ R.slots) : G pc ls (w :: st) A k n := by
  obtain ⟨hd, rfl⟩ := hd
  obtain ⟨p, e, s, m, args, below, meth, c, hx, hby, hml, hown, hnm, hret', hlk, hZ, hK, hb0, rfl⟩ := H
  intro T locs X hR hF
  obtain ⟨fs, hr, hrun, hended, hW, hsame⟩ := X.leave (v := some w) (fun h => by rw [hret', hret] at h; cases h) hlk
  exact ⟨_, _, retOut X hx (hret'.trans hret) hn hi (hb hby hd) hr, hrun, hended, _, _, rfl, ⟨A, hQ, hR, hF⟩, ⟨_, rfl⟩, hW, hsame.mono hc hs⟩
theorem IsGo.ireturn (H : IsGo l Z a0 K n0 b0 y bytes maxL ret R Q G) (hd : Nx bytes pc .ireturn 1 pc') {t : FieldType} {z : Int32} (hret : ret = some t) (ht : t = .int ∨ t = .boolean ∨ t = .byte ∨ t = .char ∨ t = .short) (hn : narrow t (.int z) = .int z) (hQ : Q (some (.int z)) A) (hc : k ≤ R.cells) (hs : n ≤ R.slots) : G pc ls (.int z :: st) A k n :=
  H.retW hd hret hn (Or.inl ⟨rfl, ht, z, rfl⟩) hQ hc hs
theorem IsGo.lreturn (H : IsGo l Z a0 K n0 b0 y bytes maxL ret R Q G) (hd : Nx bytes pc .lreturn 1 pc') {z : Int64} (hret : ret = some .long) (hQ : Q (some (.long z)) A) (hc : k ≤ R.cells) (hs : n ≤ R.slots) : G pc ls (.long z :: st) A k n :=
  H.retW hd hret rfl (Or.inr (Or.inl ⟨rfl, rfl, z, rfl⟩)) hQ hc hs
theorem IsGo.areturn (H : IsGo l Z a0 K n0 b0 y bytes maxL ret R Q G) (hd : Nx bytes pc .areturn 1 pc') {t : FieldType} {w : Value} (hret : ret = some t) (ht : t.isReference = true) (hn : narrow t w = w) (hw : w.isRef = true) (hQ : Q (some w) A) (hc : k ≤ R.cells) (hs : n ≤ R.slots) : G pc ls (w :: st) A k n :=
  H.retW hd hret hn (Or.inr (Or.inr (Or.inr (Or.inr ⟨rfl, ht, hw⟩)))) hQ hc hs
theorem IsGo.vreturn (H : IsGo l Z a0 K n0 b0 y bytes maxL ret R Q G) (hd : Nx bytes pc .return_ 1 pc') (hret : ret = none) (hQ : Q none A) (hc : k ≤ R.cells) (hs : n ≤ R.slots) : G pc ls [] A k n := by
  obtain ⟨hd, rfl⟩ := hd
  obtain ⟨p, e, s, m, args, below, meth, c, hx, hby, hml, hown, hnm, hret', hlk, hZ, hK, hb0, rfl⟩ := H
  intro T locs X hR hF
  obtain ⟨fs, hr, hrun, hended, hW, hsame⟩ := X.leave (v := none) (fun _ => rfl) hlk
  exact ⟨_, _, X.returnOut hx (hret'.trans hret) (hb hby hd) hr, hrun, hended, _, _, rfl, ⟨A, hQ, hR, hF⟩, ⟨_, rfl⟩, hW, hsame.mono hc hs⟩
end Rules
end Jvm.OwnKit

namespace Jvm.OwnI
open Sem ClassFile Op Lib Jvm.Free Jvm.Stand Jvm.LawKit Jvm.RoadKit Jvm.OwnKit
abbrev MV : Type := Int ⊕ Nat
abbrev MO : Type := (Nat × List MV) ⊕ List MV
abbrev MS : Type := Nat × List (Option MV) × List MV × List MO × Nat × Nat
abbrev ME : Type := (MS → Option MS) ⊕ (Nat × Nat × Nat × Nat × List (Option MV)) ⊕ Nat
def nul : MV := .inr 0
def okI : Int → Bool
  | .ofNat m => Nat.ble m 2147483647
  | .negSucc m => Nat.ble m 2147483647
def ltI : Int → Int → Bool
  | .ofNat a, .ofNat b => Nat.ble (a + 1) b
  | .negSucc _, .ofNat _ => true
  | .ofNat _, .negSucc _ => false
  | .negSucc a, .negSucc b => Nat.ble (b + 1) a
def eqI : Int → Int → Bool
  | .ofNat a, .ofNat b => Nat.beq a b
  | .negSucc a, .negSucc b => Nat.beq a b
  | _, _ => false
def cmI : ClassFile.Cond → Int → Int → Bool
  | .eq, u, v => eqI u v
  | .ne, u, v => !eqI u v
  | .lt, u, v => ltI u v
  | .ge, u, v => !ltI u v
  | .gt, u, v => ltI v u
  | .le, u, v => !ltI v u
def nthR {α : Type} : List α → Nat → Option α
  | [], _ => none
  | x :: _, 0 => some x
  | _ :: xs, n + 1 => nthR xs n
def nt1 {α : Type} (r : List α → Nat → Option α) (l : List α) (n : Nat) : Option α := match l with
  | [] => none
  | x :: xs => match n with
    | 0 => some x
    | n + 1 => r xs n
def nth {α : Type} (l : List α) (n : Nat) : Option α := nt1 (nt1 (nt1 (nt1 (nt1 (nt1 (nt1 (nt1 (nt1 (nt1 (nt1 (nt1 (nt1 (nt1 (nt1 (nt1 (nt1 (nt1 (nt1 (nt1 nthR))))))))))))))))))) l n
def nrm {α ρ : Type} : List α → (List α → ρ) → ρ
  | [], c => c []
  | x :: xs, c => nrm xs (fun ys => c (x :: ys))
def stR {α ρ : Type} : List α → Nat → α → (List α → ρ) → ρ
  | [], _, _, c => c []
  | _ :: xs, 0, v, c => c (v :: xs)
  | x :: xs, n + 1, v, c => stR xs n v (fun ys => c (x :: ys))
def st1 {α ρ : Type} (r : List α → Nat → α → (List α → ρ) → ρ) (l : List α) (n : Nat) (v : α) (c : List α → ρ) : ρ := match l with
  | [] => c []
  | x :: xs => match n with
    | 0 => c (v :: xs)
    | n + 1 => r xs n v (fun ys => c (x :: ys))
def stK {α ρ : Type} (l : List α) (n : Nat) (v : α) (c : List α → ρ) : ρ := st1 (st1 (st1 (st1 (st1 (st1 (st1 (st1 (st1 (st1 (st1 (st1 (st1 (st1 (st1 (st1 (st1 (st1 (st1 (st1 stR))))))))))))))))))) l n v c
def fN {ρ : Type} (n : Nat) (c : Nat → ρ) : ρ := match n with
  | 0 => c 0
  | m + 1 => c (Nat.add m 1)
def fI {ρ : Type} (z : Int) (c : Int → ρ) : ρ := match z with
  | .ofNat m => fN m (fun m => c (.ofNat m))
  | .negSucc m => fN m (fun m => c (.negSucc m))
theorem nthR_eq {α : Type} : ∀ (l : List α) (j : Nat), nthR l j = l[j]?
  | [], _ => by simp [nthR]
  | x :: xs, 0 => by simp [nthR]
  | x :: xs, n + 1 => by simp [nthR, nthR_eq xs n]
theorem nt1_eq {α : Type} {r : List α → Nat → Option α} (h : ∀ l j, r l j = l[j]?) (l : List α) (j : Nat) : nt1 r l j = l[j]? := by
  cases l with
  | nil => simp [nt1]
  | cons x xs => cases j <;> simp [nt1, h]
theorem nth_eq {α : Type} (l : List α) (j : Nat) : nth l j = l[j]? := nt1_eq (nt1_eq (nt1_eq (nt1_eq (nt1_eq (nt1_eq (nt1_eq (nt1_eq (nt1_eq (nt1_eq (nt1_eq (nt1_eq (nt1_eq (nt1_eq (nt1_eq (nt1_eq (nt1_eq (nt1_eq (nt1_eq (nt1_eq nthR_eq))))))))))))))))))) l j
theorem nrm_eq {α ρ : Type} : ∀ (l : List α) (c : List α → ρ), nrm l c = c l
  | [], _ => rfl
  | x :: xs, c => nrm_eq xs _
theorem stR_eq {α ρ : Type} : ∀ (l : List α) (j : Nat) (v : α) (c : List α → ρ), stR l j v c = c (l.set j v)
  | [], _, _, _ => rfl
  | _ :: _, 0, _, _ => rfl
  | x :: xs, n + 1, v, c => stR_eq xs n v _
theorem st1_eq {α ρ : Type} {r : List α → Nat → α → (List α → ρ) → ρ} (h : ∀ l j v c, r l j v c = c (l.set j v)) (l : List α) (j : Nat) (v : α) (c : List α → ρ) : st1 r l j v c = c (l.set j v) := by
  cases l with
  | nil => rfl
  | cons x xs => cases j with
    | zero => rfl
    | succ n => exact h xs n v _
theorem stK_eq {α ρ : Type} (l : List α) (j : Nat) (v : α) (c : List α → ρ) : stK l j v c = c (l.set j v) := st1_eq (st1_eq (st1_eq (st1_eq (st1_eq (st1_eq (st1_eq (st1_eq (st1_eq (st1_eq (st1_eq (st1_eq (st1_eq (st1_eq (st1_eq (st1_eq (st1_eq (st1_eq (st1_eq (st1_eq stR_eq))))))))))))))))))) l j v c
theorem fN_eq {ρ : Type} (n : Nat) (c : Nat → ρ) : fN n c = c n := by cases n <;> rfl
theorem fI_eq {ρ : Type} (z : Int) (c : Int → ρ) : fI z c = c z := by
  cases z with
  | ofNat m => exact fN_eq m (fun m => c (.ofNat m))
  | negSucc m => exact fN_eq m (fun m => c (.negSucc m))
def xIload (j nx : Nat) : MS → Option MS := fun (_, ls, st, A, k, n) => match nth ls j with | some (some (.inl v)) => some (nx, ls, .inl v :: st, A, k, n) | _ => none
def xAload (j nx : Nat) : MS → Option MS := fun (_, ls, st, A, k, n) => match nth ls j with | some (some (.inr v)) => some (nx, ls, .inr v :: st, A, k, n) | _ => none
def xIstore (j nx : Nat) : MS → Option MS := fun (_, ls, st, A, k, n) => match st with | .inl v :: r => stK ls j (some (.inl v)) fun ls' => some (nx, ls', r, A, k, n) | _ => none
def xAstore (j nx : Nat) : MS → Option MS := fun (_, ls, st, A, k, n) => match st with | .inr v :: r => stK ls j (some (.inr v)) fun ls' => some (nx, ls', r, A, k, n) | _ => none
def xPush (z : Int) (nx : Nat) : MS → Option MS := fun (_, ls, st, A, k, n) => fI z fun z => some (nx, ls, .inl z :: st, A, k, n)
def xBin (f : Int → Int → Int) (nx : Nat) : MS → Option MS := fun (_, ls, st, A, k, n) => match st with
  | .inl v :: .inl u :: r => fI (f u v) fun z => bif okI u && okI v && okI z then some (nx, ls, .inl z :: r, A, k, n) else none
  | _ => none
def xRem (nx : Nat) : MS → Option MS := fun (_, ls, st, A, k, n) => match st with
  | .inl (.ofNat v) :: .inl (.ofNat u) :: r => bif okI (.ofNat u) && okI (.ofNat v) && Nat.ble 1 v then fN (Nat.mod u v) fun z => some (nx, ls, .inl (.ofNat z) :: r, A, k, n) else none
  | _ => none
def xInc (j : Nat) (z : Int) (nx : Nat) : MS → Option MS := fun (_, ls, st, A, k, n) => match nth ls j with
  | some (some (.inl v)) => fI (Int.add v z) fun y => bif okI v && okI y then stK ls j (some (.inl y)) fun ls' => some (nx, ls', st, A, k, n) else none
  | _ => none
def xDup (nx : Nat) : MS → Option MS := fun (_, ls, st, A, k, n) => match st with | v :: r => some (nx, ls, v :: v :: r, A, k, n) | _ => none
def xDup2 (nx : Nat) : MS → Option MS := fun (_, ls, st, A, k, n) => match st with | v :: u :: r => some (nx, ls, v :: u :: v :: u :: r, A, k, n) | _ => none
def xDupX1 (nx : Nat) : MS → Option MS := fun (_, ls, st, A, k, n) => match st with | v :: u :: r => some (nx, ls, v :: u :: v :: r, A, k, n) | _ => none
def xDupX2 (nx : Nat) : MS → Option MS := fun (_, ls, st, A, k, n) => match st with | v :: u :: w :: r => some (nx, ls, v :: u :: w :: v :: r, A, k, n) | _ => none
def xPop (nx : Nat) : MS → Option MS := fun (_, ls, st, A, k, n) => match st with | _ :: r => some (nx, ls, r, A, k, n) | _ => none
def xGoto (t : Nat) : MS → Option MS := fun (_, ls, st, A, k, n) => some (t, ls, st, A, k, n)
def xIcmp (cd : ClassFile.Cond) (t nx : Nat) : MS → Option MS := fun (_, ls, st, A, k, n) => match st with
  | .inl v :: .inl u :: r => bif okI u && okI v then some (bif cmI cd u v then t else nx, ls, r, A, k, n) else none
  | _ => none
def xIf (cd : ClassFile.Cond) (t nx : Nat) : MS → Option MS := fun (_, ls, st, A, k, n) => match st with
  | .inl u :: r => bif okI u then some (bif cmI cd u (.ofNat 0) then t else nx, ls, r, A, k, n) else none
  | _ => none
def xGet (kk j nx : Nat) : MS → Option MS := fun (_, ls, st, A, k, n) => match st with
  | .inr (a + 1) :: r => match nth A a with
    | some (.inl (k', vs)) => bif Nat.beq kk k' then match nth vs j with | some v => some (nx, ls, v :: r, A, k, n) | none => none else none
    | _ => none
  | _ => none
def xPut (kk j nx : Nat) : MS → Option MS := fun (_, ls, st, A, k, n) => match st with
  | .inr v :: .inr (a + 1) :: r => match nth A a with
    | some (.inl (k', vs)) => bif Nat.beq kk k' then stK vs j (.inr v) fun vs' => stK A a (.inl (k', vs')) fun A' => some (nx, ls, r, A', k, n) else none
    | _ => none
  | _ => none
def xIaload (nx : Nat) : MS → Option MS := fun (_, ls, st, A, k, n) => match st with
  | .inl (.ofNat z) :: .inr (a + 1) :: r => match nth A a with
    | some (.inr vs) => bif Nat.ble z 1000 then match nth vs z with | some v => some (nx, ls, v :: r, A, k, n) | none => none else none
    | _ => none
  | _ => none
def xIastore (nx : Nat) : MS → Option MS := fun (_, ls, st, A, k, n) => match st with
  | .inl v :: .inl (.ofNat z) :: .inr (a + 1) :: r => match nth A a with
    | some (.inr vs) => bif Nat.ble z 1000 then match nth vs z with | some _ => stK vs z (.inl v) fun vs' => stK A a (.inr vs') fun A' => some (nx, ls, r, A', k, n) | none => none else none
    | _ => none
  | _ => none
def xLen (nx : Nat) : MS → Option MS := fun (_, ls, st, A, k, n) => match st with
  | .inr (a + 1) :: r => match nth A a with | some (.inr vs) => bif Nat.ble vs.length 1000 then fN vs.length fun m => some (nx, ls, .inl (.ofNat m) :: r, A, k, n) else none | _ => none
  | _ => none
def xNewA (nx : Nat) : MS → Option MS := fun (_, ls, st, A, k, n) => match st with
  | .inl (.ofNat z) :: r => bif Nat.ble z 1000 then fN (A.length + 1) fun m => nrm (List.replicate z (.inl (.ofNat 0))) fun vs => nrm (A ++ [.inr vs]) fun A' => fN (k + 1) fun k' => fN (n + z) fun n' => some (nx, ls, .inr m :: r, A', k', n') else none
  | _ => none
def xNew (kk sz : Nat) (dv : List MV) (nx : Nat) : MS → Option MS := fun (_, ls, st, A, k, n) => fN (A.length + 1) fun m => nrm (A ++ [.inl (kk, dv)]) fun A' => fN (k + 1) fun k' => fN (n + sz) fun n' => some (nx, ls, .inr m :: st, A', k', n')
def xCast (nx : Nat) : MS → Option MS := fun (_, ls, st, A, k, n) => match st with
  | .inr (a + 1) :: r => match nth A a with | some (.inr vs) => some (nx, ls, .inr (a + 1) :: r, A, k, n) | _ => none
  | _ => none
def xInit (nx : Nat) : MS → Option MS := fun (_, ls, st, A, k, n) => match st with
  | .inr (a + 1) :: r => bif Nat.ble r.length 8 then some (nx, ls, r, A, k, n) else none
  | _ => none
def xClone (nx : Nat) : MS → Option MS := fun (_, ls, st, A, k, n) => match st with
  | .inr (a + 1) :: r => match nth A a with | some (.inr vs) => bif Nat.ble r.length 8 && Nat.ble vs.length 1000 then fN (A.length + 1) fun m => nrm (A ++ [.inr vs]) fun A' => fN (k + 1) fun k' => fN (n + vs.length) fun n' => some (nx, ls, .inr m :: r, A', k', n') else none | _ => none
  | _ => none
def xCopy (nx : Nat) : MS → Option MS := fun (_, ls, st, A, k, n) => match st with
  | .inl (.ofNat c) :: .inl (.ofNat d) :: .inr (b + 1) :: .inl (.ofNat s) :: .inr (a + 1) :: r => match nth A a, nth A b with
    | some (.inr vs), some (.inr vd) => bif Nat.ble r.length 8 && Nat.ble vs.length 1000 && Nat.ble vd.length 1000 && Nat.ble (s + c) vs.length && Nat.ble (d + c) vd.length then nrm (vd.take d ++ (List.range c).map (fun i => vs.getD (s + i) nul) ++ vd.drop (d + c)) fun vs' => stK A b (.inr vs') fun A' => some (nx, ls, r, A', k, n) else none
    | _, _ => none
  | _ => none
def xSeq (m : Nat) (f g : MS → Option MS) : MS → Option MS := fun s => match f s with
  | some s' => bif Nat.beq s'.1 m then g s' else none
  | none => none
/-- the arguments of a call: the top np values, the last argument on top -/
def tkR {ρ : Type} : Nat → List MV → List (Option MV) → (List (Option MV) → List MV → ρ) → ρ → ρ
  | 0, st, acc, c, _ => c acc st
  | _ + 1, [], _, _, e => e
  | n + 1, v :: st, acc, c, e => tkR n st (some v :: acc) c e
def tk1 {ρ : Type} (r : Nat → List MV → List (Option MV) → (List (Option MV) → List MV → ρ) → ρ → ρ) (n : Nat) (st : List MV) (acc : List (Option MV)) (c : List (Option MV) → List MV → ρ) (e : ρ) : ρ := match n with
  | 0 => c acc st
  | n + 1 => match st with
    | [] => e
    | v :: st => r n st (some v :: acc) c e
def tk {ρ : Type} (n : Nat) (st : List MV) (acc : List (Option MV)) (c : List (Option MV) → List MV → ρ) (e : ρ) : ρ := tk1 (tk1 (tk1 (tk1 (tk1 (tk1 tkR))))) n st acc c e
def tkS (ρ : Type) (n : Nat) (st : List MV) (acc : List (Option MV)) (c : List (Option MV) → List MV → ρ) (e : ρ) : ρ := bif Nat.ble n st.length then c ((st.take n).reverse.map some ++ acc) (st.drop n) else e
theorem tkR_eq {ρ : Type} : ∀ (n : Nat) (st : List MV) (acc : List (Option MV)) (c : List (Option MV) → List MV → ρ) (e : ρ), tkR n st acc c e = tkS ρ n st acc c e
  | 0, st, acc, c, e => by simp [tkR, tkS, show Nat.ble 0 st.length = true from Nat.ble_eq.mpr (Nat.zero_le _)]
  | n + 1, [], acc, c, e => by simp [tkR, tkS, show Nat.ble (n + 1) 0 = false from rfl]
  | n + 1, v :: st, acc, c, e => by
    rw [tkR, tkR_eq n st]
    simp [tkS, show Nat.ble (n + 1) (st.length + 1) = Nat.ble n st.length from rfl]
theorem tk1_eq {ρ : Type} {r : Nat → List MV → List (Option MV) → (List (Option MV) → List MV → ρ) → ρ → ρ} (h : ∀ n st acc c e, r n st acc c e = tkS ρ n st acc c e) (n : Nat) (st : List MV) (acc : List (Option MV)) (c : List (Option MV) → List MV → ρ) (e : ρ) : tk1 r n st acc c e = tkS ρ n st acc c e := by
  cases n with
  | zero => simp [tk1, tkS, show Nat.ble 0 st.length = true from Nat.ble_eq.mpr (Nat.zero_le _)]
  | succ n => cases st with
    | nil => simp [tk1, tkS, show Nat.ble (n + 1) 0 = false from rfl]
    | cons v st =>
      simp only [tk1]
      rw [h]
      simp [tkS, show Nat.ble (n + 1) (st.length + 1) = Nat.ble n st.length from rfl]
theorem tk_eq {ρ : Type} (n : Nat) (st : List MV) (acc : List (Option MV)) (c : List (Option MV) → List MV → ρ) (e : ρ) : tk n st acc c e = tkS ρ n st acc c e := tk1_eq (tk1_eq (tk1_eq (tk1_eq (tk1_eq (tk1_eq tkR_eq))))) n st acc c e
section Up
variable (n0 : Nat) (τ : Int → Int32)
def upI (z : Int) : Int32 := bif okI z then Int32.ofInt z else τ z
def upV : MV → Value
  | .inl z => .int (upI τ z)
  | .inr 0 => .null
  | .inr (i + 1) => .ref (n0 + i)
def upL : Option MV → Slot
  | none => .unset
  | some v => .val (upV n0 τ v)
def upO : MO → Ob
  | .inl (k, vs) => .inl (k, vs.map (upV n0 τ))
  | .inr vs => .inr (.int, vs.map (upV n0 τ))
def Gu (G : GoT) (s : MS) : Prop := G s.1 (s.2.1.map (upL n0 τ)).toArray (s.2.2.1.map (upV n0 τ)) (s.2.2.2.1.map (upO n0 τ)) s.2.2.2.2.1 s.2.2.2.2.2
end Up
theorem okI_b {z : Int} (h : okI z = true) : -2147483648 ≤ z ∧ z < 2147483648 := by
  cases z with
  | ofNat m => have := Nat.le_of_ble_eq_true h; simp only [Int.ofNat_eq_natCast]; omega
  | negSucc m => have := Nat.le_of_ble_eq_true h; omega
theorem upI_ok {τ : Int → Int32} {z : Int} (h : okI z = true) : upI τ z = Int32.ofInt z := by simp [upI, h]
theorem upI_int {τ : Int → Int32} {z : Int} (h : okI z = true) : (upI τ z).toInt = z := by
  rw [upI_ok h]
  have q := okI_b h
  exact Int32.toInt_ofInt_of_le (by omega) (by omega)
theorem okN {m : Nat} (h : m ≤ 1000) : okI (.ofNat m) = true := by
  show Nat.ble m 2147483647 = true
  exact Nat.ble_eq.mpr (by omega)
theorem upV_cat {n0 : Nat} {τ : Int → Int32} (v : MV) : (upV n0 τ v).category = 1 := by
  rcases v with z | (_ | i) <;> rfl
theorem upV_ref {n0 : Nat} {τ : Int → Int32} (v : Nat) : (upV n0 τ (.inr v)).isRef = true := by cases v <;> rfl
theorem upSt {n0 : Nat} {τ : Int → Int32} {ls : List (Option MV)} {j : Nat} {v : MV} (h : j < ls.length) : storeLocals (ls.map (upL n0 τ)).toArray j (upV n0 τ v) = some ((ls.set j (some v)).map (upL n0 τ)).toArray := by
  have hg : (ls.map (upL n0 τ)).toArray[j]? = some (upL n0 τ ls[j]) := by simp [h]
  rw [XS.store1 hg ?_ (upV_cat v)]
  · simp [List.map_set, upL]
  · cases ls[j] with
    | none => exact Or.inl rfl
    | some w => exact Or.inr ⟨_, rfl, upV_cat w⟩
theorem ltI_iff (u v : Int) : ltI u v = true ↔ u < v := by
  cases u <;> cases v <;> simp only [ltI, Nat.ble_eq, Int.ofNat_eq_natCast, Bool.false_eq_true, true_iff, false_iff] <;> omega
theorem eqI_iff (u v : Int) : eqI u v = true ↔ u = v := by
  cases u <;> cases v <;> simp only [eqI, Nat.beq_eq, Int.ofNat_eq_natCast, Bool.false_eq_true, true_iff, false_iff] <;> omega
theorem ltI_no {u v : Int} (h : ltI u v = false) : v ≤ u := by
  have q : ¬ u < v := fun q => by rw [(ltI_iff _ _).mpr q] at h; cases h
  omega
theorem eqI_no {u v : Int} (h : eqI u v = false) : ¬ u = v := fun q => by rw [(eqI_iff _ _).mpr q] at h; cases h
theorem cm_t {τ : Int → Int32} {cd : ClassFile.Cond} {u v : Int} (hu : okI u = true) (hv : okI v = true) (h : cmI cd u v = true) : CP cd (upI τ u) (upI τ v) := by
  have a := upI_int (τ := τ) hu
  have b := upI_int (τ := τ) hv
  cases cd <;> simp only [cmI, CP] at h ⊢
  · exact (i_eq a b).mpr ((eqI_iff _ _).mp h)
  · exact (i_ne a b).mpr (eqI_no (by simpa using h))
  · exact (i_lt a b).mpr ((ltI_iff _ _).mp h)
  · exact (i_ge a b).mpr (ltI_no (by simpa using h))
  · exact (i_lt b a).mpr ((ltI_iff _ _).mp h)
  · exact (i_ge b a).mpr (ltI_no (by simpa using h))
theorem cm_f {τ : Int → Int32} {cd : ClassFile.Cond} {u v : Int} (hu : okI u = true) (hv : okI v = true) (h : cmI cd u v = false) : CP (ng cd) (upI τ u) (upI τ v) := by
  have a := upI_int (τ := τ) hu
  have b := upI_int (τ := τ) hv
  cases cd <;> simp only [cmI, CP, ng] at h ⊢
  · exact (i_ne a b).mpr (eqI_no h)
  · exact (i_eq a b).mpr ((eqI_iff _ _).mp (by simpa using h))
  · exact (i_ge a b).mpr (ltI_no h)
  · exact (i_lt a b).mpr ((ltI_iff _ _).mp (by simpa using h))
  · exact (i_ge b a).mpr (ltI_no h)
  · exact (i_lt b a).mpr ((ltI_iff _ _).mp (by simpa using h))
theorem up0 {τ : Int → Int32} : upI τ (.ofNat 0) = 0 := rfl
theorem up0' {τ : Int → Int32} : upI τ 0 = 0 := rfl
theorem upA {n0 : Nat} {τ : Int → Int32} {A : List MO} {a : Nat} {o : MO} (h : A[a]? = some o) : (A.map (upO n0 τ))[a]? = some (upO n0 τ o) := by simp [h]
theorem upN {τ : Int → Int32} {z N : Nat} (h : z < N) (hN : N ≤ 1000) : (upI τ (.ofNat z)).toInt = (z : Int) := upI_int (okN (by omega))
/-- one plain step is sound -/
def Ok1 (l : Launch) (Z : State) (a0 : Array Value) (K : KTab) (n0 : Nat) (τ : Int → Int32) (y : MethodName) (bytes : ByteArray) (maxL : Nat) (ret : Option FieldType) (fr lo : Nat) (pc : Nat) (x : MS → Option MS) : Prop :=
  ∀ (b0 : Nat) (s s' : MS), s.1 = pc → x s = some s' → s.2.1.length = maxL → s.2.2.2.1.length = b0 + s.2.2.2.2.1 →
    (s'.2.1.length = maxL ∧ s'.2.2.2.1.length = b0 + s'.2.2.2.2.1 ∧ s.2.2.2.2.1 ≤ s'.2.2.2.2.1 ∧ s.2.2.2.2.2 ≤ s'.2.2.2.2.2) ∧
    ∀ (R : Room) (Q : Option Value → List Ob → Prop) (G : GoT), R.frames = fr → R.locals = lo → s'.2.2.2.2.1 ≤ R.cells → s'.2.2.2.2.2 ≤ R.slots → IsGo l Z a0 K n0 b0 y bytes maxL ret R Q G → Gu n0 τ G s' → Gu n0 τ G s
section Steps
variable {l : Launch} {Z : State} {a0 : Array Value} {K : KTab} {n0 : Nat} {τ : Int → Int32} {y : MethodName} {bytes : ByteArray} {maxL : Nat} {ret : Option FieldType} {fr lo pc nx : Nat}
theorem ok_iload {j : Nat} (hd : Nx bytes pc (.iload j) 2 nx ∨ ∃ i : Fin 4, i.1 = j ∧ Nx bytes pc (.iload_n i) 1 nx) : Ok1 l Z a0 K n0 τ y bytes maxL ret fr lo pc (xIload j nx) := by
  rintro b0 ⟨pc', ls, st, A, k, n⟩ s' rfl h hl hA
  simp only [xIload, nth_eq, nrm_eq, stK_eq, fN_eq, fI_eq] at h
  split at h
  · next v hv =>
    cases h
    refine ⟨⟨hl, hA, Nat.le_refl _, Nat.le_refl _⟩, fun R Q G _ _ _ _ H g => ?_⟩
    have e : (ls.map (upL n0 τ)).toArray[j]? = some (.val (.int (upI τ v))) := by simp [hv, upL, upV]
    rcases hd with hd | ⟨i, rfl, hd⟩
    · exact H.iload hd e g
    · exact H.iloadN hd e g
  · cases h
theorem ok_aload {j : Nat} (hd : Nx bytes pc (.aload j) 2 nx ∨ ∃ i : Fin 4, i.1 = j ∧ Nx bytes pc (.aload_n i) 1 nx) : Ok1 l Z a0 K n0 τ y bytes maxL ret fr lo pc (xAload j nx) := by
  rintro b0 ⟨pc', ls, st, A, k, n⟩ s' rfl h hl hA
  simp only [xAload, nth_eq, nrm_eq, stK_eq, fN_eq, fI_eq] at h
  split at h
  · next v hv =>
    cases h
    refine ⟨⟨hl, hA, Nat.le_refl _, Nat.le_refl _⟩, fun R Q G _ _ _ _ H g => ?_⟩
    have e : (ls.map (upL n0 τ)).toArray[j]? = some (.val (upV n0 τ (.inr v))) := by simp [hv, upL]
    rcases hd with hd | ⟨i, rfl, hd⟩
    · exact H.aload hd e (upV_ref v) g
    · exact H.aloadN hd e (upV_ref v) g
  · cases h
theorem ok_istore {j : Nat} (hj : j < maxL) (hd : Nx bytes pc (.istore j) 2 nx ∨ ∃ i : Fin 4, i.1 = j ∧ Nx bytes pc (.istore_n i) 1 nx) : Ok1 l Z a0 K n0 τ y bytes maxL ret fr lo pc (xIstore j nx) := by
  rintro b0 ⟨pc', ls, st, A, k, n⟩ s' rfl h hl hA
  simp only [xIstore, nth_eq, nrm_eq, stK_eq, fN_eq, fI_eq] at h
  split at h
  · next v r =>
    · cases h
      have hlt : j < ls.length := by simp only at hl; omega
      refine ⟨⟨by simpa using hl, hA, Nat.le_refl _, Nat.le_refl _⟩, fun R Q G _ _ _ _ H g => ?_⟩
      rcases hd with hd | ⟨i, rfl, hd⟩
      · exact H.istore hd (upSt (v := .inl v) hlt) g
      · exact H.istoreN hd (upSt (v := .inl v) hlt) g
  · cases h
theorem ok_astore {j : Nat} (hj : j < maxL) (hd : Nx bytes pc (.astore j) 2 nx ∨ ∃ i : Fin 4, i.1 = j ∧ Nx bytes pc (.astore_n i) 1 nx) : Ok1 l Z a0 K n0 τ y bytes maxL ret fr lo pc (xAstore j nx) := by
  rintro b0 ⟨pc', ls, st, A, k, n⟩ s' rfl h hl hA
  simp only [xAstore, nth_eq, nrm_eq, stK_eq, fN_eq, fI_eq] at h
  split at h
  · next v r =>
    · cases h
      have hlt : j < ls.length := by simp only at hl; omega
      refine ⟨⟨by simpa using hl, hA, Nat.le_refl _, Nat.le_refl _⟩, fun R Q G _ _ _ _ H g => ?_⟩
      rcases hd with hd | ⟨i, rfl, hd⟩
      · exact H.astore hd (upV_ref v) (upSt (v := .inr v) hlt) g
      · exact H.astoreN hd (upV_ref v) (upSt (v := .inr v) hlt) g
  · cases h
theorem ok_push {z : Int} (hz : okI z = true) (hd : Nx bytes pc (.iconst z) 1 nx ∨ (Nx bytes pc (.bipush z) 2 nx ∧ (Int8.ofInt z).toInt32 = Int32.ofInt z) ∨ (Nx bytes pc (.sipush z) 3 nx ∧ (Int16.ofInt z).toInt32 = Int32.ofInt z)) : Ok1 l Z a0 K n0 τ y bytes maxL ret fr lo pc (xPush z nx) := by
  rintro b0 ⟨pc', ls, st, A, k, n⟩ s' rfl h hl hA
  simp only [xPush, fI_eq] at h
  cases h
  refine ⟨⟨hl, hA, Nat.le_refl _, Nat.le_refl _⟩, fun R Q G _ _ _ _ H g => ?_⟩
  have e : upI τ z = Int32.ofInt z := upI_ok hz
  rcases hd with hd | ⟨hd, q⟩ | ⟨hd, q⟩
  · exact H.iconst hd e.symm g
  · exact H.bipush hd (q.trans e.symm) g
  · exact H.sipush hd (q.trans e.symm) g
theorem ok_add (hd : Nx bytes pc .iadd 1 nx) : Ok1 l Z a0 K n0 τ y bytes maxL ret fr lo pc (xBin Int.add nx) := by
  rintro b0 ⟨pc', ls, st, A, k, n⟩ s' rfl h hl hA
  simp only [xBin, nth_eq, nrm_eq, stK_eq, fN_eq, fI_eq] at h
  split at h
  · next v u r =>
    cases hj : (okI u && okI v && okI (Int.add u v)) <;> simp only [hj, cond_true, cond_false] at h
    · cases h
    · cases h
      simp only [Bool.and_eq_true] at hj
      refine ⟨⟨hl, hA, Nat.le_refl _, Nat.le_refl _⟩, fun R Q G _ _ _ _ H g => ?_⟩
      refine H.iadd hd ?_ g
      rw [upI_ok hj.1.1, upI_ok hj.1.2, upI_ok hj.2]
      exact (Int32.ofInt_add u v).symm
  · cases h
theorem ok_sub (hd : Nx bytes pc .isub 1 nx) : Ok1 l Z a0 K n0 τ y bytes maxL ret fr lo pc (xBin Int.sub nx) := by
  rintro b0 ⟨pc', ls, st, A, k, n⟩ s' rfl h hl hA
  simp only [xBin, nth_eq, nrm_eq, stK_eq, fN_eq, fI_eq] at h
  split at h
  · next v u r =>
    cases hj : (okI u && okI v && okI (Int.sub u v)) <;> simp only [hj, cond_true, cond_false] at h
    · cases h
    · cases h
      simp only [Bool.and_eq_true] at hj
      refine ⟨⟨hl, hA, Nat.le_refl _, Nat.le_refl _⟩, fun R Q G _ _ _ _ H g => ?_⟩
      refine H.isub hd ?_ g
      rw [upI_ok hj.1.1, upI_ok hj.1.2, upI_ok hj.2]
      exact (Int32.ofInt_sub u v).symm
  · cases h
theorem ok_mul (hd : Nx bytes pc .imul 1 nx) : Ok1 l Z a0 K n0 τ y bytes maxL ret fr lo pc (xBin Int.mul nx) := by
  rintro b0 ⟨pc', ls, st, A, k, n⟩ s' rfl h hl hA
  simp only [xBin, nth_eq, nrm_eq, stK_eq, fN_eq, fI_eq] at h
  split at h
  · next v u r =>
    cases hj : (okI u && okI v && okI (Int.mul u v)) <;> simp only [hj, cond_true, cond_false] at h
    · cases h
    · cases h
      simp only [Bool.and_eq_true] at hj
      refine ⟨⟨hl, hA, Nat.le_refl _, Nat.le_refl _⟩, fun R Q G _ _ _ _ H g => ?_⟩
      refine H.imul hd ?_ g
      rw [upI_ok hj.1.1, upI_ok hj.1.2, upI_ok hj.2]
      exact (Int32.ofInt_mul u v).symm
  · cases h
theorem ok_rem (hd : Nx bytes pc .irem 1 nx) : Ok1 l Z a0 K n0 τ y bytes maxL ret fr lo pc (xRem nx) := by
  rintro b0 ⟨pc', ls, st, A, k, n⟩ s' rfl h hl hA
  simp only [xRem, nth_eq, nrm_eq, stK_eq, fN_eq, fI_eq] at h
  split at h
  · next v u r =>
    cases hj : (okI (.ofNat u) && okI (.ofNat v) && Nat.ble 1 v) <;> simp only [hj, cond_true, cond_false] at h
    · cases h
    · cases h
      simp only [Bool.and_eq_true] at hj
      have a := upI_int (τ := τ) hj.1.1
      have b := upI_int (τ := τ) hj.1.2
      have hv : 1 ≤ v := Nat.le_of_ble_eq_true hj.2
      have ob := okI_b hj.1.2
      have oc : okI (.ofNat (Nat.mod u v)) = true := by
        have q : u % v < v := Nat.mod_lt u hv
        simp only [Int.ofNat_eq_natCast] at ob
        exact Nat.ble_eq.mpr (by show u % v ≤ _; omega)
      refine ⟨⟨hl, hA, Nat.le_refl _, Nat.le_refl _⟩, fun R Q G _ _ _ _ H g => ?_⟩
      refine H.irem hd ?_ ?_ g
      · intro e
        rw [e] at b
        simp only [Int.ofNat_eq_natCast] at b
        have z : (0 : Int32).toInt = 0 := by decide
        omega
      · apply Int32.toInt_inj.mp
        rw [x_irem a b (by simp only [Int.ofNat_eq_natCast]; omega), upI_int oc]
        rfl
  · cases h
theorem ok_inc {j : Nat} {z : Int} (hd : Nx bytes pc (.iinc j z) 3 nx) : Ok1 l Z a0 K n0 τ y bytes maxL ret fr lo pc (xInc j z nx) := by
  rintro b0 ⟨pc', ls, st, A, k, n⟩ s' rfl h hl hA
  simp only [xInc, nth_eq, nrm_eq, stK_eq, fN_eq, fI_eq] at h
  split at h
  · next v hv =>
    cases hj : (okI v && okI (Int.add v z)) <;> simp only [hj, cond_true, cond_false] at h
    · cases h
    · cases h
      simp only [Bool.and_eq_true] at hj
      have hlt : j < ls.length := (List.getElem?_eq_some_iff.mp hv).1
      refine ⟨⟨by simpa using hl, hA, Nat.le_refl _, Nat.le_refl _⟩, fun R Q G _ _ _ _ H g => ?_⟩
      have e : (ls.map (upL n0 τ)).toArray[j]? = some (.val (.int (upI τ v))) := by simp [hv, upL, upV]
      refine H.iinc hd e ?_ (upSt (v := .inl (Int.add v z)) hlt) g
      rw [upI_ok hj.1, upI_ok hj.2]
      exact (Int32.ofInt_add v z).symm
  · cases h
theorem ok_dup (hd : Nx bytes pc .dup 1 nx) : Ok1 l Z a0 K n0 τ y bytes maxL ret fr lo pc (xDup nx) := by
  rintro b0 ⟨pc', ls, st, A, k, n⟩ s' rfl h hl hA
  simp only [xDup, nth_eq, nrm_eq, stK_eq, fN_eq, fI_eq] at h
  split at h <;> cases h
  exact ⟨⟨hl, hA, Nat.le_refl _, Nat.le_refl _⟩, fun R Q G _ _ _ _ H g => H.dup hd (upV_cat _) g⟩
theorem ok_dup2 (hd : Nx bytes pc .dup2 1 nx) : Ok1 l Z a0 K n0 τ y bytes maxL ret fr lo pc (xDup2 nx) := by
  rintro b0 ⟨pc', ls, st, A, k, n⟩ s' rfl h hl hA
  simp only [xDup2, nth_eq, nrm_eq, stK_eq, fN_eq, fI_eq] at h
  split at h <;> cases h
  exact ⟨⟨hl, hA, Nat.le_refl _, Nat.le_refl _⟩, fun R Q G _ _ _ _ H g => H.dup2 hd (upV_cat _) (upV_cat _) g⟩
theorem ok_dupX1 (hd : Nx bytes pc .dup_x1 1 nx) : Ok1 l Z a0 K n0 τ y bytes maxL ret fr lo pc (xDupX1 nx) := by
  rintro b0 ⟨pc', ls, st, A, k, n⟩ s' rfl h hl hA
  simp only [xDupX1, nth_eq, nrm_eq, stK_eq, fN_eq, fI_eq] at h
  split at h <;> cases h
  exact ⟨⟨hl, hA, Nat.le_refl _, Nat.le_refl _⟩, fun R Q G _ _ _ _ H g => H.dupX1 hd (upV_cat _) (upV_cat _) g⟩
theorem ok_dupX2 (hd : Nx bytes pc .dup_x2 1 nx) : Ok1 l Z a0 K n0 τ y bytes maxL ret fr lo pc (xDupX2 nx) := by
  rintro b0 ⟨pc', ls, st, A, k, n⟩ s' rfl h hl hA
  simp only [xDupX2, nth_eq, nrm_eq, stK_eq, fN_eq, fI_eq] at h
  split at h <;> cases h
  exact ⟨⟨hl, hA, Nat.le_refl _, Nat.le_refl _⟩, fun R Q G _ _ _ _ H g => H.dupX2 hd (upV_cat _) (upV_cat _) (upV_cat _) g⟩
theorem ok_pop (hd : Nx bytes pc .pop 1 nx) : Ok1 l Z a0 K n0 τ y bytes maxL ret fr lo pc (xPop nx) := by
  rintro b0 ⟨pc', ls, st, A, k, n⟩ s' rfl h hl hA
  simp only [xPop, nth_eq, nrm_eq, stK_eq, fN_eq, fI_eq] at h
  split at h <;> cases h
  exact ⟨⟨hl, hA, Nat.le_refl _, Nat.le_refl _⟩, fun R Q G _ _ _ _ H g => H.pop hd (upV_cat _) g⟩
theorem ok_goto {t f : Nat} (hd : Bx bytes pc .goto t f) : Ok1 l Z a0 K n0 τ y bytes maxL ret fr lo pc (xGoto t) := by
  rintro b0 ⟨pc', ls, st, A, k, n⟩ s' rfl h hl hA
  cases h
  exact ⟨⟨hl, hA, Nat.le_refl _, Nat.le_refl _⟩, fun R Q G _ _ _ _ H g => H.goto hd g⟩
theorem ok_icmp {cd : ClassFile.Cond} {t : Nat} (hd : Bx bytes pc (.if_icmp cd) t nx) : Ok1 l Z a0 K n0 τ y bytes maxL ret fr lo pc (xIcmp cd t nx) := by
  rintro b0 ⟨pc', ls, st, A, k, n⟩ s' rfl h hl hA
  simp only [xIcmp, nth_eq, nrm_eq, stK_eq, fN_eq, fI_eq] at h
  split at h
  · next v u r =>
    cases hj : (okI u && okI v) <;> simp only [hj, cond_true, cond_false] at h
    · cases h
    · cases h
      simp only [Bool.and_eq_true] at hj
      refine ⟨⟨hl, hA, Nat.le_refl _, Nat.le_refl _⟩, fun R Q G _ _ _ _ H g => ?_⟩
      cases hc : cmI cd u v <;> simp only [hc, cond_true, cond_false] at g
      · exact H.icmpF hd (cm_f hj.1 hj.2 hc) g
      · exact H.icmpT hd (cm_t hj.1 hj.2 hc) g
  · cases h
theorem ok_if {cd : ClassFile.Cond} {t : Nat} (hd : Bx bytes pc (.ifCond cd) t nx) : Ok1 l Z a0 K n0 τ y bytes maxL ret fr lo pc (xIf cd t nx) := by
  rintro b0 ⟨pc', ls, st, A, k, n⟩ s' rfl h hl hA
  simp only [xIf, nth_eq, nrm_eq, stK_eq, fN_eq, fI_eq] at h
  split at h
  · next u r =>
    cases hj : okI u <;> simp only [hj, cond_true, cond_false] at h
    · cases h
    · cases h
      refine ⟨⟨hl, hA, Nat.le_refl _, Nat.le_refl _⟩, fun R Q G _ _ _ _ H g => ?_⟩
      cases hc : cmI cd u (.ofNat 0) <;> simp only [hc, cond_true, cond_false] at g
      · exact H.ifF hd (up0 (τ := τ) ▸ cm_f hj rfl hc) g
      · exact H.ifT hd (up0 (τ := τ) ▸ cm_t hj rfl hc) g
  · cases h
theorem ok_get {idx kk j : Nat} (hd : Nx bytes pc (.getfield idx) 3 nx) (L : FL Z a0 K y.cls idx kk j) : Ok1 l Z a0 K n0 τ y bytes maxL ret fr lo pc (xGet kk j nx) := by
  rintro b0 ⟨pc', ls, st, A, k, n⟩ s' rfl h hl hA
  simp only [xGet, nth_eq, nrm_eq, stK_eq, fN_eq, fI_eq] at h
  split at h
  · next a r =>
    split at h
    · next k' vs ha =>
      cases hj : Nat.beq kk k' <;> simp only [hj, cond_true, cond_false] at h
      · cases h
      · have e := Nat.eq_of_beq_eq_true hj
        subst e
        split at h
        · next v hv =>
          cases h
          refine ⟨⟨hl, hA, Nat.le_refl _, Nat.le_refl _⟩, fun R Q G _ _ _ _ H g => ?_⟩
          exact H.getfield hd L (i := a) (upA ha) (vs := vs.map (upV n0 τ)) (v := upV n0 τ v) (by simp [hv]) g
        · cases h
    · cases h
  · cases h
theorem ok_put {idx kk j : Nat} {ty : FieldType} (hd : Nx bytes pc (.putfield idx) 3 nx) (L : PL Z a0 K y.cls y.name idx kk j ty) (hn : ∀ v, narrow ty (upV n0 τ (.inr v)) = upV n0 τ (.inr v)) (hf : ∀ v, fits ty (upV n0 τ (.inr v)) = true) : Ok1 l Z a0 K n0 τ y bytes maxL ret fr lo pc (xPut kk j nx) := by
  rintro b0 ⟨pc', ls, st, A, k, n⟩ s' rfl h hl hA
  simp only [xPut, nth_eq, nrm_eq, stK_eq, fN_eq, fI_eq] at h
  split at h
  · next v a r =>
    split at h
    · next k' vs ha =>
      cases hj : Nat.beq kk k' <;> simp only [hj, cond_true, cond_false] at h
      · cases h
      · have e := Nat.eq_of_beq_eq_true hj
        subst e
        cases h
        refine ⟨⟨hl, by simpa using hA, Nat.le_refl _, Nat.le_refl _⟩, fun R Q G _ _ _ _ H g => ?_⟩
        refine H.putfield hd L (i := a) (upA ha) (hn v) (hf v) ?_ g
        simp [List.map_set, upO]
    · cases h
  · cases h
theorem ok_iaload (hd : Nx bytes pc .iaload 1 nx) : Ok1 l Z a0 K n0 τ y bytes maxL ret fr lo pc (xIaload nx) := by
  rintro b0 ⟨pc', ls, st, A, k, n⟩ s' rfl h hl hA
  simp only [xIaload, nth_eq, nrm_eq, stK_eq, fN_eq, fI_eq] at h
  split at h
  · next z a r =>
    split at h
    · next vs ha =>
      cases hj : Nat.ble z 1000 <;> simp only [hj, cond_true, cond_false] at h
      · cases h
      · split at h
        · next v hv =>
          cases h
          refine ⟨⟨hl, hA, Nat.le_refl _, Nat.le_refl _⟩, fun R Q G _ _ _ _ H g => ?_⟩
          exact H.iaload hd (i := a) (j := z) (vs := vs.map (upV n0 τ)) (upA ha) (upI_int (okN (Nat.le_of_ble_eq_true hj))) (v := upV n0 τ v) (by simp [hv]) g
        · cases h
    · cases h
  · cases h
theorem ok_iastore (hd : Nx bytes pc .iastore 1 nx) : Ok1 l Z a0 K n0 τ y bytes maxL ret fr lo pc (xIastore nx) := by
  rintro b0 ⟨pc', ls, st, A, k, n⟩ s' rfl h hl hA
  simp only [xIastore, nth_eq, nrm_eq, stK_eq, fN_eq, fI_eq] at h
  split at h
  · next v z a r =>
    split at h
    · next vs ha =>
      cases hj : Nat.ble z 1000 <;> simp only [hj, cond_true, cond_false] at h
      · cases h
      · split at h
        · next v0 hv =>
          cases h
          have hz := (List.getElem?_eq_some_iff.mp hv).1
          refine ⟨⟨hl, by simpa using hA, Nat.le_refl _, Nat.le_refl _⟩, fun R Q G _ _ _ _ H g => ?_⟩
          refine H.iastore hd (i := a) (j := z) (vs := vs.map (upV n0 τ)) (upA ha) (upI_int (okN (Nat.le_of_ble_eq_true hj))) (by simpa using hz) ?_ g
          simp [List.map_set, upO, upV]
        · cases h
    · cases h
  · cases h
theorem ok_len (hd : Nx bytes pc .arraylength 1 nx) : Ok1 l Z a0 K n0 τ y bytes maxL ret fr lo pc (xLen nx) := by
  rintro b0 ⟨pc', ls, st, A, k, n⟩ s' rfl h hl hA
  simp only [xLen, nth_eq, nrm_eq, stK_eq, fN_eq, fI_eq] at h
  split at h
  · next a r =>
    split at h
    · next vs ha =>
      cases hj : Nat.ble vs.length 1000 <;> simp only [hj, cond_true, cond_false] at h
      · cases h
      · cases h
        have hn := Nat.le_of_ble_eq_true hj
        refine ⟨⟨hl, hA, Nat.le_refl _, Nat.le_refl _⟩, fun R Q G _ _ _ _ H g => ?_⟩
        refine H.arraylength hd (i := a) (vs := vs.map (upV n0 τ)) (upA ha) ?_ g
        apply Int32.toInt_inj.mp
        rw [upI_int (okN hn), List.length_map, len_toInt (by omega)]
        rfl
    · cases h
  · cases h
theorem ok_newA (hd : Nx bytes pc (.newarray .int) 2 nx) (w : AL Z a0 .int) : Ok1 l Z a0 K n0 τ y bytes maxL ret fr lo pc (xNewA nx) := by
  rintro b0 ⟨pc', ls, st, A, k, n⟩ s' rfl h hl hA
  simp only [xNewA, nth_eq, nrm_eq, stK_eq, fN_eq, fI_eq] at h
  split at h
  · next z r =>
    cases hj : Nat.ble z 1000 <;> simp only [hj, cond_true, cond_false] at h
    · cases h
    · cases h
      have hn := Nat.le_of_ble_eq_true hj
      refine ⟨⟨hl, by simp only [List.length_append, List.length_singleton]; simp only at hA; omega, Nat.le_add_right _ _, Nat.le_add_right _ _⟩, fun R Q G _ _ h1 h2 H g => ?_⟩
      refine H.newarray hd (ty := .int) rfl w (N := z) (cap := z) (upI_int (okN hn)) rfl (Nat.le_refl _) (by omega) (by simpa using hA) h1 h2 (i := A.length) (by simp) ?_ rfl rfl g
      simp [upO, upV, up0', defaultValue]
  · cases h
theorem ok_new {idx kk sz : Nat} {dv : List MV} (hd : Nx bytes pc (.new idx) 3 nx) (L : NL Z a0 K y.cls idx kk sz (dv.map (upV n0 τ))) : Ok1 l Z a0 K n0 τ y bytes maxL ret fr lo pc (xNew kk sz dv nx) := by
  rintro b0 ⟨pc', ls, st, A, k, n⟩ s' rfl h hl hA
  simp only [xNew, nrm_eq, fN_eq] at h
  cases h
  refine ⟨⟨hl, by simp only [List.length_append, List.length_singleton]; simp only at hA; omega, Nat.le_add_right _ _, Nat.le_add_right _ _⟩, fun R Q G _ _ h1 h2 H g => ?_⟩
  refine H.new hd L (by simpa using hA) h1 h2 (i := A.length) (by simp) ?_ rfl rfl g
  simp [upO]
theorem ok_cast {idx : Nat} (hd : Nx bytes pc (.checkcast idx) 3 nx) (w : (Jvm.Cond.classLink y.cls idx "[I").before a0 Z = true) : Ok1 l Z a0 K n0 τ y bytes maxL ret fr lo pc (xCast nx) := by
  rintro b0 ⟨pc', ls, st, A, k, n⟩ s' rfl h hl hA
  simp only [xCast, nth_eq, nrm_eq, stK_eq, fN_eq, fI_eq] at h
  split at h
  · next a r =>
    split at h
    · next vs ha =>
      cases h
      exact ⟨⟨hl, hA, Nat.le_refl _, Nat.le_refl _⟩, fun R Q G _ _ _ _ H g => H.castA hd w (i := a) (vs := vs.map (upV n0 τ)) (upA ha) (by decide) g⟩
    · cases h
  · cases h
theorem wt (r : List MV) : ((r.map (upV n0 τ)).map fun v => v.category).sum = r.length := by
  induction r with
  | nil => rfl
  | cons v r ih => simp only [List.map_cons, List.sum_cons, upV_cat, ih, List.length_cons]; omega
theorem ok_init {idx : Nat} (hd : Nx bytes pc (.invokespecial idx) 3 nx) (L : IL Z a0 y.cls idx) (hf : 1 ≤ fr) (hlo : 26 ≤ lo) : Ok1 l Z a0 K n0 τ y bytes maxL ret fr lo pc (xInit nx) := by
  rintro b0 ⟨pc', ls, st, A, k, n⟩ s' rfl h hl hA
  simp only [xInit, nth_eq, nrm_eq, stK_eq, fN_eq, fI_eq] at h
  split at h
  · next a r =>
    cases hj : Nat.ble r.length 8 <;> simp only [hj, cond_true, cond_false] at h
    · cases h
    · cases h
      have hn := Nat.le_of_ble_eq_true hj
      refine ⟨⟨hl, hA, Nat.le_refl _, Nat.le_refl _⟩, fun R Q G e1 e2 _ _ H g => ?_⟩
      exact H.initO hd L (a := n0 + a) (by simpa using hl) (by omega) (by rw [wt]; omega) g
  · cases h
theorem ok_clone {idx : Nat} (hd : Nx bytes pc (.invokevirtual idx) 3 nx) (L : KL Z a0 y.cls idx "[I") (hf : 1 ≤ fr) (hlo : 26 ≤ lo) : Ok1 l Z a0 K n0 τ y bytes maxL ret fr lo pc (xClone nx) := by
  rintro b0 ⟨pc', ls, st, A, k, n⟩ s' rfl h hl hA
  simp only [xClone, nth_eq, nrm_eq, stK_eq, fN_eq, fI_eq] at h
  split at h
  · next a r =>
    split at h
    · next vs ha =>
      cases hj : (Nat.ble r.length 8 && Nat.ble vs.length 1000) <;> simp only [hj, cond_true, cond_false] at h
      · cases h
      · cases h
        simp only [Bool.and_eq_true] at hj
        have h8 := Nat.le_of_ble_eq_true hj.1
        have hn := Nat.le_of_ble_eq_true hj.2
        refine ⟨⟨hl, by simp only [List.length_append, List.length_singleton]; simp only at hA; omega, Nat.le_add_right _ _, Nat.le_add_right _ _⟩, fun R Q G e1 e2 h1 h2 H g => ?_⟩
        refine H.clone hd L (i := a) (ii := A.length) (cap := vs.length) (vs := vs.map (upV n0 τ)) (upA ha) (by decide) (by simp; omega) (by simp) (by simpa using hl) (by omega) (by rw [wt]; omega) (by simpa using hA) h1 h2 (by simp) ?_ rfl rfl g
        simp [upO]
    · cases h
  · cases h
theorem ok_copy {idx : Nat} (hd : Nx bytes pc (.invokestatic idx) 3 nx) (L : XL Z a0 y.cls idx) (hf : 1 ≤ fr) (hlo : 26 ≤ lo) : Ok1 l Z a0 K n0 τ y bytes maxL ret fr lo pc (xCopy nx) := by
  rintro b0 ⟨pc', ls, st, A, k, n⟩ s' rfl h hl hA
  simp only [xCopy, nth_eq, nrm_eq, stK_eq, fN_eq, fI_eq] at h
  split at h
  · next c d b s a r =>
    split at h
    · next vs vd ha hb =>
      cases hj : (Nat.ble r.length 8 && Nat.ble vs.length 1000 && Nat.ble vd.length 1000 && Nat.ble (s + c) vs.length && Nat.ble (d + c) vd.length) <;> simp only [hj, cond_true, cond_false] at h
      · cases h
      · cases h
        simp only [Bool.and_eq_true] at hj
        have h8 := Nat.le_of_ble_eq_true hj.1.1.1.1
        have hv := Nat.le_of_ble_eq_true hj.1.1.1.2
        have hw := Nat.le_of_ble_eq_true hj.1.1.2
        have q1 := Nat.le_of_ble_eq_true hj.1.2
        have q2 := Nat.le_of_ble_eq_true hj.2
        refine ⟨⟨hl, by simpa using hA, Nat.le_refl _, Nat.le_refl _⟩, fun R Q G e1 e2 _ _ H g => ?_⟩
        refine H.arraycopy hd L (i := a) (j := b) (vs := vs.map (upV n0 τ)) (vd := vd.map (upV n0 τ)) (upA ha) (upA hb) rfl (p := s) (q := d) (r := c) (upI_int (okN (by omega))) (upI_int (okN (by omega))) (upI_int (okN (by omega))) (by simpa using q1) (by simpa using q2) (by simp; omega) (by simp; omega) (us := ((List.range c).map (fun i => vs.getD (s + i) nul)).map (upV n0 τ)) ?_ (by simpa using hl) (by omega) (by rw [wt]; show _ + (7 + 11) ≤ _; omega) (by simpa using hA) ?_ g
        · rw [List.map_map]
          apply List.map_congr_left
          intro i hi
          have hi' := List.mem_range.mp hi
          have : s + i < vs.length := by omega
          simp [List.getD, this]
        · simp [List.map_set, upO, List.map_take, List.map_drop]
    · cases h
  · cases h
theorem ok_seq {m : Nat} {f g : MS → Option MS} (hf : Ok1 l Z a0 K n0 τ y bytes maxL ret fr lo pc f) (hg : Ok1 l Z a0 K n0 τ y bytes maxL ret fr lo m g) : Ok1 l Z a0 K n0 τ y bytes maxL ret fr lo pc (xSeq m f g) := by
  intro b0 s s' hp h hl hA
  simp only [xSeq] at h
  split at h
  · next s1 h1 =>
    cases hj : Nat.beq s1.1 m <;> simp only [hj, cond_true, cond_false] at h
    · cases h
    · obtain ⟨⟨a1, a2, a3, a4⟩, a5⟩ := hf b0 s s1 hp h1 hl hA
      obtain ⟨⟨c1, c2, c3, c4⟩, c5⟩ := hg b0 s1 s' (Nat.eq_of_beq_eq_true hj) h a1 a2
      exact ⟨⟨c1, c2, Nat.le_trans a3 c3, Nat.le_trans a4 c4⟩, fun R Q G e1 e2 e3 e4 H w => a5 R Q G e1 e2 (Nat.le_trans c3 e3) (Nat.le_trans c4 e4) H (c5 R Q G e1 e2 e3 e4 H w)⟩
  · cases h
end Steps
def rcv (kd np : Nat) (st : List MV) (A : List MO) : Bool := match kd with
  | 0 => true
  | 1 => match st[np - 1]? with | some (.inr (_ + 1)) => true | _ => false
  | kk + 2 => match st[np - 1]? with
    | some (.inr (i + 1)) => match A[i]? with | some (.inl (k', _)) => Nat.beq k' kk | _ => false
    | _ => false
abbrev MR : Type := Option MV × List MO × Nat × Nat
def run (tab : Nat → Nat → Option ME) (ml fr lo : Nat → Nat) : Nat → Nat → MS → Option MR
  | 0, _, _ => none
  | f + 1, q, s => match tab q s.1 with
    | none => none
    | some (.inl x) => match x s with
      | some s' => run tab ml fr lo f q s'
      | none => none
    | some (.inr (.inr b)) => match b with
      | 0 => (match s.2.2.1 with | [] => some (none, s.2.2.2.1, s.2.2.2.2.1, s.2.2.2.2.2) | _ => none)
      | 1 => (match s.2.2.1 with | .inl v :: _ => some (some (.inl v), s.2.2.2.1, s.2.2.2.2.1, s.2.2.2.2.2) | _ => none)
      | _ + 2 => (match s.2.2.1 with | .inl (.ofNat v) :: _ => bif Nat.ble v 1 then some (some (.inl (.ofNat v)), s.2.2.2.1, s.2.2.2.2.1, s.2.2.2.2.2) else none | _ => none)
    | some (.inr (.inl (z, np, kd, mx, non))) => bif rcv kd np s.2.2.1 s.2.2.2.1 then
        tk np s.2.2.1 non (fun ls' rest => bif Nat.ble rest.length mx then
          (match run tab ml fr lo f z (0, ls', [], s.2.2.2.1, 0, 0) with
          | some (v, A', k', n') => fN (s.1 + 3) fun pc' => fN (s.2.2.2.2.1 + k') fun k2 => fN (s.2.2.2.2.2 + n') fun n2 => (match v with
            | none => run tab ml fr lo f q (pc', s.2.1, rest, A', k2, n2)
            | some w => run tab ml fr lo f q (pc', s.2.1, w :: rest, A', k2, n2))
          | none => none) else none) none
      else none
section Run
variable {l : Launch} {Z : State} {a0 : Array Value} {K : KTab} {n0 : Nat} {τ : Int → Int32}
theorem laid_up (L : List MV) : Jvm.Sym.laidSlots (L.map (upV n0 τ)) = L.map (fun v => Slot.val (upV n0 τ v)) := by
  induction L with
  | nil => rfl
  | cons v L ih => simp [Jvm.Sym.laidSlots, upV_cat, ih]
theorem entry_up (m : MethodId) (L : List MV) (maxL : Nat) : entryFrame m (L.map (upV n0 τ)).toArray maxL = mkF m 0 ((L.map some ++ List.replicate (maxL - L.length) none).map (upL n0 τ)).toArray [] := by
  have e : argsToLocals (L.map (upV n0 τ)).toArray maxL = ((L.map some ++ List.replicate (maxL - L.length) none).map (upL n0 τ)).toArray := by
    apply Array.toList_inj.mp
    rw [Jvm.Sym.argsToLocals_toList]
    simp only [laid_up, List.length_map, List.map_append, List.map_map, List.map_replicate]
    rfl
  simp only [entryFrame, mkF, e]
def OkC (l : Launch) (Z : State) (a0 : Array Value) (K : KTab) (n0 : Nat) (τ : Int → Int32) (y : MethodName) (bytes : ByteArray) (maxL : Nat) (ret : Option FieldType) (pc : Nat) (zy : MethodName) (zb : ByteArray) (zm : Nat) (zr : Option FieldType) (np kd : Nat) : Prop :=
  ∀ (b0 : Nat) (ls : List (Option MV)) (st : List MV) (A : List MO) (k n : Nat) (rm : Room) (vo : Option Value) (A' : List Ob) (R : Room) (Q : Option Value → List Ob → Prop) (G : GoT), np ≤ st.length → ls.length = maxL → rcv kd np st A = true → Met l Z K n0 zy zb zm zr rm (((st.take np).reverse).map (upV n0 τ)).toArray (A.map (upO n0 τ)) (Is vo A') →
    rm.frames + 1 ≤ R.frames → (st.drop np).length + (zm + 11) + rm.locals ≤ R.locals → k + rm.cells ≤ R.cells → n + rm.slots ≤ R.slots → IsGo l Z a0 K n0 b0 y bytes maxL ret R Q G →
    G (pc + 3) (ls.map (upL n0 τ)).toArray (vo.toList ++ (st.drop np).map (upV n0 τ)) A' (k + rm.cells) (n + rm.slots) → G pc (ls.map (upL n0 τ)).toArray (st.map (upV n0 τ)) (A.map (upO n0 τ)) k n
section Calls
variable {y zy : MethodName} {bytes zb : ByteArray} {maxL zm pc idx np kk : Nat} {ret zr : Option FieldType}
theorem take_at {st : List MV} {m : Nat} {v : MV} (h : st[m]? = some v) : (st.take (m + 1)).reverse = v :: (st.take m).reverse ∧ st = st.take m ++ v :: st.drop (m + 1) := by
  obtain ⟨hl, e⟩ := List.getElem?_eq_some_iff.mp h
  constructor
  · rw [List.take_add_one, h]; simp
  · rw [← e, ← List.drop_eq_getElem_cons hl, List.take_append_drop]
theorem okc_s (hd : Nx bytes pc (.invokestatic idx) 3 (pc + 3)) (L : SL Z a0 y.cls idx zy zb zm zr np) : OkC l Z a0 K n0 τ y bytes maxL ret pc zy zb zm zr np 0 := by
  intro b0 ls st A k n rm vo A' R Q G h1 h2 h3 M h4 h5 h6 h7 H g
  refine H.callSD hd L M (argsL := ((st.take np).reverse).map (upV n0 τ)) (rest := (st.drop np).map (upV n0 τ)) rfl (by simp; omega) ?_ (by simpa using h2) h4 (by rw [wt]; exact h5) h6 h7 rfl rfl rfl g
  rw [← List.map_reverse, List.reverse_reverse, ← List.map_append, List.take_append_drop]
theorem okc_c (hd : Nx bytes pc (.invokespecial idx) 3 (pc + 3)) (L : CL Z a0 y.cls idx zy zb zm np) : OkC l Z a0 K n0 τ y bytes maxL ret pc zy zb zm none (np + 1) 1 := by
  intro b0 ls st A k n rm vo A' R Q G h1 h2 h3 M h4 h5 h6 h7 H g
  simp only [rcv, Nat.add_sub_cancel] at h3
  split at h3
  · next i e =>
    obtain ⟨t1, t2⟩ := take_at e
    refine H.callCD hd L M (a := n0 + i) (argsL := ((st.take np).reverse).map (upV n0 τ)) (rest := (st.drop (np + 1)).map (upV n0 τ)) ?_ (by simp; omega) ?_ (by simpa using h2) h4 (by rw [wt]; exact h5) h6 h7 rfl rfl rfl g
    · rw [t1]; rfl
    · conv => lhs; rw [t2]
      rw [← List.map_reverse, List.reverse_reverse, List.map_append]; rfl
  · cases h3
theorem okc_v (hd : Nx bytes pc (.invokevirtual idx) 3 (pc + 3)) (L : VL Z a0 K y.cls idx kk zy zb zm zr np) : OkC l Z a0 K n0 τ y bytes maxL ret pc zy zb zm zr (np + 1) (kk + 2) := by
  intro b0 ls st A k n rm vo A' R Q G h1 h2 h3 M h4 h5 h6 h7 H g
  simp only [rcv, Nat.add_sub_cancel] at h3
  split at h3
  · next i e =>
    split at h3
    · next k' vs ha =>
      have ek := Nat.eq_of_beq_eq_true h3
      subst ek
      obtain ⟨t1, t2⟩ := take_at e
      refine H.callVD hd L M (i := i) (vs := vs.map (upV n0 τ)) (upA ha) (argsL := ((st.take np).reverse).map (upV n0 τ)) (rest := (st.drop (np + 1)).map (upV n0 τ)) ?_ (by simp; omega) ?_ (by simpa using h2) h4 (by rw [wt]; exact h5) h6 h7 rfl rfl rfl g
      · rw [t1]; rfl
      · conv => lhs; rw [t2]
        rw [← List.map_reverse, List.reverse_reverse, List.map_append]; rfl
    · cases h3
  · cases h3
theorem okc_m (hd : Nx bytes pc (.invokevirtual idx) 3 (pc + 3)) (L : ML Z a0 K y.cls idx kk zy zb zm zr np) : OkC l Z a0 K n0 τ y bytes maxL ret pc zy zb zm zr (np + 1) (kk + 2) := by
  intro b0 ls st A k n rm vo A' R Q G h1 h2 h3 M h4 h5 h6 h7 H g
  simp only [rcv, Nat.add_sub_cancel] at h3
  split at h3
  · next i e =>
    split at h3
    · next k' vs ha =>
      have ek := Nat.eq_of_beq_eq_true h3
      subst ek
      obtain ⟨t1, t2⟩ := take_at e
      refine H.callMD hd L M (i := i) (vs := vs.map (upV n0 τ)) (upA ha) (argsL := ((st.take np).reverse).map (upV n0 τ)) (rest := (st.drop (np + 1)).map (upV n0 τ)) ?_ (by simp; omega) ?_ (by simpa using h2) h4 (by rw [wt]; exact h5) h6 h7 rfl rfl rfl g
      · rw [t1]; rfl
      · conv => lhs; rw [t2]
        rw [← List.map_reverse, List.reverse_reverse, List.map_append]; rfl
    · cases h3
  · cases h3
end Calls
/-- every row of the tables is sound -/
def TabOk (l : Launch) (Z : State) (a0 : Array Value) (K : KTab) (n0 : Nat) (τ : Int → Int32) (tab : Nat → Nat → Option ME) (ml fr lo : Nat → Nat) (yy : Nat → MethodName) (bb : Nat → ByteArray) (rr : Nat → Option FieldType) : Prop :=
  (∀ q pc e, tab q pc = some e → match e with
    | .inl x => Ok1 l Z a0 K n0 τ (yy q) (bb q) (ml q) (rr q) (fr q) (lo q) pc x
    | .inr (.inr 0) => Nx (bb q) pc .return_ 1 (pc + 1) ∧ rr q = none
    | .inr (.inr 1) => Nx (bb q) pc .ireturn 1 (pc + 1) ∧ rr q = some .int
    | .inr (.inr (_ + 2)) => Nx (bb q) pc .ireturn 1 (pc + 1) ∧ rr q = some .boolean
    | .inr (.inl (z, np, kd, mx, non)) => (np ≤ ml z ∧ fr z + 1 ≤ fr q ∧ mx + (ml z + 11) + lo z ≤ lo q ∧ non = List.replicate (ml z - np) none) ∧ plainFor (yy z) = true ∧ OkC l Z a0 K n0 τ (yy q) (bb q) (ml q) (rr q) pc (yy z) (bb z) (ml z) (rr z) np kd) ∧ KOk Z a0 K
theorem run_ok {tab : Nat → Nat → Option ME} {ml fr lo : Nat → Nat} {yy : Nat → MethodName} {bb : Nat → ByteArray} {rr : Nat → Option FieldType} (T : TabOk l Z a0 K n0 τ tab ml fr lo yy bb rr) :
    ∀ (f q : Nat) (s : MS) (r : MR), run tab ml fr lo f q s = some r → s.2.1.length = ml q → ∀ b0 : Nat, s.2.2.2.1.length = b0 + s.2.2.2.2.1 →
      (s.2.2.2.2.1 ≤ r.2.2.1 ∧ s.2.2.2.2.2 ≤ r.2.2.2 ∧ r.2.1.length = b0 + r.2.2.1) ∧
      ∀ (R : Room) (G : GoT), R.frames = fr q → R.locals = lo q → r.2.2.1 ≤ R.cells → r.2.2.2 ≤ R.slots → IsGo l Z a0 K n0 b0 (yy q) (bb q) (ml q) (rr q) R (Is (r.1.map (upV n0 τ)) (r.2.1.map (upO n0 τ))) G → Gu n0 τ G s := by
  intro f
  induction f with
  | zero => intro q s r h; cases h
  | succ f ih =>
    intro q s r h hl b0 hA
    obtain ⟨pc, ls, st, A, k, n⟩ := s
    simp only [run, nrm_eq, fN_eq] at h
    split at h
    · cases h
    · next x ht =>
      have t := T.1 _ _ _ ht
      split at h
      · next s' hs =>
        obtain ⟨⟨a1, a2, a3, a4⟩, a5⟩ := t b0 _ s' rfl hs hl hA
        obtain ⟨⟨c1, c2, c3⟩, c4⟩ := ih q s' r h a1 b0 a2
        refine ⟨⟨Nat.le_trans a3 c1, Nat.le_trans a4 c2, c3⟩, fun R G e1 e2 e3 e4 H => ?_⟩
        exact a5 R _ G e1 e2 (Nat.le_trans c1 e3) (Nat.le_trans c2 e4) H (c4 R G e1 e2 e3 e4 H)
      · cases h
    · next b ht =>
      have t := T.1 _ _ _ ht
      match b, t with
      | 0, t =>
        simp only at h
        split at h
        · cases h
          refine ⟨⟨Nat.le_refl _, Nat.le_refl _, hA⟩, fun R G e1 e2 e3 e4 H => ?_⟩
          exact H.vreturn t.1 t.2 ⟨rfl, rfl⟩ e3 e4
        · cases h
      | 1, t =>
        simp only at h
        split at h
        · next v rest =>
          cases h
          refine ⟨⟨Nat.le_refl _, Nat.le_refl _, hA⟩, fun R G e1 e2 e3 e4 H => ?_⟩
          exact H.ireturn t.1 t.2 (by simp) rfl ⟨rfl, rfl⟩ e3 e4
        · cases h
      | b' + 2, t =>
        simp only at h
        split at h
        · next v rest =>
          cases hv : Nat.ble v 1 <;> simp only [hv, cond_true, cond_false] at h
          · cases h
          · cases h
            have hv := Nat.le_of_ble_eq_true hv
            refine ⟨⟨Nat.le_refl _, Nat.le_refl _, hA⟩, fun R G e1 e2 e3 e4 H => ?_⟩
            refine H.ireturn t.1 t.2 (by simp) ?_ ⟨rfl, rfl⟩ e3 e4
            rcases (by omega : v = 0 ∨ v = 1) with rfl | rfl
            · rw [upI_ok (show okI (.ofNat 0) = true from rfl), show Int32.ofInt (.ofNat 0) = 0 by decide]; rfl
            · rw [upI_ok (show okI (.ofNat 1) = true from rfl), show Int32.ofInt (.ofNat 1) = 1 by decide]; rfl
        · cases h
    · next z np kd mx non ht =>
      obtain ⟨⟨j2, j3, j4, rfl⟩, tp, tc⟩ := T.1 _ _ _ ht
      cases j5 : rcv kd np st A <;> simp only [j5, cond_true, cond_false] at h
      · cases h
      · rw [tk_eq] at h
        cases j1 : Nat.ble np st.length <;> simp only [tkS, j1, cond_true, cond_false] at h
        · cases h
        · cases j6 : Nat.ble (st.drop np).length mx <;> simp only [j6, cond_true, cond_false] at h
          · cases h
          · have j1 := Nat.le_of_ble_eq_true j1
            have j6 := Nat.le_of_ble_eq_true j6
            split at h
            · next v A' k' n' hr =>
              have h : run tab ml fr lo f q (pc + 3, ls, v.toList ++ st.drop np, A', k + k', n + n') = some r := by
                cases v with
                | none => exact h
                | some w => exact h
              have hlen : ((st.take np).reverse.map some ++ List.replicate (ml z - np) none : List (Option MV)).length = ml z := by simp; omega
              obtain ⟨⟨c1, c2, c3⟩, c4⟩ := ih z _ _ hr hlen A.length (by simp)
              have M : Met l Z K n0 (yy z) (bb z) (ml z) (rr z) ({ frames := fr z, cells := k', slots := n', locals := lo z } : Room) (((st.take np).reverse).map (upV n0 τ)).toArray (A.map (upO n0 τ)) (Is (v.map (upV n0 τ)) (A'.map (upO n0 τ))) := by
                refine Met.of (a0 := a0) (ls := (((st.take np).reverse.map some ++ List.replicate (ml z - np) none).map (upL n0 τ)).toArray) T.2 tp (fun m => ?_) (fun G H => ?_)
                · have q := entry_up (n0 := n0) (τ := τ) m (st.take np).reverse (ml z)
                  rw [q]
                  simp [Nat.min_eq_left j1]
                · rw [List.length_map] at H
                  exact c4 _ G rfl rfl (Nat.le_refl _) (Nat.le_refl _) H
              obtain ⟨⟨d1, d2, d3⟩, d4⟩ := ih q _ r h hl b0 (by simp only at hA c3 ⊢; omega)
              simp only at d1 d2
              refine ⟨⟨by simp only; omega, by simp only; omega, d3⟩, fun R G e1 e2 e3 e4 H => ?_⟩
              have g := d4 R G e1 e2 e3 e4 H
              refine tc b0 ls st A k n _ _ _ R _ G j1 hl j5 M (by simp only; omega) (by simp only; omega) (by simp only; omega) (by simp only; omega) H ?_
              simp only [Gu, List.map_append] at g
              cases v with
              | none => exact g
              | some w => exact g
            · cases h
end Run
section Tab
/-- the tables: trees by pc -/
def lf (p : Nat) (e : ME) : Nat → Option ME := fun pc => bif Nat.beq pc p then some e else none
def nd (m : Nat) (a b : Nat → Option ME) : Nat → Option ME := fun pc => bif Nat.ble pc m then a pc else b pc
def no : Nat → Option ME := fun _ => none
def qn (p : Nat) (a : Nat → Option ME) (b : Nat → Nat → Option ME) : Nat → Nat → Option ME := fun q pc => bif Nat.beq q p then a pc else b q pc
def qo : Nat → Nat → Option ME := fun _ _ => none
def AllT (P : Nat → ME → Prop) (f : Nat → Option ME) : Prop := ∀ pc e, f pc = some e → P pc e
theorem LF {P : Nat → ME → Prop} {p : Nat} {e : ME} (h : P p e) : AllT P (lf p e) := by
  intro pc e' h'
  simp only [lf] at h'
  cases hq : Nat.beq pc p <;> simp only [hq, cond_true, cond_false] at h'
  · cases h'
  · cases h'; rw [Nat.eq_of_beq_eq_true hq]; exact h
theorem ND {P : Nat → ME → Prop} {m : Nat} {a b : Nat → Option ME} (h1 : AllT P a) (h2 : AllT P b) : AllT P (nd m a b) := by
  intro pc e' h'
  simp only [nd] at h'
  cases hq : Nat.ble pc m <;> simp only [hq, cond_true, cond_false] at h'
  · exact h2 _ _ h'
  · exact h1 _ _ h'
theorem NO {P : Nat → ME → Prop} : AllT P no := by
  intro pc e' h'; cases h'
def AllQ (P : Nat → Nat → ME → Prop) (f : Nat → Nat → Option ME) : Prop := ∀ q pc e, f q pc = some e → P q pc e
theorem QN {P : Nat → Nat → ME → Prop} {p : Nat} {a : Nat → Option ME} {b : Nat → Nat → Option ME} (h1 : AllT (P p) a) (h2 : AllQ P b) : AllQ P (qn p a b) := by
  intro q pc e' h'
  simp only [qn] at h'
  cases hq : Nat.beq q p <;> simp only [hq, cond_true, cond_false] at h'
  · exact h2 _ _ _ h'
  · rw [Nat.eq_of_beq_eq_true hq]; exact h1 _ _ h'
theorem QO {P : Nat → Nat → ME → Prop} : AllQ P qo := by
  intro q pc e' h'; cases h'
end Tab
theorem met_run {l : Launch} {Z : State} {a0 : Array Value} {K : KTab} {n0 : Nat} {τ : Int → Int32} {tab : Nat → Nat → Option ME} {ml fr lo : Nat → Nat} {yy : Nat → MethodName} {bb : Nat → ByteArray} {rr : Nat → Option FieldType} (T : TabOk l Z a0 K n0 τ tab ml fr lo yy bb rr) {f q : Nat} {args : List MV} {A A' : List MO} {v : Option MV} {k n : Nat} (hp : plainFor (yy q) = true) (hn : args.length ≤ ml q)
    (h : run tab ml fr lo f q (0, args.map some ++ List.replicate (ml q - args.length) none, [], A, 0, 0) = some (v, A', k, n)) : Met l Z K n0 (yy q) (bb q) (ml q) (rr q) ({ frames := fr q, cells := k, slots := n, locals := lo q } : Room) (args.map (upV n0 τ)).toArray (A.map (upO n0 τ)) (Is (v.map (upV n0 τ)) (A'.map (upO n0 τ))) := by
  obtain ⟨⟨c1, c2, c3⟩, c4⟩ := run_ok T f q _ _ h (by simp; omega) A.length (by simp)
  refine Met.of (a0 := a0) (ls := ((args.map some ++ List.replicate (ml q - args.length) none).map (upL n0 τ)).toArray) T.2 hp (fun m => entry_up m args (ml q)) (fun G H => ?_)
  rw [List.length_map] at H
  exact c4 _ G rfl rfl (Nat.le_refl _) (Nat.le_refl _) H

/-- a body's run up to a given pc -/
def seg (tab : Nat → Nat → Option ME) (ml fr lo : Nat → Nat) (stop : Nat) : Nat → Nat → MS → Option MS
  | 0, _, _ => none
  | f + 1, q, s => bif Nat.beq s.1 stop then some s else match tab q s.1 with
    | none => none
    | some (.inl x) => match x s with
      | some s' => seg tab ml fr lo stop f q s'
      | none => none
    | some (.inr (.inr _)) => none
    | some (.inr (.inl (z, np, kd, mx, non))) => bif rcv kd np s.2.2.1 s.2.2.2.1 then
        tk np s.2.2.1 non (fun ls' rest => bif Nat.ble rest.length mx then
          (match run tab ml fr lo f z (0, ls', [], s.2.2.2.1, 0, 0) with
          | some (v, A', k', n') => fN (s.1 + 3) fun pc' => fN (s.2.2.2.2.1 + k') fun k2 => fN (s.2.2.2.2.2 + n') fun n2 => (match v with
            | none => seg tab ml fr lo stop f q (pc', s.2.1, rest, A', k2, n2)
            | some w => seg tab ml fr lo stop f q (pc', s.2.1, w :: rest, A', k2, n2))
          | none => none) else none) none
      else none
theorem seg_ok {l : Launch} {Z : State} {a0 : Array Value} {K : KTab} {n0 : Nat} {τ : Int → Int32} {tab : Nat → Nat → Option ME} {ml fr lo : Nat → Nat} {yy : Nat → MethodName} {bb : Nat → ByteArray} {rr : Nat → Option FieldType} (T : TabOk l Z a0 K n0 τ tab ml fr lo yy bb rr) {stop : Nat} :
    ∀ (f q : Nat) (s s' : MS), seg tab ml fr lo stop f q s = some s' → s.2.1.length = ml q → ∀ b0 : Nat, s.2.2.2.1.length = b0 + s.2.2.2.2.1 →
      (s'.2.1.length = ml q ∧ s'.2.2.2.1.length = b0 + s'.2.2.2.2.1 ∧ s.2.2.2.2.1 ≤ s'.2.2.2.2.1 ∧ s.2.2.2.2.2 ≤ s'.2.2.2.2.2) ∧
      ∀ (R : Room) (Q : Option Value → List Ob → Prop) (G : GoT), R.frames = fr q → R.locals = lo q → s'.2.2.2.2.1 ≤ R.cells → s'.2.2.2.2.2 ≤ R.slots → IsGo l Z a0 K n0 b0 (yy q) (bb q) (ml q) (rr q) R Q G → Gu n0 τ G s' → Gu n0 τ G s := by
  intro f
  induction f with
  | zero => intro q s r h; cases h
  | succ f ih =>
    intro q s r h hl b0 hA
    obtain ⟨pc, ls, st, A, k, n⟩ := s
    simp only [seg, nrm_eq, fN_eq] at h
    cases hp : Nat.beq pc stop <;> simp only [hp, cond_true, cond_false] at h
    · split at h
      · cases h
      · next x ht =>
        have t := T.1 _ _ _ ht
        split at h
        · next s' hs =>
          obtain ⟨⟨a1, a2, a3, a4⟩, a5⟩ := t b0 _ s' rfl hs hl hA
          obtain ⟨⟨c0, c1, c2, c3⟩, c4⟩ := ih q s' r h a1 b0 a2
          refine ⟨⟨c0, c1, Nat.le_trans a3 c2, Nat.le_trans a4 c3⟩, fun R Q G e1 e2 e3 e4 H g => ?_⟩
          exact a5 R _ G e1 e2 (Nat.le_trans c2 e3) (Nat.le_trans c3 e4) H (c4 R Q G e1 e2 e3 e4 H g)
        · cases h
      · cases h
      · next z np kd mx non ht =>
        obtain ⟨⟨j2, j3, j4, rfl⟩, tp, tc⟩ := T.1 _ _ _ ht
        cases j5 : rcv kd np st A <;> simp only [j5, cond_true, cond_false] at h
        · cases h
        · rw [tk_eq] at h
          cases j1 : Nat.ble np st.length <;> simp only [tkS, j1, cond_true, cond_false] at h
          · cases h
          · cases j6 : Nat.ble (st.drop np).length mx <;> simp only [j6, cond_true, cond_false] at h
            · cases h
            · have j1 := Nat.le_of_ble_eq_true j1
              have j6 := Nat.le_of_ble_eq_true j6
              split at h
              · next v A' k' n' hr =>
                have h : seg tab ml fr lo stop f q (pc + 3, ls, v.toList ++ st.drop np, A', k + k', n + n') = some r := by
                  cases v with
                  | none => exact h
                  | some w => exact h
                have hlen : ((st.take np).reverse.map some ++ List.replicate (ml z - np) none : List (Option MV)).length = ml z := by simp; omega
                have hnp : (st.take np).reverse.length = np := by simp; omega
                obtain ⟨⟨c1, c2, c3⟩, -⟩ := run_ok T f z _ _ hr hlen A.length (by simp)
                have M := met_run T (f := f) (q := z) (args := (st.take np).reverse) (A := A) tp (by omega) (by rw [hnp]; exact hr)
                obtain ⟨⟨d0, d1, d2, d3⟩, d4⟩ := ih q _ r h hl b0 (by simp only at hA c3 ⊢; omega)
                simp only at d2 d3
                refine ⟨⟨d0, d1, by simp only; omega, by simp only; omega⟩, fun R Q G e1 e2 e3 e4 H g => ?_⟩
                have g := d4 R Q G e1 e2 e3 e4 H g
                refine tc b0 ls st A k n _ _ _ R _ G j1 hl j5 M (by simp only; omega) (by simp only; omega) (by simp only; omega) (by simp only; omega) H ?_
                simp only [Gu, List.map_append] at g
                cases v with
                | none => exact g
                | some w => exact g
              · cases h
    · cases h
      exact ⟨⟨hl, hA, Nat.le_refl _, Nat.le_refl _⟩, fun R Q G _ _ _ _ _ g => g⟩
def eqV : MV → MV → Bool
  | .inl a, .inl b => eqI a b
  | .inr a, .inr b => Nat.beq a b
  | _, _ => false
def eqS : Option MV → Option MV → Bool
  | some a, some b => eqV a b
  | none, none => true
  | _, _ => false
def eqL {α : Type} (f : α → α → Bool) : List α → List α → Bool
  | [], [] => true
  | a :: A, b :: B => f a b && eqL f A B
  | _, _ => false
def eqO : MO → MO → Bool
  | .inl (k, a), .inl (k', b) => Nat.beq k k' && eqL eqV a b
  | .inr a, .inr b => eqL eqV a b
  | _, _ => false
def eqM : MS → MS → Bool := fun (pc, ls, st, A, k, n) (pc', ls', st', A', k', n') => Nat.beq pc pc' && eqL eqS ls ls' && eqL eqV st st' && eqL eqO A A' && Nat.beq k k' && Nat.beq n n'
theorem eqV_ok : ∀ {a b : MV}, eqV a b = true → a = b
  | .inl a, .inl b, h => congrArg Sum.inl ((eqI_iff a b).mp h)
  | .inr a, .inr b, h => congrArg Sum.inr (Nat.eq_of_beq_eq_true h)
theorem eqS_ok : ∀ {a b : Option MV}, eqS a b = true → a = b
  | some a, some b, h => congrArg some (eqV_ok h)
  | none, none, _ => rfl
theorem eqL_ok {α : Type} {f : α → α → Bool} (hf : ∀ {a b}, f a b = true → a = b) : ∀ {A B : List α}, eqL f A B = true → A = B
  | [], [], _ => rfl
  | a :: A, b :: B, h => by
    simp only [eqL, Bool.and_eq_true] at h
    rw [hf h.1, eqL_ok hf h.2]
theorem eqO_ok : ∀ {a b : MO}, eqO a b = true → a = b
  | .inl (k, a), .inl (k', b), h => by
    simp only [eqO, Bool.and_eq_true] at h
    rw [Nat.eq_of_beq_eq_true h.1, eqL_ok eqV_ok h.2]
  | .inr a, .inr b, h => congrArg Sum.inr (eqL_ok eqV_ok h)
theorem eqM_ok : ∀ {s t : MS}, eqM s t = true → s = t
  | (pc, ls, st, A, k, n), (pc', ls', st', A', k', n'), h => by
    simp only [eqM, Bool.and_eq_true] at h
    obtain ⟨⟨⟨⟨⟨h1, h2⟩, h3⟩, h4⟩, h5⟩, h6⟩ := h
    rw [Nat.eq_of_beq_eq_true h1, eqL_ok eqS_ok h2, eqL_ok eqV_ok h3, eqL_ok eqO_ok h4, Nat.eq_of_beq_eq_true h5, Nat.eq_of_beq_eq_true h6]
/-- the run's end is this state -/
def isM (r : Option MS) (t : MS) : Bool := match r with | some s => eqM s t | none => false
theorem isM_ok {r : Option MS} {t : MS} (h : isM r t = true) : r = some t := by
  cases r with
  | none => cases h
  | some s => exact congrArg some (eqM_ok h)
end Jvm.OwnI

namespace Jvm.Pilot.@@N@@
open Jvm Jvm.ClassFile Sem Op Lib Jvm.Free Jvm.Stand Jvm.LawKit Jvm.RoadKit Jvm.OwnKit Jvm.OwnI Bundle Jvm.Pilot.@@N@@.Jvm.D
abbrev HW1 (Z : State) (a0 : Array Value) : Prop := ∀ d ∈ tables_1, d.before a0 Z = true
def KT : KTab := [("com/example/sluice/sluice/algo/SpanningTree", [("com/example/sluice/sluice/algo/SpanningTree", "parent", "[I"), ("com/example/sluice/sluice/algo/SpanningTree", "arc", "[I"), ("com/example/sluice/sluice/algo/SpanningTree", "size", "[I"), ("com/example/sluice/sluice/algo/SpanningTree", "following", "[I"), ("com/example/sluice/sluice/algo/SpanningTree", "preceding", "[I"), ("com/example/sluice/sluice/algo/SpanningTree", "last", "[I")]), ("com/example/sluice/sluice/algo/ByVertex", [("com/example/sluice/sluice/algo/ByVertex", "start", "[I"), ("com/example/sluice/sluice/algo/ByVertex", "items", "[I")])]
abbrev y1 : MethodName := ⟨"com/example/sluice/sluice/algo/SpanningTreeJoinPinLaw", "lab", "(IIZ)I"⟩
abbrev y2 : MethodName := ⟨"com/example/sluice/sluice/algo/SpanningTree", "<init>", "(I[I[I)V"⟩
abbrev y3 : MethodName := ⟨"java/lang/Object", "<init>", "()V"⟩
abbrev y4 : MethodName := ⟨"com/example/sluice/sluice/algo/ByVertex", "<init>", "([II)V"⟩
abbrev y5 : MethodName := ⟨"com/example/sluice/sluice/algo/ByVertex", "end", "(I)I"⟩
abbrev y6 : MethodName := ⟨"com/example/sluice/sluice/algo/ByVertex", "start", "(I)I"⟩
abbrev y7 : MethodName := ⟨"com/example/sluice/sluice/algo/ByVertex", "item", "(I)I"⟩
abbrev y8 : MethodName := ⟨"com/example/sluice/sluice/algo/SpanningTree", "link", "(II)V"⟩
abbrev y9 : MethodName := ⟨"com/example/sluice/sluice/algo/SpanningTree", "join", "(II)I"⟩
abbrev y10 : MethodName := ⟨"com/example/sluice/sluice/algo/SpanningTreeJoinPinLaw", "lca", "([III)I"⟩
abbrev y11 : MethodName := ⟨"com/example/sluice/sluice/algo/SpanningTreeJoinPinLaw", "ancOrSelf", "([III)Z"⟩
abbrev y12 : MethodName := ⟨"com/example/sluice/sluice/algo/SpanningTreeJoinPinLaw", "step", "([II)I"⟩
theorem kok {Z : State} {a0 : Array Value} (hw : HW1 Z a0) : KOk Z a0 KT := kokOf (faS ⟨⟨_, (hw _ (List.mem_of_getElem? (i := 7) rfl))⟩, (faS ⟨Or.inr (hw _ (List.mem_of_getElem? (i := 25) rfl)), (.array .int), by decide +kernel⟩ (faS ⟨Or.inr (hw _ (List.mem_of_getElem? (i := 27) rfl)), (.array .int), by decide +kernel⟩ (faS ⟨Or.inr (hw _ (List.mem_of_getElem? (i := 29) rfl)), (.array .int), by decide +kernel⟩ (faS ⟨Or.inr (hw _ (List.mem_of_getElem? (i := 31) rfl)), (.array .int), by decide +kernel⟩ (faS ⟨Or.inr (hw _ (List.mem_of_getElem? (i := 33) rfl)), (.array .int), by decide +kernel⟩ (faS ⟨Or.inr (hw _ (List.mem_of_getElem? (i := 35) rfl)), (.array .int), by decide +kernel⟩ fa0)))))), by decide⟩ (faS ⟨⟨_, (hw _ (List.mem_of_getElem? (i := 37) rfl))⟩, (faS ⟨Or.inr (hw _ (List.mem_of_getElem? (i := 44) rfl)), (.array .int), by decide +kernel⟩ (faS ⟨Or.inr (hw _ (List.mem_of_getElem? (i := 46) rfl)), (.array .int), by decide +kernel⟩ fa0)), by decide⟩ fa0))
theorem s0_0 : Nx code 0 (.iload_n 0) 1 1 := ⟨at_0, rfl⟩
theorem s0_1 : Nx code 1 (.iconst 1) 1 2 := ⟨at_1, rfl⟩
theorem s0_3 : Nx code 3 (.istore 4) 2 5 := ⟨at_3, rfl⟩
theorem s0_5 : Nx code 5 (.iload_n 0) 1 6 := ⟨at_5, rfl⟩
theorem s0_6 : Nx code 6 (.iconst 1) 1 7 := ⟨at_6, rfl⟩
theorem s0_8 : Nx code 8 (.iconst 3) 1 9 := ⟨at_8, rfl⟩
theorem s0_10 : Nx code 10 (.iconst 3) 1 11 := ⟨at_10, rfl⟩
theorem s0_11 : Nx code 11 (.irem) 1 12 := ⟨at_11, rfl⟩
theorem s0_12 : Nx code 12 (.istore 5) 2 14 := ⟨at_12, rfl⟩
theorem s0_14 : Nx code 14 (.iload_n 0) 1 15 := ⟨at_14, rfl⟩
theorem s0_15 : Nx code 15 (.iconst 3) 1 16 := ⟨at_15, rfl⟩
theorem s0_17 : Nx code 17 (.iconst 3) 1 18 := ⟨at_17, rfl⟩
theorem s0_19 : Nx code 19 (.istore 6) 2 21 := ⟨at_19, rfl⟩
theorem s0_21 : Nx code 21 (.iconst 5) 1 22 := ⟨at_21, rfl⟩
theorem s0_22 : Nx code 22 (.newarray .int) 2 24 := ⟨at_22, rfl⟩
theorem k_0 {Z : State} {a0 : Array Value} (hw : HW1 Z a0) : AL Z a0 .int := (hw _ (List.mem_of_getElem? (i := 0) rfl))
theorem s0_24 : Nx code 24 (.dup) 1 25 := ⟨at_24, rfl⟩
theorem s0_25 : Nx code 25 (.iconst 0) 1 26 := ⟨at_25, rfl⟩
theorem s0_26 : Nx code 26 (.iconst (-1)) 1 27 := ⟨at_26, rfl⟩
theorem s0_27 : Nx code 27 (.iastore) 1 28 := ⟨at_27, rfl⟩
theorem s0_28 : Nx code 28 (.dup) 1 29 := ⟨at_28, rfl⟩
theorem s0_29 : Nx code 29 (.iconst 1) 1 30 := ⟨at_29, rfl⟩
theorem s0_30 : Nx code 30 (.iconst 0) 1 31 := ⟨at_30, rfl⟩
theorem s0_31 : Nx code 31 (.iastore) 1 32 := ⟨at_31, rfl⟩
theorem s0_32 : Nx code 32 (.dup) 1 33 := ⟨at_32, rfl⟩
theorem s0_33 : Nx code 33 (.iconst 2) 1 34 := ⟨at_33, rfl⟩
theorem s0_34 : Nx code 34 (.iload 4) 2 36 := ⟨at_34, rfl⟩
theorem s0_36 : Nx code 36 (.iastore) 1 37 := ⟨at_36, rfl⟩
theorem s0_37 : Nx code 37 (.dup) 1 38 := ⟨at_37, rfl⟩
theorem s0_38 : Nx code 38 (.iconst 3) 1 39 := ⟨at_38, rfl⟩
theorem s0_39 : Nx code 39 (.iload 5) 2 41 := ⟨at_39, rfl⟩
theorem s0_41 : Nx code 41 (.iastore) 1 42 := ⟨at_41, rfl⟩
theorem s0_42 : Nx code 42 (.dup) 1 43 := ⟨at_42, rfl⟩
theorem s0_43 : Nx code 43 (.iconst 4) 1 44 := ⟨at_43, rfl⟩
theorem s0_44 : Nx code 44 (.iload 6) 2 46 := ⟨at_44, rfl⟩
theorem s0_46 : Nx code 46 (.iastore) 1 47 := ⟨at_46, rfl⟩
theorem s0_47 : Nx code 47 (.astore 7) 2 49 := ⟨at_47, rfl⟩
theorem s0_49 : Nx code 49 (.iload_n 1) 1 50 := ⟨at_49, rfl⟩
theorem s0_50 : Nx code 50 (.iconst 1) 1 51 := ⟨at_50, rfl⟩
theorem s0_52 : Bx code 52 (.ifCond .eq) 59 55 := ⟨(7), at_52, by decide, by decide, rfl⟩
theorem s0_55 : Nx code 55 (.iconst 1) 1 56 := ⟨at_55, rfl⟩
theorem s0_56 : Bx code 56 (.goto) 60 59 := ⟨(4), at_56, by decide, by decide, rfl⟩
theorem s0_59 : Nx code 59 (.iconst 0) 1 60 := ⟨at_59, rfl⟩
theorem s0_60 : Nx code 60 (.istore 8) 2 62 := ⟨at_60, rfl⟩
theorem s0_62 : Nx code 62 (.iload_n 1) 1 63 := ⟨at_62, rfl⟩
theorem s0_63 : Nx code 63 (.iconst 1) 1 64 := ⟨at_63, rfl⟩
theorem s0_65 : Nx code 65 (.iconst 5) 1 66 := ⟨at_65, rfl⟩
theorem s0_66 : Nx code 66 (.irem) 1 67 := ⟨at_66, rfl⟩
theorem s0_67 : Nx code 67 (.istore 9) 2 69 := ⟨at_67, rfl⟩
theorem s0_69 : Nx code 69 (.iconst 5) 1 70 := ⟨at_69, rfl⟩
theorem s0_70 : Nx code 70 (.newarray .int) 2 72 := ⟨at_70, rfl⟩
theorem s0_72 : Nx code 72 (.astore 10) 2 74 := ⟨at_72, rfl⟩
theorem s0_74 : Nx code 74 (.iconst 5) 1 75 := ⟨at_74, rfl⟩
theorem s0_75 : Nx code 75 (.newarray .int) 2 77 := ⟨at_75, rfl⟩
theorem s0_77 : Nx code 77 (.astore 11) 2 79 := ⟨at_77, rfl⟩
theorem s0_79 : Nx code 79 (.iconst 0) 1 80 := ⟨at_79, rfl⟩
theorem s0_80 : Nx code 80 (.iload 9) 2 82 := ⟨at_80, rfl⟩
theorem s0_82 : Nx code 82 (.iload 8) 2 84 := ⟨at_82, rfl⟩
theorem pn_1 : plainName "com/example/sluice/sluice/algo/SpanningTreeJoinPinLaw" = true := by first | (simp [plainName, overriddenIn]; done) | decide +kernel
theorem pd_0 : ∀ sig, parseMethodDescriptor "(IIZ)I" = some sig → 3 = sig.parameters.length := npOf (r := some .int) (ps := [.int, .int, .boolean]) (by decide +kernel) rfl
theorem k_2 {Z : State} {a0 : Array Value} (hw : HW1 Z a0) : SL Z a0 "com/example/sluice/sluice/algo/SpanningTreeJoinPinLaw" 17 y1 method_2_code 4 (some .int) 3 := ⟨(hw _ (List.mem_of_getElem? (i := 1) rfl)), (hw _ (List.mem_of_getElem? (i := 2) rfl)), (hw _ (List.mem_of_getElem? (i := 3) rfl)), (hw _ (List.mem_of_getElem? (i := 4) rfl)), ⟨by decide, by decide⟩, pd_0⟩
theorem s0_84 : Nx code 84 (.invokestatic 17) 3 87 := ⟨at_84, rfl⟩
theorem s0_87 : Nx code 87 (.istore 12) 2 89 := ⟨at_87, rfl⟩
theorem s0_89 : Nx code 89 (.aload 10) 2 91 := ⟨at_89, rfl⟩
theorem s0_91 : Nx code 91 (.iload 12) 2 93 := ⟨at_91, rfl⟩
theorem s0_93 : Nx code 93 (.iconst 0) 1 94 := ⟨at_93, rfl⟩
theorem s0_94 : Nx code 94 (.iastore) 1 95 := ⟨at_94, rfl⟩
theorem s0_95 : Nx code 95 (.aload 11) 2 97 := ⟨at_95, rfl⟩
theorem s0_97 : Nx code 97 (.iload 12) 2 99 := ⟨at_97, rfl⟩
theorem s0_99 : Nx code 99 (.iconst 0) 1 100 := ⟨at_99, rfl⟩
theorem s0_100 : Nx code 100 (.iastore) 1 101 := ⟨at_100, rfl⟩
theorem s0_101 : Nx code 101 (.aload 10) 2 103 := ⟨at_101, rfl⟩
theorem s0_103 : Nx code 103 (.iconst 1) 1 104 := ⟨at_103, rfl⟩
theorem s0_104 : Nx code 104 (.iload 9) 2 106 := ⟨at_104, rfl⟩
theorem s0_106 : Nx code 106 (.iload 8) 2 108 := ⟨at_106, rfl⟩
theorem s0_108 : Nx code 108 (.invokestatic 17) 3 111 := ⟨at_108, rfl⟩
theorem s0_111 : Nx code 111 (.aload 7) 2 113 := ⟨at_111, rfl⟩
theorem s0_113 : Nx code 113 (.iconst 1) 1 114 := ⟨at_113, rfl⟩
theorem s0_114 : Nx code 114 (.iaload) 1 115 := ⟨at_114, rfl⟩
theorem s0_115 : Nx code 115 (.iload 9) 2 117 := ⟨at_115, rfl⟩
theorem s0_117 : Nx code 117 (.iload 8) 2 119 := ⟨at_117, rfl⟩
theorem s0_119 : Nx code 119 (.invokestatic 17) 3 122 := ⟨at_119, rfl⟩
theorem s0_122 : Nx code 122 (.iastore) 1 123 := ⟨at_122, rfl⟩
theorem s0_123 : Nx code 123 (.aload 10) 2 125 := ⟨at_123, rfl⟩
theorem s0_125 : Nx code 125 (.iconst 2) 1 126 := ⟨at_125, rfl⟩
theorem s0_126 : Nx code 126 (.iload 9) 2 128 := ⟨at_126, rfl⟩
theorem s0_128 : Nx code 128 (.iload 8) 2 130 := ⟨at_128, rfl⟩
theorem s0_130 : Nx code 130 (.invokestatic 17) 3 133 := ⟨at_130, rfl⟩
theorem s0_133 : Nx code 133 (.aload 7) 2 135 := ⟨at_133, rfl⟩
theorem s0_135 : Nx code 135 (.iconst 2) 1 136 := ⟨at_135, rfl⟩
theorem s0_136 : Nx code 136 (.iaload) 1 137 := ⟨at_136, rfl⟩
theorem s0_137 : Nx code 137 (.iload 9) 2 139 := ⟨at_137, rfl⟩
theorem s0_139 : Nx code 139 (.iload 8) 2 141 := ⟨at_139, rfl⟩
theorem s0_141 : Nx code 141 (.invokestatic 17) 3 144 := ⟨at_141, rfl⟩
theorem s0_144 : Nx code 144 (.iastore) 1 145 := ⟨at_144, rfl⟩
theorem s0_145 : Nx code 145 (.aload 10) 2 147 := ⟨at_145, rfl⟩
theorem s0_147 : Nx code 147 (.iconst 3) 1 148 := ⟨at_147, rfl⟩
theorem s0_148 : Nx code 148 (.iload 9) 2 150 := ⟨at_148, rfl⟩
theorem s0_150 : Nx code 150 (.iload 8) 2 152 := ⟨at_150, rfl⟩
theorem s0_152 : Nx code 152 (.invokestatic 17) 3 155 := ⟨at_152, rfl⟩
theorem s0_155 : Nx code 155 (.aload 7) 2 157 := ⟨at_155, rfl⟩
theorem s0_157 : Nx code 157 (.iconst 3) 1 158 := ⟨at_157, rfl⟩
theorem s0_158 : Nx code 158 (.iaload) 1 159 := ⟨at_158, rfl⟩
theorem s0_159 : Nx code 159 (.iload 9) 2 161 := ⟨at_159, rfl⟩
theorem s0_161 : Nx code 161 (.iload 8) 2 163 := ⟨at_161, rfl⟩
theorem s0_163 : Nx code 163 (.invokestatic 17) 3 166 := ⟨at_163, rfl⟩
theorem s0_166 : Nx code 166 (.iastore) 1 167 := ⟨at_166, rfl⟩
theorem s0_167 : Nx code 167 (.aload 10) 2 169 := ⟨at_167, rfl⟩
theorem s0_169 : Nx code 169 (.iconst 4) 1 170 := ⟨at_169, rfl⟩
theorem s0_170 : Nx code 170 (.iload 9) 2 172 := ⟨at_170, rfl⟩
theorem s0_172 : Nx code 172 (.iload 8) 2 174 := ⟨at_172, rfl⟩
theorem s0_174 : Nx code 174 (.invokestatic 17) 3 177 := ⟨at_174, rfl⟩
theorem s0_177 : Nx code 177 (.aload 7) 2 179 := ⟨at_177, rfl⟩
theorem s0_179 : Nx code 179 (.iconst 4) 1 180 := ⟨at_179, rfl⟩
theorem s0_180 : Nx code 180 (.iaload) 1 181 := ⟨at_180, rfl⟩
theorem s0_181 : Nx code 181 (.iload 9) 2 183 := ⟨at_181, rfl⟩
theorem s0_183 : Nx code 183 (.iload 8) 2 185 := ⟨at_183, rfl⟩
theorem s0_185 : Nx code 185 (.invokestatic 17) 3 188 := ⟨at_185, rfl⟩
theorem s0_188 : Nx code 188 (.iastore) 1 189 := ⟨at_188, rfl⟩
theorem s0_189 : Nx code 189 (.aload 11) 2 191 := ⟨at_189, rfl⟩
theorem s0_191 : Nx code 191 (.iconst 1) 1 192 := ⟨at_191, rfl⟩
theorem s0_192 : Nx code 192 (.iload 9) 2 194 := ⟨at_192, rfl⟩
theorem s0_194 : Nx code 194 (.iload 8) 2 196 := ⟨at_194, rfl⟩
theorem s0_196 : Nx code 196 (.invokestatic 17) 3 199 := ⟨at_196, rfl⟩
theorem s0_199 : Nx code 199 (.iconst 1) 1 200 := ⟨at_199, rfl⟩
theorem s0_200 : Nx code 200 (.iastore) 1 201 := ⟨at_200, rfl⟩
theorem s0_201 : Nx code 201 (.aload 11) 2 203 := ⟨at_201, rfl⟩
theorem s0_203 : Nx code 203 (.iconst 2) 1 204 := ⟨at_203, rfl⟩
theorem s0_204 : Nx code 204 (.iload 9) 2 206 := ⟨at_204, rfl⟩
theorem s0_206 : Nx code 206 (.iload 8) 2 208 := ⟨at_206, rfl⟩
theorem s0_208 : Nx code 208 (.invokestatic 17) 3 211 := ⟨at_208, rfl⟩
theorem s0_211 : Nx code 211 (.iconst 2) 1 212 := ⟨at_211, rfl⟩
theorem s0_212 : Nx code 212 (.iastore) 1 213 := ⟨at_212, rfl⟩
theorem s0_213 : Nx code 213 (.aload 11) 2 215 := ⟨at_213, rfl⟩
theorem s0_215 : Nx code 215 (.iconst 3) 1 216 := ⟨at_215, rfl⟩
theorem s0_216 : Nx code 216 (.iload 9) 2 218 := ⟨at_216, rfl⟩
theorem s0_218 : Nx code 218 (.iload 8) 2 220 := ⟨at_218, rfl⟩
theorem s0_220 : Nx code 220 (.invokestatic 17) 3 223 := ⟨at_220, rfl⟩
theorem s0_223 : Nx code 223 (.iconst 3) 1 224 := ⟨at_223, rfl⟩
theorem s0_224 : Nx code 224 (.iastore) 1 225 := ⟨at_224, rfl⟩
theorem s0_225 : Nx code 225 (.aload 11) 2 227 := ⟨at_225, rfl⟩
theorem s0_227 : Nx code 227 (.iconst 4) 1 228 := ⟨at_227, rfl⟩
theorem s0_228 : Nx code 228 (.iload 9) 2 230 := ⟨at_228, rfl⟩
theorem s0_230 : Nx code 230 (.iload 8) 2 232 := ⟨at_230, rfl⟩
theorem s0_232 : Nx code 232 (.invokestatic 17) 3 235 := ⟨at_232, rfl⟩
theorem s0_235 : Nx code 235 (.iconst 4) 1 236 := ⟨at_235, rfl⟩
theorem s0_236 : Nx code 236 (.iastore) 1 237 := ⟨at_236, rfl⟩
theorem s0_237 : Nx code 237 (.iload_n 2) 1 238 := ⟨at_237, rfl⟩
theorem s0_241 : Nx code 241 (.iconst 5) 1 242 := ⟨at_241, rfl⟩
theorem s0_242 : Nx code 242 (.irem) 1 243 := ⟨at_242, rfl⟩
theorem s0_243 : Nx code 243 (.istore 13) 2 245 := ⟨at_243, rfl⟩
theorem s0_245 : Nx code 245 (.iload_n 3) 1 246 := ⟨at_245, rfl⟩
theorem s0_249 : Nx code 249 (.iconst 5) 1 250 := ⟨at_249, rfl⟩
theorem s0_250 : Nx code 250 (.irem) 1 251 := ⟨at_250, rfl⟩
theorem s0_251 : Nx code 251 (.istore 14) 2 253 := ⟨at_251, rfl⟩
theorem k_3 {Z : State} {a0 : Array Value} (hw : HW1 Z a0) : NL Z a0 KT "com/example/sluice/sluice/algo/SpanningTreeJoinPinLaw" 22 0 6 [.null, .null, .null, .null, .null, .null] := ⟨_, _, rfl, (hw _ (List.mem_of_getElem? (i := 6) rfl)), (hw _ (List.mem_of_getElem? (i := 7) rfl)), (hw _ (List.mem_of_getElem? (i := 8) rfl)), by decide +kernel⟩
theorem s0_253 : Nx code 253 (.new 22) 3 256 := ⟨at_253, rfl⟩
theorem s0_256 : Nx code 256 (.dup) 1 257 := ⟨at_256, rfl⟩
theorem s0_257 : Nx code 257 (.iload 12) 2 259 := ⟨at_257, rfl⟩
theorem s0_259 : Nx code 259 (.aload 10) 2 261 := ⟨at_259, rfl⟩
theorem s0_261 : Nx code 261 (.aload 11) 2 263 := ⟨at_261, rfl⟩
theorem pn_4 : plainName "com/example/sluice/sluice/algo/SpanningTree" = true := by first | (simp [plainName, overriddenIn]; done) | decide +kernel
theorem pd_1 : ∀ sig, parseMethodDescriptor "(I[I[I)V" = some sig → 3 = sig.parameters.length := npOf (r := none) (ps := [.int, (.array .int), (.array .int)]) (by decide +kernel) rfl
theorem k_5 {Z : State} {a0 : Array Value} (hw : HW1 Z a0) : CL Z a0 "com/example/sluice/sluice/algo/SpanningTreeJoinPinLaw" 24 y2 prog_25_method_1_code 13 3 := ⟨(hw _ (List.mem_of_getElem? (i := 9) rfl)), (hw _ (List.mem_of_getElem? (i := 10) rfl)), (hw _ (List.mem_of_getElem? (i := 8) rfl)), (hw _ (List.mem_of_getElem? (i := 11) rfl)), ⟨by decide, by decide⟩, pd_1, rfl⟩
theorem s0_263 : Nx code 263 (.invokespecial 24) 3 266 := ⟨at_263, rfl⟩
theorem s0_266 : Nx code 266 (.astore 15) 2 268 := ⟨at_266, rfl⟩
theorem s0_268 : Nx code 268 (.aload 15) 2 270 := ⟨at_268, rfl⟩
theorem s0_270 : Nx code 270 (.iload 13) 2 272 := ⟨at_270, rfl⟩
theorem s0_272 : Nx code 272 (.iload 9) 2 274 := ⟨at_272, rfl⟩
theorem s0_274 : Nx code 274 (.iload 8) 2 276 := ⟨at_274, rfl⟩
theorem s0_276 : Nx code 276 (.invokestatic 17) 3 279 := ⟨at_276, rfl⟩
theorem s0_279 : Nx code 279 (.iload 14) 2 281 := ⟨at_279, rfl⟩
theorem s0_281 : Nx code 281 (.iload 9) 2 283 := ⟨at_281, rfl⟩
theorem s0_283 : Nx code 283 (.iload 8) 2 285 := ⟨at_283, rfl⟩
theorem s0_285 : Nx code 285 (.invokestatic 17) 3 288 := ⟨at_285, rfl⟩
theorem pd_2 : ∀ sig, parseMethodDescriptor "(II)I" = some sig → 2 = sig.parameters.length := npOf (r := some .int) (ps := [.int, .int]) (by decide +kernel) rfl
theorem k_6 {Z : State} {a0 : Array Value} (hw : HW1 Z a0) : VL Z a0 KT "com/example/sluice/sluice/algo/SpanningTreeJoinPinLaw" 27 0 y9 prog_25_method_5_code 3 (some .int) 2 := ⟨_, _, rfl, (hw _ (List.mem_of_getElem? (i := 70) rfl)), (hw _ (List.mem_of_getElem? (i := 71) rfl)), (hw _ (List.mem_of_getElem? (i := 73) rfl)), (hw _ (List.mem_of_getElem? (i := 72) rfl)), (hw _ (List.mem_of_getElem? (i := 8) rfl)), (hw _ (List.mem_of_getElem? (i := 74) rfl)), ⟨by decide, by decide⟩, pd_2⟩
theorem s0_288 : Nx code 288 (.invokevirtual 27) 3 291 := ⟨at_288, rfl⟩
theorem s0_291 : Nx code 291 (.istore 16) 2 293 := ⟨at_291, rfl⟩
theorem s0_293 : Nx code 293 (.aload 7) 2 295 := ⟨at_293, rfl⟩
theorem s0_295 : Nx code 295 (.iload 13) 2 297 := ⟨at_295, rfl⟩
theorem s0_297 : Nx code 297 (.iload 14) 2 299 := ⟨at_297, rfl⟩
theorem pd_3 : ∀ sig, parseMethodDescriptor "([III)I" = some sig → 3 = sig.parameters.length := npOf (r := some .int) (ps := [(.array .int), .int, .int]) (by decide +kernel) rfl
theorem k_7 {Z : State} {a0 : Array Value} (hw : HW1 Z a0) : SL Z a0 "com/example/sluice/sluice/algo/SpanningTreeJoinPinLaw" 31 y10 method_5_code 6 (some .int) 3 := ⟨(hw _ (List.mem_of_getElem? (i := 75) rfl)), (hw _ (List.mem_of_getElem? (i := 76) rfl)), (hw _ (List.mem_of_getElem? (i := 3) rfl)), (hw _ (List.mem_of_getElem? (i := 77) rfl)), ⟨by decide, by decide⟩, pd_3⟩
theorem s0_299 : Nx code 299 (.invokestatic 31) 3 302 := ⟨at_299, rfl⟩
theorem s0_302 : Nx code 302 (.iload 9) 2 304 := ⟨at_302, rfl⟩
theorem s0_304 : Nx code 304 (.iload 8) 2 306 := ⟨at_304, rfl⟩
theorem s0_306 : Nx code 306 (.invokestatic 17) 3 309 := ⟨at_306, rfl⟩
theorem s0_309 : Nx code 309 (.istore 17) 2 311 := ⟨at_309, rfl⟩
theorem s0_311 : Nx code 311 (.iload 16) 2 313 := ⟨at_311, rfl⟩
theorem s0_313 : Nx code 313 (.iload 17) 2 315 := ⟨at_313, rfl⟩
theorem s0_315 : Bx code 315 (.if_icmp .ne) 322 318 := ⟨(7), at_315, by decide, by decide, rfl⟩
theorem s0_318 : Nx code 318 (.iconst 1) 1 319 := ⟨at_318, rfl⟩
theorem s0_319 : Bx code 319 (.goto) 323 322 := ⟨(4), at_319, by decide, by decide, rfl⟩
theorem s0_322 : Nx code 322 (.iconst 0) 1 323 := ⟨at_322, rfl⟩
theorem s0_323 : Nx code 323 (.ireturn) 1 324 := ⟨at_323, rfl⟩
theorem s1_0 : Nx method_2_code 0 (.iload_n 0) 1 1 := ⟨by decide +kernel, rfl⟩
theorem s1_1 : Nx method_2_code 1 (.iload_n 1) 1 2 := ⟨by decide +kernel, rfl⟩
theorem s1_2 : Nx method_2_code 2 (.iadd) 1 3 := ⟨by decide +kernel, rfl⟩
theorem s1_3 : Nx method_2_code 3 (.iconst 5) 1 4 := ⟨by decide +kernel, rfl⟩
theorem s1_4 : Nx method_2_code 4 (.irem) 1 5 := ⟨by decide +kernel, rfl⟩
theorem s1_5 : Nx method_2_code 5 (.istore_n 3) 1 6 := ⟨by decide +kernel, rfl⟩
theorem s1_6 : Nx method_2_code 6 (.iload_n 2) 1 7 := ⟨by decide +kernel, rfl⟩
theorem s1_7 : Bx method_2_code 7 (.ifCond .eq) 16 10 := ⟨(9), by decide +kernel, by decide, by decide, rfl⟩
theorem s1_10 : Nx method_2_code 10 (.iconst 4) 1 11 := ⟨by decide +kernel, rfl⟩
theorem s1_11 : Nx method_2_code 11 (.iload_n 3) 1 12 := ⟨by decide +kernel, rfl⟩
theorem s1_12 : Nx method_2_code 12 (.isub) 1 13 := ⟨by decide +kernel, rfl⟩
theorem s1_13 : Bx method_2_code 13 (.goto) 17 16 := ⟨(4), by decide +kernel, by decide, by decide, rfl⟩
theorem s1_16 : Nx method_2_code 16 (.iload_n 3) 1 17 := ⟨by decide +kernel, rfl⟩
theorem s1_17 : Nx method_2_code 17 (.ireturn) 1 18 := ⟨by decide +kernel, rfl⟩
theorem s2_0 : Nx prog_25_method_1_code 0 (.aload_n 0) 1 1 := ⟨by decide +kernel, rfl⟩
theorem s2_1 : Nx prog_25_method_1_code 1 (.invokespecial 1) 3 4 := ⟨by decide +kernel, rfl⟩
theorem k_8 {Z : State} {a0 : Array Value} (hw : HW1 Z a0) : IL Z a0 "com/example/sluice/sluice/algo/SpanningTree" 1 := ⟨(hw _ (List.mem_of_getElem? (i := 12) rfl)), (hw _ (List.mem_of_getElem? (i := 13) rfl)), (hw _ (List.mem_of_getElem? (i := 14) rfl))⟩
theorem s2_4 : Nx prog_25_method_1_code 4 (.aload_n 3) 1 5 := ⟨by decide +kernel, rfl⟩
theorem s2_5 : Nx prog_25_method_1_code 5 (.arraylength) 1 6 := ⟨by decide +kernel, rfl⟩
theorem s2_6 : Nx prog_25_method_1_code 6 (.istore 4) 2 8 := ⟨by decide +kernel, rfl⟩
theorem s2_8 : Nx prog_25_method_1_code 8 (.aload_n 0) 1 9 := ⟨by decide +kernel, rfl⟩
theorem s2_9 : Nx prog_25_method_1_code 9 (.aload_n 2) 1 10 := ⟨by decide +kernel, rfl⟩
theorem k_9 {Z : State} {a0 : Array Value} (hw : HW1 Z a0) : KL Z a0 "com/example/sluice/sluice/algo/SpanningTree" 7 "[I" := ⟨(hw _ (List.mem_of_getElem? (i := 15) rfl)), (hw _ (List.mem_of_getElem? (i := 16) rfl)), (hw _ (List.mem_of_getElem? (i := 20) rfl)), (hw _ (List.mem_of_getElem? (i := 18) rfl)), (hw _ (List.mem_of_getElem? (i := 19) rfl)), (hw _ (List.mem_of_getElem? (i := 21) rfl))⟩
theorem s2_10 : Nx prog_25_method_1_code 10 (.invokevirtual 7) 3 13 := ⟨by decide +kernel, rfl⟩
theorem s2_13 : Nx prog_25_method_1_code 13 (.checkcast 8) 3 16 := ⟨by decide +kernel, rfl⟩
theorem k_10 {Z : State} {a0 : Array Value} (hw : HW1 Z a0) : PL Z a0 KT "com/example/sluice/sluice/algo/SpanningTree" "<init>" 13 0 0 (.array .int) := ⟨_, _, "com/example/sluice/sluice/algo/SpanningTree", "parent", "[I", "", rfl, rfl, (Or.inl (hw _ (List.mem_of_getElem? (i := 24) rfl))), (Or.inr ⟨(hw _ (List.mem_of_getElem? (i := 25) rfl)), rfl, rfl⟩), by decide +kernel⟩
theorem s2_16 : Nx prog_25_method_1_code 16 (.putfield 13) 3 19 := ⟨by decide +kernel, rfl⟩
theorem s2_19 : Nx prog_25_method_1_code 19 (.aload_n 0) 1 20 := ⟨by decide +kernel, rfl⟩
theorem s2_20 : Nx prog_25_method_1_code 20 (.aload_n 3) 1 21 := ⟨by decide +kernel, rfl⟩
theorem s2_21 : Nx prog_25_method_1_code 21 (.invokevirtual 7) 3 24 := ⟨by decide +kernel, rfl⟩
theorem s2_24 : Nx prog_25_method_1_code 24 (.checkcast 8) 3 27 := ⟨by decide +kernel, rfl⟩
theorem k_11 {Z : State} {a0 : Array Value} (hw : HW1 Z a0) : PL Z a0 KT "com/example/sluice/sluice/algo/SpanningTree" "<init>" 18 0 1 (.array .int) := ⟨_, _, "com/example/sluice/sluice/algo/SpanningTree", "arc", "[I", "", rfl, rfl, (Or.inl (hw _ (List.mem_of_getElem? (i := 26) rfl))), (Or.inr ⟨(hw _ (List.mem_of_getElem? (i := 27) rfl)), rfl, rfl⟩), by decide +kernel⟩
theorem s2_27 : Nx prog_25_method_1_code 27 (.putfield 18) 3 30 := ⟨by decide +kernel, rfl⟩
theorem s2_30 : Nx prog_25_method_1_code 30 (.aload_n 0) 1 31 := ⟨by decide +kernel, rfl⟩
theorem s2_31 : Nx prog_25_method_1_code 31 (.iload 4) 2 33 := ⟨by decide +kernel, rfl⟩
theorem s2_33 : Nx prog_25_method_1_code 33 (.newarray .int) 2 35 := ⟨by decide +kernel, rfl⟩
theorem k_12 {Z : State} {a0 : Array Value} (hw : HW1 Z a0) : PL Z a0 KT "com/example/sluice/sluice/algo/SpanningTree" "<init>" 21 0 2 (.array .int) := ⟨_, _, "com/example/sluice/sluice/algo/SpanningTree", "size", "[I", "", rfl, rfl, (Or.inl (hw _ (List.mem_of_getElem? (i := 28) rfl))), (Or.inr ⟨(hw _ (List.mem_of_getElem? (i := 29) rfl)), rfl, rfl⟩), by decide +kernel⟩
theorem s2_35 : Nx prog_25_method_1_code 35 (.putfield 21) 3 38 := ⟨by decide +kernel, rfl⟩
theorem s2_38 : Nx prog_25_method_1_code 38 (.aload_n 0) 1 39 := ⟨by decide +kernel, rfl⟩
theorem s2_39 : Nx prog_25_method_1_code 39 (.iload 4) 2 41 := ⟨by decide +kernel, rfl⟩
theorem s2_41 : Nx prog_25_method_1_code 41 (.newarray .int) 2 43 := ⟨by decide +kernel, rfl⟩
theorem k_13 {Z : State} {a0 : Array Value} (hw : HW1 Z a0) : PL Z a0 KT "com/example/sluice/sluice/algo/SpanningTree" "<init>" 24 0 3 (.array .int) := ⟨_, _, "com/example/sluice/sluice/algo/SpanningTree", "following", "[I", "", rfl, rfl, (Or.inl (hw _ (List.mem_of_getElem? (i := 30) rfl))), (Or.inr ⟨(hw _ (List.mem_of_getElem? (i := 31) rfl)), rfl, rfl⟩), by decide +kernel⟩
theorem s2_43 : Nx prog_25_method_1_code 43 (.putfield 24) 3 46 := ⟨by decide +kernel, rfl⟩
theorem s2_46 : Nx prog_25_method_1_code 46 (.aload_n 0) 1 47 := ⟨by decide +kernel, rfl⟩
theorem s2_47 : Nx prog_25_method_1_code 47 (.iload 4) 2 49 := ⟨by decide +kernel, rfl⟩
theorem s2_49 : Nx prog_25_method_1_code 49 (.newarray .int) 2 51 := ⟨by decide +kernel, rfl⟩
theorem k_14 {Z : State} {a0 : Array Value} (hw : HW1 Z a0) : PL Z a0 KT "com/example/sluice/sluice/algo/SpanningTree" "<init>" 27 0 4 (.array .int) := ⟨_, _, "com/example/sluice/sluice/algo/SpanningTree", "preceding", "[I", "", rfl, rfl, (Or.inl (hw _ (List.mem_of_getElem? (i := 32) rfl))), (Or.inr ⟨(hw _ (List.mem_of_getElem? (i := 33) rfl)), rfl, rfl⟩), by decide +kernel⟩
theorem s2_51 : Nx prog_25_method_1_code 51 (.putfield 27) 3 54 := ⟨by decide +kernel, rfl⟩
theorem s2_54 : Nx prog_25_method_1_code 54 (.aload_n 0) 1 55 := ⟨by decide +kernel, rfl⟩
theorem s2_55 : Nx prog_25_method_1_code 55 (.iload 4) 2 57 := ⟨by decide +kernel, rfl⟩
theorem s2_57 : Nx prog_25_method_1_code 57 (.newarray .int) 2 59 := ⟨by decide +kernel, rfl⟩
theorem k_15 {Z : State} {a0 : Array Value} (hw : HW1 Z a0) : PL Z a0 KT "com/example/sluice/sluice/algo/SpanningTree" "<init>" 30 0 5 (.array .int) := ⟨_, _, "com/example/sluice/sluice/algo/SpanningTree", "last", "[I", "", rfl, rfl, (Or.inl (hw _ (List.mem_of_getElem? (i := 34) rfl))), (Or.inr ⟨(hw _ (List.mem_of_getElem? (i := 35) rfl)), rfl, rfl⟩), by decide +kernel⟩
theorem s2_59 : Nx prog_25_method_1_code 59 (.putfield 30) 3 62 := ⟨by decide +kernel, rfl⟩
theorem s2_62 : Nx prog_25_method_1_code 62 (.aload_n 0) 1 63 := ⟨by decide +kernel, rfl⟩
theorem k_16 {Z : State} {a0 : Array Value} (hw : HW1 Z a0) : FL Z a0 KT "com/example/sluice/sluice/algo/SpanningTree" 13 0 0 := ⟨_, _, "com/example/sluice/sluice/algo/SpanningTree", "parent", "[I", "", rfl, rfl, (Or.inl (hw _ (List.mem_of_getElem? (i := 24) rfl)))⟩
theorem s2_63 : Nx prog_25_method_1_code 63 (.getfield 13) 3 66 := ⟨by decide +kernel, rfl⟩
theorem s2_66 : Nx prog_25_method_1_code 66 (.iload_n 1) 1 67 := ⟨by decide +kernel, rfl⟩
theorem s2_67 : Nx prog_25_method_1_code 67 (.iconst (-1)) 1 68 := ⟨by decide +kernel, rfl⟩
theorem s2_68 : Nx prog_25_method_1_code 68 (.iastore) 1 69 := ⟨by decide +kernel, rfl⟩
theorem s2_69 : Nx prog_25_method_1_code 69 (.aload_n 2) 1 70 := ⟨by decide +kernel, rfl⟩
theorem s2_70 : Nx prog_25_method_1_code 70 (.invokevirtual 7) 3 73 := ⟨by decide +kernel, rfl⟩
theorem s2_73 : Nx prog_25_method_1_code 73 (.checkcast 8) 3 76 := ⟨by decide +kernel, rfl⟩
theorem s2_76 : Nx prog_25_method_1_code 76 (.astore 5) 2 78 := ⟨by decide +kernel, rfl⟩
theorem s2_78 : Nx prog_25_method_1_code 78 (.aload 5) 2 80 := ⟨by decide +kernel, rfl⟩
theorem s2_80 : Nx prog_25_method_1_code 80 (.iload_n 1) 1 81 := ⟨by decide +kernel, rfl⟩
theorem s2_81 : Nx prog_25_method_1_code 81 (.iload 4) 2 83 := ⟨by decide +kernel, rfl⟩
theorem s2_83 : Nx prog_25_method_1_code 83 (.iastore) 1 84 := ⟨by decide +kernel, rfl⟩
theorem k_17 {Z : State} {a0 : Array Value} (hw : HW1 Z a0) : NL Z a0 KT "com/example/sluice/sluice/algo/SpanningTree" 33 1 2 [.null, .null] := ⟨_, _, rfl, (hw _ (List.mem_of_getElem? (i := 36) rfl)), (hw _ (List.mem_of_getElem? (i := 37) rfl)), (hw _ (List.mem_of_getElem? (i := 38) rfl)), by decide +kernel⟩
theorem s2_84 : Nx prog_25_method_1_code 84 (.new 33) 3 87 := ⟨by decide +kernel, rfl⟩
theorem s2_87 : Nx prog_25_method_1_code 87 (.dup) 1 88 := ⟨by decide +kernel, rfl⟩
theorem s2_88 : Nx prog_25_method_1_code 88 (.aload 5) 2 90 := ⟨by decide +kernel, rfl⟩
theorem s2_90 : Nx prog_25_method_1_code 90 (.iload 4) 2 92 := ⟨by decide +kernel, rfl⟩
theorem s2_92 : Nx prog_25_method_1_code 92 (.iconst 1) 1 93 := ⟨by decide +kernel, rfl⟩
theorem s2_93 : Nx prog_25_method_1_code 93 (.iadd) 1 94 := ⟨by decide +kernel, rfl⟩
theorem pn_18 : plainName "com/example/sluice/sluice/algo/ByVertex" = true := by first | (simp [plainName, overriddenIn]; done) | decide +kernel
theorem pd_4 : ∀ sig, parseMethodDescriptor "([II)V" = some sig → 2 = sig.parameters.length := npOf (r := none) (ps := [(.array .int), .int]) (by decide +kernel) rfl
theorem k_19 {Z : State} {a0 : Array Value} (hw : HW1 Z a0) : CL Z a0 "com/example/sluice/sluice/algo/SpanningTree" 35 y4 prog_5_method_1_code 7 2 := ⟨(hw _ (List.mem_of_getElem? (i := 39) rfl)), (hw _ (List.mem_of_getElem? (i := 40) rfl)), (hw _ (List.mem_of_getElem? (i := 38) rfl)), (hw _ (List.mem_of_getElem? (i := 41) rfl)), ⟨by decide, by decide⟩, pd_4, rfl⟩
theorem s2_94 : Nx prog_25_method_1_code 94 (.invokespecial 35) 3 97 := ⟨by decide +kernel, rfl⟩
theorem s2_97 : Nx prog_25_method_1_code 97 (.astore 6) 2 99 := ⟨by decide +kernel, rfl⟩
theorem s2_99 : Nx prog_25_method_1_code 99 (.iload 4) 2 101 := ⟨by decide +kernel, rfl⟩
theorem s2_101 : Nx prog_25_method_1_code 101 (.newarray .int) 2 103 := ⟨by decide +kernel, rfl⟩
theorem s2_103 : Nx prog_25_method_1_code 103 (.astore 7) 2 105 := ⟨by decide +kernel, rfl⟩
theorem s2_105 : Nx prog_25_method_1_code 105 (.iload 4) 2 107 := ⟨by decide +kernel, rfl⟩
theorem s2_107 : Nx prog_25_method_1_code 107 (.newarray .int) 2 109 := ⟨by decide +kernel, rfl⟩
theorem s2_109 : Nx prog_25_method_1_code 109 (.astore 8) 2 111 := ⟨by decide +kernel, rfl⟩
theorem s2_111 : Nx prog_25_method_1_code 111 (.iconst 0) 1 112 := ⟨by decide +kernel, rfl⟩
theorem s2_112 : Nx prog_25_method_1_code 112 (.istore 9) 2 114 := ⟨by decide +kernel, rfl⟩
theorem s2_114 : Nx prog_25_method_1_code 114 (.aload 8) 2 116 := ⟨by decide +kernel, rfl⟩
theorem s2_116 : Nx prog_25_method_1_code 116 (.iload 9) 2 118 := ⟨by decide +kernel, rfl⟩
theorem s2_118 : Nx prog_25_method_1_code 118 (.iinc 9 1) 3 121 := ⟨by decide +kernel, rfl⟩
theorem s2_121 : Nx prog_25_method_1_code 121 (.iload_n 1) 1 122 := ⟨by decide +kernel, rfl⟩
theorem s2_122 : Nx prog_25_method_1_code 122 (.iastore) 1 123 := ⟨by decide +kernel, rfl⟩
theorem s2_123 : Nx prog_25_method_1_code 123 (.iconst 0) 1 124 := ⟨by decide +kernel, rfl⟩
theorem s2_124 : Nx prog_25_method_1_code 124 (.istore 10) 2 126 := ⟨by decide +kernel, rfl⟩
theorem s2_126 : Nx prog_25_method_1_code 126 (.iload 10) 2 128 := ⟨by decide +kernel, rfl⟩
theorem s2_128 : Nx prog_25_method_1_code 128 (.iload 4) 2 130 := ⟨by decide +kernel, rfl⟩
theorem s2_130 : Bx prog_25_method_1_code 130 (.if_icmp .ge) 200 133 := ⟨(70), by decide +kernel, by decide, by decide, rfl⟩
theorem s2_133 : Nx prog_25_method_1_code 133 (.aload 8) 2 135 := ⟨by decide +kernel, rfl⟩
theorem s2_135 : Nx prog_25_method_1_code 135 (.iinc 9 (-1)) 3 138 := ⟨by decide +kernel, rfl⟩
theorem s2_138 : Nx prog_25_method_1_code 138 (.iload 9) 2 140 := ⟨by decide +kernel, rfl⟩
theorem s2_140 : Nx prog_25_method_1_code 140 (.iaload) 1 141 := ⟨by decide +kernel, rfl⟩
theorem s2_141 : Nx prog_25_method_1_code 141 (.istore 11) 2 143 := ⟨by decide +kernel, rfl⟩
theorem s2_143 : Nx prog_25_method_1_code 143 (.aload 7) 2 145 := ⟨by decide +kernel, rfl⟩
theorem s2_145 : Nx prog_25_method_1_code 145 (.iload 10) 2 147 := ⟨by decide +kernel, rfl⟩
theorem s2_147 : Nx prog_25_method_1_code 147 (.iload 11) 2 149 := ⟨by decide +kernel, rfl⟩
theorem s2_149 : Nx prog_25_method_1_code 149 (.iastore) 1 150 := ⟨by decide +kernel, rfl⟩
theorem s2_150 : Nx prog_25_method_1_code 150 (.aload 6) 2 152 := ⟨by decide +kernel, rfl⟩
theorem s2_152 : Nx prog_25_method_1_code 152 (.iload 11) 2 154 := ⟨by decide +kernel, rfl⟩
theorem pd_5 : ∀ sig, parseMethodDescriptor "(I)I" = some sig → 1 = sig.parameters.length := npOf (r := some .int) (ps := [.int]) (by decide +kernel) rfl
theorem k_20 {Z : State} {a0 : Array Value} (hw : HW1 Z a0) : VL Z a0 KT "com/example/sluice/sluice/algo/SpanningTree" 38 1 y5 prog_5_method_3_code 2 (some .int) 1 := ⟨_, _, rfl, (hw _ (List.mem_of_getElem? (i := 51) rfl)), (hw _ (List.mem_of_getElem? (i := 52) rfl)), (hw _ (List.mem_of_getElem? (i := 54) rfl)), (hw _ (List.mem_of_getElem? (i := 53) rfl)), (hw _ (List.mem_of_getElem? (i := 38) rfl)), (hw _ (List.mem_of_getElem? (i := 55) rfl)), ⟨by decide, by decide⟩, pd_5⟩
theorem s2_154 : Nx prog_25_method_1_code 154 (.invokevirtual 38) 3 157 := ⟨by decide +kernel, rfl⟩
theorem s2_157 : Nx prog_25_method_1_code 157 (.iconst 1) 1 158 := ⟨by decide +kernel, rfl⟩
theorem s2_158 : Nx prog_25_method_1_code 158 (.isub) 1 159 := ⟨by decide +kernel, rfl⟩
theorem s2_159 : Nx prog_25_method_1_code 159 (.istore 12) 2 161 := ⟨by decide +kernel, rfl⟩
theorem s2_161 : Nx prog_25_method_1_code 161 (.iload 12) 2 163 := ⟨by decide +kernel, rfl⟩
theorem s2_163 : Nx prog_25_method_1_code 163 (.aload 6) 2 165 := ⟨by decide +kernel, rfl⟩
theorem s2_165 : Nx prog_25_method_1_code 165 (.iload 11) 2 167 := ⟨by decide +kernel, rfl⟩
theorem k_21 {Z : State} {a0 : Array Value} (hw : HW1 Z a0) : VL Z a0 KT "com/example/sluice/sluice/algo/SpanningTree" 42 1 y6 prog_5_method_2_code 2 (some .int) 1 := ⟨_, _, rfl, (hw _ (List.mem_of_getElem? (i := 56) rfl)), (hw _ (List.mem_of_getElem? (i := 57) rfl)), (hw _ (List.mem_of_getElem? (i := 59) rfl)), (hw _ (List.mem_of_getElem? (i := 58) rfl)), (hw _ (List.mem_of_getElem? (i := 38) rfl)), (hw _ (List.mem_of_getElem? (i := 60) rfl)), ⟨by decide, by decide⟩, pd_5⟩
theorem s2_167 : Nx prog_25_method_1_code 167 (.invokevirtual 42) 3 170 := ⟨by decide +kernel, rfl⟩
theorem s2_170 : Bx prog_25_method_1_code 170 (.if_icmp .lt) 194 173 := ⟨(24), by decide +kernel, by decide, by decide, rfl⟩
theorem s2_173 : Nx prog_25_method_1_code 173 (.aload 8) 2 175 := ⟨by decide +kernel, rfl⟩
theorem s2_175 : Nx prog_25_method_1_code 175 (.iload 9) 2 177 := ⟨by decide +kernel, rfl⟩
theorem s2_177 : Nx prog_25_method_1_code 177 (.iinc 9 1) 3 180 := ⟨by decide +kernel, rfl⟩
theorem s2_180 : Nx prog_25_method_1_code 180 (.aload 6) 2 182 := ⟨by decide +kernel, rfl⟩
theorem s2_182 : Nx prog_25_method_1_code 182 (.iload 12) 2 184 := ⟨by decide +kernel, rfl⟩
theorem k_22 {Z : State} {a0 : Array Value} (hw : HW1 Z a0) : VL Z a0 KT "com/example/sluice/sluice/algo/SpanningTree" 45 1 y7 prog_5_method_4_code 2 (some .int) 1 := ⟨_, _, rfl, (hw _ (List.mem_of_getElem? (i := 61) rfl)), (hw _ (List.mem_of_getElem? (i := 62) rfl)), (hw _ (List.mem_of_getElem? (i := 64) rfl)), (hw _ (List.mem_of_getElem? (i := 63) rfl)), (hw _ (List.mem_of_getElem? (i := 38) rfl)), (hw _ (List.mem_of_getElem? (i := 65) rfl)), ⟨by decide, by decide⟩, pd_5⟩
theorem s2_184 : Nx prog_25_method_1_code 184 (.invokevirtual 45) 3 187 := ⟨by decide +kernel, rfl⟩
theorem s2_187 : Nx prog_25_method_1_code 187 (.iastore) 1 188 := ⟨by decide +kernel, rfl⟩
theorem s2_188 : Nx prog_25_method_1_code 188 (.iinc 12 (-1)) 3 191 := ⟨by decide +kernel, rfl⟩
theorem s2_191 : Bx prog_25_method_1_code 191 (.goto) 161 194 := ⟨(-30), by decide +kernel, by decide, by decide, rfl⟩
theorem s2_194 : Nx prog_25_method_1_code 194 (.iinc 10 1) 3 197 := ⟨by decide +kernel, rfl⟩
theorem s2_197 : Bx prog_25_method_1_code 197 (.goto) 126 200 := ⟨(-71), by decide +kernel, by decide, by decide, rfl⟩
theorem s2_200 : Nx prog_25_method_1_code 200 (.iconst 0) 1 201 := ⟨by decide +kernel, rfl⟩
theorem s2_201 : Nx prog_25_method_1_code 201 (.istore 10) 2 203 := ⟨by decide +kernel, rfl⟩
theorem s2_203 : Nx prog_25_method_1_code 203 (.iload 10) 2 205 := ⟨by decide +kernel, rfl⟩
theorem s2_205 : Nx prog_25_method_1_code 205 (.iload 4) 2 207 := ⟨by decide +kernel, rfl⟩
theorem s2_207 : Bx prog_25_method_1_code 207 (.if_icmp .ge) 235 210 := ⟨(28), by decide +kernel, by decide, by decide, rfl⟩
theorem s2_210 : Nx prog_25_method_1_code 210 (.aload_n 0) 1 211 := ⟨by decide +kernel, rfl⟩
theorem s2_211 : Nx prog_25_method_1_code 211 (.aload 7) 2 213 := ⟨by decide +kernel, rfl⟩
theorem s2_213 : Nx prog_25_method_1_code 213 (.iload 10) 2 215 := ⟨by decide +kernel, rfl⟩
theorem s2_215 : Nx prog_25_method_1_code 215 (.iaload) 1 216 := ⟨by decide +kernel, rfl⟩
theorem s2_216 : Nx prog_25_method_1_code 216 (.aload 7) 2 218 := ⟨by decide +kernel, rfl⟩
theorem s2_218 : Nx prog_25_method_1_code 218 (.iload 10) 2 220 := ⟨by decide +kernel, rfl⟩
theorem s2_220 : Nx prog_25_method_1_code 220 (.iconst 1) 1 221 := ⟨by decide +kernel, rfl⟩
theorem s2_221 : Nx prog_25_method_1_code 221 (.iadd) 1 222 := ⟨by decide +kernel, rfl⟩
theorem s2_222 : Nx prog_25_method_1_code 222 (.iload 4) 2 224 := ⟨by decide +kernel, rfl⟩
theorem s2_224 : Nx prog_25_method_1_code 224 (.irem) 1 225 := ⟨by decide +kernel, rfl⟩
theorem s2_225 : Nx prog_25_method_1_code 225 (.iaload) 1 226 := ⟨by decide +kernel, rfl⟩
theorem pd_6 : ∀ sig, parseMethodDescriptor "(II)V" = some sig → 2 = sig.parameters.length := npOf (r := none) (ps := [.int, .int]) (by decide +kernel) rfl
theorem k_23 {Z : State} {a0 : Array Value} (hw : HW1 Z a0) : ML Z a0 KT "com/example/sluice/sluice/algo/SpanningTree" 48 0 y8 prog_25_method_10_code 3 none 2 := ⟨_, _, rfl, (hw _ (List.mem_of_getElem? (i := 66) rfl)), (hw _ (List.mem_of_getElem? (i := 68) rfl)), rfl, (hw _ (List.mem_of_getElem? (i := 67) rfl)), (hw _ (List.mem_of_getElem? (i := 8) rfl)), (hw _ (List.mem_of_getElem? (i := 69) rfl)), ⟨by decide, by decide⟩, pd_6⟩
theorem s2_226 : Nx prog_25_method_1_code 226 (.invokevirtual 48) 3 229 := ⟨by decide +kernel, rfl⟩
theorem s2_229 : Nx prog_25_method_1_code 229 (.iinc 10 1) 3 232 := ⟨by decide +kernel, rfl⟩
theorem s2_232 : Bx prog_25_method_1_code 232 (.goto) 203 235 := ⟨(-29), by decide +kernel, by decide, by decide, rfl⟩
theorem s2_235 : Nx prog_25_method_1_code 235 (.iload 4) 2 237 := ⟨by decide +kernel, rfl⟩
theorem s2_237 : Nx prog_25_method_1_code 237 (.iconst 1) 1 238 := ⟨by decide +kernel, rfl⟩
theorem s2_238 : Nx prog_25_method_1_code 238 (.isub) 1 239 := ⟨by decide +kernel, rfl⟩
theorem s2_239 : Nx prog_25_method_1_code 239 (.istore 10) 2 241 := ⟨by decide +kernel, rfl⟩
theorem s2_241 : Nx prog_25_method_1_code 241 (.iload 10) 2 243 := ⟨by decide +kernel, rfl⟩
theorem s2_243 : Bx prog_25_method_1_code 243 (.ifCond .lt) 298 246 := ⟨(55), by decide +kernel, by decide, by decide, rfl⟩
theorem s2_246 : Nx prog_25_method_1_code 246 (.aload 7) 2 248 := ⟨by decide +kernel, rfl⟩
theorem s2_248 : Nx prog_25_method_1_code 248 (.iload 10) 2 250 := ⟨by decide +kernel, rfl⟩
theorem s2_250 : Nx prog_25_method_1_code 250 (.iaload) 1 251 := ⟨by decide +kernel, rfl⟩
theorem s2_251 : Nx prog_25_method_1_code 251 (.istore 11) 2 253 := ⟨by decide +kernel, rfl⟩
theorem s2_253 : Nx prog_25_method_1_code 253 (.aload_n 0) 1 254 := ⟨by decide +kernel, rfl⟩
theorem k_24 {Z : State} {a0 : Array Value} (hw : HW1 Z a0) : FL Z a0 KT "com/example/sluice/sluice/algo/SpanningTree" 21 0 2 := ⟨_, _, "com/example/sluice/sluice/algo/SpanningTree", "size", "[I", "", rfl, rfl, (Or.inl (hw _ (List.mem_of_getElem? (i := 28) rfl)))⟩
theorem s2_254 : Nx prog_25_method_1_code 254 (.getfield 21) 3 257 := ⟨by decide +kernel, rfl⟩
theorem s2_257 : Nx prog_25_method_1_code 257 (.iload 11) 2 259 := ⟨by decide +kernel, rfl⟩
theorem s2_259 : Nx prog_25_method_1_code 259 (.dup2) 1 260 := ⟨by decide +kernel, rfl⟩
theorem s2_260 : Nx prog_25_method_1_code 260 (.iaload) 1 261 := ⟨by decide +kernel, rfl⟩
theorem s2_261 : Nx prog_25_method_1_code 261 (.iconst 1) 1 262 := ⟨by decide +kernel, rfl⟩
theorem s2_262 : Nx prog_25_method_1_code 262 (.iadd) 1 263 := ⟨by decide +kernel, rfl⟩
theorem s2_263 : Nx prog_25_method_1_code 263 (.iastore) 1 264 := ⟨by decide +kernel, rfl⟩
theorem s2_264 : Nx prog_25_method_1_code 264 (.iload 11) 2 266 := ⟨by decide +kernel, rfl⟩
theorem s2_266 : Nx prog_25_method_1_code 266 (.iload_n 1) 1 267 := ⟨by decide +kernel, rfl⟩
theorem s2_267 : Bx prog_25_method_1_code 267 (.if_icmp .eq) 292 270 := ⟨(25), by decide +kernel, by decide, by decide, rfl⟩
theorem s2_270 : Nx prog_25_method_1_code 270 (.aload_n 0) 1 271 := ⟨by decide +kernel, rfl⟩
theorem s2_271 : Nx prog_25_method_1_code 271 (.getfield 21) 3 274 := ⟨by decide +kernel, rfl⟩
theorem s2_274 : Nx prog_25_method_1_code 274 (.aload_n 0) 1 275 := ⟨by decide +kernel, rfl⟩
theorem s2_275 : Nx prog_25_method_1_code 275 (.getfield 13) 3 278 := ⟨by decide +kernel, rfl⟩
theorem s2_278 : Nx prog_25_method_1_code 278 (.iload 11) 2 280 := ⟨by decide +kernel, rfl⟩
theorem s2_280 : Nx prog_25_method_1_code 280 (.iaload) 1 281 := ⟨by decide +kernel, rfl⟩
theorem s2_281 : Nx prog_25_method_1_code 281 (.dup2) 1 282 := ⟨by decide +kernel, rfl⟩
theorem s2_282 : Nx prog_25_method_1_code 282 (.iaload) 1 283 := ⟨by decide +kernel, rfl⟩
theorem s2_283 : Nx prog_25_method_1_code 283 (.aload_n 0) 1 284 := ⟨by decide +kernel, rfl⟩
theorem s2_284 : Nx prog_25_method_1_code 284 (.getfield 21) 3 287 := ⟨by decide +kernel, rfl⟩
theorem s2_287 : Nx prog_25_method_1_code 287 (.iload 11) 2 289 := ⟨by decide +kernel, rfl⟩
theorem s2_289 : Nx prog_25_method_1_code 289 (.iaload) 1 290 := ⟨by decide +kernel, rfl⟩
theorem s2_290 : Nx prog_25_method_1_code 290 (.iadd) 1 291 := ⟨by decide +kernel, rfl⟩
theorem s2_291 : Nx prog_25_method_1_code 291 (.iastore) 1 292 := ⟨by decide +kernel, rfl⟩
theorem s2_292 : Nx prog_25_method_1_code 292 (.iinc 10 (-1)) 3 295 := ⟨by decide +kernel, rfl⟩
theorem s2_295 : Bx prog_25_method_1_code 295 (.goto) 241 298 := ⟨(-54), by decide +kernel, by decide, by decide, rfl⟩
theorem s2_298 : Nx prog_25_method_1_code 298 (.iconst 0) 1 299 := ⟨by decide +kernel, rfl⟩
theorem s2_299 : Nx prog_25_method_1_code 299 (.istore 10) 2 301 := ⟨by decide +kernel, rfl⟩
theorem s2_301 : Nx prog_25_method_1_code 301 (.iload 10) 2 303 := ⟨by decide +kernel, rfl⟩
theorem s2_303 : Nx prog_25_method_1_code 303 (.iload 4) 2 305 := ⟨by decide +kernel, rfl⟩
theorem s2_305 : Bx prog_25_method_1_code 305 (.if_icmp .ge) 342 308 := ⟨(37), by decide +kernel, by decide, by decide, rfl⟩
theorem s2_308 : Nx prog_25_method_1_code 308 (.aload_n 0) 1 309 := ⟨by decide +kernel, rfl⟩
theorem k_25 {Z : State} {a0 : Array Value} (hw : HW1 Z a0) : FL Z a0 KT "com/example/sluice/sluice/algo/SpanningTree" 30 0 5 := ⟨_, _, "com/example/sluice/sluice/algo/SpanningTree", "last", "[I", "", rfl, rfl, (Or.inl (hw _ (List.mem_of_getElem? (i := 34) rfl)))⟩
theorem s2_309 : Nx prog_25_method_1_code 309 (.getfield 30) 3 312 := ⟨by decide +kernel, rfl⟩
theorem s2_312 : Nx prog_25_method_1_code 312 (.aload 7) 2 314 := ⟨by decide +kernel, rfl⟩
theorem s2_314 : Nx prog_25_method_1_code 314 (.iload 10) 2 316 := ⟨by decide +kernel, rfl⟩
theorem s2_316 : Nx prog_25_method_1_code 316 (.iaload) 1 317 := ⟨by decide +kernel, rfl⟩
theorem s2_317 : Nx prog_25_method_1_code 317 (.aload 7) 2 319 := ⟨by decide +kernel, rfl⟩
theorem s2_319 : Nx prog_25_method_1_code 319 (.iload 10) 2 321 := ⟨by decide +kernel, rfl⟩
theorem s2_321 : Nx prog_25_method_1_code 321 (.aload_n 0) 1 322 := ⟨by decide +kernel, rfl⟩
theorem s2_322 : Nx prog_25_method_1_code 322 (.getfield 21) 3 325 := ⟨by decide +kernel, rfl⟩
theorem s2_325 : Nx prog_25_method_1_code 325 (.aload 7) 2 327 := ⟨by decide +kernel, rfl⟩
theorem s2_327 : Nx prog_25_method_1_code 327 (.iload 10) 2 329 := ⟨by decide +kernel, rfl⟩
theorem s2_329 : Nx prog_25_method_1_code 329 (.iaload) 1 330 := ⟨by decide +kernel, rfl⟩
theorem s2_330 : Nx prog_25_method_1_code 330 (.iaload) 1 331 := ⟨by decide +kernel, rfl⟩
theorem s2_331 : Nx prog_25_method_1_code 331 (.iadd) 1 332 := ⟨by decide +kernel, rfl⟩
theorem s2_332 : Nx prog_25_method_1_code 332 (.iconst 1) 1 333 := ⟨by decide +kernel, rfl⟩
theorem s2_333 : Nx prog_25_method_1_code 333 (.isub) 1 334 := ⟨by decide +kernel, rfl⟩
theorem s2_334 : Nx prog_25_method_1_code 334 (.iaload) 1 335 := ⟨by decide +kernel, rfl⟩
theorem s2_335 : Nx prog_25_method_1_code 335 (.iastore) 1 336 := ⟨by decide +kernel, rfl⟩
theorem s2_336 : Nx prog_25_method_1_code 336 (.iinc 10 1) 3 339 := ⟨by decide +kernel, rfl⟩
theorem s2_339 : Bx prog_25_method_1_code 339 (.goto) 301 342 := ⟨(-38), by decide +kernel, by decide, by decide, rfl⟩
theorem s2_342 : Nx prog_25_method_1_code 342 (.return_) 1 343 := ⟨by decide +kernel, rfl⟩
theorem s4_0 : Nx prog_5_method_1_code 0 (.aload_n 0) 1 1 := ⟨by decide +kernel, rfl⟩
theorem s4_1 : Nx prog_5_method_1_code 1 (.invokespecial 1) 3 4 := ⟨by decide +kernel, rfl⟩
theorem k_26 {Z : State} {a0 : Array Value} (hw : HW1 Z a0) : IL Z a0 "com/example/sluice/sluice/algo/ByVertex" 1 := ⟨(hw _ (List.mem_of_getElem? (i := 42) rfl)), (hw _ (List.mem_of_getElem? (i := 13) rfl)), (hw _ (List.mem_of_getElem? (i := 14) rfl))⟩
theorem s4_4 : Nx prog_5_method_1_code 4 (.aload_n 0) 1 5 := ⟨by decide +kernel, rfl⟩
theorem s4_5 : Nx prog_5_method_1_code 5 (.iload_n 2) 1 6 := ⟨by decide +kernel, rfl⟩
theorem s4_6 : Nx prog_5_method_1_code 6 (.iconst 1) 1 7 := ⟨by decide +kernel, rfl⟩
theorem s4_7 : Nx prog_5_method_1_code 7 (.iadd) 1 8 := ⟨by decide +kernel, rfl⟩
theorem s4_8 : Nx prog_5_method_1_code 8 (.newarray .int) 2 10 := ⟨by decide +kernel, rfl⟩
theorem k_27 {Z : State} {a0 : Array Value} (hw : HW1 Z a0) : PL Z a0 KT "com/example/sluice/sluice/algo/ByVertex" "<init>" 7 1 0 (.array .int) := ⟨_, _, "com/example/sluice/sluice/algo/ByVertex", "start", "[I", "", rfl, rfl, (Or.inl (hw _ (List.mem_of_getElem? (i := 43) rfl))), (Or.inr ⟨(hw _ (List.mem_of_getElem? (i := 44) rfl)), rfl, rfl⟩), by decide +kernel⟩
theorem s4_10 : Nx prog_5_method_1_code 10 (.putfield 7) 3 13 := ⟨by decide +kernel, rfl⟩
theorem s4_13 : Nx prog_5_method_1_code 13 (.aload_n 1) 1 14 := ⟨by decide +kernel, rfl⟩
theorem s4_14 : Nx prog_5_method_1_code 14 (.astore_n 3) 1 15 := ⟨by decide +kernel, rfl⟩
theorem s4_15 : Nx prog_5_method_1_code 15 (.aload_n 3) 1 16 := ⟨by decide +kernel, rfl⟩
theorem s4_16 : Nx prog_5_method_1_code 16 (.arraylength) 1 17 := ⟨by decide +kernel, rfl⟩
theorem s4_17 : Nx prog_5_method_1_code 17 (.istore 4) 2 19 := ⟨by decide +kernel, rfl⟩
theorem s4_19 : Nx prog_5_method_1_code 19 (.iconst 0) 1 20 := ⟨by decide +kernel, rfl⟩
theorem s4_20 : Nx prog_5_method_1_code 20 (.istore 5) 2 22 := ⟨by decide +kernel, rfl⟩
theorem s4_22 : Nx prog_5_method_1_code 22 (.iload 5) 2 24 := ⟨by decide +kernel, rfl⟩
theorem s4_24 : Nx prog_5_method_1_code 24 (.iload 4) 2 26 := ⟨by decide +kernel, rfl⟩
theorem s4_26 : Bx prog_5_method_1_code 26 (.if_icmp .ge) 54 29 := ⟨(28), by decide +kernel, by decide, by decide, rfl⟩
theorem s4_29 : Nx prog_5_method_1_code 29 (.aload_n 3) 1 30 := ⟨by decide +kernel, rfl⟩
theorem s4_30 : Nx prog_5_method_1_code 30 (.iload 5) 2 32 := ⟨by decide +kernel, rfl⟩
theorem s4_32 : Nx prog_5_method_1_code 32 (.iaload) 1 33 := ⟨by decide +kernel, rfl⟩
theorem s4_33 : Nx prog_5_method_1_code 33 (.istore 6) 2 35 := ⟨by decide +kernel, rfl⟩
theorem s4_35 : Nx prog_5_method_1_code 35 (.aload_n 0) 1 36 := ⟨by decide +kernel, rfl⟩
theorem k_28 {Z : State} {a0 : Array Value} (hw : HW1 Z a0) : FL Z a0 KT "com/example/sluice/sluice/algo/ByVertex" 7 1 0 := ⟨_, _, "com/example/sluice/sluice/algo/ByVertex", "start", "[I", "", rfl, rfl, (Or.inl (hw _ (List.mem_of_getElem? (i := 43) rfl)))⟩
theorem s4_36 : Nx prog_5_method_1_code 36 (.getfield 7) 3 39 := ⟨by decide +kernel, rfl⟩
theorem s4_39 : Nx prog_5_method_1_code 39 (.iload 6) 2 41 := ⟨by decide +kernel, rfl⟩
theorem s4_41 : Nx prog_5_method_1_code 41 (.iconst 1) 1 42 := ⟨by decide +kernel, rfl⟩
theorem s4_42 : Nx prog_5_method_1_code 42 (.iadd) 1 43 := ⟨by decide +kernel, rfl⟩
theorem s4_43 : Nx prog_5_method_1_code 43 (.dup2) 1 44 := ⟨by decide +kernel, rfl⟩
theorem s4_44 : Nx prog_5_method_1_code 44 (.iaload) 1 45 := ⟨by decide +kernel, rfl⟩
theorem s4_45 : Nx prog_5_method_1_code 45 (.iconst 1) 1 46 := ⟨by decide +kernel, rfl⟩
theorem s4_46 : Nx prog_5_method_1_code 46 (.iadd) 1 47 := ⟨by decide +kernel, rfl⟩
theorem s4_47 : Nx prog_5_method_1_code 47 (.iastore) 1 48 := ⟨by decide +kernel, rfl⟩
theorem s4_48 : Nx prog_5_method_1_code 48 (.iinc 5 1) 3 51 := ⟨by decide +kernel, rfl⟩
theorem s4_51 : Bx prog_5_method_1_code 51 (.goto) 22 54 := ⟨(-29), by decide +kernel, by decide, by decide, rfl⟩
theorem s4_54 : Nx prog_5_method_1_code 54 (.iconst 0) 1 55 := ⟨by decide +kernel, rfl⟩
theorem s4_55 : Nx prog_5_method_1_code 55 (.istore_n 3) 1 56 := ⟨by decide +kernel, rfl⟩
theorem s4_56 : Nx prog_5_method_1_code 56 (.iload_n 3) 1 57 := ⟨by decide +kernel, rfl⟩
theorem s4_57 : Nx prog_5_method_1_code 57 (.iload_n 2) 1 58 := ⟨by decide +kernel, rfl⟩
theorem s4_58 : Bx prog_5_method_1_code 58 (.if_icmp .ge) 84 61 := ⟨(26), by decide +kernel, by decide, by decide, rfl⟩
theorem s4_61 : Nx prog_5_method_1_code 61 (.aload_n 0) 1 62 := ⟨by decide +kernel, rfl⟩
theorem s4_62 : Nx prog_5_method_1_code 62 (.getfield 7) 3 65 := ⟨by decide +kernel, rfl⟩
theorem s4_65 : Nx prog_5_method_1_code 65 (.iload_n 3) 1 66 := ⟨by decide +kernel, rfl⟩
theorem s4_66 : Nx prog_5_method_1_code 66 (.iconst 1) 1 67 := ⟨by decide +kernel, rfl⟩
theorem s4_67 : Nx prog_5_method_1_code 67 (.iadd) 1 68 := ⟨by decide +kernel, rfl⟩
theorem s4_68 : Nx prog_5_method_1_code 68 (.dup2) 1 69 := ⟨by decide +kernel, rfl⟩
theorem s4_69 : Nx prog_5_method_1_code 69 (.iaload) 1 70 := ⟨by decide +kernel, rfl⟩
theorem s4_70 : Nx prog_5_method_1_code 70 (.aload_n 0) 1 71 := ⟨by decide +kernel, rfl⟩
theorem s4_71 : Nx prog_5_method_1_code 71 (.getfield 7) 3 74 := ⟨by decide +kernel, rfl⟩
theorem s4_74 : Nx prog_5_method_1_code 74 (.iload_n 3) 1 75 := ⟨by decide +kernel, rfl⟩
theorem s4_75 : Nx prog_5_method_1_code 75 (.iaload) 1 76 := ⟨by decide +kernel, rfl⟩
theorem s4_76 : Nx prog_5_method_1_code 76 (.iadd) 1 77 := ⟨by decide +kernel, rfl⟩
theorem s4_77 : Nx prog_5_method_1_code 77 (.iastore) 1 78 := ⟨by decide +kernel, rfl⟩
theorem s4_78 : Nx prog_5_method_1_code 78 (.iinc 3 1) 3 81 := ⟨by decide +kernel, rfl⟩
theorem s4_81 : Bx prog_5_method_1_code 81 (.goto) 56 84 := ⟨(-25), by decide +kernel, by decide, by decide, rfl⟩
theorem s4_84 : Nx prog_5_method_1_code 84 (.aload_n 0) 1 85 := ⟨by decide +kernel, rfl⟩
theorem s4_85 : Nx prog_5_method_1_code 85 (.aload_n 1) 1 86 := ⟨by decide +kernel, rfl⟩
theorem s4_86 : Nx prog_5_method_1_code 86 (.arraylength) 1 87 := ⟨by decide +kernel, rfl⟩
theorem s4_87 : Nx prog_5_method_1_code 87 (.newarray .int) 2 89 := ⟨by decide +kernel, rfl⟩
theorem k_29 {Z : State} {a0 : Array Value} (hw : HW1 Z a0) : PL Z a0 KT "com/example/sluice/sluice/algo/ByVertex" "<init>" 13 1 1 (.array .int) := ⟨_, _, "com/example/sluice/sluice/algo/ByVertex", "items", "[I", "", rfl, rfl, (Or.inl (hw _ (List.mem_of_getElem? (i := 45) rfl))), (Or.inr ⟨(hw _ (List.mem_of_getElem? (i := 46) rfl)), rfl, rfl⟩), by decide +kernel⟩
theorem s4_89 : Nx prog_5_method_1_code 89 (.putfield 13) 3 92 := ⟨by decide +kernel, rfl⟩
theorem s4_92 : Nx prog_5_method_1_code 92 (.iload_n 2) 1 93 := ⟨by decide +kernel, rfl⟩
theorem s4_93 : Nx prog_5_method_1_code 93 (.newarray .int) 2 95 := ⟨by decide +kernel, rfl⟩
theorem s4_95 : Nx prog_5_method_1_code 95 (.astore_n 3) 1 96 := ⟨by decide +kernel, rfl⟩
theorem s4_96 : Nx prog_5_method_1_code 96 (.aload_n 0) 1 97 := ⟨by decide +kernel, rfl⟩
theorem s4_97 : Nx prog_5_method_1_code 97 (.getfield 7) 3 100 := ⟨by decide +kernel, rfl⟩
theorem s4_100 : Nx prog_5_method_1_code 100 (.iconst 0) 1 101 := ⟨by decide +kernel, rfl⟩
theorem s4_101 : Nx prog_5_method_1_code 101 (.aload_n 3) 1 102 := ⟨by decide +kernel, rfl⟩
theorem s4_102 : Nx prog_5_method_1_code 102 (.iconst 0) 1 103 := ⟨by decide +kernel, rfl⟩
theorem s4_103 : Nx prog_5_method_1_code 103 (.iload_n 2) 1 104 := ⟨by decide +kernel, rfl⟩
theorem k_30 {Z : State} {a0 : Array Value} (hw : HW1 Z a0) : XL Z a0 "com/example/sluice/sluice/algo/ByVertex" 16 := ⟨(hw _ (List.mem_of_getElem? (i := 47) rfl)), (hw _ (List.mem_of_getElem? (i := 50) rfl)), (hw _ (List.mem_of_getElem? (i := 48) rfl)), (hw _ (List.mem_of_getElem? (i := 49) rfl))⟩
theorem s4_104 : Nx prog_5_method_1_code 104 (.invokestatic 16) 3 107 := ⟨by decide +kernel, rfl⟩
theorem s4_107 : Nx prog_5_method_1_code 107 (.iconst 0) 1 108 := ⟨by decide +kernel, rfl⟩
theorem s4_108 : Nx prog_5_method_1_code 108 (.istore 4) 2 110 := ⟨by decide +kernel, rfl⟩
theorem s4_110 : Nx prog_5_method_1_code 110 (.iload 4) 2 112 := ⟨by decide +kernel, rfl⟩
theorem s4_112 : Nx prog_5_method_1_code 112 (.aload_n 1) 1 113 := ⟨by decide +kernel, rfl⟩
theorem s4_113 : Nx prog_5_method_1_code 113 (.arraylength) 1 114 := ⟨by decide +kernel, rfl⟩
theorem s4_114 : Bx prog_5_method_1_code 114 (.if_icmp .ge) 141 117 := ⟨(27), by decide +kernel, by decide, by decide, rfl⟩
theorem s4_117 : Nx prog_5_method_1_code 117 (.aload_n 0) 1 118 := ⟨by decide +kernel, rfl⟩
theorem k_31 {Z : State} {a0 : Array Value} (hw : HW1 Z a0) : FL Z a0 KT "com/example/sluice/sluice/algo/ByVertex" 13 1 1 := ⟨_, _, "com/example/sluice/sluice/algo/ByVertex", "items", "[I", "", rfl, rfl, (Or.inl (hw _ (List.mem_of_getElem? (i := 45) rfl)))⟩
theorem s4_118 : Nx prog_5_method_1_code 118 (.getfield 13) 3 121 := ⟨by decide +kernel, rfl⟩
theorem s4_121 : Nx prog_5_method_1_code 121 (.aload_n 3) 1 122 := ⟨by decide +kernel, rfl⟩
theorem s4_122 : Nx prog_5_method_1_code 122 (.aload_n 1) 1 123 := ⟨by decide +kernel, rfl⟩
theorem s4_123 : Nx prog_5_method_1_code 123 (.iload 4) 2 125 := ⟨by decide +kernel, rfl⟩
theorem s4_125 : Nx prog_5_method_1_code 125 (.iaload) 1 126 := ⟨by decide +kernel, rfl⟩
theorem s4_126 : Nx prog_5_method_1_code 126 (.dup2) 1 127 := ⟨by decide +kernel, rfl⟩
theorem s4_127 : Nx prog_5_method_1_code 127 (.iaload) 1 128 := ⟨by decide +kernel, rfl⟩
theorem s4_128 : Nx prog_5_method_1_code 128 (.dup_x2) 1 129 := ⟨by decide +kernel, rfl⟩
theorem s4_129 : Nx prog_5_method_1_code 129 (.iconst 1) 1 130 := ⟨by decide +kernel, rfl⟩
theorem s4_130 : Nx prog_5_method_1_code 130 (.iadd) 1 131 := ⟨by decide +kernel, rfl⟩
theorem s4_131 : Nx prog_5_method_1_code 131 (.iastore) 1 132 := ⟨by decide +kernel, rfl⟩
theorem s4_132 : Nx prog_5_method_1_code 132 (.iload 4) 2 134 := ⟨by decide +kernel, rfl⟩
theorem s4_134 : Nx prog_5_method_1_code 134 (.iastore) 1 135 := ⟨by decide +kernel, rfl⟩
theorem s4_135 : Nx prog_5_method_1_code 135 (.iinc 4 1) 3 138 := ⟨by decide +kernel, rfl⟩
theorem s4_138 : Bx prog_5_method_1_code 138 (.goto) 110 141 := ⟨(-28), by decide +kernel, by decide, by decide, rfl⟩
theorem s4_141 : Nx prog_5_method_1_code 141 (.return_) 1 142 := ⟨by decide +kernel, rfl⟩
theorem s5_0 : Nx prog_5_method_3_code 0 (.aload_n 0) 1 1 := ⟨by decide +kernel, rfl⟩
theorem s5_1 : Nx prog_5_method_3_code 1 (.getfield 7) 3 4 := ⟨by decide +kernel, rfl⟩
theorem s5_4 : Nx prog_5_method_3_code 4 (.iload_n 1) 1 5 := ⟨by decide +kernel, rfl⟩
theorem s5_5 : Nx prog_5_method_3_code 5 (.iconst 1) 1 6 := ⟨by decide +kernel, rfl⟩
theorem s5_6 : Nx prog_5_method_3_code 6 (.iadd) 1 7 := ⟨by decide +kernel, rfl⟩
theorem s5_7 : Nx prog_5_method_3_code 7 (.iaload) 1 8 := ⟨by decide +kernel, rfl⟩
theorem s5_8 : Nx prog_5_method_3_code 8 (.ireturn) 1 9 := ⟨by decide +kernel, rfl⟩
theorem s6_0 : Nx prog_5_method_2_code 0 (.aload_n 0) 1 1 := ⟨by decide +kernel, rfl⟩
theorem s6_1 : Nx prog_5_method_2_code 1 (.getfield 7) 3 4 := ⟨by decide +kernel, rfl⟩
theorem s6_4 : Nx prog_5_method_2_code 4 (.iload_n 1) 1 5 := ⟨by decide +kernel, rfl⟩
theorem s6_5 : Nx prog_5_method_2_code 5 (.iaload) 1 6 := ⟨by decide +kernel, rfl⟩
theorem s6_6 : Nx prog_5_method_2_code 6 (.ireturn) 1 7 := ⟨by decide +kernel, rfl⟩
theorem s7_0 : Nx prog_5_method_4_code 0 (.aload_n 0) 1 1 := ⟨by decide +kernel, rfl⟩
theorem s7_1 : Nx prog_5_method_4_code 1 (.getfield 13) 3 4 := ⟨by decide +kernel, rfl⟩
theorem s7_4 : Nx prog_5_method_4_code 4 (.iload_n 1) 1 5 := ⟨by decide +kernel, rfl⟩
theorem s7_5 : Nx prog_5_method_4_code 5 (.iaload) 1 6 := ⟨by decide +kernel, rfl⟩
theorem s7_6 : Nx prog_5_method_4_code 6 (.ireturn) 1 7 := ⟨by decide +kernel, rfl⟩
theorem s8_0 : Nx prog_25_method_10_code 0 (.aload_n 0) 1 1 := ⟨by decide +kernel, rfl⟩
theorem k_32 {Z : State} {a0 : Array Value} (hw : HW1 Z a0) : FL Z a0 KT "com/example/sluice/sluice/algo/SpanningTree" 24 0 3 := ⟨_, _, "com/example/sluice/sluice/algo/SpanningTree", "following", "[I", "", rfl, rfl, (Or.inl (hw _ (List.mem_of_getElem? (i := 30) rfl)))⟩
theorem s8_1 : Nx prog_25_method_10_code 1 (.getfield 24) 3 4 := ⟨by decide +kernel, rfl⟩
theorem s8_4 : Nx prog_25_method_10_code 4 (.iload_n 1) 1 5 := ⟨by decide +kernel, rfl⟩
theorem s8_5 : Nx prog_25_method_10_code 5 (.iload_n 2) 1 6 := ⟨by decide +kernel, rfl⟩
theorem s8_6 : Nx prog_25_method_10_code 6 (.iastore) 1 7 := ⟨by decide +kernel, rfl⟩
theorem s8_7 : Nx prog_25_method_10_code 7 (.aload_n 0) 1 8 := ⟨by decide +kernel, rfl⟩
theorem k_33 {Z : State} {a0 : Array Value} (hw : HW1 Z a0) : FL Z a0 KT "com/example/sluice/sluice/algo/SpanningTree" 27 0 4 := ⟨_, _, "com/example/sluice/sluice/algo/SpanningTree", "preceding", "[I", "", rfl, rfl, (Or.inl (hw _ (List.mem_of_getElem? (i := 32) rfl)))⟩
theorem s8_8 : Nx prog_25_method_10_code 8 (.getfield 27) 3 11 := ⟨by decide +kernel, rfl⟩
theorem s8_11 : Nx prog_25_method_10_code 11 (.iload_n 2) 1 12 := ⟨by decide +kernel, rfl⟩
theorem s8_12 : Nx prog_25_method_10_code 12 (.iload_n 1) 1 13 := ⟨by decide +kernel, rfl⟩
theorem s8_13 : Nx prog_25_method_10_code 13 (.iastore) 1 14 := ⟨by decide +kernel, rfl⟩
theorem s8_14 : Nx prog_25_method_10_code 14 (.return_) 1 15 := ⟨by decide +kernel, rfl⟩
theorem s9_0 : Nx prog_25_method_5_code 0 (.iload_n 1) 1 1 := ⟨by decide +kernel, rfl⟩
theorem s9_1 : Nx prog_25_method_5_code 1 (.iload_n 2) 1 2 := ⟨by decide +kernel, rfl⟩
theorem s9_2 : Bx prog_25_method_5_code 2 (.if_icmp .eq) 40 5 := ⟨(38), by decide +kernel, by decide, by decide, rfl⟩
theorem s9_5 : Nx prog_25_method_5_code 5 (.aload_n 0) 1 6 := ⟨by decide +kernel, rfl⟩
theorem s9_6 : Nx prog_25_method_5_code 6 (.getfield 21) 3 9 := ⟨by decide +kernel, rfl⟩
theorem s9_9 : Nx prog_25_method_5_code 9 (.iload_n 1) 1 10 := ⟨by decide +kernel, rfl⟩
theorem s9_10 : Nx prog_25_method_5_code 10 (.iaload) 1 11 := ⟨by decide +kernel, rfl⟩
theorem s9_11 : Nx prog_25_method_5_code 11 (.aload_n 0) 1 12 := ⟨by decide +kernel, rfl⟩
theorem s9_12 : Nx prog_25_method_5_code 12 (.getfield 21) 3 15 := ⟨by decide +kernel, rfl⟩
theorem s9_15 : Nx prog_25_method_5_code 15 (.iload_n 2) 1 16 := ⟨by decide +kernel, rfl⟩
theorem s9_16 : Nx prog_25_method_5_code 16 (.iaload) 1 17 := ⟨by decide +kernel, rfl⟩
theorem s9_17 : Bx prog_25_method_5_code 17 (.if_icmp .ge) 30 20 := ⟨(13), by decide +kernel, by decide, by decide, rfl⟩
theorem s9_20 : Nx prog_25_method_5_code 20 (.aload_n 0) 1 21 := ⟨by decide +kernel, rfl⟩
theorem s9_21 : Nx prog_25_method_5_code 21 (.getfield 13) 3 24 := ⟨by decide +kernel, rfl⟩
theorem s9_24 : Nx prog_25_method_5_code 24 (.iload_n 1) 1 25 := ⟨by decide +kernel, rfl⟩
theorem s9_25 : Nx prog_25_method_5_code 25 (.iaload) 1 26 := ⟨by decide +kernel, rfl⟩
theorem s9_26 : Nx prog_25_method_5_code 26 (.istore_n 1) 1 27 := ⟨by decide +kernel, rfl⟩
theorem s9_27 : Bx prog_25_method_5_code 27 (.goto) 0 30 := ⟨(-27), by decide +kernel, by decide, by decide, rfl⟩
theorem s9_30 : Nx prog_25_method_5_code 30 (.aload_n 0) 1 31 := ⟨by decide +kernel, rfl⟩
theorem s9_31 : Nx prog_25_method_5_code 31 (.getfield 13) 3 34 := ⟨by decide +kernel, rfl⟩
theorem s9_34 : Nx prog_25_method_5_code 34 (.iload_n 2) 1 35 := ⟨by decide +kernel, rfl⟩
theorem s9_35 : Nx prog_25_method_5_code 35 (.iaload) 1 36 := ⟨by decide +kernel, rfl⟩
theorem s9_36 : Nx prog_25_method_5_code 36 (.istore_n 2) 1 37 := ⟨by decide +kernel, rfl⟩
theorem s9_37 : Bx prog_25_method_5_code 37 (.goto) 0 40 := ⟨(-37), by decide +kernel, by decide, by decide, rfl⟩
theorem s9_40 : Nx prog_25_method_5_code 40 (.iload_n 1) 1 41 := ⟨by decide +kernel, rfl⟩
theorem s9_41 : Nx prog_25_method_5_code 41 (.ireturn) 1 42 := ⟨by decide +kernel, rfl⟩
theorem s10_0 : Nx method_5_code 0 (.aload_n 0) 1 1 := ⟨by decide +kernel, rfl⟩
theorem s10_1 : Nx method_5_code 1 (.iload_n 1) 1 2 := ⟨by decide +kernel, rfl⟩
theorem s10_2 : Nx method_5_code 2 (.iload_n 2) 1 3 := ⟨by decide +kernel, rfl⟩
theorem pd_7 : ∀ sig, parseMethodDescriptor "([III)Z" = some sig → 3 = sig.parameters.length := npOf (r := some .boolean) (ps := [(.array .int), .int, .int]) (by decide +kernel) rfl
theorem k_34 {Z : State} {a0 : Array Value} (hw : HW1 Z a0) : SL Z a0 "com/example/sluice/sluice/algo/SpanningTreeJoinPinLaw" 13 y11 method_4_code 7 (some .boolean) 3 := ⟨(hw _ (List.mem_of_getElem? (i := 78) rfl)), (hw _ (List.mem_of_getElem? (i := 79) rfl)), (hw _ (List.mem_of_getElem? (i := 3) rfl)), (hw _ (List.mem_of_getElem? (i := 80) rfl)), ⟨by decide, by decide⟩, pd_7⟩
theorem s10_3 : Nx method_5_code 3 (.invokestatic 13) 3 6 := ⟨by decide +kernel, rfl⟩
theorem s10_6 : Bx method_5_code 6 (.ifCond .eq) 11 9 := ⟨(5), by decide +kernel, by decide, by decide, rfl⟩
theorem s10_9 : Nx method_5_code 9 (.iload_n 1) 1 10 := ⟨by decide +kernel, rfl⟩
theorem s10_10 : Nx method_5_code 10 (.ireturn) 1 11 := ⟨by decide +kernel, rfl⟩
theorem s10_11 : Nx method_5_code 11 (.aload_n 0) 1 12 := ⟨by decide +kernel, rfl⟩
theorem s10_12 : Nx method_5_code 12 (.iload_n 1) 1 13 := ⟨by decide +kernel, rfl⟩
theorem pd_8 : ∀ sig, parseMethodDescriptor "([II)I" = some sig → 2 = sig.parameters.length := npOf (r := some .int) (ps := [(.array .int), .int]) (by decide +kernel) rfl
theorem k_35 {Z : State} {a0 : Array Value} (hw : HW1 Z a0) : SL Z a0 "com/example/sluice/sluice/algo/SpanningTreeJoinPinLaw" 7 y12 method_3_code 2 (some .int) 2 := ⟨(hw _ (List.mem_of_getElem? (i := 81) rfl)), (hw _ (List.mem_of_getElem? (i := 82) rfl)), (hw _ (List.mem_of_getElem? (i := 3) rfl)), (hw _ (List.mem_of_getElem? (i := 83) rfl)), ⟨by decide, by decide⟩, pd_8⟩
theorem s10_13 : Nx method_5_code 13 (.invokestatic 7) 3 16 := ⟨by decide +kernel, rfl⟩
theorem s10_16 : Nx method_5_code 16 (.istore_n 3) 1 17 := ⟨by decide +kernel, rfl⟩
theorem s10_17 : Nx method_5_code 17 (.iload_n 3) 1 18 := ⟨by decide +kernel, rfl⟩
theorem s10_18 : Bx method_5_code 18 (.ifCond .lt) 32 21 := ⟨(14), by decide +kernel, by decide, by decide, rfl⟩
theorem s10_21 : Nx method_5_code 21 (.aload_n 0) 1 22 := ⟨by decide +kernel, rfl⟩
theorem s10_22 : Nx method_5_code 22 (.iload_n 3) 1 23 := ⟨by decide +kernel, rfl⟩
theorem s10_23 : Nx method_5_code 23 (.iload_n 2) 1 24 := ⟨by decide +kernel, rfl⟩
theorem s10_24 : Nx method_5_code 24 (.invokestatic 13) 3 27 := ⟨by decide +kernel, rfl⟩
theorem s10_27 : Bx method_5_code 27 (.ifCond .eq) 32 30 := ⟨(5), by decide +kernel, by decide, by decide, rfl⟩
theorem s10_30 : Nx method_5_code 30 (.iload_n 3) 1 31 := ⟨by decide +kernel, rfl⟩
theorem s10_31 : Nx method_5_code 31 (.ireturn) 1 32 := ⟨by decide +kernel, rfl⟩
theorem s10_32 : Nx method_5_code 32 (.aload_n 0) 1 33 := ⟨by decide +kernel, rfl⟩
theorem s10_33 : Nx method_5_code 33 (.iload_n 3) 1 34 := ⟨by decide +kernel, rfl⟩
theorem s10_34 : Nx method_5_code 34 (.invokestatic 7) 3 37 := ⟨by decide +kernel, rfl⟩
theorem s10_37 : Nx method_5_code 37 (.istore 4) 2 39 := ⟨by decide +kernel, rfl⟩
theorem s10_39 : Nx method_5_code 39 (.iload 4) 2 41 := ⟨by decide +kernel, rfl⟩
theorem s10_41 : Bx method_5_code 41 (.ifCond .lt) 57 44 := ⟨(16), by decide +kernel, by decide, by decide, rfl⟩
theorem s10_44 : Nx method_5_code 44 (.aload_n 0) 1 45 := ⟨by decide +kernel, rfl⟩
theorem s10_45 : Nx method_5_code 45 (.iload 4) 2 47 := ⟨by decide +kernel, rfl⟩
theorem s10_47 : Nx method_5_code 47 (.iload_n 2) 1 48 := ⟨by decide +kernel, rfl⟩
theorem s10_48 : Nx method_5_code 48 (.invokestatic 13) 3 51 := ⟨by decide +kernel, rfl⟩
theorem s10_51 : Bx method_5_code 51 (.ifCond .eq) 57 54 := ⟨(6), by decide +kernel, by decide, by decide, rfl⟩
theorem s10_54 : Nx method_5_code 54 (.iload 4) 2 56 := ⟨by decide +kernel, rfl⟩
theorem s10_56 : Nx method_5_code 56 (.ireturn) 1 57 := ⟨by decide +kernel, rfl⟩
theorem s10_57 : Nx method_5_code 57 (.aload_n 0) 1 58 := ⟨by decide +kernel, rfl⟩
theorem s10_58 : Nx method_5_code 58 (.iload 4) 2 60 := ⟨by decide +kernel, rfl⟩
theorem s10_60 : Nx method_5_code 60 (.invokestatic 7) 3 63 := ⟨by decide +kernel, rfl⟩
theorem s10_63 : Nx method_5_code 63 (.istore 5) 2 65 := ⟨by decide +kernel, rfl⟩
theorem s10_65 : Nx method_5_code 65 (.iload 5) 2 67 := ⟨by decide +kernel, rfl⟩
theorem s10_67 : Bx method_5_code 67 (.ifCond .lt) 83 70 := ⟨(16), by decide +kernel, by decide, by decide, rfl⟩
theorem s10_70 : Nx method_5_code 70 (.aload_n 0) 1 71 := ⟨by decide +kernel, rfl⟩
theorem s10_71 : Nx method_5_code 71 (.iload 5) 2 73 := ⟨by decide +kernel, rfl⟩
theorem s10_73 : Nx method_5_code 73 (.iload_n 2) 1 74 := ⟨by decide +kernel, rfl⟩
theorem s10_74 : Nx method_5_code 74 (.invokestatic 13) 3 77 := ⟨by decide +kernel, rfl⟩
theorem s10_77 : Bx method_5_code 77 (.ifCond .eq) 83 80 := ⟨(6), by decide +kernel, by decide, by decide, rfl⟩
theorem s10_80 : Nx method_5_code 80 (.iload 5) 2 82 := ⟨by decide +kernel, rfl⟩
theorem s10_82 : Nx method_5_code 82 (.ireturn) 1 83 := ⟨by decide +kernel, rfl⟩
theorem s10_83 : Nx method_5_code 83 (.iconst 0) 1 84 := ⟨by decide +kernel, rfl⟩
theorem s10_84 : Nx method_5_code 84 (.ireturn) 1 85 := ⟨by decide +kernel, rfl⟩
theorem s11_0 : Nx method_4_code 0 (.aload_n 0) 1 1 := ⟨by decide +kernel, rfl⟩
theorem s11_1 : Nx method_4_code 1 (.iload_n 2) 1 2 := ⟨by decide +kernel, rfl⟩
theorem s11_2 : Nx method_4_code 2 (.invokestatic 7) 3 5 := ⟨by decide +kernel, rfl⟩
theorem s11_5 : Nx method_4_code 5 (.istore_n 3) 1 6 := ⟨by decide +kernel, rfl⟩
theorem s11_6 : Nx method_4_code 6 (.aload_n 0) 1 7 := ⟨by decide +kernel, rfl⟩
theorem s11_7 : Nx method_4_code 7 (.iload_n 3) 1 8 := ⟨by decide +kernel, rfl⟩
theorem s11_8 : Nx method_4_code 8 (.invokestatic 7) 3 11 := ⟨by decide +kernel, rfl⟩
theorem s11_11 : Nx method_4_code 11 (.istore 4) 2 13 := ⟨by decide +kernel, rfl⟩
theorem s11_13 : Nx method_4_code 13 (.aload_n 0) 1 14 := ⟨by decide +kernel, rfl⟩
theorem s11_14 : Nx method_4_code 14 (.iload 4) 2 16 := ⟨by decide +kernel, rfl⟩
theorem s11_16 : Nx method_4_code 16 (.invokestatic 7) 3 19 := ⟨by decide +kernel, rfl⟩
theorem s11_19 : Nx method_4_code 19 (.istore 5) 2 21 := ⟨by decide +kernel, rfl⟩
theorem s11_21 : Nx method_4_code 21 (.aload_n 0) 1 22 := ⟨by decide +kernel, rfl⟩
theorem s11_22 : Nx method_4_code 22 (.iload 5) 2 24 := ⟨by decide +kernel, rfl⟩
theorem s11_24 : Nx method_4_code 24 (.invokestatic 7) 3 27 := ⟨by decide +kernel, rfl⟩
theorem s11_27 : Nx method_4_code 27 (.istore 6) 2 29 := ⟨by decide +kernel, rfl⟩
theorem s11_29 : Nx method_4_code 29 (.iload_n 1) 1 30 := ⟨by decide +kernel, rfl⟩
theorem s11_30 : Nx method_4_code 30 (.iload_n 2) 1 31 := ⟨by decide +kernel, rfl⟩
theorem s11_31 : Bx method_4_code 31 (.if_icmp .eq) 57 34 := ⟨(26), by decide +kernel, by decide, by decide, rfl⟩
theorem s11_34 : Nx method_4_code 34 (.iload_n 1) 1 35 := ⟨by decide +kernel, rfl⟩
theorem s11_35 : Nx method_4_code 35 (.iload_n 3) 1 36 := ⟨by decide +kernel, rfl⟩
theorem s11_36 : Bx method_4_code 36 (.if_icmp .eq) 57 39 := ⟨(21), by decide +kernel, by decide, by decide, rfl⟩
theorem s11_39 : Nx method_4_code 39 (.iload_n 1) 1 40 := ⟨by decide +kernel, rfl⟩
theorem s11_40 : Nx method_4_code 40 (.iload 4) 2 42 := ⟨by decide +kernel, rfl⟩
theorem s11_42 : Bx method_4_code 42 (.if_icmp .eq) 57 45 := ⟨(15), by decide +kernel, by decide, by decide, rfl⟩
theorem s11_45 : Nx method_4_code 45 (.iload_n 1) 1 46 := ⟨by decide +kernel, rfl⟩
theorem s11_46 : Nx method_4_code 46 (.iload 5) 2 48 := ⟨by decide +kernel, rfl⟩
theorem s11_48 : Bx method_4_code 48 (.if_icmp .eq) 57 51 := ⟨(9), by decide +kernel, by decide, by decide, rfl⟩
theorem s11_51 : Nx method_4_code 51 (.iload_n 1) 1 52 := ⟨by decide +kernel, rfl⟩
theorem s11_52 : Nx method_4_code 52 (.iload 6) 2 54 := ⟨by decide +kernel, rfl⟩
theorem s11_54 : Bx method_4_code 54 (.if_icmp .ne) 61 57 := ⟨(7), by decide +kernel, by decide, by decide, rfl⟩
theorem s11_57 : Nx method_4_code 57 (.iconst 1) 1 58 := ⟨by decide +kernel, rfl⟩
theorem s11_58 : Bx method_4_code 58 (.goto) 62 61 := ⟨(4), by decide +kernel, by decide, by decide, rfl⟩
theorem s11_61 : Nx method_4_code 61 (.iconst 0) 1 62 := ⟨by decide +kernel, rfl⟩
theorem s11_62 : Nx method_4_code 62 (.ireturn) 1 63 := ⟨by decide +kernel, rfl⟩
theorem s12_0 : Nx method_3_code 0 (.iload_n 1) 1 1 := ⟨by decide +kernel, rfl⟩
theorem s12_1 : Bx method_3_code 1 (.ifCond .ge) 8 4 := ⟨(7), by decide +kernel, by decide, by decide, rfl⟩
theorem s12_4 : Nx method_3_code 4 (.iconst (-1)) 1 5 := ⟨by decide +kernel, rfl⟩
theorem s12_5 : Bx method_3_code 5 (.goto) 11 8 := ⟨(6), by decide +kernel, by decide, by decide, rfl⟩
theorem s12_8 : Nx method_3_code 8 (.aload_n 0) 1 9 := ⟨by decide +kernel, rfl⟩
theorem s12_9 : Nx method_3_code 9 (.iload_n 1) 1 10 := ⟨by decide +kernel, rfl⟩
theorem s12_10 : Nx method_3_code 10 (.iaload) 1 11 := ⟨by decide +kernel, rfl⟩
theorem s12_11 : Nx method_3_code 11 (.ireturn) 1 12 := ⟨by decide +kernel, rfl⟩
def tq0 : Nat → Option ME := (nd 177 (nd 87 (nd 52 (nd 8 (nd 0 (lf 0 (.inl (xSeq 1 (xIload 0 1) (xPush (1) 2))))
  (nd 3 (lf 3 (.inl (xSeq 5 (xIstore 4 5) (xSeq 6 (xIload 0 6) (xPush (1) 7)))))
  (lf 8 (.inl (xPush (3) 9)))))
  (nd 17 (nd 10 (lf 10 (.inl (xSeq 11 (xPush (3) 11) (xSeq 12 (xRem 12) (xSeq 14 (xIstore 5 14) (xSeq 15 (xIload 0 15) (xPush (3) 16)))))))
  (lf 17 (.inl (xPush (3) 18))))
  (nd 19 (lf 19 (.inl (xSeq 21 (xIstore 6 21) (xSeq 22 (xPush (5) 22) (xSeq 24 (xNewA 24) (xSeq 25 (xDup 25) (xSeq 26 (xPush (0) 26) (xSeq 27 (xPush (-1) 27) (xSeq 28 (xIastore 28) (xSeq 29 (xDup 29) (xSeq 30 (xPush (1) 30) (xSeq 31 (xPush (0) 31) (xSeq 32 (xIastore 32) (xSeq 33 (xDup 33) (xSeq 34 (xPush (2) 34) (xSeq 36 (xIload 4 36) (xSeq 37 (xIastore 37) (xSeq 38 (xDup 38) (xSeq 39 (xPush (3) 39) (xSeq 41 (xIload 5 41) (xSeq 42 (xIastore 42) (xSeq 43 (xDup 43) (xSeq 44 (xPush (4) 44) (xSeq 46 (xIload 6 46) (xSeq 47 (xIastore 47) (xSeq 49 (xAstore 7 49) (xSeq 50 (xIload 1 50) (xPush (1) 51))))))))))))))))))))))))))))
  (lf 52 (.inl (xIf .eq 59 55))))))
  (nd 60 (nd 55 (lf 55 (.inl (xSeq 56 (xPush (1) 56) (xGoto 60))))
  (nd 59 (lf 59 (.inl (xPush (0) 60)))
  (lf 60 (.inl (xSeq 62 (xIstore 8 62) (xSeq 63 (xIload 1 63) (xPush (1) 64)))))))
  (nd 69 (nd 65 (lf 65 (.inl (xSeq 66 (xPush (5) 66) (xSeq 67 (xRem 67) (xIstore 9 69)))))
  (lf 69 (.inl (xSeq 70 (xPush (5) 70) (xSeq 72 (xNewA 72) (xSeq 74 (xAstore 10 74) (xSeq 75 (xPush (5) 75) (xSeq 77 (xNewA 77) (xSeq 79 (xAstore 11 79) (xSeq 80 (xPush (0) 80) (xSeq 82 (xIload 9 82) (xIload 8 84))))))))))))
  (nd 84 (lf 84 (.inr (.inl (1, 3, 0, 145, [none]))))
  (lf 87 (.inl (xSeq 89 (xIstore 12 89) (xSeq 91 (xAload 10 91) (xSeq 93 (xIload 12 93) (xSeq 94 (xPush (0) 94) (xSeq 95 (xIastore 95) (xSeq 97 (xAload 11 97) (xSeq 99 (xIload 12 99) (xSeq 100 (xPush (0) 100) (xSeq 101 (xIastore 101) (xSeq 103 (xAload 10 103) (xSeq 104 (xPush (1) 104) (xSeq 106 (xIload 9 106) (xIload 8 108)))))))))))))))))))
  (nd 141 (nd 119 (nd 108 (lf 108 (.inr (.inl (1, 3, 0, 145, [none]))))
  (nd 111 (lf 111 (.inl (xSeq 113 (xAload 7 113) (xSeq 114 (xPush (1) 114) (xSeq 115 (xIaload 115) (xSeq 117 (xIload 9 117) (xIload 8 119)))))))
  (lf 119 (.inr (.inl (1, 3, 0, 145, [none]))))))
  (nd 130 (nd 122 (lf 122 (.inl (xSeq 123 (xIastore 123) (xSeq 125 (xAload 10 125) (xSeq 126 (xPush (2) 126) (xSeq 128 (xIload 9 128) (xIload 8 130)))))))
  (lf 130 (.inr (.inl (1, 3, 0, 145, [none])))))
  (nd 133 (lf 133 (.inl (xSeq 135 (xAload 7 135) (xSeq 136 (xPush (2) 136) (xSeq 137 (xIaload 137) (xSeq 139 (xIload 9 139) (xIload 8 141)))))))
  (lf 141 (.inr (.inl (1, 3, 0, 145, [none])))))))
  (nd 155 (nd 144 (lf 144 (.inl (xSeq 145 (xIastore 145) (xSeq 147 (xAload 10 147) (xSeq 148 (xPush (3) 148) (xSeq 150 (xIload 9 150) (xIload 8 152)))))))
  (nd 152 (lf 152 (.inr (.inl (1, 3, 0, 145, [none]))))
  (lf 155 (.inl (xSeq 157 (xAload 7 157) (xSeq 158 (xPush (3) 158) (xSeq 159 (xIaload 159) (xSeq 161 (xIload 9 161) (xIload 8 163)))))))))
  (nd 166 (nd 163 (lf 163 (.inr (.inl (1, 3, 0, 145, [none]))))
  (lf 166 (.inl (xSeq 167 (xIastore 167) (xSeq 169 (xAload 10 169) (xSeq 170 (xPush (4) 170) (xSeq 172 (xIload 9 172) (xIload 8 174))))))))
  (nd 174 (lf 174 (.inr (.inl (1, 3, 0, 145, [none]))))
  (lf 177 (.inl (xSeq 179 (xAload 7 179) (xSeq 180 (xPush (4) 180) (xSeq 181 (xIaload 181) (xSeq 183 (xIload 9 183) (xIload 8 185))))))))))))
  (nd 253 (nd 220 (nd 196 (nd 185 (lf 185 (.inr (.inl (1, 3, 0, 145, [none]))))
  (nd 188 (lf 188 (.inl (xSeq 189 (xIastore 189) (xSeq 191 (xAload 11 191) (xSeq 192 (xPush (1) 192) (xSeq 194 (xIload 9 194) (xIload 8 196)))))))
  (lf 196 (.inr (.inl (1, 3, 0, 145, [none]))))))
  (nd 208 (nd 199 (lf 199 (.inl (xSeq 200 (xPush (1) 200) (xSeq 201 (xIastore 201) (xSeq 203 (xAload 11 203) (xSeq 204 (xPush (2) 204) (xSeq 206 (xIload 9 206) (xIload 8 208))))))))
  (lf 208 (.inr (.inl (1, 3, 0, 145, [none])))))
  (nd 211 (lf 211 (.inl (xSeq 212 (xPush (2) 212) (xSeq 213 (xIastore 213) (xSeq 215 (xAload 11 215) (xSeq 216 (xPush (3) 216) (xSeq 218 (xIload 9 218) (xIload 8 220))))))))
  (lf 220 (.inr (.inl (1, 3, 0, 145, [none])))))))
  (nd 235 (nd 223 (lf 223 (.inl (xSeq 224 (xPush (3) 224) (xSeq 225 (xIastore 225) (xSeq 227 (xAload 11 227) (xSeq 228 (xPush (4) 228) (xSeq 230 (xIload 9 230) (xIload 8 232))))))))
  (nd 232 (lf 232 (.inr (.inl (1, 3, 0, 145, [none]))))
  (lf 235 (.inl (xSeq 236 (xPush (4) 236) (xIastore 237))))))
  (nd 241 (nd 237 (lf 237 (.inl (xIload 2 238)))
  (lf 241 (.inl (xSeq 242 (xPush (5) 242) (xSeq 243 (xRem 243) (xSeq 245 (xIstore 13 245) (xIload 3 246)))))))
  (nd 249 (lf 249 (.inl (xSeq 250 (xPush (5) 250) (xSeq 251 (xRem 251) (xIstore 14 253)))))
  (lf 253 (.inl (xSeq 256 (xNew 0 6 [nul, nul, nul, nul, nul, nul] 256) (xSeq 257 (xDup 257) (xSeq 259 (xIload 12 259) (xSeq 261 (xAload 10 261) (xAload 11 263)))))))))))
  (nd 288 (nd 268 (nd 263 (lf 263 (.inr (.inl (2, 4, 1, 86, [none, none, none, none, none, none, none, none, none]))))
  (nd 266 (lf 266 (.inl (xAstore 15 268)))
  (lf 268 (.inl (xSeq 270 (xAload 15 270) (xSeq 272 (xIload 13 272) (xSeq 274 (xIload 9 274) (xIload 8 276))))))))
  (nd 279 (nd 276 (lf 276 (.inr (.inl (1, 3, 0, 145, [none]))))
  (lf 279 (.inl (xSeq 281 (xIload 14 281) (xSeq 283 (xIload 9 283) (xIload 8 285))))))
  (nd 285 (lf 285 (.inr (.inl (1, 3, 0, 145, [none]))))
  (lf 288 (.inr (.inl (8, 3, 2, 146, [])))))))
  (nd 306 (nd 299 (nd 291 (lf 291 (.inl (xSeq 293 (xIstore 16 293) (xSeq 295 (xAload 7 295) (xSeq 297 (xIload 13 297) (xIload 14 299))))))
  (lf 299 (.inr (.inl (9, 3, 0, 100, [none, none, none])))))
  (nd 302 (lf 302 (.inl (xSeq 304 (xIload 9 304) (xIload 8 306))))
  (lf 306 (.inr (.inl (1, 3, 0, 145, [none]))))))
  (nd 318 (nd 309 (lf 309 (.inl (xSeq 311 (xIstore 17 311) (xSeq 313 (xIload 16 313) (xSeq 315 (xIload 17 315) (xIcmp .ne 322 318))))))
  (lf 318 (.inl (xSeq 319 (xPush (1) 319) (xGoto 323)))))
  (nd 322 (lf 322 (.inl (xPush (0) 323)))
  (lf 323 (.inr (.inr 2)))))))))
def tq1 : Nat → Option ME := (nd 10 (nd 0 (lf 0 (.inl (xSeq 1 (xIload 0 1) (xSeq 2 (xIload 1 2) (xSeq 3 (xBin Int.add 3) (xSeq 4 (xPush (5) 4) (xSeq 5 (xRem 5) (xSeq 6 (xIstore 3 6) (xSeq 7 (xIload 2 7) (xIf .eq 16 10))))))))))
  (lf 10 (.inl (xSeq 11 (xPush (4) 11) (xSeq 12 (xIload 3 12) (xSeq 13 (xBin Int.sub 13) (xGoto 17)))))))
  (nd 16 (lf 16 (.inl (xIload 3 17)))
  (lf 17 (.inr (.inr 1)))))
def tq2 : Nat → Option ME := (nd 194 (nd 157 (nd 97 (nd 0 (lf 0 (.inl (xSeq 1 (xAload 0 1) (xSeq 4 (xInit 4) (xSeq 5 (xAload 3 5) (xSeq 6 (xLen 6) (xSeq 8 (xIstore 4 8) (xSeq 9 (xAload 0 9) (xSeq 10 (xAload 2 10) (xSeq 13 (xClone 13) (xSeq 16 (xCast 16) (xSeq 19 (xPut 0 0 19) (xSeq 20 (xAload 0 20) (xSeq 21 (xAload 3 21) (xSeq 24 (xClone 24) (xSeq 27 (xCast 27) (xSeq 30 (xPut 0 1 30) (xSeq 31 (xAload 0 31) (xSeq 33 (xIload 4 33) (xSeq 35 (xNewA 35) (xSeq 38 (xPut 0 2 38) (xSeq 39 (xAload 0 39) (xSeq 41 (xIload 4 41) (xSeq 43 (xNewA 43) (xSeq 46 (xPut 0 3 46) (xSeq 47 (xAload 0 47) (xSeq 49 (xIload 4 49) (xSeq 51 (xNewA 51) (xSeq 54 (xPut 0 4 54) (xSeq 55 (xAload 0 55) (xSeq 57 (xIload 4 57) (xSeq 59 (xNewA 59) (xSeq 62 (xPut 0 5 62) (xSeq 63 (xAload 0 63) (xSeq 66 (xGet 0 0 66) (xSeq 67 (xIload 1 67) (xSeq 68 (xPush (-1) 68) (xSeq 69 (xIastore 69) (xSeq 70 (xAload 2 70) (xSeq 73 (xClone 73) (xSeq 76 (xCast 76) (xSeq 78 (xAstore 5 78) (xSeq 80 (xAload 5 80) (xSeq 81 (xIload 1 81) (xSeq 83 (xIload 4 83) (xSeq 84 (xIastore 84) (xSeq 87 (xNew 1 2 [nul, nul] 87) (xSeq 88 (xDup 88) (xSeq 90 (xAload 5 90) (xSeq 92 (xIload 4 92) (xSeq 93 (xPush (1) 93) (xBin Int.add 94))))))))))))))))))))))))))))))))))))))))))))))))))))
  (nd 94 (lf 94 (.inr (.inl (3, 3, 1, 6, [none, none, none, none]))))
  (lf 97 (.inl (xSeq 99 (xAstore 6 99) (xSeq 101 (xIload 4 101) (xSeq 103 (xNewA 103) (xSeq 105 (xAstore 7 105) (xSeq 107 (xIload 4 107) (xSeq 109 (xNewA 109) (xSeq 111 (xAstore 8 111) (xSeq 112 (xPush (0) 112) (xSeq 114 (xIstore 9 114) (xSeq 116 (xAload 8 116) (xSeq 118 (xIload 9 118) (xSeq 121 (xInc 9 (1) 121) (xSeq 122 (xIload 1 122) (xSeq 123 (xIastore 123) (xSeq 124 (xPush (0) 124) (xIstore 10 126))))))))))))))))))))
  (nd 133 (nd 126 (lf 126 (.inl (xSeq 128 (xIload 10 128) (xSeq 130 (xIload 4 130) (xIcmp .ge 200 133)))))
  (lf 133 (.inl (xSeq 135 (xAload 8 135) (xSeq 138 (xInc 9 (-1) 138) (xSeq 140 (xIload 9 140) (xSeq 141 (xIaload 141) (xSeq 143 (xIstore 11 143) (xSeq 145 (xAload 7 145) (xSeq 147 (xIload 10 147) (xSeq 149 (xIload 11 149) (xSeq 150 (xIastore 150) (xSeq 152 (xAload 6 152) (xIload 11 154))))))))))))))
  (nd 154 (lf 154 (.inr (.inl (4, 2, 3, 37, []))))
  (lf 157 (.inl (xSeq 158 (xPush (1) 158) (xSeq 159 (xBin Int.sub 159) (xIstore 12 161))))))))
  (nd 170 (nd 161 (lf 161 (.inl (xSeq 163 (xIload 12 163) (xSeq 165 (xAload 6 165) (xIload 11 167)))))
  (nd 167 (lf 167 (.inr (.inl (5, 2, 3, 37, []))))
  (lf 170 (.inl (xIcmp .lt 194 173)))))
  (nd 184 (nd 173 (lf 173 (.inl (xSeq 175 (xAload 8 175) (xSeq 177 (xIload 9 177) (xSeq 180 (xInc 9 (1) 180) (xSeq 182 (xAload 6 182) (xIload 12 184)))))))
  (lf 184 (.inr (.inl (6, 2, 3, 37, [])))))
  (nd 187 (lf 187 (.inl (xSeq 188 (xIastore 188) (xSeq 191 (xInc 12 (-1) 191) (xGoto 161)))))
  (lf 194 (.inl (xSeq 197 (xInc 10 (1) 197) (xGoto 126))))))))
  (nd 241 (nd 210 (nd 200 (lf 200 (.inl (xSeq 201 (xPush (0) 201) (xIstore 10 203))))
  (nd 203 (lf 203 (.inl (xSeq 205 (xIload 10 205) (xSeq 207 (xIload 4 207) (xIcmp .ge 235 210)))))
  (lf 210 (.inl (xSeq 211 (xAload 0 211) (xSeq 213 (xAload 7 213) (xSeq 215 (xIload 10 215) (xSeq 216 (xIaload 216) (xSeq 218 (xAload 7 218) (xSeq 220 (xIload 10 220) (xSeq 221 (xPush (1) 221) (xSeq 222 (xBin Int.add 222) (xSeq 224 (xIload 4 224) (xSeq 225 (xRem 225) (xIaload 226)))))))))))))))
  (nd 229 (nd 226 (lf 226 (.inr (.inl (7, 3, 2, 36, []))))
  (lf 229 (.inl (xSeq 232 (xInc 10 (1) 232) (xGoto 203)))))
  (nd 235 (lf 235 (.inl (xSeq 237 (xIload 4 237) (xSeq 238 (xPush (1) 238) (xSeq 239 (xBin Int.sub 239) (xIstore 10 241))))))
  (lf 241 (.inl (xSeq 243 (xIload 10 243) (xIf .lt 298 246)))))))
  (nd 292 (nd 246 (lf 246 (.inl (xSeq 248 (xAload 7 248) (xSeq 250 (xIload 10 250) (xSeq 251 (xIaload 251) (xSeq 253 (xIstore 11 253) (xSeq 254 (xAload 0 254) (xSeq 257 (xGet 0 2 257) (xSeq 259 (xIload 11 259) (xSeq 260 (xDup2 260) (xSeq 261 (xIaload 261) (xSeq 262 (xPush (1) 262) (xSeq 263 (xBin Int.add 263) (xSeq 264 (xIastore 264) (xSeq 266 (xIload 11 266) (xSeq 267 (xIload 1 267) (xIcmp .eq 292 270)))))))))))))))))
  (nd 270 (lf 270 (.inl (xSeq 271 (xAload 0 271) (xSeq 274 (xGet 0 2 274) (xSeq 275 (xAload 0 275) (xSeq 278 (xGet 0 0 278) (xSeq 280 (xIload 11 280) (xSeq 281 (xIaload 281) (xSeq 282 (xDup2 282) (xSeq 283 (xIaload 283) (xSeq 284 (xAload 0 284) (xSeq 287 (xGet 0 2 287) (xSeq 289 (xIload 11 289) (xSeq 290 (xIaload 290) (xSeq 291 (xBin Int.add 291) (xIastore 292))))))))))))))))
  (lf 292 (.inl (xSeq 295 (xInc 10 (-1) 295) (xGoto 241))))))
  (nd 301 (nd 298 (lf 298 (.inl (xSeq 299 (xPush (0) 299) (xIstore 10 301))))
  (lf 301 (.inl (xSeq 303 (xIload 10 303) (xSeq 305 (xIload 4 305) (xIcmp .ge 342 308))))))
  (nd 308 (lf 308 (.inl (xSeq 309 (xAload 0 309) (xSeq 312 (xGet 0 5 312) (xSeq 314 (xAload 7 314) (xSeq 316 (xIload 10 316) (xSeq 317 (xIaload 317) (xSeq 319 (xAload 7 319) (xSeq 321 (xIload 10 321) (xSeq 322 (xAload 0 322) (xSeq 325 (xGet 0 2 325) (xSeq 327 (xAload 7 327) (xSeq 329 (xIload 10 329) (xSeq 330 (xIaload 330) (xSeq 331 (xIaload 331) (xSeq 332 (xBin Int.add 332) (xSeq 333 (xPush (1) 333) (xSeq 334 (xBin Int.sub 334) (xSeq 335 (xIaload 335) (xSeq 336 (xIastore 336) (xSeq 339 (xInc 10 (1) 339) (xGoto 301))))))))))))))))))))))
  (lf 342 (.inr (.inr 0))))))))
def tq3 : Nat → Option ME := (nd 56 (nd 22 (nd 0 (lf 0 (.inl (xSeq 1 (xAload 0 1) (xSeq 4 (xInit 4) (xSeq 5 (xAload 0 5) (xSeq 6 (xIload 2 6) (xSeq 7 (xPush (1) 7) (xSeq 8 (xBin Int.add 8) (xSeq 10 (xNewA 10) (xSeq 13 (xPut 1 0 13) (xSeq 14 (xAload 1 14) (xSeq 15 (xAstore 3 15) (xSeq 16 (xAload 3 16) (xSeq 17 (xLen 17) (xSeq 19 (xIstore 4 19) (xSeq 20 (xPush (0) 20) (xIstore 5 22)))))))))))))))))
  (lf 22 (.inl (xSeq 24 (xIload 5 24) (xSeq 26 (xIload 4 26) (xIcmp .ge 54 29))))))
  (nd 29 (lf 29 (.inl (xSeq 30 (xAload 3 30) (xSeq 32 (xIload 5 32) (xSeq 33 (xIaload 33) (xSeq 35 (xIstore 6 35) (xSeq 36 (xAload 0 36) (xSeq 39 (xGet 1 0 39) (xSeq 41 (xIload 6 41) (xSeq 42 (xPush (1) 42) (xSeq 43 (xBin Int.add 43) (xSeq 44 (xDup2 44) (xSeq 45 (xIaload 45) (xSeq 46 (xPush (1) 46) (xSeq 47 (xBin Int.add 47) (xSeq 48 (xIastore 48) (xSeq 51 (xInc 5 (1) 51) (xGoto 22))))))))))))))))))
  (nd 54 (lf 54 (.inl (xSeq 55 (xPush (0) 55) (xIstore 3 56))))
  (lf 56 (.inl (xSeq 57 (xIload 3 57) (xSeq 58 (xIload 2 58) (xIcmp .ge 84 61))))))))
  (nd 84 (nd 61 (lf 61 (.inl (xSeq 62 (xAload 0 62) (xSeq 65 (xGet 1 0 65) (xSeq 66 (xIload 3 66) (xSeq 67 (xPush (1) 67) (xSeq 68 (xBin Int.add 68) (xSeq 69 (xDup2 69) (xSeq 70 (xIaload 70) (xSeq 71 (xAload 0 71) (xSeq 74 (xGet 1 0 74) (xSeq 75 (xIload 3 75) (xSeq 76 (xIaload 76) (xSeq 77 (xBin Int.add 77) (xSeq 78 (xIastore 78) (xSeq 81 (xInc 3 (1) 81) (xGoto 56)))))))))))))))))
  (lf 84 (.inl (xSeq 85 (xAload 0 85) (xSeq 86 (xAload 1 86) (xSeq 87 (xLen 87) (xSeq 89 (xNewA 89) (xSeq 92 (xPut 1 1 92) (xSeq 93 (xIload 2 93) (xSeq 95 (xNewA 95) (xSeq 96 (xAstore 3 96) (xSeq 97 (xAload 0 97) (xSeq 100 (xGet 1 0 100) (xSeq 101 (xPush (0) 101) (xSeq 102 (xAload 3 102) (xSeq 103 (xPush (0) 103) (xSeq 104 (xIload 2 104) (xSeq 107 (xCopy 107) (xSeq 108 (xPush (0) 108) (xIstore 4 110))))))))))))))))))))
  (nd 110 (lf 110 (.inl (xSeq 112 (xIload 4 112) (xSeq 113 (xAload 1 113) (xSeq 114 (xLen 114) (xIcmp .ge 141 117))))))
  (nd 117 (lf 117 (.inl (xSeq 118 (xAload 0 118) (xSeq 121 (xGet 1 1 121) (xSeq 122 (xAload 3 122) (xSeq 123 (xAload 1 123) (xSeq 125 (xIload 4 125) (xSeq 126 (xIaload 126) (xSeq 127 (xDup2 127) (xSeq 128 (xIaload 128) (xSeq 129 (xDupX2 129) (xSeq 130 (xPush (1) 130) (xSeq 131 (xBin Int.add 131) (xSeq 132 (xIastore 132) (xSeq 134 (xIload 4 134) (xSeq 135 (xIastore 135) (xSeq 138 (xInc 4 (1) 138) (xGoto 110))))))))))))))))))
  (lf 141 (.inr (.inr 0)))))))
def tq4 : Nat → Option ME := (nd 0 (lf 0 (.inl (xSeq 1 (xAload 0 1) (xSeq 4 (xGet 1 0 4) (xSeq 5 (xIload 1 5) (xSeq 6 (xPush (1) 6) (xSeq 7 (xBin Int.add 7) (xIaload 8))))))))
  (lf 8 (.inr (.inr 1))))
def tq5 : Nat → Option ME := (nd 0 (lf 0 (.inl (xSeq 1 (xAload 0 1) (xSeq 4 (xGet 1 0 4) (xSeq 5 (xIload 1 5) (xIaload 6))))))
  (lf 6 (.inr (.inr 1))))
def tq6 : Nat → Option ME := (nd 0 (lf 0 (.inl (xSeq 1 (xAload 0 1) (xSeq 4 (xGet 1 1 4) (xSeq 5 (xIload 1 5) (xIaload 6))))))
  (lf 6 (.inr (.inr 1))))
def tq7 : Nat → Option ME := (nd 0 (lf 0 (.inl (xSeq 1 (xAload 0 1) (xSeq 4 (xGet 0 3 4) (xSeq 5 (xIload 1 5) (xSeq 6 (xIload 2 6) (xSeq 7 (xIastore 7) (xSeq 8 (xAload 0 8) (xSeq 11 (xGet 0 4 11) (xSeq 12 (xIload 2 12) (xSeq 13 (xIload 1 13) (xIastore 14))))))))))))
  (lf 14 (.inr (.inr 0))))
def tq8 : Nat → Option ME := (nd 20 (nd 0 (lf 0 (.inl (xSeq 1 (xIload 1 1) (xSeq 2 (xIload 2 2) (xIcmp .eq 40 5)))))
  (nd 5 (lf 5 (.inl (xSeq 6 (xAload 0 6) (xSeq 9 (xGet 0 2 9) (xSeq 10 (xIload 1 10) (xSeq 11 (xIaload 11) (xSeq 12 (xAload 0 12) (xSeq 15 (xGet 0 2 15) (xSeq 16 (xIload 2 16) (xSeq 17 (xIaload 17) (xIcmp .ge 30 20)))))))))))
  (lf 20 (.inl (xSeq 21 (xAload 0 21) (xSeq 24 (xGet 0 0 24) (xSeq 25 (xIload 1 25) (xSeq 26 (xIaload 26) (xSeq 27 (xIstore 1 27) (xGoto 0))))))))))
  (nd 30 (lf 30 (.inl (xSeq 31 (xAload 0 31) (xSeq 34 (xGet 0 0 34) (xSeq 35 (xIload 2 35) (xSeq 36 (xIaload 36) (xSeq 37 (xIstore 2 37) (xGoto 0))))))))
  (nd 40 (lf 40 (.inl (xIload 1 41)))
  (lf 41 (.inr (.inr 1))))))
def tq9 : Nat → Option ME := (nd 34 (nd 13 (nd 6 (nd 0 (lf 0 (.inl (xSeq 1 (xAload 0 1) (xSeq 2 (xIload 1 2) (xIload 2 3)))))
  (nd 3 (lf 3 (.inr (.inl (10, 3, 0, 6, [none, none, none, none]))))
  (lf 6 (.inl (xIf .eq 11 9)))))
  (nd 10 (nd 9 (lf 9 (.inl (xIload 1 10)))
  (lf 10 (.inr (.inr 1))))
  (nd 11 (lf 11 (.inl (xSeq 12 (xAload 0 12) (xIload 1 13))))
  (lf 13 (.inr (.inl (11, 2, 0, 30, [])))))))
  (nd 27 (nd 21 (nd 16 (lf 16 (.inl (xSeq 17 (xIstore 3 17) (xSeq 18 (xIload 3 18) (xIf .lt 32 21)))))
  (lf 21 (.inl (xSeq 22 (xAload 0 22) (xSeq 23 (xIload 3 23) (xIload 2 24))))))
  (nd 24 (lf 24 (.inr (.inl (10, 3, 0, 6, [none, none, none, none]))))
  (lf 27 (.inl (xIf .eq 32 30)))))
  (nd 31 (nd 30 (lf 30 (.inl (xIload 3 31)))
  (lf 31 (.inr (.inr 1))))
  (nd 32 (lf 32 (.inl (xSeq 33 (xAload 0 33) (xIload 3 34))))
  (lf 34 (.inr (.inl (11, 2, 0, 30, []))))))))
  (nd 60 (nd 51 (nd 44 (nd 37 (lf 37 (.inl (xSeq 39 (xIstore 4 39) (xSeq 41 (xIload 4 41) (xIf .lt 57 44)))))
  (lf 44 (.inl (xSeq 45 (xAload 0 45) (xSeq 47 (xIload 4 47) (xIload 2 48))))))
  (nd 48 (lf 48 (.inr (.inl (10, 3, 0, 6, [none, none, none, none]))))
  (lf 51 (.inl (xIf .eq 57 54)))))
  (nd 56 (nd 54 (lf 54 (.inl (xIload 4 56)))
  (lf 56 (.inr (.inr 1))))
  (nd 57 (lf 57 (.inl (xSeq 58 (xAload 0 58) (xIload 4 60))))
  (lf 60 (.inr (.inl (11, 2, 0, 30, [])))))))
  (nd 77 (nd 70 (nd 63 (lf 63 (.inl (xSeq 65 (xIstore 5 65) (xSeq 67 (xIload 5 67) (xIf .lt 83 70)))))
  (lf 70 (.inl (xSeq 71 (xAload 0 71) (xSeq 73 (xIload 5 73) (xIload 2 74))))))
  (nd 74 (lf 74 (.inr (.inl (10, 3, 0, 6, [none, none, none, none]))))
  (lf 77 (.inl (xIf .eq 83 80)))))
  (nd 82 (nd 80 (lf 80 (.inl (xIload 5 82)))
  (lf 82 (.inr (.inr 1))))
  (nd 83 (lf 83 (.inl (xPush (0) 84)))
  (lf 84 (.inr (.inr 1))))))))
def tq10 : Nat → Option ME := (nd 24 (nd 8 (nd 2 (nd 0 (lf 0 (.inl (xSeq 1 (xAload 0 1) (xIload 2 2))))
  (lf 2 (.inr (.inl (11, 2, 0, 6, [])))))
  (nd 5 (lf 5 (.inl (xSeq 6 (xIstore 3 6) (xSeq 7 (xAload 0 7) (xIload 3 8)))))
  (lf 8 (.inr (.inl (11, 2, 0, 6, []))))))
  (nd 16 (nd 11 (lf 11 (.inl (xSeq 13 (xIstore 4 13) (xSeq 14 (xAload 0 14) (xIload 4 16)))))
  (lf 16 (.inr (.inl (11, 2, 0, 6, [])))))
  (nd 19 (lf 19 (.inl (xSeq 21 (xIstore 5 21) (xSeq 22 (xAload 0 22) (xIload 5 24)))))
  (lf 24 (.inr (.inl (11, 2, 0, 6, [])))))))
  (nd 45 (nd 34 (nd 27 (lf 27 (.inl (xSeq 29 (xIstore 6 29) (xSeq 30 (xIload 1 30) (xSeq 31 (xIload 2 31) (xIcmp .eq 57 34))))))
  (lf 34 (.inl (xSeq 35 (xIload 1 35) (xSeq 36 (xIload 3 36) (xIcmp .eq 57 39))))))
  (nd 39 (lf 39 (.inl (xSeq 40 (xIload 1 40) (xSeq 42 (xIload 4 42) (xIcmp .eq 57 45)))))
  (lf 45 (.inl (xSeq 46 (xIload 1 46) (xSeq 48 (xIload 5 48) (xIcmp .eq 57 51)))))))
  (nd 57 (nd 51 (lf 51 (.inl (xSeq 52 (xIload 1 52) (xSeq 54 (xIload 6 54) (xIcmp .ne 61 57)))))
  (lf 57 (.inl (xSeq 58 (xPush (1) 58) (xGoto 62)))))
  (nd 61 (lf 61 (.inl (xPush (0) 62)))
  (lf 62 (.inr (.inr 2)))))))
def tq11 : Nat → Option ME := (nd 4 (nd 0 (lf 0 (.inl (xSeq 1 (xIload 1 1) (xIf .ge 8 4))))
  (lf 4 (.inl (xSeq 5 (xPush (-1) 5) (xGoto 11)))))
  (nd 8 (lf 8 (.inl (xSeq 9 (xAload 0 9) (xSeq 10 (xIload 1 10) (xIaload 11)))))
  (lf 11 (.inr (.inr 1)))))
def TQ : Nat → Nat → Option ME := (qn 0 tq0 (qn 1 tq1 (qn 2 tq2 (qn 3 tq3 (qn 4 tq4 (qn 5 tq5 (qn 6 tq6 (qn 7 tq7 (qn 8 tq8 (qn 9 tq9 (qn 10 tq10 (qn 11 tq11 qo))))))))))))
def mlQ (q : Nat) : Nat := [18, 4, 13, 7, 2, 2, 2, 3, 3, 6, 7, 2].getD q 0
def frQ (q : Nat) : Nat := [6, 0, 2, 1, 0, 0, 0, 0, 0, 2, 1, 0].getD q 0
def loQ (q : Nat) : Nat := [160, 0, 50, 26, 0, 0, 0, 0, 0, 43, 19, 0].getD q 0
def yyQ (q : Nat) : MethodName := [x, y1, y2, y4, y5, y6, y7, y8, y9, y10, y11, y12].getD q x
def bbQ (q : Nat) : ByteArray := [code, method_2_code, prog_25_method_1_code, prog_5_method_1_code, prog_5_method_3_code, prog_5_method_2_code, prog_5_method_4_code, prog_25_method_10_code, prog_25_method_5_code, method_5_code, method_4_code, method_3_code].getD q code
def rrQ (q : Nat) : Option FieldType := [(some .boolean), (some .int), none, none, (some .int), (some .int), (some .int), none, (some .int), (some .int), (some .boolean), (some .int)].getD q none
def PQ (l : Launch) (Z : State) (a0 : Array Value) (n0 : Nat) (τ : Int → Int32) : Nat → Nat → ME → Prop := (fun q pc (e : ME) => match e with
    | .inl x => Ok1 l Z a0 KT n0 τ (yyQ q) (bbQ q) (mlQ q) (rrQ q) (frQ q) (loQ q) pc x
    | .inr (.inr 0) => Nx (bbQ q) pc .return_ 1 (pc + 1) ∧ rrQ q = none
    | .inr (.inr 1) => Nx (bbQ q) pc .ireturn 1 (pc + 1) ∧ rrQ q = some .int
    | .inr (.inr (_ + 2)) => Nx (bbQ q) pc .ireturn 1 (pc + 1) ∧ rrQ q = some .boolean
    | .inr (.inl (z, np, kd, mx, non)) => (np ≤ mlQ z ∧ frQ z + 1 ≤ frQ q ∧ mx + (mlQ z + 11) + loQ z ≤ loQ q ∧ non = List.replicate (mlQ z - np) none) ∧ plainFor (yyQ z) = true ∧ OkC l Z a0 KT n0 τ (yyQ q) (bbQ q) (mlQ q) (rrQ q) pc (yyQ z) (bbQ z) (mlQ z) (rrQ z) np kd)
set_option maxRecDepth 65536 in
set_option maxHeartbeats 40000000 in
theorem okq0 (l : Launch) {Z : State} {a0 : Array Value} (hw : HW1 Z a0) (n0 : Nat) (τ : Int → Int32) : AllT (PQ l Z a0 n0 τ 0) tq0 := (ND (ND (ND (ND (ND (LF (ok_seq (ok_iload (Or.inr ⟨0, rfl, s0_0⟩))
   (ok_push (by decide) (Or.inl s0_1))))
  (ND (LF (ok_seq (ok_istore (leb rfl) (Or.inl s0_3))
   (ok_seq (ok_iload (Or.inr ⟨0, rfl, s0_5⟩))
   (ok_push (by decide) (Or.inl s0_6)))))
  (LF (ok_push (by decide) (Or.inl s0_8)))))
  (ND (ND (LF (ok_seq (ok_push (by decide) (Or.inl s0_10))
   (ok_seq (ok_rem s0_11)
   (ok_seq (ok_istore (leb rfl) (Or.inl s0_12))
   (ok_seq (ok_iload (Or.inr ⟨0, rfl, s0_14⟩))
   (ok_push (by decide) (Or.inl s0_15)))))))
  (LF (ok_push (by decide) (Or.inl s0_17))))
  (ND (LF (ok_seq (ok_istore (leb rfl) (Or.inl s0_19))
   (ok_seq (ok_push (by decide) (Or.inl s0_21))
   (ok_seq (ok_newA s0_22 (k_0 hw))
   (ok_seq (ok_dup s0_24)
   (ok_seq (ok_push (by decide) (Or.inl s0_25))
   (ok_seq (ok_push (by decide) (Or.inl s0_26))
   (ok_seq (ok_iastore s0_27)
   (ok_seq (ok_dup s0_28)
   (ok_seq (ok_push (by decide) (Or.inl s0_29))
   (ok_seq (ok_push (by decide) (Or.inl s0_30))
   (ok_seq (ok_iastore s0_31)
   (ok_seq (ok_dup s0_32)
   (ok_seq (ok_push (by decide) (Or.inl s0_33))
   (ok_seq (ok_iload (Or.inl s0_34))
   (ok_seq (ok_iastore s0_36)
   (ok_seq (ok_dup s0_37)
   (ok_seq (ok_push (by decide) (Or.inl s0_38))
   (ok_seq (ok_iload (Or.inl s0_39))
   (ok_seq (ok_iastore s0_41)
   (ok_seq (ok_dup s0_42)
   (ok_seq (ok_push (by decide) (Or.inl s0_43))
   (ok_seq (ok_iload (Or.inl s0_44))
   (ok_seq (ok_iastore s0_46)
   (ok_seq (ok_astore (leb rfl) (Or.inl s0_47))
   (ok_seq (ok_iload (Or.inr ⟨1, rfl, s0_49⟩))
   (ok_push (by decide) (Or.inl s0_50))))))))))))))))))))))))))))
  (LF (ok_if s0_52)))))
  (ND (ND (LF (ok_seq (ok_push (by decide) (Or.inl s0_55))
   (ok_goto s0_56)))
  (ND (LF (ok_push (by decide) (Or.inl s0_59)))
  (LF (ok_seq (ok_istore (leb rfl) (Or.inl s0_60))
   (ok_seq (ok_iload (Or.inr ⟨1, rfl, s0_62⟩))
   (ok_push (by decide) (Or.inl s0_63)))))))
  (ND (ND (LF (ok_seq (ok_push (by decide) (Or.inl s0_65))
   (ok_seq (ok_rem s0_66)
   (ok_istore (leb rfl) (Or.inl s0_67)))))
  (LF (ok_seq (ok_push (by decide) (Or.inl s0_69))
   (ok_seq (ok_newA s0_70 (k_0 hw))
   (ok_seq (ok_astore (leb rfl) (Or.inl s0_72))
   (ok_seq (ok_push (by decide) (Or.inl s0_74))
   (ok_seq (ok_newA s0_75 (k_0 hw))
   (ok_seq (ok_astore (leb rfl) (Or.inl s0_77))
   (ok_seq (ok_push (by decide) (Or.inl s0_79))
   (ok_seq (ok_iload (Or.inl s0_80))
   (ok_iload (Or.inl s0_82))))))))))))
  (ND (LF (⟨⟨leb rfl, leb rfl, leb rfl, rfl⟩, (plainFor_of_name pn_1), okc_s s0_84 (k_2 hw)⟩))
  (LF (ok_seq (ok_istore (leb rfl) (Or.inl s0_87))
   (ok_seq (ok_aload (Or.inl s0_89))
   (ok_seq (ok_iload (Or.inl s0_91))
   (ok_seq (ok_push (by decide) (Or.inl s0_93))
   (ok_seq (ok_iastore s0_94)
   (ok_seq (ok_aload (Or.inl s0_95))
   (ok_seq (ok_iload (Or.inl s0_97))
   (ok_seq (ok_push (by decide) (Or.inl s0_99))
   (ok_seq (ok_iastore s0_100)
   (ok_seq (ok_aload (Or.inl s0_101))
   (ok_seq (ok_push (by decide) (Or.inl s0_103))
   (ok_seq (ok_iload (Or.inl s0_104))
   (ok_iload (Or.inl s0_106)))))))))))))))))))
  (ND (ND (ND (LF (⟨⟨leb rfl, leb rfl, leb rfl, rfl⟩, (plainFor_of_name pn_1), okc_s s0_108 (k_2 hw)⟩))
  (ND (LF (ok_seq (ok_aload (Or.inl s0_111))
   (ok_seq (ok_push (by decide) (Or.inl s0_113))
   (ok_seq (ok_iaload s0_114)
   (ok_seq (ok_iload (Or.inl s0_115))
   (ok_iload (Or.inl s0_117)))))))
  (LF (⟨⟨leb rfl, leb rfl, leb rfl, rfl⟩, (plainFor_of_name pn_1), okc_s s0_119 (k_2 hw)⟩))))
  (ND (ND (LF (ok_seq (ok_iastore s0_122)
   (ok_seq (ok_aload (Or.inl s0_123))
   (ok_seq (ok_push (by decide) (Or.inl s0_125))
   (ok_seq (ok_iload (Or.inl s0_126))
   (ok_iload (Or.inl s0_128)))))))
  (LF (⟨⟨leb rfl, leb rfl, leb rfl, rfl⟩, (plainFor_of_name pn_1), okc_s s0_130 (k_2 hw)⟩)))
  (ND (LF (ok_seq (ok_aload (Or.inl s0_133))
   (ok_seq (ok_push (by decide) (Or.inl s0_135))
   (ok_seq (ok_iaload s0_136)
   (ok_seq (ok_iload (Or.inl s0_137))
   (ok_iload (Or.inl s0_139)))))))
  (LF (⟨⟨leb rfl, leb rfl, leb rfl, rfl⟩, (plainFor_of_name pn_1), okc_s s0_141 (k_2 hw)⟩)))))
  (ND (ND (LF (ok_seq (ok_iastore s0_144)
   (ok_seq (ok_aload (Or.inl s0_145))
   (ok_seq (ok_push (by decide) (Or.inl s0_147))
   (ok_seq (ok_iload (Or.inl s0_148))
   (ok_iload (Or.inl s0_150)))))))
  (ND (LF (⟨⟨leb rfl, leb rfl, leb rfl, rfl⟩, (plainFor_of_name pn_1), okc_s s0_152 (k_2 hw)⟩))
  (LF (ok_seq (ok_aload (Or.inl s0_155))
   (ok_seq (ok_push (by decide) (Or.inl s0_157))
   (ok_seq (ok_iaload s0_158)
   (ok_seq (ok_iload (Or.inl s0_159))
   (ok_iload (Or.inl s0_161)))))))))
  (ND (ND (LF (⟨⟨leb rfl, leb rfl, leb rfl, rfl⟩, (plainFor_of_name pn_1), okc_s s0_163 (k_2 hw)⟩))
  (LF (ok_seq (ok_iastore s0_166)
   (ok_seq (ok_aload (Or.inl s0_167))
   (ok_seq (ok_push (by decide) (Or.inl s0_169))
   (ok_seq (ok_iload (Or.inl s0_170))
   (ok_iload (Or.inl s0_172))))))))
  (ND (LF (⟨⟨leb rfl, leb rfl, leb rfl, rfl⟩, (plainFor_of_name pn_1), okc_s s0_174 (k_2 hw)⟩))
  (LF (ok_seq (ok_aload (Or.inl s0_177))
   (ok_seq (ok_push (by decide) (Or.inl s0_179))
   (ok_seq (ok_iaload s0_180)
   (ok_seq (ok_iload (Or.inl s0_181))
   (ok_iload (Or.inl s0_183))))))))))))
  (ND (ND (ND (ND (LF (⟨⟨leb rfl, leb rfl, leb rfl, rfl⟩, (plainFor_of_name pn_1), okc_s s0_185 (k_2 hw)⟩))
  (ND (LF (ok_seq (ok_iastore s0_188)
   (ok_seq (ok_aload (Or.inl s0_189))
   (ok_seq (ok_push (by decide) (Or.inl s0_191))
   (ok_seq (ok_iload (Or.inl s0_192))
   (ok_iload (Or.inl s0_194)))))))
  (LF (⟨⟨leb rfl, leb rfl, leb rfl, rfl⟩, (plainFor_of_name pn_1), okc_s s0_196 (k_2 hw)⟩))))
  (ND (ND (LF (ok_seq (ok_push (by decide) (Or.inl s0_199))
   (ok_seq (ok_iastore s0_200)
   (ok_seq (ok_aload (Or.inl s0_201))
   (ok_seq (ok_push (by decide) (Or.inl s0_203))
   (ok_seq (ok_iload (Or.inl s0_204))
   (ok_iload (Or.inl s0_206))))))))
  (LF (⟨⟨leb rfl, leb rfl, leb rfl, rfl⟩, (plainFor_of_name pn_1), okc_s s0_208 (k_2 hw)⟩)))
  (ND (LF (ok_seq (ok_push (by decide) (Or.inl s0_211))
   (ok_seq (ok_iastore s0_212)
   (ok_seq (ok_aload (Or.inl s0_213))
   (ok_seq (ok_push (by decide) (Or.inl s0_215))
   (ok_seq (ok_iload (Or.inl s0_216))
   (ok_iload (Or.inl s0_218))))))))
  (LF (⟨⟨leb rfl, leb rfl, leb rfl, rfl⟩, (plainFor_of_name pn_1), okc_s s0_220 (k_2 hw)⟩)))))
  (ND (ND (LF (ok_seq (ok_push (by decide) (Or.inl s0_223))
   (ok_seq (ok_iastore s0_224)
   (ok_seq (ok_aload (Or.inl s0_225))
   (ok_seq (ok_push (by decide) (Or.inl s0_227))
   (ok_seq (ok_iload (Or.inl s0_228))
   (ok_iload (Or.inl s0_230))))))))
  (ND (LF (⟨⟨leb rfl, leb rfl, leb rfl, rfl⟩, (plainFor_of_name pn_1), okc_s s0_232 (k_2 hw)⟩))
  (LF (ok_seq (ok_push (by decide) (Or.inl s0_235))
   (ok_iastore s0_236)))))
  (ND (ND (LF (ok_iload (Or.inr ⟨2, rfl, s0_237⟩)))
  (LF (ok_seq (ok_push (by decide) (Or.inl s0_241))
   (ok_seq (ok_rem s0_242)
   (ok_seq (ok_istore (leb rfl) (Or.inl s0_243))
   (ok_iload (Or.inr ⟨3, rfl, s0_245⟩)))))))
  (ND (LF (ok_seq (ok_push (by decide) (Or.inl s0_249))
   (ok_seq (ok_rem s0_250)
   (ok_istore (leb rfl) (Or.inl s0_251)))))
  (LF (ok_seq (ok_new s0_253 (k_3 hw))
   (ok_seq (ok_dup s0_256)
   (ok_seq (ok_iload (Or.inl s0_257))
   (ok_seq (ok_aload (Or.inl s0_259))
   (ok_aload (Or.inl s0_261)))))))))))
  (ND (ND (ND (LF (⟨⟨leb rfl, leb rfl, leb rfl, rfl⟩, (plainFor_of_name pn_4), okc_c s0_263 (k_5 hw)⟩))
  (ND (LF (ok_astore (leb rfl) (Or.inl s0_266)))
  (LF (ok_seq (ok_aload (Or.inl s0_268))
   (ok_seq (ok_iload (Or.inl s0_270))
   (ok_seq (ok_iload (Or.inl s0_272))
   (ok_iload (Or.inl s0_274))))))))
  (ND (ND (LF (⟨⟨leb rfl, leb rfl, leb rfl, rfl⟩, (plainFor_of_name pn_1), okc_s s0_276 (k_2 hw)⟩))
  (LF (ok_seq (ok_iload (Or.inl s0_279))
   (ok_seq (ok_iload (Or.inl s0_281))
   (ok_iload (Or.inl s0_283))))))
  (ND (LF (⟨⟨leb rfl, leb rfl, leb rfl, rfl⟩, (plainFor_of_name pn_1), okc_s s0_285 (k_2 hw)⟩))
  (LF (⟨⟨leb rfl, leb rfl, leb rfl, rfl⟩, (plainFor_of_name pn_4), okc_v s0_288 (k_6 hw)⟩)))))
  (ND (ND (ND (LF (ok_seq (ok_istore (leb rfl) (Or.inl s0_291))
   (ok_seq (ok_aload (Or.inl s0_293))
   (ok_seq (ok_iload (Or.inl s0_295))
   (ok_iload (Or.inl s0_297))))))
  (LF (⟨⟨leb rfl, leb rfl, leb rfl, rfl⟩, (plainFor_of_name pn_1), okc_s s0_299 (k_7 hw)⟩)))
  (ND (LF (ok_seq (ok_iload (Or.inl s0_302))
   (ok_iload (Or.inl s0_304))))
  (LF (⟨⟨leb rfl, leb rfl, leb rfl, rfl⟩, (plainFor_of_name pn_1), okc_s s0_306 (k_2 hw)⟩))))
  (ND (ND (LF (ok_seq (ok_istore (leb rfl) (Or.inl s0_309))
   (ok_seq (ok_iload (Or.inl s0_311))
   (ok_seq (ok_iload (Or.inl s0_313))
   (ok_icmp s0_315)))))
  (LF (ok_seq (ok_push (by decide) (Or.inl s0_318))
   (ok_goto s0_319))))
  (ND (LF (ok_push (by decide) (Or.inl s0_322)))
  (LF (⟨s0_323, rfl⟩))))))))
set_option maxRecDepth 65536 in
set_option maxHeartbeats 40000000 in
theorem okq1 (l : Launch) {Z : State} {a0 : Array Value} (hw : HW1 Z a0) (n0 : Nat) (τ : Int → Int32) : AllT (PQ l Z a0 n0 τ 1) tq1 := (ND (ND (LF (ok_seq (ok_iload (Or.inr ⟨0, rfl, s1_0⟩))
   (ok_seq (ok_iload (Or.inr ⟨1, rfl, s1_1⟩))
   (ok_seq (ok_add s1_2)
   (ok_seq (ok_push (by decide) (Or.inl s1_3))
   (ok_seq (ok_rem s1_4)
   (ok_seq (ok_istore (leb rfl) (Or.inr ⟨3, rfl, s1_5⟩))
   (ok_seq (ok_iload (Or.inr ⟨2, rfl, s1_6⟩))
   (ok_if s1_7)))))))))
  (LF (ok_seq (ok_push (by decide) (Or.inl s1_10))
   (ok_seq (ok_iload (Or.inr ⟨3, rfl, s1_11⟩))
   (ok_seq (ok_sub s1_12)
   (ok_goto s1_13))))))
  (ND (LF (ok_iload (Or.inr ⟨3, rfl, s1_16⟩)))
  (LF (⟨s1_17, rfl⟩))))
set_option maxRecDepth 65536 in
set_option maxHeartbeats 40000000 in
theorem okq2 (l : Launch) {Z : State} {a0 : Array Value} (hw : HW1 Z a0) (n0 : Nat) (τ : Int → Int32) : AllT (PQ l Z a0 n0 τ 2) tq2 := (ND (ND (ND (ND (LF (ok_seq (ok_aload (Or.inr ⟨0, rfl, s2_0⟩))
   (ok_seq (ok_init s2_1 (k_8 hw) (by decide) (by decide))
   (ok_seq (ok_aload (Or.inr ⟨3, rfl, s2_4⟩))
   (ok_seq (ok_len s2_5)
   (ok_seq (ok_istore (leb rfl) (Or.inl s2_6))
   (ok_seq (ok_aload (Or.inr ⟨0, rfl, s2_8⟩))
   (ok_seq (ok_aload (Or.inr ⟨2, rfl, s2_9⟩))
   (ok_seq (ok_clone s2_10 (k_9 hw) (by decide) (by decide))
   (ok_seq (ok_cast s2_13 (hw _ (List.mem_of_getElem? (i := 22) rfl)))
   (ok_seq (ok_put s2_16 (k_10 hw) (fun v => by cases v <;> rfl) (fun v => by cases v <;> rfl))
   (ok_seq (ok_aload (Or.inr ⟨0, rfl, s2_19⟩))
   (ok_seq (ok_aload (Or.inr ⟨3, rfl, s2_20⟩))
   (ok_seq (ok_clone s2_21 (k_9 hw) (by decide) (by decide))
   (ok_seq (ok_cast s2_24 (hw _ (List.mem_of_getElem? (i := 22) rfl)))
   (ok_seq (ok_put s2_27 (k_11 hw) (fun v => by cases v <;> rfl) (fun v => by cases v <;> rfl))
   (ok_seq (ok_aload (Or.inr ⟨0, rfl, s2_30⟩))
   (ok_seq (ok_iload (Or.inl s2_31))
   (ok_seq (ok_newA s2_33 (k_0 hw))
   (ok_seq (ok_put s2_35 (k_12 hw) (fun v => by cases v <;> rfl) (fun v => by cases v <;> rfl))
   (ok_seq (ok_aload (Or.inr ⟨0, rfl, s2_38⟩))
   (ok_seq (ok_iload (Or.inl s2_39))
   (ok_seq (ok_newA s2_41 (k_0 hw))
   (ok_seq (ok_put s2_43 (k_13 hw) (fun v => by cases v <;> rfl) (fun v => by cases v <;> rfl))
   (ok_seq (ok_aload (Or.inr ⟨0, rfl, s2_46⟩))
   (ok_seq (ok_iload (Or.inl s2_47))
   (ok_seq (ok_newA s2_49 (k_0 hw))
   (ok_seq (ok_put s2_51 (k_14 hw) (fun v => by cases v <;> rfl) (fun v => by cases v <;> rfl))
   (ok_seq (ok_aload (Or.inr ⟨0, rfl, s2_54⟩))
   (ok_seq (ok_iload (Or.inl s2_55))
   (ok_seq (ok_newA s2_57 (k_0 hw))
   (ok_seq (ok_put s2_59 (k_15 hw) (fun v => by cases v <;> rfl) (fun v => by cases v <;> rfl))
   (ok_seq (ok_aload (Or.inr ⟨0, rfl, s2_62⟩))
   (ok_seq (ok_get s2_63 (k_16 hw))
   (ok_seq (ok_iload (Or.inr ⟨1, rfl, s2_66⟩))
   (ok_seq (ok_push (by decide) (Or.inl s2_67))
   (ok_seq (ok_iastore s2_68)
   (ok_seq (ok_aload (Or.inr ⟨2, rfl, s2_69⟩))
   (ok_seq (ok_clone s2_70 (k_9 hw) (by decide) (by decide))
   (ok_seq (ok_cast s2_73 (hw _ (List.mem_of_getElem? (i := 22) rfl)))
   (ok_seq (ok_astore (leb rfl) (Or.inl s2_76))
   (ok_seq (ok_aload (Or.inl s2_78))
   (ok_seq (ok_iload (Or.inr ⟨1, rfl, s2_80⟩))
   (ok_seq (ok_iload (Or.inl s2_81))
   (ok_seq (ok_iastore s2_83)
   (ok_seq (ok_new s2_84 (k_17 hw))
   (ok_seq (ok_dup s2_87)
   (ok_seq (ok_aload (Or.inl s2_88))
   (ok_seq (ok_iload (Or.inl s2_90))
   (ok_seq (ok_push (by decide) (Or.inl s2_92))
   (ok_add s2_93)))))))))))))))))))))))))))))))))))))))))))))))))))
  (ND (LF (⟨⟨leb rfl, leb rfl, leb rfl, rfl⟩, (plainFor_of_name pn_18), okc_c s2_94 (k_19 hw)⟩))
  (LF (ok_seq (ok_astore (leb rfl) (Or.inl s2_97))
   (ok_seq (ok_iload (Or.inl s2_99))
   (ok_seq (ok_newA s2_101 (k_0 hw))
   (ok_seq (ok_astore (leb rfl) (Or.inl s2_103))
   (ok_seq (ok_iload (Or.inl s2_105))
   (ok_seq (ok_newA s2_107 (k_0 hw))
   (ok_seq (ok_astore (leb rfl) (Or.inl s2_109))
   (ok_seq (ok_push (by decide) (Or.inl s2_111))
   (ok_seq (ok_istore (leb rfl) (Or.inl s2_112))
   (ok_seq (ok_aload (Or.inl s2_114))
   (ok_seq (ok_iload (Or.inl s2_116))
   (ok_seq (ok_inc s2_118)
   (ok_seq (ok_iload (Or.inr ⟨1, rfl, s2_121⟩))
   (ok_seq (ok_iastore s2_122)
   (ok_seq (ok_push (by decide) (Or.inl s2_123))
   (ok_istore (leb rfl) (Or.inl s2_124))))))))))))))))))))
  (ND (ND (LF (ok_seq (ok_iload (Or.inl s2_126))
   (ok_seq (ok_iload (Or.inl s2_128))
   (ok_icmp s2_130))))
  (LF (ok_seq (ok_aload (Or.inl s2_133))
   (ok_seq (ok_inc s2_135)
   (ok_seq (ok_iload (Or.inl s2_138))
   (ok_seq (ok_iaload s2_140)
   (ok_seq (ok_istore (leb rfl) (Or.inl s2_141))
   (ok_seq (ok_aload (Or.inl s2_143))
   (ok_seq (ok_iload (Or.inl s2_145))
   (ok_seq (ok_iload (Or.inl s2_147))
   (ok_seq (ok_iastore s2_149)
   (ok_seq (ok_aload (Or.inl s2_150))
   (ok_iload (Or.inl s2_152))))))))))))))
  (ND (LF (⟨⟨leb rfl, leb rfl, leb rfl, rfl⟩, (plainFor_of_name pn_18), okc_v s2_154 (k_20 hw)⟩))
  (LF (ok_seq (ok_push (by decide) (Or.inl s2_157))
   (ok_seq (ok_sub s2_158)
   (ok_istore (leb rfl) (Or.inl s2_159))))))))
  (ND (ND (LF (ok_seq (ok_iload (Or.inl s2_161))
   (ok_seq (ok_aload (Or.inl s2_163))
   (ok_iload (Or.inl s2_165)))))
  (ND (LF (⟨⟨leb rfl, leb rfl, leb rfl, rfl⟩, (plainFor_of_name pn_18), okc_v s2_167 (k_21 hw)⟩))
  (LF (ok_icmp s2_170))))
  (ND (ND (LF (ok_seq (ok_aload (Or.inl s2_173))
   (ok_seq (ok_iload (Or.inl s2_175))
   (ok_seq (ok_inc s2_177)
   (ok_seq (ok_aload (Or.inl s2_180))
   (ok_iload (Or.inl s2_182)))))))
  (LF (⟨⟨leb rfl, leb rfl, leb rfl, rfl⟩, (plainFor_of_name pn_18), okc_v s2_184 (k_22 hw)⟩)))
  (ND (LF (ok_seq (ok_iastore s2_187)
   (ok_seq (ok_inc s2_188)
   (ok_goto s2_191))))
  (LF (ok_seq (ok_inc s2_194)
   (ok_goto s2_197)))))))
  (ND (ND (ND (LF (ok_seq (ok_push (by decide) (Or.inl s2_200))
   (ok_istore (leb rfl) (Or.inl s2_201))))
  (ND (LF (ok_seq (ok_iload (Or.inl s2_203))
   (ok_seq (ok_iload (Or.inl s2_205))
   (ok_icmp s2_207))))
  (LF (ok_seq (ok_aload (Or.inr ⟨0, rfl, s2_210⟩))
   (ok_seq (ok_aload (Or.inl s2_211))
   (ok_seq (ok_iload (Or.inl s2_213))
   (ok_seq (ok_iaload s2_215)
   (ok_seq (ok_aload (Or.inl s2_216))
   (ok_seq (ok_iload (Or.inl s2_218))
   (ok_seq (ok_push (by decide) (Or.inl s2_220))
   (ok_seq (ok_add s2_221)
   (ok_seq (ok_iload (Or.inl s2_222))
   (ok_seq (ok_rem s2_224)
   (ok_iaload s2_225))))))))))))))
  (ND (ND (LF (⟨⟨leb rfl, leb rfl, leb rfl, rfl⟩, (plainFor_of_name pn_4), okc_m s2_226 (k_23 hw)⟩))
  (LF (ok_seq (ok_inc s2_229)
   (ok_goto s2_232))))
  (ND (LF (ok_seq (ok_iload (Or.inl s2_235))
   (ok_seq (ok_push (by decide) (Or.inl s2_237))
   (ok_seq (ok_sub s2_238)
   (ok_istore (leb rfl) (Or.inl s2_239))))))
  (LF (ok_seq (ok_iload (Or.inl s2_241))
   (ok_if s2_243))))))
  (ND (ND (LF (ok_seq (ok_aload (Or.inl s2_246))
   (ok_seq (ok_iload (Or.inl s2_248))
   (ok_seq (ok_iaload s2_250)
   (ok_seq (ok_istore (leb rfl) (Or.inl s2_251))
   (ok_seq (ok_aload (Or.inr ⟨0, rfl, s2_253⟩))
   (ok_seq (ok_get s2_254 (k_24 hw))
   (ok_seq (ok_iload (Or.inl s2_257))
   (ok_seq (ok_dup2 s2_259)
   (ok_seq (ok_iaload s2_260)
   (ok_seq (ok_push (by decide) (Or.inl s2_261))
   (ok_seq (ok_add s2_262)
   (ok_seq (ok_iastore s2_263)
   (ok_seq (ok_iload (Or.inl s2_264))
   (ok_seq (ok_iload (Or.inr ⟨1, rfl, s2_266⟩))
   (ok_icmp s2_267))))))))))))))))
  (ND (LF (ok_seq (ok_aload (Or.inr ⟨0, rfl, s2_270⟩))
   (ok_seq (ok_get s2_271 (k_24 hw))
   (ok_seq (ok_aload (Or.inr ⟨0, rfl, s2_274⟩))
   (ok_seq (ok_get s2_275 (k_16 hw))
   (ok_seq (ok_iload (Or.inl s2_278))
   (ok_seq (ok_iaload s2_280)
   (ok_seq (ok_dup2 s2_281)
   (ok_seq (ok_iaload s2_282)
   (ok_seq (ok_aload (Or.inr ⟨0, rfl, s2_283⟩))
   (ok_seq (ok_get s2_284 (k_24 hw))
   (ok_seq (ok_iload (Or.inl s2_287))
   (ok_seq (ok_iaload s2_289)
   (ok_seq (ok_add s2_290)
   (ok_iastore s2_291)))))))))))))))
  (LF (ok_seq (ok_inc s2_292)
   (ok_goto s2_295)))))
  (ND (ND (LF (ok_seq (ok_push (by decide) (Or.inl s2_298))
   (ok_istore (leb rfl) (Or.inl s2_299))))
  (LF (ok_seq (ok_iload (Or.inl s2_301))
   (ok_seq (ok_iload (Or.inl s2_303))
   (ok_icmp s2_305)))))
  (ND (LF (ok_seq (ok_aload (Or.inr ⟨0, rfl, s2_308⟩))
   (ok_seq (ok_get s2_309 (k_25 hw))
   (ok_seq (ok_aload (Or.inl s2_312))
   (ok_seq (ok_iload (Or.inl s2_314))
   (ok_seq (ok_iaload s2_316)
   (ok_seq (ok_aload (Or.inl s2_317))
   (ok_seq (ok_iload (Or.inl s2_319))
   (ok_seq (ok_aload (Or.inr ⟨0, rfl, s2_321⟩))
   (ok_seq (ok_get s2_322 (k_24 hw))
   (ok_seq (ok_aload (Or.inl s2_325))
   (ok_seq (ok_iload (Or.inl s2_327))
   (ok_seq (ok_iaload s2_329)
   (ok_seq (ok_iaload s2_330)
   (ok_seq (ok_add s2_331)
   (ok_seq (ok_push (by decide) (Or.inl s2_332))
   (ok_seq (ok_sub s2_333)
   (ok_seq (ok_iaload s2_334)
   (ok_seq (ok_iastore s2_335)
   (ok_seq (ok_inc s2_336)
   (ok_goto s2_339)))))))))))))))))))))
  (LF (⟨s2_342, rfl⟩)))))))
set_option maxRecDepth 65536 in
set_option maxHeartbeats 40000000 in
theorem okq3 (l : Launch) {Z : State} {a0 : Array Value} (hw : HW1 Z a0) (n0 : Nat) (τ : Int → Int32) : AllT (PQ l Z a0 n0 τ 3) tq3 := (ND (ND (ND (LF (ok_seq (ok_aload (Or.inr ⟨0, rfl, s4_0⟩))
   (ok_seq (ok_init s4_1 (k_26 hw) (by decide) (by decide))
   (ok_seq (ok_aload (Or.inr ⟨0, rfl, s4_4⟩))
   (ok_seq (ok_iload (Or.inr ⟨2, rfl, s4_5⟩))
   (ok_seq (ok_push (by decide) (Or.inl s4_6))
   (ok_seq (ok_add s4_7)
   (ok_seq (ok_newA s4_8 (k_0 hw))
   (ok_seq (ok_put s4_10 (k_27 hw) (fun v => by cases v <;> rfl) (fun v => by cases v <;> rfl))
   (ok_seq (ok_aload (Or.inr ⟨1, rfl, s4_13⟩))
   (ok_seq (ok_astore (leb rfl) (Or.inr ⟨3, rfl, s4_14⟩))
   (ok_seq (ok_aload (Or.inr ⟨3, rfl, s4_15⟩))
   (ok_seq (ok_len s4_16)
   (ok_seq (ok_istore (leb rfl) (Or.inl s4_17))
   (ok_seq (ok_push (by decide) (Or.inl s4_19))
   (ok_istore (leb rfl) (Or.inl s4_20)))))))))))))))))
  (LF (ok_seq (ok_iload (Or.inl s4_22))
   (ok_seq (ok_iload (Or.inl s4_24))
   (ok_icmp s4_26)))))
  (ND (LF (ok_seq (ok_aload (Or.inr ⟨3, rfl, s4_29⟩))
   (ok_seq (ok_iload (Or.inl s4_30))
   (ok_seq (ok_iaload s4_32)
   (ok_seq (ok_istore (leb rfl) (Or.inl s4_33))
   (ok_seq (ok_aload (Or.inr ⟨0, rfl, s4_35⟩))
   (ok_seq (ok_get s4_36 (k_28 hw))
   (ok_seq (ok_iload (Or.inl s4_39))
   (ok_seq (ok_push (by decide) (Or.inl s4_41))
   (ok_seq (ok_add s4_42)
   (ok_seq (ok_dup2 s4_43)
   (ok_seq (ok_iaload s4_44)
   (ok_seq (ok_push (by decide) (Or.inl s4_45))
   (ok_seq (ok_add s4_46)
   (ok_seq (ok_iastore s4_47)
   (ok_seq (ok_inc s4_48)
   (ok_goto s4_51)))))))))))))))))
  (ND (LF (ok_seq (ok_push (by decide) (Or.inl s4_54))
   (ok_istore (leb rfl) (Or.inr ⟨3, rfl, s4_55⟩))))
  (LF (ok_seq (ok_iload (Or.inr ⟨3, rfl, s4_56⟩))
   (ok_seq (ok_iload (Or.inr ⟨2, rfl, s4_57⟩))
   (ok_icmp s4_58)))))))
  (ND (ND (LF (ok_seq (ok_aload (Or.inr ⟨0, rfl, s4_61⟩))
   (ok_seq (ok_get s4_62 (k_28 hw))
   (ok_seq (ok_iload (Or.inr ⟨3, rfl, s4_65⟩))
   (ok_seq (ok_push (by decide) (Or.inl s4_66))
   (ok_seq (ok_add s4_67)
   (ok_seq (ok_dup2 s4_68)
   (ok_seq (ok_iaload s4_69)
   (ok_seq (ok_aload (Or.inr ⟨0, rfl, s4_70⟩))
   (ok_seq (ok_get s4_71 (k_28 hw))
   (ok_seq (ok_iload (Or.inr ⟨3, rfl, s4_74⟩))
   (ok_seq (ok_iaload s4_75)
   (ok_seq (ok_add s4_76)
   (ok_seq (ok_iastore s4_77)
   (ok_seq (ok_inc s4_78)
   (ok_goto s4_81))))))))))))))))
  (LF (ok_seq (ok_aload (Or.inr ⟨0, rfl, s4_84⟩))
   (ok_seq (ok_aload (Or.inr ⟨1, rfl, s4_85⟩))
   (ok_seq (ok_len s4_86)
   (ok_seq (ok_newA s4_87 (k_0 hw))
   (ok_seq (ok_put s4_89 (k_29 hw) (fun v => by cases v <;> rfl) (fun v => by cases v <;> rfl))
   (ok_seq (ok_iload (Or.inr ⟨2, rfl, s4_92⟩))
   (ok_seq (ok_newA s4_93 (k_0 hw))
   (ok_seq (ok_astore (leb rfl) (Or.inr ⟨3, rfl, s4_95⟩))
   (ok_seq (ok_aload (Or.inr ⟨0, rfl, s4_96⟩))
   (ok_seq (ok_get s4_97 (k_28 hw))
   (ok_seq (ok_push (by decide) (Or.inl s4_100))
   (ok_seq (ok_aload (Or.inr ⟨3, rfl, s4_101⟩))
   (ok_seq (ok_push (by decide) (Or.inl s4_102))
   (ok_seq (ok_iload (Or.inr ⟨2, rfl, s4_103⟩))
   (ok_seq (ok_copy s4_104 (k_30 hw) (by decide) (by decide))
   (ok_seq (ok_push (by decide) (Or.inl s4_107))
   (ok_istore (leb rfl) (Or.inl s4_108))))))))))))))))))))
  (ND (LF (ok_seq (ok_iload (Or.inl s4_110))
   (ok_seq (ok_aload (Or.inr ⟨1, rfl, s4_112⟩))
   (ok_seq (ok_len s4_113)
   (ok_icmp s4_114)))))
  (ND (LF (ok_seq (ok_aload (Or.inr ⟨0, rfl, s4_117⟩))
   (ok_seq (ok_get s4_118 (k_31 hw))
   (ok_seq (ok_aload (Or.inr ⟨3, rfl, s4_121⟩))
   (ok_seq (ok_aload (Or.inr ⟨1, rfl, s4_122⟩))
   (ok_seq (ok_iload (Or.inl s4_123))
   (ok_seq (ok_iaload s4_125)
   (ok_seq (ok_dup2 s4_126)
   (ok_seq (ok_iaload s4_127)
   (ok_seq (ok_dupX2 s4_128)
   (ok_seq (ok_push (by decide) (Or.inl s4_129))
   (ok_seq (ok_add s4_130)
   (ok_seq (ok_iastore s4_131)
   (ok_seq (ok_iload (Or.inl s4_132))
   (ok_seq (ok_iastore s4_134)
   (ok_seq (ok_inc s4_135)
   (ok_goto s4_138)))))))))))))))))
  (LF (⟨s4_141, rfl⟩))))))
set_option maxRecDepth 65536 in
set_option maxHeartbeats 40000000 in
theorem okq4 (l : Launch) {Z : State} {a0 : Array Value} (hw : HW1 Z a0) (n0 : Nat) (τ : Int → Int32) : AllT (PQ l Z a0 n0 τ 4) tq4 := (ND (LF (ok_seq (ok_aload (Or.inr ⟨0, rfl, s5_0⟩))
   (ok_seq (ok_get s5_1 (k_28 hw))
   (ok_seq (ok_iload (Or.inr ⟨1, rfl, s5_4⟩))
   (ok_seq (ok_push (by decide) (Or.inl s5_5))
   (ok_seq (ok_add s5_6)
   (ok_iaload s5_7)))))))
  (LF (⟨s5_8, rfl⟩)))
set_option maxRecDepth 65536 in
set_option maxHeartbeats 40000000 in
theorem okq5 (l : Launch) {Z : State} {a0 : Array Value} (hw : HW1 Z a0) (n0 : Nat) (τ : Int → Int32) : AllT (PQ l Z a0 n0 τ 5) tq5 := (ND (LF (ok_seq (ok_aload (Or.inr ⟨0, rfl, s6_0⟩))
   (ok_seq (ok_get s6_1 (k_28 hw))
   (ok_seq (ok_iload (Or.inr ⟨1, rfl, s6_4⟩))
   (ok_iaload s6_5)))))
  (LF (⟨s6_6, rfl⟩)))
set_option maxRecDepth 65536 in
set_option maxHeartbeats 40000000 in
theorem okq6 (l : Launch) {Z : State} {a0 : Array Value} (hw : HW1 Z a0) (n0 : Nat) (τ : Int → Int32) : AllT (PQ l Z a0 n0 τ 6) tq6 := (ND (LF (ok_seq (ok_aload (Or.inr ⟨0, rfl, s7_0⟩))
   (ok_seq (ok_get s7_1 (k_31 hw))
   (ok_seq (ok_iload (Or.inr ⟨1, rfl, s7_4⟩))
   (ok_iaload s7_5)))))
  (LF (⟨s7_6, rfl⟩)))
set_option maxRecDepth 65536 in
set_option maxHeartbeats 40000000 in
theorem okq7 (l : Launch) {Z : State} {a0 : Array Value} (hw : HW1 Z a0) (n0 : Nat) (τ : Int → Int32) : AllT (PQ l Z a0 n0 τ 7) tq7 := (ND (LF (ok_seq (ok_aload (Or.inr ⟨0, rfl, s8_0⟩))
   (ok_seq (ok_get s8_1 (k_32 hw))
   (ok_seq (ok_iload (Or.inr ⟨1, rfl, s8_4⟩))
   (ok_seq (ok_iload (Or.inr ⟨2, rfl, s8_5⟩))
   (ok_seq (ok_iastore s8_6)
   (ok_seq (ok_aload (Or.inr ⟨0, rfl, s8_7⟩))
   (ok_seq (ok_get s8_8 (k_33 hw))
   (ok_seq (ok_iload (Or.inr ⟨2, rfl, s8_11⟩))
   (ok_seq (ok_iload (Or.inr ⟨1, rfl, s8_12⟩))
   (ok_iastore s8_13)))))))))))
  (LF (⟨s8_14, rfl⟩)))
set_option maxRecDepth 65536 in
set_option maxHeartbeats 40000000 in
theorem okq8 (l : Launch) {Z : State} {a0 : Array Value} (hw : HW1 Z a0) (n0 : Nat) (τ : Int → Int32) : AllT (PQ l Z a0 n0 τ 8) tq8 := (ND (ND (LF (ok_seq (ok_iload (Or.inr ⟨1, rfl, s9_0⟩))
   (ok_seq (ok_iload (Or.inr ⟨2, rfl, s9_1⟩))
   (ok_icmp s9_2))))
  (ND (LF (ok_seq (ok_aload (Or.inr ⟨0, rfl, s9_5⟩))
   (ok_seq (ok_get s9_6 (k_24 hw))
   (ok_seq (ok_iload (Or.inr ⟨1, rfl, s9_9⟩))
   (ok_seq (ok_iaload s9_10)
   (ok_seq (ok_aload (Or.inr ⟨0, rfl, s9_11⟩))
   (ok_seq (ok_get s9_12 (k_24 hw))
   (ok_seq (ok_iload (Or.inr ⟨2, rfl, s9_15⟩))
   (ok_seq (ok_iaload s9_16)
   (ok_icmp s9_17))))))))))
  (LF (ok_seq (ok_aload (Or.inr ⟨0, rfl, s9_20⟩))
   (ok_seq (ok_get s9_21 (k_16 hw))
   (ok_seq (ok_iload (Or.inr ⟨1, rfl, s9_24⟩))
   (ok_seq (ok_iaload s9_25)
   (ok_seq (ok_istore (leb rfl) (Or.inr ⟨1, rfl, s9_26⟩))
   (ok_goto s9_27)))))))))
  (ND (LF (ok_seq (ok_aload (Or.inr ⟨0, rfl, s9_30⟩))
   (ok_seq (ok_get s9_31 (k_16 hw))
   (ok_seq (ok_iload (Or.inr ⟨2, rfl, s9_34⟩))
   (ok_seq (ok_iaload s9_35)
   (ok_seq (ok_istore (leb rfl) (Or.inr ⟨2, rfl, s9_36⟩))
   (ok_goto s9_37)))))))
  (ND (LF (ok_iload (Or.inr ⟨1, rfl, s9_40⟩)))
  (LF (⟨s9_41, rfl⟩)))))
set_option maxRecDepth 65536 in
set_option maxHeartbeats 40000000 in
theorem okq9 (l : Launch) {Z : State} {a0 : Array Value} (hw : HW1 Z a0) (n0 : Nat) (τ : Int → Int32) : AllT (PQ l Z a0 n0 τ 9) tq9 := (ND (ND (ND (ND (LF (ok_seq (ok_aload (Or.inr ⟨0, rfl, s10_0⟩))
   (ok_seq (ok_iload (Or.inr ⟨1, rfl, s10_1⟩))
   (ok_iload (Or.inr ⟨2, rfl, s10_2⟩)))))
  (ND (LF (⟨⟨leb rfl, leb rfl, leb rfl, rfl⟩, (plainFor_of_name pn_1), okc_s s10_3 (k_34 hw)⟩))
  (LF (ok_if s10_6))))
  (ND (ND (LF (ok_iload (Or.inr ⟨1, rfl, s10_9⟩)))
  (LF (⟨s10_10, rfl⟩)))
  (ND (LF (ok_seq (ok_aload (Or.inr ⟨0, rfl, s10_11⟩))
   (ok_iload (Or.inr ⟨1, rfl, s10_12⟩))))
  (LF (⟨⟨leb rfl, leb rfl, leb rfl, rfl⟩, (plainFor_of_name pn_1), okc_s s10_13 (k_35 hw)⟩)))))
  (ND (ND (ND (LF (ok_seq (ok_istore (leb rfl) (Or.inr ⟨3, rfl, s10_16⟩))
   (ok_seq (ok_iload (Or.inr ⟨3, rfl, s10_17⟩))
   (ok_if s10_18))))
  (LF (ok_seq (ok_aload (Or.inr ⟨0, rfl, s10_21⟩))
   (ok_seq (ok_iload (Or.inr ⟨3, rfl, s10_22⟩))
   (ok_iload (Or.inr ⟨2, rfl, s10_23⟩))))))
  (ND (LF (⟨⟨leb rfl, leb rfl, leb rfl, rfl⟩, (plainFor_of_name pn_1), okc_s s10_24 (k_34 hw)⟩))
  (LF (ok_if s10_27))))
  (ND (ND (LF (ok_iload (Or.inr ⟨3, rfl, s10_30⟩)))
  (LF (⟨s10_31, rfl⟩)))
  (ND (LF (ok_seq (ok_aload (Or.inr ⟨0, rfl, s10_32⟩))
   (ok_iload (Or.inr ⟨3, rfl, s10_33⟩))))
  (LF (⟨⟨leb rfl, leb rfl, leb rfl, rfl⟩, (plainFor_of_name pn_1), okc_s s10_34 (k_35 hw)⟩))))))
  (ND (ND (ND (ND (LF (ok_seq (ok_istore (leb rfl) (Or.inl s10_37))
   (ok_seq (ok_iload (Or.inl s10_39))
   (ok_if s10_41))))
  (LF (ok_seq (ok_aload (Or.inr ⟨0, rfl, s10_44⟩))
   (ok_seq (ok_iload (Or.inl s10_45))
   (ok_iload (Or.inr ⟨2, rfl, s10_47⟩))))))
  (ND (LF (⟨⟨leb rfl, leb rfl, leb rfl, rfl⟩, (plainFor_of_name pn_1), okc_s s10_48 (k_34 hw)⟩))
  (LF (ok_if s10_51))))
  (ND (ND (LF (ok_iload (Or.inl s10_54)))
  (LF (⟨s10_56, rfl⟩)))
  (ND (LF (ok_seq (ok_aload (Or.inr ⟨0, rfl, s10_57⟩))
   (ok_iload (Or.inl s10_58))))
  (LF (⟨⟨leb rfl, leb rfl, leb rfl, rfl⟩, (plainFor_of_name pn_1), okc_s s10_60 (k_35 hw)⟩)))))
  (ND (ND (ND (LF (ok_seq (ok_istore (leb rfl) (Or.inl s10_63))
   (ok_seq (ok_iload (Or.inl s10_65))
   (ok_if s10_67))))
  (LF (ok_seq (ok_aload (Or.inr ⟨0, rfl, s10_70⟩))
   (ok_seq (ok_iload (Or.inl s10_71))
   (ok_iload (Or.inr ⟨2, rfl, s10_73⟩))))))
  (ND (LF (⟨⟨leb rfl, leb rfl, leb rfl, rfl⟩, (plainFor_of_name pn_1), okc_s s10_74 (k_34 hw)⟩))
  (LF (ok_if s10_77))))
  (ND (ND (LF (ok_iload (Or.inl s10_80)))
  (LF (⟨s10_82, rfl⟩)))
  (ND (LF (ok_push (by decide) (Or.inl s10_83)))
  (LF (⟨s10_84, rfl⟩)))))))
set_option maxRecDepth 65536 in
set_option maxHeartbeats 40000000 in
theorem okq10 (l : Launch) {Z : State} {a0 : Array Value} (hw : HW1 Z a0) (n0 : Nat) (τ : Int → Int32) : AllT (PQ l Z a0 n0 τ 10) tq10 := (ND (ND (ND (ND (LF (ok_seq (ok_aload (Or.inr ⟨0, rfl, s11_0⟩))
   (ok_iload (Or.inr ⟨2, rfl, s11_1⟩))))
  (LF (⟨⟨leb rfl, leb rfl, leb rfl, rfl⟩, (plainFor_of_name pn_1), okc_s s11_2 (k_35 hw)⟩)))
  (ND (LF (ok_seq (ok_istore (leb rfl) (Or.inr ⟨3, rfl, s11_5⟩))
   (ok_seq (ok_aload (Or.inr ⟨0, rfl, s11_6⟩))
   (ok_iload (Or.inr ⟨3, rfl, s11_7⟩)))))
  (LF (⟨⟨leb rfl, leb rfl, leb rfl, rfl⟩, (plainFor_of_name pn_1), okc_s s11_8 (k_35 hw)⟩))))
  (ND (ND (LF (ok_seq (ok_istore (leb rfl) (Or.inl s11_11))
   (ok_seq (ok_aload (Or.inr ⟨0, rfl, s11_13⟩))
   (ok_iload (Or.inl s11_14)))))
  (LF (⟨⟨leb rfl, leb rfl, leb rfl, rfl⟩, (plainFor_of_name pn_1), okc_s s11_16 (k_35 hw)⟩)))
  (ND (LF (ok_seq (ok_istore (leb rfl) (Or.inl s11_19))
   (ok_seq (ok_aload (Or.inr ⟨0, rfl, s11_21⟩))
   (ok_iload (Or.inl s11_22)))))
  (LF (⟨⟨leb rfl, leb rfl, leb rfl, rfl⟩, (plainFor_of_name pn_1), okc_s s11_24 (k_35 hw)⟩)))))
  (ND (ND (ND (LF (ok_seq (ok_istore (leb rfl) (Or.inl s11_27))
   (ok_seq (ok_iload (Or.inr ⟨1, rfl, s11_29⟩))
   (ok_seq (ok_iload (Or.inr ⟨2, rfl, s11_30⟩))
   (ok_icmp s11_31)))))
  (LF (ok_seq (ok_iload (Or.inr ⟨1, rfl, s11_34⟩))
   (ok_seq (ok_iload (Or.inr ⟨3, rfl, s11_35⟩))
   (ok_icmp s11_36)))))
  (ND (LF (ok_seq (ok_iload (Or.inr ⟨1, rfl, s11_39⟩))
   (ok_seq (ok_iload (Or.inl s11_40))
   (ok_icmp s11_42))))
  (LF (ok_seq (ok_iload (Or.inr ⟨1, rfl, s11_45⟩))
   (ok_seq (ok_iload (Or.inl s11_46))
   (ok_icmp s11_48))))))
  (ND (ND (LF (ok_seq (ok_iload (Or.inr ⟨1, rfl, s11_51⟩))
   (ok_seq (ok_iload (Or.inl s11_52))
   (ok_icmp s11_54))))
  (LF (ok_seq (ok_push (by decide) (Or.inl s11_57))
   (ok_goto s11_58))))
  (ND (LF (ok_push (by decide) (Or.inl s11_61)))
  (LF (⟨s11_62, rfl⟩))))))
set_option maxRecDepth 65536 in
set_option maxHeartbeats 40000000 in
theorem okq11 (l : Launch) {Z : State} {a0 : Array Value} (hw : HW1 Z a0) (n0 : Nat) (τ : Int → Int32) : AllT (PQ l Z a0 n0 τ 11) tq11 := (ND (ND (LF (ok_seq (ok_iload (Or.inr ⟨1, rfl, s12_0⟩))
   (ok_if s12_1)))
  (LF (ok_seq (ok_push (by decide) (Or.inl s12_4))
   (ok_goto s12_5))))
  (ND (LF (ok_seq (ok_aload (Or.inr ⟨0, rfl, s12_8⟩))
   (ok_seq (ok_iload (Or.inr ⟨1, rfl, s12_9⟩))
   (ok_iaload s12_10))))
  (LF (⟨s12_11, rfl⟩))))
theorem tabok (l : Launch) {Z : State} {a0 : Array Value} (hw : HW1 Z a0) (n0 : Nat) (τ : Int → Int32) : TabOk l Z a0 KT n0 τ TQ mlQ frQ loQ yyQ bbQ rrQ := ⟨fun q pc e h => by
  have t : PQ l Z a0 n0 τ q pc e := (show AllQ (PQ l Z a0 n0 τ) TQ from (QN (okq0 l hw n0 τ) (QN (okq1 l hw n0 τ) (QN (okq2 l hw n0 τ) (QN (okq3 l hw n0 τ) (QN (okq4 l hw n0 τ) (QN (okq5 l hw n0 τ) (QN (okq6 l hw n0 τ) (QN (okq7 l hw n0 τ) (QN (okq8 l hw n0 τ) (QN (okq9 l hw n0 τ) (QN (okq10 l hw n0 τ) (QN (okq11 l hw n0 τ) QO))))))))))))) q pc e h
  exact t, kok hw⟩

def own_lab (F : Nat) (R I : Nat) : Nat := bif Nat.beq F 0 then (I + R) % 5 else 4 - (I + R) % 5
def own_i (n : Nat) : OwnI.MV := .inl (.ofNat n)
def own_par (F R N2 N3 N4 : Nat) : List OwnI.MV := ((((((List.replicate 5 (own_i 0)).set (own_lab F R 0) (own_i 0)).set (own_lab F R 1) (own_i (own_lab F R 0))).set (own_lab F R 2) (own_i (own_lab F R N2))).set (own_lab F R 3) (own_i (own_lab F R N3))).set (own_lab F R 4) (own_i (own_lab F R N4)))
def own_arc (F R : Nat) : List OwnI.MV := (((((List.replicate 5 (own_i 0)).set (own_lab F R 0) (own_i 0)).set (own_lab F R 1) (own_i 1)).set (own_lab F R 2) (own_i 2)).set (own_lab F R 3) (own_i 3)).set (own_lab F R 4) (own_i 4)
def own_k (i : Nat) : Option OwnI.MV := some (.inl (.ofNat (2147483648 + i)))
def own_s (n : Nat) : Option OwnI.MV := some (own_i n)
def own_sp (N2 N3 N4 : Nat) : OwnI.MO := .inr [.inl (-1), own_i 0, own_i N2, own_i N3, own_i N4]
def own_l0 (F R N2 N3 N4 : Nat) : List (Option OwnI.MV) := [own_k 0, own_k 1, own_k 2, own_k 3, own_s N2, own_s N3, own_s N4, some (.inr 1), own_s F, own_s R, none, none, none, none, none, none, none, none]
def own_l1 (F R N2 N3 N4 : Nat) (a b : Option OwnI.MV) : List (Option OwnI.MV) := [own_k 0, own_k 1, own_k 2, own_k 3, own_s N2, own_s N3, own_s N4, some (.inr 1), own_s F, own_s R, some (.inr 2), some (.inr 3), own_s (own_lab F R 0), a, b, none, none, none]
def own_l2 (F R N2 N3 N4 : Nat) (a b : Option OwnI.MV) : List (Option OwnI.MV) := [own_k 0, own_k 1, own_k 2, own_k 3, own_s N2, own_s N3, own_s N4, some (.inr 1), own_s F, own_s R, some (.inr 2), some (.inr 3), own_s (own_lab F R 0), a, b, some (.inr 4), none, none]
def own_A1 (F R N2 N3 N4 : Nat) : List OwnI.MO := [own_sp N2 N3 N4, .inr (own_par F R N2 N3 N4), .inr (own_arc F R)]
def own_g1 (F R N2 N3 N4 : Nat) : Option OwnI.MS := seg TQ mlQ frQ loQ 237 4000 0 (69, own_l0 F R N2 N3 N4, [], [own_sp N2 N3 N4], 1, 5)
def own_g2 (F R N2 N3 N4 : Nat) : Option OwnI.MS := seg TQ mlQ frQ loQ 268 4000 0 (253, own_l1 F R N2 N3 N4 (own_k 4) (own_k 5), [], own_A1 F R N2 N3 N4, 3, 15)
def own_g3 (F R N2 N3 N4 : Nat) (A : List OwnI.MO) (k n a b : Nat) : Option OwnI.MS := seg TQ mlQ frQ loQ 323 4000 0 (268, own_l2 F R N2 N3 N4 (own_s a) (own_s b), [], A, k, n)
def own_e1 (F R N2 N3 N4 : Nat) : Bool := isM (own_g1 F R N2 N3 N4) (237, own_l1 F R N2 N3 N4 none none, [], own_A1 F R N2 N3 N4, 3, 15)
def own_e3 (F R N2 N3 N4 : Nat) (A : List OwnI.MO) (k n : Nat) (a b : Nat) : Bool := match own_g3 F R N2 N3 N4 A k n a b with
  | some (pc, ls, st, A', k', n') => Nat.beq pc 323 && (match st with | [.inl (.ofNat v)] => Nat.beq v 1 | _ => false) && Nat.ble k' 48 && Nat.ble n' 256
  | none => false
def own_all (f : Nat → Nat → Bool) : Bool := (List.range 5).all fun a => (List.range 5).all fun b => f a b
def own_e2 (F R N2 N3 N4 : Nat) : Bool := match own_g2 F R N2 N3 N4 with
  | some (pc, ls, st, A', k', n') => Nat.beq pc 268 && eqL eqS ls (own_l2 F R N2 N3 N4 (own_k 4) (own_k 5)) && st.isEmpty && Nat.ble k' 48 && Nat.ble n' 256 && own_all (own_e3 F R N2 N3 N4 A' k' n')
  | none => false

def own_t (p0 p1 p2 p3 : Int32) (a b : Nat) : Int → Int32 := fun z => match z.toNat - 2147483648 with | 0 => p0 | 1 => p1 | 2 => p2 | 3 => p3 | 4 => Int32.ofInt (.ofNat a) | _ => Int32.ofInt (.ofNat b)
theorem own_ok {m : Nat} (h : m < 1000) : okI (.ofNat m) = true := okN (by omega)
theorem own_ex {k : Nat} {v : Int32} (hk : k < 1000) (h0 : 0 ≤ v.toInt) (h1 : v.toInt < k) : ∃ m, m < k ∧ ∀ τ : Int → Int32, v = upI τ (.ofNat m) := by
  refine ⟨v.toInt.toNat, by omega, fun τ => Int32.toInt_inj.mp ?_⟩
  rw [upI_int (own_ok (by omega))]
  simp only [Int.ofNat_eq_natCast]
  omega
theorem own_x2 (p : Int32) : ∃ m, m < 2 ∧ ∀ τ : Int → Int32, p &&& (1 : Int32) = upI τ (.ofNat m) := by
  have q : (p &&& (1 : Int32)).toInt = p.toInt % 2 := c_mask p 1 1 (by decide) (by decide)
  exact own_ex (by decide) (by omega) (by omega)
theorem own_x4 (p : Int32) : ∃ m, m < 4 ∧ ∀ τ : Int → Int32, p &&& (3 : Int32) = upI τ (.ofNat m) := by
  have q : (p &&& (3 : Int32)).toInt = p.toInt % 4 := c_mask p 3 2 (by decide) (by decide)
  exact own_ex (by decide) (by omega) (by omega)
theorem own_x3 (p : Int32) : ∃ m, m < 3 ∧ ∀ τ : Int → Int32, (p &&& (3 : Int32)) % (3 : Int32) = upI τ (.ofNat m) := by
  have q : (p &&& (3 : Int32)).toInt = p.toInt % 4 := c_mask p 3 2 (by decide) (by decide)
  have r := x_irem (a := p &&& 3) (b := 3) rfl (by decide : (3 : Int32).toInt = 3) (by omega)
  exact own_ex (by decide) (by omega) (by omega)
theorem own_x5 (p : Int32) : ∃ m, m < 5 ∧ ∀ τ : Int → Int32, ((p.toUInt32 >>> ((1 : Int32) &&& 31).toUInt32).toInt32) % (5 : Int32) = upI τ (.ofNat m) := by
  have q := c_iushr p 1 1 (by decide) (by decide)
  have r := x_irem (a := ((p.toUInt32 >>> ((1 : Int32) &&& 31).toUInt32).toInt32)) (b := 5) rfl (by decide : (5 : Int32).toInt = 5) (by omega)
  exact own_ex (by decide) (by omega) (by omega)
theorem own_x6 (p : Int32) : ∃ m, m < 5 ∧ ∀ τ : Int → Int32, (p &&& (2147483647 : Int32)) % (5 : Int32) = upI τ (.ofNat m) := by
  have q : (p &&& (2147483647 : Int32)).toInt = p.toInt % 2147483648 := c_mask p 2147483647 31 (by decide) (by decide)
  have r := x_irem (a := p &&& 2147483647) (b := 5) rfl (by decide : (5 : Int32).toInt = 5) (by omega)
  exact own_ex (by decide) (by omega) (by omega)
theorem own_all_ok {f : Nat → Nat → Bool} (h : own_all f = true) {a b : Nat} (ha : a < 5) (hb : b < 5) : f a b = true :=
  List.all_eq_true.mp (List.all_eq_true.mp h a (List.mem_range.mpr ha)) b (List.mem_range.mpr hb)

set_option maxRecDepth 65536 in
set_option maxHeartbeats 40000000 in
theorem own_f00000 : (own_e1 0 0 0 0 0 && own_e2 0 0 0 0 0) = true := by decide +kernel
set_option maxRecDepth 65536 in
set_option maxHeartbeats 40000000 in
theorem own_f00001 : (own_e1 0 0 0 0 1 && own_e2 0 0 0 0 1) = true := by decide +kernel
set_option maxRecDepth 65536 in
set_option maxHeartbeats 40000000 in
theorem own_f00002 : (own_e1 0 0 0 0 2 && own_e2 0 0 0 0 2) = true := by decide +kernel
set_option maxRecDepth 65536 in
set_option maxHeartbeats 40000000 in
theorem own_f00003 : (own_e1 0 0 0 0 3 && own_e2 0 0 0 0 3) = true := by decide +kernel
set_option maxRecDepth 65536 in
set_option maxHeartbeats 40000000 in
theorem own_f00010 : (own_e1 0 0 0 1 0 && own_e2 0 0 0 1 0) = true := by decide +kernel
set_option maxRecDepth 65536 in
set_option maxHeartbeats 40000000 in
theorem own_f00011 : (own_e1 0 0 0 1 1 && own_e2 0 0 0 1 1) = true := by decide +kernel
set_option maxRecDepth 65536 in
set_option maxHeartbeats 40000000 in
theorem own_f00012 : (own_e1 0 0 0 1 2 && own_e2 0 0 0 1 2) = true := by decide +kernel
set_option maxRecDepth 65536 in
set_option maxHeartbeats 40000000 in
theorem own_f00013 : (own_e1 0 0 0 1 3 && own_e2 0 0 0 1 3) = true := by decide +kernel
set_option maxRecDepth 65536 in
set_option maxHeartbeats 40000000 in
theorem own_f00020 : (own_e1 0 0 0 2 0 && own_e2 0 0 0 2 0) = true := by decide +kernel
set_option maxRecDepth 65536 in
set_option maxHeartbeats 40000000 in
theorem own_f00021 : (own_e1 0 0 0 2 1 && own_e2 0 0 0 2 1) = true := by decide +kernel
set_option maxRecDepth 65536 in
set_option maxHeartbeats 40000000 in
theorem own_f00022 : (own_e1 0 0 0 2 2 && own_e2 0 0 0 2 2) = true := by decide +kernel
set_option maxRecDepth 65536 in
set_option maxHeartbeats 40000000 in
theorem own_f00023 : (own_e1 0 0 0 2 3 && own_e2 0 0 0 2 3) = true := by decide +kernel
set_option maxRecDepth 65536 in
set_option maxHeartbeats 40000000 in
theorem own_f00100 : (own_e1 0 0 1 0 0 && own_e2 0 0 1 0 0) = true := by decide +kernel
set_option maxRecDepth 65536 in
set_option maxHeartbeats 40000000 in
theorem own_f00101 : (own_e1 0 0 1 0 1 && own_e2 0 0 1 0 1) = true := by decide +kernel
set_option maxRecDepth 65536 in
set_option maxHeartbeats 40000000 in
theorem own_f00102 : (own_e1 0 0 1 0 2 && own_e2 0 0 1 0 2) = true := by decide +kernel
set_option maxRecDepth 65536 in
set_option maxHeartbeats 40000000 in
theorem own_f00103 : (own_e1 0 0 1 0 3 && own_e2 0 0 1 0 3) = true := by decide +kernel
set_option maxRecDepth 65536 in
set_option maxHeartbeats 40000000 in
theorem own_f00110 : (own_e1 0 0 1 1 0 && own_e2 0 0 1 1 0) = true := by decide +kernel
set_option maxRecDepth 65536 in
set_option maxHeartbeats 40000000 in
theorem own_f00111 : (own_e1 0 0 1 1 1 && own_e2 0 0 1 1 1) = true := by decide +kernel
set_option maxRecDepth 65536 in
set_option maxHeartbeats 40000000 in
theorem own_f00112 : (own_e1 0 0 1 1 2 && own_e2 0 0 1 1 2) = true := by decide +kernel
set_option maxRecDepth 65536 in
set_option maxHeartbeats 40000000 in
theorem own_f00113 : (own_e1 0 0 1 1 3 && own_e2 0 0 1 1 3) = true := by decide +kernel
set_option maxRecDepth 65536 in
set_option maxHeartbeats 40000000 in
theorem own_f00120 : (own_e1 0 0 1 2 0 && own_e2 0 0 1 2 0) = true := by decide +kernel
set_option maxRecDepth 65536 in
set_option maxHeartbeats 40000000 in
theorem own_f00121 : (own_e1 0 0 1 2 1 && own_e2 0 0 1 2 1) = true := by decide +kernel
set_option maxRecDepth 65536 in
set_option maxHeartbeats 40000000 in
theorem own_f00122 : (own_e1 0 0 1 2 2 && own_e2 0 0 1 2 2) = true := by decide +kernel
set_option maxRecDepth 65536 in
set_option maxHeartbeats 40000000 in
theorem own_f00123 : (own_e1 0 0 1 2 3 && own_e2 0 0 1 2 3) = true := by decide +kernel
theorem own_f00 {a b c : Nat} (ha : a < 2) (hb : b < 3) (hc : c < 4) : (own_e1 0 0 a b c && own_e2 0 0 a b c) = true := by
  match a, b, c, ha, hb, hc with
  | 0, 0, 0, _, _, _ => exact own_f00000
  | 0, 0, 1, _, _, _ => exact own_f00001
  | 0, 0, 2, _, _, _ => exact own_f00002
  | 0, 0, 3, _, _, _ => exact own_f00003
  | 0, 1, 0, _, _, _ => exact own_f00010
  | 0, 1, 1, _, _, _ => exact own_f00011
  | 0, 1, 2, _, _, _ => exact own_f00012
  | 0, 1, 3, _, _, _ => exact own_f00013
  | 0, 2, 0, _, _, _ => exact own_f00020
  | 0, 2, 1, _, _, _ => exact own_f00021
  | 0, 2, 2, _, _, _ => exact own_f00022
  | 0, 2, 3, _, _, _ => exact own_f00023
  | 1, 0, 0, _, _, _ => exact own_f00100
  | 1, 0, 1, _, _, _ => exact own_f00101
  | 1, 0, 2, _, _, _ => exact own_f00102
  | 1, 0, 3, _, _, _ => exact own_f00103
  | 1, 1, 0, _, _, _ => exact own_f00110
  | 1, 1, 1, _, _, _ => exact own_f00111
  | 1, 1, 2, _, _, _ => exact own_f00112
  | 1, 1, 3, _, _, _ => exact own_f00113
  | 1, 2, 0, _, _, _ => exact own_f00120
  | 1, 2, 1, _, _, _ => exact own_f00121
  | 1, 2, 2, _, _, _ => exact own_f00122
  | 1, 2, 3, _, _, _ => exact own_f00123
set_option maxRecDepth 65536 in
set_option maxHeartbeats 40000000 in
theorem own_f01000 : (own_e1 0 1 0 0 0 && own_e2 0 1 0 0 0) = true := by decide +kernel
set_option maxRecDepth 65536 in
set_option maxHeartbeats 40000000 in
theorem own_f01001 : (own_e1 0 1 0 0 1 && own_e2 0 1 0 0 1) = true := by decide +kernel
set_option maxRecDepth 65536 in
set_option maxHeartbeats 40000000 in
theorem own_f01002 : (own_e1 0 1 0 0 2 && own_e2 0 1 0 0 2) = true := by decide +kernel
set_option maxRecDepth 65536 in
set_option maxHeartbeats 40000000 in
theorem own_f01003 : (own_e1 0 1 0 0 3 && own_e2 0 1 0 0 3) = true := by decide +kernel
set_option maxRecDepth 65536 in
set_option maxHeartbeats 40000000 in
theorem own_f01010 : (own_e1 0 1 0 1 0 && own_e2 0 1 0 1 0) = true := by decide +kernel
set_option maxRecDepth 65536 in
set_option maxHeartbeats 40000000 in
theorem own_f01011 : (own_e1 0 1 0 1 1 && own_e2 0 1 0 1 1) = true := by decide +kernel
set_option maxRecDepth 65536 in
set_option maxHeartbeats 40000000 in
theorem own_f01012 : (own_e1 0 1 0 1 2 && own_e2 0 1 0 1 2) = true := by decide +kernel
set_option maxRecDepth 65536 in
set_option maxHeartbeats 40000000 in
theorem own_f01013 : (own_e1 0 1 0 1 3 && own_e2 0 1 0 1 3) = true := by decide +kernel
set_option maxRecDepth 65536 in
set_option maxHeartbeats 40000000 in
theorem own_f01020 : (own_e1 0 1 0 2 0 && own_e2 0 1 0 2 0) = true := by decide +kernel
set_option maxRecDepth 65536 in
set_option maxHeartbeats 40000000 in
theorem own_f01021 : (own_e1 0 1 0 2 1 && own_e2 0 1 0 2 1) = true := by decide +kernel
set_option maxRecDepth 65536 in
set_option maxHeartbeats 40000000 in
theorem own_f01022 : (own_e1 0 1 0 2 2 && own_e2 0 1 0 2 2) = true := by decide +kernel
set_option maxRecDepth 65536 in
set_option maxHeartbeats 40000000 in
theorem own_f01023 : (own_e1 0 1 0 2 3 && own_e2 0 1 0 2 3) = true := by decide +kernel
set_option maxRecDepth 65536 in
set_option maxHeartbeats 40000000 in
theorem own_f01100 : (own_e1 0 1 1 0 0 && own_e2 0 1 1 0 0) = true := by decide +kernel
set_option maxRecDepth 65536 in
set_option maxHeartbeats 40000000 in
theorem own_f01101 : (own_e1 0 1 1 0 1 && own_e2 0 1 1 0 1) = true := by decide +kernel
set_option maxRecDepth 65536 in
set_option maxHeartbeats 40000000 in
theorem own_f01102 : (own_e1 0 1 1 0 2 && own_e2 0 1 1 0 2) = true := by decide +kernel
set_option maxRecDepth 65536 in
set_option maxHeartbeats 40000000 in
theorem own_f01103 : (own_e1 0 1 1 0 3 && own_e2 0 1 1 0 3) = true := by decide +kernel
set_option maxRecDepth 65536 in
set_option maxHeartbeats 40000000 in
theorem own_f01110 : (own_e1 0 1 1 1 0 && own_e2 0 1 1 1 0) = true := by decide +kernel
set_option maxRecDepth 65536 in
set_option maxHeartbeats 40000000 in
theorem own_f01111 : (own_e1 0 1 1 1 1 && own_e2 0 1 1 1 1) = true := by decide +kernel
set_option maxRecDepth 65536 in
set_option maxHeartbeats 40000000 in
theorem own_f01112 : (own_e1 0 1 1 1 2 && own_e2 0 1 1 1 2) = true := by decide +kernel
set_option maxRecDepth 65536 in
set_option maxHeartbeats 40000000 in
theorem own_f01113 : (own_e1 0 1 1 1 3 && own_e2 0 1 1 1 3) = true := by decide +kernel
set_option maxRecDepth 65536 in
set_option maxHeartbeats 40000000 in
theorem own_f01120 : (own_e1 0 1 1 2 0 && own_e2 0 1 1 2 0) = true := by decide +kernel
set_option maxRecDepth 65536 in
set_option maxHeartbeats 40000000 in
theorem own_f01121 : (own_e1 0 1 1 2 1 && own_e2 0 1 1 2 1) = true := by decide +kernel
set_option maxRecDepth 65536 in
set_option maxHeartbeats 40000000 in
theorem own_f01122 : (own_e1 0 1 1 2 2 && own_e2 0 1 1 2 2) = true := by decide +kernel
set_option maxRecDepth 65536 in
set_option maxHeartbeats 40000000 in
theorem own_f01123 : (own_e1 0 1 1 2 3 && own_e2 0 1 1 2 3) = true := by decide +kernel
theorem own_f01 {a b c : Nat} (ha : a < 2) (hb : b < 3) (hc : c < 4) : (own_e1 0 1 a b c && own_e2 0 1 a b c) = true := by
  match a, b, c, ha, hb, hc with
  | 0, 0, 0, _, _, _ => exact own_f01000
  | 0, 0, 1, _, _, _ => exact own_f01001
  | 0, 0, 2, _, _, _ => exact own_f01002
  | 0, 0, 3, _, _, _ => exact own_f01003
  | 0, 1, 0, _, _, _ => exact own_f01010
  | 0, 1, 1, _, _, _ => exact own_f01011
  | 0, 1, 2, _, _, _ => exact own_f01012
  | 0, 1, 3, _, _, _ => exact own_f01013
  | 0, 2, 0, _, _, _ => exact own_f01020
  | 0, 2, 1, _, _, _ => exact own_f01021
  | 0, 2, 2, _, _, _ => exact own_f01022
  | 0, 2, 3, _, _, _ => exact own_f01023
  | 1, 0, 0, _, _, _ => exact own_f01100
  | 1, 0, 1, _, _, _ => exact own_f01101
  | 1, 0, 2, _, _, _ => exact own_f01102
  | 1, 0, 3, _, _, _ => exact own_f01103
  | 1, 1, 0, _, _, _ => exact own_f01110
  | 1, 1, 1, _, _, _ => exact own_f01111
  | 1, 1, 2, _, _, _ => exact own_f01112
  | 1, 1, 3, _, _, _ => exact own_f01113
  | 1, 2, 0, _, _, _ => exact own_f01120
  | 1, 2, 1, _, _, _ => exact own_f01121
  | 1, 2, 2, _, _, _ => exact own_f01122
  | 1, 2, 3, _, _, _ => exact own_f01123
set_option maxRecDepth 65536 in
set_option maxHeartbeats 40000000 in
theorem own_f02000 : (own_e1 0 2 0 0 0 && own_e2 0 2 0 0 0) = true := by decide +kernel
set_option maxRecDepth 65536 in
set_option maxHeartbeats 40000000 in
theorem own_f02001 : (own_e1 0 2 0 0 1 && own_e2 0 2 0 0 1) = true := by decide +kernel
set_option maxRecDepth 65536 in
set_option maxHeartbeats 40000000 in
theorem own_f02002 : (own_e1 0 2 0 0 2 && own_e2 0 2 0 0 2) = true := by decide +kernel
set_option maxRecDepth 65536 in
set_option maxHeartbeats 40000000 in
theorem own_f02003 : (own_e1 0 2 0 0 3 && own_e2 0 2 0 0 3) = true := by decide +kernel
set_option maxRecDepth 65536 in
set_option maxHeartbeats 40000000 in
theorem own_f02010 : (own_e1 0 2 0 1 0 && own_e2 0 2 0 1 0) = true := by decide +kernel
set_option maxRecDepth 65536 in
set_option maxHeartbeats 40000000 in
theorem own_f02011 : (own_e1 0 2 0 1 1 && own_e2 0 2 0 1 1) = true := by decide +kernel
set_option maxRecDepth 65536 in
set_option maxHeartbeats 40000000 in
theorem own_f02012 : (own_e1 0 2 0 1 2 && own_e2 0 2 0 1 2) = true := by decide +kernel
set_option maxRecDepth 65536 in
set_option maxHeartbeats 40000000 in
theorem own_f02013 : (own_e1 0 2 0 1 3 && own_e2 0 2 0 1 3) = true := by decide +kernel
set_option maxRecDepth 65536 in
set_option maxHeartbeats 40000000 in
theorem own_f02020 : (own_e1 0 2 0 2 0 && own_e2 0 2 0 2 0) = true := by decide +kernel
set_option maxRecDepth 65536 in
set_option maxHeartbeats 40000000 in
theorem own_f02021 : (own_e1 0 2 0 2 1 && own_e2 0 2 0 2 1) = true := by decide +kernel
set_option maxRecDepth 65536 in
set_option maxHeartbeats 40000000 in
theorem own_f02022 : (own_e1 0 2 0 2 2 && own_e2 0 2 0 2 2) = true := by decide +kernel
set_option maxRecDepth 65536 in
set_option maxHeartbeats 40000000 in
theorem own_f02023 : (own_e1 0 2 0 2 3 && own_e2 0 2 0 2 3) = true := by decide +kernel
set_option maxRecDepth 65536 in
set_option maxHeartbeats 40000000 in
theorem own_f02100 : (own_e1 0 2 1 0 0 && own_e2 0 2 1 0 0) = true := by decide +kernel
set_option maxRecDepth 65536 in
set_option maxHeartbeats 40000000 in
theorem own_f02101 : (own_e1 0 2 1 0 1 && own_e2 0 2 1 0 1) = true := by decide +kernel
set_option maxRecDepth 65536 in
set_option maxHeartbeats 40000000 in
theorem own_f02102 : (own_e1 0 2 1 0 2 && own_e2 0 2 1 0 2) = true := by decide +kernel
set_option maxRecDepth 65536 in
set_option maxHeartbeats 40000000 in
theorem own_f02103 : (own_e1 0 2 1 0 3 && own_e2 0 2 1 0 3) = true := by decide +kernel
set_option maxRecDepth 65536 in
set_option maxHeartbeats 40000000 in
theorem own_f02110 : (own_e1 0 2 1 1 0 && own_e2 0 2 1 1 0) = true := by decide +kernel
set_option maxRecDepth 65536 in
set_option maxHeartbeats 40000000 in
theorem own_f02111 : (own_e1 0 2 1 1 1 && own_e2 0 2 1 1 1) = true := by decide +kernel
set_option maxRecDepth 65536 in
set_option maxHeartbeats 40000000 in
theorem own_f02112 : (own_e1 0 2 1 1 2 && own_e2 0 2 1 1 2) = true := by decide +kernel
set_option maxRecDepth 65536 in
set_option maxHeartbeats 40000000 in
theorem own_f02113 : (own_e1 0 2 1 1 3 && own_e2 0 2 1 1 3) = true := by decide +kernel
set_option maxRecDepth 65536 in
set_option maxHeartbeats 40000000 in
theorem own_f02120 : (own_e1 0 2 1 2 0 && own_e2 0 2 1 2 0) = true := by decide +kernel
set_option maxRecDepth 65536 in
set_option maxHeartbeats 40000000 in
theorem own_f02121 : (own_e1 0 2 1 2 1 && own_e2 0 2 1 2 1) = true := by decide +kernel
set_option maxRecDepth 65536 in
set_option maxHeartbeats 40000000 in
theorem own_f02122 : (own_e1 0 2 1 2 2 && own_e2 0 2 1 2 2) = true := by decide +kernel
set_option maxRecDepth 65536 in
set_option maxHeartbeats 40000000 in
theorem own_f02123 : (own_e1 0 2 1 2 3 && own_e2 0 2 1 2 3) = true := by decide +kernel
theorem own_f02 {a b c : Nat} (ha : a < 2) (hb : b < 3) (hc : c < 4) : (own_e1 0 2 a b c && own_e2 0 2 a b c) = true := by
  match a, b, c, ha, hb, hc with
  | 0, 0, 0, _, _, _ => exact own_f02000
  | 0, 0, 1, _, _, _ => exact own_f02001
  | 0, 0, 2, _, _, _ => exact own_f02002
  | 0, 0, 3, _, _, _ => exact own_f02003
  | 0, 1, 0, _, _, _ => exact own_f02010
  | 0, 1, 1, _, _, _ => exact own_f02011
  | 0, 1, 2, _, _, _ => exact own_f02012
  | 0, 1, 3, _, _, _ => exact own_f02013
  | 0, 2, 0, _, _, _ => exact own_f02020
  | 0, 2, 1, _, _, _ => exact own_f02021
  | 0, 2, 2, _, _, _ => exact own_f02022
  | 0, 2, 3, _, _, _ => exact own_f02023
  | 1, 0, 0, _, _, _ => exact own_f02100
  | 1, 0, 1, _, _, _ => exact own_f02101
  | 1, 0, 2, _, _, _ => exact own_f02102
  | 1, 0, 3, _, _, _ => exact own_f02103
  | 1, 1, 0, _, _, _ => exact own_f02110
  | 1, 1, 1, _, _, _ => exact own_f02111
  | 1, 1, 2, _, _, _ => exact own_f02112
  | 1, 1, 3, _, _, _ => exact own_f02113
  | 1, 2, 0, _, _, _ => exact own_f02120
  | 1, 2, 1, _, _, _ => exact own_f02121
  | 1, 2, 2, _, _, _ => exact own_f02122
  | 1, 2, 3, _, _, _ => exact own_f02123
set_option maxRecDepth 65536 in
set_option maxHeartbeats 40000000 in
theorem own_f03000 : (own_e1 0 3 0 0 0 && own_e2 0 3 0 0 0) = true := by decide +kernel
set_option maxRecDepth 65536 in
set_option maxHeartbeats 40000000 in
theorem own_f03001 : (own_e1 0 3 0 0 1 && own_e2 0 3 0 0 1) = true := by decide +kernel
set_option maxRecDepth 65536 in
set_option maxHeartbeats 40000000 in
theorem own_f03002 : (own_e1 0 3 0 0 2 && own_e2 0 3 0 0 2) = true := by decide +kernel
set_option maxRecDepth 65536 in
set_option maxHeartbeats 40000000 in
theorem own_f03003 : (own_e1 0 3 0 0 3 && own_e2 0 3 0 0 3) = true := by decide +kernel
set_option maxRecDepth 65536 in
set_option maxHeartbeats 40000000 in
theorem own_f03010 : (own_e1 0 3 0 1 0 && own_e2 0 3 0 1 0) = true := by decide +kernel
set_option maxRecDepth 65536 in
set_option maxHeartbeats 40000000 in
theorem own_f03011 : (own_e1 0 3 0 1 1 && own_e2 0 3 0 1 1) = true := by decide +kernel
set_option maxRecDepth 65536 in
set_option maxHeartbeats 40000000 in
theorem own_f03012 : (own_e1 0 3 0 1 2 && own_e2 0 3 0 1 2) = true := by decide +kernel
set_option maxRecDepth 65536 in
set_option maxHeartbeats 40000000 in
theorem own_f03013 : (own_e1 0 3 0 1 3 && own_e2 0 3 0 1 3) = true := by decide +kernel
set_option maxRecDepth 65536 in
set_option maxHeartbeats 40000000 in
theorem own_f03020 : (own_e1 0 3 0 2 0 && own_e2 0 3 0 2 0) = true := by decide +kernel
set_option maxRecDepth 65536 in
set_option maxHeartbeats 40000000 in
theorem own_f03021 : (own_e1 0 3 0 2 1 && own_e2 0 3 0 2 1) = true := by decide +kernel
set_option maxRecDepth 65536 in
set_option maxHeartbeats 40000000 in
theorem own_f03022 : (own_e1 0 3 0 2 2 && own_e2 0 3 0 2 2) = true := by decide +kernel
set_option maxRecDepth 65536 in
set_option maxHeartbeats 40000000 in
theorem own_f03023 : (own_e1 0 3 0 2 3 && own_e2 0 3 0 2 3) = true := by decide +kernel
set_option maxRecDepth 65536 in
set_option maxHeartbeats 40000000 in
theorem own_f03100 : (own_e1 0 3 1 0 0 && own_e2 0 3 1 0 0) = true := by decide +kernel
set_option maxRecDepth 65536 in
set_option maxHeartbeats 40000000 in
theorem own_f03101 : (own_e1 0 3 1 0 1 && own_e2 0 3 1 0 1) = true := by decide +kernel
set_option maxRecDepth 65536 in
set_option maxHeartbeats 40000000 in
theorem own_f03102 : (own_e1 0 3 1 0 2 && own_e2 0 3 1 0 2) = true := by decide +kernel
set_option maxRecDepth 65536 in
set_option maxHeartbeats 40000000 in
theorem own_f03103 : (own_e1 0 3 1 0 3 && own_e2 0 3 1 0 3) = true := by decide +kernel
set_option maxRecDepth 65536 in
set_option maxHeartbeats 40000000 in
theorem own_f03110 : (own_e1 0 3 1 1 0 && own_e2 0 3 1 1 0) = true := by decide +kernel
set_option maxRecDepth 65536 in
set_option maxHeartbeats 40000000 in
theorem own_f03111 : (own_e1 0 3 1 1 1 && own_e2 0 3 1 1 1) = true := by decide +kernel
set_option maxRecDepth 65536 in
set_option maxHeartbeats 40000000 in
theorem own_f03112 : (own_e1 0 3 1 1 2 && own_e2 0 3 1 1 2) = true := by decide +kernel
set_option maxRecDepth 65536 in
set_option maxHeartbeats 40000000 in
theorem own_f03113 : (own_e1 0 3 1 1 3 && own_e2 0 3 1 1 3) = true := by decide +kernel
set_option maxRecDepth 65536 in
set_option maxHeartbeats 40000000 in
theorem own_f03120 : (own_e1 0 3 1 2 0 && own_e2 0 3 1 2 0) = true := by decide +kernel
set_option maxRecDepth 65536 in
set_option maxHeartbeats 40000000 in
theorem own_f03121 : (own_e1 0 3 1 2 1 && own_e2 0 3 1 2 1) = true := by decide +kernel
set_option maxRecDepth 65536 in
set_option maxHeartbeats 40000000 in
theorem own_f03122 : (own_e1 0 3 1 2 2 && own_e2 0 3 1 2 2) = true := by decide +kernel
set_option maxRecDepth 65536 in
set_option maxHeartbeats 40000000 in
theorem own_f03123 : (own_e1 0 3 1 2 3 && own_e2 0 3 1 2 3) = true := by decide +kernel
theorem own_f03 {a b c : Nat} (ha : a < 2) (hb : b < 3) (hc : c < 4) : (own_e1 0 3 a b c && own_e2 0 3 a b c) = true := by
  match a, b, c, ha, hb, hc with
  | 0, 0, 0, _, _, _ => exact own_f03000
  | 0, 0, 1, _, _, _ => exact own_f03001
  | 0, 0, 2, _, _, _ => exact own_f03002
  | 0, 0, 3, _, _, _ => exact own_f03003
  | 0, 1, 0, _, _, _ => exact own_f03010
  | 0, 1, 1, _, _, _ => exact own_f03011
  | 0, 1, 2, _, _, _ => exact own_f03012
  | 0, 1, 3, _, _, _ => exact own_f03013
  | 0, 2, 0, _, _, _ => exact own_f03020
  | 0, 2, 1, _, _, _ => exact own_f03021
  | 0, 2, 2, _, _, _ => exact own_f03022
  | 0, 2, 3, _, _, _ => exact own_f03023
  | 1, 0, 0, _, _, _ => exact own_f03100
  | 1, 0, 1, _, _, _ => exact own_f03101
  | 1, 0, 2, _, _, _ => exact own_f03102
  | 1, 0, 3, _, _, _ => exact own_f03103
  | 1, 1, 0, _, _, _ => exact own_f03110
  | 1, 1, 1, _, _, _ => exact own_f03111
  | 1, 1, 2, _, _, _ => exact own_f03112
  | 1, 1, 3, _, _, _ => exact own_f03113
  | 1, 2, 0, _, _, _ => exact own_f03120
  | 1, 2, 1, _, _, _ => exact own_f03121
  | 1, 2, 2, _, _, _ => exact own_f03122
  | 1, 2, 3, _, _, _ => exact own_f03123
set_option maxRecDepth 65536 in
set_option maxHeartbeats 40000000 in
theorem own_f04000 : (own_e1 0 4 0 0 0 && own_e2 0 4 0 0 0) = true := by decide +kernel
set_option maxRecDepth 65536 in
set_option maxHeartbeats 40000000 in
theorem own_f04001 : (own_e1 0 4 0 0 1 && own_e2 0 4 0 0 1) = true := by decide +kernel
set_option maxRecDepth 65536 in
set_option maxHeartbeats 40000000 in
theorem own_f04002 : (own_e1 0 4 0 0 2 && own_e2 0 4 0 0 2) = true := by decide +kernel
set_option maxRecDepth 65536 in
set_option maxHeartbeats 40000000 in
theorem own_f04003 : (own_e1 0 4 0 0 3 && own_e2 0 4 0 0 3) = true := by decide +kernel
set_option maxRecDepth 65536 in
set_option maxHeartbeats 40000000 in
theorem own_f04010 : (own_e1 0 4 0 1 0 && own_e2 0 4 0 1 0) = true := by decide +kernel
set_option maxRecDepth 65536 in
set_option maxHeartbeats 40000000 in
theorem own_f04011 : (own_e1 0 4 0 1 1 && own_e2 0 4 0 1 1) = true := by decide +kernel
set_option maxRecDepth 65536 in
set_option maxHeartbeats 40000000 in
theorem own_f04012 : (own_e1 0 4 0 1 2 && own_e2 0 4 0 1 2) = true := by decide +kernel
set_option maxRecDepth 65536 in
set_option maxHeartbeats 40000000 in
theorem own_f04013 : (own_e1 0 4 0 1 3 && own_e2 0 4 0 1 3) = true := by decide +kernel
set_option maxRecDepth 65536 in
set_option maxHeartbeats 40000000 in
theorem own_f04020 : (own_e1 0 4 0 2 0 && own_e2 0 4 0 2 0) = true := by decide +kernel
set_option maxRecDepth 65536 in
set_option maxHeartbeats 40000000 in
theorem own_f04021 : (own_e1 0 4 0 2 1 && own_e2 0 4 0 2 1) = true := by decide +kernel
set_option maxRecDepth 65536 in
set_option maxHeartbeats 40000000 in
theorem own_f04022 : (own_e1 0 4 0 2 2 && own_e2 0 4 0 2 2) = true := by decide +kernel
set_option maxRecDepth 65536 in
set_option maxHeartbeats 40000000 in
theorem own_f04023 : (own_e1 0 4 0 2 3 && own_e2 0 4 0 2 3) = true := by decide +kernel
set_option maxRecDepth 65536 in
set_option maxHeartbeats 40000000 in
theorem own_f04100 : (own_e1 0 4 1 0 0 && own_e2 0 4 1 0 0) = true := by decide +kernel
set_option maxRecDepth 65536 in
set_option maxHeartbeats 40000000 in
theorem own_f04101 : (own_e1 0 4 1 0 1 && own_e2 0 4 1 0 1) = true := by decide +kernel
set_option maxRecDepth 65536 in
set_option maxHeartbeats 40000000 in
theorem own_f04102 : (own_e1 0 4 1 0 2 && own_e2 0 4 1 0 2) = true := by decide +kernel
set_option maxRecDepth 65536 in
set_option maxHeartbeats 40000000 in
theorem own_f04103 : (own_e1 0 4 1 0 3 && own_e2 0 4 1 0 3) = true := by decide +kernel
set_option maxRecDepth 65536 in
set_option maxHeartbeats 40000000 in
theorem own_f04110 : (own_e1 0 4 1 1 0 && own_e2 0 4 1 1 0) = true := by decide +kernel
set_option maxRecDepth 65536 in
set_option maxHeartbeats 40000000 in
theorem own_f04111 : (own_e1 0 4 1 1 1 && own_e2 0 4 1 1 1) = true := by decide +kernel
set_option maxRecDepth 65536 in
set_option maxHeartbeats 40000000 in
theorem own_f04112 : (own_e1 0 4 1 1 2 && own_e2 0 4 1 1 2) = true := by decide +kernel
set_option maxRecDepth 65536 in
set_option maxHeartbeats 40000000 in
theorem own_f04113 : (own_e1 0 4 1 1 3 && own_e2 0 4 1 1 3) = true := by decide +kernel
set_option maxRecDepth 65536 in
set_option maxHeartbeats 40000000 in
theorem own_f04120 : (own_e1 0 4 1 2 0 && own_e2 0 4 1 2 0) = true := by decide +kernel
set_option maxRecDepth 65536 in
set_option maxHeartbeats 40000000 in
theorem own_f04121 : (own_e1 0 4 1 2 1 && own_e2 0 4 1 2 1) = true := by decide +kernel
set_option maxRecDepth 65536 in
set_option maxHeartbeats 40000000 in
theorem own_f04122 : (own_e1 0 4 1 2 2 && own_e2 0 4 1 2 2) = true := by decide +kernel
set_option maxRecDepth 65536 in
set_option maxHeartbeats 40000000 in
theorem own_f04123 : (own_e1 0 4 1 2 3 && own_e2 0 4 1 2 3) = true := by decide +kernel
theorem own_f04 {a b c : Nat} (ha : a < 2) (hb : b < 3) (hc : c < 4) : (own_e1 0 4 a b c && own_e2 0 4 a b c) = true := by
  match a, b, c, ha, hb, hc with
  | 0, 0, 0, _, _, _ => exact own_f04000
  | 0, 0, 1, _, _, _ => exact own_f04001
  | 0, 0, 2, _, _, _ => exact own_f04002
  | 0, 0, 3, _, _, _ => exact own_f04003
  | 0, 1, 0, _, _, _ => exact own_f04010
  | 0, 1, 1, _, _, _ => exact own_f04011
  | 0, 1, 2, _, _, _ => exact own_f04012
  | 0, 1, 3, _, _, _ => exact own_f04013
  | 0, 2, 0, _, _, _ => exact own_f04020
  | 0, 2, 1, _, _, _ => exact own_f04021
  | 0, 2, 2, _, _, _ => exact own_f04022
  | 0, 2, 3, _, _, _ => exact own_f04023
  | 1, 0, 0, _, _, _ => exact own_f04100
  | 1, 0, 1, _, _, _ => exact own_f04101
  | 1, 0, 2, _, _, _ => exact own_f04102
  | 1, 0, 3, _, _, _ => exact own_f04103
  | 1, 1, 0, _, _, _ => exact own_f04110
  | 1, 1, 1, _, _, _ => exact own_f04111
  | 1, 1, 2, _, _, _ => exact own_f04112
  | 1, 1, 3, _, _, _ => exact own_f04113
  | 1, 2, 0, _, _, _ => exact own_f04120
  | 1, 2, 1, _, _, _ => exact own_f04121
  | 1, 2, 2, _, _, _ => exact own_f04122
  | 1, 2, 3, _, _, _ => exact own_f04123
set_option maxRecDepth 65536 in
set_option maxHeartbeats 40000000 in
theorem own_f10000 : (own_e1 1 0 0 0 0 && own_e2 1 0 0 0 0) = true := by decide +kernel
set_option maxRecDepth 65536 in
set_option maxHeartbeats 40000000 in
theorem own_f10001 : (own_e1 1 0 0 0 1 && own_e2 1 0 0 0 1) = true := by decide +kernel
set_option maxRecDepth 65536 in
set_option maxHeartbeats 40000000 in
theorem own_f10002 : (own_e1 1 0 0 0 2 && own_e2 1 0 0 0 2) = true := by decide +kernel
set_option maxRecDepth 65536 in
set_option maxHeartbeats 40000000 in
theorem own_f10003 : (own_e1 1 0 0 0 3 && own_e2 1 0 0 0 3) = true := by decide +kernel
set_option maxRecDepth 65536 in
set_option maxHeartbeats 40000000 in
theorem own_f10010 : (own_e1 1 0 0 1 0 && own_e2 1 0 0 1 0) = true := by decide +kernel
set_option maxRecDepth 65536 in
set_option maxHeartbeats 40000000 in
theorem own_f10011 : (own_e1 1 0 0 1 1 && own_e2 1 0 0 1 1) = true := by decide +kernel
set_option maxRecDepth 65536 in
set_option maxHeartbeats 40000000 in
theorem own_f10012 : (own_e1 1 0 0 1 2 && own_e2 1 0 0 1 2) = true := by decide +kernel
set_option maxRecDepth 65536 in
set_option maxHeartbeats 40000000 in
theorem own_f10013 : (own_e1 1 0 0 1 3 && own_e2 1 0 0 1 3) = true := by decide +kernel
set_option maxRecDepth 65536 in
set_option maxHeartbeats 40000000 in
theorem own_f10020 : (own_e1 1 0 0 2 0 && own_e2 1 0 0 2 0) = true := by decide +kernel
set_option maxRecDepth 65536 in
set_option maxHeartbeats 40000000 in
theorem own_f10021 : (own_e1 1 0 0 2 1 && own_e2 1 0 0 2 1) = true := by decide +kernel
set_option maxRecDepth 65536 in
set_option maxHeartbeats 40000000 in
theorem own_f10022 : (own_e1 1 0 0 2 2 && own_e2 1 0 0 2 2) = true := by decide +kernel
set_option maxRecDepth 65536 in
set_option maxHeartbeats 40000000 in
theorem own_f10023 : (own_e1 1 0 0 2 3 && own_e2 1 0 0 2 3) = true := by decide +kernel
set_option maxRecDepth 65536 in
set_option maxHeartbeats 40000000 in
theorem own_f10100 : (own_e1 1 0 1 0 0 && own_e2 1 0 1 0 0) = true := by decide +kernel
set_option maxRecDepth 65536 in
set_option maxHeartbeats 40000000 in
theorem own_f10101 : (own_e1 1 0 1 0 1 && own_e2 1 0 1 0 1) = true := by decide +kernel
set_option maxRecDepth 65536 in
set_option maxHeartbeats 40000000 in
theorem own_f10102 : (own_e1 1 0 1 0 2 && own_e2 1 0 1 0 2) = true := by decide +kernel
set_option maxRecDepth 65536 in
set_option maxHeartbeats 40000000 in
theorem own_f10103 : (own_e1 1 0 1 0 3 && own_e2 1 0 1 0 3) = true := by decide +kernel
set_option maxRecDepth 65536 in
set_option maxHeartbeats 40000000 in
theorem own_f10110 : (own_e1 1 0 1 1 0 && own_e2 1 0 1 1 0) = true := by decide +kernel
set_option maxRecDepth 65536 in
set_option maxHeartbeats 40000000 in
theorem own_f10111 : (own_e1 1 0 1 1 1 && own_e2 1 0 1 1 1) = true := by decide +kernel
set_option maxRecDepth 65536 in
set_option maxHeartbeats 40000000 in
theorem own_f10112 : (own_e1 1 0 1 1 2 && own_e2 1 0 1 1 2) = true := by decide +kernel
set_option maxRecDepth 65536 in
set_option maxHeartbeats 40000000 in
theorem own_f10113 : (own_e1 1 0 1 1 3 && own_e2 1 0 1 1 3) = true := by decide +kernel
set_option maxRecDepth 65536 in
set_option maxHeartbeats 40000000 in
theorem own_f10120 : (own_e1 1 0 1 2 0 && own_e2 1 0 1 2 0) = true := by decide +kernel
set_option maxRecDepth 65536 in
set_option maxHeartbeats 40000000 in
theorem own_f10121 : (own_e1 1 0 1 2 1 && own_e2 1 0 1 2 1) = true := by decide +kernel
set_option maxRecDepth 65536 in
set_option maxHeartbeats 40000000 in
theorem own_f10122 : (own_e1 1 0 1 2 2 && own_e2 1 0 1 2 2) = true := by decide +kernel
set_option maxRecDepth 65536 in
set_option maxHeartbeats 40000000 in
theorem own_f10123 : (own_e1 1 0 1 2 3 && own_e2 1 0 1 2 3) = true := by decide +kernel
theorem own_f10 {a b c : Nat} (ha : a < 2) (hb : b < 3) (hc : c < 4) : (own_e1 1 0 a b c && own_e2 1 0 a b c) = true := by
  match a, b, c, ha, hb, hc with
  | 0, 0, 0, _, _, _ => exact own_f10000
  | 0, 0, 1, _, _, _ => exact own_f10001
  | 0, 0, 2, _, _, _ => exact own_f10002
  | 0, 0, 3, _, _, _ => exact own_f10003
  | 0, 1, 0, _, _, _ => exact own_f10010
  | 0, 1, 1, _, _, _ => exact own_f10011
  | 0, 1, 2, _, _, _ => exact own_f10012
  | 0, 1, 3, _, _, _ => exact own_f10013
  | 0, 2, 0, _, _, _ => exact own_f10020
  | 0, 2, 1, _, _, _ => exact own_f10021
  | 0, 2, 2, _, _, _ => exact own_f10022
  | 0, 2, 3, _, _, _ => exact own_f10023
  | 1, 0, 0, _, _, _ => exact own_f10100
  | 1, 0, 1, _, _, _ => exact own_f10101
  | 1, 0, 2, _, _, _ => exact own_f10102
  | 1, 0, 3, _, _, _ => exact own_f10103
  | 1, 1, 0, _, _, _ => exact own_f10110
  | 1, 1, 1, _, _, _ => exact own_f10111
  | 1, 1, 2, _, _, _ => exact own_f10112
  | 1, 1, 3, _, _, _ => exact own_f10113
  | 1, 2, 0, _, _, _ => exact own_f10120
  | 1, 2, 1, _, _, _ => exact own_f10121
  | 1, 2, 2, _, _, _ => exact own_f10122
  | 1, 2, 3, _, _, _ => exact own_f10123
set_option maxRecDepth 65536 in
set_option maxHeartbeats 40000000 in
theorem own_f11000 : (own_e1 1 1 0 0 0 && own_e2 1 1 0 0 0) = true := by decide +kernel
set_option maxRecDepth 65536 in
set_option maxHeartbeats 40000000 in
theorem own_f11001 : (own_e1 1 1 0 0 1 && own_e2 1 1 0 0 1) = true := by decide +kernel
set_option maxRecDepth 65536 in
set_option maxHeartbeats 40000000 in
theorem own_f11002 : (own_e1 1 1 0 0 2 && own_e2 1 1 0 0 2) = true := by decide +kernel
set_option maxRecDepth 65536 in
set_option maxHeartbeats 40000000 in
theorem own_f11003 : (own_e1 1 1 0 0 3 && own_e2 1 1 0 0 3) = true := by decide +kernel
set_option maxRecDepth 65536 in
set_option maxHeartbeats 40000000 in
theorem own_f11010 : (own_e1 1 1 0 1 0 && own_e2 1 1 0 1 0) = true := by decide +kernel
set_option maxRecDepth 65536 in
set_option maxHeartbeats 40000000 in
theorem own_f11011 : (own_e1 1 1 0 1 1 && own_e2 1 1 0 1 1) = true := by decide +kernel
set_option maxRecDepth 65536 in
set_option maxHeartbeats 40000000 in
theorem own_f11012 : (own_e1 1 1 0 1 2 && own_e2 1 1 0 1 2) = true := by decide +kernel
set_option maxRecDepth 65536 in
set_option maxHeartbeats 40000000 in
theorem own_f11013 : (own_e1 1 1 0 1 3 && own_e2 1 1 0 1 3) = true := by decide +kernel
set_option maxRecDepth 65536 in
set_option maxHeartbeats 40000000 in
theorem own_f11020 : (own_e1 1 1 0 2 0 && own_e2 1 1 0 2 0) = true := by decide +kernel
set_option maxRecDepth 65536 in
set_option maxHeartbeats 40000000 in
theorem own_f11021 : (own_e1 1 1 0 2 1 && own_e2 1 1 0 2 1) = true := by decide +kernel
set_option maxRecDepth 65536 in
set_option maxHeartbeats 40000000 in
theorem own_f11022 : (own_e1 1 1 0 2 2 && own_e2 1 1 0 2 2) = true := by decide +kernel
set_option maxRecDepth 65536 in
set_option maxHeartbeats 40000000 in
theorem own_f11023 : (own_e1 1 1 0 2 3 && own_e2 1 1 0 2 3) = true := by decide +kernel
set_option maxRecDepth 65536 in
set_option maxHeartbeats 40000000 in
theorem own_f11100 : (own_e1 1 1 1 0 0 && own_e2 1 1 1 0 0) = true := by decide +kernel
set_option maxRecDepth 65536 in
set_option maxHeartbeats 40000000 in
theorem own_f11101 : (own_e1 1 1 1 0 1 && own_e2 1 1 1 0 1) = true := by decide +kernel
set_option maxRecDepth 65536 in
set_option maxHeartbeats 40000000 in
theorem own_f11102 : (own_e1 1 1 1 0 2 && own_e2 1 1 1 0 2) = true := by decide +kernel
set_option maxRecDepth 65536 in
set_option maxHeartbeats 40000000 in
theorem own_f11103 : (own_e1 1 1 1 0 3 && own_e2 1 1 1 0 3) = true := by decide +kernel
set_option maxRecDepth 65536 in
set_option maxHeartbeats 40000000 in
theorem own_f11110 : (own_e1 1 1 1 1 0 && own_e2 1 1 1 1 0) = true := by decide +kernel
set_option maxRecDepth 65536 in
set_option maxHeartbeats 40000000 in
theorem own_f11111 : (own_e1 1 1 1 1 1 && own_e2 1 1 1 1 1) = true := by decide +kernel
set_option maxRecDepth 65536 in
set_option maxHeartbeats 40000000 in
theorem own_f11112 : (own_e1 1 1 1 1 2 && own_e2 1 1 1 1 2) = true := by decide +kernel
set_option maxRecDepth 65536 in
set_option maxHeartbeats 40000000 in
theorem own_f11113 : (own_e1 1 1 1 1 3 && own_e2 1 1 1 1 3) = true := by decide +kernel
set_option maxRecDepth 65536 in
set_option maxHeartbeats 40000000 in
theorem own_f11120 : (own_e1 1 1 1 2 0 && own_e2 1 1 1 2 0) = true := by decide +kernel
set_option maxRecDepth 65536 in
set_option maxHeartbeats 40000000 in
theorem own_f11121 : (own_e1 1 1 1 2 1 && own_e2 1 1 1 2 1) = true := by decide +kernel
set_option maxRecDepth 65536 in
set_option maxHeartbeats 40000000 in
theorem own_f11122 : (own_e1 1 1 1 2 2 && own_e2 1 1 1 2 2) = true := by decide +kernel
set_option maxRecDepth 65536 in
set_option maxHeartbeats 40000000 in
theorem own_f11123 : (own_e1 1 1 1 2 3 && own_e2 1 1 1 2 3) = true := by decide +kernel
theorem own_f11 {a b c : Nat} (ha : a < 2) (hb : b < 3) (hc : c < 4) : (own_e1 1 1 a b c && own_e2 1 1 a b c) = true := by
  match a, b, c, ha, hb, hc with
  | 0, 0, 0, _, _, _ => exact own_f11000
  | 0, 0, 1, _, _, _ => exact own_f11001
  | 0, 0, 2, _, _, _ => exact own_f11002
  | 0, 0, 3, _, _, _ => exact own_f11003
  | 0, 1, 0, _, _, _ => exact own_f11010
  | 0, 1, 1, _, _, _ => exact own_f11011
  | 0, 1, 2, _, _, _ => exact own_f11012
  | 0, 1, 3, _, _, _ => exact own_f11013
  | 0, 2, 0, _, _, _ => exact own_f11020
  | 0, 2, 1, _, _, _ => exact own_f11021
  | 0, 2, 2, _, _, _ => exact own_f11022
  | 0, 2, 3, _, _, _ => exact own_f11023
  | 1, 0, 0, _, _, _ => exact own_f11100
  | 1, 0, 1, _, _, _ => exact own_f11101
  | 1, 0, 2, _, _, _ => exact own_f11102
  | 1, 0, 3, _, _, _ => exact own_f11103
  | 1, 1, 0, _, _, _ => exact own_f11110
  | 1, 1, 1, _, _, _ => exact own_f11111
  | 1, 1, 2, _, _, _ => exact own_f11112
  | 1, 1, 3, _, _, _ => exact own_f11113
  | 1, 2, 0, _, _, _ => exact own_f11120
  | 1, 2, 1, _, _, _ => exact own_f11121
  | 1, 2, 2, _, _, _ => exact own_f11122
  | 1, 2, 3, _, _, _ => exact own_f11123
set_option maxRecDepth 65536 in
set_option maxHeartbeats 40000000 in
theorem own_f12000 : (own_e1 1 2 0 0 0 && own_e2 1 2 0 0 0) = true := by decide +kernel
set_option maxRecDepth 65536 in
set_option maxHeartbeats 40000000 in
theorem own_f12001 : (own_e1 1 2 0 0 1 && own_e2 1 2 0 0 1) = true := by decide +kernel
set_option maxRecDepth 65536 in
set_option maxHeartbeats 40000000 in
theorem own_f12002 : (own_e1 1 2 0 0 2 && own_e2 1 2 0 0 2) = true := by decide +kernel
set_option maxRecDepth 65536 in
set_option maxHeartbeats 40000000 in
theorem own_f12003 : (own_e1 1 2 0 0 3 && own_e2 1 2 0 0 3) = true := by decide +kernel
set_option maxRecDepth 65536 in
set_option maxHeartbeats 40000000 in
theorem own_f12010 : (own_e1 1 2 0 1 0 && own_e2 1 2 0 1 0) = true := by decide +kernel
set_option maxRecDepth 65536 in
set_option maxHeartbeats 40000000 in
theorem own_f12011 : (own_e1 1 2 0 1 1 && own_e2 1 2 0 1 1) = true := by decide +kernel
set_option maxRecDepth 65536 in
set_option maxHeartbeats 40000000 in
theorem own_f12012 : (own_e1 1 2 0 1 2 && own_e2 1 2 0 1 2) = true := by decide +kernel
set_option maxRecDepth 65536 in
set_option maxHeartbeats 40000000 in
theorem own_f12013 : (own_e1 1 2 0 1 3 && own_e2 1 2 0 1 3) = true := by decide +kernel
set_option maxRecDepth 65536 in
set_option maxHeartbeats 40000000 in
theorem own_f12020 : (own_e1 1 2 0 2 0 && own_e2 1 2 0 2 0) = true := by decide +kernel
set_option maxRecDepth 65536 in
set_option maxHeartbeats 40000000 in
theorem own_f12021 : (own_e1 1 2 0 2 1 && own_e2 1 2 0 2 1) = true := by decide +kernel
set_option maxRecDepth 65536 in
set_option maxHeartbeats 40000000 in
theorem own_f12022 : (own_e1 1 2 0 2 2 && own_e2 1 2 0 2 2) = true := by decide +kernel
set_option maxRecDepth 65536 in
set_option maxHeartbeats 40000000 in
theorem own_f12023 : (own_e1 1 2 0 2 3 && own_e2 1 2 0 2 3) = true := by decide +kernel
set_option maxRecDepth 65536 in
set_option maxHeartbeats 40000000 in
theorem own_f12100 : (own_e1 1 2 1 0 0 && own_e2 1 2 1 0 0) = true := by decide +kernel
set_option maxRecDepth 65536 in
set_option maxHeartbeats 40000000 in
theorem own_f12101 : (own_e1 1 2 1 0 1 && own_e2 1 2 1 0 1) = true := by decide +kernel
set_option maxRecDepth 65536 in
set_option maxHeartbeats 40000000 in
theorem own_f12102 : (own_e1 1 2 1 0 2 && own_e2 1 2 1 0 2) = true := by decide +kernel
set_option maxRecDepth 65536 in
set_option maxHeartbeats 40000000 in
theorem own_f12103 : (own_e1 1 2 1 0 3 && own_e2 1 2 1 0 3) = true := by decide +kernel
set_option maxRecDepth 65536 in
set_option maxHeartbeats 40000000 in
theorem own_f12110 : (own_e1 1 2 1 1 0 && own_e2 1 2 1 1 0) = true := by decide +kernel
set_option maxRecDepth 65536 in
set_option maxHeartbeats 40000000 in
theorem own_f12111 : (own_e1 1 2 1 1 1 && own_e2 1 2 1 1 1) = true := by decide +kernel
set_option maxRecDepth 65536 in
set_option maxHeartbeats 40000000 in
theorem own_f12112 : (own_e1 1 2 1 1 2 && own_e2 1 2 1 1 2) = true := by decide +kernel
set_option maxRecDepth 65536 in
set_option maxHeartbeats 40000000 in
theorem own_f12113 : (own_e1 1 2 1 1 3 && own_e2 1 2 1 1 3) = true := by decide +kernel
set_option maxRecDepth 65536 in
set_option maxHeartbeats 40000000 in
theorem own_f12120 : (own_e1 1 2 1 2 0 && own_e2 1 2 1 2 0) = true := by decide +kernel
set_option maxRecDepth 65536 in
set_option maxHeartbeats 40000000 in
theorem own_f12121 : (own_e1 1 2 1 2 1 && own_e2 1 2 1 2 1) = true := by decide +kernel
set_option maxRecDepth 65536 in
set_option maxHeartbeats 40000000 in
theorem own_f12122 : (own_e1 1 2 1 2 2 && own_e2 1 2 1 2 2) = true := by decide +kernel
set_option maxRecDepth 65536 in
set_option maxHeartbeats 40000000 in
theorem own_f12123 : (own_e1 1 2 1 2 3 && own_e2 1 2 1 2 3) = true := by decide +kernel
theorem own_f12 {a b c : Nat} (ha : a < 2) (hb : b < 3) (hc : c < 4) : (own_e1 1 2 a b c && own_e2 1 2 a b c) = true := by
  match a, b, c, ha, hb, hc with
  | 0, 0, 0, _, _, _ => exact own_f12000
  | 0, 0, 1, _, _, _ => exact own_f12001
  | 0, 0, 2, _, _, _ => exact own_f12002
  | 0, 0, 3, _, _, _ => exact own_f12003
  | 0, 1, 0, _, _, _ => exact own_f12010
  | 0, 1, 1, _, _, _ => exact own_f12011
  | 0, 1, 2, _, _, _ => exact own_f12012
  | 0, 1, 3, _, _, _ => exact own_f12013
  | 0, 2, 0, _, _, _ => exact own_f12020
  | 0, 2, 1, _, _, _ => exact own_f12021
  | 0, 2, 2, _, _, _ => exact own_f12022
  | 0, 2, 3, _, _, _ => exact own_f12023
  | 1, 0, 0, _, _, _ => exact own_f12100
  | 1, 0, 1, _, _, _ => exact own_f12101
  | 1, 0, 2, _, _, _ => exact own_f12102
  | 1, 0, 3, _, _, _ => exact own_f12103
  | 1, 1, 0, _, _, _ => exact own_f12110
  | 1, 1, 1, _, _, _ => exact own_f12111
  | 1, 1, 2, _, _, _ => exact own_f12112
  | 1, 1, 3, _, _, _ => exact own_f12113
  | 1, 2, 0, _, _, _ => exact own_f12120
  | 1, 2, 1, _, _, _ => exact own_f12121
  | 1, 2, 2, _, _, _ => exact own_f12122
  | 1, 2, 3, _, _, _ => exact own_f12123
set_option maxRecDepth 65536 in
set_option maxHeartbeats 40000000 in
theorem own_f13000 : (own_e1 1 3 0 0 0 && own_e2 1 3 0 0 0) = true := by decide +kernel
set_option maxRecDepth 65536 in
set_option maxHeartbeats 40000000 in
theorem own_f13001 : (own_e1 1 3 0 0 1 && own_e2 1 3 0 0 1) = true := by decide +kernel
set_option maxRecDepth 65536 in
set_option maxHeartbeats 40000000 in
theorem own_f13002 : (own_e1 1 3 0 0 2 && own_e2 1 3 0 0 2) = true := by decide +kernel
set_option maxRecDepth 65536 in
set_option maxHeartbeats 40000000 in
theorem own_f13003 : (own_e1 1 3 0 0 3 && own_e2 1 3 0 0 3) = true := by decide +kernel
set_option maxRecDepth 65536 in
set_option maxHeartbeats 40000000 in
theorem own_f13010 : (own_e1 1 3 0 1 0 && own_e2 1 3 0 1 0) = true := by decide +kernel
set_option maxRecDepth 65536 in
set_option maxHeartbeats 40000000 in
theorem own_f13011 : (own_e1 1 3 0 1 1 && own_e2 1 3 0 1 1) = true := by decide +kernel
set_option maxRecDepth 65536 in
set_option maxHeartbeats 40000000 in
theorem own_f13012 : (own_e1 1 3 0 1 2 && own_e2 1 3 0 1 2) = true := by decide +kernel
set_option maxRecDepth 65536 in
set_option maxHeartbeats 40000000 in
theorem own_f13013 : (own_e1 1 3 0 1 3 && own_e2 1 3 0 1 3) = true := by decide +kernel
set_option maxRecDepth 65536 in
set_option maxHeartbeats 40000000 in
theorem own_f13020 : (own_e1 1 3 0 2 0 && own_e2 1 3 0 2 0) = true := by decide +kernel
set_option maxRecDepth 65536 in
set_option maxHeartbeats 40000000 in
theorem own_f13021 : (own_e1 1 3 0 2 1 && own_e2 1 3 0 2 1) = true := by decide +kernel
set_option maxRecDepth 65536 in
set_option maxHeartbeats 40000000 in
theorem own_f13022 : (own_e1 1 3 0 2 2 && own_e2 1 3 0 2 2) = true := by decide +kernel
set_option maxRecDepth 65536 in
set_option maxHeartbeats 40000000 in
theorem own_f13023 : (own_e1 1 3 0 2 3 && own_e2 1 3 0 2 3) = true := by decide +kernel
set_option maxRecDepth 65536 in
set_option maxHeartbeats 40000000 in
theorem own_f13100 : (own_e1 1 3 1 0 0 && own_e2 1 3 1 0 0) = true := by decide +kernel
set_option maxRecDepth 65536 in
set_option maxHeartbeats 40000000 in
theorem own_f13101 : (own_e1 1 3 1 0 1 && own_e2 1 3 1 0 1) = true := by decide +kernel
set_option maxRecDepth 65536 in
set_option maxHeartbeats 40000000 in
theorem own_f13102 : (own_e1 1 3 1 0 2 && own_e2 1 3 1 0 2) = true := by decide +kernel
set_option maxRecDepth 65536 in
set_option maxHeartbeats 40000000 in
theorem own_f13103 : (own_e1 1 3 1 0 3 && own_e2 1 3 1 0 3) = true := by decide +kernel
set_option maxRecDepth 65536 in
set_option maxHeartbeats 40000000 in
theorem own_f13110 : (own_e1 1 3 1 1 0 && own_e2 1 3 1 1 0) = true := by decide +kernel
set_option maxRecDepth 65536 in
set_option maxHeartbeats 40000000 in
theorem own_f13111 : (own_e1 1 3 1 1 1 && own_e2 1 3 1 1 1) = true := by decide +kernel
set_option maxRecDepth 65536 in
set_option maxHeartbeats 40000000 in
theorem own_f13112 : (own_e1 1 3 1 1 2 && own_e2 1 3 1 1 2) = true := by decide +kernel
set_option maxRecDepth 65536 in
set_option maxHeartbeats 40000000 in
theorem own_f13113 : (own_e1 1 3 1 1 3 && own_e2 1 3 1 1 3) = true := by decide +kernel
set_option maxRecDepth 65536 in
set_option maxHeartbeats 40000000 in
theorem own_f13120 : (own_e1 1 3 1 2 0 && own_e2 1 3 1 2 0) = true := by decide +kernel
set_option maxRecDepth 65536 in
set_option maxHeartbeats 40000000 in
theorem own_f13121 : (own_e1 1 3 1 2 1 && own_e2 1 3 1 2 1) = true := by decide +kernel
set_option maxRecDepth 65536 in
set_option maxHeartbeats 40000000 in
theorem own_f13122 : (own_e1 1 3 1 2 2 && own_e2 1 3 1 2 2) = true := by decide +kernel
set_option maxRecDepth 65536 in
set_option maxHeartbeats 40000000 in
theorem own_f13123 : (own_e1 1 3 1 2 3 && own_e2 1 3 1 2 3) = true := by decide +kernel
theorem own_f13 {a b c : Nat} (ha : a < 2) (hb : b < 3) (hc : c < 4) : (own_e1 1 3 a b c && own_e2 1 3 a b c) = true := by
  match a, b, c, ha, hb, hc with
  | 0, 0, 0, _, _, _ => exact own_f13000
  | 0, 0, 1, _, _, _ => exact own_f13001
  | 0, 0, 2, _, _, _ => exact own_f13002
  | 0, 0, 3, _, _, _ => exact own_f13003
  | 0, 1, 0, _, _, _ => exact own_f13010
  | 0, 1, 1, _, _, _ => exact own_f13011
  | 0, 1, 2, _, _, _ => exact own_f13012
  | 0, 1, 3, _, _, _ => exact own_f13013
  | 0, 2, 0, _, _, _ => exact own_f13020
  | 0, 2, 1, _, _, _ => exact own_f13021
  | 0, 2, 2, _, _, _ => exact own_f13022
  | 0, 2, 3, _, _, _ => exact own_f13023
  | 1, 0, 0, _, _, _ => exact own_f13100
  | 1, 0, 1, _, _, _ => exact own_f13101
  | 1, 0, 2, _, _, _ => exact own_f13102
  | 1, 0, 3, _, _, _ => exact own_f13103
  | 1, 1, 0, _, _, _ => exact own_f13110
  | 1, 1, 1, _, _, _ => exact own_f13111
  | 1, 1, 2, _, _, _ => exact own_f13112
  | 1, 1, 3, _, _, _ => exact own_f13113
  | 1, 2, 0, _, _, _ => exact own_f13120
  | 1, 2, 1, _, _, _ => exact own_f13121
  | 1, 2, 2, _, _, _ => exact own_f13122
  | 1, 2, 3, _, _, _ => exact own_f13123
set_option maxRecDepth 65536 in
set_option maxHeartbeats 40000000 in
theorem own_f14000 : (own_e1 1 4 0 0 0 && own_e2 1 4 0 0 0) = true := by decide +kernel
set_option maxRecDepth 65536 in
set_option maxHeartbeats 40000000 in
theorem own_f14001 : (own_e1 1 4 0 0 1 && own_e2 1 4 0 0 1) = true := by decide +kernel
set_option maxRecDepth 65536 in
set_option maxHeartbeats 40000000 in
theorem own_f14002 : (own_e1 1 4 0 0 2 && own_e2 1 4 0 0 2) = true := by decide +kernel
set_option maxRecDepth 65536 in
set_option maxHeartbeats 40000000 in
theorem own_f14003 : (own_e1 1 4 0 0 3 && own_e2 1 4 0 0 3) = true := by decide +kernel
set_option maxRecDepth 65536 in
set_option maxHeartbeats 40000000 in
theorem own_f14010 : (own_e1 1 4 0 1 0 && own_e2 1 4 0 1 0) = true := by decide +kernel
set_option maxRecDepth 65536 in
set_option maxHeartbeats 40000000 in
theorem own_f14011 : (own_e1 1 4 0 1 1 && own_e2 1 4 0 1 1) = true := by decide +kernel
set_option maxRecDepth 65536 in
set_option maxHeartbeats 40000000 in
theorem own_f14012 : (own_e1 1 4 0 1 2 && own_e2 1 4 0 1 2) = true := by decide +kernel
set_option maxRecDepth 65536 in
set_option maxHeartbeats 40000000 in
theorem own_f14013 : (own_e1 1 4 0 1 3 && own_e2 1 4 0 1 3) = true := by decide +kernel
set_option maxRecDepth 65536 in
set_option maxHeartbeats 40000000 in
theorem own_f14020 : (own_e1 1 4 0 2 0 && own_e2 1 4 0 2 0) = true := by decide +kernel
set_option maxRecDepth 65536 in
set_option maxHeartbeats 40000000 in
theorem own_f14021 : (own_e1 1 4 0 2 1 && own_e2 1 4 0 2 1) = true := by decide +kernel
set_option maxRecDepth 65536 in
set_option maxHeartbeats 40000000 in
theorem own_f14022 : (own_e1 1 4 0 2 2 && own_e2 1 4 0 2 2) = true := by decide +kernel
set_option maxRecDepth 65536 in
set_option maxHeartbeats 40000000 in
theorem own_f14023 : (own_e1 1 4 0 2 3 && own_e2 1 4 0 2 3) = true := by decide +kernel
set_option maxRecDepth 65536 in
set_option maxHeartbeats 40000000 in
theorem own_f14100 : (own_e1 1 4 1 0 0 && own_e2 1 4 1 0 0) = true := by decide +kernel
set_option maxRecDepth 65536 in
set_option maxHeartbeats 40000000 in
theorem own_f14101 : (own_e1 1 4 1 0 1 && own_e2 1 4 1 0 1) = true := by decide +kernel
set_option maxRecDepth 65536 in
set_option maxHeartbeats 40000000 in
theorem own_f14102 : (own_e1 1 4 1 0 2 && own_e2 1 4 1 0 2) = true := by decide +kernel
set_option maxRecDepth 65536 in
set_option maxHeartbeats 40000000 in
theorem own_f14103 : (own_e1 1 4 1 0 3 && own_e2 1 4 1 0 3) = true := by decide +kernel
set_option maxRecDepth 65536 in
set_option maxHeartbeats 40000000 in
theorem own_f14110 : (own_e1 1 4 1 1 0 && own_e2 1 4 1 1 0) = true := by decide +kernel
set_option maxRecDepth 65536 in
set_option maxHeartbeats 40000000 in
theorem own_f14111 : (own_e1 1 4 1 1 1 && own_e2 1 4 1 1 1) = true := by decide +kernel
set_option maxRecDepth 65536 in
set_option maxHeartbeats 40000000 in
theorem own_f14112 : (own_e1 1 4 1 1 2 && own_e2 1 4 1 1 2) = true := by decide +kernel
set_option maxRecDepth 65536 in
set_option maxHeartbeats 40000000 in
theorem own_f14113 : (own_e1 1 4 1 1 3 && own_e2 1 4 1 1 3) = true := by decide +kernel
set_option maxRecDepth 65536 in
set_option maxHeartbeats 40000000 in
theorem own_f14120 : (own_e1 1 4 1 2 0 && own_e2 1 4 1 2 0) = true := by decide +kernel
set_option maxRecDepth 65536 in
set_option maxHeartbeats 40000000 in
theorem own_f14121 : (own_e1 1 4 1 2 1 && own_e2 1 4 1 2 1) = true := by decide +kernel
set_option maxRecDepth 65536 in
set_option maxHeartbeats 40000000 in
theorem own_f14122 : (own_e1 1 4 1 2 2 && own_e2 1 4 1 2 2) = true := by decide +kernel
set_option maxRecDepth 65536 in
set_option maxHeartbeats 40000000 in
theorem own_f14123 : (own_e1 1 4 1 2 3 && own_e2 1 4 1 2 3) = true := by decide +kernel
theorem own_f14 {a b c : Nat} (ha : a < 2) (hb : b < 3) (hc : c < 4) : (own_e1 1 4 a b c && own_e2 1 4 a b c) = true := by
  match a, b, c, ha, hb, hc with
  | 0, 0, 0, _, _, _ => exact own_f14000
  | 0, 0, 1, _, _, _ => exact own_f14001
  | 0, 0, 2, _, _, _ => exact own_f14002
  | 0, 0, 3, _, _, _ => exact own_f14003
  | 0, 1, 0, _, _, _ => exact own_f14010
  | 0, 1, 1, _, _, _ => exact own_f14011
  | 0, 1, 2, _, _, _ => exact own_f14012
  | 0, 1, 3, _, _, _ => exact own_f14013
  | 0, 2, 0, _, _, _ => exact own_f14020
  | 0, 2, 1, _, _, _ => exact own_f14021
  | 0, 2, 2, _, _, _ => exact own_f14022
  | 0, 2, 3, _, _, _ => exact own_f14023
  | 1, 0, 0, _, _, _ => exact own_f14100
  | 1, 0, 1, _, _, _ => exact own_f14101
  | 1, 0, 2, _, _, _ => exact own_f14102
  | 1, 0, 3, _, _, _ => exact own_f14103
  | 1, 1, 0, _, _, _ => exact own_f14110
  | 1, 1, 1, _, _, _ => exact own_f14111
  | 1, 1, 2, _, _, _ => exact own_f14112
  | 1, 1, 3, _, _, _ => exact own_f14113
  | 1, 2, 0, _, _, _ => exact own_f14120
  | 1, 2, 1, _, _, _ => exact own_f14121
  | 1, 2, 2, _, _, _ => exact own_f14122
  | 1, 2, 3, _, _, _ => exact own_f14123
theorem own_fin {F R N2 N3 N4 : Nat} (h1 : F < 2) (h2 : R < 5) (h3 : N2 < 2) (h4 : N3 < 3) (h5 : N4 < 4) : (own_e1 F R N2 N3 N4 && own_e2 F R N2 N3 N4) = true := by
  match F, R, h1, h2 with
  | 0, 0, _, _ => exact own_f00 h3 h4 h5
  | 0, 1, _, _ => exact own_f01 h3 h4 h5
  | 0, 2, _, _ => exact own_f02 h3 h4 h5
  | 0, 3, _, _ => exact own_f03 h3 h4 h5
  | 0, 4, _, _ => exact own_f04 h3 h4 h5
  | 1, 0, _, _ => exact own_f10 h3 h4 h5
  | 1, 1, _, _ => exact own_f11 h3 h4 h5
  | 1, 2, _, _ => exact own_f12 h3 h4 h5
  | 1, 3, _, _ => exact own_f13 h3 h4 h5
  | 1, 4, _, _ => exact own_f14 h3 h4 h5
theorem k_36 {Z : State} {a0 : Array Value} (hw : HW1 Z a0) : (Jvm.Cond.constant "com/example/sluice/sluice/algo/SpanningTreeJoinPinLaw" 21 (2147483647)).before a0 Z = true := (hw _ (List.mem_of_getElem? (i := 5) rfl))
theorem s0_238 : Nx code 238 (.ldc 21) 2 240 := ⟨at_238, rfl⟩
theorem s0_240 : Nx code 240 (.iand) 1 241 := ⟨at_240, rfl⟩
theorem s0_246 : Nx code 246 (.ldc 21) 2 248 := ⟨at_246, rfl⟩
theorem s0_248 : Nx code 248 (.iand) 1 249 := ⟨at_248, rfl⟩
theorem s0_2 : Nx code 2 (.iand) 1 3 := ⟨at_2, rfl⟩
theorem s0_7 : Nx code 7 (.iushr) 1 8 := ⟨at_7, rfl⟩
theorem s0_9 : Nx code 9 (.iand) 1 10 := ⟨at_9, rfl⟩
theorem s0_16 : Nx code 16 (.iushr) 1 17 := ⟨at_16, rfl⟩
theorem s0_18 : Nx code 18 (.iand) 1 19 := ⟨at_18, rfl⟩
theorem s0_51 : Nx code 51 (.iand) 1 52 := ⟨at_51, rfl⟩
theorem s0_64 : Nx code 64 (.iushr) 1 65 := ⟨at_64, rfl⟩

set_option maxRecDepth 65536 in
set_option maxHeartbeats 40000000 in
theorem own_j (l : Launch) {Z : State} {a0 : Array Value} (hw : HW1 Z a0) (n0 : Nat) (p0 p1 p2 p3 : Int32) {F R N2 N3 N4 sa sb : Nat} (h1 : F < 2) (h2 : R < 5) (h3 : N2 < 2) (h4 : N3 < 3) (h5 : N4 < 4) (h6 : sa < 5) (h7 : sb < 5) (ea : (p2 &&& (2147483647 : Int32)) % (5 : Int32) = Int32.ofInt (.ofNat sa)) (eb : (p3 &&& (2147483647 : Int32)) % (5 : Int32) = Int32.ofInt (.ofNat sb)) {G : GoT} (H : IsGo l Z a0 KT n0 0 x code maxLocals ret room_1 (fun v _ => v = some (.int 1)) G) : Gu n0 (own_t p0 p1 p2 p3 sa sb) G (69, own_l0 F R N2 N3 N4, [], [own_sp N2 N3 N4], 1, 5) := by
  have hf := own_fin h1 h2 h3 h4 h5
  rw [Bool.and_eq_true] at hf
  refine (seg_ok (tabok l hw n0 (own_t p0 p1 p2 p3 sa sb)) 4000 0 _ _ (isM_ok hf.1) rfl 0 rfl).2 room_1 _ G rfl rfl (leb rfl) (leb rfl) H ?_
  show G 237 #[.val (.int p0), .val (.int p1), .val (.int p2), .val (.int p3), .val (.int (upI (own_t p0 p1 p2 p3 sa sb) (.ofNat N2))), .val (.int (upI (own_t p0 p1 p2 p3 sa sb) (.ofNat N3))), .val (.int (upI (own_t p0 p1 p2 p3 sa sb) (.ofNat N4))), .val (.ref (n0 + 0)), .val (.int (upI (own_t p0 p1 p2 p3 sa sb) (.ofNat F))), .val (.int (upI (own_t p0 p1 p2 p3 sa sb) (.ofNat R))), .val (.ref (n0 + 1)), .val (.ref (n0 + 2)), .val (.int (upI (own_t p0 p1 p2 p3 sa sb) (.ofNat (own_lab F R 0)))), .unset, .unset, .unset, .unset, .unset] [] ((own_A1 F R N2 N3 N4).map (upO n0 (own_t p0 p1 p2 p3 sa sb))) 3 15
  refine H.iloadN s0_237 rfl ?_
  refine H.ldc s0_238 (k_36 hw) ?_
  refine H.iand s0_240 rfl ?_
  refine H.iconst s0_241 (v := (5 : Int32)) (by decide) ?_
  refine H.irem s0_242 (by decide) (w := (Int32.ofInt (.ofNat sa))) ea ?_
  refine H.istore s0_243 (ls' := #[.val (.int p0), .val (.int p1), .val (.int p2), .val (.int p3), .val (.int (upI (own_t p0 p1 p2 p3 sa sb) (.ofNat N2))), .val (.int (upI (own_t p0 p1 p2 p3 sa sb) (.ofNat N3))), .val (.int (upI (own_t p0 p1 p2 p3 sa sb) (.ofNat N4))), .val (.ref (n0 + 0)), .val (.int (upI (own_t p0 p1 p2 p3 sa sb) (.ofNat F))), .val (.int (upI (own_t p0 p1 p2 p3 sa sb) (.ofNat R))), .val (.ref (n0 + 1)), .val (.ref (n0 + 2)), .val (.int (upI (own_t p0 p1 p2 p3 sa sb) (.ofNat (own_lab F R 0)))), .val (.int (Int32.ofInt (.ofNat sa))), .unset, .unset, .unset, .unset]) rfl ?_
  refine H.iloadN s0_245 rfl ?_
  refine H.ldc s0_246 (k_36 hw) ?_
  refine H.iand s0_248 rfl ?_
  refine H.iconst s0_249 (v := (5 : Int32)) (by decide) ?_
  refine H.irem s0_250 (by decide) (w := (Int32.ofInt (.ofNat sb))) eb ?_
  refine H.istore s0_251 (ls' := #[.val (.int p0), .val (.int p1), .val (.int p2), .val (.int p3), .val (.int (upI (own_t p0 p1 p2 p3 sa sb) (.ofNat N2))), .val (.int (upI (own_t p0 p1 p2 p3 sa sb) (.ofNat N3))), .val (.int (upI (own_t p0 p1 p2 p3 sa sb) (.ofNat N4))), .val (.ref (n0 + 0)), .val (.int (upI (own_t p0 p1 p2 p3 sa sb) (.ofNat F))), .val (.int (upI (own_t p0 p1 p2 p3 sa sb) (.ofNat R))), .val (.ref (n0 + 1)), .val (.ref (n0 + 2)), .val (.int (upI (own_t p0 p1 p2 p3 sa sb) (.ofNat (own_lab F R 0)))), .val (.int (Int32.ofInt (.ofNat sa))), .val (.int (Int32.ofInt (.ofNat sb))), .unset, .unset, .unset]) rfl ?_
  have hf2 := hf.2
  unfold own_e2 at hf2
  split at hf2
  · next pc ls st A' k' n' hg =>
    simp only [Bool.and_eq_true] at hf2
    obtain ⟨⟨⟨⟨⟨t1, t2⟩, t3⟩, t4⟩, t5⟩, t6⟩ := hf2
    have t1 := Nat.eq_of_beq_eq_true t1
    have t2 := eqL_ok eqS_ok t2
    have t3 := List.isEmpty_iff.mp t3
    subst t1 t2 t3
    have e3 := own_all_ok t6 h6 h7
    have q := seg_ok (tabok l hw n0 (own_t p0 p1 p2 p3 sa sb)) 4000 0 _ _ hg rfl 0 rfl
    show Gu n0 (own_t p0 p1 p2 p3 sa sb) G (253, own_l1 F R N2 N3 N4 (own_k 4) (own_k 5), [], own_A1 F R N2 N3 N4, 3, 15)
    refine q.2 room_1 _ G rfl rfl (Nat.le_of_ble_eq_true t4) (Nat.le_of_ble_eq_true t5) H ?_
    unfold own_e3 at e3
    split at e3
    · next pc ls st A'' k'' n'' hg3 =>
      simp only [Bool.and_eq_true] at e3
      obtain ⟨⟨⟨u1, u2⟩, u3⟩, u4⟩ := e3
      have u1 := Nat.eq_of_beq_eq_true u1
      split at u2
      · next v =>
        have u2 := Nat.eq_of_beq_eq_true u2
        subst u1 u2
        have q3 := seg_ok (tabok l hw n0 (own_t p0 p1 p2 p3 sa sb)) 4000 0 _ _ hg3 rfl 0 q.1.2.1
        have key : Gu n0 (own_t p0 p1 p2 p3 sa sb) G (268, own_l2 F R N2 N3 N4 (own_s sa) (own_s sb), [], A', k', n') := by
          refine q3.2 room_1 _ G rfl rfl (Nat.le_of_ble_eq_true u3) (Nat.le_of_ble_eq_true u4) H ?_
          have e1 : upI (own_t p0 p1 p2 p3 sa sb) (.ofNat 1) = 1 := by rw [upI_ok rfl]; decide
          simp only [Gu, List.map_cons, List.map_nil, upV, e1]
          exact H.ireturn s0_323 rfl (by simp) rfl rfl (Nat.le_of_ble_eq_true u3) (Nat.le_of_ble_eq_true u4)
        have ea2 : upI (own_t p0 p1 p2 p3 sa sb) (.ofNat (2147483648 + 4)) = upI (own_t p0 p1 p2 p3 sa sb) (.ofNat sa) := (upI_ok (own_ok (by omega))).symm
        have eb2 : upI (own_t p0 p1 p2 p3 sa sb) (.ofNat (2147483648 + 5)) = upI (own_t p0 p1 p2 p3 sa sb) (.ofNat sb) := (upI_ok (own_ok (by omega))).symm
        simp only [Gu, own_l2, own_k, own_s, own_i, List.map_cons, List.map_nil, upL, upV, ea2, eb2] at key ⊢
        exact key
      · cases u2
    · cases e3
  · cases hf2

set_option maxRecDepth 65536 in
set_option maxHeartbeats 40000000 in
theorem law_met (l : Launch) {Z : State} {a0 : Array Value} (hw : HW1 Z a0) (n0 : Nat) (p0 : Int32) (p1 : Int32) (p2 : Int32) (p3 : Int32) : Met l Z KT n0 x code maxLocals ret room_1 #[(.int p0), (.int p1), (.int p2), (.int p3)] [] (fun v _ => v = some (.int 1)) := by
  refine Met.of (a0 := a0) (ls := #[.val (.int p0), .val (.int p1), .val (.int p2), .val (.int p3), .unset, .unset, .unset, .unset, .unset, .unset, .unset, .unset, .unset, .unset, .unset, .unset, .unset, .unset]) (kok hw) (plainFor_of_name pn_1) (fun m => by first | (simp [entryFrame, mkF, argsToLocals, Value.category, maxLocals]; done) | rfl) (fun G H => ?_)
  obtain ⟨sa, h6, ea⟩ := own_x6 p2
  obtain ⟨sb, h7, eb⟩ := own_x6 p3
  obtain ⟨N2, h3, e2⟩ := own_x2 p0
  obtain ⟨N3, h4, e3⟩ := own_x3 ((p0.toUInt32 >>> ((1 : Int32) &&& 31).toUInt32).toInt32)
  obtain ⟨N4, h5, e4⟩ := own_x4 ((p0.toUInt32 >>> ((3 : Int32) &&& 31).toUInt32).toInt32)
  obtain ⟨R, h2, e5⟩ := own_x5 p1
  have ea := (ea (fun _ => 0)).trans (upI_ok (own_ok (by omega)))
  have eb := (eb (fun _ => 0)).trans (upI_ok (own_ok (by omega)))
  refine H.iloadN s0_0 rfl ?_
  refine H.iconst s0_1 (v := (1 : Int32)) (by decide) ?_
  refine H.iand s0_2 (w := (upI (own_t p0 p1 p2 p3 sa sb) (.ofNat N2))) (e2 _) ?_
  refine H.istore s0_3 (ls' := #[.val (.int p0), .val (.int p1), .val (.int p2), .val (.int p3), .val (.int (upI (own_t p0 p1 p2 p3 sa sb) (.ofNat N2))), .unset, .unset, .unset, .unset, .unset, .unset, .unset, .unset, .unset, .unset, .unset, .unset, .unset]) rfl ?_
  refine H.iloadN s0_5 rfl ?_
  refine H.iconst s0_6 (v := (1 : Int32)) (by decide) ?_
  refine H.iushr s0_7 rfl ?_
  refine H.iconst s0_8 (v := (3 : Int32)) (by decide) ?_
  refine H.iand s0_9 rfl ?_
  refine H.iconst s0_10 (v := (3 : Int32)) (by decide) ?_
  refine H.irem s0_11 (by decide) (w := (upI (own_t p0 p1 p2 p3 sa sb) (.ofNat N3))) (e3 _) ?_
  refine H.istore s0_12 (ls' := #[.val (.int p0), .val (.int p1), .val (.int p2), .val (.int p3), .val (.int (upI (own_t p0 p1 p2 p3 sa sb) (.ofNat N2))), .val (.int (upI (own_t p0 p1 p2 p3 sa sb) (.ofNat N3))), .unset, .unset, .unset, .unset, .unset, .unset, .unset, .unset, .unset, .unset, .unset, .unset]) rfl ?_
  refine H.iloadN s0_14 rfl ?_
  refine H.iconst s0_15 (v := (3 : Int32)) (by decide) ?_
  refine H.iushr s0_16 rfl ?_
  refine H.iconst s0_17 (v := (3 : Int32)) (by decide) ?_
  refine H.iand s0_18 (w := (upI (own_t p0 p1 p2 p3 sa sb) (.ofNat N4))) (e4 _) ?_
  refine H.istore s0_19 (ls' := #[.val (.int p0), .val (.int p1), .val (.int p2), .val (.int p3), .val (.int (upI (own_t p0 p1 p2 p3 sa sb) (.ofNat N2))), .val (.int (upI (own_t p0 p1 p2 p3 sa sb) (.ofNat N3))), .val (.int (upI (own_t p0 p1 p2 p3 sa sb) (.ofNat N4))), .unset, .unset, .unset, .unset, .unset, .unset, .unset, .unset, .unset, .unset, .unset]) rfl ?_
  refine H.iconst s0_21 (v := (5 : Int32)) (by decide) ?_
  refine H.newarray s0_22 (ty := .int) rfl (k_0 hw) (N := 5) (cap := 5) (by decide) rfl (by decide) (by decide) rfl (by decide) (by decide) (i := 0) rfl (A' := [.inr (.int, [(.int (0 : Int32)), (.int (0 : Int32)), (.int (0 : Int32)), (.int (0 : Int32)), (.int (0 : Int32))])]) rfl (k' := 1) rfl (n' := 5) rfl ?_
  refine H.dup s0_24 rfl ?_
  refine H.iconst s0_25 (v := (0 : Int32)) (by decide) ?_
  refine H.iconst s0_26 (v := (-1 : Int32)) (by decide) ?_
  refine H.iastore s0_27 (i := 0) (j := 0) rfl (by decide) (ltb rfl)  (A' := [.inr (.int, [(.int (-1 : Int32)), (.int (0 : Int32)), (.int (0 : Int32)), (.int (0 : Int32)), (.int (0 : Int32))])]) rfl ?_
  refine H.dup s0_28 rfl ?_
  refine H.iconst s0_29 (v := (1 : Int32)) (by decide) ?_
  refine H.iconst s0_30 (v := (0 : Int32)) (by decide) ?_
  refine H.iastore s0_31 (i := 0) (j := 1) rfl (by decide) (ltb rfl)  (A' := [.inr (.int, [(.int (-1 : Int32)), (.int (0 : Int32)), (.int (0 : Int32)), (.int (0 : Int32)), (.int (0 : Int32))])]) rfl ?_
  refine H.dup s0_32 rfl ?_
  refine H.iconst s0_33 (v := (2 : Int32)) (by decide) ?_
  refine H.iload s0_34 rfl ?_
  refine H.iastore s0_36 (i := 0) (j := 2) rfl (by decide) (ltb rfl)  (A' := [.inr (.int, [(.int (-1 : Int32)), (.int (0 : Int32)), (.int (upI (own_t p0 p1 p2 p3 sa sb) (.ofNat N2))), (.int (0 : Int32)), (.int (0 : Int32))])]) rfl ?_
  refine H.dup s0_37 rfl ?_
  refine H.iconst s0_38 (v := (3 : Int32)) (by decide) ?_
  refine H.iload s0_39 rfl ?_
  refine H.iastore s0_41 (i := 0) (j := 3) rfl (by decide) (ltb rfl)  (A' := [.inr (.int, [(.int (-1 : Int32)), (.int (0 : Int32)), (.int (upI (own_t p0 p1 p2 p3 sa sb) (.ofNat N2))), (.int (upI (own_t p0 p1 p2 p3 sa sb) (.ofNat N3))), (.int (0 : Int32))])]) rfl ?_
  refine H.dup s0_42 rfl ?_
  refine H.iconst s0_43 (v := (4 : Int32)) (by decide) ?_
  refine H.iload s0_44 rfl ?_
  refine H.iastore s0_46 (i := 0) (j := 4) rfl (by decide) (ltb rfl)  (A' := [.inr (.int, [(.int (-1 : Int32)), (.int (0 : Int32)), (.int (upI (own_t p0 p1 p2 p3 sa sb) (.ofNat N2))), (.int (upI (own_t p0 p1 p2 p3 sa sb) (.ofNat N3))), (.int (upI (own_t p0 p1 p2 p3 sa sb) (.ofNat N4)))])]) rfl ?_
  refine H.astore s0_47 rfl (ls' := #[.val (.int p0), .val (.int p1), .val (.int p2), .val (.int p3), .val (.int (upI (own_t p0 p1 p2 p3 sa sb) (.ofNat N2))), .val (.int (upI (own_t p0 p1 p2 p3 sa sb) (.ofNat N3))), .val (.int (upI (own_t p0 p1 p2 p3 sa sb) (.ofNat N4))), .val (.ref (n0 + 0)), .unset, .unset, .unset, .unset, .unset, .unset, .unset, .unset, .unset, .unset]) rfl ?_
  refine H.iloadN s0_49 rfl ?_
  refine H.iconst s0_50 (v := (1 : Int32)) (by decide) ?_
  refine H.iand s0_51 rfl ?_
  refine H.ifS s0_52 (fun (c52 : (p1 &&& (1 : Int32)) = (0 : Int32)) => ?_) (fun (c52 : ¬ (p1 &&& (1 : Int32)) = (0 : Int32)) => ?_)
  · have d52 : (p1 &&& (1 : Int32)).toInt = 0 := (i_eq rfl (by decide : (0 : Int32).toInt = 0)).mp c52
    refine H.iconst s0_59 (v := (0 : Int32)) (by decide) ?_
    refine H.istore s0_60 (ls' := #[.val (.int p0), .val (.int p1), .val (.int p2), .val (.int p3), .val (.int (upI (own_t p0 p1 p2 p3 sa sb) (.ofNat N2))), .val (.int (upI (own_t p0 p1 p2 p3 sa sb) (.ofNat N3))), .val (.int (upI (own_t p0 p1 p2 p3 sa sb) (.ofNat N4))), .val (.ref (n0 + 0)), .val (.int (0 : Int32)), .unset, .unset, .unset, .unset, .unset, .unset, .unset, .unset, .unset]) rfl ?_
    refine H.iloadN s0_62 rfl ?_
    refine H.iconst s0_63 (v := (1 : Int32)) (by decide) ?_
    refine H.iushr s0_64 rfl ?_
    refine H.iconst s0_65 (v := (5 : Int32)) (by decide) ?_
    refine H.irem s0_66 (by decide) (w := (upI (own_t p0 p1 p2 p3 sa sb) (.ofNat R))) (e5 _) ?_
    refine H.istore s0_67 (ls' := #[.val (.int p0), .val (.int p1), .val (.int p2), .val (.int p3), .val (.int (upI (own_t p0 p1 p2 p3 sa sb) (.ofNat N2))), .val (.int (upI (own_t p0 p1 p2 p3 sa sb) (.ofNat N3))), .val (.int (upI (own_t p0 p1 p2 p3 sa sb) (.ofNat N4))), .val (.ref (n0 + 0)), .val (.int (0 : Int32)), .val (.int (upI (own_t p0 p1 p2 p3 sa sb) (.ofNat R))), .unset, .unset, .unset, .unset, .unset, .unset, .unset, .unset]) rfl ?_
    exact own_j l hw n0 p0 p1 p2 p3 (F := 0) (R := R) (N2 := N2) (N3 := N3) (N4 := N4) (sa := sa) (sb := sb) (by decide) h2 h3 h4 h5 h6 h7 ea eb H
  · have d52 : ¬ (p1 &&& (1 : Int32)).toInt = 0 := (i_ne rfl (by decide : (0 : Int32).toInt = 0)).mp c52
    refine H.iconst s0_55 (v := (1 : Int32)) (by decide) ?_
    refine H.goto s0_56 ?_
    refine H.istore s0_60 (ls' := #[.val (.int p0), .val (.int p1), .val (.int p2), .val (.int p3), .val (.int (upI (own_t p0 p1 p2 p3 sa sb) (.ofNat N2))), .val (.int (upI (own_t p0 p1 p2 p3 sa sb) (.ofNat N3))), .val (.int (upI (own_t p0 p1 p2 p3 sa sb) (.ofNat N4))), .val (.ref (n0 + 0)), .val (.int (1 : Int32)), .unset, .unset, .unset, .unset, .unset, .unset, .unset, .unset, .unset]) rfl ?_
    refine H.iloadN s0_62 rfl ?_
    refine H.iconst s0_63 (v := (1 : Int32)) (by decide) ?_
    refine H.iushr s0_64 rfl ?_
    refine H.iconst s0_65 (v := (5 : Int32)) (by decide) ?_
    refine H.irem s0_66 (by decide) (w := (upI (own_t p0 p1 p2 p3 sa sb) (.ofNat R))) (e5 _) ?_
    refine H.istore s0_67 (ls' := #[.val (.int p0), .val (.int p1), .val (.int p2), .val (.int p3), .val (.int (upI (own_t p0 p1 p2 p3 sa sb) (.ofNat N2))), .val (.int (upI (own_t p0 p1 p2 p3 sa sb) (.ofNat N3))), .val (.int (upI (own_t p0 p1 p2 p3 sa sb) (.ofNat N4))), .val (.ref (n0 + 0)), .val (.int (1 : Int32)), .val (.int (upI (own_t p0 p1 p2 p3 sa sb) (.ofNat R))), .unset, .unset, .unset, .unset, .unset, .unset, .unset, .unset]) rfl ?_
    exact own_j l hw n0 p0 p1 p2 p3 (F := 1) (R := R) (N2 := N2) (N3 := N3) (N4 := N4) (sa := sa) (sb := sb) (by decide) h2 h3 h4 h5 h6 h7 ea eb H

set_option maxRecDepth 65536 in
set_option maxHeartbeats 40000000 in
theorem comes_1 {Post : Tables → Env → Array Value → State → Outcome → State → Prop} (hpost : ∀ tb e args s v u, (limb_1_1.after args s (.returned v) u = true ∧ limb_1_2.after args s (.returned v) u = true ∧ True) → FrameEnd s (.returned v) u (Jvm.fieldLocs frame_1_writes args s ++ Jvm.arrayLocs frame_1_arrays args s ++ Jvm.staticLocs frame_1_statics s) 48 256 → Post tb e args s (.returned v) u) :
    ArmFor flags0 classFile x code maxLocals ret World_1 tables_1 room_1 Calls_1 rest_1 Pre_1 Post := by
  intro l hfl _ _ p e ha hc hk s m args below hf hA hF happ hP
  obtain ⟨hcalls, hrest, hpre⟩ := hP
  obtain ⟨-, -, -, hnamed, -, -, -, hat⟩ := (Spec.applies_iff hf).mp happ
  obtain ⟨hg, hn⟩ := and_e (Cond.before_iff.mp (show (Jvm.Cond.and given_1 narrow_1).before args s = true from hpre))
  obtain ⟨hc0, hr0⟩ := and_e hg
  obtain ⟨w0, w1, w2, w3, rfl⟩ : ∃ w0 w1 w2 w3 : Value, args = #[w0, w1, w2, w3] := by
    have hs : args.size = 4 := by simpa [Cond.value, given_1] using hc0
    obtain ⟨L⟩ := args
    match L, hs with
    | [w0, w1, w2, w3], _ => exact ⟨w0, w1, w2, w3, rfl⟩
  have hw : HW1 s _ := fun d (hd : d ∈ tables_1) => atoms_spec (ws := Jvm.Cond.code x code maxLocals ret :: tables_1) hat d (List.mem_cons_of_mem _ hd)
  obtain ⟨hx0, hr1⟩ := and_e hr0
  obtain ⟨i0, ee0⟩ := is_v hx0
  obtain rfl : w0 = (.int i0) := Option.some.inj ee0
  obtain ⟨hx1, hr2⟩ := and_e hr1
  obtain ⟨i1, ee1⟩ := is_v hx1
  obtain rfl : w1 = (.int i1) := Option.some.inj ee1
  obtain ⟨hx2, hr3⟩ := and_e hr2
  obtain ⟨i2, ee2⟩ := is_v hx2
  obtain rfl : w2 = (.int i2) := Option.some.inj ee2
  have hx3 := hr3
  obtain ⟨i3, ee3⟩ := is_v hx3
  obtain rfl : w3 = (.int i3) := Option.some.inj ee3
  obtain ⟨n, o, h1, h2, h3, _, L, rfl, ⟨A', rfl, hRel, N⟩, hq⟩ := law_met l hw s.heap.size i0 i1 i2 i3 tables_1 s.heap ⟨rfl, fun i o h => by simp at h⟩ p e ha hc hk s m _ below hf ((Spec.applies_iff_loose hf).mp happ).1 ⟨rfl, State.Warmed39.refl s, rfl⟩ trivial
  refine ⟨n, _, h1, h2, h3, hpost _ _ _ _ _ _ ⟨Cond.after_iff.mpr rfl, Cond.after_iff.mpr (eq_i res_at (Term.int_eval (1)) rfl), trivial⟩ ⟨hq.1, hq.2.1, (hq.2.2.sift fun y hy => Or.inr (N y hy)).mono (by decide) (by decide)⟩⟩
theorem main_1_1 : Claimed_1_1 := comes_1 fun _ _ _ _ _ _ h hF => ⟨h.1, hF⟩
theorem main_1_2 : Claimed_1_2 := comes_1 fun _ _ _ _ _ _ h hF => ⟨h.2.1, hF⟩
end Jvm.Pilot.@@N@@
namespace Jvm.Pilot.@@N@@
open Jvm Jvm.ClassFile Sem Op Lib Jvm.Free Jvm.Stand Jvm.Pilot.@@N@@.Jvm.D
/-! MADE BY PROGRAM (witnessworld.py) out of the Statement's table words and the real class files: 11 classes; the members and pool entries that the words name. The judged class is class 1, her method 5. -/
namespace start1
open Jvm.ClassFile
def u (s : String) : CpInfo := .utf8 (stringToUtf16 s)
/-- a pool by its gaps: so many unusable entries, then the entry; so many at the end -/
def gap : Nat → List CpInfo → List CpInfo
  | 0, r => r
  | n + 1, r => .unusable :: gap n r
def poolList (es : List (Nat × CpInfo)) (last : Nat) : List CpInfo := es.foldr (fun e r => gap e.1 (e.2 :: r)) (gap last [])
def pool (es : List (Nat × CpInfo)) (last : Nat) : Array CpInfo := ⟨poolList es last⟩
def fileOf (pool : Array CpInfo) (this : Nat) (attrs : Array Attribute := #[]) (ms : Array MethodInfo := #[]) (fl : Nat := 33) (sup : Nat := 0) (ifs : Array Nat := #[]) (fds : Array FieldInfo := #[]) : ClassFile where
  minorVersion := 0
  majorVersion := 65
  constantPool := pool
  accessFlags := fl
  thisClass := this
  superClass := sup
  interfaces := ifs
  fields := fds
  methods := ms
  attributes := attrs
def plain (name : String) (sup : Option ClassId) : Class where
  name := name
  kind := .ordinary
  loader := none
  accessFlags := 33
  super := sup
  interfaces := #[]
  cf := none
  fields := #[]
  methods := #[]
  instanceTypes := #[]
  staticTypes := #[]
  resolved := #[]
  callSites := []
  init := .initialized
  statics := none
  mirror := none

def pool0 : Array CpInfo := pool [(5, u "<init>"), (0, u "()V"), (1, .class_ 10), (1, u "java/lang/Object"), (85, u "clone"), (0, u "()Ljava/lang/Object;")] 26

def k0c0 : Code := { maxStack := 0, maxLocals := 1, code := object_method_1_code, exceptionTable := #[], attributes := #[] }
def k0m0 : Method := { name := "<init>", desc := "()V", sig := { parameters := [], returnType := none }, accessFlags := 1, code := some k0c0 }
def k0m1 : Method := { name := "clone", desc := "()Ljava/lang/Object;", sig := { parameters := [], returnType := some (.object "java/lang/Object") }, accessFlags := 260, code := none }
/-- java/lang/Object -/
def k0 : Class := { plain "java/lang/Object" none with
  accessFlags := 33
  interfaces := #[]
  cf := some (fileOf pool0 8 #[] #[{ accessFlags := 1, nameIndex := 5, descriptorIndex := 6, attributes := #[] }, { accessFlags := 260, nameIndex := 96, descriptorIndex := 97, attributes := #[] }] 33 0 #[] #[])
  fields := #[]
  methods := #[k0m0, k0m1]
  instanceTypes := #[]
  staticTypes := #[]
  resolved := Array.replicate 124 none
  statics := none }

def pool1 : Array CpInfo := pool [(2, .class_ 4), (1, u "java/lang/Object"), (0, u "<init>"), (0, u "()V"), (0, .methodref 8 9), (0, .class_ 10), (0, .nameAndType 11 12), (0, u "com/example/sluice/sluice/algo/SpanningTreeJoinPinLaw"), (0, u "step"), (0, u "([II)I"), (0, .methodref 8 14), (0, .nameAndType 15 16), (0, u "ancOrSelf"), (0, u "([III)Z"), (0, .methodref 8 18), (0, .nameAndType 19 20), (0, u "lab"), (0, u "(IIZ)I"), (0, .integer 2147483647), (0, .class_ 23), (0, u "com/example/sluice/sluice/algo/SpanningTree"), (0, .methodref 22 25), (0, .nameAndType 5 26), (0, u "(I[I[I)V"), (0, .methodref 22 28), (0, .nameAndType 29 30), (0, u "join"), (0, u "(II)I"), (0, .methodref 8 32), (0, .nameAndType 33 34), (0, u "lca"), (0, u "([III)I"), (5, u "law"), (0, u "(IIII)Z")] 2

def k1m0 : Method := { name := "<init>", desc := "()V", sig := { parameters := [], returnType := none }, accessFlags := 2, code := none }
def k1c1 : Code := { maxStack := 2, maxLocals := 4, code := method_2_code, exceptionTable := #[], attributes := #[] }
def k1m1 : Method := { name := "lab", desc := "(IIZ)I", sig := { parameters := [.int, .int, .boolean], returnType := some .int }, accessFlags := 10, code := some k1c1 }
def k1c2 : Code := { maxStack := 2, maxLocals := 2, code := method_3_code, exceptionTable := #[], attributes := #[] }
def k1m2 : Method := { name := "step", desc := "([II)I", sig := { parameters := [(.array .int), .int], returnType := some .int }, accessFlags := 10, code := some k1c2 }
def k1c3 : Code := { maxStack := 2, maxLocals := 7, code := method_4_code, exceptionTable := #[], attributes := #[] }
def k1m3 : Method := { name := "ancOrSelf", desc := "([III)Z", sig := { parameters := [(.array .int), .int, .int], returnType := some .boolean }, accessFlags := 10, code := some k1c3 }
def k1c4 : Code := { maxStack := 3, maxLocals := 6, code := method_5_code, exceptionTable := #[], attributes := #[] }
def k1m4 : Method := { name := "lca", desc := "([III)I", sig := { parameters := [(.array .int), .int, .int], returnType := some .int }, accessFlags := 10, code := some k1c4 }
def k1c5 : Code := { maxStack := 5, maxLocals := 18, code := code, exceptionTable := #[], attributes := #[] }
def k1m5 : Method := { name := "law", desc := "(IIII)Z", sig := { parameters := [.int, .int, .int, .int], returnType := some .boolean }, accessFlags := 9, code := some k1c5 }
/-- com/example/sluice/sluice/algo/SpanningTreeJoinPinLaw -/
def k1 : Class := { plain "com/example/sluice/sluice/algo/SpanningTreeJoinPinLaw" (some 0) with
  accessFlags := 49
  interfaces := #[]
  cf := some (fileOf pool1 8 #[] #[{ accessFlags := 2, nameIndex := 5, descriptorIndex := 6, attributes := #[] }, { accessFlags := 10, nameIndex := 19, descriptorIndex := 20, attributes := #[] }, { accessFlags := 10, nameIndex := 11, descriptorIndex := 12, attributes := #[] }, { accessFlags := 10, nameIndex := 15, descriptorIndex := 16, attributes := #[] }, { accessFlags := 10, nameIndex := 33, descriptorIndex := 34, attributes := #[] }, { accessFlags := 9, nameIndex := 40, descriptorIndex := 41, attributes := #[] }] 49 2 #[] #[])
  fields := #[]
  methods := #[k1m0, k1m1, k1m2, k1m3, k1m4, k1m5]
  instanceTypes := #[]
  staticTypes := #[]
  resolved := Array.replicate 44 none
  statics := none }

def pool2 : Array CpInfo := pool [(1, .methodref 2 3), (0, .class_ 4), (0, .nameAndType 5 6), (0, u "java/lang/Object"), (0, u "<init>"), (0, u "()V"), (0, .methodref 8 9), (0, .class_ 10), (0, .nameAndType 11 12), (0, u "[I"), (0, u "clone"), (0, u "()Ljava/lang/Object;"), (0, .fieldref 14 15), (0, .class_ 16), (0, .nameAndType 17 10), (0, u "com/example/sluice/sluice/algo/SpanningTree"), (0, u "parent"), (0, .fieldref 14 19), (0, .nameAndType 20 10), (0, u "arc"), (0, .fieldref 14 22), (0, .nameAndType 23 10), (0, u "size"), (0, .fieldref 14 25), (0, .nameAndType 26 10), (0, u "following"), (0, .fieldref 14 28), (0, .nameAndType 29 10), (0, u "preceding"), (0, .fieldref 14 31), (0, .nameAndType 32 10), (0, u "last"), (0, .class_ 34), (0, u "com/example/sluice/sluice/algo/ByVertex"), (0, .methodref 33 36), (0, .nameAndType 5 37), (0, u "([II)V"), (0, .methodref 33 39), (0, .nameAndType 40 41), (0, u "end"), (0, u "(I)I"), (0, .methodref 33 43), (0, .nameAndType 44 41), (0, u "start"), (0, .methodref 33 46), (0, .nameAndType 47 41), (0, u "item"), (0, .methodref 14 49), (0, .nameAndType 50 51), (0, u "link"), (0, u "(II)V"), (0, u "NONE"), (0, u "I"), (2, u "(I[I[I)V"), (3, u "join"), (0, u "(II)I")] 7

def k2c0 : Code := { maxStack := 7, maxLocals := 13, code := prog_25_method_1_code, exceptionTable := #[], attributes := #[] }
def k2m0 : Method := { name := "<init>", desc := "(I[I[I)V", sig := { parameters := [.int, (.array .int), (.array .int)], returnType := none }, accessFlags := 0, code := some k2c0 }
def k2c1 : Code := { maxStack := 3, maxLocals := 3, code := prog_25_method_5_code, exceptionTable := #[], attributes := #[] }
def k2m1 : Method := { name := "join", desc := "(II)I", sig := { parameters := [.int, .int], returnType := some .int }, accessFlags := 0, code := some k2c1 }
def k2c2 : Code := { maxStack := 3, maxLocals := 3, code := prog_25_method_10_code, exceptionTable := #[], attributes := #[] }
def k2m2 : Method := { name := "link", desc := "(II)V", sig := { parameters := [.int, .int], returnType := none }, accessFlags := 2, code := some k2c2 }
/-- com/example/sluice/sluice/algo/SpanningTree -/
def k2 : Class := { plain "com/example/sluice/sluice/algo/SpanningTree" (some 0) with
  accessFlags := 48
  interfaces := #[]
  cf := some (fileOf pool2 14 #[] #[{ accessFlags := 0, nameIndex := 5, descriptorIndex := 56, attributes := #[] }, { accessFlags := 0, nameIndex := 60, descriptorIndex := 61, attributes := #[] }, { accessFlags := 2, nameIndex := 50, descriptorIndex := 51, attributes := #[] }] 48 2 #[] #[{ accessFlags := 24, nameIndex := 52, descriptorIndex := 53, attributes := #[] }, { accessFlags := 18, nameIndex := 17, descriptorIndex := 10, attributes := #[] }, { accessFlags := 18, nameIndex := 20, descriptorIndex := 10, attributes := #[] }, { accessFlags := 18, nameIndex := 23, descriptorIndex := 10, attributes := #[] }, { accessFlags := 18, nameIndex := 26, descriptorIndex := 10, attributes := #[] }, { accessFlags := 18, nameIndex := 29, descriptorIndex := 10, attributes := #[] }, { accessFlags := 18, nameIndex := 32, descriptorIndex := 10, attributes := #[] }])
  fields := #[{ name := "NONE", type := .int, accessFlags := 24, slot := 0, constantValue := 0 }, { name := "parent", type := (.array .int), accessFlags := 18, slot := 0, constantValue := 0 }, { name := "arc", type := (.array .int), accessFlags := 18, slot := 1, constantValue := 0 }, { name := "size", type := (.array .int), accessFlags := 18, slot := 2, constantValue := 0 }, { name := "following", type := (.array .int), accessFlags := 18, slot := 3, constantValue := 0 }, { name := "preceding", type := (.array .int), accessFlags := 18, slot := 4, constantValue := 0 }, { name := "last", type := (.array .int), accessFlags := 18, slot := 5, constantValue := 0 }]
  methods := #[k2m0, k2m1, k2m2]
  instanceTypes := #[(.array .int), (.array .int), (.array .int), (.array .int), (.array .int), (.array .int)]
  staticTypes := #[.int]
  resolved := Array.replicate 69 none
  statics := none }

def pool3 : Array CpInfo := pool [(1, .class_ 2), (0, u "java/lang/Cloneable"), (0, .class_ 4), (0, u "java/lang/Object")] 2

/-- java/lang/Cloneable -/
def k3 : Class := { plain "java/lang/Cloneable" (some 0) with
  accessFlags := 1537
  interfaces := #[]
  cf := some (fileOf pool3 1 #[] #[] 1537 3 #[] #[])
  fields := #[]
  methods := #[]
  instanceTypes := #[]
  staticTypes := #[]
  resolved := Array.replicate 7 none
  statics := none }

def pool4 : Array CpInfo := pool [(1, .methodref 2 3), (0, .class_ 4), (0, .nameAndType 5 6), (0, u "java/lang/Object"), (0, u "<init>"), (0, u "()V"), (0, .fieldref 8 9), (0, .class_ 10), (0, .nameAndType 11 12), (0, u "com/example/sluice/sluice/algo/ByVertex"), (0, u "start"), (0, u "[I"), (0, .fieldref 8 14), (0, .nameAndType 15 12), (0, u "items"), (0, .methodref 17 18), (0, .class_ 19), (0, .nameAndType 20 21), (0, u "java/lang/System"), (0, u "arraycopy"), (0, u "(Ljava/lang/Object;ILjava/lang/Object;II)V"), (0, u "([II)V"), (4, u "(I)I"), (0, u "end"), (0, u "item")] 2

def k4c0 : Code := { maxStack := 6, maxLocals := 7, code := prog_5_method_1_code, exceptionTable := #[], attributes := #[] }
def k4m0 : Method := { name := "<init>", desc := "([II)V", sig := { parameters := [(.array .int), .int], returnType := none }, accessFlags := 0, code := some k4c0 }
def k4c1 : Code := { maxStack := 2, maxLocals := 2, code := prog_5_method_2_code, exceptionTable := #[], attributes := #[] }
def k4m1 : Method := { name := "start", desc := "(I)I", sig := { parameters := [.int], returnType := some .int }, accessFlags := 0, code := some k4c1 }
def k4c2 : Code := { maxStack := 3, maxLocals := 2, code := prog_5_method_3_code, exceptionTable := #[], attributes := #[] }
def k4m2 : Method := { name := "end", desc := "(I)I", sig := { parameters := [.int], returnType := some .int }, accessFlags := 0, code := some k4c2 }
def k4c3 : Code := { maxStack := 2, maxLocals := 2, code := prog_5_method_4_code, exceptionTable := #[], attributes := #[] }
def k4m3 : Method := { name := "item", desc := "(I)I", sig := { parameters := [.int], returnType := some .int }, accessFlags := 0, code := some k4c3 }
/-- com/example/sluice/sluice/algo/ByVertex -/
def k4 : Class := { plain "com/example/sluice/sluice/algo/ByVertex" (some 0) with
  accessFlags := 48
  interfaces := #[]
  cf := some (fileOf pool4 8 #[] #[{ accessFlags := 0, nameIndex := 5, descriptorIndex := 22, attributes := #[] }, { accessFlags := 0, nameIndex := 11, descriptorIndex := 27, attributes := #[] }, { accessFlags := 0, nameIndex := 28, descriptorIndex := 27, attributes := #[] }, { accessFlags := 0, nameIndex := 29, descriptorIndex := 27, attributes := #[] }] 48 2 #[] #[{ accessFlags := 18, nameIndex := 11, descriptorIndex := 12, attributes := #[] }, { accessFlags := 18, nameIndex := 15, descriptorIndex := 12, attributes := #[] }])
  fields := #[{ name := "start", type := (.array .int), accessFlags := 18, slot := 0, constantValue := 0 }, { name := "items", type := (.array .int), accessFlags := 18, slot := 1, constantValue := 0 }]
  methods := #[k4m0, k4m1, k4m2, k4m3]
  instanceTypes := #[(.array .int), (.array .int)]
  staticTypes := #[]
  resolved := Array.replicate 32 none
  statics := none }

def pool5 : Array CpInfo := pool [(2, .class_ 4), (1, u "java/lang/Object"), (0, u "<init>"), (0, u "()V"), (1, .class_ 10), (1, u "java/lang/System"), (0, u "allowSecurityManager"), (0, u "I"), (16, u "cons"), (0, u "Ljava/io/Console;"), (77, .class_ 110), (1, u "java/lang/System$CallersHolder"), (43, u "initialErrStream"), (0, u "Ljava/io/PrintStream;"), (19, u "security"), (0, u "Ljava/lang/SecurityManager;"), (31, .class_ 209), (0, u "java/lang/System$1"), (7, u "props"), (0, u "Ljava/util/Properties;"), (2, u "lineSeparator"), (0, u "Ljava/lang/String;"), (96, .class_ 321), (1, u "java/lang/System$LoggerFinder"), (5, .class_ 328), (0, u "java/lang/System$Logger"), (67, u "err"), (2, u "out"), (91, u "notSupportedJnuEncoding"), (15, u "in"), (17, u "initialIn"), (0, u "Ljava/io/InputStream;"), (35, u "bootLayer"), (0, u "Ljava/lang/ModuleLayer;"), (99, .class_ 664), (0, u "java/lang/System$2"), (9, u "NEVER"), (2, u "MAYBE"), (49, u "arraycopy"), (0, u "(Ljava/lang/Object;ILjava/lang/Object;II)V"), (72, .class_ 802), (0, u "java/lang/System$Logger$Level")] 31

def k5m0 : Method := { name := "<init>", desc := "()V", sig := { parameters := [], returnType := none }, accessFlags := 2, code := none }
def k5m1 : Method := { name := "arraycopy", desc := "(Ljava/lang/Object;ILjava/lang/Object;II)V", sig := { parameters := [(.object "java/lang/Object"), .int, (.object "java/lang/Object"), .int, .int], returnType := none }, accessFlags := 265, code := none }
/-- java/lang/System -/
def k5 : Class := { plain "java/lang/System" (some 0) with
  accessFlags := 49
  interfaces := #[]
  cf := some (fileOf pool5 8 #[.nestMembers #[319, 327, 801, 108, 663, 208]] #[{ accessFlags := 2, nameIndex := 5, descriptorIndex := 6, attributes := #[] }, { accessFlags := 265, nameIndex := 727, descriptorIndex := 728, attributes := #[] }] 49 2 #[] #[{ accessFlags := 25, nameIndex := 507, descriptorIndex := 526, attributes := #[] }, { accessFlags := 25, nameIndex := 399, descriptorIndex := 155, attributes := #[] }, { accessFlags := 25, nameIndex := 396, descriptorIndex := 155, attributes := #[] }, { accessFlags := 10, nameIndex := 525, descriptorIndex := 526, attributes := #[] }, { accessFlags := 26, nameIndex := 674, descriptorIndex := 12, attributes := #[] }, { accessFlags := 26, nameIndex := 677, descriptorIndex := 12, attributes := #[] }, { accessFlags := 10, nameIndex := 11, descriptorIndex := 12, attributes := #[] }, { accessFlags := 74, nameIndex := 175, descriptorIndex := 176, attributes := #[] }, { accessFlags := 10, nameIndex := 491, descriptorIndex := 222, attributes := #[] }, { accessFlags := 74, nameIndex := 29, descriptorIndex := 30, attributes := #[] }, { accessFlags := 74, nameIndex := 154, descriptorIndex := 155, attributes := #[] }, { accessFlags := 10, nameIndex := 217, descriptorIndex := 218, attributes := #[] }, { accessFlags := 10, nameIndex := 221, descriptorIndex := 222, attributes := #[] }, { accessFlags := 8, nameIndex := 562, descriptorIndex := 563, attributes := #[] }])
  fields := #[{ name := "in", type := (.object "java/io/InputStream"), accessFlags := 25, slot := 0, constantValue := 0 }, { name := "out", type := (.object "java/io/PrintStream"), accessFlags := 25, slot := 1, constantValue := 0 }, { name := "err", type := (.object "java/io/PrintStream"), accessFlags := 25, slot := 2, constantValue := 0 }, { name := "initialIn", type := (.object "java/io/InputStream"), accessFlags := 10, slot := 3, constantValue := 0 }, { name := "NEVER", type := .int, accessFlags := 26, slot := 4, constantValue := 0 }, { name := "MAYBE", type := .int, accessFlags := 26, slot := 5, constantValue := 0 }, { name := "allowSecurityManager", type := .int, accessFlags := 10, slot := 6, constantValue := 0 }, { name := "security", type := (.object "java/lang/SecurityManager"), accessFlags := 74, slot := 7, constantValue := 0 }, { name := "notSupportedJnuEncoding", type := (.object "java/lang/String"), accessFlags := 10, slot := 8, constantValue := 0 }, { name := "cons", type := (.object "java/io/Console"), accessFlags := 74, slot := 9, constantValue := 0 }, { name := "initialErrStream", type := (.object "java/io/PrintStream"), accessFlags := 74, slot := 10, constantValue := 0 }, { name := "props", type := (.object "java/util/Properties"), accessFlags := 10, slot := 11, constantValue := 0 }, { name := "lineSeparator", type := (.object "java/lang/String"), accessFlags := 10, slot := 12, constantValue := 0 }, { name := "bootLayer", type := (.object "java/lang/ModuleLayer"), accessFlags := 8, slot := 13, constantValue := 0 }]
  methods := #[k5m0, k5m1]
  instanceTypes := #[]
  staticTypes := #[(.object "java/io/InputStream"), (.object "java/io/PrintStream"), (.object "java/io/PrintStream"), (.object "java/io/InputStream"), .int, .int, .int, (.object "java/lang/SecurityManager"), (.object "java/lang/String"), (.object "java/io/Console"), (.object "java/io/PrintStream"), (.object "java/util/Properties"), (.object "java/lang/String"), (.object "java/lang/ModuleLayer")]
  resolved := Array.replicate 834 none
  statics := none }

def pool6 : Array CpInfo := pool [(1, u "java/io/Serializable"), (0, .class_ 1), (0, u "java/lang/Object"), (0, .class_ 3)] 3

/-- java/io/Serializable -/
def k6 : Class := { plain "java/io/Serializable" (some 0) with
  accessFlags := 1537
  interfaces := #[]
  cf := some (fileOf pool6 2 #[] #[] 1537 4 #[] #[])
  fields := #[]
  methods := #[]
  instanceTypes := #[]
  staticTypes := #[]
  resolved := Array.replicate 8 none
  statics := none }

/-- the primitive byte -/
def k7 : Class := { plain "byte" none with kind := .primitive 'B', accessFlags := 0x411 }
/-- [B -/
def k8 : Class := { plain "[B" (some 0) with kind := .array 7 .byte, interfaces := #[3, 6], accessFlags := 1041 }

/-- the primitive int -/
def k9 : Class := { plain "int" none with kind := .primitive 'I', accessFlags := 0x411 }
/-- [I -/
def k10 : Class := { plain "[I" (some 0) with kind := .array 9 .int, interfaces := #[3, 6], accessFlags := 1041 }

def heap : Heap := #[]
def classes : Array Class := #[k0, k1, k2, k3, k4, k5, k6, k7, k8, k9, k10]
def interned : List (Array UInt16 × Addr) := []
def slotsUsed : Nat := 0
def theMethod : MethodId := ⟨1, 5⟩
def args0 : Array Value := #[.int 5, .int 6, .int 7, .int 8]
def aboutOver (below : List Frame) : State where
  vm := { classes := classes, interned := interned.toArray }
  heap := heap
  slotsUsed := slotsUsed
  threads := #[{ frames := .invoking theMethod args0 :: below }]
def below0 : List Frame := [.native { method := ⟨0, 0⟩, args := #[] }]
def about1 : State := aboutOver below0
def p0 : Program := .bare "" "" ""
def e0 : Env := launch0.env 0 0 0
theorem w_frames : about1.frames = Frame.invoking theMethod args0 :: below0 := rfl
set_option maxRecDepth 65536 in
theorem w_args : argsFit about1.vm theMethod args0 = true := by decide +kernel
set_option maxRecDepth 65536 in
theorem w_heap : heapFits about1 = true := by decide +kernel
set_option maxRecDepth 65536 in
theorem w_runnable : about1.curStatus? = some .runnable := by decide +kernel
set_option maxRecDepth 65536 in
theorem w_alone : about1.alone = true := by decide +kernel
set_option maxRecDepth 65536 in
theorem w_named : about1.methodNamed? x = some theMethod := by decide +kernel
set_option maxRecDepth 65536 in
theorem w_hears : about1.hears theMethod below0 = true := by decide +kernel
set_option maxRecDepth 65536 in
theorem w_ripe : about1.ripe theMethod args0 below0 = true := by decide +kernel
theorem w_running : about1.status = .running := rfl
set_option maxRecDepth 65536 in
theorem w_room : about1.hasRoom e0.platform room_1 = true :=
  launch0.hasRoom_least _ room_1 (by decide +kernel) (by decide +kernel) (by decide +kernel) (by decide +kernel) (by decide +kernel) (by decide +kernel)
theorem allAtoms_all (ts : List Jvm.Cond) (a : Array Jvm.Value) (st : Jvm.State) : (allAtoms ts).before a st = ts.all (fun c => c.before a st) := by
  induction ts with
  | nil => rfl
  | cons c t ih =>
    show (Jvm.Cond.and c (allAtoms t)).before a st = _
    rw [Jvm.Cond.before_and, ih, List.all_cons]
def words1 : List Jvm.Cond := Jvm.Cond.code x code maxLocals ret :: tables_1
/-- a 'code' word, met by the world's own term for the bytes: nothing is compared byte by byte -/
theorem code_word {y : MethodName} {bytes : ByteArray} {mx : Nat} {rt : Option FieldType} {a : Array Value} {s : State} {m : MethodId} {meth : Method} {c : Code} (h1 : s.methodNamed? y = some m) (h2 : s.vm.method? m = some meth) (h3 : meth.code = some c) (h4 : c.code = bytes)
    (h5 : (c.maxLocals == mx && c.exceptionTable.isEmpty && decide (c.maxStack ≤ mostOperands) && decide (meth.sig.returnType = rt) && !meth.locks && decide (parseMethodDescriptor y.desc = some meth.sig)) = true) : (Jvm.Cond.code y bytes mx rt).before a s = true := by
  simp only [Bool.and_eq_true, beq_iff_eq, Bool.not_eq_true', decide_eq_true_eq] at h5
  obtain ⟨⟨⟨⟨⟨g1, g2⟩, g3⟩, g4⟩, g5⟩, g6⟩ := h5
  simp [Cond.before, Cond.holds, Cond.value, h1, h2, h3, h4, g1, g2, g3, g4, g5, g6]
def isCode : Jvm.Cond → Bool
  | .code _ _ _ _ => true
  | _ => false
theorem all_split {L : List Jvm.Cond} {P : Jvm.Cond → Bool} (h1 : L.all (fun c => isCode c || P c) = true) (h2 : ∀ c ∈ L.filter isCode, P c = true) : L.all P = true := by
  refine List.all_eq_true.mpr fun c hc => ?_
  have h := List.all_eq_true.mp h1 c hc
  rcases Bool.eq_false_or_eq_true (isCode c) with hi | hi
  · exact h2 c (List.mem_filter.mpr ⟨hc, hi⟩)
  · simpa [hi] using h
set_option maxRecDepth 65536 in
theorem w_c0 : (Jvm.Cond.code x code maxLocals ret).before args0 about1 = true := code_word (m := ⟨1, 5⟩) (meth := k1m5) (c := k1c5) (by decide +kernel) rfl rfl rfl (by decide +kernel)
set_option maxRecDepth 65536 in
theorem w_c1 : (Jvm.Cond.code ({ cls := "com/example/sluice/sluice/algo/SpanningTreeJoinPinLaw", name := "lab", desc := "(IIZ)I" } : Jvm.MethodName) method_2_code (4 : Nat) (Option.some Jvm.ClassFile.FieldType.int)).before args0 about1 = true := code_word (m := ⟨1, 1⟩) (meth := k1m1) (c := k1c1) (by decide +kernel) rfl rfl rfl (by decide +kernel)
set_option maxRecDepth 65536 in
theorem w_c2 : (Jvm.Cond.code ({ cls := "com/example/sluice/sluice/algo/SpanningTree", name := "<init>", desc := "(I[I[I)V" } : Jvm.MethodName) prog_25_method_1_code (13 : Nat) (Option.none : Option Jvm.ClassFile.FieldType)).before args0 about1 = true := code_word (m := ⟨2, 0⟩) (meth := k2m0) (c := k2c0) (by decide +kernel) rfl rfl rfl (by decide +kernel)
set_option maxRecDepth 65536 in
theorem w_c3 : (Jvm.Cond.code ({ cls := "java/lang/Object", name := "<init>", desc := "()V" } : Jvm.MethodName) object_method_1_code (1 : Nat) (Option.none : Option Jvm.ClassFile.FieldType)).before args0 about1 = true := code_word (m := ⟨0, 0⟩) (meth := k0m0) (c := k0c0) (by decide +kernel) rfl rfl rfl (by decide +kernel)
set_option maxRecDepth 65536 in
theorem w_c4 : (Jvm.Cond.code ({ cls := "com/example/sluice/sluice/algo/ByVertex", name := "<init>", desc := "([II)V" } : Jvm.MethodName) prog_5_method_1_code (7 : Nat) (Option.none : Option Jvm.ClassFile.FieldType)).before args0 about1 = true := code_word (m := ⟨4, 0⟩) (meth := k4m0) (c := k4c0) (by decide +kernel) rfl rfl rfl (by decide +kernel)
set_option maxRecDepth 65536 in
theorem w_c5 : (Jvm.Cond.code ({ cls := "com/example/sluice/sluice/algo/ByVertex", name := "end", desc := "(I)I" } : Jvm.MethodName) prog_5_method_3_code (2 : Nat) (Option.some Jvm.ClassFile.FieldType.int)).before args0 about1 = true := code_word (m := ⟨4, 2⟩) (meth := k4m2) (c := k4c2) (by decide +kernel) rfl rfl rfl (by decide +kernel)
set_option maxRecDepth 65536 in
theorem w_c6 : (Jvm.Cond.code ({ cls := "com/example/sluice/sluice/algo/ByVertex", name := "start", desc := "(I)I" } : Jvm.MethodName) prog_5_method_2_code (2 : Nat) (Option.some Jvm.ClassFile.FieldType.int)).before args0 about1 = true := code_word (m := ⟨4, 1⟩) (meth := k4m1) (c := k4c1) (by decide +kernel) rfl rfl rfl (by decide +kernel)
set_option maxRecDepth 65536 in
theorem w_c7 : (Jvm.Cond.code ({ cls := "com/example/sluice/sluice/algo/ByVertex", name := "item", desc := "(I)I" } : Jvm.MethodName) prog_5_method_4_code (2 : Nat) (Option.some Jvm.ClassFile.FieldType.int)).before args0 about1 = true := code_word (m := ⟨4, 3⟩) (meth := k4m3) (c := k4c3) (by decide +kernel) rfl rfl rfl (by decide +kernel)
set_option maxRecDepth 65536 in
theorem w_c8 : (Jvm.Cond.code ({ cls := "com/example/sluice/sluice/algo/SpanningTree", name := "link", desc := "(II)V" } : Jvm.MethodName) prog_25_method_10_code (3 : Nat) (Option.none : Option Jvm.ClassFile.FieldType)).before args0 about1 = true := code_word (m := ⟨2, 2⟩) (meth := k2m2) (c := k2c2) (by decide +kernel) rfl rfl rfl (by decide +kernel)
set_option maxRecDepth 65536 in
theorem w_c9 : (Jvm.Cond.code ({ cls := "com/example/sluice/sluice/algo/SpanningTree", name := "join", desc := "(II)I" } : Jvm.MethodName) prog_25_method_5_code (3 : Nat) (Option.some Jvm.ClassFile.FieldType.int)).before args0 about1 = true := code_word (m := ⟨2, 1⟩) (meth := k2m1) (c := k2c1) (by decide +kernel) rfl rfl rfl (by decide +kernel)
set_option maxRecDepth 65536 in
theorem w_c10 : (Jvm.Cond.code ({ cls := "com/example/sluice/sluice/algo/SpanningTreeJoinPinLaw", name := "lca", desc := "([III)I" } : Jvm.MethodName) method_5_code (6 : Nat) (Option.some Jvm.ClassFile.FieldType.int)).before args0 about1 = true := code_word (m := ⟨1, 4⟩) (meth := k1m4) (c := k1c4) (by decide +kernel) rfl rfl rfl (by decide +kernel)
set_option maxRecDepth 65536 in
theorem w_c11 : (Jvm.Cond.code ({ cls := "com/example/sluice/sluice/algo/SpanningTreeJoinPinLaw", name := "ancOrSelf", desc := "([III)Z" } : Jvm.MethodName) method_4_code (7 : Nat) (Option.some Jvm.ClassFile.FieldType.boolean)).before args0 about1 = true := code_word (m := ⟨1, 3⟩) (meth := k1m3) (c := k1c3) (by decide +kernel) rfl rfl rfl (by decide +kernel)
set_option maxRecDepth 65536 in
theorem w_c12 : (Jvm.Cond.code ({ cls := "com/example/sluice/sluice/algo/SpanningTreeJoinPinLaw", name := "step", desc := "([II)I" } : Jvm.MethodName) method_3_code (2 : Nat) (Option.some Jvm.ClassFile.FieldType.int)).before args0 about1 = true := code_word (m := ⟨1, 2⟩) (meth := k1m2) (c := k1c2) (by decide +kernel) rfl rfl rfl (by decide +kernel)
def codes1 : List Jvm.Cond := [Jvm.Cond.code x code maxLocals ret, Jvm.Cond.code ({ cls := "com/example/sluice/sluice/algo/SpanningTreeJoinPinLaw", name := "lab", desc := "(IIZ)I" } : Jvm.MethodName) method_2_code (4 : Nat) (Option.some Jvm.ClassFile.FieldType.int), Jvm.Cond.code ({ cls := "com/example/sluice/sluice/algo/SpanningTree", name := "<init>", desc := "(I[I[I)V" } : Jvm.MethodName) prog_25_method_1_code (13 : Nat) (Option.none : Option Jvm.ClassFile.FieldType), Jvm.Cond.code ({ cls := "java/lang/Object", name := "<init>", desc := "()V" } : Jvm.MethodName) object_method_1_code (1 : Nat) (Option.none : Option Jvm.ClassFile.FieldType), Jvm.Cond.code ({ cls := "com/example/sluice/sluice/algo/ByVertex", name := "<init>", desc := "([II)V" } : Jvm.MethodName) prog_5_method_1_code (7 : Nat) (Option.none : Option Jvm.ClassFile.FieldType), Jvm.Cond.code ({ cls := "com/example/sluice/sluice/algo/ByVertex", name := "end", desc := "(I)I" } : Jvm.MethodName) prog_5_method_3_code (2 : Nat) (Option.some Jvm.ClassFile.FieldType.int), Jvm.Cond.code ({ cls := "com/example/sluice/sluice/algo/ByVertex", name := "start", desc := "(I)I" } : Jvm.MethodName) prog_5_method_2_code (2 : Nat) (Option.some Jvm.ClassFile.FieldType.int), Jvm.Cond.code ({ cls := "com/example/sluice/sluice/algo/ByVertex", name := "item", desc := "(I)I" } : Jvm.MethodName) prog_5_method_4_code (2 : Nat) (Option.some Jvm.ClassFile.FieldType.int), Jvm.Cond.code ({ cls := "com/example/sluice/sluice/algo/SpanningTree", name := "link", desc := "(II)V" } : Jvm.MethodName) prog_25_method_10_code (3 : Nat) (Option.none : Option Jvm.ClassFile.FieldType), Jvm.Cond.code ({ cls := "com/example/sluice/sluice/algo/SpanningTree", name := "join", desc := "(II)I" } : Jvm.MethodName) prog_25_method_5_code (3 : Nat) (Option.some Jvm.ClassFile.FieldType.int), Jvm.Cond.code ({ cls := "com/example/sluice/sluice/algo/SpanningTreeJoinPinLaw", name := "lca", desc := "([III)I" } : Jvm.MethodName) method_5_code (6 : Nat) (Option.some Jvm.ClassFile.FieldType.int), Jvm.Cond.code ({ cls := "com/example/sluice/sluice/algo/SpanningTreeJoinPinLaw", name := "ancOrSelf", desc := "([III)Z" } : Jvm.MethodName) method_4_code (7 : Nat) (Option.some Jvm.ClassFile.FieldType.boolean), Jvm.Cond.code ({ cls := "com/example/sluice/sluice/algo/SpanningTreeJoinPinLaw", name := "step", desc := "([II)I" } : Jvm.MethodName) method_3_code (2 : Nat) (Option.some Jvm.ClassFile.FieldType.int)]
set_option maxRecDepth 65536 in
theorem codes_eq : words1.filter isCode = codes1 := rfl
theorem w_codes : ∀ c ∈ words1.filter isCode, c.before args0 about1 = true := by
  rw [codes_eq]
  intro c hc
  simp only [codes1, List.mem_cons, List.not_mem_nil, or_false] at hc
  rcases hc with rfl | rfl | rfl | rfl | rfl | rfl | rfl | rfl | rfl | rfl | rfl | rfl | rfl
  · exact w_c0
  · exact w_c1
  · exact w_c2
  · exact w_c3
  · exact w_c4
  · exact w_c5
  · exact w_c6
  · exact w_c7
  · exact w_c8
  · exact w_c9
  · exact w_c10
  · exact w_c11
  · exact w_c12
set_option maxRecDepth 65536 in
theorem w_t1 : (words1.take 24).all (fun c => isCode c || c.before args0 about1) = true := by decide +kernel
set_option maxRecDepth 65536 in
theorem w_t2 : ((words1.drop 24).take 24).all (fun c => isCode c || c.before args0 about1) = true := by decide +kernel
set_option maxRecDepth 65536 in
theorem w_t3 : (((words1.drop 24).drop 24).take 24).all (fun c => isCode c || c.before args0 about1) = true := by decide +kernel
set_option maxRecDepth 65536 in
theorem w_t4 : (((words1.drop 24).drop 24).drop 24).all (fun c => isCode c || c.before args0 about1) = true := by decide +kernel
theorem w_tables : (allAtoms (Jvm.Cond.code x code maxLocals ret :: tables_1)).before args0 about1 = true := by
  rw [allAtoms_all]
  show words1.all (fun c => c.before args0 about1) = true
  refine all_split ?_ w_codes
  rw [← List.take_append_drop 24 words1, List.all_append, w_t1, ← List.take_append_drop 24 (words1.drop 24), List.all_append, w_t2, ← List.take_append_drop 24 ((words1.drop 24).drop 24), List.all_append, w_t3, w_t4]
  rfl
set_option maxRecDepth 65536 in
theorem w_case : (Jvm.Cond.and given_1 narrow_1).before args0 about1 = true := by decide +kernel
theorem w_applies : (headSpec (Jvm.Cond.code x code maxLocals ret :: tables_1) room_1).applies x e0.platform about1 = true :=
  (Spec.applies_iff w_frames).mpr ⟨w_running, w_runnable, w_alone, w_named, w_hears, w_ripe, w_room, w_tables⟩
theorem atStart : AtStart classFile x code maxLocals ret World_1 tables_1 room_1 Calls_1 rest_1 Pre_1 launch0 p0 e0 about1 theMethod args0 below0 :=
  ⟨lists_1, trivial, launch0.admits_env _ _ _, launch0.least_env, fairChoices_fair.cas, fairChoices_fair.clock, w_frames, w_args, w_heap, w_applies, trivial, trivial, w_case⟩
end start1
theorem witness_1 : WitnessClaimed_1 := ⟨start1.p0, start1.e0, start1.about1, start1.theMethod, start1.args0, start1.below0, start1.atStart⟩
end Jvm.Pilot.@@N@@
