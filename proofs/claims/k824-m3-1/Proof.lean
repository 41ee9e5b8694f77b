import JvmDerived
import JvmDerived.Pilot.@@N@@Statement
import JvmDerived.Pilot.@@N@@Code
set_option linter.unusedVariables false
set_option linter.unusedSimpArgs false
namespace Jvm.OwnKit
open Sem ClassFile Op Lib Jvm.Free Jvm.Stand Jvm.LawKit Jvm.RoadKit
/-! My own layer: an abstract heap (a list of objects made since the law began) and one rule a bytecode step, each over a law of the library. -/
abbrev oz : Value := .int 0
abbrev ol : Value := .long 0
abbrev rf (n0 i : Nat) : Value := .ref (n0 + i)
abbrev Ob : Type := (Nat × List Value) ⊕ (FieldType × List Value)
abbrev KTab : Type := List (String × List (String × String × String))
def ObAt (Z : State) (K : KTab) (h : Heap) (a : Addr) : Ob → Prop
  | .inl (k, vs) => ∃ C fs, K[k]? = some (C, fs) ∧ Exa Z h a C ∧ vs.length = fs.length ∧ ∀ (j : Nat) (f : String × String × String) (v : Value), fs[j]? = some f → vs[j]? = some v → Fld Z h a f.1 f.2.1 f.2.2 v
  | .inr (ty, vs) => (Exa Z h a ("[" ++ ty.toString) ∧ ∀ v ∈ vs, fits ty v = true) ∧ ∃ c : Cell, Arr Z h a c ty ∧ c.slots = vs.toArray ∧ ∀ C, ty = .object C → Ovr Z c.cls C
def Rel (Z : State) (K : KTab) (n0 : Nat) (h : Heap) (A : List Ob) : Prop := h.size = n0 + A.length ∧ ∀ (i : Nat) (o : Ob), A[i]? = some o → ObAt Z K h (n0 + i) o
def KOk (Z : State) (a0 : Array Value) (K : KTab) : Prop := ∀ (k : Nat) (C : String) (fs : List (String × String × String)), K[k]? = some (C, fs) →
  (∃ n, (Cond.instantiable C n).before a0 Z = true) ∧ (∀ (j : Nat) (f : String × String × String), fs[j]? = some f → Laid Z a0 C f.1 f.2.1 f.2.2 ∧ ∃ t, parseFieldDescriptor f.2.2 = some t) ∧
  ∀ (i j : Nat) (f g : String × String × String), fs[i]? = some f → fs[j]? = some g → i ≠ j → f.2.1 ≠ g.2.1
section Facts
variable {Z : State} {a0 : Array Value} {K : KTab} {h h' : Heap} {a b : Addr} {o o' : Ob} {n0 : Nat} {A : List Ob} {sl : Nat} {v : Value}
theorem ObAt.ext (E : Ext h h') (F : ObAt Z K h a o) : ObAt Z K h' a o := by
  rcases o with ⟨k, vs⟩ | ⟨ty, vs⟩
  · obtain ⟨C, fs, h1, h2, h3, h4⟩ := F
    exact ⟨C, fs, h1, h2.ext E, h3, fun j f v q r => (h4 j f v q r).ext E⟩
  · obtain ⟨⟨h1, hf⟩, c, h2, h3, h4⟩ := F
    exact ⟨⟨h1.ext E, hf⟩, c, h2.ext E, h3, h4⟩
theorem ObAt.other (W : Wr h h' b sl v) (hne : a ≠ b) (F : ObAt Z K h a o) : ObAt Z K h' a o := by
  rcases o with ⟨k, vs⟩ | ⟨ty, vs⟩
  · obtain ⟨C, fs, h1, h2, h3, h4⟩ := F
    exact ⟨C, fs, h1, h2.wr W, h3, fun j f v q r => (h4 j f v q r).other W (Or.inl hne)⟩
  · obtain ⟨⟨h1, hf⟩, c, h2, h3, h4⟩ := F
    exact ⟨⟨h1.wr W, hf⟩, c, h2.other W hne, h3, h4⟩
theorem ObAt.keep {ws : List Addr} (E : Keep h h' ws) (hne : a ∉ ws) (F : ObAt Z K h a o) : ObAt Z K h' a o := by
  rcases o with ⟨k, vs⟩ | ⟨ty, vs⟩
  · obtain ⟨C, fs, h1, h2, h3, h4⟩ := F
    exact ⟨C, fs, h1, h2.keep E, h3, fun j f v q r => (h4 j f v q r).keep E hne⟩
  · obtain ⟨⟨h1, hf⟩, c, h2, h3, h4⟩ := F
    exact ⟨⟨h1.keep E, hf⟩, c, ⟨E.2.1 a c h2.1 hne, h2.2⟩, h3, h4⟩
theorem Rel.keep {i : Nat} (R : Rel Z K n0 h A) (E : Keep h h' [n0 + i]) (hs : h'.size = h.size) (hO : ObAt Z K h' (n0 + i) o') : Rel Z K n0 h' (A.set i o') := by
  refine ⟨by rw [hs, R.1]; simp, fun j o hj => ?_⟩
  by_cases e : i = j
  · subst e
    obtain ⟨hl, -⟩ := List.getElem?_eq_some_iff.mp hj
    rw [List.getElem?_set_self (by simpa using hl)] at hj
    cases hj; exact hO
  · rw [List.getElem?_set_ne e] at hj
    exact (R.2 j o hj).keep E (fun q => e (Nat.add_left_cancel (List.mem_singleton.mp q)).symm)
theorem ObAt.exa {k : Nat} {vs : List Value} {C : String} {fs : List (String × String × String)} (hk : K[k]? = some (C, fs)) (F : ObAt Z K h a (.inl (k, vs))) : Exa Z h a C := by
  obtain ⟨C', fs', h1, h2, -⟩ := F
  cases hk.symm.trans h1; exact h2
theorem Rel.push (R : Rel Z K n0 h A) (E : Ext h h') (hs : h'.size = n0 + (A.length + 1)) (hN : ObAt Z K h' (n0 + A.length) o) : Rel Z K n0 h' (A ++ [o]) := by
  refine ⟨by rw [hs]; simp, fun i o' hi => ?_⟩
  by_cases hlt : i < A.length
  · rw [List.getElem?_append_left hlt] at hi; exact (R.2 i o' hi).ext E
  · rw [List.getElem?_append_right (by omega)] at hi
    have he : i - A.length = 0 := by
      have := (List.getElem?_eq_some_iff.mp hi).1
      simp at this; omega
    rw [he] at hi
    cases hi
    have : i = A.length := by omega
    rw [this]; exact hN
theorem Rel.set {i : Nat} (R : Rel Z K n0 h A) (W : Wr h h' (n0 + i) sl v) (hO : ObAt Z K h' (n0 + i) o') : Rel Z K n0 h' (A.set i o') := by
  refine ⟨by rw [W.size, R.1]; simp, fun j o hj => ?_⟩
  by_cases e : i = j
  · subst e
    obtain ⟨hl, -⟩ := List.getElem?_eq_some_iff.mp hj
    rw [List.getElem?_set_self (by simpa using hl)] at hj
    cases hj; exact hO
  · rw [List.getElem?_set_ne e] at hj
    exact (R.2 j o hj).other W (fun q => e (Nat.add_left_cancel q).symm)
theorem ObAt.setF (KK : KOk Z a0 K) {k j : Nat} {vs : List Value} {C : String} {fs : List (String × String × String)} {f : String × String × String} (hk : K[k]? = some (C, fs)) (hj : fs[j]? = some f) (W : Wr h h' a (RoadKit.slotOf Z f.1 f.2.1 f.2.2) v) (F : ObAt Z K h a (.inl (k, vs))) : ObAt Z K h' a (.inl (k, vs.set j v)) := by
  obtain ⟨C', fs', h1, h2, h3, h4⟩ := F
  cases hk.symm.trans h1
  refine ⟨C, fs, hk, h2.wr W, by simpa using h3, fun j' f' v' q r => ?_⟩
  by_cases e : j = j'
  · subst e
    cases hj.symm.trans q
    have hl : j < vs.length := by rw [h3]; exact (List.getElem?_eq_some_iff.mp hj).1
    rw [List.getElem?_set_self hl] at r
    cases r
    exact (h4 j f vs[j] hj (List.getElem?_eq_getElem hl)).same W
  · rw [List.getElem?_set_ne e] at r
    obtain ⟨-, k2, k3⟩ := KK k C fs hk
    obtain ⟨L1, t1, p1⟩ := k2 j f hj
    obtain ⟨L2, t2, p2⟩ := k2 j' f' q
    exact (h4 j' f' v' q r).other W (Or.inr (slot_ne L2 L1 (k3 j' j f' f q hj (Ne.symm e)) p2 p1))
theorem ObAt.setA {ty : FieldType} {vs : List Value} {j : Nat} (W : Wr h h' a j v) (hv : fits ty v = true) (F : ObAt Z K h a (.inr (ty, vs))) : ObAt Z K h' a (.inr (ty, vs.set j v)) := by
  obtain ⟨⟨h1, hf⟩, c, h2, h3, h4⟩ := F
  refine ⟨⟨h1.wr W, fun w hw => ?_⟩, c.setSlot j v, h2.same W, ?_, h4⟩
  · rcases List.mem_or_eq_of_mem_set hw with q | rfl
    · exact hf w q
    · exact hv
  simp [Cell.setSlot, h3]
end Facts
/-! ## The walk -/
def Go (p : Program) (l : Launch) (e : Env) (R : Room) (s : State) (m : MethodId) (args : Array Value) (below : List Frame) (meth : Method) (c : Code) (Z : State) (K : KTab) (n0 : Nat) (Q : Option Value → List Ob → Prop)
    (pc : Nat) (ls : Array Slot) (st : List Value) (A : List Ob) (k n : Nat) : Prop :=
  ∀ (T : State) (locs : List Loc), Stand p l e R s m args below meth c T locs k n → Rel Z K n0 T.heap A → Fr n0 locs →
    ∃ s₂ o, Steps p.tables e below (T.setTop (mkF m pc ls st)) s₂ ∧ s₂.status = .running ∧ Ended s₂ below o ∧ ∃ v L, o = .returned v ∧ (∃ A', Q v A' ∧ Rel Z K n0 s₂.heap A' ∧ Fr n0 L) ∧ FrameEnd s o s₂ L R.cells R.slots
abbrev GoT : Type := Nat → Array Slot → List Value → List Ob → Nat → Nat → Prop
def IsGo (l : Launch) (Z : State) (a0 : Array Value) (K : KTab) (n0 b0 : Nat) (y : MethodName) (bytes : ByteArray) (maxL : Nat) (ret : Option FieldType) (R : Room) (Q : Option Value → List Ob → Prop) (G : GoT) : Prop :=
  ∃ (p : Program) (e : Env) (s : State) (m : MethodId) (args : Array Value) (below : List Frame) (meth : Method) (c : Code), p.tables.exec = Jvm.exec ∧ c.code = bytes ∧ c.maxLocals = maxL ∧ s.vm.findClass y.cls = some m.cls ∧ meth.name = y.name ∧ meth.sig.returnType = ret ∧ meth.locks = false ∧ Z.Warmed39 s.vm ∧ KOk Z a0 K ∧ s.heap.size = n0 + b0 ∧ G = Go p l e R s m args below meth c Z K n0 Q
/-- the contract of a method, by its arguments and the abstract heap -/
def Met (l : Launch) (Z : State) (K : KTab) (n0 : Nat) (y : MethodName) (bytes : ByteArray) (maxL : Nat) (ret : Option FieldType) (R : Room) (as : Array Value) (A : List Ob) (Q : Option Value → List Ob → Prop) : Prop :=
  ∀ (ws : List Jvm.Cond) (h0 : Heap), Rel Z K n0 h0 A → MetFree l y (head1 (Jvm.Cond.code y bytes maxL ret :: ws) R) (fun a U => a = as ∧ Z.Warmed39 U.vm ∧ U.heap = h0) (fun _ _ _ _ _ => True)
    (fun _ U o U' => ∃ v L, o = .returned v ∧ (∃ A', Q v A' ∧ Rel Z K n0 U'.heap A' ∧ Fr n0 L) ∧ FrameEnd U o U' L R.cells R.slots)
def Nx (b : ByteArray) (pc : Nat) (i : Instr) (len pc' : Nat) : Prop := decode b pc = .ok (i, len) ∧ pc' = pc + len
def Bx (b : ByteArray) (pc : Nat) (i : Int → Instr) (t f : Nat) : Prop := ∃ o : Int, decode b pc = .ok (i o, 3) ∧ 0 ≤ (pc : Int) + o ∧ ((pc : Int) + o).toNat = t ∧ f = pc + 3
theorem get_set_self {A : List Ob} {i : Nat} {o o' : Ob} (h : A[i]? = some o) : (A.set i o')[i]? = some o' := List.getElem?_set_self (List.getElem?_eq_some_iff.mp h).1
theorem get_set_ne {A : List Ob} {i j : Nat} {o o' : Ob} (h : A[j]? = some o) (hne : i ≠ j) : (A.set i o')[j]? = some o := by rw [List.getElem?_set_ne hne]; exact h
theorem len_set {A : List Ob} {i N : Nat} {o : Ob} (h : A.length = N) : (A.set i o).length = N := by simpa using h
theorem get_app {A : List Ob} {i : Nat} {o o' : Ob} (h : A[i]? = some o) : (A ++ [o'])[i]? = some o := by rw [List.getElem?_append_left (List.getElem?_eq_some_iff.mp h).1]; exact h
theorem get_last {A : List Ob} {N : Nat} {o : Ob} (h : A.length = N) : (A ++ [o])[N]? = some o := by subst h; simp
theorem len_app {A : List Ob} {N : Nat} {o : Ob} (h : A.length = N) : (A ++ [o]).length = N + 1 := by simp [h]
theorem npOf {d : String} {ps : List FieldType} {r : Option FieldType} {n : Nat} (hd : parseMethodDescriptor d = some ⟨ps, r⟩) (hl : n = ps.length) : ∀ sig, parseMethodDescriptor d = some sig → n = sig.parameters.length := fun sig h => by cases hd.symm.trans h; exact hl
theorem leb {a b : Nat} (h : Nat.ble a b = true) : a ≤ b := Nat.le_of_ble_eq_true h
theorem ltb {a b : Nat} (h : Nat.ble (a + 1) b = true) : a < b := Nat.le_of_ble_eq_true h
theorem fa0 {α : Type} {P : α → Prop} : ∀ x ∈ ([] : List α), P x := fun _ q => nomatch q
theorem faS {α : Type} {P : α → Prop} {y : α} {L : List α} (q : P y) (r : ∀ x ∈ L, P x) : ∀ x ∈ y :: L, P x := fun x z => (List.mem_cons.mp z).elim (fun u => u ▸ q) (r x)
theorem kokOf {Z : State} {a0 : Array Value} {K : KTab} (h : ∀ p ∈ K, (∃ n, (Jvm.Cond.instantiable p.1 n).before a0 Z = true) ∧ (∀ f ∈ p.2, Laid Z a0 p.1 f.1 f.2.1 f.2.2 ∧ ∃ t, parseFieldDescriptor f.2.2 = some t) ∧ (p.2.map (·.2.1)).Nodup) : KOk Z a0 K := by
  intro k C fs hk
  obtain ⟨h1, h2, h3⟩ := h _ (List.mem_of_getElem? hk)
  refine ⟨h1, fun j f hj => h2 f (List.mem_of_getElem? hj), fun i j f g hi hj hne e => hne ?_⟩
  have q1 : (fs.map (·.2.1))[i]? = some f.2.1 := by simp [List.getElem?_map, hi]
  have q2 : (fs.map (·.2.1))[j]? = some f.2.1 := by simp [List.getElem?_map, hj, e]
  obtain ⟨l1, e1⟩ := List.getElem?_eq_some_iff.mp q1
  obtain ⟨l2, e2⟩ := List.getElem?_eq_some_iff.mp q2
  have h4 := List.pairwise_iff_getElem.mp h3
  rcases Nat.lt_trichotomy i j with q | q | q
  · exact absurd (e1.trans e2.symm) (h4 i j l1 l2 q)
  · exact q
  · exact absurd (e2.trans e1.symm) (h4 j i l2 l1 q)
def Is (v : Option Value) (A' : List Ob) : Option Value → List Ob → Prop := fun v' B => v' = v ∧ B = A'
theorem i_lt {u v : Int32} {a b : Int} (hu : u.toInt = a) (hv : v.toInt = b) : u < v ↔ a < b := by subst hu hv; exact Int32.lt_iff_toInt_lt
theorem i_ge {u v : Int32} {a b : Int} (hu : u.toInt = a) (hv : v.toInt = b) : ¬ u < v ↔ b ≤ a := by rw [i_lt hu hv]; omega
theorem i_eq {u v : Int32} {a b : Int} (hu : u.toInt = a) (hv : v.toInt = b) : u = v ↔ a = b := by subst hu hv; exact Int32.toInt_inj.symm
theorem i_ne {u v : Int32} {a b : Int} (hu : u.toInt = a) (hv : v.toInt = b) : ¬ u = v ↔ ¬ a = b := not_congr (i_eq hu hv)
theorem j_lt {u v : Int64} {a b : Int} (hu : u.toInt = a) (hv : v.toInt = b) : u < v ↔ a < b := by subst hu hv; exact Int64.lt_iff_toInt_lt
theorem j_ge {u v : Int64} {a b : Int} (hu : u.toInt = a) (hv : v.toInt = b) : ¬ u < v ↔ b ≤ a := by rw [j_lt hu hv]; omega
theorem j_eq {u v : Int64} {a b : Int} (hu : u.toInt = a) (hv : v.toInt = b) : u = v ↔ a = b := by subst hu hv; exact Int64.toInt_inj.symm
theorem j_ne {u v : Int64} {a b : Int} (hu : u.toInt = a) (hv : v.toInt = b) : ¬ u = v ↔ ¬ a = b := not_congr (j_eq hu hv)
theorem x_iadd {a b : Int32} {x y : Int} (ha : a.toInt = x) (hb : b.toInt = y) (h : -2147483648 ≤ x + y ∧ x + y < 2147483648) : (a + b).toInt = x + y := by
  have q := c_iadd a b
  have r := rng32 (a + b)
  rw [ha, hb] at q
  omega
theorem x_isub {a b : Int32} {x y : Int} (ha : a.toInt = x) (hb : b.toInt = y) (h : -2147483648 ≤ x - y ∧ x - y < 2147483648) : (a - b).toInt = x - y := by
  have q := c_isub a b
  have r := rng32 (a - b)
  rw [ha, hb] at q
  omega
theorem x_imul {a b : Int32} {x y : Int} (ha : a.toInt = x) (hb : b.toInt = y) (h : -2147483648 ≤ x * y ∧ x * y < 2147483648) : (a * b).toInt = x * y := by
  have q := c_imul a b
  have r := rng32 (a * b)
  rw [ha, hb] at q
  omega
theorem x_ineg {a : Int32} {x : Int} (ha : a.toInt = x) (h : -2147483648 < x) : (-a).toInt = -x := by
  have q := c_ineg a
  have r := rng32 (-a)
  have r2 := rng32 a
  rw [ha] at q r2
  omega
theorem x_ladd {a b : Int64} {x y : Int} (ha : a.toInt = x) (hb : b.toInt = y) (h : -9223372036854775808 ≤ x + y ∧ x + y < 9223372036854775808) : (a + b).toInt = x + y := by
  have q := c_ladd a b
  have r := rng64 (a + b)
  rw [ha, hb] at q
  omega
theorem x_lsub {a b : Int64} {x y : Int} (ha : a.toInt = x) (hb : b.toInt = y) (h : -9223372036854775808 ≤ x - y ∧ x - y < 9223372036854775808) : (a - b).toInt = x - y := by
  have q := c_lsub a b
  have r := rng64 (a - b)
  rw [ha, hb] at q
  omega
theorem x_lmul {a b : Int64} {x y : Int} (ha : a.toInt = x) (hb : b.toInt = y) (h : -9223372036854775808 ≤ x * y ∧ x * y < 9223372036854775808) : (a * b).toInt = x * y := by
  have q := c_lmul a b
  have r := rng64 (a * b)
  rw [ha, hb] at q
  omega
theorem x_lneg {a : Int64} {x : Int} (ha : a.toInt = x) (h : -9223372036854775808 < x) : (-a).toInt = -x := by
  have q := c_lneg a
  have r := rng64 (-a)
  have r2 := rng64 a
  rw [ha] at q r2
  omega
theorem x_irem {a b : Int32} {x y : Int} (ha : a.toInt = x) (hb : b.toInt = y) (h : 0 ≤ x) : (a % b).toInt = x % y := by
  rw [(c_irem a b y hb).1 (by rw [ha]; exact h), ha]
theorem x_idiv {a b : Int32} {x y : Int} (ha : a.toInt = x) (hb : b.toInt = y) (h : 0 ≤ x) (hy : 0 < y) : (a / b).toInt = x / y := by
  have hm : b ≠ -1 := fun e => by
    have q : (-1 : Int32).toInt = -1 := by decide
    rw [e, q] at hb
    omega
  rw [(c_idiv a b y hb hm).1 (by rw [ha]; exact h), ha]
theorem x_i2l {a : Int32} {x : Int} (ha : a.toInt = x) : (a.toInt64).toInt = x := by rw [c_i2l]; exact ha
theorem x_l2i {a : Int64} {x : Int} (ha : a.toInt = x) (h : -2147483648 ≤ x ∧ x < 2147483648) : (a.toInt32).toInt = x := by
  have q := c_l2i a
  have r := rng32 a.toInt32
  rw [ha] at q
  omega
theorem mod_b {x y : Int} (hy : 0 < y) : 0 ≤ x % y ∧ x % y < y := ⟨Int.emod_nonneg _ (by omega), Int.emod_lt_of_pos _ hy⟩
section Rules
variable {l : Launch} {Z : State} {a0 : Array Value} {K : KTab} {n0 b0 : Nat} {y : MethodName} {bytes : ByteArray} {maxL : Nat} {ret : Option FieldType} {R : Room} {Q : Option Value → List Ob → Prop} {G : GoT}
variable {pc pc' : Nat} {ls ls' : Array Slot} {st st' : List Value} {A A' : List Ob} {k k' n n' : Nat}
theorem Met.of (KK : KOk Z a0 K) (hp : plainFor y = true) {as : Array Value} (hef : ∀ m, entryFrame m as maxL = mkF m 0 ls []) (body : ∀ G, IsGo l Z a0 K n0 A.length y bytes maxL ret R Q G → G 0 ls [] A 0 0) : Met l Z K n0 y bytes maxL ret R as A Q := by
  intro ws h0 hR
  refine MetFree.of_bodySF hp hisR ?_
  intro p e s m args below meth c s₁ Bd hml0 hP hK
  obtain ⟨rfl, hZ, hh⟩ := hP
  have e0 : s₁.heap = h0 := by rw [← hh, Bd.state]; rfl
  have H := body (Go p l e R s m args below meth c Z K n0 Q) ⟨p, e, s, m, args, below, meth, c, Bd.exec, Bd.bytes, hml0, findClass_of_methodNamed Bd.named, (name_of_methodNamed Bd.named Bd.method).1, Bd.returns, Bd.notSynchronized, hZ, KK, by rw [hh]; exact hR.1, rfl⟩
  obtain ⟨s₂, o, h1, h2, h3, h4⟩ := H s₁ [] (Stand.of_body Bd) (by rw [e0]; exact hR) (Fr.nil n0)
  exact ⟨s₂, o, castTop (hef m) h1, h2, h3, h4⟩
theorem Met.mono {as : Array Value} {Q' : Option Value → List Ob → Prop} (M : Met l Z K n0 y bytes maxL ret R as A Q) (h : ∀ v A', Q v A' → Q' v A') : Met l Z K n0 y bytes maxL ret R as A Q' := by
  intro ws h0 hR p e ha hc hk s m args below hf happ hP hK
  obtain ⟨n, o, h1, h2, h3, v, L, h4, ⟨A', h5, h6⟩, h7⟩ := M ws h0 hR p e ha hc hk s m args below hf happ hP hK
  exact ⟨n, o, h1, h2, h3, v, L, h4, ⟨A', h _ _ h5, h6⟩, h7⟩
theorem IsGo.lift (H : IsGo l Z a0 K n0 b0 y bytes maxL ret R Q G) (hs : ∀ {p : Program} {e : Env} {below : List Frame} {T target : State} {m : MethodId} {c : Code}, At T m c below → p.tables.exec = Jvm.exec → c.code = bytes → Steps p.tables e below (T.setTop (mkF m pc' ls' st')) target → Steps p.tables e below (T.setTop (mkF m pc ls st)) target)
    (h : G pc' ls' st' A k n) : G pc ls st A k n := by
  obtain ⟨p, e, s, m, args, below, meth, c, hx, hby, hml, hown, hnm, hret, hlk, hZ, hK, hb0, rfl⟩ := H
  intro T locs X hR hF
  obtain ⟨s₂, o, h1, h2⟩ := h T locs X hR hF
  exact ⟨s₂, o, hs X.here hx hby h1, h2⟩
/-! ### loads, stores, constants -/
theorem IsGo.iloadN (H : IsGo l Z a0 K n0 b0 y bytes maxL ret R Q G) {i : Fin 4} (hd : Nx bytes pc (.iload_n i) 1 pc') {v : Int32} (hl : ls[i.val]? = some (.val (.int v))) (h : G pc' ls (.int v :: st) A k n) : G pc ls st A k n := by
  obtain ⟨hd, rfl⟩ := hd
  exact H.lift (fun hA hx hby hr => XS.iloadN hA hx rfl (hb hby hd) hl hr) h
theorem IsGo.iload (H : IsGo l Z a0 K n0 b0 y bytes maxL ret R Q G) {i : Nat} (hd : Nx bytes pc (.iload i) 2 pc') {v : Int32} (hl : ls[i]? = some (.val (.int v))) (h : G pc' ls (.int v :: st) A k n) : G pc ls st A k n := by
  obtain ⟨hd, rfl⟩ := hd
  exact H.lift (fun hA hx hby hr => XS.iload hA hx rfl (hb hby hd) hl hr) h
theorem IsGo.lloadN (H : IsGo l Z a0 K n0 b0 y bytes maxL ret R Q G) {i : Fin 4} (hd : Nx bytes pc (.lload_n i) 1 pc') {v : Int64} (hl : ls[i.val]? = some (.val (.long v))) (h : G pc' ls (.long v :: st) A k n) : G pc ls st A k n := by
  obtain ⟨hd, rfl⟩ := hd
  exact H.lift (fun hA hx hby hr => XS.lloadN hA hx rfl (hb hby hd) hl hr) h
theorem IsGo.lload (H : IsGo l Z a0 K n0 b0 y bytes maxL ret R Q G) {i : Nat} (hd : Nx bytes pc (.lload i) 2 pc') {v : Int64} (hl : ls[i]? = some (.val (.long v))) (h : G pc' ls (.long v :: st) A k n) : G pc ls st A k n := by
  obtain ⟨hd, rfl⟩ := hd
  exact H.lift (fun hA hx hby hr => XS.lload hA hx rfl (hb hby hd) hl hr) h
theorem IsGo.aloadN (H : IsGo l Z a0 K n0 b0 y bytes maxL ret R Q G) {i : Fin 4} (hd : Nx bytes pc (.aload_n i) 1 pc') {v : Value} (hl : ls[i.val]? = some (.val v)) (hv : v.isRef = true) (h : G pc' ls (v :: st) A k n) : G pc ls st A k n := by
  obtain ⟨hd, rfl⟩ := hd
  exact H.lift (fun hA hx hby hr => XS.aloadN hA hx rfl (hb hby hd) hl hv hr) h
theorem IsGo.aload (H : IsGo l Z a0 K n0 b0 y bytes maxL ret R Q G) {i : Nat} (hd : Nx bytes pc (.aload i) 2 pc') {v : Value} (hl : ls[i]? = some (.val v)) (hv : v.isRef = true) (h : G pc' ls (v :: st) A k n) : G pc ls st A k n := by
  obtain ⟨hd, rfl⟩ := hd
  exact H.lift (fun hA hx hby hr => XS.aload hA hx rfl (hb hby hd) hl hv hr) h
theorem IsGo.istoreN (H : IsGo l Z a0 K n0 b0 y bytes maxL ret R Q G) {i : Fin 4} (hd : Nx bytes pc (.istore_n i) 1 pc') {v : Int32} (hl : storeLocals ls i.val (.int v) = some ls') (h : G pc' ls' st A k n) : G pc ls (.int v :: st) A k n := by
  obtain ⟨hd, rfl⟩ := hd
  exact H.lift (fun hA hx hby hr => XS.istoreN hA hx rfl (hb hby hd) rfl hl hr) h
theorem IsGo.istore (H : IsGo l Z a0 K n0 b0 y bytes maxL ret R Q G) {i : Nat} (hd : Nx bytes pc (.istore i) 2 pc') {v : Int32} (hl : storeLocals ls i (.int v) = some ls') (h : G pc' ls' st A k n) : G pc ls (.int v :: st) A k n := by
  obtain ⟨hd, rfl⟩ := hd
  exact H.lift (fun hA hx hby hr => XS.istore hA hx rfl (hb hby hd) rfl hl hr) h
theorem IsGo.lstoreN (H : IsGo l Z a0 K n0 b0 y bytes maxL ret R Q G) {i : Fin 4} (hd : Nx bytes pc (.lstore_n i) 1 pc') {v : Int64} (hl : storeLocals ls i.val (.long v) = some ls') (h : G pc' ls' st A k n) : G pc ls (.long v :: st) A k n := by
  obtain ⟨hd, rfl⟩ := hd
  exact H.lift (fun hA hx hby hr => XS.lstoreN hA hx rfl (hb hby hd) rfl hl hr) h
theorem IsGo.lstore (H : IsGo l Z a0 K n0 b0 y bytes maxL ret R Q G) {i : Nat} (hd : Nx bytes pc (.lstore i) 2 pc') {v : Int64} (hl : storeLocals ls i (.long v) = some ls') (h : G pc' ls' st A k n) : G pc ls (.long v :: st) A k n := by
  obtain ⟨hd, rfl⟩ := hd
  exact H.lift (fun hA hx hby hr => XS.lstore hA hx rfl (hb hby hd) rfl hl hr) h
theorem IsGo.astoreN (H : IsGo l Z a0 K n0 b0 y bytes maxL ret R Q G) {i : Fin 4} (hd : Nx bytes pc (.astore_n i) 1 pc') {v : Value} (hv : v.isRef = true) (hl : storeLocals ls i.val v = some ls') (h : G pc' ls' st A k n) : G pc ls (v :: st) A k n := by
  obtain ⟨hd, rfl⟩ := hd
  exact H.lift (fun hA hx hby hr => XS.astoreN hA hx rfl (hb hby hd) rfl hv hl hr) h
theorem IsGo.astore (H : IsGo l Z a0 K n0 b0 y bytes maxL ret R Q G) {i : Nat} (hd : Nx bytes pc (.astore i) 2 pc') {v : Value} (hv : v.isRef = true) (hl : storeLocals ls i v = some ls') (h : G pc' ls' st A k n) : G pc ls (v :: st) A k n := by
  obtain ⟨hd, rfl⟩ := hd
  exact H.lift (fun hA hx hby hr => XS.astore hA hx rfl (hb hby hd) rfl hv hl hr) h
theorem IsGo.iconst (H : IsGo l Z a0 K n0 b0 y bytes maxL ret R Q G) {i : Int} (hd : Nx bytes pc (.iconst i) 1 pc') {v : Int32} (hv : Int32.ofInt i = v) (h : G pc' ls (.int v :: st) A k n) : G pc ls st A k n := by
  obtain ⟨hd, rfl⟩ := hd
  subst hv
  exact H.lift (fun hA hx hby hr => XS.iconst hA hx rfl (hb hby hd) hr) h
theorem IsGo.bipush (H : IsGo l Z a0 K n0 b0 y bytes maxL ret R Q G) {i : Int} (hd : Nx bytes pc (.bipush i) 2 pc') {v : Int32} (hv : (Int8.ofInt i).toInt32 = v) (h : G pc' ls (.int v :: st) A k n) : G pc ls st A k n := by
  obtain ⟨hd, rfl⟩ := hd
  subst hv
  exact H.lift (fun hA hx hby hr => XS.bipush hA hx rfl (hb hby hd) hr) h
theorem IsGo.sipush (H : IsGo l Z a0 K n0 b0 y bytes maxL ret R Q G) {i : Int} (hd : Nx bytes pc (.sipush i) 3 pc') {v : Int32} (hv : (Int16.ofInt i).toInt32 = v) (h : G pc' ls (.int v :: st) A k n) : G pc ls st A k n := by
  obtain ⟨hd, rfl⟩ := hd
  subst hv
  exact H.lift (fun hA hx hby hr => XS.sipush hA hx rfl (hb hby hd) hr) h
theorem IsGo.lconst (H : IsGo l Z a0 K n0 b0 y bytes maxL ret R Q G) {i : Fin 2} (hd : Nx bytes pc (.lconst i) 1 pc') {v : Int64} (hv : Int64.ofNat i = v) (h : G pc' ls (.long v :: st) A k n) : G pc ls st A k n := by
  obtain ⟨hd, rfl⟩ := hd
  subst hv
  exact H.lift (fun hA hx hby hr => XS.lconst hA hx rfl (hb hby hd) hr) h
theorem IsGo.aconstNull (H : IsGo l Z a0 K n0 b0 y bytes maxL ret R Q G) (hd : Nx bytes pc .aconst_null 1 pc') (h : G pc' ls (.null :: st) A k n) : G pc ls st A k n := by
  obtain ⟨hd, rfl⟩ := hd
  exact H.lift (fun hA hx hby hr => XS.aconstNull hA hx rfl (hb hby hd) hr) h
theorem IsGo.ldc (H : IsGo l Z a0 K n0 b0 y bytes maxL ret R Q G) {i : Nat} (hd : Nx bytes pc (.ldc i) 2 pc') {v : Int32} (w : (Jvm.Cond.constant y.cls i v).before a0 Z = true) (h : G pc' ls (.int v :: st) A k n) : G pc ls st A k n := by
  obtain ⟨hd, rfl⟩ := hd
  obtain ⟨p, e, s, m, args, below, meth, c, hx, hby, hml, hown, hnm, hret, hlk, hZ, hK, hb0, rfl⟩ := H
  intro T locs X hR hF
  obtain ⟨s₂, o, h1, h2⟩ := h T locs X hR hF
  exact ⟨s₂, o, X.ldcInt hx hown (mvT hZ w) (g := mkF m pc ls st) rfl (hb hby hd) _ h1, h2⟩
theorem IsGo.ldcW (H : IsGo l Z a0 K n0 b0 y bytes maxL ret R Q G) {i : Nat} (hd : Nx bytes pc (.ldc_w i) 3 pc') {v : Int32} (w : (Jvm.Cond.constant y.cls i v).before a0 Z = true) (h : G pc' ls (.int v :: st) A k n) : G pc ls st A k n := by
  obtain ⟨hd, rfl⟩ := hd
  obtain ⟨p, e, s, m, args, below, meth, c, hx, hby, hml, hown, hnm, hret, hlk, hZ, hK, hb0, rfl⟩ := H
  intro T locs X hR hF
  obtain ⟨s₂, o, h1, h2⟩ := h T locs X hR hF
  exact ⟨s₂, o, X.ldcwInt hx hown (mvT hZ w) (g := mkF m pc ls st) rfl (hb hby hd) _ h1, h2⟩
theorem IsGo.ldc2 (H : IsGo l Z a0 K n0 b0 y bytes maxL ret R Q G) {i : Nat} (hd : Nx bytes pc (.ldc2_w i) 3 pc') {v : Int64} (w : (Jvm.Cond.constantLong y.cls i v).before a0 Z = true) (h : G pc' ls (.long v :: st) A k n) : G pc ls st A k n := by
  obtain ⟨hd, rfl⟩ := hd
  obtain ⟨p, e, s, m, args, below, meth, c, hx, hby, hml, hown, hnm, hret, hlk, hZ, hK, hb0, rfl⟩ := H
  intro T locs X hR hF
  obtain ⟨s₂, o, h1, h2⟩ := h T locs X hR hF
  exact ⟨s₂, o, X.ldc2Long hx hown (mvT hZ w) (g := mkF m pc ls st) rfl (hb hby hd) _ h1, h2⟩
/-! ### sums -/
theorem IsGo.iadd (H : IsGo l Z a0 K n0 b0 y bytes maxL ret R Q G) (hd : Nx bytes pc .iadd 1 pc') {u v w : Int32} (hw : u + v = w) (h : G pc' ls (.int w :: st) A k n) : G pc ls (.int v :: .int u :: st) A k n := by
  obtain ⟨hd, rfl⟩ := hd
  subst hw
  exact H.lift (fun hA hx hby hr => XS.iadd hA hx rfl (hb hby hd) rfl hr) h
theorem IsGo.ladd (H : IsGo l Z a0 K n0 b0 y bytes maxL ret R Q G) (hd : Nx bytes pc .ladd 1 pc') {u v w : Int64} (hw : u + v = w) (h : G pc' ls (.long w :: st) A k n) : G pc ls (.long v :: .long u :: st) A k n := by
  obtain ⟨hd, rfl⟩ := hd
  subst hw
  exact H.lift (fun hA hx hby hr => XS.ladd hA hx rfl (hb hby hd) rfl hr) h
theorem IsGo.isub (H : IsGo l Z a0 K n0 b0 y bytes maxL ret R Q G) (hd : Nx bytes pc .isub 1 pc') {u v w : Int32} (hw : u - v = w) (h : G pc' ls (.int w :: st) A k n) : G pc ls (.int v :: .int u :: st) A k n := by
  obtain ⟨hd, rfl⟩ := hd
  subst hw
  exact H.lift (fun hA hx hby hr => XS.isub hA hx rfl (hb hby hd) rfl hr) h
theorem IsGo.lsub (H : IsGo l Z a0 K n0 b0 y bytes maxL ret R Q G) (hd : Nx bytes pc .lsub 1 pc') {u v w : Int64} (hw : u - v = w) (h : G pc' ls (.long w :: st) A k n) : G pc ls (.long v :: .long u :: st) A k n := by
  obtain ⟨hd, rfl⟩ := hd
  subst hw
  exact H.lift (fun hA hx hby hr => XS.lsub hA hx rfl (hb hby hd) rfl hr) h
theorem IsGo.imul (H : IsGo l Z a0 K n0 b0 y bytes maxL ret R Q G) (hd : Nx bytes pc .imul 1 pc') {u v w : Int32} (hw : u * v = w) (h : G pc' ls (.int w :: st) A k n) : G pc ls (.int v :: .int u :: st) A k n := by
  obtain ⟨hd, rfl⟩ := hd
  subst hw
  exact H.lift (fun hA hx hby hr => XS.imul hA hx rfl (hb hby hd) rfl hr) h
theorem IsGo.lmul (H : IsGo l Z a0 K n0 b0 y bytes maxL ret R Q G) (hd : Nx bytes pc .lmul 1 pc') {u v w : Int64} (hw : u * v = w) (h : G pc' ls (.long w :: st) A k n) : G pc ls (.long v :: .long u :: st) A k n := by
  obtain ⟨hd, rfl⟩ := hd
  subst hw
  exact H.lift (fun hA hx hby hr => XS.lmul hA hx rfl (hb hby hd) rfl hr) h
theorem IsGo.iand (H : IsGo l Z a0 K n0 b0 y bytes maxL ret R Q G) (hd : Nx bytes pc .iand 1 pc') {u v w : Int32} (hw : u &&& v = w) (h : G pc' ls (.int w :: st) A k n) : G pc ls (.int v :: .int u :: st) A k n := by
  obtain ⟨hd, rfl⟩ := hd
  subst hw
  exact H.lift (fun hA hx hby hr => XS.iand hA hx rfl (hb hby hd) rfl hr) h
theorem IsGo.land (H : IsGo l Z a0 K n0 b0 y bytes maxL ret R Q G) (hd : Nx bytes pc .land 1 pc') {u v w : Int64} (hw : u &&& v = w) (h : G pc' ls (.long w :: st) A k n) : G pc ls (.long v :: .long u :: st) A k n := by
  obtain ⟨hd, rfl⟩ := hd
  subst hw
  exact H.lift (fun hA hx hby hr => XS.land hA hx rfl (hb hby hd) rfl hr) h
theorem IsGo.ior (H : IsGo l Z a0 K n0 b0 y bytes maxL ret R Q G) (hd : Nx bytes pc .ior 1 pc') {u v w : Int32} (hw : u ||| v = w) (h : G pc' ls (.int w :: st) A k n) : G pc ls (.int v :: .int u :: st) A k n := by
  obtain ⟨hd, rfl⟩ := hd
  subst hw
  exact H.lift (fun hA hx hby hr => XS.ior hA hx rfl (hb hby hd) rfl hr) h
theorem IsGo.lor (H : IsGo l Z a0 K n0 b0 y bytes maxL ret R Q G) (hd : Nx bytes pc .lor 1 pc') {u v w : Int64} (hw : u ||| v = w) (h : G pc' ls (.long w :: st) A k n) : G pc ls (.long v :: .long u :: st) A k n := by
  obtain ⟨hd, rfl⟩ := hd
  subst hw
  exact H.lift (fun hA hx hby hr => XS.lor hA hx rfl (hb hby hd) rfl hr) h
theorem IsGo.ixor (H : IsGo l Z a0 K n0 b0 y bytes maxL ret R Q G) (hd : Nx bytes pc .ixor 1 pc') {u v w : Int32} (hw : u ^^^ v = w) (h : G pc' ls (.int w :: st) A k n) : G pc ls (.int v :: .int u :: st) A k n := by
  obtain ⟨hd, rfl⟩ := hd
  subst hw
  exact H.lift (fun hA hx hby hr => XS.ixor hA hx rfl (hb hby hd) rfl hr) h
theorem IsGo.lxor (H : IsGo l Z a0 K n0 b0 y bytes maxL ret R Q G) (hd : Nx bytes pc .lxor 1 pc') {u v w : Int64} (hw : u ^^^ v = w) (h : G pc' ls (.long w :: st) A k n) : G pc ls (.long v :: .long u :: st) A k n := by
  obtain ⟨hd, rfl⟩ := hd
  subst hw
  exact H.lift (fun hA hx hby hr => XS.lxor hA hx rfl (hb hby hd) rfl hr) h
theorem IsGo.ishl (H : IsGo l Z a0 K n0 b0 y bytes maxL ret R Q G) (hd : Nx bytes pc .ishl 1 pc') {u v w : Int32} (hw : u <<< (v &&& 31) = w) (h : G pc' ls (.int w :: st) A k n) : G pc ls (.int v :: .int u :: st) A k n := by
  obtain ⟨hd, rfl⟩ := hd
  subst hw
  exact H.lift (fun hA hx hby hr => XS.ishl hA hx rfl (hb hby hd) rfl hr) h
theorem IsGo.ishr (H : IsGo l Z a0 K n0 b0 y bytes maxL ret R Q G) (hd : Nx bytes pc .ishr 1 pc') {u v w : Int32} (hw : u >>> (v &&& 31) = w) (h : G pc' ls (.int w :: st) A k n) : G pc ls (.int v :: .int u :: st) A k n := by
  obtain ⟨hd, rfl⟩ := hd
  subst hw
  exact H.lift (fun hA hx hby hr => XS.ishr hA hx rfl (hb hby hd) rfl hr) h
theorem IsGo.iushr (H : IsGo l Z a0 K n0 b0 y bytes maxL ret R Q G) (hd : Nx bytes pc .iushr 1 pc') {u v w : Int32} (hw : (u.toUInt32 >>> (v &&& 31).toUInt32).toInt32 = w) (h : G pc' ls (.int w :: st) A k n) : G pc ls (.int v :: .int u :: st) A k n := by
  obtain ⟨hd, rfl⟩ := hd
  subst hw
  exact H.lift (fun hA hx hby hr => XS.iushr hA hx rfl (hb hby hd) rfl hr) h
theorem IsGo.lshl (H : IsGo l Z a0 K n0 b0 y bytes maxL ret R Q G) (hd : Nx bytes pc .lshl 1 pc') {u w : Int64} {v : Int32} (hw : u <<< (v &&& 0x3f).toInt64 = w) (h : G pc' ls (.long w :: st) A k n) : G pc ls (.int v :: .long u :: st) A k n := by
  obtain ⟨hd, rfl⟩ := hd
  subst hw
  exact H.lift (fun hA hx hby hr => XS.lshl hA hx rfl (hb hby hd) rfl hr) h
theorem IsGo.lshr (H : IsGo l Z a0 K n0 b0 y bytes maxL ret R Q G) (hd : Nx bytes pc .lshr 1 pc') {u w : Int64} {v : Int32} (hw : u >>> (v &&& 0x3f).toInt64 = w) (h : G pc' ls (.long w :: st) A k n) : G pc ls (.int v :: .long u :: st) A k n := by
  obtain ⟨hd, rfl⟩ := hd
  subst hw
  exact H.lift (fun hA hx hby hr => XS.lshr hA hx rfl (hb hby hd) rfl hr) h
theorem IsGo.lushr (H : IsGo l Z a0 K n0 b0 y bytes maxL ret R Q G) (hd : Nx bytes pc .lushr 1 pc') {u w : Int64} {v : Int32} (hw : (u.toUInt64 >>> (v &&& 0x3f).toInt64.toUInt64).toInt64 = w) (h : G pc' ls (.long w :: st) A k n) : G pc ls (.int v :: .long u :: st) A k n := by
  obtain ⟨hd, rfl⟩ := hd
  subst hw
  exact H.lift (fun hA hx hby hr => XS.lushr hA hx rfl (hb hby hd) rfl hr) h
theorem IsGo.ineg (H : IsGo l Z a0 K n0 b0 y bytes maxL ret R Q G) (hd : Nx bytes pc .ineg 1 pc') {u : Int32} {w : Int32} (hw : -u = w) (h : G pc' ls (.int w :: st) A k n) : G pc ls (.int u :: st) A k n := by
  obtain ⟨hd, rfl⟩ := hd
  subst hw
  exact H.lift (fun hA hx hby hr => XS.ineg hA hx rfl (hb hby hd) rfl hr) h
theorem IsGo.lneg (H : IsGo l Z a0 K n0 b0 y bytes maxL ret R Q G) (hd : Nx bytes pc .lneg 1 pc') {u : Int64} {w : Int64} (hw : -u = w) (h : G pc' ls (.long w :: st) A k n) : G pc ls (.long u :: st) A k n := by
  obtain ⟨hd, rfl⟩ := hd
  subst hw
  exact H.lift (fun hA hx hby hr => XS.lneg hA hx rfl (hb hby hd) rfl hr) h
theorem IsGo.i2l (H : IsGo l Z a0 K n0 b0 y bytes maxL ret R Q G) (hd : Nx bytes pc .i2l 1 pc') {u : Int32} {w : Int64} (hw : u.toInt64 = w) (h : G pc' ls (.long w :: st) A k n) : G pc ls (.int u :: st) A k n := by
  obtain ⟨hd, rfl⟩ := hd
  subst hw
  exact H.lift (fun hA hx hby hr => XS.i2l hA hx rfl (hb hby hd) rfl hr) h
theorem IsGo.l2i (H : IsGo l Z a0 K n0 b0 y bytes maxL ret R Q G) (hd : Nx bytes pc .l2i 1 pc') {u : Int64} {w : Int32} (hw : u.toInt32 = w) (h : G pc' ls (.int w :: st) A k n) : G pc ls (.long u :: st) A k n := by
  obtain ⟨hd, rfl⟩ := hd
  subst hw
  exact H.lift (fun hA hx hby hr => XS.l2i hA hx rfl (hb hby hd) rfl hr) h
theorem IsGo.i2b (H : IsGo l Z a0 K n0 b0 y bytes maxL ret R Q G) (hd : Nx bytes pc .i2b 1 pc') {u : Int32} {w : Int32} (hw : u.toInt8.toInt32 = w) (h : G pc' ls (.int w :: st) A k n) : G pc ls (.int u :: st) A k n := by
  obtain ⟨hd, rfl⟩ := hd
  subst hw
  exact H.lift (fun hA hx hby hr => XS.i2b hA hx rfl (hb hby hd) rfl hr) h
theorem IsGo.idiv (H : IsGo l Z a0 K n0 b0 y bytes maxL ret R Q G) (hd : Nx bytes pc .idiv 1 pc') {u v w : Int32} (hv : v ≠ 0) (hw : u / v = w) (h : G pc' ls (.int w :: st) A k n) : G pc ls (.int v :: .int u :: st) A k n := by
  obtain ⟨hd, rfl⟩ := hd
  subst hw
  exact H.lift (fun hA hx hby hr => XS.idiv hA hx rfl (hb hby hd) rfl hv hr) h
theorem IsGo.irem (H : IsGo l Z a0 K n0 b0 y bytes maxL ret R Q G) (hd : Nx bytes pc .irem 1 pc') {u v w : Int32} (hv : v ≠ 0) (hw : u % v = w) (h : G pc' ls (.int w :: st) A k n) : G pc ls (.int v :: .int u :: st) A k n := by
  obtain ⟨hd, rfl⟩ := hd
  subst hw
  have q : u - u / v * v = u % v := irem_eq_mod u v
  rw [← q] at h
  exact H.lift (fun hA hx hby hr => XS.irem hA hx rfl (hb hby hd) rfl hv hr) h
theorem IsGo.ldiv (H : IsGo l Z a0 K n0 b0 y bytes maxL ret R Q G) (hd : Nx bytes pc .ldiv 1 pc') {u v w : Int64} (hv : v ≠ 0) (hw : u / v = w) (h : G pc' ls (.long w :: st) A k n) : G pc ls (.long v :: .long u :: st) A k n := by
  obtain ⟨hd, rfl⟩ := hd
  subst hw
  exact H.lift (fun hA hx hby hr => XS.ldiv hA hx rfl (hb hby hd) rfl hv hr) h
theorem IsGo.lrem (H : IsGo l Z a0 K n0 b0 y bytes maxL ret R Q G) (hd : Nx bytes pc .lrem 1 pc') {u v w : Int64} (hv : v ≠ 0) (hw : u % v = w) (h : G pc' ls (.long w :: st) A k n) : G pc ls (.long v :: .long u :: st) A k n := by
  obtain ⟨hd, rfl⟩ := hd
  subst hw
  rw [← lrem_mod u v] at h
  exact H.lift (fun hA hx hby hr => XS.lrem hA hx rfl (hb hby hd) rfl hv hr) h
theorem IsGo.iinc (H : IsGo l Z a0 K n0 b0 y bytes maxL ret R Q G) {i : Nat} {cst : Int} (hd : Nx bytes pc (.iinc i cst) 3 pc') {u w : Int32} (hl : ls[i]? = some (.val (.int u))) (hw : u + Int32.ofInt cst = w) (hl' : storeLocals ls i (.int w) = some ls') (h : G pc' ls' st A k n) : G pc ls st A k n := by
  obtain ⟨hd, rfl⟩ := hd
  subst hw
  exact H.lift (fun hA hx hby hr => XS.iinc hA hx rfl (hb hby hd) hl hl' hr) h
/-! ### the stack -/
theorem IsGo.dup (H : IsGo l Z a0 K n0 b0 y bytes maxL ret R Q G) (hd : Nx bytes pc .dup 1 pc') {u : Value} (hc : u.category = 1) (h : G pc' ls (u :: u :: st) A k n) : G pc ls (u :: st) A k n := by
  obtain ⟨hd, rfl⟩ := hd
  exact H.lift (fun hA hx hby hr => XS.dup hA hx rfl (hb hby hd) rfl hc hr) h
theorem IsGo.dupX1 (H : IsGo l Z a0 K n0 b0 y bytes maxL ret R Q G) (hd : Nx bytes pc .dup_x1 1 pc') {u v : Value} (hc : u.category = 1) (hc' : v.category = 1) (h : G pc' ls (u :: v :: u :: st) A k n) : G pc ls (u :: v :: st) A k n := by
  obtain ⟨hd, rfl⟩ := hd
  exact H.lift (fun hA hx hby hr => XS.dupX1 hA hx rfl (hb hby hd) rfl hc hc' hr) h
theorem IsGo.dup2 (H : IsGo l Z a0 K n0 b0 y bytes maxL ret R Q G) (hd : Nx bytes pc .dup2 1 pc') {u v : Value} (hc : u.category = 1) (hc' : v.category = 1) (h : G pc' ls (u :: v :: u :: v :: st) A k n) : G pc ls (u :: v :: st) A k n := by
  obtain ⟨hd, rfl⟩ := hd
  exact H.lift (fun hA hx hby hr => XT.dup2 hA hx rfl (hb hby hd) rfl hc hc' hr) h
theorem IsGo.dup2L (H : IsGo l Z a0 K n0 b0 y bytes maxL ret R Q G) (hd : Nx bytes pc .dup2 1 pc') {u : Int64} (h : G pc' ls (.long u :: .long u :: st) A k n) : G pc ls (.long u :: st) A k n := by
  obtain ⟨hd, rfl⟩ := hd
  exact H.lift (fun hA hx hby hr => XT.dup2L hA hx rfl (hb hby hd) rfl hr) h
theorem IsGo.pop (H : IsGo l Z a0 K n0 b0 y bytes maxL ret R Q G) (hd : Nx bytes pc .pop 1 pc') {u : Value} (hc : u.category = 1) (h : G pc' ls st A k n) : G pc ls (u :: st) A k n := by
  obtain ⟨hd, rfl⟩ := hd
  exact H.lift (fun hA hx hby hr => XS.pop hA hx rfl (hb hby hd) rfl hc hr) h
theorem dupX2_step {tb : Tables} [Ours tb] {e : Env} {below : List Frame} {T target : State} {m : MethodId} {c : Code} {g : JFrame} (h : At T m c below) (hx : tb.exec = Jvm.exec) (hg : g.method = m) {u v w : Value} {rest : List Value} (hd : decode c.code g.pc = .ok (.dup_x2, 1)) (hs : g.stack = u :: v :: w :: rest) (hc : u.category = 1) (hc2 : v.category = 1) (hc3 : w.category = 1)
    (hr : Steps tb e below (T.setTop { g with pc := g.pc + 1, stack := u :: v :: w :: u :: rest }) target) : Steps tb e below (T.setTop g) target := by
  subst hg
  jvm_step h [h.top, hx, hd, hs, hc, hc2, hc3, dup_x2.wp_sem]
  exact hr
theorem pop2L_step {tb : Tables} [Ours tb] {e : Env} {below : List Frame} {T target : State} {m : MethodId} {c : Code} {g : JFrame} (h : At T m c below) (hx : tb.exec = Jvm.exec) (hg : g.method = m) {u : Int64} {rest : List Value} (hd : decode c.code g.pc = .ok (.pop2, 1)) (hs : g.stack = .long u :: rest)
    (hr : Steps tb e below (T.setTop { g with pc := g.pc + 1, stack := rest }) target) : Steps tb e below (T.setTop g) target := by
  subst hg
  jvm_step h [h.top, hx, hd, hs, pop2.wp_sem, Value.category]
  exact hr
theorem IsGo.dupX2 (H : IsGo l Z a0 K n0 b0 y bytes maxL ret R Q G) (hd : Nx bytes pc .dup_x2 1 pc') {u v w : Value} (hc : u.category = 1) (hc' : v.category = 1) (hc3 : w.category = 1) (h : G pc' ls (u :: v :: w :: u :: st) A k n) : G pc ls (u :: v :: w :: st) A k n := by
  obtain ⟨hd, rfl⟩ := hd
  exact H.lift (fun hA hx hby hr => dupX2_step hA hx rfl (hb hby hd) rfl hc hc' hc3 hr) h
theorem IsGo.pop2L (H : IsGo l Z a0 K n0 b0 y bytes maxL ret R Q G) (hd : Nx bytes pc .pop2 1 pc') {u : Int64} (h : G pc' ls st A k n) : G pc ls (.long u :: st) A k n := by
  obtain ⟨hd, rfl⟩ := hd
  exact H.lift (fun hA hx hby hr => pop2L_step hA hx rfl (hb hby hd) rfl hr) h
/-! ### branches -/
theorem IsGo.goto (H : IsGo l Z a0 K n0 b0 y bytes maxL ret R Q G) {f : Nat} (hd : Bx bytes pc .goto pc' f) (h : G pc' ls st A k n) : G pc ls st A k n := by
  obtain ⟨o, hd, ho, hp, -⟩ := hd
  exact H.lift (fun hA hx hby hr => XS.goto hA hx rfl (pc0 := pc) (pc' := pc') rfl (hb hby hd) ho hp hr) h
/-- what a comparison of two ints says -/
def CP : ClassFile.Cond → Int32 → Int32 → Prop
  | .eq, u, v => u = v
  | .ne, u, v => ¬ u = v
  | .lt, u, v => u < v
  | .ge, u, v => ¬ u < v
  | .gt, u, v => v < u
  | .le, u, v => ¬ v < u
def CPL : ClassFile.Cond → Int64 → Int64 → Prop
  | .eq, u, v => u = v
  | .ne, u, v => ¬ u = v
  | .lt, u, v => u < v
  | .ge, u, v => ¬ u < v
  | .gt, u, v => v < u
  | .le, u, v => ¬ v < u
def ng : ClassFile.Cond → ClassFile.Cond
  | .eq => .ne | .ne => .eq | .lt => .ge | .ge => .lt | .gt => .le | .le => .gt
theorem cp_or (cd : ClassFile.Cond) (u v : Int32) : CP cd u v ∨ CP (ng cd) u v := by
  cases cd <;> simp only [CP, ng] <;> first | exact Classical.em _ | exact (Classical.em _).symm
theorem cpl_or (cd : ClassFile.Cond) (u v : Int64) : CPL cd u v ∨ CPL (ng cd) u v := by
  cases cd <;> simp only [CPL, ng] <;> first | exact Classical.em _ | exact (Classical.em _).symm
theorem cp_t {cd : ClassFile.Cond} {u v : Int32} (h : CP cd u v) : if_icmp.holds cd u v = true := by
  cases cd <;> simp only [CP] at h
  · exact XT.ii_eq_t h
  · exact XT.ii_ne_t h
  · exact XT.ii_lt_t h
  · exact XT.ii_ge_t h
  · exact XT.ii_gt_t h
  · exact XT.ii_le_t h
theorem cp_f {cd : ClassFile.Cond} {u v : Int32} (h : CP (ng cd) u v) : if_icmp.holds cd u v = false := by
  cases cd <;> simp only [CP, ng] at h
  · exact XT.ii_eq_f h
  · exact XT.ii_ne_f h
  · exact XT.ii_lt_f h
  · exact XT.ii_ge_f h
  · exact XT.ii_gt_f h
  · exact XT.ii_le_f h
theorem IsGo.icmpT (H : IsGo l Z a0 K n0 b0 y bytes maxL ret R Q G) {cd : ClassFile.Cond} {t f : Nat} (hd : Bx bytes pc (.if_icmp cd) t f) {u v : Int32} (hc : CP cd u v) (h : G t ls st A k n) : G pc ls (.int v :: .int u :: st) A k n := by
  obtain ⟨o, hd, ho, hp, rfl⟩ := hd
  exact H.lift (fun hA hx hby hr => XS.icmpYes hA hx rfl (pc0 := pc) (pc' := t) rfl (hb hby hd) rfl (cp_t hc) ho hp hr) h
theorem IsGo.icmpF (H : IsGo l Z a0 K n0 b0 y bytes maxL ret R Q G) {cd : ClassFile.Cond} {t f : Nat} (hd : Bx bytes pc (.if_icmp cd) t f) {u v : Int32} (hc : CP (ng cd) u v) (h : G f ls st A k n) : G pc ls (.int v :: .int u :: st) A k n := by
  obtain ⟨o, hd, ho, hp, rfl⟩ := hd
  exact H.lift (fun hA hx hby hr => XS.icmpNo hA hx rfl (hb hby hd) rfl (cp_f hc) hr) h
theorem IsGo.icmpS (H : IsGo l Z a0 K n0 b0 y bytes maxL ret R Q G) {cd : ClassFile.Cond} {t f : Nat} (hd : Bx bytes pc (.if_icmp cd) t f) {u v : Int32} (h1 : CP cd u v → G t ls st A k n) (h2 : CP (ng cd) u v → G f ls st A k n) : G pc ls (.int v :: .int u :: st) A k n :=
  (cp_or cd u v).elim (fun q => H.icmpT hd q (h1 q)) (fun q => H.icmpF hd q (h2 q))
theorem IsGo.ifT (H : IsGo l Z a0 K n0 b0 y bytes maxL ret R Q G) {cd : ClassFile.Cond} {t f : Nat} (hd : Bx bytes pc (.ifCond cd) t f) {u : Int32} (hc : CP cd u 0) (h : G t ls st A k n) : G pc ls (.int u :: st) A k n := by
  obtain ⟨o, hd, ho, hp, rfl⟩ := hd
  exact H.lift (fun hA hx hby hr => XS.ifYes hA hx rfl (pc0 := pc) (pc' := t) rfl (hb hby hd) rfl (by rw [if0]; exact cp_t hc) ho hp hr) h
theorem IsGo.ifF (H : IsGo l Z a0 K n0 b0 y bytes maxL ret R Q G) {cd : ClassFile.Cond} {t f : Nat} (hd : Bx bytes pc (.ifCond cd) t f) {u : Int32} (hc : CP (ng cd) u 0) (h : G f ls st A k n) : G pc ls (.int u :: st) A k n := by
  obtain ⟨o, hd, ho, hp, rfl⟩ := hd
  exact H.lift (fun hA hx hby hr => XS.ifNo hA hx rfl (hb hby hd) rfl (by rw [if0]; exact cp_f hc) hr) h
theorem IsGo.ifS (H : IsGo l Z a0 K n0 b0 y bytes maxL ret R Q G) {cd : ClassFile.Cond} {t f : Nat} (hd : Bx bytes pc (.ifCond cd) t f) {u : Int32} (h1 : CP cd u 0 → G t ls st A k n) (h2 : CP (ng cd) u 0 → G f ls st A k n) : G pc ls (.int u :: st) A k n :=
  (cp_or cd u 0).elim (fun q => H.ifT hd q (h1 q)) (fun q => H.ifF hd q (h2 q))
theorem cpl_cp {cd : ClassFile.Cond} {u v : Int64} (h : CPL cd u v) : CP cd (lcmpW u v) 0 := by
  cases cd <;> simp only [CPL] at h <;> simp only [CP]
  · exact (lw_eq u v).mpr h
  · exact fun q => h ((lw_eq u v).mp q)
  · exact (lw_lt u v).mpr h
  · exact fun q => h ((lw_lt u v).mp q)
  · exact (lw_gt u v).mpr h
  · exact fun q => h ((lw_gt u v).mp q)
theorem IsGo.lcmp (H : IsGo l Z a0 K n0 b0 y bytes maxL ret R Q G) (hd : Nx bytes pc .lcmp 1 pc') {u v : Int64} (h : G pc' ls (.int (lcmpW u v) :: st) A k n) : G pc ls (.long v :: .long u :: st) A k n := by
  obtain ⟨hd, rfl⟩ := hd
  exact H.lift (fun hA hx hby hr => XS.lcmp hA hx rfl (hb hby hd) rfl hr) h
theorem IsGo.lifT (H : IsGo l Z a0 K n0 b0 y bytes maxL ret R Q G) (hd0 : Nx bytes pc .lcmp 1 pc') {cd : ClassFile.Cond} {t f : Nat} (hd : Bx bytes pc' (.ifCond cd) t f) {u v : Int64} (hc : CPL cd u v) (h : G t ls st A k n) : G pc ls (.long v :: .long u :: st) A k n :=
  H.lcmp hd0 (H.ifT hd (cpl_cp hc) h)
theorem cpl_ng {cd : ClassFile.Cond} {u v : Int64} (h : CPL (ng cd) u v) : CP (ng cd) (lcmpW u v) 0 := cpl_cp h
theorem IsGo.lifF (H : IsGo l Z a0 K n0 b0 y bytes maxL ret R Q G) (hd0 : Nx bytes pc .lcmp 1 pc') {cd : ClassFile.Cond} {t f : Nat} (hd : Bx bytes pc' (.ifCond cd) t f) {u v : Int64} (hc : CPL (ng cd) u v) (h : G f ls st A k n) : G pc ls (.long v :: .long u :: st) A k n :=
  H.lcmp hd0 (H.ifF hd (cpl_ng hc) h)
theorem IsGo.lifS (H : IsGo l Z a0 K n0 b0 y bytes maxL ret R Q G) (hd0 : Nx bytes pc .lcmp 1 pc') {cd : ClassFile.Cond} {t f : Nat} (hd : Bx bytes pc' (.ifCond cd) t f) {u v : Int64} (h1 : CPL cd u v → G t ls st A k n) (h2 : CPL (ng cd) u v → G f ls st A k n) : G pc ls (.long v :: .long u :: st) A k n :=
  (cpl_or cd u v).elim (fun q => H.lifT hd0 hd q (h1 q)) (fun q => H.lifF hd0 hd q (h2 q))
theorem IsGo.ifnullT (H : IsGo l Z a0 K n0 b0 y bytes maxL ret R Q G) {t f : Nat} (hd : Bx bytes pc .ifnull t f) (h : G t ls st A k n) : G pc ls (.null :: st) A k n := by
  obtain ⟨o, hd, ho, hp, rfl⟩ := hd
  exact H.lift (fun hA hx hby hr => XS.ifnullYes hA hx rfl (pc0 := pc) (pc' := t) rfl (hb hby hd) rfl ho hp hr) h
theorem IsGo.ifnullF (H : IsGo l Z a0 K n0 b0 y bytes maxL ret R Q G) {t f : Nat} (hd : Bx bytes pc .ifnull t f) {b : Addr} (h : G f ls st A k n) : G pc ls (.ref b :: st) A k n := by
  obtain ⟨o, hd, ho, hp, rfl⟩ := hd
  exact H.lift (fun hA hx hby hr => XS.ifnullNo hA hx rfl (hb hby hd) rfl hr) h
theorem IsGo.ifnonnullT (H : IsGo l Z a0 K n0 b0 y bytes maxL ret R Q G) {t f : Nat} (hd : Bx bytes pc .ifnonnull t f) {b : Addr} (h : G t ls st A k n) : G pc ls (.ref b :: st) A k n := by
  obtain ⟨o, hd, ho, hp, rfl⟩ := hd
  exact H.lift (fun hA hx hby hr => XS.ifnonnullYes hA hx rfl (pc0 := pc) (pc' := t) rfl (hb hby hd) rfl ho hp hr) h
theorem IsGo.ifnonnullF (H : IsGo l Z a0 K n0 b0 y bytes maxL ret R Q G) {t f : Nat} (hd : Bx bytes pc .ifnonnull t f) (h : G f ls st A k n) : G pc ls (.null :: st) A k n := by
  obtain ⟨o, hd, ho, hp, rfl⟩ := hd
  exact H.lift (fun hA hx hby hr => XS.ifnonnullNo hA hx rfl (hb hby hd) rfl hr) h
theorem IsGo.acmp (H : IsGo l Z a0 K n0 b0 y bytes maxL ret R Q G) {cd : ClassFile.ACond} {t f : Nat} (hd : Bx bytes pc (.if_acmp cd) t f) {u v : Value} (h1 : u.isRef = true) (h2 : v.isRef = true) {same : Bool} (hq : decide (u = v) = same) (h : G (if acV cd same = true then t else f) ls st A k n) : G pc ls (v :: u :: st) A k n := by
  obtain ⟨o, hd, ho, hp, rfl⟩ := hd
  obtain ⟨p, e, s, m, args, below, meth, c, hx, hby, hml, hown, hnm, hret, hlk, hZ, hK, hb0, rfl⟩ := H
  intro T locs X hR hF
  obtain ⟨s₂, oo, q1, q2⟩ := h T locs X hR hF
  exact ⟨s₂, oo, RoadKit.acmp X hx (g := mkF m pc ls (v :: u :: st)) rfl h1 h2 (pc0 := pc) rfl (hb hby hd) rfl hq ho (by rw [hp]) q1, q2⟩
/-! ### the heap -/
def FL (Z : State) (a0 : Array Value) (K : KTab) (own : String) (idx k j : Nat) : Prop := ∃ C fs O nm d host, K[k]? = some (C, fs) ∧ fs[j]? = some (O, nm, d) ∧ ((Jvm.Cond.fieldLink own idx O nm d).before a0 Z = true ∨ (Jvm.Cond.fieldLinkNest own idx O nm d host).before a0 Z = true)
def PL (Z : State) (a0 : Array Value) (K : KTab) (own mname : String) (idx k j : Nat) (ty : FieldType) : Prop := ∃ C fs O nm d host, K[k]? = some (C, fs) ∧ fs[j]? = some (O, nm, d) ∧ ((Jvm.Cond.fieldLink own idx O nm d).before a0 Z = true ∨ (Jvm.Cond.fieldLinkNest own idx O nm d host).before a0 Z = true) ∧
  ((Jvm.Cond.lays C O nm d).before a0 Z = true ∨ ((Jvm.Cond.laysFinal C O nm d).before a0 Z = true ∧ own = O ∧ mname = "<init>")) ∧ parseFieldDescriptor d = some ty
theorem IsGo.getfield (H : IsGo l Z a0 K n0 b0 y bytes maxL ret R Q G) {idx kk j i : Nat} (hd : Nx bytes pc (.getfield idx) 3 pc') (L : FL Z a0 K y.cls idx kk j) {vs : List Value} {v : Value} (hA : A[i]? = some (.inl (kk, vs))) (hv : vs[j]? = some v) (h : G pc' ls (v :: st) A k n) : G pc ls (.ref (n0 + i) :: st) A k n := by
  obtain ⟨hd, rfl⟩ := hd
  obtain ⟨p, e, s, m, args, below, meth, c, hx, hby, hml, hown, hnm, hret, hlk, hZ, hK, hb0, rfl⟩ := H
  obtain ⟨C, fs, O, nm, d, host, hk, hj, w⟩ := L
  intro T locs X hR hF
  obtain ⟨C', fs', hk', hE, hlen, hf⟩ := hR.2 i _ hA
  cases hk.symm.trans hk'
  obtain ⟨T', X', eT, sp⟩ := getF X hx hZ hown w Via.refl rfl (hf j _ v hj hv) (g := mkF m pc ls (.ref (n0 + i) :: st)) rfl rfl (hb hby hd)
  obtain ⟨s₂, o, h1, h2⟩ := h T' locs X' (by rw [eT]; exact hR) hF
  exact ⟨s₂, o, sp _ h1, h2⟩
theorem IsGo.putfield (H : IsGo l Z a0 K n0 b0 y bytes maxL ret R Q G) {idx kk j i : Nat} {ty : FieldType} (hd : Nx bytes pc (.putfield idx) 3 pc') (L : PL Z a0 K y.cls y.name idx kk j ty) {vs : List Value} {v : Value} (hA : A[i]? = some (.inl (kk, vs))) (hn : narrow ty v = v) (hf : fits ty v = true) (hA' : A.set i (.inl (kk, vs.set j v)) = A') (h : G pc' ls st A' k n) : G pc ls (v :: .ref (n0 + i) :: st) A k n := by
  obtain ⟨hd, rfl⟩ := hd
  obtain ⟨p, e, s, m, args, below, meth, c, hx, hby, hml, hown, hnm, hret, hlk, hZ, hK, hb0, rfl⟩ := H
  obtain ⟨C, fs, O, nm, d, host, hk, hj, w, wl, hty⟩ := L
  subst hA'
  intro T locs X hR hF
  have hO := hR.2 i _ hA
  obtain ⟨C', fs', hk', hE, hlen, hfl⟩ := hR.2 i _ hA
  cases hk.symm.trans hk'
  obtain ⟨⟨ki, wi⟩, -, -⟩ := hK kk C fs hk
  have hlt : j < vs.length := by rw [hlen]; exact (List.getElem?_eq_some_iff.mp hj).1
  obtain ⟨T', h', X', eT, W, sp⟩ := putF X hx hZ hown w Via.refl rfl (hfl j _ vs[j] hj (List.getElem?_eq_getElem hlt)) hE (by rw [hnm]; exact wl) wi hty hn hf (g := mkF m pc ls (v :: .ref (n0 + i) :: st)) rfl rfl (hb hby hd)
  obtain ⟨s₂, o, h1, h2⟩ := h T' _ X' (by rw [eT]; exact hR.set W (hO.setF hK hk hj W)) (Fr.snoc X' hF (Nat.le_add_right _ _))
  exact ⟨s₂, o, sp _ h1, h2⟩
def NL (Z : State) (a0 : Array Value) (K : KTab) (own : String) (idx kk sz : Nat) (dv : List Value) : Prop := ∃ C fs, K[kk]? = some (C, fs) ∧ (Jvm.Cond.classLink own idx C).before a0 Z = true ∧ (Jvm.Cond.instantiable C sz).before a0 Z = true ∧ (Jvm.Cond.initialized C).before a0 Z = true ∧ fs.map (fun f => (parseFieldDescriptor f.2.2).map defaultValue) = dv.map some
theorem size_up {p : Program} {e : Env} {s T' : State} {m : MethodId} {args : Array Value} {below : List Frame} {meth : Method} {c : Code} {locs : List Loc} {h : Heap} (X : Stand p l e R s m args below meth c T' locs (k + 1) n) (hb : s.heap.size = n0 + b0) (hh : h.size = n0 + A.length) (hk : A.length = b0 + k) (hlt : h.size < T'.heap.size) : T'.heap.size = n0 + (A.length + 1) := by
  have := X.heapSize
  omega
theorem IsGo.new (H : IsGo l Z a0 K n0 b0 y bytes maxL ret R Q G) {idx kk sz i : Nat} {dv : List Value} (hd : Nx bytes pc (.new idx) 3 pc') (L : NL Z a0 K y.cls idx kk sz dv) (hk : A.length = b0 + k) (hc : k + 1 ≤ R.cells) (hs : n + sz ≤ R.slots) (hi : A.length = i) (hA' : A ++ [.inl (kk, dv)] = A') (hk' : k + 1 = k') (hn' : n + sz = n') (h : G pc' ls (.ref (n0 + i) :: st) A' k' n') : G pc ls st A k n := by
  obtain ⟨hd, rfl⟩ := hd
  obtain ⟨p, e, s, m, args, below, meth, c, hx, hby, hml, hown, hnm, hret, hlk, hZ, hK, hb0, rfl⟩ := H
  obtain ⟨C, fs, hkk, w1, w2, w3, hdv⟩ := L
  subst hA' hk' hn' hi
  intro T locs X hR hF
  obtain ⟨T', h', X', eT, E, EA, D, -, sp⟩ := newO X hx hZ hown w1 w2 w3 rfl (g := mkF m pc ls st) rfl (hb hby hd) hc hs
  have hsz : h'.size = n0 + (A.length + 1) := by rw [← eT]; exact size_up X' hb0 hR.1 hk (by rw [eT]; exact EA.lt)
  rw [hR.1] at EA D
  have hlen : dv.length = fs.length := by simpa using (congrArg List.length hdv).symm
  obtain ⟨-, kl, -⟩ := hK kk C fs hkk
  have hN : ObAt Z K h' (n0 + A.length) (.inl (kk, dv)) := ⟨C, fs, hkk, EA, hlen, fun j f v q r => by
    obtain ⟨L1, t, ht⟩ := kl j f q
    have e1 : (fs.map (fun f => (parseFieldDescriptor f.2.2).map defaultValue))[j]? = some (some (defaultValue t)) := by simp [List.getElem?_map, q, ht]
    rw [hdv, List.getElem?_map, r] at e1
    simp only [Option.map_some, Option.some.injEq] at e1
    rw [e1]; exact D L1 ht⟩
  obtain ⟨s₂, o, h1, h2⟩ := h T' locs X' (by rw [eT]; exact hR.push E hsz hN) hF
  rw [← hR.1] at h1
  exact ⟨s₂, o, sp _ h1, h2⟩
def AL (Z : State) (a0 : Array Value) (t : FieldType) : Prop := (Jvm.Cond.arrayClass t).before a0 Z = true
theorem tn_of {z : Int32} {N : Nat} (h : z.toInt = (N : Int)) : ¬ z < 0 ∧ z.toNatClampNeg = N := by
  constructor
  · intro q
    have := Int32.lt_iff_toInt_lt.mp q
    simp at this; omega
  · simp [Int32.toNatClampNeg, h]
theorem IsGo.newarray (H : IsGo l Z a0 K n0 b0 y bytes maxL ret R Q G) {aty : ArrayType} {i N cap : Nat} {z : Int32} {vs : List Value} {ty : FieldType} (hd : Nx bytes pc (.newarray aty) 2 pc') (hty : newarray.typeOf aty = ty) (w : AL Z a0 ty) (hz : z.toInt = (N : Int)) (hvs : List.replicate N (defaultValue ty) = vs) (hcap : N ≤ cap) (hbig : cap * 8 ≤ 536870912) (hk : A.length = b0 + k) (hc : k + 1 ≤ R.cells) (hs : n + cap ≤ R.slots) (hi : A.length = i) (hA' : A ++ [.inr (ty, vs)] = A') (hk' : k + 1 = k') (hn' : n + cap = n') (h : G pc' ls (.ref (n0 + i) :: st) A' k' n') : G pc ls (.int z :: st) A k n := by
  obtain ⟨hd, rfl⟩ := hd
  obtain ⟨p, e, s, m, args, below, meth, c, hx, hby, hml, hown, hnm, hret, hlk, hZ, hK, hb0, rfl⟩ := H
  subst hA' hk' hn' hi hty
  obtain ⟨z1, z2⟩ := tn_of hz
  intro T locs X hR hF
  obtain ⟨T', h', cA, X', eT, E, Ar, EA, sp⟩ := newPE X hx hZ w rfl (g := mkF m pc ls (.int z :: st)) rfl (hb hby hd) rfl z1 (by rw [z2]; exact hcap) hbig hc hs rfl
  have hsz : h'.size = n0 + (A.length + 1) := by rw [← eT]; exact size_up X' hb0 hR.1 hk (by rw [eT]; exact EA.lt)
  rw [hR.1] at EA Ar
  have hN : ObAt Z K h' (n0 + A.length) (.inr (newarray.typeOf aty, vs)) := ⟨⟨EA, fun w hw => by rw [← hvs] at hw; rw [(List.mem_replicate.mp hw).2]; cases aty <;> rfl⟩, _, Ar, by simp [newA, z2, ← hvs], fun C q => by cases aty <;> simp [newarray.typeOf] at q⟩
  obtain ⟨s₂, o, h1, h2⟩ := h T' locs X' (by rw [eT]; exact hR.push E hsz hN) hF
  rw [← hR.1] at h1
  exact ⟨s₂, o, sp _ h1, h2⟩
theorem IsGo.anewarray (H : IsGo l Z a0 K n0 b0 y bytes maxL ret R Q G) {idx i N cap : Nat} {z : Int32} {vs : List Value} {C : String} (hd : Nx bytes pc (.anewarray idx) 3 pc') (w1 : (Jvm.Cond.classLink y.cls idx C).before a0 Z = true) (w2 : (Jvm.Cond.arrayOver (.object C)).before a0 Z = true) (hz : z.toInt = (N : Int)) (hvs : List.replicate N Value.null = vs) (hcap : N ≤ cap) (hbig : cap * 8 ≤ 536870912) (hk : A.length = b0 + k) (hc : k + 1 ≤ R.cells) (hs : n + cap ≤ R.slots) (hi : A.length = i) (hA' : A ++ [.inr (.object C, vs)] = A') (hk' : k + 1 = k') (hn' : n + cap = n') (h : G pc' ls (.ref (n0 + i) :: st) A' k' n') : G pc ls (.int z :: st) A k n := by
  obtain ⟨hd, rfl⟩ := hd
  obtain ⟨p, e, s, m, args, below, meth, c, hx, hby, hml, hown, hnm, hret, hlk, hZ, hK, hb0, rfl⟩ := H
  subst hA' hk' hn' hi
  obtain ⟨z1, z2⟩ := tn_of hz
  intro T locs X hR hF
  obtain ⟨T', h', cA, X', eT, E, Ar, EA, Ov, sp⟩ := newRE X hx hZ hown w1 w2 rfl (g := mkF m pc ls (.int z :: st)) rfl (hb hby hd) rfl z1 (by rw [z2]; exact hcap) hbig hc hs rfl
  have hsz : h'.size = n0 + (A.length + 1) := by rw [← eT]; exact size_up X' hb0 hR.1 hk (by rw [eT]; exact EA.lt)
  rw [hR.1] at EA Ar
  have hN : ObAt Z K h' (n0 + A.length) (.inr (.object C, vs)) := ⟨⟨EA, fun w hw => by rw [← hvs] at hw; rw [(List.mem_replicate.mp hw).2]; rfl⟩, _, Ar, by simp [newA, z2, ← hvs, defaultValue], fun C' q => by cases q; exact Ov⟩
  obtain ⟨s₂, o, h1, h2⟩ := h T' locs X' (by rw [eT]; exact hR.push E hsz hN) hF
  rw [← hR.1] at h1
  exact ⟨s₂, o, sp _ h1, h2⟩
theorem arr_in {c : Cell} {vs : List Value} {z : Int32} {j : Nat} (hz : z.toInt = (j : Int)) (hs : c.slots = vs.toArray) (hj : j < vs.length) : ¬ (z < 0 ∨ c.slots.size ≤ z.toNatClampNeg) := by
  obtain ⟨z1, z2⟩ := tn_of hz
  rw [z2, hs]; simp [z1]; omega
theorem IsGo.arraylength (H : IsGo l Z a0 K n0 b0 y bytes maxL ret R Q G) (hd : Nx bytes pc .arraylength 1 pc') {i : Nat} {ty : FieldType} {vs : List Value} {z : Int32} (hA : A[i]? = some (.inr (ty, vs))) (hz : vs.length.toInt32 = z) (h : G pc' ls (.int z :: st) A k n) : G pc ls (.ref (n0 + i) :: st) A k n := by
  obtain ⟨hd, rfl⟩ := hd
  obtain ⟨p, e, s, m, args, below, meth, c, hx, hby, hml, hown, hnm, hret, hlk, hZ, hK, hb0, rfl⟩ := H
  subst hz
  intro T locs X hR hF
  obtain ⟨EA, cl, Ar, hcs, -⟩ := hR.2 i _ hA
  obtain ⟨s₂, o, h1, h2⟩ := h T locs X hR hF
  have q : vs.length = cl.slots.size := by rw [hcs]; simp
  rw [q] at h1
  exact ⟨s₂, o, X.arraylength hx Ar.1 (State.isArrayOf_alike hZ.alike Ar.2.1) (g := mkF m pc ls (.ref (n0 + i) :: st)) rfl rfl (hb hby hd) _ h1, h2⟩
theorem IsGo.iaload (H : IsGo l Z a0 K n0 b0 y bytes maxL ret R Q G) (hd : Nx bytes pc .iaload 1 pc') {i j : Nat} {vs : List Value} {z : Int32} {v : Value} (hA : A[i]? = some (.inr (.int, vs))) (hz : z.toInt = (j : Int)) (hv : vs[j]? = some v) (h : G pc' ls (v :: st) A k n) : G pc ls (.int z :: .ref (n0 + i) :: st) A k n := by
  obtain ⟨hd, rfl⟩ := hd
  obtain ⟨p, e, s, m, args, below, meth, c, hx, hby, hml, hown, hnm, hret, hlk, hZ, hK, hb0, rfl⟩ := H
  intro T locs X hR hF
  obtain ⟨EA, cl, Ar, hcs, -⟩ := hR.2 i _ hA
  obtain ⟨s₂, o, h1, h2⟩ := h T locs X hR hF
  exact ⟨s₂, o, X.iaload hx Ar.1 (State.isArrayOf_alike hZ.alike Ar.2.1) Ar.2.2 (arr_in hz hcs (List.getElem?_eq_some_iff.mp hv).1) (v := v) (by rw [(tn_of hz).2, hcs]; simpa using hv) (g := mkF m pc ls (.int z :: .ref (n0 + i) :: st)) rfl rfl (hb hby hd) _ h1, h2⟩
theorem IsGo.laload (H : IsGo l Z a0 K n0 b0 y bytes maxL ret R Q G) (hd : Nx bytes pc .laload 1 pc') {i j : Nat} {vs : List Value} {z : Int32} {v : Value} (hA : A[i]? = some (.inr (.long, vs))) (hz : z.toInt = (j : Int)) (hv : vs[j]? = some v) (h : G pc' ls (v :: st) A k n) : G pc ls (.int z :: .ref (n0 + i) :: st) A k n := by
  obtain ⟨hd, rfl⟩ := hd
  obtain ⟨p, e, s, m, args, below, meth, c, hx, hby, hml, hown, hnm, hret, hlk, hZ, hK, hb0, rfl⟩ := H
  intro T locs X hR hF
  obtain ⟨EA, cl, Ar, hcs, -⟩ := hR.2 i _ hA
  obtain ⟨s₂, o, h1, h2⟩ := h T locs X hR hF
  exact ⟨s₂, o, X.laload hx Ar.1 (State.isArrayOf_alike hZ.alike Ar.2.1) Ar.2.2 (arr_in hz hcs (List.getElem?_eq_some_iff.mp hv).1) (v := v) (by rw [(tn_of hz).2, hcs]; simpa using hv) (g := mkF m pc ls (.int z :: .ref (n0 + i) :: st)) rfl rfl (hb hby hd) _ h1, h2⟩
theorem IsGo.aaload (H : IsGo l Z a0 K n0 b0 y bytes maxL ret R Q G) (hd : Nx bytes pc .aaload 1 pc') {i j : Nat} {C : String} {vs : List Value} {z : Int32} {v : Value} (hA : A[i]? = some (.inr (.object C, vs))) (hz : z.toInt = (j : Int)) (hv : vs[j]? = some v) (h : G pc' ls (v :: st) A k n) : G pc ls (.int z :: .ref (n0 + i) :: st) A k n := by
  obtain ⟨hd, rfl⟩ := hd
  obtain ⟨p, e, s, m, args, below, meth, c, hx, hby, hml, hown, hnm, hret, hlk, hZ, hK, hb0, rfl⟩ := H
  intro T locs X hR hF
  obtain ⟨EA, cl, Ar, hcs, -⟩ := hR.2 i _ hA
  obtain ⟨s₂, o, h1, h2⟩ := h T locs X hR hF
  exact ⟨s₂, o, X.aaload hx Ar.1 (State.isArrayOf_alike hZ.alike Ar.2.1) rfl Ar.2.2 (arr_in hz hcs (List.getElem?_eq_some_iff.mp hv).1) (v := v) (by rw [(tn_of hz).2, hcs]; simpa using hv) (g := mkF m pc ls (.int z :: .ref (n0 + i) :: st)) rfl rfl (hb hby hd) _ h1, h2⟩
theorem IsGo.iastore (H : IsGo l Z a0 K n0 b0 y bytes maxL ret R Q G) (hd : Nx bytes pc .iastore 1 pc') {i j : Nat} {vs : List Value} {z v : Int32} (hA : A[i]? = some (.inr (.int, vs))) (hz : z.toInt = (j : Int)) (hj : j < vs.length) (hA' : A.set i (.inr (.int, vs.set j (.int v))) = A') (h : G pc' ls st A' k n) : G pc ls (.int v :: .int z :: .ref (n0 + i) :: st) A k n := by
  obtain ⟨hd, rfl⟩ := hd
  obtain ⟨p, e, s, m, args, below, meth, c, hx, hby, hml, hown, hnm, hret, hlk, hZ, hK, hb0, rfl⟩ := H
  subst hA'
  intro T locs X hR hF
  have hO := hR.2 i _ hA
  obtain ⟨EA, cl, Ar, hcs, -⟩ := hR.2 i _ hA
  obtain ⟨T', h', X', eT, W, sp⟩ := stI X hx hZ rfl Ar (arr_in hz hcs hj) (g := mkF m pc ls (.int v :: .int z :: .ref (n0 + i) :: st)) rfl rfl (hb hby hd)
  rw [(tn_of hz).2] at W
  obtain ⟨s₂, o, h1, h2⟩ := h T' _ X' (by rw [eT]; exact hR.set W (hO.setA W rfl)) (Fr.snoc X' hF (Nat.le_add_right _ _))
  exact ⟨s₂, o, sp _ h1, h2⟩
theorem IsGo.lastore (H : IsGo l Z a0 K n0 b0 y bytes maxL ret R Q G) (hd : Nx bytes pc .lastore 1 pc') {i j : Nat} {vs : List Value} {z : Int32} {v : Int64} (hA : A[i]? = some (.inr (.long, vs))) (hz : z.toInt = (j : Int)) (hj : j < vs.length) (hA' : A.set i (.inr (.long, vs.set j (.long v))) = A') (h : G pc' ls st A' k n) : G pc ls (.long v :: .int z :: .ref (n0 + i) :: st) A k n := by
  obtain ⟨hd, rfl⟩ := hd
  obtain ⟨p, e, s, m, args, below, meth, c, hx, hby, hml, hown, hnm, hret, hlk, hZ, hK, hb0, rfl⟩ := H
  subst hA'
  intro T locs X hR hF
  have hO := hR.2 i _ hA
  obtain ⟨EA, cl, Ar, hcs, -⟩ := hR.2 i _ hA
  obtain ⟨T', h', X', eT, W, sp⟩ := stJ X hx hZ rfl Ar (arr_in hz hcs hj) (g := mkF m pc ls (.long v :: .int z :: .ref (n0 + i) :: st)) rfl rfl (hb hby hd)
  rw [(tn_of hz).2] at W
  obtain ⟨s₂, o, h1, h2⟩ := h T' _ X' (by rw [eT]; exact hR.set W (hO.setA W rfl)) (Fr.snoc X' hF (Nat.le_add_right _ _))
  exact ⟨s₂, o, sp _ h1, h2⟩
theorem IsGo.bastore (H : IsGo l Z a0 K n0 b0 y bytes maxL ret R Q G) (hd : Nx bytes pc .bastore 1 pc') {i j : Nat} {vs : List Value} {z v w : Int32} (hA : A[i]? = some (.inr (.byte, vs))) (hz : z.toInt = (j : Int)) (hj : j < vs.length) (hw : nar .byte v = w) (hA' : A.set i (.inr (.byte, vs.set j (.int w))) = A') (h : G pc' ls st A' k n) : G pc ls (.int v :: .int z :: .ref (n0 + i) :: st) A k n := by
  obtain ⟨hd, rfl⟩ := hd
  obtain ⟨p, e, s, m, args, below, meth, c, hx, hby, hml, hown, hnm, hret, hlk, hZ, hK, hb0, rfl⟩ := H
  subst hA' hw
  intro T locs X hR hF
  have hO := hR.2 i _ hA
  obtain ⟨EA, cl, Ar, hcs, -⟩ := hR.2 i _ hA
  obtain ⟨T', h', X', eT, W, sp⟩ := stB X hx hZ rfl Ar (arr_in hz hcs hj) (g := mkF m pc ls (.int v :: .int z :: .ref (n0 + i) :: st)) rfl rfl (hb hby hd)
  rw [(tn_of hz).2] at W
  obtain ⟨s₂, o, h1, h2⟩ := h T' _ X' (by rw [eT]; exact hR.set W (hO.setA W (fits_nar_byte v))) (Fr.snoc X' hF (Nat.le_add_right _ _))
  exact ⟨s₂, o, sp _ h1, h2⟩
/-- the value can stand in an array of that class -/
def StoO (K : KTab) (C : String) (n0 : Nat) (A : List Ob) (v : Value) : Prop := v = .null ∨ ∃ i kk vs fs, v = .ref (n0 + i) ∧ A[i]? = some (.inl (kk, vs)) ∧ K[kk]? = some (C, fs)
theorem IsGo.aastore (H : IsGo l Z a0 K n0 b0 y bytes maxL ret R Q G) (hd : Nx bytes pc .aastore 1 pc') {i j : Nat} {C : String} {vs : List Value} {z : Int32} {v : Value} (hA : A[i]? = some (.inr (.object C, vs))) (hz : z.toInt = (j : Int)) (hj : j < vs.length) (hv : StoO K C n0 A v) (hA' : A.set i (.inr (.object C, vs.set j v)) = A') (h : G pc' ls st A' k n) : G pc ls (v :: .int z :: .ref (n0 + i) :: st) A k n := by
  obtain ⟨hd, rfl⟩ := hd
  obtain ⟨p, e, s, m, args, below, meth, c, hx, hby, hml, hown, hnm, hret, hlk, hZ, hK, hb0, rfl⟩ := H
  subst hA'
  intro T locs X hR hF
  have hO := hR.2 i _ hA
  obtain ⟨EA, cl, Ar, hcs, hov⟩ := hR.2 i _ hA
  have S : Sto Z T.heap (n0 + i) v := by
    rcases hv with rfl | ⟨i2, kk, vs2, fs, rfl, q1, q2⟩
    · exact Or.inl rfl
    · exact Sto.of Ar (hov C rfl) (Ins.self ((hR.2 i2 _ q1).exa q2))
  obtain ⟨T', h', X', eT, W, sp⟩ := stR X hx hZ rfl Ar (arr_in hz hcs hj) rfl S (g := mkF m pc ls (v :: .int z :: .ref (n0 + i) :: st)) rfl rfl (hb hby hd)
  rw [(tn_of hz).2] at W
  obtain ⟨s₂, o, h1, h2⟩ := h T' _ X' (by rw [eT]; exact hR.set W (hO.setA W (by rcases hv with rfl | ⟨i2, kk, vs2, fs, rfl, -⟩ <;> rfl))) (Fr.snoc X' hF (Nat.le_add_right _ _))
  exact ⟨s₂, o, sp _ h1, h2⟩
/-! ### arraycopy, clone, checkcast -/
def XL (Z : State) (a0 : Array Value) (own : String) (idx : Nat) : Prop := (Jvm.Cond.methodLink own idx Jvm.Stand.acN).before a0 Z = true ∧ (Jvm.Cond.native Jvm.Stand.acN).before a0 Z = true ∧ (Jvm.Cond.static Jvm.Stand.acN).before a0 Z = true ∧ (Jvm.Cond.initialized "java/lang/System").before a0 Z = true
theorem arv_of {h : Heap} {a : Addr} {ty : FieldType} {vs : List Value} (hl : vs.length < 2147483648) (F : ObAt Z K h a (.inr (ty, vs))) : ∃ kc : ClassId, Arv Z h a kc ty vs.length.toInt32 vs .null ∧ ∀ C, ty = .object C → Ovr Z kc C := by
  obtain ⟨⟨h1, hf⟩, c, h2, h3, h4⟩ := F
  have e := len_toInt (n := vs.length) (by omega)
  obtain ⟨z1, z2⟩ := tn_of e
  refine ⟨c.cls, ⟨c, h2, rfl, by rw [z2, h3]; simp, z1, fun k hk => ?_, fun i hi => ?_⟩, h4⟩
  · rw [h3] at hk ⊢
    have hk' : k < vs.length := by simpa using hk
    simp [List.getD, hk']
  · rw [h3] at hi
    have hi' : i < vs.length := by simpa using hi
    have : vs.getD i .null = vs[i] := by simp [List.getD, hi']
    rw [this]; exact hf _ (List.getElem_mem hi')
theorem slots_of {c : Cell} {vs : List Value} {d : Value} (hs : c.slots.size = vs.length) (hh : ∀ k, k < c.slots.size → c.slots[k]? = some (vs.getD k d)) : c.slots = vs.toArray := by
  apply Array.ext
  · simpa using hs
  · intro i h1 h2
    have q := hh i h1
    have h3 : i < vs.length := by simpa using h2
    rw [Array.getElem?_eq_getElem h1] at q
    have e : vs.getD i d = vs[i] := by simp [List.getD, h3]
    rw [e] at q
    simpa using q
theorem IsGo.arraycopy (H : IsGo l Z a0 K n0 b0 y bytes maxL ret R Q G) {idx : Nat} (hd : Nx bytes pc (.invokestatic idx) 3 pc') (L : XL Z a0 y.cls idx) {i j : Nat} {ty : FieldType} {vs vd us : List Value} {sp dp nn : Int32} {p q r : Nat} (hA : A[i]? = some (.inr (ty, vs))) (hB : A[j]? = some (.inr (ty, vd))) (hty : refKind ty = false) (h1 : sp.toInt = (p : Int)) (h2 : dp.toInt = (q : Int)) (h3 : nn.toInt = (r : Int)) (h4 : p + r ≤ vs.length) (h5 : q + r ≤ vd.length) (l1 : vs.length < 2147483648) (l2 : vd.length < 2147483648)
    (hus : (List.range r).map (fun i => vs.getD (p + i) .null) = us) (hls : ls.size = maxL) (hf : 1 ≤ R.frames) (hl : (st.map fun v => v.category).sum + (nativeFrameWords "java/lang/System" "arraycopy" 5 + 11) ≤ R.locals) (hk : A.length = b0 + k) (hA' : A.set j (.inr (ty, vd.take q ++ us ++ vd.drop (q + r))) = A') (h : G pc' ls st A' k n) : G pc ls (.int nn :: .int dp :: .ref (n0 + j) :: .int sp :: .ref (n0 + i) :: st) A k n := by
  obtain ⟨hd, rfl⟩ := hd
  obtain ⟨pp, e, s, m, args, below, meth, c, hx, hby, hml, hown, hnm, hret, hlk, hZ, hK, hb0, rfl⟩ := H
  obtain ⟨w1, w2, w3, w4⟩ := L
  subst hA'
  intro T locs X hR hF
  obtain ⟨k1, V1, -⟩ := arv_of l1 (hR.2 i _ hA)
  obtain ⟨k2, V2, O2⟩ := arv_of l2 (hR.2 j _ hB)
  obtain ⟨⟨EB, fB⟩, -⟩ := hR.2 j _ hB
  obtain ⟨⟨-, fA⟩, -⟩ := hR.2 i _ hA
  obtain ⟨s1, s2⟩ := tn_of h1
  obtain ⟨t1, t2⟩ := tn_of h2
  obtain ⟨u1, u2⟩ := tn_of h3
  have n1 := (tn_of (len_toInt (n := vs.length) (by omega))).2
  have n2 := (tn_of (len_toInt (n := vd.length) (by omega))).2
  obtain ⟨T', h', L', X', eT, F', Kp, V', sp'⟩ := cpA X hx hZ hown w1 w2 w3 w4 rfl V1 V2 (us := us) (Or.inl ⟨rfl, hty⟩) s1 t1 u1 (by rw [s2, u2, n1]; exact h4) (by rw [t2, u2, n2]; exact h5) (by rw [s2, u2]; exact hus.symm) (by rw [t2, u2]; exact h5) (n0 := n0) hF (Nat.le_add_right _ _) (g := mkF m pc ls (.int nn :: .int dp :: .ref (n0 + j) :: .int sp :: .ref (n0 + i) :: st)) rfl (by rw [hml]; exact hls) rfl (hb hby hd) hf (W := (st.map fun v => v.category).sum) (by show 2 * 0 + _ ≤ _; omega) hl
  have hsz : h'.size = T.heap.size := by
    have q1 := X'.heapSize
    have q2 := Kp.1
    have q3 := hR.1
    rw [eT] at q1
    omega
  rw [t2, u2] at V'
  have hlen : (vd.take q ++ us ++ vd.drop (q + r)).length = vd.length := by
    have : us.length = r := by rw [← hus]; simp
    simp [this]; omega
  have hO : ObAt Z K h' (n0 + j) (.inr (ty, vd.take q ++ us ++ vd.drop (q + r))) := by
    obtain ⟨cc, a1, a2, a3, a4, a5, a6⟩ := V'
    have e1 : cc.slots.size = (vd.take q ++ us ++ vd.drop (q + r)).length := by rw [hlen, a3, n2]
    refine ⟨⟨EB.keep Kp, fun w hw => ?_⟩, cc, a1, slots_of e1 a5, fun C q => by rw [a2]; exact O2 C q⟩
    obtain ⟨z, hz, rfl⟩ := List.mem_iff_getElem.mp hw
    have := a6 z (by rw [e1]; exact hz)
    rwa [show (vd.take q ++ us ++ vd.drop (q + r)).getD z .null = (vd.take q ++ us ++ vd.drop (q + r))[z] from by simp only [List.getD, List.getElem?_eq_getElem hz, Option.getD_some]] at this
  obtain ⟨s₂, o, g1, g2⟩ := h T' _ X' (by rw [eT]; exact hR.keep Kp hsz hO) F'
  exact ⟨s₂, o, sp' _ g1, g2⟩
def KL (Z : State) (a0 : Array Value) (own : String) (idx : Nat) (ad : String) : Prop := (Jvm.Cond.methodLink own idx ⟨ad, "clone", "()Ljava/lang/Object;"⟩).before a0 Z = true ∧ (Jvm.Cond.sameMethod ad "java/lang/Object" "clone" "()Ljava/lang/Object;").before a0 Z = true ∧ (Jvm.Cond.native ⟨"java/lang/Object", "clone", "()Ljava/lang/Object;"⟩).before a0 Z = true ∧
  (Jvm.Cond.instanceMethod ⟨"java/lang/Object", "clone", "()Ljava/lang/Object;"⟩).before a0 Z = true ∧ (Jvm.Cond.selects ad ⟨ad, "clone", "()Ljava/lang/Object;"⟩ ⟨"java/lang/Object", "clone", "()Ljava/lang/Object;"⟩).before a0 Z = true ∧ (Jvm.Cond.castable ad "java/lang/Cloneable").before a0 Z = true
theorem IsGo.clone (H : IsGo l Z a0 K n0 b0 y bytes maxL ret R Q G) {idx : Nat} {ad : String} (hd : Nx bytes pc (.invokevirtual idx) 3 pc') (L : KL Z a0 y.cls idx ad) {i ii cap : Nat} {ty : FieldType} {vs : List Value} (hA : A[i]? = some (.inr (ty, vs))) (had : "[" ++ ty.toString = ad) (l1 : vs.length < 2147483648) (hcap : vs.length ≤ cap)
    (hls : ls.size = maxL) (hf : 1 ≤ R.frames) (hl : (st.map fun v => v.category).sum + 14 ≤ R.locals) (hk : A.length = b0 + k) (hc : k + 1 ≤ R.cells) (hs : n + cap ≤ R.slots) (hi : A.length = ii) (hA' : A ++ [.inr (ty, vs)] = A') (hk' : k + 1 = k') (hn' : n + cap = n') (h : G pc' ls (.ref (n0 + ii) :: st) A' k' n') : G pc ls (.ref (n0 + i) :: st) A k n := by
  obtain ⟨hd, rfl⟩ := hd
  obtain ⟨pp, e, s, m, args, below, meth, c, hx, hby, hml, hown, hnm, hret, hlk, hZ, hK, hb0, rfl⟩ := H
  obtain ⟨w1, w2, w3, w4, w5, w6⟩ := L
  subst hA' hk' hn' hi had
  intro T locs X hR hF
  obtain ⟨k1, V1, O1⟩ := arv_of l1 (hR.2 i _ hA)
  obtain ⟨⟨EB, fB⟩, -⟩ := hR.2 i _ hA
  have n1 := (tn_of (len_toInt (n := vs.length) (by omega))).2
  obtain ⟨T', h', X', eT, E, V', EA, sp⟩ := cloneH X hx hZ hown w1 w2 w3 w4 w5 w6 rfl V1.arh EB (g := mkF m pc ls (.ref (n0 + i) :: st)) rfl (by rw [hml]; exact hls) rfl (hb hby hd) hf (W := (st.map fun v => v.category).sum) (cap := cap) (by show 2 * 0 + _ ≤ _; omega) hl (by rw [n1]; exact hcap) hc hs
  have hsz : h'.size = n0 + (A.length + 1) := by rw [← eT]; exact size_up X' hb0 hR.1 hk (by rw [eT]; exact EA.lt)
  rw [hR.1] at EA V'
  have hN : ObAt Z K h' (n0 + A.length) (.inr (ty, vs)) := by
    obtain ⟨cc, a1, a2, a3, a4, a5, a6⟩ := V'
    refine ⟨⟨EA, fB⟩, cc, a1, slots_of (by rw [a3, n1]) a5, fun C q => by rw [a2]; exact O1 C q⟩
  obtain ⟨s₂, o, h1, h2⟩ := h T' locs X' (by rw [eT]; exact hR.push E hsz hN) hF
  rw [← hR.1] at h1
  exact ⟨s₂, o, sp _ h1, h2⟩
theorem IsGo.castA (H : IsGo l Z a0 K n0 b0 y bytes maxL ret R Q G) {idx : Nat} {ad : String} (hd : Nx bytes pc (.checkcast idx) 3 pc') (w : (Jvm.Cond.classLink y.cls idx ad).before a0 Z = true) {i : Nat} {ty : FieldType} {vs : List Value} (hA : A[i]? = some (.inr (ty, vs))) (had : "[" ++ ty.toString = ad) (h : G pc' ls (.ref (n0 + i) :: st) A k n) : G pc ls (.ref (n0 + i) :: st) A k n := by
  obtain ⟨hd, rfl⟩ := hd
  obtain ⟨pp, e, s, m, args, below, meth, c, hx, hby, hml, hown, hnm, hret, hlk, hZ, hK, hb0, rfl⟩ := H
  subst had
  intro T locs X hR hF
  obtain ⟨⟨EB, -⟩, -⟩ := hR.2 i _ hA
  obtain ⟨T', X', eT, sp⟩ := castY X hx hZ hown w rfl (Ins.self EB) (g := mkF m pc ls (.ref (n0 + i) :: st)) rfl rfl (hb hby hd)
  obtain ⟨s₂, o, h1, h2⟩ := h T' locs X' (by rw [eT]; exact hR) hF
  exact ⟨s₂, o, sp _ h1, h2⟩
/-! ### calls -/
def IL (Z : State) (a0 : Array Value) (own : String) (idx : Nat) : Prop := (Jvm.Cond.methodLink own idx Lib.objectInit).before a0 Z = true ∧ (Jvm.Cond.instanceMethod Lib.objectInit).before a0 Z = true ∧ (Jvm.Cond.code Lib.objectInit ⟨#[0xb1]⟩ 1 none).before a0 Z = true
theorem IsGo.initO (H : IsGo l Z a0 K n0 b0 y bytes maxL ret R Q G) {idx : Nat} (hd : Nx bytes pc (.invokespecial idx) 3 pc') (L : IL Z a0 y.cls idx) {a : Addr} (hls : ls.size = maxL) (hf : 1 ≤ R.frames) (hl : (st.map fun v => v.category).sum + 12 ≤ R.locals) (h : G pc' ls st A k n) : G pc ls (.ref a :: st) A k n := by
  obtain ⟨hd, rfl⟩ := hd
  obtain ⟨p, e, s, m, args, below, meth, c, hx, hby, hml, hown, hnm, hret, hlk, hZ, hK, hb0, rfl⟩ := H
  obtain ⟨w1, w2, w3⟩ := L
  intro T locs X hR hF
  obtain ⟨T', X', eT, sp⟩ := RoadKit.initO X hx hZ hown w1 w2 w3 rfl (g := mkF m pc ls (.ref a :: st)) rfl (by rw [hml]; exact hls) rfl (hb hby hd) hf (W := (st.map fun v => v.category).sum) (by show 2 * 0 + _ ≤ _; omega) hl
  obtain ⟨s₂, o, h1, h2⟩ := h T' locs X' (by rw [eT]; exact hR) hF
  exact ⟨s₂, o, sp _ h1, h2⟩
def SL (Z : State) (a0 : Array Value) (own : String) (idx : Nat) (z : MethodName) (zb : ByteArray) (zm : Nat) (zr : Option FieldType) (np : Nat) : Prop :=
  (Jvm.Cond.methodLink own idx z).before a0 Z = true ∧ (Jvm.Cond.static z).before a0 Z = true ∧ (Jvm.Cond.initialized z.cls).before a0 Z = true ∧ (Jvm.Cond.code z zb zm zr).before a0 Z = true ∧ (z.cls ≠ "java/lang/invoke/MethodHandle" ∧ z.cls ≠ "java/lang/invoke/VarHandle") ∧ ∀ sig, parseMethodDescriptor z.desc = some sig → np = sig.parameters.length
theorem IsGo.callS (H : IsGo l Z a0 K n0 b0 y bytes maxL ret R Q G) {idx : Nat} (hd : Nx bytes pc (.invokestatic idx) 3 pc') {z : MethodName} {zb : ByteArray} {zm : Nat} {zr : Option FieldType} {np : Nat} (L : SL Z a0 y.cls idx z zb zm zr np) {rm : Room} {as : Array Value} {QQ : Option Value → List Ob → Prop} (M : Met l Z K n0 z zb zm zr rm as A QQ)
    {argsL rest : List Value} (ha : argsL.toArray = as) (hnp : argsL.length = np) (hst : st = argsL.reverse ++ rest) (hls : ls.size = maxL) (hf : rm.frames + 1 ≤ R.frames) (hl : (rest.map fun v => v.category).sum + (zm + 11) + rm.locals ≤ R.locals) (hc : k + rm.cells ≤ R.cells) (hs : n + rm.slots ≤ R.slots) (h : ∀ v A', QQ v A' → G pc' ls (v.toList ++ rest) A' (k + rm.cells) (n + rm.slots)) : G pc ls st A k n := by
  obtain ⟨hd, rfl⟩ := hd
  obtain ⟨p, e, s, m, args, below, meth, c, hx, hby, hml, hown, hnm, hret, hlk, hZ, hK, hb0, rfl⟩ := H
  obtain ⟨w1, w2, w3, w4, w5, w6⟩ := L
  subst ha hst hnp
  intro T locs X hR hF
  obtain ⟨v, vm₁, ⟨T', L', k', n'⟩, -, X', ⟨Lc, ⟨A', hQ, hR', hF'⟩, e1, e2, e3⟩, sp⟩ := Jvm.LawKit.callS X hx (y := z) hown (mvT hZ w1) (mvT hZ w2) (mvT hZ w3) (mvT hZ w4) w5 (backOf (W := (rest.map fun v => v.category).sum) (Q := fun v h L => ∃ A', QQ v A' ∧ Rel Z K n0 h A' ∧ Fr n0 L) (M [] T.heap hR) hZ w4 w3 hf hl) (g := mkF m pc ls (argsL.reverse ++ rest)) rfl (by rw [hml]; exact hls) (argsL := argsL) (rest := rest) w6 rfl (by show 2 * 0 + _ ≤ _; omega) (hb hby hd) (fun _ _ => ⟨rfl, rfl, hc, hs⟩)
  dsimp only [Pt.U, Pt.locs, Pt.cells, Pt.slots] at X' e1 e2 e3 sp hQ hR'
  subst e1 e2 e3
  obtain ⟨s₂, o, h1, h2⟩ := h v A' hQ T' _ X' hR' (Fr.app hF hF')
  exact ⟨s₂, o, sp _ h1, h2⟩
/-- a constructor by its contract -/
def CL (Z : State) (a0 : Array Value) (own : String) (idx : Nat) (z : MethodName) (zb : ByteArray) (zm : Nat) (np : Nat) : Prop :=
  (Jvm.Cond.methodLink own idx z).before a0 Z = true ∧ (Jvm.Cond.instanceMethod z).before a0 Z = true ∧ (Jvm.Cond.initialized z.cls).before a0 Z = true ∧ (Jvm.Cond.code z zb zm none).before a0 Z = true ∧ (z.cls ≠ "java/lang/invoke/MethodHandle" ∧ z.cls ≠ "java/lang/invoke/VarHandle") ∧ (∀ sig, parseMethodDescriptor z.desc = some sig → np = sig.parameters.length) ∧ z.name = "<init>"
theorem IsGo.callC (H : IsGo l Z a0 K n0 b0 y bytes maxL ret R Q G) {idx : Nat} (hd : Nx bytes pc (.invokespecial idx) 3 pc') {z : MethodName} {zb : ByteArray} {zm : Nat} {np : Nat} (L : CL Z a0 y.cls idx z zb zm np) {rm : Room} {as : Array Value} {QQ : Option Value → List Ob → Prop} (M : Met l Z K n0 z zb zm none rm as A QQ)
    {a : Addr} {argsL rest : List Value} (ha : (Value.ref a :: argsL).toArray = as) (hnp : argsL.length = np) (hst : st = argsL.reverse ++ .ref a :: rest) (hls : ls.size = maxL) (hf : rm.frames + 1 ≤ R.frames) (hl : (rest.map fun v => v.category).sum + (zm + 11) + rm.locals ≤ R.locals) (hc : k + rm.cells ≤ R.cells) (hs : n + rm.slots ≤ R.slots) (h : ∀ v A', QQ v A' → G pc' ls (v.toList ++ rest) A' (k + rm.cells) (n + rm.slots)) : G pc ls st A k n := by
  obtain ⟨hd, rfl⟩ := hd
  obtain ⟨p, e, s, m, args, below, meth, c, hx, hby, hml, hown, hnm, hret, hlk, hZ, hK, hb0, rfl⟩ := H
  obtain ⟨w1, w2, w3, w4, w5, w6, w7⟩ := L
  subst ha hst hnp
  intro T locs X hR hF
  obtain ⟨v, vm₁, ⟨T', L', k', n'⟩, -, X', ⟨Lc, ⟨A', hQ, hR', hF'⟩, e1, e2, e3⟩, sp⟩ := X.specialBack hx (y := z) w7 hown (mvT hZ w1) (mvT hZ w2) (mvT hZ w4) w5 (backOf (W := (rest.map fun v => v.category).sum) (Q := fun v h L => ∃ A', QQ v A' ∧ Rel Z K n0 h A' ∧ Fr n0 L) (M [] T.heap hR) hZ w4 w3 hf hl) (g := mkF m pc ls (argsL.reverse ++ .ref a :: rest)) rfl (by rw [hml]; exact hls) (Steps.refl _) (a := a) (argsL := argsL) (rest := rest) w6 rfl (by show 2 * 0 + _ ≤ _; omega) (hb hby hd) (fun _ _ => ⟨rfl, rfl, hc, hs⟩)
  dsimp only [Pt.U, Pt.locs, Pt.cells, Pt.slots] at X' e1 e2 e3 sp hQ hR'
  subst e1 e2 e3
  obtain ⟨s₂, o, h1, h2⟩ := h v A' hQ T' _ X' hR' (Fr.app hF hF')
  exact ⟨s₂, o, sp.trans h1, h2⟩
/-- a method of an object of class number kk, by its contract -/
def VL (Z : State) (a0 : Array Value) (K : KTab) (own : String) (idx kk : Nat) (z : MethodName) (zb : ByteArray) (zm : Nat) (zr : Option FieldType) (np : Nat) : Prop :=
  ∃ C fs, K[kk]? = some (C, fs) ∧ (Jvm.Cond.methodLink own idx z).before a0 Z = true ∧ (Jvm.Cond.declares z).before a0 Z = true ∧ (Jvm.Cond.selects C z z).before a0 Z = true ∧ (Jvm.Cond.instanceMethod z).before a0 Z = true ∧ (Jvm.Cond.initialized z.cls).before a0 Z = true ∧ (Jvm.Cond.code z zb zm zr).before a0 Z = true ∧ (z.cls ≠ "java/lang/invoke/MethodHandle" ∧ z.cls ≠ "java/lang/invoke/VarHandle") ∧ (∀ sig, parseMethodDescriptor z.desc = some sig → np = sig.parameters.length)
theorem IsGo.callV (H : IsGo l Z a0 K n0 b0 y bytes maxL ret R Q G) {idx kk : Nat} (hd : Nx bytes pc (.invokevirtual idx) 3 pc') {z : MethodName} {zb : ByteArray} {zm : Nat} {zr : Option FieldType} {np : Nat} (L : VL Z a0 K y.cls idx kk z zb zm zr np) {rm : Room} {as : Array Value} {QQ : Option Value → List Ob → Prop} (M : Met l Z K n0 z zb zm zr rm as A QQ)
    {i : Nat} {vs : List Value} (hA : A[i]? = some (.inl (kk, vs))) {argsL rest : List Value} (ha : (Value.ref (n0 + i) :: argsL).toArray = as) (hnp : argsL.length = np) (hst : st = argsL.reverse ++ .ref (n0 + i) :: rest) (hls : ls.size = maxL) (hf : rm.frames + 1 ≤ R.frames) (hl : (rest.map fun v => v.category).sum + (zm + 11) + rm.locals ≤ R.locals) (hc : k + rm.cells ≤ R.cells) (hs : n + rm.slots ≤ R.slots) (h : ∀ v A', QQ v A' → G pc' ls (v.toList ++ rest) A' (k + rm.cells) (n + rm.slots)) : G pc ls st A k n := by
  obtain ⟨hd, rfl⟩ := hd
  obtain ⟨p, e, s, m, args, below, meth, c, hx, hby, hml, hown, hnm, hret, hlk, hZ, hK, hb0, rfl⟩ := H
  obtain ⟨C, fs, hk, w1, w2, w3, w4, w5, w6, w7, w8⟩ := L
  subst ha hst hnp
  intro T locs X hR hF
  obtain ⟨cB, kB, qa, qb, qc⟩ := isOf hZ rfl ((hR.2 i _ hA).exa hk)
  obtain ⟨v, vm₁, ⟨T', L', k', n'⟩, -, X', ⟨Lc, ⟨A', hQ, hR', hF'⟩, e1, e2, e3⟩, sp⟩ := X.virtualBack hx (y := z) (z := z) hown (mvT hZ w1) (mvT hZ w2) (notFace_of_selects (args := #[]) (mvT hZ w3)) (mvT hZ w3) (mvT hZ w4) w7 (backOf (W := (rest.map fun v => v.category).sum) (Q := fun v h L => ∃ A', QQ v A' ∧ Rel Z K n0 h A' ∧ Fr n0 L) (M [] T.heap hR) hZ w6 w5 hf hl) qa qc (g := mkF m pc ls (argsL.reverse ++ .ref (n0 + i) :: rest)) rfl (by rw [hml]; exact hls) (Steps.refl _) (argsL := argsL) (rest := rest) w8 rfl (by show 2 * 0 + _ ≤ _; omega) (hb hby hd) (fun _ _ => ⟨rfl, rfl, hc, hs⟩)
  dsimp only [Pt.U, Pt.locs, Pt.cells, Pt.slots] at X' e1 e2 e3 sp hQ hR'
  subst e1 e2 e3
  obtain ⟨s₂, o, h1, h2⟩ := h v A' hQ T' _ X' hR' (Fr.app hF hF')
  exact ⟨s₂, o, sp.trans h1, h2⟩
/-- a private method -/
def ML (Z : State) (a0 : Array Value) (K : KTab) (own : String) (idx kk : Nat) (z : MethodName) (zb : ByteArray) (zm : Nat) (zr : Option FieldType) (np : Nat) : Prop :=
  ∃ C fs, K[kk]? = some (C, fs) ∧ (Jvm.Cond.methodLink own idx z).before a0 Z = true ∧ (Jvm.Cond.privateMethod z).before a0 Z = true ∧ z.cls = C ∧ (Jvm.Cond.instanceMethod z).before a0 Z = true ∧ (Jvm.Cond.initialized z.cls).before a0 Z = true ∧ (Jvm.Cond.code z zb zm zr).before a0 Z = true ∧ (z.cls ≠ "java/lang/invoke/MethodHandle" ∧ z.cls ≠ "java/lang/invoke/VarHandle") ∧ (∀ sig, parseMethodDescriptor z.desc = some sig → np = sig.parameters.length)
theorem IsGo.callM (H : IsGo l Z a0 K n0 b0 y bytes maxL ret R Q G) {idx kk : Nat} (hd : Nx bytes pc (.invokevirtual idx) 3 pc') {z : MethodName} {zb : ByteArray} {zm : Nat} {zr : Option FieldType} {np : Nat} (L : ML Z a0 K y.cls idx kk z zb zm zr np) {rm : Room} {as : Array Value} {QQ : Option Value → List Ob → Prop} (M : Met l Z K n0 z zb zm zr rm as A QQ)
    {i : Nat} {vs : List Value} (hA : A[i]? = some (.inl (kk, vs))) {argsL rest : List Value} (ha : (Value.ref (n0 + i) :: argsL).toArray = as) (hnp : argsL.length = np) (hst : st = argsL.reverse ++ .ref (n0 + i) :: rest) (hls : ls.size = maxL) (hf : rm.frames + 1 ≤ R.frames) (hl : (rest.map fun v => v.category).sum + (zm + 11) + rm.locals ≤ R.locals) (hc : k + rm.cells ≤ R.cells) (hs : n + rm.slots ≤ R.slots) (h : ∀ v A', QQ v A' → G pc' ls (v.toList ++ rest) A' (k + rm.cells) (n + rm.slots)) : G pc ls st A k n := by
  obtain ⟨hd, rfl⟩ := hd
  obtain ⟨p, e, s, m, args, below, meth, c, hx, hby, hml, hown, hnm, hret, hlk, hZ, hK, hb0, rfl⟩ := H
  obtain ⟨C, fs, hk, w1, w2, w3, w4, w5, w6, w7, w8⟩ := L
  subst ha hst hnp
  intro T locs X hR hF
  obtain ⟨cq, q1, q2⟩ := ((hR.2 i _ hA).exa hk).cell
  obtain ⟨⟨ki, wi⟩, -, -⟩ := hK kk C fs hk
  obtain ⟨c2, k2, i1, i2, -, i4, -⟩ := Cond.instantiable_spec (show (Jvm.Cond.instantiable z.cls ki).before args s = true from mvT hZ (by rw [w3]; exact wi))
  have hni : k2.isInterface = false := by
    simp only [Bool.or_eq_false_iff] at i4
    exact i4.1
  have hpr := Cond.privateMethod_at (mvP hZ w2 (args := #[]))
  have w3' := selects_self_of_private (args := args) i1 i2 hni hpr (mvT hZ w4) w7
  obtain ⟨v, vm₁, ⟨T', L', k', n'⟩, -, X', ⟨Lc, ⟨A', hQ, hR', hF'⟩, e1, e2, e3⟩, sp⟩ := X.privateBack hx (y := z) hown (mvT hZ w1) (mvT hZ w4) w3' hpr (mvT hZ w6) w7 (backOf (W := (rest.map fun v => v.category).sum) (Q := fun v h L => ∃ A', QQ v A' ∧ Rel Z K n0 h A' ∧ Fr n0 L) (M [] T.heap hR) hZ w6 w5 hf hl) (g := mkF m pc ls (argsL.reverse ++ .ref (n0 + i) :: rest)) rfl (by rw [hml]; exact hls) (Steps.refl _) (a := n0 + i) q1 q2 (argsL := argsL) (rest := rest) w8 rfl (by show 2 * 0 + _ ≤ _; omega) (hb hby hd) (fun _ _ => ⟨rfl, rfl, hc, hs⟩)
  dsimp only [Pt.U, Pt.locs, Pt.cells, Pt.slots] at X' e1 e2 e3 sp hQ hR'
  subst e1 e2 e3
  obtain ⟨s₂, o, h1, h2⟩ := h v A' hQ T' _ X' hR' (Fr.app hF hF')
  exact ⟨s₂, o, sp.trans h1, h2⟩
theorem IsGo.callSD (H : IsGo l Z a0 K n0 b0 y bytes maxL ret R Q G) {idx : Nat} (hd : Nx bytes pc (.invokestatic idx) 3 pc') {z : MethodName} {zb : ByteArray} {zm : Nat} {zr : Option FieldType} {np : Nat} (L : SL Z a0 y.cls idx z zb zm zr np) {rm : Room} {as : Array Value} {vo : Option Value} (M : Met l Z K n0 z zb zm zr rm as A (Is vo A'))
    {argsL rest : List Value} (ha : argsL.toArray = as) (hnp : argsL.length = np) (hst : st = argsL.reverse ++ rest) (hls : ls.size = maxL) (hf : rm.frames + 1 ≤ R.frames) (hl : (rest.map fun v => v.category).sum + (zm + 11) + rm.locals ≤ R.locals) (hc : k + rm.cells ≤ R.cells) (hs : n + rm.slots ≤ R.slots) (hst' : vo.toList ++ rest = st') (hk' : k + rm.cells = k') (hn' : n + rm.slots = n') (h : G pc' ls st' A' k' n') : G pc ls st A k n :=
  H.callS hd L M ha hnp hst hls hf hl hc hs (fun v B q => by obtain ⟨rfl, rfl⟩ := q; subst hst' hk' hn'; exact h)
theorem IsGo.callCD (H : IsGo l Z a0 K n0 b0 y bytes maxL ret R Q G) {idx : Nat} (hd : Nx bytes pc (.invokespecial idx) 3 pc') {z : MethodName} {zb : ByteArray} {zm : Nat} {np : Nat} (L : CL Z a0 y.cls idx z zb zm np) {rm : Room} {as : Array Value} {vo : Option Value} (M : Met l Z K n0 z zb zm none rm as A (Is vo A'))
    {a : Addr} {argsL rest : List Value} (ha : (Value.ref a :: argsL).toArray = as) (hnp : argsL.length = np) (hst : st = argsL.reverse ++ .ref a :: rest) (hls : ls.size = maxL) (hf : rm.frames + 1 ≤ R.frames) (hl : (rest.map fun v => v.category).sum + (zm + 11) + rm.locals ≤ R.locals) (hc : k + rm.cells ≤ R.cells) (hs : n + rm.slots ≤ R.slots) (hst' : vo.toList ++ rest = st') (hk' : k + rm.cells = k') (hn' : n + rm.slots = n') (h : G pc' ls st' A' k' n') : G pc ls st A k n :=
  H.callC hd L M ha hnp hst hls hf hl hc hs (fun v B q => by obtain ⟨rfl, rfl⟩ := q; subst hst' hk' hn'; exact h)
theorem IsGo.callVD (H : IsGo l Z a0 K n0 b0 y bytes maxL ret R Q G) {idx kk : Nat} (hd : Nx bytes pc (.invokevirtual idx) 3 pc') {z : MethodName} {zb : ByteArray} {zm : Nat} {zr : Option FieldType} {np : Nat} (L : VL Z a0 K y.cls idx kk z zb zm zr np) {rm : Room} {as : Array Value} {vo : Option Value} (M : Met l Z K n0 z zb zm zr rm as A (Is vo A'))
    {i : Nat} {vs : List Value} (hA : A[i]? = some (.inl (kk, vs))) {argsL rest : List Value} (ha : (Value.ref (n0 + i) :: argsL).toArray = as) (hnp : argsL.length = np) (hst : st = argsL.reverse ++ .ref (n0 + i) :: rest) (hls : ls.size = maxL) (hf : rm.frames + 1 ≤ R.frames) (hl : (rest.map fun v => v.category).sum + (zm + 11) + rm.locals ≤ R.locals) (hc : k + rm.cells ≤ R.cells) (hs : n + rm.slots ≤ R.slots) (hst' : vo.toList ++ rest = st') (hk' : k + rm.cells = k') (hn' : n + rm.slots = n') (h : G pc' ls st' A' k' n') : G pc ls st A k n :=
  H.callV hd L M hA ha hnp hst hls hf hl hc hs (fun v B q => by obtain ⟨rfl, rfl⟩ := q; subst hst' hk' hn'; exact h)
theorem IsGo.callMD (H : IsGo l Z a0 K n0 b0 y bytes maxL ret R Q G) {idx kk : Nat} (hd : Nx bytes pc (.invokevirtual idx) 3 pc') {z : MethodName} {zb : ByteArray} {zm : Nat} {zr : Option FieldType} {np : Nat} (L : ML Z a0 K y.cls idx kk z zb zm zr np) {rm : Room} {as : Array Value} {vo : Option Value} (M : Met l Z K n0 z zb zm zr rm as A (Is vo A'))
    {i : Nat} {vs : List Value} (hA : A[i]? = some (.inl (kk, vs))) {argsL rest : List Value} (ha : (Value.ref (n0 + i) :: argsL).toArray = as) (hnp : argsL.length = np) (hst : st = argsL.reverse ++ .ref (n0 + i) :: rest) (hls : ls.size = maxL) (hf : rm.frames + 1 ≤ R.frames) (hl : (rest.map fun v => v.category).sum + (zm + 11) + rm.locals ≤ R.locals) (hc : k + rm.cells ≤ R.cells) (hs : n + rm.slots ≤ R.slots) (hst' : vo.toList ++ rest = st') (hk' : k + rm.cells = k') (hn' : n + rm.slots = n') (h : G pc' ls st' A' k' n') : G pc ls st A k n :=
  H.callM hd L M hA ha hnp hst hls hf hl hc hs (fun v B q => by obtain ⟨rfl, rfl⟩ := q; subst hst' hk' hn'; exact h)
/-! ### the end -/
theorem IsGo.retW (H : IsGo l Z a0 K n0 b0 y bytes maxL ret R Q G) {i : Instr} (hd : Nx bytes pc i 1 pc') {t : FieldType} {w : Value} (hret : ret = some t) (hn : narrow t w = w)
    (hi : (i = .ireturn ∧ (t = .int ∨ t = .boolean ∨ t = .byte ∨ t = .char ∨ t = .short) ∧ ∃ z, w = .int z) ∨ (i = .lreturn ∧ t = .long ∧ ∃ z, w = .long z) ∨ (i = .dreturn ∧ t = .double ∧ ∃ z, w = .double z) ∨ (i = .freturn ∧ t = .float ∧ ∃ z, w = .float z) ∨ (i = .areturn ∧ t.isReference = true ∧ w.isRef = true))
    (hQ : Q (some w) A) (hc : k ≤ R.cells) (hs : n ≤ R.slots) : G pc ls (w :: st) A k n := by
  obtain ⟨hd, rfl⟩ := hd
  obtain ⟨p, e, s, m, args, below, meth, c, hx, hby, hml, hown, hnm, hret', hlk, hZ, hK, hb0, rfl⟩ := H
  intro T locs X hR hF
  obtain ⟨fs, hr, hrun, hended, hW, hsame⟩ := X.leave (v := some w) (fun h => by rw [hret', hret] at h; cases h) hlk
  exact ⟨_, _, retOut X hx (hret'.trans hret) hn hi (hb hby hd) hr, hrun, hended, _, _, rfl, ⟨A, hQ, hR, hF⟩, ⟨_, rfl⟩, hW, hsame.mono hc hs⟩
theorem IsGo.ireturn (H : IsGo l Z a0 K n0 b0 y bytes maxL ret R Q G) (hd : Nx bytes pc .ireturn 1 pc') {t : FieldType} {z : Int32} (hret : ret = some t) (ht : t = .int ∨ t = .boolean ∨ t = .byte ∨ t = .char ∨ t = .short) (hn : narrow t (.int z) = .int z) (hQ : Q (some (.int z)) A) (hc : k ≤ R.cells) (hs : n ≤ R.slots) : G pc ls (.int z :: st) A k n :=
  H.retW hd hret hn (Or.inl ⟨rfl, ht, z, rfl⟩) hQ hc hs
theorem IsGo.lreturn (H : IsGo l Z a0 K n0 b0 y bytes maxL ret R Q G) (hd : Nx bytes pc .lreturn 1 pc') {z : Int64} (hret : ret = some .long) (hQ : Q (some (.long z)) A) (hc : k ≤ R.cells) (hs : n ≤ R.slots) : G pc ls (.long z :: st) A k n :=
  H.retW hd hret rfl (Or.inr (Or.inl ⟨rfl, rfl, z, rfl⟩)) hQ hc hs
theorem IsGo.areturn (H : IsGo l Z a0 K n0 b0 y bytes maxL ret R Q G) (hd : Nx bytes pc .areturn 1 pc') {t : FieldType} {w : Value} (hret : ret = some t) (ht : t.isReference = true) (hn : narrow t w = w) (hw : w.isRef = true) (hQ : Q (some w) A) (hc : k ≤ R.cells) (hs : n ≤ R.slots) : G pc ls (w :: st) A k n :=
  H.retW hd hret hn (Or.inr (Or.inr (Or.inr (Or.inr ⟨rfl, ht, hw⟩)))) hQ hc hs
theorem IsGo.vreturn (H : IsGo l Z a0 K n0 b0 y bytes maxL ret R Q G) (hd : Nx bytes pc .return_ 1 pc') (hret : ret = none) (hQ : Q none A) (hc : k ≤ R.cells) (hs : n ≤ R.slots) : G pc ls [] A k n := by
  obtain ⟨hd, rfl⟩ := hd
  obtain ⟨p, e, s, m, args, below, meth, c, hx, hby, hml, hown, hnm, hret', hlk, hZ, hK, hb0, rfl⟩ := H
  intro T locs X hR hF
  obtain ⟨fs, hr, hrun, hended, hW, hsame⟩ := X.leave (v := none) (fun _ => rfl) hlk
  exact ⟨_, _, X.returnOut hx (hret'.trans hret) (hb hby hd) hr, hrun, hended, _, _, rfl, ⟨A, hQ, hR, hF⟩, ⟨_, rfl⟩, hW, hsame.mono hc hs⟩
end Rules
end Jvm.OwnKit

namespace Jvm.OwnI
open Sem ClassFile Op Lib Jvm.Free Jvm.Stand Jvm.LawKit Jvm.RoadKit Jvm.OwnKit
abbrev MV : Type := Int ⊕ Nat
abbrev MO : Type := (Nat × List MV) ⊕ List MV
abbrev MS : Type := Nat × List (Option MV) × List MV × List MO × Nat × Nat
abbrev ME : Type := (MS → Option MS) ⊕ (Nat × Nat × Nat × Nat × List (Option MV)) ⊕ Nat
def nul : MV := .inr 0
def okI : Int → Bool
  | .ofNat m => Nat.ble m 2147483647
  | .negSucc m => Nat.ble m 2147483647
def ltI : Int → Int → Bool
  | .ofNat a, .ofNat b => Nat.ble (a + 1) b
  | .negSucc _, .ofNat _ => true
  | .ofNat _, .negSucc _ => false
  | .negSucc a, .negSucc b => Nat.ble (b + 1) a
def eqI : Int → Int → Bool
  | .ofNat a, .ofNat b => Nat.beq a b
  | .negSucc a, .negSucc b => Nat.beq a b
  | _, _ => false
def cmI : ClassFile.Cond → Int → Int → Bool
  | .eq, u, v => eqI u v
  | .ne, u, v => !eqI u v
  | .lt, u, v => ltI u v
  | .ge, u, v => !ltI u v
  | .gt, u, v => ltI v u
  | .le, u, v => !ltI v u
def nthR {α : Type} : List α → Nat → Option α
  | [], _ => none
  | x :: _, 0 => some x
  | _ :: xs, n + 1 => nthR xs n
def nt1 {α : Type} (r : List α → Nat → Option α) (l : List α) (n : Nat) : Option α := match l with
  | [] => none
  | x :: xs => match n with
    | 0 => some x
    | n + 1 => r xs n
def nth {α : Type} (l : List α) (n : Nat) : Option α := nt1 (nt1 (nt1 (nt1 (nt1 (nt1 (nt1 (nt1 (nt1 (nt1 (nt1 (nt1 (nt1 (nt1 (nt1 (nt1 (nt1 (nt1 (nt1 (nt1 nthR))))))))))))))))))) l n
def nrm {α ρ : Type} : List α → (List α → ρ) → ρ
  | [], c => c []
  | x :: xs, c => nrm xs (fun ys => c (x :: ys))
def stR {α ρ : Type} : List α → Nat → α → (List α → ρ) → ρ
  | [], _, _, c => c []
  | _ :: xs, 0, v, c => c (v :: xs)
  | x :: xs, n + 1, v, c => stR xs n v (fun ys => c (x :: ys))
def st1 {α ρ : Type} (r : List α → Nat → α → (List α → ρ) → ρ) (l : List α) (n : Nat) (v : α) (c : List α → ρ) : ρ := match l with
  | [] => c []
  | x :: xs => match n with
    | 0 => c (v :: xs)
    | n + 1 => r xs n v (fun ys => c (x :: ys))
def stK {α ρ : Type} (l : List α) (n : Nat) (v : α) (c : List α → ρ) : ρ := st1 (st1 (st1 (st1 (st1 (st1 (st1 (st1 (st1 (st1 (st1 (st1 (st1 (st1 (st1 (st1 (st1 (st1 (st1 (st1 stR))))))))))))))))))) l n v c
def fN {ρ : Type} (n : Nat) (c : Nat → ρ) : ρ := match n with
  | 0 => c 0
  | m + 1 => c (Nat.add m 1)
def fI {ρ : Type} (z : Int) (c : Int → ρ) : ρ := match z with
  | .ofNat m => fN m (fun m => c (.ofNat m))
  | .negSucc m => fN m (fun m => c (.negSucc m))
theorem nthR_eq {α : Type} : ∀ (l : List α) (j : Nat), nthR l j = l[j]?
  | [], _ => by simp [nthR]
  | x :: xs, 0 => by simp [nthR]
  | x :: xs, n + 1 => by simp [nthR, nthR_eq xs n]
theorem nt1_eq {α : Type} {r : List α → Nat → Option α} (h : ∀ l j, r l j = l[j]?) (l : List α) (j : Nat) : nt1 r l j = l[j]? := by
  cases l with
  | nil => simp [nt1]
  | cons x xs => cases j <;> simp [nt1, h]
theorem nth_eq {α : Type} (l : List α) (j : Nat) : nth l j = l[j]? := nt1_eq (nt1_eq (nt1_eq (nt1_eq (nt1_eq (nt1_eq (nt1_eq (nt1_eq (nt1_eq (nt1_eq (nt1_eq (nt1_eq (nt1_eq (nt1_eq (nt1_eq (nt1_eq (nt1_eq (nt1_eq (nt1_eq (nt1_eq nthR_eq))))))))))))))))))) l j
theorem nrm_eq {α ρ : Type} : ∀ (l : List α) (c : List α → ρ), nrm l c = c l
  | [], _ => rfl
  | x :: xs, c => nrm_eq xs _
theorem stR_eq {α ρ : Type} : ∀ (l : List α) (j : Nat) (v : α) (c : List α → ρ), stR l j v c = c (l.set j v)
  | [], _, _, _ => rfl
  | _ :: _, 0, _, _ => rfl
  | x :: xs, n + 1, v, c => stR_eq xs n v _
theorem st1_eq {α ρ : Type} {r : List α → Nat → α → (List α → ρ) → ρ} (h : ∀ l j v c, r l j v c = c (l.set j v)) (l : List α) (j : Nat) (v : α) (c : List α → ρ) : st1 r l j v c = c (l.set j v) := by
  cases l with
  | nil => rfl
  | cons x xs => cases j with
    | zero => rfl
    | succ n => exact h xs n v _
theorem stK_eq {α ρ : Type} (l : List α) (j : Nat) (v : α) (c : List α → ρ) : stK l j v c = c (l.set j v) := st1_eq (st1_eq (st1_eq (st1_eq (st1_eq (st1_eq (st1_eq (st1_eq (st1_eq (st1_eq (st1_eq (st1_eq (st1_eq (st1_eq (st1_eq (st1_eq (st1_eq (st1_eq (st1_eq (st1_eq stR_eq))))))))))))))))))) l j v c
theorem fN_eq {ρ : Type} (n : Nat) (c : Nat → ρ) : fN n c = c n := by cases n <;> rfl
theorem fI_eq {ρ : Type} (z : Int) (c : Int → ρ) : fI z c = c z := by
  cases z with
  | ofNat m => exact fN_eq m (fun m => c (.ofNat m))
  | negSucc m => exact fN_eq m (fun m => c (.negSucc m))
def xIload (j nx : Nat) : MS → Option MS := fun (_, ls, st, A, k, n) => match nth ls j with | some (some (.inl v)) => some (nx, ls, .inl v :: st, A, k, n) | _ => none
def xAload (j nx : Nat) : MS → Option MS := fun (_, ls, st, A, k, n) => match nth ls j with | some (some (.inr v)) => some (nx, ls, .inr v :: st, A, k, n) | _ => none
def xIstore (j nx : Nat) : MS → Option MS := fun (_, ls, st, A, k, n) => match st with | .inl v :: r => stK ls j (some (.inl v)) fun ls' => some (nx, ls', r, A, k, n) | _ => none
def xAstore (j nx : Nat) : MS → Option MS := fun (_, ls, st, A, k, n) => match st with | .inr v :: r => stK ls j (some (.inr v)) fun ls' => some (nx, ls', r, A, k, n) | _ => none
def xPush (z : Int) (nx : Nat) : MS → Option MS := fun (_, ls, st, A, k, n) => fI z fun z => some (nx, ls, .inl z :: st, A, k, n)
def xBin (f : Int → Int → Int) (nx : Nat) : MS → Option MS := fun (_, ls, st, A, k, n) => match st with
  | .inl v :: .inl u :: r => fI (f u v) fun z => bif okI u && okI v && okI z then some (nx, ls, .inl z :: r, A, k, n) else none
  | _ => none
def xRem (nx : Nat) : MS → Option MS := fun (_, ls, st, A, k, n) => match st with
  | .inl (.ofNat v) :: .inl (.ofNat u) :: r => bif okI (.ofNat u) && okI (.ofNat v) && Nat.ble 1 v then fN (Nat.mod u v) fun z => some (nx, ls, .inl (.ofNat z) :: r, A, k, n) else none
  | _ => none
def xInc (j : Nat) (z : Int) (nx : Nat) : MS → Option MS := fun (_, ls, st, A, k, n) => match nth ls j with
  | some (some (.inl v)) => fI (Int.add v z) fun y => bif okI v && okI y then stK ls j (some (.inl y)) fun ls' => some (nx, ls', st, A, k, n) else none
  | _ => none
def xDup (nx : Nat) : MS → Option MS := fun (_, ls, st, A, k, n) => match st with | v :: r => some (nx, ls, v :: v :: r, A, k, n) | _ => none
def xDup2 (nx : Nat) : MS → Option MS := fun (_, ls, st, A, k, n) => match st with | v :: u :: r => some (nx, ls, v :: u :: v :: u :: r, A, k, n) | _ => none
def xDupX1 (nx : Nat) : MS → Option MS := fun (_, ls, st, A, k, n) => match st with | v :: u :: r => some (nx, ls, v :: u :: v :: r, A, k, n) | _ => none
def xDupX2 (nx : Nat) : MS → Option MS := fun (_, ls, st, A, k, n) => match st with | v :: u :: w :: r => some (nx, ls, v :: u :: w :: v :: r, A, k, n) | _ => none
def xPop (nx : Nat) : MS → Option MS := fun (_, ls, st, A, k, n) => match st with | _ :: r => some (nx, ls, r, A, k, n) | _ => none
def xGoto (t : Nat) : MS → Option MS := fun (_, ls, st, A, k, n) => some (t, ls, st, A, k, n)
def xIcmp (cd : ClassFile.Cond) (t nx : Nat) : MS → Option MS := fun (_, ls, st, A, k, n) => match st with
  | .inl v :: .inl u :: r => bif okI u && okI v then some (bif cmI cd u v then t else nx, ls, r, A, k, n) else none
  | _ => none
def xIf (cd : ClassFile.Cond) (t nx : Nat) : MS → Option MS := fun (_, ls, st, A, k, n) => match st with
  | .inl u :: r => bif okI u then some (bif cmI cd u (.ofNat 0) then t else nx, ls, r, A, k, n) else none
  | _ => none
def xGet (kk j nx : Nat) : MS → Option MS := fun (_, ls, st, A, k, n) => match st with
  | .inr (a + 1) :: r => match nth A a with
    | some (.inl (k', vs)) => bif Nat.beq kk k' then match nth vs j with | some v => some (nx, ls, v :: r, A, k, n) | none => none else none
    | _ => none
  | _ => none
def xPut (kk j nx : Nat) : MS → Option MS := fun (_, ls, st, A, k, n) => match st with
  | .inr v :: .inr (a + 1) :: r => match nth A a with
    | some (.inl (k', vs)) => bif Nat.beq kk k' then stK vs j (.inr v) fun vs' => stK A a (.inl (k', vs')) fun A' => some (nx, ls, r, A', k, n) else none
    | _ => none
  | _ => none
def xIaload (nx : Nat) : MS → Option MS := fun (_, ls, st, A, k, n) => match st with
  | .inl (.ofNat z) :: .inr (a + 1) :: r => match nth A a with
    | some (.inr vs) => bif Nat.ble z 1000 then match nth vs z with | some v => some (nx, ls, v :: r, A, k, n) | none => none else none
    | _ => none
  | _ => none
def xIastore (nx : Nat) : MS → Option MS := fun (_, ls, st, A, k, n) => match st with
  | .inl v :: .inl (.ofNat z) :: .inr (a + 1) :: r => match nth A a with
    | some (.inr vs) => bif Nat.ble z 1000 then match nth vs z with | some _ => stK vs z (.inl v) fun vs' => stK A a (.inr vs') fun A' => some (nx, ls, r, A', k, n) | none => none else none
    | _ => none
  | _ => none
def xLen (nx : Nat) : MS → Option MS := fun (_, ls, st, A, k, n) => match st with
  | .inr (a + 1) :: r => match nth A a with | some (.inr vs) => bif Nat.ble vs.length 1000 then fN vs.length fun m => some (nx, ls, .inl (.ofNat m) :: r, A, k, n) else none | _ => none
  | _ => none
def xNewA (nx : Nat) : MS → Option MS := fun (_, ls, st, A, k, n) => match st with
  | .inl (.ofNat z) :: r => bif Nat.ble z 1000 then fN (A.length + 1) fun m => nrm (List.replicate z (.inl (.ofNat 0))) fun vs => nrm (A ++ [.inr vs]) fun A' => fN (k + 1) fun k' => fN (n + z) fun n' => some (nx, ls, .inr m :: r, A', k', n') else none
  | _ => none
def xNew (kk sz : Nat) (dv : List MV) (nx : Nat) : MS → Option MS := fun (_, ls, st, A, k, n) => fN (A.length + 1) fun m => nrm (A ++ [.inl (kk, dv)]) fun A' => fN (k + 1) fun k' => fN (n + sz) fun n' => some (nx, ls, .inr m :: st, A', k', n')
def xCast (nx : Nat) : MS → Option MS := fun (_, ls, st, A, k, n) => match st with
  | .inr (a + 1) :: r => match nth A a with | some (.inr vs) => some (nx, ls, .inr (a + 1) :: r, A, k, n) | _ => none
  | _ => none
def xInit (nx : Nat) : MS → Option MS := fun (_, ls, st, A, k, n) => match st with
  | .inr (a + 1) :: r => bif Nat.ble r.length 8 then some (nx, ls, r, A, k, n) else none
  | _ => none
def xClone (nx : Nat) : MS → Option MS := fun (_, ls, st, A, k, n) => match st with
  | .inr (a + 1) :: r => match nth A a with | some (.inr vs) => bif Nat.ble r.length 8 && Nat.ble vs.length 1000 then fN (A.length + 1) fun m => nrm (A ++ [.inr vs]) fun A' => fN (k + 1) fun k' => fN (n + vs.length) fun n' => some (nx, ls, .inr m :: r, A', k', n') else none | _ => none
  | _ => none
def xCopy (nx : Nat) : MS → Option MS := fun (_, ls, st, A, k, n) => match st with
  | .inl (.ofNat c) :: .inl (.ofNat d) :: .inr (b + 1) :: .inl (.ofNat s) :: .inr (a + 1) :: r => match nth A a, nth A b with
    | some (.inr vs), some (.inr vd) => bif Nat.ble r.length 8 && Nat.ble vs.length 1000 && Nat.ble vd.length 1000 && Nat.ble (s + c) vs.length && Nat.ble (d + c) vd.length then nrm (vd.take d ++ (List.range c).map (fun i => vs.getD (s + i) nul) ++ vd.drop (d + c)) fun vs' => stK A b (.inr vs') fun A' => some (nx, ls, r, A', k, n) else none
    | _, _ => none
  | _ => none
def xSeq (m : Nat) (f g : MS → Option MS) : MS → Option MS := fun s => match f s with
  | some s' => bif Nat.beq s'.1 m then g s' else none
  | none => none
/-- the arguments of a call: the top np values, the last argument on top -/
def tkR {ρ : Type} : Nat → List MV → List (Option MV) → (List (Option MV) → List MV → ρ) → ρ → ρ
  | 0, st, acc, c, _ => c acc st
  | _ + 1, [], _, _, e => e
  | n + 1, v :: st, acc, c, e => tkR n st (some v :: acc) c e
def tk1 {ρ : Type} (r : Nat → List MV → List (Option MV) → (List (Option MV) → List MV → ρ) → ρ → ρ) (n : Nat) (st : List MV) (acc : List (Option MV)) (c : List (Option MV) → List MV → ρ) (e : ρ) : ρ := match n with
  | 0 => c acc st
  | n + 1 => match st with
    | [] => e
    | v :: st => r n st (some v :: acc) c e
def tk {ρ : Type} (n : Nat) (st : List MV) (acc : List (Option MV)) (c : List (Option MV) → List MV → ρ) (e : ρ) : ρ := tk1 (tk1 (tk1 (tk1 (tk1 (tk1 tkR))))) n st acc c e
def tkS (ρ : Type) (n : Nat) (st : List MV) (acc : List (Option MV)) (c : List (Option MV) → List MV → ρ) (e : ρ) : ρ := bif Nat.ble n st.length then c ((st.take n).reverse.map some ++ acc) (st.drop n) else e
theorem tkR_eq {ρ : Type} : ∀ (n : Nat) (st : List MV) (acc : List (Option MV)) (c : List (Option MV) → List MV → ρ) (e : ρ), tkR n st acc c e = tkS ρ n st acc c e
  | 0, st, acc, c, e => by simp [tkR, tkS, show Nat.ble 0 st.length = true from Nat.ble_eq.mpr (Nat.zero_le _)]
  | n + 1, [], acc, c, e => by simp [tkR, tkS, show Nat.ble (n + 1) 0 = false from rfl]
  | n + 1, v :: st, acc, c, e => by
    rw [tkR, tkR_eq n st]
    simp [tkS, show Nat.ble (n + 1) (st.length + 1) = Nat.ble n st.length from rfl]
theorem tk1_eq {ρ : Type} {r : Nat → List MV → List (Option MV) → (List (Option MV) → List MV → ρ) → ρ → ρ} (h : ∀ n st acc c e, r n st acc c e = tkS ρ n st acc c e) (n : Nat) (st : List MV) (acc : List (Option MV)) (c : List (Option MV) → List MV → ρ) (e : ρ) : tk1 r n st acc c e = tkS ρ n st acc c e := by
  cases n with
  | zero => simp [tk1, tkS, show Nat.ble 0 st.length = true from Nat.ble_eq.mpr (Nat.zero_le _)]
  | succ n => cases st with
    | nil => simp [tk1, tkS, show Nat.ble (n + 1) 0 = false from rfl]
    | cons v st =>
      simp only [tk1]
      rw [h]
      simp [tkS, show Nat.ble (n + 1) (st.length + 1) = Nat.ble n st.length from rfl]
theorem tk_eq {ρ : Type} (n : Nat) (st : List MV) (acc : List (Option MV)) (c : List (Option MV) → List MV → ρ) (e : ρ) : tk n st acc c e = tkS ρ n st acc c e := tk1_eq (tk1_eq (tk1_eq (tk1_eq (tk1_eq (tk1_eq tkR_eq))))) n st acc c e
section Up
variable (n0 : Nat) (τ : Int → Int32)
def upI (z : Int) : Int32 := bif okI z then Int32.ofInt z else τ z
def upV : MV → Value
  | .inl z => .int (upI τ z)
  | .inr 0 => .null
  | .inr (i + 1) => .ref (n0 + i)
def upL : Option MV → Slot
  | none => .unset
  | some v => .val (upV n0 τ v)
def upO : MO → Ob
  | .inl (k, vs) => .inl (k, vs.map (upV n0 τ))
  | .inr vs => .inr (.int, vs.map (upV n0 τ))
def Gu (G : GoT) (s : MS) : Prop := G s.1 (s.2.1.map (upL n0 τ)).toArray (s.2.2.1.map (upV n0 τ)) (s.2.2.2.1.map (upO n0 τ)) s.2.2.2.2.1 s.2.2.2.2.2
end Up
theorem okI_b {z : Int} (h : okI z = true) : -2147483648 ≤ z ∧ z < 2147483648 := by
  cases z with
  | ofNat m => have := Nat.le_of_ble_eq_true h; simp only [Int.ofNat_eq_natCast]; omega
  | negSucc m => have := Nat.le_of_ble_eq_true h; omega
theorem upI_ok {τ : Int → Int32} {z : Int} (h : okI z = true) : upI τ z = Int32.ofInt z := by simp [upI, h]
theorem upI_int {τ : Int → Int32} {z : Int} (h : okI z = true) : (upI τ z).toInt = z := by
  rw [upI_ok h]
  have q := okI_b h
  exact Int32.toInt_ofInt_of_le (by omega) (by omega)
theorem okN {m : Nat} (h : m ≤ 1000) : okI (.ofNat m) = true := by
  show Nat.ble m 2147483647 = true
  exact Nat.ble_eq.mpr (by omega)
theorem upV_cat {n0 : Nat} {τ : Int → Int32} (v : MV) : (upV n0 τ v).category = 1 := by
  rcases v with z | (_ | i) <;> rfl
theorem upV_ref {n0 : Nat} {τ : Int → Int32} (v : Nat) : (upV n0 τ (.inr v)).isRef = true := by cases v <;> rfl
theorem upSt {n0 : Nat} {τ : Int → Int32} {ls : List (Option MV)} {j : Nat} {v : MV} (h : j < ls.length) : storeLocals (ls.map (upL n0 τ)).toArray j (upV n0 τ v) = some ((ls.set j (some v)).map (upL n0 τ)).toArray := by
  have hg : (ls.map (upL n0 τ)).toArray[j]? = some (upL n0 τ ls[j]) := by simp [h]
  rw [XS.store1 hg ?_ (upV_cat v)]
  · simp [List.map_set, upL]
  · cases ls[j] with
    | none => exact Or.inl rfl
    | some w => exact Or.inr ⟨_, rfl, upV_cat w⟩
theorem ltI_iff (u v : Int) : ltI u v = true ↔ u < v := by
  cases u <;> cases v <;> simp only [ltI, Nat.ble_eq, Int.ofNat_eq_natCast, Bool.false_eq_true, true_iff, false_iff] <;> omega
theorem eqI_iff (u v : Int) : eqI u v = true ↔ u = v := by
  cases u <;> cases v <;> simp only [eqI, Nat.beq_eq, Int.ofNat_eq_natCast, Bool.false_eq_true, true_iff, false_iff] <;> omega
theorem ltI_no {u v : Int} (h : ltI u v = false) : v ≤ u := by
  have q : ¬ u < v := fun q => by rw [(ltI_iff _ _).mpr q] at h; cases h
  omega
theorem eqI_no {u v : Int} (h : eqI u v = false) : ¬ u = v := fun q => by rw [(eqI_iff _ _).mpr q] at h; cases h
theorem cm_t {τ : Int → Int32} {cd : ClassFile.Cond} {u v : Int} (hu : okI u = true) (hv : okI v = true) (h : cmI cd u v = true) : CP cd (upI τ u) (upI τ v) := by
  have a := upI_int (τ := τ) hu
  have b := upI_int (τ := τ) hv
  cases cd <;> simp only [cmI, CP] at h ⊢
  · exact (i_eq a b).mpr ((eqI_iff _ _).mp h)
  · exact (i_ne a b).mpr (eqI_no (by simpa using h))
  · exact (i_lt a b).mpr ((ltI_iff _ _).mp h)
  · exact (i_ge a b).mpr (ltI_no (by simpa using h))
  · exact (i_lt b a).mpr ((ltI_iff _ _).mp h)
  · exact (i_ge b a).mpr (ltI_no (by simpa using h))
theorem cm_f {τ : Int → Int32} {cd : ClassFile.Cond} {u v : Int} (hu : okI u = true) (hv : okI v = true) (h : cmI cd u v = false) : CP (ng cd) (upI τ u) (upI τ v) := by
  have a := upI_int (τ := τ) hu
  have b := upI_int (τ := τ) hv
  cases cd <;> simp only [cmI, CP, ng] at h ⊢
  · exact (i_ne a b).mpr (eqI_no h)
  · exact (i_eq a b).mpr ((eqI_iff _ _).mp (by simpa using h))
  · exact (i_ge a b).mpr (ltI_no h)
  · exact (i_lt a b).mpr ((ltI_iff _ _).mp (by simpa using h))
  · exact (i_ge b a).mpr (ltI_no h)
  · exact (i_lt b a).mpr ((ltI_iff _ _).mp (by simpa using h))
theorem up0 {τ : Int → Int32} : upI τ (.ofNat 0) = 0 := rfl
theorem up0' {τ : Int → Int32} : upI τ 0 = 0 := rfl
theorem upA {n0 : Nat} {τ : Int → Int32} {A : List MO} {a : Nat} {o : MO} (h : A[a]? = some o) : (A.map (upO n0 τ))[a]? = some (upO n0 τ o) := by simp [h]
theorem upN {τ : Int → Int32} {z N : Nat} (h : z < N) (hN : N ≤ 1000) : (upI τ (.ofNat z)).toInt = (z : Int) := upI_int (okN (by omega))
/-- one plain step is sound -/
def Ok1 (l : Launch) (Z : State) (a0 : Array Value) (K : KTab) (n0 : Nat) (τ : Int → Int32) (y : MethodName) (bytes : ByteArray) (maxL : Nat) (ret : Option FieldType) (fr lo : Nat) (pc : Nat) (x : MS → Option MS) : Prop :=
  ∀ (b0 : Nat) (s s' : MS), s.1 = pc → x s = some s' → s.2.1.length = maxL → s.2.2.2.1.length = b0 + s.2.2.2.2.1 →
    (s'.2.1.length = maxL ∧ s'.2.2.2.1.length = b0 + s'.2.2.2.2.1 ∧ s.2.2.2.2.1 ≤ s'.2.2.2.2.1 ∧ s.2.2.2.2.2 ≤ s'.2.2.2.2.2) ∧
    ∀ (R : Room) (Q : Option Value → List Ob → Prop) (G : GoT), R.frames = fr → R.locals = lo → s'.2.2.2.2.1 ≤ R.cells → s'.2.2.2.2.2 ≤ R.slots → IsGo l Z a0 K n0 b0 y bytes maxL ret R Q G → Gu n0 τ G s' → Gu n0 τ G s
section Steps
variable {l : Launch} {Z : State} {a0 : Array Value} {K : KTab} {n0 : Nat} {τ : Int → Int32} {y : MethodName} {bytes : ByteArray} {maxL : Nat} {ret : Option FieldType} {fr lo pc nx : Nat}
theorem ok_iload {j : Nat} (hd : Nx bytes pc (.iload j) 2 nx ∨ ∃ i : Fin 4, i.1 = j ∧ Nx bytes pc (.iload_n i) 1 nx) : Ok1 l Z a0 K n0 τ y bytes maxL ret fr lo pc (xIload j nx) := by
  rintro b0 ⟨pc', ls, st, A, k, n⟩ s' rfl h hl hA
  simp only [xIload, nth_eq, nrm_eq, stK_eq, fN_eq, fI_eq] at h
  split at h
  · next v hv =>
    cases h
    refine ⟨⟨hl, hA, Nat.le_refl _, Nat.le_refl _⟩, fun R Q G _ _ _ _ H g => ?_⟩
    have e : (ls.map (upL n0 τ)).toArray[j]? = some (.val (.int (upI τ v))) := by simp [hv, upL, upV]
    rcases hd with hd | ⟨i, rfl, hd⟩
    · exact H.iload hd e g
    · exact H.iloadN hd e g
  · cases h
theorem ok_aload {j : Nat} (hd : Nx bytes pc (.aload j) 2 nx ∨ ∃ i : Fin 4, i.1 = j ∧ Nx bytes pc (.aload_n i) 1 nx) : Ok1 l Z a0 K n0 τ y bytes maxL ret fr lo pc (xAload j nx) := by
  rintro b0 ⟨pc', ls, st, A, k, n⟩ s' rfl h hl hA
  simp only [xAload, nth_eq, nrm_eq, stK_eq, fN_eq, fI_eq] at h
  split at h
  · next v hv =>
    cases h
    refine ⟨⟨hl, hA, Nat.le_refl _, Nat.le_refl _⟩, fun R Q G _ _ _ _ H g => ?_⟩
    have e : (ls.map (upL n0 τ)).toArray[j]? = some (.val (upV n0 τ (.inr v))) := by simp [hv, upL]
    rcases hd with hd | ⟨i, rfl, hd⟩
    · exact H.aload hd e (upV_ref v) g
    · exact H.aloadN hd e (upV_ref v) g
  · cases h
theorem ok_istore {j : Nat} (hj : j < maxL) (hd : Nx bytes pc (.istore j) 2 nx ∨ ∃ i : Fin 4, i.1 = j ∧ Nx bytes pc (.istore_n i) 1 nx) : Ok1 l Z a0 K n0 τ y bytes maxL ret fr lo pc (xIstore j nx) := by
  rintro b0 ⟨pc', ls, st, A, k, n⟩ s' rfl h hl hA
  simp only [xIstore, nth_eq, nrm_eq, stK_eq, fN_eq, fI_eq] at h
  split at h
  · next v r =>
    · cases h
      have hlt : j < ls.length := by simp only at hl; omega
      refine ⟨⟨by simpa using hl, hA, Nat.le_refl _, Nat.le_refl _⟩, fun R Q G _ _ _ _ H g => ?_⟩
      rcases hd with hd | ⟨i, rfl, hd⟩
      · exact H.istore hd (upSt (v := .inl v) hlt) g
      · exact H.istoreN hd (upSt (v := .inl v) hlt) g
  · cases h
theorem ok_astore {j : Nat} (hj : j < maxL) (hd : Nx bytes pc (.astore j) 2 nx ∨ ∃ i : Fin 4, i.1 = j ∧ Nx bytes pc (.astore_n i) 1 nx) : Ok1 l Z a0 K n0 τ y bytes maxL ret fr lo pc (xAstore j nx) := by
  rintro b0 ⟨pc', ls, st, A, k, n⟩ s' rfl h hl hA
  simp only [xAstore, nth_eq, nrm_eq, stK_eq, fN_eq, fI_eq] at h
  split at h
  · next v r =>
    · cases h
      have hlt : j < ls.length := by simp only at hl; omega
      refine ⟨⟨by simpa using hl, hA, Nat.le_refl _, Nat.le_refl _⟩, fun R Q G _ _ _ _ H g => ?_⟩
      rcases hd with hd | ⟨i, rfl, hd⟩
      · exact H.astore hd (upV_ref v) (upSt (v := .inr v) hlt) g
      · exact H.astoreN hd (upV_ref v) (upSt (v := .inr v) hlt) g
  · cases h
theorem ok_push {z : Int} (hz : okI z = true) (hd : Nx bytes pc (.iconst z) 1 nx ∨ (Nx bytes pc (.bipush z) 2 nx ∧ (Int8.ofInt z).toInt32 = Int32.ofInt z) ∨ (Nx bytes pc (.sipush z) 3 nx ∧ (Int16.ofInt z).toInt32 = Int32.ofInt z)) : Ok1 l Z a0 K n0 τ y bytes maxL ret fr lo pc (xPush z nx) := by
  rintro b0 ⟨pc', ls, st, A, k, n⟩ s' rfl h hl hA
  simp only [xPush, fI_eq] at h
  cases h
  refine ⟨⟨hl, hA, Nat.le_refl _, Nat.le_refl _⟩, fun R Q G _ _ _ _ H g => ?_⟩
  have e : upI τ z = Int32.ofInt z := upI_ok hz
  rcases hd with hd | ⟨hd, q⟩ | ⟨hd, q⟩
  · exact H.iconst hd e.symm g
  · exact H.bipush hd (q.trans e.symm) g
  · exact H.sipush hd (q.trans e.symm) g
theorem ok_add (hd : Nx bytes pc .iadd 1 nx) : Ok1 l Z a0 K n0 τ y bytes maxL ret fr lo pc (xBin Int.add nx) := by
  rintro b0 ⟨pc', ls, st, A, k, n⟩ s' rfl h hl hA
  simp only [xBin, nth_eq, nrm_eq, stK_eq, fN_eq, fI_eq] at h
  split at h
  · next v u r =>
    cases hj : (okI u && okI v && okI (Int.add u v)) <;> simp only [hj, cond_true, cond_false] at h
    · cases h
    · cases h
      simp only [Bool.and_eq_true] at hj
      refine ⟨⟨hl, hA, Nat.le_refl _, Nat.le_refl _⟩, fun R Q G _ _ _ _ H g => ?_⟩
      refine H.iadd hd ?_ g
      rw [upI_ok hj.1.1, upI_ok hj.1.2, upI_ok hj.2]
      exact (Int32.ofInt_add u v).symm
  · cases h
theorem ok_sub (hd : Nx bytes pc .isub 1 nx) : Ok1 l Z a0 K n0 τ y bytes maxL ret fr lo pc (xBin Int.sub nx) := by
  rintro b0 ⟨pc', ls, st, A, k, n⟩ s' rfl h hl hA
  simp only [xBin, nth_eq, nrm_eq, stK_eq, fN_eq, fI_eq] at h
  split at h
  · next v u r =>
    cases hj : (okI u && okI v && okI (Int.sub u v)) <;> simp only [hj, cond_true, cond_false] at h
    · cases h
    · cases h
      simp only [Bool.and_eq_true] at hj
      refine ⟨⟨hl, hA, Nat.le_refl _, Nat.le_refl _⟩, fun R Q G _ _ _ _ H g => ?_⟩
      refine H.isub hd ?_ g
      rw [upI_ok hj.1.1, upI_ok hj.1.2, upI_ok hj.2]
      exact (Int32.ofInt_sub u v).symm
  · cases h
theorem ok_mul (hd : Nx bytes pc .imul 1 nx) : Ok1 l Z a0 K n0 τ y bytes maxL ret fr lo pc (xBin Int.mul nx) := by
  rintro b0 ⟨pc', ls, st, A, k, n⟩ s' rfl h hl hA
  simp only [xBin, nth_eq, nrm_eq, stK_eq, fN_eq, fI_eq] at h
  split at h
  · next v u r =>
    cases hj : (okI u && okI v && okI (Int.mul u v)) <;> simp only [hj, cond_true, cond_false] at h
    · cases h
    · cases h
      simp only [Bool.and_eq_true] at hj
      refine ⟨⟨hl, hA, Nat.le_refl _, Nat.le_refl _⟩, fun R Q G _ _ _ _ H g => ?_⟩
      refine H.imul hd ?_ g
      rw [upI_ok hj.1.1, upI_ok hj.1.2, upI_ok hj.2]
      exact (Int32.ofInt_mul u v).symm
  · cases h
theorem ok_rem (hd : Nx bytes pc .irem 1 nx) : Ok1 l Z a0 K n0 τ y bytes maxL ret fr lo pc (xRem nx) := by
  rintro b0 ⟨pc', ls, st, A, k, n⟩ s' rfl h hl hA
  simp only [xRem, nth_eq, nrm_eq, stK_eq, fN_eq, fI_eq] at h
  split at h
  · next v u r =>
    cases hj : (okI (.ofNat u) && okI (.ofNat v) && Nat.ble 1 v) <;> simp only [hj, cond_true, cond_false] at h
    · cases h
    · cases h
      simp only [Bool.and_eq_true] at hj
      have a := upI_int (τ := τ) hj.1.1
      have b := upI_int (τ := τ) hj.1.2
      have hv : 1 ≤ v := Nat.le_of_ble_eq_true hj.2
      have ob := okI_b hj.1.2
      have oc : okI (.ofNat (Nat.mod u v)) = true := by
        have q : u % v < v := Nat.mod_lt u hv
        simp only [Int.ofNat_eq_natCast] at ob
        exact Nat.ble_eq.mpr (by show u % v ≤ _; omega)
      refine ⟨⟨hl, hA, Nat.le_refl _, Nat.le_refl _⟩, fun R Q G _ _ _ _ H g => ?_⟩
      refine H.irem hd ?_ ?_ g
      · intro e
        rw [e] at b
        simp only [Int.ofNat_eq_natCast] at b
        have z : (0 : Int32).toInt = 0 := by decide
        omega
      · apply Int32.toInt_inj.mp
        rw [x_irem a b (by simp only [Int.ofNat_eq_natCast]; omega), upI_int oc]
        rfl
  · cases h
theorem ok_inc {j : Nat} {z : Int} (hd : Nx bytes pc (.iinc j z) 3 nx) : Ok1 l Z a0 K n0 τ y bytes maxL ret fr lo pc (xInc j z nx) := by
  rintro b0 ⟨pc', ls, st, A, k, n⟩ s' rfl h hl hA
  simp only [xInc, nth_eq, nrm_eq, stK_eq, fN_eq, fI_eq] at h
  split at h
  · next v hv =>
    cases hj : (okI v && okI (Int.add v z)) <;> simp only [hj, cond_true, cond_false] at h
    · cases h
    · cases h
      simp only [Bool.and_eq_true] at hj
      have hlt : j < ls.length := (List.getElem?_eq_some_iff.mp hv).1
      refine ⟨⟨by simpa using hl, hA, Nat.le_refl _, Nat.le_refl _⟩, fun R Q G _ _ _ _ H g => ?_⟩
      have e : (ls.map (upL n0 τ)).toArray[j]? = some (.val (.int (upI τ v))) := by simp [hv, upL, upV]
      refine H.iinc hd e ?_ (upSt (v := .inl (Int.add v z)) hlt) g
      rw [upI_ok hj.1, upI_ok hj.2]
      exact (Int32.ofInt_add v z).symm
  · cases h
theorem ok_dup (hd : Nx bytes pc .dup 1 nx) : Ok1 l Z a0 K n0 τ y bytes maxL ret fr lo pc (xDup nx) := by
  rintro b0 ⟨pc', ls, st, A, k, n⟩ s' rfl h hl hA
  simp only [xDup, nth_eq, nrm_eq, stK_eq, fN_eq, fI_eq] at h
  split at h <;> cases h
  exact ⟨⟨hl, hA, Nat.le_refl _, Nat.le_refl _⟩, fun R Q G _ _ _ _ H g => H.dup hd (upV_cat _) g⟩
theorem ok_dup2 (hd : Nx bytes pc .dup2 1 nx) : Ok1 l Z a0 K n0 τ y bytes maxL ret fr lo pc (xDup2 nx) := by
  rintro b0 ⟨pc', ls, st, A, k, n⟩ s' rfl h hl hA
  simp only [xDup2, nth_eq, nrm_eq, stK_eq, fN_eq, fI_eq] at h
  split at h <;> cases h
  exact ⟨⟨hl, hA, Nat.le_refl _, Nat.le_refl _⟩, fun R Q G _ _ _ _ H g => H.dup2 hd (upV_cat _) (upV_cat _) g⟩
theorem ok_dupX1 (hd : Nx bytes pc .dup_x1 1 nx) : Ok1 l Z a0 K n0 τ y bytes maxL ret fr lo pc (xDupX1 nx) := by
  rintro b0 ⟨pc', ls, st, A, k, n⟩ s' rfl h hl hA
  simp only [xDupX1, nth_eq, nrm_eq, stK_eq, fN_eq, fI_eq] at h
  split at h <;> cases h
  exact ⟨⟨hl, hA, Nat.le_refl _, Nat.le_refl _⟩, fun R Q G _ _ _ _ H g => H.dupX1 hd (upV_cat _) (upV_cat _) g⟩
theorem ok_dupX2 (hd : Nx bytes pc .dup_x2 1 nx) : Ok1 l Z a0 K n0 τ y bytes maxL ret fr lo pc (xDupX2 nx) := by
  rintro b0 ⟨pc', ls, st, A, k, n⟩ s' rfl h hl hA
  simp only [xDupX2, nth_eq, nrm_eq, stK_eq, fN_eq, fI_eq] at h
  split at h <;> cases h
  exact ⟨⟨hl, hA, Nat.le_refl _, Nat.le_refl _⟩, fun R Q G _ _ _ _ H g => H.dupX2 hd (upV_cat _) (upV_cat _) (upV_cat _) g⟩
theorem ok_pop (hd : Nx bytes pc .pop 1 nx) : Ok1 l Z a0 K n0 τ y bytes maxL ret fr lo pc (xPop nx) := by
  rintro b0 ⟨pc', ls, st, A, k, n⟩ s' rfl h hl hA
  simp only [xPop, nth_eq, nrm_eq, stK_eq, fN_eq, fI_eq] at h
  split at h <;> cases h
  exact ⟨⟨hl, hA, Nat.le_refl _, Nat.le_refl _⟩, fun R Q G _ _ _ _ H g => H.pop hd (upV_cat _) g⟩
theorem ok_goto {t f : Nat} (hd : Bx bytes pc .goto t f) : Ok1 l Z a0 K n0 τ y bytes maxL ret fr lo pc (xGoto t) := by
  rintro b0 ⟨pc', ls, st, A, k, n⟩ s' rfl h hl hA
  cases h
  exact ⟨⟨hl, hA, Nat.le_refl _, Nat.le_refl _⟩, fun R Q G _ _ _ _ H g => H.goto hd g⟩
theorem ok_icmp {cd : ClassFile.Cond} {t : Nat} (hd : Bx bytes pc (.if_icmp cd) t nx) : Ok1 l Z a0 K n0 τ y bytes maxL ret fr lo pc (xIcmp cd t nx) := by
  rintro b0 ⟨pc', ls, st, A, k, n⟩ s' rfl h hl hA
  simp only [xIcmp, nth_eq, nrm_eq, stK_eq, fN_eq, fI_eq] at h
  split at h
  · next v u r =>
    cases hj : (okI u && okI v) <;> simp only [hj, cond_true, cond_false] at h
    · cases h
    · cases h
      simp only [Bool.and_eq_true] at hj
      refine ⟨⟨hl, hA, Nat.le_refl _, Nat.le_refl _⟩, fun R Q G _ _ _ _ H g => ?_⟩
      cases hc : cmI cd u v <;> simp only [hc, cond_true, cond_false] at g
      · exact H.icmpF hd (cm_f hj.1 hj.2 hc) g
      · exact H.icmpT hd (cm_t hj.1 hj.2 hc) g
  · cases h
theorem ok_if {cd : ClassFile.Cond} {t : Nat} (hd : Bx bytes pc (.ifCond cd) t nx) : Ok1 l Z a0 K n0 τ y bytes maxL ret fr lo pc (xIf cd t nx) := by
  rintro b0 ⟨pc', ls, st, A, k, n⟩ s' rfl h hl hA
  simp only [xIf, nth_eq, nrm_eq, stK_eq, fN_eq, fI_eq] at h
  split at h
  · next u r =>
    cases hj : okI u <;> simp only [hj, cond_true, cond_false] at h
    · cases h
    · cases h
      refine ⟨⟨hl, hA, Nat.le_refl _, Nat.le_refl _⟩, fun R Q G _ _ _ _ H g => ?_⟩
      cases hc : cmI cd u (.ofNat 0) <;> simp only [hc, cond_true, cond_false] at g
      · exact H.ifF hd (up0 (τ := τ) ▸ cm_f hj rfl hc) g
      · exact H.ifT hd (up0 (τ := τ) ▸ cm_t hj rfl hc) g
  · cases h
theorem ok_get {idx kk j : Nat} (hd : Nx bytes pc (.getfield idx) 3 nx) (L : FL Z a0 K y.cls idx kk j) : Ok1 l Z a0 K n0 τ y bytes maxL ret fr lo pc (xGet kk j nx) := by
  rintro b0 ⟨pc', ls, st, A, k, n⟩ s' rfl h hl hA
  simp only [xGet, nth_eq, nrm_eq, stK_eq, fN_eq, fI_eq] at h
  split at h
  · next a r =>
    split at h
    · next k' vs ha =>
      cases hj : Nat.beq kk k' <;> simp only [hj, cond_true, cond_false] at h
      · cases h
      · have e := Nat.eq_of_beq_eq_true hj
        subst e
        split at h
        · next v hv =>
          cases h
          refine ⟨⟨hl, hA, Nat.le_refl _, Nat.le_refl _⟩, fun R Q G _ _ _ _ H g => ?_⟩
          exact H.getfield hd L (i := a) (upA ha) (vs := vs.map (upV n0 τ)) (v := upV n0 τ v) (by simp [hv]) g
        · cases h
    · cases h
  · cases h
theorem ok_put {idx kk j : Nat} {ty : FieldType} (hd : Nx bytes pc (.putfield idx) 3 nx) (L : PL Z a0 K y.cls y.name idx kk j ty) (hn : ∀ v, narrow ty (upV n0 τ (.inr v)) = upV n0 τ (.inr v)) (hf : ∀ v, fits ty (upV n0 τ (.inr v)) = true) : Ok1 l Z a0 K n0 τ y bytes maxL ret fr lo pc (xPut kk j nx) := by
  rintro b0 ⟨pc', ls, st, A, k, n⟩ s' rfl h hl hA
  simp only [xPut, nth_eq, nrm_eq, stK_eq, fN_eq, fI_eq] at h
  split at h
  · next v a r =>
    split at h
    · next k' vs ha =>
      cases hj : Nat.beq kk k' <;> simp only [hj, cond_true, cond_false] at h
      · cases h
      · have e := Nat.eq_of_beq_eq_true hj
        subst e
        cases h
        refine ⟨⟨hl, by simpa using hA, Nat.le_refl _, Nat.le_refl _⟩, fun R Q G _ _ _ _ H g => ?_⟩
        refine H.putfield hd L (i := a) (upA ha) (hn v) (hf v) ?_ g
        simp [List.map_set, upO]
    · cases h
  · cases h
theorem ok_iaload (hd : Nx bytes pc .iaload 1 nx) : Ok1 l Z a0 K n0 τ y bytes maxL ret fr lo pc (xIaload nx) := by
  rintro b0 ⟨pc', ls, st, A, k, n⟩ s' rfl h hl hA
  simp only [xIaload, nth_eq, nrm_eq, stK_eq, fN_eq, fI_eq] at h
  split at h
  · next z a r =>
    split at h
    · next vs ha =>
      cases hj : Nat.ble z 1000 <;> simp only [hj, cond_true, cond_false] at h
      · cases h
      · split at h
        · next v hv =>
          cases h
          refine ⟨⟨hl, hA, Nat.le_refl _, Nat.le_refl _⟩, fun R Q G _ _ _ _ H g => ?_⟩
          exact H.iaload hd (i := a) (j := z) (vs := vs.map (upV n0 τ)) (upA ha) (upI_int (okN (Nat.le_of_ble_eq_true hj))) (v := upV n0 τ v) (by simp [hv]) g
        · cases h
    · cases h
  · cases h
theorem ok_iastore (hd : Nx bytes pc .iastore 1 nx) : Ok1 l Z a0 K n0 τ y bytes maxL ret fr lo pc (xIastore nx) := by
  rintro b0 ⟨pc', ls, st, A, k, n⟩ s' rfl h hl hA
  simp only [xIastore, nth_eq, nrm_eq, stK_eq, fN_eq, fI_eq] at h
  split at h
  · next v z a r =>
    split at h
    · next vs ha =>
      cases hj : Nat.ble z 1000 <;> simp only [hj, cond_true, cond_false] at h
      · cases h
      · split at h
        · next v0 hv =>
          cases h
          have hz := (List.getElem?_eq_some_iff.mp hv).1
          refine ⟨⟨hl, by simpa using hA, Nat.le_refl _, Nat.le_refl _⟩, fun R Q G _ _ _ _ H g => ?_⟩
          refine H.iastore hd (i := a) (j := z) (vs := vs.map (upV n0 τ)) (upA ha) (upI_int (okN (Nat.le_of_ble_eq_true hj))) (by simpa using hz) ?_ g
          simp [List.map_set, upO, upV]
        · cases h
    · cases h
  · cases h
theorem ok_len (hd : Nx bytes pc .arraylength 1 nx) : Ok1 l Z a0 K n0 τ y bytes maxL ret fr lo pc (xLen nx) := by
  rintro b0 ⟨pc', ls, st, A, k, n⟩ s' rfl h hl hA
  simp only [xLen, nth_eq, nrm_eq, stK_eq, fN_eq, fI_eq] at h
  split at h
  · next a r =>
    split at h
    · next vs ha =>
      cases hj : Nat.ble vs.length 1000 <;> simp only [hj, cond_true, cond_false] at h
      · cases h
      · cases h
        have hn := Nat.le_of_ble_eq_true hj
        refine ⟨⟨hl, hA, Nat.le_refl _, Nat.le_refl _⟩, fun R Q G _ _ _ _ H g => ?_⟩
        refine H.arraylength hd (i := a) (vs := vs.map (upV n0 τ)) (upA ha) ?_ g
        apply Int32.toInt_inj.mp
        rw [upI_int (okN hn), List.length_map, len_toInt (by omega)]
        rfl
    · cases h
  · cases h
theorem ok_newA (hd : Nx bytes pc (.newarray .int) 2 nx) (w : AL Z a0 .int) : Ok1 l Z a0 K n0 τ y bytes maxL ret fr lo pc (xNewA nx) := by
  rintro b0 ⟨pc', ls, st, A, k, n⟩ s' rfl h hl hA
  simp only [xNewA, nth_eq, nrm_eq, stK_eq, fN_eq, fI_eq] at h
  split at h
  · next z r =>
    cases hj : Nat.ble z 1000 <;> simp only [hj, cond_true, cond_false] at h
    · cases h
    · cases h
      have hn := Nat.le_of_ble_eq_true hj
      refine ⟨⟨hl, by simp only [List.length_append, List.length_singleton]; simp only at hA; omega, Nat.le_add_right _ _, Nat.le_add_right _ _⟩, fun R Q G _ _ h1 h2 H g => ?_⟩
      refine H.newarray hd (ty := .int) rfl w (N := z) (cap := z) (upI_int (okN hn)) rfl (Nat.le_refl _) (by omega) (by simpa using hA) h1 h2 (i := A.length) (by simp) ?_ rfl rfl g
      simp [upO, upV, up0', defaultValue]
  · cases h
theorem ok_new {idx kk sz : Nat} {dv : List MV} (hd : Nx bytes pc (.new idx) 3 nx) (L : NL Z a0 K y.cls idx kk sz (dv.map (upV n0 τ))) : Ok1 l Z a0 K n0 τ y bytes maxL ret fr lo pc (xNew kk sz dv nx) := by
  rintro b0 ⟨pc', ls, st, A, k, n⟩ s' rfl h hl hA
  simp only [xNew, nrm_eq, fN_eq] at h
  cases h
  refine ⟨⟨hl, by simp only [List.length_append, List.length_singleton]; simp only at hA; omega, Nat.le_add_right _ _, Nat.le_add_right _ _⟩, fun R Q G _ _ h1 h2 H g => ?_⟩
  refine H.new hd L (by simpa using hA) h1 h2 (i := A.length) (by simp) ?_ rfl rfl g
  simp [upO]
theorem ok_cast {idx : Nat} (hd : Nx bytes pc (.checkcast idx) 3 nx) (w : (Jvm.Cond.classLink y.cls idx "[I").before a0 Z = true) : Ok1 l Z a0 K n0 τ y bytes maxL ret fr lo pc (xCast nx) := by
  rintro b0 ⟨pc', ls, st, A, k, n⟩ s' rfl h hl hA
  simp only [xCast, nth_eq, nrm_eq, stK_eq, fN_eq, fI_eq] at h
  split at h
  · next a r =>
    split at h
    · next vs ha =>
      cases h
      exact ⟨⟨hl, hA, Nat.le_refl _, Nat.le_refl _⟩, fun R Q G _ _ _ _ H g => H.castA hd w (i := a) (vs := vs.map (upV n0 τ)) (upA ha) (by decide) g⟩
    · cases h
  · cases h
theorem wt (r : List MV) : ((r.map (upV n0 τ)).map fun v => v.category).sum = r.length := by
  induction r with
  | nil => rfl
  | cons v r ih => simp only [List.map_cons, List.sum_cons, upV_cat, ih, List.length_cons]; omega
theorem ok_init {idx : Nat} (hd : Nx bytes pc (.invokespecial idx) 3 nx) (L : IL Z a0 y.cls idx) (hf : 1 ≤ fr) (hlo : 26 ≤ lo) : Ok1 l Z a0 K n0 τ y bytes maxL ret fr lo pc (xInit nx) := by
  rintro b0 ⟨pc', ls, st, A, k, n⟩ s' rfl h hl hA
  simp only [xInit, nth_eq, nrm_eq, stK_eq, fN_eq, fI_eq] at h
  split at h
  · next a r =>
    cases hj : Nat.ble r.length 8 <;> simp only [hj, cond_true, cond_false] at h
    · cases h
    · cases h
      have hn := Nat.le_of_ble_eq_true hj
      refine ⟨⟨hl, hA, Nat.le_refl _, Nat.le_refl _⟩, fun R Q G e1 e2 _ _ H g => ?_⟩
      exact H.initO hd L (a := n0 + a) (by simpa using hl) (by omega) (by rw [wt]; omega) g
  · cases h
theorem ok_clone {idx : Nat} (hd : Nx bytes pc (.invokevirtual idx) 3 nx) (L : KL Z a0 y.cls idx "[I") (hf : 1 ≤ fr) (hlo : 26 ≤ lo) : Ok1 l Z a0 K n0 τ y bytes maxL ret fr lo pc (xClone nx) := by
  rintro b0 ⟨pc', ls, st, A, k, n⟩ s' rfl h hl hA
  simp only [xClone, nth_eq, nrm_eq, stK_eq, fN_eq, fI_eq] at h
  split at h
  · next a r =>
    split at h
    · next vs ha =>
      cases hj : (Nat.ble r.length 8 && Nat.ble vs.length 1000) <;> simp only [hj, cond_true, cond_false] at h
      · cases h
      · cases h
        simp only [Bool.and_eq_true] at hj
        have h8 := Nat.le_of_ble_eq_true hj.1
        have hn := Nat.le_of_ble_eq_true hj.2
        refine ⟨⟨hl, by simp only [List.length_append, List.length_singleton]; simp only at hA; omega, Nat.le_add_right _ _, Nat.le_add_right _ _⟩, fun R Q G e1 e2 h1 h2 H g => ?_⟩
        refine H.clone hd L (i := a) (ii := A.length) (cap := vs.length) (vs := vs.map (upV n0 τ)) (upA ha) (by decide) (by simp; omega) (by simp) (by simpa using hl) (by omega) (by rw [wt]; omega) (by simpa using hA) h1 h2 (by simp) ?_ rfl rfl g
        simp [upO]
    · cases h
  · cases h
theorem ok_copy {idx : Nat} (hd : Nx bytes pc (.invokestatic idx) 3 nx) (L : XL Z a0 y.cls idx) (hf : 1 ≤ fr) (hlo : 26 ≤ lo) : Ok1 l Z a0 K n0 τ y bytes maxL ret fr lo pc (xCopy nx) := by
  rintro b0 ⟨pc', ls, st, A, k, n⟩ s' rfl h hl hA
  simp only [xCopy, nth_eq, nrm_eq, stK_eq, fN_eq, fI_eq] at h
  split at h
  · next c d b s a r =>
    split at h
    · next vs vd ha hb =>
      cases hj : (Nat.ble r.length 8 && Nat.ble vs.length 1000 && Nat.ble vd.length 1000 && Nat.ble (s + c) vs.length && Nat.ble (d + c) vd.length) <;> simp only [hj, cond_true, cond_false] at h
      · cases h
      · cases h
        simp only [Bool.and_eq_true] at hj
        have h8 := Nat.le_of_ble_eq_true hj.1.1.1.1
        have hv := Nat.le_of_ble_eq_true hj.1.1.1.2
        have hw := Nat.le_of_ble_eq_true hj.1.1.2
        have q1 := Nat.le_of_ble_eq_true hj.1.2
        have q2 := Nat.le_of_ble_eq_true hj.2
        refine ⟨⟨hl, by simpa using hA, Nat.le_refl _, Nat.le_refl _⟩, fun R Q G e1 e2 _ _ H g => ?_⟩
        refine H.arraycopy hd L (i := a) (j := b) (vs := vs.map (upV n0 τ)) (vd := vd.map (upV n0 τ)) (upA ha) (upA hb) rfl (p := s) (q := d) (r := c) (upI_int (okN (by omega))) (upI_int (okN (by omega))) (upI_int (okN (by omega))) (by simpa using q1) (by simpa using q2) (by simp; omega) (by simp; omega) (us := ((List.range c).map (fun i => vs.getD (s + i) nul)).map (upV n0 τ)) ?_ (by simpa using hl) (by omega) (by rw [wt]; show _ + (7 + 11) ≤ _; omega) (by simpa using hA) ?_ g
        · rw [List.map_map]
          apply List.map_congr_left
          intro i hi
          have hi' := List.mem_range.mp hi
          have : s + i < vs.length := by omega
          simp [List.getD, this]
        · simp [List.map_set, upO, List.map_take, List.map_drop]
    · cases h
  · cases h
theorem ok_seq {m : Nat} {f g : MS → Option MS} (hf : Ok1 l Z a0 K n0 τ y bytes maxL ret fr lo pc f) (hg : Ok1 l Z a0 K n0 τ y bytes maxL ret fr lo m g) : Ok1 l Z a0 K n0 τ y bytes maxL ret fr lo pc (xSeq m f g) := by
  intro b0 s s' hp h hl hA
  simp only [xSeq] at h
  split at h
  · next s1 h1 =>
    cases hj : Nat.beq s1.1 m <;> simp only [hj, cond_true, cond_false] at h
    · cases h
    · obtain ⟨⟨a1, a2, a3, a4⟩, a5⟩ := hf b0 s s1 hp h1 hl hA
      obtain ⟨⟨c1, c2, c3, c4⟩, c5⟩ := hg b0 s1 s' (Nat.eq_of_beq_eq_true hj) h a1 a2
      exact ⟨⟨c1, c2, Nat.le_trans a3 c3, Nat.le_trans a4 c4⟩, fun R Q G e1 e2 e3 e4 H w => a5 R Q G e1 e2 (Nat.le_trans c3 e3) (Nat.le_trans c4 e4) H (c5 R Q G e1 e2 e3 e4 H w)⟩
  · cases h
end Steps
def rcv (kd np : Nat) (st : List MV) (A : List MO) : Bool := match kd with
  | 0 => true
  | 1 => match st[np - 1]? with | some (.inr (_ + 1)) => true | _ => false
  | kk + 2 => match st[np - 1]? with
    | some (.inr (i + 1)) => match A[i]? with | some (.inl (k', _)) => Nat.beq k' kk | _ => false
    | _ => false
abbrev MR : Type := Option MV × List MO × Nat × Nat
def run (tab : Nat → Nat → Option ME) (ml fr lo : Nat → Nat) : Nat → Nat → MS → Option MR
  | 0, _, _ => none
  | f + 1, q, s => match tab q s.1 with
    | none => none
    | some (.inl x) => match x s with
      | some s' => run tab ml fr lo f q s'
      | none => none
    | some (.inr (.inr b)) => match b with
      | 0 => (match s.2.2.1 with | [] => some (none, s.2.2.2.1, s.2.2.2.2.1, s.2.2.2.2.2) | _ => none)
      | 1 => (match s.2.2.1 with | .inl v :: _ => some (some (.inl v), s.2.2.2.1, s.2.2.2.2.1, s.2.2.2.2.2) | _ => none)
      | _ + 2 => (match s.2.2.1 with | .inl (.ofNat v) :: _ => bif Nat.ble v 1 then some (some (.inl (.ofNat v)), s.2.2.2.1, s.2.2.2.2.1, s.2.2.2.2.2) else none | _ => none)
    | some (.inr (.inl (z, np, kd, mx, non))) => bif rcv kd np s.2.2.1 s.2.2.2.1 then
        tk np s.2.2.1 non (fun ls' rest => bif Nat.ble rest.length mx then
          (match run tab ml fr lo f z (0, ls', [], s.2.2.2.1, 0, 0) with
          | some (v, A', k', n') => fN (s.1 + 3) fun pc' => fN (s.2.2.2.2.1 + k') fun k2 => fN (s.2.2.2.2.2 + n') fun n2 => (match v with
            | none => run tab ml fr lo f q (pc', s.2.1, rest, A', k2, n2)
            | some w => run tab ml fr lo f q (pc', s.2.1, w :: rest, A', k2, n2))
          | none => none) else none) none
      else none
section Run
variable {l : Launch} {Z : State} {a0 : Array Value} {K : KTab} {n0 : Nat} {τ : Int → Int32}
theorem laid_up (L : List MV) : Jvm.Sym.laidSlots (L.map (upV n0 τ)) = L.map (fun v => Slot.val (upV n0 τ v)) := by
  induction L with
  | nil => rfl
  | cons v L ih => simp [Jvm.Sym.laidSlots, upV_cat, ih]
theorem entry_up (m : MethodId) (L : List MV) (maxL : Nat) : entryFrame m (L.map (upV n0 τ)).toArray maxL = mkF m 0 ((L.map some ++ List.replicate (maxL - L.length) none).map (upL n0 τ)).toArray [] := by
  have e : argsToLocals (L.map (upV n0 τ)).toArray maxL = ((L.map some ++ List.replicate (maxL - L.length) none).map (upL n0 τ)).toArray := by
    apply Array.toList_inj.mp
    rw [Jvm.Sym.argsToLocals_toList]
    simp only [laid_up, List.length_map, List.map_append, List.map_map, List.map_replicate]
    rfl
  simp only [entryFrame, mkF, e]
def OkC (l : Launch) (Z : State) (a0 : Array Value) (K : KTab) (n0 : Nat) (τ : Int → Int32) (y : MethodName) (bytes : ByteArray) (maxL : Nat) (ret : Option FieldType) (pc : Nat) (zy : MethodName) (zb : ByteArray) (zm : Nat) (zr : Option FieldType) (np kd : Nat) : Prop :=
  ∀ (b0 : Nat) (ls : List (Option MV)) (st : List MV) (A : List MO) (k n : Nat) (rm : Room) (vo : Option Value) (A' : List Ob) (R : Room) (Q : Option Value → List Ob → Prop) (G : GoT), np ≤ st.length → ls.length = maxL → rcv kd np st A = true → Met l Z K n0 zy zb zm zr rm (((st.take np).reverse).map (upV n0 τ)).toArray (A.map (upO n0 τ)) (Is vo A') →
    rm.frames + 1 ≤ R.frames → (st.drop np).length + (zm + 11) + rm.locals ≤ R.locals → k + rm.cells ≤ R.cells → n + rm.slots ≤ R.slots → IsGo l Z a0 K n0 b0 y bytes maxL ret R Q G →
    G (pc + 3) (ls.map (upL n0 τ)).toArray (vo.toList ++ (st.drop np).map (upV n0 τ)) A' (k + rm.cells) (n + rm.slots) → G pc (ls.map (upL n0 τ)).toArray (st.map (upV n0 τ)) (A.map (upO n0 τ)) k n
section Calls
variable {y zy : MethodName} {bytes zb : ByteArray} {maxL zm pc idx np kk : Nat} {ret zr : Option FieldType}
theorem take_at {st : List MV} {m : Nat} {v : MV} (h : st[m]? = some v) : (st.take (m + 1)).reverse = v :: (st.take m).reverse ∧ st = st.take m ++ v :: st.drop (m + 1) := by
  obtain ⟨hl, e⟩ := List.getElem?_eq_some_iff.mp h
  constructor
  · rw [List.take_add_one, h]; simp
  · rw [← e, ← List.drop_eq_getElem_cons hl, List.take_append_drop]
theorem okc_s (hd : Nx bytes pc (.invokestatic idx) 3 (pc + 3)) (L : SL Z a0 y.cls idx zy zb zm zr np) : OkC l Z a0 K n0 τ y bytes maxL ret pc zy zb zm zr np 0 := by
  intro b0 ls st A k n rm vo A' R Q G h1 h2 h3 M h4 h5 h6 h7 H g
  refine H.callSD hd L M (argsL := ((st.take np).reverse).map (upV n0 τ)) (rest := (st.drop np).map (upV n0 τ)) rfl (by simp; omega) ?_ (by simpa using h2) h4 (by rw [wt]; exact h5) h6 h7 rfl rfl rfl g
  rw [← List.map_reverse, List.reverse_reverse, ← List.map_append, List.take_append_drop]
theorem okc_c (hd : Nx bytes pc (.invokespecial idx) 3 (pc + 3)) (L : CL Z a0 y.cls idx zy zb zm np) : OkC l Z a0 K n0 τ y bytes maxL ret pc zy zb zm none (np + 1) 1 := by
  intro b0 ls st A k n rm vo A' R Q G h1 h2 h3 M h4 h5 h6 h7 H g
  simp only [rcv, Nat.add_sub_cancel] at h3
  split at h3
  · next i e =>
    obtain ⟨t1, t2⟩ := take_at e
    refine H.callCD hd L M (a := n0 + i) (argsL := ((st.take np).reverse).map (upV n0 τ)) (rest := (st.drop (np + 1)).map (upV n0 τ)) ?_ (by simp; omega) ?_ (by simpa using h2) h4 (by rw [wt]; exact h5) h6 h7 rfl rfl rfl g
    · rw [t1]; rfl
    · conv => lhs; rw [t2]
      rw [← List.map_reverse, List.reverse_reverse, List.map_append]; rfl
  · cases h3
theorem okc_v (hd : Nx bytes pc (.invokevirtual idx) 3 (pc + 3)) (L : VL Z a0 K y.cls idx kk zy zb zm zr np) : OkC l Z a0 K n0 τ y bytes maxL ret pc zy zb zm zr (np + 1) (kk + 2) := by
  intro b0 ls st A k n rm vo A' R Q G h1 h2 h3 M h4 h5 h6 h7 H g
  simp only [rcv, Nat.add_sub_cancel] at h3
  split at h3
  · next i e =>
    split at h3
    · next k' vs ha =>
      have ek := Nat.eq_of_beq_eq_true h3
      subst ek
      obtain ⟨t1, t2⟩ := take_at e
      refine H.callVD hd L M (i := i) (vs := vs.map (upV n0 τ)) (upA ha) (argsL := ((st.take np).reverse).map (upV n0 τ)) (rest := (st.drop (np + 1)).map (upV n0 τ)) ?_ (by simp; omega) ?_ (by simpa using h2) h4 (by rw [wt]; exact h5) h6 h7 rfl rfl rfl g
      · rw [t1]; rfl
      · conv => lhs; rw [t2]
        rw [← List.map_reverse, List.reverse_reverse, List.map_append]; rfl
    · cases h3
  · cases h3
theorem okc_m (hd : Nx bytes pc (.invokevirtual idx) 3 (pc + 3)) (L : ML Z a0 K y.cls idx kk zy zb zm zr np) : OkC l Z a0 K n0 τ y bytes maxL ret pc zy zb zm zr (np + 1) (kk + 2) := by
  intro b0 ls st A k n rm vo A' R Q G h1 h2 h3 M h4 h5 h6 h7 H g
  simp only [rcv, Nat.add_sub_cancel] at h3
  split at h3
  · next i e =>
    split at h3
    · next k' vs ha =>
      have ek := Nat.eq_of_beq_eq_true h3
      subst ek
      obtain ⟨t1, t2⟩ := take_at e
      refine H.callMD hd L M (i := i) (vs := vs.map (upV n0 τ)) (upA ha) (argsL := ((st.take np).reverse).map (upV n0 τ)) (rest := (st.drop (np + 1)).map (upV n0 τ)) ?_ (by simp; omega) ?_ (by simpa using h2) h4 (by rw [wt]; exact h5) h6 h7 rfl rfl rfl g
      · rw [t1]; rfl
      · conv => lhs; rw [t2]
        rw [← List.map_reverse, List.reverse_reverse, List.map_append]; rfl
    · cases h3
  · cases h3
end Calls
/-- every row of the tables is sound -/
def TabOk (l : Launch) (Z : State) (a0 : Array Value) (K : KTab) (n0 : Nat) (τ : Int → Int32) (tab : Nat → Nat → Option ME) (ml fr lo : Nat → Nat) (yy : Nat → MethodName) (bb : Nat → ByteArray) (rr : Nat → Option FieldType) : Prop :=
  (∀ q pc e, tab q pc = some e → match e with
    | .inl x => Ok1 l Z a0 K n0 τ (yy q) (bb q) (ml q) (rr q) (fr q) (lo q) pc x
    | .inr (.inr 0) => Nx (bb q) pc .return_ 1 (pc + 1) ∧ rr q = none
    | .inr (.inr 1) => Nx (bb q) pc .ireturn 1 (pc + 1) ∧ rr q = some .int
    | .inr (.inr (_ + 2)) => Nx (bb q) pc .ireturn 1 (pc + 1) ∧ rr q = some .boolean
    | .inr (.inl (z, np, kd, mx, non)) => (np ≤ ml z ∧ fr z + 1 ≤ fr q ∧ mx + (ml z + 11) + lo z ≤ lo q ∧ non = List.replicate (ml z - np) none) ∧ plainFor (yy z) = true ∧ OkC l Z a0 K n0 τ (yy q) (bb q) (ml q) (rr q) pc (yy z) (bb z) (ml z) (rr z) np kd) ∧ KOk Z a0 K
theorem run_ok {tab : Nat → Nat → Option ME} {ml fr lo : Nat → Nat} {yy : Nat → MethodName} {bb : Nat → ByteArray} {rr : Nat → Option FieldType} (T : TabOk l Z a0 K n0 τ tab ml fr lo yy bb rr) :
    ∀ (f q : Nat) (s : MS) (r : MR), run tab ml fr lo f q s = some r → s.2.1.length = ml q → ∀ b0 : Nat, s.2.2.2.1.length = b0 + s.2.2.2.2.1 →
      (s.2.2.2.2.1 ≤ r.2.2.1 ∧ s.2.2.2.2.2 ≤ r.2.2.2 ∧ r.2.1.length = b0 + r.2.2.1) ∧
      ∀ (R : Room) (G : GoT), R.frames = fr q → R.locals = lo q → r.2.2.1 ≤ R.cells → r.2.2.2 ≤ R.slots → IsGo l Z a0 K n0 b0 (yy q) (bb q) (ml q) (rr q) R (Is (r.1.map (upV n0 τ)) (r.2.1.map (upO n0 τ))) G → Gu n0 τ G s := by
  intro f
  induction f with
  | zero => intro q s r h; cases h
  | succ f ih =>
    intro q s r h hl b0 hA
    obtain ⟨pc, ls, st, A, k, n⟩ := s
    simp only [run, nrm_eq, fN_eq] at h
    split at h
    · cases h
    · next x ht =>
      have t := T.1 _ _ _ ht
      split at h
      · next s' hs =>
        obtain ⟨⟨a1, a2, a3, a4⟩, a5⟩ := t b0 _ s' rfl hs hl hA
        obtain ⟨⟨c1, c2, c3⟩, c4⟩ := ih q s' r h a1 b0 a2
        refine ⟨⟨Nat.le_trans a3 c1, Nat.le_trans a4 c2, c3⟩, fun R G e1 e2 e3 e4 H => ?_⟩
        exact a5 R _ G e1 e2 (Nat.le_trans c1 e3) (Nat.le_trans c2 e4) H (c4 R G e1 e2 e3 e4 H)
      · cases h
    · next b ht =>
      have t := T.1 _ _ _ ht
      match b, t with
      | 0, t =>
        simp only at h
        split at h
        · cases h
          refine ⟨⟨Nat.le_refl _, Nat.le_refl _, hA⟩, fun R G e1 e2 e3 e4 H => ?_⟩
          exact H.vreturn t.1 t.2 ⟨rfl, rfl⟩ e3 e4
        · cases h
      | 1, t =>
        simp only at h
        split at h
        · next v rest =>
          cases h
          refine ⟨⟨Nat.le_refl _, Nat.le_refl _, hA⟩, fun R G e1 e2 e3 e4 H => ?_⟩
          exact H.ireturn t.1 t.2 (by simp) rfl ⟨rfl, rfl⟩ e3 e4
        · cases h
      | b' + 2, t =>
        simp only at h
        split at h
        · next v rest =>
          cases hv : Nat.ble v 1 <;> simp only [hv, cond_true, cond_false] at h
          · cases h
          · cases h
            have hv := Nat.le_of_ble_eq_true hv
            refine ⟨⟨Nat.le_refl _, Nat.le_refl _, hA⟩, fun R G e1 e2 e3 e4 H => ?_⟩
            refine H.ireturn t.1 t.2 (by simp) ?_ ⟨rfl, rfl⟩ e3 e4
            rcases (by omega : v = 0 ∨ v = 1) with rfl | rfl
            · rw [upI_ok (show okI (.ofNat 0) = true from rfl), show Int32.ofInt (.ofNat 0) = 0 by decide]; rfl
            · rw [upI_ok (show okI (.ofNat 1) = true from rfl), show Int32.ofInt (.ofNat 1) = 1 by decide]; rfl
        · cases h
    · next z np kd mx non ht =>
      obtain ⟨⟨j2, j3, j4, rfl⟩, tp, tc⟩ := T.1 _ _ _ ht
      cases j5 : rcv kd np st A <;> simp only [j5, cond_true, cond_false] at h
      · cases h
      · rw [tk_eq] at h
        cases j1 : Nat.ble np st.length <;> simp only [tkS, j1, cond_true, cond_false] at h
        · cases h
        · cases j6 : Nat.ble (st.drop np).length mx <;> simp only [j6, cond_true, cond_false] at h
          · cases h
          · have j1 := Nat.le_of_ble_eq_true j1
            have j6 := Nat.le_of_ble_eq_true j6
            split at h
            · next v A' k' n' hr =>
              have h : run tab ml fr lo f q (pc + 3, ls, v.toList ++ st.drop np, A', k + k', n + n') = some r := by
                cases v with
                | none => exact h
                | some w => exact h
              have hlen : ((st.take np).reverse.map some ++ List.replicate (ml z - np) none : List (Option MV)).length = ml z := by simp; omega
              obtain ⟨⟨c1, c2, c3⟩, c4⟩ := ih z _ _ hr hlen A.length (by simp)
              have M : Met l Z K n0 (yy z) (bb z) (ml z) (rr z) ({ frames := fr z, cells := k', slots := n', locals := lo z } : Room) (((st.take np).reverse).map (upV n0 τ)).toArray (A.map (upO n0 τ)) (Is (v.map (upV n0 τ)) (A'.map (upO n0 τ))) := by
                refine Met.of (a0 := a0) (ls := (((st.take np).reverse.map some ++ List.replicate (ml z - np) none).map (upL n0 τ)).toArray) T.2 tp (fun m => ?_) (fun G H => ?_)
                · have q := entry_up (n0 := n0) (τ := τ) m (st.take np).reverse (ml z)
                  rw [q]
                  simp [Nat.min_eq_left j1]
                · rw [List.length_map] at H
                  exact c4 _ G rfl rfl (Nat.le_refl _) (Nat.le_refl _) H
              obtain ⟨⟨d1, d2, d3⟩, d4⟩ := ih q _ r h hl b0 (by simp only at hA c3 ⊢; omega)
              simp only at d1 d2
              refine ⟨⟨by simp only; omega, by simp only; omega, d3⟩, fun R G e1 e2 e3 e4 H => ?_⟩
              have g := d4 R G e1 e2 e3 e4 H
              refine tc b0 ls st A k n _ _ _ R _ G j1 hl j5 M (by simp only; omega) (by simp only; omega) (by simp only; omega) (by simp only; omega) H ?_
              simp only [Gu, List.map_append] at g
              cases v with
              | none => exact g
              | some w => exact g
            · cases h
end Run
section Tab
/-- the tables: trees by pc -/
def lf (p : Nat) (e : ME) : Nat → Option ME := fun pc => bif Nat.beq pc p then some e else none
def nd (m : Nat) (a b : Nat → Option ME) : Nat → Option ME := fun pc => bif Nat.ble pc m then a pc else b pc
def no : Nat → Option ME := fun _ => none
def qn (p : Nat) (a : Nat → Option ME) (b : Nat → Nat → Option ME) : Nat → Nat → Option ME := fun q pc => bif Nat.beq q p then a pc else b q pc
def qo : Nat → Nat → Option ME := fun _ _ => none
def AllT (P : Nat → ME → Prop) (f : Nat → Option ME) : Prop := ∀ pc e, f pc = some e → P pc e
theorem LF {P : Nat → ME → Prop} {p : Nat} {e : ME} (h : P p e) : AllT P (lf p e) := by
  intro pc e' h'
  simp only [lf] at h'
  cases hq : Nat.beq pc p <;> simp only [hq, cond_true, cond_false] at h'
  · cases h'
  · cases h'; rw [Nat.eq_of_beq_eq_true hq]; exact h
theorem ND {P : Nat → ME → Prop} {m : Nat} {a b : Nat → Option ME} (h1 : AllT P a) (h2 : AllT P b) : AllT P (nd m a b) := by
  intro pc e' h'
  simp only [nd] at h'
  cases hq : Nat.ble pc m <;> simp only [hq, cond_true, cond_false] at h'
  · exact h2 _ _ h'
  · exact h1 _ _ h'
theorem NO {P : Nat → ME → Prop} : AllT P no := by
  intro pc e' h'; cases h'
def AllQ (P : Nat → Nat → ME → Prop) (f : Nat → Nat → Option ME) : Prop := ∀ q pc e, f q pc = some e → P q pc e
theorem QN {P : Nat → Nat → ME → Prop} {p : Nat} {a : Nat → Option ME} {b : Nat → Nat → Option ME} (h1 : AllT (P p) a) (h2 : AllQ P b) : AllQ P (qn p a b) := by
  intro q pc e' h'
  simp only [qn] at h'
  cases hq : Nat.beq q p <;> simp only [hq, cond_true, cond_false] at h'
  · exact h2 _ _ _ h'
  · rw [Nat.eq_of_beq_eq_true hq]; exact h1 _ _ h'
theorem QO {P : Nat → Nat → ME → Prop} : AllQ P qo := by
  intro q pc e' h'; cases h'
end Tab
theorem met_run {l : Launch} {Z : State} {a0 : Array Value} {K : KTab} {n0 : Nat} {τ : Int → Int32} {tab : Nat → Nat → Option ME} {ml fr lo : Nat → Nat} {yy : Nat → MethodName} {bb : Nat → ByteArray} {rr : Nat → Option FieldType} (T : TabOk l Z a0 K n0 τ tab ml fr lo yy bb rr) {f q : Nat} {args : List MV} {A A' : List MO} {v : Option MV} {k n : Nat} (hp : plainFor (yy q) = true) (hn : args.length ≤ ml q)
    (h : run tab ml fr lo f q (0, args.map some ++ List.replicate (ml q - args.length) none, [], A, 0, 0) = some (v, A', k, n)) : Met l Z K n0 (yy q) (bb q) (ml q) (rr q) ({ frames := fr q, cells := k, slots := n, locals := lo q } : Room) (args.map (upV n0 τ)).toArray (A.map (upO n0 τ)) (Is (v.map (upV n0 τ)) (A'.map (upO n0 τ))) := by
  obtain ⟨⟨c1, c2, c3⟩, c4⟩ := run_ok T f q _ _ h (by simp; omega) A.length (by simp)
  refine Met.of (a0 := a0) (ls := ((args.map some ++ List.replicate (ml q - args.length) none).map (upL n0 τ)).toArray) T.2 hp (fun m => entry_up m args (ml q)) (fun G H => ?_)
  rw [List.length_map] at H
  exact c4 _ G rfl rfl (Nat.le_refl _) (Nat.le_refl _) H

/-- a body's run up to a given pc -/
def seg (tab : Nat → Nat → Option ME) (ml fr lo : Nat → Nat) (stop : Nat) : Nat → Nat → MS → Option MS
  | 0, _, _ => none
  | f + 1, q, s => bif Nat.beq s.1 stop then some s else match tab q s.1 with
    | none => none
    | some (.inl x) => match x s with
      | some s' => seg tab ml fr lo stop f q s'
      | none => none
    | some (.inr (.inr _)) => none
    | some (.inr (.inl (z, np, kd, mx, non))) => bif rcv kd np s.2.2.1 s.2.2.2.1 then
        tk np s.2.2.1 non (fun ls' rest => bif Nat.ble rest.length mx then
          (match run tab ml fr lo f z (0, ls', [], s.2.2.2.1, 0, 0) with
          | some (v, A', k', n') => fN (s.1 + 3) fun pc' => fN (s.2.2.2.2.1 + k') fun k2 => fN (s.2.2.2.2.2 + n') fun n2 => (match v with
            | none => seg tab ml fr lo stop f q (pc', s.2.1, rest, A', k2, n2)
            | some w => seg tab ml fr lo stop f q (pc', s.2.1, w :: rest, A', k2, n2))
          | none => none) else none) none
      else none
theorem seg_ok {l : Launch} {Z : State} {a0 : Array Value} {K : KTab} {n0 : Nat} {τ : Int → Int32} {tab : Nat → Nat → Option ME} {ml fr lo : Nat → Nat} {yy : Nat → MethodName} {bb : Nat → ByteArray} {rr : Nat → Option FieldType} (T : TabOk l Z a0 K n0 τ tab ml fr lo yy bb rr) {stop : Nat} :
    ∀ (f q : Nat) (s s' : MS), seg tab ml fr lo stop f q s = some s' → s.2.1.length = ml q → ∀ b0 : Nat, s.2.2.2.1.length = b0 + s.2.2.2.2.1 →
      (s'.2.1.length = ml q ∧ s'.2.2.2.1.length = b0 + s'.2.2.2.2.1 ∧ s.2.2.2.2.1 ≤ s'.2.2.2.2.1 ∧ s.2.2.2.2.2 ≤ s'.2.2.2.2.2) ∧
      ∀ (R : Room) (Q : Option Value → List Ob → Prop) (G : GoT), R.frames = fr q → R.locals = lo q → s'.2.2.2.2.1 ≤ R.cells → s'.2.2.2.2.2 ≤ R.slots → IsGo l Z a0 K n0 b0 (yy q) (bb q) (ml q) (rr q) R Q G → Gu n0 τ G s' → Gu n0 τ G s := by
  intro f
  induction f with
  | zero => intro q s r h; cases h
  | succ f ih =>
    intro q s r h hl b0 hA
    obtain ⟨pc, ls, st, A, k, n⟩ := s
    simp only [seg, nrm_eq, fN_eq] at h
    cases hp : Nat.beq pc stop <;> simp only [hp, cond_true, cond_false] at h
    · split at h
      · cases h
      · next x ht =>
        have t := T.1 _ _ _ ht
        split at h
        · next s' hs =>
          obtain ⟨⟨a1, a2, a3, a4⟩, a5⟩ := t b0 _ s' rfl hs hl hA
          obtain ⟨⟨c0, c1, c2, c3⟩, c4⟩ := ih q s' r h a1 b0 a2
          refine ⟨⟨c0, c1, Nat.le_trans a3 c2, Nat.le_trans a4 c3⟩, fun R Q G e1 e2 e3 e4 H g => ?_⟩
          exact a5 R _ G e1 e2 (Nat.le_trans c2 e3) (Nat.le_trans c3 e4) H (c4 R Q G e1 e2 e3 e4 H g)
        · cases h
      · cases h
      · next z np kd mx non ht =>
        obtain ⟨⟨j2, j3, j4, rfl⟩, tp, tc⟩ := T.1 _ _ _ ht
        cases j5 : rcv kd np st A <;> simp only [j5, cond_true, cond_false] at h
        · cases h
        · rw [tk_eq] at h
          cases j1 : Nat.ble np st.length <;> simp only [tkS, j1, cond_true, cond_false] at h
          · cases h
          · cases j6 : Nat.ble (st.drop np).length mx <;> simp only [j6, cond_true, cond_false] at h
            · cases h
            · have j1 := Nat.le_of_ble_eq_true j1
              have j6 := Nat.le_of_ble_eq_true j6
              split at h
              · next v A' k' n' hr =>
                have h : seg tab ml fr lo stop f q (pc + 3, ls, v.toList ++ st.drop np, A', k + k', n + n') = some r := by
                  cases v with
                  | none => exact h
                  | some w => exact h
                have hlen : ((st.take np).reverse.map some ++ List.replicate (ml z - np) none : List (Option MV)).length = ml z := by simp; omega
                have hnp : (st.take np).reverse.length = np := by simp; omega
                obtain ⟨⟨c1, c2, c3⟩, -⟩ := run_ok T f z _ _ hr hlen A.length (by simp)
                have M := met_run T (f := f) (q := z) (args := (st.take np).reverse) (A := A) tp (by omega) (by rw [hnp]; exact hr)
                obtain ⟨⟨d0, d1, d2, d3⟩, d4⟩ := ih q _ r h hl b0 (by simp only at hA c3 ⊢; omega)
                simp only at d2 d3
                refine ⟨⟨d0, d1, by simp only; omega, by simp only; omega⟩, fun R Q G e1 e2 e3 e4 H g => ?_⟩
                have g := d4 R Q G e1 e2 e3 e4 H g
                refine tc b0 ls st A k n _ _ _ R _ G j1 hl j5 M (by simp only; omega) (by simp only; omega) (by simp only; omega) (by simp only; omega) H ?_
                simp only [Gu, List.map_append] at g
                cases v with
                | none => exact g
                | some w => exact g
              · cases h
    · cases h
      exact ⟨⟨hl, hA, Nat.le_refl _, Nat.le_refl _⟩, fun R Q G _ _ _ _ _ g => g⟩
def eqV : MV → MV → Bool
  | .inl a, .inl b => eqI a b
  | .inr a, .inr b => Nat.beq a b
  | _, _ => false
def eqS : Option MV → Option MV → Bool
  | some a, some b => eqV a b
  | none, none => true
  | _, _ => false
def eqL {α : Type} (f : α → α → Bool) : List α → List α → Bool
  | [], [] => true
  | a :: A, b :: B => f a b && eqL f A B
  | _, _ => false
def eqO : MO → MO → Bool
  | .inl (k, a), .inl (k', b) => Nat.beq k k' && eqL eqV a b
  | .inr a, .inr b => eqL eqV a b
  | _, _ => false
def eqM : MS → MS → Bool := fun (pc, ls, st, A, k, n) (pc', ls', st', A', k', n') => Nat.beq pc pc' && eqL eqS ls ls' && eqL eqV st st' && eqL eqO A A' && Nat.beq k k' && Nat.beq n n'
theorem eqV_ok : ∀ {a b : MV}, eqV a b = true → a = b
  | .inl a, .inl b, h => congrArg Sum.inl ((eqI_iff a b).mp h)
  | .inr a, .inr b, h => congrArg Sum.inr (Nat.eq_of_beq_eq_true h)
theorem eqS_ok : ∀ {a b : Option MV}, eqS a b = true → a = b
  | some a, some b, h => congrArg some (eqV_ok h)
  | none, none, _ => rfl
theorem eqL_ok {α : Type} {f : α → α → Bool} (hf : ∀ {a b}, f a b = true → a = b) : ∀ {A B : List α}, eqL f A B = true → A = B
  | [], [], _ => rfl
  | a :: A, b :: B, h => by
    simp only [eqL, Bool.and_eq_true] at h
    rw [hf h.1, eqL_ok hf h.2]
theorem eqO_ok : ∀ {a b : MO}, eqO a b = true → a = b
  | .inl (k, a), .inl (k', b), h => by
    simp only [eqO, Bool.and_eq_true] at h
    rw [Nat.eq_of_beq_eq_true h.1, eqL_ok eqV_ok h.2]
  | .inr a, .inr b, h => congrArg Sum.inr (eqL_ok eqV_ok h)
theorem eqM_ok : ∀ {s t : MS}, eqM s t = true → s = t
  | (pc, ls, st, A, k, n), (pc', ls', st', A', k', n'), h => by
    simp only [eqM, Bool.and_eq_true] at h
    obtain ⟨⟨⟨⟨⟨h1, h2⟩, h3⟩, h4⟩, h5⟩, h6⟩ := h
    rw [Nat.eq_of_beq_eq_true h1, eqL_ok eqS_ok h2, eqL_ok eqV_ok h3, eqL_ok eqO_ok h4, Nat.eq_of_beq_eq_true h5, Nat.eq_of_beq_eq_true h6]
/-- the run's end is this state -/
def isM (r : Option MS) (t : MS) : Bool := match r with | some s => eqM s t | none => false
theorem isM_ok {r : Option MS} {t : MS} (h : isM r t = true) : r = some t := by
  cases r with
  | none => cases h
  | some s => exact congrArg some (eqM_ok h)
end Jvm.OwnI

namespace Jvm.Pilot.@@N@@
open Jvm Jvm.ClassFile Sem Op Lib Jvm.Free Jvm.Stand Jvm.LawKit Jvm.RoadKit Jvm.OwnKit Jvm.OwnI Bundle Jvm.Pilot.@@N@@.Jvm.D
abbrev HW1 (Z : State) (a0 : Array Value) : Prop := ∀ d ∈ tables_1, d.before a0 Z = true
def KT : KTab := [("com/example/sluice/sluice/algo/SpanningTree", [("com/example/sluice/sluice/algo/SpanningTree", "parent", "[I"), ("com/example/sluice/sluice/algo/SpanningTree", "arc", "[I"), ("com/example/sluice/sluice/algo/SpanningTree", "size", "[I"), ("com/example/sluice/sluice/algo/SpanningTree", "following", "[I"), ("com/example/sluice/sluice/algo/SpanningTree", "preceding", "[I"), ("com/example/sluice/sluice/algo/SpanningTree", "last", "[I")]), ("com/example/sluice/sluice/algo/ByVertex", [("com/example/sluice/sluice/algo/ByVertex", "start", "[I"), ("com/example/sluice/sluice/algo/ByVertex", "items", "[I")])]
abbrev y1 : MethodName := ⟨"com/example/sluice/sluice/algo/SpanningTreeFirstOutsidePinLaw", "pick", "(II)I"⟩
abbrev y2 : MethodName := ⟨"com/example/sluice/sluice/algo/SpanningTreeFirstOutsidePinLaw", "fix", "([III)I"⟩
abbrev y3 : MethodName := ⟨"com/example/sluice/sluice/algo/SpanningTreeFirstOutsidePinLaw", "climbs", "([III)Z"⟩
abbrev y4 : MethodName := ⟨"com/example/sluice/sluice/algo/SpanningTree", "<init>", "(I[I[I)V"⟩
abbrev y5 : MethodName := ⟨"java/lang/Object", "<init>", "()V"⟩
abbrev y6 : MethodName := ⟨"com/example/sluice/sluice/algo/ByVertex", "<init>", "([II)V"⟩
abbrev y7 : MethodName := ⟨"com/example/sluice/sluice/algo/ByVertex", "end", "(I)I"⟩
abbrev y8 : MethodName := ⟨"com/example/sluice/sluice/algo/ByVertex", "start", "(I)I"⟩
abbrev y9 : MethodName := ⟨"com/example/sluice/sluice/algo/ByVertex", "item", "(I)I"⟩
abbrev y10 : MethodName := ⟨"com/example/sluice/sluice/algo/SpanningTree", "link", "(II)V"⟩
abbrev y11 : MethodName := ⟨"com/example/sluice/sluice/algo/SpanningTree", "firstOutside", "(I)I"⟩
abbrev y12 : MethodName := ⟨"com/example/sluice/sluice/algo/SpanningTreeFirstOutsidePinLaw", "ref", "([III)I"⟩
abbrev y13 : MethodName := ⟨"com/example/sluice/sluice/algo/SpanningTreeFirstOutsidePinLaw", "sib", "([III)I"⟩
abbrev y14 : MethodName := ⟨"com/example/sluice/sluice/algo/SpanningTreeFirstOutsidePinLaw", "cand", "([IIIIII)I"⟩
theorem kok {Z : State} {a0 : Array Value} (hw : HW1 Z a0) : KOk Z a0 KT := kokOf (faS ⟨⟨_, (hw _ (List.mem_of_getElem? (i := 13) rfl))⟩, (faS ⟨Or.inr (hw _ (List.mem_of_getElem? (i := 31) rfl)), (.array .int), by decide +kernel⟩ (faS ⟨Or.inr (hw _ (List.mem_of_getElem? (i := 33) rfl)), (.array .int), by decide +kernel⟩ (faS ⟨Or.inr (hw _ (List.mem_of_getElem? (i := 35) rfl)), (.array .int), by decide +kernel⟩ (faS ⟨Or.inr (hw _ (List.mem_of_getElem? (i := 37) rfl)), (.array .int), by decide +kernel⟩ (faS ⟨Or.inr (hw _ (List.mem_of_getElem? (i := 39) rfl)), (.array .int), by decide +kernel⟩ (faS ⟨Or.inr (hw _ (List.mem_of_getElem? (i := 41) rfl)), (.array .int), by decide +kernel⟩ fa0)))))), by decide⟩ (faS ⟨⟨_, (hw _ (List.mem_of_getElem? (i := 43) rfl))⟩, (faS ⟨Or.inr (hw _ (List.mem_of_getElem? (i := 50) rfl)), (.array .int), by decide +kernel⟩ (faS ⟨Or.inr (hw _ (List.mem_of_getElem? (i := 52) rfl)), (.array .int), by decide +kernel⟩ fa0)), by decide⟩ fa0))
theorem s0_0 : Nx code 0 (.iload_n 0) 1 1 := ⟨at_0, rfl⟩
theorem s0_4 : Nx code 4 (.iconst 5) 1 5 := ⟨at_4, rfl⟩
theorem s0_5 : Nx code 5 (.irem) 1 6 := ⟨at_5, rfl⟩
theorem s0_6 : Nx code 6 (.istore_n 2) 1 7 := ⟨at_6, rfl⟩
theorem s0_7 : Nx code 7 (.iconst 5) 1 8 := ⟨at_7, rfl⟩
theorem s0_8 : Nx code 8 (.newarray .int) 2 10 := ⟨at_8, rfl⟩
theorem k_0 {Z : State} {a0 : Array Value} (hw : HW1 Z a0) : AL Z a0 .int := (hw _ (List.mem_of_getElem? (i := 1) rfl))
theorem s0_10 : Nx code 10 (.astore_n 3) 1 11 := ⟨at_10, rfl⟩
theorem s0_11 : Nx code 11 (.aload_n 3) 1 12 := ⟨at_11, rfl⟩
theorem s0_12 : Nx code 12 (.iconst 0) 1 13 := ⟨at_12, rfl⟩
theorem s0_13 : Nx code 13 (.iload_n 1) 1 14 := ⟨at_13, rfl⟩
theorem s0_14 : Nx code 14 (.iconst 0) 1 15 := ⟨at_14, rfl⟩
theorem s0_18 : Nx code 18 (.iastore) 1 19 := ⟨at_18, rfl⟩
theorem s0_19 : Nx code 19 (.aload_n 3) 1 20 := ⟨at_19, rfl⟩
theorem s0_20 : Nx code 20 (.iconst 1) 1 21 := ⟨at_20, rfl⟩
theorem s0_21 : Nx code 21 (.iload_n 1) 1 22 := ⟨at_21, rfl⟩
theorem s0_22 : Nx code 22 (.iconst 1) 1 23 := ⟨at_22, rfl⟩
theorem s0_26 : Nx code 26 (.iastore) 1 27 := ⟨at_26, rfl⟩
theorem s0_27 : Nx code 27 (.aload_n 3) 1 28 := ⟨at_27, rfl⟩
theorem s0_28 : Nx code 28 (.iconst 2) 1 29 := ⟨at_28, rfl⟩
theorem s0_29 : Nx code 29 (.iload_n 1) 1 30 := ⟨at_29, rfl⟩
theorem s0_30 : Nx code 30 (.iconst 2) 1 31 := ⟨at_30, rfl⟩
theorem s0_34 : Nx code 34 (.iastore) 1 35 := ⟨at_34, rfl⟩
theorem s0_35 : Nx code 35 (.aload_n 3) 1 36 := ⟨at_35, rfl⟩
theorem s0_36 : Nx code 36 (.iconst 3) 1 37 := ⟨at_36, rfl⟩
theorem s0_37 : Nx code 37 (.iload_n 1) 1 38 := ⟨at_37, rfl⟩
theorem s0_38 : Nx code 38 (.iconst 3) 1 39 := ⟨at_38, rfl⟩
theorem s0_42 : Nx code 42 (.iastore) 1 43 := ⟨at_42, rfl⟩
theorem s0_43 : Nx code 43 (.aload_n 3) 1 44 := ⟨at_43, rfl⟩
theorem s0_44 : Nx code 44 (.iconst 4) 1 45 := ⟨at_44, rfl⟩
theorem s0_45 : Nx code 45 (.iload_n 1) 1 46 := ⟨at_45, rfl⟩
theorem s0_46 : Nx code 46 (.iconst 4) 1 47 := ⟨at_46, rfl⟩
theorem s0_50 : Nx code 50 (.iastore) 1 51 := ⟨at_50, rfl⟩
theorem s0_51 : Nx code 51 (.aload_n 3) 1 52 := ⟨at_51, rfl⟩
theorem s0_52 : Nx code 52 (.iconst 0) 1 53 := ⟨at_52, rfl⟩
theorem s0_53 : Nx code 53 (.aload_n 3) 1 54 := ⟨at_53, rfl⟩
theorem s0_54 : Nx code 54 (.iload_n 2) 1 55 := ⟨at_54, rfl⟩
theorem s0_55 : Nx code 55 (.iconst 0) 1 56 := ⟨at_55, rfl⟩
theorem pn_1 : plainName "com/example/sluice/sluice/algo/SpanningTreeFirstOutsidePinLaw" = true := by first | (simp [plainName, overriddenIn]; done) | decide +kernel
theorem pd_0 : ∀ sig, parseMethodDescriptor "([III)I" = some sig → 3 = sig.parameters.length := npOf (r := some .int) (ps := [(.array .int), .int, .int]) (by decide +kernel) rfl
theorem k_2 {Z : State} {a0 : Array Value} (hw : HW1 Z a0) : SL Z a0 "com/example/sluice/sluice/algo/SpanningTreeFirstOutsidePinLaw" 14 y2 method_5_code 3 (some .int) 3 := ⟨(hw _ (List.mem_of_getElem? (i := 6) rfl)), (hw _ (List.mem_of_getElem? (i := 7) rfl)), (hw _ (List.mem_of_getElem? (i := 4) rfl)), (hw _ (List.mem_of_getElem? (i := 8) rfl)), ⟨by decide, by decide⟩, pd_0⟩
theorem s0_56 : Nx code 56 (.invokestatic 14) 3 59 := ⟨at_56, rfl⟩
theorem s0_59 : Nx code 59 (.iastore) 1 60 := ⟨at_59, rfl⟩
theorem s0_60 : Nx code 60 (.aload_n 3) 1 61 := ⟨at_60, rfl⟩
theorem s0_61 : Nx code 61 (.iconst 1) 1 62 := ⟨at_61, rfl⟩
theorem s0_62 : Nx code 62 (.aload_n 3) 1 63 := ⟨at_62, rfl⟩
theorem s0_63 : Nx code 63 (.iload_n 2) 1 64 := ⟨at_63, rfl⟩
theorem s0_64 : Nx code 64 (.iconst 1) 1 65 := ⟨at_64, rfl⟩
theorem s0_65 : Nx code 65 (.invokestatic 14) 3 68 := ⟨at_65, rfl⟩
theorem s0_68 : Nx code 68 (.iastore) 1 69 := ⟨at_68, rfl⟩
theorem s0_69 : Nx code 69 (.aload_n 3) 1 70 := ⟨at_69, rfl⟩
theorem s0_70 : Nx code 70 (.iconst 2) 1 71 := ⟨at_70, rfl⟩
theorem s0_71 : Nx code 71 (.aload_n 3) 1 72 := ⟨at_71, rfl⟩
theorem s0_72 : Nx code 72 (.iload_n 2) 1 73 := ⟨at_72, rfl⟩
theorem s0_73 : Nx code 73 (.iconst 2) 1 74 := ⟨at_73, rfl⟩
theorem s0_74 : Nx code 74 (.invokestatic 14) 3 77 := ⟨at_74, rfl⟩
theorem s0_77 : Nx code 77 (.iastore) 1 78 := ⟨at_77, rfl⟩
theorem s0_78 : Nx code 78 (.aload_n 3) 1 79 := ⟨at_78, rfl⟩
theorem s0_79 : Nx code 79 (.iconst 3) 1 80 := ⟨at_79, rfl⟩
theorem s0_80 : Nx code 80 (.aload_n 3) 1 81 := ⟨at_80, rfl⟩
theorem s0_81 : Nx code 81 (.iload_n 2) 1 82 := ⟨at_81, rfl⟩
theorem s0_82 : Nx code 82 (.iconst 3) 1 83 := ⟨at_82, rfl⟩
theorem s0_83 : Nx code 83 (.invokestatic 14) 3 86 := ⟨at_83, rfl⟩
theorem s0_86 : Nx code 86 (.iastore) 1 87 := ⟨at_86, rfl⟩
theorem s0_87 : Nx code 87 (.aload_n 3) 1 88 := ⟨at_87, rfl⟩
theorem s0_88 : Nx code 88 (.iconst 4) 1 89 := ⟨at_88, rfl⟩
theorem s0_89 : Nx code 89 (.aload_n 3) 1 90 := ⟨at_89, rfl⟩
theorem s0_90 : Nx code 90 (.iload_n 2) 1 91 := ⟨at_90, rfl⟩
theorem s0_91 : Nx code 91 (.iconst 4) 1 92 := ⟨at_91, rfl⟩
theorem s0_92 : Nx code 92 (.invokestatic 14) 3 95 := ⟨at_92, rfl⟩
theorem s0_95 : Nx code 95 (.iastore) 1 96 := ⟨at_95, rfl⟩
theorem k_3 {Z : State} {a0 : Array Value} (hw : HW1 Z a0) : NL Z a0 KT "com/example/sluice/sluice/algo/SpanningTreeFirstOutsidePinLaw" 18 0 6 [.null, .null, .null, .null, .null, .null] := ⟨_, _, rfl, (hw _ (List.mem_of_getElem? (i := 12) rfl)), (hw _ (List.mem_of_getElem? (i := 13) rfl)), (hw _ (List.mem_of_getElem? (i := 14) rfl)), by decide +kernel⟩
theorem s0_96 : Nx code 96 (.new 18) 3 99 := ⟨at_96, rfl⟩
theorem s0_99 : Nx code 99 (.dup) 1 100 := ⟨at_99, rfl⟩
theorem s0_100 : Nx code 100 (.iload_n 2) 1 101 := ⟨at_100, rfl⟩
theorem s0_101 : Nx code 101 (.aload_n 3) 1 102 := ⟨at_101, rfl⟩
theorem s0_102 : Nx code 102 (.iconst 5) 1 103 := ⟨at_102, rfl⟩
theorem s0_103 : Nx code 103 (.newarray .int) 2 105 := ⟨at_103, rfl⟩
theorem pn_4 : plainName "com/example/sluice/sluice/algo/SpanningTree" = true := by first | (simp [plainName, overriddenIn]; done) | decide +kernel
theorem pd_1 : ∀ sig, parseMethodDescriptor "(I[I[I)V" = some sig → 3 = sig.parameters.length := npOf (r := none) (ps := [.int, (.array .int), (.array .int)]) (by decide +kernel) rfl
theorem k_5 {Z : State} {a0 : Array Value} (hw : HW1 Z a0) : CL Z a0 "com/example/sluice/sluice/algo/SpanningTreeFirstOutsidePinLaw" 20 y4 prog_25_method_1_code 13 3 := ⟨(hw _ (List.mem_of_getElem? (i := 15) rfl)), (hw _ (List.mem_of_getElem? (i := 16) rfl)), (hw _ (List.mem_of_getElem? (i := 14) rfl)), (hw _ (List.mem_of_getElem? (i := 17) rfl)), ⟨by decide, by decide⟩, pd_1, rfl⟩
theorem s0_105 : Nx code 105 (.invokespecial 20) 3 108 := ⟨at_105, rfl⟩
theorem s0_108 : Nx code 108 (.astore 4) 2 110 := ⟨at_108, rfl⟩
theorem s0_110 : Nx code 110 (.iconst 1) 1 111 := ⟨at_110, rfl⟩
theorem s0_111 : Nx code 111 (.istore 5) 2 113 := ⟨at_111, rfl⟩
theorem s0_113 : Nx code 113 (.iload 5) 2 115 := ⟨at_113, rfl⟩
theorem s0_115 : Bx code 115 (.ifCond .eq) 137 118 := ⟨(22), at_115, by decide, by decide, rfl⟩
theorem s0_118 : Nx code 118 (.aload 4) 2 120 := ⟨at_118, rfl⟩
theorem s0_120 : Nx code 120 (.iconst 0) 1 121 := ⟨at_120, rfl⟩
theorem pd_2 : ∀ sig, parseMethodDescriptor "(I)I" = some sig → 1 = sig.parameters.length := npOf (r := some .int) (ps := [.int]) (by decide +kernel) rfl
theorem k_6 {Z : State} {a0 : Array Value} (hw : HW1 Z a0) : VL Z a0 KT "com/example/sluice/sluice/algo/SpanningTreeFirstOutsidePinLaw" 23 0 y11 prog_25_method_7_code 2 (some .int) 1 := ⟨_, _, rfl, (hw _ (List.mem_of_getElem? (i := 76) rfl)), (hw _ (List.mem_of_getElem? (i := 77) rfl)), (hw _ (List.mem_of_getElem? (i := 79) rfl)), (hw _ (List.mem_of_getElem? (i := 78) rfl)), (hw _ (List.mem_of_getElem? (i := 14) rfl)), (hw _ (List.mem_of_getElem? (i := 80) rfl)), ⟨by decide, by decide⟩, pd_2⟩
theorem s0_121 : Nx code 121 (.invokevirtual 23) 3 124 := ⟨at_121, rfl⟩
theorem s0_124 : Nx code 124 (.aload_n 3) 1 125 := ⟨at_124, rfl⟩
theorem s0_125 : Nx code 125 (.iload_n 2) 1 126 := ⟨at_125, rfl⟩
theorem s0_126 : Nx code 126 (.iconst 0) 1 127 := ⟨at_126, rfl⟩
theorem k_7 {Z : State} {a0 : Array Value} (hw : HW1 Z a0) : SL Z a0 "com/example/sluice/sluice/algo/SpanningTreeFirstOutsidePinLaw" 27 y12 method_8_code 5 (some .int) 3 := ⟨(hw _ (List.mem_of_getElem? (i := 81) rfl)), (hw _ (List.mem_of_getElem? (i := 82) rfl)), (hw _ (List.mem_of_getElem? (i := 4) rfl)), (hw _ (List.mem_of_getElem? (i := 83) rfl)), ⟨by decide, by decide⟩, pd_0⟩
theorem s0_127 : Nx code 127 (.invokestatic 27) 3 130 := ⟨at_127, rfl⟩
theorem s0_130 : Bx code 130 (.if_icmp .ne) 137 133 := ⟨(7), at_130, by decide, by decide, rfl⟩
theorem s0_133 : Nx code 133 (.iconst 1) 1 134 := ⟨at_133, rfl⟩
theorem s0_134 : Bx code 134 (.goto) 138 137 := ⟨(4), at_134, by decide, by decide, rfl⟩
theorem s0_137 : Nx code 137 (.iconst 0) 1 138 := ⟨at_137, rfl⟩
theorem s0_138 : Nx code 138 (.istore 5) 2 140 := ⟨at_138, rfl⟩
theorem s0_140 : Nx code 140 (.iload 5) 2 142 := ⟨at_140, rfl⟩
theorem s0_142 : Bx code 142 (.ifCond .eq) 164 145 := ⟨(22), at_142, by decide, by decide, rfl⟩
theorem s0_145 : Nx code 145 (.aload 4) 2 147 := ⟨at_145, rfl⟩
theorem s0_147 : Nx code 147 (.iconst 1) 1 148 := ⟨at_147, rfl⟩
theorem s0_148 : Nx code 148 (.invokevirtual 23) 3 151 := ⟨at_148, rfl⟩
theorem s0_151 : Nx code 151 (.aload_n 3) 1 152 := ⟨at_151, rfl⟩
theorem s0_152 : Nx code 152 (.iload_n 2) 1 153 := ⟨at_152, rfl⟩
theorem s0_153 : Nx code 153 (.iconst 1) 1 154 := ⟨at_153, rfl⟩
theorem s0_154 : Nx code 154 (.invokestatic 27) 3 157 := ⟨at_154, rfl⟩
theorem s0_157 : Bx code 157 (.if_icmp .ne) 164 160 := ⟨(7), at_157, by decide, by decide, rfl⟩
theorem s0_160 : Nx code 160 (.iconst 1) 1 161 := ⟨at_160, rfl⟩
theorem s0_161 : Bx code 161 (.goto) 165 164 := ⟨(4), at_161, by decide, by decide, rfl⟩
theorem s0_164 : Nx code 164 (.iconst 0) 1 165 := ⟨at_164, rfl⟩
theorem s0_165 : Nx code 165 (.istore 5) 2 167 := ⟨at_165, rfl⟩
theorem s0_167 : Nx code 167 (.iload 5) 2 169 := ⟨at_167, rfl⟩
theorem s0_169 : Bx code 169 (.ifCond .eq) 191 172 := ⟨(22), at_169, by decide, by decide, rfl⟩
theorem s0_172 : Nx code 172 (.aload 4) 2 174 := ⟨at_172, rfl⟩
theorem s0_174 : Nx code 174 (.iconst 2) 1 175 := ⟨at_174, rfl⟩
theorem s0_175 : Nx code 175 (.invokevirtual 23) 3 178 := ⟨at_175, rfl⟩
theorem s0_178 : Nx code 178 (.aload_n 3) 1 179 := ⟨at_178, rfl⟩
theorem s0_179 : Nx code 179 (.iload_n 2) 1 180 := ⟨at_179, rfl⟩
theorem s0_180 : Nx code 180 (.iconst 2) 1 181 := ⟨at_180, rfl⟩
theorem s0_181 : Nx code 181 (.invokestatic 27) 3 184 := ⟨at_181, rfl⟩
theorem s0_184 : Bx code 184 (.if_icmp .ne) 191 187 := ⟨(7), at_184, by decide, by decide, rfl⟩
theorem s0_187 : Nx code 187 (.iconst 1) 1 188 := ⟨at_187, rfl⟩
theorem s0_188 : Bx code 188 (.goto) 192 191 := ⟨(4), at_188, by decide, by decide, rfl⟩
theorem s0_191 : Nx code 191 (.iconst 0) 1 192 := ⟨at_191, rfl⟩
theorem s0_192 : Nx code 192 (.istore 5) 2 194 := ⟨at_192, rfl⟩
theorem s0_194 : Nx code 194 (.iload 5) 2 196 := ⟨at_194, rfl⟩
theorem s0_196 : Bx code 196 (.ifCond .eq) 218 199 := ⟨(22), at_196, by decide, by decide, rfl⟩
theorem s0_199 : Nx code 199 (.aload 4) 2 201 := ⟨at_199, rfl⟩
theorem s0_201 : Nx code 201 (.iconst 3) 1 202 := ⟨at_201, rfl⟩
theorem s0_202 : Nx code 202 (.invokevirtual 23) 3 205 := ⟨at_202, rfl⟩
theorem s0_205 : Nx code 205 (.aload_n 3) 1 206 := ⟨at_205, rfl⟩
theorem s0_206 : Nx code 206 (.iload_n 2) 1 207 := ⟨at_206, rfl⟩
theorem s0_207 : Nx code 207 (.iconst 3) 1 208 := ⟨at_207, rfl⟩
theorem s0_208 : Nx code 208 (.invokestatic 27) 3 211 := ⟨at_208, rfl⟩
theorem s0_211 : Bx code 211 (.if_icmp .ne) 218 214 := ⟨(7), at_211, by decide, by decide, rfl⟩
theorem s0_214 : Nx code 214 (.iconst 1) 1 215 := ⟨at_214, rfl⟩
theorem s0_215 : Bx code 215 (.goto) 219 218 := ⟨(4), at_215, by decide, by decide, rfl⟩
theorem s0_218 : Nx code 218 (.iconst 0) 1 219 := ⟨at_218, rfl⟩
theorem s0_219 : Nx code 219 (.istore 5) 2 221 := ⟨at_219, rfl⟩
theorem s0_221 : Nx code 221 (.iload 5) 2 223 := ⟨at_221, rfl⟩
theorem s0_223 : Bx code 223 (.ifCond .eq) 245 226 := ⟨(22), at_223, by decide, by decide, rfl⟩
theorem s0_226 : Nx code 226 (.aload 4) 2 228 := ⟨at_226, rfl⟩
theorem s0_228 : Nx code 228 (.iconst 4) 1 229 := ⟨at_228, rfl⟩
theorem s0_229 : Nx code 229 (.invokevirtual 23) 3 232 := ⟨at_229, rfl⟩
theorem s0_232 : Nx code 232 (.aload_n 3) 1 233 := ⟨at_232, rfl⟩
theorem s0_233 : Nx code 233 (.iload_n 2) 1 234 := ⟨at_233, rfl⟩
theorem s0_234 : Nx code 234 (.iconst 4) 1 235 := ⟨at_234, rfl⟩
theorem s0_235 : Nx code 235 (.invokestatic 27) 3 238 := ⟨at_235, rfl⟩
theorem s0_238 : Bx code 238 (.if_icmp .ne) 245 241 := ⟨(7), at_238, by decide, by decide, rfl⟩
theorem s0_241 : Nx code 241 (.iconst 1) 1 242 := ⟨at_241, rfl⟩
theorem s0_242 : Bx code 242 (.goto) 246 245 := ⟨(4), at_242, by decide, by decide, rfl⟩
theorem s0_245 : Nx code 245 (.iconst 0) 1 246 := ⟨at_245, rfl⟩
theorem s0_246 : Nx code 246 (.istore 5) 2 248 := ⟨at_246, rfl⟩
theorem s0_248 : Nx code 248 (.iload 5) 2 250 := ⟨at_248, rfl⟩
theorem s0_250 : Nx code 250 (.ireturn) 1 251 := ⟨at_250, rfl⟩
theorem s2_0 : Nx method_5_code 0 (.aload_n 0) 1 1 := ⟨by decide +kernel, rfl⟩
theorem s2_1 : Nx method_5_code 1 (.iload_n 1) 1 2 := ⟨by decide +kernel, rfl⟩
theorem s2_2 : Nx method_5_code 2 (.iload_n 2) 1 3 := ⟨by decide +kernel, rfl⟩
theorem pd_3 : ∀ sig, parseMethodDescriptor "([III)Z" = some sig → 3 = sig.parameters.length := npOf (r := some .boolean) (ps := [(.array .int), .int, .int]) (by decide +kernel) rfl
theorem k_8 {Z : State} {a0 : Array Value} (hw : HW1 Z a0) : SL Z a0 "com/example/sluice/sluice/algo/SpanningTreeFirstOutsidePinLaw" 30 y3 method_4_code 3 (some .boolean) 3 := ⟨(hw _ (List.mem_of_getElem? (i := 9) rfl)), (hw _ (List.mem_of_getElem? (i := 10) rfl)), (hw _ (List.mem_of_getElem? (i := 4) rfl)), (hw _ (List.mem_of_getElem? (i := 11) rfl)), ⟨by decide, by decide⟩, pd_3⟩
theorem s2_3 : Nx method_5_code 3 (.invokestatic 30) 3 6 := ⟨by decide +kernel, rfl⟩
theorem s2_6 : Bx method_5_code 6 (.ifCond .eq) 15 9 := ⟨(9), by decide +kernel, by decide, by decide, rfl⟩
theorem s2_9 : Nx method_5_code 9 (.aload_n 0) 1 10 := ⟨by decide +kernel, rfl⟩
theorem s2_10 : Nx method_5_code 10 (.iload_n 2) 1 11 := ⟨by decide +kernel, rfl⟩
theorem s2_11 : Nx method_5_code 11 (.iaload) 1 12 := ⟨by decide +kernel, rfl⟩
theorem s2_12 : Bx method_5_code 12 (.goto) 16 15 := ⟨(4), by decide +kernel, by decide, by decide, rfl⟩
theorem s2_15 : Nx method_5_code 15 (.iload_n 1) 1 16 := ⟨by decide +kernel, rfl⟩
theorem s2_16 : Nx method_5_code 16 (.ireturn) 1 17 := ⟨by decide +kernel, rfl⟩
theorem s3_0 : Nx method_4_code 0 (.iload_n 2) 1 1 := ⟨by decide +kernel, rfl⟩
theorem s3_1 : Nx method_4_code 1 (.iload_n 1) 1 2 := ⟨by decide +kernel, rfl⟩
theorem s3_2 : Bx method_4_code 2 (.if_icmp .ne) 7 5 := ⟨(5), by decide +kernel, by decide, by decide, rfl⟩
theorem s3_5 : Nx method_4_code 5 (.iconst 1) 1 6 := ⟨by decide +kernel, rfl⟩
theorem s3_6 : Nx method_4_code 6 (.ireturn) 1 7 := ⟨by decide +kernel, rfl⟩
theorem s3_7 : Nx method_4_code 7 (.aload_n 0) 1 8 := ⟨by decide +kernel, rfl⟩
theorem s3_8 : Nx method_4_code 8 (.iload_n 2) 1 9 := ⟨by decide +kernel, rfl⟩
theorem s3_9 : Nx method_4_code 9 (.iaload) 1 10 := ⟨by decide +kernel, rfl⟩
theorem s3_10 : Nx method_4_code 10 (.istore_n 2) 1 11 := ⟨by decide +kernel, rfl⟩
theorem s3_11 : Nx method_4_code 11 (.iload_n 2) 1 12 := ⟨by decide +kernel, rfl⟩
theorem s3_12 : Nx method_4_code 12 (.iload_n 1) 1 13 := ⟨by decide +kernel, rfl⟩
theorem s3_13 : Bx method_4_code 13 (.if_icmp .ne) 18 16 := ⟨(5), by decide +kernel, by decide, by decide, rfl⟩
theorem s3_16 : Nx method_4_code 16 (.iconst 1) 1 17 := ⟨by decide +kernel, rfl⟩
theorem s3_17 : Nx method_4_code 17 (.ireturn) 1 18 := ⟨by decide +kernel, rfl⟩
theorem s3_18 : Nx method_4_code 18 (.aload_n 0) 1 19 := ⟨by decide +kernel, rfl⟩
theorem s3_19 : Nx method_4_code 19 (.iload_n 2) 1 20 := ⟨by decide +kernel, rfl⟩
theorem s3_20 : Nx method_4_code 20 (.iaload) 1 21 := ⟨by decide +kernel, rfl⟩
theorem s3_21 : Nx method_4_code 21 (.istore_n 2) 1 22 := ⟨by decide +kernel, rfl⟩
theorem s3_22 : Nx method_4_code 22 (.iload_n 2) 1 23 := ⟨by decide +kernel, rfl⟩
theorem s3_23 : Nx method_4_code 23 (.iload_n 1) 1 24 := ⟨by decide +kernel, rfl⟩
theorem s3_24 : Bx method_4_code 24 (.if_icmp .ne) 29 27 := ⟨(5), by decide +kernel, by decide, by decide, rfl⟩
theorem s3_27 : Nx method_4_code 27 (.iconst 1) 1 28 := ⟨by decide +kernel, rfl⟩
theorem s3_28 : Nx method_4_code 28 (.ireturn) 1 29 := ⟨by decide +kernel, rfl⟩
theorem s3_29 : Nx method_4_code 29 (.aload_n 0) 1 30 := ⟨by decide +kernel, rfl⟩
theorem s3_30 : Nx method_4_code 30 (.iload_n 2) 1 31 := ⟨by decide +kernel, rfl⟩
theorem s3_31 : Nx method_4_code 31 (.iaload) 1 32 := ⟨by decide +kernel, rfl⟩
theorem s3_32 : Nx method_4_code 32 (.istore_n 2) 1 33 := ⟨by decide +kernel, rfl⟩
theorem s3_33 : Nx method_4_code 33 (.iload_n 2) 1 34 := ⟨by decide +kernel, rfl⟩
theorem s3_34 : Nx method_4_code 34 (.iload_n 1) 1 35 := ⟨by decide +kernel, rfl⟩
theorem s3_35 : Bx method_4_code 35 (.if_icmp .ne) 40 38 := ⟨(5), by decide +kernel, by decide, by decide, rfl⟩
theorem s3_38 : Nx method_4_code 38 (.iconst 1) 1 39 := ⟨by decide +kernel, rfl⟩
theorem s3_39 : Nx method_4_code 39 (.ireturn) 1 40 := ⟨by decide +kernel, rfl⟩
theorem s3_40 : Nx method_4_code 40 (.aload_n 0) 1 41 := ⟨by decide +kernel, rfl⟩
theorem s3_41 : Nx method_4_code 41 (.iload_n 2) 1 42 := ⟨by decide +kernel, rfl⟩
theorem s3_42 : Nx method_4_code 42 (.iaload) 1 43 := ⟨by decide +kernel, rfl⟩
theorem s3_43 : Nx method_4_code 43 (.istore_n 2) 1 44 := ⟨by decide +kernel, rfl⟩
theorem s3_44 : Nx method_4_code 44 (.iload_n 2) 1 45 := ⟨by decide +kernel, rfl⟩
theorem s3_45 : Nx method_4_code 45 (.iload_n 1) 1 46 := ⟨by decide +kernel, rfl⟩
theorem s3_46 : Bx method_4_code 46 (.if_icmp .ne) 53 49 := ⟨(7), by decide +kernel, by decide, by decide, rfl⟩
theorem s3_49 : Nx method_4_code 49 (.iconst 1) 1 50 := ⟨by decide +kernel, rfl⟩
theorem s3_50 : Bx method_4_code 50 (.goto) 54 53 := ⟨(4), by decide +kernel, by decide, by decide, rfl⟩
theorem s3_53 : Nx method_4_code 53 (.iconst 0) 1 54 := ⟨by decide +kernel, rfl⟩
theorem s3_54 : Nx method_4_code 54 (.ireturn) 1 55 := ⟨by decide +kernel, rfl⟩
theorem s4_0 : Nx prog_25_method_1_code 0 (.aload_n 0) 1 1 := ⟨by decide +kernel, rfl⟩
theorem s4_1 : Nx prog_25_method_1_code 1 (.invokespecial 1) 3 4 := ⟨by decide +kernel, rfl⟩
theorem k_9 {Z : State} {a0 : Array Value} (hw : HW1 Z a0) : IL Z a0 "com/example/sluice/sluice/algo/SpanningTree" 1 := ⟨(hw _ (List.mem_of_getElem? (i := 18) rfl)), (hw _ (List.mem_of_getElem? (i := 19) rfl)), (hw _ (List.mem_of_getElem? (i := 20) rfl))⟩
theorem s4_4 : Nx prog_25_method_1_code 4 (.aload_n 3) 1 5 := ⟨by decide +kernel, rfl⟩
theorem s4_5 : Nx prog_25_method_1_code 5 (.arraylength) 1 6 := ⟨by decide +kernel, rfl⟩
theorem s4_6 : Nx prog_25_method_1_code 6 (.istore 4) 2 8 := ⟨by decide +kernel, rfl⟩
theorem s4_8 : Nx prog_25_method_1_code 8 (.aload_n 0) 1 9 := ⟨by decide +kernel, rfl⟩
theorem s4_9 : Nx prog_25_method_1_code 9 (.aload_n 2) 1 10 := ⟨by decide +kernel, rfl⟩
theorem k_10 {Z : State} {a0 : Array Value} (hw : HW1 Z a0) : KL Z a0 "com/example/sluice/sluice/algo/SpanningTree" 7 "[I" := ⟨(hw _ (List.mem_of_getElem? (i := 21) rfl)), (hw _ (List.mem_of_getElem? (i := 22) rfl)), (hw _ (List.mem_of_getElem? (i := 26) rfl)), (hw _ (List.mem_of_getElem? (i := 24) rfl)), (hw _ (List.mem_of_getElem? (i := 25) rfl)), (hw _ (List.mem_of_getElem? (i := 27) rfl))⟩
theorem s4_10 : Nx prog_25_method_1_code 10 (.invokevirtual 7) 3 13 := ⟨by decide +kernel, rfl⟩
theorem s4_13 : Nx prog_25_method_1_code 13 (.checkcast 8) 3 16 := ⟨by decide +kernel, rfl⟩
theorem k_11 {Z : State} {a0 : Array Value} (hw : HW1 Z a0) : PL Z a0 KT "com/example/sluice/sluice/algo/SpanningTree" "<init>" 13 0 0 (.array .int) := ⟨_, _, "com/example/sluice/sluice/algo/SpanningTree", "parent", "[I", "", rfl, rfl, (Or.inl (hw _ (List.mem_of_getElem? (i := 30) rfl))), (Or.inr ⟨(hw _ (List.mem_of_getElem? (i := 31) rfl)), rfl, rfl⟩), by decide +kernel⟩
theorem s4_16 : Nx prog_25_method_1_code 16 (.putfield 13) 3 19 := ⟨by decide +kernel, rfl⟩
theorem s4_19 : Nx prog_25_method_1_code 19 (.aload_n 0) 1 20 := ⟨by decide +kernel, rfl⟩
theorem s4_20 : Nx prog_25_method_1_code 20 (.aload_n 3) 1 21 := ⟨by decide +kernel, rfl⟩
theorem s4_21 : Nx prog_25_method_1_code 21 (.invokevirtual 7) 3 24 := ⟨by decide +kernel, rfl⟩
theorem s4_24 : Nx prog_25_method_1_code 24 (.checkcast 8) 3 27 := ⟨by decide +kernel, rfl⟩
theorem k_12 {Z : State} {a0 : Array Value} (hw : HW1 Z a0) : PL Z a0 KT "com/example/sluice/sluice/algo/SpanningTree" "<init>" 18 0 1 (.array .int) := ⟨_, _, "com/example/sluice/sluice/algo/SpanningTree", "arc", "[I", "", rfl, rfl, (Or.inl (hw _ (List.mem_of_getElem? (i := 32) rfl))), (Or.inr ⟨(hw _ (List.mem_of_getElem? (i := 33) rfl)), rfl, rfl⟩), by decide +kernel⟩
theorem s4_27 : Nx prog_25_method_1_code 27 (.putfield 18) 3 30 := ⟨by decide +kernel, rfl⟩
theorem s4_30 : Nx prog_25_method_1_code 30 (.aload_n 0) 1 31 := ⟨by decide +kernel, rfl⟩
theorem s4_31 : Nx prog_25_method_1_code 31 (.iload 4) 2 33 := ⟨by decide +kernel, rfl⟩
theorem s4_33 : Nx prog_25_method_1_code 33 (.newarray .int) 2 35 := ⟨by decide +kernel, rfl⟩
theorem k_13 {Z : State} {a0 : Array Value} (hw : HW1 Z a0) : PL Z a0 KT "com/example/sluice/sluice/algo/SpanningTree" "<init>" 21 0 2 (.array .int) := ⟨_, _, "com/example/sluice/sluice/algo/SpanningTree", "size", "[I", "", rfl, rfl, (Or.inl (hw _ (List.mem_of_getElem? (i := 34) rfl))), (Or.inr ⟨(hw _ (List.mem_of_getElem? (i := 35) rfl)), rfl, rfl⟩), by decide +kernel⟩
theorem s4_35 : Nx prog_25_method_1_code 35 (.putfield 21) 3 38 := ⟨by decide +kernel, rfl⟩
theorem s4_38 : Nx prog_25_method_1_code 38 (.aload_n 0) 1 39 := ⟨by decide +kernel, rfl⟩
theorem s4_39 : Nx prog_25_method_1_code 39 (.iload 4) 2 41 := ⟨by decide +kernel, rfl⟩
theorem s4_41 : Nx prog_25_method_1_code 41 (.newarray .int) 2 43 := ⟨by decide +kernel, rfl⟩
theorem k_14 {Z : State} {a0 : Array Value} (hw : HW1 Z a0) : PL Z a0 KT "com/example/sluice/sluice/algo/SpanningTree" "<init>" 24 0 3 (.array .int) := ⟨_, _, "com/example/sluice/sluice/algo/SpanningTree", "following", "[I", "", rfl, rfl, (Or.inl (hw _ (List.mem_of_getElem? (i := 36) rfl))), (Or.inr ⟨(hw _ (List.mem_of_getElem? (i := 37) rfl)), rfl, rfl⟩), by decide +kernel⟩
theorem s4_43 : Nx prog_25_method_1_code 43 (.putfield 24) 3 46 := ⟨by decide +kernel, rfl⟩
theorem s4_46 : Nx prog_25_method_1_code 46 (.aload_n 0) 1 47 := ⟨by decide +kernel, rfl⟩
theorem s4_47 : Nx prog_25_method_1_code 47 (.iload 4) 2 49 := ⟨by decide +kernel, rfl⟩
theorem s4_49 : Nx prog_25_method_1_code 49 (.newarray .int) 2 51 := ⟨by decide +kernel, rfl⟩
theorem k_15 {Z : State} {a0 : Array Value} (hw : HW1 Z a0) : PL Z a0 KT "com/example/sluice/sluice/algo/SpanningTree" "<init>" 27 0 4 (.array .int) := ⟨_, _, "com/example/sluice/sluice/algo/SpanningTree", "preceding", "[I", "", rfl, rfl, (Or.inl (hw _ (List.mem_of_getElem? (i := 38) rfl))), (Or.inr ⟨(hw _ (List.mem_of_getElem? (i := 39) rfl)), rfl, rfl⟩), by decide +kernel⟩
theorem s4_51 : Nx prog_25_method_1_code 51 (.putfield 27) 3 54 := ⟨by decide +kernel, rfl⟩
theorem s4_54 : Nx prog_25_method_1_code 54 (.aload_n 0) 1 55 := ⟨by decide +kernel, rfl⟩
theorem s4_55 : Nx prog_25_method_1_code 55 (.iload 4) 2 57 := ⟨by decide +kernel, rfl⟩
theorem s4_57 : Nx prog_25_method_1_code 57 (.newarray .int) 2 59 := ⟨by decide +kernel, rfl⟩
theorem k_16 {Z : State} {a0 : Array Value} (hw : HW1 Z a0) : PL Z a0 KT "com/example/sluice/sluice/algo/SpanningTree" "<init>" 30 0 5 (.array .int) := ⟨_, _, "com/example/sluice/sluice/algo/SpanningTree", "last", "[I", "", rfl, rfl, (Or.inl (hw _ (List.mem_of_getElem? (i := 40) rfl))), (Or.inr ⟨(hw _ (List.mem_of_getElem? (i := 41) rfl)), rfl, rfl⟩), by decide +kernel⟩
theorem s4_59 : Nx prog_25_method_1_code 59 (.putfield 30) 3 62 := ⟨by decide +kernel, rfl⟩
theorem s4_62 : Nx prog_25_method_1_code 62 (.aload_n 0) 1 63 := ⟨by decide +kernel, rfl⟩
theorem k_17 {Z : State} {a0 : Array Value} (hw : HW1 Z a0) : FL Z a0 KT "com/example/sluice/sluice/algo/SpanningTree" 13 0 0 := ⟨_, _, "com/example/sluice/sluice/algo/SpanningTree", "parent", "[I", "", rfl, rfl, (Or.inl (hw _ (List.mem_of_getElem? (i := 30) rfl)))⟩
theorem s4_63 : Nx prog_25_method_1_code 63 (.getfield 13) 3 66 := ⟨by decide +kernel, rfl⟩
theorem s4_66 : Nx prog_25_method_1_code 66 (.iload_n 1) 1 67 := ⟨by decide +kernel, rfl⟩
theorem s4_67 : Nx prog_25_method_1_code 67 (.iconst (-1)) 1 68 := ⟨by decide +kernel, rfl⟩
theorem s4_68 : Nx prog_25_method_1_code 68 (.iastore) 1 69 := ⟨by decide +kernel, rfl⟩
theorem s4_69 : Nx prog_25_method_1_code 69 (.aload_n 2) 1 70 := ⟨by decide +kernel, rfl⟩
theorem s4_70 : Nx prog_25_method_1_code 70 (.invokevirtual 7) 3 73 := ⟨by decide +kernel, rfl⟩
theorem s4_73 : Nx prog_25_method_1_code 73 (.checkcast 8) 3 76 := ⟨by decide +kernel, rfl⟩
theorem s4_76 : Nx prog_25_method_1_code 76 (.astore 5) 2 78 := ⟨by decide +kernel, rfl⟩
theorem s4_78 : Nx prog_25_method_1_code 78 (.aload 5) 2 80 := ⟨by decide +kernel, rfl⟩
theorem s4_80 : Nx prog_25_method_1_code 80 (.iload_n 1) 1 81 := ⟨by decide +kernel, rfl⟩
theorem s4_81 : Nx prog_25_method_1_code 81 (.iload 4) 2 83 := ⟨by decide +kernel, rfl⟩
theorem s4_83 : Nx prog_25_method_1_code 83 (.iastore) 1 84 := ⟨by decide +kernel, rfl⟩
theorem k_18 {Z : State} {a0 : Array Value} (hw : HW1 Z a0) : NL Z a0 KT "com/example/sluice/sluice/algo/SpanningTree" 33 1 2 [.null, .null] := ⟨_, _, rfl, (hw _ (List.mem_of_getElem? (i := 42) rfl)), (hw _ (List.mem_of_getElem? (i := 43) rfl)), (hw _ (List.mem_of_getElem? (i := 44) rfl)), by decide +kernel⟩
theorem s4_84 : Nx prog_25_method_1_code 84 (.new 33) 3 87 := ⟨by decide +kernel, rfl⟩
theorem s4_87 : Nx prog_25_method_1_code 87 (.dup) 1 88 := ⟨by decide +kernel, rfl⟩
theorem s4_88 : Nx prog_25_method_1_code 88 (.aload 5) 2 90 := ⟨by decide +kernel, rfl⟩
theorem s4_90 : Nx prog_25_method_1_code 90 (.iload 4) 2 92 := ⟨by decide +kernel, rfl⟩
theorem s4_92 : Nx prog_25_method_1_code 92 (.iconst 1) 1 93 := ⟨by decide +kernel, rfl⟩
theorem s4_93 : Nx prog_25_method_1_code 93 (.iadd) 1 94 := ⟨by decide +kernel, rfl⟩
theorem pn_19 : plainName "com/example/sluice/sluice/algo/ByVertex" = true := by first | (simp [plainName, overriddenIn]; done) | decide +kernel
theorem pd_4 : ∀ sig, parseMethodDescriptor "([II)V" = some sig → 2 = sig.parameters.length := npOf (r := none) (ps := [(.array .int), .int]) (by decide +kernel) rfl
theorem k_20 {Z : State} {a0 : Array Value} (hw : HW1 Z a0) : CL Z a0 "com/example/sluice/sluice/algo/SpanningTree" 35 y6 prog_5_method_1_code 7 2 := ⟨(hw _ (List.mem_of_getElem? (i := 45) rfl)), (hw _ (List.mem_of_getElem? (i := 46) rfl)), (hw _ (List.mem_of_getElem? (i := 44) rfl)), (hw _ (List.mem_of_getElem? (i := 47) rfl)), ⟨by decide, by decide⟩, pd_4, rfl⟩
theorem s4_94 : Nx prog_25_method_1_code 94 (.invokespecial 35) 3 97 := ⟨by decide +kernel, rfl⟩
theorem s4_97 : Nx prog_25_method_1_code 97 (.astore 6) 2 99 := ⟨by decide +kernel, rfl⟩
theorem s4_99 : Nx prog_25_method_1_code 99 (.iload 4) 2 101 := ⟨by decide +kernel, rfl⟩
theorem s4_101 : Nx prog_25_method_1_code 101 (.newarray .int) 2 103 := ⟨by decide +kernel, rfl⟩
theorem s4_103 : Nx prog_25_method_1_code 103 (.astore 7) 2 105 := ⟨by decide +kernel, rfl⟩
theorem s4_105 : Nx prog_25_method_1_code 105 (.iload 4) 2 107 := ⟨by decide +kernel, rfl⟩
theorem s4_107 : Nx prog_25_method_1_code 107 (.newarray .int) 2 109 := ⟨by decide +kernel, rfl⟩
theorem s4_109 : Nx prog_25_method_1_code 109 (.astore 8) 2 111 := ⟨by decide +kernel, rfl⟩
theorem s4_111 : Nx prog_25_method_1_code 111 (.iconst 0) 1 112 := ⟨by decide +kernel, rfl⟩
theorem s4_112 : Nx prog_25_method_1_code 112 (.istore 9) 2 114 := ⟨by decide +kernel, rfl⟩
theorem s4_114 : Nx prog_25_method_1_code 114 (.aload 8) 2 116 := ⟨by decide +kernel, rfl⟩
theorem s4_116 : Nx prog_25_method_1_code 116 (.iload 9) 2 118 := ⟨by decide +kernel, rfl⟩
theorem s4_118 : Nx prog_25_method_1_code 118 (.iinc 9 1) 3 121 := ⟨by decide +kernel, rfl⟩
theorem s4_121 : Nx prog_25_method_1_code 121 (.iload_n 1) 1 122 := ⟨by decide +kernel, rfl⟩
theorem s4_122 : Nx prog_25_method_1_code 122 (.iastore) 1 123 := ⟨by decide +kernel, rfl⟩
theorem s4_123 : Nx prog_25_method_1_code 123 (.iconst 0) 1 124 := ⟨by decide +kernel, rfl⟩
theorem s4_124 : Nx prog_25_method_1_code 124 (.istore 10) 2 126 := ⟨by decide +kernel, rfl⟩
theorem s4_126 : Nx prog_25_method_1_code 126 (.iload 10) 2 128 := ⟨by decide +kernel, rfl⟩
theorem s4_128 : Nx prog_25_method_1_code 128 (.iload 4) 2 130 := ⟨by decide +kernel, rfl⟩
theorem s4_130 : Bx prog_25_method_1_code 130 (.if_icmp .ge) 200 133 := ⟨(70), by decide +kernel, by decide, by decide, rfl⟩
theorem s4_133 : Nx prog_25_method_1_code 133 (.aload 8) 2 135 := ⟨by decide +kernel, rfl⟩
theorem s4_135 : Nx prog_25_method_1_code 135 (.iinc 9 (-1)) 3 138 := ⟨by decide +kernel, rfl⟩
theorem s4_138 : Nx prog_25_method_1_code 138 (.iload 9) 2 140 := ⟨by decide +kernel, rfl⟩
theorem s4_140 : Nx prog_25_method_1_code 140 (.iaload) 1 141 := ⟨by decide +kernel, rfl⟩
theorem s4_141 : Nx prog_25_method_1_code 141 (.istore 11) 2 143 := ⟨by decide +kernel, rfl⟩
theorem s4_143 : Nx prog_25_method_1_code 143 (.aload 7) 2 145 := ⟨by decide +kernel, rfl⟩
theorem s4_145 : Nx prog_25_method_1_code 145 (.iload 10) 2 147 := ⟨by decide +kernel, rfl⟩
theorem s4_147 : Nx prog_25_method_1_code 147 (.iload 11) 2 149 := ⟨by decide +kernel, rfl⟩
theorem s4_149 : Nx prog_25_method_1_code 149 (.iastore) 1 150 := ⟨by decide +kernel, rfl⟩
theorem s4_150 : Nx prog_25_method_1_code 150 (.aload 6) 2 152 := ⟨by decide +kernel, rfl⟩
theorem s4_152 : Nx prog_25_method_1_code 152 (.iload 11) 2 154 := ⟨by decide +kernel, rfl⟩
theorem k_21 {Z : State} {a0 : Array Value} (hw : HW1 Z a0) : VL Z a0 KT "com/example/sluice/sluice/algo/SpanningTree" 38 1 y7 prog_5_method_3_code 2 (some .int) 1 := ⟨_, _, rfl, (hw _ (List.mem_of_getElem? (i := 57) rfl)), (hw _ (List.mem_of_getElem? (i := 58) rfl)), (hw _ (List.mem_of_getElem? (i := 60) rfl)), (hw _ (List.mem_of_getElem? (i := 59) rfl)), (hw _ (List.mem_of_getElem? (i := 44) rfl)), (hw _ (List.mem_of_getElem? (i := 61) rfl)), ⟨by decide, by decide⟩, pd_2⟩
theorem s4_154 : Nx prog_25_method_1_code 154 (.invokevirtual 38) 3 157 := ⟨by decide +kernel, rfl⟩
theorem s4_157 : Nx prog_25_method_1_code 157 (.iconst 1) 1 158 := ⟨by decide +kernel, rfl⟩
theorem s4_158 : Nx prog_25_method_1_code 158 (.isub) 1 159 := ⟨by decide +kernel, rfl⟩
theorem s4_159 : Nx prog_25_method_1_code 159 (.istore 12) 2 161 := ⟨by decide +kernel, rfl⟩
theorem s4_161 : Nx prog_25_method_1_code 161 (.iload 12) 2 163 := ⟨by decide +kernel, rfl⟩
theorem s4_163 : Nx prog_25_method_1_code 163 (.aload 6) 2 165 := ⟨by decide +kernel, rfl⟩
theorem s4_165 : Nx prog_25_method_1_code 165 (.iload 11) 2 167 := ⟨by decide +kernel, rfl⟩
theorem k_22 {Z : State} {a0 : Array Value} (hw : HW1 Z a0) : VL Z a0 KT "com/example/sluice/sluice/algo/SpanningTree" 42 1 y8 prog_5_method_2_code 2 (some .int) 1 := ⟨_, _, rfl, (hw _ (List.mem_of_getElem? (i := 62) rfl)), (hw _ (List.mem_of_getElem? (i := 63) rfl)), (hw _ (List.mem_of_getElem? (i := 65) rfl)), (hw _ (List.mem_of_getElem? (i := 64) rfl)), (hw _ (List.mem_of_getElem? (i := 44) rfl)), (hw _ (List.mem_of_getElem? (i := 66) rfl)), ⟨by decide, by decide⟩, pd_2⟩
theorem s4_167 : Nx prog_25_method_1_code 167 (.invokevirtual 42) 3 170 := ⟨by decide +kernel, rfl⟩
theorem s4_170 : Bx prog_25_method_1_code 170 (.if_icmp .lt) 194 173 := ⟨(24), by decide +kernel, by decide, by decide, rfl⟩
theorem s4_173 : Nx prog_25_method_1_code 173 (.aload 8) 2 175 := ⟨by decide +kernel, rfl⟩
theorem s4_175 : Nx prog_25_method_1_code 175 (.iload 9) 2 177 := ⟨by decide +kernel, rfl⟩
theorem s4_177 : Nx prog_25_method_1_code 177 (.iinc 9 1) 3 180 := ⟨by decide +kernel, rfl⟩
theorem s4_180 : Nx prog_25_method_1_code 180 (.aload 6) 2 182 := ⟨by decide +kernel, rfl⟩
theorem s4_182 : Nx prog_25_method_1_code 182 (.iload 12) 2 184 := ⟨by decide +kernel, rfl⟩
theorem k_23 {Z : State} {a0 : Array Value} (hw : HW1 Z a0) : VL Z a0 KT "com/example/sluice/sluice/algo/SpanningTree" 45 1 y9 prog_5_method_4_code 2 (some .int) 1 := ⟨_, _, rfl, (hw _ (List.mem_of_getElem? (i := 67) rfl)), (hw _ (List.mem_of_getElem? (i := 68) rfl)), (hw _ (List.mem_of_getElem? (i := 70) rfl)), (hw _ (List.mem_of_getElem? (i := 69) rfl)), (hw _ (List.mem_of_getElem? (i := 44) rfl)), (hw _ (List.mem_of_getElem? (i := 71) rfl)), ⟨by decide, by decide⟩, pd_2⟩
theorem s4_184 : Nx prog_25_method_1_code 184 (.invokevirtual 45) 3 187 := ⟨by decide +kernel, rfl⟩
theorem s4_187 : Nx prog_25_method_1_code 187 (.iastore) 1 188 := ⟨by decide +kernel, rfl⟩
theorem s4_188 : Nx prog_25_method_1_code 188 (.iinc 12 (-1)) 3 191 := ⟨by decide +kernel, rfl⟩
theorem s4_191 : Bx prog_25_method_1_code 191 (.goto) 161 194 := ⟨(-30), by decide +kernel, by decide, by decide, rfl⟩
theorem s4_194 : Nx prog_25_method_1_code 194 (.iinc 10 1) 3 197 := ⟨by decide +kernel, rfl⟩
theorem s4_197 : Bx prog_25_method_1_code 197 (.goto) 126 200 := ⟨(-71), by decide +kernel, by decide, by decide, rfl⟩
theorem s4_200 : Nx prog_25_method_1_code 200 (.iconst 0) 1 201 := ⟨by decide +kernel, rfl⟩
theorem s4_201 : Nx prog_25_method_1_code 201 (.istore 10) 2 203 := ⟨by decide +kernel, rfl⟩
theorem s4_203 : Nx prog_25_method_1_code 203 (.iload 10) 2 205 := ⟨by decide +kernel, rfl⟩
theorem s4_205 : Nx prog_25_method_1_code 205 (.iload 4) 2 207 := ⟨by decide +kernel, rfl⟩
theorem s4_207 : Bx prog_25_method_1_code 207 (.if_icmp .ge) 235 210 := ⟨(28), by decide +kernel, by decide, by decide, rfl⟩
theorem s4_210 : Nx prog_25_method_1_code 210 (.aload_n 0) 1 211 := ⟨by decide +kernel, rfl⟩
theorem s4_211 : Nx prog_25_method_1_code 211 (.aload 7) 2 213 := ⟨by decide +kernel, rfl⟩
theorem s4_213 : Nx prog_25_method_1_code 213 (.iload 10) 2 215 := ⟨by decide +kernel, rfl⟩
theorem s4_215 : Nx prog_25_method_1_code 215 (.iaload) 1 216 := ⟨by decide +kernel, rfl⟩
theorem s4_216 : Nx prog_25_method_1_code 216 (.aload 7) 2 218 := ⟨by decide +kernel, rfl⟩
theorem s4_218 : Nx prog_25_method_1_code 218 (.iload 10) 2 220 := ⟨by decide +kernel, rfl⟩
theorem s4_220 : Nx prog_25_method_1_code 220 (.iconst 1) 1 221 := ⟨by decide +kernel, rfl⟩
theorem s4_221 : Nx prog_25_method_1_code 221 (.iadd) 1 222 := ⟨by decide +kernel, rfl⟩
theorem s4_222 : Nx prog_25_method_1_code 222 (.iload 4) 2 224 := ⟨by decide +kernel, rfl⟩
theorem s4_224 : Nx prog_25_method_1_code 224 (.irem) 1 225 := ⟨by decide +kernel, rfl⟩
theorem s4_225 : Nx prog_25_method_1_code 225 (.iaload) 1 226 := ⟨by decide +kernel, rfl⟩
theorem pd_5 : ∀ sig, parseMethodDescriptor "(II)V" = some sig → 2 = sig.parameters.length := npOf (r := none) (ps := [.int, .int]) (by decide +kernel) rfl
theorem k_24 {Z : State} {a0 : Array Value} (hw : HW1 Z a0) : ML Z a0 KT "com/example/sluice/sluice/algo/SpanningTree" 48 0 y10 prog_25_method_10_code 3 none 2 := ⟨_, _, rfl, (hw _ (List.mem_of_getElem? (i := 72) rfl)), (hw _ (List.mem_of_getElem? (i := 74) rfl)), rfl, (hw _ (List.mem_of_getElem? (i := 73) rfl)), (hw _ (List.mem_of_getElem? (i := 14) rfl)), (hw _ (List.mem_of_getElem? (i := 75) rfl)), ⟨by decide, by decide⟩, pd_5⟩
theorem s4_226 : Nx prog_25_method_1_code 226 (.invokevirtual 48) 3 229 := ⟨by decide +kernel, rfl⟩
theorem s4_229 : Nx prog_25_method_1_code 229 (.iinc 10 1) 3 232 := ⟨by decide +kernel, rfl⟩
theorem s4_232 : Bx prog_25_method_1_code 232 (.goto) 203 235 := ⟨(-29), by decide +kernel, by decide, by decide, rfl⟩
theorem s4_235 : Nx prog_25_method_1_code 235 (.iload 4) 2 237 := ⟨by decide +kernel, rfl⟩
theorem s4_237 : Nx prog_25_method_1_code 237 (.iconst 1) 1 238 := ⟨by decide +kernel, rfl⟩
theorem s4_238 : Nx prog_25_method_1_code 238 (.isub) 1 239 := ⟨by decide +kernel, rfl⟩
theorem s4_239 : Nx prog_25_method_1_code 239 (.istore 10) 2 241 := ⟨by decide +kernel, rfl⟩
theorem s4_241 : Nx prog_25_method_1_code 241 (.iload 10) 2 243 := ⟨by decide +kernel, rfl⟩
theorem s4_243 : Bx prog_25_method_1_code 243 (.ifCond .lt) 298 246 := ⟨(55), by decide +kernel, by decide, by decide, rfl⟩
theorem s4_246 : Nx prog_25_method_1_code 246 (.aload 7) 2 248 := ⟨by decide +kernel, rfl⟩
theorem s4_248 : Nx prog_25_method_1_code 248 (.iload 10) 2 250 := ⟨by decide +kernel, rfl⟩
theorem s4_250 : Nx prog_25_method_1_code 250 (.iaload) 1 251 := ⟨by decide +kernel, rfl⟩
theorem s4_251 : Nx prog_25_method_1_code 251 (.istore 11) 2 253 := ⟨by decide +kernel, rfl⟩
theorem s4_253 : Nx prog_25_method_1_code 253 (.aload_n 0) 1 254 := ⟨by decide +kernel, rfl⟩
theorem k_25 {Z : State} {a0 : Array Value} (hw : HW1 Z a0) : FL Z a0 KT "com/example/sluice/sluice/algo/SpanningTree" 21 0 2 := ⟨_, _, "com/example/sluice/sluice/algo/SpanningTree", "size", "[I", "", rfl, rfl, (Or.inl (hw _ (List.mem_of_getElem? (i := 34) rfl)))⟩
theorem s4_254 : Nx prog_25_method_1_code 254 (.getfield 21) 3 257 := ⟨by decide +kernel, rfl⟩
theorem s4_257 : Nx prog_25_method_1_code 257 (.iload 11) 2 259 := ⟨by decide +kernel, rfl⟩
theorem s4_259 : Nx prog_25_method_1_code 259 (.dup2) 1 260 := ⟨by decide +kernel, rfl⟩
theorem s4_260 : Nx prog_25_method_1_code 260 (.iaload) 1 261 := ⟨by decide +kernel, rfl⟩
theorem s4_261 : Nx prog_25_method_1_code 261 (.iconst 1) 1 262 := ⟨by decide +kernel, rfl⟩
theorem s4_262 : Nx prog_25_method_1_code 262 (.iadd) 1 263 := ⟨by decide +kernel, rfl⟩
theorem s4_263 : Nx prog_25_method_1_code 263 (.iastore) 1 264 := ⟨by decide +kernel, rfl⟩
theorem s4_264 : Nx prog_25_method_1_code 264 (.iload 11) 2 266 := ⟨by decide +kernel, rfl⟩
theorem s4_266 : Nx prog_25_method_1_code 266 (.iload_n 1) 1 267 := ⟨by decide +kernel, rfl⟩
theorem s4_267 : Bx prog_25_method_1_code 267 (.if_icmp .eq) 292 270 := ⟨(25), by decide +kernel, by decide, by decide, rfl⟩
theorem s4_270 : Nx prog_25_method_1_code 270 (.aload_n 0) 1 271 := ⟨by decide +kernel, rfl⟩
theorem s4_271 : Nx prog_25_method_1_code 271 (.getfield 21) 3 274 := ⟨by decide +kernel, rfl⟩
theorem s4_274 : Nx prog_25_method_1_code 274 (.aload_n 0) 1 275 := ⟨by decide +kernel, rfl⟩
theorem s4_275 : Nx prog_25_method_1_code 275 (.getfield 13) 3 278 := ⟨by decide +kernel, rfl⟩
theorem s4_278 : Nx prog_25_method_1_code 278 (.iload 11) 2 280 := ⟨by decide +kernel, rfl⟩
theorem s4_280 : Nx prog_25_method_1_code 280 (.iaload) 1 281 := ⟨by decide +kernel, rfl⟩
theorem s4_281 : Nx prog_25_method_1_code 281 (.dup2) 1 282 := ⟨by decide +kernel, rfl⟩
theorem s4_282 : Nx prog_25_method_1_code 282 (.iaload) 1 283 := ⟨by decide +kernel, rfl⟩
theorem s4_283 : Nx prog_25_method_1_code 283 (.aload_n 0) 1 284 := ⟨by decide +kernel, rfl⟩
theorem s4_284 : Nx prog_25_method_1_code 284 (.getfield 21) 3 287 := ⟨by decide +kernel, rfl⟩
theorem s4_287 : Nx prog_25_method_1_code 287 (.iload 11) 2 289 := ⟨by decide +kernel, rfl⟩
theorem s4_289 : Nx prog_25_method_1_code 289 (.iaload) 1 290 := ⟨by decide +kernel, rfl⟩
theorem s4_290 : Nx prog_25_method_1_code 290 (.iadd) 1 291 := ⟨by decide +kernel, rfl⟩
theorem s4_291 : Nx prog_25_method_1_code 291 (.iastore) 1 292 := ⟨by decide +kernel, rfl⟩
theorem s4_292 : Nx prog_25_method_1_code 292 (.iinc 10 (-1)) 3 295 := ⟨by decide +kernel, rfl⟩
theorem s4_295 : Bx prog_25_method_1_code 295 (.goto) 241 298 := ⟨(-54), by decide +kernel, by decide, by decide, rfl⟩
theorem s4_298 : Nx prog_25_method_1_code 298 (.iconst 0) 1 299 := ⟨by decide +kernel, rfl⟩
theorem s4_299 : Nx prog_25_method_1_code 299 (.istore 10) 2 301 := ⟨by decide +kernel, rfl⟩
theorem s4_301 : Nx prog_25_method_1_code 301 (.iload 10) 2 303 := ⟨by decide +kernel, rfl⟩
theorem s4_303 : Nx prog_25_method_1_code 303 (.iload 4) 2 305 := ⟨by decide +kernel, rfl⟩
theorem s4_305 : Bx prog_25_method_1_code 305 (.if_icmp .ge) 342 308 := ⟨(37), by decide +kernel, by decide, by decide, rfl⟩
theorem s4_308 : Nx prog_25_method_1_code 308 (.aload_n 0) 1 309 := ⟨by decide +kernel, rfl⟩
theorem k_26 {Z : State} {a0 : Array Value} (hw : HW1 Z a0) : FL Z a0 KT "com/example/sluice/sluice/algo/SpanningTree" 30 0 5 := ⟨_, _, "com/example/sluice/sluice/algo/SpanningTree", "last", "[I", "", rfl, rfl, (Or.inl (hw _ (List.mem_of_getElem? (i := 40) rfl)))⟩
theorem s4_309 : Nx prog_25_method_1_code 309 (.getfield 30) 3 312 := ⟨by decide +kernel, rfl⟩
theorem s4_312 : Nx prog_25_method_1_code 312 (.aload 7) 2 314 := ⟨by decide +kernel, rfl⟩
theorem s4_314 : Nx prog_25_method_1_code 314 (.iload 10) 2 316 := ⟨by decide +kernel, rfl⟩
theorem s4_316 : Nx prog_25_method_1_code 316 (.iaload) 1 317 := ⟨by decide +kernel, rfl⟩
theorem s4_317 : Nx prog_25_method_1_code 317 (.aload 7) 2 319 := ⟨by decide +kernel, rfl⟩
theorem s4_319 : Nx prog_25_method_1_code 319 (.iload 10) 2 321 := ⟨by decide +kernel, rfl⟩
theorem s4_321 : Nx prog_25_method_1_code 321 (.aload_n 0) 1 322 := ⟨by decide +kernel, rfl⟩
theorem s4_322 : Nx prog_25_method_1_code 322 (.getfield 21) 3 325 := ⟨by decide +kernel, rfl⟩
theorem s4_325 : Nx prog_25_method_1_code 325 (.aload 7) 2 327 := ⟨by decide +kernel, rfl⟩
theorem s4_327 : Nx prog_25_method_1_code 327 (.iload 10) 2 329 := ⟨by decide +kernel, rfl⟩
theorem s4_329 : Nx prog_25_method_1_code 329 (.iaload) 1 330 := ⟨by decide +kernel, rfl⟩
theorem s4_330 : Nx prog_25_method_1_code 330 (.iaload) 1 331 := ⟨by decide +kernel, rfl⟩
theorem s4_331 : Nx prog_25_method_1_code 331 (.iadd) 1 332 := ⟨by decide +kernel, rfl⟩
theorem s4_332 : Nx prog_25_method_1_code 332 (.iconst 1) 1 333 := ⟨by decide +kernel, rfl⟩
theorem s4_333 : Nx prog_25_method_1_code 333 (.isub) 1 334 := ⟨by decide +kernel, rfl⟩
theorem s4_334 : Nx prog_25_method_1_code 334 (.iaload) 1 335 := ⟨by decide +kernel, rfl⟩
theorem s4_335 : Nx prog_25_method_1_code 335 (.iastore) 1 336 := ⟨by decide +kernel, rfl⟩
theorem s4_336 : Nx prog_25_method_1_code 336 (.iinc 10 1) 3 339 := ⟨by decide +kernel, rfl⟩
theorem s4_339 : Bx prog_25_method_1_code 339 (.goto) 301 342 := ⟨(-38), by decide +kernel, by decide, by decide, rfl⟩
theorem s4_342 : Nx prog_25_method_1_code 342 (.return_) 1 343 := ⟨by decide +kernel, rfl⟩
theorem s6_0 : Nx prog_5_method_1_code 0 (.aload_n 0) 1 1 := ⟨by decide +kernel, rfl⟩
theorem s6_1 : Nx prog_5_method_1_code 1 (.invokespecial 1) 3 4 := ⟨by decide +kernel, rfl⟩
theorem k_27 {Z : State} {a0 : Array Value} (hw : HW1 Z a0) : IL Z a0 "com/example/sluice/sluice/algo/ByVertex" 1 := ⟨(hw _ (List.mem_of_getElem? (i := 48) rfl)), (hw _ (List.mem_of_getElem? (i := 19) rfl)), (hw _ (List.mem_of_getElem? (i := 20) rfl))⟩
theorem s6_4 : Nx prog_5_method_1_code 4 (.aload_n 0) 1 5 := ⟨by decide +kernel, rfl⟩
theorem s6_5 : Nx prog_5_method_1_code 5 (.iload_n 2) 1 6 := ⟨by decide +kernel, rfl⟩
theorem s6_6 : Nx prog_5_method_1_code 6 (.iconst 1) 1 7 := ⟨by decide +kernel, rfl⟩
theorem s6_7 : Nx prog_5_method_1_code 7 (.iadd) 1 8 := ⟨by decide +kernel, rfl⟩
theorem s6_8 : Nx prog_5_method_1_code 8 (.newarray .int) 2 10 := ⟨by decide +kernel, rfl⟩
theorem k_28 {Z : State} {a0 : Array Value} (hw : HW1 Z a0) : PL Z a0 KT "com/example/sluice/sluice/algo/ByVertex" "<init>" 7 1 0 (.array .int) := ⟨_, _, "com/example/sluice/sluice/algo/ByVertex", "start", "[I", "", rfl, rfl, (Or.inl (hw _ (List.mem_of_getElem? (i := 49) rfl))), (Or.inr ⟨(hw _ (List.mem_of_getElem? (i := 50) rfl)), rfl, rfl⟩), by decide +kernel⟩
theorem s6_10 : Nx prog_5_method_1_code 10 (.putfield 7) 3 13 := ⟨by decide +kernel, rfl⟩
theorem s6_13 : Nx prog_5_method_1_code 13 (.aload_n 1) 1 14 := ⟨by decide +kernel, rfl⟩
theorem s6_14 : Nx prog_5_method_1_code 14 (.astore_n 3) 1 15 := ⟨by decide +kernel, rfl⟩
theorem s6_15 : Nx prog_5_method_1_code 15 (.aload_n 3) 1 16 := ⟨by decide +kernel, rfl⟩
theorem s6_16 : Nx prog_5_method_1_code 16 (.arraylength) 1 17 := ⟨by decide +kernel, rfl⟩
theorem s6_17 : Nx prog_5_method_1_code 17 (.istore 4) 2 19 := ⟨by decide +kernel, rfl⟩
theorem s6_19 : Nx prog_5_method_1_code 19 (.iconst 0) 1 20 := ⟨by decide +kernel, rfl⟩
theorem s6_20 : Nx prog_5_method_1_code 20 (.istore 5) 2 22 := ⟨by decide +kernel, rfl⟩
theorem s6_22 : Nx prog_5_method_1_code 22 (.iload 5) 2 24 := ⟨by decide +kernel, rfl⟩
theorem s6_24 : Nx prog_5_method_1_code 24 (.iload 4) 2 26 := ⟨by decide +kernel, rfl⟩
theorem s6_26 : Bx prog_5_method_1_code 26 (.if_icmp .ge) 54 29 := ⟨(28), by decide +kernel, by decide, by decide, rfl⟩
theorem s6_29 : Nx prog_5_method_1_code 29 (.aload_n 3) 1 30 := ⟨by decide +kernel, rfl⟩
theorem s6_30 : Nx prog_5_method_1_code 30 (.iload 5) 2 32 := ⟨by decide +kernel, rfl⟩
theorem s6_32 : Nx prog_5_method_1_code 32 (.iaload) 1 33 := ⟨by decide +kernel, rfl⟩
theorem s6_33 : Nx prog_5_method_1_code 33 (.istore 6) 2 35 := ⟨by decide +kernel, rfl⟩
theorem s6_35 : Nx prog_5_method_1_code 35 (.aload_n 0) 1 36 := ⟨by decide +kernel, rfl⟩
theorem k_29 {Z : State} {a0 : Array Value} (hw : HW1 Z a0) : FL Z a0 KT "com/example/sluice/sluice/algo/ByVertex" 7 1 0 := ⟨_, _, "com/example/sluice/sluice/algo/ByVertex", "start", "[I", "", rfl, rfl, (Or.inl (hw _ (List.mem_of_getElem? (i := 49) rfl)))⟩
theorem s6_36 : Nx prog_5_method_1_code 36 (.getfield 7) 3 39 := ⟨by decide +kernel, rfl⟩
theorem s6_39 : Nx prog_5_method_1_code 39 (.iload 6) 2 41 := ⟨by decide +kernel, rfl⟩
theorem s6_41 : Nx prog_5_method_1_code 41 (.iconst 1) 1 42 := ⟨by decide +kernel, rfl⟩
theorem s6_42 : Nx prog_5_method_1_code 42 (.iadd) 1 43 := ⟨by decide +kernel, rfl⟩
theorem s6_43 : Nx prog_5_method_1_code 43 (.dup2) 1 44 := ⟨by decide +kernel, rfl⟩
theorem s6_44 : Nx prog_5_method_1_code 44 (.iaload) 1 45 := ⟨by decide +kernel, rfl⟩
theorem s6_45 : Nx prog_5_method_1_code 45 (.iconst 1) 1 46 := ⟨by decide +kernel, rfl⟩
theorem s6_46 : Nx prog_5_method_1_code 46 (.iadd) 1 47 := ⟨by decide +kernel, rfl⟩
theorem s6_47 : Nx prog_5_method_1_code 47 (.iastore) 1 48 := ⟨by decide +kernel, rfl⟩
theorem s6_48 : Nx prog_5_method_1_code 48 (.iinc 5 1) 3 51 := ⟨by decide +kernel, rfl⟩
theorem s6_51 : Bx prog_5_method_1_code 51 (.goto) 22 54 := ⟨(-29), by decide +kernel, by decide, by decide, rfl⟩
theorem s6_54 : Nx prog_5_method_1_code 54 (.iconst 0) 1 55 := ⟨by decide +kernel, rfl⟩
theorem s6_55 : Nx prog_5_method_1_code 55 (.istore_n 3) 1 56 := ⟨by decide +kernel, rfl⟩
theorem s6_56 : Nx prog_5_method_1_code 56 (.iload_n 3) 1 57 := ⟨by decide +kernel, rfl⟩
theorem s6_57 : Nx prog_5_method_1_code 57 (.iload_n 2) 1 58 := ⟨by decide +kernel, rfl⟩
theorem s6_58 : Bx prog_5_method_1_code 58 (.if_icmp .ge) 84 61 := ⟨(26), by decide +kernel, by decide, by decide, rfl⟩
theorem s6_61 : Nx prog_5_method_1_code 61 (.aload_n 0) 1 62 := ⟨by decide +kernel, rfl⟩
theorem s6_62 : Nx prog_5_method_1_code 62 (.getfield 7) 3 65 := ⟨by decide +kernel, rfl⟩
theorem s6_65 : Nx prog_5_method_1_code 65 (.iload_n 3) 1 66 := ⟨by decide +kernel, rfl⟩
theorem s6_66 : Nx prog_5_method_1_code 66 (.iconst 1) 1 67 := ⟨by decide +kernel, rfl⟩
theorem s6_67 : Nx prog_5_method_1_code 67 (.iadd) 1 68 := ⟨by decide +kernel, rfl⟩
theorem s6_68 : Nx prog_5_method_1_code 68 (.dup2) 1 69 := ⟨by decide +kernel, rfl⟩
theorem s6_69 : Nx prog_5_method_1_code 69 (.iaload) 1 70 := ⟨by decide +kernel, rfl⟩
theorem s6_70 : Nx prog_5_method_1_code 70 (.aload_n 0) 1 71 := ⟨by decide +kernel, rfl⟩
theorem s6_71 : Nx prog_5_method_1_code 71 (.getfield 7) 3 74 := ⟨by decide +kernel, rfl⟩
theorem s6_74 : Nx prog_5_method_1_code 74 (.iload_n 3) 1 75 := ⟨by decide +kernel, rfl⟩
theorem s6_75 : Nx prog_5_method_1_code 75 (.iaload) 1 76 := ⟨by decide +kernel, rfl⟩
theorem s6_76 : Nx prog_5_method_1_code 76 (.iadd) 1 77 := ⟨by decide +kernel, rfl⟩
theorem s6_77 : Nx prog_5_method_1_code 77 (.iastore) 1 78 := ⟨by decide +kernel, rfl⟩
theorem s6_78 : Nx prog_5_method_1_code 78 (.iinc 3 1) 3 81 := ⟨by decide +kernel, rfl⟩
theorem s6_81 : Bx prog_5_method_1_code 81 (.goto) 56 84 := ⟨(-25), by decide +kernel, by decide, by decide, rfl⟩
theorem s6_84 : Nx prog_5_method_1_code 84 (.aload_n 0) 1 85 := ⟨by decide +kernel, rfl⟩
theorem s6_85 : Nx prog_5_method_1_code 85 (.aload_n 1) 1 86 := ⟨by decide +kernel, rfl⟩
theorem s6_86 : Nx prog_5_method_1_code 86 (.arraylength) 1 87 := ⟨by decide +kernel, rfl⟩
theorem s6_87 : Nx prog_5_method_1_code 87 (.newarray .int) 2 89 := ⟨by decide +kernel, rfl⟩
theorem k_30 {Z : State} {a0 : Array Value} (hw : HW1 Z a0) : PL Z a0 KT "com/example/sluice/sluice/algo/ByVertex" "<init>" 13 1 1 (.array .int) := ⟨_, _, "com/example/sluice/sluice/algo/ByVertex", "items", "[I", "", rfl, rfl, (Or.inl (hw _ (List.mem_of_getElem? (i := 51) rfl))), (Or.inr ⟨(hw _ (List.mem_of_getElem? (i := 52) rfl)), rfl, rfl⟩), by decide +kernel⟩
theorem s6_89 : Nx prog_5_method_1_code 89 (.putfield 13) 3 92 := ⟨by decide +kernel, rfl⟩
theorem s6_92 : Nx prog_5_method_1_code 92 (.iload_n 2) 1 93 := ⟨by decide +kernel, rfl⟩
theorem s6_93 : Nx prog_5_method_1_code 93 (.newarray .int) 2 95 := ⟨by decide +kernel, rfl⟩
theorem s6_95 : Nx prog_5_method_1_code 95 (.astore_n 3) 1 96 := ⟨by decide +kernel, rfl⟩
theorem s6_96 : Nx prog_5_method_1_code 96 (.aload_n 0) 1 97 := ⟨by decide +kernel, rfl⟩
theorem s6_97 : Nx prog_5_method_1_code 97 (.getfield 7) 3 100 := ⟨by decide +kernel, rfl⟩
theorem s6_100 : Nx prog_5_method_1_code 100 (.iconst 0) 1 101 := ⟨by decide +kernel, rfl⟩
theorem s6_101 : Nx prog_5_method_1_code 101 (.aload_n 3) 1 102 := ⟨by decide +kernel, rfl⟩
theorem s6_102 : Nx prog_5_method_1_code 102 (.iconst 0) 1 103 := ⟨by decide +kernel, rfl⟩
theorem s6_103 : Nx prog_5_method_1_code 103 (.iload_n 2) 1 104 := ⟨by decide +kernel, rfl⟩
theorem k_31 {Z : State} {a0 : Array Value} (hw : HW1 Z a0) : XL Z a0 "com/example/sluice/sluice/algo/ByVertex" 16 := ⟨(hw _ (List.mem_of_getElem? (i := 53) rfl)), (hw _ (List.mem_of_getElem? (i := 56) rfl)), (hw _ (List.mem_of_getElem? (i := 54) rfl)), (hw _ (List.mem_of_getElem? (i := 55) rfl))⟩
theorem s6_104 : Nx prog_5_method_1_code 104 (.invokestatic 16) 3 107 := ⟨by decide +kernel, rfl⟩
theorem s6_107 : Nx prog_5_method_1_code 107 (.iconst 0) 1 108 := ⟨by decide +kernel, rfl⟩
theorem s6_108 : Nx prog_5_method_1_code 108 (.istore 4) 2 110 := ⟨by decide +kernel, rfl⟩
theorem s6_110 : Nx prog_5_method_1_code 110 (.iload 4) 2 112 := ⟨by decide +kernel, rfl⟩
theorem s6_112 : Nx prog_5_method_1_code 112 (.aload_n 1) 1 113 := ⟨by decide +kernel, rfl⟩
theorem s6_113 : Nx prog_5_method_1_code 113 (.arraylength) 1 114 := ⟨by decide +kernel, rfl⟩
theorem s6_114 : Bx prog_5_method_1_code 114 (.if_icmp .ge) 141 117 := ⟨(27), by decide +kernel, by decide, by decide, rfl⟩
theorem s6_117 : Nx prog_5_method_1_code 117 (.aload_n 0) 1 118 := ⟨by decide +kernel, rfl⟩
theorem k_32 {Z : State} {a0 : Array Value} (hw : HW1 Z a0) : FL Z a0 KT "com/example/sluice/sluice/algo/ByVertex" 13 1 1 := ⟨_, _, "com/example/sluice/sluice/algo/ByVertex", "items", "[I", "", rfl, rfl, (Or.inl (hw _ (List.mem_of_getElem? (i := 51) rfl)))⟩
theorem s6_118 : Nx prog_5_method_1_code 118 (.getfield 13) 3 121 := ⟨by decide +kernel, rfl⟩
theorem s6_121 : Nx prog_5_method_1_code 121 (.aload_n 3) 1 122 := ⟨by decide +kernel, rfl⟩
theorem s6_122 : Nx prog_5_method_1_code 122 (.aload_n 1) 1 123 := ⟨by decide +kernel, rfl⟩
theorem s6_123 : Nx prog_5_method_1_code 123 (.iload 4) 2 125 := ⟨by decide +kernel, rfl⟩
theorem s6_125 : Nx prog_5_method_1_code 125 (.iaload) 1 126 := ⟨by decide +kernel, rfl⟩
theorem s6_126 : Nx prog_5_method_1_code 126 (.dup2) 1 127 := ⟨by decide +kernel, rfl⟩
theorem s6_127 : Nx prog_5_method_1_code 127 (.iaload) 1 128 := ⟨by decide +kernel, rfl⟩
theorem s6_128 : Nx prog_5_method_1_code 128 (.dup_x2) 1 129 := ⟨by decide +kernel, rfl⟩
theorem s6_129 : Nx prog_5_method_1_code 129 (.iconst 1) 1 130 := ⟨by decide +kernel, rfl⟩
theorem s6_130 : Nx prog_5_method_1_code 130 (.iadd) 1 131 := ⟨by decide +kernel, rfl⟩
theorem s6_131 : Nx prog_5_method_1_code 131 (.iastore) 1 132 := ⟨by decide +kernel, rfl⟩
theorem s6_132 : Nx prog_5_method_1_code 132 (.iload 4) 2 134 := ⟨by decide +kernel, rfl⟩
theorem s6_134 : Nx prog_5_method_1_code 134 (.iastore) 1 135 := ⟨by decide +kernel, rfl⟩
theorem s6_135 : Nx prog_5_method_1_code 135 (.iinc 4 1) 3 138 := ⟨by decide +kernel, rfl⟩
theorem s6_138 : Bx prog_5_method_1_code 138 (.goto) 110 141 := ⟨(-28), by decide +kernel, by decide, by decide, rfl⟩
theorem s6_141 : Nx prog_5_method_1_code 141 (.return_) 1 142 := ⟨by decide +kernel, rfl⟩
theorem s7_0 : Nx prog_5_method_3_code 0 (.aload_n 0) 1 1 := ⟨by decide +kernel, rfl⟩
theorem s7_1 : Nx prog_5_method_3_code 1 (.getfield 7) 3 4 := ⟨by decide +kernel, rfl⟩
theorem s7_4 : Nx prog_5_method_3_code 4 (.iload_n 1) 1 5 := ⟨by decide +kernel, rfl⟩
theorem s7_5 : Nx prog_5_method_3_code 5 (.iconst 1) 1 6 := ⟨by decide +kernel, rfl⟩
theorem s7_6 : Nx prog_5_method_3_code 6 (.iadd) 1 7 := ⟨by decide +kernel, rfl⟩
theorem s7_7 : Nx prog_5_method_3_code 7 (.iaload) 1 8 := ⟨by decide +kernel, rfl⟩
theorem s7_8 : Nx prog_5_method_3_code 8 (.ireturn) 1 9 := ⟨by decide +kernel, rfl⟩
theorem s8_0 : Nx prog_5_method_2_code 0 (.aload_n 0) 1 1 := ⟨by decide +kernel, rfl⟩
theorem s8_1 : Nx prog_5_method_2_code 1 (.getfield 7) 3 4 := ⟨by decide +kernel, rfl⟩
theorem s8_4 : Nx prog_5_method_2_code 4 (.iload_n 1) 1 5 := ⟨by decide +kernel, rfl⟩
theorem s8_5 : Nx prog_5_method_2_code 5 (.iaload) 1 6 := ⟨by decide +kernel, rfl⟩
theorem s8_6 : Nx prog_5_method_2_code 6 (.ireturn) 1 7 := ⟨by decide +kernel, rfl⟩
theorem s9_0 : Nx prog_5_method_4_code 0 (.aload_n 0) 1 1 := ⟨by decide +kernel, rfl⟩
theorem s9_1 : Nx prog_5_method_4_code 1 (.getfield 13) 3 4 := ⟨by decide +kernel, rfl⟩
theorem s9_4 : Nx prog_5_method_4_code 4 (.iload_n 1) 1 5 := ⟨by decide +kernel, rfl⟩
theorem s9_5 : Nx prog_5_method_4_code 5 (.iaload) 1 6 := ⟨by decide +kernel, rfl⟩
theorem s9_6 : Nx prog_5_method_4_code 6 (.ireturn) 1 7 := ⟨by decide +kernel, rfl⟩
theorem s10_0 : Nx prog_25_method_10_code 0 (.aload_n 0) 1 1 := ⟨by decide +kernel, rfl⟩
theorem k_33 {Z : State} {a0 : Array Value} (hw : HW1 Z a0) : FL Z a0 KT "com/example/sluice/sluice/algo/SpanningTree" 24 0 3 := ⟨_, _, "com/example/sluice/sluice/algo/SpanningTree", "following", "[I", "", rfl, rfl, (Or.inl (hw _ (List.mem_of_getElem? (i := 36) rfl)))⟩
theorem s10_1 : Nx prog_25_method_10_code 1 (.getfield 24) 3 4 := ⟨by decide +kernel, rfl⟩
theorem s10_4 : Nx prog_25_method_10_code 4 (.iload_n 1) 1 5 := ⟨by decide +kernel, rfl⟩
theorem s10_5 : Nx prog_25_method_10_code 5 (.iload_n 2) 1 6 := ⟨by decide +kernel, rfl⟩
theorem s10_6 : Nx prog_25_method_10_code 6 (.iastore) 1 7 := ⟨by decide +kernel, rfl⟩
theorem s10_7 : Nx prog_25_method_10_code 7 (.aload_n 0) 1 8 := ⟨by decide +kernel, rfl⟩
theorem k_34 {Z : State} {a0 : Array Value} (hw : HW1 Z a0) : FL Z a0 KT "com/example/sluice/sluice/algo/SpanningTree" 27 0 4 := ⟨_, _, "com/example/sluice/sluice/algo/SpanningTree", "preceding", "[I", "", rfl, rfl, (Or.inl (hw _ (List.mem_of_getElem? (i := 38) rfl)))⟩
theorem s10_8 : Nx prog_25_method_10_code 8 (.getfield 27) 3 11 := ⟨by decide +kernel, rfl⟩
theorem s10_11 : Nx prog_25_method_10_code 11 (.iload_n 2) 1 12 := ⟨by decide +kernel, rfl⟩
theorem s10_12 : Nx prog_25_method_10_code 12 (.iload_n 1) 1 13 := ⟨by decide +kernel, rfl⟩
theorem s10_13 : Nx prog_25_method_10_code 13 (.iastore) 1 14 := ⟨by decide +kernel, rfl⟩
theorem s10_14 : Nx prog_25_method_10_code 14 (.return_) 1 15 := ⟨by decide +kernel, rfl⟩
theorem s11_0 : Nx prog_25_method_7_code 0 (.aload_n 0) 1 1 := ⟨by decide +kernel, rfl⟩
theorem s11_1 : Nx prog_25_method_7_code 1 (.getfield 24) 3 4 := ⟨by decide +kernel, rfl⟩
theorem s11_4 : Nx prog_25_method_7_code 4 (.aload_n 0) 1 5 := ⟨by decide +kernel, rfl⟩
theorem s11_5 : Nx prog_25_method_7_code 5 (.getfield 30) 3 8 := ⟨by decide +kernel, rfl⟩
theorem s11_8 : Nx prog_25_method_7_code 8 (.iload_n 1) 1 9 := ⟨by decide +kernel, rfl⟩
theorem s11_9 : Nx prog_25_method_7_code 9 (.iaload) 1 10 := ⟨by decide +kernel, rfl⟩
theorem s11_10 : Nx prog_25_method_7_code 10 (.iaload) 1 11 := ⟨by decide +kernel, rfl⟩
theorem s11_11 : Nx prog_25_method_7_code 11 (.iload_n 1) 1 12 := ⟨by decide +kernel, rfl⟩
theorem s11_12 : Bx prog_25_method_7_code 12 (.if_icmp .eq) 29 15 := ⟨(17), by decide +kernel, by decide, by decide, rfl⟩
theorem s11_15 : Nx prog_25_method_7_code 15 (.aload_n 0) 1 16 := ⟨by decide +kernel, rfl⟩
theorem s11_16 : Nx prog_25_method_7_code 16 (.getfield 24) 3 19 := ⟨by decide +kernel, rfl⟩
theorem s11_19 : Nx prog_25_method_7_code 19 (.aload_n 0) 1 20 := ⟨by decide +kernel, rfl⟩
theorem s11_20 : Nx prog_25_method_7_code 20 (.getfield 30) 3 23 := ⟨by decide +kernel, rfl⟩
theorem s11_23 : Nx prog_25_method_7_code 23 (.iload_n 1) 1 24 := ⟨by decide +kernel, rfl⟩
theorem s11_24 : Nx prog_25_method_7_code 24 (.iaload) 1 25 := ⟨by decide +kernel, rfl⟩
theorem s11_25 : Nx prog_25_method_7_code 25 (.iaload) 1 26 := ⟨by decide +kernel, rfl⟩
theorem s11_26 : Bx prog_25_method_7_code 26 (.goto) 30 29 := ⟨(4), by decide +kernel, by decide, by decide, rfl⟩
theorem s11_29 : Nx prog_25_method_7_code 29 (.iconst (-1)) 1 30 := ⟨by decide +kernel, rfl⟩
theorem s11_30 : Nx prog_25_method_7_code 30 (.ireturn) 1 31 := ⟨by decide +kernel, rfl⟩
theorem s12_0 : Nx method_8_code 0 (.iload_n 2) 1 1 := ⟨by decide +kernel, rfl⟩
theorem s12_1 : Nx method_8_code 1 (.iload_n 1) 1 2 := ⟨by decide +kernel, rfl⟩
theorem s12_2 : Bx method_8_code 2 (.if_icmp .ne) 7 5 := ⟨(5), by decide +kernel, by decide, by decide, rfl⟩
theorem s12_5 : Nx method_8_code 5 (.iconst (-1)) 1 6 := ⟨by decide +kernel, rfl⟩
theorem s12_6 : Nx method_8_code 6 (.ireturn) 1 7 := ⟨by decide +kernel, rfl⟩
theorem s12_7 : Nx method_8_code 7 (.iload_n 2) 1 8 := ⟨by decide +kernel, rfl⟩
theorem s12_8 : Nx method_8_code 8 (.istore_n 3) 1 9 := ⟨by decide +kernel, rfl⟩
theorem s12_9 : Nx method_8_code 9 (.aload_n 0) 1 10 := ⟨by decide +kernel, rfl⟩
theorem s12_10 : Nx method_8_code 10 (.iload_n 1) 1 11 := ⟨by decide +kernel, rfl⟩
theorem s12_11 : Nx method_8_code 11 (.iload_n 3) 1 12 := ⟨by decide +kernel, rfl⟩
theorem k_35 {Z : State} {a0 : Array Value} (hw : HW1 Z a0) : SL Z a0 "com/example/sluice/sluice/algo/SpanningTreeFirstOutsidePinLaw" 38 y13 method_7_code 5 (some .int) 3 := ⟨(hw _ (List.mem_of_getElem? (i := 84) rfl)), (hw _ (List.mem_of_getElem? (i := 85) rfl)), (hw _ (List.mem_of_getElem? (i := 4) rfl)), (hw _ (List.mem_of_getElem? (i := 86) rfl)), ⟨by decide, by decide⟩, pd_0⟩
theorem s12_12 : Nx method_8_code 12 (.invokestatic 38) 3 15 := ⟨by decide +kernel, rfl⟩
theorem s12_15 : Nx method_8_code 15 (.istore 4) 2 17 := ⟨by decide +kernel, rfl⟩
theorem s12_17 : Nx method_8_code 17 (.iload 4) 2 19 := ⟨by decide +kernel, rfl⟩
theorem s12_19 : Bx method_8_code 19 (.ifCond .lt) 25 22 := ⟨(6), by decide +kernel, by decide, by decide, rfl⟩
theorem s12_22 : Nx method_8_code 22 (.iload 4) 2 24 := ⟨by decide +kernel, rfl⟩
theorem s12_24 : Nx method_8_code 24 (.ireturn) 1 25 := ⟨by decide +kernel, rfl⟩
theorem s12_25 : Nx method_8_code 25 (.aload_n 0) 1 26 := ⟨by decide +kernel, rfl⟩
theorem s12_26 : Nx method_8_code 26 (.iload_n 3) 1 27 := ⟨by decide +kernel, rfl⟩
theorem s12_27 : Nx method_8_code 27 (.iaload) 1 28 := ⟨by decide +kernel, rfl⟩
theorem s12_28 : Nx method_8_code 28 (.istore_n 3) 1 29 := ⟨by decide +kernel, rfl⟩
theorem s12_29 : Nx method_8_code 29 (.iload_n 3) 1 30 := ⟨by decide +kernel, rfl⟩
theorem s12_30 : Nx method_8_code 30 (.iload_n 1) 1 31 := ⟨by decide +kernel, rfl⟩
theorem s12_31 : Bx method_8_code 31 (.if_icmp .ne) 36 34 := ⟨(5), by decide +kernel, by decide, by decide, rfl⟩
theorem s12_34 : Nx method_8_code 34 (.iload_n 1) 1 35 := ⟨by decide +kernel, rfl⟩
theorem s12_35 : Nx method_8_code 35 (.ireturn) 1 36 := ⟨by decide +kernel, rfl⟩
theorem s12_36 : Nx method_8_code 36 (.aload_n 0) 1 37 := ⟨by decide +kernel, rfl⟩
theorem s12_37 : Nx method_8_code 37 (.iload_n 1) 1 38 := ⟨by decide +kernel, rfl⟩
theorem s12_38 : Nx method_8_code 38 (.iload_n 3) 1 39 := ⟨by decide +kernel, rfl⟩
theorem s12_39 : Nx method_8_code 39 (.invokestatic 38) 3 42 := ⟨by decide +kernel, rfl⟩
theorem s12_42 : Nx method_8_code 42 (.istore 4) 2 44 := ⟨by decide +kernel, rfl⟩
theorem s12_44 : Nx method_8_code 44 (.iload 4) 2 46 := ⟨by decide +kernel, rfl⟩
theorem s12_46 : Bx method_8_code 46 (.ifCond .lt) 52 49 := ⟨(6), by decide +kernel, by decide, by decide, rfl⟩
theorem s12_49 : Nx method_8_code 49 (.iload 4) 2 51 := ⟨by decide +kernel, rfl⟩
theorem s12_51 : Nx method_8_code 51 (.ireturn) 1 52 := ⟨by decide +kernel, rfl⟩
theorem s12_52 : Nx method_8_code 52 (.aload_n 0) 1 53 := ⟨by decide +kernel, rfl⟩
theorem s12_53 : Nx method_8_code 53 (.iload_n 3) 1 54 := ⟨by decide +kernel, rfl⟩
theorem s12_54 : Nx method_8_code 54 (.iaload) 1 55 := ⟨by decide +kernel, rfl⟩
theorem s12_55 : Nx method_8_code 55 (.istore_n 3) 1 56 := ⟨by decide +kernel, rfl⟩
theorem s12_56 : Nx method_8_code 56 (.iload_n 3) 1 57 := ⟨by decide +kernel, rfl⟩
theorem s12_57 : Nx method_8_code 57 (.iload_n 1) 1 58 := ⟨by decide +kernel, rfl⟩
theorem s12_58 : Bx method_8_code 58 (.if_icmp .ne) 63 61 := ⟨(5), by decide +kernel, by decide, by decide, rfl⟩
theorem s12_61 : Nx method_8_code 61 (.iload_n 1) 1 62 := ⟨by decide +kernel, rfl⟩
theorem s12_62 : Nx method_8_code 62 (.ireturn) 1 63 := ⟨by decide +kernel, rfl⟩
theorem s12_63 : Nx method_8_code 63 (.aload_n 0) 1 64 := ⟨by decide +kernel, rfl⟩
theorem s12_64 : Nx method_8_code 64 (.iload_n 1) 1 65 := ⟨by decide +kernel, rfl⟩
theorem s12_65 : Nx method_8_code 65 (.iload_n 3) 1 66 := ⟨by decide +kernel, rfl⟩
theorem s12_66 : Nx method_8_code 66 (.invokestatic 38) 3 69 := ⟨by decide +kernel, rfl⟩
theorem s12_69 : Nx method_8_code 69 (.istore 4) 2 71 := ⟨by decide +kernel, rfl⟩
theorem s12_71 : Nx method_8_code 71 (.iload 4) 2 73 := ⟨by decide +kernel, rfl⟩
theorem s12_73 : Bx method_8_code 73 (.ifCond .lt) 79 76 := ⟨(6), by decide +kernel, by decide, by decide, rfl⟩
theorem s12_76 : Nx method_8_code 76 (.iload 4) 2 78 := ⟨by decide +kernel, rfl⟩
theorem s12_78 : Nx method_8_code 78 (.ireturn) 1 79 := ⟨by decide +kernel, rfl⟩
theorem s12_79 : Nx method_8_code 79 (.aload_n 0) 1 80 := ⟨by decide +kernel, rfl⟩
theorem s12_80 : Nx method_8_code 80 (.iload_n 3) 1 81 := ⟨by decide +kernel, rfl⟩
theorem s12_81 : Nx method_8_code 81 (.iaload) 1 82 := ⟨by decide +kernel, rfl⟩
theorem s12_82 : Nx method_8_code 82 (.istore_n 3) 1 83 := ⟨by decide +kernel, rfl⟩
theorem s12_83 : Nx method_8_code 83 (.iload_n 3) 1 84 := ⟨by decide +kernel, rfl⟩
theorem s12_84 : Nx method_8_code 84 (.iload_n 1) 1 85 := ⟨by decide +kernel, rfl⟩
theorem s12_85 : Bx method_8_code 85 (.if_icmp .ne) 90 88 := ⟨(5), by decide +kernel, by decide, by decide, rfl⟩
theorem s12_88 : Nx method_8_code 88 (.iload_n 1) 1 89 := ⟨by decide +kernel, rfl⟩
theorem s12_89 : Nx method_8_code 89 (.ireturn) 1 90 := ⟨by decide +kernel, rfl⟩
theorem s12_90 : Nx method_8_code 90 (.aload_n 0) 1 91 := ⟨by decide +kernel, rfl⟩
theorem s12_91 : Nx method_8_code 91 (.iload_n 1) 1 92 := ⟨by decide +kernel, rfl⟩
theorem s12_92 : Nx method_8_code 92 (.iload_n 3) 1 93 := ⟨by decide +kernel, rfl⟩
theorem s12_93 : Nx method_8_code 93 (.invokestatic 38) 3 96 := ⟨by decide +kernel, rfl⟩
theorem s12_96 : Nx method_8_code 96 (.istore 4) 2 98 := ⟨by decide +kernel, rfl⟩
theorem s12_98 : Nx method_8_code 98 (.iload 4) 2 100 := ⟨by decide +kernel, rfl⟩
theorem s12_100 : Bx method_8_code 100 (.ifCond .lt) 106 103 := ⟨(6), by decide +kernel, by decide, by decide, rfl⟩
theorem s12_103 : Nx method_8_code 103 (.iload 4) 2 105 := ⟨by decide +kernel, rfl⟩
theorem s12_105 : Nx method_8_code 105 (.ireturn) 1 106 := ⟨by decide +kernel, rfl⟩
theorem s12_106 : Nx method_8_code 106 (.iload_n 1) 1 107 := ⟨by decide +kernel, rfl⟩
theorem s12_107 : Nx method_8_code 107 (.ireturn) 1 108 := ⟨by decide +kernel, rfl⟩
theorem s13_0 : Nx method_7_code 0 (.aload_n 0) 1 1 := ⟨by decide +kernel, rfl⟩
theorem s13_1 : Nx method_7_code 1 (.iload_n 2) 1 2 := ⟨by decide +kernel, rfl⟩
theorem s13_2 : Nx method_7_code 2 (.iaload) 1 3 := ⟨by decide +kernel, rfl⟩
theorem s13_3 : Nx method_7_code 3 (.istore_n 3) 1 4 := ⟨by decide +kernel, rfl⟩
theorem s13_4 : Nx method_7_code 4 (.iconst (-1)) 1 5 := ⟨by decide +kernel, rfl⟩
theorem s13_5 : Nx method_7_code 5 (.istore 4) 2 7 := ⟨by decide +kernel, rfl⟩
theorem s13_7 : Nx method_7_code 7 (.aload_n 0) 1 8 := ⟨by decide +kernel, rfl⟩
theorem s13_8 : Nx method_7_code 8 (.iload_n 1) 1 9 := ⟨by decide +kernel, rfl⟩
theorem s13_9 : Nx method_7_code 9 (.iload_n 3) 1 10 := ⟨by decide +kernel, rfl⟩
theorem s13_10 : Nx method_7_code 10 (.iload_n 2) 1 11 := ⟨by decide +kernel, rfl⟩
theorem s13_11 : Nx method_7_code 11 (.iconst 4) 1 12 := ⟨by decide +kernel, rfl⟩
theorem s13_12 : Nx method_7_code 12 (.iload 4) 2 14 := ⟨by decide +kernel, rfl⟩
theorem pd_6 : ∀ sig, parseMethodDescriptor "([IIIIII)I" = some sig → 6 = sig.parameters.length := npOf (r := some .int) (ps := [(.array .int), .int, .int, .int, .int, .int]) (by decide +kernel) rfl
theorem k_36 {Z : State} {a0 : Array Value} (hw : HW1 Z a0) : SL Z a0 "com/example/sluice/sluice/algo/SpanningTreeFirstOutsidePinLaw" 34 y14 method_6_code 6 (some .int) 6 := ⟨(hw _ (List.mem_of_getElem? (i := 87) rfl)), (hw _ (List.mem_of_getElem? (i := 88) rfl)), (hw _ (List.mem_of_getElem? (i := 4) rfl)), (hw _ (List.mem_of_getElem? (i := 89) rfl)), ⟨by decide, by decide⟩, pd_6⟩
theorem s13_14 : Nx method_7_code 14 (.invokestatic 34) 3 17 := ⟨by decide +kernel, rfl⟩
theorem s13_17 : Nx method_7_code 17 (.istore 4) 2 19 := ⟨by decide +kernel, rfl⟩
theorem s13_19 : Nx method_7_code 19 (.aload_n 0) 1 20 := ⟨by decide +kernel, rfl⟩
theorem s13_20 : Nx method_7_code 20 (.iload_n 1) 1 21 := ⟨by decide +kernel, rfl⟩
theorem s13_21 : Nx method_7_code 21 (.iload_n 3) 1 22 := ⟨by decide +kernel, rfl⟩
theorem s13_22 : Nx method_7_code 22 (.iload_n 2) 1 23 := ⟨by decide +kernel, rfl⟩
theorem s13_23 : Nx method_7_code 23 (.iconst 3) 1 24 := ⟨by decide +kernel, rfl⟩
theorem s13_24 : Nx method_7_code 24 (.iload 4) 2 26 := ⟨by decide +kernel, rfl⟩
theorem s13_26 : Nx method_7_code 26 (.invokestatic 34) 3 29 := ⟨by decide +kernel, rfl⟩
theorem s13_29 : Nx method_7_code 29 (.istore 4) 2 31 := ⟨by decide +kernel, rfl⟩
theorem s13_31 : Nx method_7_code 31 (.aload_n 0) 1 32 := ⟨by decide +kernel, rfl⟩
theorem s13_32 : Nx method_7_code 32 (.iload_n 1) 1 33 := ⟨by decide +kernel, rfl⟩
theorem s13_33 : Nx method_7_code 33 (.iload_n 3) 1 34 := ⟨by decide +kernel, rfl⟩
theorem s13_34 : Nx method_7_code 34 (.iload_n 2) 1 35 := ⟨by decide +kernel, rfl⟩
theorem s13_35 : Nx method_7_code 35 (.iconst 2) 1 36 := ⟨by decide +kernel, rfl⟩
theorem s13_36 : Nx method_7_code 36 (.iload 4) 2 38 := ⟨by decide +kernel, rfl⟩
theorem s13_38 : Nx method_7_code 38 (.invokestatic 34) 3 41 := ⟨by decide +kernel, rfl⟩
theorem s13_41 : Nx method_7_code 41 (.istore 4) 2 43 := ⟨by decide +kernel, rfl⟩
theorem s13_43 : Nx method_7_code 43 (.aload_n 0) 1 44 := ⟨by decide +kernel, rfl⟩
theorem s13_44 : Nx method_7_code 44 (.iload_n 1) 1 45 := ⟨by decide +kernel, rfl⟩
theorem s13_45 : Nx method_7_code 45 (.iload_n 3) 1 46 := ⟨by decide +kernel, rfl⟩
theorem s13_46 : Nx method_7_code 46 (.iload_n 2) 1 47 := ⟨by decide +kernel, rfl⟩
theorem s13_47 : Nx method_7_code 47 (.iconst 1) 1 48 := ⟨by decide +kernel, rfl⟩
theorem s13_48 : Nx method_7_code 48 (.iload 4) 2 50 := ⟨by decide +kernel, rfl⟩
theorem s13_50 : Nx method_7_code 50 (.invokestatic 34) 3 53 := ⟨by decide +kernel, rfl⟩
theorem s13_53 : Nx method_7_code 53 (.istore 4) 2 55 := ⟨by decide +kernel, rfl⟩
theorem s13_55 : Nx method_7_code 55 (.aload_n 0) 1 56 := ⟨by decide +kernel, rfl⟩
theorem s13_56 : Nx method_7_code 56 (.iload_n 1) 1 57 := ⟨by decide +kernel, rfl⟩
theorem s13_57 : Nx method_7_code 57 (.iload_n 3) 1 58 := ⟨by decide +kernel, rfl⟩
theorem s13_58 : Nx method_7_code 58 (.iload_n 2) 1 59 := ⟨by decide +kernel, rfl⟩
theorem s13_59 : Nx method_7_code 59 (.iconst 0) 1 60 := ⟨by decide +kernel, rfl⟩
theorem s13_60 : Nx method_7_code 60 (.iload 4) 2 62 := ⟨by decide +kernel, rfl⟩
theorem s13_62 : Nx method_7_code 62 (.invokestatic 34) 3 65 := ⟨by decide +kernel, rfl⟩
theorem s13_65 : Nx method_7_code 65 (.istore 4) 2 67 := ⟨by decide +kernel, rfl⟩
theorem s13_67 : Nx method_7_code 67 (.iload 4) 2 69 := ⟨by decide +kernel, rfl⟩
theorem s13_69 : Nx method_7_code 69 (.ireturn) 1 70 := ⟨by decide +kernel, rfl⟩
theorem s14_0 : Nx method_6_code 0 (.iload 4) 2 2 := ⟨by decide +kernel, rfl⟩
theorem s14_2 : Nx method_6_code 2 (.iload_n 1) 1 3 := ⟨by decide +kernel, rfl⟩
theorem s14_3 : Bx method_6_code 3 (.if_icmp .eq) 25 6 := ⟨(22), by decide +kernel, by decide, by decide, rfl⟩
theorem s14_6 : Nx method_6_code 6 (.aload_n 0) 1 7 := ⟨by decide +kernel, rfl⟩
theorem s14_7 : Nx method_6_code 7 (.iload 4) 2 9 := ⟨by decide +kernel, rfl⟩
theorem s14_9 : Nx method_6_code 9 (.iaload) 1 10 := ⟨by decide +kernel, rfl⟩
theorem s14_10 : Nx method_6_code 10 (.iload_n 2) 1 11 := ⟨by decide +kernel, rfl⟩
theorem s14_11 : Bx method_6_code 11 (.if_icmp .ne) 25 14 := ⟨(14), by decide +kernel, by decide, by decide, rfl⟩
theorem s14_14 : Nx method_6_code 14 (.iload 4) 2 16 := ⟨by decide +kernel, rfl⟩
theorem s14_16 : Nx method_6_code 16 (.iload_n 3) 1 17 := ⟨by decide +kernel, rfl⟩
theorem s14_17 : Bx method_6_code 17 (.if_icmp .le) 25 20 := ⟨(8), by decide +kernel, by decide, by decide, rfl⟩
theorem s14_20 : Nx method_6_code 20 (.iload 4) 2 22 := ⟨by decide +kernel, rfl⟩
theorem s14_22 : Bx method_6_code 22 (.goto) 27 25 := ⟨(5), by decide +kernel, by decide, by decide, rfl⟩
theorem s14_25 : Nx method_6_code 25 (.iload 5) 2 27 := ⟨by decide +kernel, rfl⟩
theorem s14_27 : Nx method_6_code 27 (.ireturn) 1 28 := ⟨by decide +kernel, rfl⟩
def tq0 : Nat → Option ME := (nd 148 (nd 83 (nd 50 (nd 18 (nd 0 (lf 0 (.inl (xIload 0 1)))
  (nd 4 (lf 4 (.inl (xSeq 5 (xPush (5) 5) (xSeq 6 (xRem 6) (xSeq 7 (xIstore 2 7) (xSeq 8 (xPush (5) 8) (xSeq 10 (xNewA 10) (xSeq 11 (xAstore 3 11) (xSeq 12 (xAload 3 12) (xSeq 13 (xPush (0) 13) (xSeq 14 (xIload 1 14) (xPush (0) 15))))))))))))
  (lf 18 (.inl (xSeq 19 (xIastore 19) (xSeq 20 (xAload 3 20) (xSeq 21 (xPush (1) 21) (xSeq 22 (xIload 1 22) (xPush (1) 23)))))))))
  (nd 34 (nd 26 (lf 26 (.inl (xSeq 27 (xIastore 27) (xSeq 28 (xAload 3 28) (xSeq 29 (xPush (2) 29) (xSeq 30 (xIload 1 30) (xPush (2) 31)))))))
  (lf 34 (.inl (xSeq 35 (xIastore 35) (xSeq 36 (xAload 3 36) (xSeq 37 (xPush (3) 37) (xSeq 38 (xIload 1 38) (xPush (3) 39))))))))
  (nd 42 (lf 42 (.inl (xSeq 43 (xIastore 43) (xSeq 44 (xAload 3 44) (xSeq 45 (xPush (4) 45) (xSeq 46 (xIload 1 46) (xPush (4) 47)))))))
  (lf 50 (.inl (xIastore 51))))))
  (nd 65 (nd 56 (nd 51 (lf 51 (.inl (xSeq 52 (xAload 3 52) (xSeq 53 (xPush (0) 53) (xSeq 54 (xAload 3 54) (xSeq 55 (xIload 2 55) (xPush (0) 56)))))))
  (lf 56 (.inr (.inl (1, 3, 0, 126, [])))))
  (nd 59 (lf 59 (.inl (xSeq 60 (xIastore 60) (xSeq 61 (xAload 3 61) (xSeq 62 (xPush (1) 62) (xSeq 63 (xAload 3 63) (xSeq 64 (xIload 2 64) (xPush (1) 65))))))))
  (lf 65 (.inr (.inl (1, 3, 0, 126, []))))))
  (nd 74 (nd 68 (lf 68 (.inl (xSeq 69 (xIastore 69) (xSeq 70 (xAload 3 70) (xSeq 71 (xPush (2) 71) (xSeq 72 (xAload 3 72) (xSeq 73 (xIload 2 73) (xPush (2) 74))))))))
  (lf 74 (.inr (.inl (1, 3, 0, 126, [])))))
  (nd 77 (lf 77 (.inl (xSeq 78 (xIastore 78) (xSeq 79 (xAload 3 79) (xSeq 80 (xPush (3) 80) (xSeq 81 (xAload 3 81) (xSeq 82 (xIload 2 82) (xPush (3) 83))))))))
  (lf 83 (.inr (.inl (1, 3, 0, 126, []))))))))
  (nd 121 (nd 96 (nd 92 (nd 86 (lf 86 (.inl (xSeq 87 (xIastore 87) (xSeq 88 (xAload 3 88) (xSeq 89 (xPush (4) 89) (xSeq 90 (xAload 3 90) (xSeq 91 (xIload 2 91) (xPush (4) 92))))))))
  (lf 92 (.inr (.inl (1, 3, 0, 126, [])))))
  (nd 95 (lf 95 (.inl (xIastore 96)))
  (lf 96 (.inl (xSeq 99 (xNew 0 6 [nul, nul, nul, nul, nul, nul] 99) (xSeq 100 (xDup 100) (xSeq 101 (xIload 2 101) (xSeq 102 (xAload 3 102) (xSeq 103 (xPush (5) 103) (xNewA 105))))))))))
  (nd 108 (nd 105 (lf 105 (.inr (.inl (3, 4, 1, 86, [none, none, none, none, none, none, none, none, none]))))
  (lf 108 (.inl (xSeq 110 (xAstore 4 110) (xSeq 111 (xPush (1) 111) (xSeq 113 (xIstore 5 113) (xSeq 115 (xIload 5 115) (xIf .eq 137 118))))))))
  (nd 118 (lf 118 (.inl (xSeq 120 (xAload 4 120) (xPush (0) 121))))
  (lf 121 (.inr (.inl (9, 2, 2, 147, [])))))))
  (nd 133 (nd 127 (nd 124 (lf 124 (.inl (xSeq 125 (xAload 3 125) (xSeq 126 (xIload 2 126) (xPush (0) 127)))))
  (lf 127 (.inr (.inl (10, 3, 0, 99, [none, none])))))
  (nd 130 (lf 130 (.inl (xIcmp .ne 137 133)))
  (lf 133 (.inl (xSeq 134 (xPush (1) 134) (xGoto 138))))))
  (nd 138 (nd 137 (lf 137 (.inl (xPush (0) 138)))
  (lf 138 (.inl (xSeq 140 (xIstore 5 140) (xSeq 142 (xIload 5 142) (xIf .eq 164 145))))))
  (nd 145 (lf 145 (.inl (xSeq 147 (xAload 4 147) (xPush (1) 148))))
  (lf 148 (.inr (.inl (9, 2, 2, 147, [])))))))))
  (nd 199 (nd 172 (nd 157 (nd 151 (lf 151 (.inl (xSeq 152 (xAload 3 152) (xSeq 153 (xIload 2 153) (xPush (1) 154)))))
  (nd 154 (lf 154 (.inr (.inl (10, 3, 0, 99, [none, none]))))
  (lf 157 (.inl (xIcmp .ne 164 160)))))
  (nd 164 (nd 160 (lf 160 (.inl (xSeq 161 (xPush (1) 161) (xGoto 165))))
  (lf 164 (.inl (xPush (0) 165))))
  (nd 165 (lf 165 (.inl (xSeq 167 (xIstore 5 167) (xSeq 169 (xIload 5 169) (xIf .eq 191 172)))))
  (lf 172 (.inl (xSeq 174 (xAload 4 174) (xPush (2) 175)))))))
  (nd 184 (nd 178 (nd 175 (lf 175 (.inr (.inl (9, 2, 2, 147, []))))
  (lf 178 (.inl (xSeq 179 (xAload 3 179) (xSeq 180 (xIload 2 180) (xPush (2) 181))))))
  (nd 181 (lf 181 (.inr (.inl (10, 3, 0, 99, [none, none]))))
  (lf 184 (.inl (xIcmp .ne 191 187)))))
  (nd 191 (nd 187 (lf 187 (.inl (xSeq 188 (xPush (1) 188) (xGoto 192))))
  (lf 191 (.inl (xPush (0) 192))))
  (nd 192 (lf 192 (.inl (xSeq 194 (xIstore 5 194) (xSeq 196 (xIload 5 196) (xIf .eq 218 199)))))
  (lf 199 (.inl (xSeq 201 (xAload 4 201) (xPush (3) 202))))))))
  (nd 226 (nd 211 (nd 205 (nd 202 (lf 202 (.inr (.inl (9, 2, 2, 147, []))))
  (lf 205 (.inl (xSeq 206 (xAload 3 206) (xSeq 207 (xIload 2 207) (xPush (3) 208))))))
  (nd 208 (lf 208 (.inr (.inl (10, 3, 0, 99, [none, none]))))
  (lf 211 (.inl (xIcmp .ne 218 214)))))
  (nd 218 (nd 214 (lf 214 (.inl (xSeq 215 (xPush (1) 215) (xGoto 219))))
  (lf 218 (.inl (xPush (0) 219))))
  (nd 219 (lf 219 (.inl (xSeq 221 (xIstore 5 221) (xSeq 223 (xIload 5 223) (xIf .eq 245 226)))))
  (lf 226 (.inl (xSeq 228 (xAload 4 228) (xPush (4) 229)))))))
  (nd 238 (nd 232 (nd 229 (lf 229 (.inr (.inl (9, 2, 2, 147, []))))
  (lf 232 (.inl (xSeq 233 (xAload 3 233) (xSeq 234 (xIload 2 234) (xPush (4) 235))))))
  (nd 235 (lf 235 (.inr (.inl (10, 3, 0, 99, [none, none]))))
  (lf 238 (.inl (xIcmp .ne 245 241)))))
  (nd 245 (nd 241 (lf 241 (.inl (xSeq 242 (xPush (1) 242) (xGoto 246))))
  (lf 245 (.inl (xPush (0) 246))))
  (nd 246 (lf 246 (.inl (xSeq 248 (xIstore 5 248) (xIload 5 250))))
  (lf 250 (.inr (.inr 2)))))))))
def tq1 : Nat → Option ME := (nd 6 (nd 0 (lf 0 (.inl (xSeq 1 (xAload 0 1) (xSeq 2 (xIload 1 2) (xIload 2 3)))))
  (nd 3 (lf 3 (.inr (.inl (2, 3, 0, 6, []))))
  (lf 6 (.inl (xIf .eq 15 9)))))
  (nd 9 (lf 9 (.inl (xSeq 10 (xAload 0 10) (xSeq 11 (xIload 2 11) (xSeq 12 (xIaload 12) (xGoto 16))))))
  (nd 15 (lf 15 (.inl (xIload 1 16)))
  (lf 16 (.inr (.inr 1))))))
def tq2 : Nat → Option ME := (nd 27 (nd 7 (nd 5 (nd 0 (lf 0 (.inl (xSeq 1 (xIload 2 1) (xSeq 2 (xIload 1 2) (xIcmp .ne 7 5)))))
  (lf 5 (.inl (xPush (1) 6))))
  (nd 6 (lf 6 (.inr (.inr 2)))
  (lf 7 (.inl (xSeq 8 (xAload 0 8) (xSeq 9 (xIload 2 9) (xSeq 10 (xIaload 10) (xSeq 11 (xIstore 2 11) (xSeq 12 (xIload 2 12) (xSeq 13 (xIload 1 13) (xIcmp .ne 18 16)))))))))))
  (nd 17 (nd 16 (lf 16 (.inl (xPush (1) 17)))
  (lf 17 (.inr (.inr 2))))
  (nd 18 (lf 18 (.inl (xSeq 19 (xAload 0 19) (xSeq 20 (xIload 2 20) (xSeq 21 (xIaload 21) (xSeq 22 (xIstore 2 22) (xSeq 23 (xIload 2 23) (xSeq 24 (xIload 1 24) (xIcmp .ne 29 27)))))))))
  (lf 27 (.inl (xPush (1) 28))))))
  (nd 39 (nd 29 (nd 28 (lf 28 (.inr (.inr 2)))
  (lf 29 (.inl (xSeq 30 (xAload 0 30) (xSeq 31 (xIload 2 31) (xSeq 32 (xIaload 32) (xSeq 33 (xIstore 2 33) (xSeq 34 (xIload 2 34) (xSeq 35 (xIload 1 35) (xIcmp .ne 40 38))))))))))
  (nd 38 (lf 38 (.inl (xPush (1) 39)))
  (lf 39 (.inr (.inr 2)))))
  (nd 49 (nd 40 (lf 40 (.inl (xSeq 41 (xAload 0 41) (xSeq 42 (xIload 2 42) (xSeq 43 (xIaload 43) (xSeq 44 (xIstore 2 44) (xSeq 45 (xIload 2 45) (xSeq 46 (xIload 1 46) (xIcmp .ne 53 49)))))))))
  (lf 49 (.inl (xSeq 50 (xPush (1) 50) (xGoto 54)))))
  (nd 53 (lf 53 (.inl (xPush (0) 54)))
  (lf 54 (.inr (.inr 2)))))))
def tq3 : Nat → Option ME := (nd 194 (nd 157 (nd 97 (nd 0 (lf 0 (.inl (xSeq 1 (xAload 0 1) (xSeq 4 (xInit 4) (xSeq 5 (xAload 3 5) (xSeq 6 (xLen 6) (xSeq 8 (xIstore 4 8) (xSeq 9 (xAload 0 9) (xSeq 10 (xAload 2 10) (xSeq 13 (xClone 13) (xSeq 16 (xCast 16) (xSeq 19 (xPut 0 0 19) (xSeq 20 (xAload 0 20) (xSeq 21 (xAload 3 21) (xSeq 24 (xClone 24) (xSeq 27 (xCast 27) (xSeq 30 (xPut 0 1 30) (xSeq 31 (xAload 0 31) (xSeq 33 (xIload 4 33) (xSeq 35 (xNewA 35) (xSeq 38 (xPut 0 2 38) (xSeq 39 (xAload 0 39) (xSeq 41 (xIload 4 41) (xSeq 43 (xNewA 43) (xSeq 46 (xPut 0 3 46) (xSeq 47 (xAload 0 47) (xSeq 49 (xIload 4 49) (xSeq 51 (xNewA 51) (xSeq 54 (xPut 0 4 54) (xSeq 55 (xAload 0 55) (xSeq 57 (xIload 4 57) (xSeq 59 (xNewA 59) (xSeq 62 (xPut 0 5 62) (xSeq 63 (xAload 0 63) (xSeq 66 (xGet 0 0 66) (xSeq 67 (xIload 1 67) (xSeq 68 (xPush (-1) 68) (xSeq 69 (xIastore 69) (xSeq 70 (xAload 2 70) (xSeq 73 (xClone 73) (xSeq 76 (xCast 76) (xSeq 78 (xAstore 5 78) (xSeq 80 (xAload 5 80) (xSeq 81 (xIload 1 81) (xSeq 83 (xIload 4 83) (xSeq 84 (xIastore 84) (xSeq 87 (xNew 1 2 [nul, nul] 87) (xSeq 88 (xDup 88) (xSeq 90 (xAload 5 90) (xSeq 92 (xIload 4 92) (xSeq 93 (xPush (1) 93) (xBin Int.add 94))))))))))))))))))))))))))))))))))))))))))))))))))))
  (nd 94 (lf 94 (.inr (.inl (4, 3, 1, 6, [none, none, none, none]))))
  (lf 97 (.inl (xSeq 99 (xAstore 6 99) (xSeq 101 (xIload 4 101) (xSeq 103 (xNewA 103) (xSeq 105 (xAstore 7 105) (xSeq 107 (xIload 4 107) (xSeq 109 (xNewA 109) (xSeq 111 (xAstore 8 111) (xSeq 112 (xPush (0) 112) (xSeq 114 (xIstore 9 114) (xSeq 116 (xAload 8 116) (xSeq 118 (xIload 9 118) (xSeq 121 (xInc 9 (1) 121) (xSeq 122 (xIload 1 122) (xSeq 123 (xIastore 123) (xSeq 124 (xPush (0) 124) (xIstore 10 126))))))))))))))))))))
  (nd 133 (nd 126 (lf 126 (.inl (xSeq 128 (xIload 10 128) (xSeq 130 (xIload 4 130) (xIcmp .ge 200 133)))))
  (lf 133 (.inl (xSeq 135 (xAload 8 135) (xSeq 138 (xInc 9 (-1) 138) (xSeq 140 (xIload 9 140) (xSeq 141 (xIaload 141) (xSeq 143 (xIstore 11 143) (xSeq 145 (xAload 7 145) (xSeq 147 (xIload 10 147) (xSeq 149 (xIload 11 149) (xSeq 150 (xIastore 150) (xSeq 152 (xAload 6 152) (xIload 11 154))))))))))))))
  (nd 154 (lf 154 (.inr (.inl (5, 2, 3, 37, []))))
  (lf 157 (.inl (xSeq 158 (xPush (1) 158) (xSeq 159 (xBin Int.sub 159) (xIstore 12 161))))))))
  (nd 170 (nd 161 (lf 161 (.inl (xSeq 163 (xIload 12 163) (xSeq 165 (xAload 6 165) (xIload 11 167)))))
  (nd 167 (lf 167 (.inr (.inl (6, 2, 3, 37, []))))
  (lf 170 (.inl (xIcmp .lt 194 173)))))
  (nd 184 (nd 173 (lf 173 (.inl (xSeq 175 (xAload 8 175) (xSeq 177 (xIload 9 177) (xSeq 180 (xInc 9 (1) 180) (xSeq 182 (xAload 6 182) (xIload 12 184)))))))
  (lf 184 (.inr (.inl (7, 2, 3, 37, [])))))
  (nd 187 (lf 187 (.inl (xSeq 188 (xIastore 188) (xSeq 191 (xInc 12 (-1) 191) (xGoto 161)))))
  (lf 194 (.inl (xSeq 197 (xInc 10 (1) 197) (xGoto 126))))))))
  (nd 241 (nd 210 (nd 200 (lf 200 (.inl (xSeq 201 (xPush (0) 201) (xIstore 10 203))))
  (nd 203 (lf 203 (.inl (xSeq 205 (xIload 10 205) (xSeq 207 (xIload 4 207) (xIcmp .ge 235 210)))))
  (lf 210 (.inl (xSeq 211 (xAload 0 211) (xSeq 213 (xAload 7 213) (xSeq 215 (xIload 10 215) (xSeq 216 (xIaload 216) (xSeq 218 (xAload 7 218) (xSeq 220 (xIload 10 220) (xSeq 221 (xPush (1) 221) (xSeq 222 (xBin Int.add 222) (xSeq 224 (xIload 4 224) (xSeq 225 (xRem 225) (xIaload 226)))))))))))))))
  (nd 229 (nd 226 (lf 226 (.inr (.inl (8, 3, 2, 36, []))))
  (lf 229 (.inl (xSeq 232 (xInc 10 (1) 232) (xGoto 203)))))
  (nd 235 (lf 235 (.inl (xSeq 237 (xIload 4 237) (xSeq 238 (xPush (1) 238) (xSeq 239 (xBin Int.sub 239) (xIstore 10 241))))))
  (lf 241 (.inl (xSeq 243 (xIload 10 243) (xIf .lt 298 246)))))))
  (nd 292 (nd 246 (lf 246 (.inl (xSeq 248 (xAload 7 248) (xSeq 250 (xIload 10 250) (xSeq 251 (xIaload 251) (xSeq 253 (xIstore 11 253) (xSeq 254 (xAload 0 254) (xSeq 257 (xGet 0 2 257) (xSeq 259 (xIload 11 259) (xSeq 260 (xDup2 260) (xSeq 261 (xIaload 261) (xSeq 262 (xPush (1) 262) (xSeq 263 (xBin Int.add 263) (xSeq 264 (xIastore 264) (xSeq 266 (xIload 11 266) (xSeq 267 (xIload 1 267) (xIcmp .eq 292 270)))))))))))))))))
  (nd 270 (lf 270 (.inl (xSeq 271 (xAload 0 271) (xSeq 274 (xGet 0 2 274) (xSeq 275 (xAload 0 275) (xSeq 278 (xGet 0 0 278) (xSeq 280 (xIload 11 280) (xSeq 281 (xIaload 281) (xSeq 282 (xDup2 282) (xSeq 283 (xIaload 283) (xSeq 284 (xAload 0 284) (xSeq 287 (xGet 0 2 287) (xSeq 289 (xIload 11 289) (xSeq 290 (xIaload 290) (xSeq 291 (xBin Int.add 291) (xIastore 292))))))))))))))))
  (lf 292 (.inl (xSeq 295 (xInc 10 (-1) 295) (xGoto 241))))))
  (nd 301 (nd 298 (lf 298 (.inl (xSeq 299 (xPush (0) 299) (xIstore 10 301))))
  (lf 301 (.inl (xSeq 303 (xIload 10 303) (xSeq 305 (xIload 4 305) (xIcmp .ge 342 308))))))
  (nd 308 (lf 308 (.inl (xSeq 309 (xAload 0 309) (xSeq 312 (xGet 0 5 312) (xSeq 314 (xAload 7 314) (xSeq 316 (xIload 10 316) (xSeq 317 (xIaload 317) (xSeq 319 (xAload 7 319) (xSeq 321 (xIload 10 321) (xSeq 322 (xAload 0 322) (xSeq 325 (xGet 0 2 325) (xSeq 327 (xAload 7 327) (xSeq 329 (xIload 10 329) (xSeq 330 (xIaload 330) (xSeq 331 (xIaload 331) (xSeq 332 (xBin Int.add 332) (xSeq 333 (xPush (1) 333) (xSeq 334 (xBin Int.sub 334) (xSeq 335 (xIaload 335) (xSeq 336 (xIastore 336) (xSeq 339 (xInc 10 (1) 339) (xGoto 301))))))))))))))))))))))
  (lf 342 (.inr (.inr 0))))))))
def tq4 : Nat → Option ME := (nd 56 (nd 22 (nd 0 (lf 0 (.inl (xSeq 1 (xAload 0 1) (xSeq 4 (xInit 4) (xSeq 5 (xAload 0 5) (xSeq 6 (xIload 2 6) (xSeq 7 (xPush (1) 7) (xSeq 8 (xBin Int.add 8) (xSeq 10 (xNewA 10) (xSeq 13 (xPut 1 0 13) (xSeq 14 (xAload 1 14) (xSeq 15 (xAstore 3 15) (xSeq 16 (xAload 3 16) (xSeq 17 (xLen 17) (xSeq 19 (xIstore 4 19) (xSeq 20 (xPush (0) 20) (xIstore 5 22)))))))))))))))))
  (lf 22 (.inl (xSeq 24 (xIload 5 24) (xSeq 26 (xIload 4 26) (xIcmp .ge 54 29))))))
  (nd 29 (lf 29 (.inl (xSeq 30 (xAload 3 30) (xSeq 32 (xIload 5 32) (xSeq 33 (xIaload 33) (xSeq 35 (xIstore 6 35) (xSeq 36 (xAload 0 36) (xSeq 39 (xGet 1 0 39) (xSeq 41 (xIload 6 41) (xSeq 42 (xPush (1) 42) (xSeq 43 (xBin Int.add 43) (xSeq 44 (xDup2 44) (xSeq 45 (xIaload 45) (xSeq 46 (xPush (1) 46) (xSeq 47 (xBin Int.add 47) (xSeq 48 (xIastore 48) (xSeq 51 (xInc 5 (1) 51) (xGoto 22))))))))))))))))))
  (nd 54 (lf 54 (.inl (xSeq 55 (xPush (0) 55) (xIstore 3 56))))
  (lf 56 (.inl (xSeq 57 (xIload 3 57) (xSeq 58 (xIload 2 58) (xIcmp .ge 84 61))))))))
  (nd 84 (nd 61 (lf 61 (.inl (xSeq 62 (xAload 0 62) (xSeq 65 (xGet 1 0 65) (xSeq 66 (xIload 3 66) (xSeq 67 (xPush (1) 67) (xSeq 68 (xBin Int.add 68) (xSeq 69 (xDup2 69) (xSeq 70 (xIaload 70) (xSeq 71 (xAload 0 71) (xSeq 74 (xGet 1 0 74) (xSeq 75 (xIload 3 75) (xSeq 76 (xIaload 76) (xSeq 77 (xBin Int.add 77) (xSeq 78 (xIastore 78) (xSeq 81 (xInc 3 (1) 81) (xGoto 56)))))))))))))))))
  (lf 84 (.inl (xSeq 85 (xAload 0 85) (xSeq 86 (xAload 1 86) (xSeq 87 (xLen 87) (xSeq 89 (xNewA 89) (xSeq 92 (xPut 1 1 92) (xSeq 93 (xIload 2 93) (xSeq 95 (xNewA 95) (xSeq 96 (xAstore 3 96) (xSeq 97 (xAload 0 97) (xSeq 100 (xGet 1 0 100) (xSeq 101 (xPush (0) 101) (xSeq 102 (xAload 3 102) (xSeq 103 (xPush (0) 103) (xSeq 104 (xIload 2 104) (xSeq 107 (xCopy 107) (xSeq 108 (xPush (0) 108) (xIstore 4 110))))))))))))))))))))
  (nd 110 (lf 110 (.inl (xSeq 112 (xIload 4 112) (xSeq 113 (xAload 1 113) (xSeq 114 (xLen 114) (xIcmp .ge 141 117))))))
  (nd 117 (lf 117 (.inl (xSeq 118 (xAload 0 118) (xSeq 121 (xGet 1 1 121) (xSeq 122 (xAload 3 122) (xSeq 123 (xAload 1 123) (xSeq 125 (xIload 4 125) (xSeq 126 (xIaload 126) (xSeq 127 (xDup2 127) (xSeq 128 (xIaload 128) (xSeq 129 (xDupX2 129) (xSeq 130 (xPush (1) 130) (xSeq 131 (xBin Int.add 131) (xSeq 132 (xIastore 132) (xSeq 134 (xIload 4 134) (xSeq 135 (xIastore 135) (xSeq 138 (xInc 4 (1) 138) (xGoto 110))))))))))))))))))
  (lf 141 (.inr (.inr 0)))))))
def tq5 : Nat → Option ME := (nd 0 (lf 0 (.inl (xSeq 1 (xAload 0 1) (xSeq 4 (xGet 1 0 4) (xSeq 5 (xIload 1 5) (xSeq 6 (xPush (1) 6) (xSeq 7 (xBin Int.add 7) (xIaload 8))))))))
  (lf 8 (.inr (.inr 1))))
def tq6 : Nat → Option ME := (nd 0 (lf 0 (.inl (xSeq 1 (xAload 0 1) (xSeq 4 (xGet 1 0 4) (xSeq 5 (xIload 1 5) (xIaload 6))))))
  (lf 6 (.inr (.inr 1))))
def tq7 : Nat → Option ME := (nd 0 (lf 0 (.inl (xSeq 1 (xAload 0 1) (xSeq 4 (xGet 1 1 4) (xSeq 5 (xIload 1 5) (xIaload 6))))))
  (lf 6 (.inr (.inr 1))))
def tq8 : Nat → Option ME := (nd 0 (lf 0 (.inl (xSeq 1 (xAload 0 1) (xSeq 4 (xGet 0 3 4) (xSeq 5 (xIload 1 5) (xSeq 6 (xIload 2 6) (xSeq 7 (xIastore 7) (xSeq 8 (xAload 0 8) (xSeq 11 (xGet 0 4 11) (xSeq 12 (xIload 2 12) (xSeq 13 (xIload 1 13) (xIastore 14))))))))))))
  (lf 14 (.inr (.inr 0))))
def tq9 : Nat → Option ME := (nd 15 (nd 0 (lf 0 (.inl (xSeq 1 (xAload 0 1) (xSeq 4 (xGet 0 3 4) (xSeq 5 (xAload 0 5) (xSeq 8 (xGet 0 5 8) (xSeq 9 (xIload 1 9) (xSeq 10 (xIaload 10) (xSeq 11 (xIaload 11) (xSeq 12 (xIload 1 12) (xIcmp .eq 29 15)))))))))))
  (lf 15 (.inl (xSeq 16 (xAload 0 16) (xSeq 19 (xGet 0 3 19) (xSeq 20 (xAload 0 20) (xSeq 23 (xGet 0 5 23) (xSeq 24 (xIload 1 24) (xSeq 25 (xIaload 25) (xSeq 26 (xIaload 26) (xGoto 30)))))))))))
  (nd 29 (lf 29 (.inl (xPush (-1) 30)))
  (lf 30 (.inr (.inr 1)))))
def tq10 : Nat → Option ME := (nd 52 (nd 24 (nd 7 (nd 5 (nd 0 (lf 0 (.inl (xSeq 1 (xIload 2 1) (xSeq 2 (xIload 1 2) (xIcmp .ne 7 5)))))
  (lf 5 (.inl (xPush (-1) 6))))
  (nd 6 (lf 6 (.inr (.inr 1)))
  (lf 7 (.inl (xSeq 8 (xIload 2 8) (xSeq 9 (xIstore 3 9) (xSeq 10 (xAload 0 10) (xSeq 11 (xIload 1 11) (xIload 3 12)))))))))
  (nd 15 (nd 12 (lf 12 (.inr (.inl (11, 3, 0, 6, [none, none]))))
  (lf 15 (.inl (xSeq 17 (xIstore 4 17) (xSeq 19 (xIload 4 19) (xIf .lt 25 22))))))
  (nd 22 (lf 22 (.inl (xIload 4 24)))
  (lf 24 (.inr (.inr 1))))))
  (nd 36 (nd 34 (nd 25 (lf 25 (.inl (xSeq 26 (xAload 0 26) (xSeq 27 (xIload 3 27) (xSeq 28 (xIaload 28) (xSeq 29 (xIstore 3 29) (xSeq 30 (xIload 3 30) (xSeq 31 (xIload 1 31) (xIcmp .ne 36 34)))))))))
  (lf 34 (.inl (xIload 1 35))))
  (nd 35 (lf 35 (.inr (.inr 1)))
  (lf 36 (.inl (xSeq 37 (xAload 0 37) (xSeq 38 (xIload 1 38) (xIload 3 39)))))))
  (nd 42 (nd 39 (lf 39 (.inr (.inl (11, 3, 0, 6, [none, none]))))
  (lf 42 (.inl (xSeq 44 (xIstore 4 44) (xSeq 46 (xIload 4 46) (xIf .lt 52 49))))))
  (nd 49 (lf 49 (.inl (xIload 4 51)))
  (nd 51 (lf 51 (.inr (.inr 1)))
  (lf 52 (.inl (xSeq 53 (xAload 0 53) (xSeq 54 (xIload 3 54) (xSeq 55 (xIaload 55) (xSeq 56 (xIstore 3 56) (xSeq 57 (xIload 3 57) (xSeq 58 (xIload 1 58) (xIcmp .ne 63 61))))))))))))))
  (nd 79 (nd 66 (nd 62 (nd 61 (lf 61 (.inl (xIload 1 62)))
  (lf 62 (.inr (.inr 1))))
  (nd 63 (lf 63 (.inl (xSeq 64 (xAload 0 64) (xSeq 65 (xIload 1 65) (xIload 3 66)))))
  (lf 66 (.inr (.inl (11, 3, 0, 6, [none, none]))))))
  (nd 76 (nd 69 (lf 69 (.inl (xSeq 71 (xIstore 4 71) (xSeq 73 (xIload 4 73) (xIf .lt 79 76)))))
  (lf 76 (.inl (xIload 4 78))))
  (nd 78 (lf 78 (.inr (.inr 1)))
  (lf 79 (.inl (xSeq 80 (xAload 0 80) (xSeq 81 (xIload 3 81) (xSeq 82 (xIaload 82) (xSeq 83 (xIstore 3 83) (xSeq 84 (xIload 3 84) (xSeq 85 (xIload 1 85) (xIcmp .ne 90 88))))))))))))
  (nd 93 (nd 89 (nd 88 (lf 88 (.inl (xIload 1 89)))
  (lf 89 (.inr (.inr 1))))
  (nd 90 (lf 90 (.inl (xSeq 91 (xAload 0 91) (xSeq 92 (xIload 1 92) (xIload 3 93)))))
  (lf 93 (.inr (.inl (11, 3, 0, 6, [none, none]))))))
  (nd 103 (nd 96 (lf 96 (.inl (xSeq 98 (xIstore 4 98) (xSeq 100 (xIload 4 100) (xIf .lt 106 103)))))
  (lf 103 (.inl (xIload 4 105))))
  (nd 105 (lf 105 (.inr (.inr 1)))
  (nd 106 (lf 106 (.inl (xIload 1 107)))
  (lf 107 (.inr (.inr 1)))))))))
def tq11 : Nat → Option ME := (nd 38 (nd 17 (nd 0 (lf 0 (.inl (xSeq 1 (xAload 0 1) (xSeq 2 (xIload 2 2) (xSeq 3 (xIaload 3) (xSeq 4 (xIstore 3 4) (xSeq 5 (xPush (-1) 5) (xSeq 7 (xIstore 4 7) (xSeq 8 (xAload 0 8) (xSeq 9 (xIload 1 9) (xSeq 10 (xIload 3 10) (xSeq 11 (xIload 2 11) (xSeq 12 (xPush (4) 12) (xIload 4 14))))))))))))))
  (nd 14 (lf 14 (.inr (.inl (12, 6, 0, 6, []))))
  (lf 17 (.inl (xSeq 19 (xIstore 4 19) (xSeq 20 (xAload 0 20) (xSeq 21 (xIload 1 21) (xSeq 22 (xIload 3 22) (xSeq 23 (xIload 2 23) (xSeq 24 (xPush (3) 24) (xIload 4 26)))))))))))
  (nd 26 (lf 26 (.inr (.inl (12, 6, 0, 6, []))))
  (nd 29 (lf 29 (.inl (xSeq 31 (xIstore 4 31) (xSeq 32 (xAload 0 32) (xSeq 33 (xIload 1 33) (xSeq 34 (xIload 3 34) (xSeq 35 (xIload 2 35) (xSeq 36 (xPush (2) 36) (xIload 4 38)))))))))
  (lf 38 (.inr (.inl (12, 6, 0, 6, [])))))))
  (nd 53 (nd 41 (lf 41 (.inl (xSeq 43 (xIstore 4 43) (xSeq 44 (xAload 0 44) (xSeq 45 (xIload 1 45) (xSeq 46 (xIload 3 46) (xSeq 47 (xIload 2 47) (xSeq 48 (xPush (1) 48) (xIload 4 50)))))))))
  (nd 50 (lf 50 (.inr (.inl (12, 6, 0, 6, []))))
  (lf 53 (.inl (xSeq 55 (xIstore 4 55) (xSeq 56 (xAload 0 56) (xSeq 57 (xIload 1 57) (xSeq 58 (xIload 3 58) (xSeq 59 (xIload 2 59) (xSeq 60 (xPush (0) 60) (xIload 4 62)))))))))))
  (nd 62 (lf 62 (.inr (.inl (12, 6, 0, 6, []))))
  (nd 65 (lf 65 (.inl (xSeq 67 (xIstore 4 67) (xIload 4 69))))
  (lf 69 (.inr (.inr 1)))))))
def tq12 : Nat → Option ME := (nd 14 (nd 0 (lf 0 (.inl (xSeq 2 (xIload 4 2) (xSeq 3 (xIload 1 3) (xIcmp .eq 25 6)))))
  (nd 6 (lf 6 (.inl (xSeq 7 (xAload 0 7) (xSeq 9 (xIload 4 9) (xSeq 10 (xIaload 10) (xSeq 11 (xIload 2 11) (xIcmp .ne 25 14)))))))
  (lf 14 (.inl (xSeq 16 (xIload 4 16) (xSeq 17 (xIload 3 17) (xIcmp .le 25 20)))))))
  (nd 20 (lf 20 (.inl (xSeq 22 (xIload 4 22) (xGoto 27))))
  (nd 25 (lf 25 (.inl (xIload 5 27)))
  (lf 27 (.inr (.inr 1))))))
def TQ : Nat → Nat → Option ME := (qn 0 tq0 (qn 1 tq1 (qn 2 tq2 (qn 3 tq3 (qn 4 tq4 (qn 5 tq5 (qn 6 tq6 (qn 7 tq7 (qn 8 tq8 (qn 9 tq9 (qn 10 tq10 (qn 11 tq11 (qn 12 tq12 qo)))))))))))))
def mlQ (q : Nat) : Nat := [6, 3, 3, 13, 7, 2, 2, 2, 3, 2, 5, 5, 6].getD q 0
def frQ (q : Nat) : Nat := [6, 1, 0, 2, 1, 0, 0, 0, 0, 0, 2, 1, 0].getD q 0
def loQ (q : Nat) : Nat := [160, 20, 0, 50, 26, 0, 0, 0, 0, 0, 45, 23, 0].getD q 0
def yyQ (q : Nat) : MethodName := [x, y2, y3, y4, y6, y7, y8, y9, y10, y11, y12, y13, y14].getD q x
def bbQ (q : Nat) : ByteArray := [code, method_5_code, method_4_code, prog_25_method_1_code, prog_5_method_1_code, prog_5_method_3_code, prog_5_method_2_code, prog_5_method_4_code, prog_25_method_10_code, prog_25_method_7_code, method_8_code, method_7_code, method_6_code].getD q code
def rrQ (q : Nat) : Option FieldType := [(some .boolean), (some .int), (some .boolean), none, none, (some .int), (some .int), (some .int), none, (some .int), (some .int), (some .int), (some .int)].getD q none
def PQ (l : Launch) (Z : State) (a0 : Array Value) (n0 : Nat) (τ : Int → Int32) : Nat → Nat → ME → Prop := (fun q pc (e : ME) => match e with
    | .inl x => Ok1 l Z a0 KT n0 τ (yyQ q) (bbQ q) (mlQ q) (rrQ q) (frQ q) (loQ q) pc x
    | .inr (.inr 0) => Nx (bbQ q) pc .return_ 1 (pc + 1) ∧ rrQ q = none
    | .inr (.inr 1) => Nx (bbQ q) pc .ireturn 1 (pc + 1) ∧ rrQ q = some .int
    | .inr (.inr (_ + 2)) => Nx (bbQ q) pc .ireturn 1 (pc + 1) ∧ rrQ q = some .boolean
    | .inr (.inl (z, np, kd, mx, non)) => (np ≤ mlQ z ∧ frQ z + 1 ≤ frQ q ∧ mx + (mlQ z + 11) + loQ z ≤ loQ q ∧ non = List.replicate (mlQ z - np) none) ∧ plainFor (yyQ z) = true ∧ OkC l Z a0 KT n0 τ (yyQ q) (bbQ q) (mlQ q) (rrQ q) pc (yyQ z) (bbQ z) (mlQ z) (rrQ z) np kd)
set_option maxRecDepth 65536 in
set_option maxHeartbeats 40000000 in
theorem okq0 (l : Launch) {Z : State} {a0 : Array Value} (hw : HW1 Z a0) (n0 : Nat) (τ : Int → Int32) : AllT (PQ l Z a0 n0 τ 0) tq0 := (ND (ND (ND (ND (ND (LF (ok_iload (Or.inr ⟨0, rfl, s0_0⟩)))
  (ND (LF (ok_seq (ok_push (by decide) (Or.inl s0_4))
   (ok_seq (ok_rem s0_5)
   (ok_seq (ok_istore (leb rfl) (Or.inr ⟨2, rfl, s0_6⟩))
   (ok_seq (ok_push (by decide) (Or.inl s0_7))
   (ok_seq (ok_newA s0_8 (k_0 hw))
   (ok_seq (ok_astore (leb rfl) (Or.inr ⟨3, rfl, s0_10⟩))
   (ok_seq (ok_aload (Or.inr ⟨3, rfl, s0_11⟩))
   (ok_seq (ok_push (by decide) (Or.inl s0_12))
   (ok_seq (ok_iload (Or.inr ⟨1, rfl, s0_13⟩))
   (ok_push (by decide) (Or.inl s0_14))))))))))))
  (LF (ok_seq (ok_iastore s0_18)
   (ok_seq (ok_aload (Or.inr ⟨3, rfl, s0_19⟩))
   (ok_seq (ok_push (by decide) (Or.inl s0_20))
   (ok_seq (ok_iload (Or.inr ⟨1, rfl, s0_21⟩))
   (ok_push (by decide) (Or.inl s0_22)))))))))
  (ND (ND (LF (ok_seq (ok_iastore s0_26)
   (ok_seq (ok_aload (Or.inr ⟨3, rfl, s0_27⟩))
   (ok_seq (ok_push (by decide) (Or.inl s0_28))
   (ok_seq (ok_iload (Or.inr ⟨1, rfl, s0_29⟩))
   (ok_push (by decide) (Or.inl s0_30)))))))
  (LF (ok_seq (ok_iastore s0_34)
   (ok_seq (ok_aload (Or.inr ⟨3, rfl, s0_35⟩))
   (ok_seq (ok_push (by decide) (Or.inl s0_36))
   (ok_seq (ok_iload (Or.inr ⟨1, rfl, s0_37⟩))
   (ok_push (by decide) (Or.inl s0_38))))))))
  (ND (LF (ok_seq (ok_iastore s0_42)
   (ok_seq (ok_aload (Or.inr ⟨3, rfl, s0_43⟩))
   (ok_seq (ok_push (by decide) (Or.inl s0_44))
   (ok_seq (ok_iload (Or.inr ⟨1, rfl, s0_45⟩))
   (ok_push (by decide) (Or.inl s0_46)))))))
  (LF (ok_iastore s0_50)))))
  (ND (ND (ND (LF (ok_seq (ok_aload (Or.inr ⟨3, rfl, s0_51⟩))
   (ok_seq (ok_push (by decide) (Or.inl s0_52))
   (ok_seq (ok_aload (Or.inr ⟨3, rfl, s0_53⟩))
   (ok_seq (ok_iload (Or.inr ⟨2, rfl, s0_54⟩))
   (ok_push (by decide) (Or.inl s0_55)))))))
  (LF (⟨⟨leb rfl, leb rfl, leb rfl, rfl⟩, (plainFor_of_name pn_1), okc_s s0_56 (k_2 hw)⟩)))
  (ND (LF (ok_seq (ok_iastore s0_59)
   (ok_seq (ok_aload (Or.inr ⟨3, rfl, s0_60⟩))
   (ok_seq (ok_push (by decide) (Or.inl s0_61))
   (ok_seq (ok_aload (Or.inr ⟨3, rfl, s0_62⟩))
   (ok_seq (ok_iload (Or.inr ⟨2, rfl, s0_63⟩))
   (ok_push (by decide) (Or.inl s0_64))))))))
  (LF (⟨⟨leb rfl, leb rfl, leb rfl, rfl⟩, (plainFor_of_name pn_1), okc_s s0_65 (k_2 hw)⟩))))
  (ND (ND (LF (ok_seq (ok_iastore s0_68)
   (ok_seq (ok_aload (Or.inr ⟨3, rfl, s0_69⟩))
   (ok_seq (ok_push (by decide) (Or.inl s0_70))
   (ok_seq (ok_aload (Or.inr ⟨3, rfl, s0_71⟩))
   (ok_seq (ok_iload (Or.inr ⟨2, rfl, s0_72⟩))
   (ok_push (by decide) (Or.inl s0_73))))))))
  (LF (⟨⟨leb rfl, leb rfl, leb rfl, rfl⟩, (plainFor_of_name pn_1), okc_s s0_74 (k_2 hw)⟩)))
  (ND (LF (ok_seq (ok_iastore s0_77)
   (ok_seq (ok_aload (Or.inr ⟨3, rfl, s0_78⟩))
   (ok_seq (ok_push (by decide) (Or.inl s0_79))
   (ok_seq (ok_aload (Or.inr ⟨3, rfl, s0_80⟩))
   (ok_seq (ok_iload (Or.inr ⟨2, rfl, s0_81⟩))
   (ok_push (by decide) (Or.inl s0_82))))))))
  (LF (⟨⟨leb rfl, leb rfl, leb rfl, rfl⟩, (plainFor_of_name pn_1), okc_s s0_83 (k_2 hw)⟩))))))
  (ND (ND (ND (ND (LF (ok_seq (ok_iastore s0_86)
   (ok_seq (ok_aload (Or.inr ⟨3, rfl, s0_87⟩))
   (ok_seq (ok_push (by decide) (Or.inl s0_88))
   (ok_seq (ok_aload (Or.inr ⟨3, rfl, s0_89⟩))
   (ok_seq (ok_iload (Or.inr ⟨2, rfl, s0_90⟩))
   (ok_push (by decide) (Or.inl s0_91))))))))
  (LF (⟨⟨leb rfl, leb rfl, leb rfl, rfl⟩, (plainFor_of_name pn_1), okc_s s0_92 (k_2 hw)⟩)))
  (ND (LF (ok_iastore s0_95))
  (LF (ok_seq (ok_new s0_96 (k_3 hw))
   (ok_seq (ok_dup s0_99)
   (ok_seq (ok_iload (Or.inr ⟨2, rfl, s0_100⟩))
   (ok_seq (ok_aload (Or.inr ⟨3, rfl, s0_101⟩))
   (ok_seq (ok_push (by decide) (Or.inl s0_102))
   (ok_newA s0_103 (k_0 hw))))))))))
  (ND (ND (LF (⟨⟨leb rfl, leb rfl, leb rfl, rfl⟩, (plainFor_of_name pn_4), okc_c s0_105 (k_5 hw)⟩))
  (LF (ok_seq (ok_astore (leb rfl) (Or.inl s0_108))
   (ok_seq (ok_push (by decide) (Or.inl s0_110))
   (ok_seq (ok_istore (leb rfl) (Or.inl s0_111))
   (ok_seq (ok_iload (Or.inl s0_113))
   (ok_if s0_115)))))))
  (ND (LF (ok_seq (ok_aload (Or.inl s0_118))
   (ok_push (by decide) (Or.inl s0_120))))
  (LF (⟨⟨leb rfl, leb rfl, leb rfl, rfl⟩, (plainFor_of_name pn_4), okc_v s0_121 (k_6 hw)⟩)))))
  (ND (ND (ND (LF (ok_seq (ok_aload (Or.inr ⟨3, rfl, s0_124⟩))
   (ok_seq (ok_iload (Or.inr ⟨2, rfl, s0_125⟩))
   (ok_push (by decide) (Or.inl s0_126)))))
  (LF (⟨⟨leb rfl, leb rfl, leb rfl, rfl⟩, (plainFor_of_name pn_1), okc_s s0_127 (k_7 hw)⟩)))
  (ND (LF (ok_icmp s0_130))
  (LF (ok_seq (ok_push (by decide) (Or.inl s0_133))
   (ok_goto s0_134)))))
  (ND (ND (LF (ok_push (by decide) (Or.inl s0_137)))
  (LF (ok_seq (ok_istore (leb rfl) (Or.inl s0_138))
   (ok_seq (ok_iload (Or.inl s0_140))
   (ok_if s0_142)))))
  (ND (LF (ok_seq (ok_aload (Or.inl s0_145))
   (ok_push (by decide) (Or.inl s0_147))))
  (LF (⟨⟨leb rfl, leb rfl, leb rfl, rfl⟩, (plainFor_of_name pn_4), okc_v s0_148 (k_6 hw)⟩)))))))
  (ND (ND (ND (ND (LF (ok_seq (ok_aload (Or.inr ⟨3, rfl, s0_151⟩))
   (ok_seq (ok_iload (Or.inr ⟨2, rfl, s0_152⟩))
   (ok_push (by decide) (Or.inl s0_153)))))
  (ND (LF (⟨⟨leb rfl, leb rfl, leb rfl, rfl⟩, (plainFor_of_name pn_1), okc_s s0_154 (k_7 hw)⟩))
  (LF (ok_icmp s0_157))))
  (ND (ND (LF (ok_seq (ok_push (by decide) (Or.inl s0_160))
   (ok_goto s0_161)))
  (LF (ok_push (by decide) (Or.inl s0_164))))
  (ND (LF (ok_seq (ok_istore (leb rfl) (Or.inl s0_165))
   (ok_seq (ok_iload (Or.inl s0_167))
   (ok_if s0_169))))
  (LF (ok_seq (ok_aload (Or.inl s0_172))
   (ok_push (by decide) (Or.inl s0_174)))))))
  (ND (ND (ND (LF (⟨⟨leb rfl, leb rfl, leb rfl, rfl⟩, (plainFor_of_name pn_4), okc_v s0_175 (k_6 hw)⟩))
  (LF (ok_seq (ok_aload (Or.inr ⟨3, rfl, s0_178⟩))
   (ok_seq (ok_iload (Or.inr ⟨2, rfl, s0_179⟩))
   (ok_push (by decide) (Or.inl s0_180))))))
  (ND (LF (⟨⟨leb rfl, leb rfl, leb rfl, rfl⟩, (plainFor_of_name pn_1), okc_s s0_181 (k_7 hw)⟩))
  (LF (ok_icmp s0_184))))
  (ND (ND (LF (ok_seq (ok_push (by decide) (Or.inl s0_187))
   (ok_goto s0_188)))
  (LF (ok_push (by decide) (Or.inl s0_191))))
  (ND (LF (ok_seq (ok_istore (leb rfl) (Or.inl s0_192))
   (ok_seq (ok_iload (Or.inl s0_194))
   (ok_if s0_196))))
  (LF (ok_seq (ok_aload (Or.inl s0_199))
   (ok_push (by decide) (Or.inl s0_201))))))))
  (ND (ND (ND (ND (LF (⟨⟨leb rfl, leb rfl, leb rfl, rfl⟩, (plainFor_of_name pn_4), okc_v s0_202 (k_6 hw)⟩))
  (LF (ok_seq (ok_aload (Or.inr ⟨3, rfl, s0_205⟩))
   (ok_seq (ok_iload (Or.inr ⟨2, rfl, s0_206⟩))
   (ok_push (by decide) (Or.inl s0_207))))))
  (ND (LF (⟨⟨leb rfl, leb rfl, leb rfl, rfl⟩, (plainFor_of_name pn_1), okc_s s0_208 (k_7 hw)⟩))
  (LF (ok_icmp s0_211))))
  (ND (ND (LF (ok_seq (ok_push (by decide) (Or.inl s0_214))
   (ok_goto s0_215)))
  (LF (ok_push (by decide) (Or.inl s0_218))))
  (ND (LF (ok_seq (ok_istore (leb rfl) (Or.inl s0_219))
   (ok_seq (ok_iload (Or.inl s0_221))
   (ok_if s0_223))))
  (LF (ok_seq (ok_aload (Or.inl s0_226))
   (ok_push (by decide) (Or.inl s0_228)))))))
  (ND (ND (ND (LF (⟨⟨leb rfl, leb rfl, leb rfl, rfl⟩, (plainFor_of_name pn_4), okc_v s0_229 (k_6 hw)⟩))
  (LF (ok_seq (ok_aload (Or.inr ⟨3, rfl, s0_232⟩))
   (ok_seq (ok_iload (Or.inr ⟨2, rfl, s0_233⟩))
   (ok_push (by decide) (Or.inl s0_234))))))
  (ND (LF (⟨⟨leb rfl, leb rfl, leb rfl, rfl⟩, (plainFor_of_name pn_1), okc_s s0_235 (k_7 hw)⟩))
  (LF (ok_icmp s0_238))))
  (ND (ND (LF (ok_seq (ok_push (by decide) (Or.inl s0_241))
   (ok_goto s0_242)))
  (LF (ok_push (by decide) (Or.inl s0_245))))
  (ND (LF (ok_seq (ok_istore (leb rfl) (Or.inl s0_246))
   (ok_iload (Or.inl s0_248))))
  (LF (⟨s0_250, rfl⟩))))))))
set_option maxRecDepth 65536 in
set_option maxHeartbeats 40000000 in
theorem okq1 (l : Launch) {Z : State} {a0 : Array Value} (hw : HW1 Z a0) (n0 : Nat) (τ : Int → Int32) : AllT (PQ l Z a0 n0 τ 1) tq1 := (ND (ND (LF (ok_seq (ok_aload (Or.inr ⟨0, rfl, s2_0⟩))
   (ok_seq (ok_iload (Or.inr ⟨1, rfl, s2_1⟩))
   (ok_iload (Or.inr ⟨2, rfl, s2_2⟩)))))
  (ND (LF (⟨⟨leb rfl, leb rfl, leb rfl, rfl⟩, (plainFor_of_name pn_1), okc_s s2_3 (k_8 hw)⟩))
  (LF (ok_if s2_6))))
  (ND (LF (ok_seq (ok_aload (Or.inr ⟨0, rfl, s2_9⟩))
   (ok_seq (ok_iload (Or.inr ⟨2, rfl, s2_10⟩))
   (ok_seq (ok_iaload s2_11)
   (ok_goto s2_12)))))
  (ND (LF (ok_iload (Or.inr ⟨1, rfl, s2_15⟩)))
  (LF (⟨s2_16, rfl⟩)))))
set_option maxRecDepth 65536 in
set_option maxHeartbeats 40000000 in
theorem okq2 (l : Launch) {Z : State} {a0 : Array Value} (hw : HW1 Z a0) (n0 : Nat) (τ : Int → Int32) : AllT (PQ l Z a0 n0 τ 2) tq2 := (ND (ND (ND (ND (LF (ok_seq (ok_iload (Or.inr ⟨2, rfl, s3_0⟩))
   (ok_seq (ok_iload (Or.inr ⟨1, rfl, s3_1⟩))
   (ok_icmp s3_2))))
  (LF (ok_push (by decide) (Or.inl s3_5))))
  (ND (LF (⟨s3_6, rfl⟩))
  (LF (ok_seq (ok_aload (Or.inr ⟨0, rfl, s3_7⟩))
   (ok_seq (ok_iload (Or.inr ⟨2, rfl, s3_8⟩))
   (ok_seq (ok_iaload s3_9)
   (ok_seq (ok_istore (leb rfl) (Or.inr ⟨2, rfl, s3_10⟩))
   (ok_seq (ok_iload (Or.inr ⟨2, rfl, s3_11⟩))
   (ok_seq (ok_iload (Or.inr ⟨1, rfl, s3_12⟩))
   (ok_icmp s3_13))))))))))
  (ND (ND (LF (ok_push (by decide) (Or.inl s3_16)))
  (LF (⟨s3_17, rfl⟩)))
  (ND (LF (ok_seq (ok_aload (Or.inr ⟨0, rfl, s3_18⟩))
   (ok_seq (ok_iload (Or.inr ⟨2, rfl, s3_19⟩))
   (ok_seq (ok_iaload s3_20)
   (ok_seq (ok_istore (leb rfl) (Or.inr ⟨2, rfl, s3_21⟩))
   (ok_seq (ok_iload (Or.inr ⟨2, rfl, s3_22⟩))
   (ok_seq (ok_iload (Or.inr ⟨1, rfl, s3_23⟩))
   (ok_icmp s3_24))))))))
  (LF (ok_push (by decide) (Or.inl s3_27))))))
  (ND (ND (ND (LF (⟨s3_28, rfl⟩))
  (LF (ok_seq (ok_aload (Or.inr ⟨0, rfl, s3_29⟩))
   (ok_seq (ok_iload (Or.inr ⟨2, rfl, s3_30⟩))
   (ok_seq (ok_iaload s3_31)
   (ok_seq (ok_istore (leb rfl) (Or.inr ⟨2, rfl, s3_32⟩))
   (ok_seq (ok_iload (Or.inr ⟨2, rfl, s3_33⟩))
   (ok_seq (ok_iload (Or.inr ⟨1, rfl, s3_34⟩))
   (ok_icmp s3_35)))))))))
  (ND (LF (ok_push (by decide) (Or.inl s3_38)))
  (LF (⟨s3_39, rfl⟩))))
  (ND (ND (LF (ok_seq (ok_aload (Or.inr ⟨0, rfl, s3_40⟩))
   (ok_seq (ok_iload (Or.inr ⟨2, rfl, s3_41⟩))
   (ok_seq (ok_iaload s3_42)
   (ok_seq (ok_istore (leb rfl) (Or.inr ⟨2, rfl, s3_43⟩))
   (ok_seq (ok_iload (Or.inr ⟨2, rfl, s3_44⟩))
   (ok_seq (ok_iload (Or.inr ⟨1, rfl, s3_45⟩))
   (ok_icmp s3_46))))))))
  (LF (ok_seq (ok_push (by decide) (Or.inl s3_49))
   (ok_goto s3_50))))
  (ND (LF (ok_push (by decide) (Or.inl s3_53)))
  (LF (⟨s3_54, rfl⟩))))))
set_option maxRecDepth 65536 in
set_option maxHeartbeats 40000000 in
theorem okq3 (l : Launch) {Z : State} {a0 : Array Value} (hw : HW1 Z a0) (n0 : Nat) (τ : Int → Int32) : AllT (PQ l Z a0 n0 τ 3) tq3 := (ND (ND (ND (ND (LF (ok_seq (ok_aload (Or.inr ⟨0, rfl, s4_0⟩))
   (ok_seq (ok_init s4_1 (k_9 hw) (by decide) (by decide))
   (ok_seq (ok_aload (Or.inr ⟨3, rfl, s4_4⟩))
   (ok_seq (ok_len s4_5)
   (ok_seq (ok_istore (leb rfl) (Or.inl s4_6))
   (ok_seq (ok_aload (Or.inr ⟨0, rfl, s4_8⟩))
   (ok_seq (ok_aload (Or.inr ⟨2, rfl, s4_9⟩))
   (ok_seq (ok_clone s4_10 (k_10 hw) (by decide) (by decide))
   (ok_seq (ok_cast s4_13 (hw _ (List.mem_of_getElem? (i := 28) rfl)))
   (ok_seq (ok_put s4_16 (k_11 hw) (fun v => by cases v <;> rfl) (fun v => by cases v <;> rfl))
   (ok_seq (ok_aload (Or.inr ⟨0, rfl, s4_19⟩))
   (ok_seq (ok_aload (Or.inr ⟨3, rfl, s4_20⟩))
   (ok_seq (ok_clone s4_21 (k_10 hw) (by decide) (by decide))
   (ok_seq (ok_cast s4_24 (hw _ (List.mem_of_getElem? (i := 28) rfl)))
   (ok_seq (ok_put s4_27 (k_12 hw) (fun v => by cases v <;> rfl) (fun v => by cases v <;> rfl))
   (ok_seq (ok_aload (Or.inr ⟨0, rfl, s4_30⟩))
   (ok_seq (ok_iload (Or.inl s4_31))
   (ok_seq (ok_newA s4_33 (k_0 hw))
   (ok_seq (ok_put s4_35 (k_13 hw) (fun v => by cases v <;> rfl) (fun v => by cases v <;> rfl))
   (ok_seq (ok_aload (Or.inr ⟨0, rfl, s4_38⟩))
   (ok_seq (ok_iload (Or.inl s4_39))
   (ok_seq (ok_newA s4_41 (k_0 hw))
   (ok_seq (ok_put s4_43 (k_14 hw) (fun v => by cases v <;> rfl) (fun v => by cases v <;> rfl))
   (ok_seq (ok_aload (Or.inr ⟨0, rfl, s4_46⟩))
   (ok_seq (ok_iload (Or.inl s4_47))
   (ok_seq (ok_newA s4_49 (k_0 hw))
   (ok_seq (ok_put s4_51 (k_15 hw) (fun v => by cases v <;> rfl) (fun v => by cases v <;> rfl))
   (ok_seq (ok_aload (Or.inr ⟨0, rfl, s4_54⟩))
   (ok_seq (ok_iload (Or.inl s4_55))
   (ok_seq (ok_newA s4_57 (k_0 hw))
   (ok_seq (ok_put s4_59 (k_16 hw) (fun v => by cases v <;> rfl) (fun v => by cases v <;> rfl))
   (ok_seq (ok_aload (Or.inr ⟨0, rfl, s4_62⟩))
   (ok_seq (ok_get s4_63 (k_17 hw))
   (ok_seq (ok_iload (Or.inr ⟨1, rfl, s4_66⟩))
   (ok_seq (ok_push (by decide) (Or.inl s4_67))
   (ok_seq (ok_iastore s4_68)
   (ok_seq (ok_aload (Or.inr ⟨2, rfl, s4_69⟩))
   (ok_seq (ok_clone s4_70 (k_10 hw) (by decide) (by decide))
   (ok_seq (ok_cast s4_73 (hw _ (List.mem_of_getElem? (i := 28) rfl)))
   (ok_seq (ok_astore (leb rfl) (Or.inl s4_76))
   (ok_seq (ok_aload (Or.inl s4_78))
   (ok_seq (ok_iload (Or.inr ⟨1, rfl, s4_80⟩))
   (ok_seq (ok_iload (Or.inl s4_81))
   (ok_seq (ok_iastore s4_83)
   (ok_seq (ok_new s4_84 (k_18 hw))
   (ok_seq (ok_dup s4_87)
   (ok_seq (ok_aload (Or.inl s4_88))
   (ok_seq (ok_iload (Or.inl s4_90))
   (ok_seq (ok_push (by decide) (Or.inl s4_92))
   (ok_add s4_93)))))))))))))))))))))))))))))))))))))))))))))))))))
  (ND (LF (⟨⟨leb rfl, leb rfl, leb rfl, rfl⟩, (plainFor_of_name pn_19), okc_c s4_94 (k_20 hw)⟩))
  (LF (ok_seq (ok_astore (leb rfl) (Or.inl s4_97))
   (ok_seq (ok_iload (Or.inl s4_99))
   (ok_seq (ok_newA s4_101 (k_0 hw))
   (ok_seq (ok_astore (leb rfl) (Or.inl s4_103))
   (ok_seq (ok_iload (Or.inl s4_105))
   (ok_seq (ok_newA s4_107 (k_0 hw))
   (ok_seq (ok_astore (leb rfl) (Or.inl s4_109))
   (ok_seq (ok_push (by decide) (Or.inl s4_111))
   (ok_seq (ok_istore (leb rfl) (Or.inl s4_112))
   (ok_seq (ok_aload (Or.inl s4_114))
   (ok_seq (ok_iload (Or.inl s4_116))
   (ok_seq (ok_inc s4_118)
   (ok_seq (ok_iload (Or.inr ⟨1, rfl, s4_121⟩))
   (ok_seq (ok_iastore s4_122)
   (ok_seq (ok_push (by decide) (Or.inl s4_123))
   (ok_istore (leb rfl) (Or.inl s4_124))))))))))))))))))))
  (ND (ND (LF (ok_seq (ok_iload (Or.inl s4_126))
   (ok_seq (ok_iload (Or.inl s4_128))
   (ok_icmp s4_130))))
  (LF (ok_seq (ok_aload (Or.inl s4_133))
   (ok_seq (ok_inc s4_135)
   (ok_seq (ok_iload (Or.inl s4_138))
   (ok_seq (ok_iaload s4_140)
   (ok_seq (ok_istore (leb rfl) (Or.inl s4_141))
   (ok_seq (ok_aload (Or.inl s4_143))
   (ok_seq (ok_iload (Or.inl s4_145))
   (ok_seq (ok_iload (Or.inl s4_147))
   (ok_seq (ok_iastore s4_149)
   (ok_seq (ok_aload (Or.inl s4_150))
   (ok_iload (Or.inl s4_152))))))))))))))
  (ND (LF (⟨⟨leb rfl, leb rfl, leb rfl, rfl⟩, (plainFor_of_name pn_19), okc_v s4_154 (k_21 hw)⟩))
  (LF (ok_seq (ok_push (by decide) (Or.inl s4_157))
   (ok_seq (ok_sub s4_158)
   (ok_istore (leb rfl) (Or.inl s4_159))))))))
  (ND (ND (LF (ok_seq (ok_iload (Or.inl s4_161))
   (ok_seq (ok_aload (Or.inl s4_163))
   (ok_iload (Or.inl s4_165)))))
  (ND (LF (⟨⟨leb rfl, leb rfl, leb rfl, rfl⟩, (plainFor_of_name pn_19), okc_v s4_167 (k_22 hw)⟩))
  (LF (ok_icmp s4_170))))
  (ND (ND (LF (ok_seq (ok_aload (Or.inl s4_173))
   (ok_seq (ok_iload (Or.inl s4_175))
   (ok_seq (ok_inc s4_177)
   (ok_seq (ok_aload (Or.inl s4_180))
   (ok_iload (Or.inl s4_182)))))))
  (LF (⟨⟨leb rfl, leb rfl, leb rfl, rfl⟩, (plainFor_of_name pn_19), okc_v s4_184 (k_23 hw)⟩)))
  (ND (LF (ok_seq (ok_iastore s4_187)
   (ok_seq (ok_inc s4_188)
   (ok_goto s4_191))))
  (LF (ok_seq (ok_inc s4_194)
   (ok_goto s4_197)))))))
  (ND (ND (ND (LF (ok_seq (ok_push (by decide) (Or.inl s4_200))
   (ok_istore (leb rfl) (Or.inl s4_201))))
  (ND (LF (ok_seq (ok_iload (Or.inl s4_203))
   (ok_seq (ok_iload (Or.inl s4_205))
   (ok_icmp s4_207))))
  (LF (ok_seq (ok_aload (Or.inr ⟨0, rfl, s4_210⟩))
   (ok_seq (ok_aload (Or.inl s4_211))
   (ok_seq (ok_iload (Or.inl s4_213))
   (ok_seq (ok_iaload s4_215)
   (ok_seq (ok_aload (Or.inl s4_216))
   (ok_seq (ok_iload (Or.inl s4_218))
   (ok_seq (ok_push (by decide) (Or.inl s4_220))
   (ok_seq (ok_add s4_221)
   (ok_seq (ok_iload (Or.inl s4_222))
   (ok_seq (ok_rem s4_224)
   (ok_iaload s4_225))))))))))))))
  (ND (ND (LF (⟨⟨leb rfl, leb rfl, leb rfl, rfl⟩, (plainFor_of_name pn_4), okc_m s4_226 (k_24 hw)⟩))
  (LF (ok_seq (ok_inc s4_229)
   (ok_goto s4_232))))
  (ND (LF (ok_seq (ok_iload (Or.inl s4_235))
   (ok_seq (ok_push (by decide) (Or.inl s4_237))
   (ok_seq (ok_sub s4_238)
   (ok_istore (leb rfl) (Or.inl s4_239))))))
  (LF (ok_seq (ok_iload (Or.inl s4_241))
   (ok_if s4_243))))))
  (ND (ND (LF (ok_seq (ok_aload (Or.inl s4_246))
   (ok_seq (ok_iload (Or.inl s4_248))
   (ok_seq (ok_iaload s4_250)
   (ok_seq (ok_istore (leb rfl) (Or.inl s4_251))
   (ok_seq (ok_aload (Or.inr ⟨0, rfl, s4_253⟩))
   (ok_seq (ok_get s4_254 (k_25 hw))
   (ok_seq (ok_iload (Or.inl s4_257))
   (ok_seq (ok_dup2 s4_259)
   (ok_seq (ok_iaload s4_260)
   (ok_seq (ok_push (by decide) (Or.inl s4_261))
   (ok_seq (ok_add s4_262)
   (ok_seq (ok_iastore s4_263)
   (ok_seq (ok_iload (Or.inl s4_264))
   (ok_seq (ok_iload (Or.inr ⟨1, rfl, s4_266⟩))
   (ok_icmp s4_267))))))))))))))))
  (ND (LF (ok_seq (ok_aload (Or.inr ⟨0, rfl, s4_270⟩))
   (ok_seq (ok_get s4_271 (k_25 hw))
   (ok_seq (ok_aload (Or.inr ⟨0, rfl, s4_274⟩))
   (ok_seq (ok_get s4_275 (k_17 hw))
   (ok_seq (ok_iload (Or.inl s4_278))
   (ok_seq (ok_iaload s4_280)
   (ok_seq (ok_dup2 s4_281)
   (ok_seq (ok_iaload s4_282)
   (ok_seq (ok_aload (Or.inr ⟨0, rfl, s4_283⟩))
   (ok_seq (ok_get s4_284 (k_25 hw))
   (ok_seq (ok_iload (Or.inl s4_287))
   (ok_seq (ok_iaload s4_289)
   (ok_seq (ok_add s4_290)
   (ok_iastore s4_291)))))))))))))))
  (LF (ok_seq (ok_inc s4_292)
   (ok_goto s4_295)))))
  (ND (ND (LF (ok_seq (ok_push (by decide) (Or.inl s4_298))
   (ok_istore (leb rfl) (Or.inl s4_299))))
  (LF (ok_seq (ok_iload (Or.inl s4_301))
   (ok_seq (ok_iload (Or.inl s4_303))
   (ok_icmp s4_305)))))
  (ND (LF (ok_seq (ok_aload (Or.inr ⟨0, rfl, s4_308⟩))
   (ok_seq (ok_get s4_309 (k_26 hw))
   (ok_seq (ok_aload (Or.inl s4_312))
   (ok_seq (ok_iload (Or.inl s4_314))
   (ok_seq (ok_iaload s4_316)
   (ok_seq (ok_aload (Or.inl s4_317))
   (ok_seq (ok_iload (Or.inl s4_319))
   (ok_seq (ok_aload (Or.inr ⟨0, rfl, s4_321⟩))
   (ok_seq (ok_get s4_322 (k_25 hw))
   (ok_seq (ok_aload (Or.inl s4_325))
   (ok_seq (ok_iload (Or.inl s4_327))
   (ok_seq (ok_iaload s4_329)
   (ok_seq (ok_iaload s4_330)
   (ok_seq (ok_add s4_331)
   (ok_seq (ok_push (by decide) (Or.inl s4_332))
   (ok_seq (ok_sub s4_333)
   (ok_seq (ok_iaload s4_334)
   (ok_seq (ok_iastore s4_335)
   (ok_seq (ok_inc s4_336)
   (ok_goto s4_339)))))))))))))))))))))
  (LF (⟨s4_342, rfl⟩)))))))
set_option maxRecDepth 65536 in
set_option maxHeartbeats 40000000 in
theorem okq4 (l : Launch) {Z : State} {a0 : Array Value} (hw : HW1 Z a0) (n0 : Nat) (τ : Int → Int32) : AllT (PQ l Z a0 n0 τ 4) tq4 := (ND (ND (ND (LF (ok_seq (ok_aload (Or.inr ⟨0, rfl, s6_0⟩))
   (ok_seq (ok_init s6_1 (k_27 hw) (by decide) (by decide))
   (ok_seq (ok_aload (Or.inr ⟨0, rfl, s6_4⟩))
   (ok_seq (ok_iload (Or.inr ⟨2, rfl, s6_5⟩))
   (ok_seq (ok_push (by decide) (Or.inl s6_6))
   (ok_seq (ok_add s6_7)
   (ok_seq (ok_newA s6_8 (k_0 hw))
   (ok_seq (ok_put s6_10 (k_28 hw) (fun v => by cases v <;> rfl) (fun v => by cases v <;> rfl))
   (ok_seq (ok_aload (Or.inr ⟨1, rfl, s6_13⟩))
   (ok_seq (ok_astore (leb rfl) (Or.inr ⟨3, rfl, s6_14⟩))
   (ok_seq (ok_aload (Or.inr ⟨3, rfl, s6_15⟩))
   (ok_seq (ok_len s6_16)
   (ok_seq (ok_istore (leb rfl) (Or.inl s6_17))
   (ok_seq (ok_push (by decide) (Or.inl s6_19))
   (ok_istore (leb rfl) (Or.inl s6_20)))))))))))))))))
  (LF (ok_seq (ok_iload (Or.inl s6_22))
   (ok_seq (ok_iload (Or.inl s6_24))
   (ok_icmp s6_26)))))
  (ND (LF (ok_seq (ok_aload (Or.inr ⟨3, rfl, s6_29⟩))
   (ok_seq (ok_iload (Or.inl s6_30))
   (ok_seq (ok_iaload s6_32)
   (ok_seq (ok_istore (leb rfl) (Or.inl s6_33))
   (ok_seq (ok_aload (Or.inr ⟨0, rfl, s6_35⟩))
   (ok_seq (ok_get s6_36 (k_29 hw))
   (ok_seq (ok_iload (Or.inl s6_39))
   (ok_seq (ok_push (by decide) (Or.inl s6_41))
   (ok_seq (ok_add s6_42)
   (ok_seq (ok_dup2 s6_43)
   (ok_seq (ok_iaload s6_44)
   (ok_seq (ok_push (by decide) (Or.inl s6_45))
   (ok_seq (ok_add s6_46)
   (ok_seq (ok_iastore s6_47)
   (ok_seq (ok_inc s6_48)
   (ok_goto s6_51)))))))))))))))))
  (ND (LF (ok_seq (ok_push (by decide) (Or.inl s6_54))
   (ok_istore (leb rfl) (Or.inr ⟨3, rfl, s6_55⟩))))
  (LF (ok_seq (ok_iload (Or.inr ⟨3, rfl, s6_56⟩))
   (ok_seq (ok_iload (Or.inr ⟨2, rfl, s6_57⟩))
   (ok_icmp s6_58)))))))
  (ND (ND (LF (ok_seq (ok_aload (Or.inr ⟨0, rfl, s6_61⟩))
   (ok_seq (ok_get s6_62 (k_29 hw))
   (ok_seq (ok_iload (Or.inr ⟨3, rfl, s6_65⟩))
   (ok_seq (ok_push (by decide) (Or.inl s6_66))
   (ok_seq (ok_add s6_67)
   (ok_seq (ok_dup2 s6_68)
   (ok_seq (ok_iaload s6_69)
   (ok_seq (ok_aload (Or.inr ⟨0, rfl, s6_70⟩))
   (ok_seq (ok_get s6_71 (k_29 hw))
   (ok_seq (ok_iload (Or.inr ⟨3, rfl, s6_74⟩))
   (ok_seq (ok_iaload s6_75)
   (ok_seq (ok_add s6_76)
   (ok_seq (ok_iastore s6_77)
   (ok_seq (ok_inc s6_78)
   (ok_goto s6_81))))))))))))))))
  (LF (ok_seq (ok_aload (Or.inr ⟨0, rfl, s6_84⟩))
   (ok_seq (ok_aload (Or.inr ⟨1, rfl, s6_85⟩))
   (ok_seq (ok_len s6_86)
   (ok_seq (ok_newA s6_87 (k_0 hw))
   (ok_seq (ok_put s6_89 (k_30 hw) (fun v => by cases v <;> rfl) (fun v => by cases v <;> rfl))
   (ok_seq (ok_iload (Or.inr ⟨2, rfl, s6_92⟩))
   (ok_seq (ok_newA s6_93 (k_0 hw))
   (ok_seq (ok_astore (leb rfl) (Or.inr ⟨3, rfl, s6_95⟩))
   (ok_seq (ok_aload (Or.inr ⟨0, rfl, s6_96⟩))
   (ok_seq (ok_get s6_97 (k_29 hw))
   (ok_seq (ok_push (by decide) (Or.inl s6_100))
   (ok_seq (ok_aload (Or.inr ⟨3, rfl, s6_101⟩))
   (ok_seq (ok_push (by decide) (Or.inl s6_102))
   (ok_seq (ok_iload (Or.inr ⟨2, rfl, s6_103⟩))
   (ok_seq (ok_copy s6_104 (k_31 hw) (by decide) (by decide))
   (ok_seq (ok_push (by decide) (Or.inl s6_107))
   (ok_istore (leb rfl) (Or.inl s6_108))))))))))))))))))))
  (ND (LF (ok_seq (ok_iload (Or.inl s6_110))
   (ok_seq (ok_aload (Or.inr ⟨1, rfl, s6_112⟩))
   (ok_seq (ok_len s6_113)
   (ok_icmp s6_114)))))
  (ND (LF (ok_seq (ok_aload (Or.inr ⟨0, rfl, s6_117⟩))
   (ok_seq (ok_get s6_118 (k_32 hw))
   (ok_seq (ok_aload (Or.inr ⟨3, rfl, s6_121⟩))
   (ok_seq (ok_aload (Or.inr ⟨1, rfl, s6_122⟩))
   (ok_seq (ok_iload (Or.inl s6_123))
   (ok_seq (ok_iaload s6_125)
   (ok_seq (ok_dup2 s6_126)
   (ok_seq (ok_iaload s6_127)
   (ok_seq (ok_dupX2 s6_128)
   (ok_seq (ok_push (by decide) (Or.inl s6_129))
   (ok_seq (ok_add s6_130)
   (ok_seq (ok_iastore s6_131)
   (ok_seq (ok_iload (Or.inl s6_132))
   (ok_seq (ok_iastore s6_134)
   (ok_seq (ok_inc s6_135)
   (ok_goto s6_138)))))))))))))))))
  (LF (⟨s6_141, rfl⟩))))))
set_option maxRecDepth 65536 in
set_option maxHeartbeats 40000000 in
theorem okq5 (l : Launch) {Z : State} {a0 : Array Value} (hw : HW1 Z a0) (n0 : Nat) (τ : Int → Int32) : AllT (PQ l Z a0 n0 τ 5) tq5 := (ND (LF (ok_seq (ok_aload (Or.inr ⟨0, rfl, s7_0⟩))
   (ok_seq (ok_get s7_1 (k_29 hw))
   (ok_seq (ok_iload (Or.inr ⟨1, rfl, s7_4⟩))
   (ok_seq (ok_push (by decide) (Or.inl s7_5))
   (ok_seq (ok_add s7_6)
   (ok_iaload s7_7)))))))
  (LF (⟨s7_8, rfl⟩)))
set_option maxRecDepth 65536 in
set_option maxHeartbeats 40000000 in
theorem okq6 (l : Launch) {Z : State} {a0 : Array Value} (hw : HW1 Z a0) (n0 : Nat) (τ : Int → Int32) : AllT (PQ l Z a0 n0 τ 6) tq6 := (ND (LF (ok_seq (ok_aload (Or.inr ⟨0, rfl, s8_0⟩))
   (ok_seq (ok_get s8_1 (k_29 hw))
   (ok_seq (ok_iload (Or.inr ⟨1, rfl, s8_4⟩))
   (ok_iaload s8_5)))))
  (LF (⟨s8_6, rfl⟩)))
set_option maxRecDepth 65536 in
set_option maxHeartbeats 40000000 in
theorem okq7 (l : Launch) {Z : State} {a0 : Array Value} (hw : HW1 Z a0) (n0 : Nat) (τ : Int → Int32) : AllT (PQ l Z a0 n0 τ 7) tq7 := (ND (LF (ok_seq (ok_aload (Or.inr ⟨0, rfl, s9_0⟩))
   (ok_seq (ok_get s9_1 (k_32 hw))
   (ok_seq (ok_iload (Or.inr ⟨1, rfl, s9_4⟩))
   (ok_iaload s9_5)))))
  (LF (⟨s9_6, rfl⟩)))
set_option maxRecDepth 65536 in
set_option maxHeartbeats 40000000 in
theorem okq8 (l : Launch) {Z : State} {a0 : Array Value} (hw : HW1 Z a0) (n0 : Nat) (τ : Int → Int32) : AllT (PQ l Z a0 n0 τ 8) tq8 := (ND (LF (ok_seq (ok_aload (Or.inr ⟨0, rfl, s10_0⟩))
   (ok_seq (ok_get s10_1 (k_33 hw))
   (ok_seq (ok_iload (Or.inr ⟨1, rfl, s10_4⟩))
   (ok_seq (ok_iload (Or.inr ⟨2, rfl, s10_5⟩))
   (ok_seq (ok_iastore s10_6)
   (ok_seq (ok_aload (Or.inr ⟨0, rfl, s10_7⟩))
   (ok_seq (ok_get s10_8 (k_34 hw))
   (ok_seq (ok_iload (Or.inr ⟨2, rfl, s10_11⟩))
   (ok_seq (ok_iload (Or.inr ⟨1, rfl, s10_12⟩))
   (ok_iastore s10_13)))))))))))
  (LF (⟨s10_14, rfl⟩)))
set_option maxRecDepth 65536 in
set_option maxHeartbeats 40000000 in
theorem okq9 (l : Launch) {Z : State} {a0 : Array Value} (hw : HW1 Z a0) (n0 : Nat) (τ : Int → Int32) : AllT (PQ l Z a0 n0 τ 9) tq9 := (ND (ND (LF (ok_seq (ok_aload (Or.inr ⟨0, rfl, s11_0⟩))
   (ok_seq (ok_get s11_1 (k_33 hw))
   (ok_seq (ok_aload (Or.inr ⟨0, rfl, s11_4⟩))
   (ok_seq (ok_get s11_5 (k_26 hw))
   (ok_seq (ok_iload (Or.inr ⟨1, rfl, s11_8⟩))
   (ok_seq (ok_iaload s11_9)
   (ok_seq (ok_iaload s11_10)
   (ok_seq (ok_iload (Or.inr ⟨1, rfl, s11_11⟩))
   (ok_icmp s11_12))))))))))
  (LF (ok_seq (ok_aload (Or.inr ⟨0, rfl, s11_15⟩))
   (ok_seq (ok_get s11_16 (k_33 hw))
   (ok_seq (ok_aload (Or.inr ⟨0, rfl, s11_19⟩))
   (ok_seq (ok_get s11_20 (k_26 hw))
   (ok_seq (ok_iload (Or.inr ⟨1, rfl, s11_23⟩))
   (ok_seq (ok_iaload s11_24)
   (ok_seq (ok_iaload s11_25)
   (ok_goto s11_26))))))))))
  (ND (LF (ok_push (by decide) (Or.inl s11_29)))
  (LF (⟨s11_30, rfl⟩))))
set_option maxRecDepth 65536 in
set_option maxHeartbeats 40000000 in
theorem okq10 (l : Launch) {Z : State} {a0 : Array Value} (hw : HW1 Z a0) (n0 : Nat) (τ : Int → Int32) : AllT (PQ l Z a0 n0 τ 10) tq10 := (ND (ND (ND (ND (ND (LF (ok_seq (ok_iload (Or.inr ⟨2, rfl, s12_0⟩))
   (ok_seq (ok_iload (Or.inr ⟨1, rfl, s12_1⟩))
   (ok_icmp s12_2))))
  (LF (ok_push (by decide) (Or.inl s12_5))))
  (ND (LF (⟨s12_6, rfl⟩))
  (LF (ok_seq (ok_iload (Or.inr ⟨2, rfl, s12_7⟩))
   (ok_seq (ok_istore (leb rfl) (Or.inr ⟨3, rfl, s12_8⟩))
   (ok_seq (ok_aload (Or.inr ⟨0, rfl, s12_9⟩))
   (ok_seq (ok_iload (Or.inr ⟨1, rfl, s12_10⟩))
   (ok_iload (Or.inr ⟨3, rfl, s12_11⟩)))))))))
  (ND (ND (LF (⟨⟨leb rfl, leb rfl, leb rfl, rfl⟩, (plainFor_of_name pn_1), okc_s s12_12 (k_35 hw)⟩))
  (LF (ok_seq (ok_istore (leb rfl) (Or.inl s12_15))
   (ok_seq (ok_iload (Or.inl s12_17))
   (ok_if s12_19)))))
  (ND (LF (ok_iload (Or.inl s12_22)))
  (LF (⟨s12_24, rfl⟩)))))
  (ND (ND (ND (LF (ok_seq (ok_aload (Or.inr ⟨0, rfl, s12_25⟩))
   (ok_seq (ok_iload (Or.inr ⟨3, rfl, s12_26⟩))
   (ok_seq (ok_iaload s12_27)
   (ok_seq (ok_istore (leb rfl) (Or.inr ⟨3, rfl, s12_28⟩))
   (ok_seq (ok_iload (Or.inr ⟨3, rfl, s12_29⟩))
   (ok_seq (ok_iload (Or.inr ⟨1, rfl, s12_30⟩))
   (ok_icmp s12_31))))))))
  (LF (ok_iload (Or.inr ⟨1, rfl, s12_34⟩))))
  (ND (LF (⟨s12_35, rfl⟩))
  (LF (ok_seq (ok_aload (Or.inr ⟨0, rfl, s12_36⟩))
   (ok_seq (ok_iload (Or.inr ⟨1, rfl, s12_37⟩))
   (ok_iload (Or.inr ⟨3, rfl, s12_38⟩)))))))
  (ND (ND (LF (⟨⟨leb rfl, leb rfl, leb rfl, rfl⟩, (plainFor_of_name pn_1), okc_s s12_39 (k_35 hw)⟩))
  (LF (ok_seq (ok_istore (leb rfl) (Or.inl s12_42))
   (ok_seq (ok_iload (Or.inl s12_44))
   (ok_if s12_46)))))
  (ND (LF (ok_iload (Or.inl s12_49)))
  (ND (LF (⟨s12_51, rfl⟩))
  (LF (ok_seq (ok_aload (Or.inr ⟨0, rfl, s12_52⟩))
   (ok_seq (ok_iload (Or.inr ⟨3, rfl, s12_53⟩))
   (ok_seq (ok_iaload s12_54)
   (ok_seq (ok_istore (leb rfl) (Or.inr ⟨3, rfl, s12_55⟩))
   (ok_seq (ok_iload (Or.inr ⟨3, rfl, s12_56⟩))
   (ok_seq (ok_iload (Or.inr ⟨1, rfl, s12_57⟩))
   (ok_icmp s12_58)))))))))))))
  (ND (ND (ND (ND (LF (ok_iload (Or.inr ⟨1, rfl, s12_61⟩)))
  (LF (⟨s12_62, rfl⟩)))
  (ND (LF (ok_seq (ok_aload (Or.inr ⟨0, rfl, s12_63⟩))
   (ok_seq (ok_iload (Or.inr ⟨1, rfl, s12_64⟩))
   (ok_iload (Or.inr ⟨3, rfl, s12_65⟩)))))
  (LF (⟨⟨leb rfl, leb rfl, leb rfl, rfl⟩, (plainFor_of_name pn_1), okc_s s12_66 (k_35 hw)⟩))))
  (ND (ND (LF (ok_seq (ok_istore (leb rfl) (Or.inl s12_69))
   (ok_seq (ok_iload (Or.inl s12_71))
   (ok_if s12_73))))
  (LF (ok_iload (Or.inl s12_76))))
  (ND (LF (⟨s12_78, rfl⟩))
  (LF (ok_seq (ok_aload (Or.inr ⟨0, rfl, s12_79⟩))
   (ok_seq (ok_iload (Or.inr ⟨3, rfl, s12_80⟩))
   (ok_seq (ok_iaload s12_81)
   (ok_seq (ok_istore (leb rfl) (Or.inr ⟨3, rfl, s12_82⟩))
   (ok_seq (ok_iload (Or.inr ⟨3, rfl, s12_83⟩))
   (ok_seq (ok_iload (Or.inr ⟨1, rfl, s12_84⟩))
   (ok_icmp s12_85)))))))))))
  (ND (ND (ND (LF (ok_iload (Or.inr ⟨1, rfl, s12_88⟩)))
  (LF (⟨s12_89, rfl⟩)))
  (ND (LF (ok_seq (ok_aload (Or.inr ⟨0, rfl, s12_90⟩))
   (ok_seq (ok_iload (Or.inr ⟨1, rfl, s12_91⟩))
   (ok_iload (Or.inr ⟨3, rfl, s12_92⟩)))))
  (LF (⟨⟨leb rfl, leb rfl, leb rfl, rfl⟩, (plainFor_of_name pn_1), okc_s s12_93 (k_35 hw)⟩))))
  (ND (ND (LF (ok_seq (ok_istore (leb rfl) (Or.inl s12_96))
   (ok_seq (ok_iload (Or.inl s12_98))
   (ok_if s12_100))))
  (LF (ok_iload (Or.inl s12_103))))
  (ND (LF (⟨s12_105, rfl⟩))
  (ND (LF (ok_iload (Or.inr ⟨1, rfl, s12_106⟩)))
  (LF (⟨s12_107, rfl⟩))))))))
set_option maxRecDepth 65536 in
set_option maxHeartbeats 40000000 in
theorem okq11 (l : Launch) {Z : State} {a0 : Array Value} (hw : HW1 Z a0) (n0 : Nat) (τ : Int → Int32) : AllT (PQ l Z a0 n0 τ 11) tq11 := (ND (ND (ND (LF (ok_seq (ok_aload (Or.inr ⟨0, rfl, s13_0⟩))
   (ok_seq (ok_iload (Or.inr ⟨2, rfl, s13_1⟩))
   (ok_seq (ok_iaload s13_2)
   (ok_seq (ok_istore (leb rfl) (Or.inr ⟨3, rfl, s13_3⟩))
   (ok_seq (ok_push (by decide) (Or.inl s13_4))
   (ok_seq (ok_istore (leb rfl) (Or.inl s13_5))
   (ok_seq (ok_aload (Or.inr ⟨0, rfl, s13_7⟩))
   (ok_seq (ok_iload (Or.inr ⟨1, rfl, s13_8⟩))
   (ok_seq (ok_iload (Or.inr ⟨3, rfl, s13_9⟩))
   (ok_seq (ok_iload (Or.inr ⟨2, rfl, s13_10⟩))
   (ok_seq (ok_push (by decide) (Or.inl s13_11))
   (ok_iload (Or.inl s13_12))))))))))))))
  (ND (LF (⟨⟨leb rfl, leb rfl, leb rfl, rfl⟩, (plainFor_of_name pn_1), okc_s s13_14 (k_36 hw)⟩))
  (LF (ok_seq (ok_istore (leb rfl) (Or.inl s13_17))
   (ok_seq (ok_aload (Or.inr ⟨0, rfl, s13_19⟩))
   (ok_seq (ok_iload (Or.inr ⟨1, rfl, s13_20⟩))
   (ok_seq (ok_iload (Or.inr ⟨3, rfl, s13_21⟩))
   (ok_seq (ok_iload (Or.inr ⟨2, rfl, s13_22⟩))
   (ok_seq (ok_push (by decide) (Or.inl s13_23))
   (ok_iload (Or.inl s13_24)))))))))))
  (ND (LF (⟨⟨leb rfl, leb rfl, leb rfl, rfl⟩, (plainFor_of_name pn_1), okc_s s13_26 (k_36 hw)⟩))
  (ND (LF (ok_seq (ok_istore (leb rfl) (Or.inl s13_29))
   (ok_seq (ok_aload (Or.inr ⟨0, rfl, s13_31⟩))
   (ok_seq (ok_iload (Or.inr ⟨1, rfl, s13_32⟩))
   (ok_seq (ok_iload (Or.inr ⟨3, rfl, s13_33⟩))
   (ok_seq (ok_iload (Or.inr ⟨2, rfl, s13_34⟩))
   (ok_seq (ok_push (by decide) (Or.inl s13_35))
   (ok_iload (Or.inl s13_36)))))))))
  (LF (⟨⟨leb rfl, leb rfl, leb rfl, rfl⟩, (plainFor_of_name pn_1), okc_s s13_38 (k_36 hw)⟩)))))
  (ND (ND (LF (ok_seq (ok_istore (leb rfl) (Or.inl s13_41))
   (ok_seq (ok_aload (Or.inr ⟨0, rfl, s13_43⟩))
   (ok_seq (ok_iload (Or.inr ⟨1, rfl, s13_44⟩))
   (ok_seq (ok_iload (Or.inr ⟨3, rfl, s13_45⟩))
   (ok_seq (ok_iload (Or.inr ⟨2, rfl, s13_46⟩))
   (ok_seq (ok_push (by decide) (Or.inl s13_47))
   (ok_iload (Or.inl s13_48)))))))))
  (ND (LF (⟨⟨leb rfl, leb rfl, leb rfl, rfl⟩, (plainFor_of_name pn_1), okc_s s13_50 (k_36 hw)⟩))
  (LF (ok_seq (ok_istore (leb rfl) (Or.inl s13_53))
   (ok_seq (ok_aload (Or.inr ⟨0, rfl, s13_55⟩))
   (ok_seq (ok_iload (Or.inr ⟨1, rfl, s13_56⟩))
   (ok_seq (ok_iload (Or.inr ⟨3, rfl, s13_57⟩))
   (ok_seq (ok_iload (Or.inr ⟨2, rfl, s13_58⟩))
   (ok_seq (ok_push (by decide) (Or.inl s13_59))
   (ok_iload (Or.inl s13_60)))))))))))
  (ND (LF (⟨⟨leb rfl, leb rfl, leb rfl, rfl⟩, (plainFor_of_name pn_1), okc_s s13_62 (k_36 hw)⟩))
  (ND (LF (ok_seq (ok_istore (leb rfl) (Or.inl s13_65))
   (ok_iload (Or.inl s13_67))))
  (LF (⟨s13_69, rfl⟩))))))
set_option maxRecDepth 65536 in
set_option maxHeartbeats 40000000 in
theorem okq12 (l : Launch) {Z : State} {a0 : Array Value} (hw : HW1 Z a0) (n0 : Nat) (τ : Int → Int32) : AllT (PQ l Z a0 n0 τ 12) tq12 := (ND (ND (LF (ok_seq (ok_iload (Or.inl s14_0))
   (ok_seq (ok_iload (Or.inr ⟨1, rfl, s14_2⟩))
   (ok_icmp s14_3))))
  (ND (LF (ok_seq (ok_aload (Or.inr ⟨0, rfl, s14_6⟩))
   (ok_seq (ok_iload (Or.inl s14_7))
   (ok_seq (ok_iaload s14_9)
   (ok_seq (ok_iload (Or.inr ⟨2, rfl, s14_10⟩))
   (ok_icmp s14_11))))))
  (LF (ok_seq (ok_iload (Or.inl s14_14))
   (ok_seq (ok_iload (Or.inr ⟨3, rfl, s14_16⟩))
   (ok_icmp s14_17))))))
  (ND (LF (ok_seq (ok_iload (Or.inl s14_20))
   (ok_goto s14_22)))
  (ND (LF (ok_iload (Or.inl s14_25)))
  (LF (⟨s14_27, rfl⟩)))))
theorem tabok (l : Launch) {Z : State} {a0 : Array Value} (hw : HW1 Z a0) (n0 : Nat) (τ : Int → Int32) : TabOk l Z a0 KT n0 τ TQ mlQ frQ loQ yyQ bbQ rrQ := ⟨fun q pc e h => by
  have t : PQ l Z a0 n0 τ q pc e := (show AllQ (PQ l Z a0 n0 τ) TQ from (QN (okq0 l hw n0 τ) (QN (okq1 l hw n0 τ) (QN (okq2 l hw n0 τ) (QN (okq3 l hw n0 τ) (QN (okq4 l hw n0 τ) (QN (okq5 l hw n0 τ) (QN (okq6 l hw n0 τ) (QN (okq7 l hw n0 τ) (QN (okq8 l hw n0 τ) (QN (okq9 l hw n0 τ) (QN (okq10 l hw n0 τ) (QN (okq11 l hw n0 τ) (QN (okq12 l hw n0 τ) QO)))))))))))))) q pc e h
  exact t, kok hw⟩


def own_i (n : Nat) : OwnI.MV := .inl (.ofNat n)
def own_k (i : Nat) : OwnI.MV := .inl (.ofNat (2147483648 + i))
def own_c (R i q : Nat) : OwnI.MV := bif Nat.beq R i then own_k 2 else own_i q
def own_pl (R : Nat) (q0 q1 q2 q3 q4 : Nat) : List OwnI.MV := [own_c R 0 q0, own_c R 1 q1, own_c R 2 q2, own_c R 3 q3, own_c R 4 q4]
def own_l (R : Nat) : List (Option OwnI.MV) := [some (own_k 0), some (own_k 1), some (own_i R), some (.inr 1), none, none]
def own_at (q0 q1 q2 q3 q4 : Nat) (i : Nat) : Nat := bif Nat.beq i 0 then q0 else bif Nat.beq i 1 then q1 else bif Nat.beq i 2 then q2 else bif Nat.beq i 3 then q3 else q4
def own_cl (f : Nat → Nat) (R v : Nat) : Bool := Nat.beq v R || Nat.beq (f v) R || Nat.beq (f (f v)) R || Nat.beq (f (f (f v))) R || Nat.beq (f (f (f (f v)))) R
def own_fx (f : Nat → Nat) (R v : Nat) : Nat := bif own_cl f R v then f v else R
def own_tr (R q0 q1 q2 q3 q4 : Nat) : Bool := own_cl (own_at q0 q1 q2 q3 q4) R 0 && own_cl (own_at q0 q1 q2 q3 q4) R 1 && own_cl (own_at q0 q1 q2 q3 q4) R 2 && own_cl (own_at q0 q1 q2 q3 q4) R 3 && own_cl (own_at q0 q1 q2 q3 q4) R 4
def own_e2 (R q0 q1 q2 q3 q4 : Nat) : Bool := match seg TQ mlQ frQ loQ 250 4000 0 (96, own_l R, [], [.inr (own_pl R q0 q1 q2 q3 q4)], 1, 5) with
  | some (pc, ls, st, A', k', n') => Nat.beq pc 250 && (match st with | [.inl (.ofNat v)] => Nat.beq v 1 | _ => false) && Nat.ble k' 40 && Nat.ble n' 256
  | none => false
def own_E2 (R q0 q1 q2 q3 q4 : Nat) : Bool := bif own_tr R q0 q1 q2 q3 q4 then own_e2 R q0 q1 q2 q3 q4 else true
/-- the numbers behind an array of ints -/
def own_nn : OwnI.MV → Nat
  | .inl (.ofNat v) => v
  | _ => 0
def own_lt5 (q : Nat) : Bool := Nat.ble q 4
def own_e1 (R p0 p1 p2 p3 p4 : Nat) : Bool := match seg TQ mlQ frQ loQ 96 4000 0 (51, own_l R, [], [.inr (own_pl R p0 p1 p2 p3 p4)], 1, 5) with
  | some (pc, ls, st, [.inr [v0, v1, v2, v3, v4]], k', n') => Nat.beq pc 96 && eqL eqS ls (own_l R) && st.isEmpty && Nat.beq k' 1 && Nat.beq n' 5 &&
      (match v0, v1, v2, v3, v4 with
        | .inl (.ofNat a), .inl (.ofNat b), .inl (.ofNat c), .inl (.ofNat d), .inl (.ofNat e) =>
          (own_ck R 0 a && own_ck R 1 b && own_ck R 2 c && own_ck R 3 d && own_ck R 4 e) && own_tr R (own_z R 0 a) (own_z R 1 b) (own_z R 2 c) (own_z R 3 d) (own_z R 4 e)
        | _, _, _, _, _ => false)
  | _ => false
where
  own_ck (R i a : Nat) : Bool := bif Nat.beq R i then Nat.beq a 2147483650 else Nat.ble a 4
  own_z (R i a : Nat) : Nat := bif Nat.beq R i then 0 else a

def own_rg (R i : Nat) : List Nat := bif Nat.beq R i then [0] else [0, 1, 2, 3, 4]
def own_rp (R i : Nat) : List Nat := bif Nat.beq R i then [0] else bif Nat.beq i 0 then [1, 2, 3, 4] else bif Nat.beq i 1 then [0, 2, 3, 4] else bif Nat.beq i 2 then [0, 1, 3, 4] else bif Nat.beq i 3 then [0, 1, 2, 4] else [0, 1, 2, 3]
def own_B4 (R q0 q1 q2 q3 : Nat) : Bool := (own_rg R 4).all fun q4 => own_E2 R q0 q1 q2 q3 q4
def own_B (R q0 q1 : Nat) : Bool := (own_rg R 2).all fun q2 => (own_rg R 3).all fun q3 => own_B4 R q0 q1 q2 q3
def own_A3 (R p0 p1 p2 : Nat) : Bool := (own_rp R 3).all fun p3 => (own_rp R 4).all fun p4 => own_e1 R p0 p1 p2 p3 p4
def own_A (R p0 p1 : Nat) : Bool := (own_rp R 2).all fun p2 => own_A3 R p0 p1 p2
def own_BB (R : Nat) : Bool := (own_rg R 0).all fun q0 => (own_rg R 1).all fun q1 => own_B R q0 q1
def own_AA (R : Nat) : Bool := (own_rp R 0).all fun q0 => (own_rp R 1).all fun q1 => own_A R q0 q1
def own_zz (R i a : Nat) : Nat := bif Nat.beq R i then 0 else a
theorem own_rg_mem {R i a : Nat} (h : a < 5) : own_zz R i a ∈ own_rg R i := by
  unfold own_zz own_rg
  cases Nat.beq R i <;> simp only [cond_true, cond_false]
  · rcases (by omega : a = 0 ∨ a = 1 ∨ a = 2 ∨ a = 3 ∨ a = 4) with rfl | rfl | rfl | rfl | rfl <;> decide
  · decide
theorem own_rp_mem {R i a : Nat} (hi : i < 5) (h : a < 5) (hn : a ≠ i) : own_zz R i a ∈ own_rp R i := by
  unfold own_zz own_rp
  cases Nat.beq R i <;> simp only [cond_true, cond_false]
  · rcases (by omega : i = 0 ∨ i = 1 ∨ i = 2 ∨ i = 3 ∨ i = 4) with rfl | rfl | rfl | rfl | rfl <;> rcases (by omega : a = 0 ∨ a = 1 ∨ a = 2 ∨ a = 3 ∨ a = 4) with rfl | rfl | rfl | rfl | rfl <;> first | decide | exact absurd rfl hn
  · decide
theorem own_c_z (R i a : Nat) : own_c R i (own_zz R i a) = own_c R i a := by
  unfold own_c own_zz
  cases Nat.beq R i <;> rfl
theorem own_B_ok {R : Nat} (h : own_BB R = true) {a b c d e : Nat} (ha : a < 5) (hb : b < 5) (hc : c < 5) (hd : d < 5) (he : e < 5) : own_E2 R (own_zz R 0 a) (own_zz R 1 b) (own_zz R 2 c) (own_zz R 3 d) (own_zz R 4 e) = true :=
  List.all_eq_true.mp (List.all_eq_true.mp (List.all_eq_true.mp (List.all_eq_true.mp (List.all_eq_true.mp h _ (own_rg_mem ha)) _ (own_rg_mem hb)) _ (own_rg_mem hc)) _ (own_rg_mem hd)) _ (own_rg_mem he)
theorem own_A_ok {R : Nat} (h : own_AA R = true) {a b c d e : Nat} (ha : a < 5) (hb : b < 5) (hc : c < 5) (hd : d < 5) (he : e < 5) (na : a ≠ 0) (nb : b ≠ 1) (nc : c ≠ 2) (nd : d ≠ 3) (ne : e ≠ 4) : own_e1 R (own_zz R 0 a) (own_zz R 1 b) (own_zz R 2 c) (own_zz R 3 d) (own_zz R 4 e) = true :=
  List.all_eq_true.mp (List.all_eq_true.mp (List.all_eq_true.mp (List.all_eq_true.mp (List.all_eq_true.mp h _ (own_rp_mem (by decide) ha na)) _ (own_rp_mem (by decide) hb nb)) _ (own_rp_mem (by decide) hc nc)) _ (own_rp_mem (by decide) hd nd)) _ (own_rp_mem (by decide) he ne)
def own_t (p0 p1 : Int32) (pr : Nat) : Int → Int32 := fun z => match z.toNat - 2147483648 with | 0 => p0 | 1 => p1 | _ => Int32.ofInt (.ofNat pr)
theorem own_ok {m : Nat} (h : m < 1000) : okI (.ofNat m) = true := okN (by omega)
theorem own_ex {k : Nat} {v : Int32} (hk : k < 1000) (h0 : 0 ≤ v.toInt) (h1 : v.toInt < k) : ∃ m, m < k ∧ v.toInt = m ∧ ∀ τ : Int → Int32, v = upI τ (.ofNat m) := by
  refine ⟨v.toInt.toNat, by omega, by omega, fun τ => Int32.toInt_inj.mp ?_⟩
  rw [upI_int (own_ok (by omega))]
  simp only [Int.ofNat_eq_natCast]
  omega
theorem own_x6 (p : Int32) : ∃ m, m < 5 ∧ ∀ τ : Int → Int32, (p &&& (2147483647 : Int32)) % (5 : Int32) = upI τ (.ofNat m) := by
  have q : (p &&& (2147483647 : Int32)).toInt = p.toInt % 2147483648 := c_mask p 2147483647 31 (by decide) (by decide)
  have r := x_irem (a := p &&& 2147483647) (b := 5) rfl (by decide : (5 : Int32).toInt = 5) (by omega)
  obtain ⟨m, h1, -, h2⟩ := own_ex (k := 5) (v := (p &&& (2147483647 : Int32)) % (5 : Int32)) (by decide) (by omega) (by omega)
  exact ⟨m, h1, h2⟩
/-- pick: d below v stays, else d + 1 -/
def own_pk (d v : Int32) : Int32 := if d < v then d else d + 1
theorem own_pk_x (d v : Int32) (i : Nat) (hv : v.toInt = i) (hi : i < 5) (h0 : 0 ≤ d.toInt) (h1 : d.toInt < 4) : ∃ m, m < 5 ∧ m ≠ i ∧ ∀ τ : Int → Int32, own_pk d v = upI τ (.ofNat m) := by
  unfold own_pk
  split
  · next h =>
    have h := (i_lt rfl hv).mp h
    obtain ⟨m, a, b, c⟩ := own_ex (k := 5) (v := d) (by decide) h0 (by omega)
    exact ⟨m, a, by omega, c⟩
  · next h =>
    have h := (i_ge rfl hv).mp h
    have e := x_iadd (a := d) (b := 1) rfl (by decide : (1 : Int32).toInt = 1) (by omega)
    obtain ⟨m, a, b, c⟩ := own_ex (k := 5) (v := d + 1) (by decide) (by omega) (by omega)
    exact ⟨m, a, by omega, c⟩
theorem own_and3 (p : Int32) : 0 ≤ (p &&& (3 : Int32)).toInt ∧ (p &&& (3 : Int32)).toInt < 4 := by
  have q : (p &&& (3 : Int32)).toInt = p.toInt % 4 := c_mask p 3 2 (by decide) (by decide)
  omega
theorem own_cu {n0 : Nat} {p0 p1 : Int32} {pr R i q : Nat} (hq : q < 5) (h : R = i → pr = q) : upV n0 (own_t p0 p1 pr) (own_c R i q) = upV n0 (own_t p0 p1 pr) (own_i q) := by
  unfold own_c
  cases hb : Nat.beq R i <;> simp only [cond_true, cond_false]
  have e := h (Nat.eq_of_beq_eq_true hb)
  subst e
  have e2 : upI (own_t p0 p1 pr) (.ofNat (2147483648 + 2)) = upI (own_t p0 p1 pr) (.ofNat pr) := (upI_ok (own_ok (by omega))).symm
  simp only [own_k, own_i, upV, e2]

theorem own_zz2 (R i a : Nat) : own_zz R i (own_zz R i a) = own_zz R i a := by
  unfold own_zz
  cases Nat.beq R i <;> rfl
theorem own_ckx {R i a : Nat} (h : own_e1.own_ck R i a = true) : (.inl (.ofNat a) : OwnI.MV) = own_c R i (own_zz R i a) ∧ own_zz R i a < 5 := by
  unfold own_e1.own_ck at h
  unfold own_c own_zz
  cases hb : Nat.beq R i <;> simp only [hb, cond_true, cond_false] at h ⊢
  · exact ⟨rfl, by have := Nat.le_of_ble_eq_true h; omega⟩
  · have := Nat.eq_of_beq_eq_true h
    subst this
    exact ⟨rfl, by decide⟩

set_option maxRecDepth 65536
set_option maxHeartbeats 40000000
theorem fa0000 : own_A3 0 0 0 0 = true := by decide +kernel
theorem fa0001 : own_A3 0 0 0 1 = true := by decide +kernel
theorem fa0003 : own_A3 0 0 0 3 = true := by decide +kernel
theorem fa0004 : own_A3 0 0 0 4 = true := by decide +kernel
theorem fa0020 : own_A3 0 0 2 0 = true := by decide +kernel
theorem fa0021 : own_A3 0 0 2 1 = true := by decide +kernel
theorem fa0023 : own_A3 0 0 2 3 = true := by decide +kernel
theorem fa0024 : own_A3 0 0 2 4 = true := by decide +kernel
theorem fa0030 : own_A3 0 0 3 0 = true := by decide +kernel
theorem fa0031 : own_A3 0 0 3 1 = true := by decide +kernel
theorem fa0033 : own_A3 0 0 3 3 = true := by decide +kernel
theorem fa0034 : own_A3 0 0 3 4 = true := by decide +kernel
theorem fa0040 : own_A3 0 0 4 0 = true := by decide +kernel
theorem fa0041 : own_A3 0 0 4 1 = true := by decide +kernel
theorem fa0043 : own_A3 0 0 4 3 = true := by decide +kernel
theorem fa0044 : own_A3 0 0 4 4 = true := by decide +kernel
theorem fb00000 : own_B4 0 0 0 0 0 = true := by decide +kernel
theorem fb00001 : own_B4 0 0 0 0 1 = true := by decide +kernel
theorem fb00002 : own_B4 0 0 0 0 2 = true := by decide +kernel
theorem fb00003 : own_B4 0 0 0 0 3 = true := by decide +kernel
theorem fb00004 : own_B4 0 0 0 0 4 = true := by decide +kernel
theorem fb00010 : own_B4 0 0 0 1 0 = true := by decide +kernel
theorem fb00011 : own_B4 0 0 0 1 1 = true := by decide +kernel
theorem fb00012 : own_B4 0 0 0 1 2 = true := by decide +kernel
theorem fb00013 : own_B4 0 0 0 1 3 = true := by decide +kernel
theorem fb00014 : own_B4 0 0 0 1 4 = true := by decide +kernel
theorem fb00020 : own_B4 0 0 0 2 0 = true := by decide +kernel
theorem fb00021 : own_B4 0 0 0 2 1 = true := by decide +kernel
theorem fb00022 : own_B4 0 0 0 2 2 = true := by decide +kernel
theorem fb00023 : own_B4 0 0 0 2 3 = true := by decide +kernel
theorem fb00024 : own_B4 0 0 0 2 4 = true := by decide +kernel
theorem fb00030 : own_B4 0 0 0 3 0 = true := by decide +kernel
theorem fb00031 : own_B4 0 0 0 3 1 = true := by decide +kernel
theorem fb00032 : own_B4 0 0 0 3 2 = true := by decide +kernel
theorem fb00033 : own_B4 0 0 0 3 3 = true := by decide +kernel
theorem fb00034 : own_B4 0 0 0 3 4 = true := by decide +kernel
theorem fb00040 : own_B4 0 0 0 4 0 = true := by decide +kernel
theorem fb00041 : own_B4 0 0 0 4 1 = true := by decide +kernel
theorem fb00042 : own_B4 0 0 0 4 2 = true := by decide +kernel
theorem fb00043 : own_B4 0 0 0 4 3 = true := by decide +kernel
theorem fb00044 : own_B4 0 0 0 4 4 = true := by decide +kernel
theorem fb00100 : own_B4 0 0 1 0 0 = true := by decide +kernel
theorem fb00101 : own_B4 0 0 1 0 1 = true := by decide +kernel
theorem fb00102 : own_B4 0 0 1 0 2 = true := by decide +kernel
theorem fb00103 : own_B4 0 0 1 0 3 = true := by decide +kernel
theorem fb00104 : own_B4 0 0 1 0 4 = true := by decide +kernel
theorem fb00110 : own_B4 0 0 1 1 0 = true := by decide +kernel
theorem fb00111 : own_B4 0 0 1 1 1 = true := by decide +kernel
theorem fb00112 : own_B4 0 0 1 1 2 = true := by decide +kernel
theorem fb00113 : own_B4 0 0 1 1 3 = true := by decide +kernel
theorem fb00114 : own_B4 0 0 1 1 4 = true := by decide +kernel
theorem fb00120 : own_B4 0 0 1 2 0 = true := by decide +kernel
theorem fb00121 : own_B4 0 0 1 2 1 = true := by decide +kernel
theorem fb00122 : own_B4 0 0 1 2 2 = true := by decide +kernel
theorem fb00123 : own_B4 0 0 1 2 3 = true := by decide +kernel
theorem fb00124 : own_B4 0 0 1 2 4 = true := by decide +kernel
theorem fb00130 : own_B4 0 0 1 3 0 = true := by decide +kernel
theorem fb00131 : own_B4 0 0 1 3 1 = true := by decide +kernel
theorem fb00132 : own_B4 0 0 1 3 2 = true := by decide +kernel
theorem fb00133 : own_B4 0 0 1 3 3 = true := by decide +kernel
theorem fb00134 : own_B4 0 0 1 3 4 = true := by decide +kernel
theorem fb00140 : own_B4 0 0 1 4 0 = true := by decide +kernel
theorem fb00141 : own_B4 0 0 1 4 1 = true := by decide +kernel
theorem fb00142 : own_B4 0 0 1 4 2 = true := by decide +kernel
theorem fb00143 : own_B4 0 0 1 4 3 = true := by decide +kernel
theorem fb00144 : own_B4 0 0 1 4 4 = true := by decide +kernel
theorem fb00200 : own_B4 0 0 2 0 0 = true := by decide +kernel
theorem fb00201 : own_B4 0 0 2 0 1 = true := by decide +kernel
theorem fb00202 : own_B4 0 0 2 0 2 = true := by decide +kernel
theorem fb00203 : own_B4 0 0 2 0 3 = true := by decide +kernel
theorem fb00204 : own_B4 0 0 2 0 4 = true := by decide +kernel
theorem fb00210 : own_B4 0 0 2 1 0 = true := by decide +kernel
theorem fb00211 : own_B4 0 0 2 1 1 = true := by decide +kernel
theorem fb00212 : own_B4 0 0 2 1 2 = true := by decide +kernel
theorem fb00213 : own_B4 0 0 2 1 3 = true := by decide +kernel
theorem fb00214 : own_B4 0 0 2 1 4 = true := by decide +kernel
theorem fb00220 : own_B4 0 0 2 2 0 = true := by decide +kernel
theorem fb00221 : own_B4 0 0 2 2 1 = true := by decide +kernel
theorem fb00222 : own_B4 0 0 2 2 2 = true := by decide +kernel
theorem fb00223 : own_B4 0 0 2 2 3 = true := by decide +kernel
theorem fb00224 : own_B4 0 0 2 2 4 = true := by decide +kernel
theorem fb00230 : own_B4 0 0 2 3 0 = true := by decide +kernel
theorem fb00231 : own_B4 0 0 2 3 1 = true := by decide +kernel
theorem fb00232 : own_B4 0 0 2 3 2 = true := by decide +kernel
theorem fb00233 : own_B4 0 0 2 3 3 = true := by decide +kernel
theorem fb00234 : own_B4 0 0 2 3 4 = true := by decide +kernel
theorem fb00240 : own_B4 0 0 2 4 0 = true := by decide +kernel
theorem fb00241 : own_B4 0 0 2 4 1 = true := by decide +kernel
theorem fb00242 : own_B4 0 0 2 4 2 = true := by decide +kernel
theorem fb00243 : own_B4 0 0 2 4 3 = true := by decide +kernel
theorem fb00244 : own_B4 0 0 2 4 4 = true := by decide +kernel
theorem fb00300 : own_B4 0 0 3 0 0 = true := by decide +kernel
theorem fb00301 : own_B4 0 0 3 0 1 = true := by decide +kernel
theorem fb00302 : own_B4 0 0 3 0 2 = true := by decide +kernel
theorem fb00303 : own_B4 0 0 3 0 3 = true := by decide +kernel
theorem fb00304 : own_B4 0 0 3 0 4 = true := by decide +kernel
theorem fb00310 : own_B4 0 0 3 1 0 = true := by decide +kernel
theorem fb00311 : own_B4 0 0 3 1 1 = true := by decide +kernel
theorem fb00312 : own_B4 0 0 3 1 2 = true := by decide +kernel
theorem fb00313 : own_B4 0 0 3 1 3 = true := by decide +kernel
theorem fb00314 : own_B4 0 0 3 1 4 = true := by decide +kernel
theorem fb00320 : own_B4 0 0 3 2 0 = true := by decide +kernel
theorem fb00321 : own_B4 0 0 3 2 1 = true := by decide +kernel
theorem fb00322 : own_B4 0 0 3 2 2 = true := by decide +kernel
theorem fb00323 : own_B4 0 0 3 2 3 = true := by decide +kernel
theorem fb00324 : own_B4 0 0 3 2 4 = true := by decide +kernel
theorem fb00330 : own_B4 0 0 3 3 0 = true := by decide +kernel
theorem fb00331 : own_B4 0 0 3 3 1 = true := by decide +kernel
theorem fb00332 : own_B4 0 0 3 3 2 = true := by decide +kernel
theorem fb00333 : own_B4 0 0 3 3 3 = true := by decide +kernel
theorem fb00334 : own_B4 0 0 3 3 4 = true := by decide +kernel
theorem fb00340 : own_B4 0 0 3 4 0 = true := by decide +kernel
theorem fb00341 : own_B4 0 0 3 4 1 = true := by decide +kernel
theorem fb00342 : own_B4 0 0 3 4 2 = true := by decide +kernel
theorem fb00343 : own_B4 0 0 3 4 3 = true := by decide +kernel
theorem fb00344 : own_B4 0 0 3 4 4 = true := by decide +kernel
theorem fb00400 : own_B4 0 0 4 0 0 = true := by decide +kernel
theorem fb00401 : own_B4 0 0 4 0 1 = true := by decide +kernel
theorem fb00402 : own_B4 0 0 4 0 2 = true := by decide +kernel
theorem fb00403 : own_B4 0 0 4 0 3 = true := by decide +kernel
theorem fb00404 : own_B4 0 0 4 0 4 = true := by decide +kernel
theorem fb00410 : own_B4 0 0 4 1 0 = true := by decide +kernel
theorem fb00411 : own_B4 0 0 4 1 1 = true := by decide +kernel
theorem fb00412 : own_B4 0 0 4 1 2 = true := by decide +kernel
theorem fb00413 : own_B4 0 0 4 1 3 = true := by decide +kernel
theorem fb00414 : own_B4 0 0 4 1 4 = true := by decide +kernel
theorem fb00420 : own_B4 0 0 4 2 0 = true := by decide +kernel
theorem fb00421 : own_B4 0 0 4 2 1 = true := by decide +kernel
theorem fb00422 : own_B4 0 0 4 2 2 = true := by decide +kernel
theorem fb00423 : own_B4 0 0 4 2 3 = true := by decide +kernel
theorem fb00424 : own_B4 0 0 4 2 4 = true := by decide +kernel
theorem fb00430 : own_B4 0 0 4 3 0 = true := by decide +kernel
theorem fb00431 : own_B4 0 0 4 3 1 = true := by decide +kernel
theorem fb00432 : own_B4 0 0 4 3 2 = true := by decide +kernel
theorem fb00433 : own_B4 0 0 4 3 3 = true := by decide +kernel
theorem fb00434 : own_B4 0 0 4 3 4 = true := by decide +kernel
theorem fb00440 : own_B4 0 0 4 4 0 = true := by decide +kernel
theorem fb00441 : own_B4 0 0 4 4 1 = true := by decide +kernel
theorem fb00442 : own_B4 0 0 4 4 2 = true := by decide +kernel
theorem fb00443 : own_B4 0 0 4 4 3 = true := by decide +kernel
theorem fb00444 : own_B4 0 0 4 4 4 = true := by decide +kernel
theorem own_fa0 : own_AA 0 = true := by
  show ([0].all fun a => [0, 2, 3, 4].all fun b => [0, 1, 3, 4].all fun c => own_A3 0 a b c) = true
  simp only [List.all_cons, List.all_nil, Bool.and_true, Bool.and_self, fa0000, fa0001, fa0003, fa0004, fa0020, fa0021, fa0023, fa0024, fa0030, fa0031, fa0033, fa0034, fa0040, fa0041, fa0043, fa0044]
theorem own_fb0 : own_BB 0 = true := by
  show ([0].all fun a => [0, 1, 2, 3, 4].all fun b => [0, 1, 2, 3, 4].all fun c => [0, 1, 2, 3, 4].all fun d => own_B4 0 a b c d) = true
  simp only [List.all_cons, List.all_nil, Bool.and_true, Bool.and_self, fb00000, fb00001, fb00002, fb00003, fb00004, fb00010, fb00011, fb00012, fb00013, fb00014, fb00020, fb00021, fb00022, fb00023, fb00024, fb00030, fb00031, fb00032, fb00033, fb00034, fb00040, fb00041, fb00042, fb00043, fb00044, fb00100, fb00101, fb00102, fb00103, fb00104, fb00110, fb00111, fb00112, fb00113, fb00114, fb00120, fb00121, fb00122, fb00123, fb00124, fb00130, fb00131, fb00132, fb00133, fb00134, fb00140, fb00141, fb00142, fb00143, fb00144, fb00200, fb00201, fb00202, fb00203, fb00204, fb00210, fb00211, fb00212, fb00213, fb00214, fb00220, fb00221, fb00222, fb00223, fb00224, fb00230, fb00231, fb00232, fb00233, fb00234, fb00240, fb00241, fb00242, fb00243, fb00244, fb00300, fb00301, fb00302, fb00303, fb00304, fb00310, fb00311, fb00312, fb00313, fb00314, fb00320, fb00321, fb00322, fb00323, fb00324, fb00330, fb00331, fb00332, fb00333, fb00334, fb00340, fb00341, fb00342, fb00343, fb00344, fb00400, fb00401, fb00402, fb00403, fb00404, fb00410, fb00411, fb00412, fb00413, fb00414, fb00420, fb00421, fb00422, fb00423, fb00424, fb00430, fb00431, fb00432, fb00433, fb00434, fb00440, fb00441, fb00442, fb00443, fb00444]
theorem fa1100 : own_A3 1 1 0 0 = true := by decide +kernel
theorem fa1101 : own_A3 1 1 0 1 = true := by decide +kernel
theorem fa1103 : own_A3 1 1 0 3 = true := by decide +kernel
theorem fa1104 : own_A3 1 1 0 4 = true := by decide +kernel
theorem fa1200 : own_A3 1 2 0 0 = true := by decide +kernel
theorem fa1201 : own_A3 1 2 0 1 = true := by decide +kernel
theorem fa1203 : own_A3 1 2 0 3 = true := by decide +kernel
theorem fa1204 : own_A3 1 2 0 4 = true := by decide +kernel
theorem fa1300 : own_A3 1 3 0 0 = true := by decide +kernel
theorem fa1301 : own_A3 1 3 0 1 = true := by decide +kernel
theorem fa1303 : own_A3 1 3 0 3 = true := by decide +kernel
theorem fa1304 : own_A3 1 3 0 4 = true := by decide +kernel
theorem fa1400 : own_A3 1 4 0 0 = true := by decide +kernel
theorem fa1401 : own_A3 1 4 0 1 = true := by decide +kernel
theorem fa1403 : own_A3 1 4 0 3 = true := by decide +kernel
theorem fa1404 : own_A3 1 4 0 4 = true := by decide +kernel
theorem fb10000 : own_B4 1 0 0 0 0 = true := by decide +kernel
theorem fb10001 : own_B4 1 0 0 0 1 = true := by decide +kernel
theorem fb10002 : own_B4 1 0 0 0 2 = true := by decide +kernel
theorem fb10003 : own_B4 1 0 0 0 3 = true := by decide +kernel
theorem fb10004 : own_B4 1 0 0 0 4 = true := by decide +kernel
theorem fb10010 : own_B4 1 0 0 1 0 = true := by decide +kernel
theorem fb10011 : own_B4 1 0 0 1 1 = true := by decide +kernel
theorem fb10012 : own_B4 1 0 0 1 2 = true := by decide +kernel
theorem fb10013 : own_B4 1 0 0 1 3 = true := by decide +kernel
theorem fb10014 : own_B4 1 0 0 1 4 = true := by decide +kernel
theorem fb10020 : own_B4 1 0 0 2 0 = true := by decide +kernel
theorem fb10021 : own_B4 1 0 0 2 1 = true := by decide +kernel
theorem fb10022 : own_B4 1 0 0 2 2 = true := by decide +kernel
theorem fb10023 : own_B4 1 0 0 2 3 = true := by decide +kernel
theorem fb10024 : own_B4 1 0 0 2 4 = true := by decide +kernel
theorem fb10030 : own_B4 1 0 0 3 0 = true := by decide +kernel
theorem fb10031 : own_B4 1 0 0 3 1 = true := by decide +kernel
theorem fb10032 : own_B4 1 0 0 3 2 = true := by decide +kernel
theorem fb10033 : own_B4 1 0 0 3 3 = true := by decide +kernel
theorem fb10034 : own_B4 1 0 0 3 4 = true := by decide +kernel
theorem fb10040 : own_B4 1 0 0 4 0 = true := by decide +kernel
theorem fb10041 : own_B4 1 0 0 4 1 = true := by decide +kernel
theorem fb10042 : own_B4 1 0 0 4 2 = true := by decide +kernel
theorem fb10043 : own_B4 1 0 0 4 3 = true := by decide +kernel
theorem fb10044 : own_B4 1 0 0 4 4 = true := by decide +kernel
theorem fb11000 : own_B4 1 1 0 0 0 = true := by decide +kernel
theorem fb11001 : own_B4 1 1 0 0 1 = true := by decide +kernel
theorem fb11002 : own_B4 1 1 0 0 2 = true := by decide +kernel
theorem fb11003 : own_B4 1 1 0 0 3 = true := by decide +kernel
theorem fb11004 : own_B4 1 1 0 0 4 = true := by decide +kernel
theorem fb11010 : own_B4 1 1 0 1 0 = true := by decide +kernel
theorem fb11011 : own_B4 1 1 0 1 1 = true := by decide +kernel
theorem fb11012 : own_B4 1 1 0 1 2 = true := by decide +kernel
theorem fb11013 : own_B4 1 1 0 1 3 = true := by decide +kernel
theorem fb11014 : own_B4 1 1 0 1 4 = true := by decide +kernel
theorem fb11020 : own_B4 1 1 0 2 0 = true := by decide +kernel
theorem fb11021 : own_B4 1 1 0 2 1 = true := by decide +kernel
theorem fb11022 : own_B4 1 1 0 2 2 = true := by decide +kernel
theorem fb11023 : own_B4 1 1 0 2 3 = true := by decide +kernel
theorem fb11024 : own_B4 1 1 0 2 4 = true := by decide +kernel
theorem fb11030 : own_B4 1 1 0 3 0 = true := by decide +kernel
theorem fb11031 : own_B4 1 1 0 3 1 = true := by decide +kernel
theorem fb11032 : own_B4 1 1 0 3 2 = true := by decide +kernel
theorem fb11033 : own_B4 1 1 0 3 3 = true := by decide +kernel
theorem fb11034 : own_B4 1 1 0 3 4 = true := by decide +kernel
theorem fb11040 : own_B4 1 1 0 4 0 = true := by decide +kernel
theorem fb11041 : own_B4 1 1 0 4 1 = true := by decide +kernel
theorem fb11042 : own_B4 1 1 0 4 2 = true := by decide +kernel
theorem fb11043 : own_B4 1 1 0 4 3 = true := by decide +kernel
theorem fb11044 : own_B4 1 1 0 4 4 = true := by decide +kernel
theorem fb12000 : own_B4 1 2 0 0 0 = true := by decide +kernel
theorem fb12001 : own_B4 1 2 0 0 1 = true := by decide +kernel
theorem fb12002 : own_B4 1 2 0 0 2 = true := by decide +kernel
theorem fb12003 : own_B4 1 2 0 0 3 = true := by decide +kernel
theorem fb12004 : own_B4 1 2 0 0 4 = true := by decide +kernel
theorem fb12010 : own_B4 1 2 0 1 0 = true := by decide +kernel
theorem fb12011 : own_B4 1 2 0 1 1 = true := by decide +kernel
theorem fb12012 : own_B4 1 2 0 1 2 = true := by decide +kernel
theorem fb12013 : own_B4 1 2 0 1 3 = true := by decide +kernel
theorem fb12014 : own_B4 1 2 0 1 4 = true := by decide +kernel
theorem fb12020 : own_B4 1 2 0 2 0 = true := by decide +kernel
theorem fb12021 : own_B4 1 2 0 2 1 = true := by decide +kernel
theorem fb12022 : own_B4 1 2 0 2 2 = true := by decide +kernel
theorem fb12023 : own_B4 1 2 0 2 3 = true := by decide +kernel
theorem fb12024 : own_B4 1 2 0 2 4 = true := by decide +kernel
theorem fb12030 : own_B4 1 2 0 3 0 = true := by decide +kernel
theorem fb12031 : own_B4 1 2 0 3 1 = true := by decide +kernel
theorem fb12032 : own_B4 1 2 0 3 2 = true := by decide +kernel
theorem fb12033 : own_B4 1 2 0 3 3 = true := by decide +kernel
theorem fb12034 : own_B4 1 2 0 3 4 = true := by decide +kernel
theorem fb12040 : own_B4 1 2 0 4 0 = true := by decide +kernel
theorem fb12041 : own_B4 1 2 0 4 1 = true := by decide +kernel
theorem fb12042 : own_B4 1 2 0 4 2 = true := by decide +kernel
theorem fb12043 : own_B4 1 2 0 4 3 = true := by decide +kernel
theorem fb12044 : own_B4 1 2 0 4 4 = true := by decide +kernel
theorem fb13000 : own_B4 1 3 0 0 0 = true := by decide +kernel
theorem fb13001 : own_B4 1 3 0 0 1 = true := by decide +kernel
theorem fb13002 : own_B4 1 3 0 0 2 = true := by decide +kernel
theorem fb13003 : own_B4 1 3 0 0 3 = true := by decide +kernel
theorem fb13004 : own_B4 1 3 0 0 4 = true := by decide +kernel
theorem fb13010 : own_B4 1 3 0 1 0 = true := by decide +kernel
theorem fb13011 : own_B4 1 3 0 1 1 = true := by decide +kernel
theorem fb13012 : own_B4 1 3 0 1 2 = true := by decide +kernel
theorem fb13013 : own_B4 1 3 0 1 3 = true := by decide +kernel
theorem fb13014 : own_B4 1 3 0 1 4 = true := by decide +kernel
theorem fb13020 : own_B4 1 3 0 2 0 = true := by decide +kernel
theorem fb13021 : own_B4 1 3 0 2 1 = true := by decide +kernel
theorem fb13022 : own_B4 1 3 0 2 2 = true := by decide +kernel
theorem fb13023 : own_B4 1 3 0 2 3 = true := by decide +kernel
theorem fb13024 : own_B4 1 3 0 2 4 = true := by decide +kernel
theorem fb13030 : own_B4 1 3 0 3 0 = true := by decide +kernel
theorem fb13031 : own_B4 1 3 0 3 1 = true := by decide +kernel
theorem fb13032 : own_B4 1 3 0 3 2 = true := by decide +kernel
theorem fb13033 : own_B4 1 3 0 3 3 = true := by decide +kernel
theorem fb13034 : own_B4 1 3 0 3 4 = true := by decide +kernel
theorem fb13040 : own_B4 1 3 0 4 0 = true := by decide +kernel
theorem fb13041 : own_B4 1 3 0 4 1 = true := by decide +kernel
theorem fb13042 : own_B4 1 3 0 4 2 = true := by decide +kernel
theorem fb13043 : own_B4 1 3 0 4 3 = true := by decide +kernel
theorem fb13044 : own_B4 1 3 0 4 4 = true := by decide +kernel
theorem fb14000 : own_B4 1 4 0 0 0 = true := by decide +kernel
theorem fb14001 : own_B4 1 4 0 0 1 = true := by decide +kernel
theorem fb14002 : own_B4 1 4 0 0 2 = true := by decide +kernel
theorem fb14003 : own_B4 1 4 0 0 3 = true := by decide +kernel
theorem fb14004 : own_B4 1 4 0 0 4 = true := by decide +kernel
theorem fb14010 : own_B4 1 4 0 1 0 = true := by decide +kernel
theorem fb14011 : own_B4 1 4 0 1 1 = true := by decide +kernel
theorem fb14012 : own_B4 1 4 0 1 2 = true := by decide +kernel
theorem fb14013 : own_B4 1 4 0 1 3 = true := by decide +kernel
theorem fb14014 : own_B4 1 4 0 1 4 = true := by decide +kernel
theorem fb14020 : own_B4 1 4 0 2 0 = true := by decide +kernel
theorem fb14021 : own_B4 1 4 0 2 1 = true := by decide +kernel
theorem fb14022 : own_B4 1 4 0 2 2 = true := by decide +kernel
theorem fb14023 : own_B4 1 4 0 2 3 = true := by decide +kernel
theorem fb14024 : own_B4 1 4 0 2 4 = true := by decide +kernel
theorem fb14030 : own_B4 1 4 0 3 0 = true := by decide +kernel
theorem fb14031 : own_B4 1 4 0 3 1 = true := by decide +kernel
theorem fb14032 : own_B4 1 4 0 3 2 = true := by decide +kernel
theorem fb14033 : own_B4 1 4 0 3 3 = true := by decide +kernel
theorem fb14034 : own_B4 1 4 0 3 4 = true := by decide +kernel
theorem fb14040 : own_B4 1 4 0 4 0 = true := by decide +kernel
theorem fb14041 : own_B4 1 4 0 4 1 = true := by decide +kernel
theorem fb14042 : own_B4 1 4 0 4 2 = true := by decide +kernel
theorem fb14043 : own_B4 1 4 0 4 3 = true := by decide +kernel
theorem fb14044 : own_B4 1 4 0 4 4 = true := by decide +kernel
theorem own_fa1 : own_AA 1 = true := by
  show ([1, 2, 3, 4].all fun a => [0].all fun b => [0, 1, 3, 4].all fun c => own_A3 1 a b c) = true
  simp only [List.all_cons, List.all_nil, Bool.and_true, Bool.and_self, fa1100, fa1101, fa1103, fa1104, fa1200, fa1201, fa1203, fa1204, fa1300, fa1301, fa1303, fa1304, fa1400, fa1401, fa1403, fa1404]
theorem own_fb1 : own_BB 1 = true := by
  show ([0, 1, 2, 3, 4].all fun a => [0].all fun b => [0, 1, 2, 3, 4].all fun c => [0, 1, 2, 3, 4].all fun d => own_B4 1 a b c d) = true
  simp only [List.all_cons, List.all_nil, Bool.and_true, Bool.and_self, fb10000, fb10001, fb10002, fb10003, fb10004, fb10010, fb10011, fb10012, fb10013, fb10014, fb10020, fb10021, fb10022, fb10023, fb10024, fb10030, fb10031, fb10032, fb10033, fb10034, fb10040, fb10041, fb10042, fb10043, fb10044, fb11000, fb11001, fb11002, fb11003, fb11004, fb11010, fb11011, fb11012, fb11013, fb11014, fb11020, fb11021, fb11022, fb11023, fb11024, fb11030, fb11031, fb11032, fb11033, fb11034, fb11040, fb11041, fb11042, fb11043, fb11044, fb12000, fb12001, fb12002, fb12003, fb12004, fb12010, fb12011, fb12012, fb12013, fb12014, fb12020, fb12021, fb12022, fb12023, fb12024, fb12030, fb12031, fb12032, fb12033, fb12034, fb12040, fb12041, fb12042, fb12043, fb12044, fb13000, fb13001, fb13002, fb13003, fb13004, fb13010, fb13011, fb13012, fb13013, fb13014, fb13020, fb13021, fb13022, fb13023, fb13024, fb13030, fb13031, fb13032, fb13033, fb13034, fb13040, fb13041, fb13042, fb13043, fb13044, fb14000, fb14001, fb14002, fb14003, fb14004, fb14010, fb14011, fb14012, fb14013, fb14014, fb14020, fb14021, fb14022, fb14023, fb14024, fb14030, fb14031, fb14032, fb14033, fb14034, fb14040, fb14041, fb14042, fb14043, fb14044]
theorem fa2100 : own_A3 2 1 0 0 = true := by decide +kernel
theorem fa2120 : own_A3 2 1 2 0 = true := by decide +kernel
theorem fa2130 : own_A3 2 1 3 0 = true := by decide +kernel
theorem fa2140 : own_A3 2 1 4 0 = true := by decide +kernel
theorem fa2200 : own_A3 2 2 0 0 = true := by decide +kernel
theorem fa2220 : own_A3 2 2 2 0 = true := by decide +kernel
theorem fa2230 : own_A3 2 2 3 0 = true := by decide +kernel
theorem fa2240 : own_A3 2 2 4 0 = true := by decide +kernel
theorem fa2300 : own_A3 2 3 0 0 = true := by decide +kernel
theorem fa2320 : own_A3 2 3 2 0 = true := by decide +kernel
theorem fa2330 : own_A3 2 3 3 0 = true := by decide +kernel
theorem fa2340 : own_A3 2 3 4 0 = true := by decide +kernel
theorem fa2400 : own_A3 2 4 0 0 = true := by decide +kernel
theorem fa2420 : own_A3 2 4 2 0 = true := by decide +kernel
theorem fa2430 : own_A3 2 4 3 0 = true := by decide +kernel
theorem fa2440 : own_A3 2 4 4 0 = true := by decide +kernel
theorem fb20000 : own_B4 2 0 0 0 0 = true := by decide +kernel
theorem fb20001 : own_B4 2 0 0 0 1 = true := by decide +kernel
theorem fb20002 : own_B4 2 0 0 0 2 = true := by decide +kernel
theorem fb20003 : own_B4 2 0 0 0 3 = true := by decide +kernel
theorem fb20004 : own_B4 2 0 0 0 4 = true := by decide +kernel
theorem fb20100 : own_B4 2 0 1 0 0 = true := by decide +kernel
theorem fb20101 : own_B4 2 0 1 0 1 = true := by decide +kernel
theorem fb20102 : own_B4 2 0 1 0 2 = true := by decide +kernel
theorem fb20103 : own_B4 2 0 1 0 3 = true := by decide +kernel
theorem fb20104 : own_B4 2 0 1 0 4 = true := by decide +kernel
theorem fb20200 : own_B4 2 0 2 0 0 = true := by decide +kernel
theorem fb20201 : own_B4 2 0 2 0 1 = true := by decide +kernel
theorem fb20202 : own_B4 2 0 2 0 2 = true := by decide +kernel
theorem fb20203 : own_B4 2 0 2 0 3 = true := by decide +kernel
theorem fb20204 : own_B4 2 0 2 0 4 = true := by decide +kernel
theorem fb20300 : own_B4 2 0 3 0 0 = true := by decide +kernel
theorem fb20301 : own_B4 2 0 3 0 1 = true := by decide +kernel
theorem fb20302 : own_B4 2 0 3 0 2 = true := by decide +kernel
theorem fb20303 : own_B4 2 0 3 0 3 = true := by decide +kernel
theorem fb20304 : own_B4 2 0 3 0 4 = true := by decide +kernel
theorem fb20400 : own_B4 2 0 4 0 0 = true := by decide +kernel
theorem fb20401 : own_B4 2 0 4 0 1 = true := by decide +kernel
theorem fb20402 : own_B4 2 0 4 0 2 = true := by decide +kernel
theorem fb20403 : own_B4 2 0 4 0 3 = true := by decide +kernel
theorem fb20404 : own_B4 2 0 4 0 4 = true := by decide +kernel
theorem fb21000 : own_B4 2 1 0 0 0 = true := by decide +kernel
theorem fb21001 : own_B4 2 1 0 0 1 = true := by decide +kernel
theorem fb21002 : own_B4 2 1 0 0 2 = true := by decide +kernel
theorem fb21003 : own_B4 2 1 0 0 3 = true := by decide +kernel
theorem fb21004 : own_B4 2 1 0 0 4 = true := by decide +kernel
theorem fb21100 : own_B4 2 1 1 0 0 = true := by decide +kernel
theorem fb21101 : own_B4 2 1 1 0 1 = true := by decide +kernel
theorem fb21102 : own_B4 2 1 1 0 2 = true := by decide +kernel
theorem fb21103 : own_B4 2 1 1 0 3 = true := by decide +kernel
theorem fb21104 : own_B4 2 1 1 0 4 = true := by decide +kernel
theorem fb21200 : own_B4 2 1 2 0 0 = true := by decide +kernel
theorem fb21201 : own_B4 2 1 2 0 1 = true := by decide +kernel
theorem fb21202 : own_B4 2 1 2 0 2 = true := by decide +kernel
theorem fb21203 : own_B4 2 1 2 0 3 = true := by decide +kernel
theorem fb21204 : own_B4 2 1 2 0 4 = true := by decide +kernel
theorem fb21300 : own_B4 2 1 3 0 0 = true := by decide +kernel
theorem fb21301 : own_B4 2 1 3 0 1 = true := by decide +kernel
theorem fb21302 : own_B4 2 1 3 0 2 = true := by decide +kernel
theorem fb21303 : own_B4 2 1 3 0 3 = true := by decide +kernel
theorem fb21304 : own_B4 2 1 3 0 4 = true := by decide +kernel
theorem fb21400 : own_B4 2 1 4 0 0 = true := by decide +kernel
theorem fb21401 : own_B4 2 1 4 0 1 = true := by decide +kernel
theorem fb21402 : own_B4 2 1 4 0 2 = true := by decide +kernel
theorem fb21403 : own_B4 2 1 4 0 3 = true := by decide +kernel
theorem fb21404 : own_B4 2 1 4 0 4 = true := by decide +kernel
theorem fb22000 : own_B4 2 2 0 0 0 = true := by decide +kernel
theorem fb22001 : own_B4 2 2 0 0 1 = true := by decide +kernel
theorem fb22002 : own_B4 2 2 0 0 2 = true := by decide +kernel
theorem fb22003 : own_B4 2 2 0 0 3 = true := by decide +kernel
theorem fb22004 : own_B4 2 2 0 0 4 = true := by decide +kernel
theorem fb22100 : own_B4 2 2 1 0 0 = true := by decide +kernel
theorem fb22101 : own_B4 2 2 1 0 1 = true := by decide +kernel
theorem fb22102 : own_B4 2 2 1 0 2 = true := by decide +kernel
theorem fb22103 : own_B4 2 2 1 0 3 = true := by decide +kernel
theorem fb22104 : own_B4 2 2 1 0 4 = true := by decide +kernel
theorem fb22200 : own_B4 2 2 2 0 0 = true := by decide +kernel
theorem fb22201 : own_B4 2 2 2 0 1 = true := by decide +kernel
theorem fb22202 : own_B4 2 2 2 0 2 = true := by decide +kernel
theorem fb22203 : own_B4 2 2 2 0 3 = true := by decide +kernel
theorem fb22204 : own_B4 2 2 2 0 4 = true := by decide +kernel
theorem fb22300 : own_B4 2 2 3 0 0 = true := by decide +kernel
theorem fb22301 : own_B4 2 2 3 0 1 = true := by decide +kernel
theorem fb22302 : own_B4 2 2 3 0 2 = true := by decide +kernel
theorem fb22303 : own_B4 2 2 3 0 3 = true := by decide +kernel
theorem fb22304 : own_B4 2 2 3 0 4 = true := by decide +kernel
theorem fb22400 : own_B4 2 2 4 0 0 = true := by decide +kernel
theorem fb22401 : own_B4 2 2 4 0 1 = true := by decide +kernel
theorem fb22402 : own_B4 2 2 4 0 2 = true := by decide +kernel
theorem fb22403 : own_B4 2 2 4 0 3 = true := by decide +kernel
theorem fb22404 : own_B4 2 2 4 0 4 = true := by decide +kernel
theorem fb23000 : own_B4 2 3 0 0 0 = true := by decide +kernel
theorem fb23001 : own_B4 2 3 0 0 1 = true := by decide +kernel
theorem fb23002 : own_B4 2 3 0 0 2 = true := by decide +kernel
theorem fb23003 : own_B4 2 3 0 0 3 = true := by decide +kernel
theorem fb23004 : own_B4 2 3 0 0 4 = true := by decide +kernel
theorem fb23100 : own_B4 2 3 1 0 0 = true := by decide +kernel
theorem fb23101 : own_B4 2 3 1 0 1 = true := by decide +kernel
theorem fb23102 : own_B4 2 3 1 0 2 = true := by decide +kernel
theorem fb23103 : own_B4 2 3 1 0 3 = true := by decide +kernel
theorem fb23104 : own_B4 2 3 1 0 4 = true := by decide +kernel
theorem fb23200 : own_B4 2 3 2 0 0 = true := by decide +kernel
theorem fb23201 : own_B4 2 3 2 0 1 = true := by decide +kernel
theorem fb23202 : own_B4 2 3 2 0 2 = true := by decide +kernel
theorem fb23203 : own_B4 2 3 2 0 3 = true := by decide +kernel
theorem fb23204 : own_B4 2 3 2 0 4 = true := by decide +kernel
theorem fb23300 : own_B4 2 3 3 0 0 = true := by decide +kernel
theorem fb23301 : own_B4 2 3 3 0 1 = true := by decide +kernel
theorem fb23302 : own_B4 2 3 3 0 2 = true := by decide +kernel
theorem fb23303 : own_B4 2 3 3 0 3 = true := by decide +kernel
theorem fb23304 : own_B4 2 3 3 0 4 = true := by decide +kernel
theorem fb23400 : own_B4 2 3 4 0 0 = true := by decide +kernel
theorem fb23401 : own_B4 2 3 4 0 1 = true := by decide +kernel
theorem fb23402 : own_B4 2 3 4 0 2 = true := by decide +kernel
theorem fb23403 : own_B4 2 3 4 0 3 = true := by decide +kernel
theorem fb23404 : own_B4 2 3 4 0 4 = true := by decide +kernel
theorem fb24000 : own_B4 2 4 0 0 0 = true := by decide +kernel
theorem fb24001 : own_B4 2 4 0 0 1 = true := by decide +kernel
theorem fb24002 : own_B4 2 4 0 0 2 = true := by decide +kernel
theorem fb24003 : own_B4 2 4 0 0 3 = true := by decide +kernel
theorem fb24004 : own_B4 2 4 0 0 4 = true := by decide +kernel
theorem fb24100 : own_B4 2 4 1 0 0 = true := by decide +kernel
theorem fb24101 : own_B4 2 4 1 0 1 = true := by decide +kernel
theorem fb24102 : own_B4 2 4 1 0 2 = true := by decide +kernel
theorem fb24103 : own_B4 2 4 1 0 3 = true := by decide +kernel
theorem fb24104 : own_B4 2 4 1 0 4 = true := by decide +kernel
theorem fb24200 : own_B4 2 4 2 0 0 = true := by decide +kernel
theorem fb24201 : own_B4 2 4 2 0 1 = true := by decide +kernel
theorem fb24202 : own_B4 2 4 2 0 2 = true := by decide +kernel
theorem fb24203 : own_B4 2 4 2 0 3 = true := by decide +kernel
theorem fb24204 : own_B4 2 4 2 0 4 = true := by decide +kernel
theorem fb24300 : own_B4 2 4 3 0 0 = true := by decide +kernel
theorem fb24301 : own_B4 2 4 3 0 1 = true := by decide +kernel
theorem fb24302 : own_B4 2 4 3 0 2 = true := by decide +kernel
theorem fb24303 : own_B4 2 4 3 0 3 = true := by decide +kernel
theorem fb24304 : own_B4 2 4 3 0 4 = true := by decide +kernel
theorem fb24400 : own_B4 2 4 4 0 0 = true := by decide +kernel
theorem fb24401 : own_B4 2 4 4 0 1 = true := by decide +kernel
theorem fb24402 : own_B4 2 4 4 0 2 = true := by decide +kernel
theorem fb24403 : own_B4 2 4 4 0 3 = true := by decide +kernel
theorem fb24404 : own_B4 2 4 4 0 4 = true := by decide +kernel
theorem own_fa2 : own_AA 2 = true := by
  show ([1, 2, 3, 4].all fun a => [0, 2, 3, 4].all fun b => [0].all fun c => own_A3 2 a b c) = true
  simp only [List.all_cons, List.all_nil, Bool.and_true, Bool.and_self, fa2100, fa2120, fa2130, fa2140, fa2200, fa2220, fa2230, fa2240, fa2300, fa2320, fa2330, fa2340, fa2400, fa2420, fa2430, fa2440]
theorem own_fb2 : own_BB 2 = true := by
  show ([0, 1, 2, 3, 4].all fun a => [0, 1, 2, 3, 4].all fun b => [0].all fun c => [0, 1, 2, 3, 4].all fun d => own_B4 2 a b c d) = true
  simp only [List.all_cons, List.all_nil, Bool.and_true, Bool.and_self, fb20000, fb20001, fb20002, fb20003, fb20004, fb20100, fb20101, fb20102, fb20103, fb20104, fb20200, fb20201, fb20202, fb20203, fb20204, fb20300, fb20301, fb20302, fb20303, fb20304, fb20400, fb20401, fb20402, fb20403, fb20404, fb21000, fb21001, fb21002, fb21003, fb21004, fb21100, fb21101, fb21102, fb21103, fb21104, fb21200, fb21201, fb21202, fb21203, fb21204, fb21300, fb21301, fb21302, fb21303, fb21304, fb21400, fb21401, fb21402, fb21403, fb21404, fb22000, fb22001, fb22002, fb22003, fb22004, fb22100, fb22101, fb22102, fb22103, fb22104, fb22200, fb22201, fb22202, fb22203, fb22204, fb22300, fb22301, fb22302, fb22303, fb22304, fb22400, fb22401, fb22402, fb22403, fb22404, fb23000, fb23001, fb23002, fb23003, fb23004, fb23100, fb23101, fb23102, fb23103, fb23104, fb23200, fb23201, fb23202, fb23203, fb23204, fb23300, fb23301, fb23302, fb23303, fb23304, fb23400, fb23401, fb23402, fb23403, fb23404, fb24000, fb24001, fb24002, fb24003, fb24004, fb24100, fb24101, fb24102, fb24103, fb24104, fb24200, fb24201, fb24202, fb24203, fb24204, fb24300, fb24301, fb24302, fb24303, fb24304, fb24400, fb24401, fb24402, fb24403, fb24404]
theorem fa3100 : own_A3 3 1 0 0 = true := by decide +kernel
theorem fa3101 : own_A3 3 1 0 1 = true := by decide +kernel
theorem fa3103 : own_A3 3 1 0 3 = true := by decide +kernel
theorem fa3104 : own_A3 3 1 0 4 = true := by decide +kernel
theorem fa3120 : own_A3 3 1 2 0 = true := by decide +kernel
theorem fa3121 : own_A3 3 1 2 1 = true := by decide +kernel
theorem fa3123 : own_A3 3 1 2 3 = true := by decide +kernel
theorem fa3124 : own_A3 3 1 2 4 = true := by decide +kernel
theorem fa3130 : own_A3 3 1 3 0 = true := by decide +kernel
theorem fa3131 : own_A3 3 1 3 1 = true := by decide +kernel
theorem fa3133 : own_A3 3 1 3 3 = true := by decide +kernel
theorem fa3134 : own_A3 3 1 3 4 = true := by decide +kernel
theorem fa3140 : own_A3 3 1 4 0 = true := by decide +kernel
theorem fa3141 : own_A3 3 1 4 1 = true := by decide +kernel
theorem fa3143 : own_A3 3 1 4 3 = true := by decide +kernel
theorem fa3144 : own_A3 3 1 4 4 = true := by decide +kernel
theorem fa3200 : own_A3 3 2 0 0 = true := by decide +kernel
theorem fa3201 : own_A3 3 2 0 1 = true := by decide +kernel
theorem fa3203 : own_A3 3 2 0 3 = true := by decide +kernel
theorem fa3204 : own_A3 3 2 0 4 = true := by decide +kernel
theorem fa3220 : own_A3 3 2 2 0 = true := by decide +kernel
theorem fa3221 : own_A3 3 2 2 1 = true := by decide +kernel
theorem fa3223 : own_A3 3 2 2 3 = true := by decide +kernel
theorem fa3224 : own_A3 3 2 2 4 = true := by decide +kernel
theorem fa3230 : own_A3 3 2 3 0 = true := by decide +kernel
theorem fa3231 : own_A3 3 2 3 1 = true := by decide +kernel
theorem fa3233 : own_A3 3 2 3 3 = true := by decide +kernel
theorem fa3234 : own_A3 3 2 3 4 = true := by decide +kernel
theorem fa3240 : own_A3 3 2 4 0 = true := by decide +kernel
theorem fa3241 : own_A3 3 2 4 1 = true := by decide +kernel
theorem fa3243 : own_A3 3 2 4 3 = true := by decide +kernel
theorem fa3244 : own_A3 3 2 4 4 = true := by decide +kernel
theorem fa3300 : own_A3 3 3 0 0 = true := by decide +kernel
theorem fa3301 : own_A3 3 3 0 1 = true := by decide +kernel
theorem fa3303 : own_A3 3 3 0 3 = true := by decide +kernel
theorem fa3304 : own_A3 3 3 0 4 = true := by decide +kernel
theorem fa3320 : own_A3 3 3 2 0 = true := by decide +kernel
theorem fa3321 : own_A3 3 3 2 1 = true := by decide +kernel
theorem fa3323 : own_A3 3 3 2 3 = true := by decide +kernel
theorem fa3324 : own_A3 3 3 2 4 = true := by decide +kernel
theorem fa3330 : own_A3 3 3 3 0 = true := by decide +kernel
theorem fa3331 : own_A3 3 3 3 1 = true := by decide +kernel
theorem fa3333 : own_A3 3 3 3 3 = true := by decide +kernel
theorem fa3334 : own_A3 3 3 3 4 = true := by decide +kernel
theorem fa3340 : own_A3 3 3 4 0 = true := by decide +kernel
theorem fa3341 : own_A3 3 3 4 1 = true := by decide +kernel
theorem fa3343 : own_A3 3 3 4 3 = true := by decide +kernel
theorem fa3344 : own_A3 3 3 4 4 = true := by decide +kernel
theorem fa3400 : own_A3 3 4 0 0 = true := by decide +kernel
theorem fa3401 : own_A3 3 4 0 1 = true := by decide +kernel
theorem fa3403 : own_A3 3 4 0 3 = true := by decide +kernel
theorem fa3404 : own_A3 3 4 0 4 = true := by decide +kernel
theorem fa3420 : own_A3 3 4 2 0 = true := by decide +kernel
theorem fa3421 : own_A3 3 4 2 1 = true := by decide +kernel
theorem fa3423 : own_A3 3 4 2 3 = true := by decide +kernel
theorem fa3424 : own_A3 3 4 2 4 = true := by decide +kernel
theorem fa3430 : own_A3 3 4 3 0 = true := by decide +kernel
theorem fa3431 : own_A3 3 4 3 1 = true := by decide +kernel
theorem fa3433 : own_A3 3 4 3 3 = true := by decide +kernel
theorem fa3434 : own_A3 3 4 3 4 = true := by decide +kernel
theorem fa3440 : own_A3 3 4 4 0 = true := by decide +kernel
theorem fa3441 : own_A3 3 4 4 1 = true := by decide +kernel
theorem fa3443 : own_A3 3 4 4 3 = true := by decide +kernel
theorem fa3444 : own_A3 3 4 4 4 = true := by decide +kernel
theorem fb30000 : own_B4 3 0 0 0 0 = true := by decide +kernel
theorem fb30010 : own_B4 3 0 0 1 0 = true := by decide +kernel
theorem fb30020 : own_B4 3 0 0 2 0 = true := by decide +kernel
theorem fb30030 : own_B4 3 0 0 3 0 = true := by decide +kernel
theorem fb30040 : own_B4 3 0 0 4 0 = true := by decide +kernel
theorem fb30100 : own_B4 3 0 1 0 0 = true := by decide +kernel
theorem fb30110 : own_B4 3 0 1 1 0 = true := by decide +kernel
theorem fb30120 : own_B4 3 0 1 2 0 = true := by decide +kernel
theorem fb30130 : own_B4 3 0 1 3 0 = true := by decide +kernel
theorem fb30140 : own_B4 3 0 1 4 0 = true := by decide +kernel
theorem fb30200 : own_B4 3 0 2 0 0 = true := by decide +kernel
theorem fb30210 : own_B4 3 0 2 1 0 = true := by decide +kernel
theorem fb30220 : own_B4 3 0 2 2 0 = true := by decide +kernel
theorem fb30230 : own_B4 3 0 2 3 0 = true := by decide +kernel
theorem fb30240 : own_B4 3 0 2 4 0 = true := by decide +kernel
theorem fb30300 : own_B4 3 0 3 0 0 = true := by decide +kernel
theorem fb30310 : own_B4 3 0 3 1 0 = true := by decide +kernel
theorem fb30320 : own_B4 3 0 3 2 0 = true := by decide +kernel
theorem fb30330 : own_B4 3 0 3 3 0 = true := by decide +kernel
theorem fb30340 : own_B4 3 0 3 4 0 = true := by decide +kernel
theorem fb30400 : own_B4 3 0 4 0 0 = true := by decide +kernel
theorem fb30410 : own_B4 3 0 4 1 0 = true := by decide +kernel
theorem fb30420 : own_B4 3 0 4 2 0 = true := by decide +kernel
theorem fb30430 : own_B4 3 0 4 3 0 = true := by decide +kernel
theorem fb30440 : own_B4 3 0 4 4 0 = true := by decide +kernel
theorem fb31000 : own_B4 3 1 0 0 0 = true := by decide +kernel
theorem fb31010 : own_B4 3 1 0 1 0 = true := by decide +kernel
theorem fb31020 : own_B4 3 1 0 2 0 = true := by decide +kernel
theorem fb31030 : own_B4 3 1 0 3 0 = true := by decide +kernel
theorem fb31040 : own_B4 3 1 0 4 0 = true := by decide +kernel
theorem fb31100 : own_B4 3 1 1 0 0 = true := by decide +kernel
theorem fb31110 : own_B4 3 1 1 1 0 = true := by decide +kernel
theorem fb31120 : own_B4 3 1 1 2 0 = true := by decide +kernel
theorem fb31130 : own_B4 3 1 1 3 0 = true := by decide +kernel
theorem fb31140 : own_B4 3 1 1 4 0 = true := by decide +kernel
theorem fb31200 : own_B4 3 1 2 0 0 = true := by decide +kernel
theorem fb31210 : own_B4 3 1 2 1 0 = true := by decide +kernel
theorem fb31220 : own_B4 3 1 2 2 0 = true := by decide +kernel
theorem fb31230 : own_B4 3 1 2 3 0 = true := by decide +kernel
theorem fb31240 : own_B4 3 1 2 4 0 = true := by decide +kernel
theorem fb31300 : own_B4 3 1 3 0 0 = true := by decide +kernel
theorem fb31310 : own_B4 3 1 3 1 0 = true := by decide +kernel
theorem fb31320 : own_B4 3 1 3 2 0 = true := by decide +kernel
theorem fb31330 : own_B4 3 1 3 3 0 = true := by decide +kernel
theorem fb31340 : own_B4 3 1 3 4 0 = true := by decide +kernel
theorem fb31400 : own_B4 3 1 4 0 0 = true := by decide +kernel
theorem fb31410 : own_B4 3 1 4 1 0 = true := by decide +kernel
theorem fb31420 : own_B4 3 1 4 2 0 = true := by decide +kernel
theorem fb31430 : own_B4 3 1 4 3 0 = true := by decide +kernel
theorem fb31440 : own_B4 3 1 4 4 0 = true := by decide +kernel
theorem fb32000 : own_B4 3 2 0 0 0 = true := by decide +kernel
theorem fb32010 : own_B4 3 2 0 1 0 = true := by decide +kernel
theorem fb32020 : own_B4 3 2 0 2 0 = true := by decide +kernel
theorem fb32030 : own_B4 3 2 0 3 0 = true := by decide +kernel
theorem fb32040 : own_B4 3 2 0 4 0 = true := by decide +kernel
theorem fb32100 : own_B4 3 2 1 0 0 = true := by decide +kernel
theorem fb32110 : own_B4 3 2 1 1 0 = true := by decide +kernel
theorem fb32120 : own_B4 3 2 1 2 0 = true := by decide +kernel
theorem fb32130 : own_B4 3 2 1 3 0 = true := by decide +kernel
theorem fb32140 : own_B4 3 2 1 4 0 = true := by decide +kernel
theorem fb32200 : own_B4 3 2 2 0 0 = true := by decide +kernel
theorem fb32210 : own_B4 3 2 2 1 0 = true := by decide +kernel
theorem fb32220 : own_B4 3 2 2 2 0 = true := by decide +kernel
theorem fb32230 : own_B4 3 2 2 3 0 = true := by decide +kernel
theorem fb32240 : own_B4 3 2 2 4 0 = true := by decide +kernel
theorem fb32300 : own_B4 3 2 3 0 0 = true := by decide +kernel
theorem fb32310 : own_B4 3 2 3 1 0 = true := by decide +kernel
theorem fb32320 : own_B4 3 2 3 2 0 = true := by decide +kernel
theorem fb32330 : own_B4 3 2 3 3 0 = true := by decide +kernel
theorem fb32340 : own_B4 3 2 3 4 0 = true := by decide +kernel
theorem fb32400 : own_B4 3 2 4 0 0 = true := by decide +kernel
theorem fb32410 : own_B4 3 2 4 1 0 = true := by decide +kernel
theorem fb32420 : own_B4 3 2 4 2 0 = true := by decide +kernel
theorem fb32430 : own_B4 3 2 4 3 0 = true := by decide +kernel
theorem fb32440 : own_B4 3 2 4 4 0 = true := by decide +kernel
theorem fb33000 : own_B4 3 3 0 0 0 = true := by decide +kernel
theorem fb33010 : own_B4 3 3 0 1 0 = true := by decide +kernel
theorem fb33020 : own_B4 3 3 0 2 0 = true := by decide +kernel
theorem fb33030 : own_B4 3 3 0 3 0 = true := by decide +kernel
theorem fb33040 : own_B4 3 3 0 4 0 = true := by decide +kernel
theorem fb33100 : own_B4 3 3 1 0 0 = true := by decide +kernel
theorem fb33110 : own_B4 3 3 1 1 0 = true := by decide +kernel
theorem fb33120 : own_B4 3 3 1 2 0 = true := by decide +kernel
theorem fb33130 : own_B4 3 3 1 3 0 = true := by decide +kernel
theorem fb33140 : own_B4 3 3 1 4 0 = true := by decide +kernel
theorem fb33200 : own_B4 3 3 2 0 0 = true := by decide +kernel
theorem fb33210 : own_B4 3 3 2 1 0 = true := by decide +kernel
theorem fb33220 : own_B4 3 3 2 2 0 = true := by decide +kernel
theorem fb33230 : own_B4 3 3 2 3 0 = true := by decide +kernel
theorem fb33240 : own_B4 3 3 2 4 0 = true := by decide +kernel
theorem fb33300 : own_B4 3 3 3 0 0 = true := by decide +kernel
theorem fb33310 : own_B4 3 3 3 1 0 = true := by decide +kernel
theorem fb33320 : own_B4 3 3 3 2 0 = true := by decide +kernel
theorem fb33330 : own_B4 3 3 3 3 0 = true := by decide +kernel
theorem fb33340 : own_B4 3 3 3 4 0 = true := by decide +kernel
theorem fb33400 : own_B4 3 3 4 0 0 = true := by decide +kernel
theorem fb33410 : own_B4 3 3 4 1 0 = true := by decide +kernel
theorem fb33420 : own_B4 3 3 4 2 0 = true := by decide +kernel
theorem fb33430 : own_B4 3 3 4 3 0 = true := by decide +kernel
theorem fb33440 : own_B4 3 3 4 4 0 = true := by decide +kernel
theorem fb34000 : own_B4 3 4 0 0 0 = true := by decide +kernel
theorem fb34010 : own_B4 3 4 0 1 0 = true := by decide +kernel
theorem fb34020 : own_B4 3 4 0 2 0 = true := by decide +kernel
theorem fb34030 : own_B4 3 4 0 3 0 = true := by decide +kernel
theorem fb34040 : own_B4 3 4 0 4 0 = true := by decide +kernel
theorem fb34100 : own_B4 3 4 1 0 0 = true := by decide +kernel
theorem fb34110 : own_B4 3 4 1 1 0 = true := by decide +kernel
theorem fb34120 : own_B4 3 4 1 2 0 = true := by decide +kernel
theorem fb34130 : own_B4 3 4 1 3 0 = true := by decide +kernel
theorem fb34140 : own_B4 3 4 1 4 0 = true := by decide +kernel
theorem fb34200 : own_B4 3 4 2 0 0 = true := by decide +kernel
theorem fb34210 : own_B4 3 4 2 1 0 = true := by decide +kernel
theorem fb34220 : own_B4 3 4 2 2 0 = true := by decide +kernel
theorem fb34230 : own_B4 3 4 2 3 0 = true := by decide +kernel
theorem fb34240 : own_B4 3 4 2 4 0 = true := by decide +kernel
theorem fb34300 : own_B4 3 4 3 0 0 = true := by decide +kernel
theorem fb34310 : own_B4 3 4 3 1 0 = true := by decide +kernel
theorem fb34320 : own_B4 3 4 3 2 0 = true := by decide +kernel
theorem fb34330 : own_B4 3 4 3 3 0 = true := by decide +kernel
theorem fb34340 : own_B4 3 4 3 4 0 = true := by decide +kernel
theorem fb34400 : own_B4 3 4 4 0 0 = true := by decide +kernel
theorem fb34410 : own_B4 3 4 4 1 0 = true := by decide +kernel
theorem fb34420 : own_B4 3 4 4 2 0 = true := by decide +kernel
theorem fb34430 : own_B4 3 4 4 3 0 = true := by decide +kernel
theorem fb34440 : own_B4 3 4 4 4 0 = true := by decide +kernel
theorem own_fa3 : own_AA 3 = true := by
  show ([1, 2, 3, 4].all fun a => [0, 2, 3, 4].all fun b => [0, 1, 3, 4].all fun c => own_A3 3 a b c) = true
  simp only [List.all_cons, List.all_nil, Bool.and_true, Bool.and_self, fa3100, fa3101, fa3103, fa3104, fa3120, fa3121, fa3123, fa3124, fa3130, fa3131, fa3133, fa3134, fa3140, fa3141, fa3143, fa3144, fa3200, fa3201, fa3203, fa3204, fa3220, fa3221, fa3223, fa3224, fa3230, fa3231, fa3233, fa3234, fa3240, fa3241, fa3243, fa3244, fa3300, fa3301, fa3303, fa3304, fa3320, fa3321, fa3323, fa3324, fa3330, fa3331, fa3333, fa3334, fa3340, fa3341, fa3343, fa3344, fa3400, fa3401, fa3403, fa3404, fa3420, fa3421, fa3423, fa3424, fa3430, fa3431, fa3433, fa3434, fa3440, fa3441, fa3443, fa3444]
theorem own_fb3 : own_BB 3 = true := by
  show ([0, 1, 2, 3, 4].all fun a => [0, 1, 2, 3, 4].all fun b => [0, 1, 2, 3, 4].all fun c => [0].all fun d => own_B4 3 a b c d) = true
  simp only [List.all_cons, List.all_nil, Bool.and_true, Bool.and_self, fb30000, fb30010, fb30020, fb30030, fb30040, fb30100, fb30110, fb30120, fb30130, fb30140, fb30200, fb30210, fb30220, fb30230, fb30240, fb30300, fb30310, fb30320, fb30330, fb30340, fb30400, fb30410, fb30420, fb30430, fb30440, fb31000, fb31010, fb31020, fb31030, fb31040, fb31100, fb31110, fb31120, fb31130, fb31140, fb31200, fb31210, fb31220, fb31230, fb31240, fb31300, fb31310, fb31320, fb31330, fb31340, fb31400, fb31410, fb31420, fb31430, fb31440, fb32000, fb32010, fb32020, fb32030, fb32040, fb32100, fb32110, fb32120, fb32130, fb32140, fb32200, fb32210, fb32220, fb32230, fb32240, fb32300, fb32310, fb32320, fb32330, fb32340, fb32400, fb32410, fb32420, fb32430, fb32440, fb33000, fb33010, fb33020, fb33030, fb33040, fb33100, fb33110, fb33120, fb33130, fb33140, fb33200, fb33210, fb33220, fb33230, fb33240, fb33300, fb33310, fb33320, fb33330, fb33340, fb33400, fb33410, fb33420, fb33430, fb33440, fb34000, fb34010, fb34020, fb34030, fb34040, fb34100, fb34110, fb34120, fb34130, fb34140, fb34200, fb34210, fb34220, fb34230, fb34240, fb34300, fb34310, fb34320, fb34330, fb34340, fb34400, fb34410, fb34420, fb34430, fb34440]
theorem fa4100 : own_A3 4 1 0 0 = true := by decide +kernel
theorem fa4101 : own_A3 4 1 0 1 = true := by decide +kernel
theorem fa4103 : own_A3 4 1 0 3 = true := by decide +kernel
theorem fa4104 : own_A3 4 1 0 4 = true := by decide +kernel
theorem fa4120 : own_A3 4 1 2 0 = true := by decide +kernel
theorem fa4121 : own_A3 4 1 2 1 = true := by decide +kernel
theorem fa4123 : own_A3 4 1 2 3 = true := by decide +kernel
theorem fa4124 : own_A3 4 1 2 4 = true := by decide +kernel
theorem fa4130 : own_A3 4 1 3 0 = true := by decide +kernel
theorem fa4131 : own_A3 4 1 3 1 = true := by decide +kernel
theorem fa4133 : own_A3 4 1 3 3 = true := by decide +kernel
theorem fa4134 : own_A3 4 1 3 4 = true := by decide +kernel
theorem fa4140 : own_A3 4 1 4 0 = true := by decide +kernel
theorem fa4141 : own_A3 4 1 4 1 = true := by decide +kernel
theorem fa4143 : own_A3 4 1 4 3 = true := by decide +kernel
theorem fa4144 : own_A3 4 1 4 4 = true := by decide +kernel
theorem fa4200 : own_A3 4 2 0 0 = true := by decide +kernel
theorem fa4201 : own_A3 4 2 0 1 = true := by decide +kernel
theorem fa4203 : own_A3 4 2 0 3 = true := by decide +kernel
theorem fa4204 : own_A3 4 2 0 4 = true := by decide +kernel
theorem fa4220 : own_A3 4 2 2 0 = true := by decide +kernel
theorem fa4221 : own_A3 4 2 2 1 = true := by decide +kernel
theorem fa4223 : own_A3 4 2 2 3 = true := by decide +kernel
theorem fa4224 : own_A3 4 2 2 4 = true := by decide +kernel
theorem fa4230 : own_A3 4 2 3 0 = true := by decide +kernel
theorem fa4231 : own_A3 4 2 3 1 = true := by decide +kernel
theorem fa4233 : own_A3 4 2 3 3 = true := by decide +kernel
theorem fa4234 : own_A3 4 2 3 4 = true := by decide +kernel
theorem fa4240 : own_A3 4 2 4 0 = true := by decide +kernel
theorem fa4241 : own_A3 4 2 4 1 = true := by decide +kernel
theorem fa4243 : own_A3 4 2 4 3 = true := by decide +kernel
theorem fa4244 : own_A3 4 2 4 4 = true := by decide +kernel
theorem fa4300 : own_A3 4 3 0 0 = true := by decide +kernel
theorem fa4301 : own_A3 4 3 0 1 = true := by decide +kernel
theorem fa4303 : own_A3 4 3 0 3 = true := by decide +kernel
theorem fa4304 : own_A3 4 3 0 4 = true := by decide +kernel
theorem fa4320 : own_A3 4 3 2 0 = true := by decide +kernel
theorem fa4321 : own_A3 4 3 2 1 = true := by decide +kernel
theorem fa4323 : own_A3 4 3 2 3 = true := by decide +kernel
theorem fa4324 : own_A3 4 3 2 4 = true := by decide +kernel
theorem fa4330 : own_A3 4 3 3 0 = true := by decide +kernel
theorem fa4331 : own_A3 4 3 3 1 = true := by decide +kernel
theorem fa4333 : own_A3 4 3 3 3 = true := by decide +kernel
theorem fa4334 : own_A3 4 3 3 4 = true := by decide +kernel
theorem fa4340 : own_A3 4 3 4 0 = true := by decide +kernel
theorem fa4341 : own_A3 4 3 4 1 = true := by decide +kernel
theorem fa4343 : own_A3 4 3 4 3 = true := by decide +kernel
theorem fa4344 : own_A3 4 3 4 4 = true := by decide +kernel
theorem fa4400 : own_A3 4 4 0 0 = true := by decide +kernel
theorem fa4401 : own_A3 4 4 0 1 = true := by decide +kernel
theorem fa4403 : own_A3 4 4 0 3 = true := by decide +kernel
theorem fa4404 : own_A3 4 4 0 4 = true := by decide +kernel
theorem fa4420 : own_A3 4 4 2 0 = true := by decide +kernel
theorem fa4421 : own_A3 4 4 2 1 = true := by decide +kernel
theorem fa4423 : own_A3 4 4 2 3 = true := by decide +kernel
theorem fa4424 : own_A3 4 4 2 4 = true := by decide +kernel
theorem fa4430 : own_A3 4 4 3 0 = true := by decide +kernel
theorem fa4431 : own_A3 4 4 3 1 = true := by decide +kernel
theorem fa4433 : own_A3 4 4 3 3 = true := by decide +kernel
theorem fa4434 : own_A3 4 4 3 4 = true := by decide +kernel
theorem fa4440 : own_A3 4 4 4 0 = true := by decide +kernel
theorem fa4441 : own_A3 4 4 4 1 = true := by decide +kernel
theorem fa4443 : own_A3 4 4 4 3 = true := by decide +kernel
theorem fa4444 : own_A3 4 4 4 4 = true := by decide +kernel
theorem fb40000 : own_B4 4 0 0 0 0 = true := by decide +kernel
theorem fb40001 : own_B4 4 0 0 0 1 = true := by decide +kernel
theorem fb40002 : own_B4 4 0 0 0 2 = true := by decide +kernel
theorem fb40003 : own_B4 4 0 0 0 3 = true := by decide +kernel
theorem fb40004 : own_B4 4 0 0 0 4 = true := by decide +kernel
theorem fb40010 : own_B4 4 0 0 1 0 = true := by decide +kernel
theorem fb40011 : own_B4 4 0 0 1 1 = true := by decide +kernel
theorem fb40012 : own_B4 4 0 0 1 2 = true := by decide +kernel
theorem fb40013 : own_B4 4 0 0 1 3 = true := by decide +kernel
theorem fb40014 : own_B4 4 0 0 1 4 = true := by decide +kernel
theorem fb40020 : own_B4 4 0 0 2 0 = true := by decide +kernel
theorem fb40021 : own_B4 4 0 0 2 1 = true := by decide +kernel
theorem fb40022 : own_B4 4 0 0 2 2 = true := by decide +kernel
theorem fb40023 : own_B4 4 0 0 2 3 = true := by decide +kernel
theorem fb40024 : own_B4 4 0 0 2 4 = true := by decide +kernel
theorem fb40030 : own_B4 4 0 0 3 0 = true := by decide +kernel
theorem fb40031 : own_B4 4 0 0 3 1 = true := by decide +kernel
theorem fb40032 : own_B4 4 0 0 3 2 = true := by decide +kernel
theorem fb40033 : own_B4 4 0 0 3 3 = true := by decide +kernel
theorem fb40034 : own_B4 4 0 0 3 4 = true := by decide +kernel
theorem fb40040 : own_B4 4 0 0 4 0 = true := by decide +kernel
theorem fb40041 : own_B4 4 0 0 4 1 = true := by decide +kernel
theorem fb40042 : own_B4 4 0 0 4 2 = true := by decide +kernel
theorem fb40043 : own_B4 4 0 0 4 3 = true := by decide +kernel
theorem fb40044 : own_B4 4 0 0 4 4 = true := by decide +kernel
theorem fb40100 : own_B4 4 0 1 0 0 = true := by decide +kernel
theorem fb40101 : own_B4 4 0 1 0 1 = true := by decide +kernel
theorem fb40102 : own_B4 4 0 1 0 2 = true := by decide +kernel
theorem fb40103 : own_B4 4 0 1 0 3 = true := by decide +kernel
theorem fb40104 : own_B4 4 0 1 0 4 = true := by decide +kernel
theorem fb40110 : own_B4 4 0 1 1 0 = true := by decide +kernel
theorem fb40111 : own_B4 4 0 1 1 1 = true := by decide +kernel
theorem fb40112 : own_B4 4 0 1 1 2 = true := by decide +kernel
theorem fb40113 : own_B4 4 0 1 1 3 = true := by decide +kernel
theorem fb40114 : own_B4 4 0 1 1 4 = true := by decide +kernel
theorem fb40120 : own_B4 4 0 1 2 0 = true := by decide +kernel
theorem fb40121 : own_B4 4 0 1 2 1 = true := by decide +kernel
theorem fb40122 : own_B4 4 0 1 2 2 = true := by decide +kernel
theorem fb40123 : own_B4 4 0 1 2 3 = true := by decide +kernel
theorem fb40124 : own_B4 4 0 1 2 4 = true := by decide +kernel
theorem fb40130 : own_B4 4 0 1 3 0 = true := by decide +kernel
theorem fb40131 : own_B4 4 0 1 3 1 = true := by decide +kernel
theorem fb40132 : own_B4 4 0 1 3 2 = true := by decide +kernel
theorem fb40133 : own_B4 4 0 1 3 3 = true := by decide +kernel
theorem fb40134 : own_B4 4 0 1 3 4 = true := by decide +kernel
theorem fb40140 : own_B4 4 0 1 4 0 = true := by decide +kernel
theorem fb40141 : own_B4 4 0 1 4 1 = true := by decide +kernel
theorem fb40142 : own_B4 4 0 1 4 2 = true := by decide +kernel
theorem fb40143 : own_B4 4 0 1 4 3 = true := by decide +kernel
theorem fb40144 : own_B4 4 0 1 4 4 = true := by decide +kernel
theorem fb40200 : own_B4 4 0 2 0 0 = true := by decide +kernel
theorem fb40201 : own_B4 4 0 2 0 1 = true := by decide +kernel
theorem fb40202 : own_B4 4 0 2 0 2 = true := by decide +kernel
theorem fb40203 : own_B4 4 0 2 0 3 = true := by decide +kernel
theorem fb40204 : own_B4 4 0 2 0 4 = true := by decide +kernel
theorem fb40210 : own_B4 4 0 2 1 0 = true := by decide +kernel
theorem fb40211 : own_B4 4 0 2 1 1 = true := by decide +kernel
theorem fb40212 : own_B4 4 0 2 1 2 = true := by decide +kernel
theorem fb40213 : own_B4 4 0 2 1 3 = true := by decide +kernel
theorem fb40214 : own_B4 4 0 2 1 4 = true := by decide +kernel
theorem fb40220 : own_B4 4 0 2 2 0 = true := by decide +kernel
theorem fb40221 : own_B4 4 0 2 2 1 = true := by decide +kernel
theorem fb40222 : own_B4 4 0 2 2 2 = true := by decide +kernel
theorem fb40223 : own_B4 4 0 2 2 3 = true := by decide +kernel
theorem fb40224 : own_B4 4 0 2 2 4 = true := by decide +kernel
theorem fb40230 : own_B4 4 0 2 3 0 = true := by decide +kernel
theorem fb40231 : own_B4 4 0 2 3 1 = true := by decide +kernel
theorem fb40232 : own_B4 4 0 2 3 2 = true := by decide +kernel
theorem fb40233 : own_B4 4 0 2 3 3 = true := by decide +kernel
theorem fb40234 : own_B4 4 0 2 3 4 = true := by decide +kernel
theorem fb40240 : own_B4 4 0 2 4 0 = true := by decide +kernel
theorem fb40241 : own_B4 4 0 2 4 1 = true := by decide +kernel
theorem fb40242 : own_B4 4 0 2 4 2 = true := by decide +kernel
theorem fb40243 : own_B4 4 0 2 4 3 = true := by decide +kernel
theorem fb40244 : own_B4 4 0 2 4 4 = true := by decide +kernel
theorem fb40300 : own_B4 4 0 3 0 0 = true := by decide +kernel
theorem fb40301 : own_B4 4 0 3 0 1 = true := by decide +kernel
theorem fb40302 : own_B4 4 0 3 0 2 = true := by decide +kernel
theorem fb40303 : own_B4 4 0 3 0 3 = true := by decide +kernel
theorem fb40304 : own_B4 4 0 3 0 4 = true := by decide +kernel
theorem fb40310 : own_B4 4 0 3 1 0 = true := by decide +kernel
theorem fb40311 : own_B4 4 0 3 1 1 = true := by decide +kernel
theorem fb40312 : own_B4 4 0 3 1 2 = true := by decide +kernel
theorem fb40313 : own_B4 4 0 3 1 3 = true := by decide +kernel
theorem fb40314 : own_B4 4 0 3 1 4 = true := by decide +kernel
theorem fb40320 : own_B4 4 0 3 2 0 = true := by decide +kernel
theorem fb40321 : own_B4 4 0 3 2 1 = true := by decide +kernel
theorem fb40322 : own_B4 4 0 3 2 2 = true := by decide +kernel
theorem fb40323 : own_B4 4 0 3 2 3 = true := by decide +kernel
theorem fb40324 : own_B4 4 0 3 2 4 = true := by decide +kernel
theorem fb40330 : own_B4 4 0 3 3 0 = true := by decide +kernel
theorem fb40331 : own_B4 4 0 3 3 1 = true := by decide +kernel
theorem fb40332 : own_B4 4 0 3 3 2 = true := by decide +kernel
theorem fb40333 : own_B4 4 0 3 3 3 = true := by decide +kernel
theorem fb40334 : own_B4 4 0 3 3 4 = true := by decide +kernel
theorem fb40340 : own_B4 4 0 3 4 0 = true := by decide +kernel
theorem fb40341 : own_B4 4 0 3 4 1 = true := by decide +kernel
theorem fb40342 : own_B4 4 0 3 4 2 = true := by decide +kernel
theorem fb40343 : own_B4 4 0 3 4 3 = true := by decide +kernel
theorem fb40344 : own_B4 4 0 3 4 4 = true := by decide +kernel
theorem fb40400 : own_B4 4 0 4 0 0 = true := by decide +kernel
theorem fb40401 : own_B4 4 0 4 0 1 = true := by decide +kernel
theorem fb40402 : own_B4 4 0 4 0 2 = true := by decide +kernel
theorem fb40403 : own_B4 4 0 4 0 3 = true := by decide +kernel
theorem fb40404 : own_B4 4 0 4 0 4 = true := by decide +kernel
theorem fb40410 : own_B4 4 0 4 1 0 = true := by decide +kernel
theorem fb40411 : own_B4 4 0 4 1 1 = true := by decide +kernel
theorem fb40412 : own_B4 4 0 4 1 2 = true := by decide +kernel
theorem fb40413 : own_B4 4 0 4 1 3 = true := by decide +kernel
theorem fb40414 : own_B4 4 0 4 1 4 = true := by decide +kernel
theorem fb40420 : own_B4 4 0 4 2 0 = true := by decide +kernel
theorem fb40421 : own_B4 4 0 4 2 1 = true := by decide +kernel
theorem fb40422 : own_B4 4 0 4 2 2 = true := by decide +kernel
theorem fb40423 : own_B4 4 0 4 2 3 = true := by decide +kernel
theorem fb40424 : own_B4 4 0 4 2 4 = true := by decide +kernel
theorem fb40430 : own_B4 4 0 4 3 0 = true := by decide +kernel
theorem fb40431 : own_B4 4 0 4 3 1 = true := by decide +kernel
theorem fb40432 : own_B4 4 0 4 3 2 = true := by decide +kernel
theorem fb40433 : own_B4 4 0 4 3 3 = true := by decide +kernel
theorem fb40434 : own_B4 4 0 4 3 4 = true := by decide +kernel
theorem fb40440 : own_B4 4 0 4 4 0 = true := by decide +kernel
theorem fb40441 : own_B4 4 0 4 4 1 = true := by decide +kernel
theorem fb40442 : own_B4 4 0 4 4 2 = true := by decide +kernel
theorem fb40443 : own_B4 4 0 4 4 3 = true := by decide +kernel
theorem fb40444 : own_B4 4 0 4 4 4 = true := by decide +kernel
theorem fb41000 : own_B4 4 1 0 0 0 = true := by decide +kernel
theorem fb41001 : own_B4 4 1 0 0 1 = true := by decide +kernel
theorem fb41002 : own_B4 4 1 0 0 2 = true := by decide +kernel
theorem fb41003 : own_B4 4 1 0 0 3 = true := by decide +kernel
theorem fb41004 : own_B4 4 1 0 0 4 = true := by decide +kernel
theorem fb41010 : own_B4 4 1 0 1 0 = true := by decide +kernel
theorem fb41011 : own_B4 4 1 0 1 1 = true := by decide +kernel
theorem fb41012 : own_B4 4 1 0 1 2 = true := by decide +kernel
theorem fb41013 : own_B4 4 1 0 1 3 = true := by decide +kernel
theorem fb41014 : own_B4 4 1 0 1 4 = true := by decide +kernel
theorem fb41020 : own_B4 4 1 0 2 0 = true := by decide +kernel
theorem fb41021 : own_B4 4 1 0 2 1 = true := by decide +kernel
theorem fb41022 : own_B4 4 1 0 2 2 = true := by decide +kernel
theorem fb41023 : own_B4 4 1 0 2 3 = true := by decide +kernel
theorem fb41024 : own_B4 4 1 0 2 4 = true := by decide +kernel
theorem fb41030 : own_B4 4 1 0 3 0 = true := by decide +kernel
theorem fb41031 : own_B4 4 1 0 3 1 = true := by decide +kernel
theorem fb41032 : own_B4 4 1 0 3 2 = true := by decide +kernel
theorem fb41033 : own_B4 4 1 0 3 3 = true := by decide +kernel
theorem fb41034 : own_B4 4 1 0 3 4 = true := by decide +kernel
theorem fb41040 : own_B4 4 1 0 4 0 = true := by decide +kernel
theorem fb41041 : own_B4 4 1 0 4 1 = true := by decide +kernel
theorem fb41042 : own_B4 4 1 0 4 2 = true := by decide +kernel
theorem fb41043 : own_B4 4 1 0 4 3 = true := by decide +kernel
theorem fb41044 : own_B4 4 1 0 4 4 = true := by decide +kernel
theorem fb41100 : own_B4 4 1 1 0 0 = true := by decide +kernel
theorem fb41101 : own_B4 4 1 1 0 1 = true := by decide +kernel
theorem fb41102 : own_B4 4 1 1 0 2 = true := by decide +kernel
theorem fb41103 : own_B4 4 1 1 0 3 = true := by decide +kernel
theorem fb41104 : own_B4 4 1 1 0 4 = true := by decide +kernel
theorem fb41110 : own_B4 4 1 1 1 0 = true := by decide +kernel
theorem fb41111 : own_B4 4 1 1 1 1 = true := by decide +kernel
theorem fb41112 : own_B4 4 1 1 1 2 = true := by decide +kernel
theorem fb41113 : own_B4 4 1 1 1 3 = true := by decide +kernel
theorem fb41114 : own_B4 4 1 1 1 4 = true := by decide +kernel
theorem fb41120 : own_B4 4 1 1 2 0 = true := by decide +kernel
theorem fb41121 : own_B4 4 1 1 2 1 = true := by decide +kernel
theorem fb41122 : own_B4 4 1 1 2 2 = true := by decide +kernel
theorem fb41123 : own_B4 4 1 1 2 3 = true := by decide +kernel
theorem fb41124 : own_B4 4 1 1 2 4 = true := by decide +kernel
theorem fb41130 : own_B4 4 1 1 3 0 = true := by decide +kernel
theorem fb41131 : own_B4 4 1 1 3 1 = true := by decide +kernel
theorem fb41132 : own_B4 4 1 1 3 2 = true := by decide +kernel
theorem fb41133 : own_B4 4 1 1 3 3 = true := by decide +kernel
theorem fb41134 : own_B4 4 1 1 3 4 = true := by decide +kernel
theorem fb41140 : own_B4 4 1 1 4 0 = true := by decide +kernel
theorem fb41141 : own_B4 4 1 1 4 1 = true := by decide +kernel
theorem fb41142 : own_B4 4 1 1 4 2 = true := by decide +kernel
theorem fb41143 : own_B4 4 1 1 4 3 = true := by decide +kernel
theorem fb41144 : own_B4 4 1 1 4 4 = true := by decide +kernel
theorem fb41200 : own_B4 4 1 2 0 0 = true := by decide +kernel
theorem fb41201 : own_B4 4 1 2 0 1 = true := by decide +kernel
theorem fb41202 : own_B4 4 1 2 0 2 = true := by decide +kernel
theorem fb41203 : own_B4 4 1 2 0 3 = true := by decide +kernel
theorem fb41204 : own_B4 4 1 2 0 4 = true := by decide +kernel
theorem fb41210 : own_B4 4 1 2 1 0 = true := by decide +kernel
theorem fb41211 : own_B4 4 1 2 1 1 = true := by decide +kernel
theorem fb41212 : own_B4 4 1 2 1 2 = true := by decide +kernel
theorem fb41213 : own_B4 4 1 2 1 3 = true := by decide +kernel
theorem fb41214 : own_B4 4 1 2 1 4 = true := by decide +kernel
theorem fb41220 : own_B4 4 1 2 2 0 = true := by decide +kernel
theorem fb41221 : own_B4 4 1 2 2 1 = true := by decide +kernel
theorem fb41222 : own_B4 4 1 2 2 2 = true := by decide +kernel
theorem fb41223 : own_B4 4 1 2 2 3 = true := by decide +kernel
theorem fb41224 : own_B4 4 1 2 2 4 = true := by decide +kernel
theorem fb41230 : own_B4 4 1 2 3 0 = true := by decide +kernel
theorem fb41231 : own_B4 4 1 2 3 1 = true := by decide +kernel
theorem fb41232 : own_B4 4 1 2 3 2 = true := by decide +kernel
theorem fb41233 : own_B4 4 1 2 3 3 = true := by decide +kernel
theorem fb41234 : own_B4 4 1 2 3 4 = true := by decide +kernel
theorem fb41240 : own_B4 4 1 2 4 0 = true := by decide +kernel
theorem fb41241 : own_B4 4 1 2 4 1 = true := by decide +kernel
theorem fb41242 : own_B4 4 1 2 4 2 = true := by decide +kernel
theorem fb41243 : own_B4 4 1 2 4 3 = true := by decide +kernel
theorem fb41244 : own_B4 4 1 2 4 4 = true := by decide +kernel
theorem fb41300 : own_B4 4 1 3 0 0 = true := by decide +kernel
theorem fb41301 : own_B4 4 1 3 0 1 = true := by decide +kernel
theorem fb41302 : own_B4 4 1 3 0 2 = true := by decide +kernel
theorem fb41303 : own_B4 4 1 3 0 3 = true := by decide +kernel
theorem fb41304 : own_B4 4 1 3 0 4 = true := by decide +kernel
theorem fb41310 : own_B4 4 1 3 1 0 = true := by decide +kernel
theorem fb41311 : own_B4 4 1 3 1 1 = true := by decide +kernel
theorem fb41312 : own_B4 4 1 3 1 2 = true := by decide +kernel
theorem fb41313 : own_B4 4 1 3 1 3 = true := by decide +kernel
theorem fb41314 : own_B4 4 1 3 1 4 = true := by decide +kernel
theorem fb41320 : own_B4 4 1 3 2 0 = true := by decide +kernel
theorem fb41321 : own_B4 4 1 3 2 1 = true := by decide +kernel
theorem fb41322 : own_B4 4 1 3 2 2 = true := by decide +kernel
theorem fb41323 : own_B4 4 1 3 2 3 = true := by decide +kernel
theorem fb41324 : own_B4 4 1 3 2 4 = true := by decide +kernel
theorem fb41330 : own_B4 4 1 3 3 0 = true := by decide +kernel
theorem fb41331 : own_B4 4 1 3 3 1 = true := by decide +kernel
theorem fb41332 : own_B4 4 1 3 3 2 = true := by decide +kernel
theorem fb41333 : own_B4 4 1 3 3 3 = true := by decide +kernel
theorem fb41334 : own_B4 4 1 3 3 4 = true := by decide +kernel
theorem fb41340 : own_B4 4 1 3 4 0 = true := by decide +kernel
theorem fb41341 : own_B4 4 1 3 4 1 = true := by decide +kernel
theorem fb41342 : own_B4 4 1 3 4 2 = true := by decide +kernel
theorem fb41343 : own_B4 4 1 3 4 3 = true := by decide +kernel
theorem fb41344 : own_B4 4 1 3 4 4 = true := by decide +kernel
theorem fb41400 : own_B4 4 1 4 0 0 = true := by decide +kernel
theorem fb41401 : own_B4 4 1 4 0 1 = true := by decide +kernel
theorem fb41402 : own_B4 4 1 4 0 2 = true := by decide +kernel
theorem fb41403 : own_B4 4 1 4 0 3 = true := by decide +kernel
theorem fb41404 : own_B4 4 1 4 0 4 = true := by decide +kernel
theorem fb41410 : own_B4 4 1 4 1 0 = true := by decide +kernel
theorem fb41411 : own_B4 4 1 4 1 1 = true := by decide +kernel
theorem fb41412 : own_B4 4 1 4 1 2 = true := by decide +kernel
theorem fb41413 : own_B4 4 1 4 1 3 = true := by decide +kernel
theorem fb41414 : own_B4 4 1 4 1 4 = true := by decide +kernel
theorem fb41420 : own_B4 4 1 4 2 0 = true := by decide +kernel
theorem fb41421 : own_B4 4 1 4 2 1 = true := by decide +kernel
theorem fb41422 : own_B4 4 1 4 2 2 = true := by decide +kernel
theorem fb41423 : own_B4 4 1 4 2 3 = true := by decide +kernel
theorem fb41424 : own_B4 4 1 4 2 4 = true := by decide +kernel
theorem fb41430 : own_B4 4 1 4 3 0 = true := by decide +kernel
theorem fb41431 : own_B4 4 1 4 3 1 = true := by decide +kernel
theorem fb41432 : own_B4 4 1 4 3 2 = true := by decide +kernel
theorem fb41433 : own_B4 4 1 4 3 3 = true := by decide +kernel
theorem fb41434 : own_B4 4 1 4 3 4 = true := by decide +kernel
theorem fb41440 : own_B4 4 1 4 4 0 = true := by decide +kernel
theorem fb41441 : own_B4 4 1 4 4 1 = true := by decide +kernel
theorem fb41442 : own_B4 4 1 4 4 2 = true := by decide +kernel
theorem fb41443 : own_B4 4 1 4 4 3 = true := by decide +kernel
theorem fb41444 : own_B4 4 1 4 4 4 = true := by decide +kernel
theorem fb42000 : own_B4 4 2 0 0 0 = true := by decide +kernel
theorem fb42001 : own_B4 4 2 0 0 1 = true := by decide +kernel
theorem fb42002 : own_B4 4 2 0 0 2 = true := by decide +kernel
theorem fb42003 : own_B4 4 2 0 0 3 = true := by decide +kernel
theorem fb42004 : own_B4 4 2 0 0 4 = true := by decide +kernel
theorem fb42010 : own_B4 4 2 0 1 0 = true := by decide +kernel
theorem fb42011 : own_B4 4 2 0 1 1 = true := by decide +kernel
theorem fb42012 : own_B4 4 2 0 1 2 = true := by decide +kernel
theorem fb42013 : own_B4 4 2 0 1 3 = true := by decide +kernel
theorem fb42014 : own_B4 4 2 0 1 4 = true := by decide +kernel
theorem fb42020 : own_B4 4 2 0 2 0 = true := by decide +kernel
theorem fb42021 : own_B4 4 2 0 2 1 = true := by decide +kernel
theorem fb42022 : own_B4 4 2 0 2 2 = true := by decide +kernel
theorem fb42023 : own_B4 4 2 0 2 3 = true := by decide +kernel
theorem fb42024 : own_B4 4 2 0 2 4 = true := by decide +kernel
theorem fb42030 : own_B4 4 2 0 3 0 = true := by decide +kernel
theorem fb42031 : own_B4 4 2 0 3 1 = true := by decide +kernel
theorem fb42032 : own_B4 4 2 0 3 2 = true := by decide +kernel
theorem fb42033 : own_B4 4 2 0 3 3 = true := by decide +kernel
theorem fb42034 : own_B4 4 2 0 3 4 = true := by decide +kernel
theorem fb42040 : own_B4 4 2 0 4 0 = true := by decide +kernel
theorem fb42041 : own_B4 4 2 0 4 1 = true := by decide +kernel
theorem fb42042 : own_B4 4 2 0 4 2 = true := by decide +kernel
theorem fb42043 : own_B4 4 2 0 4 3 = true := by decide +kernel
theorem fb42044 : own_B4 4 2 0 4 4 = true := by decide +kernel
theorem fb42100 : own_B4 4 2 1 0 0 = true := by decide +kernel
theorem fb42101 : own_B4 4 2 1 0 1 = true := by decide +kernel
theorem fb42102 : own_B4 4 2 1 0 2 = true := by decide +kernel
theorem fb42103 : own_B4 4 2 1 0 3 = true := by decide +kernel
theorem fb42104 : own_B4 4 2 1 0 4 = true := by decide +kernel
theorem fb42110 : own_B4 4 2 1 1 0 = true := by decide +kernel
theorem fb42111 : own_B4 4 2 1 1 1 = true := by decide +kernel
theorem fb42112 : own_B4 4 2 1 1 2 = true := by decide +kernel
theorem fb42113 : own_B4 4 2 1 1 3 = true := by decide +kernel
theorem fb42114 : own_B4 4 2 1 1 4 = true := by decide +kernel
theorem fb42120 : own_B4 4 2 1 2 0 = true := by decide +kernel
theorem fb42121 : own_B4 4 2 1 2 1 = true := by decide +kernel
theorem fb42122 : own_B4 4 2 1 2 2 = true := by decide +kernel
theorem fb42123 : own_B4 4 2 1 2 3 = true := by decide +kernel
theorem fb42124 : own_B4 4 2 1 2 4 = true := by decide +kernel
theorem fb42130 : own_B4 4 2 1 3 0 = true := by decide +kernel
theorem fb42131 : own_B4 4 2 1 3 1 = true := by decide +kernel
theorem fb42132 : own_B4 4 2 1 3 2 = true := by decide +kernel
theorem fb42133 : own_B4 4 2 1 3 3 = true := by decide +kernel
theorem fb42134 : own_B4 4 2 1 3 4 = true := by decide +kernel
theorem fb42140 : own_B4 4 2 1 4 0 = true := by decide +kernel
theorem fb42141 : own_B4 4 2 1 4 1 = true := by decide +kernel
theorem fb42142 : own_B4 4 2 1 4 2 = true := by decide +kernel
theorem fb42143 : own_B4 4 2 1 4 3 = true := by decide +kernel
theorem fb42144 : own_B4 4 2 1 4 4 = true := by decide +kernel
theorem fb42200 : own_B4 4 2 2 0 0 = true := by decide +kernel
theorem fb42201 : own_B4 4 2 2 0 1 = true := by decide +kernel
theorem fb42202 : own_B4 4 2 2 0 2 = true := by decide +kernel
theorem fb42203 : own_B4 4 2 2 0 3 = true := by decide +kernel
theorem fb42204 : own_B4 4 2 2 0 4 = true := by decide +kernel
theorem fb42210 : own_B4 4 2 2 1 0 = true := by decide +kernel
theorem fb42211 : own_B4 4 2 2 1 1 = true := by decide +kernel
theorem fb42212 : own_B4 4 2 2 1 2 = true := by decide +kernel
theorem fb42213 : own_B4 4 2 2 1 3 = true := by decide +kernel
theorem fb42214 : own_B4 4 2 2 1 4 = true := by decide +kernel
theorem fb42220 : own_B4 4 2 2 2 0 = true := by decide +kernel
theorem fb42221 : own_B4 4 2 2 2 1 = true := by decide +kernel
theorem fb42222 : own_B4 4 2 2 2 2 = true := by decide +kernel
theorem fb42223 : own_B4 4 2 2 2 3 = true := by decide +kernel
theorem fb42224 : own_B4 4 2 2 2 4 = true := by decide +kernel
theorem fb42230 : own_B4 4 2 2 3 0 = true := by decide +kernel
theorem fb42231 : own_B4 4 2 2 3 1 = true := by decide +kernel
theorem fb42232 : own_B4 4 2 2 3 2 = true := by decide +kernel
theorem fb42233 : own_B4 4 2 2 3 3 = true := by decide +kernel
theorem fb42234 : own_B4 4 2 2 3 4 = true := by decide +kernel
theorem fb42240 : own_B4 4 2 2 4 0 = true := by decide +kernel
theorem fb42241 : own_B4 4 2 2 4 1 = true := by decide +kernel
theorem fb42242 : own_B4 4 2 2 4 2 = true := by decide +kernel
theorem fb42243 : own_B4 4 2 2 4 3 = true := by decide +kernel
theorem fb42244 : own_B4 4 2 2 4 4 = true := by decide +kernel
theorem fb42300 : own_B4 4 2 3 0 0 = true := by decide +kernel
theorem fb42301 : own_B4 4 2 3 0 1 = true := by decide +kernel
theorem fb42302 : own_B4 4 2 3 0 2 = true := by decide +kernel
theorem fb42303 : own_B4 4 2 3 0 3 = true := by decide +kernel
theorem fb42304 : own_B4 4 2 3 0 4 = true := by decide +kernel
theorem fb42310 : own_B4 4 2 3 1 0 = true := by decide +kernel
theorem fb42311 : own_B4 4 2 3 1 1 = true := by decide +kernel
theorem fb42312 : own_B4 4 2 3 1 2 = true := by decide +kernel
theorem fb42313 : own_B4 4 2 3 1 3 = true := by decide +kernel
theorem fb42314 : own_B4 4 2 3 1 4 = true := by decide +kernel
theorem fb42320 : own_B4 4 2 3 2 0 = true := by decide +kernel
theorem fb42321 : own_B4 4 2 3 2 1 = true := by decide +kernel
theorem fb42322 : own_B4 4 2 3 2 2 = true := by decide +kernel
theorem fb42323 : own_B4 4 2 3 2 3 = true := by decide +kernel
theorem fb42324 : own_B4 4 2 3 2 4 = true := by decide +kernel
theorem fb42330 : own_B4 4 2 3 3 0 = true := by decide +kernel
theorem fb42331 : own_B4 4 2 3 3 1 = true := by decide +kernel
theorem fb42332 : own_B4 4 2 3 3 2 = true := by decide +kernel
theorem fb42333 : own_B4 4 2 3 3 3 = true := by decide +kernel
theorem fb42334 : own_B4 4 2 3 3 4 = true := by decide +kernel
theorem fb42340 : own_B4 4 2 3 4 0 = true := by decide +kernel
theorem fb42341 : own_B4 4 2 3 4 1 = true := by decide +kernel
theorem fb42342 : own_B4 4 2 3 4 2 = true := by decide +kernel
theorem fb42343 : own_B4 4 2 3 4 3 = true := by decide +kernel
theorem fb42344 : own_B4 4 2 3 4 4 = true := by decide +kernel
theorem fb42400 : own_B4 4 2 4 0 0 = true := by decide +kernel
theorem fb42401 : own_B4 4 2 4 0 1 = true := by decide +kernel
theorem fb42402 : own_B4 4 2 4 0 2 = true := by decide +kernel
theorem fb42403 : own_B4 4 2 4 0 3 = true := by decide +kernel
theorem fb42404 : own_B4 4 2 4 0 4 = true := by decide +kernel
theorem fb42410 : own_B4 4 2 4 1 0 = true := by decide +kernel
theorem fb42411 : own_B4 4 2 4 1 1 = true := by decide +kernel
theorem fb42412 : own_B4 4 2 4 1 2 = true := by decide +kernel
theorem fb42413 : own_B4 4 2 4 1 3 = true := by decide +kernel
theorem fb42414 : own_B4 4 2 4 1 4 = true := by decide +kernel
theorem fb42420 : own_B4 4 2 4 2 0 = true := by decide +kernel
theorem fb42421 : own_B4 4 2 4 2 1 = true := by decide +kernel
theorem fb42422 : own_B4 4 2 4 2 2 = true := by decide +kernel
theorem fb42423 : own_B4 4 2 4 2 3 = true := by decide +kernel
theorem fb42424 : own_B4 4 2 4 2 4 = true := by decide +kernel
theorem fb42430 : own_B4 4 2 4 3 0 = true := by decide +kernel
theorem fb42431 : own_B4 4 2 4 3 1 = true := by decide +kernel
theorem fb42432 : own_B4 4 2 4 3 2 = true := by decide +kernel
theorem fb42433 : own_B4 4 2 4 3 3 = true := by decide +kernel
theorem fb42434 : own_B4 4 2 4 3 4 = true := by decide +kernel
theorem fb42440 : own_B4 4 2 4 4 0 = true := by decide +kernel
theorem fb42441 : own_B4 4 2 4 4 1 = true := by decide +kernel
theorem fb42442 : own_B4 4 2 4 4 2 = true := by decide +kernel
theorem fb42443 : own_B4 4 2 4 4 3 = true := by decide +kernel
theorem fb42444 : own_B4 4 2 4 4 4 = true := by decide +kernel
theorem fb43000 : own_B4 4 3 0 0 0 = true := by decide +kernel
theorem fb43001 : own_B4 4 3 0 0 1 = true := by decide +kernel
theorem fb43002 : own_B4 4 3 0 0 2 = true := by decide +kernel
theorem fb43003 : own_B4 4 3 0 0 3 = true := by decide +kernel
theorem fb43004 : own_B4 4 3 0 0 4 = true := by decide +kernel
theorem fb43010 : own_B4 4 3 0 1 0 = true := by decide +kernel
theorem fb43011 : own_B4 4 3 0 1 1 = true := by decide +kernel
theorem fb43012 : own_B4 4 3 0 1 2 = true := by decide +kernel
theorem fb43013 : own_B4 4 3 0 1 3 = true := by decide +kernel
theorem fb43014 : own_B4 4 3 0 1 4 = true := by decide +kernel
theorem fb43020 : own_B4 4 3 0 2 0 = true := by decide +kernel
theorem fb43021 : own_B4 4 3 0 2 1 = true := by decide +kernel
theorem fb43022 : own_B4 4 3 0 2 2 = true := by decide +kernel
theorem fb43023 : own_B4 4 3 0 2 3 = true := by decide +kernel
theorem fb43024 : own_B4 4 3 0 2 4 = true := by decide +kernel
theorem fb43030 : own_B4 4 3 0 3 0 = true := by decide +kernel
theorem fb43031 : own_B4 4 3 0 3 1 = true := by decide +kernel
theorem fb43032 : own_B4 4 3 0 3 2 = true := by decide +kernel
theorem fb43033 : own_B4 4 3 0 3 3 = true := by decide +kernel
theorem fb43034 : own_B4 4 3 0 3 4 = true := by decide +kernel
theorem fb43040 : own_B4 4 3 0 4 0 = true := by decide +kernel
theorem fb43041 : own_B4 4 3 0 4 1 = true := by decide +kernel
theorem fb43042 : own_B4 4 3 0 4 2 = true := by decide +kernel
theorem fb43043 : own_B4 4 3 0 4 3 = true := by decide +kernel
theorem fb43044 : own_B4 4 3 0 4 4 = true := by decide +kernel
theorem fb43100 : own_B4 4 3 1 0 0 = true := by decide +kernel
theorem fb43101 : own_B4 4 3 1 0 1 = true := by decide +kernel
theorem fb43102 : own_B4 4 3 1 0 2 = true := by decide +kernel
theorem fb43103 : own_B4 4 3 1 0 3 = true := by decide +kernel
theorem fb43104 : own_B4 4 3 1 0 4 = true := by decide +kernel
theorem fb43110 : own_B4 4 3 1 1 0 = true := by decide +kernel
theorem fb43111 : own_B4 4 3 1 1 1 = true := by decide +kernel
theorem fb43112 : own_B4 4 3 1 1 2 = true := by decide +kernel
theorem fb43113 : own_B4 4 3 1 1 3 = true := by decide +kernel
theorem fb43114 : own_B4 4 3 1 1 4 = true := by decide +kernel
theorem fb43120 : own_B4 4 3 1 2 0 = true := by decide +kernel
theorem fb43121 : own_B4 4 3 1 2 1 = true := by decide +kernel
theorem fb43122 : own_B4 4 3 1 2 2 = true := by decide +kernel
theorem fb43123 : own_B4 4 3 1 2 3 = true := by decide +kernel
theorem fb43124 : own_B4 4 3 1 2 4 = true := by decide +kernel
theorem fb43130 : own_B4 4 3 1 3 0 = true := by decide +kernel
theorem fb43131 : own_B4 4 3 1 3 1 = true := by decide +kernel
theorem fb43132 : own_B4 4 3 1 3 2 = true := by decide +kernel
theorem fb43133 : own_B4 4 3 1 3 3 = true := by decide +kernel
theorem fb43134 : own_B4 4 3 1 3 4 = true := by decide +kernel
theorem fb43140 : own_B4 4 3 1 4 0 = true := by decide +kernel
theorem fb43141 : own_B4 4 3 1 4 1 = true := by decide +kernel
theorem fb43142 : own_B4 4 3 1 4 2 = true := by decide +kernel
theorem fb43143 : own_B4 4 3 1 4 3 = true := by decide +kernel
theorem fb43144 : own_B4 4 3 1 4 4 = true := by decide +kernel
theorem fb43200 : own_B4 4 3 2 0 0 = true := by decide +kernel
theorem fb43201 : own_B4 4 3 2 0 1 = true := by decide +kernel
theorem fb43202 : own_B4 4 3 2 0 2 = true := by decide +kernel
theorem fb43203 : own_B4 4 3 2 0 3 = true := by decide +kernel
theorem fb43204 : own_B4 4 3 2 0 4 = true := by decide +kernel
theorem fb43210 : own_B4 4 3 2 1 0 = true := by decide +kernel
theorem fb43211 : own_B4 4 3 2 1 1 = true := by decide +kernel
theorem fb43212 : own_B4 4 3 2 1 2 = true := by decide +kernel
theorem fb43213 : own_B4 4 3 2 1 3 = true := by decide +kernel
theorem fb43214 : own_B4 4 3 2 1 4 = true := by decide +kernel
theorem fb43220 : own_B4 4 3 2 2 0 = true := by decide +kernel
theorem fb43221 : own_B4 4 3 2 2 1 = true := by decide +kernel
theorem fb43222 : own_B4 4 3 2 2 2 = true := by decide +kernel
theorem fb43223 : own_B4 4 3 2 2 3 = true := by decide +kernel
theorem fb43224 : own_B4 4 3 2 2 4 = true := by decide +kernel
theorem fb43230 : own_B4 4 3 2 3 0 = true := by decide +kernel
theorem fb43231 : own_B4 4 3 2 3 1 = true := by decide +kernel
theorem fb43232 : own_B4 4 3 2 3 2 = true := by decide +kernel
theorem fb43233 : own_B4 4 3 2 3 3 = true := by decide +kernel
theorem fb43234 : own_B4 4 3 2 3 4 = true := by decide +kernel
theorem fb43240 : own_B4 4 3 2 4 0 = true := by decide +kernel
theorem fb43241 : own_B4 4 3 2 4 1 = true := by decide +kernel
theorem fb43242 : own_B4 4 3 2 4 2 = true := by decide +kernel
theorem fb43243 : own_B4 4 3 2 4 3 = true := by decide +kernel
theorem fb43244 : own_B4 4 3 2 4 4 = true := by decide +kernel
theorem fb43300 : own_B4 4 3 3 0 0 = true := by decide +kernel
theorem fb43301 : own_B4 4 3 3 0 1 = true := by decide +kernel
theorem fb43302 : own_B4 4 3 3 0 2 = true := by decide +kernel
theorem fb43303 : own_B4 4 3 3 0 3 = true := by decide +kernel
theorem fb43304 : own_B4 4 3 3 0 4 = true := by decide +kernel
theorem fb43310 : own_B4 4 3 3 1 0 = true := by decide +kernel
theorem fb43311 : own_B4 4 3 3 1 1 = true := by decide +kernel
theorem fb43312 : own_B4 4 3 3 1 2 = true := by decide +kernel
theorem fb43313 : own_B4 4 3 3 1 3 = true := by decide +kernel
theorem fb43314 : own_B4 4 3 3 1 4 = true := by decide +kernel
theorem fb43320 : own_B4 4 3 3 2 0 = true := by decide +kernel
theorem fb43321 : own_B4 4 3 3 2 1 = true := by decide +kernel
theorem fb43322 : own_B4 4 3 3 2 2 = true := by decide +kernel
theorem fb43323 : own_B4 4 3 3 2 3 = true := by decide +kernel
theorem fb43324 : own_B4 4 3 3 2 4 = true := by decide +kernel
theorem fb43330 : own_B4 4 3 3 3 0 = true := by decide +kernel
theorem fb43331 : own_B4 4 3 3 3 1 = true := by decide +kernel
theorem fb43332 : own_B4 4 3 3 3 2 = true := by decide +kernel
theorem fb43333 : own_B4 4 3 3 3 3 = true := by decide +kernel
theorem fb43334 : own_B4 4 3 3 3 4 = true := by decide +kernel
theorem fb43340 : own_B4 4 3 3 4 0 = true := by decide +kernel
theorem fb43341 : own_B4 4 3 3 4 1 = true := by decide +kernel
theorem fb43342 : own_B4 4 3 3 4 2 = true := by decide +kernel
theorem fb43343 : own_B4 4 3 3 4 3 = true := by decide +kernel
theorem fb43344 : own_B4 4 3 3 4 4 = true := by decide +kernel
theorem fb43400 : own_B4 4 3 4 0 0 = true := by decide +kernel
theorem fb43401 : own_B4 4 3 4 0 1 = true := by decide +kernel
theorem fb43402 : own_B4 4 3 4 0 2 = true := by decide +kernel
theorem fb43403 : own_B4 4 3 4 0 3 = true := by decide +kernel
theorem fb43404 : own_B4 4 3 4 0 4 = true := by decide +kernel
theorem fb43410 : own_B4 4 3 4 1 0 = true := by decide +kernel
theorem fb43411 : own_B4 4 3 4 1 1 = true := by decide +kernel
theorem fb43412 : own_B4 4 3 4 1 2 = true := by decide +kernel
theorem fb43413 : own_B4 4 3 4 1 3 = true := by decide +kernel
theorem fb43414 : own_B4 4 3 4 1 4 = true := by decide +kernel
theorem fb43420 : own_B4 4 3 4 2 0 = true := by decide +kernel
theorem fb43421 : own_B4 4 3 4 2 1 = true := by decide +kernel
theorem fb43422 : own_B4 4 3 4 2 2 = true := by decide +kernel
theorem fb43423 : own_B4 4 3 4 2 3 = true := by decide +kernel
theorem fb43424 : own_B4 4 3 4 2 4 = true := by decide +kernel
theorem fb43430 : own_B4 4 3 4 3 0 = true := by decide +kernel
theorem fb43431 : own_B4 4 3 4 3 1 = true := by decide +kernel
theorem fb43432 : own_B4 4 3 4 3 2 = true := by decide +kernel
theorem fb43433 : own_B4 4 3 4 3 3 = true := by decide +kernel
theorem fb43434 : own_B4 4 3 4 3 4 = true := by decide +kernel
theorem fb43440 : own_B4 4 3 4 4 0 = true := by decide +kernel
theorem fb43441 : own_B4 4 3 4 4 1 = true := by decide +kernel
theorem fb43442 : own_B4 4 3 4 4 2 = true := by decide +kernel
theorem fb43443 : own_B4 4 3 4 4 3 = true := by decide +kernel
theorem fb43444 : own_B4 4 3 4 4 4 = true := by decide +kernel
theorem fb44000 : own_B4 4 4 0 0 0 = true := by decide +kernel
theorem fb44001 : own_B4 4 4 0 0 1 = true := by decide +kernel
theorem fb44002 : own_B4 4 4 0 0 2 = true := by decide +kernel
theorem fb44003 : own_B4 4 4 0 0 3 = true := by decide +kernel
theorem fb44004 : own_B4 4 4 0 0 4 = true := by decide +kernel
theorem fb44010 : own_B4 4 4 0 1 0 = true := by decide +kernel
theorem fb44011 : own_B4 4 4 0 1 1 = true := by decide +kernel
theorem fb44012 : own_B4 4 4 0 1 2 = true := by decide +kernel
theorem fb44013 : own_B4 4 4 0 1 3 = true := by decide +kernel
theorem fb44014 : own_B4 4 4 0 1 4 = true := by decide +kernel
theorem fb44020 : own_B4 4 4 0 2 0 = true := by decide +kernel
theorem fb44021 : own_B4 4 4 0 2 1 = true := by decide +kernel
theorem fb44022 : own_B4 4 4 0 2 2 = true := by decide +kernel
theorem fb44023 : own_B4 4 4 0 2 3 = true := by decide +kernel
theorem fb44024 : own_B4 4 4 0 2 4 = true := by decide +kernel
theorem fb44030 : own_B4 4 4 0 3 0 = true := by decide +kernel
theorem fb44031 : own_B4 4 4 0 3 1 = true := by decide +kernel
theorem fb44032 : own_B4 4 4 0 3 2 = true := by decide +kernel
theorem fb44033 : own_B4 4 4 0 3 3 = true := by decide +kernel
theorem fb44034 : own_B4 4 4 0 3 4 = true := by decide +kernel
theorem fb44040 : own_B4 4 4 0 4 0 = true := by decide +kernel
theorem fb44041 : own_B4 4 4 0 4 1 = true := by decide +kernel
theorem fb44042 : own_B4 4 4 0 4 2 = true := by decide +kernel
theorem fb44043 : own_B4 4 4 0 4 3 = true := by decide +kernel
theorem fb44044 : own_B4 4 4 0 4 4 = true := by decide +kernel
theorem fb44100 : own_B4 4 4 1 0 0 = true := by decide +kernel
theorem fb44101 : own_B4 4 4 1 0 1 = true := by decide +kernel
theorem fb44102 : own_B4 4 4 1 0 2 = true := by decide +kernel
theorem fb44103 : own_B4 4 4 1 0 3 = true := by decide +kernel
theorem fb44104 : own_B4 4 4 1 0 4 = true := by decide +kernel
theorem fb44110 : own_B4 4 4 1 1 0 = true := by decide +kernel
theorem fb44111 : own_B4 4 4 1 1 1 = true := by decide +kernel
theorem fb44112 : own_B4 4 4 1 1 2 = true := by decide +kernel
theorem fb44113 : own_B4 4 4 1 1 3 = true := by decide +kernel
theorem fb44114 : own_B4 4 4 1 1 4 = true := by decide +kernel
theorem fb44120 : own_B4 4 4 1 2 0 = true := by decide +kernel
theorem fb44121 : own_B4 4 4 1 2 1 = true := by decide +kernel
theorem fb44122 : own_B4 4 4 1 2 2 = true := by decide +kernel
theorem fb44123 : own_B4 4 4 1 2 3 = true := by decide +kernel
theorem fb44124 : own_B4 4 4 1 2 4 = true := by decide +kernel
theorem fb44130 : own_B4 4 4 1 3 0 = true := by decide +kernel
theorem fb44131 : own_B4 4 4 1 3 1 = true := by decide +kernel
theorem fb44132 : own_B4 4 4 1 3 2 = true := by decide +kernel
theorem fb44133 : own_B4 4 4 1 3 3 = true := by decide +kernel
theorem fb44134 : own_B4 4 4 1 3 4 = true := by decide +kernel
theorem fb44140 : own_B4 4 4 1 4 0 = true := by decide +kernel
theorem fb44141 : own_B4 4 4 1 4 1 = true := by decide +kernel
theorem fb44142 : own_B4 4 4 1 4 2 = true := by decide +kernel
theorem fb44143 : own_B4 4 4 1 4 3 = true := by decide +kernel
theorem fb44144 : own_B4 4 4 1 4 4 = true := by decide +kernel
theorem fb44200 : own_B4 4 4 2 0 0 = true := by decide +kernel
theorem fb44201 : own_B4 4 4 2 0 1 = true := by decide +kernel
theorem fb44202 : own_B4 4 4 2 0 2 = true := by decide +kernel
theorem fb44203 : own_B4 4 4 2 0 3 = true := by decide +kernel
theorem fb44204 : own_B4 4 4 2 0 4 = true := by decide +kernel
theorem fb44210 : own_B4 4 4 2 1 0 = true := by decide +kernel
theorem fb44211 : own_B4 4 4 2 1 1 = true := by decide +kernel
theorem fb44212 : own_B4 4 4 2 1 2 = true := by decide +kernel
theorem fb44213 : own_B4 4 4 2 1 3 = true := by decide +kernel
theorem fb44214 : own_B4 4 4 2 1 4 = true := by decide +kernel
theorem fb44220 : own_B4 4 4 2 2 0 = true := by decide +kernel
theorem fb44221 : own_B4 4 4 2 2 1 = true := by decide +kernel
theorem fb44222 : own_B4 4 4 2 2 2 = true := by decide +kernel
theorem fb44223 : own_B4 4 4 2 2 3 = true := by decide +kernel
theorem fb44224 : own_B4 4 4 2 2 4 = true := by decide +kernel
theorem fb44230 : own_B4 4 4 2 3 0 = true := by decide +kernel
theorem fb44231 : own_B4 4 4 2 3 1 = true := by decide +kernel
theorem fb44232 : own_B4 4 4 2 3 2 = true := by decide +kernel
theorem fb44233 : own_B4 4 4 2 3 3 = true := by decide +kernel
theorem fb44234 : own_B4 4 4 2 3 4 = true := by decide +kernel
theorem fb44240 : own_B4 4 4 2 4 0 = true := by decide +kernel
theorem fb44241 : own_B4 4 4 2 4 1 = true := by decide +kernel
theorem fb44242 : own_B4 4 4 2 4 2 = true := by decide +kernel
theorem fb44243 : own_B4 4 4 2 4 3 = true := by decide +kernel
theorem fb44244 : own_B4 4 4 2 4 4 = true := by decide +kernel
theorem fb44300 : own_B4 4 4 3 0 0 = true := by decide +kernel
theorem fb44301 : own_B4 4 4 3 0 1 = true := by decide +kernel
theorem fb44302 : own_B4 4 4 3 0 2 = true := by decide +kernel
theorem fb44303 : own_B4 4 4 3 0 3 = true := by decide +kernel
theorem fb44304 : own_B4 4 4 3 0 4 = true := by decide +kernel
theorem fb44310 : own_B4 4 4 3 1 0 = true := by decide +kernel
theorem fb44311 : own_B4 4 4 3 1 1 = true := by decide +kernel
theorem fb44312 : own_B4 4 4 3 1 2 = true := by decide +kernel
theorem fb44313 : own_B4 4 4 3 1 3 = true := by decide +kernel
theorem fb44314 : own_B4 4 4 3 1 4 = true := by decide +kernel
theorem fb44320 : own_B4 4 4 3 2 0 = true := by decide +kernel
theorem fb44321 : own_B4 4 4 3 2 1 = true := by decide +kernel
theorem fb44322 : own_B4 4 4 3 2 2 = true := by decide +kernel
theorem fb44323 : own_B4 4 4 3 2 3 = true := by decide +kernel
theorem fb44324 : own_B4 4 4 3 2 4 = true := by decide +kernel
theorem fb44330 : own_B4 4 4 3 3 0 = true := by decide +kernel
theorem fb44331 : own_B4 4 4 3 3 1 = true := by decide +kernel
theorem fb44332 : own_B4 4 4 3 3 2 = true := by decide +kernel
theorem fb44333 : own_B4 4 4 3 3 3 = true := by decide +kernel
theorem fb44334 : own_B4 4 4 3 3 4 = true := by decide +kernel
theorem fb44340 : own_B4 4 4 3 4 0 = true := by decide +kernel
theorem fb44341 : own_B4 4 4 3 4 1 = true := by decide +kernel
theorem fb44342 : own_B4 4 4 3 4 2 = true := by decide +kernel
theorem fb44343 : own_B4 4 4 3 4 3 = true := by decide +kernel
theorem fb44344 : own_B4 4 4 3 4 4 = true := by decide +kernel
theorem fb44400 : own_B4 4 4 4 0 0 = true := by decide +kernel
theorem fb44401 : own_B4 4 4 4 0 1 = true := by decide +kernel
theorem fb44402 : own_B4 4 4 4 0 2 = true := by decide +kernel
theorem fb44403 : own_B4 4 4 4 0 3 = true := by decide +kernel
theorem fb44404 : own_B4 4 4 4 0 4 = true := by decide +kernel
theorem fb44410 : own_B4 4 4 4 1 0 = true := by decide +kernel
theorem fb44411 : own_B4 4 4 4 1 1 = true := by decide +kernel
theorem fb44412 : own_B4 4 4 4 1 2 = true := by decide +kernel
theorem fb44413 : own_B4 4 4 4 1 3 = true := by decide +kernel
theorem fb44414 : own_B4 4 4 4 1 4 = true := by decide +kernel
theorem fb44420 : own_B4 4 4 4 2 0 = true := by decide +kernel
theorem fb44421 : own_B4 4 4 4 2 1 = true := by decide +kernel
theorem fb44422 : own_B4 4 4 4 2 2 = true := by decide +kernel
theorem fb44423 : own_B4 4 4 4 2 3 = true := by decide +kernel
theorem fb44424 : own_B4 4 4 4 2 4 = true := by decide +kernel
theorem fb44430 : own_B4 4 4 4 3 0 = true := by decide +kernel
theorem fb44431 : own_B4 4 4 4 3 1 = true := by decide +kernel
theorem fb44432 : own_B4 4 4 4 3 2 = true := by decide +kernel
theorem fb44433 : own_B4 4 4 4 3 3 = true := by decide +kernel
theorem fb44434 : own_B4 4 4 4 3 4 = true := by decide +kernel
theorem fb44440 : own_B4 4 4 4 4 0 = true := by decide +kernel
theorem fb44441 : own_B4 4 4 4 4 1 = true := by decide +kernel
theorem fb44442 : own_B4 4 4 4 4 2 = true := by decide +kernel
theorem fb44443 : own_B4 4 4 4 4 3 = true := by decide +kernel
theorem fb44444 : own_B4 4 4 4 4 4 = true := by decide +kernel
theorem own_fa4 : own_AA 4 = true := by
  show ([1, 2, 3, 4].all fun a => [0, 2, 3, 4].all fun b => [0, 1, 3, 4].all fun c => own_A3 4 a b c) = true
  simp only [List.all_cons, List.all_nil, Bool.and_true, Bool.and_self, fa4100, fa4101, fa4103, fa4104, fa4120, fa4121, fa4123, fa4124, fa4130, fa4131, fa4133, fa4134, fa4140, fa4141, fa4143, fa4144, fa4200, fa4201, fa4203, fa4204, fa4220, fa4221, fa4223, fa4224, fa4230, fa4231, fa4233, fa4234, fa4240, fa4241, fa4243, fa4244, fa4300, fa4301, fa4303, fa4304, fa4320, fa4321, fa4323, fa4324, fa4330, fa4331, fa4333, fa4334, fa4340, fa4341, fa4343, fa4344, fa4400, fa4401, fa4403, fa4404, fa4420, fa4421, fa4423, fa4424, fa4430, fa4431, fa4433, fa4434, fa4440, fa4441, fa4443, fa4444]
theorem own_fb4 : own_BB 4 = true := by
  show ([0, 1, 2, 3, 4].all fun a => [0, 1, 2, 3, 4].all fun b => [0, 1, 2, 3, 4].all fun c => [0, 1, 2, 3, 4].all fun d => own_B4 4 a b c d) = true
  simp only [List.all_cons, List.all_nil, Bool.and_true, Bool.and_self, fb40000, fb40001, fb40002, fb40003, fb40004, fb40010, fb40011, fb40012, fb40013, fb40014, fb40020, fb40021, fb40022, fb40023, fb40024, fb40030, fb40031, fb40032, fb40033, fb40034, fb40040, fb40041, fb40042, fb40043, fb40044, fb40100, fb40101, fb40102, fb40103, fb40104, fb40110, fb40111, fb40112, fb40113, fb40114, fb40120, fb40121, fb40122, fb40123, fb40124, fb40130, fb40131, fb40132, fb40133, fb40134, fb40140, fb40141, fb40142, fb40143, fb40144, fb40200, fb40201, fb40202, fb40203, fb40204, fb40210, fb40211, fb40212, fb40213, fb40214, fb40220, fb40221, fb40222, fb40223, fb40224, fb40230, fb40231, fb40232, fb40233, fb40234, fb40240, fb40241, fb40242, fb40243, fb40244, fb40300, fb40301, fb40302, fb40303, fb40304, fb40310, fb40311, fb40312, fb40313, fb40314, fb40320, fb40321, fb40322, fb40323, fb40324, fb40330, fb40331, fb40332, fb40333, fb40334, fb40340, fb40341, fb40342, fb40343, fb40344, fb40400, fb40401, fb40402, fb40403, fb40404, fb40410, fb40411, fb40412, fb40413, fb40414, fb40420, fb40421, fb40422, fb40423, fb40424, fb40430, fb40431, fb40432, fb40433, fb40434, fb40440, fb40441, fb40442, fb40443, fb40444, fb41000, fb41001, fb41002, fb41003, fb41004, fb41010, fb41011, fb41012, fb41013, fb41014, fb41020, fb41021, fb41022, fb41023, fb41024, fb41030, fb41031, fb41032, fb41033, fb41034, fb41040, fb41041, fb41042, fb41043, fb41044, fb41100, fb41101, fb41102, fb41103, fb41104, fb41110, fb41111, fb41112, fb41113, fb41114, fb41120, fb41121, fb41122, fb41123, fb41124, fb41130, fb41131, fb41132, fb41133, fb41134, fb41140, fb41141, fb41142, fb41143, fb41144, fb41200, fb41201, fb41202, fb41203, fb41204, fb41210, fb41211, fb41212, fb41213, fb41214, fb41220, fb41221, fb41222, fb41223, fb41224, fb41230, fb41231, fb41232, fb41233, fb41234, fb41240, fb41241, fb41242, fb41243, fb41244, fb41300, fb41301, fb41302, fb41303, fb41304, fb41310, fb41311, fb41312, fb41313, fb41314, fb41320, fb41321, fb41322, fb41323, fb41324, fb41330, fb41331, fb41332, fb41333, fb41334, fb41340, fb41341, fb41342, fb41343, fb41344, fb41400, fb41401, fb41402, fb41403, fb41404, fb41410, fb41411, fb41412, fb41413, fb41414, fb41420, fb41421, fb41422, fb41423, fb41424, fb41430, fb41431, fb41432, fb41433, fb41434, fb41440, fb41441, fb41442, fb41443, fb41444, fb42000, fb42001, fb42002, fb42003, fb42004, fb42010, fb42011, fb42012, fb42013, fb42014, fb42020, fb42021, fb42022, fb42023, fb42024, fb42030, fb42031, fb42032, fb42033, fb42034, fb42040, fb42041, fb42042, fb42043, fb42044, fb42100, fb42101, fb42102, fb42103, fb42104, fb42110, fb42111, fb42112, fb42113, fb42114, fb42120, fb42121, fb42122, fb42123, fb42124, fb42130, fb42131, fb42132, fb42133, fb42134, fb42140, fb42141, fb42142, fb42143, fb42144, fb42200, fb42201, fb42202, fb42203, fb42204, fb42210, fb42211, fb42212, fb42213, fb42214, fb42220, fb42221, fb42222, fb42223, fb42224, fb42230, fb42231, fb42232, fb42233, fb42234, fb42240, fb42241, fb42242, fb42243, fb42244, fb42300, fb42301, fb42302, fb42303, fb42304, fb42310, fb42311, fb42312, fb42313, fb42314, fb42320, fb42321, fb42322, fb42323, fb42324, fb42330, fb42331, fb42332, fb42333, fb42334, fb42340, fb42341, fb42342, fb42343, fb42344, fb42400, fb42401, fb42402, fb42403, fb42404, fb42410, fb42411, fb42412, fb42413, fb42414, fb42420, fb42421, fb42422, fb42423, fb42424, fb42430, fb42431, fb42432, fb42433, fb42434, fb42440, fb42441, fb42442, fb42443, fb42444, fb43000, fb43001, fb43002, fb43003, fb43004, fb43010, fb43011, fb43012, fb43013, fb43014, fb43020, fb43021, fb43022, fb43023, fb43024, fb43030, fb43031, fb43032, fb43033, fb43034, fb43040, fb43041, fb43042, fb43043, fb43044, fb43100, fb43101, fb43102, fb43103, fb43104, fb43110, fb43111, fb43112, fb43113, fb43114, fb43120, fb43121, fb43122, fb43123, fb43124, fb43130, fb43131, fb43132, fb43133, fb43134, fb43140, fb43141, fb43142, fb43143, fb43144, fb43200, fb43201, fb43202, fb43203, fb43204, fb43210, fb43211, fb43212, fb43213, fb43214, fb43220, fb43221, fb43222, fb43223, fb43224, fb43230, fb43231, fb43232, fb43233, fb43234, fb43240, fb43241, fb43242, fb43243, fb43244, fb43300, fb43301, fb43302, fb43303, fb43304, fb43310, fb43311, fb43312, fb43313, fb43314, fb43320, fb43321, fb43322, fb43323, fb43324, fb43330, fb43331, fb43332, fb43333, fb43334, fb43340, fb43341, fb43342, fb43343, fb43344, fb43400, fb43401, fb43402, fb43403, fb43404, fb43410, fb43411, fb43412, fb43413, fb43414, fb43420, fb43421, fb43422, fb43423, fb43424, fb43430, fb43431, fb43432, fb43433, fb43434, fb43440, fb43441, fb43442, fb43443, fb43444, fb44000, fb44001, fb44002, fb44003, fb44004, fb44010, fb44011, fb44012, fb44013, fb44014, fb44020, fb44021, fb44022, fb44023, fb44024, fb44030, fb44031, fb44032, fb44033, fb44034, fb44040, fb44041, fb44042, fb44043, fb44044, fb44100, fb44101, fb44102, fb44103, fb44104, fb44110, fb44111, fb44112, fb44113, fb44114, fb44120, fb44121, fb44122, fb44123, fb44124, fb44130, fb44131, fb44132, fb44133, fb44134, fb44140, fb44141, fb44142, fb44143, fb44144, fb44200, fb44201, fb44202, fb44203, fb44204, fb44210, fb44211, fb44212, fb44213, fb44214, fb44220, fb44221, fb44222, fb44223, fb44224, fb44230, fb44231, fb44232, fb44233, fb44234, fb44240, fb44241, fb44242, fb44243, fb44244, fb44300, fb44301, fb44302, fb44303, fb44304, fb44310, fb44311, fb44312, fb44313, fb44314, fb44320, fb44321, fb44322, fb44323, fb44324, fb44330, fb44331, fb44332, fb44333, fb44334, fb44340, fb44341, fb44342, fb44343, fb44344, fb44400, fb44401, fb44402, fb44403, fb44404, fb44410, fb44411, fb44412, fb44413, fb44414, fb44420, fb44421, fb44422, fb44423, fb44424, fb44430, fb44431, fb44432, fb44433, fb44434, fb44440, fb44441, fb44442, fb44443, fb44444]
theorem own_fin {R : Nat} (h : R < 5) : own_AA R = true ∧ own_BB R = true := by
  match R, h with
  | 0, _ => exact ⟨own_fa0, own_fb0⟩
  | 1, _ => exact ⟨own_fa1, own_fb1⟩
  | 2, _ => exact ⟨own_fa2, own_fb2⟩
  | 3, _ => exact ⟨own_fa3, own_fb3⟩
  | 4, _ => exact ⟨own_fa4, own_fb4⟩
theorem s1_0 : Nx method_3_code 0 (.iload_n 0) 1 1 := ⟨by decide +kernel, rfl⟩
theorem s1_1 : Nx method_3_code 1 (.iconst 2) 1 2 := ⟨by decide +kernel, rfl⟩
theorem s1_2 : Nx method_3_code 2 (.iload_n 1) 1 3 := ⟨by decide +kernel, rfl⟩
theorem s1_3 : Nx method_3_code 3 (.imul) 1 4 := ⟨by decide +kernel, rfl⟩
theorem s1_4 : Nx method_3_code 4 (.iushr) 1 5 := ⟨by decide +kernel, rfl⟩
theorem s1_5 : Nx method_3_code 5 (.iconst 3) 1 6 := ⟨by decide +kernel, rfl⟩
theorem s1_6 : Nx method_3_code 6 (.iand) 1 7 := ⟨by decide +kernel, rfl⟩
theorem s1_7 : Nx method_3_code 7 (.istore_n 2) 1 8 := ⟨by decide +kernel, rfl⟩
theorem s1_8 : Nx method_3_code 8 (.iload_n 2) 1 9 := ⟨by decide +kernel, rfl⟩
theorem s1_9 : Nx method_3_code 9 (.iload_n 1) 1 10 := ⟨by decide +kernel, rfl⟩
theorem s1_10 : Bx method_3_code 10 (.if_icmp .ge) 17 13 := ⟨(7), by decide +kernel, by decide, by decide, rfl⟩
theorem s1_17 : Nx method_3_code 17 (.iload_n 2) 1 18 := ⟨by decide +kernel, rfl⟩
theorem s1_18 : Nx method_3_code 18 (.iconst 1) 1 19 := ⟨by decide +kernel, rfl⟩
theorem s1_19 : Nx method_3_code 19 (.iadd) 1 20 := ⟨by decide +kernel, rfl⟩
theorem s1_20 : Nx method_3_code 20 (.ireturn) 1 21 := ⟨by decide +kernel, rfl⟩
theorem s1_13 : Nx method_3_code 13 (.iload_n 2) 1 14 := ⟨by decide +kernel, rfl⟩
theorem s1_14 : Bx method_3_code 14 (.goto) 20 17 := ⟨(6), by decide +kernel, by decide, by decide, rfl⟩
set_option maxRecDepth 65536 in
set_option maxHeartbeats 40000000 in
theorem m_pick0 (l : Launch) {Z : State} {a0 : Array Value} (hw : HW1 Z a0) (n0 : Nat) (A : List Ob) (b : Int32) : Met l Z KT n0 y1 method_3_code 3 (some .int) ({ frames := 0, cells := 0, slots := 0, locals := 0 } : Room) #[(.int b), (.int (0 : Int32))] A (Is (some (.int (own_pk ((b.toUInt32 >>> ((0 : Int32) &&& 31).toUInt32).toInt32 &&& (3 : Int32)) (0 : Int32)))) A) := by
  refine Met.of (a0 := a0) (ls := #[.val (.int b), .val (.int (0 : Int32)), .unset]) (kok hw) (plainFor_of_name pn_1) (fun m => by first | (simp [entryFrame, mkF, argsToLocals, Value.category]; done) | rfl) (fun G H => ?_)
  refine H.iloadN s1_0 rfl ?_
  refine H.iconst s1_1 (v := (2 : Int32)) (by decide) ?_
  refine H.iloadN s1_2 rfl ?_
  refine H.imul s1_3 (w := (0 : Int32)) (by decide) ?_
  refine H.iushr s1_4 rfl ?_
  refine H.iconst s1_5 (v := (3 : Int32)) (by decide) ?_
  refine H.iand s1_6 rfl ?_
  refine H.istoreN s1_7 (ls' := #[.val (.int b), .val (.int (0 : Int32)), .val (.int (((b.toUInt32 >>> ((0 : Int32) &&& 31).toUInt32).toInt32) &&& (3 : Int32)))]) rfl ?_
  refine H.iloadN s1_8 rfl ?_
  refine H.iloadN s1_9 rfl ?_
  refine H.icmpS s1_10 (fun (c10 : ¬ (((b.toUInt32 >>> ((0 : Int32) &&& 31).toUInt32).toInt32) &&& (3 : Int32)) < (0 : Int32)) => ?_) (fun (c10 : (((b.toUInt32 >>> ((0 : Int32) &&& 31).toUInt32).toInt32) &&& (3 : Int32)) < (0 : Int32)) => ?_)
  · have d10 : 0 ≤ (((b.toUInt32 >>> ((0 : Int32) &&& 31).toUInt32).toInt32) &&& (3 : Int32)).toInt := (i_ge rfl (by decide : (0 : Int32).toInt = 0)).mp c10
    refine H.iloadN s1_17 rfl ?_
    refine H.iconst s1_18 (v := (1 : Int32)) (by decide) ?_
    refine H.iadd s1_19 rfl ?_
    exact H.ireturn s1_20 rfl (by simp) rfl ⟨by rw [own_pk, if_neg c10], rfl⟩ (by decide) (by decide)
  · have d10 : (((b.toUInt32 >>> ((0 : Int32) &&& 31).toUInt32).toInt32) &&& (3 : Int32)).toInt < 0 := (i_lt rfl (by decide : (0 : Int32).toInt = 0)).mp c10
    refine H.iloadN s1_13 rfl ?_
    refine H.goto s1_14 ?_
    exact H.ireturn s1_20 rfl (by simp) rfl ⟨by rw [own_pk, if_pos c10], rfl⟩ (by decide) (by decide)


set_option maxRecDepth 65536 in
set_option maxHeartbeats 40000000 in
theorem m_pick1 (l : Launch) {Z : State} {a0 : Array Value} (hw : HW1 Z a0) (n0 : Nat) (A : List Ob) (b : Int32) : Met l Z KT n0 y1 method_3_code 3 (some .int) ({ frames := 0, cells := 0, slots := 0, locals := 0 } : Room) #[(.int b), (.int (1 : Int32))] A (Is (some (.int (own_pk ((b.toUInt32 >>> ((2 : Int32) &&& 31).toUInt32).toInt32 &&& (3 : Int32)) (1 : Int32)))) A) := by
  refine Met.of (a0 := a0) (ls := #[.val (.int b), .val (.int (1 : Int32)), .unset]) (kok hw) (plainFor_of_name pn_1) (fun m => by first | (simp [entryFrame, mkF, argsToLocals, Value.category]; done) | rfl) (fun G H => ?_)
  refine H.iloadN s1_0 rfl ?_
  refine H.iconst s1_1 (v := (2 : Int32)) (by decide) ?_
  refine H.iloadN s1_2 rfl ?_
  refine H.imul s1_3 (w := (2 : Int32)) (by decide) ?_
  refine H.iushr s1_4 rfl ?_
  refine H.iconst s1_5 (v := (3 : Int32)) (by decide) ?_
  refine H.iand s1_6 rfl ?_
  refine H.istoreN s1_7 (ls' := #[.val (.int b), .val (.int (1 : Int32)), .val (.int (((b.toUInt32 >>> ((2 : Int32) &&& 31).toUInt32).toInt32) &&& (3 : Int32)))]) rfl ?_
  refine H.iloadN s1_8 rfl ?_
  refine H.iloadN s1_9 rfl ?_
  refine H.icmpS s1_10 (fun (c10 : ¬ (((b.toUInt32 >>> ((2 : Int32) &&& 31).toUInt32).toInt32) &&& (3 : Int32)) < (1 : Int32)) => ?_) (fun (c10 : (((b.toUInt32 >>> ((2 : Int32) &&& 31).toUInt32).toInt32) &&& (3 : Int32)) < (1 : Int32)) => ?_)
  · have d10 : 1 ≤ (((b.toUInt32 >>> ((2 : Int32) &&& 31).toUInt32).toInt32) &&& (3 : Int32)).toInt := (i_ge rfl (by decide : (1 : Int32).toInt = 1)).mp c10
    refine H.iloadN s1_17 rfl ?_
    refine H.iconst s1_18 (v := (1 : Int32)) (by decide) ?_
    refine H.iadd s1_19 rfl ?_
    exact H.ireturn s1_20 rfl (by simp) rfl ⟨by rw [own_pk, if_neg c10], rfl⟩ (by decide) (by decide)
  · have d10 : (((b.toUInt32 >>> ((2 : Int32) &&& 31).toUInt32).toInt32) &&& (3 : Int32)).toInt < 1 := (i_lt rfl (by decide : (1 : Int32).toInt = 1)).mp c10
    refine H.iloadN s1_13 rfl ?_
    refine H.goto s1_14 ?_
    exact H.ireturn s1_20 rfl (by simp) rfl ⟨by rw [own_pk, if_pos c10], rfl⟩ (by decide) (by decide)


set_option maxRecDepth 65536 in
set_option maxHeartbeats 40000000 in
theorem m_pick2 (l : Launch) {Z : State} {a0 : Array Value} (hw : HW1 Z a0) (n0 : Nat) (A : List Ob) (b : Int32) : Met l Z KT n0 y1 method_3_code 3 (some .int) ({ frames := 0, cells := 0, slots := 0, locals := 0 } : Room) #[(.int b), (.int (2 : Int32))] A (Is (some (.int (own_pk ((b.toUInt32 >>> ((4 : Int32) &&& 31).toUInt32).toInt32 &&& (3 : Int32)) (2 : Int32)))) A) := by
  refine Met.of (a0 := a0) (ls := #[.val (.int b), .val (.int (2 : Int32)), .unset]) (kok hw) (plainFor_of_name pn_1) (fun m => by first | (simp [entryFrame, mkF, argsToLocals, Value.category]; done) | rfl) (fun G H => ?_)
  refine H.iloadN s1_0 rfl ?_
  refine H.iconst s1_1 (v := (2 : Int32)) (by decide) ?_
  refine H.iloadN s1_2 rfl ?_
  refine H.imul s1_3 (w := (4 : Int32)) (by decide) ?_
  refine H.iushr s1_4 rfl ?_
  refine H.iconst s1_5 (v := (3 : Int32)) (by decide) ?_
  refine H.iand s1_6 rfl ?_
  refine H.istoreN s1_7 (ls' := #[.val (.int b), .val (.int (2 : Int32)), .val (.int (((b.toUInt32 >>> ((4 : Int32) &&& 31).toUInt32).toInt32) &&& (3 : Int32)))]) rfl ?_
  refine H.iloadN s1_8 rfl ?_
  refine H.iloadN s1_9 rfl ?_
  refine H.icmpS s1_10 (fun (c10 : ¬ (((b.toUInt32 >>> ((4 : Int32) &&& 31).toUInt32).toInt32) &&& (3 : Int32)) < (2 : Int32)) => ?_) (fun (c10 : (((b.toUInt32 >>> ((4 : Int32) &&& 31).toUInt32).toInt32) &&& (3 : Int32)) < (2 : Int32)) => ?_)
  · have d10 : 2 ≤ (((b.toUInt32 >>> ((4 : Int32) &&& 31).toUInt32).toInt32) &&& (3 : Int32)).toInt := (i_ge rfl (by decide : (2 : Int32).toInt = 2)).mp c10
    refine H.iloadN s1_17 rfl ?_
    refine H.iconst s1_18 (v := (1 : Int32)) (by decide) ?_
    refine H.iadd s1_19 rfl ?_
    exact H.ireturn s1_20 rfl (by simp) rfl ⟨by rw [own_pk, if_neg c10], rfl⟩ (by decide) (by decide)
  · have d10 : (((b.toUInt32 >>> ((4 : Int32) &&& 31).toUInt32).toInt32) &&& (3 : Int32)).toInt < 2 := (i_lt rfl (by decide : (2 : Int32).toInt = 2)).mp c10
    refine H.iloadN s1_13 rfl ?_
    refine H.goto s1_14 ?_
    exact H.ireturn s1_20 rfl (by simp) rfl ⟨by rw [own_pk, if_pos c10], rfl⟩ (by decide) (by decide)


set_option maxRecDepth 65536 in
set_option maxHeartbeats 40000000 in
theorem m_pick3 (l : Launch) {Z : State} {a0 : Array Value} (hw : HW1 Z a0) (n0 : Nat) (A : List Ob) (b : Int32) : Met l Z KT n0 y1 method_3_code 3 (some .int) ({ frames := 0, cells := 0, slots := 0, locals := 0 } : Room) #[(.int b), (.int (3 : Int32))] A (Is (some (.int (own_pk ((b.toUInt32 >>> ((6 : Int32) &&& 31).toUInt32).toInt32 &&& (3 : Int32)) (3 : Int32)))) A) := by
  refine Met.of (a0 := a0) (ls := #[.val (.int b), .val (.int (3 : Int32)), .unset]) (kok hw) (plainFor_of_name pn_1) (fun m => by first | (simp [entryFrame, mkF, argsToLocals, Value.category]; done) | rfl) (fun G H => ?_)
  refine H.iloadN s1_0 rfl ?_
  refine H.iconst s1_1 (v := (2 : Int32)) (by decide) ?_
  refine H.iloadN s1_2 rfl ?_
  refine H.imul s1_3 (w := (6 : Int32)) (by decide) ?_
  refine H.iushr s1_4 rfl ?_
  refine H.iconst s1_5 (v := (3 : Int32)) (by decide) ?_
  refine H.iand s1_6 rfl ?_
  refine H.istoreN s1_7 (ls' := #[.val (.int b), .val (.int (3 : Int32)), .val (.int (((b.toUInt32 >>> ((6 : Int32) &&& 31).toUInt32).toInt32) &&& (3 : Int32)))]) rfl ?_
  refine H.iloadN s1_8 rfl ?_
  refine H.iloadN s1_9 rfl ?_
  refine H.icmpS s1_10 (fun (c10 : ¬ (((b.toUInt32 >>> ((6 : Int32) &&& 31).toUInt32).toInt32) &&& (3 : Int32)) < (3 : Int32)) => ?_) (fun (c10 : (((b.toUInt32 >>> ((6 : Int32) &&& 31).toUInt32).toInt32) &&& (3 : Int32)) < (3 : Int32)) => ?_)
  · have d10 : 3 ≤ (((b.toUInt32 >>> ((6 : Int32) &&& 31).toUInt32).toInt32) &&& (3 : Int32)).toInt := (i_ge rfl (by decide : (3 : Int32).toInt = 3)).mp c10
    refine H.iloadN s1_17 rfl ?_
    refine H.iconst s1_18 (v := (1 : Int32)) (by decide) ?_
    refine H.iadd s1_19 rfl ?_
    exact H.ireturn s1_20 rfl (by simp) rfl ⟨by rw [own_pk, if_neg c10], rfl⟩ (by decide) (by decide)
  · have d10 : (((b.toUInt32 >>> ((6 : Int32) &&& 31).toUInt32).toInt32) &&& (3 : Int32)).toInt < 3 := (i_lt rfl (by decide : (3 : Int32).toInt = 3)).mp c10
    refine H.iloadN s1_13 rfl ?_
    refine H.goto s1_14 ?_
    exact H.ireturn s1_20 rfl (by simp) rfl ⟨by rw [own_pk, if_pos c10], rfl⟩ (by decide) (by decide)


set_option maxRecDepth 65536 in
set_option maxHeartbeats 40000000 in
theorem m_pick4 (l : Launch) {Z : State} {a0 : Array Value} (hw : HW1 Z a0) (n0 : Nat) (A : List Ob) (b : Int32) : Met l Z KT n0 y1 method_3_code 3 (some .int) ({ frames := 0, cells := 0, slots := 0, locals := 0 } : Room) #[(.int b), (.int (4 : Int32))] A (Is (some (.int (own_pk ((b.toUInt32 >>> ((8 : Int32) &&& 31).toUInt32).toInt32 &&& (3 : Int32)) (4 : Int32)))) A) := by
  refine Met.of (a0 := a0) (ls := #[.val (.int b), .val (.int (4 : Int32)), .unset]) (kok hw) (plainFor_of_name pn_1) (fun m => by first | (simp [entryFrame, mkF, argsToLocals, Value.category]; done) | rfl) (fun G H => ?_)
  refine H.iloadN s1_0 rfl ?_
  refine H.iconst s1_1 (v := (2 : Int32)) (by decide) ?_
  refine H.iloadN s1_2 rfl ?_
  refine H.imul s1_3 (w := (8 : Int32)) (by decide) ?_
  refine H.iushr s1_4 rfl ?_
  refine H.iconst s1_5 (v := (3 : Int32)) (by decide) ?_
  refine H.iand s1_6 rfl ?_
  refine H.istoreN s1_7 (ls' := #[.val (.int b), .val (.int (4 : Int32)), .val (.int (((b.toUInt32 >>> ((8 : Int32) &&& 31).toUInt32).toInt32) &&& (3 : Int32)))]) rfl ?_
  refine H.iloadN s1_8 rfl ?_
  refine H.iloadN s1_9 rfl ?_
  refine H.icmpS s1_10 (fun (c10 : ¬ (((b.toUInt32 >>> ((8 : Int32) &&& 31).toUInt32).toInt32) &&& (3 : Int32)) < (4 : Int32)) => ?_) (fun (c10 : (((b.toUInt32 >>> ((8 : Int32) &&& 31).toUInt32).toInt32) &&& (3 : Int32)) < (4 : Int32)) => ?_)
  · have d10 : 4 ≤ (((b.toUInt32 >>> ((8 : Int32) &&& 31).toUInt32).toInt32) &&& (3 : Int32)).toInt := (i_ge rfl (by decide : (4 : Int32).toInt = 4)).mp c10
    refine H.iloadN s1_17 rfl ?_
    refine H.iconst s1_18 (v := (1 : Int32)) (by decide) ?_
    refine H.iadd s1_19 rfl ?_
    exact H.ireturn s1_20 rfl (by simp) rfl ⟨by rw [own_pk, if_neg c10], rfl⟩ (by decide) (by decide)
  · have d10 : (((b.toUInt32 >>> ((8 : Int32) &&& 31).toUInt32).toInt32) &&& (3 : Int32)).toInt < 4 := (i_lt rfl (by decide : (4 : Int32).toInt = 4)).mp c10
    refine H.iloadN s1_13 rfl ?_
    refine H.goto s1_14 ?_
    exact H.ireturn s1_20 rfl (by simp) rfl ⟨by rw [own_pk, if_pos c10], rfl⟩ (by decide) (by decide)

theorem k_37 {Z : State} {a0 : Array Value} (hw : HW1 Z a0) : (Jvm.Cond.constant "com/example/sluice/sluice/algo/SpanningTreeFirstOutsidePinLaw" 7 (2147483647)).before a0 Z = true := (hw _ (List.mem_of_getElem? (i := 0) rfl))
theorem s0_1 : Nx code 1 (.ldc 7) 2 3 := ⟨at_1, rfl⟩
theorem s0_3 : Nx code 3 (.iand) 1 4 := ⟨at_3, rfl⟩
theorem s0_15 : Nx code 15 (.invokestatic 8) 3 18 := ⟨at_15, rfl⟩
theorem pd_7 : ∀ sig, parseMethodDescriptor "(II)I" = some sig → 2 = sig.parameters.length := npOf (r := some .int) (ps := [.int, .int]) (by decide +kernel) rfl
theorem k_38 {Z : State} {a0 : Array Value} (hw : HW1 Z a0) : SL Z a0 "com/example/sluice/sluice/algo/SpanningTreeFirstOutsidePinLaw" 8 y1 method_3_code 3 (some .int) 2 := ⟨(hw _ (List.mem_of_getElem? (i := 2) rfl)), (hw _ (List.mem_of_getElem? (i := 3) rfl)), (hw _ (List.mem_of_getElem? (i := 4) rfl)), (hw _ (List.mem_of_getElem? (i := 5) rfl)), ⟨by decide, by decide⟩, pd_7⟩
theorem s0_23 : Nx code 23 (.invokestatic 8) 3 26 := ⟨at_23, rfl⟩
theorem s0_31 : Nx code 31 (.invokestatic 8) 3 34 := ⟨at_31, rfl⟩
theorem s0_39 : Nx code 39 (.invokestatic 8) 3 42 := ⟨at_39, rfl⟩
theorem s0_47 : Nx code 47 (.invokestatic 8) 3 50 := ⟨at_47, rfl⟩

set_option maxRecDepth 65536 in
set_option maxHeartbeats 40000000 in
theorem own_j (l : Launch) {Z : State} {a0 : Array Value} (hw : HW1 Z a0) (n0 : Nat) (p0 p1 : Int32) {R P0 P1 P2 P3 P4 : Nat} (hR : R < 5) (h0 : P0 < 5) (g0 : P0 ≠ 0) (h1 : P1 < 5) (g1 : P1 ≠ 1) (h2 : P2 < 5) (g2 : P2 ≠ 2) (h3 : P3 < 5) (g3 : P3 ≠ 3) (h4 : P4 < 5) (g4 : P4 ≠ 4) {G : GoT} (H : IsGo l Z a0 KT n0 0 x code maxLocals ret room_1 (fun v _ => v = some (.int 1)) G) : Gu n0 (own_t p0 p1 (own_at P0 P1 P2 P3 P4 R)) G (51, own_l R, [], [.inr [own_i P0, own_i P1, own_i P2, own_i P3, own_i P4]], 1, 5) := by
  obtain ⟨fa, fb⟩ := own_fin hR
  have key : Gu n0 (own_t p0 p1 (own_at P0 P1 P2 P3 P4 R)) G (51, own_l R, [], [.inr (own_pl R P0 P1 P2 P3 P4)], 1, 5) := by
    have e1 := own_A_ok fa h0 h1 h2 h3 h4 g0 g1 g2 g3 g4
    unfold own_e1 at e1
    simp only [own_pl, own_c_z] at e1
    split at e1
    · next pc ls st v0 v1 v2 v3 v4 k' n' hg =>
      simp only [Bool.and_eq_true] at e1
      obtain ⟨⟨⟨⟨⟨t1, t2⟩, t3⟩, t4⟩, t5⟩, t6⟩ := e1
      have t1 := Nat.eq_of_beq_eq_true t1
      have t2 := eqL_ok eqS_ok t2
      have t3 := List.isEmpty_iff.mp t3
      have t4 := Nat.eq_of_beq_eq_true t4
      have t5 := Nat.eq_of_beq_eq_true t5
      subst t1 t2 t3 t4 t5
      split at t6
      · next a b c d e =>
        simp only [Bool.and_eq_true] at t6
        obtain ⟨⟨⟨⟨⟨a1, a2⟩, a3⟩, a4⟩, a5⟩, a6⟩ := t6
        obtain ⟨u1, v1⟩ := own_ckx a1
        obtain ⟨u2, v2⟩ := own_ckx a2
        obtain ⟨u3, v3⟩ := own_ckx a3
        obtain ⟨u4, v4⟩ := own_ckx a4
        obtain ⟨u5, v5⟩ := own_ckx a5
        have e2 := own_B_ok fb v1 v2 v3 v4 v5
        rw [own_zz2, own_zz2, own_zz2, own_zz2, own_zz2] at e2
        have a6 : own_tr R (own_zz R 0 a) (own_zz R 1 b) (own_zz R 2 c) (own_zz R 3 d) (own_zz R 4 e) = true := a6
        unfold own_E2 at e2
        rw [a6, cond_true] at e2
        have q := seg_ok (tabok l hw n0 (own_t p0 p1 (own_at P0 P1 P2 P3 P4 R))) 4000 0 _ _ hg rfl 0 rfl
        refine q.2 room_1 _ G rfl rfl (leb rfl) (leb rfl) H ?_
        unfold own_e2 at e2
        split at e2
        · next pc ls st A'' k'' n'' hg3 =>
          simp only [Bool.and_eq_true] at e2
          obtain ⟨⟨⟨w1, w2⟩, w3⟩, w4⟩ := e2
          have w1 := Nat.eq_of_beq_eq_true w1
          split at w2
          · next v =>
            have w2 := Nat.eq_of_beq_eq_true w2
            subst w1 w2
            rw [u1, u2, u3, u4, u5]
            refine (seg_ok (tabok l hw n0 (own_t p0 p1 (own_at P0 P1 P2 P3 P4 R))) 4000 0 _ _ hg3 rfl 0 rfl).2 room_1 _ G rfl rfl (Nat.le_of_ble_eq_true w3) (Nat.le_of_ble_eq_true w4) H ?_
            have e1 : upI (own_t p0 p1 (own_at P0 P1 P2 P3 P4 R)) (.ofNat 1) = 1 := by rw [upI_ok rfl]; decide
            simp only [Gu, List.map_cons, List.map_nil, upV, e1]
            exact H.ireturn s0_250 rfl (by simp) rfl rfl (Nat.le_of_ble_eq_true w3) (Nat.le_of_ble_eq_true w4)
          · cases w2
        · cases e2
      · cases t6
    · cases e1
  have c0 : R = 0 → own_at P0 P1 P2 P3 P4 R = P0 := fun e => by subst e; rfl
  have c1 : R = 1 → own_at P0 P1 P2 P3 P4 R = P1 := fun e => by subst e; rfl
  have c2 : R = 2 → own_at P0 P1 P2 P3 P4 R = P2 := fun e => by subst e; rfl
  have c3 : R = 3 → own_at P0 P1 P2 P3 P4 R = P3 := fun e => by subst e; rfl
  have c4 : R = 4 → own_at P0 P1 P2 P3 P4 R = P4 := fun e => by subst e; rfl
  simp only [Gu, own_pl, List.map_cons, List.map_nil, upO, own_cu h0 c0, own_cu h1 c1, own_cu h2 c2, own_cu h3 c3, own_cu h4 c4] at key ⊢
  exact key

set_option maxRecDepth 65536 in
set_option maxHeartbeats 40000000 in
theorem law_met (l : Launch) {Z : State} {a0 : Array Value} (hw : HW1 Z a0) (n0 : Nat) (p0 : Int32) (p1 : Int32) : Met l Z KT n0 x code maxLocals ret room_1 #[(.int p0), (.int p1)] [] (fun v _ => v = some (.int 1)) := by
  refine Met.of (a0 := a0) (ls := #[.val (.int p0), .val (.int p1), .unset, .unset, .unset, .unset]) (kok hw) (plainFor_of_name pn_1) (fun m => by first | (simp [entryFrame, mkF, argsToLocals, Value.category, maxLocals]; done) | rfl) (fun G H => ?_)
  obtain ⟨R, hR, eR⟩ := own_x6 p0
  obtain ⟨P0, h0, g0, e0⟩ := own_pk_x ((p1.toUInt32 >>> ((0 : Int32) &&& 31).toUInt32).toInt32 &&& (3 : Int32)) (0 : Int32) 0 (by decide) (by decide) (own_and3 _).1 (own_and3 _).2
  obtain ⟨P1, h1, g1, e1⟩ := own_pk_x ((p1.toUInt32 >>> ((2 : Int32) &&& 31).toUInt32).toInt32 &&& (3 : Int32)) (1 : Int32) 1 (by decide) (by decide) (own_and3 _).1 (own_and3 _).2
  obtain ⟨P2, h2, g2, e2⟩ := own_pk_x ((p1.toUInt32 >>> ((4 : Int32) &&& 31).toUInt32).toInt32 &&& (3 : Int32)) (2 : Int32) 2 (by decide) (by decide) (own_and3 _).1 (own_and3 _).2
  obtain ⟨P3, h3, g3, e3⟩ := own_pk_x ((p1.toUInt32 >>> ((6 : Int32) &&& 31).toUInt32).toInt32 &&& (3 : Int32)) (3 : Int32) 3 (by decide) (by decide) (own_and3 _).1 (own_and3 _).2
  obtain ⟨P4, h4, g4, e4⟩ := own_pk_x ((p1.toUInt32 >>> ((8 : Int32) &&& 31).toUInt32).toInt32 &&& (3 : Int32)) (4 : Int32) 4 (by decide) (by decide) (own_and3 _).1 (own_and3 _).2
  refine H.iloadN s0_0 rfl ?_
  refine H.ldc s0_1 (k_37 hw) ?_
  refine H.iand s0_3 rfl ?_
  refine H.iconst s0_4 (v := (5 : Int32)) (by decide) ?_
  refine H.irem s0_5 (by decide) (w := (upI (own_t p0 p1 (own_at P0 P1 P2 P3 P4 R)) (.ofNat R))) (eR _) ?_
  refine H.istoreN s0_6 (ls' := #[.val (.int p0), .val (.int p1), .val (.int (upI (own_t p0 p1 (own_at P0 P1 P2 P3 P4 R)) (.ofNat R))), .unset, .unset, .unset]) rfl ?_
  refine H.iconst s0_7 (v := (5 : Int32)) (by decide) ?_
  refine H.newarray s0_8 (ty := .int) rfl (k_0 hw) (N := 5) (cap := 5) (by decide) rfl (by decide) (by decide) rfl (by decide) (by decide) (i := 0) rfl (A' := [.inr (.int, [(.int (0 : Int32)), (.int (0 : Int32)), (.int (0 : Int32)), (.int (0 : Int32)), (.int (0 : Int32))])]) rfl (k' := 1) rfl (n' := 5) rfl ?_
  refine H.astoreN s0_10 rfl (ls' := #[.val (.int p0), .val (.int p1), .val (.int (upI (own_t p0 p1 (own_at P0 P1 P2 P3 P4 R)) (.ofNat R))), .val (.ref (n0 + 0)), .unset, .unset]) rfl ?_
  refine H.aloadN s0_11 rfl rfl ?_
  refine H.iconst s0_12 (v := (0 : Int32)) (by decide) ?_
  refine H.iloadN s0_13 rfl ?_
  refine H.iconst s0_14 (v := (0 : Int32)) (by decide) ?_
  refine H.callSD s0_15 (k_38 hw) (m_pick0 l hw n0 [.inr (.int, [(.int (0 : Int32)), (.int (0 : Int32)), (.int (0 : Int32)), (.int (0 : Int32)), (.int (0 : Int32))])] p1) (argsL := [(.int p1), (.int (0 : Int32))]) (rest := [(.int (0 : Int32)), (.ref (n0 + 0))]) rfl rfl rfl rfl (leb rfl) (leb rfl) (leb rfl) (leb rfl) (st' := [(.int (upI (own_t p0 p1 (own_at P0 P1 P2 P3 P4 R)) (.ofNat P0))), (.int (0 : Int32)), (.ref (n0 + 0))]) (by rw [e0 (own_t p0 p1 (own_at P0 P1 P2 P3 P4 R))]; rfl) (k' := 1) rfl (n' := 5) rfl ?_
  refine H.iastore s0_18 (i := 0) (j := 0) rfl (by decide) (ltb rfl)  (A' := [.inr (.int, [(.int (upI (own_t p0 p1 (own_at P0 P1 P2 P3 P4 R)) (.ofNat P0))), (.int (0 : Int32)), (.int (0 : Int32)), (.int (0 : Int32)), (.int (0 : Int32))])]) rfl ?_
  refine H.aloadN s0_19 rfl rfl ?_
  refine H.iconst s0_20 (v := (1 : Int32)) (by decide) ?_
  refine H.iloadN s0_21 rfl ?_
  refine H.iconst s0_22 (v := (1 : Int32)) (by decide) ?_
  refine H.callSD s0_23 (k_38 hw) (m_pick1 l hw n0 [.inr (.int, [(.int (upI (own_t p0 p1 (own_at P0 P1 P2 P3 P4 R)) (.ofNat P0))), (.int (0 : Int32)), (.int (0 : Int32)), (.int (0 : Int32)), (.int (0 : Int32))])] p1) (argsL := [(.int p1), (.int (1 : Int32))]) (rest := [(.int (1 : Int32)), (.ref (n0 + 0))]) rfl rfl rfl rfl (leb rfl) (leb rfl) (leb rfl) (leb rfl) (st' := [(.int (upI (own_t p0 p1 (own_at P0 P1 P2 P3 P4 R)) (.ofNat P1))), (.int (1 : Int32)), (.ref (n0 + 0))]) (by rw [e1 (own_t p0 p1 (own_at P0 P1 P2 P3 P4 R))]; rfl) (k' := 1) rfl (n' := 5) rfl ?_
  refine H.iastore s0_26 (i := 0) (j := 1) rfl (by decide) (ltb rfl)  (A' := [.inr (.int, [(.int (upI (own_t p0 p1 (own_at P0 P1 P2 P3 P4 R)) (.ofNat P0))), (.int (upI (own_t p0 p1 (own_at P0 P1 P2 P3 P4 R)) (.ofNat P1))), (.int (0 : Int32)), (.int (0 : Int32)), (.int (0 : Int32))])]) rfl ?_
  refine H.aloadN s0_27 rfl rfl ?_
  refine H.iconst s0_28 (v := (2 : Int32)) (by decide) ?_
  refine H.iloadN s0_29 rfl ?_
  refine H.iconst s0_30 (v := (2 : Int32)) (by decide) ?_
  refine H.callSD s0_31 (k_38 hw) (m_pick2 l hw n0 [.inr (.int, [(.int (upI (own_t p0 p1 (own_at P0 P1 P2 P3 P4 R)) (.ofNat P0))), (.int (upI (own_t p0 p1 (own_at P0 P1 P2 P3 P4 R)) (.ofNat P1))), (.int (0 : Int32)), (.int (0 : Int32)), (.int (0 : Int32))])] p1) (argsL := [(.int p1), (.int (2 : Int32))]) (rest := [(.int (2 : Int32)), (.ref (n0 + 0))]) rfl rfl rfl rfl (leb rfl) (leb rfl) (leb rfl) (leb rfl) (st' := [(.int (upI (own_t p0 p1 (own_at P0 P1 P2 P3 P4 R)) (.ofNat P2))), (.int (2 : Int32)), (.ref (n0 + 0))]) (by rw [e2 (own_t p0 p1 (own_at P0 P1 P2 P3 P4 R))]; rfl) (k' := 1) rfl (n' := 5) rfl ?_
  refine H.iastore s0_34 (i := 0) (j := 2) rfl (by decide) (ltb rfl)  (A' := [.inr (.int, [(.int (upI (own_t p0 p1 (own_at P0 P1 P2 P3 P4 R)) (.ofNat P0))), (.int (upI (own_t p0 p1 (own_at P0 P1 P2 P3 P4 R)) (.ofNat P1))), (.int (upI (own_t p0 p1 (own_at P0 P1 P2 P3 P4 R)) (.ofNat P2))), (.int (0 : Int32)), (.int (0 : Int32))])]) rfl ?_
  refine H.aloadN s0_35 rfl rfl ?_
  refine H.iconst s0_36 (v := (3 : Int32)) (by decide) ?_
  refine H.iloadN s0_37 rfl ?_
  refine H.iconst s0_38 (v := (3 : Int32)) (by decide) ?_
  refine H.callSD s0_39 (k_38 hw) (m_pick3 l hw n0 [.inr (.int, [(.int (upI (own_t p0 p1 (own_at P0 P1 P2 P3 P4 R)) (.ofNat P0))), (.int (upI (own_t p0 p1 (own_at P0 P1 P2 P3 P4 R)) (.ofNat P1))), (.int (upI (own_t p0 p1 (own_at P0 P1 P2 P3 P4 R)) (.ofNat P2))), (.int (0 : Int32)), (.int (0 : Int32))])] p1) (argsL := [(.int p1), (.int (3 : Int32))]) (rest := [(.int (3 : Int32)), (.ref (n0 + 0))]) rfl rfl rfl rfl (leb rfl) (leb rfl) (leb rfl) (leb rfl) (st' := [(.int (upI (own_t p0 p1 (own_at P0 P1 P2 P3 P4 R)) (.ofNat P3))), (.int (3 : Int32)), (.ref (n0 + 0))]) (by rw [e3 (own_t p0 p1 (own_at P0 P1 P2 P3 P4 R))]; rfl) (k' := 1) rfl (n' := 5) rfl ?_
  refine H.iastore s0_42 (i := 0) (j := 3) rfl (by decide) (ltb rfl)  (A' := [.inr (.int, [(.int (upI (own_t p0 p1 (own_at P0 P1 P2 P3 P4 R)) (.ofNat P0))), (.int (upI (own_t p0 p1 (own_at P0 P1 P2 P3 P4 R)) (.ofNat P1))), (.int (upI (own_t p0 p1 (own_at P0 P1 P2 P3 P4 R)) (.ofNat P2))), (.int (upI (own_t p0 p1 (own_at P0 P1 P2 P3 P4 R)) (.ofNat P3))), (.int (0 : Int32))])]) rfl ?_
  refine H.aloadN s0_43 rfl rfl ?_
  refine H.iconst s0_44 (v := (4 : Int32)) (by decide) ?_
  refine H.iloadN s0_45 rfl ?_
  refine H.iconst s0_46 (v := (4 : Int32)) (by decide) ?_
  refine H.callSD s0_47 (k_38 hw) (m_pick4 l hw n0 [.inr (.int, [(.int (upI (own_t p0 p1 (own_at P0 P1 P2 P3 P4 R)) (.ofNat P0))), (.int (upI (own_t p0 p1 (own_at P0 P1 P2 P3 P4 R)) (.ofNat P1))), (.int (upI (own_t p0 p1 (own_at P0 P1 P2 P3 P4 R)) (.ofNat P2))), (.int (upI (own_t p0 p1 (own_at P0 P1 P2 P3 P4 R)) (.ofNat P3))), (.int (0 : Int32))])] p1) (argsL := [(.int p1), (.int (4 : Int32))]) (rest := [(.int (4 : Int32)), (.ref (n0 + 0))]) rfl rfl rfl rfl (leb rfl) (leb rfl) (leb rfl) (leb rfl) (st' := [(.int (upI (own_t p0 p1 (own_at P0 P1 P2 P3 P4 R)) (.ofNat P4))), (.int (4 : Int32)), (.ref (n0 + 0))]) (by rw [e4 (own_t p0 p1 (own_at P0 P1 P2 P3 P4 R))]; rfl) (k' := 1) rfl (n' := 5) rfl ?_
  refine H.iastore s0_50 (i := 0) (j := 4) rfl (by decide) (ltb rfl)  (A' := [.inr (.int, [(.int (upI (own_t p0 p1 (own_at P0 P1 P2 P3 P4 R)) (.ofNat P0))), (.int (upI (own_t p0 p1 (own_at P0 P1 P2 P3 P4 R)) (.ofNat P1))), (.int (upI (own_t p0 p1 (own_at P0 P1 P2 P3 P4 R)) (.ofNat P2))), (.int (upI (own_t p0 p1 (own_at P0 P1 P2 P3 P4 R)) (.ofNat P3))), (.int (upI (own_t p0 p1 (own_at P0 P1 P2 P3 P4 R)) (.ofNat P4)))])]) rfl ?_
  exact own_j l hw n0 p0 p1 hR h0 g0 h1 g1 h2 g2 h3 g3 h4 g4 H

set_option maxRecDepth 65536 in
set_option maxHeartbeats 40000000 in
theorem comes_1 {Post : Tables → Env → Array Value → State → Outcome → State → Prop} (hpost : ∀ tb e args s v u, (limb_1_1.after args s (.returned v) u = true ∧ limb_1_2.after args s (.returned v) u = true ∧ True) → FrameEnd s (.returned v) u (Jvm.fieldLocs frame_1_writes args s ++ Jvm.arrayLocs frame_1_arrays args s ++ Jvm.staticLocs frame_1_statics s) 40 256 → Post tb e args s (.returned v) u) :
    ArmFor flags0 classFile x code maxLocals ret World_1 tables_1 room_1 Calls_1 rest_1 Pre_1 Post := by
  intro l hfl _ _ p e ha hc hk s m args below hf hA hF happ hP
  obtain ⟨hcalls, hrest, hpre⟩ := hP
  obtain ⟨-, -, -, hnamed, -, -, -, hat⟩ := (Spec.applies_iff hf).mp happ
  obtain ⟨hg, hn⟩ := and_e (Cond.before_iff.mp (show (Jvm.Cond.and given_1 narrow_1).before args s = true from hpre))
  obtain ⟨hc0, hr0⟩ := and_e hg
  obtain ⟨w0, w1, rfl⟩ : ∃ w0 w1 : Value, args = #[w0, w1] := by
    have hs : args.size = 2 := by simpa [Cond.value, given_1] using hc0
    obtain ⟨L⟩ := args
    match L, hs with
    | [w0, w1], _ => exact ⟨w0, w1, rfl⟩
  have hw : HW1 s _ := fun d (hd : d ∈ tables_1) => atoms_spec (ws := Jvm.Cond.code x code maxLocals ret :: tables_1) hat d (List.mem_cons_of_mem _ hd)
  obtain ⟨hx0, hr1⟩ := and_e hr0
  obtain ⟨i0, ee0⟩ := is_v hx0
  obtain rfl : w0 = (.int i0) := Option.some.inj ee0
  have hx1 := hr1
  obtain ⟨i1, ee1⟩ := is_v hx1
  obtain rfl : w1 = (.int i1) := Option.some.inj ee1
  obtain ⟨n, o, h1, h2, h3, _, L, rfl, ⟨A', rfl, hRel, N⟩, hq⟩ := law_met l hw s.heap.size i0 i1 tables_1 s.heap ⟨rfl, fun i o h => by simp at h⟩ p e ha hc hk s m _ below hf ((Spec.applies_iff_loose hf).mp happ).1 ⟨rfl, State.Warmed39.refl s, rfl⟩ trivial
  refine ⟨n, _, h1, h2, h3, hpost _ _ _ _ _ _ ⟨Cond.after_iff.mpr rfl, Cond.after_iff.mpr (eq_i res_at (Term.int_eval (1)) rfl), trivial⟩ ⟨hq.1, hq.2.1, (hq.2.2.sift fun y hy => Or.inr (N y hy)).mono (by decide) (by decide)⟩⟩
theorem main_1_1 : Claimed_1_1 := comes_1 fun _ _ _ _ _ _ h hF => ⟨h.1, hF⟩
theorem main_1_2 : Claimed_1_2 := comes_1 fun _ _ _ _ _ _ h hF => ⟨h.2.1, hF⟩
end Jvm.Pilot.@@N@@
namespace Jvm.Pilot.@@N@@
open Jvm Jvm.ClassFile Sem Op Lib Jvm.Free Jvm.Stand Jvm.Pilot.@@N@@.Jvm.D
/-! MADE BY PROGRAM (witnessworld.py) out of the Statement's table words and the real class files: 11 classes; the members and pool entries that the words name. The judged class is class 1, her method 1. -/
namespace start1
open Jvm.ClassFile
def u (s : String) : CpInfo := .utf8 (stringToUtf16 s)
/-- a pool by its gaps: so many unusable entries, then the entry; so many at the end -/
def gap : Nat → List CpInfo → List CpInfo
  | 0, r => r
  | n + 1, r => .unusable :: gap n r
def poolList (es : List (Nat × CpInfo)) (last : Nat) : List CpInfo := es.foldr (fun e r => gap e.1 (e.2 :: r)) (gap last [])
def pool (es : List (Nat × CpInfo)) (last : Nat) : Array CpInfo := ⟨poolList es last⟩
def fileOf (pool : Array CpInfo) (this : Nat) (attrs : Array Attribute := #[]) (ms : Array MethodInfo := #[]) (fl : Nat := 33) (sup : Nat := 0) (ifs : Array Nat := #[]) (fds : Array FieldInfo := #[]) : ClassFile where
  minorVersion := 0
  majorVersion := 65
  constantPool := pool
  accessFlags := fl
  thisClass := this
  superClass := sup
  interfaces := ifs
  fields := fds
  methods := ms
  attributes := attrs
def plain (name : String) (sup : Option ClassId) : Class where
  name := name
  kind := .ordinary
  loader := none
  accessFlags := 33
  super := sup
  interfaces := #[]
  cf := none
  fields := #[]
  methods := #[]
  instanceTypes := #[]
  staticTypes := #[]
  resolved := #[]
  callSites := []
  init := .initialized
  statics := none
  mirror := none

def pool0 : Array CpInfo := pool [(5, u "<init>"), (0, u "()V"), (1, .class_ 10), (1, u "java/lang/Object"), (85, u "clone"), (0, u "()Ljava/lang/Object;")] 26

def k0c0 : Code := { maxStack := 0, maxLocals := 1, code := object_method_1_code, exceptionTable := #[], attributes := #[] }
def k0m0 : Method := { name := "<init>", desc := "()V", sig := { parameters := [], returnType := none }, accessFlags := 1, code := some k0c0 }
def k0m1 : Method := { name := "clone", desc := "()Ljava/lang/Object;", sig := { parameters := [], returnType := some (.object "java/lang/Object") }, accessFlags := 260, code := none }
/-- java/lang/Object -/
def k0 : Class := { plain "java/lang/Object" none with
  accessFlags := 33
  interfaces := #[]
  cf := some (fileOf pool0 8 #[] #[{ accessFlags := 1, nameIndex := 5, descriptorIndex := 6, attributes := #[] }, { accessFlags := 260, nameIndex := 96, descriptorIndex := 97, attributes := #[] }] 33 0 #[] #[])
  fields := #[]
  methods := #[k0m0, k0m1]
  instanceTypes := #[]
  staticTypes := #[]
  resolved := Array.replicate 124 none
  statics := none }

def pool1 : Array CpInfo := pool [(2, .class_ 4), (1, u "java/lang/Object"), (0, u "<init>"), (0, u "()V"), (0, .integer 2147483647), (0, .methodref 9 10), (0, .class_ 11), (0, .nameAndType 12 13), (0, u "com/example/sluice/sluice/algo/SpanningTreeFirstOutsidePinLaw"), (0, u "pick"), (0, u "(II)I"), (0, .methodref 9 15), (0, .nameAndType 16 17), (0, u "fix"), (0, u "([III)I"), (0, .class_ 19), (0, u "com/example/sluice/sluice/algo/SpanningTree"), (0, .methodref 18 21), (0, .nameAndType 5 22), (0, u "(I[I[I)V"), (0, .methodref 18 24), (0, .nameAndType 25 26), (0, u "firstOutside"), (0, u "(I)I"), (0, .methodref 9 28), (0, .nameAndType 29 17), (0, u "ref"), (0, .methodref 9 31), (0, .nameAndType 32 33), (0, u "climbs"), (0, u "([III)Z"), (0, .methodref 9 35), (0, .nameAndType 36 37), (0, u "cand"), (0, u "([IIIIII)I"), (0, .methodref 9 39), (0, .nameAndType 40 17), (0, u "sib"), (2, u "law"), (0, u "(II)Z")] 5

def k1m0 : Method := { name := "<init>", desc := "()V", sig := { parameters := [], returnType := none }, accessFlags := 1, code := none }
def k1c1 : Code := { maxStack := 5, maxLocals := 6, code := code, exceptionTable := #[], attributes := #[] }
def k1m1 : Method := { name := "law", desc := "(II)Z", sig := { parameters := [.int, .int], returnType := some .boolean }, accessFlags := 9, code := some k1c1 }
def k1c2 : Code := { maxStack := 3, maxLocals := 3, code := method_3_code, exceptionTable := #[], attributes := #[] }
def k1m2 : Method := { name := "pick", desc := "(II)I", sig := { parameters := [.int, .int], returnType := some .int }, accessFlags := 10, code := some k1c2 }
def k1c3 : Code := { maxStack := 2, maxLocals := 3, code := method_4_code, exceptionTable := #[], attributes := #[] }
def k1m3 : Method := { name := "climbs", desc := "([III)Z", sig := { parameters := [(.array .int), .int, .int], returnType := some .boolean }, accessFlags := 10, code := some k1c3 }
def k1c4 : Code := { maxStack := 3, maxLocals := 3, code := method_5_code, exceptionTable := #[], attributes := #[] }
def k1m4 : Method := { name := "fix", desc := "([III)I", sig := { parameters := [(.array .int), .int, .int], returnType := some .int }, accessFlags := 10, code := some k1c4 }
def k1c5 : Code := { maxStack := 2, maxLocals := 6, code := method_6_code, exceptionTable := #[], attributes := #[] }
def k1m5 : Method := { name := "cand", desc := "([IIIIII)I", sig := { parameters := [(.array .int), .int, .int, .int, .int, .int], returnType := some .int }, accessFlags := 10, code := some k1c5 }
def k1c6 : Code := { maxStack := 6, maxLocals := 5, code := method_7_code, exceptionTable := #[], attributes := #[] }
def k1m6 : Method := { name := "sib", desc := "([III)I", sig := { parameters := [(.array .int), .int, .int], returnType := some .int }, accessFlags := 10, code := some k1c6 }
def k1c7 : Code := { maxStack := 3, maxLocals := 5, code := method_8_code, exceptionTable := #[], attributes := #[] }
def k1m7 : Method := { name := "ref", desc := "([III)I", sig := { parameters := [(.array .int), .int, .int], returnType := some .int }, accessFlags := 10, code := some k1c7 }
/-- com/example/sluice/sluice/algo/SpanningTreeFirstOutsidePinLaw -/
def k1 : Class := { plain "com/example/sluice/sluice/algo/SpanningTreeFirstOutsidePinLaw" (some 0) with
  accessFlags := 49
  interfaces := #[]
  cf := some (fileOf pool1 9 #[] #[{ accessFlags := 1, nameIndex := 5, descriptorIndex := 6, attributes := #[] }, { accessFlags := 9, nameIndex := 43, descriptorIndex := 44, attributes := #[] }, { accessFlags := 10, nameIndex := 12, descriptorIndex := 13, attributes := #[] }, { accessFlags := 10, nameIndex := 32, descriptorIndex := 33, attributes := #[] }, { accessFlags := 10, nameIndex := 16, descriptorIndex := 17, attributes := #[] }, { accessFlags := 10, nameIndex := 36, descriptorIndex := 37, attributes := #[] }, { accessFlags := 10, nameIndex := 40, descriptorIndex := 17, attributes := #[] }, { accessFlags := 10, nameIndex := 29, descriptorIndex := 17, attributes := #[] }] 49 2 #[] #[])
  fields := #[]
  methods := #[k1m0, k1m1, k1m2, k1m3, k1m4, k1m5, k1m6, k1m7]
  instanceTypes := #[]
  staticTypes := #[]
  resolved := Array.replicate 50 none
  statics := none }

def pool2 : Array CpInfo := pool [(1, .methodref 2 3), (0, .class_ 4), (0, .nameAndType 5 6), (0, u "java/lang/Object"), (0, u "<init>"), (0, u "()V"), (0, .methodref 8 9), (0, .class_ 10), (0, .nameAndType 11 12), (0, u "[I"), (0, u "clone"), (0, u "()Ljava/lang/Object;"), (0, .fieldref 14 15), (0, .class_ 16), (0, .nameAndType 17 10), (0, u "com/example/sluice/sluice/algo/SpanningTree"), (0, u "parent"), (0, .fieldref 14 19), (0, .nameAndType 20 10), (0, u "arc"), (0, .fieldref 14 22), (0, .nameAndType 23 10), (0, u "size"), (0, .fieldref 14 25), (0, .nameAndType 26 10), (0, u "following"), (0, .fieldref 14 28), (0, .nameAndType 29 10), (0, u "preceding"), (0, .fieldref 14 31), (0, .nameAndType 32 10), (0, u "last"), (0, .class_ 34), (0, u "com/example/sluice/sluice/algo/ByVertex"), (0, .methodref 33 36), (0, .nameAndType 5 37), (0, u "([II)V"), (0, .methodref 33 39), (0, .nameAndType 40 41), (0, u "end"), (0, u "(I)I"), (0, .methodref 33 43), (0, .nameAndType 44 41), (0, u "start"), (0, .methodref 33 46), (0, .nameAndType 47 41), (0, u "item"), (0, .methodref 14 49), (0, .nameAndType 50 51), (0, u "link"), (0, u "(II)V"), (0, u "NONE"), (0, u "I"), (2, u "(I[I[I)V"), (6, u "firstOutside")] 5

def k2c0 : Code := { maxStack := 7, maxLocals := 13, code := prog_25_method_1_code, exceptionTable := #[], attributes := #[] }
def k2m0 : Method := { name := "<init>", desc := "(I[I[I)V", sig := { parameters := [.int, (.array .int), (.array .int)], returnType := none }, accessFlags := 0, code := some k2c0 }
def k2c1 : Code := { maxStack := 3, maxLocals := 2, code := prog_25_method_7_code, exceptionTable := #[], attributes := #[] }
def k2m1 : Method := { name := "firstOutside", desc := "(I)I", sig := { parameters := [.int], returnType := some .int }, accessFlags := 0, code := some k2c1 }
def k2c2 : Code := { maxStack := 3, maxLocals := 3, code := prog_25_method_10_code, exceptionTable := #[], attributes := #[] }
def k2m2 : Method := { name := "link", desc := "(II)V", sig := { parameters := [.int, .int], returnType := none }, accessFlags := 2, code := some k2c2 }
/-- com/example/sluice/sluice/algo/SpanningTree -/
def k2 : Class := { plain "com/example/sluice/sluice/algo/SpanningTree" (some 0) with
  accessFlags := 48
  interfaces := #[]
  cf := some (fileOf pool2 14 #[] #[{ accessFlags := 0, nameIndex := 5, descriptorIndex := 56, attributes := #[] }, { accessFlags := 0, nameIndex := 63, descriptorIndex := 41, attributes := #[] }, { accessFlags := 2, nameIndex := 50, descriptorIndex := 51, attributes := #[] }] 48 2 #[] #[{ accessFlags := 24, nameIndex := 52, descriptorIndex := 53, attributes := #[] }, { accessFlags := 18, nameIndex := 17, descriptorIndex := 10, attributes := #[] }, { accessFlags := 18, nameIndex := 20, descriptorIndex := 10, attributes := #[] }, { accessFlags := 18, nameIndex := 23, descriptorIndex := 10, attributes := #[] }, { accessFlags := 18, nameIndex := 26, descriptorIndex := 10, attributes := #[] }, { accessFlags := 18, nameIndex := 29, descriptorIndex := 10, attributes := #[] }, { accessFlags := 18, nameIndex := 32, descriptorIndex := 10, attributes := #[] }])
  fields := #[{ name := "NONE", type := .int, accessFlags := 24, slot := 0, constantValue := 0 }, { name := "parent", type := (.array .int), accessFlags := 18, slot := 0, constantValue := 0 }, { name := "arc", type := (.array .int), accessFlags := 18, slot := 1, constantValue := 0 }, { name := "size", type := (.array .int), accessFlags := 18, slot := 2, constantValue := 0 }, { name := "following", type := (.array .int), accessFlags := 18, slot := 3, constantValue := 0 }, { name := "preceding", type := (.array .int), accessFlags := 18, slot := 4, constantValue := 0 }, { name := "last", type := (.array .int), accessFlags := 18, slot := 5, constantValue := 0 }]
  methods := #[k2m0, k2m1, k2m2]
  instanceTypes := #[(.array .int), (.array .int), (.array .int), (.array .int), (.array .int), (.array .int)]
  staticTypes := #[.int]
  resolved := Array.replicate 69 none
  statics := none }

def pool3 : Array CpInfo := pool [(1, .class_ 2), (0, u "java/lang/Cloneable"), (0, .class_ 4), (0, u "java/lang/Object")] 2

/-- java/lang/Cloneable -/
def k3 : Class := { plain "java/lang/Cloneable" (some 0) with
  accessFlags := 1537
  interfaces := #[]
  cf := some (fileOf pool3 1 #[] #[] 1537 3 #[] #[])
  fields := #[]
  methods := #[]
  instanceTypes := #[]
  staticTypes := #[]
  resolved := Array.replicate 7 none
  statics := none }

def pool4 : Array CpInfo := pool [(1, .methodref 2 3), (0, .class_ 4), (0, .nameAndType 5 6), (0, u "java/lang/Object"), (0, u "<init>"), (0, u "()V"), (0, .fieldref 8 9), (0, .class_ 10), (0, .nameAndType 11 12), (0, u "com/example/sluice/sluice/algo/ByVertex"), (0, u "start"), (0, u "[I"), (0, .fieldref 8 14), (0, .nameAndType 15 12), (0, u "items"), (0, .methodref 17 18), (0, .class_ 19), (0, .nameAndType 20 21), (0, u "java/lang/System"), (0, u "arraycopy"), (0, u "(Ljava/lang/Object;ILjava/lang/Object;II)V"), (0, u "([II)V"), (4, u "(I)I"), (0, u "end"), (0, u "item")] 2

def k4c0 : Code := { maxStack := 6, maxLocals := 7, code := prog_5_method_1_code, exceptionTable := #[], attributes := #[] }
def k4m0 : Method := { name := "<init>", desc := "([II)V", sig := { parameters := [(.array .int), .int], returnType := none }, accessFlags := 0, code := some k4c0 }
def k4c1 : Code := { maxStack := 2, maxLocals := 2, code := prog_5_method_2_code, exceptionTable := #[], attributes := #[] }
def k4m1 : Method := { name := "start", desc := "(I)I", sig := { parameters := [.int], returnType := some .int }, accessFlags := 0, code := some k4c1 }
def k4c2 : Code := { maxStack := 3, maxLocals := 2, code := prog_5_method_3_code, exceptionTable := #[], attributes := #[] }
def k4m2 : Method := { name := "end", desc := "(I)I", sig := { parameters := [.int], returnType := some .int }, accessFlags := 0, code := some k4c2 }
def k4c3 : Code := { maxStack := 2, maxLocals := 2, code := prog_5_method_4_code, exceptionTable := #[], attributes := #[] }
def k4m3 : Method := { name := "item", desc := "(I)I", sig := { parameters := [.int], returnType := some .int }, accessFlags := 0, code := some k4c3 }
/-- com/example/sluice/sluice/algo/ByVertex -/
def k4 : Class := { plain "com/example/sluice/sluice/algo/ByVertex" (some 0) with
  accessFlags := 48
  interfaces := #[]
  cf := some (fileOf pool4 8 #[] #[{ accessFlags := 0, nameIndex := 5, descriptorIndex := 22, attributes := #[] }, { accessFlags := 0, nameIndex := 11, descriptorIndex := 27, attributes := #[] }, { accessFlags := 0, nameIndex := 28, descriptorIndex := 27, attributes := #[] }, { accessFlags := 0, nameIndex := 29, descriptorIndex := 27, attributes := #[] }] 48 2 #[] #[{ accessFlags := 18, nameIndex := 11, descriptorIndex := 12, attributes := #[] }, { accessFlags := 18, nameIndex := 15, descriptorIndex := 12, attributes := #[] }])
  fields := #[{ name := "start", type := (.array .int), accessFlags := 18, slot := 0, constantValue := 0 }, { name := "items", type := (.array .int), accessFlags := 18, slot := 1, constantValue := 0 }]
  methods := #[k4m0, k4m1, k4m2, k4m3]
  instanceTypes := #[(.array .int), (.array .int)]
  staticTypes := #[]
  resolved := Array.replicate 32 none
  statics := none }

def pool5 : Array CpInfo := pool [(2, .class_ 4), (1, u "java/lang/Object"), (0, u "<init>"), (0, u "()V"), (1, .class_ 10), (1, u "java/lang/System"), (0, u "allowSecurityManager"), (0, u "I"), (16, u "cons"), (0, u "Ljava/io/Console;"), (77, .class_ 110), (1, u "java/lang/System$CallersHolder"), (43, u "initialErrStream"), (0, u "Ljava/io/PrintStream;"), (19, u "security"), (0, u "Ljava/lang/SecurityManager;"), (31, .class_ 209), (0, u "java/lang/System$1"), (7, u "props"), (0, u "Ljava/util/Properties;"), (2, u "lineSeparator"), (0, u "Ljava/lang/String;"), (96, .class_ 321), (1, u "java/lang/System$LoggerFinder"), (5, .class_ 328), (0, u "java/lang/System$Logger"), (67, u "err"), (2, u "out"), (91, u "notSupportedJnuEncoding"), (15, u "in"), (17, u "initialIn"), (0, u "Ljava/io/InputStream;"), (35, u "bootLayer"), (0, u "Ljava/lang/ModuleLayer;"), (99, .class_ 664), (0, u "java/lang/System$2"), (9, u "NEVER"), (2, u "MAYBE"), (49, u "arraycopy"), (0, u "(Ljava/lang/Object;ILjava/lang/Object;II)V"), (72, .class_ 802), (0, u "java/lang/System$Logger$Level")] 31

def k5m0 : Method := { name := "<init>", desc := "()V", sig := { parameters := [], returnType := none }, accessFlags := 2, code := none }
def k5m1 : Method := { name := "arraycopy", desc := "(Ljava/lang/Object;ILjava/lang/Object;II)V", sig := { parameters := [(.object "java/lang/Object"), .int, (.object "java/lang/Object"), .int, .int], returnType := none }, accessFlags := 265, code := none }
/-- java/lang/System -/
def k5 : Class := { plain "java/lang/System" (some 0) with
  accessFlags := 49
  interfaces := #[]
  cf := some (fileOf pool5 8 #[.nestMembers #[319, 327, 801, 108, 663, 208]] #[{ accessFlags := 2, nameIndex := 5, descriptorIndex := 6, attributes := #[] }, { accessFlags := 265, nameIndex := 727, descriptorIndex := 728, attributes := #[] }] 49 2 #[] #[{ accessFlags := 25, nameIndex := 507, descriptorIndex := 526, attributes := #[] }, { accessFlags := 25, nameIndex := 399, descriptorIndex := 155, attributes := #[] }, { accessFlags := 25, nameIndex := 396, descriptorIndex := 155, attributes := #[] }, { accessFlags := 10, nameIndex := 525, descriptorIndex := 526, attributes := #[] }, { accessFlags := 26, nameIndex := 674, descriptorIndex := 12, attributes := #[] }, { accessFlags := 26, nameIndex := 677, descriptorIndex := 12, attributes := #[] }, { accessFlags := 10, nameIndex := 11, descriptorIndex := 12, attributes := #[] }, { accessFlags := 74, nameIndex := 175, descriptorIndex := 176, attributes := #[] }, { accessFlags := 10, nameIndex := 491, descriptorIndex := 222, attributes := #[] }, { accessFlags := 74, nameIndex := 29, descriptorIndex := 30, attributes := #[] }, { accessFlags := 74, nameIndex := 154, descriptorIndex := 155, attributes := #[] }, { accessFlags := 10, nameIndex := 217, descriptorIndex := 218, attributes := #[] }, { accessFlags := 10, nameIndex := 221, descriptorIndex := 222, attributes := #[] }, { accessFlags := 8, nameIndex := 562, descriptorIndex := 563, attributes := #[] }])
  fields := #[{ name := "in", type := (.object "java/io/InputStream"), accessFlags := 25, slot := 0, constantValue := 0 }, { name := "out", type := (.object "java/io/PrintStream"), accessFlags := 25, slot := 1, constantValue := 0 }, { name := "err", type := (.object "java/io/PrintStream"), accessFlags := 25, slot := 2, constantValue := 0 }, { name := "initialIn", type := (.object "java/io/InputStream"), accessFlags := 10, slot := 3, constantValue := 0 }, { name := "NEVER", type := .int, accessFlags := 26, slot := 4, constantValue := 0 }, { name := "MAYBE", type := .int, accessFlags := 26, slot := 5, constantValue := 0 }, { name := "allowSecurityManager", type := .int, accessFlags := 10, slot := 6, constantValue := 0 }, { name := "security", type := (.object "java/lang/SecurityManager"), accessFlags := 74, slot := 7, constantValue := 0 }, { name := "notSupportedJnuEncoding", type := (.object "java/lang/String"), accessFlags := 10, slot := 8, constantValue := 0 }, { name := "cons", type := (.object "java/io/Console"), accessFlags := 74, slot := 9, constantValue := 0 }, { name := "initialErrStream", type := (.object "java/io/PrintStream"), accessFlags := 74, slot := 10, constantValue := 0 }, { name := "props", type := (.object "java/util/Properties"), accessFlags := 10, slot := 11, constantValue := 0 }, { name := "lineSeparator", type := (.object "java/lang/String"), accessFlags := 10, slot := 12, constantValue := 0 }, { name := "bootLayer", type := (.object "java/lang/ModuleLayer"), accessFlags := 8, slot := 13, constantValue := 0 }]
  methods := #[k5m0, k5m1]
  instanceTypes := #[]
  staticTypes := #[(.object "java/io/InputStream"), (.object "java/io/PrintStream"), (.object "java/io/PrintStream"), (.object "java/io/InputStream"), .int, .int, .int, (.object "java/lang/SecurityManager"), (.object "java/lang/String"), (.object "java/io/Console"), (.object "java/io/PrintStream"), (.object "java/util/Properties"), (.object "java/lang/String"), (.object "java/lang/ModuleLayer")]
  resolved := Array.replicate 834 none
  statics := none }

def pool6 : Array CpInfo := pool [(1, u "java/io/Serializable"), (0, .class_ 1), (0, u "java/lang/Object"), (0, .class_ 3)] 3

/-- java/io/Serializable -/
def k6 : Class := { plain "java/io/Serializable" (some 0) with
  accessFlags := 1537
  interfaces := #[]
  cf := some (fileOf pool6 2 #[] #[] 1537 4 #[] #[])
  fields := #[]
  methods := #[]
  instanceTypes := #[]
  staticTypes := #[]
  resolved := Array.replicate 8 none
  statics := none }

/-- the primitive byte -/
def k7 : Class := { plain "byte" none with kind := .primitive 'B', accessFlags := 0x411 }
/-- [B -/
def k8 : Class := { plain "[B" (some 0) with kind := .array 7 .byte, interfaces := #[3, 6], accessFlags := 1041 }

/-- the primitive int -/
def k9 : Class := { plain "int" none with kind := .primitive 'I', accessFlags := 0x411 }
/-- [I -/
def k10 : Class := { plain "[I" (some 0) with kind := .array 9 .int, interfaces := #[3, 6], accessFlags := 1041 }

def heap : Heap := #[]
def classes : Array Class := #[k0, k1, k2, k3, k4, k5, k6, k7, k8, k9, k10]
def interned : List (Array UInt16 × Addr) := []
def slotsUsed : Nat := 0
def theMethod : MethodId := ⟨1, 1⟩
def args0 : Array Value := #[.int 5, .int 6]
def aboutOver (below : List Frame) : State where
  vm := { classes := classes, interned := interned.toArray }
  heap := heap
  slotsUsed := slotsUsed
  threads := #[{ frames := .invoking theMethod args0 :: below }]
def below0 : List Frame := [.native { method := ⟨0, 0⟩, args := #[] }]
def about1 : State := aboutOver below0
def p0 : Program := .bare "" "" ""
def e0 : Env := launch0.env 0 0 0
theorem w_frames : about1.frames = Frame.invoking theMethod args0 :: below0 := rfl
set_option maxRecDepth 65536 in
theorem w_args : argsFit about1.vm theMethod args0 = true := by decide +kernel
set_option maxRecDepth 65536 in
theorem w_heap : heapFits about1 = true := by decide +kernel
set_option maxRecDepth 65536 in
theorem w_runnable : about1.curStatus? = some .runnable := by decide +kernel
set_option maxRecDepth 65536 in
theorem w_alone : about1.alone = true := by decide +kernel
set_option maxRecDepth 65536 in
theorem w_named : about1.methodNamed? x = some theMethod := by decide +kernel
set_option maxRecDepth 65536 in
theorem w_hears : about1.hears theMethod below0 = true := by decide +kernel
set_option maxRecDepth 65536 in
theorem w_ripe : about1.ripe theMethod args0 below0 = true := by decide +kernel
theorem w_running : about1.status = .running := rfl
set_option maxRecDepth 65536 in
theorem w_room : about1.hasRoom e0.platform room_1 = true :=
  launch0.hasRoom_least _ room_1 (by decide +kernel) (by decide +kernel) (by decide +kernel) (by decide +kernel) (by decide +kernel) (by decide +kernel)
theorem allAtoms_all (ts : List Jvm.Cond) (a : Array Jvm.Value) (st : Jvm.State) : (allAtoms ts).before a st = ts.all (fun c => c.before a st) := by
  induction ts with
  | nil => rfl
  | cons c t ih =>
    show (Jvm.Cond.and c (allAtoms t)).before a st = _
    rw [Jvm.Cond.before_and, ih, List.all_cons]
def words1 : List Jvm.Cond := Jvm.Cond.code x code maxLocals ret :: tables_1
/-- a 'code' word, met by the world's own term for the bytes: nothing is compared byte by byte -/
theorem code_word {y : MethodName} {bytes : ByteArray} {mx : Nat} {rt : Option FieldType} {a : Array Value} {s : State} {m : MethodId} {meth : Method} {c : Code} (h1 : s.methodNamed? y = some m) (h2 : s.vm.method? m = some meth) (h3 : meth.code = some c) (h4 : c.code = bytes)
    (h5 : (c.maxLocals == mx && c.exceptionTable.isEmpty && decide (c.maxStack ≤ mostOperands) && decide (meth.sig.returnType = rt) && !meth.locks && decide (parseMethodDescriptor y.desc = some meth.sig)) = true) : (Jvm.Cond.code y bytes mx rt).before a s = true := by
  simp only [Bool.and_eq_true, beq_iff_eq, Bool.not_eq_true', decide_eq_true_eq] at h5
  obtain ⟨⟨⟨⟨⟨g1, g2⟩, g3⟩, g4⟩, g5⟩, g6⟩ := h5
  simp [Cond.before, Cond.holds, Cond.value, h1, h2, h3, h4, g1, g2, g3, g4, g5, g6]
def isCode : Jvm.Cond → Bool
  | .code _ _ _ _ => true
  | _ => false
theorem all_split {L : List Jvm.Cond} {P : Jvm.Cond → Bool} (h1 : L.all (fun c => isCode c || P c) = true) (h2 : ∀ c ∈ L.filter isCode, P c = true) : L.all P = true := by
  refine List.all_eq_true.mpr fun c hc => ?_
  have h := List.all_eq_true.mp h1 c hc
  rcases Bool.eq_false_or_eq_true (isCode c) with hi | hi
  · exact h2 c (List.mem_filter.mpr ⟨hc, hi⟩)
  · simpa [hi] using h
set_option maxRecDepth 65536 in
theorem w_c0 : (Jvm.Cond.code x code maxLocals ret).before args0 about1 = true := code_word (m := ⟨1, 1⟩) (meth := k1m1) (c := k1c1) (by decide +kernel) rfl rfl rfl (by decide +kernel)
set_option maxRecDepth 65536 in
theorem w_c1 : (Jvm.Cond.code ({ cls := "com/example/sluice/sluice/algo/SpanningTreeFirstOutsidePinLaw", name := "pick", desc := "(II)I" } : Jvm.MethodName) method_3_code (3 : Nat) (Option.some Jvm.ClassFile.FieldType.int)).before args0 about1 = true := code_word (m := ⟨1, 2⟩) (meth := k1m2) (c := k1c2) (by decide +kernel) rfl rfl rfl (by decide +kernel)
set_option maxRecDepth 65536 in
theorem w_c2 : (Jvm.Cond.code ({ cls := "com/example/sluice/sluice/algo/SpanningTreeFirstOutsidePinLaw", name := "fix", desc := "([III)I" } : Jvm.MethodName) method_5_code (3 : Nat) (Option.some Jvm.ClassFile.FieldType.int)).before args0 about1 = true := code_word (m := ⟨1, 4⟩) (meth := k1m4) (c := k1c4) (by decide +kernel) rfl rfl rfl (by decide +kernel)
set_option maxRecDepth 65536 in
theorem w_c3 : (Jvm.Cond.code ({ cls := "com/example/sluice/sluice/algo/SpanningTreeFirstOutsidePinLaw", name := "climbs", desc := "([III)Z" } : Jvm.MethodName) method_4_code (3 : Nat) (Option.some Jvm.ClassFile.FieldType.boolean)).before args0 about1 = true := code_word (m := ⟨1, 3⟩) (meth := k1m3) (c := k1c3) (by decide +kernel) rfl rfl rfl (by decide +kernel)
set_option maxRecDepth 65536 in
theorem w_c4 : (Jvm.Cond.code ({ cls := "com/example/sluice/sluice/algo/SpanningTree", name := "<init>", desc := "(I[I[I)V" } : Jvm.MethodName) prog_25_method_1_code (13 : Nat) (Option.none : Option Jvm.ClassFile.FieldType)).before args0 about1 = true := code_word (m := ⟨2, 0⟩) (meth := k2m0) (c := k2c0) (by decide +kernel) rfl rfl rfl (by decide +kernel)
set_option maxRecDepth 65536 in
theorem w_c5 : (Jvm.Cond.code ({ cls := "java/lang/Object", name := "<init>", desc := "()V" } : Jvm.MethodName) object_method_1_code (1 : Nat) (Option.none : Option Jvm.ClassFile.FieldType)).before args0 about1 = true := code_word (m := ⟨0, 0⟩) (meth := k0m0) (c := k0c0) (by decide +kernel) rfl rfl rfl (by decide +kernel)
set_option maxRecDepth 65536 in
theorem w_c6 : (Jvm.Cond.code ({ cls := "com/example/sluice/sluice/algo/ByVertex", name := "<init>", desc := "([II)V" } : Jvm.MethodName) prog_5_method_1_code (7 : Nat) (Option.none : Option Jvm.ClassFile.FieldType)).before args0 about1 = true := code_word (m := ⟨4, 0⟩) (meth := k4m0) (c := k4c0) (by decide +kernel) rfl rfl rfl (by decide +kernel)
set_option maxRecDepth 65536 in
theorem w_c7 : (Jvm.Cond.code ({ cls := "com/example/sluice/sluice/algo/ByVertex", name := "end", desc := "(I)I" } : Jvm.MethodName) prog_5_method_3_code (2 : Nat) (Option.some Jvm.ClassFile.FieldType.int)).before args0 about1 = true := code_word (m := ⟨4, 2⟩) (meth := k4m2) (c := k4c2) (by decide +kernel) rfl rfl rfl (by decide +kernel)
set_option maxRecDepth 65536 in
theorem w_c8 : (Jvm.Cond.code ({ cls := "com/example/sluice/sluice/algo/ByVertex", name := "start", desc := "(I)I" } : Jvm.MethodName) prog_5_method_2_code (2 : Nat) (Option.some Jvm.ClassFile.FieldType.int)).before args0 about1 = true := code_word (m := ⟨4, 1⟩) (meth := k4m1) (c := k4c1) (by decide +kernel) rfl rfl rfl (by decide +kernel)
set_option maxRecDepth 65536 in
theorem w_c9 : (Jvm.Cond.code ({ cls := "com/example/sluice/sluice/algo/ByVertex", name := "item", desc := "(I)I" } : Jvm.MethodName) prog_5_method_4_code (2 : Nat) (Option.some Jvm.ClassFile.FieldType.int)).before args0 about1 = true := code_word (m := ⟨4, 3⟩) (meth := k4m3) (c := k4c3) (by decide +kernel) rfl rfl rfl (by decide +kernel)
set_option maxRecDepth 65536 in
theorem w_c10 : (Jvm.Cond.code ({ cls := "com/example/sluice/sluice/algo/SpanningTree", name := "link", desc := "(II)V" } : Jvm.MethodName) prog_25_method_10_code (3 : Nat) (Option.none : Option Jvm.ClassFile.FieldType)).before args0 about1 = true := code_word (m := ⟨2, 2⟩) (meth := k2m2) (c := k2c2) (by decide +kernel) rfl rfl rfl (by decide +kernel)
set_option maxRecDepth 65536 in
theorem w_c11 : (Jvm.Cond.code ({ cls := "com/example/sluice/sluice/algo/SpanningTree", name := "firstOutside", desc := "(I)I" } : Jvm.MethodName) prog_25_method_7_code (2 : Nat) (Option.some Jvm.ClassFile.FieldType.int)).before args0 about1 = true := code_word (m := ⟨2, 1⟩) (meth := k2m1) (c := k2c1) (by decide +kernel) rfl rfl rfl (by decide +kernel)
set_option maxRecDepth 65536 in
theorem w_c12 : (Jvm.Cond.code ({ cls := "com/example/sluice/sluice/algo/SpanningTreeFirstOutsidePinLaw", name := "ref", desc := "([III)I" } : Jvm.MethodName) method_8_code (5 : Nat) (Option.some Jvm.ClassFile.FieldType.int)).before args0 about1 = true := code_word (m := ⟨1, 7⟩) (meth := k1m7) (c := k1c7) (by decide +kernel) rfl rfl rfl (by decide +kernel)
set_option maxRecDepth 65536 in
theorem w_c13 : (Jvm.Cond.code ({ cls := "com/example/sluice/sluice/algo/SpanningTreeFirstOutsidePinLaw", name := "sib", desc := "([III)I" } : Jvm.MethodName) method_7_code (5 : Nat) (Option.some Jvm.ClassFile.FieldType.int)).before args0 about1 = true := code_word (m := ⟨1, 6⟩) (meth := k1m6) (c := k1c6) (by decide +kernel) rfl rfl rfl (by decide +kernel)
set_option maxRecDepth 65536 in
theorem w_c14 : (Jvm.Cond.code ({ cls := "com/example/sluice/sluice/algo/SpanningTreeFirstOutsidePinLaw", name := "cand", desc := "([IIIIII)I" } : Jvm.MethodName) method_6_code (6 : Nat) (Option.some Jvm.ClassFile.FieldType.int)).before args0 about1 = true := code_word (m := ⟨1, 5⟩) (meth := k1m5) (c := k1c5) (by decide +kernel) rfl rfl rfl (by decide +kernel)
def codes1 : List Jvm.Cond := [Jvm.Cond.code x code maxLocals ret, Jvm.Cond.code ({ cls := "com/example/sluice/sluice/algo/SpanningTreeFirstOutsidePinLaw", name := "pick", desc := "(II)I" } : Jvm.MethodName) method_3_code (3 : Nat) (Option.some Jvm.ClassFile.FieldType.int), Jvm.Cond.code ({ cls := "com/example/sluice/sluice/algo/SpanningTreeFirstOutsidePinLaw", name := "fix", desc := "([III)I" } : Jvm.MethodName) method_5_code (3 : Nat) (Option.some Jvm.ClassFile.FieldType.int), Jvm.Cond.code ({ cls := "com/example/sluice/sluice/algo/SpanningTreeFirstOutsidePinLaw", name := "climbs", desc := "([III)Z" } : Jvm.MethodName) method_4_code (3 : Nat) (Option.some Jvm.ClassFile.FieldType.boolean), Jvm.Cond.code ({ cls := "com/example/sluice/sluice/algo/SpanningTree", name := "<init>", desc := "(I[I[I)V" } : Jvm.MethodName) prog_25_method_1_code (13 : Nat) (Option.none : Option Jvm.ClassFile.FieldType), Jvm.Cond.code ({ cls := "java/lang/Object", name := "<init>", desc := "()V" } : Jvm.MethodName) object_method_1_code (1 : Nat) (Option.none : Option Jvm.ClassFile.FieldType), Jvm.Cond.code ({ cls := "com/example/sluice/sluice/algo/ByVertex", name := "<init>", desc := "([II)V" } : Jvm.MethodName) prog_5_method_1_code (7 : Nat) (Option.none : Option Jvm.ClassFile.FieldType), Jvm.Cond.code ({ cls := "com/example/sluice/sluice/algo/ByVertex", name := "end", desc := "(I)I" } : Jvm.MethodName) prog_5_method_3_code (2 : Nat) (Option.some Jvm.ClassFile.FieldType.int), Jvm.Cond.code ({ cls := "com/example/sluice/sluice/algo/ByVertex", name := "start", desc := "(I)I" } : Jvm.MethodName) prog_5_method_2_code (2 : Nat) (Option.some Jvm.ClassFile.FieldType.int), Jvm.Cond.code ({ cls := "com/example/sluice/sluice/algo/ByVertex", name := "item", desc := "(I)I" } : Jvm.MethodName) prog_5_method_4_code (2 : Nat) (Option.some Jvm.ClassFile.FieldType.int), Jvm.Cond.code ({ cls := "com/example/sluice/sluice/algo/SpanningTree", name := "link", desc := "(II)V" } : Jvm.MethodName) prog_25_method_10_code (3 : Nat) (Option.none : Option Jvm.ClassFile.FieldType), Jvm.Cond.code ({ cls := "com/example/sluice/sluice/algo/SpanningTree", name := "firstOutside", desc := "(I)I" } : Jvm.MethodName) prog_25_method_7_code (2 : Nat) (Option.some Jvm.ClassFile.FieldType.int), Jvm.Cond.code ({ cls := "com/example/sluice/sluice/algo/SpanningTreeFirstOutsidePinLaw", name := "ref", desc := "([III)I" } : Jvm.MethodName) method_8_code (5 : Nat) (Option.some Jvm.ClassFile.FieldType.int), Jvm.Cond.code ({ cls := "com/example/sluice/sluice/algo/SpanningTreeFirstOutsidePinLaw", name := "sib", desc := "([III)I" } : Jvm.MethodName) method_7_code (5 : Nat) (Option.some Jvm.ClassFile.FieldType.int), Jvm.Cond.code ({ cls := "com/example/sluice/sluice/algo/SpanningTreeFirstOutsidePinLaw", name := "cand", desc := "([IIIIII)I" } : Jvm.MethodName) method_6_code (6 : Nat) (Option.some Jvm.ClassFile.FieldType.int)]
set_option maxRecDepth 65536 in
theorem codes_eq : words1.filter isCode = codes1 := rfl
theorem w_codes : ∀ c ∈ words1.filter isCode, c.before args0 about1 = true := by
  rw [codes_eq]
  intro c hc
  simp only [codes1, List.mem_cons, List.not_mem_nil, or_false] at hc
  rcases hc with rfl | rfl | rfl | rfl | rfl | rfl | rfl | rfl | rfl | rfl | rfl | rfl | rfl | rfl | rfl
  · exact w_c0
  · exact w_c1
  · exact w_c2
  · exact w_c3
  · exact w_c4
  · exact w_c5
  · exact w_c6
  · exact w_c7
  · exact w_c8
  · exact w_c9
  · exact w_c10
  · exact w_c11
  · exact w_c12
  · exact w_c13
  · exact w_c14
set_option maxRecDepth 65536 in
theorem w_t1 : (words1.take 24).all (fun c => isCode c || c.before args0 about1) = true := by decide +kernel
set_option maxRecDepth 65536 in
theorem w_t2 : ((words1.drop 24).take 24).all (fun c => isCode c || c.before args0 about1) = true := by decide +kernel
set_option maxRecDepth 65536 in
theorem w_t3 : (((words1.drop 24).drop 24).take 24).all (fun c => isCode c || c.before args0 about1) = true := by decide +kernel
set_option maxRecDepth 65536 in
theorem w_t4 : (((words1.drop 24).drop 24).drop 24).all (fun c => isCode c || c.before args0 about1) = true := by decide +kernel
theorem w_tables : (allAtoms (Jvm.Cond.code x code maxLocals ret :: tables_1)).before args0 about1 = true := by
  rw [allAtoms_all]
  show words1.all (fun c => c.before args0 about1) = true
  refine all_split ?_ w_codes
  rw [← List.take_append_drop 24 words1, List.all_append, w_t1, ← List.take_append_drop 24 (words1.drop 24), List.all_append, w_t2, ← List.take_append_drop 24 ((words1.drop 24).drop 24), List.all_append, w_t3, w_t4]
  rfl
set_option maxRecDepth 65536 in
theorem w_case : (Jvm.Cond.and given_1 narrow_1).before args0 about1 = true := by decide +kernel
theorem w_applies : (headSpec (Jvm.Cond.code x code maxLocals ret :: tables_1) room_1).applies x e0.platform about1 = true :=
  (Spec.applies_iff w_frames).mpr ⟨w_running, w_runnable, w_alone, w_named, w_hears, w_ripe, w_room, w_tables⟩
theorem atStart : AtStart classFile x code maxLocals ret World_1 tables_1 room_1 Calls_1 rest_1 Pre_1 launch0 p0 e0 about1 theMethod args0 below0 :=
  ⟨lists_1, trivial, launch0.admits_env _ _ _, launch0.least_env, fairChoices_fair.cas, fairChoices_fair.clock, w_frames, w_args, w_heap, w_applies, trivial, trivial, w_case⟩
end start1
theorem witness_1 : WitnessClaimed_1 := ⟨start1.p0, start1.e0, start1.about1, start1.theMethod, start1.args0, start1.below0, start1.atStart⟩
end Jvm.Pilot.@@N@@
