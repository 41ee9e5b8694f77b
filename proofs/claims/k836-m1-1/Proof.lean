import JvmDerived
import JvmDerived.Pilot.@@N@@Statement
import JvmDerived.Pilot.@@N@@Code
set_option linter.unusedVariables false
set_option linter.unusedSimpArgs false
namespace Jvm.OwnKit
open Sem ClassFile Op Lib Jvm.Free Jvm.Stand Jvm.LawKit Jvm.RoadKit
/-! My own layer: an abstract heap (a list of objects made since the law began) and one rule a bytecode step, each over a law of the library. -/
abbrev oz : Value := .int 0
abbrev ol : Value := .long 0
abbrev rf (n0 i : Nat) : Value := .ref (n0 + i)
abbrev Ob : Type := (Nat × List Value) ⊕ (FieldType × List Value)
abbrev KTab : Type := List (String × List (String × String × String))
def ObAt (Z : State) (K : KTab) (h : Heap) (a : Addr) : Ob → Prop
  | .inl (k, vs) => ∃ C fs, K[k]? = some (C, fs) ∧ Exa Z h a C ∧ vs.length = fs.length ∧ ∀ (j : Nat) (f : String × String × String) (v : Value), fs[j]? = some f → vs[j]? = some v → Fld Z h a f.1 f.2.1 f.2.2 v
  | .inr (ty, vs) => (Exa Z h a ("[" ++ ty.toString) ∧ ∀ v ∈ vs, fits ty v = true) ∧ ∃ c : Cell, Arr Z h a c ty ∧ c.slots = vs.toArray ∧ ∀ C, ty = .object C → Ovr Z c.cls C
def Rel (Z : State) (K : KTab) (n0 : Nat) (h : Heap) (A : List Ob) : Prop := h.size = n0 + A.length ∧ ∀ (i : Nat) (o : Ob), A[i]? = some o → ObAt Z K h (n0 + i) o
def KOk (Z : State) (a0 : Array Value) (K : KTab) : Prop := ∀ (k : Nat) (C : String) (fs : List (String × String × String)), K[k]? = some (C, fs) →
  (∃ n, (Cond.instantiable C n).before a0 Z = true) ∧ (∀ (j : Nat) (f : String × String × String), fs[j]? = some f → Laid Z a0 C f.1 f.2.1 f.2.2 ∧ ∃ t, parseFieldDescriptor f.2.2 = some t) ∧
  ∀ (i j : Nat) (f g : String × String × String), fs[i]? = some f → fs[j]? = some g → i ≠ j → f.2.1 ≠ g.2.1
section Facts
variable {Z : State} {a0 : Array Value} {K : KTab} {h h' : Heap} {a b : Addr} {o o' : Ob} {n0 : Nat} {A : List Ob} {sl : Nat} {v : Value}
theorem ObAt.ext (E : Ext h h') (F : ObAt Z K h a o) : ObAt Z K h' a o := by
  rcases o with ⟨k, vs⟩ | ⟨ty, vs⟩
  · obtain ⟨C, fs, h1, h2, h3, h4⟩ := F
    exact ⟨C, fs, h1, h2.ext E, h3, fun j f v q r => (h4 j f v q r).ext E⟩
  · obtain ⟨⟨h1, hf⟩, c, h2, h3, h4⟩ := F
    exact ⟨⟨h1.ext E, hf⟩, c, h2.ext E, h3, h4⟩
theorem ObAt.other (W : Wr h h' b sl v) (hne : a ≠ b) (F : ObAt Z K h a o) : ObAt Z K h' a o := by
  rcases o with ⟨k, vs⟩ | ⟨ty, vs⟩
  · obtain ⟨C, fs, h1, h2, h3, h4⟩ := F
    exact ⟨C, fs, h1, h2.wr W, h3, fun j f v q r => (h4 j f v q r).other W (Or.inl hne)⟩
  · obtain ⟨⟨h1, hf⟩, c, h2, h3, h4⟩ := F
    exact ⟨⟨h1.wr W, hf⟩, c, h2.other W hne, h3, h4⟩
theorem ObAt.keep {ws : List Addr} (E : Keep h h' ws) (hne : a ∉ ws) (F : ObAt Z K h a o) : ObAt Z K h' a o := by
  rcases o with ⟨k, vs⟩ | ⟨ty, vs⟩
  · obtain ⟨C, fs, h1, h2, h3, h4⟩ := F
    exact ⟨C, fs, h1, h2.keep E, h3, fun j f v q r => (h4 j f v q r).keep E hne⟩
  · obtain ⟨⟨h1, hf⟩, c, h2, h3, h4⟩ := F
    exact ⟨⟨h1.keep E, hf⟩, c, ⟨E.2.1 a c h2.1 hne, h2.2⟩, h3, h4⟩
theorem Rel.keep {i : Nat} (R : Rel Z K n0 h A) (E : Keep h h' [n0 + i]) (hs : h'.size = h.size) (hO : ObAt Z K h' (n0 + i) o') : Rel Z K n0 h' (A.set i o') := by
  refine ⟨by rw [hs, R.1]; simp, fun j o hj => ?_⟩
  by_cases e : i = j
  · subst e
    obtain ⟨hl, -⟩ := List.getElem?_eq_some_iff.mp hj
    rw [List.getElem?_set_self (by simpa using hl)] at hj
    cases hj; exact hO
  · rw [List.getElem?_set_ne e] at hj
    exact (R.2 j o hj).keep E (fun q => e (Nat.add_left_cancel (List.mem_singleton.mp q)).symm)
theorem ObAt.exa {k : Nat} {vs : List Value} {C : String} {fs : List (String × String × String)} (hk : K[k]? = some (C, fs)) (F : ObAt Z K h a (.inl (k, vs))) : Exa Z h a C := by
  obtain ⟨C', fs', h1, h2, -⟩ := F
  cases hk.symm.trans h1; exact h2
theorem Rel.push (R : Rel Z K n0 h A) (E : Ext h h') (hs : h'.size = n0 + (A.length + 1)) (hN : ObAt Z K h' (n0 + A.length) o) : Rel Z K n0 h' (A ++ [o]) := by
  refine ⟨by rw [hs]; simp, fun i o' hi => ?_⟩
  by_cases hlt : i < A.length
  · rw [List.getElem?_append_left hlt] at hi; exact (R.2 i o' hi).ext E
  · rw [List.getElem?_append_right (by omega)] at hi
    have he : i - A.length = 0 := by
      have := (List.getElem?_eq_some_iff.mp hi).1
      simp at this; omega
    rw [he] at hi
    cases hi
    have : i = A.length := by omega
    rw [this]; exact hN
theorem Rel.set {i : Nat} (R : Rel Z K n0 h A) (W : Wr h h' (n0 + i) sl v) (hO : ObAt Z K h' (n0 + i) o') : Rel Z K n0 h' (A.set i o') := by
  refine ⟨by rw [W.size, R.1]; simp, fun j o hj => ?_⟩
  by_cases e : i = j
  · subst e
    obtain ⟨hl, -⟩ := List.getElem?_eq_some_iff.mp hj
    rw [List.getElem?_set_self (by simpa using hl)] at hj
    cases hj; exact hO
  · rw [List.getElem?_set_ne e] at hj
    exact (R.2 j o hj).other W (fun q => e (Nat.add_left_cancel q).symm)
theorem ObAt.setF (KK : KOk Z a0 K) {k j : Nat} {vs : List Value} {C : String} {fs : List (String × String × String)} {f : String × String × String} (hk : K[k]? = some (C, fs)) (hj : fs[j]? = some f) (W : Wr h h' a (RoadKit.slotOf Z f.1 f.2.1 f.2.2) v) (F : ObAt Z K h a (.inl (k, vs))) : ObAt Z K h' a (.inl (k, vs.set j v)) := by
  obtain ⟨C', fs', h1, h2, h3, h4⟩ := F
  cases hk.symm.trans h1
  refine ⟨C, fs, hk, h2.wr W, by simpa using h3, fun j' f' v' q r => ?_⟩
  by_cases e : j = j'
  · subst e
    cases hj.symm.trans q
    have hl : j < vs.length := by rw [h3]; exact (List.getElem?_eq_some_iff.mp hj).1
    rw [List.getElem?_set_self hl] at r
    cases r
    exact (h4 j f vs[j] hj (List.getElem?_eq_getElem hl)).same W
  · rw [List.getElem?_set_ne e] at r
    obtain ⟨-, k2, k3⟩ := KK k C fs hk
    obtain ⟨L1, t1, p1⟩ := k2 j f hj
    obtain ⟨L2, t2, p2⟩ := k2 j' f' q
    exact (h4 j' f' v' q r).other W (Or.inr (slot_ne L2 L1 (k3 j' j f' f q hj (Ne.symm e)) p2 p1))
theorem ObAt.setA {ty : FieldType} {vs : List Value} {j : Nat} (W : Wr h h' a j v) (hv : fits ty v = true) (F : ObAt Z K h a (.inr (ty, vs))) : ObAt Z K h' a (.inr (ty, vs.set j v)) := by
  obtain ⟨⟨h1, hf⟩, c, h2, h3, h4⟩ := F
  refine ⟨⟨h1.wr W, fun w hw => ?_⟩, c.setSlot j v, h2.same W, ?_, h4⟩
  · rcases List.mem_or_eq_of_mem_set hw with q | rfl
    · exact hf w q
    · exact hv
  simp [Cell.setSlot, h3]
end Facts
/-! ## The walk -/
def Go (p : Program) (l : Launch) (e : Env) (R : Room) (s : State) (m : MethodId) (args : Array Value) (below : List Frame) (meth : Method) (c : Code) (Z : State) (K : KTab) (n0 : Nat) (Q : Option Value → List Ob → Prop)
    (pc : Nat) (ls : Array Slot) (st : List Value) (A : List Ob) (k n : Nat) : Prop :=
  ∀ (T : State) (locs : List Loc), Stand p l e R s m args below meth c T locs k n → Rel Z K n0 T.heap A → Fr n0 locs →
    ∃ s₂ o, Steps p.tables e below (T.setTop (mkF m pc ls st)) s₂ ∧ s₂.status = .running ∧ Ended s₂ below o ∧ ∃ v L, o = .returned v ∧ (∃ A', Q v A' ∧ Rel Z K n0 s₂.heap A' ∧ Fr n0 L) ∧ FrameEnd s o s₂ L R.cells R.slots
abbrev GoT : Type := Nat → Array Slot → List Value → List Ob → Nat → Nat → Prop
def IsGo (l : Launch) (Z : State) (a0 : Array Value) (K : KTab) (n0 b0 : Nat) (y : MethodName) (bytes : ByteArray) (maxL : Nat) (ret : Option FieldType) (R : Room) (Q : Option Value → List Ob → Prop) (G : GoT) : Prop :=
  ∃ (p : Program) (e : Env) (s : State) (m : MethodId) (args : Array Value) (below : List Frame) (meth : Method) (c : Code), p.tables.exec = Jvm.exec ∧ c.code = bytes ∧ c.maxLocals = maxL ∧ s.vm.findClass y.cls = some m.cls ∧ meth.name = y.name ∧ meth.sig.returnType = ret ∧ meth.locks = false ∧ Z.Warmed39 s.vm ∧ KOk Z a0 K ∧ s.heap.size = n0 + b0 ∧ G = Go p l e R s m args below meth c Z K n0 Q
/-- the contract of a method, by its arguments and the abstract heap -/
def Met (l : Launch) (Z : State) (K : KTab) (n0 : Nat) (y : MethodName) (bytes : ByteArray) (maxL : Nat) (ret : Option FieldType) (R : Room) (as : Array Value) (A : List Ob) (Q : Option Value → List Ob → Prop) : Prop :=
  ∀ (ws : List Jvm.Cond) (h0 : Heap), Rel Z K n0 h0 A → MetFree l y (head1 (Jvm.Cond.code y bytes maxL ret :: ws) R) (fun a U => a = as ∧ Z.Warmed39 U.vm ∧ U.heap = h0) (fun _ _ _ _ _ => True)
    (fun _ U o U' => ∃ v L, o = .returned v ∧ (∃ A', Q v A' ∧ Rel Z K n0 U'.heap A' ∧ Fr n0 L) ∧ FrameEnd U o U' L R.cells R.slots)
def Nx (b : ByteArray) (pc : Nat) (i : Instr) (len pc' : Nat) : Prop := decode b pc = .ok (i, len) ∧ pc' = pc + len
def Bx (b : ByteArray) (pc : Nat) (i : Int → Instr) (t f : Nat) : Prop := ∃ o : Int, decode b pc = .ok (i o, 3) ∧ 0 ≤ (pc : Int) + o ∧ ((pc : Int) + o).toNat = t ∧ f = pc + 3
theorem get_set_self {A : List Ob} {i : Nat} {o o' : Ob} (h : A[i]? = some o) : (A.set i o')[i]? = some o' := List.getElem?_set_self (List.getElem?_eq_some_iff.mp h).1
theorem get_set_ne {A : List Ob} {i j : Nat} {o o' : Ob} (h : A[j]? = some o) (hne : i ≠ j) : (A.set i o')[j]? = some o := by rw [List.getElem?_set_ne hne]; exact h
theorem len_set {A : List Ob} {i N : Nat} {o : Ob} (h : A.length = N) : (A.set i o).length = N := by simpa using h
theorem get_app {A : List Ob} {i : Nat} {o o' : Ob} (h : A[i]? = some o) : (A ++ [o'])[i]? = some o := by rw [List.getElem?_append_left (List.getElem?_eq_some_iff.mp h).1]; exact h
theorem get_last {A : List Ob} {N : Nat} {o : Ob} (h : A.length = N) : (A ++ [o])[N]? = some o := by subst h; simp
theorem len_app {A : List Ob} {N : Nat} {o : Ob} (h : A.length = N) : (A ++ [o]).length = N + 1 := by simp [h]
theorem npOf {d : String} {ps : List FieldType} {r : Option FieldType} {n : Nat} (hd : parseMethodDescriptor d = some ⟨ps, r⟩) (hl : n = ps.length) : ∀ sig, parseMethodDescriptor d = some sig → n = sig.parameters.length := fun sig h => by cases hd.symm.trans h; exact hl
theorem leb {a b : Nat} (h : Nat.ble a b = true) : a ≤ b := Nat.le_of_ble_eq_true h
theorem ltb {a b : Nat} (h : Nat.ble (a + 1) b = true) : a < b := Nat.le_of_ble_eq_true h
theorem fa0 {α : Type} {P : α → Prop} : ∀ x ∈ ([] : List α), P x := fun _ q => nomatch q
theorem faS {α : Type} {P : α → Prop} {y : α} {L : List α} (q : P y) (r : ∀ x ∈ L, P x) : ∀ x ∈ y :: L, P x := fun x z => (List.mem_cons.mp z).elim (fun u => u ▸ q) (r x)
theorem kokOf {Z : State} {a0 : Array Value} {K : KTab} (h : ∀ p ∈ K, (∃ n, (Jvm.Cond.instantiable p.1 n).before a0 Z = true) ∧ (∀ f ∈ p.2, Laid Z a0 p.1 f.1 f.2.1 f.2.2 ∧ ∃ t, parseFieldDescriptor f.2.2 = some t) ∧ (p.2.map (·.2.1)).Nodup) : KOk Z a0 K := by
  intro k C fs hk
  obtain ⟨h1, h2, h3⟩ := h _ (List.mem_of_getElem? hk)
  refine ⟨h1, fun j f hj => h2 f (List.mem_of_getElem? hj), fun i j f g hi hj hne e => hne ?_⟩
  have q1 : (fs.map (·.2.1))[i]? = some f.2.1 := by simp [List.getElem?_map, hi]
  have q2 : (fs.map (·.2.1))[j]? = some f.2.1 := by simp [List.getElem?_map, hj, e]
  obtain ⟨l1, e1⟩ := List.getElem?_eq_some_iff.mp q1
  obtain ⟨l2, e2⟩ := List.getElem?_eq_some_iff.mp q2
  have h4 := List.pairwise_iff_getElem.mp h3
  rcases Nat.lt_trichotomy i j with q | q | q
  · exact absurd (e1.trans e2.symm) (h4 i j l1 l2 q)
  · exact q
  · exact absurd (e2.trans e1.symm) (h4 j i l2 l1 q)
def Is (v : Option Value) (A' : List Ob) : Option Value → List Ob → Prop := fun v' B => v' = v ∧ B = A'
theorem i_lt {u v : Int32} {a b : Int} (hu : u.toInt = a) (hv : v.toInt = b) : u < v ↔ a < b := by subst hu hv; exact Int32.lt_iff_toInt_lt
theorem i_ge {u v : Int32} {a b : Int} (hu : u.toInt = a) (hv : v.toInt = b) : ¬ u < v ↔ b ≤ a := by rw [i_lt hu hv]; omega
theorem i_eq {u v : Int32} {a b : Int} (hu : u.toInt = a) (hv : v.toInt = b) : u = v ↔ a = b := by subst hu hv; exact Int32.toInt_inj.symm
theorem i_ne {u v : Int32} {a b : Int} (hu : u.toInt = a) (hv : v.toInt = b) : ¬ u = v ↔ ¬ a = b := not_congr (i_eq hu hv)
theorem j_lt {u v : Int64} {a b : Int} (hu : u.toInt = a) (hv : v.toInt = b) : u < v ↔ a < b := by subst hu hv; exact Int64.lt_iff_toInt_lt
theorem j_ge {u v : Int64} {a b : Int} (hu : u.toInt = a) (hv : v.toInt = b) : ¬ u < v ↔ b ≤ a := by rw [j_lt hu hv]; omega
theorem j_eq {u v : Int64} {a b : Int} (hu : u.toInt = a) (hv : v.toInt = b) : u = v ↔ a = b := by subst hu hv; exact Int64.toInt_inj.symm
theorem j_ne {u v : Int64} {a b : Int} (hu : u.toInt = a) (hv : v.toInt = b) : ¬ u = v ↔ ¬ a = b := not_congr (j_eq hu hv)
theorem x_iadd {a b : Int32} {x y : Int} (ha : a.toInt = x) (hb : b.toInt = y) (h : -2147483648 ≤ x + y ∧ x + y < 2147483648) : (a + b).toInt = x + y := by
  have q := c_iadd a b
  have r := rng32 (a + b)
  rw [ha, hb] at q
  omega
theorem x_isub {a b : Int32} {x y : Int} (ha : a.toInt = x) (hb : b.toInt = y) (h : -2147483648 ≤ x - y ∧ x - y < 2147483648) : (a - b).toInt = x - y := by
  have q := c_isub a b
  have r := rng32 (a - b)
  rw [ha, hb] at q
  omega
theorem x_imul {a b : Int32} {x y : Int} (ha : a.toInt = x) (hb : b.toInt = y) (h : -2147483648 ≤ x * y ∧ x * y < 2147483648) : (a * b).toInt = x * y := by
  have q := c_imul a b
  have r := rng32 (a * b)
  rw [ha, hb] at q
  omega
theorem x_ineg {a : Int32} {x : Int} (ha : a.toInt = x) (h : -2147483648 < x) : (-a).toInt = -x := by
  have q := c_ineg a
  have r := rng32 (-a)
  have r2 := rng32 a
  rw [ha] at q r2
  omega
theorem x_ladd {a b : Int64} {x y : Int} (ha : a.toInt = x) (hb : b.toInt = y) (h : -9223372036854775808 ≤ x + y ∧ x + y < 9223372036854775808) : (a + b).toInt = x + y := by
  have q := c_ladd a b
  have r := rng64 (a + b)
  rw [ha, hb] at q
  omega
theorem x_lsub {a b : Int64} {x y : Int} (ha : a.toInt = x) (hb : b.toInt = y) (h : -9223372036854775808 ≤ x - y ∧ x - y < 9223372036854775808) : (a - b).toInt = x - y := by
  have q := c_lsub a b
  have r := rng64 (a - b)
  rw [ha, hb] at q
  omega
theorem x_lmul {a b : Int64} {x y : Int} (ha : a.toInt = x) (hb : b.toInt = y) (h : -9223372036854775808 ≤ x * y ∧ x * y < 9223372036854775808) : (a * b).toInt = x * y := by
  have q := c_lmul a b
  have r := rng64 (a * b)
  rw [ha, hb] at q
  omega
theorem x_lneg {a : Int64} {x : Int} (ha : a.toInt = x) (h : -9223372036854775808 < x) : (-a).toInt = -x := by
  have q := c_lneg a
  have r := rng64 (-a)
  have r2 := rng64 a
  rw [ha] at q r2
  omega
theorem x_irem {a b : Int32} {x y : Int} (ha : a.toInt = x) (hb : b.toInt = y) (h : 0 ≤ x) : (a % b).toInt = x % y := by
  rw [(c_irem a b y hb).1 (by rw [ha]; exact h), ha]
theorem x_idiv {a b : Int32} {x y : Int} (ha : a.toInt = x) (hb : b.toInt = y) (h : 0 ≤ x) (hy : 0 < y) : (a / b).toInt = x / y := by
  have hm : b ≠ -1 := fun e => by
    have q : (-1 : Int32).toInt = -1 := by decide
    rw [e, q] at hb
    omega
  rw [(c_idiv a b y hb hm).1 (by rw [ha]; exact h), ha]
theorem x_i2l {a : Int32} {x : Int} (ha : a.toInt = x) : (a.toInt64).toInt = x := by rw [c_i2l]; exact ha
theorem x_l2i {a : Int64} {x : Int} (ha : a.toInt = x) (h : -2147483648 ≤ x ∧ x < 2147483648) : (a.toInt32).toInt = x := by
  have q := c_l2i a
  have r := rng32 a.toInt32
  rw [ha] at q
  omega
theorem mod_b {x y : Int} (hy : 0 < y) : 0 ≤ x % y ∧ x % y < y := ⟨Int.emod_nonneg _ (by omega), Int.emod_lt_of_pos _ hy⟩
section Rules
variable {l : Launch} {Z : State} {a0 : Array Value} {K : KTab} {n0 b0 : Nat} {y : MethodName} {bytes : ByteArray} {maxL : Nat} {ret : Option FieldType} {R : Room} {Q : Option Value → List Ob → Prop} {G : GoT}
variable {pc pc' : Nat} {ls ls' : Array Slot} {st st' : List Value} {A A' : List Ob} {k k' n n' : Nat}
theorem Met.of (KK : KOk Z a0 K) (hp : plainFor y = true) {as : Array Value} (hef : ∀ m, entryFrame m as maxL = mkF m 0 ls []) (body : ∀ G, IsGo l Z a0 K n0 A.length y bytes maxL ret R Q G → G 0 ls [] A 0 0) : Met l Z K n0 y bytes maxL ret R as A Q := by
  intro ws h0 hR
  refine MetFree.of_bodySF hp hisR ?_
  intro p e s m args below meth c s₁ Bd hml0 hP hK
  obtain ⟨rfl, hZ, hh⟩ := hP
  have e0 : s₁.heap = h0 := by rw [← hh, Bd.state]; rfl
  have H := body (Go p l e R s m args below meth c Z K n0 Q) ⟨p, e, s, m, args, below, meth, c, Bd.exec, Bd.bytes, hml0, findClass_of_methodNamed Bd.named, (name_of_methodNamed Bd.named Bd.method).1, Bd.returns, Bd.notSynchronized, hZ, KK, by rw [hh]; exact hR.1, rfl⟩
  obtain ⟨s₂, o, h1, h2, h3, h4⟩ := H s₁ [] (Stand.of_body Bd) (by rw [e0]; exact hR) (Fr.nil n0)
  exact ⟨s₂, o, castTop (hef m) h1, h2, h3, h4⟩
theorem Met.mono {as : Array Value} {Q' : Option Value → List Ob → Prop} (M : Met l Z K n0 y bytes maxL ret R as A Q) (h : ∀ v A', Q v A' → Q' v A') : Met l Z K n0 y bytes maxL ret R as A Q' := by
  intro ws h0 hR p e ha hc hk s m args below hf happ hP hK
  obtain ⟨n, o, h1, h2, h3, v, L, h4, ⟨A', h5, h6⟩, h7⟩ := M ws h0 hR p e ha hc hk s m args below hf happ hP hK
  exact ⟨n, o, h1, h2, h3, v, L, h4, ⟨A', h _ _ h5, h6⟩, h7⟩
theorem IsGo.lift (H : IsGo l Z a0 K n0 b0 y bytes maxL ret R Q G) (hs : ∀ {p : Program} {e : Env} {below : List Frame} {T target : State} {m : MethodId} {c : Code}, At T m c below → p.tables.exec = Jvm.exec → c.code = bytes → Steps p.tables e below (T.setTop (mkF m pc' ls' st')) target → Steps p.tables e below (T.setTop (mkF m pc ls st)) target)
    (h : G pc' ls' st' A k n) : G pc ls st A k n := by
  obtain ⟨p, e, s, m, args, below, meth, c, hx, hby, hml, hown, hnm, hret, hlk, hZ, hK, hb0, rfl⟩ := H
  intro T locs X hR hF
  obtain ⟨s₂, o, h1, h2⟩ := h T locs X hR hF
  exact ⟨s₂, o, hs X.here hx hby h1, h2⟩
/-! ### loads, stores, constants -/
theorem IsGo.iloadN (H : IsGo l Z a0 K n0 b0 y bytes maxL ret R Q G) {i : Fin 4} (hd : Nx bytes pc (.iload_n i) 1 pc') {v : Int32} (hl : ls[i.val]? = some (.val (.int v))) (h : G pc' ls (.int v :: st) A k n) : G pc ls st A k n := by
  obtain ⟨hd, rfl⟩ := hd
  exact H.lift (fun hA hx hby hr => XS.iloadN hA hx rfl (hb hby hd) hl hr) h
theorem IsGo.iload (H : IsGo l Z a0 K n0 b0 y bytes maxL ret R Q G) {i : Nat} (hd : Nx bytes pc (.iload i) 2 pc') {v : Int32} (hl : ls[i]? = some (.val (.int v))) (h : G pc' ls (.int v :: st) A k n) : G pc ls st A k n := by
  obtain ⟨hd, rfl⟩ := hd
  exact H.lift (fun hA hx hby hr => XS.iload hA hx rfl (hb hby hd) hl hr) h
theorem IsGo.lloadN (H : IsGo l Z a0 K n0 b0 y bytes maxL ret R Q G) {i : Fin 4} (hd : Nx bytes pc (.lload_n i) 1 pc') {v : Int64} (hl : ls[i.val]? = some (.val (.long v))) (h : G pc' ls (.long v :: st) A k n) : G pc ls st A k n := by
  obtain ⟨hd, rfl⟩ := hd
  exact H.lift (fun hA hx hby hr => XS.lloadN hA hx rfl (hb hby hd) hl hr) h
theorem IsGo.lload (H : IsGo l Z a0 K n0 b0 y bytes maxL ret R Q G) {i : Nat} (hd : Nx bytes pc (.lload i) 2 pc') {v : Int64} (hl : ls[i]? = some (.val (.long v))) (h : G pc' ls (.long v :: st) A k n) : G pc ls st A k n := by
  obtain ⟨hd, rfl⟩ := hd
  exact H.lift (fun hA hx hby hr => XS.lload hA hx rfl (hb hby hd) hl hr) h
theorem IsGo.aloadN (H : IsGo l Z a0 K n0 b0 y bytes maxL ret R Q G) {i : Fin 4} (hd : Nx bytes pc (.aload_n i) 1 pc') {v : Value} (hl : ls[i.val]? = some (.val v)) (hv : v.isRef = true) (h : G pc' ls (v :: st) A k n) : G pc ls st A k n := by
  obtain ⟨hd, rfl⟩ := hd
  exact H.lift (fun hA hx hby hr => XS.aloadN hA hx rfl (hb hby hd) hl hv hr) h
theorem IsGo.aload (H : IsGo l Z a0 K n0 b0 y bytes maxL ret R Q G) {i : Nat} (hd : Nx bytes pc (.aload i) 2 pc') {v : Value} (hl : ls[i]? = some (.val v)) (hv : v.isRef = true) (h : G pc' ls (v :: st) A k n) : G pc ls st A k n := by
  obtain ⟨hd, rfl⟩ := hd
  exact H.lift (fun hA hx hby hr => XS.aload hA hx rfl (hb hby hd) hl hv hr) h
theorem IsGo.istoreN (H : IsGo l Z a0 K n0 b0 y bytes maxL ret R Q G) {i : Fin 4} (hd : Nx bytes pc (.istore_n i) 1 pc') {v : Int32} (hl : storeLocals ls i.val (.int v) = some ls') (h : G pc' ls' st A k n) : G pc ls (.int v :: st) A k n := by
  obtain ⟨hd, rfl⟩ := hd
  exact H.lift (fun hA hx hby hr => XS.istoreN hA hx rfl (hb hby hd) rfl hl hr) h
theorem IsGo.istore (H : IsGo l Z a0 K n0 b0 y bytes maxL ret R Q G) {i : Nat} (hd : Nx bytes pc (.istore i) 2 pc') {v : Int32} (hl : storeLocals ls i (.int v) = some ls') (h : G pc' ls' st A k n) : G pc ls (.int v :: st) A k n := by
  obtain ⟨hd, rfl⟩ := hd
  exact H.lift (fun hA hx hby hr => XS.istore hA hx rfl (hb hby hd) rfl hl hr) h
theorem IsGo.lstoreN (H : IsGo l Z a0 K n0 b0 y bytes maxL ret R Q G) {i : Fin 4} (hd : Nx bytes pc (.lstore_n i) 1 pc') {v : Int64} (hl : storeLocals ls i.val (.long v) = some ls') (h : G pc' ls' st A k n) : G pc ls (.long v :: st) A k n := by
  obtain ⟨hd, rfl⟩ := hd
  exact H.lift (fun hA hx hby hr => XS.lstoreN hA hx rfl (hb hby hd) rfl hl hr) h
theorem IsGo.lstore (H : IsGo l Z a0 K n0 b0 y bytes maxL ret R Q G) {i : Nat} (hd : Nx bytes pc (.lstore i) 2 pc') {v : Int64} (hl : storeLocals ls i (.long v) = some ls') (h : G pc' ls' st A k n) : G pc ls (.long v :: st) A k n := by
  obtain ⟨hd, rfl⟩ := hd
  exact H.lift (fun hA hx hby hr => XS.lstore hA hx rfl (hb hby hd) rfl hl hr) h
theorem IsGo.astoreN (H : IsGo l Z a0 K n0 b0 y bytes maxL ret R Q G) {i : Fin 4} (hd : Nx bytes pc (.astore_n i) 1 pc') {v : Value} (hv : v.isRef = true) (hl : storeLocals ls i.val v = some ls') (h : G pc' ls' st A k n) : G pc ls (v :: st) A k n := by
  obtain ⟨hd, rfl⟩ := hd
  exact H.lift (fun hA hx hby hr => XS.astoreN hA hx rfl (hb hby hd) rfl hv hl hr) h
theorem IsGo.astore (H : IsGo l Z a0 K n0 b0 y bytes maxL ret R Q G) {i : Nat} (hd : Nx bytes pc (.astore i) 2 pc') {v : Value} (hv : v.isRef = true) (hl : storeLocals ls i v = some ls') (h : G pc' ls' st A k n) : G pc ls (v :: st) A k n := by
  obtain ⟨hd, rfl⟩ := hd
  exact H.lift (fun hA hx hby hr => XS.astore hA hx rfl (hb hby hd) rfl hv hl hr) h
theorem IsGo.iconst (H : IsGo l Z a0 K n0 b0 y bytes maxL ret R Q G) {i : Int} (hd : Nx bytes pc (.iconst i) 1 pc') {v : Int32} (hv : Int32.ofInt i = v) (h : G pc' ls (.int v :: st) A k n) : G pc ls st A k n := by
  obtain ⟨hd, rfl⟩ := hd
  subst hv
  exact H.lift (fun hA hx hby hr => XS.iconst hA hx rfl (hb hby hd) hr) h
theorem IsGo.bipush (H : IsGo l Z a0 K n0 b0 y bytes maxL ret R Q G) {i : Int} (hd : Nx bytes pc (.bipush i) 2 pc') {v : Int32} (hv : (Int8.ofInt i).toInt32 = v) (h : G pc' ls (.int v :: st) A k n) : G pc ls st A k n := by
  obtain ⟨hd, rfl⟩ := hd
  subst hv
  exact H.lift (fun hA hx hby hr => XS.bipush hA hx rfl (hb hby hd) hr) h
theorem IsGo.sipush (H : IsGo l Z a0 K n0 b0 y bytes maxL ret R Q G) {i : Int} (hd : Nx bytes pc (.sipush i) 3 pc') {v : Int32} (hv : (Int16.ofInt i).toInt32 = v) (h : G pc' ls (.int v :: st) A k n) : G pc ls st A k n := by
  obtain ⟨hd, rfl⟩ := hd
  subst hv
  exact H.lift (fun hA hx hby hr => XS.sipush hA hx rfl (hb hby hd) hr) h
theorem IsGo.lconst (H : IsGo l Z a0 K n0 b0 y bytes maxL ret R Q G) {i : Fin 2} (hd : Nx bytes pc (.lconst i) 1 pc') {v : Int64} (hv : Int64.ofNat i = v) (h : G pc' ls (.long v :: st) A k n) : G pc ls st A k n := by
  obtain ⟨hd, rfl⟩ := hd
  subst hv
  exact H.lift (fun hA hx hby hr => XS.lconst hA hx rfl (hb hby hd) hr) h
theorem IsGo.aconstNull (H : IsGo l Z a0 K n0 b0 y bytes maxL ret R Q G) (hd : Nx bytes pc .aconst_null 1 pc') (h : G pc' ls (.null :: st) A k n) : G pc ls st A k n := by
  obtain ⟨hd, rfl⟩ := hd
  exact H.lift (fun hA hx hby hr => XS.aconstNull hA hx rfl (hb hby hd) hr) h
theorem IsGo.ldc (H : IsGo l Z a0 K n0 b0 y bytes maxL ret R Q G) {i : Nat} (hd : Nx bytes pc (.ldc i) 2 pc') {v : Int32} (w : (Jvm.Cond.constant y.cls i v).before a0 Z = true) (h : G pc' ls (.int v :: st) A k n) : G pc ls st A k n := by
  obtain ⟨hd, rfl⟩ := hd
  obtain ⟨p, e, s, m, args, below, meth, c, hx, hby, hml, hown, hnm, hret, hlk, hZ, hK, hb0, rfl⟩ := H
  intro T locs X hR hF
  obtain ⟨s₂, o, h1, h2⟩ := h T locs X hR hF
  exact ⟨s₂, o, X.ldcInt hx hown (mvT hZ w) (g := mkF m pc ls st) rfl (hb hby hd) _ h1, h2⟩
theorem IsGo.ldc2 (H : IsGo l Z a0 K n0 b0 y bytes maxL ret R Q G) {i : Nat} (hd : Nx bytes pc (.ldc2_w i) 3 pc') {v : Int64} (w : (Jvm.Cond.constantLong y.cls i v).before a0 Z = true) (h : G pc' ls (.long v :: st) A k n) : G pc ls st A k n := by
  obtain ⟨hd, rfl⟩ := hd
  obtain ⟨p, e, s, m, args, below, meth, c, hx, hby, hml, hown, hnm, hret, hlk, hZ, hK, hb0, rfl⟩ := H
  intro T locs X hR hF
  obtain ⟨s₂, o, h1, h2⟩ := h T locs X hR hF
  exact ⟨s₂, o, X.ldc2Long hx hown (mvT hZ w) (g := mkF m pc ls st) rfl (hb hby hd) _ h1, h2⟩
/-! ### sums -/
theorem IsGo.iadd (H : IsGo l Z a0 K n0 b0 y bytes maxL ret R Q G) (hd : Nx bytes pc .iadd 1 pc') {u v w : Int32} (hw : u + v = w) (h : G pc' ls (.int w :: st) A k n) : G pc ls (.int v :: .int u :: st) A k n := by
  obtain ⟨hd, rfl⟩ := hd
  subst hw
  exact H.lift (fun hA hx hby hr => XS.iadd hA hx rfl (hb hby hd) rfl hr) h
theorem IsGo.ladd (H : IsGo l Z a0 K n0 b0 y bytes maxL ret R Q G) (hd : Nx bytes pc .ladd 1 pc') {u v w : Int64} (hw : u + v = w) (h : G pc' ls (.long w :: st) A k n) : G pc ls (.long v :: .long u :: st) A k n := by
  obtain ⟨hd, rfl⟩ := hd
  subst hw
  exact H.lift (fun hA hx hby hr => XS.ladd hA hx rfl (hb hby hd) rfl hr) h
theorem IsGo.isub (H : IsGo l Z a0 K n0 b0 y bytes maxL ret R Q G) (hd : Nx bytes pc .isub 1 pc') {u v w : Int32} (hw : u - v = w) (h : G pc' ls (.int w :: st) A k n) : G pc ls (.int v :: .int u :: st) A k n := by
  obtain ⟨hd, rfl⟩ := hd
  subst hw
  exact H.lift (fun hA hx hby hr => XS.isub hA hx rfl (hb hby hd) rfl hr) h
theorem IsGo.lsub (H : IsGo l Z a0 K n0 b0 y bytes maxL ret R Q G) (hd : Nx bytes pc .lsub 1 pc') {u v w : Int64} (hw : u - v = w) (h : G pc' ls (.long w :: st) A k n) : G pc ls (.long v :: .long u :: st) A k n := by
  obtain ⟨hd, rfl⟩ := hd
  subst hw
  exact H.lift (fun hA hx hby hr => XS.lsub hA hx rfl (hb hby hd) rfl hr) h
theorem IsGo.imul (H : IsGo l Z a0 K n0 b0 y bytes maxL ret R Q G) (hd : Nx bytes pc .imul 1 pc') {u v w : Int32} (hw : u * v = w) (h : G pc' ls (.int w :: st) A k n) : G pc ls (.int v :: .int u :: st) A k n := by
  obtain ⟨hd, rfl⟩ := hd
  subst hw
  exact H.lift (fun hA hx hby hr => XS.imul hA hx rfl (hb hby hd) rfl hr) h
theorem IsGo.lmul (H : IsGo l Z a0 K n0 b0 y bytes maxL ret R Q G) (hd : Nx bytes pc .lmul 1 pc') {u v w : Int64} (hw : u * v = w) (h : G pc' ls (.long w :: st) A k n) : G pc ls (.long v :: .long u :: st) A k n := by
  obtain ⟨hd, rfl⟩ := hd
  subst hw
  exact H.lift (fun hA hx hby hr => XS.lmul hA hx rfl (hb hby hd) rfl hr) h
theorem IsGo.iand (H : IsGo l Z a0 K n0 b0 y bytes maxL ret R Q G) (hd : Nx bytes pc .iand 1 pc') {u v w : Int32} (hw : u &&& v = w) (h : G pc' ls (.int w :: st) A k n) : G pc ls (.int v :: .int u :: st) A k n := by
  obtain ⟨hd, rfl⟩ := hd
  subst hw
  exact H.lift (fun hA hx hby hr => XS.iand hA hx rfl (hb hby hd) rfl hr) h
theorem IsGo.land (H : IsGo l Z a0 K n0 b0 y bytes maxL ret R Q G) (hd : Nx bytes pc .land 1 pc') {u v w : Int64} (hw : u &&& v = w) (h : G pc' ls (.long w :: st) A k n) : G pc ls (.long v :: .long u :: st) A k n := by
  obtain ⟨hd, rfl⟩ := hd
  subst hw
  exact H.lift (fun hA hx hby hr => XS.land hA hx rfl (hb hby hd) rfl hr) h
theorem IsGo.ior (H : IsGo l Z a0 K n0 b0 y bytes maxL ret R Q G) (hd : Nx bytes pc .ior 1 pc') {u v w : Int32} (hw : u ||| v = w) (h : G pc' ls (.int w :: st) A k n) : G pc ls (.int v :: .int u :: st) A k n := by
  obtain ⟨hd, rfl⟩ := hd
  subst hw
  exact H.lift (fun hA hx hby hr => XS.ior hA hx rfl (hb hby hd) rfl hr) h
theorem IsGo.lor (H : IsGo l Z a0 K n0 b0 y bytes maxL ret R Q G) (hd : Nx bytes pc .lor 1 pc') {u v w : Int64} (hw : u ||| v = w) (h : G pc' ls (.long w :: st) A k n) : G pc ls (.long v :: .long u :: st) A k n := by
  obtain ⟨hd, rfl⟩ := hd
  subst hw
  exact H.lift (fun hA hx hby hr => XS.lor hA hx rfl (hb hby hd) rfl hr) h
theorem IsGo.ixor (H : IsGo l Z a0 K n0 b0 y bytes maxL ret R Q G) (hd : Nx bytes pc .ixor 1 pc') {u v w : Int32} (hw : u ^^^ v = w) (h : G pc' ls (.int w :: st) A k n) : G pc ls (.int v :: .int u :: st) A k n := by
  obtain ⟨hd, rfl⟩ := hd
  subst hw
  exact H.lift (fun hA hx hby hr => XS.ixor hA hx rfl (hb hby hd) rfl hr) h
theorem IsGo.lxor (H : IsGo l Z a0 K n0 b0 y bytes maxL ret R Q G) (hd : Nx bytes pc .lxor 1 pc') {u v w : Int64} (hw : u ^^^ v = w) (h : G pc' ls (.long w :: st) A k n) : G pc ls (.long v :: .long u :: st) A k n := by
  obtain ⟨hd, rfl⟩ := hd
  subst hw
  exact H.lift (fun hA hx hby hr => XS.lxor hA hx rfl (hb hby hd) rfl hr) h
theorem IsGo.ishl (H : IsGo l Z a0 K n0 b0 y bytes maxL ret R Q G) (hd : Nx bytes pc .ishl 1 pc') {u v w : Int32} (hw : u <<< (v &&& 31) = w) (h : G pc' ls (.int w :: st) A k n) : G pc ls (.int v :: .int u :: st) A k n := by
  obtain ⟨hd, rfl⟩ := hd
  subst hw
  exact H.lift (fun hA hx hby hr => XS.ishl hA hx rfl (hb hby hd) rfl hr) h
theorem IsGo.ishr (H : IsGo l Z a0 K n0 b0 y bytes maxL ret R Q G) (hd : Nx bytes pc .ishr 1 pc') {u v w : Int32} (hw : u >>> (v &&& 31) = w) (h : G pc' ls (.int w :: st) A k n) : G pc ls (.int v :: .int u :: st) A k n := by
  obtain ⟨hd, rfl⟩ := hd
  subst hw
  exact H.lift (fun hA hx hby hr => XS.ishr hA hx rfl (hb hby hd) rfl hr) h
theorem IsGo.iushr (H : IsGo l Z a0 K n0 b0 y bytes maxL ret R Q G) (hd : Nx bytes pc .iushr 1 pc') {u v w : Int32} (hw : (u.toUInt32 >>> (v &&& 31).toUInt32).toInt32 = w) (h : G pc' ls (.int w :: st) A k n) : G pc ls (.int v :: .int u :: st) A k n := by
  obtain ⟨hd, rfl⟩ := hd
  subst hw
  exact H.lift (fun hA hx hby hr => XS.iushr hA hx rfl (hb hby hd) rfl hr) h
theorem IsGo.lshl (H : IsGo l Z a0 K n0 b0 y bytes maxL ret R Q G) (hd : Nx bytes pc .lshl 1 pc') {u w : Int64} {v : Int32} (hw : u <<< (v &&& 0x3f).toInt64 = w) (h : G pc' ls (.long w :: st) A k n) : G pc ls (.int v :: .long u :: st) A k n := by
  obtain ⟨hd, rfl⟩ := hd
  subst hw
  exact H.lift (fun hA hx hby hr => XS.lshl hA hx rfl (hb hby hd) rfl hr) h
theorem IsGo.lshr (H : IsGo l Z a0 K n0 b0 y bytes maxL ret R Q G) (hd : Nx bytes pc .lshr 1 pc') {u w : Int64} {v : Int32} (hw : u >>> (v &&& 0x3f).toInt64 = w) (h : G pc' ls (.long w :: st) A k n) : G pc ls (.int v :: .long u :: st) A k n := by
  obtain ⟨hd, rfl⟩ := hd
  subst hw
  exact H.lift (fun hA hx hby hr => XS.lshr hA hx rfl (hb hby hd) rfl hr) h
theorem IsGo.lushr (H : IsGo l Z a0 K n0 b0 y bytes maxL ret R Q G) (hd : Nx bytes pc .lushr 1 pc') {u w : Int64} {v : Int32} (hw : (u.toUInt64 >>> (v &&& 0x3f).toInt64.toUInt64).toInt64 = w) (h : G pc' ls (.long w :: st) A k n) : G pc ls (.int v :: .long u :: st) A k n := by
  obtain ⟨hd, rfl⟩ := hd
  subst hw
  exact H.lift (fun hA hx hby hr => XS.lushr hA hx rfl (hb hby hd) rfl hr) h
theorem IsGo.ineg (H : IsGo l Z a0 K n0 b0 y bytes maxL ret R Q G) (hd : Nx bytes pc .ineg 1 pc') {u : Int32} {w : Int32} (hw : -u = w) (h : G pc' ls (.int w :: st) A k n) : G pc ls (.int u :: st) A k n := by
  obtain ⟨hd, rfl⟩ := hd
  subst hw
  exact H.lift (fun hA hx hby hr => XS.ineg hA hx rfl (hb hby hd) rfl hr) h
theorem IsGo.lneg (H : IsGo l Z a0 K n0 b0 y bytes maxL ret R Q G) (hd : Nx bytes pc .lneg 1 pc') {u : Int64} {w : Int64} (hw : -u = w) (h : G pc' ls (.long w :: st) A k n) : G pc ls (.long u :: st) A k n := by
  obtain ⟨hd, rfl⟩ := hd
  subst hw
  exact H.lift (fun hA hx hby hr => XS.lneg hA hx rfl (hb hby hd) rfl hr) h
theorem IsGo.i2l (H : IsGo l Z a0 K n0 b0 y bytes maxL ret R Q G) (hd : Nx bytes pc .i2l 1 pc') {u : Int32} {w : Int64} (hw : u.toInt64 = w) (h : G pc' ls (.long w :: st) A k n) : G pc ls (.int u :: st) A k n := by
  obtain ⟨hd, rfl⟩ := hd
  subst hw
  exact H.lift (fun hA hx hby hr => XS.i2l hA hx rfl (hb hby hd) rfl hr) h
theorem IsGo.l2i (H : IsGo l Z a0 K n0 b0 y bytes maxL ret R Q G) (hd : Nx bytes pc .l2i 1 pc') {u : Int64} {w : Int32} (hw : u.toInt32 = w) (h : G pc' ls (.int w :: st) A k n) : G pc ls (.long u :: st) A k n := by
  obtain ⟨hd, rfl⟩ := hd
  subst hw
  exact H.lift (fun hA hx hby hr => XS.l2i hA hx rfl (hb hby hd) rfl hr) h
theorem IsGo.i2b (H : IsGo l Z a0 K n0 b0 y bytes maxL ret R Q G) (hd : Nx bytes pc .i2b 1 pc') {u : Int32} {w : Int32} (hw : u.toInt8.toInt32 = w) (h : G pc' ls (.int w :: st) A k n) : G pc ls (.int u :: st) A k n := by
  obtain ⟨hd, rfl⟩ := hd
  subst hw
  exact H.lift (fun hA hx hby hr => XS.i2b hA hx rfl (hb hby hd) rfl hr) h
theorem IsGo.idiv (H : IsGo l Z a0 K n0 b0 y bytes maxL ret R Q G) (hd : Nx bytes pc .idiv 1 pc') {u v w : Int32} (hv : v ≠ 0) (hw : u / v = w) (h : G pc' ls (.int w :: st) A k n) : G pc ls (.int v :: .int u :: st) A k n := by
  obtain ⟨hd, rfl⟩ := hd
  subst hw
  exact H.lift (fun hA hx hby hr => XS.idiv hA hx rfl (hb hby hd) rfl hv hr) h
theorem IsGo.irem (H : IsGo l Z a0 K n0 b0 y bytes maxL ret R Q G) (hd : Nx bytes pc .irem 1 pc') {u v w : Int32} (hv : v ≠ 0) (hw : u % v = w) (h : G pc' ls (.int w :: st) A k n) : G pc ls (.int v :: .int u :: st) A k n := by
  obtain ⟨hd, rfl⟩ := hd
  subst hw
  have q : u - u / v * v = u % v := irem_eq_mod u v
  rw [← q] at h
  exact H.lift (fun hA hx hby hr => XS.irem hA hx rfl (hb hby hd) rfl hv hr) h
theorem IsGo.ldiv (H : IsGo l Z a0 K n0 b0 y bytes maxL ret R Q G) (hd : Nx bytes pc .ldiv 1 pc') {u v w : Int64} (hv : v ≠ 0) (hw : u / v = w) (h : G pc' ls (.long w :: st) A k n) : G pc ls (.long v :: .long u :: st) A k n := by
  obtain ⟨hd, rfl⟩ := hd
  subst hw
  exact H.lift (fun hA hx hby hr => XS.ldiv hA hx rfl (hb hby hd) rfl hv hr) h
theorem IsGo.lrem (H : IsGo l Z a0 K n0 b0 y bytes maxL ret R Q G) (hd : Nx bytes pc .lrem 1 pc') {u v w : Int64} (hv : v ≠ 0) (hw : u % v = w) (h : G pc' ls (.long w :: st) A k n) : G pc ls (.long v :: .long u :: st) A k n := by
  obtain ⟨hd, rfl⟩ := hd
  subst hw
  rw [← lrem_mod u v] at h
  exact H.lift (fun hA hx hby hr => XS.lrem hA hx rfl (hb hby hd) rfl hv hr) h
theorem IsGo.iinc (H : IsGo l Z a0 K n0 b0 y bytes maxL ret R Q G) {i : Nat} {cst : Int} (hd : Nx bytes pc (.iinc i cst) 3 pc') {u w : Int32} (hl : ls[i]? = some (.val (.int u))) (hw : u + Int32.ofInt cst = w) (hl' : storeLocals ls i (.int w) = some ls') (h : G pc' ls' st A k n) : G pc ls st A k n := by
  obtain ⟨hd, rfl⟩ := hd
  subst hw
  exact H.lift (fun hA hx hby hr => XS.iinc hA hx rfl (hb hby hd) hl hl' hr) h
/-! ### the stack -/
theorem IsGo.dup (H : IsGo l Z a0 K n0 b0 y bytes maxL ret R Q G) (hd : Nx bytes pc .dup 1 pc') {u : Value} (hc : u.category = 1) (h : G pc' ls (u :: u :: st) A k n) : G pc ls (u :: st) A k n := by
  obtain ⟨hd, rfl⟩ := hd
  exact H.lift (fun hA hx hby hr => XS.dup hA hx rfl (hb hby hd) rfl hc hr) h
theorem IsGo.dupX1 (H : IsGo l Z a0 K n0 b0 y bytes maxL ret R Q G) (hd : Nx bytes pc .dup_x1 1 pc') {u v : Value} (hc : u.category = 1) (hc' : v.category = 1) (h : G pc' ls (u :: v :: u :: st) A k n) : G pc ls (u :: v :: st) A k n := by
  obtain ⟨hd, rfl⟩ := hd
  exact H.lift (fun hA hx hby hr => XS.dupX1 hA hx rfl (hb hby hd) rfl hc hc' hr) h
theorem IsGo.dup2 (H : IsGo l Z a0 K n0 b0 y bytes maxL ret R Q G) (hd : Nx bytes pc .dup2 1 pc') {u v : Value} (hc : u.category = 1) (hc' : v.category = 1) (h : G pc' ls (u :: v :: u :: v :: st) A k n) : G pc ls (u :: v :: st) A k n := by
  obtain ⟨hd, rfl⟩ := hd
  exact H.lift (fun hA hx hby hr => XT.dup2 hA hx rfl (hb hby hd) rfl hc hc' hr) h
theorem IsGo.dup2L (H : IsGo l Z a0 K n0 b0 y bytes maxL ret R Q G) (hd : Nx bytes pc .dup2 1 pc') {u : Int64} (h : G pc' ls (.long u :: .long u :: st) A k n) : G pc ls (.long u :: st) A k n := by
  obtain ⟨hd, rfl⟩ := hd
  exact H.lift (fun hA hx hby hr => XT.dup2L hA hx rfl (hb hby hd) rfl hr) h
theorem IsGo.pop (H : IsGo l Z a0 K n0 b0 y bytes maxL ret R Q G) (hd : Nx bytes pc .pop 1 pc') {u : Value} (hc : u.category = 1) (h : G pc' ls st A k n) : G pc ls (u :: st) A k n := by
  obtain ⟨hd, rfl⟩ := hd
  exact H.lift (fun hA hx hby hr => XS.pop hA hx rfl (hb hby hd) rfl hc hr) h
theorem dupX2_step {tb : Tables} [Ours tb] {e : Env} {below : List Frame} {T target : State} {m : MethodId} {c : Code} {g : JFrame} (h : At T m c below) (hx : tb.exec = Jvm.exec) (hg : g.method = m) {u v w : Value} {rest : List Value} (hd : decode c.code g.pc = .ok (.dup_x2, 1)) (hs : g.stack = u :: v :: w :: rest) (hc : u.category = 1) (hc2 : v.category = 1) (hc3 : w.category = 1)
    (hr : Steps tb e below (T.setTop { g with pc := g.pc + 1, stack := u :: v :: w :: u :: rest }) target) : Steps tb e below (T.setTop g) target := by
  subst hg
  jvm_step h [h.top, hx, hd, hs, hc, hc2, hc3, dup_x2.wp_sem]
  exact hr
theorem pop2L_step {tb : Tables} [Ours tb] {e : Env} {below : List Frame} {T target : State} {m : MethodId} {c : Code} {g : JFrame} (h : At T m c below) (hx : tb.exec = Jvm.exec) (hg : g.method = m) {u : Int64} {rest : List Value} (hd : decode c.code g.pc = .ok (.pop2, 1)) (hs : g.stack = .long u :: rest)
    (hr : Steps tb e below (T.setTop { g with pc := g.pc + 1, stack := rest }) target) : Steps tb e below (T.setTop g) target := by
  subst hg
  jvm_step h [h.top, hx, hd, hs, pop2.wp_sem, Value.category]
  exact hr
theorem IsGo.dupX2 (H : IsGo l Z a0 K n0 b0 y bytes maxL ret R Q G) (hd : Nx bytes pc .dup_x2 1 pc') {u v w : Value} (hc : u.category = 1) (hc' : v.category = 1) (hc3 : w.category = 1) (h : G pc' ls (u :: v :: w :: u :: st) A k n) : G pc ls (u :: v :: w :: st) A k n := by
  obtain ⟨hd, rfl⟩ := hd
  exact H.lift (fun hA hx hby hr => dupX2_step hA hx rfl (hb hby hd) rfl hc hc' hc3 hr) h
theorem IsGo.pop2L (H : IsGo l Z a0 K n0 b0 y bytes maxL ret R Q G) (hd : Nx bytes pc .pop2 1 pc') {u : Int64} (h : G pc' ls st A k n) : G pc ls (.long u :: st) A k n := by
  obtain ⟨hd, rfl⟩ := hd
  exact H.lift (fun hA hx hby hr => pop2L_step hA hx rfl (hb hby hd) rfl hr) h
/-! ### branches -/
theorem IsGo.goto (H : IsGo l Z a0 K n0 b0 y bytes maxL ret R Q G) {f : Nat} (hd : Bx bytes pc .goto pc' f) (h : G pc' ls st A k n) : G pc ls st A k n := by
  obtain ⟨o, hd, ho, hp, -⟩ := hd
  exact H.lift (fun hA hx hby hr => XS.goto hA hx rfl (pc0 := pc) (pc' := pc') rfl (hb hby hd) ho hp hr) h
/-- what a comparison of two ints says -/
def CP : ClassFile.Cond → Int32 → Int32 → Prop
  | .eq, u, v => u = v
  | .ne, u, v => ¬ u = v
  | .lt, u, v => u < v
  | .ge, u, v => ¬ u < v
  | .gt, u, v => v < u
  | .le, u, v => ¬ v < u
def CPL : ClassFile.Cond → Int64 → Int64 → Prop
  | .eq, u, v => u = v
  | .ne, u, v => ¬ u = v
  | .lt, u, v => u < v
  | .ge, u, v => ¬ u < v
  | .gt, u, v => v < u
  | .le, u, v => ¬ v < u
def ng : ClassFile.Cond → ClassFile.Cond
  | .eq => .ne | .ne => .eq | .lt => .ge | .ge => .lt | .gt => .le | .le => .gt
theorem cp_or (cd : ClassFile.Cond) (u v : Int32) : CP cd u v ∨ CP (ng cd) u v := by
  cases cd <;> simp only [CP, ng] <;> first | exact Classical.em _ | exact (Classical.em _).symm
theorem cpl_or (cd : ClassFile.Cond) (u v : Int64) : CPL cd u v ∨ CPL (ng cd) u v := by
  cases cd <;> simp only [CPL, ng] <;> first | exact Classical.em _ | exact (Classical.em _).symm
theorem cp_t {cd : ClassFile.Cond} {u v : Int32} (h : CP cd u v) : if_icmp.holds cd u v = true := by
  cases cd <;> simp only [CP] at h
  · exact XT.ii_eq_t h
  · exact XT.ii_ne_t h
  · exact XT.ii_lt_t h
  · exact XT.ii_ge_t h
  · exact XT.ii_gt_t h
  · exact XT.ii_le_t h
theorem cp_f {cd : ClassFile.Cond} {u v : Int32} (h : CP (ng cd) u v) : if_icmp.holds cd u v = false := by
  cases cd <;> simp only [CP, ng] at h
  · exact XT.ii_eq_f h
  · exact XT.ii_ne_f h
  · exact XT.ii_lt_f h
  · exact XT.ii_ge_f h
  · exact XT.ii_gt_f h
  · exact XT.ii_le_f h
theorem IsGo.icmpT (H : IsGo l Z a0 K n0 b0 y bytes maxL ret R Q G) {cd : ClassFile.Cond} {t f : Nat} (hd : Bx bytes pc (.if_icmp cd) t f) {u v : Int32} (hc : CP cd u v) (h : G t ls st A k n) : G pc ls (.int v :: .int u :: st) A k n := by
  obtain ⟨o, hd, ho, hp, rfl⟩ := hd
  exact H.lift (fun hA hx hby hr => XS.icmpYes hA hx rfl (pc0 := pc) (pc' := t) rfl (hb hby hd) rfl (cp_t hc) ho hp hr) h
theorem IsGo.icmpF (H : IsGo l Z a0 K n0 b0 y bytes maxL ret R Q G) {cd : ClassFile.Cond} {t f : Nat} (hd : Bx bytes pc (.if_icmp cd) t f) {u v : Int32} (hc : CP (ng cd) u v) (h : G f ls st A k n) : G pc ls (.int v :: .int u :: st) A k n := by
  obtain ⟨o, hd, ho, hp, rfl⟩ := hd
  exact H.lift (fun hA hx hby hr => XS.icmpNo hA hx rfl (hb hby hd) rfl (cp_f hc) hr) h
theorem IsGo.icmpS (H : IsGo l Z a0 K n0 b0 y bytes maxL ret R Q G) {cd : ClassFile.Cond} {t f : Nat} (hd : Bx bytes pc (.if_icmp cd) t f) {u v : Int32} (h1 : CP cd u v → G t ls st A k n) (h2 : CP (ng cd) u v → G f ls st A k n) : G pc ls (.int v :: .int u :: st) A k n :=
  (cp_or cd u v).elim (fun q => H.icmpT hd q (h1 q)) (fun q => H.icmpF hd q (h2 q))
theorem IsGo.ifT (H : IsGo l Z a0 K n0 b0 y bytes maxL ret R Q G) {cd : ClassFile.Cond} {t f : Nat} (hd : Bx bytes pc (.ifCond cd) t f) {u : Int32} (hc : CP cd u 0) (h : G t ls st A k n) : G pc ls (.int u :: st) A k n := by
  obtain ⟨o, hd, ho, hp, rfl⟩ := hd
  exact H.lift (fun hA hx hby hr => XS.ifYes hA hx rfl (pc0 := pc) (pc' := t) rfl (hb hby hd) rfl (by rw [if0]; exact cp_t hc) ho hp hr) h
theorem IsGo.ifF (H : IsGo l Z a0 K n0 b0 y bytes maxL ret R Q G) {cd : ClassFile.Cond} {t f : Nat} (hd : Bx bytes pc (.ifCond cd) t f) {u : Int32} (hc : CP (ng cd) u 0) (h : G f ls st A k n) : G pc ls (.int u :: st) A k n := by
  obtain ⟨o, hd, ho, hp, rfl⟩ := hd
  exact H.lift (fun hA hx hby hr => XS.ifNo hA hx rfl (hb hby hd) rfl (by rw [if0]; exact cp_f hc) hr) h
theorem IsGo.ifS (H : IsGo l Z a0 K n0 b0 y bytes maxL ret R Q G) {cd : ClassFile.Cond} {t f : Nat} (hd : Bx bytes pc (.ifCond cd) t f) {u : Int32} (h1 : CP cd u 0 → G t ls st A k n) (h2 : CP (ng cd) u 0 → G f ls st A k n) : G pc ls (.int u :: st) A k n :=
  (cp_or cd u 0).elim (fun q => H.ifT hd q (h1 q)) (fun q => H.ifF hd q (h2 q))
theorem cpl_cp {cd : ClassFile.Cond} {u v : Int64} (h : CPL cd u v) : CP cd (lcmpW u v) 0 := by
  cases cd <;> simp only [CPL] at h <;> simp only [CP]
  · exact (lw_eq u v).mpr h
  · exact fun q => h ((lw_eq u v).mp q)
  · exact (lw_lt u v).mpr h
  · exact fun q => h ((lw_lt u v).mp q)
  · exact (lw_gt u v).mpr h
  · exact fun q => h ((lw_gt u v).mp q)
theorem IsGo.lcmp (H : IsGo l Z a0 K n0 b0 y bytes maxL ret R Q G) (hd : Nx bytes pc .lcmp 1 pc') {u v : Int64} (h : G pc' ls (.int (lcmpW u v) :: st) A k n) : G pc ls (.long v :: .long u :: st) A k n := by
  obtain ⟨hd, rfl⟩ := hd
  exact H.lift (fun hA hx hby hr => XS.lcmp hA hx rfl (hb hby hd) rfl hr) h
theorem IsGo.lifT (H : IsGo l Z a0 K n0 b0 y bytes maxL ret R Q G) (hd0 : Nx bytes pc .lcmp 1 pc') {cd : ClassFile.Cond} {t f : Nat} (hd : Bx bytes pc' (.ifCond cd) t f) {u v : Int64} (hc : CPL cd u v) (h : G t ls st A k n) : G pc ls (.long v :: .long u :: st) A k n :=
  H.lcmp hd0 (H.ifT hd (cpl_cp hc) h)
theorem cpl_ng {cd : ClassFile.Cond} {u v : Int64} (h : CPL (ng cd) u v) : CP (ng cd) (lcmpW u v) 0 := cpl_cp h
theorem IsGo.lifF (H : IsGo l Z a0 K n0 b0 y bytes maxL ret R Q G) (hd0 : Nx bytes pc .lcmp 1 pc') {cd : ClassFile.Cond} {t f : Nat} (hd : Bx bytes pc' (.ifCond cd) t f) {u v : Int64} (hc : CPL (ng cd) u v) (h : G f ls st A k n) : G pc ls (.long v :: .long u :: st) A k n :=
  H.lcmp hd0 (H.ifF hd (cpl_ng hc) h)
theorem IsGo.lifS (H : IsGo l Z a0 K n0 b0 y bytes maxL ret R Q G) (hd0 : Nx bytes pc .lcmp 1 pc') {cd : ClassFile.Cond} {t f : Nat} (hd : Bx bytes pc' (.ifCond cd) t f) {u v : Int64} (h1 : CPL cd u v → G t ls st A k n) (h2 : CPL (ng cd) u v → G f ls st A k n) : G pc ls (.long v :: .long u :: st) A k n :=
  (cpl_or cd u v).elim (fun q => H.lifT hd0 hd q (h1 q)) (fun q => H.lifF hd0 hd q (h2 q))
theorem IsGo.ifnullT (H : IsGo l Z a0 K n0 b0 y bytes maxL ret R Q G) {t f : Nat} (hd : Bx bytes pc .ifnull t f) (h : G t ls st A k n) : G pc ls (.null :: st) A k n := by
  obtain ⟨o, hd, ho, hp, rfl⟩ := hd
  exact H.lift (fun hA hx hby hr => XS.ifnullYes hA hx rfl (pc0 := pc) (pc' := t) rfl (hb hby hd) rfl ho hp hr) h
theorem IsGo.ifnullF (H : IsGo l Z a0 K n0 b0 y bytes maxL ret R Q G) {t f : Nat} (hd : Bx bytes pc .ifnull t f) {b : Addr} (h : G f ls st A k n) : G pc ls (.ref b :: st) A k n := by
  obtain ⟨o, hd, ho, hp, rfl⟩ := hd
  exact H.lift (fun hA hx hby hr => XS.ifnullNo hA hx rfl (hb hby hd) rfl hr) h
theorem IsGo.ifnonnullT (H : IsGo l Z a0 K n0 b0 y bytes maxL ret R Q G) {t f : Nat} (hd : Bx bytes pc .ifnonnull t f) {b : Addr} (h : G t ls st A k n) : G pc ls (.ref b :: st) A k n := by
  obtain ⟨o, hd, ho, hp, rfl⟩ := hd
  exact H.lift (fun hA hx hby hr => XS.ifnonnullYes hA hx rfl (pc0 := pc) (pc' := t) rfl (hb hby hd) rfl ho hp hr) h
theorem IsGo.ifnonnullF (H : IsGo l Z a0 K n0 b0 y bytes maxL ret R Q G) {t f : Nat} (hd : Bx bytes pc .ifnonnull t f) (h : G f ls st A k n) : G pc ls (.null :: st) A k n := by
  obtain ⟨o, hd, ho, hp, rfl⟩ := hd
  exact H.lift (fun hA hx hby hr => XS.ifnonnullNo hA hx rfl (hb hby hd) rfl hr) h
theorem IsGo.acmp (H : IsGo l Z a0 K n0 b0 y bytes maxL ret R Q G) {cd : ClassFile.ACond} {t f : Nat} (hd : Bx bytes pc (.if_acmp cd) t f) {u v : Value} (h1 : u.isRef = true) (h2 : v.isRef = true) {same : Bool} (hq : decide (u = v) = same) (h : G (if acV cd same = true then t else f) ls st A k n) : G pc ls (v :: u :: st) A k n := by
  obtain ⟨o, hd, ho, hp, rfl⟩ := hd
  obtain ⟨p, e, s, m, args, below, meth, c, hx, hby, hml, hown, hnm, hret, hlk, hZ, hK, hb0, rfl⟩ := H
  intro T locs X hR hF
  obtain ⟨s₂, oo, q1, q2⟩ := h T locs X hR hF
  exact ⟨s₂, oo, RoadKit.acmp X hx (g := mkF m pc ls (v :: u :: st)) rfl h1 h2 (pc0 := pc) rfl (hb hby hd) rfl hq ho (by rw [hp]) q1, q2⟩
/-! ### the heap -/
def FL (Z : State) (a0 : Array Value) (K : KTab) (own : String) (idx k j : Nat) : Prop := ∃ C fs O nm d host, K[k]? = some (C, fs) ∧ fs[j]? = some (O, nm, d) ∧ ((Jvm.Cond.fieldLink own idx O nm d).before a0 Z = true ∨ (Jvm.Cond.fieldLinkNest own idx O nm d host).before a0 Z = true)
def PL (Z : State) (a0 : Array Value) (K : KTab) (own mname : String) (idx k j : Nat) (ty : FieldType) : Prop := ∃ C fs O nm d host, K[k]? = some (C, fs) ∧ fs[j]? = some (O, nm, d) ∧ ((Jvm.Cond.fieldLink own idx O nm d).before a0 Z = true ∨ (Jvm.Cond.fieldLinkNest own idx O nm d host).before a0 Z = true) ∧
  ((Jvm.Cond.lays C O nm d).before a0 Z = true ∨ ((Jvm.Cond.laysFinal C O nm d).before a0 Z = true ∧ own = O ∧ mname = "<init>")) ∧ parseFieldDescriptor d = some ty
theorem IsGo.getfield (H : IsGo l Z a0 K n0 b0 y bytes maxL ret R Q G) {idx kk j i : Nat} (hd : Nx bytes pc (.getfield idx) 3 pc') (L : FL Z a0 K y.cls idx kk j) {vs : List Value} {v : Value} (hA : A[i]? = some (.inl (kk, vs))) (hv : vs[j]? = some v) (h : G pc' ls (v :: st) A k n) : G pc ls (.ref (n0 + i) :: st) A k n := by
  obtain ⟨hd, rfl⟩ := hd
  obtain ⟨p, e, s, m, args, below, meth, c, hx, hby, hml, hown, hnm, hret, hlk, hZ, hK, hb0, rfl⟩ := H
  obtain ⟨C, fs, O, nm, d, host, hk, hj, w⟩ := L
  intro T locs X hR hF
  obtain ⟨C', fs', hk', hE, hlen, hf⟩ := hR.2 i _ hA
  cases hk.symm.trans hk'
  obtain ⟨T', X', eT, sp⟩ := getF X hx hZ hown w Via.refl rfl (hf j _ v hj hv) (g := mkF m pc ls (.ref (n0 + i) :: st)) rfl rfl (hb hby hd)
  obtain ⟨s₂, o, h1, h2⟩ := h T' locs X' (by rw [eT]; exact hR) hF
  exact ⟨s₂, o, sp _ h1, h2⟩
theorem IsGo.putfield (H : IsGo l Z a0 K n0 b0 y bytes maxL ret R Q G) {idx kk j i : Nat} {ty : FieldType} (hd : Nx bytes pc (.putfield idx) 3 pc') (L : PL Z a0 K y.cls y.name idx kk j ty) {vs : List Value} {v : Value} (hA : A[i]? = some (.inl (kk, vs))) (hn : narrow ty v = v) (hf : fits ty v = true) (hA' : A.set i (.inl (kk, vs.set j v)) = A') (h : G pc' ls st A' k n) : G pc ls (v :: .ref (n0 + i) :: st) A k n := by
  obtain ⟨hd, rfl⟩ := hd
  obtain ⟨p, e, s, m, args, below, meth, c, hx, hby, hml, hown, hnm, hret, hlk, hZ, hK, hb0, rfl⟩ := H
  obtain ⟨C, fs, O, nm, d, host, hk, hj, w, wl, hty⟩ := L
  subst hA'
  intro T locs X hR hF
  have hO := hR.2 i _ hA
  obtain ⟨C', fs', hk', hE, hlen, hfl⟩ := hR.2 i _ hA
  cases hk.symm.trans hk'
  obtain ⟨⟨ki, wi⟩, -, -⟩ := hK kk C fs hk
  have hlt : j < vs.length := by rw [hlen]; exact (List.getElem?_eq_some_iff.mp hj).1
  obtain ⟨T', h', X', eT, W, sp⟩ := putF X hx hZ hown w Via.refl rfl (hfl j _ vs[j] hj (List.getElem?_eq_getElem hlt)) hE (by rw [hnm]; exact wl) wi hty hn hf (g := mkF m pc ls (v :: .ref (n0 + i) :: st)) rfl rfl (hb hby hd)
  obtain ⟨s₂, o, h1, h2⟩ := h T' _ X' (by rw [eT]; exact hR.set W (hO.setF hK hk hj W)) (Fr.snoc X' hF (Nat.le_add_right _ _))
  exact ⟨s₂, o, sp _ h1, h2⟩
def NL (Z : State) (a0 : Array Value) (K : KTab) (own : String) (idx kk sz : Nat) (dv : List Value) : Prop := ∃ C fs, K[kk]? = some (C, fs) ∧ (Jvm.Cond.classLink own idx C).before a0 Z = true ∧ (Jvm.Cond.instantiable C sz).before a0 Z = true ∧ (Jvm.Cond.initialized C).before a0 Z = true ∧ fs.map (fun f => (parseFieldDescriptor f.2.2).map defaultValue) = dv.map some
theorem size_up {p : Program} {e : Env} {s T' : State} {m : MethodId} {args : Array Value} {below : List Frame} {meth : Method} {c : Code} {locs : List Loc} {h : Heap} (X : Stand p l e R s m args below meth c T' locs (k + 1) n) (hb : s.heap.size = n0 + b0) (hh : h.size = n0 + A.length) (hk : A.length = b0 + k) (hlt : h.size < T'.heap.size) : T'.heap.size = n0 + (A.length + 1) := by
  have := X.heapSize
  omega
theorem IsGo.new (H : IsGo l Z a0 K n0 b0 y bytes maxL ret R Q G) {idx kk sz i : Nat} {dv : List Value} (hd : Nx bytes pc (.new idx) 3 pc') (L : NL Z a0 K y.cls idx kk sz dv) (hk : A.length = b0 + k) (hc : k + 1 ≤ R.cells) (hs : n + sz ≤ R.slots) (hi : A.length = i) (hA' : A ++ [.inl (kk, dv)] = A') (hk' : k + 1 = k') (hn' : n + sz = n') (h : G pc' ls (.ref (n0 + i) :: st) A' k' n') : G pc ls st A k n := by
  obtain ⟨hd, rfl⟩ := hd
  obtain ⟨p, e, s, m, args, below, meth, c, hx, hby, hml, hown, hnm, hret, hlk, hZ, hK, hb0, rfl⟩ := H
  obtain ⟨C, fs, hkk, w1, w2, w3, hdv⟩ := L
  subst hA' hk' hn' hi
  intro T locs X hR hF
  obtain ⟨T', h', X', eT, E, EA, D, -, sp⟩ := newO X hx hZ hown w1 w2 w3 rfl (g := mkF m pc ls st) rfl (hb hby hd) hc hs
  have hsz : h'.size = n0 + (A.length + 1) := by rw [← eT]; exact size_up X' hb0 hR.1 hk (by rw [eT]; exact EA.lt)
  rw [hR.1] at EA D
  have hlen : dv.length = fs.length := by simpa using (congrArg List.length hdv).symm
  obtain ⟨-, kl, -⟩ := hK kk C fs hkk
  have hN : ObAt Z K h' (n0 + A.length) (.inl (kk, dv)) := ⟨C, fs, hkk, EA, hlen, fun j f v q r => by
    obtain ⟨L1, t, ht⟩ := kl j f q
    have e1 : (fs.map (fun f => (parseFieldDescriptor f.2.2).map defaultValue))[j]? = some (some (defaultValue t)) := by simp [List.getElem?_map, q, ht]
    rw [hdv, List.getElem?_map, r] at e1
    simp only [Option.map_some, Option.some.injEq] at e1
    rw [e1]; exact D L1 ht⟩
  obtain ⟨s₂, o, h1, h2⟩ := h T' locs X' (by rw [eT]; exact hR.push E hsz hN) hF
  rw [← hR.1] at h1
  exact ⟨s₂, o, sp _ h1, h2⟩
def AL (Z : State) (a0 : Array Value) (t : FieldType) : Prop := (Jvm.Cond.arrayClass t).before a0 Z = true
theorem tn_of {z : Int32} {N : Nat} (h : z.toInt = (N : Int)) : ¬ z < 0 ∧ z.toNatClampNeg = N := by
  constructor
  · intro q
    have := Int32.lt_iff_toInt_lt.mp q
    simp at this; omega
  · simp [Int32.toNatClampNeg, h]
theorem IsGo.newarray (H : IsGo l Z a0 K n0 b0 y bytes maxL ret R Q G) {aty : ArrayType} {i N cap : Nat} {z : Int32} {vs : List Value} {ty : FieldType} (hd : Nx bytes pc (.newarray aty) 2 pc') (hty : newarray.typeOf aty = ty) (w : AL Z a0 ty) (hz : z.toInt = (N : Int)) (hvs : List.replicate N (defaultValue ty) = vs) (hcap : N ≤ cap) (hbig : cap * 8 ≤ 536870912) (hk : A.length = b0 + k) (hc : k + 1 ≤ R.cells) (hs : n + cap ≤ R.slots) (hi : A.length = i) (hA' : A ++ [.inr (ty, vs)] = A') (hk' : k + 1 = k') (hn' : n + cap = n') (h : G pc' ls (.ref (n0 + i) :: st) A' k' n') : G pc ls (.int z :: st) A k n := by
  obtain ⟨hd, rfl⟩ := hd
  obtain ⟨p, e, s, m, args, below, meth, c, hx, hby, hml, hown, hnm, hret, hlk, hZ, hK, hb0, rfl⟩ := H
  subst hA' hk' hn' hi hty
  obtain ⟨z1, z2⟩ := tn_of hz
  intro T locs X hR hF
  obtain ⟨T', h', cA, X', eT, E, Ar, EA, sp⟩ := newPE X hx hZ w rfl (g := mkF m pc ls (.int z :: st)) rfl (hb hby hd) rfl z1 (by rw [z2]; exact hcap) hbig hc hs rfl
  have hsz : h'.size = n0 + (A.length + 1) := by rw [← eT]; exact size_up X' hb0 hR.1 hk (by rw [eT]; exact EA.lt)
  rw [hR.1] at EA Ar
  have hN : ObAt Z K h' (n0 + A.length) (.inr (newarray.typeOf aty, vs)) := ⟨⟨EA, fun w hw => by rw [← hvs] at hw; rw [(List.mem_replicate.mp hw).2]; cases aty <;> rfl⟩, _, Ar, by simp [newA, z2, ← hvs], fun C q => by cases aty <;> simp [newarray.typeOf] at q⟩
  obtain ⟨s₂, o, h1, h2⟩ := h T' locs X' (by rw [eT]; exact hR.push E hsz hN) hF
  rw [← hR.1] at h1
  exact ⟨s₂, o, sp _ h1, h2⟩
theorem IsGo.anewarray (H : IsGo l Z a0 K n0 b0 y bytes maxL ret R Q G) {idx i N cap : Nat} {z : Int32} {vs : List Value} {C : String} (hd : Nx bytes pc (.anewarray idx) 3 pc') (w1 : (Jvm.Cond.classLink y.cls idx C).before a0 Z = true) (w2 : (Jvm.Cond.arrayOver (.object C)).before a0 Z = true) (hz : z.toInt = (N : Int)) (hvs : List.replicate N Value.null = vs) (hcap : N ≤ cap) (hbig : cap * 8 ≤ 536870912) (hk : A.length = b0 + k) (hc : k + 1 ≤ R.cells) (hs : n + cap ≤ R.slots) (hi : A.length = i) (hA' : A ++ [.inr (.object C, vs)] = A') (hk' : k + 1 = k') (hn' : n + cap = n') (h : G pc' ls (.ref (n0 + i) :: st) A' k' n') : G pc ls (.int z :: st) A k n := by
  obtain ⟨hd, rfl⟩ := hd
  obtain ⟨p, e, s, m, args, below, meth, c, hx, hby, hml, hown, hnm, hret, hlk, hZ, hK, hb0, rfl⟩ := H
  subst hA' hk' hn' hi
  obtain ⟨z1, z2⟩ := tn_of hz
  intro T locs X hR hF
  obtain ⟨T', h', cA, X', eT, E, Ar, EA, Ov, sp⟩ := newRE X hx hZ hown w1 w2 rfl (g := mkF m pc ls (.int z :: st)) rfl (hb hby hd) rfl z1 (by rw [z2]; exact hcap) hbig hc hs rfl
  have hsz : h'.size = n0 + (A.length + 1) := by rw [← eT]; exact size_up X' hb0 hR.1 hk (by rw [eT]; exact EA.lt)
  rw [hR.1] at EA Ar
  have hN : ObAt Z K h' (n0 + A.length) (.inr (.object C, vs)) := ⟨⟨EA, fun w hw => by rw [← hvs] at hw; rw [(List.mem_replicate.mp hw).2]; rfl⟩, _, Ar, by simp [newA, z2, ← hvs, defaultValue], fun C' q => by cases q; exact Ov⟩
  obtain ⟨s₂, o, h1, h2⟩ := h T' locs X' (by rw [eT]; exact hR.push E hsz hN) hF
  rw [← hR.1] at h1
  exact ⟨s₂, o, sp _ h1, h2⟩
theorem arr_in {c : Cell} {vs : List Value} {z : Int32} {j : Nat} (hz : z.toInt = (j : Int)) (hs : c.slots = vs.toArray) (hj : j < vs.length) : ¬ (z < 0 ∨ c.slots.size ≤ z.toNatClampNeg) := by
  obtain ⟨z1, z2⟩ := tn_of hz
  rw [z2, hs]; simp [z1]; omega
theorem IsGo.arraylength (H : IsGo l Z a0 K n0 b0 y bytes maxL ret R Q G) (hd : Nx bytes pc .arraylength 1 pc') {i : Nat} {ty : FieldType} {vs : List Value} {z : Int32} (hA : A[i]? = some (.inr (ty, vs))) (hz : vs.length.toInt32 = z) (h : G pc' ls (.int z :: st) A k n) : G pc ls (.ref (n0 + i) :: st) A k n := by
  obtain ⟨hd, rfl⟩ := hd
  obtain ⟨p, e, s, m, args, below, meth, c, hx, hby, hml, hown, hnm, hret, hlk, hZ, hK, hb0, rfl⟩ := H
  subst hz
  intro T locs X hR hF
  obtain ⟨EA, cl, Ar, hcs, -⟩ := hR.2 i _ hA
  obtain ⟨s₂, o, h1, h2⟩ := h T locs X hR hF
  have q : vs.length = cl.slots.size := by rw [hcs]; simp
  rw [q] at h1
  exact ⟨s₂, o, X.arraylength hx Ar.1 (State.isArrayOf_alike hZ.alike Ar.2.1) (g := mkF m pc ls (.ref (n0 + i) :: st)) rfl rfl (hb hby hd) _ h1, h2⟩
theorem IsGo.iaload (H : IsGo l Z a0 K n0 b0 y bytes maxL ret R Q G) (hd : Nx bytes pc .iaload 1 pc') {i j : Nat} {vs : List Value} {z : Int32} {v : Value} (hA : A[i]? = some (.inr (.int, vs))) (hz : z.toInt = (j : Int)) (hv : vs[j]? = some v) (h : G pc' ls (v :: st) A k n) : G pc ls (.int z :: .ref (n0 + i) :: st) A k n := by
  obtain ⟨hd, rfl⟩ := hd
  obtain ⟨p, e, s, m, args, below, meth, c, hx, hby, hml, hown, hnm, hret, hlk, hZ, hK, hb0, rfl⟩ := H
  intro T locs X hR hF
  obtain ⟨EA, cl, Ar, hcs, -⟩ := hR.2 i _ hA
  obtain ⟨s₂, o, h1, h2⟩ := h T locs X hR hF
  exact ⟨s₂, o, X.iaload hx Ar.1 (State.isArrayOf_alike hZ.alike Ar.2.1) Ar.2.2 (arr_in hz hcs (List.getElem?_eq_some_iff.mp hv).1) (v := v) (by rw [(tn_of hz).2, hcs]; simpa using hv) (g := mkF m pc ls (.int z :: .ref (n0 + i) :: st)) rfl rfl (hb hby hd) _ h1, h2⟩
theorem IsGo.laload (H : IsGo l Z a0 K n0 b0 y bytes maxL ret R Q G) (hd : Nx bytes pc .laload 1 pc') {i j : Nat} {vs : List Value} {z : Int32} {v : Value} (hA : A[i]? = some (.inr (.long, vs))) (hz : z.toInt = (j : Int)) (hv : vs[j]? = some v) (h : G pc' ls (v :: st) A k n) : G pc ls (.int z :: .ref (n0 + i) :: st) A k n := by
  obtain ⟨hd, rfl⟩ := hd
  obtain ⟨p, e, s, m, args, below, meth, c, hx, hby, hml, hown, hnm, hret, hlk, hZ, hK, hb0, rfl⟩ := H
  intro T locs X hR hF
  obtain ⟨EA, cl, Ar, hcs, -⟩ := hR.2 i _ hA
  obtain ⟨s₂, o, h1, h2⟩ := h T locs X hR hF
  exact ⟨s₂, o, X.laload hx Ar.1 (State.isArrayOf_alike hZ.alike Ar.2.1) Ar.2.2 (arr_in hz hcs (List.getElem?_eq_some_iff.mp hv).1) (v := v) (by rw [(tn_of hz).2, hcs]; simpa using hv) (g := mkF m pc ls (.int z :: .ref (n0 + i) :: st)) rfl rfl (hb hby hd) _ h1, h2⟩
theorem IsGo.aaload (H : IsGo l Z a0 K n0 b0 y bytes maxL ret R Q G) (hd : Nx bytes pc .aaload 1 pc') {i j : Nat} {C : String} {vs : List Value} {z : Int32} {v : Value} (hA : A[i]? = some (.inr (.object C, vs))) (hz : z.toInt = (j : Int)) (hv : vs[j]? = some v) (h : G pc' ls (v :: st) A k n) : G pc ls (.int z :: .ref (n0 + i) :: st) A k n := by
  obtain ⟨hd, rfl⟩ := hd
  obtain ⟨p, e, s, m, args, below, meth, c, hx, hby, hml, hown, hnm, hret, hlk, hZ, hK, hb0, rfl⟩ := H
  intro T locs X hR hF
  obtain ⟨EA, cl, Ar, hcs, -⟩ := hR.2 i _ hA
  obtain ⟨s₂, o, h1, h2⟩ := h T locs X hR hF
  exact ⟨s₂, o, X.aaload hx Ar.1 (State.isArrayOf_alike hZ.alike Ar.2.1) rfl Ar.2.2 (arr_in hz hcs (List.getElem?_eq_some_iff.mp hv).1) (v := v) (by rw [(tn_of hz).2, hcs]; simpa using hv) (g := mkF m pc ls (.int z :: .ref (n0 + i) :: st)) rfl rfl (hb hby hd) _ h1, h2⟩
theorem IsGo.iastore (H : IsGo l Z a0 K n0 b0 y bytes maxL ret R Q G) (hd : Nx bytes pc .iastore 1 pc') {i j : Nat} {vs : List Value} {z v : Int32} (hA : A[i]? = some (.inr (.int, vs))) (hz : z.toInt = (j : Int)) (hj : j < vs.length) (hA' : A.set i (.inr (.int, vs.set j (.int v))) = A') (h : G pc' ls st A' k n) : G pc ls (.int v :: .int z :: .ref (n0 + i) :: st) A k n := by
  obtain ⟨hd, rfl⟩ := hd
  obtain ⟨p, e, s, m, args, below, meth, c, hx, hby, hml, hown, hnm, hret, hlk, hZ, hK, hb0, rfl⟩ := H
  subst hA'
  intro T locs X hR hF
  have hO := hR.2 i _ hA
  obtain ⟨EA, cl, Ar, hcs, -⟩ := hR.2 i _ hA
  obtain ⟨T', h', X', eT, W, sp⟩ := stI X hx hZ rfl Ar (arr_in hz hcs hj) (g := mkF m pc ls (.int v :: .int z :: .ref (n0 + i) :: st)) rfl rfl (hb hby hd)
  rw [(tn_of hz).2] at W
  obtain ⟨s₂, o, h1, h2⟩ := h T' _ X' (by rw [eT]; exact hR.set W (hO.setA W rfl)) (Fr.snoc X' hF (Nat.le_add_right _ _))
  exact ⟨s₂, o, sp _ h1, h2⟩
theorem IsGo.lastore (H : IsGo l Z a0 K n0 b0 y bytes maxL ret R Q G) (hd : Nx bytes pc .lastore 1 pc') {i j : Nat} {vs : List Value} {z : Int32} {v : Int64} (hA : A[i]? = some (.inr (.long, vs))) (hz : z.toInt = (j : Int)) (hj : j < vs.length) (hA' : A.set i (.inr (.long, vs.set j (.long v))) = A') (h : G pc' ls st A' k n) : G pc ls (.long v :: .int z :: .ref (n0 + i) :: st) A k n := by
  obtain ⟨hd, rfl⟩ := hd
  obtain ⟨p, e, s, m, args, below, meth, c, hx, hby, hml, hown, hnm, hret, hlk, hZ, hK, hb0, rfl⟩ := H
  subst hA'
  intro T locs X hR hF
  have hO := hR.2 i _ hA
  obtain ⟨EA, cl, Ar, hcs, -⟩ := hR.2 i _ hA
  obtain ⟨T', h', X', eT, W, sp⟩ := stJ X hx hZ rfl Ar (arr_in hz hcs hj) (g := mkF m pc ls (.long v :: .int z :: .ref (n0 + i) :: st)) rfl rfl (hb hby hd)
  rw [(tn_of hz).2] at W
  obtain ⟨s₂, o, h1, h2⟩ := h T' _ X' (by rw [eT]; exact hR.set W (hO.setA W rfl)) (Fr.snoc X' hF (Nat.le_add_right _ _))
  exact ⟨s₂, o, sp _ h1, h2⟩
theorem IsGo.bastore (H : IsGo l Z a0 K n0 b0 y bytes maxL ret R Q G) (hd : Nx bytes pc .bastore 1 pc') {i j : Nat} {vs : List Value} {z v w : Int32} (hA : A[i]? = some (.inr (.byte, vs))) (hz : z.toInt = (j : Int)) (hj : j < vs.length) (hw : nar .byte v = w) (hA' : A.set i (.inr (.byte, vs.set j (.int w))) = A') (h : G pc' ls st A' k n) : G pc ls (.int v :: .int z :: .ref (n0 + i) :: st) A k n := by
  obtain ⟨hd, rfl⟩ := hd
  obtain ⟨p, e, s, m, args, below, meth, c, hx, hby, hml, hown, hnm, hret, hlk, hZ, hK, hb0, rfl⟩ := H
  subst hA' hw
  intro T locs X hR hF
  have hO := hR.2 i _ hA
  obtain ⟨EA, cl, Ar, hcs, -⟩ := hR.2 i _ hA
  obtain ⟨T', h', X', eT, W, sp⟩ := stB X hx hZ rfl Ar (arr_in hz hcs hj) (g := mkF m pc ls (.int v :: .int z :: .ref (n0 + i) :: st)) rfl rfl (hb hby hd)
  rw [(tn_of hz).2] at W
  obtain ⟨s₂, o, h1, h2⟩ := h T' _ X' (by rw [eT]; exact hR.set W (hO.setA W (fits_nar_byte v))) (Fr.snoc X' hF (Nat.le_add_right _ _))
  exact ⟨s₂, o, sp _ h1, h2⟩
/-- the value can stand in an array of that class -/
def StoO (K : KTab) (C : String) (n0 : Nat) (A : List Ob) (v : Value) : Prop := v = .null ∨ ∃ i kk vs fs, v = .ref (n0 + i) ∧ A[i]? = some (.inl (kk, vs)) ∧ K[kk]? = some (C, fs)
theorem IsGo.aastore (H : IsGo l Z a0 K n0 b0 y bytes maxL ret R Q G) (hd : Nx bytes pc .aastore 1 pc') {i j : Nat} {C : String} {vs : List Value} {z : Int32} {v : Value} (hA : A[i]? = some (.inr (.object C, vs))) (hz : z.toInt = (j : Int)) (hj : j < vs.length) (hv : StoO K C n0 A v) (hA' : A.set i (.inr (.object C, vs.set j v)) = A') (h : G pc' ls st A' k n) : G pc ls (v :: .int z :: .ref (n0 + i) :: st) A k n := by
  obtain ⟨hd, rfl⟩ := hd
  obtain ⟨p, e, s, m, args, below, meth, c, hx, hby, hml, hown, hnm, hret, hlk, hZ, hK, hb0, rfl⟩ := H
  subst hA'
  intro T locs X hR hF
  have hO := hR.2 i _ hA
  obtain ⟨EA, cl, Ar, hcs, hov⟩ := hR.2 i _ hA
  have S : Sto Z T.heap (n0 + i) v := by
    rcases hv with rfl | ⟨i2, kk, vs2, fs, rfl, q1, q2⟩
    · exact Or.inl rfl
    · exact Sto.of Ar (hov C rfl) (Ins.self ((hR.2 i2 _ q1).exa q2))
  obtain ⟨T', h', X', eT, W, sp⟩ := stR X hx hZ rfl Ar (arr_in hz hcs hj) rfl S (g := mkF m pc ls (v :: .int z :: .ref (n0 + i) :: st)) rfl rfl (hb hby hd)
  rw [(tn_of hz).2] at W
  obtain ⟨s₂, o, h1, h2⟩ := h T' _ X' (by rw [eT]; exact hR.set W (hO.setA W (by rcases hv with rfl | ⟨i2, kk, vs2, fs, rfl, -⟩ <;> rfl))) (Fr.snoc X' hF (Nat.le_add_right _ _))
  exact ⟨s₂, o, sp _ h1, h2⟩
/-! ### arraycopy, clone, checkcast -/
def XL (Z : State) (a0 : Array Value) (own : String) (idx : Nat) : Prop := (Jvm.Cond.methodLink own idx Jvm.Stand.acN).before a0 Z = true ∧ (Jvm.Cond.native Jvm.Stand.acN).before a0 Z = true ∧ (Jvm.Cond.static Jvm.Stand.acN).before a0 Z = true ∧ (Jvm.Cond.initialized "java/lang/System").before a0 Z = true
theorem arv_of {h : Heap} {a : Addr} {ty : FieldType} {vs : List Value} (hl : vs.length < 2147483648) (F : ObAt Z K h a (.inr (ty, vs))) : ∃ kc : ClassId, Arv Z h a kc ty vs.length.toInt32 vs .null ∧ ∀ C, ty = .object C → Ovr Z kc C := by
  obtain ⟨⟨h1, hf⟩, c, h2, h3, h4⟩ := F
  have e := len_toInt (n := vs.length) (by omega)
  obtain ⟨z1, z2⟩ := tn_of e
  refine ⟨c.cls, ⟨c, h2, rfl, by rw [z2, h3]; simp, z1, fun k hk => ?_, fun i hi => ?_⟩, h4⟩
  · rw [h3] at hk ⊢
    have hk' : k < vs.length := by simpa using hk
    simp [List.getD, hk']
  · rw [h3] at hi
    have hi' : i < vs.length := by simpa using hi
    have : vs.getD i .null = vs[i] := by simp [List.getD, hi']
    rw [this]; exact hf _ (List.getElem_mem hi')
theorem slots_of {c : Cell} {vs : List Value} {d : Value} (hs : c.slots.size = vs.length) (hh : ∀ k, k < c.slots.size → c.slots[k]? = some (vs.getD k d)) : c.slots = vs.toArray := by
  apply Array.ext
  · simpa using hs
  · intro i h1 h2
    have q := hh i h1
    have h3 : i < vs.length := by simpa using h2
    rw [Array.getElem?_eq_getElem h1] at q
    have e : vs.getD i d = vs[i] := by simp [List.getD, h3]
    rw [e] at q
    simpa using q
theorem IsGo.arraycopy (H : IsGo l Z a0 K n0 b0 y bytes maxL ret R Q G) {idx : Nat} (hd : Nx bytes pc (.invokestatic idx) 3 pc') (L : XL Z a0 y.cls idx) {i j : Nat} {ty : FieldType} {vs vd us : List Value} {sp dp nn : Int32} {p q r : Nat} (hA : A[i]? = some (.inr (ty, vs))) (hB : A[j]? = some (.inr (ty, vd))) (hty : refKind ty = false) (h1 : sp.toInt = (p : Int)) (h2 : dp.toInt = (q : Int)) (h3 : nn.toInt = (r : Int)) (h4 : p + r ≤ vs.length) (h5 : q + r ≤ vd.length) (l1 : vs.length < 2147483648) (l2 : vd.length < 2147483648)
    (hus : (List.range r).map (fun i => vs.getD (p + i) .null) = us) (hls : ls.size = maxL) (hf : 1 ≤ R.frames) (hl : (st.map fun v => v.category).sum + (nativeFrameWords "java/lang/System" "arraycopy" 5 + 11) ≤ R.locals) (hk : A.length = b0 + k) (hA' : A.set j (.inr (ty, vd.take q ++ us ++ vd.drop (q + r))) = A') (h : G pc' ls st A' k n) : G pc ls (.int nn :: .int dp :: .ref (n0 + j) :: .int sp :: .ref (n0 + i) :: st) A k n := by
  obtain ⟨hd, rfl⟩ := hd
  obtain ⟨pp, e, s, m, args, below, meth, c, hx, hby, hml, hown, hnm, hret, hlk, hZ, hK, hb0, rfl⟩ := H
  obtain ⟨w1, w2, w3, w4⟩ := L
  subst hA'
  intro T locs X hR hF
  obtain ⟨k1, V1, -⟩ := arv_of l1 (hR.2 i _ hA)
  obtain ⟨k2, V2, O2⟩ := arv_of l2 (hR.2 j _ hB)
  obtain ⟨⟨EB, fB⟩, -⟩ := hR.2 j _ hB
  obtain ⟨⟨-, fA⟩, -⟩ := hR.2 i _ hA
  obtain ⟨s1, s2⟩ := tn_of h1
  obtain ⟨t1, t2⟩ := tn_of h2
  obtain ⟨u1, u2⟩ := tn_of h3
  have n1 := (tn_of (len_toInt (n := vs.length) (by omega))).2
  have n2 := (tn_of (len_toInt (n := vd.length) (by omega))).2
  obtain ⟨T', h', L', X', eT, F', Kp, V', sp'⟩ := cpA X hx hZ hown w1 w2 w3 w4 rfl V1 V2 (us := us) (Or.inl ⟨rfl, hty⟩) s1 t1 u1 (by rw [s2, u2, n1]; exact h4) (by rw [t2, u2, n2]; exact h5) (by rw [s2, u2]; exact hus.symm) (by rw [t2, u2]; exact h5) (n0 := n0) hF (Nat.le_add_right _ _) (g := mkF m pc ls (.int nn :: .int dp :: .ref (n0 + j) :: .int sp :: .ref (n0 + i) :: st)) rfl (by rw [hml]; exact hls) rfl (hb hby hd) hf (W := (st.map fun v => v.category).sum) (by show 2 * 0 + _ ≤ _; omega) hl
  have hsz : h'.size = T.heap.size := by
    have q1 := X'.heapSize
    have q2 := Kp.1
    have q3 := hR.1
    rw [eT] at q1
    omega
  rw [t2, u2] at V'
  have hlen : (vd.take q ++ us ++ vd.drop (q + r)).length = vd.length := by
    have : us.length = r := by rw [← hus]; simp
    simp [this]; omega
  have hO : ObAt Z K h' (n0 + j) (.inr (ty, vd.take q ++ us ++ vd.drop (q + r))) := by
    obtain ⟨cc, a1, a2, a3, a4, a5, a6⟩ := V'
    have e1 : cc.slots.size = (vd.take q ++ us ++ vd.drop (q + r)).length := by rw [hlen, a3, n2]
    refine ⟨⟨EB.keep Kp, fun w hw => ?_⟩, cc, a1, slots_of e1 a5, fun C q => by rw [a2]; exact O2 C q⟩
    obtain ⟨z, hz, rfl⟩ := List.mem_iff_getElem.mp hw
    have := a6 z (by rw [e1]; exact hz)
    rwa [show (vd.take q ++ us ++ vd.drop (q + r)).getD z .null = (vd.take q ++ us ++ vd.drop (q + r))[z] from by simp only [List.getD, List.getElem?_eq_getElem hz, Option.getD_some]] at this
  obtain ⟨s₂, o, g1, g2⟩ := h T' _ X' (by rw [eT]; exact hR.keep Kp hsz hO) F'
  exact ⟨s₂, o, sp' _ g1, g2⟩
def KL (Z : State) (a0 : Array Value) (own : String) (idx : Nat) (ad : String) : Prop := (Jvm.Cond.methodLink own idx ⟨ad, "clone", "()Ljava/lang/Object;"⟩).before a0 Z = true ∧ (Jvm.Cond.sameMethod ad "java/lang/Object" "clone" "()Ljava/lang/Object;").before a0 Z = true ∧ (Jvm.Cond.native ⟨"java/lang/Object", "clone", "()Ljava/lang/Object;"⟩).before a0 Z = true ∧
  (Jvm.Cond.instanceMethod ⟨"java/lang/Object", "clone", "()Ljava/lang/Object;"⟩).before a0 Z = true ∧ (Jvm.Cond.selects ad ⟨ad, "clone", "()Ljava/lang/Object;"⟩ ⟨"java/lang/Object", "clone", "()Ljava/lang/Object;"⟩).before a0 Z = true ∧ (Jvm.Cond.castable ad "java/lang/Cloneable").before a0 Z = true
theorem IsGo.clone (H : IsGo l Z a0 K n0 b0 y bytes maxL ret R Q G) {idx : Nat} {ad : String} (hd : Nx bytes pc (.invokevirtual idx) 3 pc') (L : KL Z a0 y.cls idx ad) {i ii cap : Nat} {ty : FieldType} {vs : List Value} (hA : A[i]? = some (.inr (ty, vs))) (had : "[" ++ ty.toString = ad) (l1 : vs.length < 2147483648) (hcap : vs.length ≤ cap)
    (hls : ls.size = maxL) (hf : 1 ≤ R.frames) (hl : (st.map fun v => v.category).sum + 14 ≤ R.locals) (hk : A.length = b0 + k) (hc : k + 1 ≤ R.cells) (hs : n + cap ≤ R.slots) (hi : A.length = ii) (hA' : A ++ [.inr (ty, vs)] = A') (hk' : k + 1 = k') (hn' : n + cap = n') (h : G pc' ls (.ref (n0 + ii) :: st) A' k' n') : G pc ls (.ref (n0 + i) :: st) A k n := by
  obtain ⟨hd, rfl⟩ := hd
  obtain ⟨pp, e, s, m, args, below, meth, c, hx, hby, hml, hown, hnm, hret, hlk, hZ, hK, hb0, rfl⟩ := H
  obtain ⟨w1, w2, w3, w4, w5, w6⟩ := L
  subst hA' hk' hn' hi had
  intro T locs X hR hF
  obtain ⟨k1, V1, O1⟩ := arv_of l1 (hR.2 i _ hA)
  obtain ⟨⟨EB, fB⟩, -⟩ := hR.2 i _ hA
  have n1 := (tn_of (len_toInt (n := vs.length) (by omega))).2
  obtain ⟨T', h', X', eT, E, V', EA, sp⟩ := cloneH X hx hZ hown w1 w2 w3 w4 w5 w6 rfl V1.arh EB (g := mkF m pc ls (.ref (n0 + i) :: st)) rfl (by rw [hml]; exact hls) rfl (hb hby hd) hf (W := (st.map fun v => v.category).sum) (cap := cap) (by show 2 * 0 + _ ≤ _; omega) hl (by rw [n1]; exact hcap) hc hs
  have hsz : h'.size = n0 + (A.length + 1) := by rw [← eT]; exact size_up X' hb0 hR.1 hk (by rw [eT]; exact EA.lt)
  rw [hR.1] at EA V'
  have hN : ObAt Z K h' (n0 + A.length) (.inr (ty, vs)) := by
    obtain ⟨cc, a1, a2, a3, a4, a5, a6⟩ := V'
    refine ⟨⟨EA, fB⟩, cc, a1, slots_of (by rw [a3, n1]) a5, fun C q => by rw [a2]; exact O1 C q⟩
  obtain ⟨s₂, o, h1, h2⟩ := h T' locs X' (by rw [eT]; exact hR.push E hsz hN) hF
  rw [← hR.1] at h1
  exact ⟨s₂, o, sp _ h1, h2⟩
theorem IsGo.castA (H : IsGo l Z a0 K n0 b0 y bytes maxL ret R Q G) {idx : Nat} {ad : String} (hd : Nx bytes pc (.checkcast idx) 3 pc') (w : (Jvm.Cond.classLink y.cls idx ad).before a0 Z = true) {i : Nat} {ty : FieldType} {vs : List Value} (hA : A[i]? = some (.inr (ty, vs))) (had : "[" ++ ty.toString = ad) (h : G pc' ls (.ref (n0 + i) :: st) A k n) : G pc ls (.ref (n0 + i) :: st) A k n := by
  obtain ⟨hd, rfl⟩ := hd
  obtain ⟨pp, e, s, m, args, below, meth, c, hx, hby, hml, hown, hnm, hret, hlk, hZ, hK, hb0, rfl⟩ := H
  subst had
  intro T locs X hR hF
  obtain ⟨⟨EB, -⟩, -⟩ := hR.2 i _ hA
  obtain ⟨T', X', eT, sp⟩ := castY X hx hZ hown w rfl (Ins.self EB) (g := mkF m pc ls (.ref (n0 + i) :: st)) rfl rfl (hb hby hd)
  obtain ⟨s₂, o, h1, h2⟩ := h T' locs X' (by rw [eT]; exact hR) hF
  exact ⟨s₂, o, sp _ h1, h2⟩
/-! ### calls -/
def IL (Z : State) (a0 : Array Value) (own : String) (idx : Nat) : Prop := (Jvm.Cond.methodLink own idx Lib.objectInit).before a0 Z = true ∧ (Jvm.Cond.instanceMethod Lib.objectInit).before a0 Z = true ∧ (Jvm.Cond.code Lib.objectInit ⟨#[0xb1]⟩ 1 none).before a0 Z = true
theorem IsGo.initO (H : IsGo l Z a0 K n0 b0 y bytes maxL ret R Q G) {idx : Nat} (hd : Nx bytes pc (.invokespecial idx) 3 pc') (L : IL Z a0 y.cls idx) {a : Addr} (hls : ls.size = maxL) (hf : 1 ≤ R.frames) (hl : (st.map fun v => v.category).sum + 12 ≤ R.locals) (h : G pc' ls st A k n) : G pc ls (.ref a :: st) A k n := by
  obtain ⟨hd, rfl⟩ := hd
  obtain ⟨p, e, s, m, args, below, meth, c, hx, hby, hml, hown, hnm, hret, hlk, hZ, hK, hb0, rfl⟩ := H
  obtain ⟨w1, w2, w3⟩ := L
  intro T locs X hR hF
  obtain ⟨T', X', eT, sp⟩ := RoadKit.initO X hx hZ hown w1 w2 w3 rfl (g := mkF m pc ls (.ref a :: st)) rfl (by rw [hml]; exact hls) rfl (hb hby hd) hf (W := (st.map fun v => v.category).sum) (by show 2 * 0 + _ ≤ _; omega) hl
  obtain ⟨s₂, o, h1, h2⟩ := h T' locs X' (by rw [eT]; exact hR) hF
  exact ⟨s₂, o, sp _ h1, h2⟩
def SL (Z : State) (a0 : Array Value) (own : String) (idx : Nat) (z : MethodName) (zb : ByteArray) (zm : Nat) (zr : Option FieldType) (np : Nat) : Prop :=
  (Jvm.Cond.methodLink own idx z).before a0 Z = true ∧ (Jvm.Cond.static z).before a0 Z = true ∧ (Jvm.Cond.initialized z.cls).before a0 Z = true ∧ (Jvm.Cond.code z zb zm zr).before a0 Z = true ∧ (z.cls ≠ "java/lang/invoke/MethodHandle" ∧ z.cls ≠ "java/lang/invoke/VarHandle") ∧ ∀ sig, parseMethodDescriptor z.desc = some sig → np = sig.parameters.length
theorem IsGo.callS (H : IsGo l Z a0 K n0 b0 y bytes maxL ret R Q G) {idx : Nat} (hd : Nx bytes pc (.invokestatic idx) 3 pc') {z : MethodName} {zb : ByteArray} {zm : Nat} {zr : Option FieldType} {np : Nat} (L : SL Z a0 y.cls idx z zb zm zr np) {rm : Room} {as : Array Value} {QQ : Option Value → List Ob → Prop} (M : Met l Z K n0 z zb zm zr rm as A QQ)
    {argsL rest : List Value} (ha : argsL.toArray = as) (hnp : argsL.length = np) (hst : st = argsL.reverse ++ rest) (hls : ls.size = maxL) (hf : rm.frames + 1 ≤ R.frames) (hl : (rest.map fun v => v.category).sum + (zm + 11) + rm.locals ≤ R.locals) (hc : k + rm.cells ≤ R.cells) (hs : n + rm.slots ≤ R.slots) (h : ∀ v A', QQ v A' → G pc' ls (v.toList ++ rest) A' (k + rm.cells) (n + rm.slots)) : G pc ls st A k n := by
  obtain ⟨hd, rfl⟩ := hd
  obtain ⟨p, e, s, m, args, below, meth, c, hx, hby, hml, hown, hnm, hret, hlk, hZ, hK, hb0, rfl⟩ := H
  obtain ⟨w1, w2, w3, w4, w5, w6⟩ := L
  subst ha hst hnp
  intro T locs X hR hF
  obtain ⟨v, vm₁, ⟨T', L', k', n'⟩, -, X', ⟨Lc, ⟨A', hQ, hR', hF'⟩, e1, e2, e3⟩, sp⟩ := Jvm.LawKit.callS X hx (y := z) hown (mvT hZ w1) (mvT hZ w2) (mvT hZ w3) (mvT hZ w4) w5 (backOf (W := (rest.map fun v => v.category).sum) (Q := fun v h L => ∃ A', QQ v A' ∧ Rel Z K n0 h A' ∧ Fr n0 L) (M [] T.heap hR) hZ w4 w3 hf hl) (g := mkF m pc ls (argsL.reverse ++ rest)) rfl (by rw [hml]; exact hls) (argsL := argsL) (rest := rest) w6 rfl (by show 2 * 0 + _ ≤ _; omega) (hb hby hd) (fun _ _ => ⟨rfl, rfl, hc, hs⟩)
  dsimp only [Pt.U, Pt.locs, Pt.cells, Pt.slots] at X' e1 e2 e3 sp hQ hR'
  subst e1 e2 e3
  obtain ⟨s₂, o, h1, h2⟩ := h v A' hQ T' _ X' hR' (Fr.app hF hF')
  exact ⟨s₂, o, sp _ h1, h2⟩
/-- a constructor by its contract -/
def CL (Z : State) (a0 : Array Value) (own : String) (idx : Nat) (z : MethodName) (zb : ByteArray) (zm : Nat) (np : Nat) : Prop :=
  (Jvm.Cond.methodLink own idx z).before a0 Z = true ∧ (Jvm.Cond.instanceMethod z).before a0 Z = true ∧ (Jvm.Cond.initialized z.cls).before a0 Z = true ∧ (Jvm.Cond.code z zb zm none).before a0 Z = true ∧ (z.cls ≠ "java/lang/invoke/MethodHandle" ∧ z.cls ≠ "java/lang/invoke/VarHandle") ∧ (∀ sig, parseMethodDescriptor z.desc = some sig → np = sig.parameters.length) ∧ z.name = "<init>"
theorem IsGo.callC (H : IsGo l Z a0 K n0 b0 y bytes maxL ret R Q G) {idx : Nat} (hd : Nx bytes pc (.invokespecial idx) 3 pc') {z : MethodName} {zb : ByteArray} {zm : Nat} {np : Nat} (L : CL Z a0 y.cls idx z zb zm np) {rm : Room} {as : Array Value} {QQ : Option Value → List Ob → Prop} (M : Met l Z K n0 z zb zm none rm as A QQ)
    {a : Addr} {argsL rest : List Value} (ha : (Value.ref a :: argsL).toArray = as) (hnp : argsL.length = np) (hst : st = argsL.reverse ++ .ref a :: rest) (hls : ls.size = maxL) (hf : rm.frames + 1 ≤ R.frames) (hl : (rest.map fun v => v.category).sum + (zm + 11) + rm.locals ≤ R.locals) (hc : k + rm.cells ≤ R.cells) (hs : n + rm.slots ≤ R.slots) (h : ∀ v A', QQ v A' → G pc' ls (v.toList ++ rest) A' (k + rm.cells) (n + rm.slots)) : G pc ls st A k n := by
  obtain ⟨hd, rfl⟩ := hd
  obtain ⟨p, e, s, m, args, below, meth, c, hx, hby, hml, hown, hnm, hret, hlk, hZ, hK, hb0, rfl⟩ := H
  obtain ⟨w1, w2, w3, w4, w5, w6, w7⟩ := L
  subst ha hst hnp
  intro T locs X hR hF
  obtain ⟨v, vm₁, ⟨T', L', k', n'⟩, -, X', ⟨Lc, ⟨A', hQ, hR', hF'⟩, e1, e2, e3⟩, sp⟩ := X.specialBack hx (y := z) w7 hown (mvT hZ w1) (mvT hZ w2) (mvT hZ w4) w5 (backOf (W := (rest.map fun v => v.category).sum) (Q := fun v h L => ∃ A', QQ v A' ∧ Rel Z K n0 h A' ∧ Fr n0 L) (M [] T.heap hR) hZ w4 w3 hf hl) (g := mkF m pc ls (argsL.reverse ++ .ref a :: rest)) rfl (by rw [hml]; exact hls) (Steps.refl _) (a := a) (argsL := argsL) (rest := rest) w6 rfl (by show 2 * 0 + _ ≤ _; omega) (hb hby hd) (fun _ _ => ⟨rfl, rfl, hc, hs⟩)
  dsimp only [Pt.U, Pt.locs, Pt.cells, Pt.slots] at X' e1 e2 e3 sp hQ hR'
  subst e1 e2 e3
  obtain ⟨s₂, o, h1, h2⟩ := h v A' hQ T' _ X' hR' (Fr.app hF hF')
  exact ⟨s₂, o, sp.trans h1, h2⟩
/-- a method of an object of class number kk, by its contract -/
def VL (Z : State) (a0 : Array Value) (K : KTab) (own : String) (idx kk : Nat) (z : MethodName) (zb : ByteArray) (zm : Nat) (zr : Option FieldType) (np : Nat) : Prop :=
  ∃ C fs, K[kk]? = some (C, fs) ∧ (Jvm.Cond.methodLink own idx z).before a0 Z = true ∧ (Jvm.Cond.declares z).before a0 Z = true ∧ (Jvm.Cond.selects C z z).before a0 Z = true ∧ (Jvm.Cond.instanceMethod z).before a0 Z = true ∧ (Jvm.Cond.initialized z.cls).before a0 Z = true ∧ (Jvm.Cond.code z zb zm zr).before a0 Z = true ∧ (z.cls ≠ "java/lang/invoke/MethodHandle" ∧ z.cls ≠ "java/lang/invoke/VarHandle") ∧ (∀ sig, parseMethodDescriptor z.desc = some sig → np = sig.parameters.length)
theorem IsGo.callV (H : IsGo l Z a0 K n0 b0 y bytes maxL ret R Q G) {idx kk : Nat} (hd : Nx bytes pc (.invokevirtual idx) 3 pc') {z : MethodName} {zb : ByteArray} {zm : Nat} {zr : Option FieldType} {np : Nat} (L : VL Z a0 K y.cls idx kk z zb zm zr np) {rm : Room} {as : Array Value} {QQ : Option Value → List Ob → Prop} (M : Met l Z K n0 z zb zm zr rm as A QQ)
    {i : Nat} {vs : List Value} (hA : A[i]? = some (.inl (kk, vs))) {argsL rest : List Value} (ha : (Value.ref (n0 + i) :: argsL).toArray = as) (hnp : argsL.length = np) (hst : st = argsL.reverse ++ .ref (n0 + i) :: rest) (hls : ls.size = maxL) (hf : rm.frames + 1 ≤ R.frames) (hl : (rest.map fun v => v.category).sum + (zm + 11) + rm.locals ≤ R.locals) (hc : k + rm.cells ≤ R.cells) (hs : n + rm.slots ≤ R.slots) (h : ∀ v A', QQ v A' → G pc' ls (v.toList ++ rest) A' (k + rm.cells) (n + rm.slots)) : G pc ls st A k n := by
  obtain ⟨hd, rfl⟩ := hd
  obtain ⟨p, e, s, m, args, below, meth, c, hx, hby, hml, hown, hnm, hret, hlk, hZ, hK, hb0, rfl⟩ := H
  obtain ⟨C, fs, hk, w1, w2, w3, w4, w5, w6, w7, w8⟩ := L
  subst ha hst hnp
  intro T locs X hR hF
  obtain ⟨cB, kB, qa, qb, qc⟩ := isOf hZ rfl ((hR.2 i _ hA).exa hk)
  obtain ⟨v, vm₁, ⟨T', L', k', n'⟩, -, X', ⟨Lc, ⟨A', hQ, hR', hF'⟩, e1, e2, e3⟩, sp⟩ := X.virtualBack hx (y := z) (z := z) hown (mvT hZ w1) (mvT hZ w2) (notFace_of_selects (args := #[]) (mvT hZ w3)) (mvT hZ w3) (mvT hZ w4) w7 (backOf (W := (rest.map fun v => v.category).sum) (Q := fun v h L => ∃ A', QQ v A' ∧ Rel Z K n0 h A' ∧ Fr n0 L) (M [] T.heap hR) hZ w6 w5 hf hl) qa qc (g := mkF m pc ls (argsL.reverse ++ .ref (n0 + i) :: rest)) rfl (by rw [hml]; exact hls) (Steps.refl _) (argsL := argsL) (rest := rest) w8 rfl (by show 2 * 0 + _ ≤ _; omega) (hb hby hd) (fun _ _ => ⟨rfl, rfl, hc, hs⟩)
  dsimp only [Pt.U, Pt.locs, Pt.cells, Pt.slots] at X' e1 e2 e3 sp hQ hR'
  subst e1 e2 e3
  obtain ⟨s₂, o, h1, h2⟩ := h v A' hQ T' _ X' hR' (Fr.app hF hF')
  exact ⟨s₂, o, sp.trans h1, h2⟩
/-- a private method -/
def ML (Z : State) (a0 : Array Value) (K : KTab) (own : String) (idx kk : Nat) (z : MethodName) (zb : ByteArray) (zm : Nat) (zr : Option FieldType) (np : Nat) : Prop :=
  ∃ C fs, K[kk]? = some (C, fs) ∧ (Jvm.Cond.methodLink own idx z).before a0 Z = true ∧ (Jvm.Cond.privateMethod z).before a0 Z = true ∧ (Jvm.Cond.selects z.cls z z).before a0 Z = true ∧ (Jvm.Cond.instanceMethod z).before a0 Z = true ∧ (Jvm.Cond.initialized z.cls).before a0 Z = true ∧ (Jvm.Cond.code z zb zm zr).before a0 Z = true ∧ (z.cls ≠ "java/lang/invoke/MethodHandle" ∧ z.cls ≠ "java/lang/invoke/VarHandle") ∧ (∀ sig, parseMethodDescriptor z.desc = some sig → np = sig.parameters.length)
theorem IsGo.callM (H : IsGo l Z a0 K n0 b0 y bytes maxL ret R Q G) {idx kk : Nat} (hd : Nx bytes pc (.invokevirtual idx) 3 pc') {z : MethodName} {zb : ByteArray} {zm : Nat} {zr : Option FieldType} {np : Nat} (L : ML Z a0 K y.cls idx kk z zb zm zr np) {rm : Room} {as : Array Value} {QQ : Option Value → List Ob → Prop} (M : Met l Z K n0 z zb zm zr rm as A QQ)
    {i : Nat} {vs : List Value} (hA : A[i]? = some (.inl (kk, vs))) {argsL rest : List Value} (ha : (Value.ref (n0 + i) :: argsL).toArray = as) (hnp : argsL.length = np) (hst : st = argsL.reverse ++ .ref (n0 + i) :: rest) (hls : ls.size = maxL) (hf : rm.frames + 1 ≤ R.frames) (hl : (rest.map fun v => v.category).sum + (zm + 11) + rm.locals ≤ R.locals) (hc : k + rm.cells ≤ R.cells) (hs : n + rm.slots ≤ R.slots) (h : ∀ v A', QQ v A' → G pc' ls (v.toList ++ rest) A' (k + rm.cells) (n + rm.slots)) : G pc ls st A k n := by
  obtain ⟨hd, rfl⟩ := hd
  obtain ⟨p, e, s, m, args, below, meth, c, hx, hby, hml, hown, hnm, hret, hlk, hZ, hK, hb0, rfl⟩ := H
  obtain ⟨C, fs, hk, w1, w2, w3, w4, w5, w6, w7, w8⟩ := L
  subst ha hst hnp
  intro T locs X hR hF
  obtain ⟨cq, q1, q2⟩ := ((hR.2 i _ hA).exa hk).cell
  obtain ⟨v, vm₁, ⟨T', L', k', n'⟩, -, X', ⟨Lc, ⟨A', hQ, hR', hF'⟩, e1, e2, e3⟩, sp⟩ := X.privateBack hx (y := z) hown (mvT hZ w1) (mvT hZ w4) (mvT hZ w3) (Cond.privateMethod_at (mvP hZ w2 (args := #[]))) (mvT hZ w6) w7 (backOf (W := (rest.map fun v => v.category).sum) (Q := fun v h L => ∃ A', QQ v A' ∧ Rel Z K n0 h A' ∧ Fr n0 L) (M [] T.heap hR) hZ w6 w5 hf hl) (g := mkF m pc ls (argsL.reverse ++ .ref (n0 + i) :: rest)) rfl (by rw [hml]; exact hls) (Steps.refl _) (a := n0 + i) q1 q2 (argsL := argsL) (rest := rest) w8 rfl (by show 2 * 0 + _ ≤ _; omega) (hb hby hd) (fun _ _ => ⟨rfl, rfl, hc, hs⟩)
  dsimp only [Pt.U, Pt.locs, Pt.cells, Pt.slots] at X' e1 e2 e3 sp hQ hR'
  subst e1 e2 e3
  obtain ⟨s₂, o, h1, h2⟩ := h v A' hQ T' _ X' hR' (Fr.app hF hF')
  exact ⟨s₂, o, sp.trans h1, h2⟩
theorem IsGo.callSD (H : IsGo l Z a0 K n0 b0 y bytes maxL ret R Q G) {idx : Nat} (hd : Nx bytes pc (.invokestatic idx) 3 pc') {z : MethodName} {zb : ByteArray} {zm : Nat} {zr : Option FieldType} {np : Nat} (L : SL Z a0 y.cls idx z zb zm zr np) {rm : Room} {as : Array Value} {vo : Option Value} (M : Met l Z K n0 z zb zm zr rm as A (Is vo A'))
    {argsL rest : List Value} (ha : argsL.toArray = as) (hnp : argsL.length = np) (hst : st = argsL.reverse ++ rest) (hls : ls.size = maxL) (hf : rm.frames + 1 ≤ R.frames) (hl : (rest.map fun v => v.category).sum + (zm + 11) + rm.locals ≤ R.locals) (hc : k + rm.cells ≤ R.cells) (hs : n + rm.slots ≤ R.slots) (hst' : vo.toList ++ rest = st') (hk' : k + rm.cells = k') (hn' : n + rm.slots = n') (h : G pc' ls st' A' k' n') : G pc ls st A k n :=
  H.callS hd L M ha hnp hst hls hf hl hc hs (fun v B q => by obtain ⟨rfl, rfl⟩ := q; subst hst' hk' hn'; exact h)
theorem IsGo.callCD (H : IsGo l Z a0 K n0 b0 y bytes maxL ret R Q G) {idx : Nat} (hd : Nx bytes pc (.invokespecial idx) 3 pc') {z : MethodName} {zb : ByteArray} {zm : Nat} {np : Nat} (L : CL Z a0 y.cls idx z zb zm np) {rm : Room} {as : Array Value} {vo : Option Value} (M : Met l Z K n0 z zb zm none rm as A (Is vo A'))
    {a : Addr} {argsL rest : List Value} (ha : (Value.ref a :: argsL).toArray = as) (hnp : argsL.length = np) (hst : st = argsL.reverse ++ .ref a :: rest) (hls : ls.size = maxL) (hf : rm.frames + 1 ≤ R.frames) (hl : (rest.map fun v => v.category).sum + (zm + 11) + rm.locals ≤ R.locals) (hc : k + rm.cells ≤ R.cells) (hs : n + rm.slots ≤ R.slots) (hst' : vo.toList ++ rest = st') (hk' : k + rm.cells = k') (hn' : n + rm.slots = n') (h : G pc' ls st' A' k' n') : G pc ls st A k n :=
  H.callC hd L M ha hnp hst hls hf hl hc hs (fun v B q => by obtain ⟨rfl, rfl⟩ := q; subst hst' hk' hn'; exact h)
theorem IsGo.callVD (H : IsGo l Z a0 K n0 b0 y bytes maxL ret R Q G) {idx kk : Nat} (hd : Nx bytes pc (.invokevirtual idx) 3 pc') {z : MethodName} {zb : ByteArray} {zm : Nat} {zr : Option FieldType} {np : Nat} (L : VL Z a0 K y.cls idx kk z zb zm zr np) {rm : Room} {as : Array Value} {vo : Option Value} (M : Met l Z K n0 z zb zm zr rm as A (Is vo A'))
    {i : Nat} {vs : List Value} (hA : A[i]? = some (.inl (kk, vs))) {argsL rest : List Value} (ha : (Value.ref (n0 + i) :: argsL).toArray = as) (hnp : argsL.length = np) (hst : st = argsL.reverse ++ .ref (n0 + i) :: rest) (hls : ls.size = maxL) (hf : rm.frames + 1 ≤ R.frames) (hl : (rest.map fun v => v.category).sum + (zm + 11) + rm.locals ≤ R.locals) (hc : k + rm.cells ≤ R.cells) (hs : n + rm.slots ≤ R.slots) (hst' : vo.toList ++ rest = st') (hk' : k + rm.cells = k') (hn' : n + rm.slots = n') (h : G pc' ls st' A' k' n') : G pc ls st A k n :=
  H.callV hd L M hA ha hnp hst hls hf hl hc hs (fun v B q => by obtain ⟨rfl, rfl⟩ := q; subst hst' hk' hn'; exact h)
theorem IsGo.callMD (H : IsGo l Z a0 K n0 b0 y bytes maxL ret R Q G) {idx kk : Nat} (hd : Nx bytes pc (.invokevirtual idx) 3 pc') {z : MethodName} {zb : ByteArray} {zm : Nat} {zr : Option FieldType} {np : Nat} (L : ML Z a0 K y.cls idx kk z zb zm zr np) {rm : Room} {as : Array Value} {vo : Option Value} (M : Met l Z K n0 z zb zm zr rm as A (Is vo A'))
    {i : Nat} {vs : List Value} (hA : A[i]? = some (.inl (kk, vs))) {argsL rest : List Value} (ha : (Value.ref (n0 + i) :: argsL).toArray = as) (hnp : argsL.length = np) (hst : st = argsL.reverse ++ .ref (n0 + i) :: rest) (hls : ls.size = maxL) (hf : rm.frames + 1 ≤ R.frames) (hl : (rest.map fun v => v.category).sum + (zm + 11) + rm.locals ≤ R.locals) (hc : k + rm.cells ≤ R.cells) (hs : n + rm.slots ≤ R.slots) (hst' : vo.toList ++ rest = st') (hk' : k + rm.cells = k') (hn' : n + rm.slots = n') (h : G pc' ls st' A' k' n') : G pc ls st A k n :=
  H.callM hd L M hA ha hnp hst hls hf hl hc hs (fun v B q => by obtain ⟨rfl, rfl⟩ := q; subst hst' hk' hn'; exact h)
/-! ### the end -/
theorem IsGo.retW (H : IsGo l Z a0 K n0 b0 y bytes maxL ret R Q G) {i : Instr} (hd : Nx bytes pc i 1 pc') {t : FieldType} {w : Value} (hret : ret = some t) (hn : narrow t w = w)
    (hi : (i = .ireturn ∧ (t = .int ∨ t = .boolean ∨ t = .byte ∨ t = .char ∨ t = .short) ∧ ∃ z, w = .int z) ∨ (i = .lreturn ∧ t = .long ∧ ∃ z, w = .long z) ∨ (i = .dreturn ∧ t = .double ∧ ∃ z, w = .double z) ∨ (i = .freturn ∧ t = .float ∧ ∃ z, w = .float z) ∨ (i = .areturn ∧ t.isReference = true ∧ w.isRef = true))
    (hQ : Q (some w) A) (hc : k ≤ R.cells) (hs : n ≤ R.slots) : G pc ls (w :: st) A k n := by
  obtain ⟨hd, rfl⟩ := hd
  obtain ⟨p, e, s, m, args, below, meth, c, hx, hby, hml, hown, hnm, hret', hlk, hZ, hK, hb0, rfl⟩ := H
  intro T locs X hR hF
  obtain ⟨fs, hr, hrun, hended, hW, hsame⟩ := X.leave (v := some w) (fun h => by rw [hret', hret] at h; cases h) hlk
  exact ⟨_, _, retOut X hx (hret'.trans hret) hn hi (hb hby hd) hr, hrun, hended, _, _, rfl, ⟨A, hQ, hR, hF⟩, ⟨_, rfl⟩, hW, hsame.mono hc hs⟩
theorem IsGo.ireturn (H : IsGo l Z a0 K n0 b0 y bytes maxL ret R Q G) (hd : Nx bytes pc .ireturn 1 pc') {t : FieldType} {z : Int32} (hret : ret = some t) (ht : t = .int ∨ t = .boolean ∨ t = .byte ∨ t = .char ∨ t = .short) (hn : narrow t (.int z) = .int z) (hQ : Q (some (.int z)) A) (hc : k ≤ R.cells) (hs : n ≤ R.slots) : G pc ls (.int z :: st) A k n :=
  H.retW hd hret hn (Or.inl ⟨rfl, ht, z, rfl⟩) hQ hc hs
theorem IsGo.lreturn (H : IsGo l Z a0 K n0 b0 y bytes maxL ret R Q G) (hd : Nx bytes pc .lreturn 1 pc') {z : Int64} (hret : ret = some .long) (hQ : Q (some (.long z)) A) (hc : k ≤ R.cells) (hs : n ≤ R.slots) : G pc ls (.long z :: st) A k n :=
  H.retW hd hret rfl (Or.inr (Or.inl ⟨rfl, rfl, z, rfl⟩)) hQ hc hs
theorem IsGo.areturn (H : IsGo l Z a0 K n0 b0 y bytes maxL ret R Q G) (hd : Nx bytes pc .areturn 1 pc') {t : FieldType} {w : Value} (hret : ret = some t) (ht : t.isReference = true) (hn : narrow t w = w) (hw : w.isRef = true) (hQ : Q (some w) A) (hc : k ≤ R.cells) (hs : n ≤ R.slots) : G pc ls (w :: st) A k n :=
  H.retW hd hret hn (Or.inr (Or.inr (Or.inr (Or.inr ⟨rfl, ht, hw⟩)))) hQ hc hs
theorem IsGo.vreturn (H : IsGo l Z a0 K n0 b0 y bytes maxL ret R Q G) (hd : Nx bytes pc .return_ 1 pc') (hret : ret = none) (hQ : Q none A) (hc : k ≤ R.cells) (hs : n ≤ R.slots) : G pc ls [] A k n := by
  obtain ⟨hd, rfl⟩ := hd
  obtain ⟨p, e, s, m, args, below, meth, c, hx, hby, hml, hown, hnm, hret', hlk, hZ, hK, hb0, rfl⟩ := H
  intro T locs X hR hF
  obtain ⟨fs, hr, hrun, hended, hW, hsame⟩ := X.leave (v := none) (fun _ => rfl) hlk
  exact ⟨_, _, X.returnOut hx (hret'.trans hret) (hb hby hd) hr, hrun, hended, _, _, rfl, ⟨A, hQ, hR, hF⟩, ⟨_, rfl⟩, hW, hsame.mono hc hs⟩
end Rules
end Jvm.OwnKit

namespace Jvm.Pilot.@@N@@
open Jvm Jvm.ClassFile Sem Op Lib Jvm.Free Jvm.Stand Jvm.LawKit Jvm.RoadKit Jvm.OwnKit Bundle Jvm.Pilot.@@N@@.Jvm.D
abbrev HW1 (Z : State) (a0 : Array Value) : Prop := ∀ d ∈ tables_1, d.before a0 Z = true
def KT : KTab := []
abbrev y1 : MethodName := ⟨"com/example/byteleaf/byteleaf/value/ByteWordsEscapedPinLaw", "pick", "(JII)J"⟩
abbrev y2 : MethodName := ⟨"com/example/byteleaf/byteleaf/value/ByteWords", "escaped", "(J)J"⟩
abbrev y3 : MethodName := ⟨"com/example/byteleaf/byteleaf/value/ByteWordsEscapedPinLaw", "special", "(J)Z"⟩
abbrev y4 : MethodName := ⟨"com/example/byteleaf/byteleaf/value/ByteWordsEscapedPinLaw", "marked", "(JIZ)Z"⟩
theorem kok {Z : State} {a0 : Array Value} (hw : HW1 Z a0) : KOk Z a0 KT := kokOf fa0

def own_R (W : BitVec 64) : BitVec 64 := ((((W - 2314885530818453536#64) &&& (W ^^^ (-1#64))) ||| (((W ^^^ 2459565876494606882#64) - 72340172838076673#64) &&& ((W ^^^ 2459565876494606882#64) ^^^ (-1#64)))) ||| (((W ^^^ 6655295901103053916#64) - 72340172838076673#64) &&& ((W ^^^ 6655295901103053916#64) ^^^ (-1#64)))) &&& 9259542123273814144#64
def own_bit (z k : Nat) : Bool := decide (z / 2 ^ k % 2 = 1)
theorem own_gl (z : BitVec 64) (k : Nat) : z.getLsbD k = own_bit z.toNat k := Nat.testBit_eq_decide_div_mod_eq
def own_T (W : BitVec 64) (k : Nat) : Bool := (own_bit (W - 2314885530818453536#64).toNat k && !own_bit W.toNat k) || (own_bit ((W ^^^ 2459565876494606882#64) - 72340172838076673#64).toNat k && !own_bit (W ^^^ 2459565876494606882#64).toNat k) || (own_bit ((W ^^^ 6655295901103053916#64) - 72340172838076673#64).toNat k && !own_bit (W ^^^ 6655295901103053916#64).toNat k)
theorem own_Rk (W : BitVec 64) (k : Nat) (hk : k < 64) : (own_R W).getLsbD k = (own_T W k && (9259542123273814144#64).getLsbD k) := by
  have m1 : (-1#64 : BitVec 64) = BitVec.allOnes 64 := by decide
  unfold own_R own_T
  simp only [BitVec.getLsbD_and, BitVec.getLsbD_or, BitVec.getLsbD_xor, m1, BitVec.getLsbD_allOnes, hk, decide_true, Bool.xor_true]
  simp only [← own_gl, BitVec.getLsbD_xor]
theorem own_hit {P : Nat} (hP : P = 1 ∨ P = 256 ∨ P = 65536 ∨ P = 16777216 ∨ P = 4294967296 ∨ P = 1099511627776 ∨ P = 281474976710656 ∨ P = 72057594037927936) {z D : Nat} (hz : z < 18446744073709551616) (hD : D = (18446744073709551616 - 2314885530818453536 + z) % 18446744073709551616) (hb : z / P % 256 < 32) : D / (128 * P) % 2 = 1 ∧ z / (128 * P) % 2 = 0 := by
  rcases hP with rfl | rfl | rfl | rfl | rfl | rfl | rfl | rfl <;> omega
def own_Pl (P : Nat) : Prop := P = 1 ∨ P = 256 ∨ P = 65536 ∨ P = 16777216 ∨ P = 4294967296 ∨ P = 1099511627776 ∨ P = 281474976710656 ∨ P = 72057594037927936
theorem own_hit1 {P : Nat} (hP : own_Pl P) {z D : Nat} (hz : z < 18446744073709551616) (hD : D = (18446744073709551616 - 72340172838076673 + z) % 18446744073709551616) (hb : z / P % 256 = 0) : D / (128 * P) % 2 = 1 ∧ z / (128 * P) % 2 = 0 := by
  rcases hP with rfl | rfl | rfl | rfl | rfl | rfl | rfl | rfl <;> omega
theorem own_miss {P : Nat} (hP : own_Pl P) {z D : Nat} (hz : z < 18446744073709551616) (hD : D = (18446744073709551616 - 2314885530818453536 + z) % 18446744073709551616) (hb : 32 ≤ z / P % 256) (hL : 2314885530818453536 % P ≤ z % P) : ¬ (D / (128 * P) % 2 = 1 ∧ z / (128 * P) % 2 = 0) := by
  rcases hP with rfl | rfl | rfl | rfl | rfl | rfl | rfl | rfl <;> omega
theorem own_miss1 {P : Nat} (hP : own_Pl P) {z D : Nat} (hz : z < 18446744073709551616) (hD : D = (18446744073709551616 - 72340172838076673 + z) % 18446744073709551616) (hb : 1 ≤ z / P % 256) (hL : 72340172838076673 % P ≤ z % P) : ¬ (D / (128 * P) % 2 = 1 ∧ z / (128 * P) % 2 = 0) := by
  rcases hP with rfl | rfl | rfl | rfl | rfl | rfl | rfl | rfl <;> omega
theorem own_nx {P : Nat} (hP : own_Pl P) {z : Nat} (hb : 32 ≤ z / P % 256) (hL : 2314885530818453536 % P ≤ z % P) : 2314885530818453536 % (256 * P) ≤ z % (256 * P) := by
  rcases hP with rfl | rfl | rfl | rfl | rfl | rfl | rfl | rfl <;> omega
theorem own_nx1 {P : Nat} (hP : own_Pl P) {z : Nat} (hb : 1 ≤ z / P % 256) (hL : 72340172838076673 % P ≤ z % P) : 72340172838076673 % (256 * P) ≤ z % (256 * P) := by
  rcases hP with rfl | rfl | rfl | rfl | rfl | rfl | rfl | rfl <;> omega
theorem own_xb (z C i : Nat) : (z ^^^ C) / 2 ^ (8 * i) % 2 ^ 8 = (z / 2 ^ (8 * i) % 2 ^ 8) ^^^ (C / 2 ^ (8 * i) % 2 ^ 8) := by
  rw [← Nat.shiftRight_eq_div_pow, ← Nat.shiftRight_eq_div_pow, ← Nat.shiftRight_eq_div_pow, Nat.shiftRight_xor_distrib, Nat.xor_mod_two_pow]
theorem own_pow (i : Nat) (h : i < 8) : own_Pl (2 ^ (8 * i)) := by
  unfold own_Pl
  match i, h with
  | 0, _ => decide
  | 1, _ => decide
  | 2, _ => decide
  | 3, _ => decide
  | 4, _ => decide
  | 5, _ => decide
  | 6, _ => decide
  | 7, _ => decide
def own_by (z i : Nat) : Nat := z / 2 ^ (8 * i) % 256
def own_sp (b : Nat) : Prop := b < 32 ∨ b = 34 ∨ b = 92
theorem own_xor0 (a b : Nat) : a ^^^ b = 0 ↔ a = b := by
  constructor
  · intro h
    apply Nat.eq_of_testBit_eq
    intro j
    have q := congrArg (fun z => Nat.testBit z j) h
    simp only [Nat.testBit_xor, Nat.zero_testBit] at q
    revert q
    cases a.testBit j <;> cases b.testBit j <;> simp
  · rintro rfl; exact Nat.xor_self a
theorem own_xz (z i : Nat) (h : i < 8) : own_by (z ^^^ 2459565876494606882) i = 0 ↔ own_by z i = 34 := by
  have q := own_xb z 2459565876494606882 i
  have c : 2459565876494606882 / 2 ^ (8 * i) % 2 ^ 8 = 34 := by
    match i, h with
    | 0, _ => rfl
    | 1, _ => rfl
    | 2, _ => rfl
    | 3, _ => rfl
    | 4, _ => rfl
    | 5, _ => rfl
    | 6, _ => rfl
    | 7, _ => rfl
  rw [c] at q
  unfold own_by
  rw [show (256 : Nat) = 2 ^ 8 from rfl, q]
  exact own_xor0 _ _
theorem own_yz (z i : Nat) (h : i < 8) : own_by (z ^^^ 6655295901103053916) i = 0 ↔ own_by z i = 92 := by
  have q := own_xb z 6655295901103053916 i
  have c : 6655295901103053916 / 2 ^ (8 * i) % 2 ^ 8 = 92 := by
    match i, h with
    | 0, _ => rfl
    | 1, _ => rfl
    | 2, _ => rfl
    | 3, _ => rfl
    | 4, _ => rfl
    | 5, _ => rfl
    | 6, _ => rfl
    | 7, _ => rfl
  rw [c] at q
  unfold own_by
  rw [show (256 : Nat) = 2 ^ 8 from rfl, q]
  exact own_xor0 _ _
theorem own_k (i : Nat) : 2 ^ (8 * i + 7) = 128 * 2 ^ (8 * i) := by rw [Nat.pow_add]; omega
theorem own_low (z : Nat) : ∀ i, i ≤ 8 → (∀ j, j < i → 32 ≤ own_by z j) → 2314885530818453536 % 2 ^ (8 * i) ≤ z % 2 ^ (8 * i)
  | 0, _, _ => by simp [Nat.mod_one]
  | i + 1, h, hj => by
    have e : 2 ^ (8 * (i + 1)) = 256 * 2 ^ (8 * i) := by rw [Nat.mul_add, Nat.pow_add]; omega
    rw [e]
    exact own_nx (own_pow i (by omega)) (hj i (by omega)) (own_low z i (by omega) fun j q => hj j (by omega))
theorem own_low1 (z : Nat) : ∀ i, i ≤ 8 → (∀ j, j < i → 1 ≤ own_by z j) → 72340172838076673 % 2 ^ (8 * i) ≤ z % 2 ^ (8 * i)
  | 0, _, _ => by simp [Nat.mod_one]
  | i + 1, h, hj => by
    have e : 2 ^ (8 * (i + 1)) = 256 * 2 ^ (8 * i) := by rw [Nat.mul_add, Nat.pow_add]; omega
    rw [e]
    exact own_nx1 (own_pow i (by omega)) (hj i (by omega)) (own_low1 z i (by omega) fun j q => hj j (by omega))
theorem own_s0 (W : BitVec 64) : (W - 2314885530818453536#64).toNat = (18446744073709551616 - 2314885530818453536 + W.toNat) % 18446744073709551616 := by rw [BitVec.toNat_sub]; rfl
theorem own_s1 (W : BitVec 64) : (W - 72340172838076673#64).toNat = (18446744073709551616 - 72340172838076673 + W.toNat) % 18446744073709551616 := by rw [BitVec.toNat_sub]; rfl
theorem own_x0 (W : BitVec 64) : (W ^^^ 2459565876494606882#64).toNat = W.toNat ^^^ 2459565876494606882 := by rw [BitVec.toNat_xor]; rfl
theorem own_y0 (W : BitVec 64) : (W ^^^ 6655295901103053916#64).toNat = W.toNat ^^^ 6655295901103053916 := by rw [BitVec.toNat_xor]; rfl
theorem own_pair {D z k : Nat} (h : D / 2 ^ k % 2 = 1 ∧ z / 2 ^ k % 2 = 0) : (own_bit D k && !own_bit z k) = true := by
  have h2 : ¬ z / 2 ^ k % 2 = 1 := by omega
  simp [own_bit, h.1, h2]
theorem own_pairN {D z k : Nat} (h : ¬ (D / 2 ^ k % 2 = 1 ∧ z / 2 ^ k % 2 = 0)) : (own_bit D k && !own_bit z k) = false := by
  by_cases a : D / 2 ^ k % 2 = 1
  · have b : z / 2 ^ k % 2 = 1 := by
      have : ¬ z / 2 ^ k % 2 = 0 := fun q => h ⟨a, q⟩
      omega
    simp [own_bit, a, b]
  · simp [own_bit, a]
theorem own_T1 (W : BitVec 64) (i : Nat) (hi : i < 8) (h : own_sp (own_by W.toNat i)) : own_T W (8 * i + 7) = true := by
  unfold own_T
  rcases h with h | h | h
  · rw [own_pair (by rw [own_k]; exact own_hit (own_pow i hi) W.isLt (own_s0 W) h)]; simp
  · rw [own_pair (D := ((W ^^^ 2459565876494606882#64) - 72340172838076673#64).toNat) (by rw [own_k]; exact own_hit1 (own_pow i hi) (W ^^^ 2459565876494606882#64).isLt (own_s1 _) (by rw [own_x0]; exact (own_xz W.toNat i hi).mpr h))]; simp
  · rw [own_pair (D := ((W ^^^ 6655295901103053916#64) - 72340172838076673#64).toNat) (by rw [own_k]; exact own_hit1 (own_pow i hi) (W ^^^ 6655295901103053916#64).isLt (own_s1 _) (by rw [own_y0]; exact (own_yz W.toNat i hi).mpr h))]; simp
theorem own_T0 (W : BitVec 64) (i : Nat) (hi : i < 8) (h : ∀ j, j ≤ i → ¬ own_sp (own_by W.toNat j)) : own_T W (8 * i + 7) = false := by
  unfold own_T
  have g0 : ∀ j, j ≤ i → 32 ≤ own_by W.toNat j := fun j q => by
    have := h j q; unfold own_sp at this; omega
  have g1 : ∀ j, j ≤ i → 1 ≤ own_by (W ^^^ 2459565876494606882#64).toNat j := fun j q => by
    have a := h j q; unfold own_sp at a
    rw [own_x0]
    have b := own_xz W.toNat j (by omega)
    omega
  have g2 : ∀ j, j ≤ i → 1 ≤ own_by (W ^^^ 6655295901103053916#64).toNat j := fun j q => by
    have a := h j q; unfold own_sp at a
    rw [own_y0]
    have b := own_yz W.toNat j (by omega)
    omega
  rw [own_pairN (by rw [own_k]; exact own_miss (own_pow i hi) W.isLt (own_s0 W) (g0 i (Nat.le_refl _)) (own_low _ i (by omega) fun j q => g0 j (by omega))),
    own_pairN (by rw [own_k]; exact own_miss1 (own_pow i hi) (W ^^^ 2459565876494606882#64).isLt (own_s1 _) (g1 i (Nat.le_refl _)) (own_low1 _ i (by omega) fun j q => g1 j (by omega))),
    own_pairN (by rw [own_k]; exact own_miss1 (own_pow i hi) (W ^^^ 6655295901103053916#64).isLt (own_s1 _) (g2 i (Nat.le_refl _)) (own_low1 _ i (by omega) fun j q => g2 j (by omega)))]
  rfl
theorem own_M : ∀ k : Fin 64, (9259542123273814144#64).getLsbD k.1 = decide (k.1 % 8 = 7) := by decide
theorem own_and1 (W : BitVec 64) (i : Nat) (hi : i < 8) (h : own_sp (own_by W.toNat i)) (K : BitVec 64) (hK : K.getLsbD (8 * i + 7) = true) : own_R W &&& K ≠ 0#64 := fun e => by
  have q := congrArg (fun z => z.getLsbD (8 * i + 7)) e
  simp only [BitVec.getLsbD_and, hK, Bool.and_true, BitVec.getLsbD_zero] at q
  rw [own_Rk W _ (by omega), own_T1 W i hi h, own_M ⟨8 * i + 7, by omega⟩] at q
  simp at q
theorem own_and0 (W : BitVec 64) (f : Nat) (hf : f ≤ 8) (h : ∀ j, j < f → ¬ own_sp (own_by W.toNat j)) (K : BitVec 64) (hK : ∀ k : Fin 64, 8 * f + 7 ≤ k.1 → K.getLsbD k.1 = false) : own_R W &&& K = 0#64 := by
  apply BitVec.eq_of_getLsbD_eq
  intro k hk
  rw [BitVec.getLsbD_and, BitVec.getLsbD_zero, own_Rk W k hk, own_M ⟨k, hk⟩]
  by_cases a : 8 * f + 7 ≤ k
  · rw [hK ⟨k, hk⟩ a]; simp
  · by_cases b : k % 8 = 7
    · have e : k = 8 * (k / 8) + 7 := by omega
      have e2 : own_T W k = false := by rw [e]; exact own_T0 W (k / 8) (by omega) fun j q => h j (by omega)
      rw [e2]; simp
    · simp [b]
theorem own_none (W : BitVec 64) (h : ∀ j, j < 8 → ¬ own_sp (own_by W.toNat j)) : own_R W = 0#64 := by
  have q := own_and0 W 8 (Nat.le_refl _) h (BitVec.allOnes 64) (fun k hk => by have := k.2; omega)
  rwa [BitVec.and_allOnes] at q
theorem own_shl {a : Int64} {q : Int32} {x : Int} (k : Nat) (P : Int) (hP : P = (2 ^ k : Nat)) (hq : q.toBitVec.toNat % 64 = k) (ha : a.toInt = x) (h : 0 ≤ x * P ∧ x * P < 9223372036854775808) : (a <<< (q &&& 0x3f).toInt64).toInt = x * P := by
  have t := c_lshl a q k hq
  have r := rng64 (a <<< (q &&& 0x3f).toInt64)
  rw [ha, ← hP] at t
  omega
theorem own_or {b a : Int64} {y x : Int} (k : Nat) (hk : k ≤ 63) (P : Int) (hP : P = (2 ^ k : Nat)) (hb : b.toInt = y) (ha : a.toInt = x) (h1 : x % P = 0) (h2 : 0 ≤ y ∧ y < P) (h3 : 0 ≤ x) (h4 : x + y < 9223372036854775808) : (b ||| a).toInt = y + x := by
  have t := c_orL' b a k hk P hP (by rw [ha]; exact h1) (by omega) (by omega)
  have r := rng64 (b ||| a)
  rw [ha, hb] at t
  omega

def own_E (x : Int64) : Int64 := ((((x - (2314885530818453536 : Int64)) &&& (x ^^^ (-1 : Int64))) ||| (((x ^^^ (2459565876494606882 : Int64)) - (72340172838076673 : Int64)) &&& ((x ^^^ (2459565876494606882 : Int64)) ^^^ (-1 : Int64)))) ||| (((x ^^^ (6655295901103053916 : Int64)) - (72340172838076673 : Int64)) &&& ((x ^^^ (6655295901103053916 : Int64)) ^^^ (-1 : Int64)))) &&& (-9187201950435737472 : Int64)
theorem own_Ebv (x : Int64) : (own_E x).toBitVec = own_R x.toBitVec := by
  have c1 : (2314885530818453536 : Int64).toBitVec = 2314885530818453536#64 := by decide
  have c2 : (-1 : Int64).toBitVec = -1#64 := by decide
  have c3 : (2459565876494606882 : Int64).toBitVec = 2459565876494606882#64 := by decide
  have c4 : (72340172838076673 : Int64).toBitVec = 72340172838076673#64 := by decide
  have c5 : (6655295901103053916 : Int64).toBitVec = 6655295901103053916#64 := by decide
  have c6 : (-9187201950435737472 : Int64).toBitVec = 9259542123273814144#64 := by decide
  unfold own_E own_R
  simp only [Int64.toBitVec_and, Int64.toBitVec_or, Int64.toBitVec_xor, Int64.toBitVec_sub, c1, c2, c3, c4, c5, c6]
theorem own_z0 : (0 : Int64).toBitVec = 0#64 := by decide
theorem own_E7 (x : Int64) : own_E x &&& (9187201950435737471 : Int64) = 0 := by
  unfold own_E
  rw [Int64.and_assoc]
  have c : (-9187201950435737472 : Int64) &&& (9187201950435737471 : Int64) = 0 := by decide
  rw [c]; simp
theorem own_Eand1 (x : Int64) (i : Nat) (hi : i < 8) (h : own_sp (own_by x.toBitVec.toNat i)) (K : Int64) (hK : K.toBitVec.getLsbD (8 * i + 7) = true) : ¬ (own_E x &&& K) = 0 := fun e => by
  have q := congrArg Int64.toBitVec e
  rw [Int64.toBitVec_and, own_Ebv, own_z0] at q
  exact own_and1 x.toBitVec i hi h K.toBitVec hK q
theorem own_Eand0 (x : Int64) (f : Nat) (hf : f ≤ 8) (h : ∀ j, j < f → ¬ own_sp (own_by x.toBitVec.toNat j)) (K : Int64) (hK : ∀ k : Fin 64, 8 * f + 7 ≤ k.1 → K.toBitVec.getLsbD k.1 = false) : (own_E x &&& K) = 0 := by
  apply Int64.toBitVec_inj.mp
  rw [Int64.toBitVec_and, own_Ebv, own_z0]
  exact own_and0 x.toBitVec f hf h K.toBitVec hK
theorem own_Enone (x : Int64) (h : ∀ j, j < 8 → ¬ own_sp (own_by x.toBitVec.toNat j)) : own_E x = 0 := by
  apply Int64.toBitVec_inj.mp
  rw [own_Ebv, own_z0]
  exact own_none x.toBitVec h
def own_spI (b : Int64) : Int32 := if b.toInt < 32 ∨ b.toInt = 34 ∨ b.toInt = 92 then 1 else 0
theorem own_sp1 {b : Int64} (h : b.toInt < 32 ∨ b.toInt = 34 ∨ b.toInt = 92) : own_spI b = 1 := if_pos h
theorem own_sp0 {b : Int64} (h : ¬ (b.toInt < 32 ∨ b.toInt = 34 ∨ b.toInt = 92)) : own_spI b = 0 := if_neg h
theorem own_spg {b : Int64} {s : Int32} {n : Nat} (hs : own_spI b = s) (hb : 0 ≤ b.toInt) (hn : n = b.toInt.toNat) : (¬ s = 0 → own_sp n) ∧ (s = 0 → ¬ own_sp n) := by
  unfold own_sp
  by_cases q : b.toInt < 32 ∨ b.toInt = 34 ∨ b.toInt = 92
  · rw [own_sp1 q] at hs
    subst hs
    refine ⟨fun _ => by omega, fun h => absurd h (by decide)⟩
  · rw [own_sp0 q] at hs
    subst hs
    exact ⟨fun h => absurd rfl h, fun _ => by omega⟩
def own_raw (v : Int64) (i : Int32) : Int64 := ((v.toUInt64 >>> (((8 : Int32) * i) &&& 0x3f).toInt64.toUInt64).toInt64) &&& (255 : Int64)
def own_md (s i : Int32) : Int32 := ((s.toUInt32 >>> (((2 : Int32) * i) &&& 31).toUInt32).toInt32) &&& (3 : Int32)
def own_pick (v : Int64) (s i : Int32) : Int64 := if own_md s i = 1 then 34 else if own_md s i = 2 then 92 else if own_md s i = 3 then own_raw v i &&& 31 else own_raw v i
theorem own_pickb (v : Int64) (s i : Int32) : 0 ≤ (own_pick v s i).toInt ∧ (own_pick v s i).toInt < 256 := by
  have q : (own_raw v i).toInt = _ := c_maskL ((v.toUInt64 >>> (((8 : Int32) * i) &&& 0x3f).toInt64.toUInt64).toInt64) 255 8 (by decide) (by decide)
  have q2 := c_maskL (own_raw v i) 31 5 (by decide) (by decide)
  unfold own_pick
  split
  · decide
  · split
    · decide
    · split
      · omega
      · omega
theorem own_W {x : Int64} {S : Int} (h : (x.toInt - S) % 18446744073709551616 = 0) (h0 : 0 ≤ S ∧ S < 18446744073709551616) : (x.toBitVec.toNat : Int) = S := by
  have q := BitVec.toInt_eq_toNat_cond x.toBitVec
  have e : x.toInt = x.toBitVec.toInt := rfl
  have l := x.toBitVec.isLt
  rw [e] at h
  split at q <;> omega

theorem pn_4 : plainName "com/example/byteleaf/byteleaf/value/ByteWordsEscapedPinLaw" = true := by first | (simp [plainName, overriddenIn]; done) | decide +kernel
theorem s1_0 : Nx method_3_code 0 (.lload_n 0) 1 1 := ⟨by decide +kernel, rfl⟩
theorem s1_1 : Nx method_3_code 1 (.bipush 8) 2 3 := ⟨by decide +kernel, rfl⟩
theorem s1_3 : Nx method_3_code 3 (.iload_n 3) 1 4 := ⟨by decide +kernel, rfl⟩
theorem s1_4 : Nx method_3_code 4 (.imul) 1 5 := ⟨by decide +kernel, rfl⟩
theorem s1_5 : Nx method_3_code 5 (.lushr) 1 6 := ⟨by decide +kernel, rfl⟩
theorem k_0 {Z : State} {a0 : Array Value} (hw : HW1 Z a0) : (Jvm.Cond.constantLong "com/example/byteleaf/byteleaf/value/ByteWordsEscapedPinLaw" 29 (255)).before a0 Z = true := (hw _ (List.mem_of_getElem? (i := 4) rfl))
theorem s1_6 : Nx method_3_code 6 (.ldc2_w 29) 3 9 := ⟨by decide +kernel, rfl⟩
theorem s1_9 : Nx method_3_code 9 (.land) 1 10 := ⟨by decide +kernel, rfl⟩
theorem s1_10 : Nx method_3_code 10 (.lstore 4) 2 12 := ⟨by decide +kernel, rfl⟩
theorem s1_12 : Nx method_3_code 12 (.iload_n 2) 1 13 := ⟨by decide +kernel, rfl⟩
theorem s1_13 : Nx method_3_code 13 (.iconst 2) 1 14 := ⟨by decide +kernel, rfl⟩
theorem s1_14 : Nx method_3_code 14 (.iload_n 3) 1 15 := ⟨by decide +kernel, rfl⟩
theorem s1_15 : Nx method_3_code 15 (.imul) 1 16 := ⟨by decide +kernel, rfl⟩
theorem s1_16 : Nx method_3_code 16 (.iushr) 1 17 := ⟨by decide +kernel, rfl⟩
theorem s1_17 : Nx method_3_code 17 (.iconst 3) 1 18 := ⟨by decide +kernel, rfl⟩
theorem s1_18 : Nx method_3_code 18 (.iand) 1 19 := ⟨by decide +kernel, rfl⟩
theorem s1_19 : Nx method_3_code 19 (.istore 6) 2 21 := ⟨by decide +kernel, rfl⟩
theorem s1_21 : Nx method_3_code 21 (.iload 6) 2 23 := ⟨by decide +kernel, rfl⟩
theorem s1_23 : Nx method_3_code 23 (.iconst 1) 1 24 := ⟨by decide +kernel, rfl⟩
theorem s1_24 : Bx method_3_code 24 (.if_icmp .ne) 31 27 := ⟨(7), by decide +kernel, by decide, by decide, rfl⟩
theorem s1_31 : Nx method_3_code 31 (.iload 6) 2 33 := ⟨by decide +kernel, rfl⟩
theorem s1_33 : Nx method_3_code 33 (.iconst 2) 1 34 := ⟨by decide +kernel, rfl⟩
theorem s1_34 : Bx method_3_code 34 (.if_icmp .ne) 41 37 := ⟨(7), by decide +kernel, by decide, by decide, rfl⟩
theorem s1_41 : Nx method_3_code 41 (.iload 6) 2 43 := ⟨by decide +kernel, rfl⟩
theorem s1_43 : Nx method_3_code 43 (.iconst 3) 1 44 := ⟨by decide +kernel, rfl⟩
theorem s1_44 : Bx method_3_code 44 (.if_icmp .ne) 54 47 := ⟨(10), by decide +kernel, by decide, by decide, rfl⟩
theorem s1_54 : Nx method_3_code 54 (.lload 4) 2 56 := ⟨by decide +kernel, rfl⟩
theorem s1_56 : Nx method_3_code 56 (.lreturn) 1 57 := ⟨by decide +kernel, rfl⟩
theorem s1_47 : Nx method_3_code 47 (.lload 4) 2 49 := ⟨by decide +kernel, rfl⟩
theorem k_1 {Z : State} {a0 : Array Value} (hw : HW1 Z a0) : (Jvm.Cond.constantLong "com/example/byteleaf/byteleaf/value/ByteWordsEscapedPinLaw" 35 (31)).before a0 Z = true := (hw _ (List.mem_of_getElem? (i := 25) rfl))
theorem s1_49 : Nx method_3_code 49 (.ldc2_w 35) 3 52 := ⟨by decide +kernel, rfl⟩
theorem s1_52 : Nx method_3_code 52 (.land) 1 53 := ⟨by decide +kernel, rfl⟩
theorem s1_53 : Nx method_3_code 53 (.lreturn) 1 54 := ⟨by decide +kernel, rfl⟩
theorem k_2 {Z : State} {a0 : Array Value} (hw : HW1 Z a0) : (Jvm.Cond.constantLong "com/example/byteleaf/byteleaf/value/ByteWordsEscapedPinLaw" 33 (92)).before a0 Z = true := (hw _ (List.mem_of_getElem? (i := 5) rfl))
theorem s1_37 : Nx method_3_code 37 (.ldc2_w 33) 3 40 := ⟨by decide +kernel, rfl⟩
theorem s1_40 : Nx method_3_code 40 (.lreturn) 1 41 := ⟨by decide +kernel, rfl⟩
theorem k_3 {Z : State} {a0 : Array Value} (hw : HW1 Z a0) : (Jvm.Cond.constantLong "com/example/byteleaf/byteleaf/value/ByteWordsEscapedPinLaw" 31 (34)).before a0 Z = true := (hw _ (List.mem_of_getElem? (i := 20) rfl))
theorem s1_27 : Nx method_3_code 27 (.ldc2_w 31) 3 30 := ⟨by decide +kernel, rfl⟩
theorem s1_30 : Nx method_3_code 30 (.lreturn) 1 31 := ⟨by decide +kernel, rfl⟩
set_option maxRecDepth 65536 in
set_option maxHeartbeats 40000000 in
theorem m_pick (l : Launch) {Z : State} {a0 : Array Value} (hw : HW1 Z a0) (n0 : Nat) (A : List Ob) (a : Int64) (b i : Int32) : Met l Z KT n0 y1 method_3_code 7 (some .long) ({ frames := 0, cells := 0, slots := 0, locals := 0 } : Room) #[(.long a), (.int b), (.int i)] A (Is (some (.long (own_pick a b i))) A) := by
  refine Met.of (a0 := a0) (ls := #[.val (.long a), .second, .val (.int b), .val (.int i), .unset, .unset, .unset]) (kok hw) (plainFor_of_name pn_4) (fun m => by first | (simp [entryFrame, mkF, argsToLocals, Value.category]; done) | rfl) (fun G H => ?_)
  refine H.lloadN s1_0 rfl ?_
  refine H.bipush s1_1 (v := (8 : Int32)) (by decide) ?_
  refine H.iloadN s1_3 rfl ?_
  refine H.imul s1_4 rfl ?_
  refine H.lushr s1_5 rfl ?_
  refine H.ldc2 s1_6 (k_0 hw) ?_
  refine H.land s1_9 (w := (own_raw a i)) rfl ?_
  refine H.lstore s1_10 (ls' := #[.val (.long a), .second, .val (.int b), .val (.int i), .val (.long (own_raw a i)), .second, .unset]) rfl ?_
  refine H.iloadN s1_12 rfl ?_
  refine H.iconst s1_13 (v := (2 : Int32)) (by decide) ?_
  refine H.iloadN s1_14 rfl ?_
  refine H.imul s1_15 rfl ?_
  refine H.iushr s1_16 rfl ?_
  refine H.iconst s1_17 (v := (3 : Int32)) (by decide) ?_
  refine H.iand s1_18 (w := (own_md b i)) rfl ?_
  refine H.istore s1_19 (ls' := #[.val (.long a), .second, .val (.int b), .val (.int i), .val (.long (own_raw a i)), .second, .val (.int (own_md b i))]) rfl ?_
  refine H.iload s1_21 rfl ?_
  refine H.iconst s1_23 (v := (1 : Int32)) (by decide) ?_
  refine H.icmpS s1_24 (fun (c24 : ¬ (own_md b i) = (1 : Int32)) => ?_) (fun (c24 : (own_md b i) = (1 : Int32)) => ?_)
  · have d24 : ¬ (own_md b i).toInt = 1 := (i_ne rfl (by decide : (1 : Int32).toInt = 1)).mp c24
    refine H.iload s1_31 rfl ?_
    refine H.iconst s1_33 (v := (2 : Int32)) (by decide) ?_
    refine H.icmpS s1_34 (fun (c34 : ¬ (own_md b i) = (2 : Int32)) => ?_) (fun (c34 : (own_md b i) = (2 : Int32)) => ?_)
    · have d34 : ¬ (own_md b i).toInt = 2 := (i_ne rfl (by decide : (2 : Int32).toInt = 2)).mp c34
      refine H.iload s1_41 rfl ?_
      refine H.iconst s1_43 (v := (3 : Int32)) (by decide) ?_
      refine H.icmpS s1_44 (fun (c44 : ¬ (own_md b i) = (3 : Int32)) => ?_) (fun (c44 : (own_md b i) = (3 : Int32)) => ?_)
      · have d44 : ¬ (own_md b i).toInt = 3 := (i_ne rfl (by decide : (3 : Int32).toInt = 3)).mp c44
        refine H.lload s1_54 rfl ?_
        exact H.lreturn s1_56 rfl ⟨by simp [own_pick, c24, c34, c44], rfl⟩ (by decide) (by decide)
      · have d44 : (own_md b i).toInt = 3 := (i_eq rfl (by decide : (3 : Int32).toInt = 3)).mp c44
        refine H.lload s1_47 rfl ?_
        refine H.ldc2 s1_49 (k_1 hw) ?_
        refine H.land s1_52 rfl ?_
        exact H.lreturn s1_53 rfl ⟨by simp [own_pick, c24, c34, c44], rfl⟩ (by decide) (by decide)
    · have d34 : (own_md b i).toInt = 2 := (i_eq rfl (by decide : (2 : Int32).toInt = 2)).mp c34
      refine H.ldc2 s1_37 (k_2 hw) ?_
      exact H.lreturn s1_40 rfl ⟨by simp [own_pick, c24, c34], rfl⟩ (by decide) (by decide)
  · have d24 : (own_md b i).toInt = 1 := (i_eq rfl (by decide : (1 : Int32).toInt = 1)).mp c24
    refine H.ldc2 s1_27 (k_3 hw) ?_
    exact H.lreturn s1_30 rfl ⟨by simp [own_pick, c24], rfl⟩ (by decide) (by decide)

theorem pn_11 : plainName "com/example/byteleaf/byteleaf/value/ByteWords" = true := by first | (simp [plainName, overriddenIn]; done) | decide +kernel
theorem s2_0 : Nx prog_43_method_7_code 0 (.lload_n 0) 1 1 := ⟨by decide +kernel, rfl⟩
theorem k_5 {Z : State} {a0 : Array Value} (hw : HW1 Z a0) : (Jvm.Cond.constantLong "com/example/byteleaf/byteleaf/value/ByteWords" 45 (2314885530818453536)).before a0 Z = true := (hw _ (List.mem_of_getElem? (i := 10) rfl))
theorem s2_1 : Nx prog_43_method_7_code 1 (.ldc2_w 45) 3 4 := ⟨by decide +kernel, rfl⟩
theorem s2_4 : Nx prog_43_method_7_code 4 (.lsub) 1 5 := ⟨by decide +kernel, rfl⟩
theorem s2_5 : Nx prog_43_method_7_code 5 (.lload_n 0) 1 6 := ⟨by decide +kernel, rfl⟩
theorem k_6 {Z : State} {a0 : Array Value} (hw : HW1 Z a0) : (Jvm.Cond.constantLong "com/example/byteleaf/byteleaf/value/ByteWords" 47 (-1)).before a0 Z = true := (hw _ (List.mem_of_getElem? (i := 11) rfl))
theorem s2_6 : Nx prog_43_method_7_code 6 (.ldc2_w 47) 3 9 := ⟨by decide +kernel, rfl⟩
theorem s2_9 : Nx prog_43_method_7_code 9 (.lxor) 1 10 := ⟨by decide +kernel, rfl⟩
theorem s2_10 : Nx prog_43_method_7_code 10 (.land) 1 11 := ⟨by decide +kernel, rfl⟩
theorem s2_11 : Nx prog_43_method_7_code 11 (.lstore_n 2) 1 12 := ⟨by decide +kernel, rfl⟩
theorem s2_12 : Nx prog_43_method_7_code 12 (.lload_n 0) 1 13 := ⟨by decide +kernel, rfl⟩
theorem k_7 {Z : State} {a0 : Array Value} (hw : HW1 Z a0) : (Jvm.Cond.constantLong "com/example/byteleaf/byteleaf/value/ByteWords" 49 (2459565876494606882)).before a0 Z = true := (hw _ (List.mem_of_getElem? (i := 12) rfl))
theorem s2_13 : Nx prog_43_method_7_code 13 (.ldc2_w 49) 3 16 := ⟨by decide +kernel, rfl⟩
theorem s2_16 : Nx prog_43_method_7_code 16 (.lxor) 1 17 := ⟨by decide +kernel, rfl⟩
theorem s2_17 : Nx prog_43_method_7_code 17 (.lstore 4) 2 19 := ⟨by decide +kernel, rfl⟩
theorem s2_19 : Nx prog_43_method_7_code 19 (.lload_n 0) 1 20 := ⟨by decide +kernel, rfl⟩
theorem k_8 {Z : State} {a0 : Array Value} (hw : HW1 Z a0) : (Jvm.Cond.constantLong "com/example/byteleaf/byteleaf/value/ByteWords" 51 (6655295901103053916)).before a0 Z = true := (hw _ (List.mem_of_getElem? (i := 13) rfl))
theorem s2_20 : Nx prog_43_method_7_code 20 (.ldc2_w 51) 3 23 := ⟨by decide +kernel, rfl⟩
theorem s2_23 : Nx prog_43_method_7_code 23 (.lxor) 1 24 := ⟨by decide +kernel, rfl⟩
theorem s2_24 : Nx prog_43_method_7_code 24 (.lstore 6) 2 26 := ⟨by decide +kernel, rfl⟩
theorem s2_26 : Nx prog_43_method_7_code 26 (.lload_n 2) 1 27 := ⟨by decide +kernel, rfl⟩
theorem s2_27 : Nx prog_43_method_7_code 27 (.lload 4) 2 29 := ⟨by decide +kernel, rfl⟩
theorem k_9 {Z : State} {a0 : Array Value} (hw : HW1 Z a0) : (Jvm.Cond.constantLong "com/example/byteleaf/byteleaf/value/ByteWords" 53 (72340172838076673)).before a0 Z = true := (hw _ (List.mem_of_getElem? (i := 14) rfl))
theorem s2_29 : Nx prog_43_method_7_code 29 (.ldc2_w 53) 3 32 := ⟨by decide +kernel, rfl⟩
theorem s2_32 : Nx prog_43_method_7_code 32 (.lsub) 1 33 := ⟨by decide +kernel, rfl⟩
theorem s2_33 : Nx prog_43_method_7_code 33 (.lload 4) 2 35 := ⟨by decide +kernel, rfl⟩
theorem s2_35 : Nx prog_43_method_7_code 35 (.ldc2_w 47) 3 38 := ⟨by decide +kernel, rfl⟩
theorem s2_38 : Nx prog_43_method_7_code 38 (.lxor) 1 39 := ⟨by decide +kernel, rfl⟩
theorem s2_39 : Nx prog_43_method_7_code 39 (.land) 1 40 := ⟨by decide +kernel, rfl⟩
theorem s2_40 : Nx prog_43_method_7_code 40 (.lor) 1 41 := ⟨by decide +kernel, rfl⟩
theorem s2_41 : Nx prog_43_method_7_code 41 (.lload 6) 2 43 := ⟨by decide +kernel, rfl⟩
theorem s2_43 : Nx prog_43_method_7_code 43 (.ldc2_w 53) 3 46 := ⟨by decide +kernel, rfl⟩
theorem s2_46 : Nx prog_43_method_7_code 46 (.lsub) 1 47 := ⟨by decide +kernel, rfl⟩
theorem s2_47 : Nx prog_43_method_7_code 47 (.lload 6) 2 49 := ⟨by decide +kernel, rfl⟩
theorem s2_49 : Nx prog_43_method_7_code 49 (.ldc2_w 47) 3 52 := ⟨by decide +kernel, rfl⟩
theorem s2_52 : Nx prog_43_method_7_code 52 (.lxor) 1 53 := ⟨by decide +kernel, rfl⟩
theorem s2_53 : Nx prog_43_method_7_code 53 (.land) 1 54 := ⟨by decide +kernel, rfl⟩
theorem s2_54 : Nx prog_43_method_7_code 54 (.lor) 1 55 := ⟨by decide +kernel, rfl⟩
theorem k_10 {Z : State} {a0 : Array Value} (hw : HW1 Z a0) : (Jvm.Cond.constantLong "com/example/byteleaf/byteleaf/value/ByteWords" 19 (-9187201950435737472)).before a0 Z = true := (hw _ (List.mem_of_getElem? (i := 15) rfl))
theorem s2_55 : Nx prog_43_method_7_code 55 (.ldc2_w 19) 3 58 := ⟨by decide +kernel, rfl⟩
theorem s2_58 : Nx prog_43_method_7_code 58 (.land) 1 59 := ⟨by decide +kernel, rfl⟩
theorem s2_59 : Nx prog_43_method_7_code 59 (.lreturn) 1 60 := ⟨by decide +kernel, rfl⟩
set_option maxRecDepth 65536 in
set_option maxHeartbeats 40000000 in
theorem m_esc (l : Launch) {Z : State} {a0 : Array Value} (hw : HW1 Z a0) (n0 : Nat) (A : List Ob) (x : Int64) : Met l Z KT n0 y2 prog_43_method_7_code 8 (some .long) ({ frames := 0, cells := 0, slots := 0, locals := 0 } : Room) #[(.long x)] A (Is (some (.long (own_E x))) A) := by
  refine Met.of (a0 := a0) (ls := #[.val (.long x), .second, .unset, .unset, .unset, .unset, .unset, .unset]) (kok hw) (plainFor_of_name pn_11) (fun m => by first | (simp [entryFrame, mkF, argsToLocals, Value.category]; done) | rfl) (fun G H => ?_)
  refine H.lloadN s2_0 rfl ?_
  refine H.ldc2 s2_1 (k_5 hw) ?_
  refine H.lsub s2_4 rfl ?_
  refine H.lloadN s2_5 rfl ?_
  refine H.ldc2 s2_6 (k_6 hw) ?_
  refine H.lxor s2_9 rfl ?_
  refine H.land s2_10 rfl ?_
  refine H.lstoreN s2_11 (ls' := #[.val (.long x), .second, .val (.long ((x - (2314885530818453536 : Int64)) &&& (x ^^^ (-1 : Int64)))), .second, .unset, .unset, .unset, .unset]) rfl ?_
  refine H.lloadN s2_12 rfl ?_
  refine H.ldc2 s2_13 (k_7 hw) ?_
  refine H.lxor s2_16 rfl ?_
  refine H.lstore s2_17 (ls' := #[.val (.long x), .second, .val (.long ((x - (2314885530818453536 : Int64)) &&& (x ^^^ (-1 : Int64)))), .second, .val (.long (x ^^^ (2459565876494606882 : Int64))), .second, .unset, .unset]) rfl ?_
  refine H.lloadN s2_19 rfl ?_
  refine H.ldc2 s2_20 (k_8 hw) ?_
  refine H.lxor s2_23 rfl ?_
  refine H.lstore s2_24 (ls' := #[.val (.long x), .second, .val (.long ((x - (2314885530818453536 : Int64)) &&& (x ^^^ (-1 : Int64)))), .second, .val (.long (x ^^^ (2459565876494606882 : Int64))), .second, .val (.long (x ^^^ (6655295901103053916 : Int64))), .second]) rfl ?_
  refine H.lloadN s2_26 rfl ?_
  refine H.lload s2_27 rfl ?_
  refine H.ldc2 s2_29 (k_9 hw) ?_
  refine H.lsub s2_32 rfl ?_
  refine H.lload s2_33 rfl ?_
  refine H.ldc2 s2_35 (k_6 hw) ?_
  refine H.lxor s2_38 rfl ?_
  refine H.land s2_39 rfl ?_
  refine H.lor s2_40 rfl ?_
  refine H.lload s2_41 rfl ?_
  refine H.ldc2 s2_43 (k_9 hw) ?_
  refine H.lsub s2_46 rfl ?_
  refine H.lload s2_47 rfl ?_
  refine H.ldc2 s2_49 (k_6 hw) ?_
  refine H.lxor s2_52 rfl ?_
  refine H.land s2_53 rfl ?_
  refine H.lor s2_54 rfl ?_
  refine H.ldc2 s2_55 (k_10 hw) ?_
  refine H.land s2_58 rfl ?_
  exact H.lreturn s2_59 rfl ⟨rfl, rfl⟩ (by decide) (by decide)

theorem s3_0 : Nx method_4_code 0 (.lload_n 0) 1 1 := ⟨by decide +kernel, rfl⟩
theorem k_12 {Z : State} {a0 : Array Value} (hw : HW1 Z a0) : (Jvm.Cond.constantLong "com/example/byteleaf/byteleaf/value/ByteWordsEscapedPinLaw" 37 (32)).before a0 Z = true := (hw _ (List.mem_of_getElem? (i := 19) rfl))
theorem s3_1 : Nx method_4_code 1 (.ldc2_w 37) 3 4 := ⟨by decide +kernel, rfl⟩
theorem s3_4 : Nx method_4_code 4 (.lcmp) 1 5 := ⟨by decide +kernel, rfl⟩
theorem s3_5 : Bx method_4_code 5 (.ifCond .lt) 24 8 := ⟨(19), by decide +kernel, by decide, by decide, rfl⟩
theorem s3_24 : Nx method_4_code 24 (.iconst 1) 1 25 := ⟨by decide +kernel, rfl⟩
theorem s3_25 : Bx method_4_code 25 (.goto) 29 28 := ⟨(4), by decide +kernel, by decide, by decide, rfl⟩
theorem s3_29 : Nx method_4_code 29 (.ireturn) 1 30 := ⟨by decide +kernel, rfl⟩
theorem s3_8 : Nx method_4_code 8 (.lload_n 0) 1 9 := ⟨by decide +kernel, rfl⟩
theorem s3_9 : Nx method_4_code 9 (.ldc2_w 31) 3 12 := ⟨by decide +kernel, rfl⟩
theorem s3_12 : Nx method_4_code 12 (.lcmp) 1 13 := ⟨by decide +kernel, rfl⟩
theorem s3_13 : Bx method_4_code 13 (.ifCond .eq) 24 16 := ⟨(11), by decide +kernel, by decide, by decide, rfl⟩
theorem s3_16 : Nx method_4_code 16 (.lload_n 0) 1 17 := ⟨by decide +kernel, rfl⟩
theorem s3_17 : Nx method_4_code 17 (.ldc2_w 33) 3 20 := ⟨by decide +kernel, rfl⟩
theorem s3_20 : Nx method_4_code 20 (.lcmp) 1 21 := ⟨by decide +kernel, rfl⟩
theorem s3_21 : Bx method_4_code 21 (.ifCond .ne) 28 24 := ⟨(7), by decide +kernel, by decide, by decide, rfl⟩
theorem s3_28 : Nx method_4_code 28 (.iconst 0) 1 29 := ⟨by decide +kernel, rfl⟩
set_option maxRecDepth 65536 in
set_option maxHeartbeats 40000000 in
theorem m_spec (l : Launch) {Z : State} {a0 : Array Value} (hw : HW1 Z a0) (n0 : Nat) (A : List Ob) (b : Int64) : Met l Z KT n0 y3 method_4_code 2 (some .boolean) ({ frames := 0, cells := 0, slots := 0, locals := 0 } : Room) #[(.long b)] A (Is (some (.int (own_spI b))) A) := by
  refine Met.of (a0 := a0) (ls := #[.val (.long b), .second]) (kok hw) (plainFor_of_name pn_4) (fun m => by first | (simp [entryFrame, mkF, argsToLocals, Value.category]; done) | rfl) (fun G H => ?_)
  refine H.lloadN s3_0 rfl ?_
  refine H.ldc2 s3_1 (k_12 hw) ?_
  refine H.lifS s3_4 s3_5 (fun (c4 : b < (32 : Int64)) => ?_) (fun (c4 : ¬ b < (32 : Int64)) => ?_)
  · have d4 : b.toInt < 32 := (j_lt rfl (by decide : (32 : Int64).toInt = 32)).mp c4
    refine H.iconst s3_24 (v := (1 : Int32)) (by decide) ?_
    refine H.goto s3_25 ?_
    exact H.ireturn s3_29 rfl (by simp) rfl ⟨by rw [own_sp1 (by omega)], rfl⟩ (by decide) (by decide)
  · have d4 : 32 ≤ b.toInt := (j_ge rfl (by decide : (32 : Int64).toInt = 32)).mp c4
    refine H.lloadN s3_8 rfl ?_
    refine H.ldc2 s3_9 (k_3 hw) ?_
    refine H.lifS s3_12 s3_13 (fun (c12 : b = (34 : Int64)) => ?_) (fun (c12 : ¬ b = (34 : Int64)) => ?_)
    · have d12 : b.toInt = 34 := (j_eq rfl (by decide : (34 : Int64).toInt = 34)).mp c12
      refine H.iconst s3_24 (v := (1 : Int32)) (by decide) ?_
      refine H.goto s3_25 ?_
      exact H.ireturn s3_29 rfl (by simp) rfl ⟨by rw [own_sp1 (by omega)], rfl⟩ (by decide) (by decide)
    · have d12 : ¬ b.toInt = 34 := (j_ne rfl (by decide : (34 : Int64).toInt = 34)).mp c12
      refine H.lloadN s3_16 rfl ?_
      refine H.ldc2 s3_17 (k_2 hw) ?_
      refine H.lifS s3_20 s3_21 (fun (c20 : ¬ b = (92 : Int64)) => ?_) (fun (c20 : b = (92 : Int64)) => ?_)
      · have d20 : ¬ b.toInt = 92 := (j_ne rfl (by decide : (92 : Int64).toInt = 92)).mp c20
        refine H.iconst s3_28 (v := (0 : Int32)) (by decide) ?_
        exact H.ireturn s3_29 rfl (by simp) rfl ⟨by rw [own_sp0 (by omega)], rfl⟩ (by decide) (by decide)
      · have d20 : b.toInt = 92 := (j_eq rfl (by decide : (92 : Int64).toInt = 92)).mp c20
        refine H.iconst s3_24 (v := (1 : Int32)) (by decide) ?_
        refine H.goto s3_25 ?_
        exact H.ireturn s3_29 rfl (by simp) rfl ⟨by rw [own_sp1 (by omega)], rfl⟩ (by decide) (by decide)

theorem s4_0 : Nx method_5_code 0 (.iload_n 3) 1 1 := ⟨by decide +kernel, rfl⟩
theorem s4_1 : Bx method_5_code 1 (.ifCond .eq) 20 4 := ⟨(19), by decide +kernel, by decide, by decide, rfl⟩
theorem s4_20 : Nx method_5_code 20 (.iconst 1) 1 21 := ⟨by decide +kernel, rfl⟩
theorem s4_21 : Bx method_5_code 21 (.goto) 25 24 := ⟨(4), by decide +kernel, by decide, by decide, rfl⟩
theorem s4_25 : Nx method_5_code 25 (.ireturn) 1 26 := ⟨by decide +kernel, rfl⟩
theorem s4_4 : Nx method_5_code 4 (.lload_n 0) 1 5 := ⟨by decide +kernel, rfl⟩
theorem s4_5 : Nx method_5_code 5 (.lconst 1) 1 6 := ⟨by decide +kernel, rfl⟩
theorem s4_6 : Nx method_5_code 6 (.bipush 8) 2 8 := ⟨by decide +kernel, rfl⟩
theorem s4_8 : Nx method_5_code 8 (.iload_n 2) 1 9 := ⟨by decide +kernel, rfl⟩
theorem s4_9 : Nx method_5_code 9 (.imul) 1 10 := ⟨by decide +kernel, rfl⟩
theorem s4_10 : Nx method_5_code 10 (.bipush 7) 2 12 := ⟨by decide +kernel, rfl⟩
theorem s4_12 : Nx method_5_code 12 (.iadd) 1 13 := ⟨by decide +kernel, rfl⟩
theorem s4_13 : Nx method_5_code 13 (.lshl) 1 14 := ⟨by decide +kernel, rfl⟩
theorem s4_14 : Nx method_5_code 14 (.land) 1 15 := ⟨by decide +kernel, rfl⟩
theorem s4_15 : Nx method_5_code 15 (.lconst 0) 1 16 := ⟨by decide +kernel, rfl⟩
theorem s4_16 : Nx method_5_code 16 (.lcmp) 1 17 := ⟨by decide +kernel, rfl⟩
theorem s4_17 : Bx method_5_code 17 (.ifCond .eq) 24 20 := ⟨(7), by decide +kernel, by decide, by decide, rfl⟩
set_option maxRecDepth 65536 in
set_option maxHeartbeats 40000000 in
theorem m_mk0 (l : Launch) {Z : State} {a0 : Array Value} (hw : HW1 Z a0) (n0 : Nat) (A : List Ob) (r : Int64) (s : Int32) (h : ¬ s = 0 → ¬ (r &&& (128 : Int64)) = 0) : Met l Z KT n0 y4 method_5_code 4 (some .boolean) ({ frames := 0, cells := 0, slots := 0, locals := 0 } : Room) #[(.long r), (.int (0 : Int32)), (.int s)] A (Is (some (.int (1 : Int32))) A) := by
  refine Met.of (a0 := a0) (ls := #[.val (.long r), .second, .val (.int (0 : Int32)), .val (.int s)]) (kok hw) (plainFor_of_name pn_4) (fun m => by first | (simp [entryFrame, mkF, argsToLocals, Value.category]; done) | rfl) (fun G H => ?_)
  refine H.iloadN s4_0 rfl ?_
  refine H.ifS s4_1 (fun (c1 : s = (0 : Int32)) => ?_) (fun (c1 : ¬ s = (0 : Int32)) => ?_)
  · have d1 : s.toInt = 0 := (i_eq rfl (by decide : (0 : Int32).toInt = 0)).mp c1
    refine H.iconst s4_20 (v := (1 : Int32)) (by decide) ?_
    refine H.goto s4_21 ?_
    exact H.ireturn s4_25 rfl (by simp) rfl ⟨rfl, rfl⟩ (by decide) (by decide)
  · have d1 : ¬ s.toInt = 0 := (i_ne rfl (by decide : (0 : Int32).toInt = 0)).mp c1
    refine H.lloadN s4_4 rfl ?_
    refine H.lconst s4_5 (v := (1 : Int64)) (by decide) ?_
    refine H.bipush s4_6 (v := (8 : Int32)) (by decide) ?_
    refine H.iloadN s4_8 rfl ?_
    refine H.imul s4_9 (w := (0 : Int32)) (by decide) ?_
    refine H.bipush s4_10 (v := (7 : Int32)) (by decide) ?_
    refine H.iadd s4_12 (w := (7 : Int32)) (by decide) ?_
    refine H.lshl s4_13 (w := (128 : Int64)) (by decide) ?_
    refine H.land s4_14 rfl ?_
    refine H.lconst s4_15 (v := (0 : Int64)) (by decide) ?_
    refine H.lifF s4_16 s4_17 (h c1) ?_
    refine H.iconst s4_20 (v := (1 : Int32)) (by decide) ?_
    refine H.goto s4_21 ?_
    exact H.ireturn s4_25 rfl (by simp) rfl ⟨rfl, rfl⟩ (by decide) (by decide)


set_option maxRecDepth 65536 in
set_option maxHeartbeats 40000000 in
theorem m_mk1 (l : Launch) {Z : State} {a0 : Array Value} (hw : HW1 Z a0) (n0 : Nat) (A : List Ob) (r : Int64) (s : Int32) (h : ¬ s = 0 → ¬ (r &&& (32768 : Int64)) = 0) : Met l Z KT n0 y4 method_5_code 4 (some .boolean) ({ frames := 0, cells := 0, slots := 0, locals := 0 } : Room) #[(.long r), (.int (1 : Int32)), (.int s)] A (Is (some (.int (1 : Int32))) A) := by
  refine Met.of (a0 := a0) (ls := #[.val (.long r), .second, .val (.int (1 : Int32)), .val (.int s)]) (kok hw) (plainFor_of_name pn_4) (fun m => by first | (simp [entryFrame, mkF, argsToLocals, Value.category]; done) | rfl) (fun G H => ?_)
  refine H.iloadN s4_0 rfl ?_
  refine H.ifS s4_1 (fun (c1 : s = (0 : Int32)) => ?_) (fun (c1 : ¬ s = (0 : Int32)) => ?_)
  · have d1 : s.toInt = 0 := (i_eq rfl (by decide : (0 : Int32).toInt = 0)).mp c1
    refine H.iconst s4_20 (v := (1 : Int32)) (by decide) ?_
    refine H.goto s4_21 ?_
    exact H.ireturn s4_25 rfl (by simp) rfl ⟨rfl, rfl⟩ (by decide) (by decide)
  · have d1 : ¬ s.toInt = 0 := (i_ne rfl (by decide : (0 : Int32).toInt = 0)).mp c1
    refine H.lloadN s4_4 rfl ?_
    refine H.lconst s4_5 (v := (1 : Int64)) (by decide) ?_
    refine H.bipush s4_6 (v := (8 : Int32)) (by decide) ?_
    refine H.iloadN s4_8 rfl ?_
    refine H.imul s4_9 (w := (8 : Int32)) (by decide) ?_
    refine H.bipush s4_10 (v := (7 : Int32)) (by decide) ?_
    refine H.iadd s4_12 (w := (15 : Int32)) (by decide) ?_
    refine H.lshl s4_13 (w := (32768 : Int64)) (by decide) ?_
    refine H.land s4_14 rfl ?_
    refine H.lconst s4_15 (v := (0 : Int64)) (by decide) ?_
    refine H.lifF s4_16 s4_17 (h c1) ?_
    refine H.iconst s4_20 (v := (1 : Int32)) (by decide) ?_
    refine H.goto s4_21 ?_
    exact H.ireturn s4_25 rfl (by simp) rfl ⟨rfl, rfl⟩ (by decide) (by decide)


set_option maxRecDepth 65536 in
set_option maxHeartbeats 40000000 in
theorem m_mk2 (l : Launch) {Z : State} {a0 : Array Value} (hw : HW1 Z a0) (n0 : Nat) (A : List Ob) (r : Int64) (s : Int32) (h : ¬ s = 0 → ¬ (r &&& (8388608 : Int64)) = 0) : Met l Z KT n0 y4 method_5_code 4 (some .boolean) ({ frames := 0, cells := 0, slots := 0, locals := 0 } : Room) #[(.long r), (.int (2 : Int32)), (.int s)] A (Is (some (.int (1 : Int32))) A) := by
  refine Met.of (a0 := a0) (ls := #[.val (.long r), .second, .val (.int (2 : Int32)), .val (.int s)]) (kok hw) (plainFor_of_name pn_4) (fun m => by first | (simp [entryFrame, mkF, argsToLocals, Value.category]; done) | rfl) (fun G H => ?_)
  refine H.iloadN s4_0 rfl ?_
  refine H.ifS s4_1 (fun (c1 : s = (0 : Int32)) => ?_) (fun (c1 : ¬ s = (0 : Int32)) => ?_)
  · have d1 : s.toInt = 0 := (i_eq rfl (by decide : (0 : Int32).toInt = 0)).mp c1
    refine H.iconst s4_20 (v := (1 : Int32)) (by decide) ?_
    refine H.goto s4_21 ?_
    exact H.ireturn s4_25 rfl (by simp) rfl ⟨rfl, rfl⟩ (by decide) (by decide)
  · have d1 : ¬ s.toInt = 0 := (i_ne rfl (by decide : (0 : Int32).toInt = 0)).mp c1
    refine H.lloadN s4_4 rfl ?_
    refine H.lconst s4_5 (v := (1 : Int64)) (by decide) ?_
    refine H.bipush s4_6 (v := (8 : Int32)) (by decide) ?_
    refine H.iloadN s4_8 rfl ?_
    refine H.imul s4_9 (w := (16 : Int32)) (by decide) ?_
    refine H.bipush s4_10 (v := (7 : Int32)) (by decide) ?_
    refine H.iadd s4_12 (w := (23 : Int32)) (by decide) ?_
    refine H.lshl s4_13 (w := (8388608 : Int64)) (by decide) ?_
    refine H.land s4_14 rfl ?_
    refine H.lconst s4_15 (v := (0 : Int64)) (by decide) ?_
    refine H.lifF s4_16 s4_17 (h c1) ?_
    refine H.iconst s4_20 (v := (1 : Int32)) (by decide) ?_
    refine H.goto s4_21 ?_
    exact H.ireturn s4_25 rfl (by simp) rfl ⟨rfl, rfl⟩ (by decide) (by decide)


set_option maxRecDepth 65536 in
set_option maxHeartbeats 40000000 in
theorem m_mk3 (l : Launch) {Z : State} {a0 : Array Value} (hw : HW1 Z a0) (n0 : Nat) (A : List Ob) (r : Int64) (s : Int32) (h : ¬ s = 0 → ¬ (r &&& (2147483648 : Int64)) = 0) : Met l Z KT n0 y4 method_5_code 4 (some .boolean) ({ frames := 0, cells := 0, slots := 0, locals := 0 } : Room) #[(.long r), (.int (3 : Int32)), (.int s)] A (Is (some (.int (1 : Int32))) A) := by
  refine Met.of (a0 := a0) (ls := #[.val (.long r), .second, .val (.int (3 : Int32)), .val (.int s)]) (kok hw) (plainFor_of_name pn_4) (fun m => by first | (simp [entryFrame, mkF, argsToLocals, Value.category]; done) | rfl) (fun G H => ?_)
  refine H.iloadN s4_0 rfl ?_
  refine H.ifS s4_1 (fun (c1 : s = (0 : Int32)) => ?_) (fun (c1 : ¬ s = (0 : Int32)) => ?_)
  · have d1 : s.toInt = 0 := (i_eq rfl (by decide : (0 : Int32).toInt = 0)).mp c1
    refine H.iconst s4_20 (v := (1 : Int32)) (by decide) ?_
    refine H.goto s4_21 ?_
    exact H.ireturn s4_25 rfl (by simp) rfl ⟨rfl, rfl⟩ (by decide) (by decide)
  · have d1 : ¬ s.toInt = 0 := (i_ne rfl (by decide : (0 : Int32).toInt = 0)).mp c1
    refine H.lloadN s4_4 rfl ?_
    refine H.lconst s4_5 (v := (1 : Int64)) (by decide) ?_
    refine H.bipush s4_6 (v := (8 : Int32)) (by decide) ?_
    refine H.iloadN s4_8 rfl ?_
    refine H.imul s4_9 (w := (24 : Int32)) (by decide) ?_
    refine H.bipush s4_10 (v := (7 : Int32)) (by decide) ?_
    refine H.iadd s4_12 (w := (31 : Int32)) (by decide) ?_
    refine H.lshl s4_13 (w := (2147483648 : Int64)) (by decide) ?_
    refine H.land s4_14 rfl ?_
    refine H.lconst s4_15 (v := (0 : Int64)) (by decide) ?_
    refine H.lifF s4_16 s4_17 (h c1) ?_
    refine H.iconst s4_20 (v := (1 : Int32)) (by decide) ?_
    refine H.goto s4_21 ?_
    exact H.ireturn s4_25 rfl (by simp) rfl ⟨rfl, rfl⟩ (by decide) (by decide)


set_option maxRecDepth 65536 in
set_option maxHeartbeats 40000000 in
theorem m_mk4 (l : Launch) {Z : State} {a0 : Array Value} (hw : HW1 Z a0) (n0 : Nat) (A : List Ob) (r : Int64) (s : Int32) (h : ¬ s = 0 → ¬ (r &&& (549755813888 : Int64)) = 0) : Met l Z KT n0 y4 method_5_code 4 (some .boolean) ({ frames := 0, cells := 0, slots := 0, locals := 0 } : Room) #[(.long r), (.int (4 : Int32)), (.int s)] A (Is (some (.int (1 : Int32))) A) := by
  refine Met.of (a0 := a0) (ls := #[.val (.long r), .second, .val (.int (4 : Int32)), .val (.int s)]) (kok hw) (plainFor_of_name pn_4) (fun m => by first | (simp [entryFrame, mkF, argsToLocals, Value.category]; done) | rfl) (fun G H => ?_)
  refine H.iloadN s4_0 rfl ?_
  refine H.ifS s4_1 (fun (c1 : s = (0 : Int32)) => ?_) (fun (c1 : ¬ s = (0 : Int32)) => ?_)
  · have d1 : s.toInt = 0 := (i_eq rfl (by decide : (0 : Int32).toInt = 0)).mp c1
    refine H.iconst s4_20 (v := (1 : Int32)) (by decide) ?_
    refine H.goto s4_21 ?_
    exact H.ireturn s4_25 rfl (by simp) rfl ⟨rfl, rfl⟩ (by decide) (by decide)
  · have d1 : ¬ s.toInt = 0 := (i_ne rfl (by decide : (0 : Int32).toInt = 0)).mp c1
    refine H.lloadN s4_4 rfl ?_
    refine H.lconst s4_5 (v := (1 : Int64)) (by decide) ?_
    refine H.bipush s4_6 (v := (8 : Int32)) (by decide) ?_
    refine H.iloadN s4_8 rfl ?_
    refine H.imul s4_9 (w := (32 : Int32)) (by decide) ?_
    refine H.bipush s4_10 (v := (7 : Int32)) (by decide) ?_
    refine H.iadd s4_12 (w := (39 : Int32)) (by decide) ?_
    refine H.lshl s4_13 (w := (549755813888 : Int64)) (by decide) ?_
    refine H.land s4_14 rfl ?_
    refine H.lconst s4_15 (v := (0 : Int64)) (by decide) ?_
    refine H.lifF s4_16 s4_17 (h c1) ?_
    refine H.iconst s4_20 (v := (1 : Int32)) (by decide) ?_
    refine H.goto s4_21 ?_
    exact H.ireturn s4_25 rfl (by simp) rfl ⟨rfl, rfl⟩ (by decide) (by decide)


set_option maxRecDepth 65536 in
set_option maxHeartbeats 40000000 in
theorem m_mk5 (l : Launch) {Z : State} {a0 : Array Value} (hw : HW1 Z a0) (n0 : Nat) (A : List Ob) (r : Int64) (s : Int32) (h : ¬ s = 0 → ¬ (r &&& (140737488355328 : Int64)) = 0) : Met l Z KT n0 y4 method_5_code 4 (some .boolean) ({ frames := 0, cells := 0, slots := 0, locals := 0 } : Room) #[(.long r), (.int (5 : Int32)), (.int s)] A (Is (some (.int (1 : Int32))) A) := by
  refine Met.of (a0 := a0) (ls := #[.val (.long r), .second, .val (.int (5 : Int32)), .val (.int s)]) (kok hw) (plainFor_of_name pn_4) (fun m => by first | (simp [entryFrame, mkF, argsToLocals, Value.category]; done) | rfl) (fun G H => ?_)
  refine H.iloadN s4_0 rfl ?_
  refine H.ifS s4_1 (fun (c1 : s = (0 : Int32)) => ?_) (fun (c1 : ¬ s = (0 : Int32)) => ?_)
  · have d1 : s.toInt = 0 := (i_eq rfl (by decide : (0 : Int32).toInt = 0)).mp c1
    refine H.iconst s4_20 (v := (1 : Int32)) (by decide) ?_
    refine H.goto s4_21 ?_
    exact H.ireturn s4_25 rfl (by simp) rfl ⟨rfl, rfl⟩ (by decide) (by decide)
  · have d1 : ¬ s.toInt = 0 := (i_ne rfl (by decide : (0 : Int32).toInt = 0)).mp c1
    refine H.lloadN s4_4 rfl ?_
    refine H.lconst s4_5 (v := (1 : Int64)) (by decide) ?_
    refine H.bipush s4_6 (v := (8 : Int32)) (by decide) ?_
    refine H.iloadN s4_8 rfl ?_
    refine H.imul s4_9 (w := (40 : Int32)) (by decide) ?_
    refine H.bipush s4_10 (v := (7 : Int32)) (by decide) ?_
    refine H.iadd s4_12 (w := (47 : Int32)) (by decide) ?_
    refine H.lshl s4_13 (w := (140737488355328 : Int64)) (by decide) ?_
    refine H.land s4_14 rfl ?_
    refine H.lconst s4_15 (v := (0 : Int64)) (by decide) ?_
    refine H.lifF s4_16 s4_17 (h c1) ?_
    refine H.iconst s4_20 (v := (1 : Int32)) (by decide) ?_
    refine H.goto s4_21 ?_
    exact H.ireturn s4_25 rfl (by simp) rfl ⟨rfl, rfl⟩ (by decide) (by decide)


set_option maxRecDepth 65536 in
set_option maxHeartbeats 40000000 in
theorem m_mk6 (l : Launch) {Z : State} {a0 : Array Value} (hw : HW1 Z a0) (n0 : Nat) (A : List Ob) (r : Int64) (s : Int32) (h : ¬ s = 0 → ¬ (r &&& (36028797018963968 : Int64)) = 0) : Met l Z KT n0 y4 method_5_code 4 (some .boolean) ({ frames := 0, cells := 0, slots := 0, locals := 0 } : Room) #[(.long r), (.int (6 : Int32)), (.int s)] A (Is (some (.int (1 : Int32))) A) := by
  refine Met.of (a0 := a0) (ls := #[.val (.long r), .second, .val (.int (6 : Int32)), .val (.int s)]) (kok hw) (plainFor_of_name pn_4) (fun m => by first | (simp [entryFrame, mkF, argsToLocals, Value.category]; done) | rfl) (fun G H => ?_)
  refine H.iloadN s4_0 rfl ?_
  refine H.ifS s4_1 (fun (c1 : s = (0 : Int32)) => ?_) (fun (c1 : ¬ s = (0 : Int32)) => ?_)
  · have d1 : s.toInt = 0 := (i_eq rfl (by decide : (0 : Int32).toInt = 0)).mp c1
    refine H.iconst s4_20 (v := (1 : Int32)) (by decide) ?_
    refine H.goto s4_21 ?_
    exact H.ireturn s4_25 rfl (by simp) rfl ⟨rfl, rfl⟩ (by decide) (by decide)
  · have d1 : ¬ s.toInt = 0 := (i_ne rfl (by decide : (0 : Int32).toInt = 0)).mp c1
    refine H.lloadN s4_4 rfl ?_
    refine H.lconst s4_5 (v := (1 : Int64)) (by decide) ?_
    refine H.bipush s4_6 (v := (8 : Int32)) (by decide) ?_
    refine H.iloadN s4_8 rfl ?_
    refine H.imul s4_9 (w := (48 : Int32)) (by decide) ?_
    refine H.bipush s4_10 (v := (7 : Int32)) (by decide) ?_
    refine H.iadd s4_12 (w := (55 : Int32)) (by decide) ?_
    refine H.lshl s4_13 (w := (36028797018963968 : Int64)) (by decide) ?_
    refine H.land s4_14 rfl ?_
    refine H.lconst s4_15 (v := (0 : Int64)) (by decide) ?_
    refine H.lifF s4_16 s4_17 (h c1) ?_
    refine H.iconst s4_20 (v := (1 : Int32)) (by decide) ?_
    refine H.goto s4_21 ?_
    exact H.ireturn s4_25 rfl (by simp) rfl ⟨rfl, rfl⟩ (by decide) (by decide)


set_option maxRecDepth 65536 in
set_option maxHeartbeats 40000000 in
theorem m_mk7 (l : Launch) {Z : State} {a0 : Array Value} (hw : HW1 Z a0) (n0 : Nat) (A : List Ob) (r : Int64) (s : Int32) (h : ¬ s = 0 → ¬ (r &&& (-9223372036854775808 : Int64)) = 0) : Met l Z KT n0 y4 method_5_code 4 (some .boolean) ({ frames := 0, cells := 0, slots := 0, locals := 0 } : Room) #[(.long r), (.int (7 : Int32)), (.int s)] A (Is (some (.int (1 : Int32))) A) := by
  refine Met.of (a0 := a0) (ls := #[.val (.long r), .second, .val (.int (7 : Int32)), .val (.int s)]) (kok hw) (plainFor_of_name pn_4) (fun m => by first | (simp [entryFrame, mkF, argsToLocals, Value.category]; done) | rfl) (fun G H => ?_)
  refine H.iloadN s4_0 rfl ?_
  refine H.ifS s4_1 (fun (c1 : s = (0 : Int32)) => ?_) (fun (c1 : ¬ s = (0 : Int32)) => ?_)
  · have d1 : s.toInt = 0 := (i_eq rfl (by decide : (0 : Int32).toInt = 0)).mp c1
    refine H.iconst s4_20 (v := (1 : Int32)) (by decide) ?_
    refine H.goto s4_21 ?_
    exact H.ireturn s4_25 rfl (by simp) rfl ⟨rfl, rfl⟩ (by decide) (by decide)
  · have d1 : ¬ s.toInt = 0 := (i_ne rfl (by decide : (0 : Int32).toInt = 0)).mp c1
    refine H.lloadN s4_4 rfl ?_
    refine H.lconst s4_5 (v := (1 : Int64)) (by decide) ?_
    refine H.bipush s4_6 (v := (8 : Int32)) (by decide) ?_
    refine H.iloadN s4_8 rfl ?_
    refine H.imul s4_9 (w := (56 : Int32)) (by decide) ?_
    refine H.bipush s4_10 (v := (7 : Int32)) (by decide) ?_
    refine H.iadd s4_12 (w := (63 : Int32)) (by decide) ?_
    refine H.lshl s4_13 (w := (-9223372036854775808 : Int64)) (by decide) ?_
    refine H.land s4_14 rfl ?_
    refine H.lconst s4_15 (v := (0 : Int64)) (by decide) ?_
    refine H.lifF s4_16 s4_17 (h c1) ?_
    refine H.iconst s4_20 (v := (1 : Int32)) (by decide) ?_
    refine H.goto s4_21 ?_
    exact H.ireturn s4_25 rfl (by simp) rfl ⟨rfl, rfl⟩ (by decide) (by decide)

theorem s0_0 : Nx code 0 (.lload_n 0) 1 1 := ⟨at_0, rfl⟩
theorem s0_1 : Nx code 1 (.iload_n 2) 1 2 := ⟨at_1, rfl⟩
theorem s0_2 : Nx code 2 (.iconst 0) 1 3 := ⟨at_2, rfl⟩
theorem s0_3 : Nx code 3 (.invokestatic 7) 3 6 := ⟨at_3, rfl⟩
theorem pd_0 : ∀ sig, parseMethodDescriptor "(JII)J" = some sig → 3 = sig.parameters.length := npOf (r := some .long) (ps := [.long, .int, .int]) (by decide +kernel) rfl
theorem k_13 {Z : State} {a0 : Array Value} (hw : HW1 Z a0) : SL Z a0 "com/example/byteleaf/byteleaf/value/ByteWordsEscapedPinLaw" 7 y1 method_3_code 7 (some .long) 3 := ⟨(hw _ (List.mem_of_getElem? (i := 0) rfl)), (hw _ (List.mem_of_getElem? (i := 1) rfl)), (hw _ (List.mem_of_getElem? (i := 2) rfl)), (hw _ (List.mem_of_getElem? (i := 3) rfl)), ⟨by decide, by decide⟩, pd_0⟩
theorem s0_6 : Nx code 6 (.lstore_n 3) 1 7 := ⟨at_6, rfl⟩
theorem s0_7 : Nx code 7 (.lload_n 0) 1 8 := ⟨at_7, rfl⟩
theorem s0_8 : Nx code 8 (.iload_n 2) 1 9 := ⟨at_8, rfl⟩
theorem s0_9 : Nx code 9 (.iconst 1) 1 10 := ⟨at_9, rfl⟩
theorem s0_10 : Nx code 10 (.invokestatic 7) 3 13 := ⟨at_10, rfl⟩
theorem s0_13 : Nx code 13 (.lstore 5) 2 15 := ⟨at_13, rfl⟩
theorem s0_15 : Nx code 15 (.lload_n 0) 1 16 := ⟨at_15, rfl⟩
theorem s0_16 : Nx code 16 (.iload_n 2) 1 17 := ⟨at_16, rfl⟩
theorem s0_17 : Nx code 17 (.iconst 2) 1 18 := ⟨at_17, rfl⟩
theorem s0_18 : Nx code 18 (.invokestatic 7) 3 21 := ⟨at_18, rfl⟩
theorem s0_21 : Nx code 21 (.lstore 7) 2 23 := ⟨at_21, rfl⟩
theorem s0_23 : Nx code 23 (.lload_n 0) 1 24 := ⟨at_23, rfl⟩
theorem s0_24 : Nx code 24 (.iload_n 2) 1 25 := ⟨at_24, rfl⟩
theorem s0_25 : Nx code 25 (.iconst 3) 1 26 := ⟨at_25, rfl⟩
theorem s0_26 : Nx code 26 (.invokestatic 7) 3 29 := ⟨at_26, rfl⟩
theorem s0_29 : Nx code 29 (.lstore 9) 2 31 := ⟨at_29, rfl⟩
theorem s0_31 : Nx code 31 (.lload_n 0) 1 32 := ⟨at_31, rfl⟩
theorem s0_32 : Nx code 32 (.iload_n 2) 1 33 := ⟨at_32, rfl⟩
theorem s0_33 : Nx code 33 (.iconst 4) 1 34 := ⟨at_33, rfl⟩
theorem s0_34 : Nx code 34 (.invokestatic 7) 3 37 := ⟨at_34, rfl⟩
theorem s0_37 : Nx code 37 (.lstore 11) 2 39 := ⟨at_37, rfl⟩
theorem s0_39 : Nx code 39 (.lload_n 0) 1 40 := ⟨at_39, rfl⟩
theorem s0_40 : Nx code 40 (.iload_n 2) 1 41 := ⟨at_40, rfl⟩
theorem s0_41 : Nx code 41 (.iconst 5) 1 42 := ⟨at_41, rfl⟩
theorem s0_42 : Nx code 42 (.invokestatic 7) 3 45 := ⟨at_42, rfl⟩
theorem s0_45 : Nx code 45 (.lstore 13) 2 47 := ⟨at_45, rfl⟩
theorem s0_47 : Nx code 47 (.lload_n 0) 1 48 := ⟨at_47, rfl⟩
theorem s0_48 : Nx code 48 (.iload_n 2) 1 49 := ⟨at_48, rfl⟩
theorem s0_49 : Nx code 49 (.bipush 6) 2 51 := ⟨at_49, rfl⟩
theorem s0_51 : Nx code 51 (.invokestatic 7) 3 54 := ⟨at_51, rfl⟩
theorem s0_54 : Nx code 54 (.lstore 15) 2 56 := ⟨at_54, rfl⟩
theorem s0_56 : Nx code 56 (.lload_n 0) 1 57 := ⟨at_56, rfl⟩
theorem s0_57 : Nx code 57 (.iload_n 2) 1 58 := ⟨at_57, rfl⟩
theorem s0_58 : Nx code 58 (.bipush 7) 2 60 := ⟨at_58, rfl⟩
theorem s0_60 : Nx code 60 (.invokestatic 7) 3 63 := ⟨at_60, rfl⟩
theorem s0_63 : Nx code 63 (.lstore 17) 2 65 := ⟨at_63, rfl⟩
theorem s0_65 : Nx code 65 (.lload_n 3) 1 66 := ⟨at_65, rfl⟩
theorem s0_66 : Nx code 66 (.lload 5) 2 68 := ⟨at_66, rfl⟩
theorem s0_68 : Nx code 68 (.bipush 8) 2 70 := ⟨at_68, rfl⟩
theorem s0_70 : Nx code 70 (.lshl) 1 71 := ⟨at_70, rfl⟩
theorem s0_71 : Nx code 71 (.lor) 1 72 := ⟨at_71, rfl⟩
theorem s0_72 : Nx code 72 (.lload 7) 2 74 := ⟨at_72, rfl⟩
theorem s0_74 : Nx code 74 (.bipush 16) 2 76 := ⟨at_74, rfl⟩
theorem s0_76 : Nx code 76 (.lshl) 1 77 := ⟨at_76, rfl⟩
theorem s0_77 : Nx code 77 (.lor) 1 78 := ⟨at_77, rfl⟩
theorem s0_78 : Nx code 78 (.lload 9) 2 80 := ⟨at_78, rfl⟩
theorem s0_80 : Nx code 80 (.bipush 24) 2 82 := ⟨at_80, rfl⟩
theorem s0_82 : Nx code 82 (.lshl) 1 83 := ⟨at_82, rfl⟩
theorem s0_83 : Nx code 83 (.lor) 1 84 := ⟨at_83, rfl⟩
theorem s0_84 : Nx code 84 (.lload 11) 2 86 := ⟨at_84, rfl⟩
theorem s0_86 : Nx code 86 (.bipush 32) 2 88 := ⟨at_86, rfl⟩
theorem s0_88 : Nx code 88 (.lshl) 1 89 := ⟨at_88, rfl⟩
theorem s0_89 : Nx code 89 (.lor) 1 90 := ⟨at_89, rfl⟩
theorem s0_90 : Nx code 90 (.lload 13) 2 92 := ⟨at_90, rfl⟩
theorem s0_92 : Nx code 92 (.bipush 40) 2 94 := ⟨at_92, rfl⟩
theorem s0_94 : Nx code 94 (.lshl) 1 95 := ⟨at_94, rfl⟩
theorem s0_95 : Nx code 95 (.lor) 1 96 := ⟨at_95, rfl⟩
theorem s0_96 : Nx code 96 (.lload 15) 2 98 := ⟨at_96, rfl⟩
theorem s0_98 : Nx code 98 (.bipush 48) 2 100 := ⟨at_98, rfl⟩
theorem s0_100 : Nx code 100 (.lshl) 1 101 := ⟨at_100, rfl⟩
theorem s0_101 : Nx code 101 (.lor) 1 102 := ⟨at_101, rfl⟩
theorem s0_102 : Nx code 102 (.lload 17) 2 104 := ⟨at_102, rfl⟩
theorem s0_104 : Nx code 104 (.bipush 56) 2 106 := ⟨at_104, rfl⟩
theorem s0_106 : Nx code 106 (.lshl) 1 107 := ⟨at_106, rfl⟩
theorem s0_107 : Nx code 107 (.lor) 1 108 := ⟨at_107, rfl⟩
theorem s0_108 : Nx code 108 (.lstore 19) 2 110 := ⟨at_108, rfl⟩
theorem s0_110 : Nx code 110 (.lload 19) 2 112 := ⟨at_110, rfl⟩
theorem s0_112 : Nx code 112 (.invokestatic 13) 3 115 := ⟨at_112, rfl⟩
theorem pd_1 : ∀ sig, parseMethodDescriptor "(J)J" = some sig → 1 = sig.parameters.length := npOf (r := some .long) (ps := [.long]) (by decide +kernel) rfl
theorem k_14 {Z : State} {a0 : Array Value} (hw : HW1 Z a0) : SL Z a0 "com/example/byteleaf/byteleaf/value/ByteWordsEscapedPinLaw" 13 y2 prog_43_method_7_code 8 (some .long) 1 := ⟨(hw _ (List.mem_of_getElem? (i := 6) rfl)), (hw _ (List.mem_of_getElem? (i := 7) rfl)), (hw _ (List.mem_of_getElem? (i := 8) rfl)), (hw _ (List.mem_of_getElem? (i := 9) rfl)), ⟨by decide, by decide⟩, pd_1⟩
theorem s0_115 : Nx code 115 (.lstore 21) 2 117 := ⟨at_115, rfl⟩
theorem s0_117 : Nx code 117 (.lload_n 3) 1 118 := ⟨at_117, rfl⟩
theorem s0_118 : Nx code 118 (.invokestatic 19) 3 121 := ⟨at_118, rfl⟩
theorem pd_2 : ∀ sig, parseMethodDescriptor "(J)Z" = some sig → 1 = sig.parameters.length := npOf (r := some .boolean) (ps := [.long]) (by decide +kernel) rfl
theorem k_15 {Z : State} {a0 : Array Value} (hw : HW1 Z a0) : SL Z a0 "com/example/byteleaf/byteleaf/value/ByteWordsEscapedPinLaw" 19 y3 method_4_code 2 (some .boolean) 1 := ⟨(hw _ (List.mem_of_getElem? (i := 16) rfl)), (hw _ (List.mem_of_getElem? (i := 17) rfl)), (hw _ (List.mem_of_getElem? (i := 2) rfl)), (hw _ (List.mem_of_getElem? (i := 18) rfl)), ⟨by decide, by decide⟩, pd_2⟩
theorem s0_121 : Nx code 121 (.istore 23) 2 123 := ⟨at_121, rfl⟩
theorem s0_123 : Nx code 123 (.lload 5) 2 125 := ⟨at_123, rfl⟩
theorem s0_125 : Nx code 125 (.invokestatic 19) 3 128 := ⟨at_125, rfl⟩
theorem s0_128 : Nx code 128 (.istore 24) 2 130 := ⟨at_128, rfl⟩
theorem s0_130 : Nx code 130 (.lload 7) 2 132 := ⟨at_130, rfl⟩
theorem s0_132 : Nx code 132 (.invokestatic 19) 3 135 := ⟨at_132, rfl⟩
theorem s0_135 : Nx code 135 (.istore 25) 2 137 := ⟨at_135, rfl⟩
theorem s0_137 : Nx code 137 (.lload 9) 2 139 := ⟨at_137, rfl⟩
theorem s0_139 : Nx code 139 (.invokestatic 19) 3 142 := ⟨at_139, rfl⟩
theorem s0_142 : Nx code 142 (.istore 26) 2 144 := ⟨at_142, rfl⟩
theorem s0_144 : Nx code 144 (.lload 11) 2 146 := ⟨at_144, rfl⟩
theorem s0_146 : Nx code 146 (.invokestatic 19) 3 149 := ⟨at_146, rfl⟩
theorem s0_149 : Nx code 149 (.istore 27) 2 151 := ⟨at_149, rfl⟩
theorem s0_151 : Nx code 151 (.lload 13) 2 153 := ⟨at_151, rfl⟩
theorem s0_153 : Nx code 153 (.invokestatic 19) 3 156 := ⟨at_153, rfl⟩
theorem s0_156 : Nx code 156 (.istore 28) 2 158 := ⟨at_156, rfl⟩
theorem s0_158 : Nx code 158 (.lload 15) 2 160 := ⟨at_158, rfl⟩
theorem s0_160 : Nx code 160 (.invokestatic 19) 3 163 := ⟨at_160, rfl⟩
theorem s0_163 : Nx code 163 (.istore 29) 2 165 := ⟨at_163, rfl⟩
theorem s0_165 : Nx code 165 (.lload 17) 2 167 := ⟨at_165, rfl⟩
theorem s0_167 : Nx code 167 (.invokestatic 19) 3 170 := ⟨at_167, rfl⟩
theorem s0_170 : Nx code 170 (.istore 30) 2 172 := ⟨at_170, rfl⟩
theorem s0_172 : Nx code 172 (.lload 21) 2 174 := ⟨at_172, rfl⟩
theorem k_16 {Z : State} {a0 : Array Value} (hw : HW1 Z a0) : (Jvm.Cond.constantLong "com/example/byteleaf/byteleaf/value/ByteWordsEscapedPinLaw" 23 (9187201950435737471)).before a0 Z = true := (hw _ (List.mem_of_getElem? (i := 21) rfl))
theorem s0_174 : Nx code 174 (.ldc2_w 23) 3 177 := ⟨at_174, rfl⟩
theorem s0_177 : Nx code 177 (.land) 1 178 := ⟨at_177, rfl⟩
theorem s0_178 : Nx code 178 (.lconst 0) 1 179 := ⟨at_178, rfl⟩
theorem s0_179 : Nx code 179 (.lcmp) 1 180 := ⟨at_179, rfl⟩
theorem s0_180 : Bx code 180 (.ifCond .eq) 185 183 := ⟨(5), at_180, by decide, by decide, rfl⟩
theorem s0_185 : Nx code 185 (.lload 21) 2 187 := ⟨at_185, rfl⟩
theorem s0_187 : Nx code 187 (.iconst 0) 1 188 := ⟨at_187, rfl⟩
theorem s0_188 : Nx code 188 (.iload 23) 2 190 := ⟨at_188, rfl⟩
theorem s0_190 : Nx code 190 (.invokestatic 25) 3 193 := ⟨at_190, rfl⟩
theorem pd_3 : ∀ sig, parseMethodDescriptor "(JIZ)Z" = some sig → 3 = sig.parameters.length := npOf (r := some .boolean) (ps := [.long, .int, .boolean]) (by decide +kernel) rfl
theorem k_17 {Z : State} {a0 : Array Value} (hw : HW1 Z a0) : SL Z a0 "com/example/byteleaf/byteleaf/value/ByteWordsEscapedPinLaw" 25 y4 method_5_code 4 (some .boolean) 3 := ⟨(hw _ (List.mem_of_getElem? (i := 22) rfl)), (hw _ (List.mem_of_getElem? (i := 23) rfl)), (hw _ (List.mem_of_getElem? (i := 2) rfl)), (hw _ (List.mem_of_getElem? (i := 24) rfl)), ⟨by decide, by decide⟩, pd_3⟩
theorem s0_193 : Bx code 193 (.ifCond .eq) 275 196 := ⟨(82), at_193, by decide, by decide, rfl⟩
theorem s0_196 : Nx code 196 (.lload 21) 2 198 := ⟨at_196, rfl⟩
theorem s0_198 : Nx code 198 (.iconst 1) 1 199 := ⟨at_198, rfl⟩
theorem s0_199 : Nx code 199 (.iload 24) 2 201 := ⟨at_199, rfl⟩
theorem s0_201 : Nx code 201 (.invokestatic 25) 3 204 := ⟨at_201, rfl⟩
theorem s0_204 : Bx code 204 (.ifCond .eq) 275 207 := ⟨(71), at_204, by decide, by decide, rfl⟩
theorem s0_207 : Nx code 207 (.lload 21) 2 209 := ⟨at_207, rfl⟩
theorem s0_209 : Nx code 209 (.iconst 2) 1 210 := ⟨at_209, rfl⟩
theorem s0_210 : Nx code 210 (.iload 25) 2 212 := ⟨at_210, rfl⟩
theorem s0_212 : Nx code 212 (.invokestatic 25) 3 215 := ⟨at_212, rfl⟩
theorem s0_215 : Bx code 215 (.ifCond .eq) 275 218 := ⟨(60), at_215, by decide, by decide, rfl⟩
theorem s0_218 : Nx code 218 (.lload 21) 2 220 := ⟨at_218, rfl⟩
theorem s0_220 : Nx code 220 (.iconst 3) 1 221 := ⟨at_220, rfl⟩
theorem s0_221 : Nx code 221 (.iload 26) 2 223 := ⟨at_221, rfl⟩
theorem s0_223 : Nx code 223 (.invokestatic 25) 3 226 := ⟨at_223, rfl⟩
theorem s0_226 : Bx code 226 (.ifCond .eq) 275 229 := ⟨(49), at_226, by decide, by decide, rfl⟩
theorem s0_229 : Nx code 229 (.lload 21) 2 231 := ⟨at_229, rfl⟩
theorem s0_231 : Nx code 231 (.iconst 4) 1 232 := ⟨at_231, rfl⟩
theorem s0_232 : Nx code 232 (.iload 27) 2 234 := ⟨at_232, rfl⟩
theorem s0_234 : Nx code 234 (.invokestatic 25) 3 237 := ⟨at_234, rfl⟩
theorem s0_237 : Bx code 237 (.ifCond .eq) 275 240 := ⟨(38), at_237, by decide, by decide, rfl⟩
theorem s0_240 : Nx code 240 (.lload 21) 2 242 := ⟨at_240, rfl⟩
theorem s0_242 : Nx code 242 (.iconst 5) 1 243 := ⟨at_242, rfl⟩
theorem s0_243 : Nx code 243 (.iload 28) 2 245 := ⟨at_243, rfl⟩
theorem s0_245 : Nx code 245 (.invokestatic 25) 3 248 := ⟨at_245, rfl⟩
theorem s0_248 : Bx code 248 (.ifCond .eq) 275 251 := ⟨(27), at_248, by decide, by decide, rfl⟩
theorem s0_251 : Nx code 251 (.lload 21) 2 253 := ⟨at_251, rfl⟩
theorem s0_253 : Nx code 253 (.bipush 6) 2 255 := ⟨at_253, rfl⟩
theorem s0_255 : Nx code 255 (.iload 29) 2 257 := ⟨at_255, rfl⟩
theorem s0_257 : Nx code 257 (.invokestatic 25) 3 260 := ⟨at_257, rfl⟩
theorem s0_260 : Bx code 260 (.ifCond .eq) 275 263 := ⟨(15), at_260, by decide, by decide, rfl⟩
theorem s0_263 : Nx code 263 (.lload 21) 2 265 := ⟨at_263, rfl⟩
theorem s0_265 : Nx code 265 (.bipush 7) 2 267 := ⟨at_265, rfl⟩
theorem s0_267 : Nx code 267 (.iload 30) 2 269 := ⟨at_267, rfl⟩
theorem s0_269 : Nx code 269 (.invokestatic 25) 3 272 := ⟨at_269, rfl⟩
theorem s0_272 : Bx code 272 (.ifCond .ne) 277 275 := ⟨(5), at_272, by decide, by decide, rfl⟩
theorem s0_277 : Nx code 277 (.iload 23) 2 279 := ⟨at_277, rfl⟩
theorem s0_279 : Bx code 279 (.ifCond .eq) 286 282 := ⟨(7), at_279, by decide, by decide, rfl⟩
theorem s0_286 : Nx code 286 (.iload 24) 2 288 := ⟨at_286, rfl⟩
theorem s0_288 : Bx code 288 (.ifCond .eq) 295 291 := ⟨(7), at_288, by decide, by decide, rfl⟩
theorem s0_295 : Nx code 295 (.iload 25) 2 297 := ⟨at_295, rfl⟩
theorem s0_297 : Bx code 297 (.ifCond .eq) 304 300 := ⟨(7), at_297, by decide, by decide, rfl⟩
theorem s0_304 : Nx code 304 (.iload 26) 2 306 := ⟨at_304, rfl⟩
theorem s0_306 : Bx code 306 (.ifCond .eq) 313 309 := ⟨(7), at_306, by decide, by decide, rfl⟩
theorem s0_313 : Nx code 313 (.iload 27) 2 315 := ⟨at_313, rfl⟩
theorem s0_315 : Bx code 315 (.ifCond .eq) 322 318 := ⟨(7), at_315, by decide, by decide, rfl⟩
theorem s0_322 : Nx code 322 (.iload 28) 2 324 := ⟨at_322, rfl⟩
theorem s0_324 : Bx code 324 (.ifCond .eq) 331 327 := ⟨(7), at_324, by decide, by decide, rfl⟩
theorem s0_331 : Nx code 331 (.iload 29) 2 333 := ⟨at_331, rfl⟩
theorem s0_333 : Bx code 333 (.ifCond .eq) 341 336 := ⟨(8), at_333, by decide, by decide, rfl⟩
theorem s0_341 : Nx code 341 (.iload 30) 2 343 := ⟨at_341, rfl⟩
theorem s0_343 : Bx code 343 (.ifCond .eq) 351 346 := ⟨(8), at_343, by decide, by decide, rfl⟩
theorem s0_351 : Nx code 351 (.bipush 8) 2 353 := ⟨at_351, rfl⟩
theorem s0_353 : Nx code 353 (.istore 31) 2 355 := ⟨at_353, rfl⟩
theorem s0_355 : Nx code 355 (.iload 31) 2 357 := ⟨at_355, rfl⟩
theorem s0_357 : Nx code 357 (.bipush 8) 2 359 := ⟨at_357, rfl⟩
theorem s0_359 : Bx code 359 (.if_icmp .ne) 375 362 := ⟨(16), at_359, by decide, by decide, rfl⟩
theorem s0_362 : Nx code 362 (.lload 21) 2 364 := ⟨at_362, rfl⟩
theorem s0_364 : Nx code 364 (.lconst 0) 1 365 := ⟨at_364, rfl⟩
theorem s0_365 : Nx code 365 (.lcmp) 1 366 := ⟨at_365, rfl⟩
theorem s0_366 : Bx code 366 (.ifCond .ne) 373 369 := ⟨(7), at_366, by decide, by decide, rfl⟩
theorem s0_369 : Nx code 369 (.iconst 1) 1 370 := ⟨at_369, rfl⟩
theorem s0_370 : Bx code 370 (.goto) 374 373 := ⟨(4), at_370, by decide, by decide, rfl⟩
theorem s0_374 : Nx code 374 (.ireturn) 1 375 := ⟨at_374, rfl⟩
theorem s0_346 : Nx code 346 (.bipush 7) 2 348 := ⟨at_346, rfl⟩
theorem s0_348 : Bx code 348 (.goto) 353 351 := ⟨(5), at_348, by decide, by decide, rfl⟩
theorem s0_375 : Nx code 375 (.lconst 1) 1 376 := ⟨at_375, rfl⟩
theorem s0_376 : Nx code 376 (.bipush 8) 2 378 := ⟨at_376, rfl⟩
theorem s0_378 : Nx code 378 (.iload 31) 2 380 := ⟨at_378, rfl⟩
theorem s0_380 : Nx code 380 (.imul) 1 381 := ⟨at_380, rfl⟩
theorem s0_381 : Nx code 381 (.bipush 7) 2 383 := ⟨at_381, rfl⟩
theorem s0_383 : Nx code 383 (.iadd) 1 384 := ⟨at_383, rfl⟩
theorem s0_384 : Nx code 384 (.lshl) 1 385 := ⟨at_384, rfl⟩
theorem s0_385 : Nx code 385 (.lstore 32) 2 387 := ⟨at_385, rfl⟩
theorem s0_387 : Nx code 387 (.lload 21) 2 389 := ⟨at_387, rfl⟩
theorem s0_389 : Nx code 389 (.lload 32) 2 391 := ⟨at_389, rfl⟩
theorem s0_391 : Nx code 391 (.lconst 1) 1 392 := ⟨at_391, rfl⟩
theorem s0_392 : Nx code 392 (.lsub) 1 393 := ⟨at_392, rfl⟩
theorem s0_393 : Nx code 393 (.land) 1 394 := ⟨at_393, rfl⟩
theorem s0_394 : Nx code 394 (.lconst 0) 1 395 := ⟨at_394, rfl⟩
theorem s0_395 : Nx code 395 (.lcmp) 1 396 := ⟨at_395, rfl⟩
theorem s0_396 : Bx code 396 (.ifCond .ne) 413 399 := ⟨(17), at_396, by decide, by decide, rfl⟩
theorem s0_399 : Nx code 399 (.lload 21) 2 401 := ⟨at_399, rfl⟩
theorem s0_401 : Nx code 401 (.lload 32) 2 403 := ⟨at_401, rfl⟩
theorem s0_403 : Nx code 403 (.land) 1 404 := ⟨at_403, rfl⟩
theorem s0_404 : Nx code 404 (.lconst 0) 1 405 := ⟨at_404, rfl⟩
theorem s0_405 : Nx code 405 (.lcmp) 1 406 := ⟨at_405, rfl⟩
theorem s0_406 : Bx code 406 (.ifCond .eq) 413 409 := ⟨(7), at_406, by decide, by decide, rfl⟩
theorem s0_409 : Nx code 409 (.iconst 1) 1 410 := ⟨at_409, rfl⟩
theorem s0_410 : Bx code 410 (.goto) 414 413 := ⟨(4), at_410, by decide, by decide, rfl⟩
theorem s0_414 : Nx code 414 (.ireturn) 1 415 := ⟨at_414, rfl⟩
theorem s0_336 : Nx code 336 (.bipush 6) 2 338 := ⟨at_336, rfl⟩
theorem s0_338 : Bx code 338 (.goto) 353 341 := ⟨(15), at_338, by decide, by decide, rfl⟩
theorem s0_327 : Nx code 327 (.iconst 5) 1 328 := ⟨at_327, rfl⟩
theorem s0_328 : Bx code 328 (.goto) 353 331 := ⟨(25), at_328, by decide, by decide, rfl⟩
theorem s0_318 : Nx code 318 (.iconst 4) 1 319 := ⟨at_318, rfl⟩
theorem s0_319 : Bx code 319 (.goto) 353 322 := ⟨(34), at_319, by decide, by decide, rfl⟩
theorem s0_309 : Nx code 309 (.iconst 3) 1 310 := ⟨at_309, rfl⟩
theorem s0_310 : Bx code 310 (.goto) 353 313 := ⟨(43), at_310, by decide, by decide, rfl⟩
theorem s0_300 : Nx code 300 (.iconst 2) 1 301 := ⟨at_300, rfl⟩
theorem s0_301 : Bx code 301 (.goto) 353 304 := ⟨(52), at_301, by decide, by decide, rfl⟩
theorem s0_291 : Nx code 291 (.iconst 1) 1 292 := ⟨at_291, rfl⟩
theorem s0_292 : Bx code 292 (.goto) 353 295 := ⟨(61), at_292, by decide, by decide, rfl⟩
theorem s0_282 : Nx code 282 (.iconst 0) 1 283 := ⟨at_282, rfl⟩
theorem s0_283 : Bx code 283 (.goto) 353 286 := ⟨(70), at_283, by decide, by decide, rfl⟩
set_option maxRecDepth 65536 in
set_option maxHeartbeats 40000000 in
theorem law_met (l : Launch) {Z : State} {a0 : Array Value} (hw : HW1 Z a0) (n0 : Nat) (p0 : Int64) (p1 : Int32) : Met l Z KT n0 x code maxLocals ret room_1 #[(.long p0), (.int p1)] [] (fun v _ => v = some (.int 1)) := by
  refine Met.of (a0 := a0) (ls := #[.val (.long p0), .second, .val (.int p1), .unset, .unset, .unset, .unset, .unset, .unset, .unset, .unset, .unset, .unset, .unset, .unset, .unset, .unset, .unset, .unset, .unset, .unset, .unset, .unset, .unset, .unset, .unset, .unset, .unset, .unset, .unset, .unset, .unset, .unset, .unset]) (kok hw) (plainFor_of_name pn_4) (fun m => by first | (simp [entryFrame, mkF, argsToLocals, Value.category, maxLocals]; done) | rfl) (fun G H => ?_)
  obtain ⟨b0, hb0, g0⟩ : ∃ z, own_pick p0 p1 0 = z ∧ 0 ≤ z.toInt ∧ z.toInt < 256 := ⟨_, rfl, own_pickb p0 p1 0⟩
  obtain ⟨s0, hs0⟩ : ∃ z, own_spI b0 = z := ⟨_, rfl⟩
  obtain ⟨b1, hb1, g1⟩ : ∃ z, own_pick p0 p1 1 = z ∧ 0 ≤ z.toInt ∧ z.toInt < 256 := ⟨_, rfl, own_pickb p0 p1 1⟩
  obtain ⟨s1, hs1⟩ : ∃ z, own_spI b1 = z := ⟨_, rfl⟩
  obtain ⟨b2, hb2, g2⟩ : ∃ z, own_pick p0 p1 2 = z ∧ 0 ≤ z.toInt ∧ z.toInt < 256 := ⟨_, rfl, own_pickb p0 p1 2⟩
  obtain ⟨s2, hs2⟩ : ∃ z, own_spI b2 = z := ⟨_, rfl⟩
  obtain ⟨b3, hb3, g3⟩ : ∃ z, own_pick p0 p1 3 = z ∧ 0 ≤ z.toInt ∧ z.toInt < 256 := ⟨_, rfl, own_pickb p0 p1 3⟩
  obtain ⟨s3, hs3⟩ : ∃ z, own_spI b3 = z := ⟨_, rfl⟩
  obtain ⟨b4, hb4, g4⟩ : ∃ z, own_pick p0 p1 4 = z ∧ 0 ≤ z.toInt ∧ z.toInt < 256 := ⟨_, rfl, own_pickb p0 p1 4⟩
  obtain ⟨s4, hs4⟩ : ∃ z, own_spI b4 = z := ⟨_, rfl⟩
  obtain ⟨b5, hb5, g5⟩ : ∃ z, own_pick p0 p1 5 = z ∧ 0 ≤ z.toInt ∧ z.toInt < 256 := ⟨_, rfl, own_pickb p0 p1 5⟩
  obtain ⟨s5, hs5⟩ : ∃ z, own_spI b5 = z := ⟨_, rfl⟩
  obtain ⟨b6, hb6, g6⟩ : ∃ z, own_pick p0 p1 6 = z ∧ 0 ≤ z.toInt ∧ z.toInt < 256 := ⟨_, rfl, own_pickb p0 p1 6⟩
  obtain ⟨s6, hs6⟩ : ∃ z, own_spI b6 = z := ⟨_, rfl⟩
  obtain ⟨b7, hb7, g7⟩ : ∃ z, own_pick p0 p1 7 = z ∧ 0 ≤ z.toInt ∧ z.toInt < 256 := ⟨_, rfl, own_pickb p0 p1 7⟩
  obtain ⟨s7, hs7⟩ : ∃ z, own_spI b7 = z := ⟨_, rfl⟩
  refine H.lloadN s0_0 rfl ?_
  refine H.iloadN s0_1 rfl ?_
  refine H.iconst s0_2 (v := (0 : Int32)) (by decide) ?_
  refine H.callSD s0_3 (k_13 hw) (m_pick l hw n0 [] p0 p1 (0 : Int32)) (argsL := [(.long p0), (.int p1), (.int (0 : Int32))]) (rest := []) rfl rfl rfl rfl (leb rfl) (leb rfl) (leb rfl) (leb rfl) (st' := [(.long b0)]) (by rw [hb0]; rfl) (k' := 0) rfl (n' := 0) rfl ?_
  refine H.lstoreN s0_6 (ls' := #[.val (.long p0), .second, .val (.int p1), .val (.long b0), .second, .unset, .unset, .unset, .unset, .unset, .unset, .unset, .unset, .unset, .unset, .unset, .unset, .unset, .unset, .unset, .unset, .unset, .unset, .unset, .unset, .unset, .unset, .unset, .unset, .unset, .unset, .unset, .unset, .unset]) rfl ?_
  refine H.lloadN s0_7 rfl ?_
  refine H.iloadN s0_8 rfl ?_
  refine H.iconst s0_9 (v := (1 : Int32)) (by decide) ?_
  refine H.callSD s0_10 (k_13 hw) (m_pick l hw n0 [] p0 p1 (1 : Int32)) (argsL := [(.long p0), (.int p1), (.int (1 : Int32))]) (rest := []) rfl rfl rfl rfl (leb rfl) (leb rfl) (leb rfl) (leb rfl) (st' := [(.long b1)]) (by rw [hb1]; rfl) (k' := 0) rfl (n' := 0) rfl ?_
  refine H.lstore s0_13 (ls' := #[.val (.long p0), .second, .val (.int p1), .val (.long b0), .second, .val (.long b1), .second, .unset, .unset, .unset, .unset, .unset, .unset, .unset, .unset, .unset, .unset, .unset, .unset, .unset, .unset, .unset, .unset, .unset, .unset, .unset, .unset, .unset, .unset, .unset, .unset, .unset, .unset, .unset]) rfl ?_
  refine H.lloadN s0_15 rfl ?_
  refine H.iloadN s0_16 rfl ?_
  refine H.iconst s0_17 (v := (2 : Int32)) (by decide) ?_
  refine H.callSD s0_18 (k_13 hw) (m_pick l hw n0 [] p0 p1 (2 : Int32)) (argsL := [(.long p0), (.int p1), (.int (2 : Int32))]) (rest := []) rfl rfl rfl rfl (leb rfl) (leb rfl) (leb rfl) (leb rfl) (st' := [(.long b2)]) (by rw [hb2]; rfl) (k' := 0) rfl (n' := 0) rfl ?_
  refine H.lstore s0_21 (ls' := #[.val (.long p0), .second, .val (.int p1), .val (.long b0), .second, .val (.long b1), .second, .val (.long b2), .second, .unset, .unset, .unset, .unset, .unset, .unset, .unset, .unset, .unset, .unset, .unset, .unset, .unset, .unset, .unset, .unset, .unset, .unset, .unset, .unset, .unset, .unset, .unset, .unset, .unset]) rfl ?_
  refine H.lloadN s0_23 rfl ?_
  refine H.iloadN s0_24 rfl ?_
  refine H.iconst s0_25 (v := (3 : Int32)) (by decide) ?_
  refine H.callSD s0_26 (k_13 hw) (m_pick l hw n0 [] p0 p1 (3 : Int32)) (argsL := [(.long p0), (.int p1), (.int (3 : Int32))]) (rest := []) rfl rfl rfl rfl (leb rfl) (leb rfl) (leb rfl) (leb rfl) (st' := [(.long b3)]) (by rw [hb3]; rfl) (k' := 0) rfl (n' := 0) rfl ?_
  refine H.lstore s0_29 (ls' := #[.val (.long p0), .second, .val (.int p1), .val (.long b0), .second, .val (.long b1), .second, .val (.long b2), .second, .val (.long b3), .second, .unset, .unset, .unset, .unset, .unset, .unset, .unset, .unset, .unset, .unset, .unset, .unset, .unset, .unset, .unset, .unset, .unset, .unset, .unset, .unset, .unset, .unset, .unset]) rfl ?_
  refine H.lloadN s0_31 rfl ?_
  refine H.iloadN s0_32 rfl ?_
  refine H.iconst s0_33 (v := (4 : Int32)) (by decide) ?_
  refine H.callSD s0_34 (k_13 hw) (m_pick l hw n0 [] p0 p1 (4 : Int32)) (argsL := [(.long p0), (.int p1), (.int (4 : Int32))]) (rest := []) rfl rfl rfl rfl (leb rfl) (leb rfl) (leb rfl) (leb rfl) (st' := [(.long b4)]) (by rw [hb4]; rfl) (k' := 0) rfl (n' := 0) rfl ?_
  refine H.lstore s0_37 (ls' := #[.val (.long p0), .second, .val (.int p1), .val (.long b0), .second, .val (.long b1), .second, .val (.long b2), .second, .val (.long b3), .second, .val (.long b4), .second, .unset, .unset, .unset, .unset, .unset, .unset, .unset, .unset, .unset, .unset, .unset, .unset, .unset, .unset, .unset, .unset, .unset, .unset, .unset, .unset, .unset]) rfl ?_
  refine H.lloadN s0_39 rfl ?_
  refine H.iloadN s0_40 rfl ?_
  refine H.iconst s0_41 (v := (5 : Int32)) (by decide) ?_
  refine H.callSD s0_42 (k_13 hw) (m_pick l hw n0 [] p0 p1 (5 : Int32)) (argsL := [(.long p0), (.int p1), (.int (5 : Int32))]) (rest := []) rfl rfl rfl rfl (leb rfl) (leb rfl) (leb rfl) (leb rfl) (st' := [(.long b5)]) (by rw [hb5]; rfl) (k' := 0) rfl (n' := 0) rfl ?_
  refine H.lstore s0_45 (ls' := #[.val (.long p0), .second, .val (.int p1), .val (.long b0), .second, .val (.long b1), .second, .val (.long b2), .second, .val (.long b3), .second, .val (.long b4), .second, .val (.long b5), .second, .unset, .unset, .unset, .unset, .unset, .unset, .unset, .unset, .unset, .unset, .unset, .unset, .unset, .unset, .unset, .unset, .unset, .unset, .unset]) rfl ?_
  refine H.lloadN s0_47 rfl ?_
  refine H.iloadN s0_48 rfl ?_
  refine H.bipush s0_49 (v := (6 : Int32)) (by decide) ?_
  refine H.callSD s0_51 (k_13 hw) (m_pick l hw n0 [] p0 p1 (6 : Int32)) (argsL := [(.long p0), (.int p1), (.int (6 : Int32))]) (rest := []) rfl rfl rfl rfl (leb rfl) (leb rfl) (leb rfl) (leb rfl) (st' := [(.long b6)]) (by rw [hb6]; rfl) (k' := 0) rfl (n' := 0) rfl ?_
  refine H.lstore s0_54 (ls' := #[.val (.long p0), .second, .val (.int p1), .val (.long b0), .second, .val (.long b1), .second, .val (.long b2), .second, .val (.long b3), .second, .val (.long b4), .second, .val (.long b5), .second, .val (.long b6), .second, .unset, .unset, .unset, .unset, .unset, .unset, .unset, .unset, .unset, .unset, .unset, .unset, .unset, .unset, .unset, .unset, .unset]) rfl ?_
  refine H.lloadN s0_56 rfl ?_
  refine H.iloadN s0_57 rfl ?_
  refine H.bipush s0_58 (v := (7 : Int32)) (by decide) ?_
  refine H.callSD s0_60 (k_13 hw) (m_pick l hw n0 [] p0 p1 (7 : Int32)) (argsL := [(.long p0), (.int p1), (.int (7 : Int32))]) (rest := []) rfl rfl rfl rfl (leb rfl) (leb rfl) (leb rfl) (leb rfl) (st' := [(.long b7)]) (by rw [hb7]; rfl) (k' := 0) rfl (n' := 0) rfl ?_
  refine H.lstore s0_63 (ls' := #[.val (.long p0), .second, .val (.int p1), .val (.long b0), .second, .val (.long b1), .second, .val (.long b2), .second, .val (.long b3), .second, .val (.long b4), .second, .val (.long b5), .second, .val (.long b6), .second, .val (.long b7), .second, .unset, .unset, .unset, .unset, .unset, .unset, .unset, .unset, .unset, .unset, .unset, .unset, .unset, .unset, .unset]) rfl ?_
  refine H.lloadN s0_65 rfl ?_
  refine H.lload s0_66 rfl ?_
  refine H.bipush s0_68 (v := (8 : Int32)) (by decide) ?_
  obtain ⟨v70, hv70⟩ : ∃ z, z = (b1 <<< ((8 : Int32) &&& 0x3f).toInt64) := ⟨_, rfl⟩
  have f_v70 : v70.toInt = b1.toInt * 256 := by rw [hv70]; exact own_shl 8 256 (by decide) (by decide) rfl (by omega)
  refine H.lshl s0_70 hv70.symm ?_
  obtain ⟨v71, hv71⟩ : ∃ z, z = (b0 ||| v70) := ⟨_, rfl⟩
  have f_v71 : v71.toInt = b0.toInt + v70.toInt := by rw [hv71]; exact own_or 8 (by decide) 256 (by decide) rfl rfl (by omega) (by omega) (by omega) (by omega)
  refine H.lor s0_71 hv71.symm ?_
  refine H.lload s0_72 rfl ?_
  refine H.bipush s0_74 (v := (16 : Int32)) (by decide) ?_
  obtain ⟨v76, hv76⟩ : ∃ z, z = (b2 <<< ((16 : Int32) &&& 0x3f).toInt64) := ⟨_, rfl⟩
  have f_v76 : v76.toInt = b2.toInt * 65536 := by rw [hv76]; exact own_shl 16 65536 (by decide) (by decide) rfl (by omega)
  refine H.lshl s0_76 hv76.symm ?_
  obtain ⟨v77, hv77⟩ : ∃ z, z = (v71 ||| v76) := ⟨_, rfl⟩
  have f_v77 : v77.toInt = v71.toInt + v76.toInt := by rw [hv77]; exact own_or 16 (by decide) 65536 (by decide) rfl rfl (by omega) (by omega) (by omega) (by omega)
  refine H.lor s0_77 hv77.symm ?_
  refine H.lload s0_78 rfl ?_
  refine H.bipush s0_80 (v := (24 : Int32)) (by decide) ?_
  obtain ⟨v82, hv82⟩ : ∃ z, z = (b3 <<< ((24 : Int32) &&& 0x3f).toInt64) := ⟨_, rfl⟩
  have f_v82 : v82.toInt = b3.toInt * 16777216 := by rw [hv82]; exact own_shl 24 16777216 (by decide) (by decide) rfl (by omega)
  refine H.lshl s0_82 hv82.symm ?_
  obtain ⟨v83, hv83⟩ : ∃ z, z = (v77 ||| v82) := ⟨_, rfl⟩
  have f_v83 : v83.toInt = v77.toInt + v82.toInt := by rw [hv83]; exact own_or 24 (by decide) 16777216 (by decide) rfl rfl (by omega) (by omega) (by omega) (by omega)
  refine H.lor s0_83 hv83.symm ?_
  refine H.lload s0_84 rfl ?_
  refine H.bipush s0_86 (v := (32 : Int32)) (by decide) ?_
  obtain ⟨v88, hv88⟩ : ∃ z, z = (b4 <<< ((32 : Int32) &&& 0x3f).toInt64) := ⟨_, rfl⟩
  have f_v88 : v88.toInt = b4.toInt * 4294967296 := by rw [hv88]; exact own_shl 32 4294967296 (by decide) (by decide) rfl (by omega)
  refine H.lshl s0_88 hv88.symm ?_
  obtain ⟨v89, hv89⟩ : ∃ z, z = (v83 ||| v88) := ⟨_, rfl⟩
  have f_v89 : v89.toInt = v83.toInt + v88.toInt := by rw [hv89]; exact own_or 32 (by decide) 4294967296 (by decide) rfl rfl (by omega) (by omega) (by omega) (by omega)
  refine H.lor s0_89 hv89.symm ?_
  refine H.lload s0_90 rfl ?_
  refine H.bipush s0_92 (v := (40 : Int32)) (by decide) ?_
  obtain ⟨v94, hv94⟩ : ∃ z, z = (b5 <<< ((40 : Int32) &&& 0x3f).toInt64) := ⟨_, rfl⟩
  have f_v94 : v94.toInt = b5.toInt * 1099511627776 := by rw [hv94]; exact own_shl 40 1099511627776 (by decide) (by decide) rfl (by omega)
  refine H.lshl s0_94 hv94.symm ?_
  obtain ⟨v95, hv95⟩ : ∃ z, z = (v89 ||| v94) := ⟨_, rfl⟩
  have f_v95 : v95.toInt = v89.toInt + v94.toInt := by rw [hv95]; exact own_or 40 (by decide) 1099511627776 (by decide) rfl rfl (by omega) (by omega) (by omega) (by omega)
  refine H.lor s0_95 hv95.symm ?_
  refine H.lload s0_96 rfl ?_
  refine H.bipush s0_98 (v := (48 : Int32)) (by decide) ?_
  obtain ⟨v100, hv100⟩ : ∃ z, z = (b6 <<< ((48 : Int32) &&& 0x3f).toInt64) := ⟨_, rfl⟩
  have f_v100 : v100.toInt = b6.toInt * 281474976710656 := by rw [hv100]; exact own_shl 48 281474976710656 (by decide) (by decide) rfl (by omega)
  refine H.lshl s0_100 hv100.symm ?_
  obtain ⟨v101, hv101⟩ : ∃ z, z = (v95 ||| v100) := ⟨_, rfl⟩
  have f_v101 : v101.toInt = v95.toInt + v100.toInt := by rw [hv101]; exact own_or 48 (by decide) 281474976710656 (by decide) rfl rfl (by omega) (by omega) (by omega) (by omega)
  refine H.lor s0_101 hv101.symm ?_
  refine H.lload s0_102 rfl ?_
  refine H.bipush s0_104 (v := (56 : Int32)) (by decide) ?_
  obtain ⟨v106, hv106⟩ : ∃ z, z = (b7 <<< ((56 : Int32) &&& 0x3f).toInt64) := ⟨_, rfl⟩
  have f_v106 := c_lshl b7 56 56 (by decide)
  rw [← hv106] at f_v106
  refine H.lshl s0_106 hv106.symm ?_
  obtain ⟨wd, hwd⟩ : ∃ z, z = (v101 ||| v106) := ⟨_, rfl⟩
  have f_wd := c_orL' v101 v106 56 (by decide) 72057594037927936 (by decide) (by omega) (by omega) (by omega)
  rw [← hwd] at f_wd
  have f_W : (wd.toBitVec.toNat : Int) = b0.toInt * 1 + b1.toInt * 256 + b2.toInt * 65536 + b3.toInt * 16777216 + b4.toInt * 4294967296 + b5.toInt * 1099511627776 + b6.toInt * 281474976710656 + b7.toInt * 72057594037927936 := own_W (by omega) (by omega)
  have y0 : own_by wd.toBitVec.toNat 0 = b0.toInt.toNat := by
    show wd.toBitVec.toNat / 1 % 256 = _
    omega
  have q0 := own_spg hs0 g0.1 y0
  have y1 : own_by wd.toBitVec.toNat 1 = b1.toInt.toNat := by
    show wd.toBitVec.toNat / 256 % 256 = _
    omega
  have q1 := own_spg hs1 g1.1 y1
  have y2 : own_by wd.toBitVec.toNat 2 = b2.toInt.toNat := by
    show wd.toBitVec.toNat / 65536 % 256 = _
    omega
  have q2 := own_spg hs2 g2.1 y2
  have y3 : own_by wd.toBitVec.toNat 3 = b3.toInt.toNat := by
    show wd.toBitVec.toNat / 16777216 % 256 = _
    omega
  have q3 := own_spg hs3 g3.1 y3
  have y4 : own_by wd.toBitVec.toNat 4 = b4.toInt.toNat := by
    show wd.toBitVec.toNat / 4294967296 % 256 = _
    omega
  have q4 := own_spg hs4 g4.1 y4
  have y5 : own_by wd.toBitVec.toNat 5 = b5.toInt.toNat := by
    show wd.toBitVec.toNat / 1099511627776 % 256 = _
    omega
  have q5 := own_spg hs5 g5.1 y5
  have y6 : own_by wd.toBitVec.toNat 6 = b6.toInt.toNat := by
    show wd.toBitVec.toNat / 281474976710656 % 256 = _
    omega
  have q6 := own_spg hs6 g6.1 y6
  have y7 : own_by wd.toBitVec.toNat 7 = b7.toInt.toNat := by
    show wd.toBitVec.toNat / 72057594037927936 % 256 = _
    omega
  have q7 := own_spg hs7 g7.1 y7
  refine H.lor s0_107 hwd.symm ?_
  refine H.lstore s0_108 (ls' := #[.val (.long p0), .second, .val (.int p1), .val (.long b0), .second, .val (.long b1), .second, .val (.long b2), .second, .val (.long b3), .second, .val (.long b4), .second, .val (.long b5), .second, .val (.long b6), .second, .val (.long b7), .second, .val (.long wd), .second, .unset, .unset, .unset, .unset, .unset, .unset, .unset, .unset, .unset, .unset, .unset, .unset, .unset]) rfl ?_
  refine H.lload s0_110 rfl ?_
  refine H.callSD s0_112 (k_14 hw) (m_esc l hw n0 [] wd) (argsL := [(.long wd)]) (rest := []) rfl rfl rfl rfl (leb rfl) (leb rfl) (leb rfl) (leb rfl) (st' := [(.long (own_E wd))]) rfl (k' := 0) rfl (n' := 0) rfl ?_
  refine H.lstore s0_115 (ls' := #[.val (.long p0), .second, .val (.int p1), .val (.long b0), .second, .val (.long b1), .second, .val (.long b2), .second, .val (.long b3), .second, .val (.long b4), .second, .val (.long b5), .second, .val (.long b6), .second, .val (.long b7), .second, .val (.long wd), .second, .val (.long (own_E wd)), .second, .unset, .unset, .unset, .unset, .unset, .unset, .unset, .unset, .unset, .unset, .unset]) rfl ?_
  refine H.lloadN s0_117 rfl ?_
  refine H.callSD s0_118 (k_15 hw) (m_spec l hw n0 [] b0) (argsL := [(.long b0)]) (rest := []) rfl rfl rfl rfl (leb rfl) (leb rfl) (leb rfl) (leb rfl) (st' := [(.int s0)]) (by rw [hs0]; rfl) (k' := 0) rfl (n' := 0) rfl ?_
  refine H.istore s0_121 (ls' := #[.val (.long p0), .second, .val (.int p1), .val (.long b0), .second, .val (.long b1), .second, .val (.long b2), .second, .val (.long b3), .second, .val (.long b4), .second, .val (.long b5), .second, .val (.long b6), .second, .val (.long b7), .second, .val (.long wd), .second, .val (.long (own_E wd)), .second, .val (.int s0), .unset, .unset, .unset, .unset, .unset, .unset, .unset, .unset, .unset, .unset]) rfl ?_
  refine H.lload s0_123 rfl ?_
  refine H.callSD s0_125 (k_15 hw) (m_spec l hw n0 [] b1) (argsL := [(.long b1)]) (rest := []) rfl rfl rfl rfl (leb rfl) (leb rfl) (leb rfl) (leb rfl) (st' := [(.int s1)]) (by rw [hs1]; rfl) (k' := 0) rfl (n' := 0) rfl ?_
  refine H.istore s0_128 (ls' := #[.val (.long p0), .second, .val (.int p1), .val (.long b0), .second, .val (.long b1), .second, .val (.long b2), .second, .val (.long b3), .second, .val (.long b4), .second, .val (.long b5), .second, .val (.long b6), .second, .val (.long b7), .second, .val (.long wd), .second, .val (.long (own_E wd)), .second, .val (.int s0), .val (.int s1), .unset, .unset, .unset, .unset, .unset, .unset, .unset, .unset, .unset]) rfl ?_
  refine H.lload s0_130 rfl ?_
  refine H.callSD s0_132 (k_15 hw) (m_spec l hw n0 [] b2) (argsL := [(.long b2)]) (rest := []) rfl rfl rfl rfl (leb rfl) (leb rfl) (leb rfl) (leb rfl) (st' := [(.int s2)]) (by rw [hs2]; rfl) (k' := 0) rfl (n' := 0) rfl ?_
  refine H.istore s0_135 (ls' := #[.val (.long p0), .second, .val (.int p1), .val (.long b0), .second, .val (.long b1), .second, .val (.long b2), .second, .val (.long b3), .second, .val (.long b4), .second, .val (.long b5), .second, .val (.long b6), .second, .val (.long b7), .second, .val (.long wd), .second, .val (.long (own_E wd)), .second, .val (.int s0), .val (.int s1), .val (.int s2), .unset, .unset, .unset, .unset, .unset, .unset, .unset, .unset]) rfl ?_
  refine H.lload s0_137 rfl ?_
  refine H.callSD s0_139 (k_15 hw) (m_spec l hw n0 [] b3) (argsL := [(.long b3)]) (rest := []) rfl rfl rfl rfl (leb rfl) (leb rfl) (leb rfl) (leb rfl) (st' := [(.int s3)]) (by rw [hs3]; rfl) (k' := 0) rfl (n' := 0) rfl ?_
  refine H.istore s0_142 (ls' := #[.val (.long p0), .second, .val (.int p1), .val (.long b0), .second, .val (.long b1), .second, .val (.long b2), .second, .val (.long b3), .second, .val (.long b4), .second, .val (.long b5), .second, .val (.long b6), .second, .val (.long b7), .second, .val (.long wd), .second, .val (.long (own_E wd)), .second, .val (.int s0), .val (.int s1), .val (.int s2), .val (.int s3), .unset, .unset, .unset, .unset, .unset, .unset, .unset]) rfl ?_
  refine H.lload s0_144 rfl ?_
  refine H.callSD s0_146 (k_15 hw) (m_spec l hw n0 [] b4) (argsL := [(.long b4)]) (rest := []) rfl rfl rfl rfl (leb rfl) (leb rfl) (leb rfl) (leb rfl) (st' := [(.int s4)]) (by rw [hs4]; rfl) (k' := 0) rfl (n' := 0) rfl ?_
  refine H.istore s0_149 (ls' := #[.val (.long p0), .second, .val (.int p1), .val (.long b0), .second, .val (.long b1), .second, .val (.long b2), .second, .val (.long b3), .second, .val (.long b4), .second, .val (.long b5), .second, .val (.long b6), .second, .val (.long b7), .second, .val (.long wd), .second, .val (.long (own_E wd)), .second, .val (.int s0), .val (.int s1), .val (.int s2), .val (.int s3), .val (.int s4), .unset, .unset, .unset, .unset, .unset, .unset]) rfl ?_
  refine H.lload s0_151 rfl ?_
  refine H.callSD s0_153 (k_15 hw) (m_spec l hw n0 [] b5) (argsL := [(.long b5)]) (rest := []) rfl rfl rfl rfl (leb rfl) (leb rfl) (leb rfl) (leb rfl) (st' := [(.int s5)]) (by rw [hs5]; rfl) (k' := 0) rfl (n' := 0) rfl ?_
  refine H.istore s0_156 (ls' := #[.val (.long p0), .second, .val (.int p1), .val (.long b0), .second, .val (.long b1), .second, .val (.long b2), .second, .val (.long b3), .second, .val (.long b4), .second, .val (.long b5), .second, .val (.long b6), .second, .val (.long b7), .second, .val (.long wd), .second, .val (.long (own_E wd)), .second, .val (.int s0), .val (.int s1), .val (.int s2), .val (.int s3), .val (.int s4), .val (.int s5), .unset, .unset, .unset, .unset, .unset]) rfl ?_
  refine H.lload s0_158 rfl ?_
  refine H.callSD s0_160 (k_15 hw) (m_spec l hw n0 [] b6) (argsL := [(.long b6)]) (rest := []) rfl rfl rfl rfl (leb rfl) (leb rfl) (leb rfl) (leb rfl) (st' := [(.int s6)]) (by rw [hs6]; rfl) (k' := 0) rfl (n' := 0) rfl ?_
  refine H.istore s0_163 (ls' := #[.val (.long p0), .second, .val (.int p1), .val (.long b0), .second, .val (.long b1), .second, .val (.long b2), .second, .val (.long b3), .second, .val (.long b4), .second, .val (.long b5), .second, .val (.long b6), .second, .val (.long b7), .second, .val (.long wd), .second, .val (.long (own_E wd)), .second, .val (.int s0), .val (.int s1), .val (.int s2), .val (.int s3), .val (.int s4), .val (.int s5), .val (.int s6), .unset, .unset, .unset, .unset]) rfl ?_
  refine H.lload s0_165 rfl ?_
  refine H.callSD s0_167 (k_15 hw) (m_spec l hw n0 [] b7) (argsL := [(.long b7)]) (rest := []) rfl rfl rfl rfl (leb rfl) (leb rfl) (leb rfl) (leb rfl) (st' := [(.int s7)]) (by rw [hs7]; rfl) (k' := 0) rfl (n' := 0) rfl ?_
  refine H.istore s0_170 (ls' := #[.val (.long p0), .second, .val (.int p1), .val (.long b0), .second, .val (.long b1), .second, .val (.long b2), .second, .val (.long b3), .second, .val (.long b4), .second, .val (.long b5), .second, .val (.long b6), .second, .val (.long b7), .second, .val (.long wd), .second, .val (.long (own_E wd)), .second, .val (.int s0), .val (.int s1), .val (.int s2), .val (.int s3), .val (.int s4), .val (.int s5), .val (.int s6), .val (.int s7), .unset, .unset, .unset]) rfl ?_
  refine H.lload s0_172 rfl ?_
  refine H.ldc2 s0_174 (k_16 hw) ?_
  refine H.land s0_177 rfl ?_
  refine H.lconst s0_178 (v := (0 : Int64)) (by decide) ?_
  refine H.lifT s0_179 s0_180 (own_E7 wd) ?_
  refine H.lload s0_185 rfl ?_
  refine H.iconst s0_187 (v := (0 : Int32)) (by decide) ?_
  refine H.iload s0_188 rfl ?_
  refine H.callSD s0_190 (k_17 hw) (m_mk0 l hw n0 [] (own_E wd) s0 (fun q => own_Eand1 wd 0 (by decide) (q0.1 q) _ (by decide))) (argsL := [(.long (own_E wd)), (.int (0 : Int32)), (.int s0)]) (rest := []) rfl rfl rfl rfl (leb rfl) (leb rfl) (leb rfl) (leb rfl) (st' := [(.int (1 : Int32))]) rfl (k' := 0) rfl (n' := 0) rfl ?_
  refine H.ifF s0_193 (show ¬ (1 : Int32) = (0 : Int32) by decide) ?_
  refine H.lload s0_196 rfl ?_
  refine H.iconst s0_198 (v := (1 : Int32)) (by decide) ?_
  refine H.iload s0_199 rfl ?_
  refine H.callSD s0_201 (k_17 hw) (m_mk1 l hw n0 [] (own_E wd) s1 (fun q => own_Eand1 wd 1 (by decide) (q1.1 q) _ (by decide))) (argsL := [(.long (own_E wd)), (.int (1 : Int32)), (.int s1)]) (rest := []) rfl rfl rfl rfl (leb rfl) (leb rfl) (leb rfl) (leb rfl) (st' := [(.int (1 : Int32))]) rfl (k' := 0) rfl (n' := 0) rfl ?_
  refine H.ifF s0_204 (show ¬ (1 : Int32) = (0 : Int32) by decide) ?_
  refine H.lload s0_207 rfl ?_
  refine H.iconst s0_209 (v := (2 : Int32)) (by decide) ?_
  refine H.iload s0_210 rfl ?_
  refine H.callSD s0_212 (k_17 hw) (m_mk2 l hw n0 [] (own_E wd) s2 (fun q => own_Eand1 wd 2 (by decide) (q2.1 q) _ (by decide))) (argsL := [(.long (own_E wd)), (.int (2 : Int32)), (.int s2)]) (rest := []) rfl rfl rfl rfl (leb rfl) (leb rfl) (leb rfl) (leb rfl) (st' := [(.int (1 : Int32))]) rfl (k' := 0) rfl (n' := 0) rfl ?_
  refine H.ifF s0_215 (show ¬ (1 : Int32) = (0 : Int32) by decide) ?_
  refine H.lload s0_218 rfl ?_
  refine H.iconst s0_220 (v := (3 : Int32)) (by decide) ?_
  refine H.iload s0_221 rfl ?_
  refine H.callSD s0_223 (k_17 hw) (m_mk3 l hw n0 [] (own_E wd) s3 (fun q => own_Eand1 wd 3 (by decide) (q3.1 q) _ (by decide))) (argsL := [(.long (own_E wd)), (.int (3 : Int32)), (.int s3)]) (rest := []) rfl rfl rfl rfl (leb rfl) (leb rfl) (leb rfl) (leb rfl) (st' := [(.int (1 : Int32))]) rfl (k' := 0) rfl (n' := 0) rfl ?_
  refine H.ifF s0_226 (show ¬ (1 : Int32) = (0 : Int32) by decide) ?_
  refine H.lload s0_229 rfl ?_
  refine H.iconst s0_231 (v := (4 : Int32)) (by decide) ?_
  refine H.iload s0_232 rfl ?_
  refine H.callSD s0_234 (k_17 hw) (m_mk4 l hw n0 [] (own_E wd) s4 (fun q => own_Eand1 wd 4 (by decide) (q4.1 q) _ (by decide))) (argsL := [(.long (own_E wd)), (.int (4 : Int32)), (.int s4)]) (rest := []) rfl rfl rfl rfl (leb rfl) (leb rfl) (leb rfl) (leb rfl) (st' := [(.int (1 : Int32))]) rfl (k' := 0) rfl (n' := 0) rfl ?_
  refine H.ifF s0_237 (show ¬ (1 : Int32) = (0 : Int32) by decide) ?_
  refine H.lload s0_240 rfl ?_
  refine H.iconst s0_242 (v := (5 : Int32)) (by decide) ?_
  refine H.iload s0_243 rfl ?_
  refine H.callSD s0_245 (k_17 hw) (m_mk5 l hw n0 [] (own_E wd) s5 (fun q => own_Eand1 wd 5 (by decide) (q5.1 q) _ (by decide))) (argsL := [(.long (own_E wd)), (.int (5 : Int32)), (.int s5)]) (rest := []) rfl rfl rfl rfl (leb rfl) (leb rfl) (leb rfl) (leb rfl) (st' := [(.int (1 : Int32))]) rfl (k' := 0) rfl (n' := 0) rfl ?_
  refine H.ifF s0_248 (show ¬ (1 : Int32) = (0 : Int32) by decide) ?_
  refine H.lload s0_251 rfl ?_
  refine H.bipush s0_253 (v := (6 : Int32)) (by decide) ?_
  refine H.iload s0_255 rfl ?_
  refine H.callSD s0_257 (k_17 hw) (m_mk6 l hw n0 [] (own_E wd) s6 (fun q => own_Eand1 wd 6 (by decide) (q6.1 q) _ (by decide))) (argsL := [(.long (own_E wd)), (.int (6 : Int32)), (.int s6)]) (rest := []) rfl rfl rfl rfl (leb rfl) (leb rfl) (leb rfl) (leb rfl) (st' := [(.int (1 : Int32))]) rfl (k' := 0) rfl (n' := 0) rfl ?_
  refine H.ifF s0_260 (show ¬ (1 : Int32) = (0 : Int32) by decide) ?_
  refine H.lload s0_263 rfl ?_
  refine H.bipush s0_265 (v := (7 : Int32)) (by decide) ?_
  refine H.iload s0_267 rfl ?_
  refine H.callSD s0_269 (k_17 hw) (m_mk7 l hw n0 [] (own_E wd) s7 (fun q => own_Eand1 wd 7 (by decide) (q7.1 q) _ (by decide))) (argsL := [(.long (own_E wd)), (.int (7 : Int32)), (.int s7)]) (rest := []) rfl rfl rfl rfl (leb rfl) (leb rfl) (leb rfl) (leb rfl) (st' := [(.int (1 : Int32))]) rfl (k' := 0) rfl (n' := 0) rfl ?_
  refine H.ifT s0_272 (show ¬ (1 : Int32) = (0 : Int32) by decide) ?_
  refine H.iload s0_277 rfl ?_
  refine H.ifS s0_279 (fun (c279 : s0 = (0 : Int32)) => ?_) (fun (c279 : ¬ s0 = (0 : Int32)) => ?_)
  · have d279 : s0.toInt = 0 := (i_eq rfl (by decide : (0 : Int32).toInt = 0)).mp c279
    refine H.iload s0_286 rfl ?_
    refine H.ifS s0_288 (fun (c288 : s1 = (0 : Int32)) => ?_) (fun (c288 : ¬ s1 = (0 : Int32)) => ?_)
    · have d288 : s1.toInt = 0 := (i_eq rfl (by decide : (0 : Int32).toInt = 0)).mp c288
      refine H.iload s0_295 rfl ?_
      refine H.ifS s0_297 (fun (c297 : s2 = (0 : Int32)) => ?_) (fun (c297 : ¬ s2 = (0 : Int32)) => ?_)
      · have d297 : s2.toInt = 0 := (i_eq rfl (by decide : (0 : Int32).toInt = 0)).mp c297
        refine H.iload s0_304 rfl ?_
        refine H.ifS s0_306 (fun (c306 : s3 = (0 : Int32)) => ?_) (fun (c306 : ¬ s3 = (0 : Int32)) => ?_)
        · have d306 : s3.toInt = 0 := (i_eq rfl (by decide : (0 : Int32).toInt = 0)).mp c306
          refine H.iload s0_313 rfl ?_
          refine H.ifS s0_315 (fun (c315 : s4 = (0 : Int32)) => ?_) (fun (c315 : ¬ s4 = (0 : Int32)) => ?_)
          · have d315 : s4.toInt = 0 := (i_eq rfl (by decide : (0 : Int32).toInt = 0)).mp c315
            refine H.iload s0_322 rfl ?_
            refine H.ifS s0_324 (fun (c324 : s5 = (0 : Int32)) => ?_) (fun (c324 : ¬ s5 = (0 : Int32)) => ?_)
            · have d324 : s5.toInt = 0 := (i_eq rfl (by decide : (0 : Int32).toInt = 0)).mp c324
              refine H.iload s0_331 rfl ?_
              refine H.ifS s0_333 (fun (c333 : s6 = (0 : Int32)) => ?_) (fun (c333 : ¬ s6 = (0 : Int32)) => ?_)
              · have d333 : s6.toInt = 0 := (i_eq rfl (by decide : (0 : Int32).toInt = 0)).mp c333
                refine H.iload s0_341 rfl ?_
                refine H.ifS s0_343 (fun (c343 : s7 = (0 : Int32)) => ?_) (fun (c343 : ¬ s7 = (0 : Int32)) => ?_)
                · have d343 : s7.toInt = 0 := (i_eq rfl (by decide : (0 : Int32).toInt = 0)).mp c343
                  refine H.bipush s0_351 (v := (8 : Int32)) (by decide) ?_
                  refine H.istore s0_353 (ls' := #[.val (.long p0), .second, .val (.int p1), .val (.long b0), .second, .val (.long b1), .second, .val (.long b2), .second, .val (.long b3), .second, .val (.long b4), .second, .val (.long b5), .second, .val (.long b6), .second, .val (.long b7), .second, .val (.long wd), .second, .val (.long (own_E wd)), .second, .val (.int s0), .val (.int s1), .val (.int s2), .val (.int s3), .val (.int s4), .val (.int s5), .val (.int s6), .val (.int s7), .val (.int (8 : Int32)), .unset, .unset]) rfl ?_
                  refine H.iload s0_355 rfl ?_
                  refine H.bipush s0_357 (v := (8 : Int32)) (by decide) ?_
                  refine H.icmpF s0_359 (show (8 : Int32) = (8 : Int32) by decide) ?_
                  refine H.lload s0_362 rfl ?_
                  refine H.lconst s0_364 (v := (0 : Int64)) (by decide) ?_
                  refine H.lifF s0_365 s0_366 (own_Enone wd (fun j hj => match j, hj with | 0, _ => q0.2 c279 | 1, _ => q1.2 c288 | 2, _ => q2.2 c297 | 3, _ => q3.2 c306 | 4, _ => q4.2 c315 | 5, _ => q5.2 c324 | 6, _ => q6.2 c333 | 7, _ => q7.2 c343)) ?_
                  refine H.iconst s0_369 (v := (1 : Int32)) (by decide) ?_
                  refine H.goto s0_370 ?_
                  exact H.ireturn s0_374 rfl (by simp) rfl rfl (by decide) (by decide)
                · have d343 : ¬ s7.toInt = 0 := (i_ne rfl (by decide : (0 : Int32).toInt = 0)).mp c343
                  refine H.bipush s0_346 (v := (7 : Int32)) (by decide) ?_
                  refine H.goto s0_348 ?_
                  refine H.istore s0_353 (ls' := #[.val (.long p0), .second, .val (.int p1), .val (.long b0), .second, .val (.long b1), .second, .val (.long b2), .second, .val (.long b3), .second, .val (.long b4), .second, .val (.long b5), .second, .val (.long b6), .second, .val (.long b7), .second, .val (.long wd), .second, .val (.long (own_E wd)), .second, .val (.int s0), .val (.int s1), .val (.int s2), .val (.int s3), .val (.int s4), .val (.int s5), .val (.int s6), .val (.int s7), .val (.int (7 : Int32)), .unset, .unset]) rfl ?_
                  refine H.iload s0_355 rfl ?_
                  refine H.bipush s0_357 (v := (8 : Int32)) (by decide) ?_
                  refine H.icmpT s0_359 (show ¬ (7 : Int32) = (8 : Int32) by decide) ?_
                  refine H.lconst s0_375 (v := (1 : Int64)) (by decide) ?_
                  refine H.bipush s0_376 (v := (8 : Int32)) (by decide) ?_
                  refine H.iload s0_378 rfl ?_
                  refine H.imul s0_380 (w := (56 : Int32)) (by decide) ?_
                  refine H.bipush s0_381 (v := (7 : Int32)) (by decide) ?_
                  refine H.iadd s0_383 (w := (63 : Int32)) (by decide) ?_
                  refine H.lshl s0_384 (w := (-9223372036854775808 : Int64)) (by decide) ?_
                  refine H.lstore s0_385 (ls' := #[.val (.long p0), .second, .val (.int p1), .val (.long b0), .second, .val (.long b1), .second, .val (.long b2), .second, .val (.long b3), .second, .val (.long b4), .second, .val (.long b5), .second, .val (.long b6), .second, .val (.long b7), .second, .val (.long wd), .second, .val (.long (own_E wd)), .second, .val (.int s0), .val (.int s1), .val (.int s2), .val (.int s3), .val (.int s4), .val (.int s5), .val (.int s6), .val (.int s7), .val (.int (7 : Int32)), .val (.long (-9223372036854775808 : Int64)), .second]) rfl ?_
                  refine H.lload s0_387 rfl ?_
                  refine H.lload s0_389 rfl ?_
                  refine H.lconst s0_391 (v := (1 : Int64)) (by decide) ?_
                  refine H.lsub s0_392 (w := (9223372036854775807 : Int64)) (by decide) ?_
                  refine H.land s0_393 rfl ?_
                  refine H.lconst s0_394 (v := (0 : Int64)) (by decide) ?_
                  refine H.lifF s0_395 s0_396 (own_Eand0 wd 7 (by decide) (fun j hj => match j, hj with | 0, _ => q0.2 c279 | 1, _ => q1.2 c288 | 2, _ => q2.2 c297 | 3, _ => q3.2 c306 | 4, _ => q4.2 c315 | 5, _ => q5.2 c324 | 6, _ => q6.2 c333) _ (by decide +kernel)) ?_
                  refine H.lload s0_399 rfl ?_
                  refine H.lload s0_401 rfl ?_
                  refine H.land s0_403 rfl ?_
                  refine H.lconst s0_404 (v := (0 : Int64)) (by decide) ?_
                  refine H.lifF s0_405 s0_406 (own_Eand1 wd 7 (by decide) (q7.1 c343) _ (by decide)) ?_
                  refine H.iconst s0_409 (v := (1 : Int32)) (by decide) ?_
                  refine H.goto s0_410 ?_
                  exact H.ireturn s0_414 rfl (by simp) rfl rfl (by decide) (by decide)
              · have d333 : ¬ s6.toInt = 0 := (i_ne rfl (by decide : (0 : Int32).toInt = 0)).mp c333
                refine H.bipush s0_336 (v := (6 : Int32)) (by decide) ?_
                refine H.goto s0_338 ?_
                refine H.istore s0_353 (ls' := #[.val (.long p0), .second, .val (.int p1), .val (.long b0), .second, .val (.long b1), .second, .val (.long b2), .second, .val (.long b3), .second, .val (.long b4), .second, .val (.long b5), .second, .val (.long b6), .second, .val (.long b7), .second, .val (.long wd), .second, .val (.long (own_E wd)), .second, .val (.int s0), .val (.int s1), .val (.int s2), .val (.int s3), .val (.int s4), .val (.int s5), .val (.int s6), .val (.int s7), .val (.int (6 : Int32)), .unset, .unset]) rfl ?_
                refine H.iload s0_355 rfl ?_
                refine H.bipush s0_357 (v := (8 : Int32)) (by decide) ?_
                refine H.icmpT s0_359 (show ¬ (6 : Int32) = (8 : Int32) by decide) ?_
                refine H.lconst s0_375 (v := (1 : Int64)) (by decide) ?_
                refine H.bipush s0_376 (v := (8 : Int32)) (by decide) ?_
                refine H.iload s0_378 rfl ?_
                refine H.imul s0_380 (w := (48 : Int32)) (by decide) ?_
                refine H.bipush s0_381 (v := (7 : Int32)) (by decide) ?_
                refine H.iadd s0_383 (w := (55 : Int32)) (by decide) ?_
                refine H.lshl s0_384 (w := (36028797018963968 : Int64)) (by decide) ?_
                refine H.lstore s0_385 (ls' := #[.val (.long p0), .second, .val (.int p1), .val (.long b0), .second, .val (.long b1), .second, .val (.long b2), .second, .val (.long b3), .second, .val (.long b4), .second, .val (.long b5), .second, .val (.long b6), .second, .val (.long b7), .second, .val (.long wd), .second, .val (.long (own_E wd)), .second, .val (.int s0), .val (.int s1), .val (.int s2), .val (.int s3), .val (.int s4), .val (.int s5), .val (.int s6), .val (.int s7), .val (.int (6 : Int32)), .val (.long (36028797018963968 : Int64)), .second]) rfl ?_
                refine H.lload s0_387 rfl ?_
                refine H.lload s0_389 rfl ?_
                refine H.lconst s0_391 (v := (1 : Int64)) (by decide) ?_
                refine H.lsub s0_392 (w := (36028797018963967 : Int64)) (by decide) ?_
                refine H.land s0_393 rfl ?_
                refine H.lconst s0_394 (v := (0 : Int64)) (by decide) ?_
                refine H.lifF s0_395 s0_396 (own_Eand0 wd 6 (by decide) (fun j hj => match j, hj with | 0, _ => q0.2 c279 | 1, _ => q1.2 c288 | 2, _ => q2.2 c297 | 3, _ => q3.2 c306 | 4, _ => q4.2 c315 | 5, _ => q5.2 c324) _ (by decide +kernel)) ?_
                refine H.lload s0_399 rfl ?_
                refine H.lload s0_401 rfl ?_
                refine H.land s0_403 rfl ?_
                refine H.lconst s0_404 (v := (0 : Int64)) (by decide) ?_
                refine H.lifF s0_405 s0_406 (own_Eand1 wd 6 (by decide) (q6.1 c333) _ (by decide)) ?_
                refine H.iconst s0_409 (v := (1 : Int32)) (by decide) ?_
                refine H.goto s0_410 ?_
                exact H.ireturn s0_414 rfl (by simp) rfl rfl (by decide) (by decide)
            · have d324 : ¬ s5.toInt = 0 := (i_ne rfl (by decide : (0 : Int32).toInt = 0)).mp c324
              refine H.iconst s0_327 (v := (5 : Int32)) (by decide) ?_
              refine H.goto s0_328 ?_
              refine H.istore s0_353 (ls' := #[.val (.long p0), .second, .val (.int p1), .val (.long b0), .second, .val (.long b1), .second, .val (.long b2), .second, .val (.long b3), .second, .val (.long b4), .second, .val (.long b5), .second, .val (.long b6), .second, .val (.long b7), .second, .val (.long wd), .second, .val (.long (own_E wd)), .second, .val (.int s0), .val (.int s1), .val (.int s2), .val (.int s3), .val (.int s4), .val (.int s5), .val (.int s6), .val (.int s7), .val (.int (5 : Int32)), .unset, .unset]) rfl ?_
              refine H.iload s0_355 rfl ?_
              refine H.bipush s0_357 (v := (8 : Int32)) (by decide) ?_
              refine H.icmpT s0_359 (show ¬ (5 : Int32) = (8 : Int32) by decide) ?_
              refine H.lconst s0_375 (v := (1 : Int64)) (by decide) ?_
              refine H.bipush s0_376 (v := (8 : Int32)) (by decide) ?_
              refine H.iload s0_378 rfl ?_
              refine H.imul s0_380 (w := (40 : Int32)) (by decide) ?_
              refine H.bipush s0_381 (v := (7 : Int32)) (by decide) ?_
              refine H.iadd s0_383 (w := (47 : Int32)) (by decide) ?_
              refine H.lshl s0_384 (w := (140737488355328 : Int64)) (by decide) ?_
              refine H.lstore s0_385 (ls' := #[.val (.long p0), .second, .val (.int p1), .val (.long b0), .second, .val (.long b1), .second, .val (.long b2), .second, .val (.long b3), .second, .val (.long b4), .second, .val (.long b5), .second, .val (.long b6), .second, .val (.long b7), .second, .val (.long wd), .second, .val (.long (own_E wd)), .second, .val (.int s0), .val (.int s1), .val (.int s2), .val (.int s3), .val (.int s4), .val (.int s5), .val (.int s6), .val (.int s7), .val (.int (5 : Int32)), .val (.long (140737488355328 : Int64)), .second]) rfl ?_
              refine H.lload s0_387 rfl ?_
              refine H.lload s0_389 rfl ?_
              refine H.lconst s0_391 (v := (1 : Int64)) (by decide) ?_
              refine H.lsub s0_392 (w := (140737488355327 : Int64)) (by decide) ?_
              refine H.land s0_393 rfl ?_
              refine H.lconst s0_394 (v := (0 : Int64)) (by decide) ?_
              refine H.lifF s0_395 s0_396 (own_Eand0 wd 5 (by decide) (fun j hj => match j, hj with | 0, _ => q0.2 c279 | 1, _ => q1.2 c288 | 2, _ => q2.2 c297 | 3, _ => q3.2 c306 | 4, _ => q4.2 c315) _ (by decide +kernel)) ?_
              refine H.lload s0_399 rfl ?_
              refine H.lload s0_401 rfl ?_
              refine H.land s0_403 rfl ?_
              refine H.lconst s0_404 (v := (0 : Int64)) (by decide) ?_
              refine H.lifF s0_405 s0_406 (own_Eand1 wd 5 (by decide) (q5.1 c324) _ (by decide)) ?_
              refine H.iconst s0_409 (v := (1 : Int32)) (by decide) ?_
              refine H.goto s0_410 ?_
              exact H.ireturn s0_414 rfl (by simp) rfl rfl (by decide) (by decide)
          · have d315 : ¬ s4.toInt = 0 := (i_ne rfl (by decide : (0 : Int32).toInt = 0)).mp c315
            refine H.iconst s0_318 (v := (4 : Int32)) (by decide) ?_
            refine H.goto s0_319 ?_
            refine H.istore s0_353 (ls' := #[.val (.long p0), .second, .val (.int p1), .val (.long b0), .second, .val (.long b1), .second, .val (.long b2), .second, .val (.long b3), .second, .val (.long b4), .second, .val (.long b5), .second, .val (.long b6), .second, .val (.long b7), .second, .val (.long wd), .second, .val (.long (own_E wd)), .second, .val (.int s0), .val (.int s1), .val (.int s2), .val (.int s3), .val (.int s4), .val (.int s5), .val (.int s6), .val (.int s7), .val (.int (4 : Int32)), .unset, .unset]) rfl ?_
            refine H.iload s0_355 rfl ?_
            refine H.bipush s0_357 (v := (8 : Int32)) (by decide) ?_
            refine H.icmpT s0_359 (show ¬ (4 : Int32) = (8 : Int32) by decide) ?_
            refine H.lconst s0_375 (v := (1 : Int64)) (by decide) ?_
            refine H.bipush s0_376 (v := (8 : Int32)) (by decide) ?_
            refine H.iload s0_378 rfl ?_
            refine H.imul s0_380 (w := (32 : Int32)) (by decide) ?_
            refine H.bipush s0_381 (v := (7 : Int32)) (by decide) ?_
            refine H.iadd s0_383 (w := (39 : Int32)) (by decide) ?_
            refine H.lshl s0_384 (w := (549755813888 : Int64)) (by decide) ?_
            refine H.lstore s0_385 (ls' := #[.val (.long p0), .second, .val (.int p1), .val (.long b0), .second, .val (.long b1), .second, .val (.long b2), .second, .val (.long b3), .second, .val (.long b4), .second, .val (.long b5), .second, .val (.long b6), .second, .val (.long b7), .second, .val (.long wd), .second, .val (.long (own_E wd)), .second, .val (.int s0), .val (.int s1), .val (.int s2), .val (.int s3), .val (.int s4), .val (.int s5), .val (.int s6), .val (.int s7), .val (.int (4 : Int32)), .val (.long (549755813888 : Int64)), .second]) rfl ?_
            refine H.lload s0_387 rfl ?_
            refine H.lload s0_389 rfl ?_
            refine H.lconst s0_391 (v := (1 : Int64)) (by decide) ?_
            refine H.lsub s0_392 (w := (549755813887 : Int64)) (by decide) ?_
            refine H.land s0_393 rfl ?_
            refine H.lconst s0_394 (v := (0 : Int64)) (by decide) ?_
            refine H.lifF s0_395 s0_396 (own_Eand0 wd 4 (by decide) (fun j hj => match j, hj with | 0, _ => q0.2 c279 | 1, _ => q1.2 c288 | 2, _ => q2.2 c297 | 3, _ => q3.2 c306) _ (by decide +kernel)) ?_
            refine H.lload s0_399 rfl ?_
            refine H.lload s0_401 rfl ?_
            refine H.land s0_403 rfl ?_
            refine H.lconst s0_404 (v := (0 : Int64)) (by decide) ?_
            refine H.lifF s0_405 s0_406 (own_Eand1 wd 4 (by decide) (q4.1 c315) _ (by decide)) ?_
            refine H.iconst s0_409 (v := (1 : Int32)) (by decide) ?_
            refine H.goto s0_410 ?_
            exact H.ireturn s0_414 rfl (by simp) rfl rfl (by decide) (by decide)
        · have d306 : ¬ s3.toInt = 0 := (i_ne rfl (by decide : (0 : Int32).toInt = 0)).mp c306
          refine H.iconst s0_309 (v := (3 : Int32)) (by decide) ?_
          refine H.goto s0_310 ?_
          refine H.istore s0_353 (ls' := #[.val (.long p0), .second, .val (.int p1), .val (.long b0), .second, .val (.long b1), .second, .val (.long b2), .second, .val (.long b3), .second, .val (.long b4), .second, .val (.long b5), .second, .val (.long b6), .second, .val (.long b7), .second, .val (.long wd), .second, .val (.long (own_E wd)), .second, .val (.int s0), .val (.int s1), .val (.int s2), .val (.int s3), .val (.int s4), .val (.int s5), .val (.int s6), .val (.int s7), .val (.int (3 : Int32)), .unset, .unset]) rfl ?_
          refine H.iload s0_355 rfl ?_
          refine H.bipush s0_357 (v := (8 : Int32)) (by decide) ?_
          refine H.icmpT s0_359 (show ¬ (3 : Int32) = (8 : Int32) by decide) ?_
          refine H.lconst s0_375 (v := (1 : Int64)) (by decide) ?_
          refine H.bipush s0_376 (v := (8 : Int32)) (by decide) ?_
          refine H.iload s0_378 rfl ?_
          refine H.imul s0_380 (w := (24 : Int32)) (by decide) ?_
          refine H.bipush s0_381 (v := (7 : Int32)) (by decide) ?_
          refine H.iadd s0_383 (w := (31 : Int32)) (by decide) ?_
          refine H.lshl s0_384 (w := (2147483648 : Int64)) (by decide) ?_
          refine H.lstore s0_385 (ls' := #[.val (.long p0), .second, .val (.int p1), .val (.long b0), .second, .val (.long b1), .second, .val (.long b2), .second, .val (.long b3), .second, .val (.long b4), .second, .val (.long b5), .second, .val (.long b6), .second, .val (.long b7), .second, .val (.long wd), .second, .val (.long (own_E wd)), .second, .val (.int s0), .val (.int s1), .val (.int s2), .val (.int s3), .val (.int s4), .val (.int s5), .val (.int s6), .val (.int s7), .val (.int (3 : Int32)), .val (.long (2147483648 : Int64)), .second]) rfl ?_
          refine H.lload s0_387 rfl ?_
          refine H.lload s0_389 rfl ?_
          refine H.lconst s0_391 (v := (1 : Int64)) (by decide) ?_
          refine H.lsub s0_392 (w := (2147483647 : Int64)) (by decide) ?_
          refine H.land s0_393 rfl ?_
          refine H.lconst s0_394 (v := (0 : Int64)) (by decide) ?_
          refine H.lifF s0_395 s0_396 (own_Eand0 wd 3 (by decide) (fun j hj => match j, hj with | 0, _ => q0.2 c279 | 1, _ => q1.2 c288 | 2, _ => q2.2 c297) _ (by decide +kernel)) ?_
          refine H.lload s0_399 rfl ?_
          refine H.lload s0_401 rfl ?_
          refine H.land s0_403 rfl ?_
          refine H.lconst s0_404 (v := (0 : Int64)) (by decide) ?_
          refine H.lifF s0_405 s0_406 (own_Eand1 wd 3 (by decide) (q3.1 c306) _ (by decide)) ?_
          refine H.iconst s0_409 (v := (1 : Int32)) (by decide) ?_
          refine H.goto s0_410 ?_
          exact H.ireturn s0_414 rfl (by simp) rfl rfl (by decide) (by decide)
      · have d297 : ¬ s2.toInt = 0 := (i_ne rfl (by decide : (0 : Int32).toInt = 0)).mp c297
        refine H.iconst s0_300 (v := (2 : Int32)) (by decide) ?_
        refine H.goto s0_301 ?_
        refine H.istore s0_353 (ls' := #[.val (.long p0), .second, .val (.int p1), .val (.long b0), .second, .val (.long b1), .second, .val (.long b2), .second, .val (.long b3), .second, .val (.long b4), .second, .val (.long b5), .second, .val (.long b6), .second, .val (.long b7), .second, .val (.long wd), .second, .val (.long (own_E wd)), .second, .val (.int s0), .val (.int s1), .val (.int s2), .val (.int s3), .val (.int s4), .val (.int s5), .val (.int s6), .val (.int s7), .val (.int (2 : Int32)), .unset, .unset]) rfl ?_
        refine H.iload s0_355 rfl ?_
        refine H.bipush s0_357 (v := (8 : Int32)) (by decide) ?_
        refine H.icmpT s0_359 (show ¬ (2 : Int32) = (8 : Int32) by decide) ?_
        refine H.lconst s0_375 (v := (1 : Int64)) (by decide) ?_
        refine H.bipush s0_376 (v := (8 : Int32)) (by decide) ?_
        refine H.iload s0_378 rfl ?_
        refine H.imul s0_380 (w := (16 : Int32)) (by decide) ?_
        refine H.bipush s0_381 (v := (7 : Int32)) (by decide) ?_
        refine H.iadd s0_383 (w := (23 : Int32)) (by decide) ?_
        refine H.lshl s0_384 (w := (8388608 : Int64)) (by decide) ?_
        refine H.lstore s0_385 (ls' := #[.val (.long p0), .second, .val (.int p1), .val (.long b0), .second, .val (.long b1), .second, .val (.long b2), .second, .val (.long b3), .second, .val (.long b4), .second, .val (.long b5), .second, .val (.long b6), .second, .val (.long b7), .second, .val (.long wd), .second, .val (.long (own_E wd)), .second, .val (.int s0), .val (.int s1), .val (.int s2), .val (.int s3), .val (.int s4), .val (.int s5), .val (.int s6), .val (.int s7), .val (.int (2 : Int32)), .val (.long (8388608 : Int64)), .second]) rfl ?_
        refine H.lload s0_387 rfl ?_
        refine H.lload s0_389 rfl ?_
        refine H.lconst s0_391 (v := (1 : Int64)) (by decide) ?_
        refine H.lsub s0_392 (w := (8388607 : Int64)) (by decide) ?_
        refine H.land s0_393 rfl ?_
        refine H.lconst s0_394 (v := (0 : Int64)) (by decide) ?_
        refine H.lifF s0_395 s0_396 (own_Eand0 wd 2 (by decide) (fun j hj => match j, hj with | 0, _ => q0.2 c279 | 1, _ => q1.2 c288) _ (by decide +kernel)) ?_
        refine H.lload s0_399 rfl ?_
        refine H.lload s0_401 rfl ?_
        refine H.land s0_403 rfl ?_
        refine H.lconst s0_404 (v := (0 : Int64)) (by decide) ?_
        refine H.lifF s0_405 s0_406 (own_Eand1 wd 2 (by decide) (q2.1 c297) _ (by decide)) ?_
        refine H.iconst s0_409 (v := (1 : Int32)) (by decide) ?_
        refine H.goto s0_410 ?_
        exact H.ireturn s0_414 rfl (by simp) rfl rfl (by decide) (by decide)
    · have d288 : ¬ s1.toInt = 0 := (i_ne rfl (by decide : (0 : Int32).toInt = 0)).mp c288
      refine H.iconst s0_291 (v := (1 : Int32)) (by decide) ?_
      refine H.goto s0_292 ?_
      refine H.istore s0_353 (ls' := #[.val (.long p0), .second, .val (.int p1), .val (.long b0), .second, .val (.long b1), .second, .val (.long b2), .second, .val (.long b3), .second, .val (.long b4), .second, .val (.long b5), .second, .val (.long b6), .second, .val (.long b7), .second, .val (.long wd), .second, .val (.long (own_E wd)), .second, .val (.int s0), .val (.int s1), .val (.int s2), .val (.int s3), .val (.int s4), .val (.int s5), .val (.int s6), .val (.int s7), .val (.int (1 : Int32)), .unset, .unset]) rfl ?_
      refine H.iload s0_355 rfl ?_
      refine H.bipush s0_357 (v := (8 : Int32)) (by decide) ?_
      refine H.icmpT s0_359 (show ¬ (1 : Int32) = (8 : Int32) by decide) ?_
      refine H.lconst s0_375 (v := (1 : Int64)) (by decide) ?_
      refine H.bipush s0_376 (v := (8 : Int32)) (by decide) ?_
      refine H.iload s0_378 rfl ?_
      refine H.imul s0_380 (w := (8 : Int32)) (by decide) ?_
      refine H.bipush s0_381 (v := (7 : Int32)) (by decide) ?_
      refine H.iadd s0_383 (w := (15 : Int32)) (by decide) ?_
      refine H.lshl s0_384 (w := (32768 : Int64)) (by decide) ?_
      refine H.lstore s0_385 (ls' := #[.val (.long p0), .second, .val (.int p1), .val (.long b0), .second, .val (.long b1), .second, .val (.long b2), .second, .val (.long b3), .second, .val (.long b4), .second, .val (.long b5), .second, .val (.long b6), .second, .val (.long b7), .second, .val (.long wd), .second, .val (.long (own_E wd)), .second, .val (.int s0), .val (.int s1), .val (.int s2), .val (.int s3), .val (.int s4), .val (.int s5), .val (.int s6), .val (.int s7), .val (.int (1 : Int32)), .val (.long (32768 : Int64)), .second]) rfl ?_
      refine H.lload s0_387 rfl ?_
      refine H.lload s0_389 rfl ?_
      refine H.lconst s0_391 (v := (1 : Int64)) (by decide) ?_
      refine H.lsub s0_392 (w := (32767 : Int64)) (by decide) ?_
      refine H.land s0_393 rfl ?_
      refine H.lconst s0_394 (v := (0 : Int64)) (by decide) ?_
      refine H.lifF s0_395 s0_396 (own_Eand0 wd 1 (by decide) (fun j hj => match j, hj with | 0, _ => q0.2 c279) _ (by decide +kernel)) ?_
      refine H.lload s0_399 rfl ?_
      refine H.lload s0_401 rfl ?_
      refine H.land s0_403 rfl ?_
      refine H.lconst s0_404 (v := (0 : Int64)) (by decide) ?_
      refine H.lifF s0_405 s0_406 (own_Eand1 wd 1 (by decide) (q1.1 c288) _ (by decide)) ?_
      refine H.iconst s0_409 (v := (1 : Int32)) (by decide) ?_
      refine H.goto s0_410 ?_
      exact H.ireturn s0_414 rfl (by simp) rfl rfl (by decide) (by decide)
  · have d279 : ¬ s0.toInt = 0 := (i_ne rfl (by decide : (0 : Int32).toInt = 0)).mp c279
    refine H.iconst s0_282 (v := (0 : Int32)) (by decide) ?_
    refine H.goto s0_283 ?_
    refine H.istore s0_353 (ls' := #[.val (.long p0), .second, .val (.int p1), .val (.long b0), .second, .val (.long b1), .second, .val (.long b2), .second, .val (.long b3), .second, .val (.long b4), .second, .val (.long b5), .second, .val (.long b6), .second, .val (.long b7), .second, .val (.long wd), .second, .val (.long (own_E wd)), .second, .val (.int s0), .val (.int s1), .val (.int s2), .val (.int s3), .val (.int s4), .val (.int s5), .val (.int s6), .val (.int s7), .val (.int (0 : Int32)), .unset, .unset]) rfl ?_
    refine H.iload s0_355 rfl ?_
    refine H.bipush s0_357 (v := (8 : Int32)) (by decide) ?_
    refine H.icmpT s0_359 (show ¬ (0 : Int32) = (8 : Int32) by decide) ?_
    refine H.lconst s0_375 (v := (1 : Int64)) (by decide) ?_
    refine H.bipush s0_376 (v := (8 : Int32)) (by decide) ?_
    refine H.iload s0_378 rfl ?_
    refine H.imul s0_380 (w := (0 : Int32)) (by decide) ?_
    refine H.bipush s0_381 (v := (7 : Int32)) (by decide) ?_
    refine H.iadd s0_383 (w := (7 : Int32)) (by decide) ?_
    refine H.lshl s0_384 (w := (128 : Int64)) (by decide) ?_
    refine H.lstore s0_385 (ls' := #[.val (.long p0), .second, .val (.int p1), .val (.long b0), .second, .val (.long b1), .second, .val (.long b2), .second, .val (.long b3), .second, .val (.long b4), .second, .val (.long b5), .second, .val (.long b6), .second, .val (.long b7), .second, .val (.long wd), .second, .val (.long (own_E wd)), .second, .val (.int s0), .val (.int s1), .val (.int s2), .val (.int s3), .val (.int s4), .val (.int s5), .val (.int s6), .val (.int s7), .val (.int (0 : Int32)), .val (.long (128 : Int64)), .second]) rfl ?_
    refine H.lload s0_387 rfl ?_
    refine H.lload s0_389 rfl ?_
    refine H.lconst s0_391 (v := (1 : Int64)) (by decide) ?_
    refine H.lsub s0_392 (w := (127 : Int64)) (by decide) ?_
    refine H.land s0_393 rfl ?_
    refine H.lconst s0_394 (v := (0 : Int64)) (by decide) ?_
    refine H.lifF s0_395 s0_396 (own_Eand0 wd 0 (by decide) (fun j hj => absurd hj (by omega)) _ (by decide +kernel)) ?_
    refine H.lload s0_399 rfl ?_
    refine H.lload s0_401 rfl ?_
    refine H.land s0_403 rfl ?_
    refine H.lconst s0_404 (v := (0 : Int64)) (by decide) ?_
    refine H.lifF s0_405 s0_406 (own_Eand1 wd 0 (by decide) (q0.1 c279) _ (by decide)) ?_
    refine H.iconst s0_409 (v := (1 : Int32)) (by decide) ?_
    refine H.goto s0_410 ?_
    exact H.ireturn s0_414 rfl (by simp) rfl rfl (by decide) (by decide)

set_option maxRecDepth 65536 in
set_option maxHeartbeats 40000000 in
theorem comes_1 {Post : Tables → Env → Array Value → State → Outcome → State → Prop} (hpost : ∀ tb e args s v u, (limb_1_1.after args s (.returned v) u = true ∧ limb_1_2.after args s (.returned v) u = true ∧ True) → FrameEnd s (.returned v) u (Jvm.fieldLocs frame_1_writes args s ++ Jvm.arrayLocs frame_1_arrays args s ++ Jvm.staticLocs frame_1_statics s) 0 0 → Post tb e args s (.returned v) u) :
    ArmFor flags0 classFile x code maxLocals ret World_1 tables_1 room_1 Calls_1 rest_1 Pre_1 Post := by
  intro l hfl _ _ p e ha hc hk s m args below hf hA hF happ hP
  obtain ⟨hcalls, hrest, hpre⟩ := hP
  obtain ⟨-, -, -, hnamed, -, -, -, hat⟩ := (Spec.applies_iff hf).mp happ
  obtain ⟨hg, hn⟩ := and_e (Cond.before_iff.mp (show (Jvm.Cond.and given_1 narrow_1).before args s = true from hpre))
  obtain ⟨hc0, hr0⟩ := and_e hg
  obtain ⟨w0, w1, rfl⟩ : ∃ w0 w1 : Value, args = #[w0, w1] := by
    have hs : args.size = 2 := by simpa [Cond.value, given_1] using hc0
    obtain ⟨L⟩ := args
    match L, hs with
    | [w0, w1], _ => exact ⟨w0, w1, rfl⟩
  have hw : HW1 s _ := fun d (hd : d ∈ tables_1) => atoms_spec (ws := Jvm.Cond.code x code maxLocals ret :: tables_1) hat d (List.mem_cons_of_mem _ hd)
  obtain ⟨hx0, hr1⟩ := and_e hr0
  obtain ⟨i0, ee0⟩ := isL_v hx0
  obtain rfl : w0 = (.long i0) := Option.some.inj ee0
  have hx1 := hr1
  obtain ⟨i1, ee1⟩ := is_v hx1
  obtain rfl : w1 = (.int i1) := Option.some.inj ee1
  obtain ⟨n, o, h1, h2, h3, _, L, rfl, ⟨A', rfl, hRel, N⟩, hq⟩ := law_met l hw s.heap.size i0 i1 tables_1 s.heap ⟨rfl, fun i o h => by simp at h⟩ p e ha hc hk s m _ below hf ((Spec.applies_iff_loose hf).mp happ).1 ⟨rfl, State.Warmed39.refl s, rfl⟩ trivial
  refine ⟨n, _, h1, h2, h3, hpost _ _ _ _ _ _ ⟨Cond.after_iff.mpr rfl, Cond.after_iff.mpr (eq_i res_at (Term.int_eval (1)) rfl), trivial⟩ ⟨hq.1, hq.2.1, (hq.2.2.sift fun y hy => Or.inr (N y hy)).mono (by decide) (by decide)⟩⟩
theorem main_1_1 : Claimed_1_1 := comes_1 fun _ _ _ _ _ _ h hF => ⟨h.1, hF⟩
theorem main_1_2 : Claimed_1_2 := comes_1 fun _ _ _ _ _ _ h hF => ⟨h.2.1, hF⟩
end Jvm.Pilot.@@N@@
namespace Jvm.Pilot.@@N@@
open Jvm Jvm.ClassFile Sem Op Lib Jvm.Free Jvm.Stand Jvm.Pilot.@@N@@.Jvm.D
/-! MADE BY PROGRAM (witnessworld.py) out of the Statement's table words and the real class files: 9 classes; the members and pool entries that the words name. The judged class is class 1, her method 1. -/
namespace start1
open Jvm.ClassFile
def u (s : String) : CpInfo := .utf8 (stringToUtf16 s)
/-- a pool by its gaps: so many unusable entries, then the entry; so many at the end -/
def gap : Nat → List CpInfo → List CpInfo
  | 0, r => r
  | n + 1, r => .unusable :: gap n r
def poolList (es : List (Nat × CpInfo)) (last : Nat) : List CpInfo := es.foldr (fun e r => gap e.1 (e.2 :: r)) (gap last [])
def pool (es : List (Nat × CpInfo)) (last : Nat) : Array CpInfo := ⟨poolList es last⟩
def fileOf (pool : Array CpInfo) (this : Nat) (attrs : Array Attribute := #[]) (ms : Array MethodInfo := #[]) (fl : Nat := 33) (sup : Nat := 0) (ifs : Array Nat := #[]) (fds : Array FieldInfo := #[]) : ClassFile where
  minorVersion := 0
  majorVersion := 65
  constantPool := pool
  accessFlags := fl
  thisClass := this
  superClass := sup
  interfaces := ifs
  fields := fds
  methods := ms
  attributes := attrs
def plain (name : String) (sup : Option ClassId) : Class where
  name := name
  kind := .ordinary
  loader := none
  accessFlags := 33
  super := sup
  interfaces := #[]
  cf := none
  fields := #[]
  methods := #[]
  instanceTypes := #[]
  staticTypes := #[]
  resolved := #[]
  callSites := []
  init := .initialized
  statics := none
  mirror := none

def pool0 : Array CpInfo := pool [(5, u "<init>"), (0, u "()V"), (1, .class_ 10), (1, u "java/lang/Object")] 113

def k0m0 : Method := { name := "<init>", desc := "()V", sig := { parameters := [], returnType := none }, accessFlags := 1, code := none }
/-- java/lang/Object -/
def k0 : Class := { plain "java/lang/Object" none with
  accessFlags := 33
  interfaces := #[]
  cf := some (fileOf pool0 8 #[] #[{ accessFlags := 1, nameIndex := 5, descriptorIndex := 6, attributes := #[] }] 33 0 #[] #[])
  fields := #[]
  methods := #[k0m0]
  instanceTypes := #[]
  staticTypes := #[]
  resolved := Array.replicate 124 none
  statics := none }

def pool1 : Array CpInfo := pool [(2, .class_ 4), (1, u "java/lang/Object"), (0, u "<init>"), (0, u "()V"), (0, .methodref 8 9), (0, .class_ 10), (0, .nameAndType 11 12), (0, u "com/example/byteleaf/byteleaf/value/ByteWordsEscapedPinLaw"), (0, u "pick"), (0, u "(JII)J"), (0, .methodref 14 15), (0, .class_ 16), (0, .nameAndType 17 18), (0, u "com/example/byteleaf/byteleaf/value/ByteWords"), (0, u "escaped"), (0, u "(J)J"), (0, .methodref 8 20), (0, .nameAndType 21 22), (0, u "special"), (0, u "(J)Z"), (0, .long 9187201950435737471), (1, .methodref 8 26), (0, .nameAndType 27 28), (0, u "marked"), (0, u "(JIZ)Z"), (0, .long 255), (1, .long 34), (1, .long 92), (1, .long 31), (1, .long 32), (3, u "law"), (0, u "(JI)Z")] 3

def k1m0 : Method := { name := "<init>", desc := "()V", sig := { parameters := [], returnType := none }, accessFlags := 2, code := none }
def k1c1 : Code := { maxStack := 6, maxLocals := 34, code := code, exceptionTable := #[], attributes := #[] }
def k1m1 : Method := { name := "law", desc := "(JI)Z", sig := { parameters := [.long, .int], returnType := some .boolean }, accessFlags := 9, code := some k1c1 }
def k1c2 : Code := { maxStack := 4, maxLocals := 7, code := method_3_code, exceptionTable := #[], attributes := #[] }
def k1m2 : Method := { name := "pick", desc := "(JII)J", sig := { parameters := [.long, .int, .int], returnType := some .long }, accessFlags := 10, code := some k1c2 }
def k1c3 : Code := { maxStack := 4, maxLocals := 2, code := method_4_code, exceptionTable := #[], attributes := #[] }
def k1m3 : Method := { name := "special", desc := "(J)Z", sig := { parameters := [.long], returnType := some .boolean }, accessFlags := 10, code := some k1c3 }
def k1c4 : Code := { maxStack := 6, maxLocals := 4, code := method_5_code, exceptionTable := #[], attributes := #[] }
def k1m4 : Method := { name := "marked", desc := "(JIZ)Z", sig := { parameters := [.long, .int, .boolean], returnType := some .boolean }, accessFlags := 10, code := some k1c4 }
/-- com/example/byteleaf/byteleaf/value/ByteWordsEscapedPinLaw -/
def k1 : Class := { plain "com/example/byteleaf/byteleaf/value/ByteWordsEscapedPinLaw" (some 0) with
  accessFlags := 49
  interfaces := #[]
  cf := some (fileOf pool1 8 #[] #[{ accessFlags := 2, nameIndex := 5, descriptorIndex := 6, attributes := #[] }, { accessFlags := 9, nameIndex := 41, descriptorIndex := 42, attributes := #[] }, { accessFlags := 10, nameIndex := 11, descriptorIndex := 12, attributes := #[] }, { accessFlags := 10, nameIndex := 21, descriptorIndex := 22, attributes := #[] }, { accessFlags := 10, nameIndex := 27, descriptorIndex := 28, attributes := #[] }] 49 2 #[] #[])
  fields := #[]
  methods := #[k1m0, k1m1, k1m2, k1m3, k1m4]
  instanceTypes := #[]
  staticTypes := #[]
  resolved := Array.replicate 46 none
  statics := none }

def pool2 : Array CpInfo := pool [(2, .class_ 4), (1, u "java/lang/Object"), (0, u "<init>"), (0, u "()V"), (1, .class_ 10), (1, u "com/example/byteleaf/byteleaf/value/ByteWords"), (0, u "EIGHT_BYTES"), (0, u "Ljava/lang/invoke/VarHandle;"), (6, .long 9259542123273814144), (23, u "escaped"), (0, u "(J)J"), (0, .long 2314885530818453536), (1, .long 18446744073709551615), (1, .long 2459565876494606882), (1, .long 6655295901103053916), (1, .long 72340172838076673), (15, u "EACH_BYTE_1"), (0, u "J"), (1, u "TOP_BITS"), (0, u "HIGH_HALVES")] 12

def k2m0 : Method := { name := "<init>", desc := "()V", sig := { parameters := [], returnType := none }, accessFlags := 2, code := none }
def k2c1 : Code := { maxStack := 8, maxLocals := 8, code := prog_43_method_7_code, exceptionTable := #[], attributes := #[] }
def k2m1 : Method := { name := "escaped", desc := "(J)J", sig := { parameters := [.long], returnType := some .long }, accessFlags := 9, code := some k2c1 }
/-- com/example/byteleaf/byteleaf/value/ByteWords -/
def k2 : Class := { plain "com/example/byteleaf/byteleaf/value/ByteWords" (some 0) with
  accessFlags := 49
  interfaces := #[]
  cf := some (fileOf pool2 8 #[] #[{ accessFlags := 2, nameIndex := 5, descriptorIndex := 6, attributes := #[] }, { accessFlags := 9, nameIndex := 43, descriptorIndex := 44, attributes := #[] }] 49 2 #[] #[{ accessFlags := 26, nameIndex := 11, descriptorIndex := 12, attributes := #[] }, { accessFlags := 26, nameIndex := 69, descriptorIndex := 70, attributes := #[] }, { accessFlags := 26, nameIndex := 72, descriptorIndex := 70, attributes := #[] }, { accessFlags := 26, nameIndex := 73, descriptorIndex := 70, attributes := #[] }])
  fields := #[{ name := "EIGHT_BYTES", type := (.object "java/lang/invoke/VarHandle"), accessFlags := 26, slot := 0, constantValue := 0 }, { name := "EACH_BYTE_1", type := .long, accessFlags := 26, slot := 1, constantValue := 0 }, { name := "TOP_BITS", type := .long, accessFlags := 26, slot := 2, constantValue := 0 }, { name := "HIGH_HALVES", type := .long, accessFlags := 26, slot := 3, constantValue := 0 }]
  methods := #[k2m0, k2m1]
  instanceTypes := #[]
  staticTypes := #[(.object "java/lang/invoke/VarHandle"), .long, .long, .long]
  resolved := Array.replicate 86 none
  statics := none }

def pool3 : Array CpInfo := pool [(1, u "java/lang/Cloneable"), (0, .class_ 1), (0, u "java/lang/Object"), (0, .class_ 3)] 3

/-- java/lang/Cloneable -/
def k3 : Class := { plain "java/lang/Cloneable" (some 0) with
  accessFlags := 1537
  interfaces := #[]
  cf := some (fileOf pool3 2 #[] #[] 1537 4 #[] #[])
  fields := #[]
  methods := #[]
  instanceTypes := #[]
  staticTypes := #[]
  resolved := Array.replicate 8 none
  statics := none }

def pool4 : Array CpInfo := pool [(1, u "java/io/Serializable"), (0, .class_ 1), (0, u "java/lang/Object"), (0, .class_ 3)] 3

/-- java/io/Serializable -/
def k4 : Class := { plain "java/io/Serializable" (some 0) with
  accessFlags := 1537
  interfaces := #[]
  cf := some (fileOf pool4 2 #[] #[] 1537 4 #[] #[])
  fields := #[]
  methods := #[]
  instanceTypes := #[]
  staticTypes := #[]
  resolved := Array.replicate 8 none
  statics := none }

/-- the primitive byte -/
def k5 : Class := { plain "byte" none with kind := .primitive 'B', accessFlags := 0x411 }
/-- [B -/
def k6 : Class := { plain "[B" (some 0) with kind := .array 5 .byte, interfaces := #[3, 4], accessFlags := 1041 }

/-- the primitive int -/
def k7 : Class := { plain "int" none with kind := .primitive 'I', accessFlags := 0x411 }
/-- [I -/
def k8 : Class := { plain "[I" (some 0) with kind := .array 7 .int, interfaces := #[3, 4], accessFlags := 1041 }

def heap : Heap := #[]
def classes : Array Class := #[k0, k1, k2, k3, k4, k5, k6, k7, k8]
def interned : List (Array UInt16 × Addr) := []
def slotsUsed : Nat := 0
def theMethod : MethodId := ⟨1, 1⟩
def args0 : Array Value := #[.long 7, .int 6]
def aboutOver (below : List Frame) : State where
  vm := { classes := classes, interned := interned.toArray }
  heap := heap
  slotsUsed := slotsUsed
  threads := #[{ frames := .invoking theMethod args0 :: below }]
def below0 : List Frame := [.native { method := ⟨0, 0⟩, args := #[] }]
def about1 : State := aboutOver below0
def p0 : Program := .bare "" "" ""
def e0 : Env := launch0.env 0 0 0
theorem w_frames : about1.frames = Frame.invoking theMethod args0 :: below0 := rfl
set_option maxRecDepth 65536 in
theorem w_args : argsFit about1.vm theMethod args0 = true := by decide +kernel
set_option maxRecDepth 65536 in
theorem w_heap : heapFits about1 = true := by decide +kernel
set_option maxRecDepth 65536 in
theorem w_runnable : about1.curStatus? = some .runnable := by decide +kernel
set_option maxRecDepth 65536 in
theorem w_alone : about1.alone = true := by decide +kernel
set_option maxRecDepth 65536 in
theorem w_named : about1.methodNamed? x = some theMethod := by decide +kernel
set_option maxRecDepth 65536 in
theorem w_hears : about1.hears theMethod below0 = true := by decide +kernel
set_option maxRecDepth 65536 in
theorem w_ripe : about1.ripe theMethod args0 below0 = true := by decide +kernel
theorem w_running : about1.status = .running := rfl
set_option maxRecDepth 65536 in
theorem w_room : about1.hasRoom e0.platform room_1 = true :=
  launch0.hasRoom_least _ room_1 (by decide +kernel) (by decide +kernel) (by decide +kernel) (by decide +kernel) (by decide +kernel) (by decide +kernel)
theorem allAtoms_all (ts : List Jvm.Cond) (a : Array Jvm.Value) (st : Jvm.State) : (allAtoms ts).before a st = ts.all (fun c => c.before a st) := by
  induction ts with
  | nil => rfl
  | cons c t ih =>
    show (Jvm.Cond.and c (allAtoms t)).before a st = _
    rw [Jvm.Cond.before_and, ih, List.all_cons]
def words1 : List Jvm.Cond := Jvm.Cond.code x code maxLocals ret :: tables_1
/-- a 'code' word, met by the world's own term for the bytes: nothing is compared byte by byte -/
theorem code_word {y : MethodName} {bytes : ByteArray} {mx : Nat} {rt : Option FieldType} {a : Array Value} {s : State} {m : MethodId} {meth : Method} {c : Code} (h1 : s.methodNamed? y = some m) (h2 : s.vm.method? m = some meth) (h3 : meth.code = some c) (h4 : c.code = bytes)
    (h5 : (c.maxLocals == mx && c.exceptionTable.isEmpty && decide (c.maxStack ≤ mostOperands) && decide (meth.sig.returnType = rt) && !meth.locks && decide (parseMethodDescriptor y.desc = some meth.sig)) = true) : (Jvm.Cond.code y bytes mx rt).before a s = true := by
  simp only [Bool.and_eq_true, beq_iff_eq, Bool.not_eq_true', decide_eq_true_eq] at h5
  obtain ⟨⟨⟨⟨⟨g1, g2⟩, g3⟩, g4⟩, g5⟩, g6⟩ := h5
  simp [Cond.before, Cond.holds, Cond.value, h1, h2, h3, h4, g1, g2, g3, g4, g5, g6]
def isCode : Jvm.Cond → Bool
  | .code _ _ _ _ => true
  | _ => false
theorem all_split {L : List Jvm.Cond} {P : Jvm.Cond → Bool} (h1 : L.all (fun c => isCode c || P c) = true) (h2 : ∀ c ∈ L.filter isCode, P c = true) : L.all P = true := by
  refine List.all_eq_true.mpr fun c hc => ?_
  have h := List.all_eq_true.mp h1 c hc
  rcases Bool.eq_false_or_eq_true (isCode c) with hi | hi
  · exact h2 c (List.mem_filter.mpr ⟨hc, hi⟩)
  · simpa [hi] using h
set_option maxRecDepth 65536 in
theorem w_c0 : (Jvm.Cond.code x code maxLocals ret).before args0 about1 = true := code_word (m := ⟨1, 1⟩) (meth := k1m1) (c := k1c1) (by decide +kernel) rfl rfl rfl (by decide +kernel)
set_option maxRecDepth 65536 in
theorem w_c1 : (Jvm.Cond.code ({ cls := "com/example/byteleaf/byteleaf/value/ByteWordsEscapedPinLaw", name := "pick", desc := "(JII)J" } : Jvm.MethodName) method_3_code (7 : Nat) (Option.some Jvm.ClassFile.FieldType.long)).before args0 about1 = true := code_word (m := ⟨1, 2⟩) (meth := k1m2) (c := k1c2) (by decide +kernel) rfl rfl rfl (by decide +kernel)
set_option maxRecDepth 65536 in
theorem w_c2 : (Jvm.Cond.code ({ cls := "com/example/byteleaf/byteleaf/value/ByteWords", name := "escaped", desc := "(J)J" } : Jvm.MethodName) prog_43_method_7_code (8 : Nat) (Option.some Jvm.ClassFile.FieldType.long)).before args0 about1 = true := code_word (m := ⟨2, 1⟩) (meth := k2m1) (c := k2c1) (by decide +kernel) rfl rfl rfl (by decide +kernel)
set_option maxRecDepth 65536 in
theorem w_c3 : (Jvm.Cond.code ({ cls := "com/example/byteleaf/byteleaf/value/ByteWordsEscapedPinLaw", name := "special", desc := "(J)Z" } : Jvm.MethodName) method_4_code (2 : Nat) (Option.some Jvm.ClassFile.FieldType.boolean)).before args0 about1 = true := code_word (m := ⟨1, 3⟩) (meth := k1m3) (c := k1c3) (by decide +kernel) rfl rfl rfl (by decide +kernel)
set_option maxRecDepth 65536 in
theorem w_c4 : (Jvm.Cond.code ({ cls := "com/example/byteleaf/byteleaf/value/ByteWordsEscapedPinLaw", name := "marked", desc := "(JIZ)Z" } : Jvm.MethodName) method_5_code (4 : Nat) (Option.some Jvm.ClassFile.FieldType.boolean)).before args0 about1 = true := code_word (m := ⟨1, 4⟩) (meth := k1m4) (c := k1c4) (by decide +kernel) rfl rfl rfl (by decide +kernel)
def codes1 : List Jvm.Cond := [Jvm.Cond.code x code maxLocals ret, Jvm.Cond.code ({ cls := "com/example/byteleaf/byteleaf/value/ByteWordsEscapedPinLaw", name := "pick", desc := "(JII)J" } : Jvm.MethodName) method_3_code (7 : Nat) (Option.some Jvm.ClassFile.FieldType.long), Jvm.Cond.code ({ cls := "com/example/byteleaf/byteleaf/value/ByteWords", name := "escaped", desc := "(J)J" } : Jvm.MethodName) prog_43_method_7_code (8 : Nat) (Option.some Jvm.ClassFile.FieldType.long), Jvm.Cond.code ({ cls := "com/example/byteleaf/byteleaf/value/ByteWordsEscapedPinLaw", name := "special", desc := "(J)Z" } : Jvm.MethodName) method_4_code (2 : Nat) (Option.some Jvm.ClassFile.FieldType.boolean), Jvm.Cond.code ({ cls := "com/example/byteleaf/byteleaf/value/ByteWordsEscapedPinLaw", name := "marked", desc := "(JIZ)Z" } : Jvm.MethodName) method_5_code (4 : Nat) (Option.some Jvm.ClassFile.FieldType.boolean)]
set_option maxRecDepth 65536 in
theorem codes_eq : words1.filter isCode = codes1 := rfl
theorem w_codes : ∀ c ∈ words1.filter isCode, c.before args0 about1 = true := by
  rw [codes_eq]
  intro c hc
  simp only [codes1, List.mem_cons, List.not_mem_nil, or_false] at hc
  rcases hc with rfl | rfl | rfl | rfl | rfl
  · exact w_c0
  · exact w_c1
  · exact w_c2
  · exact w_c3
  · exact w_c4
set_option maxRecDepth 65536 in
theorem w_t1 : (words1.take 24).all (fun c => isCode c || c.before args0 about1) = true := by decide +kernel
set_option maxRecDepth 65536 in
theorem w_t2 : (words1.drop 24).all (fun c => isCode c || c.before args0 about1) = true := by decide +kernel
theorem w_tables : (allAtoms (Jvm.Cond.code x code maxLocals ret :: tables_1)).before args0 about1 = true := by
  rw [allAtoms_all]
  show words1.all (fun c => c.before args0 about1) = true
  refine all_split ?_ w_codes
  rw [← List.take_append_drop 24 words1, List.all_append, w_t1, w_t2]
  rfl
set_option maxRecDepth 65536 in
theorem w_case : (Jvm.Cond.and given_1 narrow_1).before args0 about1 = true := by decide +kernel
theorem w_applies : (headSpec (Jvm.Cond.code x code maxLocals ret :: tables_1) room_1).applies x e0.platform about1 = true :=
  (Spec.applies_iff w_frames).mpr ⟨w_running, w_runnable, w_alone, w_named, w_hears, w_ripe, w_room, w_tables⟩
theorem atStart : AtStart classFile x code maxLocals ret World_1 tables_1 room_1 Calls_1 rest_1 Pre_1 launch0 p0 e0 about1 theMethod args0 below0 :=
  ⟨lists_1, trivial, launch0.admits_env _ _ _, launch0.least_env, fairChoices_fair.cas, fairChoices_fair.clock, w_frames, w_args, w_heap, w_applies, trivial, trivial, w_case⟩
end start1
theorem witness_1 : WitnessClaimed_1 := ⟨start1.p0, start1.e0, start1.about1, start1.theMethod, start1.args0, start1.below0, start1.atStart⟩
end Jvm.Pilot.@@N@@
