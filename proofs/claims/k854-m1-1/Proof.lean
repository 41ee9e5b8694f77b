import JvmDerived
import JvmDerived.Pilot.@@N@@Statement
import JvmDerived.Pilot.@@N@@Code
set_option linter.unusedVariables false
set_option linter.unusedSimpArgs false
namespace Jvm.OwnKit
open Sem ClassFile Op Lib Jvm.Free Jvm.Stand Jvm.LawKit Jvm.RoadKit
/-! My own layer: an abstract heap (a list of objects made since the law began) and one rule a bytecode step, each over a law of the library. -/
abbrev oz : Value := .int 0
abbrev ol : Value := .long 0
abbrev rf (n0 i : Nat) : Value := .ref (n0 + i)
abbrev Ob : Type := (Nat × List Value) ⊕ (FieldType × List Value)
abbrev KTab : Type := List (String × List (String × String × String))
def ObAt (Z : State) (K : KTab) (h : Heap) (a : Addr) : Ob → Prop
  | .inl (k, vs) => ∃ C fs, K[k]? = some (C, fs) ∧ Exa Z h a C ∧ vs.length = fs.length ∧ ∀ (j : Nat) (f : String × String × String) (v : Value), fs[j]? = some f → vs[j]? = some v → Fld Z h a f.1 f.2.1 f.2.2 v
  | .inr (ty, vs) => (Exa Z h a ("[" ++ ty.toString) ∧ ∀ v ∈ vs, fits ty v = true) ∧ ∃ c : Cell, Arr Z h a c ty ∧ c.slots = vs.toArray ∧ ∀ C, ty = .object C → Ovr Z c.cls C
def Rel (Z : State) (K : KTab) (n0 : Nat) (h : Heap) (A : List Ob) : Prop := h.size = n0 + A.length ∧ ∀ (i : Nat) (o : Ob), A[i]? = some o → ObAt Z K h (n0 + i) o
def KOk (Z : State) (a0 : Array Value) (K : KTab) : Prop := ∀ (k : Nat) (C : String) (fs : List (String × String × String)), K[k]? = some (C, fs) →
  (∃ n, (Cond.instantiable C n).before a0 Z = true) ∧ (∀ (j : Nat) (f : String × String × String), fs[j]? = some f → Laid Z a0 C f.1 f.2.1 f.2.2 ∧ ∃ t, parseFieldDescriptor f.2.2 = some t) ∧
  ∀ (i j : Nat) (f g : String × String × String), fs[i]? = some f → fs[j]? = some g → i ≠ j → f.2.1 ≠ g.2.1
section Facts
variable {Z : State} {a0 : Array Value} {K : KTab} {h h' : Heap} {a b : Addr} {o o' : Ob} {n0 : Nat} {A : List Ob} {sl : Nat} {v : Value}
theorem ObAt.ext (E : Ext h h') (F : ObAt Z K h a o) : ObAt Z K h' a o := by
  rcases o with ⟨k, vs⟩ | ⟨ty, vs⟩
  · obtain ⟨C, fs, h1, h2, h3, h4⟩ := F
    exact ⟨C, fs, h1, h2.ext E, h3, fun j f v q r => (h4 j f v q r).ext E⟩
  · obtain ⟨⟨h1, hf⟩, c, h2, h3, h4⟩ := F
    exact ⟨⟨h1.ext E, hf⟩, c, h2.ext E, h3, h4⟩
theorem ObAt.other (W : Wr h h' b sl v) (hne : a ≠ b) (F : ObAt Z K h a o) : ObAt Z K h' a o := by
  rcases o with ⟨k, vs⟩ | ⟨ty, vs⟩
  · obtain ⟨C, fs, h1, h2, h3, h4⟩ := F
    exact ⟨C, fs, h1, h2.wr W, h3, fun j f v q r => (h4 j f v q r).other W (Or.inl hne)⟩
  · obtain ⟨⟨h1, hf⟩, c, h2, h3, h4⟩ := F
    exact ⟨⟨h1.wr W, hf⟩, c, h2.other W hne, h3, h4⟩
theorem ObAt.keep {ws : List Addr} (E : Keep h h' ws) (hne : a ∉ ws) (F : ObAt Z K h a o) : ObAt Z K h' a o := by
  rcases o with ⟨k, vs⟩ | ⟨ty, vs⟩
  · obtain ⟨C, fs, h1, h2, h3, h4⟩ := F
    exact ⟨C, fs, h1, h2.keep E, h3, fun j f v q r => (h4 j f v q r).keep E hne⟩
  · obtain ⟨⟨h1, hf⟩, c, h2, h3, h4⟩ := F
    exact ⟨⟨h1.keep E, hf⟩, c, ⟨E.2.1 a c h2.1 hne, h2.2⟩, h3, h4⟩
theorem Rel.keep {i : Nat} (R : Rel Z K n0 h A) (E : Keep h h' [n0 + i]) (hs : h'.size = h.size) (hO : ObAt Z K h' (n0 + i) o') : Rel Z K n0 h' (A.set i o') := by
  refine ⟨by rw [hs, R.1]; simp, fun j o hj => ?_⟩
  by_cases e : i = j
  · subst e
    obtain ⟨hl, -⟩ := List.getElem?_eq_some_iff.mp hj
    rw [List.getElem?_set_self (by simpa using hl)] at hj
    cases hj; exact hO
  · rw [List.getElem?_set_ne e] at hj
    exact (R.2 j o hj).keep E (fun q => e (Nat.add_left_cancel (List.mem_singleton.mp q)).symm)
theorem ObAt.exa {k : Nat} {vs : List Value} {C : String} {fs : List (String × String × String)} (hk : K[k]? = some (C, fs)) (F : ObAt Z K h a (.inl (k, vs))) : Exa Z h a C := by
  obtain ⟨C', fs', h1, h2, -⟩ := F
  cases hk.symm.trans h1; exact h2
theorem Rel.push (R : Rel Z K n0 h A) (E : Ext h h') (hs : h'.size = n0 + (A.length + 1)) (hN : ObAt Z K h' (n0 + A.length) o) : Rel Z K n0 h' (A ++ [o]) := by
  refine ⟨by rw [hs]; simp, fun i o' hi => ?_⟩
  by_cases hlt : i < A.length
  · rw [List.getElem?_append_left hlt] at hi; exact (R.2 i o' hi).ext E
  · rw [List.getElem?_append_right (by omega)] at hi
    have he : i - A.length = 0 := by
      have := (List.getElem?_eq_some_iff.mp hi).1
      simp at this; omega
    rw [he] at hi
    cases hi
    have : i = A.length := by omega
    rw [this]; exact hN
theorem Rel.set {i : Nat} (R : Rel Z K n0 h A) (W : Wr h h' (n0 + i) sl v) (hO : ObAt Z K h' (n0 + i) o') : Rel Z K n0 h' (A.set i o') := by
  refine ⟨by rw [W.size, R.1]; simp, fun j o hj => ?_⟩
  by_cases e : i = j
  · subst e
    obtain ⟨hl, -⟩ := List.getElem?_eq_some_iff.mp hj
    rw [List.getElem?_set_self (by simpa using hl)] at hj
    cases hj; exact hO
  · rw [List.getElem?_set_ne e] at hj
    exact (R.2 j o hj).other W (fun q => e (Nat.add_left_cancel q).symm)
theorem ObAt.setF (KK : KOk Z a0 K) {k j : Nat} {vs : List Value} {C : String} {fs : List (String × String × String)} {f : String × String × String} (hk : K[k]? = some (C, fs)) (hj : fs[j]? = some f) (W : Wr h h' a (RoadKit.slotOf Z f.1 f.2.1 f.2.2) v) (F : ObAt Z K h a (.inl (k, vs))) : ObAt Z K h' a (.inl (k, vs.set j v)) := by
  obtain ⟨C', fs', h1, h2, h3, h4⟩ := F
  cases hk.symm.trans h1
  refine ⟨C, fs, hk, h2.wr W, by simpa using h3, fun j' f' v' q r => ?_⟩
  by_cases e : j = j'
  · subst e
    cases hj.symm.trans q
    have hl : j < vs.length := by rw [h3]; exact (List.getElem?_eq_some_iff.mp hj).1
    rw [List.getElem?_set_self hl] at r
    cases r
    exact (h4 j f vs[j] hj (List.getElem?_eq_getElem hl)).same W
  · rw [List.getElem?_set_ne e] at r
    obtain ⟨-, k2, k3⟩ := KK k C fs hk
    obtain ⟨L1, t1, p1⟩ := k2 j f hj
    obtain ⟨L2, t2, p2⟩ := k2 j' f' q
    exact (h4 j' f' v' q r).other W (Or.inr (slot_ne L2 L1 (k3 j' j f' f q hj (Ne.symm e)) p2 p1))
theorem ObAt.setA {ty : FieldType} {vs : List Value} {j : Nat} (W : Wr h h' a j v) (hv : fits ty v = true) (F : ObAt Z K h a (.inr (ty, vs))) : ObAt Z K h' a (.inr (ty, vs.set j v)) := by
  obtain ⟨⟨h1, hf⟩, c, h2, h3, h4⟩ := F
  refine ⟨⟨h1.wr W, fun w hw => ?_⟩, c.setSlot j v, h2.same W, ?_, h4⟩
  · rcases List.mem_or_eq_of_mem_set hw with q | rfl
    · exact hf w q
    · exact hv
  simp [Cell.setSlot, h3]
end Facts
/-! ## The walk -/
def Go (p : Program) (l : Launch) (e : Env) (R : Room) (s : State) (m : MethodId) (args : Array Value) (below : List Frame) (meth : Method) (c : Code) (Z : State) (K : KTab) (n0 : Nat) (Q : Option Value → List Ob → Prop)
    (pc : Nat) (ls : Array Slot) (st : List Value) (A : List Ob) (k n : Nat) : Prop :=
  ∀ (T : State) (locs : List Loc), Stand p l e R s m args below meth c T locs k n → Rel Z K n0 T.heap A → Fr n0 locs →
    ∃ s₂ o, Steps p.tables e below (T.setTop (mkF m pc ls st)) s₂ ∧ s₂.status = .running ∧ Ended s₂ below o ∧ ∃ v L, o = .returned v ∧ (∃ A', Q v A' ∧ Rel Z K n0 s₂.heap A' ∧ Fr n0 L) ∧ FrameEnd s o s₂ L R.cells R.slots
abbrev GoT : Type := Nat → Array Slot → List Value → List Ob → Nat → Nat → Prop
def IsGo (l : Launch) (Z : State) (a0 : Array Value) (K : KTab) (n0 b0 : Nat) (y : MethodName) (bytes : ByteArray) (maxL : Nat) (ret : Option FieldType) (R : Room) (Q : Option Value → List Ob → Prop) (G : GoT) : Prop :=
  ∃ (p : Program) (e : Env) (s : State) (m : MethodId) (args : Array Value) (below : List Frame) (meth : Method) (c : Code), p.tables.exec = Jvm.exec ∧ c.code = bytes ∧ c.maxLocals = maxL ∧ s.vm.findClass y.cls = some m.cls ∧ meth.name = y.name ∧ meth.sig.returnType = ret ∧ meth.locks = false ∧ Z.Warmed39 s.vm ∧ KOk Z a0 K ∧ s.heap.size = n0 + b0 ∧ G = Go p l e R s m args below meth c Z K n0 Q
/-- the contract of a method, by its arguments and the abstract heap -/
def Met (l : Launch) (Z : State) (K : KTab) (n0 : Nat) (y : MethodName) (bytes : ByteArray) (maxL : Nat) (ret : Option FieldType) (R : Room) (as : Array Value) (A : List Ob) (Q : Option Value → List Ob → Prop) : Prop :=
  ∀ (ws : List Jvm.Cond) (h0 : Heap), Rel Z K n0 h0 A → MetFree l y (head1 (Jvm.Cond.code y bytes maxL ret :: ws) R) (fun a U => a = as ∧ Z.Warmed39 U.vm ∧ U.heap = h0) (fun _ _ _ _ _ => True)
    (fun _ U o U' => ∃ v L, o = .returned v ∧ (∃ A', Q v A' ∧ Rel Z K n0 U'.heap A' ∧ Fr n0 L) ∧ FrameEnd U o U' L R.cells R.slots)
def Nx (b : ByteArray) (pc : Nat) (i : Instr) (len pc' : Nat) : Prop := decode b pc = .ok (i, len) ∧ pc' = pc + len
def Bx (b : ByteArray) (pc : Nat) (i : Int → Instr) (t f : Nat) : Prop := ∃ o : Int, decode b pc = .ok (i o, 3) ∧ 0 ≤ (pc : Int) + o ∧ ((pc : Int) + o).toNat = t ∧ f = pc + 3
theorem get_set_self {A : List Ob} {i : Nat} {o o' : Ob} (h : A[i]? = some o) : (A.set i o')[i]? = some o' := List.getElem?_set_self (List.getElem?_eq_some_iff.mp h).1
theorem get_set_ne {A : List Ob} {i j : Nat} {o o' : Ob} (h : A[j]? = some o) (hne : i ≠ j) : (A.set i o')[j]? = some o := by rw [List.getElem?_set_ne hne]; exact h
theorem len_set {A : List Ob} {i N : Nat} {o : Ob} (h : A.length = N) : (A.set i o).length = N := by simpa using h
theorem get_app {A : List Ob} {i : Nat} {o o' : Ob} (h : A[i]? = some o) : (A ++ [o'])[i]? = some o := by rw [List.getElem?_append_left (List.getElem?_eq_some_iff.mp h).1]; exact h
theorem get_last {A : List Ob} {N : Nat} {o : Ob} (h : A.length = N) : (A ++ [o])[N]? = some o := by subst h; simp
theorem len_app {A : List Ob} {N : Nat} {o : Ob} (h : A.length = N) : (A ++ [o]).length = N + 1 := by simp [h]
theorem npOf {d : String} {ps : List FieldType} {r : Option FieldType} {n : Nat} (hd : parseMethodDescriptor d = some ⟨ps, r⟩) (hl : n = ps.length) : ∀ sig, parseMethodDescriptor d = some sig → n = sig.parameters.length := fun sig h => by cases hd.symm.trans h; exact hl
theorem leb {a b : Nat} (h : Nat.ble a b = true) : a ≤ b := Nat.le_of_ble_eq_true h
theorem ltb {a b : Nat} (h : Nat.ble (a + 1) b = true) : a < b := Nat.le_of_ble_eq_true h
theorem fa0 {α : Type} {P : α → Prop} : ∀ x ∈ ([] : List α), P x := fun _ q => nomatch q
theorem faS {α : Type} {P : α → Prop} {y : α} {L : List α} (q : P y) (r : ∀ x ∈ L, P x) : ∀ x ∈ y :: L, P x := fun x z => (List.mem_cons.mp z).elim (fun u => u ▸ q) (r x)
theorem kokOf {Z : State} {a0 : Array Value} {K : KTab} (h : ∀ p ∈ K, (∃ n, (Jvm.Cond.instantiable p.1 n).before a0 Z = true) ∧ (∀ f ∈ p.2, Laid Z a0 p.1 f.1 f.2.1 f.2.2 ∧ ∃ t, parseFieldDescriptor f.2.2 = some t) ∧ (p.2.map (·.2.1)).Nodup) : KOk Z a0 K := by
  intro k C fs hk
  obtain ⟨h1, h2, h3⟩ := h _ (List.mem_of_getElem? hk)
  refine ⟨h1, fun j f hj => h2 f (List.mem_of_getElem? hj), fun i j f g hi hj hne e => hne ?_⟩
  have q1 : (fs.map (·.2.1))[i]? = some f.2.1 := by simp [List.getElem?_map, hi]
  have q2 : (fs.map (·.2.1))[j]? = some f.2.1 := by simp [List.getElem?_map, hj, e]
  obtain ⟨l1, e1⟩ := List.getElem?_eq_some_iff.mp q1
  obtain ⟨l2, e2⟩ := List.getElem?_eq_some_iff.mp q2
  have h4 := List.pairwise_iff_getElem.mp h3
  rcases Nat.lt_trichotomy i j with q | q | q
  · exact absurd (e1.trans e2.symm) (h4 i j l1 l2 q)
  · exact q
  · exact absurd (e2.trans e1.symm) (h4 j i l2 l1 q)
def Is (v : Option Value) (A' : List Ob) : Option Value → List Ob → Prop := fun v' B => v' = v ∧ B = A'
theorem i_lt {u v : Int32} {a b : Int} (hu : u.toInt = a) (hv : v.toInt = b) : u < v ↔ a < b := by subst hu hv; exact Int32.lt_iff_toInt_lt
theorem i_ge {u v : Int32} {a b : Int} (hu : u.toInt = a) (hv : v.toInt = b) : ¬ u < v ↔ b ≤ a := by rw [i_lt hu hv]; omega
theorem i_eq {u v : Int32} {a b : Int} (hu : u.toInt = a) (hv : v.toInt = b) : u = v ↔ a = b := by subst hu hv; exact Int32.toInt_inj.symm
theorem i_ne {u v : Int32} {a b : Int} (hu : u.toInt = a) (hv : v.toInt = b) : ¬ u = v ↔ ¬ a = b := not_congr (i_eq hu hv)
theorem j_lt {u v : Int64} {a b : Int} (hu : u.toInt = a) (hv : v.toInt = b) : u < v ↔ a < b := by subst hu hv; exact Int64.lt_iff_toInt_lt
theorem j_ge {u v : Int64} {a b : Int} (hu : u.toInt = a) (hv : v.toInt = b) : ¬ u < v ↔ b ≤ a := by rw [j_lt hu hv]; omega
theorem j_eq {u v : Int64} {a b : Int} (hu : u.toInt = a) (hv : v.toInt = b) : u = v ↔ a = b := by subst hu hv; exact Int64.toInt_inj.symm
theorem j_ne {u v : Int64} {a b : Int} (hu : u.toInt = a) (hv : v.toInt = b) : ¬ u = v ↔ ¬ a = b := not_congr (j_eq hu hv)
theorem x_iadd {a b : Int32} {x y : Int} (ha : a.toInt = x) (hb : b.toInt = y) (h : -2147483648 ≤ x + y ∧ x + y < 2147483648) : (a + b).toInt = x + y := by
  have q := c_iadd a b
  have r := rng32 (a + b)
  rw [ha, hb] at q
  omega
theorem x_isub {a b : Int32} {x y : Int} (ha : a.toInt = x) (hb : b.toInt = y) (h : -2147483648 ≤ x - y ∧ x - y < 2147483648) : (a - b).toInt = x - y := by
  have q := c_isub a b
  have r := rng32 (a - b)
  rw [ha, hb] at q
  omega
theorem x_imul {a b : Int32} {x y : Int} (ha : a.toInt = x) (hb : b.toInt = y) (h : -2147483648 ≤ x * y ∧ x * y < 2147483648) : (a * b).toInt = x * y := by
  have q := c_imul a b
  have r := rng32 (a * b)
  rw [ha, hb] at q
  omega
theorem x_ineg {a : Int32} {x : Int} (ha : a.toInt = x) (h : -2147483648 < x) : (-a).toInt = -x := by
  have q := c_ineg a
  have r := rng32 (-a)
  have r2 := rng32 a
  rw [ha] at q r2
  omega
theorem x_ladd {a b : Int64} {x y : Int} (ha : a.toInt = x) (hb : b.toInt = y) (h : -9223372036854775808 ≤ x + y ∧ x + y < 9223372036854775808) : (a + b).toInt = x + y := by
  have q := c_ladd a b
  have r := rng64 (a + b)
  rw [ha, hb] at q
  omega
theorem x_lsub {a b : Int64} {x y : Int} (ha : a.toInt = x) (hb : b.toInt = y) (h : -9223372036854775808 ≤ x - y ∧ x - y < 9223372036854775808) : (a - b).toInt = x - y := by
  have q := c_lsub a b
  have r := rng64 (a - b)
  rw [ha, hb] at q
  omega
theorem x_lmul {a b : Int64} {x y : Int} (ha : a.toInt = x) (hb : b.toInt = y) (h : -9223372036854775808 ≤ x * y ∧ x * y < 9223372036854775808) : (a * b).toInt = x * y := by
  have q := c_lmul a b
  have r := rng64 (a * b)
  rw [ha, hb] at q
  omega
theorem x_lneg {a : Int64} {x : Int} (ha : a.toInt = x) (h : -9223372036854775808 < x) : (-a).toInt = -x := by
  have q := c_lneg a
  have r := rng64 (-a)
  have r2 := rng64 a
  rw [ha] at q r2
  omega
theorem x_irem {a b : Int32} {x y : Int} (ha : a.toInt = x) (hb : b.toInt = y) (h : 0 ≤ x) : (a % b).toInt = x % y := by
  rw [(c_irem a b y hb).1 (by rw [ha]; exact h), ha]
theorem x_idiv {a b : Int32} {x y : Int} (ha : a.toInt = x) (hb : b.toInt = y) (h : 0 ≤ x) (hy : 0 < y) : (a / b).toInt = x / y := by
  have hm : b ≠ -1 := fun e => by
    have q : (-1 : Int32).toInt = -1 := by decide
    rw [e, q] at hb
    omega
  rw [(c_idiv a b y hb hm).1 (by rw [ha]; exact h), ha]
theorem x_i2l {a : Int32} {x : Int} (ha : a.toInt = x) : (a.toInt64).toInt = x := by rw [c_i2l]; exact ha
theorem x_l2i {a : Int64} {x : Int} (ha : a.toInt = x) (h : -2147483648 ≤ x ∧ x < 2147483648) : (a.toInt32).toInt = x := by
  have q := c_l2i a
  have r := rng32 a.toInt32
  rw [ha] at q
  omega
theorem mod_b {x y : Int} (hy : 0 < y) : 0 ≤ x % y ∧ x % y < y := ⟨Int.emod_nonneg _ (by omega), Int.emod_lt_of_pos _ hy⟩
section Rules
variable {l : Launch} {Z : State} {a0 : Array Value} {K : KTab} {n0 b0 : Nat} {y : MethodName} {bytes : ByteArray} {maxL : Nat} {ret : Option FieldType} {R : Room} {Q : Option Value → List Ob → Prop} {G : GoT}
variable {pc pc' : Nat} {ls ls' : Array Slot} {st st' : List Value} {A A' : List Ob} {k k' n n' : Nat}
theorem Met.of (KK : KOk Z a0 K) (hp : plainFor y = true) {as : Array Value} (hef : ∀ m, entryFrame m as maxL = mkF m 0 ls []) (body : ∀ G, IsGo l Z a0 K n0 A.length y bytes maxL ret R Q G → G 0 ls [] A 0 0) : Met l Z K n0 y bytes maxL ret R as A Q := by
  intro ws h0 hR
  refine MetFree.of_bodySF hp hisR ?_
  intro p e s m args below meth c s₁ Bd hml0 hP hK
  obtain ⟨rfl, hZ, hh⟩ := hP
  have e0 : s₁.heap = h0 := by rw [← hh, Bd.state]; rfl
  have H := body (Go p l e R s m args below meth c Z K n0 Q) ⟨p, e, s, m, args, below, meth, c, Bd.exec, Bd.bytes, hml0, findClass_of_methodNamed Bd.named, (name_of_methodNamed Bd.named Bd.method).1, Bd.returns, Bd.notSynchronized, hZ, KK, by rw [hh]; exact hR.1, rfl⟩
  obtain ⟨s₂, o, h1, h2, h3, h4⟩ := H s₁ [] (Stand.of_body Bd) (by rw [e0]; exact hR) (Fr.nil n0)
  exact ⟨s₂, o, castTop (hef m) h1, h2, h3, h4⟩
theorem Met.mono {as : Array Value} {Q' : Option Value → List Ob → Prop} (M : Met l Z K n0 y bytes maxL ret R as A Q) (h : ∀ v A', Q v A' → Q' v A') : Met l Z K n0 y bytes maxL ret R as A Q' := by
  intro ws h0 hR p e ha hc hk s m args below hf happ hP hK
  obtain ⟨n, o, h1, h2, h3, v, L, h4, ⟨A', h5, h6⟩, h7⟩ := M ws h0 hR p e ha hc hk s m args below hf happ hP hK
  exact ⟨n, o, h1, h2, h3, v, L, h4, ⟨A', h _ _ h5, h6⟩, h7⟩
theorem IsGo.lift (H : IsGo l Z a0 K n0 b0 y bytes maxL ret R Q G) (hs : ∀ {p : Program} {e : Env} {below : List Frame} {T target : State} {m : MethodId} {c : Code}, At T m c below → p.tables.exec = Jvm.exec → c.code = bytes → Steps p.tables e below (T.setTop (mkF m pc' ls' st')) target → Steps p.tables e below (T.setTop (mkF m pc ls st)) target)
    (h : G pc' ls' st' A k n) : G pc ls st A k n := by
  obtain ⟨p, e, s, m, args, below, meth, c, hx, hby, hml, hown, hnm, hret, hlk, hZ, hK, hb0, rfl⟩ := H
  intro T locs X hR hF
  obtain ⟨s₂, o, h1, h2⟩ := h T locs X hR hF
  exact ⟨s₂, o, hs X.here hx hby h1, h2⟩
/-! ### loads, stores, constants -/
theorem IsGo.iloadN (H : IsGo l Z a0 K n0 b0 y bytes maxL ret R Q G) {i : Fin 4} (hd : Nx bytes pc (.iload_n i) 1 pc') {v : Int32} (hl : ls[i.val]? = some (.val (.int v))) (h : G pc' ls (.int v :: st) A k n) : G pc ls st A k n := by
  obtain ⟨hd, rfl⟩ := hd
  exact H.lift (fun hA hx hby hr => XS.iloadN hA hx rfl (hb hby hd) hl hr) h
theorem IsGo.iload (H : IsGo l Z a0 K n0 b0 y bytes maxL ret R Q G) {i : Nat} (hd : Nx bytes pc (.iload i) 2 pc') {v : Int32} (hl : ls[i]? = some (.val (.int v))) (h : G pc' ls (.int v :: st) A k n) : G pc ls st A k n := by
  obtain ⟨hd, rfl⟩ := hd
  exact H.lift (fun hA hx hby hr => XS.iload hA hx rfl (hb hby hd) hl hr) h
theorem IsGo.lloadN (H : IsGo l Z a0 K n0 b0 y bytes maxL ret R Q G) {i : Fin 4} (hd : Nx bytes pc (.lload_n i) 1 pc') {v : Int64} (hl : ls[i.val]? = some (.val (.long v))) (h : G pc' ls (.long v :: st) A k n) : G pc ls st A k n := by
  obtain ⟨hd, rfl⟩ := hd
  exact H.lift (fun hA hx hby hr => XS.lloadN hA hx rfl (hb hby hd) hl hr) h
theorem IsGo.lload (H : IsGo l Z a0 K n0 b0 y bytes maxL ret R Q G) {i : Nat} (hd : Nx bytes pc (.lload i) 2 pc') {v : Int64} (hl : ls[i]? = some (.val (.long v))) (h : G pc' ls (.long v :: st) A k n) : G pc ls st A k n := by
  obtain ⟨hd, rfl⟩ := hd
  exact H.lift (fun hA hx hby hr => XS.lload hA hx rfl (hb hby hd) hl hr) h
theorem IsGo.aloadN (H : IsGo l Z a0 K n0 b0 y bytes maxL ret R Q G) {i : Fin 4} (hd : Nx bytes pc (.aload_n i) 1 pc') {v : Value} (hl : ls[i.val]? = some (.val v)) (hv : v.isRef = true) (h : G pc' ls (v :: st) A k n) : G pc ls st A k n := by
  obtain ⟨hd, rfl⟩ := hd
  exact H.lift (fun hA hx hby hr => XS.aloadN hA hx rfl (hb hby hd) hl hv hr) h
theorem IsGo.aload (H : IsGo l Z a0 K n0 b0 y bytes maxL ret R Q G) {i : Nat} (hd : Nx bytes pc (.aload i) 2 pc') {v : Value} (hl : ls[i]? = some (.val v)) (hv : v.isRef = true) (h : G pc' ls (v :: st) A k n) : G pc ls st A k n := by
  obtain ⟨hd, rfl⟩ := hd
  exact H.lift (fun hA hx hby hr => XS.aload hA hx rfl (hb hby hd) hl hv hr) h
theorem IsGo.istoreN (H : IsGo l Z a0 K n0 b0 y bytes maxL ret R Q G) {i : Fin 4} (hd : Nx bytes pc (.istore_n i) 1 pc') {v : Int32} (hl : storeLocals ls i.val (.int v) = some ls') (h : G pc' ls' st A k n) : G pc ls (.int v :: st) A k n := by
  obtain ⟨hd, rfl⟩ := hd
  exact H.lift (fun hA hx hby hr => XS.istoreN hA hx rfl (hb hby hd) rfl hl hr) h
theorem IsGo.istore (H : IsGo l Z a0 K n0 b0 y bytes maxL ret R Q G) {i : Nat} (hd : Nx bytes pc (.istore i) 2 pc') {v : Int32} (hl : storeLocals ls i (.int v) = some ls') (h : G pc' ls' st A k n) : G pc ls (.int v :: st) A k n := by
  obtain ⟨hd, rfl⟩ := hd
  exact H.lift (fun hA hx hby hr => XS.istore hA hx rfl (hb hby hd) rfl hl hr) h
theorem IsGo.lstoreN (H : IsGo l Z a0 K n0 b0 y bytes maxL ret R Q G) {i : Fin 4} (hd : Nx bytes pc (.lstore_n i) 1 pc') {v : Int64} (hl : storeLocals ls i.val (.long v) = some ls') (h : G pc' ls' st A k n) : G pc ls (.long v :: st) A k n := by
  obtain ⟨hd, rfl⟩ := hd
  exact H.lift (fun hA hx hby hr => XS.lstoreN hA hx rfl (hb hby hd) rfl hl hr) h
theorem IsGo.lstore (H : IsGo l Z a0 K n0 b0 y bytes maxL ret R Q G) {i : Nat} (hd : Nx bytes pc (.lstore i) 2 pc') {v : Int64} (hl : storeLocals ls i (.long v) = some ls') (h : G pc' ls' st A k n) : G pc ls (.long v :: st) A k n := by
  obtain ⟨hd, rfl⟩ := hd
  exact H.lift (fun hA hx hby hr => XS.lstore hA hx rfl (hb hby hd) rfl hl hr) h
theorem IsGo.astoreN (H : IsGo l Z a0 K n0 b0 y bytes maxL ret R Q G) {i : Fin 4} (hd : Nx bytes pc (.astore_n i) 1 pc') {v : Value} (hv : v.isRef = true) (hl : storeLocals ls i.val v = some ls') (h : G pc' ls' st A k n) : G pc ls (v :: st) A k n := by
  obtain ⟨hd, rfl⟩ := hd
  exact H.lift (fun hA hx hby hr => XS.astoreN hA hx rfl (hb hby hd) rfl hv hl hr) h
theorem IsGo.astore (H : IsGo l Z a0 K n0 b0 y bytes maxL ret R Q G) {i : Nat} (hd : Nx bytes pc (.astore i) 2 pc') {v : Value} (hv : v.isRef = true) (hl : storeLocals ls i v = some ls') (h : G pc' ls' st A k n) : G pc ls (v :: st) A k n := by
  obtain ⟨hd, rfl⟩ := hd
  exact H.lift (fun hA hx hby hr => XS.astore hA hx rfl (hb hby hd) rfl hv hl hr) h
theorem IsGo.iconst (H : IsGo l Z a0 K n0 b0 y bytes maxL ret R Q G) {i : Int} (hd : Nx bytes pc (.iconst i) 1 pc') {v : Int32} (hv : Int32.ofInt i = v) (h : G pc' ls (.int v :: st) A k n) : G pc ls st A k n := by
  obtain ⟨hd, rfl⟩ := hd
  subst hv
  exact H.lift (fun hA hx hby hr => XS.iconst hA hx rfl (hb hby hd) hr) h
theorem IsGo.bipush (H : IsGo l Z a0 K n0 b0 y bytes maxL ret R Q G) {i : Int} (hd : Nx bytes pc (.bipush i) 2 pc') {v : Int32} (hv : (Int8.ofInt i).toInt32 = v) (h : G pc' ls (.int v :: st) A k n) : G pc ls st A k n := by
  obtain ⟨hd, rfl⟩ := hd
  subst hv
  exact H.lift (fun hA hx hby hr => XS.bipush hA hx rfl (hb hby hd) hr) h
theorem IsGo.sipush (H : IsGo l Z a0 K n0 b0 y bytes maxL ret R Q G) {i : Int} (hd : Nx bytes pc (.sipush i) 3 pc') {v : Int32} (hv : (Int16.ofInt i).toInt32 = v) (h : G pc' ls (.int v :: st) A k n) : G pc ls st A k n := by
  obtain ⟨hd, rfl⟩ := hd
  subst hv
  exact H.lift (fun hA hx hby hr => XS.sipush hA hx rfl (hb hby hd) hr) h
theorem IsGo.lconst (H : IsGo l Z a0 K n0 b0 y bytes maxL ret R Q G) {i : Fin 2} (hd : Nx bytes pc (.lconst i) 1 pc') {v : Int64} (hv : Int64.ofNat i = v) (h : G pc' ls (.long v :: st) A k n) : G pc ls st A k n := by
  obtain ⟨hd, rfl⟩ := hd
  subst hv
  exact H.lift (fun hA hx hby hr => XS.lconst hA hx rfl (hb hby hd) hr) h
theorem IsGo.aconstNull (H : IsGo l Z a0 K n0 b0 y bytes maxL ret R Q G) (hd : Nx bytes pc .aconst_null 1 pc') (h : G pc' ls (.null :: st) A k n) : G pc ls st A k n := by
  obtain ⟨hd, rfl⟩ := hd
  exact H.lift (fun hA hx hby hr => XS.aconstNull hA hx rfl (hb hby hd) hr) h
theorem IsGo.ldc (H : IsGo l Z a0 K n0 b0 y bytes maxL ret R Q G) {i : Nat} (hd : Nx bytes pc (.ldc i) 2 pc') {v : Int32} (w : (Jvm.Cond.constant y.cls i v).before a0 Z = true) (h : G pc' ls (.int v :: st) A k n) : G pc ls st A k n := by
  obtain ⟨hd, rfl⟩ := hd
  obtain ⟨p, e, s, m, args, below, meth, c, hx, hby, hml, hown, hnm, hret, hlk, hZ, hK, hb0, rfl⟩ := H
  intro T locs X hR hF
  obtain ⟨s₂, o, h1, h2⟩ := h T locs X hR hF
  exact ⟨s₂, o, X.ldcInt hx hown (mvT hZ w) (g := mkF m pc ls st) rfl (hb hby hd) _ h1, h2⟩
theorem IsGo.ldc2 (H : IsGo l Z a0 K n0 b0 y bytes maxL ret R Q G) {i : Nat} (hd : Nx bytes pc (.ldc2_w i) 3 pc') {v : Int64} (w : (Jvm.Cond.constantLong y.cls i v).before a0 Z = true) (h : G pc' ls (.long v :: st) A k n) : G pc ls st A k n := by
  obtain ⟨hd, rfl⟩ := hd
  obtain ⟨p, e, s, m, args, below, meth, c, hx, hby, hml, hown, hnm, hret, hlk, hZ, hK, hb0, rfl⟩ := H
  intro T locs X hR hF
  obtain ⟨s₂, o, h1, h2⟩ := h T locs X hR hF
  exact ⟨s₂, o, X.ldc2Long hx hown (mvT hZ w) (g := mkF m pc ls st) rfl (hb hby hd) _ h1, h2⟩
/-! ### sums -/
theorem IsGo.iadd (H : IsGo l Z a0 K n0 b0 y bytes maxL ret R Q G) (hd : Nx bytes pc .iadd 1 pc') {u v w : Int32} (hw : u + v = w) (h : G pc' ls (.int w :: st) A k n) : G pc ls (.int v :: .int u :: st) A k n := by
  obtain ⟨hd, rfl⟩ := hd
  subst hw
  exact H.lift (fun hA hx hby hr => XS.iadd hA hx rfl (hb hby hd) rfl hr) h
theorem IsGo.ladd (H : IsGo l Z a0 K n0 b0 y bytes maxL ret R Q G) (hd : Nx bytes pc .ladd 1 pc') {u v w : Int64} (hw : u + v = w) (h : G pc' ls (.long w :: st) A k n) : G pc ls (.long v :: .long u :: st) A k n := by
  obtain ⟨hd, rfl⟩ := hd
  subst hw
  exact H.lift (fun hA hx hby hr => XS.ladd hA hx rfl (hb hby hd) rfl hr) h
theorem IsGo.isub (H : IsGo l Z a0 K n0 b0 y bytes maxL ret R Q G) (hd : Nx bytes pc .isub 1 pc') {u v w : Int32} (hw : u - v = w) (h : G pc' ls (.int w :: st) A k n) : G pc ls (.int v :: .int u :: st) A k n := by
  obtain ⟨hd, rfl⟩ := hd
  subst hw
  exact H.lift (fun hA hx hby hr => XS.isub hA hx rfl (hb hby hd) rfl hr) h
theorem IsGo.lsub (H : IsGo l Z a0 K n0 b0 y bytes maxL ret R Q G) (hd : Nx bytes pc .lsub 1 pc') {u v w : Int64} (hw : u - v = w) (h : G pc' ls (.long w :: st) A k n) : G pc ls (.long v :: .long u :: st) A k n := by
  obtain ⟨hd, rfl⟩ := hd
  subst hw
  exact H.lift (fun hA hx hby hr => XS.lsub hA hx rfl (hb hby hd) rfl hr) h
theorem IsGo.imul (H : IsGo l Z a0 K n0 b0 y bytes maxL ret R Q G) (hd : Nx bytes pc .imul 1 pc') {u v w : Int32} (hw : u * v = w) (h : G pc' ls (.int w :: st) A k n) : G pc ls (.int v :: .int u :: st) A k n := by
  obtain ⟨hd, rfl⟩ := hd
  subst hw
  exact H.lift (fun hA hx hby hr => XS.imul hA hx rfl (hb hby hd) rfl hr) h
theorem IsGo.lmul (H : IsGo l Z a0 K n0 b0 y bytes maxL ret R Q G) (hd : Nx bytes pc .lmul 1 pc') {u v w : Int64} (hw : u * v = w) (h : G pc' ls (.long w :: st) A k n) : G pc ls (.long v :: .long u :: st) A k n := by
  obtain ⟨hd, rfl⟩ := hd
  subst hw
  exact H.lift (fun hA hx hby hr => XS.lmul hA hx rfl (hb hby hd) rfl hr) h
theorem IsGo.iand (H : IsGo l Z a0 K n0 b0 y bytes maxL ret R Q G) (hd : Nx bytes pc .iand 1 pc') {u v w : Int32} (hw : u &&& v = w) (h : G pc' ls (.int w :: st) A k n) : G pc ls (.int v :: .int u :: st) A k n := by
  obtain ⟨hd, rfl⟩ := hd
  subst hw
  exact H.lift (fun hA hx hby hr => XS.iand hA hx rfl (hb hby hd) rfl hr) h
theorem IsGo.land (H : IsGo l Z a0 K n0 b0 y bytes maxL ret R Q G) (hd : Nx bytes pc .land 1 pc') {u v w : Int64} (hw : u &&& v = w) (h : G pc' ls (.long w :: st) A k n) : G pc ls (.long v :: .long u :: st) A k n := by
  obtain ⟨hd, rfl⟩ := hd
  subst hw
  exact H.lift (fun hA hx hby hr => XS.land hA hx rfl (hb hby hd) rfl hr) h
theorem IsGo.ior (H : IsGo l Z a0 K n0 b0 y bytes maxL ret R Q G) (hd : Nx bytes pc .ior 1 pc') {u v w : Int32} (hw : u ||| v = w) (h : G pc' ls (.int w :: st) A k n) : G pc ls (.int v :: .int u :: st) A k n := by
  obtain ⟨hd, rfl⟩ := hd
  subst hw
  exact H.lift (fun hA hx hby hr => XS.ior hA hx rfl (hb hby hd) rfl hr) h
theorem IsGo.lor (H : IsGo l Z a0 K n0 b0 y bytes maxL ret R Q G) (hd : Nx bytes pc .lor 1 pc') {u v w : Int64} (hw : u ||| v = w) (h : G pc' ls (.long w :: st) A k n) : G pc ls (.long v :: .long u :: st) A k n := by
  obtain ⟨hd, rfl⟩ := hd
  subst hw
  exact H.lift (fun hA hx hby hr => XS.lor hA hx rfl (hb hby hd) rfl hr) h
theorem IsGo.ixor (H : IsGo l Z a0 K n0 b0 y bytes maxL ret R Q G) (hd : Nx bytes pc .ixor 1 pc') {u v w : Int32} (hw : u ^^^ v = w) (h : G pc' ls (.int w :: st) A k n) : G pc ls (.int v :: .int u :: st) A k n := by
  obtain ⟨hd, rfl⟩ := hd
  subst hw
  exact H.lift (fun hA hx hby hr => XS.ixor hA hx rfl (hb hby hd) rfl hr) h
theorem IsGo.lxor (H : IsGo l Z a0 K n0 b0 y bytes maxL ret R Q G) (hd : Nx bytes pc .lxor 1 pc') {u v w : Int64} (hw : u ^^^ v = w) (h : G pc' ls (.long w :: st) A k n) : G pc ls (.long v :: .long u :: st) A k n := by
  obtain ⟨hd, rfl⟩ := hd
  subst hw
  exact H.lift (fun hA hx hby hr => XS.lxor hA hx rfl (hb hby hd) rfl hr) h
theorem IsGo.ishl (H : IsGo l Z a0 K n0 b0 y bytes maxL ret R Q G) (hd : Nx bytes pc .ishl 1 pc') {u v w : Int32} (hw : u <<< (v &&& 31) = w) (h : G pc' ls (.int w :: st) A k n) : G pc ls (.int v :: .int u :: st) A k n := by
  obtain ⟨hd, rfl⟩ := hd
  subst hw
  exact H.lift (fun hA hx hby hr => XS.ishl hA hx rfl (hb hby hd) rfl hr) h
theorem IsGo.ishr (H : IsGo l Z a0 K n0 b0 y bytes maxL ret R Q G) (hd : Nx bytes pc .ishr 1 pc') {u v w : Int32} (hw : u >>> (v &&& 31) = w) (h : G pc' ls (.int w :: st) A k n) : G pc ls (.int v :: .int u :: st) A k n := by
  obtain ⟨hd, rfl⟩ := hd
  subst hw
  exact H.lift (fun hA hx hby hr => XS.ishr hA hx rfl (hb hby hd) rfl hr) h
theorem IsGo.iushr (H : IsGo l Z a0 K n0 b0 y bytes maxL ret R Q G) (hd : Nx bytes pc .iushr 1 pc') {u v w : Int32} (hw : (u.toUInt32 >>> (v &&& 31).toUInt32).toInt32 = w) (h : G pc' ls (.int w :: st) A k n) : G pc ls (.int v :: .int u :: st) A k n := by
  obtain ⟨hd, rfl⟩ := hd
  subst hw
  exact H.lift (fun hA hx hby hr => XS.iushr hA hx rfl (hb hby hd) rfl hr) h
theorem IsGo.lshl (H : IsGo l Z a0 K n0 b0 y bytes maxL ret R Q G) (hd : Nx bytes pc .lshl 1 pc') {u w : Int64} {v : Int32} (hw : u <<< (v &&& 0x3f).toInt64 = w) (h : G pc' ls (.long w :: st) A k n) : G pc ls (.int v :: .long u :: st) A k n := by
  obtain ⟨hd, rfl⟩ := hd
  subst hw
  exact H.lift (fun hA hx hby hr => XS.lshl hA hx rfl (hb hby hd) rfl hr) h
theorem IsGo.lshr (H : IsGo l Z a0 K n0 b0 y bytes maxL ret R Q G) (hd : Nx bytes pc .lshr 1 pc') {u w : Int64} {v : Int32} (hw : u >>> (v &&& 0x3f).toInt64 = w) (h : G pc' ls (.long w :: st) A k n) : G pc ls (.int v :: .long u :: st) A k n := by
  obtain ⟨hd, rfl⟩ := hd
  subst hw
  exact H.lift (fun hA hx hby hr => XS.lshr hA hx rfl (hb hby hd) rfl hr) h
theorem IsGo.lushr (H : IsGo l Z a0 K n0 b0 y bytes maxL ret R Q G) (hd : Nx bytes pc .lushr 1 pc') {u w : Int64} {v : Int32} (hw : (u.toUInt64 >>> (v &&& 0x3f).toInt64.toUInt64).toInt64 = w) (h : G pc' ls (.long w :: st) A k n) : G pc ls (.int v :: .long u :: st) A k n := by
  obtain ⟨hd, rfl⟩ := hd
  subst hw
  exact H.lift (fun hA hx hby hr => XS.lushr hA hx rfl (hb hby hd) rfl hr) h
theorem IsGo.ineg (H : IsGo l Z a0 K n0 b0 y bytes maxL ret R Q G) (hd : Nx bytes pc .ineg 1 pc') {u : Int32} {w : Int32} (hw : -u = w) (h : G pc' ls (.int w :: st) A k n) : G pc ls (.int u :: st) A k n := by
  obtain ⟨hd, rfl⟩ := hd
  subst hw
  exact H.lift (fun hA hx hby hr => XS.ineg hA hx rfl (hb hby hd) rfl hr) h
theorem IsGo.lneg (H : IsGo l Z a0 K n0 b0 y bytes maxL ret R Q G) (hd : Nx bytes pc .lneg 1 pc') {u : Int64} {w : Int64} (hw : -u = w) (h : G pc' ls (.long w :: st) A k n) : G pc ls (.long u :: st) A k n := by
  obtain ⟨hd, rfl⟩ := hd
  subst hw
  exact H.lift (fun hA hx hby hr => XS.lneg hA hx rfl (hb hby hd) rfl hr) h
theorem IsGo.i2l (H : IsGo l Z a0 K n0 b0 y bytes maxL ret R Q G) (hd : Nx bytes pc .i2l 1 pc') {u : Int32} {w : Int64} (hw : u.toInt64 = w) (h : G pc' ls (.long w :: st) A k n) : G pc ls (.int u :: st) A k n := by
  obtain ⟨hd, rfl⟩ := hd
  subst hw
  exact H.lift (fun hA hx hby hr => XS.i2l hA hx rfl (hb hby hd) rfl hr) h
theorem IsGo.l2i (H : IsGo l Z a0 K n0 b0 y bytes maxL ret R Q G) (hd : Nx bytes pc .l2i 1 pc') {u : Int64} {w : Int32} (hw : u.toInt32 = w) (h : G pc' ls (.int w :: st) A k n) : G pc ls (.long u :: st) A k n := by
  obtain ⟨hd, rfl⟩ := hd
  subst hw
  exact H.lift (fun hA hx hby hr => XS.l2i hA hx rfl (hb hby hd) rfl hr) h
theorem IsGo.i2b (H : IsGo l Z a0 K n0 b0 y bytes maxL ret R Q G) (hd : Nx bytes pc .i2b 1 pc') {u : Int32} {w : Int32} (hw : u.toInt8.toInt32 = w) (h : G pc' ls (.int w :: st) A k n) : G pc ls (.int u :: st) A k n := by
  obtain ⟨hd, rfl⟩ := hd
  subst hw
  exact H.lift (fun hA hx hby hr => XS.i2b hA hx rfl (hb hby hd) rfl hr) h
theorem IsGo.idiv (H : IsGo l Z a0 K n0 b0 y bytes maxL ret R Q G) (hd : Nx bytes pc .idiv 1 pc') {u v w : Int32} (hv : v ≠ 0) (hw : u / v = w) (h : G pc' ls (.int w :: st) A k n) : G pc ls (.int v :: .int u :: st) A k n := by
  obtain ⟨hd, rfl⟩ := hd
  subst hw
  exact H.lift (fun hA hx hby hr => XS.idiv hA hx rfl (hb hby hd) rfl hv hr) h
theorem IsGo.irem (H : IsGo l Z a0 K n0 b0 y bytes maxL ret R Q G) (hd : Nx bytes pc .irem 1 pc') {u v w : Int32} (hv : v ≠ 0) (hw : u % v = w) (h : G pc' ls (.int w :: st) A k n) : G pc ls (.int v :: .int u :: st) A k n := by
  obtain ⟨hd, rfl⟩ := hd
  subst hw
  have q : u - u / v * v = u % v := irem_eq_mod u v
  rw [← q] at h
  exact H.lift (fun hA hx hby hr => XS.irem hA hx rfl (hb hby hd) rfl hv hr) h
theorem IsGo.ldiv (H : IsGo l Z a0 K n0 b0 y bytes maxL ret R Q G) (hd : Nx bytes pc .ldiv 1 pc') {u v w : Int64} (hv : v ≠ 0) (hw : u / v = w) (h : G pc' ls (.long w :: st) A k n) : G pc ls (.long v :: .long u :: st) A k n := by
  obtain ⟨hd, rfl⟩ := hd
  subst hw
  exact H.lift (fun hA hx hby hr => XS.ldiv hA hx rfl (hb hby hd) rfl hv hr) h
theorem IsGo.lrem (H : IsGo l Z a0 K n0 b0 y bytes maxL ret R Q G) (hd : Nx bytes pc .lrem 1 pc') {u v w : Int64} (hv : v ≠ 0) (hw : u % v = w) (h : G pc' ls (.long w :: st) A k n) : G pc ls (.long v :: .long u :: st) A k n := by
  obtain ⟨hd, rfl⟩ := hd
  subst hw
  rw [← lrem_mod u v] at h
  exact H.lift (fun hA hx hby hr => XS.lrem hA hx rfl (hb hby hd) rfl hv hr) h
theorem IsGo.iinc (H : IsGo l Z a0 K n0 b0 y bytes maxL ret R Q G) {i : Nat} {cst : Int} (hd : Nx bytes pc (.iinc i cst) 3 pc') {u w : Int32} (hl : ls[i]? = some (.val (.int u))) (hw : u + Int32.ofInt cst = w) (hl' : storeLocals ls i (.int w) = some ls') (h : G pc' ls' st A k n) : G pc ls st A k n := by
  obtain ⟨hd, rfl⟩ := hd
  subst hw
  exact H.lift (fun hA hx hby hr => XS.iinc hA hx rfl (hb hby hd) hl hl' hr) h
/-! ### the stack -/
theorem IsGo.dup (H : IsGo l Z a0 K n0 b0 y bytes maxL ret R Q G) (hd : Nx bytes pc .dup 1 pc') {u : Value} (hc : u.category = 1) (h : G pc' ls (u :: u :: st) A k n) : G pc ls (u :: st) A k n := by
  obtain ⟨hd, rfl⟩ := hd
  exact H.lift (fun hA hx hby hr => XS.dup hA hx rfl (hb hby hd) rfl hc hr) h
theorem IsGo.dupX1 (H : IsGo l Z a0 K n0 b0 y bytes maxL ret R Q G) (hd : Nx bytes pc .dup_x1 1 pc') {u v : Value} (hc : u.category = 1) (hc' : v.category = 1) (h : G pc' ls (u :: v :: u :: st) A k n) : G pc ls (u :: v :: st) A k n := by
  obtain ⟨hd, rfl⟩ := hd
  exact H.lift (fun hA hx hby hr => XS.dupX1 hA hx rfl (hb hby hd) rfl hc hc' hr) h
theorem IsGo.dup2 (H : IsGo l Z a0 K n0 b0 y bytes maxL ret R Q G) (hd : Nx bytes pc .dup2 1 pc') {u v : Value} (hc : u.category = 1) (hc' : v.category = 1) (h : G pc' ls (u :: v :: u :: v :: st) A k n) : G pc ls (u :: v :: st) A k n := by
  obtain ⟨hd, rfl⟩ := hd
  exact H.lift (fun hA hx hby hr => XT.dup2 hA hx rfl (hb hby hd) rfl hc hc' hr) h
theorem IsGo.dup2L (H : IsGo l Z a0 K n0 b0 y bytes maxL ret R Q G) (hd : Nx bytes pc .dup2 1 pc') {u : Int64} (h : G pc' ls (.long u :: .long u :: st) A k n) : G pc ls (.long u :: st) A k n := by
  obtain ⟨hd, rfl⟩ := hd
  exact H.lift (fun hA hx hby hr => XT.dup2L hA hx rfl (hb hby hd) rfl hr) h
theorem IsGo.pop (H : IsGo l Z a0 K n0 b0 y bytes maxL ret R Q G) (hd : Nx bytes pc .pop 1 pc') {u : Value} (hc : u.category = 1) (h : G pc' ls st A k n) : G pc ls (u :: st) A k n := by
  obtain ⟨hd, rfl⟩ := hd
  exact H.lift (fun hA hx hby hr => XS.pop hA hx rfl (hb hby hd) rfl hc hr) h
theorem dupX2_step {tb : Tables} [Ours tb] {e : Env} {below : List Frame} {T target : State} {m : MethodId} {c : Code} {g : JFrame} (h : At T m c below) (hx : tb.exec = Jvm.exec) (hg : g.method = m) {u v w : Value} {rest : List Value} (hd : decode c.code g.pc = .ok (.dup_x2, 1)) (hs : g.stack = u :: v :: w :: rest) (hc : u.category = 1) (hc2 : v.category = 1) (hc3 : w.category = 1)
    (hr : Steps tb e below (T.setTop { g with pc := g.pc + 1, stack := u :: v :: w :: u :: rest }) target) : Steps tb e below (T.setTop g) target := by
  subst hg
  jvm_step h [h.top, hx, hd, hs, hc, hc2, hc3, dup_x2.wp_sem]
  exact hr
theorem pop2L_step {tb : Tables} [Ours tb] {e : Env} {below : List Frame} {T target : State} {m : MethodId} {c : Code} {g : JFrame} (h : At T m c below) (hx : tb.exec = Jvm.exec) (hg : g.method = m) {u : Int64} {rest : List Value} (hd : decode c.code g.pc = .ok (.pop2, 1)) (hs : g.stack = .long u :: rest)
    (hr : Steps tb e below (T.setTop { g with pc := g.pc + 1, stack := rest }) target) : Steps tb e below (T.setTop g) target := by
  subst hg
  jvm_step h [h.top, hx, hd, hs, pop2.wp_sem, Value.category]
  exact hr
theorem IsGo.dupX2 (H : IsGo l Z a0 K n0 b0 y bytes maxL ret R Q G) (hd : Nx bytes pc .dup_x2 1 pc') {u v w : Value} (hc : u.category = 1) (hc' : v.category = 1) (hc3 : w.category = 1) (h : G pc' ls (u :: v :: w :: u :: st) A k n) : G pc ls (u :: v :: w :: st) A k n := by
  obtain ⟨hd, rfl⟩ := hd
  exact H.lift (fun hA hx hby hr => dupX2_step hA hx rfl (hb hby hd) rfl hc hc' hc3 hr) h
theorem IsGo.pop2L (H : IsGo l Z a0 K n0 b0 y bytes maxL ret R Q G) (hd : Nx bytes pc .pop2 1 pc') {u : Int64} (h : G pc' ls st A k n) : G pc ls (.long u :: st) A k n := by
  obtain ⟨hd, rfl⟩ := hd
  exact H.lift (fun hA hx hby hr => pop2L_step hA hx rfl (hb hby hd) rfl hr) h
/-! ### branches -/
theorem IsGo.goto (H : IsGo l Z a0 K n0 b0 y bytes maxL ret R Q G) {f : Nat} (hd : Bx bytes pc .goto pc' f) (h : G pc' ls st A k n) : G pc ls st A k n := by
  obtain ⟨o, hd, ho, hp, -⟩ := hd
  exact H.lift (fun hA hx hby hr => XS.goto hA hx rfl (pc0 := pc) (pc' := pc') rfl (hb hby hd) ho hp hr) h
/-- what a comparison of two ints says -/
def CP : ClassFile.Cond → Int32 → Int32 → Prop
  | .eq, u, v => u = v
  | .ne, u, v => ¬ u = v
  | .lt, u, v => u < v
  | .ge, u, v => ¬ u < v
  | .gt, u, v => v < u
  | .le, u, v => ¬ v < u
def CPL : ClassFile.Cond → Int64 → Int64 → Prop
  | .eq, u, v => u = v
  | .ne, u, v => ¬ u = v
  | .lt, u, v => u < v
  | .ge, u, v => ¬ u < v
  | .gt, u, v => v < u
  | .le, u, v => ¬ v < u
def ng : ClassFile.Cond → ClassFile.Cond
  | .eq => .ne | .ne => .eq | .lt => .ge | .ge => .lt | .gt => .le | .le => .gt
theorem cp_or (cd : ClassFile.Cond) (u v : Int32) : CP cd u v ∨ CP (ng cd) u v := by
  cases cd <;> simp only [CP, ng] <;> first | exact Classical.em _ | exact (Classical.em _).symm
theorem cpl_or (cd : ClassFile.Cond) (u v : Int64) : CPL cd u v ∨ CPL (ng cd) u v := by
  cases cd <;> simp only [CPL, ng] <;> first | exact Classical.em _ | exact (Classical.em _).symm
theorem cp_t {cd : ClassFile.Cond} {u v : Int32} (h : CP cd u v) : if_icmp.holds cd u v = true := by
  cases cd <;> simp only [CP] at h
  · exact XT.ii_eq_t h
  · exact XT.ii_ne_t h
  · exact XT.ii_lt_t h
  · exact XT.ii_ge_t h
  · exact XT.ii_gt_t h
  · exact XT.ii_le_t h
theorem cp_f {cd : ClassFile.Cond} {u v : Int32} (h : CP (ng cd) u v) : if_icmp.holds cd u v = false := by
  cases cd <;> simp only [CP, ng] at h
  · exact XT.ii_eq_f h
  · exact XT.ii_ne_f h
  · exact XT.ii_lt_f h
  · exact XT.ii_ge_f h
  · exact XT.ii_gt_f h
  · exact XT.ii_le_f h
theorem IsGo.icmpT (H : IsGo l Z a0 K n0 b0 y bytes maxL ret R Q G) {cd : ClassFile.Cond} {t f : Nat} (hd : Bx bytes pc (.if_icmp cd) t f) {u v : Int32} (hc : CP cd u v) (h : G t ls st A k n) : G pc ls (.int v :: .int u :: st) A k n := by
  obtain ⟨o, hd, ho, hp, rfl⟩ := hd
  exact H.lift (fun hA hx hby hr => XS.icmpYes hA hx rfl (pc0 := pc) (pc' := t) rfl (hb hby hd) rfl (cp_t hc) ho hp hr) h
theorem IsGo.icmpF (H : IsGo l Z a0 K n0 b0 y bytes maxL ret R Q G) {cd : ClassFile.Cond} {t f : Nat} (hd : Bx bytes pc (.if_icmp cd) t f) {u v : Int32} (hc : CP (ng cd) u v) (h : G f ls st A k n) : G pc ls (.int v :: .int u :: st) A k n := by
  obtain ⟨o, hd, ho, hp, rfl⟩ := hd
  exact H.lift (fun hA hx hby hr => XS.icmpNo hA hx rfl (hb hby hd) rfl (cp_f hc) hr) h
theorem IsGo.icmpS (H : IsGo l Z a0 K n0 b0 y bytes maxL ret R Q G) {cd : ClassFile.Cond} {t f : Nat} (hd : Bx bytes pc (.if_icmp cd) t f) {u v : Int32} (h1 : CP cd u v → G t ls st A k n) (h2 : CP (ng cd) u v → G f ls st A k n) : G pc ls (.int v :: .int u :: st) A k n :=
  (cp_or cd u v).elim (fun q => H.icmpT hd q (h1 q)) (fun q => H.icmpF hd q (h2 q))
theorem IsGo.ifT (H : IsGo l Z a0 K n0 b0 y bytes maxL ret R Q G) {cd : ClassFile.Cond} {t f : Nat} (hd : Bx bytes pc (.ifCond cd) t f) {u : Int32} (hc : CP cd u 0) (h : G t ls st A k n) : G pc ls (.int u :: st) A k n := by
  obtain ⟨o, hd, ho, hp, rfl⟩ := hd
  exact H.lift (fun hA hx hby hr => XS.ifYes hA hx rfl (pc0 := pc) (pc' := t) rfl (hb hby hd) rfl (by rw [if0]; exact cp_t hc) ho hp hr) h
theorem IsGo.ifF (H : IsGo l Z a0 K n0 b0 y bytes maxL ret R Q G) {cd : ClassFile.Cond} {t f : Nat} (hd : Bx bytes pc (.ifCond cd) t f) {u : Int32} (hc : CP (ng cd) u 0) (h : G f ls st A k n) : G pc ls (.int u :: st) A k n := by
  obtain ⟨o, hd, ho, hp, rfl⟩ := hd
  exact H.lift (fun hA hx hby hr => XS.ifNo hA hx rfl (hb hby hd) rfl (by rw [if0]; exact cp_f hc) hr) h
theorem IsGo.ifS (H : IsGo l Z a0 K n0 b0 y bytes maxL ret R Q G) {cd : ClassFile.Cond} {t f : Nat} (hd : Bx bytes pc (.ifCond cd) t f) {u : Int32} (h1 : CP cd u 0 → G t ls st A k n) (h2 : CP (ng cd) u 0 → G f ls st A k n) : G pc ls (.int u :: st) A k n :=
  (cp_or cd u 0).elim (fun q => H.ifT hd q (h1 q)) (fun q => H.ifF hd q (h2 q))
theorem cpl_cp {cd : ClassFile.Cond} {u v : Int64} (h : CPL cd u v) : CP cd (lcmpW u v) 0 := by
  cases cd <;> simp only [CPL] at h <;> simp only [CP]
  · exact (lw_eq u v).mpr h
  · exact fun q => h ((lw_eq u v).mp q)
  · exact (lw_lt u v).mpr h
  · exact fun q => h ((lw_lt u v).mp q)
  · exact (lw_gt u v).mpr h
  · exact fun q => h ((lw_gt u v).mp q)
theorem IsGo.lcmp (H : IsGo l Z a0 K n0 b0 y bytes maxL ret R Q G) (hd : Nx bytes pc .lcmp 1 pc') {u v : Int64} (h : G pc' ls (.int (lcmpW u v) :: st) A k n) : G pc ls (.long v :: .long u :: st) A k n := by
  obtain ⟨hd, rfl⟩ := hd
  exact H.lift (fun hA hx hby hr => XS.lcmp hA hx rfl (hb hby hd) rfl hr) h
theorem IsGo.lifT (H : IsGo l Z a0 K n0 b0 y bytes maxL ret R Q G) (hd0 : Nx bytes pc .lcmp 1 pc') {cd : ClassFile.Cond} {t f : Nat} (hd : Bx bytes pc' (.ifCond cd) t f) {u v : Int64} (hc : CPL cd u v) (h : G t ls st A k n) : G pc ls (.long v :: .long u :: st) A k n :=
  H.lcmp hd0 (H.ifT hd (cpl_cp hc) h)
theorem cpl_ng {cd : ClassFile.Cond} {u v : Int64} (h : CPL (ng cd) u v) : CP (ng cd) (lcmpW u v) 0 := cpl_cp h
theorem IsGo.lifF (H : IsGo l Z a0 K n0 b0 y bytes maxL ret R Q G) (hd0 : Nx bytes pc .lcmp 1 pc') {cd : ClassFile.Cond} {t f : Nat} (hd : Bx bytes pc' (.ifCond cd) t f) {u v : Int64} (hc : CPL (ng cd) u v) (h : G f ls st A k n) : G pc ls (.long v :: .long u :: st) A k n :=
  H.lcmp hd0 (H.ifF hd (cpl_ng hc) h)
theorem IsGo.lifS (H : IsGo l Z a0 K n0 b0 y bytes maxL ret R Q G) (hd0 : Nx bytes pc .lcmp 1 pc') {cd : ClassFile.Cond} {t f : Nat} (hd : Bx bytes pc' (.ifCond cd) t f) {u v : Int64} (h1 : CPL cd u v → G t ls st A k n) (h2 : CPL (ng cd) u v → G f ls st A k n) : G pc ls (.long v :: .long u :: st) A k n :=
  (cpl_or cd u v).elim (fun q => H.lifT hd0 hd q (h1 q)) (fun q => H.lifF hd0 hd q (h2 q))
theorem IsGo.ifnullT (H : IsGo l Z a0 K n0 b0 y bytes maxL ret R Q G) {t f : Nat} (hd : Bx bytes pc .ifnull t f) (h : G t ls st A k n) : G pc ls (.null :: st) A k n := by
  obtain ⟨o, hd, ho, hp, rfl⟩ := hd
  exact H.lift (fun hA hx hby hr => XS.ifnullYes hA hx rfl (pc0 := pc) (pc' := t) rfl (hb hby hd) rfl ho hp hr) h
theorem IsGo.ifnullF (H : IsGo l Z a0 K n0 b0 y bytes maxL ret R Q G) {t f : Nat} (hd : Bx bytes pc .ifnull t f) {b : Addr} (h : G f ls st A k n) : G pc ls (.ref b :: st) A k n := by
  obtain ⟨o, hd, ho, hp, rfl⟩ := hd
  exact H.lift (fun hA hx hby hr => XS.ifnullNo hA hx rfl (hb hby hd) rfl hr) h
theorem IsGo.ifnonnullT (H : IsGo l Z a0 K n0 b0 y bytes maxL ret R Q G) {t f : Nat} (hd : Bx bytes pc .ifnonnull t f) {b : Addr} (h : G t ls st A k n) : G pc ls (.ref b :: st) A k n := by
  obtain ⟨o, hd, ho, hp, rfl⟩ := hd
  exact H.lift (fun hA hx hby hr => XS.ifnonnullYes hA hx rfl (pc0 := pc) (pc' := t) rfl (hb hby hd) rfl ho hp hr) h
theorem IsGo.ifnonnullF (H : IsGo l Z a0 K n0 b0 y bytes maxL ret R Q G) {t f : Nat} (hd : Bx bytes pc .ifnonnull t f) (h : G f ls st A k n) : G pc ls (.null :: st) A k n := by
  obtain ⟨o, hd, ho, hp, rfl⟩ := hd
  exact H.lift (fun hA hx hby hr => XS.ifnonnullNo hA hx rfl (hb hby hd) rfl hr) h
theorem IsGo.acmp (H : IsGo l Z a0 K n0 b0 y bytes maxL ret R Q G) {cd : ClassFile.ACond} {t f : Nat} (hd : Bx bytes pc (.if_acmp cd) t f) {u v : Value} (h1 : u.isRef = true) (h2 : v.isRef = true) {same : Bool} (hq : decide (u = v) = same) (h : G (if acV cd same = true then t else f) ls st A k n) : G pc ls (v :: u :: st) A k n := by
  obtain ⟨o, hd, ho, hp, rfl⟩ := hd
  obtain ⟨p, e, s, m, args, below, meth, c, hx, hby, hml, hown, hnm, hret, hlk, hZ, hK, hb0, rfl⟩ := H
  intro T locs X hR hF
  obtain ⟨s₂, oo, q1, q2⟩ := h T locs X hR hF
  exact ⟨s₂, oo, RoadKit.acmp X hx (g := mkF m pc ls (v :: u :: st)) rfl h1 h2 (pc0 := pc) rfl (hb hby hd) rfl hq ho (by rw [hp]) q1, q2⟩
/-! ### the heap -/
def FL (Z : State) (a0 : Array Value) (K : KTab) (own : String) (idx k j : Nat) : Prop := ∃ C fs O nm d host, K[k]? = some (C, fs) ∧ fs[j]? = some (O, nm, d) ∧ ((Jvm.Cond.fieldLink own idx O nm d).before a0 Z = true ∨ (Jvm.Cond.fieldLinkNest own idx O nm d host).before a0 Z = true)
def PL (Z : State) (a0 : Array Value) (K : KTab) (own mname : String) (idx k j : Nat) (ty : FieldType) : Prop := ∃ C fs O nm d host, K[k]? = some (C, fs) ∧ fs[j]? = some (O, nm, d) ∧ ((Jvm.Cond.fieldLink own idx O nm d).before a0 Z = true ∨ (Jvm.Cond.fieldLinkNest own idx O nm d host).before a0 Z = true) ∧
  ((Jvm.Cond.lays C O nm d).before a0 Z = true ∨ ((Jvm.Cond.laysFinal C O nm d).before a0 Z = true ∧ own = O ∧ mname = "<init>")) ∧ parseFieldDescriptor d = some ty
theorem IsGo.getfield (H : IsGo l Z a0 K n0 b0 y bytes maxL ret R Q G) {idx kk j i : Nat} (hd : Nx bytes pc (.getfield idx) 3 pc') (L : FL Z a0 K y.cls idx kk j) {vs : List Value} {v : Value} (hA : A[i]? = some (.inl (kk, vs))) (hv : vs[j]? = some v) (h : G pc' ls (v :: st) A k n) : G pc ls (.ref (n0 + i) :: st) A k n := by
  obtain ⟨hd, rfl⟩ := hd
  obtain ⟨p, e, s, m, args, below, meth, c, hx, hby, hml, hown, hnm, hret, hlk, hZ, hK, hb0, rfl⟩ := H
  obtain ⟨C, fs, O, nm, d, host, hk, hj, w⟩ := L
  intro T locs X hR hF
  obtain ⟨C', fs', hk', hE, hlen, hf⟩ := hR.2 i _ hA
  cases hk.symm.trans hk'
  obtain ⟨T', X', eT, sp⟩ := getF X hx hZ hown w Via.refl rfl (hf j _ v hj hv) (g := mkF m pc ls (.ref (n0 + i) :: st)) rfl rfl (hb hby hd)
  obtain ⟨s₂, o, h1, h2⟩ := h T' locs X' (by rw [eT]; exact hR) hF
  exact ⟨s₂, o, sp _ h1, h2⟩
theorem IsGo.putfield (H : IsGo l Z a0 K n0 b0 y bytes maxL ret R Q G) {idx kk j i : Nat} {ty : FieldType} (hd : Nx bytes pc (.putfield idx) 3 pc') (L : PL Z a0 K y.cls y.name idx kk j ty) {vs : List Value} {v : Value} (hA : A[i]? = some (.inl (kk, vs))) (hn : narrow ty v = v) (hf : fits ty v = true) (hA' : A.set i (.inl (kk, vs.set j v)) = A') (h : G pc' ls st A' k n) : G pc ls (v :: .ref (n0 + i) :: st) A k n := by
  obtain ⟨hd, rfl⟩ := hd
  obtain ⟨p, e, s, m, args, below, meth, c, hx, hby, hml, hown, hnm, hret, hlk, hZ, hK, hb0, rfl⟩ := H
  obtain ⟨C, fs, O, nm, d, host, hk, hj, w, wl, hty⟩ := L
  subst hA'
  intro T locs X hR hF
  have hO := hR.2 i _ hA
  obtain ⟨C', fs', hk', hE, hlen, hfl⟩ := hR.2 i _ hA
  cases hk.symm.trans hk'
  obtain ⟨⟨ki, wi⟩, -, -⟩ := hK kk C fs hk
  have hlt : j < vs.length := by rw [hlen]; exact (List.getElem?_eq_some_iff.mp hj).1
  obtain ⟨T', h', X', eT, W, sp⟩ := putF X hx hZ hown w Via.refl rfl (hfl j _ vs[j] hj (List.getElem?_eq_getElem hlt)) hE (by rw [hnm]; exact wl) wi hty hn hf (g := mkF m pc ls (v :: .ref (n0 + i) :: st)) rfl rfl (hb hby hd)
  obtain ⟨s₂, o, h1, h2⟩ := h T' _ X' (by rw [eT]; exact hR.set W (hO.setF hK hk hj W)) (Fr.snoc X' hF (Nat.le_add_right _ _))
  exact ⟨s₂, o, sp _ h1, h2⟩
def NL (Z : State) (a0 : Array Value) (K : KTab) (own : String) (idx kk sz : Nat) (dv : List Value) : Prop := ∃ C fs, K[kk]? = some (C, fs) ∧ (Jvm.Cond.classLink own idx C).before a0 Z = true ∧ (Jvm.Cond.instantiable C sz).before a0 Z = true ∧ (Jvm.Cond.initialized C).before a0 Z = true ∧ fs.map (fun f => (parseFieldDescriptor f.2.2).map defaultValue) = dv.map some
theorem size_up {p : Program} {e : Env} {s T' : State} {m : MethodId} {args : Array Value} {below : List Frame} {meth : Method} {c : Code} {locs : List Loc} {h : Heap} (X : Stand p l e R s m args below meth c T' locs (k + 1) n) (hb : s.heap.size = n0 + b0) (hh : h.size = n0 + A.length) (hk : A.length = b0 + k) (hlt : h.size < T'.heap.size) : T'.heap.size = n0 + (A.length + 1) := by
  have := X.heapSize
  omega
theorem IsGo.new (H : IsGo l Z a0 K n0 b0 y bytes maxL ret R Q G) {idx kk sz i : Nat} {dv : List Value} (hd : Nx bytes pc (.new idx) 3 pc') (L : NL Z a0 K y.cls idx kk sz dv) (hk : A.length = b0 + k) (hc : k + 1 ≤ R.cells) (hs : n + sz ≤ R.slots) (hi : A.length = i) (hA' : A ++ [.inl (kk, dv)] = A') (hk' : k + 1 = k') (hn' : n + sz = n') (h : G pc' ls (.ref (n0 + i) :: st) A' k' n') : G pc ls st A k n := by
  obtain ⟨hd, rfl⟩ := hd
  obtain ⟨p, e, s, m, args, below, meth, c, hx, hby, hml, hown, hnm, hret, hlk, hZ, hK, hb0, rfl⟩ := H
  obtain ⟨C, fs, hkk, w1, w2, w3, hdv⟩ := L
  subst hA' hk' hn' hi
  intro T locs X hR hF
  obtain ⟨T', h', X', eT, E, EA, D, -, sp⟩ := newO X hx hZ hown w1 w2 w3 rfl (g := mkF m pc ls st) rfl (hb hby hd) hc hs
  have hsz : h'.size = n0 + (A.length + 1) := by rw [← eT]; exact size_up X' hb0 hR.1 hk (by rw [eT]; exact EA.lt)
  rw [hR.1] at EA D
  have hlen : dv.length = fs.length := by simpa using (congrArg List.length hdv).symm
  obtain ⟨-, kl, -⟩ := hK kk C fs hkk
  have hN : ObAt Z K h' (n0 + A.length) (.inl (kk, dv)) := ⟨C, fs, hkk, EA, hlen, fun j f v q r => by
    obtain ⟨L1, t, ht⟩ := kl j f q
    have e1 : (fs.map (fun f => (parseFieldDescriptor f.2.2).map defaultValue))[j]? = some (some (defaultValue t)) := by simp [List.getElem?_map, q, ht]
    rw [hdv, List.getElem?_map, r] at e1
    simp only [Option.map_some, Option.some.injEq] at e1
    rw [e1]; exact D L1 ht⟩
  obtain ⟨s₂, o, h1, h2⟩ := h T' locs X' (by rw [eT]; exact hR.push E hsz hN) hF
  rw [← hR.1] at h1
  exact ⟨s₂, o, sp _ h1, h2⟩
def AL (Z : State) (a0 : Array Value) (t : FieldType) : Prop := (Jvm.Cond.arrayClass t).before a0 Z = true
theorem tn_of {z : Int32} {N : Nat} (h : z.toInt = (N : Int)) : ¬ z < 0 ∧ z.toNatClampNeg = N := by
  constructor
  · intro q
    have := Int32.lt_iff_toInt_lt.mp q
    simp at this; omega
  · simp [Int32.toNatClampNeg, h]
theorem IsGo.newarray (H : IsGo l Z a0 K n0 b0 y bytes maxL ret R Q G) {aty : ArrayType} {i N cap : Nat} {z : Int32} {vs : List Value} {ty : FieldType} (hd : Nx bytes pc (.newarray aty) 2 pc') (hty : newarray.typeOf aty = ty) (w : AL Z a0 ty) (hz : z.toInt = (N : Int)) (hvs : List.replicate N (defaultValue ty) = vs) (hcap : N ≤ cap) (hbig : cap * 8 ≤ 536870912) (hk : A.length = b0 + k) (hc : k + 1 ≤ R.cells) (hs : n + cap ≤ R.slots) (hi : A.length = i) (hA' : A ++ [.inr (ty, vs)] = A') (hk' : k + 1 = k') (hn' : n + cap = n') (h : G pc' ls (.ref (n0 + i) :: st) A' k' n') : G pc ls (.int z :: st) A k n := by
  obtain ⟨hd, rfl⟩ := hd
  obtain ⟨p, e, s, m, args, below, meth, c, hx, hby, hml, hown, hnm, hret, hlk, hZ, hK, hb0, rfl⟩ := H
  subst hA' hk' hn' hi hty
  obtain ⟨z1, z2⟩ := tn_of hz
  intro T locs X hR hF
  obtain ⟨T', h', cA, X', eT, E, Ar, EA, sp⟩ := newPE X hx hZ w rfl (g := mkF m pc ls (.int z :: st)) rfl (hb hby hd) rfl z1 (by rw [z2]; exact hcap) hbig hc hs rfl
  have hsz : h'.size = n0 + (A.length + 1) := by rw [← eT]; exact size_up X' hb0 hR.1 hk (by rw [eT]; exact EA.lt)
  rw [hR.1] at EA Ar
  have hN : ObAt Z K h' (n0 + A.length) (.inr (newarray.typeOf aty, vs)) := ⟨⟨EA, fun w hw => by rw [← hvs] at hw; rw [(List.mem_replicate.mp hw).2]; cases aty <;> rfl⟩, _, Ar, by simp [newA, z2, ← hvs], fun C q => by cases aty <;> simp [newarray.typeOf] at q⟩
  obtain ⟨s₂, o, h1, h2⟩ := h T' locs X' (by rw [eT]; exact hR.push E hsz hN) hF
  rw [← hR.1] at h1
  exact ⟨s₂, o, sp _ h1, h2⟩
theorem IsGo.anewarray (H : IsGo l Z a0 K n0 b0 y bytes maxL ret R Q G) {idx i N cap : Nat} {z : Int32} {vs : List Value} {C : String} (hd : Nx bytes pc (.anewarray idx) 3 pc') (w1 : (Jvm.Cond.classLink y.cls idx C).before a0 Z = true) (w2 : (Jvm.Cond.arrayOver (.object C)).before a0 Z = true) (hz : z.toInt = (N : Int)) (hvs : List.replicate N Value.null = vs) (hcap : N ≤ cap) (hbig : cap * 8 ≤ 536870912) (hk : A.length = b0 + k) (hc : k + 1 ≤ R.cells) (hs : n + cap ≤ R.slots) (hi : A.length = i) (hA' : A ++ [.inr (.object C, vs)] = A') (hk' : k + 1 = k') (hn' : n + cap = n') (h : G pc' ls (.ref (n0 + i) :: st) A' k' n') : G pc ls (.int z :: st) A k n := by
  obtain ⟨hd, rfl⟩ := hd
  obtain ⟨p, e, s, m, args, below, meth, c, hx, hby, hml, hown, hnm, hret, hlk, hZ, hK, hb0, rfl⟩ := H
  subst hA' hk' hn' hi
  obtain ⟨z1, z2⟩ := tn_of hz
  intro T locs X hR hF
  obtain ⟨T', h', cA, X', eT, E, Ar, EA, Ov, sp⟩ := newRE X hx hZ hown w1 w2 rfl (g := mkF m pc ls (.int z :: st)) rfl (hb hby hd) rfl z1 (by rw [z2]; exact hcap) hbig hc hs rfl
  have hsz : h'.size = n0 + (A.length + 1) := by rw [← eT]; exact size_up X' hb0 hR.1 hk (by rw [eT]; exact EA.lt)
  rw [hR.1] at EA Ar
  have hN : ObAt Z K h' (n0 + A.length) (.inr (.object C, vs)) := ⟨⟨EA, fun w hw => by rw [← hvs] at hw; rw [(List.mem_replicate.mp hw).2]; rfl⟩, _, Ar, by simp [newA, z2, ← hvs, defaultValue], fun C' q => by cases q; exact Ov⟩
  obtain ⟨s₂, o, h1, h2⟩ := h T' locs X' (by rw [eT]; exact hR.push E hsz hN) hF
  rw [← hR.1] at h1
  exact ⟨s₂, o, sp _ h1, h2⟩
theorem arr_in {c : Cell} {vs : List Value} {z : Int32} {j : Nat} (hz : z.toInt = (j : Int)) (hs : c.slots = vs.toArray) (hj : j < vs.length) : ¬ (z < 0 ∨ c.slots.size ≤ z.toNatClampNeg) := by
  obtain ⟨z1, z2⟩ := tn_of hz
  rw [z2, hs]; simp [z1]; omega
theorem IsGo.arraylength (H : IsGo l Z a0 K n0 b0 y bytes maxL ret R Q G) (hd : Nx bytes pc .arraylength 1 pc') {i : Nat} {ty : FieldType} {vs : List Value} {z : Int32} (hA : A[i]? = some (.inr (ty, vs))) (hz : vs.length.toInt32 = z) (h : G pc' ls (.int z :: st) A k n) : G pc ls (.ref (n0 + i) :: st) A k n := by
  obtain ⟨hd, rfl⟩ := hd
  obtain ⟨p, e, s, m, args, below, meth, c, hx, hby, hml, hown, hnm, hret, hlk, hZ, hK, hb0, rfl⟩ := H
  subst hz
  intro T locs X hR hF
  obtain ⟨EA, cl, Ar, hcs, -⟩ := hR.2 i _ hA
  obtain ⟨s₂, o, h1, h2⟩ := h T locs X hR hF
  have q : vs.length = cl.slots.size := by rw [hcs]; simp
  rw [q] at h1
  exact ⟨s₂, o, X.arraylength hx Ar.1 (State.isArrayOf_alike hZ.alike Ar.2.1) (g := mkF m pc ls (.ref (n0 + i) :: st)) rfl rfl (hb hby hd) _ h1, h2⟩
theorem IsGo.iaload (H : IsGo l Z a0 K n0 b0 y bytes maxL ret R Q G) (hd : Nx bytes pc .iaload 1 pc') {i j : Nat} {vs : List Value} {z : Int32} {v : Value} (hA : A[i]? = some (.inr (.int, vs))) (hz : z.toInt = (j : Int)) (hv : vs[j]? = some v) (h : G pc' ls (v :: st) A k n) : G pc ls (.int z :: .ref (n0 + i) :: st) A k n := by
  obtain ⟨hd, rfl⟩ := hd
  obtain ⟨p, e, s, m, args, below, meth, c, hx, hby, hml, hown, hnm, hret, hlk, hZ, hK, hb0, rfl⟩ := H
  intro T locs X hR hF
  obtain ⟨EA, cl, Ar, hcs, -⟩ := hR.2 i _ hA
  obtain ⟨s₂, o, h1, h2⟩ := h T locs X hR hF
  exact ⟨s₂, o, X.iaload hx Ar.1 (State.isArrayOf_alike hZ.alike Ar.2.1) Ar.2.2 (arr_in hz hcs (List.getElem?_eq_some_iff.mp hv).1) (v := v) (by rw [(tn_of hz).2, hcs]; simpa using hv) (g := mkF m pc ls (.int z :: .ref (n0 + i) :: st)) rfl rfl (hb hby hd) _ h1, h2⟩
theorem IsGo.laload (H : IsGo l Z a0 K n0 b0 y bytes maxL ret R Q G) (hd : Nx bytes pc .laload 1 pc') {i j : Nat} {vs : List Value} {z : Int32} {v : Value} (hA : A[i]? = some (.inr (.long, vs))) (hz : z.toInt = (j : Int)) (hv : vs[j]? = some v) (h : G pc' ls (v :: st) A k n) : G pc ls (.int z :: .ref (n0 + i) :: st) A k n := by
  obtain ⟨hd, rfl⟩ := hd
  obtain ⟨p, e, s, m, args, below, meth, c, hx, hby, hml, hown, hnm, hret, hlk, hZ, hK, hb0, rfl⟩ := H
  intro T locs X hR hF
  obtain ⟨EA, cl, Ar, hcs, -⟩ := hR.2 i _ hA
  obtain ⟨s₂, o, h1, h2⟩ := h T locs X hR hF
  exact ⟨s₂, o, X.laload hx Ar.1 (State.isArrayOf_alike hZ.alike Ar.2.1) Ar.2.2 (arr_in hz hcs (List.getElem?_eq_some_iff.mp hv).1) (v := v) (by rw [(tn_of hz).2, hcs]; simpa using hv) (g := mkF m pc ls (.int z :: .ref (n0 + i) :: st)) rfl rfl (hb hby hd) _ h1, h2⟩
theorem IsGo.aaload (H : IsGo l Z a0 K n0 b0 y bytes maxL ret R Q G) (hd : Nx bytes pc .aaload 1 pc') {i j : Nat} {C : String} {vs : List Value} {z : Int32} {v : Value} (hA : A[i]? = some (.inr (.object C, vs))) (hz : z.toInt = (j : Int)) (hv : vs[j]? = some v) (h : G pc' ls (v :: st) A k n) : G pc ls (.int z :: .ref (n0 + i) :: st) A k n := by
  obtain ⟨hd, rfl⟩ := hd
  obtain ⟨p, e, s, m, args, below, meth, c, hx, hby, hml, hown, hnm, hret, hlk, hZ, hK, hb0, rfl⟩ := H
  intro T locs X hR hF
  obtain ⟨EA, cl, Ar, hcs, -⟩ := hR.2 i _ hA
  obtain ⟨s₂, o, h1, h2⟩ := h T locs X hR hF
  exact ⟨s₂, o, X.aaload hx Ar.1 (State.isArrayOf_alike hZ.alike Ar.2.1) rfl Ar.2.2 (arr_in hz hcs (List.getElem?_eq_some_iff.mp hv).1) (v := v) (by rw [(tn_of hz).2, hcs]; simpa using hv) (g := mkF m pc ls (.int z :: .ref (n0 + i) :: st)) rfl rfl (hb hby hd) _ h1, h2⟩
theorem IsGo.iastore (H : IsGo l Z a0 K n0 b0 y bytes maxL ret R Q G) (hd : Nx bytes pc .iastore 1 pc') {i j : Nat} {vs : List Value} {z v : Int32} (hA : A[i]? = some (.inr (.int, vs))) (hz : z.toInt = (j : Int)) (hj : j < vs.length) (hA' : A.set i (.inr (.int, vs.set j (.int v))) = A') (h : G pc' ls st A' k n) : G pc ls (.int v :: .int z :: .ref (n0 + i) :: st) A k n := by
  obtain ⟨hd, rfl⟩ := hd
  obtain ⟨p, e, s, m, args, below, meth, c, hx, hby, hml, hown, hnm, hret, hlk, hZ, hK, hb0, rfl⟩ := H
  subst hA'
  intro T locs X hR hF
  have hO := hR.2 i _ hA
  obtain ⟨EA, cl, Ar, hcs, -⟩ := hR.2 i _ hA
  obtain ⟨T', h', X', eT, W, sp⟩ := stI X hx hZ rfl Ar (arr_in hz hcs hj) (g := mkF m pc ls (.int v :: .int z :: .ref (n0 + i) :: st)) rfl rfl (hb hby hd)
  rw [(tn_of hz).2] at W
  obtain ⟨s₂, o, h1, h2⟩ := h T' _ X' (by rw [eT]; exact hR.set W (hO.setA W rfl)) (Fr.snoc X' hF (Nat.le_add_right _ _))
  exact ⟨s₂, o, sp _ h1, h2⟩
theorem IsGo.lastore (H : IsGo l Z a0 K n0 b0 y bytes maxL ret R Q G) (hd : Nx bytes pc .lastore 1 pc') {i j : Nat} {vs : List Value} {z : Int32} {v : Int64} (hA : A[i]? = some (.inr (.long, vs))) (hz : z.toInt = (j : Int)) (hj : j < vs.length) (hA' : A.set i (.inr (.long, vs.set j (.long v))) = A') (h : G pc' ls st A' k n) : G pc ls (.long v :: .int z :: .ref (n0 + i) :: st) A k n := by
  obtain ⟨hd, rfl⟩ := hd
  obtain ⟨p, e, s, m, args, below, meth, c, hx, hby, hml, hown, hnm, hret, hlk, hZ, hK, hb0, rfl⟩ := H
  subst hA'
  intro T locs X hR hF
  have hO := hR.2 i _ hA
  obtain ⟨EA, cl, Ar, hcs, -⟩ := hR.2 i _ hA
  obtain ⟨T', h', X', eT, W, sp⟩ := stJ X hx hZ rfl Ar (arr_in hz hcs hj) (g := mkF m pc ls (.long v :: .int z :: .ref (n0 + i) :: st)) rfl rfl (hb hby hd)
  rw [(tn_of hz).2] at W
  obtain ⟨s₂, o, h1, h2⟩ := h T' _ X' (by rw [eT]; exact hR.set W (hO.setA W rfl)) (Fr.snoc X' hF (Nat.le_add_right _ _))
  exact ⟨s₂, o, sp _ h1, h2⟩
theorem IsGo.bastore (H : IsGo l Z a0 K n0 b0 y bytes maxL ret R Q G) (hd : Nx bytes pc .bastore 1 pc') {i j : Nat} {vs : List Value} {z v w : Int32} (hA : A[i]? = some (.inr (.byte, vs))) (hz : z.toInt = (j : Int)) (hj : j < vs.length) (hw : nar .byte v = w) (hA' : A.set i (.inr (.byte, vs.set j (.int w))) = A') (h : G pc' ls st A' k n) : G pc ls (.int v :: .int z :: .ref (n0 + i) :: st) A k n := by
  obtain ⟨hd, rfl⟩ := hd
  obtain ⟨p, e, s, m, args, below, meth, c, hx, hby, hml, hown, hnm, hret, hlk, hZ, hK, hb0, rfl⟩ := H
  subst hA' hw
  intro T locs X hR hF
  have hO := hR.2 i _ hA
  obtain ⟨EA, cl, Ar, hcs, -⟩ := hR.2 i _ hA
  obtain ⟨T', h', X', eT, W, sp⟩ := stB X hx hZ rfl Ar (arr_in hz hcs hj) (g := mkF m pc ls (.int v :: .int z :: .ref (n0 + i) :: st)) rfl rfl (hb hby hd)
  rw [(tn_of hz).2] at W
  obtain ⟨s₂, o, h1, h2⟩ := h T' _ X' (by rw [eT]; exact hR.set W (hO.setA W (fits_nar_byte v))) (Fr.snoc X' hF (Nat.le_add_right _ _))
  exact ⟨s₂, o, sp _ h1, h2⟩
/-- the value can stand in an array of that class -/
def StoO (K : KTab) (C : String) (n0 : Nat) (A : List Ob) (v : Value) : Prop := v = .null ∨ ∃ i kk vs fs, v = .ref (n0 + i) ∧ A[i]? = some (.inl (kk, vs)) ∧ K[kk]? = some (C, fs)
theorem IsGo.aastore (H : IsGo l Z a0 K n0 b0 y bytes maxL ret R Q G) (hd : Nx bytes pc .aastore 1 pc') {i j : Nat} {C : String} {vs : List Value} {z : Int32} {v : Value} (hA : A[i]? = some (.inr (.object C, vs))) (hz : z.toInt = (j : Int)) (hj : j < vs.length) (hv : StoO K C n0 A v) (hA' : A.set i (.inr (.object C, vs.set j v)) = A') (h : G pc' ls st A' k n) : G pc ls (v :: .int z :: .ref (n0 + i) :: st) A k n := by
  obtain ⟨hd, rfl⟩ := hd
  obtain ⟨p, e, s, m, args, below, meth, c, hx, hby, hml, hown, hnm, hret, hlk, hZ, hK, hb0, rfl⟩ := H
  subst hA'
  intro T locs X hR hF
  have hO := hR.2 i _ hA
  obtain ⟨EA, cl, Ar, hcs, hov⟩ := hR.2 i _ hA
  have S : Sto Z T.heap (n0 + i) v := by
    rcases hv with rfl | ⟨i2, kk, vs2, fs, rfl, q1, q2⟩
    · exact Or.inl rfl
    · exact Sto.of Ar (hov C rfl) (Ins.self ((hR.2 i2 _ q1).exa q2))
  obtain ⟨T', h', X', eT, W, sp⟩ := stR X hx hZ rfl Ar (arr_in hz hcs hj) rfl S (g := mkF m pc ls (v :: .int z :: .ref (n0 + i) :: st)) rfl rfl (hb hby hd)
  rw [(tn_of hz).2] at W
  obtain ⟨s₂, o, h1, h2⟩ := h T' _ X' (by rw [eT]; exact hR.set W (hO.setA W (by rcases hv with rfl | ⟨i2, kk, vs2, fs, rfl, -⟩ <;> rfl))) (Fr.snoc X' hF (Nat.le_add_right _ _))
  exact ⟨s₂, o, sp _ h1, h2⟩
/-! ### arraycopy, clone, checkcast -/
def XL (Z : State) (a0 : Array Value) (own : String) (idx : Nat) : Prop := (Jvm.Cond.methodLink own idx Jvm.Stand.acN).before a0 Z = true ∧ (Jvm.Cond.native Jvm.Stand.acN).before a0 Z = true ∧ (Jvm.Cond.static Jvm.Stand.acN).before a0 Z = true ∧ (Jvm.Cond.initialized "java/lang/System").before a0 Z = true
theorem arv_of {h : Heap} {a : Addr} {ty : FieldType} {vs : List Value} (hl : vs.length < 2147483648) (F : ObAt Z K h a (.inr (ty, vs))) : ∃ kc : ClassId, Arv Z h a kc ty vs.length.toInt32 vs .null ∧ ∀ C, ty = .object C → Ovr Z kc C := by
  obtain ⟨⟨h1, hf⟩, c, h2, h3, h4⟩ := F
  have e := len_toInt (n := vs.length) (by omega)
  obtain ⟨z1, z2⟩ := tn_of e
  refine ⟨c.cls, ⟨c, h2, rfl, by rw [z2, h3]; simp, z1, fun k hk => ?_, fun i hi => ?_⟩, h4⟩
  · rw [h3] at hk ⊢
    have hk' : k < vs.length := by simpa using hk
    simp [List.getD, hk']
  · rw [h3] at hi
    have hi' : i < vs.length := by simpa using hi
    have : vs.getD i .null = vs[i] := by simp [List.getD, hi']
    rw [this]; exact hf _ (List.getElem_mem hi')
theorem slots_of {c : Cell} {vs : List Value} {d : Value} (hs : c.slots.size = vs.length) (hh : ∀ k, k < c.slots.size → c.slots[k]? = some (vs.getD k d)) : c.slots = vs.toArray := by
  apply Array.ext
  · simpa using hs
  · intro i h1 h2
    have q := hh i h1
    have h3 : i < vs.length := by simpa using h2
    rw [Array.getElem?_eq_getElem h1] at q
    have e : vs.getD i d = vs[i] := by simp [List.getD, h3]
    rw [e] at q
    simpa using q
theorem IsGo.arraycopy (H : IsGo l Z a0 K n0 b0 y bytes maxL ret R Q G) {idx : Nat} (hd : Nx bytes pc (.invokestatic idx) 3 pc') (L : XL Z a0 y.cls idx) {i j : Nat} {ty : FieldType} {vs vd us : List Value} {sp dp nn : Int32} {p q r : Nat} (hA : A[i]? = some (.inr (ty, vs))) (hB : A[j]? = some (.inr (ty, vd))) (hty : refKind ty = false) (h1 : sp.toInt = (p : Int)) (h2 : dp.toInt = (q : Int)) (h3 : nn.toInt = (r : Int)) (h4 : p + r ≤ vs.length) (h5 : q + r ≤ vd.length) (l1 : vs.length < 2147483648) (l2 : vd.length < 2147483648)
    (hus : (List.range r).map (fun i => vs.getD (p + i) .null) = us) (hls : ls.size = maxL) (hf : 1 ≤ R.frames) (hl : (st.map fun v => v.category).sum + (nativeFrameWords "java/lang/System" "arraycopy" 5 + 11) ≤ R.locals) (hk : A.length = b0 + k) (hA' : A.set j (.inr (ty, vd.take q ++ us ++ vd.drop (q + r))) = A') (h : G pc' ls st A' k n) : G pc ls (.int nn :: .int dp :: .ref (n0 + j) :: .int sp :: .ref (n0 + i) :: st) A k n := by
  obtain ⟨hd, rfl⟩ := hd
  obtain ⟨pp, e, s, m, args, below, meth, c, hx, hby, hml, hown, hnm, hret, hlk, hZ, hK, hb0, rfl⟩ := H
  obtain ⟨w1, w2, w3, w4⟩ := L
  subst hA'
  intro T locs X hR hF
  obtain ⟨k1, V1, -⟩ := arv_of l1 (hR.2 i _ hA)
  obtain ⟨k2, V2, O2⟩ := arv_of l2 (hR.2 j _ hB)
  obtain ⟨⟨EB, fB⟩, -⟩ := hR.2 j _ hB
  obtain ⟨⟨-, fA⟩, -⟩ := hR.2 i _ hA
  obtain ⟨s1, s2⟩ := tn_of h1
  obtain ⟨t1, t2⟩ := tn_of h2
  obtain ⟨u1, u2⟩ := tn_of h3
  have n1 := (tn_of (len_toInt (n := vs.length) (by omega))).2
  have n2 := (tn_of (len_toInt (n := vd.length) (by omega))).2
  obtain ⟨T', h', L', X', eT, F', Kp, V', sp'⟩ := cpA X hx hZ hown w1 w2 w3 w4 rfl V1 V2 (us := us) (Or.inl ⟨rfl, hty⟩) s1 t1 u1 (by rw [s2, u2, n1]; exact h4) (by rw [t2, u2, n2]; exact h5) (by rw [s2, u2]; exact hus.symm) (by rw [t2, u2]; exact h5) (n0 := n0) hF (Nat.le_add_right _ _) (g := mkF m pc ls (.int nn :: .int dp :: .ref (n0 + j) :: .int sp :: .ref (n0 + i) :: st)) rfl (by rw [hml]; exact hls) rfl (hb hby hd) hf (W := (st.map fun v => v.category).sum) (by show 2 * 0 + _ ≤ _; omega) hl
  have hsz : h'.size = T.heap.size := by
    have q1 := X'.heapSize
    have q2 := Kp.1
    have q3 := hR.1
    rw [eT] at q1
    omega
  rw [t2, u2] at V'
  have hlen : (vd.take q ++ us ++ vd.drop (q + r)).length = vd.length := by
    have : us.length = r := by rw [← hus]; simp
    simp [this]; omega
  have hO : ObAt Z K h' (n0 + j) (.inr (ty, vd.take q ++ us ++ vd.drop (q + r))) := by
    obtain ⟨cc, a1, a2, a3, a4, a5, a6⟩ := V'
    have e1 : cc.slots.size = (vd.take q ++ us ++ vd.drop (q + r)).length := by rw [hlen, a3, n2]
    refine ⟨⟨EB.keep Kp, fun w hw => ?_⟩, cc, a1, slots_of e1 a5, fun C q => by rw [a2]; exact O2 C q⟩
    obtain ⟨z, hz, rfl⟩ := List.mem_iff_getElem.mp hw
    have := a6 z (by rw [e1]; exact hz)
    rwa [show (vd.take q ++ us ++ vd.drop (q + r)).getD z .null = (vd.take q ++ us ++ vd.drop (q + r))[z] from by simp only [List.getD, List.getElem?_eq_getElem hz, Option.getD_some]] at this
  obtain ⟨s₂, o, g1, g2⟩ := h T' _ X' (by rw [eT]; exact hR.keep Kp hsz hO) F'
  exact ⟨s₂, o, sp' _ g1, g2⟩
def KL (Z : State) (a0 : Array Value) (own : String) (idx : Nat) (ad : String) : Prop := (Jvm.Cond.methodLink own idx ⟨ad, "clone", "()Ljava/lang/Object;"⟩).before a0 Z = true ∧ (Jvm.Cond.sameMethod ad "java/lang/Object" "clone" "()Ljava/lang/Object;").before a0 Z = true ∧ (Jvm.Cond.native ⟨"java/lang/Object", "clone", "()Ljava/lang/Object;"⟩).before a0 Z = true ∧
  (Jvm.Cond.instanceMethod ⟨"java/lang/Object", "clone", "()Ljava/lang/Object;"⟩).before a0 Z = true ∧ (Jvm.Cond.selects ad ⟨ad, "clone", "()Ljava/lang/Object;"⟩ ⟨"java/lang/Object", "clone", "()Ljava/lang/Object;"⟩).before a0 Z = true ∧ (Jvm.Cond.castable ad "java/lang/Cloneable").before a0 Z = true
theorem IsGo.clone (H : IsGo l Z a0 K n0 b0 y bytes maxL ret R Q G) {idx : Nat} {ad : String} (hd : Nx bytes pc (.invokevirtual idx) 3 pc') (L : KL Z a0 y.cls idx ad) {i ii cap : Nat} {ty : FieldType} {vs : List Value} (hA : A[i]? = some (.inr (ty, vs))) (had : "[" ++ ty.toString = ad) (l1 : vs.length < 2147483648) (hcap : vs.length ≤ cap)
    (hls : ls.size = maxL) (hf : 1 ≤ R.frames) (hl : (st.map fun v => v.category).sum + 14 ≤ R.locals) (hk : A.length = b0 + k) (hc : k + 1 ≤ R.cells) (hs : n + cap ≤ R.slots) (hi : A.length = ii) (hA' : A ++ [.inr (ty, vs)] = A') (hk' : k + 1 = k') (hn' : n + cap = n') (h : G pc' ls (.ref (n0 + ii) :: st) A' k' n') : G pc ls (.ref (n0 + i) :: st) A k n := by
  obtain ⟨hd, rfl⟩ := hd
  obtain ⟨pp, e, s, m, args, below, meth, c, hx, hby, hml, hown, hnm, hret, hlk, hZ, hK, hb0, rfl⟩ := H
  obtain ⟨w1, w2, w3, w4, w5, w6⟩ := L
  subst hA' hk' hn' hi had
  intro T locs X hR hF
  obtain ⟨k1, V1, O1⟩ := arv_of l1 (hR.2 i _ hA)
  obtain ⟨⟨EB, fB⟩, -⟩ := hR.2 i _ hA
  have n1 := (tn_of (len_toInt (n := vs.length) (by omega))).2
  obtain ⟨T', h', X', eT, E, V', EA, sp⟩ := cloneH X hx hZ hown w1 w2 w3 w4 w5 w6 rfl V1.arh EB (g := mkF m pc ls (.ref (n0 + i) :: st)) rfl (by rw [hml]; exact hls) rfl (hb hby hd) hf (W := (st.map fun v => v.category).sum) (cap := cap) (by show 2 * 0 + _ ≤ _; omega) hl (by rw [n1]; exact hcap) hc hs
  have hsz : h'.size = n0 + (A.length + 1) := by rw [← eT]; exact size_up X' hb0 hR.1 hk (by rw [eT]; exact EA.lt)
  rw [hR.1] at EA V'
  have hN : ObAt Z K h' (n0 + A.length) (.inr (ty, vs)) := by
    obtain ⟨cc, a1, a2, a3, a4, a5, a6⟩ := V'
    refine ⟨⟨EA, fB⟩, cc, a1, slots_of (by rw [a3, n1]) a5, fun C q => by rw [a2]; exact O1 C q⟩
  obtain ⟨s₂, o, h1, h2⟩ := h T' locs X' (by rw [eT]; exact hR.push E hsz hN) hF
  rw [← hR.1] at h1
  exact ⟨s₂, o, sp _ h1, h2⟩
theorem IsGo.castA (H : IsGo l Z a0 K n0 b0 y bytes maxL ret R Q G) {idx : Nat} {ad : String} (hd : Nx bytes pc (.checkcast idx) 3 pc') (w : (Jvm.Cond.classLink y.cls idx ad).before a0 Z = true) {i : Nat} {ty : FieldType} {vs : List Value} (hA : A[i]? = some (.inr (ty, vs))) (had : "[" ++ ty.toString = ad) (h : G pc' ls (.ref (n0 + i) :: st) A k n) : G pc ls (.ref (n0 + i) :: st) A k n := by
  obtain ⟨hd, rfl⟩ := hd
  obtain ⟨pp, e, s, m, args, below, meth, c, hx, hby, hml, hown, hnm, hret, hlk, hZ, hK, hb0, rfl⟩ := H
  subst had
  intro T locs X hR hF
  obtain ⟨⟨EB, -⟩, -⟩ := hR.2 i _ hA
  obtain ⟨T', X', eT, sp⟩ := castY X hx hZ hown w rfl (Ins.self EB) (g := mkF m pc ls (.ref (n0 + i) :: st)) rfl rfl (hb hby hd)
  obtain ⟨s₂, o, h1, h2⟩ := h T' locs X' (by rw [eT]; exact hR) hF
  exact ⟨s₂, o, sp _ h1, h2⟩
/-! ### calls -/
def IL (Z : State) (a0 : Array Value) (own : String) (idx : Nat) : Prop := (Jvm.Cond.methodLink own idx Lib.objectInit).before a0 Z = true ∧ (Jvm.Cond.instanceMethod Lib.objectInit).before a0 Z = true ∧ (Jvm.Cond.code Lib.objectInit ⟨#[0xb1]⟩ 1 none).before a0 Z = true
theorem IsGo.initO (H : IsGo l Z a0 K n0 b0 y bytes maxL ret R Q G) {idx : Nat} (hd : Nx bytes pc (.invokespecial idx) 3 pc') (L : IL Z a0 y.cls idx) {a : Addr} (hls : ls.size = maxL) (hf : 1 ≤ R.frames) (hl : (st.map fun v => v.category).sum + 12 ≤ R.locals) (h : G pc' ls st A k n) : G pc ls (.ref a :: st) A k n := by
  obtain ⟨hd, rfl⟩ := hd
  obtain ⟨p, e, s, m, args, below, meth, c, hx, hby, hml, hown, hnm, hret, hlk, hZ, hK, hb0, rfl⟩ := H
  obtain ⟨w1, w2, w3⟩ := L
  intro T locs X hR hF
  obtain ⟨T', X', eT, sp⟩ := RoadKit.initO X hx hZ hown w1 w2 w3 rfl (g := mkF m pc ls (.ref a :: st)) rfl (by rw [hml]; exact hls) rfl (hb hby hd) hf (W := (st.map fun v => v.category).sum) (by show 2 * 0 + _ ≤ _; omega) hl
  obtain ⟨s₂, o, h1, h2⟩ := h T' locs X' (by rw [eT]; exact hR) hF
  exact ⟨s₂, o, sp _ h1, h2⟩
def SL (Z : State) (a0 : Array Value) (own : String) (idx : Nat) (z : MethodName) (zb : ByteArray) (zm : Nat) (zr : Option FieldType) (np : Nat) : Prop :=
  (Jvm.Cond.methodLink own idx z).before a0 Z = true ∧ (Jvm.Cond.static z).before a0 Z = true ∧ (Jvm.Cond.initialized z.cls).before a0 Z = true ∧ (Jvm.Cond.code z zb zm zr).before a0 Z = true ∧ (z.cls ≠ "java/lang/invoke/MethodHandle" ∧ z.cls ≠ "java/lang/invoke/VarHandle") ∧ ∀ sig, parseMethodDescriptor z.desc = some sig → np = sig.parameters.length
theorem IsGo.callS (H : IsGo l Z a0 K n0 b0 y bytes maxL ret R Q G) {idx : Nat} (hd : Nx bytes pc (.invokestatic idx) 3 pc') {z : MethodName} {zb : ByteArray} {zm : Nat} {zr : Option FieldType} {np : Nat} (L : SL Z a0 y.cls idx z zb zm zr np) {rm : Room} {as : Array Value} {QQ : Option Value → List Ob → Prop} (M : Met l Z K n0 z zb zm zr rm as A QQ)
    {argsL rest : List Value} (ha : argsL.toArray = as) (hnp : argsL.length = np) (hst : st = argsL.reverse ++ rest) (hls : ls.size = maxL) (hf : rm.frames + 1 ≤ R.frames) (hl : (rest.map fun v => v.category).sum + (zm + 11) + rm.locals ≤ R.locals) (hc : k + rm.cells ≤ R.cells) (hs : n + rm.slots ≤ R.slots) (h : ∀ v A', QQ v A' → G pc' ls (v.toList ++ rest) A' (k + rm.cells) (n + rm.slots)) : G pc ls st A k n := by
  obtain ⟨hd, rfl⟩ := hd
  obtain ⟨p, e, s, m, args, below, meth, c, hx, hby, hml, hown, hnm, hret, hlk, hZ, hK, hb0, rfl⟩ := H
  obtain ⟨w1, w2, w3, w4, w5, w6⟩ := L
  subst ha hst hnp
  intro T locs X hR hF
  obtain ⟨v, vm₁, ⟨T', L', k', n'⟩, -, X', ⟨Lc, ⟨A', hQ, hR', hF'⟩, e1, e2, e3⟩, sp⟩ := Jvm.LawKit.callS X hx (y := z) hown (mvT hZ w1) (mvT hZ w2) (mvT hZ w3) (mvT hZ w4) w5 (backOf (W := (rest.map fun v => v.category).sum) (Q := fun v h L => ∃ A', QQ v A' ∧ Rel Z K n0 h A' ∧ Fr n0 L) (M [] T.heap hR) hZ w4 w3 hf hl) (g := mkF m pc ls (argsL.reverse ++ rest)) rfl (by rw [hml]; exact hls) (argsL := argsL) (rest := rest) w6 rfl (by show 2 * 0 + _ ≤ _; omega) (hb hby hd) (fun _ _ => ⟨rfl, rfl, hc, hs⟩)
  dsimp only [Pt.U, Pt.locs, Pt.cells, Pt.slots] at X' e1 e2 e3 sp hQ hR'
  subst e1 e2 e3
  obtain ⟨s₂, o, h1, h2⟩ := h v A' hQ T' _ X' hR' (Fr.app hF hF')
  exact ⟨s₂, o, sp _ h1, h2⟩
/-- a constructor by its contract -/
def CL (Z : State) (a0 : Array Value) (own : String) (idx : Nat) (z : MethodName) (zb : ByteArray) (zm : Nat) (np : Nat) : Prop :=
  (Jvm.Cond.methodLink own idx z).before a0 Z = true ∧ (Jvm.Cond.instanceMethod z).before a0 Z = true ∧ (Jvm.Cond.initialized z.cls).before a0 Z = true ∧ (Jvm.Cond.code z zb zm none).before a0 Z = true ∧ (z.cls ≠ "java/lang/invoke/MethodHandle" ∧ z.cls ≠ "java/lang/invoke/VarHandle") ∧ (∀ sig, parseMethodDescriptor z.desc = some sig → np = sig.parameters.length) ∧ z.name = "<init>"
theorem IsGo.callC (H : IsGo l Z a0 K n0 b0 y bytes maxL ret R Q G) {idx : Nat} (hd : Nx bytes pc (.invokespecial idx) 3 pc') {z : MethodName} {zb : ByteArray} {zm : Nat} {np : Nat} (L : CL Z a0 y.cls idx z zb zm np) {rm : Room} {as : Array Value} {QQ : Option Value → List Ob → Prop} (M : Met l Z K n0 z zb zm none rm as A QQ)
    {a : Addr} {argsL rest : List Value} (ha : (Value.ref a :: argsL).toArray = as) (hnp : argsL.length = np) (hst : st = argsL.reverse ++ .ref a :: rest) (hls : ls.size = maxL) (hf : rm.frames + 1 ≤ R.frames) (hl : (rest.map fun v => v.category).sum + (zm + 11) + rm.locals ≤ R.locals) (hc : k + rm.cells ≤ R.cells) (hs : n + rm.slots ≤ R.slots) (h : ∀ v A', QQ v A' → G pc' ls (v.toList ++ rest) A' (k + rm.cells) (n + rm.slots)) : G pc ls st A k n := by
  obtain ⟨hd, rfl⟩ := hd
  obtain ⟨p, e, s, m, args, below, meth, c, hx, hby, hml, hown, hnm, hret, hlk, hZ, hK, hb0, rfl⟩ := H
  obtain ⟨w1, w2, w3, w4, w5, w6, w7⟩ := L
  subst ha hst hnp
  intro T locs X hR hF
  obtain ⟨v, vm₁, ⟨T', L', k', n'⟩, -, X', ⟨Lc, ⟨A', hQ, hR', hF'⟩, e1, e2, e3⟩, sp⟩ := X.specialBack hx (y := z) w7 hown (mvT hZ w1) (mvT hZ w2) (mvT hZ w4) w5 (backOf (W := (rest.map fun v => v.category).sum) (Q := fun v h L => ∃ A', QQ v A' ∧ Rel Z K n0 h A' ∧ Fr n0 L) (M [] T.heap hR) hZ w4 w3 hf hl) (g := mkF m pc ls (argsL.reverse ++ .ref a :: rest)) rfl (by rw [hml]; exact hls) (Steps.refl _) (a := a) (argsL := argsL) (rest := rest) w6 rfl (by show 2 * 0 + _ ≤ _; omega) (hb hby hd) (fun _ _ => ⟨rfl, rfl, hc, hs⟩)
  dsimp only [Pt.U, Pt.locs, Pt.cells, Pt.slots] at X' e1 e2 e3 sp hQ hR'
  subst e1 e2 e3
  obtain ⟨s₂, o, h1, h2⟩ := h v A' hQ T' _ X' hR' (Fr.app hF hF')
  exact ⟨s₂, o, sp.trans h1, h2⟩
/-- a method of an object of class number kk, by its contract -/
def VL (Z : State) (a0 : Array Value) (K : KTab) (own : String) (idx kk : Nat) (z : MethodName) (zb : ByteArray) (zm : Nat) (zr : Option FieldType) (np : Nat) : Prop :=
  ∃ C fs, K[kk]? = some (C, fs) ∧ (Jvm.Cond.methodLink own idx z).before a0 Z = true ∧ (Jvm.Cond.declares z).before a0 Z = true ∧ (Jvm.Cond.selects C z z).before a0 Z = true ∧ (Jvm.Cond.instanceMethod z).before a0 Z = true ∧ (Jvm.Cond.initialized z.cls).before a0 Z = true ∧ (Jvm.Cond.code z zb zm zr).before a0 Z = true ∧ (z.cls ≠ "java/lang/invoke/MethodHandle" ∧ z.cls ≠ "java/lang/invoke/VarHandle") ∧ (∀ sig, parseMethodDescriptor z.desc = some sig → np = sig.parameters.length)
theorem IsGo.callV (H : IsGo l Z a0 K n0 b0 y bytes maxL ret R Q G) {idx kk : Nat} (hd : Nx bytes pc (.invokevirtual idx) 3 pc') {z : MethodName} {zb : ByteArray} {zm : Nat} {zr : Option FieldType} {np : Nat} (L : VL Z a0 K y.cls idx kk z zb zm zr np) {rm : Room} {as : Array Value} {QQ : Option Value → List Ob → Prop} (M : Met l Z K n0 z zb zm zr rm as A QQ)
    {i : Nat} {vs : List Value} (hA : A[i]? = some (.inl (kk, vs))) {argsL rest : List Value} (ha : (Value.ref (n0 + i) :: argsL).toArray = as) (hnp : argsL.length = np) (hst : st = argsL.reverse ++ .ref (n0 + i) :: rest) (hls : ls.size = maxL) (hf : rm.frames + 1 ≤ R.frames) (hl : (rest.map fun v => v.category).sum + (zm + 11) + rm.locals ≤ R.locals) (hc : k + rm.cells ≤ R.cells) (hs : n + rm.slots ≤ R.slots) (h : ∀ v A', QQ v A' → G pc' ls (v.toList ++ rest) A' (k + rm.cells) (n + rm.slots)) : G pc ls st A k n := by
  obtain ⟨hd, rfl⟩ := hd
  obtain ⟨p, e, s, m, args, below, meth, c, hx, hby, hml, hown, hnm, hret, hlk, hZ, hK, hb0, rfl⟩ := H
  obtain ⟨C, fs, hk, w1, w2, w3, w4, w5, w6, w7, w8⟩ := L
  subst ha hst hnp
  intro T locs X hR hF
  obtain ⟨cB, kB, qa, qb, qc⟩ := isOf hZ rfl ((hR.2 i _ hA).exa hk)
  obtain ⟨v, vm₁, ⟨T', L', k', n'⟩, -, X', ⟨Lc, ⟨A', hQ, hR', hF'⟩, e1, e2, e3⟩, sp⟩ := X.virtualBack hx (y := z) (z := z) hown (mvT hZ w1) (mvT hZ w2) (notFace_of_selects (args := #[]) (mvT hZ w3)) (mvT hZ w3) (mvT hZ w4) w7 (backOf (W := (rest.map fun v => v.category).sum) (Q := fun v h L => ∃ A', QQ v A' ∧ Rel Z K n0 h A' ∧ Fr n0 L) (M [] T.heap hR) hZ w6 w5 hf hl) qa qc (g := mkF m pc ls (argsL.reverse ++ .ref (n0 + i) :: rest)) rfl (by rw [hml]; exact hls) (Steps.refl _) (argsL := argsL) (rest := rest) w8 rfl (by show 2 * 0 + _ ≤ _; omega) (hb hby hd) (fun _ _ => ⟨rfl, rfl, hc, hs⟩)
  dsimp only [Pt.U, Pt.locs, Pt.cells, Pt.slots] at X' e1 e2 e3 sp hQ hR'
  subst e1 e2 e3
  obtain ⟨s₂, o, h1, h2⟩ := h v A' hQ T' _ X' hR' (Fr.app hF hF')
  exact ⟨s₂, o, sp.trans h1, h2⟩
/-- a private method -/
def ML (Z : State) (a0 : Array Value) (K : KTab) (own : String) (idx kk : Nat) (z : MethodName) (zb : ByteArray) (zm : Nat) (zr : Option FieldType) (np : Nat) : Prop :=
  ∃ C fs, K[kk]? = some (C, fs) ∧ (Jvm.Cond.methodLink own idx z).before a0 Z = true ∧ (Jvm.Cond.privateMethod z).before a0 Z = true ∧ (Jvm.Cond.selects z.cls z z).before a0 Z = true ∧ (Jvm.Cond.instanceMethod z).before a0 Z = true ∧ (Jvm.Cond.initialized z.cls).before a0 Z = true ∧ (Jvm.Cond.code z zb zm zr).before a0 Z = true ∧ (z.cls ≠ "java/lang/invoke/MethodHandle" ∧ z.cls ≠ "java/lang/invoke/VarHandle") ∧ (∀ sig, parseMethodDescriptor z.desc = some sig → np = sig.parameters.length)
theorem IsGo.callM (H : IsGo l Z a0 K n0 b0 y bytes maxL ret R Q G) {idx kk : Nat} (hd : Nx bytes pc (.invokevirtual idx) 3 pc') {z : MethodName} {zb : ByteArray} {zm : Nat} {zr : Option FieldType} {np : Nat} (L : ML Z a0 K y.cls idx kk z zb zm zr np) {rm : Room} {as : Array Value} {QQ : Option Value → List Ob → Prop} (M : Met l Z K n0 z zb zm zr rm as A QQ)
    {i : Nat} {vs : List Value} (hA : A[i]? = some (.inl (kk, vs))) {argsL rest : List Value} (ha : (Value.ref (n0 + i) :: argsL).toArray = as) (hnp : argsL.length = np) (hst : st = argsL.reverse ++ .ref (n0 + i) :: rest) (hls : ls.size = maxL) (hf : rm.frames + 1 ≤ R.frames) (hl : (rest.map fun v => v.category).sum + (zm + 11) + rm.locals ≤ R.locals) (hc : k + rm.cells ≤ R.cells) (hs : n + rm.slots ≤ R.slots) (h : ∀ v A', QQ v A' → G pc' ls (v.toList ++ rest) A' (k + rm.cells) (n + rm.slots)) : G pc ls st A k n := by
  obtain ⟨hd, rfl⟩ := hd
  obtain ⟨p, e, s, m, args, below, meth, c, hx, hby, hml, hown, hnm, hret, hlk, hZ, hK, hb0, rfl⟩ := H
  obtain ⟨C, fs, hk, w1, w2, w3, w4, w5, w6, w7, w8⟩ := L
  subst ha hst hnp
  intro T locs X hR hF
  obtain ⟨cq, q1, q2⟩ := ((hR.2 i _ hA).exa hk).cell
  obtain ⟨v, vm₁, ⟨T', L', k', n'⟩, -, X', ⟨Lc, ⟨A', hQ, hR', hF'⟩, e1, e2, e3⟩, sp⟩ := X.privateBack hx (y := z) hown (mvT hZ w1) (mvT hZ w4) (mvT hZ w3) (Cond.privateMethod_at (mvP hZ w2 (args := #[]))) (mvT hZ w6) w7 (backOf (W := (rest.map fun v => v.category).sum) (Q := fun v h L => ∃ A', QQ v A' ∧ Rel Z K n0 h A' ∧ Fr n0 L) (M [] T.heap hR) hZ w6 w5 hf hl) (g := mkF m pc ls (argsL.reverse ++ .ref (n0 + i) :: rest)) rfl (by rw [hml]; exact hls) (Steps.refl _) (a := n0 + i) q1 q2 (argsL := argsL) (rest := rest) w8 rfl (by show 2 * 0 + _ ≤ _; omega) (hb hby hd) (fun _ _ => ⟨rfl, rfl, hc, hs⟩)
  dsimp only [Pt.U, Pt.locs, Pt.cells, Pt.slots] at X' e1 e2 e3 sp hQ hR'
  subst e1 e2 e3
  obtain ⟨s₂, o, h1, h2⟩ := h v A' hQ T' _ X' hR' (Fr.app hF hF')
  exact ⟨s₂, o, sp.trans h1, h2⟩
theorem IsGo.callSD (H : IsGo l Z a0 K n0 b0 y bytes maxL ret R Q G) {idx : Nat} (hd : Nx bytes pc (.invokestatic idx) 3 pc') {z : MethodName} {zb : ByteArray} {zm : Nat} {zr : Option FieldType} {np : Nat} (L : SL Z a0 y.cls idx z zb zm zr np) {rm : Room} {as : Array Value} {vo : Option Value} (M : Met l Z K n0 z zb zm zr rm as A (Is vo A'))
    {argsL rest : List Value} (ha : argsL.toArray = as) (hnp : argsL.length = np) (hst : st = argsL.reverse ++ rest) (hls : ls.size = maxL) (hf : rm.frames + 1 ≤ R.frames) (hl : (rest.map fun v => v.category).sum + (zm + 11) + rm.locals ≤ R.locals) (hc : k + rm.cells ≤ R.cells) (hs : n + rm.slots ≤ R.slots) (hst' : vo.toList ++ rest = st') (hk' : k + rm.cells = k') (hn' : n + rm.slots = n') (h : G pc' ls st' A' k' n') : G pc ls st A k n :=
  H.callS hd L M ha hnp hst hls hf hl hc hs (fun v B q => by obtain ⟨rfl, rfl⟩ := q; subst hst' hk' hn'; exact h)
theorem IsGo.callCD (H : IsGo l Z a0 K n0 b0 y bytes maxL ret R Q G) {idx : Nat} (hd : Nx bytes pc (.invokespecial idx) 3 pc') {z : MethodName} {zb : ByteArray} {zm : Nat} {np : Nat} (L : CL Z a0 y.cls idx z zb zm np) {rm : Room} {as : Array Value} {vo : Option Value} (M : Met l Z K n0 z zb zm none rm as A (Is vo A'))
    {a : Addr} {argsL rest : List Value} (ha : (Value.ref a :: argsL).toArray = as) (hnp : argsL.length = np) (hst : st = argsL.reverse ++ .ref a :: rest) (hls : ls.size = maxL) (hf : rm.frames + 1 ≤ R.frames) (hl : (rest.map fun v => v.category).sum + (zm + 11) + rm.locals ≤ R.locals) (hc : k + rm.cells ≤ R.cells) (hs : n + rm.slots ≤ R.slots) (hst' : vo.toList ++ rest = st') (hk' : k + rm.cells = k') (hn' : n + rm.slots = n') (h : G pc' ls st' A' k' n') : G pc ls st A k n :=
  H.callC hd L M ha hnp hst hls hf hl hc hs (fun v B q => by obtain ⟨rfl, rfl⟩ := q; subst hst' hk' hn'; exact h)
theorem IsGo.callVD (H : IsGo l Z a0 K n0 b0 y bytes maxL ret R Q G) {idx kk : Nat} (hd : Nx bytes pc (.invokevirtual idx) 3 pc') {z : MethodName} {zb : ByteArray} {zm : Nat} {zr : Option FieldType} {np : Nat} (L : VL Z a0 K y.cls idx kk z zb zm zr np) {rm : Room} {as : Array Value} {vo : Option Value} (M : Met l Z K n0 z zb zm zr rm as A (Is vo A'))
    {i : Nat} {vs : List Value} (hA : A[i]? = some (.inl (kk, vs))) {argsL rest : List Value} (ha : (Value.ref (n0 + i) :: argsL).toArray = as) (hnp : argsL.length = np) (hst : st = argsL.reverse ++ .ref (n0 + i) :: rest) (hls : ls.size = maxL) (hf : rm.frames + 1 ≤ R.frames) (hl : (rest.map fun v => v.category).sum + (zm + 11) + rm.locals ≤ R.locals) (hc : k + rm.cells ≤ R.cells) (hs : n + rm.slots ≤ R.slots) (hst' : vo.toList ++ rest = st') (hk' : k + rm.cells = k') (hn' : n + rm.slots = n') (h : G pc' ls st' A' k' n') : G pc ls st A k n :=
  H.callV hd L M hA ha hnp hst hls hf hl hc hs (fun v B q => by obtain ⟨rfl, rfl⟩ := q; subst hst' hk' hn'; exact h)
theorem IsGo.callMD (H : IsGo l Z a0 K n0 b0 y bytes maxL ret R Q G) {idx kk : Nat} (hd : Nx bytes pc (.invokevirtual idx) 3 pc') {z : MethodName} {zb : ByteArray} {zm : Nat} {zr : Option FieldType} {np : Nat} (L : ML Z a0 K y.cls idx kk z zb zm zr np) {rm : Room} {as : Array Value} {vo : Option Value} (M : Met l Z K n0 z zb zm zr rm as A (Is vo A'))
    {i : Nat} {vs : List Value} (hA : A[i]? = some (.inl (kk, vs))) {argsL rest : List Value} (ha : (Value.ref (n0 + i) :: argsL).toArray = as) (hnp : argsL.length = np) (hst : st = argsL.reverse ++ .ref (n0 + i) :: rest) (hls : ls.size = maxL) (hf : rm.frames + 1 ≤ R.frames) (hl : (rest.map fun v => v.category).sum + (zm + 11) + rm.locals ≤ R.locals) (hc : k + rm.cells ≤ R.cells) (hs : n + rm.slots ≤ R.slots) (hst' : vo.toList ++ rest = st') (hk' : k + rm.cells = k') (hn' : n + rm.slots = n') (h : G pc' ls st' A' k' n') : G pc ls st A k n :=
  H.callM hd L M hA ha hnp hst hls hf hl hc hs (fun v B q => by obtain ⟨rfl, rfl⟩ := q; subst hst' hk' hn'; exact h)
/-! ### the end -/
theorem IsGo.retW (H : IsGo l Z a0 K n0 b0 y bytes maxL ret R Q G) {i : Instr} (hd : Nx bytes pc i 1 pc') {t : FieldType} {w : Value} (hret : ret = some t) (hn : narrow t w = w)
    (hi : (i = .ireturn ∧ (t = .int ∨ t = .boolean ∨ t = .byte ∨ t = .char ∨ t = .short) ∧ ∃ z, w = .int z) ∨ (i = .lreturn ∧ t = .long ∧ ∃ z, w = .long z) ∨ (i = .dreturn ∧ t = .double ∧ ∃ z, w = .double z) ∨ (i = .freturn ∧ t = .float ∧ ∃ z, w = .float z) ∨ (i = .areturn ∧ t.isReference = true ∧ w.isRef = true))
    (hQ : Q (some w) A) (hc : k ≤ R.cells) (hs : n ≤ R.slots) : G pc ls (w :: st) A k n := by
  obtain ⟨hd, rfl⟩ := hd
  obtain ⟨p, e, s, m, args, below, meth, c, hx, hby, hml, hown, hnm, hret', hlk, hZ, hK, hb0, rfl⟩ := H
  intro T locs X hR hF
  obtain ⟨fs, hr, hrun, hended, hW, hsame⟩ := X.leave (v := some w) (fun h => by rw [hret', hret] at h; cases h) hlk
  exact ⟨_, _, retOut X hx (hret'.trans hret) hn hi (hb hby hd) hr, hrun, hended, _, _, rfl, ⟨A, hQ, hR, hF⟩, ⟨_, rfl⟩, hW, hsame.mono hc hs⟩
theorem IsGo.ireturn (H : IsGo l Z a0 K n0 b0 y bytes maxL ret R Q G) (hd : Nx bytes pc .ireturn 1 pc') {t : FieldType} {z : Int32} (hret : ret = some t) (ht : t = .int ∨ t = .boolean ∨ t = .byte ∨ t = .char ∨ t = .short) (hn : narrow t (.int z) = .int z) (hQ : Q (some (.int z)) A) (hc : k ≤ R.cells) (hs : n ≤ R.slots) : G pc ls (.int z :: st) A k n :=
  H.retW hd hret hn (Or.inl ⟨rfl, ht, z, rfl⟩) hQ hc hs
theorem IsGo.lreturn (H : IsGo l Z a0 K n0 b0 y bytes maxL ret R Q G) (hd : Nx bytes pc .lreturn 1 pc') {z : Int64} (hret : ret = some .long) (hQ : Q (some (.long z)) A) (hc : k ≤ R.cells) (hs : n ≤ R.slots) : G pc ls (.long z :: st) A k n :=
  H.retW hd hret rfl (Or.inr (Or.inl ⟨rfl, rfl, z, rfl⟩)) hQ hc hs
theorem IsGo.areturn (H : IsGo l Z a0 K n0 b0 y bytes maxL ret R Q G) (hd : Nx bytes pc .areturn 1 pc') {t : FieldType} {w : Value} (hret : ret = some t) (ht : t.isReference = true) (hn : narrow t w = w) (hw : w.isRef = true) (hQ : Q (some w) A) (hc : k ≤ R.cells) (hs : n ≤ R.slots) : G pc ls (w :: st) A k n :=
  H.retW hd hret hn (Or.inr (Or.inr (Or.inr (Or.inr ⟨rfl, ht, hw⟩)))) hQ hc hs
theorem IsGo.vreturn (H : IsGo l Z a0 K n0 b0 y bytes maxL ret R Q G) (hd : Nx bytes pc .return_ 1 pc') (hret : ret = none) (hQ : Q none A) (hc : k ≤ R.cells) (hs : n ≤ R.slots) : G pc ls [] A k n := by
  obtain ⟨hd, rfl⟩ := hd
  obtain ⟨p, e, s, m, args, below, meth, c, hx, hby, hml, hown, hnm, hret', hlk, hZ, hK, hb0, rfl⟩ := H
  intro T locs X hR hF
  obtain ⟨fs, hr, hrun, hended, hW, hsame⟩ := X.leave (v := none) (fun _ => rfl) hlk
  exact ⟨_, _, X.returnOut hx (hret'.trans hret) (hb hby hd) hr, hrun, hended, _, _, rfl, ⟨A, hQ, hR, hF⟩, ⟨_, rfl⟩, hW, hsame.mono hc hs⟩
end Rules
end Jvm.OwnKit

namespace Jvm.Pilot.@@N@@
open Jvm Jvm.ClassFile Sem Op Lib Jvm.Free Jvm.Stand Jvm.LawKit Jvm.RoadKit Jvm.OwnKit Bundle Jvm.Pilot.@@N@@.Jvm.D
abbrev HW1 (Z : State) (a0 : Array Value) : Prop := ∀ d ∈ tables_1, d.before a0 Z = true
def KT : KTab := [("com/example/korek/korek/simulation/LongHeap", [("com/example/korek/korek/simulation/LongHeap", "heap", "[J"), ("com/example/korek/korek/simulation/LongHeap", "size", "I")])]
abbrev y1 : MethodName := ⟨"com/example/korek/korek/simulation/LongHeap", "<init>", "()V"⟩
abbrev y2 : MethodName := ⟨"java/lang/Object", "<init>", "()V"⟩
abbrev y3 : MethodName := ⟨"com/example/korek/korek/simulation/LongHeap", "add", "(J)V"⟩
abbrev y4 : MethodName := ⟨"com/example/korek/korek/simulation/LongHeap", "poll", "()J"⟩
abbrev y5 : MethodName := ⟨"com/example/korek/korek/simulation/LongHeapPollPinLaw", "cx", "([JII)V"⟩
theorem kok {Z : State} {a0 : Array Value} (hw : HW1 Z a0) : KOk Z a0 KT := kokOf (faS ⟨⟨_, (hw _ (List.mem_of_getElem? (i := 1) rfl))⟩, (faS ⟨Or.inl (hw _ (List.mem_of_getElem? (i := 11) rfl)), (.array .long), by decide +kernel⟩ (faS ⟨Or.inl (hw _ (List.mem_of_getElem? (i := 18) rfl)), .int, by decide +kernel⟩ fa0)), by decide⟩ fa0)

def own_srt : List Int64 → Prop
  | [] => True
  | a :: t => (∀ u ∈ t, a.toInt ≤ u.toInt) ∧ own_srt t
theorem own_uniq : ∀ (l1 l2 : List Int64), own_srt l1 → own_srt l2 → (∀ z : Int64, l1.count z = l2.count z) → l1 = l2
  | [], [], _, _, _ => rfl
  | [], b :: t, _, _, h => by have q := h b; simp at q
  | a :: t, [], _, _, h => by have q := h a; simp at q
  | a :: t, b :: s, h1, h2, h => by
    have ab : a = b := by
      have m1 : b ∈ a :: t := List.count_pos_iff.mp (by rw [h b]; simp)
      have m2 : a ∈ b :: s := List.count_pos_iff.mp (by rw [← h a]; simp)
      have e1 : a.toInt ≤ b.toInt := by
        rcases List.mem_cons.mp m1 with q | q
        · rw [q]; omega
        · exact h1.1 b q
      have e2 : b.toInt ≤ a.toInt := by
        rcases List.mem_cons.mp m2 with q | q
        · rw [q]; omega
        · exact h2.1 a q
      exact Int64.toInt_inj.mp (by omega)
    subst ab
    have ht : ∀ z : Int64, t.count z = s.count z := fun z => by
      have q := h z
      simp only [List.count_cons] at q
      omega
    rw [own_uniq t s h1.2 h2.2 ht]
theorem own_5 {a b c d e : Int64} (h1 : a.toInt ≤ b.toInt) (h2 : b.toInt ≤ c.toInt) (h3 : c.toInt ≤ d.toInt) (h4 : d.toInt ≤ e.toInt) : own_srt [a, b, c, d, e] := by
  refine ⟨?_, ?_, ?_, ?_, ?_, trivial⟩ <;> intro u hu <;> simp only [List.mem_cons, List.not_mem_nil, or_false] at hu
  · rcases hu with rfl | rfl | rfl | rfl <;> omega
  · rcases hu with rfl | rfl | rfl <;> omega
  · rcases hu with rfl | rfl <;> omega
  · rcases hu with rfl <;> omega
theorem own_eq5 {a b c d e a' b' c' d' e' : Int64} (h : own_srt [a, b, c, d, e]) (h' : own_srt [a', b', c', d', e']) (hc : ∀ z : Int64, [a, b, c, d, e].count z = [a', b', c', d', e'].count z) : a = a' ∧ b = b' ∧ c = c' ∧ d = d' ∧ e = e' := by
  have q := own_uniq _ _ h h' hc
  simpa using q

theorem set_self {A : List Ob} {i : Nat} {o : Ob} (h : A[i]? = some o) : A.set i o = A := by
  obtain ⟨hl, e⟩ := List.getElem?_eq_some_iff.mp h
  rw [← e]; exact List.set_getElem_self hl
theorem pn_3 : plainName "com/example/korek/korek/simulation/LongHeap" = true := by first | (simp [plainName, overriddenIn]; done) | decide +kernel
theorem s3_0 : Nx prog_41_method_4_code 0 (.aload_n 0) 1 1 := ⟨by decide +kernel, rfl⟩
theorem k_0 {Z : State} {a0 : Array Value} (hw : HW1 Z a0) : FL Z a0 KT "com/example/korek/korek/simulation/LongHeap" 13 0 1 := ⟨_, _, "com/example/korek/korek/simulation/LongHeap", "size", "I", "", rfl, rfl, (Or.inl (hw _ (List.mem_of_getElem? (i := 17) rfl)))⟩
theorem s3_1 : Nx prog_41_method_4_code 1 (.getfield 13) 3 4 := ⟨by decide +kernel, rfl⟩
theorem s3_4 : Nx prog_41_method_4_code 4 (.aload_n 0) 1 5 := ⟨by decide +kernel, rfl⟩
theorem k_1 {Z : State} {a0 : Array Value} (hw : HW1 Z a0) : FL Z a0 KT "com/example/korek/korek/simulation/LongHeap" 7 0 0 := ⟨_, _, "com/example/korek/korek/simulation/LongHeap", "heap", "[J", "", rfl, rfl, (Or.inl (hw _ (List.mem_of_getElem? (i := 10) rfl)))⟩
theorem s3_5 : Nx prog_41_method_4_code 5 (.getfield 7) 3 8 := ⟨by decide +kernel, rfl⟩
theorem s3_8 : Nx prog_41_method_4_code 8 (.arraylength) 1 9 := ⟨by decide +kernel, rfl⟩
theorem s3_9 : Bx prog_41_method_4_code 9 (.if_icmp .ne) 30 12 := ⟨(21), by decide +kernel, by decide, by decide, rfl⟩
theorem s3_30 : Nx prog_41_method_4_code 30 (.aload_n 0) 1 31 := ⟨by decide +kernel, rfl⟩
theorem s3_31 : Nx prog_41_method_4_code 31 (.dup) 1 32 := ⟨by decide +kernel, rfl⟩
theorem s3_32 : Nx prog_41_method_4_code 32 (.getfield 13) 3 35 := ⟨by decide +kernel, rfl⟩
theorem s3_35 : Nx prog_41_method_4_code 35 (.dup_x1) 1 36 := ⟨by decide +kernel, rfl⟩
theorem s3_36 : Nx prog_41_method_4_code 36 (.iconst 1) 1 37 := ⟨by decide +kernel, rfl⟩
theorem s3_37 : Nx prog_41_method_4_code 37 (.iadd) 1 38 := ⟨by decide +kernel, rfl⟩
theorem k_2 {Z : State} {a0 : Array Value} (hw : HW1 Z a0) : PL Z a0 KT "com/example/korek/korek/simulation/LongHeap" "add" 13 0 1 .int := ⟨_, _, "com/example/korek/korek/simulation/LongHeap", "size", "I", "", rfl, rfl, (Or.inl (hw _ (List.mem_of_getElem? (i := 17) rfl))), (Or.inl (hw _ (List.mem_of_getElem? (i := 18) rfl))), by decide +kernel⟩
theorem s3_38 : Nx prog_41_method_4_code 38 (.putfield 13) 3 41 := ⟨by decide +kernel, rfl⟩
theorem s3_41 : Nx prog_41_method_4_code 41 (.istore_n 3) 1 42 := ⟨by decide +kernel, rfl⟩
theorem s3_42 : Nx prog_41_method_4_code 42 (.iload_n 3) 1 43 := ⟨by decide +kernel, rfl⟩
theorem s3_43 : Bx prog_41_method_4_code 43 (.ifCond .le) 87 46 := ⟨(44), by decide +kernel, by decide, by decide, rfl⟩
theorem s3_87 : Nx prog_41_method_4_code 87 (.aload_n 0) 1 88 := ⟨by decide +kernel, rfl⟩
theorem s3_88 : Nx prog_41_method_4_code 88 (.getfield 7) 3 91 := ⟨by decide +kernel, rfl⟩
theorem s3_91 : Nx prog_41_method_4_code 91 (.iload_n 3) 1 92 := ⟨by decide +kernel, rfl⟩
theorem s3_92 : Nx prog_41_method_4_code 92 (.lload_n 1) 1 93 := ⟨by decide +kernel, rfl⟩
theorem s3_93 : Nx prog_41_method_4_code 93 (.lastore) 1 94 := ⟨by decide +kernel, rfl⟩
theorem s3_94 : Nx prog_41_method_4_code 94 (.return_) 1 95 := ⟨by decide +kernel, rfl⟩
set_option maxRecDepth 65536 in
set_option maxHeartbeats 40000000 in
theorem m_add0 (l : Launch) {Z : State} {a0 : Array Value} (hw : HW1 Z a0) (n0 : Nat) (v : Int64)  : Met l Z KT n0 y3 prog_41_method_4_code 5 none ({ frames := 0, cells := 0, slots := 0, locals := 0 } : Room) #[(.ref (n0 + 0)), (.long v)] [.inl (0, [(.ref (n0 + 1)), (.int (0 : Int32))]), .inr (.long, [(.long (0 : Int64)), (.long (0 : Int64)), (.long (0 : Int64)), (.long (0 : Int64)), (.long (0 : Int64)), (.long (0 : Int64)), (.long (0 : Int64)), (.long (0 : Int64)), (.long (0 : Int64)), (.long (0 : Int64)), (.long (0 : Int64)), (.long (0 : Int64)), (.long (0 : Int64)), (.long (0 : Int64)), (.long (0 : Int64)), (.long (0 : Int64))])] (fun rv B => rv = none ∧ ∃ y0 : Int64, B = [.inl (0, [(.ref (n0 + 1)), (.int (1 : Int32))]), .inr (.long, [(.long y0), (.long (0 : Int64)), (.long (0 : Int64)), (.long (0 : Int64)), (.long (0 : Int64)), (.long (0 : Int64)), (.long (0 : Int64)), (.long (0 : Int64)), (.long (0 : Int64)), (.long (0 : Int64)), (.long (0 : Int64)), (.long (0 : Int64)), (.long (0 : Int64)), (.long (0 : Int64)), (.long (0 : Int64)), (.long (0 : Int64))])] ∧ (True) ∧ ∀ z : Int64, [y0].count z = [v].count z) := by
  refine Met.of (a0 := a0) (ls := #[.val (.ref (n0 + 0)), .val (.long v), .second, .unset, .unset]) (kok hw) (plainFor_of_name pn_3) (fun m => by first | (simp [entryFrame, mkF, argsToLocals, Value.category]; done) | rfl) (fun G H => ?_)
  refine H.aloadN s3_0 rfl rfl ?_
  refine H.getfield s3_1 (k_0 hw) (i := 0) rfl rfl ?_
  refine H.aloadN s3_4 rfl rfl ?_
  refine H.getfield s3_5 (k_1 hw) (i := 0) rfl rfl ?_
  refine H.arraylength s3_8 (i := 1) rfl (z := (16 : Int32)) rfl ?_
  refine H.icmpT s3_9 (show ¬ (0 : Int32) = (16 : Int32) by decide) ?_
  refine H.aloadN s3_30 rfl rfl ?_
  refine H.dup s3_31 rfl ?_
  refine H.getfield s3_32 (k_0 hw) (i := 0) rfl rfl ?_
  refine H.dupX1 s3_35 rfl rfl ?_
  refine H.iconst s3_36 (v := (1 : Int32)) (by decide) ?_
  refine H.iadd s3_37 (w := (1 : Int32)) (by decide) ?_
  refine H.putfield s3_38 (k_2 hw) (i := 0) rfl rfl rfl (A' := [.inl (0, [(.ref (n0 + 1)), (.int (1 : Int32))]), .inr (.long, [(.long (0 : Int64)), (.long (0 : Int64)), (.long (0 : Int64)), (.long (0 : Int64)), (.long (0 : Int64)), (.long (0 : Int64)), (.long (0 : Int64)), (.long (0 : Int64)), (.long (0 : Int64)), (.long (0 : Int64)), (.long (0 : Int64)), (.long (0 : Int64)), (.long (0 : Int64)), (.long (0 : Int64)), (.long (0 : Int64)), (.long (0 : Int64))])]) rfl ?_
  refine H.istoreN s3_41 (ls' := #[.val (.ref (n0 + 0)), .val (.long v), .second, .val (.int (0 : Int32)), .unset]) rfl ?_
  refine H.iloadN s3_42 rfl ?_
  refine H.ifT s3_43 (show ¬ (0 : Int32) < (0 : Int32) by decide) ?_
  refine H.aloadN s3_87 rfl rfl ?_
  refine H.getfield s3_88 (k_1 hw) (i := 0) rfl rfl ?_
  refine H.iloadN s3_91 rfl ?_
  refine H.lloadN s3_92 rfl ?_
  refine H.lastore s3_93 (i := 1) (j := 0) rfl (by decide) (ltb rfl)  (A' := [.inl (0, [(.ref (n0 + 1)), (.int (1 : Int32))]), .inr (.long, [(.long v), (.long (0 : Int64)), (.long (0 : Int64)), (.long (0 : Int64)), (.long (0 : Int64)), (.long (0 : Int64)), (.long (0 : Int64)), (.long (0 : Int64)), (.long (0 : Int64)), (.long (0 : Int64)), (.long (0 : Int64)), (.long (0 : Int64)), (.long (0 : Int64)), (.long (0 : Int64)), (.long (0 : Int64)), (.long (0 : Int64))])]) rfl ?_
  exact H.vreturn s3_94 rfl ⟨rfl, v, rfl, trivial, (fun z => by first | rfl | (simp only [List.count_cons, List.count_nil]; ac_rfl))⟩ (by decide) (by decide)

theorem s3_46 : Nx prog_41_method_4_code 46 (.iload_n 3) 1 47 := ⟨by decide +kernel, rfl⟩
theorem s3_47 : Nx prog_41_method_4_code 47 (.iconst 1) 1 48 := ⟨by decide +kernel, rfl⟩
theorem s3_48 : Nx prog_41_method_4_code 48 (.isub) 1 49 := ⟨by decide +kernel, rfl⟩
theorem s3_49 : Nx prog_41_method_4_code 49 (.iconst 2) 1 50 := ⟨by decide +kernel, rfl⟩
theorem s3_50 : Nx prog_41_method_4_code 50 (.idiv) 1 51 := ⟨by decide +kernel, rfl⟩
theorem s3_51 : Nx prog_41_method_4_code 51 (.istore 4) 2 53 := ⟨by decide +kernel, rfl⟩
theorem s3_53 : Nx prog_41_method_4_code 53 (.aload_n 0) 1 54 := ⟨by decide +kernel, rfl⟩
theorem s3_54 : Nx prog_41_method_4_code 54 (.getfield 7) 3 57 := ⟨by decide +kernel, rfl⟩
theorem s3_57 : Nx prog_41_method_4_code 57 (.iload 4) 2 59 := ⟨by decide +kernel, rfl⟩
theorem s3_59 : Nx prog_41_method_4_code 59 (.laload) 1 60 := ⟨by decide +kernel, rfl⟩
theorem s3_60 : Nx prog_41_method_4_code 60 (.lload_n 1) 1 61 := ⟨by decide +kernel, rfl⟩
theorem s3_61 : Nx prog_41_method_4_code 61 (.lcmp) 1 62 := ⟨by decide +kernel, rfl⟩
theorem s3_62 : Bx prog_41_method_4_code 62 (.ifCond .gt) 68 65 := ⟨(6), by decide +kernel, by decide, by decide, rfl⟩
theorem s3_68 : Nx prog_41_method_4_code 68 (.aload_n 0) 1 69 := ⟨by decide +kernel, rfl⟩
theorem s3_69 : Nx prog_41_method_4_code 69 (.getfield 7) 3 72 := ⟨by decide +kernel, rfl⟩
theorem s3_72 : Nx prog_41_method_4_code 72 (.iload_n 3) 1 73 := ⟨by decide +kernel, rfl⟩
theorem s3_73 : Nx prog_41_method_4_code 73 (.aload_n 0) 1 74 := ⟨by decide +kernel, rfl⟩
theorem s3_74 : Nx prog_41_method_4_code 74 (.getfield 7) 3 77 := ⟨by decide +kernel, rfl⟩
theorem s3_77 : Nx prog_41_method_4_code 77 (.iload 4) 2 79 := ⟨by decide +kernel, rfl⟩
theorem s3_79 : Nx prog_41_method_4_code 79 (.laload) 1 80 := ⟨by decide +kernel, rfl⟩
theorem s3_80 : Nx prog_41_method_4_code 80 (.lastore) 1 81 := ⟨by decide +kernel, rfl⟩
theorem s3_81 : Nx prog_41_method_4_code 81 (.iload 4) 2 83 := ⟨by decide +kernel, rfl⟩
theorem s3_83 : Nx prog_41_method_4_code 83 (.istore_n 3) 1 84 := ⟨by decide +kernel, rfl⟩
theorem s3_84 : Bx prog_41_method_4_code 84 (.goto) 42 87 := ⟨(-42), by decide +kernel, by decide, by decide, rfl⟩
theorem s3_65 : Bx prog_41_method_4_code 65 (.goto) 87 68 := ⟨(22), by decide +kernel, by decide, by decide, rfl⟩
set_option maxRecDepth 65536 in
set_option maxHeartbeats 40000000 in
theorem m_add1 (l : Launch) {Z : State} {a0 : Array Value} (hw : HW1 Z a0) (n0 : Nat) (x0 v : Int64)  : Met l Z KT n0 y3 prog_41_method_4_code 5 none ({ frames := 0, cells := 0, slots := 0, locals := 0 } : Room) #[(.ref (n0 + 0)), (.long v)] [.inl (0, [(.ref (n0 + 1)), (.int (1 : Int32))]), .inr (.long, [(.long x0), (.long (0 : Int64)), (.long (0 : Int64)), (.long (0 : Int64)), (.long (0 : Int64)), (.long (0 : Int64)), (.long (0 : Int64)), (.long (0 : Int64)), (.long (0 : Int64)), (.long (0 : Int64)), (.long (0 : Int64)), (.long (0 : Int64)), (.long (0 : Int64)), (.long (0 : Int64)), (.long (0 : Int64)), (.long (0 : Int64))])] (fun rv B => rv = none ∧ ∃ y0 y1 : Int64, B = [.inl (0, [(.ref (n0 + 1)), (.int (2 : Int32))]), .inr (.long, [(.long y0), (.long y1), (.long (0 : Int64)), (.long (0 : Int64)), (.long (0 : Int64)), (.long (0 : Int64)), (.long (0 : Int64)), (.long (0 : Int64)), (.long (0 : Int64)), (.long (0 : Int64)), (.long (0 : Int64)), (.long (0 : Int64)), (.long (0 : Int64)), (.long (0 : Int64)), (.long (0 : Int64)), (.long (0 : Int64))])] ∧ (y0.toInt ≤ y1.toInt) ∧ ∀ z : Int64, [y0, y1].count z = [v, x0].count z) := by
  refine Met.of (a0 := a0) (ls := #[.val (.ref (n0 + 0)), .val (.long v), .second, .unset, .unset]) (kok hw) (plainFor_of_name pn_3) (fun m => by first | (simp [entryFrame, mkF, argsToLocals, Value.category]; done) | rfl) (fun G H => ?_)
  refine H.aloadN s3_0 rfl rfl ?_
  refine H.getfield s3_1 (k_0 hw) (i := 0) rfl rfl ?_
  refine H.aloadN s3_4 rfl rfl ?_
  refine H.getfield s3_5 (k_1 hw) (i := 0) rfl rfl ?_
  refine H.arraylength s3_8 (i := 1) rfl (z := (16 : Int32)) rfl ?_
  refine H.icmpT s3_9 (show ¬ (1 : Int32) = (16 : Int32) by decide) ?_
  refine H.aloadN s3_30 rfl rfl ?_
  refine H.dup s3_31 rfl ?_
  refine H.getfield s3_32 (k_0 hw) (i := 0) rfl rfl ?_
  refine H.dupX1 s3_35 rfl rfl ?_
  refine H.iconst s3_36 (v := (1 : Int32)) (by decide) ?_
  refine H.iadd s3_37 (w := (2 : Int32)) (by decide) ?_
  refine H.putfield s3_38 (k_2 hw) (i := 0) rfl rfl rfl (A' := [.inl (0, [(.ref (n0 + 1)), (.int (2 : Int32))]), .inr (.long, [(.long x0), (.long (0 : Int64)), (.long (0 : Int64)), (.long (0 : Int64)), (.long (0 : Int64)), (.long (0 : Int64)), (.long (0 : Int64)), (.long (0 : Int64)), (.long (0 : Int64)), (.long (0 : Int64)), (.long (0 : Int64)), (.long (0 : Int64)), (.long (0 : Int64)), (.long (0 : Int64)), (.long (0 : Int64)), (.long (0 : Int64))])]) rfl ?_
  refine H.istoreN s3_41 (ls' := #[.val (.ref (n0 + 0)), .val (.long v), .second, .val (.int (1 : Int32)), .unset]) rfl ?_
  refine H.iloadN s3_42 rfl ?_
  refine H.ifF s3_43 (show (0 : Int32) < (1 : Int32) by decide) ?_
  refine H.iloadN s3_46 rfl ?_
  refine H.iconst s3_47 (v := (1 : Int32)) (by decide) ?_
  refine H.isub s3_48 (w := (0 : Int32)) (by decide) ?_
  refine H.iconst s3_49 (v := (2 : Int32)) (by decide) ?_
  refine H.idiv s3_50 (by decide) (w := (0 : Int32)) (by decide) ?_
  refine H.istore s3_51 (ls' := #[.val (.ref (n0 + 0)), .val (.long v), .second, .val (.int (1 : Int32)), .val (.int (0 : Int32))]) rfl ?_
  refine H.aloadN s3_53 rfl rfl ?_
  refine H.getfield s3_54 (k_1 hw) (i := 0) rfl rfl ?_
  refine H.iload s3_57 rfl ?_
  refine H.laload s3_59 (i := 1) (j := 0) rfl (by decide) (v := (.long x0)) rfl ?_
  refine H.lloadN s3_60 rfl ?_
  refine H.lifS s3_61 s3_62 (fun (c61 : v < x0) => ?_) (fun (c61 : ¬ v < x0) => ?_)
  · have d61 : v.toInt < x0.toInt := (j_lt rfl rfl).mp c61
    refine H.aloadN s3_68 rfl rfl ?_
    refine H.getfield s3_69 (k_1 hw) (i := 0) rfl rfl ?_
    refine H.iloadN s3_72 rfl ?_
    refine H.aloadN s3_73 rfl rfl ?_
    refine H.getfield s3_74 (k_1 hw) (i := 0) rfl rfl ?_
    refine H.iload s3_77 rfl ?_
    refine H.laload s3_79 (i := 1) (j := 0) rfl (by decide) (v := (.long x0)) rfl ?_
    refine H.lastore s3_80 (i := 1) (j := 1) rfl (by decide) (ltb rfl)  (A' := [.inl (0, [(.ref (n0 + 1)), (.int (2 : Int32))]), .inr (.long, [(.long x0), (.long x0), (.long (0 : Int64)), (.long (0 : Int64)), (.long (0 : Int64)), (.long (0 : Int64)), (.long (0 : Int64)), (.long (0 : Int64)), (.long (0 : Int64)), (.long (0 : Int64)), (.long (0 : Int64)), (.long (0 : Int64)), (.long (0 : Int64)), (.long (0 : Int64)), (.long (0 : Int64)), (.long (0 : Int64))])]) rfl ?_
    refine H.iload s3_81 rfl ?_
    refine H.istoreN s3_83 (ls' := #[.val (.ref (n0 + 0)), .val (.long v), .second, .val (.int (0 : Int32)), .val (.int (0 : Int32))]) rfl ?_
    refine H.goto s3_84 ?_
    refine H.iloadN s3_42 rfl ?_
    refine H.ifT s3_43 (show ¬ (0 : Int32) < (0 : Int32) by decide) ?_
    refine H.aloadN s3_87 rfl rfl ?_
    refine H.getfield s3_88 (k_1 hw) (i := 0) rfl rfl ?_
    refine H.iloadN s3_91 rfl ?_
    refine H.lloadN s3_92 rfl ?_
    refine H.lastore s3_93 (i := 1) (j := 0) rfl (by decide) (ltb rfl)  (A' := [.inl (0, [(.ref (n0 + 1)), (.int (2 : Int32))]), .inr (.long, [(.long v), (.long x0), (.long (0 : Int64)), (.long (0 : Int64)), (.long (0 : Int64)), (.long (0 : Int64)), (.long (0 : Int64)), (.long (0 : Int64)), (.long (0 : Int64)), (.long (0 : Int64)), (.long (0 : Int64)), (.long (0 : Int64)), (.long (0 : Int64)), (.long (0 : Int64)), (.long (0 : Int64)), (.long (0 : Int64))])]) rfl ?_
    exact H.vreturn s3_94 rfl ⟨rfl, v, x0, rfl, by omega, (fun z => by first | rfl | (simp only [List.count_cons, List.count_nil]; ac_rfl))⟩ (by decide) (by decide)
  · have d61 : x0.toInt ≤ v.toInt := (j_ge rfl rfl).mp c61
    refine H.goto s3_65 ?_
    refine H.aloadN s3_87 rfl rfl ?_
    refine H.getfield s3_88 (k_1 hw) (i := 0) rfl rfl ?_
    refine H.iloadN s3_91 rfl ?_
    refine H.lloadN s3_92 rfl ?_
    refine H.lastore s3_93 (i := 1) (j := 1) rfl (by decide) (ltb rfl)  (A' := [.inl (0, [(.ref (n0 + 1)), (.int (2 : Int32))]), .inr (.long, [(.long x0), (.long v), (.long (0 : Int64)), (.long (0 : Int64)), (.long (0 : Int64)), (.long (0 : Int64)), (.long (0 : Int64)), (.long (0 : Int64)), (.long (0 : Int64)), (.long (0 : Int64)), (.long (0 : Int64)), (.long (0 : Int64)), (.long (0 : Int64)), (.long (0 : Int64)), (.long (0 : Int64)), (.long (0 : Int64))])]) rfl ?_
    exact H.vreturn s3_94 rfl ⟨rfl, x0, v, rfl, by omega, (fun z => by first | rfl | (simp only [List.count_cons, List.count_nil]; ac_rfl))⟩ (by decide) (by decide)


set_option maxRecDepth 65536 in
set_option maxHeartbeats 40000000 in
theorem m_add2 (l : Launch) {Z : State} {a0 : Array Value} (hw : HW1 Z a0) (n0 : Nat) (x0 x1 v : Int64) (o0 : x0.toInt ≤ x1.toInt) : Met l Z KT n0 y3 prog_41_method_4_code 5 none ({ frames := 0, cells := 0, slots := 0, locals := 0 } : Room) #[(.ref (n0 + 0)), (.long v)] [.inl (0, [(.ref (n0 + 1)), (.int (2 : Int32))]), .inr (.long, [(.long x0), (.long x1), (.long (0 : Int64)), (.long (0 : Int64)), (.long (0 : Int64)), (.long (0 : Int64)), (.long (0 : Int64)), (.long (0 : Int64)), (.long (0 : Int64)), (.long (0 : Int64)), (.long (0 : Int64)), (.long (0 : Int64)), (.long (0 : Int64)), (.long (0 : Int64)), (.long (0 : Int64)), (.long (0 : Int64))])] (fun rv B => rv = none ∧ ∃ y0 y1 y2 : Int64, B = [.inl (0, [(.ref (n0 + 1)), (.int (3 : Int32))]), .inr (.long, [(.long y0), (.long y1), (.long y2), (.long (0 : Int64)), (.long (0 : Int64)), (.long (0 : Int64)), (.long (0 : Int64)), (.long (0 : Int64)), (.long (0 : Int64)), (.long (0 : Int64)), (.long (0 : Int64)), (.long (0 : Int64)), (.long (0 : Int64)), (.long (0 : Int64)), (.long (0 : Int64)), (.long (0 : Int64))])] ∧ (y0.toInt ≤ y1.toInt ∧ y0.toInt ≤ y2.toInt) ∧ ∀ z : Int64, [y0, y1, y2].count z = [v, x0, x1].count z) := by
  refine Met.of (a0 := a0) (ls := #[.val (.ref (n0 + 0)), .val (.long v), .second, .unset, .unset]) (kok hw) (plainFor_of_name pn_3) (fun m => by first | (simp [entryFrame, mkF, argsToLocals, Value.category]; done) | rfl) (fun G H => ?_)
  refine H.aloadN s3_0 rfl rfl ?_
  refine H.getfield s3_1 (k_0 hw) (i := 0) rfl rfl ?_
  refine H.aloadN s3_4 rfl rfl ?_
  refine H.getfield s3_5 (k_1 hw) (i := 0) rfl rfl ?_
  refine H.arraylength s3_8 (i := 1) rfl (z := (16 : Int32)) rfl ?_
  refine H.icmpT s3_9 (show ¬ (2 : Int32) = (16 : Int32) by decide) ?_
  refine H.aloadN s3_30 rfl rfl ?_
  refine H.dup s3_31 rfl ?_
  refine H.getfield s3_32 (k_0 hw) (i := 0) rfl rfl ?_
  refine H.dupX1 s3_35 rfl rfl ?_
  refine H.iconst s3_36 (v := (1 : Int32)) (by decide) ?_
  refine H.iadd s3_37 (w := (3 : Int32)) (by decide) ?_
  refine H.putfield s3_38 (k_2 hw) (i := 0) rfl rfl rfl (A' := [.inl (0, [(.ref (n0 + 1)), (.int (3 : Int32))]), .inr (.long, [(.long x0), (.long x1), (.long (0 : Int64)), (.long (0 : Int64)), (.long (0 : Int64)), (.long (0 : Int64)), (.long (0 : Int64)), (.long (0 : Int64)), (.long (0 : Int64)), (.long (0 : Int64)), (.long (0 : Int64)), (.long (0 : Int64)), (.long (0 : Int64)), (.long (0 : Int64)), (.long (0 : Int64)), (.long (0 : Int64))])]) rfl ?_
  refine H.istoreN s3_41 (ls' := #[.val (.ref (n0 + 0)), .val (.long v), .second, .val (.int (2 : Int32)), .unset]) rfl ?_
  refine H.iloadN s3_42 rfl ?_
  refine H.ifF s3_43 (show (0 : Int32) < (2 : Int32) by decide) ?_
  refine H.iloadN s3_46 rfl ?_
  refine H.iconst s3_47 (v := (1 : Int32)) (by decide) ?_
  refine H.isub s3_48 (w := (1 : Int32)) (by decide) ?_
  refine H.iconst s3_49 (v := (2 : Int32)) (by decide) ?_
  refine H.idiv s3_50 (by decide) (w := (0 : Int32)) (by decide) ?_
  refine H.istore s3_51 (ls' := #[.val (.ref (n0 + 0)), .val (.long v), .second, .val (.int (2 : Int32)), .val (.int (0 : Int32))]) rfl ?_
  refine H.aloadN s3_53 rfl rfl ?_
  refine H.getfield s3_54 (k_1 hw) (i := 0) rfl rfl ?_
  refine H.iload s3_57 rfl ?_
  refine H.laload s3_59 (i := 1) (j := 0) rfl (by decide) (v := (.long x0)) rfl ?_
  refine H.lloadN s3_60 rfl ?_
  refine H.lifS s3_61 s3_62 (fun (c61 : v < x0) => ?_) (fun (c61 : ¬ v < x0) => ?_)
  · have d61 : v.toInt < x0.toInt := (j_lt rfl rfl).mp c61
    refine H.aloadN s3_68 rfl rfl ?_
    refine H.getfield s3_69 (k_1 hw) (i := 0) rfl rfl ?_
    refine H.iloadN s3_72 rfl ?_
    refine H.aloadN s3_73 rfl rfl ?_
    refine H.getfield s3_74 (k_1 hw) (i := 0) rfl rfl ?_
    refine H.iload s3_77 rfl ?_
    refine H.laload s3_79 (i := 1) (j := 0) rfl (by decide) (v := (.long x0)) rfl ?_
    refine H.lastore s3_80 (i := 1) (j := 2) rfl (by decide) (ltb rfl)  (A' := [.inl (0, [(.ref (n0 + 1)), (.int (3 : Int32))]), .inr (.long, [(.long x0), (.long x1), (.long x0), (.long (0 : Int64)), (.long (0 : Int64)), (.long (0 : Int64)), (.long (0 : Int64)), (.long (0 : Int64)), (.long (0 : Int64)), (.long (0 : Int64)), (.long (0 : Int64)), (.long (0 : Int64)), (.long (0 : Int64)), (.long (0 : Int64)), (.long (0 : Int64)), (.long (0 : Int64))])]) rfl ?_
    refine H.iload s3_81 rfl ?_
    refine H.istoreN s3_83 (ls' := #[.val (.ref (n0 + 0)), .val (.long v), .second, .val (.int (0 : Int32)), .val (.int (0 : Int32))]) rfl ?_
    refine H.goto s3_84 ?_
    refine H.iloadN s3_42 rfl ?_
    refine H.ifT s3_43 (show ¬ (0 : Int32) < (0 : Int32) by decide) ?_
    refine H.aloadN s3_87 rfl rfl ?_
    refine H.getfield s3_88 (k_1 hw) (i := 0) rfl rfl ?_
    refine H.iloadN s3_91 rfl ?_
    refine H.lloadN s3_92 rfl ?_
    refine H.lastore s3_93 (i := 1) (j := 0) rfl (by decide) (ltb rfl)  (A' := [.inl (0, [(.ref (n0 + 1)), (.int (3 : Int32))]), .inr (.long, [(.long v), (.long x1), (.long x0), (.long (0 : Int64)), (.long (0 : Int64)), (.long (0 : Int64)), (.long (0 : Int64)), (.long (0 : Int64)), (.long (0 : Int64)), (.long (0 : Int64)), (.long (0 : Int64)), (.long (0 : Int64)), (.long (0 : Int64)), (.long (0 : Int64)), (.long (0 : Int64)), (.long (0 : Int64))])]) rfl ?_
    exact H.vreturn s3_94 rfl ⟨rfl, v, x1, x0, rfl, ⟨by omega, by omega⟩, (fun z => by first | rfl | (simp only [List.count_cons, List.count_nil]; ac_rfl))⟩ (by decide) (by decide)
  · have d61 : x0.toInt ≤ v.toInt := (j_ge rfl rfl).mp c61
    refine H.goto s3_65 ?_
    refine H.aloadN s3_87 rfl rfl ?_
    refine H.getfield s3_88 (k_1 hw) (i := 0) rfl rfl ?_
    refine H.iloadN s3_91 rfl ?_
    refine H.lloadN s3_92 rfl ?_
    refine H.lastore s3_93 (i := 1) (j := 2) rfl (by decide) (ltb rfl)  (A' := [.inl (0, [(.ref (n0 + 1)), (.int (3 : Int32))]), .inr (.long, [(.long x0), (.long x1), (.long v), (.long (0 : Int64)), (.long (0 : Int64)), (.long (0 : Int64)), (.long (0 : Int64)), (.long (0 : Int64)), (.long (0 : Int64)), (.long (0 : Int64)), (.long (0 : Int64)), (.long (0 : Int64)), (.long (0 : Int64)), (.long (0 : Int64)), (.long (0 : Int64)), (.long (0 : Int64))])]) rfl ?_
    exact H.vreturn s3_94 rfl ⟨rfl, x0, x1, v, rfl, ⟨by omega, by omega⟩, (fun z => by first | rfl | (simp only [List.count_cons, List.count_nil]; ac_rfl))⟩ (by decide) (by decide)


set_option maxRecDepth 65536 in
set_option maxHeartbeats 40000000 in
theorem m_add3 (l : Launch) {Z : State} {a0 : Array Value} (hw : HW1 Z a0) (n0 : Nat) (x0 x1 x2 v : Int64) (o0 : x0.toInt ≤ x1.toInt) (o1 : x0.toInt ≤ x2.toInt) : Met l Z KT n0 y3 prog_41_method_4_code 5 none ({ frames := 0, cells := 0, slots := 0, locals := 0 } : Room) #[(.ref (n0 + 0)), (.long v)] [.inl (0, [(.ref (n0 + 1)), (.int (3 : Int32))]), .inr (.long, [(.long x0), (.long x1), (.long x2), (.long (0 : Int64)), (.long (0 : Int64)), (.long (0 : Int64)), (.long (0 : Int64)), (.long (0 : Int64)), (.long (0 : Int64)), (.long (0 : Int64)), (.long (0 : Int64)), (.long (0 : Int64)), (.long (0 : Int64)), (.long (0 : Int64)), (.long (0 : Int64)), (.long (0 : Int64))])] (fun rv B => rv = none ∧ ∃ y0 y1 y2 y3 : Int64, B = [.inl (0, [(.ref (n0 + 1)), (.int (4 : Int32))]), .inr (.long, [(.long y0), (.long y1), (.long y2), (.long y3), (.long (0 : Int64)), (.long (0 : Int64)), (.long (0 : Int64)), (.long (0 : Int64)), (.long (0 : Int64)), (.long (0 : Int64)), (.long (0 : Int64)), (.long (0 : Int64)), (.long (0 : Int64)), (.long (0 : Int64)), (.long (0 : Int64)), (.long (0 : Int64))])] ∧ (y0.toInt ≤ y1.toInt ∧ y0.toInt ≤ y2.toInt ∧ y1.toInt ≤ y3.toInt) ∧ ∀ z : Int64, [y0, y1, y2, y3].count z = [v, x0, x1, x2].count z) := by
  refine Met.of (a0 := a0) (ls := #[.val (.ref (n0 + 0)), .val (.long v), .second, .unset, .unset]) (kok hw) (plainFor_of_name pn_3) (fun m => by first | (simp [entryFrame, mkF, argsToLocals, Value.category]; done) | rfl) (fun G H => ?_)
  refine H.aloadN s3_0 rfl rfl ?_
  refine H.getfield s3_1 (k_0 hw) (i := 0) rfl rfl ?_
  refine H.aloadN s3_4 rfl rfl ?_
  refine H.getfield s3_5 (k_1 hw) (i := 0) rfl rfl ?_
  refine H.arraylength s3_8 (i := 1) rfl (z := (16 : Int32)) rfl ?_
  refine H.icmpT s3_9 (show ¬ (3 : Int32) = (16 : Int32) by decide) ?_
  refine H.aloadN s3_30 rfl rfl ?_
  refine H.dup s3_31 rfl ?_
  refine H.getfield s3_32 (k_0 hw) (i := 0) rfl rfl ?_
  refine H.dupX1 s3_35 rfl rfl ?_
  refine H.iconst s3_36 (v := (1 : Int32)) (by decide) ?_
  refine H.iadd s3_37 (w := (4 : Int32)) (by decide) ?_
  refine H.putfield s3_38 (k_2 hw) (i := 0) rfl rfl rfl (A' := [.inl (0, [(.ref (n0 + 1)), (.int (4 : Int32))]), .inr (.long, [(.long x0), (.long x1), (.long x2), (.long (0 : Int64)), (.long (0 : Int64)), (.long (0 : Int64)), (.long (0 : Int64)), (.long (0 : Int64)), (.long (0 : Int64)), (.long (0 : Int64)), (.long (0 : Int64)), (.long (0 : Int64)), (.long (0 : Int64)), (.long (0 : Int64)), (.long (0 : Int64)), (.long (0 : Int64))])]) rfl ?_
  refine H.istoreN s3_41 (ls' := #[.val (.ref (n0 + 0)), .val (.long v), .second, .val (.int (3 : Int32)), .unset]) rfl ?_
  refine H.iloadN s3_42 rfl ?_
  refine H.ifF s3_43 (show (0 : Int32) < (3 : Int32) by decide) ?_
  refine H.iloadN s3_46 rfl ?_
  refine H.iconst s3_47 (v := (1 : Int32)) (by decide) ?_
  refine H.isub s3_48 (w := (2 : Int32)) (by decide) ?_
  refine H.iconst s3_49 (v := (2 : Int32)) (by decide) ?_
  refine H.idiv s3_50 (by decide) (w := (1 : Int32)) (by decide) ?_
  refine H.istore s3_51 (ls' := #[.val (.ref (n0 + 0)), .val (.long v), .second, .val (.int (3 : Int32)), .val (.int (1 : Int32))]) rfl ?_
  refine H.aloadN s3_53 rfl rfl ?_
  refine H.getfield s3_54 (k_1 hw) (i := 0) rfl rfl ?_
  refine H.iload s3_57 rfl ?_
  refine H.laload s3_59 (i := 1) (j := 1) rfl (by decide) (v := (.long x1)) rfl ?_
  refine H.lloadN s3_60 rfl ?_
  refine H.lifS s3_61 s3_62 (fun (c61 : v < x1) => ?_) (fun (c61 : ¬ v < x1) => ?_)
  · have d61 : v.toInt < x1.toInt := (j_lt rfl rfl).mp c61
    refine H.aloadN s3_68 rfl rfl ?_
    refine H.getfield s3_69 (k_1 hw) (i := 0) rfl rfl ?_
    refine H.iloadN s3_72 rfl ?_
    refine H.aloadN s3_73 rfl rfl ?_
    refine H.getfield s3_74 (k_1 hw) (i := 0) rfl rfl ?_
    refine H.iload s3_77 rfl ?_
    refine H.laload s3_79 (i := 1) (j := 1) rfl (by decide) (v := (.long x1)) rfl ?_
    refine H.lastore s3_80 (i := 1) (j := 3) rfl (by decide) (ltb rfl)  (A' := [.inl (0, [(.ref (n0 + 1)), (.int (4 : Int32))]), .inr (.long, [(.long x0), (.long x1), (.long x2), (.long x1), (.long (0 : Int64)), (.long (0 : Int64)), (.long (0 : Int64)), (.long (0 : Int64)), (.long (0 : Int64)), (.long (0 : Int64)), (.long (0 : Int64)), (.long (0 : Int64)), (.long (0 : Int64)), (.long (0 : Int64)), (.long (0 : Int64)), (.long (0 : Int64))])]) rfl ?_
    refine H.iload s3_81 rfl ?_
    refine H.istoreN s3_83 (ls' := #[.val (.ref (n0 + 0)), .val (.long v), .second, .val (.int (1 : Int32)), .val (.int (1 : Int32))]) rfl ?_
    refine H.goto s3_84 ?_
    refine H.iloadN s3_42 rfl ?_
    refine H.ifF s3_43 (show (0 : Int32) < (1 : Int32) by decide) ?_
    refine H.iloadN s3_46 rfl ?_
    refine H.iconst s3_47 (v := (1 : Int32)) (by decide) ?_
    refine H.isub s3_48 (w := (0 : Int32)) (by decide) ?_
    refine H.iconst s3_49 (v := (2 : Int32)) (by decide) ?_
    refine H.idiv s3_50 (by decide) (w := (0 : Int32)) (by decide) ?_
    refine H.istore s3_51 (ls' := #[.val (.ref (n0 + 0)), .val (.long v), .second, .val (.int (1 : Int32)), .val (.int (0 : Int32))]) rfl ?_
    refine H.aloadN s3_53 rfl rfl ?_
    refine H.getfield s3_54 (k_1 hw) (i := 0) rfl rfl ?_
    refine H.iload s3_57 rfl ?_
    refine H.laload s3_59 (i := 1) (j := 0) rfl (by decide) (v := (.long x0)) rfl ?_
    refine H.lloadN s3_60 rfl ?_
    refine H.lifS s3_61 s3_62 (fun (c61_1 : v < x0) => ?_) (fun (c61_1 : ¬ v < x0) => ?_)
    · have d61_1 : v.toInt < x0.toInt := (j_lt rfl rfl).mp c61_1
      refine H.aloadN s3_68 rfl rfl ?_
      refine H.getfield s3_69 (k_1 hw) (i := 0) rfl rfl ?_
      refine H.iloadN s3_72 rfl ?_
      refine H.aloadN s3_73 rfl rfl ?_
      refine H.getfield s3_74 (k_1 hw) (i := 0) rfl rfl ?_
      refine H.iload s3_77 rfl ?_
      refine H.laload s3_79 (i := 1) (j := 0) rfl (by decide) (v := (.long x0)) rfl ?_
      refine H.lastore s3_80 (i := 1) (j := 1) rfl (by decide) (ltb rfl)  (A' := [.inl (0, [(.ref (n0 + 1)), (.int (4 : Int32))]), .inr (.long, [(.long x0), (.long x0), (.long x2), (.long x1), (.long (0 : Int64)), (.long (0 : Int64)), (.long (0 : Int64)), (.long (0 : Int64)), (.long (0 : Int64)), (.long (0 : Int64)), (.long (0 : Int64)), (.long (0 : Int64)), (.long (0 : Int64)), (.long (0 : Int64)), (.long (0 : Int64)), (.long (0 : Int64))])]) rfl ?_
      refine H.iload s3_81 rfl ?_
      refine H.istoreN s3_83 (ls' := #[.val (.ref (n0 + 0)), .val (.long v), .second, .val (.int (0 : Int32)), .val (.int (0 : Int32))]) rfl ?_
      refine H.goto s3_84 ?_
      refine H.iloadN s3_42 rfl ?_
      refine H.ifT s3_43 (show ¬ (0 : Int32) < (0 : Int32) by decide) ?_
      refine H.aloadN s3_87 rfl rfl ?_
      refine H.getfield s3_88 (k_1 hw) (i := 0) rfl rfl ?_
      refine H.iloadN s3_91 rfl ?_
      refine H.lloadN s3_92 rfl ?_
      refine H.lastore s3_93 (i := 1) (j := 0) rfl (by decide) (ltb rfl)  (A' := [.inl (0, [(.ref (n0 + 1)), (.int (4 : Int32))]), .inr (.long, [(.long v), (.long x0), (.long x2), (.long x1), (.long (0 : Int64)), (.long (0 : Int64)), (.long (0 : Int64)), (.long (0 : Int64)), (.long (0 : Int64)), (.long (0 : Int64)), (.long (0 : Int64)), (.long (0 : Int64)), (.long (0 : Int64)), (.long (0 : Int64)), (.long (0 : Int64)), (.long (0 : Int64))])]) rfl ?_
      exact H.vreturn s3_94 rfl ⟨rfl, v, x0, x2, x1, rfl, ⟨by omega, by omega, by omega⟩, (fun z => by first | rfl | (simp only [List.count_cons, List.count_nil]; ac_rfl))⟩ (by decide) (by decide)
    · have d61_1 : x0.toInt ≤ v.toInt := (j_ge rfl rfl).mp c61_1
      refine H.goto s3_65 ?_
      refine H.aloadN s3_87 rfl rfl ?_
      refine H.getfield s3_88 (k_1 hw) (i := 0) rfl rfl ?_
      refine H.iloadN s3_91 rfl ?_
      refine H.lloadN s3_92 rfl ?_
      refine H.lastore s3_93 (i := 1) (j := 1) rfl (by decide) (ltb rfl)  (A' := [.inl (0, [(.ref (n0 + 1)), (.int (4 : Int32))]), .inr (.long, [(.long x0), (.long v), (.long x2), (.long x1), (.long (0 : Int64)), (.long (0 : Int64)), (.long (0 : Int64)), (.long (0 : Int64)), (.long (0 : Int64)), (.long (0 : Int64)), (.long (0 : Int64)), (.long (0 : Int64)), (.long (0 : Int64)), (.long (0 : Int64)), (.long (0 : Int64)), (.long (0 : Int64))])]) rfl ?_
      exact H.vreturn s3_94 rfl ⟨rfl, x0, v, x2, x1, rfl, ⟨by omega, by omega, by omega⟩, (fun z => by first | rfl | (simp only [List.count_cons, List.count_nil]; ac_rfl))⟩ (by decide) (by decide)
  · have d61 : x1.toInt ≤ v.toInt := (j_ge rfl rfl).mp c61
    refine H.goto s3_65 ?_
    refine H.aloadN s3_87 rfl rfl ?_
    refine H.getfield s3_88 (k_1 hw) (i := 0) rfl rfl ?_
    refine H.iloadN s3_91 rfl ?_
    refine H.lloadN s3_92 rfl ?_
    refine H.lastore s3_93 (i := 1) (j := 3) rfl (by decide) (ltb rfl)  (A' := [.inl (0, [(.ref (n0 + 1)), (.int (4 : Int32))]), .inr (.long, [(.long x0), (.long x1), (.long x2), (.long v), (.long (0 : Int64)), (.long (0 : Int64)), (.long (0 : Int64)), (.long (0 : Int64)), (.long (0 : Int64)), (.long (0 : Int64)), (.long (0 : Int64)), (.long (0 : Int64)), (.long (0 : Int64)), (.long (0 : Int64)), (.long (0 : Int64)), (.long (0 : Int64))])]) rfl ?_
    exact H.vreturn s3_94 rfl ⟨rfl, x0, x1, x2, v, rfl, ⟨by omega, by omega, by omega⟩, (fun z => by first | rfl | (simp only [List.count_cons, List.count_nil]; ac_rfl))⟩ (by decide) (by decide)


set_option maxRecDepth 65536 in
set_option maxHeartbeats 40000000 in
theorem m_add4 (l : Launch) {Z : State} {a0 : Array Value} (hw : HW1 Z a0) (n0 : Nat) (x0 x1 x2 x3 v : Int64) (o0 : x0.toInt ≤ x1.toInt) (o1 : x0.toInt ≤ x2.toInt) (o2 : x1.toInt ≤ x3.toInt) : Met l Z KT n0 y3 prog_41_method_4_code 5 none ({ frames := 0, cells := 0, slots := 0, locals := 0 } : Room) #[(.ref (n0 + 0)), (.long v)] [.inl (0, [(.ref (n0 + 1)), (.int (4 : Int32))]), .inr (.long, [(.long x0), (.long x1), (.long x2), (.long x3), (.long (0 : Int64)), (.long (0 : Int64)), (.long (0 : Int64)), (.long (0 : Int64)), (.long (0 : Int64)), (.long (0 : Int64)), (.long (0 : Int64)), (.long (0 : Int64)), (.long (0 : Int64)), (.long (0 : Int64)), (.long (0 : Int64)), (.long (0 : Int64))])] (fun rv B => rv = none ∧ ∃ y0 y1 y2 y3 y4 : Int64, B = [.inl (0, [(.ref (n0 + 1)), (.int (5 : Int32))]), .inr (.long, [(.long y0), (.long y1), (.long y2), (.long y3), (.long y4), (.long (0 : Int64)), (.long (0 : Int64)), (.long (0 : Int64)), (.long (0 : Int64)), (.long (0 : Int64)), (.long (0 : Int64)), (.long (0 : Int64)), (.long (0 : Int64)), (.long (0 : Int64)), (.long (0 : Int64)), (.long (0 : Int64))])] ∧ (y0.toInt ≤ y1.toInt ∧ y0.toInt ≤ y2.toInt ∧ y1.toInt ≤ y3.toInt ∧ y1.toInt ≤ y4.toInt) ∧ ∀ z : Int64, [y0, y1, y2, y3, y4].count z = [v, x0, x1, x2, x3].count z) := by
  refine Met.of (a0 := a0) (ls := #[.val (.ref (n0 + 0)), .val (.long v), .second, .unset, .unset]) (kok hw) (plainFor_of_name pn_3) (fun m => by first | (simp [entryFrame, mkF, argsToLocals, Value.category]; done) | rfl) (fun G H => ?_)
  refine H.aloadN s3_0 rfl rfl ?_
  refine H.getfield s3_1 (k_0 hw) (i := 0) rfl rfl ?_
  refine H.aloadN s3_4 rfl rfl ?_
  refine H.getfield s3_5 (k_1 hw) (i := 0) rfl rfl ?_
  refine H.arraylength s3_8 (i := 1) rfl (z := (16 : Int32)) rfl ?_
  refine H.icmpT s3_9 (show ¬ (4 : Int32) = (16 : Int32) by decide) ?_
  refine H.aloadN s3_30 rfl rfl ?_
  refine H.dup s3_31 rfl ?_
  refine H.getfield s3_32 (k_0 hw) (i := 0) rfl rfl ?_
  refine H.dupX1 s3_35 rfl rfl ?_
  refine H.iconst s3_36 (v := (1 : Int32)) (by decide) ?_
  refine H.iadd s3_37 (w := (5 : Int32)) (by decide) ?_
  refine H.putfield s3_38 (k_2 hw) (i := 0) rfl rfl rfl (A' := [.inl (0, [(.ref (n0 + 1)), (.int (5 : Int32))]), .inr (.long, [(.long x0), (.long x1), (.long x2), (.long x3), (.long (0 : Int64)), (.long (0 : Int64)), (.long (0 : Int64)), (.long (0 : Int64)), (.long (0 : Int64)), (.long (0 : Int64)), (.long (0 : Int64)), (.long (0 : Int64)), (.long (0 : Int64)), (.long (0 : Int64)), (.long (0 : Int64)), (.long (0 : Int64))])]) rfl ?_
  refine H.istoreN s3_41 (ls' := #[.val (.ref (n0 + 0)), .val (.long v), .second, .val (.int (4 : Int32)), .unset]) rfl ?_
  refine H.iloadN s3_42 rfl ?_
  refine H.ifF s3_43 (show (0 : Int32) < (4 : Int32) by decide) ?_
  refine H.iloadN s3_46 rfl ?_
  refine H.iconst s3_47 (v := (1 : Int32)) (by decide) ?_
  refine H.isub s3_48 (w := (3 : Int32)) (by decide) ?_
  refine H.iconst s3_49 (v := (2 : Int32)) (by decide) ?_
  refine H.idiv s3_50 (by decide) (w := (1 : Int32)) (by decide) ?_
  refine H.istore s3_51 (ls' := #[.val (.ref (n0 + 0)), .val (.long v), .second, .val (.int (4 : Int32)), .val (.int (1 : Int32))]) rfl ?_
  refine H.aloadN s3_53 rfl rfl ?_
  refine H.getfield s3_54 (k_1 hw) (i := 0) rfl rfl ?_
  refine H.iload s3_57 rfl ?_
  refine H.laload s3_59 (i := 1) (j := 1) rfl (by decide) (v := (.long x1)) rfl ?_
  refine H.lloadN s3_60 rfl ?_
  refine H.lifS s3_61 s3_62 (fun (c61 : v < x1) => ?_) (fun (c61 : ¬ v < x1) => ?_)
  · have d61 : v.toInt < x1.toInt := (j_lt rfl rfl).mp c61
    refine H.aloadN s3_68 rfl rfl ?_
    refine H.getfield s3_69 (k_1 hw) (i := 0) rfl rfl ?_
    refine H.iloadN s3_72 rfl ?_
    refine H.aloadN s3_73 rfl rfl ?_
    refine H.getfield s3_74 (k_1 hw) (i := 0) rfl rfl ?_
    refine H.iload s3_77 rfl ?_
    refine H.laload s3_79 (i := 1) (j := 1) rfl (by decide) (v := (.long x1)) rfl ?_
    refine H.lastore s3_80 (i := 1) (j := 4) rfl (by decide) (ltb rfl)  (A' := [.inl (0, [(.ref (n0 + 1)), (.int (5 : Int32))]), .inr (.long, [(.long x0), (.long x1), (.long x2), (.long x3), (.long x1), (.long (0 : Int64)), (.long (0 : Int64)), (.long (0 : Int64)), (.long (0 : Int64)), (.long (0 : Int64)), (.long (0 : Int64)), (.long (0 : Int64)), (.long (0 : Int64)), (.long (0 : Int64)), (.long (0 : Int64)), (.long (0 : Int64))])]) rfl ?_
    refine H.iload s3_81 rfl ?_
    refine H.istoreN s3_83 (ls' := #[.val (.ref (n0 + 0)), .val (.long v), .second, .val (.int (1 : Int32)), .val (.int (1 : Int32))]) rfl ?_
    refine H.goto s3_84 ?_
    refine H.iloadN s3_42 rfl ?_
    refine H.ifF s3_43 (show (0 : Int32) < (1 : Int32) by decide) ?_
    refine H.iloadN s3_46 rfl ?_
    refine H.iconst s3_47 (v := (1 : Int32)) (by decide) ?_
    refine H.isub s3_48 (w := (0 : Int32)) (by decide) ?_
    refine H.iconst s3_49 (v := (2 : Int32)) (by decide) ?_
    refine H.idiv s3_50 (by decide) (w := (0 : Int32)) (by decide) ?_
    refine H.istore s3_51 (ls' := #[.val (.ref (n0 + 0)), .val (.long v), .second, .val (.int (1 : Int32)), .val (.int (0 : Int32))]) rfl ?_
    refine H.aloadN s3_53 rfl rfl ?_
    refine H.getfield s3_54 (k_1 hw) (i := 0) rfl rfl ?_
    refine H.iload s3_57 rfl ?_
    refine H.laload s3_59 (i := 1) (j := 0) rfl (by decide) (v := (.long x0)) rfl ?_
    refine H.lloadN s3_60 rfl ?_
    refine H.lifS s3_61 s3_62 (fun (c61_1 : v < x0) => ?_) (fun (c61_1 : ¬ v < x0) => ?_)
    · have d61_1 : v.toInt < x0.toInt := (j_lt rfl rfl).mp c61_1
      refine H.aloadN s3_68 rfl rfl ?_
      refine H.getfield s3_69 (k_1 hw) (i := 0) rfl rfl ?_
      refine H.iloadN s3_72 rfl ?_
      refine H.aloadN s3_73 rfl rfl ?_
      refine H.getfield s3_74 (k_1 hw) (i := 0) rfl rfl ?_
      refine H.iload s3_77 rfl ?_
      refine H.laload s3_79 (i := 1) (j := 0) rfl (by decide) (v := (.long x0)) rfl ?_
      refine H.lastore s3_80 (i := 1) (j := 1) rfl (by decide) (ltb rfl)  (A' := [.inl (0, [(.ref (n0 + 1)), (.int (5 : Int32))]), .inr (.long, [(.long x0), (.long x0), (.long x2), (.long x3), (.long x1), (.long (0 : Int64)), (.long (0 : Int64)), (.long (0 : Int64)), (.long (0 : Int64)), (.long (0 : Int64)), (.long (0 : Int64)), (.long (0 : Int64)), (.long (0 : Int64)), (.long (0 : Int64)), (.long (0 : Int64)), (.long (0 : Int64))])]) rfl ?_
      refine H.iload s3_81 rfl ?_
      refine H.istoreN s3_83 (ls' := #[.val (.ref (n0 + 0)), .val (.long v), .second, .val (.int (0 : Int32)), .val (.int (0 : Int32))]) rfl ?_
      refine H.goto s3_84 ?_
      refine H.iloadN s3_42 rfl ?_
      refine H.ifT s3_43 (show ¬ (0 : Int32) < (0 : Int32) by decide) ?_
      refine H.aloadN s3_87 rfl rfl ?_
      refine H.getfield s3_88 (k_1 hw) (i := 0) rfl rfl ?_
      refine H.iloadN s3_91 rfl ?_
      refine H.lloadN s3_92 rfl ?_
      refine H.lastore s3_93 (i := 1) (j := 0) rfl (by decide) (ltb rfl)  (A' := [.inl (0, [(.ref (n0 + 1)), (.int (5 : Int32))]), .inr (.long, [(.long v), (.long x0), (.long x2), (.long x3), (.long x1), (.long (0 : Int64)), (.long (0 : Int64)), (.long (0 : Int64)), (.long (0 : Int64)), (.long (0 : Int64)), (.long (0 : Int64)), (.long (0 : Int64)), (.long (0 : Int64)), (.long (0 : Int64)), (.long (0 : Int64)), (.long (0 : Int64))])]) rfl ?_
      exact H.vreturn s3_94 rfl ⟨rfl, v, x0, x2, x3, x1, rfl, ⟨by omega, by omega, by omega, by omega⟩, (fun z => by first | rfl | (simp only [List.count_cons, List.count_nil]; ac_rfl))⟩ (by decide) (by decide)
    · have d61_1 : x0.toInt ≤ v.toInt := (j_ge rfl rfl).mp c61_1
      refine H.goto s3_65 ?_
      refine H.aloadN s3_87 rfl rfl ?_
      refine H.getfield s3_88 (k_1 hw) (i := 0) rfl rfl ?_
      refine H.iloadN s3_91 rfl ?_
      refine H.lloadN s3_92 rfl ?_
      refine H.lastore s3_93 (i := 1) (j := 1) rfl (by decide) (ltb rfl)  (A' := [.inl (0, [(.ref (n0 + 1)), (.int (5 : Int32))]), .inr (.long, [(.long x0), (.long v), (.long x2), (.long x3), (.long x1), (.long (0 : Int64)), (.long (0 : Int64)), (.long (0 : Int64)), (.long (0 : Int64)), (.long (0 : Int64)), (.long (0 : Int64)), (.long (0 : Int64)), (.long (0 : Int64)), (.long (0 : Int64)), (.long (0 : Int64)), (.long (0 : Int64))])]) rfl ?_
      exact H.vreturn s3_94 rfl ⟨rfl, x0, v, x2, x3, x1, rfl, ⟨by omega, by omega, by omega, by omega⟩, (fun z => by first | rfl | (simp only [List.count_cons, List.count_nil]; ac_rfl))⟩ (by decide) (by decide)
  · have d61 : x1.toInt ≤ v.toInt := (j_ge rfl rfl).mp c61
    refine H.goto s3_65 ?_
    refine H.aloadN s3_87 rfl rfl ?_
    refine H.getfield s3_88 (k_1 hw) (i := 0) rfl rfl ?_
    refine H.iloadN s3_91 rfl ?_
    refine H.lloadN s3_92 rfl ?_
    refine H.lastore s3_93 (i := 1) (j := 4) rfl (by decide) (ltb rfl)  (A' := [.inl (0, [(.ref (n0 + 1)), (.int (5 : Int32))]), .inr (.long, [(.long x0), (.long x1), (.long x2), (.long x3), (.long v), (.long (0 : Int64)), (.long (0 : Int64)), (.long (0 : Int64)), (.long (0 : Int64)), (.long (0 : Int64)), (.long (0 : Int64)), (.long (0 : Int64)), (.long (0 : Int64)), (.long (0 : Int64)), (.long (0 : Int64)), (.long (0 : Int64))])]) rfl ?_
    exact H.vreturn s3_94 rfl ⟨rfl, x0, x1, x2, x3, v, rfl, ⟨by omega, by omega, by omega, by omega⟩, (fun z => by first | rfl | (simp only [List.count_cons, List.count_nil]; ac_rfl))⟩ (by decide) (by decide)

theorem s4_0 : Nx prog_41_method_5_code 0 (.aload_n 0) 1 1 := ⟨by decide +kernel, rfl⟩
theorem s4_1 : Nx prog_41_method_5_code 1 (.getfield 7) 3 4 := ⟨by decide +kernel, rfl⟩
theorem s4_4 : Nx prog_41_method_5_code 4 (.iconst 0) 1 5 := ⟨by decide +kernel, rfl⟩
theorem s4_5 : Nx prog_41_method_5_code 5 (.laload) 1 6 := ⟨by decide +kernel, rfl⟩
theorem s4_6 : Nx prog_41_method_5_code 6 (.lstore_n 1) 1 7 := ⟨by decide +kernel, rfl⟩
theorem s4_7 : Nx prog_41_method_5_code 7 (.aload_n 0) 1 8 := ⟨by decide +kernel, rfl⟩
theorem s4_8 : Nx prog_41_method_5_code 8 (.getfield 7) 3 11 := ⟨by decide +kernel, rfl⟩
theorem s4_11 : Nx prog_41_method_5_code 11 (.aload_n 0) 1 12 := ⟨by decide +kernel, rfl⟩
theorem s4_12 : Nx prog_41_method_5_code 12 (.dup) 1 13 := ⟨by decide +kernel, rfl⟩
theorem s4_13 : Nx prog_41_method_5_code 13 (.getfield 13) 3 16 := ⟨by decide +kernel, rfl⟩
theorem s4_16 : Nx prog_41_method_5_code 16 (.iconst 1) 1 17 := ⟨by decide +kernel, rfl⟩
theorem s4_17 : Nx prog_41_method_5_code 17 (.isub) 1 18 := ⟨by decide +kernel, rfl⟩
theorem s4_18 : Nx prog_41_method_5_code 18 (.dup_x1) 1 19 := ⟨by decide +kernel, rfl⟩
theorem k_4 {Z : State} {a0 : Array Value} (hw : HW1 Z a0) : PL Z a0 KT "com/example/korek/korek/simulation/LongHeap" "poll" 13 0 1 .int := ⟨_, _, "com/example/korek/korek/simulation/LongHeap", "size", "I", "", rfl, rfl, (Or.inl (hw _ (List.mem_of_getElem? (i := 17) rfl))), (Or.inl (hw _ (List.mem_of_getElem? (i := 18) rfl))), by decide +kernel⟩
theorem s4_19 : Nx prog_41_method_5_code 19 (.putfield 13) 3 22 := ⟨by decide +kernel, rfl⟩
theorem s4_22 : Nx prog_41_method_5_code 22 (.laload) 1 23 := ⟨by decide +kernel, rfl⟩
theorem s4_23 : Nx prog_41_method_5_code 23 (.lstore_n 3) 1 24 := ⟨by decide +kernel, rfl⟩
theorem s4_24 : Nx prog_41_method_5_code 24 (.iconst 0) 1 25 := ⟨by decide +kernel, rfl⟩
theorem s4_25 : Nx prog_41_method_5_code 25 (.istore 5) 2 27 := ⟨by decide +kernel, rfl⟩
theorem s4_27 : Nx prog_41_method_5_code 27 (.iconst 2) 1 28 := ⟨by decide +kernel, rfl⟩
theorem s4_28 : Nx prog_41_method_5_code 28 (.iload 5) 2 30 := ⟨by decide +kernel, rfl⟩
theorem s4_30 : Nx prog_41_method_5_code 30 (.imul) 1 31 := ⟨by decide +kernel, rfl⟩
theorem s4_31 : Nx prog_41_method_5_code 31 (.iconst 1) 1 32 := ⟨by decide +kernel, rfl⟩
theorem s4_32 : Nx prog_41_method_5_code 32 (.iadd) 1 33 := ⟨by decide +kernel, rfl⟩
theorem s4_33 : Nx prog_41_method_5_code 33 (.aload_n 0) 1 34 := ⟨by decide +kernel, rfl⟩
theorem s4_34 : Nx prog_41_method_5_code 34 (.getfield 13) 3 37 := ⟨by decide +kernel, rfl⟩
theorem s4_37 : Bx prog_41_method_5_code 37 (.if_icmp .ge) 118 40 := ⟨(81), by decide +kernel, by decide, by decide, rfl⟩
theorem s4_118 : Nx prog_41_method_5_code 118 (.aload_n 0) 1 119 := ⟨by decide +kernel, rfl⟩
theorem s4_119 : Nx prog_41_method_5_code 119 (.getfield 7) 3 122 := ⟨by decide +kernel, rfl⟩
theorem s4_122 : Nx prog_41_method_5_code 122 (.iload 5) 2 124 := ⟨by decide +kernel, rfl⟩
theorem s4_124 : Nx prog_41_method_5_code 124 (.lload_n 3) 1 125 := ⟨by decide +kernel, rfl⟩
theorem s4_125 : Nx prog_41_method_5_code 125 (.lastore) 1 126 := ⟨by decide +kernel, rfl⟩
theorem s4_126 : Nx prog_41_method_5_code 126 (.lload_n 1) 1 127 := ⟨by decide +kernel, rfl⟩
theorem s4_127 : Nx prog_41_method_5_code 127 (.lreturn) 1 128 := ⟨by decide +kernel, rfl⟩
set_option maxRecDepth 65536 in
set_option maxHeartbeats 40000000 in
theorem m_poll1 (l : Launch) {Z : State} {a0 : Array Value} (hw : HW1 Z a0) (n0 : Nat) (x0 t1 t2 t3 t4 t5 t6 t7 t8 t9 t10 t11 t12 t13 t14 t15 : Int64)  : Met l Z KT n0 y4 prog_41_method_5_code 7 (some .long) ({ frames := 0, cells := 0, slots := 0, locals := 0 } : Room) #[(.ref (n0 + 0))] [.inl (0, [(.ref (n0 + 1)), (.int (1 : Int32))]), .inr (.long, [(.long x0), (.long t1), (.long t2), (.long t3), (.long t4), (.long t5), (.long t6), (.long t7), (.long t8), (.long t9), (.long t10), (.long t11), (.long t12), (.long t13), (.long t14), (.long t15)])] (fun rv B => rv = some (.long x0) ∧ ∃ u0 u1 u2 u3 u4 u5 u6 u7 u8 u9 u10 u11 u12 u13 u14 u15 : Int64, B = [.inl (0, [(.ref (n0 + 1)), (.int (0 : Int32))]), .inr (.long, [(.long u0), (.long u1), (.long u2), (.long u3), (.long u4), (.long u5), (.long u6), (.long u7), (.long u8), (.long u9), (.long u10), (.long u11), (.long u12), (.long u13), (.long u14), (.long u15)])] ∧ (True) ∧ ∀ z : Int64, [x0].count z = [x0].count z) := by
  refine Met.of (a0 := a0) (ls := #[.val (.ref (n0 + 0)), .unset, .unset, .unset, .unset, .unset, .unset]) (kok hw) (plainFor_of_name pn_3) (fun m => by first | (simp [entryFrame, mkF, argsToLocals, Value.category]; done) | rfl) (fun G H => ?_)
  refine H.aloadN s4_0 rfl rfl ?_
  refine H.getfield s4_1 (k_1 hw) (i := 0) rfl rfl ?_
  refine H.iconst s4_4 (v := (0 : Int32)) (by decide) ?_
  refine H.laload s4_5 (i := 1) (j := 0) rfl (by decide) (v := (.long x0)) rfl ?_
  refine H.lstoreN s4_6 (ls' := #[.val (.ref (n0 + 0)), .val (.long x0), .second, .unset, .unset, .unset, .unset]) rfl ?_
  refine H.aloadN s4_7 rfl rfl ?_
  refine H.getfield s4_8 (k_1 hw) (i := 0) rfl rfl ?_
  refine H.aloadN s4_11 rfl rfl ?_
  refine H.dup s4_12 rfl ?_
  refine H.getfield s4_13 (k_0 hw) (i := 0) rfl rfl ?_
  refine H.iconst s4_16 (v := (1 : Int32)) (by decide) ?_
  refine H.isub s4_17 (w := (0 : Int32)) (by decide) ?_
  refine H.dupX1 s4_18 rfl rfl ?_
  refine H.putfield s4_19 (k_4 hw) (i := 0) rfl rfl rfl (A' := [.inl (0, [(.ref (n0 + 1)), (.int (0 : Int32))]), .inr (.long, [(.long x0), (.long t1), (.long t2), (.long t3), (.long t4), (.long t5), (.long t6), (.long t7), (.long t8), (.long t9), (.long t10), (.long t11), (.long t12), (.long t13), (.long t14), (.long t15)])]) rfl ?_
  refine H.laload s4_22 (i := 1) (j := 0) rfl (by decide) (v := (.long x0)) rfl ?_
  refine H.lstoreN s4_23 (ls' := #[.val (.ref (n0 + 0)), .val (.long x0), .second, .val (.long x0), .second, .unset, .unset]) rfl ?_
  refine H.iconst s4_24 (v := (0 : Int32)) (by decide) ?_
  refine H.istore s4_25 (ls' := #[.val (.ref (n0 + 0)), .val (.long x0), .second, .val (.long x0), .second, .val (.int (0 : Int32)), .unset]) rfl ?_
  refine H.iconst s4_27 (v := (2 : Int32)) (by decide) ?_
  refine H.iload s4_28 rfl ?_
  refine H.imul s4_30 (w := (0 : Int32)) (by decide) ?_
  refine H.iconst s4_31 (v := (1 : Int32)) (by decide) ?_
  refine H.iadd s4_32 (w := (1 : Int32)) (by decide) ?_
  refine H.aloadN s4_33 rfl rfl ?_
  refine H.getfield s4_34 (k_0 hw) (i := 0) rfl rfl ?_
  refine H.icmpT s4_37 (show ¬ (1 : Int32) < (0 : Int32) by decide) ?_
  refine H.aloadN s4_118 rfl rfl ?_
  refine H.getfield s4_119 (k_1 hw) (i := 0) rfl rfl ?_
  refine H.iload s4_122 rfl ?_
  refine H.lloadN s4_124 rfl ?_
  refine H.lastore s4_125 (i := 1) (j := 0) rfl (by decide) (ltb rfl)  (A' := [.inl (0, [(.ref (n0 + 1)), (.int (0 : Int32))]), .inr (.long, [(.long x0), (.long t1), (.long t2), (.long t3), (.long t4), (.long t5), (.long t6), (.long t7), (.long t8), (.long t9), (.long t10), (.long t11), (.long t12), (.long t13), (.long t14), (.long t15)])]) rfl ?_
  refine H.lloadN s4_126 rfl ?_
  exact H.lreturn s4_127 rfl ⟨rfl, x0, t1, t2, t3, t4, t5, t6, t7, t8, t9, t10, t11, t12, t13, t14, t15, rfl, trivial, (fun z => by first | rfl | (simp only [List.count_cons, List.count_nil]; ac_rfl))⟩ (by decide) (by decide)


set_option maxRecDepth 65536 in
set_option maxHeartbeats 40000000 in
theorem m_poll2 (l : Launch) {Z : State} {a0 : Array Value} (hw : HW1 Z a0) (n0 : Nat) (x0 x1 t2 t3 t4 t5 t6 t7 t8 t9 t10 t11 t12 t13 t14 t15 : Int64) (o0 : x0.toInt ≤ x1.toInt) : Met l Z KT n0 y4 prog_41_method_5_code 7 (some .long) ({ frames := 0, cells := 0, slots := 0, locals := 0 } : Room) #[(.ref (n0 + 0))] [.inl (0, [(.ref (n0 + 1)), (.int (2 : Int32))]), .inr (.long, [(.long x0), (.long x1), (.long t2), (.long t3), (.long t4), (.long t5), (.long t6), (.long t7), (.long t8), (.long t9), (.long t10), (.long t11), (.long t12), (.long t13), (.long t14), (.long t15)])] (fun rv B => rv = some (.long x0) ∧ ∃ y0 u1 u2 u3 u4 u5 u6 u7 u8 u9 u10 u11 u12 u13 u14 u15 : Int64, B = [.inl (0, [(.ref (n0 + 1)), (.int (1 : Int32))]), .inr (.long, [(.long y0), (.long u1), (.long u2), (.long u3), (.long u4), (.long u5), (.long u6), (.long u7), (.long u8), (.long u9), (.long u10), (.long u11), (.long u12), (.long u13), (.long u14), (.long u15)])] ∧ (x0.toInt ≤ y0.toInt) ∧ ∀ z : Int64, [x0, y0].count z = [x0, x1].count z) := by
  refine Met.of (a0 := a0) (ls := #[.val (.ref (n0 + 0)), .unset, .unset, .unset, .unset, .unset, .unset]) (kok hw) (plainFor_of_name pn_3) (fun m => by first | (simp [entryFrame, mkF, argsToLocals, Value.category]; done) | rfl) (fun G H => ?_)
  refine H.aloadN s4_0 rfl rfl ?_
  refine H.getfield s4_1 (k_1 hw) (i := 0) rfl rfl ?_
  refine H.iconst s4_4 (v := (0 : Int32)) (by decide) ?_
  refine H.laload s4_5 (i := 1) (j := 0) rfl (by decide) (v := (.long x0)) rfl ?_
  refine H.lstoreN s4_6 (ls' := #[.val (.ref (n0 + 0)), .val (.long x0), .second, .unset, .unset, .unset, .unset]) rfl ?_
  refine H.aloadN s4_7 rfl rfl ?_
  refine H.getfield s4_8 (k_1 hw) (i := 0) rfl rfl ?_
  refine H.aloadN s4_11 rfl rfl ?_
  refine H.dup s4_12 rfl ?_
  refine H.getfield s4_13 (k_0 hw) (i := 0) rfl rfl ?_
  refine H.iconst s4_16 (v := (1 : Int32)) (by decide) ?_
  refine H.isub s4_17 (w := (1 : Int32)) (by decide) ?_
  refine H.dupX1 s4_18 rfl rfl ?_
  refine H.putfield s4_19 (k_4 hw) (i := 0) rfl rfl rfl (A' := [.inl (0, [(.ref (n0 + 1)), (.int (1 : Int32))]), .inr (.long, [(.long x0), (.long x1), (.long t2), (.long t3), (.long t4), (.long t5), (.long t6), (.long t7), (.long t8), (.long t9), (.long t10), (.long t11), (.long t12), (.long t13), (.long t14), (.long t15)])]) rfl ?_
  refine H.laload s4_22 (i := 1) (j := 1) rfl (by decide) (v := (.long x1)) rfl ?_
  refine H.lstoreN s4_23 (ls' := #[.val (.ref (n0 + 0)), .val (.long x0), .second, .val (.long x1), .second, .unset, .unset]) rfl ?_
  refine H.iconst s4_24 (v := (0 : Int32)) (by decide) ?_
  refine H.istore s4_25 (ls' := #[.val (.ref (n0 + 0)), .val (.long x0), .second, .val (.long x1), .second, .val (.int (0 : Int32)), .unset]) rfl ?_
  refine H.iconst s4_27 (v := (2 : Int32)) (by decide) ?_
  refine H.iload s4_28 rfl ?_
  refine H.imul s4_30 (w := (0 : Int32)) (by decide) ?_
  refine H.iconst s4_31 (v := (1 : Int32)) (by decide) ?_
  refine H.iadd s4_32 (w := (1 : Int32)) (by decide) ?_
  refine H.aloadN s4_33 rfl rfl ?_
  refine H.getfield s4_34 (k_0 hw) (i := 0) rfl rfl ?_
  refine H.icmpT s4_37 (show ¬ (1 : Int32) < (1 : Int32) by decide) ?_
  refine H.aloadN s4_118 rfl rfl ?_
  refine H.getfield s4_119 (k_1 hw) (i := 0) rfl rfl ?_
  refine H.iload s4_122 rfl ?_
  refine H.lloadN s4_124 rfl ?_
  refine H.lastore s4_125 (i := 1) (j := 0) rfl (by decide) (ltb rfl)  (A' := [.inl (0, [(.ref (n0 + 1)), (.int (1 : Int32))]), .inr (.long, [(.long x1), (.long x1), (.long t2), (.long t3), (.long t4), (.long t5), (.long t6), (.long t7), (.long t8), (.long t9), (.long t10), (.long t11), (.long t12), (.long t13), (.long t14), (.long t15)])]) rfl ?_
  refine H.lloadN s4_126 rfl ?_
  exact H.lreturn s4_127 rfl ⟨rfl, x1, x1, t2, t3, t4, t5, t6, t7, t8, t9, t10, t11, t12, t13, t14, t15, rfl, by omega, (fun z => by first | rfl | (simp only [List.count_cons, List.count_nil]; ac_rfl))⟩ (by decide) (by decide)

theorem s4_40 : Nx prog_41_method_5_code 40 (.iconst 2) 1 41 := ⟨by decide +kernel, rfl⟩
theorem s4_41 : Nx prog_41_method_5_code 41 (.iload 5) 2 43 := ⟨by decide +kernel, rfl⟩
theorem s4_43 : Nx prog_41_method_5_code 43 (.imul) 1 44 := ⟨by decide +kernel, rfl⟩
theorem s4_44 : Nx prog_41_method_5_code 44 (.iconst 1) 1 45 := ⟨by decide +kernel, rfl⟩
theorem s4_45 : Nx prog_41_method_5_code 45 (.iadd) 1 46 := ⟨by decide +kernel, rfl⟩
theorem s4_46 : Nx prog_41_method_5_code 46 (.istore 6) 2 48 := ⟨by decide +kernel, rfl⟩
theorem s4_48 : Nx prog_41_method_5_code 48 (.iload 6) 2 50 := ⟨by decide +kernel, rfl⟩
theorem s4_50 : Nx prog_41_method_5_code 50 (.iconst 1) 1 51 := ⟨by decide +kernel, rfl⟩
theorem s4_51 : Nx prog_41_method_5_code 51 (.iadd) 1 52 := ⟨by decide +kernel, rfl⟩
theorem s4_52 : Nx prog_41_method_5_code 52 (.aload_n 0) 1 53 := ⟨by decide +kernel, rfl⟩
theorem s4_53 : Nx prog_41_method_5_code 53 (.getfield 13) 3 56 := ⟨by decide +kernel, rfl⟩
theorem s4_56 : Bx prog_41_method_5_code 56 (.if_icmp .ge) 82 59 := ⟨(26), by decide +kernel, by decide, by decide, rfl⟩
theorem s4_82 : Nx prog_41_method_5_code 82 (.lload_n 3) 1 83 := ⟨by decide +kernel, rfl⟩
theorem s4_83 : Nx prog_41_method_5_code 83 (.aload_n 0) 1 84 := ⟨by decide +kernel, rfl⟩
theorem s4_84 : Nx prog_41_method_5_code 84 (.getfield 7) 3 87 := ⟨by decide +kernel, rfl⟩
theorem s4_87 : Nx prog_41_method_5_code 87 (.iload 6) 2 89 := ⟨by decide +kernel, rfl⟩
theorem s4_89 : Nx prog_41_method_5_code 89 (.laload) 1 90 := ⟨by decide +kernel, rfl⟩
theorem s4_90 : Nx prog_41_method_5_code 90 (.lcmp) 1 91 := ⟨by decide +kernel, rfl⟩
theorem s4_91 : Bx prog_41_method_5_code 91 (.ifCond .gt) 97 94 := ⟨(6), by decide +kernel, by decide, by decide, rfl⟩
theorem s4_97 : Nx prog_41_method_5_code 97 (.aload_n 0) 1 98 := ⟨by decide +kernel, rfl⟩
theorem s4_98 : Nx prog_41_method_5_code 98 (.getfield 7) 3 101 := ⟨by decide +kernel, rfl⟩
theorem s4_101 : Nx prog_41_method_5_code 101 (.iload 5) 2 103 := ⟨by decide +kernel, rfl⟩
theorem s4_103 : Nx prog_41_method_5_code 103 (.aload_n 0) 1 104 := ⟨by decide +kernel, rfl⟩
theorem s4_104 : Nx prog_41_method_5_code 104 (.getfield 7) 3 107 := ⟨by decide +kernel, rfl⟩
theorem s4_107 : Nx prog_41_method_5_code 107 (.iload 6) 2 109 := ⟨by decide +kernel, rfl⟩
theorem s4_109 : Nx prog_41_method_5_code 109 (.laload) 1 110 := ⟨by decide +kernel, rfl⟩
theorem s4_110 : Nx prog_41_method_5_code 110 (.lastore) 1 111 := ⟨by decide +kernel, rfl⟩
theorem s4_111 : Nx prog_41_method_5_code 111 (.iload 6) 2 113 := ⟨by decide +kernel, rfl⟩
theorem s4_113 : Nx prog_41_method_5_code 113 (.istore 5) 2 115 := ⟨by decide +kernel, rfl⟩
theorem s4_115 : Bx prog_41_method_5_code 115 (.goto) 27 118 := ⟨(-88), by decide +kernel, by decide, by decide, rfl⟩
theorem s4_94 : Bx prog_41_method_5_code 94 (.goto) 118 97 := ⟨(24), by decide +kernel, by decide, by decide, rfl⟩
set_option maxRecDepth 65536 in
set_option maxHeartbeats 40000000 in
theorem m_poll3 (l : Launch) {Z : State} {a0 : Array Value} (hw : HW1 Z a0) (n0 : Nat) (x0 x1 x2 t3 t4 t5 t6 t7 t8 t9 t10 t11 t12 t13 t14 t15 : Int64) (o0 : x0.toInt ≤ x1.toInt) (o1 : x0.toInt ≤ x2.toInt) : Met l Z KT n0 y4 prog_41_method_5_code 7 (some .long) ({ frames := 0, cells := 0, slots := 0, locals := 0 } : Room) #[(.ref (n0 + 0))] [.inl (0, [(.ref (n0 + 1)), (.int (3 : Int32))]), .inr (.long, [(.long x0), (.long x1), (.long x2), (.long t3), (.long t4), (.long t5), (.long t6), (.long t7), (.long t8), (.long t9), (.long t10), (.long t11), (.long t12), (.long t13), (.long t14), (.long t15)])] (fun rv B => rv = some (.long x0) ∧ ∃ y0 y1 u2 u3 u4 u5 u6 u7 u8 u9 u10 u11 u12 u13 u14 u15 : Int64, B = [.inl (0, [(.ref (n0 + 1)), (.int (2 : Int32))]), .inr (.long, [(.long y0), (.long y1), (.long u2), (.long u3), (.long u4), (.long u5), (.long u6), (.long u7), (.long u8), (.long u9), (.long u10), (.long u11), (.long u12), (.long u13), (.long u14), (.long u15)])] ∧ (y0.toInt ≤ y1.toInt ∧ x0.toInt ≤ y0.toInt) ∧ ∀ z : Int64, [x0, y0, y1].count z = [x0, x1, x2].count z) := by
  refine Met.of (a0 := a0) (ls := #[.val (.ref (n0 + 0)), .unset, .unset, .unset, .unset, .unset, .unset]) (kok hw) (plainFor_of_name pn_3) (fun m => by first | (simp [entryFrame, mkF, argsToLocals, Value.category]; done) | rfl) (fun G H => ?_)
  refine H.aloadN s4_0 rfl rfl ?_
  refine H.getfield s4_1 (k_1 hw) (i := 0) rfl rfl ?_
  refine H.iconst s4_4 (v := (0 : Int32)) (by decide) ?_
  refine H.laload s4_5 (i := 1) (j := 0) rfl (by decide) (v := (.long x0)) rfl ?_
  refine H.lstoreN s4_6 (ls' := #[.val (.ref (n0 + 0)), .val (.long x0), .second, .unset, .unset, .unset, .unset]) rfl ?_
  refine H.aloadN s4_7 rfl rfl ?_
  refine H.getfield s4_8 (k_1 hw) (i := 0) rfl rfl ?_
  refine H.aloadN s4_11 rfl rfl ?_
  refine H.dup s4_12 rfl ?_
  refine H.getfield s4_13 (k_0 hw) (i := 0) rfl rfl ?_
  refine H.iconst s4_16 (v := (1 : Int32)) (by decide) ?_
  refine H.isub s4_17 (w := (2 : Int32)) (by decide) ?_
  refine H.dupX1 s4_18 rfl rfl ?_
  refine H.putfield s4_19 (k_4 hw) (i := 0) rfl rfl rfl (A' := [.inl (0, [(.ref (n0 + 1)), (.int (2 : Int32))]), .inr (.long, [(.long x0), (.long x1), (.long x2), (.long t3), (.long t4), (.long t5), (.long t6), (.long t7), (.long t8), (.long t9), (.long t10), (.long t11), (.long t12), (.long t13), (.long t14), (.long t15)])]) rfl ?_
  refine H.laload s4_22 (i := 1) (j := 2) rfl (by decide) (v := (.long x2)) rfl ?_
  refine H.lstoreN s4_23 (ls' := #[.val (.ref (n0 + 0)), .val (.long x0), .second, .val (.long x2), .second, .unset, .unset]) rfl ?_
  refine H.iconst s4_24 (v := (0 : Int32)) (by decide) ?_
  refine H.istore s4_25 (ls' := #[.val (.ref (n0 + 0)), .val (.long x0), .second, .val (.long x2), .second, .val (.int (0 : Int32)), .unset]) rfl ?_
  refine H.iconst s4_27 (v := (2 : Int32)) (by decide) ?_
  refine H.iload s4_28 rfl ?_
  refine H.imul s4_30 (w := (0 : Int32)) (by decide) ?_
  refine H.iconst s4_31 (v := (1 : Int32)) (by decide) ?_
  refine H.iadd s4_32 (w := (1 : Int32)) (by decide) ?_
  refine H.aloadN s4_33 rfl rfl ?_
  refine H.getfield s4_34 (k_0 hw) (i := 0) rfl rfl ?_
  refine H.icmpF s4_37 (show (1 : Int32) < (2 : Int32) by decide) ?_
  refine H.iconst s4_40 (v := (2 : Int32)) (by decide) ?_
  refine H.iload s4_41 rfl ?_
  refine H.imul s4_43 (w := (0 : Int32)) (by decide) ?_
  refine H.iconst s4_44 (v := (1 : Int32)) (by decide) ?_
  refine H.iadd s4_45 (w := (1 : Int32)) (by decide) ?_
  refine H.istore s4_46 (ls' := #[.val (.ref (n0 + 0)), .val (.long x0), .second, .val (.long x2), .second, .val (.int (0 : Int32)), .val (.int (1 : Int32))]) rfl ?_
  refine H.iload s4_48 rfl ?_
  refine H.iconst s4_50 (v := (1 : Int32)) (by decide) ?_
  refine H.iadd s4_51 (w := (2 : Int32)) (by decide) ?_
  refine H.aloadN s4_52 rfl rfl ?_
  refine H.getfield s4_53 (k_0 hw) (i := 0) rfl rfl ?_
  refine H.icmpT s4_56 (show ¬ (2 : Int32) < (2 : Int32) by decide) ?_
  refine H.lloadN s4_82 rfl ?_
  refine H.aloadN s4_83 rfl rfl ?_
  refine H.getfield s4_84 (k_1 hw) (i := 0) rfl rfl ?_
  refine H.iload s4_87 rfl ?_
  refine H.laload s4_89 (i := 1) (j := 1) rfl (by decide) (v := (.long x1)) rfl ?_
  refine H.lifS s4_90 s4_91 (fun (c90 : x1 < x2) => ?_) (fun (c90 : ¬ x1 < x2) => ?_)
  · have d90 : x1.toInt < x2.toInt := (j_lt rfl rfl).mp c90
    refine H.aloadN s4_97 rfl rfl ?_
    refine H.getfield s4_98 (k_1 hw) (i := 0) rfl rfl ?_
    refine H.iload s4_101 rfl ?_
    refine H.aloadN s4_103 rfl rfl ?_
    refine H.getfield s4_104 (k_1 hw) (i := 0) rfl rfl ?_
    refine H.iload s4_107 rfl ?_
    refine H.laload s4_109 (i := 1) (j := 1) rfl (by decide) (v := (.long x1)) rfl ?_
    refine H.lastore s4_110 (i := 1) (j := 0) rfl (by decide) (ltb rfl)  (A' := [.inl (0, [(.ref (n0 + 1)), (.int (2 : Int32))]), .inr (.long, [(.long x1), (.long x1), (.long x2), (.long t3), (.long t4), (.long t5), (.long t6), (.long t7), (.long t8), (.long t9), (.long t10), (.long t11), (.long t12), (.long t13), (.long t14), (.long t15)])]) rfl ?_
    refine H.iload s4_111 rfl ?_
    refine H.istore s4_113 (ls' := #[.val (.ref (n0 + 0)), .val (.long x0), .second, .val (.long x2), .second, .val (.int (1 : Int32)), .val (.int (1 : Int32))]) rfl ?_
    refine H.goto s4_115 ?_
    refine H.iconst s4_27 (v := (2 : Int32)) (by decide) ?_
    refine H.iload s4_28 rfl ?_
    refine H.imul s4_30 (w := (2 : Int32)) (by decide) ?_
    refine H.iconst s4_31 (v := (1 : Int32)) (by decide) ?_
    refine H.iadd s4_32 (w := (3 : Int32)) (by decide) ?_
    refine H.aloadN s4_33 rfl rfl ?_
    refine H.getfield s4_34 (k_0 hw) (i := 0) rfl rfl ?_
    refine H.icmpT s4_37 (show ¬ (3 : Int32) < (2 : Int32) by decide) ?_
    refine H.aloadN s4_118 rfl rfl ?_
    refine H.getfield s4_119 (k_1 hw) (i := 0) rfl rfl ?_
    refine H.iload s4_122 rfl ?_
    refine H.lloadN s4_124 rfl ?_
    refine H.lastore s4_125 (i := 1) (j := 1) rfl (by decide) (ltb rfl)  (A' := [.inl (0, [(.ref (n0 + 1)), (.int (2 : Int32))]), .inr (.long, [(.long x1), (.long x2), (.long x2), (.long t3), (.long t4), (.long t5), (.long t6), (.long t7), (.long t8), (.long t9), (.long t10), (.long t11), (.long t12), (.long t13), (.long t14), (.long t15)])]) rfl ?_
    refine H.lloadN s4_126 rfl ?_
    exact H.lreturn s4_127 rfl ⟨rfl, x1, x2, x2, t3, t4, t5, t6, t7, t8, t9, t10, t11, t12, t13, t14, t15, rfl, ⟨by omega, by omega⟩, (fun z => by first | rfl | (simp only [List.count_cons, List.count_nil]; ac_rfl))⟩ (by decide) (by decide)
  · have d90 : x2.toInt ≤ x1.toInt := (j_ge rfl rfl).mp c90
    refine H.goto s4_94 ?_
    refine H.aloadN s4_118 rfl rfl ?_
    refine H.getfield s4_119 (k_1 hw) (i := 0) rfl rfl ?_
    refine H.iload s4_122 rfl ?_
    refine H.lloadN s4_124 rfl ?_
    refine H.lastore s4_125 (i := 1) (j := 0) rfl (by decide) (ltb rfl)  (A' := [.inl (0, [(.ref (n0 + 1)), (.int (2 : Int32))]), .inr (.long, [(.long x2), (.long x1), (.long x2), (.long t3), (.long t4), (.long t5), (.long t6), (.long t7), (.long t8), (.long t9), (.long t10), (.long t11), (.long t12), (.long t13), (.long t14), (.long t15)])]) rfl ?_
    refine H.lloadN s4_126 rfl ?_
    exact H.lreturn s4_127 rfl ⟨rfl, x2, x1, x2, t3, t4, t5, t6, t7, t8, t9, t10, t11, t12, t13, t14, t15, rfl, ⟨by omega, by omega⟩, (fun z => by first | rfl | (simp only [List.count_cons, List.count_nil]; ac_rfl))⟩ (by decide) (by decide)

theorem s4_59 : Nx prog_41_method_5_code 59 (.aload_n 0) 1 60 := ⟨by decide +kernel, rfl⟩
theorem s4_60 : Nx prog_41_method_5_code 60 (.getfield 7) 3 63 := ⟨by decide +kernel, rfl⟩
theorem s4_63 : Nx prog_41_method_5_code 63 (.iload 6) 2 65 := ⟨by decide +kernel, rfl⟩
theorem s4_65 : Nx prog_41_method_5_code 65 (.iconst 1) 1 66 := ⟨by decide +kernel, rfl⟩
theorem s4_66 : Nx prog_41_method_5_code 66 (.iadd) 1 67 := ⟨by decide +kernel, rfl⟩
theorem s4_67 : Nx prog_41_method_5_code 67 (.laload) 1 68 := ⟨by decide +kernel, rfl⟩
theorem s4_68 : Nx prog_41_method_5_code 68 (.aload_n 0) 1 69 := ⟨by decide +kernel, rfl⟩
theorem s4_69 : Nx prog_41_method_5_code 69 (.getfield 7) 3 72 := ⟨by decide +kernel, rfl⟩
theorem s4_72 : Nx prog_41_method_5_code 72 (.iload 6) 2 74 := ⟨by decide +kernel, rfl⟩
theorem s4_74 : Nx prog_41_method_5_code 74 (.laload) 1 75 := ⟨by decide +kernel, rfl⟩
theorem s4_75 : Nx prog_41_method_5_code 75 (.lcmp) 1 76 := ⟨by decide +kernel, rfl⟩
theorem s4_76 : Bx prog_41_method_5_code 76 (.ifCond .ge) 82 79 := ⟨(6), by decide +kernel, by decide, by decide, rfl⟩
theorem s4_79 : Nx prog_41_method_5_code 79 (.iinc 6 1) 3 82 := ⟨by decide +kernel, rfl⟩
set_option maxRecDepth 65536 in
set_option maxHeartbeats 40000000 in
theorem m_poll4 (l : Launch) {Z : State} {a0 : Array Value} (hw : HW1 Z a0) (n0 : Nat) (x0 x1 x2 x3 t4 t5 t6 t7 t8 t9 t10 t11 t12 t13 t14 t15 : Int64) (o0 : x0.toInt ≤ x1.toInt) (o1 : x0.toInt ≤ x2.toInt) (o2 : x1.toInt ≤ x3.toInt) : Met l Z KT n0 y4 prog_41_method_5_code 7 (some .long) ({ frames := 0, cells := 0, slots := 0, locals := 0 } : Room) #[(.ref (n0 + 0))] [.inl (0, [(.ref (n0 + 1)), (.int (4 : Int32))]), .inr (.long, [(.long x0), (.long x1), (.long x2), (.long x3), (.long t4), (.long t5), (.long t6), (.long t7), (.long t8), (.long t9), (.long t10), (.long t11), (.long t12), (.long t13), (.long t14), (.long t15)])] (fun rv B => rv = some (.long x0) ∧ ∃ y0 y1 y2 u3 u4 u5 u6 u7 u8 u9 u10 u11 u12 u13 u14 u15 : Int64, B = [.inl (0, [(.ref (n0 + 1)), (.int (3 : Int32))]), .inr (.long, [(.long y0), (.long y1), (.long y2), (.long u3), (.long u4), (.long u5), (.long u6), (.long u7), (.long u8), (.long u9), (.long u10), (.long u11), (.long u12), (.long u13), (.long u14), (.long u15)])] ∧ (y0.toInt ≤ y1.toInt ∧ y0.toInt ≤ y2.toInt ∧ x0.toInt ≤ y0.toInt) ∧ ∀ z : Int64, [x0, y0, y1, y2].count z = [x0, x1, x2, x3].count z) := by
  refine Met.of (a0 := a0) (ls := #[.val (.ref (n0 + 0)), .unset, .unset, .unset, .unset, .unset, .unset]) (kok hw) (plainFor_of_name pn_3) (fun m => by first | (simp [entryFrame, mkF, argsToLocals, Value.category]; done) | rfl) (fun G H => ?_)
  refine H.aloadN s4_0 rfl rfl ?_
  refine H.getfield s4_1 (k_1 hw) (i := 0) rfl rfl ?_
  refine H.iconst s4_4 (v := (0 : Int32)) (by decide) ?_
  refine H.laload s4_5 (i := 1) (j := 0) rfl (by decide) (v := (.long x0)) rfl ?_
  refine H.lstoreN s4_6 (ls' := #[.val (.ref (n0 + 0)), .val (.long x0), .second, .unset, .unset, .unset, .unset]) rfl ?_
  refine H.aloadN s4_7 rfl rfl ?_
  refine H.getfield s4_8 (k_1 hw) (i := 0) rfl rfl ?_
  refine H.aloadN s4_11 rfl rfl ?_
  refine H.dup s4_12 rfl ?_
  refine H.getfield s4_13 (k_0 hw) (i := 0) rfl rfl ?_
  refine H.iconst s4_16 (v := (1 : Int32)) (by decide) ?_
  refine H.isub s4_17 (w := (3 : Int32)) (by decide) ?_
  refine H.dupX1 s4_18 rfl rfl ?_
  refine H.putfield s4_19 (k_4 hw) (i := 0) rfl rfl rfl (A' := [.inl (0, [(.ref (n0 + 1)), (.int (3 : Int32))]), .inr (.long, [(.long x0), (.long x1), (.long x2), (.long x3), (.long t4), (.long t5), (.long t6), (.long t7), (.long t8), (.long t9), (.long t10), (.long t11), (.long t12), (.long t13), (.long t14), (.long t15)])]) rfl ?_
  refine H.laload s4_22 (i := 1) (j := 3) rfl (by decide) (v := (.long x3)) rfl ?_
  refine H.lstoreN s4_23 (ls' := #[.val (.ref (n0 + 0)), .val (.long x0), .second, .val (.long x3), .second, .unset, .unset]) rfl ?_
  refine H.iconst s4_24 (v := (0 : Int32)) (by decide) ?_
  refine H.istore s4_25 (ls' := #[.val (.ref (n0 + 0)), .val (.long x0), .second, .val (.long x3), .second, .val (.int (0 : Int32)), .unset]) rfl ?_
  refine H.iconst s4_27 (v := (2 : Int32)) (by decide) ?_
  refine H.iload s4_28 rfl ?_
  refine H.imul s4_30 (w := (0 : Int32)) (by decide) ?_
  refine H.iconst s4_31 (v := (1 : Int32)) (by decide) ?_
  refine H.iadd s4_32 (w := (1 : Int32)) (by decide) ?_
  refine H.aloadN s4_33 rfl rfl ?_
  refine H.getfield s4_34 (k_0 hw) (i := 0) rfl rfl ?_
  refine H.icmpF s4_37 (show (1 : Int32) < (3 : Int32) by decide) ?_
  refine H.iconst s4_40 (v := (2 : Int32)) (by decide) ?_
  refine H.iload s4_41 rfl ?_
  refine H.imul s4_43 (w := (0 : Int32)) (by decide) ?_
  refine H.iconst s4_44 (v := (1 : Int32)) (by decide) ?_
  refine H.iadd s4_45 (w := (1 : Int32)) (by decide) ?_
  refine H.istore s4_46 (ls' := #[.val (.ref (n0 + 0)), .val (.long x0), .second, .val (.long x3), .second, .val (.int (0 : Int32)), .val (.int (1 : Int32))]) rfl ?_
  refine H.iload s4_48 rfl ?_
  refine H.iconst s4_50 (v := (1 : Int32)) (by decide) ?_
  refine H.iadd s4_51 (w := (2 : Int32)) (by decide) ?_
  refine H.aloadN s4_52 rfl rfl ?_
  refine H.getfield s4_53 (k_0 hw) (i := 0) rfl rfl ?_
  refine H.icmpF s4_56 (show (2 : Int32) < (3 : Int32) by decide) ?_
  refine H.aloadN s4_59 rfl rfl ?_
  refine H.getfield s4_60 (k_1 hw) (i := 0) rfl rfl ?_
  refine H.iload s4_63 rfl ?_
  refine H.iconst s4_65 (v := (1 : Int32)) (by decide) ?_
  refine H.iadd s4_66 (w := (2 : Int32)) (by decide) ?_
  refine H.laload s4_67 (i := 1) (j := 2) rfl (by decide) (v := (.long x2)) rfl ?_
  refine H.aloadN s4_68 rfl rfl ?_
  refine H.getfield s4_69 (k_1 hw) (i := 0) rfl rfl ?_
  refine H.iload s4_72 rfl ?_
  refine H.laload s4_74 (i := 1) (j := 1) rfl (by decide) (v := (.long x1)) rfl ?_
  refine H.lifS s4_75 s4_76 (fun (c75 : ¬ x2 < x1) => ?_) (fun (c75 : x2 < x1) => ?_)
  · have d75 : x1.toInt ≤ x2.toInt := (j_ge rfl rfl).mp c75
    refine H.lloadN s4_82 rfl ?_
    refine H.aloadN s4_83 rfl rfl ?_
    refine H.getfield s4_84 (k_1 hw) (i := 0) rfl rfl ?_
    refine H.iload s4_87 rfl ?_
    refine H.laload s4_89 (i := 1) (j := 1) rfl (by decide) (v := (.long x1)) rfl ?_
    refine H.lifS s4_90 s4_91 (fun (c90 : x1 < x3) => ?_) (fun (c90 : ¬ x1 < x3) => ?_)
    · have d90 : x1.toInt < x3.toInt := (j_lt rfl rfl).mp c90
      refine H.aloadN s4_97 rfl rfl ?_
      refine H.getfield s4_98 (k_1 hw) (i := 0) rfl rfl ?_
      refine H.iload s4_101 rfl ?_
      refine H.aloadN s4_103 rfl rfl ?_
      refine H.getfield s4_104 (k_1 hw) (i := 0) rfl rfl ?_
      refine H.iload s4_107 rfl ?_
      refine H.laload s4_109 (i := 1) (j := 1) rfl (by decide) (v := (.long x1)) rfl ?_
      refine H.lastore s4_110 (i := 1) (j := 0) rfl (by decide) (ltb rfl)  (A' := [.inl (0, [(.ref (n0 + 1)), (.int (3 : Int32))]), .inr (.long, [(.long x1), (.long x1), (.long x2), (.long x3), (.long t4), (.long t5), (.long t6), (.long t7), (.long t8), (.long t9), (.long t10), (.long t11), (.long t12), (.long t13), (.long t14), (.long t15)])]) rfl ?_
      refine H.iload s4_111 rfl ?_
      refine H.istore s4_113 (ls' := #[.val (.ref (n0 + 0)), .val (.long x0), .second, .val (.long x3), .second, .val (.int (1 : Int32)), .val (.int (1 : Int32))]) rfl ?_
      refine H.goto s4_115 ?_
      refine H.iconst s4_27 (v := (2 : Int32)) (by decide) ?_
      refine H.iload s4_28 rfl ?_
      refine H.imul s4_30 (w := (2 : Int32)) (by decide) ?_
      refine H.iconst s4_31 (v := (1 : Int32)) (by decide) ?_
      refine H.iadd s4_32 (w := (3 : Int32)) (by decide) ?_
      refine H.aloadN s4_33 rfl rfl ?_
      refine H.getfield s4_34 (k_0 hw) (i := 0) rfl rfl ?_
      refine H.icmpT s4_37 (show ¬ (3 : Int32) < (3 : Int32) by decide) ?_
      refine H.aloadN s4_118 rfl rfl ?_
      refine H.getfield s4_119 (k_1 hw) (i := 0) rfl rfl ?_
      refine H.iload s4_122 rfl ?_
      refine H.lloadN s4_124 rfl ?_
      refine H.lastore s4_125 (i := 1) (j := 1) rfl (by decide) (ltb rfl)  (A' := [.inl (0, [(.ref (n0 + 1)), (.int (3 : Int32))]), .inr (.long, [(.long x1), (.long x3), (.long x2), (.long x3), (.long t4), (.long t5), (.long t6), (.long t7), (.long t8), (.long t9), (.long t10), (.long t11), (.long t12), (.long t13), (.long t14), (.long t15)])]) rfl ?_
      refine H.lloadN s4_126 rfl ?_
      exact H.lreturn s4_127 rfl ⟨rfl, x1, x3, x2, x3, t4, t5, t6, t7, t8, t9, t10, t11, t12, t13, t14, t15, rfl, ⟨by omega, by omega, by omega⟩, (fun z => by first | rfl | (simp only [List.count_cons, List.count_nil]; ac_rfl))⟩ (by decide) (by decide)
    · have d90 : x3.toInt ≤ x1.toInt := (j_ge rfl rfl).mp c90
      refine H.goto s4_94 ?_
      refine H.aloadN s4_118 rfl rfl ?_
      refine H.getfield s4_119 (k_1 hw) (i := 0) rfl rfl ?_
      refine H.iload s4_122 rfl ?_
      refine H.lloadN s4_124 rfl ?_
      refine H.lastore s4_125 (i := 1) (j := 0) rfl (by decide) (ltb rfl)  (A' := [.inl (0, [(.ref (n0 + 1)), (.int (3 : Int32))]), .inr (.long, [(.long x3), (.long x1), (.long x2), (.long x3), (.long t4), (.long t5), (.long t6), (.long t7), (.long t8), (.long t9), (.long t10), (.long t11), (.long t12), (.long t13), (.long t14), (.long t15)])]) rfl ?_
      refine H.lloadN s4_126 rfl ?_
      exact H.lreturn s4_127 rfl ⟨rfl, x3, x1, x2, x3, t4, t5, t6, t7, t8, t9, t10, t11, t12, t13, t14, t15, rfl, ⟨by omega, by omega, by omega⟩, (fun z => by first | rfl | (simp only [List.count_cons, List.count_nil]; ac_rfl))⟩ (by decide) (by decide)
  · have d75 : x2.toInt < x1.toInt := (j_lt rfl rfl).mp c75
    refine H.iinc s4_79 rfl (w := (2 : Int32)) (by decide) (ls' := #[.val (.ref (n0 + 0)), .val (.long x0), .second, .val (.long x3), .second, .val (.int (0 : Int32)), .val (.int (2 : Int32))]) rfl ?_
    refine H.lloadN s4_82 rfl ?_
    refine H.aloadN s4_83 rfl rfl ?_
    refine H.getfield s4_84 (k_1 hw) (i := 0) rfl rfl ?_
    refine H.iload s4_87 rfl ?_
    refine H.laload s4_89 (i := 1) (j := 2) rfl (by decide) (v := (.long x2)) rfl ?_
    refine H.lifS s4_90 s4_91 (fun (c90 : x2 < x3) => ?_) (fun (c90 : ¬ x2 < x3) => ?_)
    · have d90 : x2.toInt < x3.toInt := (j_lt rfl rfl).mp c90
      refine H.aloadN s4_97 rfl rfl ?_
      refine H.getfield s4_98 (k_1 hw) (i := 0) rfl rfl ?_
      refine H.iload s4_101 rfl ?_
      refine H.aloadN s4_103 rfl rfl ?_
      refine H.getfield s4_104 (k_1 hw) (i := 0) rfl rfl ?_
      refine H.iload s4_107 rfl ?_
      refine H.laload s4_109 (i := 1) (j := 2) rfl (by decide) (v := (.long x2)) rfl ?_
      refine H.lastore s4_110 (i := 1) (j := 0) rfl (by decide) (ltb rfl)  (A' := [.inl (0, [(.ref (n0 + 1)), (.int (3 : Int32))]), .inr (.long, [(.long x2), (.long x1), (.long x2), (.long x3), (.long t4), (.long t5), (.long t6), (.long t7), (.long t8), (.long t9), (.long t10), (.long t11), (.long t12), (.long t13), (.long t14), (.long t15)])]) rfl ?_
      refine H.iload s4_111 rfl ?_
      refine H.istore s4_113 (ls' := #[.val (.ref (n0 + 0)), .val (.long x0), .second, .val (.long x3), .second, .val (.int (2 : Int32)), .val (.int (2 : Int32))]) rfl ?_
      refine H.goto s4_115 ?_
      refine H.iconst s4_27 (v := (2 : Int32)) (by decide) ?_
      refine H.iload s4_28 rfl ?_
      refine H.imul s4_30 (w := (4 : Int32)) (by decide) ?_
      refine H.iconst s4_31 (v := (1 : Int32)) (by decide) ?_
      refine H.iadd s4_32 (w := (5 : Int32)) (by decide) ?_
      refine H.aloadN s4_33 rfl rfl ?_
      refine H.getfield s4_34 (k_0 hw) (i := 0) rfl rfl ?_
      refine H.icmpT s4_37 (show ¬ (5 : Int32) < (3 : Int32) by decide) ?_
      refine H.aloadN s4_118 rfl rfl ?_
      refine H.getfield s4_119 (k_1 hw) (i := 0) rfl rfl ?_
      refine H.iload s4_122 rfl ?_
      refine H.lloadN s4_124 rfl ?_
      refine H.lastore s4_125 (i := 1) (j := 2) rfl (by decide) (ltb rfl)  (A' := [.inl (0, [(.ref (n0 + 1)), (.int (3 : Int32))]), .inr (.long, [(.long x2), (.long x1), (.long x3), (.long x3), (.long t4), (.long t5), (.long t6), (.long t7), (.long t8), (.long t9), (.long t10), (.long t11), (.long t12), (.long t13), (.long t14), (.long t15)])]) rfl ?_
      refine H.lloadN s4_126 rfl ?_
      exact H.lreturn s4_127 rfl ⟨rfl, x2, x1, x3, x3, t4, t5, t6, t7, t8, t9, t10, t11, t12, t13, t14, t15, rfl, ⟨by omega, by omega, by omega⟩, (fun z => by first | rfl | (simp only [List.count_cons, List.count_nil]; ac_rfl))⟩ (by decide) (by decide)
    · have d90 : x3.toInt ≤ x2.toInt := (j_ge rfl rfl).mp c90
      refine H.goto s4_94 ?_
      refine H.aloadN s4_118 rfl rfl ?_
      refine H.getfield s4_119 (k_1 hw) (i := 0) rfl rfl ?_
      refine H.iload s4_122 rfl ?_
      refine H.lloadN s4_124 rfl ?_
      refine H.lastore s4_125 (i := 1) (j := 0) rfl (by decide) (ltb rfl)  (A' := [.inl (0, [(.ref (n0 + 1)), (.int (3 : Int32))]), .inr (.long, [(.long x3), (.long x1), (.long x2), (.long x3), (.long t4), (.long t5), (.long t6), (.long t7), (.long t8), (.long t9), (.long t10), (.long t11), (.long t12), (.long t13), (.long t14), (.long t15)])]) rfl ?_
      refine H.lloadN s4_126 rfl ?_
      exact H.lreturn s4_127 rfl ⟨rfl, x3, x1, x2, x3, t4, t5, t6, t7, t8, t9, t10, t11, t12, t13, t14, t15, rfl, ⟨by omega, by omega, by omega⟩, (fun z => by first | rfl | (simp only [List.count_cons, List.count_nil]; ac_rfl))⟩ (by decide) (by decide)


set_option maxRecDepth 65536 in
set_option maxHeartbeats 40000000 in
theorem m_poll5 (l : Launch) {Z : State} {a0 : Array Value} (hw : HW1 Z a0) (n0 : Nat) (x0 x1 x2 x3 x4 t5 t6 t7 t8 t9 t10 t11 t12 t13 t14 t15 : Int64) (o0 : x0.toInt ≤ x1.toInt) (o1 : x0.toInt ≤ x2.toInt) (o2 : x1.toInt ≤ x3.toInt) (o3 : x1.toInt ≤ x4.toInt) : Met l Z KT n0 y4 prog_41_method_5_code 7 (some .long) ({ frames := 0, cells := 0, slots := 0, locals := 0 } : Room) #[(.ref (n0 + 0))] [.inl (0, [(.ref (n0 + 1)), (.int (5 : Int32))]), .inr (.long, [(.long x0), (.long x1), (.long x2), (.long x3), (.long x4), (.long t5), (.long t6), (.long t7), (.long t8), (.long t9), (.long t10), (.long t11), (.long t12), (.long t13), (.long t14), (.long t15)])] (fun rv B => rv = some (.long x0) ∧ ∃ y0 y1 y2 y3 u4 u5 u6 u7 u8 u9 u10 u11 u12 u13 u14 u15 : Int64, B = [.inl (0, [(.ref (n0 + 1)), (.int (4 : Int32))]), .inr (.long, [(.long y0), (.long y1), (.long y2), (.long y3), (.long u4), (.long u5), (.long u6), (.long u7), (.long u8), (.long u9), (.long u10), (.long u11), (.long u12), (.long u13), (.long u14), (.long u15)])] ∧ (y0.toInt ≤ y1.toInt ∧ y0.toInt ≤ y2.toInt ∧ y1.toInt ≤ y3.toInt ∧ x0.toInt ≤ y0.toInt) ∧ ∀ z : Int64, [x0, y0, y1, y2, y3].count z = [x0, x1, x2, x3, x4].count z) := by
  refine Met.of (a0 := a0) (ls := #[.val (.ref (n0 + 0)), .unset, .unset, .unset, .unset, .unset, .unset]) (kok hw) (plainFor_of_name pn_3) (fun m => by first | (simp [entryFrame, mkF, argsToLocals, Value.category]; done) | rfl) (fun G H => ?_)
  refine H.aloadN s4_0 rfl rfl ?_
  refine H.getfield s4_1 (k_1 hw) (i := 0) rfl rfl ?_
  refine H.iconst s4_4 (v := (0 : Int32)) (by decide) ?_
  refine H.laload s4_5 (i := 1) (j := 0) rfl (by decide) (v := (.long x0)) rfl ?_
  refine H.lstoreN s4_6 (ls' := #[.val (.ref (n0 + 0)), .val (.long x0), .second, .unset, .unset, .unset, .unset]) rfl ?_
  refine H.aloadN s4_7 rfl rfl ?_
  refine H.getfield s4_8 (k_1 hw) (i := 0) rfl rfl ?_
  refine H.aloadN s4_11 rfl rfl ?_
  refine H.dup s4_12 rfl ?_
  refine H.getfield s4_13 (k_0 hw) (i := 0) rfl rfl ?_
  refine H.iconst s4_16 (v := (1 : Int32)) (by decide) ?_
  refine H.isub s4_17 (w := (4 : Int32)) (by decide) ?_
  refine H.dupX1 s4_18 rfl rfl ?_
  refine H.putfield s4_19 (k_4 hw) (i := 0) rfl rfl rfl (A' := [.inl (0, [(.ref (n0 + 1)), (.int (4 : Int32))]), .inr (.long, [(.long x0), (.long x1), (.long x2), (.long x3), (.long x4), (.long t5), (.long t6), (.long t7), (.long t8), (.long t9), (.long t10), (.long t11), (.long t12), (.long t13), (.long t14), (.long t15)])]) rfl ?_
  refine H.laload s4_22 (i := 1) (j := 4) rfl (by decide) (v := (.long x4)) rfl ?_
  refine H.lstoreN s4_23 (ls' := #[.val (.ref (n0 + 0)), .val (.long x0), .second, .val (.long x4), .second, .unset, .unset]) rfl ?_
  refine H.iconst s4_24 (v := (0 : Int32)) (by decide) ?_
  refine H.istore s4_25 (ls' := #[.val (.ref (n0 + 0)), .val (.long x0), .second, .val (.long x4), .second, .val (.int (0 : Int32)), .unset]) rfl ?_
  refine H.iconst s4_27 (v := (2 : Int32)) (by decide) ?_
  refine H.iload s4_28 rfl ?_
  refine H.imul s4_30 (w := (0 : Int32)) (by decide) ?_
  refine H.iconst s4_31 (v := (1 : Int32)) (by decide) ?_
  refine H.iadd s4_32 (w := (1 : Int32)) (by decide) ?_
  refine H.aloadN s4_33 rfl rfl ?_
  refine H.getfield s4_34 (k_0 hw) (i := 0) rfl rfl ?_
  refine H.icmpF s4_37 (show (1 : Int32) < (4 : Int32) by decide) ?_
  refine H.iconst s4_40 (v := (2 : Int32)) (by decide) ?_
  refine H.iload s4_41 rfl ?_
  refine H.imul s4_43 (w := (0 : Int32)) (by decide) ?_
  refine H.iconst s4_44 (v := (1 : Int32)) (by decide) ?_
  refine H.iadd s4_45 (w := (1 : Int32)) (by decide) ?_
  refine H.istore s4_46 (ls' := #[.val (.ref (n0 + 0)), .val (.long x0), .second, .val (.long x4), .second, .val (.int (0 : Int32)), .val (.int (1 : Int32))]) rfl ?_
  refine H.iload s4_48 rfl ?_
  refine H.iconst s4_50 (v := (1 : Int32)) (by decide) ?_
  refine H.iadd s4_51 (w := (2 : Int32)) (by decide) ?_
  refine H.aloadN s4_52 rfl rfl ?_
  refine H.getfield s4_53 (k_0 hw) (i := 0) rfl rfl ?_
  refine H.icmpF s4_56 (show (2 : Int32) < (4 : Int32) by decide) ?_
  refine H.aloadN s4_59 rfl rfl ?_
  refine H.getfield s4_60 (k_1 hw) (i := 0) rfl rfl ?_
  refine H.iload s4_63 rfl ?_
  refine H.iconst s4_65 (v := (1 : Int32)) (by decide) ?_
  refine H.iadd s4_66 (w := (2 : Int32)) (by decide) ?_
  refine H.laload s4_67 (i := 1) (j := 2) rfl (by decide) (v := (.long x2)) rfl ?_
  refine H.aloadN s4_68 rfl rfl ?_
  refine H.getfield s4_69 (k_1 hw) (i := 0) rfl rfl ?_
  refine H.iload s4_72 rfl ?_
  refine H.laload s4_74 (i := 1) (j := 1) rfl (by decide) (v := (.long x1)) rfl ?_
  refine H.lifS s4_75 s4_76 (fun (c75 : ¬ x2 < x1) => ?_) (fun (c75 : x2 < x1) => ?_)
  · have d75 : x1.toInt ≤ x2.toInt := (j_ge rfl rfl).mp c75
    refine H.lloadN s4_82 rfl ?_
    refine H.aloadN s4_83 rfl rfl ?_
    refine H.getfield s4_84 (k_1 hw) (i := 0) rfl rfl ?_
    refine H.iload s4_87 rfl ?_
    refine H.laload s4_89 (i := 1) (j := 1) rfl (by decide) (v := (.long x1)) rfl ?_
    refine H.lifS s4_90 s4_91 (fun (c90 : x1 < x4) => ?_) (fun (c90 : ¬ x1 < x4) => ?_)
    · have d90 : x1.toInt < x4.toInt := (j_lt rfl rfl).mp c90
      refine H.aloadN s4_97 rfl rfl ?_
      refine H.getfield s4_98 (k_1 hw) (i := 0) rfl rfl ?_
      refine H.iload s4_101 rfl ?_
      refine H.aloadN s4_103 rfl rfl ?_
      refine H.getfield s4_104 (k_1 hw) (i := 0) rfl rfl ?_
      refine H.iload s4_107 rfl ?_
      refine H.laload s4_109 (i := 1) (j := 1) rfl (by decide) (v := (.long x1)) rfl ?_
      refine H.lastore s4_110 (i := 1) (j := 0) rfl (by decide) (ltb rfl)  (A' := [.inl (0, [(.ref (n0 + 1)), (.int (4 : Int32))]), .inr (.long, [(.long x1), (.long x1), (.long x2), (.long x3), (.long x4), (.long t5), (.long t6), (.long t7), (.long t8), (.long t9), (.long t10), (.long t11), (.long t12), (.long t13), (.long t14), (.long t15)])]) rfl ?_
      refine H.iload s4_111 rfl ?_
      refine H.istore s4_113 (ls' := #[.val (.ref (n0 + 0)), .val (.long x0), .second, .val (.long x4), .second, .val (.int (1 : Int32)), .val (.int (1 : Int32))]) rfl ?_
      refine H.goto s4_115 ?_
      refine H.iconst s4_27 (v := (2 : Int32)) (by decide) ?_
      refine H.iload s4_28 rfl ?_
      refine H.imul s4_30 (w := (2 : Int32)) (by decide) ?_
      refine H.iconst s4_31 (v := (1 : Int32)) (by decide) ?_
      refine H.iadd s4_32 (w := (3 : Int32)) (by decide) ?_
      refine H.aloadN s4_33 rfl rfl ?_
      refine H.getfield s4_34 (k_0 hw) (i := 0) rfl rfl ?_
      refine H.icmpF s4_37 (show (3 : Int32) < (4 : Int32) by decide) ?_
      refine H.iconst s4_40 (v := (2 : Int32)) (by decide) ?_
      refine H.iload s4_41 rfl ?_
      refine H.imul s4_43 (w := (2 : Int32)) (by decide) ?_
      refine H.iconst s4_44 (v := (1 : Int32)) (by decide) ?_
      refine H.iadd s4_45 (w := (3 : Int32)) (by decide) ?_
      refine H.istore s4_46 (ls' := #[.val (.ref (n0 + 0)), .val (.long x0), .second, .val (.long x4), .second, .val (.int (1 : Int32)), .val (.int (3 : Int32))]) rfl ?_
      refine H.iload s4_48 rfl ?_
      refine H.iconst s4_50 (v := (1 : Int32)) (by decide) ?_
      refine H.iadd s4_51 (w := (4 : Int32)) (by decide) ?_
      refine H.aloadN s4_52 rfl rfl ?_
      refine H.getfield s4_53 (k_0 hw) (i := 0) rfl rfl ?_
      refine H.icmpT s4_56 (show ¬ (4 : Int32) < (4 : Int32) by decide) ?_
      refine H.lloadN s4_82 rfl ?_
      refine H.aloadN s4_83 rfl rfl ?_
      refine H.getfield s4_84 (k_1 hw) (i := 0) rfl rfl ?_
      refine H.iload s4_87 rfl ?_
      refine H.laload s4_89 (i := 1) (j := 3) rfl (by decide) (v := (.long x3)) rfl ?_
      refine H.lifS s4_90 s4_91 (fun (c90_2 : x3 < x4) => ?_) (fun (c90_2 : ¬ x3 < x4) => ?_)
      · have d90_2 : x3.toInt < x4.toInt := (j_lt rfl rfl).mp c90_2
        refine H.aloadN s4_97 rfl rfl ?_
        refine H.getfield s4_98 (k_1 hw) (i := 0) rfl rfl ?_
        refine H.iload s4_101 rfl ?_
        refine H.aloadN s4_103 rfl rfl ?_
        refine H.getfield s4_104 (k_1 hw) (i := 0) rfl rfl ?_
        refine H.iload s4_107 rfl ?_
        refine H.laload s4_109 (i := 1) (j := 3) rfl (by decide) (v := (.long x3)) rfl ?_
        refine H.lastore s4_110 (i := 1) (j := 1) rfl (by decide) (ltb rfl)  (A' := [.inl (0, [(.ref (n0 + 1)), (.int (4 : Int32))]), .inr (.long, [(.long x1), (.long x3), (.long x2), (.long x3), (.long x4), (.long t5), (.long t6), (.long t7), (.long t8), (.long t9), (.long t10), (.long t11), (.long t12), (.long t13), (.long t14), (.long t15)])]) rfl ?_
        refine H.iload s4_111 rfl ?_
        refine H.istore s4_113 (ls' := #[.val (.ref (n0 + 0)), .val (.long x0), .second, .val (.long x4), .second, .val (.int (3 : Int32)), .val (.int (3 : Int32))]) rfl ?_
        refine H.goto s4_115 ?_
        refine H.iconst s4_27 (v := (2 : Int32)) (by decide) ?_
        refine H.iload s4_28 rfl ?_
        refine H.imul s4_30 (w := (6 : Int32)) (by decide) ?_
        refine H.iconst s4_31 (v := (1 : Int32)) (by decide) ?_
        refine H.iadd s4_32 (w := (7 : Int32)) (by decide) ?_
        refine H.aloadN s4_33 rfl rfl ?_
        refine H.getfield s4_34 (k_0 hw) (i := 0) rfl rfl ?_
        refine H.icmpT s4_37 (show ¬ (7 : Int32) < (4 : Int32) by decide) ?_
        refine H.aloadN s4_118 rfl rfl ?_
        refine H.getfield s4_119 (k_1 hw) (i := 0) rfl rfl ?_
        refine H.iload s4_122 rfl ?_
        refine H.lloadN s4_124 rfl ?_
        refine H.lastore s4_125 (i := 1) (j := 3) rfl (by decide) (ltb rfl)  (A' := [.inl (0, [(.ref (n0 + 1)), (.int (4 : Int32))]), .inr (.long, [(.long x1), (.long x3), (.long x2), (.long x4), (.long x4), (.long t5), (.long t6), (.long t7), (.long t8), (.long t9), (.long t10), (.long t11), (.long t12), (.long t13), (.long t14), (.long t15)])]) rfl ?_
        refine H.lloadN s4_126 rfl ?_
        exact H.lreturn s4_127 rfl ⟨rfl, x1, x3, x2, x4, x4, t5, t6, t7, t8, t9, t10, t11, t12, t13, t14, t15, rfl, ⟨by omega, by omega, by omega, by omega⟩, (fun z => by first | rfl | (simp only [List.count_cons, List.count_nil]; ac_rfl))⟩ (by decide) (by decide)
      · have d90_2 : x4.toInt ≤ x3.toInt := (j_ge rfl rfl).mp c90_2
        refine H.goto s4_94 ?_
        refine H.aloadN s4_118 rfl rfl ?_
        refine H.getfield s4_119 (k_1 hw) (i := 0) rfl rfl ?_
        refine H.iload s4_122 rfl ?_
        refine H.lloadN s4_124 rfl ?_
        refine H.lastore s4_125 (i := 1) (j := 1) rfl (by decide) (ltb rfl)  (A' := [.inl (0, [(.ref (n0 + 1)), (.int (4 : Int32))]), .inr (.long, [(.long x1), (.long x4), (.long x2), (.long x3), (.long x4), (.long t5), (.long t6), (.long t7), (.long t8), (.long t9), (.long t10), (.long t11), (.long t12), (.long t13), (.long t14), (.long t15)])]) rfl ?_
        refine H.lloadN s4_126 rfl ?_
        exact H.lreturn s4_127 rfl ⟨rfl, x1, x4, x2, x3, x4, t5, t6, t7, t8, t9, t10, t11, t12, t13, t14, t15, rfl, ⟨by omega, by omega, by omega, by omega⟩, (fun z => by first | rfl | (simp only [List.count_cons, List.count_nil]; ac_rfl))⟩ (by decide) (by decide)
    · have d90 : x4.toInt ≤ x1.toInt := (j_ge rfl rfl).mp c90
      refine H.goto s4_94 ?_
      refine H.aloadN s4_118 rfl rfl ?_
      refine H.getfield s4_119 (k_1 hw) (i := 0) rfl rfl ?_
      refine H.iload s4_122 rfl ?_
      refine H.lloadN s4_124 rfl ?_
      refine H.lastore s4_125 (i := 1) (j := 0) rfl (by decide) (ltb rfl)  (A' := [.inl (0, [(.ref (n0 + 1)), (.int (4 : Int32))]), .inr (.long, [(.long x4), (.long x1), (.long x2), (.long x3), (.long x4), (.long t5), (.long t6), (.long t7), (.long t8), (.long t9), (.long t10), (.long t11), (.long t12), (.long t13), (.long t14), (.long t15)])]) rfl ?_
      refine H.lloadN s4_126 rfl ?_
      exact H.lreturn s4_127 rfl ⟨rfl, x4, x1, x2, x3, x4, t5, t6, t7, t8, t9, t10, t11, t12, t13, t14, t15, rfl, ⟨by omega, by omega, by omega, by omega⟩, (fun z => by first | rfl | (simp only [List.count_cons, List.count_nil]; ac_rfl))⟩ (by decide) (by decide)
  · have d75 : x2.toInt < x1.toInt := (j_lt rfl rfl).mp c75
    refine H.iinc s4_79 rfl (w := (2 : Int32)) (by decide) (ls' := #[.val (.ref (n0 + 0)), .val (.long x0), .second, .val (.long x4), .second, .val (.int (0 : Int32)), .val (.int (2 : Int32))]) rfl ?_
    refine H.lloadN s4_82 rfl ?_
    refine H.aloadN s4_83 rfl rfl ?_
    refine H.getfield s4_84 (k_1 hw) (i := 0) rfl rfl ?_
    refine H.iload s4_87 rfl ?_
    refine H.laload s4_89 (i := 1) (j := 2) rfl (by decide) (v := (.long x2)) rfl ?_
    refine H.lifS s4_90 s4_91 (fun (c90 : x2 < x4) => ?_) (fun (c90 : ¬ x2 < x4) => ?_)
    · have d90 : x2.toInt < x4.toInt := (j_lt rfl rfl).mp c90
      refine H.aloadN s4_97 rfl rfl ?_
      refine H.getfield s4_98 (k_1 hw) (i := 0) rfl rfl ?_
      refine H.iload s4_101 rfl ?_
      refine H.aloadN s4_103 rfl rfl ?_
      refine H.getfield s4_104 (k_1 hw) (i := 0) rfl rfl ?_
      refine H.iload s4_107 rfl ?_
      refine H.laload s4_109 (i := 1) (j := 2) rfl (by decide) (v := (.long x2)) rfl ?_
      refine H.lastore s4_110 (i := 1) (j := 0) rfl (by decide) (ltb rfl)  (A' := [.inl (0, [(.ref (n0 + 1)), (.int (4 : Int32))]), .inr (.long, [(.long x2), (.long x1), (.long x2), (.long x3), (.long x4), (.long t5), (.long t6), (.long t7), (.long t8), (.long t9), (.long t10), (.long t11), (.long t12), (.long t13), (.long t14), (.long t15)])]) rfl ?_
      refine H.iload s4_111 rfl ?_
      refine H.istore s4_113 (ls' := #[.val (.ref (n0 + 0)), .val (.long x0), .second, .val (.long x4), .second, .val (.int (2 : Int32)), .val (.int (2 : Int32))]) rfl ?_
      refine H.goto s4_115 ?_
      refine H.iconst s4_27 (v := (2 : Int32)) (by decide) ?_
      refine H.iload s4_28 rfl ?_
      refine H.imul s4_30 (w := (4 : Int32)) (by decide) ?_
      refine H.iconst s4_31 (v := (1 : Int32)) (by decide) ?_
      refine H.iadd s4_32 (w := (5 : Int32)) (by decide) ?_
      refine H.aloadN s4_33 rfl rfl ?_
      refine H.getfield s4_34 (k_0 hw) (i := 0) rfl rfl ?_
      refine H.icmpT s4_37 (show ¬ (5 : Int32) < (4 : Int32) by decide) ?_
      refine H.aloadN s4_118 rfl rfl ?_
      refine H.getfield s4_119 (k_1 hw) (i := 0) rfl rfl ?_
      refine H.iload s4_122 rfl ?_
      refine H.lloadN s4_124 rfl ?_
      refine H.lastore s4_125 (i := 1) (j := 2) rfl (by decide) (ltb rfl)  (A' := [.inl (0, [(.ref (n0 + 1)), (.int (4 : Int32))]), .inr (.long, [(.long x2), (.long x1), (.long x4), (.long x3), (.long x4), (.long t5), (.long t6), (.long t7), (.long t8), (.long t9), (.long t10), (.long t11), (.long t12), (.long t13), (.long t14), (.long t15)])]) rfl ?_
      refine H.lloadN s4_126 rfl ?_
      exact H.lreturn s4_127 rfl ⟨rfl, x2, x1, x4, x3, x4, t5, t6, t7, t8, t9, t10, t11, t12, t13, t14, t15, rfl, ⟨by omega, by omega, by omega, by omega⟩, (fun z => by first | rfl | (simp only [List.count_cons, List.count_nil]; ac_rfl))⟩ (by decide) (by decide)
    · have d90 : x4.toInt ≤ x2.toInt := (j_ge rfl rfl).mp c90
      refine H.goto s4_94 ?_
      refine H.aloadN s4_118 rfl rfl ?_
      refine H.getfield s4_119 (k_1 hw) (i := 0) rfl rfl ?_
      refine H.iload s4_122 rfl ?_
      refine H.lloadN s4_124 rfl ?_
      refine H.lastore s4_125 (i := 1) (j := 0) rfl (by decide) (ltb rfl)  (A' := [.inl (0, [(.ref (n0 + 1)), (.int (4 : Int32))]), .inr (.long, [(.long x4), (.long x1), (.long x2), (.long x3), (.long x4), (.long t5), (.long t6), (.long t7), (.long t8), (.long t9), (.long t10), (.long t11), (.long t12), (.long t13), (.long t14), (.long t15)])]) rfl ?_
      refine H.lloadN s4_126 rfl ?_
      exact H.lreturn s4_127 rfl ⟨rfl, x4, x1, x2, x3, x4, t5, t6, t7, t8, t9, t10, t11, t12, t13, t14, t15, rfl, ⟨by omega, by omega, by omega, by omega⟩, (fun z => by first | rfl | (simp only [List.count_cons, List.count_nil]; ac_rfl))⟩ (by decide) (by decide)

theorem pn_5 : plainName "com/example/korek/korek/simulation/LongHeapPollPinLaw" = true := by first | (simp [plainName, overriddenIn]; done) | decide +kernel
theorem s5_0 : Nx method_3_code 0 (.aload_n 0) 1 1 := ⟨by decide +kernel, rfl⟩
theorem s5_1 : Nx method_3_code 1 (.iload_n 1) 1 2 := ⟨by decide +kernel, rfl⟩
theorem s5_2 : Nx method_3_code 2 (.laload) 1 3 := ⟨by decide +kernel, rfl⟩
theorem s5_3 : Nx method_3_code 3 (.aload_n 0) 1 4 := ⟨by decide +kernel, rfl⟩
theorem s5_4 : Nx method_3_code 4 (.iload_n 2) 1 5 := ⟨by decide +kernel, rfl⟩
theorem s5_5 : Nx method_3_code 5 (.laload) 1 6 := ⟨by decide +kernel, rfl⟩
theorem s5_6 : Nx method_3_code 6 (.lcmp) 1 7 := ⟨by decide +kernel, rfl⟩
theorem s5_7 : Bx method_3_code 7 (.ifCond .le) 24 10 := ⟨(17), by decide +kernel, by decide, by decide, rfl⟩
theorem s5_24 : Nx method_3_code 24 (.return_) 1 25 := ⟨by decide +kernel, rfl⟩
theorem s5_10 : Nx method_3_code 10 (.aload_n 0) 1 11 := ⟨by decide +kernel, rfl⟩
theorem s5_11 : Nx method_3_code 11 (.iload_n 1) 1 12 := ⟨by decide +kernel, rfl⟩
theorem s5_12 : Nx method_3_code 12 (.laload) 1 13 := ⟨by decide +kernel, rfl⟩
theorem s5_13 : Nx method_3_code 13 (.lstore_n 3) 1 14 := ⟨by decide +kernel, rfl⟩
theorem s5_14 : Nx method_3_code 14 (.aload_n 0) 1 15 := ⟨by decide +kernel, rfl⟩
theorem s5_15 : Nx method_3_code 15 (.iload_n 1) 1 16 := ⟨by decide +kernel, rfl⟩
theorem s5_16 : Nx method_3_code 16 (.aload_n 0) 1 17 := ⟨by decide +kernel, rfl⟩
theorem s5_17 : Nx method_3_code 17 (.iload_n 2) 1 18 := ⟨by decide +kernel, rfl⟩
theorem s5_18 : Nx method_3_code 18 (.laload) 1 19 := ⟨by decide +kernel, rfl⟩
theorem s5_19 : Nx method_3_code 19 (.lastore) 1 20 := ⟨by decide +kernel, rfl⟩
theorem s5_20 : Nx method_3_code 20 (.aload_n 0) 1 21 := ⟨by decide +kernel, rfl⟩
theorem s5_21 : Nx method_3_code 21 (.iload_n 2) 1 22 := ⟨by decide +kernel, rfl⟩
theorem s5_22 : Nx method_3_code 22 (.lload_n 3) 1 23 := ⟨by decide +kernel, rfl⟩
theorem s5_23 : Nx method_3_code 23 (.lastore) 1 24 := ⟨by decide +kernel, rfl⟩
set_option maxRecDepth 65536 in
set_option maxHeartbeats 40000000 in
theorem m_cx01 (l : Launch) {Z : State} {a0 : Array Value} (hw : HW1 Z a0) (n0 : Nat) (A : List Ob) (i : Nat) (e0 e1 e2 e3 e4 : Int64) (hA : A[i]? = some (.inr (.long, [.long e0, .long e1, .long e2, .long e3, .long e4]))) : Met l Z KT n0 y5 method_3_code 5 none ({ frames := 0, cells := 0, slots := 0, locals := 0 } : Room) #[(.ref (n0 + i)), (.int (0 : Int32)), (.int (1 : Int32))] A (fun rv B => rv = none ∧ ∃ a b : Int64, B = A.set i (.inr (.long, [(.long a), (.long b), (.long e2), (.long e3), (.long e4)])) ∧ a.toInt ≤ b.toInt ∧ ((a = e0 ∧ b = e1) ∨ (a = e1 ∧ b = e0))) := by
  refine Met.of (a0 := a0) (ls := #[.val (.ref (n0 + i)), .val (.int (0 : Int32)), .val (.int (1 : Int32)), .unset, .unset]) (kok hw) (plainFor_of_name pn_5) (fun m => by first | (simp [entryFrame, mkF, argsToLocals, Value.category]; done) | rfl) (fun G H => ?_)
  refine H.aloadN s5_0 rfl rfl ?_
  refine H.iloadN s5_1 rfl ?_
  refine H.laload s5_2 (i := i) (j := 0) hA (by decide) (v := (.long e0)) rfl ?_
  refine H.aloadN s5_3 rfl rfl ?_
  refine H.iloadN s5_4 rfl ?_
  refine H.laload s5_5 (i := i) (j := 1) hA (by decide) (v := (.long e1)) rfl ?_
  refine H.lifS s5_6 s5_7 (fun (c6 : ¬ e1 < e0) => ?_) (fun (c6 : e1 < e0) => ?_)
  · have d6 : e0.toInt ≤ e1.toInt := (j_ge rfl rfl).mp c6
    exact H.vreturn s5_24 rfl ⟨rfl, e0, e1, (set_self hA).symm, by omega, Or.inl ⟨rfl, rfl⟩⟩ (by decide) (by decide)
  · have d6 : e1.toInt < e0.toInt := (j_lt rfl rfl).mp c6
    refine H.aloadN s5_10 rfl rfl ?_
    refine H.iloadN s5_11 rfl ?_
    refine H.laload s5_12 (i := i) (j := 0) hA (by decide) (v := (.long e0)) rfl ?_
    refine H.lstoreN s5_13 (ls' := #[.val (.ref (n0 + i)), .val (.int (0 : Int32)), .val (.int (1 : Int32)), .val (.long e0), .second]) rfl ?_
    refine H.aloadN s5_14 rfl rfl ?_
    refine H.iloadN s5_15 rfl ?_
    refine H.aloadN s5_16 rfl rfl ?_
    refine H.iloadN s5_17 rfl ?_
    refine H.laload s5_18 (i := i) (j := 1) hA (by decide) (v := (.long e1)) rfl ?_
    refine H.lastore s5_19 (i := i) (j := 0) hA (by decide) (ltb rfl)  (A' := (A.set i (.inr (.long, [(.long e1), (.long e1), (.long e2), (.long e3), (.long e4)])))) rfl ?_
    refine H.aloadN s5_20 rfl rfl ?_
    refine H.iloadN s5_21 rfl ?_
    refine H.lloadN s5_22 rfl ?_
    refine H.lastore s5_23 (i := i) (j := 1) (get_set_self hA) (by decide) (ltb rfl)  (A' := ((A.set i (.inr (.long, [(.long e1), (.long e1), (.long e2), (.long e3), (.long e4)]))).set i (.inr (.long, [(.long e1), (.long e0), (.long e2), (.long e3), (.long e4)])))) rfl ?_
    exact H.vreturn s5_24 rfl ⟨rfl, e1, e0, (by rw [List.set_set]), by omega, Or.inr ⟨rfl, rfl⟩⟩ (by decide) (by decide)


set_option maxRecDepth 65536 in
set_option maxHeartbeats 40000000 in
theorem m_cx34 (l : Launch) {Z : State} {a0 : Array Value} (hw : HW1 Z a0) (n0 : Nat) (A : List Ob) (i : Nat) (e0 e1 e2 e3 e4 : Int64) (hA : A[i]? = some (.inr (.long, [.long e0, .long e1, .long e2, .long e3, .long e4]))) : Met l Z KT n0 y5 method_3_code 5 none ({ frames := 0, cells := 0, slots := 0, locals := 0 } : Room) #[(.ref (n0 + i)), (.int (3 : Int32)), (.int (4 : Int32))] A (fun rv B => rv = none ∧ ∃ a b : Int64, B = A.set i (.inr (.long, [(.long e0), (.long e1), (.long e2), (.long a), (.long b)])) ∧ a.toInt ≤ b.toInt ∧ ((a = e3 ∧ b = e4) ∨ (a = e4 ∧ b = e3))) := by
  refine Met.of (a0 := a0) (ls := #[.val (.ref (n0 + i)), .val (.int (3 : Int32)), .val (.int (4 : Int32)), .unset, .unset]) (kok hw) (plainFor_of_name pn_5) (fun m => by first | (simp [entryFrame, mkF, argsToLocals, Value.category]; done) | rfl) (fun G H => ?_)
  refine H.aloadN s5_0 rfl rfl ?_
  refine H.iloadN s5_1 rfl ?_
  refine H.laload s5_2 (i := i) (j := 3) hA (by decide) (v := (.long e3)) rfl ?_
  refine H.aloadN s5_3 rfl rfl ?_
  refine H.iloadN s5_4 rfl ?_
  refine H.laload s5_5 (i := i) (j := 4) hA (by decide) (v := (.long e4)) rfl ?_
  refine H.lifS s5_6 s5_7 (fun (c6 : ¬ e4 < e3) => ?_) (fun (c6 : e4 < e3) => ?_)
  · have d6 : e3.toInt ≤ e4.toInt := (j_ge rfl rfl).mp c6
    exact H.vreturn s5_24 rfl ⟨rfl, e3, e4, (set_self hA).symm, by omega, Or.inl ⟨rfl, rfl⟩⟩ (by decide) (by decide)
  · have d6 : e4.toInt < e3.toInt := (j_lt rfl rfl).mp c6
    refine H.aloadN s5_10 rfl rfl ?_
    refine H.iloadN s5_11 rfl ?_
    refine H.laload s5_12 (i := i) (j := 3) hA (by decide) (v := (.long e3)) rfl ?_
    refine H.lstoreN s5_13 (ls' := #[.val (.ref (n0 + i)), .val (.int (3 : Int32)), .val (.int (4 : Int32)), .val (.long e3), .second]) rfl ?_
    refine H.aloadN s5_14 rfl rfl ?_
    refine H.iloadN s5_15 rfl ?_
    refine H.aloadN s5_16 rfl rfl ?_
    refine H.iloadN s5_17 rfl ?_
    refine H.laload s5_18 (i := i) (j := 4) hA (by decide) (v := (.long e4)) rfl ?_
    refine H.lastore s5_19 (i := i) (j := 3) hA (by decide) (ltb rfl)  (A' := (A.set i (.inr (.long, [(.long e0), (.long e1), (.long e2), (.long e4), (.long e4)])))) rfl ?_
    refine H.aloadN s5_20 rfl rfl ?_
    refine H.iloadN s5_21 rfl ?_
    refine H.lloadN s5_22 rfl ?_
    refine H.lastore s5_23 (i := i) (j := 4) (get_set_self hA) (by decide) (ltb rfl)  (A' := ((A.set i (.inr (.long, [(.long e0), (.long e1), (.long e2), (.long e4), (.long e4)]))).set i (.inr (.long, [(.long e0), (.long e1), (.long e2), (.long e4), (.long e3)])))) rfl ?_
    exact H.vreturn s5_24 rfl ⟨rfl, e4, e3, (by rw [List.set_set]), by omega, Or.inr ⟨rfl, rfl⟩⟩ (by decide) (by decide)


set_option maxRecDepth 65536 in
set_option maxHeartbeats 40000000 in
theorem m_cx24 (l : Launch) {Z : State} {a0 : Array Value} (hw : HW1 Z a0) (n0 : Nat) (A : List Ob) (i : Nat) (e0 e1 e2 e3 e4 : Int64) (hA : A[i]? = some (.inr (.long, [.long e0, .long e1, .long e2, .long e3, .long e4]))) : Met l Z KT n0 y5 method_3_code 5 none ({ frames := 0, cells := 0, slots := 0, locals := 0 } : Room) #[(.ref (n0 + i)), (.int (2 : Int32)), (.int (4 : Int32))] A (fun rv B => rv = none ∧ ∃ a b : Int64, B = A.set i (.inr (.long, [(.long e0), (.long e1), (.long a), (.long e3), (.long b)])) ∧ a.toInt ≤ b.toInt ∧ ((a = e2 ∧ b = e4) ∨ (a = e4 ∧ b = e2))) := by
  refine Met.of (a0 := a0) (ls := #[.val (.ref (n0 + i)), .val (.int (2 : Int32)), .val (.int (4 : Int32)), .unset, .unset]) (kok hw) (plainFor_of_name pn_5) (fun m => by first | (simp [entryFrame, mkF, argsToLocals, Value.category]; done) | rfl) (fun G H => ?_)
  refine H.aloadN s5_0 rfl rfl ?_
  refine H.iloadN s5_1 rfl ?_
  refine H.laload s5_2 (i := i) (j := 2) hA (by decide) (v := (.long e2)) rfl ?_
  refine H.aloadN s5_3 rfl rfl ?_
  refine H.iloadN s5_4 rfl ?_
  refine H.laload s5_5 (i := i) (j := 4) hA (by decide) (v := (.long e4)) rfl ?_
  refine H.lifS s5_6 s5_7 (fun (c6 : ¬ e4 < e2) => ?_) (fun (c6 : e4 < e2) => ?_)
  · have d6 : e2.toInt ≤ e4.toInt := (j_ge rfl rfl).mp c6
    exact H.vreturn s5_24 rfl ⟨rfl, e2, e4, (set_self hA).symm, by omega, Or.inl ⟨rfl, rfl⟩⟩ (by decide) (by decide)
  · have d6 : e4.toInt < e2.toInt := (j_lt rfl rfl).mp c6
    refine H.aloadN s5_10 rfl rfl ?_
    refine H.iloadN s5_11 rfl ?_
    refine H.laload s5_12 (i := i) (j := 2) hA (by decide) (v := (.long e2)) rfl ?_
    refine H.lstoreN s5_13 (ls' := #[.val (.ref (n0 + i)), .val (.int (2 : Int32)), .val (.int (4 : Int32)), .val (.long e2), .second]) rfl ?_
    refine H.aloadN s5_14 rfl rfl ?_
    refine H.iloadN s5_15 rfl ?_
    refine H.aloadN s5_16 rfl rfl ?_
    refine H.iloadN s5_17 rfl ?_
    refine H.laload s5_18 (i := i) (j := 4) hA (by decide) (v := (.long e4)) rfl ?_
    refine H.lastore s5_19 (i := i) (j := 2) hA (by decide) (ltb rfl)  (A' := (A.set i (.inr (.long, [(.long e0), (.long e1), (.long e4), (.long e3), (.long e4)])))) rfl ?_
    refine H.aloadN s5_20 rfl rfl ?_
    refine H.iloadN s5_21 rfl ?_
    refine H.lloadN s5_22 rfl ?_
    refine H.lastore s5_23 (i := i) (j := 4) (get_set_self hA) (by decide) (ltb rfl)  (A' := ((A.set i (.inr (.long, [(.long e0), (.long e1), (.long e4), (.long e3), (.long e4)]))).set i (.inr (.long, [(.long e0), (.long e1), (.long e4), (.long e3), (.long e2)])))) rfl ?_
    exact H.vreturn s5_24 rfl ⟨rfl, e4, e2, (by rw [List.set_set]), by omega, Or.inr ⟨rfl, rfl⟩⟩ (by decide) (by decide)


set_option maxRecDepth 65536 in
set_option maxHeartbeats 40000000 in
theorem m_cx23 (l : Launch) {Z : State} {a0 : Array Value} (hw : HW1 Z a0) (n0 : Nat) (A : List Ob) (i : Nat) (e0 e1 e2 e3 e4 : Int64) (hA : A[i]? = some (.inr (.long, [.long e0, .long e1, .long e2, .long e3, .long e4]))) : Met l Z KT n0 y5 method_3_code 5 none ({ frames := 0, cells := 0, slots := 0, locals := 0 } : Room) #[(.ref (n0 + i)), (.int (2 : Int32)), (.int (3 : Int32))] A (fun rv B => rv = none ∧ ∃ a b : Int64, B = A.set i (.inr (.long, [(.long e0), (.long e1), (.long a), (.long b), (.long e4)])) ∧ a.toInt ≤ b.toInt ∧ ((a = e2 ∧ b = e3) ∨ (a = e3 ∧ b = e2))) := by
  refine Met.of (a0 := a0) (ls := #[.val (.ref (n0 + i)), .val (.int (2 : Int32)), .val (.int (3 : Int32)), .unset, .unset]) (kok hw) (plainFor_of_name pn_5) (fun m => by first | (simp [entryFrame, mkF, argsToLocals, Value.category]; done) | rfl) (fun G H => ?_)
  refine H.aloadN s5_0 rfl rfl ?_
  refine H.iloadN s5_1 rfl ?_
  refine H.laload s5_2 (i := i) (j := 2) hA (by decide) (v := (.long e2)) rfl ?_
  refine H.aloadN s5_3 rfl rfl ?_
  refine H.iloadN s5_4 rfl ?_
  refine H.laload s5_5 (i := i) (j := 3) hA (by decide) (v := (.long e3)) rfl ?_
  refine H.lifS s5_6 s5_7 (fun (c6 : ¬ e3 < e2) => ?_) (fun (c6 : e3 < e2) => ?_)
  · have d6 : e2.toInt ≤ e3.toInt := (j_ge rfl rfl).mp c6
    exact H.vreturn s5_24 rfl ⟨rfl, e2, e3, (set_self hA).symm, by omega, Or.inl ⟨rfl, rfl⟩⟩ (by decide) (by decide)
  · have d6 : e3.toInt < e2.toInt := (j_lt rfl rfl).mp c6
    refine H.aloadN s5_10 rfl rfl ?_
    refine H.iloadN s5_11 rfl ?_
    refine H.laload s5_12 (i := i) (j := 2) hA (by decide) (v := (.long e2)) rfl ?_
    refine H.lstoreN s5_13 (ls' := #[.val (.ref (n0 + i)), .val (.int (2 : Int32)), .val (.int (3 : Int32)), .val (.long e2), .second]) rfl ?_
    refine H.aloadN s5_14 rfl rfl ?_
    refine H.iloadN s5_15 rfl ?_
    refine H.aloadN s5_16 rfl rfl ?_
    refine H.iloadN s5_17 rfl ?_
    refine H.laload s5_18 (i := i) (j := 3) hA (by decide) (v := (.long e3)) rfl ?_
    refine H.lastore s5_19 (i := i) (j := 2) hA (by decide) (ltb rfl)  (A' := (A.set i (.inr (.long, [(.long e0), (.long e1), (.long e3), (.long e3), (.long e4)])))) rfl ?_
    refine H.aloadN s5_20 rfl rfl ?_
    refine H.iloadN s5_21 rfl ?_
    refine H.lloadN s5_22 rfl ?_
    refine H.lastore s5_23 (i := i) (j := 3) (get_set_self hA) (by decide) (ltb rfl)  (A' := ((A.set i (.inr (.long, [(.long e0), (.long e1), (.long e3), (.long e3), (.long e4)]))).set i (.inr (.long, [(.long e0), (.long e1), (.long e3), (.long e2), (.long e4)])))) rfl ?_
    exact H.vreturn s5_24 rfl ⟨rfl, e3, e2, (by rw [List.set_set]), by omega, Or.inr ⟨rfl, rfl⟩⟩ (by decide) (by decide)


set_option maxRecDepth 65536 in
set_option maxHeartbeats 40000000 in
theorem m_cx14 (l : Launch) {Z : State} {a0 : Array Value} (hw : HW1 Z a0) (n0 : Nat) (A : List Ob) (i : Nat) (e0 e1 e2 e3 e4 : Int64) (hA : A[i]? = some (.inr (.long, [.long e0, .long e1, .long e2, .long e3, .long e4]))) : Met l Z KT n0 y5 method_3_code 5 none ({ frames := 0, cells := 0, slots := 0, locals := 0 } : Room) #[(.ref (n0 + i)), (.int (1 : Int32)), (.int (4 : Int32))] A (fun rv B => rv = none ∧ ∃ a b : Int64, B = A.set i (.inr (.long, [(.long e0), (.long a), (.long e2), (.long e3), (.long b)])) ∧ a.toInt ≤ b.toInt ∧ ((a = e1 ∧ b = e4) ∨ (a = e4 ∧ b = e1))) := by
  refine Met.of (a0 := a0) (ls := #[.val (.ref (n0 + i)), .val (.int (1 : Int32)), .val (.int (4 : Int32)), .unset, .unset]) (kok hw) (plainFor_of_name pn_5) (fun m => by first | (simp [entryFrame, mkF, argsToLocals, Value.category]; done) | rfl) (fun G H => ?_)
  refine H.aloadN s5_0 rfl rfl ?_
  refine H.iloadN s5_1 rfl ?_
  refine H.laload s5_2 (i := i) (j := 1) hA (by decide) (v := (.long e1)) rfl ?_
  refine H.aloadN s5_3 rfl rfl ?_
  refine H.iloadN s5_4 rfl ?_
  refine H.laload s5_5 (i := i) (j := 4) hA (by decide) (v := (.long e4)) rfl ?_
  refine H.lifS s5_6 s5_7 (fun (c6 : ¬ e4 < e1) => ?_) (fun (c6 : e4 < e1) => ?_)
  · have d6 : e1.toInt ≤ e4.toInt := (j_ge rfl rfl).mp c6
    exact H.vreturn s5_24 rfl ⟨rfl, e1, e4, (set_self hA).symm, by omega, Or.inl ⟨rfl, rfl⟩⟩ (by decide) (by decide)
  · have d6 : e4.toInt < e1.toInt := (j_lt rfl rfl).mp c6
    refine H.aloadN s5_10 rfl rfl ?_
    refine H.iloadN s5_11 rfl ?_
    refine H.laload s5_12 (i := i) (j := 1) hA (by decide) (v := (.long e1)) rfl ?_
    refine H.lstoreN s5_13 (ls' := #[.val (.ref (n0 + i)), .val (.int (1 : Int32)), .val (.int (4 : Int32)), .val (.long e1), .second]) rfl ?_
    refine H.aloadN s5_14 rfl rfl ?_
    refine H.iloadN s5_15 rfl ?_
    refine H.aloadN s5_16 rfl rfl ?_
    refine H.iloadN s5_17 rfl ?_
    refine H.laload s5_18 (i := i) (j := 4) hA (by decide) (v := (.long e4)) rfl ?_
    refine H.lastore s5_19 (i := i) (j := 1) hA (by decide) (ltb rfl)  (A' := (A.set i (.inr (.long, [(.long e0), (.long e4), (.long e2), (.long e3), (.long e4)])))) rfl ?_
    refine H.aloadN s5_20 rfl rfl ?_
    refine H.iloadN s5_21 rfl ?_
    refine H.lloadN s5_22 rfl ?_
    refine H.lastore s5_23 (i := i) (j := 4) (get_set_self hA) (by decide) (ltb rfl)  (A' := ((A.set i (.inr (.long, [(.long e0), (.long e4), (.long e2), (.long e3), (.long e4)]))).set i (.inr (.long, [(.long e0), (.long e4), (.long e2), (.long e3), (.long e1)])))) rfl ?_
    exact H.vreturn s5_24 rfl ⟨rfl, e4, e1, (by rw [List.set_set]), by omega, Or.inr ⟨rfl, rfl⟩⟩ (by decide) (by decide)


set_option maxRecDepth 65536 in
set_option maxHeartbeats 40000000 in
theorem m_cx03 (l : Launch) {Z : State} {a0 : Array Value} (hw : HW1 Z a0) (n0 : Nat) (A : List Ob) (i : Nat) (e0 e1 e2 e3 e4 : Int64) (hA : A[i]? = some (.inr (.long, [.long e0, .long e1, .long e2, .long e3, .long e4]))) : Met l Z KT n0 y5 method_3_code 5 none ({ frames := 0, cells := 0, slots := 0, locals := 0 } : Room) #[(.ref (n0 + i)), (.int (0 : Int32)), (.int (3 : Int32))] A (fun rv B => rv = none ∧ ∃ a b : Int64, B = A.set i (.inr (.long, [(.long a), (.long e1), (.long e2), (.long b), (.long e4)])) ∧ a.toInt ≤ b.toInt ∧ ((a = e0 ∧ b = e3) ∨ (a = e3 ∧ b = e0))) := by
  refine Met.of (a0 := a0) (ls := #[.val (.ref (n0 + i)), .val (.int (0 : Int32)), .val (.int (3 : Int32)), .unset, .unset]) (kok hw) (plainFor_of_name pn_5) (fun m => by first | (simp [entryFrame, mkF, argsToLocals, Value.category]; done) | rfl) (fun G H => ?_)
  refine H.aloadN s5_0 rfl rfl ?_
  refine H.iloadN s5_1 rfl ?_
  refine H.laload s5_2 (i := i) (j := 0) hA (by decide) (v := (.long e0)) rfl ?_
  refine H.aloadN s5_3 rfl rfl ?_
  refine H.iloadN s5_4 rfl ?_
  refine H.laload s5_5 (i := i) (j := 3) hA (by decide) (v := (.long e3)) rfl ?_
  refine H.lifS s5_6 s5_7 (fun (c6 : ¬ e3 < e0) => ?_) (fun (c6 : e3 < e0) => ?_)
  · have d6 : e0.toInt ≤ e3.toInt := (j_ge rfl rfl).mp c6
    exact H.vreturn s5_24 rfl ⟨rfl, e0, e3, (set_self hA).symm, by omega, Or.inl ⟨rfl, rfl⟩⟩ (by decide) (by decide)
  · have d6 : e3.toInt < e0.toInt := (j_lt rfl rfl).mp c6
    refine H.aloadN s5_10 rfl rfl ?_
    refine H.iloadN s5_11 rfl ?_
    refine H.laload s5_12 (i := i) (j := 0) hA (by decide) (v := (.long e0)) rfl ?_
    refine H.lstoreN s5_13 (ls' := #[.val (.ref (n0 + i)), .val (.int (0 : Int32)), .val (.int (3 : Int32)), .val (.long e0), .second]) rfl ?_
    refine H.aloadN s5_14 rfl rfl ?_
    refine H.iloadN s5_15 rfl ?_
    refine H.aloadN s5_16 rfl rfl ?_
    refine H.iloadN s5_17 rfl ?_
    refine H.laload s5_18 (i := i) (j := 3) hA (by decide) (v := (.long e3)) rfl ?_
    refine H.lastore s5_19 (i := i) (j := 0) hA (by decide) (ltb rfl)  (A' := (A.set i (.inr (.long, [(.long e3), (.long e1), (.long e2), (.long e3), (.long e4)])))) rfl ?_
    refine H.aloadN s5_20 rfl rfl ?_
    refine H.iloadN s5_21 rfl ?_
    refine H.lloadN s5_22 rfl ?_
    refine H.lastore s5_23 (i := i) (j := 3) (get_set_self hA) (by decide) (ltb rfl)  (A' := ((A.set i (.inr (.long, [(.long e3), (.long e1), (.long e2), (.long e3), (.long e4)]))).set i (.inr (.long, [(.long e3), (.long e1), (.long e2), (.long e0), (.long e4)])))) rfl ?_
    exact H.vreturn s5_24 rfl ⟨rfl, e3, e0, (by rw [List.set_set]), by omega, Or.inr ⟨rfl, rfl⟩⟩ (by decide) (by decide)


set_option maxRecDepth 65536 in
set_option maxHeartbeats 40000000 in
theorem m_cx02 (l : Launch) {Z : State} {a0 : Array Value} (hw : HW1 Z a0) (n0 : Nat) (A : List Ob) (i : Nat) (e0 e1 e2 e3 e4 : Int64) (hA : A[i]? = some (.inr (.long, [.long e0, .long e1, .long e2, .long e3, .long e4]))) : Met l Z KT n0 y5 method_3_code 5 none ({ frames := 0, cells := 0, slots := 0, locals := 0 } : Room) #[(.ref (n0 + i)), (.int (0 : Int32)), (.int (2 : Int32))] A (fun rv B => rv = none ∧ ∃ a b : Int64, B = A.set i (.inr (.long, [(.long a), (.long e1), (.long b), (.long e3), (.long e4)])) ∧ a.toInt ≤ b.toInt ∧ ((a = e0 ∧ b = e2) ∨ (a = e2 ∧ b = e0))) := by
  refine Met.of (a0 := a0) (ls := #[.val (.ref (n0 + i)), .val (.int (0 : Int32)), .val (.int (2 : Int32)), .unset, .unset]) (kok hw) (plainFor_of_name pn_5) (fun m => by first | (simp [entryFrame, mkF, argsToLocals, Value.category]; done) | rfl) (fun G H => ?_)
  refine H.aloadN s5_0 rfl rfl ?_
  refine H.iloadN s5_1 rfl ?_
  refine H.laload s5_2 (i := i) (j := 0) hA (by decide) (v := (.long e0)) rfl ?_
  refine H.aloadN s5_3 rfl rfl ?_
  refine H.iloadN s5_4 rfl ?_
  refine H.laload s5_5 (i := i) (j := 2) hA (by decide) (v := (.long e2)) rfl ?_
  refine H.lifS s5_6 s5_7 (fun (c6 : ¬ e2 < e0) => ?_) (fun (c6 : e2 < e0) => ?_)
  · have d6 : e0.toInt ≤ e2.toInt := (j_ge rfl rfl).mp c6
    exact H.vreturn s5_24 rfl ⟨rfl, e0, e2, (set_self hA).symm, by omega, Or.inl ⟨rfl, rfl⟩⟩ (by decide) (by decide)
  · have d6 : e2.toInt < e0.toInt := (j_lt rfl rfl).mp c6
    refine H.aloadN s5_10 rfl rfl ?_
    refine H.iloadN s5_11 rfl ?_
    refine H.laload s5_12 (i := i) (j := 0) hA (by decide) (v := (.long e0)) rfl ?_
    refine H.lstoreN s5_13 (ls' := #[.val (.ref (n0 + i)), .val (.int (0 : Int32)), .val (.int (2 : Int32)), .val (.long e0), .second]) rfl ?_
    refine H.aloadN s5_14 rfl rfl ?_
    refine H.iloadN s5_15 rfl ?_
    refine H.aloadN s5_16 rfl rfl ?_
    refine H.iloadN s5_17 rfl ?_
    refine H.laload s5_18 (i := i) (j := 2) hA (by decide) (v := (.long e2)) rfl ?_
    refine H.lastore s5_19 (i := i) (j := 0) hA (by decide) (ltb rfl)  (A' := (A.set i (.inr (.long, [(.long e2), (.long e1), (.long e2), (.long e3), (.long e4)])))) rfl ?_
    refine H.aloadN s5_20 rfl rfl ?_
    refine H.iloadN s5_21 rfl ?_
    refine H.lloadN s5_22 rfl ?_
    refine H.lastore s5_23 (i := i) (j := 2) (get_set_self hA) (by decide) (ltb rfl)  (A' := ((A.set i (.inr (.long, [(.long e2), (.long e1), (.long e2), (.long e3), (.long e4)]))).set i (.inr (.long, [(.long e2), (.long e1), (.long e0), (.long e3), (.long e4)])))) rfl ?_
    exact H.vreturn s5_24 rfl ⟨rfl, e2, e0, (by rw [List.set_set]), by omega, Or.inr ⟨rfl, rfl⟩⟩ (by decide) (by decide)


set_option maxRecDepth 65536 in
set_option maxHeartbeats 40000000 in
theorem m_cx13 (l : Launch) {Z : State} {a0 : Array Value} (hw : HW1 Z a0) (n0 : Nat) (A : List Ob) (i : Nat) (e0 e1 e2 e3 e4 : Int64) (hA : A[i]? = some (.inr (.long, [.long e0, .long e1, .long e2, .long e3, .long e4]))) : Met l Z KT n0 y5 method_3_code 5 none ({ frames := 0, cells := 0, slots := 0, locals := 0 } : Room) #[(.ref (n0 + i)), (.int (1 : Int32)), (.int (3 : Int32))] A (fun rv B => rv = none ∧ ∃ a b : Int64, B = A.set i (.inr (.long, [(.long e0), (.long a), (.long e2), (.long b), (.long e4)])) ∧ a.toInt ≤ b.toInt ∧ ((a = e1 ∧ b = e3) ∨ (a = e3 ∧ b = e1))) := by
  refine Met.of (a0 := a0) (ls := #[.val (.ref (n0 + i)), .val (.int (1 : Int32)), .val (.int (3 : Int32)), .unset, .unset]) (kok hw) (plainFor_of_name pn_5) (fun m => by first | (simp [entryFrame, mkF, argsToLocals, Value.category]; done) | rfl) (fun G H => ?_)
  refine H.aloadN s5_0 rfl rfl ?_
  refine H.iloadN s5_1 rfl ?_
  refine H.laload s5_2 (i := i) (j := 1) hA (by decide) (v := (.long e1)) rfl ?_
  refine H.aloadN s5_3 rfl rfl ?_
  refine H.iloadN s5_4 rfl ?_
  refine H.laload s5_5 (i := i) (j := 3) hA (by decide) (v := (.long e3)) rfl ?_
  refine H.lifS s5_6 s5_7 (fun (c6 : ¬ e3 < e1) => ?_) (fun (c6 : e3 < e1) => ?_)
  · have d6 : e1.toInt ≤ e3.toInt := (j_ge rfl rfl).mp c6
    exact H.vreturn s5_24 rfl ⟨rfl, e1, e3, (set_self hA).symm, by omega, Or.inl ⟨rfl, rfl⟩⟩ (by decide) (by decide)
  · have d6 : e3.toInt < e1.toInt := (j_lt rfl rfl).mp c6
    refine H.aloadN s5_10 rfl rfl ?_
    refine H.iloadN s5_11 rfl ?_
    refine H.laload s5_12 (i := i) (j := 1) hA (by decide) (v := (.long e1)) rfl ?_
    refine H.lstoreN s5_13 (ls' := #[.val (.ref (n0 + i)), .val (.int (1 : Int32)), .val (.int (3 : Int32)), .val (.long e1), .second]) rfl ?_
    refine H.aloadN s5_14 rfl rfl ?_
    refine H.iloadN s5_15 rfl ?_
    refine H.aloadN s5_16 rfl rfl ?_
    refine H.iloadN s5_17 rfl ?_
    refine H.laload s5_18 (i := i) (j := 3) hA (by decide) (v := (.long e3)) rfl ?_
    refine H.lastore s5_19 (i := i) (j := 1) hA (by decide) (ltb rfl)  (A' := (A.set i (.inr (.long, [(.long e0), (.long e3), (.long e2), (.long e3), (.long e4)])))) rfl ?_
    refine H.aloadN s5_20 rfl rfl ?_
    refine H.iloadN s5_21 rfl ?_
    refine H.lloadN s5_22 rfl ?_
    refine H.lastore s5_23 (i := i) (j := 3) (get_set_self hA) (by decide) (ltb rfl)  (A' := ((A.set i (.inr (.long, [(.long e0), (.long e3), (.long e2), (.long e3), (.long e4)]))).set i (.inr (.long, [(.long e0), (.long e3), (.long e2), (.long e1), (.long e4)])))) rfl ?_
    exact H.vreturn s5_24 rfl ⟨rfl, e3, e1, (by rw [List.set_set]), by omega, Or.inr ⟨rfl, rfl⟩⟩ (by decide) (by decide)


set_option maxRecDepth 65536 in
set_option maxHeartbeats 40000000 in
theorem m_cx12 (l : Launch) {Z : State} {a0 : Array Value} (hw : HW1 Z a0) (n0 : Nat) (A : List Ob) (i : Nat) (e0 e1 e2 e3 e4 : Int64) (hA : A[i]? = some (.inr (.long, [.long e0, .long e1, .long e2, .long e3, .long e4]))) : Met l Z KT n0 y5 method_3_code 5 none ({ frames := 0, cells := 0, slots := 0, locals := 0 } : Room) #[(.ref (n0 + i)), (.int (1 : Int32)), (.int (2 : Int32))] A (fun rv B => rv = none ∧ ∃ a b : Int64, B = A.set i (.inr (.long, [(.long e0), (.long a), (.long b), (.long e3), (.long e4)])) ∧ a.toInt ≤ b.toInt ∧ ((a = e1 ∧ b = e2) ∨ (a = e2 ∧ b = e1))) := by
  refine Met.of (a0 := a0) (ls := #[.val (.ref (n0 + i)), .val (.int (1 : Int32)), .val (.int (2 : Int32)), .unset, .unset]) (kok hw) (plainFor_of_name pn_5) (fun m => by first | (simp [entryFrame, mkF, argsToLocals, Value.category]; done) | rfl) (fun G H => ?_)
  refine H.aloadN s5_0 rfl rfl ?_
  refine H.iloadN s5_1 rfl ?_
  refine H.laload s5_2 (i := i) (j := 1) hA (by decide) (v := (.long e1)) rfl ?_
  refine H.aloadN s5_3 rfl rfl ?_
  refine H.iloadN s5_4 rfl ?_
  refine H.laload s5_5 (i := i) (j := 2) hA (by decide) (v := (.long e2)) rfl ?_
  refine H.lifS s5_6 s5_7 (fun (c6 : ¬ e2 < e1) => ?_) (fun (c6 : e2 < e1) => ?_)
  · have d6 : e1.toInt ≤ e2.toInt := (j_ge rfl rfl).mp c6
    exact H.vreturn s5_24 rfl ⟨rfl, e1, e2, (set_self hA).symm, by omega, Or.inl ⟨rfl, rfl⟩⟩ (by decide) (by decide)
  · have d6 : e2.toInt < e1.toInt := (j_lt rfl rfl).mp c6
    refine H.aloadN s5_10 rfl rfl ?_
    refine H.iloadN s5_11 rfl ?_
    refine H.laload s5_12 (i := i) (j := 1) hA (by decide) (v := (.long e1)) rfl ?_
    refine H.lstoreN s5_13 (ls' := #[.val (.ref (n0 + i)), .val (.int (1 : Int32)), .val (.int (2 : Int32)), .val (.long e1), .second]) rfl ?_
    refine H.aloadN s5_14 rfl rfl ?_
    refine H.iloadN s5_15 rfl ?_
    refine H.aloadN s5_16 rfl rfl ?_
    refine H.iloadN s5_17 rfl ?_
    refine H.laload s5_18 (i := i) (j := 2) hA (by decide) (v := (.long e2)) rfl ?_
    refine H.lastore s5_19 (i := i) (j := 1) hA (by decide) (ltb rfl)  (A' := (A.set i (.inr (.long, [(.long e0), (.long e2), (.long e2), (.long e3), (.long e4)])))) rfl ?_
    refine H.aloadN s5_20 rfl rfl ?_
    refine H.iloadN s5_21 rfl ?_
    refine H.lloadN s5_22 rfl ?_
    refine H.lastore s5_23 (i := i) (j := 2) (get_set_self hA) (by decide) (ltb rfl)  (A' := ((A.set i (.inr (.long, [(.long e0), (.long e2), (.long e2), (.long e3), (.long e4)]))).set i (.inr (.long, [(.long e0), (.long e2), (.long e1), (.long e3), (.long e4)])))) rfl ?_
    exact H.vreturn s5_24 rfl ⟨rfl, e2, e1, (by rw [List.set_set]), by omega, Or.inr ⟨rfl, rfl⟩⟩ (by decide) (by decide)

theorem k_6 {Z : State} {a0 : Array Value} (hw : HW1 Z a0) : NL Z a0 KT "com/example/korek/korek/simulation/LongHeapPollPinLaw" 7 0 2 [.null, (.int (0 : Int32))] := ⟨_, _, rfl, (hw _ (List.mem_of_getElem? (i := 0) rfl)), (hw _ (List.mem_of_getElem? (i := 1) rfl)), (hw _ (List.mem_of_getElem? (i := 2) rfl)), by decide +kernel⟩
theorem s0_0 : Nx code 0 (.new 7) 3 3 := ⟨at_0, rfl⟩
theorem s0_3 : Nx code 3 (.dup) 1 4 := ⟨at_3, rfl⟩
theorem s0_4 : Nx code 4 (.invokespecial 9) 3 7 := ⟨at_4, rfl⟩
theorem s1_0 : Nx prog_41_method_1_code 0 (.aload_n 0) 1 1 := ⟨by decide +kernel, rfl⟩
theorem s1_1 : Nx prog_41_method_1_code 1 (.invokespecial 1) 3 4 := ⟨by decide +kernel, rfl⟩
theorem k_7 {Z : State} {a0 : Array Value} (hw : HW1 Z a0) : IL Z a0 "com/example/korek/korek/simulation/LongHeap" 1 := ⟨(hw _ (List.mem_of_getElem? (i := 6) rfl)), (hw _ (List.mem_of_getElem? (i := 7) rfl)), (hw _ (List.mem_of_getElem? (i := 8) rfl))⟩
theorem s1_4 : Nx prog_41_method_1_code 4 (.aload_n 0) 1 5 := ⟨by decide +kernel, rfl⟩
theorem s1_5 : Nx prog_41_method_1_code 5 (.bipush 16) 2 7 := ⟨by decide +kernel, rfl⟩
theorem s1_7 : Nx prog_41_method_1_code 7 (.newarray .long) 2 9 := ⟨by decide +kernel, rfl⟩
theorem k_8 {Z : State} {a0 : Array Value} (hw : HW1 Z a0) : AL Z a0 .long := (hw _ (List.mem_of_getElem? (i := 9) rfl))
theorem k_9 {Z : State} {a0 : Array Value} (hw : HW1 Z a0) : PL Z a0 KT "com/example/korek/korek/simulation/LongHeap" "<init>" 7 0 0 (.array .long) := ⟨_, _, "com/example/korek/korek/simulation/LongHeap", "heap", "[J", "", rfl, rfl, (Or.inl (hw _ (List.mem_of_getElem? (i := 10) rfl))), (Or.inl (hw _ (List.mem_of_getElem? (i := 11) rfl))), by decide +kernel⟩
theorem s1_9 : Nx prog_41_method_1_code 9 (.putfield 7) 3 12 := ⟨by decide +kernel, rfl⟩
theorem s1_12 : Nx prog_41_method_1_code 12 (.return_) 1 13 := ⟨by decide +kernel, rfl⟩
set_option maxRecDepth 65536 in
set_option maxHeartbeats 40000000 in
theorem a_0 (l : Launch) {Z : State} {a0 : Array Value} (hw : HW1 Z a0) (n0 : Nat)  : Met l Z KT n0 y1 prog_41_method_1_code 1 none ({ frames := 1, cells := 1, slots := 16, locals := 12 } : Room) #[(.ref (n0 + 0))] [.inl (0, [.null, (.int (0 : Int32))])] (Is none [.inl (0, [(.ref (n0 + 1)), (.int (0 : Int32))]), .inr (.long, [(.long (0 : Int64)), (.long (0 : Int64)), (.long (0 : Int64)), (.long (0 : Int64)), (.long (0 : Int64)), (.long (0 : Int64)), (.long (0 : Int64)), (.long (0 : Int64)), (.long (0 : Int64)), (.long (0 : Int64)), (.long (0 : Int64)), (.long (0 : Int64)), (.long (0 : Int64)), (.long (0 : Int64)), (.long (0 : Int64)), (.long (0 : Int64))])]) := by
  refine Met.of (a0 := a0) (ls := #[.val (.ref (n0 + 0))]) (kok hw) (plainFor_of_name pn_3) (fun m => by first | (simp [entryFrame, mkF, argsToLocals, Value.category]; done) | rfl) (fun G H => ?_)
  refine H.aloadN s1_0 rfl rfl ?_
  refine H.initO s1_1 (k_7 hw) rfl (leb rfl) (leb rfl) ?_
  refine H.aloadN s1_4 rfl rfl ?_
  refine H.bipush s1_5 (v := (16 : Int32)) (by decide) ?_
  refine H.newarray s1_7 (ty := .long) rfl (k_8 hw) (N := 16) (cap := 16) (by decide) rfl (by decide) (by decide) (by first | rfl | simp) (by decide) (by decide) (i := 1) rfl (A' := [.inl (0, [.null, (.int (0 : Int32))]), .inr (.long, [(.long (0 : Int64)), (.long (0 : Int64)), (.long (0 : Int64)), (.long (0 : Int64)), (.long (0 : Int64)), (.long (0 : Int64)), (.long (0 : Int64)), (.long (0 : Int64)), (.long (0 : Int64)), (.long (0 : Int64)), (.long (0 : Int64)), (.long (0 : Int64)), (.long (0 : Int64)), (.long (0 : Int64)), (.long (0 : Int64)), (.long (0 : Int64))])]) rfl (k' := 1) rfl (n' := 16) rfl ?_
  refine H.putfield s1_9 (k_9 hw) (i := 0) rfl rfl rfl (A' := [.inl (0, [(.ref (n0 + 1)), (.int (0 : Int32))]), .inr (.long, [(.long (0 : Int64)), (.long (0 : Int64)), (.long (0 : Int64)), (.long (0 : Int64)), (.long (0 : Int64)), (.long (0 : Int64)), (.long (0 : Int64)), (.long (0 : Int64)), (.long (0 : Int64)), (.long (0 : Int64)), (.long (0 : Int64)), (.long (0 : Int64)), (.long (0 : Int64)), (.long (0 : Int64)), (.long (0 : Int64)), (.long (0 : Int64))])]) rfl ?_
  exact H.vreturn s1_12 rfl ⟨rfl, rfl⟩ (by decide) (by decide)

theorem pd_0 : ∀ sig, parseMethodDescriptor "()V" = some sig → 0 = sig.parameters.length := npOf (r := none) (ps := []) (by decide +kernel) rfl
theorem k_10 {Z : State} {a0 : Array Value} (hw : HW1 Z a0) : CL Z a0 "com/example/korek/korek/simulation/LongHeapPollPinLaw" 9 y1 prog_41_method_1_code 1 0 := ⟨(hw _ (List.mem_of_getElem? (i := 3) rfl)), (hw _ (List.mem_of_getElem? (i := 4) rfl)), (hw _ (List.mem_of_getElem? (i := 2) rfl)), (hw _ (List.mem_of_getElem? (i := 5) rfl)), ⟨by decide, by decide⟩, pd_0, rfl⟩
theorem s0_7 : Nx code 7 (.astore 10) 2 9 := ⟨at_7, rfl⟩
theorem s0_9 : Nx code 9 (.aload 10) 2 11 := ⟨at_9, rfl⟩
theorem s0_11 : Nx code 11 (.lload_n 0) 1 12 := ⟨at_11, rfl⟩
theorem s0_12 : Nx code 12 (.invokevirtual 10) 3 15 := ⟨at_12, rfl⟩
theorem pd_1 : ∀ sig, parseMethodDescriptor "(J)V" = some sig → 1 = sig.parameters.length := npOf (r := none) (ps := [.long]) (by decide +kernel) rfl
theorem k_11 {Z : State} {a0 : Array Value} (hw : HW1 Z a0) : VL Z a0 KT "com/example/korek/korek/simulation/LongHeapPollPinLaw" 10 0 y3 prog_41_method_4_code 5 none 1 := ⟨_, _, rfl, (hw _ (List.mem_of_getElem? (i := 12) rfl)), (hw _ (List.mem_of_getElem? (i := 13) rfl)), (hw _ (List.mem_of_getElem? (i := 15) rfl)), (hw _ (List.mem_of_getElem? (i := 14) rfl)), (hw _ (List.mem_of_getElem? (i := 2) rfl)), (hw _ (List.mem_of_getElem? (i := 16) rfl)), ⟨by decide, by decide⟩, pd_1⟩
theorem s0_15 : Nx code 15 (.aload 10) 2 17 := ⟨at_15, rfl⟩
theorem s0_17 : Nx code 17 (.lload_n 2) 1 18 := ⟨at_17, rfl⟩
theorem s0_18 : Nx code 18 (.invokevirtual 10) 3 21 := ⟨at_18, rfl⟩
theorem s0_21 : Nx code 21 (.aload 10) 2 23 := ⟨at_21, rfl⟩
theorem s0_23 : Nx code 23 (.lload 4) 2 25 := ⟨at_23, rfl⟩
theorem s0_25 : Nx code 25 (.invokevirtual 10) 3 28 := ⟨at_25, rfl⟩
theorem s0_28 : Nx code 28 (.aload 10) 2 30 := ⟨at_28, rfl⟩
theorem s0_30 : Nx code 30 (.lload 6) 2 32 := ⟨at_30, rfl⟩
theorem s0_32 : Nx code 32 (.invokevirtual 10) 3 35 := ⟨at_32, rfl⟩
theorem s0_35 : Nx code 35 (.aload 10) 2 37 := ⟨at_35, rfl⟩
theorem s0_37 : Nx code 37 (.lload 8) 2 39 := ⟨at_37, rfl⟩
theorem s0_39 : Nx code 39 (.invokevirtual 10) 3 42 := ⟨at_39, rfl⟩
theorem s0_42 : Nx code 42 (.aload 10) 2 44 := ⟨at_42, rfl⟩
theorem s0_44 : Nx code 44 (.invokevirtual 14) 3 47 := ⟨at_44, rfl⟩
theorem pd_2 : ∀ sig, parseMethodDescriptor "()J" = some sig → 0 = sig.parameters.length := npOf (r := some .long) (ps := []) (by decide +kernel) rfl
theorem k_12 {Z : State} {a0 : Array Value} (hw : HW1 Z a0) : VL Z a0 KT "com/example/korek/korek/simulation/LongHeapPollPinLaw" 14 0 y4 prog_41_method_5_code 7 (some .long) 0 := ⟨_, _, rfl, (hw _ (List.mem_of_getElem? (i := 19) rfl)), (hw _ (List.mem_of_getElem? (i := 20) rfl)), (hw _ (List.mem_of_getElem? (i := 22) rfl)), (hw _ (List.mem_of_getElem? (i := 21) rfl)), (hw _ (List.mem_of_getElem? (i := 2) rfl)), (hw _ (List.mem_of_getElem? (i := 23) rfl)), ⟨by decide, by decide⟩, pd_2⟩
theorem s0_47 : Nx code 47 (.lstore 11) 2 49 := ⟨at_47, rfl⟩
theorem s0_49 : Nx code 49 (.aload 10) 2 51 := ⟨at_49, rfl⟩
theorem s0_51 : Nx code 51 (.invokevirtual 14) 3 54 := ⟨at_51, rfl⟩
theorem s0_54 : Nx code 54 (.lstore 13) 2 56 := ⟨at_54, rfl⟩
theorem s0_56 : Nx code 56 (.aload 10) 2 58 := ⟨at_56, rfl⟩
theorem s0_58 : Nx code 58 (.invokevirtual 14) 3 61 := ⟨at_58, rfl⟩
theorem s0_61 : Nx code 61 (.lstore 15) 2 63 := ⟨at_61, rfl⟩
theorem s0_63 : Nx code 63 (.aload 10) 2 65 := ⟨at_63, rfl⟩
theorem s0_65 : Nx code 65 (.invokevirtual 14) 3 68 := ⟨at_65, rfl⟩
theorem s0_68 : Nx code 68 (.lstore 17) 2 70 := ⟨at_68, rfl⟩
theorem s0_70 : Nx code 70 (.aload 10) 2 72 := ⟨at_70, rfl⟩
theorem s0_72 : Nx code 72 (.invokevirtual 14) 3 75 := ⟨at_72, rfl⟩
theorem s0_75 : Nx code 75 (.lstore 19) 2 77 := ⟨at_75, rfl⟩
theorem s0_77 : Nx code 77 (.iconst 5) 1 78 := ⟨at_77, rfl⟩
theorem s0_78 : Nx code 78 (.newarray .long) 2 80 := ⟨at_78, rfl⟩
theorem s0_80 : Nx code 80 (.dup) 1 81 := ⟨at_80, rfl⟩
theorem s0_81 : Nx code 81 (.iconst 0) 1 82 := ⟨at_81, rfl⟩
theorem s0_82 : Nx code 82 (.lload_n 0) 1 83 := ⟨at_82, rfl⟩
theorem s0_83 : Nx code 83 (.lastore) 1 84 := ⟨at_83, rfl⟩
theorem s0_84 : Nx code 84 (.dup) 1 85 := ⟨at_84, rfl⟩
theorem s0_85 : Nx code 85 (.iconst 1) 1 86 := ⟨at_85, rfl⟩
theorem s0_86 : Nx code 86 (.lload_n 2) 1 87 := ⟨at_86, rfl⟩
theorem s0_87 : Nx code 87 (.lastore) 1 88 := ⟨at_87, rfl⟩
theorem s0_88 : Nx code 88 (.dup) 1 89 := ⟨at_88, rfl⟩
theorem s0_89 : Nx code 89 (.iconst 2) 1 90 := ⟨at_89, rfl⟩
theorem s0_90 : Nx code 90 (.lload 4) 2 92 := ⟨at_90, rfl⟩
theorem s0_92 : Nx code 92 (.lastore) 1 93 := ⟨at_92, rfl⟩
theorem s0_93 : Nx code 93 (.dup) 1 94 := ⟨at_93, rfl⟩
theorem s0_94 : Nx code 94 (.iconst 3) 1 95 := ⟨at_94, rfl⟩
theorem s0_95 : Nx code 95 (.lload 6) 2 97 := ⟨at_95, rfl⟩
theorem s0_97 : Nx code 97 (.lastore) 1 98 := ⟨at_97, rfl⟩
theorem s0_98 : Nx code 98 (.dup) 1 99 := ⟨at_98, rfl⟩
theorem s0_99 : Nx code 99 (.iconst 4) 1 100 := ⟨at_99, rfl⟩
theorem s0_100 : Nx code 100 (.lload 8) 2 102 := ⟨at_100, rfl⟩
theorem s0_102 : Nx code 102 (.lastore) 1 103 := ⟨at_102, rfl⟩
theorem s0_103 : Nx code 103 (.astore 21) 2 105 := ⟨at_103, rfl⟩
theorem s0_105 : Nx code 105 (.aload 21) 2 107 := ⟨at_105, rfl⟩
theorem s0_107 : Nx code 107 (.iconst 0) 1 108 := ⟨at_107, rfl⟩
theorem s0_108 : Nx code 108 (.iconst 1) 1 109 := ⟨at_108, rfl⟩
theorem s0_109 : Nx code 109 (.invokestatic 18) 3 112 := ⟨at_109, rfl⟩
theorem pd_3 : ∀ sig, parseMethodDescriptor "([JII)V" = some sig → 3 = sig.parameters.length := npOf (r := none) (ps := [(.array .long), .int, .int]) (by decide +kernel) rfl
theorem k_13 {Z : State} {a0 : Array Value} (hw : HW1 Z a0) : SL Z a0 "com/example/korek/korek/simulation/LongHeapPollPinLaw" 18 y5 method_3_code 5 none 3 := ⟨(hw _ (List.mem_of_getElem? (i := 24) rfl)), (hw _ (List.mem_of_getElem? (i := 25) rfl)), (hw _ (List.mem_of_getElem? (i := 26) rfl)), (hw _ (List.mem_of_getElem? (i := 27) rfl)), ⟨by decide, by decide⟩, pd_3⟩
theorem s0_112 : Nx code 112 (.aload 21) 2 114 := ⟨at_112, rfl⟩
theorem s0_114 : Nx code 114 (.iconst 3) 1 115 := ⟨at_114, rfl⟩
theorem s0_115 : Nx code 115 (.iconst 4) 1 116 := ⟨at_115, rfl⟩
theorem s0_116 : Nx code 116 (.invokestatic 18) 3 119 := ⟨at_116, rfl⟩
theorem s0_119 : Nx code 119 (.aload 21) 2 121 := ⟨at_119, rfl⟩
theorem s0_121 : Nx code 121 (.iconst 2) 1 122 := ⟨at_121, rfl⟩
theorem s0_122 : Nx code 122 (.iconst 4) 1 123 := ⟨at_122, rfl⟩
theorem s0_123 : Nx code 123 (.invokestatic 18) 3 126 := ⟨at_123, rfl⟩
theorem s0_126 : Nx code 126 (.aload 21) 2 128 := ⟨at_126, rfl⟩
theorem s0_128 : Nx code 128 (.iconst 2) 1 129 := ⟨at_128, rfl⟩
theorem s0_129 : Nx code 129 (.iconst 3) 1 130 := ⟨at_129, rfl⟩
theorem s0_130 : Nx code 130 (.invokestatic 18) 3 133 := ⟨at_130, rfl⟩
theorem s0_133 : Nx code 133 (.aload 21) 2 135 := ⟨at_133, rfl⟩
theorem s0_135 : Nx code 135 (.iconst 1) 1 136 := ⟨at_135, rfl⟩
theorem s0_136 : Nx code 136 (.iconst 4) 1 137 := ⟨at_136, rfl⟩
theorem s0_137 : Nx code 137 (.invokestatic 18) 3 140 := ⟨at_137, rfl⟩
theorem s0_140 : Nx code 140 (.aload 21) 2 142 := ⟨at_140, rfl⟩
theorem s0_142 : Nx code 142 (.iconst 0) 1 143 := ⟨at_142, rfl⟩
theorem s0_143 : Nx code 143 (.iconst 3) 1 144 := ⟨at_143, rfl⟩
theorem s0_144 : Nx code 144 (.invokestatic 18) 3 147 := ⟨at_144, rfl⟩
theorem s0_147 : Nx code 147 (.aload 21) 2 149 := ⟨at_147, rfl⟩
theorem s0_149 : Nx code 149 (.iconst 0) 1 150 := ⟨at_149, rfl⟩
theorem s0_150 : Nx code 150 (.iconst 2) 1 151 := ⟨at_150, rfl⟩
theorem s0_151 : Nx code 151 (.invokestatic 18) 3 154 := ⟨at_151, rfl⟩
theorem s0_154 : Nx code 154 (.aload 21) 2 156 := ⟨at_154, rfl⟩
theorem s0_156 : Nx code 156 (.iconst 1) 1 157 := ⟨at_156, rfl⟩
theorem s0_157 : Nx code 157 (.iconst 3) 1 158 := ⟨at_157, rfl⟩
theorem s0_158 : Nx code 158 (.invokestatic 18) 3 161 := ⟨at_158, rfl⟩
theorem s0_161 : Nx code 161 (.aload 21) 2 163 := ⟨at_161, rfl⟩
theorem s0_163 : Nx code 163 (.iconst 1) 1 164 := ⟨at_163, rfl⟩
theorem s0_164 : Nx code 164 (.iconst 2) 1 165 := ⟨at_164, rfl⟩
theorem s0_165 : Nx code 165 (.invokestatic 18) 3 168 := ⟨at_165, rfl⟩
theorem s0_168 : Nx code 168 (.lload 11) 2 170 := ⟨at_168, rfl⟩
theorem s0_170 : Nx code 170 (.aload 21) 2 172 := ⟨at_170, rfl⟩
theorem s0_172 : Nx code 172 (.iconst 0) 1 173 := ⟨at_172, rfl⟩
theorem s0_173 : Nx code 173 (.laload) 1 174 := ⟨at_173, rfl⟩
theorem s0_174 : Nx code 174 (.lcmp) 1 175 := ⟨at_174, rfl⟩
theorem s0_175 : Bx code 175 (.ifCond .ne) 222 178 := ⟨(47), at_175, by decide, by decide, rfl⟩
theorem s0_178 : Nx code 178 (.lload 13) 2 180 := ⟨at_178, rfl⟩
theorem s0_180 : Nx code 180 (.aload 21) 2 182 := ⟨at_180, rfl⟩
theorem s0_182 : Nx code 182 (.iconst 1) 1 183 := ⟨at_182, rfl⟩
theorem s0_183 : Nx code 183 (.laload) 1 184 := ⟨at_183, rfl⟩
theorem s0_184 : Nx code 184 (.lcmp) 1 185 := ⟨at_184, rfl⟩
theorem s0_185 : Bx code 185 (.ifCond .ne) 222 188 := ⟨(37), at_185, by decide, by decide, rfl⟩
theorem s0_188 : Nx code 188 (.lload 15) 2 190 := ⟨at_188, rfl⟩
theorem s0_190 : Nx code 190 (.aload 21) 2 192 := ⟨at_190, rfl⟩
theorem s0_192 : Nx code 192 (.iconst 2) 1 193 := ⟨at_192, rfl⟩
theorem s0_193 : Nx code 193 (.laload) 1 194 := ⟨at_193, rfl⟩
theorem s0_194 : Nx code 194 (.lcmp) 1 195 := ⟨at_194, rfl⟩
theorem s0_195 : Bx code 195 (.ifCond .ne) 222 198 := ⟨(27), at_195, by decide, by decide, rfl⟩
theorem s0_198 : Nx code 198 (.lload 17) 2 200 := ⟨at_198, rfl⟩
theorem s0_200 : Nx code 200 (.aload 21) 2 202 := ⟨at_200, rfl⟩
theorem s0_202 : Nx code 202 (.iconst 3) 1 203 := ⟨at_202, rfl⟩
theorem s0_203 : Nx code 203 (.laload) 1 204 := ⟨at_203, rfl⟩
theorem s0_204 : Nx code 204 (.lcmp) 1 205 := ⟨at_204, rfl⟩
theorem s0_205 : Bx code 205 (.ifCond .ne) 222 208 := ⟨(17), at_205, by decide, by decide, rfl⟩
theorem s0_208 : Nx code 208 (.lload 19) 2 210 := ⟨at_208, rfl⟩
theorem s0_210 : Nx code 210 (.aload 21) 2 212 := ⟨at_210, rfl⟩
theorem s0_212 : Nx code 212 (.iconst 4) 1 213 := ⟨at_212, rfl⟩
theorem s0_213 : Nx code 213 (.laload) 1 214 := ⟨at_213, rfl⟩
theorem s0_214 : Nx code 214 (.lcmp) 1 215 := ⟨at_214, rfl⟩
theorem s0_215 : Bx code 215 (.ifCond .ne) 222 218 := ⟨(7), at_215, by decide, by decide, rfl⟩
theorem s0_218 : Nx code 218 (.iconst 1) 1 219 := ⟨at_218, rfl⟩
theorem s0_219 : Bx code 219 (.goto) 223 222 := ⟨(4), at_219, by decide, by decide, rfl⟩
theorem s0_223 : Nx code 223 (.ireturn) 1 224 := ⟨at_223, rfl⟩
set_option maxRecDepth 65536 in
set_option maxHeartbeats 40000000 in
theorem law_met (l : Launch) {Z : State} {a0 : Array Value} (hw : HW1 Z a0) (n0 : Nat) (p0 : Int64) (p1 : Int64) (p2 : Int64) (p3 : Int64) (p4 : Int64) : Met l Z KT n0 x code maxLocals ret room_1 #[(.long p0), (.long p1), (.long p2), (.long p3), (.long p4)] [] (fun v _ => v = some (.int 1)) := by
  refine Met.of (a0 := a0) (ls := #[.val (.long p0), .second, .val (.long p1), .second, .val (.long p2), .second, .val (.long p3), .second, .val (.long p4), .second, .unset, .unset, .unset, .unset, .unset, .unset, .unset, .unset, .unset, .unset, .unset, .unset]) (kok hw) (plainFor_of_name pn_5) (fun m => by first | (simp [entryFrame, mkF, argsToLocals, Value.category, maxLocals]; done) | rfl) (fun G H => ?_)
  refine H.new s0_0 (k_6 hw) rfl (by decide) (by decide) (i := 0) rfl (A' := [.inl (0, [.null, (.int (0 : Int32))])]) rfl (k' := 1) rfl (n' := 2) rfl ?_
  refine H.dup s0_3 rfl ?_
  refine H.callCD s0_4 (k_10 hw) (a_0 l hw n0) (argsL := []) (rest := [(.ref (n0 + 0))]) rfl rfl rfl rfl (leb rfl) (leb rfl) (leb rfl) (leb rfl) (st' := [(.ref (n0 + 0))]) rfl (k' := 2) rfl (n' := 18) rfl ?_
  refine H.astore s0_7 rfl (ls' := #[.val (.long p0), .second, .val (.long p1), .second, .val (.long p2), .second, .val (.long p3), .second, .val (.long p4), .second, .val (.ref (n0 + 0)), .unset, .unset, .unset, .unset, .unset, .unset, .unset, .unset, .unset, .unset, .unset]) rfl ?_
  refine H.aload s0_9 rfl rfl ?_
  refine H.lloadN s0_11 rfl ?_
  refine H.callV s0_12 (k_11 hw) (m_add0 l hw n0 p0) (i := 0) rfl (argsL := [(.long p0)]) (rest := []) rfl rfl rfl rfl (leb rfl) (leb rfl) (leb rfl) (leb rfl) ?_
  rintro _ _ ⟨rfl, a0_0, rfl, -, hc0⟩
  show G 15 #[.val (.long p0), .second, .val (.long p1), .second, .val (.long p2), .second, .val (.long p3), .second, .val (.long p4), .second, .val (.ref (n0 + 0)), .unset, .unset, .unset, .unset, .unset, .unset, .unset, .unset, .unset, .unset, .unset] [] [.inl (0, [(.ref (n0 + 1)), (.int (1 : Int32))]), .inr (.long, [(.long a0_0), (.long (0 : Int64)), (.long (0 : Int64)), (.long (0 : Int64)), (.long (0 : Int64)), (.long (0 : Int64)), (.long (0 : Int64)), (.long (0 : Int64)), (.long (0 : Int64)), (.long (0 : Int64)), (.long (0 : Int64)), (.long (0 : Int64)), (.long (0 : Int64)), (.long (0 : Int64)), (.long (0 : Int64)), (.long (0 : Int64))])] 2 18
  refine H.aload s0_15 rfl rfl ?_
  refine H.lloadN s0_17 rfl ?_
  refine H.callV s0_18 (k_11 hw) (m_add1 l hw n0 a0_0 p1) (i := 0) rfl (argsL := [(.long p1)]) (rest := []) rfl rfl rfl rfl (leb rfl) (leb rfl) (leb rfl) (leb rfl) ?_
  rintro _ _ ⟨rfl, a1_0, a1_1, rfl, ho1_0, hc1⟩
  show G 21 #[.val (.long p0), .second, .val (.long p1), .second, .val (.long p2), .second, .val (.long p3), .second, .val (.long p4), .second, .val (.ref (n0 + 0)), .unset, .unset, .unset, .unset, .unset, .unset, .unset, .unset, .unset, .unset, .unset] [] [.inl (0, [(.ref (n0 + 1)), (.int (2 : Int32))]), .inr (.long, [(.long a1_0), (.long a1_1), (.long (0 : Int64)), (.long (0 : Int64)), (.long (0 : Int64)), (.long (0 : Int64)), (.long (0 : Int64)), (.long (0 : Int64)), (.long (0 : Int64)), (.long (0 : Int64)), (.long (0 : Int64)), (.long (0 : Int64)), (.long (0 : Int64)), (.long (0 : Int64)), (.long (0 : Int64)), (.long (0 : Int64))])] 2 18
  refine H.aload s0_21 rfl rfl ?_
  refine H.lload s0_23 rfl ?_
  refine H.callV s0_25 (k_11 hw) (m_add2 l hw n0 a1_0 a1_1 p2 ho1_0) (i := 0) rfl (argsL := [(.long p2)]) (rest := []) rfl rfl rfl rfl (leb rfl) (leb rfl) (leb rfl) (leb rfl) ?_
  rintro _ _ ⟨rfl, a2_0, a2_1, a2_2, rfl, ⟨ho2_0, ho2_1⟩, hc2⟩
  show G 28 #[.val (.long p0), .second, .val (.long p1), .second, .val (.long p2), .second, .val (.long p3), .second, .val (.long p4), .second, .val (.ref (n0 + 0)), .unset, .unset, .unset, .unset, .unset, .unset, .unset, .unset, .unset, .unset, .unset] [] [.inl (0, [(.ref (n0 + 1)), (.int (3 : Int32))]), .inr (.long, [(.long a2_0), (.long a2_1), (.long a2_2), (.long (0 : Int64)), (.long (0 : Int64)), (.long (0 : Int64)), (.long (0 : Int64)), (.long (0 : Int64)), (.long (0 : Int64)), (.long (0 : Int64)), (.long (0 : Int64)), (.long (0 : Int64)), (.long (0 : Int64)), (.long (0 : Int64)), (.long (0 : Int64)), (.long (0 : Int64))])] 2 18
  refine H.aload s0_28 rfl rfl ?_
  refine H.lload s0_30 rfl ?_
  refine H.callV s0_32 (k_11 hw) (m_add3 l hw n0 a2_0 a2_1 a2_2 p3 ho2_0 ho2_1) (i := 0) rfl (argsL := [(.long p3)]) (rest := []) rfl rfl rfl rfl (leb rfl) (leb rfl) (leb rfl) (leb rfl) ?_
  rintro _ _ ⟨rfl, a3_0, a3_1, a3_2, a3_3, rfl, ⟨ho3_0, ho3_1, ho3_2⟩, hc3⟩
  show G 35 #[.val (.long p0), .second, .val (.long p1), .second, .val (.long p2), .second, .val (.long p3), .second, .val (.long p4), .second, .val (.ref (n0 + 0)), .unset, .unset, .unset, .unset, .unset, .unset, .unset, .unset, .unset, .unset, .unset] [] [.inl (0, [(.ref (n0 + 1)), (.int (4 : Int32))]), .inr (.long, [(.long a3_0), (.long a3_1), (.long a3_2), (.long a3_3), (.long (0 : Int64)), (.long (0 : Int64)), (.long (0 : Int64)), (.long (0 : Int64)), (.long (0 : Int64)), (.long (0 : Int64)), (.long (0 : Int64)), (.long (0 : Int64)), (.long (0 : Int64)), (.long (0 : Int64)), (.long (0 : Int64)), (.long (0 : Int64))])] 2 18
  refine H.aload s0_35 rfl rfl ?_
  refine H.lload s0_37 rfl ?_
  refine H.callV s0_39 (k_11 hw) (m_add4 l hw n0 a3_0 a3_1 a3_2 a3_3 p4 ho3_0 ho3_1 ho3_2) (i := 0) rfl (argsL := [(.long p4)]) (rest := []) rfl rfl rfl rfl (leb rfl) (leb rfl) (leb rfl) (leb rfl) ?_
  rintro _ _ ⟨rfl, a4_0, a4_1, a4_2, a4_3, a4_4, rfl, ⟨ho4_0, ho4_1, ho4_2, ho4_3⟩, hc4⟩
  show G 42 #[.val (.long p0), .second, .val (.long p1), .second, .val (.long p2), .second, .val (.long p3), .second, .val (.long p4), .second, .val (.ref (n0 + 0)), .unset, .unset, .unset, .unset, .unset, .unset, .unset, .unset, .unset, .unset, .unset] [] [.inl (0, [(.ref (n0 + 1)), (.int (5 : Int32))]), .inr (.long, [(.long a4_0), (.long a4_1), (.long a4_2), (.long a4_3), (.long a4_4), (.long (0 : Int64)), (.long (0 : Int64)), (.long (0 : Int64)), (.long (0 : Int64)), (.long (0 : Int64)), (.long (0 : Int64)), (.long (0 : Int64)), (.long (0 : Int64)), (.long (0 : Int64)), (.long (0 : Int64)), (.long (0 : Int64))])] 2 18
  refine H.aload s0_42 rfl rfl ?_
  refine H.callV s0_44 (k_12 hw) (m_poll5 l hw n0 a4_0 a4_1 a4_2 a4_3 a4_4 (0 : Int64) (0 : Int64) (0 : Int64) (0 : Int64) (0 : Int64) (0 : Int64) (0 : Int64) (0 : Int64) (0 : Int64) (0 : Int64) (0 : Int64) ho4_0 ho4_1 ho4_2 ho4_3) (i := 0) rfl (argsL := []) (rest := []) rfl rfl rfl rfl (leb rfl) (leb rfl) (leb rfl) (leb rfl) ?_
  rintro _ _ ⟨rfl, a5_0, a5_1, a5_2, a5_3, j5_4, j5_5, j5_6, j5_7, j5_8, j5_9, j5_10, j5_11, j5_12, j5_13, j5_14, j5_15, rfl, ⟨ho5_0, ho5_1, ho5_2, hm5⟩, hc5⟩
  show G 47 #[.val (.long p0), .second, .val (.long p1), .second, .val (.long p2), .second, .val (.long p3), .second, .val (.long p4), .second, .val (.ref (n0 + 0)), .unset, .unset, .unset, .unset, .unset, .unset, .unset, .unset, .unset, .unset, .unset] [(.long a4_0)] [.inl (0, [(.ref (n0 + 1)), (.int (4 : Int32))]), .inr (.long, [(.long a5_0), (.long a5_1), (.long a5_2), (.long a5_3), (.long j5_4), (.long j5_5), (.long j5_6), (.long j5_7), (.long j5_8), (.long j5_9), (.long j5_10), (.long j5_11), (.long j5_12), (.long j5_13), (.long j5_14), (.long j5_15)])] 2 18
  refine H.lstore s0_47 (ls' := #[.val (.long p0), .second, .val (.long p1), .second, .val (.long p2), .second, .val (.long p3), .second, .val (.long p4), .second, .val (.ref (n0 + 0)), .val (.long a4_0), .second, .unset, .unset, .unset, .unset, .unset, .unset, .unset, .unset, .unset]) rfl ?_
  refine H.aload s0_49 rfl rfl ?_
  refine H.callV s0_51 (k_12 hw) (m_poll4 l hw n0 a5_0 a5_1 a5_2 a5_3 j5_4 j5_5 j5_6 j5_7 j5_8 j5_9 j5_10 j5_11 j5_12 j5_13 j5_14 j5_15 ho5_0 ho5_1 ho5_2) (i := 0) rfl (argsL := []) (rest := []) rfl rfl rfl rfl (leb rfl) (leb rfl) (leb rfl) (leb rfl) ?_
  rintro _ _ ⟨rfl, a6_0, a6_1, a6_2, j6_3, j6_4, j6_5, j6_6, j6_7, j6_8, j6_9, j6_10, j6_11, j6_12, j6_13, j6_14, j6_15, rfl, ⟨ho6_0, ho6_1, hm6⟩, hc6⟩
  show G 54 #[.val (.long p0), .second, .val (.long p1), .second, .val (.long p2), .second, .val (.long p3), .second, .val (.long p4), .second, .val (.ref (n0 + 0)), .val (.long a4_0), .second, .unset, .unset, .unset, .unset, .unset, .unset, .unset, .unset, .unset] [(.long a5_0)] [.inl (0, [(.ref (n0 + 1)), (.int (3 : Int32))]), .inr (.long, [(.long a6_0), (.long a6_1), (.long a6_2), (.long j6_3), (.long j6_4), (.long j6_5), (.long j6_6), (.long j6_7), (.long j6_8), (.long j6_9), (.long j6_10), (.long j6_11), (.long j6_12), (.long j6_13), (.long j6_14), (.long j6_15)])] 2 18
  refine H.lstore s0_54 (ls' := #[.val (.long p0), .second, .val (.long p1), .second, .val (.long p2), .second, .val (.long p3), .second, .val (.long p4), .second, .val (.ref (n0 + 0)), .val (.long a4_0), .second, .val (.long a5_0), .second, .unset, .unset, .unset, .unset, .unset, .unset, .unset]) rfl ?_
  refine H.aload s0_56 rfl rfl ?_
  refine H.callV s0_58 (k_12 hw) (m_poll3 l hw n0 a6_0 a6_1 a6_2 j6_3 j6_4 j6_5 j6_6 j6_7 j6_8 j6_9 j6_10 j6_11 j6_12 j6_13 j6_14 j6_15 ho6_0 ho6_1) (i := 0) rfl (argsL := []) (rest := []) rfl rfl rfl rfl (leb rfl) (leb rfl) (leb rfl) (leb rfl) ?_
  rintro _ _ ⟨rfl, a7_0, a7_1, j7_2, j7_3, j7_4, j7_5, j7_6, j7_7, j7_8, j7_9, j7_10, j7_11, j7_12, j7_13, j7_14, j7_15, rfl, ⟨ho7_0, hm7⟩, hc7⟩
  show G 61 #[.val (.long p0), .second, .val (.long p1), .second, .val (.long p2), .second, .val (.long p3), .second, .val (.long p4), .second, .val (.ref (n0 + 0)), .val (.long a4_0), .second, .val (.long a5_0), .second, .unset, .unset, .unset, .unset, .unset, .unset, .unset] [(.long a6_0)] [.inl (0, [(.ref (n0 + 1)), (.int (2 : Int32))]), .inr (.long, [(.long a7_0), (.long a7_1), (.long j7_2), (.long j7_3), (.long j7_4), (.long j7_5), (.long j7_6), (.long j7_7), (.long j7_8), (.long j7_9), (.long j7_10), (.long j7_11), (.long j7_12), (.long j7_13), (.long j7_14), (.long j7_15)])] 2 18
  refine H.lstore s0_61 (ls' := #[.val (.long p0), .second, .val (.long p1), .second, .val (.long p2), .second, .val (.long p3), .second, .val (.long p4), .second, .val (.ref (n0 + 0)), .val (.long a4_0), .second, .val (.long a5_0), .second, .val (.long a6_0), .second, .unset, .unset, .unset, .unset, .unset]) rfl ?_
  refine H.aload s0_63 rfl rfl ?_
  refine H.callV s0_65 (k_12 hw) (m_poll2 l hw n0 a7_0 a7_1 j7_2 j7_3 j7_4 j7_5 j7_6 j7_7 j7_8 j7_9 j7_10 j7_11 j7_12 j7_13 j7_14 j7_15 ho7_0) (i := 0) rfl (argsL := []) (rest := []) rfl rfl rfl rfl (leb rfl) (leb rfl) (leb rfl) (leb rfl) ?_
  rintro _ _ ⟨rfl, a8_0, j8_1, j8_2, j8_3, j8_4, j8_5, j8_6, j8_7, j8_8, j8_9, j8_10, j8_11, j8_12, j8_13, j8_14, j8_15, rfl, hm8, hc8⟩
  show G 68 #[.val (.long p0), .second, .val (.long p1), .second, .val (.long p2), .second, .val (.long p3), .second, .val (.long p4), .second, .val (.ref (n0 + 0)), .val (.long a4_0), .second, .val (.long a5_0), .second, .val (.long a6_0), .second, .unset, .unset, .unset, .unset, .unset] [(.long a7_0)] [.inl (0, [(.ref (n0 + 1)), (.int (1 : Int32))]), .inr (.long, [(.long a8_0), (.long j8_1), (.long j8_2), (.long j8_3), (.long j8_4), (.long j8_5), (.long j8_6), (.long j8_7), (.long j8_8), (.long j8_9), (.long j8_10), (.long j8_11), (.long j8_12), (.long j8_13), (.long j8_14), (.long j8_15)])] 2 18
  refine H.lstore s0_68 (ls' := #[.val (.long p0), .second, .val (.long p1), .second, .val (.long p2), .second, .val (.long p3), .second, .val (.long p4), .second, .val (.ref (n0 + 0)), .val (.long a4_0), .second, .val (.long a5_0), .second, .val (.long a6_0), .second, .val (.long a7_0), .second, .unset, .unset, .unset]) rfl ?_
  refine H.aload s0_70 rfl rfl ?_
  refine H.callV s0_72 (k_12 hw) (m_poll1 l hw n0 a8_0 j8_1 j8_2 j8_3 j8_4 j8_5 j8_6 j8_7 j8_8 j8_9 j8_10 j8_11 j8_12 j8_13 j8_14 j8_15) (i := 0) rfl (argsL := []) (rest := []) rfl rfl rfl rfl (leb rfl) (leb rfl) (leb rfl) (leb rfl) ?_
  rintro _ _ ⟨rfl, j9_0, j9_1, j9_2, j9_3, j9_4, j9_5, j9_6, j9_7, j9_8, j9_9, j9_10, j9_11, j9_12, j9_13, j9_14, j9_15, rfl, -, hc9⟩
  show G 75 #[.val (.long p0), .second, .val (.long p1), .second, .val (.long p2), .second, .val (.long p3), .second, .val (.long p4), .second, .val (.ref (n0 + 0)), .val (.long a4_0), .second, .val (.long a5_0), .second, .val (.long a6_0), .second, .val (.long a7_0), .second, .unset, .unset, .unset] [(.long a8_0)] [.inl (0, [(.ref (n0 + 1)), (.int (0 : Int32))]), .inr (.long, [(.long j9_0), (.long j9_1), (.long j9_2), (.long j9_3), (.long j9_4), (.long j9_5), (.long j9_6), (.long j9_7), (.long j9_8), (.long j9_9), (.long j9_10), (.long j9_11), (.long j9_12), (.long j9_13), (.long j9_14), (.long j9_15)])] 2 18
  refine H.lstore s0_75 (ls' := #[.val (.long p0), .second, .val (.long p1), .second, .val (.long p2), .second, .val (.long p3), .second, .val (.long p4), .second, .val (.ref (n0 + 0)), .val (.long a4_0), .second, .val (.long a5_0), .second, .val (.long a6_0), .second, .val (.long a7_0), .second, .val (.long a8_0), .second, .unset]) rfl ?_
  refine H.iconst s0_77 (v := (5 : Int32)) (by decide) ?_
  refine H.newarray s0_78 (ty := .long) rfl (k_8 hw) (N := 5) (cap := 5) (by decide) rfl (by decide) (by decide) rfl (by decide) (by decide) (i := 2) rfl (A' := [.inl (0, [(.ref (n0 + 1)), (.int (0 : Int32))]), .inr (.long, [(.long j9_0), (.long j9_1), (.long j9_2), (.long j9_3), (.long j9_4), (.long j9_5), (.long j9_6), (.long j9_7), (.long j9_8), (.long j9_9), (.long j9_10), (.long j9_11), (.long j9_12), (.long j9_13), (.long j9_14), (.long j9_15)]), .inr (.long, [(.long (0 : Int64)), (.long (0 : Int64)), (.long (0 : Int64)), (.long (0 : Int64)), (.long (0 : Int64))])]) rfl (k' := 3) rfl (n' := 23) rfl ?_
  refine H.dup s0_80 rfl ?_
  refine H.iconst s0_81 (v := (0 : Int32)) (by decide) ?_
  refine H.lloadN s0_82 rfl ?_
  refine H.lastore s0_83 (i := 2) (j := 0) rfl (by decide) (ltb rfl)  (A' := [.inl (0, [(.ref (n0 + 1)), (.int (0 : Int32))]), .inr (.long, [(.long j9_0), (.long j9_1), (.long j9_2), (.long j9_3), (.long j9_4), (.long j9_5), (.long j9_6), (.long j9_7), (.long j9_8), (.long j9_9), (.long j9_10), (.long j9_11), (.long j9_12), (.long j9_13), (.long j9_14), (.long j9_15)]), .inr (.long, [(.long p0), (.long (0 : Int64)), (.long (0 : Int64)), (.long (0 : Int64)), (.long (0 : Int64))])]) rfl ?_
  refine H.dup s0_84 rfl ?_
  refine H.iconst s0_85 (v := (1 : Int32)) (by decide) ?_
  refine H.lloadN s0_86 rfl ?_
  refine H.lastore s0_87 (i := 2) (j := 1) rfl (by decide) (ltb rfl)  (A' := [.inl (0, [(.ref (n0 + 1)), (.int (0 : Int32))]), .inr (.long, [(.long j9_0), (.long j9_1), (.long j9_2), (.long j9_3), (.long j9_4), (.long j9_5), (.long j9_6), (.long j9_7), (.long j9_8), (.long j9_9), (.long j9_10), (.long j9_11), (.long j9_12), (.long j9_13), (.long j9_14), (.long j9_15)]), .inr (.long, [(.long p0), (.long p1), (.long (0 : Int64)), (.long (0 : Int64)), (.long (0 : Int64))])]) rfl ?_
  refine H.dup s0_88 rfl ?_
  refine H.iconst s0_89 (v := (2 : Int32)) (by decide) ?_
  refine H.lload s0_90 rfl ?_
  refine H.lastore s0_92 (i := 2) (j := 2) rfl (by decide) (ltb rfl)  (A' := [.inl (0, [(.ref (n0 + 1)), (.int (0 : Int32))]), .inr (.long, [(.long j9_0), (.long j9_1), (.long j9_2), (.long j9_3), (.long j9_4), (.long j9_5), (.long j9_6), (.long j9_7), (.long j9_8), (.long j9_9), (.long j9_10), (.long j9_11), (.long j9_12), (.long j9_13), (.long j9_14), (.long j9_15)]), .inr (.long, [(.long p0), (.long p1), (.long p2), (.long (0 : Int64)), (.long (0 : Int64))])]) rfl ?_
  refine H.dup s0_93 rfl ?_
  refine H.iconst s0_94 (v := (3 : Int32)) (by decide) ?_
  refine H.lload s0_95 rfl ?_
  refine H.lastore s0_97 (i := 2) (j := 3) rfl (by decide) (ltb rfl)  (A' := [.inl (0, [(.ref (n0 + 1)), (.int (0 : Int32))]), .inr (.long, [(.long j9_0), (.long j9_1), (.long j9_2), (.long j9_3), (.long j9_4), (.long j9_5), (.long j9_6), (.long j9_7), (.long j9_8), (.long j9_9), (.long j9_10), (.long j9_11), (.long j9_12), (.long j9_13), (.long j9_14), (.long j9_15)]), .inr (.long, [(.long p0), (.long p1), (.long p2), (.long p3), (.long (0 : Int64))])]) rfl ?_
  refine H.dup s0_98 rfl ?_
  refine H.iconst s0_99 (v := (4 : Int32)) (by decide) ?_
  refine H.lload s0_100 rfl ?_
  refine H.lastore s0_102 (i := 2) (j := 4) rfl (by decide) (ltb rfl)  (A' := [.inl (0, [(.ref (n0 + 1)), (.int (0 : Int32))]), .inr (.long, [(.long j9_0), (.long j9_1), (.long j9_2), (.long j9_3), (.long j9_4), (.long j9_5), (.long j9_6), (.long j9_7), (.long j9_8), (.long j9_9), (.long j9_10), (.long j9_11), (.long j9_12), (.long j9_13), (.long j9_14), (.long j9_15)]), .inr (.long, [(.long p0), (.long p1), (.long p2), (.long p3), (.long p4)])]) rfl ?_
  refine H.astore s0_103 rfl (ls' := #[.val (.long p0), .second, .val (.long p1), .second, .val (.long p2), .second, .val (.long p3), .second, .val (.long p4), .second, .val (.ref (n0 + 0)), .val (.long a4_0), .second, .val (.long a5_0), .second, .val (.long a6_0), .second, .val (.long a7_0), .second, .val (.long a8_0), .second, .val (.ref (n0 + 2))]) rfl ?_
  refine H.aload s0_105 rfl rfl ?_
  refine H.iconst s0_107 (v := (0 : Int32)) (by decide) ?_
  refine H.iconst s0_108 (v := (1 : Int32)) (by decide) ?_
  refine H.callS s0_109 (k_13 hw) (m_cx01 l hw n0 [.inl (0, [(.ref (n0 + 1)), (.int (0 : Int32))]), .inr (.long, [(.long j9_0), (.long j9_1), (.long j9_2), (.long j9_3), (.long j9_4), (.long j9_5), (.long j9_6), (.long j9_7), (.long j9_8), (.long j9_9), (.long j9_10), (.long j9_11), (.long j9_12), (.long j9_13), (.long j9_14), (.long j9_15)]), .inr (.long, [(.long p0), (.long p1), (.long p2), (.long p3), (.long p4)])] 2 p0 p1 p2 p3 p4 rfl) (argsL := [(.ref (n0 + 2)), (.int (0 : Int32)), (.int (1 : Int32))]) (rest := []) rfl rfl rfl rfl (leb rfl) (leb rfl) (leb rfl) (leb rfl) ?_
  rintro _ _ ⟨rfl, c0_0, c0_1, rfl, hl0, hd0⟩
  have hk0 : ∀ z : Int64, [c0_0, c0_1, p2, p3, p4].count z = [p0, p1, p2, p3, p4].count z := by
    intro z
    rcases hd0 with ⟨rfl, rfl⟩ | ⟨rfl, rfl⟩ <;> first | rfl | (simp only [List.count_cons, List.count_nil]; ac_rfl)
  have hi0 : (c0_0.toInt = p0.toInt ∧ c0_1.toInt = p1.toInt) ∨ (c0_0.toInt = p1.toInt ∧ c0_1.toInt = p0.toInt) := by
    rcases hd0 with ⟨rfl, rfl⟩ | ⟨rfl, rfl⟩
    · exact Or.inl ⟨rfl, rfl⟩
    · exact Or.inr ⟨rfl, rfl⟩
  have hf0_01 : c0_0.toInt ≤ c0_1.toInt := by clear hc0 hc1 hc2 hc3 hc4 hc5 hc6 hc7 hc8 hc9; omega
  show G 112 #[.val (.long p0), .second, .val (.long p1), .second, .val (.long p2), .second, .val (.long p3), .second, .val (.long p4), .second, .val (.ref (n0 + 0)), .val (.long a4_0), .second, .val (.long a5_0), .second, .val (.long a6_0), .second, .val (.long a7_0), .second, .val (.long a8_0), .second, .val (.ref (n0 + 2))] [] [.inl (0, [(.ref (n0 + 1)), (.int (0 : Int32))]), .inr (.long, [(.long j9_0), (.long j9_1), (.long j9_2), (.long j9_3), (.long j9_4), (.long j9_5), (.long j9_6), (.long j9_7), (.long j9_8), (.long j9_9), (.long j9_10), (.long j9_11), (.long j9_12), (.long j9_13), (.long j9_14), (.long j9_15)]), .inr (.long, [(.long c0_0), (.long c0_1), (.long p2), (.long p3), (.long p4)])] 3 23
  refine H.aload s0_112 rfl rfl ?_
  refine H.iconst s0_114 (v := (3 : Int32)) (by decide) ?_
  refine H.iconst s0_115 (v := (4 : Int32)) (by decide) ?_
  refine H.callS s0_116 (k_13 hw) (m_cx34 l hw n0 [.inl (0, [(.ref (n0 + 1)), (.int (0 : Int32))]), .inr (.long, [(.long j9_0), (.long j9_1), (.long j9_2), (.long j9_3), (.long j9_4), (.long j9_5), (.long j9_6), (.long j9_7), (.long j9_8), (.long j9_9), (.long j9_10), (.long j9_11), (.long j9_12), (.long j9_13), (.long j9_14), (.long j9_15)]), .inr (.long, [(.long c0_0), (.long c0_1), (.long p2), (.long p3), (.long p4)])] 2 c0_0 c0_1 p2 p3 p4 rfl) (argsL := [(.ref (n0 + 2)), (.int (3 : Int32)), (.int (4 : Int32))]) (rest := []) rfl rfl rfl rfl (leb rfl) (leb rfl) (leb rfl) (leb rfl) ?_
  rintro _ _ ⟨rfl, c1_3, c1_4, rfl, hl1, hd1⟩
  have hk1 : ∀ z : Int64, [c0_0, c0_1, p2, c1_3, c1_4].count z = [c0_0, c0_1, p2, p3, p4].count z := by
    intro z
    rcases hd1 with ⟨rfl, rfl⟩ | ⟨rfl, rfl⟩ <;> first | rfl | (simp only [List.count_cons, List.count_nil]; ac_rfl)
  have hi1 : (c1_3.toInt = p3.toInt ∧ c1_4.toInt = p4.toInt) ∨ (c1_3.toInt = p4.toInt ∧ c1_4.toInt = p3.toInt) := by
    rcases hd1 with ⟨rfl, rfl⟩ | ⟨rfl, rfl⟩
    · exact Or.inl ⟨rfl, rfl⟩
    · exact Or.inr ⟨rfl, rfl⟩
  have hf1_01 : c0_0.toInt ≤ c0_1.toInt := by clear hc0 hc1 hc2 hc3 hc4 hc5 hc6 hc7 hc8 hc9; omega
  have hf1_34 : c1_3.toInt ≤ c1_4.toInt := by clear hc0 hc1 hc2 hc3 hc4 hc5 hc6 hc7 hc8 hc9; omega
  show G 119 #[.val (.long p0), .second, .val (.long p1), .second, .val (.long p2), .second, .val (.long p3), .second, .val (.long p4), .second, .val (.ref (n0 + 0)), .val (.long a4_0), .second, .val (.long a5_0), .second, .val (.long a6_0), .second, .val (.long a7_0), .second, .val (.long a8_0), .second, .val (.ref (n0 + 2))] [] [.inl (0, [(.ref (n0 + 1)), (.int (0 : Int32))]), .inr (.long, [(.long j9_0), (.long j9_1), (.long j9_2), (.long j9_3), (.long j9_4), (.long j9_5), (.long j9_6), (.long j9_7), (.long j9_8), (.long j9_9), (.long j9_10), (.long j9_11), (.long j9_12), (.long j9_13), (.long j9_14), (.long j9_15)]), .inr (.long, [(.long c0_0), (.long c0_1), (.long p2), (.long c1_3), (.long c1_4)])] 3 23
  refine H.aload s0_119 rfl rfl ?_
  refine H.iconst s0_121 (v := (2 : Int32)) (by decide) ?_
  refine H.iconst s0_122 (v := (4 : Int32)) (by decide) ?_
  refine H.callS s0_123 (k_13 hw) (m_cx24 l hw n0 [.inl (0, [(.ref (n0 + 1)), (.int (0 : Int32))]), .inr (.long, [(.long j9_0), (.long j9_1), (.long j9_2), (.long j9_3), (.long j9_4), (.long j9_5), (.long j9_6), (.long j9_7), (.long j9_8), (.long j9_9), (.long j9_10), (.long j9_11), (.long j9_12), (.long j9_13), (.long j9_14), (.long j9_15)]), .inr (.long, [(.long c0_0), (.long c0_1), (.long p2), (.long c1_3), (.long c1_4)])] 2 c0_0 c0_1 p2 c1_3 c1_4 rfl) (argsL := [(.ref (n0 + 2)), (.int (2 : Int32)), (.int (4 : Int32))]) (rest := []) rfl rfl rfl rfl (leb rfl) (leb rfl) (leb rfl) (leb rfl) ?_
  rintro _ _ ⟨rfl, c2_2, c2_4, rfl, hl2, hd2⟩
  have hk2 : ∀ z : Int64, [c0_0, c0_1, c2_2, c1_3, c2_4].count z = [c0_0, c0_1, p2, c1_3, c1_4].count z := by
    intro z
    rcases hd2 with ⟨rfl, rfl⟩ | ⟨rfl, rfl⟩ <;> first | rfl | (simp only [List.count_cons, List.count_nil]; ac_rfl)
  have hi2 : (c2_2.toInt = p2.toInt ∧ c2_4.toInt = c1_4.toInt) ∨ (c2_2.toInt = c1_4.toInt ∧ c2_4.toInt = p2.toInt) := by
    rcases hd2 with ⟨rfl, rfl⟩ | ⟨rfl, rfl⟩
    · exact Or.inl ⟨rfl, rfl⟩
    · exact Or.inr ⟨rfl, rfl⟩
  have hf2_01 : c0_0.toInt ≤ c0_1.toInt := by clear hc0 hc1 hc2 hc3 hc4 hc5 hc6 hc7 hc8 hc9; omega
  have hf2_34 : c1_3.toInt ≤ c2_4.toInt := by clear hc0 hc1 hc2 hc3 hc4 hc5 hc6 hc7 hc8 hc9; omega
  have hf2_24 : c2_2.toInt ≤ c2_4.toInt := by clear hc0 hc1 hc2 hc3 hc4 hc5 hc6 hc7 hc8 hc9; omega
  show G 126 #[.val (.long p0), .second, .val (.long p1), .second, .val (.long p2), .second, .val (.long p3), .second, .val (.long p4), .second, .val (.ref (n0 + 0)), .val (.long a4_0), .second, .val (.long a5_0), .second, .val (.long a6_0), .second, .val (.long a7_0), .second, .val (.long a8_0), .second, .val (.ref (n0 + 2))] [] [.inl (0, [(.ref (n0 + 1)), (.int (0 : Int32))]), .inr (.long, [(.long j9_0), (.long j9_1), (.long j9_2), (.long j9_3), (.long j9_4), (.long j9_5), (.long j9_6), (.long j9_7), (.long j9_8), (.long j9_9), (.long j9_10), (.long j9_11), (.long j9_12), (.long j9_13), (.long j9_14), (.long j9_15)]), .inr (.long, [(.long c0_0), (.long c0_1), (.long c2_2), (.long c1_3), (.long c2_4)])] 3 23
  refine H.aload s0_126 rfl rfl ?_
  refine H.iconst s0_128 (v := (2 : Int32)) (by decide) ?_
  refine H.iconst s0_129 (v := (3 : Int32)) (by decide) ?_
  refine H.callS s0_130 (k_13 hw) (m_cx23 l hw n0 [.inl (0, [(.ref (n0 + 1)), (.int (0 : Int32))]), .inr (.long, [(.long j9_0), (.long j9_1), (.long j9_2), (.long j9_3), (.long j9_4), (.long j9_5), (.long j9_6), (.long j9_7), (.long j9_8), (.long j9_9), (.long j9_10), (.long j9_11), (.long j9_12), (.long j9_13), (.long j9_14), (.long j9_15)]), .inr (.long, [(.long c0_0), (.long c0_1), (.long c2_2), (.long c1_3), (.long c2_4)])] 2 c0_0 c0_1 c2_2 c1_3 c2_4 rfl) (argsL := [(.ref (n0 + 2)), (.int (2 : Int32)), (.int (3 : Int32))]) (rest := []) rfl rfl rfl rfl (leb rfl) (leb rfl) (leb rfl) (leb rfl) ?_
  rintro _ _ ⟨rfl, c3_2, c3_3, rfl, hl3, hd3⟩
  have hk3 : ∀ z : Int64, [c0_0, c0_1, c3_2, c3_3, c2_4].count z = [c0_0, c0_1, c2_2, c1_3, c2_4].count z := by
    intro z
    rcases hd3 with ⟨rfl, rfl⟩ | ⟨rfl, rfl⟩ <;> first | rfl | (simp only [List.count_cons, List.count_nil]; ac_rfl)
  have hi3 : (c3_2.toInt = c2_2.toInt ∧ c3_3.toInt = c1_3.toInt) ∨ (c3_2.toInt = c1_3.toInt ∧ c3_3.toInt = c2_2.toInt) := by
    rcases hd3 with ⟨rfl, rfl⟩ | ⟨rfl, rfl⟩
    · exact Or.inl ⟨rfl, rfl⟩
    · exact Or.inr ⟨rfl, rfl⟩
  have hf3_01 : c0_0.toInt ≤ c0_1.toInt := by clear hc0 hc1 hc2 hc3 hc4 hc5 hc6 hc7 hc8 hc9; omega
  have hf3_23 : c3_2.toInt ≤ c3_3.toInt := by clear hc0 hc1 hc2 hc3 hc4 hc5 hc6 hc7 hc8 hc9; omega
  have hf3_34 : c3_3.toInt ≤ c2_4.toInt := by clear hc0 hc1 hc2 hc3 hc4 hc5 hc6 hc7 hc8 hc9; omega
  show G 133 #[.val (.long p0), .second, .val (.long p1), .second, .val (.long p2), .second, .val (.long p3), .second, .val (.long p4), .second, .val (.ref (n0 + 0)), .val (.long a4_0), .second, .val (.long a5_0), .second, .val (.long a6_0), .second, .val (.long a7_0), .second, .val (.long a8_0), .second, .val (.ref (n0 + 2))] [] [.inl (0, [(.ref (n0 + 1)), (.int (0 : Int32))]), .inr (.long, [(.long j9_0), (.long j9_1), (.long j9_2), (.long j9_3), (.long j9_4), (.long j9_5), (.long j9_6), (.long j9_7), (.long j9_8), (.long j9_9), (.long j9_10), (.long j9_11), (.long j9_12), (.long j9_13), (.long j9_14), (.long j9_15)]), .inr (.long, [(.long c0_0), (.long c0_1), (.long c3_2), (.long c3_3), (.long c2_4)])] 3 23
  refine H.aload s0_133 rfl rfl ?_
  refine H.iconst s0_135 (v := (1 : Int32)) (by decide) ?_
  refine H.iconst s0_136 (v := (4 : Int32)) (by decide) ?_
  refine H.callS s0_137 (k_13 hw) (m_cx14 l hw n0 [.inl (0, [(.ref (n0 + 1)), (.int (0 : Int32))]), .inr (.long, [(.long j9_0), (.long j9_1), (.long j9_2), (.long j9_3), (.long j9_4), (.long j9_5), (.long j9_6), (.long j9_7), (.long j9_8), (.long j9_9), (.long j9_10), (.long j9_11), (.long j9_12), (.long j9_13), (.long j9_14), (.long j9_15)]), .inr (.long, [(.long c0_0), (.long c0_1), (.long c3_2), (.long c3_3), (.long c2_4)])] 2 c0_0 c0_1 c3_2 c3_3 c2_4 rfl) (argsL := [(.ref (n0 + 2)), (.int (1 : Int32)), (.int (4 : Int32))]) (rest := []) rfl rfl rfl rfl (leb rfl) (leb rfl) (leb rfl) (leb rfl) ?_
  rintro _ _ ⟨rfl, c4_1, c4_4, rfl, hl4, hd4⟩
  have hk4 : ∀ z : Int64, [c0_0, c4_1, c3_2, c3_3, c4_4].count z = [c0_0, c0_1, c3_2, c3_3, c2_4].count z := by
    intro z
    rcases hd4 with ⟨rfl, rfl⟩ | ⟨rfl, rfl⟩ <;> first | rfl | (simp only [List.count_cons, List.count_nil]; ac_rfl)
  have hi4 : (c4_1.toInt = c0_1.toInt ∧ c4_4.toInt = c2_4.toInt) ∨ (c4_1.toInt = c2_4.toInt ∧ c4_4.toInt = c0_1.toInt) := by
    rcases hd4 with ⟨rfl, rfl⟩ | ⟨rfl, rfl⟩
    · exact Or.inl ⟨rfl, rfl⟩
    · exact Or.inr ⟨rfl, rfl⟩
  have hf4_23 : c3_2.toInt ≤ c3_3.toInt := by clear hc0 hc1 hc2 hc3 hc4 hc5 hc6 hc7 hc8 hc9; omega
  have hf4_34 : c3_3.toInt ≤ c4_4.toInt := by clear hc0 hc1 hc2 hc3 hc4 hc5 hc6 hc7 hc8 hc9; omega
  have hf4_04 : c0_0.toInt ≤ c4_4.toInt := by clear hc0 hc1 hc2 hc3 hc4 hc5 hc6 hc7 hc8 hc9; omega
  have hf4_14 : c4_1.toInt ≤ c4_4.toInt := by clear hc0 hc1 hc2 hc3 hc4 hc5 hc6 hc7 hc8 hc9; omega
  show G 140 #[.val (.long p0), .second, .val (.long p1), .second, .val (.long p2), .second, .val (.long p3), .second, .val (.long p4), .second, .val (.ref (n0 + 0)), .val (.long a4_0), .second, .val (.long a5_0), .second, .val (.long a6_0), .second, .val (.long a7_0), .second, .val (.long a8_0), .second, .val (.ref (n0 + 2))] [] [.inl (0, [(.ref (n0 + 1)), (.int (0 : Int32))]), .inr (.long, [(.long j9_0), (.long j9_1), (.long j9_2), (.long j9_3), (.long j9_4), (.long j9_5), (.long j9_6), (.long j9_7), (.long j9_8), (.long j9_9), (.long j9_10), (.long j9_11), (.long j9_12), (.long j9_13), (.long j9_14), (.long j9_15)]), .inr (.long, [(.long c0_0), (.long c4_1), (.long c3_2), (.long c3_3), (.long c4_4)])] 3 23
  refine H.aload s0_140 rfl rfl ?_
  refine H.iconst s0_142 (v := (0 : Int32)) (by decide) ?_
  refine H.iconst s0_143 (v := (3 : Int32)) (by decide) ?_
  refine H.callS s0_144 (k_13 hw) (m_cx03 l hw n0 [.inl (0, [(.ref (n0 + 1)), (.int (0 : Int32))]), .inr (.long, [(.long j9_0), (.long j9_1), (.long j9_2), (.long j9_3), (.long j9_4), (.long j9_5), (.long j9_6), (.long j9_7), (.long j9_8), (.long j9_9), (.long j9_10), (.long j9_11), (.long j9_12), (.long j9_13), (.long j9_14), (.long j9_15)]), .inr (.long, [(.long c0_0), (.long c4_1), (.long c3_2), (.long c3_3), (.long c4_4)])] 2 c0_0 c4_1 c3_2 c3_3 c4_4 rfl) (argsL := [(.ref (n0 + 2)), (.int (0 : Int32)), (.int (3 : Int32))]) (rest := []) rfl rfl rfl rfl (leb rfl) (leb rfl) (leb rfl) (leb rfl) ?_
  rintro _ _ ⟨rfl, c5_0, c5_3, rfl, hl5, hd5⟩
  have hk5 : ∀ z : Int64, [c5_0, c4_1, c3_2, c5_3, c4_4].count z = [c0_0, c4_1, c3_2, c3_3, c4_4].count z := by
    intro z
    rcases hd5 with ⟨rfl, rfl⟩ | ⟨rfl, rfl⟩ <;> first | rfl | (simp only [List.count_cons, List.count_nil]; ac_rfl)
  have hi5 : (c5_0.toInt = c0_0.toInt ∧ c5_3.toInt = c3_3.toInt) ∨ (c5_0.toInt = c3_3.toInt ∧ c5_3.toInt = c0_0.toInt) := by
    rcases hd5 with ⟨rfl, rfl⟩ | ⟨rfl, rfl⟩
    · exact Or.inl ⟨rfl, rfl⟩
    · exact Or.inr ⟨rfl, rfl⟩
  have hf5_03 : c5_0.toInt ≤ c5_3.toInt := by clear hc0 hc1 hc2 hc3 hc4 hc5 hc6 hc7 hc8 hc9; omega
  have hf5_23 : c3_2.toInt ≤ c5_3.toInt := by clear hc0 hc1 hc2 hc3 hc4 hc5 hc6 hc7 hc8 hc9; omega
  have hf5_34 : c5_3.toInt ≤ c4_4.toInt := by clear hc0 hc1 hc2 hc3 hc4 hc5 hc6 hc7 hc8 hc9; omega
  have hf5_14 : c4_1.toInt ≤ c4_4.toInt := by clear hc0 hc1 hc2 hc3 hc4 hc5 hc6 hc7 hc8 hc9; omega
  have hf5_01 : c5_0.toInt ≤ c4_1.toInt := by clear hc0 hc1 hc2 hc3 hc4 hc5 hc6 hc7 hc8 hc9; omega
  show G 147 #[.val (.long p0), .second, .val (.long p1), .second, .val (.long p2), .second, .val (.long p3), .second, .val (.long p4), .second, .val (.ref (n0 + 0)), .val (.long a4_0), .second, .val (.long a5_0), .second, .val (.long a6_0), .second, .val (.long a7_0), .second, .val (.long a8_0), .second, .val (.ref (n0 + 2))] [] [.inl (0, [(.ref (n0 + 1)), (.int (0 : Int32))]), .inr (.long, [(.long j9_0), (.long j9_1), (.long j9_2), (.long j9_3), (.long j9_4), (.long j9_5), (.long j9_6), (.long j9_7), (.long j9_8), (.long j9_9), (.long j9_10), (.long j9_11), (.long j9_12), (.long j9_13), (.long j9_14), (.long j9_15)]), .inr (.long, [(.long c5_0), (.long c4_1), (.long c3_2), (.long c5_3), (.long c4_4)])] 3 23
  refine H.aload s0_147 rfl rfl ?_
  refine H.iconst s0_149 (v := (0 : Int32)) (by decide) ?_
  refine H.iconst s0_150 (v := (2 : Int32)) (by decide) ?_
  refine H.callS s0_151 (k_13 hw) (m_cx02 l hw n0 [.inl (0, [(.ref (n0 + 1)), (.int (0 : Int32))]), .inr (.long, [(.long j9_0), (.long j9_1), (.long j9_2), (.long j9_3), (.long j9_4), (.long j9_5), (.long j9_6), (.long j9_7), (.long j9_8), (.long j9_9), (.long j9_10), (.long j9_11), (.long j9_12), (.long j9_13), (.long j9_14), (.long j9_15)]), .inr (.long, [(.long c5_0), (.long c4_1), (.long c3_2), (.long c5_3), (.long c4_4)])] 2 c5_0 c4_1 c3_2 c5_3 c4_4 rfl) (argsL := [(.ref (n0 + 2)), (.int (0 : Int32)), (.int (2 : Int32))]) (rest := []) rfl rfl rfl rfl (leb rfl) (leb rfl) (leb rfl) (leb rfl) ?_
  rintro _ _ ⟨rfl, c6_0, c6_2, rfl, hl6, hd6⟩
  have hk6 : ∀ z : Int64, [c6_0, c4_1, c6_2, c5_3, c4_4].count z = [c5_0, c4_1, c3_2, c5_3, c4_4].count z := by
    intro z
    rcases hd6 with ⟨rfl, rfl⟩ | ⟨rfl, rfl⟩ <;> first | rfl | (simp only [List.count_cons, List.count_nil]; ac_rfl)
  have hi6 : (c6_0.toInt = c5_0.toInt ∧ c6_2.toInt = c3_2.toInt) ∨ (c6_0.toInt = c3_2.toInt ∧ c6_2.toInt = c5_0.toInt) := by
    rcases hd6 with ⟨rfl, rfl⟩ | ⟨rfl, rfl⟩
    · exact Or.inl ⟨rfl, rfl⟩
    · exact Or.inr ⟨rfl, rfl⟩
  have hf6_01 : c6_0.toInt ≤ c4_1.toInt := by clear hc0 hc1 hc2 hc3 hc4 hc5 hc6 hc7 hc8 hc9; omega
  have hf6_02 : c6_0.toInt ≤ c6_2.toInt := by clear hc0 hc1 hc2 hc3 hc4 hc5 hc6 hc7 hc8 hc9; omega
  have hf6_23 : c6_2.toInt ≤ c5_3.toInt := by clear hc0 hc1 hc2 hc3 hc4 hc5 hc6 hc7 hc8 hc9; omega
  have hf6_34 : c5_3.toInt ≤ c4_4.toInt := by clear hc0 hc1 hc2 hc3 hc4 hc5 hc6 hc7 hc8 hc9; omega
  have hf6_14 : c4_1.toInt ≤ c4_4.toInt := by clear hc0 hc1 hc2 hc3 hc4 hc5 hc6 hc7 hc8 hc9; omega
  show G 154 #[.val (.long p0), .second, .val (.long p1), .second, .val (.long p2), .second, .val (.long p3), .second, .val (.long p4), .second, .val (.ref (n0 + 0)), .val (.long a4_0), .second, .val (.long a5_0), .second, .val (.long a6_0), .second, .val (.long a7_0), .second, .val (.long a8_0), .second, .val (.ref (n0 + 2))] [] [.inl (0, [(.ref (n0 + 1)), (.int (0 : Int32))]), .inr (.long, [(.long j9_0), (.long j9_1), (.long j9_2), (.long j9_3), (.long j9_4), (.long j9_5), (.long j9_6), (.long j9_7), (.long j9_8), (.long j9_9), (.long j9_10), (.long j9_11), (.long j9_12), (.long j9_13), (.long j9_14), (.long j9_15)]), .inr (.long, [(.long c6_0), (.long c4_1), (.long c6_2), (.long c5_3), (.long c4_4)])] 3 23
  refine H.aload s0_154 rfl rfl ?_
  refine H.iconst s0_156 (v := (1 : Int32)) (by decide) ?_
  refine H.iconst s0_157 (v := (3 : Int32)) (by decide) ?_
  refine H.callS s0_158 (k_13 hw) (m_cx13 l hw n0 [.inl (0, [(.ref (n0 + 1)), (.int (0 : Int32))]), .inr (.long, [(.long j9_0), (.long j9_1), (.long j9_2), (.long j9_3), (.long j9_4), (.long j9_5), (.long j9_6), (.long j9_7), (.long j9_8), (.long j9_9), (.long j9_10), (.long j9_11), (.long j9_12), (.long j9_13), (.long j9_14), (.long j9_15)]), .inr (.long, [(.long c6_0), (.long c4_1), (.long c6_2), (.long c5_3), (.long c4_4)])] 2 c6_0 c4_1 c6_2 c5_3 c4_4 rfl) (argsL := [(.ref (n0 + 2)), (.int (1 : Int32)), (.int (3 : Int32))]) (rest := []) rfl rfl rfl rfl (leb rfl) (leb rfl) (leb rfl) (leb rfl) ?_
  rintro _ _ ⟨rfl, c7_1, c7_3, rfl, hl7, hd7⟩
  have hk7 : ∀ z : Int64, [c6_0, c7_1, c6_2, c7_3, c4_4].count z = [c6_0, c4_1, c6_2, c5_3, c4_4].count z := by
    intro z
    rcases hd7 with ⟨rfl, rfl⟩ | ⟨rfl, rfl⟩ <;> first | rfl | (simp only [List.count_cons, List.count_nil]; ac_rfl)
  have hi7 : (c7_1.toInt = c4_1.toInt ∧ c7_3.toInt = c5_3.toInt) ∨ (c7_1.toInt = c5_3.toInt ∧ c7_3.toInt = c4_1.toInt) := by
    rcases hd7 with ⟨rfl, rfl⟩ | ⟨rfl, rfl⟩
    · exact Or.inl ⟨rfl, rfl⟩
    · exact Or.inr ⟨rfl, rfl⟩
  have hf7_01 : c6_0.toInt ≤ c7_1.toInt := by clear hc0 hc1 hc2 hc3 hc4 hc5 hc6 hc7 hc8 hc9; omega
  have hf7_13 : c7_1.toInt ≤ c7_3.toInt := by clear hc0 hc1 hc2 hc3 hc4 hc5 hc6 hc7 hc8 hc9; omega
  have hf7_23 : c6_2.toInt ≤ c7_3.toInt := by clear hc0 hc1 hc2 hc3 hc4 hc5 hc6 hc7 hc8 hc9; omega
  have hf7_34 : c7_3.toInt ≤ c4_4.toInt := by clear hc0 hc1 hc2 hc3 hc4 hc5 hc6 hc7 hc8 hc9; omega
  have hf7_02 : c6_0.toInt ≤ c6_2.toInt := by clear hc0 hc1 hc2 hc3 hc4 hc5 hc6 hc7 hc8 hc9; omega
  show G 161 #[.val (.long p0), .second, .val (.long p1), .second, .val (.long p2), .second, .val (.long p3), .second, .val (.long p4), .second, .val (.ref (n0 + 0)), .val (.long a4_0), .second, .val (.long a5_0), .second, .val (.long a6_0), .second, .val (.long a7_0), .second, .val (.long a8_0), .second, .val (.ref (n0 + 2))] [] [.inl (0, [(.ref (n0 + 1)), (.int (0 : Int32))]), .inr (.long, [(.long j9_0), (.long j9_1), (.long j9_2), (.long j9_3), (.long j9_4), (.long j9_5), (.long j9_6), (.long j9_7), (.long j9_8), (.long j9_9), (.long j9_10), (.long j9_11), (.long j9_12), (.long j9_13), (.long j9_14), (.long j9_15)]), .inr (.long, [(.long c6_0), (.long c7_1), (.long c6_2), (.long c7_3), (.long c4_4)])] 3 23
  refine H.aload s0_161 rfl rfl ?_
  refine H.iconst s0_163 (v := (1 : Int32)) (by decide) ?_
  refine H.iconst s0_164 (v := (2 : Int32)) (by decide) ?_
  refine H.callS s0_165 (k_13 hw) (m_cx12 l hw n0 [.inl (0, [(.ref (n0 + 1)), (.int (0 : Int32))]), .inr (.long, [(.long j9_0), (.long j9_1), (.long j9_2), (.long j9_3), (.long j9_4), (.long j9_5), (.long j9_6), (.long j9_7), (.long j9_8), (.long j9_9), (.long j9_10), (.long j9_11), (.long j9_12), (.long j9_13), (.long j9_14), (.long j9_15)]), .inr (.long, [(.long c6_0), (.long c7_1), (.long c6_2), (.long c7_3), (.long c4_4)])] 2 c6_0 c7_1 c6_2 c7_3 c4_4 rfl) (argsL := [(.ref (n0 + 2)), (.int (1 : Int32)), (.int (2 : Int32))]) (rest := []) rfl rfl rfl rfl (leb rfl) (leb rfl) (leb rfl) (leb rfl) ?_
  rintro _ _ ⟨rfl, c8_1, c8_2, rfl, hl8, hd8⟩
  have hk8 : ∀ z : Int64, [c6_0, c8_1, c8_2, c7_3, c4_4].count z = [c6_0, c7_1, c6_2, c7_3, c4_4].count z := by
    intro z
    rcases hd8 with ⟨rfl, rfl⟩ | ⟨rfl, rfl⟩ <;> first | rfl | (simp only [List.count_cons, List.count_nil]; ac_rfl)
  have hi8 : (c8_1.toInt = c7_1.toInt ∧ c8_2.toInt = c6_2.toInt) ∨ (c8_1.toInt = c6_2.toInt ∧ c8_2.toInt = c7_1.toInt) := by
    rcases hd8 with ⟨rfl, rfl⟩ | ⟨rfl, rfl⟩
    · exact Or.inl ⟨rfl, rfl⟩
    · exact Or.inr ⟨rfl, rfl⟩
  have hf8_01 : c6_0.toInt ≤ c8_1.toInt := by clear hc0 hc1 hc2 hc3 hc4 hc5 hc6 hc7 hc8 hc9; omega
  have hf8_12 : c8_1.toInt ≤ c8_2.toInt := by clear hc0 hc1 hc2 hc3 hc4 hc5 hc6 hc7 hc8 hc9; omega
  have hf8_23 : c8_2.toInt ≤ c7_3.toInt := by clear hc0 hc1 hc2 hc3 hc4 hc5 hc6 hc7 hc8 hc9; omega
  have hf8_34 : c7_3.toInt ≤ c4_4.toInt := by clear hc0 hc1 hc2 hc3 hc4 hc5 hc6 hc7 hc8 hc9; omega
  show G 168 #[.val (.long p0), .second, .val (.long p1), .second, .val (.long p2), .second, .val (.long p3), .second, .val (.long p4), .second, .val (.ref (n0 + 0)), .val (.long a4_0), .second, .val (.long a5_0), .second, .val (.long a6_0), .second, .val (.long a7_0), .second, .val (.long a8_0), .second, .val (.ref (n0 + 2))] [] [.inl (0, [(.ref (n0 + 1)), (.int (0 : Int32))]), .inr (.long, [(.long j9_0), (.long j9_1), (.long j9_2), (.long j9_3), (.long j9_4), (.long j9_5), (.long j9_6), (.long j9_7), (.long j9_8), (.long j9_9), (.long j9_10), (.long j9_11), (.long j9_12), (.long j9_13), (.long j9_14), (.long j9_15)]), .inr (.long, [(.long c6_0), (.long c8_1), (.long c8_2), (.long c7_3), (.long c4_4)])] 3 23
  refine H.lload s0_168 rfl ?_
  refine H.aload s0_170 rfl rfl ?_
  refine H.iconst s0_172 (v := (0 : Int32)) (by decide) ?_
  refine H.laload s0_173 (i := 2) (j := 0) rfl (by decide) (v := (.long c6_0)) rfl ?_
  have hP : own_srt [a4_0, a5_0, a6_0, a7_0, a8_0] := own_5 hm5 hm6 hm7 hm8
  have hS : own_srt [c6_0, c8_1, c8_2, c7_3, c4_4] := own_5 hf8_01 hf8_12 hf8_23 hf8_34
  have hC : ∀ z : Int64, [a4_0, a5_0, a6_0, a7_0, a8_0].count z = [c6_0, c8_1, c8_2, c7_3, c4_4].count z := by
    intro z
    have q0 := hc0 z; have q1 := hc1 z; have q2 := hc2 z; have q3 := hc3 z; have q4 := hc4 z; have q5 := hc5 z; have q6 := hc6 z; have q7 := hc7 z; have q8 := hc8 z; have q9 := hc9 z
    have k0 := hk0 z; have k1 := hk1 z; have k2 := hk2 z; have k3 := hk3 z; have k4 := hk4 z; have k5 := hk5 z; have k6 := hk6 z; have k7 := hk7 z; have k8 := hk8 z
    clear hc0 hc1 hc2 hc3 hc4 hc5 hc6 hc7 hc8 hc9 hk0 hk1 hk2 hk3 hk4 hk5 hk6 hk7 hk8
    simp only [List.count_cons, List.count_nil] at *
    omega
  obtain ⟨z0, z1, z2, z3, z4⟩ := own_eq5 hP hS hC
  refine H.lifF s0_174 s0_175 z0 ?_
  refine H.lload s0_178 rfl ?_
  refine H.aload s0_180 rfl rfl ?_
  refine H.iconst s0_182 (v := (1 : Int32)) (by decide) ?_
  refine H.laload s0_183 (i := 2) (j := 1) rfl (by decide) (v := (.long c8_1)) rfl ?_
  refine H.lifF s0_184 s0_185 z1 ?_
  refine H.lload s0_188 rfl ?_
  refine H.aload s0_190 rfl rfl ?_
  refine H.iconst s0_192 (v := (2 : Int32)) (by decide) ?_
  refine H.laload s0_193 (i := 2) (j := 2) rfl (by decide) (v := (.long c8_2)) rfl ?_
  refine H.lifF s0_194 s0_195 z2 ?_
  refine H.lload s0_198 rfl ?_
  refine H.aload s0_200 rfl rfl ?_
  refine H.iconst s0_202 (v := (3 : Int32)) (by decide) ?_
  refine H.laload s0_203 (i := 2) (j := 3) rfl (by decide) (v := (.long c7_3)) rfl ?_
  refine H.lifF s0_204 s0_205 z3 ?_
  refine H.lload s0_208 rfl ?_
  refine H.aload s0_210 rfl rfl ?_
  refine H.iconst s0_212 (v := (4 : Int32)) (by decide) ?_
  refine H.laload s0_213 (i := 2) (j := 4) rfl (by decide) (v := (.long c4_4)) rfl ?_
  refine H.lifF s0_214 s0_215 z4 ?_
  refine H.iconst s0_218 (v := (1 : Int32)) (by decide) ?_
  refine H.goto s0_219 ?_
  exact H.ireturn s0_223 rfl (by simp) rfl rfl (by decide) (by decide)

set_option maxRecDepth 65536 in
set_option maxHeartbeats 40000000 in
theorem comes_1 {Post : Tables → Env → Array Value → State → Outcome → State → Prop} (hpost : ∀ tb e args s v u, (limb_1_1.after args s (.returned v) u = true ∧ limb_1_2.after args s (.returned v) u = true ∧ True) → FrameEnd s (.returned v) u (Jvm.fieldLocs frame_1_writes args s ++ Jvm.arrayLocs frame_1_arrays args s ++ Jvm.staticLocs frame_1_statics s) 16 128 → Post tb e args s (.returned v) u) :
    ArmFor flags0 classFile x code maxLocals ret World_1 tables_1 room_1 Calls_1 rest_1 Pre_1 Post := by
  intro l hfl _ _ p e ha hc hk s m args below hf hA hF happ hP
  obtain ⟨hcalls, hrest, hpre⟩ := hP
  obtain ⟨-, -, -, hnamed, -, -, -, hat⟩ := (Spec.applies_iff hf).mp happ
  obtain ⟨hg, hn⟩ := and_e (Cond.before_iff.mp (show (Jvm.Cond.and given_1 narrow_1).before args s = true from hpre))
  obtain ⟨hc0, hr0⟩ := and_e hg
  obtain ⟨w0, w1, w2, w3, w4, rfl⟩ : ∃ w0 w1 w2 w3 w4 : Value, args = #[w0, w1, w2, w3, w4] := by
    have hs : args.size = 5 := by simpa [Cond.value, given_1] using hc0
    obtain ⟨L⟩ := args
    match L, hs with
    | [w0, w1, w2, w3, w4], _ => exact ⟨w0, w1, w2, w3, w4, rfl⟩
  have hw : HW1 s _ := fun d (hd : d ∈ tables_1) => atoms_spec (ws := Jvm.Cond.code x code maxLocals ret :: tables_1) hat d (List.mem_cons_of_mem _ hd)
  obtain ⟨hx0, hr1⟩ := and_e hr0
  obtain ⟨i0, ee0⟩ := isL_v hx0
  obtain rfl : w0 = (.long i0) := Option.some.inj ee0
  obtain ⟨hx1, hr2⟩ := and_e hr1
  obtain ⟨i1, ee1⟩ := isL_v hx1
  obtain rfl : w1 = (.long i1) := Option.some.inj ee1
  obtain ⟨hx2, hr3⟩ := and_e hr2
  obtain ⟨i2, ee2⟩ := isL_v hx2
  obtain rfl : w2 = (.long i2) := Option.some.inj ee2
  obtain ⟨hx3, hr4⟩ := and_e hr3
  obtain ⟨i3, ee3⟩ := isL_v hx3
  obtain rfl : w3 = (.long i3) := Option.some.inj ee3
  have hx4 := hr4
  obtain ⟨i4, ee4⟩ := isL_v hx4
  obtain rfl : w4 = (.long i4) := Option.some.inj ee4
  obtain ⟨n, o, h1, h2, h3, _, L, rfl, ⟨A', rfl, hRel, N⟩, hq⟩ := law_met l hw s.heap.size i0 i1 i2 i3 i4 tables_1 s.heap ⟨rfl, fun i o h => by simp at h⟩ p e ha hc hk s m _ below hf ((Spec.applies_iff_loose hf).mp happ).1 ⟨rfl, State.Warmed39.refl s, rfl⟩ trivial
  refine ⟨n, _, h1, h2, h3, hpost _ _ _ _ _ _ ⟨Cond.after_iff.mpr rfl, Cond.after_iff.mpr (eq_i res_at (Term.int_eval (1)) rfl), trivial⟩ ⟨hq.1, hq.2.1, (hq.2.2.sift fun y hy => Or.inr (N y hy)).mono (by decide) (by decide)⟩⟩
theorem main_1_1 : Claimed_1_1 := comes_1 fun _ _ _ _ _ _ h hF => ⟨h.1, hF⟩
theorem main_1_2 : Claimed_1_2 := comes_1 fun _ _ _ _ _ _ h hF => ⟨h.2.1, hF⟩
end Jvm.Pilot.@@N@@
namespace Jvm.Pilot.@@N@@
open Jvm Jvm.ClassFile Sem Op Lib Jvm.Free Jvm.Stand Jvm.Pilot.@@N@@.Jvm.D
/-! MADE BY PROGRAM (witnessworld.py) out of the Statement's table words and the real class files: 11 classes; the members and pool entries that the words name. The judged class is class 1, her method 1. -/
namespace start1
open Jvm.ClassFile
def u (s : String) : CpInfo := .utf8 (stringToUtf16 s)
/-- a pool by its gaps: so many unusable entries, then the entry; so many at the end -/
def gap : Nat → List CpInfo → List CpInfo
  | 0, r => r
  | n + 1, r => .unusable :: gap n r
def poolList (es : List (Nat × CpInfo)) (last : Nat) : List CpInfo := es.foldr (fun e r => gap e.1 (e.2 :: r)) (gap last [])
def pool (es : List (Nat × CpInfo)) (last : Nat) : Array CpInfo := ⟨poolList es last⟩
def fileOf (pool : Array CpInfo) (this : Nat) (attrs : Array Attribute := #[]) (ms : Array MethodInfo := #[]) (fl : Nat := 33) (sup : Nat := 0) (ifs : Array Nat := #[]) (fds : Array FieldInfo := #[]) : ClassFile where
  minorVersion := 0
  majorVersion := 65
  constantPool := pool
  accessFlags := fl
  thisClass := this
  superClass := sup
  interfaces := ifs
  fields := fds
  methods := ms
  attributes := attrs
def plain (name : String) (sup : Option ClassId) : Class where
  name := name
  kind := .ordinary
  loader := none
  accessFlags := 33
  super := sup
  interfaces := #[]
  cf := none
  fields := #[]
  methods := #[]
  instanceTypes := #[]
  staticTypes := #[]
  resolved := #[]
  callSites := []
  init := .initialized
  statics := none
  mirror := none

def pool0 : Array CpInfo := pool [(5, u "<init>"), (0, u "()V"), (1, .class_ 10), (1, u "java/lang/Object")] 113

def k0c0 : Code := { maxStack := 0, maxLocals := 1, code := object_method_1_code, exceptionTable := #[], attributes := #[] }
def k0m0 : Method := { name := "<init>", desc := "()V", sig := { parameters := [], returnType := none }, accessFlags := 1, code := some k0c0 }
/-- java/lang/Object -/
def k0 : Class := { plain "java/lang/Object" none with
  accessFlags := 33
  interfaces := #[]
  cf := some (fileOf pool0 8 #[] #[{ accessFlags := 1, nameIndex := 5, descriptorIndex := 6, attributes := #[] }] 33 0 #[] #[])
  fields := #[]
  methods := #[k0m0]
  instanceTypes := #[]
  staticTypes := #[]
  resolved := Array.replicate 124 none
  statics := none }

def pool1 : Array CpInfo := pool [(2, .class_ 4), (0, .nameAndType 5 6), (0, u "java/lang/Object"), (0, u "<init>"), (0, u "()V"), (0, .class_ 8), (0, u "com/example/korek/korek/simulation/LongHeap"), (0, .methodref 7 3), (0, .methodref 7 11), (0, .nameAndType 12 13), (0, u "add"), (0, u "(J)V"), (0, .methodref 7 15), (0, .nameAndType 16 17), (0, u "poll"), (0, u "()J"), (0, .methodref 19 20), (0, .class_ 21), (0, .nameAndType 22 23), (0, u "com/example/korek/korek/simulation/LongHeapPollPinLaw"), (0, u "cx"), (0, u "([JII)V"), (2, u "law"), (0, u "(JJJJJ)Z")] 5

def k1m0 : Method := { name := "<init>", desc := "()V", sig := { parameters := [], returnType := none }, accessFlags := 1, code := none }
def k1c1 : Code := { maxStack := 5, maxLocals := 22, code := code, exceptionTable := #[], attributes := #[] }
def k1m1 : Method := { name := "law", desc := "(JJJJJ)Z", sig := { parameters := [.long, .long, .long, .long, .long], returnType := some .boolean }, accessFlags := 9, code := some k1c1 }
def k1c2 : Code := { maxStack := 4, maxLocals := 5, code := method_3_code, exceptionTable := #[], attributes := #[] }
def k1m2 : Method := { name := "cx", desc := "([JII)V", sig := { parameters := [(.array .long), .int, .int], returnType := none }, accessFlags := 10, code := some k1c2 }
/-- com/example/korek/korek/simulation/LongHeapPollPinLaw -/
def k1 : Class := { plain "com/example/korek/korek/simulation/LongHeapPollPinLaw" (some 0) with
  accessFlags := 49
  interfaces := #[]
  cf := some (fileOf pool1 19 #[] #[{ accessFlags := 1, nameIndex := 5, descriptorIndex := 6, attributes := #[] }, { accessFlags := 9, nameIndex := 26, descriptorIndex := 27, attributes := #[] }, { accessFlags := 10, nameIndex := 22, descriptorIndex := 23, attributes := #[] }] 49 2 #[] #[])
  fields := #[]
  methods := #[k1m0, k1m1, k1m2]
  instanceTypes := #[]
  staticTypes := #[]
  resolved := Array.replicate 33 none
  statics := none }

def pool2 : Array CpInfo := pool [(1, .methodref 2 3), (0, .class_ 4), (0, .nameAndType 5 6), (0, u "java/lang/Object"), (0, u "<init>"), (0, u "()V"), (0, .fieldref 8 9), (0, .class_ 10), (0, .nameAndType 11 12), (0, u "com/example/korek/korek/simulation/LongHeap"), (0, u "heap"), (0, u "[J"), (0, .fieldref 8 14), (0, .nameAndType 15 16), (0, u "size"), (0, u "I"), (12, u "()J"), (0, u "add"), (0, u "(J)V"), (0, u "poll")] 2

def k2c0 : Code := { maxStack := 2, maxLocals := 1, code := prog_41_method_1_code, exceptionTable := #[], attributes := #[] }
def k2m0 : Method := { name := "<init>", desc := "()V", sig := { parameters := [], returnType := none }, accessFlags := 0, code := some k2c0 }
def k2c1 : Code := { maxStack := 4, maxLocals := 5, code := prog_41_method_4_code, exceptionTable := #[], attributes := #[] }
def k2m1 : Method := { name := "add", desc := "(J)V", sig := { parameters := [.long], returnType := none }, accessFlags := 0, code := some k2c1 }
def k2c2 : Code := { maxStack := 4, maxLocals := 7, code := prog_41_method_5_code, exceptionTable := #[], attributes := #[] }
def k2m2 : Method := { name := "poll", desc := "()J", sig := { parameters := [], returnType := some .long }, accessFlags := 0, code := some k2c2 }
/-- com/example/korek/korek/simulation/LongHeap -/
def k2 : Class := { plain "com/example/korek/korek/simulation/LongHeap" (some 0) with
  accessFlags := 48
  interfaces := #[]
  cf := some (fileOf pool2 8 #[] #[{ accessFlags := 0, nameIndex := 5, descriptorIndex := 6, attributes := #[] }, { accessFlags := 0, nameIndex := 30, descriptorIndex := 31, attributes := #[] }, { accessFlags := 0, nameIndex := 32, descriptorIndex := 29, attributes := #[] }] 48 2 #[] #[{ accessFlags := 2, nameIndex := 11, descriptorIndex := 12, attributes := #[] }, { accessFlags := 2, nameIndex := 15, descriptorIndex := 16, attributes := #[] }])
  fields := #[{ name := "heap", type := (.array .long), accessFlags := 2, slot := 0, constantValue := 0 }, { name := "size", type := .int, accessFlags := 2, slot := 1, constantValue := 0 }]
  methods := #[k2m0, k2m1, k2m2]
  instanceTypes := #[(.array .long), .int]
  staticTypes := #[]
  resolved := Array.replicate 35 none
  statics := none }

def pool3 : Array CpInfo := pool [(1, u "java/lang/Cloneable"), (0, .class_ 1), (0, u "java/lang/Object"), (0, .class_ 3)] 3

/-- java/lang/Cloneable -/
def k3 : Class := { plain "java/lang/Cloneable" (some 0) with
  accessFlags := 1537
  interfaces := #[]
  cf := some (fileOf pool3 2 #[] #[] 1537 4 #[] #[])
  fields := #[]
  methods := #[]
  instanceTypes := #[]
  staticTypes := #[]
  resolved := Array.replicate 8 none
  statics := none }

def pool4 : Array CpInfo := pool [(1, u "java/io/Serializable"), (0, .class_ 1), (0, u "java/lang/Object"), (0, .class_ 3)] 3

/-- java/io/Serializable -/
def k4 : Class := { plain "java/io/Serializable" (some 0) with
  accessFlags := 1537
  interfaces := #[]
  cf := some (fileOf pool4 2 #[] #[] 1537 4 #[] #[])
  fields := #[]
  methods := #[]
  instanceTypes := #[]
  staticTypes := #[]
  resolved := Array.replicate 8 none
  statics := none }

/-- the primitive byte -/
def k5 : Class := { plain "byte" none with kind := .primitive 'B', accessFlags := 0x411 }
/-- [B -/
def k6 : Class := { plain "[B" (some 0) with kind := .array 5 .byte, interfaces := #[3, 4], accessFlags := 1041 }

/-- the primitive int -/
def k7 : Class := { plain "int" none with kind := .primitive 'I', accessFlags := 0x411 }
/-- [I -/
def k8 : Class := { plain "[I" (some 0) with kind := .array 7 .int, interfaces := #[3, 4], accessFlags := 1041 }

/-- the primitive long -/
def k9 : Class := { plain "long" none with kind := .primitive 'J', accessFlags := 0x411 }
/-- [J -/
def k10 : Class := { plain "[J" (some 0) with kind := .array 9 .long, interfaces := #[3, 4], accessFlags := 1041 }

def heap : Heap := #[]
def classes : Array Class := #[k0, k1, k2, k3, k4, k5, k6, k7, k8, k9, k10]
def interned : List (Array UInt16 × Addr) := []
def slotsUsed : Nat := 0
def theMethod : MethodId := ⟨1, 1⟩
def args0 : Array Value := #[.long 7, .long 8, .long 9, .long 10, .long 11]
def aboutOver (below : List Frame) : State where
  vm := { classes := classes, interned := interned.toArray }
  heap := heap
  slotsUsed := slotsUsed
  threads := #[{ frames := .invoking theMethod args0 :: below }]
def below0 : List Frame := [.native { method := ⟨0, 0⟩, args := #[] }]
def about1 : State := aboutOver below0
def p0 : Program := .bare "" "" ""
def e0 : Env := launch0.env 0 0 0
theorem w_frames : about1.frames = Frame.invoking theMethod args0 :: below0 := rfl
set_option maxRecDepth 65536 in
theorem w_args : argsFit about1.vm theMethod args0 = true := by decide +kernel
set_option maxRecDepth 65536 in
theorem w_heap : heapFits about1 = true := by decide +kernel
set_option maxRecDepth 65536 in
theorem w_runnable : about1.curStatus? = some .runnable := by decide +kernel
set_option maxRecDepth 65536 in
theorem w_alone : about1.alone = true := by decide +kernel
set_option maxRecDepth 65536 in
theorem w_named : about1.methodNamed? x = some theMethod := by decide +kernel
set_option maxRecDepth 65536 in
theorem w_hears : about1.hears theMethod below0 = true := by decide +kernel
set_option maxRecDepth 65536 in
theorem w_ripe : about1.ripe theMethod args0 below0 = true := by decide +kernel
theorem w_running : about1.status = .running := rfl
set_option maxRecDepth 65536 in
theorem w_room : about1.hasRoom e0.platform room_1 = true :=
  launch0.hasRoom_least _ room_1 (by decide +kernel) (by decide +kernel) (by decide +kernel) (by decide +kernel) (by decide +kernel) (by decide +kernel)
theorem allAtoms_all (ts : List Jvm.Cond) (a : Array Jvm.Value) (st : Jvm.State) : (allAtoms ts).before a st = ts.all (fun c => c.before a st) := by
  induction ts with
  | nil => rfl
  | cons c t ih =>
    show (Jvm.Cond.and c (allAtoms t)).before a st = _
    rw [Jvm.Cond.before_and, ih, List.all_cons]
def words1 : List Jvm.Cond := Jvm.Cond.code x code maxLocals ret :: tables_1
/-- a 'code' word, met by the world's own term for the bytes: nothing is compared byte by byte -/
theorem code_word {y : MethodName} {bytes : ByteArray} {mx : Nat} {rt : Option FieldType} {a : Array Value} {s : State} {m : MethodId} {meth : Method} {c : Code} (h1 : s.methodNamed? y = some m) (h2 : s.vm.method? m = some meth) (h3 : meth.code = some c) (h4 : c.code = bytes)
    (h5 : (c.maxLocals == mx && c.exceptionTable.isEmpty && decide (c.maxStack ≤ mostOperands) && decide (meth.sig.returnType = rt) && !meth.locks && decide (parseMethodDescriptor y.desc = some meth.sig)) = true) : (Jvm.Cond.code y bytes mx rt).before a s = true := by
  simp only [Bool.and_eq_true, beq_iff_eq, Bool.not_eq_true', decide_eq_true_eq] at h5
  obtain ⟨⟨⟨⟨⟨g1, g2⟩, g3⟩, g4⟩, g5⟩, g6⟩ := h5
  simp [Cond.before, Cond.holds, Cond.value, h1, h2, h3, h4, g1, g2, g3, g4, g5, g6]
def isCode : Jvm.Cond → Bool
  | .code _ _ _ _ => true
  | _ => false
theorem all_split {L : List Jvm.Cond} {P : Jvm.Cond → Bool} (h1 : L.all (fun c => isCode c || P c) = true) (h2 : ∀ c ∈ L.filter isCode, P c = true) : L.all P = true := by
  refine List.all_eq_true.mpr fun c hc => ?_
  have h := List.all_eq_true.mp h1 c hc
  rcases Bool.eq_false_or_eq_true (isCode c) with hi | hi
  · exact h2 c (List.mem_filter.mpr ⟨hc, hi⟩)
  · simpa [hi] using h
set_option maxRecDepth 65536 in
theorem w_c0 : (Jvm.Cond.code x code maxLocals ret).before args0 about1 = true := code_word (m := ⟨1, 1⟩) (meth := k1m1) (c := k1c1) (by decide +kernel) rfl rfl rfl (by decide +kernel)
set_option maxRecDepth 65536 in
theorem w_c1 : (Jvm.Cond.code ({ cls := "com/example/korek/korek/simulation/LongHeap", name := "<init>", desc := "()V" } : Jvm.MethodName) prog_41_method_1_code (1 : Nat) (Option.none : Option Jvm.ClassFile.FieldType)).before args0 about1 = true := code_word (m := ⟨2, 0⟩) (meth := k2m0) (c := k2c0) (by decide +kernel) rfl rfl rfl (by decide +kernel)
set_option maxRecDepth 65536 in
theorem w_c2 : (Jvm.Cond.code ({ cls := "java/lang/Object", name := "<init>", desc := "()V" } : Jvm.MethodName) object_method_1_code (1 : Nat) (Option.none : Option Jvm.ClassFile.FieldType)).before args0 about1 = true := code_word (m := ⟨0, 0⟩) (meth := k0m0) (c := k0c0) (by decide +kernel) rfl rfl rfl (by decide +kernel)
set_option maxRecDepth 65536 in
theorem w_c3 : (Jvm.Cond.code ({ cls := "com/example/korek/korek/simulation/LongHeap", name := "add", desc := "(J)V" } : Jvm.MethodName) prog_41_method_4_code (5 : Nat) (Option.none : Option Jvm.ClassFile.FieldType)).before args0 about1 = true := code_word (m := ⟨2, 1⟩) (meth := k2m1) (c := k2c1) (by decide +kernel) rfl rfl rfl (by decide +kernel)
set_option maxRecDepth 65536 in
theorem w_c4 : (Jvm.Cond.code ({ cls := "com/example/korek/korek/simulation/LongHeap", name := "poll", desc := "()J" } : Jvm.MethodName) prog_41_method_5_code (7 : Nat) (Option.some Jvm.ClassFile.FieldType.long)).before args0 about1 = true := code_word (m := ⟨2, 2⟩) (meth := k2m2) (c := k2c2) (by decide +kernel) rfl rfl rfl (by decide +kernel)
set_option maxRecDepth 65536 in
theorem w_c5 : (Jvm.Cond.code ({ cls := "com/example/korek/korek/simulation/LongHeapPollPinLaw", name := "cx", desc := "([JII)V" } : Jvm.MethodName) method_3_code (5 : Nat) (Option.none : Option Jvm.ClassFile.FieldType)).before args0 about1 = true := code_word (m := ⟨1, 2⟩) (meth := k1m2) (c := k1c2) (by decide +kernel) rfl rfl rfl (by decide +kernel)
def codes1 : List Jvm.Cond := [Jvm.Cond.code x code maxLocals ret, Jvm.Cond.code ({ cls := "com/example/korek/korek/simulation/LongHeap", name := "<init>", desc := "()V" } : Jvm.MethodName) prog_41_method_1_code (1 : Nat) (Option.none : Option Jvm.ClassFile.FieldType), Jvm.Cond.code ({ cls := "java/lang/Object", name := "<init>", desc := "()V" } : Jvm.MethodName) object_method_1_code (1 : Nat) (Option.none : Option Jvm.ClassFile.FieldType), Jvm.Cond.code ({ cls := "com/example/korek/korek/simulation/LongHeap", name := "add", desc := "(J)V" } : Jvm.MethodName) prog_41_method_4_code (5 : Nat) (Option.none : Option Jvm.ClassFile.FieldType), Jvm.Cond.code ({ cls := "com/example/korek/korek/simulation/LongHeap", name := "poll", desc := "()J" } : Jvm.MethodName) prog_41_method_5_code (7 : Nat) (Option.some Jvm.ClassFile.FieldType.long), Jvm.Cond.code ({ cls := "com/example/korek/korek/simulation/LongHeapPollPinLaw", name := "cx", desc := "([JII)V" } : Jvm.MethodName) method_3_code (5 : Nat) (Option.none : Option Jvm.ClassFile.FieldType)]
set_option maxRecDepth 65536 in
theorem codes_eq : words1.filter isCode = codes1 := rfl
theorem w_codes : ∀ c ∈ words1.filter isCode, c.before args0 about1 = true := by
  rw [codes_eq]
  intro c hc
  simp only [codes1, List.mem_cons, List.not_mem_nil, or_false] at hc
  rcases hc with rfl | rfl | rfl | rfl | rfl | rfl
  · exact w_c0
  · exact w_c1
  · exact w_c2
  · exact w_c3
  · exact w_c4
  · exact w_c5
set_option maxRecDepth 65536 in
theorem w_t1 : (words1.take 24).all (fun c => isCode c || c.before args0 about1) = true := by decide +kernel
set_option maxRecDepth 65536 in
theorem w_t2 : (words1.drop 24).all (fun c => isCode c || c.before args0 about1) = true := by decide +kernel
theorem w_tables : (allAtoms (Jvm.Cond.code x code maxLocals ret :: tables_1)).before args0 about1 = true := by
  rw [allAtoms_all]
  show words1.all (fun c => c.before args0 about1) = true
  refine all_split ?_ w_codes
  rw [← List.take_append_drop 24 words1, List.all_append, w_t1, w_t2]
  rfl
set_option maxRecDepth 65536 in
theorem w_case : (Jvm.Cond.and given_1 narrow_1).before args0 about1 = true := by decide +kernel
theorem w_applies : (headSpec (Jvm.Cond.code x code maxLocals ret :: tables_1) room_1).applies x e0.platform about1 = true :=
  (Spec.applies_iff w_frames).mpr ⟨w_running, w_runnable, w_alone, w_named, w_hears, w_ripe, w_room, w_tables⟩
theorem atStart : AtStart classFile x code maxLocals ret World_1 tables_1 room_1 Calls_1 rest_1 Pre_1 launch0 p0 e0 about1 theMethod args0 below0 :=
  ⟨lists_1, trivial, launch0.admits_env _ _ _, launch0.least_env, fairChoices_fair.cas, fairChoices_fair.clock, w_frames, w_args, w_heap, w_applies, trivial, trivial, w_case⟩
end start1
theorem witness_1 : WitnessClaimed_1 := ⟨start1.p0, start1.e0, start1.about1, start1.theMethod, start1.args0, start1.below0, start1.atStart⟩
end Jvm.Pilot.@@N@@
