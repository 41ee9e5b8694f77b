import JvmDerived
import JvmDerived.Pilot.@@N@@Statement
import JvmDerived.Pilot.@@N@@Code
set_option linter.unusedVariables false
set_option linter.unusedSimpArgs false
namespace Jvm.OwnKit
open Sem ClassFile Op Lib Jvm.Free Jvm.Stand Jvm.LawKit Jvm.RoadKit
/-! My own layer: an abstract heap (a list of objects made since the law began) and one rule a bytecode step, each over a law of the library. -/
abbrev oz : Value := .int 0
abbrev ol : Value := .long 0
abbrev rf (n0 i : Nat) : Value := .ref (n0 + i)
abbrev Ob : Type := (Nat × List Value) ⊕ (FieldType × List Value)
abbrev KTab : Type := List (String × List (String × String × String))
def ObAt (Z : State) (K : KTab) (h : Heap) (a : Addr) : Ob → Prop
  | .inl (k, vs) => ∃ C fs, K[k]? = some (C, fs) ∧ Exa Z h a C ∧ vs.length = fs.length ∧ ∀ (j : Nat) (f : String × String × String) (v : Value), fs[j]? = some f → vs[j]? = some v → Fld Z h a f.1 f.2.1 f.2.2 v
  | .inr (ty, vs) => (Exa Z h a ("[" ++ ty.toString) ∧ ∀ v ∈ vs, fits ty v = true) ∧ ∃ c : Cell, Arr Z h a c ty ∧ c.slots = vs.toArray ∧ ∀ C, ty = .object C → Ovr Z c.cls C
def Rel (Z : State) (K : KTab) (n0 : Nat) (h : Heap) (A : List Ob) : Prop := h.size = n0 + A.length ∧ ∀ (i : Nat) (o : Ob), A[i]? = some o → ObAt Z K h (n0 + i) o
def KOk (Z : State) (a0 : Array Value) (K : KTab) : Prop := ∀ (k : Nat) (C : String) (fs : List (String × String × String)), K[k]? = some (C, fs) →
  (∃ n, (Cond.instantiable C n).before a0 Z = true) ∧ (∀ (j : Nat) (f : String × String × String), fs[j]? = some f → Laid Z a0 C f.1 f.2.1 f.2.2 ∧ ∃ t, parseFieldDescriptor f.2.2 = some t) ∧
  ∀ (i j : Nat) (f g : String × String × String), fs[i]? = some f → fs[j]? = some g → i ≠ j → f.2.1 ≠ g.2.1
section Facts
variable {Z : State} {a0 : Array Value} {K : KTab} {h h' : Heap} {a b : Addr} {o o' : Ob} {n0 : Nat} {A : List Ob} {sl : Nat} {v : Value}
theorem ObAt.ext (E : Ext h h') (F : ObAt Z K h a o) : ObAt Z K h' a o := by
  rcases o with ⟨k, vs⟩ | ⟨ty, vs⟩
  · obtain ⟨C, fs, h1, h2, h3, h4⟩ := F
    exact ⟨C, fs, h1, h2.ext E, h3, fun j f v q r => (h4 j f v q r).ext E⟩
  · obtain ⟨⟨h1, hf⟩, c, h2, h3, h4⟩ := F
    exact ⟨⟨h1.ext E, hf⟩, c, h2.ext E, h3, h4⟩
theorem ObAt.other (W : Wr h h' b sl v) (hne : a ≠ b) (F : ObAt Z K h a o) : ObAt Z K h' a o := by
  rcases o with ⟨k, vs⟩ | ⟨ty, vs⟩
  · obtain ⟨C, fs, h1, h2, h3, h4⟩ := F
    exact ⟨C, fs, h1, h2.wr W, h3, fun j f v q r => (h4 j f v q r).other W (Or.inl hne)⟩
  · obtain ⟨⟨h1, hf⟩, c, h2, h3, h4⟩ := F
    exact ⟨⟨h1.wr W, hf⟩, c, h2.other W hne, h3, h4⟩
theorem ObAt.keep {ws : List Addr} (E : Keep h h' ws) (hne : a ∉ ws) (F : ObAt Z K h a o) : ObAt Z K h' a o := by
  rcases o with ⟨k, vs⟩ | ⟨ty, vs⟩
  · obtain ⟨C, fs, h1, h2, h3, h4⟩ := F
    exact ⟨C, fs, h1, h2.keep E, h3, fun j f v q r => (h4 j f v q r).keep E hne⟩
  · obtain ⟨⟨h1, hf⟩, c, h2, h3, h4⟩ := F
    exact ⟨⟨h1.keep E, hf⟩, c, ⟨E.2.1 a c h2.1 hne, h2.2⟩, h3, h4⟩
theorem Rel.keep {i : Nat} (R : Rel Z K n0 h A) (E : Keep h h' [n0 + i]) (hs : h'.size = h.size) (hO : ObAt Z K h' (n0 + i) o') : Rel Z K n0 h' (A.set i o') := by
  refine ⟨by rw [hs, R.1]; simp, fun j o hj => ?_⟩
  by_cases e : i = j
  · subst e
    obtain ⟨hl, -⟩ := List.getElem?_eq_some_iff.mp hj
    rw [List.getElem?_set_self (by simpa using hl)] at hj
    cases hj; exact hO
  · rw [List.getElem?_set_ne e] at hj
    exact (R.2 j o hj).keep E (fun q => e (Nat.add_left_cancel (List.mem_singleton.mp q)).symm)
theorem ObAt.exa {k : Nat} {vs : List Value} {C : String} {fs : List (String × String × String)} (hk : K[k]? = some (C, fs)) (F : ObAt Z K h a (.inl (k, vs))) : Exa Z h a C := by
  obtain ⟨C', fs', h1, h2, -⟩ := F
  cases hk.symm.trans h1; exact h2
theorem Rel.push (R : Rel Z K n0 h A) (E : Ext h h') (hs : h'.size = n0 + (A.length + 1)) (hN : ObAt Z K h' (n0 + A.length) o) : Rel Z K n0 h' (A ++ [o]) := by
  refine ⟨by rw [hs]; simp, fun i o' hi => ?_⟩
  by_cases hlt : i < A.length
  · rw [List.getElem?_append_left hlt] at hi; exact (R.2 i o' hi).ext E
  · rw [List.getElem?_append_right (by omega)] at hi
    have he : i - A.length = 0 := by
      have := (List.getElem?_eq_some_iff.mp hi).1
      simp at this; omega
    rw [he] at hi
    cases hi
    have : i = A.length := by omega
    rw [this]; exact hN
theorem Rel.set {i : Nat} (R : Rel Z K n0 h A) (W : Wr h h' (n0 + i) sl v) (hO : ObAt Z K h' (n0 + i) o') : Rel Z K n0 h' (A.set i o') := by
  refine ⟨by rw [W.size, R.1]; simp, fun j o hj => ?_⟩
  by_cases e : i = j
  · subst e
    obtain ⟨hl, -⟩ := List.getElem?_eq_some_iff.mp hj
    rw [List.getElem?_set_self (by simpa using hl)] at hj
    cases hj; exact hO
  · rw [List.getElem?_set_ne e] at hj
    exact (R.2 j o hj).other W (fun q => e (Nat.add_left_cancel q).symm)
theorem ObAt.setF (KK : KOk Z a0 K) {k j : Nat} {vs : List Value} {C : String} {fs : List (String × String × String)} {f : String × String × String} (hk : K[k]? = some (C, fs)) (hj : fs[j]? = some f) (W : Wr h h' a (RoadKit.slotOf Z f.1 f.2.1 f.2.2) v) (F : ObAt Z K h a (.inl (k, vs))) : ObAt Z K h' a (.inl (k, vs.set j v)) := by
  obtain ⟨C', fs', h1, h2, h3, h4⟩ := F
  cases hk.symm.trans h1
  refine ⟨C, fs, hk, h2.wr W, by simpa using h3, fun j' f' v' q r => ?_⟩
  by_cases e : j = j'
  · subst e
    cases hj.symm.trans q
    have hl : j < vs.length := by rw [h3]; exact (List.getElem?_eq_some_iff.mp hj).1
    rw [List.getElem?_set_self hl] at r
    cases r
    exact (h4 j f vs[j] hj (List.getElem?_eq_getElem hl)).same W
  · rw [List.getElem?_set_ne e] at r
    obtain ⟨-, k2, k3⟩ := KK k C fs hk
    obtain ⟨L1, t1, p1⟩ := k2 j f hj
    obtain ⟨L2, t2, p2⟩ := k2 j' f' q
    exact (h4 j' f' v' q r).other W (Or.inr (slot_ne L2 L1 (k3 j' j f' f q hj (Ne.symm e)) p2 p1))
theorem ObAt.setA {ty : FieldType} {vs : List Value} {j : Nat} (W : Wr h h' a j v) (hv : fits ty v = true) (F : ObAt Z K h a (.inr (ty, vs))) : ObAt Z K h' a (.inr (ty, vs.set j v)) := by
  obtain ⟨⟨h1, hf⟩, c, h2, h3, h4⟩ := F
  refine ⟨⟨h1.wr W, fun w hw => ?_⟩, c.setSlot j v, h2.same W, ?_, h4⟩
  · rcases List.mem_or_eq_of_mem_set hw with q | rfl
    · exact hf w q
    · exact hv
  simp [Cell.setSlot, h3]
end Facts
/-! ## The walk -/
def Go (p : Program) (l : Launch) (e : Env) (R : Room) (s : State) (m : MethodId) (args : Array Value) (below : List Frame) (meth : Method) (c : Code) (Z : State) (K : KTab) (n0 : Nat) (Q : Option Value → List Ob → Prop)
    (pc : Nat) (ls : Array Slot) (st : List Value) (A : List Ob) (k n : Nat) : Prop :=
  ∀ (T : State) (locs : List Loc), Stand p l e R s m args below meth c T locs k n → Rel Z K n0 T.heap A → Fr n0 locs →
    ∃ s₂ o, Steps p.tables e below (T.setTop (mkF m pc ls st)) s₂ ∧ s₂.status = .running ∧ Ended s₂ below o ∧ ∃ v L, o = .returned v ∧ (∃ A', Q v A' ∧ Rel Z K n0 s₂.heap A' ∧ Fr n0 L) ∧ FrameEnd s o s₂ L R.cells R.slots
abbrev GoT : Type := Nat → Array Slot → List Value → List Ob → Nat → Nat → Prop
def IsGo (l : Launch) (Z : State) (a0 : Array Value) (K : KTab) (n0 b0 : Nat) (y : MethodName) (bytes : ByteArray) (maxL : Nat) (ret : Option FieldType) (R : Room) (Q : Option Value → List Ob → Prop) (G : GoT) : Prop :=
  ∃ (p : Program) (e : Env) (s : State) (m : MethodId) (args : Array Value) (below : List Frame) (meth : Method) (c : Code), p.tables.exec = Jvm.exec ∧ c.code = bytes ∧ c.maxLocals = maxL ∧ s.vm.findClass y.cls = some m.cls ∧ meth.name = y.name ∧ meth.sig.returnType = ret ∧ meth.locks = false ∧ Z.Warmed39 s.vm ∧ KOk Z a0 K ∧ s.heap.size = n0 + b0 ∧ G = Go p l e R s m args below meth c Z K n0 Q
/-- the contract of a method, by its arguments and the abstract heap -/
def Met (l : Launch) (Z : State) (K : KTab) (n0 : Nat) (y : MethodName) (bytes : ByteArray) (maxL : Nat) (ret : Option FieldType) (R : Room) (as : Array Value) (A : List Ob) (Q : Option Value → List Ob → Prop) : Prop :=
  ∀ (ws : List Jvm.Cond) (h0 : Heap), Rel Z K n0 h0 A → MetFree l y (head1 (Jvm.Cond.code y bytes maxL ret :: ws) R) (fun a U => a = as ∧ Z.Warmed39 U.vm ∧ U.heap = h0) (fun _ _ _ _ _ => True)
    (fun _ U o U' => ∃ v L, o = .returned v ∧ (∃ A', Q v A' ∧ Rel Z K n0 U'.heap A' ∧ Fr n0 L) ∧ FrameEnd U o U' L R.cells R.slots)
def Nx (b : ByteArray) (pc : Nat) (i : Instr) (len pc' : Nat) : Prop := decode b pc = .ok (i, len) ∧ pc' = pc + len
def Bx (b : ByteArray) (pc : Nat) (i : Int → Instr) (t f : Nat) : Prop := ∃ o : Int, decode b pc = .ok (i o, 3) ∧ 0 ≤ (pc : Int) + o ∧ ((pc : Int) + o).toNat = t ∧ f = pc + 3
theorem get_set_self {A : List Ob} {i : Nat} {o o' : Ob} (h : A[i]? = some o) : (A.set i o')[i]? = some o' := List.getElem?_set_self (List.getElem?_eq_some_iff.mp h).1
theorem get_set_ne {A : List Ob} {i j : Nat} {o o' : Ob} (h : A[j]? = some o) (hne : i ≠ j) : (A.set i o')[j]? = some o := by rw [List.getElem?_set_ne hne]; exact h
theorem len_set {A : List Ob} {i N : Nat} {o : Ob} (h : A.length = N) : (A.set i o).length = N := by simpa using h
theorem get_app {A : List Ob} {i : Nat} {o o' : Ob} (h : A[i]? = some o) : (A ++ [o'])[i]? = some o := by rw [List.getElem?_append_left (List.getElem?_eq_some_iff.mp h).1]; exact h
theorem get_last {A : List Ob} {N : Nat} {o : Ob} (h : A.length = N) : (A ++ [o])[N]? = some o := by subst h; simp
theorem len_app {A : List Ob} {N : Nat} {o : Ob} (h : A.length = N) : (A ++ [o]).length = N + 1 := by simp [h]
theorem npOf {d : String} {ps : List FieldType} {r : Option FieldType} {n : Nat} (hd : parseMethodDescriptor d = some ⟨ps, r⟩) (hl : n = ps.length) : ∀ sig, parseMethodDescriptor d = some sig → n = sig.parameters.length := fun sig h => by cases hd.symm.trans h; exact hl
theorem leb {a b : Nat} (h : Nat.ble a b = true) : a ≤ b := Nat.le_of_ble_eq_true h
theorem ltb {a b : Nat} (h : Nat.ble (a + 1) b = true) : a < b := Nat.le_of_ble_eq_true h
theorem fa0 {α : Type} {P : α → Prop} : ∀ x ∈ ([] : List α), P x := fun _ q => nomatch q
theorem faS {α : Type} {P : α → Prop} {y : α} {L : List α} (q : P y) (r : ∀ x ∈ L, P x) : ∀ x ∈ y :: L, P x := fun x z => (List.mem_cons.mp z).elim (fun u => u ▸ q) (r x)
theorem kokOf {Z : State} {a0 : Array Value} {K : KTab} (h : ∀ p ∈ K, (∃ n, (Jvm.Cond.instantiable p.1 n).before a0 Z = true) ∧ (∀ f ∈ p.2, Laid Z a0 p.1 f.1 f.2.1 f.2.2 ∧ ∃ t, parseFieldDescriptor f.2.2 = some t) ∧ (p.2.map (·.2.1)).Nodup) : KOk Z a0 K := by
  intro k C fs hk
  obtain ⟨h1, h2, h3⟩ := h _ (List.mem_of_getElem? hk)
  refine ⟨h1, fun j f hj => h2 f (List.mem_of_getElem? hj), fun i j f g hi hj hne e => hne ?_⟩
  have q1 : (fs.map (·.2.1))[i]? = some f.2.1 := by simp [List.getElem?_map, hi]
  have q2 : (fs.map (·.2.1))[j]? = some f.2.1 := by simp [List.getElem?_map, hj, e]
  obtain ⟨l1, e1⟩ := List.getElem?_eq_some_iff.mp q1
  obtain ⟨l2, e2⟩ := List.getElem?_eq_some_iff.mp q2
  have h4 := List.pairwise_iff_getElem.mp h3
  rcases Nat.lt_trichotomy i j with q | q | q
  · exact absurd (e1.trans e2.symm) (h4 i j l1 l2 q)
  · exact q
  · exact absurd (e2.trans e1.symm) (h4 j i l2 l1 q)
def Is (v : Option Value) (A' : List Ob) : Option Value → List Ob → Prop := fun v' B => v' = v ∧ B = A'
theorem i_lt {u v : Int32} {a b : Int} (hu : u.toInt = a) (hv : v.toInt = b) : u < v ↔ a < b := by subst hu hv; exact Int32.lt_iff_toInt_lt
theorem i_ge {u v : Int32} {a b : Int} (hu : u.toInt = a) (hv : v.toInt = b) : ¬ u < v ↔ b ≤ a := by rw [i_lt hu hv]; omega
theorem i_eq {u v : Int32} {a b : Int} (hu : u.toInt = a) (hv : v.toInt = b) : u = v ↔ a = b := by subst hu hv; exact Int32.toInt_inj.symm
theorem i_ne {u v : Int32} {a b : Int} (hu : u.toInt = a) (hv : v.toInt = b) : ¬ u = v ↔ ¬ a = b := not_congr (i_eq hu hv)
theorem j_lt {u v : Int64} {a b : Int} (hu : u.toInt = a) (hv : v.toInt = b) : u < v ↔ a < b := by subst hu hv; exact Int64.lt_iff_toInt_lt
theorem j_ge {u v : Int64} {a b : Int} (hu : u.toInt = a) (hv : v.toInt = b) : ¬ u < v ↔ b ≤ a := by rw [j_lt hu hv]; omega
theorem j_eq {u v : Int64} {a b : Int} (hu : u.toInt = a) (hv : v.toInt = b) : u = v ↔ a = b := by subst hu hv; exact Int64.toInt_inj.symm
theorem j_ne {u v : Int64} {a b : Int} (hu : u.toInt = a) (hv : v.toInt = b) : ¬ u = v ↔ ¬ a = b := not_congr (j_eq hu hv)
theorem x_iadd {a b : Int32} {x y : Int} (ha : a.toInt = x) (hb : b.toInt = y) (h : -2147483648 ≤ x + y ∧ x + y < 2147483648) : (a + b).toInt = x + y := by
  have q := c_iadd a b
  have r := rng32 (a + b)
  rw [ha, hb] at q
  omega
theorem x_isub {a b : Int32} {x y : Int} (ha : a.toInt = x) (hb : b.toInt = y) (h : -2147483648 ≤ x - y ∧ x - y < 2147483648) : (a - b).toInt = x - y := by
  have q := c_isub a b
  have r := rng32 (a - b)
  rw [ha, hb] at q
  omega
theorem x_imul {a b : Int32} {x y : Int} (ha : a.toInt = x) (hb : b.toInt = y) (h : -2147483648 ≤ x * y ∧ x * y < 2147483648) : (a * b).toInt = x * y := by
  have q := c_imul a b
  have r := rng32 (a * b)
  rw [ha, hb] at q
  omega
theorem x_ineg {a : Int32} {x : Int} (ha : a.toInt = x) (h : -2147483648 < x) : (-a).toInt = -x := by
  have q := c_ineg a
  have r := rng32 (-a)
  have r2 := rng32 a
  rw [ha] at q r2
  omega
theorem x_ladd {a b : Int64} {x y : Int} (ha : a.toInt = x) (hb : b.toInt = y) (h : -9223372036854775808 ≤ x + y ∧ x + y < 9223372036854775808) : (a + b).toInt = x + y := by
  have q := c_ladd a b
  have r := rng64 (a + b)
  rw [ha, hb] at q
  omega
theorem x_lsub {a b : Int64} {x y : Int} (ha : a.toInt = x) (hb : b.toInt = y) (h : -9223372036854775808 ≤ x - y ∧ x - y < 9223372036854775808) : (a - b).toInt = x - y := by
  have q := c_lsub a b
  have r := rng64 (a - b)
  rw [ha, hb] at q
  omega
theorem x_lmul {a b : Int64} {x y : Int} (ha : a.toInt = x) (hb : b.toInt = y) (h : -9223372036854775808 ≤ x * y ∧ x * y < 9223372036854775808) : (a * b).toInt = x * y := by
  have q := c_lmul a b
  have r := rng64 (a * b)
  rw [ha, hb] at q
  omega
theorem x_lneg {a : Int64} {x : Int} (ha : a.toInt = x) (h : -9223372036854775808 < x) : (-a).toInt = -x := by
  have q := c_lneg a
  have r := rng64 (-a)
  have r2 := rng64 a
  rw [ha] at q r2
  omega
theorem x_irem {a b : Int32} {x y : Int} (ha : a.toInt = x) (hb : b.toInt = y) (h : 0 ≤ x) : (a % b).toInt = x % y := by
  rw [(c_irem a b y hb).1 (by rw [ha]; exact h), ha]
theorem x_idiv {a b : Int32} {x y : Int} (ha : a.toInt = x) (hb : b.toInt = y) (h : 0 ≤ x) (hy : 0 < y) : (a / b).toInt = x / y := by
  have hm : b ≠ -1 := fun e => by
    have q : (-1 : Int32).toInt = -1 := by decide
    rw [e, q] at hb
    omega
  rw [(c_idiv a b y hb hm).1 (by rw [ha]; exact h), ha]
theorem x_i2l {a : Int32} {x : Int} (ha : a.toInt = x) : (a.toInt64).toInt = x := by rw [c_i2l]; exact ha
theorem x_l2i {a : Int64} {x : Int} (ha : a.toInt = x) (h : -2147483648 ≤ x ∧ x < 2147483648) : (a.toInt32).toInt = x := by
  have q := c_l2i a
  have r := rng32 a.toInt32
  rw [ha] at q
  omega
theorem mod_b {x y : Int} (hy : 0 < y) : 0 ≤ x % y ∧ x % y < y := ⟨Int.emod_nonneg _ (by omega), Int.emod_lt_of_pos _ hy⟩
section Rules
variable {l : Launch} {Z : State} {a0 : Array Value} {K : KTab} {n0 b0 : Nat} {y : MethodName} {bytes : ByteArray} {maxL : Nat} {ret : Option FieldType} {R : Room} {Q : Option Value → List Ob → Prop} {G : GoT}
variable {pc pc' : Nat} {ls ls' : Array Slot} {st st' : List Value} {A A' : List Ob} {k k' n n' : Nat}
theorem Met.of (KK : KOk Z a0 K) (hp : plainFor y = true) {as : Array Value} (hef : ∀ m, entryFrame m as maxL = mkF m 0 ls []) (body : ∀ G, IsGo l Z a0 K n0 A.length y bytes maxL ret R Q G → G 0 ls [] A 0 0) : Met l Z K n0 y bytes maxL ret R as A Q := by
  intro ws h0 hR
  refine MetFree.of_bodySF hp hisR ?_
  intro p e s m args below meth c s₁ Bd hml0 hP hK
  obtain ⟨rfl, hZ, hh⟩ := hP
  have e0 : s₁.heap = h0 := by rw [← hh, Bd.state]; rfl
  have H := body (Go p l e R s m args below meth c Z K n0 Q) ⟨p, e, s, m, args, below, meth, c, Bd.exec, Bd.bytes, hml0, findClass_of_methodNamed Bd.named, (name_of_methodNamed Bd.named Bd.method).1, Bd.returns, Bd.notSynchronized, hZ, KK, by rw [hh]; exact hR.1, rfl⟩
  obtain ⟨s₂, o, h1, h2, h3, h4⟩ := H s₁ [] (Stand.of_body Bd) (by rw [e0]; exact hR) (Fr.nil n0)
  exact ⟨s₂, o, castTop (hef m) h1, h2, h3, h4⟩
theorem Met.mono {as : Array Value} {Q' : Option Value → List Ob → Prop} (M : Met l Z K n0 y bytes maxL ret R as A Q) (h : ∀ v A', Q v A' → Q' v A') : Met l Z K n0 y bytes maxL ret R as A Q' := by
  intro ws h0 hR p e ha hc hk s m args below hf happ hP hK
  obtain ⟨n, o, h1, h2, h3, v, L, h4, ⟨A', h5, h6⟩, h7⟩ := M ws h0 hR p e ha hc hk s m args below hf happ hP hK
  exact ⟨n, o, h1, h2, h3, v, L, h4, ⟨A', h _ _ h5, h6⟩, h7⟩
theorem IsGo.lift (H : IsGo l Z a0 K n0 b0 y bytes maxL ret R Q G) (hs : ∀ {p : Program} {e : Env} {below : List Frame} {T target : State} {m : MethodId} {c : Code}, At T m c below → p.tables.exec = Jvm.exec → c.code = bytes → Steps p.tables e below (T.setTop (mkF m pc' ls' st')) target → Steps p.tables e below (T.setTop (mkF m pc ls st)) target)
    (h : G pc' ls' st' A k n) : G pc ls st A k n := by
  obtain ⟨p, e, s, m, args, below, meth, c, hx, hby, hml, hown, hnm, hret, hlk, hZ, hK, hb0, rfl⟩ := H
  intro T locs X hR hF
  obtain ⟨s₂, o, h1, h2⟩ := h T locs X hR hF
  exact ⟨s₂, o, hs X.here hx hby h1, h2⟩
/-! ### loads, stores, constants -/
theorem IsGo.iloadN (H : IsGo l Z a0 K n0 b0 y bytes maxL ret R Q G) {i : Fin 4} (hd : Nx bytes pc (.iload_n i) 1 pc') {v : Int32} (hl : ls[i.val]? = some (.val (.int v))) (h : G pc' ls (.int v :: st) A k n) : G pc ls st A k n := by
  obtain ⟨hd, rfl⟩ := hd
  exact H.lift (fun hA hx hby hr => XS.iloadN hA hx rfl (hb hby hd) hl hr) h
theorem IsGo.iload (H : IsGo l Z a0 K n0 b0 y bytes maxL ret R Q G) {i : Nat} (hd : Nx bytes pc (.iload i) 2 pc') {v : Int32} (hl : ls[i]? = some (.val (.int v))) (h : G pc' ls (.int v :: st) A k n) : G pc ls st A k n := by
  obtain ⟨hd, rfl⟩ := hd
  exact H.lift (fun hA hx hby hr => XS.iload hA hx rfl (hb hby hd) hl hr) h
theorem IsGo.lloadN (H : IsGo l Z a0 K n0 b0 y bytes maxL ret R Q G) {i : Fin 4} (hd : Nx bytes pc (.lload_n i) 1 pc') {v : Int64} (hl : ls[i.val]? = some (.val (.long v))) (h : G pc' ls (.long v :: st) A k n) : G pc ls st A k n := by
  obtain ⟨hd, rfl⟩ := hd
  exact H.lift (fun hA hx hby hr => XS.lloadN hA hx rfl (hb hby hd) hl hr) h
theorem IsGo.lload (H : IsGo l Z a0 K n0 b0 y bytes maxL ret R Q G) {i : Nat} (hd : Nx bytes pc (.lload i) 2 pc') {v : Int64} (hl : ls[i]? = some (.val (.long v))) (h : G pc' ls (.long v :: st) A k n) : G pc ls st A k n := by
  obtain ⟨hd, rfl⟩ := hd
  exact H.lift (fun hA hx hby hr => XS.lload hA hx rfl (hb hby hd) hl hr) h
theorem IsGo.aloadN (H : IsGo l Z a0 K n0 b0 y bytes maxL ret R Q G) {i : Fin 4} (hd : Nx bytes pc (.aload_n i) 1 pc') {v : Value} (hl : ls[i.val]? = some (.val v)) (hv : v.isRef = true) (h : G pc' ls (v :: st) A k n) : G pc ls st A k n := by
  obtain ⟨hd, rfl⟩ := hd
  exact H.lift (fun hA hx hby hr => XS.aloadN hA hx rfl (hb hby hd) hl hv hr) h
theorem IsGo.aload (H : IsGo l Z a0 K n0 b0 y bytes maxL ret R Q G) {i : Nat} (hd : Nx bytes pc (.aload i) 2 pc') {v : Value} (hl : ls[i]? = some (.val v)) (hv : v.isRef = true) (h : G pc' ls (v :: st) A k n) : G pc ls st A k n := by
  obtain ⟨hd, rfl⟩ := hd
  exact H.lift (fun hA hx hby hr => XS.aload hA hx rfl (hb hby hd) hl hv hr) h
theorem IsGo.istoreN (H : IsGo l Z a0 K n0 b0 y bytes maxL ret R Q G) {i : Fin 4} (hd : Nx bytes pc (.istore_n i) 1 pc') {v : Int32} (hl : storeLocals ls i.val (.int v) = some ls') (h : G pc' ls' st A k n) : G pc ls (.int v :: st) A k n := by
  obtain ⟨hd, rfl⟩ := hd
  exact H.lift (fun hA hx hby hr => XS.istoreN hA hx rfl (hb hby hd) rfl hl hr) h
theorem IsGo.istore (H : IsGo l Z a0 K n0 b0 y bytes maxL ret R Q G) {i : Nat} (hd : Nx bytes pc (.istore i) 2 pc') {v : Int32} (hl : storeLocals ls i (.int v) = some ls') (h : G pc' ls' st A k n) : G pc ls (.int v :: st) A k n := by
  obtain ⟨hd, rfl⟩ := hd
  exact H.lift (fun hA hx hby hr => XS.istore hA hx rfl (hb hby hd) rfl hl hr) h
theorem IsGo.lstoreN (H : IsGo l Z a0 K n0 b0 y bytes maxL ret R Q G) {i : Fin 4} (hd : Nx bytes pc (.lstore_n i) 1 pc') {v : Int64} (hl : storeLocals ls i.val (.long v) = some ls') (h : G pc' ls' st A k n) : G pc ls (.long v :: st) A k n := by
  obtain ⟨hd, rfl⟩ := hd
  exact H.lift (fun hA hx hby hr => XS.lstoreN hA hx rfl (hb hby hd) rfl hl hr) h
theorem IsGo.lstore (H : IsGo l Z a0 K n0 b0 y bytes maxL ret R Q G) {i : Nat} (hd : Nx bytes pc (.lstore i) 2 pc') {v : Int64} (hl : storeLocals ls i (.long v) = some ls') (h : G pc' ls' st A k n) : G pc ls (.long v :: st) A k n := by
  obtain ⟨hd, rfl⟩ := hd
  exact H.lift (fun hA hx hby hr => XS.lstore hA hx rfl (hb hby hd) rfl hl hr) h
theorem IsGo.astoreN (H : IsGo l Z a0 K n0 b0 y bytes maxL ret R Q G) {i : Fin 4} (hd : Nx bytes pc (.astore_n i) 1 pc') {v : Value} (hv : v.isRef = true) (hl : storeLocals ls i.val v = some ls') (h : G pc' ls' st A k n) : G pc ls (v :: st) A k n := by
  obtain ⟨hd, rfl⟩ := hd
  exact H.lift (fun hA hx hby hr => XS.astoreN hA hx rfl (hb hby hd) rfl hv hl hr) h
theorem IsGo.astore (H : IsGo l Z a0 K n0 b0 y bytes maxL ret R Q G) {i : Nat} (hd : Nx bytes pc (.astore i) 2 pc') {v : Value} (hv : v.isRef = true) (hl : storeLocals ls i v = some ls') (h : G pc' ls' st A k n) : G pc ls (v :: st) A k n := by
  obtain ⟨hd, rfl⟩ := hd
  exact H.lift (fun hA hx hby hr => XS.astore hA hx rfl (hb hby hd) rfl hv hl hr) h
theorem IsGo.iconst (H : IsGo l Z a0 K n0 b0 y bytes maxL ret R Q G) {i : Int} (hd : Nx bytes pc (.iconst i) 1 pc') {v : Int32} (hv : Int32.ofInt i = v) (h : G pc' ls (.int v :: st) A k n) : G pc ls st A k n := by
  obtain ⟨hd, rfl⟩ := hd
  subst hv
  exact H.lift (fun hA hx hby hr => XS.iconst hA hx rfl (hb hby hd) hr) h
theorem IsGo.bipush (H : IsGo l Z a0 K n0 b0 y bytes maxL ret R Q G) {i : Int} (hd : Nx bytes pc (.bipush i) 2 pc') {v : Int32} (hv : (Int8.ofInt i).toInt32 = v) (h : G pc' ls (.int v :: st) A k n) : G pc ls st A k n := by
  obtain ⟨hd, rfl⟩ := hd
  subst hv
  exact H.lift (fun hA hx hby hr => XS.bipush hA hx rfl (hb hby hd) hr) h
theorem IsGo.sipush (H : IsGo l Z a0 K n0 b0 y bytes maxL ret R Q G) {i : Int} (hd : Nx bytes pc (.sipush i) 3 pc') {v : Int32} (hv : (Int16.ofInt i).toInt32 = v) (h : G pc' ls (.int v :: st) A k n) : G pc ls st A k n := by
  obtain ⟨hd, rfl⟩ := hd
  subst hv
  exact H.lift (fun hA hx hby hr => XS.sipush hA hx rfl (hb hby hd) hr) h
theorem IsGo.lconst (H : IsGo l Z a0 K n0 b0 y bytes maxL ret R Q G) {i : Fin 2} (hd : Nx bytes pc (.lconst i) 1 pc') {v : Int64} (hv : Int64.ofNat i = v) (h : G pc' ls (.long v :: st) A k n) : G pc ls st A k n := by
  obtain ⟨hd, rfl⟩ := hd
  subst hv
  exact H.lift (fun hA hx hby hr => XS.lconst hA hx rfl (hb hby hd) hr) h
theorem IsGo.aconstNull (H : IsGo l Z a0 K n0 b0 y bytes maxL ret R Q G) (hd : Nx bytes pc .aconst_null 1 pc') (h : G pc' ls (.null :: st) A k n) : G pc ls st A k n := by
  obtain ⟨hd, rfl⟩ := hd
  exact H.lift (fun hA hx hby hr => XS.aconstNull hA hx rfl (hb hby hd) hr) h
theorem IsGo.ldc (H : IsGo l Z a0 K n0 b0 y bytes maxL ret R Q G) {i : Nat} (hd : Nx bytes pc (.ldc i) 2 pc') {v : Int32} (w : (Jvm.Cond.constant y.cls i v).before a0 Z = true) (h : G pc' ls (.int v :: st) A k n) : G pc ls st A k n := by
  obtain ⟨hd, rfl⟩ := hd
  obtain ⟨p, e, s, m, args, below, meth, c, hx, hby, hml, hown, hnm, hret, hlk, hZ, hK, hb0, rfl⟩ := H
  intro T locs X hR hF
  obtain ⟨s₂, o, h1, h2⟩ := h T locs X hR hF
  exact ⟨s₂, o, X.ldcInt hx hown (mvT hZ w) (g := mkF m pc ls st) rfl (hb hby hd) _ h1, h2⟩
theorem IsGo.ldc2 (H : IsGo l Z a0 K n0 b0 y bytes maxL ret R Q G) {i : Nat} (hd : Nx bytes pc (.ldc2_w i) 3 pc') {v : Int64} (w : (Jvm.Cond.constantLong y.cls i v).before a0 Z = true) (h : G pc' ls (.long v :: st) A k n) : G pc ls st A k n := by
  obtain ⟨hd, rfl⟩ := hd
  obtain ⟨p, e, s, m, args, below, meth, c, hx, hby, hml, hown, hnm, hret, hlk, hZ, hK, hb0, rfl⟩ := H
  intro T locs X hR hF
  obtain ⟨s₂, o, h1, h2⟩ := h T locs X hR hF
  exact ⟨s₂, o, X.ldc2Long hx hown (mvT hZ w) (g := mkF m pc ls st) rfl (hb hby hd) _ h1, h2⟩
/-! ### sums -/
theorem IsGo.iadd (H : IsGo l Z a0 K n0 b0 y bytes maxL ret R Q G) (hd : Nx bytes pc .iadd 1 pc') {u v w : Int32} (hw : u + v = w) (h : G pc' ls (.int w :: st) A k n) : G pc ls (.int v :: .int u :: st) A k n := by
  obtain ⟨hd, rfl⟩ := hd
  subst hw
  exact H.lift (fun hA hx hby hr => XS.iadd hA hx rfl (hb hby hd) rfl hr) h
theorem IsGo.ladd (H : IsGo l Z a0 K n0 b0 y bytes maxL ret R Q G) (hd : Nx bytes pc .ladd 1 pc') {u v w : Int64} (hw : u + v = w) (h : G pc' ls (.long w :: st) A k n) : G pc ls (.long v :: .long u :: st) A k n := by
  obtain ⟨hd, rfl⟩ := hd
  subst hw
  exact H.lift (fun hA hx hby hr => XS.ladd hA hx rfl (hb hby hd) rfl hr) h
theorem IsGo.isub (H : IsGo l Z a0 K n0 b0 y bytes maxL ret R Q G) (hd : Nx bytes pc .isub 1 pc') {u v w : Int32} (hw : u - v = w) (h : G pc' ls (.int w :: st) A k n) : G pc ls (.int v :: .int u :: st) A k n := by
  obtain ⟨hd, rfl⟩ := hd
  subst hw
  exact H.lift (fun hA hx hby hr => XS.isub hA hx rfl (hb hby hd) rfl hr) h
theorem IsGo.lsub (H : IsGo l Z a0 K n0 b0 y bytes maxL ret R Q G) (hd : Nx bytes pc .lsub 1 pc') {u v w : Int64} (hw : u - v = w) (h : G pc' ls (.long w :: st) A k n) : G pc ls (.long v :: .long u :: st) A k n := by
  obtain ⟨hd, rfl⟩ := hd
  subst hw
  exact H.lift (fun hA hx hby hr => XS.lsub hA hx rfl (hb hby hd) rfl hr) h
theorem IsGo.imul (H : IsGo l Z a0 K n0 b0 y bytes maxL ret R Q G) (hd : Nx bytes pc .imul 1 pc') {u v w : Int32} (hw : u * v = w) (h : G pc' ls (.int w :: st) A k n) : G pc ls (.int v :: .int u :: st) A k n := by
  obtain ⟨hd, rfl⟩ := hd
  subst hw
  exact H.lift (fun hA hx hby hr => XS.imul hA hx rfl (hb hby hd) rfl hr) h
theorem IsGo.lmul (H : IsGo l Z a0 K n0 b0 y bytes maxL ret R Q G) (hd : Nx bytes pc .lmul 1 pc') {u v w : Int64} (hw : u * v = w) (h : G pc' ls (.long w :: st) A k n) : G pc ls (.long v :: .long u :: st) A k n := by
  obtain ⟨hd, rfl⟩ := hd
  subst hw
  exact H.lift (fun hA hx hby hr => XS.lmul hA hx rfl (hb hby hd) rfl hr) h
theorem IsGo.iand (H : IsGo l Z a0 K n0 b0 y bytes maxL ret R Q G) (hd : Nx bytes pc .iand 1 pc') {u v w : Int32} (hw : u &&& v = w) (h : G pc' ls (.int w :: st) A k n) : G pc ls (.int v :: .int u :: st) A k n := by
  obtain ⟨hd, rfl⟩ := hd
  subst hw
  exact H.lift (fun hA hx hby hr => XS.iand hA hx rfl (hb hby hd) rfl hr) h
theorem IsGo.land (H : IsGo l Z a0 K n0 b0 y bytes maxL ret R Q G) (hd : Nx bytes pc .land 1 pc') {u v w : Int64} (hw : u &&& v = w) (h : G pc' ls (.long w :: st) A k n) : G pc ls (.long v :: .long u :: st) A k n := by
  obtain ⟨hd, rfl⟩ := hd
  subst hw
  exact H.lift (fun hA hx hby hr => XS.land hA hx rfl (hb hby hd) rfl hr) h
theorem IsGo.ior (H : IsGo l Z a0 K n0 b0 y bytes maxL ret R Q G) (hd : Nx bytes pc .ior 1 pc') {u v w : Int32} (hw : u ||| v = w) (h : G pc' ls (.int w :: st) A k n) : G pc ls (.int v :: .int u :: st) A k n := by
  obtain ⟨hd, rfl⟩ := hd
  subst hw
  exact H.lift (fun hA hx hby hr => XS.ior hA hx rfl (hb hby hd) rfl hr) h
theorem IsGo.lor (H : IsGo l Z a0 K n0 b0 y bytes maxL ret R Q G) (hd : Nx bytes pc .lor 1 pc') {u v w : Int64} (hw : u ||| v = w) (h : G pc' ls (.long w :: st) A k n) : G pc ls (.long v :: .long u :: st) A k n := by
  obtain ⟨hd, rfl⟩ := hd
  subst hw
  exact H.lift (fun hA hx hby hr => XS.lor hA hx rfl (hb hby hd) rfl hr) h
theorem IsGo.ixor (H : IsGo l Z a0 K n0 b0 y bytes maxL ret R Q G) (hd : Nx bytes pc .ixor 1 pc') {u v w : Int32} (hw : u ^^^ v = w) (h : G pc' ls (.int w :: st) A k n) : G pc ls (.int v :: .int u :: st) A k n := by
  obtain ⟨hd, rfl⟩ := hd
  subst hw
  exact H.lift (fun hA hx hby hr => XS.ixor hA hx rfl (hb hby hd) rfl hr) h
theorem IsGo.lxor (H : IsGo l Z a0 K n0 b0 y bytes maxL ret R Q G) (hd : Nx bytes pc .lxor 1 pc') {u v w : Int64} (hw : u ^^^ v = w) (h : G pc' ls (.long w :: st) A k n) : G pc ls (.long v :: .long u :: st) A k n := by
  obtain ⟨hd, rfl⟩ := hd
  subst hw
  exact H.lift (fun hA hx hby hr => XS.lxor hA hx rfl (hb hby hd) rfl hr) h
theorem IsGo.ishl (H : IsGo l Z a0 K n0 b0 y bytes maxL ret R Q G) (hd : Nx bytes pc .ishl 1 pc') {u v w : Int32} (hw : u <<< (v &&& 31) = w) (h : G pc' ls (.int w :: st) A k n) : G pc ls (.int v :: .int u :: st) A k n := by
  obtain ⟨hd, rfl⟩ := hd
  subst hw
  exact H.lift (fun hA hx hby hr => XS.ishl hA hx rfl (hb hby hd) rfl hr) h
theorem IsGo.ishr (H : IsGo l Z a0 K n0 b0 y bytes maxL ret R Q G) (hd : Nx bytes pc .ishr 1 pc') {u v w : Int32} (hw : u >>> (v &&& 31) = w) (h : G pc' ls (.int w :: st) A k n) : G pc ls (.int v :: .int u :: st) A k n := by
  obtain ⟨hd, rfl⟩ := hd
  subst hw
  exact H.lift (fun hA hx hby hr => XS.ishr hA hx rfl (hb hby hd) rfl hr) h
theorem IsGo.iushr (H : IsGo l Z a0 K n0 b0 y bytes maxL ret R Q G) (hd : Nx bytes pc .iushr 1 pc') {u v w : Int32} (hw : (u.toUInt32 >>> (v &&& 31).toUInt32).toInt32 = w) (h : G pc' ls (.int w :: st) A k n) : G pc ls (.int v :: .int u :: st) A k n := by
  obtain ⟨hd, rfl⟩ := hd
  subst hw
  exact H.lift (fun hA hx hby hr => XS.iushr hA hx rfl (hb hby hd) rfl hr) h
theorem IsGo.lshl (H : IsGo l Z a0 K n0 b0 y bytes maxL ret R Q G) (hd : Nx bytes pc .lshl 1 pc') {u w : Int64} {v : Int32} (hw : u <<< (v &&& 0x3f).toInt64 = w) (h : G pc' ls (.long w :: st) A k n) : G pc ls (.int v :: .long u :: st) A k n := by
  obtain ⟨hd, rfl⟩ := hd
  subst hw
  exact H.lift (fun hA hx hby hr => XS.lshl hA hx rfl (hb hby hd) rfl hr) h
theorem IsGo.lshr (H : IsGo l Z a0 K n0 b0 y bytes maxL ret R Q G) (hd : Nx bytes pc .lshr 1 pc') {u w : Int64} {v : Int32} (hw : u >>> (v &&& 0x3f).toInt64 = w) (h : G pc' ls (.long w :: st) A k n) : G pc ls (.int v :: .long u :: st) A k n := by
  obtain ⟨hd, rfl⟩ := hd
  subst hw
  exact H.lift (fun hA hx hby hr => XS.lshr hA hx rfl (hb hby hd) rfl hr) h
theorem IsGo.lushr (H : IsGo l Z a0 K n0 b0 y bytes maxL ret R Q G) (hd : Nx bytes pc .lushr 1 pc') {u w : Int64} {v : Int32} (hw : (u.toUInt64 >>> (v &&& 0x3f).toInt64.toUInt64).toInt64 = w) (h : G pc' ls (.long w :: st) A k n) : G pc ls (.int v :: .long u :: st) A k n := by
  obtain ⟨hd, rfl⟩ := hd
  subst hw
  exact H.lift (fun hA hx hby hr => XS.lushr hA hx rfl (hb hby hd) rfl hr) h
theorem IsGo.ineg (H : IsGo l Z a0 K n0 b0 y bytes maxL ret R Q G) (hd : Nx bytes pc .ineg 1 pc') {u : Int32} {w : Int32} (hw : -u = w) (h : G pc' ls (.int w :: st) A k n) : G pc ls (.int u :: st) A k n := by
  obtain ⟨hd, rfl⟩ := hd
  subst hw
  exact H.lift (fun hA hx hby hr => XS.ineg hA hx rfl (hb hby hd) rfl hr) h
theorem IsGo.lneg (H : IsGo l Z a0 K n0 b0 y bytes maxL ret R Q G) (hd : Nx bytes pc .lneg 1 pc') {u : Int64} {w : Int64} (hw : -u = w) (h : G pc' ls (.long w :: st) A k n) : G pc ls (.long u :: st) A k n := by
  obtain ⟨hd, rfl⟩ := hd
  subst hw
  exact H.lift (fun hA hx hby hr => XS.lneg hA hx rfl (hb hby hd) rfl hr) h
theorem IsGo.i2l (H : IsGo l Z a0 K n0 b0 y bytes maxL ret R Q G) (hd : Nx bytes pc .i2l 1 pc') {u : Int32} {w : Int64} (hw : u.toInt64 = w) (h : G pc' ls (.long w :: st) A k n) : G pc ls (.int u :: st) A k n := by
  obtain ⟨hd, rfl⟩ := hd
  subst hw
  exact H.lift (fun hA hx hby hr => XS.i2l hA hx rfl (hb hby hd) rfl hr) h
theorem IsGo.l2i (H : IsGo l Z a0 K n0 b0 y bytes maxL ret R Q G) (hd : Nx bytes pc .l2i 1 pc') {u : Int64} {w : Int32} (hw : u.toInt32 = w) (h : G pc' ls (.int w :: st) A k n) : G pc ls (.long u :: st) A k n := by
  obtain ⟨hd, rfl⟩ := hd
  subst hw
  exact H.lift (fun hA hx hby hr => XS.l2i hA hx rfl (hb hby hd) rfl hr) h
theorem IsGo.i2b (H : IsGo l Z a0 K n0 b0 y bytes maxL ret R Q G) (hd : Nx bytes pc .i2b 1 pc') {u : Int32} {w : Int32} (hw : u.toInt8.toInt32 = w) (h : G pc' ls (.int w :: st) A k n) : G pc ls (.int u :: st) A k n := by
  obtain ⟨hd, rfl⟩ := hd
  subst hw
  exact H.lift (fun hA hx hby hr => XS.i2b hA hx rfl (hb hby hd) rfl hr) h
theorem IsGo.idiv (H : IsGo l Z a0 K n0 b0 y bytes maxL ret R Q G) (hd : Nx bytes pc .idiv 1 pc') {u v w : Int32} (hv : v ≠ 0) (hw : u / v = w) (h : G pc' ls (.int w :: st) A k n) : G pc ls (.int v :: .int u :: st) A k n := by
  obtain ⟨hd, rfl⟩ := hd
  subst hw
  exact H.lift (fun hA hx hby hr => XS.idiv hA hx rfl (hb hby hd) rfl hv hr) h
theorem IsGo.irem (H : IsGo l Z a0 K n0 b0 y bytes maxL ret R Q G) (hd : Nx bytes pc .irem 1 pc') {u v w : Int32} (hv : v ≠ 0) (hw : u % v = w) (h : G pc' ls (.int w :: st) A k n) : G pc ls (.int v :: .int u :: st) A k n := by
  obtain ⟨hd, rfl⟩ := hd
  subst hw
  have q : u - u / v * v = u % v := irem_eq_mod u v
  rw [← q] at h
  exact H.lift (fun hA hx hby hr => XS.irem hA hx rfl (hb hby hd) rfl hv hr) h
theorem IsGo.ldiv (H : IsGo l Z a0 K n0 b0 y bytes maxL ret R Q G) (hd : Nx bytes pc .ldiv 1 pc') {u v w : Int64} (hv : v ≠ 0) (hw : u / v = w) (h : G pc' ls (.long w :: st) A k n) : G pc ls (.long v :: .long u :: st) A k n := by
  obtain ⟨hd, rfl⟩ := hd
  subst hw
  exact H.lift (fun hA hx hby hr => XS.ldiv hA hx rfl (hb hby hd) rfl hv hr) h
theorem IsGo.lrem (H : IsGo l Z a0 K n0 b0 y bytes maxL ret R Q G) (hd : Nx bytes pc .lrem 1 pc') {u v w : Int64} (hv : v ≠ 0) (hw : u % v = w) (h : G pc' ls (.long w :: st) A k n) : G pc ls (.long v :: .long u :: st) A k n := by
  obtain ⟨hd, rfl⟩ := hd
  subst hw
  rw [← lrem_mod u v] at h
  exact H.lift (fun hA hx hby hr => XS.lrem hA hx rfl (hb hby hd) rfl hv hr) h
theorem IsGo.iinc (H : IsGo l Z a0 K n0 b0 y bytes maxL ret R Q G) {i : Nat} {cst : Int} (hd : Nx bytes pc (.iinc i cst) 3 pc') {u w : Int32} (hl : ls[i]? = some (.val (.int u))) (hw : u + Int32.ofInt cst = w) (hl' : storeLocals ls i (.int w) = some ls') (h : G pc' ls' st A k n) : G pc ls st A k n := by
  obtain ⟨hd, rfl⟩ := hd
  subst hw
  exact H.lift (fun hA hx hby hr => XS.iinc hA hx rfl (hb hby hd) hl hl' hr) h
/-! ### the stack -/
theorem IsGo.dup (H : IsGo l Z a0 K n0 b0 y bytes maxL ret R Q G) (hd : Nx bytes pc .dup 1 pc') {u : Value} (hc : u.category = 1) (h : G pc' ls (u :: u :: st) A k n) : G pc ls (u :: st) A k n := by
  obtain ⟨hd, rfl⟩ := hd
  exact H.lift (fun hA hx hby hr => XS.dup hA hx rfl (hb hby hd) rfl hc hr) h
theorem IsGo.dupX1 (H : IsGo l Z a0 K n0 b0 y bytes maxL ret R Q G) (hd : Nx bytes pc .dup_x1 1 pc') {u v : Value} (hc : u.category = 1) (hc' : v.category = 1) (h : G pc' ls (u :: v :: u :: st) A k n) : G pc ls (u :: v :: st) A k n := by
  obtain ⟨hd, rfl⟩ := hd
  exact H.lift (fun hA hx hby hr => XS.dupX1 hA hx rfl (hb hby hd) rfl hc hc' hr) h
theorem IsGo.dup2 (H : IsGo l Z a0 K n0 b0 y bytes maxL ret R Q G) (hd : Nx bytes pc .dup2 1 pc') {u v : Value} (hc : u.category = 1) (hc' : v.category = 1) (h : G pc' ls (u :: v :: u :: v :: st) A k n) : G pc ls (u :: v :: st) A k n := by
  obtain ⟨hd, rfl⟩ := hd
  exact H.lift (fun hA hx hby hr => XT.dup2 hA hx rfl (hb hby hd) rfl hc hc' hr) h
theorem IsGo.dup2L (H : IsGo l Z a0 K n0 b0 y bytes maxL ret R Q G) (hd : Nx bytes pc .dup2 1 pc') {u : Int64} (h : G pc' ls (.long u :: .long u :: st) A k n) : G pc ls (.long u :: st) A k n := by
  obtain ⟨hd, rfl⟩ := hd
  exact H.lift (fun hA hx hby hr => XT.dup2L hA hx rfl (hb hby hd) rfl hr) h
theorem IsGo.pop (H : IsGo l Z a0 K n0 b0 y bytes maxL ret R Q G) (hd : Nx bytes pc .pop 1 pc') {u : Value} (hc : u.category = 1) (h : G pc' ls st A k n) : G pc ls (u :: st) A k n := by
  obtain ⟨hd, rfl⟩ := hd
  exact H.lift (fun hA hx hby hr => XS.pop hA hx rfl (hb hby hd) rfl hc hr) h
theorem dupX2_step {tb : Tables} [Ours tb] {e : Env} {below : List Frame} {T target : State} {m : MethodId} {c : Code} {g : JFrame} (h : At T m c below) (hx : tb.exec = Jvm.exec) (hg : g.method = m) {u v w : Value} {rest : List Value} (hd : decode c.code g.pc = .ok (.dup_x2, 1)) (hs : g.stack = u :: v :: w :: rest) (hc : u.category = 1) (hc2 : v.category = 1) (hc3 : w.category = 1)
    (hr : Steps tb e below (T.setTop { g with pc := g.pc + 1, stack := u :: v :: w :: u :: rest }) target) : Steps tb e below (T.setTop g) target := by
  subst hg
  jvm_step h [h.top, hx, hd, hs, hc, hc2, hc3, dup_x2.wp_sem]
  exact hr
theorem pop2L_step {tb : Tables} [Ours tb] {e : Env} {below : List Frame} {T target : State} {m : MethodId} {c : Code} {g : JFrame} (h : At T m c below) (hx : tb.exec = Jvm.exec) (hg : g.method = m) {u : Int64} {rest : List Value} (hd : decode c.code g.pc = .ok (.pop2, 1)) (hs : g.stack = .long u :: rest)
    (hr : Steps tb e below (T.setTop { g with pc := g.pc + 1, stack := rest }) target) : Steps tb e below (T.setTop g) target := by
  subst hg
  jvm_step h [h.top, hx, hd, hs, pop2.wp_sem, Value.category]
  exact hr
theorem IsGo.dupX2 (H : IsGo l Z a0 K n0 b0 y bytes maxL ret R Q G) (hd : Nx bytes pc .dup_x2 1 pc') {u v w : Value} (hc : u.category = 1) (hc' : v.category = 1) (hc3 : w.category = 1) (h : G pc' ls (u :: v :: w :: u :: st) A k n) : G pc ls (u :: v :: w :: st) A k n := by
  obtain ⟨hd, rfl⟩ := hd
  exact H.lift (fun hA hx hby hr => dupX2_step hA hx rfl (hb hby hd) rfl hc hc' hc3 hr) h
theorem IsGo.pop2L (H : IsGo l Z a0 K n0 b0 y bytes maxL ret R Q G) (hd : Nx bytes pc .pop2 1 pc') {u : Int64} (h : G pc' ls st A k n) : G pc ls (.long u :: st) A k n := by
  obtain ⟨hd, rfl⟩ := hd
  exact H.lift (fun hA hx hby hr => pop2L_step hA hx rfl (hb hby hd) rfl hr) h
/-! ### branches -/
theorem IsGo.goto (H : IsGo l Z a0 K n0 b0 y bytes maxL ret R Q G) {f : Nat} (hd : Bx bytes pc .goto pc' f) (h : G pc' ls st A k n) : G pc ls st A k n := by
  obtain ⟨o, hd, ho, hp, -⟩ := hd
  exact H.lift (fun hA hx hby hr => XS.goto hA hx rfl (pc0 := pc) (pc' := pc') rfl (hb hby hd) ho hp hr) h
/-- what a comparison of two ints says -/
def CP : ClassFile.Cond → Int32 → Int32 → Prop
  | .eq, u, v => u = v
  | .ne, u, v => ¬ u = v
  | .lt, u, v => u < v
  | .ge, u, v => ¬ u < v
  | .gt, u, v => v < u
  | .le, u, v => ¬ v < u
def CPL : ClassFile.Cond → Int64 → Int64 → Prop
  | .eq, u, v => u = v
  | .ne, u, v => ¬ u = v
  | .lt, u, v => u < v
  | .ge, u, v => ¬ u < v
  | .gt, u, v => v < u
  | .le, u, v => ¬ v < u
def ng : ClassFile.Cond → ClassFile.Cond
  | .eq => .ne | .ne => .eq | .lt => .ge | .ge => .lt | .gt => .le | .le => .gt
theorem cp_or (cd : ClassFile.Cond) (u v : Int32) : CP cd u v ∨ CP (ng cd) u v := by
  cases cd <;> simp only [CP, ng] <;> first | exact Classical.em _ | exact (Classical.em _).symm
theorem cpl_or (cd : ClassFile.Cond) (u v : Int64) : CPL cd u v ∨ CPL (ng cd) u v := by
  cases cd <;> simp only [CPL, ng] <;> first | exact Classical.em _ | exact (Classical.em _).symm
theorem cp_t {cd : ClassFile.Cond} {u v : Int32} (h : CP cd u v) : if_icmp.holds cd u v = true := by
  cases cd <;> simp only [CP] at h
  · exact XT.ii_eq_t h
  · exact XT.ii_ne_t h
  · exact XT.ii_lt_t h
  · exact XT.ii_ge_t h
  · exact XT.ii_gt_t h
  · exact XT.ii_le_t h
theorem cp_f {cd : ClassFile.Cond} {u v : Int32} (h : CP (ng cd) u v) : if_icmp.holds cd u v = false := by
  cases cd <;> simp only [CP, ng] at h
  · exact XT.ii_eq_f h
  · exact XT.ii_ne_f h
  · exact XT.ii_lt_f h
  · exact XT.ii_ge_f h
  · exact XT.ii_gt_f h
  · exact XT.ii_le_f h
theorem IsGo.icmpT (H : IsGo l Z a0 K n0 b0 y bytes maxL ret R Q G) {cd : ClassFile.Cond} {t f : Nat} (hd : Bx bytes pc (.if_icmp cd) t f) {u v : Int32} (hc : CP cd u v) (h : G t ls st A k n) : G pc ls (.int v :: .int u :: st) A k n := by
  obtain ⟨o, hd, ho, hp, rfl⟩ := hd
  exact H.lift (fun hA hx hby hr => XS.icmpYes hA hx rfl (pc0 := pc) (pc' := t) rfl (hb hby hd) rfl (cp_t hc) ho hp hr) h
theorem IsGo.icmpF (H : IsGo l Z a0 K n0 b0 y bytes maxL ret R Q G) {cd : ClassFile.Cond} {t f : Nat} (hd : Bx bytes pc (.if_icmp cd) t f) {u v : Int32} (hc : CP (ng cd) u v) (h : G f ls st A k n) : G pc ls (.int v :: .int u :: st) A k n := by
  obtain ⟨o, hd, ho, hp, rfl⟩ := hd
  exact H.lift (fun hA hx hby hr => XS.icmpNo hA hx rfl (hb hby hd) rfl (cp_f hc) hr) h
theorem IsGo.icmpS (H : IsGo l Z a0 K n0 b0 y bytes maxL ret R Q G) {cd : ClassFile.Cond} {t f : Nat} (hd : Bx bytes pc (.if_icmp cd) t f) {u v : Int32} (h1 : CP cd u v → G t ls st A k n) (h2 : CP (ng cd) u v → G f ls st A k n) : G pc ls (.int v :: .int u :: st) A k n :=
  (cp_or cd u v).elim (fun q => H.icmpT hd q (h1 q)) (fun q => H.icmpF hd q (h2 q))
theorem IsGo.ifT (H : IsGo l Z a0 K n0 b0 y bytes maxL ret R Q G) {cd : ClassFile.Cond} {t f : Nat} (hd : Bx bytes pc (.ifCond cd) t f) {u : Int32} (hc : CP cd u 0) (h : G t ls st A k n) : G pc ls (.int u :: st) A k n := by
  obtain ⟨o, hd, ho, hp, rfl⟩ := hd
  exact H.lift (fun hA hx hby hr => XS.ifYes hA hx rfl (pc0 := pc) (pc' := t) rfl (hb hby hd) rfl (by rw [if0]; exact cp_t hc) ho hp hr) h
theorem IsGo.ifF (H : IsGo l Z a0 K n0 b0 y bytes maxL ret R Q G) {cd : ClassFile.Cond} {t f : Nat} (hd : Bx bytes pc (.ifCond cd) t f) {u : Int32} (hc : CP (ng cd) u 0) (h : G f ls st A k n) : G pc ls (.int u :: st) A k n := by
  obtain ⟨o, hd, ho, hp, rfl⟩ := hd
  exact H.lift (fun hA hx hby hr => XS.ifNo hA hx rfl (hb hby hd) rfl (by rw [if0]; exact cp_f hc) hr) h
theorem IsGo.ifS (H : IsGo l Z a0 K n0 b0 y bytes maxL ret R Q G) {cd : ClassFile.Cond} {t f : Nat} (hd : Bx bytes pc (.ifCond cd) t f) {u : Int32} (h1 : CP cd u 0 → G t ls st A k n) (h2 : CP (ng cd) u 0 → G f ls st A k n) : G pc ls (.int u :: st) A k n :=
  (cp_or cd u 0).elim (fun q => H.ifT hd q (h1 q)) (fun q => H.ifF hd q (h2 q))
theorem cpl_cp {cd : ClassFile.Cond} {u v : Int64} (h : CPL cd u v) : CP cd (lcmpW u v) 0 := by
  cases cd <;> simp only [CPL] at h <;> simp only [CP]
  · exact (lw_eq u v).mpr h
  · exact fun q => h ((lw_eq u v).mp q)
  · exact (lw_lt u v).mpr h
  · exact fun q => h ((lw_lt u v).mp q)
  · exact (lw_gt u v).mpr h
  · exact fun q => h ((lw_gt u v).mp q)
theorem IsGo.lcmp (H : IsGo l Z a0 K n0 b0 y bytes maxL ret R Q G) (hd : Nx bytes pc .lcmp 1 pc') {u v : Int64} (h : G pc' ls (.int (lcmpW u v) :: st) A k n) : G pc ls (.long v :: .long u :: st) A k n := by
  obtain ⟨hd, rfl⟩ := hd
  exact H.lift (fun hA hx hby hr => XS.lcmp hA hx rfl (hb hby hd) rfl hr) h
theorem IsGo.lifT (H : IsGo l Z a0 K n0 b0 y bytes maxL ret R Q G) (hd0 : Nx bytes pc .lcmp 1 pc') {cd : ClassFile.Cond} {t f : Nat} (hd : Bx bytes pc' (.ifCond cd) t f) {u v : Int64} (hc : CPL cd u v) (h : G t ls st A k n) : G pc ls (.long v :: .long u :: st) A k n :=
  H.lcmp hd0 (H.ifT hd (cpl_cp hc) h)
theorem cpl_ng {cd : ClassFile.Cond} {u v : Int64} (h : CPL (ng cd) u v) : CP (ng cd) (lcmpW u v) 0 := cpl_cp h
theorem IsGo.lifF (H : IsGo l Z a0 K n0 b0 y bytes maxL ret R Q G) (hd0 : Nx bytes pc .lcmp 1 pc') {cd : ClassFile.Cond} {t f : Nat} (hd : Bx bytes pc' (.ifCond cd) t f) {u v : Int64} (hc : CPL (ng cd) u v) (h : G f ls st A k n) : G pc ls (.long v :: .long u :: st) A k n :=
  H.lcmp hd0 (H.ifF hd (cpl_ng hc) h)
theorem IsGo.lifS (H : IsGo l Z a0 K n0 b0 y bytes maxL ret R Q G) (hd0 : Nx bytes pc .lcmp 1 pc') {cd : ClassFile.Cond} {t f : Nat} (hd : Bx bytes pc' (.ifCond cd) t f) {u v : Int64} (h1 : CPL cd u v → G t ls st A k n) (h2 : CPL (ng cd) u v → G f ls st A k n) : G pc ls (.long v :: .long u :: st) A k n :=
  (cpl_or cd u v).elim (fun q => H.lifT hd0 hd q (h1 q)) (fun q => H.lifF hd0 hd q (h2 q))
theorem IsGo.ifnullT (H : IsGo l Z a0 K n0 b0 y bytes maxL ret R Q G) {t f : Nat} (hd : Bx bytes pc .ifnull t f) (h : G t ls st A k n) : G pc ls (.null :: st) A k n := by
  obtain ⟨o, hd, ho, hp, rfl⟩ := hd
  exact H.lift (fun hA hx hby hr => XS.ifnullYes hA hx rfl (pc0 := pc) (pc' := t) rfl (hb hby hd) rfl ho hp hr) h
theorem IsGo.ifnullF (H : IsGo l Z a0 K n0 b0 y bytes maxL ret R Q G) {t f : Nat} (hd : Bx bytes pc .ifnull t f) {b : Addr} (h : G f ls st A k n) : G pc ls (.ref b :: st) A k n := by
  obtain ⟨o, hd, ho, hp, rfl⟩ := hd
  exact H.lift (fun hA hx hby hr => XS.ifnullNo hA hx rfl (hb hby hd) rfl hr) h
theorem IsGo.ifnonnullT (H : IsGo l Z a0 K n0 b0 y bytes maxL ret R Q G) {t f : Nat} (hd : Bx bytes pc .ifnonnull t f) {b : Addr} (h : G t ls st A k n) : G pc ls (.ref b :: st) A k n := by
  obtain ⟨o, hd, ho, hp, rfl⟩ := hd
  exact H.lift (fun hA hx hby hr => XS.ifnonnullYes hA hx rfl (pc0 := pc) (pc' := t) rfl (hb hby hd) rfl ho hp hr) h
theorem IsGo.ifnonnullF (H : IsGo l Z a0 K n0 b0 y bytes maxL ret R Q G) {t f : Nat} (hd : Bx bytes pc .ifnonnull t f) (h : G f ls st A k n) : G pc ls (.null :: st) A k n := by
  obtain ⟨o, hd, ho, hp, rfl⟩ := hd
  exact H.lift (fun hA hx hby hr => XS.ifnonnullNo hA hx rfl (hb hby hd) rfl hr) h
theorem IsGo.acmp (H : IsGo l Z a0 K n0 b0 y bytes maxL ret R Q G) {cd : ClassFile.ACond} {t f : Nat} (hd : Bx bytes pc (.if_acmp cd) t f) {u v : Value} (h1 : u.isRef = true) (h2 : v.isRef = true) {same : Bool} (hq : decide (u = v) = same) (h : G (if acV cd same = true then t else f) ls st A k n) : G pc ls (v :: u :: st) A k n := by
  obtain ⟨o, hd, ho, hp, rfl⟩ := hd
  obtain ⟨p, e, s, m, args, below, meth, c, hx, hby, hml, hown, hnm, hret, hlk, hZ, hK, hb0, rfl⟩ := H
  intro T locs X hR hF
  obtain ⟨s₂, oo, q1, q2⟩ := h T locs X hR hF
  exact ⟨s₂, oo, RoadKit.acmp X hx (g := mkF m pc ls (v :: u :: st)) rfl h1 h2 (pc0 := pc) rfl (hb hby hd) rfl hq ho (by rw [hp]) q1, q2⟩
/-! ### the heap -/
def FL (Z : State) (a0 : Array Value) (K : KTab) (own : String) (idx k j : Nat) : Prop := ∃ C fs O nm d host, K[k]? = some (C, fs) ∧ fs[j]? = some (O, nm, d) ∧ ((Jvm.Cond.fieldLink own idx O nm d).before a0 Z = true ∨ (Jvm.Cond.fieldLinkNest own idx O nm d host).before a0 Z = true)
def PL (Z : State) (a0 : Array Value) (K : KTab) (own mname : String) (idx k j : Nat) (ty : FieldType) : Prop := ∃ C fs O nm d host, K[k]? = some (C, fs) ∧ fs[j]? = some (O, nm, d) ∧ ((Jvm.Cond.fieldLink own idx O nm d).before a0 Z = true ∨ (Jvm.Cond.fieldLinkNest own idx O nm d host).before a0 Z = true) ∧
  ((Jvm.Cond.lays C O nm d).before a0 Z = true ∨ ((Jvm.Cond.laysFinal C O nm d).before a0 Z = true ∧ own = O ∧ mname = "<init>")) ∧ parseFieldDescriptor d = some ty
theorem IsGo.getfield (H : IsGo l Z a0 K n0 b0 y bytes maxL ret R Q G) {idx kk j i : Nat} (hd : Nx bytes pc (.getfield idx) 3 pc') (L : FL Z a0 K y.cls idx kk j) {vs : List Value} {v : Value} (hA : A[i]? = some (.inl (kk, vs))) (hv : vs[j]? = some v) (h : G pc' ls (v :: st) A k n) : G pc ls (.ref (n0 + i) :: st) A k n := by
  obtain ⟨hd, rfl⟩ := hd
  obtain ⟨p, e, s, m, args, below, meth, c, hx, hby, hml, hown, hnm, hret, hlk, hZ, hK, hb0, rfl⟩ := H
  obtain ⟨C, fs, O, nm, d, host, hk, hj, w⟩ := L
  intro T locs X hR hF
  obtain ⟨C', fs', hk', hE, hlen, hf⟩ := hR.2 i _ hA
  cases hk.symm.trans hk'
  obtain ⟨T', X', eT, sp⟩ := getF X hx hZ hown w Via.refl rfl (hf j _ v hj hv) (g := mkF m pc ls (.ref (n0 + i) :: st)) rfl rfl (hb hby hd)
  obtain ⟨s₂, o, h1, h2⟩ := h T' locs X' (by rw [eT]; exact hR) hF
  exact ⟨s₂, o, sp _ h1, h2⟩
theorem IsGo.putfield (H : IsGo l Z a0 K n0 b0 y bytes maxL ret R Q G) {idx kk j i : Nat} {ty : FieldType} (hd : Nx bytes pc (.putfield idx) 3 pc') (L : PL Z a0 K y.cls y.name idx kk j ty) {vs : List Value} {v : Value} (hA : A[i]? = some (.inl (kk, vs))) (hn : narrow ty v = v) (hf : fits ty v = true) (hA' : A.set i (.inl (kk, vs.set j v)) = A') (h : G pc' ls st A' k n) : G pc ls (v :: .ref (n0 + i) :: st) A k n := by
  obtain ⟨hd, rfl⟩ := hd
  obtain ⟨p, e, s, m, args, below, meth, c, hx, hby, hml, hown, hnm, hret, hlk, hZ, hK, hb0, rfl⟩ := H
  obtain ⟨C, fs, O, nm, d, host, hk, hj, w, wl, hty⟩ := L
  subst hA'
  intro T locs X hR hF
  have hO := hR.2 i _ hA
  obtain ⟨C', fs', hk', hE, hlen, hfl⟩ := hR.2 i _ hA
  cases hk.symm.trans hk'
  obtain ⟨⟨ki, wi⟩, -, -⟩ := hK kk C fs hk
  have hlt : j < vs.length := by rw [hlen]; exact (List.getElem?_eq_some_iff.mp hj).1
  obtain ⟨T', h', X', eT, W, sp⟩ := putF X hx hZ hown w Via.refl rfl (hfl j _ vs[j] hj (List.getElem?_eq_getElem hlt)) hE (by rw [hnm]; exact wl) wi hty hn hf (g := mkF m pc ls (v :: .ref (n0 + i) :: st)) rfl rfl (hb hby hd)
  obtain ⟨s₂, o, h1, h2⟩ := h T' _ X' (by rw [eT]; exact hR.set W (hO.setF hK hk hj W)) (Fr.snoc X' hF (Nat.le_add_right _ _))
  exact ⟨s₂, o, sp _ h1, h2⟩
def NL (Z : State) (a0 : Array Value) (K : KTab) (own : String) (idx kk sz : Nat) (dv : List Value) : Prop := ∃ C fs, K[kk]? = some (C, fs) ∧ (Jvm.Cond.classLink own idx C).before a0 Z = true ∧ (Jvm.Cond.instantiable C sz).before a0 Z = true ∧ (Jvm.Cond.initialized C).before a0 Z = true ∧ fs.map (fun f => (parseFieldDescriptor f.2.2).map defaultValue) = dv.map some
theorem size_up {p : Program} {e : Env} {s T' : State} {m : MethodId} {args : Array Value} {below : List Frame} {meth : Method} {c : Code} {locs : List Loc} {h : Heap} (X : Stand p l e R s m args below meth c T' locs (k + 1) n) (hb : s.heap.size = n0 + b0) (hh : h.size = n0 + A.length) (hk : A.length = b0 + k) (hlt : h.size < T'.heap.size) : T'.heap.size = n0 + (A.length + 1) := by
  have := X.heapSize
  omega
theorem IsGo.new (H : IsGo l Z a0 K n0 b0 y bytes maxL ret R Q G) {idx kk sz i : Nat} {dv : List Value} (hd : Nx bytes pc (.new idx) 3 pc') (L : NL Z a0 K y.cls idx kk sz dv) (hk : A.length = b0 + k) (hc : k + 1 ≤ R.cells) (hs : n + sz ≤ R.slots) (hi : A.length = i) (hA' : A ++ [.inl (kk, dv)] = A') (hk' : k + 1 = k') (hn' : n + sz = n') (h : G pc' ls (.ref (n0 + i) :: st) A' k' n') : G pc ls st A k n := by
  obtain ⟨hd, rfl⟩ := hd
  obtain ⟨p, e, s, m, args, below, meth, c, hx, hby, hml, hown, hnm, hret, hlk, hZ, hK, hb0, rfl⟩ := H
  obtain ⟨C, fs, hkk, w1, w2, w3, hdv⟩ := L
  subst hA' hk' hn' hi
  intro T locs X hR hF
  obtain ⟨T', h', X', eT, E, EA, D, -, sp⟩ := newO X hx hZ hown w1 w2 w3 rfl (g := mkF m pc ls st) rfl (hb hby hd) hc hs
  have hsz : h'.size = n0 + (A.length + 1) := by rw [← eT]; exact size_up X' hb0 hR.1 hk (by rw [eT]; exact EA.lt)
  rw [hR.1] at EA D
  have hlen : dv.length = fs.length := by simpa using (congrArg List.length hdv).symm
  obtain ⟨-, kl, -⟩ := hK kk C fs hkk
  have hN : ObAt Z K h' (n0 + A.length) (.inl (kk, dv)) := ⟨C, fs, hkk, EA, hlen, fun j f v q r => by
    obtain ⟨L1, t, ht⟩ := kl j f q
    have e1 : (fs.map (fun f => (parseFieldDescriptor f.2.2).map defaultValue))[j]? = some (some (defaultValue t)) := by simp [List.getElem?_map, q, ht]
    rw [hdv, List.getElem?_map, r] at e1
    simp only [Option.map_some, Option.some.injEq] at e1
    rw [e1]; exact D L1 ht⟩
  obtain ⟨s₂, o, h1, h2⟩ := h T' locs X' (by rw [eT]; exact hR.push E hsz hN) hF
  rw [← hR.1] at h1
  exact ⟨s₂, o, sp _ h1, h2⟩
def AL (Z : State) (a0 : Array Value) (t : FieldType) : Prop := (Jvm.Cond.arrayClass t).before a0 Z = true
theorem tn_of {z : Int32} {N : Nat} (h : z.toInt = (N : Int)) : ¬ z < 0 ∧ z.toNatClampNeg = N := by
  constructor
  · intro q
    have := Int32.lt_iff_toInt_lt.mp q
    simp at this; omega
  · simp [Int32.toNatClampNeg, h]
theorem IsGo.newarray (H : IsGo l Z a0 K n0 b0 y bytes maxL ret R Q G) {aty : ArrayType} {i N cap : Nat} {z : Int32} {vs : List Value} {ty : FieldType} (hd : Nx bytes pc (.newarray aty) 2 pc') (hty : newarray.typeOf aty = ty) (w : AL Z a0 ty) (hz : z.toInt = (N : Int)) (hvs : List.replicate N (defaultValue ty) = vs) (hcap : N ≤ cap) (hbig : cap * 8 ≤ 536870912) (hk : A.length = b0 + k) (hc : k + 1 ≤ R.cells) (hs : n + cap ≤ R.slots) (hi : A.length = i) (hA' : A ++ [.inr (ty, vs)] = A') (hk' : k + 1 = k') (hn' : n + cap = n') (h : G pc' ls (.ref (n0 + i) :: st) A' k' n') : G pc ls (.int z :: st) A k n := by
  obtain ⟨hd, rfl⟩ := hd
  obtain ⟨p, e, s, m, args, below, meth, c, hx, hby, hml, hown, hnm, hret, hlk, hZ, hK, hb0, rfl⟩ := H
  subst hA' hk' hn' hi hty
  obtain ⟨z1, z2⟩ := tn_of hz
  intro T locs X hR hF
  obtain ⟨T', h', cA, X', eT, E, Ar, EA, sp⟩ := newPE X hx hZ w rfl (g := mkF m pc ls (.int z :: st)) rfl (hb hby hd) rfl z1 (by rw [z2]; exact hcap) hbig hc hs rfl
  have hsz : h'.size = n0 + (A.length + 1) := by rw [← eT]; exact size_up X' hb0 hR.1 hk (by rw [eT]; exact EA.lt)
  rw [hR.1] at EA Ar
  have hN : ObAt Z K h' (n0 + A.length) (.inr (newarray.typeOf aty, vs)) := ⟨⟨EA, fun w hw => by rw [← hvs] at hw; rw [(List.mem_replicate.mp hw).2]; cases aty <;> rfl⟩, _, Ar, by simp [newA, z2, ← hvs], fun C q => by cases aty <;> simp [newarray.typeOf] at q⟩
  obtain ⟨s₂, o, h1, h2⟩ := h T' locs X' (by rw [eT]; exact hR.push E hsz hN) hF
  rw [← hR.1] at h1
  exact ⟨s₂, o, sp _ h1, h2⟩
theorem IsGo.anewarray (H : IsGo l Z a0 K n0 b0 y bytes maxL ret R Q G) {idx i N cap : Nat} {z : Int32} {vs : List Value} {C : String} (hd : Nx bytes pc (.anewarray idx) 3 pc') (w1 : (Jvm.Cond.classLink y.cls idx C).before a0 Z = true) (w2 : (Jvm.Cond.arrayOver (.object C)).before a0 Z = true) (hz : z.toInt = (N : Int)) (hvs : List.replicate N Value.null = vs) (hcap : N ≤ cap) (hbig : cap * 8 ≤ 536870912) (hk : A.length = b0 + k) (hc : k + 1 ≤ R.cells) (hs : n + cap ≤ R.slots) (hi : A.length = i) (hA' : A ++ [.inr (.object C, vs)] = A') (hk' : k + 1 = k') (hn' : n + cap = n') (h : G pc' ls (.ref (n0 + i) :: st) A' k' n') : G pc ls (.int z :: st) A k n := by
  obtain ⟨hd, rfl⟩ := hd
  obtain ⟨p, e, s, m, args, below, meth, c, hx, hby, hml, hown, hnm, hret, hlk, hZ, hK, hb0, rfl⟩ := H
  subst hA' hk' hn' hi
  obtain ⟨z1, z2⟩ := tn_of hz
  intro T locs X hR hF
  obtain ⟨T', h', cA, X', eT, E, Ar, EA, Ov, sp⟩ := newRE X hx hZ hown w1 w2 rfl (g := mkF m pc ls (.int z :: st)) rfl (hb hby hd) rfl z1 (by rw [z2]; exact hcap) hbig hc hs rfl
  have hsz : h'.size = n0 + (A.length + 1) := by rw [← eT]; exact size_up X' hb0 hR.1 hk (by rw [eT]; exact EA.lt)
  rw [hR.1] at EA Ar
  have hN : ObAt Z K h' (n0 + A.length) (.inr (.object C, vs)) := ⟨⟨EA, fun w hw => by rw [← hvs] at hw; rw [(List.mem_replicate.mp hw).2]; rfl⟩, _, Ar, by simp [newA, z2, ← hvs, defaultValue], fun C' q => by cases q; exact Ov⟩
  obtain ⟨s₂, o, h1, h2⟩ := h T' locs X' (by rw [eT]; exact hR.push E hsz hN) hF
  rw [← hR.1] at h1
  exact ⟨s₂, o, sp _ h1, h2⟩
theorem arr_in {c : Cell} {vs : List Value} {z : Int32} {j : Nat} (hz : z.toInt = (j : Int)) (hs : c.slots = vs.toArray) (hj : j < vs.length) : ¬ (z < 0 ∨ c.slots.size ≤ z.toNatClampNeg) := by
  obtain ⟨z1, z2⟩ := tn_of hz
  rw [z2, hs]; simp [z1]; omega
theorem IsGo.arraylength (H : IsGo l Z a0 K n0 b0 y bytes maxL ret R Q G) (hd : Nx bytes pc .arraylength 1 pc') {i : Nat} {ty : FieldType} {vs : List Value} {z : Int32} (hA : A[i]? = some (.inr (ty, vs))) (hz : vs.length.toInt32 = z) (h : G pc' ls (.int z :: st) A k n) : G pc ls (.ref (n0 + i) :: st) A k n := by
  obtain ⟨hd, rfl⟩ := hd
  obtain ⟨p, e, s, m, args, below, meth, c, hx, hby, hml, hown, hnm, hret, hlk, hZ, hK, hb0, rfl⟩ := H
  subst hz
  intro T locs X hR hF
  obtain ⟨EA, cl, Ar, hcs, -⟩ := hR.2 i _ hA
  obtain ⟨s₂, o, h1, h2⟩ := h T locs X hR hF
  have q : vs.length = cl.slots.size := by rw [hcs]; simp
  rw [q] at h1
  exact ⟨s₂, o, X.arraylength hx Ar.1 (State.isArrayOf_alike hZ.alike Ar.2.1) (g := mkF m pc ls (.ref (n0 + i) :: st)) rfl rfl (hb hby hd) _ h1, h2⟩
theorem IsGo.iaload (H : IsGo l Z a0 K n0 b0 y bytes maxL ret R Q G) (hd : Nx bytes pc .iaload 1 pc') {i j : Nat} {vs : List Value} {z : Int32} {v : Value} (hA : A[i]? = some (.inr (.int, vs))) (hz : z.toInt = (j : Int)) (hv : vs[j]? = some v) (h : G pc' ls (v :: st) A k n) : G pc ls (.int z :: .ref (n0 + i) :: st) A k n := by
  obtain ⟨hd, rfl⟩ := hd
  obtain ⟨p, e, s, m, args, below, meth, c, hx, hby, hml, hown, hnm, hret, hlk, hZ, hK, hb0, rfl⟩ := H
  intro T locs X hR hF
  obtain ⟨EA, cl, Ar, hcs, -⟩ := hR.2 i _ hA
  obtain ⟨s₂, o, h1, h2⟩ := h T locs X hR hF
  exact ⟨s₂, o, X.iaload hx Ar.1 (State.isArrayOf_alike hZ.alike Ar.2.1) Ar.2.2 (arr_in hz hcs (List.getElem?_eq_some_iff.mp hv).1) (v := v) (by rw [(tn_of hz).2, hcs]; simpa using hv) (g := mkF m pc ls (.int z :: .ref (n0 + i) :: st)) rfl rfl (hb hby hd) _ h1, h2⟩
theorem IsGo.laload (H : IsGo l Z a0 K n0 b0 y bytes maxL ret R Q G) (hd : Nx bytes pc .laload 1 pc') {i j : Nat} {vs : List Value} {z : Int32} {v : Value} (hA : A[i]? = some (.inr (.long, vs))) (hz : z.toInt = (j : Int)) (hv : vs[j]? = some v) (h : G pc' ls (v :: st) A k n) : G pc ls (.int z :: .ref (n0 + i) :: st) A k n := by
  obtain ⟨hd, rfl⟩ := hd
  obtain ⟨p, e, s, m, args, below, meth, c, hx, hby, hml, hown, hnm, hret, hlk, hZ, hK, hb0, rfl⟩ := H
  intro T locs X hR hF
  obtain ⟨EA, cl, Ar, hcs, -⟩ := hR.2 i _ hA
  obtain ⟨s₂, o, h1, h2⟩ := h T locs X hR hF
  exact ⟨s₂, o, X.laload hx Ar.1 (State.isArrayOf_alike hZ.alike Ar.2.1) Ar.2.2 (arr_in hz hcs (List.getElem?_eq_some_iff.mp hv).1) (v := v) (by rw [(tn_of hz).2, hcs]; simpa using hv) (g := mkF m pc ls (.int z :: .ref (n0 + i) :: st)) rfl rfl (hb hby hd) _ h1, h2⟩
theorem IsGo.aaload (H : IsGo l Z a0 K n0 b0 y bytes maxL ret R Q G) (hd : Nx bytes pc .aaload 1 pc') {i j : Nat} {C : String} {vs : List Value} {z : Int32} {v : Value} (hA : A[i]? = some (.inr (.object C, vs))) (hz : z.toInt = (j : Int)) (hv : vs[j]? = some v) (h : G pc' ls (v :: st) A k n) : G pc ls (.int z :: .ref (n0 + i) :: st) A k n := by
  obtain ⟨hd, rfl⟩ := hd
  obtain ⟨p, e, s, m, args, below, meth, c, hx, hby, hml, hown, hnm, hret, hlk, hZ, hK, hb0, rfl⟩ := H
  intro T locs X hR hF
  obtain ⟨EA, cl, Ar, hcs, -⟩ := hR.2 i _ hA
  obtain ⟨s₂, o, h1, h2⟩ := h T locs X hR hF
  exact ⟨s₂, o, X.aaload hx Ar.1 (State.isArrayOf_alike hZ.alike Ar.2.1) rfl Ar.2.2 (arr_in hz hcs (List.getElem?_eq_some_iff.mp hv).1) (v := v) (by rw [(tn_of hz).2, hcs]; simpa using hv) (g := mkF m pc ls (.int z :: .ref (n0 + i) :: st)) rfl rfl (hb hby hd) _ h1, h2⟩
theorem IsGo.iastore (H : IsGo l Z a0 K n0 b0 y bytes maxL ret R Q G) (hd : Nx bytes pc .iastore 1 pc') {i j : Nat} {vs : List Value} {z v : Int32} (hA : A[i]? = some (.inr (.int, vs))) (hz : z.toInt = (j : Int)) (hj : j < vs.length) (hA' : A.set i (.inr (.int, vs.set j (.int v))) = A') (h : G pc' ls st A' k n) : G pc ls (.int v :: .int z :: .ref (n0 + i) :: st) A k n := by
  obtain ⟨hd, rfl⟩ := hd
  obtain ⟨p, e, s, m, args, below, meth, c, hx, hby, hml, hown, hnm, hret, hlk, hZ, hK, hb0, rfl⟩ := H
  subst hA'
  intro T locs X hR hF
  have hO := hR.2 i _ hA
  obtain ⟨EA, cl, Ar, hcs, -⟩ := hR.2 i _ hA
  obtain ⟨T', h', X', eT, W, sp⟩ := stI X hx hZ rfl Ar (arr_in hz hcs hj) (g := mkF m pc ls (.int v :: .int z :: .ref (n0 + i) :: st)) rfl rfl (hb hby hd)
  rw [(tn_of hz).2] at W
  obtain ⟨s₂, o, h1, h2⟩ := h T' _ X' (by rw [eT]; exact hR.set W (hO.setA W rfl)) (Fr.snoc X' hF (Nat.le_add_right _ _))
  exact ⟨s₂, o, sp _ h1, h2⟩
theorem IsGo.lastore (H : IsGo l Z a0 K n0 b0 y bytes maxL ret R Q G) (hd : Nx bytes pc .lastore 1 pc') {i j : Nat} {vs : List Value} {z : Int32} {v : Int64} (hA : A[i]? = some (.inr (.long, vs))) (hz : z.toInt = (j : Int)) (hj : j < vs.length) (hA' : A.set i (.inr (.long, vs.set j (.long v))) = A') (h : G pc' ls st A' k n) : G pc ls (.long v :: .int z :: .ref (n0 + i) :: st) A k n := by
  obtain ⟨hd, rfl⟩ := hd
  obtain ⟨p, e, s, m, args, below, meth, c, hx, hby, hml, hown, hnm, hret, hlk, hZ, hK, hb0, rfl⟩ := H
  subst hA'
  intro T locs X hR hF
  have hO := hR.2 i _ hA
  obtain ⟨EA, cl, Ar, hcs, -⟩ := hR.2 i _ hA
  obtain ⟨T', h', X', eT, W, sp⟩ := stJ X hx hZ rfl Ar (arr_in hz hcs hj) (g := mkF m pc ls (.long v :: .int z :: .ref (n0 + i) :: st)) rfl rfl (hb hby hd)
  rw [(tn_of hz).2] at W
  obtain ⟨s₂, o, h1, h2⟩ := h T' _ X' (by rw [eT]; exact hR.set W (hO.setA W rfl)) (Fr.snoc X' hF (Nat.le_add_right _ _))
  exact ⟨s₂, o, sp _ h1, h2⟩
theorem IsGo.bastore (H : IsGo l Z a0 K n0 b0 y bytes maxL ret R Q G) (hd : Nx bytes pc .bastore 1 pc') {i j : Nat} {vs : List Value} {z v w : Int32} (hA : A[i]? = some (.inr (.byte, vs))) (hz : z.toInt = (j : Int)) (hj : j < vs.length) (hw : nar .byte v = w) (hA' : A.set i (.inr (.byte, vs.set j (.int w))) = A') (h : G pc' ls st A' k n) : G pc ls (.int v :: .int z :: .ref (n0 + i) :: st) A k n := by
  obtain ⟨hd, rfl⟩ := hd
  obtain ⟨p, e, s, m, args, below, meth, c, hx, hby, hml, hown, hnm, hret, hlk, hZ, hK, hb0, rfl⟩ := H
  subst hA' hw
  intro T locs X hR hF
  have hO := hR.2 i _ hA
  obtain ⟨EA, cl, Ar, hcs, -⟩ := hR.2 i _ hA
  obtain ⟨T', h', X', eT, W, sp⟩ := stB X hx hZ rfl Ar (arr_in hz hcs hj) (g := mkF m pc ls (.int v :: .int z :: .ref (n0 + i) :: st)) rfl rfl (hb hby hd)
  rw [(tn_of hz).2] at W
  obtain ⟨s₂, o, h1, h2⟩ := h T' _ X' (by rw [eT]; exact hR.set W (hO.setA W (fits_nar_byte v))) (Fr.snoc X' hF (Nat.le_add_right _ _))
  exact ⟨s₂, o, sp _ h1, h2⟩
/-- the value can stand in an array of that class -/
def StoO (K : KTab) (C : String) (n0 : Nat) (A : List Ob) (v : Value) : Prop := v = .null ∨ ∃ i kk vs fs, v = .ref (n0 + i) ∧ A[i]? = some (.inl (kk, vs)) ∧ K[kk]? = some (C, fs)
theorem IsGo.aastore (H : IsGo l Z a0 K n0 b0 y bytes maxL ret R Q G) (hd : Nx bytes pc .aastore 1 pc') {i j : Nat} {C : String} {vs : List Value} {z : Int32} {v : Value} (hA : A[i]? = some (.inr (.object C, vs))) (hz : z.toInt = (j : Int)) (hj : j < vs.length) (hv : StoO K C n0 A v) (hA' : A.set i (.inr (.object C, vs.set j v)) = A') (h : G pc' ls st A' k n) : G pc ls (v :: .int z :: .ref (n0 + i) :: st) A k n := by
  obtain ⟨hd, rfl⟩ := hd
  obtain ⟨p, e, s, m, args, below, meth, c, hx, hby, hml, hown, hnm, hret, hlk, hZ, hK, hb0, rfl⟩ := H
  subst hA'
  intro T locs X hR hF
  have hO := hR.2 i _ hA
  obtain ⟨EA, cl, Ar, hcs, hov⟩ := hR.2 i _ hA
  have S : Sto Z T.heap (n0 + i) v := by
    rcases hv with rfl | ⟨i2, kk, vs2, fs, rfl, q1, q2⟩
    · exact Or.inl rfl
    · exact Sto.of Ar (hov C rfl) (Ins.self ((hR.2 i2 _ q1).exa q2))
  obtain ⟨T', h', X', eT, W, sp⟩ := stR X hx hZ rfl Ar (arr_in hz hcs hj) rfl S (g := mkF m pc ls (v :: .int z :: .ref (n0 + i) :: st)) rfl rfl (hb hby hd)
  rw [(tn_of hz).2] at W
  obtain ⟨s₂, o, h1, h2⟩ := h T' _ X' (by rw [eT]; exact hR.set W (hO.setA W (by rcases hv with rfl | ⟨i2, kk, vs2, fs, rfl, -⟩ <;> rfl))) (Fr.snoc X' hF (Nat.le_add_right _ _))
  exact ⟨s₂, o, sp _ h1, h2⟩
/-! ### arraycopy, clone, checkcast -/
def XL (Z : State) (a0 : Array Value) (own : String) (idx : Nat) : Prop := (Jvm.Cond.methodLink own idx Jvm.Stand.acN).before a0 Z = true ∧ (Jvm.Cond.native Jvm.Stand.acN).before a0 Z = true ∧ (Jvm.Cond.static Jvm.Stand.acN).before a0 Z = true ∧ (Jvm.Cond.initialized "java/lang/System").before a0 Z = true
theorem arv_of {h : Heap} {a : Addr} {ty : FieldType} {vs : List Value} (hl : vs.length < 2147483648) (F : ObAt Z K h a (.inr (ty, vs))) : ∃ kc : ClassId, Arv Z h a kc ty vs.length.toInt32 vs .null ∧ ∀ C, ty = .object C → Ovr Z kc C := by
  obtain ⟨⟨h1, hf⟩, c, h2, h3, h4⟩ := F
  have e := len_toInt (n := vs.length) (by omega)
  obtain ⟨z1, z2⟩ := tn_of e
  refine ⟨c.cls, ⟨c, h2, rfl, by rw [z2, h3]; simp, z1, fun k hk => ?_, fun i hi => ?_⟩, h4⟩
  · rw [h3] at hk ⊢
    have hk' : k < vs.length := by simpa using hk
    simp [List.getD, hk']
  · rw [h3] at hi
    have hi' : i < vs.length := by simpa using hi
    have : vs.getD i .null = vs[i] := by simp [List.getD, hi']
    rw [this]; exact hf _ (List.getElem_mem hi')
theorem slots_of {c : Cell} {vs : List Value} {d : Value} (hs : c.slots.size = vs.length) (hh : ∀ k, k < c.slots.size → c.slots[k]? = some (vs.getD k d)) : c.slots = vs.toArray := by
  apply Array.ext
  · simpa using hs
  · intro i h1 h2
    have q := hh i h1
    have h3 : i < vs.length := by simpa using h2
    rw [Array.getElem?_eq_getElem h1] at q
    have e : vs.getD i d = vs[i] := by simp [List.getD, h3]
    rw [e] at q
    simpa using q
theorem IsGo.arraycopy (H : IsGo l Z a0 K n0 b0 y bytes maxL ret R Q G) {idx : Nat} (hd : Nx bytes pc (.invokestatic idx) 3 pc') (L : XL Z a0 y.cls idx) {i j : Nat} {ty : FieldType} {vs vd us : List Value} {sp dp nn : Int32} {p q r : Nat} (hA : A[i]? = some (.inr (ty, vs))) (hB : A[j]? = some (.inr (ty, vd))) (hty : refKind ty = false) (h1 : sp.toInt = (p : Int)) (h2 : dp.toInt = (q : Int)) (h3 : nn.toInt = (r : Int)) (h4 : p + r ≤ vs.length) (h5 : q + r ≤ vd.length) (l1 : vs.length < 2147483648) (l2 : vd.length < 2147483648)
    (hus : (List.range r).map (fun i => vs.getD (p + i) .null) = us) (hls : ls.size = maxL) (hf : 1 ≤ R.frames) (hl : (st.map fun v => v.category).sum + (nativeFrameWords "java/lang/System" "arraycopy" 5 + 11) ≤ R.locals) (hk : A.length = b0 + k) (hA' : A.set j (.inr (ty, vd.take q ++ us ++ vd.drop (q + r))) = A') (h : G pc' ls st A' k n) : G pc ls (.int nn :: .int dp :: .ref (n0 + j) :: .int sp :: .ref (n0 + i) :: st) A k n := by
  obtain ⟨hd, rfl⟩ := hd
  obtain ⟨pp, e, s, m, args, below, meth, c, hx, hby, hml, hown, hnm, hret, hlk, hZ, hK, hb0, rfl⟩ := H
  obtain ⟨w1, w2, w3, w4⟩ := L
  subst hA'
  intro T locs X hR hF
  obtain ⟨k1, V1, -⟩ := arv_of l1 (hR.2 i _ hA)
  obtain ⟨k2, V2, O2⟩ := arv_of l2 (hR.2 j _ hB)
  obtain ⟨⟨EB, fB⟩, -⟩ := hR.2 j _ hB
  obtain ⟨⟨-, fA⟩, -⟩ := hR.2 i _ hA
  obtain ⟨s1, s2⟩ := tn_of h1
  obtain ⟨t1, t2⟩ := tn_of h2
  obtain ⟨u1, u2⟩ := tn_of h3
  have n1 := (tn_of (len_toInt (n := vs.length) (by omega))).2
  have n2 := (tn_of (len_toInt (n := vd.length) (by omega))).2
  obtain ⟨T', h', L', X', eT, F', Kp, V', sp'⟩ := cpA X hx hZ hown w1 w2 w3 w4 rfl V1 V2 (us := us) (Or.inl ⟨rfl, hty⟩) s1 t1 u1 (by rw [s2, u2, n1]; exact h4) (by rw [t2, u2, n2]; exact h5) (by rw [s2, u2]; exact hus.symm) (by rw [t2, u2]; exact h5) (n0 := n0) hF (Nat.le_add_right _ _) (g := mkF m pc ls (.int nn :: .int dp :: .ref (n0 + j) :: .int sp :: .ref (n0 + i) :: st)) rfl (by rw [hml]; exact hls) rfl (hb hby hd) hf (W := (st.map fun v => v.category).sum) (by show 2 * 0 + _ ≤ _; omega) hl
  have hsz : h'.size = T.heap.size := by
    have q1 := X'.heapSize
    have q2 := Kp.1
    have q3 := hR.1
    rw [eT] at q1
    omega
  rw [t2, u2] at V'
  have hlen : (vd.take q ++ us ++ vd.drop (q + r)).length = vd.length := by
    have : us.length = r := by rw [← hus]; simp
    simp [this]; omega
  have hO : ObAt Z K h' (n0 + j) (.inr (ty, vd.take q ++ us ++ vd.drop (q + r))) := by
    obtain ⟨cc, a1, a2, a3, a4, a5, a6⟩ := V'
    have e1 : cc.slots.size = (vd.take q ++ us ++ vd.drop (q + r)).length := by rw [hlen, a3, n2]
    refine ⟨⟨EB.keep Kp, fun w hw => ?_⟩, cc, a1, slots_of e1 a5, fun C q => by rw [a2]; exact O2 C q⟩
    obtain ⟨z, hz, rfl⟩ := List.mem_iff_getElem.mp hw
    have := a6 z (by rw [e1]; exact hz)
    rwa [show (vd.take q ++ us ++ vd.drop (q + r)).getD z .null = (vd.take q ++ us ++ vd.drop (q + r))[z] from by simp only [List.getD, List.getElem?_eq_getElem hz, Option.getD_some]] at this
  obtain ⟨s₂, o, g1, g2⟩ := h T' _ X' (by rw [eT]; exact hR.keep Kp hsz hO) F'
  exact ⟨s₂, o, sp' _ g1, g2⟩
def KL (Z : State) (a0 : Array Value) (own : String) (idx : Nat) (ad : String) : Prop := (Jvm.Cond.methodLink own idx ⟨ad, "clone", "()Ljava/lang/Object;"⟩).before a0 Z = true ∧ (Jvm.Cond.sameMethod ad "java/lang/Object" "clone" "()Ljava/lang/Object;").before a0 Z = true ∧ (Jvm.Cond.native ⟨"java/lang/Object", "clone", "()Ljava/lang/Object;"⟩).before a0 Z = true ∧
  (Jvm.Cond.instanceMethod ⟨"java/lang/Object", "clone", "()Ljava/lang/Object;"⟩).before a0 Z = true ∧ (Jvm.Cond.selects ad ⟨ad, "clone", "()Ljava/lang/Object;"⟩ ⟨"java/lang/Object", "clone", "()Ljava/lang/Object;"⟩).before a0 Z = true ∧ (Jvm.Cond.castable ad "java/lang/Cloneable").before a0 Z = true
theorem IsGo.clone (H : IsGo l Z a0 K n0 b0 y bytes maxL ret R Q G) {idx : Nat} {ad : String} (hd : Nx bytes pc (.invokevirtual idx) 3 pc') (L : KL Z a0 y.cls idx ad) {i ii cap : Nat} {ty : FieldType} {vs : List Value} (hA : A[i]? = some (.inr (ty, vs))) (had : "[" ++ ty.toString = ad) (l1 : vs.length < 2147483648) (hcap : vs.length ≤ cap)
    (hls : ls.size = maxL) (hf : 1 ≤ R.frames) (hl : (st.map fun v => v.category).sum + 14 ≤ R.locals) (hk : A.length = b0 + k) (hc : k + 1 ≤ R.cells) (hs : n + cap ≤ R.slots) (hi : A.length = ii) (hA' : A ++ [.inr (ty, vs)] = A') (hk' : k + 1 = k') (hn' : n + cap = n') (h : G pc' ls (.ref (n0 + ii) :: st) A' k' n') : G pc ls (.ref (n0 + i) :: st) A k n := by
  obtain ⟨hd, rfl⟩ := hd
  obtain ⟨pp, e, s, m, args, below, meth, c, hx, hby, hml, hown, hnm, hret, hlk, hZ, hK, hb0, rfl⟩ := H
  obtain ⟨w1, w2, w3, w4, w5, w6⟩ := L
  subst hA' hk' hn' hi had
  intro T locs X hR hF
  obtain ⟨k1, V1, O1⟩ := arv_of l1 (hR.2 i _ hA)
  obtain ⟨⟨EB, fB⟩, -⟩ := hR.2 i _ hA
  have n1 := (tn_of (len_toInt (n := vs.length) (by omega))).2
  obtain ⟨T', h', X', eT, E, V', EA, sp⟩ := cloneH X hx hZ hown w1 w2 w3 w4 w5 w6 rfl V1.arh EB (g := mkF m pc ls (.ref (n0 + i) :: st)) rfl (by rw [hml]; exact hls) rfl (hb hby hd) hf (W := (st.map fun v => v.category).sum) (cap := cap) (by show 2 * 0 + _ ≤ _; omega) hl (by rw [n1]; exact hcap) hc hs
  have hsz : h'.size = n0 + (A.length + 1) := by rw [← eT]; exact size_up X' hb0 hR.1 hk (by rw [eT]; exact EA.lt)
  rw [hR.1] at EA V'
  have hN : ObAt Z K h' (n0 + A.length) (.inr (ty, vs)) := by
    obtain ⟨cc, a1, a2, a3, a4, a5, a6⟩ := V'
    refine ⟨⟨EA, fB⟩, cc, a1, slots_of (by rw [a3, n1]) a5, fun C q => by rw [a2]; exact O1 C q⟩
  obtain ⟨s₂, o, h1, h2⟩ := h T' locs X' (by rw [eT]; exact hR.push E hsz hN) hF
  rw [← hR.1] at h1
  exact ⟨s₂, o, sp _ h1, h2⟩
theorem IsGo.castA (H : IsGo l Z a0 K n0 b0 y bytes maxL ret R Q G) {idx : Nat} {ad : String} (hd : Nx bytes pc (.checkcast idx) 3 pc') (w : (Jvm.Cond.classLink y.cls idx ad).before a0 Z = true) {i : Nat} {ty : FieldType} {vs : List Value} (hA : A[i]? = some (.inr (ty, vs))) (had : "[" ++ ty.toString = ad) (h : G pc' ls (.ref (n0 + i) :: st) A k n) : G pc ls (.ref (n0 + i) :: st) A k n := by
  obtain ⟨hd, rfl⟩ := hd
  obtain ⟨pp, e, s, m, args, below, meth, c, hx, hby, hml, hown, hnm, hret, hlk, hZ, hK, hb0, rfl⟩ := H
  subst had
  intro T locs X hR hF
  obtain ⟨⟨EB, -⟩, -⟩ := hR.2 i _ hA
  obtain ⟨T', X', eT, sp⟩ := castY X hx hZ hown w rfl (Ins.self EB) (g := mkF m pc ls (.ref (n0 + i) :: st)) rfl rfl (hb hby hd)
  obtain ⟨s₂, o, h1, h2⟩ := h T' locs X' (by rw [eT]; exact hR) hF
  exact ⟨s₂, o, sp _ h1, h2⟩
/-! ### calls -/
def IL (Z : State) (a0 : Array Value) (own : String) (idx : Nat) : Prop := (Jvm.Cond.methodLink own idx Lib.objectInit).before a0 Z = true ∧ (Jvm.Cond.instanceMethod Lib.objectInit).before a0 Z = true ∧ (Jvm.Cond.code Lib.objectInit ⟨#[0xb1]⟩ 1 none).before a0 Z = true
theorem IsGo.initO (H : IsGo l Z a0 K n0 b0 y bytes maxL ret R Q G) {idx : Nat} (hd : Nx bytes pc (.invokespecial idx) 3 pc') (L : IL Z a0 y.cls idx) {a : Addr} (hls : ls.size = maxL) (hf : 1 ≤ R.frames) (hl : (st.map fun v => v.category).sum + 12 ≤ R.locals) (h : G pc' ls st A k n) : G pc ls (.ref a :: st) A k n := by
  obtain ⟨hd, rfl⟩ := hd
  obtain ⟨p, e, s, m, args, below, meth, c, hx, hby, hml, hown, hnm, hret, hlk, hZ, hK, hb0, rfl⟩ := H
  obtain ⟨w1, w2, w3⟩ := L
  intro T locs X hR hF
  obtain ⟨T', X', eT, sp⟩ := RoadKit.initO X hx hZ hown w1 w2 w3 rfl (g := mkF m pc ls (.ref a :: st)) rfl (by rw [hml]; exact hls) rfl (hb hby hd) hf (W := (st.map fun v => v.category).sum) (by show 2 * 0 + _ ≤ _; omega) hl
  obtain ⟨s₂, o, h1, h2⟩ := h T' locs X' (by rw [eT]; exact hR) hF
  exact ⟨s₂, o, sp _ h1, h2⟩
def SL (Z : State) (a0 : Array Value) (own : String) (idx : Nat) (z : MethodName) (zb : ByteArray) (zm : Nat) (zr : Option FieldType) (np : Nat) : Prop :=
  (Jvm.Cond.methodLink own idx z).before a0 Z = true ∧ (Jvm.Cond.static z).before a0 Z = true ∧ (Jvm.Cond.initialized z.cls).before a0 Z = true ∧ (Jvm.Cond.code z zb zm zr).before a0 Z = true ∧ (z.cls ≠ "java/lang/invoke/MethodHandle" ∧ z.cls ≠ "java/lang/invoke/VarHandle") ∧ ∀ sig, parseMethodDescriptor z.desc = some sig → np = sig.parameters.length
theorem IsGo.callS (H : IsGo l Z a0 K n0 b0 y bytes maxL ret R Q G) {idx : Nat} (hd : Nx bytes pc (.invokestatic idx) 3 pc') {z : MethodName} {zb : ByteArray} {zm : Nat} {zr : Option FieldType} {np : Nat} (L : SL Z a0 y.cls idx z zb zm zr np) {rm : Room} {as : Array Value} {QQ : Option Value → List Ob → Prop} (M : Met l Z K n0 z zb zm zr rm as A QQ)
    {argsL rest : List Value} (ha : argsL.toArray = as) (hnp : argsL.length = np) (hst : st = argsL.reverse ++ rest) (hls : ls.size = maxL) (hf : rm.frames + 1 ≤ R.frames) (hl : (rest.map fun v => v.category).sum + (zm + 11) + rm.locals ≤ R.locals) (hc : k + rm.cells ≤ R.cells) (hs : n + rm.slots ≤ R.slots) (h : ∀ v A', QQ v A' → G pc' ls (v.toList ++ rest) A' (k + rm.cells) (n + rm.slots)) : G pc ls st A k n := by
  obtain ⟨hd, rfl⟩ := hd
  obtain ⟨p, e, s, m, args, below, meth, c, hx, hby, hml, hown, hnm, hret, hlk, hZ, hK, hb0, rfl⟩ := H
  obtain ⟨w1, w2, w3, w4, w5, w6⟩ := L
  subst ha hst hnp
  intro T locs X hR hF
  obtain ⟨v, vm₁, ⟨T', L', k', n'⟩, -, X', ⟨Lc, ⟨A', hQ, hR', hF'⟩, e1, e2, e3⟩, sp⟩ := Jvm.LawKit.callS X hx (y := z) hown (mvT hZ w1) (mvT hZ w2) (mvT hZ w3) (mvT hZ w4) w5 (backOf (W := (rest.map fun v => v.category).sum) (Q := fun v h L => ∃ A', QQ v A' ∧ Rel Z K n0 h A' ∧ Fr n0 L) (M [] T.heap hR) hZ w4 w3 hf hl) (g := mkF m pc ls (argsL.reverse ++ rest)) rfl (by rw [hml]; exact hls) (argsL := argsL) (rest := rest) w6 rfl (by show 2 * 0 + _ ≤ _; omega) (hb hby hd) (fun _ _ => ⟨rfl, rfl, hc, hs⟩)
  dsimp only [Pt.U, Pt.locs, Pt.cells, Pt.slots] at X' e1 e2 e3 sp hQ hR'
  subst e1 e2 e3
  obtain ⟨s₂, o, h1, h2⟩ := h v A' hQ T' _ X' hR' (Fr.app hF hF')
  exact ⟨s₂, o, sp _ h1, h2⟩
/-- a constructor by its contract -/
def CL (Z : State) (a0 : Array Value) (own : String) (idx : Nat) (z : MethodName) (zb : ByteArray) (zm : Nat) (np : Nat) : Prop :=
  (Jvm.Cond.methodLink own idx z).before a0 Z = true ∧ (Jvm.Cond.instanceMethod z).before a0 Z = true ∧ (Jvm.Cond.initialized z.cls).before a0 Z = true ∧ (Jvm.Cond.code z zb zm none).before a0 Z = true ∧ (z.cls ≠ "java/lang/invoke/MethodHandle" ∧ z.cls ≠ "java/lang/invoke/VarHandle") ∧ (∀ sig, parseMethodDescriptor z.desc = some sig → np = sig.parameters.length) ∧ z.name = "<init>"
theorem IsGo.callC (H : IsGo l Z a0 K n0 b0 y bytes maxL ret R Q G) {idx : Nat} (hd : Nx bytes pc (.invokespecial idx) 3 pc') {z : MethodName} {zb : ByteArray} {zm : Nat} {np : Nat} (L : CL Z a0 y.cls idx z zb zm np) {rm : Room} {as : Array Value} {QQ : Option Value → List Ob → Prop} (M : Met l Z K n0 z zb zm none rm as A QQ)
    {a : Addr} {argsL rest : List Value} (ha : (Value.ref a :: argsL).toArray = as) (hnp : argsL.length = np) (hst : st = argsL.reverse ++ .ref a :: rest) (hls : ls.size = maxL) (hf : rm.frames + 1 ≤ R.frames) (hl : (rest.map fun v => v.category).sum + (zm + 11) + rm.locals ≤ R.locals) (hc : k + rm.cells ≤ R.cells) (hs : n + rm.slots ≤ R.slots) (h : ∀ v A', QQ v A' → G pc' ls (v.toList ++ rest) A' (k + rm.cells) (n + rm.slots)) : G pc ls st A k n := by
  obtain ⟨hd, rfl⟩ := hd
  obtain ⟨p, e, s, m, args, below, meth, c, hx, hby, hml, hown, hnm, hret, hlk, hZ, hK, hb0, rfl⟩ := H
  obtain ⟨w1, w2, w3, w4, w5, w6, w7⟩ := L
  subst ha hst hnp
  intro T locs X hR hF
  obtain ⟨v, vm₁, ⟨T', L', k', n'⟩, -, X', ⟨Lc, ⟨A', hQ, hR', hF'⟩, e1, e2, e3⟩, sp⟩ := X.specialBack hx (y := z) w7 hown (mvT hZ w1) (mvT hZ w2) (mvT hZ w4) w5 (backOf (W := (rest.map fun v => v.category).sum) (Q := fun v h L => ∃ A', QQ v A' ∧ Rel Z K n0 h A' ∧ Fr n0 L) (M [] T.heap hR) hZ w4 w3 hf hl) (g := mkF m pc ls (argsL.reverse ++ .ref a :: rest)) rfl (by rw [hml]; exact hls) (Steps.refl _) (a := a) (argsL := argsL) (rest := rest) w6 rfl (by show 2 * 0 + _ ≤ _; omega) (hb hby hd) (fun _ _ => ⟨rfl, rfl, hc, hs⟩)
  dsimp only [Pt.U, Pt.locs, Pt.cells, Pt.slots] at X' e1 e2 e3 sp hQ hR'
  subst e1 e2 e3
  obtain ⟨s₂, o, h1, h2⟩ := h v A' hQ T' _ X' hR' (Fr.app hF hF')
  exact ⟨s₂, o, sp.trans h1, h2⟩
/-- a method of an object of class number kk, by its contract -/
def VL (Z : State) (a0 : Array Value) (K : KTab) (own : String) (idx kk : Nat) (z : MethodName) (zb : ByteArray) (zm : Nat) (zr : Option FieldType) (np : Nat) : Prop :=
  ∃ C fs, K[kk]? = some (C, fs) ∧ (Jvm.Cond.methodLink own idx z).before a0 Z = true ∧ (Jvm.Cond.declares z).before a0 Z = true ∧ (Jvm.Cond.selects C z z).before a0 Z = true ∧ (Jvm.Cond.instanceMethod z).before a0 Z = true ∧ (Jvm.Cond.initialized z.cls).before a0 Z = true ∧ (Jvm.Cond.code z zb zm zr).before a0 Z = true ∧ (z.cls ≠ "java/lang/invoke/MethodHandle" ∧ z.cls ≠ "java/lang/invoke/VarHandle") ∧ (∀ sig, parseMethodDescriptor z.desc = some sig → np = sig.parameters.length)
theorem IsGo.callV (H : IsGo l Z a0 K n0 b0 y bytes maxL ret R Q G) {idx kk : Nat} (hd : Nx bytes pc (.invokevirtual idx) 3 pc') {z : MethodName} {zb : ByteArray} {zm : Nat} {zr : Option FieldType} {np : Nat} (L : VL Z a0 K y.cls idx kk z zb zm zr np) {rm : Room} {as : Array Value} {QQ : Option Value → List Ob → Prop} (M : Met l Z K n0 z zb zm zr rm as A QQ)
    {i : Nat} {vs : List Value} (hA : A[i]? = some (.inl (kk, vs))) {argsL rest : List Value} (ha : (Value.ref (n0 + i) :: argsL).toArray = as) (hnp : argsL.length = np) (hst : st = argsL.reverse ++ .ref (n0 + i) :: rest) (hls : ls.size = maxL) (hf : rm.frames + 1 ≤ R.frames) (hl : (rest.map fun v => v.category).sum + (zm + 11) + rm.locals ≤ R.locals) (hc : k + rm.cells ≤ R.cells) (hs : n + rm.slots ≤ R.slots) (h : ∀ v A', QQ v A' → G pc' ls (v.toList ++ rest) A' (k + rm.cells) (n + rm.slots)) : G pc ls st A k n := by
  obtain ⟨hd, rfl⟩ := hd
  obtain ⟨p, e, s, m, args, below, meth, c, hx, hby, hml, hown, hnm, hret, hlk, hZ, hK, hb0, rfl⟩ := H
  obtain ⟨C, fs, hk, w1, w2, w3, w4, w5, w6, w7, w8⟩ := L
  subst ha hst hnp
  intro T locs X hR hF
  obtain ⟨cB, kB, qa, qb, qc⟩ := isOf hZ rfl ((hR.2 i _ hA).exa hk)
  obtain ⟨v, vm₁, ⟨T', L', k', n'⟩, -, X', ⟨Lc, ⟨A', hQ, hR', hF'⟩, e1, e2, e3⟩, sp⟩ := X.virtualBack hx (y := z) (z := z) hown (mvT hZ w1) (mvT hZ w2) (notFace_of_selects (args := #[]) (mvT hZ w3)) (mvT hZ w3) (mvT hZ w4) w7 (backOf (W := (rest.map fun v => v.category).sum) (Q := fun v h L => ∃ A', QQ v A' ∧ Rel Z K n0 h A' ∧ Fr n0 L) (M [] T.heap hR) hZ w6 w5 hf hl) qa qc (g := mkF m pc ls (argsL.reverse ++ .ref (n0 + i) :: rest)) rfl (by rw [hml]; exact hls) (Steps.refl _) (argsL := argsL) (rest := rest) w8 rfl (by show 2 * 0 + _ ≤ _; omega) (hb hby hd) (fun _ _ => ⟨rfl, rfl, hc, hs⟩)
  dsimp only [Pt.U, Pt.locs, Pt.cells, Pt.slots] at X' e1 e2 e3 sp hQ hR'
  subst e1 e2 e3
  obtain ⟨s₂, o, h1, h2⟩ := h v A' hQ T' _ X' hR' (Fr.app hF hF')
  exact ⟨s₂, o, sp.trans h1, h2⟩
/-- a private method -/
def ML (Z : State) (a0 : Array Value) (K : KTab) (own : String) (idx kk : Nat) (z : MethodName) (zb : ByteArray) (zm : Nat) (zr : Option FieldType) (np : Nat) : Prop :=
  ∃ C fs, K[kk]? = some (C, fs) ∧ (Jvm.Cond.methodLink own idx z).before a0 Z = true ∧ (Jvm.Cond.privateMethod z).before a0 Z = true ∧ (Jvm.Cond.selects z.cls z z).before a0 Z = true ∧ (Jvm.Cond.instanceMethod z).before a0 Z = true ∧ (Jvm.Cond.initialized z.cls).before a0 Z = true ∧ (Jvm.Cond.code z zb zm zr).before a0 Z = true ∧ (z.cls ≠ "java/lang/invoke/MethodHandle" ∧ z.cls ≠ "java/lang/invoke/VarHandle") ∧ (∀ sig, parseMethodDescriptor z.desc = some sig → np = sig.parameters.length)
theorem IsGo.callM (H : IsGo l Z a0 K n0 b0 y bytes maxL ret R Q G) {idx kk : Nat} (hd : Nx bytes pc (.invokevirtual idx) 3 pc') {z : MethodName} {zb : ByteArray} {zm : Nat} {zr : Option FieldType} {np : Nat} (L : ML Z a0 K y.cls idx kk z zb zm zr np) {rm : Room} {as : Array Value} {QQ : Option Value → List Ob → Prop} (M : Met l Z K n0 z zb zm zr rm as A QQ)
    {i : Nat} {vs : List Value} (hA : A[i]? = some (.inl (kk, vs))) {argsL rest : List Value} (ha : (Value.ref (n0 + i) :: argsL).toArray = as) (hnp : argsL.length = np) (hst : st = argsL.reverse ++ .ref (n0 + i) :: rest) (hls : ls.size = maxL) (hf : rm.frames + 1 ≤ R.frames) (hl : (rest.map fun v => v.category).sum + (zm + 11) + rm.locals ≤ R.locals) (hc : k + rm.cells ≤ R.cells) (hs : n + rm.slots ≤ R.slots) (h : ∀ v A', QQ v A' → G pc' ls (v.toList ++ rest) A' (k + rm.cells) (n + rm.slots)) : G pc ls st A k n := by
  obtain ⟨hd, rfl⟩ := hd
  obtain ⟨p, e, s, m, args, below, meth, c, hx, hby, hml, hown, hnm, hret, hlk, hZ, hK, hb0, rfl⟩ := H
  obtain ⟨C, fs, hk, w1, w2, w3, w4, w5, w6, w7, w8⟩ := L
  subst ha hst hnp
  intro T locs X hR hF
  obtain ⟨cq, q1, q2⟩ := ((hR.2 i _ hA).exa hk).cell
  obtain ⟨v, vm₁, ⟨T', L', k', n'⟩, -, X', ⟨Lc, ⟨A', hQ, hR', hF'⟩, e1, e2, e3⟩, sp⟩ := X.privateBack hx (y := z) hown (mvT hZ w1) (mvT hZ w4) (mvT hZ w3) (Cond.privateMethod_at (mvP hZ w2 (args := #[]))) (mvT hZ w6) w7 (backOf (W := (rest.map fun v => v.category).sum) (Q := fun v h L => ∃ A', QQ v A' ∧ Rel Z K n0 h A' ∧ Fr n0 L) (M [] T.heap hR) hZ w6 w5 hf hl) (g := mkF m pc ls (argsL.reverse ++ .ref (n0 + i) :: rest)) rfl (by rw [hml]; exact hls) (Steps.refl _) (a := n0 + i) q1 q2 (argsL := argsL) (rest := rest) w8 rfl (by show 2 * 0 + _ ≤ _; omega) (hb hby hd) (fun _ _ => ⟨rfl, rfl, hc, hs⟩)
  dsimp only [Pt.U, Pt.locs, Pt.cells, Pt.slots] at X' e1 e2 e3 sp hQ hR'
  subst e1 e2 e3
  obtain ⟨s₂, o, h1, h2⟩ := h v A' hQ T' _ X' hR' (Fr.app hF hF')
  exact ⟨s₂, o, sp.trans h1, h2⟩
theorem IsGo.callSD (H : IsGo l Z a0 K n0 b0 y bytes maxL ret R Q G) {idx : Nat} (hd : Nx bytes pc (.invokestatic idx) 3 pc') {z : MethodName} {zb : ByteArray} {zm : Nat} {zr : Option FieldType} {np : Nat} (L : SL Z a0 y.cls idx z zb zm zr np) {rm : Room} {as : Array Value} {vo : Option Value} (M : Met l Z K n0 z zb zm zr rm as A (Is vo A'))
    {argsL rest : List Value} (ha : argsL.toArray = as) (hnp : argsL.length = np) (hst : st = argsL.reverse ++ rest) (hls : ls.size = maxL) (hf : rm.frames + 1 ≤ R.frames) (hl : (rest.map fun v => v.category).sum + (zm + 11) + rm.locals ≤ R.locals) (hc : k + rm.cells ≤ R.cells) (hs : n + rm.slots ≤ R.slots) (hst' : vo.toList ++ rest = st') (hk' : k + rm.cells = k') (hn' : n + rm.slots = n') (h : G pc' ls st' A' k' n') : G pc ls st A k n :=
  H.callS hd L M ha hnp hst hls hf hl hc hs (fun v B q => by obtain ⟨rfl, rfl⟩ := q; subst hst' hk' hn'; exact h)
theorem IsGo.callCD (H : IsGo l Z a0 K n0 b0 y bytes maxL ret R Q G) {idx : Nat} (hd : Nx bytes pc (.invokespecial idx) 3 pc') {z : MethodName} {zb : ByteArray} {zm : Nat} {np : Nat} (L : CL Z a0 y.cls idx z zb zm np) {rm : Room} {as : Array Value} {vo : Option Value} (M : Met l Z K n0 z zb zm none rm as A (Is vo A'))
    {a : Addr} {argsL rest : List Value} (ha : (Value.ref a :: argsL).toArray = as) (hnp : argsL.length = np) (hst : st = argsL.reverse ++ .ref a :: rest) (hls : ls.size = maxL) (hf : rm.frames + 1 ≤ R.frames) (hl : (rest.map fun v => v.category).sum + (zm + 11) + rm.locals ≤ R.locals) (hc : k + rm.cells ≤ R.cells) (hs : n + rm.slots ≤ R.slots) (hst' : vo.toList ++ rest = st') (hk' : k + rm.cells = k') (hn' : n + rm.slots = n') (h : G pc' ls st' A' k' n') : G pc ls st A k n :=
  H.callC hd L M ha hnp hst hls hf hl hc hs (fun v B q => by obtain ⟨rfl, rfl⟩ := q; subst hst' hk' hn'; exact h)
theorem IsGo.callVD (H : IsGo l Z a0 K n0 b0 y bytes maxL ret R Q G) {idx kk : Nat} (hd : Nx bytes pc (.invokevirtual idx) 3 pc') {z : MethodName} {zb : ByteArray} {zm : Nat} {zr : Option FieldType} {np : Nat} (L : VL Z a0 K y.cls idx kk z zb zm zr np) {rm : Room} {as : Array Value} {vo : Option Value} (M : Met l Z K n0 z zb zm zr rm as A (Is vo A'))
    {i : Nat} {vs : List Value} (hA : A[i]? = some (.inl (kk, vs))) {argsL rest : List Value} (ha : (Value.ref (n0 + i) :: argsL).toArray = as) (hnp : argsL.length = np) (hst : st = argsL.reverse ++ .ref (n0 + i) :: rest) (hls : ls.size = maxL) (hf : rm.frames + 1 ≤ R.frames) (hl : (rest.map fun v => v.category).sum + (zm + 11) + rm.locals ≤ R.locals) (hc : k + rm.cells ≤ R.cells) (hs : n + rm.slots ≤ R.slots) (hst' : vo.toList ++ rest = st') (hk' : k + rm.cells = k') (hn' : n + rm.slots = n') (h : G pc' ls st' A' k' n') : G pc ls st A k n :=
  H.callV hd L M hA ha hnp hst hls hf hl hc hs (fun v B q => by obtain ⟨rfl, rfl⟩ := q; subst hst' hk' hn'; exact h)
theorem IsGo.callMD (H : IsGo l Z a0 K n0 b0 y bytes maxL ret R Q G) {idx kk : Nat} (hd : Nx bytes pc (.invokevirtual idx) 3 pc') {z : MethodName} {zb : ByteArray} {zm : Nat} {zr : Option FieldType} {np : Nat} (L : ML Z a0 K y.cls idx kk z zb zm zr np) {rm : Room} {as : Array Value} {vo : Option Value} (M : Met l Z K n0 z zb zm zr rm as A (Is vo A'))
    {i : Nat} {vs : List Value} (hA : A[i]? = some (.inl (kk, vs))) {argsL rest : List Value} (ha : (Value.ref (n0 + i) :: argsL).toArray = as) (hnp : argsL.length = np) (hst : st = argsL.reverse ++ .ref (n0 + i) :: rest) (hls : ls.size = maxL) (hf : rm.frames + 1 ≤ R.frames) (hl : (rest.map fun v => v.category).sum + (zm + 11) + rm.locals ≤ R.locals) (hc : k + rm.cells ≤ R.cells) (hs : n + rm.slots ≤ R.slots) (hst' : vo.toList ++ rest = st') (hk' : k + rm.cells = k') (hn' : n + rm.slots = n') (h : G pc' ls st' A' k' n') : G pc ls st A k n :=
  H.callM hd L M hA ha hnp hst hls hf hl hc hs (fun v B q => by obtain ⟨rfl, rfl⟩ := q; subst hst' hk' hn'; exact h)
/-! ### the end -/
theorem IsGo.retW (H : IsGo l Z a0 K n0 b0 y bytes maxL ret R Q G) {i : Instr} (hd : Nx bytes pc i 1 pc') {t : FieldType} {w : Value} (hret : ret = some t) (hn : narrow t w = w)
    (hi : (i = .ireturn ∧ (t = .int ∨ t = .boolean ∨ t = .byte ∨ t = .char ∨ t = .short) ∧ ∃ z, w = .int z) ∨ (i = .lreturn ∧ t = .long ∧ ∃ z, w = .long z) ∨ (i = .dreturn ∧ t = .double ∧ ∃ z, w = .double z) ∨ (i = .freturn ∧ t = .float ∧ ∃ z, w = .float z) ∨ (i = .areturn ∧ t.isReference = true ∧ w.isRef = true))
    (hQ : Q (some w) A) (hc : k ≤ R.cells) (hs : n ≤ R.slots) : G pc ls (w :: st) A k n := by
  obtain ⟨hd, rfl⟩ := hd
  obtain ⟨p, e, s, m, args, below, meth, c, hx, hby, hml, hown, hnm, hret', hlk, hZ, hK, hb0, rfl⟩ := H
  intro T locs X hR hF
  obtain ⟨fs, hr, hrun, hended, hW, hsame⟩ := X.leave (v := some w) (fun h => by rw [hret', hret] at h; cases h) hlk
  exact ⟨_, _, retOut X hx (hret'.trans hret) hn hi (hb hby hd) hr, hrun, hended, _, _, rfl, ⟨A, hQ, hR, hF⟩, ⟨_, rfl⟩, hW, hsame.mono hc hs⟩
theorem IsGo.ireturn (H : IsGo l Z a0 K n0 b0 y bytes maxL ret R Q G) (hd : Nx bytes pc .ireturn 1 pc') {t : FieldType} {z : Int32} (hret : ret = some t) (ht : t = .int ∨ t = .boolean ∨ t = .byte ∨ t = .char ∨ t = .short) (hn : narrow t (.int z) = .int z) (hQ : Q (some (.int z)) A) (hc : k ≤ R.cells) (hs : n ≤ R.slots) : G pc ls (.int z :: st) A k n :=
  H.retW hd hret hn (Or.inl ⟨rfl, ht, z, rfl⟩) hQ hc hs
theorem IsGo.lreturn (H : IsGo l Z a0 K n0 b0 y bytes maxL ret R Q G) (hd : Nx bytes pc .lreturn 1 pc') {z : Int64} (hret : ret = some .long) (hQ : Q (some (.long z)) A) (hc : k ≤ R.cells) (hs : n ≤ R.slots) : G pc ls (.long z :: st) A k n :=
  H.retW hd hret rfl (Or.inr (Or.inl ⟨rfl, rfl, z, rfl⟩)) hQ hc hs
theorem IsGo.areturn (H : IsGo l Z a0 K n0 b0 y bytes maxL ret R Q G) (hd : Nx bytes pc .areturn 1 pc') {t : FieldType} {w : Value} (hret : ret = some t) (ht : t.isReference = true) (hn : narrow t w = w) (hw : w.isRef = true) (hQ : Q (some w) A) (hc : k ≤ R.cells) (hs : n ≤ R.slots) : G pc ls (w :: st) A k n :=
  H.retW hd hret hn (Or.inr (Or.inr (Or.inr (Or.inr ⟨rfl, ht, hw⟩)))) hQ hc hs
theorem IsGo.vreturn (H : IsGo l Z a0 K n0 b0 y bytes maxL ret R Q G) (hd : Nx bytes pc .return_ 1 pc') (hret : ret = none) (hQ : Q none A) (hc : k ≤ R.cells) (hs : n ≤ R.slots) : G pc ls [] A k n := by
  obtain ⟨hd, rfl⟩ := hd
  obtain ⟨p, e, s, m, args, below, meth, c, hx, hby, hml, hown, hnm, hret', hlk, hZ, hK, hb0, rfl⟩ := H
  intro T locs X hR hF
  obtain ⟨fs, hr, hrun, hended, hW, hsame⟩ := X.leave (v := none) (fun _ => rfl) hlk
  exact ⟨_, _, X.returnOut hx (hret'.trans hret) (hb hby hd) hr, hrun, hended, _, _, rfl, ⟨A, hQ, hR, hF⟩, ⟨_, rfl⟩, hW, hsame.mono hc hs⟩
end Rules
end Jvm.OwnKit

namespace Jvm.Pilot.@@N@@
open Jvm Jvm.ClassFile Sem Op Lib Jvm.Free Jvm.Stand Jvm.LawKit Jvm.RoadKit Jvm.OwnKit Bundle Jvm.Pilot.@@N@@.Jvm.D
abbrev HW1 (Z : State) (a0 : Array Value) : Prop := ∀ d ∈ tables_1, d.before a0 Z = true
def KT : KTab := [("com/example/wavegrant/wavegrant/LaidGrants", [("com/example/wavegrant/wavegrant/LaidGrants", "onus", "[I"), ("com/example/wavegrant/wavegrant/LaidGrants", "wavelengths", "[I"), ("com/example/wavegrant/wavegrant/LaidGrants", "starts", "[J"), ("com/example/wavegrant/wavegrant/LaidGrants", "ends", "[J"), ("com/example/wavegrant/wavegrant/LaidGrants", "count", "I")])]
abbrev y1 : MethodName := ⟨"com/example/wavegrant/wavegrant/LaidGrantsAddAllPinLaw", "place", "([I[I[J[JII[I[I[J[J)V"⟩
abbrev y2 : MethodName := ⟨"com/example/wavegrant/wavegrant/LaidGrants", "<init>", "(I)V"⟩
abbrev y3 : MethodName := ⟨"java/lang/Object", "<init>", "()V"⟩
abbrev y4 : MethodName := ⟨"com/example/wavegrant/wavegrant/LaidGrants", "add", "(IIJJ)V"⟩
abbrev y5 : MethodName := ⟨"com/example/wavegrant/wavegrant/LaidGrants", "addAll", "(Lcom/example/wavegrant/wavegrant/LaidGrants;[I)V"⟩
abbrev y6 : MethodName := ⟨"com/example/wavegrant/wavegrant/LaidGrants", "count", "()I"⟩
abbrev y7 : MethodName := ⟨"com/example/wavegrant/wavegrant/LaidGrants", "onus", "()[I"⟩
abbrev y8 : MethodName := ⟨"com/example/wavegrant/wavegrant/LaidGrants", "wavelengths", "()[I"⟩
abbrev y9 : MethodName := ⟨"com/example/wavegrant/wavegrant/LaidGrants", "starts", "()[J"⟩
abbrev y10 : MethodName := ⟨"com/example/wavegrant/wavegrant/LaidGrants", "ends", "()[J"⟩
abbrev y11 : MethodName := ⟨"com/example/wavegrant/wavegrant/LaidGrantsAddAllPinLaw", "sameI", "([I[I)Z"⟩
abbrev y12 : MethodName := ⟨"com/example/wavegrant/wavegrant/LaidGrantsAddAllPinLaw", "sameL", "([J[J)Z"⟩
theorem kok {Z : State} {a0 : Array Value} (hw : HW1 Z a0) : KOk Z a0 KT := kokOf (faS ⟨⟨_, (hw _ (List.mem_of_getElem? (i := 8) rfl))⟩, (faS ⟨Or.inr (hw _ (List.mem_of_getElem? (i := 17) rfl)), (.array .int), by decide +kernel⟩ (faS ⟨Or.inr (hw _ (List.mem_of_getElem? (i := 19) rfl)), (.array .int), by decide +kernel⟩ (faS ⟨Or.inr (hw _ (List.mem_of_getElem? (i := 21) rfl)), (.array .long), by decide +kernel⟩ (faS ⟨Or.inr (hw _ (List.mem_of_getElem? (i := 23) rfl)), (.array .long), by decide +kernel⟩ (faS ⟨Or.inl (hw _ (List.mem_of_getElem? (i := 30) rfl)), .int, by decide +kernel⟩ fa0))))), by decide⟩ fa0)

theorem own_rng (y : Int32) : 0 ≤ (y &&& (2147483647 : Int32)).toInt := by
  have q := c_mask y 2147483647 31 (by decide) (by decide)
  omega
theorem own_rem (y m : Int32) (d : Int) (hm : m.toInt = d) (hd : 0 < d) : 0 ≤ ((y &&& (2147483647 : Int32)) % m).toInt ∧ ((y &&& (2147483647 : Int32)) % m).toInt < d := by
  have q := (c_irem (y &&& (2147483647 : Int32)) m d hm).1 (own_rng y)
  rw [q]
  exact ⟨Int.emod_nonneg _ (by omega), Int.emod_lt_of_pos _ hd⟩
theorem own_rem1 (y : Int32) : ((y &&& (2147483647 : Int32)) % (1 : Int32)) = 0 := by
  have q := own_rem y 1 1 (by decide) (by decide)
  exact (i_eq rfl (by decide)).mpr (by omega : _ = (0 : Int))
theorem own_rem2 (y : Int32) : ((y &&& (2147483647 : Int32)) % (2 : Int32)) = 0 ∨ ((y &&& (2147483647 : Int32)) % (2 : Int32)) = 1 := by
  have q := own_rem y 2 2 (by decide) (by decide)
  rw [i_eq rfl (by decide : (0 : Int32).toInt = 0), i_eq rfl (by decide : (1 : Int32).toInt = 1)]
  omega
theorem own_rem3 (y : Int32) : ((y &&& (2147483647 : Int32)) % (3 : Int32)) = 0 ∨ ((y &&& (2147483647 : Int32)) % (3 : Int32)) = 1 ∨ ((y &&& (2147483647 : Int32)) % (3 : Int32)) = 2 := by
  have q := own_rem y 3 3 (by decide) (by decide)
  rw [i_eq rfl (by decide : (0 : Int32).toInt = 0), i_eq rfl (by decide : (1 : Int32).toInt = 1), i_eq rfl (by decide : (2 : Int32).toInt = 2)]
  omega
theorem own_and3 (y : Int32) : (y &&& (3 : Int32)) = 0 ∨ (y &&& (3 : Int32)) = 1 ∨ (y &&& (3 : Int32)) = 2 ∨ (y &&& (3 : Int32)) = 3 := by
  have q := c_mask y 3 2 (by decide) (by decide)
  rw [i_eq rfl (by decide : (0 : Int32).toInt = 0), i_eq rfl (by decide : (1 : Int32).toInt = 1), i_eq rfl (by decide : (2 : Int32).toInt = 2), i_eq rfl (by decide : (3 : Int32).toInt = 3)]
  omega


theorem own_and1 (y : Int32) : (y &&& (1 : Int32)) = 0 ∨ (y &&& (1 : Int32)) = 1 := by
  have q := c_mask y 1 1 (by decide) (by decide)
  rw [i_eq rfl (by decide : (0 : Int32).toInt = 0), i_eq rfl (by decide : (1 : Int32).toInt = 1)]
  omega
theorem own_ix (y : Int32) : ∃ z, (y &&& (1 : Int32)) = z ∧ ∃ N : Nat, z.toInt = (N : Int) ∧ N < 2 := by
  have q := c_mask y 1 1 (by decide) (by decide)
  exact ⟨_, rfl, (y &&& 1).toInt.toNat, by omega, by omega⟩
def own_selI (N : Nat) (a b : Int32) : Int32 := if N = 0 then a else b
def own_selJ (N : Nat) (a b : Int64) : Int64 := if N = 0 then a else b
theorem own_gI {N : Nat} {a b : Int32} (h : N < 2) : ([.int a, .int b] : List Value)[N]? = some (.int (own_selI N a b)) := by
  match N, h with
  | 0, _ => rfl
  | 1, _ => rfl
theorem own_gJ {N : Nat} {a b : Int64} (h : N < 2) : ([.long a, .long b] : List Value)[N]? = some (.long (own_selJ N a b)) := by
  match N, h with
  | 0, _ => rfl
  | 1, _ => rfl

theorem pn_8 : plainName "com/example/wavegrant/wavegrant/LaidGrants" = true := by first | (simp [plainName, overriddenIn]; done) | decide +kernel
theorem s0_0 : Nx code 0 (.iload 7) 2 2 := ⟨at_0, rfl⟩
theorem s0_2 : Nx code 2 (.iconst 1) 1 3 := ⟨at_2, rfl⟩
theorem s0_3 : Nx code 3 (.iand) 1 4 := ⟨at_3, rfl⟩
theorem s0_4 : Nx code 4 (.istore 8) 2 6 := ⟨at_4, rfl⟩
theorem s0_6 : Nx code 6 (.iload 7) 2 8 := ⟨at_6, rfl⟩
theorem s0_8 : Nx code 8 (.iconst 1) 1 9 := ⟨at_8, rfl⟩
theorem s0_9 : Nx code 9 (.iushr) 1 10 := ⟨at_9, rfl⟩
theorem s0_10 : Nx code 10 (.iconst 3) 1 11 := ⟨at_10, rfl⟩
theorem s0_11 : Nx code 11 (.iand) 1 12 := ⟨at_11, rfl⟩
theorem s0_12 : Nx code 12 (.istore 9) 2 14 := ⟨at_12, rfl⟩
theorem s0_14 : Nx code 14 (.iload 7) 2 16 := ⟨at_14, rfl⟩
theorem s0_16 : Nx code 16 (.iconst 3) 1 17 := ⟨at_16, rfl⟩
theorem s0_17 : Nx code 17 (.iushr) 1 18 := ⟨at_17, rfl⟩
theorem s0_18 : Nx code 18 (.iconst 1) 1 19 := ⟨at_18, rfl⟩
theorem s0_19 : Nx code 19 (.iand) 1 20 := ⟨at_19, rfl⟩
theorem s0_20 : Nx code 20 (.istore 10) 2 22 := ⟨at_20, rfl⟩
theorem s0_22 : Nx code 22 (.iload 7) 2 24 := ⟨at_22, rfl⟩
theorem s0_24 : Nx code 24 (.iconst 4) 1 25 := ⟨at_24, rfl⟩
theorem s0_25 : Nx code 25 (.iushr) 1 26 := ⟨at_25, rfl⟩
theorem s0_26 : Nx code 26 (.iconst 1) 1 27 := ⟨at_26, rfl⟩
theorem s0_27 : Nx code 27 (.iand) 1 28 := ⟨at_27, rfl⟩
theorem s0_28 : Nx code 28 (.istore 11) 2 30 := ⟨at_28, rfl⟩
theorem s0_30 : Nx code 30 (.iload 7) 2 32 := ⟨at_30, rfl⟩
theorem s0_32 : Nx code 32 (.iconst 5) 1 33 := ⟨at_32, rfl⟩
theorem s0_33 : Nx code 33 (.iushr) 1 34 := ⟨at_33, rfl⟩
theorem s0_34 : Nx code 34 (.iconst 1) 1 35 := ⟨at_34, rfl⟩
theorem s0_35 : Nx code 35 (.iand) 1 36 := ⟨at_35, rfl⟩
theorem s0_36 : Nx code 36 (.istore 12) 2 38 := ⟨at_36, rfl⟩
theorem s0_38 : Nx code 38 (.iload 9) 2 40 := ⟨at_38, rfl⟩
theorem s0_40 : Bx code 40 (.ifCond .ne) 51 43 := ⟨(11), at_40, by decide, by decide, rfl⟩
theorem s0_43 : Nx code 43 (.iconst 0) 1 44 := ⟨at_43, rfl⟩
theorem s0_44 : Nx code 44 (.newarray .int) 2 46 := ⟨at_44, rfl⟩
theorem k_0 {Z : State} {a0 : Array Value} (hw : HW1 Z a0) : AL Z a0 .int := (hw _ (List.mem_of_getElem? (i := 0) rfl))
theorem s0_46 : Nx code 46 (.astore 13) 2 48 := ⟨at_46, rfl⟩
theorem s0_48 : Bx code 48 (.goto) 114 51 := ⟨(66), at_48, by decide, by decide, rfl⟩
theorem s0_114 : Nx code 114 (.iconst 2) 1 115 := ⟨at_114, rfl⟩
theorem s0_115 : Nx code 115 (.newarray .int) 2 117 := ⟨at_115, rfl⟩
theorem s0_117 : Nx code 117 (.dup) 1 118 := ⟨at_117, rfl⟩
theorem s0_118 : Nx code 118 (.iconst 0) 1 119 := ⟨at_118, rfl⟩
theorem s0_119 : Nx code 119 (.iload_n 0) 1 120 := ⟨at_119, rfl⟩
theorem s0_120 : Nx code 120 (.iastore) 1 121 := ⟨at_120, rfl⟩
theorem s0_121 : Nx code 121 (.dup) 1 122 := ⟨at_121, rfl⟩
theorem s0_122 : Nx code 122 (.iconst 1) 1 123 := ⟨at_122, rfl⟩
theorem s0_123 : Nx code 123 (.iload_n 1) 1 124 := ⟨at_123, rfl⟩
theorem s0_124 : Nx code 124 (.iastore) 1 125 := ⟨at_124, rfl⟩
theorem s0_125 : Nx code 125 (.astore 14) 2 127 := ⟨at_125, rfl⟩
theorem s0_127 : Nx code 127 (.iconst 2) 1 128 := ⟨at_127, rfl⟩
theorem s0_128 : Nx code 128 (.newarray .int) 2 130 := ⟨at_128, rfl⟩
theorem s0_130 : Nx code 130 (.dup) 1 131 := ⟨at_130, rfl⟩
theorem s0_131 : Nx code 131 (.iconst 0) 1 132 := ⟨at_131, rfl⟩
theorem s0_132 : Nx code 132 (.iload_n 1) 1 133 := ⟨at_132, rfl⟩
theorem s0_133 : Nx code 133 (.iastore) 1 134 := ⟨at_133, rfl⟩
theorem s0_134 : Nx code 134 (.dup) 1 135 := ⟨at_134, rfl⟩
theorem s0_135 : Nx code 135 (.iconst 1) 1 136 := ⟨at_135, rfl⟩
theorem s0_136 : Nx code 136 (.iload_n 2) 1 137 := ⟨at_136, rfl⟩
theorem s0_137 : Nx code 137 (.iastore) 1 138 := ⟨at_137, rfl⟩
theorem s0_138 : Nx code 138 (.astore 15) 2 140 := ⟨at_138, rfl⟩
theorem s0_140 : Nx code 140 (.iconst 2) 1 141 := ⟨at_140, rfl⟩
theorem s0_141 : Nx code 141 (.newarray .long) 2 143 := ⟨at_141, rfl⟩
theorem k_1 {Z : State} {a0 : Array Value} (hw : HW1 Z a0) : AL Z a0 .long := (hw _ (List.mem_of_getElem? (i := 1) rfl))
theorem s0_143 : Nx code 143 (.dup) 1 144 := ⟨at_143, rfl⟩
theorem s0_144 : Nx code 144 (.iconst 0) 1 145 := ⟨at_144, rfl⟩
theorem s0_145 : Nx code 145 (.lload_n 3) 1 146 := ⟨at_145, rfl⟩
theorem s0_146 : Nx code 146 (.lastore) 1 147 := ⟨at_146, rfl⟩
theorem s0_147 : Nx code 147 (.dup) 1 148 := ⟨at_147, rfl⟩
theorem s0_148 : Nx code 148 (.iconst 1) 1 149 := ⟨at_148, rfl⟩
theorem s0_149 : Nx code 149 (.lload 5) 2 151 := ⟨at_149, rfl⟩
theorem s0_151 : Nx code 151 (.lastore) 1 152 := ⟨at_151, rfl⟩
theorem s0_152 : Nx code 152 (.astore 16) 2 154 := ⟨at_152, rfl⟩
theorem s0_154 : Nx code 154 (.iconst 2) 1 155 := ⟨at_154, rfl⟩
theorem s0_155 : Nx code 155 (.newarray .long) 2 157 := ⟨at_155, rfl⟩
theorem s0_157 : Nx code 157 (.dup) 1 158 := ⟨at_157, rfl⟩
theorem s0_158 : Nx code 158 (.iconst 0) 1 159 := ⟨at_158, rfl⟩
theorem s0_159 : Nx code 159 (.lload 5) 2 161 := ⟨at_159, rfl⟩
theorem s0_161 : Nx code 161 (.lastore) 1 162 := ⟨at_161, rfl⟩
theorem s0_162 : Nx code 162 (.dup) 1 163 := ⟨at_162, rfl⟩
theorem s0_163 : Nx code 163 (.iconst 1) 1 164 := ⟨at_163, rfl⟩
theorem s0_164 : Nx code 164 (.lload_n 3) 1 165 := ⟨at_164, rfl⟩
theorem s0_165 : Nx code 165 (.lastore) 1 166 := ⟨at_165, rfl⟩
theorem s0_166 : Nx code 166 (.astore 17) 2 168 := ⟨at_166, rfl⟩
theorem s0_168 : Nx code 168 (.iconst 4) 1 169 := ⟨at_168, rfl⟩
theorem s0_169 : Nx code 169 (.newarray .int) 2 171 := ⟨at_169, rfl⟩
theorem s0_171 : Nx code 171 (.astore 18) 2 173 := ⟨at_171, rfl⟩
theorem s0_173 : Nx code 173 (.iconst 4) 1 174 := ⟨at_173, rfl⟩
theorem s0_174 : Nx code 174 (.newarray .int) 2 176 := ⟨at_174, rfl⟩
theorem s0_176 : Nx code 176 (.astore 19) 2 178 := ⟨at_176, rfl⟩
theorem s0_178 : Nx code 178 (.iconst 4) 1 179 := ⟨at_178, rfl⟩
theorem s0_179 : Nx code 179 (.newarray .long) 2 181 := ⟨at_179, rfl⟩
theorem s0_181 : Nx code 181 (.astore 20) 2 183 := ⟨at_181, rfl⟩
theorem s0_183 : Nx code 183 (.iconst 4) 1 184 := ⟨at_183, rfl⟩
theorem s0_184 : Nx code 184 (.newarray .long) 2 186 := ⟨at_184, rfl⟩
theorem s0_186 : Nx code 186 (.astore 21) 2 188 := ⟨at_186, rfl⟩
theorem s0_188 : Nx code 188 (.iload 8) 2 190 := ⟨at_188, rfl⟩
theorem s0_190 : Nx code 190 (.iconst 1) 1 191 := ⟨at_190, rfl⟩
theorem s0_191 : Bx code 191 (.if_icmp .ne) 223 194 := ⟨(32), at_191, by decide, by decide, rfl⟩
theorem s0_223 : Nx code 223 (.iload 9) 2 225 := ⟨at_223, rfl⟩
theorem s0_225 : Nx code 225 (.iconst 1) 1 226 := ⟨at_225, rfl⟩
theorem s0_226 : Bx code 226 (.if_icmp .lt) 252 229 := ⟨(26), at_226, by decide, by decide, rfl⟩
theorem s0_252 : Nx code 252 (.iload 9) 2 254 := ⟨at_252, rfl⟩
theorem s0_254 : Nx code 254 (.iconst 2) 1 255 := ⟨at_254, rfl⟩
theorem s0_255 : Bx code 255 (.if_icmp .lt) 283 258 := ⟨(28), at_255, by decide, by decide, rfl⟩
theorem s0_283 : Nx code 283 (.iload 9) 2 285 := ⟨at_283, rfl⟩
theorem s0_285 : Nx code 285 (.iconst 3) 1 286 := ⟨at_285, rfl⟩
theorem s0_286 : Bx code 286 (.if_icmp .lt) 314 289 := ⟨(28), at_286, by decide, by decide, rfl⟩
theorem k_2 {Z : State} {a0 : Array Value} (hw : HW1 Z a0) : NL Z a0 KT "com/example/wavegrant/wavegrant/LaidGrantsAddAllPinLaw" 15 0 5 [.null, .null, .null, .null, oz] := ⟨_, _, rfl, (hw _ (List.mem_of_getElem? (i := 7) rfl)), (hw _ (List.mem_of_getElem? (i := 8) rfl)), (hw _ (List.mem_of_getElem? (i := 9) rfl)), by decide +kernel⟩
theorem s0_314 : Nx code 314 (.new 15) 3 317 := ⟨at_314, rfl⟩
theorem s0_317 : Nx code 317 (.dup) 1 318 := ⟨at_317, rfl⟩
theorem s0_318 : Nx code 318 (.iconst 2) 1 319 := ⟨at_318, rfl⟩
theorem s0_319 : Nx code 319 (.invokespecial 17) 3 322 := ⟨at_319, rfl⟩
theorem s2_0 : Nx prog_15_method_1_code 0 (.aload_n 0) 1 1 := ⟨by decide +kernel, rfl⟩
theorem s2_1 : Nx prog_15_method_1_code 1 (.invokespecial 1) 3 4 := ⟨by decide +kernel, rfl⟩
theorem k_3 {Z : State} {a0 : Array Value} (hw : HW1 Z a0) : IL Z a0 "com/example/wavegrant/wavegrant/LaidGrants" 1 := ⟨(hw _ (List.mem_of_getElem? (i := 13) rfl)), (hw _ (List.mem_of_getElem? (i := 14) rfl)), (hw _ (List.mem_of_getElem? (i := 15) rfl))⟩
theorem s2_4 : Nx prog_15_method_1_code 4 (.aload_n 0) 1 5 := ⟨by decide +kernel, rfl⟩
theorem s2_5 : Nx prog_15_method_1_code 5 (.iload_n 1) 1 6 := ⟨by decide +kernel, rfl⟩
theorem s2_6 : Nx prog_15_method_1_code 6 (.newarray .int) 2 8 := ⟨by decide +kernel, rfl⟩
theorem k_4 {Z : State} {a0 : Array Value} (hw : HW1 Z a0) : PL Z a0 KT "com/example/wavegrant/wavegrant/LaidGrants" "<init>" 7 0 0 (.array .int) := ⟨_, _, "com/example/wavegrant/wavegrant/LaidGrants", "onus", "[I", "", rfl, rfl, (Or.inl (hw _ (List.mem_of_getElem? (i := 16) rfl))), (Or.inr ⟨(hw _ (List.mem_of_getElem? (i := 17) rfl)), rfl, rfl⟩), by decide +kernel⟩
theorem s2_8 : Nx prog_15_method_1_code 8 (.putfield 7) 3 11 := ⟨by decide +kernel, rfl⟩
theorem s2_11 : Nx prog_15_method_1_code 11 (.aload_n 0) 1 12 := ⟨by decide +kernel, rfl⟩
theorem s2_12 : Nx prog_15_method_1_code 12 (.iload_n 1) 1 13 := ⟨by decide +kernel, rfl⟩
theorem s2_13 : Nx prog_15_method_1_code 13 (.newarray .int) 2 15 := ⟨by decide +kernel, rfl⟩
theorem k_5 {Z : State} {a0 : Array Value} (hw : HW1 Z a0) : PL Z a0 KT "com/example/wavegrant/wavegrant/LaidGrants" "<init>" 13 0 1 (.array .int) := ⟨_, _, "com/example/wavegrant/wavegrant/LaidGrants", "wavelengths", "[I", "", rfl, rfl, (Or.inl (hw _ (List.mem_of_getElem? (i := 18) rfl))), (Or.inr ⟨(hw _ (List.mem_of_getElem? (i := 19) rfl)), rfl, rfl⟩), by decide +kernel⟩
theorem s2_15 : Nx prog_15_method_1_code 15 (.putfield 13) 3 18 := ⟨by decide +kernel, rfl⟩
theorem s2_18 : Nx prog_15_method_1_code 18 (.aload_n 0) 1 19 := ⟨by decide +kernel, rfl⟩
theorem s2_19 : Nx prog_15_method_1_code 19 (.iload_n 1) 1 20 := ⟨by decide +kernel, rfl⟩
theorem s2_20 : Nx prog_15_method_1_code 20 (.newarray .long) 2 22 := ⟨by decide +kernel, rfl⟩
theorem k_6 {Z : State} {a0 : Array Value} (hw : HW1 Z a0) : PL Z a0 KT "com/example/wavegrant/wavegrant/LaidGrants" "<init>" 16 0 2 (.array .long) := ⟨_, _, "com/example/wavegrant/wavegrant/LaidGrants", "starts", "[J", "", rfl, rfl, (Or.inl (hw _ (List.mem_of_getElem? (i := 20) rfl))), (Or.inr ⟨(hw _ (List.mem_of_getElem? (i := 21) rfl)), rfl, rfl⟩), by decide +kernel⟩
theorem s2_22 : Nx prog_15_method_1_code 22 (.putfield 16) 3 25 := ⟨by decide +kernel, rfl⟩
theorem s2_25 : Nx prog_15_method_1_code 25 (.aload_n 0) 1 26 := ⟨by decide +kernel, rfl⟩
theorem s2_26 : Nx prog_15_method_1_code 26 (.iload_n 1) 1 27 := ⟨by decide +kernel, rfl⟩
theorem s2_27 : Nx prog_15_method_1_code 27 (.newarray .long) 2 29 := ⟨by decide +kernel, rfl⟩
theorem k_7 {Z : State} {a0 : Array Value} (hw : HW1 Z a0) : PL Z a0 KT "com/example/wavegrant/wavegrant/LaidGrants" "<init>" 20 0 3 (.array .long) := ⟨_, _, "com/example/wavegrant/wavegrant/LaidGrants", "ends", "[J", "", rfl, rfl, (Or.inl (hw _ (List.mem_of_getElem? (i := 22) rfl))), (Or.inr ⟨(hw _ (List.mem_of_getElem? (i := 23) rfl)), rfl, rfl⟩), by decide +kernel⟩
theorem s2_29 : Nx prog_15_method_1_code 29 (.putfield 20) 3 32 := ⟨by decide +kernel, rfl⟩
theorem s2_32 : Nx prog_15_method_1_code 32 (.return_) 1 33 := ⟨by decide +kernel, rfl⟩
set_option maxRecDepth 65536 in
set_option maxHeartbeats 40000000 in
theorem a_0 (l : Launch) {Z : State} {a0 : Array Value} (hw : HW1 Z a0) (n0 : Nat) (p0 : Int32) (p1 : Int32) (p2 : Int32) (p3 : Int64) (p4 : Int64) : Met l Z KT n0 y2 prog_15_method_1_code 2 none ({ frames := 1, cells := 4, slots := 8, locals := 12 } : Room) #[(rf n0 9), (.int (2 : Int32))] [.inr (.int, []), .inr (.int, [(.int p0), (.int p1)]), .inr (.int, [(.int p1), (.int p2)]), .inr (.long, [(.long p3), (.long p4)]), .inr (.long, [(.long p4), (.long p3)]), .inr (.int, [oz, oz, oz, oz]), .inr (.int, [oz, oz, oz, oz]), .inr (.long, [ol, ol, ol, ol]), .inr (.long, [ol, ol, ol, ol]), .inl (0, [.null, .null, .null, .null, oz])] (Is none [.inr (.int, []), .inr (.int, [(.int p0), (.int p1)]), .inr (.int, [(.int p1), (.int p2)]), .inr (.long, [(.long p3), (.long p4)]), .inr (.long, [(.long p4), (.long p3)]), .inr (.int, [oz, oz, oz, oz]), .inr (.int, [oz, oz, oz, oz]), .inr (.long, [ol, ol, ol, ol]), .inr (.long, [ol, ol, ol, ol]), .inl (0, [(rf n0 10), (rf n0 11), (rf n0 12), (rf n0 13), oz]), .inr (.int, [oz, oz]), .inr (.int, [oz, oz]), .inr (.long, [ol, ol]), .inr (.long, [ol, ol])]) := by
  refine Met.of (a0 := a0) (ls := #[.val (rf n0 9), .val (.int (2 : Int32))]) (kok hw) (plainFor_of_name pn_8) (fun m => by first | (simp [entryFrame, mkF, argsToLocals, Value.category]; done) | rfl) (fun G H => ?_)
  refine H.aloadN s2_0 rfl rfl ?_
  refine H.initO s2_1 (k_3 hw) rfl (leb rfl) (leb rfl) ?_
  refine H.aloadN s2_4 rfl rfl ?_
  refine H.iloadN s2_5 rfl ?_
  refine H.newarray s2_6 (ty := .int) rfl (k_0 hw) (N := 2) (cap := 2) (by decide) rfl (by decide) (by decide) (by first | rfl | simp) (by decide) (by decide) (i := 10) rfl (A' := [.inr (.int, []), .inr (.int, [(.int p0), (.int p1)]), .inr (.int, [(.int p1), (.int p2)]), .inr (.long, [(.long p3), (.long p4)]), .inr (.long, [(.long p4), (.long p3)]), .inr (.int, [oz, oz, oz, oz]), .inr (.int, [oz, oz, oz, oz]), .inr (.long, [ol, ol, ol, ol]), .inr (.long, [ol, ol, ol, ol]), .inl (0, [.null, .null, .null, .null, oz]), .inr (.int, [oz, oz])]) rfl (k' := 1) rfl (n' := 2) rfl ?_
  refine H.putfield s2_8 (k_4 hw) (i := 9) rfl rfl rfl rfl ?_
  refine H.aloadN s2_11 rfl rfl ?_
  refine H.iloadN s2_12 rfl ?_
  refine H.newarray s2_13 (ty := .int) rfl (k_0 hw) (N := 2) (cap := 2) (by decide) rfl (by decide) (by decide) (by first | rfl | simp) (by decide) (by decide) (i := 11) rfl (A' := [.inr (.int, []), .inr (.int, [(.int p0), (.int p1)]), .inr (.int, [(.int p1), (.int p2)]), .inr (.long, [(.long p3), (.long p4)]), .inr (.long, [(.long p4), (.long p3)]), .inr (.int, [oz, oz, oz, oz]), .inr (.int, [oz, oz, oz, oz]), .inr (.long, [ol, ol, ol, ol]), .inr (.long, [ol, ol, ol, ol]), .inl (0, [(rf n0 10), .null, .null, .null, oz]), .inr (.int, [oz, oz]), .inr (.int, [oz, oz])]) rfl (k' := 2) rfl (n' := 4) rfl ?_
  refine H.putfield s2_15 (k_5 hw) (i := 9) rfl rfl rfl rfl ?_
  refine H.aloadN s2_18 rfl rfl ?_
  refine H.iloadN s2_19 rfl ?_
  refine H.newarray s2_20 (ty := .long) rfl (k_1 hw) (N := 2) (cap := 2) (by decide) rfl (by decide) (by decide) (by first | rfl | simp) (by decide) (by decide) (i := 12) rfl (A' := [.inr (.int, []), .inr (.int, [(.int p0), (.int p1)]), .inr (.int, [(.int p1), (.int p2)]), .inr (.long, [(.long p3), (.long p4)]), .inr (.long, [(.long p4), (.long p3)]), .inr (.int, [oz, oz, oz, oz]), .inr (.int, [oz, oz, oz, oz]), .inr (.long, [ol, ol, ol, ol]), .inr (.long, [ol, ol, ol, ol]), .inl (0, [(rf n0 10), (rf n0 11), .null, .null, oz]), .inr (.int, [oz, oz]), .inr (.int, [oz, oz]), .inr (.long, [ol, ol])]) rfl (k' := 3) rfl (n' := 6) rfl ?_
  refine H.putfield s2_22 (k_6 hw) (i := 9) rfl rfl rfl rfl ?_
  refine H.aloadN s2_25 rfl rfl ?_
  refine H.iloadN s2_26 rfl ?_
  refine H.newarray s2_27 (ty := .long) rfl (k_1 hw) (N := 2) (cap := 2) (by decide) rfl (by decide) (by decide) (by first | rfl | simp) (by decide) (by decide) (i := 13) rfl (A' := [.inr (.int, []), .inr (.int, [(.int p0), (.int p1)]), .inr (.int, [(.int p1), (.int p2)]), .inr (.long, [(.long p3), (.long p4)]), .inr (.long, [(.long p4), (.long p3)]), .inr (.int, [oz, oz, oz, oz]), .inr (.int, [oz, oz, oz, oz]), .inr (.long, [ol, ol, ol, ol]), .inr (.long, [ol, ol, ol, ol]), .inl (0, [(rf n0 10), (rf n0 11), (rf n0 12), .null, oz]), .inr (.int, [oz, oz]), .inr (.int, [oz, oz]), .inr (.long, [ol, ol]), .inr (.long, [ol, ol])]) rfl (k' := 4) rfl (n' := 8) rfl ?_
  refine H.putfield s2_29 (k_7 hw) (i := 9) rfl rfl rfl rfl ?_
  exact H.vreturn s2_32 rfl ⟨rfl, rfl⟩ (by decide) (by decide)

theorem pd_0 : ∀ sig, parseMethodDescriptor "(I)V" = some sig → 1 = sig.parameters.length := npOf (r := none) (ps := [.int]) (by decide +kernel) rfl
theorem k_9 {Z : State} {a0 : Array Value} (hw : HW1 Z a0) : CL Z a0 "com/example/wavegrant/wavegrant/LaidGrantsAddAllPinLaw" 17 y2 prog_15_method_1_code 2 1 := ⟨(hw _ (List.mem_of_getElem? (i := 10) rfl)), (hw _ (List.mem_of_getElem? (i := 11) rfl)), (hw _ (List.mem_of_getElem? (i := 9) rfl)), (hw _ (List.mem_of_getElem? (i := 12) rfl)), ⟨by decide, by decide⟩, pd_0, rfl⟩
theorem s0_322 : Nx code 322 (.astore 22) 2 324 := ⟨at_322, rfl⟩
theorem s0_324 : Nx code 324 (.aload 22) 2 326 := ⟨at_324, rfl⟩
theorem s0_326 : Nx code 326 (.iload_n 0) 1 327 := ⟨at_326, rfl⟩
theorem s0_327 : Nx code 327 (.iload_n 1) 1 328 := ⟨at_327, rfl⟩
theorem s0_328 : Nx code 328 (.lload_n 3) 1 329 := ⟨at_328, rfl⟩
theorem s0_329 : Nx code 329 (.lload 5) 2 331 := ⟨at_329, rfl⟩
theorem s0_331 : Nx code 331 (.invokevirtual 20) 3 334 := ⟨at_331, rfl⟩
theorem s4_0 : Nx prog_15_method_2_code 0 (.aload_n 0) 1 1 := ⟨by decide +kernel, rfl⟩
theorem k_10 {Z : State} {a0 : Array Value} (hw : HW1 Z a0) : FL Z a0 KT "com/example/wavegrant/wavegrant/LaidGrants" 7 0 0 := ⟨_, _, "com/example/wavegrant/wavegrant/LaidGrants", "onus", "[I", "", rfl, rfl, (Or.inl (hw _ (List.mem_of_getElem? (i := 16) rfl)))⟩
theorem s4_1 : Nx prog_15_method_2_code 1 (.getfield 7) 3 4 := ⟨by decide +kernel, rfl⟩
theorem s4_4 : Nx prog_15_method_2_code 4 (.aload_n 0) 1 5 := ⟨by decide +kernel, rfl⟩
theorem k_11 {Z : State} {a0 : Array Value} (hw : HW1 Z a0) : FL Z a0 KT "com/example/wavegrant/wavegrant/LaidGrants" 23 0 4 := ⟨_, _, "com/example/wavegrant/wavegrant/LaidGrants", "count", "I", "", rfl, rfl, (Or.inl (hw _ (List.mem_of_getElem? (i := 29) rfl)))⟩
theorem s4_5 : Nx prog_15_method_2_code 5 (.getfield 23) 3 8 := ⟨by decide +kernel, rfl⟩
theorem s4_8 : Nx prog_15_method_2_code 8 (.iload_n 1) 1 9 := ⟨by decide +kernel, rfl⟩
theorem s4_9 : Nx prog_15_method_2_code 9 (.iastore) 1 10 := ⟨by decide +kernel, rfl⟩
theorem s4_10 : Nx prog_15_method_2_code 10 (.aload_n 0) 1 11 := ⟨by decide +kernel, rfl⟩
theorem k_12 {Z : State} {a0 : Array Value} (hw : HW1 Z a0) : FL Z a0 KT "com/example/wavegrant/wavegrant/LaidGrants" 13 0 1 := ⟨_, _, "com/example/wavegrant/wavegrant/LaidGrants", "wavelengths", "[I", "", rfl, rfl, (Or.inl (hw _ (List.mem_of_getElem? (i := 18) rfl)))⟩
theorem s4_11 : Nx prog_15_method_2_code 11 (.getfield 13) 3 14 := ⟨by decide +kernel, rfl⟩
theorem s4_14 : Nx prog_15_method_2_code 14 (.aload_n 0) 1 15 := ⟨by decide +kernel, rfl⟩
theorem s4_15 : Nx prog_15_method_2_code 15 (.getfield 23) 3 18 := ⟨by decide +kernel, rfl⟩
theorem s4_18 : Nx prog_15_method_2_code 18 (.iload_n 2) 1 19 := ⟨by decide +kernel, rfl⟩
theorem s4_19 : Nx prog_15_method_2_code 19 (.iastore) 1 20 := ⟨by decide +kernel, rfl⟩
theorem s4_20 : Nx prog_15_method_2_code 20 (.aload_n 0) 1 21 := ⟨by decide +kernel, rfl⟩
theorem k_13 {Z : State} {a0 : Array Value} (hw : HW1 Z a0) : FL Z a0 KT "com/example/wavegrant/wavegrant/LaidGrants" 16 0 2 := ⟨_, _, "com/example/wavegrant/wavegrant/LaidGrants", "starts", "[J", "", rfl, rfl, (Or.inl (hw _ (List.mem_of_getElem? (i := 20) rfl)))⟩
theorem s4_21 : Nx prog_15_method_2_code 21 (.getfield 16) 3 24 := ⟨by decide +kernel, rfl⟩
theorem s4_24 : Nx prog_15_method_2_code 24 (.aload_n 0) 1 25 := ⟨by decide +kernel, rfl⟩
theorem s4_25 : Nx prog_15_method_2_code 25 (.getfield 23) 3 28 := ⟨by decide +kernel, rfl⟩
theorem s4_28 : Nx prog_15_method_2_code 28 (.lload_n 3) 1 29 := ⟨by decide +kernel, rfl⟩
theorem s4_29 : Nx prog_15_method_2_code 29 (.lastore) 1 30 := ⟨by decide +kernel, rfl⟩
theorem s4_30 : Nx prog_15_method_2_code 30 (.aload_n 0) 1 31 := ⟨by decide +kernel, rfl⟩
theorem k_14 {Z : State} {a0 : Array Value} (hw : HW1 Z a0) : FL Z a0 KT "com/example/wavegrant/wavegrant/LaidGrants" 20 0 3 := ⟨_, _, "com/example/wavegrant/wavegrant/LaidGrants", "ends", "[J", "", rfl, rfl, (Or.inl (hw _ (List.mem_of_getElem? (i := 22) rfl)))⟩
theorem s4_31 : Nx prog_15_method_2_code 31 (.getfield 20) 3 34 := ⟨by decide +kernel, rfl⟩
theorem s4_34 : Nx prog_15_method_2_code 34 (.aload_n 0) 1 35 := ⟨by decide +kernel, rfl⟩
theorem s4_35 : Nx prog_15_method_2_code 35 (.getfield 23) 3 38 := ⟨by decide +kernel, rfl⟩
theorem s4_38 : Nx prog_15_method_2_code 38 (.lload 5) 2 40 := ⟨by decide +kernel, rfl⟩
theorem s4_40 : Nx prog_15_method_2_code 40 (.lastore) 1 41 := ⟨by decide +kernel, rfl⟩
theorem s4_41 : Nx prog_15_method_2_code 41 (.aload_n 0) 1 42 := ⟨by decide +kernel, rfl⟩
theorem s4_42 : Nx prog_15_method_2_code 42 (.dup) 1 43 := ⟨by decide +kernel, rfl⟩
theorem s4_43 : Nx prog_15_method_2_code 43 (.getfield 23) 3 46 := ⟨by decide +kernel, rfl⟩
theorem s4_46 : Nx prog_15_method_2_code 46 (.iconst 1) 1 47 := ⟨by decide +kernel, rfl⟩
theorem s4_47 : Nx prog_15_method_2_code 47 (.iadd) 1 48 := ⟨by decide +kernel, rfl⟩
theorem k_15 {Z : State} {a0 : Array Value} (hw : HW1 Z a0) : PL Z a0 KT "com/example/wavegrant/wavegrant/LaidGrants" "add" 23 0 4 .int := ⟨_, _, "com/example/wavegrant/wavegrant/LaidGrants", "count", "I", "", rfl, rfl, (Or.inl (hw _ (List.mem_of_getElem? (i := 29) rfl))), (Or.inl (hw _ (List.mem_of_getElem? (i := 30) rfl))), by decide +kernel⟩
theorem s4_48 : Nx prog_15_method_2_code 48 (.putfield 23) 3 51 := ⟨by decide +kernel, rfl⟩
theorem s4_51 : Nx prog_15_method_2_code 51 (.return_) 1 52 := ⟨by decide +kernel, rfl⟩
set_option maxRecDepth 65536 in
set_option maxHeartbeats 40000000 in
theorem a_1 (l : Launch) {Z : State} {a0 : Array Value} (hw : HW1 Z a0) (n0 : Nat) (p0 : Int32) (p1 : Int32) (p2 : Int32) (p3 : Int64) (p4 : Int64) : Met l Z KT n0 y4 prog_15_method_2_code 7 none ({ frames := 0, cells := 0, slots := 0, locals := 0 } : Room) #[(rf n0 9), (.int p0), (.int p1), (.long p3), (.long p4)] [.inr (.int, []), .inr (.int, [(.int p0), (.int p1)]), .inr (.int, [(.int p1), (.int p2)]), .inr (.long, [(.long p3), (.long p4)]), .inr (.long, [(.long p4), (.long p3)]), .inr (.int, [oz, oz, oz, oz]), .inr (.int, [oz, oz, oz, oz]), .inr (.long, [ol, ol, ol, ol]), .inr (.long, [ol, ol, ol, ol]), .inl (0, [(rf n0 10), (rf n0 11), (rf n0 12), (rf n0 13), oz]), .inr (.int, [oz, oz]), .inr (.int, [oz, oz]), .inr (.long, [ol, ol]), .inr (.long, [ol, ol])] (Is none [.inr (.int, []), .inr (.int, [(.int p0), (.int p1)]), .inr (.int, [(.int p1), (.int p2)]), .inr (.long, [(.long p3), (.long p4)]), .inr (.long, [(.long p4), (.long p3)]), .inr (.int, [oz, oz, oz, oz]), .inr (.int, [oz, oz, oz, oz]), .inr (.long, [ol, ol, ol, ol]), .inr (.long, [ol, ol, ol, ol]), .inl (0, [(rf n0 10), (rf n0 11), (rf n0 12), (rf n0 13), (.int (1 : Int32))]), .inr (.int, [(.int p0), oz]), .inr (.int, [(.int p1), oz]), .inr (.long, [(.long p3), ol]), .inr (.long, [(.long p4), ol])]) := by
  refine Met.of (a0 := a0) (ls := #[.val (rf n0 9), .val (.int p0), .val (.int p1), .val (.long p3), .second, .val (.long p4), .second]) (kok hw) (plainFor_of_name pn_8) (fun m => by first | (simp [entryFrame, mkF, argsToLocals, Value.category]; done) | rfl) (fun G H => ?_)
  refine H.aloadN s4_0 rfl rfl ?_
  refine H.getfield s4_1 (k_10 hw) (i := 9) rfl rfl ?_
  refine H.aloadN s4_4 rfl rfl ?_
  refine H.getfield s4_5 (k_11 hw) (i := 9) rfl rfl ?_
  refine H.iloadN s4_8 rfl ?_
  refine H.iastore s4_9 (i := 10) (j := 0) rfl (by decide) (ltb rfl)  rfl ?_
  refine H.aloadN s4_10 rfl rfl ?_
  refine H.getfield s4_11 (k_12 hw) (i := 9) rfl rfl ?_
  refine H.aloadN s4_14 rfl rfl ?_
  refine H.getfield s4_15 (k_11 hw) (i := 9) rfl rfl ?_
  refine H.iloadN s4_18 rfl ?_
  refine H.iastore s4_19 (i := 11) (j := 0) rfl (by decide) (ltb rfl)  rfl ?_
  refine H.aloadN s4_20 rfl rfl ?_
  refine H.getfield s4_21 (k_13 hw) (i := 9) rfl rfl ?_
  refine H.aloadN s4_24 rfl rfl ?_
  refine H.getfield s4_25 (k_11 hw) (i := 9) rfl rfl ?_
  refine H.lloadN s4_28 rfl ?_
  refine H.lastore s4_29 (i := 12) (j := 0) rfl (by decide) (ltb rfl)  rfl ?_
  refine H.aloadN s4_30 rfl rfl ?_
  refine H.getfield s4_31 (k_14 hw) (i := 9) rfl rfl ?_
  refine H.aloadN s4_34 rfl rfl ?_
  refine H.getfield s4_35 (k_11 hw) (i := 9) rfl rfl ?_
  refine H.lload s4_38 rfl ?_
  refine H.lastore s4_40 (i := 13) (j := 0) rfl (by decide) (ltb rfl)  rfl ?_
  refine H.aloadN s4_41 rfl rfl ?_
  refine H.dup s4_42 rfl ?_
  refine H.getfield s4_43 (k_11 hw) (i := 9) rfl rfl ?_
  refine H.iconst s4_46 (v := (1 : Int32)) (by decide) ?_
  refine H.iadd s4_47 (w := (1 : Int32)) (by decide) ?_
  refine H.putfield s4_48 (k_15 hw) (i := 9) rfl rfl rfl rfl ?_
  exact H.vreturn s4_51 rfl ⟨rfl, rfl⟩ (by decide) (by decide)

theorem pd_1 : ∀ sig, parseMethodDescriptor "(IIJJ)V" = some sig → 4 = sig.parameters.length := npOf (r := none) (ps := [.int, .int, .long, .long]) (by decide +kernel) rfl
theorem k_16 {Z : State} {a0 : Array Value} (hw : HW1 Z a0) : VL Z a0 KT "com/example/wavegrant/wavegrant/LaidGrantsAddAllPinLaw" 20 0 y4 prog_15_method_2_code 7 none 4 := ⟨_, _, rfl, (hw _ (List.mem_of_getElem? (i := 24) rfl)), (hw _ (List.mem_of_getElem? (i := 25) rfl)), (hw _ (List.mem_of_getElem? (i := 27) rfl)), (hw _ (List.mem_of_getElem? (i := 26) rfl)), (hw _ (List.mem_of_getElem? (i := 9) rfl)), (hw _ (List.mem_of_getElem? (i := 28) rfl)), ⟨by decide, by decide⟩, pd_1⟩
theorem s0_334 : Nx code 334 (.aload 22) 2 336 := ⟨at_334, rfl⟩
theorem s0_336 : Nx code 336 (.iload_n 1) 1 337 := ⟨at_336, rfl⟩
theorem s0_337 : Nx code 337 (.iload_n 2) 1 338 := ⟨at_337, rfl⟩
theorem s0_338 : Nx code 338 (.lload 5) 2 340 := ⟨at_338, rfl⟩
theorem s0_340 : Nx code 340 (.lload_n 3) 1 341 := ⟨at_340, rfl⟩
theorem s0_341 : Nx code 341 (.invokevirtual 20) 3 344 := ⟨at_341, rfl⟩
set_option maxRecDepth 65536 in
set_option maxHeartbeats 40000000 in
theorem a_2 (l : Launch) {Z : State} {a0 : Array Value} (hw : HW1 Z a0) (n0 : Nat) (p0 : Int32) (p1 : Int32) (p2 : Int32) (p3 : Int64) (p4 : Int64) : Met l Z KT n0 y4 prog_15_method_2_code 7 none ({ frames := 0, cells := 0, slots := 0, locals := 0 } : Room) #[(rf n0 9), (.int p1), (.int p2), (.long p4), (.long p3)] [.inr (.int, []), .inr (.int, [(.int p0), (.int p1)]), .inr (.int, [(.int p1), (.int p2)]), .inr (.long, [(.long p3), (.long p4)]), .inr (.long, [(.long p4), (.long p3)]), .inr (.int, [oz, oz, oz, oz]), .inr (.int, [oz, oz, oz, oz]), .inr (.long, [ol, ol, ol, ol]), .inr (.long, [ol, ol, ol, ol]), .inl (0, [(rf n0 10), (rf n0 11), (rf n0 12), (rf n0 13), (.int (1 : Int32))]), .inr (.int, [(.int p0), oz]), .inr (.int, [(.int p1), oz]), .inr (.long, [(.long p3), ol]), .inr (.long, [(.long p4), ol])] (Is none [.inr (.int, []), .inr (.int, [(.int p0), (.int p1)]), .inr (.int, [(.int p1), (.int p2)]), .inr (.long, [(.long p3), (.long p4)]), .inr (.long, [(.long p4), (.long p3)]), .inr (.int, [oz, oz, oz, oz]), .inr (.int, [oz, oz, oz, oz]), .inr (.long, [ol, ol, ol, ol]), .inr (.long, [ol, ol, ol, ol]), .inl (0, [(rf n0 10), (rf n0 11), (rf n0 12), (rf n0 13), (.int (2 : Int32))]), .inr (.int, [(.int p0), (.int p1)]), .inr (.int, [(.int p1), (.int p2)]), .inr (.long, [(.long p3), (.long p4)]), .inr (.long, [(.long p4), (.long p3)])]) := by
  refine Met.of (a0 := a0) (ls := #[.val (rf n0 9), .val (.int p1), .val (.int p2), .val (.long p4), .second, .val (.long p3), .second]) (kok hw) (plainFor_of_name pn_8) (fun m => by first | (simp [entryFrame, mkF, argsToLocals, Value.category]; done) | rfl) (fun G H => ?_)
  refine H.aloadN s4_0 rfl rfl ?_
  refine H.getfield s4_1 (k_10 hw) (i := 9) rfl rfl ?_
  refine H.aloadN s4_4 rfl rfl ?_
  refine H.getfield s4_5 (k_11 hw) (i := 9) rfl rfl ?_
  refine H.iloadN s4_8 rfl ?_
  refine H.iastore s4_9 (i := 10) (j := 1) rfl (by decide) (ltb rfl)  rfl ?_
  refine H.aloadN s4_10 rfl rfl ?_
  refine H.getfield s4_11 (k_12 hw) (i := 9) rfl rfl ?_
  refine H.aloadN s4_14 rfl rfl ?_
  refine H.getfield s4_15 (k_11 hw) (i := 9) rfl rfl ?_
  refine H.iloadN s4_18 rfl ?_
  refine H.iastore s4_19 (i := 11) (j := 1) rfl (by decide) (ltb rfl)  rfl ?_
  refine H.aloadN s4_20 rfl rfl ?_
  refine H.getfield s4_21 (k_13 hw) (i := 9) rfl rfl ?_
  refine H.aloadN s4_24 rfl rfl ?_
  refine H.getfield s4_25 (k_11 hw) (i := 9) rfl rfl ?_
  refine H.lloadN s4_28 rfl ?_
  refine H.lastore s4_29 (i := 12) (j := 1) rfl (by decide) (ltb rfl)  rfl ?_
  refine H.aloadN s4_30 rfl rfl ?_
  refine H.getfield s4_31 (k_14 hw) (i := 9) rfl rfl ?_
  refine H.aloadN s4_34 rfl rfl ?_
  refine H.getfield s4_35 (k_11 hw) (i := 9) rfl rfl ?_
  refine H.lload s4_38 rfl ?_
  refine H.lastore s4_40 (i := 13) (j := 1) rfl (by decide) (ltb rfl)  rfl ?_
  refine H.aloadN s4_41 rfl rfl ?_
  refine H.dup s4_42 rfl ?_
  refine H.getfield s4_43 (k_11 hw) (i := 9) rfl rfl ?_
  refine H.iconst s4_46 (v := (1 : Int32)) (by decide) ?_
  refine H.iadd s4_47 (w := (2 : Int32)) (by decide) ?_
  refine H.putfield s4_48 (k_15 hw) (i := 9) rfl rfl rfl rfl ?_
  exact H.vreturn s4_51 rfl ⟨rfl, rfl⟩ (by decide) (by decide)

theorem s0_344 : Nx code 344 (.new 15) 3 347 := ⟨at_344, rfl⟩
theorem s0_347 : Nx code 347 (.dup) 1 348 := ⟨at_347, rfl⟩
theorem s0_348 : Nx code 348 (.iconst 4) 1 349 := ⟨at_348, rfl⟩
theorem s0_349 : Nx code 349 (.invokespecial 17) 3 352 := ⟨at_349, rfl⟩
set_option maxRecDepth 65536 in
set_option maxHeartbeats 40000000 in
theorem a_3 (l : Launch) {Z : State} {a0 : Array Value} (hw : HW1 Z a0) (n0 : Nat) (p0 : Int32) (p1 : Int32) (p2 : Int32) (p3 : Int64) (p4 : Int64) : Met l Z KT n0 y2 prog_15_method_1_code 2 none ({ frames := 1, cells := 4, slots := 16, locals := 12 } : Room) #[(rf n0 14), (.int (4 : Int32))] [.inr (.int, []), .inr (.int, [(.int p0), (.int p1)]), .inr (.int, [(.int p1), (.int p2)]), .inr (.long, [(.long p3), (.long p4)]), .inr (.long, [(.long p4), (.long p3)]), .inr (.int, [oz, oz, oz, oz]), .inr (.int, [oz, oz, oz, oz]), .inr (.long, [ol, ol, ol, ol]), .inr (.long, [ol, ol, ol, ol]), .inl (0, [(rf n0 10), (rf n0 11), (rf n0 12), (rf n0 13), (.int (2 : Int32))]), .inr (.int, [(.int p0), (.int p1)]), .inr (.int, [(.int p1), (.int p2)]), .inr (.long, [(.long p3), (.long p4)]), .inr (.long, [(.long p4), (.long p3)]), .inl (0, [.null, .null, .null, .null, oz])] (Is none [.inr (.int, []), .inr (.int, [(.int p0), (.int p1)]), .inr (.int, [(.int p1), (.int p2)]), .inr (.long, [(.long p3), (.long p4)]), .inr (.long, [(.long p4), (.long p3)]), .inr (.int, [oz, oz, oz, oz]), .inr (.int, [oz, oz, oz, oz]), .inr (.long, [ol, ol, ol, ol]), .inr (.long, [ol, ol, ol, ol]), .inl (0, [(rf n0 10), (rf n0 11), (rf n0 12), (rf n0 13), (.int (2 : Int32))]), .inr (.int, [(.int p0), (.int p1)]), .inr (.int, [(.int p1), (.int p2)]), .inr (.long, [(.long p3), (.long p4)]), .inr (.long, [(.long p4), (.long p3)]), .inl (0, [(rf n0 15), (rf n0 16), (rf n0 17), (rf n0 18), oz]), .inr (.int, [oz, oz, oz, oz]), .inr (.int, [oz, oz, oz, oz]), .inr (.long, [ol, ol, ol, ol]), .inr (.long, [ol, ol, ol, ol])]) := by
  refine Met.of (a0 := a0) (ls := #[.val (rf n0 14), .val (.int (4 : Int32))]) (kok hw) (plainFor_of_name pn_8) (fun m => by first | (simp [entryFrame, mkF, argsToLocals, Value.category]; done) | rfl) (fun G H => ?_)
  refine H.aloadN s2_0 rfl rfl ?_
  refine H.initO s2_1 (k_3 hw) rfl (leb rfl) (leb rfl) ?_
  refine H.aloadN s2_4 rfl rfl ?_
  refine H.iloadN s2_5 rfl ?_
  refine H.newarray s2_6 (ty := .int) rfl (k_0 hw) (N := 4) (cap := 4) (by decide) rfl (by decide) (by decide) (by first | rfl | simp) (by decide) (by decide) (i := 15) rfl (A' := [.inr (.int, []), .inr (.int, [(.int p0), (.int p1)]), .inr (.int, [(.int p1), (.int p2)]), .inr (.long, [(.long p3), (.long p4)]), .inr (.long, [(.long p4), (.long p3)]), .inr (.int, [oz, oz, oz, oz]), .inr (.int, [oz, oz, oz, oz]), .inr (.long, [ol, ol, ol, ol]), .inr (.long, [ol, ol, ol, ol]), .inl (0, [(rf n0 10), (rf n0 11), (rf n0 12), (rf n0 13), (.int (2 : Int32))]), .inr (.int, [(.int p0), (.int p1)]), .inr (.int, [(.int p1), (.int p2)]), .inr (.long, [(.long p3), (.long p4)]), .inr (.long, [(.long p4), (.long p3)]), .inl (0, [.null, .null, .null, .null, oz]), .inr (.int, [oz, oz, oz, oz])]) rfl (k' := 1) rfl (n' := 4) rfl ?_
  refine H.putfield s2_8 (k_4 hw) (i := 14) rfl rfl rfl rfl ?_
  refine H.aloadN s2_11 rfl rfl ?_
  refine H.iloadN s2_12 rfl ?_
  refine H.newarray s2_13 (ty := .int) rfl (k_0 hw) (N := 4) (cap := 4) (by decide) rfl (by decide) (by decide) (by first | rfl | simp) (by decide) (by decide) (i := 16) rfl (A' := [.inr (.int, []), .inr (.int, [(.int p0), (.int p1)]), .inr (.int, [(.int p1), (.int p2)]), .inr (.long, [(.long p3), (.long p4)]), .inr (.long, [(.long p4), (.long p3)]), .inr (.int, [oz, oz, oz, oz]), .inr (.int, [oz, oz, oz, oz]), .inr (.long, [ol, ol, ol, ol]), .inr (.long, [ol, ol, ol, ol]), .inl (0, [(rf n0 10), (rf n0 11), (rf n0 12), (rf n0 13), (.int (2 : Int32))]), .inr (.int, [(.int p0), (.int p1)]), .inr (.int, [(.int p1), (.int p2)]), .inr (.long, [(.long p3), (.long p4)]), .inr (.long, [(.long p4), (.long p3)]), .inl (0, [(rf n0 15), .null, .null, .null, oz]), .inr (.int, [oz, oz, oz, oz]), .inr (.int, [oz, oz, oz, oz])]) rfl (k' := 2) rfl (n' := 8) rfl ?_
  refine H.putfield s2_15 (k_5 hw) (i := 14) rfl rfl rfl rfl ?_
  refine H.aloadN s2_18 rfl rfl ?_
  refine H.iloadN s2_19 rfl ?_
  refine H.newarray s2_20 (ty := .long) rfl (k_1 hw) (N := 4) (cap := 4) (by decide) rfl (by decide) (by decide) (by first | rfl | simp) (by decide) (by decide) (i := 17) rfl (A' := [.inr (.int, []), .inr (.int, [(.int p0), (.int p1)]), .inr (.int, [(.int p1), (.int p2)]), .inr (.long, [(.long p3), (.long p4)]), .inr (.long, [(.long p4), (.long p3)]), .inr (.int, [oz, oz, oz, oz]), .inr (.int, [oz, oz, oz, oz]), .inr (.long, [ol, ol, ol, ol]), .inr (.long, [ol, ol, ol, ol]), .inl (0, [(rf n0 10), (rf n0 11), (rf n0 12), (rf n0 13), (.int (2 : Int32))]), .inr (.int, [(.int p0), (.int p1)]), .inr (.int, [(.int p1), (.int p2)]), .inr (.long, [(.long p3), (.long p4)]), .inr (.long, [(.long p4), (.long p3)]), .inl (0, [(rf n0 15), (rf n0 16), .null, .null, oz]), .inr (.int, [oz, oz, oz, oz]), .inr (.int, [oz, oz, oz, oz]), .inr (.long, [ol, ol, ol, ol])]) rfl (k' := 3) rfl (n' := 12) rfl ?_
  refine H.putfield s2_22 (k_6 hw) (i := 14) rfl rfl rfl rfl ?_
  refine H.aloadN s2_25 rfl rfl ?_
  refine H.iloadN s2_26 rfl ?_
  refine H.newarray s2_27 (ty := .long) rfl (k_1 hw) (N := 4) (cap := 4) (by decide) rfl (by decide) (by decide) (by first | rfl | simp) (by decide) (by decide) (i := 18) rfl (A' := [.inr (.int, []), .inr (.int, [(.int p0), (.int p1)]), .inr (.int, [(.int p1), (.int p2)]), .inr (.long, [(.long p3), (.long p4)]), .inr (.long, [(.long p4), (.long p3)]), .inr (.int, [oz, oz, oz, oz]), .inr (.int, [oz, oz, oz, oz]), .inr (.long, [ol, ol, ol, ol]), .inr (.long, [ol, ol, ol, ol]), .inl (0, [(rf n0 10), (rf n0 11), (rf n0 12), (rf n0 13), (.int (2 : Int32))]), .inr (.int, [(.int p0), (.int p1)]), .inr (.int, [(.int p1), (.int p2)]), .inr (.long, [(.long p3), (.long p4)]), .inr (.long, [(.long p4), (.long p3)]), .inl (0, [(rf n0 15), (rf n0 16), (rf n0 17), .null, oz]), .inr (.int, [oz, oz, oz, oz]), .inr (.int, [oz, oz, oz, oz]), .inr (.long, [ol, ol, ol, ol]), .inr (.long, [ol, ol, ol, ol])]) rfl (k' := 4) rfl (n' := 16) rfl ?_
  refine H.putfield s2_29 (k_7 hw) (i := 14) rfl rfl rfl rfl ?_
  exact H.vreturn s2_32 rfl ⟨rfl, rfl⟩ (by decide) (by decide)

theorem s0_352 : Nx code 352 (.astore 23) 2 354 := ⟨at_352, rfl⟩
theorem s0_354 : Nx code 354 (.iload 8) 2 356 := ⟨at_354, rfl⟩
theorem s0_356 : Nx code 356 (.iconst 1) 1 357 := ⟨at_356, rfl⟩
theorem s0_357 : Bx code 357 (.if_icmp .ne) 378 360 := ⟨(21), at_357, by decide, by decide, rfl⟩
theorem s0_378 : Nx code 378 (.aload 23) 2 380 := ⟨at_378, rfl⟩
theorem s0_380 : Nx code 380 (.aload 22) 2 382 := ⟨at_380, rfl⟩
theorem s0_382 : Nx code 382 (.aload 13) 2 384 := ⟨at_382, rfl⟩
theorem s0_384 : Nx code 384 (.invokevirtual 24) 3 387 := ⟨at_384, rfl⟩
theorem s5_0 : Nx prog_15_method_4_code 0 (.iconst 0) 1 1 := ⟨by decide +kernel, rfl⟩
theorem s5_1 : Nx prog_15_method_4_code 1 (.istore_n 3) 1 2 := ⟨by decide +kernel, rfl⟩
theorem s5_2 : Nx prog_15_method_4_code 2 (.iload_n 3) 1 3 := ⟨by decide +kernel, rfl⟩
theorem s5_3 : Nx prog_15_method_4_code 3 (.aload_n 2) 1 4 := ⟨by decide +kernel, rfl⟩
theorem s5_4 : Nx prog_15_method_4_code 4 (.arraylength) 1 5 := ⟨by decide +kernel, rfl⟩
theorem s5_5 : Bx prog_15_method_4_code 5 (.if_icmp .ge) 91 8 := ⟨(86), by decide +kernel, by decide, by decide, rfl⟩
theorem s5_91 : Nx prog_15_method_4_code 91 (.aload_n 0) 1 92 := ⟨by decide +kernel, rfl⟩
theorem s5_92 : Nx prog_15_method_4_code 92 (.dup) 1 93 := ⟨by decide +kernel, rfl⟩
theorem s5_93 : Nx prog_15_method_4_code 93 (.getfield 23) 3 96 := ⟨by decide +kernel, rfl⟩
theorem s5_96 : Nx prog_15_method_4_code 96 (.aload_n 2) 1 97 := ⟨by decide +kernel, rfl⟩
theorem s5_97 : Nx prog_15_method_4_code 97 (.arraylength) 1 98 := ⟨by decide +kernel, rfl⟩
theorem s5_98 : Nx prog_15_method_4_code 98 (.iadd) 1 99 := ⟨by decide +kernel, rfl⟩
theorem k_17 {Z : State} {a0 : Array Value} (hw : HW1 Z a0) : PL Z a0 KT "com/example/wavegrant/wavegrant/LaidGrants" "addAll" 23 0 4 .int := ⟨_, _, "com/example/wavegrant/wavegrant/LaidGrants", "count", "I", "", rfl, rfl, (Or.inl (hw _ (List.mem_of_getElem? (i := 29) rfl))), (Or.inl (hw _ (List.mem_of_getElem? (i := 30) rfl))), by decide +kernel⟩
theorem s5_99 : Nx prog_15_method_4_code 99 (.putfield 23) 3 102 := ⟨by decide +kernel, rfl⟩
theorem s5_102 : Nx prog_15_method_4_code 102 (.return_) 1 103 := ⟨by decide +kernel, rfl⟩
set_option maxRecDepth 65536 in
set_option maxHeartbeats 40000000 in
theorem a_4 (l : Launch) {Z : State} {a0 : Array Value} (hw : HW1 Z a0) (n0 : Nat) (p0 : Int32) (p1 : Int32) (p2 : Int32) (p3 : Int64) (p4 : Int64) : Met l Z KT n0 y5 prog_15_method_4_code 5 none ({ frames := 0, cells := 0, slots := 0, locals := 0 } : Room) #[(rf n0 14), (rf n0 9), (rf n0 0)] [.inr (.int, []), .inr (.int, [(.int p0), (.int p1)]), .inr (.int, [(.int p1), (.int p2)]), .inr (.long, [(.long p3), (.long p4)]), .inr (.long, [(.long p4), (.long p3)]), .inr (.int, [oz, oz, oz, oz]), .inr (.int, [oz, oz, oz, oz]), .inr (.long, [ol, ol, ol, ol]), .inr (.long, [ol, ol, ol, ol]), .inl (0, [(rf n0 10), (rf n0 11), (rf n0 12), (rf n0 13), (.int (2 : Int32))]), .inr (.int, [(.int p0), (.int p1)]), .inr (.int, [(.int p1), (.int p2)]), .inr (.long, [(.long p3), (.long p4)]), .inr (.long, [(.long p4), (.long p3)]), .inl (0, [(rf n0 15), (rf n0 16), (rf n0 17), (rf n0 18), oz]), .inr (.int, [oz, oz, oz, oz]), .inr (.int, [oz, oz, oz, oz]), .inr (.long, [ol, ol, ol, ol]), .inr (.long, [ol, ol, ol, ol])] (Is none [.inr (.int, []), .inr (.int, [(.int p0), (.int p1)]), .inr (.int, [(.int p1), (.int p2)]), .inr (.long, [(.long p3), (.long p4)]), .inr (.long, [(.long p4), (.long p3)]), .inr (.int, [oz, oz, oz, oz]), .inr (.int, [oz, oz, oz, oz]), .inr (.long, [ol, ol, ol, ol]), .inr (.long, [ol, ol, ol, ol]), .inl (0, [(rf n0 10), (rf n0 11), (rf n0 12), (rf n0 13), (.int (2 : Int32))]), .inr (.int, [(.int p0), (.int p1)]), .inr (.int, [(.int p1), (.int p2)]), .inr (.long, [(.long p3), (.long p4)]), .inr (.long, [(.long p4), (.long p3)]), .inl (0, [(rf n0 15), (rf n0 16), (rf n0 17), (rf n0 18), oz]), .inr (.int, [oz, oz, oz, oz]), .inr (.int, [oz, oz, oz, oz]), .inr (.long, [ol, ol, ol, ol]), .inr (.long, [ol, ol, ol, ol])]) := by
  refine Met.of (a0 := a0) (ls := #[.val (rf n0 14), .val (rf n0 9), .val (rf n0 0), .unset, .unset]) (kok hw) (plainFor_of_name pn_8) (fun m => by first | (simp [entryFrame, mkF, argsToLocals, Value.category]; done) | rfl) (fun G H => ?_)
  refine H.iconst s5_0 (v := (0 : Int32)) (by decide) ?_
  refine H.istoreN s5_1 (ls' := #[.val (rf n0 14), .val (rf n0 9), .val (rf n0 0), .val oz, .unset]) rfl ?_
  refine H.iloadN s5_2 rfl ?_
  refine H.aloadN s5_3 rfl rfl ?_
  refine H.arraylength s5_4 (i := 0) rfl (z := (0 : Int32)) rfl ?_
  refine H.icmpT s5_5 (show ¬ (0 : Int32) < (0 : Int32) by decide) ?_
  refine H.aloadN s5_91 rfl rfl ?_
  refine H.dup s5_92 rfl ?_
  refine H.getfield s5_93 (k_11 hw) (i := 14) rfl rfl ?_
  refine H.aloadN s5_96 rfl rfl ?_
  refine H.arraylength s5_97 (i := 0) rfl (z := (0 : Int32)) rfl ?_
  refine H.iadd s5_98 (w := (0 : Int32)) (by decide) ?_
  refine H.putfield s5_99 (k_17 hw) (i := 14) rfl rfl rfl rfl ?_
  exact H.vreturn s5_102 rfl ⟨rfl, rfl⟩ (by decide) (by decide)

theorem pd_2 : ∀ sig, parseMethodDescriptor "(Lcom/example/wavegrant/wavegrant/LaidGrants;[I)V" = some sig → 2 = sig.parameters.length := npOf (r := none) (ps := [(.object "com/example/wavegrant/wavegrant/LaidGrants"), (.array .int)]) (by decide +kernel) rfl
theorem k_18 {Z : State} {a0 : Array Value} (hw : HW1 Z a0) : VL Z a0 KT "com/example/wavegrant/wavegrant/LaidGrantsAddAllPinLaw" 24 0 y5 prog_15_method_4_code 5 none 2 := ⟨_, _, rfl, (hw _ (List.mem_of_getElem? (i := 31) rfl)), (hw _ (List.mem_of_getElem? (i := 32) rfl)), (hw _ (List.mem_of_getElem? (i := 34) rfl)), (hw _ (List.mem_of_getElem? (i := 33) rfl)), (hw _ (List.mem_of_getElem? (i := 9) rfl)), (hw _ (List.mem_of_getElem? (i := 35) rfl)), ⟨by decide, by decide⟩, pd_2⟩
theorem s0_387 : Nx code 387 (.aload 23) 2 389 := ⟨at_387, rfl⟩
theorem s0_389 : Nx code 389 (.invokevirtual 28) 3 392 := ⟨at_389, rfl⟩
theorem s6_0 : Nx prog_15_method_5_code 0 (.aload_n 0) 1 1 := ⟨by decide +kernel, rfl⟩
theorem s6_1 : Nx prog_15_method_5_code 1 (.getfield 23) 3 4 := ⟨by decide +kernel, rfl⟩
theorem s6_4 : Nx prog_15_method_5_code 4 (.ireturn) 1 5 := ⟨by decide +kernel, rfl⟩
set_option maxRecDepth 65536 in
set_option maxHeartbeats 40000000 in
theorem a_5 (l : Launch) {Z : State} {a0 : Array Value} (hw : HW1 Z a0) (n0 : Nat) (p0 : Int32) (p1 : Int32) (p2 : Int32) (p3 : Int64) (p4 : Int64) : Met l Z KT n0 y6 prog_15_method_5_code 1 (some .int) ({ frames := 0, cells := 0, slots := 0, locals := 0 } : Room) #[(rf n0 14)] [.inr (.int, []), .inr (.int, [(.int p0), (.int p1)]), .inr (.int, [(.int p1), (.int p2)]), .inr (.long, [(.long p3), (.long p4)]), .inr (.long, [(.long p4), (.long p3)]), .inr (.int, [oz, oz, oz, oz]), .inr (.int, [oz, oz, oz, oz]), .inr (.long, [ol, ol, ol, ol]), .inr (.long, [ol, ol, ol, ol]), .inl (0, [(rf n0 10), (rf n0 11), (rf n0 12), (rf n0 13), (.int (2 : Int32))]), .inr (.int, [(.int p0), (.int p1)]), .inr (.int, [(.int p1), (.int p2)]), .inr (.long, [(.long p3), (.long p4)]), .inr (.long, [(.long p4), (.long p3)]), .inl (0, [(rf n0 15), (rf n0 16), (rf n0 17), (rf n0 18), oz]), .inr (.int, [oz, oz, oz, oz]), .inr (.int, [oz, oz, oz, oz]), .inr (.long, [ol, ol, ol, ol]), .inr (.long, [ol, ol, ol, ol])] (Is (some oz) [.inr (.int, []), .inr (.int, [(.int p0), (.int p1)]), .inr (.int, [(.int p1), (.int p2)]), .inr (.long, [(.long p3), (.long p4)]), .inr (.long, [(.long p4), (.long p3)]), .inr (.int, [oz, oz, oz, oz]), .inr (.int, [oz, oz, oz, oz]), .inr (.long, [ol, ol, ol, ol]), .inr (.long, [ol, ol, ol, ol]), .inl (0, [(rf n0 10), (rf n0 11), (rf n0 12), (rf n0 13), (.int (2 : Int32))]), .inr (.int, [(.int p0), (.int p1)]), .inr (.int, [(.int p1), (.int p2)]), .inr (.long, [(.long p3), (.long p4)]), .inr (.long, [(.long p4), (.long p3)]), .inl (0, [(rf n0 15), (rf n0 16), (rf n0 17), (rf n0 18), oz]), .inr (.int, [oz, oz, oz, oz]), .inr (.int, [oz, oz, oz, oz]), .inr (.long, [ol, ol, ol, ol]), .inr (.long, [ol, ol, ol, ol])]) := by
  refine Met.of (a0 := a0) (ls := #[.val (rf n0 14)]) (kok hw) (plainFor_of_name pn_8) (fun m => by first | (simp [entryFrame, mkF, argsToLocals, Value.category]; done) | rfl) (fun G H => ?_)
  refine H.aloadN s6_0 rfl rfl ?_
  refine H.getfield s6_1 (k_11 hw) (i := 14) rfl rfl ?_
  exact H.ireturn s6_4 rfl (by simp) rfl ⟨rfl, rfl⟩ (by decide) (by decide)

theorem pd_3 : ∀ sig, parseMethodDescriptor "()I" = some sig → 0 = sig.parameters.length := npOf (r := some .int) (ps := []) (by decide +kernel) rfl
theorem k_19 {Z : State} {a0 : Array Value} (hw : HW1 Z a0) : VL Z a0 KT "com/example/wavegrant/wavegrant/LaidGrantsAddAllPinLaw" 28 0 y6 prog_15_method_5_code 1 (some .int) 0 := ⟨_, _, rfl, (hw _ (List.mem_of_getElem? (i := 36) rfl)), (hw _ (List.mem_of_getElem? (i := 37) rfl)), (hw _ (List.mem_of_getElem? (i := 39) rfl)), (hw _ (List.mem_of_getElem? (i := 38) rfl)), (hw _ (List.mem_of_getElem? (i := 9) rfl)), (hw _ (List.mem_of_getElem? (i := 40) rfl)), ⟨by decide, by decide⟩, pd_3⟩
theorem s0_392 : Nx code 392 (.iload 8) 2 394 := ⟨at_392, rfl⟩
theorem s0_394 : Nx code 394 (.iload 9) 2 396 := ⟨at_394, rfl⟩
theorem s0_396 : Nx code 396 (.iadd) 1 397 := ⟨at_396, rfl⟩
theorem s0_397 : Bx code 397 (.if_icmp .eq) 402 400 := ⟨(5), at_397, by decide, by decide, rfl⟩
theorem s0_402 : Nx code 402 (.aload 23) 2 404 := ⟨at_402, rfl⟩
theorem s0_404 : Nx code 404 (.invokevirtual 32) 3 407 := ⟨at_404, rfl⟩
theorem s7_0 : Nx prog_15_method_6_code 0 (.aload_n 0) 1 1 := ⟨by decide +kernel, rfl⟩
theorem s7_1 : Nx prog_15_method_6_code 1 (.getfield 7) 3 4 := ⟨by decide +kernel, rfl⟩
theorem s7_4 : Nx prog_15_method_6_code 4 (.areturn) 1 5 := ⟨by decide +kernel, rfl⟩
set_option maxRecDepth 65536 in
set_option maxHeartbeats 40000000 in
theorem a_6 (l : Launch) {Z : State} {a0 : Array Value} (hw : HW1 Z a0) (n0 : Nat) (p0 : Int32) (p1 : Int32) (p2 : Int32) (p3 : Int64) (p4 : Int64) : Met l Z KT n0 y7 prog_15_method_6_code 1 (some (.array .int)) ({ frames := 0, cells := 0, slots := 0, locals := 0 } : Room) #[(rf n0 14)] [.inr (.int, []), .inr (.int, [(.int p0), (.int p1)]), .inr (.int, [(.int p1), (.int p2)]), .inr (.long, [(.long p3), (.long p4)]), .inr (.long, [(.long p4), (.long p3)]), .inr (.int, [oz, oz, oz, oz]), .inr (.int, [oz, oz, oz, oz]), .inr (.long, [ol, ol, ol, ol]), .inr (.long, [ol, ol, ol, ol]), .inl (0, [(rf n0 10), (rf n0 11), (rf n0 12), (rf n0 13), (.int (2 : Int32))]), .inr (.int, [(.int p0), (.int p1)]), .inr (.int, [(.int p1), (.int p2)]), .inr (.long, [(.long p3), (.long p4)]), .inr (.long, [(.long p4), (.long p3)]), .inl (0, [(rf n0 15), (rf n0 16), (rf n0 17), (rf n0 18), oz]), .inr (.int, [oz, oz, oz, oz]), .inr (.int, [oz, oz, oz, oz]), .inr (.long, [ol, ol, ol, ol]), .inr (.long, [ol, ol, ol, ol])] (Is (some (rf n0 15)) [.inr (.int, []), .inr (.int, [(.int p0), (.int p1)]), .inr (.int, [(.int p1), (.int p2)]), .inr (.long, [(.long p3), (.long p4)]), .inr (.long, [(.long p4), (.long p3)]), .inr (.int, [oz, oz, oz, oz]), .inr (.int, [oz, oz, oz, oz]), .inr (.long, [ol, ol, ol, ol]), .inr (.long, [ol, ol, ol, ol]), .inl (0, [(rf n0 10), (rf n0 11), (rf n0 12), (rf n0 13), (.int (2 : Int32))]), .inr (.int, [(.int p0), (.int p1)]), .inr (.int, [(.int p1), (.int p2)]), .inr (.long, [(.long p3), (.long p4)]), .inr (.long, [(.long p4), (.long p3)]), .inl (0, [(rf n0 15), (rf n0 16), (rf n0 17), (rf n0 18), oz]), .inr (.int, [oz, oz, oz, oz]), .inr (.int, [oz, oz, oz, oz]), .inr (.long, [ol, ol, ol, ol]), .inr (.long, [ol, ol, ol, ol])]) := by
  refine Met.of (a0 := a0) (ls := #[.val (rf n0 14)]) (kok hw) (plainFor_of_name pn_8) (fun m => by first | (simp [entryFrame, mkF, argsToLocals, Value.category]; done) | rfl) (fun G H => ?_)
  refine H.aloadN s7_0 rfl rfl ?_
  refine H.getfield s7_1 (k_10 hw) (i := 14) rfl rfl ?_
  exact H.areturn s7_4 rfl rfl rfl rfl ⟨rfl, rfl⟩ (by decide) (by decide)

theorem pd_4 : ∀ sig, parseMethodDescriptor "()[I" = some sig → 0 = sig.parameters.length := npOf (r := some (.array .int)) (ps := []) (by decide +kernel) rfl
theorem k_20 {Z : State} {a0 : Array Value} (hw : HW1 Z a0) : VL Z a0 KT "com/example/wavegrant/wavegrant/LaidGrantsAddAllPinLaw" 32 0 y7 prog_15_method_6_code 1 (some (.array .int)) 0 := ⟨_, _, rfl, (hw _ (List.mem_of_getElem? (i := 41) rfl)), (hw _ (List.mem_of_getElem? (i := 42) rfl)), (hw _ (List.mem_of_getElem? (i := 44) rfl)), (hw _ (List.mem_of_getElem? (i := 43) rfl)), (hw _ (List.mem_of_getElem? (i := 9) rfl)), (hw _ (List.mem_of_getElem? (i := 45) rfl)), ⟨by decide, by decide⟩, pd_4⟩
theorem s0_407 : Nx code 407 (.astore 24) 2 409 := ⟨at_407, rfl⟩
theorem s0_409 : Nx code 409 (.aload 23) 2 411 := ⟨at_409, rfl⟩
theorem s0_411 : Nx code 411 (.invokevirtual 36) 3 414 := ⟨at_411, rfl⟩
theorem s8_0 : Nx prog_15_method_7_code 0 (.aload_n 0) 1 1 := ⟨by decide +kernel, rfl⟩
theorem s8_1 : Nx prog_15_method_7_code 1 (.getfield 13) 3 4 := ⟨by decide +kernel, rfl⟩
theorem s8_4 : Nx prog_15_method_7_code 4 (.areturn) 1 5 := ⟨by decide +kernel, rfl⟩
set_option maxRecDepth 65536 in
set_option maxHeartbeats 40000000 in
theorem a_7 (l : Launch) {Z : State} {a0 : Array Value} (hw : HW1 Z a0) (n0 : Nat) (p0 : Int32) (p1 : Int32) (p2 : Int32) (p3 : Int64) (p4 : Int64) : Met l Z KT n0 y8 prog_15_method_7_code 1 (some (.array .int)) ({ frames := 0, cells := 0, slots := 0, locals := 0 } : Room) #[(rf n0 14)] [.inr (.int, []), .inr (.int, [(.int p0), (.int p1)]), .inr (.int, [(.int p1), (.int p2)]), .inr (.long, [(.long p3), (.long p4)]), .inr (.long, [(.long p4), (.long p3)]), .inr (.int, [oz, oz, oz, oz]), .inr (.int, [oz, oz, oz, oz]), .inr (.long, [ol, ol, ol, ol]), .inr (.long, [ol, ol, ol, ol]), .inl (0, [(rf n0 10), (rf n0 11), (rf n0 12), (rf n0 13), (.int (2 : Int32))]), .inr (.int, [(.int p0), (.int p1)]), .inr (.int, [(.int p1), (.int p2)]), .inr (.long, [(.long p3), (.long p4)]), .inr (.long, [(.long p4), (.long p3)]), .inl (0, [(rf n0 15), (rf n0 16), (rf n0 17), (rf n0 18), oz]), .inr (.int, [oz, oz, oz, oz]), .inr (.int, [oz, oz, oz, oz]), .inr (.long, [ol, ol, ol, ol]), .inr (.long, [ol, ol, ol, ol])] (Is (some (rf n0 16)) [.inr (.int, []), .inr (.int, [(.int p0), (.int p1)]), .inr (.int, [(.int p1), (.int p2)]), .inr (.long, [(.long p3), (.long p4)]), .inr (.long, [(.long p4), (.long p3)]), .inr (.int, [oz, oz, oz, oz]), .inr (.int, [oz, oz, oz, oz]), .inr (.long, [ol, ol, ol, ol]), .inr (.long, [ol, ol, ol, ol]), .inl (0, [(rf n0 10), (rf n0 11), (rf n0 12), (rf n0 13), (.int (2 : Int32))]), .inr (.int, [(.int p0), (.int p1)]), .inr (.int, [(.int p1), (.int p2)]), .inr (.long, [(.long p3), (.long p4)]), .inr (.long, [(.long p4), (.long p3)]), .inl (0, [(rf n0 15), (rf n0 16), (rf n0 17), (rf n0 18), oz]), .inr (.int, [oz, oz, oz, oz]), .inr (.int, [oz, oz, oz, oz]), .inr (.long, [ol, ol, ol, ol]), .inr (.long, [ol, ol, ol, ol])]) := by
  refine Met.of (a0 := a0) (ls := #[.val (rf n0 14)]) (kok hw) (plainFor_of_name pn_8) (fun m => by first | (simp [entryFrame, mkF, argsToLocals, Value.category]; done) | rfl) (fun G H => ?_)
  refine H.aloadN s8_0 rfl rfl ?_
  refine H.getfield s8_1 (k_12 hw) (i := 14) rfl rfl ?_
  exact H.areturn s8_4 rfl rfl rfl rfl ⟨rfl, rfl⟩ (by decide) (by decide)

theorem k_21 {Z : State} {a0 : Array Value} (hw : HW1 Z a0) : VL Z a0 KT "com/example/wavegrant/wavegrant/LaidGrantsAddAllPinLaw" 36 0 y8 prog_15_method_7_code 1 (some (.array .int)) 0 := ⟨_, _, rfl, (hw _ (List.mem_of_getElem? (i := 46) rfl)), (hw _ (List.mem_of_getElem? (i := 47) rfl)), (hw _ (List.mem_of_getElem? (i := 49) rfl)), (hw _ (List.mem_of_getElem? (i := 48) rfl)), (hw _ (List.mem_of_getElem? (i := 9) rfl)), (hw _ (List.mem_of_getElem? (i := 50) rfl)), ⟨by decide, by decide⟩, pd_4⟩
theorem s0_414 : Nx code 414 (.astore 25) 2 416 := ⟨at_414, rfl⟩
theorem s0_416 : Nx code 416 (.aload 23) 2 418 := ⟨at_416, rfl⟩
theorem s0_418 : Nx code 418 (.invokevirtual 39) 3 421 := ⟨at_418, rfl⟩
theorem s9_0 : Nx prog_15_method_8_code 0 (.aload_n 0) 1 1 := ⟨by decide +kernel, rfl⟩
theorem s9_1 : Nx prog_15_method_8_code 1 (.getfield 16) 3 4 := ⟨by decide +kernel, rfl⟩
theorem s9_4 : Nx prog_15_method_8_code 4 (.areturn) 1 5 := ⟨by decide +kernel, rfl⟩
set_option maxRecDepth 65536 in
set_option maxHeartbeats 40000000 in
theorem a_8 (l : Launch) {Z : State} {a0 : Array Value} (hw : HW1 Z a0) (n0 : Nat) (p0 : Int32) (p1 : Int32) (p2 : Int32) (p3 : Int64) (p4 : Int64) : Met l Z KT n0 y9 prog_15_method_8_code 1 (some (.array .long)) ({ frames := 0, cells := 0, slots := 0, locals := 0 } : Room) #[(rf n0 14)] [.inr (.int, []), .inr (.int, [(.int p0), (.int p1)]), .inr (.int, [(.int p1), (.int p2)]), .inr (.long, [(.long p3), (.long p4)]), .inr (.long, [(.long p4), (.long p3)]), .inr (.int, [oz, oz, oz, oz]), .inr (.int, [oz, oz, oz, oz]), .inr (.long, [ol, ol, ol, ol]), .inr (.long, [ol, ol, ol, ol]), .inl (0, [(rf n0 10), (rf n0 11), (rf n0 12), (rf n0 13), (.int (2 : Int32))]), .inr (.int, [(.int p0), (.int p1)]), .inr (.int, [(.int p1), (.int p2)]), .inr (.long, [(.long p3), (.long p4)]), .inr (.long, [(.long p4), (.long p3)]), .inl (0, [(rf n0 15), (rf n0 16), (rf n0 17), (rf n0 18), oz]), .inr (.int, [oz, oz, oz, oz]), .inr (.int, [oz, oz, oz, oz]), .inr (.long, [ol, ol, ol, ol]), .inr (.long, [ol, ol, ol, ol])] (Is (some (rf n0 17)) [.inr (.int, []), .inr (.int, [(.int p0), (.int p1)]), .inr (.int, [(.int p1), (.int p2)]), .inr (.long, [(.long p3), (.long p4)]), .inr (.long, [(.long p4), (.long p3)]), .inr (.int, [oz, oz, oz, oz]), .inr (.int, [oz, oz, oz, oz]), .inr (.long, [ol, ol, ol, ol]), .inr (.long, [ol, ol, ol, ol]), .inl (0, [(rf n0 10), (rf n0 11), (rf n0 12), (rf n0 13), (.int (2 : Int32))]), .inr (.int, [(.int p0), (.int p1)]), .inr (.int, [(.int p1), (.int p2)]), .inr (.long, [(.long p3), (.long p4)]), .inr (.long, [(.long p4), (.long p3)]), .inl (0, [(rf n0 15), (rf n0 16), (rf n0 17), (rf n0 18), oz]), .inr (.int, [oz, oz, oz, oz]), .inr (.int, [oz, oz, oz, oz]), .inr (.long, [ol, ol, ol, ol]), .inr (.long, [ol, ol, ol, ol])]) := by
  refine Met.of (a0 := a0) (ls := #[.val (rf n0 14)]) (kok hw) (plainFor_of_name pn_8) (fun m => by first | (simp [entryFrame, mkF, argsToLocals, Value.category]; done) | rfl) (fun G H => ?_)
  refine H.aloadN s9_0 rfl rfl ?_
  refine H.getfield s9_1 (k_13 hw) (i := 14) rfl rfl ?_
  exact H.areturn s9_4 rfl rfl rfl rfl ⟨rfl, rfl⟩ (by decide) (by decide)

theorem pd_5 : ∀ sig, parseMethodDescriptor "()[J" = some sig → 0 = sig.parameters.length := npOf (r := some (.array .long)) (ps := []) (by decide +kernel) rfl
theorem k_22 {Z : State} {a0 : Array Value} (hw : HW1 Z a0) : VL Z a0 KT "com/example/wavegrant/wavegrant/LaidGrantsAddAllPinLaw" 39 0 y9 prog_15_method_8_code 1 (some (.array .long)) 0 := ⟨_, _, rfl, (hw _ (List.mem_of_getElem? (i := 51) rfl)), (hw _ (List.mem_of_getElem? (i := 52) rfl)), (hw _ (List.mem_of_getElem? (i := 54) rfl)), (hw _ (List.mem_of_getElem? (i := 53) rfl)), (hw _ (List.mem_of_getElem? (i := 9) rfl)), (hw _ (List.mem_of_getElem? (i := 55) rfl)), ⟨by decide, by decide⟩, pd_5⟩
theorem s0_421 : Nx code 421 (.astore 26) 2 423 := ⟨at_421, rfl⟩
theorem s0_423 : Nx code 423 (.aload 23) 2 425 := ⟨at_423, rfl⟩
theorem s0_425 : Nx code 425 (.invokevirtual 43) 3 428 := ⟨at_425, rfl⟩
theorem s10_0 : Nx prog_15_method_9_code 0 (.aload_n 0) 1 1 := ⟨by decide +kernel, rfl⟩
theorem s10_1 : Nx prog_15_method_9_code 1 (.getfield 20) 3 4 := ⟨by decide +kernel, rfl⟩
theorem s10_4 : Nx prog_15_method_9_code 4 (.areturn) 1 5 := ⟨by decide +kernel, rfl⟩
set_option maxRecDepth 65536 in
set_option maxHeartbeats 40000000 in
theorem a_9 (l : Launch) {Z : State} {a0 : Array Value} (hw : HW1 Z a0) (n0 : Nat) (p0 : Int32) (p1 : Int32) (p2 : Int32) (p3 : Int64) (p4 : Int64) : Met l Z KT n0 y10 prog_15_method_9_code 1 (some (.array .long)) ({ frames := 0, cells := 0, slots := 0, locals := 0 } : Room) #[(rf n0 14)] [.inr (.int, []), .inr (.int, [(.int p0), (.int p1)]), .inr (.int, [(.int p1), (.int p2)]), .inr (.long, [(.long p3), (.long p4)]), .inr (.long, [(.long p4), (.long p3)]), .inr (.int, [oz, oz, oz, oz]), .inr (.int, [oz, oz, oz, oz]), .inr (.long, [ol, ol, ol, ol]), .inr (.long, [ol, ol, ol, ol]), .inl (0, [(rf n0 10), (rf n0 11), (rf n0 12), (rf n0 13), (.int (2 : Int32))]), .inr (.int, [(.int p0), (.int p1)]), .inr (.int, [(.int p1), (.int p2)]), .inr (.long, [(.long p3), (.long p4)]), .inr (.long, [(.long p4), (.long p3)]), .inl (0, [(rf n0 15), (rf n0 16), (rf n0 17), (rf n0 18), oz]), .inr (.int, [oz, oz, oz, oz]), .inr (.int, [oz, oz, oz, oz]), .inr (.long, [ol, ol, ol, ol]), .inr (.long, [ol, ol, ol, ol])] (Is (some (rf n0 18)) [.inr (.int, []), .inr (.int, [(.int p0), (.int p1)]), .inr (.int, [(.int p1), (.int p2)]), .inr (.long, [(.long p3), (.long p4)]), .inr (.long, [(.long p4), (.long p3)]), .inr (.int, [oz, oz, oz, oz]), .inr (.int, [oz, oz, oz, oz]), .inr (.long, [ol, ol, ol, ol]), .inr (.long, [ol, ol, ol, ol]), .inl (0, [(rf n0 10), (rf n0 11), (rf n0 12), (rf n0 13), (.int (2 : Int32))]), .inr (.int, [(.int p0), (.int p1)]), .inr (.int, [(.int p1), (.int p2)]), .inr (.long, [(.long p3), (.long p4)]), .inr (.long, [(.long p4), (.long p3)]), .inl (0, [(rf n0 15), (rf n0 16), (rf n0 17), (rf n0 18), oz]), .inr (.int, [oz, oz, oz, oz]), .inr (.int, [oz, oz, oz, oz]), .inr (.long, [ol, ol, ol, ol]), .inr (.long, [ol, ol, ol, ol])]) := by
  refine Met.of (a0 := a0) (ls := #[.val (rf n0 14)]) (kok hw) (plainFor_of_name pn_8) (fun m => by first | (simp [entryFrame, mkF, argsToLocals, Value.category]; done) | rfl) (fun G H => ?_)
  refine H.aloadN s10_0 rfl rfl ?_
  refine H.getfield s10_1 (k_14 hw) (i := 14) rfl rfl ?_
  exact H.areturn s10_4 rfl rfl rfl rfl ⟨rfl, rfl⟩ (by decide) (by decide)

theorem pn_24 : plainName "com/example/wavegrant/wavegrant/LaidGrantsAddAllPinLaw" = true := by first | (simp [plainName, overriddenIn]; done) | decide +kernel
theorem k_23 {Z : State} {a0 : Array Value} (hw : HW1 Z a0) : VL Z a0 KT "com/example/wavegrant/wavegrant/LaidGrantsAddAllPinLaw" 43 0 y10 prog_15_method_9_code 1 (some (.array .long)) 0 := ⟨_, _, rfl, (hw _ (List.mem_of_getElem? (i := 56) rfl)), (hw _ (List.mem_of_getElem? (i := 57) rfl)), (hw _ (List.mem_of_getElem? (i := 59) rfl)), (hw _ (List.mem_of_getElem? (i := 58) rfl)), (hw _ (List.mem_of_getElem? (i := 9) rfl)), (hw _ (List.mem_of_getElem? (i := 60) rfl)), ⟨by decide, by decide⟩, pd_5⟩
theorem s0_428 : Nx code 428 (.astore 27) 2 430 := ⟨at_428, rfl⟩
theorem s0_430 : Nx code 430 (.aload 24) 2 432 := ⟨at_430, rfl⟩
theorem s0_432 : Nx code 432 (.aload 18) 2 434 := ⟨at_432, rfl⟩
theorem s0_434 : Nx code 434 (.invokestatic 46) 3 437 := ⟨at_434, rfl⟩
theorem s11_0 : Nx method_4_code 0 (.aload_n 0) 1 1 := ⟨by decide +kernel, rfl⟩
theorem s11_1 : Nx method_4_code 1 (.arraylength) 1 2 := ⟨by decide +kernel, rfl⟩
theorem s11_2 : Nx method_4_code 2 (.iconst 4) 1 3 := ⟨by decide +kernel, rfl⟩
theorem s11_3 : Bx method_4_code 3 (.if_icmp .ne) 46 6 := ⟨(43), by decide +kernel, by decide, by decide, rfl⟩
theorem s11_6 : Nx method_4_code 6 (.aload_n 0) 1 7 := ⟨by decide +kernel, rfl⟩
theorem s11_7 : Nx method_4_code 7 (.iconst 0) 1 8 := ⟨by decide +kernel, rfl⟩
theorem s11_8 : Nx method_4_code 8 (.iaload) 1 9 := ⟨by decide +kernel, rfl⟩
theorem s11_9 : Nx method_4_code 9 (.aload_n 1) 1 10 := ⟨by decide +kernel, rfl⟩
theorem s11_10 : Nx method_4_code 10 (.iconst 0) 1 11 := ⟨by decide +kernel, rfl⟩
theorem s11_11 : Nx method_4_code 11 (.iaload) 1 12 := ⟨by decide +kernel, rfl⟩
theorem s11_12 : Bx method_4_code 12 (.if_icmp .ne) 46 15 := ⟨(34), by decide +kernel, by decide, by decide, rfl⟩
theorem s11_15 : Nx method_4_code 15 (.aload_n 0) 1 16 := ⟨by decide +kernel, rfl⟩
theorem s11_16 : Nx method_4_code 16 (.iconst 1) 1 17 := ⟨by decide +kernel, rfl⟩
theorem s11_17 : Nx method_4_code 17 (.iaload) 1 18 := ⟨by decide +kernel, rfl⟩
theorem s11_18 : Nx method_4_code 18 (.aload_n 1) 1 19 := ⟨by decide +kernel, rfl⟩
theorem s11_19 : Nx method_4_code 19 (.iconst 1) 1 20 := ⟨by decide +kernel, rfl⟩
theorem s11_20 : Nx method_4_code 20 (.iaload) 1 21 := ⟨by decide +kernel, rfl⟩
theorem s11_21 : Bx method_4_code 21 (.if_icmp .ne) 46 24 := ⟨(25), by decide +kernel, by decide, by decide, rfl⟩
theorem s11_24 : Nx method_4_code 24 (.aload_n 0) 1 25 := ⟨by decide +kernel, rfl⟩
theorem s11_25 : Nx method_4_code 25 (.iconst 2) 1 26 := ⟨by decide +kernel, rfl⟩
theorem s11_26 : Nx method_4_code 26 (.iaload) 1 27 := ⟨by decide +kernel, rfl⟩
theorem s11_27 : Nx method_4_code 27 (.aload_n 1) 1 28 := ⟨by decide +kernel, rfl⟩
theorem s11_28 : Nx method_4_code 28 (.iconst 2) 1 29 := ⟨by decide +kernel, rfl⟩
theorem s11_29 : Nx method_4_code 29 (.iaload) 1 30 := ⟨by decide +kernel, rfl⟩
theorem s11_30 : Bx method_4_code 30 (.if_icmp .ne) 46 33 := ⟨(16), by decide +kernel, by decide, by decide, rfl⟩
theorem s11_33 : Nx method_4_code 33 (.aload_n 0) 1 34 := ⟨by decide +kernel, rfl⟩
theorem s11_34 : Nx method_4_code 34 (.iconst 3) 1 35 := ⟨by decide +kernel, rfl⟩
theorem s11_35 : Nx method_4_code 35 (.iaload) 1 36 := ⟨by decide +kernel, rfl⟩
theorem s11_36 : Nx method_4_code 36 (.aload_n 1) 1 37 := ⟨by decide +kernel, rfl⟩
theorem s11_37 : Nx method_4_code 37 (.iconst 3) 1 38 := ⟨by decide +kernel, rfl⟩
theorem s11_38 : Nx method_4_code 38 (.iaload) 1 39 := ⟨by decide +kernel, rfl⟩
theorem s11_39 : Bx method_4_code 39 (.if_icmp .ne) 46 42 := ⟨(7), by decide +kernel, by decide, by decide, rfl⟩
theorem s11_42 : Nx method_4_code 42 (.iconst 1) 1 43 := ⟨by decide +kernel, rfl⟩
theorem s11_43 : Bx method_4_code 43 (.goto) 47 46 := ⟨(4), by decide +kernel, by decide, by decide, rfl⟩
theorem s11_47 : Nx method_4_code 47 (.ireturn) 1 48 := ⟨by decide +kernel, rfl⟩
set_option maxRecDepth 65536 in
set_option maxHeartbeats 40000000 in
theorem a_10 (l : Launch) {Z : State} {a0 : Array Value} (hw : HW1 Z a0) (n0 : Nat) (p0 : Int32) (p1 : Int32) (p2 : Int32) (p3 : Int64) (p4 : Int64) : Met l Z KT n0 y11 method_4_code 2 (some .boolean) ({ frames := 0, cells := 0, slots := 0, locals := 0 } : Room) #[(rf n0 15), (rf n0 5)] [.inr (.int, []), .inr (.int, [(.int p0), (.int p1)]), .inr (.int, [(.int p1), (.int p2)]), .inr (.long, [(.long p3), (.long p4)]), .inr (.long, [(.long p4), (.long p3)]), .inr (.int, [oz, oz, oz, oz]), .inr (.int, [oz, oz, oz, oz]), .inr (.long, [ol, ol, ol, ol]), .inr (.long, [ol, ol, ol, ol]), .inl (0, [(rf n0 10), (rf n0 11), (rf n0 12), (rf n0 13), (.int (2 : Int32))]), .inr (.int, [(.int p0), (.int p1)]), .inr (.int, [(.int p1), (.int p2)]), .inr (.long, [(.long p3), (.long p4)]), .inr (.long, [(.long p4), (.long p3)]), .inl (0, [(rf n0 15), (rf n0 16), (rf n0 17), (rf n0 18), oz]), .inr (.int, [oz, oz, oz, oz]), .inr (.int, [oz, oz, oz, oz]), .inr (.long, [ol, ol, ol, ol]), .inr (.long, [ol, ol, ol, ol])] (Is (some (.int (1 : Int32))) [.inr (.int, []), .inr (.int, [(.int p0), (.int p1)]), .inr (.int, [(.int p1), (.int p2)]), .inr (.long, [(.long p3), (.long p4)]), .inr (.long, [(.long p4), (.long p3)]), .inr (.int, [oz, oz, oz, oz]), .inr (.int, [oz, oz, oz, oz]), .inr (.long, [ol, ol, ol, ol]), .inr (.long, [ol, ol, ol, ol]), .inl (0, [(rf n0 10), (rf n0 11), (rf n0 12), (rf n0 13), (.int (2 : Int32))]), .inr (.int, [(.int p0), (.int p1)]), .inr (.int, [(.int p1), (.int p2)]), .inr (.long, [(.long p3), (.long p4)]), .inr (.long, [(.long p4), (.long p3)]), .inl (0, [(rf n0 15), (rf n0 16), (rf n0 17), (rf n0 18), oz]), .inr (.int, [oz, oz, oz, oz]), .inr (.int, [oz, oz, oz, oz]), .inr (.long, [ol, ol, ol, ol]), .inr (.long, [ol, ol, ol, ol])]) := by
  refine Met.of (a0 := a0) (ls := #[.val (rf n0 15), .val (rf n0 5)]) (kok hw) (plainFor_of_name pn_24) (fun m => by first | (simp [entryFrame, mkF, argsToLocals, Value.category]; done) | rfl) (fun G H => ?_)
  refine H.aloadN s11_0 rfl rfl ?_
  refine H.arraylength s11_1 (i := 15) rfl (z := (4 : Int32)) rfl ?_
  refine H.iconst s11_2 (v := (4 : Int32)) (by decide) ?_
  refine H.icmpF s11_3 (show (4 : Int32) = (4 : Int32) by decide) ?_
  refine H.aloadN s11_6 rfl rfl ?_
  refine H.iconst s11_7 (v := (0 : Int32)) (by decide) ?_
  refine H.iaload s11_8 (i := 15) (j := 0) rfl (by decide) (v := oz) rfl ?_
  refine H.aloadN s11_9 rfl rfl ?_
  refine H.iconst s11_10 (v := (0 : Int32)) (by decide) ?_
  refine H.iaload s11_11 (i := 5) (j := 0) rfl (by decide) (v := oz) rfl ?_
  refine H.icmpF s11_12 (show (0 : Int32) = (0 : Int32) by decide) ?_
  refine H.aloadN s11_15 rfl rfl ?_
  refine H.iconst s11_16 (v := (1 : Int32)) (by decide) ?_
  refine H.iaload s11_17 (i := 15) (j := 1) rfl (by decide) (v := oz) rfl ?_
  refine H.aloadN s11_18 rfl rfl ?_
  refine H.iconst s11_19 (v := (1 : Int32)) (by decide) ?_
  refine H.iaload s11_20 (i := 5) (j := 1) rfl (by decide) (v := oz) rfl ?_
  refine H.icmpF s11_21 (show (0 : Int32) = (0 : Int32) by decide) ?_
  refine H.aloadN s11_24 rfl rfl ?_
  refine H.iconst s11_25 (v := (2 : Int32)) (by decide) ?_
  refine H.iaload s11_26 (i := 15) (j := 2) rfl (by decide) (v := oz) rfl ?_
  refine H.aloadN s11_27 rfl rfl ?_
  refine H.iconst s11_28 (v := (2 : Int32)) (by decide) ?_
  refine H.iaload s11_29 (i := 5) (j := 2) rfl (by decide) (v := oz) rfl ?_
  refine H.icmpF s11_30 (show (0 : Int32) = (0 : Int32) by decide) ?_
  refine H.aloadN s11_33 rfl rfl ?_
  refine H.iconst s11_34 (v := (3 : Int32)) (by decide) ?_
  refine H.iaload s11_35 (i := 15) (j := 3) rfl (by decide) (v := oz) rfl ?_
  refine H.aloadN s11_36 rfl rfl ?_
  refine H.iconst s11_37 (v := (3 : Int32)) (by decide) ?_
  refine H.iaload s11_38 (i := 5) (j := 3) rfl (by decide) (v := oz) rfl ?_
  refine H.icmpF s11_39 (show (0 : Int32) = (0 : Int32) by decide) ?_
  refine H.iconst s11_42 (v := (1 : Int32)) (by decide) ?_
  refine H.goto s11_43 ?_
  exact H.ireturn s11_47 rfl (by simp) rfl ⟨rfl, rfl⟩ (by decide) (by decide)

theorem pd_6 : ∀ sig, parseMethodDescriptor "([I[I)Z" = some sig → 2 = sig.parameters.length := npOf (r := some .boolean) (ps := [(.array .int), (.array .int)]) (by decide +kernel) rfl
theorem k_25 {Z : State} {a0 : Array Value} (hw : HW1 Z a0) : SL Z a0 "com/example/wavegrant/wavegrant/LaidGrantsAddAllPinLaw" 46 y11 method_4_code 2 (some .boolean) 2 := ⟨(hw _ (List.mem_of_getElem? (i := 61) rfl)), (hw _ (List.mem_of_getElem? (i := 62) rfl)), (hw _ (List.mem_of_getElem? (i := 5) rfl)), (hw _ (List.mem_of_getElem? (i := 63) rfl)), ⟨by decide, by decide⟩, pd_6⟩
theorem s0_437 : Bx code 437 (.ifCond .eq) 474 440 := ⟨(37), at_437, by decide, by decide, rfl⟩
theorem s0_440 : Nx code 440 (.aload 25) 2 442 := ⟨at_440, rfl⟩
theorem s0_442 : Nx code 442 (.aload 19) 2 444 := ⟨at_442, rfl⟩
theorem s0_444 : Nx code 444 (.invokestatic 46) 3 447 := ⟨at_444, rfl⟩
set_option maxRecDepth 65536 in
set_option maxHeartbeats 40000000 in
theorem a_11 (l : Launch) {Z : State} {a0 : Array Value} (hw : HW1 Z a0) (n0 : Nat) (p0 : Int32) (p1 : Int32) (p2 : Int32) (p3 : Int64) (p4 : Int64) : Met l Z KT n0 y11 method_4_code 2 (some .boolean) ({ frames := 0, cells := 0, slots := 0, locals := 0 } : Room) #[(rf n0 16), (rf n0 6)] [.inr (.int, []), .inr (.int, [(.int p0), (.int p1)]), .inr (.int, [(.int p1), (.int p2)]), .inr (.long, [(.long p3), (.long p4)]), .inr (.long, [(.long p4), (.long p3)]), .inr (.int, [oz, oz, oz, oz]), .inr (.int, [oz, oz, oz, oz]), .inr (.long, [ol, ol, ol, ol]), .inr (.long, [ol, ol, ol, ol]), .inl (0, [(rf n0 10), (rf n0 11), (rf n0 12), (rf n0 13), (.int (2 : Int32))]), .inr (.int, [(.int p0), (.int p1)]), .inr (.int, [(.int p1), (.int p2)]), .inr (.long, [(.long p3), (.long p4)]), .inr (.long, [(.long p4), (.long p3)]), .inl (0, [(rf n0 15), (rf n0 16), (rf n0 17), (rf n0 18), oz]), .inr (.int, [oz, oz, oz, oz]), .inr (.int, [oz, oz, oz, oz]), .inr (.long, [ol, ol, ol, ol]), .inr (.long, [ol, ol, ol, ol])] (Is (some (.int (1 : Int32))) [.inr (.int, []), .inr (.int, [(.int p0), (.int p1)]), .inr (.int, [(.int p1), (.int p2)]), .inr (.long, [(.long p3), (.long p4)]), .inr (.long, [(.long p4), (.long p3)]), .inr (.int, [oz, oz, oz, oz]), .inr (.int, [oz, oz, oz, oz]), .inr (.long, [ol, ol, ol, ol]), .inr (.long, [ol, ol, ol, ol]), .inl (0, [(rf n0 10), (rf n0 11), (rf n0 12), (rf n0 13), (.int (2 : Int32))]), .inr (.int, [(.int p0), (.int p1)]), .inr (.int, [(.int p1), (.int p2)]), .inr (.long, [(.long p3), (.long p4)]), .inr (.long, [(.long p4), (.long p3)]), .inl (0, [(rf n0 15), (rf n0 16), (rf n0 17), (rf n0 18), oz]), .inr (.int, [oz, oz, oz, oz]), .inr (.int, [oz, oz, oz, oz]), .inr (.long, [ol, ol, ol, ol]), .inr (.long, [ol, ol, ol, ol])]) := by
  refine Met.of (a0 := a0) (ls := #[.val (rf n0 16), .val (rf n0 6)]) (kok hw) (plainFor_of_name pn_24) (fun m => by first | (simp [entryFrame, mkF, argsToLocals, Value.category]; done) | rfl) (fun G H => ?_)
  refine H.aloadN s11_0 rfl rfl ?_
  refine H.arraylength s11_1 (i := 16) rfl (z := (4 : Int32)) rfl ?_
  refine H.iconst s11_2 (v := (4 : Int32)) (by decide) ?_
  refine H.icmpF s11_3 (show (4 : Int32) = (4 : Int32) by decide) ?_
  refine H.aloadN s11_6 rfl rfl ?_
  refine H.iconst s11_7 (v := (0 : Int32)) (by decide) ?_
  refine H.iaload s11_8 (i := 16) (j := 0) rfl (by decide) (v := oz) rfl ?_
  refine H.aloadN s11_9 rfl rfl ?_
  refine H.iconst s11_10 (v := (0 : Int32)) (by decide) ?_
  refine H.iaload s11_11 (i := 6) (j := 0) rfl (by decide) (v := oz) rfl ?_
  refine H.icmpF s11_12 (show (0 : Int32) = (0 : Int32) by decide) ?_
  refine H.aloadN s11_15 rfl rfl ?_
  refine H.iconst s11_16 (v := (1 : Int32)) (by decide) ?_
  refine H.iaload s11_17 (i := 16) (j := 1) rfl (by decide) (v := oz) rfl ?_
  refine H.aloadN s11_18 rfl rfl ?_
  refine H.iconst s11_19 (v := (1 : Int32)) (by decide) ?_
  refine H.iaload s11_20 (i := 6) (j := 1) rfl (by decide) (v := oz) rfl ?_
  refine H.icmpF s11_21 (show (0 : Int32) = (0 : Int32) by decide) ?_
  refine H.aloadN s11_24 rfl rfl ?_
  refine H.iconst s11_25 (v := (2 : Int32)) (by decide) ?_
  refine H.iaload s11_26 (i := 16) (j := 2) rfl (by decide) (v := oz) rfl ?_
  refine H.aloadN s11_27 rfl rfl ?_
  refine H.iconst s11_28 (v := (2 : Int32)) (by decide) ?_
  refine H.iaload s11_29 (i := 6) (j := 2) rfl (by decide) (v := oz) rfl ?_
  refine H.icmpF s11_30 (show (0 : Int32) = (0 : Int32) by decide) ?_
  refine H.aloadN s11_33 rfl rfl ?_
  refine H.iconst s11_34 (v := (3 : Int32)) (by decide) ?_
  refine H.iaload s11_35 (i := 16) (j := 3) rfl (by decide) (v := oz) rfl ?_
  refine H.aloadN s11_36 rfl rfl ?_
  refine H.iconst s11_37 (v := (3 : Int32)) (by decide) ?_
  refine H.iaload s11_38 (i := 6) (j := 3) rfl (by decide) (v := oz) rfl ?_
  refine H.icmpF s11_39 (show (0 : Int32) = (0 : Int32) by decide) ?_
  refine H.iconst s11_42 (v := (1 : Int32)) (by decide) ?_
  refine H.goto s11_43 ?_
  exact H.ireturn s11_47 rfl (by simp) rfl ⟨rfl, rfl⟩ (by decide) (by decide)

theorem s0_447 : Bx code 447 (.ifCond .eq) 474 450 := ⟨(27), at_447, by decide, by decide, rfl⟩
theorem s0_450 : Nx code 450 (.aload 26) 2 452 := ⟨at_450, rfl⟩
theorem s0_452 : Nx code 452 (.aload 20) 2 454 := ⟨at_452, rfl⟩
theorem s0_454 : Nx code 454 (.invokestatic 50) 3 457 := ⟨at_454, rfl⟩
theorem s12_0 : Nx method_5_code 0 (.aload_n 0) 1 1 := ⟨by decide +kernel, rfl⟩
theorem s12_1 : Nx method_5_code 1 (.arraylength) 1 2 := ⟨by decide +kernel, rfl⟩
theorem s12_2 : Nx method_5_code 2 (.iconst 4) 1 3 := ⟨by decide +kernel, rfl⟩
theorem s12_3 : Bx method_5_code 3 (.if_icmp .ne) 50 6 := ⟨(47), by decide +kernel, by decide, by decide, rfl⟩
theorem s12_6 : Nx method_5_code 6 (.aload_n 0) 1 7 := ⟨by decide +kernel, rfl⟩
theorem s12_7 : Nx method_5_code 7 (.iconst 0) 1 8 := ⟨by decide +kernel, rfl⟩
theorem s12_8 : Nx method_5_code 8 (.laload) 1 9 := ⟨by decide +kernel, rfl⟩
theorem s12_9 : Nx method_5_code 9 (.aload_n 1) 1 10 := ⟨by decide +kernel, rfl⟩
theorem s12_10 : Nx method_5_code 10 (.iconst 0) 1 11 := ⟨by decide +kernel, rfl⟩
theorem s12_11 : Nx method_5_code 11 (.laload) 1 12 := ⟨by decide +kernel, rfl⟩
theorem s12_12 : Nx method_5_code 12 (.lcmp) 1 13 := ⟨by decide +kernel, rfl⟩
theorem s12_13 : Bx method_5_code 13 (.ifCond .ne) 50 16 := ⟨(37), by decide +kernel, by decide, by decide, rfl⟩
theorem s12_16 : Nx method_5_code 16 (.aload_n 0) 1 17 := ⟨by decide +kernel, rfl⟩
theorem s12_17 : Nx method_5_code 17 (.iconst 1) 1 18 := ⟨by decide +kernel, rfl⟩
theorem s12_18 : Nx method_5_code 18 (.laload) 1 19 := ⟨by decide +kernel, rfl⟩
theorem s12_19 : Nx method_5_code 19 (.aload_n 1) 1 20 := ⟨by decide +kernel, rfl⟩
theorem s12_20 : Nx method_5_code 20 (.iconst 1) 1 21 := ⟨by decide +kernel, rfl⟩
theorem s12_21 : Nx method_5_code 21 (.laload) 1 22 := ⟨by decide +kernel, rfl⟩
theorem s12_22 : Nx method_5_code 22 (.lcmp) 1 23 := ⟨by decide +kernel, rfl⟩
theorem s12_23 : Bx method_5_code 23 (.ifCond .ne) 50 26 := ⟨(27), by decide +kernel, by decide, by decide, rfl⟩
theorem s12_26 : Nx method_5_code 26 (.aload_n 0) 1 27 := ⟨by decide +kernel, rfl⟩
theorem s12_27 : Nx method_5_code 27 (.iconst 2) 1 28 := ⟨by decide +kernel, rfl⟩
theorem s12_28 : Nx method_5_code 28 (.laload) 1 29 := ⟨by decide +kernel, rfl⟩
theorem s12_29 : Nx method_5_code 29 (.aload_n 1) 1 30 := ⟨by decide +kernel, rfl⟩
theorem s12_30 : Nx method_5_code 30 (.iconst 2) 1 31 := ⟨by decide +kernel, rfl⟩
theorem s12_31 : Nx method_5_code 31 (.laload) 1 32 := ⟨by decide +kernel, rfl⟩
theorem s12_32 : Nx method_5_code 32 (.lcmp) 1 33 := ⟨by decide +kernel, rfl⟩
theorem s12_33 : Bx method_5_code 33 (.ifCond .ne) 50 36 := ⟨(17), by decide +kernel, by decide, by decide, rfl⟩
theorem s12_36 : Nx method_5_code 36 (.aload_n 0) 1 37 := ⟨by decide +kernel, rfl⟩
theorem s12_37 : Nx method_5_code 37 (.iconst 3) 1 38 := ⟨by decide +kernel, rfl⟩
theorem s12_38 : Nx method_5_code 38 (.laload) 1 39 := ⟨by decide +kernel, rfl⟩
theorem s12_39 : Nx method_5_code 39 (.aload_n 1) 1 40 := ⟨by decide +kernel, rfl⟩
theorem s12_40 : Nx method_5_code 40 (.iconst 3) 1 41 := ⟨by decide +kernel, rfl⟩
theorem s12_41 : Nx method_5_code 41 (.laload) 1 42 := ⟨by decide +kernel, rfl⟩
theorem s12_42 : Nx method_5_code 42 (.lcmp) 1 43 := ⟨by decide +kernel, rfl⟩
theorem s12_43 : Bx method_5_code 43 (.ifCond .ne) 50 46 := ⟨(7), by decide +kernel, by decide, by decide, rfl⟩
theorem s12_46 : Nx method_5_code 46 (.iconst 1) 1 47 := ⟨by decide +kernel, rfl⟩
theorem s12_47 : Bx method_5_code 47 (.goto) 51 50 := ⟨(4), by decide +kernel, by decide, by decide, rfl⟩
theorem s12_51 : Nx method_5_code 51 (.ireturn) 1 52 := ⟨by decide +kernel, rfl⟩
set_option maxRecDepth 65536 in
set_option maxHeartbeats 40000000 in
theorem a_12 (l : Launch) {Z : State} {a0 : Array Value} (hw : HW1 Z a0) (n0 : Nat) (p0 : Int32) (p1 : Int32) (p2 : Int32) (p3 : Int64) (p4 : Int64) : Met l Z KT n0 y12 method_5_code 2 (some .boolean) ({ frames := 0, cells := 0, slots := 0, locals := 0 } : Room) #[(rf n0 17), (rf n0 7)] [.inr (.int, []), .inr (.int, [(.int p0), (.int p1)]), .inr (.int, [(.int p1), (.int p2)]), .inr (.long, [(.long p3), (.long p4)]), .inr (.long, [(.long p4), (.long p3)]), .inr (.int, [oz, oz, oz, oz]), .inr (.int, [oz, oz, oz, oz]), .inr (.long, [ol, ol, ol, ol]), .inr (.long, [ol, ol, ol, ol]), .inl (0, [(rf n0 10), (rf n0 11), (rf n0 12), (rf n0 13), (.int (2 : Int32))]), .inr (.int, [(.int p0), (.int p1)]), .inr (.int, [(.int p1), (.int p2)]), .inr (.long, [(.long p3), (.long p4)]), .inr (.long, [(.long p4), (.long p3)]), .inl (0, [(rf n0 15), (rf n0 16), (rf n0 17), (rf n0 18), oz]), .inr (.int, [oz, oz, oz, oz]), .inr (.int, [oz, oz, oz, oz]), .inr (.long, [ol, ol, ol, ol]), .inr (.long, [ol, ol, ol, ol])] (Is (some (.int (1 : Int32))) [.inr (.int, []), .inr (.int, [(.int p0), (.int p1)]), .inr (.int, [(.int p1), (.int p2)]), .inr (.long, [(.long p3), (.long p4)]), .inr (.long, [(.long p4), (.long p3)]), .inr (.int, [oz, oz, oz, oz]), .inr (.int, [oz, oz, oz, oz]), .inr (.long, [ol, ol, ol, ol]), .inr (.long, [ol, ol, ol, ol]), .inl (0, [(rf n0 10), (rf n0 11), (rf n0 12), (rf n0 13), (.int (2 : Int32))]), .inr (.int, [(.int p0), (.int p1)]), .inr (.int, [(.int p1), (.int p2)]), .inr (.long, [(.long p3), (.long p4)]), .inr (.long, [(.long p4), (.long p3)]), .inl (0, [(rf n0 15), (rf n0 16), (rf n0 17), (rf n0 18), oz]), .inr (.int, [oz, oz, oz, oz]), .inr (.int, [oz, oz, oz, oz]), .inr (.long, [ol, ol, ol, ol]), .inr (.long, [ol, ol, ol, ol])]) := by
  refine Met.of (a0 := a0) (ls := #[.val (rf n0 17), .val (rf n0 7)]) (kok hw) (plainFor_of_name pn_24) (fun m => by first | (simp [entryFrame, mkF, argsToLocals, Value.category]; done) | rfl) (fun G H => ?_)
  refine H.aloadN s12_0 rfl rfl ?_
  refine H.arraylength s12_1 (i := 17) rfl (z := (4 : Int32)) rfl ?_
  refine H.iconst s12_2 (v := (4 : Int32)) (by decide) ?_
  refine H.icmpF s12_3 (show (4 : Int32) = (4 : Int32) by decide) ?_
  refine H.aloadN s12_6 rfl rfl ?_
  refine H.iconst s12_7 (v := (0 : Int32)) (by decide) ?_
  refine H.laload s12_8 (i := 17) (j := 0) rfl (by decide) (v := ol) rfl ?_
  refine H.aloadN s12_9 rfl rfl ?_
  refine H.iconst s12_10 (v := (0 : Int32)) (by decide) ?_
  refine H.laload s12_11 (i := 7) (j := 0) rfl (by decide) (v := ol) rfl ?_
  refine H.lifF s12_12 s12_13 (show (0 : Int64) = (0 : Int64) by decide) ?_
  refine H.aloadN s12_16 rfl rfl ?_
  refine H.iconst s12_17 (v := (1 : Int32)) (by decide) ?_
  refine H.laload s12_18 (i := 17) (j := 1) rfl (by decide) (v := ol) rfl ?_
  refine H.aloadN s12_19 rfl rfl ?_
  refine H.iconst s12_20 (v := (1 : Int32)) (by decide) ?_
  refine H.laload s12_21 (i := 7) (j := 1) rfl (by decide) (v := ol) rfl ?_
  refine H.lifF s12_22 s12_23 (show (0 : Int64) = (0 : Int64) by decide) ?_
  refine H.aloadN s12_26 rfl rfl ?_
  refine H.iconst s12_27 (v := (2 : Int32)) (by decide) ?_
  refine H.laload s12_28 (i := 17) (j := 2) rfl (by decide) (v := ol) rfl ?_
  refine H.aloadN s12_29 rfl rfl ?_
  refine H.iconst s12_30 (v := (2 : Int32)) (by decide) ?_
  refine H.laload s12_31 (i := 7) (j := 2) rfl (by decide) (v := ol) rfl ?_
  refine H.lifF s12_32 s12_33 (show (0 : Int64) = (0 : Int64) by decide) ?_
  refine H.aloadN s12_36 rfl rfl ?_
  refine H.iconst s12_37 (v := (3 : Int32)) (by decide) ?_
  refine H.laload s12_38 (i := 17) (j := 3) rfl (by decide) (v := ol) rfl ?_
  refine H.aloadN s12_39 rfl rfl ?_
  refine H.iconst s12_40 (v := (3 : Int32)) (by decide) ?_
  refine H.laload s12_41 (i := 7) (j := 3) rfl (by decide) (v := ol) rfl ?_
  refine H.lifF s12_42 s12_43 (show (0 : Int64) = (0 : Int64) by decide) ?_
  refine H.iconst s12_46 (v := (1 : Int32)) (by decide) ?_
  refine H.goto s12_47 ?_
  exact H.ireturn s12_51 rfl (by simp) rfl ⟨rfl, rfl⟩ (by decide) (by decide)

theorem pd_7 : ∀ sig, parseMethodDescriptor "([J[J)Z" = some sig → 2 = sig.parameters.length := npOf (r := some .boolean) (ps := [(.array .long), (.array .long)]) (by decide +kernel) rfl
theorem k_26 {Z : State} {a0 : Array Value} (hw : HW1 Z a0) : SL Z a0 "com/example/wavegrant/wavegrant/LaidGrantsAddAllPinLaw" 50 y12 method_5_code 2 (some .boolean) 2 := ⟨(hw _ (List.mem_of_getElem? (i := 64) rfl)), (hw _ (List.mem_of_getElem? (i := 65) rfl)), (hw _ (List.mem_of_getElem? (i := 5) rfl)), (hw _ (List.mem_of_getElem? (i := 66) rfl)), ⟨by decide, by decide⟩, pd_7⟩
theorem s0_457 : Bx code 457 (.ifCond .eq) 474 460 := ⟨(17), at_457, by decide, by decide, rfl⟩
theorem s0_460 : Nx code 460 (.aload 27) 2 462 := ⟨at_460, rfl⟩
theorem s0_462 : Nx code 462 (.aload 21) 2 464 := ⟨at_462, rfl⟩
theorem s0_464 : Nx code 464 (.invokestatic 50) 3 467 := ⟨at_464, rfl⟩
set_option maxRecDepth 65536 in
set_option maxHeartbeats 40000000 in
theorem a_13 (l : Launch) {Z : State} {a0 : Array Value} (hw : HW1 Z a0) (n0 : Nat) (p0 : Int32) (p1 : Int32) (p2 : Int32) (p3 : Int64) (p4 : Int64) : Met l Z KT n0 y12 method_5_code 2 (some .boolean) ({ frames := 0, cells := 0, slots := 0, locals := 0 } : Room) #[(rf n0 18), (rf n0 8)] [.inr (.int, []), .inr (.int, [(.int p0), (.int p1)]), .inr (.int, [(.int p1), (.int p2)]), .inr (.long, [(.long p3), (.long p4)]), .inr (.long, [(.long p4), (.long p3)]), .inr (.int, [oz, oz, oz, oz]), .inr (.int, [oz, oz, oz, oz]), .inr (.long, [ol, ol, ol, ol]), .inr (.long, [ol, ol, ol, ol]), .inl (0, [(rf n0 10), (rf n0 11), (rf n0 12), (rf n0 13), (.int (2 : Int32))]), .inr (.int, [(.int p0), (.int p1)]), .inr (.int, [(.int p1), (.int p2)]), .inr (.long, [(.long p3), (.long p4)]), .inr (.long, [(.long p4), (.long p3)]), .inl (0, [(rf n0 15), (rf n0 16), (rf n0 17), (rf n0 18), oz]), .inr (.int, [oz, oz, oz, oz]), .inr (.int, [oz, oz, oz, oz]), .inr (.long, [ol, ol, ol, ol]), .inr (.long, [ol, ol, ol, ol])] (Is (some (.int (1 : Int32))) [.inr (.int, []), .inr (.int, [(.int p0), (.int p1)]), .inr (.int, [(.int p1), (.int p2)]), .inr (.long, [(.long p3), (.long p4)]), .inr (.long, [(.long p4), (.long p3)]), .inr (.int, [oz, oz, oz, oz]), .inr (.int, [oz, oz, oz, oz]), .inr (.long, [ol, ol, ol, ol]), .inr (.long, [ol, ol, ol, ol]), .inl (0, [(rf n0 10), (rf n0 11), (rf n0 12), (rf n0 13), (.int (2 : Int32))]), .inr (.int, [(.int p0), (.int p1)]), .inr (.int, [(.int p1), (.int p2)]), .inr (.long, [(.long p3), (.long p4)]), .inr (.long, [(.long p4), (.long p3)]), .inl (0, [(rf n0 15), (rf n0 16), (rf n0 17), (rf n0 18), oz]), .inr (.int, [oz, oz, oz, oz]), .inr (.int, [oz, oz, oz, oz]), .inr (.long, [ol, ol, ol, ol]), .inr (.long, [ol, ol, ol, ol])]) := by
  refine Met.of (a0 := a0) (ls := #[.val (rf n0 18), .val (rf n0 8)]) (kok hw) (plainFor_of_name pn_24) (fun m => by first | (simp [entryFrame, mkF, argsToLocals, Value.category]; done) | rfl) (fun G H => ?_)
  refine H.aloadN s12_0 rfl rfl ?_
  refine H.arraylength s12_1 (i := 18) rfl (z := (4 : Int32)) rfl ?_
  refine H.iconst s12_2 (v := (4 : Int32)) (by decide) ?_
  refine H.icmpF s12_3 (show (4 : Int32) = (4 : Int32) by decide) ?_
  refine H.aloadN s12_6 rfl rfl ?_
  refine H.iconst s12_7 (v := (0 : Int32)) (by decide) ?_
  refine H.laload s12_8 (i := 18) (j := 0) rfl (by decide) (v := ol) rfl ?_
  refine H.aloadN s12_9 rfl rfl ?_
  refine H.iconst s12_10 (v := (0 : Int32)) (by decide) ?_
  refine H.laload s12_11 (i := 8) (j := 0) rfl (by decide) (v := ol) rfl ?_
  refine H.lifF s12_12 s12_13 (show (0 : Int64) = (0 : Int64) by decide) ?_
  refine H.aloadN s12_16 rfl rfl ?_
  refine H.iconst s12_17 (v := (1 : Int32)) (by decide) ?_
  refine H.laload s12_18 (i := 18) (j := 1) rfl (by decide) (v := ol) rfl ?_
  refine H.aloadN s12_19 rfl rfl ?_
  refine H.iconst s12_20 (v := (1 : Int32)) (by decide) ?_
  refine H.laload s12_21 (i := 8) (j := 1) rfl (by decide) (v := ol) rfl ?_
  refine H.lifF s12_22 s12_23 (show (0 : Int64) = (0 : Int64) by decide) ?_
  refine H.aloadN s12_26 rfl rfl ?_
  refine H.iconst s12_27 (v := (2 : Int32)) (by decide) ?_
  refine H.laload s12_28 (i := 18) (j := 2) rfl (by decide) (v := ol) rfl ?_
  refine H.aloadN s12_29 rfl rfl ?_
  refine H.iconst s12_30 (v := (2 : Int32)) (by decide) ?_
  refine H.laload s12_31 (i := 8) (j := 2) rfl (by decide) (v := ol) rfl ?_
  refine H.lifF s12_32 s12_33 (show (0 : Int64) = (0 : Int64) by decide) ?_
  refine H.aloadN s12_36 rfl rfl ?_
  refine H.iconst s12_37 (v := (3 : Int32)) (by decide) ?_
  refine H.laload s12_38 (i := 18) (j := 3) rfl (by decide) (v := ol) rfl ?_
  refine H.aloadN s12_39 rfl rfl ?_
  refine H.iconst s12_40 (v := (3 : Int32)) (by decide) ?_
  refine H.laload s12_41 (i := 8) (j := 3) rfl (by decide) (v := ol) rfl ?_
  refine H.lifF s12_42 s12_43 (show (0 : Int64) = (0 : Int64) by decide) ?_
  refine H.iconst s12_46 (v := (1 : Int32)) (by decide) ?_
  refine H.goto s12_47 ?_
  exact H.ireturn s12_51 rfl (by simp) rfl ⟨rfl, rfl⟩ (by decide) (by decide)

theorem s0_467 : Bx code 467 (.ifCond .eq) 474 470 := ⟨(7), at_467, by decide, by decide, rfl⟩
theorem s0_470 : Nx code 470 (.iconst 1) 1 471 := ⟨at_470, rfl⟩
theorem s0_471 : Bx code 471 (.goto) 475 474 := ⟨(4), at_471, by decide, by decide, rfl⟩
theorem s0_475 : Nx code 475 (.ireturn) 1 476 := ⟨at_475, rfl⟩
theorem s0_51 : Nx code 51 (.iload 9) 2 53 := ⟨at_51, rfl⟩
theorem s0_53 : Nx code 53 (.iconst 1) 1 54 := ⟨at_53, rfl⟩
theorem s0_54 : Bx code 54 (.if_icmp .ne) 70 57 := ⟨(16), at_54, by decide, by decide, rfl⟩
theorem s0_57 : Nx code 57 (.iconst 1) 1 58 := ⟨at_57, rfl⟩
theorem s0_58 : Nx code 58 (.newarray .int) 2 60 := ⟨at_58, rfl⟩
theorem s0_60 : Nx code 60 (.dup) 1 61 := ⟨at_60, rfl⟩
theorem s0_61 : Nx code 61 (.iconst 0) 1 62 := ⟨at_61, rfl⟩
theorem s0_62 : Nx code 62 (.iload 10) 2 64 := ⟨at_62, rfl⟩
theorem s0_64 : Nx code 64 (.iastore) 1 65 := ⟨at_64, rfl⟩
theorem s0_65 : Nx code 65 (.astore 13) 2 67 := ⟨at_65, rfl⟩
theorem s0_67 : Bx code 67 (.goto) 114 70 := ⟨(47), at_67, by decide, by decide, rfl⟩
theorem s0_229 : Nx code 229 (.aload 18) 2 231 := ⟨at_229, rfl⟩
theorem s0_231 : Nx code 231 (.aload 19) 2 233 := ⟨at_231, rfl⟩
theorem s0_233 : Nx code 233 (.aload 20) 2 235 := ⟨at_233, rfl⟩
theorem s0_235 : Nx code 235 (.aload 21) 2 237 := ⟨at_235, rfl⟩
theorem s0_237 : Nx code 237 (.iload 8) 2 239 := ⟨at_237, rfl⟩
theorem s0_239 : Nx code 239 (.iload 10) 2 241 := ⟨at_239, rfl⟩
theorem s0_241 : Nx code 241 (.aload 14) 2 243 := ⟨at_241, rfl⟩
theorem s0_243 : Nx code 243 (.aload 15) 2 245 := ⟨at_243, rfl⟩
theorem s0_245 : Nx code 245 (.aload 16) 2 247 := ⟨at_245, rfl⟩
theorem s0_247 : Nx code 247 (.aload 17) 2 249 := ⟨at_247, rfl⟩
theorem s0_249 : Nx code 249 (.invokestatic 9) 3 252 := ⟨at_249, rfl⟩
theorem s1_0 : Nx method_3_code 0 (.aload_n 0) 1 1 := ⟨by decide +kernel, rfl⟩
theorem s1_1 : Nx method_3_code 1 (.iload 4) 2 3 := ⟨by decide +kernel, rfl⟩
theorem s1_3 : Nx method_3_code 3 (.aload 6) 2 5 := ⟨by decide +kernel, rfl⟩
theorem s1_5 : Nx method_3_code 5 (.iload 5) 2 7 := ⟨by decide +kernel, rfl⟩
theorem s1_7 : Nx method_3_code 7 (.iaload) 1 8 := ⟨by decide +kernel, rfl⟩
theorem s1_8 : Nx method_3_code 8 (.iastore) 1 9 := ⟨by decide +kernel, rfl⟩
theorem s1_9 : Nx method_3_code 9 (.aload_n 1) 1 10 := ⟨by decide +kernel, rfl⟩
theorem s1_10 : Nx method_3_code 10 (.iload 4) 2 12 := ⟨by decide +kernel, rfl⟩
theorem s1_12 : Nx method_3_code 12 (.aload 7) 2 14 := ⟨by decide +kernel, rfl⟩
theorem s1_14 : Nx method_3_code 14 (.iload 5) 2 16 := ⟨by decide +kernel, rfl⟩
theorem s1_16 : Nx method_3_code 16 (.iaload) 1 17 := ⟨by decide +kernel, rfl⟩
theorem s1_17 : Nx method_3_code 17 (.iastore) 1 18 := ⟨by decide +kernel, rfl⟩
theorem s1_18 : Nx method_3_code 18 (.aload_n 2) 1 19 := ⟨by decide +kernel, rfl⟩
theorem s1_19 : Nx method_3_code 19 (.iload 4) 2 21 := ⟨by decide +kernel, rfl⟩
theorem s1_21 : Nx method_3_code 21 (.aload 8) 2 23 := ⟨by decide +kernel, rfl⟩
theorem s1_23 : Nx method_3_code 23 (.iload 5) 2 25 := ⟨by decide +kernel, rfl⟩
theorem s1_25 : Nx method_3_code 25 (.laload) 1 26 := ⟨by decide +kernel, rfl⟩
theorem s1_26 : Nx method_3_code 26 (.lastore) 1 27 := ⟨by decide +kernel, rfl⟩
theorem s1_27 : Nx method_3_code 27 (.aload_n 3) 1 28 := ⟨by decide +kernel, rfl⟩
theorem s1_28 : Nx method_3_code 28 (.iload 4) 2 30 := ⟨by decide +kernel, rfl⟩
theorem s1_30 : Nx method_3_code 30 (.aload 9) 2 32 := ⟨by decide +kernel, rfl⟩
theorem s1_32 : Nx method_3_code 32 (.iload 5) 2 34 := ⟨by decide +kernel, rfl⟩
theorem s1_34 : Nx method_3_code 34 (.laload) 1 35 := ⟨by decide +kernel, rfl⟩
theorem s1_35 : Nx method_3_code 35 (.lastore) 1 36 := ⟨by decide +kernel, rfl⟩
theorem s1_36 : Nx method_3_code 36 (.return_) 1 37 := ⟨by decide +kernel, rfl⟩
set_option maxRecDepth 65536 in
set_option maxHeartbeats 40000000 in
theorem a_14 (l : Launch) {Z : State} {a0 : Array Value} (hw : HW1 Z a0) (n0 : Nat) (p0 : Int32) (p1 : Int32) (p2 : Int32) (p3 : Int64) (p4 : Int64) (i0 : Int32) {I0 : Nat} (hI0 : i0.toInt = (I0 : Int)) (lI0 : I0 < 2) : Met l Z KT n0 y1 method_3_code 10 none ({ frames := 0, cells := 0, slots := 0, locals := 0 } : Room) #[(rf n0 5), (rf n0 6), (rf n0 7), (rf n0 8), oz, (.int i0), (rf n0 1), (rf n0 2), (rf n0 3), (rf n0 4)] [.inr (.int, [(.int i0)]), .inr (.int, [(.int p0), (.int p1)]), .inr (.int, [(.int p1), (.int p2)]), .inr (.long, [(.long p3), (.long p4)]), .inr (.long, [(.long p4), (.long p3)]), .inr (.int, [oz, oz, oz, oz]), .inr (.int, [oz, oz, oz, oz]), .inr (.long, [ol, ol, ol, ol]), .inr (.long, [ol, ol, ol, ol])] (Is none [.inr (.int, [(.int i0)]), .inr (.int, [(.int p0), (.int p1)]), .inr (.int, [(.int p1), (.int p2)]), .inr (.long, [(.long p3), (.long p4)]), .inr (.long, [(.long p4), (.long p3)]), .inr (.int, [(.int (own_selI I0 p0 p1)), oz, oz, oz]), .inr (.int, [(.int (own_selI I0 p1 p2)), oz, oz, oz]), .inr (.long, [(.long (own_selJ I0 p3 p4)), ol, ol, ol]), .inr (.long, [(.long (own_selJ I0 p4 p3)), ol, ol, ol])]) := by
  refine Met.of (a0 := a0) (ls := #[.val (rf n0 5), .val (rf n0 6), .val (rf n0 7), .val (rf n0 8), .val oz, .val (.int i0), .val (rf n0 1), .val (rf n0 2), .val (rf n0 3), .val (rf n0 4)]) (kok hw) (plainFor_of_name pn_24) (fun m => by first | (simp [entryFrame, mkF, argsToLocals, Value.category]; done) | rfl) (fun G H => ?_)
  refine H.aloadN s1_0 rfl rfl ?_
  refine H.iload s1_1 rfl ?_
  refine H.aload s1_3 rfl rfl ?_
  refine H.iload s1_5 rfl ?_
  refine H.iaload s1_7 (i := 1) (j := I0) rfl hI0 (v := (.int (own_selI I0 p0 p1))) (own_gI lI0) ?_
  refine H.iastore s1_8 (i := 5) (j := 0) rfl (by decide) (ltb rfl)  rfl ?_
  refine H.aloadN s1_9 rfl rfl ?_
  refine H.iload s1_10 rfl ?_
  refine H.aload s1_12 rfl rfl ?_
  refine H.iload s1_14 rfl ?_
  refine H.iaload s1_16 (i := 2) (j := I0) rfl hI0 (v := (.int (own_selI I0 p1 p2))) (own_gI lI0) ?_
  refine H.iastore s1_17 (i := 6) (j := 0) rfl (by decide) (ltb rfl)  rfl ?_
  refine H.aloadN s1_18 rfl rfl ?_
  refine H.iload s1_19 rfl ?_
  refine H.aload s1_21 rfl rfl ?_
  refine H.iload s1_23 rfl ?_
  refine H.laload s1_25 (i := 3) (j := I0) rfl hI0 (v := (.long (own_selJ I0 p3 p4))) (own_gJ lI0) ?_
  refine H.lastore s1_26 (i := 7) (j := 0) rfl (by decide) (ltb rfl)  rfl ?_
  refine H.aloadN s1_27 rfl rfl ?_
  refine H.iload s1_28 rfl ?_
  refine H.aload s1_30 rfl rfl ?_
  refine H.iload s1_32 rfl ?_
  refine H.laload s1_34 (i := 4) (j := I0) rfl hI0 (v := (.long (own_selJ I0 p4 p3))) (own_gJ lI0) ?_
  refine H.lastore s1_35 (i := 8) (j := 0) rfl (by decide) (ltb rfl)  rfl ?_
  exact H.vreturn s1_36 rfl ⟨rfl, rfl⟩ (by decide) (by decide)

theorem pd_8 : ∀ sig, parseMethodDescriptor "([I[I[J[JII[I[I[J[J)V" = some sig → 10 = sig.parameters.length := npOf (r := none) (ps := [(.array .int), (.array .int), (.array .long), (.array .long), .int, .int, (.array .int), (.array .int), (.array .long), (.array .long)]) (by decide +kernel) rfl
theorem k_27 {Z : State} {a0 : Array Value} (hw : HW1 Z a0) : SL Z a0 "com/example/wavegrant/wavegrant/LaidGrantsAddAllPinLaw" 9 y1 method_3_code 10 none 10 := ⟨(hw _ (List.mem_of_getElem? (i := 3) rfl)), (hw _ (List.mem_of_getElem? (i := 4) rfl)), (hw _ (List.mem_of_getElem? (i := 5) rfl)), (hw _ (List.mem_of_getElem? (i := 6) rfl)), ⟨by decide, by decide⟩, pd_8⟩
set_option maxRecDepth 65536 in
set_option maxHeartbeats 40000000 in
theorem a_15 (l : Launch) {Z : State} {a0 : Array Value} (hw : HW1 Z a0) (n0 : Nat) (p0 : Int32) (p1 : Int32) (p2 : Int32) (p3 : Int64) (p4 : Int64) (i0 : Int32) (I0 : Nat) : Met l Z KT n0 y2 prog_15_method_1_code 2 none ({ frames := 1, cells := 4, slots := 8, locals := 12 } : Room) #[(rf n0 9), (.int (2 : Int32))] [.inr (.int, [(.int i0)]), .inr (.int, [(.int p0), (.int p1)]), .inr (.int, [(.int p1), (.int p2)]), .inr (.long, [(.long p3), (.long p4)]), .inr (.long, [(.long p4), (.long p3)]), .inr (.int, [(.int (own_selI I0 p0 p1)), oz, oz, oz]), .inr (.int, [(.int (own_selI I0 p1 p2)), oz, oz, oz]), .inr (.long, [(.long (own_selJ I0 p3 p4)), ol, ol, ol]), .inr (.long, [(.long (own_selJ I0 p4 p3)), ol, ol, ol]), .inl (0, [.null, .null, .null, .null, oz])] (Is none [.inr (.int, [(.int i0)]), .inr (.int, [(.int p0), (.int p1)]), .inr (.int, [(.int p1), (.int p2)]), .inr (.long, [(.long p3), (.long p4)]), .inr (.long, [(.long p4), (.long p3)]), .inr (.int, [(.int (own_selI I0 p0 p1)), oz, oz, oz]), .inr (.int, [(.int (own_selI I0 p1 p2)), oz, oz, oz]), .inr (.long, [(.long (own_selJ I0 p3 p4)), ol, ol, ol]), .inr (.long, [(.long (own_selJ I0 p4 p3)), ol, ol, ol]), .inl (0, [(rf n0 10), (rf n0 11), (rf n0 12), (rf n0 13), oz]), .inr (.int, [oz, oz]), .inr (.int, [oz, oz]), .inr (.long, [ol, ol]), .inr (.long, [ol, ol])]) := by
  refine Met.of (a0 := a0) (ls := #[.val (rf n0 9), .val (.int (2 : Int32))]) (kok hw) (plainFor_of_name pn_8) (fun m => by first | (simp [entryFrame, mkF, argsToLocals, Value.category]; done) | rfl) (fun G H => ?_)
  refine H.aloadN s2_0 rfl rfl ?_
  refine H.initO s2_1 (k_3 hw) rfl (leb rfl) (leb rfl) ?_
  refine H.aloadN s2_4 rfl rfl ?_
  refine H.iloadN s2_5 rfl ?_
  refine H.newarray s2_6 (ty := .int) rfl (k_0 hw) (N := 2) (cap := 2) (by decide) rfl (by decide) (by decide) (by first | rfl | simp) (by decide) (by decide) (i := 10) rfl (A' := [.inr (.int, [(.int i0)]), .inr (.int, [(.int p0), (.int p1)]), .inr (.int, [(.int p1), (.int p2)]), .inr (.long, [(.long p3), (.long p4)]), .inr (.long, [(.long p4), (.long p3)]), .inr (.int, [(.int (own_selI I0 p0 p1)), oz, oz, oz]), .inr (.int, [(.int (own_selI I0 p1 p2)), oz, oz, oz]), .inr (.long, [(.long (own_selJ I0 p3 p4)), ol, ol, ol]), .inr (.long, [(.long (own_selJ I0 p4 p3)), ol, ol, ol]), .inl (0, [.null, .null, .null, .null, oz]), .inr (.int, [oz, oz])]) rfl (k' := 1) rfl (n' := 2) rfl ?_
  refine H.putfield s2_8 (k_4 hw) (i := 9) rfl rfl rfl rfl ?_
  refine H.aloadN s2_11 rfl rfl ?_
  refine H.iloadN s2_12 rfl ?_
  refine H.newarray s2_13 (ty := .int) rfl (k_0 hw) (N := 2) (cap := 2) (by decide) rfl (by decide) (by decide) (by first | rfl | simp) (by decide) (by decide) (i := 11) rfl (A' := [.inr (.int, [(.int i0)]), .inr (.int, [(.int p0), (.int p1)]), .inr (.int, [(.int p1), (.int p2)]), .inr (.long, [(.long p3), (.long p4)]), .inr (.long, [(.long p4), (.long p3)]), .inr (.int, [(.int (own_selI I0 p0 p1)), oz, oz, oz]), .inr (.int, [(.int (own_selI I0 p1 p2)), oz, oz, oz]), .inr (.long, [(.long (own_selJ I0 p3 p4)), ol, ol, ol]), .inr (.long, [(.long (own_selJ I0 p4 p3)), ol, ol, ol]), .inl (0, [(rf n0 10), .null, .null, .null, oz]), .inr (.int, [oz, oz]), .inr (.int, [oz, oz])]) rfl (k' := 2) rfl (n' := 4) rfl ?_
  refine H.putfield s2_15 (k_5 hw) (i := 9) rfl rfl rfl rfl ?_
  refine H.aloadN s2_18 rfl rfl ?_
  refine H.iloadN s2_19 rfl ?_
  refine H.newarray s2_20 (ty := .long) rfl (k_1 hw) (N := 2) (cap := 2) (by decide) rfl (by decide) (by decide) (by first | rfl | simp) (by decide) (by decide) (i := 12) rfl (A' := [.inr (.int, [(.int i0)]), .inr (.int, [(.int p0), (.int p1)]), .inr (.int, [(.int p1), (.int p2)]), .inr (.long, [(.long p3), (.long p4)]), .inr (.long, [(.long p4), (.long p3)]), .inr (.int, [(.int (own_selI I0 p0 p1)), oz, oz, oz]), .inr (.int, [(.int (own_selI I0 p1 p2)), oz, oz, oz]), .inr (.long, [(.long (own_selJ I0 p3 p4)), ol, ol, ol]), .inr (.long, [(.long (own_selJ I0 p4 p3)), ol, ol, ol]), .inl (0, [(rf n0 10), (rf n0 11), .null, .null, oz]), .inr (.int, [oz, oz]), .inr (.int, [oz, oz]), .inr (.long, [ol, ol])]) rfl (k' := 3) rfl (n' := 6) rfl ?_
  refine H.putfield s2_22 (k_6 hw) (i := 9) rfl rfl rfl rfl ?_
  refine H.aloadN s2_25 rfl rfl ?_
  refine H.iloadN s2_26 rfl ?_
  refine H.newarray s2_27 (ty := .long) rfl (k_1 hw) (N := 2) (cap := 2) (by decide) rfl (by decide) (by decide) (by first | rfl | simp) (by decide) (by decide) (i := 13) rfl (A' := [.inr (.int, [(.int i0)]), .inr (.int, [(.int p0), (.int p1)]), .inr (.int, [(.int p1), (.int p2)]), .inr (.long, [(.long p3), (.long p4)]), .inr (.long, [(.long p4), (.long p3)]), .inr (.int, [(.int (own_selI I0 p0 p1)), oz, oz, oz]), .inr (.int, [(.int (own_selI I0 p1 p2)), oz, oz, oz]), .inr (.long, [(.long (own_selJ I0 p3 p4)), ol, ol, ol]), .inr (.long, [(.long (own_selJ I0 p4 p3)), ol, ol, ol]), .inl (0, [(rf n0 10), (rf n0 11), (rf n0 12), .null, oz]), .inr (.int, [oz, oz]), .inr (.int, [oz, oz]), .inr (.long, [ol, ol]), .inr (.long, [ol, ol])]) rfl (k' := 4) rfl (n' := 8) rfl ?_
  refine H.putfield s2_29 (k_7 hw) (i := 9) rfl rfl rfl rfl ?_
  exact H.vreturn s2_32 rfl ⟨rfl, rfl⟩ (by decide) (by decide)


set_option maxRecDepth 65536 in
set_option maxHeartbeats 40000000 in
theorem a_16 (l : Launch) {Z : State} {a0 : Array Value} (hw : HW1 Z a0) (n0 : Nat) (p0 : Int32) (p1 : Int32) (p2 : Int32) (p3 : Int64) (p4 : Int64) (i0 : Int32) (I0 : Nat) : Met l Z KT n0 y4 prog_15_method_2_code 7 none ({ frames := 0, cells := 0, slots := 0, locals := 0 } : Room) #[(rf n0 9), (.int p0), (.int p1), (.long p3), (.long p4)] [.inr (.int, [(.int i0)]), .inr (.int, [(.int p0), (.int p1)]), .inr (.int, [(.int p1), (.int p2)]), .inr (.long, [(.long p3), (.long p4)]), .inr (.long, [(.long p4), (.long p3)]), .inr (.int, [(.int (own_selI I0 p0 p1)), oz, oz, oz]), .inr (.int, [(.int (own_selI I0 p1 p2)), oz, oz, oz]), .inr (.long, [(.long (own_selJ I0 p3 p4)), ol, ol, ol]), .inr (.long, [(.long (own_selJ I0 p4 p3)), ol, ol, ol]), .inl (0, [(rf n0 10), (rf n0 11), (rf n0 12), (rf n0 13), oz]), .inr (.int, [oz, oz]), .inr (.int, [oz, oz]), .inr (.long, [ol, ol]), .inr (.long, [ol, ol])] (Is none [.inr (.int, [(.int i0)]), .inr (.int, [(.int p0), (.int p1)]), .inr (.int, [(.int p1), (.int p2)]), .inr (.long, [(.long p3), (.long p4)]), .inr (.long, [(.long p4), (.long p3)]), .inr (.int, [(.int (own_selI I0 p0 p1)), oz, oz, oz]), .inr (.int, [(.int (own_selI I0 p1 p2)), oz, oz, oz]), .inr (.long, [(.long (own_selJ I0 p3 p4)), ol, ol, ol]), .inr (.long, [(.long (own_selJ I0 p4 p3)), ol, ol, ol]), .inl (0, [(rf n0 10), (rf n0 11), (rf n0 12), (rf n0 13), (.int (1 : Int32))]), .inr (.int, [(.int p0), oz]), .inr (.int, [(.int p1), oz]), .inr (.long, [(.long p3), ol]), .inr (.long, [(.long p4), ol])]) := by
  refine Met.of (a0 := a0) (ls := #[.val (rf n0 9), .val (.int p0), .val (.int p1), .val (.long p3), .second, .val (.long p4), .second]) (kok hw) (plainFor_of_name pn_8) (fun m => by first | (simp [entryFrame, mkF, argsToLocals, Value.category]; done) | rfl) (fun G H => ?_)
  refine H.aloadN s4_0 rfl rfl ?_
  refine H.getfield s4_1 (k_10 hw) (i := 9) rfl rfl ?_
  refine H.aloadN s4_4 rfl rfl ?_
  refine H.getfield s4_5 (k_11 hw) (i := 9) rfl rfl ?_
  refine H.iloadN s4_8 rfl ?_
  refine H.iastore s4_9 (i := 10) (j := 0) rfl (by decide) (ltb rfl)  rfl ?_
  refine H.aloadN s4_10 rfl rfl ?_
  refine H.getfield s4_11 (k_12 hw) (i := 9) rfl rfl ?_
  refine H.aloadN s4_14 rfl rfl ?_
  refine H.getfield s4_15 (k_11 hw) (i := 9) rfl rfl ?_
  refine H.iloadN s4_18 rfl ?_
  refine H.iastore s4_19 (i := 11) (j := 0) rfl (by decide) (ltb rfl)  rfl ?_
  refine H.aloadN s4_20 rfl rfl ?_
  refine H.getfield s4_21 (k_13 hw) (i := 9) rfl rfl ?_
  refine H.aloadN s4_24 rfl rfl ?_
  refine H.getfield s4_25 (k_11 hw) (i := 9) rfl rfl ?_
  refine H.lloadN s4_28 rfl ?_
  refine H.lastore s4_29 (i := 12) (j := 0) rfl (by decide) (ltb rfl)  rfl ?_
  refine H.aloadN s4_30 rfl rfl ?_
  refine H.getfield s4_31 (k_14 hw) (i := 9) rfl rfl ?_
  refine H.aloadN s4_34 rfl rfl ?_
  refine H.getfield s4_35 (k_11 hw) (i := 9) rfl rfl ?_
  refine H.lload s4_38 rfl ?_
  refine H.lastore s4_40 (i := 13) (j := 0) rfl (by decide) (ltb rfl)  rfl ?_
  refine H.aloadN s4_41 rfl rfl ?_
  refine H.dup s4_42 rfl ?_
  refine H.getfield s4_43 (k_11 hw) (i := 9) rfl rfl ?_
  refine H.iconst s4_46 (v := (1 : Int32)) (by decide) ?_
  refine H.iadd s4_47 (w := (1 : Int32)) (by decide) ?_
  refine H.putfield s4_48 (k_15 hw) (i := 9) rfl rfl rfl rfl ?_
  exact H.vreturn s4_51 rfl ⟨rfl, rfl⟩ (by decide) (by decide)


set_option maxRecDepth 65536 in
set_option maxHeartbeats 40000000 in
theorem a_17 (l : Launch) {Z : State} {a0 : Array Value} (hw : HW1 Z a0) (n0 : Nat) (p0 : Int32) (p1 : Int32) (p2 : Int32) (p3 : Int64) (p4 : Int64) (i0 : Int32) (I0 : Nat) : Met l Z KT n0 y4 prog_15_method_2_code 7 none ({ frames := 0, cells := 0, slots := 0, locals := 0 } : Room) #[(rf n0 9), (.int p1), (.int p2), (.long p4), (.long p3)] [.inr (.int, [(.int i0)]), .inr (.int, [(.int p0), (.int p1)]), .inr (.int, [(.int p1), (.int p2)]), .inr (.long, [(.long p3), (.long p4)]), .inr (.long, [(.long p4), (.long p3)]), .inr (.int, [(.int (own_selI I0 p0 p1)), oz, oz, oz]), .inr (.int, [(.int (own_selI I0 p1 p2)), oz, oz, oz]), .inr (.long, [(.long (own_selJ I0 p3 p4)), ol, ol, ol]), .inr (.long, [(.long (own_selJ I0 p4 p3)), ol, ol, ol]), .inl (0, [(rf n0 10), (rf n0 11), (rf n0 12), (rf n0 13), (.int (1 : Int32))]), .inr (.int, [(.int p0), oz]), .inr (.int, [(.int p1), oz]), .inr (.long, [(.long p3), ol]), .inr (.long, [(.long p4), ol])] (Is none [.inr (.int, [(.int i0)]), .inr (.int, [(.int p0), (.int p1)]), .inr (.int, [(.int p1), (.int p2)]), .inr (.long, [(.long p3), (.long p4)]), .inr (.long, [(.long p4), (.long p3)]), .inr (.int, [(.int (own_selI I0 p0 p1)), oz, oz, oz]), .inr (.int, [(.int (own_selI I0 p1 p2)), oz, oz, oz]), .inr (.long, [(.long (own_selJ I0 p3 p4)), ol, ol, ol]), .inr (.long, [(.long (own_selJ I0 p4 p3)), ol, ol, ol]), .inl (0, [(rf n0 10), (rf n0 11), (rf n0 12), (rf n0 13), (.int (2 : Int32))]), .inr (.int, [(.int p0), (.int p1)]), .inr (.int, [(.int p1), (.int p2)]), .inr (.long, [(.long p3), (.long p4)]), .inr (.long, [(.long p4), (.long p3)])]) := by
  refine Met.of (a0 := a0) (ls := #[.val (rf n0 9), .val (.int p1), .val (.int p2), .val (.long p4), .second, .val (.long p3), .second]) (kok hw) (plainFor_of_name pn_8) (fun m => by first | (simp [entryFrame, mkF, argsToLocals, Value.category]; done) | rfl) (fun G H => ?_)
  refine H.aloadN s4_0 rfl rfl ?_
  refine H.getfield s4_1 (k_10 hw) (i := 9) rfl rfl ?_
  refine H.aloadN s4_4 rfl rfl ?_
  refine H.getfield s4_5 (k_11 hw) (i := 9) rfl rfl ?_
  refine H.iloadN s4_8 rfl ?_
  refine H.iastore s4_9 (i := 10) (j := 1) rfl (by decide) (ltb rfl)  rfl ?_
  refine H.aloadN s4_10 rfl rfl ?_
  refine H.getfield s4_11 (k_12 hw) (i := 9) rfl rfl ?_
  refine H.aloadN s4_14 rfl rfl ?_
  refine H.getfield s4_15 (k_11 hw) (i := 9) rfl rfl ?_
  refine H.iloadN s4_18 rfl ?_
  refine H.iastore s4_19 (i := 11) (j := 1) rfl (by decide) (ltb rfl)  rfl ?_
  refine H.aloadN s4_20 rfl rfl ?_
  refine H.getfield s4_21 (k_13 hw) (i := 9) rfl rfl ?_
  refine H.aloadN s4_24 rfl rfl ?_
  refine H.getfield s4_25 (k_11 hw) (i := 9) rfl rfl ?_
  refine H.lloadN s4_28 rfl ?_
  refine H.lastore s4_29 (i := 12) (j := 1) rfl (by decide) (ltb rfl)  rfl ?_
  refine H.aloadN s4_30 rfl rfl ?_
  refine H.getfield s4_31 (k_14 hw) (i := 9) rfl rfl ?_
  refine H.aloadN s4_34 rfl rfl ?_
  refine H.getfield s4_35 (k_11 hw) (i := 9) rfl rfl ?_
  refine H.lload s4_38 rfl ?_
  refine H.lastore s4_40 (i := 13) (j := 1) rfl (by decide) (ltb rfl)  rfl ?_
  refine H.aloadN s4_41 rfl rfl ?_
  refine H.dup s4_42 rfl ?_
  refine H.getfield s4_43 (k_11 hw) (i := 9) rfl rfl ?_
  refine H.iconst s4_46 (v := (1 : Int32)) (by decide) ?_
  refine H.iadd s4_47 (w := (2 : Int32)) (by decide) ?_
  refine H.putfield s4_48 (k_15 hw) (i := 9) rfl rfl rfl rfl ?_
  exact H.vreturn s4_51 rfl ⟨rfl, rfl⟩ (by decide) (by decide)


set_option maxRecDepth 65536 in
set_option maxHeartbeats 40000000 in
theorem a_18 (l : Launch) {Z : State} {a0 : Array Value} (hw : HW1 Z a0) (n0 : Nat) (p0 : Int32) (p1 : Int32) (p2 : Int32) (p3 : Int64) (p4 : Int64) (i0 : Int32) (I0 : Nat) : Met l Z KT n0 y2 prog_15_method_1_code 2 none ({ frames := 1, cells := 4, slots := 16, locals := 12 } : Room) #[(rf n0 14), (.int (4 : Int32))] [.inr (.int, [(.int i0)]), .inr (.int, [(.int p0), (.int p1)]), .inr (.int, [(.int p1), (.int p2)]), .inr (.long, [(.long p3), (.long p4)]), .inr (.long, [(.long p4), (.long p3)]), .inr (.int, [(.int (own_selI I0 p0 p1)), oz, oz, oz]), .inr (.int, [(.int (own_selI I0 p1 p2)), oz, oz, oz]), .inr (.long, [(.long (own_selJ I0 p3 p4)), ol, ol, ol]), .inr (.long, [(.long (own_selJ I0 p4 p3)), ol, ol, ol]), .inl (0, [(rf n0 10), (rf n0 11), (rf n0 12), (rf n0 13), (.int (2 : Int32))]), .inr (.int, [(.int p0), (.int p1)]), .inr (.int, [(.int p1), (.int p2)]), .inr (.long, [(.long p3), (.long p4)]), .inr (.long, [(.long p4), (.long p3)]), .inl (0, [.null, .null, .null, .null, oz])] (Is none [.inr (.int, [(.int i0)]), .inr (.int, [(.int p0), (.int p1)]), .inr (.int, [(.int p1), (.int p2)]), .inr (.long, [(.long p3), (.long p4)]), .inr (.long, [(.long p4), (.long p3)]), .inr (.int, [(.int (own_selI I0 p0 p1)), oz, oz, oz]), .inr (.int, [(.int (own_selI I0 p1 p2)), oz, oz, oz]), .inr (.long, [(.long (own_selJ I0 p3 p4)), ol, ol, ol]), .inr (.long, [(.long (own_selJ I0 p4 p3)), ol, ol, ol]), .inl (0, [(rf n0 10), (rf n0 11), (rf n0 12), (rf n0 13), (.int (2 : Int32))]), .inr (.int, [(.int p0), (.int p1)]), .inr (.int, [(.int p1), (.int p2)]), .inr (.long, [(.long p3), (.long p4)]), .inr (.long, [(.long p4), (.long p3)]), .inl (0, [(rf n0 15), (rf n0 16), (rf n0 17), (rf n0 18), oz]), .inr (.int, [oz, oz, oz, oz]), .inr (.int, [oz, oz, oz, oz]), .inr (.long, [ol, ol, ol, ol]), .inr (.long, [ol, ol, ol, ol])]) := by
  refine Met.of (a0 := a0) (ls := #[.val (rf n0 14), .val (.int (4 : Int32))]) (kok hw) (plainFor_of_name pn_8) (fun m => by first | (simp [entryFrame, mkF, argsToLocals, Value.category]; done) | rfl) (fun G H => ?_)
  refine H.aloadN s2_0 rfl rfl ?_
  refine H.initO s2_1 (k_3 hw) rfl (leb rfl) (leb rfl) ?_
  refine H.aloadN s2_4 rfl rfl ?_
  refine H.iloadN s2_5 rfl ?_
  refine H.newarray s2_6 (ty := .int) rfl (k_0 hw) (N := 4) (cap := 4) (by decide) rfl (by decide) (by decide) (by first | rfl | simp) (by decide) (by decide) (i := 15) rfl (A' := [.inr (.int, [(.int i0)]), .inr (.int, [(.int p0), (.int p1)]), .inr (.int, [(.int p1), (.int p2)]), .inr (.long, [(.long p3), (.long p4)]), .inr (.long, [(.long p4), (.long p3)]), .inr (.int, [(.int (own_selI I0 p0 p1)), oz, oz, oz]), .inr (.int, [(.int (own_selI I0 p1 p2)), oz, oz, oz]), .inr (.long, [(.long (own_selJ I0 p3 p4)), ol, ol, ol]), .inr (.long, [(.long (own_selJ I0 p4 p3)), ol, ol, ol]), .inl (0, [(rf n0 10), (rf n0 11), (rf n0 12), (rf n0 13), (.int (2 : Int32))]), .inr (.int, [(.int p0), (.int p1)]), .inr (.int, [(.int p1), (.int p2)]), .inr (.long, [(.long p3), (.long p4)]), .inr (.long, [(.long p4), (.long p3)]), .inl (0, [.null, .null, .null, .null, oz]), .inr (.int, [oz, oz, oz, oz])]) rfl (k' := 1) rfl (n' := 4) rfl ?_
  refine H.putfield s2_8 (k_4 hw) (i := 14) rfl rfl rfl rfl ?_
  refine H.aloadN s2_11 rfl rfl ?_
  refine H.iloadN s2_12 rfl ?_
  refine H.newarray s2_13 (ty := .int) rfl (k_0 hw) (N := 4) (cap := 4) (by decide) rfl (by decide) (by decide) (by first | rfl | simp) (by decide) (by decide) (i := 16) rfl (A' := [.inr (.int, [(.int i0)]), .inr (.int, [(.int p0), (.int p1)]), .inr (.int, [(.int p1), (.int p2)]), .inr (.long, [(.long p3), (.long p4)]), .inr (.long, [(.long p4), (.long p3)]), .inr (.int, [(.int (own_selI I0 p0 p1)), oz, oz, oz]), .inr (.int, [(.int (own_selI I0 p1 p2)), oz, oz, oz]), .inr (.long, [(.long (own_selJ I0 p3 p4)), ol, ol, ol]), .inr (.long, [(.long (own_selJ I0 p4 p3)), ol, ol, ol]), .inl (0, [(rf n0 10), (rf n0 11), (rf n0 12), (rf n0 13), (.int (2 : Int32))]), .inr (.int, [(.int p0), (.int p1)]), .inr (.int, [(.int p1), (.int p2)]), .inr (.long, [(.long p3), (.long p4)]), .inr (.long, [(.long p4), (.long p3)]), .inl (0, [(rf n0 15), .null, .null, .null, oz]), .inr (.int, [oz, oz, oz, oz]), .inr (.int, [oz, oz, oz, oz])]) rfl (k' := 2) rfl (n' := 8) rfl ?_
  refine H.putfield s2_15 (k_5 hw) (i := 14) rfl rfl rfl rfl ?_
  refine H.aloadN s2_18 rfl rfl ?_
  refine H.iloadN s2_19 rfl ?_
  refine H.newarray s2_20 (ty := .long) rfl (k_1 hw) (N := 4) (cap := 4) (by decide) rfl (by decide) (by decide) (by first | rfl | simp) (by decide) (by decide) (i := 17) rfl (A' := [.inr (.int, [(.int i0)]), .inr (.int, [(.int p0), (.int p1)]), .inr (.int, [(.int p1), (.int p2)]), .inr (.long, [(.long p3), (.long p4)]), .inr (.long, [(.long p4), (.long p3)]), .inr (.int, [(.int (own_selI I0 p0 p1)), oz, oz, oz]), .inr (.int, [(.int (own_selI I0 p1 p2)), oz, oz, oz]), .inr (.long, [(.long (own_selJ I0 p3 p4)), ol, ol, ol]), .inr (.long, [(.long (own_selJ I0 p4 p3)), ol, ol, ol]), .inl (0, [(rf n0 10), (rf n0 11), (rf n0 12), (rf n0 13), (.int (2 : Int32))]), .inr (.int, [(.int p0), (.int p1)]), .inr (.int, [(.int p1), (.int p2)]), .inr (.long, [(.long p3), (.long p4)]), .inr (.long, [(.long p4), (.long p3)]), .inl (0, [(rf n0 15), (rf n0 16), .null, .null, oz]), .inr (.int, [oz, oz, oz, oz]), .inr (.int, [oz, oz, oz, oz]), .inr (.long, [ol, ol, ol, ol])]) rfl (k' := 3) rfl (n' := 12) rfl ?_
  refine H.putfield s2_22 (k_6 hw) (i := 14) rfl rfl rfl rfl ?_
  refine H.aloadN s2_25 rfl rfl ?_
  refine H.iloadN s2_26 rfl ?_
  refine H.newarray s2_27 (ty := .long) rfl (k_1 hw) (N := 4) (cap := 4) (by decide) rfl (by decide) (by decide) (by first | rfl | simp) (by decide) (by decide) (i := 18) rfl (A' := [.inr (.int, [(.int i0)]), .inr (.int, [(.int p0), (.int p1)]), .inr (.int, [(.int p1), (.int p2)]), .inr (.long, [(.long p3), (.long p4)]), .inr (.long, [(.long p4), (.long p3)]), .inr (.int, [(.int (own_selI I0 p0 p1)), oz, oz, oz]), .inr (.int, [(.int (own_selI I0 p1 p2)), oz, oz, oz]), .inr (.long, [(.long (own_selJ I0 p3 p4)), ol, ol, ol]), .inr (.long, [(.long (own_selJ I0 p4 p3)), ol, ol, ol]), .inl (0, [(rf n0 10), (rf n0 11), (rf n0 12), (rf n0 13), (.int (2 : Int32))]), .inr (.int, [(.int p0), (.int p1)]), .inr (.int, [(.int p1), (.int p2)]), .inr (.long, [(.long p3), (.long p4)]), .inr (.long, [(.long p4), (.long p3)]), .inl (0, [(rf n0 15), (rf n0 16), (rf n0 17), .null, oz]), .inr (.int, [oz, oz, oz, oz]), .inr (.int, [oz, oz, oz, oz]), .inr (.long, [ol, ol, ol, ol]), .inr (.long, [ol, ol, ol, ol])]) rfl (k' := 4) rfl (n' := 16) rfl ?_
  refine H.putfield s2_29 (k_7 hw) (i := 14) rfl rfl rfl rfl ?_
  exact H.vreturn s2_32 rfl ⟨rfl, rfl⟩ (by decide) (by decide)

theorem s5_8 : Nx prog_15_method_4_code 8 (.aload_n 2) 1 9 := ⟨by decide +kernel, rfl⟩
theorem s5_9 : Nx prog_15_method_4_code 9 (.iload_n 3) 1 10 := ⟨by decide +kernel, rfl⟩
theorem s5_10 : Nx prog_15_method_4_code 10 (.iaload) 1 11 := ⟨by decide +kernel, rfl⟩
theorem s5_11 : Nx prog_15_method_4_code 11 (.istore 4) 2 13 := ⟨by decide +kernel, rfl⟩
theorem s5_13 : Nx prog_15_method_4_code 13 (.aload_n 0) 1 14 := ⟨by decide +kernel, rfl⟩
theorem s5_14 : Nx prog_15_method_4_code 14 (.getfield 7) 3 17 := ⟨by decide +kernel, rfl⟩
theorem s5_17 : Nx prog_15_method_4_code 17 (.aload_n 0) 1 18 := ⟨by decide +kernel, rfl⟩
theorem s5_18 : Nx prog_15_method_4_code 18 (.getfield 23) 3 21 := ⟨by decide +kernel, rfl⟩
theorem s5_21 : Nx prog_15_method_4_code 21 (.iload_n 3) 1 22 := ⟨by decide +kernel, rfl⟩
theorem s5_22 : Nx prog_15_method_4_code 22 (.iadd) 1 23 := ⟨by decide +kernel, rfl⟩
theorem s5_23 : Nx prog_15_method_4_code 23 (.aload_n 1) 1 24 := ⟨by decide +kernel, rfl⟩
theorem s5_24 : Nx prog_15_method_4_code 24 (.getfield 7) 3 27 := ⟨by decide +kernel, rfl⟩
theorem s5_27 : Nx prog_15_method_4_code 27 (.iload 4) 2 29 := ⟨by decide +kernel, rfl⟩
theorem s5_29 : Nx prog_15_method_4_code 29 (.iaload) 1 30 := ⟨by decide +kernel, rfl⟩
theorem s5_30 : Nx prog_15_method_4_code 30 (.iastore) 1 31 := ⟨by decide +kernel, rfl⟩
theorem s5_31 : Nx prog_15_method_4_code 31 (.aload_n 0) 1 32 := ⟨by decide +kernel, rfl⟩
theorem s5_32 : Nx prog_15_method_4_code 32 (.getfield 13) 3 35 := ⟨by decide +kernel, rfl⟩
theorem s5_35 : Nx prog_15_method_4_code 35 (.aload_n 0) 1 36 := ⟨by decide +kernel, rfl⟩
theorem s5_36 : Nx prog_15_method_4_code 36 (.getfield 23) 3 39 := ⟨by decide +kernel, rfl⟩
theorem s5_39 : Nx prog_15_method_4_code 39 (.iload_n 3) 1 40 := ⟨by decide +kernel, rfl⟩
theorem s5_40 : Nx prog_15_method_4_code 40 (.iadd) 1 41 := ⟨by decide +kernel, rfl⟩
theorem s5_41 : Nx prog_15_method_4_code 41 (.aload_n 1) 1 42 := ⟨by decide +kernel, rfl⟩
theorem s5_42 : Nx prog_15_method_4_code 42 (.getfield 13) 3 45 := ⟨by decide +kernel, rfl⟩
theorem s5_45 : Nx prog_15_method_4_code 45 (.iload 4) 2 47 := ⟨by decide +kernel, rfl⟩
theorem s5_47 : Nx prog_15_method_4_code 47 (.iaload) 1 48 := ⟨by decide +kernel, rfl⟩
theorem s5_48 : Nx prog_15_method_4_code 48 (.iastore) 1 49 := ⟨by decide +kernel, rfl⟩
theorem s5_49 : Nx prog_15_method_4_code 49 (.aload_n 0) 1 50 := ⟨by decide +kernel, rfl⟩
theorem s5_50 : Nx prog_15_method_4_code 50 (.getfield 16) 3 53 := ⟨by decide +kernel, rfl⟩
theorem s5_53 : Nx prog_15_method_4_code 53 (.aload_n 0) 1 54 := ⟨by decide +kernel, rfl⟩
theorem s5_54 : Nx prog_15_method_4_code 54 (.getfield 23) 3 57 := ⟨by decide +kernel, rfl⟩
theorem s5_57 : Nx prog_15_method_4_code 57 (.iload_n 3) 1 58 := ⟨by decide +kernel, rfl⟩
theorem s5_58 : Nx prog_15_method_4_code 58 (.iadd) 1 59 := ⟨by decide +kernel, rfl⟩
theorem s5_59 : Nx prog_15_method_4_code 59 (.aload_n 1) 1 60 := ⟨by decide +kernel, rfl⟩
theorem s5_60 : Nx prog_15_method_4_code 60 (.getfield 16) 3 63 := ⟨by decide +kernel, rfl⟩
theorem s5_63 : Nx prog_15_method_4_code 63 (.iload 4) 2 65 := ⟨by decide +kernel, rfl⟩
theorem s5_65 : Nx prog_15_method_4_code 65 (.laload) 1 66 := ⟨by decide +kernel, rfl⟩
theorem s5_66 : Nx prog_15_method_4_code 66 (.lastore) 1 67 := ⟨by decide +kernel, rfl⟩
theorem s5_67 : Nx prog_15_method_4_code 67 (.aload_n 0) 1 68 := ⟨by decide +kernel, rfl⟩
theorem s5_68 : Nx prog_15_method_4_code 68 (.getfield 20) 3 71 := ⟨by decide +kernel, rfl⟩
theorem s5_71 : Nx prog_15_method_4_code 71 (.aload_n 0) 1 72 := ⟨by decide +kernel, rfl⟩
theorem s5_72 : Nx prog_15_method_4_code 72 (.getfield 23) 3 75 := ⟨by decide +kernel, rfl⟩
theorem s5_75 : Nx prog_15_method_4_code 75 (.iload_n 3) 1 76 := ⟨by decide +kernel, rfl⟩
theorem s5_76 : Nx prog_15_method_4_code 76 (.iadd) 1 77 := ⟨by decide +kernel, rfl⟩
theorem s5_77 : Nx prog_15_method_4_code 77 (.aload_n 1) 1 78 := ⟨by decide +kernel, rfl⟩
theorem s5_78 : Nx prog_15_method_4_code 78 (.getfield 20) 3 81 := ⟨by decide +kernel, rfl⟩
theorem s5_81 : Nx prog_15_method_4_code 81 (.iload 4) 2 83 := ⟨by decide +kernel, rfl⟩
theorem s5_83 : Nx prog_15_method_4_code 83 (.laload) 1 84 := ⟨by decide +kernel, rfl⟩
theorem s5_84 : Nx prog_15_method_4_code 84 (.lastore) 1 85 := ⟨by decide +kernel, rfl⟩
theorem s5_85 : Nx prog_15_method_4_code 85 (.iinc 3 1) 3 88 := ⟨by decide +kernel, rfl⟩
theorem s5_88 : Bx prog_15_method_4_code 88 (.goto) 2 91 := ⟨(-86), by decide +kernel, by decide, by decide, rfl⟩
set_option maxRecDepth 65536 in
set_option maxHeartbeats 40000000 in
theorem a_19 (l : Launch) {Z : State} {a0 : Array Value} (hw : HW1 Z a0) (n0 : Nat) (p0 : Int32) (p1 : Int32) (p2 : Int32) (p3 : Int64) (p4 : Int64) (i0 : Int32) (I0 : Nat) (hI0 : i0.toInt = (I0 : Int)) (lI0 : I0 < 2) : Met l Z KT n0 y5 prog_15_method_4_code 5 none ({ frames := 0, cells := 0, slots := 0, locals := 0 } : Room) #[(rf n0 14), (rf n0 9), (rf n0 0)] [.inr (.int, [(.int i0)]), .inr (.int, [(.int p0), (.int p1)]), .inr (.int, [(.int p1), (.int p2)]), .inr (.long, [(.long p3), (.long p4)]), .inr (.long, [(.long p4), (.long p3)]), .inr (.int, [(.int (own_selI I0 p0 p1)), oz, oz, oz]), .inr (.int, [(.int (own_selI I0 p1 p2)), oz, oz, oz]), .inr (.long, [(.long (own_selJ I0 p3 p4)), ol, ol, ol]), .inr (.long, [(.long (own_selJ I0 p4 p3)), ol, ol, ol]), .inl (0, [(rf n0 10), (rf n0 11), (rf n0 12), (rf n0 13), (.int (2 : Int32))]), .inr (.int, [(.int p0), (.int p1)]), .inr (.int, [(.int p1), (.int p2)]), .inr (.long, [(.long p3), (.long p4)]), .inr (.long, [(.long p4), (.long p3)]), .inl (0, [(rf n0 15), (rf n0 16), (rf n0 17), (rf n0 18), oz]), .inr (.int, [oz, oz, oz, oz]), .inr (.int, [oz, oz, oz, oz]), .inr (.long, [ol, ol, ol, ol]), .inr (.long, [ol, ol, ol, ol])] (Is none [.inr (.int, [(.int i0)]), .inr (.int, [(.int p0), (.int p1)]), .inr (.int, [(.int p1), (.int p2)]), .inr (.long, [(.long p3), (.long p4)]), .inr (.long, [(.long p4), (.long p3)]), .inr (.int, [(.int (own_selI I0 p0 p1)), oz, oz, oz]), .inr (.int, [(.int (own_selI I0 p1 p2)), oz, oz, oz]), .inr (.long, [(.long (own_selJ I0 p3 p4)), ol, ol, ol]), .inr (.long, [(.long (own_selJ I0 p4 p3)), ol, ol, ol]), .inl (0, [(rf n0 10), (rf n0 11), (rf n0 12), (rf n0 13), (.int (2 : Int32))]), .inr (.int, [(.int p0), (.int p1)]), .inr (.int, [(.int p1), (.int p2)]), .inr (.long, [(.long p3), (.long p4)]), .inr (.long, [(.long p4), (.long p3)]), .inl (0, [(rf n0 15), (rf n0 16), (rf n0 17), (rf n0 18), (.int (1 : Int32))]), .inr (.int, [(.int (own_selI I0 p0 p1)), oz, oz, oz]), .inr (.int, [(.int (own_selI I0 p1 p2)), oz, oz, oz]), .inr (.long, [(.long (own_selJ I0 p3 p4)), ol, ol, ol]), .inr (.long, [(.long (own_selJ I0 p4 p3)), ol, ol, ol])]) := by
  refine Met.of (a0 := a0) (ls := #[.val (rf n0 14), .val (rf n0 9), .val (rf n0 0), .unset, .unset]) (kok hw) (plainFor_of_name pn_8) (fun m => by first | (simp [entryFrame, mkF, argsToLocals, Value.category]; done) | rfl) (fun G H => ?_)
  refine H.iconst s5_0 (v := (0 : Int32)) (by decide) ?_
  refine H.istoreN s5_1 (ls' := #[.val (rf n0 14), .val (rf n0 9), .val (rf n0 0), .val oz, .unset]) rfl ?_
  refine H.iloadN s5_2 rfl ?_
  refine H.aloadN s5_3 rfl rfl ?_
  refine H.arraylength s5_4 (i := 0) rfl (z := (1 : Int32)) rfl ?_
  refine H.icmpF s5_5 (show (0 : Int32) < (1 : Int32) by decide) ?_
  refine H.aloadN s5_8 rfl rfl ?_
  refine H.iloadN s5_9 rfl ?_
  refine H.iaload s5_10 (i := 0) (j := 0) rfl (by decide) (v := (.int i0)) rfl ?_
  refine H.istore s5_11 (ls' := #[.val (rf n0 14), .val (rf n0 9), .val (rf n0 0), .val oz, .val (.int i0)]) rfl ?_
  refine H.aloadN s5_13 rfl rfl ?_
  refine H.getfield s5_14 (k_10 hw) (i := 14) rfl rfl ?_
  refine H.aloadN s5_17 rfl rfl ?_
  refine H.getfield s5_18 (k_11 hw) (i := 14) rfl rfl ?_
  refine H.iloadN s5_21 rfl ?_
  refine H.iadd s5_22 (w := (0 : Int32)) (by decide) ?_
  refine H.aloadN s5_23 rfl rfl ?_
  refine H.getfield s5_24 (k_10 hw) (i := 9) rfl rfl ?_
  refine H.iload s5_27 rfl ?_
  refine H.iaload s5_29 (i := 10) (j := I0) rfl hI0 (v := (.int (own_selI I0 p0 p1))) (own_gI lI0) ?_
  refine H.iastore s5_30 (i := 15) (j := 0) rfl (by decide) (ltb rfl)  rfl ?_
  refine H.aloadN s5_31 rfl rfl ?_
  refine H.getfield s5_32 (k_12 hw) (i := 14) rfl rfl ?_
  refine H.aloadN s5_35 rfl rfl ?_
  refine H.getfield s5_36 (k_11 hw) (i := 14) rfl rfl ?_
  refine H.iloadN s5_39 rfl ?_
  refine H.iadd s5_40 (w := (0 : Int32)) (by decide) ?_
  refine H.aloadN s5_41 rfl rfl ?_
  refine H.getfield s5_42 (k_12 hw) (i := 9) rfl rfl ?_
  refine H.iload s5_45 rfl ?_
  refine H.iaload s5_47 (i := 11) (j := I0) rfl hI0 (v := (.int (own_selI I0 p1 p2))) (own_gI lI0) ?_
  refine H.iastore s5_48 (i := 16) (j := 0) rfl (by decide) (ltb rfl)  rfl ?_
  refine H.aloadN s5_49 rfl rfl ?_
  refine H.getfield s5_50 (k_13 hw) (i := 14) rfl rfl ?_
  refine H.aloadN s5_53 rfl rfl ?_
  refine H.getfield s5_54 (k_11 hw) (i := 14) rfl rfl ?_
  refine H.iloadN s5_57 rfl ?_
  refine H.iadd s5_58 (w := (0 : Int32)) (by decide) ?_
  refine H.aloadN s5_59 rfl rfl ?_
  refine H.getfield s5_60 (k_13 hw) (i := 9) rfl rfl ?_
  refine H.iload s5_63 rfl ?_
  refine H.laload s5_65 (i := 12) (j := I0) rfl hI0 (v := (.long (own_selJ I0 p3 p4))) (own_gJ lI0) ?_
  refine H.lastore s5_66 (i := 17) (j := 0) rfl (by decide) (ltb rfl)  rfl ?_
  refine H.aloadN s5_67 rfl rfl ?_
  refine H.getfield s5_68 (k_14 hw) (i := 14) rfl rfl ?_
  refine H.aloadN s5_71 rfl rfl ?_
  refine H.getfield s5_72 (k_11 hw) (i := 14) rfl rfl ?_
  refine H.iloadN s5_75 rfl ?_
  refine H.iadd s5_76 (w := (0 : Int32)) (by decide) ?_
  refine H.aloadN s5_77 rfl rfl ?_
  refine H.getfield s5_78 (k_14 hw) (i := 9) rfl rfl ?_
  refine H.iload s5_81 rfl ?_
  refine H.laload s5_83 (i := 13) (j := I0) rfl hI0 (v := (.long (own_selJ I0 p4 p3))) (own_gJ lI0) ?_
  refine H.lastore s5_84 (i := 18) (j := 0) rfl (by decide) (ltb rfl)  rfl ?_
  refine H.iinc s5_85 rfl (w := (1 : Int32)) (by decide) (ls' := #[.val (rf n0 14), .val (rf n0 9), .val (rf n0 0), .val (.int (1 : Int32)), .val (.int i0)]) rfl ?_
  refine H.goto s5_88 ?_
  refine H.iloadN s5_2 rfl ?_
  refine H.aloadN s5_3 rfl rfl ?_
  refine H.arraylength s5_4 (i := 0) rfl (z := (1 : Int32)) rfl ?_
  refine H.icmpT s5_5 (show ¬ (1 : Int32) < (1 : Int32) by decide) ?_
  refine H.aloadN s5_91 rfl rfl ?_
  refine H.dup s5_92 rfl ?_
  refine H.getfield s5_93 (k_11 hw) (i := 14) rfl rfl ?_
  refine H.aloadN s5_96 rfl rfl ?_
  refine H.arraylength s5_97 (i := 0) rfl (z := (1 : Int32)) rfl ?_
  refine H.iadd s5_98 (w := (1 : Int32)) (by decide) ?_
  refine H.putfield s5_99 (k_17 hw) (i := 14) rfl rfl rfl rfl ?_
  exact H.vreturn s5_102 rfl ⟨rfl, rfl⟩ (by decide) (by decide)


set_option maxRecDepth 65536 in
set_option maxHeartbeats 40000000 in
theorem a_20 (l : Launch) {Z : State} {a0 : Array Value} (hw : HW1 Z a0) (n0 : Nat) (p0 : Int32) (p1 : Int32) (p2 : Int32) (p3 : Int64) (p4 : Int64) (i0 : Int32) (I0 : Nat) : Met l Z KT n0 y6 prog_15_method_5_code 1 (some .int) ({ frames := 0, cells := 0, slots := 0, locals := 0 } : Room) #[(rf n0 14)] [.inr (.int, [(.int i0)]), .inr (.int, [(.int p0), (.int p1)]), .inr (.int, [(.int p1), (.int p2)]), .inr (.long, [(.long p3), (.long p4)]), .inr (.long, [(.long p4), (.long p3)]), .inr (.int, [(.int (own_selI I0 p0 p1)), oz, oz, oz]), .inr (.int, [(.int (own_selI I0 p1 p2)), oz, oz, oz]), .inr (.long, [(.long (own_selJ I0 p3 p4)), ol, ol, ol]), .inr (.long, [(.long (own_selJ I0 p4 p3)), ol, ol, ol]), .inl (0, [(rf n0 10), (rf n0 11), (rf n0 12), (rf n0 13), (.int (2 : Int32))]), .inr (.int, [(.int p0), (.int p1)]), .inr (.int, [(.int p1), (.int p2)]), .inr (.long, [(.long p3), (.long p4)]), .inr (.long, [(.long p4), (.long p3)]), .inl (0, [(rf n0 15), (rf n0 16), (rf n0 17), (rf n0 18), (.int (1 : Int32))]), .inr (.int, [(.int (own_selI I0 p0 p1)), oz, oz, oz]), .inr (.int, [(.int (own_selI I0 p1 p2)), oz, oz, oz]), .inr (.long, [(.long (own_selJ I0 p3 p4)), ol, ol, ol]), .inr (.long, [(.long (own_selJ I0 p4 p3)), ol, ol, ol])] (Is (some (.int (1 : Int32))) [.inr (.int, [(.int i0)]), .inr (.int, [(.int p0), (.int p1)]), .inr (.int, [(.int p1), (.int p2)]), .inr (.long, [(.long p3), (.long p4)]), .inr (.long, [(.long p4), (.long p3)]), .inr (.int, [(.int (own_selI I0 p0 p1)), oz, oz, oz]), .inr (.int, [(.int (own_selI I0 p1 p2)), oz, oz, oz]), .inr (.long, [(.long (own_selJ I0 p3 p4)), ol, ol, ol]), .inr (.long, [(.long (own_selJ I0 p4 p3)), ol, ol, ol]), .inl (0, [(rf n0 10), (rf n0 11), (rf n0 12), (rf n0 13), (.int (2 : Int32))]), .inr (.int, [(.int p0), (.int p1)]), .inr (.int, [(.int p1), (.int p2)]), .inr (.long, [(.long p3), (.long p4)]), .inr (.long, [(.long p4), (.long p3)]), .inl (0, [(rf n0 15), (rf n0 16), (rf n0 17), (rf n0 18), (.int (1 : Int32))]), .inr (.int, [(.int (own_selI I0 p0 p1)), oz, oz, oz]), .inr (.int, [(.int (own_selI I0 p1 p2)), oz, oz, oz]), .inr (.long, [(.long (own_selJ I0 p3 p4)), ol, ol, ol]), .inr (.long, [(.long (own_selJ I0 p4 p3)), ol, ol, ol])]) := by
  refine Met.of (a0 := a0) (ls := #[.val (rf n0 14)]) (kok hw) (plainFor_of_name pn_8) (fun m => by first | (simp [entryFrame, mkF, argsToLocals, Value.category]; done) | rfl) (fun G H => ?_)
  refine H.aloadN s6_0 rfl rfl ?_
  refine H.getfield s6_1 (k_11 hw) (i := 14) rfl rfl ?_
  exact H.ireturn s6_4 rfl (by simp) rfl ⟨rfl, rfl⟩ (by decide) (by decide)


set_option maxRecDepth 65536 in
set_option maxHeartbeats 40000000 in
theorem a_21 (l : Launch) {Z : State} {a0 : Array Value} (hw : HW1 Z a0) (n0 : Nat) (p0 : Int32) (p1 : Int32) (p2 : Int32) (p3 : Int64) (p4 : Int64) (i0 : Int32) (I0 : Nat) : Met l Z KT n0 y7 prog_15_method_6_code 1 (some (.array .int)) ({ frames := 0, cells := 0, slots := 0, locals := 0 } : Room) #[(rf n0 14)] [.inr (.int, [(.int i0)]), .inr (.int, [(.int p0), (.int p1)]), .inr (.int, [(.int p1), (.int p2)]), .inr (.long, [(.long p3), (.long p4)]), .inr (.long, [(.long p4), (.long p3)]), .inr (.int, [(.int (own_selI I0 p0 p1)), oz, oz, oz]), .inr (.int, [(.int (own_selI I0 p1 p2)), oz, oz, oz]), .inr (.long, [(.long (own_selJ I0 p3 p4)), ol, ol, ol]), .inr (.long, [(.long (own_selJ I0 p4 p3)), ol, ol, ol]), .inl (0, [(rf n0 10), (rf n0 11), (rf n0 12), (rf n0 13), (.int (2 : Int32))]), .inr (.int, [(.int p0), (.int p1)]), .inr (.int, [(.int p1), (.int p2)]), .inr (.long, [(.long p3), (.long p4)]), .inr (.long, [(.long p4), (.long p3)]), .inl (0, [(rf n0 15), (rf n0 16), (rf n0 17), (rf n0 18), (.int (1 : Int32))]), .inr (.int, [(.int (own_selI I0 p0 p1)), oz, oz, oz]), .inr (.int, [(.int (own_selI I0 p1 p2)), oz, oz, oz]), .inr (.long, [(.long (own_selJ I0 p3 p4)), ol, ol, ol]), .inr (.long, [(.long (own_selJ I0 p4 p3)), ol, ol, ol])] (Is (some (rf n0 15)) [.inr (.int, [(.int i0)]), .inr (.int, [(.int p0), (.int p1)]), .inr (.int, [(.int p1), (.int p2)]), .inr (.long, [(.long p3), (.long p4)]), .inr (.long, [(.long p4), (.long p3)]), .inr (.int, [(.int (own_selI I0 p0 p1)), oz, oz, oz]), .inr (.int, [(.int (own_selI I0 p1 p2)), oz, oz, oz]), .inr (.long, [(.long (own_selJ I0 p3 p4)), ol, ol, ol]), .inr (.long, [(.long (own_selJ I0 p4 p3)), ol, ol, ol]), .inl (0, [(rf n0 10), (rf n0 11), (rf n0 12), (rf n0 13), (.int (2 : Int32))]), .inr (.int, [(.int p0), (.int p1)]), .inr (.int, [(.int p1), (.int p2)]), .inr (.long, [(.long p3), (.long p4)]), .inr (.long, [(.long p4), (.long p3)]), .inl (0, [(rf n0 15), (rf n0 16), (rf n0 17), (rf n0 18), (.int (1 : Int32))]), .inr (.int, [(.int (own_selI I0 p0 p1)), oz, oz, oz]), .inr (.int, [(.int (own_selI I0 p1 p2)), oz, oz, oz]), .inr (.long, [(.long (own_selJ I0 p3 p4)), ol, ol, ol]), .inr (.long, [(.long (own_selJ I0 p4 p3)), ol, ol, ol])]) := by
  refine Met.of (a0 := a0) (ls := #[.val (rf n0 14)]) (kok hw) (plainFor_of_name pn_8) (fun m => by first | (simp [entryFrame, mkF, argsToLocals, Value.category]; done) | rfl) (fun G H => ?_)
  refine H.aloadN s7_0 rfl rfl ?_
  refine H.getfield s7_1 (k_10 hw) (i := 14) rfl rfl ?_
  exact H.areturn s7_4 rfl rfl rfl rfl ⟨rfl, rfl⟩ (by decide) (by decide)


set_option maxRecDepth 65536 in
set_option maxHeartbeats 40000000 in
theorem a_22 (l : Launch) {Z : State} {a0 : Array Value} (hw : HW1 Z a0) (n0 : Nat) (p0 : Int32) (p1 : Int32) (p2 : Int32) (p3 : Int64) (p4 : Int64) (i0 : Int32) (I0 : Nat) : Met l Z KT n0 y8 prog_15_method_7_code 1 (some (.array .int)) ({ frames := 0, cells := 0, slots := 0, locals := 0 } : Room) #[(rf n0 14)] [.inr (.int, [(.int i0)]), .inr (.int, [(.int p0), (.int p1)]), .inr (.int, [(.int p1), (.int p2)]), .inr (.long, [(.long p3), (.long p4)]), .inr (.long, [(.long p4), (.long p3)]), .inr (.int, [(.int (own_selI I0 p0 p1)), oz, oz, oz]), .inr (.int, [(.int (own_selI I0 p1 p2)), oz, oz, oz]), .inr (.long, [(.long (own_selJ I0 p3 p4)), ol, ol, ol]), .inr (.long, [(.long (own_selJ I0 p4 p3)), ol, ol, ol]), .inl (0, [(rf n0 10), (rf n0 11), (rf n0 12), (rf n0 13), (.int (2 : Int32))]), .inr (.int, [(.int p0), (.int p1)]), .inr (.int, [(.int p1), (.int p2)]), .inr (.long, [(.long p3), (.long p4)]), .inr (.long, [(.long p4), (.long p3)]), .inl (0, [(rf n0 15), (rf n0 16), (rf n0 17), (rf n0 18), (.int (1 : Int32))]), .inr (.int, [(.int (own_selI I0 p0 p1)), oz, oz, oz]), .inr (.int, [(.int (own_selI I0 p1 p2)), oz, oz, oz]), .inr (.long, [(.long (own_selJ I0 p3 p4)), ol, ol, ol]), .inr (.long, [(.long (own_selJ I0 p4 p3)), ol, ol, ol])] (Is (some (rf n0 16)) [.inr (.int, [(.int i0)]), .inr (.int, [(.int p0), (.int p1)]), .inr (.int, [(.int p1), (.int p2)]), .inr (.long, [(.long p3), (.long p4)]), .inr (.long, [(.long p4), (.long p3)]), .inr (.int, [(.int (own_selI I0 p0 p1)), oz, oz, oz]), .inr (.int, [(.int (own_selI I0 p1 p2)), oz, oz, oz]), .inr (.long, [(.long (own_selJ I0 p3 p4)), ol, ol, ol]), .inr (.long, [(.long (own_selJ I0 p4 p3)), ol, ol, ol]), .inl (0, [(rf n0 10), (rf n0 11), (rf n0 12), (rf n0 13), (.int (2 : Int32))]), .inr (.int, [(.int p0), (.int p1)]), .inr (.int, [(.int p1), (.int p2)]), .inr (.long, [(.long p3), (.long p4)]), .inr (.long, [(.long p4), (.long p3)]), .inl (0, [(rf n0 15), (rf n0 16), (rf n0 17), (rf n0 18), (.int (1 : Int32))]), .inr (.int, [(.int (own_selI I0 p0 p1)), oz, oz, oz]), .inr (.int, [(.int (own_selI I0 p1 p2)), oz, oz, oz]), .inr (.long, [(.long (own_selJ I0 p3 p4)), ol, ol, ol]), .inr (.long, [(.long (own_selJ I0 p4 p3)), ol, ol, ol])]) := by
  refine Met.of (a0 := a0) (ls := #[.val (rf n0 14)]) (kok hw) (plainFor_of_name pn_8) (fun m => by first | (simp [entryFrame, mkF, argsToLocals, Value.category]; done) | rfl) (fun G H => ?_)
  refine H.aloadN s8_0 rfl rfl ?_
  refine H.getfield s8_1 (k_12 hw) (i := 14) rfl rfl ?_
  exact H.areturn s8_4 rfl rfl rfl rfl ⟨rfl, rfl⟩ (by decide) (by decide)


set_option maxRecDepth 65536 in
set_option maxHeartbeats 40000000 in
theorem a_23 (l : Launch) {Z : State} {a0 : Array Value} (hw : HW1 Z a0) (n0 : Nat) (p0 : Int32) (p1 : Int32) (p2 : Int32) (p3 : Int64) (p4 : Int64) (i0 : Int32) (I0 : Nat) : Met l Z KT n0 y9 prog_15_method_8_code 1 (some (.array .long)) ({ frames := 0, cells := 0, slots := 0, locals := 0 } : Room) #[(rf n0 14)] [.inr (.int, [(.int i0)]), .inr (.int, [(.int p0), (.int p1)]), .inr (.int, [(.int p1), (.int p2)]), .inr (.long, [(.long p3), (.long p4)]), .inr (.long, [(.long p4), (.long p3)]), .inr (.int, [(.int (own_selI I0 p0 p1)), oz, oz, oz]), .inr (.int, [(.int (own_selI I0 p1 p2)), oz, oz, oz]), .inr (.long, [(.long (own_selJ I0 p3 p4)), ol, ol, ol]), .inr (.long, [(.long (own_selJ I0 p4 p3)), ol, ol, ol]), .inl (0, [(rf n0 10), (rf n0 11), (rf n0 12), (rf n0 13), (.int (2 : Int32))]), .inr (.int, [(.int p0), (.int p1)]), .inr (.int, [(.int p1), (.int p2)]), .inr (.long, [(.long p3), (.long p4)]), .inr (.long, [(.long p4), (.long p3)]), .inl (0, [(rf n0 15), (rf n0 16), (rf n0 17), (rf n0 18), (.int (1 : Int32))]), .inr (.int, [(.int (own_selI I0 p0 p1)), oz, oz, oz]), .inr (.int, [(.int (own_selI I0 p1 p2)), oz, oz, oz]), .inr (.long, [(.long (own_selJ I0 p3 p4)), ol, ol, ol]), .inr (.long, [(.long (own_selJ I0 p4 p3)), ol, ol, ol])] (Is (some (rf n0 17)) [.inr (.int, [(.int i0)]), .inr (.int, [(.int p0), (.int p1)]), .inr (.int, [(.int p1), (.int p2)]), .inr (.long, [(.long p3), (.long p4)]), .inr (.long, [(.long p4), (.long p3)]), .inr (.int, [(.int (own_selI I0 p0 p1)), oz, oz, oz]), .inr (.int, [(.int (own_selI I0 p1 p2)), oz, oz, oz]), .inr (.long, [(.long (own_selJ I0 p3 p4)), ol, ol, ol]), .inr (.long, [(.long (own_selJ I0 p4 p3)), ol, ol, ol]), .inl (0, [(rf n0 10), (rf n0 11), (rf n0 12), (rf n0 13), (.int (2 : Int32))]), .inr (.int, [(.int p0), (.int p1)]), .inr (.int, [(.int p1), (.int p2)]), .inr (.long, [(.long p3), (.long p4)]), .inr (.long, [(.long p4), (.long p3)]), .inl (0, [(rf n0 15), (rf n0 16), (rf n0 17), (rf n0 18), (.int (1 : Int32))]), .inr (.int, [(.int (own_selI I0 p0 p1)), oz, oz, oz]), .inr (.int, [(.int (own_selI I0 p1 p2)), oz, oz, oz]), .inr (.long, [(.long (own_selJ I0 p3 p4)), ol, ol, ol]), .inr (.long, [(.long (own_selJ I0 p4 p3)), ol, ol, ol])]) := by
  refine Met.of (a0 := a0) (ls := #[.val (rf n0 14)]) (kok hw) (plainFor_of_name pn_8) (fun m => by first | (simp [entryFrame, mkF, argsToLocals, Value.category]; done) | rfl) (fun G H => ?_)
  refine H.aloadN s9_0 rfl rfl ?_
  refine H.getfield s9_1 (k_13 hw) (i := 14) rfl rfl ?_
  exact H.areturn s9_4 rfl rfl rfl rfl ⟨rfl, rfl⟩ (by decide) (by decide)


set_option maxRecDepth 65536 in
set_option maxHeartbeats 40000000 in
theorem a_24 (l : Launch) {Z : State} {a0 : Array Value} (hw : HW1 Z a0) (n0 : Nat) (p0 : Int32) (p1 : Int32) (p2 : Int32) (p3 : Int64) (p4 : Int64) (i0 : Int32) (I0 : Nat) : Met l Z KT n0 y10 prog_15_method_9_code 1 (some (.array .long)) ({ frames := 0, cells := 0, slots := 0, locals := 0 } : Room) #[(rf n0 14)] [.inr (.int, [(.int i0)]), .inr (.int, [(.int p0), (.int p1)]), .inr (.int, [(.int p1), (.int p2)]), .inr (.long, [(.long p3), (.long p4)]), .inr (.long, [(.long p4), (.long p3)]), .inr (.int, [(.int (own_selI I0 p0 p1)), oz, oz, oz]), .inr (.int, [(.int (own_selI I0 p1 p2)), oz, oz, oz]), .inr (.long, [(.long (own_selJ I0 p3 p4)), ol, ol, ol]), .inr (.long, [(.long (own_selJ I0 p4 p3)), ol, ol, ol]), .inl (0, [(rf n0 10), (rf n0 11), (rf n0 12), (rf n0 13), (.int (2 : Int32))]), .inr (.int, [(.int p0), (.int p1)]), .inr (.int, [(.int p1), (.int p2)]), .inr (.long, [(.long p3), (.long p4)]), .inr (.long, [(.long p4), (.long p3)]), .inl (0, [(rf n0 15), (rf n0 16), (rf n0 17), (rf n0 18), (.int (1 : Int32))]), .inr (.int, [(.int (own_selI I0 p0 p1)), oz, oz, oz]), .inr (.int, [(.int (own_selI I0 p1 p2)), oz, oz, oz]), .inr (.long, [(.long (own_selJ I0 p3 p4)), ol, ol, ol]), .inr (.long, [(.long (own_selJ I0 p4 p3)), ol, ol, ol])] (Is (some (rf n0 18)) [.inr (.int, [(.int i0)]), .inr (.int, [(.int p0), (.int p1)]), .inr (.int, [(.int p1), (.int p2)]), .inr (.long, [(.long p3), (.long p4)]), .inr (.long, [(.long p4), (.long p3)]), .inr (.int, [(.int (own_selI I0 p0 p1)), oz, oz, oz]), .inr (.int, [(.int (own_selI I0 p1 p2)), oz, oz, oz]), .inr (.long, [(.long (own_selJ I0 p3 p4)), ol, ol, ol]), .inr (.long, [(.long (own_selJ I0 p4 p3)), ol, ol, ol]), .inl (0, [(rf n0 10), (rf n0 11), (rf n0 12), (rf n0 13), (.int (2 : Int32))]), .inr (.int, [(.int p0), (.int p1)]), .inr (.int, [(.int p1), (.int p2)]), .inr (.long, [(.long p3), (.long p4)]), .inr (.long, [(.long p4), (.long p3)]), .inl (0, [(rf n0 15), (rf n0 16), (rf n0 17), (rf n0 18), (.int (1 : Int32))]), .inr (.int, [(.int (own_selI I0 p0 p1)), oz, oz, oz]), .inr (.int, [(.int (own_selI I0 p1 p2)), oz, oz, oz]), .inr (.long, [(.long (own_selJ I0 p3 p4)), ol, ol, ol]), .inr (.long, [(.long (own_selJ I0 p4 p3)), ol, ol, ol])]) := by
  refine Met.of (a0 := a0) (ls := #[.val (rf n0 14)]) (kok hw) (plainFor_of_name pn_8) (fun m => by first | (simp [entryFrame, mkF, argsToLocals, Value.category]; done) | rfl) (fun G H => ?_)
  refine H.aloadN s10_0 rfl rfl ?_
  refine H.getfield s10_1 (k_14 hw) (i := 14) rfl rfl ?_
  exact H.areturn s10_4 rfl rfl rfl rfl ⟨rfl, rfl⟩ (by decide) (by decide)


set_option maxRecDepth 65536 in
set_option maxHeartbeats 40000000 in
theorem a_25 (l : Launch) {Z : State} {a0 : Array Value} (hw : HW1 Z a0) (n0 : Nat) (p0 : Int32) (p1 : Int32) (p2 : Int32) (p3 : Int64) (p4 : Int64) (i0 : Int32) (I0 : Nat) : Met l Z KT n0 y11 method_4_code 2 (some .boolean) ({ frames := 0, cells := 0, slots := 0, locals := 0 } : Room) #[(rf n0 15), (rf n0 5)] [.inr (.int, [(.int i0)]), .inr (.int, [(.int p0), (.int p1)]), .inr (.int, [(.int p1), (.int p2)]), .inr (.long, [(.long p3), (.long p4)]), .inr (.long, [(.long p4), (.long p3)]), .inr (.int, [(.int (own_selI I0 p0 p1)), oz, oz, oz]), .inr (.int, [(.int (own_selI I0 p1 p2)), oz, oz, oz]), .inr (.long, [(.long (own_selJ I0 p3 p4)), ol, ol, ol]), .inr (.long, [(.long (own_selJ I0 p4 p3)), ol, ol, ol]), .inl (0, [(rf n0 10), (rf n0 11), (rf n0 12), (rf n0 13), (.int (2 : Int32))]), .inr (.int, [(.int p0), (.int p1)]), .inr (.int, [(.int p1), (.int p2)]), .inr (.long, [(.long p3), (.long p4)]), .inr (.long, [(.long p4), (.long p3)]), .inl (0, [(rf n0 15), (rf n0 16), (rf n0 17), (rf n0 18), (.int (1 : Int32))]), .inr (.int, [(.int (own_selI I0 p0 p1)), oz, oz, oz]), .inr (.int, [(.int (own_selI I0 p1 p2)), oz, oz, oz]), .inr (.long, [(.long (own_selJ I0 p3 p4)), ol, ol, ol]), .inr (.long, [(.long (own_selJ I0 p4 p3)), ol, ol, ol])] (Is (some (.int (1 : Int32))) [.inr (.int, [(.int i0)]), .inr (.int, [(.int p0), (.int p1)]), .inr (.int, [(.int p1), (.int p2)]), .inr (.long, [(.long p3), (.long p4)]), .inr (.long, [(.long p4), (.long p3)]), .inr (.int, [(.int (own_selI I0 p0 p1)), oz, oz, oz]), .inr (.int, [(.int (own_selI I0 p1 p2)), oz, oz, oz]), .inr (.long, [(.long (own_selJ I0 p3 p4)), ol, ol, ol]), .inr (.long, [(.long (own_selJ I0 p4 p3)), ol, ol, ol]), .inl (0, [(rf n0 10), (rf n0 11), (rf n0 12), (rf n0 13), (.int (2 : Int32))]), .inr (.int, [(.int p0), (.int p1)]), .inr (.int, [(.int p1), (.int p2)]), .inr (.long, [(.long p3), (.long p4)]), .inr (.long, [(.long p4), (.long p3)]), .inl (0, [(rf n0 15), (rf n0 16), (rf n0 17), (rf n0 18), (.int (1 : Int32))]), .inr (.int, [(.int (own_selI I0 p0 p1)), oz, oz, oz]), .inr (.int, [(.int (own_selI I0 p1 p2)), oz, oz, oz]), .inr (.long, [(.long (own_selJ I0 p3 p4)), ol, ol, ol]), .inr (.long, [(.long (own_selJ I0 p4 p3)), ol, ol, ol])]) := by
  refine Met.of (a0 := a0) (ls := #[.val (rf n0 15), .val (rf n0 5)]) (kok hw) (plainFor_of_name pn_24) (fun m => by first | (simp [entryFrame, mkF, argsToLocals, Value.category]; done) | rfl) (fun G H => ?_)
  refine H.aloadN s11_0 rfl rfl ?_
  refine H.arraylength s11_1 (i := 15) rfl (z := (4 : Int32)) rfl ?_
  refine H.iconst s11_2 (v := (4 : Int32)) (by decide) ?_
  refine H.icmpF s11_3 (show (4 : Int32) = (4 : Int32) by decide) ?_
  refine H.aloadN s11_6 rfl rfl ?_
  refine H.iconst s11_7 (v := (0 : Int32)) (by decide) ?_
  refine H.iaload s11_8 (i := 15) (j := 0) rfl (by decide) (v := (.int (own_selI I0 p0 p1))) rfl ?_
  refine H.aloadN s11_9 rfl rfl ?_
  refine H.iconst s11_10 (v := (0 : Int32)) (by decide) ?_
  refine H.iaload s11_11 (i := 5) (j := 0) rfl (by decide) (v := (.int (own_selI I0 p0 p1))) rfl ?_
  refine H.icmpF s11_12 rfl ?_
  refine H.aloadN s11_15 rfl rfl ?_
  refine H.iconst s11_16 (v := (1 : Int32)) (by decide) ?_
  refine H.iaload s11_17 (i := 15) (j := 1) rfl (by decide) (v := oz) rfl ?_
  refine H.aloadN s11_18 rfl rfl ?_
  refine H.iconst s11_19 (v := (1 : Int32)) (by decide) ?_
  refine H.iaload s11_20 (i := 5) (j := 1) rfl (by decide) (v := oz) rfl ?_
  refine H.icmpF s11_21 (show (0 : Int32) = (0 : Int32) by decide) ?_
  refine H.aloadN s11_24 rfl rfl ?_
  refine H.iconst s11_25 (v := (2 : Int32)) (by decide) ?_
  refine H.iaload s11_26 (i := 15) (j := 2) rfl (by decide) (v := oz) rfl ?_
  refine H.aloadN s11_27 rfl rfl ?_
  refine H.iconst s11_28 (v := (2 : Int32)) (by decide) ?_
  refine H.iaload s11_29 (i := 5) (j := 2) rfl (by decide) (v := oz) rfl ?_
  refine H.icmpF s11_30 (show (0 : Int32) = (0 : Int32) by decide) ?_
  refine H.aloadN s11_33 rfl rfl ?_
  refine H.iconst s11_34 (v := (3 : Int32)) (by decide) ?_
  refine H.iaload s11_35 (i := 15) (j := 3) rfl (by decide) (v := oz) rfl ?_
  refine H.aloadN s11_36 rfl rfl ?_
  refine H.iconst s11_37 (v := (3 : Int32)) (by decide) ?_
  refine H.iaload s11_38 (i := 5) (j := 3) rfl (by decide) (v := oz) rfl ?_
  refine H.icmpF s11_39 (show (0 : Int32) = (0 : Int32) by decide) ?_
  refine H.iconst s11_42 (v := (1 : Int32)) (by decide) ?_
  refine H.goto s11_43 ?_
  exact H.ireturn s11_47 rfl (by simp) rfl ⟨rfl, rfl⟩ (by decide) (by decide)


set_option maxRecDepth 65536 in
set_option maxHeartbeats 40000000 in
theorem a_26 (l : Launch) {Z : State} {a0 : Array Value} (hw : HW1 Z a0) (n0 : Nat) (p0 : Int32) (p1 : Int32) (p2 : Int32) (p3 : Int64) (p4 : Int64) (i0 : Int32) (I0 : Nat) : Met l Z KT n0 y11 method_4_code 2 (some .boolean) ({ frames := 0, cells := 0, slots := 0, locals := 0 } : Room) #[(rf n0 16), (rf n0 6)] [.inr (.int, [(.int i0)]), .inr (.int, [(.int p0), (.int p1)]), .inr (.int, [(.int p1), (.int p2)]), .inr (.long, [(.long p3), (.long p4)]), .inr (.long, [(.long p4), (.long p3)]), .inr (.int, [(.int (own_selI I0 p0 p1)), oz, oz, oz]), .inr (.int, [(.int (own_selI I0 p1 p2)), oz, oz, oz]), .inr (.long, [(.long (own_selJ I0 p3 p4)), ol, ol, ol]), .inr (.long, [(.long (own_selJ I0 p4 p3)), ol, ol, ol]), .inl (0, [(rf n0 10), (rf n0 11), (rf n0 12), (rf n0 13), (.int (2 : Int32))]), .inr (.int, [(.int p0), (.int p1)]), .inr (.int, [(.int p1), (.int p2)]), .inr (.long, [(.long p3), (.long p4)]), .inr (.long, [(.long p4), (.long p3)]), .inl (0, [(rf n0 15), (rf n0 16), (rf n0 17), (rf n0 18), (.int (1 : Int32))]), .inr (.int, [(.int (own_selI I0 p0 p1)), oz, oz, oz]), .inr (.int, [(.int (own_selI I0 p1 p2)), oz, oz, oz]), .inr (.long, [(.long (own_selJ I0 p3 p4)), ol, ol, ol]), .inr (.long, [(.long (own_selJ I0 p4 p3)), ol, ol, ol])] (Is (some (.int (1 : Int32))) [.inr (.int, [(.int i0)]), .inr (.int, [(.int p0), (.int p1)]), .inr (.int, [(.int p1), (.int p2)]), .inr (.long, [(.long p3), (.long p4)]), .inr (.long, [(.long p4), (.long p3)]), .inr (.int, [(.int (own_selI I0 p0 p1)), oz, oz, oz]), .inr (.int, [(.int (own_selI I0 p1 p2)), oz, oz, oz]), .inr (.long, [(.long (own_selJ I0 p3 p4)), ol, ol, ol]), .inr (.long, [(.long (own_selJ I0 p4 p3)), ol, ol, ol]), .inl (0, [(rf n0 10), (rf n0 11), (rf n0 12), (rf n0 13), (.int (2 : Int32))]), .inr (.int, [(.int p0), (.int p1)]), .inr (.int, [(.int p1), (.int p2)]), .inr (.long, [(.long p3), (.long p4)]), .inr (.long, [(.long p4), (.long p3)]), .inl (0, [(rf n0 15), (rf n0 16), (rf n0 17), (rf n0 18), (.int (1 : Int32))]), .inr (.int, [(.int (own_selI I0 p0 p1)), oz, oz, oz]), .inr (.int, [(.int (own_selI I0 p1 p2)), oz, oz, oz]), .inr (.long, [(.long (own_selJ I0 p3 p4)), ol, ol, ol]), .inr (.long, [(.long (own_selJ I0 p4 p3)), ol, ol, ol])]) := by
  refine Met.of (a0 := a0) (ls := #[.val (rf n0 16), .val (rf n0 6)]) (kok hw) (plainFor_of_name pn_24) (fun m => by first | (simp [entryFrame, mkF, argsToLocals, Value.category]; done) | rfl) (fun G H => ?_)
  refine H.aloadN s11_0 rfl rfl ?_
  refine H.arraylength s11_1 (i := 16) rfl (z := (4 : Int32)) rfl ?_
  refine H.iconst s11_2 (v := (4 : Int32)) (by decide) ?_
  refine H.icmpF s11_3 (show (4 : Int32) = (4 : Int32) by decide) ?_
  refine H.aloadN s11_6 rfl rfl ?_
  refine H.iconst s11_7 (v := (0 : Int32)) (by decide) ?_
  refine H.iaload s11_8 (i := 16) (j := 0) rfl (by decide) (v := (.int (own_selI I0 p1 p2))) rfl ?_
  refine H.aloadN s11_9 rfl rfl ?_
  refine H.iconst s11_10 (v := (0 : Int32)) (by decide) ?_
  refine H.iaload s11_11 (i := 6) (j := 0) rfl (by decide) (v := (.int (own_selI I0 p1 p2))) rfl ?_
  refine H.icmpF s11_12 rfl ?_
  refine H.aloadN s11_15 rfl rfl ?_
  refine H.iconst s11_16 (v := (1 : Int32)) (by decide) ?_
  refine H.iaload s11_17 (i := 16) (j := 1) rfl (by decide) (v := oz) rfl ?_
  refine H.aloadN s11_18 rfl rfl ?_
  refine H.iconst s11_19 (v := (1 : Int32)) (by decide) ?_
  refine H.iaload s11_20 (i := 6) (j := 1) rfl (by decide) (v := oz) rfl ?_
  refine H.icmpF s11_21 (show (0 : Int32) = (0 : Int32) by decide) ?_
  refine H.aloadN s11_24 rfl rfl ?_
  refine H.iconst s11_25 (v := (2 : Int32)) (by decide) ?_
  refine H.iaload s11_26 (i := 16) (j := 2) rfl (by decide) (v := oz) rfl ?_
  refine H.aloadN s11_27 rfl rfl ?_
  refine H.iconst s11_28 (v := (2 : Int32)) (by decide) ?_
  refine H.iaload s11_29 (i := 6) (j := 2) rfl (by decide) (v := oz) rfl ?_
  refine H.icmpF s11_30 (show (0 : Int32) = (0 : Int32) by decide) ?_
  refine H.aloadN s11_33 rfl rfl ?_
  refine H.iconst s11_34 (v := (3 : Int32)) (by decide) ?_
  refine H.iaload s11_35 (i := 16) (j := 3) rfl (by decide) (v := oz) rfl ?_
  refine H.aloadN s11_36 rfl rfl ?_
  refine H.iconst s11_37 (v := (3 : Int32)) (by decide) ?_
  refine H.iaload s11_38 (i := 6) (j := 3) rfl (by decide) (v := oz) rfl ?_
  refine H.icmpF s11_39 (show (0 : Int32) = (0 : Int32) by decide) ?_
  refine H.iconst s11_42 (v := (1 : Int32)) (by decide) ?_
  refine H.goto s11_43 ?_
  exact H.ireturn s11_47 rfl (by simp) rfl ⟨rfl, rfl⟩ (by decide) (by decide)


set_option maxRecDepth 65536 in
set_option maxHeartbeats 40000000 in
theorem a_27 (l : Launch) {Z : State} {a0 : Array Value} (hw : HW1 Z a0) (n0 : Nat) (p0 : Int32) (p1 : Int32) (p2 : Int32) (p3 : Int64) (p4 : Int64) (i0 : Int32) (I0 : Nat) : Met l Z KT n0 y12 method_5_code 2 (some .boolean) ({ frames := 0, cells := 0, slots := 0, locals := 0 } : Room) #[(rf n0 17), (rf n0 7)] [.inr (.int, [(.int i0)]), .inr (.int, [(.int p0), (.int p1)]), .inr (.int, [(.int p1), (.int p2)]), .inr (.long, [(.long p3), (.long p4)]), .inr (.long, [(.long p4), (.long p3)]), .inr (.int, [(.int (own_selI I0 p0 p1)), oz, oz, oz]), .inr (.int, [(.int (own_selI I0 p1 p2)), oz, oz, oz]), .inr (.long, [(.long (own_selJ I0 p3 p4)), ol, ol, ol]), .inr (.long, [(.long (own_selJ I0 p4 p3)), ol, ol, ol]), .inl (0, [(rf n0 10), (rf n0 11), (rf n0 12), (rf n0 13), (.int (2 : Int32))]), .inr (.int, [(.int p0), (.int p1)]), .inr (.int, [(.int p1), (.int p2)]), .inr (.long, [(.long p3), (.long p4)]), .inr (.long, [(.long p4), (.long p3)]), .inl (0, [(rf n0 15), (rf n0 16), (rf n0 17), (rf n0 18), (.int (1 : Int32))]), .inr (.int, [(.int (own_selI I0 p0 p1)), oz, oz, oz]), .inr (.int, [(.int (own_selI I0 p1 p2)), oz, oz, oz]), .inr (.long, [(.long (own_selJ I0 p3 p4)), ol, ol, ol]), .inr (.long, [(.long (own_selJ I0 p4 p3)), ol, ol, ol])] (Is (some (.int (1 : Int32))) [.inr (.int, [(.int i0)]), .inr (.int, [(.int p0), (.int p1)]), .inr (.int, [(.int p1), (.int p2)]), .inr (.long, [(.long p3), (.long p4)]), .inr (.long, [(.long p4), (.long p3)]), .inr (.int, [(.int (own_selI I0 p0 p1)), oz, oz, oz]), .inr (.int, [(.int (own_selI I0 p1 p2)), oz, oz, oz]), .inr (.long, [(.long (own_selJ I0 p3 p4)), ol, ol, ol]), .inr (.long, [(.long (own_selJ I0 p4 p3)), ol, ol, ol]), .inl (0, [(rf n0 10), (rf n0 11), (rf n0 12), (rf n0 13), (.int (2 : Int32))]), .inr (.int, [(.int p0), (.int p1)]), .inr (.int, [(.int p1), (.int p2)]), .inr (.long, [(.long p3), (.long p4)]), .inr (.long, [(.long p4), (.long p3)]), .inl (0, [(rf n0 15), (rf n0 16), (rf n0 17), (rf n0 18), (.int (1 : Int32))]), .inr (.int, [(.int (own_selI I0 p0 p1)), oz, oz, oz]), .inr (.int, [(.int (own_selI I0 p1 p2)), oz, oz, oz]), .inr (.long, [(.long (own_selJ I0 p3 p4)), ol, ol, ol]), .inr (.long, [(.long (own_selJ I0 p4 p3)), ol, ol, ol])]) := by
  refine Met.of (a0 := a0) (ls := #[.val (rf n0 17), .val (rf n0 7)]) (kok hw) (plainFor_of_name pn_24) (fun m => by first | (simp [entryFrame, mkF, argsToLocals, Value.category]; done) | rfl) (fun G H => ?_)
  refine H.aloadN s12_0 rfl rfl ?_
  refine H.arraylength s12_1 (i := 17) rfl (z := (4 : Int32)) rfl ?_
  refine H.iconst s12_2 (v := (4 : Int32)) (by decide) ?_
  refine H.icmpF s12_3 (show (4 : Int32) = (4 : Int32) by decide) ?_
  refine H.aloadN s12_6 rfl rfl ?_
  refine H.iconst s12_7 (v := (0 : Int32)) (by decide) ?_
  refine H.laload s12_8 (i := 17) (j := 0) rfl (by decide) (v := (.long (own_selJ I0 p3 p4))) rfl ?_
  refine H.aloadN s12_9 rfl rfl ?_
  refine H.iconst s12_10 (v := (0 : Int32)) (by decide) ?_
  refine H.laload s12_11 (i := 7) (j := 0) rfl (by decide) (v := (.long (own_selJ I0 p3 p4))) rfl ?_
  refine H.lifF s12_12 s12_13 rfl ?_
  refine H.aloadN s12_16 rfl rfl ?_
  refine H.iconst s12_17 (v := (1 : Int32)) (by decide) ?_
  refine H.laload s12_18 (i := 17) (j := 1) rfl (by decide) (v := ol) rfl ?_
  refine H.aloadN s12_19 rfl rfl ?_
  refine H.iconst s12_20 (v := (1 : Int32)) (by decide) ?_
  refine H.laload s12_21 (i := 7) (j := 1) rfl (by decide) (v := ol) rfl ?_
  refine H.lifF s12_22 s12_23 (show (0 : Int64) = (0 : Int64) by decide) ?_
  refine H.aloadN s12_26 rfl rfl ?_
  refine H.iconst s12_27 (v := (2 : Int32)) (by decide) ?_
  refine H.laload s12_28 (i := 17) (j := 2) rfl (by decide) (v := ol) rfl ?_
  refine H.aloadN s12_29 rfl rfl ?_
  refine H.iconst s12_30 (v := (2 : Int32)) (by decide) ?_
  refine H.laload s12_31 (i := 7) (j := 2) rfl (by decide) (v := ol) rfl ?_
  refine H.lifF s12_32 s12_33 (show (0 : Int64) = (0 : Int64) by decide) ?_
  refine H.aloadN s12_36 rfl rfl ?_
  refine H.iconst s12_37 (v := (3 : Int32)) (by decide) ?_
  refine H.laload s12_38 (i := 17) (j := 3) rfl (by decide) (v := ol) rfl ?_
  refine H.aloadN s12_39 rfl rfl ?_
  refine H.iconst s12_40 (v := (3 : Int32)) (by decide) ?_
  refine H.laload s12_41 (i := 7) (j := 3) rfl (by decide) (v := ol) rfl ?_
  refine H.lifF s12_42 s12_43 (show (0 : Int64) = (0 : Int64) by decide) ?_
  refine H.iconst s12_46 (v := (1 : Int32)) (by decide) ?_
  refine H.goto s12_47 ?_
  exact H.ireturn s12_51 rfl (by simp) rfl ⟨rfl, rfl⟩ (by decide) (by decide)


set_option maxRecDepth 65536 in
set_option maxHeartbeats 40000000 in
theorem a_28 (l : Launch) {Z : State} {a0 : Array Value} (hw : HW1 Z a0) (n0 : Nat) (p0 : Int32) (p1 : Int32) (p2 : Int32) (p3 : Int64) (p4 : Int64) (i0 : Int32) (I0 : Nat) : Met l Z KT n0 y12 method_5_code 2 (some .boolean) ({ frames := 0, cells := 0, slots := 0, locals := 0 } : Room) #[(rf n0 18), (rf n0 8)] [.inr (.int, [(.int i0)]), .inr (.int, [(.int p0), (.int p1)]), .inr (.int, [(.int p1), (.int p2)]), .inr (.long, [(.long p3), (.long p4)]), .inr (.long, [(.long p4), (.long p3)]), .inr (.int, [(.int (own_selI I0 p0 p1)), oz, oz, oz]), .inr (.int, [(.int (own_selI I0 p1 p2)), oz, oz, oz]), .inr (.long, [(.long (own_selJ I0 p3 p4)), ol, ol, ol]), .inr (.long, [(.long (own_selJ I0 p4 p3)), ol, ol, ol]), .inl (0, [(rf n0 10), (rf n0 11), (rf n0 12), (rf n0 13), (.int (2 : Int32))]), .inr (.int, [(.int p0), (.int p1)]), .inr (.int, [(.int p1), (.int p2)]), .inr (.long, [(.long p3), (.long p4)]), .inr (.long, [(.long p4), (.long p3)]), .inl (0, [(rf n0 15), (rf n0 16), (rf n0 17), (rf n0 18), (.int (1 : Int32))]), .inr (.int, [(.int (own_selI I0 p0 p1)), oz, oz, oz]), .inr (.int, [(.int (own_selI I0 p1 p2)), oz, oz, oz]), .inr (.long, [(.long (own_selJ I0 p3 p4)), ol, ol, ol]), .inr (.long, [(.long (own_selJ I0 p4 p3)), ol, ol, ol])] (Is (some (.int (1 : Int32))) [.inr (.int, [(.int i0)]), .inr (.int, [(.int p0), (.int p1)]), .inr (.int, [(.int p1), (.int p2)]), .inr (.long, [(.long p3), (.long p4)]), .inr (.long, [(.long p4), (.long p3)]), .inr (.int, [(.int (own_selI I0 p0 p1)), oz, oz, oz]), .inr (.int, [(.int (own_selI I0 p1 p2)), oz, oz, oz]), .inr (.long, [(.long (own_selJ I0 p3 p4)), ol, ol, ol]), .inr (.long, [(.long (own_selJ I0 p4 p3)), ol, ol, ol]), .inl (0, [(rf n0 10), (rf n0 11), (rf n0 12), (rf n0 13), (.int (2 : Int32))]), .inr (.int, [(.int p0), (.int p1)]), .inr (.int, [(.int p1), (.int p2)]), .inr (.long, [(.long p3), (.long p4)]), .inr (.long, [(.long p4), (.long p3)]), .inl (0, [(rf n0 15), (rf n0 16), (rf n0 17), (rf n0 18), (.int (1 : Int32))]), .inr (.int, [(.int (own_selI I0 p0 p1)), oz, oz, oz]), .inr (.int, [(.int (own_selI I0 p1 p2)), oz, oz, oz]), .inr (.long, [(.long (own_selJ I0 p3 p4)), ol, ol, ol]), .inr (.long, [(.long (own_selJ I0 p4 p3)), ol, ol, ol])]) := by
  refine Met.of (a0 := a0) (ls := #[.val (rf n0 18), .val (rf n0 8)]) (kok hw) (plainFor_of_name pn_24) (fun m => by first | (simp [entryFrame, mkF, argsToLocals, Value.category]; done) | rfl) (fun G H => ?_)
  refine H.aloadN s12_0 rfl rfl ?_
  refine H.arraylength s12_1 (i := 18) rfl (z := (4 : Int32)) rfl ?_
  refine H.iconst s12_2 (v := (4 : Int32)) (by decide) ?_
  refine H.icmpF s12_3 (show (4 : Int32) = (4 : Int32) by decide) ?_
  refine H.aloadN s12_6 rfl rfl ?_
  refine H.iconst s12_7 (v := (0 : Int32)) (by decide) ?_
  refine H.laload s12_8 (i := 18) (j := 0) rfl (by decide) (v := (.long (own_selJ I0 p4 p3))) rfl ?_
  refine H.aloadN s12_9 rfl rfl ?_
  refine H.iconst s12_10 (v := (0 : Int32)) (by decide) ?_
  refine H.laload s12_11 (i := 8) (j := 0) rfl (by decide) (v := (.long (own_selJ I0 p4 p3))) rfl ?_
  refine H.lifF s12_12 s12_13 rfl ?_
  refine H.aloadN s12_16 rfl rfl ?_
  refine H.iconst s12_17 (v := (1 : Int32)) (by decide) ?_
  refine H.laload s12_18 (i := 18) (j := 1) rfl (by decide) (v := ol) rfl ?_
  refine H.aloadN s12_19 rfl rfl ?_
  refine H.iconst s12_20 (v := (1 : Int32)) (by decide) ?_
  refine H.laload s12_21 (i := 8) (j := 1) rfl (by decide) (v := ol) rfl ?_
  refine H.lifF s12_22 s12_23 (show (0 : Int64) = (0 : Int64) by decide) ?_
  refine H.aloadN s12_26 rfl rfl ?_
  refine H.iconst s12_27 (v := (2 : Int32)) (by decide) ?_
  refine H.laload s12_28 (i := 18) (j := 2) rfl (by decide) (v := ol) rfl ?_
  refine H.aloadN s12_29 rfl rfl ?_
  refine H.iconst s12_30 (v := (2 : Int32)) (by decide) ?_
  refine H.laload s12_31 (i := 8) (j := 2) rfl (by decide) (v := ol) rfl ?_
  refine H.lifF s12_32 s12_33 (show (0 : Int64) = (0 : Int64) by decide) ?_
  refine H.aloadN s12_36 rfl rfl ?_
  refine H.iconst s12_37 (v := (3 : Int32)) (by decide) ?_
  refine H.laload s12_38 (i := 18) (j := 3) rfl (by decide) (v := ol) rfl ?_
  refine H.aloadN s12_39 rfl rfl ?_
  refine H.iconst s12_40 (v := (3 : Int32)) (by decide) ?_
  refine H.laload s12_41 (i := 8) (j := 3) rfl (by decide) (v := ol) rfl ?_
  refine H.lifF s12_42 s12_43 (show (0 : Int64) = (0 : Int64) by decide) ?_
  refine H.iconst s12_46 (v := (1 : Int32)) (by decide) ?_
  refine H.goto s12_47 ?_
  exact H.ireturn s12_51 rfl (by simp) rfl ⟨rfl, rfl⟩ (by decide) (by decide)

theorem s0_70 : Nx code 70 (.iload 9) 2 72 := ⟨at_70, rfl⟩
theorem s0_72 : Nx code 72 (.iconst 2) 1 73 := ⟨at_72, rfl⟩
theorem s0_73 : Bx code 73 (.if_icmp .ne) 94 76 := ⟨(21), at_73, by decide, by decide, rfl⟩
theorem s0_76 : Nx code 76 (.iconst 2) 1 77 := ⟨at_76, rfl⟩
theorem s0_77 : Nx code 77 (.newarray .int) 2 79 := ⟨at_77, rfl⟩
theorem s0_79 : Nx code 79 (.dup) 1 80 := ⟨at_79, rfl⟩
theorem s0_80 : Nx code 80 (.iconst 0) 1 81 := ⟨at_80, rfl⟩
theorem s0_81 : Nx code 81 (.iload 10) 2 83 := ⟨at_81, rfl⟩
theorem s0_83 : Nx code 83 (.iastore) 1 84 := ⟨at_83, rfl⟩
theorem s0_84 : Nx code 84 (.dup) 1 85 := ⟨at_84, rfl⟩
theorem s0_85 : Nx code 85 (.iconst 1) 1 86 := ⟨at_85, rfl⟩
theorem s0_86 : Nx code 86 (.iload 11) 2 88 := ⟨at_86, rfl⟩
theorem s0_88 : Nx code 88 (.iastore) 1 89 := ⟨at_88, rfl⟩
theorem s0_89 : Nx code 89 (.astore 13) 2 91 := ⟨at_89, rfl⟩
theorem s0_91 : Bx code 91 (.goto) 114 94 := ⟨(23), at_91, by decide, by decide, rfl⟩
set_option maxRecDepth 65536 in
set_option maxHeartbeats 40000000 in
theorem a_29 (l : Launch) {Z : State} {a0 : Array Value} (hw : HW1 Z a0) (n0 : Nat) (p0 : Int32) (p1 : Int32) (p2 : Int32) (p3 : Int64) (p4 : Int64) (i0 : Int32) (i1 : Int32) {I0 : Nat} (hI0 : i0.toInt = (I0 : Int)) (lI0 : I0 < 2) {I1 : Nat} (hI1 : i1.toInt = (I1 : Int)) (lI1 : I1 < 2) : Met l Z KT n0 y1 method_3_code 10 none ({ frames := 0, cells := 0, slots := 0, locals := 0 } : Room) #[(rf n0 5), (rf n0 6), (rf n0 7), (rf n0 8), oz, (.int i0), (rf n0 1), (rf n0 2), (rf n0 3), (rf n0 4)] [.inr (.int, [(.int i0), (.int i1)]), .inr (.int, [(.int p0), (.int p1)]), .inr (.int, [(.int p1), (.int p2)]), .inr (.long, [(.long p3), (.long p4)]), .inr (.long, [(.long p4), (.long p3)]), .inr (.int, [oz, oz, oz, oz]), .inr (.int, [oz, oz, oz, oz]), .inr (.long, [ol, ol, ol, ol]), .inr (.long, [ol, ol, ol, ol])] (Is none [.inr (.int, [(.int i0), (.int i1)]), .inr (.int, [(.int p0), (.int p1)]), .inr (.int, [(.int p1), (.int p2)]), .inr (.long, [(.long p3), (.long p4)]), .inr (.long, [(.long p4), (.long p3)]), .inr (.int, [(.int (own_selI I0 p0 p1)), oz, oz, oz]), .inr (.int, [(.int (own_selI I0 p1 p2)), oz, oz, oz]), .inr (.long, [(.long (own_selJ I0 p3 p4)), ol, ol, ol]), .inr (.long, [(.long (own_selJ I0 p4 p3)), ol, ol, ol])]) := by
  refine Met.of (a0 := a0) (ls := #[.val (rf n0 5), .val (rf n0 6), .val (rf n0 7), .val (rf n0 8), .val oz, .val (.int i0), .val (rf n0 1), .val (rf n0 2), .val (rf n0 3), .val (rf n0 4)]) (kok hw) (plainFor_of_name pn_24) (fun m => by first | (simp [entryFrame, mkF, argsToLocals, Value.category]; done) | rfl) (fun G H => ?_)
  refine H.aloadN s1_0 rfl rfl ?_
  refine H.iload s1_1 rfl ?_
  refine H.aload s1_3 rfl rfl ?_
  refine H.iload s1_5 rfl ?_
  refine H.iaload s1_7 (i := 1) (j := I0) rfl hI0 (v := (.int (own_selI I0 p0 p1))) (own_gI lI0) ?_
  refine H.iastore s1_8 (i := 5) (j := 0) rfl (by decide) (ltb rfl)  rfl ?_
  refine H.aloadN s1_9 rfl rfl ?_
  refine H.iload s1_10 rfl ?_
  refine H.aload s1_12 rfl rfl ?_
  refine H.iload s1_14 rfl ?_
  refine H.iaload s1_16 (i := 2) (j := I0) rfl hI0 (v := (.int (own_selI I0 p1 p2))) (own_gI lI0) ?_
  refine H.iastore s1_17 (i := 6) (j := 0) rfl (by decide) (ltb rfl)  rfl ?_
  refine H.aloadN s1_18 rfl rfl ?_
  refine H.iload s1_19 rfl ?_
  refine H.aload s1_21 rfl rfl ?_
  refine H.iload s1_23 rfl ?_
  refine H.laload s1_25 (i := 3) (j := I0) rfl hI0 (v := (.long (own_selJ I0 p3 p4))) (own_gJ lI0) ?_
  refine H.lastore s1_26 (i := 7) (j := 0) rfl (by decide) (ltb rfl)  rfl ?_
  refine H.aloadN s1_27 rfl rfl ?_
  refine H.iload s1_28 rfl ?_
  refine H.aload s1_30 rfl rfl ?_
  refine H.iload s1_32 rfl ?_
  refine H.laload s1_34 (i := 4) (j := I0) rfl hI0 (v := (.long (own_selJ I0 p4 p3))) (own_gJ lI0) ?_
  refine H.lastore s1_35 (i := 8) (j := 0) rfl (by decide) (ltb rfl)  rfl ?_
  exact H.vreturn s1_36 rfl ⟨rfl, rfl⟩ (by decide) (by decide)

theorem s0_258 : Nx code 258 (.aload 18) 2 260 := ⟨at_258, rfl⟩
theorem s0_260 : Nx code 260 (.aload 19) 2 262 := ⟨at_260, rfl⟩
theorem s0_262 : Nx code 262 (.aload 20) 2 264 := ⟨at_262, rfl⟩
theorem s0_264 : Nx code 264 (.aload 21) 2 266 := ⟨at_264, rfl⟩
theorem s0_266 : Nx code 266 (.iload 8) 2 268 := ⟨at_266, rfl⟩
theorem s0_268 : Nx code 268 (.iconst 1) 1 269 := ⟨at_268, rfl⟩
theorem s0_269 : Nx code 269 (.iadd) 1 270 := ⟨at_269, rfl⟩
theorem s0_270 : Nx code 270 (.iload 11) 2 272 := ⟨at_270, rfl⟩
theorem s0_272 : Nx code 272 (.aload 14) 2 274 := ⟨at_272, rfl⟩
theorem s0_274 : Nx code 274 (.aload 15) 2 276 := ⟨at_274, rfl⟩
theorem s0_276 : Nx code 276 (.aload 16) 2 278 := ⟨at_276, rfl⟩
theorem s0_278 : Nx code 278 (.aload 17) 2 280 := ⟨at_278, rfl⟩
theorem s0_280 : Nx code 280 (.invokestatic 9) 3 283 := ⟨at_280, rfl⟩
set_option maxRecDepth 65536 in
set_option maxHeartbeats 40000000 in
theorem a_30 (l : Launch) {Z : State} {a0 : Array Value} (hw : HW1 Z a0) (n0 : Nat) (p0 : Int32) (p1 : Int32) (p2 : Int32) (p3 : Int64) (p4 : Int64) (i0 : Int32) (i1 : Int32) (I0 : Nat) (hI0 : i0.toInt = (I0 : Int)) (lI0 : I0 < 2) {I1 : Nat} (hI1 : i1.toInt = (I1 : Int)) (lI1 : I1 < 2) : Met l Z KT n0 y1 method_3_code 10 none ({ frames := 0, cells := 0, slots := 0, locals := 0 } : Room) #[(rf n0 5), (rf n0 6), (rf n0 7), (rf n0 8), (.int (1 : Int32)), (.int i1), (rf n0 1), (rf n0 2), (rf n0 3), (rf n0 4)] [.inr (.int, [(.int i0), (.int i1)]), .inr (.int, [(.int p0), (.int p1)]), .inr (.int, [(.int p1), (.int p2)]), .inr (.long, [(.long p3), (.long p4)]), .inr (.long, [(.long p4), (.long p3)]), .inr (.int, [(.int (own_selI I0 p0 p1)), oz, oz, oz]), .inr (.int, [(.int (own_selI I0 p1 p2)), oz, oz, oz]), .inr (.long, [(.long (own_selJ I0 p3 p4)), ol, ol, ol]), .inr (.long, [(.long (own_selJ I0 p4 p3)), ol, ol, ol])] (Is none [.inr (.int, [(.int i0), (.int i1)]), .inr (.int, [(.int p0), (.int p1)]), .inr (.int, [(.int p1), (.int p2)]), .inr (.long, [(.long p3), (.long p4)]), .inr (.long, [(.long p4), (.long p3)]), .inr (.int, [(.int (own_selI I0 p0 p1)), (.int (own_selI I1 p0 p1)), oz, oz]), .inr (.int, [(.int (own_selI I0 p1 p2)), (.int (own_selI I1 p1 p2)), oz, oz]), .inr (.long, [(.long (own_selJ I0 p3 p4)), (.long (own_selJ I1 p3 p4)), ol, ol]), .inr (.long, [(.long (own_selJ I0 p4 p3)), (.long (own_selJ I1 p4 p3)), ol, ol])]) := by
  refine Met.of (a0 := a0) (ls := #[.val (rf n0 5), .val (rf n0 6), .val (rf n0 7), .val (rf n0 8), .val (.int (1 : Int32)), .val (.int i1), .val (rf n0 1), .val (rf n0 2), .val (rf n0 3), .val (rf n0 4)]) (kok hw) (plainFor_of_name pn_24) (fun m => by first | (simp [entryFrame, mkF, argsToLocals, Value.category]; done) | rfl) (fun G H => ?_)
  refine H.aloadN s1_0 rfl rfl ?_
  refine H.iload s1_1 rfl ?_
  refine H.aload s1_3 rfl rfl ?_
  refine H.iload s1_5 rfl ?_
  refine H.iaload s1_7 (i := 1) (j := I1) rfl hI1 (v := (.int (own_selI I1 p0 p1))) (own_gI lI1) ?_
  refine H.iastore s1_8 (i := 5) (j := 1) rfl (by decide) (ltb rfl)  rfl ?_
  refine H.aloadN s1_9 rfl rfl ?_
  refine H.iload s1_10 rfl ?_
  refine H.aload s1_12 rfl rfl ?_
  refine H.iload s1_14 rfl ?_
  refine H.iaload s1_16 (i := 2) (j := I1) rfl hI1 (v := (.int (own_selI I1 p1 p2))) (own_gI lI1) ?_
  refine H.iastore s1_17 (i := 6) (j := 1) rfl (by decide) (ltb rfl)  rfl ?_
  refine H.aloadN s1_18 rfl rfl ?_
  refine H.iload s1_19 rfl ?_
  refine H.aload s1_21 rfl rfl ?_
  refine H.iload s1_23 rfl ?_
  refine H.laload s1_25 (i := 3) (j := I1) rfl hI1 (v := (.long (own_selJ I1 p3 p4))) (own_gJ lI1) ?_
  refine H.lastore s1_26 (i := 7) (j := 1) rfl (by decide) (ltb rfl)  rfl ?_
  refine H.aloadN s1_27 rfl rfl ?_
  refine H.iload s1_28 rfl ?_
  refine H.aload s1_30 rfl rfl ?_
  refine H.iload s1_32 rfl ?_
  refine H.laload s1_34 (i := 4) (j := I1) rfl hI1 (v := (.long (own_selJ I1 p4 p3))) (own_gJ lI1) ?_
  refine H.lastore s1_35 (i := 8) (j := 1) rfl (by decide) (ltb rfl)  rfl ?_
  exact H.vreturn s1_36 rfl ⟨rfl, rfl⟩ (by decide) (by decide)


set_option maxRecDepth 65536 in
set_option maxHeartbeats 40000000 in
theorem a_31 (l : Launch) {Z : State} {a0 : Array Value} (hw : HW1 Z a0) (n0 : Nat) (p0 : Int32) (p1 : Int32) (p2 : Int32) (p3 : Int64) (p4 : Int64) (i0 : Int32) (i1 : Int32) (I0 : Nat) (I1 : Nat) : Met l Z KT n0 y2 prog_15_method_1_code 2 none ({ frames := 1, cells := 4, slots := 8, locals := 12 } : Room) #[(rf n0 9), (.int (2 : Int32))] [.inr (.int, [(.int i0), (.int i1)]), .inr (.int, [(.int p0), (.int p1)]), .inr (.int, [(.int p1), (.int p2)]), .inr (.long, [(.long p3), (.long p4)]), .inr (.long, [(.long p4), (.long p3)]), .inr (.int, [(.int (own_selI I0 p0 p1)), (.int (own_selI I1 p0 p1)), oz, oz]), .inr (.int, [(.int (own_selI I0 p1 p2)), (.int (own_selI I1 p1 p2)), oz, oz]), .inr (.long, [(.long (own_selJ I0 p3 p4)), (.long (own_selJ I1 p3 p4)), ol, ol]), .inr (.long, [(.long (own_selJ I0 p4 p3)), (.long (own_selJ I1 p4 p3)), ol, ol]), .inl (0, [.null, .null, .null, .null, oz])] (Is none [.inr (.int, [(.int i0), (.int i1)]), .inr (.int, [(.int p0), (.int p1)]), .inr (.int, [(.int p1), (.int p2)]), .inr (.long, [(.long p3), (.long p4)]), .inr (.long, [(.long p4), (.long p3)]), .inr (.int, [(.int (own_selI I0 p0 p1)), (.int (own_selI I1 p0 p1)), oz, oz]), .inr (.int, [(.int (own_selI I0 p1 p2)), (.int (own_selI I1 p1 p2)), oz, oz]), .inr (.long, [(.long (own_selJ I0 p3 p4)), (.long (own_selJ I1 p3 p4)), ol, ol]), .inr (.long, [(.long (own_selJ I0 p4 p3)), (.long (own_selJ I1 p4 p3)), ol, ol]), .inl (0, [(rf n0 10), (rf n0 11), (rf n0 12), (rf n0 13), oz]), .inr (.int, [oz, oz]), .inr (.int, [oz, oz]), .inr (.long, [ol, ol]), .inr (.long, [ol, ol])]) := by
  refine Met.of (a0 := a0) (ls := #[.val (rf n0 9), .val (.int (2 : Int32))]) (kok hw) (plainFor_of_name pn_8) (fun m => by first | (simp [entryFrame, mkF, argsToLocals, Value.category]; done) | rfl) (fun G H => ?_)
  refine H.aloadN s2_0 rfl rfl ?_
  refine H.initO s2_1 (k_3 hw) rfl (leb rfl) (leb rfl) ?_
  refine H.aloadN s2_4 rfl rfl ?_
  refine H.iloadN s2_5 rfl ?_
  refine H.newarray s2_6 (ty := .int) rfl (k_0 hw) (N := 2) (cap := 2) (by decide) rfl (by decide) (by decide) (by first | rfl | simp) (by decide) (by decide) (i := 10) rfl (A' := [.inr (.int, [(.int i0), (.int i1)]), .inr (.int, [(.int p0), (.int p1)]), .inr (.int, [(.int p1), (.int p2)]), .inr (.long, [(.long p3), (.long p4)]), .inr (.long, [(.long p4), (.long p3)]), .inr (.int, [(.int (own_selI I0 p0 p1)), (.int (own_selI I1 p0 p1)), oz, oz]), .inr (.int, [(.int (own_selI I0 p1 p2)), (.int (own_selI I1 p1 p2)), oz, oz]), .inr (.long, [(.long (own_selJ I0 p3 p4)), (.long (own_selJ I1 p3 p4)), ol, ol]), .inr (.long, [(.long (own_selJ I0 p4 p3)), (.long (own_selJ I1 p4 p3)), ol, ol]), .inl (0, [.null, .null, .null, .null, oz]), .inr (.int, [oz, oz])]) rfl (k' := 1) rfl (n' := 2) rfl ?_
  refine H.putfield s2_8 (k_4 hw) (i := 9) rfl rfl rfl rfl ?_
  refine H.aloadN s2_11 rfl rfl ?_
  refine H.iloadN s2_12 rfl ?_
  refine H.newarray s2_13 (ty := .int) rfl (k_0 hw) (N := 2) (cap := 2) (by decide) rfl (by decide) (by decide) (by first | rfl | simp) (by decide) (by decide) (i := 11) rfl (A' := [.inr (.int, [(.int i0), (.int i1)]), .inr (.int, [(.int p0), (.int p1)]), .inr (.int, [(.int p1), (.int p2)]), .inr (.long, [(.long p3), (.long p4)]), .inr (.long, [(.long p4), (.long p3)]), .inr (.int, [(.int (own_selI I0 p0 p1)), (.int (own_selI I1 p0 p1)), oz, oz]), .inr (.int, [(.int (own_selI I0 p1 p2)), (.int (own_selI I1 p1 p2)), oz, oz]), .inr (.long, [(.long (own_selJ I0 p3 p4)), (.long (own_selJ I1 p3 p4)), ol, ol]), .inr (.long, [(.long (own_selJ I0 p4 p3)), (.long (own_selJ I1 p4 p3)), ol, ol]), .inl (0, [(rf n0 10), .null, .null, .null, oz]), .inr (.int, [oz, oz]), .inr (.int, [oz, oz])]) rfl (k' := 2) rfl (n' := 4) rfl ?_
  refine H.putfield s2_15 (k_5 hw) (i := 9) rfl rfl rfl rfl ?_
  refine H.aloadN s2_18 rfl rfl ?_
  refine H.iloadN s2_19 rfl ?_
  refine H.newarray s2_20 (ty := .long) rfl (k_1 hw) (N := 2) (cap := 2) (by decide) rfl (by decide) (by decide) (by first | rfl | simp) (by decide) (by decide) (i := 12) rfl (A' := [.inr (.int, [(.int i0), (.int i1)]), .inr (.int, [(.int p0), (.int p1)]), .inr (.int, [(.int p1), (.int p2)]), .inr (.long, [(.long p3), (.long p4)]), .inr (.long, [(.long p4), (.long p3)]), .inr (.int, [(.int (own_selI I0 p0 p1)), (.int (own_selI I1 p0 p1)), oz, oz]), .inr (.int, [(.int (own_selI I0 p1 p2)), (.int (own_selI I1 p1 p2)), oz, oz]), .inr (.long, [(.long (own_selJ I0 p3 p4)), (.long (own_selJ I1 p3 p4)), ol, ol]), .inr (.long, [(.long (own_selJ I0 p4 p3)), (.long (own_selJ I1 p4 p3)), ol, ol]), .inl (0, [(rf n0 10), (rf n0 11), .null, .null, oz]), .inr (.int, [oz, oz]), .inr (.int, [oz, oz]), .inr (.long, [ol, ol])]) rfl (k' := 3) rfl (n' := 6) rfl ?_
  refine H.putfield s2_22 (k_6 hw) (i := 9) rfl rfl rfl rfl ?_
  refine H.aloadN s2_25 rfl rfl ?_
  refine H.iloadN s2_26 rfl ?_
  refine H.newarray s2_27 (ty := .long) rfl (k_1 hw) (N := 2) (cap := 2) (by decide) rfl (by decide) (by decide) (by first | rfl | simp) (by decide) (by decide) (i := 13) rfl (A' := [.inr (.int, [(.int i0), (.int i1)]), .inr (.int, [(.int p0), (.int p1)]), .inr (.int, [(.int p1), (.int p2)]), .inr (.long, [(.long p3), (.long p4)]), .inr (.long, [(.long p4), (.long p3)]), .inr (.int, [(.int (own_selI I0 p0 p1)), (.int (own_selI I1 p0 p1)), oz, oz]), .inr (.int, [(.int (own_selI I0 p1 p2)), (.int (own_selI I1 p1 p2)), oz, oz]), .inr (.long, [(.long (own_selJ I0 p3 p4)), (.long (own_selJ I1 p3 p4)), ol, ol]), .inr (.long, [(.long (own_selJ I0 p4 p3)), (.long (own_selJ I1 p4 p3)), ol, ol]), .inl (0, [(rf n0 10), (rf n0 11), (rf n0 12), .null, oz]), .inr (.int, [oz, oz]), .inr (.int, [oz, oz]), .inr (.long, [ol, ol]), .inr (.long, [ol, ol])]) rfl (k' := 4) rfl (n' := 8) rfl ?_
  refine H.putfield s2_29 (k_7 hw) (i := 9) rfl rfl rfl rfl ?_
  exact H.vreturn s2_32 rfl ⟨rfl, rfl⟩ (by decide) (by decide)


set_option maxRecDepth 65536 in
set_option maxHeartbeats 40000000 in
theorem a_32 (l : Launch) {Z : State} {a0 : Array Value} (hw : HW1 Z a0) (n0 : Nat) (p0 : Int32) (p1 : Int32) (p2 : Int32) (p3 : Int64) (p4 : Int64) (i0 : Int32) (i1 : Int32) (I0 : Nat) (I1 : Nat) : Met l Z KT n0 y4 prog_15_method_2_code 7 none ({ frames := 0, cells := 0, slots := 0, locals := 0 } : Room) #[(rf n0 9), (.int p0), (.int p1), (.long p3), (.long p4)] [.inr (.int, [(.int i0), (.int i1)]), .inr (.int, [(.int p0), (.int p1)]), .inr (.int, [(.int p1), (.int p2)]), .inr (.long, [(.long p3), (.long p4)]), .inr (.long, [(.long p4), (.long p3)]), .inr (.int, [(.int (own_selI I0 p0 p1)), (.int (own_selI I1 p0 p1)), oz, oz]), .inr (.int, [(.int (own_selI I0 p1 p2)), (.int (own_selI I1 p1 p2)), oz, oz]), .inr (.long, [(.long (own_selJ I0 p3 p4)), (.long (own_selJ I1 p3 p4)), ol, ol]), .inr (.long, [(.long (own_selJ I0 p4 p3)), (.long (own_selJ I1 p4 p3)), ol, ol]), .inl (0, [(rf n0 10), (rf n0 11), (rf n0 12), (rf n0 13), oz]), .inr (.int, [oz, oz]), .inr (.int, [oz, oz]), .inr (.long, [ol, ol]), .inr (.long, [ol, ol])] (Is none [.inr (.int, [(.int i0), (.int i1)]), .inr (.int, [(.int p0), (.int p1)]), .inr (.int, [(.int p1), (.int p2)]), .inr (.long, [(.long p3), (.long p4)]), .inr (.long, [(.long p4), (.long p3)]), .inr (.int, [(.int (own_selI I0 p0 p1)), (.int (own_selI I1 p0 p1)), oz, oz]), .inr (.int, [(.int (own_selI I0 p1 p2)), (.int (own_selI I1 p1 p2)), oz, oz]), .inr (.long, [(.long (own_selJ I0 p3 p4)), (.long (own_selJ I1 p3 p4)), ol, ol]), .inr (.long, [(.long (own_selJ I0 p4 p3)), (.long (own_selJ I1 p4 p3)), ol, ol]), .inl (0, [(rf n0 10), (rf n0 11), (rf n0 12), (rf n0 13), (.int (1 : Int32))]), .inr (.int, [(.int p0), oz]), .inr (.int, [(.int p1), oz]), .inr (.long, [(.long p3), ol]), .inr (.long, [(.long p4), ol])]) := by
  refine Met.of (a0 := a0) (ls := #[.val (rf n0 9), .val (.int p0), .val (.int p1), .val (.long p3), .second, .val (.long p4), .second]) (kok hw) (plainFor_of_name pn_8) (fun m => by first | (simp [entryFrame, mkF, argsToLocals, Value.category]; done) | rfl) (fun G H => ?_)
  refine H.aloadN s4_0 rfl rfl ?_
  refine H.getfield s4_1 (k_10 hw) (i := 9) rfl rfl ?_
  refine H.aloadN s4_4 rfl rfl ?_
  refine H.getfield s4_5 (k_11 hw) (i := 9) rfl rfl ?_
  refine H.iloadN s4_8 rfl ?_
  refine H.iastore s4_9 (i := 10) (j := 0) rfl (by decide) (ltb rfl)  rfl ?_
  refine H.aloadN s4_10 rfl rfl ?_
  refine H.getfield s4_11 (k_12 hw) (i := 9) rfl rfl ?_
  refine H.aloadN s4_14 rfl rfl ?_
  refine H.getfield s4_15 (k_11 hw) (i := 9) rfl rfl ?_
  refine H.iloadN s4_18 rfl ?_
  refine H.iastore s4_19 (i := 11) (j := 0) rfl (by decide) (ltb rfl)  rfl ?_
  refine H.aloadN s4_20 rfl rfl ?_
  refine H.getfield s4_21 (k_13 hw) (i := 9) rfl rfl ?_
  refine H.aloadN s4_24 rfl rfl ?_
  refine H.getfield s4_25 (k_11 hw) (i := 9) rfl rfl ?_
  refine H.lloadN s4_28 rfl ?_
  refine H.lastore s4_29 (i := 12) (j := 0) rfl (by decide) (ltb rfl)  rfl ?_
  refine H.aloadN s4_30 rfl rfl ?_
  refine H.getfield s4_31 (k_14 hw) (i := 9) rfl rfl ?_
  refine H.aloadN s4_34 rfl rfl ?_
  refine H.getfield s4_35 (k_11 hw) (i := 9) rfl rfl ?_
  refine H.lload s4_38 rfl ?_
  refine H.lastore s4_40 (i := 13) (j := 0) rfl (by decide) (ltb rfl)  rfl ?_
  refine H.aloadN s4_41 rfl rfl ?_
  refine H.dup s4_42 rfl ?_
  refine H.getfield s4_43 (k_11 hw) (i := 9) rfl rfl ?_
  refine H.iconst s4_46 (v := (1 : Int32)) (by decide) ?_
  refine H.iadd s4_47 (w := (1 : Int32)) (by decide) ?_
  refine H.putfield s4_48 (k_15 hw) (i := 9) rfl rfl rfl rfl ?_
  exact H.vreturn s4_51 rfl ⟨rfl, rfl⟩ (by decide) (by decide)


set_option maxRecDepth 65536 in
set_option maxHeartbeats 40000000 in
theorem a_33 (l : Launch) {Z : State} {a0 : Array Value} (hw : HW1 Z a0) (n0 : Nat) (p0 : Int32) (p1 : Int32) (p2 : Int32) (p3 : Int64) (p4 : Int64) (i0 : Int32) (i1 : Int32) (I0 : Nat) (I1 : Nat) : Met l Z KT n0 y4 prog_15_method_2_code 7 none ({ frames := 0, cells := 0, slots := 0, locals := 0 } : Room) #[(rf n0 9), (.int p1), (.int p2), (.long p4), (.long p3)] [.inr (.int, [(.int i0), (.int i1)]), .inr (.int, [(.int p0), (.int p1)]), .inr (.int, [(.int p1), (.int p2)]), .inr (.long, [(.long p3), (.long p4)]), .inr (.long, [(.long p4), (.long p3)]), .inr (.int, [(.int (own_selI I0 p0 p1)), (.int (own_selI I1 p0 p1)), oz, oz]), .inr (.int, [(.int (own_selI I0 p1 p2)), (.int (own_selI I1 p1 p2)), oz, oz]), .inr (.long, [(.long (own_selJ I0 p3 p4)), (.long (own_selJ I1 p3 p4)), ol, ol]), .inr (.long, [(.long (own_selJ I0 p4 p3)), (.long (own_selJ I1 p4 p3)), ol, ol]), .inl (0, [(rf n0 10), (rf n0 11), (rf n0 12), (rf n0 13), (.int (1 : Int32))]), .inr (.int, [(.int p0), oz]), .inr (.int, [(.int p1), oz]), .inr (.long, [(.long p3), ol]), .inr (.long, [(.long p4), ol])] (Is none [.inr (.int, [(.int i0), (.int i1)]), .inr (.int, [(.int p0), (.int p1)]), .inr (.int, [(.int p1), (.int p2)]), .inr (.long, [(.long p3), (.long p4)]), .inr (.long, [(.long p4), (.long p3)]), .inr (.int, [(.int (own_selI I0 p0 p1)), (.int (own_selI I1 p0 p1)), oz, oz]), .inr (.int, [(.int (own_selI I0 p1 p2)), (.int (own_selI I1 p1 p2)), oz, oz]), .inr (.long, [(.long (own_selJ I0 p3 p4)), (.long (own_selJ I1 p3 p4)), ol, ol]), .inr (.long, [(.long (own_selJ I0 p4 p3)), (.long (own_selJ I1 p4 p3)), ol, ol]), .inl (0, [(rf n0 10), (rf n0 11), (rf n0 12), (rf n0 13), (.int (2 : Int32))]), .inr (.int, [(.int p0), (.int p1)]), .inr (.int, [(.int p1), (.int p2)]), .inr (.long, [(.long p3), (.long p4)]), .inr (.long, [(.long p4), (.long p3)])]) := by
  refine Met.of (a0 := a0) (ls := #[.val (rf n0 9), .val (.int p1), .val (.int p2), .val (.long p4), .second, .val (.long p3), .second]) (kok hw) (plainFor_of_name pn_8) (fun m => by first | (simp [entryFrame, mkF, argsToLocals, Value.category]; done) | rfl) (fun G H => ?_)
  refine H.aloadN s4_0 rfl rfl ?_
  refine H.getfield s4_1 (k_10 hw) (i := 9) rfl rfl ?_
  refine H.aloadN s4_4 rfl rfl ?_
  refine H.getfield s4_5 (k_11 hw) (i := 9) rfl rfl ?_
  refine H.iloadN s4_8 rfl ?_
  refine H.iastore s4_9 (i := 10) (j := 1) rfl (by decide) (ltb rfl)  rfl ?_
  refine H.aloadN s4_10 rfl rfl ?_
  refine H.getfield s4_11 (k_12 hw) (i := 9) rfl rfl ?_
  refine H.aloadN s4_14 rfl rfl ?_
  refine H.getfield s4_15 (k_11 hw) (i := 9) rfl rfl ?_
  refine H.iloadN s4_18 rfl ?_
  refine H.iastore s4_19 (i := 11) (j := 1) rfl (by decide) (ltb rfl)  rfl ?_
  refine H.aloadN s4_20 rfl rfl ?_
  refine H.getfield s4_21 (k_13 hw) (i := 9) rfl rfl ?_
  refine H.aloadN s4_24 rfl rfl ?_
  refine H.getfield s4_25 (k_11 hw) (i := 9) rfl rfl ?_
  refine H.lloadN s4_28 rfl ?_
  refine H.lastore s4_29 (i := 12) (j := 1) rfl (by decide) (ltb rfl)  rfl ?_
  refine H.aloadN s4_30 rfl rfl ?_
  refine H.getfield s4_31 (k_14 hw) (i := 9) rfl rfl ?_
  refine H.aloadN s4_34 rfl rfl ?_
  refine H.getfield s4_35 (k_11 hw) (i := 9) rfl rfl ?_
  refine H.lload s4_38 rfl ?_
  refine H.lastore s4_40 (i := 13) (j := 1) rfl (by decide) (ltb rfl)  rfl ?_
  refine H.aloadN s4_41 rfl rfl ?_
  refine H.dup s4_42 rfl ?_
  refine H.getfield s4_43 (k_11 hw) (i := 9) rfl rfl ?_
  refine H.iconst s4_46 (v := (1 : Int32)) (by decide) ?_
  refine H.iadd s4_47 (w := (2 : Int32)) (by decide) ?_
  refine H.putfield s4_48 (k_15 hw) (i := 9) rfl rfl rfl rfl ?_
  exact H.vreturn s4_51 rfl ⟨rfl, rfl⟩ (by decide) (by decide)


set_option maxRecDepth 65536 in
set_option maxHeartbeats 40000000 in
theorem a_34 (l : Launch) {Z : State} {a0 : Array Value} (hw : HW1 Z a0) (n0 : Nat) (p0 : Int32) (p1 : Int32) (p2 : Int32) (p3 : Int64) (p4 : Int64) (i0 : Int32) (i1 : Int32) (I0 : Nat) (I1 : Nat) : Met l Z KT n0 y2 prog_15_method_1_code 2 none ({ frames := 1, cells := 4, slots := 16, locals := 12 } : Room) #[(rf n0 14), (.int (4 : Int32))] [.inr (.int, [(.int i0), (.int i1)]), .inr (.int, [(.int p0), (.int p1)]), .inr (.int, [(.int p1), (.int p2)]), .inr (.long, [(.long p3), (.long p4)]), .inr (.long, [(.long p4), (.long p3)]), .inr (.int, [(.int (own_selI I0 p0 p1)), (.int (own_selI I1 p0 p1)), oz, oz]), .inr (.int, [(.int (own_selI I0 p1 p2)), (.int (own_selI I1 p1 p2)), oz, oz]), .inr (.long, [(.long (own_selJ I0 p3 p4)), (.long (own_selJ I1 p3 p4)), ol, ol]), .inr (.long, [(.long (own_selJ I0 p4 p3)), (.long (own_selJ I1 p4 p3)), ol, ol]), .inl (0, [(rf n0 10), (rf n0 11), (rf n0 12), (rf n0 13), (.int (2 : Int32))]), .inr (.int, [(.int p0), (.int p1)]), .inr (.int, [(.int p1), (.int p2)]), .inr (.long, [(.long p3), (.long p4)]), .inr (.long, [(.long p4), (.long p3)]), .inl (0, [.null, .null, .null, .null, oz])] (Is none [.inr (.int, [(.int i0), (.int i1)]), .inr (.int, [(.int p0), (.int p1)]), .inr (.int, [(.int p1), (.int p2)]), .inr (.long, [(.long p3), (.long p4)]), .inr (.long, [(.long p4), (.long p3)]), .inr (.int, [(.int (own_selI I0 p0 p1)), (.int (own_selI I1 p0 p1)), oz, oz]), .inr (.int, [(.int (own_selI I0 p1 p2)), (.int (own_selI I1 p1 p2)), oz, oz]), .inr (.long, [(.long (own_selJ I0 p3 p4)), (.long (own_selJ I1 p3 p4)), ol, ol]), .inr (.long, [(.long (own_selJ I0 p4 p3)), (.long (own_selJ I1 p4 p3)), ol, ol]), .inl (0, [(rf n0 10), (rf n0 11), (rf n0 12), (rf n0 13), (.int (2 : Int32))]), .inr (.int, [(.int p0), (.int p1)]), .inr (.int, [(.int p1), (.int p2)]), .inr (.long, [(.long p3), (.long p4)]), .inr (.long, [(.long p4), (.long p3)]), .inl (0, [(rf n0 15), (rf n0 16), (rf n0 17), (rf n0 18), oz]), .inr (.int, [oz, oz, oz, oz]), .inr (.int, [oz, oz, oz, oz]), .inr (.long, [ol, ol, ol, ol]), .inr (.long, [ol, ol, ol, ol])]) := by
  refine Met.of (a0 := a0) (ls := #[.val (rf n0 14), .val (.int (4 : Int32))]) (kok hw) (plainFor_of_name pn_8) (fun m => by first | (simp [entryFrame, mkF, argsToLocals, Value.category]; done) | rfl) (fun G H => ?_)
  refine H.aloadN s2_0 rfl rfl ?_
  refine H.initO s2_1 (k_3 hw) rfl (leb rfl) (leb rfl) ?_
  refine H.aloadN s2_4 rfl rfl ?_
  refine H.iloadN s2_5 rfl ?_
  refine H.newarray s2_6 (ty := .int) rfl (k_0 hw) (N := 4) (cap := 4) (by decide) rfl (by decide) (by decide) (by first | rfl | simp) (by decide) (by decide) (i := 15) rfl (A' := [.inr (.int, [(.int i0), (.int i1)]), .inr (.int, [(.int p0), (.int p1)]), .inr (.int, [(.int p1), (.int p2)]), .inr (.long, [(.long p3), (.long p4)]), .inr (.long, [(.long p4), (.long p3)]), .inr (.int, [(.int (own_selI I0 p0 p1)), (.int (own_selI I1 p0 p1)), oz, oz]), .inr (.int, [(.int (own_selI I0 p1 p2)), (.int (own_selI I1 p1 p2)), oz, oz]), .inr (.long, [(.long (own_selJ I0 p3 p4)), (.long (own_selJ I1 p3 p4)), ol, ol]), .inr (.long, [(.long (own_selJ I0 p4 p3)), (.long (own_selJ I1 p4 p3)), ol, ol]), .inl (0, [(rf n0 10), (rf n0 11), (rf n0 12), (rf n0 13), (.int (2 : Int32))]), .inr (.int, [(.int p0), (.int p1)]), .inr (.int, [(.int p1), (.int p2)]), .inr (.long, [(.long p3), (.long p4)]), .inr (.long, [(.long p4), (.long p3)]), .inl (0, [.null, .null, .null, .null, oz]), .inr (.int, [oz, oz, oz, oz])]) rfl (k' := 1) rfl (n' := 4) rfl ?_
  refine H.putfield s2_8 (k_4 hw) (i := 14) rfl rfl rfl rfl ?_
  refine H.aloadN s2_11 rfl rfl ?_
  refine H.iloadN s2_12 rfl ?_
  refine H.newarray s2_13 (ty := .int) rfl (k_0 hw) (N := 4) (cap := 4) (by decide) rfl (by decide) (by decide) (by first | rfl | simp) (by decide) (by decide) (i := 16) rfl (A' := [.inr (.int, [(.int i0), (.int i1)]), .inr (.int, [(.int p0), (.int p1)]), .inr (.int, [(.int p1), (.int p2)]), .inr (.long, [(.long p3), (.long p4)]), .inr (.long, [(.long p4), (.long p3)]), .inr (.int, [(.int (own_selI I0 p0 p1)), (.int (own_selI I1 p0 p1)), oz, oz]), .inr (.int, [(.int (own_selI I0 p1 p2)), (.int (own_selI I1 p1 p2)), oz, oz]), .inr (.long, [(.long (own_selJ I0 p3 p4)), (.long (own_selJ I1 p3 p4)), ol, ol]), .inr (.long, [(.long (own_selJ I0 p4 p3)), (.long (own_selJ I1 p4 p3)), ol, ol]), .inl (0, [(rf n0 10), (rf n0 11), (rf n0 12), (rf n0 13), (.int (2 : Int32))]), .inr (.int, [(.int p0), (.int p1)]), .inr (.int, [(.int p1), (.int p2)]), .inr (.long, [(.long p3), (.long p4)]), .inr (.long, [(.long p4), (.long p3)]), .inl (0, [(rf n0 15), .null, .null, .null, oz]), .inr (.int, [oz, oz, oz, oz]), .inr (.int, [oz, oz, oz, oz])]) rfl (k' := 2) rfl (n' := 8) rfl ?_
  refine H.putfield s2_15 (k_5 hw) (i := 14) rfl rfl rfl rfl ?_
  refine H.aloadN s2_18 rfl rfl ?_
  refine H.iloadN s2_19 rfl ?_
  refine H.newarray s2_20 (ty := .long) rfl (k_1 hw) (N := 4) (cap := 4) (by decide) rfl (by decide) (by decide) (by first | rfl | simp) (by decide) (by decide) (i := 17) rfl (A' := [.inr (.int, [(.int i0), (.int i1)]), .inr (.int, [(.int p0), (.int p1)]), .inr (.int, [(.int p1), (.int p2)]), .inr (.long, [(.long p3), (.long p4)]), .inr (.long, [(.long p4), (.long p3)]), .inr (.int, [(.int (own_selI I0 p0 p1)), (.int (own_selI I1 p0 p1)), oz, oz]), .inr (.int, [(.int (own_selI I0 p1 p2)), (.int (own_selI I1 p1 p2)), oz, oz]), .inr (.long, [(.long (own_selJ I0 p3 p4)), (.long (own_selJ I1 p3 p4)), ol, ol]), .inr (.long, [(.long (own_selJ I0 p4 p3)), (.long (own_selJ I1 p4 p3)), ol, ol]), .inl (0, [(rf n0 10), (rf n0 11), (rf n0 12), (rf n0 13), (.int (2 : Int32))]), .inr (.int, [(.int p0), (.int p1)]), .inr (.int, [(.int p1), (.int p2)]), .inr (.long, [(.long p3), (.long p4)]), .inr (.long, [(.long p4), (.long p3)]), .inl (0, [(rf n0 15), (rf n0 16), .null, .null, oz]), .inr (.int, [oz, oz, oz, oz]), .inr (.int, [oz, oz, oz, oz]), .inr (.long, [ol, ol, ol, ol])]) rfl (k' := 3) rfl (n' := 12) rfl ?_
  refine H.putfield s2_22 (k_6 hw) (i := 14) rfl rfl rfl rfl ?_
  refine H.aloadN s2_25 rfl rfl ?_
  refine H.iloadN s2_26 rfl ?_
  refine H.newarray s2_27 (ty := .long) rfl (k_1 hw) (N := 4) (cap := 4) (by decide) rfl (by decide) (by decide) (by first | rfl | simp) (by decide) (by decide) (i := 18) rfl (A' := [.inr (.int, [(.int i0), (.int i1)]), .inr (.int, [(.int p0), (.int p1)]), .inr (.int, [(.int p1), (.int p2)]), .inr (.long, [(.long p3), (.long p4)]), .inr (.long, [(.long p4), (.long p3)]), .inr (.int, [(.int (own_selI I0 p0 p1)), (.int (own_selI I1 p0 p1)), oz, oz]), .inr (.int, [(.int (own_selI I0 p1 p2)), (.int (own_selI I1 p1 p2)), oz, oz]), .inr (.long, [(.long (own_selJ I0 p3 p4)), (.long (own_selJ I1 p3 p4)), ol, ol]), .inr (.long, [(.long (own_selJ I0 p4 p3)), (.long (own_selJ I1 p4 p3)), ol, ol]), .inl (0, [(rf n0 10), (rf n0 11), (rf n0 12), (rf n0 13), (.int (2 : Int32))]), .inr (.int, [(.int p0), (.int p1)]), .inr (.int, [(.int p1), (.int p2)]), .inr (.long, [(.long p3), (.long p4)]), .inr (.long, [(.long p4), (.long p3)]), .inl (0, [(rf n0 15), (rf n0 16), (rf n0 17), .null, oz]), .inr (.int, [oz, oz, oz, oz]), .inr (.int, [oz, oz, oz, oz]), .inr (.long, [ol, ol, ol, ol]), .inr (.long, [ol, ol, ol, ol])]) rfl (k' := 4) rfl (n' := 16) rfl ?_
  refine H.putfield s2_29 (k_7 hw) (i := 14) rfl rfl rfl rfl ?_
  exact H.vreturn s2_32 rfl ⟨rfl, rfl⟩ (by decide) (by decide)


set_option maxRecDepth 65536 in
set_option maxHeartbeats 40000000 in
theorem a_35 (l : Launch) {Z : State} {a0 : Array Value} (hw : HW1 Z a0) (n0 : Nat) (p0 : Int32) (p1 : Int32) (p2 : Int32) (p3 : Int64) (p4 : Int64) (i0 : Int32) (i1 : Int32) (I0 : Nat) (I1 : Nat) (hI0 : i0.toInt = (I0 : Int)) (lI0 : I0 < 2) (hI1 : i1.toInt = (I1 : Int)) (lI1 : I1 < 2) : Met l Z KT n0 y5 prog_15_method_4_code 5 none ({ frames := 0, cells := 0, slots := 0, locals := 0 } : Room) #[(rf n0 14), (rf n0 9), (rf n0 0)] [.inr (.int, [(.int i0), (.int i1)]), .inr (.int, [(.int p0), (.int p1)]), .inr (.int, [(.int p1), (.int p2)]), .inr (.long, [(.long p3), (.long p4)]), .inr (.long, [(.long p4), (.long p3)]), .inr (.int, [(.int (own_selI I0 p0 p1)), (.int (own_selI I1 p0 p1)), oz, oz]), .inr (.int, [(.int (own_selI I0 p1 p2)), (.int (own_selI I1 p1 p2)), oz, oz]), .inr (.long, [(.long (own_selJ I0 p3 p4)), (.long (own_selJ I1 p3 p4)), ol, ol]), .inr (.long, [(.long (own_selJ I0 p4 p3)), (.long (own_selJ I1 p4 p3)), ol, ol]), .inl (0, [(rf n0 10), (rf n0 11), (rf n0 12), (rf n0 13), (.int (2 : Int32))]), .inr (.int, [(.int p0), (.int p1)]), .inr (.int, [(.int p1), (.int p2)]), .inr (.long, [(.long p3), (.long p4)]), .inr (.long, [(.long p4), (.long p3)]), .inl (0, [(rf n0 15), (rf n0 16), (rf n0 17), (rf n0 18), oz]), .inr (.int, [oz, oz, oz, oz]), .inr (.int, [oz, oz, oz, oz]), .inr (.long, [ol, ol, ol, ol]), .inr (.long, [ol, ol, ol, ol])] (Is none [.inr (.int, [(.int i0), (.int i1)]), .inr (.int, [(.int p0), (.int p1)]), .inr (.int, [(.int p1), (.int p2)]), .inr (.long, [(.long p3), (.long p4)]), .inr (.long, [(.long p4), (.long p3)]), .inr (.int, [(.int (own_selI I0 p0 p1)), (.int (own_selI I1 p0 p1)), oz, oz]), .inr (.int, [(.int (own_selI I0 p1 p2)), (.int (own_selI I1 p1 p2)), oz, oz]), .inr (.long, [(.long (own_selJ I0 p3 p4)), (.long (own_selJ I1 p3 p4)), ol, ol]), .inr (.long, [(.long (own_selJ I0 p4 p3)), (.long (own_selJ I1 p4 p3)), ol, ol]), .inl (0, [(rf n0 10), (rf n0 11), (rf n0 12), (rf n0 13), (.int (2 : Int32))]), .inr (.int, [(.int p0), (.int p1)]), .inr (.int, [(.int p1), (.int p2)]), .inr (.long, [(.long p3), (.long p4)]), .inr (.long, [(.long p4), (.long p3)]), .inl (0, [(rf n0 15), (rf n0 16), (rf n0 17), (rf n0 18), (.int (2 : Int32))]), .inr (.int, [(.int (own_selI I0 p0 p1)), (.int (own_selI I1 p0 p1)), oz, oz]), .inr (.int, [(.int (own_selI I0 p1 p2)), (.int (own_selI I1 p1 p2)), oz, oz]), .inr (.long, [(.long (own_selJ I0 p3 p4)), (.long (own_selJ I1 p3 p4)), ol, ol]), .inr (.long, [(.long (own_selJ I0 p4 p3)), (.long (own_selJ I1 p4 p3)), ol, ol])]) := by
  refine Met.of (a0 := a0) (ls := #[.val (rf n0 14), .val (rf n0 9), .val (rf n0 0), .unset, .unset]) (kok hw) (plainFor_of_name pn_8) (fun m => by first | (simp [entryFrame, mkF, argsToLocals, Value.category]; done) | rfl) (fun G H => ?_)
  refine H.iconst s5_0 (v := (0 : Int32)) (by decide) ?_
  refine H.istoreN s5_1 (ls' := #[.val (rf n0 14), .val (rf n0 9), .val (rf n0 0), .val oz, .unset]) rfl ?_
  refine H.iloadN s5_2 rfl ?_
  refine H.aloadN s5_3 rfl rfl ?_
  refine H.arraylength s5_4 (i := 0) rfl (z := (2 : Int32)) rfl ?_
  refine H.icmpF s5_5 (show (0 : Int32) < (2 : Int32) by decide) ?_
  refine H.aloadN s5_8 rfl rfl ?_
  refine H.iloadN s5_9 rfl ?_
  refine H.iaload s5_10 (i := 0) (j := 0) rfl (by decide) (v := (.int i0)) rfl ?_
  refine H.istore s5_11 (ls' := #[.val (rf n0 14), .val (rf n0 9), .val (rf n0 0), .val oz, .val (.int i0)]) rfl ?_
  refine H.aloadN s5_13 rfl rfl ?_
  refine H.getfield s5_14 (k_10 hw) (i := 14) rfl rfl ?_
  refine H.aloadN s5_17 rfl rfl ?_
  refine H.getfield s5_18 (k_11 hw) (i := 14) rfl rfl ?_
  refine H.iloadN s5_21 rfl ?_
  refine H.iadd s5_22 (w := (0 : Int32)) (by decide) ?_
  refine H.aloadN s5_23 rfl rfl ?_
  refine H.getfield s5_24 (k_10 hw) (i := 9) rfl rfl ?_
  refine H.iload s5_27 rfl ?_
  refine H.iaload s5_29 (i := 10) (j := I0) rfl hI0 (v := (.int (own_selI I0 p0 p1))) (own_gI lI0) ?_
  refine H.iastore s5_30 (i := 15) (j := 0) rfl (by decide) (ltb rfl)  rfl ?_
  refine H.aloadN s5_31 rfl rfl ?_
  refine H.getfield s5_32 (k_12 hw) (i := 14) rfl rfl ?_
  refine H.aloadN s5_35 rfl rfl ?_
  refine H.getfield s5_36 (k_11 hw) (i := 14) rfl rfl ?_
  refine H.iloadN s5_39 rfl ?_
  refine H.iadd s5_40 (w := (0 : Int32)) (by decide) ?_
  refine H.aloadN s5_41 rfl rfl ?_
  refine H.getfield s5_42 (k_12 hw) (i := 9) rfl rfl ?_
  refine H.iload s5_45 rfl ?_
  refine H.iaload s5_47 (i := 11) (j := I0) rfl hI0 (v := (.int (own_selI I0 p1 p2))) (own_gI lI0) ?_
  refine H.iastore s5_48 (i := 16) (j := 0) rfl (by decide) (ltb rfl)  rfl ?_
  refine H.aloadN s5_49 rfl rfl ?_
  refine H.getfield s5_50 (k_13 hw) (i := 14) rfl rfl ?_
  refine H.aloadN s5_53 rfl rfl ?_
  refine H.getfield s5_54 (k_11 hw) (i := 14) rfl rfl ?_
  refine H.iloadN s5_57 rfl ?_
  refine H.iadd s5_58 (w := (0 : Int32)) (by decide) ?_
  refine H.aloadN s5_59 rfl rfl ?_
  refine H.getfield s5_60 (k_13 hw) (i := 9) rfl rfl ?_
  refine H.iload s5_63 rfl ?_
  refine H.laload s5_65 (i := 12) (j := I0) rfl hI0 (v := (.long (own_selJ I0 p3 p4))) (own_gJ lI0) ?_
  refine H.lastore s5_66 (i := 17) (j := 0) rfl (by decide) (ltb rfl)  rfl ?_
  refine H.aloadN s5_67 rfl rfl ?_
  refine H.getfield s5_68 (k_14 hw) (i := 14) rfl rfl ?_
  refine H.aloadN s5_71 rfl rfl ?_
  refine H.getfield s5_72 (k_11 hw) (i := 14) rfl rfl ?_
  refine H.iloadN s5_75 rfl ?_
  refine H.iadd s5_76 (w := (0 : Int32)) (by decide) ?_
  refine H.aloadN s5_77 rfl rfl ?_
  refine H.getfield s5_78 (k_14 hw) (i := 9) rfl rfl ?_
  refine H.iload s5_81 rfl ?_
  refine H.laload s5_83 (i := 13) (j := I0) rfl hI0 (v := (.long (own_selJ I0 p4 p3))) (own_gJ lI0) ?_
  refine H.lastore s5_84 (i := 18) (j := 0) rfl (by decide) (ltb rfl)  rfl ?_
  refine H.iinc s5_85 rfl (w := (1 : Int32)) (by decide) (ls' := #[.val (rf n0 14), .val (rf n0 9), .val (rf n0 0), .val (.int (1 : Int32)), .val (.int i0)]) rfl ?_
  refine H.goto s5_88 ?_
  refine H.iloadN s5_2 rfl ?_
  refine H.aloadN s5_3 rfl rfl ?_
  refine H.arraylength s5_4 (i := 0) rfl (z := (2 : Int32)) rfl ?_
  refine H.icmpF s5_5 (show (1 : Int32) < (2 : Int32) by decide) ?_
  refine H.aloadN s5_8 rfl rfl ?_
  refine H.iloadN s5_9 rfl ?_
  refine H.iaload s5_10 (i := 0) (j := 1) rfl (by decide) (v := (.int i1)) rfl ?_
  refine H.istore s5_11 (ls' := #[.val (rf n0 14), .val (rf n0 9), .val (rf n0 0), .val (.int (1 : Int32)), .val (.int i1)]) rfl ?_
  refine H.aloadN s5_13 rfl rfl ?_
  refine H.getfield s5_14 (k_10 hw) (i := 14) rfl rfl ?_
  refine H.aloadN s5_17 rfl rfl ?_
  refine H.getfield s5_18 (k_11 hw) (i := 14) rfl rfl ?_
  refine H.iloadN s5_21 rfl ?_
  refine H.iadd s5_22 (w := (1 : Int32)) (by decide) ?_
  refine H.aloadN s5_23 rfl rfl ?_
  refine H.getfield s5_24 (k_10 hw) (i := 9) rfl rfl ?_
  refine H.iload s5_27 rfl ?_
  refine H.iaload s5_29 (i := 10) (j := I1) rfl hI1 (v := (.int (own_selI I1 p0 p1))) (own_gI lI1) ?_
  refine H.iastore s5_30 (i := 15) (j := 1) rfl (by decide) (ltb rfl)  rfl ?_
  refine H.aloadN s5_31 rfl rfl ?_
  refine H.getfield s5_32 (k_12 hw) (i := 14) rfl rfl ?_
  refine H.aloadN s5_35 rfl rfl ?_
  refine H.getfield s5_36 (k_11 hw) (i := 14) rfl rfl ?_
  refine H.iloadN s5_39 rfl ?_
  refine H.iadd s5_40 (w := (1 : Int32)) (by decide) ?_
  refine H.aloadN s5_41 rfl rfl ?_
  refine H.getfield s5_42 (k_12 hw) (i := 9) rfl rfl ?_
  refine H.iload s5_45 rfl ?_
  refine H.iaload s5_47 (i := 11) (j := I1) rfl hI1 (v := (.int (own_selI I1 p1 p2))) (own_gI lI1) ?_
  refine H.iastore s5_48 (i := 16) (j := 1) rfl (by decide) (ltb rfl)  rfl ?_
  refine H.aloadN s5_49 rfl rfl ?_
  refine H.getfield s5_50 (k_13 hw) (i := 14) rfl rfl ?_
  refine H.aloadN s5_53 rfl rfl ?_
  refine H.getfield s5_54 (k_11 hw) (i := 14) rfl rfl ?_
  refine H.iloadN s5_57 rfl ?_
  refine H.iadd s5_58 (w := (1 : Int32)) (by decide) ?_
  refine H.aloadN s5_59 rfl rfl ?_
  refine H.getfield s5_60 (k_13 hw) (i := 9) rfl rfl ?_
  refine H.iload s5_63 rfl ?_
  refine H.laload s5_65 (i := 12) (j := I1) rfl hI1 (v := (.long (own_selJ I1 p3 p4))) (own_gJ lI1) ?_
  refine H.lastore s5_66 (i := 17) (j := 1) rfl (by decide) (ltb rfl)  rfl ?_
  refine H.aloadN s5_67 rfl rfl ?_
  refine H.getfield s5_68 (k_14 hw) (i := 14) rfl rfl ?_
  refine H.aloadN s5_71 rfl rfl ?_
  refine H.getfield s5_72 (k_11 hw) (i := 14) rfl rfl ?_
  refine H.iloadN s5_75 rfl ?_
  refine H.iadd s5_76 (w := (1 : Int32)) (by decide) ?_
  refine H.aloadN s5_77 rfl rfl ?_
  refine H.getfield s5_78 (k_14 hw) (i := 9) rfl rfl ?_
  refine H.iload s5_81 rfl ?_
  refine H.laload s5_83 (i := 13) (j := I1) rfl hI1 (v := (.long (own_selJ I1 p4 p3))) (own_gJ lI1) ?_
  refine H.lastore s5_84 (i := 18) (j := 1) rfl (by decide) (ltb rfl)  rfl ?_
  refine H.iinc s5_85 rfl (w := (2 : Int32)) (by decide) (ls' := #[.val (rf n0 14), .val (rf n0 9), .val (rf n0 0), .val (.int (2 : Int32)), .val (.int i1)]) rfl ?_
  refine H.goto s5_88 ?_
  refine H.iloadN s5_2 rfl ?_
  refine H.aloadN s5_3 rfl rfl ?_
  refine H.arraylength s5_4 (i := 0) rfl (z := (2 : Int32)) rfl ?_
  refine H.icmpT s5_5 (show ¬ (2 : Int32) < (2 : Int32) by decide) ?_
  refine H.aloadN s5_91 rfl rfl ?_
  refine H.dup s5_92 rfl ?_
  refine H.getfield s5_93 (k_11 hw) (i := 14) rfl rfl ?_
  refine H.aloadN s5_96 rfl rfl ?_
  refine H.arraylength s5_97 (i := 0) rfl (z := (2 : Int32)) rfl ?_
  refine H.iadd s5_98 (w := (2 : Int32)) (by decide) ?_
  refine H.putfield s5_99 (k_17 hw) (i := 14) rfl rfl rfl rfl ?_
  exact H.vreturn s5_102 rfl ⟨rfl, rfl⟩ (by decide) (by decide)


set_option maxRecDepth 65536 in
set_option maxHeartbeats 40000000 in
theorem a_36 (l : Launch) {Z : State} {a0 : Array Value} (hw : HW1 Z a0) (n0 : Nat) (p0 : Int32) (p1 : Int32) (p2 : Int32) (p3 : Int64) (p4 : Int64) (i0 : Int32) (i1 : Int32) (I0 : Nat) (I1 : Nat) : Met l Z KT n0 y6 prog_15_method_5_code 1 (some .int) ({ frames := 0, cells := 0, slots := 0, locals := 0 } : Room) #[(rf n0 14)] [.inr (.int, [(.int i0), (.int i1)]), .inr (.int, [(.int p0), (.int p1)]), .inr (.int, [(.int p1), (.int p2)]), .inr (.long, [(.long p3), (.long p4)]), .inr (.long, [(.long p4), (.long p3)]), .inr (.int, [(.int (own_selI I0 p0 p1)), (.int (own_selI I1 p0 p1)), oz, oz]), .inr (.int, [(.int (own_selI I0 p1 p2)), (.int (own_selI I1 p1 p2)), oz, oz]), .inr (.long, [(.long (own_selJ I0 p3 p4)), (.long (own_selJ I1 p3 p4)), ol, ol]), .inr (.long, [(.long (own_selJ I0 p4 p3)), (.long (own_selJ I1 p4 p3)), ol, ol]), .inl (0, [(rf n0 10), (rf n0 11), (rf n0 12), (rf n0 13), (.int (2 : Int32))]), .inr (.int, [(.int p0), (.int p1)]), .inr (.int, [(.int p1), (.int p2)]), .inr (.long, [(.long p3), (.long p4)]), .inr (.long, [(.long p4), (.long p3)]), .inl (0, [(rf n0 15), (rf n0 16), (rf n0 17), (rf n0 18), (.int (2 : Int32))]), .inr (.int, [(.int (own_selI I0 p0 p1)), (.int (own_selI I1 p0 p1)), oz, oz]), .inr (.int, [(.int (own_selI I0 p1 p2)), (.int (own_selI I1 p1 p2)), oz, oz]), .inr (.long, [(.long (own_selJ I0 p3 p4)), (.long (own_selJ I1 p3 p4)), ol, ol]), .inr (.long, [(.long (own_selJ I0 p4 p3)), (.long (own_selJ I1 p4 p3)), ol, ol])] (Is (some (.int (2 : Int32))) [.inr (.int, [(.int i0), (.int i1)]), .inr (.int, [(.int p0), (.int p1)]), .inr (.int, [(.int p1), (.int p2)]), .inr (.long, [(.long p3), (.long p4)]), .inr (.long, [(.long p4), (.long p3)]), .inr (.int, [(.int (own_selI I0 p0 p1)), (.int (own_selI I1 p0 p1)), oz, oz]), .inr (.int, [(.int (own_selI I0 p1 p2)), (.int (own_selI I1 p1 p2)), oz, oz]), .inr (.long, [(.long (own_selJ I0 p3 p4)), (.long (own_selJ I1 p3 p4)), ol, ol]), .inr (.long, [(.long (own_selJ I0 p4 p3)), (.long (own_selJ I1 p4 p3)), ol, ol]), .inl (0, [(rf n0 10), (rf n0 11), (rf n0 12), (rf n0 13), (.int (2 : Int32))]), .inr (.int, [(.int p0), (.int p1)]), .inr (.int, [(.int p1), (.int p2)]), .inr (.long, [(.long p3), (.long p4)]), .inr (.long, [(.long p4), (.long p3)]), .inl (0, [(rf n0 15), (rf n0 16), (rf n0 17), (rf n0 18), (.int (2 : Int32))]), .inr (.int, [(.int (own_selI I0 p0 p1)), (.int (own_selI I1 p0 p1)), oz, oz]), .inr (.int, [(.int (own_selI I0 p1 p2)), (.int (own_selI I1 p1 p2)), oz, oz]), .inr (.long, [(.long (own_selJ I0 p3 p4)), (.long (own_selJ I1 p3 p4)), ol, ol]), .inr (.long, [(.long (own_selJ I0 p4 p3)), (.long (own_selJ I1 p4 p3)), ol, ol])]) := by
  refine Met.of (a0 := a0) (ls := #[.val (rf n0 14)]) (kok hw) (plainFor_of_name pn_8) (fun m => by first | (simp [entryFrame, mkF, argsToLocals, Value.category]; done) | rfl) (fun G H => ?_)
  refine H.aloadN s6_0 rfl rfl ?_
  refine H.getfield s6_1 (k_11 hw) (i := 14) rfl rfl ?_
  exact H.ireturn s6_4 rfl (by simp) rfl ⟨rfl, rfl⟩ (by decide) (by decide)


set_option maxRecDepth 65536 in
set_option maxHeartbeats 40000000 in
theorem a_37 (l : Launch) {Z : State} {a0 : Array Value} (hw : HW1 Z a0) (n0 : Nat) (p0 : Int32) (p1 : Int32) (p2 : Int32) (p3 : Int64) (p4 : Int64) (i0 : Int32) (i1 : Int32) (I0 : Nat) (I1 : Nat) : Met l Z KT n0 y7 prog_15_method_6_code 1 (some (.array .int)) ({ frames := 0, cells := 0, slots := 0, locals := 0 } : Room) #[(rf n0 14)] [.inr (.int, [(.int i0), (.int i1)]), .inr (.int, [(.int p0), (.int p1)]), .inr (.int, [(.int p1), (.int p2)]), .inr (.long, [(.long p3), (.long p4)]), .inr (.long, [(.long p4), (.long p3)]), .inr (.int, [(.int (own_selI I0 p0 p1)), (.int (own_selI I1 p0 p1)), oz, oz]), .inr (.int, [(.int (own_selI I0 p1 p2)), (.int (own_selI I1 p1 p2)), oz, oz]), .inr (.long, [(.long (own_selJ I0 p3 p4)), (.long (own_selJ I1 p3 p4)), ol, ol]), .inr (.long, [(.long (own_selJ I0 p4 p3)), (.long (own_selJ I1 p4 p3)), ol, ol]), .inl (0, [(rf n0 10), (rf n0 11), (rf n0 12), (rf n0 13), (.int (2 : Int32))]), .inr (.int, [(.int p0), (.int p1)]), .inr (.int, [(.int p1), (.int p2)]), .inr (.long, [(.long p3), (.long p4)]), .inr (.long, [(.long p4), (.long p3)]), .inl (0, [(rf n0 15), (rf n0 16), (rf n0 17), (rf n0 18), (.int (2 : Int32))]), .inr (.int, [(.int (own_selI I0 p0 p1)), (.int (own_selI I1 p0 p1)), oz, oz]), .inr (.int, [(.int (own_selI I0 p1 p2)), (.int (own_selI I1 p1 p2)), oz, oz]), .inr (.long, [(.long (own_selJ I0 p3 p4)), (.long (own_selJ I1 p3 p4)), ol, ol]), .inr (.long, [(.long (own_selJ I0 p4 p3)), (.long (own_selJ I1 p4 p3)), ol, ol])] (Is (some (rf n0 15)) [.inr (.int, [(.int i0), (.int i1)]), .inr (.int, [(.int p0), (.int p1)]), .inr (.int, [(.int p1), (.int p2)]), .inr (.long, [(.long p3), (.long p4)]), .inr (.long, [(.long p4), (.long p3)]), .inr (.int, [(.int (own_selI I0 p0 p1)), (.int (own_selI I1 p0 p1)), oz, oz]), .inr (.int, [(.int (own_selI I0 p1 p2)), (.int (own_selI I1 p1 p2)), oz, oz]), .inr (.long, [(.long (own_selJ I0 p3 p4)), (.long (own_selJ I1 p3 p4)), ol, ol]), .inr (.long, [(.long (own_selJ I0 p4 p3)), (.long (own_selJ I1 p4 p3)), ol, ol]), .inl (0, [(rf n0 10), (rf n0 11), (rf n0 12), (rf n0 13), (.int (2 : Int32))]), .inr (.int, [(.int p0), (.int p1)]), .inr (.int, [(.int p1), (.int p2)]), .inr (.long, [(.long p3), (.long p4)]), .inr (.long, [(.long p4), (.long p3)]), .inl (0, [(rf n0 15), (rf n0 16), (rf n0 17), (rf n0 18), (.int (2 : Int32))]), .inr (.int, [(.int (own_selI I0 p0 p1)), (.int (own_selI I1 p0 p1)), oz, oz]), .inr (.int, [(.int (own_selI I0 p1 p2)), (.int (own_selI I1 p1 p2)), oz, oz]), .inr (.long, [(.long (own_selJ I0 p3 p4)), (.long (own_selJ I1 p3 p4)), ol, ol]), .inr (.long, [(.long (own_selJ I0 p4 p3)), (.long (own_selJ I1 p4 p3)), ol, ol])]) := by
  refine Met.of (a0 := a0) (ls := #[.val (rf n0 14)]) (kok hw) (plainFor_of_name pn_8) (fun m => by first | (simp [entryFrame, mkF, argsToLocals, Value.category]; done) | rfl) (fun G H => ?_)
  refine H.aloadN s7_0 rfl rfl ?_
  refine H.getfield s7_1 (k_10 hw) (i := 14) rfl rfl ?_
  exact H.areturn s7_4 rfl rfl rfl rfl ⟨rfl, rfl⟩ (by decide) (by decide)


set_option maxRecDepth 65536 in
set_option maxHeartbeats 40000000 in
theorem a_38 (l : Launch) {Z : State} {a0 : Array Value} (hw : HW1 Z a0) (n0 : Nat) (p0 : Int32) (p1 : Int32) (p2 : Int32) (p3 : Int64) (p4 : Int64) (i0 : Int32) (i1 : Int32) (I0 : Nat) (I1 : Nat) : Met l Z KT n0 y8 prog_15_method_7_code 1 (some (.array .int)) ({ frames := 0, cells := 0, slots := 0, locals := 0 } : Room) #[(rf n0 14)] [.inr (.int, [(.int i0), (.int i1)]), .inr (.int, [(.int p0), (.int p1)]), .inr (.int, [(.int p1), (.int p2)]), .inr (.long, [(.long p3), (.long p4)]), .inr (.long, [(.long p4), (.long p3)]), .inr (.int, [(.int (own_selI I0 p0 p1)), (.int (own_selI I1 p0 p1)), oz, oz]), .inr (.int, [(.int (own_selI I0 p1 p2)), (.int (own_selI I1 p1 p2)), oz, oz]), .inr (.long, [(.long (own_selJ I0 p3 p4)), (.long (own_selJ I1 p3 p4)), ol, ol]), .inr (.long, [(.long (own_selJ I0 p4 p3)), (.long (own_selJ I1 p4 p3)), ol, ol]), .inl (0, [(rf n0 10), (rf n0 11), (rf n0 12), (rf n0 13), (.int (2 : Int32))]), .inr (.int, [(.int p0), (.int p1)]), .inr (.int, [(.int p1), (.int p2)]), .inr (.long, [(.long p3), (.long p4)]), .inr (.long, [(.long p4), (.long p3)]), .inl (0, [(rf n0 15), (rf n0 16), (rf n0 17), (rf n0 18), (.int (2 : Int32))]), .inr (.int, [(.int (own_selI I0 p0 p1)), (.int (own_selI I1 p0 p1)), oz, oz]), .inr (.int, [(.int (own_selI I0 p1 p2)), (.int (own_selI I1 p1 p2)), oz, oz]), .inr (.long, [(.long (own_selJ I0 p3 p4)), (.long (own_selJ I1 p3 p4)), ol, ol]), .inr (.long, [(.long (own_selJ I0 p4 p3)), (.long (own_selJ I1 p4 p3)), ol, ol])] (Is (some (rf n0 16)) [.inr (.int, [(.int i0), (.int i1)]), .inr (.int, [(.int p0), (.int p1)]), .inr (.int, [(.int p1), (.int p2)]), .inr (.long, [(.long p3), (.long p4)]), .inr (.long, [(.long p4), (.long p3)]), .inr (.int, [(.int (own_selI I0 p0 p1)), (.int (own_selI I1 p0 p1)), oz, oz]), .inr (.int, [(.int (own_selI I0 p1 p2)), (.int (own_selI I1 p1 p2)), oz, oz]), .inr (.long, [(.long (own_selJ I0 p3 p4)), (.long (own_selJ I1 p3 p4)), ol, ol]), .inr (.long, [(.long (own_selJ I0 p4 p3)), (.long (own_selJ I1 p4 p3)), ol, ol]), .inl (0, [(rf n0 10), (rf n0 11), (rf n0 12), (rf n0 13), (.int (2 : Int32))]), .inr (.int, [(.int p0), (.int p1)]), .inr (.int, [(.int p1), (.int p2)]), .inr (.long, [(.long p3), (.long p4)]), .inr (.long, [(.long p4), (.long p3)]), .inl (0, [(rf n0 15), (rf n0 16), (rf n0 17), (rf n0 18), (.int (2 : Int32))]), .inr (.int, [(.int (own_selI I0 p0 p1)), (.int (own_selI I1 p0 p1)), oz, oz]), .inr (.int, [(.int (own_selI I0 p1 p2)), (.int (own_selI I1 p1 p2)), oz, oz]), .inr (.long, [(.long (own_selJ I0 p3 p4)), (.long (own_selJ I1 p3 p4)), ol, ol]), .inr (.long, [(.long (own_selJ I0 p4 p3)), (.long (own_selJ I1 p4 p3)), ol, ol])]) := by
  refine Met.of (a0 := a0) (ls := #[.val (rf n0 14)]) (kok hw) (plainFor_of_name pn_8) (fun m => by first | (simp [entryFrame, mkF, argsToLocals, Value.category]; done) | rfl) (fun G H => ?_)
  refine H.aloadN s8_0 rfl rfl ?_
  refine H.getfield s8_1 (k_12 hw) (i := 14) rfl rfl ?_
  exact H.areturn s8_4 rfl rfl rfl rfl ⟨rfl, rfl⟩ (by decide) (by decide)


set_option maxRecDepth 65536 in
set_option maxHeartbeats 40000000 in
theorem a_39 (l : Launch) {Z : State} {a0 : Array Value} (hw : HW1 Z a0) (n0 : Nat) (p0 : Int32) (p1 : Int32) (p2 : Int32) (p3 : Int64) (p4 : Int64) (i0 : Int32) (i1 : Int32) (I0 : Nat) (I1 : Nat) : Met l Z KT n0 y9 prog_15_method_8_code 1 (some (.array .long)) ({ frames := 0, cells := 0, slots := 0, locals := 0 } : Room) #[(rf n0 14)] [.inr (.int, [(.int i0), (.int i1)]), .inr (.int, [(.int p0), (.int p1)]), .inr (.int, [(.int p1), (.int p2)]), .inr (.long, [(.long p3), (.long p4)]), .inr (.long, [(.long p4), (.long p3)]), .inr (.int, [(.int (own_selI I0 p0 p1)), (.int (own_selI I1 p0 p1)), oz, oz]), .inr (.int, [(.int (own_selI I0 p1 p2)), (.int (own_selI I1 p1 p2)), oz, oz]), .inr (.long, [(.long (own_selJ I0 p3 p4)), (.long (own_selJ I1 p3 p4)), ol, ol]), .inr (.long, [(.long (own_selJ I0 p4 p3)), (.long (own_selJ I1 p4 p3)), ol, ol]), .inl (0, [(rf n0 10), (rf n0 11), (rf n0 12), (rf n0 13), (.int (2 : Int32))]), .inr (.int, [(.int p0), (.int p1)]), .inr (.int, [(.int p1), (.int p2)]), .inr (.long, [(.long p3), (.long p4)]), .inr (.long, [(.long p4), (.long p3)]), .inl (0, [(rf n0 15), (rf n0 16), (rf n0 17), (rf n0 18), (.int (2 : Int32))]), .inr (.int, [(.int (own_selI I0 p0 p1)), (.int (own_selI I1 p0 p1)), oz, oz]), .inr (.int, [(.int (own_selI I0 p1 p2)), (.int (own_selI I1 p1 p2)), oz, oz]), .inr (.long, [(.long (own_selJ I0 p3 p4)), (.long (own_selJ I1 p3 p4)), ol, ol]), .inr (.long, [(.long (own_selJ I0 p4 p3)), (.long (own_selJ I1 p4 p3)), ol, ol])] (Is (some (rf n0 17)) [.inr (.int, [(.int i0), (.int i1)]), .inr (.int, [(.int p0), (.int p1)]), .inr (.int, [(.int p1), (.int p2)]), .inr (.long, [(.long p3), (.long p4)]), .inr (.long, [(.long p4), (.long p3)]), .inr (.int, [(.int (own_selI I0 p0 p1)), (.int (own_selI I1 p0 p1)), oz, oz]), .inr (.int, [(.int (own_selI I0 p1 p2)), (.int (own_selI I1 p1 p2)), oz, oz]), .inr (.long, [(.long (own_selJ I0 p3 p4)), (.long (own_selJ I1 p3 p4)), ol, ol]), .inr (.long, [(.long (own_selJ I0 p4 p3)), (.long (own_selJ I1 p4 p3)), ol, ol]), .inl (0, [(rf n0 10), (rf n0 11), (rf n0 12), (rf n0 13), (.int (2 : Int32))]), .inr (.int, [(.int p0), (.int p1)]), .inr (.int, [(.int p1), (.int p2)]), .inr (.long, [(.long p3), (.long p4)]), .inr (.long, [(.long p4), (.long p3)]), .inl (0, [(rf n0 15), (rf n0 16), (rf n0 17), (rf n0 18), (.int (2 : Int32))]), .inr (.int, [(.int (own_selI I0 p0 p1)), (.int (own_selI I1 p0 p1)), oz, oz]), .inr (.int, [(.int (own_selI I0 p1 p2)), (.int (own_selI I1 p1 p2)), oz, oz]), .inr (.long, [(.long (own_selJ I0 p3 p4)), (.long (own_selJ I1 p3 p4)), ol, ol]), .inr (.long, [(.long (own_selJ I0 p4 p3)), (.long (own_selJ I1 p4 p3)), ol, ol])]) := by
  refine Met.of (a0 := a0) (ls := #[.val (rf n0 14)]) (kok hw) (plainFor_of_name pn_8) (fun m => by first | (simp [entryFrame, mkF, argsToLocals, Value.category]; done) | rfl) (fun G H => ?_)
  refine H.aloadN s9_0 rfl rfl ?_
  refine H.getfield s9_1 (k_13 hw) (i := 14) rfl rfl ?_
  exact H.areturn s9_4 rfl rfl rfl rfl ⟨rfl, rfl⟩ (by decide) (by decide)


set_option maxRecDepth 65536 in
set_option maxHeartbeats 40000000 in
theorem a_40 (l : Launch) {Z : State} {a0 : Array Value} (hw : HW1 Z a0) (n0 : Nat) (p0 : Int32) (p1 : Int32) (p2 : Int32) (p3 : Int64) (p4 : Int64) (i0 : Int32) (i1 : Int32) (I0 : Nat) (I1 : Nat) : Met l Z KT n0 y10 prog_15_method_9_code 1 (some (.array .long)) ({ frames := 0, cells := 0, slots := 0, locals := 0 } : Room) #[(rf n0 14)] [.inr (.int, [(.int i0), (.int i1)]), .inr (.int, [(.int p0), (.int p1)]), .inr (.int, [(.int p1), (.int p2)]), .inr (.long, [(.long p3), (.long p4)]), .inr (.long, [(.long p4), (.long p3)]), .inr (.int, [(.int (own_selI I0 p0 p1)), (.int (own_selI I1 p0 p1)), oz, oz]), .inr (.int, [(.int (own_selI I0 p1 p2)), (.int (own_selI I1 p1 p2)), oz, oz]), .inr (.long, [(.long (own_selJ I0 p3 p4)), (.long (own_selJ I1 p3 p4)), ol, ol]), .inr (.long, [(.long (own_selJ I0 p4 p3)), (.long (own_selJ I1 p4 p3)), ol, ol]), .inl (0, [(rf n0 10), (rf n0 11), (rf n0 12), (rf n0 13), (.int (2 : Int32))]), .inr (.int, [(.int p0), (.int p1)]), .inr (.int, [(.int p1), (.int p2)]), .inr (.long, [(.long p3), (.long p4)]), .inr (.long, [(.long p4), (.long p3)]), .inl (0, [(rf n0 15), (rf n0 16), (rf n0 17), (rf n0 18), (.int (2 : Int32))]), .inr (.int, [(.int (own_selI I0 p0 p1)), (.int (own_selI I1 p0 p1)), oz, oz]), .inr (.int, [(.int (own_selI I0 p1 p2)), (.int (own_selI I1 p1 p2)), oz, oz]), .inr (.long, [(.long (own_selJ I0 p3 p4)), (.long (own_selJ I1 p3 p4)), ol, ol]), .inr (.long, [(.long (own_selJ I0 p4 p3)), (.long (own_selJ I1 p4 p3)), ol, ol])] (Is (some (rf n0 18)) [.inr (.int, [(.int i0), (.int i1)]), .inr (.int, [(.int p0), (.int p1)]), .inr (.int, [(.int p1), (.int p2)]), .inr (.long, [(.long p3), (.long p4)]), .inr (.long, [(.long p4), (.long p3)]), .inr (.int, [(.int (own_selI I0 p0 p1)), (.int (own_selI I1 p0 p1)), oz, oz]), .inr (.int, [(.int (own_selI I0 p1 p2)), (.int (own_selI I1 p1 p2)), oz, oz]), .inr (.long, [(.long (own_selJ I0 p3 p4)), (.long (own_selJ I1 p3 p4)), ol, ol]), .inr (.long, [(.long (own_selJ I0 p4 p3)), (.long (own_selJ I1 p4 p3)), ol, ol]), .inl (0, [(rf n0 10), (rf n0 11), (rf n0 12), (rf n0 13), (.int (2 : Int32))]), .inr (.int, [(.int p0), (.int p1)]), .inr (.int, [(.int p1), (.int p2)]), .inr (.long, [(.long p3), (.long p4)]), .inr (.long, [(.long p4), (.long p3)]), .inl (0, [(rf n0 15), (rf n0 16), (rf n0 17), (rf n0 18), (.int (2 : Int32))]), .inr (.int, [(.int (own_selI I0 p0 p1)), (.int (own_selI I1 p0 p1)), oz, oz]), .inr (.int, [(.int (own_selI I0 p1 p2)), (.int (own_selI I1 p1 p2)), oz, oz]), .inr (.long, [(.long (own_selJ I0 p3 p4)), (.long (own_selJ I1 p3 p4)), ol, ol]), .inr (.long, [(.long (own_selJ I0 p4 p3)), (.long (own_selJ I1 p4 p3)), ol, ol])]) := by
  refine Met.of (a0 := a0) (ls := #[.val (rf n0 14)]) (kok hw) (plainFor_of_name pn_8) (fun m => by first | (simp [entryFrame, mkF, argsToLocals, Value.category]; done) | rfl) (fun G H => ?_)
  refine H.aloadN s10_0 rfl rfl ?_
  refine H.getfield s10_1 (k_14 hw) (i := 14) rfl rfl ?_
  exact H.areturn s10_4 rfl rfl rfl rfl ⟨rfl, rfl⟩ (by decide) (by decide)


set_option maxRecDepth 65536 in
set_option maxHeartbeats 40000000 in
theorem a_41 (l : Launch) {Z : State} {a0 : Array Value} (hw : HW1 Z a0) (n0 : Nat) (p0 : Int32) (p1 : Int32) (p2 : Int32) (p3 : Int64) (p4 : Int64) (i0 : Int32) (i1 : Int32) (I0 : Nat) (I1 : Nat) : Met l Z KT n0 y11 method_4_code 2 (some .boolean) ({ frames := 0, cells := 0, slots := 0, locals := 0 } : Room) #[(rf n0 15), (rf n0 5)] [.inr (.int, [(.int i0), (.int i1)]), .inr (.int, [(.int p0), (.int p1)]), .inr (.int, [(.int p1), (.int p2)]), .inr (.long, [(.long p3), (.long p4)]), .inr (.long, [(.long p4), (.long p3)]), .inr (.int, [(.int (own_selI I0 p0 p1)), (.int (own_selI I1 p0 p1)), oz, oz]), .inr (.int, [(.int (own_selI I0 p1 p2)), (.int (own_selI I1 p1 p2)), oz, oz]), .inr (.long, [(.long (own_selJ I0 p3 p4)), (.long (own_selJ I1 p3 p4)), ol, ol]), .inr (.long, [(.long (own_selJ I0 p4 p3)), (.long (own_selJ I1 p4 p3)), ol, ol]), .inl (0, [(rf n0 10), (rf n0 11), (rf n0 12), (rf n0 13), (.int (2 : Int32))]), .inr (.int, [(.int p0), (.int p1)]), .inr (.int, [(.int p1), (.int p2)]), .inr (.long, [(.long p3), (.long p4)]), .inr (.long, [(.long p4), (.long p3)]), .inl (0, [(rf n0 15), (rf n0 16), (rf n0 17), (rf n0 18), (.int (2 : Int32))]), .inr (.int, [(.int (own_selI I0 p0 p1)), (.int (own_selI I1 p0 p1)), oz, oz]), .inr (.int, [(.int (own_selI I0 p1 p2)), (.int (own_selI I1 p1 p2)), oz, oz]), .inr (.long, [(.long (own_selJ I0 p3 p4)), (.long (own_selJ I1 p3 p4)), ol, ol]), .inr (.long, [(.long (own_selJ I0 p4 p3)), (.long (own_selJ I1 p4 p3)), ol, ol])] (Is (some (.int (1 : Int32))) [.inr (.int, [(.int i0), (.int i1)]), .inr (.int, [(.int p0), (.int p1)]), .inr (.int, [(.int p1), (.int p2)]), .inr (.long, [(.long p3), (.long p4)]), .inr (.long, [(.long p4), (.long p3)]), .inr (.int, [(.int (own_selI I0 p0 p1)), (.int (own_selI I1 p0 p1)), oz, oz]), .inr (.int, [(.int (own_selI I0 p1 p2)), (.int (own_selI I1 p1 p2)), oz, oz]), .inr (.long, [(.long (own_selJ I0 p3 p4)), (.long (own_selJ I1 p3 p4)), ol, ol]), .inr (.long, [(.long (own_selJ I0 p4 p3)), (.long (own_selJ I1 p4 p3)), ol, ol]), .inl (0, [(rf n0 10), (rf n0 11), (rf n0 12), (rf n0 13), (.int (2 : Int32))]), .inr (.int, [(.int p0), (.int p1)]), .inr (.int, [(.int p1), (.int p2)]), .inr (.long, [(.long p3), (.long p4)]), .inr (.long, [(.long p4), (.long p3)]), .inl (0, [(rf n0 15), (rf n0 16), (rf n0 17), (rf n0 18), (.int (2 : Int32))]), .inr (.int, [(.int (own_selI I0 p0 p1)), (.int (own_selI I1 p0 p1)), oz, oz]), .inr (.int, [(.int (own_selI I0 p1 p2)), (.int (own_selI I1 p1 p2)), oz, oz]), .inr (.long, [(.long (own_selJ I0 p3 p4)), (.long (own_selJ I1 p3 p4)), ol, ol]), .inr (.long, [(.long (own_selJ I0 p4 p3)), (.long (own_selJ I1 p4 p3)), ol, ol])]) := by
  refine Met.of (a0 := a0) (ls := #[.val (rf n0 15), .val (rf n0 5)]) (kok hw) (plainFor_of_name pn_24) (fun m => by first | (simp [entryFrame, mkF, argsToLocals, Value.category]; done) | rfl) (fun G H => ?_)
  refine H.aloadN s11_0 rfl rfl ?_
  refine H.arraylength s11_1 (i := 15) rfl (z := (4 : Int32)) rfl ?_
  refine H.iconst s11_2 (v := (4 : Int32)) (by decide) ?_
  refine H.icmpF s11_3 (show (4 : Int32) = (4 : Int32) by decide) ?_
  refine H.aloadN s11_6 rfl rfl ?_
  refine H.iconst s11_7 (v := (0 : Int32)) (by decide) ?_
  refine H.iaload s11_8 (i := 15) (j := 0) rfl (by decide) (v := (.int (own_selI I0 p0 p1))) rfl ?_
  refine H.aloadN s11_9 rfl rfl ?_
  refine H.iconst s11_10 (v := (0 : Int32)) (by decide) ?_
  refine H.iaload s11_11 (i := 5) (j := 0) rfl (by decide) (v := (.int (own_selI I0 p0 p1))) rfl ?_
  refine H.icmpF s11_12 rfl ?_
  refine H.aloadN s11_15 rfl rfl ?_
  refine H.iconst s11_16 (v := (1 : Int32)) (by decide) ?_
  refine H.iaload s11_17 (i := 15) (j := 1) rfl (by decide) (v := (.int (own_selI I1 p0 p1))) rfl ?_
  refine H.aloadN s11_18 rfl rfl ?_
  refine H.iconst s11_19 (v := (1 : Int32)) (by decide) ?_
  refine H.iaload s11_20 (i := 5) (j := 1) rfl (by decide) (v := (.int (own_selI I1 p0 p1))) rfl ?_
  refine H.icmpF s11_21 rfl ?_
  refine H.aloadN s11_24 rfl rfl ?_
  refine H.iconst s11_25 (v := (2 : Int32)) (by decide) ?_
  refine H.iaload s11_26 (i := 15) (j := 2) rfl (by decide) (v := oz) rfl ?_
  refine H.aloadN s11_27 rfl rfl ?_
  refine H.iconst s11_28 (v := (2 : Int32)) (by decide) ?_
  refine H.iaload s11_29 (i := 5) (j := 2) rfl (by decide) (v := oz) rfl ?_
  refine H.icmpF s11_30 (show (0 : Int32) = (0 : Int32) by decide) ?_
  refine H.aloadN s11_33 rfl rfl ?_
  refine H.iconst s11_34 (v := (3 : Int32)) (by decide) ?_
  refine H.iaload s11_35 (i := 15) (j := 3) rfl (by decide) (v := oz) rfl ?_
  refine H.aloadN s11_36 rfl rfl ?_
  refine H.iconst s11_37 (v := (3 : Int32)) (by decide) ?_
  refine H.iaload s11_38 (i := 5) (j := 3) rfl (by decide) (v := oz) rfl ?_
  refine H.icmpF s11_39 (show (0 : Int32) = (0 : Int32) by decide) ?_
  refine H.iconst s11_42 (v := (1 : Int32)) (by decide) ?_
  refine H.goto s11_43 ?_
  exact H.ireturn s11_47 rfl (by simp) rfl ⟨rfl, rfl⟩ (by decide) (by decide)


set_option maxRecDepth 65536 in
set_option maxHeartbeats 40000000 in
theorem a_42 (l : Launch) {Z : State} {a0 : Array Value} (hw : HW1 Z a0) (n0 : Nat) (p0 : Int32) (p1 : Int32) (p2 : Int32) (p3 : Int64) (p4 : Int64) (i0 : Int32) (i1 : Int32) (I0 : Nat) (I1 : Nat) : Met l Z KT n0 y11 method_4_code 2 (some .boolean) ({ frames := 0, cells := 0, slots := 0, locals := 0 } : Room) #[(rf n0 16), (rf n0 6)] [.inr (.int, [(.int i0), (.int i1)]), .inr (.int, [(.int p0), (.int p1)]), .inr (.int, [(.int p1), (.int p2)]), .inr (.long, [(.long p3), (.long p4)]), .inr (.long, [(.long p4), (.long p3)]), .inr (.int, [(.int (own_selI I0 p0 p1)), (.int (own_selI I1 p0 p1)), oz, oz]), .inr (.int, [(.int (own_selI I0 p1 p2)), (.int (own_selI I1 p1 p2)), oz, oz]), .inr (.long, [(.long (own_selJ I0 p3 p4)), (.long (own_selJ I1 p3 p4)), ol, ol]), .inr (.long, [(.long (own_selJ I0 p4 p3)), (.long (own_selJ I1 p4 p3)), ol, ol]), .inl (0, [(rf n0 10), (rf n0 11), (rf n0 12), (rf n0 13), (.int (2 : Int32))]), .inr (.int, [(.int p0), (.int p1)]), .inr (.int, [(.int p1), (.int p2)]), .inr (.long, [(.long p3), (.long p4)]), .inr (.long, [(.long p4), (.long p3)]), .inl (0, [(rf n0 15), (rf n0 16), (rf n0 17), (rf n0 18), (.int (2 : Int32))]), .inr (.int, [(.int (own_selI I0 p0 p1)), (.int (own_selI I1 p0 p1)), oz, oz]), .inr (.int, [(.int (own_selI I0 p1 p2)), (.int (own_selI I1 p1 p2)), oz, oz]), .inr (.long, [(.long (own_selJ I0 p3 p4)), (.long (own_selJ I1 p3 p4)), ol, ol]), .inr (.long, [(.long (own_selJ I0 p4 p3)), (.long (own_selJ I1 p4 p3)), ol, ol])] (Is (some (.int (1 : Int32))) [.inr (.int, [(.int i0), (.int i1)]), .inr (.int, [(.int p0), (.int p1)]), .inr (.int, [(.int p1), (.int p2)]), .inr (.long, [(.long p3), (.long p4)]), .inr (.long, [(.long p4), (.long p3)]), .inr (.int, [(.int (own_selI I0 p0 p1)), (.int (own_selI I1 p0 p1)), oz, oz]), .inr (.int, [(.int (own_selI I0 p1 p2)), (.int (own_selI I1 p1 p2)), oz, oz]), .inr (.long, [(.long (own_selJ I0 p3 p4)), (.long (own_selJ I1 p3 p4)), ol, ol]), .inr (.long, [(.long (own_selJ I0 p4 p3)), (.long (own_selJ I1 p4 p3)), ol, ol]), .inl (0, [(rf n0 10), (rf n0 11), (rf n0 12), (rf n0 13), (.int (2 : Int32))]), .inr (.int, [(.int p0), (.int p1)]), .inr (.int, [(.int p1), (.int p2)]), .inr (.long, [(.long p3), (.long p4)]), .inr (.long, [(.long p4), (.long p3)]), .inl (0, [(rf n0 15), (rf n0 16), (rf n0 17), (rf n0 18), (.int (2 : Int32))]), .inr (.int, [(.int (own_selI I0 p0 p1)), (.int (own_selI I1 p0 p1)), oz, oz]), .inr (.int, [(.int (own_selI I0 p1 p2)), (.int (own_selI I1 p1 p2)), oz, oz]), .inr (.long, [(.long (own_selJ I0 p3 p4)), (.long (own_selJ I1 p3 p4)), ol, ol]), .inr (.long, [(.long (own_selJ I0 p4 p3)), (.long (own_selJ I1 p4 p3)), ol, ol])]) := by
  refine Met.of (a0 := a0) (ls := #[.val (rf n0 16), .val (rf n0 6)]) (kok hw) (plainFor_of_name pn_24) (fun m => by first | (simp [entryFrame, mkF, argsToLocals, Value.category]; done) | rfl) (fun G H => ?_)
  refine H.aloadN s11_0 rfl rfl ?_
  refine H.arraylength s11_1 (i := 16) rfl (z := (4 : Int32)) rfl ?_
  refine H.iconst s11_2 (v := (4 : Int32)) (by decide) ?_
  refine H.icmpF s11_3 (show (4 : Int32) = (4 : Int32) by decide) ?_
  refine H.aloadN s11_6 rfl rfl ?_
  refine H.iconst s11_7 (v := (0 : Int32)) (by decide) ?_
  refine H.iaload s11_8 (i := 16) (j := 0) rfl (by decide) (v := (.int (own_selI I0 p1 p2))) rfl ?_
  refine H.aloadN s11_9 rfl rfl ?_
  refine H.iconst s11_10 (v := (0 : Int32)) (by decide) ?_
  refine H.iaload s11_11 (i := 6) (j := 0) rfl (by decide) (v := (.int (own_selI I0 p1 p2))) rfl ?_
  refine H.icmpF s11_12 rfl ?_
  refine H.aloadN s11_15 rfl rfl ?_
  refine H.iconst s11_16 (v := (1 : Int32)) (by decide) ?_
  refine H.iaload s11_17 (i := 16) (j := 1) rfl (by decide) (v := (.int (own_selI I1 p1 p2))) rfl ?_
  refine H.aloadN s11_18 rfl rfl ?_
  refine H.iconst s11_19 (v := (1 : Int32)) (by decide) ?_
  refine H.iaload s11_20 (i := 6) (j := 1) rfl (by decide) (v := (.int (own_selI I1 p1 p2))) rfl ?_
  refine H.icmpF s11_21 rfl ?_
  refine H.aloadN s11_24 rfl rfl ?_
  refine H.iconst s11_25 (v := (2 : Int32)) (by decide) ?_
  refine H.iaload s11_26 (i := 16) (j := 2) rfl (by decide) (v := oz) rfl ?_
  refine H.aloadN s11_27 rfl rfl ?_
  refine H.iconst s11_28 (v := (2 : Int32)) (by decide) ?_
  refine H.iaload s11_29 (i := 6) (j := 2) rfl (by decide) (v := oz) rfl ?_
  refine H.icmpF s11_30 (show (0 : Int32) = (0 : Int32) by decide) ?_
  refine H.aloadN s11_33 rfl rfl ?_
  refine H.iconst s11_34 (v := (3 : Int32)) (by decide) ?_
  refine H.iaload s11_35 (i := 16) (j := 3) rfl (by decide) (v := oz) rfl ?_
  refine H.aloadN s11_36 rfl rfl ?_
  refine H.iconst s11_37 (v := (3 : Int32)) (by decide) ?_
  refine H.iaload s11_38 (i := 6) (j := 3) rfl (by decide) (v := oz) rfl ?_
  refine H.icmpF s11_39 (show (0 : Int32) = (0 : Int32) by decide) ?_
  refine H.iconst s11_42 (v := (1 : Int32)) (by decide) ?_
  refine H.goto s11_43 ?_
  exact H.ireturn s11_47 rfl (by simp) rfl ⟨rfl, rfl⟩ (by decide) (by decide)


set_option maxRecDepth 65536 in
set_option maxHeartbeats 40000000 in
theorem a_43 (l : Launch) {Z : State} {a0 : Array Value} (hw : HW1 Z a0) (n0 : Nat) (p0 : Int32) (p1 : Int32) (p2 : Int32) (p3 : Int64) (p4 : Int64) (i0 : Int32) (i1 : Int32) (I0 : Nat) (I1 : Nat) : Met l Z KT n0 y12 method_5_code 2 (some .boolean) ({ frames := 0, cells := 0, slots := 0, locals := 0 } : Room) #[(rf n0 17), (rf n0 7)] [.inr (.int, [(.int i0), (.int i1)]), .inr (.int, [(.int p0), (.int p1)]), .inr (.int, [(.int p1), (.int p2)]), .inr (.long, [(.long p3), (.long p4)]), .inr (.long, [(.long p4), (.long p3)]), .inr (.int, [(.int (own_selI I0 p0 p1)), (.int (own_selI I1 p0 p1)), oz, oz]), .inr (.int, [(.int (own_selI I0 p1 p2)), (.int (own_selI I1 p1 p2)), oz, oz]), .inr (.long, [(.long (own_selJ I0 p3 p4)), (.long (own_selJ I1 p3 p4)), ol, ol]), .inr (.long, [(.long (own_selJ I0 p4 p3)), (.long (own_selJ I1 p4 p3)), ol, ol]), .inl (0, [(rf n0 10), (rf n0 11), (rf n0 12), (rf n0 13), (.int (2 : Int32))]), .inr (.int, [(.int p0), (.int p1)]), .inr (.int, [(.int p1), (.int p2)]), .inr (.long, [(.long p3), (.long p4)]), .inr (.long, [(.long p4), (.long p3)]), .inl (0, [(rf n0 15), (rf n0 16), (rf n0 17), (rf n0 18), (.int (2 : Int32))]), .inr (.int, [(.int (own_selI I0 p0 p1)), (.int (own_selI I1 p0 p1)), oz, oz]), .inr (.int, [(.int (own_selI I0 p1 p2)), (.int (own_selI I1 p1 p2)), oz, oz]), .inr (.long, [(.long (own_selJ I0 p3 p4)), (.long (own_selJ I1 p3 p4)), ol, ol]), .inr (.long, [(.long (own_selJ I0 p4 p3)), (.long (own_selJ I1 p4 p3)), ol, ol])] (Is (some (.int (1 : Int32))) [.inr (.int, [(.int i0), (.int i1)]), .inr (.int, [(.int p0), (.int p1)]), .inr (.int, [(.int p1), (.int p2)]), .inr (.long, [(.long p3), (.long p4)]), .inr (.long, [(.long p4), (.long p3)]), .inr (.int, [(.int (own_selI I0 p0 p1)), (.int (own_selI I1 p0 p1)), oz, oz]), .inr (.int, [(.int (own_selI I0 p1 p2)), (.int (own_selI I1 p1 p2)), oz, oz]), .inr (.long, [(.long (own_selJ I0 p3 p4)), (.long (own_selJ I1 p3 p4)), ol, ol]), .inr (.long, [(.long (own_selJ I0 p4 p3)), (.long (own_selJ I1 p4 p3)), ol, ol]), .inl (0, [(rf n0 10), (rf n0 11), (rf n0 12), (rf n0 13), (.int (2 : Int32))]), .inr (.int, [(.int p0), (.int p1)]), .inr (.int, [(.int p1), (.int p2)]), .inr (.long, [(.long p3), (.long p4)]), .inr (.long, [(.long p4), (.long p3)]), .inl (0, [(rf n0 15), (rf n0 16), (rf n0 17), (rf n0 18), (.int (2 : Int32))]), .inr (.int, [(.int (own_selI I0 p0 p1)), (.int (own_selI I1 p0 p1)), oz, oz]), .inr (.int, [(.int (own_selI I0 p1 p2)), (.int (own_selI I1 p1 p2)), oz, oz]), .inr (.long, [(.long (own_selJ I0 p3 p4)), (.long (own_selJ I1 p3 p4)), ol, ol]), .inr (.long, [(.long (own_selJ I0 p4 p3)), (.long (own_selJ I1 p4 p3)), ol, ol])]) := by
  refine Met.of (a0 := a0) (ls := #[.val (rf n0 17), .val (rf n0 7)]) (kok hw) (plainFor_of_name pn_24) (fun m => by first | (simp [entryFrame, mkF, argsToLocals, Value.category]; done) | rfl) (fun G H => ?_)
  refine H.aloadN s12_0 rfl rfl ?_
  refine H.arraylength s12_1 (i := 17) rfl (z := (4 : Int32)) rfl ?_
  refine H.iconst s12_2 (v := (4 : Int32)) (by decide) ?_
  refine H.icmpF s12_3 (show (4 : Int32) = (4 : Int32) by decide) ?_
  refine H.aloadN s12_6 rfl rfl ?_
  refine H.iconst s12_7 (v := (0 : Int32)) (by decide) ?_
  refine H.laload s12_8 (i := 17) (j := 0) rfl (by decide) (v := (.long (own_selJ I0 p3 p4))) rfl ?_
  refine H.aloadN s12_9 rfl rfl ?_
  refine H.iconst s12_10 (v := (0 : Int32)) (by decide) ?_
  refine H.laload s12_11 (i := 7) (j := 0) rfl (by decide) (v := (.long (own_selJ I0 p3 p4))) rfl ?_
  refine H.lifF s12_12 s12_13 rfl ?_
  refine H.aloadN s12_16 rfl rfl ?_
  refine H.iconst s12_17 (v := (1 : Int32)) (by decide) ?_
  refine H.laload s12_18 (i := 17) (j := 1) rfl (by decide) (v := (.long (own_selJ I1 p3 p4))) rfl ?_
  refine H.aloadN s12_19 rfl rfl ?_
  refine H.iconst s12_20 (v := (1 : Int32)) (by decide) ?_
  refine H.laload s12_21 (i := 7) (j := 1) rfl (by decide) (v := (.long (own_selJ I1 p3 p4))) rfl ?_
  refine H.lifF s12_22 s12_23 rfl ?_
  refine H.aloadN s12_26 rfl rfl ?_
  refine H.iconst s12_27 (v := (2 : Int32)) (by decide) ?_
  refine H.laload s12_28 (i := 17) (j := 2) rfl (by decide) (v := ol) rfl ?_
  refine H.aloadN s12_29 rfl rfl ?_
  refine H.iconst s12_30 (v := (2 : Int32)) (by decide) ?_
  refine H.laload s12_31 (i := 7) (j := 2) rfl (by decide) (v := ol) rfl ?_
  refine H.lifF s12_32 s12_33 (show (0 : Int64) = (0 : Int64) by decide) ?_
  refine H.aloadN s12_36 rfl rfl ?_
  refine H.iconst s12_37 (v := (3 : Int32)) (by decide) ?_
  refine H.laload s12_38 (i := 17) (j := 3) rfl (by decide) (v := ol) rfl ?_
  refine H.aloadN s12_39 rfl rfl ?_
  refine H.iconst s12_40 (v := (3 : Int32)) (by decide) ?_
  refine H.laload s12_41 (i := 7) (j := 3) rfl (by decide) (v := ol) rfl ?_
  refine H.lifF s12_42 s12_43 (show (0 : Int64) = (0 : Int64) by decide) ?_
  refine H.iconst s12_46 (v := (1 : Int32)) (by decide) ?_
  refine H.goto s12_47 ?_
  exact H.ireturn s12_51 rfl (by simp) rfl ⟨rfl, rfl⟩ (by decide) (by decide)


set_option maxRecDepth 65536 in
set_option maxHeartbeats 40000000 in
theorem a_44 (l : Launch) {Z : State} {a0 : Array Value} (hw : HW1 Z a0) (n0 : Nat) (p0 : Int32) (p1 : Int32) (p2 : Int32) (p3 : Int64) (p4 : Int64) (i0 : Int32) (i1 : Int32) (I0 : Nat) (I1 : Nat) : Met l Z KT n0 y12 method_5_code 2 (some .boolean) ({ frames := 0, cells := 0, slots := 0, locals := 0 } : Room) #[(rf n0 18), (rf n0 8)] [.inr (.int, [(.int i0), (.int i1)]), .inr (.int, [(.int p0), (.int p1)]), .inr (.int, [(.int p1), (.int p2)]), .inr (.long, [(.long p3), (.long p4)]), .inr (.long, [(.long p4), (.long p3)]), .inr (.int, [(.int (own_selI I0 p0 p1)), (.int (own_selI I1 p0 p1)), oz, oz]), .inr (.int, [(.int (own_selI I0 p1 p2)), (.int (own_selI I1 p1 p2)), oz, oz]), .inr (.long, [(.long (own_selJ I0 p3 p4)), (.long (own_selJ I1 p3 p4)), ol, ol]), .inr (.long, [(.long (own_selJ I0 p4 p3)), (.long (own_selJ I1 p4 p3)), ol, ol]), .inl (0, [(rf n0 10), (rf n0 11), (rf n0 12), (rf n0 13), (.int (2 : Int32))]), .inr (.int, [(.int p0), (.int p1)]), .inr (.int, [(.int p1), (.int p2)]), .inr (.long, [(.long p3), (.long p4)]), .inr (.long, [(.long p4), (.long p3)]), .inl (0, [(rf n0 15), (rf n0 16), (rf n0 17), (rf n0 18), (.int (2 : Int32))]), .inr (.int, [(.int (own_selI I0 p0 p1)), (.int (own_selI I1 p0 p1)), oz, oz]), .inr (.int, [(.int (own_selI I0 p1 p2)), (.int (own_selI I1 p1 p2)), oz, oz]), .inr (.long, [(.long (own_selJ I0 p3 p4)), (.long (own_selJ I1 p3 p4)), ol, ol]), .inr (.long, [(.long (own_selJ I0 p4 p3)), (.long (own_selJ I1 p4 p3)), ol, ol])] (Is (some (.int (1 : Int32))) [.inr (.int, [(.int i0), (.int i1)]), .inr (.int, [(.int p0), (.int p1)]), .inr (.int, [(.int p1), (.int p2)]), .inr (.long, [(.long p3), (.long p4)]), .inr (.long, [(.long p4), (.long p3)]), .inr (.int, [(.int (own_selI I0 p0 p1)), (.int (own_selI I1 p0 p1)), oz, oz]), .inr (.int, [(.int (own_selI I0 p1 p2)), (.int (own_selI I1 p1 p2)), oz, oz]), .inr (.long, [(.long (own_selJ I0 p3 p4)), (.long (own_selJ I1 p3 p4)), ol, ol]), .inr (.long, [(.long (own_selJ I0 p4 p3)), (.long (own_selJ I1 p4 p3)), ol, ol]), .inl (0, [(rf n0 10), (rf n0 11), (rf n0 12), (rf n0 13), (.int (2 : Int32))]), .inr (.int, [(.int p0), (.int p1)]), .inr (.int, [(.int p1), (.int p2)]), .inr (.long, [(.long p3), (.long p4)]), .inr (.long, [(.long p4), (.long p3)]), .inl (0, [(rf n0 15), (rf n0 16), (rf n0 17), (rf n0 18), (.int (2 : Int32))]), .inr (.int, [(.int (own_selI I0 p0 p1)), (.int (own_selI I1 p0 p1)), oz, oz]), .inr (.int, [(.int (own_selI I0 p1 p2)), (.int (own_selI I1 p1 p2)), oz, oz]), .inr (.long, [(.long (own_selJ I0 p3 p4)), (.long (own_selJ I1 p3 p4)), ol, ol]), .inr (.long, [(.long (own_selJ I0 p4 p3)), (.long (own_selJ I1 p4 p3)), ol, ol])]) := by
  refine Met.of (a0 := a0) (ls := #[.val (rf n0 18), .val (rf n0 8)]) (kok hw) (plainFor_of_name pn_24) (fun m => by first | (simp [entryFrame, mkF, argsToLocals, Value.category]; done) | rfl) (fun G H => ?_)
  refine H.aloadN s12_0 rfl rfl ?_
  refine H.arraylength s12_1 (i := 18) rfl (z := (4 : Int32)) rfl ?_
  refine H.iconst s12_2 (v := (4 : Int32)) (by decide) ?_
  refine H.icmpF s12_3 (show (4 : Int32) = (4 : Int32) by decide) ?_
  refine H.aloadN s12_6 rfl rfl ?_
  refine H.iconst s12_7 (v := (0 : Int32)) (by decide) ?_
  refine H.laload s12_8 (i := 18) (j := 0) rfl (by decide) (v := (.long (own_selJ I0 p4 p3))) rfl ?_
  refine H.aloadN s12_9 rfl rfl ?_
  refine H.iconst s12_10 (v := (0 : Int32)) (by decide) ?_
  refine H.laload s12_11 (i := 8) (j := 0) rfl (by decide) (v := (.long (own_selJ I0 p4 p3))) rfl ?_
  refine H.lifF s12_12 s12_13 rfl ?_
  refine H.aloadN s12_16 rfl rfl ?_
  refine H.iconst s12_17 (v := (1 : Int32)) (by decide) ?_
  refine H.laload s12_18 (i := 18) (j := 1) rfl (by decide) (v := (.long (own_selJ I1 p4 p3))) rfl ?_
  refine H.aloadN s12_19 rfl rfl ?_
  refine H.iconst s12_20 (v := (1 : Int32)) (by decide) ?_
  refine H.laload s12_21 (i := 8) (j := 1) rfl (by decide) (v := (.long (own_selJ I1 p4 p3))) rfl ?_
  refine H.lifF s12_22 s12_23 rfl ?_
  refine H.aloadN s12_26 rfl rfl ?_
  refine H.iconst s12_27 (v := (2 : Int32)) (by decide) ?_
  refine H.laload s12_28 (i := 18) (j := 2) rfl (by decide) (v := ol) rfl ?_
  refine H.aloadN s12_29 rfl rfl ?_
  refine H.iconst s12_30 (v := (2 : Int32)) (by decide) ?_
  refine H.laload s12_31 (i := 8) (j := 2) rfl (by decide) (v := ol) rfl ?_
  refine H.lifF s12_32 s12_33 (show (0 : Int64) = (0 : Int64) by decide) ?_
  refine H.aloadN s12_36 rfl rfl ?_
  refine H.iconst s12_37 (v := (3 : Int32)) (by decide) ?_
  refine H.laload s12_38 (i := 18) (j := 3) rfl (by decide) (v := ol) rfl ?_
  refine H.aloadN s12_39 rfl rfl ?_
  refine H.iconst s12_40 (v := (3 : Int32)) (by decide) ?_
  refine H.laload s12_41 (i := 8) (j := 3) rfl (by decide) (v := ol) rfl ?_
  refine H.lifF s12_42 s12_43 (show (0 : Int64) = (0 : Int64) by decide) ?_
  refine H.iconst s12_46 (v := (1 : Int32)) (by decide) ?_
  refine H.goto s12_47 ?_
  exact H.ireturn s12_51 rfl (by simp) rfl ⟨rfl, rfl⟩ (by decide) (by decide)

theorem s0_94 : Nx code 94 (.iconst 3) 1 95 := ⟨at_94, rfl⟩
theorem s0_95 : Nx code 95 (.newarray .int) 2 97 := ⟨at_95, rfl⟩
theorem s0_97 : Nx code 97 (.dup) 1 98 := ⟨at_97, rfl⟩
theorem s0_98 : Nx code 98 (.iconst 0) 1 99 := ⟨at_98, rfl⟩
theorem s0_99 : Nx code 99 (.iload 10) 2 101 := ⟨at_99, rfl⟩
theorem s0_101 : Nx code 101 (.iastore) 1 102 := ⟨at_101, rfl⟩
theorem s0_102 : Nx code 102 (.dup) 1 103 := ⟨at_102, rfl⟩
theorem s0_103 : Nx code 103 (.iconst 1) 1 104 := ⟨at_103, rfl⟩
theorem s0_104 : Nx code 104 (.iload 11) 2 106 := ⟨at_104, rfl⟩
theorem s0_106 : Nx code 106 (.iastore) 1 107 := ⟨at_106, rfl⟩
theorem s0_107 : Nx code 107 (.dup) 1 108 := ⟨at_107, rfl⟩
theorem s0_108 : Nx code 108 (.iconst 2) 1 109 := ⟨at_108, rfl⟩
theorem s0_109 : Nx code 109 (.iload 12) 2 111 := ⟨at_109, rfl⟩
theorem s0_111 : Nx code 111 (.iastore) 1 112 := ⟨at_111, rfl⟩
theorem s0_112 : Nx code 112 (.astore 13) 2 114 := ⟨at_112, rfl⟩
set_option maxRecDepth 65536 in
set_option maxHeartbeats 40000000 in
theorem a_45 (l : Launch) {Z : State} {a0 : Array Value} (hw : HW1 Z a0) (n0 : Nat) (p0 : Int32) (p1 : Int32) (p2 : Int32) (p3 : Int64) (p4 : Int64) (i0 : Int32) (i1 : Int32) (i2 : Int32) {I0 : Nat} (hI0 : i0.toInt = (I0 : Int)) (lI0 : I0 < 2) {I1 : Nat} (hI1 : i1.toInt = (I1 : Int)) (lI1 : I1 < 2) {I2 : Nat} (hI2 : i2.toInt = (I2 : Int)) (lI2 : I2 < 2) : Met l Z KT n0 y1 method_3_code 10 none ({ frames := 0, cells := 0, slots := 0, locals := 0 } : Room) #[(rf n0 5), (rf n0 6), (rf n0 7), (rf n0 8), oz, (.int i0), (rf n0 1), (rf n0 2), (rf n0 3), (rf n0 4)] [.inr (.int, [(.int i0), (.int i1), (.int i2)]), .inr (.int, [(.int p0), (.int p1)]), .inr (.int, [(.int p1), (.int p2)]), .inr (.long, [(.long p3), (.long p4)]), .inr (.long, [(.long p4), (.long p3)]), .inr (.int, [oz, oz, oz, oz]), .inr (.int, [oz, oz, oz, oz]), .inr (.long, [ol, ol, ol, ol]), .inr (.long, [ol, ol, ol, ol])] (Is none [.inr (.int, [(.int i0), (.int i1), (.int i2)]), .inr (.int, [(.int p0), (.int p1)]), .inr (.int, [(.int p1), (.int p2)]), .inr (.long, [(.long p3), (.long p4)]), .inr (.long, [(.long p4), (.long p3)]), .inr (.int, [(.int (own_selI I0 p0 p1)), oz, oz, oz]), .inr (.int, [(.int (own_selI I0 p1 p2)), oz, oz, oz]), .inr (.long, [(.long (own_selJ I0 p3 p4)), ol, ol, ol]), .inr (.long, [(.long (own_selJ I0 p4 p3)), ol, ol, ol])]) := by
  refine Met.of (a0 := a0) (ls := #[.val (rf n0 5), .val (rf n0 6), .val (rf n0 7), .val (rf n0 8), .val oz, .val (.int i0), .val (rf n0 1), .val (rf n0 2), .val (rf n0 3), .val (rf n0 4)]) (kok hw) (plainFor_of_name pn_24) (fun m => by first | (simp [entryFrame, mkF, argsToLocals, Value.category]; done) | rfl) (fun G H => ?_)
  refine H.aloadN s1_0 rfl rfl ?_
  refine H.iload s1_1 rfl ?_
  refine H.aload s1_3 rfl rfl ?_
  refine H.iload s1_5 rfl ?_
  refine H.iaload s1_7 (i := 1) (j := I0) rfl hI0 (v := (.int (own_selI I0 p0 p1))) (own_gI lI0) ?_
  refine H.iastore s1_8 (i := 5) (j := 0) rfl (by decide) (ltb rfl)  rfl ?_
  refine H.aloadN s1_9 rfl rfl ?_
  refine H.iload s1_10 rfl ?_
  refine H.aload s1_12 rfl rfl ?_
  refine H.iload s1_14 rfl ?_
  refine H.iaload s1_16 (i := 2) (j := I0) rfl hI0 (v := (.int (own_selI I0 p1 p2))) (own_gI lI0) ?_
  refine H.iastore s1_17 (i := 6) (j := 0) rfl (by decide) (ltb rfl)  rfl ?_
  refine H.aloadN s1_18 rfl rfl ?_
  refine H.iload s1_19 rfl ?_
  refine H.aload s1_21 rfl rfl ?_
  refine H.iload s1_23 rfl ?_
  refine H.laload s1_25 (i := 3) (j := I0) rfl hI0 (v := (.long (own_selJ I0 p3 p4))) (own_gJ lI0) ?_
  refine H.lastore s1_26 (i := 7) (j := 0) rfl (by decide) (ltb rfl)  rfl ?_
  refine H.aloadN s1_27 rfl rfl ?_
  refine H.iload s1_28 rfl ?_
  refine H.aload s1_30 rfl rfl ?_
  refine H.iload s1_32 rfl ?_
  refine H.laload s1_34 (i := 4) (j := I0) rfl hI0 (v := (.long (own_selJ I0 p4 p3))) (own_gJ lI0) ?_
  refine H.lastore s1_35 (i := 8) (j := 0) rfl (by decide) (ltb rfl)  rfl ?_
  exact H.vreturn s1_36 rfl ⟨rfl, rfl⟩ (by decide) (by decide)


set_option maxRecDepth 65536 in
set_option maxHeartbeats 40000000 in
theorem a_46 (l : Launch) {Z : State} {a0 : Array Value} (hw : HW1 Z a0) (n0 : Nat) (p0 : Int32) (p1 : Int32) (p2 : Int32) (p3 : Int64) (p4 : Int64) (i0 : Int32) (i1 : Int32) (i2 : Int32) (I0 : Nat) (hI0 : i0.toInt = (I0 : Int)) (lI0 : I0 < 2) {I1 : Nat} (hI1 : i1.toInt = (I1 : Int)) (lI1 : I1 < 2) {I2 : Nat} (hI2 : i2.toInt = (I2 : Int)) (lI2 : I2 < 2) : Met l Z KT n0 y1 method_3_code 10 none ({ frames := 0, cells := 0, slots := 0, locals := 0 } : Room) #[(rf n0 5), (rf n0 6), (rf n0 7), (rf n0 8), (.int (1 : Int32)), (.int i1), (rf n0 1), (rf n0 2), (rf n0 3), (rf n0 4)] [.inr (.int, [(.int i0), (.int i1), (.int i2)]), .inr (.int, [(.int p0), (.int p1)]), .inr (.int, [(.int p1), (.int p2)]), .inr (.long, [(.long p3), (.long p4)]), .inr (.long, [(.long p4), (.long p3)]), .inr (.int, [(.int (own_selI I0 p0 p1)), oz, oz, oz]), .inr (.int, [(.int (own_selI I0 p1 p2)), oz, oz, oz]), .inr (.long, [(.long (own_selJ I0 p3 p4)), ol, ol, ol]), .inr (.long, [(.long (own_selJ I0 p4 p3)), ol, ol, ol])] (Is none [.inr (.int, [(.int i0), (.int i1), (.int i2)]), .inr (.int, [(.int p0), (.int p1)]), .inr (.int, [(.int p1), (.int p2)]), .inr (.long, [(.long p3), (.long p4)]), .inr (.long, [(.long p4), (.long p3)]), .inr (.int, [(.int (own_selI I0 p0 p1)), (.int (own_selI I1 p0 p1)), oz, oz]), .inr (.int, [(.int (own_selI I0 p1 p2)), (.int (own_selI I1 p1 p2)), oz, oz]), .inr (.long, [(.long (own_selJ I0 p3 p4)), (.long (own_selJ I1 p3 p4)), ol, ol]), .inr (.long, [(.long (own_selJ I0 p4 p3)), (.long (own_selJ I1 p4 p3)), ol, ol])]) := by
  refine Met.of (a0 := a0) (ls := #[.val (rf n0 5), .val (rf n0 6), .val (rf n0 7), .val (rf n0 8), .val (.int (1 : Int32)), .val (.int i1), .val (rf n0 1), .val (rf n0 2), .val (rf n0 3), .val (rf n0 4)]) (kok hw) (plainFor_of_name pn_24) (fun m => by first | (simp [entryFrame, mkF, argsToLocals, Value.category]; done) | rfl) (fun G H => ?_)
  refine H.aloadN s1_0 rfl rfl ?_
  refine H.iload s1_1 rfl ?_
  refine H.aload s1_3 rfl rfl ?_
  refine H.iload s1_5 rfl ?_
  refine H.iaload s1_7 (i := 1) (j := I1) rfl hI1 (v := (.int (own_selI I1 p0 p1))) (own_gI lI1) ?_
  refine H.iastore s1_8 (i := 5) (j := 1) rfl (by decide) (ltb rfl)  rfl ?_
  refine H.aloadN s1_9 rfl rfl ?_
  refine H.iload s1_10 rfl ?_
  refine H.aload s1_12 rfl rfl ?_
  refine H.iload s1_14 rfl ?_
  refine H.iaload s1_16 (i := 2) (j := I1) rfl hI1 (v := (.int (own_selI I1 p1 p2))) (own_gI lI1) ?_
  refine H.iastore s1_17 (i := 6) (j := 1) rfl (by decide) (ltb rfl)  rfl ?_
  refine H.aloadN s1_18 rfl rfl ?_
  refine H.iload s1_19 rfl ?_
  refine H.aload s1_21 rfl rfl ?_
  refine H.iload s1_23 rfl ?_
  refine H.laload s1_25 (i := 3) (j := I1) rfl hI1 (v := (.long (own_selJ I1 p3 p4))) (own_gJ lI1) ?_
  refine H.lastore s1_26 (i := 7) (j := 1) rfl (by decide) (ltb rfl)  rfl ?_
  refine H.aloadN s1_27 rfl rfl ?_
  refine H.iload s1_28 rfl ?_
  refine H.aload s1_30 rfl rfl ?_
  refine H.iload s1_32 rfl ?_
  refine H.laload s1_34 (i := 4) (j := I1) rfl hI1 (v := (.long (own_selJ I1 p4 p3))) (own_gJ lI1) ?_
  refine H.lastore s1_35 (i := 8) (j := 1) rfl (by decide) (ltb rfl)  rfl ?_
  exact H.vreturn s1_36 rfl ⟨rfl, rfl⟩ (by decide) (by decide)

theorem s0_289 : Nx code 289 (.aload 18) 2 291 := ⟨at_289, rfl⟩
theorem s0_291 : Nx code 291 (.aload 19) 2 293 := ⟨at_291, rfl⟩
theorem s0_293 : Nx code 293 (.aload 20) 2 295 := ⟨at_293, rfl⟩
theorem s0_295 : Nx code 295 (.aload 21) 2 297 := ⟨at_295, rfl⟩
theorem s0_297 : Nx code 297 (.iload 8) 2 299 := ⟨at_297, rfl⟩
theorem s0_299 : Nx code 299 (.iconst 2) 1 300 := ⟨at_299, rfl⟩
theorem s0_300 : Nx code 300 (.iadd) 1 301 := ⟨at_300, rfl⟩
theorem s0_301 : Nx code 301 (.iload 12) 2 303 := ⟨at_301, rfl⟩
theorem s0_303 : Nx code 303 (.aload 14) 2 305 := ⟨at_303, rfl⟩
theorem s0_305 : Nx code 305 (.aload 15) 2 307 := ⟨at_305, rfl⟩
theorem s0_307 : Nx code 307 (.aload 16) 2 309 := ⟨at_307, rfl⟩
theorem s0_309 : Nx code 309 (.aload 17) 2 311 := ⟨at_309, rfl⟩
theorem s0_311 : Nx code 311 (.invokestatic 9) 3 314 := ⟨at_311, rfl⟩
set_option maxRecDepth 65536 in
set_option maxHeartbeats 40000000 in
theorem a_47 (l : Launch) {Z : State} {a0 : Array Value} (hw : HW1 Z a0) (n0 : Nat) (p0 : Int32) (p1 : Int32) (p2 : Int32) (p3 : Int64) (p4 : Int64) (i0 : Int32) (i1 : Int32) (i2 : Int32) (I0 : Nat) (I1 : Nat) (hI0 : i0.toInt = (I0 : Int)) (lI0 : I0 < 2) (hI1 : i1.toInt = (I1 : Int)) (lI1 : I1 < 2) {I2 : Nat} (hI2 : i2.toInt = (I2 : Int)) (lI2 : I2 < 2) : Met l Z KT n0 y1 method_3_code 10 none ({ frames := 0, cells := 0, slots := 0, locals := 0 } : Room) #[(rf n0 5), (rf n0 6), (rf n0 7), (rf n0 8), (.int (2 : Int32)), (.int i2), (rf n0 1), (rf n0 2), (rf n0 3), (rf n0 4)] [.inr (.int, [(.int i0), (.int i1), (.int i2)]), .inr (.int, [(.int p0), (.int p1)]), .inr (.int, [(.int p1), (.int p2)]), .inr (.long, [(.long p3), (.long p4)]), .inr (.long, [(.long p4), (.long p3)]), .inr (.int, [(.int (own_selI I0 p0 p1)), (.int (own_selI I1 p0 p1)), oz, oz]), .inr (.int, [(.int (own_selI I0 p1 p2)), (.int (own_selI I1 p1 p2)), oz, oz]), .inr (.long, [(.long (own_selJ I0 p3 p4)), (.long (own_selJ I1 p3 p4)), ol, ol]), .inr (.long, [(.long (own_selJ I0 p4 p3)), (.long (own_selJ I1 p4 p3)), ol, ol])] (Is none [.inr (.int, [(.int i0), (.int i1), (.int i2)]), .inr (.int, [(.int p0), (.int p1)]), .inr (.int, [(.int p1), (.int p2)]), .inr (.long, [(.long p3), (.long p4)]), .inr (.long, [(.long p4), (.long p3)]), .inr (.int, [(.int (own_selI I0 p0 p1)), (.int (own_selI I1 p0 p1)), (.int (own_selI I2 p0 p1)), oz]), .inr (.int, [(.int (own_selI I0 p1 p2)), (.int (own_selI I1 p1 p2)), (.int (own_selI I2 p1 p2)), oz]), .inr (.long, [(.long (own_selJ I0 p3 p4)), (.long (own_selJ I1 p3 p4)), (.long (own_selJ I2 p3 p4)), ol]), .inr (.long, [(.long (own_selJ I0 p4 p3)), (.long (own_selJ I1 p4 p3)), (.long (own_selJ I2 p4 p3)), ol])]) := by
  refine Met.of (a0 := a0) (ls := #[.val (rf n0 5), .val (rf n0 6), .val (rf n0 7), .val (rf n0 8), .val (.int (2 : Int32)), .val (.int i2), .val (rf n0 1), .val (rf n0 2), .val (rf n0 3), .val (rf n0 4)]) (kok hw) (plainFor_of_name pn_24) (fun m => by first | (simp [entryFrame, mkF, argsToLocals, Value.category]; done) | rfl) (fun G H => ?_)
  refine H.aloadN s1_0 rfl rfl ?_
  refine H.iload s1_1 rfl ?_
  refine H.aload s1_3 rfl rfl ?_
  refine H.iload s1_5 rfl ?_
  refine H.iaload s1_7 (i := 1) (j := I2) rfl hI2 (v := (.int (own_selI I2 p0 p1))) (own_gI lI2) ?_
  refine H.iastore s1_8 (i := 5) (j := 2) rfl (by decide) (ltb rfl)  rfl ?_
  refine H.aloadN s1_9 rfl rfl ?_
  refine H.iload s1_10 rfl ?_
  refine H.aload s1_12 rfl rfl ?_
  refine H.iload s1_14 rfl ?_
  refine H.iaload s1_16 (i := 2) (j := I2) rfl hI2 (v := (.int (own_selI I2 p1 p2))) (own_gI lI2) ?_
  refine H.iastore s1_17 (i := 6) (j := 2) rfl (by decide) (ltb rfl)  rfl ?_
  refine H.aloadN s1_18 rfl rfl ?_
  refine H.iload s1_19 rfl ?_
  refine H.aload s1_21 rfl rfl ?_
  refine H.iload s1_23 rfl ?_
  refine H.laload s1_25 (i := 3) (j := I2) rfl hI2 (v := (.long (own_selJ I2 p3 p4))) (own_gJ lI2) ?_
  refine H.lastore s1_26 (i := 7) (j := 2) rfl (by decide) (ltb rfl)  rfl ?_
  refine H.aloadN s1_27 rfl rfl ?_
  refine H.iload s1_28 rfl ?_
  refine H.aload s1_30 rfl rfl ?_
  refine H.iload s1_32 rfl ?_
  refine H.laload s1_34 (i := 4) (j := I2) rfl hI2 (v := (.long (own_selJ I2 p4 p3))) (own_gJ lI2) ?_
  refine H.lastore s1_35 (i := 8) (j := 2) rfl (by decide) (ltb rfl)  rfl ?_
  exact H.vreturn s1_36 rfl ⟨rfl, rfl⟩ (by decide) (by decide)


set_option maxRecDepth 65536 in
set_option maxHeartbeats 40000000 in
theorem a_48 (l : Launch) {Z : State} {a0 : Array Value} (hw : HW1 Z a0) (n0 : Nat) (p0 : Int32) (p1 : Int32) (p2 : Int32) (p3 : Int64) (p4 : Int64) (i0 : Int32) (i1 : Int32) (i2 : Int32) (I0 : Nat) (I1 : Nat) (I2 : Nat) : Met l Z KT n0 y2 prog_15_method_1_code 2 none ({ frames := 1, cells := 4, slots := 8, locals := 12 } : Room) #[(rf n0 9), (.int (2 : Int32))] [.inr (.int, [(.int i0), (.int i1), (.int i2)]), .inr (.int, [(.int p0), (.int p1)]), .inr (.int, [(.int p1), (.int p2)]), .inr (.long, [(.long p3), (.long p4)]), .inr (.long, [(.long p4), (.long p3)]), .inr (.int, [(.int (own_selI I0 p0 p1)), (.int (own_selI I1 p0 p1)), (.int (own_selI I2 p0 p1)), oz]), .inr (.int, [(.int (own_selI I0 p1 p2)), (.int (own_selI I1 p1 p2)), (.int (own_selI I2 p1 p2)), oz]), .inr (.long, [(.long (own_selJ I0 p3 p4)), (.long (own_selJ I1 p3 p4)), (.long (own_selJ I2 p3 p4)), ol]), .inr (.long, [(.long (own_selJ I0 p4 p3)), (.long (own_selJ I1 p4 p3)), (.long (own_selJ I2 p4 p3)), ol]), .inl (0, [.null, .null, .null, .null, oz])] (Is none [.inr (.int, [(.int i0), (.int i1), (.int i2)]), .inr (.int, [(.int p0), (.int p1)]), .inr (.int, [(.int p1), (.int p2)]), .inr (.long, [(.long p3), (.long p4)]), .inr (.long, [(.long p4), (.long p3)]), .inr (.int, [(.int (own_selI I0 p0 p1)), (.int (own_selI I1 p0 p1)), (.int (own_selI I2 p0 p1)), oz]), .inr (.int, [(.int (own_selI I0 p1 p2)), (.int (own_selI I1 p1 p2)), (.int (own_selI I2 p1 p2)), oz]), .inr (.long, [(.long (own_selJ I0 p3 p4)), (.long (own_selJ I1 p3 p4)), (.long (own_selJ I2 p3 p4)), ol]), .inr (.long, [(.long (own_selJ I0 p4 p3)), (.long (own_selJ I1 p4 p3)), (.long (own_selJ I2 p4 p3)), ol]), .inl (0, [(rf n0 10), (rf n0 11), (rf n0 12), (rf n0 13), oz]), .inr (.int, [oz, oz]), .inr (.int, [oz, oz]), .inr (.long, [ol, ol]), .inr (.long, [ol, ol])]) := by
  refine Met.of (a0 := a0) (ls := #[.val (rf n0 9), .val (.int (2 : Int32))]) (kok hw) (plainFor_of_name pn_8) (fun m => by first | (simp [entryFrame, mkF, argsToLocals, Value.category]; done) | rfl) (fun G H => ?_)
  refine H.aloadN s2_0 rfl rfl ?_
  refine H.initO s2_1 (k_3 hw) rfl (leb rfl) (leb rfl) ?_
  refine H.aloadN s2_4 rfl rfl ?_
  refine H.iloadN s2_5 rfl ?_
  refine H.newarray s2_6 (ty := .int) rfl (k_0 hw) (N := 2) (cap := 2) (by decide) rfl (by decide) (by decide) (by first | rfl | simp) (by decide) (by decide) (i := 10) rfl (A' := [.inr (.int, [(.int i0), (.int i1), (.int i2)]), .inr (.int, [(.int p0), (.int p1)]), .inr (.int, [(.int p1), (.int p2)]), .inr (.long, [(.long p3), (.long p4)]), .inr (.long, [(.long p4), (.long p3)]), .inr (.int, [(.int (own_selI I0 p0 p1)), (.int (own_selI I1 p0 p1)), (.int (own_selI I2 p0 p1)), oz]), .inr (.int, [(.int (own_selI I0 p1 p2)), (.int (own_selI I1 p1 p2)), (.int (own_selI I2 p1 p2)), oz]), .inr (.long, [(.long (own_selJ I0 p3 p4)), (.long (own_selJ I1 p3 p4)), (.long (own_selJ I2 p3 p4)), ol]), .inr (.long, [(.long (own_selJ I0 p4 p3)), (.long (own_selJ I1 p4 p3)), (.long (own_selJ I2 p4 p3)), ol]), .inl (0, [.null, .null, .null, .null, oz]), .inr (.int, [oz, oz])]) rfl (k' := 1) rfl (n' := 2) rfl ?_
  refine H.putfield s2_8 (k_4 hw) (i := 9) rfl rfl rfl rfl ?_
  refine H.aloadN s2_11 rfl rfl ?_
  refine H.iloadN s2_12 rfl ?_
  refine H.newarray s2_13 (ty := .int) rfl (k_0 hw) (N := 2) (cap := 2) (by decide) rfl (by decide) (by decide) (by first | rfl | simp) (by decide) (by decide) (i := 11) rfl (A' := [.inr (.int, [(.int i0), (.int i1), (.int i2)]), .inr (.int, [(.int p0), (.int p1)]), .inr (.int, [(.int p1), (.int p2)]), .inr (.long, [(.long p3), (.long p4)]), .inr (.long, [(.long p4), (.long p3)]), .inr (.int, [(.int (own_selI I0 p0 p1)), (.int (own_selI I1 p0 p1)), (.int (own_selI I2 p0 p1)), oz]), .inr (.int, [(.int (own_selI I0 p1 p2)), (.int (own_selI I1 p1 p2)), (.int (own_selI I2 p1 p2)), oz]), .inr (.long, [(.long (own_selJ I0 p3 p4)), (.long (own_selJ I1 p3 p4)), (.long (own_selJ I2 p3 p4)), ol]), .inr (.long, [(.long (own_selJ I0 p4 p3)), (.long (own_selJ I1 p4 p3)), (.long (own_selJ I2 p4 p3)), ol]), .inl (0, [(rf n0 10), .null, .null, .null, oz]), .inr (.int, [oz, oz]), .inr (.int, [oz, oz])]) rfl (k' := 2) rfl (n' := 4) rfl ?_
  refine H.putfield s2_15 (k_5 hw) (i := 9) rfl rfl rfl rfl ?_
  refine H.aloadN s2_18 rfl rfl ?_
  refine H.iloadN s2_19 rfl ?_
  refine H.newarray s2_20 (ty := .long) rfl (k_1 hw) (N := 2) (cap := 2) (by decide) rfl (by decide) (by decide) (by first | rfl | simp) (by decide) (by decide) (i := 12) rfl (A' := [.inr (.int, [(.int i0), (.int i1), (.int i2)]), .inr (.int, [(.int p0), (.int p1)]), .inr (.int, [(.int p1), (.int p2)]), .inr (.long, [(.long p3), (.long p4)]), .inr (.long, [(.long p4), (.long p3)]), .inr (.int, [(.int (own_selI I0 p0 p1)), (.int (own_selI I1 p0 p1)), (.int (own_selI I2 p0 p1)), oz]), .inr (.int, [(.int (own_selI I0 p1 p2)), (.int (own_selI I1 p1 p2)), (.int (own_selI I2 p1 p2)), oz]), .inr (.long, [(.long (own_selJ I0 p3 p4)), (.long (own_selJ I1 p3 p4)), (.long (own_selJ I2 p3 p4)), ol]), .inr (.long, [(.long (own_selJ I0 p4 p3)), (.long (own_selJ I1 p4 p3)), (.long (own_selJ I2 p4 p3)), ol]), .inl (0, [(rf n0 10), (rf n0 11), .null, .null, oz]), .inr (.int, [oz, oz]), .inr (.int, [oz, oz]), .inr (.long, [ol, ol])]) rfl (k' := 3) rfl (n' := 6) rfl ?_
  refine H.putfield s2_22 (k_6 hw) (i := 9) rfl rfl rfl rfl ?_
  refine H.aloadN s2_25 rfl rfl ?_
  refine H.iloadN s2_26 rfl ?_
  refine H.newarray s2_27 (ty := .long) rfl (k_1 hw) (N := 2) (cap := 2) (by decide) rfl (by decide) (by decide) (by first | rfl | simp) (by decide) (by decide) (i := 13) rfl (A' := [.inr (.int, [(.int i0), (.int i1), (.int i2)]), .inr (.int, [(.int p0), (.int p1)]), .inr (.int, [(.int p1), (.int p2)]), .inr (.long, [(.long p3), (.long p4)]), .inr (.long, [(.long p4), (.long p3)]), .inr (.int, [(.int (own_selI I0 p0 p1)), (.int (own_selI I1 p0 p1)), (.int (own_selI I2 p0 p1)), oz]), .inr (.int, [(.int (own_selI I0 p1 p2)), (.int (own_selI I1 p1 p2)), (.int (own_selI I2 p1 p2)), oz]), .inr (.long, [(.long (own_selJ I0 p3 p4)), (.long (own_selJ I1 p3 p4)), (.long (own_selJ I2 p3 p4)), ol]), .inr (.long, [(.long (own_selJ I0 p4 p3)), (.long (own_selJ I1 p4 p3)), (.long (own_selJ I2 p4 p3)), ol]), .inl (0, [(rf n0 10), (rf n0 11), (rf n0 12), .null, oz]), .inr (.int, [oz, oz]), .inr (.int, [oz, oz]), .inr (.long, [ol, ol]), .inr (.long, [ol, ol])]) rfl (k' := 4) rfl (n' := 8) rfl ?_
  refine H.putfield s2_29 (k_7 hw) (i := 9) rfl rfl rfl rfl ?_
  exact H.vreturn s2_32 rfl ⟨rfl, rfl⟩ (by decide) (by decide)


set_option maxRecDepth 65536 in
set_option maxHeartbeats 40000000 in
theorem a_49 (l : Launch) {Z : State} {a0 : Array Value} (hw : HW1 Z a0) (n0 : Nat) (p0 : Int32) (p1 : Int32) (p2 : Int32) (p3 : Int64) (p4 : Int64) (i0 : Int32) (i1 : Int32) (i2 : Int32) (I0 : Nat) (I1 : Nat) (I2 : Nat) : Met l Z KT n0 y4 prog_15_method_2_code 7 none ({ frames := 0, cells := 0, slots := 0, locals := 0 } : Room) #[(rf n0 9), (.int p0), (.int p1), (.long p3), (.long p4)] [.inr (.int, [(.int i0), (.int i1), (.int i2)]), .inr (.int, [(.int p0), (.int p1)]), .inr (.int, [(.int p1), (.int p2)]), .inr (.long, [(.long p3), (.long p4)]), .inr (.long, [(.long p4), (.long p3)]), .inr (.int, [(.int (own_selI I0 p0 p1)), (.int (own_selI I1 p0 p1)), (.int (own_selI I2 p0 p1)), oz]), .inr (.int, [(.int (own_selI I0 p1 p2)), (.int (own_selI I1 p1 p2)), (.int (own_selI I2 p1 p2)), oz]), .inr (.long, [(.long (own_selJ I0 p3 p4)), (.long (own_selJ I1 p3 p4)), (.long (own_selJ I2 p3 p4)), ol]), .inr (.long, [(.long (own_selJ I0 p4 p3)), (.long (own_selJ I1 p4 p3)), (.long (own_selJ I2 p4 p3)), ol]), .inl (0, [(rf n0 10), (rf n0 11), (rf n0 12), (rf n0 13), oz]), .inr (.int, [oz, oz]), .inr (.int, [oz, oz]), .inr (.long, [ol, ol]), .inr (.long, [ol, ol])] (Is none [.inr (.int, [(.int i0), (.int i1), (.int i2)]), .inr (.int, [(.int p0), (.int p1)]), .inr (.int, [(.int p1), (.int p2)]), .inr (.long, [(.long p3), (.long p4)]), .inr (.long, [(.long p4), (.long p3)]), .inr (.int, [(.int (own_selI I0 p0 p1)), (.int (own_selI I1 p0 p1)), (.int (own_selI I2 p0 p1)), oz]), .inr (.int, [(.int (own_selI I0 p1 p2)), (.int (own_selI I1 p1 p2)), (.int (own_selI I2 p1 p2)), oz]), .inr (.long, [(.long (own_selJ I0 p3 p4)), (.long (own_selJ I1 p3 p4)), (.long (own_selJ I2 p3 p4)), ol]), .inr (.long, [(.long (own_selJ I0 p4 p3)), (.long (own_selJ I1 p4 p3)), (.long (own_selJ I2 p4 p3)), ol]), .inl (0, [(rf n0 10), (rf n0 11), (rf n0 12), (rf n0 13), (.int (1 : Int32))]), .inr (.int, [(.int p0), oz]), .inr (.int, [(.int p1), oz]), .inr (.long, [(.long p3), ol]), .inr (.long, [(.long p4), ol])]) := by
  refine Met.of (a0 := a0) (ls := #[.val (rf n0 9), .val (.int p0), .val (.int p1), .val (.long p3), .second, .val (.long p4), .second]) (kok hw) (plainFor_of_name pn_8) (fun m => by first | (simp [entryFrame, mkF, argsToLocals, Value.category]; done) | rfl) (fun G H => ?_)
  refine H.aloadN s4_0 rfl rfl ?_
  refine H.getfield s4_1 (k_10 hw) (i := 9) rfl rfl ?_
  refine H.aloadN s4_4 rfl rfl ?_
  refine H.getfield s4_5 (k_11 hw) (i := 9) rfl rfl ?_
  refine H.iloadN s4_8 rfl ?_
  refine H.iastore s4_9 (i := 10) (j := 0) rfl (by decide) (ltb rfl)  rfl ?_
  refine H.aloadN s4_10 rfl rfl ?_
  refine H.getfield s4_11 (k_12 hw) (i := 9) rfl rfl ?_
  refine H.aloadN s4_14 rfl rfl ?_
  refine H.getfield s4_15 (k_11 hw) (i := 9) rfl rfl ?_
  refine H.iloadN s4_18 rfl ?_
  refine H.iastore s4_19 (i := 11) (j := 0) rfl (by decide) (ltb rfl)  rfl ?_
  refine H.aloadN s4_20 rfl rfl ?_
  refine H.getfield s4_21 (k_13 hw) (i := 9) rfl rfl ?_
  refine H.aloadN s4_24 rfl rfl ?_
  refine H.getfield s4_25 (k_11 hw) (i := 9) rfl rfl ?_
  refine H.lloadN s4_28 rfl ?_
  refine H.lastore s4_29 (i := 12) (j := 0) rfl (by decide) (ltb rfl)  rfl ?_
  refine H.aloadN s4_30 rfl rfl ?_
  refine H.getfield s4_31 (k_14 hw) (i := 9) rfl rfl ?_
  refine H.aloadN s4_34 rfl rfl ?_
  refine H.getfield s4_35 (k_11 hw) (i := 9) rfl rfl ?_
  refine H.lload s4_38 rfl ?_
  refine H.lastore s4_40 (i := 13) (j := 0) rfl (by decide) (ltb rfl)  rfl ?_
  refine H.aloadN s4_41 rfl rfl ?_
  refine H.dup s4_42 rfl ?_
  refine H.getfield s4_43 (k_11 hw) (i := 9) rfl rfl ?_
  refine H.iconst s4_46 (v := (1 : Int32)) (by decide) ?_
  refine H.iadd s4_47 (w := (1 : Int32)) (by decide) ?_
  refine H.putfield s4_48 (k_15 hw) (i := 9) rfl rfl rfl rfl ?_
  exact H.vreturn s4_51 rfl ⟨rfl, rfl⟩ (by decide) (by decide)


set_option maxRecDepth 65536 in
set_option maxHeartbeats 40000000 in
theorem a_50 (l : Launch) {Z : State} {a0 : Array Value} (hw : HW1 Z a0) (n0 : Nat) (p0 : Int32) (p1 : Int32) (p2 : Int32) (p3 : Int64) (p4 : Int64) (i0 : Int32) (i1 : Int32) (i2 : Int32) (I0 : Nat) (I1 : Nat) (I2 : Nat) : Met l Z KT n0 y4 prog_15_method_2_code 7 none ({ frames := 0, cells := 0, slots := 0, locals := 0 } : Room) #[(rf n0 9), (.int p1), (.int p2), (.long p4), (.long p3)] [.inr (.int, [(.int i0), (.int i1), (.int i2)]), .inr (.int, [(.int p0), (.int p1)]), .inr (.int, [(.int p1), (.int p2)]), .inr (.long, [(.long p3), (.long p4)]), .inr (.long, [(.long p4), (.long p3)]), .inr (.int, [(.int (own_selI I0 p0 p1)), (.int (own_selI I1 p0 p1)), (.int (own_selI I2 p0 p1)), oz]), .inr (.int, [(.int (own_selI I0 p1 p2)), (.int (own_selI I1 p1 p2)), (.int (own_selI I2 p1 p2)), oz]), .inr (.long, [(.long (own_selJ I0 p3 p4)), (.long (own_selJ I1 p3 p4)), (.long (own_selJ I2 p3 p4)), ol]), .inr (.long, [(.long (own_selJ I0 p4 p3)), (.long (own_selJ I1 p4 p3)), (.long (own_selJ I2 p4 p3)), ol]), .inl (0, [(rf n0 10), (rf n0 11), (rf n0 12), (rf n0 13), (.int (1 : Int32))]), .inr (.int, [(.int p0), oz]), .inr (.int, [(.int p1), oz]), .inr (.long, [(.long p3), ol]), .inr (.long, [(.long p4), ol])] (Is none [.inr (.int, [(.int i0), (.int i1), (.int i2)]), .inr (.int, [(.int p0), (.int p1)]), .inr (.int, [(.int p1), (.int p2)]), .inr (.long, [(.long p3), (.long p4)]), .inr (.long, [(.long p4), (.long p3)]), .inr (.int, [(.int (own_selI I0 p0 p1)), (.int (own_selI I1 p0 p1)), (.int (own_selI I2 p0 p1)), oz]), .inr (.int, [(.int (own_selI I0 p1 p2)), (.int (own_selI I1 p1 p2)), (.int (own_selI I2 p1 p2)), oz]), .inr (.long, [(.long (own_selJ I0 p3 p4)), (.long (own_selJ I1 p3 p4)), (.long (own_selJ I2 p3 p4)), ol]), .inr (.long, [(.long (own_selJ I0 p4 p3)), (.long (own_selJ I1 p4 p3)), (.long (own_selJ I2 p4 p3)), ol]), .inl (0, [(rf n0 10), (rf n0 11), (rf n0 12), (rf n0 13), (.int (2 : Int32))]), .inr (.int, [(.int p0), (.int p1)]), .inr (.int, [(.int p1), (.int p2)]), .inr (.long, [(.long p3), (.long p4)]), .inr (.long, [(.long p4), (.long p3)])]) := by
  refine Met.of (a0 := a0) (ls := #[.val (rf n0 9), .val (.int p1), .val (.int p2), .val (.long p4), .second, .val (.long p3), .second]) (kok hw) (plainFor_of_name pn_8) (fun m => by first | (simp [entryFrame, mkF, argsToLocals, Value.category]; done) | rfl) (fun G H => ?_)
  refine H.aloadN s4_0 rfl rfl ?_
  refine H.getfield s4_1 (k_10 hw) (i := 9) rfl rfl ?_
  refine H.aloadN s4_4 rfl rfl ?_
  refine H.getfield s4_5 (k_11 hw) (i := 9) rfl rfl ?_
  refine H.iloadN s4_8 rfl ?_
  refine H.iastore s4_9 (i := 10) (j := 1) rfl (by decide) (ltb rfl)  rfl ?_
  refine H.aloadN s4_10 rfl rfl ?_
  refine H.getfield s4_11 (k_12 hw) (i := 9) rfl rfl ?_
  refine H.aloadN s4_14 rfl rfl ?_
  refine H.getfield s4_15 (k_11 hw) (i := 9) rfl rfl ?_
  refine H.iloadN s4_18 rfl ?_
  refine H.iastore s4_19 (i := 11) (j := 1) rfl (by decide) (ltb rfl)  rfl ?_
  refine H.aloadN s4_20 rfl rfl ?_
  refine H.getfield s4_21 (k_13 hw) (i := 9) rfl rfl ?_
  refine H.aloadN s4_24 rfl rfl ?_
  refine H.getfield s4_25 (k_11 hw) (i := 9) rfl rfl ?_
  refine H.lloadN s4_28 rfl ?_
  refine H.lastore s4_29 (i := 12) (j := 1) rfl (by decide) (ltb rfl)  rfl ?_
  refine H.aloadN s4_30 rfl rfl ?_
  refine H.getfield s4_31 (k_14 hw) (i := 9) rfl rfl ?_
  refine H.aloadN s4_34 rfl rfl ?_
  refine H.getfield s4_35 (k_11 hw) (i := 9) rfl rfl ?_
  refine H.lload s4_38 rfl ?_
  refine H.lastore s4_40 (i := 13) (j := 1) rfl (by decide) (ltb rfl)  rfl ?_
  refine H.aloadN s4_41 rfl rfl ?_
  refine H.dup s4_42 rfl ?_
  refine H.getfield s4_43 (k_11 hw) (i := 9) rfl rfl ?_
  refine H.iconst s4_46 (v := (1 : Int32)) (by decide) ?_
  refine H.iadd s4_47 (w := (2 : Int32)) (by decide) ?_
  refine H.putfield s4_48 (k_15 hw) (i := 9) rfl rfl rfl rfl ?_
  exact H.vreturn s4_51 rfl ⟨rfl, rfl⟩ (by decide) (by decide)


set_option maxRecDepth 65536 in
set_option maxHeartbeats 40000000 in
theorem a_51 (l : Launch) {Z : State} {a0 : Array Value} (hw : HW1 Z a0) (n0 : Nat) (p0 : Int32) (p1 : Int32) (p2 : Int32) (p3 : Int64) (p4 : Int64) (i0 : Int32) (i1 : Int32) (i2 : Int32) (I0 : Nat) (I1 : Nat) (I2 : Nat) : Met l Z KT n0 y2 prog_15_method_1_code 2 none ({ frames := 1, cells := 4, slots := 16, locals := 12 } : Room) #[(rf n0 14), (.int (4 : Int32))] [.inr (.int, [(.int i0), (.int i1), (.int i2)]), .inr (.int, [(.int p0), (.int p1)]), .inr (.int, [(.int p1), (.int p2)]), .inr (.long, [(.long p3), (.long p4)]), .inr (.long, [(.long p4), (.long p3)]), .inr (.int, [(.int (own_selI I0 p0 p1)), (.int (own_selI I1 p0 p1)), (.int (own_selI I2 p0 p1)), oz]), .inr (.int, [(.int (own_selI I0 p1 p2)), (.int (own_selI I1 p1 p2)), (.int (own_selI I2 p1 p2)), oz]), .inr (.long, [(.long (own_selJ I0 p3 p4)), (.long (own_selJ I1 p3 p4)), (.long (own_selJ I2 p3 p4)), ol]), .inr (.long, [(.long (own_selJ I0 p4 p3)), (.long (own_selJ I1 p4 p3)), (.long (own_selJ I2 p4 p3)), ol]), .inl (0, [(rf n0 10), (rf n0 11), (rf n0 12), (rf n0 13), (.int (2 : Int32))]), .inr (.int, [(.int p0), (.int p1)]), .inr (.int, [(.int p1), (.int p2)]), .inr (.long, [(.long p3), (.long p4)]), .inr (.long, [(.long p4), (.long p3)]), .inl (0, [.null, .null, .null, .null, oz])] (Is none [.inr (.int, [(.int i0), (.int i1), (.int i2)]), .inr (.int, [(.int p0), (.int p1)]), .inr (.int, [(.int p1), (.int p2)]), .inr (.long, [(.long p3), (.long p4)]), .inr (.long, [(.long p4), (.long p3)]), .inr (.int, [(.int (own_selI I0 p0 p1)), (.int (own_selI I1 p0 p1)), (.int (own_selI I2 p0 p1)), oz]), .inr (.int, [(.int (own_selI I0 p1 p2)), (.int (own_selI I1 p1 p2)), (.int (own_selI I2 p1 p2)), oz]), .inr (.long, [(.long (own_selJ I0 p3 p4)), (.long (own_selJ I1 p3 p4)), (.long (own_selJ I2 p3 p4)), ol]), .inr (.long, [(.long (own_selJ I0 p4 p3)), (.long (own_selJ I1 p4 p3)), (.long (own_selJ I2 p4 p3)), ol]), .inl (0, [(rf n0 10), (rf n0 11), (rf n0 12), (rf n0 13), (.int (2 : Int32))]), .inr (.int, [(.int p0), (.int p1)]), .inr (.int, [(.int p1), (.int p2)]), .inr (.long, [(.long p3), (.long p4)]), .inr (.long, [(.long p4), (.long p3)]), .inl (0, [(rf n0 15), (rf n0 16), (rf n0 17), (rf n0 18), oz]), .inr (.int, [oz, oz, oz, oz]), .inr (.int, [oz, oz, oz, oz]), .inr (.long, [ol, ol, ol, ol]), .inr (.long, [ol, ol, ol, ol])]) := by
  refine Met.of (a0 := a0) (ls := #[.val (rf n0 14), .val (.int (4 : Int32))]) (kok hw) (plainFor_of_name pn_8) (fun m => by first | (simp [entryFrame, mkF, argsToLocals, Value.category]; done) | rfl) (fun G H => ?_)
  refine H.aloadN s2_0 rfl rfl ?_
  refine H.initO s2_1 (k_3 hw) rfl (leb rfl) (leb rfl) ?_
  refine H.aloadN s2_4 rfl rfl ?_
  refine H.iloadN s2_5 rfl ?_
  refine H.newarray s2_6 (ty := .int) rfl (k_0 hw) (N := 4) (cap := 4) (by decide) rfl (by decide) (by decide) (by first | rfl | simp) (by decide) (by decide) (i := 15) rfl (A' := [.inr (.int, [(.int i0), (.int i1), (.int i2)]), .inr (.int, [(.int p0), (.int p1)]), .inr (.int, [(.int p1), (.int p2)]), .inr (.long, [(.long p3), (.long p4)]), .inr (.long, [(.long p4), (.long p3)]), .inr (.int, [(.int (own_selI I0 p0 p1)), (.int (own_selI I1 p0 p1)), (.int (own_selI I2 p0 p1)), oz]), .inr (.int, [(.int (own_selI I0 p1 p2)), (.int (own_selI I1 p1 p2)), (.int (own_selI I2 p1 p2)), oz]), .inr (.long, [(.long (own_selJ I0 p3 p4)), (.long (own_selJ I1 p3 p4)), (.long (own_selJ I2 p3 p4)), ol]), .inr (.long, [(.long (own_selJ I0 p4 p3)), (.long (own_selJ I1 p4 p3)), (.long (own_selJ I2 p4 p3)), ol]), .inl (0, [(rf n0 10), (rf n0 11), (rf n0 12), (rf n0 13), (.int (2 : Int32))]), .inr (.int, [(.int p0), (.int p1)]), .inr (.int, [(.int p1), (.int p2)]), .inr (.long, [(.long p3), (.long p4)]), .inr (.long, [(.long p4), (.long p3)]), .inl (0, [.null, .null, .null, .null, oz]), .inr (.int, [oz, oz, oz, oz])]) rfl (k' := 1) rfl (n' := 4) rfl ?_
  refine H.putfield s2_8 (k_4 hw) (i := 14) rfl rfl rfl rfl ?_
  refine H.aloadN s2_11 rfl rfl ?_
  refine H.iloadN s2_12 rfl ?_
  refine H.newarray s2_13 (ty := .int) rfl (k_0 hw) (N := 4) (cap := 4) (by decide) rfl (by decide) (by decide) (by first | rfl | simp) (by decide) (by decide) (i := 16) rfl (A' := [.inr (.int, [(.int i0), (.int i1), (.int i2)]), .inr (.int, [(.int p0), (.int p1)]), .inr (.int, [(.int p1), (.int p2)]), .inr (.long, [(.long p3), (.long p4)]), .inr (.long, [(.long p4), (.long p3)]), .inr (.int, [(.int (own_selI I0 p0 p1)), (.int (own_selI I1 p0 p1)), (.int (own_selI I2 p0 p1)), oz]), .inr (.int, [(.int (own_selI I0 p1 p2)), (.int (own_selI I1 p1 p2)), (.int (own_selI I2 p1 p2)), oz]), .inr (.long, [(.long (own_selJ I0 p3 p4)), (.long (own_selJ I1 p3 p4)), (.long (own_selJ I2 p3 p4)), ol]), .inr (.long, [(.long (own_selJ I0 p4 p3)), (.long (own_selJ I1 p4 p3)), (.long (own_selJ I2 p4 p3)), ol]), .inl (0, [(rf n0 10), (rf n0 11), (rf n0 12), (rf n0 13), (.int (2 : Int32))]), .inr (.int, [(.int p0), (.int p1)]), .inr (.int, [(.int p1), (.int p2)]), .inr (.long, [(.long p3), (.long p4)]), .inr (.long, [(.long p4), (.long p3)]), .inl (0, [(rf n0 15), .null, .null, .null, oz]), .inr (.int, [oz, oz, oz, oz]), .inr (.int, [oz, oz, oz, oz])]) rfl (k' := 2) rfl (n' := 8) rfl ?_
  refine H.putfield s2_15 (k_5 hw) (i := 14) rfl rfl rfl rfl ?_
  refine H.aloadN s2_18 rfl rfl ?_
  refine H.iloadN s2_19 rfl ?_
  refine H.newarray s2_20 (ty := .long) rfl (k_1 hw) (N := 4) (cap := 4) (by decide) rfl (by decide) (by decide) (by first | rfl | simp) (by decide) (by decide) (i := 17) rfl (A' := [.inr (.int, [(.int i0), (.int i1), (.int i2)]), .inr (.int, [(.int p0), (.int p1)]), .inr (.int, [(.int p1), (.int p2)]), .inr (.long, [(.long p3), (.long p4)]), .inr (.long, [(.long p4), (.long p3)]), .inr (.int, [(.int (own_selI I0 p0 p1)), (.int (own_selI I1 p0 p1)), (.int (own_selI I2 p0 p1)), oz]), .inr (.int, [(.int (own_selI I0 p1 p2)), (.int (own_selI I1 p1 p2)), (.int (own_selI I2 p1 p2)), oz]), .inr (.long, [(.long (own_selJ I0 p3 p4)), (.long (own_selJ I1 p3 p4)), (.long (own_selJ I2 p3 p4)), ol]), .inr (.long, [(.long (own_selJ I0 p4 p3)), (.long (own_selJ I1 p4 p3)), (.long (own_selJ I2 p4 p3)), ol]), .inl (0, [(rf n0 10), (rf n0 11), (rf n0 12), (rf n0 13), (.int (2 : Int32))]), .inr (.int, [(.int p0), (.int p1)]), .inr (.int, [(.int p1), (.int p2)]), .inr (.long, [(.long p3), (.long p4)]), .inr (.long, [(.long p4), (.long p3)]), .inl (0, [(rf n0 15), (rf n0 16), .null, .null, oz]), .inr (.int, [oz, oz, oz, oz]), .inr (.int, [oz, oz, oz, oz]), .inr (.long, [ol, ol, ol, ol])]) rfl (k' := 3) rfl (n' := 12) rfl ?_
  refine H.putfield s2_22 (k_6 hw) (i := 14) rfl rfl rfl rfl ?_
  refine H.aloadN s2_25 rfl rfl ?_
  refine H.iloadN s2_26 rfl ?_
  refine H.newarray s2_27 (ty := .long) rfl (k_1 hw) (N := 4) (cap := 4) (by decide) rfl (by decide) (by decide) (by first | rfl | simp) (by decide) (by decide) (i := 18) rfl (A' := [.inr (.int, [(.int i0), (.int i1), (.int i2)]), .inr (.int, [(.int p0), (.int p1)]), .inr (.int, [(.int p1), (.int p2)]), .inr (.long, [(.long p3), (.long p4)]), .inr (.long, [(.long p4), (.long p3)]), .inr (.int, [(.int (own_selI I0 p0 p1)), (.int (own_selI I1 p0 p1)), (.int (own_selI I2 p0 p1)), oz]), .inr (.int, [(.int (own_selI I0 p1 p2)), (.int (own_selI I1 p1 p2)), (.int (own_selI I2 p1 p2)), oz]), .inr (.long, [(.long (own_selJ I0 p3 p4)), (.long (own_selJ I1 p3 p4)), (.long (own_selJ I2 p3 p4)), ol]), .inr (.long, [(.long (own_selJ I0 p4 p3)), (.long (own_selJ I1 p4 p3)), (.long (own_selJ I2 p4 p3)), ol]), .inl (0, [(rf n0 10), (rf n0 11), (rf n0 12), (rf n0 13), (.int (2 : Int32))]), .inr (.int, [(.int p0), (.int p1)]), .inr (.int, [(.int p1), (.int p2)]), .inr (.long, [(.long p3), (.long p4)]), .inr (.long, [(.long p4), (.long p3)]), .inl (0, [(rf n0 15), (rf n0 16), (rf n0 17), .null, oz]), .inr (.int, [oz, oz, oz, oz]), .inr (.int, [oz, oz, oz, oz]), .inr (.long, [ol, ol, ol, ol]), .inr (.long, [ol, ol, ol, ol])]) rfl (k' := 4) rfl (n' := 16) rfl ?_
  refine H.putfield s2_29 (k_7 hw) (i := 14) rfl rfl rfl rfl ?_
  exact H.vreturn s2_32 rfl ⟨rfl, rfl⟩ (by decide) (by decide)


set_option maxRecDepth 65536 in
set_option maxHeartbeats 40000000 in
theorem a_52 (l : Launch) {Z : State} {a0 : Array Value} (hw : HW1 Z a0) (n0 : Nat) (p0 : Int32) (p1 : Int32) (p2 : Int32) (p3 : Int64) (p4 : Int64) (i0 : Int32) (i1 : Int32) (i2 : Int32) (I0 : Nat) (I1 : Nat) (I2 : Nat) (hI0 : i0.toInt = (I0 : Int)) (lI0 : I0 < 2) (hI1 : i1.toInt = (I1 : Int)) (lI1 : I1 < 2) (hI2 : i2.toInt = (I2 : Int)) (lI2 : I2 < 2) : Met l Z KT n0 y5 prog_15_method_4_code 5 none ({ frames := 0, cells := 0, slots := 0, locals := 0 } : Room) #[(rf n0 14), (rf n0 9), (rf n0 0)] [.inr (.int, [(.int i0), (.int i1), (.int i2)]), .inr (.int, [(.int p0), (.int p1)]), .inr (.int, [(.int p1), (.int p2)]), .inr (.long, [(.long p3), (.long p4)]), .inr (.long, [(.long p4), (.long p3)]), .inr (.int, [(.int (own_selI I0 p0 p1)), (.int (own_selI I1 p0 p1)), (.int (own_selI I2 p0 p1)), oz]), .inr (.int, [(.int (own_selI I0 p1 p2)), (.int (own_selI I1 p1 p2)), (.int (own_selI I2 p1 p2)), oz]), .inr (.long, [(.long (own_selJ I0 p3 p4)), (.long (own_selJ I1 p3 p4)), (.long (own_selJ I2 p3 p4)), ol]), .inr (.long, [(.long (own_selJ I0 p4 p3)), (.long (own_selJ I1 p4 p3)), (.long (own_selJ I2 p4 p3)), ol]), .inl (0, [(rf n0 10), (rf n0 11), (rf n0 12), (rf n0 13), (.int (2 : Int32))]), .inr (.int, [(.int p0), (.int p1)]), .inr (.int, [(.int p1), (.int p2)]), .inr (.long, [(.long p3), (.long p4)]), .inr (.long, [(.long p4), (.long p3)]), .inl (0, [(rf n0 15), (rf n0 16), (rf n0 17), (rf n0 18), oz]), .inr (.int, [oz, oz, oz, oz]), .inr (.int, [oz, oz, oz, oz]), .inr (.long, [ol, ol, ol, ol]), .inr (.long, [ol, ol, ol, ol])] (Is none [.inr (.int, [(.int i0), (.int i1), (.int i2)]), .inr (.int, [(.int p0), (.int p1)]), .inr (.int, [(.int p1), (.int p2)]), .inr (.long, [(.long p3), (.long p4)]), .inr (.long, [(.long p4), (.long p3)]), .inr (.int, [(.int (own_selI I0 p0 p1)), (.int (own_selI I1 p0 p1)), (.int (own_selI I2 p0 p1)), oz]), .inr (.int, [(.int (own_selI I0 p1 p2)), (.int (own_selI I1 p1 p2)), (.int (own_selI I2 p1 p2)), oz]), .inr (.long, [(.long (own_selJ I0 p3 p4)), (.long (own_selJ I1 p3 p4)), (.long (own_selJ I2 p3 p4)), ol]), .inr (.long, [(.long (own_selJ I0 p4 p3)), (.long (own_selJ I1 p4 p3)), (.long (own_selJ I2 p4 p3)), ol]), .inl (0, [(rf n0 10), (rf n0 11), (rf n0 12), (rf n0 13), (.int (2 : Int32))]), .inr (.int, [(.int p0), (.int p1)]), .inr (.int, [(.int p1), (.int p2)]), .inr (.long, [(.long p3), (.long p4)]), .inr (.long, [(.long p4), (.long p3)]), .inl (0, [(rf n0 15), (rf n0 16), (rf n0 17), (rf n0 18), (.int (3 : Int32))]), .inr (.int, [(.int (own_selI I0 p0 p1)), (.int (own_selI I1 p0 p1)), (.int (own_selI I2 p0 p1)), oz]), .inr (.int, [(.int (own_selI I0 p1 p2)), (.int (own_selI I1 p1 p2)), (.int (own_selI I2 p1 p2)), oz]), .inr (.long, [(.long (own_selJ I0 p3 p4)), (.long (own_selJ I1 p3 p4)), (.long (own_selJ I2 p3 p4)), ol]), .inr (.long, [(.long (own_selJ I0 p4 p3)), (.long (own_selJ I1 p4 p3)), (.long (own_selJ I2 p4 p3)), ol])]) := by
  refine Met.of (a0 := a0) (ls := #[.val (rf n0 14), .val (rf n0 9), .val (rf n0 0), .unset, .unset]) (kok hw) (plainFor_of_name pn_8) (fun m => by first | (simp [entryFrame, mkF, argsToLocals, Value.category]; done) | rfl) (fun G H => ?_)
  refine H.iconst s5_0 (v := (0 : Int32)) (by decide) ?_
  refine H.istoreN s5_1 (ls' := #[.val (rf n0 14), .val (rf n0 9), .val (rf n0 0), .val oz, .unset]) rfl ?_
  refine H.iloadN s5_2 rfl ?_
  refine H.aloadN s5_3 rfl rfl ?_
  refine H.arraylength s5_4 (i := 0) rfl (z := (3 : Int32)) rfl ?_
  refine H.icmpF s5_5 (show (0 : Int32) < (3 : Int32) by decide) ?_
  refine H.aloadN s5_8 rfl rfl ?_
  refine H.iloadN s5_9 rfl ?_
  refine H.iaload s5_10 (i := 0) (j := 0) rfl (by decide) (v := (.int i0)) rfl ?_
  refine H.istore s5_11 (ls' := #[.val (rf n0 14), .val (rf n0 9), .val (rf n0 0), .val oz, .val (.int i0)]) rfl ?_
  refine H.aloadN s5_13 rfl rfl ?_
  refine H.getfield s5_14 (k_10 hw) (i := 14) rfl rfl ?_
  refine H.aloadN s5_17 rfl rfl ?_
  refine H.getfield s5_18 (k_11 hw) (i := 14) rfl rfl ?_
  refine H.iloadN s5_21 rfl ?_
  refine H.iadd s5_22 (w := (0 : Int32)) (by decide) ?_
  refine H.aloadN s5_23 rfl rfl ?_
  refine H.getfield s5_24 (k_10 hw) (i := 9) rfl rfl ?_
  refine H.iload s5_27 rfl ?_
  refine H.iaload s5_29 (i := 10) (j := I0) rfl hI0 (v := (.int (own_selI I0 p0 p1))) (own_gI lI0) ?_
  refine H.iastore s5_30 (i := 15) (j := 0) rfl (by decide) (ltb rfl)  rfl ?_
  refine H.aloadN s5_31 rfl rfl ?_
  refine H.getfield s5_32 (k_12 hw) (i := 14) rfl rfl ?_
  refine H.aloadN s5_35 rfl rfl ?_
  refine H.getfield s5_36 (k_11 hw) (i := 14) rfl rfl ?_
  refine H.iloadN s5_39 rfl ?_
  refine H.iadd s5_40 (w := (0 : Int32)) (by decide) ?_
  refine H.aloadN s5_41 rfl rfl ?_
  refine H.getfield s5_42 (k_12 hw) (i := 9) rfl rfl ?_
  refine H.iload s5_45 rfl ?_
  refine H.iaload s5_47 (i := 11) (j := I0) rfl hI0 (v := (.int (own_selI I0 p1 p2))) (own_gI lI0) ?_
  refine H.iastore s5_48 (i := 16) (j := 0) rfl (by decide) (ltb rfl)  rfl ?_
  refine H.aloadN s5_49 rfl rfl ?_
  refine H.getfield s5_50 (k_13 hw) (i := 14) rfl rfl ?_
  refine H.aloadN s5_53 rfl rfl ?_
  refine H.getfield s5_54 (k_11 hw) (i := 14) rfl rfl ?_
  refine H.iloadN s5_57 rfl ?_
  refine H.iadd s5_58 (w := (0 : Int32)) (by decide) ?_
  refine H.aloadN s5_59 rfl rfl ?_
  refine H.getfield s5_60 (k_13 hw) (i := 9) rfl rfl ?_
  refine H.iload s5_63 rfl ?_
  refine H.laload s5_65 (i := 12) (j := I0) rfl hI0 (v := (.long (own_selJ I0 p3 p4))) (own_gJ lI0) ?_
  refine H.lastore s5_66 (i := 17) (j := 0) rfl (by decide) (ltb rfl)  rfl ?_
  refine H.aloadN s5_67 rfl rfl ?_
  refine H.getfield s5_68 (k_14 hw) (i := 14) rfl rfl ?_
  refine H.aloadN s5_71 rfl rfl ?_
  refine H.getfield s5_72 (k_11 hw) (i := 14) rfl rfl ?_
  refine H.iloadN s5_75 rfl ?_
  refine H.iadd s5_76 (w := (0 : Int32)) (by decide) ?_
  refine H.aloadN s5_77 rfl rfl ?_
  refine H.getfield s5_78 (k_14 hw) (i := 9) rfl rfl ?_
  refine H.iload s5_81 rfl ?_
  refine H.laload s5_83 (i := 13) (j := I0) rfl hI0 (v := (.long (own_selJ I0 p4 p3))) (own_gJ lI0) ?_
  refine H.lastore s5_84 (i := 18) (j := 0) rfl (by decide) (ltb rfl)  rfl ?_
  refine H.iinc s5_85 rfl (w := (1 : Int32)) (by decide) (ls' := #[.val (rf n0 14), .val (rf n0 9), .val (rf n0 0), .val (.int (1 : Int32)), .val (.int i0)]) rfl ?_
  refine H.goto s5_88 ?_
  refine H.iloadN s5_2 rfl ?_
  refine H.aloadN s5_3 rfl rfl ?_
  refine H.arraylength s5_4 (i := 0) rfl (z := (3 : Int32)) rfl ?_
  refine H.icmpF s5_5 (show (1 : Int32) < (3 : Int32) by decide) ?_
  refine H.aloadN s5_8 rfl rfl ?_
  refine H.iloadN s5_9 rfl ?_
  refine H.iaload s5_10 (i := 0) (j := 1) rfl (by decide) (v := (.int i1)) rfl ?_
  refine H.istore s5_11 (ls' := #[.val (rf n0 14), .val (rf n0 9), .val (rf n0 0), .val (.int (1 : Int32)), .val (.int i1)]) rfl ?_
  refine H.aloadN s5_13 rfl rfl ?_
  refine H.getfield s5_14 (k_10 hw) (i := 14) rfl rfl ?_
  refine H.aloadN s5_17 rfl rfl ?_
  refine H.getfield s5_18 (k_11 hw) (i := 14) rfl rfl ?_
  refine H.iloadN s5_21 rfl ?_
  refine H.iadd s5_22 (w := (1 : Int32)) (by decide) ?_
  refine H.aloadN s5_23 rfl rfl ?_
  refine H.getfield s5_24 (k_10 hw) (i := 9) rfl rfl ?_
  refine H.iload s5_27 rfl ?_
  refine H.iaload s5_29 (i := 10) (j := I1) rfl hI1 (v := (.int (own_selI I1 p0 p1))) (own_gI lI1) ?_
  refine H.iastore s5_30 (i := 15) (j := 1) rfl (by decide) (ltb rfl)  rfl ?_
  refine H.aloadN s5_31 rfl rfl ?_
  refine H.getfield s5_32 (k_12 hw) (i := 14) rfl rfl ?_
  refine H.aloadN s5_35 rfl rfl ?_
  refine H.getfield s5_36 (k_11 hw) (i := 14) rfl rfl ?_
  refine H.iloadN s5_39 rfl ?_
  refine H.iadd s5_40 (w := (1 : Int32)) (by decide) ?_
  refine H.aloadN s5_41 rfl rfl ?_
  refine H.getfield s5_42 (k_12 hw) (i := 9) rfl rfl ?_
  refine H.iload s5_45 rfl ?_
  refine H.iaload s5_47 (i := 11) (j := I1) rfl hI1 (v := (.int (own_selI I1 p1 p2))) (own_gI lI1) ?_
  refine H.iastore s5_48 (i := 16) (j := 1) rfl (by decide) (ltb rfl)  rfl ?_
  refine H.aloadN s5_49 rfl rfl ?_
  refine H.getfield s5_50 (k_13 hw) (i := 14) rfl rfl ?_
  refine H.aloadN s5_53 rfl rfl ?_
  refine H.getfield s5_54 (k_11 hw) (i := 14) rfl rfl ?_
  refine H.iloadN s5_57 rfl ?_
  refine H.iadd s5_58 (w := (1 : Int32)) (by decide) ?_
  refine H.aloadN s5_59 rfl rfl ?_
  refine H.getfield s5_60 (k_13 hw) (i := 9) rfl rfl ?_
  refine H.iload s5_63 rfl ?_
  refine H.laload s5_65 (i := 12) (j := I1) rfl hI1 (v := (.long (own_selJ I1 p3 p4))) (own_gJ lI1) ?_
  refine H.lastore s5_66 (i := 17) (j := 1) rfl (by decide) (ltb rfl)  rfl ?_
  refine H.aloadN s5_67 rfl rfl ?_
  refine H.getfield s5_68 (k_14 hw) (i := 14) rfl rfl ?_
  refine H.aloadN s5_71 rfl rfl ?_
  refine H.getfield s5_72 (k_11 hw) (i := 14) rfl rfl ?_
  refine H.iloadN s5_75 rfl ?_
  refine H.iadd s5_76 (w := (1 : Int32)) (by decide) ?_
  refine H.aloadN s5_77 rfl rfl ?_
  refine H.getfield s5_78 (k_14 hw) (i := 9) rfl rfl ?_
  refine H.iload s5_81 rfl ?_
  refine H.laload s5_83 (i := 13) (j := I1) rfl hI1 (v := (.long (own_selJ I1 p4 p3))) (own_gJ lI1) ?_
  refine H.lastore s5_84 (i := 18) (j := 1) rfl (by decide) (ltb rfl)  rfl ?_
  refine H.iinc s5_85 rfl (w := (2 : Int32)) (by decide) (ls' := #[.val (rf n0 14), .val (rf n0 9), .val (rf n0 0), .val (.int (2 : Int32)), .val (.int i1)]) rfl ?_
  refine H.goto s5_88 ?_
  refine H.iloadN s5_2 rfl ?_
  refine H.aloadN s5_3 rfl rfl ?_
  refine H.arraylength s5_4 (i := 0) rfl (z := (3 : Int32)) rfl ?_
  refine H.icmpF s5_5 (show (2 : Int32) < (3 : Int32) by decide) ?_
  refine H.aloadN s5_8 rfl rfl ?_
  refine H.iloadN s5_9 rfl ?_
  refine H.iaload s5_10 (i := 0) (j := 2) rfl (by decide) (v := (.int i2)) rfl ?_
  refine H.istore s5_11 (ls' := #[.val (rf n0 14), .val (rf n0 9), .val (rf n0 0), .val (.int (2 : Int32)), .val (.int i2)]) rfl ?_
  refine H.aloadN s5_13 rfl rfl ?_
  refine H.getfield s5_14 (k_10 hw) (i := 14) rfl rfl ?_
  refine H.aloadN s5_17 rfl rfl ?_
  refine H.getfield s5_18 (k_11 hw) (i := 14) rfl rfl ?_
  refine H.iloadN s5_21 rfl ?_
  refine H.iadd s5_22 (w := (2 : Int32)) (by decide) ?_
  refine H.aloadN s5_23 rfl rfl ?_
  refine H.getfield s5_24 (k_10 hw) (i := 9) rfl rfl ?_
  refine H.iload s5_27 rfl ?_
  refine H.iaload s5_29 (i := 10) (j := I2) rfl hI2 (v := (.int (own_selI I2 p0 p1))) (own_gI lI2) ?_
  refine H.iastore s5_30 (i := 15) (j := 2) rfl (by decide) (ltb rfl)  rfl ?_
  refine H.aloadN s5_31 rfl rfl ?_
  refine H.getfield s5_32 (k_12 hw) (i := 14) rfl rfl ?_
  refine H.aloadN s5_35 rfl rfl ?_
  refine H.getfield s5_36 (k_11 hw) (i := 14) rfl rfl ?_
  refine H.iloadN s5_39 rfl ?_
  refine H.iadd s5_40 (w := (2 : Int32)) (by decide) ?_
  refine H.aloadN s5_41 rfl rfl ?_
  refine H.getfield s5_42 (k_12 hw) (i := 9) rfl rfl ?_
  refine H.iload s5_45 rfl ?_
  refine H.iaload s5_47 (i := 11) (j := I2) rfl hI2 (v := (.int (own_selI I2 p1 p2))) (own_gI lI2) ?_
  refine H.iastore s5_48 (i := 16) (j := 2) rfl (by decide) (ltb rfl)  rfl ?_
  refine H.aloadN s5_49 rfl rfl ?_
  refine H.getfield s5_50 (k_13 hw) (i := 14) rfl rfl ?_
  refine H.aloadN s5_53 rfl rfl ?_
  refine H.getfield s5_54 (k_11 hw) (i := 14) rfl rfl ?_
  refine H.iloadN s5_57 rfl ?_
  refine H.iadd s5_58 (w := (2 : Int32)) (by decide) ?_
  refine H.aloadN s5_59 rfl rfl ?_
  refine H.getfield s5_60 (k_13 hw) (i := 9) rfl rfl ?_
  refine H.iload s5_63 rfl ?_
  refine H.laload s5_65 (i := 12) (j := I2) rfl hI2 (v := (.long (own_selJ I2 p3 p4))) (own_gJ lI2) ?_
  refine H.lastore s5_66 (i := 17) (j := 2) rfl (by decide) (ltb rfl)  rfl ?_
  refine H.aloadN s5_67 rfl rfl ?_
  refine H.getfield s5_68 (k_14 hw) (i := 14) rfl rfl ?_
  refine H.aloadN s5_71 rfl rfl ?_
  refine H.getfield s5_72 (k_11 hw) (i := 14) rfl rfl ?_
  refine H.iloadN s5_75 rfl ?_
  refine H.iadd s5_76 (w := (2 : Int32)) (by decide) ?_
  refine H.aloadN s5_77 rfl rfl ?_
  refine H.getfield s5_78 (k_14 hw) (i := 9) rfl rfl ?_
  refine H.iload s5_81 rfl ?_
  refine H.laload s5_83 (i := 13) (j := I2) rfl hI2 (v := (.long (own_selJ I2 p4 p3))) (own_gJ lI2) ?_
  refine H.lastore s5_84 (i := 18) (j := 2) rfl (by decide) (ltb rfl)  rfl ?_
  refine H.iinc s5_85 rfl (w := (3 : Int32)) (by decide) (ls' := #[.val (rf n0 14), .val (rf n0 9), .val (rf n0 0), .val (.int (3 : Int32)), .val (.int i2)]) rfl ?_
  refine H.goto s5_88 ?_
  refine H.iloadN s5_2 rfl ?_
  refine H.aloadN s5_3 rfl rfl ?_
  refine H.arraylength s5_4 (i := 0) rfl (z := (3 : Int32)) rfl ?_
  refine H.icmpT s5_5 (show ¬ (3 : Int32) < (3 : Int32) by decide) ?_
  refine H.aloadN s5_91 rfl rfl ?_
  refine H.dup s5_92 rfl ?_
  refine H.getfield s5_93 (k_11 hw) (i := 14) rfl rfl ?_
  refine H.aloadN s5_96 rfl rfl ?_
  refine H.arraylength s5_97 (i := 0) rfl (z := (3 : Int32)) rfl ?_
  refine H.iadd s5_98 (w := (3 : Int32)) (by decide) ?_
  refine H.putfield s5_99 (k_17 hw) (i := 14) rfl rfl rfl rfl ?_
  exact H.vreturn s5_102 rfl ⟨rfl, rfl⟩ (by decide) (by decide)


set_option maxRecDepth 65536 in
set_option maxHeartbeats 40000000 in
theorem a_53 (l : Launch) {Z : State} {a0 : Array Value} (hw : HW1 Z a0) (n0 : Nat) (p0 : Int32) (p1 : Int32) (p2 : Int32) (p3 : Int64) (p4 : Int64) (i0 : Int32) (i1 : Int32) (i2 : Int32) (I0 : Nat) (I1 : Nat) (I2 : Nat) : Met l Z KT n0 y6 prog_15_method_5_code 1 (some .int) ({ frames := 0, cells := 0, slots := 0, locals := 0 } : Room) #[(rf n0 14)] [.inr (.int, [(.int i0), (.int i1), (.int i2)]), .inr (.int, [(.int p0), (.int p1)]), .inr (.int, [(.int p1), (.int p2)]), .inr (.long, [(.long p3), (.long p4)]), .inr (.long, [(.long p4), (.long p3)]), .inr (.int, [(.int (own_selI I0 p0 p1)), (.int (own_selI I1 p0 p1)), (.int (own_selI I2 p0 p1)), oz]), .inr (.int, [(.int (own_selI I0 p1 p2)), (.int (own_selI I1 p1 p2)), (.int (own_selI I2 p1 p2)), oz]), .inr (.long, [(.long (own_selJ I0 p3 p4)), (.long (own_selJ I1 p3 p4)), (.long (own_selJ I2 p3 p4)), ol]), .inr (.long, [(.long (own_selJ I0 p4 p3)), (.long (own_selJ I1 p4 p3)), (.long (own_selJ I2 p4 p3)), ol]), .inl (0, [(rf n0 10), (rf n0 11), (rf n0 12), (rf n0 13), (.int (2 : Int32))]), .inr (.int, [(.int p0), (.int p1)]), .inr (.int, [(.int p1), (.int p2)]), .inr (.long, [(.long p3), (.long p4)]), .inr (.long, [(.long p4), (.long p3)]), .inl (0, [(rf n0 15), (rf n0 16), (rf n0 17), (rf n0 18), (.int (3 : Int32))]), .inr (.int, [(.int (own_selI I0 p0 p1)), (.int (own_selI I1 p0 p1)), (.int (own_selI I2 p0 p1)), oz]), .inr (.int, [(.int (own_selI I0 p1 p2)), (.int (own_selI I1 p1 p2)), (.int (own_selI I2 p1 p2)), oz]), .inr (.long, [(.long (own_selJ I0 p3 p4)), (.long (own_selJ I1 p3 p4)), (.long (own_selJ I2 p3 p4)), ol]), .inr (.long, [(.long (own_selJ I0 p4 p3)), (.long (own_selJ I1 p4 p3)), (.long (own_selJ I2 p4 p3)), ol])] (Is (some (.int (3 : Int32))) [.inr (.int, [(.int i0), (.int i1), (.int i2)]), .inr (.int, [(.int p0), (.int p1)]), .inr (.int, [(.int p1), (.int p2)]), .inr (.long, [(.long p3), (.long p4)]), .inr (.long, [(.long p4), (.long p3)]), .inr (.int, [(.int (own_selI I0 p0 p1)), (.int (own_selI I1 p0 p1)), (.int (own_selI I2 p0 p1)), oz]), .inr (.int, [(.int (own_selI I0 p1 p2)), (.int (own_selI I1 p1 p2)), (.int (own_selI I2 p1 p2)), oz]), .inr (.long, [(.long (own_selJ I0 p3 p4)), (.long (own_selJ I1 p3 p4)), (.long (own_selJ I2 p3 p4)), ol]), .inr (.long, [(.long (own_selJ I0 p4 p3)), (.long (own_selJ I1 p4 p3)), (.long (own_selJ I2 p4 p3)), ol]), .inl (0, [(rf n0 10), (rf n0 11), (rf n0 12), (rf n0 13), (.int (2 : Int32))]), .inr (.int, [(.int p0), (.int p1)]), .inr (.int, [(.int p1), (.int p2)]), .inr (.long, [(.long p3), (.long p4)]), .inr (.long, [(.long p4), (.long p3)]), .inl (0, [(rf n0 15), (rf n0 16), (rf n0 17), (rf n0 18), (.int (3 : Int32))]), .inr (.int, [(.int (own_selI I0 p0 p1)), (.int (own_selI I1 p0 p1)), (.int (own_selI I2 p0 p1)), oz]), .inr (.int, [(.int (own_selI I0 p1 p2)), (.int (own_selI I1 p1 p2)), (.int (own_selI I2 p1 p2)), oz]), .inr (.long, [(.long (own_selJ I0 p3 p4)), (.long (own_selJ I1 p3 p4)), (.long (own_selJ I2 p3 p4)), ol]), .inr (.long, [(.long (own_selJ I0 p4 p3)), (.long (own_selJ I1 p4 p3)), (.long (own_selJ I2 p4 p3)), ol])]) := by
  refine Met.of (a0 := a0) (ls := #[.val (rf n0 14)]) (kok hw) (plainFor_of_name pn_8) (fun m => by first | (simp [entryFrame, mkF, argsToLocals, Value.category]; done) | rfl) (fun G H => ?_)
  refine H.aloadN s6_0 rfl rfl ?_
  refine H.getfield s6_1 (k_11 hw) (i := 14) rfl rfl ?_
  exact H.ireturn s6_4 rfl (by simp) rfl ⟨rfl, rfl⟩ (by decide) (by decide)


set_option maxRecDepth 65536 in
set_option maxHeartbeats 40000000 in
theorem a_54 (l : Launch) {Z : State} {a0 : Array Value} (hw : HW1 Z a0) (n0 : Nat) (p0 : Int32) (p1 : Int32) (p2 : Int32) (p3 : Int64) (p4 : Int64) (i0 : Int32) (i1 : Int32) (i2 : Int32) (I0 : Nat) (I1 : Nat) (I2 : Nat) : Met l Z KT n0 y7 prog_15_method_6_code 1 (some (.array .int)) ({ frames := 0, cells := 0, slots := 0, locals := 0 } : Room) #[(rf n0 14)] [.inr (.int, [(.int i0), (.int i1), (.int i2)]), .inr (.int, [(.int p0), (.int p1)]), .inr (.int, [(.int p1), (.int p2)]), .inr (.long, [(.long p3), (.long p4)]), .inr (.long, [(.long p4), (.long p3)]), .inr (.int, [(.int (own_selI I0 p0 p1)), (.int (own_selI I1 p0 p1)), (.int (own_selI I2 p0 p1)), oz]), .inr (.int, [(.int (own_selI I0 p1 p2)), (.int (own_selI I1 p1 p2)), (.int (own_selI I2 p1 p2)), oz]), .inr (.long, [(.long (own_selJ I0 p3 p4)), (.long (own_selJ I1 p3 p4)), (.long (own_selJ I2 p3 p4)), ol]), .inr (.long, [(.long (own_selJ I0 p4 p3)), (.long (own_selJ I1 p4 p3)), (.long (own_selJ I2 p4 p3)), ol]), .inl (0, [(rf n0 10), (rf n0 11), (rf n0 12), (rf n0 13), (.int (2 : Int32))]), .inr (.int, [(.int p0), (.int p1)]), .inr (.int, [(.int p1), (.int p2)]), .inr (.long, [(.long p3), (.long p4)]), .inr (.long, [(.long p4), (.long p3)]), .inl (0, [(rf n0 15), (rf n0 16), (rf n0 17), (rf n0 18), (.int (3 : Int32))]), .inr (.int, [(.int (own_selI I0 p0 p1)), (.int (own_selI I1 p0 p1)), (.int (own_selI I2 p0 p1)), oz]), .inr (.int, [(.int (own_selI I0 p1 p2)), (.int (own_selI I1 p1 p2)), (.int (own_selI I2 p1 p2)), oz]), .inr (.long, [(.long (own_selJ I0 p3 p4)), (.long (own_selJ I1 p3 p4)), (.long (own_selJ I2 p3 p4)), ol]), .inr (.long, [(.long (own_selJ I0 p4 p3)), (.long (own_selJ I1 p4 p3)), (.long (own_selJ I2 p4 p3)), ol])] (Is (some (rf n0 15)) [.inr (.int, [(.int i0), (.int i1), (.int i2)]), .inr (.int, [(.int p0), (.int p1)]), .inr (.int, [(.int p1), (.int p2)]), .inr (.long, [(.long p3), (.long p4)]), .inr (.long, [(.long p4), (.long p3)]), .inr (.int, [(.int (own_selI I0 p0 p1)), (.int (own_selI I1 p0 p1)), (.int (own_selI I2 p0 p1)), oz]), .inr (.int, [(.int (own_selI I0 p1 p2)), (.int (own_selI I1 p1 p2)), (.int (own_selI I2 p1 p2)), oz]), .inr (.long, [(.long (own_selJ I0 p3 p4)), (.long (own_selJ I1 p3 p4)), (.long (own_selJ I2 p3 p4)), ol]), .inr (.long, [(.long (own_selJ I0 p4 p3)), (.long (own_selJ I1 p4 p3)), (.long (own_selJ I2 p4 p3)), ol]), .inl (0, [(rf n0 10), (rf n0 11), (rf n0 12), (rf n0 13), (.int (2 : Int32))]), .inr (.int, [(.int p0), (.int p1)]), .inr (.int, [(.int p1), (.int p2)]), .inr (.long, [(.long p3), (.long p4)]), .inr (.long, [(.long p4), (.long p3)]), .inl (0, [(rf n0 15), (rf n0 16), (rf n0 17), (rf n0 18), (.int (3 : Int32))]), .inr (.int, [(.int (own_selI I0 p0 p1)), (.int (own_selI I1 p0 p1)), (.int (own_selI I2 p0 p1)), oz]), .inr (.int, [(.int (own_selI I0 p1 p2)), (.int (own_selI I1 p1 p2)), (.int (own_selI I2 p1 p2)), oz]), .inr (.long, [(.long (own_selJ I0 p3 p4)), (.long (own_selJ I1 p3 p4)), (.long (own_selJ I2 p3 p4)), ol]), .inr (.long, [(.long (own_selJ I0 p4 p3)), (.long (own_selJ I1 p4 p3)), (.long (own_selJ I2 p4 p3)), ol])]) := by
  refine Met.of (a0 := a0) (ls := #[.val (rf n0 14)]) (kok hw) (plainFor_of_name pn_8) (fun m => by first | (simp [entryFrame, mkF, argsToLocals, Value.category]; done) | rfl) (fun G H => ?_)
  refine H.aloadN s7_0 rfl rfl ?_
  refine H.getfield s7_1 (k_10 hw) (i := 14) rfl rfl ?_
  exact H.areturn s7_4 rfl rfl rfl rfl ⟨rfl, rfl⟩ (by decide) (by decide)


set_option maxRecDepth 65536 in
set_option maxHeartbeats 40000000 in
theorem a_55 (l : Launch) {Z : State} {a0 : Array Value} (hw : HW1 Z a0) (n0 : Nat) (p0 : Int32) (p1 : Int32) (p2 : Int32) (p3 : Int64) (p4 : Int64) (i0 : Int32) (i1 : Int32) (i2 : Int32) (I0 : Nat) (I1 : Nat) (I2 : Nat) : Met l Z KT n0 y8 prog_15_method_7_code 1 (some (.array .int)) ({ frames := 0, cells := 0, slots := 0, locals := 0 } : Room) #[(rf n0 14)] [.inr (.int, [(.int i0), (.int i1), (.int i2)]), .inr (.int, [(.int p0), (.int p1)]), .inr (.int, [(.int p1), (.int p2)]), .inr (.long, [(.long p3), (.long p4)]), .inr (.long, [(.long p4), (.long p3)]), .inr (.int, [(.int (own_selI I0 p0 p1)), (.int (own_selI I1 p0 p1)), (.int (own_selI I2 p0 p1)), oz]), .inr (.int, [(.int (own_selI I0 p1 p2)), (.int (own_selI I1 p1 p2)), (.int (own_selI I2 p1 p2)), oz]), .inr (.long, [(.long (own_selJ I0 p3 p4)), (.long (own_selJ I1 p3 p4)), (.long (own_selJ I2 p3 p4)), ol]), .inr (.long, [(.long (own_selJ I0 p4 p3)), (.long (own_selJ I1 p4 p3)), (.long (own_selJ I2 p4 p3)), ol]), .inl (0, [(rf n0 10), (rf n0 11), (rf n0 12), (rf n0 13), (.int (2 : Int32))]), .inr (.int, [(.int p0), (.int p1)]), .inr (.int, [(.int p1), (.int p2)]), .inr (.long, [(.long p3), (.long p4)]), .inr (.long, [(.long p4), (.long p3)]), .inl (0, [(rf n0 15), (rf n0 16), (rf n0 17), (rf n0 18), (.int (3 : Int32))]), .inr (.int, [(.int (own_selI I0 p0 p1)), (.int (own_selI I1 p0 p1)), (.int (own_selI I2 p0 p1)), oz]), .inr (.int, [(.int (own_selI I0 p1 p2)), (.int (own_selI I1 p1 p2)), (.int (own_selI I2 p1 p2)), oz]), .inr (.long, [(.long (own_selJ I0 p3 p4)), (.long (own_selJ I1 p3 p4)), (.long (own_selJ I2 p3 p4)), ol]), .inr (.long, [(.long (own_selJ I0 p4 p3)), (.long (own_selJ I1 p4 p3)), (.long (own_selJ I2 p4 p3)), ol])] (Is (some (rf n0 16)) [.inr (.int, [(.int i0), (.int i1), (.int i2)]), .inr (.int, [(.int p0), (.int p1)]), .inr (.int, [(.int p1), (.int p2)]), .inr (.long, [(.long p3), (.long p4)]), .inr (.long, [(.long p4), (.long p3)]), .inr (.int, [(.int (own_selI I0 p0 p1)), (.int (own_selI I1 p0 p1)), (.int (own_selI I2 p0 p1)), oz]), .inr (.int, [(.int (own_selI I0 p1 p2)), (.int (own_selI I1 p1 p2)), (.int (own_selI I2 p1 p2)), oz]), .inr (.long, [(.long (own_selJ I0 p3 p4)), (.long (own_selJ I1 p3 p4)), (.long (own_selJ I2 p3 p4)), ol]), .inr (.long, [(.long (own_selJ I0 p4 p3)), (.long (own_selJ I1 p4 p3)), (.long (own_selJ I2 p4 p3)), ol]), .inl (0, [(rf n0 10), (rf n0 11), (rf n0 12), (rf n0 13), (.int (2 : Int32))]), .inr (.int, [(.int p0), (.int p1)]), .inr (.int, [(.int p1), (.int p2)]), .inr (.long, [(.long p3), (.long p4)]), .inr (.long, [(.long p4), (.long p3)]), .inl (0, [(rf n0 15), (rf n0 16), (rf n0 17), (rf n0 18), (.int (3 : Int32))]), .inr (.int, [(.int (own_selI I0 p0 p1)), (.int (own_selI I1 p0 p1)), (.int (own_selI I2 p0 p1)), oz]), .inr (.int, [(.int (own_selI I0 p1 p2)), (.int (own_selI I1 p1 p2)), (.int (own_selI I2 p1 p2)), oz]), .inr (.long, [(.long (own_selJ I0 p3 p4)), (.long (own_selJ I1 p3 p4)), (.long (own_selJ I2 p3 p4)), ol]), .inr (.long, [(.long (own_selJ I0 p4 p3)), (.long (own_selJ I1 p4 p3)), (.long (own_selJ I2 p4 p3)), ol])]) := by
  refine Met.of (a0 := a0) (ls := #[.val (rf n0 14)]) (kok hw) (plainFor_of_name pn_8) (fun m => by first | (simp [entryFrame, mkF, argsToLocals, Value.category]; done) | rfl) (fun G H => ?_)
  refine H.aloadN s8_0 rfl rfl ?_
  refine H.getfield s8_1 (k_12 hw) (i := 14) rfl rfl ?_
  exact H.areturn s8_4 rfl rfl rfl rfl ⟨rfl, rfl⟩ (by decide) (by decide)


set_option maxRecDepth 65536 in
set_option maxHeartbeats 40000000 in
theorem a_56 (l : Launch) {Z : State} {a0 : Array Value} (hw : HW1 Z a0) (n0 : Nat) (p0 : Int32) (p1 : Int32) (p2 : Int32) (p3 : Int64) (p4 : Int64) (i0 : Int32) (i1 : Int32) (i2 : Int32) (I0 : Nat) (I1 : Nat) (I2 : Nat) : Met l Z KT n0 y9 prog_15_method_8_code 1 (some (.array .long)) ({ frames := 0, cells := 0, slots := 0, locals := 0 } : Room) #[(rf n0 14)] [.inr (.int, [(.int i0), (.int i1), (.int i2)]), .inr (.int, [(.int p0), (.int p1)]), .inr (.int, [(.int p1), (.int p2)]), .inr (.long, [(.long p3), (.long p4)]), .inr (.long, [(.long p4), (.long p3)]), .inr (.int, [(.int (own_selI I0 p0 p1)), (.int (own_selI I1 p0 p1)), (.int (own_selI I2 p0 p1)), oz]), .inr (.int, [(.int (own_selI I0 p1 p2)), (.int (own_selI I1 p1 p2)), (.int (own_selI I2 p1 p2)), oz]), .inr (.long, [(.long (own_selJ I0 p3 p4)), (.long (own_selJ I1 p3 p4)), (.long (own_selJ I2 p3 p4)), ol]), .inr (.long, [(.long (own_selJ I0 p4 p3)), (.long (own_selJ I1 p4 p3)), (.long (own_selJ I2 p4 p3)), ol]), .inl (0, [(rf n0 10), (rf n0 11), (rf n0 12), (rf n0 13), (.int (2 : Int32))]), .inr (.int, [(.int p0), (.int p1)]), .inr (.int, [(.int p1), (.int p2)]), .inr (.long, [(.long p3), (.long p4)]), .inr (.long, [(.long p4), (.long p3)]), .inl (0, [(rf n0 15), (rf n0 16), (rf n0 17), (rf n0 18), (.int (3 : Int32))]), .inr (.int, [(.int (own_selI I0 p0 p1)), (.int (own_selI I1 p0 p1)), (.int (own_selI I2 p0 p1)), oz]), .inr (.int, [(.int (own_selI I0 p1 p2)), (.int (own_selI I1 p1 p2)), (.int (own_selI I2 p1 p2)), oz]), .inr (.long, [(.long (own_selJ I0 p3 p4)), (.long (own_selJ I1 p3 p4)), (.long (own_selJ I2 p3 p4)), ol]), .inr (.long, [(.long (own_selJ I0 p4 p3)), (.long (own_selJ I1 p4 p3)), (.long (own_selJ I2 p4 p3)), ol])] (Is (some (rf n0 17)) [.inr (.int, [(.int i0), (.int i1), (.int i2)]), .inr (.int, [(.int p0), (.int p1)]), .inr (.int, [(.int p1), (.int p2)]), .inr (.long, [(.long p3), (.long p4)]), .inr (.long, [(.long p4), (.long p3)]), .inr (.int, [(.int (own_selI I0 p0 p1)), (.int (own_selI I1 p0 p1)), (.int (own_selI I2 p0 p1)), oz]), .inr (.int, [(.int (own_selI I0 p1 p2)), (.int (own_selI I1 p1 p2)), (.int (own_selI I2 p1 p2)), oz]), .inr (.long, [(.long (own_selJ I0 p3 p4)), (.long (own_selJ I1 p3 p4)), (.long (own_selJ I2 p3 p4)), ol]), .inr (.long, [(.long (own_selJ I0 p4 p3)), (.long (own_selJ I1 p4 p3)), (.long (own_selJ I2 p4 p3)), ol]), .inl (0, [(rf n0 10), (rf n0 11), (rf n0 12), (rf n0 13), (.int (2 : Int32))]), .inr (.int, [(.int p0), (.int p1)]), .inr (.int, [(.int p1), (.int p2)]), .inr (.long, [(.long p3), (.long p4)]), .inr (.long, [(.long p4), (.long p3)]), .inl (0, [(rf n0 15), (rf n0 16), (rf n0 17), (rf n0 18), (.int (3 : Int32))]), .inr (.int, [(.int (own_selI I0 p0 p1)), (.int (own_selI I1 p0 p1)), (.int (own_selI I2 p0 p1)), oz]), .inr (.int, [(.int (own_selI I0 p1 p2)), (.int (own_selI I1 p1 p2)), (.int (own_selI I2 p1 p2)), oz]), .inr (.long, [(.long (own_selJ I0 p3 p4)), (.long (own_selJ I1 p3 p4)), (.long (own_selJ I2 p3 p4)), ol]), .inr (.long, [(.long (own_selJ I0 p4 p3)), (.long (own_selJ I1 p4 p3)), (.long (own_selJ I2 p4 p3)), ol])]) := by
  refine Met.of (a0 := a0) (ls := #[.val (rf n0 14)]) (kok hw) (plainFor_of_name pn_8) (fun m => by first | (simp [entryFrame, mkF, argsToLocals, Value.category]; done) | rfl) (fun G H => ?_)
  refine H.aloadN s9_0 rfl rfl ?_
  refine H.getfield s9_1 (k_13 hw) (i := 14) rfl rfl ?_
  exact H.areturn s9_4 rfl rfl rfl rfl ⟨rfl, rfl⟩ (by decide) (by decide)


set_option maxRecDepth 65536 in
set_option maxHeartbeats 40000000 in
theorem a_57 (l : Launch) {Z : State} {a0 : Array Value} (hw : HW1 Z a0) (n0 : Nat) (p0 : Int32) (p1 : Int32) (p2 : Int32) (p3 : Int64) (p4 : Int64) (i0 : Int32) (i1 : Int32) (i2 : Int32) (I0 : Nat) (I1 : Nat) (I2 : Nat) : Met l Z KT n0 y10 prog_15_method_9_code 1 (some (.array .long)) ({ frames := 0, cells := 0, slots := 0, locals := 0 } : Room) #[(rf n0 14)] [.inr (.int, [(.int i0), (.int i1), (.int i2)]), .inr (.int, [(.int p0), (.int p1)]), .inr (.int, [(.int p1), (.int p2)]), .inr (.long, [(.long p3), (.long p4)]), .inr (.long, [(.long p4), (.long p3)]), .inr (.int, [(.int (own_selI I0 p0 p1)), (.int (own_selI I1 p0 p1)), (.int (own_selI I2 p0 p1)), oz]), .inr (.int, [(.int (own_selI I0 p1 p2)), (.int (own_selI I1 p1 p2)), (.int (own_selI I2 p1 p2)), oz]), .inr (.long, [(.long (own_selJ I0 p3 p4)), (.long (own_selJ I1 p3 p4)), (.long (own_selJ I2 p3 p4)), ol]), .inr (.long, [(.long (own_selJ I0 p4 p3)), (.long (own_selJ I1 p4 p3)), (.long (own_selJ I2 p4 p3)), ol]), .inl (0, [(rf n0 10), (rf n0 11), (rf n0 12), (rf n0 13), (.int (2 : Int32))]), .inr (.int, [(.int p0), (.int p1)]), .inr (.int, [(.int p1), (.int p2)]), .inr (.long, [(.long p3), (.long p4)]), .inr (.long, [(.long p4), (.long p3)]), .inl (0, [(rf n0 15), (rf n0 16), (rf n0 17), (rf n0 18), (.int (3 : Int32))]), .inr (.int, [(.int (own_selI I0 p0 p1)), (.int (own_selI I1 p0 p1)), (.int (own_selI I2 p0 p1)), oz]), .inr (.int, [(.int (own_selI I0 p1 p2)), (.int (own_selI I1 p1 p2)), (.int (own_selI I2 p1 p2)), oz]), .inr (.long, [(.long (own_selJ I0 p3 p4)), (.long (own_selJ I1 p3 p4)), (.long (own_selJ I2 p3 p4)), ol]), .inr (.long, [(.long (own_selJ I0 p4 p3)), (.long (own_selJ I1 p4 p3)), (.long (own_selJ I2 p4 p3)), ol])] (Is (some (rf n0 18)) [.inr (.int, [(.int i0), (.int i1), (.int i2)]), .inr (.int, [(.int p0), (.int p1)]), .inr (.int, [(.int p1), (.int p2)]), .inr (.long, [(.long p3), (.long p4)]), .inr (.long, [(.long p4), (.long p3)]), .inr (.int, [(.int (own_selI I0 p0 p1)), (.int (own_selI I1 p0 p1)), (.int (own_selI I2 p0 p1)), oz]), .inr (.int, [(.int (own_selI I0 p1 p2)), (.int (own_selI I1 p1 p2)), (.int (own_selI I2 p1 p2)), oz]), .inr (.long, [(.long (own_selJ I0 p3 p4)), (.long (own_selJ I1 p3 p4)), (.long (own_selJ I2 p3 p4)), ol]), .inr (.long, [(.long (own_selJ I0 p4 p3)), (.long (own_selJ I1 p4 p3)), (.long (own_selJ I2 p4 p3)), ol]), .inl (0, [(rf n0 10), (rf n0 11), (rf n0 12), (rf n0 13), (.int (2 : Int32))]), .inr (.int, [(.int p0), (.int p1)]), .inr (.int, [(.int p1), (.int p2)]), .inr (.long, [(.long p3), (.long p4)]), .inr (.long, [(.long p4), (.long p3)]), .inl (0, [(rf n0 15), (rf n0 16), (rf n0 17), (rf n0 18), (.int (3 : Int32))]), .inr (.int, [(.int (own_selI I0 p0 p1)), (.int (own_selI I1 p0 p1)), (.int (own_selI I2 p0 p1)), oz]), .inr (.int, [(.int (own_selI I0 p1 p2)), (.int (own_selI I1 p1 p2)), (.int (own_selI I2 p1 p2)), oz]), .inr (.long, [(.long (own_selJ I0 p3 p4)), (.long (own_selJ I1 p3 p4)), (.long (own_selJ I2 p3 p4)), ol]), .inr (.long, [(.long (own_selJ I0 p4 p3)), (.long (own_selJ I1 p4 p3)), (.long (own_selJ I2 p4 p3)), ol])]) := by
  refine Met.of (a0 := a0) (ls := #[.val (rf n0 14)]) (kok hw) (plainFor_of_name pn_8) (fun m => by first | (simp [entryFrame, mkF, argsToLocals, Value.category]; done) | rfl) (fun G H => ?_)
  refine H.aloadN s10_0 rfl rfl ?_
  refine H.getfield s10_1 (k_14 hw) (i := 14) rfl rfl ?_
  exact H.areturn s10_4 rfl rfl rfl rfl ⟨rfl, rfl⟩ (by decide) (by decide)


set_option maxRecDepth 65536 in
set_option maxHeartbeats 40000000 in
theorem a_58 (l : Launch) {Z : State} {a0 : Array Value} (hw : HW1 Z a0) (n0 : Nat) (p0 : Int32) (p1 : Int32) (p2 : Int32) (p3 : Int64) (p4 : Int64) (i0 : Int32) (i1 : Int32) (i2 : Int32) (I0 : Nat) (I1 : Nat) (I2 : Nat) : Met l Z KT n0 y11 method_4_code 2 (some .boolean) ({ frames := 0, cells := 0, slots := 0, locals := 0 } : Room) #[(rf n0 15), (rf n0 5)] [.inr (.int, [(.int i0), (.int i1), (.int i2)]), .inr (.int, [(.int p0), (.int p1)]), .inr (.int, [(.int p1), (.int p2)]), .inr (.long, [(.long p3), (.long p4)]), .inr (.long, [(.long p4), (.long p3)]), .inr (.int, [(.int (own_selI I0 p0 p1)), (.int (own_selI I1 p0 p1)), (.int (own_selI I2 p0 p1)), oz]), .inr (.int, [(.int (own_selI I0 p1 p2)), (.int (own_selI I1 p1 p2)), (.int (own_selI I2 p1 p2)), oz]), .inr (.long, [(.long (own_selJ I0 p3 p4)), (.long (own_selJ I1 p3 p4)), (.long (own_selJ I2 p3 p4)), ol]), .inr (.long, [(.long (own_selJ I0 p4 p3)), (.long (own_selJ I1 p4 p3)), (.long (own_selJ I2 p4 p3)), ol]), .inl (0, [(rf n0 10), (rf n0 11), (rf n0 12), (rf n0 13), (.int (2 : Int32))]), .inr (.int, [(.int p0), (.int p1)]), .inr (.int, [(.int p1), (.int p2)]), .inr (.long, [(.long p3), (.long p4)]), .inr (.long, [(.long p4), (.long p3)]), .inl (0, [(rf n0 15), (rf n0 16), (rf n0 17), (rf n0 18), (.int (3 : Int32))]), .inr (.int, [(.int (own_selI I0 p0 p1)), (.int (own_selI I1 p0 p1)), (.int (own_selI I2 p0 p1)), oz]), .inr (.int, [(.int (own_selI I0 p1 p2)), (.int (own_selI I1 p1 p2)), (.int (own_selI I2 p1 p2)), oz]), .inr (.long, [(.long (own_selJ I0 p3 p4)), (.long (own_selJ I1 p3 p4)), (.long (own_selJ I2 p3 p4)), ol]), .inr (.long, [(.long (own_selJ I0 p4 p3)), (.long (own_selJ I1 p4 p3)), (.long (own_selJ I2 p4 p3)), ol])] (Is (some (.int (1 : Int32))) [.inr (.int, [(.int i0), (.int i1), (.int i2)]), .inr (.int, [(.int p0), (.int p1)]), .inr (.int, [(.int p1), (.int p2)]), .inr (.long, [(.long p3), (.long p4)]), .inr (.long, [(.long p4), (.long p3)]), .inr (.int, [(.int (own_selI I0 p0 p1)), (.int (own_selI I1 p0 p1)), (.int (own_selI I2 p0 p1)), oz]), .inr (.int, [(.int (own_selI I0 p1 p2)), (.int (own_selI I1 p1 p2)), (.int (own_selI I2 p1 p2)), oz]), .inr (.long, [(.long (own_selJ I0 p3 p4)), (.long (own_selJ I1 p3 p4)), (.long (own_selJ I2 p3 p4)), ol]), .inr (.long, [(.long (own_selJ I0 p4 p3)), (.long (own_selJ I1 p4 p3)), (.long (own_selJ I2 p4 p3)), ol]), .inl (0, [(rf n0 10), (rf n0 11), (rf n0 12), (rf n0 13), (.int (2 : Int32))]), .inr (.int, [(.int p0), (.int p1)]), .inr (.int, [(.int p1), (.int p2)]), .inr (.long, [(.long p3), (.long p4)]), .inr (.long, [(.long p4), (.long p3)]), .inl (0, [(rf n0 15), (rf n0 16), (rf n0 17), (rf n0 18), (.int (3 : Int32))]), .inr (.int, [(.int (own_selI I0 p0 p1)), (.int (own_selI I1 p0 p1)), (.int (own_selI I2 p0 p1)), oz]), .inr (.int, [(.int (own_selI I0 p1 p2)), (.int (own_selI I1 p1 p2)), (.int (own_selI I2 p1 p2)), oz]), .inr (.long, [(.long (own_selJ I0 p3 p4)), (.long (own_selJ I1 p3 p4)), (.long (own_selJ I2 p3 p4)), ol]), .inr (.long, [(.long (own_selJ I0 p4 p3)), (.long (own_selJ I1 p4 p3)), (.long (own_selJ I2 p4 p3)), ol])]) := by
  refine Met.of (a0 := a0) (ls := #[.val (rf n0 15), .val (rf n0 5)]) (kok hw) (plainFor_of_name pn_24) (fun m => by first | (simp [entryFrame, mkF, argsToLocals, Value.category]; done) | rfl) (fun G H => ?_)
  refine H.aloadN s11_0 rfl rfl ?_
  refine H.arraylength s11_1 (i := 15) rfl (z := (4 : Int32)) rfl ?_
  refine H.iconst s11_2 (v := (4 : Int32)) (by decide) ?_
  refine H.icmpF s11_3 (show (4 : Int32) = (4 : Int32) by decide) ?_
  refine H.aloadN s11_6 rfl rfl ?_
  refine H.iconst s11_7 (v := (0 : Int32)) (by decide) ?_
  refine H.iaload s11_8 (i := 15) (j := 0) rfl (by decide) (v := (.int (own_selI I0 p0 p1))) rfl ?_
  refine H.aloadN s11_9 rfl rfl ?_
  refine H.iconst s11_10 (v := (0 : Int32)) (by decide) ?_
  refine H.iaload s11_11 (i := 5) (j := 0) rfl (by decide) (v := (.int (own_selI I0 p0 p1))) rfl ?_
  refine H.icmpF s11_12 rfl ?_
  refine H.aloadN s11_15 rfl rfl ?_
  refine H.iconst s11_16 (v := (1 : Int32)) (by decide) ?_
  refine H.iaload s11_17 (i := 15) (j := 1) rfl (by decide) (v := (.int (own_selI I1 p0 p1))) rfl ?_
  refine H.aloadN s11_18 rfl rfl ?_
  refine H.iconst s11_19 (v := (1 : Int32)) (by decide) ?_
  refine H.iaload s11_20 (i := 5) (j := 1) rfl (by decide) (v := (.int (own_selI I1 p0 p1))) rfl ?_
  refine H.icmpF s11_21 rfl ?_
  refine H.aloadN s11_24 rfl rfl ?_
  refine H.iconst s11_25 (v := (2 : Int32)) (by decide) ?_
  refine H.iaload s11_26 (i := 15) (j := 2) rfl (by decide) (v := (.int (own_selI I2 p0 p1))) rfl ?_
  refine H.aloadN s11_27 rfl rfl ?_
  refine H.iconst s11_28 (v := (2 : Int32)) (by decide) ?_
  refine H.iaload s11_29 (i := 5) (j := 2) rfl (by decide) (v := (.int (own_selI I2 p0 p1))) rfl ?_
  refine H.icmpF s11_30 rfl ?_
  refine H.aloadN s11_33 rfl rfl ?_
  refine H.iconst s11_34 (v := (3 : Int32)) (by decide) ?_
  refine H.iaload s11_35 (i := 15) (j := 3) rfl (by decide) (v := oz) rfl ?_
  refine H.aloadN s11_36 rfl rfl ?_
  refine H.iconst s11_37 (v := (3 : Int32)) (by decide) ?_
  refine H.iaload s11_38 (i := 5) (j := 3) rfl (by decide) (v := oz) rfl ?_
  refine H.icmpF s11_39 (show (0 : Int32) = (0 : Int32) by decide) ?_
  refine H.iconst s11_42 (v := (1 : Int32)) (by decide) ?_
  refine H.goto s11_43 ?_
  exact H.ireturn s11_47 rfl (by simp) rfl ⟨rfl, rfl⟩ (by decide) (by decide)


set_option maxRecDepth 65536 in
set_option maxHeartbeats 40000000 in
theorem a_59 (l : Launch) {Z : State} {a0 : Array Value} (hw : HW1 Z a0) (n0 : Nat) (p0 : Int32) (p1 : Int32) (p2 : Int32) (p3 : Int64) (p4 : Int64) (i0 : Int32) (i1 : Int32) (i2 : Int32) (I0 : Nat) (I1 : Nat) (I2 : Nat) : Met l Z KT n0 y11 method_4_code 2 (some .boolean) ({ frames := 0, cells := 0, slots := 0, locals := 0 } : Room) #[(rf n0 16), (rf n0 6)] [.inr (.int, [(.int i0), (.int i1), (.int i2)]), .inr (.int, [(.int p0), (.int p1)]), .inr (.int, [(.int p1), (.int p2)]), .inr (.long, [(.long p3), (.long p4)]), .inr (.long, [(.long p4), (.long p3)]), .inr (.int, [(.int (own_selI I0 p0 p1)), (.int (own_selI I1 p0 p1)), (.int (own_selI I2 p0 p1)), oz]), .inr (.int, [(.int (own_selI I0 p1 p2)), (.int (own_selI I1 p1 p2)), (.int (own_selI I2 p1 p2)), oz]), .inr (.long, [(.long (own_selJ I0 p3 p4)), (.long (own_selJ I1 p3 p4)), (.long (own_selJ I2 p3 p4)), ol]), .inr (.long, [(.long (own_selJ I0 p4 p3)), (.long (own_selJ I1 p4 p3)), (.long (own_selJ I2 p4 p3)), ol]), .inl (0, [(rf n0 10), (rf n0 11), (rf n0 12), (rf n0 13), (.int (2 : Int32))]), .inr (.int, [(.int p0), (.int p1)]), .inr (.int, [(.int p1), (.int p2)]), .inr (.long, [(.long p3), (.long p4)]), .inr (.long, [(.long p4), (.long p3)]), .inl (0, [(rf n0 15), (rf n0 16), (rf n0 17), (rf n0 18), (.int (3 : Int32))]), .inr (.int, [(.int (own_selI I0 p0 p1)), (.int (own_selI I1 p0 p1)), (.int (own_selI I2 p0 p1)), oz]), .inr (.int, [(.int (own_selI I0 p1 p2)), (.int (own_selI I1 p1 p2)), (.int (own_selI I2 p1 p2)), oz]), .inr (.long, [(.long (own_selJ I0 p3 p4)), (.long (own_selJ I1 p3 p4)), (.long (own_selJ I2 p3 p4)), ol]), .inr (.long, [(.long (own_selJ I0 p4 p3)), (.long (own_selJ I1 p4 p3)), (.long (own_selJ I2 p4 p3)), ol])] (Is (some (.int (1 : Int32))) [.inr (.int, [(.int i0), (.int i1), (.int i2)]), .inr (.int, [(.int p0), (.int p1)]), .inr (.int, [(.int p1), (.int p2)]), .inr (.long, [(.long p3), (.long p4)]), .inr (.long, [(.long p4), (.long p3)]), .inr (.int, [(.int (own_selI I0 p0 p1)), (.int (own_selI I1 p0 p1)), (.int (own_selI I2 p0 p1)), oz]), .inr (.int, [(.int (own_selI I0 p1 p2)), (.int (own_selI I1 p1 p2)), (.int (own_selI I2 p1 p2)), oz]), .inr (.long, [(.long (own_selJ I0 p3 p4)), (.long (own_selJ I1 p3 p4)), (.long (own_selJ I2 p3 p4)), ol]), .inr (.long, [(.long (own_selJ I0 p4 p3)), (.long (own_selJ I1 p4 p3)), (.long (own_selJ I2 p4 p3)), ol]), .inl (0, [(rf n0 10), (rf n0 11), (rf n0 12), (rf n0 13), (.int (2 : Int32))]), .inr (.int, [(.int p0), (.int p1)]), .inr (.int, [(.int p1), (.int p2)]), .inr (.long, [(.long p3), (.long p4)]), .inr (.long, [(.long p4), (.long p3)]), .inl (0, [(rf n0 15), (rf n0 16), (rf n0 17), (rf n0 18), (.int (3 : Int32))]), .inr (.int, [(.int (own_selI I0 p0 p1)), (.int (own_selI I1 p0 p1)), (.int (own_selI I2 p0 p1)), oz]), .inr (.int, [(.int (own_selI I0 p1 p2)), (.int (own_selI I1 p1 p2)), (.int (own_selI I2 p1 p2)), oz]), .inr (.long, [(.long (own_selJ I0 p3 p4)), (.long (own_selJ I1 p3 p4)), (.long (own_selJ I2 p3 p4)), ol]), .inr (.long, [(.long (own_selJ I0 p4 p3)), (.long (own_selJ I1 p4 p3)), (.long (own_selJ I2 p4 p3)), ol])]) := by
  refine Met.of (a0 := a0) (ls := #[.val (rf n0 16), .val (rf n0 6)]) (kok hw) (plainFor_of_name pn_24) (fun m => by first | (simp [entryFrame, mkF, argsToLocals, Value.category]; done) | rfl) (fun G H => ?_)
  refine H.aloadN s11_0 rfl rfl ?_
  refine H.arraylength s11_1 (i := 16) rfl (z := (4 : Int32)) rfl ?_
  refine H.iconst s11_2 (v := (4 : Int32)) (by decide) ?_
  refine H.icmpF s11_3 (show (4 : Int32) = (4 : Int32) by decide) ?_
  refine H.aloadN s11_6 rfl rfl ?_
  refine H.iconst s11_7 (v := (0 : Int32)) (by decide) ?_
  refine H.iaload s11_8 (i := 16) (j := 0) rfl (by decide) (v := (.int (own_selI I0 p1 p2))) rfl ?_
  refine H.aloadN s11_9 rfl rfl ?_
  refine H.iconst s11_10 (v := (0 : Int32)) (by decide) ?_
  refine H.iaload s11_11 (i := 6) (j := 0) rfl (by decide) (v := (.int (own_selI I0 p1 p2))) rfl ?_
  refine H.icmpF s11_12 rfl ?_
  refine H.aloadN s11_15 rfl rfl ?_
  refine H.iconst s11_16 (v := (1 : Int32)) (by decide) ?_
  refine H.iaload s11_17 (i := 16) (j := 1) rfl (by decide) (v := (.int (own_selI I1 p1 p2))) rfl ?_
  refine H.aloadN s11_18 rfl rfl ?_
  refine H.iconst s11_19 (v := (1 : Int32)) (by decide) ?_
  refine H.iaload s11_20 (i := 6) (j := 1) rfl (by decide) (v := (.int (own_selI I1 p1 p2))) rfl ?_
  refine H.icmpF s11_21 rfl ?_
  refine H.aloadN s11_24 rfl rfl ?_
  refine H.iconst s11_25 (v := (2 : Int32)) (by decide) ?_
  refine H.iaload s11_26 (i := 16) (j := 2) rfl (by decide) (v := (.int (own_selI I2 p1 p2))) rfl ?_
  refine H.aloadN s11_27 rfl rfl ?_
  refine H.iconst s11_28 (v := (2 : Int32)) (by decide) ?_
  refine H.iaload s11_29 (i := 6) (j := 2) rfl (by decide) (v := (.int (own_selI I2 p1 p2))) rfl ?_
  refine H.icmpF s11_30 rfl ?_
  refine H.aloadN s11_33 rfl rfl ?_
  refine H.iconst s11_34 (v := (3 : Int32)) (by decide) ?_
  refine H.iaload s11_35 (i := 16) (j := 3) rfl (by decide) (v := oz) rfl ?_
  refine H.aloadN s11_36 rfl rfl ?_
  refine H.iconst s11_37 (v := (3 : Int32)) (by decide) ?_
  refine H.iaload s11_38 (i := 6) (j := 3) rfl (by decide) (v := oz) rfl ?_
  refine H.icmpF s11_39 (show (0 : Int32) = (0 : Int32) by decide) ?_
  refine H.iconst s11_42 (v := (1 : Int32)) (by decide) ?_
  refine H.goto s11_43 ?_
  exact H.ireturn s11_47 rfl (by simp) rfl ⟨rfl, rfl⟩ (by decide) (by decide)


set_option maxRecDepth 65536 in
set_option maxHeartbeats 40000000 in
theorem a_60 (l : Launch) {Z : State} {a0 : Array Value} (hw : HW1 Z a0) (n0 : Nat) (p0 : Int32) (p1 : Int32) (p2 : Int32) (p3 : Int64) (p4 : Int64) (i0 : Int32) (i1 : Int32) (i2 : Int32) (I0 : Nat) (I1 : Nat) (I2 : Nat) : Met l Z KT n0 y12 method_5_code 2 (some .boolean) ({ frames := 0, cells := 0, slots := 0, locals := 0 } : Room) #[(rf n0 17), (rf n0 7)] [.inr (.int, [(.int i0), (.int i1), (.int i2)]), .inr (.int, [(.int p0), (.int p1)]), .inr (.int, [(.int p1), (.int p2)]), .inr (.long, [(.long p3), (.long p4)]), .inr (.long, [(.long p4), (.long p3)]), .inr (.int, [(.int (own_selI I0 p0 p1)), (.int (own_selI I1 p0 p1)), (.int (own_selI I2 p0 p1)), oz]), .inr (.int, [(.int (own_selI I0 p1 p2)), (.int (own_selI I1 p1 p2)), (.int (own_selI I2 p1 p2)), oz]), .inr (.long, [(.long (own_selJ I0 p3 p4)), (.long (own_selJ I1 p3 p4)), (.long (own_selJ I2 p3 p4)), ol]), .inr (.long, [(.long (own_selJ I0 p4 p3)), (.long (own_selJ I1 p4 p3)), (.long (own_selJ I2 p4 p3)), ol]), .inl (0, [(rf n0 10), (rf n0 11), (rf n0 12), (rf n0 13), (.int (2 : Int32))]), .inr (.int, [(.int p0), (.int p1)]), .inr (.int, [(.int p1), (.int p2)]), .inr (.long, [(.long p3), (.long p4)]), .inr (.long, [(.long p4), (.long p3)]), .inl (0, [(rf n0 15), (rf n0 16), (rf n0 17), (rf n0 18), (.int (3 : Int32))]), .inr (.int, [(.int (own_selI I0 p0 p1)), (.int (own_selI I1 p0 p1)), (.int (own_selI I2 p0 p1)), oz]), .inr (.int, [(.int (own_selI I0 p1 p2)), (.int (own_selI I1 p1 p2)), (.int (own_selI I2 p1 p2)), oz]), .inr (.long, [(.long (own_selJ I0 p3 p4)), (.long (own_selJ I1 p3 p4)), (.long (own_selJ I2 p3 p4)), ol]), .inr (.long, [(.long (own_selJ I0 p4 p3)), (.long (own_selJ I1 p4 p3)), (.long (own_selJ I2 p4 p3)), ol])] (Is (some (.int (1 : Int32))) [.inr (.int, [(.int i0), (.int i1), (.int i2)]), .inr (.int, [(.int p0), (.int p1)]), .inr (.int, [(.int p1), (.int p2)]), .inr (.long, [(.long p3), (.long p4)]), .inr (.long, [(.long p4), (.long p3)]), .inr (.int, [(.int (own_selI I0 p0 p1)), (.int (own_selI I1 p0 p1)), (.int (own_selI I2 p0 p1)), oz]), .inr (.int, [(.int (own_selI I0 p1 p2)), (.int (own_selI I1 p1 p2)), (.int (own_selI I2 p1 p2)), oz]), .inr (.long, [(.long (own_selJ I0 p3 p4)), (.long (own_selJ I1 p3 p4)), (.long (own_selJ I2 p3 p4)), ol]), .inr (.long, [(.long (own_selJ I0 p4 p3)), (.long (own_selJ I1 p4 p3)), (.long (own_selJ I2 p4 p3)), ol]), .inl (0, [(rf n0 10), (rf n0 11), (rf n0 12), (rf n0 13), (.int (2 : Int32))]), .inr (.int, [(.int p0), (.int p1)]), .inr (.int, [(.int p1), (.int p2)]), .inr (.long, [(.long p3), (.long p4)]), .inr (.long, [(.long p4), (.long p3)]), .inl (0, [(rf n0 15), (rf n0 16), (rf n0 17), (rf n0 18), (.int (3 : Int32))]), .inr (.int, [(.int (own_selI I0 p0 p1)), (.int (own_selI I1 p0 p1)), (.int (own_selI I2 p0 p1)), oz]), .inr (.int, [(.int (own_selI I0 p1 p2)), (.int (own_selI I1 p1 p2)), (.int (own_selI I2 p1 p2)), oz]), .inr (.long, [(.long (own_selJ I0 p3 p4)), (.long (own_selJ I1 p3 p4)), (.long (own_selJ I2 p3 p4)), ol]), .inr (.long, [(.long (own_selJ I0 p4 p3)), (.long (own_selJ I1 p4 p3)), (.long (own_selJ I2 p4 p3)), ol])]) := by
  refine Met.of (a0 := a0) (ls := #[.val (rf n0 17), .val (rf n0 7)]) (kok hw) (plainFor_of_name pn_24) (fun m => by first | (simp [entryFrame, mkF, argsToLocals, Value.category]; done) | rfl) (fun G H => ?_)
  refine H.aloadN s12_0 rfl rfl ?_
  refine H.arraylength s12_1 (i := 17) rfl (z := (4 : Int32)) rfl ?_
  refine H.iconst s12_2 (v := (4 : Int32)) (by decide) ?_
  refine H.icmpF s12_3 (show (4 : Int32) = (4 : Int32) by decide) ?_
  refine H.aloadN s12_6 rfl rfl ?_
  refine H.iconst s12_7 (v := (0 : Int32)) (by decide) ?_
  refine H.laload s12_8 (i := 17) (j := 0) rfl (by decide) (v := (.long (own_selJ I0 p3 p4))) rfl ?_
  refine H.aloadN s12_9 rfl rfl ?_
  refine H.iconst s12_10 (v := (0 : Int32)) (by decide) ?_
  refine H.laload s12_11 (i := 7) (j := 0) rfl (by decide) (v := (.long (own_selJ I0 p3 p4))) rfl ?_
  refine H.lifF s12_12 s12_13 rfl ?_
  refine H.aloadN s12_16 rfl rfl ?_
  refine H.iconst s12_17 (v := (1 : Int32)) (by decide) ?_
  refine H.laload s12_18 (i := 17) (j := 1) rfl (by decide) (v := (.long (own_selJ I1 p3 p4))) rfl ?_
  refine H.aloadN s12_19 rfl rfl ?_
  refine H.iconst s12_20 (v := (1 : Int32)) (by decide) ?_
  refine H.laload s12_21 (i := 7) (j := 1) rfl (by decide) (v := (.long (own_selJ I1 p3 p4))) rfl ?_
  refine H.lifF s12_22 s12_23 rfl ?_
  refine H.aloadN s12_26 rfl rfl ?_
  refine H.iconst s12_27 (v := (2 : Int32)) (by decide) ?_
  refine H.laload s12_28 (i := 17) (j := 2) rfl (by decide) (v := (.long (own_selJ I2 p3 p4))) rfl ?_
  refine H.aloadN s12_29 rfl rfl ?_
  refine H.iconst s12_30 (v := (2 : Int32)) (by decide) ?_
  refine H.laload s12_31 (i := 7) (j := 2) rfl (by decide) (v := (.long (own_selJ I2 p3 p4))) rfl ?_
  refine H.lifF s12_32 s12_33 rfl ?_
  refine H.aloadN s12_36 rfl rfl ?_
  refine H.iconst s12_37 (v := (3 : Int32)) (by decide) ?_
  refine H.laload s12_38 (i := 17) (j := 3) rfl (by decide) (v := ol) rfl ?_
  refine H.aloadN s12_39 rfl rfl ?_
  refine H.iconst s12_40 (v := (3 : Int32)) (by decide) ?_
  refine H.laload s12_41 (i := 7) (j := 3) rfl (by decide) (v := ol) rfl ?_
  refine H.lifF s12_42 s12_43 (show (0 : Int64) = (0 : Int64) by decide) ?_
  refine H.iconst s12_46 (v := (1 : Int32)) (by decide) ?_
  refine H.goto s12_47 ?_
  exact H.ireturn s12_51 rfl (by simp) rfl ⟨rfl, rfl⟩ (by decide) (by decide)


set_option maxRecDepth 65536 in
set_option maxHeartbeats 40000000 in
theorem a_61 (l : Launch) {Z : State} {a0 : Array Value} (hw : HW1 Z a0) (n0 : Nat) (p0 : Int32) (p1 : Int32) (p2 : Int32) (p3 : Int64) (p4 : Int64) (i0 : Int32) (i1 : Int32) (i2 : Int32) (I0 : Nat) (I1 : Nat) (I2 : Nat) : Met l Z KT n0 y12 method_5_code 2 (some .boolean) ({ frames := 0, cells := 0, slots := 0, locals := 0 } : Room) #[(rf n0 18), (rf n0 8)] [.inr (.int, [(.int i0), (.int i1), (.int i2)]), .inr (.int, [(.int p0), (.int p1)]), .inr (.int, [(.int p1), (.int p2)]), .inr (.long, [(.long p3), (.long p4)]), .inr (.long, [(.long p4), (.long p3)]), .inr (.int, [(.int (own_selI I0 p0 p1)), (.int (own_selI I1 p0 p1)), (.int (own_selI I2 p0 p1)), oz]), .inr (.int, [(.int (own_selI I0 p1 p2)), (.int (own_selI I1 p1 p2)), (.int (own_selI I2 p1 p2)), oz]), .inr (.long, [(.long (own_selJ I0 p3 p4)), (.long (own_selJ I1 p3 p4)), (.long (own_selJ I2 p3 p4)), ol]), .inr (.long, [(.long (own_selJ I0 p4 p3)), (.long (own_selJ I1 p4 p3)), (.long (own_selJ I2 p4 p3)), ol]), .inl (0, [(rf n0 10), (rf n0 11), (rf n0 12), (rf n0 13), (.int (2 : Int32))]), .inr (.int, [(.int p0), (.int p1)]), .inr (.int, [(.int p1), (.int p2)]), .inr (.long, [(.long p3), (.long p4)]), .inr (.long, [(.long p4), (.long p3)]), .inl (0, [(rf n0 15), (rf n0 16), (rf n0 17), (rf n0 18), (.int (3 : Int32))]), .inr (.int, [(.int (own_selI I0 p0 p1)), (.int (own_selI I1 p0 p1)), (.int (own_selI I2 p0 p1)), oz]), .inr (.int, [(.int (own_selI I0 p1 p2)), (.int (own_selI I1 p1 p2)), (.int (own_selI I2 p1 p2)), oz]), .inr (.long, [(.long (own_selJ I0 p3 p4)), (.long (own_selJ I1 p3 p4)), (.long (own_selJ I2 p3 p4)), ol]), .inr (.long, [(.long (own_selJ I0 p4 p3)), (.long (own_selJ I1 p4 p3)), (.long (own_selJ I2 p4 p3)), ol])] (Is (some (.int (1 : Int32))) [.inr (.int, [(.int i0), (.int i1), (.int i2)]), .inr (.int, [(.int p0), (.int p1)]), .inr (.int, [(.int p1), (.int p2)]), .inr (.long, [(.long p3), (.long p4)]), .inr (.long, [(.long p4), (.long p3)]), .inr (.int, [(.int (own_selI I0 p0 p1)), (.int (own_selI I1 p0 p1)), (.int (own_selI I2 p0 p1)), oz]), .inr (.int, [(.int (own_selI I0 p1 p2)), (.int (own_selI I1 p1 p2)), (.int (own_selI I2 p1 p2)), oz]), .inr (.long, [(.long (own_selJ I0 p3 p4)), (.long (own_selJ I1 p3 p4)), (.long (own_selJ I2 p3 p4)), ol]), .inr (.long, [(.long (own_selJ I0 p4 p3)), (.long (own_selJ I1 p4 p3)), (.long (own_selJ I2 p4 p3)), ol]), .inl (0, [(rf n0 10), (rf n0 11), (rf n0 12), (rf n0 13), (.int (2 : Int32))]), .inr (.int, [(.int p0), (.int p1)]), .inr (.int, [(.int p1), (.int p2)]), .inr (.long, [(.long p3), (.long p4)]), .inr (.long, [(.long p4), (.long p3)]), .inl (0, [(rf n0 15), (rf n0 16), (rf n0 17), (rf n0 18), (.int (3 : Int32))]), .inr (.int, [(.int (own_selI I0 p0 p1)), (.int (own_selI I1 p0 p1)), (.int (own_selI I2 p0 p1)), oz]), .inr (.int, [(.int (own_selI I0 p1 p2)), (.int (own_selI I1 p1 p2)), (.int (own_selI I2 p1 p2)), oz]), .inr (.long, [(.long (own_selJ I0 p3 p4)), (.long (own_selJ I1 p3 p4)), (.long (own_selJ I2 p3 p4)), ol]), .inr (.long, [(.long (own_selJ I0 p4 p3)), (.long (own_selJ I1 p4 p3)), (.long (own_selJ I2 p4 p3)), ol])]) := by
  refine Met.of (a0 := a0) (ls := #[.val (rf n0 18), .val (rf n0 8)]) (kok hw) (plainFor_of_name pn_24) (fun m => by first | (simp [entryFrame, mkF, argsToLocals, Value.category]; done) | rfl) (fun G H => ?_)
  refine H.aloadN s12_0 rfl rfl ?_
  refine H.arraylength s12_1 (i := 18) rfl (z := (4 : Int32)) rfl ?_
  refine H.iconst s12_2 (v := (4 : Int32)) (by decide) ?_
  refine H.icmpF s12_3 (show (4 : Int32) = (4 : Int32) by decide) ?_
  refine H.aloadN s12_6 rfl rfl ?_
  refine H.iconst s12_7 (v := (0 : Int32)) (by decide) ?_
  refine H.laload s12_8 (i := 18) (j := 0) rfl (by decide) (v := (.long (own_selJ I0 p4 p3))) rfl ?_
  refine H.aloadN s12_9 rfl rfl ?_
  refine H.iconst s12_10 (v := (0 : Int32)) (by decide) ?_
  refine H.laload s12_11 (i := 8) (j := 0) rfl (by decide) (v := (.long (own_selJ I0 p4 p3))) rfl ?_
  refine H.lifF s12_12 s12_13 rfl ?_
  refine H.aloadN s12_16 rfl rfl ?_
  refine H.iconst s12_17 (v := (1 : Int32)) (by decide) ?_
  refine H.laload s12_18 (i := 18) (j := 1) rfl (by decide) (v := (.long (own_selJ I1 p4 p3))) rfl ?_
  refine H.aloadN s12_19 rfl rfl ?_
  refine H.iconst s12_20 (v := (1 : Int32)) (by decide) ?_
  refine H.laload s12_21 (i := 8) (j := 1) rfl (by decide) (v := (.long (own_selJ I1 p4 p3))) rfl ?_
  refine H.lifF s12_22 s12_23 rfl ?_
  refine H.aloadN s12_26 rfl rfl ?_
  refine H.iconst s12_27 (v := (2 : Int32)) (by decide) ?_
  refine H.laload s12_28 (i := 18) (j := 2) rfl (by decide) (v := (.long (own_selJ I2 p4 p3))) rfl ?_
  refine H.aloadN s12_29 rfl rfl ?_
  refine H.iconst s12_30 (v := (2 : Int32)) (by decide) ?_
  refine H.laload s12_31 (i := 8) (j := 2) rfl (by decide) (v := (.long (own_selJ I2 p4 p3))) rfl ?_
  refine H.lifF s12_32 s12_33 rfl ?_
  refine H.aloadN s12_36 rfl rfl ?_
  refine H.iconst s12_37 (v := (3 : Int32)) (by decide) ?_
  refine H.laload s12_38 (i := 18) (j := 3) rfl (by decide) (v := ol) rfl ?_
  refine H.aloadN s12_39 rfl rfl ?_
  refine H.iconst s12_40 (v := (3 : Int32)) (by decide) ?_
  refine H.laload s12_41 (i := 8) (j := 3) rfl (by decide) (v := ol) rfl ?_
  refine H.lifF s12_42 s12_43 (show (0 : Int64) = (0 : Int64) by decide) ?_
  refine H.iconst s12_46 (v := (1 : Int32)) (by decide) ?_
  refine H.goto s12_47 ?_
  exact H.ireturn s12_51 rfl (by simp) rfl ⟨rfl, rfl⟩ (by decide) (by decide)

theorem s0_194 : Nx code 194 (.aload 18) 2 196 := ⟨at_194, rfl⟩
theorem s0_196 : Nx code 196 (.iconst 0) 1 197 := ⟨at_196, rfl⟩
theorem s0_197 : Nx code 197 (.iload_n 2) 1 198 := ⟨at_197, rfl⟩
theorem s0_198 : Nx code 198 (.iastore) 1 199 := ⟨at_198, rfl⟩
theorem s0_199 : Nx code 199 (.aload 19) 2 201 := ⟨at_199, rfl⟩
theorem s0_201 : Nx code 201 (.iconst 0) 1 202 := ⟨at_201, rfl⟩
theorem s0_202 : Nx code 202 (.iload_n 0) 1 203 := ⟨at_202, rfl⟩
theorem s0_203 : Nx code 203 (.iastore) 1 204 := ⟨at_203, rfl⟩
theorem s0_204 : Nx code 204 (.aload 20) 2 206 := ⟨at_204, rfl⟩
theorem s0_206 : Nx code 206 (.iconst 0) 1 207 := ⟨at_206, rfl⟩
theorem s0_207 : Nx code 207 (.lload_n 3) 1 208 := ⟨at_207, rfl⟩
theorem k_28 {Z : State} {a0 : Array Value} (hw : HW1 Z a0) : (Jvm.Cond.constantLong "com/example/wavegrant/wavegrant/LaidGrantsAddAllPinLaw" 7 (-1)).before a0 Z = true := (hw _ (List.mem_of_getElem? (i := 2) rfl))
theorem s0_208 : Nx code 208 (.ldc2_w 7) 3 211 := ⟨at_208, rfl⟩
theorem s0_211 : Nx code 211 (.lxor) 1 212 := ⟨at_211, rfl⟩
theorem s0_212 : Nx code 212 (.lastore) 1 213 := ⟨at_212, rfl⟩
theorem s0_213 : Nx code 213 (.aload 21) 2 215 := ⟨at_213, rfl⟩
theorem s0_215 : Nx code 215 (.iconst 0) 1 216 := ⟨at_215, rfl⟩
theorem s0_216 : Nx code 216 (.lload 5) 2 218 := ⟨at_216, rfl⟩
theorem s0_218 : Nx code 218 (.ldc2_w 7) 3 221 := ⟨at_218, rfl⟩
theorem s0_221 : Nx code 221 (.lxor) 1 222 := ⟨at_221, rfl⟩
theorem s0_222 : Nx code 222 (.lastore) 1 223 := ⟨at_222, rfl⟩
set_option maxRecDepth 65536 in
set_option maxHeartbeats 40000000 in
theorem a_62 (l : Launch) {Z : State} {a0 : Array Value} (hw : HW1 Z a0) (n0 : Nat) (p0 : Int32) (p1 : Int32) (p2 : Int32) (p3 : Int64) (p4 : Int64) : Met l Z KT n0 y2 prog_15_method_1_code 2 none ({ frames := 1, cells := 4, slots := 8, locals := 12 } : Room) #[(rf n0 9), (.int (2 : Int32))] [.inr (.int, []), .inr (.int, [(.int p0), (.int p1)]), .inr (.int, [(.int p1), (.int p2)]), .inr (.long, [(.long p3), (.long p4)]), .inr (.long, [(.long p4), (.long p3)]), .inr (.int, [(.int p2), oz, oz, oz]), .inr (.int, [(.int p0), oz, oz, oz]), .inr (.long, [(.long (p3 ^^^ (-1 : Int64))), ol, ol, ol]), .inr (.long, [(.long (p4 ^^^ (-1 : Int64))), ol, ol, ol]), .inl (0, [.null, .null, .null, .null, oz])] (Is none [.inr (.int, []), .inr (.int, [(.int p0), (.int p1)]), .inr (.int, [(.int p1), (.int p2)]), .inr (.long, [(.long p3), (.long p4)]), .inr (.long, [(.long p4), (.long p3)]), .inr (.int, [(.int p2), oz, oz, oz]), .inr (.int, [(.int p0), oz, oz, oz]), .inr (.long, [(.long (p3 ^^^ (-1 : Int64))), ol, ol, ol]), .inr (.long, [(.long (p4 ^^^ (-1 : Int64))), ol, ol, ol]), .inl (0, [(rf n0 10), (rf n0 11), (rf n0 12), (rf n0 13), oz]), .inr (.int, [oz, oz]), .inr (.int, [oz, oz]), .inr (.long, [ol, ol]), .inr (.long, [ol, ol])]) := by
  refine Met.of (a0 := a0) (ls := #[.val (rf n0 9), .val (.int (2 : Int32))]) (kok hw) (plainFor_of_name pn_8) (fun m => by first | (simp [entryFrame, mkF, argsToLocals, Value.category]; done) | rfl) (fun G H => ?_)
  refine H.aloadN s2_0 rfl rfl ?_
  refine H.initO s2_1 (k_3 hw) rfl (leb rfl) (leb rfl) ?_
  refine H.aloadN s2_4 rfl rfl ?_
  refine H.iloadN s2_5 rfl ?_
  refine H.newarray s2_6 (ty := .int) rfl (k_0 hw) (N := 2) (cap := 2) (by decide) rfl (by decide) (by decide) (by first | rfl | simp) (by decide) (by decide) (i := 10) rfl (A' := [.inr (.int, []), .inr (.int, [(.int p0), (.int p1)]), .inr (.int, [(.int p1), (.int p2)]), .inr (.long, [(.long p3), (.long p4)]), .inr (.long, [(.long p4), (.long p3)]), .inr (.int, [(.int p2), oz, oz, oz]), .inr (.int, [(.int p0), oz, oz, oz]), .inr (.long, [(.long (p3 ^^^ (-1 : Int64))), ol, ol, ol]), .inr (.long, [(.long (p4 ^^^ (-1 : Int64))), ol, ol, ol]), .inl (0, [.null, .null, .null, .null, oz]), .inr (.int, [oz, oz])]) rfl (k' := 1) rfl (n' := 2) rfl ?_
  refine H.putfield s2_8 (k_4 hw) (i := 9) rfl rfl rfl rfl ?_
  refine H.aloadN s2_11 rfl rfl ?_
  refine H.iloadN s2_12 rfl ?_
  refine H.newarray s2_13 (ty := .int) rfl (k_0 hw) (N := 2) (cap := 2) (by decide) rfl (by decide) (by decide) (by first | rfl | simp) (by decide) (by decide) (i := 11) rfl (A' := [.inr (.int, []), .inr (.int, [(.int p0), (.int p1)]), .inr (.int, [(.int p1), (.int p2)]), .inr (.long, [(.long p3), (.long p4)]), .inr (.long, [(.long p4), (.long p3)]), .inr (.int, [(.int p2), oz, oz, oz]), .inr (.int, [(.int p0), oz, oz, oz]), .inr (.long, [(.long (p3 ^^^ (-1 : Int64))), ol, ol, ol]), .inr (.long, [(.long (p4 ^^^ (-1 : Int64))), ol, ol, ol]), .inl (0, [(rf n0 10), .null, .null, .null, oz]), .inr (.int, [oz, oz]), .inr (.int, [oz, oz])]) rfl (k' := 2) rfl (n' := 4) rfl ?_
  refine H.putfield s2_15 (k_5 hw) (i := 9) rfl rfl rfl rfl ?_
  refine H.aloadN s2_18 rfl rfl ?_
  refine H.iloadN s2_19 rfl ?_
  refine H.newarray s2_20 (ty := .long) rfl (k_1 hw) (N := 2) (cap := 2) (by decide) rfl (by decide) (by decide) (by first | rfl | simp) (by decide) (by decide) (i := 12) rfl (A' := [.inr (.int, []), .inr (.int, [(.int p0), (.int p1)]), .inr (.int, [(.int p1), (.int p2)]), .inr (.long, [(.long p3), (.long p4)]), .inr (.long, [(.long p4), (.long p3)]), .inr (.int, [(.int p2), oz, oz, oz]), .inr (.int, [(.int p0), oz, oz, oz]), .inr (.long, [(.long (p3 ^^^ (-1 : Int64))), ol, ol, ol]), .inr (.long, [(.long (p4 ^^^ (-1 : Int64))), ol, ol, ol]), .inl (0, [(rf n0 10), (rf n0 11), .null, .null, oz]), .inr (.int, [oz, oz]), .inr (.int, [oz, oz]), .inr (.long, [ol, ol])]) rfl (k' := 3) rfl (n' := 6) rfl ?_
  refine H.putfield s2_22 (k_6 hw) (i := 9) rfl rfl rfl rfl ?_
  refine H.aloadN s2_25 rfl rfl ?_
  refine H.iloadN s2_26 rfl ?_
  refine H.newarray s2_27 (ty := .long) rfl (k_1 hw) (N := 2) (cap := 2) (by decide) rfl (by decide) (by decide) (by first | rfl | simp) (by decide) (by decide) (i := 13) rfl (A' := [.inr (.int, []), .inr (.int, [(.int p0), (.int p1)]), .inr (.int, [(.int p1), (.int p2)]), .inr (.long, [(.long p3), (.long p4)]), .inr (.long, [(.long p4), (.long p3)]), .inr (.int, [(.int p2), oz, oz, oz]), .inr (.int, [(.int p0), oz, oz, oz]), .inr (.long, [(.long (p3 ^^^ (-1 : Int64))), ol, ol, ol]), .inr (.long, [(.long (p4 ^^^ (-1 : Int64))), ol, ol, ol]), .inl (0, [(rf n0 10), (rf n0 11), (rf n0 12), .null, oz]), .inr (.int, [oz, oz]), .inr (.int, [oz, oz]), .inr (.long, [ol, ol]), .inr (.long, [ol, ol])]) rfl (k' := 4) rfl (n' := 8) rfl ?_
  refine H.putfield s2_29 (k_7 hw) (i := 9) rfl rfl rfl rfl ?_
  exact H.vreturn s2_32 rfl ⟨rfl, rfl⟩ (by decide) (by decide)


set_option maxRecDepth 65536 in
set_option maxHeartbeats 40000000 in
theorem a_63 (l : Launch) {Z : State} {a0 : Array Value} (hw : HW1 Z a0) (n0 : Nat) (p0 : Int32) (p1 : Int32) (p2 : Int32) (p3 : Int64) (p4 : Int64) : Met l Z KT n0 y4 prog_15_method_2_code 7 none ({ frames := 0, cells := 0, slots := 0, locals := 0 } : Room) #[(rf n0 9), (.int p0), (.int p1), (.long p3), (.long p4)] [.inr (.int, []), .inr (.int, [(.int p0), (.int p1)]), .inr (.int, [(.int p1), (.int p2)]), .inr (.long, [(.long p3), (.long p4)]), .inr (.long, [(.long p4), (.long p3)]), .inr (.int, [(.int p2), oz, oz, oz]), .inr (.int, [(.int p0), oz, oz, oz]), .inr (.long, [(.long (p3 ^^^ (-1 : Int64))), ol, ol, ol]), .inr (.long, [(.long (p4 ^^^ (-1 : Int64))), ol, ol, ol]), .inl (0, [(rf n0 10), (rf n0 11), (rf n0 12), (rf n0 13), oz]), .inr (.int, [oz, oz]), .inr (.int, [oz, oz]), .inr (.long, [ol, ol]), .inr (.long, [ol, ol])] (Is none [.inr (.int, []), .inr (.int, [(.int p0), (.int p1)]), .inr (.int, [(.int p1), (.int p2)]), .inr (.long, [(.long p3), (.long p4)]), .inr (.long, [(.long p4), (.long p3)]), .inr (.int, [(.int p2), oz, oz, oz]), .inr (.int, [(.int p0), oz, oz, oz]), .inr (.long, [(.long (p3 ^^^ (-1 : Int64))), ol, ol, ol]), .inr (.long, [(.long (p4 ^^^ (-1 : Int64))), ol, ol, ol]), .inl (0, [(rf n0 10), (rf n0 11), (rf n0 12), (rf n0 13), (.int (1 : Int32))]), .inr (.int, [(.int p0), oz]), .inr (.int, [(.int p1), oz]), .inr (.long, [(.long p3), ol]), .inr (.long, [(.long p4), ol])]) := by
  refine Met.of (a0 := a0) (ls := #[.val (rf n0 9), .val (.int p0), .val (.int p1), .val (.long p3), .second, .val (.long p4), .second]) (kok hw) (plainFor_of_name pn_8) (fun m => by first | (simp [entryFrame, mkF, argsToLocals, Value.category]; done) | rfl) (fun G H => ?_)
  refine H.aloadN s4_0 rfl rfl ?_
  refine H.getfield s4_1 (k_10 hw) (i := 9) rfl rfl ?_
  refine H.aloadN s4_4 rfl rfl ?_
  refine H.getfield s4_5 (k_11 hw) (i := 9) rfl rfl ?_
  refine H.iloadN s4_8 rfl ?_
  refine H.iastore s4_9 (i := 10) (j := 0) rfl (by decide) (ltb rfl)  rfl ?_
  refine H.aloadN s4_10 rfl rfl ?_
  refine H.getfield s4_11 (k_12 hw) (i := 9) rfl rfl ?_
  refine H.aloadN s4_14 rfl rfl ?_
  refine H.getfield s4_15 (k_11 hw) (i := 9) rfl rfl ?_
  refine H.iloadN s4_18 rfl ?_
  refine H.iastore s4_19 (i := 11) (j := 0) rfl (by decide) (ltb rfl)  rfl ?_
  refine H.aloadN s4_20 rfl rfl ?_
  refine H.getfield s4_21 (k_13 hw) (i := 9) rfl rfl ?_
  refine H.aloadN s4_24 rfl rfl ?_
  refine H.getfield s4_25 (k_11 hw) (i := 9) rfl rfl ?_
  refine H.lloadN s4_28 rfl ?_
  refine H.lastore s4_29 (i := 12) (j := 0) rfl (by decide) (ltb rfl)  rfl ?_
  refine H.aloadN s4_30 rfl rfl ?_
  refine H.getfield s4_31 (k_14 hw) (i := 9) rfl rfl ?_
  refine H.aloadN s4_34 rfl rfl ?_
  refine H.getfield s4_35 (k_11 hw) (i := 9) rfl rfl ?_
  refine H.lload s4_38 rfl ?_
  refine H.lastore s4_40 (i := 13) (j := 0) rfl (by decide) (ltb rfl)  rfl ?_
  refine H.aloadN s4_41 rfl rfl ?_
  refine H.dup s4_42 rfl ?_
  refine H.getfield s4_43 (k_11 hw) (i := 9) rfl rfl ?_
  refine H.iconst s4_46 (v := (1 : Int32)) (by decide) ?_
  refine H.iadd s4_47 (w := (1 : Int32)) (by decide) ?_
  refine H.putfield s4_48 (k_15 hw) (i := 9) rfl rfl rfl rfl ?_
  exact H.vreturn s4_51 rfl ⟨rfl, rfl⟩ (by decide) (by decide)


set_option maxRecDepth 65536 in
set_option maxHeartbeats 40000000 in
theorem a_64 (l : Launch) {Z : State} {a0 : Array Value} (hw : HW1 Z a0) (n0 : Nat) (p0 : Int32) (p1 : Int32) (p2 : Int32) (p3 : Int64) (p4 : Int64) : Met l Z KT n0 y4 prog_15_method_2_code 7 none ({ frames := 0, cells := 0, slots := 0, locals := 0 } : Room) #[(rf n0 9), (.int p1), (.int p2), (.long p4), (.long p3)] [.inr (.int, []), .inr (.int, [(.int p0), (.int p1)]), .inr (.int, [(.int p1), (.int p2)]), .inr (.long, [(.long p3), (.long p4)]), .inr (.long, [(.long p4), (.long p3)]), .inr (.int, [(.int p2), oz, oz, oz]), .inr (.int, [(.int p0), oz, oz, oz]), .inr (.long, [(.long (p3 ^^^ (-1 : Int64))), ol, ol, ol]), .inr (.long, [(.long (p4 ^^^ (-1 : Int64))), ol, ol, ol]), .inl (0, [(rf n0 10), (rf n0 11), (rf n0 12), (rf n0 13), (.int (1 : Int32))]), .inr (.int, [(.int p0), oz]), .inr (.int, [(.int p1), oz]), .inr (.long, [(.long p3), ol]), .inr (.long, [(.long p4), ol])] (Is none [.inr (.int, []), .inr (.int, [(.int p0), (.int p1)]), .inr (.int, [(.int p1), (.int p2)]), .inr (.long, [(.long p3), (.long p4)]), .inr (.long, [(.long p4), (.long p3)]), .inr (.int, [(.int p2), oz, oz, oz]), .inr (.int, [(.int p0), oz, oz, oz]), .inr (.long, [(.long (p3 ^^^ (-1 : Int64))), ol, ol, ol]), .inr (.long, [(.long (p4 ^^^ (-1 : Int64))), ol, ol, ol]), .inl (0, [(rf n0 10), (rf n0 11), (rf n0 12), (rf n0 13), (.int (2 : Int32))]), .inr (.int, [(.int p0), (.int p1)]), .inr (.int, [(.int p1), (.int p2)]), .inr (.long, [(.long p3), (.long p4)]), .inr (.long, [(.long p4), (.long p3)])]) := by
  refine Met.of (a0 := a0) (ls := #[.val (rf n0 9), .val (.int p1), .val (.int p2), .val (.long p4), .second, .val (.long p3), .second]) (kok hw) (plainFor_of_name pn_8) (fun m => by first | (simp [entryFrame, mkF, argsToLocals, Value.category]; done) | rfl) (fun G H => ?_)
  refine H.aloadN s4_0 rfl rfl ?_
  refine H.getfield s4_1 (k_10 hw) (i := 9) rfl rfl ?_
  refine H.aloadN s4_4 rfl rfl ?_
  refine H.getfield s4_5 (k_11 hw) (i := 9) rfl rfl ?_
  refine H.iloadN s4_8 rfl ?_
  refine H.iastore s4_9 (i := 10) (j := 1) rfl (by decide) (ltb rfl)  rfl ?_
  refine H.aloadN s4_10 rfl rfl ?_
  refine H.getfield s4_11 (k_12 hw) (i := 9) rfl rfl ?_
  refine H.aloadN s4_14 rfl rfl ?_
  refine H.getfield s4_15 (k_11 hw) (i := 9) rfl rfl ?_
  refine H.iloadN s4_18 rfl ?_
  refine H.iastore s4_19 (i := 11) (j := 1) rfl (by decide) (ltb rfl)  rfl ?_
  refine H.aloadN s4_20 rfl rfl ?_
  refine H.getfield s4_21 (k_13 hw) (i := 9) rfl rfl ?_
  refine H.aloadN s4_24 rfl rfl ?_
  refine H.getfield s4_25 (k_11 hw) (i := 9) rfl rfl ?_
  refine H.lloadN s4_28 rfl ?_
  refine H.lastore s4_29 (i := 12) (j := 1) rfl (by decide) (ltb rfl)  rfl ?_
  refine H.aloadN s4_30 rfl rfl ?_
  refine H.getfield s4_31 (k_14 hw) (i := 9) rfl rfl ?_
  refine H.aloadN s4_34 rfl rfl ?_
  refine H.getfield s4_35 (k_11 hw) (i := 9) rfl rfl ?_
  refine H.lload s4_38 rfl ?_
  refine H.lastore s4_40 (i := 13) (j := 1) rfl (by decide) (ltb rfl)  rfl ?_
  refine H.aloadN s4_41 rfl rfl ?_
  refine H.dup s4_42 rfl ?_
  refine H.getfield s4_43 (k_11 hw) (i := 9) rfl rfl ?_
  refine H.iconst s4_46 (v := (1 : Int32)) (by decide) ?_
  refine H.iadd s4_47 (w := (2 : Int32)) (by decide) ?_
  refine H.putfield s4_48 (k_15 hw) (i := 9) rfl rfl rfl rfl ?_
  exact H.vreturn s4_51 rfl ⟨rfl, rfl⟩ (by decide) (by decide)


set_option maxRecDepth 65536 in
set_option maxHeartbeats 40000000 in
theorem a_65 (l : Launch) {Z : State} {a0 : Array Value} (hw : HW1 Z a0) (n0 : Nat) (p0 : Int32) (p1 : Int32) (p2 : Int32) (p3 : Int64) (p4 : Int64) : Met l Z KT n0 y2 prog_15_method_1_code 2 none ({ frames := 1, cells := 4, slots := 16, locals := 12 } : Room) #[(rf n0 14), (.int (4 : Int32))] [.inr (.int, []), .inr (.int, [(.int p0), (.int p1)]), .inr (.int, [(.int p1), (.int p2)]), .inr (.long, [(.long p3), (.long p4)]), .inr (.long, [(.long p4), (.long p3)]), .inr (.int, [(.int p2), oz, oz, oz]), .inr (.int, [(.int p0), oz, oz, oz]), .inr (.long, [(.long (p3 ^^^ (-1 : Int64))), ol, ol, ol]), .inr (.long, [(.long (p4 ^^^ (-1 : Int64))), ol, ol, ol]), .inl (0, [(rf n0 10), (rf n0 11), (rf n0 12), (rf n0 13), (.int (2 : Int32))]), .inr (.int, [(.int p0), (.int p1)]), .inr (.int, [(.int p1), (.int p2)]), .inr (.long, [(.long p3), (.long p4)]), .inr (.long, [(.long p4), (.long p3)]), .inl (0, [.null, .null, .null, .null, oz])] (Is none [.inr (.int, []), .inr (.int, [(.int p0), (.int p1)]), .inr (.int, [(.int p1), (.int p2)]), .inr (.long, [(.long p3), (.long p4)]), .inr (.long, [(.long p4), (.long p3)]), .inr (.int, [(.int p2), oz, oz, oz]), .inr (.int, [(.int p0), oz, oz, oz]), .inr (.long, [(.long (p3 ^^^ (-1 : Int64))), ol, ol, ol]), .inr (.long, [(.long (p4 ^^^ (-1 : Int64))), ol, ol, ol]), .inl (0, [(rf n0 10), (rf n0 11), (rf n0 12), (rf n0 13), (.int (2 : Int32))]), .inr (.int, [(.int p0), (.int p1)]), .inr (.int, [(.int p1), (.int p2)]), .inr (.long, [(.long p3), (.long p4)]), .inr (.long, [(.long p4), (.long p3)]), .inl (0, [(rf n0 15), (rf n0 16), (rf n0 17), (rf n0 18), oz]), .inr (.int, [oz, oz, oz, oz]), .inr (.int, [oz, oz, oz, oz]), .inr (.long, [ol, ol, ol, ol]), .inr (.long, [ol, ol, ol, ol])]) := by
  refine Met.of (a0 := a0) (ls := #[.val (rf n0 14), .val (.int (4 : Int32))]) (kok hw) (plainFor_of_name pn_8) (fun m => by first | (simp [entryFrame, mkF, argsToLocals, Value.category]; done) | rfl) (fun G H => ?_)
  refine H.aloadN s2_0 rfl rfl ?_
  refine H.initO s2_1 (k_3 hw) rfl (leb rfl) (leb rfl) ?_
  refine H.aloadN s2_4 rfl rfl ?_
  refine H.iloadN s2_5 rfl ?_
  refine H.newarray s2_6 (ty := .int) rfl (k_0 hw) (N := 4) (cap := 4) (by decide) rfl (by decide) (by decide) (by first | rfl | simp) (by decide) (by decide) (i := 15) rfl (A' := [.inr (.int, []), .inr (.int, [(.int p0), (.int p1)]), .inr (.int, [(.int p1), (.int p2)]), .inr (.long, [(.long p3), (.long p4)]), .inr (.long, [(.long p4), (.long p3)]), .inr (.int, [(.int p2), oz, oz, oz]), .inr (.int, [(.int p0), oz, oz, oz]), .inr (.long, [(.long (p3 ^^^ (-1 : Int64))), ol, ol, ol]), .inr (.long, [(.long (p4 ^^^ (-1 : Int64))), ol, ol, ol]), .inl (0, [(rf n0 10), (rf n0 11), (rf n0 12), (rf n0 13), (.int (2 : Int32))]), .inr (.int, [(.int p0), (.int p1)]), .inr (.int, [(.int p1), (.int p2)]), .inr (.long, [(.long p3), (.long p4)]), .inr (.long, [(.long p4), (.long p3)]), .inl (0, [.null, .null, .null, .null, oz]), .inr (.int, [oz, oz, oz, oz])]) rfl (k' := 1) rfl (n' := 4) rfl ?_
  refine H.putfield s2_8 (k_4 hw) (i := 14) rfl rfl rfl rfl ?_
  refine H.aloadN s2_11 rfl rfl ?_
  refine H.iloadN s2_12 rfl ?_
  refine H.newarray s2_13 (ty := .int) rfl (k_0 hw) (N := 4) (cap := 4) (by decide) rfl (by decide) (by decide) (by first | rfl | simp) (by decide) (by decide) (i := 16) rfl (A' := [.inr (.int, []), .inr (.int, [(.int p0), (.int p1)]), .inr (.int, [(.int p1), (.int p2)]), .inr (.long, [(.long p3), (.long p4)]), .inr (.long, [(.long p4), (.long p3)]), .inr (.int, [(.int p2), oz, oz, oz]), .inr (.int, [(.int p0), oz, oz, oz]), .inr (.long, [(.long (p3 ^^^ (-1 : Int64))), ol, ol, ol]), .inr (.long, [(.long (p4 ^^^ (-1 : Int64))), ol, ol, ol]), .inl (0, [(rf n0 10), (rf n0 11), (rf n0 12), (rf n0 13), (.int (2 : Int32))]), .inr (.int, [(.int p0), (.int p1)]), .inr (.int, [(.int p1), (.int p2)]), .inr (.long, [(.long p3), (.long p4)]), .inr (.long, [(.long p4), (.long p3)]), .inl (0, [(rf n0 15), .null, .null, .null, oz]), .inr (.int, [oz, oz, oz, oz]), .inr (.int, [oz, oz, oz, oz])]) rfl (k' := 2) rfl (n' := 8) rfl ?_
  refine H.putfield s2_15 (k_5 hw) (i := 14) rfl rfl rfl rfl ?_
  refine H.aloadN s2_18 rfl rfl ?_
  refine H.iloadN s2_19 rfl ?_
  refine H.newarray s2_20 (ty := .long) rfl (k_1 hw) (N := 4) (cap := 4) (by decide) rfl (by decide) (by decide) (by first | rfl | simp) (by decide) (by decide) (i := 17) rfl (A' := [.inr (.int, []), .inr (.int, [(.int p0), (.int p1)]), .inr (.int, [(.int p1), (.int p2)]), .inr (.long, [(.long p3), (.long p4)]), .inr (.long, [(.long p4), (.long p3)]), .inr (.int, [(.int p2), oz, oz, oz]), .inr (.int, [(.int p0), oz, oz, oz]), .inr (.long, [(.long (p3 ^^^ (-1 : Int64))), ol, ol, ol]), .inr (.long, [(.long (p4 ^^^ (-1 : Int64))), ol, ol, ol]), .inl (0, [(rf n0 10), (rf n0 11), (rf n0 12), (rf n0 13), (.int (2 : Int32))]), .inr (.int, [(.int p0), (.int p1)]), .inr (.int, [(.int p1), (.int p2)]), .inr (.long, [(.long p3), (.long p4)]), .inr (.long, [(.long p4), (.long p3)]), .inl (0, [(rf n0 15), (rf n0 16), .null, .null, oz]), .inr (.int, [oz, oz, oz, oz]), .inr (.int, [oz, oz, oz, oz]), .inr (.long, [ol, ol, ol, ol])]) rfl (k' := 3) rfl (n' := 12) rfl ?_
  refine H.putfield s2_22 (k_6 hw) (i := 14) rfl rfl rfl rfl ?_
  refine H.aloadN s2_25 rfl rfl ?_
  refine H.iloadN s2_26 rfl ?_
  refine H.newarray s2_27 (ty := .long) rfl (k_1 hw) (N := 4) (cap := 4) (by decide) rfl (by decide) (by decide) (by first | rfl | simp) (by decide) (by decide) (i := 18) rfl (A' := [.inr (.int, []), .inr (.int, [(.int p0), (.int p1)]), .inr (.int, [(.int p1), (.int p2)]), .inr (.long, [(.long p3), (.long p4)]), .inr (.long, [(.long p4), (.long p3)]), .inr (.int, [(.int p2), oz, oz, oz]), .inr (.int, [(.int p0), oz, oz, oz]), .inr (.long, [(.long (p3 ^^^ (-1 : Int64))), ol, ol, ol]), .inr (.long, [(.long (p4 ^^^ (-1 : Int64))), ol, ol, ol]), .inl (0, [(rf n0 10), (rf n0 11), (rf n0 12), (rf n0 13), (.int (2 : Int32))]), .inr (.int, [(.int p0), (.int p1)]), .inr (.int, [(.int p1), (.int p2)]), .inr (.long, [(.long p3), (.long p4)]), .inr (.long, [(.long p4), (.long p3)]), .inl (0, [(rf n0 15), (rf n0 16), (rf n0 17), .null, oz]), .inr (.int, [oz, oz, oz, oz]), .inr (.int, [oz, oz, oz, oz]), .inr (.long, [ol, ol, ol, ol]), .inr (.long, [ol, ol, ol, ol])]) rfl (k' := 4) rfl (n' := 16) rfl ?_
  refine H.putfield s2_29 (k_7 hw) (i := 14) rfl rfl rfl rfl ?_
  exact H.vreturn s2_32 rfl ⟨rfl, rfl⟩ (by decide) (by decide)

theorem s0_360 : Nx code 360 (.aload 23) 2 362 := ⟨at_360, rfl⟩
theorem s0_362 : Nx code 362 (.iload_n 2) 1 363 := ⟨at_362, rfl⟩
theorem s0_363 : Nx code 363 (.iload_n 0) 1 364 := ⟨at_363, rfl⟩
theorem s0_364 : Nx code 364 (.lload_n 3) 1 365 := ⟨at_364, rfl⟩
theorem s0_365 : Nx code 365 (.ldc2_w 7) 3 368 := ⟨at_365, rfl⟩
theorem s0_368 : Nx code 368 (.lxor) 1 369 := ⟨at_368, rfl⟩
theorem s0_369 : Nx code 369 (.lload 5) 2 371 := ⟨at_369, rfl⟩
theorem s0_371 : Nx code 371 (.ldc2_w 7) 3 374 := ⟨at_371, rfl⟩
theorem s0_374 : Nx code 374 (.lxor) 1 375 := ⟨at_374, rfl⟩
theorem s0_375 : Nx code 375 (.invokevirtual 20) 3 378 := ⟨at_375, rfl⟩
set_option maxRecDepth 65536 in
set_option maxHeartbeats 40000000 in
theorem a_66 (l : Launch) {Z : State} {a0 : Array Value} (hw : HW1 Z a0) (n0 : Nat) (p0 : Int32) (p1 : Int32) (p2 : Int32) (p3 : Int64) (p4 : Int64) : Met l Z KT n0 y4 prog_15_method_2_code 7 none ({ frames := 0, cells := 0, slots := 0, locals := 0 } : Room) #[(rf n0 14), (.int p2), (.int p0), (.long (p3 ^^^ (-1 : Int64))), (.long (p4 ^^^ (-1 : Int64)))] [.inr (.int, []), .inr (.int, [(.int p0), (.int p1)]), .inr (.int, [(.int p1), (.int p2)]), .inr (.long, [(.long p3), (.long p4)]), .inr (.long, [(.long p4), (.long p3)]), .inr (.int, [(.int p2), oz, oz, oz]), .inr (.int, [(.int p0), oz, oz, oz]), .inr (.long, [(.long (p3 ^^^ (-1 : Int64))), ol, ol, ol]), .inr (.long, [(.long (p4 ^^^ (-1 : Int64))), ol, ol, ol]), .inl (0, [(rf n0 10), (rf n0 11), (rf n0 12), (rf n0 13), (.int (2 : Int32))]), .inr (.int, [(.int p0), (.int p1)]), .inr (.int, [(.int p1), (.int p2)]), .inr (.long, [(.long p3), (.long p4)]), .inr (.long, [(.long p4), (.long p3)]), .inl (0, [(rf n0 15), (rf n0 16), (rf n0 17), (rf n0 18), oz]), .inr (.int, [oz, oz, oz, oz]), .inr (.int, [oz, oz, oz, oz]), .inr (.long, [ol, ol, ol, ol]), .inr (.long, [ol, ol, ol, ol])] (Is none [.inr (.int, []), .inr (.int, [(.int p0), (.int p1)]), .inr (.int, [(.int p1), (.int p2)]), .inr (.long, [(.long p3), (.long p4)]), .inr (.long, [(.long p4), (.long p3)]), .inr (.int, [(.int p2), oz, oz, oz]), .inr (.int, [(.int p0), oz, oz, oz]), .inr (.long, [(.long (p3 ^^^ (-1 : Int64))), ol, ol, ol]), .inr (.long, [(.long (p4 ^^^ (-1 : Int64))), ol, ol, ol]), .inl (0, [(rf n0 10), (rf n0 11), (rf n0 12), (rf n0 13), (.int (2 : Int32))]), .inr (.int, [(.int p0), (.int p1)]), .inr (.int, [(.int p1), (.int p2)]), .inr (.long, [(.long p3), (.long p4)]), .inr (.long, [(.long p4), (.long p3)]), .inl (0, [(rf n0 15), (rf n0 16), (rf n0 17), (rf n0 18), (.int (1 : Int32))]), .inr (.int, [(.int p2), oz, oz, oz]), .inr (.int, [(.int p0), oz, oz, oz]), .inr (.long, [(.long (p3 ^^^ (-1 : Int64))), ol, ol, ol]), .inr (.long, [(.long (p4 ^^^ (-1 : Int64))), ol, ol, ol])]) := by
  refine Met.of (a0 := a0) (ls := #[.val (rf n0 14), .val (.int p2), .val (.int p0), .val (.long (p3 ^^^ (-1 : Int64))), .second, .val (.long (p4 ^^^ (-1 : Int64))), .second]) (kok hw) (plainFor_of_name pn_8) (fun m => by first | (simp [entryFrame, mkF, argsToLocals, Value.category]; done) | rfl) (fun G H => ?_)
  refine H.aloadN s4_0 rfl rfl ?_
  refine H.getfield s4_1 (k_10 hw) (i := 14) rfl rfl ?_
  refine H.aloadN s4_4 rfl rfl ?_
  refine H.getfield s4_5 (k_11 hw) (i := 14) rfl rfl ?_
  refine H.iloadN s4_8 rfl ?_
  refine H.iastore s4_9 (i := 15) (j := 0) rfl (by decide) (ltb rfl)  rfl ?_
  refine H.aloadN s4_10 rfl rfl ?_
  refine H.getfield s4_11 (k_12 hw) (i := 14) rfl rfl ?_
  refine H.aloadN s4_14 rfl rfl ?_
  refine H.getfield s4_15 (k_11 hw) (i := 14) rfl rfl ?_
  refine H.iloadN s4_18 rfl ?_
  refine H.iastore s4_19 (i := 16) (j := 0) rfl (by decide) (ltb rfl)  rfl ?_
  refine H.aloadN s4_20 rfl rfl ?_
  refine H.getfield s4_21 (k_13 hw) (i := 14) rfl rfl ?_
  refine H.aloadN s4_24 rfl rfl ?_
  refine H.getfield s4_25 (k_11 hw) (i := 14) rfl rfl ?_
  refine H.lloadN s4_28 rfl ?_
  refine H.lastore s4_29 (i := 17) (j := 0) rfl (by decide) (ltb rfl)  rfl ?_
  refine H.aloadN s4_30 rfl rfl ?_
  refine H.getfield s4_31 (k_14 hw) (i := 14) rfl rfl ?_
  refine H.aloadN s4_34 rfl rfl ?_
  refine H.getfield s4_35 (k_11 hw) (i := 14) rfl rfl ?_
  refine H.lload s4_38 rfl ?_
  refine H.lastore s4_40 (i := 18) (j := 0) rfl (by decide) (ltb rfl)  rfl ?_
  refine H.aloadN s4_41 rfl rfl ?_
  refine H.dup s4_42 rfl ?_
  refine H.getfield s4_43 (k_11 hw) (i := 14) rfl rfl ?_
  refine H.iconst s4_46 (v := (1 : Int32)) (by decide) ?_
  refine H.iadd s4_47 (w := (1 : Int32)) (by decide) ?_
  refine H.putfield s4_48 (k_15 hw) (i := 14) rfl rfl rfl rfl ?_
  exact H.vreturn s4_51 rfl ⟨rfl, rfl⟩ (by decide) (by decide)


set_option maxRecDepth 65536 in
set_option maxHeartbeats 40000000 in
theorem a_67 (l : Launch) {Z : State} {a0 : Array Value} (hw : HW1 Z a0) (n0 : Nat) (p0 : Int32) (p1 : Int32) (p2 : Int32) (p3 : Int64) (p4 : Int64) : Met l Z KT n0 y5 prog_15_method_4_code 5 none ({ frames := 0, cells := 0, slots := 0, locals := 0 } : Room) #[(rf n0 14), (rf n0 9), (rf n0 0)] [.inr (.int, []), .inr (.int, [(.int p0), (.int p1)]), .inr (.int, [(.int p1), (.int p2)]), .inr (.long, [(.long p3), (.long p4)]), .inr (.long, [(.long p4), (.long p3)]), .inr (.int, [(.int p2), oz, oz, oz]), .inr (.int, [(.int p0), oz, oz, oz]), .inr (.long, [(.long (p3 ^^^ (-1 : Int64))), ol, ol, ol]), .inr (.long, [(.long (p4 ^^^ (-1 : Int64))), ol, ol, ol]), .inl (0, [(rf n0 10), (rf n0 11), (rf n0 12), (rf n0 13), (.int (2 : Int32))]), .inr (.int, [(.int p0), (.int p1)]), .inr (.int, [(.int p1), (.int p2)]), .inr (.long, [(.long p3), (.long p4)]), .inr (.long, [(.long p4), (.long p3)]), .inl (0, [(rf n0 15), (rf n0 16), (rf n0 17), (rf n0 18), (.int (1 : Int32))]), .inr (.int, [(.int p2), oz, oz, oz]), .inr (.int, [(.int p0), oz, oz, oz]), .inr (.long, [(.long (p3 ^^^ (-1 : Int64))), ol, ol, ol]), .inr (.long, [(.long (p4 ^^^ (-1 : Int64))), ol, ol, ol])] (Is none [.inr (.int, []), .inr (.int, [(.int p0), (.int p1)]), .inr (.int, [(.int p1), (.int p2)]), .inr (.long, [(.long p3), (.long p4)]), .inr (.long, [(.long p4), (.long p3)]), .inr (.int, [(.int p2), oz, oz, oz]), .inr (.int, [(.int p0), oz, oz, oz]), .inr (.long, [(.long (p3 ^^^ (-1 : Int64))), ol, ol, ol]), .inr (.long, [(.long (p4 ^^^ (-1 : Int64))), ol, ol, ol]), .inl (0, [(rf n0 10), (rf n0 11), (rf n0 12), (rf n0 13), (.int (2 : Int32))]), .inr (.int, [(.int p0), (.int p1)]), .inr (.int, [(.int p1), (.int p2)]), .inr (.long, [(.long p3), (.long p4)]), .inr (.long, [(.long p4), (.long p3)]), .inl (0, [(rf n0 15), (rf n0 16), (rf n0 17), (rf n0 18), (.int (1 : Int32))]), .inr (.int, [(.int p2), oz, oz, oz]), .inr (.int, [(.int p0), oz, oz, oz]), .inr (.long, [(.long (p3 ^^^ (-1 : Int64))), ol, ol, ol]), .inr (.long, [(.long (p4 ^^^ (-1 : Int64))), ol, ol, ol])]) := by
  refine Met.of (a0 := a0) (ls := #[.val (rf n0 14), .val (rf n0 9), .val (rf n0 0), .unset, .unset]) (kok hw) (plainFor_of_name pn_8) (fun m => by first | (simp [entryFrame, mkF, argsToLocals, Value.category]; done) | rfl) (fun G H => ?_)
  refine H.iconst s5_0 (v := (0 : Int32)) (by decide) ?_
  refine H.istoreN s5_1 (ls' := #[.val (rf n0 14), .val (rf n0 9), .val (rf n0 0), .val oz, .unset]) rfl ?_
  refine H.iloadN s5_2 rfl ?_
  refine H.aloadN s5_3 rfl rfl ?_
  refine H.arraylength s5_4 (i := 0) rfl (z := (0 : Int32)) rfl ?_
  refine H.icmpT s5_5 (show ¬ (0 : Int32) < (0 : Int32) by decide) ?_
  refine H.aloadN s5_91 rfl rfl ?_
  refine H.dup s5_92 rfl ?_
  refine H.getfield s5_93 (k_11 hw) (i := 14) rfl rfl ?_
  refine H.aloadN s5_96 rfl rfl ?_
  refine H.arraylength s5_97 (i := 0) rfl (z := (0 : Int32)) rfl ?_
  refine H.iadd s5_98 (w := (1 : Int32)) (by decide) ?_
  refine H.putfield s5_99 (k_17 hw) (i := 14) rfl rfl rfl rfl ?_
  exact H.vreturn s5_102 rfl ⟨rfl, rfl⟩ (by decide) (by decide)


set_option maxRecDepth 65536 in
set_option maxHeartbeats 40000000 in
theorem a_68 (l : Launch) {Z : State} {a0 : Array Value} (hw : HW1 Z a0) (n0 : Nat) (p0 : Int32) (p1 : Int32) (p2 : Int32) (p3 : Int64) (p4 : Int64) : Met l Z KT n0 y6 prog_15_method_5_code 1 (some .int) ({ frames := 0, cells := 0, slots := 0, locals := 0 } : Room) #[(rf n0 14)] [.inr (.int, []), .inr (.int, [(.int p0), (.int p1)]), .inr (.int, [(.int p1), (.int p2)]), .inr (.long, [(.long p3), (.long p4)]), .inr (.long, [(.long p4), (.long p3)]), .inr (.int, [(.int p2), oz, oz, oz]), .inr (.int, [(.int p0), oz, oz, oz]), .inr (.long, [(.long (p3 ^^^ (-1 : Int64))), ol, ol, ol]), .inr (.long, [(.long (p4 ^^^ (-1 : Int64))), ol, ol, ol]), .inl (0, [(rf n0 10), (rf n0 11), (rf n0 12), (rf n0 13), (.int (2 : Int32))]), .inr (.int, [(.int p0), (.int p1)]), .inr (.int, [(.int p1), (.int p2)]), .inr (.long, [(.long p3), (.long p4)]), .inr (.long, [(.long p4), (.long p3)]), .inl (0, [(rf n0 15), (rf n0 16), (rf n0 17), (rf n0 18), (.int (1 : Int32))]), .inr (.int, [(.int p2), oz, oz, oz]), .inr (.int, [(.int p0), oz, oz, oz]), .inr (.long, [(.long (p3 ^^^ (-1 : Int64))), ol, ol, ol]), .inr (.long, [(.long (p4 ^^^ (-1 : Int64))), ol, ol, ol])] (Is (some (.int (1 : Int32))) [.inr (.int, []), .inr (.int, [(.int p0), (.int p1)]), .inr (.int, [(.int p1), (.int p2)]), .inr (.long, [(.long p3), (.long p4)]), .inr (.long, [(.long p4), (.long p3)]), .inr (.int, [(.int p2), oz, oz, oz]), .inr (.int, [(.int p0), oz, oz, oz]), .inr (.long, [(.long (p3 ^^^ (-1 : Int64))), ol, ol, ol]), .inr (.long, [(.long (p4 ^^^ (-1 : Int64))), ol, ol, ol]), .inl (0, [(rf n0 10), (rf n0 11), (rf n0 12), (rf n0 13), (.int (2 : Int32))]), .inr (.int, [(.int p0), (.int p1)]), .inr (.int, [(.int p1), (.int p2)]), .inr (.long, [(.long p3), (.long p4)]), .inr (.long, [(.long p4), (.long p3)]), .inl (0, [(rf n0 15), (rf n0 16), (rf n0 17), (rf n0 18), (.int (1 : Int32))]), .inr (.int, [(.int p2), oz, oz, oz]), .inr (.int, [(.int p0), oz, oz, oz]), .inr (.long, [(.long (p3 ^^^ (-1 : Int64))), ol, ol, ol]), .inr (.long, [(.long (p4 ^^^ (-1 : Int64))), ol, ol, ol])]) := by
  refine Met.of (a0 := a0) (ls := #[.val (rf n0 14)]) (kok hw) (plainFor_of_name pn_8) (fun m => by first | (simp [entryFrame, mkF, argsToLocals, Value.category]; done) | rfl) (fun G H => ?_)
  refine H.aloadN s6_0 rfl rfl ?_
  refine H.getfield s6_1 (k_11 hw) (i := 14) rfl rfl ?_
  exact H.ireturn s6_4 rfl (by simp) rfl ⟨rfl, rfl⟩ (by decide) (by decide)


set_option maxRecDepth 65536 in
set_option maxHeartbeats 40000000 in
theorem a_69 (l : Launch) {Z : State} {a0 : Array Value} (hw : HW1 Z a0) (n0 : Nat) (p0 : Int32) (p1 : Int32) (p2 : Int32) (p3 : Int64) (p4 : Int64) : Met l Z KT n0 y7 prog_15_method_6_code 1 (some (.array .int)) ({ frames := 0, cells := 0, slots := 0, locals := 0 } : Room) #[(rf n0 14)] [.inr (.int, []), .inr (.int, [(.int p0), (.int p1)]), .inr (.int, [(.int p1), (.int p2)]), .inr (.long, [(.long p3), (.long p4)]), .inr (.long, [(.long p4), (.long p3)]), .inr (.int, [(.int p2), oz, oz, oz]), .inr (.int, [(.int p0), oz, oz, oz]), .inr (.long, [(.long (p3 ^^^ (-1 : Int64))), ol, ol, ol]), .inr (.long, [(.long (p4 ^^^ (-1 : Int64))), ol, ol, ol]), .inl (0, [(rf n0 10), (rf n0 11), (rf n0 12), (rf n0 13), (.int (2 : Int32))]), .inr (.int, [(.int p0), (.int p1)]), .inr (.int, [(.int p1), (.int p2)]), .inr (.long, [(.long p3), (.long p4)]), .inr (.long, [(.long p4), (.long p3)]), .inl (0, [(rf n0 15), (rf n0 16), (rf n0 17), (rf n0 18), (.int (1 : Int32))]), .inr (.int, [(.int p2), oz, oz, oz]), .inr (.int, [(.int p0), oz, oz, oz]), .inr (.long, [(.long (p3 ^^^ (-1 : Int64))), ol, ol, ol]), .inr (.long, [(.long (p4 ^^^ (-1 : Int64))), ol, ol, ol])] (Is (some (rf n0 15)) [.inr (.int, []), .inr (.int, [(.int p0), (.int p1)]), .inr (.int, [(.int p1), (.int p2)]), .inr (.long, [(.long p3), (.long p4)]), .inr (.long, [(.long p4), (.long p3)]), .inr (.int, [(.int p2), oz, oz, oz]), .inr (.int, [(.int p0), oz, oz, oz]), .inr (.long, [(.long (p3 ^^^ (-1 : Int64))), ol, ol, ol]), .inr (.long, [(.long (p4 ^^^ (-1 : Int64))), ol, ol, ol]), .inl (0, [(rf n0 10), (rf n0 11), (rf n0 12), (rf n0 13), (.int (2 : Int32))]), .inr (.int, [(.int p0), (.int p1)]), .inr (.int, [(.int p1), (.int p2)]), .inr (.long, [(.long p3), (.long p4)]), .inr (.long, [(.long p4), (.long p3)]), .inl (0, [(rf n0 15), (rf n0 16), (rf n0 17), (rf n0 18), (.int (1 : Int32))]), .inr (.int, [(.int p2), oz, oz, oz]), .inr (.int, [(.int p0), oz, oz, oz]), .inr (.long, [(.long (p3 ^^^ (-1 : Int64))), ol, ol, ol]), .inr (.long, [(.long (p4 ^^^ (-1 : Int64))), ol, ol, ol])]) := by
  refine Met.of (a0 := a0) (ls := #[.val (rf n0 14)]) (kok hw) (plainFor_of_name pn_8) (fun m => by first | (simp [entryFrame, mkF, argsToLocals, Value.category]; done) | rfl) (fun G H => ?_)
  refine H.aloadN s7_0 rfl rfl ?_
  refine H.getfield s7_1 (k_10 hw) (i := 14) rfl rfl ?_
  exact H.areturn s7_4 rfl rfl rfl rfl ⟨rfl, rfl⟩ (by decide) (by decide)


set_option maxRecDepth 65536 in
set_option maxHeartbeats 40000000 in
theorem a_70 (l : Launch) {Z : State} {a0 : Array Value} (hw : HW1 Z a0) (n0 : Nat) (p0 : Int32) (p1 : Int32) (p2 : Int32) (p3 : Int64) (p4 : Int64) : Met l Z KT n0 y8 prog_15_method_7_code 1 (some (.array .int)) ({ frames := 0, cells := 0, slots := 0, locals := 0 } : Room) #[(rf n0 14)] [.inr (.int, []), .inr (.int, [(.int p0), (.int p1)]), .inr (.int, [(.int p1), (.int p2)]), .inr (.long, [(.long p3), (.long p4)]), .inr (.long, [(.long p4), (.long p3)]), .inr (.int, [(.int p2), oz, oz, oz]), .inr (.int, [(.int p0), oz, oz, oz]), .inr (.long, [(.long (p3 ^^^ (-1 : Int64))), ol, ol, ol]), .inr (.long, [(.long (p4 ^^^ (-1 : Int64))), ol, ol, ol]), .inl (0, [(rf n0 10), (rf n0 11), (rf n0 12), (rf n0 13), (.int (2 : Int32))]), .inr (.int, [(.int p0), (.int p1)]), .inr (.int, [(.int p1), (.int p2)]), .inr (.long, [(.long p3), (.long p4)]), .inr (.long, [(.long p4), (.long p3)]), .inl (0, [(rf n0 15), (rf n0 16), (rf n0 17), (rf n0 18), (.int (1 : Int32))]), .inr (.int, [(.int p2), oz, oz, oz]), .inr (.int, [(.int p0), oz, oz, oz]), .inr (.long, [(.long (p3 ^^^ (-1 : Int64))), ol, ol, ol]), .inr (.long, [(.long (p4 ^^^ (-1 : Int64))), ol, ol, ol])] (Is (some (rf n0 16)) [.inr (.int, []), .inr (.int, [(.int p0), (.int p1)]), .inr (.int, [(.int p1), (.int p2)]), .inr (.long, [(.long p3), (.long p4)]), .inr (.long, [(.long p4), (.long p3)]), .inr (.int, [(.int p2), oz, oz, oz]), .inr (.int, [(.int p0), oz, oz, oz]), .inr (.long, [(.long (p3 ^^^ (-1 : Int64))), ol, ol, ol]), .inr (.long, [(.long (p4 ^^^ (-1 : Int64))), ol, ol, ol]), .inl (0, [(rf n0 10), (rf n0 11), (rf n0 12), (rf n0 13), (.int (2 : Int32))]), .inr (.int, [(.int p0), (.int p1)]), .inr (.int, [(.int p1), (.int p2)]), .inr (.long, [(.long p3), (.long p4)]), .inr (.long, [(.long p4), (.long p3)]), .inl (0, [(rf n0 15), (rf n0 16), (rf n0 17), (rf n0 18), (.int (1 : Int32))]), .inr (.int, [(.int p2), oz, oz, oz]), .inr (.int, [(.int p0), oz, oz, oz]), .inr (.long, [(.long (p3 ^^^ (-1 : Int64))), ol, ol, ol]), .inr (.long, [(.long (p4 ^^^ (-1 : Int64))), ol, ol, ol])]) := by
  refine Met.of (a0 := a0) (ls := #[.val (rf n0 14)]) (kok hw) (plainFor_of_name pn_8) (fun m => by first | (simp [entryFrame, mkF, argsToLocals, Value.category]; done) | rfl) (fun G H => ?_)
  refine H.aloadN s8_0 rfl rfl ?_
  refine H.getfield s8_1 (k_12 hw) (i := 14) rfl rfl ?_
  exact H.areturn s8_4 rfl rfl rfl rfl ⟨rfl, rfl⟩ (by decide) (by decide)


set_option maxRecDepth 65536 in
set_option maxHeartbeats 40000000 in
theorem a_71 (l : Launch) {Z : State} {a0 : Array Value} (hw : HW1 Z a0) (n0 : Nat) (p0 : Int32) (p1 : Int32) (p2 : Int32) (p3 : Int64) (p4 : Int64) : Met l Z KT n0 y9 prog_15_method_8_code 1 (some (.array .long)) ({ frames := 0, cells := 0, slots := 0, locals := 0 } : Room) #[(rf n0 14)] [.inr (.int, []), .inr (.int, [(.int p0), (.int p1)]), .inr (.int, [(.int p1), (.int p2)]), .inr (.long, [(.long p3), (.long p4)]), .inr (.long, [(.long p4), (.long p3)]), .inr (.int, [(.int p2), oz, oz, oz]), .inr (.int, [(.int p0), oz, oz, oz]), .inr (.long, [(.long (p3 ^^^ (-1 : Int64))), ol, ol, ol]), .inr (.long, [(.long (p4 ^^^ (-1 : Int64))), ol, ol, ol]), .inl (0, [(rf n0 10), (rf n0 11), (rf n0 12), (rf n0 13), (.int (2 : Int32))]), .inr (.int, [(.int p0), (.int p1)]), .inr (.int, [(.int p1), (.int p2)]), .inr (.long, [(.long p3), (.long p4)]), .inr (.long, [(.long p4), (.long p3)]), .inl (0, [(rf n0 15), (rf n0 16), (rf n0 17), (rf n0 18), (.int (1 : Int32))]), .inr (.int, [(.int p2), oz, oz, oz]), .inr (.int, [(.int p0), oz, oz, oz]), .inr (.long, [(.long (p3 ^^^ (-1 : Int64))), ol, ol, ol]), .inr (.long, [(.long (p4 ^^^ (-1 : Int64))), ol, ol, ol])] (Is (some (rf n0 17)) [.inr (.int, []), .inr (.int, [(.int p0), (.int p1)]), .inr (.int, [(.int p1), (.int p2)]), .inr (.long, [(.long p3), (.long p4)]), .inr (.long, [(.long p4), (.long p3)]), .inr (.int, [(.int p2), oz, oz, oz]), .inr (.int, [(.int p0), oz, oz, oz]), .inr (.long, [(.long (p3 ^^^ (-1 : Int64))), ol, ol, ol]), .inr (.long, [(.long (p4 ^^^ (-1 : Int64))), ol, ol, ol]), .inl (0, [(rf n0 10), (rf n0 11), (rf n0 12), (rf n0 13), (.int (2 : Int32))]), .inr (.int, [(.int p0), (.int p1)]), .inr (.int, [(.int p1), (.int p2)]), .inr (.long, [(.long p3), (.long p4)]), .inr (.long, [(.long p4), (.long p3)]), .inl (0, [(rf n0 15), (rf n0 16), (rf n0 17), (rf n0 18), (.int (1 : Int32))]), .inr (.int, [(.int p2), oz, oz, oz]), .inr (.int, [(.int p0), oz, oz, oz]), .inr (.long, [(.long (p3 ^^^ (-1 : Int64))), ol, ol, ol]), .inr (.long, [(.long (p4 ^^^ (-1 : Int64))), ol, ol, ol])]) := by
  refine Met.of (a0 := a0) (ls := #[.val (rf n0 14)]) (kok hw) (plainFor_of_name pn_8) (fun m => by first | (simp [entryFrame, mkF, argsToLocals, Value.category]; done) | rfl) (fun G H => ?_)
  refine H.aloadN s9_0 rfl rfl ?_
  refine H.getfield s9_1 (k_13 hw) (i := 14) rfl rfl ?_
  exact H.areturn s9_4 rfl rfl rfl rfl ⟨rfl, rfl⟩ (by decide) (by decide)


set_option maxRecDepth 65536 in
set_option maxHeartbeats 40000000 in
theorem a_72 (l : Launch) {Z : State} {a0 : Array Value} (hw : HW1 Z a0) (n0 : Nat) (p0 : Int32) (p1 : Int32) (p2 : Int32) (p3 : Int64) (p4 : Int64) : Met l Z KT n0 y10 prog_15_method_9_code 1 (some (.array .long)) ({ frames := 0, cells := 0, slots := 0, locals := 0 } : Room) #[(rf n0 14)] [.inr (.int, []), .inr (.int, [(.int p0), (.int p1)]), .inr (.int, [(.int p1), (.int p2)]), .inr (.long, [(.long p3), (.long p4)]), .inr (.long, [(.long p4), (.long p3)]), .inr (.int, [(.int p2), oz, oz, oz]), .inr (.int, [(.int p0), oz, oz, oz]), .inr (.long, [(.long (p3 ^^^ (-1 : Int64))), ol, ol, ol]), .inr (.long, [(.long (p4 ^^^ (-1 : Int64))), ol, ol, ol]), .inl (0, [(rf n0 10), (rf n0 11), (rf n0 12), (rf n0 13), (.int (2 : Int32))]), .inr (.int, [(.int p0), (.int p1)]), .inr (.int, [(.int p1), (.int p2)]), .inr (.long, [(.long p3), (.long p4)]), .inr (.long, [(.long p4), (.long p3)]), .inl (0, [(rf n0 15), (rf n0 16), (rf n0 17), (rf n0 18), (.int (1 : Int32))]), .inr (.int, [(.int p2), oz, oz, oz]), .inr (.int, [(.int p0), oz, oz, oz]), .inr (.long, [(.long (p3 ^^^ (-1 : Int64))), ol, ol, ol]), .inr (.long, [(.long (p4 ^^^ (-1 : Int64))), ol, ol, ol])] (Is (some (rf n0 18)) [.inr (.int, []), .inr (.int, [(.int p0), (.int p1)]), .inr (.int, [(.int p1), (.int p2)]), .inr (.long, [(.long p3), (.long p4)]), .inr (.long, [(.long p4), (.long p3)]), .inr (.int, [(.int p2), oz, oz, oz]), .inr (.int, [(.int p0), oz, oz, oz]), .inr (.long, [(.long (p3 ^^^ (-1 : Int64))), ol, ol, ol]), .inr (.long, [(.long (p4 ^^^ (-1 : Int64))), ol, ol, ol]), .inl (0, [(rf n0 10), (rf n0 11), (rf n0 12), (rf n0 13), (.int (2 : Int32))]), .inr (.int, [(.int p0), (.int p1)]), .inr (.int, [(.int p1), (.int p2)]), .inr (.long, [(.long p3), (.long p4)]), .inr (.long, [(.long p4), (.long p3)]), .inl (0, [(rf n0 15), (rf n0 16), (rf n0 17), (rf n0 18), (.int (1 : Int32))]), .inr (.int, [(.int p2), oz, oz, oz]), .inr (.int, [(.int p0), oz, oz, oz]), .inr (.long, [(.long (p3 ^^^ (-1 : Int64))), ol, ol, ol]), .inr (.long, [(.long (p4 ^^^ (-1 : Int64))), ol, ol, ol])]) := by
  refine Met.of (a0 := a0) (ls := #[.val (rf n0 14)]) (kok hw) (plainFor_of_name pn_8) (fun m => by first | (simp [entryFrame, mkF, argsToLocals, Value.category]; done) | rfl) (fun G H => ?_)
  refine H.aloadN s10_0 rfl rfl ?_
  refine H.getfield s10_1 (k_14 hw) (i := 14) rfl rfl ?_
  exact H.areturn s10_4 rfl rfl rfl rfl ⟨rfl, rfl⟩ (by decide) (by decide)


set_option maxRecDepth 65536 in
set_option maxHeartbeats 40000000 in
theorem a_73 (l : Launch) {Z : State} {a0 : Array Value} (hw : HW1 Z a0) (n0 : Nat) (p0 : Int32) (p1 : Int32) (p2 : Int32) (p3 : Int64) (p4 : Int64) : Met l Z KT n0 y11 method_4_code 2 (some .boolean) ({ frames := 0, cells := 0, slots := 0, locals := 0 } : Room) #[(rf n0 15), (rf n0 5)] [.inr (.int, []), .inr (.int, [(.int p0), (.int p1)]), .inr (.int, [(.int p1), (.int p2)]), .inr (.long, [(.long p3), (.long p4)]), .inr (.long, [(.long p4), (.long p3)]), .inr (.int, [(.int p2), oz, oz, oz]), .inr (.int, [(.int p0), oz, oz, oz]), .inr (.long, [(.long (p3 ^^^ (-1 : Int64))), ol, ol, ol]), .inr (.long, [(.long (p4 ^^^ (-1 : Int64))), ol, ol, ol]), .inl (0, [(rf n0 10), (rf n0 11), (rf n0 12), (rf n0 13), (.int (2 : Int32))]), .inr (.int, [(.int p0), (.int p1)]), .inr (.int, [(.int p1), (.int p2)]), .inr (.long, [(.long p3), (.long p4)]), .inr (.long, [(.long p4), (.long p3)]), .inl (0, [(rf n0 15), (rf n0 16), (rf n0 17), (rf n0 18), (.int (1 : Int32))]), .inr (.int, [(.int p2), oz, oz, oz]), .inr (.int, [(.int p0), oz, oz, oz]), .inr (.long, [(.long (p3 ^^^ (-1 : Int64))), ol, ol, ol]), .inr (.long, [(.long (p4 ^^^ (-1 : Int64))), ol, ol, ol])] (Is (some (.int (1 : Int32))) [.inr (.int, []), .inr (.int, [(.int p0), (.int p1)]), .inr (.int, [(.int p1), (.int p2)]), .inr (.long, [(.long p3), (.long p4)]), .inr (.long, [(.long p4), (.long p3)]), .inr (.int, [(.int p2), oz, oz, oz]), .inr (.int, [(.int p0), oz, oz, oz]), .inr (.long, [(.long (p3 ^^^ (-1 : Int64))), ol, ol, ol]), .inr (.long, [(.long (p4 ^^^ (-1 : Int64))), ol, ol, ol]), .inl (0, [(rf n0 10), (rf n0 11), (rf n0 12), (rf n0 13), (.int (2 : Int32))]), .inr (.int, [(.int p0), (.int p1)]), .inr (.int, [(.int p1), (.int p2)]), .inr (.long, [(.long p3), (.long p4)]), .inr (.long, [(.long p4), (.long p3)]), .inl (0, [(rf n0 15), (rf n0 16), (rf n0 17), (rf n0 18), (.int (1 : Int32))]), .inr (.int, [(.int p2), oz, oz, oz]), .inr (.int, [(.int p0), oz, oz, oz]), .inr (.long, [(.long (p3 ^^^ (-1 : Int64))), ol, ol, ol]), .inr (.long, [(.long (p4 ^^^ (-1 : Int64))), ol, ol, ol])]) := by
  refine Met.of (a0 := a0) (ls := #[.val (rf n0 15), .val (rf n0 5)]) (kok hw) (plainFor_of_name pn_24) (fun m => by first | (simp [entryFrame, mkF, argsToLocals, Value.category]; done) | rfl) (fun G H => ?_)
  refine H.aloadN s11_0 rfl rfl ?_
  refine H.arraylength s11_1 (i := 15) rfl (z := (4 : Int32)) rfl ?_
  refine H.iconst s11_2 (v := (4 : Int32)) (by decide) ?_
  refine H.icmpF s11_3 (show (4 : Int32) = (4 : Int32) by decide) ?_
  refine H.aloadN s11_6 rfl rfl ?_
  refine H.iconst s11_7 (v := (0 : Int32)) (by decide) ?_
  refine H.iaload s11_8 (i := 15) (j := 0) rfl (by decide) (v := (.int p2)) rfl ?_
  refine H.aloadN s11_9 rfl rfl ?_
  refine H.iconst s11_10 (v := (0 : Int32)) (by decide) ?_
  refine H.iaload s11_11 (i := 5) (j := 0) rfl (by decide) (v := (.int p2)) rfl ?_
  refine H.icmpF s11_12 rfl ?_
  refine H.aloadN s11_15 rfl rfl ?_
  refine H.iconst s11_16 (v := (1 : Int32)) (by decide) ?_
  refine H.iaload s11_17 (i := 15) (j := 1) rfl (by decide) (v := oz) rfl ?_
  refine H.aloadN s11_18 rfl rfl ?_
  refine H.iconst s11_19 (v := (1 : Int32)) (by decide) ?_
  refine H.iaload s11_20 (i := 5) (j := 1) rfl (by decide) (v := oz) rfl ?_
  refine H.icmpF s11_21 (show (0 : Int32) = (0 : Int32) by decide) ?_
  refine H.aloadN s11_24 rfl rfl ?_
  refine H.iconst s11_25 (v := (2 : Int32)) (by decide) ?_
  refine H.iaload s11_26 (i := 15) (j := 2) rfl (by decide) (v := oz) rfl ?_
  refine H.aloadN s11_27 rfl rfl ?_
  refine H.iconst s11_28 (v := (2 : Int32)) (by decide) ?_
  refine H.iaload s11_29 (i := 5) (j := 2) rfl (by decide) (v := oz) rfl ?_
  refine H.icmpF s11_30 (show (0 : Int32) = (0 : Int32) by decide) ?_
  refine H.aloadN s11_33 rfl rfl ?_
  refine H.iconst s11_34 (v := (3 : Int32)) (by decide) ?_
  refine H.iaload s11_35 (i := 15) (j := 3) rfl (by decide) (v := oz) rfl ?_
  refine H.aloadN s11_36 rfl rfl ?_
  refine H.iconst s11_37 (v := (3 : Int32)) (by decide) ?_
  refine H.iaload s11_38 (i := 5) (j := 3) rfl (by decide) (v := oz) rfl ?_
  refine H.icmpF s11_39 (show (0 : Int32) = (0 : Int32) by decide) ?_
  refine H.iconst s11_42 (v := (1 : Int32)) (by decide) ?_
  refine H.goto s11_43 ?_
  exact H.ireturn s11_47 rfl (by simp) rfl ⟨rfl, rfl⟩ (by decide) (by decide)


set_option maxRecDepth 65536 in
set_option maxHeartbeats 40000000 in
theorem a_74 (l : Launch) {Z : State} {a0 : Array Value} (hw : HW1 Z a0) (n0 : Nat) (p0 : Int32) (p1 : Int32) (p2 : Int32) (p3 : Int64) (p4 : Int64) : Met l Z KT n0 y11 method_4_code 2 (some .boolean) ({ frames := 0, cells := 0, slots := 0, locals := 0 } : Room) #[(rf n0 16), (rf n0 6)] [.inr (.int, []), .inr (.int, [(.int p0), (.int p1)]), .inr (.int, [(.int p1), (.int p2)]), .inr (.long, [(.long p3), (.long p4)]), .inr (.long, [(.long p4), (.long p3)]), .inr (.int, [(.int p2), oz, oz, oz]), .inr (.int, [(.int p0), oz, oz, oz]), .inr (.long, [(.long (p3 ^^^ (-1 : Int64))), ol, ol, ol]), .inr (.long, [(.long (p4 ^^^ (-1 : Int64))), ol, ol, ol]), .inl (0, [(rf n0 10), (rf n0 11), (rf n0 12), (rf n0 13), (.int (2 : Int32))]), .inr (.int, [(.int p0), (.int p1)]), .inr (.int, [(.int p1), (.int p2)]), .inr (.long, [(.long p3), (.long p4)]), .inr (.long, [(.long p4), (.long p3)]), .inl (0, [(rf n0 15), (rf n0 16), (rf n0 17), (rf n0 18), (.int (1 : Int32))]), .inr (.int, [(.int p2), oz, oz, oz]), .inr (.int, [(.int p0), oz, oz, oz]), .inr (.long, [(.long (p3 ^^^ (-1 : Int64))), ol, ol, ol]), .inr (.long, [(.long (p4 ^^^ (-1 : Int64))), ol, ol, ol])] (Is (some (.int (1 : Int32))) [.inr (.int, []), .inr (.int, [(.int p0), (.int p1)]), .inr (.int, [(.int p1), (.int p2)]), .inr (.long, [(.long p3), (.long p4)]), .inr (.long, [(.long p4), (.long p3)]), .inr (.int, [(.int p2), oz, oz, oz]), .inr (.int, [(.int p0), oz, oz, oz]), .inr (.long, [(.long (p3 ^^^ (-1 : Int64))), ol, ol, ol]), .inr (.long, [(.long (p4 ^^^ (-1 : Int64))), ol, ol, ol]), .inl (0, [(rf n0 10), (rf n0 11), (rf n0 12), (rf n0 13), (.int (2 : Int32))]), .inr (.int, [(.int p0), (.int p1)]), .inr (.int, [(.int p1), (.int p2)]), .inr (.long, [(.long p3), (.long p4)]), .inr (.long, [(.long p4), (.long p3)]), .inl (0, [(rf n0 15), (rf n0 16), (rf n0 17), (rf n0 18), (.int (1 : Int32))]), .inr (.int, [(.int p2), oz, oz, oz]), .inr (.int, [(.int p0), oz, oz, oz]), .inr (.long, [(.long (p3 ^^^ (-1 : Int64))), ol, ol, ol]), .inr (.long, [(.long (p4 ^^^ (-1 : Int64))), ol, ol, ol])]) := by
  refine Met.of (a0 := a0) (ls := #[.val (rf n0 16), .val (rf n0 6)]) (kok hw) (plainFor_of_name pn_24) (fun m => by first | (simp [entryFrame, mkF, argsToLocals, Value.category]; done) | rfl) (fun G H => ?_)
  refine H.aloadN s11_0 rfl rfl ?_
  refine H.arraylength s11_1 (i := 16) rfl (z := (4 : Int32)) rfl ?_
  refine H.iconst s11_2 (v := (4 : Int32)) (by decide) ?_
  refine H.icmpF s11_3 (show (4 : Int32) = (4 : Int32) by decide) ?_
  refine H.aloadN s11_6 rfl rfl ?_
  refine H.iconst s11_7 (v := (0 : Int32)) (by decide) ?_
  refine H.iaload s11_8 (i := 16) (j := 0) rfl (by decide) (v := (.int p0)) rfl ?_
  refine H.aloadN s11_9 rfl rfl ?_
  refine H.iconst s11_10 (v := (0 : Int32)) (by decide) ?_
  refine H.iaload s11_11 (i := 6) (j := 0) rfl (by decide) (v := (.int p0)) rfl ?_
  refine H.icmpF s11_12 rfl ?_
  refine H.aloadN s11_15 rfl rfl ?_
  refine H.iconst s11_16 (v := (1 : Int32)) (by decide) ?_
  refine H.iaload s11_17 (i := 16) (j := 1) rfl (by decide) (v := oz) rfl ?_
  refine H.aloadN s11_18 rfl rfl ?_
  refine H.iconst s11_19 (v := (1 : Int32)) (by decide) ?_
  refine H.iaload s11_20 (i := 6) (j := 1) rfl (by decide) (v := oz) rfl ?_
  refine H.icmpF s11_21 (show (0 : Int32) = (0 : Int32) by decide) ?_
  refine H.aloadN s11_24 rfl rfl ?_
  refine H.iconst s11_25 (v := (2 : Int32)) (by decide) ?_
  refine H.iaload s11_26 (i := 16) (j := 2) rfl (by decide) (v := oz) rfl ?_
  refine H.aloadN s11_27 rfl rfl ?_
  refine H.iconst s11_28 (v := (2 : Int32)) (by decide) ?_
  refine H.iaload s11_29 (i := 6) (j := 2) rfl (by decide) (v := oz) rfl ?_
  refine H.icmpF s11_30 (show (0 : Int32) = (0 : Int32) by decide) ?_
  refine H.aloadN s11_33 rfl rfl ?_
  refine H.iconst s11_34 (v := (3 : Int32)) (by decide) ?_
  refine H.iaload s11_35 (i := 16) (j := 3) rfl (by decide) (v := oz) rfl ?_
  refine H.aloadN s11_36 rfl rfl ?_
  refine H.iconst s11_37 (v := (3 : Int32)) (by decide) ?_
  refine H.iaload s11_38 (i := 6) (j := 3) rfl (by decide) (v := oz) rfl ?_
  refine H.icmpF s11_39 (show (0 : Int32) = (0 : Int32) by decide) ?_
  refine H.iconst s11_42 (v := (1 : Int32)) (by decide) ?_
  refine H.goto s11_43 ?_
  exact H.ireturn s11_47 rfl (by simp) rfl ⟨rfl, rfl⟩ (by decide) (by decide)


set_option maxRecDepth 65536 in
set_option maxHeartbeats 40000000 in
theorem a_75 (l : Launch) {Z : State} {a0 : Array Value} (hw : HW1 Z a0) (n0 : Nat) (p0 : Int32) (p1 : Int32) (p2 : Int32) (p3 : Int64) (p4 : Int64) : Met l Z KT n0 y12 method_5_code 2 (some .boolean) ({ frames := 0, cells := 0, slots := 0, locals := 0 } : Room) #[(rf n0 17), (rf n0 7)] [.inr (.int, []), .inr (.int, [(.int p0), (.int p1)]), .inr (.int, [(.int p1), (.int p2)]), .inr (.long, [(.long p3), (.long p4)]), .inr (.long, [(.long p4), (.long p3)]), .inr (.int, [(.int p2), oz, oz, oz]), .inr (.int, [(.int p0), oz, oz, oz]), .inr (.long, [(.long (p3 ^^^ (-1 : Int64))), ol, ol, ol]), .inr (.long, [(.long (p4 ^^^ (-1 : Int64))), ol, ol, ol]), .inl (0, [(rf n0 10), (rf n0 11), (rf n0 12), (rf n0 13), (.int (2 : Int32))]), .inr (.int, [(.int p0), (.int p1)]), .inr (.int, [(.int p1), (.int p2)]), .inr (.long, [(.long p3), (.long p4)]), .inr (.long, [(.long p4), (.long p3)]), .inl (0, [(rf n0 15), (rf n0 16), (rf n0 17), (rf n0 18), (.int (1 : Int32))]), .inr (.int, [(.int p2), oz, oz, oz]), .inr (.int, [(.int p0), oz, oz, oz]), .inr (.long, [(.long (p3 ^^^ (-1 : Int64))), ol, ol, ol]), .inr (.long, [(.long (p4 ^^^ (-1 : Int64))), ol, ol, ol])] (Is (some (.int (1 : Int32))) [.inr (.int, []), .inr (.int, [(.int p0), (.int p1)]), .inr (.int, [(.int p1), (.int p2)]), .inr (.long, [(.long p3), (.long p4)]), .inr (.long, [(.long p4), (.long p3)]), .inr (.int, [(.int p2), oz, oz, oz]), .inr (.int, [(.int p0), oz, oz, oz]), .inr (.long, [(.long (p3 ^^^ (-1 : Int64))), ol, ol, ol]), .inr (.long, [(.long (p4 ^^^ (-1 : Int64))), ol, ol, ol]), .inl (0, [(rf n0 10), (rf n0 11), (rf n0 12), (rf n0 13), (.int (2 : Int32))]), .inr (.int, [(.int p0), (.int p1)]), .inr (.int, [(.int p1), (.int p2)]), .inr (.long, [(.long p3), (.long p4)]), .inr (.long, [(.long p4), (.long p3)]), .inl (0, [(rf n0 15), (rf n0 16), (rf n0 17), (rf n0 18), (.int (1 : Int32))]), .inr (.int, [(.int p2), oz, oz, oz]), .inr (.int, [(.int p0), oz, oz, oz]), .inr (.long, [(.long (p3 ^^^ (-1 : Int64))), ol, ol, ol]), .inr (.long, [(.long (p4 ^^^ (-1 : Int64))), ol, ol, ol])]) := by
  refine Met.of (a0 := a0) (ls := #[.val (rf n0 17), .val (rf n0 7)]) (kok hw) (plainFor_of_name pn_24) (fun m => by first | (simp [entryFrame, mkF, argsToLocals, Value.category]; done) | rfl) (fun G H => ?_)
  refine H.aloadN s12_0 rfl rfl ?_
  refine H.arraylength s12_1 (i := 17) rfl (z := (4 : Int32)) rfl ?_
  refine H.iconst s12_2 (v := (4 : Int32)) (by decide) ?_
  refine H.icmpF s12_3 (show (4 : Int32) = (4 : Int32) by decide) ?_
  refine H.aloadN s12_6 rfl rfl ?_
  refine H.iconst s12_7 (v := (0 : Int32)) (by decide) ?_
  refine H.laload s12_8 (i := 17) (j := 0) rfl (by decide) (v := (.long (p3 ^^^ (-1 : Int64)))) rfl ?_
  refine H.aloadN s12_9 rfl rfl ?_
  refine H.iconst s12_10 (v := (0 : Int32)) (by decide) ?_
  refine H.laload s12_11 (i := 7) (j := 0) rfl (by decide) (v := (.long (p3 ^^^ (-1 : Int64)))) rfl ?_
  refine H.lifF s12_12 s12_13 rfl ?_
  refine H.aloadN s12_16 rfl rfl ?_
  refine H.iconst s12_17 (v := (1 : Int32)) (by decide) ?_
  refine H.laload s12_18 (i := 17) (j := 1) rfl (by decide) (v := ol) rfl ?_
  refine H.aloadN s12_19 rfl rfl ?_
  refine H.iconst s12_20 (v := (1 : Int32)) (by decide) ?_
  refine H.laload s12_21 (i := 7) (j := 1) rfl (by decide) (v := ol) rfl ?_
  refine H.lifF s12_22 s12_23 (show (0 : Int64) = (0 : Int64) by decide) ?_
  refine H.aloadN s12_26 rfl rfl ?_
  refine H.iconst s12_27 (v := (2 : Int32)) (by decide) ?_
  refine H.laload s12_28 (i := 17) (j := 2) rfl (by decide) (v := ol) rfl ?_
  refine H.aloadN s12_29 rfl rfl ?_
  refine H.iconst s12_30 (v := (2 : Int32)) (by decide) ?_
  refine H.laload s12_31 (i := 7) (j := 2) rfl (by decide) (v := ol) rfl ?_
  refine H.lifF s12_32 s12_33 (show (0 : Int64) = (0 : Int64) by decide) ?_
  refine H.aloadN s12_36 rfl rfl ?_
  refine H.iconst s12_37 (v := (3 : Int32)) (by decide) ?_
  refine H.laload s12_38 (i := 17) (j := 3) rfl (by decide) (v := ol) rfl ?_
  refine H.aloadN s12_39 rfl rfl ?_
  refine H.iconst s12_40 (v := (3 : Int32)) (by decide) ?_
  refine H.laload s12_41 (i := 7) (j := 3) rfl (by decide) (v := ol) rfl ?_
  refine H.lifF s12_42 s12_43 (show (0 : Int64) = (0 : Int64) by decide) ?_
  refine H.iconst s12_46 (v := (1 : Int32)) (by decide) ?_
  refine H.goto s12_47 ?_
  exact H.ireturn s12_51 rfl (by simp) rfl ⟨rfl, rfl⟩ (by decide) (by decide)


set_option maxRecDepth 65536 in
set_option maxHeartbeats 40000000 in
theorem a_76 (l : Launch) {Z : State} {a0 : Array Value} (hw : HW1 Z a0) (n0 : Nat) (p0 : Int32) (p1 : Int32) (p2 : Int32) (p3 : Int64) (p4 : Int64) : Met l Z KT n0 y12 method_5_code 2 (some .boolean) ({ frames := 0, cells := 0, slots := 0, locals := 0 } : Room) #[(rf n0 18), (rf n0 8)] [.inr (.int, []), .inr (.int, [(.int p0), (.int p1)]), .inr (.int, [(.int p1), (.int p2)]), .inr (.long, [(.long p3), (.long p4)]), .inr (.long, [(.long p4), (.long p3)]), .inr (.int, [(.int p2), oz, oz, oz]), .inr (.int, [(.int p0), oz, oz, oz]), .inr (.long, [(.long (p3 ^^^ (-1 : Int64))), ol, ol, ol]), .inr (.long, [(.long (p4 ^^^ (-1 : Int64))), ol, ol, ol]), .inl (0, [(rf n0 10), (rf n0 11), (rf n0 12), (rf n0 13), (.int (2 : Int32))]), .inr (.int, [(.int p0), (.int p1)]), .inr (.int, [(.int p1), (.int p2)]), .inr (.long, [(.long p3), (.long p4)]), .inr (.long, [(.long p4), (.long p3)]), .inl (0, [(rf n0 15), (rf n0 16), (rf n0 17), (rf n0 18), (.int (1 : Int32))]), .inr (.int, [(.int p2), oz, oz, oz]), .inr (.int, [(.int p0), oz, oz, oz]), .inr (.long, [(.long (p3 ^^^ (-1 : Int64))), ol, ol, ol]), .inr (.long, [(.long (p4 ^^^ (-1 : Int64))), ol, ol, ol])] (Is (some (.int (1 : Int32))) [.inr (.int, []), .inr (.int, [(.int p0), (.int p1)]), .inr (.int, [(.int p1), (.int p2)]), .inr (.long, [(.long p3), (.long p4)]), .inr (.long, [(.long p4), (.long p3)]), .inr (.int, [(.int p2), oz, oz, oz]), .inr (.int, [(.int p0), oz, oz, oz]), .inr (.long, [(.long (p3 ^^^ (-1 : Int64))), ol, ol, ol]), .inr (.long, [(.long (p4 ^^^ (-1 : Int64))), ol, ol, ol]), .inl (0, [(rf n0 10), (rf n0 11), (rf n0 12), (rf n0 13), (.int (2 : Int32))]), .inr (.int, [(.int p0), (.int p1)]), .inr (.int, [(.int p1), (.int p2)]), .inr (.long, [(.long p3), (.long p4)]), .inr (.long, [(.long p4), (.long p3)]), .inl (0, [(rf n0 15), (rf n0 16), (rf n0 17), (rf n0 18), (.int (1 : Int32))]), .inr (.int, [(.int p2), oz, oz, oz]), .inr (.int, [(.int p0), oz, oz, oz]), .inr (.long, [(.long (p3 ^^^ (-1 : Int64))), ol, ol, ol]), .inr (.long, [(.long (p4 ^^^ (-1 : Int64))), ol, ol, ol])]) := by
  refine Met.of (a0 := a0) (ls := #[.val (rf n0 18), .val (rf n0 8)]) (kok hw) (plainFor_of_name pn_24) (fun m => by first | (simp [entryFrame, mkF, argsToLocals, Value.category]; done) | rfl) (fun G H => ?_)
  refine H.aloadN s12_0 rfl rfl ?_
  refine H.arraylength s12_1 (i := 18) rfl (z := (4 : Int32)) rfl ?_
  refine H.iconst s12_2 (v := (4 : Int32)) (by decide) ?_
  refine H.icmpF s12_3 (show (4 : Int32) = (4 : Int32) by decide) ?_
  refine H.aloadN s12_6 rfl rfl ?_
  refine H.iconst s12_7 (v := (0 : Int32)) (by decide) ?_
  refine H.laload s12_8 (i := 18) (j := 0) rfl (by decide) (v := (.long (p4 ^^^ (-1 : Int64)))) rfl ?_
  refine H.aloadN s12_9 rfl rfl ?_
  refine H.iconst s12_10 (v := (0 : Int32)) (by decide) ?_
  refine H.laload s12_11 (i := 8) (j := 0) rfl (by decide) (v := (.long (p4 ^^^ (-1 : Int64)))) rfl ?_
  refine H.lifF s12_12 s12_13 rfl ?_
  refine H.aloadN s12_16 rfl rfl ?_
  refine H.iconst s12_17 (v := (1 : Int32)) (by decide) ?_
  refine H.laload s12_18 (i := 18) (j := 1) rfl (by decide) (v := ol) rfl ?_
  refine H.aloadN s12_19 rfl rfl ?_
  refine H.iconst s12_20 (v := (1 : Int32)) (by decide) ?_
  refine H.laload s12_21 (i := 8) (j := 1) rfl (by decide) (v := ol) rfl ?_
  refine H.lifF s12_22 s12_23 (show (0 : Int64) = (0 : Int64) by decide) ?_
  refine H.aloadN s12_26 rfl rfl ?_
  refine H.iconst s12_27 (v := (2 : Int32)) (by decide) ?_
  refine H.laload s12_28 (i := 18) (j := 2) rfl (by decide) (v := ol) rfl ?_
  refine H.aloadN s12_29 rfl rfl ?_
  refine H.iconst s12_30 (v := (2 : Int32)) (by decide) ?_
  refine H.laload s12_31 (i := 8) (j := 2) rfl (by decide) (v := ol) rfl ?_
  refine H.lifF s12_32 s12_33 (show (0 : Int64) = (0 : Int64) by decide) ?_
  refine H.aloadN s12_36 rfl rfl ?_
  refine H.iconst s12_37 (v := (3 : Int32)) (by decide) ?_
  refine H.laload s12_38 (i := 18) (j := 3) rfl (by decide) (v := ol) rfl ?_
  refine H.aloadN s12_39 rfl rfl ?_
  refine H.iconst s12_40 (v := (3 : Int32)) (by decide) ?_
  refine H.laload s12_41 (i := 8) (j := 3) rfl (by decide) (v := ol) rfl ?_
  refine H.lifF s12_42 s12_43 (show (0 : Int64) = (0 : Int64) by decide) ?_
  refine H.iconst s12_46 (v := (1 : Int32)) (by decide) ?_
  refine H.goto s12_47 ?_
  exact H.ireturn s12_51 rfl (by simp) rfl ⟨rfl, rfl⟩ (by decide) (by decide)


set_option maxRecDepth 65536 in
set_option maxHeartbeats 40000000 in
theorem a_77 (l : Launch) {Z : State} {a0 : Array Value} (hw : HW1 Z a0) (n0 : Nat) (p0 : Int32) (p1 : Int32) (p2 : Int32) (p3 : Int64) (p4 : Int64) (i0 : Int32) {I0 : Nat} (hI0 : i0.toInt = (I0 : Int)) (lI0 : I0 < 2) : Met l Z KT n0 y1 method_3_code 10 none ({ frames := 0, cells := 0, slots := 0, locals := 0 } : Room) #[(rf n0 5), (rf n0 6), (rf n0 7), (rf n0 8), (.int (1 : Int32)), (.int i0), (rf n0 1), (rf n0 2), (rf n0 3), (rf n0 4)] [.inr (.int, [(.int i0)]), .inr (.int, [(.int p0), (.int p1)]), .inr (.int, [(.int p1), (.int p2)]), .inr (.long, [(.long p3), (.long p4)]), .inr (.long, [(.long p4), (.long p3)]), .inr (.int, [(.int p2), oz, oz, oz]), .inr (.int, [(.int p0), oz, oz, oz]), .inr (.long, [(.long (p3 ^^^ (-1 : Int64))), ol, ol, ol]), .inr (.long, [(.long (p4 ^^^ (-1 : Int64))), ol, ol, ol])] (Is none [.inr (.int, [(.int i0)]), .inr (.int, [(.int p0), (.int p1)]), .inr (.int, [(.int p1), (.int p2)]), .inr (.long, [(.long p3), (.long p4)]), .inr (.long, [(.long p4), (.long p3)]), .inr (.int, [(.int p2), (.int (own_selI I0 p0 p1)), oz, oz]), .inr (.int, [(.int p0), (.int (own_selI I0 p1 p2)), oz, oz]), .inr (.long, [(.long (p3 ^^^ (-1 : Int64))), (.long (own_selJ I0 p3 p4)), ol, ol]), .inr (.long, [(.long (p4 ^^^ (-1 : Int64))), (.long (own_selJ I0 p4 p3)), ol, ol])]) := by
  refine Met.of (a0 := a0) (ls := #[.val (rf n0 5), .val (rf n0 6), .val (rf n0 7), .val (rf n0 8), .val (.int (1 : Int32)), .val (.int i0), .val (rf n0 1), .val (rf n0 2), .val (rf n0 3), .val (rf n0 4)]) (kok hw) (plainFor_of_name pn_24) (fun m => by first | (simp [entryFrame, mkF, argsToLocals, Value.category]; done) | rfl) (fun G H => ?_)
  refine H.aloadN s1_0 rfl rfl ?_
  refine H.iload s1_1 rfl ?_
  refine H.aload s1_3 rfl rfl ?_
  refine H.iload s1_5 rfl ?_
  refine H.iaload s1_7 (i := 1) (j := I0) rfl hI0 (v := (.int (own_selI I0 p0 p1))) (own_gI lI0) ?_
  refine H.iastore s1_8 (i := 5) (j := 1) rfl (by decide) (ltb rfl)  rfl ?_
  refine H.aloadN s1_9 rfl rfl ?_
  refine H.iload s1_10 rfl ?_
  refine H.aload s1_12 rfl rfl ?_
  refine H.iload s1_14 rfl ?_
  refine H.iaload s1_16 (i := 2) (j := I0) rfl hI0 (v := (.int (own_selI I0 p1 p2))) (own_gI lI0) ?_
  refine H.iastore s1_17 (i := 6) (j := 1) rfl (by decide) (ltb rfl)  rfl ?_
  refine H.aloadN s1_18 rfl rfl ?_
  refine H.iload s1_19 rfl ?_
  refine H.aload s1_21 rfl rfl ?_
  refine H.iload s1_23 rfl ?_
  refine H.laload s1_25 (i := 3) (j := I0) rfl hI0 (v := (.long (own_selJ I0 p3 p4))) (own_gJ lI0) ?_
  refine H.lastore s1_26 (i := 7) (j := 1) rfl (by decide) (ltb rfl)  rfl ?_
  refine H.aloadN s1_27 rfl rfl ?_
  refine H.iload s1_28 rfl ?_
  refine H.aload s1_30 rfl rfl ?_
  refine H.iload s1_32 rfl ?_
  refine H.laload s1_34 (i := 4) (j := I0) rfl hI0 (v := (.long (own_selJ I0 p4 p3))) (own_gJ lI0) ?_
  refine H.lastore s1_35 (i := 8) (j := 1) rfl (by decide) (ltb rfl)  rfl ?_
  exact H.vreturn s1_36 rfl ⟨rfl, rfl⟩ (by decide) (by decide)


set_option maxRecDepth 65536 in
set_option maxHeartbeats 40000000 in
theorem a_78 (l : Launch) {Z : State} {a0 : Array Value} (hw : HW1 Z a0) (n0 : Nat) (p0 : Int32) (p1 : Int32) (p2 : Int32) (p3 : Int64) (p4 : Int64) (i0 : Int32) (I0 : Nat) : Met l Z KT n0 y2 prog_15_method_1_code 2 none ({ frames := 1, cells := 4, slots := 8, locals := 12 } : Room) #[(rf n0 9), (.int (2 : Int32))] [.inr (.int, [(.int i0)]), .inr (.int, [(.int p0), (.int p1)]), .inr (.int, [(.int p1), (.int p2)]), .inr (.long, [(.long p3), (.long p4)]), .inr (.long, [(.long p4), (.long p3)]), .inr (.int, [(.int p2), (.int (own_selI I0 p0 p1)), oz, oz]), .inr (.int, [(.int p0), (.int (own_selI I0 p1 p2)), oz, oz]), .inr (.long, [(.long (p3 ^^^ (-1 : Int64))), (.long (own_selJ I0 p3 p4)), ol, ol]), .inr (.long, [(.long (p4 ^^^ (-1 : Int64))), (.long (own_selJ I0 p4 p3)), ol, ol]), .inl (0, [.null, .null, .null, .null, oz])] (Is none [.inr (.int, [(.int i0)]), .inr (.int, [(.int p0), (.int p1)]), .inr (.int, [(.int p1), (.int p2)]), .inr (.long, [(.long p3), (.long p4)]), .inr (.long, [(.long p4), (.long p3)]), .inr (.int, [(.int p2), (.int (own_selI I0 p0 p1)), oz, oz]), .inr (.int, [(.int p0), (.int (own_selI I0 p1 p2)), oz, oz]), .inr (.long, [(.long (p3 ^^^ (-1 : Int64))), (.long (own_selJ I0 p3 p4)), ol, ol]), .inr (.long, [(.long (p4 ^^^ (-1 : Int64))), (.long (own_selJ I0 p4 p3)), ol, ol]), .inl (0, [(rf n0 10), (rf n0 11), (rf n0 12), (rf n0 13), oz]), .inr (.int, [oz, oz]), .inr (.int, [oz, oz]), .inr (.long, [ol, ol]), .inr (.long, [ol, ol])]) := by
  refine Met.of (a0 := a0) (ls := #[.val (rf n0 9), .val (.int (2 : Int32))]) (kok hw) (plainFor_of_name pn_8) (fun m => by first | (simp [entryFrame, mkF, argsToLocals, Value.category]; done) | rfl) (fun G H => ?_)
  refine H.aloadN s2_0 rfl rfl ?_
  refine H.initO s2_1 (k_3 hw) rfl (leb rfl) (leb rfl) ?_
  refine H.aloadN s2_4 rfl rfl ?_
  refine H.iloadN s2_5 rfl ?_
  refine H.newarray s2_6 (ty := .int) rfl (k_0 hw) (N := 2) (cap := 2) (by decide) rfl (by decide) (by decide) (by first | rfl | simp) (by decide) (by decide) (i := 10) rfl (A' := [.inr (.int, [(.int i0)]), .inr (.int, [(.int p0), (.int p1)]), .inr (.int, [(.int p1), (.int p2)]), .inr (.long, [(.long p3), (.long p4)]), .inr (.long, [(.long p4), (.long p3)]), .inr (.int, [(.int p2), (.int (own_selI I0 p0 p1)), oz, oz]), .inr (.int, [(.int p0), (.int (own_selI I0 p1 p2)), oz, oz]), .inr (.long, [(.long (p3 ^^^ (-1 : Int64))), (.long (own_selJ I0 p3 p4)), ol, ol]), .inr (.long, [(.long (p4 ^^^ (-1 : Int64))), (.long (own_selJ I0 p4 p3)), ol, ol]), .inl (0, [.null, .null, .null, .null, oz]), .inr (.int, [oz, oz])]) rfl (k' := 1) rfl (n' := 2) rfl ?_
  refine H.putfield s2_8 (k_4 hw) (i := 9) rfl rfl rfl rfl ?_
  refine H.aloadN s2_11 rfl rfl ?_
  refine H.iloadN s2_12 rfl ?_
  refine H.newarray s2_13 (ty := .int) rfl (k_0 hw) (N := 2) (cap := 2) (by decide) rfl (by decide) (by decide) (by first | rfl | simp) (by decide) (by decide) (i := 11) rfl (A' := [.inr (.int, [(.int i0)]), .inr (.int, [(.int p0), (.int p1)]), .inr (.int, [(.int p1), (.int p2)]), .inr (.long, [(.long p3), (.long p4)]), .inr (.long, [(.long p4), (.long p3)]), .inr (.int, [(.int p2), (.int (own_selI I0 p0 p1)), oz, oz]), .inr (.int, [(.int p0), (.int (own_selI I0 p1 p2)), oz, oz]), .inr (.long, [(.long (p3 ^^^ (-1 : Int64))), (.long (own_selJ I0 p3 p4)), ol, ol]), .inr (.long, [(.long (p4 ^^^ (-1 : Int64))), (.long (own_selJ I0 p4 p3)), ol, ol]), .inl (0, [(rf n0 10), .null, .null, .null, oz]), .inr (.int, [oz, oz]), .inr (.int, [oz, oz])]) rfl (k' := 2) rfl (n' := 4) rfl ?_
  refine H.putfield s2_15 (k_5 hw) (i := 9) rfl rfl rfl rfl ?_
  refine H.aloadN s2_18 rfl rfl ?_
  refine H.iloadN s2_19 rfl ?_
  refine H.newarray s2_20 (ty := .long) rfl (k_1 hw) (N := 2) (cap := 2) (by decide) rfl (by decide) (by decide) (by first | rfl | simp) (by decide) (by decide) (i := 12) rfl (A' := [.inr (.int, [(.int i0)]), .inr (.int, [(.int p0), (.int p1)]), .inr (.int, [(.int p1), (.int p2)]), .inr (.long, [(.long p3), (.long p4)]), .inr (.long, [(.long p4), (.long p3)]), .inr (.int, [(.int p2), (.int (own_selI I0 p0 p1)), oz, oz]), .inr (.int, [(.int p0), (.int (own_selI I0 p1 p2)), oz, oz]), .inr (.long, [(.long (p3 ^^^ (-1 : Int64))), (.long (own_selJ I0 p3 p4)), ol, ol]), .inr (.long, [(.long (p4 ^^^ (-1 : Int64))), (.long (own_selJ I0 p4 p3)), ol, ol]), .inl (0, [(rf n0 10), (rf n0 11), .null, .null, oz]), .inr (.int, [oz, oz]), .inr (.int, [oz, oz]), .inr (.long, [ol, ol])]) rfl (k' := 3) rfl (n' := 6) rfl ?_
  refine H.putfield s2_22 (k_6 hw) (i := 9) rfl rfl rfl rfl ?_
  refine H.aloadN s2_25 rfl rfl ?_
  refine H.iloadN s2_26 rfl ?_
  refine H.newarray s2_27 (ty := .long) rfl (k_1 hw) (N := 2) (cap := 2) (by decide) rfl (by decide) (by decide) (by first | rfl | simp) (by decide) (by decide) (i := 13) rfl (A' := [.inr (.int, [(.int i0)]), .inr (.int, [(.int p0), (.int p1)]), .inr (.int, [(.int p1), (.int p2)]), .inr (.long, [(.long p3), (.long p4)]), .inr (.long, [(.long p4), (.long p3)]), .inr (.int, [(.int p2), (.int (own_selI I0 p0 p1)), oz, oz]), .inr (.int, [(.int p0), (.int (own_selI I0 p1 p2)), oz, oz]), .inr (.long, [(.long (p3 ^^^ (-1 : Int64))), (.long (own_selJ I0 p3 p4)), ol, ol]), .inr (.long, [(.long (p4 ^^^ (-1 : Int64))), (.long (own_selJ I0 p4 p3)), ol, ol]), .inl (0, [(rf n0 10), (rf n0 11), (rf n0 12), .null, oz]), .inr (.int, [oz, oz]), .inr (.int, [oz, oz]), .inr (.long, [ol, ol]), .inr (.long, [ol, ol])]) rfl (k' := 4) rfl (n' := 8) rfl ?_
  refine H.putfield s2_29 (k_7 hw) (i := 9) rfl rfl rfl rfl ?_
  exact H.vreturn s2_32 rfl ⟨rfl, rfl⟩ (by decide) (by decide)


set_option maxRecDepth 65536 in
set_option maxHeartbeats 40000000 in
theorem a_79 (l : Launch) {Z : State} {a0 : Array Value} (hw : HW1 Z a0) (n0 : Nat) (p0 : Int32) (p1 : Int32) (p2 : Int32) (p3 : Int64) (p4 : Int64) (i0 : Int32) (I0 : Nat) : Met l Z KT n0 y4 prog_15_method_2_code 7 none ({ frames := 0, cells := 0, slots := 0, locals := 0 } : Room) #[(rf n0 9), (.int p0), (.int p1), (.long p3), (.long p4)] [.inr (.int, [(.int i0)]), .inr (.int, [(.int p0), (.int p1)]), .inr (.int, [(.int p1), (.int p2)]), .inr (.long, [(.long p3), (.long p4)]), .inr (.long, [(.long p4), (.long p3)]), .inr (.int, [(.int p2), (.int (own_selI I0 p0 p1)), oz, oz]), .inr (.int, [(.int p0), (.int (own_selI I0 p1 p2)), oz, oz]), .inr (.long, [(.long (p3 ^^^ (-1 : Int64))), (.long (own_selJ I0 p3 p4)), ol, ol]), .inr (.long, [(.long (p4 ^^^ (-1 : Int64))), (.long (own_selJ I0 p4 p3)), ol, ol]), .inl (0, [(rf n0 10), (rf n0 11), (rf n0 12), (rf n0 13), oz]), .inr (.int, [oz, oz]), .inr (.int, [oz, oz]), .inr (.long, [ol, ol]), .inr (.long, [ol, ol])] (Is none [.inr (.int, [(.int i0)]), .inr (.int, [(.int p0), (.int p1)]), .inr (.int, [(.int p1), (.int p2)]), .inr (.long, [(.long p3), (.long p4)]), .inr (.long, [(.long p4), (.long p3)]), .inr (.int, [(.int p2), (.int (own_selI I0 p0 p1)), oz, oz]), .inr (.int, [(.int p0), (.int (own_selI I0 p1 p2)), oz, oz]), .inr (.long, [(.long (p3 ^^^ (-1 : Int64))), (.long (own_selJ I0 p3 p4)), ol, ol]), .inr (.long, [(.long (p4 ^^^ (-1 : Int64))), (.long (own_selJ I0 p4 p3)), ol, ol]), .inl (0, [(rf n0 10), (rf n0 11), (rf n0 12), (rf n0 13), (.int (1 : Int32))]), .inr (.int, [(.int p0), oz]), .inr (.int, [(.int p1), oz]), .inr (.long, [(.long p3), ol]), .inr (.long, [(.long p4), ol])]) := by
  refine Met.of (a0 := a0) (ls := #[.val (rf n0 9), .val (.int p0), .val (.int p1), .val (.long p3), .second, .val (.long p4), .second]) (kok hw) (plainFor_of_name pn_8) (fun m => by first | (simp [entryFrame, mkF, argsToLocals, Value.category]; done) | rfl) (fun G H => ?_)
  refine H.aloadN s4_0 rfl rfl ?_
  refine H.getfield s4_1 (k_10 hw) (i := 9) rfl rfl ?_
  refine H.aloadN s4_4 rfl rfl ?_
  refine H.getfield s4_5 (k_11 hw) (i := 9) rfl rfl ?_
  refine H.iloadN s4_8 rfl ?_
  refine H.iastore s4_9 (i := 10) (j := 0) rfl (by decide) (ltb rfl)  rfl ?_
  refine H.aloadN s4_10 rfl rfl ?_
  refine H.getfield s4_11 (k_12 hw) (i := 9) rfl rfl ?_
  refine H.aloadN s4_14 rfl rfl ?_
  refine H.getfield s4_15 (k_11 hw) (i := 9) rfl rfl ?_
  refine H.iloadN s4_18 rfl ?_
  refine H.iastore s4_19 (i := 11) (j := 0) rfl (by decide) (ltb rfl)  rfl ?_
  refine H.aloadN s4_20 rfl rfl ?_
  refine H.getfield s4_21 (k_13 hw) (i := 9) rfl rfl ?_
  refine H.aloadN s4_24 rfl rfl ?_
  refine H.getfield s4_25 (k_11 hw) (i := 9) rfl rfl ?_
  refine H.lloadN s4_28 rfl ?_
  refine H.lastore s4_29 (i := 12) (j := 0) rfl (by decide) (ltb rfl)  rfl ?_
  refine H.aloadN s4_30 rfl rfl ?_
  refine H.getfield s4_31 (k_14 hw) (i := 9) rfl rfl ?_
  refine H.aloadN s4_34 rfl rfl ?_
  refine H.getfield s4_35 (k_11 hw) (i := 9) rfl rfl ?_
  refine H.lload s4_38 rfl ?_
  refine H.lastore s4_40 (i := 13) (j := 0) rfl (by decide) (ltb rfl)  rfl ?_
  refine H.aloadN s4_41 rfl rfl ?_
  refine H.dup s4_42 rfl ?_
  refine H.getfield s4_43 (k_11 hw) (i := 9) rfl rfl ?_
  refine H.iconst s4_46 (v := (1 : Int32)) (by decide) ?_
  refine H.iadd s4_47 (w := (1 : Int32)) (by decide) ?_
  refine H.putfield s4_48 (k_15 hw) (i := 9) rfl rfl rfl rfl ?_
  exact H.vreturn s4_51 rfl ⟨rfl, rfl⟩ (by decide) (by decide)


set_option maxRecDepth 65536 in
set_option maxHeartbeats 40000000 in
theorem a_80 (l : Launch) {Z : State} {a0 : Array Value} (hw : HW1 Z a0) (n0 : Nat) (p0 : Int32) (p1 : Int32) (p2 : Int32) (p3 : Int64) (p4 : Int64) (i0 : Int32) (I0 : Nat) : Met l Z KT n0 y4 prog_15_method_2_code 7 none ({ frames := 0, cells := 0, slots := 0, locals := 0 } : Room) #[(rf n0 9), (.int p1), (.int p2), (.long p4), (.long p3)] [.inr (.int, [(.int i0)]), .inr (.int, [(.int p0), (.int p1)]), .inr (.int, [(.int p1), (.int p2)]), .inr (.long, [(.long p3), (.long p4)]), .inr (.long, [(.long p4), (.long p3)]), .inr (.int, [(.int p2), (.int (own_selI I0 p0 p1)), oz, oz]), .inr (.int, [(.int p0), (.int (own_selI I0 p1 p2)), oz, oz]), .inr (.long, [(.long (p3 ^^^ (-1 : Int64))), (.long (own_selJ I0 p3 p4)), ol, ol]), .inr (.long, [(.long (p4 ^^^ (-1 : Int64))), (.long (own_selJ I0 p4 p3)), ol, ol]), .inl (0, [(rf n0 10), (rf n0 11), (rf n0 12), (rf n0 13), (.int (1 : Int32))]), .inr (.int, [(.int p0), oz]), .inr (.int, [(.int p1), oz]), .inr (.long, [(.long p3), ol]), .inr (.long, [(.long p4), ol])] (Is none [.inr (.int, [(.int i0)]), .inr (.int, [(.int p0), (.int p1)]), .inr (.int, [(.int p1), (.int p2)]), .inr (.long, [(.long p3), (.long p4)]), .inr (.long, [(.long p4), (.long p3)]), .inr (.int, [(.int p2), (.int (own_selI I0 p0 p1)), oz, oz]), .inr (.int, [(.int p0), (.int (own_selI I0 p1 p2)), oz, oz]), .inr (.long, [(.long (p3 ^^^ (-1 : Int64))), (.long (own_selJ I0 p3 p4)), ol, ol]), .inr (.long, [(.long (p4 ^^^ (-1 : Int64))), (.long (own_selJ I0 p4 p3)), ol, ol]), .inl (0, [(rf n0 10), (rf n0 11), (rf n0 12), (rf n0 13), (.int (2 : Int32))]), .inr (.int, [(.int p0), (.int p1)]), .inr (.int, [(.int p1), (.int p2)]), .inr (.long, [(.long p3), (.long p4)]), .inr (.long, [(.long p4), (.long p3)])]) := by
  refine Met.of (a0 := a0) (ls := #[.val (rf n0 9), .val (.int p1), .val (.int p2), .val (.long p4), .second, .val (.long p3), .second]) (kok hw) (plainFor_of_name pn_8) (fun m => by first | (simp [entryFrame, mkF, argsToLocals, Value.category]; done) | rfl) (fun G H => ?_)
  refine H.aloadN s4_0 rfl rfl ?_
  refine H.getfield s4_1 (k_10 hw) (i := 9) rfl rfl ?_
  refine H.aloadN s4_4 rfl rfl ?_
  refine H.getfield s4_5 (k_11 hw) (i := 9) rfl rfl ?_
  refine H.iloadN s4_8 rfl ?_
  refine H.iastore s4_9 (i := 10) (j := 1) rfl (by decide) (ltb rfl)  rfl ?_
  refine H.aloadN s4_10 rfl rfl ?_
  refine H.getfield s4_11 (k_12 hw) (i := 9) rfl rfl ?_
  refine H.aloadN s4_14 rfl rfl ?_
  refine H.getfield s4_15 (k_11 hw) (i := 9) rfl rfl ?_
  refine H.iloadN s4_18 rfl ?_
  refine H.iastore s4_19 (i := 11) (j := 1) rfl (by decide) (ltb rfl)  rfl ?_
  refine H.aloadN s4_20 rfl rfl ?_
  refine H.getfield s4_21 (k_13 hw) (i := 9) rfl rfl ?_
  refine H.aloadN s4_24 rfl rfl ?_
  refine H.getfield s4_25 (k_11 hw) (i := 9) rfl rfl ?_
  refine H.lloadN s4_28 rfl ?_
  refine H.lastore s4_29 (i := 12) (j := 1) rfl (by decide) (ltb rfl)  rfl ?_
  refine H.aloadN s4_30 rfl rfl ?_
  refine H.getfield s4_31 (k_14 hw) (i := 9) rfl rfl ?_
  refine H.aloadN s4_34 rfl rfl ?_
  refine H.getfield s4_35 (k_11 hw) (i := 9) rfl rfl ?_
  refine H.lload s4_38 rfl ?_
  refine H.lastore s4_40 (i := 13) (j := 1) rfl (by decide) (ltb rfl)  rfl ?_
  refine H.aloadN s4_41 rfl rfl ?_
  refine H.dup s4_42 rfl ?_
  refine H.getfield s4_43 (k_11 hw) (i := 9) rfl rfl ?_
  refine H.iconst s4_46 (v := (1 : Int32)) (by decide) ?_
  refine H.iadd s4_47 (w := (2 : Int32)) (by decide) ?_
  refine H.putfield s4_48 (k_15 hw) (i := 9) rfl rfl rfl rfl ?_
  exact H.vreturn s4_51 rfl ⟨rfl, rfl⟩ (by decide) (by decide)


set_option maxRecDepth 65536 in
set_option maxHeartbeats 40000000 in
theorem a_81 (l : Launch) {Z : State} {a0 : Array Value} (hw : HW1 Z a0) (n0 : Nat) (p0 : Int32) (p1 : Int32) (p2 : Int32) (p3 : Int64) (p4 : Int64) (i0 : Int32) (I0 : Nat) : Met l Z KT n0 y2 prog_15_method_1_code 2 none ({ frames := 1, cells := 4, slots := 16, locals := 12 } : Room) #[(rf n0 14), (.int (4 : Int32))] [.inr (.int, [(.int i0)]), .inr (.int, [(.int p0), (.int p1)]), .inr (.int, [(.int p1), (.int p2)]), .inr (.long, [(.long p3), (.long p4)]), .inr (.long, [(.long p4), (.long p3)]), .inr (.int, [(.int p2), (.int (own_selI I0 p0 p1)), oz, oz]), .inr (.int, [(.int p0), (.int (own_selI I0 p1 p2)), oz, oz]), .inr (.long, [(.long (p3 ^^^ (-1 : Int64))), (.long (own_selJ I0 p3 p4)), ol, ol]), .inr (.long, [(.long (p4 ^^^ (-1 : Int64))), (.long (own_selJ I0 p4 p3)), ol, ol]), .inl (0, [(rf n0 10), (rf n0 11), (rf n0 12), (rf n0 13), (.int (2 : Int32))]), .inr (.int, [(.int p0), (.int p1)]), .inr (.int, [(.int p1), (.int p2)]), .inr (.long, [(.long p3), (.long p4)]), .inr (.long, [(.long p4), (.long p3)]), .inl (0, [.null, .null, .null, .null, oz])] (Is none [.inr (.int, [(.int i0)]), .inr (.int, [(.int p0), (.int p1)]), .inr (.int, [(.int p1), (.int p2)]), .inr (.long, [(.long p3), (.long p4)]), .inr (.long, [(.long p4), (.long p3)]), .inr (.int, [(.int p2), (.int (own_selI I0 p0 p1)), oz, oz]), .inr (.int, [(.int p0), (.int (own_selI I0 p1 p2)), oz, oz]), .inr (.long, [(.long (p3 ^^^ (-1 : Int64))), (.long (own_selJ I0 p3 p4)), ol, ol]), .inr (.long, [(.long (p4 ^^^ (-1 : Int64))), (.long (own_selJ I0 p4 p3)), ol, ol]), .inl (0, [(rf n0 10), (rf n0 11), (rf n0 12), (rf n0 13), (.int (2 : Int32))]), .inr (.int, [(.int p0), (.int p1)]), .inr (.int, [(.int p1), (.int p2)]), .inr (.long, [(.long p3), (.long p4)]), .inr (.long, [(.long p4), (.long p3)]), .inl (0, [(rf n0 15), (rf n0 16), (rf n0 17), (rf n0 18), oz]), .inr (.int, [oz, oz, oz, oz]), .inr (.int, [oz, oz, oz, oz]), .inr (.long, [ol, ol, ol, ol]), .inr (.long, [ol, ol, ol, ol])]) := by
  refine Met.of (a0 := a0) (ls := #[.val (rf n0 14), .val (.int (4 : Int32))]) (kok hw) (plainFor_of_name pn_8) (fun m => by first | (simp [entryFrame, mkF, argsToLocals, Value.category]; done) | rfl) (fun G H => ?_)
  refine H.aloadN s2_0 rfl rfl ?_
  refine H.initO s2_1 (k_3 hw) rfl (leb rfl) (leb rfl) ?_
  refine H.aloadN s2_4 rfl rfl ?_
  refine H.iloadN s2_5 rfl ?_
  refine H.newarray s2_6 (ty := .int) rfl (k_0 hw) (N := 4) (cap := 4) (by decide) rfl (by decide) (by decide) (by first | rfl | simp) (by decide) (by decide) (i := 15) rfl (A' := [.inr (.int, [(.int i0)]), .inr (.int, [(.int p0), (.int p1)]), .inr (.int, [(.int p1), (.int p2)]), .inr (.long, [(.long p3), (.long p4)]), .inr (.long, [(.long p4), (.long p3)]), .inr (.int, [(.int p2), (.int (own_selI I0 p0 p1)), oz, oz]), .inr (.int, [(.int p0), (.int (own_selI I0 p1 p2)), oz, oz]), .inr (.long, [(.long (p3 ^^^ (-1 : Int64))), (.long (own_selJ I0 p3 p4)), ol, ol]), .inr (.long, [(.long (p4 ^^^ (-1 : Int64))), (.long (own_selJ I0 p4 p3)), ol, ol]), .inl (0, [(rf n0 10), (rf n0 11), (rf n0 12), (rf n0 13), (.int (2 : Int32))]), .inr (.int, [(.int p0), (.int p1)]), .inr (.int, [(.int p1), (.int p2)]), .inr (.long, [(.long p3), (.long p4)]), .inr (.long, [(.long p4), (.long p3)]), .inl (0, [.null, .null, .null, .null, oz]), .inr (.int, [oz, oz, oz, oz])]) rfl (k' := 1) rfl (n' := 4) rfl ?_
  refine H.putfield s2_8 (k_4 hw) (i := 14) rfl rfl rfl rfl ?_
  refine H.aloadN s2_11 rfl rfl ?_
  refine H.iloadN s2_12 rfl ?_
  refine H.newarray s2_13 (ty := .int) rfl (k_0 hw) (N := 4) (cap := 4) (by decide) rfl (by decide) (by decide) (by first | rfl | simp) (by decide) (by decide) (i := 16) rfl (A' := [.inr (.int, [(.int i0)]), .inr (.int, [(.int p0), (.int p1)]), .inr (.int, [(.int p1), (.int p2)]), .inr (.long, [(.long p3), (.long p4)]), .inr (.long, [(.long p4), (.long p3)]), .inr (.int, [(.int p2), (.int (own_selI I0 p0 p1)), oz, oz]), .inr (.int, [(.int p0), (.int (own_selI I0 p1 p2)), oz, oz]), .inr (.long, [(.long (p3 ^^^ (-1 : Int64))), (.long (own_selJ I0 p3 p4)), ol, ol]), .inr (.long, [(.long (p4 ^^^ (-1 : Int64))), (.long (own_selJ I0 p4 p3)), ol, ol]), .inl (0, [(rf n0 10), (rf n0 11), (rf n0 12), (rf n0 13), (.int (2 : Int32))]), .inr (.int, [(.int p0), (.int p1)]), .inr (.int, [(.int p1), (.int p2)]), .inr (.long, [(.long p3), (.long p4)]), .inr (.long, [(.long p4), (.long p3)]), .inl (0, [(rf n0 15), .null, .null, .null, oz]), .inr (.int, [oz, oz, oz, oz]), .inr (.int, [oz, oz, oz, oz])]) rfl (k' := 2) rfl (n' := 8) rfl ?_
  refine H.putfield s2_15 (k_5 hw) (i := 14) rfl rfl rfl rfl ?_
  refine H.aloadN s2_18 rfl rfl ?_
  refine H.iloadN s2_19 rfl ?_
  refine H.newarray s2_20 (ty := .long) rfl (k_1 hw) (N := 4) (cap := 4) (by decide) rfl (by decide) (by decide) (by first | rfl | simp) (by decide) (by decide) (i := 17) rfl (A' := [.inr (.int, [(.int i0)]), .inr (.int, [(.int p0), (.int p1)]), .inr (.int, [(.int p1), (.int p2)]), .inr (.long, [(.long p3), (.long p4)]), .inr (.long, [(.long p4), (.long p3)]), .inr (.int, [(.int p2), (.int (own_selI I0 p0 p1)), oz, oz]), .inr (.int, [(.int p0), (.int (own_selI I0 p1 p2)), oz, oz]), .inr (.long, [(.long (p3 ^^^ (-1 : Int64))), (.long (own_selJ I0 p3 p4)), ol, ol]), .inr (.long, [(.long (p4 ^^^ (-1 : Int64))), (.long (own_selJ I0 p4 p3)), ol, ol]), .inl (0, [(rf n0 10), (rf n0 11), (rf n0 12), (rf n0 13), (.int (2 : Int32))]), .inr (.int, [(.int p0), (.int p1)]), .inr (.int, [(.int p1), (.int p2)]), .inr (.long, [(.long p3), (.long p4)]), .inr (.long, [(.long p4), (.long p3)]), .inl (0, [(rf n0 15), (rf n0 16), .null, .null, oz]), .inr (.int, [oz, oz, oz, oz]), .inr (.int, [oz, oz, oz, oz]), .inr (.long, [ol, ol, ol, ol])]) rfl (k' := 3) rfl (n' := 12) rfl ?_
  refine H.putfield s2_22 (k_6 hw) (i := 14) rfl rfl rfl rfl ?_
  refine H.aloadN s2_25 rfl rfl ?_
  refine H.iloadN s2_26 rfl ?_
  refine H.newarray s2_27 (ty := .long) rfl (k_1 hw) (N := 4) (cap := 4) (by decide) rfl (by decide) (by decide) (by first | rfl | simp) (by decide) (by decide) (i := 18) rfl (A' := [.inr (.int, [(.int i0)]), .inr (.int, [(.int p0), (.int p1)]), .inr (.int, [(.int p1), (.int p2)]), .inr (.long, [(.long p3), (.long p4)]), .inr (.long, [(.long p4), (.long p3)]), .inr (.int, [(.int p2), (.int (own_selI I0 p0 p1)), oz, oz]), .inr (.int, [(.int p0), (.int (own_selI I0 p1 p2)), oz, oz]), .inr (.long, [(.long (p3 ^^^ (-1 : Int64))), (.long (own_selJ I0 p3 p4)), ol, ol]), .inr (.long, [(.long (p4 ^^^ (-1 : Int64))), (.long (own_selJ I0 p4 p3)), ol, ol]), .inl (0, [(rf n0 10), (rf n0 11), (rf n0 12), (rf n0 13), (.int (2 : Int32))]), .inr (.int, [(.int p0), (.int p1)]), .inr (.int, [(.int p1), (.int p2)]), .inr (.long, [(.long p3), (.long p4)]), .inr (.long, [(.long p4), (.long p3)]), .inl (0, [(rf n0 15), (rf n0 16), (rf n0 17), .null, oz]), .inr (.int, [oz, oz, oz, oz]), .inr (.int, [oz, oz, oz, oz]), .inr (.long, [ol, ol, ol, ol]), .inr (.long, [ol, ol, ol, ol])]) rfl (k' := 4) rfl (n' := 16) rfl ?_
  refine H.putfield s2_29 (k_7 hw) (i := 14) rfl rfl rfl rfl ?_
  exact H.vreturn s2_32 rfl ⟨rfl, rfl⟩ (by decide) (by decide)


set_option maxRecDepth 65536 in
set_option maxHeartbeats 40000000 in
theorem a_82 (l : Launch) {Z : State} {a0 : Array Value} (hw : HW1 Z a0) (n0 : Nat) (p0 : Int32) (p1 : Int32) (p2 : Int32) (p3 : Int64) (p4 : Int64) (i0 : Int32) (I0 : Nat) : Met l Z KT n0 y4 prog_15_method_2_code 7 none ({ frames := 0, cells := 0, slots := 0, locals := 0 } : Room) #[(rf n0 14), (.int p2), (.int p0), (.long (p3 ^^^ (-1 : Int64))), (.long (p4 ^^^ (-1 : Int64)))] [.inr (.int, [(.int i0)]), .inr (.int, [(.int p0), (.int p1)]), .inr (.int, [(.int p1), (.int p2)]), .inr (.long, [(.long p3), (.long p4)]), .inr (.long, [(.long p4), (.long p3)]), .inr (.int, [(.int p2), (.int (own_selI I0 p0 p1)), oz, oz]), .inr (.int, [(.int p0), (.int (own_selI I0 p1 p2)), oz, oz]), .inr (.long, [(.long (p3 ^^^ (-1 : Int64))), (.long (own_selJ I0 p3 p4)), ol, ol]), .inr (.long, [(.long (p4 ^^^ (-1 : Int64))), (.long (own_selJ I0 p4 p3)), ol, ol]), .inl (0, [(rf n0 10), (rf n0 11), (rf n0 12), (rf n0 13), (.int (2 : Int32))]), .inr (.int, [(.int p0), (.int p1)]), .inr (.int, [(.int p1), (.int p2)]), .inr (.long, [(.long p3), (.long p4)]), .inr (.long, [(.long p4), (.long p3)]), .inl (0, [(rf n0 15), (rf n0 16), (rf n0 17), (rf n0 18), oz]), .inr (.int, [oz, oz, oz, oz]), .inr (.int, [oz, oz, oz, oz]), .inr (.long, [ol, ol, ol, ol]), .inr (.long, [ol, ol, ol, ol])] (Is none [.inr (.int, [(.int i0)]), .inr (.int, [(.int p0), (.int p1)]), .inr (.int, [(.int p1), (.int p2)]), .inr (.long, [(.long p3), (.long p4)]), .inr (.long, [(.long p4), (.long p3)]), .inr (.int, [(.int p2), (.int (own_selI I0 p0 p1)), oz, oz]), .inr (.int, [(.int p0), (.int (own_selI I0 p1 p2)), oz, oz]), .inr (.long, [(.long (p3 ^^^ (-1 : Int64))), (.long (own_selJ I0 p3 p4)), ol, ol]), .inr (.long, [(.long (p4 ^^^ (-1 : Int64))), (.long (own_selJ I0 p4 p3)), ol, ol]), .inl (0, [(rf n0 10), (rf n0 11), (rf n0 12), (rf n0 13), (.int (2 : Int32))]), .inr (.int, [(.int p0), (.int p1)]), .inr (.int, [(.int p1), (.int p2)]), .inr (.long, [(.long p3), (.long p4)]), .inr (.long, [(.long p4), (.long p3)]), .inl (0, [(rf n0 15), (rf n0 16), (rf n0 17), (rf n0 18), (.int (1 : Int32))]), .inr (.int, [(.int p2), oz, oz, oz]), .inr (.int, [(.int p0), oz, oz, oz]), .inr (.long, [(.long (p3 ^^^ (-1 : Int64))), ol, ol, ol]), .inr (.long, [(.long (p4 ^^^ (-1 : Int64))), ol, ol, ol])]) := by
  refine Met.of (a0 := a0) (ls := #[.val (rf n0 14), .val (.int p2), .val (.int p0), .val (.long (p3 ^^^ (-1 : Int64))), .second, .val (.long (p4 ^^^ (-1 : Int64))), .second]) (kok hw) (plainFor_of_name pn_8) (fun m => by first | (simp [entryFrame, mkF, argsToLocals, Value.category]; done) | rfl) (fun G H => ?_)
  refine H.aloadN s4_0 rfl rfl ?_
  refine H.getfield s4_1 (k_10 hw) (i := 14) rfl rfl ?_
  refine H.aloadN s4_4 rfl rfl ?_
  refine H.getfield s4_5 (k_11 hw) (i := 14) rfl rfl ?_
  refine H.iloadN s4_8 rfl ?_
  refine H.iastore s4_9 (i := 15) (j := 0) rfl (by decide) (ltb rfl)  rfl ?_
  refine H.aloadN s4_10 rfl rfl ?_
  refine H.getfield s4_11 (k_12 hw) (i := 14) rfl rfl ?_
  refine H.aloadN s4_14 rfl rfl ?_
  refine H.getfield s4_15 (k_11 hw) (i := 14) rfl rfl ?_
  refine H.iloadN s4_18 rfl ?_
  refine H.iastore s4_19 (i := 16) (j := 0) rfl (by decide) (ltb rfl)  rfl ?_
  refine H.aloadN s4_20 rfl rfl ?_
  refine H.getfield s4_21 (k_13 hw) (i := 14) rfl rfl ?_
  refine H.aloadN s4_24 rfl rfl ?_
  refine H.getfield s4_25 (k_11 hw) (i := 14) rfl rfl ?_
  refine H.lloadN s4_28 rfl ?_
  refine H.lastore s4_29 (i := 17) (j := 0) rfl (by decide) (ltb rfl)  rfl ?_
  refine H.aloadN s4_30 rfl rfl ?_
  refine H.getfield s4_31 (k_14 hw) (i := 14) rfl rfl ?_
  refine H.aloadN s4_34 rfl rfl ?_
  refine H.getfield s4_35 (k_11 hw) (i := 14) rfl rfl ?_
  refine H.lload s4_38 rfl ?_
  refine H.lastore s4_40 (i := 18) (j := 0) rfl (by decide) (ltb rfl)  rfl ?_
  refine H.aloadN s4_41 rfl rfl ?_
  refine H.dup s4_42 rfl ?_
  refine H.getfield s4_43 (k_11 hw) (i := 14) rfl rfl ?_
  refine H.iconst s4_46 (v := (1 : Int32)) (by decide) ?_
  refine H.iadd s4_47 (w := (1 : Int32)) (by decide) ?_
  refine H.putfield s4_48 (k_15 hw) (i := 14) rfl rfl rfl rfl ?_
  exact H.vreturn s4_51 rfl ⟨rfl, rfl⟩ (by decide) (by decide)


set_option maxRecDepth 65536 in
set_option maxHeartbeats 40000000 in
theorem a_83 (l : Launch) {Z : State} {a0 : Array Value} (hw : HW1 Z a0) (n0 : Nat) (p0 : Int32) (p1 : Int32) (p2 : Int32) (p3 : Int64) (p4 : Int64) (i0 : Int32) (I0 : Nat) (hI0 : i0.toInt = (I0 : Int)) (lI0 : I0 < 2) : Met l Z KT n0 y5 prog_15_method_4_code 5 none ({ frames := 0, cells := 0, slots := 0, locals := 0 } : Room) #[(rf n0 14), (rf n0 9), (rf n0 0)] [.inr (.int, [(.int i0)]), .inr (.int, [(.int p0), (.int p1)]), .inr (.int, [(.int p1), (.int p2)]), .inr (.long, [(.long p3), (.long p4)]), .inr (.long, [(.long p4), (.long p3)]), .inr (.int, [(.int p2), (.int (own_selI I0 p0 p1)), oz, oz]), .inr (.int, [(.int p0), (.int (own_selI I0 p1 p2)), oz, oz]), .inr (.long, [(.long (p3 ^^^ (-1 : Int64))), (.long (own_selJ I0 p3 p4)), ol, ol]), .inr (.long, [(.long (p4 ^^^ (-1 : Int64))), (.long (own_selJ I0 p4 p3)), ol, ol]), .inl (0, [(rf n0 10), (rf n0 11), (rf n0 12), (rf n0 13), (.int (2 : Int32))]), .inr (.int, [(.int p0), (.int p1)]), .inr (.int, [(.int p1), (.int p2)]), .inr (.long, [(.long p3), (.long p4)]), .inr (.long, [(.long p4), (.long p3)]), .inl (0, [(rf n0 15), (rf n0 16), (rf n0 17), (rf n0 18), (.int (1 : Int32))]), .inr (.int, [(.int p2), oz, oz, oz]), .inr (.int, [(.int p0), oz, oz, oz]), .inr (.long, [(.long (p3 ^^^ (-1 : Int64))), ol, ol, ol]), .inr (.long, [(.long (p4 ^^^ (-1 : Int64))), ol, ol, ol])] (Is none [.inr (.int, [(.int i0)]), .inr (.int, [(.int p0), (.int p1)]), .inr (.int, [(.int p1), (.int p2)]), .inr (.long, [(.long p3), (.long p4)]), .inr (.long, [(.long p4), (.long p3)]), .inr (.int, [(.int p2), (.int (own_selI I0 p0 p1)), oz, oz]), .inr (.int, [(.int p0), (.int (own_selI I0 p1 p2)), oz, oz]), .inr (.long, [(.long (p3 ^^^ (-1 : Int64))), (.long (own_selJ I0 p3 p4)), ol, ol]), .inr (.long, [(.long (p4 ^^^ (-1 : Int64))), (.long (own_selJ I0 p4 p3)), ol, ol]), .inl (0, [(rf n0 10), (rf n0 11), (rf n0 12), (rf n0 13), (.int (2 : Int32))]), .inr (.int, [(.int p0), (.int p1)]), .inr (.int, [(.int p1), (.int p2)]), .inr (.long, [(.long p3), (.long p4)]), .inr (.long, [(.long p4), (.long p3)]), .inl (0, [(rf n0 15), (rf n0 16), (rf n0 17), (rf n0 18), (.int (2 : Int32))]), .inr (.int, [(.int p2), (.int (own_selI I0 p0 p1)), oz, oz]), .inr (.int, [(.int p0), (.int (own_selI I0 p1 p2)), oz, oz]), .inr (.long, [(.long (p3 ^^^ (-1 : Int64))), (.long (own_selJ I0 p3 p4)), ol, ol]), .inr (.long, [(.long (p4 ^^^ (-1 : Int64))), (.long (own_selJ I0 p4 p3)), ol, ol])]) := by
  refine Met.of (a0 := a0) (ls := #[.val (rf n0 14), .val (rf n0 9), .val (rf n0 0), .unset, .unset]) (kok hw) (plainFor_of_name pn_8) (fun m => by first | (simp [entryFrame, mkF, argsToLocals, Value.category]; done) | rfl) (fun G H => ?_)
  refine H.iconst s5_0 (v := (0 : Int32)) (by decide) ?_
  refine H.istoreN s5_1 (ls' := #[.val (rf n0 14), .val (rf n0 9), .val (rf n0 0), .val oz, .unset]) rfl ?_
  refine H.iloadN s5_2 rfl ?_
  refine H.aloadN s5_3 rfl rfl ?_
  refine H.arraylength s5_4 (i := 0) rfl (z := (1 : Int32)) rfl ?_
  refine H.icmpF s5_5 (show (0 : Int32) < (1 : Int32) by decide) ?_
  refine H.aloadN s5_8 rfl rfl ?_
  refine H.iloadN s5_9 rfl ?_
  refine H.iaload s5_10 (i := 0) (j := 0) rfl (by decide) (v := (.int i0)) rfl ?_
  refine H.istore s5_11 (ls' := #[.val (rf n0 14), .val (rf n0 9), .val (rf n0 0), .val oz, .val (.int i0)]) rfl ?_
  refine H.aloadN s5_13 rfl rfl ?_
  refine H.getfield s5_14 (k_10 hw) (i := 14) rfl rfl ?_
  refine H.aloadN s5_17 rfl rfl ?_
  refine H.getfield s5_18 (k_11 hw) (i := 14) rfl rfl ?_
  refine H.iloadN s5_21 rfl ?_
  refine H.iadd s5_22 (w := (1 : Int32)) (by decide) ?_
  refine H.aloadN s5_23 rfl rfl ?_
  refine H.getfield s5_24 (k_10 hw) (i := 9) rfl rfl ?_
  refine H.iload s5_27 rfl ?_
  refine H.iaload s5_29 (i := 10) (j := I0) rfl hI0 (v := (.int (own_selI I0 p0 p1))) (own_gI lI0) ?_
  refine H.iastore s5_30 (i := 15) (j := 1) rfl (by decide) (ltb rfl)  rfl ?_
  refine H.aloadN s5_31 rfl rfl ?_
  refine H.getfield s5_32 (k_12 hw) (i := 14) rfl rfl ?_
  refine H.aloadN s5_35 rfl rfl ?_
  refine H.getfield s5_36 (k_11 hw) (i := 14) rfl rfl ?_
  refine H.iloadN s5_39 rfl ?_
  refine H.iadd s5_40 (w := (1 : Int32)) (by decide) ?_
  refine H.aloadN s5_41 rfl rfl ?_
  refine H.getfield s5_42 (k_12 hw) (i := 9) rfl rfl ?_
  refine H.iload s5_45 rfl ?_
  refine H.iaload s5_47 (i := 11) (j := I0) rfl hI0 (v := (.int (own_selI I0 p1 p2))) (own_gI lI0) ?_
  refine H.iastore s5_48 (i := 16) (j := 1) rfl (by decide) (ltb rfl)  rfl ?_
  refine H.aloadN s5_49 rfl rfl ?_
  refine H.getfield s5_50 (k_13 hw) (i := 14) rfl rfl ?_
  refine H.aloadN s5_53 rfl rfl ?_
  refine H.getfield s5_54 (k_11 hw) (i := 14) rfl rfl ?_
  refine H.iloadN s5_57 rfl ?_
  refine H.iadd s5_58 (w := (1 : Int32)) (by decide) ?_
  refine H.aloadN s5_59 rfl rfl ?_
  refine H.getfield s5_60 (k_13 hw) (i := 9) rfl rfl ?_
  refine H.iload s5_63 rfl ?_
  refine H.laload s5_65 (i := 12) (j := I0) rfl hI0 (v := (.long (own_selJ I0 p3 p4))) (own_gJ lI0) ?_
  refine H.lastore s5_66 (i := 17) (j := 1) rfl (by decide) (ltb rfl)  rfl ?_
  refine H.aloadN s5_67 rfl rfl ?_
  refine H.getfield s5_68 (k_14 hw) (i := 14) rfl rfl ?_
  refine H.aloadN s5_71 rfl rfl ?_
  refine H.getfield s5_72 (k_11 hw) (i := 14) rfl rfl ?_
  refine H.iloadN s5_75 rfl ?_
  refine H.iadd s5_76 (w := (1 : Int32)) (by decide) ?_
  refine H.aloadN s5_77 rfl rfl ?_
  refine H.getfield s5_78 (k_14 hw) (i := 9) rfl rfl ?_
  refine H.iload s5_81 rfl ?_
  refine H.laload s5_83 (i := 13) (j := I0) rfl hI0 (v := (.long (own_selJ I0 p4 p3))) (own_gJ lI0) ?_
  refine H.lastore s5_84 (i := 18) (j := 1) rfl (by decide) (ltb rfl)  rfl ?_
  refine H.iinc s5_85 rfl (w := (1 : Int32)) (by decide) (ls' := #[.val (rf n0 14), .val (rf n0 9), .val (rf n0 0), .val (.int (1 : Int32)), .val (.int i0)]) rfl ?_
  refine H.goto s5_88 ?_
  refine H.iloadN s5_2 rfl ?_
  refine H.aloadN s5_3 rfl rfl ?_
  refine H.arraylength s5_4 (i := 0) rfl (z := (1 : Int32)) rfl ?_
  refine H.icmpT s5_5 (show ¬ (1 : Int32) < (1 : Int32) by decide) ?_
  refine H.aloadN s5_91 rfl rfl ?_
  refine H.dup s5_92 rfl ?_
  refine H.getfield s5_93 (k_11 hw) (i := 14) rfl rfl ?_
  refine H.aloadN s5_96 rfl rfl ?_
  refine H.arraylength s5_97 (i := 0) rfl (z := (1 : Int32)) rfl ?_
  refine H.iadd s5_98 (w := (2 : Int32)) (by decide) ?_
  refine H.putfield s5_99 (k_17 hw) (i := 14) rfl rfl rfl rfl ?_
  exact H.vreturn s5_102 rfl ⟨rfl, rfl⟩ (by decide) (by decide)


set_option maxRecDepth 65536 in
set_option maxHeartbeats 40000000 in
theorem a_84 (l : Launch) {Z : State} {a0 : Array Value} (hw : HW1 Z a0) (n0 : Nat) (p0 : Int32) (p1 : Int32) (p2 : Int32) (p3 : Int64) (p4 : Int64) (i0 : Int32) (I0 : Nat) : Met l Z KT n0 y6 prog_15_method_5_code 1 (some .int) ({ frames := 0, cells := 0, slots := 0, locals := 0 } : Room) #[(rf n0 14)] [.inr (.int, [(.int i0)]), .inr (.int, [(.int p0), (.int p1)]), .inr (.int, [(.int p1), (.int p2)]), .inr (.long, [(.long p3), (.long p4)]), .inr (.long, [(.long p4), (.long p3)]), .inr (.int, [(.int p2), (.int (own_selI I0 p0 p1)), oz, oz]), .inr (.int, [(.int p0), (.int (own_selI I0 p1 p2)), oz, oz]), .inr (.long, [(.long (p3 ^^^ (-1 : Int64))), (.long (own_selJ I0 p3 p4)), ol, ol]), .inr (.long, [(.long (p4 ^^^ (-1 : Int64))), (.long (own_selJ I0 p4 p3)), ol, ol]), .inl (0, [(rf n0 10), (rf n0 11), (rf n0 12), (rf n0 13), (.int (2 : Int32))]), .inr (.int, [(.int p0), (.int p1)]), .inr (.int, [(.int p1), (.int p2)]), .inr (.long, [(.long p3), (.long p4)]), .inr (.long, [(.long p4), (.long p3)]), .inl (0, [(rf n0 15), (rf n0 16), (rf n0 17), (rf n0 18), (.int (2 : Int32))]), .inr (.int, [(.int p2), (.int (own_selI I0 p0 p1)), oz, oz]), .inr (.int, [(.int p0), (.int (own_selI I0 p1 p2)), oz, oz]), .inr (.long, [(.long (p3 ^^^ (-1 : Int64))), (.long (own_selJ I0 p3 p4)), ol, ol]), .inr (.long, [(.long (p4 ^^^ (-1 : Int64))), (.long (own_selJ I0 p4 p3)), ol, ol])] (Is (some (.int (2 : Int32))) [.inr (.int, [(.int i0)]), .inr (.int, [(.int p0), (.int p1)]), .inr (.int, [(.int p1), (.int p2)]), .inr (.long, [(.long p3), (.long p4)]), .inr (.long, [(.long p4), (.long p3)]), .inr (.int, [(.int p2), (.int (own_selI I0 p0 p1)), oz, oz]), .inr (.int, [(.int p0), (.int (own_selI I0 p1 p2)), oz, oz]), .inr (.long, [(.long (p3 ^^^ (-1 : Int64))), (.long (own_selJ I0 p3 p4)), ol, ol]), .inr (.long, [(.long (p4 ^^^ (-1 : Int64))), (.long (own_selJ I0 p4 p3)), ol, ol]), .inl (0, [(rf n0 10), (rf n0 11), (rf n0 12), (rf n0 13), (.int (2 : Int32))]), .inr (.int, [(.int p0), (.int p1)]), .inr (.int, [(.int p1), (.int p2)]), .inr (.long, [(.long p3), (.long p4)]), .inr (.long, [(.long p4), (.long p3)]), .inl (0, [(rf n0 15), (rf n0 16), (rf n0 17), (rf n0 18), (.int (2 : Int32))]), .inr (.int, [(.int p2), (.int (own_selI I0 p0 p1)), oz, oz]), .inr (.int, [(.int p0), (.int (own_selI I0 p1 p2)), oz, oz]), .inr (.long, [(.long (p3 ^^^ (-1 : Int64))), (.long (own_selJ I0 p3 p4)), ol, ol]), .inr (.long, [(.long (p4 ^^^ (-1 : Int64))), (.long (own_selJ I0 p4 p3)), ol, ol])]) := by
  refine Met.of (a0 := a0) (ls := #[.val (rf n0 14)]) (kok hw) (plainFor_of_name pn_8) (fun m => by first | (simp [entryFrame, mkF, argsToLocals, Value.category]; done) | rfl) (fun G H => ?_)
  refine H.aloadN s6_0 rfl rfl ?_
  refine H.getfield s6_1 (k_11 hw) (i := 14) rfl rfl ?_
  exact H.ireturn s6_4 rfl (by simp) rfl ⟨rfl, rfl⟩ (by decide) (by decide)


set_option maxRecDepth 65536 in
set_option maxHeartbeats 40000000 in
theorem a_85 (l : Launch) {Z : State} {a0 : Array Value} (hw : HW1 Z a0) (n0 : Nat) (p0 : Int32) (p1 : Int32) (p2 : Int32) (p3 : Int64) (p4 : Int64) (i0 : Int32) (I0 : Nat) : Met l Z KT n0 y7 prog_15_method_6_code 1 (some (.array .int)) ({ frames := 0, cells := 0, slots := 0, locals := 0 } : Room) #[(rf n0 14)] [.inr (.int, [(.int i0)]), .inr (.int, [(.int p0), (.int p1)]), .inr (.int, [(.int p1), (.int p2)]), .inr (.long, [(.long p3), (.long p4)]), .inr (.long, [(.long p4), (.long p3)]), .inr (.int, [(.int p2), (.int (own_selI I0 p0 p1)), oz, oz]), .inr (.int, [(.int p0), (.int (own_selI I0 p1 p2)), oz, oz]), .inr (.long, [(.long (p3 ^^^ (-1 : Int64))), (.long (own_selJ I0 p3 p4)), ol, ol]), .inr (.long, [(.long (p4 ^^^ (-1 : Int64))), (.long (own_selJ I0 p4 p3)), ol, ol]), .inl (0, [(rf n0 10), (rf n0 11), (rf n0 12), (rf n0 13), (.int (2 : Int32))]), .inr (.int, [(.int p0), (.int p1)]), .inr (.int, [(.int p1), (.int p2)]), .inr (.long, [(.long p3), (.long p4)]), .inr (.long, [(.long p4), (.long p3)]), .inl (0, [(rf n0 15), (rf n0 16), (rf n0 17), (rf n0 18), (.int (2 : Int32))]), .inr (.int, [(.int p2), (.int (own_selI I0 p0 p1)), oz, oz]), .inr (.int, [(.int p0), (.int (own_selI I0 p1 p2)), oz, oz]), .inr (.long, [(.long (p3 ^^^ (-1 : Int64))), (.long (own_selJ I0 p3 p4)), ol, ol]), .inr (.long, [(.long (p4 ^^^ (-1 : Int64))), (.long (own_selJ I0 p4 p3)), ol, ol])] (Is (some (rf n0 15)) [.inr (.int, [(.int i0)]), .inr (.int, [(.int p0), (.int p1)]), .inr (.int, [(.int p1), (.int p2)]), .inr (.long, [(.long p3), (.long p4)]), .inr (.long, [(.long p4), (.long p3)]), .inr (.int, [(.int p2), (.int (own_selI I0 p0 p1)), oz, oz]), .inr (.int, [(.int p0), (.int (own_selI I0 p1 p2)), oz, oz]), .inr (.long, [(.long (p3 ^^^ (-1 : Int64))), (.long (own_selJ I0 p3 p4)), ol, ol]), .inr (.long, [(.long (p4 ^^^ (-1 : Int64))), (.long (own_selJ I0 p4 p3)), ol, ol]), .inl (0, [(rf n0 10), (rf n0 11), (rf n0 12), (rf n0 13), (.int (2 : Int32))]), .inr (.int, [(.int p0), (.int p1)]), .inr (.int, [(.int p1), (.int p2)]), .inr (.long, [(.long p3), (.long p4)]), .inr (.long, [(.long p4), (.long p3)]), .inl (0, [(rf n0 15), (rf n0 16), (rf n0 17), (rf n0 18), (.int (2 : Int32))]), .inr (.int, [(.int p2), (.int (own_selI I0 p0 p1)), oz, oz]), .inr (.int, [(.int p0), (.int (own_selI I0 p1 p2)), oz, oz]), .inr (.long, [(.long (p3 ^^^ (-1 : Int64))), (.long (own_selJ I0 p3 p4)), ol, ol]), .inr (.long, [(.long (p4 ^^^ (-1 : Int64))), (.long (own_selJ I0 p4 p3)), ol, ol])]) := by
  refine Met.of (a0 := a0) (ls := #[.val (rf n0 14)]) (kok hw) (plainFor_of_name pn_8) (fun m => by first | (simp [entryFrame, mkF, argsToLocals, Value.category]; done) | rfl) (fun G H => ?_)
  refine H.aloadN s7_0 rfl rfl ?_
  refine H.getfield s7_1 (k_10 hw) (i := 14) rfl rfl ?_
  exact H.areturn s7_4 rfl rfl rfl rfl ⟨rfl, rfl⟩ (by decide) (by decide)


set_option maxRecDepth 65536 in
set_option maxHeartbeats 40000000 in
theorem a_86 (l : Launch) {Z : State} {a0 : Array Value} (hw : HW1 Z a0) (n0 : Nat) (p0 : Int32) (p1 : Int32) (p2 : Int32) (p3 : Int64) (p4 : Int64) (i0 : Int32) (I0 : Nat) : Met l Z KT n0 y8 prog_15_method_7_code 1 (some (.array .int)) ({ frames := 0, cells := 0, slots := 0, locals := 0 } : Room) #[(rf n0 14)] [.inr (.int, [(.int i0)]), .inr (.int, [(.int p0), (.int p1)]), .inr (.int, [(.int p1), (.int p2)]), .inr (.long, [(.long p3), (.long p4)]), .inr (.long, [(.long p4), (.long p3)]), .inr (.int, [(.int p2), (.int (own_selI I0 p0 p1)), oz, oz]), .inr (.int, [(.int p0), (.int (own_selI I0 p1 p2)), oz, oz]), .inr (.long, [(.long (p3 ^^^ (-1 : Int64))), (.long (own_selJ I0 p3 p4)), ol, ol]), .inr (.long, [(.long (p4 ^^^ (-1 : Int64))), (.long (own_selJ I0 p4 p3)), ol, ol]), .inl (0, [(rf n0 10), (rf n0 11), (rf n0 12), (rf n0 13), (.int (2 : Int32))]), .inr (.int, [(.int p0), (.int p1)]), .inr (.int, [(.int p1), (.int p2)]), .inr (.long, [(.long p3), (.long p4)]), .inr (.long, [(.long p4), (.long p3)]), .inl (0, [(rf n0 15), (rf n0 16), (rf n0 17), (rf n0 18), (.int (2 : Int32))]), .inr (.int, [(.int p2), (.int (own_selI I0 p0 p1)), oz, oz]), .inr (.int, [(.int p0), (.int (own_selI I0 p1 p2)), oz, oz]), .inr (.long, [(.long (p3 ^^^ (-1 : Int64))), (.long (own_selJ I0 p3 p4)), ol, ol]), .inr (.long, [(.long (p4 ^^^ (-1 : Int64))), (.long (own_selJ I0 p4 p3)), ol, ol])] (Is (some (rf n0 16)) [.inr (.int, [(.int i0)]), .inr (.int, [(.int p0), (.int p1)]), .inr (.int, [(.int p1), (.int p2)]), .inr (.long, [(.long p3), (.long p4)]), .inr (.long, [(.long p4), (.long p3)]), .inr (.int, [(.int p2), (.int (own_selI I0 p0 p1)), oz, oz]), .inr (.int, [(.int p0), (.int (own_selI I0 p1 p2)), oz, oz]), .inr (.long, [(.long (p3 ^^^ (-1 : Int64))), (.long (own_selJ I0 p3 p4)), ol, ol]), .inr (.long, [(.long (p4 ^^^ (-1 : Int64))), (.long (own_selJ I0 p4 p3)), ol, ol]), .inl (0, [(rf n0 10), (rf n0 11), (rf n0 12), (rf n0 13), (.int (2 : Int32))]), .inr (.int, [(.int p0), (.int p1)]), .inr (.int, [(.int p1), (.int p2)]), .inr (.long, [(.long p3), (.long p4)]), .inr (.long, [(.long p4), (.long p3)]), .inl (0, [(rf n0 15), (rf n0 16), (rf n0 17), (rf n0 18), (.int (2 : Int32))]), .inr (.int, [(.int p2), (.int (own_selI I0 p0 p1)), oz, oz]), .inr (.int, [(.int p0), (.int (own_selI I0 p1 p2)), oz, oz]), .inr (.long, [(.long (p3 ^^^ (-1 : Int64))), (.long (own_selJ I0 p3 p4)), ol, ol]), .inr (.long, [(.long (p4 ^^^ (-1 : Int64))), (.long (own_selJ I0 p4 p3)), ol, ol])]) := by
  refine Met.of (a0 := a0) (ls := #[.val (rf n0 14)]) (kok hw) (plainFor_of_name pn_8) (fun m => by first | (simp [entryFrame, mkF, argsToLocals, Value.category]; done) | rfl) (fun G H => ?_)
  refine H.aloadN s8_0 rfl rfl ?_
  refine H.getfield s8_1 (k_12 hw) (i := 14) rfl rfl ?_
  exact H.areturn s8_4 rfl rfl rfl rfl ⟨rfl, rfl⟩ (by decide) (by decide)


set_option maxRecDepth 65536 in
set_option maxHeartbeats 40000000 in
theorem a_87 (l : Launch) {Z : State} {a0 : Array Value} (hw : HW1 Z a0) (n0 : Nat) (p0 : Int32) (p1 : Int32) (p2 : Int32) (p3 : Int64) (p4 : Int64) (i0 : Int32) (I0 : Nat) : Met l Z KT n0 y9 prog_15_method_8_code 1 (some (.array .long)) ({ frames := 0, cells := 0, slots := 0, locals := 0 } : Room) #[(rf n0 14)] [.inr (.int, [(.int i0)]), .inr (.int, [(.int p0), (.int p1)]), .inr (.int, [(.int p1), (.int p2)]), .inr (.long, [(.long p3), (.long p4)]), .inr (.long, [(.long p4), (.long p3)]), .inr (.int, [(.int p2), (.int (own_selI I0 p0 p1)), oz, oz]), .inr (.int, [(.int p0), (.int (own_selI I0 p1 p2)), oz, oz]), .inr (.long, [(.long (p3 ^^^ (-1 : Int64))), (.long (own_selJ I0 p3 p4)), ol, ol]), .inr (.long, [(.long (p4 ^^^ (-1 : Int64))), (.long (own_selJ I0 p4 p3)), ol, ol]), .inl (0, [(rf n0 10), (rf n0 11), (rf n0 12), (rf n0 13), (.int (2 : Int32))]), .inr (.int, [(.int p0), (.int p1)]), .inr (.int, [(.int p1), (.int p2)]), .inr (.long, [(.long p3), (.long p4)]), .inr (.long, [(.long p4), (.long p3)]), .inl (0, [(rf n0 15), (rf n0 16), (rf n0 17), (rf n0 18), (.int (2 : Int32))]), .inr (.int, [(.int p2), (.int (own_selI I0 p0 p1)), oz, oz]), .inr (.int, [(.int p0), (.int (own_selI I0 p1 p2)), oz, oz]), .inr (.long, [(.long (p3 ^^^ (-1 : Int64))), (.long (own_selJ I0 p3 p4)), ol, ol]), .inr (.long, [(.long (p4 ^^^ (-1 : Int64))), (.long (own_selJ I0 p4 p3)), ol, ol])] (Is (some (rf n0 17)) [.inr (.int, [(.int i0)]), .inr (.int, [(.int p0), (.int p1)]), .inr (.int, [(.int p1), (.int p2)]), .inr (.long, [(.long p3), (.long p4)]), .inr (.long, [(.long p4), (.long p3)]), .inr (.int, [(.int p2), (.int (own_selI I0 p0 p1)), oz, oz]), .inr (.int, [(.int p0), (.int (own_selI I0 p1 p2)), oz, oz]), .inr (.long, [(.long (p3 ^^^ (-1 : Int64))), (.long (own_selJ I0 p3 p4)), ol, ol]), .inr (.long, [(.long (p4 ^^^ (-1 : Int64))), (.long (own_selJ I0 p4 p3)), ol, ol]), .inl (0, [(rf n0 10), (rf n0 11), (rf n0 12), (rf n0 13), (.int (2 : Int32))]), .inr (.int, [(.int p0), (.int p1)]), .inr (.int, [(.int p1), (.int p2)]), .inr (.long, [(.long p3), (.long p4)]), .inr (.long, [(.long p4), (.long p3)]), .inl (0, [(rf n0 15), (rf n0 16), (rf n0 17), (rf n0 18), (.int (2 : Int32))]), .inr (.int, [(.int p2), (.int (own_selI I0 p0 p1)), oz, oz]), .inr (.int, [(.int p0), (.int (own_selI I0 p1 p2)), oz, oz]), .inr (.long, [(.long (p3 ^^^ (-1 : Int64))), (.long (own_selJ I0 p3 p4)), ol, ol]), .inr (.long, [(.long (p4 ^^^ (-1 : Int64))), (.long (own_selJ I0 p4 p3)), ol, ol])]) := by
  refine Met.of (a0 := a0) (ls := #[.val (rf n0 14)]) (kok hw) (plainFor_of_name pn_8) (fun m => by first | (simp [entryFrame, mkF, argsToLocals, Value.category]; done) | rfl) (fun G H => ?_)
  refine H.aloadN s9_0 rfl rfl ?_
  refine H.getfield s9_1 (k_13 hw) (i := 14) rfl rfl ?_
  exact H.areturn s9_4 rfl rfl rfl rfl ⟨rfl, rfl⟩ (by decide) (by decide)


set_option maxRecDepth 65536 in
set_option maxHeartbeats 40000000 in
theorem a_88 (l : Launch) {Z : State} {a0 : Array Value} (hw : HW1 Z a0) (n0 : Nat) (p0 : Int32) (p1 : Int32) (p2 : Int32) (p3 : Int64) (p4 : Int64) (i0 : Int32) (I0 : Nat) : Met l Z KT n0 y10 prog_15_method_9_code 1 (some (.array .long)) ({ frames := 0, cells := 0, slots := 0, locals := 0 } : Room) #[(rf n0 14)] [.inr (.int, [(.int i0)]), .inr (.int, [(.int p0), (.int p1)]), .inr (.int, [(.int p1), (.int p2)]), .inr (.long, [(.long p3), (.long p4)]), .inr (.long, [(.long p4), (.long p3)]), .inr (.int, [(.int p2), (.int (own_selI I0 p0 p1)), oz, oz]), .inr (.int, [(.int p0), (.int (own_selI I0 p1 p2)), oz, oz]), .inr (.long, [(.long (p3 ^^^ (-1 : Int64))), (.long (own_selJ I0 p3 p4)), ol, ol]), .inr (.long, [(.long (p4 ^^^ (-1 : Int64))), (.long (own_selJ I0 p4 p3)), ol, ol]), .inl (0, [(rf n0 10), (rf n0 11), (rf n0 12), (rf n0 13), (.int (2 : Int32))]), .inr (.int, [(.int p0), (.int p1)]), .inr (.int, [(.int p1), (.int p2)]), .inr (.long, [(.long p3), (.long p4)]), .inr (.long, [(.long p4), (.long p3)]), .inl (0, [(rf n0 15), (rf n0 16), (rf n0 17), (rf n0 18), (.int (2 : Int32))]), .inr (.int, [(.int p2), (.int (own_selI I0 p0 p1)), oz, oz]), .inr (.int, [(.int p0), (.int (own_selI I0 p1 p2)), oz, oz]), .inr (.long, [(.long (p3 ^^^ (-1 : Int64))), (.long (own_selJ I0 p3 p4)), ol, ol]), .inr (.long, [(.long (p4 ^^^ (-1 : Int64))), (.long (own_selJ I0 p4 p3)), ol, ol])] (Is (some (rf n0 18)) [.inr (.int, [(.int i0)]), .inr (.int, [(.int p0), (.int p1)]), .inr (.int, [(.int p1), (.int p2)]), .inr (.long, [(.long p3), (.long p4)]), .inr (.long, [(.long p4), (.long p3)]), .inr (.int, [(.int p2), (.int (own_selI I0 p0 p1)), oz, oz]), .inr (.int, [(.int p0), (.int (own_selI I0 p1 p2)), oz, oz]), .inr (.long, [(.long (p3 ^^^ (-1 : Int64))), (.long (own_selJ I0 p3 p4)), ol, ol]), .inr (.long, [(.long (p4 ^^^ (-1 : Int64))), (.long (own_selJ I0 p4 p3)), ol, ol]), .inl (0, [(rf n0 10), (rf n0 11), (rf n0 12), (rf n0 13), (.int (2 : Int32))]), .inr (.int, [(.int p0), (.int p1)]), .inr (.int, [(.int p1), (.int p2)]), .inr (.long, [(.long p3), (.long p4)]), .inr (.long, [(.long p4), (.long p3)]), .inl (0, [(rf n0 15), (rf n0 16), (rf n0 17), (rf n0 18), (.int (2 : Int32))]), .inr (.int, [(.int p2), (.int (own_selI I0 p0 p1)), oz, oz]), .inr (.int, [(.int p0), (.int (own_selI I0 p1 p2)), oz, oz]), .inr (.long, [(.long (p3 ^^^ (-1 : Int64))), (.long (own_selJ I0 p3 p4)), ol, ol]), .inr (.long, [(.long (p4 ^^^ (-1 : Int64))), (.long (own_selJ I0 p4 p3)), ol, ol])]) := by
  refine Met.of (a0 := a0) (ls := #[.val (rf n0 14)]) (kok hw) (plainFor_of_name pn_8) (fun m => by first | (simp [entryFrame, mkF, argsToLocals, Value.category]; done) | rfl) (fun G H => ?_)
  refine H.aloadN s10_0 rfl rfl ?_
  refine H.getfield s10_1 (k_14 hw) (i := 14) rfl rfl ?_
  exact H.areturn s10_4 rfl rfl rfl rfl ⟨rfl, rfl⟩ (by decide) (by decide)


set_option maxRecDepth 65536 in
set_option maxHeartbeats 40000000 in
theorem a_89 (l : Launch) {Z : State} {a0 : Array Value} (hw : HW1 Z a0) (n0 : Nat) (p0 : Int32) (p1 : Int32) (p2 : Int32) (p3 : Int64) (p4 : Int64) (i0 : Int32) (I0 : Nat) : Met l Z KT n0 y11 method_4_code 2 (some .boolean) ({ frames := 0, cells := 0, slots := 0, locals := 0 } : Room) #[(rf n0 15), (rf n0 5)] [.inr (.int, [(.int i0)]), .inr (.int, [(.int p0), (.int p1)]), .inr (.int, [(.int p1), (.int p2)]), .inr (.long, [(.long p3), (.long p4)]), .inr (.long, [(.long p4), (.long p3)]), .inr (.int, [(.int p2), (.int (own_selI I0 p0 p1)), oz, oz]), .inr (.int, [(.int p0), (.int (own_selI I0 p1 p2)), oz, oz]), .inr (.long, [(.long (p3 ^^^ (-1 : Int64))), (.long (own_selJ I0 p3 p4)), ol, ol]), .inr (.long, [(.long (p4 ^^^ (-1 : Int64))), (.long (own_selJ I0 p4 p3)), ol, ol]), .inl (0, [(rf n0 10), (rf n0 11), (rf n0 12), (rf n0 13), (.int (2 : Int32))]), .inr (.int, [(.int p0), (.int p1)]), .inr (.int, [(.int p1), (.int p2)]), .inr (.long, [(.long p3), (.long p4)]), .inr (.long, [(.long p4), (.long p3)]), .inl (0, [(rf n0 15), (rf n0 16), (rf n0 17), (rf n0 18), (.int (2 : Int32))]), .inr (.int, [(.int p2), (.int (own_selI I0 p0 p1)), oz, oz]), .inr (.int, [(.int p0), (.int (own_selI I0 p1 p2)), oz, oz]), .inr (.long, [(.long (p3 ^^^ (-1 : Int64))), (.long (own_selJ I0 p3 p4)), ol, ol]), .inr (.long, [(.long (p4 ^^^ (-1 : Int64))), (.long (own_selJ I0 p4 p3)), ol, ol])] (Is (some (.int (1 : Int32))) [.inr (.int, [(.int i0)]), .inr (.int, [(.int p0), (.int p1)]), .inr (.int, [(.int p1), (.int p2)]), .inr (.long, [(.long p3), (.long p4)]), .inr (.long, [(.long p4), (.long p3)]), .inr (.int, [(.int p2), (.int (own_selI I0 p0 p1)), oz, oz]), .inr (.int, [(.int p0), (.int (own_selI I0 p1 p2)), oz, oz]), .inr (.long, [(.long (p3 ^^^ (-1 : Int64))), (.long (own_selJ I0 p3 p4)), ol, ol]), .inr (.long, [(.long (p4 ^^^ (-1 : Int64))), (.long (own_selJ I0 p4 p3)), ol, ol]), .inl (0, [(rf n0 10), (rf n0 11), (rf n0 12), (rf n0 13), (.int (2 : Int32))]), .inr (.int, [(.int p0), (.int p1)]), .inr (.int, [(.int p1), (.int p2)]), .inr (.long, [(.long p3), (.long p4)]), .inr (.long, [(.long p4), (.long p3)]), .inl (0, [(rf n0 15), (rf n0 16), (rf n0 17), (rf n0 18), (.int (2 : Int32))]), .inr (.int, [(.int p2), (.int (own_selI I0 p0 p1)), oz, oz]), .inr (.int, [(.int p0), (.int (own_selI I0 p1 p2)), oz, oz]), .inr (.long, [(.long (p3 ^^^ (-1 : Int64))), (.long (own_selJ I0 p3 p4)), ol, ol]), .inr (.long, [(.long (p4 ^^^ (-1 : Int64))), (.long (own_selJ I0 p4 p3)), ol, ol])]) := by
  refine Met.of (a0 := a0) (ls := #[.val (rf n0 15), .val (rf n0 5)]) (kok hw) (plainFor_of_name pn_24) (fun m => by first | (simp [entryFrame, mkF, argsToLocals, Value.category]; done) | rfl) (fun G H => ?_)
  refine H.aloadN s11_0 rfl rfl ?_
  refine H.arraylength s11_1 (i := 15) rfl (z := (4 : Int32)) rfl ?_
  refine H.iconst s11_2 (v := (4 : Int32)) (by decide) ?_
  refine H.icmpF s11_3 (show (4 : Int32) = (4 : Int32) by decide) ?_
  refine H.aloadN s11_6 rfl rfl ?_
  refine H.iconst s11_7 (v := (0 : Int32)) (by decide) ?_
  refine H.iaload s11_8 (i := 15) (j := 0) rfl (by decide) (v := (.int p2)) rfl ?_
  refine H.aloadN s11_9 rfl rfl ?_
  refine H.iconst s11_10 (v := (0 : Int32)) (by decide) ?_
  refine H.iaload s11_11 (i := 5) (j := 0) rfl (by decide) (v := (.int p2)) rfl ?_
  refine H.icmpF s11_12 rfl ?_
  refine H.aloadN s11_15 rfl rfl ?_
  refine H.iconst s11_16 (v := (1 : Int32)) (by decide) ?_
  refine H.iaload s11_17 (i := 15) (j := 1) rfl (by decide) (v := (.int (own_selI I0 p0 p1))) rfl ?_
  refine H.aloadN s11_18 rfl rfl ?_
  refine H.iconst s11_19 (v := (1 : Int32)) (by decide) ?_
  refine H.iaload s11_20 (i := 5) (j := 1) rfl (by decide) (v := (.int (own_selI I0 p0 p1))) rfl ?_
  refine H.icmpF s11_21 rfl ?_
  refine H.aloadN s11_24 rfl rfl ?_
  refine H.iconst s11_25 (v := (2 : Int32)) (by decide) ?_
  refine H.iaload s11_26 (i := 15) (j := 2) rfl (by decide) (v := oz) rfl ?_
  refine H.aloadN s11_27 rfl rfl ?_
  refine H.iconst s11_28 (v := (2 : Int32)) (by decide) ?_
  refine H.iaload s11_29 (i := 5) (j := 2) rfl (by decide) (v := oz) rfl ?_
  refine H.icmpF s11_30 (show (0 : Int32) = (0 : Int32) by decide) ?_
  refine H.aloadN s11_33 rfl rfl ?_
  refine H.iconst s11_34 (v := (3 : Int32)) (by decide) ?_
  refine H.iaload s11_35 (i := 15) (j := 3) rfl (by decide) (v := oz) rfl ?_
  refine H.aloadN s11_36 rfl rfl ?_
  refine H.iconst s11_37 (v := (3 : Int32)) (by decide) ?_
  refine H.iaload s11_38 (i := 5) (j := 3) rfl (by decide) (v := oz) rfl ?_
  refine H.icmpF s11_39 (show (0 : Int32) = (0 : Int32) by decide) ?_
  refine H.iconst s11_42 (v := (1 : Int32)) (by decide) ?_
  refine H.goto s11_43 ?_
  exact H.ireturn s11_47 rfl (by simp) rfl ⟨rfl, rfl⟩ (by decide) (by decide)


set_option maxRecDepth 65536 in
set_option maxHeartbeats 40000000 in
theorem a_90 (l : Launch) {Z : State} {a0 : Array Value} (hw : HW1 Z a0) (n0 : Nat) (p0 : Int32) (p1 : Int32) (p2 : Int32) (p3 : Int64) (p4 : Int64) (i0 : Int32) (I0 : Nat) : Met l Z KT n0 y11 method_4_code 2 (some .boolean) ({ frames := 0, cells := 0, slots := 0, locals := 0 } : Room) #[(rf n0 16), (rf n0 6)] [.inr (.int, [(.int i0)]), .inr (.int, [(.int p0), (.int p1)]), .inr (.int, [(.int p1), (.int p2)]), .inr (.long, [(.long p3), (.long p4)]), .inr (.long, [(.long p4), (.long p3)]), .inr (.int, [(.int p2), (.int (own_selI I0 p0 p1)), oz, oz]), .inr (.int, [(.int p0), (.int (own_selI I0 p1 p2)), oz, oz]), .inr (.long, [(.long (p3 ^^^ (-1 : Int64))), (.long (own_selJ I0 p3 p4)), ol, ol]), .inr (.long, [(.long (p4 ^^^ (-1 : Int64))), (.long (own_selJ I0 p4 p3)), ol, ol]), .inl (0, [(rf n0 10), (rf n0 11), (rf n0 12), (rf n0 13), (.int (2 : Int32))]), .inr (.int, [(.int p0), (.int p1)]), .inr (.int, [(.int p1), (.int p2)]), .inr (.long, [(.long p3), (.long p4)]), .inr (.long, [(.long p4), (.long p3)]), .inl (0, [(rf n0 15), (rf n0 16), (rf n0 17), (rf n0 18), (.int (2 : Int32))]), .inr (.int, [(.int p2), (.int (own_selI I0 p0 p1)), oz, oz]), .inr (.int, [(.int p0), (.int (own_selI I0 p1 p2)), oz, oz]), .inr (.long, [(.long (p3 ^^^ (-1 : Int64))), (.long (own_selJ I0 p3 p4)), ol, ol]), .inr (.long, [(.long (p4 ^^^ (-1 : Int64))), (.long (own_selJ I0 p4 p3)), ol, ol])] (Is (some (.int (1 : Int32))) [.inr (.int, [(.int i0)]), .inr (.int, [(.int p0), (.int p1)]), .inr (.int, [(.int p1), (.int p2)]), .inr (.long, [(.long p3), (.long p4)]), .inr (.long, [(.long p4), (.long p3)]), .inr (.int, [(.int p2), (.int (own_selI I0 p0 p1)), oz, oz]), .inr (.int, [(.int p0), (.int (own_selI I0 p1 p2)), oz, oz]), .inr (.long, [(.long (p3 ^^^ (-1 : Int64))), (.long (own_selJ I0 p3 p4)), ol, ol]), .inr (.long, [(.long (p4 ^^^ (-1 : Int64))), (.long (own_selJ I0 p4 p3)), ol, ol]), .inl (0, [(rf n0 10), (rf n0 11), (rf n0 12), (rf n0 13), (.int (2 : Int32))]), .inr (.int, [(.int p0), (.int p1)]), .inr (.int, [(.int p1), (.int p2)]), .inr (.long, [(.long p3), (.long p4)]), .inr (.long, [(.long p4), (.long p3)]), .inl (0, [(rf n0 15), (rf n0 16), (rf n0 17), (rf n0 18), (.int (2 : Int32))]), .inr (.int, [(.int p2), (.int (own_selI I0 p0 p1)), oz, oz]), .inr (.int, [(.int p0), (.int (own_selI I0 p1 p2)), oz, oz]), .inr (.long, [(.long (p3 ^^^ (-1 : Int64))), (.long (own_selJ I0 p3 p4)), ol, ol]), .inr (.long, [(.long (p4 ^^^ (-1 : Int64))), (.long (own_selJ I0 p4 p3)), ol, ol])]) := by
  refine Met.of (a0 := a0) (ls := #[.val (rf n0 16), .val (rf n0 6)]) (kok hw) (plainFor_of_name pn_24) (fun m => by first | (simp [entryFrame, mkF, argsToLocals, Value.category]; done) | rfl) (fun G H => ?_)
  refine H.aloadN s11_0 rfl rfl ?_
  refine H.arraylength s11_1 (i := 16) rfl (z := (4 : Int32)) rfl ?_
  refine H.iconst s11_2 (v := (4 : Int32)) (by decide) ?_
  refine H.icmpF s11_3 (show (4 : Int32) = (4 : Int32) by decide) ?_
  refine H.aloadN s11_6 rfl rfl ?_
  refine H.iconst s11_7 (v := (0 : Int32)) (by decide) ?_
  refine H.iaload s11_8 (i := 16) (j := 0) rfl (by decide) (v := (.int p0)) rfl ?_
  refine H.aloadN s11_9 rfl rfl ?_
  refine H.iconst s11_10 (v := (0 : Int32)) (by decide) ?_
  refine H.iaload s11_11 (i := 6) (j := 0) rfl (by decide) (v := (.int p0)) rfl ?_
  refine H.icmpF s11_12 rfl ?_
  refine H.aloadN s11_15 rfl rfl ?_
  refine H.iconst s11_16 (v := (1 : Int32)) (by decide) ?_
  refine H.iaload s11_17 (i := 16) (j := 1) rfl (by decide) (v := (.int (own_selI I0 p1 p2))) rfl ?_
  refine H.aloadN s11_18 rfl rfl ?_
  refine H.iconst s11_19 (v := (1 : Int32)) (by decide) ?_
  refine H.iaload s11_20 (i := 6) (j := 1) rfl (by decide) (v := (.int (own_selI I0 p1 p2))) rfl ?_
  refine H.icmpF s11_21 rfl ?_
  refine H.aloadN s11_24 rfl rfl ?_
  refine H.iconst s11_25 (v := (2 : Int32)) (by decide) ?_
  refine H.iaload s11_26 (i := 16) (j := 2) rfl (by decide) (v := oz) rfl ?_
  refine H.aloadN s11_27 rfl rfl ?_
  refine H.iconst s11_28 (v := (2 : Int32)) (by decide) ?_
  refine H.iaload s11_29 (i := 6) (j := 2) rfl (by decide) (v := oz) rfl ?_
  refine H.icmpF s11_30 (show (0 : Int32) = (0 : Int32) by decide) ?_
  refine H.aloadN s11_33 rfl rfl ?_
  refine H.iconst s11_34 (v := (3 : Int32)) (by decide) ?_
  refine H.iaload s11_35 (i := 16) (j := 3) rfl (by decide) (v := oz) rfl ?_
  refine H.aloadN s11_36 rfl rfl ?_
  refine H.iconst s11_37 (v := (3 : Int32)) (by decide) ?_
  refine H.iaload s11_38 (i := 6) (j := 3) rfl (by decide) (v := oz) rfl ?_
  refine H.icmpF s11_39 (show (0 : Int32) = (0 : Int32) by decide) ?_
  refine H.iconst s11_42 (v := (1 : Int32)) (by decide) ?_
  refine H.goto s11_43 ?_
  exact H.ireturn s11_47 rfl (by simp) rfl ⟨rfl, rfl⟩ (by decide) (by decide)


set_option maxRecDepth 65536 in
set_option maxHeartbeats 40000000 in
theorem a_91 (l : Launch) {Z : State} {a0 : Array Value} (hw : HW1 Z a0) (n0 : Nat) (p0 : Int32) (p1 : Int32) (p2 : Int32) (p3 : Int64) (p4 : Int64) (i0 : Int32) (I0 : Nat) : Met l Z KT n0 y12 method_5_code 2 (some .boolean) ({ frames := 0, cells := 0, slots := 0, locals := 0 } : Room) #[(rf n0 17), (rf n0 7)] [.inr (.int, [(.int i0)]), .inr (.int, [(.int p0), (.int p1)]), .inr (.int, [(.int p1), (.int p2)]), .inr (.long, [(.long p3), (.long p4)]), .inr (.long, [(.long p4), (.long p3)]), .inr (.int, [(.int p2), (.int (own_selI I0 p0 p1)), oz, oz]), .inr (.int, [(.int p0), (.int (own_selI I0 p1 p2)), oz, oz]), .inr (.long, [(.long (p3 ^^^ (-1 : Int64))), (.long (own_selJ I0 p3 p4)), ol, ol]), .inr (.long, [(.long (p4 ^^^ (-1 : Int64))), (.long (own_selJ I0 p4 p3)), ol, ol]), .inl (0, [(rf n0 10), (rf n0 11), (rf n0 12), (rf n0 13), (.int (2 : Int32))]), .inr (.int, [(.int p0), (.int p1)]), .inr (.int, [(.int p1), (.int p2)]), .inr (.long, [(.long p3), (.long p4)]), .inr (.long, [(.long p4), (.long p3)]), .inl (0, [(rf n0 15), (rf n0 16), (rf n0 17), (rf n0 18), (.int (2 : Int32))]), .inr (.int, [(.int p2), (.int (own_selI I0 p0 p1)), oz, oz]), .inr (.int, [(.int p0), (.int (own_selI I0 p1 p2)), oz, oz]), .inr (.long, [(.long (p3 ^^^ (-1 : Int64))), (.long (own_selJ I0 p3 p4)), ol, ol]), .inr (.long, [(.long (p4 ^^^ (-1 : Int64))), (.long (own_selJ I0 p4 p3)), ol, ol])] (Is (some (.int (1 : Int32))) [.inr (.int, [(.int i0)]), .inr (.int, [(.int p0), (.int p1)]), .inr (.int, [(.int p1), (.int p2)]), .inr (.long, [(.long p3), (.long p4)]), .inr (.long, [(.long p4), (.long p3)]), .inr (.int, [(.int p2), (.int (own_selI I0 p0 p1)), oz, oz]), .inr (.int, [(.int p0), (.int (own_selI I0 p1 p2)), oz, oz]), .inr (.long, [(.long (p3 ^^^ (-1 : Int64))), (.long (own_selJ I0 p3 p4)), ol, ol]), .inr (.long, [(.long (p4 ^^^ (-1 : Int64))), (.long (own_selJ I0 p4 p3)), ol, ol]), .inl (0, [(rf n0 10), (rf n0 11), (rf n0 12), (rf n0 13), (.int (2 : Int32))]), .inr (.int, [(.int p0), (.int p1)]), .inr (.int, [(.int p1), (.int p2)]), .inr (.long, [(.long p3), (.long p4)]), .inr (.long, [(.long p4), (.long p3)]), .inl (0, [(rf n0 15), (rf n0 16), (rf n0 17), (rf n0 18), (.int (2 : Int32))]), .inr (.int, [(.int p2), (.int (own_selI I0 p0 p1)), oz, oz]), .inr (.int, [(.int p0), (.int (own_selI I0 p1 p2)), oz, oz]), .inr (.long, [(.long (p3 ^^^ (-1 : Int64))), (.long (own_selJ I0 p3 p4)), ol, ol]), .inr (.long, [(.long (p4 ^^^ (-1 : Int64))), (.long (own_selJ I0 p4 p3)), ol, ol])]) := by
  refine Met.of (a0 := a0) (ls := #[.val (rf n0 17), .val (rf n0 7)]) (kok hw) (plainFor_of_name pn_24) (fun m => by first | (simp [entryFrame, mkF, argsToLocals, Value.category]; done) | rfl) (fun G H => ?_)
  refine H.aloadN s12_0 rfl rfl ?_
  refine H.arraylength s12_1 (i := 17) rfl (z := (4 : Int32)) rfl ?_
  refine H.iconst s12_2 (v := (4 : Int32)) (by decide) ?_
  refine H.icmpF s12_3 (show (4 : Int32) = (4 : Int32) by decide) ?_
  refine H.aloadN s12_6 rfl rfl ?_
  refine H.iconst s12_7 (v := (0 : Int32)) (by decide) ?_
  refine H.laload s12_8 (i := 17) (j := 0) rfl (by decide) (v := (.long (p3 ^^^ (-1 : Int64)))) rfl ?_
  refine H.aloadN s12_9 rfl rfl ?_
  refine H.iconst s12_10 (v := (0 : Int32)) (by decide) ?_
  refine H.laload s12_11 (i := 7) (j := 0) rfl (by decide) (v := (.long (p3 ^^^ (-1 : Int64)))) rfl ?_
  refine H.lifF s12_12 s12_13 rfl ?_
  refine H.aloadN s12_16 rfl rfl ?_
  refine H.iconst s12_17 (v := (1 : Int32)) (by decide) ?_
  refine H.laload s12_18 (i := 17) (j := 1) rfl (by decide) (v := (.long (own_selJ I0 p3 p4))) rfl ?_
  refine H.aloadN s12_19 rfl rfl ?_
  refine H.iconst s12_20 (v := (1 : Int32)) (by decide) ?_
  refine H.laload s12_21 (i := 7) (j := 1) rfl (by decide) (v := (.long (own_selJ I0 p3 p4))) rfl ?_
  refine H.lifF s12_22 s12_23 rfl ?_
  refine H.aloadN s12_26 rfl rfl ?_
  refine H.iconst s12_27 (v := (2 : Int32)) (by decide) ?_
  refine H.laload s12_28 (i := 17) (j := 2) rfl (by decide) (v := ol) rfl ?_
  refine H.aloadN s12_29 rfl rfl ?_
  refine H.iconst s12_30 (v := (2 : Int32)) (by decide) ?_
  refine H.laload s12_31 (i := 7) (j := 2) rfl (by decide) (v := ol) rfl ?_
  refine H.lifF s12_32 s12_33 (show (0 : Int64) = (0 : Int64) by decide) ?_
  refine H.aloadN s12_36 rfl rfl ?_
  refine H.iconst s12_37 (v := (3 : Int32)) (by decide) ?_
  refine H.laload s12_38 (i := 17) (j := 3) rfl (by decide) (v := ol) rfl ?_
  refine H.aloadN s12_39 rfl rfl ?_
  refine H.iconst s12_40 (v := (3 : Int32)) (by decide) ?_
  refine H.laload s12_41 (i := 7) (j := 3) rfl (by decide) (v := ol) rfl ?_
  refine H.lifF s12_42 s12_43 (show (0 : Int64) = (0 : Int64) by decide) ?_
  refine H.iconst s12_46 (v := (1 : Int32)) (by decide) ?_
  refine H.goto s12_47 ?_
  exact H.ireturn s12_51 rfl (by simp) rfl ⟨rfl, rfl⟩ (by decide) (by decide)


set_option maxRecDepth 65536 in
set_option maxHeartbeats 40000000 in
theorem a_92 (l : Launch) {Z : State} {a0 : Array Value} (hw : HW1 Z a0) (n0 : Nat) (p0 : Int32) (p1 : Int32) (p2 : Int32) (p3 : Int64) (p4 : Int64) (i0 : Int32) (I0 : Nat) : Met l Z KT n0 y12 method_5_code 2 (some .boolean) ({ frames := 0, cells := 0, slots := 0, locals := 0 } : Room) #[(rf n0 18), (rf n0 8)] [.inr (.int, [(.int i0)]), .inr (.int, [(.int p0), (.int p1)]), .inr (.int, [(.int p1), (.int p2)]), .inr (.long, [(.long p3), (.long p4)]), .inr (.long, [(.long p4), (.long p3)]), .inr (.int, [(.int p2), (.int (own_selI I0 p0 p1)), oz, oz]), .inr (.int, [(.int p0), (.int (own_selI I0 p1 p2)), oz, oz]), .inr (.long, [(.long (p3 ^^^ (-1 : Int64))), (.long (own_selJ I0 p3 p4)), ol, ol]), .inr (.long, [(.long (p4 ^^^ (-1 : Int64))), (.long (own_selJ I0 p4 p3)), ol, ol]), .inl (0, [(rf n0 10), (rf n0 11), (rf n0 12), (rf n0 13), (.int (2 : Int32))]), .inr (.int, [(.int p0), (.int p1)]), .inr (.int, [(.int p1), (.int p2)]), .inr (.long, [(.long p3), (.long p4)]), .inr (.long, [(.long p4), (.long p3)]), .inl (0, [(rf n0 15), (rf n0 16), (rf n0 17), (rf n0 18), (.int (2 : Int32))]), .inr (.int, [(.int p2), (.int (own_selI I0 p0 p1)), oz, oz]), .inr (.int, [(.int p0), (.int (own_selI I0 p1 p2)), oz, oz]), .inr (.long, [(.long (p3 ^^^ (-1 : Int64))), (.long (own_selJ I0 p3 p4)), ol, ol]), .inr (.long, [(.long (p4 ^^^ (-1 : Int64))), (.long (own_selJ I0 p4 p3)), ol, ol])] (Is (some (.int (1 : Int32))) [.inr (.int, [(.int i0)]), .inr (.int, [(.int p0), (.int p1)]), .inr (.int, [(.int p1), (.int p2)]), .inr (.long, [(.long p3), (.long p4)]), .inr (.long, [(.long p4), (.long p3)]), .inr (.int, [(.int p2), (.int (own_selI I0 p0 p1)), oz, oz]), .inr (.int, [(.int p0), (.int (own_selI I0 p1 p2)), oz, oz]), .inr (.long, [(.long (p3 ^^^ (-1 : Int64))), (.long (own_selJ I0 p3 p4)), ol, ol]), .inr (.long, [(.long (p4 ^^^ (-1 : Int64))), (.long (own_selJ I0 p4 p3)), ol, ol]), .inl (0, [(rf n0 10), (rf n0 11), (rf n0 12), (rf n0 13), (.int (2 : Int32))]), .inr (.int, [(.int p0), (.int p1)]), .inr (.int, [(.int p1), (.int p2)]), .inr (.long, [(.long p3), (.long p4)]), .inr (.long, [(.long p4), (.long p3)]), .inl (0, [(rf n0 15), (rf n0 16), (rf n0 17), (rf n0 18), (.int (2 : Int32))]), .inr (.int, [(.int p2), (.int (own_selI I0 p0 p1)), oz, oz]), .inr (.int, [(.int p0), (.int (own_selI I0 p1 p2)), oz, oz]), .inr (.long, [(.long (p3 ^^^ (-1 : Int64))), (.long (own_selJ I0 p3 p4)), ol, ol]), .inr (.long, [(.long (p4 ^^^ (-1 : Int64))), (.long (own_selJ I0 p4 p3)), ol, ol])]) := by
  refine Met.of (a0 := a0) (ls := #[.val (rf n0 18), .val (rf n0 8)]) (kok hw) (plainFor_of_name pn_24) (fun m => by first | (simp [entryFrame, mkF, argsToLocals, Value.category]; done) | rfl) (fun G H => ?_)
  refine H.aloadN s12_0 rfl rfl ?_
  refine H.arraylength s12_1 (i := 18) rfl (z := (4 : Int32)) rfl ?_
  refine H.iconst s12_2 (v := (4 : Int32)) (by decide) ?_
  refine H.icmpF s12_3 (show (4 : Int32) = (4 : Int32) by decide) ?_
  refine H.aloadN s12_6 rfl rfl ?_
  refine H.iconst s12_7 (v := (0 : Int32)) (by decide) ?_
  refine H.laload s12_8 (i := 18) (j := 0) rfl (by decide) (v := (.long (p4 ^^^ (-1 : Int64)))) rfl ?_
  refine H.aloadN s12_9 rfl rfl ?_
  refine H.iconst s12_10 (v := (0 : Int32)) (by decide) ?_
  refine H.laload s12_11 (i := 8) (j := 0) rfl (by decide) (v := (.long (p4 ^^^ (-1 : Int64)))) rfl ?_
  refine H.lifF s12_12 s12_13 rfl ?_
  refine H.aloadN s12_16 rfl rfl ?_
  refine H.iconst s12_17 (v := (1 : Int32)) (by decide) ?_
  refine H.laload s12_18 (i := 18) (j := 1) rfl (by decide) (v := (.long (own_selJ I0 p4 p3))) rfl ?_
  refine H.aloadN s12_19 rfl rfl ?_
  refine H.iconst s12_20 (v := (1 : Int32)) (by decide) ?_
  refine H.laload s12_21 (i := 8) (j := 1) rfl (by decide) (v := (.long (own_selJ I0 p4 p3))) rfl ?_
  refine H.lifF s12_22 s12_23 rfl ?_
  refine H.aloadN s12_26 rfl rfl ?_
  refine H.iconst s12_27 (v := (2 : Int32)) (by decide) ?_
  refine H.laload s12_28 (i := 18) (j := 2) rfl (by decide) (v := ol) rfl ?_
  refine H.aloadN s12_29 rfl rfl ?_
  refine H.iconst s12_30 (v := (2 : Int32)) (by decide) ?_
  refine H.laload s12_31 (i := 8) (j := 2) rfl (by decide) (v := ol) rfl ?_
  refine H.lifF s12_32 s12_33 (show (0 : Int64) = (0 : Int64) by decide) ?_
  refine H.aloadN s12_36 rfl rfl ?_
  refine H.iconst s12_37 (v := (3 : Int32)) (by decide) ?_
  refine H.laload s12_38 (i := 18) (j := 3) rfl (by decide) (v := ol) rfl ?_
  refine H.aloadN s12_39 rfl rfl ?_
  refine H.iconst s12_40 (v := (3 : Int32)) (by decide) ?_
  refine H.laload s12_41 (i := 8) (j := 3) rfl (by decide) (v := ol) rfl ?_
  refine H.lifF s12_42 s12_43 (show (0 : Int64) = (0 : Int64) by decide) ?_
  refine H.iconst s12_46 (v := (1 : Int32)) (by decide) ?_
  refine H.goto s12_47 ?_
  exact H.ireturn s12_51 rfl (by simp) rfl ⟨rfl, rfl⟩ (by decide) (by decide)


set_option maxRecDepth 65536 in
set_option maxHeartbeats 40000000 in
theorem a_93 (l : Launch) {Z : State} {a0 : Array Value} (hw : HW1 Z a0) (n0 : Nat) (p0 : Int32) (p1 : Int32) (p2 : Int32) (p3 : Int64) (p4 : Int64) (i0 : Int32) (i1 : Int32) {I0 : Nat} (hI0 : i0.toInt = (I0 : Int)) (lI0 : I0 < 2) {I1 : Nat} (hI1 : i1.toInt = (I1 : Int)) (lI1 : I1 < 2) : Met l Z KT n0 y1 method_3_code 10 none ({ frames := 0, cells := 0, slots := 0, locals := 0 } : Room) #[(rf n0 5), (rf n0 6), (rf n0 7), (rf n0 8), (.int (1 : Int32)), (.int i0), (rf n0 1), (rf n0 2), (rf n0 3), (rf n0 4)] [.inr (.int, [(.int i0), (.int i1)]), .inr (.int, [(.int p0), (.int p1)]), .inr (.int, [(.int p1), (.int p2)]), .inr (.long, [(.long p3), (.long p4)]), .inr (.long, [(.long p4), (.long p3)]), .inr (.int, [(.int p2), oz, oz, oz]), .inr (.int, [(.int p0), oz, oz, oz]), .inr (.long, [(.long (p3 ^^^ (-1 : Int64))), ol, ol, ol]), .inr (.long, [(.long (p4 ^^^ (-1 : Int64))), ol, ol, ol])] (Is none [.inr (.int, [(.int i0), (.int i1)]), .inr (.int, [(.int p0), (.int p1)]), .inr (.int, [(.int p1), (.int p2)]), .inr (.long, [(.long p3), (.long p4)]), .inr (.long, [(.long p4), (.long p3)]), .inr (.int, [(.int p2), (.int (own_selI I0 p0 p1)), oz, oz]), .inr (.int, [(.int p0), (.int (own_selI I0 p1 p2)), oz, oz]), .inr (.long, [(.long (p3 ^^^ (-1 : Int64))), (.long (own_selJ I0 p3 p4)), ol, ol]), .inr (.long, [(.long (p4 ^^^ (-1 : Int64))), (.long (own_selJ I0 p4 p3)), ol, ol])]) := by
  refine Met.of (a0 := a0) (ls := #[.val (rf n0 5), .val (rf n0 6), .val (rf n0 7), .val (rf n0 8), .val (.int (1 : Int32)), .val (.int i0), .val (rf n0 1), .val (rf n0 2), .val (rf n0 3), .val (rf n0 4)]) (kok hw) (plainFor_of_name pn_24) (fun m => by first | (simp [entryFrame, mkF, argsToLocals, Value.category]; done) | rfl) (fun G H => ?_)
  refine H.aloadN s1_0 rfl rfl ?_
  refine H.iload s1_1 rfl ?_
  refine H.aload s1_3 rfl rfl ?_
  refine H.iload s1_5 rfl ?_
  refine H.iaload s1_7 (i := 1) (j := I0) rfl hI0 (v := (.int (own_selI I0 p0 p1))) (own_gI lI0) ?_
  refine H.iastore s1_8 (i := 5) (j := 1) rfl (by decide) (ltb rfl)  rfl ?_
  refine H.aloadN s1_9 rfl rfl ?_
  refine H.iload s1_10 rfl ?_
  refine H.aload s1_12 rfl rfl ?_
  refine H.iload s1_14 rfl ?_
  refine H.iaload s1_16 (i := 2) (j := I0) rfl hI0 (v := (.int (own_selI I0 p1 p2))) (own_gI lI0) ?_
  refine H.iastore s1_17 (i := 6) (j := 1) rfl (by decide) (ltb rfl)  rfl ?_
  refine H.aloadN s1_18 rfl rfl ?_
  refine H.iload s1_19 rfl ?_
  refine H.aload s1_21 rfl rfl ?_
  refine H.iload s1_23 rfl ?_
  refine H.laload s1_25 (i := 3) (j := I0) rfl hI0 (v := (.long (own_selJ I0 p3 p4))) (own_gJ lI0) ?_
  refine H.lastore s1_26 (i := 7) (j := 1) rfl (by decide) (ltb rfl)  rfl ?_
  refine H.aloadN s1_27 rfl rfl ?_
  refine H.iload s1_28 rfl ?_
  refine H.aload s1_30 rfl rfl ?_
  refine H.iload s1_32 rfl ?_
  refine H.laload s1_34 (i := 4) (j := I0) rfl hI0 (v := (.long (own_selJ I0 p4 p3))) (own_gJ lI0) ?_
  refine H.lastore s1_35 (i := 8) (j := 1) rfl (by decide) (ltb rfl)  rfl ?_
  exact H.vreturn s1_36 rfl ⟨rfl, rfl⟩ (by decide) (by decide)


set_option maxRecDepth 65536 in
set_option maxHeartbeats 40000000 in
theorem a_94 (l : Launch) {Z : State} {a0 : Array Value} (hw : HW1 Z a0) (n0 : Nat) (p0 : Int32) (p1 : Int32) (p2 : Int32) (p3 : Int64) (p4 : Int64) (i0 : Int32) (i1 : Int32) (I0 : Nat) (hI0 : i0.toInt = (I0 : Int)) (lI0 : I0 < 2) {I1 : Nat} (hI1 : i1.toInt = (I1 : Int)) (lI1 : I1 < 2) : Met l Z KT n0 y1 method_3_code 10 none ({ frames := 0, cells := 0, slots := 0, locals := 0 } : Room) #[(rf n0 5), (rf n0 6), (rf n0 7), (rf n0 8), (.int (2 : Int32)), (.int i1), (rf n0 1), (rf n0 2), (rf n0 3), (rf n0 4)] [.inr (.int, [(.int i0), (.int i1)]), .inr (.int, [(.int p0), (.int p1)]), .inr (.int, [(.int p1), (.int p2)]), .inr (.long, [(.long p3), (.long p4)]), .inr (.long, [(.long p4), (.long p3)]), .inr (.int, [(.int p2), (.int (own_selI I0 p0 p1)), oz, oz]), .inr (.int, [(.int p0), (.int (own_selI I0 p1 p2)), oz, oz]), .inr (.long, [(.long (p3 ^^^ (-1 : Int64))), (.long (own_selJ I0 p3 p4)), ol, ol]), .inr (.long, [(.long (p4 ^^^ (-1 : Int64))), (.long (own_selJ I0 p4 p3)), ol, ol])] (Is none [.inr (.int, [(.int i0), (.int i1)]), .inr (.int, [(.int p0), (.int p1)]), .inr (.int, [(.int p1), (.int p2)]), .inr (.long, [(.long p3), (.long p4)]), .inr (.long, [(.long p4), (.long p3)]), .inr (.int, [(.int p2), (.int (own_selI I0 p0 p1)), (.int (own_selI I1 p0 p1)), oz]), .inr (.int, [(.int p0), (.int (own_selI I0 p1 p2)), (.int (own_selI I1 p1 p2)), oz]), .inr (.long, [(.long (p3 ^^^ (-1 : Int64))), (.long (own_selJ I0 p3 p4)), (.long (own_selJ I1 p3 p4)), ol]), .inr (.long, [(.long (p4 ^^^ (-1 : Int64))), (.long (own_selJ I0 p4 p3)), (.long (own_selJ I1 p4 p3)), ol])]) := by
  refine Met.of (a0 := a0) (ls := #[.val (rf n0 5), .val (rf n0 6), .val (rf n0 7), .val (rf n0 8), .val (.int (2 : Int32)), .val (.int i1), .val (rf n0 1), .val (rf n0 2), .val (rf n0 3), .val (rf n0 4)]) (kok hw) (plainFor_of_name pn_24) (fun m => by first | (simp [entryFrame, mkF, argsToLocals, Value.category]; done) | rfl) (fun G H => ?_)
  refine H.aloadN s1_0 rfl rfl ?_
  refine H.iload s1_1 rfl ?_
  refine H.aload s1_3 rfl rfl ?_
  refine H.iload s1_5 rfl ?_
  refine H.iaload s1_7 (i := 1) (j := I1) rfl hI1 (v := (.int (own_selI I1 p0 p1))) (own_gI lI1) ?_
  refine H.iastore s1_8 (i := 5) (j := 2) rfl (by decide) (ltb rfl)  rfl ?_
  refine H.aloadN s1_9 rfl rfl ?_
  refine H.iload s1_10 rfl ?_
  refine H.aload s1_12 rfl rfl ?_
  refine H.iload s1_14 rfl ?_
  refine H.iaload s1_16 (i := 2) (j := I1) rfl hI1 (v := (.int (own_selI I1 p1 p2))) (own_gI lI1) ?_
  refine H.iastore s1_17 (i := 6) (j := 2) rfl (by decide) (ltb rfl)  rfl ?_
  refine H.aloadN s1_18 rfl rfl ?_
  refine H.iload s1_19 rfl ?_
  refine H.aload s1_21 rfl rfl ?_
  refine H.iload s1_23 rfl ?_
  refine H.laload s1_25 (i := 3) (j := I1) rfl hI1 (v := (.long (own_selJ I1 p3 p4))) (own_gJ lI1) ?_
  refine H.lastore s1_26 (i := 7) (j := 2) rfl (by decide) (ltb rfl)  rfl ?_
  refine H.aloadN s1_27 rfl rfl ?_
  refine H.iload s1_28 rfl ?_
  refine H.aload s1_30 rfl rfl ?_
  refine H.iload s1_32 rfl ?_
  refine H.laload s1_34 (i := 4) (j := I1) rfl hI1 (v := (.long (own_selJ I1 p4 p3))) (own_gJ lI1) ?_
  refine H.lastore s1_35 (i := 8) (j := 2) rfl (by decide) (ltb rfl)  rfl ?_
  exact H.vreturn s1_36 rfl ⟨rfl, rfl⟩ (by decide) (by decide)


set_option maxRecDepth 65536 in
set_option maxHeartbeats 40000000 in
theorem a_95 (l : Launch) {Z : State} {a0 : Array Value} (hw : HW1 Z a0) (n0 : Nat) (p0 : Int32) (p1 : Int32) (p2 : Int32) (p3 : Int64) (p4 : Int64) (i0 : Int32) (i1 : Int32) (I0 : Nat) (I1 : Nat) : Met l Z KT n0 y2 prog_15_method_1_code 2 none ({ frames := 1, cells := 4, slots := 8, locals := 12 } : Room) #[(rf n0 9), (.int (2 : Int32))] [.inr (.int, [(.int i0), (.int i1)]), .inr (.int, [(.int p0), (.int p1)]), .inr (.int, [(.int p1), (.int p2)]), .inr (.long, [(.long p3), (.long p4)]), .inr (.long, [(.long p4), (.long p3)]), .inr (.int, [(.int p2), (.int (own_selI I0 p0 p1)), (.int (own_selI I1 p0 p1)), oz]), .inr (.int, [(.int p0), (.int (own_selI I0 p1 p2)), (.int (own_selI I1 p1 p2)), oz]), .inr (.long, [(.long (p3 ^^^ (-1 : Int64))), (.long (own_selJ I0 p3 p4)), (.long (own_selJ I1 p3 p4)), ol]), .inr (.long, [(.long (p4 ^^^ (-1 : Int64))), (.long (own_selJ I0 p4 p3)), (.long (own_selJ I1 p4 p3)), ol]), .inl (0, [.null, .null, .null, .null, oz])] (Is none [.inr (.int, [(.int i0), (.int i1)]), .inr (.int, [(.int p0), (.int p1)]), .inr (.int, [(.int p1), (.int p2)]), .inr (.long, [(.long p3), (.long p4)]), .inr (.long, [(.long p4), (.long p3)]), .inr (.int, [(.int p2), (.int (own_selI I0 p0 p1)), (.int (own_selI I1 p0 p1)), oz]), .inr (.int, [(.int p0), (.int (own_selI I0 p1 p2)), (.int (own_selI I1 p1 p2)), oz]), .inr (.long, [(.long (p3 ^^^ (-1 : Int64))), (.long (own_selJ I0 p3 p4)), (.long (own_selJ I1 p3 p4)), ol]), .inr (.long, [(.long (p4 ^^^ (-1 : Int64))), (.long (own_selJ I0 p4 p3)), (.long (own_selJ I1 p4 p3)), ol]), .inl (0, [(rf n0 10), (rf n0 11), (rf n0 12), (rf n0 13), oz]), .inr (.int, [oz, oz]), .inr (.int, [oz, oz]), .inr (.long, [ol, ol]), .inr (.long, [ol, ol])]) := by
  refine Met.of (a0 := a0) (ls := #[.val (rf n0 9), .val (.int (2 : Int32))]) (kok hw) (plainFor_of_name pn_8) (fun m => by first | (simp [entryFrame, mkF, argsToLocals, Value.category]; done) | rfl) (fun G H => ?_)
  refine H.aloadN s2_0 rfl rfl ?_
  refine H.initO s2_1 (k_3 hw) rfl (leb rfl) (leb rfl) ?_
  refine H.aloadN s2_4 rfl rfl ?_
  refine H.iloadN s2_5 rfl ?_
  refine H.newarray s2_6 (ty := .int) rfl (k_0 hw) (N := 2) (cap := 2) (by decide) rfl (by decide) (by decide) (by first | rfl | simp) (by decide) (by decide) (i := 10) rfl (A' := [.inr (.int, [(.int i0), (.int i1)]), .inr (.int, [(.int p0), (.int p1)]), .inr (.int, [(.int p1), (.int p2)]), .inr (.long, [(.long p3), (.long p4)]), .inr (.long, [(.long p4), (.long p3)]), .inr (.int, [(.int p2), (.int (own_selI I0 p0 p1)), (.int (own_selI I1 p0 p1)), oz]), .inr (.int, [(.int p0), (.int (own_selI I0 p1 p2)), (.int (own_selI I1 p1 p2)), oz]), .inr (.long, [(.long (p3 ^^^ (-1 : Int64))), (.long (own_selJ I0 p3 p4)), (.long (own_selJ I1 p3 p4)), ol]), .inr (.long, [(.long (p4 ^^^ (-1 : Int64))), (.long (own_selJ I0 p4 p3)), (.long (own_selJ I1 p4 p3)), ol]), .inl (0, [.null, .null, .null, .null, oz]), .inr (.int, [oz, oz])]) rfl (k' := 1) rfl (n' := 2) rfl ?_
  refine H.putfield s2_8 (k_4 hw) (i := 9) rfl rfl rfl rfl ?_
  refine H.aloadN s2_11 rfl rfl ?_
  refine H.iloadN s2_12 rfl ?_
  refine H.newarray s2_13 (ty := .int) rfl (k_0 hw) (N := 2) (cap := 2) (by decide) rfl (by decide) (by decide) (by first | rfl | simp) (by decide) (by decide) (i := 11) rfl (A' := [.inr (.int, [(.int i0), (.int i1)]), .inr (.int, [(.int p0), (.int p1)]), .inr (.int, [(.int p1), (.int p2)]), .inr (.long, [(.long p3), (.long p4)]), .inr (.long, [(.long p4), (.long p3)]), .inr (.int, [(.int p2), (.int (own_selI I0 p0 p1)), (.int (own_selI I1 p0 p1)), oz]), .inr (.int, [(.int p0), (.int (own_selI I0 p1 p2)), (.int (own_selI I1 p1 p2)), oz]), .inr (.long, [(.long (p3 ^^^ (-1 : Int64))), (.long (own_selJ I0 p3 p4)), (.long (own_selJ I1 p3 p4)), ol]), .inr (.long, [(.long (p4 ^^^ (-1 : Int64))), (.long (own_selJ I0 p4 p3)), (.long (own_selJ I1 p4 p3)), ol]), .inl (0, [(rf n0 10), .null, .null, .null, oz]), .inr (.int, [oz, oz]), .inr (.int, [oz, oz])]) rfl (k' := 2) rfl (n' := 4) rfl ?_
  refine H.putfield s2_15 (k_5 hw) (i := 9) rfl rfl rfl rfl ?_
  refine H.aloadN s2_18 rfl rfl ?_
  refine H.iloadN s2_19 rfl ?_
  refine H.newarray s2_20 (ty := .long) rfl (k_1 hw) (N := 2) (cap := 2) (by decide) rfl (by decide) (by decide) (by first | rfl | simp) (by decide) (by decide) (i := 12) rfl (A' := [.inr (.int, [(.int i0), (.int i1)]), .inr (.int, [(.int p0), (.int p1)]), .inr (.int, [(.int p1), (.int p2)]), .inr (.long, [(.long p3), (.long p4)]), .inr (.long, [(.long p4), (.long p3)]), .inr (.int, [(.int p2), (.int (own_selI I0 p0 p1)), (.int (own_selI I1 p0 p1)), oz]), .inr (.int, [(.int p0), (.int (own_selI I0 p1 p2)), (.int (own_selI I1 p1 p2)), oz]), .inr (.long, [(.long (p3 ^^^ (-1 : Int64))), (.long (own_selJ I0 p3 p4)), (.long (own_selJ I1 p3 p4)), ol]), .inr (.long, [(.long (p4 ^^^ (-1 : Int64))), (.long (own_selJ I0 p4 p3)), (.long (own_selJ I1 p4 p3)), ol]), .inl (0, [(rf n0 10), (rf n0 11), .null, .null, oz]), .inr (.int, [oz, oz]), .inr (.int, [oz, oz]), .inr (.long, [ol, ol])]) rfl (k' := 3) rfl (n' := 6) rfl ?_
  refine H.putfield s2_22 (k_6 hw) (i := 9) rfl rfl rfl rfl ?_
  refine H.aloadN s2_25 rfl rfl ?_
  refine H.iloadN s2_26 rfl ?_
  refine H.newarray s2_27 (ty := .long) rfl (k_1 hw) (N := 2) (cap := 2) (by decide) rfl (by decide) (by decide) (by first | rfl | simp) (by decide) (by decide) (i := 13) rfl (A' := [.inr (.int, [(.int i0), (.int i1)]), .inr (.int, [(.int p0), (.int p1)]), .inr (.int, [(.int p1), (.int p2)]), .inr (.long, [(.long p3), (.long p4)]), .inr (.long, [(.long p4), (.long p3)]), .inr (.int, [(.int p2), (.int (own_selI I0 p0 p1)), (.int (own_selI I1 p0 p1)), oz]), .inr (.int, [(.int p0), (.int (own_selI I0 p1 p2)), (.int (own_selI I1 p1 p2)), oz]), .inr (.long, [(.long (p3 ^^^ (-1 : Int64))), (.long (own_selJ I0 p3 p4)), (.long (own_selJ I1 p3 p4)), ol]), .inr (.long, [(.long (p4 ^^^ (-1 : Int64))), (.long (own_selJ I0 p4 p3)), (.long (own_selJ I1 p4 p3)), ol]), .inl (0, [(rf n0 10), (rf n0 11), (rf n0 12), .null, oz]), .inr (.int, [oz, oz]), .inr (.int, [oz, oz]), .inr (.long, [ol, ol]), .inr (.long, [ol, ol])]) rfl (k' := 4) rfl (n' := 8) rfl ?_
  refine H.putfield s2_29 (k_7 hw) (i := 9) rfl rfl rfl rfl ?_
  exact H.vreturn s2_32 rfl ⟨rfl, rfl⟩ (by decide) (by decide)


set_option maxRecDepth 65536 in
set_option maxHeartbeats 40000000 in
theorem a_96 (l : Launch) {Z : State} {a0 : Array Value} (hw : HW1 Z a0) (n0 : Nat) (p0 : Int32) (p1 : Int32) (p2 : Int32) (p3 : Int64) (p4 : Int64) (i0 : Int32) (i1 : Int32) (I0 : Nat) (I1 : Nat) : Met l Z KT n0 y4 prog_15_method_2_code 7 none ({ frames := 0, cells := 0, slots := 0, locals := 0 } : Room) #[(rf n0 9), (.int p0), (.int p1), (.long p3), (.long p4)] [.inr (.int, [(.int i0), (.int i1)]), .inr (.int, [(.int p0), (.int p1)]), .inr (.int, [(.int p1), (.int p2)]), .inr (.long, [(.long p3), (.long p4)]), .inr (.long, [(.long p4), (.long p3)]), .inr (.int, [(.int p2), (.int (own_selI I0 p0 p1)), (.int (own_selI I1 p0 p1)), oz]), .inr (.int, [(.int p0), (.int (own_selI I0 p1 p2)), (.int (own_selI I1 p1 p2)), oz]), .inr (.long, [(.long (p3 ^^^ (-1 : Int64))), (.long (own_selJ I0 p3 p4)), (.long (own_selJ I1 p3 p4)), ol]), .inr (.long, [(.long (p4 ^^^ (-1 : Int64))), (.long (own_selJ I0 p4 p3)), (.long (own_selJ I1 p4 p3)), ol]), .inl (0, [(rf n0 10), (rf n0 11), (rf n0 12), (rf n0 13), oz]), .inr (.int, [oz, oz]), .inr (.int, [oz, oz]), .inr (.long, [ol, ol]), .inr (.long, [ol, ol])] (Is none [.inr (.int, [(.int i0), (.int i1)]), .inr (.int, [(.int p0), (.int p1)]), .inr (.int, [(.int p1), (.int p2)]), .inr (.long, [(.long p3), (.long p4)]), .inr (.long, [(.long p4), (.long p3)]), .inr (.int, [(.int p2), (.int (own_selI I0 p0 p1)), (.int (own_selI I1 p0 p1)), oz]), .inr (.int, [(.int p0), (.int (own_selI I0 p1 p2)), (.int (own_selI I1 p1 p2)), oz]), .inr (.long, [(.long (p3 ^^^ (-1 : Int64))), (.long (own_selJ I0 p3 p4)), (.long (own_selJ I1 p3 p4)), ol]), .inr (.long, [(.long (p4 ^^^ (-1 : Int64))), (.long (own_selJ I0 p4 p3)), (.long (own_selJ I1 p4 p3)), ol]), .inl (0, [(rf n0 10), (rf n0 11), (rf n0 12), (rf n0 13), (.int (1 : Int32))]), .inr (.int, [(.int p0), oz]), .inr (.int, [(.int p1), oz]), .inr (.long, [(.long p3), ol]), .inr (.long, [(.long p4), ol])]) := by
  refine Met.of (a0 := a0) (ls := #[.val (rf n0 9), .val (.int p0), .val (.int p1), .val (.long p3), .second, .val (.long p4), .second]) (kok hw) (plainFor_of_name pn_8) (fun m => by first | (simp [entryFrame, mkF, argsToLocals, Value.category]; done) | rfl) (fun G H => ?_)
  refine H.aloadN s4_0 rfl rfl ?_
  refine H.getfield s4_1 (k_10 hw) (i := 9) rfl rfl ?_
  refine H.aloadN s4_4 rfl rfl ?_
  refine H.getfield s4_5 (k_11 hw) (i := 9) rfl rfl ?_
  refine H.iloadN s4_8 rfl ?_
  refine H.iastore s4_9 (i := 10) (j := 0) rfl (by decide) (ltb rfl)  rfl ?_
  refine H.aloadN s4_10 rfl rfl ?_
  refine H.getfield s4_11 (k_12 hw) (i := 9) rfl rfl ?_
  refine H.aloadN s4_14 rfl rfl ?_
  refine H.getfield s4_15 (k_11 hw) (i := 9) rfl rfl ?_
  refine H.iloadN s4_18 rfl ?_
  refine H.iastore s4_19 (i := 11) (j := 0) rfl (by decide) (ltb rfl)  rfl ?_
  refine H.aloadN s4_20 rfl rfl ?_
  refine H.getfield s4_21 (k_13 hw) (i := 9) rfl rfl ?_
  refine H.aloadN s4_24 rfl rfl ?_
  refine H.getfield s4_25 (k_11 hw) (i := 9) rfl rfl ?_
  refine H.lloadN s4_28 rfl ?_
  refine H.lastore s4_29 (i := 12) (j := 0) rfl (by decide) (ltb rfl)  rfl ?_
  refine H.aloadN s4_30 rfl rfl ?_
  refine H.getfield s4_31 (k_14 hw) (i := 9) rfl rfl ?_
  refine H.aloadN s4_34 rfl rfl ?_
  refine H.getfield s4_35 (k_11 hw) (i := 9) rfl rfl ?_
  refine H.lload s4_38 rfl ?_
  refine H.lastore s4_40 (i := 13) (j := 0) rfl (by decide) (ltb rfl)  rfl ?_
  refine H.aloadN s4_41 rfl rfl ?_
  refine H.dup s4_42 rfl ?_
  refine H.getfield s4_43 (k_11 hw) (i := 9) rfl rfl ?_
  refine H.iconst s4_46 (v := (1 : Int32)) (by decide) ?_
  refine H.iadd s4_47 (w := (1 : Int32)) (by decide) ?_
  refine H.putfield s4_48 (k_15 hw) (i := 9) rfl rfl rfl rfl ?_
  exact H.vreturn s4_51 rfl ⟨rfl, rfl⟩ (by decide) (by decide)


set_option maxRecDepth 65536 in
set_option maxHeartbeats 40000000 in
theorem a_97 (l : Launch) {Z : State} {a0 : Array Value} (hw : HW1 Z a0) (n0 : Nat) (p0 : Int32) (p1 : Int32) (p2 : Int32) (p3 : Int64) (p4 : Int64) (i0 : Int32) (i1 : Int32) (I0 : Nat) (I1 : Nat) : Met l Z KT n0 y4 prog_15_method_2_code 7 none ({ frames := 0, cells := 0, slots := 0, locals := 0 } : Room) #[(rf n0 9), (.int p1), (.int p2), (.long p4), (.long p3)] [.inr (.int, [(.int i0), (.int i1)]), .inr (.int, [(.int p0), (.int p1)]), .inr (.int, [(.int p1), (.int p2)]), .inr (.long, [(.long p3), (.long p4)]), .inr (.long, [(.long p4), (.long p3)]), .inr (.int, [(.int p2), (.int (own_selI I0 p0 p1)), (.int (own_selI I1 p0 p1)), oz]), .inr (.int, [(.int p0), (.int (own_selI I0 p1 p2)), (.int (own_selI I1 p1 p2)), oz]), .inr (.long, [(.long (p3 ^^^ (-1 : Int64))), (.long (own_selJ I0 p3 p4)), (.long (own_selJ I1 p3 p4)), ol]), .inr (.long, [(.long (p4 ^^^ (-1 : Int64))), (.long (own_selJ I0 p4 p3)), (.long (own_selJ I1 p4 p3)), ol]), .inl (0, [(rf n0 10), (rf n0 11), (rf n0 12), (rf n0 13), (.int (1 : Int32))]), .inr (.int, [(.int p0), oz]), .inr (.int, [(.int p1), oz]), .inr (.long, [(.long p3), ol]), .inr (.long, [(.long p4), ol])] (Is none [.inr (.int, [(.int i0), (.int i1)]), .inr (.int, [(.int p0), (.int p1)]), .inr (.int, [(.int p1), (.int p2)]), .inr (.long, [(.long p3), (.long p4)]), .inr (.long, [(.long p4), (.long p3)]), .inr (.int, [(.int p2), (.int (own_selI I0 p0 p1)), (.int (own_selI I1 p0 p1)), oz]), .inr (.int, [(.int p0), (.int (own_selI I0 p1 p2)), (.int (own_selI I1 p1 p2)), oz]), .inr (.long, [(.long (p3 ^^^ (-1 : Int64))), (.long (own_selJ I0 p3 p4)), (.long (own_selJ I1 p3 p4)), ol]), .inr (.long, [(.long (p4 ^^^ (-1 : Int64))), (.long (own_selJ I0 p4 p3)), (.long (own_selJ I1 p4 p3)), ol]), .inl (0, [(rf n0 10), (rf n0 11), (rf n0 12), (rf n0 13), (.int (2 : Int32))]), .inr (.int, [(.int p0), (.int p1)]), .inr (.int, [(.int p1), (.int p2)]), .inr (.long, [(.long p3), (.long p4)]), .inr (.long, [(.long p4), (.long p3)])]) := by
  refine Met.of (a0 := a0) (ls := #[.val (rf n0 9), .val (.int p1), .val (.int p2), .val (.long p4), .second, .val (.long p3), .second]) (kok hw) (plainFor_of_name pn_8) (fun m => by first | (simp [entryFrame, mkF, argsToLocals, Value.category]; done) | rfl) (fun G H => ?_)
  refine H.aloadN s4_0 rfl rfl ?_
  refine H.getfield s4_1 (k_10 hw) (i := 9) rfl rfl ?_
  refine H.aloadN s4_4 rfl rfl ?_
  refine H.getfield s4_5 (k_11 hw) (i := 9) rfl rfl ?_
  refine H.iloadN s4_8 rfl ?_
  refine H.iastore s4_9 (i := 10) (j := 1) rfl (by decide) (ltb rfl)  rfl ?_
  refine H.aloadN s4_10 rfl rfl ?_
  refine H.getfield s4_11 (k_12 hw) (i := 9) rfl rfl ?_
  refine H.aloadN s4_14 rfl rfl ?_
  refine H.getfield s4_15 (k_11 hw) (i := 9) rfl rfl ?_
  refine H.iloadN s4_18 rfl ?_
  refine H.iastore s4_19 (i := 11) (j := 1) rfl (by decide) (ltb rfl)  rfl ?_
  refine H.aloadN s4_20 rfl rfl ?_
  refine H.getfield s4_21 (k_13 hw) (i := 9) rfl rfl ?_
  refine H.aloadN s4_24 rfl rfl ?_
  refine H.getfield s4_25 (k_11 hw) (i := 9) rfl rfl ?_
  refine H.lloadN s4_28 rfl ?_
  refine H.lastore s4_29 (i := 12) (j := 1) rfl (by decide) (ltb rfl)  rfl ?_
  refine H.aloadN s4_30 rfl rfl ?_
  refine H.getfield s4_31 (k_14 hw) (i := 9) rfl rfl ?_
  refine H.aloadN s4_34 rfl rfl ?_
  refine H.getfield s4_35 (k_11 hw) (i := 9) rfl rfl ?_
  refine H.lload s4_38 rfl ?_
  refine H.lastore s4_40 (i := 13) (j := 1) rfl (by decide) (ltb rfl)  rfl ?_
  refine H.aloadN s4_41 rfl rfl ?_
  refine H.dup s4_42 rfl ?_
  refine H.getfield s4_43 (k_11 hw) (i := 9) rfl rfl ?_
  refine H.iconst s4_46 (v := (1 : Int32)) (by decide) ?_
  refine H.iadd s4_47 (w := (2 : Int32)) (by decide) ?_
  refine H.putfield s4_48 (k_15 hw) (i := 9) rfl rfl rfl rfl ?_
  exact H.vreturn s4_51 rfl ⟨rfl, rfl⟩ (by decide) (by decide)


set_option maxRecDepth 65536 in
set_option maxHeartbeats 40000000 in
theorem a_98 (l : Launch) {Z : State} {a0 : Array Value} (hw : HW1 Z a0) (n0 : Nat) (p0 : Int32) (p1 : Int32) (p2 : Int32) (p3 : Int64) (p4 : Int64) (i0 : Int32) (i1 : Int32) (I0 : Nat) (I1 : Nat) : Met l Z KT n0 y2 prog_15_method_1_code 2 none ({ frames := 1, cells := 4, slots := 16, locals := 12 } : Room) #[(rf n0 14), (.int (4 : Int32))] [.inr (.int, [(.int i0), (.int i1)]), .inr (.int, [(.int p0), (.int p1)]), .inr (.int, [(.int p1), (.int p2)]), .inr (.long, [(.long p3), (.long p4)]), .inr (.long, [(.long p4), (.long p3)]), .inr (.int, [(.int p2), (.int (own_selI I0 p0 p1)), (.int (own_selI I1 p0 p1)), oz]), .inr (.int, [(.int p0), (.int (own_selI I0 p1 p2)), (.int (own_selI I1 p1 p2)), oz]), .inr (.long, [(.long (p3 ^^^ (-1 : Int64))), (.long (own_selJ I0 p3 p4)), (.long (own_selJ I1 p3 p4)), ol]), .inr (.long, [(.long (p4 ^^^ (-1 : Int64))), (.long (own_selJ I0 p4 p3)), (.long (own_selJ I1 p4 p3)), ol]), .inl (0, [(rf n0 10), (rf n0 11), (rf n0 12), (rf n0 13), (.int (2 : Int32))]), .inr (.int, [(.int p0), (.int p1)]), .inr (.int, [(.int p1), (.int p2)]), .inr (.long, [(.long p3), (.long p4)]), .inr (.long, [(.long p4), (.long p3)]), .inl (0, [.null, .null, .null, .null, oz])] (Is none [.inr (.int, [(.int i0), (.int i1)]), .inr (.int, [(.int p0), (.int p1)]), .inr (.int, [(.int p1), (.int p2)]), .inr (.long, [(.long p3), (.long p4)]), .inr (.long, [(.long p4), (.long p3)]), .inr (.int, [(.int p2), (.int (own_selI I0 p0 p1)), (.int (own_selI I1 p0 p1)), oz]), .inr (.int, [(.int p0), (.int (own_selI I0 p1 p2)), (.int (own_selI I1 p1 p2)), oz]), .inr (.long, [(.long (p3 ^^^ (-1 : Int64))), (.long (own_selJ I0 p3 p4)), (.long (own_selJ I1 p3 p4)), ol]), .inr (.long, [(.long (p4 ^^^ (-1 : Int64))), (.long (own_selJ I0 p4 p3)), (.long (own_selJ I1 p4 p3)), ol]), .inl (0, [(rf n0 10), (rf n0 11), (rf n0 12), (rf n0 13), (.int (2 : Int32))]), .inr (.int, [(.int p0), (.int p1)]), .inr (.int, [(.int p1), (.int p2)]), .inr (.long, [(.long p3), (.long p4)]), .inr (.long, [(.long p4), (.long p3)]), .inl (0, [(rf n0 15), (rf n0 16), (rf n0 17), (rf n0 18), oz]), .inr (.int, [oz, oz, oz, oz]), .inr (.int, [oz, oz, oz, oz]), .inr (.long, [ol, ol, ol, ol]), .inr (.long, [ol, ol, ol, ol])]) := by
  refine Met.of (a0 := a0) (ls := #[.val (rf n0 14), .val (.int (4 : Int32))]) (kok hw) (plainFor_of_name pn_8) (fun m => by first | (simp [entryFrame, mkF, argsToLocals, Value.category]; done) | rfl) (fun G H => ?_)
  refine H.aloadN s2_0 rfl rfl ?_
  refine H.initO s2_1 (k_3 hw) rfl (leb rfl) (leb rfl) ?_
  refine H.aloadN s2_4 rfl rfl ?_
  refine H.iloadN s2_5 rfl ?_
  refine H.newarray s2_6 (ty := .int) rfl (k_0 hw) (N := 4) (cap := 4) (by decide) rfl (by decide) (by decide) (by first | rfl | simp) (by decide) (by decide) (i := 15) rfl (A' := [.inr (.int, [(.int i0), (.int i1)]), .inr (.int, [(.int p0), (.int p1)]), .inr (.int, [(.int p1), (.int p2)]), .inr (.long, [(.long p3), (.long p4)]), .inr (.long, [(.long p4), (.long p3)]), .inr (.int, [(.int p2), (.int (own_selI I0 p0 p1)), (.int (own_selI I1 p0 p1)), oz]), .inr (.int, [(.int p0), (.int (own_selI I0 p1 p2)), (.int (own_selI I1 p1 p2)), oz]), .inr (.long, [(.long (p3 ^^^ (-1 : Int64))), (.long (own_selJ I0 p3 p4)), (.long (own_selJ I1 p3 p4)), ol]), .inr (.long, [(.long (p4 ^^^ (-1 : Int64))), (.long (own_selJ I0 p4 p3)), (.long (own_selJ I1 p4 p3)), ol]), .inl (0, [(rf n0 10), (rf n0 11), (rf n0 12), (rf n0 13), (.int (2 : Int32))]), .inr (.int, [(.int p0), (.int p1)]), .inr (.int, [(.int p1), (.int p2)]), .inr (.long, [(.long p3), (.long p4)]), .inr (.long, [(.long p4), (.long p3)]), .inl (0, [.null, .null, .null, .null, oz]), .inr (.int, [oz, oz, oz, oz])]) rfl (k' := 1) rfl (n' := 4) rfl ?_
  refine H.putfield s2_8 (k_4 hw) (i := 14) rfl rfl rfl rfl ?_
  refine H.aloadN s2_11 rfl rfl ?_
  refine H.iloadN s2_12 rfl ?_
  refine H.newarray s2_13 (ty := .int) rfl (k_0 hw) (N := 4) (cap := 4) (by decide) rfl (by decide) (by decide) (by first | rfl | simp) (by decide) (by decide) (i := 16) rfl (A' := [.inr (.int, [(.int i0), (.int i1)]), .inr (.int, [(.int p0), (.int p1)]), .inr (.int, [(.int p1), (.int p2)]), .inr (.long, [(.long p3), (.long p4)]), .inr (.long, [(.long p4), (.long p3)]), .inr (.int, [(.int p2), (.int (own_selI I0 p0 p1)), (.int (own_selI I1 p0 p1)), oz]), .inr (.int, [(.int p0), (.int (own_selI I0 p1 p2)), (.int (own_selI I1 p1 p2)), oz]), .inr (.long, [(.long (p3 ^^^ (-1 : Int64))), (.long (own_selJ I0 p3 p4)), (.long (own_selJ I1 p3 p4)), ol]), .inr (.long, [(.long (p4 ^^^ (-1 : Int64))), (.long (own_selJ I0 p4 p3)), (.long (own_selJ I1 p4 p3)), ol]), .inl (0, [(rf n0 10), (rf n0 11), (rf n0 12), (rf n0 13), (.int (2 : Int32))]), .inr (.int, [(.int p0), (.int p1)]), .inr (.int, [(.int p1), (.int p2)]), .inr (.long, [(.long p3), (.long p4)]), .inr (.long, [(.long p4), (.long p3)]), .inl (0, [(rf n0 15), .null, .null, .null, oz]), .inr (.int, [oz, oz, oz, oz]), .inr (.int, [oz, oz, oz, oz])]) rfl (k' := 2) rfl (n' := 8) rfl ?_
  refine H.putfield s2_15 (k_5 hw) (i := 14) rfl rfl rfl rfl ?_
  refine H.aloadN s2_18 rfl rfl ?_
  refine H.iloadN s2_19 rfl ?_
  refine H.newarray s2_20 (ty := .long) rfl (k_1 hw) (N := 4) (cap := 4) (by decide) rfl (by decide) (by decide) (by first | rfl | simp) (by decide) (by decide) (i := 17) rfl (A' := [.inr (.int, [(.int i0), (.int i1)]), .inr (.int, [(.int p0), (.int p1)]), .inr (.int, [(.int p1), (.int p2)]), .inr (.long, [(.long p3), (.long p4)]), .inr (.long, [(.long p4), (.long p3)]), .inr (.int, [(.int p2), (.int (own_selI I0 p0 p1)), (.int (own_selI I1 p0 p1)), oz]), .inr (.int, [(.int p0), (.int (own_selI I0 p1 p2)), (.int (own_selI I1 p1 p2)), oz]), .inr (.long, [(.long (p3 ^^^ (-1 : Int64))), (.long (own_selJ I0 p3 p4)), (.long (own_selJ I1 p3 p4)), ol]), .inr (.long, [(.long (p4 ^^^ (-1 : Int64))), (.long (own_selJ I0 p4 p3)), (.long (own_selJ I1 p4 p3)), ol]), .inl (0, [(rf n0 10), (rf n0 11), (rf n0 12), (rf n0 13), (.int (2 : Int32))]), .inr (.int, [(.int p0), (.int p1)]), .inr (.int, [(.int p1), (.int p2)]), .inr (.long, [(.long p3), (.long p4)]), .inr (.long, [(.long p4), (.long p3)]), .inl (0, [(rf n0 15), (rf n0 16), .null, .null, oz]), .inr (.int, [oz, oz, oz, oz]), .inr (.int, [oz, oz, oz, oz]), .inr (.long, [ol, ol, ol, ol])]) rfl (k' := 3) rfl (n' := 12) rfl ?_
  refine H.putfield s2_22 (k_6 hw) (i := 14) rfl rfl rfl rfl ?_
  refine H.aloadN s2_25 rfl rfl ?_
  refine H.iloadN s2_26 rfl ?_
  refine H.newarray s2_27 (ty := .long) rfl (k_1 hw) (N := 4) (cap := 4) (by decide) rfl (by decide) (by decide) (by first | rfl | simp) (by decide) (by decide) (i := 18) rfl (A' := [.inr (.int, [(.int i0), (.int i1)]), .inr (.int, [(.int p0), (.int p1)]), .inr (.int, [(.int p1), (.int p2)]), .inr (.long, [(.long p3), (.long p4)]), .inr (.long, [(.long p4), (.long p3)]), .inr (.int, [(.int p2), (.int (own_selI I0 p0 p1)), (.int (own_selI I1 p0 p1)), oz]), .inr (.int, [(.int p0), (.int (own_selI I0 p1 p2)), (.int (own_selI I1 p1 p2)), oz]), .inr (.long, [(.long (p3 ^^^ (-1 : Int64))), (.long (own_selJ I0 p3 p4)), (.long (own_selJ I1 p3 p4)), ol]), .inr (.long, [(.long (p4 ^^^ (-1 : Int64))), (.long (own_selJ I0 p4 p3)), (.long (own_selJ I1 p4 p3)), ol]), .inl (0, [(rf n0 10), (rf n0 11), (rf n0 12), (rf n0 13), (.int (2 : Int32))]), .inr (.int, [(.int p0), (.int p1)]), .inr (.int, [(.int p1), (.int p2)]), .inr (.long, [(.long p3), (.long p4)]), .inr (.long, [(.long p4), (.long p3)]), .inl (0, [(rf n0 15), (rf n0 16), (rf n0 17), .null, oz]), .inr (.int, [oz, oz, oz, oz]), .inr (.int, [oz, oz, oz, oz]), .inr (.long, [ol, ol, ol, ol]), .inr (.long, [ol, ol, ol, ol])]) rfl (k' := 4) rfl (n' := 16) rfl ?_
  refine H.putfield s2_29 (k_7 hw) (i := 14) rfl rfl rfl rfl ?_
  exact H.vreturn s2_32 rfl ⟨rfl, rfl⟩ (by decide) (by decide)


set_option maxRecDepth 65536 in
set_option maxHeartbeats 40000000 in
theorem a_99 (l : Launch) {Z : State} {a0 : Array Value} (hw : HW1 Z a0) (n0 : Nat) (p0 : Int32) (p1 : Int32) (p2 : Int32) (p3 : Int64) (p4 : Int64) (i0 : Int32) (i1 : Int32) (I0 : Nat) (I1 : Nat) : Met l Z KT n0 y4 prog_15_method_2_code 7 none ({ frames := 0, cells := 0, slots := 0, locals := 0 } : Room) #[(rf n0 14), (.int p2), (.int p0), (.long (p3 ^^^ (-1 : Int64))), (.long (p4 ^^^ (-1 : Int64)))] [.inr (.int, [(.int i0), (.int i1)]), .inr (.int, [(.int p0), (.int p1)]), .inr (.int, [(.int p1), (.int p2)]), .inr (.long, [(.long p3), (.long p4)]), .inr (.long, [(.long p4), (.long p3)]), .inr (.int, [(.int p2), (.int (own_selI I0 p0 p1)), (.int (own_selI I1 p0 p1)), oz]), .inr (.int, [(.int p0), (.int (own_selI I0 p1 p2)), (.int (own_selI I1 p1 p2)), oz]), .inr (.long, [(.long (p3 ^^^ (-1 : Int64))), (.long (own_selJ I0 p3 p4)), (.long (own_selJ I1 p3 p4)), ol]), .inr (.long, [(.long (p4 ^^^ (-1 : Int64))), (.long (own_selJ I0 p4 p3)), (.long (own_selJ I1 p4 p3)), ol]), .inl (0, [(rf n0 10), (rf n0 11), (rf n0 12), (rf n0 13), (.int (2 : Int32))]), .inr (.int, [(.int p0), (.int p1)]), .inr (.int, [(.int p1), (.int p2)]), .inr (.long, [(.long p3), (.long p4)]), .inr (.long, [(.long p4), (.long p3)]), .inl (0, [(rf n0 15), (rf n0 16), (rf n0 17), (rf n0 18), oz]), .inr (.int, [oz, oz, oz, oz]), .inr (.int, [oz, oz, oz, oz]), .inr (.long, [ol, ol, ol, ol]), .inr (.long, [ol, ol, ol, ol])] (Is none [.inr (.int, [(.int i0), (.int i1)]), .inr (.int, [(.int p0), (.int p1)]), .inr (.int, [(.int p1), (.int p2)]), .inr (.long, [(.long p3), (.long p4)]), .inr (.long, [(.long p4), (.long p3)]), .inr (.int, [(.int p2), (.int (own_selI I0 p0 p1)), (.int (own_selI I1 p0 p1)), oz]), .inr (.int, [(.int p0), (.int (own_selI I0 p1 p2)), (.int (own_selI I1 p1 p2)), oz]), .inr (.long, [(.long (p3 ^^^ (-1 : Int64))), (.long (own_selJ I0 p3 p4)), (.long (own_selJ I1 p3 p4)), ol]), .inr (.long, [(.long (p4 ^^^ (-1 : Int64))), (.long (own_selJ I0 p4 p3)), (.long (own_selJ I1 p4 p3)), ol]), .inl (0, [(rf n0 10), (rf n0 11), (rf n0 12), (rf n0 13), (.int (2 : Int32))]), .inr (.int, [(.int p0), (.int p1)]), .inr (.int, [(.int p1), (.int p2)]), .inr (.long, [(.long p3), (.long p4)]), .inr (.long, [(.long p4), (.long p3)]), .inl (0, [(rf n0 15), (rf n0 16), (rf n0 17), (rf n0 18), (.int (1 : Int32))]), .inr (.int, [(.int p2), oz, oz, oz]), .inr (.int, [(.int p0), oz, oz, oz]), .inr (.long, [(.long (p3 ^^^ (-1 : Int64))), ol, ol, ol]), .inr (.long, [(.long (p4 ^^^ (-1 : Int64))), ol, ol, ol])]) := by
  refine Met.of (a0 := a0) (ls := #[.val (rf n0 14), .val (.int p2), .val (.int p0), .val (.long (p3 ^^^ (-1 : Int64))), .second, .val (.long (p4 ^^^ (-1 : Int64))), .second]) (kok hw) (plainFor_of_name pn_8) (fun m => by first | (simp [entryFrame, mkF, argsToLocals, Value.category]; done) | rfl) (fun G H => ?_)
  refine H.aloadN s4_0 rfl rfl ?_
  refine H.getfield s4_1 (k_10 hw) (i := 14) rfl rfl ?_
  refine H.aloadN s4_4 rfl rfl ?_
  refine H.getfield s4_5 (k_11 hw) (i := 14) rfl rfl ?_
  refine H.iloadN s4_8 rfl ?_
  refine H.iastore s4_9 (i := 15) (j := 0) rfl (by decide) (ltb rfl)  rfl ?_
  refine H.aloadN s4_10 rfl rfl ?_
  refine H.getfield s4_11 (k_12 hw) (i := 14) rfl rfl ?_
  refine H.aloadN s4_14 rfl rfl ?_
  refine H.getfield s4_15 (k_11 hw) (i := 14) rfl rfl ?_
  refine H.iloadN s4_18 rfl ?_
  refine H.iastore s4_19 (i := 16) (j := 0) rfl (by decide) (ltb rfl)  rfl ?_
  refine H.aloadN s4_20 rfl rfl ?_
  refine H.getfield s4_21 (k_13 hw) (i := 14) rfl rfl ?_
  refine H.aloadN s4_24 rfl rfl ?_
  refine H.getfield s4_25 (k_11 hw) (i := 14) rfl rfl ?_
  refine H.lloadN s4_28 rfl ?_
  refine H.lastore s4_29 (i := 17) (j := 0) rfl (by decide) (ltb rfl)  rfl ?_
  refine H.aloadN s4_30 rfl rfl ?_
  refine H.getfield s4_31 (k_14 hw) (i := 14) rfl rfl ?_
  refine H.aloadN s4_34 rfl rfl ?_
  refine H.getfield s4_35 (k_11 hw) (i := 14) rfl rfl ?_
  refine H.lload s4_38 rfl ?_
  refine H.lastore s4_40 (i := 18) (j := 0) rfl (by decide) (ltb rfl)  rfl ?_
  refine H.aloadN s4_41 rfl rfl ?_
  refine H.dup s4_42 rfl ?_
  refine H.getfield s4_43 (k_11 hw) (i := 14) rfl rfl ?_
  refine H.iconst s4_46 (v := (1 : Int32)) (by decide) ?_
  refine H.iadd s4_47 (w := (1 : Int32)) (by decide) ?_
  refine H.putfield s4_48 (k_15 hw) (i := 14) rfl rfl rfl rfl ?_
  exact H.vreturn s4_51 rfl ⟨rfl, rfl⟩ (by decide) (by decide)


set_option maxRecDepth 65536 in
set_option maxHeartbeats 40000000 in
theorem a_100 (l : Launch) {Z : State} {a0 : Array Value} (hw : HW1 Z a0) (n0 : Nat) (p0 : Int32) (p1 : Int32) (p2 : Int32) (p3 : Int64) (p4 : Int64) (i0 : Int32) (i1 : Int32) (I0 : Nat) (I1 : Nat) (hI0 : i0.toInt = (I0 : Int)) (lI0 : I0 < 2) (hI1 : i1.toInt = (I1 : Int)) (lI1 : I1 < 2) : Met l Z KT n0 y5 prog_15_method_4_code 5 none ({ frames := 0, cells := 0, slots := 0, locals := 0 } : Room) #[(rf n0 14), (rf n0 9), (rf n0 0)] [.inr (.int, [(.int i0), (.int i1)]), .inr (.int, [(.int p0), (.int p1)]), .inr (.int, [(.int p1), (.int p2)]), .inr (.long, [(.long p3), (.long p4)]), .inr (.long, [(.long p4), (.long p3)]), .inr (.int, [(.int p2), (.int (own_selI I0 p0 p1)), (.int (own_selI I1 p0 p1)), oz]), .inr (.int, [(.int p0), (.int (own_selI I0 p1 p2)), (.int (own_selI I1 p1 p2)), oz]), .inr (.long, [(.long (p3 ^^^ (-1 : Int64))), (.long (own_selJ I0 p3 p4)), (.long (own_selJ I1 p3 p4)), ol]), .inr (.long, [(.long (p4 ^^^ (-1 : Int64))), (.long (own_selJ I0 p4 p3)), (.long (own_selJ I1 p4 p3)), ol]), .inl (0, [(rf n0 10), (rf n0 11), (rf n0 12), (rf n0 13), (.int (2 : Int32))]), .inr (.int, [(.int p0), (.int p1)]), .inr (.int, [(.int p1), (.int p2)]), .inr (.long, [(.long p3), (.long p4)]), .inr (.long, [(.long p4), (.long p3)]), .inl (0, [(rf n0 15), (rf n0 16), (rf n0 17), (rf n0 18), (.int (1 : Int32))]), .inr (.int, [(.int p2), oz, oz, oz]), .inr (.int, [(.int p0), oz, oz, oz]), .inr (.long, [(.long (p3 ^^^ (-1 : Int64))), ol, ol, ol]), .inr (.long, [(.long (p4 ^^^ (-1 : Int64))), ol, ol, ol])] (Is none [.inr (.int, [(.int i0), (.int i1)]), .inr (.int, [(.int p0), (.int p1)]), .inr (.int, [(.int p1), (.int p2)]), .inr (.long, [(.long p3), (.long p4)]), .inr (.long, [(.long p4), (.long p3)]), .inr (.int, [(.int p2), (.int (own_selI I0 p0 p1)), (.int (own_selI I1 p0 p1)), oz]), .inr (.int, [(.int p0), (.int (own_selI I0 p1 p2)), (.int (own_selI I1 p1 p2)), oz]), .inr (.long, [(.long (p3 ^^^ (-1 : Int64))), (.long (own_selJ I0 p3 p4)), (.long (own_selJ I1 p3 p4)), ol]), .inr (.long, [(.long (p4 ^^^ (-1 : Int64))), (.long (own_selJ I0 p4 p3)), (.long (own_selJ I1 p4 p3)), ol]), .inl (0, [(rf n0 10), (rf n0 11), (rf n0 12), (rf n0 13), (.int (2 : Int32))]), .inr (.int, [(.int p0), (.int p1)]), .inr (.int, [(.int p1), (.int p2)]), .inr (.long, [(.long p3), (.long p4)]), .inr (.long, [(.long p4), (.long p3)]), .inl (0, [(rf n0 15), (rf n0 16), (rf n0 17), (rf n0 18), (.int (3 : Int32))]), .inr (.int, [(.int p2), (.int (own_selI I0 p0 p1)), (.int (own_selI I1 p0 p1)), oz]), .inr (.int, [(.int p0), (.int (own_selI I0 p1 p2)), (.int (own_selI I1 p1 p2)), oz]), .inr (.long, [(.long (p3 ^^^ (-1 : Int64))), (.long (own_selJ I0 p3 p4)), (.long (own_selJ I1 p3 p4)), ol]), .inr (.long, [(.long (p4 ^^^ (-1 : Int64))), (.long (own_selJ I0 p4 p3)), (.long (own_selJ I1 p4 p3)), ol])]) := by
  refine Met.of (a0 := a0) (ls := #[.val (rf n0 14), .val (rf n0 9), .val (rf n0 0), .unset, .unset]) (kok hw) (plainFor_of_name pn_8) (fun m => by first | (simp [entryFrame, mkF, argsToLocals, Value.category]; done) | rfl) (fun G H => ?_)
  refine H.iconst s5_0 (v := (0 : Int32)) (by decide) ?_
  refine H.istoreN s5_1 (ls' := #[.val (rf n0 14), .val (rf n0 9), .val (rf n0 0), .val oz, .unset]) rfl ?_
  refine H.iloadN s5_2 rfl ?_
  refine H.aloadN s5_3 rfl rfl ?_
  refine H.arraylength s5_4 (i := 0) rfl (z := (2 : Int32)) rfl ?_
  refine H.icmpF s5_5 (show (0 : Int32) < (2 : Int32) by decide) ?_
  refine H.aloadN s5_8 rfl rfl ?_
  refine H.iloadN s5_9 rfl ?_
  refine H.iaload s5_10 (i := 0) (j := 0) rfl (by decide) (v := (.int i0)) rfl ?_
  refine H.istore s5_11 (ls' := #[.val (rf n0 14), .val (rf n0 9), .val (rf n0 0), .val oz, .val (.int i0)]) rfl ?_
  refine H.aloadN s5_13 rfl rfl ?_
  refine H.getfield s5_14 (k_10 hw) (i := 14) rfl rfl ?_
  refine H.aloadN s5_17 rfl rfl ?_
  refine H.getfield s5_18 (k_11 hw) (i := 14) rfl rfl ?_
  refine H.iloadN s5_21 rfl ?_
  refine H.iadd s5_22 (w := (1 : Int32)) (by decide) ?_
  refine H.aloadN s5_23 rfl rfl ?_
  refine H.getfield s5_24 (k_10 hw) (i := 9) rfl rfl ?_
  refine H.iload s5_27 rfl ?_
  refine H.iaload s5_29 (i := 10) (j := I0) rfl hI0 (v := (.int (own_selI I0 p0 p1))) (own_gI lI0) ?_
  refine H.iastore s5_30 (i := 15) (j := 1) rfl (by decide) (ltb rfl)  rfl ?_
  refine H.aloadN s5_31 rfl rfl ?_
  refine H.getfield s5_32 (k_12 hw) (i := 14) rfl rfl ?_
  refine H.aloadN s5_35 rfl rfl ?_
  refine H.getfield s5_36 (k_11 hw) (i := 14) rfl rfl ?_
  refine H.iloadN s5_39 rfl ?_
  refine H.iadd s5_40 (w := (1 : Int32)) (by decide) ?_
  refine H.aloadN s5_41 rfl rfl ?_
  refine H.getfield s5_42 (k_12 hw) (i := 9) rfl rfl ?_
  refine H.iload s5_45 rfl ?_
  refine H.iaload s5_47 (i := 11) (j := I0) rfl hI0 (v := (.int (own_selI I0 p1 p2))) (own_gI lI0) ?_
  refine H.iastore s5_48 (i := 16) (j := 1) rfl (by decide) (ltb rfl)  rfl ?_
  refine H.aloadN s5_49 rfl rfl ?_
  refine H.getfield s5_50 (k_13 hw) (i := 14) rfl rfl ?_
  refine H.aloadN s5_53 rfl rfl ?_
  refine H.getfield s5_54 (k_11 hw) (i := 14) rfl rfl ?_
  refine H.iloadN s5_57 rfl ?_
  refine H.iadd s5_58 (w := (1 : Int32)) (by decide) ?_
  refine H.aloadN s5_59 rfl rfl ?_
  refine H.getfield s5_60 (k_13 hw) (i := 9) rfl rfl ?_
  refine H.iload s5_63 rfl ?_
  refine H.laload s5_65 (i := 12) (j := I0) rfl hI0 (v := (.long (own_selJ I0 p3 p4))) (own_gJ lI0) ?_
  refine H.lastore s5_66 (i := 17) (j := 1) rfl (by decide) (ltb rfl)  rfl ?_
  refine H.aloadN s5_67 rfl rfl ?_
  refine H.getfield s5_68 (k_14 hw) (i := 14) rfl rfl ?_
  refine H.aloadN s5_71 rfl rfl ?_
  refine H.getfield s5_72 (k_11 hw) (i := 14) rfl rfl ?_
  refine H.iloadN s5_75 rfl ?_
  refine H.iadd s5_76 (w := (1 : Int32)) (by decide) ?_
  refine H.aloadN s5_77 rfl rfl ?_
  refine H.getfield s5_78 (k_14 hw) (i := 9) rfl rfl ?_
  refine H.iload s5_81 rfl ?_
  refine H.laload s5_83 (i := 13) (j := I0) rfl hI0 (v := (.long (own_selJ I0 p4 p3))) (own_gJ lI0) ?_
  refine H.lastore s5_84 (i := 18) (j := 1) rfl (by decide) (ltb rfl)  rfl ?_
  refine H.iinc s5_85 rfl (w := (1 : Int32)) (by decide) (ls' := #[.val (rf n0 14), .val (rf n0 9), .val (rf n0 0), .val (.int (1 : Int32)), .val (.int i0)]) rfl ?_
  refine H.goto s5_88 ?_
  refine H.iloadN s5_2 rfl ?_
  refine H.aloadN s5_3 rfl rfl ?_
  refine H.arraylength s5_4 (i := 0) rfl (z := (2 : Int32)) rfl ?_
  refine H.icmpF s5_5 (show (1 : Int32) < (2 : Int32) by decide) ?_
  refine H.aloadN s5_8 rfl rfl ?_
  refine H.iloadN s5_9 rfl ?_
  refine H.iaload s5_10 (i := 0) (j := 1) rfl (by decide) (v := (.int i1)) rfl ?_
  refine H.istore s5_11 (ls' := #[.val (rf n0 14), .val (rf n0 9), .val (rf n0 0), .val (.int (1 : Int32)), .val (.int i1)]) rfl ?_
  refine H.aloadN s5_13 rfl rfl ?_
  refine H.getfield s5_14 (k_10 hw) (i := 14) rfl rfl ?_
  refine H.aloadN s5_17 rfl rfl ?_
  refine H.getfield s5_18 (k_11 hw) (i := 14) rfl rfl ?_
  refine H.iloadN s5_21 rfl ?_
  refine H.iadd s5_22 (w := (2 : Int32)) (by decide) ?_
  refine H.aloadN s5_23 rfl rfl ?_
  refine H.getfield s5_24 (k_10 hw) (i := 9) rfl rfl ?_
  refine H.iload s5_27 rfl ?_
  refine H.iaload s5_29 (i := 10) (j := I1) rfl hI1 (v := (.int (own_selI I1 p0 p1))) (own_gI lI1) ?_
  refine H.iastore s5_30 (i := 15) (j := 2) rfl (by decide) (ltb rfl)  rfl ?_
  refine H.aloadN s5_31 rfl rfl ?_
  refine H.getfield s5_32 (k_12 hw) (i := 14) rfl rfl ?_
  refine H.aloadN s5_35 rfl rfl ?_
  refine H.getfield s5_36 (k_11 hw) (i := 14) rfl rfl ?_
  refine H.iloadN s5_39 rfl ?_
  refine H.iadd s5_40 (w := (2 : Int32)) (by decide) ?_
  refine H.aloadN s5_41 rfl rfl ?_
  refine H.getfield s5_42 (k_12 hw) (i := 9) rfl rfl ?_
  refine H.iload s5_45 rfl ?_
  refine H.iaload s5_47 (i := 11) (j := I1) rfl hI1 (v := (.int (own_selI I1 p1 p2))) (own_gI lI1) ?_
  refine H.iastore s5_48 (i := 16) (j := 2) rfl (by decide) (ltb rfl)  rfl ?_
  refine H.aloadN s5_49 rfl rfl ?_
  refine H.getfield s5_50 (k_13 hw) (i := 14) rfl rfl ?_
  refine H.aloadN s5_53 rfl rfl ?_
  refine H.getfield s5_54 (k_11 hw) (i := 14) rfl rfl ?_
  refine H.iloadN s5_57 rfl ?_
  refine H.iadd s5_58 (w := (2 : Int32)) (by decide) ?_
  refine H.aloadN s5_59 rfl rfl ?_
  refine H.getfield s5_60 (k_13 hw) (i := 9) rfl rfl ?_
  refine H.iload s5_63 rfl ?_
  refine H.laload s5_65 (i := 12) (j := I1) rfl hI1 (v := (.long (own_selJ I1 p3 p4))) (own_gJ lI1) ?_
  refine H.lastore s5_66 (i := 17) (j := 2) rfl (by decide) (ltb rfl)  rfl ?_
  refine H.aloadN s5_67 rfl rfl ?_
  refine H.getfield s5_68 (k_14 hw) (i := 14) rfl rfl ?_
  refine H.aloadN s5_71 rfl rfl ?_
  refine H.getfield s5_72 (k_11 hw) (i := 14) rfl rfl ?_
  refine H.iloadN s5_75 rfl ?_
  refine H.iadd s5_76 (w := (2 : Int32)) (by decide) ?_
  refine H.aloadN s5_77 rfl rfl ?_
  refine H.getfield s5_78 (k_14 hw) (i := 9) rfl rfl ?_
  refine H.iload s5_81 rfl ?_
  refine H.laload s5_83 (i := 13) (j := I1) rfl hI1 (v := (.long (own_selJ I1 p4 p3))) (own_gJ lI1) ?_
  refine H.lastore s5_84 (i := 18) (j := 2) rfl (by decide) (ltb rfl)  rfl ?_
  refine H.iinc s5_85 rfl (w := (2 : Int32)) (by decide) (ls' := #[.val (rf n0 14), .val (rf n0 9), .val (rf n0 0), .val (.int (2 : Int32)), .val (.int i1)]) rfl ?_
  refine H.goto s5_88 ?_
  refine H.iloadN s5_2 rfl ?_
  refine H.aloadN s5_3 rfl rfl ?_
  refine H.arraylength s5_4 (i := 0) rfl (z := (2 : Int32)) rfl ?_
  refine H.icmpT s5_5 (show ¬ (2 : Int32) < (2 : Int32) by decide) ?_
  refine H.aloadN s5_91 rfl rfl ?_
  refine H.dup s5_92 rfl ?_
  refine H.getfield s5_93 (k_11 hw) (i := 14) rfl rfl ?_
  refine H.aloadN s5_96 rfl rfl ?_
  refine H.arraylength s5_97 (i := 0) rfl (z := (2 : Int32)) rfl ?_
  refine H.iadd s5_98 (w := (3 : Int32)) (by decide) ?_
  refine H.putfield s5_99 (k_17 hw) (i := 14) rfl rfl rfl rfl ?_
  exact H.vreturn s5_102 rfl ⟨rfl, rfl⟩ (by decide) (by decide)


set_option maxRecDepth 65536 in
set_option maxHeartbeats 40000000 in
theorem a_101 (l : Launch) {Z : State} {a0 : Array Value} (hw : HW1 Z a0) (n0 : Nat) (p0 : Int32) (p1 : Int32) (p2 : Int32) (p3 : Int64) (p4 : Int64) (i0 : Int32) (i1 : Int32) (I0 : Nat) (I1 : Nat) : Met l Z KT n0 y6 prog_15_method_5_code 1 (some .int) ({ frames := 0, cells := 0, slots := 0, locals := 0 } : Room) #[(rf n0 14)] [.inr (.int, [(.int i0), (.int i1)]), .inr (.int, [(.int p0), (.int p1)]), .inr (.int, [(.int p1), (.int p2)]), .inr (.long, [(.long p3), (.long p4)]), .inr (.long, [(.long p4), (.long p3)]), .inr (.int, [(.int p2), (.int (own_selI I0 p0 p1)), (.int (own_selI I1 p0 p1)), oz]), .inr (.int, [(.int p0), (.int (own_selI I0 p1 p2)), (.int (own_selI I1 p1 p2)), oz]), .inr (.long, [(.long (p3 ^^^ (-1 : Int64))), (.long (own_selJ I0 p3 p4)), (.long (own_selJ I1 p3 p4)), ol]), .inr (.long, [(.long (p4 ^^^ (-1 : Int64))), (.long (own_selJ I0 p4 p3)), (.long (own_selJ I1 p4 p3)), ol]), .inl (0, [(rf n0 10), (rf n0 11), (rf n0 12), (rf n0 13), (.int (2 : Int32))]), .inr (.int, [(.int p0), (.int p1)]), .inr (.int, [(.int p1), (.int p2)]), .inr (.long, [(.long p3), (.long p4)]), .inr (.long, [(.long p4), (.long p3)]), .inl (0, [(rf n0 15), (rf n0 16), (rf n0 17), (rf n0 18), (.int (3 : Int32))]), .inr (.int, [(.int p2), (.int (own_selI I0 p0 p1)), (.int (own_selI I1 p0 p1)), oz]), .inr (.int, [(.int p0), (.int (own_selI I0 p1 p2)), (.int (own_selI I1 p1 p2)), oz]), .inr (.long, [(.long (p3 ^^^ (-1 : Int64))), (.long (own_selJ I0 p3 p4)), (.long (own_selJ I1 p3 p4)), ol]), .inr (.long, [(.long (p4 ^^^ (-1 : Int64))), (.long (own_selJ I0 p4 p3)), (.long (own_selJ I1 p4 p3)), ol])] (Is (some (.int (3 : Int32))) [.inr (.int, [(.int i0), (.int i1)]), .inr (.int, [(.int p0), (.int p1)]), .inr (.int, [(.int p1), (.int p2)]), .inr (.long, [(.long p3), (.long p4)]), .inr (.long, [(.long p4), (.long p3)]), .inr (.int, [(.int p2), (.int (own_selI I0 p0 p1)), (.int (own_selI I1 p0 p1)), oz]), .inr (.int, [(.int p0), (.int (own_selI I0 p1 p2)), (.int (own_selI I1 p1 p2)), oz]), .inr (.long, [(.long (p3 ^^^ (-1 : Int64))), (.long (own_selJ I0 p3 p4)), (.long (own_selJ I1 p3 p4)), ol]), .inr (.long, [(.long (p4 ^^^ (-1 : Int64))), (.long (own_selJ I0 p4 p3)), (.long (own_selJ I1 p4 p3)), ol]), .inl (0, [(rf n0 10), (rf n0 11), (rf n0 12), (rf n0 13), (.int (2 : Int32))]), .inr (.int, [(.int p0), (.int p1)]), .inr (.int, [(.int p1), (.int p2)]), .inr (.long, [(.long p3), (.long p4)]), .inr (.long, [(.long p4), (.long p3)]), .inl (0, [(rf n0 15), (rf n0 16), (rf n0 17), (rf n0 18), (.int (3 : Int32))]), .inr (.int, [(.int p2), (.int (own_selI I0 p0 p1)), (.int (own_selI I1 p0 p1)), oz]), .inr (.int, [(.int p0), (.int (own_selI I0 p1 p2)), (.int (own_selI I1 p1 p2)), oz]), .inr (.long, [(.long (p3 ^^^ (-1 : Int64))), (.long (own_selJ I0 p3 p4)), (.long (own_selJ I1 p3 p4)), ol]), .inr (.long, [(.long (p4 ^^^ (-1 : Int64))), (.long (own_selJ I0 p4 p3)), (.long (own_selJ I1 p4 p3)), ol])]) := by
  refine Met.of (a0 := a0) (ls := #[.val (rf n0 14)]) (kok hw) (plainFor_of_name pn_8) (fun m => by first | (simp [entryFrame, mkF, argsToLocals, Value.category]; done) | rfl) (fun G H => ?_)
  refine H.aloadN s6_0 rfl rfl ?_
  refine H.getfield s6_1 (k_11 hw) (i := 14) rfl rfl ?_
  exact H.ireturn s6_4 rfl (by simp) rfl ⟨rfl, rfl⟩ (by decide) (by decide)


set_option maxRecDepth 65536 in
set_option maxHeartbeats 40000000 in
theorem a_102 (l : Launch) {Z : State} {a0 : Array Value} (hw : HW1 Z a0) (n0 : Nat) (p0 : Int32) (p1 : Int32) (p2 : Int32) (p3 : Int64) (p4 : Int64) (i0 : Int32) (i1 : Int32) (I0 : Nat) (I1 : Nat) : Met l Z KT n0 y7 prog_15_method_6_code 1 (some (.array .int)) ({ frames := 0, cells := 0, slots := 0, locals := 0 } : Room) #[(rf n0 14)] [.inr (.int, [(.int i0), (.int i1)]), .inr (.int, [(.int p0), (.int p1)]), .inr (.int, [(.int p1), (.int p2)]), .inr (.long, [(.long p3), (.long p4)]), .inr (.long, [(.long p4), (.long p3)]), .inr (.int, [(.int p2), (.int (own_selI I0 p0 p1)), (.int (own_selI I1 p0 p1)), oz]), .inr (.int, [(.int p0), (.int (own_selI I0 p1 p2)), (.int (own_selI I1 p1 p2)), oz]), .inr (.long, [(.long (p3 ^^^ (-1 : Int64))), (.long (own_selJ I0 p3 p4)), (.long (own_selJ I1 p3 p4)), ol]), .inr (.long, [(.long (p4 ^^^ (-1 : Int64))), (.long (own_selJ I0 p4 p3)), (.long (own_selJ I1 p4 p3)), ol]), .inl (0, [(rf n0 10), (rf n0 11), (rf n0 12), (rf n0 13), (.int (2 : Int32))]), .inr (.int, [(.int p0), (.int p1)]), .inr (.int, [(.int p1), (.int p2)]), .inr (.long, [(.long p3), (.long p4)]), .inr (.long, [(.long p4), (.long p3)]), .inl (0, [(rf n0 15), (rf n0 16), (rf n0 17), (rf n0 18), (.int (3 : Int32))]), .inr (.int, [(.int p2), (.int (own_selI I0 p0 p1)), (.int (own_selI I1 p0 p1)), oz]), .inr (.int, [(.int p0), (.int (own_selI I0 p1 p2)), (.int (own_selI I1 p1 p2)), oz]), .inr (.long, [(.long (p3 ^^^ (-1 : Int64))), (.long (own_selJ I0 p3 p4)), (.long (own_selJ I1 p3 p4)), ol]), .inr (.long, [(.long (p4 ^^^ (-1 : Int64))), (.long (own_selJ I0 p4 p3)), (.long (own_selJ I1 p4 p3)), ol])] (Is (some (rf n0 15)) [.inr (.int, [(.int i0), (.int i1)]), .inr (.int, [(.int p0), (.int p1)]), .inr (.int, [(.int p1), (.int p2)]), .inr (.long, [(.long p3), (.long p4)]), .inr (.long, [(.long p4), (.long p3)]), .inr (.int, [(.int p2), (.int (own_selI I0 p0 p1)), (.int (own_selI I1 p0 p1)), oz]), .inr (.int, [(.int p0), (.int (own_selI I0 p1 p2)), (.int (own_selI I1 p1 p2)), oz]), .inr (.long, [(.long (p3 ^^^ (-1 : Int64))), (.long (own_selJ I0 p3 p4)), (.long (own_selJ I1 p3 p4)), ol]), .inr (.long, [(.long (p4 ^^^ (-1 : Int64))), (.long (own_selJ I0 p4 p3)), (.long (own_selJ I1 p4 p3)), ol]), .inl (0, [(rf n0 10), (rf n0 11), (rf n0 12), (rf n0 13), (.int (2 : Int32))]), .inr (.int, [(.int p0), (.int p1)]), .inr (.int, [(.int p1), (.int p2)]), .inr (.long, [(.long p3), (.long p4)]), .inr (.long, [(.long p4), (.long p3)]), .inl (0, [(rf n0 15), (rf n0 16), (rf n0 17), (rf n0 18), (.int (3 : Int32))]), .inr (.int, [(.int p2), (.int (own_selI I0 p0 p1)), (.int (own_selI I1 p0 p1)), oz]), .inr (.int, [(.int p0), (.int (own_selI I0 p1 p2)), (.int (own_selI I1 p1 p2)), oz]), .inr (.long, [(.long (p3 ^^^ (-1 : Int64))), (.long (own_selJ I0 p3 p4)), (.long (own_selJ I1 p3 p4)), ol]), .inr (.long, [(.long (p4 ^^^ (-1 : Int64))), (.long (own_selJ I0 p4 p3)), (.long (own_selJ I1 p4 p3)), ol])]) := by
  refine Met.of (a0 := a0) (ls := #[.val (rf n0 14)]) (kok hw) (plainFor_of_name pn_8) (fun m => by first | (simp [entryFrame, mkF, argsToLocals, Value.category]; done) | rfl) (fun G H => ?_)
  refine H.aloadN s7_0 rfl rfl ?_
  refine H.getfield s7_1 (k_10 hw) (i := 14) rfl rfl ?_
  exact H.areturn s7_4 rfl rfl rfl rfl ⟨rfl, rfl⟩ (by decide) (by decide)


set_option maxRecDepth 65536 in
set_option maxHeartbeats 40000000 in
theorem a_103 (l : Launch) {Z : State} {a0 : Array Value} (hw : HW1 Z a0) (n0 : Nat) (p0 : Int32) (p1 : Int32) (p2 : Int32) (p3 : Int64) (p4 : Int64) (i0 : Int32) (i1 : Int32) (I0 : Nat) (I1 : Nat) : Met l Z KT n0 y8 prog_15_method_7_code 1 (some (.array .int)) ({ frames := 0, cells := 0, slots := 0, locals := 0 } : Room) #[(rf n0 14)] [.inr (.int, [(.int i0), (.int i1)]), .inr (.int, [(.int p0), (.int p1)]), .inr (.int, [(.int p1), (.int p2)]), .inr (.long, [(.long p3), (.long p4)]), .inr (.long, [(.long p4), (.long p3)]), .inr (.int, [(.int p2), (.int (own_selI I0 p0 p1)), (.int (own_selI I1 p0 p1)), oz]), .inr (.int, [(.int p0), (.int (own_selI I0 p1 p2)), (.int (own_selI I1 p1 p2)), oz]), .inr (.long, [(.long (p3 ^^^ (-1 : Int64))), (.long (own_selJ I0 p3 p4)), (.long (own_selJ I1 p3 p4)), ol]), .inr (.long, [(.long (p4 ^^^ (-1 : Int64))), (.long (own_selJ I0 p4 p3)), (.long (own_selJ I1 p4 p3)), ol]), .inl (0, [(rf n0 10), (rf n0 11), (rf n0 12), (rf n0 13), (.int (2 : Int32))]), .inr (.int, [(.int p0), (.int p1)]), .inr (.int, [(.int p1), (.int p2)]), .inr (.long, [(.long p3), (.long p4)]), .inr (.long, [(.long p4), (.long p3)]), .inl (0, [(rf n0 15), (rf n0 16), (rf n0 17), (rf n0 18), (.int (3 : Int32))]), .inr (.int, [(.int p2), (.int (own_selI I0 p0 p1)), (.int (own_selI I1 p0 p1)), oz]), .inr (.int, [(.int p0), (.int (own_selI I0 p1 p2)), (.int (own_selI I1 p1 p2)), oz]), .inr (.long, [(.long (p3 ^^^ (-1 : Int64))), (.long (own_selJ I0 p3 p4)), (.long (own_selJ I1 p3 p4)), ol]), .inr (.long, [(.long (p4 ^^^ (-1 : Int64))), (.long (own_selJ I0 p4 p3)), (.long (own_selJ I1 p4 p3)), ol])] (Is (some (rf n0 16)) [.inr (.int, [(.int i0), (.int i1)]), .inr (.int, [(.int p0), (.int p1)]), .inr (.int, [(.int p1), (.int p2)]), .inr (.long, [(.long p3), (.long p4)]), .inr (.long, [(.long p4), (.long p3)]), .inr (.int, [(.int p2), (.int (own_selI I0 p0 p1)), (.int (own_selI I1 p0 p1)), oz]), .inr (.int, [(.int p0), (.int (own_selI I0 p1 p2)), (.int (own_selI I1 p1 p2)), oz]), .inr (.long, [(.long (p3 ^^^ (-1 : Int64))), (.long (own_selJ I0 p3 p4)), (.long (own_selJ I1 p3 p4)), ol]), .inr (.long, [(.long (p4 ^^^ (-1 : Int64))), (.long (own_selJ I0 p4 p3)), (.long (own_selJ I1 p4 p3)), ol]), .inl (0, [(rf n0 10), (rf n0 11), (rf n0 12), (rf n0 13), (.int (2 : Int32))]), .inr (.int, [(.int p0), (.int p1)]), .inr (.int, [(.int p1), (.int p2)]), .inr (.long, [(.long p3), (.long p4)]), .inr (.long, [(.long p4), (.long p3)]), .inl (0, [(rf n0 15), (rf n0 16), (rf n0 17), (rf n0 18), (.int (3 : Int32))]), .inr (.int, [(.int p2), (.int (own_selI I0 p0 p1)), (.int (own_selI I1 p0 p1)), oz]), .inr (.int, [(.int p0), (.int (own_selI I0 p1 p2)), (.int (own_selI I1 p1 p2)), oz]), .inr (.long, [(.long (p3 ^^^ (-1 : Int64))), (.long (own_selJ I0 p3 p4)), (.long (own_selJ I1 p3 p4)), ol]), .inr (.long, [(.long (p4 ^^^ (-1 : Int64))), (.long (own_selJ I0 p4 p3)), (.long (own_selJ I1 p4 p3)), ol])]) := by
  refine Met.of (a0 := a0) (ls := #[.val (rf n0 14)]) (kok hw) (plainFor_of_name pn_8) (fun m => by first | (simp [entryFrame, mkF, argsToLocals, Value.category]; done) | rfl) (fun G H => ?_)
  refine H.aloadN s8_0 rfl rfl ?_
  refine H.getfield s8_1 (k_12 hw) (i := 14) rfl rfl ?_
  exact H.areturn s8_4 rfl rfl rfl rfl ⟨rfl, rfl⟩ (by decide) (by decide)


set_option maxRecDepth 65536 in
set_option maxHeartbeats 40000000 in
theorem a_104 (l : Launch) {Z : State} {a0 : Array Value} (hw : HW1 Z a0) (n0 : Nat) (p0 : Int32) (p1 : Int32) (p2 : Int32) (p3 : Int64) (p4 : Int64) (i0 : Int32) (i1 : Int32) (I0 : Nat) (I1 : Nat) : Met l Z KT n0 y9 prog_15_method_8_code 1 (some (.array .long)) ({ frames := 0, cells := 0, slots := 0, locals := 0 } : Room) #[(rf n0 14)] [.inr (.int, [(.int i0), (.int i1)]), .inr (.int, [(.int p0), (.int p1)]), .inr (.int, [(.int p1), (.int p2)]), .inr (.long, [(.long p3), (.long p4)]), .inr (.long, [(.long p4), (.long p3)]), .inr (.int, [(.int p2), (.int (own_selI I0 p0 p1)), (.int (own_selI I1 p0 p1)), oz]), .inr (.int, [(.int p0), (.int (own_selI I0 p1 p2)), (.int (own_selI I1 p1 p2)), oz]), .inr (.long, [(.long (p3 ^^^ (-1 : Int64))), (.long (own_selJ I0 p3 p4)), (.long (own_selJ I1 p3 p4)), ol]), .inr (.long, [(.long (p4 ^^^ (-1 : Int64))), (.long (own_selJ I0 p4 p3)), (.long (own_selJ I1 p4 p3)), ol]), .inl (0, [(rf n0 10), (rf n0 11), (rf n0 12), (rf n0 13), (.int (2 : Int32))]), .inr (.int, [(.int p0), (.int p1)]), .inr (.int, [(.int p1), (.int p2)]), .inr (.long, [(.long p3), (.long p4)]), .inr (.long, [(.long p4), (.long p3)]), .inl (0, [(rf n0 15), (rf n0 16), (rf n0 17), (rf n0 18), (.int (3 : Int32))]), .inr (.int, [(.int p2), (.int (own_selI I0 p0 p1)), (.int (own_selI I1 p0 p1)), oz]), .inr (.int, [(.int p0), (.int (own_selI I0 p1 p2)), (.int (own_selI I1 p1 p2)), oz]), .inr (.long, [(.long (p3 ^^^ (-1 : Int64))), (.long (own_selJ I0 p3 p4)), (.long (own_selJ I1 p3 p4)), ol]), .inr (.long, [(.long (p4 ^^^ (-1 : Int64))), (.long (own_selJ I0 p4 p3)), (.long (own_selJ I1 p4 p3)), ol])] (Is (some (rf n0 17)) [.inr (.int, [(.int i0), (.int i1)]), .inr (.int, [(.int p0), (.int p1)]), .inr (.int, [(.int p1), (.int p2)]), .inr (.long, [(.long p3), (.long p4)]), .inr (.long, [(.long p4), (.long p3)]), .inr (.int, [(.int p2), (.int (own_selI I0 p0 p1)), (.int (own_selI I1 p0 p1)), oz]), .inr (.int, [(.int p0), (.int (own_selI I0 p1 p2)), (.int (own_selI I1 p1 p2)), oz]), .inr (.long, [(.long (p3 ^^^ (-1 : Int64))), (.long (own_selJ I0 p3 p4)), (.long (own_selJ I1 p3 p4)), ol]), .inr (.long, [(.long (p4 ^^^ (-1 : Int64))), (.long (own_selJ I0 p4 p3)), (.long (own_selJ I1 p4 p3)), ol]), .inl (0, [(rf n0 10), (rf n0 11), (rf n0 12), (rf n0 13), (.int (2 : Int32))]), .inr (.int, [(.int p0), (.int p1)]), .inr (.int, [(.int p1), (.int p2)]), .inr (.long, [(.long p3), (.long p4)]), .inr (.long, [(.long p4), (.long p3)]), .inl (0, [(rf n0 15), (rf n0 16), (rf n0 17), (rf n0 18), (.int (3 : Int32))]), .inr (.int, [(.int p2), (.int (own_selI I0 p0 p1)), (.int (own_selI I1 p0 p1)), oz]), .inr (.int, [(.int p0), (.int (own_selI I0 p1 p2)), (.int (own_selI I1 p1 p2)), oz]), .inr (.long, [(.long (p3 ^^^ (-1 : Int64))), (.long (own_selJ I0 p3 p4)), (.long (own_selJ I1 p3 p4)), ol]), .inr (.long, [(.long (p4 ^^^ (-1 : Int64))), (.long (own_selJ I0 p4 p3)), (.long (own_selJ I1 p4 p3)), ol])]) := by
  refine Met.of (a0 := a0) (ls := #[.val (rf n0 14)]) (kok hw) (plainFor_of_name pn_8) (fun m => by first | (simp [entryFrame, mkF, argsToLocals, Value.category]; done) | rfl) (fun G H => ?_)
  refine H.aloadN s9_0 rfl rfl ?_
  refine H.getfield s9_1 (k_13 hw) (i := 14) rfl rfl ?_
  exact H.areturn s9_4 rfl rfl rfl rfl ⟨rfl, rfl⟩ (by decide) (by decide)


set_option maxRecDepth 65536 in
set_option maxHeartbeats 40000000 in
theorem a_105 (l : Launch) {Z : State} {a0 : Array Value} (hw : HW1 Z a0) (n0 : Nat) (p0 : Int32) (p1 : Int32) (p2 : Int32) (p3 : Int64) (p4 : Int64) (i0 : Int32) (i1 : Int32) (I0 : Nat) (I1 : Nat) : Met l Z KT n0 y10 prog_15_method_9_code 1 (some (.array .long)) ({ frames := 0, cells := 0, slots := 0, locals := 0 } : Room) #[(rf n0 14)] [.inr (.int, [(.int i0), (.int i1)]), .inr (.int, [(.int p0), (.int p1)]), .inr (.int, [(.int p1), (.int p2)]), .inr (.long, [(.long p3), (.long p4)]), .inr (.long, [(.long p4), (.long p3)]), .inr (.int, [(.int p2), (.int (own_selI I0 p0 p1)), (.int (own_selI I1 p0 p1)), oz]), .inr (.int, [(.int p0), (.int (own_selI I0 p1 p2)), (.int (own_selI I1 p1 p2)), oz]), .inr (.long, [(.long (p3 ^^^ (-1 : Int64))), (.long (own_selJ I0 p3 p4)), (.long (own_selJ I1 p3 p4)), ol]), .inr (.long, [(.long (p4 ^^^ (-1 : Int64))), (.long (own_selJ I0 p4 p3)), (.long (own_selJ I1 p4 p3)), ol]), .inl (0, [(rf n0 10), (rf n0 11), (rf n0 12), (rf n0 13), (.int (2 : Int32))]), .inr (.int, [(.int p0), (.int p1)]), .inr (.int, [(.int p1), (.int p2)]), .inr (.long, [(.long p3), (.long p4)]), .inr (.long, [(.long p4), (.long p3)]), .inl (0, [(rf n0 15), (rf n0 16), (rf n0 17), (rf n0 18), (.int (3 : Int32))]), .inr (.int, [(.int p2), (.int (own_selI I0 p0 p1)), (.int (own_selI I1 p0 p1)), oz]), .inr (.int, [(.int p0), (.int (own_selI I0 p1 p2)), (.int (own_selI I1 p1 p2)), oz]), .inr (.long, [(.long (p3 ^^^ (-1 : Int64))), (.long (own_selJ I0 p3 p4)), (.long (own_selJ I1 p3 p4)), ol]), .inr (.long, [(.long (p4 ^^^ (-1 : Int64))), (.long (own_selJ I0 p4 p3)), (.long (own_selJ I1 p4 p3)), ol])] (Is (some (rf n0 18)) [.inr (.int, [(.int i0), (.int i1)]), .inr (.int, [(.int p0), (.int p1)]), .inr (.int, [(.int p1), (.int p2)]), .inr (.long, [(.long p3), (.long p4)]), .inr (.long, [(.long p4), (.long p3)]), .inr (.int, [(.int p2), (.int (own_selI I0 p0 p1)), (.int (own_selI I1 p0 p1)), oz]), .inr (.int, [(.int p0), (.int (own_selI I0 p1 p2)), (.int (own_selI I1 p1 p2)), oz]), .inr (.long, [(.long (p3 ^^^ (-1 : Int64))), (.long (own_selJ I0 p3 p4)), (.long (own_selJ I1 p3 p4)), ol]), .inr (.long, [(.long (p4 ^^^ (-1 : Int64))), (.long (own_selJ I0 p4 p3)), (.long (own_selJ I1 p4 p3)), ol]), .inl (0, [(rf n0 10), (rf n0 11), (rf n0 12), (rf n0 13), (.int (2 : Int32))]), .inr (.int, [(.int p0), (.int p1)]), .inr (.int, [(.int p1), (.int p2)]), .inr (.long, [(.long p3), (.long p4)]), .inr (.long, [(.long p4), (.long p3)]), .inl (0, [(rf n0 15), (rf n0 16), (rf n0 17), (rf n0 18), (.int (3 : Int32))]), .inr (.int, [(.int p2), (.int (own_selI I0 p0 p1)), (.int (own_selI I1 p0 p1)), oz]), .inr (.int, [(.int p0), (.int (own_selI I0 p1 p2)), (.int (own_selI I1 p1 p2)), oz]), .inr (.long, [(.long (p3 ^^^ (-1 : Int64))), (.long (own_selJ I0 p3 p4)), (.long (own_selJ I1 p3 p4)), ol]), .inr (.long, [(.long (p4 ^^^ (-1 : Int64))), (.long (own_selJ I0 p4 p3)), (.long (own_selJ I1 p4 p3)), ol])]) := by
  refine Met.of (a0 := a0) (ls := #[.val (rf n0 14)]) (kok hw) (plainFor_of_name pn_8) (fun m => by first | (simp [entryFrame, mkF, argsToLocals, Value.category]; done) | rfl) (fun G H => ?_)
  refine H.aloadN s10_0 rfl rfl ?_
  refine H.getfield s10_1 (k_14 hw) (i := 14) rfl rfl ?_
  exact H.areturn s10_4 rfl rfl rfl rfl ⟨rfl, rfl⟩ (by decide) (by decide)


set_option maxRecDepth 65536 in
set_option maxHeartbeats 40000000 in
theorem a_106 (l : Launch) {Z : State} {a0 : Array Value} (hw : HW1 Z a0) (n0 : Nat) (p0 : Int32) (p1 : Int32) (p2 : Int32) (p3 : Int64) (p4 : Int64) (i0 : Int32) (i1 : Int32) (I0 : Nat) (I1 : Nat) : Met l Z KT n0 y11 method_4_code 2 (some .boolean) ({ frames := 0, cells := 0, slots := 0, locals := 0 } : Room) #[(rf n0 15), (rf n0 5)] [.inr (.int, [(.int i0), (.int i1)]), .inr (.int, [(.int p0), (.int p1)]), .inr (.int, [(.int p1), (.int p2)]), .inr (.long, [(.long p3), (.long p4)]), .inr (.long, [(.long p4), (.long p3)]), .inr (.int, [(.int p2), (.int (own_selI I0 p0 p1)), (.int (own_selI I1 p0 p1)), oz]), .inr (.int, [(.int p0), (.int (own_selI I0 p1 p2)), (.int (own_selI I1 p1 p2)), oz]), .inr (.long, [(.long (p3 ^^^ (-1 : Int64))), (.long (own_selJ I0 p3 p4)), (.long (own_selJ I1 p3 p4)), ol]), .inr (.long, [(.long (p4 ^^^ (-1 : Int64))), (.long (own_selJ I0 p4 p3)), (.long (own_selJ I1 p4 p3)), ol]), .inl (0, [(rf n0 10), (rf n0 11), (rf n0 12), (rf n0 13), (.int (2 : Int32))]), .inr (.int, [(.int p0), (.int p1)]), .inr (.int, [(.int p1), (.int p2)]), .inr (.long, [(.long p3), (.long p4)]), .inr (.long, [(.long p4), (.long p3)]), .inl (0, [(rf n0 15), (rf n0 16), (rf n0 17), (rf n0 18), (.int (3 : Int32))]), .inr (.int, [(.int p2), (.int (own_selI I0 p0 p1)), (.int (own_selI I1 p0 p1)), oz]), .inr (.int, [(.int p0), (.int (own_selI I0 p1 p2)), (.int (own_selI I1 p1 p2)), oz]), .inr (.long, [(.long (p3 ^^^ (-1 : Int64))), (.long (own_selJ I0 p3 p4)), (.long (own_selJ I1 p3 p4)), ol]), .inr (.long, [(.long (p4 ^^^ (-1 : Int64))), (.long (own_selJ I0 p4 p3)), (.long (own_selJ I1 p4 p3)), ol])] (Is (some (.int (1 : Int32))) [.inr (.int, [(.int i0), (.int i1)]), .inr (.int, [(.int p0), (.int p1)]), .inr (.int, [(.int p1), (.int p2)]), .inr (.long, [(.long p3), (.long p4)]), .inr (.long, [(.long p4), (.long p3)]), .inr (.int, [(.int p2), (.int (own_selI I0 p0 p1)), (.int (own_selI I1 p0 p1)), oz]), .inr (.int, [(.int p0), (.int (own_selI I0 p1 p2)), (.int (own_selI I1 p1 p2)), oz]), .inr (.long, [(.long (p3 ^^^ (-1 : Int64))), (.long (own_selJ I0 p3 p4)), (.long (own_selJ I1 p3 p4)), ol]), .inr (.long, [(.long (p4 ^^^ (-1 : Int64))), (.long (own_selJ I0 p4 p3)), (.long (own_selJ I1 p4 p3)), ol]), .inl (0, [(rf n0 10), (rf n0 11), (rf n0 12), (rf n0 13), (.int (2 : Int32))]), .inr (.int, [(.int p0), (.int p1)]), .inr (.int, [(.int p1), (.int p2)]), .inr (.long, [(.long p3), (.long p4)]), .inr (.long, [(.long p4), (.long p3)]), .inl (0, [(rf n0 15), (rf n0 16), (rf n0 17), (rf n0 18), (.int (3 : Int32))]), .inr (.int, [(.int p2), (.int (own_selI I0 p0 p1)), (.int (own_selI I1 p0 p1)), oz]), .inr (.int, [(.int p0), (.int (own_selI I0 p1 p2)), (.int (own_selI I1 p1 p2)), oz]), .inr (.long, [(.long (p3 ^^^ (-1 : Int64))), (.long (own_selJ I0 p3 p4)), (.long (own_selJ I1 p3 p4)), ol]), .inr (.long, [(.long (p4 ^^^ (-1 : Int64))), (.long (own_selJ I0 p4 p3)), (.long (own_selJ I1 p4 p3)), ol])]) := by
  refine Met.of (a0 := a0) (ls := #[.val (rf n0 15), .val (rf n0 5)]) (kok hw) (plainFor_of_name pn_24) (fun m => by first | (simp [entryFrame, mkF, argsToLocals, Value.category]; done) | rfl) (fun G H => ?_)
  refine H.aloadN s11_0 rfl rfl ?_
  refine H.arraylength s11_1 (i := 15) rfl (z := (4 : Int32)) rfl ?_
  refine H.iconst s11_2 (v := (4 : Int32)) (by decide) ?_
  refine H.icmpF s11_3 (show (4 : Int32) = (4 : Int32) by decide) ?_
  refine H.aloadN s11_6 rfl rfl ?_
  refine H.iconst s11_7 (v := (0 : Int32)) (by decide) ?_
  refine H.iaload s11_8 (i := 15) (j := 0) rfl (by decide) (v := (.int p2)) rfl ?_
  refine H.aloadN s11_9 rfl rfl ?_
  refine H.iconst s11_10 (v := (0 : Int32)) (by decide) ?_
  refine H.iaload s11_11 (i := 5) (j := 0) rfl (by decide) (v := (.int p2)) rfl ?_
  refine H.icmpF s11_12 rfl ?_
  refine H.aloadN s11_15 rfl rfl ?_
  refine H.iconst s11_16 (v := (1 : Int32)) (by decide) ?_
  refine H.iaload s11_17 (i := 15) (j := 1) rfl (by decide) (v := (.int (own_selI I0 p0 p1))) rfl ?_
  refine H.aloadN s11_18 rfl rfl ?_
  refine H.iconst s11_19 (v := (1 : Int32)) (by decide) ?_
  refine H.iaload s11_20 (i := 5) (j := 1) rfl (by decide) (v := (.int (own_selI I0 p0 p1))) rfl ?_
  refine H.icmpF s11_21 rfl ?_
  refine H.aloadN s11_24 rfl rfl ?_
  refine H.iconst s11_25 (v := (2 : Int32)) (by decide) ?_
  refine H.iaload s11_26 (i := 15) (j := 2) rfl (by decide) (v := (.int (own_selI I1 p0 p1))) rfl ?_
  refine H.aloadN s11_27 rfl rfl ?_
  refine H.iconst s11_28 (v := (2 : Int32)) (by decide) ?_
  refine H.iaload s11_29 (i := 5) (j := 2) rfl (by decide) (v := (.int (own_selI I1 p0 p1))) rfl ?_
  refine H.icmpF s11_30 rfl ?_
  refine H.aloadN s11_33 rfl rfl ?_
  refine H.iconst s11_34 (v := (3 : Int32)) (by decide) ?_
  refine H.iaload s11_35 (i := 15) (j := 3) rfl (by decide) (v := oz) rfl ?_
  refine H.aloadN s11_36 rfl rfl ?_
  refine H.iconst s11_37 (v := (3 : Int32)) (by decide) ?_
  refine H.iaload s11_38 (i := 5) (j := 3) rfl (by decide) (v := oz) rfl ?_
  refine H.icmpF s11_39 (show (0 : Int32) = (0 : Int32) by decide) ?_
  refine H.iconst s11_42 (v := (1 : Int32)) (by decide) ?_
  refine H.goto s11_43 ?_
  exact H.ireturn s11_47 rfl (by simp) rfl ⟨rfl, rfl⟩ (by decide) (by decide)


set_option maxRecDepth 65536 in
set_option maxHeartbeats 40000000 in
theorem a_107 (l : Launch) {Z : State} {a0 : Array Value} (hw : HW1 Z a0) (n0 : Nat) (p0 : Int32) (p1 : Int32) (p2 : Int32) (p3 : Int64) (p4 : Int64) (i0 : Int32) (i1 : Int32) (I0 : Nat) (I1 : Nat) : Met l Z KT n0 y11 method_4_code 2 (some .boolean) ({ frames := 0, cells := 0, slots := 0, locals := 0 } : Room) #[(rf n0 16), (rf n0 6)] [.inr (.int, [(.int i0), (.int i1)]), .inr (.int, [(.int p0), (.int p1)]), .inr (.int, [(.int p1), (.int p2)]), .inr (.long, [(.long p3), (.long p4)]), .inr (.long, [(.long p4), (.long p3)]), .inr (.int, [(.int p2), (.int (own_selI I0 p0 p1)), (.int (own_selI I1 p0 p1)), oz]), .inr (.int, [(.int p0), (.int (own_selI I0 p1 p2)), (.int (own_selI I1 p1 p2)), oz]), .inr (.long, [(.long (p3 ^^^ (-1 : Int64))), (.long (own_selJ I0 p3 p4)), (.long (own_selJ I1 p3 p4)), ol]), .inr (.long, [(.long (p4 ^^^ (-1 : Int64))), (.long (own_selJ I0 p4 p3)), (.long (own_selJ I1 p4 p3)), ol]), .inl (0, [(rf n0 10), (rf n0 11), (rf n0 12), (rf n0 13), (.int (2 : Int32))]), .inr (.int, [(.int p0), (.int p1)]), .inr (.int, [(.int p1), (.int p2)]), .inr (.long, [(.long p3), (.long p4)]), .inr (.long, [(.long p4), (.long p3)]), .inl (0, [(rf n0 15), (rf n0 16), (rf n0 17), (rf n0 18), (.int (3 : Int32))]), .inr (.int, [(.int p2), (.int (own_selI I0 p0 p1)), (.int (own_selI I1 p0 p1)), oz]), .inr (.int, [(.int p0), (.int (own_selI I0 p1 p2)), (.int (own_selI I1 p1 p2)), oz]), .inr (.long, [(.long (p3 ^^^ (-1 : Int64))), (.long (own_selJ I0 p3 p4)), (.long (own_selJ I1 p3 p4)), ol]), .inr (.long, [(.long (p4 ^^^ (-1 : Int64))), (.long (own_selJ I0 p4 p3)), (.long (own_selJ I1 p4 p3)), ol])] (Is (some (.int (1 : Int32))) [.inr (.int, [(.int i0), (.int i1)]), .inr (.int, [(.int p0), (.int p1)]), .inr (.int, [(.int p1), (.int p2)]), .inr (.long, [(.long p3), (.long p4)]), .inr (.long, [(.long p4), (.long p3)]), .inr (.int, [(.int p2), (.int (own_selI I0 p0 p1)), (.int (own_selI I1 p0 p1)), oz]), .inr (.int, [(.int p0), (.int (own_selI I0 p1 p2)), (.int (own_selI I1 p1 p2)), oz]), .inr (.long, [(.long (p3 ^^^ (-1 : Int64))), (.long (own_selJ I0 p3 p4)), (.long (own_selJ I1 p3 p4)), ol]), .inr (.long, [(.long (p4 ^^^ (-1 : Int64))), (.long (own_selJ I0 p4 p3)), (.long (own_selJ I1 p4 p3)), ol]), .inl (0, [(rf n0 10), (rf n0 11), (rf n0 12), (rf n0 13), (.int (2 : Int32))]), .inr (.int, [(.int p0), (.int p1)]), .inr (.int, [(.int p1), (.int p2)]), .inr (.long, [(.long p3), (.long p4)]), .inr (.long, [(.long p4), (.long p3)]), .inl (0, [(rf n0 15), (rf n0 16), (rf n0 17), (rf n0 18), (.int (3 : Int32))]), .inr (.int, [(.int p2), (.int (own_selI I0 p0 p1)), (.int (own_selI I1 p0 p1)), oz]), .inr (.int, [(.int p0), (.int (own_selI I0 p1 p2)), (.int (own_selI I1 p1 p2)), oz]), .inr (.long, [(.long (p3 ^^^ (-1 : Int64))), (.long (own_selJ I0 p3 p4)), (.long (own_selJ I1 p3 p4)), ol]), .inr (.long, [(.long (p4 ^^^ (-1 : Int64))), (.long (own_selJ I0 p4 p3)), (.long (own_selJ I1 p4 p3)), ol])]) := by
  refine Met.of (a0 := a0) (ls := #[.val (rf n0 16), .val (rf n0 6)]) (kok hw) (plainFor_of_name pn_24) (fun m => by first | (simp [entryFrame, mkF, argsToLocals, Value.category]; done) | rfl) (fun G H => ?_)
  refine H.aloadN s11_0 rfl rfl ?_
  refine H.arraylength s11_1 (i := 16) rfl (z := (4 : Int32)) rfl ?_
  refine H.iconst s11_2 (v := (4 : Int32)) (by decide) ?_
  refine H.icmpF s11_3 (show (4 : Int32) = (4 : Int32) by decide) ?_
  refine H.aloadN s11_6 rfl rfl ?_
  refine H.iconst s11_7 (v := (0 : Int32)) (by decide) ?_
  refine H.iaload s11_8 (i := 16) (j := 0) rfl (by decide) (v := (.int p0)) rfl ?_
  refine H.aloadN s11_9 rfl rfl ?_
  refine H.iconst s11_10 (v := (0 : Int32)) (by decide) ?_
  refine H.iaload s11_11 (i := 6) (j := 0) rfl (by decide) (v := (.int p0)) rfl ?_
  refine H.icmpF s11_12 rfl ?_
  refine H.aloadN s11_15 rfl rfl ?_
  refine H.iconst s11_16 (v := (1 : Int32)) (by decide) ?_
  refine H.iaload s11_17 (i := 16) (j := 1) rfl (by decide) (v := (.int (own_selI I0 p1 p2))) rfl ?_
  refine H.aloadN s11_18 rfl rfl ?_
  refine H.iconst s11_19 (v := (1 : Int32)) (by decide) ?_
  refine H.iaload s11_20 (i := 6) (j := 1) rfl (by decide) (v := (.int (own_selI I0 p1 p2))) rfl ?_
  refine H.icmpF s11_21 rfl ?_
  refine H.aloadN s11_24 rfl rfl ?_
  refine H.iconst s11_25 (v := (2 : Int32)) (by decide) ?_
  refine H.iaload s11_26 (i := 16) (j := 2) rfl (by decide) (v := (.int (own_selI I1 p1 p2))) rfl ?_
  refine H.aloadN s11_27 rfl rfl ?_
  refine H.iconst s11_28 (v := (2 : Int32)) (by decide) ?_
  refine H.iaload s11_29 (i := 6) (j := 2) rfl (by decide) (v := (.int (own_selI I1 p1 p2))) rfl ?_
  refine H.icmpF s11_30 rfl ?_
  refine H.aloadN s11_33 rfl rfl ?_
  refine H.iconst s11_34 (v := (3 : Int32)) (by decide) ?_
  refine H.iaload s11_35 (i := 16) (j := 3) rfl (by decide) (v := oz) rfl ?_
  refine H.aloadN s11_36 rfl rfl ?_
  refine H.iconst s11_37 (v := (3 : Int32)) (by decide) ?_
  refine H.iaload s11_38 (i := 6) (j := 3) rfl (by decide) (v := oz) rfl ?_
  refine H.icmpF s11_39 (show (0 : Int32) = (0 : Int32) by decide) ?_
  refine H.iconst s11_42 (v := (1 : Int32)) (by decide) ?_
  refine H.goto s11_43 ?_
  exact H.ireturn s11_47 rfl (by simp) rfl ⟨rfl, rfl⟩ (by decide) (by decide)


set_option maxRecDepth 65536 in
set_option maxHeartbeats 40000000 in
theorem a_108 (l : Launch) {Z : State} {a0 : Array Value} (hw : HW1 Z a0) (n0 : Nat) (p0 : Int32) (p1 : Int32) (p2 : Int32) (p3 : Int64) (p4 : Int64) (i0 : Int32) (i1 : Int32) (I0 : Nat) (I1 : Nat) : Met l Z KT n0 y12 method_5_code 2 (some .boolean) ({ frames := 0, cells := 0, slots := 0, locals := 0 } : Room) #[(rf n0 17), (rf n0 7)] [.inr (.int, [(.int i0), (.int i1)]), .inr (.int, [(.int p0), (.int p1)]), .inr (.int, [(.int p1), (.int p2)]), .inr (.long, [(.long p3), (.long p4)]), .inr (.long, [(.long p4), (.long p3)]), .inr (.int, [(.int p2), (.int (own_selI I0 p0 p1)), (.int (own_selI I1 p0 p1)), oz]), .inr (.int, [(.int p0), (.int (own_selI I0 p1 p2)), (.int (own_selI I1 p1 p2)), oz]), .inr (.long, [(.long (p3 ^^^ (-1 : Int64))), (.long (own_selJ I0 p3 p4)), (.long (own_selJ I1 p3 p4)), ol]), .inr (.long, [(.long (p4 ^^^ (-1 : Int64))), (.long (own_selJ I0 p4 p3)), (.long (own_selJ I1 p4 p3)), ol]), .inl (0, [(rf n0 10), (rf n0 11), (rf n0 12), (rf n0 13), (.int (2 : Int32))]), .inr (.int, [(.int p0), (.int p1)]), .inr (.int, [(.int p1), (.int p2)]), .inr (.long, [(.long p3), (.long p4)]), .inr (.long, [(.long p4), (.long p3)]), .inl (0, [(rf n0 15), (rf n0 16), (rf n0 17), (rf n0 18), (.int (3 : Int32))]), .inr (.int, [(.int p2), (.int (own_selI I0 p0 p1)), (.int (own_selI I1 p0 p1)), oz]), .inr (.int, [(.int p0), (.int (own_selI I0 p1 p2)), (.int (own_selI I1 p1 p2)), oz]), .inr (.long, [(.long (p3 ^^^ (-1 : Int64))), (.long (own_selJ I0 p3 p4)), (.long (own_selJ I1 p3 p4)), ol]), .inr (.long, [(.long (p4 ^^^ (-1 : Int64))), (.long (own_selJ I0 p4 p3)), (.long (own_selJ I1 p4 p3)), ol])] (Is (some (.int (1 : Int32))) [.inr (.int, [(.int i0), (.int i1)]), .inr (.int, [(.int p0), (.int p1)]), .inr (.int, [(.int p1), (.int p2)]), .inr (.long, [(.long p3), (.long p4)]), .inr (.long, [(.long p4), (.long p3)]), .inr (.int, [(.int p2), (.int (own_selI I0 p0 p1)), (.int (own_selI I1 p0 p1)), oz]), .inr (.int, [(.int p0), (.int (own_selI I0 p1 p2)), (.int (own_selI I1 p1 p2)), oz]), .inr (.long, [(.long (p3 ^^^ (-1 : Int64))), (.long (own_selJ I0 p3 p4)), (.long (own_selJ I1 p3 p4)), ol]), .inr (.long, [(.long (p4 ^^^ (-1 : Int64))), (.long (own_selJ I0 p4 p3)), (.long (own_selJ I1 p4 p3)), ol]), .inl (0, [(rf n0 10), (rf n0 11), (rf n0 12), (rf n0 13), (.int (2 : Int32))]), .inr (.int, [(.int p0), (.int p1)]), .inr (.int, [(.int p1), (.int p2)]), .inr (.long, [(.long p3), (.long p4)]), .inr (.long, [(.long p4), (.long p3)]), .inl (0, [(rf n0 15), (rf n0 16), (rf n0 17), (rf n0 18), (.int (3 : Int32))]), .inr (.int, [(.int p2), (.int (own_selI I0 p0 p1)), (.int (own_selI I1 p0 p1)), oz]), .inr (.int, [(.int p0), (.int (own_selI I0 p1 p2)), (.int (own_selI I1 p1 p2)), oz]), .inr (.long, [(.long (p3 ^^^ (-1 : Int64))), (.long (own_selJ I0 p3 p4)), (.long (own_selJ I1 p3 p4)), ol]), .inr (.long, [(.long (p4 ^^^ (-1 : Int64))), (.long (own_selJ I0 p4 p3)), (.long (own_selJ I1 p4 p3)), ol])]) := by
  refine Met.of (a0 := a0) (ls := #[.val (rf n0 17), .val (rf n0 7)]) (kok hw) (plainFor_of_name pn_24) (fun m => by first | (simp [entryFrame, mkF, argsToLocals, Value.category]; done) | rfl) (fun G H => ?_)
  refine H.aloadN s12_0 rfl rfl ?_
  refine H.arraylength s12_1 (i := 17) rfl (z := (4 : Int32)) rfl ?_
  refine H.iconst s12_2 (v := (4 : Int32)) (by decide) ?_
  refine H.icmpF s12_3 (show (4 : Int32) = (4 : Int32) by decide) ?_
  refine H.aloadN s12_6 rfl rfl ?_
  refine H.iconst s12_7 (v := (0 : Int32)) (by decide) ?_
  refine H.laload s12_8 (i := 17) (j := 0) rfl (by decide) (v := (.long (p3 ^^^ (-1 : Int64)))) rfl ?_
  refine H.aloadN s12_9 rfl rfl ?_
  refine H.iconst s12_10 (v := (0 : Int32)) (by decide) ?_
  refine H.laload s12_11 (i := 7) (j := 0) rfl (by decide) (v := (.long (p3 ^^^ (-1 : Int64)))) rfl ?_
  refine H.lifF s12_12 s12_13 rfl ?_
  refine H.aloadN s12_16 rfl rfl ?_
  refine H.iconst s12_17 (v := (1 : Int32)) (by decide) ?_
  refine H.laload s12_18 (i := 17) (j := 1) rfl (by decide) (v := (.long (own_selJ I0 p3 p4))) rfl ?_
  refine H.aloadN s12_19 rfl rfl ?_
  refine H.iconst s12_20 (v := (1 : Int32)) (by decide) ?_
  refine H.laload s12_21 (i := 7) (j := 1) rfl (by decide) (v := (.long (own_selJ I0 p3 p4))) rfl ?_
  refine H.lifF s12_22 s12_23 rfl ?_
  refine H.aloadN s12_26 rfl rfl ?_
  refine H.iconst s12_27 (v := (2 : Int32)) (by decide) ?_
  refine H.laload s12_28 (i := 17) (j := 2) rfl (by decide) (v := (.long (own_selJ I1 p3 p4))) rfl ?_
  refine H.aloadN s12_29 rfl rfl ?_
  refine H.iconst s12_30 (v := (2 : Int32)) (by decide) ?_
  refine H.laload s12_31 (i := 7) (j := 2) rfl (by decide) (v := (.long (own_selJ I1 p3 p4))) rfl ?_
  refine H.lifF s12_32 s12_33 rfl ?_
  refine H.aloadN s12_36 rfl rfl ?_
  refine H.iconst s12_37 (v := (3 : Int32)) (by decide) ?_
  refine H.laload s12_38 (i := 17) (j := 3) rfl (by decide) (v := ol) rfl ?_
  refine H.aloadN s12_39 rfl rfl ?_
  refine H.iconst s12_40 (v := (3 : Int32)) (by decide) ?_
  refine H.laload s12_41 (i := 7) (j := 3) rfl (by decide) (v := ol) rfl ?_
  refine H.lifF s12_42 s12_43 (show (0 : Int64) = (0 : Int64) by decide) ?_
  refine H.iconst s12_46 (v := (1 : Int32)) (by decide) ?_
  refine H.goto s12_47 ?_
  exact H.ireturn s12_51 rfl (by simp) rfl ⟨rfl, rfl⟩ (by decide) (by decide)


set_option maxRecDepth 65536 in
set_option maxHeartbeats 40000000 in
theorem a_109 (l : Launch) {Z : State} {a0 : Array Value} (hw : HW1 Z a0) (n0 : Nat) (p0 : Int32) (p1 : Int32) (p2 : Int32) (p3 : Int64) (p4 : Int64) (i0 : Int32) (i1 : Int32) (I0 : Nat) (I1 : Nat) : Met l Z KT n0 y12 method_5_code 2 (some .boolean) ({ frames := 0, cells := 0, slots := 0, locals := 0 } : Room) #[(rf n0 18), (rf n0 8)] [.inr (.int, [(.int i0), (.int i1)]), .inr (.int, [(.int p0), (.int p1)]), .inr (.int, [(.int p1), (.int p2)]), .inr (.long, [(.long p3), (.long p4)]), .inr (.long, [(.long p4), (.long p3)]), .inr (.int, [(.int p2), (.int (own_selI I0 p0 p1)), (.int (own_selI I1 p0 p1)), oz]), .inr (.int, [(.int p0), (.int (own_selI I0 p1 p2)), (.int (own_selI I1 p1 p2)), oz]), .inr (.long, [(.long (p3 ^^^ (-1 : Int64))), (.long (own_selJ I0 p3 p4)), (.long (own_selJ I1 p3 p4)), ol]), .inr (.long, [(.long (p4 ^^^ (-1 : Int64))), (.long (own_selJ I0 p4 p3)), (.long (own_selJ I1 p4 p3)), ol]), .inl (0, [(rf n0 10), (rf n0 11), (rf n0 12), (rf n0 13), (.int (2 : Int32))]), .inr (.int, [(.int p0), (.int p1)]), .inr (.int, [(.int p1), (.int p2)]), .inr (.long, [(.long p3), (.long p4)]), .inr (.long, [(.long p4), (.long p3)]), .inl (0, [(rf n0 15), (rf n0 16), (rf n0 17), (rf n0 18), (.int (3 : Int32))]), .inr (.int, [(.int p2), (.int (own_selI I0 p0 p1)), (.int (own_selI I1 p0 p1)), oz]), .inr (.int, [(.int p0), (.int (own_selI I0 p1 p2)), (.int (own_selI I1 p1 p2)), oz]), .inr (.long, [(.long (p3 ^^^ (-1 : Int64))), (.long (own_selJ I0 p3 p4)), (.long (own_selJ I1 p3 p4)), ol]), .inr (.long, [(.long (p4 ^^^ (-1 : Int64))), (.long (own_selJ I0 p4 p3)), (.long (own_selJ I1 p4 p3)), ol])] (Is (some (.int (1 : Int32))) [.inr (.int, [(.int i0), (.int i1)]), .inr (.int, [(.int p0), (.int p1)]), .inr (.int, [(.int p1), (.int p2)]), .inr (.long, [(.long p3), (.long p4)]), .inr (.long, [(.long p4), (.long p3)]), .inr (.int, [(.int p2), (.int (own_selI I0 p0 p1)), (.int (own_selI I1 p0 p1)), oz]), .inr (.int, [(.int p0), (.int (own_selI I0 p1 p2)), (.int (own_selI I1 p1 p2)), oz]), .inr (.long, [(.long (p3 ^^^ (-1 : Int64))), (.long (own_selJ I0 p3 p4)), (.long (own_selJ I1 p3 p4)), ol]), .inr (.long, [(.long (p4 ^^^ (-1 : Int64))), (.long (own_selJ I0 p4 p3)), (.long (own_selJ I1 p4 p3)), ol]), .inl (0, [(rf n0 10), (rf n0 11), (rf n0 12), (rf n0 13), (.int (2 : Int32))]), .inr (.int, [(.int p0), (.int p1)]), .inr (.int, [(.int p1), (.int p2)]), .inr (.long, [(.long p3), (.long p4)]), .inr (.long, [(.long p4), (.long p3)]), .inl (0, [(rf n0 15), (rf n0 16), (rf n0 17), (rf n0 18), (.int (3 : Int32))]), .inr (.int, [(.int p2), (.int (own_selI I0 p0 p1)), (.int (own_selI I1 p0 p1)), oz]), .inr (.int, [(.int p0), (.int (own_selI I0 p1 p2)), (.int (own_selI I1 p1 p2)), oz]), .inr (.long, [(.long (p3 ^^^ (-1 : Int64))), (.long (own_selJ I0 p3 p4)), (.long (own_selJ I1 p3 p4)), ol]), .inr (.long, [(.long (p4 ^^^ (-1 : Int64))), (.long (own_selJ I0 p4 p3)), (.long (own_selJ I1 p4 p3)), ol])]) := by
  refine Met.of (a0 := a0) (ls := #[.val (rf n0 18), .val (rf n0 8)]) (kok hw) (plainFor_of_name pn_24) (fun m => by first | (simp [entryFrame, mkF, argsToLocals, Value.category]; done) | rfl) (fun G H => ?_)
  refine H.aloadN s12_0 rfl rfl ?_
  refine H.arraylength s12_1 (i := 18) rfl (z := (4 : Int32)) rfl ?_
  refine H.iconst s12_2 (v := (4 : Int32)) (by decide) ?_
  refine H.icmpF s12_3 (show (4 : Int32) = (4 : Int32) by decide) ?_
  refine H.aloadN s12_6 rfl rfl ?_
  refine H.iconst s12_7 (v := (0 : Int32)) (by decide) ?_
  refine H.laload s12_8 (i := 18) (j := 0) rfl (by decide) (v := (.long (p4 ^^^ (-1 : Int64)))) rfl ?_
  refine H.aloadN s12_9 rfl rfl ?_
  refine H.iconst s12_10 (v := (0 : Int32)) (by decide) ?_
  refine H.laload s12_11 (i := 8) (j := 0) rfl (by decide) (v := (.long (p4 ^^^ (-1 : Int64)))) rfl ?_
  refine H.lifF s12_12 s12_13 rfl ?_
  refine H.aloadN s12_16 rfl rfl ?_
  refine H.iconst s12_17 (v := (1 : Int32)) (by decide) ?_
  refine H.laload s12_18 (i := 18) (j := 1) rfl (by decide) (v := (.long (own_selJ I0 p4 p3))) rfl ?_
  refine H.aloadN s12_19 rfl rfl ?_
  refine H.iconst s12_20 (v := (1 : Int32)) (by decide) ?_
  refine H.laload s12_21 (i := 8) (j := 1) rfl (by decide) (v := (.long (own_selJ I0 p4 p3))) rfl ?_
  refine H.lifF s12_22 s12_23 rfl ?_
  refine H.aloadN s12_26 rfl rfl ?_
  refine H.iconst s12_27 (v := (2 : Int32)) (by decide) ?_
  refine H.laload s12_28 (i := 18) (j := 2) rfl (by decide) (v := (.long (own_selJ I1 p4 p3))) rfl ?_
  refine H.aloadN s12_29 rfl rfl ?_
  refine H.iconst s12_30 (v := (2 : Int32)) (by decide) ?_
  refine H.laload s12_31 (i := 8) (j := 2) rfl (by decide) (v := (.long (own_selJ I1 p4 p3))) rfl ?_
  refine H.lifF s12_32 s12_33 rfl ?_
  refine H.aloadN s12_36 rfl rfl ?_
  refine H.iconst s12_37 (v := (3 : Int32)) (by decide) ?_
  refine H.laload s12_38 (i := 18) (j := 3) rfl (by decide) (v := ol) rfl ?_
  refine H.aloadN s12_39 rfl rfl ?_
  refine H.iconst s12_40 (v := (3 : Int32)) (by decide) ?_
  refine H.laload s12_41 (i := 8) (j := 3) rfl (by decide) (v := ol) rfl ?_
  refine H.lifF s12_42 s12_43 (show (0 : Int64) = (0 : Int64) by decide) ?_
  refine H.iconst s12_46 (v := (1 : Int32)) (by decide) ?_
  refine H.goto s12_47 ?_
  exact H.ireturn s12_51 rfl (by simp) rfl ⟨rfl, rfl⟩ (by decide) (by decide)


set_option maxRecDepth 65536 in
set_option maxHeartbeats 40000000 in
theorem a_110 (l : Launch) {Z : State} {a0 : Array Value} (hw : HW1 Z a0) (n0 : Nat) (p0 : Int32) (p1 : Int32) (p2 : Int32) (p3 : Int64) (p4 : Int64) (i0 : Int32) (i1 : Int32) (i2 : Int32) {I0 : Nat} (hI0 : i0.toInt = (I0 : Int)) (lI0 : I0 < 2) {I1 : Nat} (hI1 : i1.toInt = (I1 : Int)) (lI1 : I1 < 2) {I2 : Nat} (hI2 : i2.toInt = (I2 : Int)) (lI2 : I2 < 2) : Met l Z KT n0 y1 method_3_code 10 none ({ frames := 0, cells := 0, slots := 0, locals := 0 } : Room) #[(rf n0 5), (rf n0 6), (rf n0 7), (rf n0 8), (.int (1 : Int32)), (.int i0), (rf n0 1), (rf n0 2), (rf n0 3), (rf n0 4)] [.inr (.int, [(.int i0), (.int i1), (.int i2)]), .inr (.int, [(.int p0), (.int p1)]), .inr (.int, [(.int p1), (.int p2)]), .inr (.long, [(.long p3), (.long p4)]), .inr (.long, [(.long p4), (.long p3)]), .inr (.int, [(.int p2), oz, oz, oz]), .inr (.int, [(.int p0), oz, oz, oz]), .inr (.long, [(.long (p3 ^^^ (-1 : Int64))), ol, ol, ol]), .inr (.long, [(.long (p4 ^^^ (-1 : Int64))), ol, ol, ol])] (Is none [.inr (.int, [(.int i0), (.int i1), (.int i2)]), .inr (.int, [(.int p0), (.int p1)]), .inr (.int, [(.int p1), (.int p2)]), .inr (.long, [(.long p3), (.long p4)]), .inr (.long, [(.long p4), (.long p3)]), .inr (.int, [(.int p2), (.int (own_selI I0 p0 p1)), oz, oz]), .inr (.int, [(.int p0), (.int (own_selI I0 p1 p2)), oz, oz]), .inr (.long, [(.long (p3 ^^^ (-1 : Int64))), (.long (own_selJ I0 p3 p4)), ol, ol]), .inr (.long, [(.long (p4 ^^^ (-1 : Int64))), (.long (own_selJ I0 p4 p3)), ol, ol])]) := by
  refine Met.of (a0 := a0) (ls := #[.val (rf n0 5), .val (rf n0 6), .val (rf n0 7), .val (rf n0 8), .val (.int (1 : Int32)), .val (.int i0), .val (rf n0 1), .val (rf n0 2), .val (rf n0 3), .val (rf n0 4)]) (kok hw) (plainFor_of_name pn_24) (fun m => by first | (simp [entryFrame, mkF, argsToLocals, Value.category]; done) | rfl) (fun G H => ?_)
  refine H.aloadN s1_0 rfl rfl ?_
  refine H.iload s1_1 rfl ?_
  refine H.aload s1_3 rfl rfl ?_
  refine H.iload s1_5 rfl ?_
  refine H.iaload s1_7 (i := 1) (j := I0) rfl hI0 (v := (.int (own_selI I0 p0 p1))) (own_gI lI0) ?_
  refine H.iastore s1_8 (i := 5) (j := 1) rfl (by decide) (ltb rfl)  rfl ?_
  refine H.aloadN s1_9 rfl rfl ?_
  refine H.iload s1_10 rfl ?_
  refine H.aload s1_12 rfl rfl ?_
  refine H.iload s1_14 rfl ?_
  refine H.iaload s1_16 (i := 2) (j := I0) rfl hI0 (v := (.int (own_selI I0 p1 p2))) (own_gI lI0) ?_
  refine H.iastore s1_17 (i := 6) (j := 1) rfl (by decide) (ltb rfl)  rfl ?_
  refine H.aloadN s1_18 rfl rfl ?_
  refine H.iload s1_19 rfl ?_
  refine H.aload s1_21 rfl rfl ?_
  refine H.iload s1_23 rfl ?_
  refine H.laload s1_25 (i := 3) (j := I0) rfl hI0 (v := (.long (own_selJ I0 p3 p4))) (own_gJ lI0) ?_
  refine H.lastore s1_26 (i := 7) (j := 1) rfl (by decide) (ltb rfl)  rfl ?_
  refine H.aloadN s1_27 rfl rfl ?_
  refine H.iload s1_28 rfl ?_
  refine H.aload s1_30 rfl rfl ?_
  refine H.iload s1_32 rfl ?_
  refine H.laload s1_34 (i := 4) (j := I0) rfl hI0 (v := (.long (own_selJ I0 p4 p3))) (own_gJ lI0) ?_
  refine H.lastore s1_35 (i := 8) (j := 1) rfl (by decide) (ltb rfl)  rfl ?_
  exact H.vreturn s1_36 rfl ⟨rfl, rfl⟩ (by decide) (by decide)


set_option maxRecDepth 65536 in
set_option maxHeartbeats 40000000 in
theorem a_111 (l : Launch) {Z : State} {a0 : Array Value} (hw : HW1 Z a0) (n0 : Nat) (p0 : Int32) (p1 : Int32) (p2 : Int32) (p3 : Int64) (p4 : Int64) (i0 : Int32) (i1 : Int32) (i2 : Int32) (I0 : Nat) (hI0 : i0.toInt = (I0 : Int)) (lI0 : I0 < 2) {I1 : Nat} (hI1 : i1.toInt = (I1 : Int)) (lI1 : I1 < 2) {I2 : Nat} (hI2 : i2.toInt = (I2 : Int)) (lI2 : I2 < 2) : Met l Z KT n0 y1 method_3_code 10 none ({ frames := 0, cells := 0, slots := 0, locals := 0 } : Room) #[(rf n0 5), (rf n0 6), (rf n0 7), (rf n0 8), (.int (2 : Int32)), (.int i1), (rf n0 1), (rf n0 2), (rf n0 3), (rf n0 4)] [.inr (.int, [(.int i0), (.int i1), (.int i2)]), .inr (.int, [(.int p0), (.int p1)]), .inr (.int, [(.int p1), (.int p2)]), .inr (.long, [(.long p3), (.long p4)]), .inr (.long, [(.long p4), (.long p3)]), .inr (.int, [(.int p2), (.int (own_selI I0 p0 p1)), oz, oz]), .inr (.int, [(.int p0), (.int (own_selI I0 p1 p2)), oz, oz]), .inr (.long, [(.long (p3 ^^^ (-1 : Int64))), (.long (own_selJ I0 p3 p4)), ol, ol]), .inr (.long, [(.long (p4 ^^^ (-1 : Int64))), (.long (own_selJ I0 p4 p3)), ol, ol])] (Is none [.inr (.int, [(.int i0), (.int i1), (.int i2)]), .inr (.int, [(.int p0), (.int p1)]), .inr (.int, [(.int p1), (.int p2)]), .inr (.long, [(.long p3), (.long p4)]), .inr (.long, [(.long p4), (.long p3)]), .inr (.int, [(.int p2), (.int (own_selI I0 p0 p1)), (.int (own_selI I1 p0 p1)), oz]), .inr (.int, [(.int p0), (.int (own_selI I0 p1 p2)), (.int (own_selI I1 p1 p2)), oz]), .inr (.long, [(.long (p3 ^^^ (-1 : Int64))), (.long (own_selJ I0 p3 p4)), (.long (own_selJ I1 p3 p4)), ol]), .inr (.long, [(.long (p4 ^^^ (-1 : Int64))), (.long (own_selJ I0 p4 p3)), (.long (own_selJ I1 p4 p3)), ol])]) := by
  refine Met.of (a0 := a0) (ls := #[.val (rf n0 5), .val (rf n0 6), .val (rf n0 7), .val (rf n0 8), .val (.int (2 : Int32)), .val (.int i1), .val (rf n0 1), .val (rf n0 2), .val (rf n0 3), .val (rf n0 4)]) (kok hw) (plainFor_of_name pn_24) (fun m => by first | (simp [entryFrame, mkF, argsToLocals, Value.category]; done) | rfl) (fun G H => ?_)
  refine H.aloadN s1_0 rfl rfl ?_
  refine H.iload s1_1 rfl ?_
  refine H.aload s1_3 rfl rfl ?_
  refine H.iload s1_5 rfl ?_
  refine H.iaload s1_7 (i := 1) (j := I1) rfl hI1 (v := (.int (own_selI I1 p0 p1))) (own_gI lI1) ?_
  refine H.iastore s1_8 (i := 5) (j := 2) rfl (by decide) (ltb rfl)  rfl ?_
  refine H.aloadN s1_9 rfl rfl ?_
  refine H.iload s1_10 rfl ?_
  refine H.aload s1_12 rfl rfl ?_
  refine H.iload s1_14 rfl ?_
  refine H.iaload s1_16 (i := 2) (j := I1) rfl hI1 (v := (.int (own_selI I1 p1 p2))) (own_gI lI1) ?_
  refine H.iastore s1_17 (i := 6) (j := 2) rfl (by decide) (ltb rfl)  rfl ?_
  refine H.aloadN s1_18 rfl rfl ?_
  refine H.iload s1_19 rfl ?_
  refine H.aload s1_21 rfl rfl ?_
  refine H.iload s1_23 rfl ?_
  refine H.laload s1_25 (i := 3) (j := I1) rfl hI1 (v := (.long (own_selJ I1 p3 p4))) (own_gJ lI1) ?_
  refine H.lastore s1_26 (i := 7) (j := 2) rfl (by decide) (ltb rfl)  rfl ?_
  refine H.aloadN s1_27 rfl rfl ?_
  refine H.iload s1_28 rfl ?_
  refine H.aload s1_30 rfl rfl ?_
  refine H.iload s1_32 rfl ?_
  refine H.laload s1_34 (i := 4) (j := I1) rfl hI1 (v := (.long (own_selJ I1 p4 p3))) (own_gJ lI1) ?_
  refine H.lastore s1_35 (i := 8) (j := 2) rfl (by decide) (ltb rfl)  rfl ?_
  exact H.vreturn s1_36 rfl ⟨rfl, rfl⟩ (by decide) (by decide)


set_option maxRecDepth 65536 in
set_option maxHeartbeats 40000000 in
theorem a_112 (l : Launch) {Z : State} {a0 : Array Value} (hw : HW1 Z a0) (n0 : Nat) (p0 : Int32) (p1 : Int32) (p2 : Int32) (p3 : Int64) (p4 : Int64) (i0 : Int32) (i1 : Int32) (i2 : Int32) (I0 : Nat) (I1 : Nat) (hI0 : i0.toInt = (I0 : Int)) (lI0 : I0 < 2) (hI1 : i1.toInt = (I1 : Int)) (lI1 : I1 < 2) {I2 : Nat} (hI2 : i2.toInt = (I2 : Int)) (lI2 : I2 < 2) : Met l Z KT n0 y1 method_3_code 10 none ({ frames := 0, cells := 0, slots := 0, locals := 0 } : Room) #[(rf n0 5), (rf n0 6), (rf n0 7), (rf n0 8), (.int (3 : Int32)), (.int i2), (rf n0 1), (rf n0 2), (rf n0 3), (rf n0 4)] [.inr (.int, [(.int i0), (.int i1), (.int i2)]), .inr (.int, [(.int p0), (.int p1)]), .inr (.int, [(.int p1), (.int p2)]), .inr (.long, [(.long p3), (.long p4)]), .inr (.long, [(.long p4), (.long p3)]), .inr (.int, [(.int p2), (.int (own_selI I0 p0 p1)), (.int (own_selI I1 p0 p1)), oz]), .inr (.int, [(.int p0), (.int (own_selI I0 p1 p2)), (.int (own_selI I1 p1 p2)), oz]), .inr (.long, [(.long (p3 ^^^ (-1 : Int64))), (.long (own_selJ I0 p3 p4)), (.long (own_selJ I1 p3 p4)), ol]), .inr (.long, [(.long (p4 ^^^ (-1 : Int64))), (.long (own_selJ I0 p4 p3)), (.long (own_selJ I1 p4 p3)), ol])] (Is none [.inr (.int, [(.int i0), (.int i1), (.int i2)]), .inr (.int, [(.int p0), (.int p1)]), .inr (.int, [(.int p1), (.int p2)]), .inr (.long, [(.long p3), (.long p4)]), .inr (.long, [(.long p4), (.long p3)]), .inr (.int, [(.int p2), (.int (own_selI I0 p0 p1)), (.int (own_selI I1 p0 p1)), (.int (own_selI I2 p0 p1))]), .inr (.int, [(.int p0), (.int (own_selI I0 p1 p2)), (.int (own_selI I1 p1 p2)), (.int (own_selI I2 p1 p2))]), .inr (.long, [(.long (p3 ^^^ (-1 : Int64))), (.long (own_selJ I0 p3 p4)), (.long (own_selJ I1 p3 p4)), (.long (own_selJ I2 p3 p4))]), .inr (.long, [(.long (p4 ^^^ (-1 : Int64))), (.long (own_selJ I0 p4 p3)), (.long (own_selJ I1 p4 p3)), (.long (own_selJ I2 p4 p3))])]) := by
  refine Met.of (a0 := a0) (ls := #[.val (rf n0 5), .val (rf n0 6), .val (rf n0 7), .val (rf n0 8), .val (.int (3 : Int32)), .val (.int i2), .val (rf n0 1), .val (rf n0 2), .val (rf n0 3), .val (rf n0 4)]) (kok hw) (plainFor_of_name pn_24) (fun m => by first | (simp [entryFrame, mkF, argsToLocals, Value.category]; done) | rfl) (fun G H => ?_)
  refine H.aloadN s1_0 rfl rfl ?_
  refine H.iload s1_1 rfl ?_
  refine H.aload s1_3 rfl rfl ?_
  refine H.iload s1_5 rfl ?_
  refine H.iaload s1_7 (i := 1) (j := I2) rfl hI2 (v := (.int (own_selI I2 p0 p1))) (own_gI lI2) ?_
  refine H.iastore s1_8 (i := 5) (j := 3) rfl (by decide) (ltb rfl)  rfl ?_
  refine H.aloadN s1_9 rfl rfl ?_
  refine H.iload s1_10 rfl ?_
  refine H.aload s1_12 rfl rfl ?_
  refine H.iload s1_14 rfl ?_
  refine H.iaload s1_16 (i := 2) (j := I2) rfl hI2 (v := (.int (own_selI I2 p1 p2))) (own_gI lI2) ?_
  refine H.iastore s1_17 (i := 6) (j := 3) rfl (by decide) (ltb rfl)  rfl ?_
  refine H.aloadN s1_18 rfl rfl ?_
  refine H.iload s1_19 rfl ?_
  refine H.aload s1_21 rfl rfl ?_
  refine H.iload s1_23 rfl ?_
  refine H.laload s1_25 (i := 3) (j := I2) rfl hI2 (v := (.long (own_selJ I2 p3 p4))) (own_gJ lI2) ?_
  refine H.lastore s1_26 (i := 7) (j := 3) rfl (by decide) (ltb rfl)  rfl ?_
  refine H.aloadN s1_27 rfl rfl ?_
  refine H.iload s1_28 rfl ?_
  refine H.aload s1_30 rfl rfl ?_
  refine H.iload s1_32 rfl ?_
  refine H.laload s1_34 (i := 4) (j := I2) rfl hI2 (v := (.long (own_selJ I2 p4 p3))) (own_gJ lI2) ?_
  refine H.lastore s1_35 (i := 8) (j := 3) rfl (by decide) (ltb rfl)  rfl ?_
  exact H.vreturn s1_36 rfl ⟨rfl, rfl⟩ (by decide) (by decide)


set_option maxRecDepth 65536 in
set_option maxHeartbeats 40000000 in
theorem a_113 (l : Launch) {Z : State} {a0 : Array Value} (hw : HW1 Z a0) (n0 : Nat) (p0 : Int32) (p1 : Int32) (p2 : Int32) (p3 : Int64) (p4 : Int64) (i0 : Int32) (i1 : Int32) (i2 : Int32) (I0 : Nat) (I1 : Nat) (I2 : Nat) : Met l Z KT n0 y2 prog_15_method_1_code 2 none ({ frames := 1, cells := 4, slots := 8, locals := 12 } : Room) #[(rf n0 9), (.int (2 : Int32))] [.inr (.int, [(.int i0), (.int i1), (.int i2)]), .inr (.int, [(.int p0), (.int p1)]), .inr (.int, [(.int p1), (.int p2)]), .inr (.long, [(.long p3), (.long p4)]), .inr (.long, [(.long p4), (.long p3)]), .inr (.int, [(.int p2), (.int (own_selI I0 p0 p1)), (.int (own_selI I1 p0 p1)), (.int (own_selI I2 p0 p1))]), .inr (.int, [(.int p0), (.int (own_selI I0 p1 p2)), (.int (own_selI I1 p1 p2)), (.int (own_selI I2 p1 p2))]), .inr (.long, [(.long (p3 ^^^ (-1 : Int64))), (.long (own_selJ I0 p3 p4)), (.long (own_selJ I1 p3 p4)), (.long (own_selJ I2 p3 p4))]), .inr (.long, [(.long (p4 ^^^ (-1 : Int64))), (.long (own_selJ I0 p4 p3)), (.long (own_selJ I1 p4 p3)), (.long (own_selJ I2 p4 p3))]), .inl (0, [.null, .null, .null, .null, oz])] (Is none [.inr (.int, [(.int i0), (.int i1), (.int i2)]), .inr (.int, [(.int p0), (.int p1)]), .inr (.int, [(.int p1), (.int p2)]), .inr (.long, [(.long p3), (.long p4)]), .inr (.long, [(.long p4), (.long p3)]), .inr (.int, [(.int p2), (.int (own_selI I0 p0 p1)), (.int (own_selI I1 p0 p1)), (.int (own_selI I2 p0 p1))]), .inr (.int, [(.int p0), (.int (own_selI I0 p1 p2)), (.int (own_selI I1 p1 p2)), (.int (own_selI I2 p1 p2))]), .inr (.long, [(.long (p3 ^^^ (-1 : Int64))), (.long (own_selJ I0 p3 p4)), (.long (own_selJ I1 p3 p4)), (.long (own_selJ I2 p3 p4))]), .inr (.long, [(.long (p4 ^^^ (-1 : Int64))), (.long (own_selJ I0 p4 p3)), (.long (own_selJ I1 p4 p3)), (.long (own_selJ I2 p4 p3))]), .inl (0, [(rf n0 10), (rf n0 11), (rf n0 12), (rf n0 13), oz]), .inr (.int, [oz, oz]), .inr (.int, [oz, oz]), .inr (.long, [ol, ol]), .inr (.long, [ol, ol])]) := by
  refine Met.of (a0 := a0) (ls := #[.val (rf n0 9), .val (.int (2 : Int32))]) (kok hw) (plainFor_of_name pn_8) (fun m => by first | (simp [entryFrame, mkF, argsToLocals, Value.category]; done) | rfl) (fun G H => ?_)
  refine H.aloadN s2_0 rfl rfl ?_
  refine H.initO s2_1 (k_3 hw) rfl (leb rfl) (leb rfl) ?_
  refine H.aloadN s2_4 rfl rfl ?_
  refine H.iloadN s2_5 rfl ?_
  refine H.newarray s2_6 (ty := .int) rfl (k_0 hw) (N := 2) (cap := 2) (by decide) rfl (by decide) (by decide) (by first | rfl | simp) (by decide) (by decide) (i := 10) rfl (A' := [.inr (.int, [(.int i0), (.int i1), (.int i2)]), .inr (.int, [(.int p0), (.int p1)]), .inr (.int, [(.int p1), (.int p2)]), .inr (.long, [(.long p3), (.long p4)]), .inr (.long, [(.long p4), (.long p3)]), .inr (.int, [(.int p2), (.int (own_selI I0 p0 p1)), (.int (own_selI I1 p0 p1)), (.int (own_selI I2 p0 p1))]), .inr (.int, [(.int p0), (.int (own_selI I0 p1 p2)), (.int (own_selI I1 p1 p2)), (.int (own_selI I2 p1 p2))]), .inr (.long, [(.long (p3 ^^^ (-1 : Int64))), (.long (own_selJ I0 p3 p4)), (.long (own_selJ I1 p3 p4)), (.long (own_selJ I2 p3 p4))]), .inr (.long, [(.long (p4 ^^^ (-1 : Int64))), (.long (own_selJ I0 p4 p3)), (.long (own_selJ I1 p4 p3)), (.long (own_selJ I2 p4 p3))]), .inl (0, [.null, .null, .null, .null, oz]), .inr (.int, [oz, oz])]) rfl (k' := 1) rfl (n' := 2) rfl ?_
  refine H.putfield s2_8 (k_4 hw) (i := 9) rfl rfl rfl rfl ?_
  refine H.aloadN s2_11 rfl rfl ?_
  refine H.iloadN s2_12 rfl ?_
  refine H.newarray s2_13 (ty := .int) rfl (k_0 hw) (N := 2) (cap := 2) (by decide) rfl (by decide) (by decide) (by first | rfl | simp) (by decide) (by decide) (i := 11) rfl (A' := [.inr (.int, [(.int i0), (.int i1), (.int i2)]), .inr (.int, [(.int p0), (.int p1)]), .inr (.int, [(.int p1), (.int p2)]), .inr (.long, [(.long p3), (.long p4)]), .inr (.long, [(.long p4), (.long p3)]), .inr (.int, [(.int p2), (.int (own_selI I0 p0 p1)), (.int (own_selI I1 p0 p1)), (.int (own_selI I2 p0 p1))]), .inr (.int, [(.int p0), (.int (own_selI I0 p1 p2)), (.int (own_selI I1 p1 p2)), (.int (own_selI I2 p1 p2))]), .inr (.long, [(.long (p3 ^^^ (-1 : Int64))), (.long (own_selJ I0 p3 p4)), (.long (own_selJ I1 p3 p4)), (.long (own_selJ I2 p3 p4))]), .inr (.long, [(.long (p4 ^^^ (-1 : Int64))), (.long (own_selJ I0 p4 p3)), (.long (own_selJ I1 p4 p3)), (.long (own_selJ I2 p4 p3))]), .inl (0, [(rf n0 10), .null, .null, .null, oz]), .inr (.int, [oz, oz]), .inr (.int, [oz, oz])]) rfl (k' := 2) rfl (n' := 4) rfl ?_
  refine H.putfield s2_15 (k_5 hw) (i := 9) rfl rfl rfl rfl ?_
  refine H.aloadN s2_18 rfl rfl ?_
  refine H.iloadN s2_19 rfl ?_
  refine H.newarray s2_20 (ty := .long) rfl (k_1 hw) (N := 2) (cap := 2) (by decide) rfl (by decide) (by decide) (by first | rfl | simp) (by decide) (by decide) (i := 12) rfl (A' := [.inr (.int, [(.int i0), (.int i1), (.int i2)]), .inr (.int, [(.int p0), (.int p1)]), .inr (.int, [(.int p1), (.int p2)]), .inr (.long, [(.long p3), (.long p4)]), .inr (.long, [(.long p4), (.long p3)]), .inr (.int, [(.int p2), (.int (own_selI I0 p0 p1)), (.int (own_selI I1 p0 p1)), (.int (own_selI I2 p0 p1))]), .inr (.int, [(.int p0), (.int (own_selI I0 p1 p2)), (.int (own_selI I1 p1 p2)), (.int (own_selI I2 p1 p2))]), .inr (.long, [(.long (p3 ^^^ (-1 : Int64))), (.long (own_selJ I0 p3 p4)), (.long (own_selJ I1 p3 p4)), (.long (own_selJ I2 p3 p4))]), .inr (.long, [(.long (p4 ^^^ (-1 : Int64))), (.long (own_selJ I0 p4 p3)), (.long (own_selJ I1 p4 p3)), (.long (own_selJ I2 p4 p3))]), .inl (0, [(rf n0 10), (rf n0 11), .null, .null, oz]), .inr (.int, [oz, oz]), .inr (.int, [oz, oz]), .inr (.long, [ol, ol])]) rfl (k' := 3) rfl (n' := 6) rfl ?_
  refine H.putfield s2_22 (k_6 hw) (i := 9) rfl rfl rfl rfl ?_
  refine H.aloadN s2_25 rfl rfl ?_
  refine H.iloadN s2_26 rfl ?_
  refine H.newarray s2_27 (ty := .long) rfl (k_1 hw) (N := 2) (cap := 2) (by decide) rfl (by decide) (by decide) (by first | rfl | simp) (by decide) (by decide) (i := 13) rfl (A' := [.inr (.int, [(.int i0), (.int i1), (.int i2)]), .inr (.int, [(.int p0), (.int p1)]), .inr (.int, [(.int p1), (.int p2)]), .inr (.long, [(.long p3), (.long p4)]), .inr (.long, [(.long p4), (.long p3)]), .inr (.int, [(.int p2), (.int (own_selI I0 p0 p1)), (.int (own_selI I1 p0 p1)), (.int (own_selI I2 p0 p1))]), .inr (.int, [(.int p0), (.int (own_selI I0 p1 p2)), (.int (own_selI I1 p1 p2)), (.int (own_selI I2 p1 p2))]), .inr (.long, [(.long (p3 ^^^ (-1 : Int64))), (.long (own_selJ I0 p3 p4)), (.long (own_selJ I1 p3 p4)), (.long (own_selJ I2 p3 p4))]), .inr (.long, [(.long (p4 ^^^ (-1 : Int64))), (.long (own_selJ I0 p4 p3)), (.long (own_selJ I1 p4 p3)), (.long (own_selJ I2 p4 p3))]), .inl (0, [(rf n0 10), (rf n0 11), (rf n0 12), .null, oz]), .inr (.int, [oz, oz]), .inr (.int, [oz, oz]), .inr (.long, [ol, ol]), .inr (.long, [ol, ol])]) rfl (k' := 4) rfl (n' := 8) rfl ?_
  refine H.putfield s2_29 (k_7 hw) (i := 9) rfl rfl rfl rfl ?_
  exact H.vreturn s2_32 rfl ⟨rfl, rfl⟩ (by decide) (by decide)


set_option maxRecDepth 65536 in
set_option maxHeartbeats 40000000 in
theorem a_114 (l : Launch) {Z : State} {a0 : Array Value} (hw : HW1 Z a0) (n0 : Nat) (p0 : Int32) (p1 : Int32) (p2 : Int32) (p3 : Int64) (p4 : Int64) (i0 : Int32) (i1 : Int32) (i2 : Int32) (I0 : Nat) (I1 : Nat) (I2 : Nat) : Met l Z KT n0 y4 prog_15_method_2_code 7 none ({ frames := 0, cells := 0, slots := 0, locals := 0 } : Room) #[(rf n0 9), (.int p0), (.int p1), (.long p3), (.long p4)] [.inr (.int, [(.int i0), (.int i1), (.int i2)]), .inr (.int, [(.int p0), (.int p1)]), .inr (.int, [(.int p1), (.int p2)]), .inr (.long, [(.long p3), (.long p4)]), .inr (.long, [(.long p4), (.long p3)]), .inr (.int, [(.int p2), (.int (own_selI I0 p0 p1)), (.int (own_selI I1 p0 p1)), (.int (own_selI I2 p0 p1))]), .inr (.int, [(.int p0), (.int (own_selI I0 p1 p2)), (.int (own_selI I1 p1 p2)), (.int (own_selI I2 p1 p2))]), .inr (.long, [(.long (p3 ^^^ (-1 : Int64))), (.long (own_selJ I0 p3 p4)), (.long (own_selJ I1 p3 p4)), (.long (own_selJ I2 p3 p4))]), .inr (.long, [(.long (p4 ^^^ (-1 : Int64))), (.long (own_selJ I0 p4 p3)), (.long (own_selJ I1 p4 p3)), (.long (own_selJ I2 p4 p3))]), .inl (0, [(rf n0 10), (rf n0 11), (rf n0 12), (rf n0 13), oz]), .inr (.int, [oz, oz]), .inr (.int, [oz, oz]), .inr (.long, [ol, ol]), .inr (.long, [ol, ol])] (Is none [.inr (.int, [(.int i0), (.int i1), (.int i2)]), .inr (.int, [(.int p0), (.int p1)]), .inr (.int, [(.int p1), (.int p2)]), .inr (.long, [(.long p3), (.long p4)]), .inr (.long, [(.long p4), (.long p3)]), .inr (.int, [(.int p2), (.int (own_selI I0 p0 p1)), (.int (own_selI I1 p0 p1)), (.int (own_selI I2 p0 p1))]), .inr (.int, [(.int p0), (.int (own_selI I0 p1 p2)), (.int (own_selI I1 p1 p2)), (.int (own_selI I2 p1 p2))]), .inr (.long, [(.long (p3 ^^^ (-1 : Int64))), (.long (own_selJ I0 p3 p4)), (.long (own_selJ I1 p3 p4)), (.long (own_selJ I2 p3 p4))]), .inr (.long, [(.long (p4 ^^^ (-1 : Int64))), (.long (own_selJ I0 p4 p3)), (.long (own_selJ I1 p4 p3)), (.long (own_selJ I2 p4 p3))]), .inl (0, [(rf n0 10), (rf n0 11), (rf n0 12), (rf n0 13), (.int (1 : Int32))]), .inr (.int, [(.int p0), oz]), .inr (.int, [(.int p1), oz]), .inr (.long, [(.long p3), ol]), .inr (.long, [(.long p4), ol])]) := by
  refine Met.of (a0 := a0) (ls := #[.val (rf n0 9), .val (.int p0), .val (.int p1), .val (.long p3), .second, .val (.long p4), .second]) (kok hw) (plainFor_of_name pn_8) (fun m => by first | (simp [entryFrame, mkF, argsToLocals, Value.category]; done) | rfl) (fun G H => ?_)
  refine H.aloadN s4_0 rfl rfl ?_
  refine H.getfield s4_1 (k_10 hw) (i := 9) rfl rfl ?_
  refine H.aloadN s4_4 rfl rfl ?_
  refine H.getfield s4_5 (k_11 hw) (i := 9) rfl rfl ?_
  refine H.iloadN s4_8 rfl ?_
  refine H.iastore s4_9 (i := 10) (j := 0) rfl (by decide) (ltb rfl)  rfl ?_
  refine H.aloadN s4_10 rfl rfl ?_
  refine H.getfield s4_11 (k_12 hw) (i := 9) rfl rfl ?_
  refine H.aloadN s4_14 rfl rfl ?_
  refine H.getfield s4_15 (k_11 hw) (i := 9) rfl rfl ?_
  refine H.iloadN s4_18 rfl ?_
  refine H.iastore s4_19 (i := 11) (j := 0) rfl (by decide) (ltb rfl)  rfl ?_
  refine H.aloadN s4_20 rfl rfl ?_
  refine H.getfield s4_21 (k_13 hw) (i := 9) rfl rfl ?_
  refine H.aloadN s4_24 rfl rfl ?_
  refine H.getfield s4_25 (k_11 hw) (i := 9) rfl rfl ?_
  refine H.lloadN s4_28 rfl ?_
  refine H.lastore s4_29 (i := 12) (j := 0) rfl (by decide) (ltb rfl)  rfl ?_
  refine H.aloadN s4_30 rfl rfl ?_
  refine H.getfield s4_31 (k_14 hw) (i := 9) rfl rfl ?_
  refine H.aloadN s4_34 rfl rfl ?_
  refine H.getfield s4_35 (k_11 hw) (i := 9) rfl rfl ?_
  refine H.lload s4_38 rfl ?_
  refine H.lastore s4_40 (i := 13) (j := 0) rfl (by decide) (ltb rfl)  rfl ?_
  refine H.aloadN s4_41 rfl rfl ?_
  refine H.dup s4_42 rfl ?_
  refine H.getfield s4_43 (k_11 hw) (i := 9) rfl rfl ?_
  refine H.iconst s4_46 (v := (1 : Int32)) (by decide) ?_
  refine H.iadd s4_47 (w := (1 : Int32)) (by decide) ?_
  refine H.putfield s4_48 (k_15 hw) (i := 9) rfl rfl rfl rfl ?_
  exact H.vreturn s4_51 rfl ⟨rfl, rfl⟩ (by decide) (by decide)


set_option maxRecDepth 65536 in
set_option maxHeartbeats 40000000 in
theorem a_115 (l : Launch) {Z : State} {a0 : Array Value} (hw : HW1 Z a0) (n0 : Nat) (p0 : Int32) (p1 : Int32) (p2 : Int32) (p3 : Int64) (p4 : Int64) (i0 : Int32) (i1 : Int32) (i2 : Int32) (I0 : Nat) (I1 : Nat) (I2 : Nat) : Met l Z KT n0 y4 prog_15_method_2_code 7 none ({ frames := 0, cells := 0, slots := 0, locals := 0 } : Room) #[(rf n0 9), (.int p1), (.int p2), (.long p4), (.long p3)] [.inr (.int, [(.int i0), (.int i1), (.int i2)]), .inr (.int, [(.int p0), (.int p1)]), .inr (.int, [(.int p1), (.int p2)]), .inr (.long, [(.long p3), (.long p4)]), .inr (.long, [(.long p4), (.long p3)]), .inr (.int, [(.int p2), (.int (own_selI I0 p0 p1)), (.int (own_selI I1 p0 p1)), (.int (own_selI I2 p0 p1))]), .inr (.int, [(.int p0), (.int (own_selI I0 p1 p2)), (.int (own_selI I1 p1 p2)), (.int (own_selI I2 p1 p2))]), .inr (.long, [(.long (p3 ^^^ (-1 : Int64))), (.long (own_selJ I0 p3 p4)), (.long (own_selJ I1 p3 p4)), (.long (own_selJ I2 p3 p4))]), .inr (.long, [(.long (p4 ^^^ (-1 : Int64))), (.long (own_selJ I0 p4 p3)), (.long (own_selJ I1 p4 p3)), (.long (own_selJ I2 p4 p3))]), .inl (0, [(rf n0 10), (rf n0 11), (rf n0 12), (rf n0 13), (.int (1 : Int32))]), .inr (.int, [(.int p0), oz]), .inr (.int, [(.int p1), oz]), .inr (.long, [(.long p3), ol]), .inr (.long, [(.long p4), ol])] (Is none [.inr (.int, [(.int i0), (.int i1), (.int i2)]), .inr (.int, [(.int p0), (.int p1)]), .inr (.int, [(.int p1), (.int p2)]), .inr (.long, [(.long p3), (.long p4)]), .inr (.long, [(.long p4), (.long p3)]), .inr (.int, [(.int p2), (.int (own_selI I0 p0 p1)), (.int (own_selI I1 p0 p1)), (.int (own_selI I2 p0 p1))]), .inr (.int, [(.int p0), (.int (own_selI I0 p1 p2)), (.int (own_selI I1 p1 p2)), (.int (own_selI I2 p1 p2))]), .inr (.long, [(.long (p3 ^^^ (-1 : Int64))), (.long (own_selJ I0 p3 p4)), (.long (own_selJ I1 p3 p4)), (.long (own_selJ I2 p3 p4))]), .inr (.long, [(.long (p4 ^^^ (-1 : Int64))), (.long (own_selJ I0 p4 p3)), (.long (own_selJ I1 p4 p3)), (.long (own_selJ I2 p4 p3))]), .inl (0, [(rf n0 10), (rf n0 11), (rf n0 12), (rf n0 13), (.int (2 : Int32))]), .inr (.int, [(.int p0), (.int p1)]), .inr (.int, [(.int p1), (.int p2)]), .inr (.long, [(.long p3), (.long p4)]), .inr (.long, [(.long p4), (.long p3)])]) := by
  refine Met.of (a0 := a0) (ls := #[.val (rf n0 9), .val (.int p1), .val (.int p2), .val (.long p4), .second, .val (.long p3), .second]) (kok hw) (plainFor_of_name pn_8) (fun m => by first | (simp [entryFrame, mkF, argsToLocals, Value.category]; done) | rfl) (fun G H => ?_)
  refine H.aloadN s4_0 rfl rfl ?_
  refine H.getfield s4_1 (k_10 hw) (i := 9) rfl rfl ?_
  refine H.aloadN s4_4 rfl rfl ?_
  refine H.getfield s4_5 (k_11 hw) (i := 9) rfl rfl ?_
  refine H.iloadN s4_8 rfl ?_
  refine H.iastore s4_9 (i := 10) (j := 1) rfl (by decide) (ltb rfl)  rfl ?_
  refine H.aloadN s4_10 rfl rfl ?_
  refine H.getfield s4_11 (k_12 hw) (i := 9) rfl rfl ?_
  refine H.aloadN s4_14 rfl rfl ?_
  refine H.getfield s4_15 (k_11 hw) (i := 9) rfl rfl ?_
  refine H.iloadN s4_18 rfl ?_
  refine H.iastore s4_19 (i := 11) (j := 1) rfl (by decide) (ltb rfl)  rfl ?_
  refine H.aloadN s4_20 rfl rfl ?_
  refine H.getfield s4_21 (k_13 hw) (i := 9) rfl rfl ?_
  refine H.aloadN s4_24 rfl rfl ?_
  refine H.getfield s4_25 (k_11 hw) (i := 9) rfl rfl ?_
  refine H.lloadN s4_28 rfl ?_
  refine H.lastore s4_29 (i := 12) (j := 1) rfl (by decide) (ltb rfl)  rfl ?_
  refine H.aloadN s4_30 rfl rfl ?_
  refine H.getfield s4_31 (k_14 hw) (i := 9) rfl rfl ?_
  refine H.aloadN s4_34 rfl rfl ?_
  refine H.getfield s4_35 (k_11 hw) (i := 9) rfl rfl ?_
  refine H.lload s4_38 rfl ?_
  refine H.lastore s4_40 (i := 13) (j := 1) rfl (by decide) (ltb rfl)  rfl ?_
  refine H.aloadN s4_41 rfl rfl ?_
  refine H.dup s4_42 rfl ?_
  refine H.getfield s4_43 (k_11 hw) (i := 9) rfl rfl ?_
  refine H.iconst s4_46 (v := (1 : Int32)) (by decide) ?_
  refine H.iadd s4_47 (w := (2 : Int32)) (by decide) ?_
  refine H.putfield s4_48 (k_15 hw) (i := 9) rfl rfl rfl rfl ?_
  exact H.vreturn s4_51 rfl ⟨rfl, rfl⟩ (by decide) (by decide)


set_option maxRecDepth 65536 in
set_option maxHeartbeats 40000000 in
theorem a_116 (l : Launch) {Z : State} {a0 : Array Value} (hw : HW1 Z a0) (n0 : Nat) (p0 : Int32) (p1 : Int32) (p2 : Int32) (p3 : Int64) (p4 : Int64) (i0 : Int32) (i1 : Int32) (i2 : Int32) (I0 : Nat) (I1 : Nat) (I2 : Nat) : Met l Z KT n0 y2 prog_15_method_1_code 2 none ({ frames := 1, cells := 4, slots := 16, locals := 12 } : Room) #[(rf n0 14), (.int (4 : Int32))] [.inr (.int, [(.int i0), (.int i1), (.int i2)]), .inr (.int, [(.int p0), (.int p1)]), .inr (.int, [(.int p1), (.int p2)]), .inr (.long, [(.long p3), (.long p4)]), .inr (.long, [(.long p4), (.long p3)]), .inr (.int, [(.int p2), (.int (own_selI I0 p0 p1)), (.int (own_selI I1 p0 p1)), (.int (own_selI I2 p0 p1))]), .inr (.int, [(.int p0), (.int (own_selI I0 p1 p2)), (.int (own_selI I1 p1 p2)), (.int (own_selI I2 p1 p2))]), .inr (.long, [(.long (p3 ^^^ (-1 : Int64))), (.long (own_selJ I0 p3 p4)), (.long (own_selJ I1 p3 p4)), (.long (own_selJ I2 p3 p4))]), .inr (.long, [(.long (p4 ^^^ (-1 : Int64))), (.long (own_selJ I0 p4 p3)), (.long (own_selJ I1 p4 p3)), (.long (own_selJ I2 p4 p3))]), .inl (0, [(rf n0 10), (rf n0 11), (rf n0 12), (rf n0 13), (.int (2 : Int32))]), .inr (.int, [(.int p0), (.int p1)]), .inr (.int, [(.int p1), (.int p2)]), .inr (.long, [(.long p3), (.long p4)]), .inr (.long, [(.long p4), (.long p3)]), .inl (0, [.null, .null, .null, .null, oz])] (Is none [.inr (.int, [(.int i0), (.int i1), (.int i2)]), .inr (.int, [(.int p0), (.int p1)]), .inr (.int, [(.int p1), (.int p2)]), .inr (.long, [(.long p3), (.long p4)]), .inr (.long, [(.long p4), (.long p3)]), .inr (.int, [(.int p2), (.int (own_selI I0 p0 p1)), (.int (own_selI I1 p0 p1)), (.int (own_selI I2 p0 p1))]), .inr (.int, [(.int p0), (.int (own_selI I0 p1 p2)), (.int (own_selI I1 p1 p2)), (.int (own_selI I2 p1 p2))]), .inr (.long, [(.long (p3 ^^^ (-1 : Int64))), (.long (own_selJ I0 p3 p4)), (.long (own_selJ I1 p3 p4)), (.long (own_selJ I2 p3 p4))]), .inr (.long, [(.long (p4 ^^^ (-1 : Int64))), (.long (own_selJ I0 p4 p3)), (.long (own_selJ I1 p4 p3)), (.long (own_selJ I2 p4 p3))]), .inl (0, [(rf n0 10), (rf n0 11), (rf n0 12), (rf n0 13), (.int (2 : Int32))]), .inr (.int, [(.int p0), (.int p1)]), .inr (.int, [(.int p1), (.int p2)]), .inr (.long, [(.long p3), (.long p4)]), .inr (.long, [(.long p4), (.long p3)]), .inl (0, [(rf n0 15), (rf n0 16), (rf n0 17), (rf n0 18), oz]), .inr (.int, [oz, oz, oz, oz]), .inr (.int, [oz, oz, oz, oz]), .inr (.long, [ol, ol, ol, ol]), .inr (.long, [ol, ol, ol, ol])]) := by
  refine Met.of (a0 := a0) (ls := #[.val (rf n0 14), .val (.int (4 : Int32))]) (kok hw) (plainFor_of_name pn_8) (fun m => by first | (simp [entryFrame, mkF, argsToLocals, Value.category]; done) | rfl) (fun G H => ?_)
  refine H.aloadN s2_0 rfl rfl ?_
  refine H.initO s2_1 (k_3 hw) rfl (leb rfl) (leb rfl) ?_
  refine H.aloadN s2_4 rfl rfl ?_
  refine H.iloadN s2_5 rfl ?_
  refine H.newarray s2_6 (ty := .int) rfl (k_0 hw) (N := 4) (cap := 4) (by decide) rfl (by decide) (by decide) (by first | rfl | simp) (by decide) (by decide) (i := 15) rfl (A' := [.inr (.int, [(.int i0), (.int i1), (.int i2)]), .inr (.int, [(.int p0), (.int p1)]), .inr (.int, [(.int p1), (.int p2)]), .inr (.long, [(.long p3), (.long p4)]), .inr (.long, [(.long p4), (.long p3)]), .inr (.int, [(.int p2), (.int (own_selI I0 p0 p1)), (.int (own_selI I1 p0 p1)), (.int (own_selI I2 p0 p1))]), .inr (.int, [(.int p0), (.int (own_selI I0 p1 p2)), (.int (own_selI I1 p1 p2)), (.int (own_selI I2 p1 p2))]), .inr (.long, [(.long (p3 ^^^ (-1 : Int64))), (.long (own_selJ I0 p3 p4)), (.long (own_selJ I1 p3 p4)), (.long (own_selJ I2 p3 p4))]), .inr (.long, [(.long (p4 ^^^ (-1 : Int64))), (.long (own_selJ I0 p4 p3)), (.long (own_selJ I1 p4 p3)), (.long (own_selJ I2 p4 p3))]), .inl (0, [(rf n0 10), (rf n0 11), (rf n0 12), (rf n0 13), (.int (2 : Int32))]), .inr (.int, [(.int p0), (.int p1)]), .inr (.int, [(.int p1), (.int p2)]), .inr (.long, [(.long p3), (.long p4)]), .inr (.long, [(.long p4), (.long p3)]), .inl (0, [.null, .null, .null, .null, oz]), .inr (.int, [oz, oz, oz, oz])]) rfl (k' := 1) rfl (n' := 4) rfl ?_
  refine H.putfield s2_8 (k_4 hw) (i := 14) rfl rfl rfl rfl ?_
  refine H.aloadN s2_11 rfl rfl ?_
  refine H.iloadN s2_12 rfl ?_
  refine H.newarray s2_13 (ty := .int) rfl (k_0 hw) (N := 4) (cap := 4) (by decide) rfl (by decide) (by decide) (by first | rfl | simp) (by decide) (by decide) (i := 16) rfl (A' := [.inr (.int, [(.int i0), (.int i1), (.int i2)]), .inr (.int, [(.int p0), (.int p1)]), .inr (.int, [(.int p1), (.int p2)]), .inr (.long, [(.long p3), (.long p4)]), .inr (.long, [(.long p4), (.long p3)]), .inr (.int, [(.int p2), (.int (own_selI I0 p0 p1)), (.int (own_selI I1 p0 p1)), (.int (own_selI I2 p0 p1))]), .inr (.int, [(.int p0), (.int (own_selI I0 p1 p2)), (.int (own_selI I1 p1 p2)), (.int (own_selI I2 p1 p2))]), .inr (.long, [(.long (p3 ^^^ (-1 : Int64))), (.long (own_selJ I0 p3 p4)), (.long (own_selJ I1 p3 p4)), (.long (own_selJ I2 p3 p4))]), .inr (.long, [(.long (p4 ^^^ (-1 : Int64))), (.long (own_selJ I0 p4 p3)), (.long (own_selJ I1 p4 p3)), (.long (own_selJ I2 p4 p3))]), .inl (0, [(rf n0 10), (rf n0 11), (rf n0 12), (rf n0 13), (.int (2 : Int32))]), .inr (.int, [(.int p0), (.int p1)]), .inr (.int, [(.int p1), (.int p2)]), .inr (.long, [(.long p3), (.long p4)]), .inr (.long, [(.long p4), (.long p3)]), .inl (0, [(rf n0 15), .null, .null, .null, oz]), .inr (.int, [oz, oz, oz, oz]), .inr (.int, [oz, oz, oz, oz])]) rfl (k' := 2) rfl (n' := 8) rfl ?_
  refine H.putfield s2_15 (k_5 hw) (i := 14) rfl rfl rfl rfl ?_
  refine H.aloadN s2_18 rfl rfl ?_
  refine H.iloadN s2_19 rfl ?_
  refine H.newarray s2_20 (ty := .long) rfl (k_1 hw) (N := 4) (cap := 4) (by decide) rfl (by decide) (by decide) (by first | rfl | simp) (by decide) (by decide) (i := 17) rfl (A' := [.inr (.int, [(.int i0), (.int i1), (.int i2)]), .inr (.int, [(.int p0), (.int p1)]), .inr (.int, [(.int p1), (.int p2)]), .inr (.long, [(.long p3), (.long p4)]), .inr (.long, [(.long p4), (.long p3)]), .inr (.int, [(.int p2), (.int (own_selI I0 p0 p1)), (.int (own_selI I1 p0 p1)), (.int (own_selI I2 p0 p1))]), .inr (.int, [(.int p0), (.int (own_selI I0 p1 p2)), (.int (own_selI I1 p1 p2)), (.int (own_selI I2 p1 p2))]), .inr (.long, [(.long (p3 ^^^ (-1 : Int64))), (.long (own_selJ I0 p3 p4)), (.long (own_selJ I1 p3 p4)), (.long (own_selJ I2 p3 p4))]), .inr (.long, [(.long (p4 ^^^ (-1 : Int64))), (.long (own_selJ I0 p4 p3)), (.long (own_selJ I1 p4 p3)), (.long (own_selJ I2 p4 p3))]), .inl (0, [(rf n0 10), (rf n0 11), (rf n0 12), (rf n0 13), (.int (2 : Int32))]), .inr (.int, [(.int p0), (.int p1)]), .inr (.int, [(.int p1), (.int p2)]), .inr (.long, [(.long p3), (.long p4)]), .inr (.long, [(.long p4), (.long p3)]), .inl (0, [(rf n0 15), (rf n0 16), .null, .null, oz]), .inr (.int, [oz, oz, oz, oz]), .inr (.int, [oz, oz, oz, oz]), .inr (.long, [ol, ol, ol, ol])]) rfl (k' := 3) rfl (n' := 12) rfl ?_
  refine H.putfield s2_22 (k_6 hw) (i := 14) rfl rfl rfl rfl ?_
  refine H.aloadN s2_25 rfl rfl ?_
  refine H.iloadN s2_26 rfl ?_
  refine H.newarray s2_27 (ty := .long) rfl (k_1 hw) (N := 4) (cap := 4) (by decide) rfl (by decide) (by decide) (by first | rfl | simp) (by decide) (by decide) (i := 18) rfl (A' := [.inr (.int, [(.int i0), (.int i1), (.int i2)]), .inr (.int, [(.int p0), (.int p1)]), .inr (.int, [(.int p1), (.int p2)]), .inr (.long, [(.long p3), (.long p4)]), .inr (.long, [(.long p4), (.long p3)]), .inr (.int, [(.int p2), (.int (own_selI I0 p0 p1)), (.int (own_selI I1 p0 p1)), (.int (own_selI I2 p0 p1))]), .inr (.int, [(.int p0), (.int (own_selI I0 p1 p2)), (.int (own_selI I1 p1 p2)), (.int (own_selI I2 p1 p2))]), .inr (.long, [(.long (p3 ^^^ (-1 : Int64))), (.long (own_selJ I0 p3 p4)), (.long (own_selJ I1 p3 p4)), (.long (own_selJ I2 p3 p4))]), .inr (.long, [(.long (p4 ^^^ (-1 : Int64))), (.long (own_selJ I0 p4 p3)), (.long (own_selJ I1 p4 p3)), (.long (own_selJ I2 p4 p3))]), .inl (0, [(rf n0 10), (rf n0 11), (rf n0 12), (rf n0 13), (.int (2 : Int32))]), .inr (.int, [(.int p0), (.int p1)]), .inr (.int, [(.int p1), (.int p2)]), .inr (.long, [(.long p3), (.long p4)]), .inr (.long, [(.long p4), (.long p3)]), .inl (0, [(rf n0 15), (rf n0 16), (rf n0 17), .null, oz]), .inr (.int, [oz, oz, oz, oz]), .inr (.int, [oz, oz, oz, oz]), .inr (.long, [ol, ol, ol, ol]), .inr (.long, [ol, ol, ol, ol])]) rfl (k' := 4) rfl (n' := 16) rfl ?_
  refine H.putfield s2_29 (k_7 hw) (i := 14) rfl rfl rfl rfl ?_
  exact H.vreturn s2_32 rfl ⟨rfl, rfl⟩ (by decide) (by decide)


set_option maxRecDepth 65536 in
set_option maxHeartbeats 40000000 in
theorem a_117 (l : Launch) {Z : State} {a0 : Array Value} (hw : HW1 Z a0) (n0 : Nat) (p0 : Int32) (p1 : Int32) (p2 : Int32) (p3 : Int64) (p4 : Int64) (i0 : Int32) (i1 : Int32) (i2 : Int32) (I0 : Nat) (I1 : Nat) (I2 : Nat) : Met l Z KT n0 y4 prog_15_method_2_code 7 none ({ frames := 0, cells := 0, slots := 0, locals := 0 } : Room) #[(rf n0 14), (.int p2), (.int p0), (.long (p3 ^^^ (-1 : Int64))), (.long (p4 ^^^ (-1 : Int64)))] [.inr (.int, [(.int i0), (.int i1), (.int i2)]), .inr (.int, [(.int p0), (.int p1)]), .inr (.int, [(.int p1), (.int p2)]), .inr (.long, [(.long p3), (.long p4)]), .inr (.long, [(.long p4), (.long p3)]), .inr (.int, [(.int p2), (.int (own_selI I0 p0 p1)), (.int (own_selI I1 p0 p1)), (.int (own_selI I2 p0 p1))]), .inr (.int, [(.int p0), (.int (own_selI I0 p1 p2)), (.int (own_selI I1 p1 p2)), (.int (own_selI I2 p1 p2))]), .inr (.long, [(.long (p3 ^^^ (-1 : Int64))), (.long (own_selJ I0 p3 p4)), (.long (own_selJ I1 p3 p4)), (.long (own_selJ I2 p3 p4))]), .inr (.long, [(.long (p4 ^^^ (-1 : Int64))), (.long (own_selJ I0 p4 p3)), (.long (own_selJ I1 p4 p3)), (.long (own_selJ I2 p4 p3))]), .inl (0, [(rf n0 10), (rf n0 11), (rf n0 12), (rf n0 13), (.int (2 : Int32))]), .inr (.int, [(.int p0), (.int p1)]), .inr (.int, [(.int p1), (.int p2)]), .inr (.long, [(.long p3), (.long p4)]), .inr (.long, [(.long p4), (.long p3)]), .inl (0, [(rf n0 15), (rf n0 16), (rf n0 17), (rf n0 18), oz]), .inr (.int, [oz, oz, oz, oz]), .inr (.int, [oz, oz, oz, oz]), .inr (.long, [ol, ol, ol, ol]), .inr (.long, [ol, ol, ol, ol])] (Is none [.inr (.int, [(.int i0), (.int i1), (.int i2)]), .inr (.int, [(.int p0), (.int p1)]), .inr (.int, [(.int p1), (.int p2)]), .inr (.long, [(.long p3), (.long p4)]), .inr (.long, [(.long p4), (.long p3)]), .inr (.int, [(.int p2), (.int (own_selI I0 p0 p1)), (.int (own_selI I1 p0 p1)), (.int (own_selI I2 p0 p1))]), .inr (.int, [(.int p0), (.int (own_selI I0 p1 p2)), (.int (own_selI I1 p1 p2)), (.int (own_selI I2 p1 p2))]), .inr (.long, [(.long (p3 ^^^ (-1 : Int64))), (.long (own_selJ I0 p3 p4)), (.long (own_selJ I1 p3 p4)), (.long (own_selJ I2 p3 p4))]), .inr (.long, [(.long (p4 ^^^ (-1 : Int64))), (.long (own_selJ I0 p4 p3)), (.long (own_selJ I1 p4 p3)), (.long (own_selJ I2 p4 p3))]), .inl (0, [(rf n0 10), (rf n0 11), (rf n0 12), (rf n0 13), (.int (2 : Int32))]), .inr (.int, [(.int p0), (.int p1)]), .inr (.int, [(.int p1), (.int p2)]), .inr (.long, [(.long p3), (.long p4)]), .inr (.long, [(.long p4), (.long p3)]), .inl (0, [(rf n0 15), (rf n0 16), (rf n0 17), (rf n0 18), (.int (1 : Int32))]), .inr (.int, [(.int p2), oz, oz, oz]), .inr (.int, [(.int p0), oz, oz, oz]), .inr (.long, [(.long (p3 ^^^ (-1 : Int64))), ol, ol, ol]), .inr (.long, [(.long (p4 ^^^ (-1 : Int64))), ol, ol, ol])]) := by
  refine Met.of (a0 := a0) (ls := #[.val (rf n0 14), .val (.int p2), .val (.int p0), .val (.long (p3 ^^^ (-1 : Int64))), .second, .val (.long (p4 ^^^ (-1 : Int64))), .second]) (kok hw) (plainFor_of_name pn_8) (fun m => by first | (simp [entryFrame, mkF, argsToLocals, Value.category]; done) | rfl) (fun G H => ?_)
  refine H.aloadN s4_0 rfl rfl ?_
  refine H.getfield s4_1 (k_10 hw) (i := 14) rfl rfl ?_
  refine H.aloadN s4_4 rfl rfl ?_
  refine H.getfield s4_5 (k_11 hw) (i := 14) rfl rfl ?_
  refine H.iloadN s4_8 rfl ?_
  refine H.iastore s4_9 (i := 15) (j := 0) rfl (by decide) (ltb rfl)  rfl ?_
  refine H.aloadN s4_10 rfl rfl ?_
  refine H.getfield s4_11 (k_12 hw) (i := 14) rfl rfl ?_
  refine H.aloadN s4_14 rfl rfl ?_
  refine H.getfield s4_15 (k_11 hw) (i := 14) rfl rfl ?_
  refine H.iloadN s4_18 rfl ?_
  refine H.iastore s4_19 (i := 16) (j := 0) rfl (by decide) (ltb rfl)  rfl ?_
  refine H.aloadN s4_20 rfl rfl ?_
  refine H.getfield s4_21 (k_13 hw) (i := 14) rfl rfl ?_
  refine H.aloadN s4_24 rfl rfl ?_
  refine H.getfield s4_25 (k_11 hw) (i := 14) rfl rfl ?_
  refine H.lloadN s4_28 rfl ?_
  refine H.lastore s4_29 (i := 17) (j := 0) rfl (by decide) (ltb rfl)  rfl ?_
  refine H.aloadN s4_30 rfl rfl ?_
  refine H.getfield s4_31 (k_14 hw) (i := 14) rfl rfl ?_
  refine H.aloadN s4_34 rfl rfl ?_
  refine H.getfield s4_35 (k_11 hw) (i := 14) rfl rfl ?_
  refine H.lload s4_38 rfl ?_
  refine H.lastore s4_40 (i := 18) (j := 0) rfl (by decide) (ltb rfl)  rfl ?_
  refine H.aloadN s4_41 rfl rfl ?_
  refine H.dup s4_42 rfl ?_
  refine H.getfield s4_43 (k_11 hw) (i := 14) rfl rfl ?_
  refine H.iconst s4_46 (v := (1 : Int32)) (by decide) ?_
  refine H.iadd s4_47 (w := (1 : Int32)) (by decide) ?_
  refine H.putfield s4_48 (k_15 hw) (i := 14) rfl rfl rfl rfl ?_
  exact H.vreturn s4_51 rfl ⟨rfl, rfl⟩ (by decide) (by decide)


set_option maxRecDepth 65536 in
set_option maxHeartbeats 40000000 in
theorem a_118 (l : Launch) {Z : State} {a0 : Array Value} (hw : HW1 Z a0) (n0 : Nat) (p0 : Int32) (p1 : Int32) (p2 : Int32) (p3 : Int64) (p4 : Int64) (i0 : Int32) (i1 : Int32) (i2 : Int32) (I0 : Nat) (I1 : Nat) (I2 : Nat) (hI0 : i0.toInt = (I0 : Int)) (lI0 : I0 < 2) (hI1 : i1.toInt = (I1 : Int)) (lI1 : I1 < 2) (hI2 : i2.toInt = (I2 : Int)) (lI2 : I2 < 2) : Met l Z KT n0 y5 prog_15_method_4_code 5 none ({ frames := 0, cells := 0, slots := 0, locals := 0 } : Room) #[(rf n0 14), (rf n0 9), (rf n0 0)] [.inr (.int, [(.int i0), (.int i1), (.int i2)]), .inr (.int, [(.int p0), (.int p1)]), .inr (.int, [(.int p1), (.int p2)]), .inr (.long, [(.long p3), (.long p4)]), .inr (.long, [(.long p4), (.long p3)]), .inr (.int, [(.int p2), (.int (own_selI I0 p0 p1)), (.int (own_selI I1 p0 p1)), (.int (own_selI I2 p0 p1))]), .inr (.int, [(.int p0), (.int (own_selI I0 p1 p2)), (.int (own_selI I1 p1 p2)), (.int (own_selI I2 p1 p2))]), .inr (.long, [(.long (p3 ^^^ (-1 : Int64))), (.long (own_selJ I0 p3 p4)), (.long (own_selJ I1 p3 p4)), (.long (own_selJ I2 p3 p4))]), .inr (.long, [(.long (p4 ^^^ (-1 : Int64))), (.long (own_selJ I0 p4 p3)), (.long (own_selJ I1 p4 p3)), (.long (own_selJ I2 p4 p3))]), .inl (0, [(rf n0 10), (rf n0 11), (rf n0 12), (rf n0 13), (.int (2 : Int32))]), .inr (.int, [(.int p0), (.int p1)]), .inr (.int, [(.int p1), (.int p2)]), .inr (.long, [(.long p3), (.long p4)]), .inr (.long, [(.long p4), (.long p3)]), .inl (0, [(rf n0 15), (rf n0 16), (rf n0 17), (rf n0 18), (.int (1 : Int32))]), .inr (.int, [(.int p2), oz, oz, oz]), .inr (.int, [(.int p0), oz, oz, oz]), .inr (.long, [(.long (p3 ^^^ (-1 : Int64))), ol, ol, ol]), .inr (.long, [(.long (p4 ^^^ (-1 : Int64))), ol, ol, ol])] (Is none [.inr (.int, [(.int i0), (.int i1), (.int i2)]), .inr (.int, [(.int p0), (.int p1)]), .inr (.int, [(.int p1), (.int p2)]), .inr (.long, [(.long p3), (.long p4)]), .inr (.long, [(.long p4), (.long p3)]), .inr (.int, [(.int p2), (.int (own_selI I0 p0 p1)), (.int (own_selI I1 p0 p1)), (.int (own_selI I2 p0 p1))]), .inr (.int, [(.int p0), (.int (own_selI I0 p1 p2)), (.int (own_selI I1 p1 p2)), (.int (own_selI I2 p1 p2))]), .inr (.long, [(.long (p3 ^^^ (-1 : Int64))), (.long (own_selJ I0 p3 p4)), (.long (own_selJ I1 p3 p4)), (.long (own_selJ I2 p3 p4))]), .inr (.long, [(.long (p4 ^^^ (-1 : Int64))), (.long (own_selJ I0 p4 p3)), (.long (own_selJ I1 p4 p3)), (.long (own_selJ I2 p4 p3))]), .inl (0, [(rf n0 10), (rf n0 11), (rf n0 12), (rf n0 13), (.int (2 : Int32))]), .inr (.int, [(.int p0), (.int p1)]), .inr (.int, [(.int p1), (.int p2)]), .inr (.long, [(.long p3), (.long p4)]), .inr (.long, [(.long p4), (.long p3)]), .inl (0, [(rf n0 15), (rf n0 16), (rf n0 17), (rf n0 18), (.int (4 : Int32))]), .inr (.int, [(.int p2), (.int (own_selI I0 p0 p1)), (.int (own_selI I1 p0 p1)), (.int (own_selI I2 p0 p1))]), .inr (.int, [(.int p0), (.int (own_selI I0 p1 p2)), (.int (own_selI I1 p1 p2)), (.int (own_selI I2 p1 p2))]), .inr (.long, [(.long (p3 ^^^ (-1 : Int64))), (.long (own_selJ I0 p3 p4)), (.long (own_selJ I1 p3 p4)), (.long (own_selJ I2 p3 p4))]), .inr (.long, [(.long (p4 ^^^ (-1 : Int64))), (.long (own_selJ I0 p4 p3)), (.long (own_selJ I1 p4 p3)), (.long (own_selJ I2 p4 p3))])]) := by
  refine Met.of (a0 := a0) (ls := #[.val (rf n0 14), .val (rf n0 9), .val (rf n0 0), .unset, .unset]) (kok hw) (plainFor_of_name pn_8) (fun m => by first | (simp [entryFrame, mkF, argsToLocals, Value.category]; done) | rfl) (fun G H => ?_)
  refine H.iconst s5_0 (v := (0 : Int32)) (by decide) ?_
  refine H.istoreN s5_1 (ls' := #[.val (rf n0 14), .val (rf n0 9), .val (rf n0 0), .val oz, .unset]) rfl ?_
  refine H.iloadN s5_2 rfl ?_
  refine H.aloadN s5_3 rfl rfl ?_
  refine H.arraylength s5_4 (i := 0) rfl (z := (3 : Int32)) rfl ?_
  refine H.icmpF s5_5 (show (0 : Int32) < (3 : Int32) by decide) ?_
  refine H.aloadN s5_8 rfl rfl ?_
  refine H.iloadN s5_9 rfl ?_
  refine H.iaload s5_10 (i := 0) (j := 0) rfl (by decide) (v := (.int i0)) rfl ?_
  refine H.istore s5_11 (ls' := #[.val (rf n0 14), .val (rf n0 9), .val (rf n0 0), .val oz, .val (.int i0)]) rfl ?_
  refine H.aloadN s5_13 rfl rfl ?_
  refine H.getfield s5_14 (k_10 hw) (i := 14) rfl rfl ?_
  refine H.aloadN s5_17 rfl rfl ?_
  refine H.getfield s5_18 (k_11 hw) (i := 14) rfl rfl ?_
  refine H.iloadN s5_21 rfl ?_
  refine H.iadd s5_22 (w := (1 : Int32)) (by decide) ?_
  refine H.aloadN s5_23 rfl rfl ?_
  refine H.getfield s5_24 (k_10 hw) (i := 9) rfl rfl ?_
  refine H.iload s5_27 rfl ?_
  refine H.iaload s5_29 (i := 10) (j := I0) rfl hI0 (v := (.int (own_selI I0 p0 p1))) (own_gI lI0) ?_
  refine H.iastore s5_30 (i := 15) (j := 1) rfl (by decide) (ltb rfl)  rfl ?_
  refine H.aloadN s5_31 rfl rfl ?_
  refine H.getfield s5_32 (k_12 hw) (i := 14) rfl rfl ?_
  refine H.aloadN s5_35 rfl rfl ?_
  refine H.getfield s5_36 (k_11 hw) (i := 14) rfl rfl ?_
  refine H.iloadN s5_39 rfl ?_
  refine H.iadd s5_40 (w := (1 : Int32)) (by decide) ?_
  refine H.aloadN s5_41 rfl rfl ?_
  refine H.getfield s5_42 (k_12 hw) (i := 9) rfl rfl ?_
  refine H.iload s5_45 rfl ?_
  refine H.iaload s5_47 (i := 11) (j := I0) rfl hI0 (v := (.int (own_selI I0 p1 p2))) (own_gI lI0) ?_
  refine H.iastore s5_48 (i := 16) (j := 1) rfl (by decide) (ltb rfl)  rfl ?_
  refine H.aloadN s5_49 rfl rfl ?_
  refine H.getfield s5_50 (k_13 hw) (i := 14) rfl rfl ?_
  refine H.aloadN s5_53 rfl rfl ?_
  refine H.getfield s5_54 (k_11 hw) (i := 14) rfl rfl ?_
  refine H.iloadN s5_57 rfl ?_
  refine H.iadd s5_58 (w := (1 : Int32)) (by decide) ?_
  refine H.aloadN s5_59 rfl rfl ?_
  refine H.getfield s5_60 (k_13 hw) (i := 9) rfl rfl ?_
  refine H.iload s5_63 rfl ?_
  refine H.laload s5_65 (i := 12) (j := I0) rfl hI0 (v := (.long (own_selJ I0 p3 p4))) (own_gJ lI0) ?_
  refine H.lastore s5_66 (i := 17) (j := 1) rfl (by decide) (ltb rfl)  rfl ?_
  refine H.aloadN s5_67 rfl rfl ?_
  refine H.getfield s5_68 (k_14 hw) (i := 14) rfl rfl ?_
  refine H.aloadN s5_71 rfl rfl ?_
  refine H.getfield s5_72 (k_11 hw) (i := 14) rfl rfl ?_
  refine H.iloadN s5_75 rfl ?_
  refine H.iadd s5_76 (w := (1 : Int32)) (by decide) ?_
  refine H.aloadN s5_77 rfl rfl ?_
  refine H.getfield s5_78 (k_14 hw) (i := 9) rfl rfl ?_
  refine H.iload s5_81 rfl ?_
  refine H.laload s5_83 (i := 13) (j := I0) rfl hI0 (v := (.long (own_selJ I0 p4 p3))) (own_gJ lI0) ?_
  refine H.lastore s5_84 (i := 18) (j := 1) rfl (by decide) (ltb rfl)  rfl ?_
  refine H.iinc s5_85 rfl (w := (1 : Int32)) (by decide) (ls' := #[.val (rf n0 14), .val (rf n0 9), .val (rf n0 0), .val (.int (1 : Int32)), .val (.int i0)]) rfl ?_
  refine H.goto s5_88 ?_
  refine H.iloadN s5_2 rfl ?_
  refine H.aloadN s5_3 rfl rfl ?_
  refine H.arraylength s5_4 (i := 0) rfl (z := (3 : Int32)) rfl ?_
  refine H.icmpF s5_5 (show (1 : Int32) < (3 : Int32) by decide) ?_
  refine H.aloadN s5_8 rfl rfl ?_
  refine H.iloadN s5_9 rfl ?_
  refine H.iaload s5_10 (i := 0) (j := 1) rfl (by decide) (v := (.int i1)) rfl ?_
  refine H.istore s5_11 (ls' := #[.val (rf n0 14), .val (rf n0 9), .val (rf n0 0), .val (.int (1 : Int32)), .val (.int i1)]) rfl ?_
  refine H.aloadN s5_13 rfl rfl ?_
  refine H.getfield s5_14 (k_10 hw) (i := 14) rfl rfl ?_
  refine H.aloadN s5_17 rfl rfl ?_
  refine H.getfield s5_18 (k_11 hw) (i := 14) rfl rfl ?_
  refine H.iloadN s5_21 rfl ?_
  refine H.iadd s5_22 (w := (2 : Int32)) (by decide) ?_
  refine H.aloadN s5_23 rfl rfl ?_
  refine H.getfield s5_24 (k_10 hw) (i := 9) rfl rfl ?_
  refine H.iload s5_27 rfl ?_
  refine H.iaload s5_29 (i := 10) (j := I1) rfl hI1 (v := (.int (own_selI I1 p0 p1))) (own_gI lI1) ?_
  refine H.iastore s5_30 (i := 15) (j := 2) rfl (by decide) (ltb rfl)  rfl ?_
  refine H.aloadN s5_31 rfl rfl ?_
  refine H.getfield s5_32 (k_12 hw) (i := 14) rfl rfl ?_
  refine H.aloadN s5_35 rfl rfl ?_
  refine H.getfield s5_36 (k_11 hw) (i := 14) rfl rfl ?_
  refine H.iloadN s5_39 rfl ?_
  refine H.iadd s5_40 (w := (2 : Int32)) (by decide) ?_
  refine H.aloadN s5_41 rfl rfl ?_
  refine H.getfield s5_42 (k_12 hw) (i := 9) rfl rfl ?_
  refine H.iload s5_45 rfl ?_
  refine H.iaload s5_47 (i := 11) (j := I1) rfl hI1 (v := (.int (own_selI I1 p1 p2))) (own_gI lI1) ?_
  refine H.iastore s5_48 (i := 16) (j := 2) rfl (by decide) (ltb rfl)  rfl ?_
  refine H.aloadN s5_49 rfl rfl ?_
  refine H.getfield s5_50 (k_13 hw) (i := 14) rfl rfl ?_
  refine H.aloadN s5_53 rfl rfl ?_
  refine H.getfield s5_54 (k_11 hw) (i := 14) rfl rfl ?_
  refine H.iloadN s5_57 rfl ?_
  refine H.iadd s5_58 (w := (2 : Int32)) (by decide) ?_
  refine H.aloadN s5_59 rfl rfl ?_
  refine H.getfield s5_60 (k_13 hw) (i := 9) rfl rfl ?_
  refine H.iload s5_63 rfl ?_
  refine H.laload s5_65 (i := 12) (j := I1) rfl hI1 (v := (.long (own_selJ I1 p3 p4))) (own_gJ lI1) ?_
  refine H.lastore s5_66 (i := 17) (j := 2) rfl (by decide) (ltb rfl)  rfl ?_
  refine H.aloadN s5_67 rfl rfl ?_
  refine H.getfield s5_68 (k_14 hw) (i := 14) rfl rfl ?_
  refine H.aloadN s5_71 rfl rfl ?_
  refine H.getfield s5_72 (k_11 hw) (i := 14) rfl rfl ?_
  refine H.iloadN s5_75 rfl ?_
  refine H.iadd s5_76 (w := (2 : Int32)) (by decide) ?_
  refine H.aloadN s5_77 rfl rfl ?_
  refine H.getfield s5_78 (k_14 hw) (i := 9) rfl rfl ?_
  refine H.iload s5_81 rfl ?_
  refine H.laload s5_83 (i := 13) (j := I1) rfl hI1 (v := (.long (own_selJ I1 p4 p3))) (own_gJ lI1) ?_
  refine H.lastore s5_84 (i := 18) (j := 2) rfl (by decide) (ltb rfl)  rfl ?_
  refine H.iinc s5_85 rfl (w := (2 : Int32)) (by decide) (ls' := #[.val (rf n0 14), .val (rf n0 9), .val (rf n0 0), .val (.int (2 : Int32)), .val (.int i1)]) rfl ?_
  refine H.goto s5_88 ?_
  refine H.iloadN s5_2 rfl ?_
  refine H.aloadN s5_3 rfl rfl ?_
  refine H.arraylength s5_4 (i := 0) rfl (z := (3 : Int32)) rfl ?_
  refine H.icmpF s5_5 (show (2 : Int32) < (3 : Int32) by decide) ?_
  refine H.aloadN s5_8 rfl rfl ?_
  refine H.iloadN s5_9 rfl ?_
  refine H.iaload s5_10 (i := 0) (j := 2) rfl (by decide) (v := (.int i2)) rfl ?_
  refine H.istore s5_11 (ls' := #[.val (rf n0 14), .val (rf n0 9), .val (rf n0 0), .val (.int (2 : Int32)), .val (.int i2)]) rfl ?_
  refine H.aloadN s5_13 rfl rfl ?_
  refine H.getfield s5_14 (k_10 hw) (i := 14) rfl rfl ?_
  refine H.aloadN s5_17 rfl rfl ?_
  refine H.getfield s5_18 (k_11 hw) (i := 14) rfl rfl ?_
  refine H.iloadN s5_21 rfl ?_
  refine H.iadd s5_22 (w := (3 : Int32)) (by decide) ?_
  refine H.aloadN s5_23 rfl rfl ?_
  refine H.getfield s5_24 (k_10 hw) (i := 9) rfl rfl ?_
  refine H.iload s5_27 rfl ?_
  refine H.iaload s5_29 (i := 10) (j := I2) rfl hI2 (v := (.int (own_selI I2 p0 p1))) (own_gI lI2) ?_
  refine H.iastore s5_30 (i := 15) (j := 3) rfl (by decide) (ltb rfl)  rfl ?_
  refine H.aloadN s5_31 rfl rfl ?_
  refine H.getfield s5_32 (k_12 hw) (i := 14) rfl rfl ?_
  refine H.aloadN s5_35 rfl rfl ?_
  refine H.getfield s5_36 (k_11 hw) (i := 14) rfl rfl ?_
  refine H.iloadN s5_39 rfl ?_
  refine H.iadd s5_40 (w := (3 : Int32)) (by decide) ?_
  refine H.aloadN s5_41 rfl rfl ?_
  refine H.getfield s5_42 (k_12 hw) (i := 9) rfl rfl ?_
  refine H.iload s5_45 rfl ?_
  refine H.iaload s5_47 (i := 11) (j := I2) rfl hI2 (v := (.int (own_selI I2 p1 p2))) (own_gI lI2) ?_
  refine H.iastore s5_48 (i := 16) (j := 3) rfl (by decide) (ltb rfl)  rfl ?_
  refine H.aloadN s5_49 rfl rfl ?_
  refine H.getfield s5_50 (k_13 hw) (i := 14) rfl rfl ?_
  refine H.aloadN s5_53 rfl rfl ?_
  refine H.getfield s5_54 (k_11 hw) (i := 14) rfl rfl ?_
  refine H.iloadN s5_57 rfl ?_
  refine H.iadd s5_58 (w := (3 : Int32)) (by decide) ?_
  refine H.aloadN s5_59 rfl rfl ?_
  refine H.getfield s5_60 (k_13 hw) (i := 9) rfl rfl ?_
  refine H.iload s5_63 rfl ?_
  refine H.laload s5_65 (i := 12) (j := I2) rfl hI2 (v := (.long (own_selJ I2 p3 p4))) (own_gJ lI2) ?_
  refine H.lastore s5_66 (i := 17) (j := 3) rfl (by decide) (ltb rfl)  rfl ?_
  refine H.aloadN s5_67 rfl rfl ?_
  refine H.getfield s5_68 (k_14 hw) (i := 14) rfl rfl ?_
  refine H.aloadN s5_71 rfl rfl ?_
  refine H.getfield s5_72 (k_11 hw) (i := 14) rfl rfl ?_
  refine H.iloadN s5_75 rfl ?_
  refine H.iadd s5_76 (w := (3 : Int32)) (by decide) ?_
  refine H.aloadN s5_77 rfl rfl ?_
  refine H.getfield s5_78 (k_14 hw) (i := 9) rfl rfl ?_
  refine H.iload s5_81 rfl ?_
  refine H.laload s5_83 (i := 13) (j := I2) rfl hI2 (v := (.long (own_selJ I2 p4 p3))) (own_gJ lI2) ?_
  refine H.lastore s5_84 (i := 18) (j := 3) rfl (by decide) (ltb rfl)  rfl ?_
  refine H.iinc s5_85 rfl (w := (3 : Int32)) (by decide) (ls' := #[.val (rf n0 14), .val (rf n0 9), .val (rf n0 0), .val (.int (3 : Int32)), .val (.int i2)]) rfl ?_
  refine H.goto s5_88 ?_
  refine H.iloadN s5_2 rfl ?_
  refine H.aloadN s5_3 rfl rfl ?_
  refine H.arraylength s5_4 (i := 0) rfl (z := (3 : Int32)) rfl ?_
  refine H.icmpT s5_5 (show ¬ (3 : Int32) < (3 : Int32) by decide) ?_
  refine H.aloadN s5_91 rfl rfl ?_
  refine H.dup s5_92 rfl ?_
  refine H.getfield s5_93 (k_11 hw) (i := 14) rfl rfl ?_
  refine H.aloadN s5_96 rfl rfl ?_
  refine H.arraylength s5_97 (i := 0) rfl (z := (3 : Int32)) rfl ?_
  refine H.iadd s5_98 (w := (4 : Int32)) (by decide) ?_
  refine H.putfield s5_99 (k_17 hw) (i := 14) rfl rfl rfl rfl ?_
  exact H.vreturn s5_102 rfl ⟨rfl, rfl⟩ (by decide) (by decide)


set_option maxRecDepth 65536 in
set_option maxHeartbeats 40000000 in
theorem a_119 (l : Launch) {Z : State} {a0 : Array Value} (hw : HW1 Z a0) (n0 : Nat) (p0 : Int32) (p1 : Int32) (p2 : Int32) (p3 : Int64) (p4 : Int64) (i0 : Int32) (i1 : Int32) (i2 : Int32) (I0 : Nat) (I1 : Nat) (I2 : Nat) : Met l Z KT n0 y6 prog_15_method_5_code 1 (some .int) ({ frames := 0, cells := 0, slots := 0, locals := 0 } : Room) #[(rf n0 14)] [.inr (.int, [(.int i0), (.int i1), (.int i2)]), .inr (.int, [(.int p0), (.int p1)]), .inr (.int, [(.int p1), (.int p2)]), .inr (.long, [(.long p3), (.long p4)]), .inr (.long, [(.long p4), (.long p3)]), .inr (.int, [(.int p2), (.int (own_selI I0 p0 p1)), (.int (own_selI I1 p0 p1)), (.int (own_selI I2 p0 p1))]), .inr (.int, [(.int p0), (.int (own_selI I0 p1 p2)), (.int (own_selI I1 p1 p2)), (.int (own_selI I2 p1 p2))]), .inr (.long, [(.long (p3 ^^^ (-1 : Int64))), (.long (own_selJ I0 p3 p4)), (.long (own_selJ I1 p3 p4)), (.long (own_selJ I2 p3 p4))]), .inr (.long, [(.long (p4 ^^^ (-1 : Int64))), (.long (own_selJ I0 p4 p3)), (.long (own_selJ I1 p4 p3)), (.long (own_selJ I2 p4 p3))]), .inl (0, [(rf n0 10), (rf n0 11), (rf n0 12), (rf n0 13), (.int (2 : Int32))]), .inr (.int, [(.int p0), (.int p1)]), .inr (.int, [(.int p1), (.int p2)]), .inr (.long, [(.long p3), (.long p4)]), .inr (.long, [(.long p4), (.long p3)]), .inl (0, [(rf n0 15), (rf n0 16), (rf n0 17), (rf n0 18), (.int (4 : Int32))]), .inr (.int, [(.int p2), (.int (own_selI I0 p0 p1)), (.int (own_selI I1 p0 p1)), (.int (own_selI I2 p0 p1))]), .inr (.int, [(.int p0), (.int (own_selI I0 p1 p2)), (.int (own_selI I1 p1 p2)), (.int (own_selI I2 p1 p2))]), .inr (.long, [(.long (p3 ^^^ (-1 : Int64))), (.long (own_selJ I0 p3 p4)), (.long (own_selJ I1 p3 p4)), (.long (own_selJ I2 p3 p4))]), .inr (.long, [(.long (p4 ^^^ (-1 : Int64))), (.long (own_selJ I0 p4 p3)), (.long (own_selJ I1 p4 p3)), (.long (own_selJ I2 p4 p3))])] (Is (some (.int (4 : Int32))) [.inr (.int, [(.int i0), (.int i1), (.int i2)]), .inr (.int, [(.int p0), (.int p1)]), .inr (.int, [(.int p1), (.int p2)]), .inr (.long, [(.long p3), (.long p4)]), .inr (.long, [(.long p4), (.long p3)]), .inr (.int, [(.int p2), (.int (own_selI I0 p0 p1)), (.int (own_selI I1 p0 p1)), (.int (own_selI I2 p0 p1))]), .inr (.int, [(.int p0), (.int (own_selI I0 p1 p2)), (.int (own_selI I1 p1 p2)), (.int (own_selI I2 p1 p2))]), .inr (.long, [(.long (p3 ^^^ (-1 : Int64))), (.long (own_selJ I0 p3 p4)), (.long (own_selJ I1 p3 p4)), (.long (own_selJ I2 p3 p4))]), .inr (.long, [(.long (p4 ^^^ (-1 : Int64))), (.long (own_selJ I0 p4 p3)), (.long (own_selJ I1 p4 p3)), (.long (own_selJ I2 p4 p3))]), .inl (0, [(rf n0 10), (rf n0 11), (rf n0 12), (rf n0 13), (.int (2 : Int32))]), .inr (.int, [(.int p0), (.int p1)]), .inr (.int, [(.int p1), (.int p2)]), .inr (.long, [(.long p3), (.long p4)]), .inr (.long, [(.long p4), (.long p3)]), .inl (0, [(rf n0 15), (rf n0 16), (rf n0 17), (rf n0 18), (.int (4 : Int32))]), .inr (.int, [(.int p2), (.int (own_selI I0 p0 p1)), (.int (own_selI I1 p0 p1)), (.int (own_selI I2 p0 p1))]), .inr (.int, [(.int p0), (.int (own_selI I0 p1 p2)), (.int (own_selI I1 p1 p2)), (.int (own_selI I2 p1 p2))]), .inr (.long, [(.long (p3 ^^^ (-1 : Int64))), (.long (own_selJ I0 p3 p4)), (.long (own_selJ I1 p3 p4)), (.long (own_selJ I2 p3 p4))]), .inr (.long, [(.long (p4 ^^^ (-1 : Int64))), (.long (own_selJ I0 p4 p3)), (.long (own_selJ I1 p4 p3)), (.long (own_selJ I2 p4 p3))])]) := by
  refine Met.of (a0 := a0) (ls := #[.val (rf n0 14)]) (kok hw) (plainFor_of_name pn_8) (fun m => by first | (simp [entryFrame, mkF, argsToLocals, Value.category]; done) | rfl) (fun G H => ?_)
  refine H.aloadN s6_0 rfl rfl ?_
  refine H.getfield s6_1 (k_11 hw) (i := 14) rfl rfl ?_
  exact H.ireturn s6_4 rfl (by simp) rfl ⟨rfl, rfl⟩ (by decide) (by decide)


set_option maxRecDepth 65536 in
set_option maxHeartbeats 40000000 in
theorem a_120 (l : Launch) {Z : State} {a0 : Array Value} (hw : HW1 Z a0) (n0 : Nat) (p0 : Int32) (p1 : Int32) (p2 : Int32) (p3 : Int64) (p4 : Int64) (i0 : Int32) (i1 : Int32) (i2 : Int32) (I0 : Nat) (I1 : Nat) (I2 : Nat) : Met l Z KT n0 y7 prog_15_method_6_code 1 (some (.array .int)) ({ frames := 0, cells := 0, slots := 0, locals := 0 } : Room) #[(rf n0 14)] [.inr (.int, [(.int i0), (.int i1), (.int i2)]), .inr (.int, [(.int p0), (.int p1)]), .inr (.int, [(.int p1), (.int p2)]), .inr (.long, [(.long p3), (.long p4)]), .inr (.long, [(.long p4), (.long p3)]), .inr (.int, [(.int p2), (.int (own_selI I0 p0 p1)), (.int (own_selI I1 p0 p1)), (.int (own_selI I2 p0 p1))]), .inr (.int, [(.int p0), (.int (own_selI I0 p1 p2)), (.int (own_selI I1 p1 p2)), (.int (own_selI I2 p1 p2))]), .inr (.long, [(.long (p3 ^^^ (-1 : Int64))), (.long (own_selJ I0 p3 p4)), (.long (own_selJ I1 p3 p4)), (.long (own_selJ I2 p3 p4))]), .inr (.long, [(.long (p4 ^^^ (-1 : Int64))), (.long (own_selJ I0 p4 p3)), (.long (own_selJ I1 p4 p3)), (.long (own_selJ I2 p4 p3))]), .inl (0, [(rf n0 10), (rf n0 11), (rf n0 12), (rf n0 13), (.int (2 : Int32))]), .inr (.int, [(.int p0), (.int p1)]), .inr (.int, [(.int p1), (.int p2)]), .inr (.long, [(.long p3), (.long p4)]), .inr (.long, [(.long p4), (.long p3)]), .inl (0, [(rf n0 15), (rf n0 16), (rf n0 17), (rf n0 18), (.int (4 : Int32))]), .inr (.int, [(.int p2), (.int (own_selI I0 p0 p1)), (.int (own_selI I1 p0 p1)), (.int (own_selI I2 p0 p1))]), .inr (.int, [(.int p0), (.int (own_selI I0 p1 p2)), (.int (own_selI I1 p1 p2)), (.int (own_selI I2 p1 p2))]), .inr (.long, [(.long (p3 ^^^ (-1 : Int64))), (.long (own_selJ I0 p3 p4)), (.long (own_selJ I1 p3 p4)), (.long (own_selJ I2 p3 p4))]), .inr (.long, [(.long (p4 ^^^ (-1 : Int64))), (.long (own_selJ I0 p4 p3)), (.long (own_selJ I1 p4 p3)), (.long (own_selJ I2 p4 p3))])] (Is (some (rf n0 15)) [.inr (.int, [(.int i0), (.int i1), (.int i2)]), .inr (.int, [(.int p0), (.int p1)]), .inr (.int, [(.int p1), (.int p2)]), .inr (.long, [(.long p3), (.long p4)]), .inr (.long, [(.long p4), (.long p3)]), .inr (.int, [(.int p2), (.int (own_selI I0 p0 p1)), (.int (own_selI I1 p0 p1)), (.int (own_selI I2 p0 p1))]), .inr (.int, [(.int p0), (.int (own_selI I0 p1 p2)), (.int (own_selI I1 p1 p2)), (.int (own_selI I2 p1 p2))]), .inr (.long, [(.long (p3 ^^^ (-1 : Int64))), (.long (own_selJ I0 p3 p4)), (.long (own_selJ I1 p3 p4)), (.long (own_selJ I2 p3 p4))]), .inr (.long, [(.long (p4 ^^^ (-1 : Int64))), (.long (own_selJ I0 p4 p3)), (.long (own_selJ I1 p4 p3)), (.long (own_selJ I2 p4 p3))]), .inl (0, [(rf n0 10), (rf n0 11), (rf n0 12), (rf n0 13), (.int (2 : Int32))]), .inr (.int, [(.int p0), (.int p1)]), .inr (.int, [(.int p1), (.int p2)]), .inr (.long, [(.long p3), (.long p4)]), .inr (.long, [(.long p4), (.long p3)]), .inl (0, [(rf n0 15), (rf n0 16), (rf n0 17), (rf n0 18), (.int (4 : Int32))]), .inr (.int, [(.int p2), (.int (own_selI I0 p0 p1)), (.int (own_selI I1 p0 p1)), (.int (own_selI I2 p0 p1))]), .inr (.int, [(.int p0), (.int (own_selI I0 p1 p2)), (.int (own_selI I1 p1 p2)), (.int (own_selI I2 p1 p2))]), .inr (.long, [(.long (p3 ^^^ (-1 : Int64))), (.long (own_selJ I0 p3 p4)), (.long (own_selJ I1 p3 p4)), (.long (own_selJ I2 p3 p4))]), .inr (.long, [(.long (p4 ^^^ (-1 : Int64))), (.long (own_selJ I0 p4 p3)), (.long (own_selJ I1 p4 p3)), (.long (own_selJ I2 p4 p3))])]) := by
  refine Met.of (a0 := a0) (ls := #[.val (rf n0 14)]) (kok hw) (plainFor_of_name pn_8) (fun m => by first | (simp [entryFrame, mkF, argsToLocals, Value.category]; done) | rfl) (fun G H => ?_)
  refine H.aloadN s7_0 rfl rfl ?_
  refine H.getfield s7_1 (k_10 hw) (i := 14) rfl rfl ?_
  exact H.areturn s7_4 rfl rfl rfl rfl ⟨rfl, rfl⟩ (by decide) (by decide)


set_option maxRecDepth 65536 in
set_option maxHeartbeats 40000000 in
theorem a_121 (l : Launch) {Z : State} {a0 : Array Value} (hw : HW1 Z a0) (n0 : Nat) (p0 : Int32) (p1 : Int32) (p2 : Int32) (p3 : Int64) (p4 : Int64) (i0 : Int32) (i1 : Int32) (i2 : Int32) (I0 : Nat) (I1 : Nat) (I2 : Nat) : Met l Z KT n0 y8 prog_15_method_7_code 1 (some (.array .int)) ({ frames := 0, cells := 0, slots := 0, locals := 0 } : Room) #[(rf n0 14)] [.inr (.int, [(.int i0), (.int i1), (.int i2)]), .inr (.int, [(.int p0), (.int p1)]), .inr (.int, [(.int p1), (.int p2)]), .inr (.long, [(.long p3), (.long p4)]), .inr (.long, [(.long p4), (.long p3)]), .inr (.int, [(.int p2), (.int (own_selI I0 p0 p1)), (.int (own_selI I1 p0 p1)), (.int (own_selI I2 p0 p1))]), .inr (.int, [(.int p0), (.int (own_selI I0 p1 p2)), (.int (own_selI I1 p1 p2)), (.int (own_selI I2 p1 p2))]), .inr (.long, [(.long (p3 ^^^ (-1 : Int64))), (.long (own_selJ I0 p3 p4)), (.long (own_selJ I1 p3 p4)), (.long (own_selJ I2 p3 p4))]), .inr (.long, [(.long (p4 ^^^ (-1 : Int64))), (.long (own_selJ I0 p4 p3)), (.long (own_selJ I1 p4 p3)), (.long (own_selJ I2 p4 p3))]), .inl (0, [(rf n0 10), (rf n0 11), (rf n0 12), (rf n0 13), (.int (2 : Int32))]), .inr (.int, [(.int p0), (.int p1)]), .inr (.int, [(.int p1), (.int p2)]), .inr (.long, [(.long p3), (.long p4)]), .inr (.long, [(.long p4), (.long p3)]), .inl (0, [(rf n0 15), (rf n0 16), (rf n0 17), (rf n0 18), (.int (4 : Int32))]), .inr (.int, [(.int p2), (.int (own_selI I0 p0 p1)), (.int (own_selI I1 p0 p1)), (.int (own_selI I2 p0 p1))]), .inr (.int, [(.int p0), (.int (own_selI I0 p1 p2)), (.int (own_selI I1 p1 p2)), (.int (own_selI I2 p1 p2))]), .inr (.long, [(.long (p3 ^^^ (-1 : Int64))), (.long (own_selJ I0 p3 p4)), (.long (own_selJ I1 p3 p4)), (.long (own_selJ I2 p3 p4))]), .inr (.long, [(.long (p4 ^^^ (-1 : Int64))), (.long (own_selJ I0 p4 p3)), (.long (own_selJ I1 p4 p3)), (.long (own_selJ I2 p4 p3))])] (Is (some (rf n0 16)) [.inr (.int, [(.int i0), (.int i1), (.int i2)]), .inr (.int, [(.int p0), (.int p1)]), .inr (.int, [(.int p1), (.int p2)]), .inr (.long, [(.long p3), (.long p4)]), .inr (.long, [(.long p4), (.long p3)]), .inr (.int, [(.int p2), (.int (own_selI I0 p0 p1)), (.int (own_selI I1 p0 p1)), (.int (own_selI I2 p0 p1))]), .inr (.int, [(.int p0), (.int (own_selI I0 p1 p2)), (.int (own_selI I1 p1 p2)), (.int (own_selI I2 p1 p2))]), .inr (.long, [(.long (p3 ^^^ (-1 : Int64))), (.long (own_selJ I0 p3 p4)), (.long (own_selJ I1 p3 p4)), (.long (own_selJ I2 p3 p4))]), .inr (.long, [(.long (p4 ^^^ (-1 : Int64))), (.long (own_selJ I0 p4 p3)), (.long (own_selJ I1 p4 p3)), (.long (own_selJ I2 p4 p3))]), .inl (0, [(rf n0 10), (rf n0 11), (rf n0 12), (rf n0 13), (.int (2 : Int32))]), .inr (.int, [(.int p0), (.int p1)]), .inr (.int, [(.int p1), (.int p2)]), .inr (.long, [(.long p3), (.long p4)]), .inr (.long, [(.long p4), (.long p3)]), .inl (0, [(rf n0 15), (rf n0 16), (rf n0 17), (rf n0 18), (.int (4 : Int32))]), .inr (.int, [(.int p2), (.int (own_selI I0 p0 p1)), (.int (own_selI I1 p0 p1)), (.int (own_selI I2 p0 p1))]), .inr (.int, [(.int p0), (.int (own_selI I0 p1 p2)), (.int (own_selI I1 p1 p2)), (.int (own_selI I2 p1 p2))]), .inr (.long, [(.long (p3 ^^^ (-1 : Int64))), (.long (own_selJ I0 p3 p4)), (.long (own_selJ I1 p3 p4)), (.long (own_selJ I2 p3 p4))]), .inr (.long, [(.long (p4 ^^^ (-1 : Int64))), (.long (own_selJ I0 p4 p3)), (.long (own_selJ I1 p4 p3)), (.long (own_selJ I2 p4 p3))])]) := by
  refine Met.of (a0 := a0) (ls := #[.val (rf n0 14)]) (kok hw) (plainFor_of_name pn_8) (fun m => by first | (simp [entryFrame, mkF, argsToLocals, Value.category]; done) | rfl) (fun G H => ?_)
  refine H.aloadN s8_0 rfl rfl ?_
  refine H.getfield s8_1 (k_12 hw) (i := 14) rfl rfl ?_
  exact H.areturn s8_4 rfl rfl rfl rfl ⟨rfl, rfl⟩ (by decide) (by decide)


set_option maxRecDepth 65536 in
set_option maxHeartbeats 40000000 in
theorem a_122 (l : Launch) {Z : State} {a0 : Array Value} (hw : HW1 Z a0) (n0 : Nat) (p0 : Int32) (p1 : Int32) (p2 : Int32) (p3 : Int64) (p4 : Int64) (i0 : Int32) (i1 : Int32) (i2 : Int32) (I0 : Nat) (I1 : Nat) (I2 : Nat) : Met l Z KT n0 y9 prog_15_method_8_code 1 (some (.array .long)) ({ frames := 0, cells := 0, slots := 0, locals := 0 } : Room) #[(rf n0 14)] [.inr (.int, [(.int i0), (.int i1), (.int i2)]), .inr (.int, [(.int p0), (.int p1)]), .inr (.int, [(.int p1), (.int p2)]), .inr (.long, [(.long p3), (.long p4)]), .inr (.long, [(.long p4), (.long p3)]), .inr (.int, [(.int p2), (.int (own_selI I0 p0 p1)), (.int (own_selI I1 p0 p1)), (.int (own_selI I2 p0 p1))]), .inr (.int, [(.int p0), (.int (own_selI I0 p1 p2)), (.int (own_selI I1 p1 p2)), (.int (own_selI I2 p1 p2))]), .inr (.long, [(.long (p3 ^^^ (-1 : Int64))), (.long (own_selJ I0 p3 p4)), (.long (own_selJ I1 p3 p4)), (.long (own_selJ I2 p3 p4))]), .inr (.long, [(.long (p4 ^^^ (-1 : Int64))), (.long (own_selJ I0 p4 p3)), (.long (own_selJ I1 p4 p3)), (.long (own_selJ I2 p4 p3))]), .inl (0, [(rf n0 10), (rf n0 11), (rf n0 12), (rf n0 13), (.int (2 : Int32))]), .inr (.int, [(.int p0), (.int p1)]), .inr (.int, [(.int p1), (.int p2)]), .inr (.long, [(.long p3), (.long p4)]), .inr (.long, [(.long p4), (.long p3)]), .inl (0, [(rf n0 15), (rf n0 16), (rf n0 17), (rf n0 18), (.int (4 : Int32))]), .inr (.int, [(.int p2), (.int (own_selI I0 p0 p1)), (.int (own_selI I1 p0 p1)), (.int (own_selI I2 p0 p1))]), .inr (.int, [(.int p0), (.int (own_selI I0 p1 p2)), (.int (own_selI I1 p1 p2)), (.int (own_selI I2 p1 p2))]), .inr (.long, [(.long (p3 ^^^ (-1 : Int64))), (.long (own_selJ I0 p3 p4)), (.long (own_selJ I1 p3 p4)), (.long (own_selJ I2 p3 p4))]), .inr (.long, [(.long (p4 ^^^ (-1 : Int64))), (.long (own_selJ I0 p4 p3)), (.long (own_selJ I1 p4 p3)), (.long (own_selJ I2 p4 p3))])] (Is (some (rf n0 17)) [.inr (.int, [(.int i0), (.int i1), (.int i2)]), .inr (.int, [(.int p0), (.int p1)]), .inr (.int, [(.int p1), (.int p2)]), .inr (.long, [(.long p3), (.long p4)]), .inr (.long, [(.long p4), (.long p3)]), .inr (.int, [(.int p2), (.int (own_selI I0 p0 p1)), (.int (own_selI I1 p0 p1)), (.int (own_selI I2 p0 p1))]), .inr (.int, [(.int p0), (.int (own_selI I0 p1 p2)), (.int (own_selI I1 p1 p2)), (.int (own_selI I2 p1 p2))]), .inr (.long, [(.long (p3 ^^^ (-1 : Int64))), (.long (own_selJ I0 p3 p4)), (.long (own_selJ I1 p3 p4)), (.long (own_selJ I2 p3 p4))]), .inr (.long, [(.long (p4 ^^^ (-1 : Int64))), (.long (own_selJ I0 p4 p3)), (.long (own_selJ I1 p4 p3)), (.long (own_selJ I2 p4 p3))]), .inl (0, [(rf n0 10), (rf n0 11), (rf n0 12), (rf n0 13), (.int (2 : Int32))]), .inr (.int, [(.int p0), (.int p1)]), .inr (.int, [(.int p1), (.int p2)]), .inr (.long, [(.long p3), (.long p4)]), .inr (.long, [(.long p4), (.long p3)]), .inl (0, [(rf n0 15), (rf n0 16), (rf n0 17), (rf n0 18), (.int (4 : Int32))]), .inr (.int, [(.int p2), (.int (own_selI I0 p0 p1)), (.int (own_selI I1 p0 p1)), (.int (own_selI I2 p0 p1))]), .inr (.int, [(.int p0), (.int (own_selI I0 p1 p2)), (.int (own_selI I1 p1 p2)), (.int (own_selI I2 p1 p2))]), .inr (.long, [(.long (p3 ^^^ (-1 : Int64))), (.long (own_selJ I0 p3 p4)), (.long (own_selJ I1 p3 p4)), (.long (own_selJ I2 p3 p4))]), .inr (.long, [(.long (p4 ^^^ (-1 : Int64))), (.long (own_selJ I0 p4 p3)), (.long (own_selJ I1 p4 p3)), (.long (own_selJ I2 p4 p3))])]) := by
  refine Met.of (a0 := a0) (ls := #[.val (rf n0 14)]) (kok hw) (plainFor_of_name pn_8) (fun m => by first | (simp [entryFrame, mkF, argsToLocals, Value.category]; done) | rfl) (fun G H => ?_)
  refine H.aloadN s9_0 rfl rfl ?_
  refine H.getfield s9_1 (k_13 hw) (i := 14) rfl rfl ?_
  exact H.areturn s9_4 rfl rfl rfl rfl ⟨rfl, rfl⟩ (by decide) (by decide)


set_option maxRecDepth 65536 in
set_option maxHeartbeats 40000000 in
theorem a_123 (l : Launch) {Z : State} {a0 : Array Value} (hw : HW1 Z a0) (n0 : Nat) (p0 : Int32) (p1 : Int32) (p2 : Int32) (p3 : Int64) (p4 : Int64) (i0 : Int32) (i1 : Int32) (i2 : Int32) (I0 : Nat) (I1 : Nat) (I2 : Nat) : Met l Z KT n0 y10 prog_15_method_9_code 1 (some (.array .long)) ({ frames := 0, cells := 0, slots := 0, locals := 0 } : Room) #[(rf n0 14)] [.inr (.int, [(.int i0), (.int i1), (.int i2)]), .inr (.int, [(.int p0), (.int p1)]), .inr (.int, [(.int p1), (.int p2)]), .inr (.long, [(.long p3), (.long p4)]), .inr (.long, [(.long p4), (.long p3)]), .inr (.int, [(.int p2), (.int (own_selI I0 p0 p1)), (.int (own_selI I1 p0 p1)), (.int (own_selI I2 p0 p1))]), .inr (.int, [(.int p0), (.int (own_selI I0 p1 p2)), (.int (own_selI I1 p1 p2)), (.int (own_selI I2 p1 p2))]), .inr (.long, [(.long (p3 ^^^ (-1 : Int64))), (.long (own_selJ I0 p3 p4)), (.long (own_selJ I1 p3 p4)), (.long (own_selJ I2 p3 p4))]), .inr (.long, [(.long (p4 ^^^ (-1 : Int64))), (.long (own_selJ I0 p4 p3)), (.long (own_selJ I1 p4 p3)), (.long (own_selJ I2 p4 p3))]), .inl (0, [(rf n0 10), (rf n0 11), (rf n0 12), (rf n0 13), (.int (2 : Int32))]), .inr (.int, [(.int p0), (.int p1)]), .inr (.int, [(.int p1), (.int p2)]), .inr (.long, [(.long p3), (.long p4)]), .inr (.long, [(.long p4), (.long p3)]), .inl (0, [(rf n0 15), (rf n0 16), (rf n0 17), (rf n0 18), (.int (4 : Int32))]), .inr (.int, [(.int p2), (.int (own_selI I0 p0 p1)), (.int (own_selI I1 p0 p1)), (.int (own_selI I2 p0 p1))]), .inr (.int, [(.int p0), (.int (own_selI I0 p1 p2)), (.int (own_selI I1 p1 p2)), (.int (own_selI I2 p1 p2))]), .inr (.long, [(.long (p3 ^^^ (-1 : Int64))), (.long (own_selJ I0 p3 p4)), (.long (own_selJ I1 p3 p4)), (.long (own_selJ I2 p3 p4))]), .inr (.long, [(.long (p4 ^^^ (-1 : Int64))), (.long (own_selJ I0 p4 p3)), (.long (own_selJ I1 p4 p3)), (.long (own_selJ I2 p4 p3))])] (Is (some (rf n0 18)) [.inr (.int, [(.int i0), (.int i1), (.int i2)]), .inr (.int, [(.int p0), (.int p1)]), .inr (.int, [(.int p1), (.int p2)]), .inr (.long, [(.long p3), (.long p4)]), .inr (.long, [(.long p4), (.long p3)]), .inr (.int, [(.int p2), (.int (own_selI I0 p0 p1)), (.int (own_selI I1 p0 p1)), (.int (own_selI I2 p0 p1))]), .inr (.int, [(.int p0), (.int (own_selI I0 p1 p2)), (.int (own_selI I1 p1 p2)), (.int (own_selI I2 p1 p2))]), .inr (.long, [(.long (p3 ^^^ (-1 : Int64))), (.long (own_selJ I0 p3 p4)), (.long (own_selJ I1 p3 p4)), (.long (own_selJ I2 p3 p4))]), .inr (.long, [(.long (p4 ^^^ (-1 : Int64))), (.long (own_selJ I0 p4 p3)), (.long (own_selJ I1 p4 p3)), (.long (own_selJ I2 p4 p3))]), .inl (0, [(rf n0 10), (rf n0 11), (rf n0 12), (rf n0 13), (.int (2 : Int32))]), .inr (.int, [(.int p0), (.int p1)]), .inr (.int, [(.int p1), (.int p2)]), .inr (.long, [(.long p3), (.long p4)]), .inr (.long, [(.long p4), (.long p3)]), .inl (0, [(rf n0 15), (rf n0 16), (rf n0 17), (rf n0 18), (.int (4 : Int32))]), .inr (.int, [(.int p2), (.int (own_selI I0 p0 p1)), (.int (own_selI I1 p0 p1)), (.int (own_selI I2 p0 p1))]), .inr (.int, [(.int p0), (.int (own_selI I0 p1 p2)), (.int (own_selI I1 p1 p2)), (.int (own_selI I2 p1 p2))]), .inr (.long, [(.long (p3 ^^^ (-1 : Int64))), (.long (own_selJ I0 p3 p4)), (.long (own_selJ I1 p3 p4)), (.long (own_selJ I2 p3 p4))]), .inr (.long, [(.long (p4 ^^^ (-1 : Int64))), (.long (own_selJ I0 p4 p3)), (.long (own_selJ I1 p4 p3)), (.long (own_selJ I2 p4 p3))])]) := by
  refine Met.of (a0 := a0) (ls := #[.val (rf n0 14)]) (kok hw) (plainFor_of_name pn_8) (fun m => by first | (simp [entryFrame, mkF, argsToLocals, Value.category]; done) | rfl) (fun G H => ?_)
  refine H.aloadN s10_0 rfl rfl ?_
  refine H.getfield s10_1 (k_14 hw) (i := 14) rfl rfl ?_
  exact H.areturn s10_4 rfl rfl rfl rfl ⟨rfl, rfl⟩ (by decide) (by decide)


set_option maxRecDepth 65536 in
set_option maxHeartbeats 40000000 in
theorem a_124 (l : Launch) {Z : State} {a0 : Array Value} (hw : HW1 Z a0) (n0 : Nat) (p0 : Int32) (p1 : Int32) (p2 : Int32) (p3 : Int64) (p4 : Int64) (i0 : Int32) (i1 : Int32) (i2 : Int32) (I0 : Nat) (I1 : Nat) (I2 : Nat) : Met l Z KT n0 y11 method_4_code 2 (some .boolean) ({ frames := 0, cells := 0, slots := 0, locals := 0 } : Room) #[(rf n0 15), (rf n0 5)] [.inr (.int, [(.int i0), (.int i1), (.int i2)]), .inr (.int, [(.int p0), (.int p1)]), .inr (.int, [(.int p1), (.int p2)]), .inr (.long, [(.long p3), (.long p4)]), .inr (.long, [(.long p4), (.long p3)]), .inr (.int, [(.int p2), (.int (own_selI I0 p0 p1)), (.int (own_selI I1 p0 p1)), (.int (own_selI I2 p0 p1))]), .inr (.int, [(.int p0), (.int (own_selI I0 p1 p2)), (.int (own_selI I1 p1 p2)), (.int (own_selI I2 p1 p2))]), .inr (.long, [(.long (p3 ^^^ (-1 : Int64))), (.long (own_selJ I0 p3 p4)), (.long (own_selJ I1 p3 p4)), (.long (own_selJ I2 p3 p4))]), .inr (.long, [(.long (p4 ^^^ (-1 : Int64))), (.long (own_selJ I0 p4 p3)), (.long (own_selJ I1 p4 p3)), (.long (own_selJ I2 p4 p3))]), .inl (0, [(rf n0 10), (rf n0 11), (rf n0 12), (rf n0 13), (.int (2 : Int32))]), .inr (.int, [(.int p0), (.int p1)]), .inr (.int, [(.int p1), (.int p2)]), .inr (.long, [(.long p3), (.long p4)]), .inr (.long, [(.long p4), (.long p3)]), .inl (0, [(rf n0 15), (rf n0 16), (rf n0 17), (rf n0 18), (.int (4 : Int32))]), .inr (.int, [(.int p2), (.int (own_selI I0 p0 p1)), (.int (own_selI I1 p0 p1)), (.int (own_selI I2 p0 p1))]), .inr (.int, [(.int p0), (.int (own_selI I0 p1 p2)), (.int (own_selI I1 p1 p2)), (.int (own_selI I2 p1 p2))]), .inr (.long, [(.long (p3 ^^^ (-1 : Int64))), (.long (own_selJ I0 p3 p4)), (.long (own_selJ I1 p3 p4)), (.long (own_selJ I2 p3 p4))]), .inr (.long, [(.long (p4 ^^^ (-1 : Int64))), (.long (own_selJ I0 p4 p3)), (.long (own_selJ I1 p4 p3)), (.long (own_selJ I2 p4 p3))])] (Is (some (.int (1 : Int32))) [.inr (.int, [(.int i0), (.int i1), (.int i2)]), .inr (.int, [(.int p0), (.int p1)]), .inr (.int, [(.int p1), (.int p2)]), .inr (.long, [(.long p3), (.long p4)]), .inr (.long, [(.long p4), (.long p3)]), .inr (.int, [(.int p2), (.int (own_selI I0 p0 p1)), (.int (own_selI I1 p0 p1)), (.int (own_selI I2 p0 p1))]), .inr (.int, [(.int p0), (.int (own_selI I0 p1 p2)), (.int (own_selI I1 p1 p2)), (.int (own_selI I2 p1 p2))]), .inr (.long, [(.long (p3 ^^^ (-1 : Int64))), (.long (own_selJ I0 p3 p4)), (.long (own_selJ I1 p3 p4)), (.long (own_selJ I2 p3 p4))]), .inr (.long, [(.long (p4 ^^^ (-1 : Int64))), (.long (own_selJ I0 p4 p3)), (.long (own_selJ I1 p4 p3)), (.long (own_selJ I2 p4 p3))]), .inl (0, [(rf n0 10), (rf n0 11), (rf n0 12), (rf n0 13), (.int (2 : Int32))]), .inr (.int, [(.int p0), (.int p1)]), .inr (.int, [(.int p1), (.int p2)]), .inr (.long, [(.long p3), (.long p4)]), .inr (.long, [(.long p4), (.long p3)]), .inl (0, [(rf n0 15), (rf n0 16), (rf n0 17), (rf n0 18), (.int (4 : Int32))]), .inr (.int, [(.int p2), (.int (own_selI I0 p0 p1)), (.int (own_selI I1 p0 p1)), (.int (own_selI I2 p0 p1))]), .inr (.int, [(.int p0), (.int (own_selI I0 p1 p2)), (.int (own_selI I1 p1 p2)), (.int (own_selI I2 p1 p2))]), .inr (.long, [(.long (p3 ^^^ (-1 : Int64))), (.long (own_selJ I0 p3 p4)), (.long (own_selJ I1 p3 p4)), (.long (own_selJ I2 p3 p4))]), .inr (.long, [(.long (p4 ^^^ (-1 : Int64))), (.long (own_selJ I0 p4 p3)), (.long (own_selJ I1 p4 p3)), (.long (own_selJ I2 p4 p3))])]) := by
  refine Met.of (a0 := a0) (ls := #[.val (rf n0 15), .val (rf n0 5)]) (kok hw) (plainFor_of_name pn_24) (fun m => by first | (simp [entryFrame, mkF, argsToLocals, Value.category]; done) | rfl) (fun G H => ?_)
  refine H.aloadN s11_0 rfl rfl ?_
  refine H.arraylength s11_1 (i := 15) rfl (z := (4 : Int32)) rfl ?_
  refine H.iconst s11_2 (v := (4 : Int32)) (by decide) ?_
  refine H.icmpF s11_3 (show (4 : Int32) = (4 : Int32) by decide) ?_
  refine H.aloadN s11_6 rfl rfl ?_
  refine H.iconst s11_7 (v := (0 : Int32)) (by decide) ?_
  refine H.iaload s11_8 (i := 15) (j := 0) rfl (by decide) (v := (.int p2)) rfl ?_
  refine H.aloadN s11_9 rfl rfl ?_
  refine H.iconst s11_10 (v := (0 : Int32)) (by decide) ?_
  refine H.iaload s11_11 (i := 5) (j := 0) rfl (by decide) (v := (.int p2)) rfl ?_
  refine H.icmpF s11_12 rfl ?_
  refine H.aloadN s11_15 rfl rfl ?_
  refine H.iconst s11_16 (v := (1 : Int32)) (by decide) ?_
  refine H.iaload s11_17 (i := 15) (j := 1) rfl (by decide) (v := (.int (own_selI I0 p0 p1))) rfl ?_
  refine H.aloadN s11_18 rfl rfl ?_
  refine H.iconst s11_19 (v := (1 : Int32)) (by decide) ?_
  refine H.iaload s11_20 (i := 5) (j := 1) rfl (by decide) (v := (.int (own_selI I0 p0 p1))) rfl ?_
  refine H.icmpF s11_21 rfl ?_
  refine H.aloadN s11_24 rfl rfl ?_
  refine H.iconst s11_25 (v := (2 : Int32)) (by decide) ?_
  refine H.iaload s11_26 (i := 15) (j := 2) rfl (by decide) (v := (.int (own_selI I1 p0 p1))) rfl ?_
  refine H.aloadN s11_27 rfl rfl ?_
  refine H.iconst s11_28 (v := (2 : Int32)) (by decide) ?_
  refine H.iaload s11_29 (i := 5) (j := 2) rfl (by decide) (v := (.int (own_selI I1 p0 p1))) rfl ?_
  refine H.icmpF s11_30 rfl ?_
  refine H.aloadN s11_33 rfl rfl ?_
  refine H.iconst s11_34 (v := (3 : Int32)) (by decide) ?_
  refine H.iaload s11_35 (i := 15) (j := 3) rfl (by decide) (v := (.int (own_selI I2 p0 p1))) rfl ?_
  refine H.aloadN s11_36 rfl rfl ?_
  refine H.iconst s11_37 (v := (3 : Int32)) (by decide) ?_
  refine H.iaload s11_38 (i := 5) (j := 3) rfl (by decide) (v := (.int (own_selI I2 p0 p1))) rfl ?_
  refine H.icmpF s11_39 rfl ?_
  refine H.iconst s11_42 (v := (1 : Int32)) (by decide) ?_
  refine H.goto s11_43 ?_
  exact H.ireturn s11_47 rfl (by simp) rfl ⟨rfl, rfl⟩ (by decide) (by decide)


set_option maxRecDepth 65536 in
set_option maxHeartbeats 40000000 in
theorem a_125 (l : Launch) {Z : State} {a0 : Array Value} (hw : HW1 Z a0) (n0 : Nat) (p0 : Int32) (p1 : Int32) (p2 : Int32) (p3 : Int64) (p4 : Int64) (i0 : Int32) (i1 : Int32) (i2 : Int32) (I0 : Nat) (I1 : Nat) (I2 : Nat) : Met l Z KT n0 y11 method_4_code 2 (some .boolean) ({ frames := 0, cells := 0, slots := 0, locals := 0 } : Room) #[(rf n0 16), (rf n0 6)] [.inr (.int, [(.int i0), (.int i1), (.int i2)]), .inr (.int, [(.int p0), (.int p1)]), .inr (.int, [(.int p1), (.int p2)]), .inr (.long, [(.long p3), (.long p4)]), .inr (.long, [(.long p4), (.long p3)]), .inr (.int, [(.int p2), (.int (own_selI I0 p0 p1)), (.int (own_selI I1 p0 p1)), (.int (own_selI I2 p0 p1))]), .inr (.int, [(.int p0), (.int (own_selI I0 p1 p2)), (.int (own_selI I1 p1 p2)), (.int (own_selI I2 p1 p2))]), .inr (.long, [(.long (p3 ^^^ (-1 : Int64))), (.long (own_selJ I0 p3 p4)), (.long (own_selJ I1 p3 p4)), (.long (own_selJ I2 p3 p4))]), .inr (.long, [(.long (p4 ^^^ (-1 : Int64))), (.long (own_selJ I0 p4 p3)), (.long (own_selJ I1 p4 p3)), (.long (own_selJ I2 p4 p3))]), .inl (0, [(rf n0 10), (rf n0 11), (rf n0 12), (rf n0 13), (.int (2 : Int32))]), .inr (.int, [(.int p0), (.int p1)]), .inr (.int, [(.int p1), (.int p2)]), .inr (.long, [(.long p3), (.long p4)]), .inr (.long, [(.long p4), (.long p3)]), .inl (0, [(rf n0 15), (rf n0 16), (rf n0 17), (rf n0 18), (.int (4 : Int32))]), .inr (.int, [(.int p2), (.int (own_selI I0 p0 p1)), (.int (own_selI I1 p0 p1)), (.int (own_selI I2 p0 p1))]), .inr (.int, [(.int p0), (.int (own_selI I0 p1 p2)), (.int (own_selI I1 p1 p2)), (.int (own_selI I2 p1 p2))]), .inr (.long, [(.long (p3 ^^^ (-1 : Int64))), (.long (own_selJ I0 p3 p4)), (.long (own_selJ I1 p3 p4)), (.long (own_selJ I2 p3 p4))]), .inr (.long, [(.long (p4 ^^^ (-1 : Int64))), (.long (own_selJ I0 p4 p3)), (.long (own_selJ I1 p4 p3)), (.long (own_selJ I2 p4 p3))])] (Is (some (.int (1 : Int32))) [.inr (.int, [(.int i0), (.int i1), (.int i2)]), .inr (.int, [(.int p0), (.int p1)]), .inr (.int, [(.int p1), (.int p2)]), .inr (.long, [(.long p3), (.long p4)]), .inr (.long, [(.long p4), (.long p3)]), .inr (.int, [(.int p2), (.int (own_selI I0 p0 p1)), (.int (own_selI I1 p0 p1)), (.int (own_selI I2 p0 p1))]), .inr (.int, [(.int p0), (.int (own_selI I0 p1 p2)), (.int (own_selI I1 p1 p2)), (.int (own_selI I2 p1 p2))]), .inr (.long, [(.long (p3 ^^^ (-1 : Int64))), (.long (own_selJ I0 p3 p4)), (.long (own_selJ I1 p3 p4)), (.long (own_selJ I2 p3 p4))]), .inr (.long, [(.long (p4 ^^^ (-1 : Int64))), (.long (own_selJ I0 p4 p3)), (.long (own_selJ I1 p4 p3)), (.long (own_selJ I2 p4 p3))]), .inl (0, [(rf n0 10), (rf n0 11), (rf n0 12), (rf n0 13), (.int (2 : Int32))]), .inr (.int, [(.int p0), (.int p1)]), .inr (.int, [(.int p1), (.int p2)]), .inr (.long, [(.long p3), (.long p4)]), .inr (.long, [(.long p4), (.long p3)]), .inl (0, [(rf n0 15), (rf n0 16), (rf n0 17), (rf n0 18), (.int (4 : Int32))]), .inr (.int, [(.int p2), (.int (own_selI I0 p0 p1)), (.int (own_selI I1 p0 p1)), (.int (own_selI I2 p0 p1))]), .inr (.int, [(.int p0), (.int (own_selI I0 p1 p2)), (.int (own_selI I1 p1 p2)), (.int (own_selI I2 p1 p2))]), .inr (.long, [(.long (p3 ^^^ (-1 : Int64))), (.long (own_selJ I0 p3 p4)), (.long (own_selJ I1 p3 p4)), (.long (own_selJ I2 p3 p4))]), .inr (.long, [(.long (p4 ^^^ (-1 : Int64))), (.long (own_selJ I0 p4 p3)), (.long (own_selJ I1 p4 p3)), (.long (own_selJ I2 p4 p3))])]) := by
  refine Met.of (a0 := a0) (ls := #[.val (rf n0 16), .val (rf n0 6)]) (kok hw) (plainFor_of_name pn_24) (fun m => by first | (simp [entryFrame, mkF, argsToLocals, Value.category]; done) | rfl) (fun G H => ?_)
  refine H.aloadN s11_0 rfl rfl ?_
  refine H.arraylength s11_1 (i := 16) rfl (z := (4 : Int32)) rfl ?_
  refine H.iconst s11_2 (v := (4 : Int32)) (by decide) ?_
  refine H.icmpF s11_3 (show (4 : Int32) = (4 : Int32) by decide) ?_
  refine H.aloadN s11_6 rfl rfl ?_
  refine H.iconst s11_7 (v := (0 : Int32)) (by decide) ?_
  refine H.iaload s11_8 (i := 16) (j := 0) rfl (by decide) (v := (.int p0)) rfl ?_
  refine H.aloadN s11_9 rfl rfl ?_
  refine H.iconst s11_10 (v := (0 : Int32)) (by decide) ?_
  refine H.iaload s11_11 (i := 6) (j := 0) rfl (by decide) (v := (.int p0)) rfl ?_
  refine H.icmpF s11_12 rfl ?_
  refine H.aloadN s11_15 rfl rfl ?_
  refine H.iconst s11_16 (v := (1 : Int32)) (by decide) ?_
  refine H.iaload s11_17 (i := 16) (j := 1) rfl (by decide) (v := (.int (own_selI I0 p1 p2))) rfl ?_
  refine H.aloadN s11_18 rfl rfl ?_
  refine H.iconst s11_19 (v := (1 : Int32)) (by decide) ?_
  refine H.iaload s11_20 (i := 6) (j := 1) rfl (by decide) (v := (.int (own_selI I0 p1 p2))) rfl ?_
  refine H.icmpF s11_21 rfl ?_
  refine H.aloadN s11_24 rfl rfl ?_
  refine H.iconst s11_25 (v := (2 : Int32)) (by decide) ?_
  refine H.iaload s11_26 (i := 16) (j := 2) rfl (by decide) (v := (.int (own_selI I1 p1 p2))) rfl ?_
  refine H.aloadN s11_27 rfl rfl ?_
  refine H.iconst s11_28 (v := (2 : Int32)) (by decide) ?_
  refine H.iaload s11_29 (i := 6) (j := 2) rfl (by decide) (v := (.int (own_selI I1 p1 p2))) rfl ?_
  refine H.icmpF s11_30 rfl ?_
  refine H.aloadN s11_33 rfl rfl ?_
  refine H.iconst s11_34 (v := (3 : Int32)) (by decide) ?_
  refine H.iaload s11_35 (i := 16) (j := 3) rfl (by decide) (v := (.int (own_selI I2 p1 p2))) rfl ?_
  refine H.aloadN s11_36 rfl rfl ?_
  refine H.iconst s11_37 (v := (3 : Int32)) (by decide) ?_
  refine H.iaload s11_38 (i := 6) (j := 3) rfl (by decide) (v := (.int (own_selI I2 p1 p2))) rfl ?_
  refine H.icmpF s11_39 rfl ?_
  refine H.iconst s11_42 (v := (1 : Int32)) (by decide) ?_
  refine H.goto s11_43 ?_
  exact H.ireturn s11_47 rfl (by simp) rfl ⟨rfl, rfl⟩ (by decide) (by decide)


set_option maxRecDepth 65536 in
set_option maxHeartbeats 40000000 in
theorem a_126 (l : Launch) {Z : State} {a0 : Array Value} (hw : HW1 Z a0) (n0 : Nat) (p0 : Int32) (p1 : Int32) (p2 : Int32) (p3 : Int64) (p4 : Int64) (i0 : Int32) (i1 : Int32) (i2 : Int32) (I0 : Nat) (I1 : Nat) (I2 : Nat) : Met l Z KT n0 y12 method_5_code 2 (some .boolean) ({ frames := 0, cells := 0, slots := 0, locals := 0 } : Room) #[(rf n0 17), (rf n0 7)] [.inr (.int, [(.int i0), (.int i1), (.int i2)]), .inr (.int, [(.int p0), (.int p1)]), .inr (.int, [(.int p1), (.int p2)]), .inr (.long, [(.long p3), (.long p4)]), .inr (.long, [(.long p4), (.long p3)]), .inr (.int, [(.int p2), (.int (own_selI I0 p0 p1)), (.int (own_selI I1 p0 p1)), (.int (own_selI I2 p0 p1))]), .inr (.int, [(.int p0), (.int (own_selI I0 p1 p2)), (.int (own_selI I1 p1 p2)), (.int (own_selI I2 p1 p2))]), .inr (.long, [(.long (p3 ^^^ (-1 : Int64))), (.long (own_selJ I0 p3 p4)), (.long (own_selJ I1 p3 p4)), (.long (own_selJ I2 p3 p4))]), .inr (.long, [(.long (p4 ^^^ (-1 : Int64))), (.long (own_selJ I0 p4 p3)), (.long (own_selJ I1 p4 p3)), (.long (own_selJ I2 p4 p3))]), .inl (0, [(rf n0 10), (rf n0 11), (rf n0 12), (rf n0 13), (.int (2 : Int32))]), .inr (.int, [(.int p0), (.int p1)]), .inr (.int, [(.int p1), (.int p2)]), .inr (.long, [(.long p3), (.long p4)]), .inr (.long, [(.long p4), (.long p3)]), .inl (0, [(rf n0 15), (rf n0 16), (rf n0 17), (rf n0 18), (.int (4 : Int32))]), .inr (.int, [(.int p2), (.int (own_selI I0 p0 p1)), (.int (own_selI I1 p0 p1)), (.int (own_selI I2 p0 p1))]), .inr (.int, [(.int p0), (.int (own_selI I0 p1 p2)), (.int (own_selI I1 p1 p2)), (.int (own_selI I2 p1 p2))]), .inr (.long, [(.long (p3 ^^^ (-1 : Int64))), (.long (own_selJ I0 p3 p4)), (.long (own_selJ I1 p3 p4)), (.long (own_selJ I2 p3 p4))]), .inr (.long, [(.long (p4 ^^^ (-1 : Int64))), (.long (own_selJ I0 p4 p3)), (.long (own_selJ I1 p4 p3)), (.long (own_selJ I2 p4 p3))])] (Is (some (.int (1 : Int32))) [.inr (.int, [(.int i0), (.int i1), (.int i2)]), .inr (.int, [(.int p0), (.int p1)]), .inr (.int, [(.int p1), (.int p2)]), .inr (.long, [(.long p3), (.long p4)]), .inr (.long, [(.long p4), (.long p3)]), .inr (.int, [(.int p2), (.int (own_selI I0 p0 p1)), (.int (own_selI I1 p0 p1)), (.int (own_selI I2 p0 p1))]), .inr (.int, [(.int p0), (.int (own_selI I0 p1 p2)), (.int (own_selI I1 p1 p2)), (.int (own_selI I2 p1 p2))]), .inr (.long, [(.long (p3 ^^^ (-1 : Int64))), (.long (own_selJ I0 p3 p4)), (.long (own_selJ I1 p3 p4)), (.long (own_selJ I2 p3 p4))]), .inr (.long, [(.long (p4 ^^^ (-1 : Int64))), (.long (own_selJ I0 p4 p3)), (.long (own_selJ I1 p4 p3)), (.long (own_selJ I2 p4 p3))]), .inl (0, [(rf n0 10), (rf n0 11), (rf n0 12), (rf n0 13), (.int (2 : Int32))]), .inr (.int, [(.int p0), (.int p1)]), .inr (.int, [(.int p1), (.int p2)]), .inr (.long, [(.long p3), (.long p4)]), .inr (.long, [(.long p4), (.long p3)]), .inl (0, [(rf n0 15), (rf n0 16), (rf n0 17), (rf n0 18), (.int (4 : Int32))]), .inr (.int, [(.int p2), (.int (own_selI I0 p0 p1)), (.int (own_selI I1 p0 p1)), (.int (own_selI I2 p0 p1))]), .inr (.int, [(.int p0), (.int (own_selI I0 p1 p2)), (.int (own_selI I1 p1 p2)), (.int (own_selI I2 p1 p2))]), .inr (.long, [(.long (p3 ^^^ (-1 : Int64))), (.long (own_selJ I0 p3 p4)), (.long (own_selJ I1 p3 p4)), (.long (own_selJ I2 p3 p4))]), .inr (.long, [(.long (p4 ^^^ (-1 : Int64))), (.long (own_selJ I0 p4 p3)), (.long (own_selJ I1 p4 p3)), (.long (own_selJ I2 p4 p3))])]) := by
  refine Met.of (a0 := a0) (ls := #[.val (rf n0 17), .val (rf n0 7)]) (kok hw) (plainFor_of_name pn_24) (fun m => by first | (simp [entryFrame, mkF, argsToLocals, Value.category]; done) | rfl) (fun G H => ?_)
  refine H.aloadN s12_0 rfl rfl ?_
  refine H.arraylength s12_1 (i := 17) rfl (z := (4 : Int32)) rfl ?_
  refine H.iconst s12_2 (v := (4 : Int32)) (by decide) ?_
  refine H.icmpF s12_3 (show (4 : Int32) = (4 : Int32) by decide) ?_
  refine H.aloadN s12_6 rfl rfl ?_
  refine H.iconst s12_7 (v := (0 : Int32)) (by decide) ?_
  refine H.laload s12_8 (i := 17) (j := 0) rfl (by decide) (v := (.long (p3 ^^^ (-1 : Int64)))) rfl ?_
  refine H.aloadN s12_9 rfl rfl ?_
  refine H.iconst s12_10 (v := (0 : Int32)) (by decide) ?_
  refine H.laload s12_11 (i := 7) (j := 0) rfl (by decide) (v := (.long (p3 ^^^ (-1 : Int64)))) rfl ?_
  refine H.lifF s12_12 s12_13 rfl ?_
  refine H.aloadN s12_16 rfl rfl ?_
  refine H.iconst s12_17 (v := (1 : Int32)) (by decide) ?_
  refine H.laload s12_18 (i := 17) (j := 1) rfl (by decide) (v := (.long (own_selJ I0 p3 p4))) rfl ?_
  refine H.aloadN s12_19 rfl rfl ?_
  refine H.iconst s12_20 (v := (1 : Int32)) (by decide) ?_
  refine H.laload s12_21 (i := 7) (j := 1) rfl (by decide) (v := (.long (own_selJ I0 p3 p4))) rfl ?_
  refine H.lifF s12_22 s12_23 rfl ?_
  refine H.aloadN s12_26 rfl rfl ?_
  refine H.iconst s12_27 (v := (2 : Int32)) (by decide) ?_
  refine H.laload s12_28 (i := 17) (j := 2) rfl (by decide) (v := (.long (own_selJ I1 p3 p4))) rfl ?_
  refine H.aloadN s12_29 rfl rfl ?_
  refine H.iconst s12_30 (v := (2 : Int32)) (by decide) ?_
  refine H.laload s12_31 (i := 7) (j := 2) rfl (by decide) (v := (.long (own_selJ I1 p3 p4))) rfl ?_
  refine H.lifF s12_32 s12_33 rfl ?_
  refine H.aloadN s12_36 rfl rfl ?_
  refine H.iconst s12_37 (v := (3 : Int32)) (by decide) ?_
  refine H.laload s12_38 (i := 17) (j := 3) rfl (by decide) (v := (.long (own_selJ I2 p3 p4))) rfl ?_
  refine H.aloadN s12_39 rfl rfl ?_
  refine H.iconst s12_40 (v := (3 : Int32)) (by decide) ?_
  refine H.laload s12_41 (i := 7) (j := 3) rfl (by decide) (v := (.long (own_selJ I2 p3 p4))) rfl ?_
  refine H.lifF s12_42 s12_43 rfl ?_
  refine H.iconst s12_46 (v := (1 : Int32)) (by decide) ?_
  refine H.goto s12_47 ?_
  exact H.ireturn s12_51 rfl (by simp) rfl ⟨rfl, rfl⟩ (by decide) (by decide)


set_option maxRecDepth 65536 in
set_option maxHeartbeats 40000000 in
theorem a_127 (l : Launch) {Z : State} {a0 : Array Value} (hw : HW1 Z a0) (n0 : Nat) (p0 : Int32) (p1 : Int32) (p2 : Int32) (p3 : Int64) (p4 : Int64) (i0 : Int32) (i1 : Int32) (i2 : Int32) (I0 : Nat) (I1 : Nat) (I2 : Nat) : Met l Z KT n0 y12 method_5_code 2 (some .boolean) ({ frames := 0, cells := 0, slots := 0, locals := 0 } : Room) #[(rf n0 18), (rf n0 8)] [.inr (.int, [(.int i0), (.int i1), (.int i2)]), .inr (.int, [(.int p0), (.int p1)]), .inr (.int, [(.int p1), (.int p2)]), .inr (.long, [(.long p3), (.long p4)]), .inr (.long, [(.long p4), (.long p3)]), .inr (.int, [(.int p2), (.int (own_selI I0 p0 p1)), (.int (own_selI I1 p0 p1)), (.int (own_selI I2 p0 p1))]), .inr (.int, [(.int p0), (.int (own_selI I0 p1 p2)), (.int (own_selI I1 p1 p2)), (.int (own_selI I2 p1 p2))]), .inr (.long, [(.long (p3 ^^^ (-1 : Int64))), (.long (own_selJ I0 p3 p4)), (.long (own_selJ I1 p3 p4)), (.long (own_selJ I2 p3 p4))]), .inr (.long, [(.long (p4 ^^^ (-1 : Int64))), (.long (own_selJ I0 p4 p3)), (.long (own_selJ I1 p4 p3)), (.long (own_selJ I2 p4 p3))]), .inl (0, [(rf n0 10), (rf n0 11), (rf n0 12), (rf n0 13), (.int (2 : Int32))]), .inr (.int, [(.int p0), (.int p1)]), .inr (.int, [(.int p1), (.int p2)]), .inr (.long, [(.long p3), (.long p4)]), .inr (.long, [(.long p4), (.long p3)]), .inl (0, [(rf n0 15), (rf n0 16), (rf n0 17), (rf n0 18), (.int (4 : Int32))]), .inr (.int, [(.int p2), (.int (own_selI I0 p0 p1)), (.int (own_selI I1 p0 p1)), (.int (own_selI I2 p0 p1))]), .inr (.int, [(.int p0), (.int (own_selI I0 p1 p2)), (.int (own_selI I1 p1 p2)), (.int (own_selI I2 p1 p2))]), .inr (.long, [(.long (p3 ^^^ (-1 : Int64))), (.long (own_selJ I0 p3 p4)), (.long (own_selJ I1 p3 p4)), (.long (own_selJ I2 p3 p4))]), .inr (.long, [(.long (p4 ^^^ (-1 : Int64))), (.long (own_selJ I0 p4 p3)), (.long (own_selJ I1 p4 p3)), (.long (own_selJ I2 p4 p3))])] (Is (some (.int (1 : Int32))) [.inr (.int, [(.int i0), (.int i1), (.int i2)]), .inr (.int, [(.int p0), (.int p1)]), .inr (.int, [(.int p1), (.int p2)]), .inr (.long, [(.long p3), (.long p4)]), .inr (.long, [(.long p4), (.long p3)]), .inr (.int, [(.int p2), (.int (own_selI I0 p0 p1)), (.int (own_selI I1 p0 p1)), (.int (own_selI I2 p0 p1))]), .inr (.int, [(.int p0), (.int (own_selI I0 p1 p2)), (.int (own_selI I1 p1 p2)), (.int (own_selI I2 p1 p2))]), .inr (.long, [(.long (p3 ^^^ (-1 : Int64))), (.long (own_selJ I0 p3 p4)), (.long (own_selJ I1 p3 p4)), (.long (own_selJ I2 p3 p4))]), .inr (.long, [(.long (p4 ^^^ (-1 : Int64))), (.long (own_selJ I0 p4 p3)), (.long (own_selJ I1 p4 p3)), (.long (own_selJ I2 p4 p3))]), .inl (0, [(rf n0 10), (rf n0 11), (rf n0 12), (rf n0 13), (.int (2 : Int32))]), .inr (.int, [(.int p0), (.int p1)]), .inr (.int, [(.int p1), (.int p2)]), .inr (.long, [(.long p3), (.long p4)]), .inr (.long, [(.long p4), (.long p3)]), .inl (0, [(rf n0 15), (rf n0 16), (rf n0 17), (rf n0 18), (.int (4 : Int32))]), .inr (.int, [(.int p2), (.int (own_selI I0 p0 p1)), (.int (own_selI I1 p0 p1)), (.int (own_selI I2 p0 p1))]), .inr (.int, [(.int p0), (.int (own_selI I0 p1 p2)), (.int (own_selI I1 p1 p2)), (.int (own_selI I2 p1 p2))]), .inr (.long, [(.long (p3 ^^^ (-1 : Int64))), (.long (own_selJ I0 p3 p4)), (.long (own_selJ I1 p3 p4)), (.long (own_selJ I2 p3 p4))]), .inr (.long, [(.long (p4 ^^^ (-1 : Int64))), (.long (own_selJ I0 p4 p3)), (.long (own_selJ I1 p4 p3)), (.long (own_selJ I2 p4 p3))])]) := by
  refine Met.of (a0 := a0) (ls := #[.val (rf n0 18), .val (rf n0 8)]) (kok hw) (plainFor_of_name pn_24) (fun m => by first | (simp [entryFrame, mkF, argsToLocals, Value.category]; done) | rfl) (fun G H => ?_)
  refine H.aloadN s12_0 rfl rfl ?_
  refine H.arraylength s12_1 (i := 18) rfl (z := (4 : Int32)) rfl ?_
  refine H.iconst s12_2 (v := (4 : Int32)) (by decide) ?_
  refine H.icmpF s12_3 (show (4 : Int32) = (4 : Int32) by decide) ?_
  refine H.aloadN s12_6 rfl rfl ?_
  refine H.iconst s12_7 (v := (0 : Int32)) (by decide) ?_
  refine H.laload s12_8 (i := 18) (j := 0) rfl (by decide) (v := (.long (p4 ^^^ (-1 : Int64)))) rfl ?_
  refine H.aloadN s12_9 rfl rfl ?_
  refine H.iconst s12_10 (v := (0 : Int32)) (by decide) ?_
  refine H.laload s12_11 (i := 8) (j := 0) rfl (by decide) (v := (.long (p4 ^^^ (-1 : Int64)))) rfl ?_
  refine H.lifF s12_12 s12_13 rfl ?_
  refine H.aloadN s12_16 rfl rfl ?_
  refine H.iconst s12_17 (v := (1 : Int32)) (by decide) ?_
  refine H.laload s12_18 (i := 18) (j := 1) rfl (by decide) (v := (.long (own_selJ I0 p4 p3))) rfl ?_
  refine H.aloadN s12_19 rfl rfl ?_
  refine H.iconst s12_20 (v := (1 : Int32)) (by decide) ?_
  refine H.laload s12_21 (i := 8) (j := 1) rfl (by decide) (v := (.long (own_selJ I0 p4 p3))) rfl ?_
  refine H.lifF s12_22 s12_23 rfl ?_
  refine H.aloadN s12_26 rfl rfl ?_
  refine H.iconst s12_27 (v := (2 : Int32)) (by decide) ?_
  refine H.laload s12_28 (i := 18) (j := 2) rfl (by decide) (v := (.long (own_selJ I1 p4 p3))) rfl ?_
  refine H.aloadN s12_29 rfl rfl ?_
  refine H.iconst s12_30 (v := (2 : Int32)) (by decide) ?_
  refine H.laload s12_31 (i := 8) (j := 2) rfl (by decide) (v := (.long (own_selJ I1 p4 p3))) rfl ?_
  refine H.lifF s12_32 s12_33 rfl ?_
  refine H.aloadN s12_36 rfl rfl ?_
  refine H.iconst s12_37 (v := (3 : Int32)) (by decide) ?_
  refine H.laload s12_38 (i := 18) (j := 3) rfl (by decide) (v := (.long (own_selJ I2 p4 p3))) rfl ?_
  refine H.aloadN s12_39 rfl rfl ?_
  refine H.iconst s12_40 (v := (3 : Int32)) (by decide) ?_
  refine H.laload s12_41 (i := 8) (j := 3) rfl (by decide) (v := (.long (own_selJ I2 p4 p3))) rfl ?_
  refine H.lifF s12_42 s12_43 rfl ?_
  refine H.iconst s12_46 (v := (1 : Int32)) (by decide) ?_
  refine H.goto s12_47 ?_
  exact H.ireturn s12_51 rfl (by simp) rfl ⟨rfl, rfl⟩ (by decide) (by decide)


set_option maxRecDepth 65536 in
set_option maxHeartbeats 40000000 in
theorem law_met (l : Launch) {Z : State} {a0 : Array Value} (hw : HW1 Z a0) (n0 : Nat) (p0 : Int32) (p1 : Int32) (p2 : Int32) (p3 : Int64) (p4 : Int64) (p5 : Int32) : Met l Z KT n0 x code maxLocals ret room_1 #[(.int p0), (.int p1), (.int p2), (.long p3), (.long p4), (.int p5)] [] (fun v _ => v = some (.int 1)) := by
  refine Met.of (a0 := a0) (ls := #[.val (.int p0), .val (.int p1), .val (.int p2), .val (.long p3), .second, .val (.long p4), .second, .val (.int p5), .unset, .unset, .unset, .unset, .unset, .unset, .unset, .unset, .unset, .unset, .unset, .unset, .unset, .unset, .unset, .unset, .unset, .unset, .unset, .unset]) (kok hw) (plainFor_of_name pn_24) (fun m => by first | (simp [entryFrame, mkF, argsToLocals, Value.category, maxLocals]; done) | rfl) (fun G H => ?_)
  obtain ⟨i0, hi0, I0, hI0, lI0⟩ := own_ix ((p5.toUInt32 >>> ((3 : Int32) &&& 31).toUInt32).toInt32)
  obtain ⟨i1, hi1, I1, hI1, lI1⟩ := own_ix ((p5.toUInt32 >>> ((4 : Int32) &&& 31).toUInt32).toInt32)
  obtain ⟨i2, hi2, I2, hI2, lI2⟩ := own_ix ((p5.toUInt32 >>> ((5 : Int32) &&& 31).toUInt32).toInt32)
  refine H.iload s0_0 rfl ?_
  refine H.iconst s0_2 (v := (1 : Int32)) (by decide) ?_
  rcases own_and1 p5 with hz3 | hz3
  · refine H.iand s0_3 (w := (0 : Int32)) hz3 ?_
    refine H.istore s0_4 (ls' := #[.val (.int p0), .val (.int p1), .val (.int p2), .val (.long p3), .second, .val (.long p4), .second, .val (.int p5), .val oz, .unset, .unset, .unset, .unset, .unset, .unset, .unset, .unset, .unset, .unset, .unset, .unset, .unset, .unset, .unset, .unset, .unset, .unset, .unset]) rfl ?_
    refine H.iload s0_6 rfl ?_
    refine H.iconst s0_8 (v := (1 : Int32)) (by decide) ?_
    refine H.iushr s0_9 rfl ?_
    refine H.iconst s0_10 (v := (3 : Int32)) (by decide) ?_
    rcases own_and3 ((p5.toUInt32 >>> ((1 : Int32) &&& 31).toUInt32).toInt32) with hz11 | hz11 | hz11 | hz11
    · refine H.iand s0_11 (w := (0 : Int32)) hz11 ?_
      refine H.istore s0_12 (ls' := #[.val (.int p0), .val (.int p1), .val (.int p2), .val (.long p3), .second, .val (.long p4), .second, .val (.int p5), .val oz, .val oz, .unset, .unset, .unset, .unset, .unset, .unset, .unset, .unset, .unset, .unset, .unset, .unset, .unset, .unset, .unset, .unset, .unset, .unset]) rfl ?_
      refine H.iload s0_14 rfl ?_
      refine H.iconst s0_16 (v := (3 : Int32)) (by decide) ?_
      refine H.iushr s0_17 rfl ?_
      refine H.iconst s0_18 (v := (1 : Int32)) (by decide) ?_
      refine H.iand s0_19 (w := i0) hi0 ?_
      refine H.istore s0_20 (ls' := #[.val (.int p0), .val (.int p1), .val (.int p2), .val (.long p3), .second, .val (.long p4), .second, .val (.int p5), .val oz, .val oz, .val (.int i0), .unset, .unset, .unset, .unset, .unset, .unset, .unset, .unset, .unset, .unset, .unset, .unset, .unset, .unset, .unset, .unset, .unset]) rfl ?_
      refine H.iload s0_22 rfl ?_
      refine H.iconst s0_24 (v := (4 : Int32)) (by decide) ?_
      refine H.iushr s0_25 rfl ?_
      refine H.iconst s0_26 (v := (1 : Int32)) (by decide) ?_
      refine H.iand s0_27 (w := i1) hi1 ?_
      refine H.istore s0_28 (ls' := #[.val (.int p0), .val (.int p1), .val (.int p2), .val (.long p3), .second, .val (.long p4), .second, .val (.int p5), .val oz, .val oz, .val (.int i0), .val (.int i1), .unset, .unset, .unset, .unset, .unset, .unset, .unset, .unset, .unset, .unset, .unset, .unset, .unset, .unset, .unset, .unset]) rfl ?_
      refine H.iload s0_30 rfl ?_
      refine H.iconst s0_32 (v := (5 : Int32)) (by decide) ?_
      refine H.iushr s0_33 rfl ?_
      refine H.iconst s0_34 (v := (1 : Int32)) (by decide) ?_
      refine H.iand s0_35 (w := i2) hi2 ?_
      refine H.istore s0_36 (ls' := #[.val (.int p0), .val (.int p1), .val (.int p2), .val (.long p3), .second, .val (.long p4), .second, .val (.int p5), .val oz, .val oz, .val (.int i0), .val (.int i1), .val (.int i2), .unset, .unset, .unset, .unset, .unset, .unset, .unset, .unset, .unset, .unset, .unset, .unset, .unset, .unset, .unset]) rfl ?_
      refine H.iload s0_38 rfl ?_
      refine H.ifF s0_40 (show (0 : Int32) = (0 : Int32) by decide) ?_
      refine H.iconst s0_43 (v := (0 : Int32)) (by decide) ?_
      refine H.newarray s0_44 (ty := .int) rfl (k_0 hw) (N := 0) (cap := 0) (by decide) rfl (by decide) (by decide) rfl (by decide) (by decide) (i := 0) rfl (A' := [.inr (.int, [])]) rfl (k' := 1) rfl (n' := 0) rfl ?_
      refine H.astore s0_46 rfl (ls' := #[.val (.int p0), .val (.int p1), .val (.int p2), .val (.long p3), .second, .val (.long p4), .second, .val (.int p5), .val oz, .val oz, .val (.int i0), .val (.int i1), .val (.int i2), .val (rf n0 0), .unset, .unset, .unset, .unset, .unset, .unset, .unset, .unset, .unset, .unset, .unset, .unset, .unset, .unset]) rfl ?_
      refine H.goto s0_48 ?_
      refine H.iconst s0_114 (v := (2 : Int32)) (by decide) ?_
      refine H.newarray s0_115 (ty := .int) rfl (k_0 hw) (N := 2) (cap := 2) (by decide) rfl (by decide) (by decide) rfl (by decide) (by decide) (i := 1) rfl (A' := [.inr (.int, []), .inr (.int, [oz, oz])]) rfl (k' := 2) rfl (n' := 2) rfl ?_
      refine H.dup s0_117 rfl ?_
      refine H.iconst s0_118 (v := (0 : Int32)) (by decide) ?_
      refine H.iloadN s0_119 rfl ?_
      refine H.iastore s0_120 (i := 1) (j := 0) rfl (by decide) (ltb rfl)  rfl ?_
      refine H.dup s0_121 rfl ?_
      refine H.iconst s0_122 (v := (1 : Int32)) (by decide) ?_
      refine H.iloadN s0_123 rfl ?_
      refine H.iastore s0_124 (i := 1) (j := 1) rfl (by decide) (ltb rfl)  rfl ?_
      refine H.astore s0_125 rfl (ls' := #[.val (.int p0), .val (.int p1), .val (.int p2), .val (.long p3), .second, .val (.long p4), .second, .val (.int p5), .val oz, .val oz, .val (.int i0), .val (.int i1), .val (.int i2), .val (rf n0 0), .val (rf n0 1), .unset, .unset, .unset, .unset, .unset, .unset, .unset, .unset, .unset, .unset, .unset, .unset, .unset]) rfl ?_
      refine H.iconst s0_127 (v := (2 : Int32)) (by decide) ?_
      refine H.newarray s0_128 (ty := .int) rfl (k_0 hw) (N := 2) (cap := 2) (by decide) rfl (by decide) (by decide) rfl (by decide) (by decide) (i := 2) rfl (A' := [.inr (.int, []), .inr (.int, [(.int p0), (.int p1)]), .inr (.int, [oz, oz])]) rfl (k' := 3) rfl (n' := 4) rfl ?_
      refine H.dup s0_130 rfl ?_
      refine H.iconst s0_131 (v := (0 : Int32)) (by decide) ?_
      refine H.iloadN s0_132 rfl ?_
      refine H.iastore s0_133 (i := 2) (j := 0) rfl (by decide) (ltb rfl)  rfl ?_
      refine H.dup s0_134 rfl ?_
      refine H.iconst s0_135 (v := (1 : Int32)) (by decide) ?_
      refine H.iloadN s0_136 rfl ?_
      refine H.iastore s0_137 (i := 2) (j := 1) rfl (by decide) (ltb rfl)  rfl ?_
      refine H.astore s0_138 rfl (ls' := #[.val (.int p0), .val (.int p1), .val (.int p2), .val (.long p3), .second, .val (.long p4), .second, .val (.int p5), .val oz, .val oz, .val (.int i0), .val (.int i1), .val (.int i2), .val (rf n0 0), .val (rf n0 1), .val (rf n0 2), .unset, .unset, .unset, .unset, .unset, .unset, .unset, .unset, .unset, .unset, .unset, .unset]) rfl ?_
      refine H.iconst s0_140 (v := (2 : Int32)) (by decide) ?_
      refine H.newarray s0_141 (ty := .long) rfl (k_1 hw) (N := 2) (cap := 2) (by decide) rfl (by decide) (by decide) rfl (by decide) (by decide) (i := 3) rfl (A' := [.inr (.int, []), .inr (.int, [(.int p0), (.int p1)]), .inr (.int, [(.int p1), (.int p2)]), .inr (.long, [ol, ol])]) rfl (k' := 4) rfl (n' := 6) rfl ?_
      refine H.dup s0_143 rfl ?_
      refine H.iconst s0_144 (v := (0 : Int32)) (by decide) ?_
      refine H.lloadN s0_145 rfl ?_
      refine H.lastore s0_146 (i := 3) (j := 0) rfl (by decide) (ltb rfl)  rfl ?_
      refine H.dup s0_147 rfl ?_
      refine H.iconst s0_148 (v := (1 : Int32)) (by decide) ?_
      refine H.lload s0_149 rfl ?_
      refine H.lastore s0_151 (i := 3) (j := 1) rfl (by decide) (ltb rfl)  rfl ?_
      refine H.astore s0_152 rfl (ls' := #[.val (.int p0), .val (.int p1), .val (.int p2), .val (.long p3), .second, .val (.long p4), .second, .val (.int p5), .val oz, .val oz, .val (.int i0), .val (.int i1), .val (.int i2), .val (rf n0 0), .val (rf n0 1), .val (rf n0 2), .val (rf n0 3), .unset, .unset, .unset, .unset, .unset, .unset, .unset, .unset, .unset, .unset, .unset]) rfl ?_
      refine H.iconst s0_154 (v := (2 : Int32)) (by decide) ?_
      refine H.newarray s0_155 (ty := .long) rfl (k_1 hw) (N := 2) (cap := 2) (by decide) rfl (by decide) (by decide) rfl (by decide) (by decide) (i := 4) rfl (A' := [.inr (.int, []), .inr (.int, [(.int p0), (.int p1)]), .inr (.int, [(.int p1), (.int p2)]), .inr (.long, [(.long p3), (.long p4)]), .inr (.long, [ol, ol])]) rfl (k' := 5) rfl (n' := 8) rfl ?_
      refine H.dup s0_157 rfl ?_
      refine H.iconst s0_158 (v := (0 : Int32)) (by decide) ?_
      refine H.lload s0_159 rfl ?_
      refine H.lastore s0_161 (i := 4) (j := 0) rfl (by decide) (ltb rfl)  rfl ?_
      refine H.dup s0_162 rfl ?_
      refine H.iconst s0_163 (v := (1 : Int32)) (by decide) ?_
      refine H.lloadN s0_164 rfl ?_
      refine H.lastore s0_165 (i := 4) (j := 1) rfl (by decide) (ltb rfl)  rfl ?_
      refine H.astore s0_166 rfl (ls' := #[.val (.int p0), .val (.int p1), .val (.int p2), .val (.long p3), .second, .val (.long p4), .second, .val (.int p5), .val oz, .val oz, .val (.int i0), .val (.int i1), .val (.int i2), .val (rf n0 0), .val (rf n0 1), .val (rf n0 2), .val (rf n0 3), .val (rf n0 4), .unset, .unset, .unset, .unset, .unset, .unset, .unset, .unset, .unset, .unset]) rfl ?_
      refine H.iconst s0_168 (v := (4 : Int32)) (by decide) ?_
      refine H.newarray s0_169 (ty := .int) rfl (k_0 hw) (N := 4) (cap := 4) (by decide) rfl (by decide) (by decide) rfl (by decide) (by decide) (i := 5) rfl (A' := [.inr (.int, []), .inr (.int, [(.int p0), (.int p1)]), .inr (.int, [(.int p1), (.int p2)]), .inr (.long, [(.long p3), (.long p4)]), .inr (.long, [(.long p4), (.long p3)]), .inr (.int, [oz, oz, oz, oz])]) rfl (k' := 6) rfl (n' := 12) rfl ?_
      refine H.astore s0_171 rfl (ls' := #[.val (.int p0), .val (.int p1), .val (.int p2), .val (.long p3), .second, .val (.long p4), .second, .val (.int p5), .val oz, .val oz, .val (.int i0), .val (.int i1), .val (.int i2), .val (rf n0 0), .val (rf n0 1), .val (rf n0 2), .val (rf n0 3), .val (rf n0 4), .val (rf n0 5), .unset, .unset, .unset, .unset, .unset, .unset, .unset, .unset, .unset]) rfl ?_
      refine H.iconst s0_173 (v := (4 : Int32)) (by decide) ?_
      refine H.newarray s0_174 (ty := .int) rfl (k_0 hw) (N := 4) (cap := 4) (by decide) rfl (by decide) (by decide) rfl (by decide) (by decide) (i := 6) rfl (A' := [.inr (.int, []), .inr (.int, [(.int p0), (.int p1)]), .inr (.int, [(.int p1), (.int p2)]), .inr (.long, [(.long p3), (.long p4)]), .inr (.long, [(.long p4), (.long p3)]), .inr (.int, [oz, oz, oz, oz]), .inr (.int, [oz, oz, oz, oz])]) rfl (k' := 7) rfl (n' := 16) rfl ?_
      refine H.astore s0_176 rfl (ls' := #[.val (.int p0), .val (.int p1), .val (.int p2), .val (.long p3), .second, .val (.long p4), .second, .val (.int p5), .val oz, .val oz, .val (.int i0), .val (.int i1), .val (.int i2), .val (rf n0 0), .val (rf n0 1), .val (rf n0 2), .val (rf n0 3), .val (rf n0 4), .val (rf n0 5), .val (rf n0 6), .unset, .unset, .unset, .unset, .unset, .unset, .unset, .unset]) rfl ?_
      refine H.iconst s0_178 (v := (4 : Int32)) (by decide) ?_
      refine H.newarray s0_179 (ty := .long) rfl (k_1 hw) (N := 4) (cap := 4) (by decide) rfl (by decide) (by decide) rfl (by decide) (by decide) (i := 7) rfl (A' := [.inr (.int, []), .inr (.int, [(.int p0), (.int p1)]), .inr (.int, [(.int p1), (.int p2)]), .inr (.long, [(.long p3), (.long p4)]), .inr (.long, [(.long p4), (.long p3)]), .inr (.int, [oz, oz, oz, oz]), .inr (.int, [oz, oz, oz, oz]), .inr (.long, [ol, ol, ol, ol])]) rfl (k' := 8) rfl (n' := 20) rfl ?_
      refine H.astore s0_181 rfl (ls' := #[.val (.int p0), .val (.int p1), .val (.int p2), .val (.long p3), .second, .val (.long p4), .second, .val (.int p5), .val oz, .val oz, .val (.int i0), .val (.int i1), .val (.int i2), .val (rf n0 0), .val (rf n0 1), .val (rf n0 2), .val (rf n0 3), .val (rf n0 4), .val (rf n0 5), .val (rf n0 6), .val (rf n0 7), .unset, .unset, .unset, .unset, .unset, .unset, .unset]) rfl ?_
      refine H.iconst s0_183 (v := (4 : Int32)) (by decide) ?_
      refine H.newarray s0_184 (ty := .long) rfl (k_1 hw) (N := 4) (cap := 4) (by decide) rfl (by decide) (by decide) rfl (by decide) (by decide) (i := 8) rfl (A' := [.inr (.int, []), .inr (.int, [(.int p0), (.int p1)]), .inr (.int, [(.int p1), (.int p2)]), .inr (.long, [(.long p3), (.long p4)]), .inr (.long, [(.long p4), (.long p3)]), .inr (.int, [oz, oz, oz, oz]), .inr (.int, [oz, oz, oz, oz]), .inr (.long, [ol, ol, ol, ol]), .inr (.long, [ol, ol, ol, ol])]) rfl (k' := 9) rfl (n' := 24) rfl ?_
      refine H.astore s0_186 rfl (ls' := #[.val (.int p0), .val (.int p1), .val (.int p2), .val (.long p3), .second, .val (.long p4), .second, .val (.int p5), .val oz, .val oz, .val (.int i0), .val (.int i1), .val (.int i2), .val (rf n0 0), .val (rf n0 1), .val (rf n0 2), .val (rf n0 3), .val (rf n0 4), .val (rf n0 5), .val (rf n0 6), .val (rf n0 7), .val (rf n0 8), .unset, .unset, .unset, .unset, .unset, .unset]) rfl ?_
      refine H.iload s0_188 rfl ?_
      refine H.iconst s0_190 (v := (1 : Int32)) (by decide) ?_
      refine H.icmpT s0_191 (show ¬ (0 : Int32) = (1 : Int32) by decide) ?_
      refine H.iload s0_223 rfl ?_
      refine H.iconst s0_225 (v := (1 : Int32)) (by decide) ?_
      refine H.icmpT s0_226 (show (0 : Int32) < (1 : Int32) by decide) ?_
      refine H.iload s0_252 rfl ?_
      refine H.iconst s0_254 (v := (2 : Int32)) (by decide) ?_
      refine H.icmpT s0_255 (show (0 : Int32) < (2 : Int32) by decide) ?_
      refine H.iload s0_283 rfl ?_
      refine H.iconst s0_285 (v := (3 : Int32)) (by decide) ?_
      refine H.icmpT s0_286 (show (0 : Int32) < (3 : Int32) by decide) ?_
      refine H.new s0_314 (k_2 hw) rfl (by decide) (by decide) (i := 9) rfl (A' := [.inr (.int, []), .inr (.int, [(.int p0), (.int p1)]), .inr (.int, [(.int p1), (.int p2)]), .inr (.long, [(.long p3), (.long p4)]), .inr (.long, [(.long p4), (.long p3)]), .inr (.int, [oz, oz, oz, oz]), .inr (.int, [oz, oz, oz, oz]), .inr (.long, [ol, ol, ol, ol]), .inr (.long, [ol, ol, ol, ol]), .inl (0, [.null, .null, .null, .null, oz])]) rfl (k' := 10) rfl (n' := 29) rfl ?_
      refine H.dup s0_317 rfl ?_
      refine H.iconst s0_318 (v := (2 : Int32)) (by decide) ?_
      refine H.callCD s0_319 (k_9 hw) (a_0 l hw n0 p0 p1 p2 p3 p4) (argsL := [(.int (2 : Int32))]) (rest := [(rf n0 9)]) rfl rfl rfl rfl (leb rfl) (leb rfl) (leb rfl) (leb rfl) (st' := [(rf n0 9)]) rfl (k' := 14) rfl (n' := 37) rfl ?_
      refine H.astore s0_322 rfl (ls' := #[.val (.int p0), .val (.int p1), .val (.int p2), .val (.long p3), .second, .val (.long p4), .second, .val (.int p5), .val oz, .val oz, .val (.int i0), .val (.int i1), .val (.int i2), .val (rf n0 0), .val (rf n0 1), .val (rf n0 2), .val (rf n0 3), .val (rf n0 4), .val (rf n0 5), .val (rf n0 6), .val (rf n0 7), .val (rf n0 8), .val (rf n0 9), .unset, .unset, .unset, .unset, .unset]) rfl ?_
      refine H.aload s0_324 rfl rfl ?_
      refine H.iloadN s0_326 rfl ?_
      refine H.iloadN s0_327 rfl ?_
      refine H.lloadN s0_328 rfl ?_
      refine H.lload s0_329 rfl ?_
      refine H.callVD s0_331 (k_16 hw) (a_1 l hw n0 p0 p1 p2 p3 p4) (i := 9) rfl (argsL := [(.int p0), (.int p1), (.long p3), (.long p4)]) (rest := []) rfl rfl rfl rfl (leb rfl) (leb rfl) (leb rfl) (leb rfl) (st' := []) rfl (k' := 14) rfl (n' := 37) rfl ?_
      refine H.aload s0_334 rfl rfl ?_
      refine H.iloadN s0_336 rfl ?_
      refine H.iloadN s0_337 rfl ?_
      refine H.lload s0_338 rfl ?_
      refine H.lloadN s0_340 rfl ?_
      refine H.callVD s0_341 (k_16 hw) (a_2 l hw n0 p0 p1 p2 p3 p4) (i := 9) rfl (argsL := [(.int p1), (.int p2), (.long p4), (.long p3)]) (rest := []) rfl rfl rfl rfl (leb rfl) (leb rfl) (leb rfl) (leb rfl) (st' := []) rfl (k' := 14) rfl (n' := 37) rfl ?_
      refine H.new s0_344 (k_2 hw) rfl (by decide) (by decide) (i := 14) rfl (A' := [.inr (.int, []), .inr (.int, [(.int p0), (.int p1)]), .inr (.int, [(.int p1), (.int p2)]), .inr (.long, [(.long p3), (.long p4)]), .inr (.long, [(.long p4), (.long p3)]), .inr (.int, [oz, oz, oz, oz]), .inr (.int, [oz, oz, oz, oz]), .inr (.long, [ol, ol, ol, ol]), .inr (.long, [ol, ol, ol, ol]), .inl (0, [(rf n0 10), (rf n0 11), (rf n0 12), (rf n0 13), (.int (2 : Int32))]), .inr (.int, [(.int p0), (.int p1)]), .inr (.int, [(.int p1), (.int p2)]), .inr (.long, [(.long p3), (.long p4)]), .inr (.long, [(.long p4), (.long p3)]), .inl (0, [.null, .null, .null, .null, oz])]) rfl (k' := 15) rfl (n' := 42) rfl ?_
      refine H.dup s0_347 rfl ?_
      refine H.iconst s0_348 (v := (4 : Int32)) (by decide) ?_
      refine H.callCD s0_349 (k_9 hw) (a_3 l hw n0 p0 p1 p2 p3 p4) (argsL := [(.int (4 : Int32))]) (rest := [(rf n0 14)]) rfl rfl rfl rfl (leb rfl) (leb rfl) (leb rfl) (leb rfl) (st' := [(rf n0 14)]) rfl (k' := 19) rfl (n' := 58) rfl ?_
      refine H.astore s0_352 rfl (ls' := #[.val (.int p0), .val (.int p1), .val (.int p2), .val (.long p3), .second, .val (.long p4), .second, .val (.int p5), .val oz, .val oz, .val (.int i0), .val (.int i1), .val (.int i2), .val (rf n0 0), .val (rf n0 1), .val (rf n0 2), .val (rf n0 3), .val (rf n0 4), .val (rf n0 5), .val (rf n0 6), .val (rf n0 7), .val (rf n0 8), .val (rf n0 9), .val (rf n0 14), .unset, .unset, .unset, .unset]) rfl ?_
      refine H.iload s0_354 rfl ?_
      refine H.iconst s0_356 (v := (1 : Int32)) (by decide) ?_
      refine H.icmpT s0_357 (show ¬ (0 : Int32) = (1 : Int32) by decide) ?_
      refine H.aload s0_378 rfl rfl ?_
      refine H.aload s0_380 rfl rfl ?_
      refine H.aload s0_382 rfl rfl ?_
      refine H.callVD s0_384 (k_18 hw) (a_4 l hw n0 p0 p1 p2 p3 p4) (i := 14) rfl (argsL := [(rf n0 9), (rf n0 0)]) (rest := []) rfl rfl rfl rfl (leb rfl) (leb rfl) (leb rfl) (leb rfl) (st' := []) rfl (k' := 19) rfl (n' := 58) rfl ?_
      refine H.aload s0_387 rfl rfl ?_
      refine H.callVD s0_389 (k_19 hw) (a_5 l hw n0 p0 p1 p2 p3 p4) (i := 14) rfl (argsL := []) (rest := []) rfl rfl rfl rfl (leb rfl) (leb rfl) (leb rfl) (leb rfl) (st' := [oz]) rfl (k' := 19) rfl (n' := 58) rfl ?_
      refine H.iload s0_392 rfl ?_
      refine H.iload s0_394 rfl ?_
      refine H.iadd s0_396 (w := (0 : Int32)) (by decide) ?_
      refine H.icmpT s0_397 (show (0 : Int32) = (0 : Int32) by decide) ?_
      refine H.aload s0_402 rfl rfl ?_
      refine H.callVD s0_404 (k_20 hw) (a_6 l hw n0 p0 p1 p2 p3 p4) (i := 14) rfl (argsL := []) (rest := []) rfl rfl rfl rfl (leb rfl) (leb rfl) (leb rfl) (leb rfl) (st' := [(rf n0 15)]) rfl (k' := 19) rfl (n' := 58) rfl ?_
      refine H.astore s0_407 rfl (ls' := #[.val (.int p0), .val (.int p1), .val (.int p2), .val (.long p3), .second, .val (.long p4), .second, .val (.int p5), .val oz, .val oz, .val (.int i0), .val (.int i1), .val (.int i2), .val (rf n0 0), .val (rf n0 1), .val (rf n0 2), .val (rf n0 3), .val (rf n0 4), .val (rf n0 5), .val (rf n0 6), .val (rf n0 7), .val (rf n0 8), .val (rf n0 9), .val (rf n0 14), .val (rf n0 15), .unset, .unset, .unset]) rfl ?_
      refine H.aload s0_409 rfl rfl ?_
      refine H.callVD s0_411 (k_21 hw) (a_7 l hw n0 p0 p1 p2 p3 p4) (i := 14) rfl (argsL := []) (rest := []) rfl rfl rfl rfl (leb rfl) (leb rfl) (leb rfl) (leb rfl) (st' := [(rf n0 16)]) rfl (k' := 19) rfl (n' := 58) rfl ?_
      refine H.astore s0_414 rfl (ls' := #[.val (.int p0), .val (.int p1), .val (.int p2), .val (.long p3), .second, .val (.long p4), .second, .val (.int p5), .val oz, .val oz, .val (.int i0), .val (.int i1), .val (.int i2), .val (rf n0 0), .val (rf n0 1), .val (rf n0 2), .val (rf n0 3), .val (rf n0 4), .val (rf n0 5), .val (rf n0 6), .val (rf n0 7), .val (rf n0 8), .val (rf n0 9), .val (rf n0 14), .val (rf n0 15), .val (rf n0 16), .unset, .unset]) rfl ?_
      refine H.aload s0_416 rfl rfl ?_
      refine H.callVD s0_418 (k_22 hw) (a_8 l hw n0 p0 p1 p2 p3 p4) (i := 14) rfl (argsL := []) (rest := []) rfl rfl rfl rfl (leb rfl) (leb rfl) (leb rfl) (leb rfl) (st' := [(rf n0 17)]) rfl (k' := 19) rfl (n' := 58) rfl ?_
      refine H.astore s0_421 rfl (ls' := #[.val (.int p0), .val (.int p1), .val (.int p2), .val (.long p3), .second, .val (.long p4), .second, .val (.int p5), .val oz, .val oz, .val (.int i0), .val (.int i1), .val (.int i2), .val (rf n0 0), .val (rf n0 1), .val (rf n0 2), .val (rf n0 3), .val (rf n0 4), .val (rf n0 5), .val (rf n0 6), .val (rf n0 7), .val (rf n0 8), .val (rf n0 9), .val (rf n0 14), .val (rf n0 15), .val (rf n0 16), .val (rf n0 17), .unset]) rfl ?_
      refine H.aload s0_423 rfl rfl ?_
      refine H.callVD s0_425 (k_23 hw) (a_9 l hw n0 p0 p1 p2 p3 p4) (i := 14) rfl (argsL := []) (rest := []) rfl rfl rfl rfl (leb rfl) (leb rfl) (leb rfl) (leb rfl) (st' := [(rf n0 18)]) rfl (k' := 19) rfl (n' := 58) rfl ?_
      refine H.astore s0_428 rfl (ls' := #[.val (.int p0), .val (.int p1), .val (.int p2), .val (.long p3), .second, .val (.long p4), .second, .val (.int p5), .val oz, .val oz, .val (.int i0), .val (.int i1), .val (.int i2), .val (rf n0 0), .val (rf n0 1), .val (rf n0 2), .val (rf n0 3), .val (rf n0 4), .val (rf n0 5), .val (rf n0 6), .val (rf n0 7), .val (rf n0 8), .val (rf n0 9), .val (rf n0 14), .val (rf n0 15), .val (rf n0 16), .val (rf n0 17), .val (rf n0 18)]) rfl ?_
      refine H.aload s0_430 rfl rfl ?_
      refine H.aload s0_432 rfl rfl ?_
      refine H.callSD s0_434 (k_25 hw) (a_10 l hw n0 p0 p1 p2 p3 p4) (argsL := [(rf n0 15), (rf n0 5)]) (rest := []) rfl rfl rfl rfl (leb rfl) (leb rfl) (leb rfl) (leb rfl) (st' := [(.int (1 : Int32))]) rfl (k' := 19) rfl (n' := 58) rfl ?_
      refine H.ifF s0_437 (show ¬ (1 : Int32) = (0 : Int32) by decide) ?_
      refine H.aload s0_440 rfl rfl ?_
      refine H.aload s0_442 rfl rfl ?_
      refine H.callSD s0_444 (k_25 hw) (a_11 l hw n0 p0 p1 p2 p3 p4) (argsL := [(rf n0 16), (rf n0 6)]) (rest := []) rfl rfl rfl rfl (leb rfl) (leb rfl) (leb rfl) (leb rfl) (st' := [(.int (1 : Int32))]) rfl (k' := 19) rfl (n' := 58) rfl ?_
      refine H.ifF s0_447 (show ¬ (1 : Int32) = (0 : Int32) by decide) ?_
      refine H.aload s0_450 rfl rfl ?_
      refine H.aload s0_452 rfl rfl ?_
      refine H.callSD s0_454 (k_26 hw) (a_12 l hw n0 p0 p1 p2 p3 p4) (argsL := [(rf n0 17), (rf n0 7)]) (rest := []) rfl rfl rfl rfl (leb rfl) (leb rfl) (leb rfl) (leb rfl) (st' := [(.int (1 : Int32))]) rfl (k' := 19) rfl (n' := 58) rfl ?_
      refine H.ifF s0_457 (show ¬ (1 : Int32) = (0 : Int32) by decide) ?_
      refine H.aload s0_460 rfl rfl ?_
      refine H.aload s0_462 rfl rfl ?_
      refine H.callSD s0_464 (k_26 hw) (a_13 l hw n0 p0 p1 p2 p3 p4) (argsL := [(rf n0 18), (rf n0 8)]) (rest := []) rfl rfl rfl rfl (leb rfl) (leb rfl) (leb rfl) (leb rfl) (st' := [(.int (1 : Int32))]) rfl (k' := 19) rfl (n' := 58) rfl ?_
      refine H.ifF s0_467 (show ¬ (1 : Int32) = (0 : Int32) by decide) ?_
      refine H.iconst s0_470 (v := (1 : Int32)) (by decide) ?_
      refine H.goto s0_471 ?_
      exact H.ireturn s0_475 rfl (by simp) rfl rfl (by decide) (by decide)
    · refine H.iand s0_11 (w := (1 : Int32)) hz11 ?_
      refine H.istore s0_12 (ls' := #[.val (.int p0), .val (.int p1), .val (.int p2), .val (.long p3), .second, .val (.long p4), .second, .val (.int p5), .val oz, .val (.int (1 : Int32)), .unset, .unset, .unset, .unset, .unset, .unset, .unset, .unset, .unset, .unset, .unset, .unset, .unset, .unset, .unset, .unset, .unset, .unset]) rfl ?_
      refine H.iload s0_14 rfl ?_
      refine H.iconst s0_16 (v := (3 : Int32)) (by decide) ?_
      refine H.iushr s0_17 rfl ?_
      refine H.iconst s0_18 (v := (1 : Int32)) (by decide) ?_
      refine H.iand s0_19 (w := i0) hi0 ?_
      refine H.istore s0_20 (ls' := #[.val (.int p0), .val (.int p1), .val (.int p2), .val (.long p3), .second, .val (.long p4), .second, .val (.int p5), .val oz, .val (.int (1 : Int32)), .val (.int i0), .unset, .unset, .unset, .unset, .unset, .unset, .unset, .unset, .unset, .unset, .unset, .unset, .unset, .unset, .unset, .unset, .unset]) rfl ?_
      refine H.iload s0_22 rfl ?_
      refine H.iconst s0_24 (v := (4 : Int32)) (by decide) ?_
      refine H.iushr s0_25 rfl ?_
      refine H.iconst s0_26 (v := (1 : Int32)) (by decide) ?_
      refine H.iand s0_27 (w := i1) hi1 ?_
      refine H.istore s0_28 (ls' := #[.val (.int p0), .val (.int p1), .val (.int p2), .val (.long p3), .second, .val (.long p4), .second, .val (.int p5), .val oz, .val (.int (1 : Int32)), .val (.int i0), .val (.int i1), .unset, .unset, .unset, .unset, .unset, .unset, .unset, .unset, .unset, .unset, .unset, .unset, .unset, .unset, .unset, .unset]) rfl ?_
      refine H.iload s0_30 rfl ?_
      refine H.iconst s0_32 (v := (5 : Int32)) (by decide) ?_
      refine H.iushr s0_33 rfl ?_
      refine H.iconst s0_34 (v := (1 : Int32)) (by decide) ?_
      refine H.iand s0_35 (w := i2) hi2 ?_
      refine H.istore s0_36 (ls' := #[.val (.int p0), .val (.int p1), .val (.int p2), .val (.long p3), .second, .val (.long p4), .second, .val (.int p5), .val oz, .val (.int (1 : Int32)), .val (.int i0), .val (.int i1), .val (.int i2), .unset, .unset, .unset, .unset, .unset, .unset, .unset, .unset, .unset, .unset, .unset, .unset, .unset, .unset, .unset]) rfl ?_
      refine H.iload s0_38 rfl ?_
      refine H.ifT s0_40 (show ¬ (1 : Int32) = (0 : Int32) by decide) ?_
      refine H.iload s0_51 rfl ?_
      refine H.iconst s0_53 (v := (1 : Int32)) (by decide) ?_
      refine H.icmpF s0_54 (show (1 : Int32) = (1 : Int32) by decide) ?_
      refine H.iconst s0_57 (v := (1 : Int32)) (by decide) ?_
      refine H.newarray s0_58 (ty := .int) rfl (k_0 hw) (N := 1) (cap := 1) (by decide) rfl (by decide) (by decide) rfl (by decide) (by decide) (i := 0) rfl (A' := [.inr (.int, [oz])]) rfl (k' := 1) rfl (n' := 1) rfl ?_
      refine H.dup s0_60 rfl ?_
      refine H.iconst s0_61 (v := (0 : Int32)) (by decide) ?_
      refine H.iload s0_62 rfl ?_
      refine H.iastore s0_64 (i := 0) (j := 0) rfl (by decide) (ltb rfl)  rfl ?_
      refine H.astore s0_65 rfl (ls' := #[.val (.int p0), .val (.int p1), .val (.int p2), .val (.long p3), .second, .val (.long p4), .second, .val (.int p5), .val oz, .val (.int (1 : Int32)), .val (.int i0), .val (.int i1), .val (.int i2), .val (rf n0 0), .unset, .unset, .unset, .unset, .unset, .unset, .unset, .unset, .unset, .unset, .unset, .unset, .unset, .unset]) rfl ?_
      refine H.goto s0_67 ?_
      refine H.iconst s0_114 (v := (2 : Int32)) (by decide) ?_
      refine H.newarray s0_115 (ty := .int) rfl (k_0 hw) (N := 2) (cap := 2) (by decide) rfl (by decide) (by decide) rfl (by decide) (by decide) (i := 1) rfl (A' := [.inr (.int, [(.int i0)]), .inr (.int, [oz, oz])]) rfl (k' := 2) rfl (n' := 3) rfl ?_
      refine H.dup s0_117 rfl ?_
      refine H.iconst s0_118 (v := (0 : Int32)) (by decide) ?_
      refine H.iloadN s0_119 rfl ?_
      refine H.iastore s0_120 (i := 1) (j := 0) rfl (by decide) (ltb rfl)  rfl ?_
      refine H.dup s0_121 rfl ?_
      refine H.iconst s0_122 (v := (1 : Int32)) (by decide) ?_
      refine H.iloadN s0_123 rfl ?_
      refine H.iastore s0_124 (i := 1) (j := 1) rfl (by decide) (ltb rfl)  rfl ?_
      refine H.astore s0_125 rfl (ls' := #[.val (.int p0), .val (.int p1), .val (.int p2), .val (.long p3), .second, .val (.long p4), .second, .val (.int p5), .val oz, .val (.int (1 : Int32)), .val (.int i0), .val (.int i1), .val (.int i2), .val (rf n0 0), .val (rf n0 1), .unset, .unset, .unset, .unset, .unset, .unset, .unset, .unset, .unset, .unset, .unset, .unset, .unset]) rfl ?_
      refine H.iconst s0_127 (v := (2 : Int32)) (by decide) ?_
      refine H.newarray s0_128 (ty := .int) rfl (k_0 hw) (N := 2) (cap := 2) (by decide) rfl (by decide) (by decide) rfl (by decide) (by decide) (i := 2) rfl (A' := [.inr (.int, [(.int i0)]), .inr (.int, [(.int p0), (.int p1)]), .inr (.int, [oz, oz])]) rfl (k' := 3) rfl (n' := 5) rfl ?_
      refine H.dup s0_130 rfl ?_
      refine H.iconst s0_131 (v := (0 : Int32)) (by decide) ?_
      refine H.iloadN s0_132 rfl ?_
      refine H.iastore s0_133 (i := 2) (j := 0) rfl (by decide) (ltb rfl)  rfl ?_
      refine H.dup s0_134 rfl ?_
      refine H.iconst s0_135 (v := (1 : Int32)) (by decide) ?_
      refine H.iloadN s0_136 rfl ?_
      refine H.iastore s0_137 (i := 2) (j := 1) rfl (by decide) (ltb rfl)  rfl ?_
      refine H.astore s0_138 rfl (ls' := #[.val (.int p0), .val (.int p1), .val (.int p2), .val (.long p3), .second, .val (.long p4), .second, .val (.int p5), .val oz, .val (.int (1 : Int32)), .val (.int i0), .val (.int i1), .val (.int i2), .val (rf n0 0), .val (rf n0 1), .val (rf n0 2), .unset, .unset, .unset, .unset, .unset, .unset, .unset, .unset, .unset, .unset, .unset, .unset]) rfl ?_
      refine H.iconst s0_140 (v := (2 : Int32)) (by decide) ?_
      refine H.newarray s0_141 (ty := .long) rfl (k_1 hw) (N := 2) (cap := 2) (by decide) rfl (by decide) (by decide) rfl (by decide) (by decide) (i := 3) rfl (A' := [.inr (.int, [(.int i0)]), .inr (.int, [(.int p0), (.int p1)]), .inr (.int, [(.int p1), (.int p2)]), .inr (.long, [ol, ol])]) rfl (k' := 4) rfl (n' := 7) rfl ?_
      refine H.dup s0_143 rfl ?_
      refine H.iconst s0_144 (v := (0 : Int32)) (by decide) ?_
      refine H.lloadN s0_145 rfl ?_
      refine H.lastore s0_146 (i := 3) (j := 0) rfl (by decide) (ltb rfl)  rfl ?_
      refine H.dup s0_147 rfl ?_
      refine H.iconst s0_148 (v := (1 : Int32)) (by decide) ?_
      refine H.lload s0_149 rfl ?_
      refine H.lastore s0_151 (i := 3) (j := 1) rfl (by decide) (ltb rfl)  rfl ?_
      refine H.astore s0_152 rfl (ls' := #[.val (.int p0), .val (.int p1), .val (.int p2), .val (.long p3), .second, .val (.long p4), .second, .val (.int p5), .val oz, .val (.int (1 : Int32)), .val (.int i0), .val (.int i1), .val (.int i2), .val (rf n0 0), .val (rf n0 1), .val (rf n0 2), .val (rf n0 3), .unset, .unset, .unset, .unset, .unset, .unset, .unset, .unset, .unset, .unset, .unset]) rfl ?_
      refine H.iconst s0_154 (v := (2 : Int32)) (by decide) ?_
      refine H.newarray s0_155 (ty := .long) rfl (k_1 hw) (N := 2) (cap := 2) (by decide) rfl (by decide) (by decide) rfl (by decide) (by decide) (i := 4) rfl (A' := [.inr (.int, [(.int i0)]), .inr (.int, [(.int p0), (.int p1)]), .inr (.int, [(.int p1), (.int p2)]), .inr (.long, [(.long p3), (.long p4)]), .inr (.long, [ol, ol])]) rfl (k' := 5) rfl (n' := 9) rfl ?_
      refine H.dup s0_157 rfl ?_
      refine H.iconst s0_158 (v := (0 : Int32)) (by decide) ?_
      refine H.lload s0_159 rfl ?_
      refine H.lastore s0_161 (i := 4) (j := 0) rfl (by decide) (ltb rfl)  rfl ?_
      refine H.dup s0_162 rfl ?_
      refine H.iconst s0_163 (v := (1 : Int32)) (by decide) ?_
      refine H.lloadN s0_164 rfl ?_
      refine H.lastore s0_165 (i := 4) (j := 1) rfl (by decide) (ltb rfl)  rfl ?_
      refine H.astore s0_166 rfl (ls' := #[.val (.int p0), .val (.int p1), .val (.int p2), .val (.long p3), .second, .val (.long p4), .second, .val (.int p5), .val oz, .val (.int (1 : Int32)), .val (.int i0), .val (.int i1), .val (.int i2), .val (rf n0 0), .val (rf n0 1), .val (rf n0 2), .val (rf n0 3), .val (rf n0 4), .unset, .unset, .unset, .unset, .unset, .unset, .unset, .unset, .unset, .unset]) rfl ?_
      refine H.iconst s0_168 (v := (4 : Int32)) (by decide) ?_
      refine H.newarray s0_169 (ty := .int) rfl (k_0 hw) (N := 4) (cap := 4) (by decide) rfl (by decide) (by decide) rfl (by decide) (by decide) (i := 5) rfl (A' := [.inr (.int, [(.int i0)]), .inr (.int, [(.int p0), (.int p1)]), .inr (.int, [(.int p1), (.int p2)]), .inr (.long, [(.long p3), (.long p4)]), .inr (.long, [(.long p4), (.long p3)]), .inr (.int, [oz, oz, oz, oz])]) rfl (k' := 6) rfl (n' := 13) rfl ?_
      refine H.astore s0_171 rfl (ls' := #[.val (.int p0), .val (.int p1), .val (.int p2), .val (.long p3), .second, .val (.long p4), .second, .val (.int p5), .val oz, .val (.int (1 : Int32)), .val (.int i0), .val (.int i1), .val (.int i2), .val (rf n0 0), .val (rf n0 1), .val (rf n0 2), .val (rf n0 3), .val (rf n0 4), .val (rf n0 5), .unset, .unset, .unset, .unset, .unset, .unset, .unset, .unset, .unset]) rfl ?_
      refine H.iconst s0_173 (v := (4 : Int32)) (by decide) ?_
      refine H.newarray s0_174 (ty := .int) rfl (k_0 hw) (N := 4) (cap := 4) (by decide) rfl (by decide) (by decide) rfl (by decide) (by decide) (i := 6) rfl (A' := [.inr (.int, [(.int i0)]), .inr (.int, [(.int p0), (.int p1)]), .inr (.int, [(.int p1), (.int p2)]), .inr (.long, [(.long p3), (.long p4)]), .inr (.long, [(.long p4), (.long p3)]), .inr (.int, [oz, oz, oz, oz]), .inr (.int, [oz, oz, oz, oz])]) rfl (k' := 7) rfl (n' := 17) rfl ?_
      refine H.astore s0_176 rfl (ls' := #[.val (.int p0), .val (.int p1), .val (.int p2), .val (.long p3), .second, .val (.long p4), .second, .val (.int p5), .val oz, .val (.int (1 : Int32)), .val (.int i0), .val (.int i1), .val (.int i2), .val (rf n0 0), .val (rf n0 1), .val (rf n0 2), .val (rf n0 3), .val (rf n0 4), .val (rf n0 5), .val (rf n0 6), .unset, .unset, .unset, .unset, .unset, .unset, .unset, .unset]) rfl ?_
      refine H.iconst s0_178 (v := (4 : Int32)) (by decide) ?_
      refine H.newarray s0_179 (ty := .long) rfl (k_1 hw) (N := 4) (cap := 4) (by decide) rfl (by decide) (by decide) rfl (by decide) (by decide) (i := 7) rfl (A' := [.inr (.int, [(.int i0)]), .inr (.int, [(.int p0), (.int p1)]), .inr (.int, [(.int p1), (.int p2)]), .inr (.long, [(.long p3), (.long p4)]), .inr (.long, [(.long p4), (.long p3)]), .inr (.int, [oz, oz, oz, oz]), .inr (.int, [oz, oz, oz, oz]), .inr (.long, [ol, ol, ol, ol])]) rfl (k' := 8) rfl (n' := 21) rfl ?_
      refine H.astore s0_181 rfl (ls' := #[.val (.int p0), .val (.int p1), .val (.int p2), .val (.long p3), .second, .val (.long p4), .second, .val (.int p5), .val oz, .val (.int (1 : Int32)), .val (.int i0), .val (.int i1), .val (.int i2), .val (rf n0 0), .val (rf n0 1), .val (rf n0 2), .val (rf n0 3), .val (rf n0 4), .val (rf n0 5), .val (rf n0 6), .val (rf n0 7), .unset, .unset, .unset, .unset, .unset, .unset, .unset]) rfl ?_
      refine H.iconst s0_183 (v := (4 : Int32)) (by decide) ?_
      refine H.newarray s0_184 (ty := .long) rfl (k_1 hw) (N := 4) (cap := 4) (by decide) rfl (by decide) (by decide) rfl (by decide) (by decide) (i := 8) rfl (A' := [.inr (.int, [(.int i0)]), .inr (.int, [(.int p0), (.int p1)]), .inr (.int, [(.int p1), (.int p2)]), .inr (.long, [(.long p3), (.long p4)]), .inr (.long, [(.long p4), (.long p3)]), .inr (.int, [oz, oz, oz, oz]), .inr (.int, [oz, oz, oz, oz]), .inr (.long, [ol, ol, ol, ol]), .inr (.long, [ol, ol, ol, ol])]) rfl (k' := 9) rfl (n' := 25) rfl ?_
      refine H.astore s0_186 rfl (ls' := #[.val (.int p0), .val (.int p1), .val (.int p2), .val (.long p3), .second, .val (.long p4), .second, .val (.int p5), .val oz, .val (.int (1 : Int32)), .val (.int i0), .val (.int i1), .val (.int i2), .val (rf n0 0), .val (rf n0 1), .val (rf n0 2), .val (rf n0 3), .val (rf n0 4), .val (rf n0 5), .val (rf n0 6), .val (rf n0 7), .val (rf n0 8), .unset, .unset, .unset, .unset, .unset, .unset]) rfl ?_
      refine H.iload s0_188 rfl ?_
      refine H.iconst s0_190 (v := (1 : Int32)) (by decide) ?_
      refine H.icmpT s0_191 (show ¬ (0 : Int32) = (1 : Int32) by decide) ?_
      refine H.iload s0_223 rfl ?_
      refine H.iconst s0_225 (v := (1 : Int32)) (by decide) ?_
      refine H.icmpF s0_226 (show ¬ (1 : Int32) < (1 : Int32) by decide) ?_
      refine H.aload s0_229 rfl rfl ?_
      refine H.aload s0_231 rfl rfl ?_
      refine H.aload s0_233 rfl rfl ?_
      refine H.aload s0_235 rfl rfl ?_
      refine H.iload s0_237 rfl ?_
      refine H.iload s0_239 rfl ?_
      refine H.aload s0_241 rfl rfl ?_
      refine H.aload s0_243 rfl rfl ?_
      refine H.aload s0_245 rfl rfl ?_
      refine H.aload s0_247 rfl rfl ?_
      refine H.callSD s0_249 (k_27 hw) (a_14 l hw n0 p0 p1 p2 p3 p4 i0 hI0 lI0) (argsL := [(rf n0 5), (rf n0 6), (rf n0 7), (rf n0 8), oz, (.int i0), (rf n0 1), (rf n0 2), (rf n0 3), (rf n0 4)]) (rest := []) rfl rfl rfl rfl (leb rfl) (leb rfl) (leb rfl) (leb rfl) (st' := []) rfl (k' := 9) rfl (n' := 25) rfl ?_
      refine H.iload s0_252 rfl ?_
      refine H.iconst s0_254 (v := (2 : Int32)) (by decide) ?_
      refine H.icmpT s0_255 (show (1 : Int32) < (2 : Int32) by decide) ?_
      refine H.iload s0_283 rfl ?_
      refine H.iconst s0_285 (v := (3 : Int32)) (by decide) ?_
      refine H.icmpT s0_286 (show (1 : Int32) < (3 : Int32) by decide) ?_
      refine H.new s0_314 (k_2 hw) rfl (by decide) (by decide) (i := 9) rfl (A' := [.inr (.int, [(.int i0)]), .inr (.int, [(.int p0), (.int p1)]), .inr (.int, [(.int p1), (.int p2)]), .inr (.long, [(.long p3), (.long p4)]), .inr (.long, [(.long p4), (.long p3)]), .inr (.int, [(.int (own_selI I0 p0 p1)), oz, oz, oz]), .inr (.int, [(.int (own_selI I0 p1 p2)), oz, oz, oz]), .inr (.long, [(.long (own_selJ I0 p3 p4)), ol, ol, ol]), .inr (.long, [(.long (own_selJ I0 p4 p3)), ol, ol, ol]), .inl (0, [.null, .null, .null, .null, oz])]) rfl (k' := 10) rfl (n' := 30) rfl ?_
      refine H.dup s0_317 rfl ?_
      refine H.iconst s0_318 (v := (2 : Int32)) (by decide) ?_
      refine H.callCD s0_319 (k_9 hw) (a_15 l hw n0 p0 p1 p2 p3 p4 i0 I0) (argsL := [(.int (2 : Int32))]) (rest := [(rf n0 9)]) rfl rfl rfl rfl (leb rfl) (leb rfl) (leb rfl) (leb rfl) (st' := [(rf n0 9)]) rfl (k' := 14) rfl (n' := 38) rfl ?_
      refine H.astore s0_322 rfl (ls' := #[.val (.int p0), .val (.int p1), .val (.int p2), .val (.long p3), .second, .val (.long p4), .second, .val (.int p5), .val oz, .val (.int (1 : Int32)), .val (.int i0), .val (.int i1), .val (.int i2), .val (rf n0 0), .val (rf n0 1), .val (rf n0 2), .val (rf n0 3), .val (rf n0 4), .val (rf n0 5), .val (rf n0 6), .val (rf n0 7), .val (rf n0 8), .val (rf n0 9), .unset, .unset, .unset, .unset, .unset]) rfl ?_
      refine H.aload s0_324 rfl rfl ?_
      refine H.iloadN s0_326 rfl ?_
      refine H.iloadN s0_327 rfl ?_
      refine H.lloadN s0_328 rfl ?_
      refine H.lload s0_329 rfl ?_
      refine H.callVD s0_331 (k_16 hw) (a_16 l hw n0 p0 p1 p2 p3 p4 i0 I0) (i := 9) rfl (argsL := [(.int p0), (.int p1), (.long p3), (.long p4)]) (rest := []) rfl rfl rfl rfl (leb rfl) (leb rfl) (leb rfl) (leb rfl) (st' := []) rfl (k' := 14) rfl (n' := 38) rfl ?_
      refine H.aload s0_334 rfl rfl ?_
      refine H.iloadN s0_336 rfl ?_
      refine H.iloadN s0_337 rfl ?_
      refine H.lload s0_338 rfl ?_
      refine H.lloadN s0_340 rfl ?_
      refine H.callVD s0_341 (k_16 hw) (a_17 l hw n0 p0 p1 p2 p3 p4 i0 I0) (i := 9) rfl (argsL := [(.int p1), (.int p2), (.long p4), (.long p3)]) (rest := []) rfl rfl rfl rfl (leb rfl) (leb rfl) (leb rfl) (leb rfl) (st' := []) rfl (k' := 14) rfl (n' := 38) rfl ?_
      refine H.new s0_344 (k_2 hw) rfl (by decide) (by decide) (i := 14) rfl (A' := [.inr (.int, [(.int i0)]), .inr (.int, [(.int p0), (.int p1)]), .inr (.int, [(.int p1), (.int p2)]), .inr (.long, [(.long p3), (.long p4)]), .inr (.long, [(.long p4), (.long p3)]), .inr (.int, [(.int (own_selI I0 p0 p1)), oz, oz, oz]), .inr (.int, [(.int (own_selI I0 p1 p2)), oz, oz, oz]), .inr (.long, [(.long (own_selJ I0 p3 p4)), ol, ol, ol]), .inr (.long, [(.long (own_selJ I0 p4 p3)), ol, ol, ol]), .inl (0, [(rf n0 10), (rf n0 11), (rf n0 12), (rf n0 13), (.int (2 : Int32))]), .inr (.int, [(.int p0), (.int p1)]), .inr (.int, [(.int p1), (.int p2)]), .inr (.long, [(.long p3), (.long p4)]), .inr (.long, [(.long p4), (.long p3)]), .inl (0, [.null, .null, .null, .null, oz])]) rfl (k' := 15) rfl (n' := 43) rfl ?_
      refine H.dup s0_347 rfl ?_
      refine H.iconst s0_348 (v := (4 : Int32)) (by decide) ?_
      refine H.callCD s0_349 (k_9 hw) (a_18 l hw n0 p0 p1 p2 p3 p4 i0 I0) (argsL := [(.int (4 : Int32))]) (rest := [(rf n0 14)]) rfl rfl rfl rfl (leb rfl) (leb rfl) (leb rfl) (leb rfl) (st' := [(rf n0 14)]) rfl (k' := 19) rfl (n' := 59) rfl ?_
      refine H.astore s0_352 rfl (ls' := #[.val (.int p0), .val (.int p1), .val (.int p2), .val (.long p3), .second, .val (.long p4), .second, .val (.int p5), .val oz, .val (.int (1 : Int32)), .val (.int i0), .val (.int i1), .val (.int i2), .val (rf n0 0), .val (rf n0 1), .val (rf n0 2), .val (rf n0 3), .val (rf n0 4), .val (rf n0 5), .val (rf n0 6), .val (rf n0 7), .val (rf n0 8), .val (rf n0 9), .val (rf n0 14), .unset, .unset, .unset, .unset]) rfl ?_
      refine H.iload s0_354 rfl ?_
      refine H.iconst s0_356 (v := (1 : Int32)) (by decide) ?_
      refine H.icmpT s0_357 (show ¬ (0 : Int32) = (1 : Int32) by decide) ?_
      refine H.aload s0_378 rfl rfl ?_
      refine H.aload s0_380 rfl rfl ?_
      refine H.aload s0_382 rfl rfl ?_
      refine H.callVD s0_384 (k_18 hw) (a_19 l hw n0 p0 p1 p2 p3 p4 i0 I0 hI0 lI0) (i := 14) rfl (argsL := [(rf n0 9), (rf n0 0)]) (rest := []) rfl rfl rfl rfl (leb rfl) (leb rfl) (leb rfl) (leb rfl) (st' := []) rfl (k' := 19) rfl (n' := 59) rfl ?_
      refine H.aload s0_387 rfl rfl ?_
      refine H.callVD s0_389 (k_19 hw) (a_20 l hw n0 p0 p1 p2 p3 p4 i0 I0) (i := 14) rfl (argsL := []) (rest := []) rfl rfl rfl rfl (leb rfl) (leb rfl) (leb rfl) (leb rfl) (st' := [(.int (1 : Int32))]) rfl (k' := 19) rfl (n' := 59) rfl ?_
      refine H.iload s0_392 rfl ?_
      refine H.iload s0_394 rfl ?_
      refine H.iadd s0_396 (w := (1 : Int32)) (by decide) ?_
      refine H.icmpT s0_397 (show (1 : Int32) = (1 : Int32) by decide) ?_
      refine H.aload s0_402 rfl rfl ?_
      refine H.callVD s0_404 (k_20 hw) (a_21 l hw n0 p0 p1 p2 p3 p4 i0 I0) (i := 14) rfl (argsL := []) (rest := []) rfl rfl rfl rfl (leb rfl) (leb rfl) (leb rfl) (leb rfl) (st' := [(rf n0 15)]) rfl (k' := 19) rfl (n' := 59) rfl ?_
      refine H.astore s0_407 rfl (ls' := #[.val (.int p0), .val (.int p1), .val (.int p2), .val (.long p3), .second, .val (.long p4), .second, .val (.int p5), .val oz, .val (.int (1 : Int32)), .val (.int i0), .val (.int i1), .val (.int i2), .val (rf n0 0), .val (rf n0 1), .val (rf n0 2), .val (rf n0 3), .val (rf n0 4), .val (rf n0 5), .val (rf n0 6), .val (rf n0 7), .val (rf n0 8), .val (rf n0 9), .val (rf n0 14), .val (rf n0 15), .unset, .unset, .unset]) rfl ?_
      refine H.aload s0_409 rfl rfl ?_
      refine H.callVD s0_411 (k_21 hw) (a_22 l hw n0 p0 p1 p2 p3 p4 i0 I0) (i := 14) rfl (argsL := []) (rest := []) rfl rfl rfl rfl (leb rfl) (leb rfl) (leb rfl) (leb rfl) (st' := [(rf n0 16)]) rfl (k' := 19) rfl (n' := 59) rfl ?_
      refine H.astore s0_414 rfl (ls' := #[.val (.int p0), .val (.int p1), .val (.int p2), .val (.long p3), .second, .val (.long p4), .second, .val (.int p5), .val oz, .val (.int (1 : Int32)), .val (.int i0), .val (.int i1), .val (.int i2), .val (rf n0 0), .val (rf n0 1), .val (rf n0 2), .val (rf n0 3), .val (rf n0 4), .val (rf n0 5), .val (rf n0 6), .val (rf n0 7), .val (rf n0 8), .val (rf n0 9), .val (rf n0 14), .val (rf n0 15), .val (rf n0 16), .unset, .unset]) rfl ?_
      refine H.aload s0_416 rfl rfl ?_
      refine H.callVD s0_418 (k_22 hw) (a_23 l hw n0 p0 p1 p2 p3 p4 i0 I0) (i := 14) rfl (argsL := []) (rest := []) rfl rfl rfl rfl (leb rfl) (leb rfl) (leb rfl) (leb rfl) (st' := [(rf n0 17)]) rfl (k' := 19) rfl (n' := 59) rfl ?_
      refine H.astore s0_421 rfl (ls' := #[.val (.int p0), .val (.int p1), .val (.int p2), .val (.long p3), .second, .val (.long p4), .second, .val (.int p5), .val oz, .val (.int (1 : Int32)), .val (.int i0), .val (.int i1), .val (.int i2), .val (rf n0 0), .val (rf n0 1), .val (rf n0 2), .val (rf n0 3), .val (rf n0 4), .val (rf n0 5), .val (rf n0 6), .val (rf n0 7), .val (rf n0 8), .val (rf n0 9), .val (rf n0 14), .val (rf n0 15), .val (rf n0 16), .val (rf n0 17), .unset]) rfl ?_
      refine H.aload s0_423 rfl rfl ?_
      refine H.callVD s0_425 (k_23 hw) (a_24 l hw n0 p0 p1 p2 p3 p4 i0 I0) (i := 14) rfl (argsL := []) (rest := []) rfl rfl rfl rfl (leb rfl) (leb rfl) (leb rfl) (leb rfl) (st' := [(rf n0 18)]) rfl (k' := 19) rfl (n' := 59) rfl ?_
      refine H.astore s0_428 rfl (ls' := #[.val (.int p0), .val (.int p1), .val (.int p2), .val (.long p3), .second, .val (.long p4), .second, .val (.int p5), .val oz, .val (.int (1 : Int32)), .val (.int i0), .val (.int i1), .val (.int i2), .val (rf n0 0), .val (rf n0 1), .val (rf n0 2), .val (rf n0 3), .val (rf n0 4), .val (rf n0 5), .val (rf n0 6), .val (rf n0 7), .val (rf n0 8), .val (rf n0 9), .val (rf n0 14), .val (rf n0 15), .val (rf n0 16), .val (rf n0 17), .val (rf n0 18)]) rfl ?_
      refine H.aload s0_430 rfl rfl ?_
      refine H.aload s0_432 rfl rfl ?_
      refine H.callSD s0_434 (k_25 hw) (a_25 l hw n0 p0 p1 p2 p3 p4 i0 I0) (argsL := [(rf n0 15), (rf n0 5)]) (rest := []) rfl rfl rfl rfl (leb rfl) (leb rfl) (leb rfl) (leb rfl) (st' := [(.int (1 : Int32))]) rfl (k' := 19) rfl (n' := 59) rfl ?_
      refine H.ifF s0_437 (show ¬ (1 : Int32) = (0 : Int32) by decide) ?_
      refine H.aload s0_440 rfl rfl ?_
      refine H.aload s0_442 rfl rfl ?_
      refine H.callSD s0_444 (k_25 hw) (a_26 l hw n0 p0 p1 p2 p3 p4 i0 I0) (argsL := [(rf n0 16), (rf n0 6)]) (rest := []) rfl rfl rfl rfl (leb rfl) (leb rfl) (leb rfl) (leb rfl) (st' := [(.int (1 : Int32))]) rfl (k' := 19) rfl (n' := 59) rfl ?_
      refine H.ifF s0_447 (show ¬ (1 : Int32) = (0 : Int32) by decide) ?_
      refine H.aload s0_450 rfl rfl ?_
      refine H.aload s0_452 rfl rfl ?_
      refine H.callSD s0_454 (k_26 hw) (a_27 l hw n0 p0 p1 p2 p3 p4 i0 I0) (argsL := [(rf n0 17), (rf n0 7)]) (rest := []) rfl rfl rfl rfl (leb rfl) (leb rfl) (leb rfl) (leb rfl) (st' := [(.int (1 : Int32))]) rfl (k' := 19) rfl (n' := 59) rfl ?_
      refine H.ifF s0_457 (show ¬ (1 : Int32) = (0 : Int32) by decide) ?_
      refine H.aload s0_460 rfl rfl ?_
      refine H.aload s0_462 rfl rfl ?_
      refine H.callSD s0_464 (k_26 hw) (a_28 l hw n0 p0 p1 p2 p3 p4 i0 I0) (argsL := [(rf n0 18), (rf n0 8)]) (rest := []) rfl rfl rfl rfl (leb rfl) (leb rfl) (leb rfl) (leb rfl) (st' := [(.int (1 : Int32))]) rfl (k' := 19) rfl (n' := 59) rfl ?_
      refine H.ifF s0_467 (show ¬ (1 : Int32) = (0 : Int32) by decide) ?_
      refine H.iconst s0_470 (v := (1 : Int32)) (by decide) ?_
      refine H.goto s0_471 ?_
      exact H.ireturn s0_475 rfl (by simp) rfl rfl (by decide) (by decide)
    · refine H.iand s0_11 (w := (2 : Int32)) hz11 ?_
      refine H.istore s0_12 (ls' := #[.val (.int p0), .val (.int p1), .val (.int p2), .val (.long p3), .second, .val (.long p4), .second, .val (.int p5), .val oz, .val (.int (2 : Int32)), .unset, .unset, .unset, .unset, .unset, .unset, .unset, .unset, .unset, .unset, .unset, .unset, .unset, .unset, .unset, .unset, .unset, .unset]) rfl ?_
      refine H.iload s0_14 rfl ?_
      refine H.iconst s0_16 (v := (3 : Int32)) (by decide) ?_
      refine H.iushr s0_17 rfl ?_
      refine H.iconst s0_18 (v := (1 : Int32)) (by decide) ?_
      refine H.iand s0_19 (w := i0) hi0 ?_
      refine H.istore s0_20 (ls' := #[.val (.int p0), .val (.int p1), .val (.int p2), .val (.long p3), .second, .val (.long p4), .second, .val (.int p5), .val oz, .val (.int (2 : Int32)), .val (.int i0), .unset, .unset, .unset, .unset, .unset, .unset, .unset, .unset, .unset, .unset, .unset, .unset, .unset, .unset, .unset, .unset, .unset]) rfl ?_
      refine H.iload s0_22 rfl ?_
      refine H.iconst s0_24 (v := (4 : Int32)) (by decide) ?_
      refine H.iushr s0_25 rfl ?_
      refine H.iconst s0_26 (v := (1 : Int32)) (by decide) ?_
      refine H.iand s0_27 (w := i1) hi1 ?_
      refine H.istore s0_28 (ls' := #[.val (.int p0), .val (.int p1), .val (.int p2), .val (.long p3), .second, .val (.long p4), .second, .val (.int p5), .val oz, .val (.int (2 : Int32)), .val (.int i0), .val (.int i1), .unset, .unset, .unset, .unset, .unset, .unset, .unset, .unset, .unset, .unset, .unset, .unset, .unset, .unset, .unset, .unset]) rfl ?_
      refine H.iload s0_30 rfl ?_
      refine H.iconst s0_32 (v := (5 : Int32)) (by decide) ?_
      refine H.iushr s0_33 rfl ?_
      refine H.iconst s0_34 (v := (1 : Int32)) (by decide) ?_
      refine H.iand s0_35 (w := i2) hi2 ?_
      refine H.istore s0_36 (ls' := #[.val (.int p0), .val (.int p1), .val (.int p2), .val (.long p3), .second, .val (.long p4), .second, .val (.int p5), .val oz, .val (.int (2 : Int32)), .val (.int i0), .val (.int i1), .val (.int i2), .unset, .unset, .unset, .unset, .unset, .unset, .unset, .unset, .unset, .unset, .unset, .unset, .unset, .unset, .unset]) rfl ?_
      refine H.iload s0_38 rfl ?_
      refine H.ifT s0_40 (show ¬ (2 : Int32) = (0 : Int32) by decide) ?_
      refine H.iload s0_51 rfl ?_
      refine H.iconst s0_53 (v := (1 : Int32)) (by decide) ?_
      refine H.icmpT s0_54 (show ¬ (2 : Int32) = (1 : Int32) by decide) ?_
      refine H.iload s0_70 rfl ?_
      refine H.iconst s0_72 (v := (2 : Int32)) (by decide) ?_
      refine H.icmpF s0_73 (show (2 : Int32) = (2 : Int32) by decide) ?_
      refine H.iconst s0_76 (v := (2 : Int32)) (by decide) ?_
      refine H.newarray s0_77 (ty := .int) rfl (k_0 hw) (N := 2) (cap := 2) (by decide) rfl (by decide) (by decide) rfl (by decide) (by decide) (i := 0) rfl (A' := [.inr (.int, [oz, oz])]) rfl (k' := 1) rfl (n' := 2) rfl ?_
      refine H.dup s0_79 rfl ?_
      refine H.iconst s0_80 (v := (0 : Int32)) (by decide) ?_
      refine H.iload s0_81 rfl ?_
      refine H.iastore s0_83 (i := 0) (j := 0) rfl (by decide) (ltb rfl)  rfl ?_
      refine H.dup s0_84 rfl ?_
      refine H.iconst s0_85 (v := (1 : Int32)) (by decide) ?_
      refine H.iload s0_86 rfl ?_
      refine H.iastore s0_88 (i := 0) (j := 1) rfl (by decide) (ltb rfl)  rfl ?_
      refine H.astore s0_89 rfl (ls' := #[.val (.int p0), .val (.int p1), .val (.int p2), .val (.long p3), .second, .val (.long p4), .second, .val (.int p5), .val oz, .val (.int (2 : Int32)), .val (.int i0), .val (.int i1), .val (.int i2), .val (rf n0 0), .unset, .unset, .unset, .unset, .unset, .unset, .unset, .unset, .unset, .unset, .unset, .unset, .unset, .unset]) rfl ?_
      refine H.goto s0_91 ?_
      refine H.iconst s0_114 (v := (2 : Int32)) (by decide) ?_
      refine H.newarray s0_115 (ty := .int) rfl (k_0 hw) (N := 2) (cap := 2) (by decide) rfl (by decide) (by decide) rfl (by decide) (by decide) (i := 1) rfl (A' := [.inr (.int, [(.int i0), (.int i1)]), .inr (.int, [oz, oz])]) rfl (k' := 2) rfl (n' := 4) rfl ?_
      refine H.dup s0_117 rfl ?_
      refine H.iconst s0_118 (v := (0 : Int32)) (by decide) ?_
      refine H.iloadN s0_119 rfl ?_
      refine H.iastore s0_120 (i := 1) (j := 0) rfl (by decide) (ltb rfl)  rfl ?_
      refine H.dup s0_121 rfl ?_
      refine H.iconst s0_122 (v := (1 : Int32)) (by decide) ?_
      refine H.iloadN s0_123 rfl ?_
      refine H.iastore s0_124 (i := 1) (j := 1) rfl (by decide) (ltb rfl)  rfl ?_
      refine H.astore s0_125 rfl (ls' := #[.val (.int p0), .val (.int p1), .val (.int p2), .val (.long p3), .second, .val (.long p4), .second, .val (.int p5), .val oz, .val (.int (2 : Int32)), .val (.int i0), .val (.int i1), .val (.int i2), .val (rf n0 0), .val (rf n0 1), .unset, .unset, .unset, .unset, .unset, .unset, .unset, .unset, .unset, .unset, .unset, .unset, .unset]) rfl ?_
      refine H.iconst s0_127 (v := (2 : Int32)) (by decide) ?_
      refine H.newarray s0_128 (ty := .int) rfl (k_0 hw) (N := 2) (cap := 2) (by decide) rfl (by decide) (by decide) rfl (by decide) (by decide) (i := 2) rfl (A' := [.inr (.int, [(.int i0), (.int i1)]), .inr (.int, [(.int p0), (.int p1)]), .inr (.int, [oz, oz])]) rfl (k' := 3) rfl (n' := 6) rfl ?_
      refine H.dup s0_130 rfl ?_
      refine H.iconst s0_131 (v := (0 : Int32)) (by decide) ?_
      refine H.iloadN s0_132 rfl ?_
      refine H.iastore s0_133 (i := 2) (j := 0) rfl (by decide) (ltb rfl)  rfl ?_
      refine H.dup s0_134 rfl ?_
      refine H.iconst s0_135 (v := (1 : Int32)) (by decide) ?_
      refine H.iloadN s0_136 rfl ?_
      refine H.iastore s0_137 (i := 2) (j := 1) rfl (by decide) (ltb rfl)  rfl ?_
      refine H.astore s0_138 rfl (ls' := #[.val (.int p0), .val (.int p1), .val (.int p2), .val (.long p3), .second, .val (.long p4), .second, .val (.int p5), .val oz, .val (.int (2 : Int32)), .val (.int i0), .val (.int i1), .val (.int i2), .val (rf n0 0), .val (rf n0 1), .val (rf n0 2), .unset, .unset, .unset, .unset, .unset, .unset, .unset, .unset, .unset, .unset, .unset, .unset]) rfl ?_
      refine H.iconst s0_140 (v := (2 : Int32)) (by decide) ?_
      refine H.newarray s0_141 (ty := .long) rfl (k_1 hw) (N := 2) (cap := 2) (by decide) rfl (by decide) (by decide) rfl (by decide) (by decide) (i := 3) rfl (A' := [.inr (.int, [(.int i0), (.int i1)]), .inr (.int, [(.int p0), (.int p1)]), .inr (.int, [(.int p1), (.int p2)]), .inr (.long, [ol, ol])]) rfl (k' := 4) rfl (n' := 8) rfl ?_
      refine H.dup s0_143 rfl ?_
      refine H.iconst s0_144 (v := (0 : Int32)) (by decide) ?_
      refine H.lloadN s0_145 rfl ?_
      refine H.lastore s0_146 (i := 3) (j := 0) rfl (by decide) (ltb rfl)  rfl ?_
      refine H.dup s0_147 rfl ?_
      refine H.iconst s0_148 (v := (1 : Int32)) (by decide) ?_
      refine H.lload s0_149 rfl ?_
      refine H.lastore s0_151 (i := 3) (j := 1) rfl (by decide) (ltb rfl)  rfl ?_
      refine H.astore s0_152 rfl (ls' := #[.val (.int p0), .val (.int p1), .val (.int p2), .val (.long p3), .second, .val (.long p4), .second, .val (.int p5), .val oz, .val (.int (2 : Int32)), .val (.int i0), .val (.int i1), .val (.int i2), .val (rf n0 0), .val (rf n0 1), .val (rf n0 2), .val (rf n0 3), .unset, .unset, .unset, .unset, .unset, .unset, .unset, .unset, .unset, .unset, .unset]) rfl ?_
      refine H.iconst s0_154 (v := (2 : Int32)) (by decide) ?_
      refine H.newarray s0_155 (ty := .long) rfl (k_1 hw) (N := 2) (cap := 2) (by decide) rfl (by decide) (by decide) rfl (by decide) (by decide) (i := 4) rfl (A' := [.inr (.int, [(.int i0), (.int i1)]), .inr (.int, [(.int p0), (.int p1)]), .inr (.int, [(.int p1), (.int p2)]), .inr (.long, [(.long p3), (.long p4)]), .inr (.long, [ol, ol])]) rfl (k' := 5) rfl (n' := 10) rfl ?_
      refine H.dup s0_157 rfl ?_
      refine H.iconst s0_158 (v := (0 : Int32)) (by decide) ?_
      refine H.lload s0_159 rfl ?_
      refine H.lastore s0_161 (i := 4) (j := 0) rfl (by decide) (ltb rfl)  rfl ?_
      refine H.dup s0_162 rfl ?_
      refine H.iconst s0_163 (v := (1 : Int32)) (by decide) ?_
      refine H.lloadN s0_164 rfl ?_
      refine H.lastore s0_165 (i := 4) (j := 1) rfl (by decide) (ltb rfl)  rfl ?_
      refine H.astore s0_166 rfl (ls' := #[.val (.int p0), .val (.int p1), .val (.int p2), .val (.long p3), .second, .val (.long p4), .second, .val (.int p5), .val oz, .val (.int (2 : Int32)), .val (.int i0), .val (.int i1), .val (.int i2), .val (rf n0 0), .val (rf n0 1), .val (rf n0 2), .val (rf n0 3), .val (rf n0 4), .unset, .unset, .unset, .unset, .unset, .unset, .unset, .unset, .unset, .unset]) rfl ?_
      refine H.iconst s0_168 (v := (4 : Int32)) (by decide) ?_
      refine H.newarray s0_169 (ty := .int) rfl (k_0 hw) (N := 4) (cap := 4) (by decide) rfl (by decide) (by decide) rfl (by decide) (by decide) (i := 5) rfl (A' := [.inr (.int, [(.int i0), (.int i1)]), .inr (.int, [(.int p0), (.int p1)]), .inr (.int, [(.int p1), (.int p2)]), .inr (.long, [(.long p3), (.long p4)]), .inr (.long, [(.long p4), (.long p3)]), .inr (.int, [oz, oz, oz, oz])]) rfl (k' := 6) rfl (n' := 14) rfl ?_
      refine H.astore s0_171 rfl (ls' := #[.val (.int p0), .val (.int p1), .val (.int p2), .val (.long p3), .second, .val (.long p4), .second, .val (.int p5), .val oz, .val (.int (2 : Int32)), .val (.int i0), .val (.int i1), .val (.int i2), .val (rf n0 0), .val (rf n0 1), .val (rf n0 2), .val (rf n0 3), .val (rf n0 4), .val (rf n0 5), .unset, .unset, .unset, .unset, .unset, .unset, .unset, .unset, .unset]) rfl ?_
      refine H.iconst s0_173 (v := (4 : Int32)) (by decide) ?_
      refine H.newarray s0_174 (ty := .int) rfl (k_0 hw) (N := 4) (cap := 4) (by decide) rfl (by decide) (by decide) rfl (by decide) (by decide) (i := 6) rfl (A' := [.inr (.int, [(.int i0), (.int i1)]), .inr (.int, [(.int p0), (.int p1)]), .inr (.int, [(.int p1), (.int p2)]), .inr (.long, [(.long p3), (.long p4)]), .inr (.long, [(.long p4), (.long p3)]), .inr (.int, [oz, oz, oz, oz]), .inr (.int, [oz, oz, oz, oz])]) rfl (k' := 7) rfl (n' := 18) rfl ?_
      refine H.astore s0_176 rfl (ls' := #[.val (.int p0), .val (.int p1), .val (.int p2), .val (.long p3), .second, .val (.long p4), .second, .val (.int p5), .val oz, .val (.int (2 : Int32)), .val (.int i0), .val (.int i1), .val (.int i2), .val (rf n0 0), .val (rf n0 1), .val (rf n0 2), .val (rf n0 3), .val (rf n0 4), .val (rf n0 5), .val (rf n0 6), .unset, .unset, .unset, .unset, .unset, .unset, .unset, .unset]) rfl ?_
      refine H.iconst s0_178 (v := (4 : Int32)) (by decide) ?_
      refine H.newarray s0_179 (ty := .long) rfl (k_1 hw) (N := 4) (cap := 4) (by decide) rfl (by decide) (by decide) rfl (by decide) (by decide) (i := 7) rfl (A' := [.inr (.int, [(.int i0), (.int i1)]), .inr (.int, [(.int p0), (.int p1)]), .inr (.int, [(.int p1), (.int p2)]), .inr (.long, [(.long p3), (.long p4)]), .inr (.long, [(.long p4), (.long p3)]), .inr (.int, [oz, oz, oz, oz]), .inr (.int, [oz, oz, oz, oz]), .inr (.long, [ol, ol, ol, ol])]) rfl (k' := 8) rfl (n' := 22) rfl ?_
      refine H.astore s0_181 rfl (ls' := #[.val (.int p0), .val (.int p1), .val (.int p2), .val (.long p3), .second, .val (.long p4), .second, .val (.int p5), .val oz, .val (.int (2 : Int32)), .val (.int i0), .val (.int i1), .val (.int i2), .val (rf n0 0), .val (rf n0 1), .val (rf n0 2), .val (rf n0 3), .val (rf n0 4), .val (rf n0 5), .val (rf n0 6), .val (rf n0 7), .unset, .unset, .unset, .unset, .unset, .unset, .unset]) rfl ?_
      refine H.iconst s0_183 (v := (4 : Int32)) (by decide) ?_
      refine H.newarray s0_184 (ty := .long) rfl (k_1 hw) (N := 4) (cap := 4) (by decide) rfl (by decide) (by decide) rfl (by decide) (by decide) (i := 8) rfl (A' := [.inr (.int, [(.int i0), (.int i1)]), .inr (.int, [(.int p0), (.int p1)]), .inr (.int, [(.int p1), (.int p2)]), .inr (.long, [(.long p3), (.long p4)]), .inr (.long, [(.long p4), (.long p3)]), .inr (.int, [oz, oz, oz, oz]), .inr (.int, [oz, oz, oz, oz]), .inr (.long, [ol, ol, ol, ol]), .inr (.long, [ol, ol, ol, ol])]) rfl (k' := 9) rfl (n' := 26) rfl ?_
      refine H.astore s0_186 rfl (ls' := #[.val (.int p0), .val (.int p1), .val (.int p2), .val (.long p3), .second, .val (.long p4), .second, .val (.int p5), .val oz, .val (.int (2 : Int32)), .val (.int i0), .val (.int i1), .val (.int i2), .val (rf n0 0), .val (rf n0 1), .val (rf n0 2), .val (rf n0 3), .val (rf n0 4), .val (rf n0 5), .val (rf n0 6), .val (rf n0 7), .val (rf n0 8), .unset, .unset, .unset, .unset, .unset, .unset]) rfl ?_
      refine H.iload s0_188 rfl ?_
      refine H.iconst s0_190 (v := (1 : Int32)) (by decide) ?_
      refine H.icmpT s0_191 (show ¬ (0 : Int32) = (1 : Int32) by decide) ?_
      refine H.iload s0_223 rfl ?_
      refine H.iconst s0_225 (v := (1 : Int32)) (by decide) ?_
      refine H.icmpF s0_226 (show ¬ (2 : Int32) < (1 : Int32) by decide) ?_
      refine H.aload s0_229 rfl rfl ?_
      refine H.aload s0_231 rfl rfl ?_
      refine H.aload s0_233 rfl rfl ?_
      refine H.aload s0_235 rfl rfl ?_
      refine H.iload s0_237 rfl ?_
      refine H.iload s0_239 rfl ?_
      refine H.aload s0_241 rfl rfl ?_
      refine H.aload s0_243 rfl rfl ?_
      refine H.aload s0_245 rfl rfl ?_
      refine H.aload s0_247 rfl rfl ?_
      refine H.callSD s0_249 (k_27 hw) (a_29 l hw n0 p0 p1 p2 p3 p4 i0 i1 hI0 lI0 hI1 lI1) (argsL := [(rf n0 5), (rf n0 6), (rf n0 7), (rf n0 8), oz, (.int i0), (rf n0 1), (rf n0 2), (rf n0 3), (rf n0 4)]) (rest := []) rfl rfl rfl rfl (leb rfl) (leb rfl) (leb rfl) (leb rfl) (st' := []) rfl (k' := 9) rfl (n' := 26) rfl ?_
      refine H.iload s0_252 rfl ?_
      refine H.iconst s0_254 (v := (2 : Int32)) (by decide) ?_
      refine H.icmpF s0_255 (show ¬ (2 : Int32) < (2 : Int32) by decide) ?_
      refine H.aload s0_258 rfl rfl ?_
      refine H.aload s0_260 rfl rfl ?_
      refine H.aload s0_262 rfl rfl ?_
      refine H.aload s0_264 rfl rfl ?_
      refine H.iload s0_266 rfl ?_
      refine H.iconst s0_268 (v := (1 : Int32)) (by decide) ?_
      refine H.iadd s0_269 (w := (1 : Int32)) (by decide) ?_
      refine H.iload s0_270 rfl ?_
      refine H.aload s0_272 rfl rfl ?_
      refine H.aload s0_274 rfl rfl ?_
      refine H.aload s0_276 rfl rfl ?_
      refine H.aload s0_278 rfl rfl ?_
      refine H.callSD s0_280 (k_27 hw) (a_30 l hw n0 p0 p1 p2 p3 p4 i0 i1 I0 hI0 lI0 hI1 lI1) (argsL := [(rf n0 5), (rf n0 6), (rf n0 7), (rf n0 8), (.int (1 : Int32)), (.int i1), (rf n0 1), (rf n0 2), (rf n0 3), (rf n0 4)]) (rest := []) rfl rfl rfl rfl (leb rfl) (leb rfl) (leb rfl) (leb rfl) (st' := []) rfl (k' := 9) rfl (n' := 26) rfl ?_
      refine H.iload s0_283 rfl ?_
      refine H.iconst s0_285 (v := (3 : Int32)) (by decide) ?_
      refine H.icmpT s0_286 (show (2 : Int32) < (3 : Int32) by decide) ?_
      refine H.new s0_314 (k_2 hw) rfl (by decide) (by decide) (i := 9) rfl (A' := [.inr (.int, [(.int i0), (.int i1)]), .inr (.int, [(.int p0), (.int p1)]), .inr (.int, [(.int p1), (.int p2)]), .inr (.long, [(.long p3), (.long p4)]), .inr (.long, [(.long p4), (.long p3)]), .inr (.int, [(.int (own_selI I0 p0 p1)), (.int (own_selI I1 p0 p1)), oz, oz]), .inr (.int, [(.int (own_selI I0 p1 p2)), (.int (own_selI I1 p1 p2)), oz, oz]), .inr (.long, [(.long (own_selJ I0 p3 p4)), (.long (own_selJ I1 p3 p4)), ol, ol]), .inr (.long, [(.long (own_selJ I0 p4 p3)), (.long (own_selJ I1 p4 p3)), ol, ol]), .inl (0, [.null, .null, .null, .null, oz])]) rfl (k' := 10) rfl (n' := 31) rfl ?_
      refine H.dup s0_317 rfl ?_
      refine H.iconst s0_318 (v := (2 : Int32)) (by decide) ?_
      refine H.callCD s0_319 (k_9 hw) (a_31 l hw n0 p0 p1 p2 p3 p4 i0 i1 I0 I1) (argsL := [(.int (2 : Int32))]) (rest := [(rf n0 9)]) rfl rfl rfl rfl (leb rfl) (leb rfl) (leb rfl) (leb rfl) (st' := [(rf n0 9)]) rfl (k' := 14) rfl (n' := 39) rfl ?_
      refine H.astore s0_322 rfl (ls' := #[.val (.int p0), .val (.int p1), .val (.int p2), .val (.long p3), .second, .val (.long p4), .second, .val (.int p5), .val oz, .val (.int (2 : Int32)), .val (.int i0), .val (.int i1), .val (.int i2), .val (rf n0 0), .val (rf n0 1), .val (rf n0 2), .val (rf n0 3), .val (rf n0 4), .val (rf n0 5), .val (rf n0 6), .val (rf n0 7), .val (rf n0 8), .val (rf n0 9), .unset, .unset, .unset, .unset, .unset]) rfl ?_
      refine H.aload s0_324 rfl rfl ?_
      refine H.iloadN s0_326 rfl ?_
      refine H.iloadN s0_327 rfl ?_
      refine H.lloadN s0_328 rfl ?_
      refine H.lload s0_329 rfl ?_
      refine H.callVD s0_331 (k_16 hw) (a_32 l hw n0 p0 p1 p2 p3 p4 i0 i1 I0 I1) (i := 9) rfl (argsL := [(.int p0), (.int p1), (.long p3), (.long p4)]) (rest := []) rfl rfl rfl rfl (leb rfl) (leb rfl) (leb rfl) (leb rfl) (st' := []) rfl (k' := 14) rfl (n' := 39) rfl ?_
      refine H.aload s0_334 rfl rfl ?_
      refine H.iloadN s0_336 rfl ?_
      refine H.iloadN s0_337 rfl ?_
      refine H.lload s0_338 rfl ?_
      refine H.lloadN s0_340 rfl ?_
      refine H.callVD s0_341 (k_16 hw) (a_33 l hw n0 p0 p1 p2 p3 p4 i0 i1 I0 I1) (i := 9) rfl (argsL := [(.int p1), (.int p2), (.long p4), (.long p3)]) (rest := []) rfl rfl rfl rfl (leb rfl) (leb rfl) (leb rfl) (leb rfl) (st' := []) rfl (k' := 14) rfl (n' := 39) rfl ?_
      refine H.new s0_344 (k_2 hw) rfl (by decide) (by decide) (i := 14) rfl (A' := [.inr (.int, [(.int i0), (.int i1)]), .inr (.int, [(.int p0), (.int p1)]), .inr (.int, [(.int p1), (.int p2)]), .inr (.long, [(.long p3), (.long p4)]), .inr (.long, [(.long p4), (.long p3)]), .inr (.int, [(.int (own_selI I0 p0 p1)), (.int (own_selI I1 p0 p1)), oz, oz]), .inr (.int, [(.int (own_selI I0 p1 p2)), (.int (own_selI I1 p1 p2)), oz, oz]), .inr (.long, [(.long (own_selJ I0 p3 p4)), (.long (own_selJ I1 p3 p4)), ol, ol]), .inr (.long, [(.long (own_selJ I0 p4 p3)), (.long (own_selJ I1 p4 p3)), ol, ol]), .inl (0, [(rf n0 10), (rf n0 11), (rf n0 12), (rf n0 13), (.int (2 : Int32))]), .inr (.int, [(.int p0), (.int p1)]), .inr (.int, [(.int p1), (.int p2)]), .inr (.long, [(.long p3), (.long p4)]), .inr (.long, [(.long p4), (.long p3)]), .inl (0, [.null, .null, .null, .null, oz])]) rfl (k' := 15) rfl (n' := 44) rfl ?_
      refine H.dup s0_347 rfl ?_
      refine H.iconst s0_348 (v := (4 : Int32)) (by decide) ?_
      refine H.callCD s0_349 (k_9 hw) (a_34 l hw n0 p0 p1 p2 p3 p4 i0 i1 I0 I1) (argsL := [(.int (4 : Int32))]) (rest := [(rf n0 14)]) rfl rfl rfl rfl (leb rfl) (leb rfl) (leb rfl) (leb rfl) (st' := [(rf n0 14)]) rfl (k' := 19) rfl (n' := 60) rfl ?_
      refine H.astore s0_352 rfl (ls' := #[.val (.int p0), .val (.int p1), .val (.int p2), .val (.long p3), .second, .val (.long p4), .second, .val (.int p5), .val oz, .val (.int (2 : Int32)), .val (.int i0), .val (.int i1), .val (.int i2), .val (rf n0 0), .val (rf n0 1), .val (rf n0 2), .val (rf n0 3), .val (rf n0 4), .val (rf n0 5), .val (rf n0 6), .val (rf n0 7), .val (rf n0 8), .val (rf n0 9), .val (rf n0 14), .unset, .unset, .unset, .unset]) rfl ?_
      refine H.iload s0_354 rfl ?_
      refine H.iconst s0_356 (v := (1 : Int32)) (by decide) ?_
      refine H.icmpT s0_357 (show ¬ (0 : Int32) = (1 : Int32) by decide) ?_
      refine H.aload s0_378 rfl rfl ?_
      refine H.aload s0_380 rfl rfl ?_
      refine H.aload s0_382 rfl rfl ?_
      refine H.callVD s0_384 (k_18 hw) (a_35 l hw n0 p0 p1 p2 p3 p4 i0 i1 I0 I1 hI0 lI0 hI1 lI1) (i := 14) rfl (argsL := [(rf n0 9), (rf n0 0)]) (rest := []) rfl rfl rfl rfl (leb rfl) (leb rfl) (leb rfl) (leb rfl) (st' := []) rfl (k' := 19) rfl (n' := 60) rfl ?_
      refine H.aload s0_387 rfl rfl ?_
      refine H.callVD s0_389 (k_19 hw) (a_36 l hw n0 p0 p1 p2 p3 p4 i0 i1 I0 I1) (i := 14) rfl (argsL := []) (rest := []) rfl rfl rfl rfl (leb rfl) (leb rfl) (leb rfl) (leb rfl) (st' := [(.int (2 : Int32))]) rfl (k' := 19) rfl (n' := 60) rfl ?_
      refine H.iload s0_392 rfl ?_
      refine H.iload s0_394 rfl ?_
      refine H.iadd s0_396 (w := (2 : Int32)) (by decide) ?_
      refine H.icmpT s0_397 (show (2 : Int32) = (2 : Int32) by decide) ?_
      refine H.aload s0_402 rfl rfl ?_
      refine H.callVD s0_404 (k_20 hw) (a_37 l hw n0 p0 p1 p2 p3 p4 i0 i1 I0 I1) (i := 14) rfl (argsL := []) (rest := []) rfl rfl rfl rfl (leb rfl) (leb rfl) (leb rfl) (leb rfl) (st' := [(rf n0 15)]) rfl (k' := 19) rfl (n' := 60) rfl ?_
      refine H.astore s0_407 rfl (ls' := #[.val (.int p0), .val (.int p1), .val (.int p2), .val (.long p3), .second, .val (.long p4), .second, .val (.int p5), .val oz, .val (.int (2 : Int32)), .val (.int i0), .val (.int i1), .val (.int i2), .val (rf n0 0), .val (rf n0 1), .val (rf n0 2), .val (rf n0 3), .val (rf n0 4), .val (rf n0 5), .val (rf n0 6), .val (rf n0 7), .val (rf n0 8), .val (rf n0 9), .val (rf n0 14), .val (rf n0 15), .unset, .unset, .unset]) rfl ?_
      refine H.aload s0_409 rfl rfl ?_
      refine H.callVD s0_411 (k_21 hw) (a_38 l hw n0 p0 p1 p2 p3 p4 i0 i1 I0 I1) (i := 14) rfl (argsL := []) (rest := []) rfl rfl rfl rfl (leb rfl) (leb rfl) (leb rfl) (leb rfl) (st' := [(rf n0 16)]) rfl (k' := 19) rfl (n' := 60) rfl ?_
      refine H.astore s0_414 rfl (ls' := #[.val (.int p0), .val (.int p1), .val (.int p2), .val (.long p3), .second, .val (.long p4), .second, .val (.int p5), .val oz, .val (.int (2 : Int32)), .val (.int i0), .val (.int i1), .val (.int i2), .val (rf n0 0), .val (rf n0 1), .val (rf n0 2), .val (rf n0 3), .val (rf n0 4), .val (rf n0 5), .val (rf n0 6), .val (rf n0 7), .val (rf n0 8), .val (rf n0 9), .val (rf n0 14), .val (rf n0 15), .val (rf n0 16), .unset, .unset]) rfl ?_
      refine H.aload s0_416 rfl rfl ?_
      refine H.callVD s0_418 (k_22 hw) (a_39 l hw n0 p0 p1 p2 p3 p4 i0 i1 I0 I1) (i := 14) rfl (argsL := []) (rest := []) rfl rfl rfl rfl (leb rfl) (leb rfl) (leb rfl) (leb rfl) (st' := [(rf n0 17)]) rfl (k' := 19) rfl (n' := 60) rfl ?_
      refine H.astore s0_421 rfl (ls' := #[.val (.int p0), .val (.int p1), .val (.int p2), .val (.long p3), .second, .val (.long p4), .second, .val (.int p5), .val oz, .val (.int (2 : Int32)), .val (.int i0), .val (.int i1), .val (.int i2), .val (rf n0 0), .val (rf n0 1), .val (rf n0 2), .val (rf n0 3), .val (rf n0 4), .val (rf n0 5), .val (rf n0 6), .val (rf n0 7), .val (rf n0 8), .val (rf n0 9), .val (rf n0 14), .val (rf n0 15), .val (rf n0 16), .val (rf n0 17), .unset]) rfl ?_
      refine H.aload s0_423 rfl rfl ?_
      refine H.callVD s0_425 (k_23 hw) (a_40 l hw n0 p0 p1 p2 p3 p4 i0 i1 I0 I1) (i := 14) rfl (argsL := []) (rest := []) rfl rfl rfl rfl (leb rfl) (leb rfl) (leb rfl) (leb rfl) (st' := [(rf n0 18)]) rfl (k' := 19) rfl (n' := 60) rfl ?_
      refine H.astore s0_428 rfl (ls' := #[.val (.int p0), .val (.int p1), .val (.int p2), .val (.long p3), .second, .val (.long p4), .second, .val (.int p5), .val oz, .val (.int (2 : Int32)), .val (.int i0), .val (.int i1), .val (.int i2), .val (rf n0 0), .val (rf n0 1), .val (rf n0 2), .val (rf n0 3), .val (rf n0 4), .val (rf n0 5), .val (rf n0 6), .val (rf n0 7), .val (rf n0 8), .val (rf n0 9), .val (rf n0 14), .val (rf n0 15), .val (rf n0 16), .val (rf n0 17), .val (rf n0 18)]) rfl ?_
      refine H.aload s0_430 rfl rfl ?_
      refine H.aload s0_432 rfl rfl ?_
      refine H.callSD s0_434 (k_25 hw) (a_41 l hw n0 p0 p1 p2 p3 p4 i0 i1 I0 I1) (argsL := [(rf n0 15), (rf n0 5)]) (rest := []) rfl rfl rfl rfl (leb rfl) (leb rfl) (leb rfl) (leb rfl) (st' := [(.int (1 : Int32))]) rfl (k' := 19) rfl (n' := 60) rfl ?_
      refine H.ifF s0_437 (show ¬ (1 : Int32) = (0 : Int32) by decide) ?_
      refine H.aload s0_440 rfl rfl ?_
      refine H.aload s0_442 rfl rfl ?_
      refine H.callSD s0_444 (k_25 hw) (a_42 l hw n0 p0 p1 p2 p3 p4 i0 i1 I0 I1) (argsL := [(rf n0 16), (rf n0 6)]) (rest := []) rfl rfl rfl rfl (leb rfl) (leb rfl) (leb rfl) (leb rfl) (st' := [(.int (1 : Int32))]) rfl (k' := 19) rfl (n' := 60) rfl ?_
      refine H.ifF s0_447 (show ¬ (1 : Int32) = (0 : Int32) by decide) ?_
      refine H.aload s0_450 rfl rfl ?_
      refine H.aload s0_452 rfl rfl ?_
      refine H.callSD s0_454 (k_26 hw) (a_43 l hw n0 p0 p1 p2 p3 p4 i0 i1 I0 I1) (argsL := [(rf n0 17), (rf n0 7)]) (rest := []) rfl rfl rfl rfl (leb rfl) (leb rfl) (leb rfl) (leb rfl) (st' := [(.int (1 : Int32))]) rfl (k' := 19) rfl (n' := 60) rfl ?_
      refine H.ifF s0_457 (show ¬ (1 : Int32) = (0 : Int32) by decide) ?_
      refine H.aload s0_460 rfl rfl ?_
      refine H.aload s0_462 rfl rfl ?_
      refine H.callSD s0_464 (k_26 hw) (a_44 l hw n0 p0 p1 p2 p3 p4 i0 i1 I0 I1) (argsL := [(rf n0 18), (rf n0 8)]) (rest := []) rfl rfl rfl rfl (leb rfl) (leb rfl) (leb rfl) (leb rfl) (st' := [(.int (1 : Int32))]) rfl (k' := 19) rfl (n' := 60) rfl ?_
      refine H.ifF s0_467 (show ¬ (1 : Int32) = (0 : Int32) by decide) ?_
      refine H.iconst s0_470 (v := (1 : Int32)) (by decide) ?_
      refine H.goto s0_471 ?_
      exact H.ireturn s0_475 rfl (by simp) rfl rfl (by decide) (by decide)
    · refine H.iand s0_11 (w := (3 : Int32)) hz11 ?_
      refine H.istore s0_12 (ls' := #[.val (.int p0), .val (.int p1), .val (.int p2), .val (.long p3), .second, .val (.long p4), .second, .val (.int p5), .val oz, .val (.int (3 : Int32)), .unset, .unset, .unset, .unset, .unset, .unset, .unset, .unset, .unset, .unset, .unset, .unset, .unset, .unset, .unset, .unset, .unset, .unset]) rfl ?_
      refine H.iload s0_14 rfl ?_
      refine H.iconst s0_16 (v := (3 : Int32)) (by decide) ?_
      refine H.iushr s0_17 rfl ?_
      refine H.iconst s0_18 (v := (1 : Int32)) (by decide) ?_
      refine H.iand s0_19 (w := i0) hi0 ?_
      refine H.istore s0_20 (ls' := #[.val (.int p0), .val (.int p1), .val (.int p2), .val (.long p3), .second, .val (.long p4), .second, .val (.int p5), .val oz, .val (.int (3 : Int32)), .val (.int i0), .unset, .unset, .unset, .unset, .unset, .unset, .unset, .unset, .unset, .unset, .unset, .unset, .unset, .unset, .unset, .unset, .unset]) rfl ?_
      refine H.iload s0_22 rfl ?_
      refine H.iconst s0_24 (v := (4 : Int32)) (by decide) ?_
      refine H.iushr s0_25 rfl ?_
      refine H.iconst s0_26 (v := (1 : Int32)) (by decide) ?_
      refine H.iand s0_27 (w := i1) hi1 ?_
      refine H.istore s0_28 (ls' := #[.val (.int p0), .val (.int p1), .val (.int p2), .val (.long p3), .second, .val (.long p4), .second, .val (.int p5), .val oz, .val (.int (3 : Int32)), .val (.int i0), .val (.int i1), .unset, .unset, .unset, .unset, .unset, .unset, .unset, .unset, .unset, .unset, .unset, .unset, .unset, .unset, .unset, .unset]) rfl ?_
      refine H.iload s0_30 rfl ?_
      refine H.iconst s0_32 (v := (5 : Int32)) (by decide) ?_
      refine H.iushr s0_33 rfl ?_
      refine H.iconst s0_34 (v := (1 : Int32)) (by decide) ?_
      refine H.iand s0_35 (w := i2) hi2 ?_
      refine H.istore s0_36 (ls' := #[.val (.int p0), .val (.int p1), .val (.int p2), .val (.long p3), .second, .val (.long p4), .second, .val (.int p5), .val oz, .val (.int (3 : Int32)), .val (.int i0), .val (.int i1), .val (.int i2), .unset, .unset, .unset, .unset, .unset, .unset, .unset, .unset, .unset, .unset, .unset, .unset, .unset, .unset, .unset]) rfl ?_
      refine H.iload s0_38 rfl ?_
      refine H.ifT s0_40 (show ¬ (3 : Int32) = (0 : Int32) by decide) ?_
      refine H.iload s0_51 rfl ?_
      refine H.iconst s0_53 (v := (1 : Int32)) (by decide) ?_
      refine H.icmpT s0_54 (show ¬ (3 : Int32) = (1 : Int32) by decide) ?_
      refine H.iload s0_70 rfl ?_
      refine H.iconst s0_72 (v := (2 : Int32)) (by decide) ?_
      refine H.icmpT s0_73 (show ¬ (3 : Int32) = (2 : Int32) by decide) ?_
      refine H.iconst s0_94 (v := (3 : Int32)) (by decide) ?_
      refine H.newarray s0_95 (ty := .int) rfl (k_0 hw) (N := 3) (cap := 3) (by decide) rfl (by decide) (by decide) rfl (by decide) (by decide) (i := 0) rfl (A' := [.inr (.int, [oz, oz, oz])]) rfl (k' := 1) rfl (n' := 3) rfl ?_
      refine H.dup s0_97 rfl ?_
      refine H.iconst s0_98 (v := (0 : Int32)) (by decide) ?_
      refine H.iload s0_99 rfl ?_
      refine H.iastore s0_101 (i := 0) (j := 0) rfl (by decide) (ltb rfl)  rfl ?_
      refine H.dup s0_102 rfl ?_
      refine H.iconst s0_103 (v := (1 : Int32)) (by decide) ?_
      refine H.iload s0_104 rfl ?_
      refine H.iastore s0_106 (i := 0) (j := 1) rfl (by decide) (ltb rfl)  rfl ?_
      refine H.dup s0_107 rfl ?_
      refine H.iconst s0_108 (v := (2 : Int32)) (by decide) ?_
      refine H.iload s0_109 rfl ?_
      refine H.iastore s0_111 (i := 0) (j := 2) rfl (by decide) (ltb rfl)  rfl ?_
      refine H.astore s0_112 rfl (ls' := #[.val (.int p0), .val (.int p1), .val (.int p2), .val (.long p3), .second, .val (.long p4), .second, .val (.int p5), .val oz, .val (.int (3 : Int32)), .val (.int i0), .val (.int i1), .val (.int i2), .val (rf n0 0), .unset, .unset, .unset, .unset, .unset, .unset, .unset, .unset, .unset, .unset, .unset, .unset, .unset, .unset]) rfl ?_
      refine H.iconst s0_114 (v := (2 : Int32)) (by decide) ?_
      refine H.newarray s0_115 (ty := .int) rfl (k_0 hw) (N := 2) (cap := 2) (by decide) rfl (by decide) (by decide) rfl (by decide) (by decide) (i := 1) rfl (A' := [.inr (.int, [(.int i0), (.int i1), (.int i2)]), .inr (.int, [oz, oz])]) rfl (k' := 2) rfl (n' := 5) rfl ?_
      refine H.dup s0_117 rfl ?_
      refine H.iconst s0_118 (v := (0 : Int32)) (by decide) ?_
      refine H.iloadN s0_119 rfl ?_
      refine H.iastore s0_120 (i := 1) (j := 0) rfl (by decide) (ltb rfl)  rfl ?_
      refine H.dup s0_121 rfl ?_
      refine H.iconst s0_122 (v := (1 : Int32)) (by decide) ?_
      refine H.iloadN s0_123 rfl ?_
      refine H.iastore s0_124 (i := 1) (j := 1) rfl (by decide) (ltb rfl)  rfl ?_
      refine H.astore s0_125 rfl (ls' := #[.val (.int p0), .val (.int p1), .val (.int p2), .val (.long p3), .second, .val (.long p4), .second, .val (.int p5), .val oz, .val (.int (3 : Int32)), .val (.int i0), .val (.int i1), .val (.int i2), .val (rf n0 0), .val (rf n0 1), .unset, .unset, .unset, .unset, .unset, .unset, .unset, .unset, .unset, .unset, .unset, .unset, .unset]) rfl ?_
      refine H.iconst s0_127 (v := (2 : Int32)) (by decide) ?_
      refine H.newarray s0_128 (ty := .int) rfl (k_0 hw) (N := 2) (cap := 2) (by decide) rfl (by decide) (by decide) rfl (by decide) (by decide) (i := 2) rfl (A' := [.inr (.int, [(.int i0), (.int i1), (.int i2)]), .inr (.int, [(.int p0), (.int p1)]), .inr (.int, [oz, oz])]) rfl (k' := 3) rfl (n' := 7) rfl ?_
      refine H.dup s0_130 rfl ?_
      refine H.iconst s0_131 (v := (0 : Int32)) (by decide) ?_
      refine H.iloadN s0_132 rfl ?_
      refine H.iastore s0_133 (i := 2) (j := 0) rfl (by decide) (ltb rfl)  rfl ?_
      refine H.dup s0_134 rfl ?_
      refine H.iconst s0_135 (v := (1 : Int32)) (by decide) ?_
      refine H.iloadN s0_136 rfl ?_
      refine H.iastore s0_137 (i := 2) (j := 1) rfl (by decide) (ltb rfl)  rfl ?_
      refine H.astore s0_138 rfl (ls' := #[.val (.int p0), .val (.int p1), .val (.int p2), .val (.long p3), .second, .val (.long p4), .second, .val (.int p5), .val oz, .val (.int (3 : Int32)), .val (.int i0), .val (.int i1), .val (.int i2), .val (rf n0 0), .val (rf n0 1), .val (rf n0 2), .unset, .unset, .unset, .unset, .unset, .unset, .unset, .unset, .unset, .unset, .unset, .unset]) rfl ?_
      refine H.iconst s0_140 (v := (2 : Int32)) (by decide) ?_
      refine H.newarray s0_141 (ty := .long) rfl (k_1 hw) (N := 2) (cap := 2) (by decide) rfl (by decide) (by decide) rfl (by decide) (by decide) (i := 3) rfl (A' := [.inr (.int, [(.int i0), (.int i1), (.int i2)]), .inr (.int, [(.int p0), (.int p1)]), .inr (.int, [(.int p1), (.int p2)]), .inr (.long, [ol, ol])]) rfl (k' := 4) rfl (n' := 9) rfl ?_
      refine H.dup s0_143 rfl ?_
      refine H.iconst s0_144 (v := (0 : Int32)) (by decide) ?_
      refine H.lloadN s0_145 rfl ?_
      refine H.lastore s0_146 (i := 3) (j := 0) rfl (by decide) (ltb rfl)  rfl ?_
      refine H.dup s0_147 rfl ?_
      refine H.iconst s0_148 (v := (1 : Int32)) (by decide) ?_
      refine H.lload s0_149 rfl ?_
      refine H.lastore s0_151 (i := 3) (j := 1) rfl (by decide) (ltb rfl)  rfl ?_
      refine H.astore s0_152 rfl (ls' := #[.val (.int p0), .val (.int p1), .val (.int p2), .val (.long p3), .second, .val (.long p4), .second, .val (.int p5), .val oz, .val (.int (3 : Int32)), .val (.int i0), .val (.int i1), .val (.int i2), .val (rf n0 0), .val (rf n0 1), .val (rf n0 2), .val (rf n0 3), .unset, .unset, .unset, .unset, .unset, .unset, .unset, .unset, .unset, .unset, .unset]) rfl ?_
      refine H.iconst s0_154 (v := (2 : Int32)) (by decide) ?_
      refine H.newarray s0_155 (ty := .long) rfl (k_1 hw) (N := 2) (cap := 2) (by decide) rfl (by decide) (by decide) rfl (by decide) (by decide) (i := 4) rfl (A' := [.inr (.int, [(.int i0), (.int i1), (.int i2)]), .inr (.int, [(.int p0), (.int p1)]), .inr (.int, [(.int p1), (.int p2)]), .inr (.long, [(.long p3), (.long p4)]), .inr (.long, [ol, ol])]) rfl (k' := 5) rfl (n' := 11) rfl ?_
      refine H.dup s0_157 rfl ?_
      refine H.iconst s0_158 (v := (0 : Int32)) (by decide) ?_
      refine H.lload s0_159 rfl ?_
      refine H.lastore s0_161 (i := 4) (j := 0) rfl (by decide) (ltb rfl)  rfl ?_
      refine H.dup s0_162 rfl ?_
      refine H.iconst s0_163 (v := (1 : Int32)) (by decide) ?_
      refine H.lloadN s0_164 rfl ?_
      refine H.lastore s0_165 (i := 4) (j := 1) rfl (by decide) (ltb rfl)  rfl ?_
      refine H.astore s0_166 rfl (ls' := #[.val (.int p0), .val (.int p1), .val (.int p2), .val (.long p3), .second, .val (.long p4), .second, .val (.int p5), .val oz, .val (.int (3 : Int32)), .val (.int i0), .val (.int i1), .val (.int i2), .val (rf n0 0), .val (rf n0 1), .val (rf n0 2), .val (rf n0 3), .val (rf n0 4), .unset, .unset, .unset, .unset, .unset, .unset, .unset, .unset, .unset, .unset]) rfl ?_
      refine H.iconst s0_168 (v := (4 : Int32)) (by decide) ?_
      refine H.newarray s0_169 (ty := .int) rfl (k_0 hw) (N := 4) (cap := 4) (by decide) rfl (by decide) (by decide) rfl (by decide) (by decide) (i := 5) rfl (A' := [.inr (.int, [(.int i0), (.int i1), (.int i2)]), .inr (.int, [(.int p0), (.int p1)]), .inr (.int, [(.int p1), (.int p2)]), .inr (.long, [(.long p3), (.long p4)]), .inr (.long, [(.long p4), (.long p3)]), .inr (.int, [oz, oz, oz, oz])]) rfl (k' := 6) rfl (n' := 15) rfl ?_
      refine H.astore s0_171 rfl (ls' := #[.val (.int p0), .val (.int p1), .val (.int p2), .val (.long p3), .second, .val (.long p4), .second, .val (.int p5), .val oz, .val (.int (3 : Int32)), .val (.int i0), .val (.int i1), .val (.int i2), .val (rf n0 0), .val (rf n0 1), .val (rf n0 2), .val (rf n0 3), .val (rf n0 4), .val (rf n0 5), .unset, .unset, .unset, .unset, .unset, .unset, .unset, .unset, .unset]) rfl ?_
      refine H.iconst s0_173 (v := (4 : Int32)) (by decide) ?_
      refine H.newarray s0_174 (ty := .int) rfl (k_0 hw) (N := 4) (cap := 4) (by decide) rfl (by decide) (by decide) rfl (by decide) (by decide) (i := 6) rfl (A' := [.inr (.int, [(.int i0), (.int i1), (.int i2)]), .inr (.int, [(.int p0), (.int p1)]), .inr (.int, [(.int p1), (.int p2)]), .inr (.long, [(.long p3), (.long p4)]), .inr (.long, [(.long p4), (.long p3)]), .inr (.int, [oz, oz, oz, oz]), .inr (.int, [oz, oz, oz, oz])]) rfl (k' := 7) rfl (n' := 19) rfl ?_
      refine H.astore s0_176 rfl (ls' := #[.val (.int p0), .val (.int p1), .val (.int p2), .val (.long p3), .second, .val (.long p4), .second, .val (.int p5), .val oz, .val (.int (3 : Int32)), .val (.int i0), .val (.int i1), .val (.int i2), .val (rf n0 0), .val (rf n0 1), .val (rf n0 2), .val (rf n0 3), .val (rf n0 4), .val (rf n0 5), .val (rf n0 6), .unset, .unset, .unset, .unset, .unset, .unset, .unset, .unset]) rfl ?_
      refine H.iconst s0_178 (v := (4 : Int32)) (by decide) ?_
      refine H.newarray s0_179 (ty := .long) rfl (k_1 hw) (N := 4) (cap := 4) (by decide) rfl (by decide) (by decide) rfl (by decide) (by decide) (i := 7) rfl (A' := [.inr (.int, [(.int i0), (.int i1), (.int i2)]), .inr (.int, [(.int p0), (.int p1)]), .inr (.int, [(.int p1), (.int p2)]), .inr (.long, [(.long p3), (.long p4)]), .inr (.long, [(.long p4), (.long p3)]), .inr (.int, [oz, oz, oz, oz]), .inr (.int, [oz, oz, oz, oz]), .inr (.long, [ol, ol, ol, ol])]) rfl (k' := 8) rfl (n' := 23) rfl ?_
      refine H.astore s0_181 rfl (ls' := #[.val (.int p0), .val (.int p1), .val (.int p2), .val (.long p3), .second, .val (.long p4), .second, .val (.int p5), .val oz, .val (.int (3 : Int32)), .val (.int i0), .val (.int i1), .val (.int i2), .val (rf n0 0), .val (rf n0 1), .val (rf n0 2), .val (rf n0 3), .val (rf n0 4), .val (rf n0 5), .val (rf n0 6), .val (rf n0 7), .unset, .unset, .unset, .unset, .unset, .unset, .unset]) rfl ?_
      refine H.iconst s0_183 (v := (4 : Int32)) (by decide) ?_
      refine H.newarray s0_184 (ty := .long) rfl (k_1 hw) (N := 4) (cap := 4) (by decide) rfl (by decide) (by decide) rfl (by decide) (by decide) (i := 8) rfl (A' := [.inr (.int, [(.int i0), (.int i1), (.int i2)]), .inr (.int, [(.int p0), (.int p1)]), .inr (.int, [(.int p1), (.int p2)]), .inr (.long, [(.long p3), (.long p4)]), .inr (.long, [(.long p4), (.long p3)]), .inr (.int, [oz, oz, oz, oz]), .inr (.int, [oz, oz, oz, oz]), .inr (.long, [ol, ol, ol, ol]), .inr (.long, [ol, ol, ol, ol])]) rfl (k' := 9) rfl (n' := 27) rfl ?_
      refine H.astore s0_186 rfl (ls' := #[.val (.int p0), .val (.int p1), .val (.int p2), .val (.long p3), .second, .val (.long p4), .second, .val (.int p5), .val oz, .val (.int (3 : Int32)), .val (.int i0), .val (.int i1), .val (.int i2), .val (rf n0 0), .val (rf n0 1), .val (rf n0 2), .val (rf n0 3), .val (rf n0 4), .val (rf n0 5), .val (rf n0 6), .val (rf n0 7), .val (rf n0 8), .unset, .unset, .unset, .unset, .unset, .unset]) rfl ?_
      refine H.iload s0_188 rfl ?_
      refine H.iconst s0_190 (v := (1 : Int32)) (by decide) ?_
      refine H.icmpT s0_191 (show ¬ (0 : Int32) = (1 : Int32) by decide) ?_
      refine H.iload s0_223 rfl ?_
      refine H.iconst s0_225 (v := (1 : Int32)) (by decide) ?_
      refine H.icmpF s0_226 (show ¬ (3 : Int32) < (1 : Int32) by decide) ?_
      refine H.aload s0_229 rfl rfl ?_
      refine H.aload s0_231 rfl rfl ?_
      refine H.aload s0_233 rfl rfl ?_
      refine H.aload s0_235 rfl rfl ?_
      refine H.iload s0_237 rfl ?_
      refine H.iload s0_239 rfl ?_
      refine H.aload s0_241 rfl rfl ?_
      refine H.aload s0_243 rfl rfl ?_
      refine H.aload s0_245 rfl rfl ?_
      refine H.aload s0_247 rfl rfl ?_
      refine H.callSD s0_249 (k_27 hw) (a_45 l hw n0 p0 p1 p2 p3 p4 i0 i1 i2 hI0 lI0 hI1 lI1 hI2 lI2) (argsL := [(rf n0 5), (rf n0 6), (rf n0 7), (rf n0 8), oz, (.int i0), (rf n0 1), (rf n0 2), (rf n0 3), (rf n0 4)]) (rest := []) rfl rfl rfl rfl (leb rfl) (leb rfl) (leb rfl) (leb rfl) (st' := []) rfl (k' := 9) rfl (n' := 27) rfl ?_
      refine H.iload s0_252 rfl ?_
      refine H.iconst s0_254 (v := (2 : Int32)) (by decide) ?_
      refine H.icmpF s0_255 (show ¬ (3 : Int32) < (2 : Int32) by decide) ?_
      refine H.aload s0_258 rfl rfl ?_
      refine H.aload s0_260 rfl rfl ?_
      refine H.aload s0_262 rfl rfl ?_
      refine H.aload s0_264 rfl rfl ?_
      refine H.iload s0_266 rfl ?_
      refine H.iconst s0_268 (v := (1 : Int32)) (by decide) ?_
      refine H.iadd s0_269 (w := (1 : Int32)) (by decide) ?_
      refine H.iload s0_270 rfl ?_
      refine H.aload s0_272 rfl rfl ?_
      refine H.aload s0_274 rfl rfl ?_
      refine H.aload s0_276 rfl rfl ?_
      refine H.aload s0_278 rfl rfl ?_
      refine H.callSD s0_280 (k_27 hw) (a_46 l hw n0 p0 p1 p2 p3 p4 i0 i1 i2 I0 hI0 lI0 hI1 lI1 hI2 lI2) (argsL := [(rf n0 5), (rf n0 6), (rf n0 7), (rf n0 8), (.int (1 : Int32)), (.int i1), (rf n0 1), (rf n0 2), (rf n0 3), (rf n0 4)]) (rest := []) rfl rfl rfl rfl (leb rfl) (leb rfl) (leb rfl) (leb rfl) (st' := []) rfl (k' := 9) rfl (n' := 27) rfl ?_
      refine H.iload s0_283 rfl ?_
      refine H.iconst s0_285 (v := (3 : Int32)) (by decide) ?_
      refine H.icmpF s0_286 (show ¬ (3 : Int32) < (3 : Int32) by decide) ?_
      refine H.aload s0_289 rfl rfl ?_
      refine H.aload s0_291 rfl rfl ?_
      refine H.aload s0_293 rfl rfl ?_
      refine H.aload s0_295 rfl rfl ?_
      refine H.iload s0_297 rfl ?_
      refine H.iconst s0_299 (v := (2 : Int32)) (by decide) ?_
      refine H.iadd s0_300 (w := (2 : Int32)) (by decide) ?_
      refine H.iload s0_301 rfl ?_
      refine H.aload s0_303 rfl rfl ?_
      refine H.aload s0_305 rfl rfl ?_
      refine H.aload s0_307 rfl rfl ?_
      refine H.aload s0_309 rfl rfl ?_
      refine H.callSD s0_311 (k_27 hw) (a_47 l hw n0 p0 p1 p2 p3 p4 i0 i1 i2 I0 I1 hI0 lI0 hI1 lI1 hI2 lI2) (argsL := [(rf n0 5), (rf n0 6), (rf n0 7), (rf n0 8), (.int (2 : Int32)), (.int i2), (rf n0 1), (rf n0 2), (rf n0 3), (rf n0 4)]) (rest := []) rfl rfl rfl rfl (leb rfl) (leb rfl) (leb rfl) (leb rfl) (st' := []) rfl (k' := 9) rfl (n' := 27) rfl ?_
      refine H.new s0_314 (k_2 hw) rfl (by decide) (by decide) (i := 9) rfl (A' := [.inr (.int, [(.int i0), (.int i1), (.int i2)]), .inr (.int, [(.int p0), (.int p1)]), .inr (.int, [(.int p1), (.int p2)]), .inr (.long, [(.long p3), (.long p4)]), .inr (.long, [(.long p4), (.long p3)]), .inr (.int, [(.int (own_selI I0 p0 p1)), (.int (own_selI I1 p0 p1)), (.int (own_selI I2 p0 p1)), oz]), .inr (.int, [(.int (own_selI I0 p1 p2)), (.int (own_selI I1 p1 p2)), (.int (own_selI I2 p1 p2)), oz]), .inr (.long, [(.long (own_selJ I0 p3 p4)), (.long (own_selJ I1 p3 p4)), (.long (own_selJ I2 p3 p4)), ol]), .inr (.long, [(.long (own_selJ I0 p4 p3)), (.long (own_selJ I1 p4 p3)), (.long (own_selJ I2 p4 p3)), ol]), .inl (0, [.null, .null, .null, .null, oz])]) rfl (k' := 10) rfl (n' := 32) rfl ?_
      refine H.dup s0_317 rfl ?_
      refine H.iconst s0_318 (v := (2 : Int32)) (by decide) ?_
      refine H.callCD s0_319 (k_9 hw) (a_48 l hw n0 p0 p1 p2 p3 p4 i0 i1 i2 I0 I1 I2) (argsL := [(.int (2 : Int32))]) (rest := [(rf n0 9)]) rfl rfl rfl rfl (leb rfl) (leb rfl) (leb rfl) (leb rfl) (st' := [(rf n0 9)]) rfl (k' := 14) rfl (n' := 40) rfl ?_
      refine H.astore s0_322 rfl (ls' := #[.val (.int p0), .val (.int p1), .val (.int p2), .val (.long p3), .second, .val (.long p4), .second, .val (.int p5), .val oz, .val (.int (3 : Int32)), .val (.int i0), .val (.int i1), .val (.int i2), .val (rf n0 0), .val (rf n0 1), .val (rf n0 2), .val (rf n0 3), .val (rf n0 4), .val (rf n0 5), .val (rf n0 6), .val (rf n0 7), .val (rf n0 8), .val (rf n0 9), .unset, .unset, .unset, .unset, .unset]) rfl ?_
      refine H.aload s0_324 rfl rfl ?_
      refine H.iloadN s0_326 rfl ?_
      refine H.iloadN s0_327 rfl ?_
      refine H.lloadN s0_328 rfl ?_
      refine H.lload s0_329 rfl ?_
      refine H.callVD s0_331 (k_16 hw) (a_49 l hw n0 p0 p1 p2 p3 p4 i0 i1 i2 I0 I1 I2) (i := 9) rfl (argsL := [(.int p0), (.int p1), (.long p3), (.long p4)]) (rest := []) rfl rfl rfl rfl (leb rfl) (leb rfl) (leb rfl) (leb rfl) (st' := []) rfl (k' := 14) rfl (n' := 40) rfl ?_
      refine H.aload s0_334 rfl rfl ?_
      refine H.iloadN s0_336 rfl ?_
      refine H.iloadN s0_337 rfl ?_
      refine H.lload s0_338 rfl ?_
      refine H.lloadN s0_340 rfl ?_
      refine H.callVD s0_341 (k_16 hw) (a_50 l hw n0 p0 p1 p2 p3 p4 i0 i1 i2 I0 I1 I2) (i := 9) rfl (argsL := [(.int p1), (.int p2), (.long p4), (.long p3)]) (rest := []) rfl rfl rfl rfl (leb rfl) (leb rfl) (leb rfl) (leb rfl) (st' := []) rfl (k' := 14) rfl (n' := 40) rfl ?_
      refine H.new s0_344 (k_2 hw) rfl (by decide) (by decide) (i := 14) rfl (A' := [.inr (.int, [(.int i0), (.int i1), (.int i2)]), .inr (.int, [(.int p0), (.int p1)]), .inr (.int, [(.int p1), (.int p2)]), .inr (.long, [(.long p3), (.long p4)]), .inr (.long, [(.long p4), (.long p3)]), .inr (.int, [(.int (own_selI I0 p0 p1)), (.int (own_selI I1 p0 p1)), (.int (own_selI I2 p0 p1)), oz]), .inr (.int, [(.int (own_selI I0 p1 p2)), (.int (own_selI I1 p1 p2)), (.int (own_selI I2 p1 p2)), oz]), .inr (.long, [(.long (own_selJ I0 p3 p4)), (.long (own_selJ I1 p3 p4)), (.long (own_selJ I2 p3 p4)), ol]), .inr (.long, [(.long (own_selJ I0 p4 p3)), (.long (own_selJ I1 p4 p3)), (.long (own_selJ I2 p4 p3)), ol]), .inl (0, [(rf n0 10), (rf n0 11), (rf n0 12), (rf n0 13), (.int (2 : Int32))]), .inr (.int, [(.int p0), (.int p1)]), .inr (.int, [(.int p1), (.int p2)]), .inr (.long, [(.long p3), (.long p4)]), .inr (.long, [(.long p4), (.long p3)]), .inl (0, [.null, .null, .null, .null, oz])]) rfl (k' := 15) rfl (n' := 45) rfl ?_
      refine H.dup s0_347 rfl ?_
      refine H.iconst s0_348 (v := (4 : Int32)) (by decide) ?_
      refine H.callCD s0_349 (k_9 hw) (a_51 l hw n0 p0 p1 p2 p3 p4 i0 i1 i2 I0 I1 I2) (argsL := [(.int (4 : Int32))]) (rest := [(rf n0 14)]) rfl rfl rfl rfl (leb rfl) (leb rfl) (leb rfl) (leb rfl) (st' := [(rf n0 14)]) rfl (k' := 19) rfl (n' := 61) rfl ?_
      refine H.astore s0_352 rfl (ls' := #[.val (.int p0), .val (.int p1), .val (.int p2), .val (.long p3), .second, .val (.long p4), .second, .val (.int p5), .val oz, .val (.int (3 : Int32)), .val (.int i0), .val (.int i1), .val (.int i2), .val (rf n0 0), .val (rf n0 1), .val (rf n0 2), .val (rf n0 3), .val (rf n0 4), .val (rf n0 5), .val (rf n0 6), .val (rf n0 7), .val (rf n0 8), .val (rf n0 9), .val (rf n0 14), .unset, .unset, .unset, .unset]) rfl ?_
      refine H.iload s0_354 rfl ?_
      refine H.iconst s0_356 (v := (1 : Int32)) (by decide) ?_
      refine H.icmpT s0_357 (show ¬ (0 : Int32) = (1 : Int32) by decide) ?_
      refine H.aload s0_378 rfl rfl ?_
      refine H.aload s0_380 rfl rfl ?_
      refine H.aload s0_382 rfl rfl ?_
      refine H.callVD s0_384 (k_18 hw) (a_52 l hw n0 p0 p1 p2 p3 p4 i0 i1 i2 I0 I1 I2 hI0 lI0 hI1 lI1 hI2 lI2) (i := 14) rfl (argsL := [(rf n0 9), (rf n0 0)]) (rest := []) rfl rfl rfl rfl (leb rfl) (leb rfl) (leb rfl) (leb rfl) (st' := []) rfl (k' := 19) rfl (n' := 61) rfl ?_
      refine H.aload s0_387 rfl rfl ?_
      refine H.callVD s0_389 (k_19 hw) (a_53 l hw n0 p0 p1 p2 p3 p4 i0 i1 i2 I0 I1 I2) (i := 14) rfl (argsL := []) (rest := []) rfl rfl rfl rfl (leb rfl) (leb rfl) (leb rfl) (leb rfl) (st' := [(.int (3 : Int32))]) rfl (k' := 19) rfl (n' := 61) rfl ?_
      refine H.iload s0_392 rfl ?_
      refine H.iload s0_394 rfl ?_
      refine H.iadd s0_396 (w := (3 : Int32)) (by decide) ?_
      refine H.icmpT s0_397 (show (3 : Int32) = (3 : Int32) by decide) ?_
      refine H.aload s0_402 rfl rfl ?_
      refine H.callVD s0_404 (k_20 hw) (a_54 l hw n0 p0 p1 p2 p3 p4 i0 i1 i2 I0 I1 I2) (i := 14) rfl (argsL := []) (rest := []) rfl rfl rfl rfl (leb rfl) (leb rfl) (leb rfl) (leb rfl) (st' := [(rf n0 15)]) rfl (k' := 19) rfl (n' := 61) rfl ?_
      refine H.astore s0_407 rfl (ls' := #[.val (.int p0), .val (.int p1), .val (.int p2), .val (.long p3), .second, .val (.long p4), .second, .val (.int p5), .val oz, .val (.int (3 : Int32)), .val (.int i0), .val (.int i1), .val (.int i2), .val (rf n0 0), .val (rf n0 1), .val (rf n0 2), .val (rf n0 3), .val (rf n0 4), .val (rf n0 5), .val (rf n0 6), .val (rf n0 7), .val (rf n0 8), .val (rf n0 9), .val (rf n0 14), .val (rf n0 15), .unset, .unset, .unset]) rfl ?_
      refine H.aload s0_409 rfl rfl ?_
      refine H.callVD s0_411 (k_21 hw) (a_55 l hw n0 p0 p1 p2 p3 p4 i0 i1 i2 I0 I1 I2) (i := 14) rfl (argsL := []) (rest := []) rfl rfl rfl rfl (leb rfl) (leb rfl) (leb rfl) (leb rfl) (st' := [(rf n0 16)]) rfl (k' := 19) rfl (n' := 61) rfl ?_
      refine H.astore s0_414 rfl (ls' := #[.val (.int p0), .val (.int p1), .val (.int p2), .val (.long p3), .second, .val (.long p4), .second, .val (.int p5), .val oz, .val (.int (3 : Int32)), .val (.int i0), .val (.int i1), .val (.int i2), .val (rf n0 0), .val (rf n0 1), .val (rf n0 2), .val (rf n0 3), .val (rf n0 4), .val (rf n0 5), .val (rf n0 6), .val (rf n0 7), .val (rf n0 8), .val (rf n0 9), .val (rf n0 14), .val (rf n0 15), .val (rf n0 16), .unset, .unset]) rfl ?_
      refine H.aload s0_416 rfl rfl ?_
      refine H.callVD s0_418 (k_22 hw) (a_56 l hw n0 p0 p1 p2 p3 p4 i0 i1 i2 I0 I1 I2) (i := 14) rfl (argsL := []) (rest := []) rfl rfl rfl rfl (leb rfl) (leb rfl) (leb rfl) (leb rfl) (st' := [(rf n0 17)]) rfl (k' := 19) rfl (n' := 61) rfl ?_
      refine H.astore s0_421 rfl (ls' := #[.val (.int p0), .val (.int p1), .val (.int p2), .val (.long p3), .second, .val (.long p4), .second, .val (.int p5), .val oz, .val (.int (3 : Int32)), .val (.int i0), .val (.int i1), .val (.int i2), .val (rf n0 0), .val (rf n0 1), .val (rf n0 2), .val (rf n0 3), .val (rf n0 4), .val (rf n0 5), .val (rf n0 6), .val (rf n0 7), .val (rf n0 8), .val (rf n0 9), .val (rf n0 14), .val (rf n0 15), .val (rf n0 16), .val (rf n0 17), .unset]) rfl ?_
      refine H.aload s0_423 rfl rfl ?_
      refine H.callVD s0_425 (k_23 hw) (a_57 l hw n0 p0 p1 p2 p3 p4 i0 i1 i2 I0 I1 I2) (i := 14) rfl (argsL := []) (rest := []) rfl rfl rfl rfl (leb rfl) (leb rfl) (leb rfl) (leb rfl) (st' := [(rf n0 18)]) rfl (k' := 19) rfl (n' := 61) rfl ?_
      refine H.astore s0_428 rfl (ls' := #[.val (.int p0), .val (.int p1), .val (.int p2), .val (.long p3), .second, .val (.long p4), .second, .val (.int p5), .val oz, .val (.int (3 : Int32)), .val (.int i0), .val (.int i1), .val (.int i2), .val (rf n0 0), .val (rf n0 1), .val (rf n0 2), .val (rf n0 3), .val (rf n0 4), .val (rf n0 5), .val (rf n0 6), .val (rf n0 7), .val (rf n0 8), .val (rf n0 9), .val (rf n0 14), .val (rf n0 15), .val (rf n0 16), .val (rf n0 17), .val (rf n0 18)]) rfl ?_
      refine H.aload s0_430 rfl rfl ?_
      refine H.aload s0_432 rfl rfl ?_
      refine H.callSD s0_434 (k_25 hw) (a_58 l hw n0 p0 p1 p2 p3 p4 i0 i1 i2 I0 I1 I2) (argsL := [(rf n0 15), (rf n0 5)]) (rest := []) rfl rfl rfl rfl (leb rfl) (leb rfl) (leb rfl) (leb rfl) (st' := [(.int (1 : Int32))]) rfl (k' := 19) rfl (n' := 61) rfl ?_
      refine H.ifF s0_437 (show ¬ (1 : Int32) = (0 : Int32) by decide) ?_
      refine H.aload s0_440 rfl rfl ?_
      refine H.aload s0_442 rfl rfl ?_
      refine H.callSD s0_444 (k_25 hw) (a_59 l hw n0 p0 p1 p2 p3 p4 i0 i1 i2 I0 I1 I2) (argsL := [(rf n0 16), (rf n0 6)]) (rest := []) rfl rfl rfl rfl (leb rfl) (leb rfl) (leb rfl) (leb rfl) (st' := [(.int (1 : Int32))]) rfl (k' := 19) rfl (n' := 61) rfl ?_
      refine H.ifF s0_447 (show ¬ (1 : Int32) = (0 : Int32) by decide) ?_
      refine H.aload s0_450 rfl rfl ?_
      refine H.aload s0_452 rfl rfl ?_
      refine H.callSD s0_454 (k_26 hw) (a_60 l hw n0 p0 p1 p2 p3 p4 i0 i1 i2 I0 I1 I2) (argsL := [(rf n0 17), (rf n0 7)]) (rest := []) rfl rfl rfl rfl (leb rfl) (leb rfl) (leb rfl) (leb rfl) (st' := [(.int (1 : Int32))]) rfl (k' := 19) rfl (n' := 61) rfl ?_
      refine H.ifF s0_457 (show ¬ (1 : Int32) = (0 : Int32) by decide) ?_
      refine H.aload s0_460 rfl rfl ?_
      refine H.aload s0_462 rfl rfl ?_
      refine H.callSD s0_464 (k_26 hw) (a_61 l hw n0 p0 p1 p2 p3 p4 i0 i1 i2 I0 I1 I2) (argsL := [(rf n0 18), (rf n0 8)]) (rest := []) rfl rfl rfl rfl (leb rfl) (leb rfl) (leb rfl) (leb rfl) (st' := [(.int (1 : Int32))]) rfl (k' := 19) rfl (n' := 61) rfl ?_
      refine H.ifF s0_467 (show ¬ (1 : Int32) = (0 : Int32) by decide) ?_
      refine H.iconst s0_470 (v := (1 : Int32)) (by decide) ?_
      refine H.goto s0_471 ?_
      exact H.ireturn s0_475 rfl (by simp) rfl rfl (by decide) (by decide)
  · refine H.iand s0_3 (w := (1 : Int32)) hz3 ?_
    refine H.istore s0_4 (ls' := #[.val (.int p0), .val (.int p1), .val (.int p2), .val (.long p3), .second, .val (.long p4), .second, .val (.int p5), .val (.int (1 : Int32)), .unset, .unset, .unset, .unset, .unset, .unset, .unset, .unset, .unset, .unset, .unset, .unset, .unset, .unset, .unset, .unset, .unset, .unset, .unset]) rfl ?_
    refine H.iload s0_6 rfl ?_
    refine H.iconst s0_8 (v := (1 : Int32)) (by decide) ?_
    refine H.iushr s0_9 rfl ?_
    refine H.iconst s0_10 (v := (3 : Int32)) (by decide) ?_
    rcases own_and3 ((p5.toUInt32 >>> ((1 : Int32) &&& 31).toUInt32).toInt32) with hz11 | hz11 | hz11 | hz11
    · refine H.iand s0_11 (w := (0 : Int32)) hz11 ?_
      refine H.istore s0_12 (ls' := #[.val (.int p0), .val (.int p1), .val (.int p2), .val (.long p3), .second, .val (.long p4), .second, .val (.int p5), .val (.int (1 : Int32)), .val oz, .unset, .unset, .unset, .unset, .unset, .unset, .unset, .unset, .unset, .unset, .unset, .unset, .unset, .unset, .unset, .unset, .unset, .unset]) rfl ?_
      refine H.iload s0_14 rfl ?_
      refine H.iconst s0_16 (v := (3 : Int32)) (by decide) ?_
      refine H.iushr s0_17 rfl ?_
      refine H.iconst s0_18 (v := (1 : Int32)) (by decide) ?_
      refine H.iand s0_19 (w := i0) hi0 ?_
      refine H.istore s0_20 (ls' := #[.val (.int p0), .val (.int p1), .val (.int p2), .val (.long p3), .second, .val (.long p4), .second, .val (.int p5), .val (.int (1 : Int32)), .val oz, .val (.int i0), .unset, .unset, .unset, .unset, .unset, .unset, .unset, .unset, .unset, .unset, .unset, .unset, .unset, .unset, .unset, .unset, .unset]) rfl ?_
      refine H.iload s0_22 rfl ?_
      refine H.iconst s0_24 (v := (4 : Int32)) (by decide) ?_
      refine H.iushr s0_25 rfl ?_
      refine H.iconst s0_26 (v := (1 : Int32)) (by decide) ?_
      refine H.iand s0_27 (w := i1) hi1 ?_
      refine H.istore s0_28 (ls' := #[.val (.int p0), .val (.int p1), .val (.int p2), .val (.long p3), .second, .val (.long p4), .second, .val (.int p5), .val (.int (1 : Int32)), .val oz, .val (.int i0), .val (.int i1), .unset, .unset, .unset, .unset, .unset, .unset, .unset, .unset, .unset, .unset, .unset, .unset, .unset, .unset, .unset, .unset]) rfl ?_
      refine H.iload s0_30 rfl ?_
      refine H.iconst s0_32 (v := (5 : Int32)) (by decide) ?_
      refine H.iushr s0_33 rfl ?_
      refine H.iconst s0_34 (v := (1 : Int32)) (by decide) ?_
      refine H.iand s0_35 (w := i2) hi2 ?_
      refine H.istore s0_36 (ls' := #[.val (.int p0), .val (.int p1), .val (.int p2), .val (.long p3), .second, .val (.long p4), .second, .val (.int p5), .val (.int (1 : Int32)), .val oz, .val (.int i0), .val (.int i1), .val (.int i2), .unset, .unset, .unset, .unset, .unset, .unset, .unset, .unset, .unset, .unset, .unset, .unset, .unset, .unset, .unset]) rfl ?_
      refine H.iload s0_38 rfl ?_
      refine H.ifF s0_40 (show (0 : Int32) = (0 : Int32) by decide) ?_
      refine H.iconst s0_43 (v := (0 : Int32)) (by decide) ?_
      refine H.newarray s0_44 (ty := .int) rfl (k_0 hw) (N := 0) (cap := 0) (by decide) rfl (by decide) (by decide) rfl (by decide) (by decide) (i := 0) rfl (A' := [.inr (.int, [])]) rfl (k' := 1) rfl (n' := 0) rfl ?_
      refine H.astore s0_46 rfl (ls' := #[.val (.int p0), .val (.int p1), .val (.int p2), .val (.long p3), .second, .val (.long p4), .second, .val (.int p5), .val (.int (1 : Int32)), .val oz, .val (.int i0), .val (.int i1), .val (.int i2), .val (rf n0 0), .unset, .unset, .unset, .unset, .unset, .unset, .unset, .unset, .unset, .unset, .unset, .unset, .unset, .unset]) rfl ?_
      refine H.goto s0_48 ?_
      refine H.iconst s0_114 (v := (2 : Int32)) (by decide) ?_
      refine H.newarray s0_115 (ty := .int) rfl (k_0 hw) (N := 2) (cap := 2) (by decide) rfl (by decide) (by decide) rfl (by decide) (by decide) (i := 1) rfl (A' := [.inr (.int, []), .inr (.int, [oz, oz])]) rfl (k' := 2) rfl (n' := 2) rfl ?_
      refine H.dup s0_117 rfl ?_
      refine H.iconst s0_118 (v := (0 : Int32)) (by decide) ?_
      refine H.iloadN s0_119 rfl ?_
      refine H.iastore s0_120 (i := 1) (j := 0) rfl (by decide) (ltb rfl)  rfl ?_
      refine H.dup s0_121 rfl ?_
      refine H.iconst s0_122 (v := (1 : Int32)) (by decide) ?_
      refine H.iloadN s0_123 rfl ?_
      refine H.iastore s0_124 (i := 1) (j := 1) rfl (by decide) (ltb rfl)  rfl ?_
      refine H.astore s0_125 rfl (ls' := #[.val (.int p0), .val (.int p1), .val (.int p2), .val (.long p3), .second, .val (.long p4), .second, .val (.int p5), .val (.int (1 : Int32)), .val oz, .val (.int i0), .val (.int i1), .val (.int i2), .val (rf n0 0), .val (rf n0 1), .unset, .unset, .unset, .unset, .unset, .unset, .unset, .unset, .unset, .unset, .unset, .unset, .unset]) rfl ?_
      refine H.iconst s0_127 (v := (2 : Int32)) (by decide) ?_
      refine H.newarray s0_128 (ty := .int) rfl (k_0 hw) (N := 2) (cap := 2) (by decide) rfl (by decide) (by decide) rfl (by decide) (by decide) (i := 2) rfl (A' := [.inr (.int, []), .inr (.int, [(.int p0), (.int p1)]), .inr (.int, [oz, oz])]) rfl (k' := 3) rfl (n' := 4) rfl ?_
      refine H.dup s0_130 rfl ?_
      refine H.iconst s0_131 (v := (0 : Int32)) (by decide) ?_
      refine H.iloadN s0_132 rfl ?_
      refine H.iastore s0_133 (i := 2) (j := 0) rfl (by decide) (ltb rfl)  rfl ?_
      refine H.dup s0_134 rfl ?_
      refine H.iconst s0_135 (v := (1 : Int32)) (by decide) ?_
      refine H.iloadN s0_136 rfl ?_
      refine H.iastore s0_137 (i := 2) (j := 1) rfl (by decide) (ltb rfl)  rfl ?_
      refine H.astore s0_138 rfl (ls' := #[.val (.int p0), .val (.int p1), .val (.int p2), .val (.long p3), .second, .val (.long p4), .second, .val (.int p5), .val (.int (1 : Int32)), .val oz, .val (.int i0), .val (.int i1), .val (.int i2), .val (rf n0 0), .val (rf n0 1), .val (rf n0 2), .unset, .unset, .unset, .unset, .unset, .unset, .unset, .unset, .unset, .unset, .unset, .unset]) rfl ?_
      refine H.iconst s0_140 (v := (2 : Int32)) (by decide) ?_
      refine H.newarray s0_141 (ty := .long) rfl (k_1 hw) (N := 2) (cap := 2) (by decide) rfl (by decide) (by decide) rfl (by decide) (by decide) (i := 3) rfl (A' := [.inr (.int, []), .inr (.int, [(.int p0), (.int p1)]), .inr (.int, [(.int p1), (.int p2)]), .inr (.long, [ol, ol])]) rfl (k' := 4) rfl (n' := 6) rfl ?_
      refine H.dup s0_143 rfl ?_
      refine H.iconst s0_144 (v := (0 : Int32)) (by decide) ?_
      refine H.lloadN s0_145 rfl ?_
      refine H.lastore s0_146 (i := 3) (j := 0) rfl (by decide) (ltb rfl)  rfl ?_
      refine H.dup s0_147 rfl ?_
      refine H.iconst s0_148 (v := (1 : Int32)) (by decide) ?_
      refine H.lload s0_149 rfl ?_
      refine H.lastore s0_151 (i := 3) (j := 1) rfl (by decide) (ltb rfl)  rfl ?_
      refine H.astore s0_152 rfl (ls' := #[.val (.int p0), .val (.int p1), .val (.int p2), .val (.long p3), .second, .val (.long p4), .second, .val (.int p5), .val (.int (1 : Int32)), .val oz, .val (.int i0), .val (.int i1), .val (.int i2), .val (rf n0 0), .val (rf n0 1), .val (rf n0 2), .val (rf n0 3), .unset, .unset, .unset, .unset, .unset, .unset, .unset, .unset, .unset, .unset, .unset]) rfl ?_
      refine H.iconst s0_154 (v := (2 : Int32)) (by decide) ?_
      refine H.newarray s0_155 (ty := .long) rfl (k_1 hw) (N := 2) (cap := 2) (by decide) rfl (by decide) (by decide) rfl (by decide) (by decide) (i := 4) rfl (A' := [.inr (.int, []), .inr (.int, [(.int p0), (.int p1)]), .inr (.int, [(.int p1), (.int p2)]), .inr (.long, [(.long p3), (.long p4)]), .inr (.long, [ol, ol])]) rfl (k' := 5) rfl (n' := 8) rfl ?_
      refine H.dup s0_157 rfl ?_
      refine H.iconst s0_158 (v := (0 : Int32)) (by decide) ?_
      refine H.lload s0_159 rfl ?_
      refine H.lastore s0_161 (i := 4) (j := 0) rfl (by decide) (ltb rfl)  rfl ?_
      refine H.dup s0_162 rfl ?_
      refine H.iconst s0_163 (v := (1 : Int32)) (by decide) ?_
      refine H.lloadN s0_164 rfl ?_
      refine H.lastore s0_165 (i := 4) (j := 1) rfl (by decide) (ltb rfl)  rfl ?_
      refine H.astore s0_166 rfl (ls' := #[.val (.int p0), .val (.int p1), .val (.int p2), .val (.long p3), .second, .val (.long p4), .second, .val (.int p5), .val (.int (1 : Int32)), .val oz, .val (.int i0), .val (.int i1), .val (.int i2), .val (rf n0 0), .val (rf n0 1), .val (rf n0 2), .val (rf n0 3), .val (rf n0 4), .unset, .unset, .unset, .unset, .unset, .unset, .unset, .unset, .unset, .unset]) rfl ?_
      refine H.iconst s0_168 (v := (4 : Int32)) (by decide) ?_
      refine H.newarray s0_169 (ty := .int) rfl (k_0 hw) (N := 4) (cap := 4) (by decide) rfl (by decide) (by decide) rfl (by decide) (by decide) (i := 5) rfl (A' := [.inr (.int, []), .inr (.int, [(.int p0), (.int p1)]), .inr (.int, [(.int p1), (.int p2)]), .inr (.long, [(.long p3), (.long p4)]), .inr (.long, [(.long p4), (.long p3)]), .inr (.int, [oz, oz, oz, oz])]) rfl (k' := 6) rfl (n' := 12) rfl ?_
      refine H.astore s0_171 rfl (ls' := #[.val (.int p0), .val (.int p1), .val (.int p2), .val (.long p3), .second, .val (.long p4), .second, .val (.int p5), .val (.int (1 : Int32)), .val oz, .val (.int i0), .val (.int i1), .val (.int i2), .val (rf n0 0), .val (rf n0 1), .val (rf n0 2), .val (rf n0 3), .val (rf n0 4), .val (rf n0 5), .unset, .unset, .unset, .unset, .unset, .unset, .unset, .unset, .unset]) rfl ?_
      refine H.iconst s0_173 (v := (4 : Int32)) (by decide) ?_
      refine H.newarray s0_174 (ty := .int) rfl (k_0 hw) (N := 4) (cap := 4) (by decide) rfl (by decide) (by decide) rfl (by decide) (by decide) (i := 6) rfl (A' := [.inr (.int, []), .inr (.int, [(.int p0), (.int p1)]), .inr (.int, [(.int p1), (.int p2)]), .inr (.long, [(.long p3), (.long p4)]), .inr (.long, [(.long p4), (.long p3)]), .inr (.int, [oz, oz, oz, oz]), .inr (.int, [oz, oz, oz, oz])]) rfl (k' := 7) rfl (n' := 16) rfl ?_
      refine H.astore s0_176 rfl (ls' := #[.val (.int p0), .val (.int p1), .val (.int p2), .val (.long p3), .second, .val (.long p4), .second, .val (.int p5), .val (.int (1 : Int32)), .val oz, .val (.int i0), .val (.int i1), .val (.int i2), .val (rf n0 0), .val (rf n0 1), .val (rf n0 2), .val (rf n0 3), .val (rf n0 4), .val (rf n0 5), .val (rf n0 6), .unset, .unset, .unset, .unset, .unset, .unset, .unset, .unset]) rfl ?_
      refine H.iconst s0_178 (v := (4 : Int32)) (by decide) ?_
      refine H.newarray s0_179 (ty := .long) rfl (k_1 hw) (N := 4) (cap := 4) (by decide) rfl (by decide) (by decide) rfl (by decide) (by decide) (i := 7) rfl (A' := [.inr (.int, []), .inr (.int, [(.int p0), (.int p1)]), .inr (.int, [(.int p1), (.int p2)]), .inr (.long, [(.long p3), (.long p4)]), .inr (.long, [(.long p4), (.long p3)]), .inr (.int, [oz, oz, oz, oz]), .inr (.int, [oz, oz, oz, oz]), .inr (.long, [ol, ol, ol, ol])]) rfl (k' := 8) rfl (n' := 20) rfl ?_
      refine H.astore s0_181 rfl (ls' := #[.val (.int p0), .val (.int p1), .val (.int p2), .val (.long p3), .second, .val (.long p4), .second, .val (.int p5), .val (.int (1 : Int32)), .val oz, .val (.int i0), .val (.int i1), .val (.int i2), .val (rf n0 0), .val (rf n0 1), .val (rf n0 2), .val (rf n0 3), .val (rf n0 4), .val (rf n0 5), .val (rf n0 6), .val (rf n0 7), .unset, .unset, .unset, .unset, .unset, .unset, .unset]) rfl ?_
      refine H.iconst s0_183 (v := (4 : Int32)) (by decide) ?_
      refine H.newarray s0_184 (ty := .long) rfl (k_1 hw) (N := 4) (cap := 4) (by decide) rfl (by decide) (by decide) rfl (by decide) (by decide) (i := 8) rfl (A' := [.inr (.int, []), .inr (.int, [(.int p0), (.int p1)]), .inr (.int, [(.int p1), (.int p2)]), .inr (.long, [(.long p3), (.long p4)]), .inr (.long, [(.long p4), (.long p3)]), .inr (.int, [oz, oz, oz, oz]), .inr (.int, [oz, oz, oz, oz]), .inr (.long, [ol, ol, ol, ol]), .inr (.long, [ol, ol, ol, ol])]) rfl (k' := 9) rfl (n' := 24) rfl ?_
      refine H.astore s0_186 rfl (ls' := #[.val (.int p0), .val (.int p1), .val (.int p2), .val (.long p3), .second, .val (.long p4), .second, .val (.int p5), .val (.int (1 : Int32)), .val oz, .val (.int i0), .val (.int i1), .val (.int i2), .val (rf n0 0), .val (rf n0 1), .val (rf n0 2), .val (rf n0 3), .val (rf n0 4), .val (rf n0 5), .val (rf n0 6), .val (rf n0 7), .val (rf n0 8), .unset, .unset, .unset, .unset, .unset, .unset]) rfl ?_
      refine H.iload s0_188 rfl ?_
      refine H.iconst s0_190 (v := (1 : Int32)) (by decide) ?_
      refine H.icmpF s0_191 (show (1 : Int32) = (1 : Int32) by decide) ?_
      refine H.aload s0_194 rfl rfl ?_
      refine H.iconst s0_196 (v := (0 : Int32)) (by decide) ?_
      refine H.iloadN s0_197 rfl ?_
      refine H.iastore s0_198 (i := 5) (j := 0) rfl (by decide) (ltb rfl)  rfl ?_
      refine H.aload s0_199 rfl rfl ?_
      refine H.iconst s0_201 (v := (0 : Int32)) (by decide) ?_
      refine H.iloadN s0_202 rfl ?_
      refine H.iastore s0_203 (i := 6) (j := 0) rfl (by decide) (ltb rfl)  rfl ?_
      refine H.aload s0_204 rfl rfl ?_
      refine H.iconst s0_206 (v := (0 : Int32)) (by decide) ?_
      refine H.lloadN s0_207 rfl ?_
      refine H.ldc2 s0_208 (k_28 hw) ?_
      refine H.lxor s0_211 rfl ?_
      refine H.lastore s0_212 (i := 7) (j := 0) rfl (by decide) (ltb rfl)  rfl ?_
      refine H.aload s0_213 rfl rfl ?_
      refine H.iconst s0_215 (v := (0 : Int32)) (by decide) ?_
      refine H.lload s0_216 rfl ?_
      refine H.ldc2 s0_218 (k_28 hw) ?_
      refine H.lxor s0_221 rfl ?_
      refine H.lastore s0_222 (i := 8) (j := 0) rfl (by decide) (ltb rfl)  rfl ?_
      refine H.iload s0_223 rfl ?_
      refine H.iconst s0_225 (v := (1 : Int32)) (by decide) ?_
      refine H.icmpT s0_226 (show (0 : Int32) < (1 : Int32) by decide) ?_
      refine H.iload s0_252 rfl ?_
      refine H.iconst s0_254 (v := (2 : Int32)) (by decide) ?_
      refine H.icmpT s0_255 (show (0 : Int32) < (2 : Int32) by decide) ?_
      refine H.iload s0_283 rfl ?_
      refine H.iconst s0_285 (v := (3 : Int32)) (by decide) ?_
      refine H.icmpT s0_286 (show (0 : Int32) < (3 : Int32) by decide) ?_
      refine H.new s0_314 (k_2 hw) rfl (by decide) (by decide) (i := 9) rfl (A' := [.inr (.int, []), .inr (.int, [(.int p0), (.int p1)]), .inr (.int, [(.int p1), (.int p2)]), .inr (.long, [(.long p3), (.long p4)]), .inr (.long, [(.long p4), (.long p3)]), .inr (.int, [(.int p2), oz, oz, oz]), .inr (.int, [(.int p0), oz, oz, oz]), .inr (.long, [(.long (p3 ^^^ (-1 : Int64))), ol, ol, ol]), .inr (.long, [(.long (p4 ^^^ (-1 : Int64))), ol, ol, ol]), .inl (0, [.null, .null, .null, .null, oz])]) rfl (k' := 10) rfl (n' := 29) rfl ?_
      refine H.dup s0_317 rfl ?_
      refine H.iconst s0_318 (v := (2 : Int32)) (by decide) ?_
      refine H.callCD s0_319 (k_9 hw) (a_62 l hw n0 p0 p1 p2 p3 p4) (argsL := [(.int (2 : Int32))]) (rest := [(rf n0 9)]) rfl rfl rfl rfl (leb rfl) (leb rfl) (leb rfl) (leb rfl) (st' := [(rf n0 9)]) rfl (k' := 14) rfl (n' := 37) rfl ?_
      refine H.astore s0_322 rfl (ls' := #[.val (.int p0), .val (.int p1), .val (.int p2), .val (.long p3), .second, .val (.long p4), .second, .val (.int p5), .val (.int (1 : Int32)), .val oz, .val (.int i0), .val (.int i1), .val (.int i2), .val (rf n0 0), .val (rf n0 1), .val (rf n0 2), .val (rf n0 3), .val (rf n0 4), .val (rf n0 5), .val (rf n0 6), .val (rf n0 7), .val (rf n0 8), .val (rf n0 9), .unset, .unset, .unset, .unset, .unset]) rfl ?_
      refine H.aload s0_324 rfl rfl ?_
      refine H.iloadN s0_326 rfl ?_
      refine H.iloadN s0_327 rfl ?_
      refine H.lloadN s0_328 rfl ?_
      refine H.lload s0_329 rfl ?_
      refine H.callVD s0_331 (k_16 hw) (a_63 l hw n0 p0 p1 p2 p3 p4) (i := 9) rfl (argsL := [(.int p0), (.int p1), (.long p3), (.long p4)]) (rest := []) rfl rfl rfl rfl (leb rfl) (leb rfl) (leb rfl) (leb rfl) (st' := []) rfl (k' := 14) rfl (n' := 37) rfl ?_
      refine H.aload s0_334 rfl rfl ?_
      refine H.iloadN s0_336 rfl ?_
      refine H.iloadN s0_337 rfl ?_
      refine H.lload s0_338 rfl ?_
      refine H.lloadN s0_340 rfl ?_
      refine H.callVD s0_341 (k_16 hw) (a_64 l hw n0 p0 p1 p2 p3 p4) (i := 9) rfl (argsL := [(.int p1), (.int p2), (.long p4), (.long p3)]) (rest := []) rfl rfl rfl rfl (leb rfl) (leb rfl) (leb rfl) (leb rfl) (st' := []) rfl (k' := 14) rfl (n' := 37) rfl ?_
      refine H.new s0_344 (k_2 hw) rfl (by decide) (by decide) (i := 14) rfl (A' := [.inr (.int, []), .inr (.int, [(.int p0), (.int p1)]), .inr (.int, [(.int p1), (.int p2)]), .inr (.long, [(.long p3), (.long p4)]), .inr (.long, [(.long p4), (.long p3)]), .inr (.int, [(.int p2), oz, oz, oz]), .inr (.int, [(.int p0), oz, oz, oz]), .inr (.long, [(.long (p3 ^^^ (-1 : Int64))), ol, ol, ol]), .inr (.long, [(.long (p4 ^^^ (-1 : Int64))), ol, ol, ol]), .inl (0, [(rf n0 10), (rf n0 11), (rf n0 12), (rf n0 13), (.int (2 : Int32))]), .inr (.int, [(.int p0), (.int p1)]), .inr (.int, [(.int p1), (.int p2)]), .inr (.long, [(.long p3), (.long p4)]), .inr (.long, [(.long p4), (.long p3)]), .inl (0, [.null, .null, .null, .null, oz])]) rfl (k' := 15) rfl (n' := 42) rfl ?_
      refine H.dup s0_347 rfl ?_
      refine H.iconst s0_348 (v := (4 : Int32)) (by decide) ?_
      refine H.callCD s0_349 (k_9 hw) (a_65 l hw n0 p0 p1 p2 p3 p4) (argsL := [(.int (4 : Int32))]) (rest := [(rf n0 14)]) rfl rfl rfl rfl (leb rfl) (leb rfl) (leb rfl) (leb rfl) (st' := [(rf n0 14)]) rfl (k' := 19) rfl (n' := 58) rfl ?_
      refine H.astore s0_352 rfl (ls' := #[.val (.int p0), .val (.int p1), .val (.int p2), .val (.long p3), .second, .val (.long p4), .second, .val (.int p5), .val (.int (1 : Int32)), .val oz, .val (.int i0), .val (.int i1), .val (.int i2), .val (rf n0 0), .val (rf n0 1), .val (rf n0 2), .val (rf n0 3), .val (rf n0 4), .val (rf n0 5), .val (rf n0 6), .val (rf n0 7), .val (rf n0 8), .val (rf n0 9), .val (rf n0 14), .unset, .unset, .unset, .unset]) rfl ?_
      refine H.iload s0_354 rfl ?_
      refine H.iconst s0_356 (v := (1 : Int32)) (by decide) ?_
      refine H.icmpF s0_357 (show (1 : Int32) = (1 : Int32) by decide) ?_
      refine H.aload s0_360 rfl rfl ?_
      refine H.iloadN s0_362 rfl ?_
      refine H.iloadN s0_363 rfl ?_
      refine H.lloadN s0_364 rfl ?_
      refine H.ldc2 s0_365 (k_28 hw) ?_
      refine H.lxor s0_368 rfl ?_
      refine H.lload s0_369 rfl ?_
      refine H.ldc2 s0_371 (k_28 hw) ?_
      refine H.lxor s0_374 rfl ?_
      refine H.callVD s0_375 (k_16 hw) (a_66 l hw n0 p0 p1 p2 p3 p4) (i := 14) rfl (argsL := [(.int p2), (.int p0), (.long (p3 ^^^ (-1 : Int64))), (.long (p4 ^^^ (-1 : Int64)))]) (rest := []) rfl rfl rfl rfl (leb rfl) (leb rfl) (leb rfl) (leb rfl) (st' := []) rfl (k' := 19) rfl (n' := 58) rfl ?_
      refine H.aload s0_378 rfl rfl ?_
      refine H.aload s0_380 rfl rfl ?_
      refine H.aload s0_382 rfl rfl ?_
      refine H.callVD s0_384 (k_18 hw) (a_67 l hw n0 p0 p1 p2 p3 p4) (i := 14) rfl (argsL := [(rf n0 9), (rf n0 0)]) (rest := []) rfl rfl rfl rfl (leb rfl) (leb rfl) (leb rfl) (leb rfl) (st' := []) rfl (k' := 19) rfl (n' := 58) rfl ?_
      refine H.aload s0_387 rfl rfl ?_
      refine H.callVD s0_389 (k_19 hw) (a_68 l hw n0 p0 p1 p2 p3 p4) (i := 14) rfl (argsL := []) (rest := []) rfl rfl rfl rfl (leb rfl) (leb rfl) (leb rfl) (leb rfl) (st' := [(.int (1 : Int32))]) rfl (k' := 19) rfl (n' := 58) rfl ?_
      refine H.iload s0_392 rfl ?_
      refine H.iload s0_394 rfl ?_
      refine H.iadd s0_396 (w := (1 : Int32)) (by decide) ?_
      refine H.icmpT s0_397 (show (1 : Int32) = (1 : Int32) by decide) ?_
      refine H.aload s0_402 rfl rfl ?_
      refine H.callVD s0_404 (k_20 hw) (a_69 l hw n0 p0 p1 p2 p3 p4) (i := 14) rfl (argsL := []) (rest := []) rfl rfl rfl rfl (leb rfl) (leb rfl) (leb rfl) (leb rfl) (st' := [(rf n0 15)]) rfl (k' := 19) rfl (n' := 58) rfl ?_
      refine H.astore s0_407 rfl (ls' := #[.val (.int p0), .val (.int p1), .val (.int p2), .val (.long p3), .second, .val (.long p4), .second, .val (.int p5), .val (.int (1 : Int32)), .val oz, .val (.int i0), .val (.int i1), .val (.int i2), .val (rf n0 0), .val (rf n0 1), .val (rf n0 2), .val (rf n0 3), .val (rf n0 4), .val (rf n0 5), .val (rf n0 6), .val (rf n0 7), .val (rf n0 8), .val (rf n0 9), .val (rf n0 14), .val (rf n0 15), .unset, .unset, .unset]) rfl ?_
      refine H.aload s0_409 rfl rfl ?_
      refine H.callVD s0_411 (k_21 hw) (a_70 l hw n0 p0 p1 p2 p3 p4) (i := 14) rfl (argsL := []) (rest := []) rfl rfl rfl rfl (leb rfl) (leb rfl) (leb rfl) (leb rfl) (st' := [(rf n0 16)]) rfl (k' := 19) rfl (n' := 58) rfl ?_
      refine H.astore s0_414 rfl (ls' := #[.val (.int p0), .val (.int p1), .val (.int p2), .val (.long p3), .second, .val (.long p4), .second, .val (.int p5), .val (.int (1 : Int32)), .val oz, .val (.int i0), .val (.int i1), .val (.int i2), .val (rf n0 0), .val (rf n0 1), .val (rf n0 2), .val (rf n0 3), .val (rf n0 4), .val (rf n0 5), .val (rf n0 6), .val (rf n0 7), .val (rf n0 8), .val (rf n0 9), .val (rf n0 14), .val (rf n0 15), .val (rf n0 16), .unset, .unset]) rfl ?_
      refine H.aload s0_416 rfl rfl ?_
      refine H.callVD s0_418 (k_22 hw) (a_71 l hw n0 p0 p1 p2 p3 p4) (i := 14) rfl (argsL := []) (rest := []) rfl rfl rfl rfl (leb rfl) (leb rfl) (leb rfl) (leb rfl) (st' := [(rf n0 17)]) rfl (k' := 19) rfl (n' := 58) rfl ?_
      refine H.astore s0_421 rfl (ls' := #[.val (.int p0), .val (.int p1), .val (.int p2), .val (.long p3), .second, .val (.long p4), .second, .val (.int p5), .val (.int (1 : Int32)), .val oz, .val (.int i0), .val (.int i1), .val (.int i2), .val (rf n0 0), .val (rf n0 1), .val (rf n0 2), .val (rf n0 3), .val (rf n0 4), .val (rf n0 5), .val (rf n0 6), .val (rf n0 7), .val (rf n0 8), .val (rf n0 9), .val (rf n0 14), .val (rf n0 15), .val (rf n0 16), .val (rf n0 17), .unset]) rfl ?_
      refine H.aload s0_423 rfl rfl ?_
      refine H.callVD s0_425 (k_23 hw) (a_72 l hw n0 p0 p1 p2 p3 p4) (i := 14) rfl (argsL := []) (rest := []) rfl rfl rfl rfl (leb rfl) (leb rfl) (leb rfl) (leb rfl) (st' := [(rf n0 18)]) rfl (k' := 19) rfl (n' := 58) rfl ?_
      refine H.astore s0_428 rfl (ls' := #[.val (.int p0), .val (.int p1), .val (.int p2), .val (.long p3), .second, .val (.long p4), .second, .val (.int p5), .val (.int (1 : Int32)), .val oz, .val (.int i0), .val (.int i1), .val (.int i2), .val (rf n0 0), .val (rf n0 1), .val (rf n0 2), .val (rf n0 3), .val (rf n0 4), .val (rf n0 5), .val (rf n0 6), .val (rf n0 7), .val (rf n0 8), .val (rf n0 9), .val (rf n0 14), .val (rf n0 15), .val (rf n0 16), .val (rf n0 17), .val (rf n0 18)]) rfl ?_
      refine H.aload s0_430 rfl rfl ?_
      refine H.aload s0_432 rfl rfl ?_
      refine H.callSD s0_434 (k_25 hw) (a_73 l hw n0 p0 p1 p2 p3 p4) (argsL := [(rf n0 15), (rf n0 5)]) (rest := []) rfl rfl rfl rfl (leb rfl) (leb rfl) (leb rfl) (leb rfl) (st' := [(.int (1 : Int32))]) rfl (k' := 19) rfl (n' := 58) rfl ?_
      refine H.ifF s0_437 (show ¬ (1 : Int32) = (0 : Int32) by decide) ?_
      refine H.aload s0_440 rfl rfl ?_
      refine H.aload s0_442 rfl rfl ?_
      refine H.callSD s0_444 (k_25 hw) (a_74 l hw n0 p0 p1 p2 p3 p4) (argsL := [(rf n0 16), (rf n0 6)]) (rest := []) rfl rfl rfl rfl (leb rfl) (leb rfl) (leb rfl) (leb rfl) (st' := [(.int (1 : Int32))]) rfl (k' := 19) rfl (n' := 58) rfl ?_
      refine H.ifF s0_447 (show ¬ (1 : Int32) = (0 : Int32) by decide) ?_
      refine H.aload s0_450 rfl rfl ?_
      refine H.aload s0_452 rfl rfl ?_
      refine H.callSD s0_454 (k_26 hw) (a_75 l hw n0 p0 p1 p2 p3 p4) (argsL := [(rf n0 17), (rf n0 7)]) (rest := []) rfl rfl rfl rfl (leb rfl) (leb rfl) (leb rfl) (leb rfl) (st' := [(.int (1 : Int32))]) rfl (k' := 19) rfl (n' := 58) rfl ?_
      refine H.ifF s0_457 (show ¬ (1 : Int32) = (0 : Int32) by decide) ?_
      refine H.aload s0_460 rfl rfl ?_
      refine H.aload s0_462 rfl rfl ?_
      refine H.callSD s0_464 (k_26 hw) (a_76 l hw n0 p0 p1 p2 p3 p4) (argsL := [(rf n0 18), (rf n0 8)]) (rest := []) rfl rfl rfl rfl (leb rfl) (leb rfl) (leb rfl) (leb rfl) (st' := [(.int (1 : Int32))]) rfl (k' := 19) rfl (n' := 58) rfl ?_
      refine H.ifF s0_467 (show ¬ (1 : Int32) = (0 : Int32) by decide) ?_
      refine H.iconst s0_470 (v := (1 : Int32)) (by decide) ?_
      refine H.goto s0_471 ?_
      exact H.ireturn s0_475 rfl (by simp) rfl rfl (by decide) (by decide)
    · refine H.iand s0_11 (w := (1 : Int32)) hz11 ?_
      refine H.istore s0_12 (ls' := #[.val (.int p0), .val (.int p1), .val (.int p2), .val (.long p3), .second, .val (.long p4), .second, .val (.int p5), .val (.int (1 : Int32)), .val (.int (1 : Int32)), .unset, .unset, .unset, .unset, .unset, .unset, .unset, .unset, .unset, .unset, .unset, .unset, .unset, .unset, .unset, .unset, .unset, .unset]) rfl ?_
      refine H.iload s0_14 rfl ?_
      refine H.iconst s0_16 (v := (3 : Int32)) (by decide) ?_
      refine H.iushr s0_17 rfl ?_
      refine H.iconst s0_18 (v := (1 : Int32)) (by decide) ?_
      refine H.iand s0_19 (w := i0) hi0 ?_
      refine H.istore s0_20 (ls' := #[.val (.int p0), .val (.int p1), .val (.int p2), .val (.long p3), .second, .val (.long p4), .second, .val (.int p5), .val (.int (1 : Int32)), .val (.int (1 : Int32)), .val (.int i0), .unset, .unset, .unset, .unset, .unset, .unset, .unset, .unset, .unset, .unset, .unset, .unset, .unset, .unset, .unset, .unset, .unset]) rfl ?_
      refine H.iload s0_22 rfl ?_
      refine H.iconst s0_24 (v := (4 : Int32)) (by decide) ?_
      refine H.iushr s0_25 rfl ?_
      refine H.iconst s0_26 (v := (1 : Int32)) (by decide) ?_
      refine H.iand s0_27 (w := i1) hi1 ?_
      refine H.istore s0_28 (ls' := #[.val (.int p0), .val (.int p1), .val (.int p2), .val (.long p3), .second, .val (.long p4), .second, .val (.int p5), .val (.int (1 : Int32)), .val (.int (1 : Int32)), .val (.int i0), .val (.int i1), .unset, .unset, .unset, .unset, .unset, .unset, .unset, .unset, .unset, .unset, .unset, .unset, .unset, .unset, .unset, .unset]) rfl ?_
      refine H.iload s0_30 rfl ?_
      refine H.iconst s0_32 (v := (5 : Int32)) (by decide) ?_
      refine H.iushr s0_33 rfl ?_
      refine H.iconst s0_34 (v := (1 : Int32)) (by decide) ?_
      refine H.iand s0_35 (w := i2) hi2 ?_
      refine H.istore s0_36 (ls' := #[.val (.int p0), .val (.int p1), .val (.int p2), .val (.long p3), .second, .val (.long p4), .second, .val (.int p5), .val (.int (1 : Int32)), .val (.int (1 : Int32)), .val (.int i0), .val (.int i1), .val (.int i2), .unset, .unset, .unset, .unset, .unset, .unset, .unset, .unset, .unset, .unset, .unset, .unset, .unset, .unset, .unset]) rfl ?_
      refine H.iload s0_38 rfl ?_
      refine H.ifT s0_40 (show ¬ (1 : Int32) = (0 : Int32) by decide) ?_
      refine H.iload s0_51 rfl ?_
      refine H.iconst s0_53 (v := (1 : Int32)) (by decide) ?_
      refine H.icmpF s0_54 (show (1 : Int32) = (1 : Int32) by decide) ?_
      refine H.iconst s0_57 (v := (1 : Int32)) (by decide) ?_
      refine H.newarray s0_58 (ty := .int) rfl (k_0 hw) (N := 1) (cap := 1) (by decide) rfl (by decide) (by decide) rfl (by decide) (by decide) (i := 0) rfl (A' := [.inr (.int, [oz])]) rfl (k' := 1) rfl (n' := 1) rfl ?_
      refine H.dup s0_60 rfl ?_
      refine H.iconst s0_61 (v := (0 : Int32)) (by decide) ?_
      refine H.iload s0_62 rfl ?_
      refine H.iastore s0_64 (i := 0) (j := 0) rfl (by decide) (ltb rfl)  rfl ?_
      refine H.astore s0_65 rfl (ls' := #[.val (.int p0), .val (.int p1), .val (.int p2), .val (.long p3), .second, .val (.long p4), .second, .val (.int p5), .val (.int (1 : Int32)), .val (.int (1 : Int32)), .val (.int i0), .val (.int i1), .val (.int i2), .val (rf n0 0), .unset, .unset, .unset, .unset, .unset, .unset, .unset, .unset, .unset, .unset, .unset, .unset, .unset, .unset]) rfl ?_
      refine H.goto s0_67 ?_
      refine H.iconst s0_114 (v := (2 : Int32)) (by decide) ?_
      refine H.newarray s0_115 (ty := .int) rfl (k_0 hw) (N := 2) (cap := 2) (by decide) rfl (by decide) (by decide) rfl (by decide) (by decide) (i := 1) rfl (A' := [.inr (.int, [(.int i0)]), .inr (.int, [oz, oz])]) rfl (k' := 2) rfl (n' := 3) rfl ?_
      refine H.dup s0_117 rfl ?_
      refine H.iconst s0_118 (v := (0 : Int32)) (by decide) ?_
      refine H.iloadN s0_119 rfl ?_
      refine H.iastore s0_120 (i := 1) (j := 0) rfl (by decide) (ltb rfl)  rfl ?_
      refine H.dup s0_121 rfl ?_
      refine H.iconst s0_122 (v := (1 : Int32)) (by decide) ?_
      refine H.iloadN s0_123 rfl ?_
      refine H.iastore s0_124 (i := 1) (j := 1) rfl (by decide) (ltb rfl)  rfl ?_
      refine H.astore s0_125 rfl (ls' := #[.val (.int p0), .val (.int p1), .val (.int p2), .val (.long p3), .second, .val (.long p4), .second, .val (.int p5), .val (.int (1 : Int32)), .val (.int (1 : Int32)), .val (.int i0), .val (.int i1), .val (.int i2), .val (rf n0 0), .val (rf n0 1), .unset, .unset, .unset, .unset, .unset, .unset, .unset, .unset, .unset, .unset, .unset, .unset, .unset]) rfl ?_
      refine H.iconst s0_127 (v := (2 : Int32)) (by decide) ?_
      refine H.newarray s0_128 (ty := .int) rfl (k_0 hw) (N := 2) (cap := 2) (by decide) rfl (by decide) (by decide) rfl (by decide) (by decide) (i := 2) rfl (A' := [.inr (.int, [(.int i0)]), .inr (.int, [(.int p0), (.int p1)]), .inr (.int, [oz, oz])]) rfl (k' := 3) rfl (n' := 5) rfl ?_
      refine H.dup s0_130 rfl ?_
      refine H.iconst s0_131 (v := (0 : Int32)) (by decide) ?_
      refine H.iloadN s0_132 rfl ?_
      refine H.iastore s0_133 (i := 2) (j := 0) rfl (by decide) (ltb rfl)  rfl ?_
      refine H.dup s0_134 rfl ?_
      refine H.iconst s0_135 (v := (1 : Int32)) (by decide) ?_
      refine H.iloadN s0_136 rfl ?_
      refine H.iastore s0_137 (i := 2) (j := 1) rfl (by decide) (ltb rfl)  rfl ?_
      refine H.astore s0_138 rfl (ls' := #[.val (.int p0), .val (.int p1), .val (.int p2), .val (.long p3), .second, .val (.long p4), .second, .val (.int p5), .val (.int (1 : Int32)), .val (.int (1 : Int32)), .val (.int i0), .val (.int i1), .val (.int i2), .val (rf n0 0), .val (rf n0 1), .val (rf n0 2), .unset, .unset, .unset, .unset, .unset, .unset, .unset, .unset, .unset, .unset, .unset, .unset]) rfl ?_
      refine H.iconst s0_140 (v := (2 : Int32)) (by decide) ?_
      refine H.newarray s0_141 (ty := .long) rfl (k_1 hw) (N := 2) (cap := 2) (by decide) rfl (by decide) (by decide) rfl (by decide) (by decide) (i := 3) rfl (A' := [.inr (.int, [(.int i0)]), .inr (.int, [(.int p0), (.int p1)]), .inr (.int, [(.int p1), (.int p2)]), .inr (.long, [ol, ol])]) rfl (k' := 4) rfl (n' := 7) rfl ?_
      refine H.dup s0_143 rfl ?_
      refine H.iconst s0_144 (v := (0 : Int32)) (by decide) ?_
      refine H.lloadN s0_145 rfl ?_
      refine H.lastore s0_146 (i := 3) (j := 0) rfl (by decide) (ltb rfl)  rfl ?_
      refine H.dup s0_147 rfl ?_
      refine H.iconst s0_148 (v := (1 : Int32)) (by decide) ?_
      refine H.lload s0_149 rfl ?_
      refine H.lastore s0_151 (i := 3) (j := 1) rfl (by decide) (ltb rfl)  rfl ?_
      refine H.astore s0_152 rfl (ls' := #[.val (.int p0), .val (.int p1), .val (.int p2), .val (.long p3), .second, .val (.long p4), .second, .val (.int p5), .val (.int (1 : Int32)), .val (.int (1 : Int32)), .val (.int i0), .val (.int i1), .val (.int i2), .val (rf n0 0), .val (rf n0 1), .val (rf n0 2), .val (rf n0 3), .unset, .unset, .unset, .unset, .unset, .unset, .unset, .unset, .unset, .unset, .unset]) rfl ?_
      refine H.iconst s0_154 (v := (2 : Int32)) (by decide) ?_
      refine H.newarray s0_155 (ty := .long) rfl (k_1 hw) (N := 2) (cap := 2) (by decide) rfl (by decide) (by decide) rfl (by decide) (by decide) (i := 4) rfl (A' := [.inr (.int, [(.int i0)]), .inr (.int, [(.int p0), (.int p1)]), .inr (.int, [(.int p1), (.int p2)]), .inr (.long, [(.long p3), (.long p4)]), .inr (.long, [ol, ol])]) rfl (k' := 5) rfl (n' := 9) rfl ?_
      refine H.dup s0_157 rfl ?_
      refine H.iconst s0_158 (v := (0 : Int32)) (by decide) ?_
      refine H.lload s0_159 rfl ?_
      refine H.lastore s0_161 (i := 4) (j := 0) rfl (by decide) (ltb rfl)  rfl ?_
      refine H.dup s0_162 rfl ?_
      refine H.iconst s0_163 (v := (1 : Int32)) (by decide) ?_
      refine H.lloadN s0_164 rfl ?_
      refine H.lastore s0_165 (i := 4) (j := 1) rfl (by decide) (ltb rfl)  rfl ?_
      refine H.astore s0_166 rfl (ls' := #[.val (.int p0), .val (.int p1), .val (.int p2), .val (.long p3), .second, .val (.long p4), .second, .val (.int p5), .val (.int (1 : Int32)), .val (.int (1 : Int32)), .val (.int i0), .val (.int i1), .val (.int i2), .val (rf n0 0), .val (rf n0 1), .val (rf n0 2), .val (rf n0 3), .val (rf n0 4), .unset, .unset, .unset, .unset, .unset, .unset, .unset, .unset, .unset, .unset]) rfl ?_
      refine H.iconst s0_168 (v := (4 : Int32)) (by decide) ?_
      refine H.newarray s0_169 (ty := .int) rfl (k_0 hw) (N := 4) (cap := 4) (by decide) rfl (by decide) (by decide) rfl (by decide) (by decide) (i := 5) rfl (A' := [.inr (.int, [(.int i0)]), .inr (.int, [(.int p0), (.int p1)]), .inr (.int, [(.int p1), (.int p2)]), .inr (.long, [(.long p3), (.long p4)]), .inr (.long, [(.long p4), (.long p3)]), .inr (.int, [oz, oz, oz, oz])]) rfl (k' := 6) rfl (n' := 13) rfl ?_
      refine H.astore s0_171 rfl (ls' := #[.val (.int p0), .val (.int p1), .val (.int p2), .val (.long p3), .second, .val (.long p4), .second, .val (.int p5), .val (.int (1 : Int32)), .val (.int (1 : Int32)), .val (.int i0), .val (.int i1), .val (.int i2), .val (rf n0 0), .val (rf n0 1), .val (rf n0 2), .val (rf n0 3), .val (rf n0 4), .val (rf n0 5), .unset, .unset, .unset, .unset, .unset, .unset, .unset, .unset, .unset]) rfl ?_
      refine H.iconst s0_173 (v := (4 : Int32)) (by decide) ?_
      refine H.newarray s0_174 (ty := .int) rfl (k_0 hw) (N := 4) (cap := 4) (by decide) rfl (by decide) (by decide) rfl (by decide) (by decide) (i := 6) rfl (A' := [.inr (.int, [(.int i0)]), .inr (.int, [(.int p0), (.int p1)]), .inr (.int, [(.int p1), (.int p2)]), .inr (.long, [(.long p3), (.long p4)]), .inr (.long, [(.long p4), (.long p3)]), .inr (.int, [oz, oz, oz, oz]), .inr (.int, [oz, oz, oz, oz])]) rfl (k' := 7) rfl (n' := 17) rfl ?_
      refine H.astore s0_176 rfl (ls' := #[.val (.int p0), .val (.int p1), .val (.int p2), .val (.long p3), .second, .val (.long p4), .second, .val (.int p5), .val (.int (1 : Int32)), .val (.int (1 : Int32)), .val (.int i0), .val (.int i1), .val (.int i2), .val (rf n0 0), .val (rf n0 1), .val (rf n0 2), .val (rf n0 3), .val (rf n0 4), .val (rf n0 5), .val (rf n0 6), .unset, .unset, .unset, .unset, .unset, .unset, .unset, .unset]) rfl ?_
      refine H.iconst s0_178 (v := (4 : Int32)) (by decide) ?_
      refine H.newarray s0_179 (ty := .long) rfl (k_1 hw) (N := 4) (cap := 4) (by decide) rfl (by decide) (by decide) rfl (by decide) (by decide) (i := 7) rfl (A' := [.inr (.int, [(.int i0)]), .inr (.int, [(.int p0), (.int p1)]), .inr (.int, [(.int p1), (.int p2)]), .inr (.long, [(.long p3), (.long p4)]), .inr (.long, [(.long p4), (.long p3)]), .inr (.int, [oz, oz, oz, oz]), .inr (.int, [oz, oz, oz, oz]), .inr (.long, [ol, ol, ol, ol])]) rfl (k' := 8) rfl (n' := 21) rfl ?_
      refine H.astore s0_181 rfl (ls' := #[.val (.int p0), .val (.int p1), .val (.int p2), .val (.long p3), .second, .val (.long p4), .second, .val (.int p5), .val (.int (1 : Int32)), .val (.int (1 : Int32)), .val (.int i0), .val (.int i1), .val (.int i2), .val (rf n0 0), .val (rf n0 1), .val (rf n0 2), .val (rf n0 3), .val (rf n0 4), .val (rf n0 5), .val (rf n0 6), .val (rf n0 7), .unset, .unset, .unset, .unset, .unset, .unset, .unset]) rfl ?_
      refine H.iconst s0_183 (v := (4 : Int32)) (by decide) ?_
      refine H.newarray s0_184 (ty := .long) rfl (k_1 hw) (N := 4) (cap := 4) (by decide) rfl (by decide) (by decide) rfl (by decide) (by decide) (i := 8) rfl (A' := [.inr (.int, [(.int i0)]), .inr (.int, [(.int p0), (.int p1)]), .inr (.int, [(.int p1), (.int p2)]), .inr (.long, [(.long p3), (.long p4)]), .inr (.long, [(.long p4), (.long p3)]), .inr (.int, [oz, oz, oz, oz]), .inr (.int, [oz, oz, oz, oz]), .inr (.long, [ol, ol, ol, ol]), .inr (.long, [ol, ol, ol, ol])]) rfl (k' := 9) rfl (n' := 25) rfl ?_
      refine H.astore s0_186 rfl (ls' := #[.val (.int p0), .val (.int p1), .val (.int p2), .val (.long p3), .second, .val (.long p4), .second, .val (.int p5), .val (.int (1 : Int32)), .val (.int (1 : Int32)), .val (.int i0), .val (.int i1), .val (.int i2), .val (rf n0 0), .val (rf n0 1), .val (rf n0 2), .val (rf n0 3), .val (rf n0 4), .val (rf n0 5), .val (rf n0 6), .val (rf n0 7), .val (rf n0 8), .unset, .unset, .unset, .unset, .unset, .unset]) rfl ?_
      refine H.iload s0_188 rfl ?_
      refine H.iconst s0_190 (v := (1 : Int32)) (by decide) ?_
      refine H.icmpF s0_191 (show (1 : Int32) = (1 : Int32) by decide) ?_
      refine H.aload s0_194 rfl rfl ?_
      refine H.iconst s0_196 (v := (0 : Int32)) (by decide) ?_
      refine H.iloadN s0_197 rfl ?_
      refine H.iastore s0_198 (i := 5) (j := 0) rfl (by decide) (ltb rfl)  rfl ?_
      refine H.aload s0_199 rfl rfl ?_
      refine H.iconst s0_201 (v := (0 : Int32)) (by decide) ?_
      refine H.iloadN s0_202 rfl ?_
      refine H.iastore s0_203 (i := 6) (j := 0) rfl (by decide) (ltb rfl)  rfl ?_
      refine H.aload s0_204 rfl rfl ?_
      refine H.iconst s0_206 (v := (0 : Int32)) (by decide) ?_
      refine H.lloadN s0_207 rfl ?_
      refine H.ldc2 s0_208 (k_28 hw) ?_
      refine H.lxor s0_211 rfl ?_
      refine H.lastore s0_212 (i := 7) (j := 0) rfl (by decide) (ltb rfl)  rfl ?_
      refine H.aload s0_213 rfl rfl ?_
      refine H.iconst s0_215 (v := (0 : Int32)) (by decide) ?_
      refine H.lload s0_216 rfl ?_
      refine H.ldc2 s0_218 (k_28 hw) ?_
      refine H.lxor s0_221 rfl ?_
      refine H.lastore s0_222 (i := 8) (j := 0) rfl (by decide) (ltb rfl)  rfl ?_
      refine H.iload s0_223 rfl ?_
      refine H.iconst s0_225 (v := (1 : Int32)) (by decide) ?_
      refine H.icmpF s0_226 (show ¬ (1 : Int32) < (1 : Int32) by decide) ?_
      refine H.aload s0_229 rfl rfl ?_
      refine H.aload s0_231 rfl rfl ?_
      refine H.aload s0_233 rfl rfl ?_
      refine H.aload s0_235 rfl rfl ?_
      refine H.iload s0_237 rfl ?_
      refine H.iload s0_239 rfl ?_
      refine H.aload s0_241 rfl rfl ?_
      refine H.aload s0_243 rfl rfl ?_
      refine H.aload s0_245 rfl rfl ?_
      refine H.aload s0_247 rfl rfl ?_
      refine H.callSD s0_249 (k_27 hw) (a_77 l hw n0 p0 p1 p2 p3 p4 i0 hI0 lI0) (argsL := [(rf n0 5), (rf n0 6), (rf n0 7), (rf n0 8), (.int (1 : Int32)), (.int i0), (rf n0 1), (rf n0 2), (rf n0 3), (rf n0 4)]) (rest := []) rfl rfl rfl rfl (leb rfl) (leb rfl) (leb rfl) (leb rfl) (st' := []) rfl (k' := 9) rfl (n' := 25) rfl ?_
      refine H.iload s0_252 rfl ?_
      refine H.iconst s0_254 (v := (2 : Int32)) (by decide) ?_
      refine H.icmpT s0_255 (show (1 : Int32) < (2 : Int32) by decide) ?_
      refine H.iload s0_283 rfl ?_
      refine H.iconst s0_285 (v := (3 : Int32)) (by decide) ?_
      refine H.icmpT s0_286 (show (1 : Int32) < (3 : Int32) by decide) ?_
      refine H.new s0_314 (k_2 hw) rfl (by decide) (by decide) (i := 9) rfl (A' := [.inr (.int, [(.int i0)]), .inr (.int, [(.int p0), (.int p1)]), .inr (.int, [(.int p1), (.int p2)]), .inr (.long, [(.long p3), (.long p4)]), .inr (.long, [(.long p4), (.long p3)]), .inr (.int, [(.int p2), (.int (own_selI I0 p0 p1)), oz, oz]), .inr (.int, [(.int p0), (.int (own_selI I0 p1 p2)), oz, oz]), .inr (.long, [(.long (p3 ^^^ (-1 : Int64))), (.long (own_selJ I0 p3 p4)), ol, ol]), .inr (.long, [(.long (p4 ^^^ (-1 : Int64))), (.long (own_selJ I0 p4 p3)), ol, ol]), .inl (0, [.null, .null, .null, .null, oz])]) rfl (k' := 10) rfl (n' := 30) rfl ?_
      refine H.dup s0_317 rfl ?_
      refine H.iconst s0_318 (v := (2 : Int32)) (by decide) ?_
      refine H.callCD s0_319 (k_9 hw) (a_78 l hw n0 p0 p1 p2 p3 p4 i0 I0) (argsL := [(.int (2 : Int32))]) (rest := [(rf n0 9)]) rfl rfl rfl rfl (leb rfl) (leb rfl) (leb rfl) (leb rfl) (st' := [(rf n0 9)]) rfl (k' := 14) rfl (n' := 38) rfl ?_
      refine H.astore s0_322 rfl (ls' := #[.val (.int p0), .val (.int p1), .val (.int p2), .val (.long p3), .second, .val (.long p4), .second, .val (.int p5), .val (.int (1 : Int32)), .val (.int (1 : Int32)), .val (.int i0), .val (.int i1), .val (.int i2), .val (rf n0 0), .val (rf n0 1), .val (rf n0 2), .val (rf n0 3), .val (rf n0 4), .val (rf n0 5), .val (rf n0 6), .val (rf n0 7), .val (rf n0 8), .val (rf n0 9), .unset, .unset, .unset, .unset, .unset]) rfl ?_
      refine H.aload s0_324 rfl rfl ?_
      refine H.iloadN s0_326 rfl ?_
      refine H.iloadN s0_327 rfl ?_
      refine H.lloadN s0_328 rfl ?_
      refine H.lload s0_329 rfl ?_
      refine H.callVD s0_331 (k_16 hw) (a_79 l hw n0 p0 p1 p2 p3 p4 i0 I0) (i := 9) rfl (argsL := [(.int p0), (.int p1), (.long p3), (.long p4)]) (rest := []) rfl rfl rfl rfl (leb rfl) (leb rfl) (leb rfl) (leb rfl) (st' := []) rfl (k' := 14) rfl (n' := 38) rfl ?_
      refine H.aload s0_334 rfl rfl ?_
      refine H.iloadN s0_336 rfl ?_
      refine H.iloadN s0_337 rfl ?_
      refine H.lload s0_338 rfl ?_
      refine H.lloadN s0_340 rfl ?_
      refine H.callVD s0_341 (k_16 hw) (a_80 l hw n0 p0 p1 p2 p3 p4 i0 I0) (i := 9) rfl (argsL := [(.int p1), (.int p2), (.long p4), (.long p3)]) (rest := []) rfl rfl rfl rfl (leb rfl) (leb rfl) (leb rfl) (leb rfl) (st' := []) rfl (k' := 14) rfl (n' := 38) rfl ?_
      refine H.new s0_344 (k_2 hw) rfl (by decide) (by decide) (i := 14) rfl (A' := [.inr (.int, [(.int i0)]), .inr (.int, [(.int p0), (.int p1)]), .inr (.int, [(.int p1), (.int p2)]), .inr (.long, [(.long p3), (.long p4)]), .inr (.long, [(.long p4), (.long p3)]), .inr (.int, [(.int p2), (.int (own_selI I0 p0 p1)), oz, oz]), .inr (.int, [(.int p0), (.int (own_selI I0 p1 p2)), oz, oz]), .inr (.long, [(.long (p3 ^^^ (-1 : Int64))), (.long (own_selJ I0 p3 p4)), ol, ol]), .inr (.long, [(.long (p4 ^^^ (-1 : Int64))), (.long (own_selJ I0 p4 p3)), ol, ol]), .inl (0, [(rf n0 10), (rf n0 11), (rf n0 12), (rf n0 13), (.int (2 : Int32))]), .inr (.int, [(.int p0), (.int p1)]), .inr (.int, [(.int p1), (.int p2)]), .inr (.long, [(.long p3), (.long p4)]), .inr (.long, [(.long p4), (.long p3)]), .inl (0, [.null, .null, .null, .null, oz])]) rfl (k' := 15) rfl (n' := 43) rfl ?_
      refine H.dup s0_347 rfl ?_
      refine H.iconst s0_348 (v := (4 : Int32)) (by decide) ?_
      refine H.callCD s0_349 (k_9 hw) (a_81 l hw n0 p0 p1 p2 p3 p4 i0 I0) (argsL := [(.int (4 : Int32))]) (rest := [(rf n0 14)]) rfl rfl rfl rfl (leb rfl) (leb rfl) (leb rfl) (leb rfl) (st' := [(rf n0 14)]) rfl (k' := 19) rfl (n' := 59) rfl ?_
      refine H.astore s0_352 rfl (ls' := #[.val (.int p0), .val (.int p1), .val (.int p2), .val (.long p3), .second, .val (.long p4), .second, .val (.int p5), .val (.int (1 : Int32)), .val (.int (1 : Int32)), .val (.int i0), .val (.int i1), .val (.int i2), .val (rf n0 0), .val (rf n0 1), .val (rf n0 2), .val (rf n0 3), .val (rf n0 4), .val (rf n0 5), .val (rf n0 6), .val (rf n0 7), .val (rf n0 8), .val (rf n0 9), .val (rf n0 14), .unset, .unset, .unset, .unset]) rfl ?_
      refine H.iload s0_354 rfl ?_
      refine H.iconst s0_356 (v := (1 : Int32)) (by decide) ?_
      refine H.icmpF s0_357 (show (1 : Int32) = (1 : Int32) by decide) ?_
      refine H.aload s0_360 rfl rfl ?_
      refine H.iloadN s0_362 rfl ?_
      refine H.iloadN s0_363 rfl ?_
      refine H.lloadN s0_364 rfl ?_
      refine H.ldc2 s0_365 (k_28 hw) ?_
      refine H.lxor s0_368 rfl ?_
      refine H.lload s0_369 rfl ?_
      refine H.ldc2 s0_371 (k_28 hw) ?_
      refine H.lxor s0_374 rfl ?_
      refine H.callVD s0_375 (k_16 hw) (a_82 l hw n0 p0 p1 p2 p3 p4 i0 I0) (i := 14) rfl (argsL := [(.int p2), (.int p0), (.long (p3 ^^^ (-1 : Int64))), (.long (p4 ^^^ (-1 : Int64)))]) (rest := []) rfl rfl rfl rfl (leb rfl) (leb rfl) (leb rfl) (leb rfl) (st' := []) rfl (k' := 19) rfl (n' := 59) rfl ?_
      refine H.aload s0_378 rfl rfl ?_
      refine H.aload s0_380 rfl rfl ?_
      refine H.aload s0_382 rfl rfl ?_
      refine H.callVD s0_384 (k_18 hw) (a_83 l hw n0 p0 p1 p2 p3 p4 i0 I0 hI0 lI0) (i := 14) rfl (argsL := [(rf n0 9), (rf n0 0)]) (rest := []) rfl rfl rfl rfl (leb rfl) (leb rfl) (leb rfl) (leb rfl) (st' := []) rfl (k' := 19) rfl (n' := 59) rfl ?_
      refine H.aload s0_387 rfl rfl ?_
      refine H.callVD s0_389 (k_19 hw) (a_84 l hw n0 p0 p1 p2 p3 p4 i0 I0) (i := 14) rfl (argsL := []) (rest := []) rfl rfl rfl rfl (leb rfl) (leb rfl) (leb rfl) (leb rfl) (st' := [(.int (2 : Int32))]) rfl (k' := 19) rfl (n' := 59) rfl ?_
      refine H.iload s0_392 rfl ?_
      refine H.iload s0_394 rfl ?_
      refine H.iadd s0_396 (w := (2 : Int32)) (by decide) ?_
      refine H.icmpT s0_397 (show (2 : Int32) = (2 : Int32) by decide) ?_
      refine H.aload s0_402 rfl rfl ?_
      refine H.callVD s0_404 (k_20 hw) (a_85 l hw n0 p0 p1 p2 p3 p4 i0 I0) (i := 14) rfl (argsL := []) (rest := []) rfl rfl rfl rfl (leb rfl) (leb rfl) (leb rfl) (leb rfl) (st' := [(rf n0 15)]) rfl (k' := 19) rfl (n' := 59) rfl ?_
      refine H.astore s0_407 rfl (ls' := #[.val (.int p0), .val (.int p1), .val (.int p2), .val (.long p3), .second, .val (.long p4), .second, .val (.int p5), .val (.int (1 : Int32)), .val (.int (1 : Int32)), .val (.int i0), .val (.int i1), .val (.int i2), .val (rf n0 0), .val (rf n0 1), .val (rf n0 2), .val (rf n0 3), .val (rf n0 4), .val (rf n0 5), .val (rf n0 6), .val (rf n0 7), .val (rf n0 8), .val (rf n0 9), .val (rf n0 14), .val (rf n0 15), .unset, .unset, .unset]) rfl ?_
      refine H.aload s0_409 rfl rfl ?_
      refine H.callVD s0_411 (k_21 hw) (a_86 l hw n0 p0 p1 p2 p3 p4 i0 I0) (i := 14) rfl (argsL := []) (rest := []) rfl rfl rfl rfl (leb rfl) (leb rfl) (leb rfl) (leb rfl) (st' := [(rf n0 16)]) rfl (k' := 19) rfl (n' := 59) rfl ?_
      refine H.astore s0_414 rfl (ls' := #[.val (.int p0), .val (.int p1), .val (.int p2), .val (.long p3), .second, .val (.long p4), .second, .val (.int p5), .val (.int (1 : Int32)), .val (.int (1 : Int32)), .val (.int i0), .val (.int i1), .val (.int i2), .val (rf n0 0), .val (rf n0 1), .val (rf n0 2), .val (rf n0 3), .val (rf n0 4), .val (rf n0 5), .val (rf n0 6), .val (rf n0 7), .val (rf n0 8), .val (rf n0 9), .val (rf n0 14), .val (rf n0 15), .val (rf n0 16), .unset, .unset]) rfl ?_
      refine H.aload s0_416 rfl rfl ?_
      refine H.callVD s0_418 (k_22 hw) (a_87 l hw n0 p0 p1 p2 p3 p4 i0 I0) (i := 14) rfl (argsL := []) (rest := []) rfl rfl rfl rfl (leb rfl) (leb rfl) (leb rfl) (leb rfl) (st' := [(rf n0 17)]) rfl (k' := 19) rfl (n' := 59) rfl ?_
      refine H.astore s0_421 rfl (ls' := #[.val (.int p0), .val (.int p1), .val (.int p2), .val (.long p3), .second, .val (.long p4), .second, .val (.int p5), .val (.int (1 : Int32)), .val (.int (1 : Int32)), .val (.int i0), .val (.int i1), .val (.int i2), .val (rf n0 0), .val (rf n0 1), .val (rf n0 2), .val (rf n0 3), .val (rf n0 4), .val (rf n0 5), .val (rf n0 6), .val (rf n0 7), .val (rf n0 8), .val (rf n0 9), .val (rf n0 14), .val (rf n0 15), .val (rf n0 16), .val (rf n0 17), .unset]) rfl ?_
      refine H.aload s0_423 rfl rfl ?_
      refine H.callVD s0_425 (k_23 hw) (a_88 l hw n0 p0 p1 p2 p3 p4 i0 I0) (i := 14) rfl (argsL := []) (rest := []) rfl rfl rfl rfl (leb rfl) (leb rfl) (leb rfl) (leb rfl) (st' := [(rf n0 18)]) rfl (k' := 19) rfl (n' := 59) rfl ?_
      refine H.astore s0_428 rfl (ls' := #[.val (.int p0), .val (.int p1), .val (.int p2), .val (.long p3), .second, .val (.long p4), .second, .val (.int p5), .val (.int (1 : Int32)), .val (.int (1 : Int32)), .val (.int i0), .val (.int i1), .val (.int i2), .val (rf n0 0), .val (rf n0 1), .val (rf n0 2), .val (rf n0 3), .val (rf n0 4), .val (rf n0 5), .val (rf n0 6), .val (rf n0 7), .val (rf n0 8), .val (rf n0 9), .val (rf n0 14), .val (rf n0 15), .val (rf n0 16), .val (rf n0 17), .val (rf n0 18)]) rfl ?_
      refine H.aload s0_430 rfl rfl ?_
      refine H.aload s0_432 rfl rfl ?_
      refine H.callSD s0_434 (k_25 hw) (a_89 l hw n0 p0 p1 p2 p3 p4 i0 I0) (argsL := [(rf n0 15), (rf n0 5)]) (rest := []) rfl rfl rfl rfl (leb rfl) (leb rfl) (leb rfl) (leb rfl) (st' := [(.int (1 : Int32))]) rfl (k' := 19) rfl (n' := 59) rfl ?_
      refine H.ifF s0_437 (show ¬ (1 : Int32) = (0 : Int32) by decide) ?_
      refine H.aload s0_440 rfl rfl ?_
      refine H.aload s0_442 rfl rfl ?_
      refine H.callSD s0_444 (k_25 hw) (a_90 l hw n0 p0 p1 p2 p3 p4 i0 I0) (argsL := [(rf n0 16), (rf n0 6)]) (rest := []) rfl rfl rfl rfl (leb rfl) (leb rfl) (leb rfl) (leb rfl) (st' := [(.int (1 : Int32))]) rfl (k' := 19) rfl (n' := 59) rfl ?_
      refine H.ifF s0_447 (show ¬ (1 : Int32) = (0 : Int32) by decide) ?_
      refine H.aload s0_450 rfl rfl ?_
      refine H.aload s0_452 rfl rfl ?_
      refine H.callSD s0_454 (k_26 hw) (a_91 l hw n0 p0 p1 p2 p3 p4 i0 I0) (argsL := [(rf n0 17), (rf n0 7)]) (rest := []) rfl rfl rfl rfl (leb rfl) (leb rfl) (leb rfl) (leb rfl) (st' := [(.int (1 : Int32))]) rfl (k' := 19) rfl (n' := 59) rfl ?_
      refine H.ifF s0_457 (show ¬ (1 : Int32) = (0 : Int32) by decide) ?_
      refine H.aload s0_460 rfl rfl ?_
      refine H.aload s0_462 rfl rfl ?_
      refine H.callSD s0_464 (k_26 hw) (a_92 l hw n0 p0 p1 p2 p3 p4 i0 I0) (argsL := [(rf n0 18), (rf n0 8)]) (rest := []) rfl rfl rfl rfl (leb rfl) (leb rfl) (leb rfl) (leb rfl) (st' := [(.int (1 : Int32))]) rfl (k' := 19) rfl (n' := 59) rfl ?_
      refine H.ifF s0_467 (show ¬ (1 : Int32) = (0 : Int32) by decide) ?_
      refine H.iconst s0_470 (v := (1 : Int32)) (by decide) ?_
      refine H.goto s0_471 ?_
      exact H.ireturn s0_475 rfl (by simp) rfl rfl (by decide) (by decide)
    · refine H.iand s0_11 (w := (2 : Int32)) hz11 ?_
      refine H.istore s0_12 (ls' := #[.val (.int p0), .val (.int p1), .val (.int p2), .val (.long p3), .second, .val (.long p4), .second, .val (.int p5), .val (.int (1 : Int32)), .val (.int (2 : Int32)), .unset, .unset, .unset, .unset, .unset, .unset, .unset, .unset, .unset, .unset, .unset, .unset, .unset, .unset, .unset, .unset, .unset, .unset]) rfl ?_
      refine H.iload s0_14 rfl ?_
      refine H.iconst s0_16 (v := (3 : Int32)) (by decide) ?_
      refine H.iushr s0_17 rfl ?_
      refine H.iconst s0_18 (v := (1 : Int32)) (by decide) ?_
      refine H.iand s0_19 (w := i0) hi0 ?_
      refine H.istore s0_20 (ls' := #[.val (.int p0), .val (.int p1), .val (.int p2), .val (.long p3), .second, .val (.long p4), .second, .val (.int p5), .val (.int (1 : Int32)), .val (.int (2 : Int32)), .val (.int i0), .unset, .unset, .unset, .unset, .unset, .unset, .unset, .unset, .unset, .unset, .unset, .unset, .unset, .unset, .unset, .unset, .unset]) rfl ?_
      refine H.iload s0_22 rfl ?_
      refine H.iconst s0_24 (v := (4 : Int32)) (by decide) ?_
      refine H.iushr s0_25 rfl ?_
      refine H.iconst s0_26 (v := (1 : Int32)) (by decide) ?_
      refine H.iand s0_27 (w := i1) hi1 ?_
      refine H.istore s0_28 (ls' := #[.val (.int p0), .val (.int p1), .val (.int p2), .val (.long p3), .second, .val (.long p4), .second, .val (.int p5), .val (.int (1 : Int32)), .val (.int (2 : Int32)), .val (.int i0), .val (.int i1), .unset, .unset, .unset, .unset, .unset, .unset, .unset, .unset, .unset, .unset, .unset, .unset, .unset, .unset, .unset, .unset]) rfl ?_
      refine H.iload s0_30 rfl ?_
      refine H.iconst s0_32 (v := (5 : Int32)) (by decide) ?_
      refine H.iushr s0_33 rfl ?_
      refine H.iconst s0_34 (v := (1 : Int32)) (by decide) ?_
      refine H.iand s0_35 (w := i2) hi2 ?_
      refine H.istore s0_36 (ls' := #[.val (.int p0), .val (.int p1), .val (.int p2), .val (.long p3), .second, .val (.long p4), .second, .val (.int p5), .val (.int (1 : Int32)), .val (.int (2 : Int32)), .val (.int i0), .val (.int i1), .val (.int i2), .unset, .unset, .unset, .unset, .unset, .unset, .unset, .unset, .unset, .unset, .unset, .unset, .unset, .unset, .unset]) rfl ?_
      refine H.iload s0_38 rfl ?_
      refine H.ifT s0_40 (show ¬ (2 : Int32) = (0 : Int32) by decide) ?_
      refine H.iload s0_51 rfl ?_
      refine H.iconst s0_53 (v := (1 : Int32)) (by decide) ?_
      refine H.icmpT s0_54 (show ¬ (2 : Int32) = (1 : Int32) by decide) ?_
      refine H.iload s0_70 rfl ?_
      refine H.iconst s0_72 (v := (2 : Int32)) (by decide) ?_
      refine H.icmpF s0_73 (show (2 : Int32) = (2 : Int32) by decide) ?_
      refine H.iconst s0_76 (v := (2 : Int32)) (by decide) ?_
      refine H.newarray s0_77 (ty := .int) rfl (k_0 hw) (N := 2) (cap := 2) (by decide) rfl (by decide) (by decide) rfl (by decide) (by decide) (i := 0) rfl (A' := [.inr (.int, [oz, oz])]) rfl (k' := 1) rfl (n' := 2) rfl ?_
      refine H.dup s0_79 rfl ?_
      refine H.iconst s0_80 (v := (0 : Int32)) (by decide) ?_
      refine H.iload s0_81 rfl ?_
      refine H.iastore s0_83 (i := 0) (j := 0) rfl (by decide) (ltb rfl)  rfl ?_
      refine H.dup s0_84 rfl ?_
      refine H.iconst s0_85 (v := (1 : Int32)) (by decide) ?_
      refine H.iload s0_86 rfl ?_
      refine H.iastore s0_88 (i := 0) (j := 1) rfl (by decide) (ltb rfl)  rfl ?_
      refine H.astore s0_89 rfl (ls' := #[.val (.int p0), .val (.int p1), .val (.int p2), .val (.long p3), .second, .val (.long p4), .second, .val (.int p5), .val (.int (1 : Int32)), .val (.int (2 : Int32)), .val (.int i0), .val (.int i1), .val (.int i2), .val (rf n0 0), .unset, .unset, .unset, .unset, .unset, .unset, .unset, .unset, .unset, .unset, .unset, .unset, .unset, .unset]) rfl ?_
      refine H.goto s0_91 ?_
      refine H.iconst s0_114 (v := (2 : Int32)) (by decide) ?_
      refine H.newarray s0_115 (ty := .int) rfl (k_0 hw) (N := 2) (cap := 2) (by decide) rfl (by decide) (by decide) rfl (by decide) (by decide) (i := 1) rfl (A' := [.inr (.int, [(.int i0), (.int i1)]), .inr (.int, [oz, oz])]) rfl (k' := 2) rfl (n' := 4) rfl ?_
      refine H.dup s0_117 rfl ?_
      refine H.iconst s0_118 (v := (0 : Int32)) (by decide) ?_
      refine H.iloadN s0_119 rfl ?_
      refine H.iastore s0_120 (i := 1) (j := 0) rfl (by decide) (ltb rfl)  rfl ?_
      refine H.dup s0_121 rfl ?_
      refine H.iconst s0_122 (v := (1 : Int32)) (by decide) ?_
      refine H.iloadN s0_123 rfl ?_
      refine H.iastore s0_124 (i := 1) (j := 1) rfl (by decide) (ltb rfl)  rfl ?_
      refine H.astore s0_125 rfl (ls' := #[.val (.int p0), .val (.int p1), .val (.int p2), .val (.long p3), .second, .val (.long p4), .second, .val (.int p5), .val (.int (1 : Int32)), .val (.int (2 : Int32)), .val (.int i0), .val (.int i1), .val (.int i2), .val (rf n0 0), .val (rf n0 1), .unset, .unset, .unset, .unset, .unset, .unset, .unset, .unset, .unset, .unset, .unset, .unset, .unset]) rfl ?_
      refine H.iconst s0_127 (v := (2 : Int32)) (by decide) ?_
      refine H.newarray s0_128 (ty := .int) rfl (k_0 hw) (N := 2) (cap := 2) (by decide) rfl (by decide) (by decide) rfl (by decide) (by decide) (i := 2) rfl (A' := [.inr (.int, [(.int i0), (.int i1)]), .inr (.int, [(.int p0), (.int p1)]), .inr (.int, [oz, oz])]) rfl (k' := 3) rfl (n' := 6) rfl ?_
      refine H.dup s0_130 rfl ?_
      refine H.iconst s0_131 (v := (0 : Int32)) (by decide) ?_
      refine H.iloadN s0_132 rfl ?_
      refine H.iastore s0_133 (i := 2) (j := 0) rfl (by decide) (ltb rfl)  rfl ?_
      refine H.dup s0_134 rfl ?_
      refine H.iconst s0_135 (v := (1 : Int32)) (by decide) ?_
      refine H.iloadN s0_136 rfl ?_
      refine H.iastore s0_137 (i := 2) (j := 1) rfl (by decide) (ltb rfl)  rfl ?_
      refine H.astore s0_138 rfl (ls' := #[.val (.int p0), .val (.int p1), .val (.int p2), .val (.long p3), .second, .val (.long p4), .second, .val (.int p5), .val (.int (1 : Int32)), .val (.int (2 : Int32)), .val (.int i0), .val (.int i1), .val (.int i2), .val (rf n0 0), .val (rf n0 1), .val (rf n0 2), .unset, .unset, .unset, .unset, .unset, .unset, .unset, .unset, .unset, .unset, .unset, .unset]) rfl ?_
      refine H.iconst s0_140 (v := (2 : Int32)) (by decide) ?_
      refine H.newarray s0_141 (ty := .long) rfl (k_1 hw) (N := 2) (cap := 2) (by decide) rfl (by decide) (by decide) rfl (by decide) (by decide) (i := 3) rfl (A' := [.inr (.int, [(.int i0), (.int i1)]), .inr (.int, [(.int p0), (.int p1)]), .inr (.int, [(.int p1), (.int p2)]), .inr (.long, [ol, ol])]) rfl (k' := 4) rfl (n' := 8) rfl ?_
      refine H.dup s0_143 rfl ?_
      refine H.iconst s0_144 (v := (0 : Int32)) (by decide) ?_
      refine H.lloadN s0_145 rfl ?_
      refine H.lastore s0_146 (i := 3) (j := 0) rfl (by decide) (ltb rfl)  rfl ?_
      refine H.dup s0_147 rfl ?_
      refine H.iconst s0_148 (v := (1 : Int32)) (by decide) ?_
      refine H.lload s0_149 rfl ?_
      refine H.lastore s0_151 (i := 3) (j := 1) rfl (by decide) (ltb rfl)  rfl ?_
      refine H.astore s0_152 rfl (ls' := #[.val (.int p0), .val (.int p1), .val (.int p2), .val (.long p3), .second, .val (.long p4), .second, .val (.int p5), .val (.int (1 : Int32)), .val (.int (2 : Int32)), .val (.int i0), .val (.int i1), .val (.int i2), .val (rf n0 0), .val (rf n0 1), .val (rf n0 2), .val (rf n0 3), .unset, .unset, .unset, .unset, .unset, .unset, .unset, .unset, .unset, .unset, .unset]) rfl ?_
      refine H.iconst s0_154 (v := (2 : Int32)) (by decide) ?_
      refine H.newarray s0_155 (ty := .long) rfl (k_1 hw) (N := 2) (cap := 2) (by decide) rfl (by decide) (by decide) rfl (by decide) (by decide) (i := 4) rfl (A' := [.inr (.int, [(.int i0), (.int i1)]), .inr (.int, [(.int p0), (.int p1)]), .inr (.int, [(.int p1), (.int p2)]), .inr (.long, [(.long p3), (.long p4)]), .inr (.long, [ol, ol])]) rfl (k' := 5) rfl (n' := 10) rfl ?_
      refine H.dup s0_157 rfl ?_
      refine H.iconst s0_158 (v := (0 : Int32)) (by decide) ?_
      refine H.lload s0_159 rfl ?_
      refine H.lastore s0_161 (i := 4) (j := 0) rfl (by decide) (ltb rfl)  rfl ?_
      refine H.dup s0_162 rfl ?_
      refine H.iconst s0_163 (v := (1 : Int32)) (by decide) ?_
      refine H.lloadN s0_164 rfl ?_
      refine H.lastore s0_165 (i := 4) (j := 1) rfl (by decide) (ltb rfl)  rfl ?_
      refine H.astore s0_166 rfl (ls' := #[.val (.int p0), .val (.int p1), .val (.int p2), .val (.long p3), .second, .val (.long p4), .second, .val (.int p5), .val (.int (1 : Int32)), .val (.int (2 : Int32)), .val (.int i0), .val (.int i1), .val (.int i2), .val (rf n0 0), .val (rf n0 1), .val (rf n0 2), .val (rf n0 3), .val (rf n0 4), .unset, .unset, .unset, .unset, .unset, .unset, .unset, .unset, .unset, .unset]) rfl ?_
      refine H.iconst s0_168 (v := (4 : Int32)) (by decide) ?_
      refine H.newarray s0_169 (ty := .int) rfl (k_0 hw) (N := 4) (cap := 4) (by decide) rfl (by decide) (by decide) rfl (by decide) (by decide) (i := 5) rfl (A' := [.inr (.int, [(.int i0), (.int i1)]), .inr (.int, [(.int p0), (.int p1)]), .inr (.int, [(.int p1), (.int p2)]), .inr (.long, [(.long p3), (.long p4)]), .inr (.long, [(.long p4), (.long p3)]), .inr (.int, [oz, oz, oz, oz])]) rfl (k' := 6) rfl (n' := 14) rfl ?_
      refine H.astore s0_171 rfl (ls' := #[.val (.int p0), .val (.int p1), .val (.int p2), .val (.long p3), .second, .val (.long p4), .second, .val (.int p5), .val (.int (1 : Int32)), .val (.int (2 : Int32)), .val (.int i0), .val (.int i1), .val (.int i2), .val (rf n0 0), .val (rf n0 1), .val (rf n0 2), .val (rf n0 3), .val (rf n0 4), .val (rf n0 5), .unset, .unset, .unset, .unset, .unset, .unset, .unset, .unset, .unset]) rfl ?_
      refine H.iconst s0_173 (v := (4 : Int32)) (by decide) ?_
      refine H.newarray s0_174 (ty := .int) rfl (k_0 hw) (N := 4) (cap := 4) (by decide) rfl (by decide) (by decide) rfl (by decide) (by decide) (i := 6) rfl (A' := [.inr (.int, [(.int i0), (.int i1)]), .inr (.int, [(.int p0), (.int p1)]), .inr (.int, [(.int p1), (.int p2)]), .inr (.long, [(.long p3), (.long p4)]), .inr (.long, [(.long p4), (.long p3)]), .inr (.int, [oz, oz, oz, oz]), .inr (.int, [oz, oz, oz, oz])]) rfl (k' := 7) rfl (n' := 18) rfl ?_
      refine H.astore s0_176 rfl (ls' := #[.val (.int p0), .val (.int p1), .val (.int p2), .val (.long p3), .second, .val (.long p4), .second, .val (.int p5), .val (.int (1 : Int32)), .val (.int (2 : Int32)), .val (.int i0), .val (.int i1), .val (.int i2), .val (rf n0 0), .val (rf n0 1), .val (rf n0 2), .val (rf n0 3), .val (rf n0 4), .val (rf n0 5), .val (rf n0 6), .unset, .unset, .unset, .unset, .unset, .unset, .unset, .unset]) rfl ?_
      refine H.iconst s0_178 (v := (4 : Int32)) (by decide) ?_
      refine H.newarray s0_179 (ty := .long) rfl (k_1 hw) (N := 4) (cap := 4) (by decide) rfl (by decide) (by decide) rfl (by decide) (by decide) (i := 7) rfl (A' := [.inr (.int, [(.int i0), (.int i1)]), .inr (.int, [(.int p0), (.int p1)]), .inr (.int, [(.int p1), (.int p2)]), .inr (.long, [(.long p3), (.long p4)]), .inr (.long, [(.long p4), (.long p3)]), .inr (.int, [oz, oz, oz, oz]), .inr (.int, [oz, oz, oz, oz]), .inr (.long, [ol, ol, ol, ol])]) rfl (k' := 8) rfl (n' := 22) rfl ?_
      refine H.astore s0_181 rfl (ls' := #[.val (.int p0), .val (.int p1), .val (.int p2), .val (.long p3), .second, .val (.long p4), .second, .val (.int p5), .val (.int (1 : Int32)), .val (.int (2 : Int32)), .val (.int i0), .val (.int i1), .val (.int i2), .val (rf n0 0), .val (rf n0 1), .val (rf n0 2), .val (rf n0 3), .val (rf n0 4), .val (rf n0 5), .val (rf n0 6), .val (rf n0 7), .unset, .unset, .unset, .unset, .unset, .unset, .unset]) rfl ?_
      refine H.iconst s0_183 (v := (4 : Int32)) (by decide) ?_
      refine H.newarray s0_184 (ty := .long) rfl (k_1 hw) (N := 4) (cap := 4) (by decide) rfl (by decide) (by decide) rfl (by decide) (by decide) (i := 8) rfl (A' := [.inr (.int, [(.int i0), (.int i1)]), .inr (.int, [(.int p0), (.int p1)]), .inr (.int, [(.int p1), (.int p2)]), .inr (.long, [(.long p3), (.long p4)]), .inr (.long, [(.long p4), (.long p3)]), .inr (.int, [oz, oz, oz, oz]), .inr (.int, [oz, oz, oz, oz]), .inr (.long, [ol, ol, ol, ol]), .inr (.long, [ol, ol, ol, ol])]) rfl (k' := 9) rfl (n' := 26) rfl ?_
      refine H.astore s0_186 rfl (ls' := #[.val (.int p0), .val (.int p1), .val (.int p2), .val (.long p3), .second, .val (.long p4), .second, .val (.int p5), .val (.int (1 : Int32)), .val (.int (2 : Int32)), .val (.int i0), .val (.int i1), .val (.int i2), .val (rf n0 0), .val (rf n0 1), .val (rf n0 2), .val (rf n0 3), .val (rf n0 4), .val (rf n0 5), .val (rf n0 6), .val (rf n0 7), .val (rf n0 8), .unset, .unset, .unset, .unset, .unset, .unset]) rfl ?_
      refine H.iload s0_188 rfl ?_
      refine H.iconst s0_190 (v := (1 : Int32)) (by decide) ?_
      refine H.icmpF s0_191 (show (1 : Int32) = (1 : Int32) by decide) ?_
      refine H.aload s0_194 rfl rfl ?_
      refine H.iconst s0_196 (v := (0 : Int32)) (by decide) ?_
      refine H.iloadN s0_197 rfl ?_
      refine H.iastore s0_198 (i := 5) (j := 0) rfl (by decide) (ltb rfl)  rfl ?_
      refine H.aload s0_199 rfl rfl ?_
      refine H.iconst s0_201 (v := (0 : Int32)) (by decide) ?_
      refine H.iloadN s0_202 rfl ?_
      refine H.iastore s0_203 (i := 6) (j := 0) rfl (by decide) (ltb rfl)  rfl ?_
      refine H.aload s0_204 rfl rfl ?_
      refine H.iconst s0_206 (v := (0 : Int32)) (by decide) ?_
      refine H.lloadN s0_207 rfl ?_
      refine H.ldc2 s0_208 (k_28 hw) ?_
      refine H.lxor s0_211 rfl ?_
      refine H.lastore s0_212 (i := 7) (j := 0) rfl (by decide) (ltb rfl)  rfl ?_
      refine H.aload s0_213 rfl rfl ?_
      refine H.iconst s0_215 (v := (0 : Int32)) (by decide) ?_
      refine H.lload s0_216 rfl ?_
      refine H.ldc2 s0_218 (k_28 hw) ?_
      refine H.lxor s0_221 rfl ?_
      refine H.lastore s0_222 (i := 8) (j := 0) rfl (by decide) (ltb rfl)  rfl ?_
      refine H.iload s0_223 rfl ?_
      refine H.iconst s0_225 (v := (1 : Int32)) (by decide) ?_
      refine H.icmpF s0_226 (show ¬ (2 : Int32) < (1 : Int32) by decide) ?_
      refine H.aload s0_229 rfl rfl ?_
      refine H.aload s0_231 rfl rfl ?_
      refine H.aload s0_233 rfl rfl ?_
      refine H.aload s0_235 rfl rfl ?_
      refine H.iload s0_237 rfl ?_
      refine H.iload s0_239 rfl ?_
      refine H.aload s0_241 rfl rfl ?_
      refine H.aload s0_243 rfl rfl ?_
      refine H.aload s0_245 rfl rfl ?_
      refine H.aload s0_247 rfl rfl ?_
      refine H.callSD s0_249 (k_27 hw) (a_93 l hw n0 p0 p1 p2 p3 p4 i0 i1 hI0 lI0 hI1 lI1) (argsL := [(rf n0 5), (rf n0 6), (rf n0 7), (rf n0 8), (.int (1 : Int32)), (.int i0), (rf n0 1), (rf n0 2), (rf n0 3), (rf n0 4)]) (rest := []) rfl rfl rfl rfl (leb rfl) (leb rfl) (leb rfl) (leb rfl) (st' := []) rfl (k' := 9) rfl (n' := 26) rfl ?_
      refine H.iload s0_252 rfl ?_
      refine H.iconst s0_254 (v := (2 : Int32)) (by decide) ?_
      refine H.icmpF s0_255 (show ¬ (2 : Int32) < (2 : Int32) by decide) ?_
      refine H.aload s0_258 rfl rfl ?_
      refine H.aload s0_260 rfl rfl ?_
      refine H.aload s0_262 rfl rfl ?_
      refine H.aload s0_264 rfl rfl ?_
      refine H.iload s0_266 rfl ?_
      refine H.iconst s0_268 (v := (1 : Int32)) (by decide) ?_
      refine H.iadd s0_269 (w := (2 : Int32)) (by decide) ?_
      refine H.iload s0_270 rfl ?_
      refine H.aload s0_272 rfl rfl ?_
      refine H.aload s0_274 rfl rfl ?_
      refine H.aload s0_276 rfl rfl ?_
      refine H.aload s0_278 rfl rfl ?_
      refine H.callSD s0_280 (k_27 hw) (a_94 l hw n0 p0 p1 p2 p3 p4 i0 i1 I0 hI0 lI0 hI1 lI1) (argsL := [(rf n0 5), (rf n0 6), (rf n0 7), (rf n0 8), (.int (2 : Int32)), (.int i1), (rf n0 1), (rf n0 2), (rf n0 3), (rf n0 4)]) (rest := []) rfl rfl rfl rfl (leb rfl) (leb rfl) (leb rfl) (leb rfl) (st' := []) rfl (k' := 9) rfl (n' := 26) rfl ?_
      refine H.iload s0_283 rfl ?_
      refine H.iconst s0_285 (v := (3 : Int32)) (by decide) ?_
      refine H.icmpT s0_286 (show (2 : Int32) < (3 : Int32) by decide) ?_
      refine H.new s0_314 (k_2 hw) rfl (by decide) (by decide) (i := 9) rfl (A' := [.inr (.int, [(.int i0), (.int i1)]), .inr (.int, [(.int p0), (.int p1)]), .inr (.int, [(.int p1), (.int p2)]), .inr (.long, [(.long p3), (.long p4)]), .inr (.long, [(.long p4), (.long p3)]), .inr (.int, [(.int p2), (.int (own_selI I0 p0 p1)), (.int (own_selI I1 p0 p1)), oz]), .inr (.int, [(.int p0), (.int (own_selI I0 p1 p2)), (.int (own_selI I1 p1 p2)), oz]), .inr (.long, [(.long (p3 ^^^ (-1 : Int64))), (.long (own_selJ I0 p3 p4)), (.long (own_selJ I1 p3 p4)), ol]), .inr (.long, [(.long (p4 ^^^ (-1 : Int64))), (.long (own_selJ I0 p4 p3)), (.long (own_selJ I1 p4 p3)), ol]), .inl (0, [.null, .null, .null, .null, oz])]) rfl (k' := 10) rfl (n' := 31) rfl ?_
      refine H.dup s0_317 rfl ?_
      refine H.iconst s0_318 (v := (2 : Int32)) (by decide) ?_
      refine H.callCD s0_319 (k_9 hw) (a_95 l hw n0 p0 p1 p2 p3 p4 i0 i1 I0 I1) (argsL := [(.int (2 : Int32))]) (rest := [(rf n0 9)]) rfl rfl rfl rfl (leb rfl) (leb rfl) (leb rfl) (leb rfl) (st' := [(rf n0 9)]) rfl (k' := 14) rfl (n' := 39) rfl ?_
      refine H.astore s0_322 rfl (ls' := #[.val (.int p0), .val (.int p1), .val (.int p2), .val (.long p3), .second, .val (.long p4), .second, .val (.int p5), .val (.int (1 : Int32)), .val (.int (2 : Int32)), .val (.int i0), .val (.int i1), .val (.int i2), .val (rf n0 0), .val (rf n0 1), .val (rf n0 2), .val (rf n0 3), .val (rf n0 4), .val (rf n0 5), .val (rf n0 6), .val (rf n0 7), .val (rf n0 8), .val (rf n0 9), .unset, .unset, .unset, .unset, .unset]) rfl ?_
      refine H.aload s0_324 rfl rfl ?_
      refine H.iloadN s0_326 rfl ?_
      refine H.iloadN s0_327 rfl ?_
      refine H.lloadN s0_328 rfl ?_
      refine H.lload s0_329 rfl ?_
      refine H.callVD s0_331 (k_16 hw) (a_96 l hw n0 p0 p1 p2 p3 p4 i0 i1 I0 I1) (i := 9) rfl (argsL := [(.int p0), (.int p1), (.long p3), (.long p4)]) (rest := []) rfl rfl rfl rfl (leb rfl) (leb rfl) (leb rfl) (leb rfl) (st' := []) rfl (k' := 14) rfl (n' := 39) rfl ?_
      refine H.aload s0_334 rfl rfl ?_
      refine H.iloadN s0_336 rfl ?_
      refine H.iloadN s0_337 rfl ?_
      refine H.lload s0_338 rfl ?_
      refine H.lloadN s0_340 rfl ?_
      refine H.callVD s0_341 (k_16 hw) (a_97 l hw n0 p0 p1 p2 p3 p4 i0 i1 I0 I1) (i := 9) rfl (argsL := [(.int p1), (.int p2), (.long p4), (.long p3)]) (rest := []) rfl rfl rfl rfl (leb rfl) (leb rfl) (leb rfl) (leb rfl) (st' := []) rfl (k' := 14) rfl (n' := 39) rfl ?_
      refine H.new s0_344 (k_2 hw) rfl (by decide) (by decide) (i := 14) rfl (A' := [.inr (.int, [(.int i0), (.int i1)]), .inr (.int, [(.int p0), (.int p1)]), .inr (.int, [(.int p1), (.int p2)]), .inr (.long, [(.long p3), (.long p4)]), .inr (.long, [(.long p4), (.long p3)]), .inr (.int, [(.int p2), (.int (own_selI I0 p0 p1)), (.int (own_selI I1 p0 p1)), oz]), .inr (.int, [(.int p0), (.int (own_selI I0 p1 p2)), (.int (own_selI I1 p1 p2)), oz]), .inr (.long, [(.long (p3 ^^^ (-1 : Int64))), (.long (own_selJ I0 p3 p4)), (.long (own_selJ I1 p3 p4)), ol]), .inr (.long, [(.long (p4 ^^^ (-1 : Int64))), (.long (own_selJ I0 p4 p3)), (.long (own_selJ I1 p4 p3)), ol]), .inl (0, [(rf n0 10), (rf n0 11), (rf n0 12), (rf n0 13), (.int (2 : Int32))]), .inr (.int, [(.int p0), (.int p1)]), .inr (.int, [(.int p1), (.int p2)]), .inr (.long, [(.long p3), (.long p4)]), .inr (.long, [(.long p4), (.long p3)]), .inl (0, [.null, .null, .null, .null, oz])]) rfl (k' := 15) rfl (n' := 44) rfl ?_
      refine H.dup s0_347 rfl ?_
      refine H.iconst s0_348 (v := (4 : Int32)) (by decide) ?_
      refine H.callCD s0_349 (k_9 hw) (a_98 l hw n0 p0 p1 p2 p3 p4 i0 i1 I0 I1) (argsL := [(.int (4 : Int32))]) (rest := [(rf n0 14)]) rfl rfl rfl rfl (leb rfl) (leb rfl) (leb rfl) (leb rfl) (st' := [(rf n0 14)]) rfl (k' := 19) rfl (n' := 60) rfl ?_
      refine H.astore s0_352 rfl (ls' := #[.val (.int p0), .val (.int p1), .val (.int p2), .val (.long p3), .second, .val (.long p4), .second, .val (.int p5), .val (.int (1 : Int32)), .val (.int (2 : Int32)), .val (.int i0), .val (.int i1), .val (.int i2), .val (rf n0 0), .val (rf n0 1), .val (rf n0 2), .val (rf n0 3), .val (rf n0 4), .val (rf n0 5), .val (rf n0 6), .val (rf n0 7), .val (rf n0 8), .val (rf n0 9), .val (rf n0 14), .unset, .unset, .unset, .unset]) rfl ?_
      refine H.iload s0_354 rfl ?_
      refine H.iconst s0_356 (v := (1 : Int32)) (by decide) ?_
      refine H.icmpF s0_357 (show (1 : Int32) = (1 : Int32) by decide) ?_
      refine H.aload s0_360 rfl rfl ?_
      refine H.iloadN s0_362 rfl ?_
      refine H.iloadN s0_363 rfl ?_
      refine H.lloadN s0_364 rfl ?_
      refine H.ldc2 s0_365 (k_28 hw) ?_
      refine H.lxor s0_368 rfl ?_
      refine H.lload s0_369 rfl ?_
      refine H.ldc2 s0_371 (k_28 hw) ?_
      refine H.lxor s0_374 rfl ?_
      refine H.callVD s0_375 (k_16 hw) (a_99 l hw n0 p0 p1 p2 p3 p4 i0 i1 I0 I1) (i := 14) rfl (argsL := [(.int p2), (.int p0), (.long (p3 ^^^ (-1 : Int64))), (.long (p4 ^^^ (-1 : Int64)))]) (rest := []) rfl rfl rfl rfl (leb rfl) (leb rfl) (leb rfl) (leb rfl) (st' := []) rfl (k' := 19) rfl (n' := 60) rfl ?_
      refine H.aload s0_378 rfl rfl ?_
      refine H.aload s0_380 rfl rfl ?_
      refine H.aload s0_382 rfl rfl ?_
      refine H.callVD s0_384 (k_18 hw) (a_100 l hw n0 p0 p1 p2 p3 p4 i0 i1 I0 I1 hI0 lI0 hI1 lI1) (i := 14) rfl (argsL := [(rf n0 9), (rf n0 0)]) (rest := []) rfl rfl rfl rfl (leb rfl) (leb rfl) (leb rfl) (leb rfl) (st' := []) rfl (k' := 19) rfl (n' := 60) rfl ?_
      refine H.aload s0_387 rfl rfl ?_
      refine H.callVD s0_389 (k_19 hw) (a_101 l hw n0 p0 p1 p2 p3 p4 i0 i1 I0 I1) (i := 14) rfl (argsL := []) (rest := []) rfl rfl rfl rfl (leb rfl) (leb rfl) (leb rfl) (leb rfl) (st' := [(.int (3 : Int32))]) rfl (k' := 19) rfl (n' := 60) rfl ?_
      refine H.iload s0_392 rfl ?_
      refine H.iload s0_394 rfl ?_
      refine H.iadd s0_396 (w := (3 : Int32)) (by decide) ?_
      refine H.icmpT s0_397 (show (3 : Int32) = (3 : Int32) by decide) ?_
      refine H.aload s0_402 rfl rfl ?_
      refine H.callVD s0_404 (k_20 hw) (a_102 l hw n0 p0 p1 p2 p3 p4 i0 i1 I0 I1) (i := 14) rfl (argsL := []) (rest := []) rfl rfl rfl rfl (leb rfl) (leb rfl) (leb rfl) (leb rfl) (st' := [(rf n0 15)]) rfl (k' := 19) rfl (n' := 60) rfl ?_
      refine H.astore s0_407 rfl (ls' := #[.val (.int p0), .val (.int p1), .val (.int p2), .val (.long p3), .second, .val (.long p4), .second, .val (.int p5), .val (.int (1 : Int32)), .val (.int (2 : Int32)), .val (.int i0), .val (.int i1), .val (.int i2), .val (rf n0 0), .val (rf n0 1), .val (rf n0 2), .val (rf n0 3), .val (rf n0 4), .val (rf n0 5), .val (rf n0 6), .val (rf n0 7), .val (rf n0 8), .val (rf n0 9), .val (rf n0 14), .val (rf n0 15), .unset, .unset, .unset]) rfl ?_
      refine H.aload s0_409 rfl rfl ?_
      refine H.callVD s0_411 (k_21 hw) (a_103 l hw n0 p0 p1 p2 p3 p4 i0 i1 I0 I1) (i := 14) rfl (argsL := []) (rest := []) rfl rfl rfl rfl (leb rfl) (leb rfl) (leb rfl) (leb rfl) (st' := [(rf n0 16)]) rfl (k' := 19) rfl (n' := 60) rfl ?_
      refine H.astore s0_414 rfl (ls' := #[.val (.int p0), .val (.int p1), .val (.int p2), .val (.long p3), .second, .val (.long p4), .second, .val (.int p5), .val (.int (1 : Int32)), .val (.int (2 : Int32)), .val (.int i0), .val (.int i1), .val (.int i2), .val (rf n0 0), .val (rf n0 1), .val (rf n0 2), .val (rf n0 3), .val (rf n0 4), .val (rf n0 5), .val (rf n0 6), .val (rf n0 7), .val (rf n0 8), .val (rf n0 9), .val (rf n0 14), .val (rf n0 15), .val (rf n0 16), .unset, .unset]) rfl ?_
      refine H.aload s0_416 rfl rfl ?_
      refine H.callVD s0_418 (k_22 hw) (a_104 l hw n0 p0 p1 p2 p3 p4 i0 i1 I0 I1) (i := 14) rfl (argsL := []) (rest := []) rfl rfl rfl rfl (leb rfl) (leb rfl) (leb rfl) (leb rfl) (st' := [(rf n0 17)]) rfl (k' := 19) rfl (n' := 60) rfl ?_
      refine H.astore s0_421 rfl (ls' := #[.val (.int p0), .val (.int p1), .val (.int p2), .val (.long p3), .second, .val (.long p4), .second, .val (.int p5), .val (.int (1 : Int32)), .val (.int (2 : Int32)), .val (.int i0), .val (.int i1), .val (.int i2), .val (rf n0 0), .val (rf n0 1), .val (rf n0 2), .val (rf n0 3), .val (rf n0 4), .val (rf n0 5), .val (rf n0 6), .val (rf n0 7), .val (rf n0 8), .val (rf n0 9), .val (rf n0 14), .val (rf n0 15), .val (rf n0 16), .val (rf n0 17), .unset]) rfl ?_
      refine H.aload s0_423 rfl rfl ?_
      refine H.callVD s0_425 (k_23 hw) (a_105 l hw n0 p0 p1 p2 p3 p4 i0 i1 I0 I1) (i := 14) rfl (argsL := []) (rest := []) rfl rfl rfl rfl (leb rfl) (leb rfl) (leb rfl) (leb rfl) (st' := [(rf n0 18)]) rfl (k' := 19) rfl (n' := 60) rfl ?_
      refine H.astore s0_428 rfl (ls' := #[.val (.int p0), .val (.int p1), .val (.int p2), .val (.long p3), .second, .val (.long p4), .second, .val (.int p5), .val (.int (1 : Int32)), .val (.int (2 : Int32)), .val (.int i0), .val (.int i1), .val (.int i2), .val (rf n0 0), .val (rf n0 1), .val (rf n0 2), .val (rf n0 3), .val (rf n0 4), .val (rf n0 5), .val (rf n0 6), .val (rf n0 7), .val (rf n0 8), .val (rf n0 9), .val (rf n0 14), .val (rf n0 15), .val (rf n0 16), .val (rf n0 17), .val (rf n0 18)]) rfl ?_
      refine H.aload s0_430 rfl rfl ?_
      refine H.aload s0_432 rfl rfl ?_
      refine H.callSD s0_434 (k_25 hw) (a_106 l hw n0 p0 p1 p2 p3 p4 i0 i1 I0 I1) (argsL := [(rf n0 15), (rf n0 5)]) (rest := []) rfl rfl rfl rfl (leb rfl) (leb rfl) (leb rfl) (leb rfl) (st' := [(.int (1 : Int32))]) rfl (k' := 19) rfl (n' := 60) rfl ?_
      refine H.ifF s0_437 (show ¬ (1 : Int32) = (0 : Int32) by decide) ?_
      refine H.aload s0_440 rfl rfl ?_
      refine H.aload s0_442 rfl rfl ?_
      refine H.callSD s0_444 (k_25 hw) (a_107 l hw n0 p0 p1 p2 p3 p4 i0 i1 I0 I1) (argsL := [(rf n0 16), (rf n0 6)]) (rest := []) rfl rfl rfl rfl (leb rfl) (leb rfl) (leb rfl) (leb rfl) (st' := [(.int (1 : Int32))]) rfl (k' := 19) rfl (n' := 60) rfl ?_
      refine H.ifF s0_447 (show ¬ (1 : Int32) = (0 : Int32) by decide) ?_
      refine H.aload s0_450 rfl rfl ?_
      refine H.aload s0_452 rfl rfl ?_
      refine H.callSD s0_454 (k_26 hw) (a_108 l hw n0 p0 p1 p2 p3 p4 i0 i1 I0 I1) (argsL := [(rf n0 17), (rf n0 7)]) (rest := []) rfl rfl rfl rfl (leb rfl) (leb rfl) (leb rfl) (leb rfl) (st' := [(.int (1 : Int32))]) rfl (k' := 19) rfl (n' := 60) rfl ?_
      refine H.ifF s0_457 (show ¬ (1 : Int32) = (0 : Int32) by decide) ?_
      refine H.aload s0_460 rfl rfl ?_
      refine H.aload s0_462 rfl rfl ?_
      refine H.callSD s0_464 (k_26 hw) (a_109 l hw n0 p0 p1 p2 p3 p4 i0 i1 I0 I1) (argsL := [(rf n0 18), (rf n0 8)]) (rest := []) rfl rfl rfl rfl (leb rfl) (leb rfl) (leb rfl) (leb rfl) (st' := [(.int (1 : Int32))]) rfl (k' := 19) rfl (n' := 60) rfl ?_
      refine H.ifF s0_467 (show ¬ (1 : Int32) = (0 : Int32) by decide) ?_
      refine H.iconst s0_470 (v := (1 : Int32)) (by decide) ?_
      refine H.goto s0_471 ?_
      exact H.ireturn s0_475 rfl (by simp) rfl rfl (by decide) (by decide)
    · refine H.iand s0_11 (w := (3 : Int32)) hz11 ?_
      refine H.istore s0_12 (ls' := #[.val (.int p0), .val (.int p1), .val (.int p2), .val (.long p3), .second, .val (.long p4), .second, .val (.int p5), .val (.int (1 : Int32)), .val (.int (3 : Int32)), .unset, .unset, .unset, .unset, .unset, .unset, .unset, .unset, .unset, .unset, .unset, .unset, .unset, .unset, .unset, .unset, .unset, .unset]) rfl ?_
      refine H.iload s0_14 rfl ?_
      refine H.iconst s0_16 (v := (3 : Int32)) (by decide) ?_
      refine H.iushr s0_17 rfl ?_
      refine H.iconst s0_18 (v := (1 : Int32)) (by decide) ?_
      refine H.iand s0_19 (w := i0) hi0 ?_
      refine H.istore s0_20 (ls' := #[.val (.int p0), .val (.int p1), .val (.int p2), .val (.long p3), .second, .val (.long p4), .second, .val (.int p5), .val (.int (1 : Int32)), .val (.int (3 : Int32)), .val (.int i0), .unset, .unset, .unset, .unset, .unset, .unset, .unset, .unset, .unset, .unset, .unset, .unset, .unset, .unset, .unset, .unset, .unset]) rfl ?_
      refine H.iload s0_22 rfl ?_
      refine H.iconst s0_24 (v := (4 : Int32)) (by decide) ?_
      refine H.iushr s0_25 rfl ?_
      refine H.iconst s0_26 (v := (1 : Int32)) (by decide) ?_
      refine H.iand s0_27 (w := i1) hi1 ?_
      refine H.istore s0_28 (ls' := #[.val (.int p0), .val (.int p1), .val (.int p2), .val (.long p3), .second, .val (.long p4), .second, .val (.int p5), .val (.int (1 : Int32)), .val (.int (3 : Int32)), .val (.int i0), .val (.int i1), .unset, .unset, .unset, .unset, .unset, .unset, .unset, .unset, .unset, .unset, .unset, .unset, .unset, .unset, .unset, .unset]) rfl ?_
      refine H.iload s0_30 rfl ?_
      refine H.iconst s0_32 (v := (5 : Int32)) (by decide) ?_
      refine H.iushr s0_33 rfl ?_
      refine H.iconst s0_34 (v := (1 : Int32)) (by decide) ?_
      refine H.iand s0_35 (w := i2) hi2 ?_
      refine H.istore s0_36 (ls' := #[.val (.int p0), .val (.int p1), .val (.int p2), .val (.long p3), .second, .val (.long p4), .second, .val (.int p5), .val (.int (1 : Int32)), .val (.int (3 : Int32)), .val (.int i0), .val (.int i1), .val (.int i2), .unset, .unset, .unset, .unset, .unset, .unset, .unset, .unset, .unset, .unset, .unset, .unset, .unset, .unset, .unset]) rfl ?_
      refine H.iload s0_38 rfl ?_
      refine H.ifT s0_40 (show ¬ (3 : Int32) = (0 : Int32) by decide) ?_
      refine H.iload s0_51 rfl ?_
      refine H.iconst s0_53 (v := (1 : Int32)) (by decide) ?_
      refine H.icmpT s0_54 (show ¬ (3 : Int32) = (1 : Int32) by decide) ?_
      refine H.iload s0_70 rfl ?_
      refine H.iconst s0_72 (v := (2 : Int32)) (by decide) ?_
      refine H.icmpT s0_73 (show ¬ (3 : Int32) = (2 : Int32) by decide) ?_
      refine H.iconst s0_94 (v := (3 : Int32)) (by decide) ?_
      refine H.newarray s0_95 (ty := .int) rfl (k_0 hw) (N := 3) (cap := 3) (by decide) rfl (by decide) (by decide) rfl (by decide) (by decide) (i := 0) rfl (A' := [.inr (.int, [oz, oz, oz])]) rfl (k' := 1) rfl (n' := 3) rfl ?_
      refine H.dup s0_97 rfl ?_
      refine H.iconst s0_98 (v := (0 : Int32)) (by decide) ?_
      refine H.iload s0_99 rfl ?_
      refine H.iastore s0_101 (i := 0) (j := 0) rfl (by decide) (ltb rfl)  rfl ?_
      refine H.dup s0_102 rfl ?_
      refine H.iconst s0_103 (v := (1 : Int32)) (by decide) ?_
      refine H.iload s0_104 rfl ?_
      refine H.iastore s0_106 (i := 0) (j := 1) rfl (by decide) (ltb rfl)  rfl ?_
      refine H.dup s0_107 rfl ?_
      refine H.iconst s0_108 (v := (2 : Int32)) (by decide) ?_
      refine H.iload s0_109 rfl ?_
      refine H.iastore s0_111 (i := 0) (j := 2) rfl (by decide) (ltb rfl)  rfl ?_
      refine H.astore s0_112 rfl (ls' := #[.val (.int p0), .val (.int p1), .val (.int p2), .val (.long p3), .second, .val (.long p4), .second, .val (.int p5), .val (.int (1 : Int32)), .val (.int (3 : Int32)), .val (.int i0), .val (.int i1), .val (.int i2), .val (rf n0 0), .unset, .unset, .unset, .unset, .unset, .unset, .unset, .unset, .unset, .unset, .unset, .unset, .unset, .unset]) rfl ?_
      refine H.iconst s0_114 (v := (2 : Int32)) (by decide) ?_
      refine H.newarray s0_115 (ty := .int) rfl (k_0 hw) (N := 2) (cap := 2) (by decide) rfl (by decide) (by decide) rfl (by decide) (by decide) (i := 1) rfl (A' := [.inr (.int, [(.int i0), (.int i1), (.int i2)]), .inr (.int, [oz, oz])]) rfl (k' := 2) rfl (n' := 5) rfl ?_
      refine H.dup s0_117 rfl ?_
      refine H.iconst s0_118 (v := (0 : Int32)) (by decide) ?_
      refine H.iloadN s0_119 rfl ?_
      refine H.iastore s0_120 (i := 1) (j := 0) rfl (by decide) (ltb rfl)  rfl ?_
      refine H.dup s0_121 rfl ?_
      refine H.iconst s0_122 (v := (1 : Int32)) (by decide) ?_
      refine H.iloadN s0_123 rfl ?_
      refine H.iastore s0_124 (i := 1) (j := 1) rfl (by decide) (ltb rfl)  rfl ?_
      refine H.astore s0_125 rfl (ls' := #[.val (.int p0), .val (.int p1), .val (.int p2), .val (.long p3), .second, .val (.long p4), .second, .val (.int p5), .val (.int (1 : Int32)), .val (.int (3 : Int32)), .val (.int i0), .val (.int i1), .val (.int i2), .val (rf n0 0), .val (rf n0 1), .unset, .unset, .unset, .unset, .unset, .unset, .unset, .unset, .unset, .unset, .unset, .unset, .unset]) rfl ?_
      refine H.iconst s0_127 (v := (2 : Int32)) (by decide) ?_
      refine H.newarray s0_128 (ty := .int) rfl (k_0 hw) (N := 2) (cap := 2) (by decide) rfl (by decide) (by decide) rfl (by decide) (by decide) (i := 2) rfl (A' := [.inr (.int, [(.int i0), (.int i1), (.int i2)]), .inr (.int, [(.int p0), (.int p1)]), .inr (.int, [oz, oz])]) rfl (k' := 3) rfl (n' := 7) rfl ?_
      refine H.dup s0_130 rfl ?_
      refine H.iconst s0_131 (v := (0 : Int32)) (by decide) ?_
      refine H.iloadN s0_132 rfl ?_
      refine H.iastore s0_133 (i := 2) (j := 0) rfl (by decide) (ltb rfl)  rfl ?_
      refine H.dup s0_134 rfl ?_
      refine H.iconst s0_135 (v := (1 : Int32)) (by decide) ?_
      refine H.iloadN s0_136 rfl ?_
      refine H.iastore s0_137 (i := 2) (j := 1) rfl (by decide) (ltb rfl)  rfl ?_
      refine H.astore s0_138 rfl (ls' := #[.val (.int p0), .val (.int p1), .val (.int p2), .val (.long p3), .second, .val (.long p4), .second, .val (.int p5), .val (.int (1 : Int32)), .val (.int (3 : Int32)), .val (.int i0), .val (.int i1), .val (.int i2), .val (rf n0 0), .val (rf n0 1), .val (rf n0 2), .unset, .unset, .unset, .unset, .unset, .unset, .unset, .unset, .unset, .unset, .unset, .unset]) rfl ?_
      refine H.iconst s0_140 (v := (2 : Int32)) (by decide) ?_
      refine H.newarray s0_141 (ty := .long) rfl (k_1 hw) (N := 2) (cap := 2) (by decide) rfl (by decide) (by decide) rfl (by decide) (by decide) (i := 3) rfl (A' := [.inr (.int, [(.int i0), (.int i1), (.int i2)]), .inr (.int, [(.int p0), (.int p1)]), .inr (.int, [(.int p1), (.int p2)]), .inr (.long, [ol, ol])]) rfl (k' := 4) rfl (n' := 9) rfl ?_
      refine H.dup s0_143 rfl ?_
      refine H.iconst s0_144 (v := (0 : Int32)) (by decide) ?_
      refine H.lloadN s0_145 rfl ?_
      refine H.lastore s0_146 (i := 3) (j := 0) rfl (by decide) (ltb rfl)  rfl ?_
      refine H.dup s0_147 rfl ?_
      refine H.iconst s0_148 (v := (1 : Int32)) (by decide) ?_
      refine H.lload s0_149 rfl ?_
      refine H.lastore s0_151 (i := 3) (j := 1) rfl (by decide) (ltb rfl)  rfl ?_
      refine H.astore s0_152 rfl (ls' := #[.val (.int p0), .val (.int p1), .val (.int p2), .val (.long p3), .second, .val (.long p4), .second, .val (.int p5), .val (.int (1 : Int32)), .val (.int (3 : Int32)), .val (.int i0), .val (.int i1), .val (.int i2), .val (rf n0 0), .val (rf n0 1), .val (rf n0 2), .val (rf n0 3), .unset, .unset, .unset, .unset, .unset, .unset, .unset, .unset, .unset, .unset, .unset]) rfl ?_
      refine H.iconst s0_154 (v := (2 : Int32)) (by decide) ?_
      refine H.newarray s0_155 (ty := .long) rfl (k_1 hw) (N := 2) (cap := 2) (by decide) rfl (by decide) (by decide) rfl (by decide) (by decide) (i := 4) rfl (A' := [.inr (.int, [(.int i0), (.int i1), (.int i2)]), .inr (.int, [(.int p0), (.int p1)]), .inr (.int, [(.int p1), (.int p2)]), .inr (.long, [(.long p3), (.long p4)]), .inr (.long, [ol, ol])]) rfl (k' := 5) rfl (n' := 11) rfl ?_
      refine H.dup s0_157 rfl ?_
      refine H.iconst s0_158 (v := (0 : Int32)) (by decide) ?_
      refine H.lload s0_159 rfl ?_
      refine H.lastore s0_161 (i := 4) (j := 0) rfl (by decide) (ltb rfl)  rfl ?_
      refine H.dup s0_162 rfl ?_
      refine H.iconst s0_163 (v := (1 : Int32)) (by decide) ?_
      refine H.lloadN s0_164 rfl ?_
      refine H.lastore s0_165 (i := 4) (j := 1) rfl (by decide) (ltb rfl)  rfl ?_
      refine H.astore s0_166 rfl (ls' := #[.val (.int p0), .val (.int p1), .val (.int p2), .val (.long p3), .second, .val (.long p4), .second, .val (.int p5), .val (.int (1 : Int32)), .val (.int (3 : Int32)), .val (.int i0), .val (.int i1), .val (.int i2), .val (rf n0 0), .val (rf n0 1), .val (rf n0 2), .val (rf n0 3), .val (rf n0 4), .unset, .unset, .unset, .unset, .unset, .unset, .unset, .unset, .unset, .unset]) rfl ?_
      refine H.iconst s0_168 (v := (4 : Int32)) (by decide) ?_
      refine H.newarray s0_169 (ty := .int) rfl (k_0 hw) (N := 4) (cap := 4) (by decide) rfl (by decide) (by decide) rfl (by decide) (by decide) (i := 5) rfl (A' := [.inr (.int, [(.int i0), (.int i1), (.int i2)]), .inr (.int, [(.int p0), (.int p1)]), .inr (.int, [(.int p1), (.int p2)]), .inr (.long, [(.long p3), (.long p4)]), .inr (.long, [(.long p4), (.long p3)]), .inr (.int, [oz, oz, oz, oz])]) rfl (k' := 6) rfl (n' := 15) rfl ?_
      refine H.astore s0_171 rfl (ls' := #[.val (.int p0), .val (.int p1), .val (.int p2), .val (.long p3), .second, .val (.long p4), .second, .val (.int p5), .val (.int (1 : Int32)), .val (.int (3 : Int32)), .val (.int i0), .val (.int i1), .val (.int i2), .val (rf n0 0), .val (rf n0 1), .val (rf n0 2), .val (rf n0 3), .val (rf n0 4), .val (rf n0 5), .unset, .unset, .unset, .unset, .unset, .unset, .unset, .unset, .unset]) rfl ?_
      refine H.iconst s0_173 (v := (4 : Int32)) (by decide) ?_
      refine H.newarray s0_174 (ty := .int) rfl (k_0 hw) (N := 4) (cap := 4) (by decide) rfl (by decide) (by decide) rfl (by decide) (by decide) (i := 6) rfl (A' := [.inr (.int, [(.int i0), (.int i1), (.int i2)]), .inr (.int, [(.int p0), (.int p1)]), .inr (.int, [(.int p1), (.int p2)]), .inr (.long, [(.long p3), (.long p4)]), .inr (.long, [(.long p4), (.long p3)]), .inr (.int, [oz, oz, oz, oz]), .inr (.int, [oz, oz, oz, oz])]) rfl (k' := 7) rfl (n' := 19) rfl ?_
      refine H.astore s0_176 rfl (ls' := #[.val (.int p0), .val (.int p1), .val (.int p2), .val (.long p3), .second, .val (.long p4), .second, .val (.int p5), .val (.int (1 : Int32)), .val (.int (3 : Int32)), .val (.int i0), .val (.int i1), .val (.int i2), .val (rf n0 0), .val (rf n0 1), .val (rf n0 2), .val (rf n0 3), .val (rf n0 4), .val (rf n0 5), .val (rf n0 6), .unset, .unset, .unset, .unset, .unset, .unset, .unset, .unset]) rfl ?_
      refine H.iconst s0_178 (v := (4 : Int32)) (by decide) ?_
      refine H.newarray s0_179 (ty := .long) rfl (k_1 hw) (N := 4) (cap := 4) (by decide) rfl (by decide) (by decide) rfl (by decide) (by decide) (i := 7) rfl (A' := [.inr (.int, [(.int i0), (.int i1), (.int i2)]), .inr (.int, [(.int p0), (.int p1)]), .inr (.int, [(.int p1), (.int p2)]), .inr (.long, [(.long p3), (.long p4)]), .inr (.long, [(.long p4), (.long p3)]), .inr (.int, [oz, oz, oz, oz]), .inr (.int, [oz, oz, oz, oz]), .inr (.long, [ol, ol, ol, ol])]) rfl (k' := 8) rfl (n' := 23) rfl ?_
      refine H.astore s0_181 rfl (ls' := #[.val (.int p0), .val (.int p1), .val (.int p2), .val (.long p3), .second, .val (.long p4), .second, .val (.int p5), .val (.int (1 : Int32)), .val (.int (3 : Int32)), .val (.int i0), .val (.int i1), .val (.int i2), .val (rf n0 0), .val (rf n0 1), .val (rf n0 2), .val (rf n0 3), .val (rf n0 4), .val (rf n0 5), .val (rf n0 6), .val (rf n0 7), .unset, .unset, .unset, .unset, .unset, .unset, .unset]) rfl ?_
      refine H.iconst s0_183 (v := (4 : Int32)) (by decide) ?_
      refine H.newarray s0_184 (ty := .long) rfl (k_1 hw) (N := 4) (cap := 4) (by decide) rfl (by decide) (by decide) rfl (by decide) (by decide) (i := 8) rfl (A' := [.inr (.int, [(.int i0), (.int i1), (.int i2)]), .inr (.int, [(.int p0), (.int p1)]), .inr (.int, [(.int p1), (.int p2)]), .inr (.long, [(.long p3), (.long p4)]), .inr (.long, [(.long p4), (.long p3)]), .inr (.int, [oz, oz, oz, oz]), .inr (.int, [oz, oz, oz, oz]), .inr (.long, [ol, ol, ol, ol]), .inr (.long, [ol, ol, ol, ol])]) rfl (k' := 9) rfl (n' := 27) rfl ?_
      refine H.astore s0_186 rfl (ls' := #[.val (.int p0), .val (.int p1), .val (.int p2), .val (.long p3), .second, .val (.long p4), .second, .val (.int p5), .val (.int (1 : Int32)), .val (.int (3 : Int32)), .val (.int i0), .val (.int i1), .val (.int i2), .val (rf n0 0), .val (rf n0 1), .val (rf n0 2), .val (rf n0 3), .val (rf n0 4), .val (rf n0 5), .val (rf n0 6), .val (rf n0 7), .val (rf n0 8), .unset, .unset, .unset, .unset, .unset, .unset]) rfl ?_
      refine H.iload s0_188 rfl ?_
      refine H.iconst s0_190 (v := (1 : Int32)) (by decide) ?_
      refine H.icmpF s0_191 (show (1 : Int32) = (1 : Int32) by decide) ?_
      refine H.aload s0_194 rfl rfl ?_
      refine H.iconst s0_196 (v := (0 : Int32)) (by decide) ?_
      refine H.iloadN s0_197 rfl ?_
      refine H.iastore s0_198 (i := 5) (j := 0) rfl (by decide) (ltb rfl)  rfl ?_
      refine H.aload s0_199 rfl rfl ?_
      refine H.iconst s0_201 (v := (0 : Int32)) (by decide) ?_
      refine H.iloadN s0_202 rfl ?_
      refine H.iastore s0_203 (i := 6) (j := 0) rfl (by decide) (ltb rfl)  rfl ?_
      refine H.aload s0_204 rfl rfl ?_
      refine H.iconst s0_206 (v := (0 : Int32)) (by decide) ?_
      refine H.lloadN s0_207 rfl ?_
      refine H.ldc2 s0_208 (k_28 hw) ?_
      refine H.lxor s0_211 rfl ?_
      refine H.lastore s0_212 (i := 7) (j := 0) rfl (by decide) (ltb rfl)  rfl ?_
      refine H.aload s0_213 rfl rfl ?_
      refine H.iconst s0_215 (v := (0 : Int32)) (by decide) ?_
      refine H.lload s0_216 rfl ?_
      refine H.ldc2 s0_218 (k_28 hw) ?_
      refine H.lxor s0_221 rfl ?_
      refine H.lastore s0_222 (i := 8) (j := 0) rfl (by decide) (ltb rfl)  rfl ?_
      refine H.iload s0_223 rfl ?_
      refine H.iconst s0_225 (v := (1 : Int32)) (by decide) ?_
      refine H.icmpF s0_226 (show ¬ (3 : Int32) < (1 : Int32) by decide) ?_
      refine H.aload s0_229 rfl rfl ?_
      refine H.aload s0_231 rfl rfl ?_
      refine H.aload s0_233 rfl rfl ?_
      refine H.aload s0_235 rfl rfl ?_
      refine H.iload s0_237 rfl ?_
      refine H.iload s0_239 rfl ?_
      refine H.aload s0_241 rfl rfl ?_
      refine H.aload s0_243 rfl rfl ?_
      refine H.aload s0_245 rfl rfl ?_
      refine H.aload s0_247 rfl rfl ?_
      refine H.callSD s0_249 (k_27 hw) (a_110 l hw n0 p0 p1 p2 p3 p4 i0 i1 i2 hI0 lI0 hI1 lI1 hI2 lI2) (argsL := [(rf n0 5), (rf n0 6), (rf n0 7), (rf n0 8), (.int (1 : Int32)), (.int i0), (rf n0 1), (rf n0 2), (rf n0 3), (rf n0 4)]) (rest := []) rfl rfl rfl rfl (leb rfl) (leb rfl) (leb rfl) (leb rfl) (st' := []) rfl (k' := 9) rfl (n' := 27) rfl ?_
      refine H.iload s0_252 rfl ?_
      refine H.iconst s0_254 (v := (2 : Int32)) (by decide) ?_
      refine H.icmpF s0_255 (show ¬ (3 : Int32) < (2 : Int32) by decide) ?_
      refine H.aload s0_258 rfl rfl ?_
      refine H.aload s0_260 rfl rfl ?_
      refine H.aload s0_262 rfl rfl ?_
      refine H.aload s0_264 rfl rfl ?_
      refine H.iload s0_266 rfl ?_
      refine H.iconst s0_268 (v := (1 : Int32)) (by decide) ?_
      refine H.iadd s0_269 (w := (2 : Int32)) (by decide) ?_
      refine H.iload s0_270 rfl ?_
      refine H.aload s0_272 rfl rfl ?_
      refine H.aload s0_274 rfl rfl ?_
      refine H.aload s0_276 rfl rfl ?_
      refine H.aload s0_278 rfl rfl ?_
      refine H.callSD s0_280 (k_27 hw) (a_111 l hw n0 p0 p1 p2 p3 p4 i0 i1 i2 I0 hI0 lI0 hI1 lI1 hI2 lI2) (argsL := [(rf n0 5), (rf n0 6), (rf n0 7), (rf n0 8), (.int (2 : Int32)), (.int i1), (rf n0 1), (rf n0 2), (rf n0 3), (rf n0 4)]) (rest := []) rfl rfl rfl rfl (leb rfl) (leb rfl) (leb rfl) (leb rfl) (st' := []) rfl (k' := 9) rfl (n' := 27) rfl ?_
      refine H.iload s0_283 rfl ?_
      refine H.iconst s0_285 (v := (3 : Int32)) (by decide) ?_
      refine H.icmpF s0_286 (show ¬ (3 : Int32) < (3 : Int32) by decide) ?_
      refine H.aload s0_289 rfl rfl ?_
      refine H.aload s0_291 rfl rfl ?_
      refine H.aload s0_293 rfl rfl ?_
      refine H.aload s0_295 rfl rfl ?_
      refine H.iload s0_297 rfl ?_
      refine H.iconst s0_299 (v := (2 : Int32)) (by decide) ?_
      refine H.iadd s0_300 (w := (3 : Int32)) (by decide) ?_
      refine H.iload s0_301 rfl ?_
      refine H.aload s0_303 rfl rfl ?_
      refine H.aload s0_305 rfl rfl ?_
      refine H.aload s0_307 rfl rfl ?_
      refine H.aload s0_309 rfl rfl ?_
      refine H.callSD s0_311 (k_27 hw) (a_112 l hw n0 p0 p1 p2 p3 p4 i0 i1 i2 I0 I1 hI0 lI0 hI1 lI1 hI2 lI2) (argsL := [(rf n0 5), (rf n0 6), (rf n0 7), (rf n0 8), (.int (3 : Int32)), (.int i2), (rf n0 1), (rf n0 2), (rf n0 3), (rf n0 4)]) (rest := []) rfl rfl rfl rfl (leb rfl) (leb rfl) (leb rfl) (leb rfl) (st' := []) rfl (k' := 9) rfl (n' := 27) rfl ?_
      refine H.new s0_314 (k_2 hw) rfl (by decide) (by decide) (i := 9) rfl (A' := [.inr (.int, [(.int i0), (.int i1), (.int i2)]), .inr (.int, [(.int p0), (.int p1)]), .inr (.int, [(.int p1), (.int p2)]), .inr (.long, [(.long p3), (.long p4)]), .inr (.long, [(.long p4), (.long p3)]), .inr (.int, [(.int p2), (.int (own_selI I0 p0 p1)), (.int (own_selI I1 p0 p1)), (.int (own_selI I2 p0 p1))]), .inr (.int, [(.int p0), (.int (own_selI I0 p1 p2)), (.int (own_selI I1 p1 p2)), (.int (own_selI I2 p1 p2))]), .inr (.long, [(.long (p3 ^^^ (-1 : Int64))), (.long (own_selJ I0 p3 p4)), (.long (own_selJ I1 p3 p4)), (.long (own_selJ I2 p3 p4))]), .inr (.long, [(.long (p4 ^^^ (-1 : Int64))), (.long (own_selJ I0 p4 p3)), (.long (own_selJ I1 p4 p3)), (.long (own_selJ I2 p4 p3))]), .inl (0, [.null, .null, .null, .null, oz])]) rfl (k' := 10) rfl (n' := 32) rfl ?_
      refine H.dup s0_317 rfl ?_
      refine H.iconst s0_318 (v := (2 : Int32)) (by decide) ?_
      refine H.callCD s0_319 (k_9 hw) (a_113 l hw n0 p0 p1 p2 p3 p4 i0 i1 i2 I0 I1 I2) (argsL := [(.int (2 : Int32))]) (rest := [(rf n0 9)]) rfl rfl rfl rfl (leb rfl) (leb rfl) (leb rfl) (leb rfl) (st' := [(rf n0 9)]) rfl (k' := 14) rfl (n' := 40) rfl ?_
      refine H.astore s0_322 rfl (ls' := #[.val (.int p0), .val (.int p1), .val (.int p2), .val (.long p3), .second, .val (.long p4), .second, .val (.int p5), .val (.int (1 : Int32)), .val (.int (3 : Int32)), .val (.int i0), .val (.int i1), .val (.int i2), .val (rf n0 0), .val (rf n0 1), .val (rf n0 2), .val (rf n0 3), .val (rf n0 4), .val (rf n0 5), .val (rf n0 6), .val (rf n0 7), .val (rf n0 8), .val (rf n0 9), .unset, .unset, .unset, .unset, .unset]) rfl ?_
      refine H.aload s0_324 rfl rfl ?_
      refine H.iloadN s0_326 rfl ?_
      refine H.iloadN s0_327 rfl ?_
      refine H.lloadN s0_328 rfl ?_
      refine H.lload s0_329 rfl ?_
      refine H.callVD s0_331 (k_16 hw) (a_114 l hw n0 p0 p1 p2 p3 p4 i0 i1 i2 I0 I1 I2) (i := 9) rfl (argsL := [(.int p0), (.int p1), (.long p3), (.long p4)]) (rest := []) rfl rfl rfl rfl (leb rfl) (leb rfl) (leb rfl) (leb rfl) (st' := []) rfl (k' := 14) rfl (n' := 40) rfl ?_
      refine H.aload s0_334 rfl rfl ?_
      refine H.iloadN s0_336 rfl ?_
      refine H.iloadN s0_337 rfl ?_
      refine H.lload s0_338 rfl ?_
      refine H.lloadN s0_340 rfl ?_
      refine H.callVD s0_341 (k_16 hw) (a_115 l hw n0 p0 p1 p2 p3 p4 i0 i1 i2 I0 I1 I2) (i := 9) rfl (argsL := [(.int p1), (.int p2), (.long p4), (.long p3)]) (rest := []) rfl rfl rfl rfl (leb rfl) (leb rfl) (leb rfl) (leb rfl) (st' := []) rfl (k' := 14) rfl (n' := 40) rfl ?_
      refine H.new s0_344 (k_2 hw) rfl (by decide) (by decide) (i := 14) rfl (A' := [.inr (.int, [(.int i0), (.int i1), (.int i2)]), .inr (.int, [(.int p0), (.int p1)]), .inr (.int, [(.int p1), (.int p2)]), .inr (.long, [(.long p3), (.long p4)]), .inr (.long, [(.long p4), (.long p3)]), .inr (.int, [(.int p2), (.int (own_selI I0 p0 p1)), (.int (own_selI I1 p0 p1)), (.int (own_selI I2 p0 p1))]), .inr (.int, [(.int p0), (.int (own_selI I0 p1 p2)), (.int (own_selI I1 p1 p2)), (.int (own_selI I2 p1 p2))]), .inr (.long, [(.long (p3 ^^^ (-1 : Int64))), (.long (own_selJ I0 p3 p4)), (.long (own_selJ I1 p3 p4)), (.long (own_selJ I2 p3 p4))]), .inr (.long, [(.long (p4 ^^^ (-1 : Int64))), (.long (own_selJ I0 p4 p3)), (.long (own_selJ I1 p4 p3)), (.long (own_selJ I2 p4 p3))]), .inl (0, [(rf n0 10), (rf n0 11), (rf n0 12), (rf n0 13), (.int (2 : Int32))]), .inr (.int, [(.int p0), (.int p1)]), .inr (.int, [(.int p1), (.int p2)]), .inr (.long, [(.long p3), (.long p4)]), .inr (.long, [(.long p4), (.long p3)]), .inl (0, [.null, .null, .null, .null, oz])]) rfl (k' := 15) rfl (n' := 45) rfl ?_
      refine H.dup s0_347 rfl ?_
      refine H.iconst s0_348 (v := (4 : Int32)) (by decide) ?_
      refine H.callCD s0_349 (k_9 hw) (a_116 l hw n0 p0 p1 p2 p3 p4 i0 i1 i2 I0 I1 I2) (argsL := [(.int (4 : Int32))]) (rest := [(rf n0 14)]) rfl rfl rfl rfl (leb rfl) (leb rfl) (leb rfl) (leb rfl) (st' := [(rf n0 14)]) rfl (k' := 19) rfl (n' := 61) rfl ?_
      refine H.astore s0_352 rfl (ls' := #[.val (.int p0), .val (.int p1), .val (.int p2), .val (.long p3), .second, .val (.long p4), .second, .val (.int p5), .val (.int (1 : Int32)), .val (.int (3 : Int32)), .val (.int i0), .val (.int i1), .val (.int i2), .val (rf n0 0), .val (rf n0 1), .val (rf n0 2), .val (rf n0 3), .val (rf n0 4), .val (rf n0 5), .val (rf n0 6), .val (rf n0 7), .val (rf n0 8), .val (rf n0 9), .val (rf n0 14), .unset, .unset, .unset, .unset]) rfl ?_
      refine H.iload s0_354 rfl ?_
      refine H.iconst s0_356 (v := (1 : Int32)) (by decide) ?_
      refine H.icmpF s0_357 (show (1 : Int32) = (1 : Int32) by decide) ?_
      refine H.aload s0_360 rfl rfl ?_
      refine H.iloadN s0_362 rfl ?_
      refine H.iloadN s0_363 rfl ?_
      refine H.lloadN s0_364 rfl ?_
      refine H.ldc2 s0_365 (k_28 hw) ?_
      refine H.lxor s0_368 rfl ?_
      refine H.lload s0_369 rfl ?_
      refine H.ldc2 s0_371 (k_28 hw) ?_
      refine H.lxor s0_374 rfl ?_
      refine H.callVD s0_375 (k_16 hw) (a_117 l hw n0 p0 p1 p2 p3 p4 i0 i1 i2 I0 I1 I2) (i := 14) rfl (argsL := [(.int p2), (.int p0), (.long (p3 ^^^ (-1 : Int64))), (.long (p4 ^^^ (-1 : Int64)))]) (rest := []) rfl rfl rfl rfl (leb rfl) (leb rfl) (leb rfl) (leb rfl) (st' := []) rfl (k' := 19) rfl (n' := 61) rfl ?_
      refine H.aload s0_378 rfl rfl ?_
      refine H.aload s0_380 rfl rfl ?_
      refine H.aload s0_382 rfl rfl ?_
      refine H.callVD s0_384 (k_18 hw) (a_118 l hw n0 p0 p1 p2 p3 p4 i0 i1 i2 I0 I1 I2 hI0 lI0 hI1 lI1 hI2 lI2) (i := 14) rfl (argsL := [(rf n0 9), (rf n0 0)]) (rest := []) rfl rfl rfl rfl (leb rfl) (leb rfl) (leb rfl) (leb rfl) (st' := []) rfl (k' := 19) rfl (n' := 61) rfl ?_
      refine H.aload s0_387 rfl rfl ?_
      refine H.callVD s0_389 (k_19 hw) (a_119 l hw n0 p0 p1 p2 p3 p4 i0 i1 i2 I0 I1 I2) (i := 14) rfl (argsL := []) (rest := []) rfl rfl rfl rfl (leb rfl) (leb rfl) (leb rfl) (leb rfl) (st' := [(.int (4 : Int32))]) rfl (k' := 19) rfl (n' := 61) rfl ?_
      refine H.iload s0_392 rfl ?_
      refine H.iload s0_394 rfl ?_
      refine H.iadd s0_396 (w := (4 : Int32)) (by decide) ?_
      refine H.icmpT s0_397 (show (4 : Int32) = (4 : Int32) by decide) ?_
      refine H.aload s0_402 rfl rfl ?_
      refine H.callVD s0_404 (k_20 hw) (a_120 l hw n0 p0 p1 p2 p3 p4 i0 i1 i2 I0 I1 I2) (i := 14) rfl (argsL := []) (rest := []) rfl rfl rfl rfl (leb rfl) (leb rfl) (leb rfl) (leb rfl) (st' := [(rf n0 15)]) rfl (k' := 19) rfl (n' := 61) rfl ?_
      refine H.astore s0_407 rfl (ls' := #[.val (.int p0), .val (.int p1), .val (.int p2), .val (.long p3), .second, .val (.long p4), .second, .val (.int p5), .val (.int (1 : Int32)), .val (.int (3 : Int32)), .val (.int i0), .val (.int i1), .val (.int i2), .val (rf n0 0), .val (rf n0 1), .val (rf n0 2), .val (rf n0 3), .val (rf n0 4), .val (rf n0 5), .val (rf n0 6), .val (rf n0 7), .val (rf n0 8), .val (rf n0 9), .val (rf n0 14), .val (rf n0 15), .unset, .unset, .unset]) rfl ?_
      refine H.aload s0_409 rfl rfl ?_
      refine H.callVD s0_411 (k_21 hw) (a_121 l hw n0 p0 p1 p2 p3 p4 i0 i1 i2 I0 I1 I2) (i := 14) rfl (argsL := []) (rest := []) rfl rfl rfl rfl (leb rfl) (leb rfl) (leb rfl) (leb rfl) (st' := [(rf n0 16)]) rfl (k' := 19) rfl (n' := 61) rfl ?_
      refine H.astore s0_414 rfl (ls' := #[.val (.int p0), .val (.int p1), .val (.int p2), .val (.long p3), .second, .val (.long p4), .second, .val (.int p5), .val (.int (1 : Int32)), .val (.int (3 : Int32)), .val (.int i0), .val (.int i1), .val (.int i2), .val (rf n0 0), .val (rf n0 1), .val (rf n0 2), .val (rf n0 3), .val (rf n0 4), .val (rf n0 5), .val (rf n0 6), .val (rf n0 7), .val (rf n0 8), .val (rf n0 9), .val (rf n0 14), .val (rf n0 15), .val (rf n0 16), .unset, .unset]) rfl ?_
      refine H.aload s0_416 rfl rfl ?_
      refine H.callVD s0_418 (k_22 hw) (a_122 l hw n0 p0 p1 p2 p3 p4 i0 i1 i2 I0 I1 I2) (i := 14) rfl (argsL := []) (rest := []) rfl rfl rfl rfl (leb rfl) (leb rfl) (leb rfl) (leb rfl) (st' := [(rf n0 17)]) rfl (k' := 19) rfl (n' := 61) rfl ?_
      refine H.astore s0_421 rfl (ls' := #[.val (.int p0), .val (.int p1), .val (.int p2), .val (.long p3), .second, .val (.long p4), .second, .val (.int p5), .val (.int (1 : Int32)), .val (.int (3 : Int32)), .val (.int i0), .val (.int i1), .val (.int i2), .val (rf n0 0), .val (rf n0 1), .val (rf n0 2), .val (rf n0 3), .val (rf n0 4), .val (rf n0 5), .val (rf n0 6), .val (rf n0 7), .val (rf n0 8), .val (rf n0 9), .val (rf n0 14), .val (rf n0 15), .val (rf n0 16), .val (rf n0 17), .unset]) rfl ?_
      refine H.aload s0_423 rfl rfl ?_
      refine H.callVD s0_425 (k_23 hw) (a_123 l hw n0 p0 p1 p2 p3 p4 i0 i1 i2 I0 I1 I2) (i := 14) rfl (argsL := []) (rest := []) rfl rfl rfl rfl (leb rfl) (leb rfl) (leb rfl) (leb rfl) (st' := [(rf n0 18)]) rfl (k' := 19) rfl (n' := 61) rfl ?_
      refine H.astore s0_428 rfl (ls' := #[.val (.int p0), .val (.int p1), .val (.int p2), .val (.long p3), .second, .val (.long p4), .second, .val (.int p5), .val (.int (1 : Int32)), .val (.int (3 : Int32)), .val (.int i0), .val (.int i1), .val (.int i2), .val (rf n0 0), .val (rf n0 1), .val (rf n0 2), .val (rf n0 3), .val (rf n0 4), .val (rf n0 5), .val (rf n0 6), .val (rf n0 7), .val (rf n0 8), .val (rf n0 9), .val (rf n0 14), .val (rf n0 15), .val (rf n0 16), .val (rf n0 17), .val (rf n0 18)]) rfl ?_
      refine H.aload s0_430 rfl rfl ?_
      refine H.aload s0_432 rfl rfl ?_
      refine H.callSD s0_434 (k_25 hw) (a_124 l hw n0 p0 p1 p2 p3 p4 i0 i1 i2 I0 I1 I2) (argsL := [(rf n0 15), (rf n0 5)]) (rest := []) rfl rfl rfl rfl (leb rfl) (leb rfl) (leb rfl) (leb rfl) (st' := [(.int (1 : Int32))]) rfl (k' := 19) rfl (n' := 61) rfl ?_
      refine H.ifF s0_437 (show ¬ (1 : Int32) = (0 : Int32) by decide) ?_
      refine H.aload s0_440 rfl rfl ?_
      refine H.aload s0_442 rfl rfl ?_
      refine H.callSD s0_444 (k_25 hw) (a_125 l hw n0 p0 p1 p2 p3 p4 i0 i1 i2 I0 I1 I2) (argsL := [(rf n0 16), (rf n0 6)]) (rest := []) rfl rfl rfl rfl (leb rfl) (leb rfl) (leb rfl) (leb rfl) (st' := [(.int (1 : Int32))]) rfl (k' := 19) rfl (n' := 61) rfl ?_
      refine H.ifF s0_447 (show ¬ (1 : Int32) = (0 : Int32) by decide) ?_
      refine H.aload s0_450 rfl rfl ?_
      refine H.aload s0_452 rfl rfl ?_
      refine H.callSD s0_454 (k_26 hw) (a_126 l hw n0 p0 p1 p2 p3 p4 i0 i1 i2 I0 I1 I2) (argsL := [(rf n0 17), (rf n0 7)]) (rest := []) rfl rfl rfl rfl (leb rfl) (leb rfl) (leb rfl) (leb rfl) (st' := [(.int (1 : Int32))]) rfl (k' := 19) rfl (n' := 61) rfl ?_
      refine H.ifF s0_457 (show ¬ (1 : Int32) = (0 : Int32) by decide) ?_
      refine H.aload s0_460 rfl rfl ?_
      refine H.aload s0_462 rfl rfl ?_
      refine H.callSD s0_464 (k_26 hw) (a_127 l hw n0 p0 p1 p2 p3 p4 i0 i1 i2 I0 I1 I2) (argsL := [(rf n0 18), (rf n0 8)]) (rest := []) rfl rfl rfl rfl (leb rfl) (leb rfl) (leb rfl) (leb rfl) (st' := [(.int (1 : Int32))]) rfl (k' := 19) rfl (n' := 61) rfl ?_
      refine H.ifF s0_467 (show ¬ (1 : Int32) = (0 : Int32) by decide) ?_
      refine H.iconst s0_470 (v := (1 : Int32)) (by decide) ?_
      refine H.goto s0_471 ?_
      exact H.ireturn s0_475 rfl (by simp) rfl rfl (by decide) (by decide)

set_option maxRecDepth 65536 in
set_option maxHeartbeats 40000000 in
theorem comes_1 {Post : Tables → Env → Array Value → State → Outcome → State → Prop} (hpost : ∀ tb e args s v u, (limb_1_1.after args s (.returned v) u = true ∧ limb_1_2.after args s (.returned v) u = true ∧ True) → FrameEnd s (.returned v) u (Jvm.fieldLocs frame_1_writes args s ++ Jvm.arrayLocs frame_1_arrays args s ++ Jvm.staticLocs frame_1_statics s) 48 192 → Post tb e args s (.returned v) u) :
    ArmFor flags0 classFile x code maxLocals ret World_1 tables_1 room_1 Calls_1 rest_1 Pre_1 Post := by
  intro l hfl _ _ p e ha hc hk s m args below hf hA hF happ hP
  obtain ⟨hcalls, hrest, hpre⟩ := hP
  obtain ⟨-, -, -, hnamed, -, -, -, hat⟩ := (Spec.applies_iff hf).mp happ
  obtain ⟨hg, hn⟩ := and_e (Cond.before_iff.mp (show (Jvm.Cond.and given_1 narrow_1).before args s = true from hpre))
  obtain ⟨hc0, hr0⟩ := and_e hg
  obtain ⟨w0, w1, w2, w3, w4, w5, rfl⟩ : ∃ w0 w1 w2 w3 w4 w5 : Value, args = #[w0, w1, w2, w3, w4, w5] := by
    have hs : args.size = 6 := by simpa [Cond.value, given_1] using hc0
    obtain ⟨L⟩ := args
    match L, hs with
    | [w0, w1, w2, w3, w4, w5], _ => exact ⟨w0, w1, w2, w3, w4, w5, rfl⟩
  have hw : HW1 s _ := fun d (hd : d ∈ tables_1) => atoms_spec (ws := Jvm.Cond.code x code maxLocals ret :: tables_1) hat d (List.mem_cons_of_mem _ hd)
  obtain ⟨hx0, hr1⟩ := and_e hr0
  obtain ⟨i0, ee0⟩ := is_v hx0
  obtain rfl : w0 = (.int i0) := Option.some.inj ee0
  obtain ⟨hx1, hr2⟩ := and_e hr1
  obtain ⟨i1, ee1⟩ := is_v hx1
  obtain rfl : w1 = (.int i1) := Option.some.inj ee1
  obtain ⟨hx2, hr3⟩ := and_e hr2
  obtain ⟨i2, ee2⟩ := is_v hx2
  obtain rfl : w2 = (.int i2) := Option.some.inj ee2
  obtain ⟨hx3, hr4⟩ := and_e hr3
  obtain ⟨i3, ee3⟩ := isL_v hx3
  obtain rfl : w3 = (.long i3) := Option.some.inj ee3
  obtain ⟨hx4, hr5⟩ := and_e hr4
  obtain ⟨i4, ee4⟩ := isL_v hx4
  obtain rfl : w4 = (.long i4) := Option.some.inj ee4
  have hx5 := hr5
  obtain ⟨i5, ee5⟩ := is_v hx5
  obtain rfl : w5 = (.int i5) := Option.some.inj ee5
  obtain ⟨n, o, h1, h2, h3, _, L, rfl, ⟨A', rfl, hRel, N⟩, hq⟩ := law_met l hw s.heap.size i0 i1 i2 i3 i4 i5 tables_1 s.heap ⟨rfl, fun i o h => by simp at h⟩ p e ha hc hk s m _ below hf ((Spec.applies_iff_loose hf).mp happ).1 ⟨rfl, State.Warmed39.refl s, rfl⟩ trivial
  refine ⟨n, _, h1, h2, h3, hpost _ _ _ _ _ _ ⟨Cond.after_iff.mpr rfl, Cond.after_iff.mpr (eq_i res_at (Term.int_eval (1)) rfl), trivial⟩ ⟨hq.1, hq.2.1, (hq.2.2.sift fun y hy => Or.inr (N y hy)).mono (by decide) (by decide)⟩⟩
theorem main_1_1 : Claimed_1_1 := comes_1 fun _ _ _ _ _ _ h hF => ⟨h.1, hF⟩
theorem main_1_2 : Claimed_1_2 := comes_1 fun _ _ _ _ _ _ h hF => ⟨h.2.1, hF⟩
end Jvm.Pilot.@@N@@
namespace Jvm.Pilot.@@N@@
open Jvm Jvm.ClassFile Sem Op Lib Jvm.Free Jvm.Stand Jvm.Pilot.@@N@@.Jvm.D
/-! MADE BY PROGRAM (witnessworld.py) out of the Statement's table words and the real class files: 11 classes; the members and pool entries that the words name. The judged class is class 1, her method 1. -/
namespace start1
open Jvm.ClassFile
def u (s : String) : CpInfo := .utf8 (stringToUtf16 s)
/-- a pool by its gaps: so many unusable entries, then the entry; so many at the end -/
def gap : Nat → List CpInfo → List CpInfo
  | 0, r => r
  | n + 1, r => .unusable :: gap n r
def poolList (es : List (Nat × CpInfo)) (last : Nat) : List CpInfo := es.foldr (fun e r => gap e.1 (e.2 :: r)) (gap last [])
def pool (es : List (Nat × CpInfo)) (last : Nat) : Array CpInfo := ⟨poolList es last⟩
def fileOf (pool : Array CpInfo) (this : Nat) (attrs : Array Attribute := #[]) (ms : Array MethodInfo := #[]) (fl : Nat := 33) (sup : Nat := 0) (ifs : Array Nat := #[]) (fds : Array FieldInfo := #[]) : ClassFile where
  minorVersion := 0
  majorVersion := 65
  constantPool := pool
  accessFlags := fl
  thisClass := this
  superClass := sup
  interfaces := ifs
  fields := fds
  methods := ms
  attributes := attrs
def plain (name : String) (sup : Option ClassId) : Class where
  name := name
  kind := .ordinary
  loader := none
  accessFlags := 33
  super := sup
  interfaces := #[]
  cf := none
  fields := #[]
  methods := #[]
  instanceTypes := #[]
  staticTypes := #[]
  resolved := #[]
  callSites := []
  init := .initialized
  statics := none
  mirror := none

def pool0 : Array CpInfo := pool [(5, u "<init>"), (0, u "()V"), (1, .class_ 10), (1, u "java/lang/Object")] 113

def k0c0 : Code := { maxStack := 0, maxLocals := 1, code := object_method_1_code, exceptionTable := #[], attributes := #[] }
def k0m0 : Method := { name := "<init>", desc := "()V", sig := { parameters := [], returnType := none }, accessFlags := 1, code := some k0c0 }
/-- java/lang/Object -/
def k0 : Class := { plain "java/lang/Object" none with
  accessFlags := 33
  interfaces := #[]
  cf := some (fileOf pool0 8 #[] #[{ accessFlags := 1, nameIndex := 5, descriptorIndex := 6, attributes := #[] }] 33 0 #[] #[])
  fields := #[]
  methods := #[k0m0]
  instanceTypes := #[]
  staticTypes := #[]
  resolved := Array.replicate 124 none
  statics := none }

def pool1 : Array CpInfo := pool [(2, .class_ 4), (1, u "java/lang/Object"), (0, u "<init>"), (0, u "()V"), (0, .long 18446744073709551615), (1, .methodref 10 11), (0, .class_ 12), (0, .nameAndType 13 14), (0, u "com/example/wavegrant/wavegrant/LaidGrantsAddAllPinLaw"), (0, u "place"), (0, u "([I[I[J[JII[I[I[J[J)V"), (0, .class_ 16), (0, u "com/example/wavegrant/wavegrant/LaidGrants"), (0, .methodref 15 18), (0, .nameAndType 5 19), (0, u "(I)V"), (0, .methodref 15 21), (0, .nameAndType 22 23), (0, u "add"), (0, u "(IIJJ)V"), (0, .methodref 15 25), (0, .nameAndType 26 27), (0, u "addAll"), (0, u "(Lcom/example/wavegrant/wavegrant/LaidGrants;[I)V"), (0, .methodref 15 29), (0, .nameAndType 30 31), (0, u "count"), (0, u "()I"), (0, .methodref 15 33), (0, .nameAndType 34 35), (0, u "onus"), (0, u "()[I"), (0, .methodref 15 37), (0, .nameAndType 38 35), (0, u "wavelengths"), (0, .methodref 15 40), (0, .nameAndType 41 42), (0, u "starts"), (0, u "()[J"), (0, .methodref 15 44), (0, .nameAndType 45 42), (0, u "ends"), (0, .methodref 10 47), (0, .nameAndType 48 49), (0, u "sameI"), (0, u "([I[I)Z"), (0, .methodref 10 51), (0, .nameAndType 52 53), (0, u "sameL"), (0, u "([J[J)Z"), (2, u "law"), (0, u "(IIIJJI)Z")] 7

def k1m0 : Method := { name := "<init>", desc := "()V", sig := { parameters := [], returnType := none }, accessFlags := 1, code := none }
def k1c1 : Code := { maxStack := 10, maxLocals := 28, code := code, exceptionTable := #[], attributes := #[] }
def k1m1 : Method := { name := "law", desc := "(IIIJJI)Z", sig := { parameters := [.int, .int, .int, .long, .long, .int], returnType := some .boolean }, accessFlags := 9, code := some k1c1 }
def k1c2 : Code := { maxStack := 4, maxLocals := 10, code := method_3_code, exceptionTable := #[], attributes := #[] }
def k1m2 : Method := { name := "place", desc := "([I[I[J[JII[I[I[J[J)V", sig := { parameters := [(.array .int), (.array .int), (.array .long), (.array .long), .int, .int, (.array .int), (.array .int), (.array .long), (.array .long)], returnType := none }, accessFlags := 10, code := some k1c2 }
def k1c3 : Code := { maxStack := 3, maxLocals := 2, code := method_4_code, exceptionTable := #[], attributes := #[] }
def k1m3 : Method := { name := "sameI", desc := "([I[I)Z", sig := { parameters := [(.array .int), (.array .int)], returnType := some .boolean }, accessFlags := 10, code := some k1c3 }
def k1c4 : Code := { maxStack := 4, maxLocals := 2, code := method_5_code, exceptionTable := #[], attributes := #[] }
def k1m4 : Method := { name := "sameL", desc := "([J[J)Z", sig := { parameters := [(.array .long), (.array .long)], returnType := some .boolean }, accessFlags := 10, code := some k1c4 }
/-- com/example/wavegrant/wavegrant/LaidGrantsAddAllPinLaw -/
def k1 : Class := { plain "com/example/wavegrant/wavegrant/LaidGrantsAddAllPinLaw" (some 0) with
  accessFlags := 49
  interfaces := #[]
  cf := some (fileOf pool1 10 #[] #[{ accessFlags := 1, nameIndex := 5, descriptorIndex := 6, attributes := #[] }, { accessFlags := 9, nameIndex := 56, descriptorIndex := 57, attributes := #[] }, { accessFlags := 10, nameIndex := 13, descriptorIndex := 14, attributes := #[] }, { accessFlags := 10, nameIndex := 48, descriptorIndex := 49, attributes := #[] }, { accessFlags := 10, nameIndex := 52, descriptorIndex := 53, attributes := #[] }] 49 2 #[] #[])
  fields := #[]
  methods := #[k1m0, k1m1, k1m2, k1m3, k1m4]
  instanceTypes := #[]
  staticTypes := #[]
  resolved := Array.replicate 65 none
  statics := none }

def pool2 : Array CpInfo := pool [(1, .methodref 2 3), (0, .class_ 4), (0, .nameAndType 5 6), (0, u "java/lang/Object"), (0, u "<init>"), (0, u "()V"), (0, .fieldref 8 9), (0, .class_ 10), (0, .nameAndType 11 12), (0, u "com/example/wavegrant/wavegrant/LaidGrants"), (0, u "onus"), (0, u "[I"), (0, .fieldref 8 14), (0, .nameAndType 15 12), (0, u "wavelengths"), (0, .fieldref 8 17), (0, .nameAndType 18 19), (0, u "starts"), (0, u "[J"), (0, .fieldref 8 21), (0, .nameAndType 22 19), (0, u "ends"), (0, .fieldref 8 24), (0, .nameAndType 25 26), (0, u "count"), (0, u "I"), (6, u "(I)V"), (2, u "add"), (0, u "(IIJJ)V"), (0, u "addAll"), (1, u "(Lcom/example/wavegrant/wavegrant/LaidGrants;[I)V"), (1, u "()I"), (0, u "()[I"), (0, u "()[J")] 2

def k2c0 : Code := { maxStack := 2, maxLocals := 2, code := prog_15_method_1_code, exceptionTable := #[], attributes := #[] }
def k2m0 : Method := { name := "<init>", desc := "(I)V", sig := { parameters := [.int], returnType := none }, accessFlags := 0, code := some k2c0 }
def k2c1 : Code := { maxStack := 4, maxLocals := 7, code := prog_15_method_2_code, exceptionTable := #[], attributes := #[] }
def k2m1 : Method := { name := "add", desc := "(IIJJ)V", sig := { parameters := [.int, .int, .long, .long], returnType := none }, accessFlags := 0, code := some k2c1 }
def k2c2 : Code := { maxStack := 4, maxLocals := 5, code := prog_15_method_4_code, exceptionTable := #[], attributes := #[] }
def k2m2 : Method := { name := "addAll", desc := "(Lcom/example/wavegrant/wavegrant/LaidGrants;[I)V", sig := { parameters := [(.object "com/example/wavegrant/wavegrant/LaidGrants"), (.array .int)], returnType := none }, accessFlags := 0, code := some k2c2 }
def k2c3 : Code := { maxStack := 1, maxLocals := 1, code := prog_15_method_5_code, exceptionTable := #[], attributes := #[] }
def k2m3 : Method := { name := "count", desc := "()I", sig := { parameters := [], returnType := some .int }, accessFlags := 0, code := some k2c3 }
def k2c4 : Code := { maxStack := 1, maxLocals := 1, code := prog_15_method_6_code, exceptionTable := #[], attributes := #[] }
def k2m4 : Method := { name := "onus", desc := "()[I", sig := { parameters := [], returnType := some (.array .int) }, accessFlags := 0, code := some k2c4 }
def k2c5 : Code := { maxStack := 1, maxLocals := 1, code := prog_15_method_7_code, exceptionTable := #[], attributes := #[] }
def k2m5 : Method := { name := "wavelengths", desc := "()[I", sig := { parameters := [], returnType := some (.array .int) }, accessFlags := 0, code := some k2c5 }
def k2c6 : Code := { maxStack := 1, maxLocals := 1, code := prog_15_method_8_code, exceptionTable := #[], attributes := #[] }
def k2m6 : Method := { name := "starts", desc := "()[J", sig := { parameters := [], returnType := some (.array .long) }, accessFlags := 0, code := some k2c6 }
def k2c7 : Code := { maxStack := 1, maxLocals := 1, code := prog_15_method_9_code, exceptionTable := #[], attributes := #[] }
def k2m7 : Method := { name := "ends", desc := "()[J", sig := { parameters := [], returnType := some (.array .long) }, accessFlags := 0, code := some k2c7 }
/-- com/example/wavegrant/wavegrant/LaidGrants -/
def k2 : Class := { plain "com/example/wavegrant/wavegrant/LaidGrants" (some 0) with
  accessFlags := 48
  interfaces := #[]
  cf := some (fileOf pool2 8 #[] #[{ accessFlags := 0, nameIndex := 5, descriptorIndex := 33, attributes := #[] }, { accessFlags := 0, nameIndex := 36, descriptorIndex := 37, attributes := #[] }, { accessFlags := 0, nameIndex := 38, descriptorIndex := 40, attributes := #[] }, { accessFlags := 0, nameIndex := 25, descriptorIndex := 42, attributes := #[] }, { accessFlags := 0, nameIndex := 11, descriptorIndex := 43, attributes := #[] }, { accessFlags := 0, nameIndex := 15, descriptorIndex := 43, attributes := #[] }, { accessFlags := 0, nameIndex := 18, descriptorIndex := 44, attributes := #[] }, { accessFlags := 0, nameIndex := 22, descriptorIndex := 44, attributes := #[] }] 48 2 #[] #[{ accessFlags := 18, nameIndex := 11, descriptorIndex := 12, attributes := #[] }, { accessFlags := 18, nameIndex := 15, descriptorIndex := 12, attributes := #[] }, { accessFlags := 18, nameIndex := 18, descriptorIndex := 19, attributes := #[] }, { accessFlags := 18, nameIndex := 22, descriptorIndex := 19, attributes := #[] }, { accessFlags := 2, nameIndex := 25, descriptorIndex := 26, attributes := #[] }])
  fields := #[{ name := "onus", type := (.array .int), accessFlags := 18, slot := 0, constantValue := 0 }, { name := "wavelengths", type := (.array .int), accessFlags := 18, slot := 1, constantValue := 0 }, { name := "starts", type := (.array .long), accessFlags := 18, slot := 2, constantValue := 0 }, { name := "ends", type := (.array .long), accessFlags := 18, slot := 3, constantValue := 0 }, { name := "count", type := .int, accessFlags := 2, slot := 4, constantValue := 0 }]
  methods := #[k2m0, k2m1, k2m2, k2m3, k2m4, k2m5, k2m6, k2m7]
  instanceTypes := #[(.array .int), (.array .int), (.array .long), (.array .long), .int]
  staticTypes := #[]
  resolved := Array.replicate 47 none
  statics := none }

def pool3 : Array CpInfo := pool [(1, u "java/lang/Cloneable"), (0, .class_ 1), (0, u "java/lang/Object"), (0, .class_ 3)] 3

/-- java/lang/Cloneable -/
def k3 : Class := { plain "java/lang/Cloneable" (some 0) with
  accessFlags := 1537
  interfaces := #[]
  cf := some (fileOf pool3 2 #[] #[] 1537 4 #[] #[])
  fields := #[]
  methods := #[]
  instanceTypes := #[]
  staticTypes := #[]
  resolved := Array.replicate 8 none
  statics := none }

def pool4 : Array CpInfo := pool [(1, u "java/io/Serializable"), (0, .class_ 1), (0, u "java/lang/Object"), (0, .class_ 3)] 3

/-- java/io/Serializable -/
def k4 : Class := { plain "java/io/Serializable" (some 0) with
  accessFlags := 1537
  interfaces := #[]
  cf := some (fileOf pool4 2 #[] #[] 1537 4 #[] #[])
  fields := #[]
  methods := #[]
  instanceTypes := #[]
  staticTypes := #[]
  resolved := Array.replicate 8 none
  statics := none }

/-- the primitive byte -/
def k5 : Class := { plain "byte" none with kind := .primitive 'B', accessFlags := 0x411 }
/-- [B -/
def k6 : Class := { plain "[B" (some 0) with kind := .array 5 .byte, interfaces := #[3, 4], accessFlags := 1041 }

/-- the primitive int -/
def k7 : Class := { plain "int" none with kind := .primitive 'I', accessFlags := 0x411 }
/-- [I -/
def k8 : Class := { plain "[I" (some 0) with kind := .array 7 .int, interfaces := #[3, 4], accessFlags := 1041 }

/-- the primitive long -/
def k9 : Class := { plain "long" none with kind := .primitive 'J', accessFlags := 0x411 }
/-- [J -/
def k10 : Class := { plain "[J" (some 0) with kind := .array 9 .long, interfaces := #[3, 4], accessFlags := 1041 }

def heap : Heap := #[]
def classes : Array Class := #[k0, k1, k2, k3, k4, k5, k6, k7, k8, k9, k10]
def interned : List (Array UInt16 × Addr) := []
def slotsUsed : Nat := 0
def theMethod : MethodId := ⟨1, 1⟩
def args0 : Array Value := #[.int 5, .int 6, .int 7, .long 10, .long 11, .int 10]
def aboutOver (below : List Frame) : State where
  vm := { classes := classes, interned := interned.toArray }
  heap := heap
  slotsUsed := slotsUsed
  threads := #[{ frames := .invoking theMethod args0 :: below }]
def below0 : List Frame := [.native { method := ⟨0, 0⟩, args := #[] }]
def about1 : State := aboutOver below0
def p0 : Program := .bare "" "" ""
def e0 : Env := launch0.env 0 0 0
theorem w_frames : about1.frames = Frame.invoking theMethod args0 :: below0 := rfl
set_option maxRecDepth 65536 in
theorem w_args : argsFit about1.vm theMethod args0 = true := by decide +kernel
set_option maxRecDepth 65536 in
theorem w_heap : heapFits about1 = true := by decide +kernel
set_option maxRecDepth 65536 in
theorem w_runnable : about1.curStatus? = some .runnable := by decide +kernel
set_option maxRecDepth 65536 in
theorem w_alone : about1.alone = true := by decide +kernel
set_option maxRecDepth 65536 in
theorem w_named : about1.methodNamed? x = some theMethod := by decide +kernel
set_option maxRecDepth 65536 in
theorem w_hears : about1.hears theMethod below0 = true := by decide +kernel
set_option maxRecDepth 65536 in
theorem w_ripe : about1.ripe theMethod args0 below0 = true := by decide +kernel
theorem w_running : about1.status = .running := rfl
set_option maxRecDepth 65536 in
theorem w_room : about1.hasRoom e0.platform room_1 = true :=
  launch0.hasRoom_least _ room_1 (by decide +kernel) (by decide +kernel) (by decide +kernel) (by decide +kernel) (by decide +kernel) (by decide +kernel)
theorem allAtoms_all (ts : List Jvm.Cond) (a : Array Jvm.Value) (st : Jvm.State) : (allAtoms ts).before a st = ts.all (fun c => c.before a st) := by
  induction ts with
  | nil => rfl
  | cons c t ih =>
    show (Jvm.Cond.and c (allAtoms t)).before a st = _
    rw [Jvm.Cond.before_and, ih, List.all_cons]
def words1 : List Jvm.Cond := Jvm.Cond.code x code maxLocals ret :: tables_1
/-- a 'code' word, met by the world's own term for the bytes: nothing is compared byte by byte -/
theorem code_word {y : MethodName} {bytes : ByteArray} {mx : Nat} {rt : Option FieldType} {a : Array Value} {s : State} {m : MethodId} {meth : Method} {c : Code} (h1 : s.methodNamed? y = some m) (h2 : s.vm.method? m = some meth) (h3 : meth.code = some c) (h4 : c.code = bytes)
    (h5 : (c.maxLocals == mx && c.exceptionTable.isEmpty && decide (c.maxStack ≤ mostOperands) && decide (meth.sig.returnType = rt) && !meth.locks && decide (parseMethodDescriptor y.desc = some meth.sig)) = true) : (Jvm.Cond.code y bytes mx rt).before a s = true := by
  simp only [Bool.and_eq_true, beq_iff_eq, Bool.not_eq_true', decide_eq_true_eq] at h5
  obtain ⟨⟨⟨⟨⟨g1, g2⟩, g3⟩, g4⟩, g5⟩, g6⟩ := h5
  simp [Cond.before, Cond.holds, Cond.value, h1, h2, h3, h4, g1, g2, g3, g4, g5, g6]
def isCode : Jvm.Cond → Bool
  | .code _ _ _ _ => true
  | _ => false
theorem all_split {L : List Jvm.Cond} {P : Jvm.Cond → Bool} (h1 : L.all (fun c => isCode c || P c) = true) (h2 : ∀ c ∈ L.filter isCode, P c = true) : L.all P = true := by
  refine List.all_eq_true.mpr fun c hc => ?_
  have h := List.all_eq_true.mp h1 c hc
  rcases Bool.eq_false_or_eq_true (isCode c) with hi | hi
  · exact h2 c (List.mem_filter.mpr ⟨hc, hi⟩)
  · simpa [hi] using h
set_option maxRecDepth 65536 in
theorem w_c0 : (Jvm.Cond.code x code maxLocals ret).before args0 about1 = true := code_word (m := ⟨1, 1⟩) (meth := k1m1) (c := k1c1) (by decide +kernel) rfl rfl rfl (by decide +kernel)
set_option maxRecDepth 65536 in
theorem w_c1 : (Jvm.Cond.code ({ cls := "com/example/wavegrant/wavegrant/LaidGrantsAddAllPinLaw", name := "place", desc := "([I[I[J[JII[I[I[J[J)V" } : Jvm.MethodName) method_3_code (10 : Nat) (Option.none : Option Jvm.ClassFile.FieldType)).before args0 about1 = true := code_word (m := ⟨1, 2⟩) (meth := k1m2) (c := k1c2) (by decide +kernel) rfl rfl rfl (by decide +kernel)
set_option maxRecDepth 65536 in
theorem w_c2 : (Jvm.Cond.code ({ cls := "com/example/wavegrant/wavegrant/LaidGrants", name := "<init>", desc := "(I)V" } : Jvm.MethodName) prog_15_method_1_code (2 : Nat) (Option.none : Option Jvm.ClassFile.FieldType)).before args0 about1 = true := code_word (m := ⟨2, 0⟩) (meth := k2m0) (c := k2c0) (by decide +kernel) rfl rfl rfl (by decide +kernel)
set_option maxRecDepth 65536 in
theorem w_c3 : (Jvm.Cond.code ({ cls := "java/lang/Object", name := "<init>", desc := "()V" } : Jvm.MethodName) object_method_1_code (1 : Nat) (Option.none : Option Jvm.ClassFile.FieldType)).before args0 about1 = true := code_word (m := ⟨0, 0⟩) (meth := k0m0) (c := k0c0) (by decide +kernel) rfl rfl rfl (by decide +kernel)
set_option maxRecDepth 65536 in
theorem w_c4 : (Jvm.Cond.code ({ cls := "com/example/wavegrant/wavegrant/LaidGrants", name := "add", desc := "(IIJJ)V" } : Jvm.MethodName) prog_15_method_2_code (7 : Nat) (Option.none : Option Jvm.ClassFile.FieldType)).before args0 about1 = true := code_word (m := ⟨2, 1⟩) (meth := k2m1) (c := k2c1) (by decide +kernel) rfl rfl rfl (by decide +kernel)
set_option maxRecDepth 65536 in
theorem w_c5 : (Jvm.Cond.code ({ cls := "com/example/wavegrant/wavegrant/LaidGrants", name := "addAll", desc := "(Lcom/example/wavegrant/wavegrant/LaidGrants;[I)V" } : Jvm.MethodName) prog_15_method_4_code (5 : Nat) (Option.none : Option Jvm.ClassFile.FieldType)).before args0 about1 = true := code_word (m := ⟨2, 2⟩) (meth := k2m2) (c := k2c2) (by decide +kernel) rfl rfl rfl (by decide +kernel)
set_option maxRecDepth 65536 in
theorem w_c6 : (Jvm.Cond.code ({ cls := "com/example/wavegrant/wavegrant/LaidGrants", name := "count", desc := "()I" } : Jvm.MethodName) prog_15_method_5_code (1 : Nat) (Option.some Jvm.ClassFile.FieldType.int)).before args0 about1 = true := code_word (m := ⟨2, 3⟩) (meth := k2m3) (c := k2c3) (by decide +kernel) rfl rfl rfl (by decide +kernel)
set_option maxRecDepth 65536 in
theorem w_c7 : (Jvm.Cond.code ({ cls := "com/example/wavegrant/wavegrant/LaidGrants", name := "onus", desc := "()[I" } : Jvm.MethodName) prog_15_method_6_code (1 : Nat) (Option.some (Jvm.ClassFile.FieldType.array Jvm.ClassFile.FieldType.int))).before args0 about1 = true := code_word (m := ⟨2, 4⟩) (meth := k2m4) (c := k2c4) (by decide +kernel) rfl rfl rfl (by decide +kernel)
set_option maxRecDepth 65536 in
theorem w_c8 : (Jvm.Cond.code ({ cls := "com/example/wavegrant/wavegrant/LaidGrants", name := "wavelengths", desc := "()[I" } : Jvm.MethodName) prog_15_method_7_code (1 : Nat) (Option.some (Jvm.ClassFile.FieldType.array Jvm.ClassFile.FieldType.int))).before args0 about1 = true := code_word (m := ⟨2, 5⟩) (meth := k2m5) (c := k2c5) (by decide +kernel) rfl rfl rfl (by decide +kernel)
set_option maxRecDepth 65536 in
theorem w_c9 : (Jvm.Cond.code ({ cls := "com/example/wavegrant/wavegrant/LaidGrants", name := "starts", desc := "()[J" } : Jvm.MethodName) prog_15_method_8_code (1 : Nat) (Option.some (Jvm.ClassFile.FieldType.array Jvm.ClassFile.FieldType.long))).before args0 about1 = true := code_word (m := ⟨2, 6⟩) (meth := k2m6) (c := k2c6) (by decide +kernel) rfl rfl rfl (by decide +kernel)
set_option maxRecDepth 65536 in
theorem w_c10 : (Jvm.Cond.code ({ cls := "com/example/wavegrant/wavegrant/LaidGrants", name := "ends", desc := "()[J" } : Jvm.MethodName) prog_15_method_9_code (1 : Nat) (Option.some (Jvm.ClassFile.FieldType.array Jvm.ClassFile.FieldType.long))).before args0 about1 = true := code_word (m := ⟨2, 7⟩) (meth := k2m7) (c := k2c7) (by decide +kernel) rfl rfl rfl (by decide +kernel)
set_option maxRecDepth 65536 in
theorem w_c11 : (Jvm.Cond.code ({ cls := "com/example/wavegrant/wavegrant/LaidGrantsAddAllPinLaw", name := "sameI", desc := "([I[I)Z" } : Jvm.MethodName) method_4_code (2 : Nat) (Option.some Jvm.ClassFile.FieldType.boolean)).before args0 about1 = true := code_word (m := ⟨1, 3⟩) (meth := k1m3) (c := k1c3) (by decide +kernel) rfl rfl rfl (by decide +kernel)
set_option maxRecDepth 65536 in
theorem w_c12 : (Jvm.Cond.code ({ cls := "com/example/wavegrant/wavegrant/LaidGrantsAddAllPinLaw", name := "sameL", desc := "([J[J)Z" } : Jvm.MethodName) method_5_code (2 : Nat) (Option.some Jvm.ClassFile.FieldType.boolean)).before args0 about1 = true := code_word (m := ⟨1, 4⟩) (meth := k1m4) (c := k1c4) (by decide +kernel) rfl rfl rfl (by decide +kernel)
def codes1 : List Jvm.Cond := [Jvm.Cond.code x code maxLocals ret, Jvm.Cond.code ({ cls := "com/example/wavegrant/wavegrant/LaidGrantsAddAllPinLaw", name := "place", desc := "([I[I[J[JII[I[I[J[J)V" } : Jvm.MethodName) method_3_code (10 : Nat) (Option.none : Option Jvm.ClassFile.FieldType), Jvm.Cond.code ({ cls := "com/example/wavegrant/wavegrant/LaidGrants", name := "<init>", desc := "(I)V" } : Jvm.MethodName) prog_15_method_1_code (2 : Nat) (Option.none : Option Jvm.ClassFile.FieldType), Jvm.Cond.code ({ cls := "java/lang/Object", name := "<init>", desc := "()V" } : Jvm.MethodName) object_method_1_code (1 : Nat) (Option.none : Option Jvm.ClassFile.FieldType), Jvm.Cond.code ({ cls := "com/example/wavegrant/wavegrant/LaidGrants", name := "add", desc := "(IIJJ)V" } : Jvm.MethodName) prog_15_method_2_code (7 : Nat) (Option.none : Option Jvm.ClassFile.FieldType), Jvm.Cond.code ({ cls := "com/example/wavegrant/wavegrant/LaidGrants", name := "addAll", desc := "(Lcom/example/wavegrant/wavegrant/LaidGrants;[I)V" } : Jvm.MethodName) prog_15_method_4_code (5 : Nat) (Option.none : Option Jvm.ClassFile.FieldType), Jvm.Cond.code ({ cls := "com/example/wavegrant/wavegrant/LaidGrants", name := "count", desc := "()I" } : Jvm.MethodName) prog_15_method_5_code (1 : Nat) (Option.some Jvm.ClassFile.FieldType.int), Jvm.Cond.code ({ cls := "com/example/wavegrant/wavegrant/LaidGrants", name := "onus", desc := "()[I" } : Jvm.MethodName) prog_15_method_6_code (1 : Nat) (Option.some (Jvm.ClassFile.FieldType.array Jvm.ClassFile.FieldType.int)), Jvm.Cond.code ({ cls := "com/example/wavegrant/wavegrant/LaidGrants", name := "wavelengths", desc := "()[I" } : Jvm.MethodName) prog_15_method_7_code (1 : Nat) (Option.some (Jvm.ClassFile.FieldType.array Jvm.ClassFile.FieldType.int)), Jvm.Cond.code ({ cls := "com/example/wavegrant/wavegrant/LaidGrants", name := "starts", desc := "()[J" } : Jvm.MethodName) prog_15_method_8_code (1 : Nat) (Option.some (Jvm.ClassFile.FieldType.array Jvm.ClassFile.FieldType.long)), Jvm.Cond.code ({ cls := "com/example/wavegrant/wavegrant/LaidGrants", name := "ends", desc := "()[J" } : Jvm.MethodName) prog_15_method_9_code (1 : Nat) (Option.some (Jvm.ClassFile.FieldType.array Jvm.ClassFile.FieldType.long)), Jvm.Cond.code ({ cls := "com/example/wavegrant/wavegrant/LaidGrantsAddAllPinLaw", name := "sameI", desc := "([I[I)Z" } : Jvm.MethodName) method_4_code (2 : Nat) (Option.some Jvm.ClassFile.FieldType.boolean), Jvm.Cond.code ({ cls := "com/example/wavegrant/wavegrant/LaidGrantsAddAllPinLaw", name := "sameL", desc := "([J[J)Z" } : Jvm.MethodName) method_5_code (2 : Nat) (Option.some Jvm.ClassFile.FieldType.boolean)]
set_option maxRecDepth 65536 in
theorem codes_eq : words1.filter isCode = codes1 := rfl
theorem w_codes : ∀ c ∈ words1.filter isCode, c.before args0 about1 = true := by
  rw [codes_eq]
  intro c hc
  simp only [codes1, List.mem_cons, List.not_mem_nil, or_false] at hc
  rcases hc with rfl | rfl | rfl | rfl | rfl | rfl | rfl | rfl | rfl | rfl | rfl | rfl | rfl
  · exact w_c0
  · exact w_c1
  · exact w_c2
  · exact w_c3
  · exact w_c4
  · exact w_c5
  · exact w_c6
  · exact w_c7
  · exact w_c8
  · exact w_c9
  · exact w_c10
  · exact w_c11
  · exact w_c12
set_option maxRecDepth 65536 in
theorem w_t1 : (words1.take 24).all (fun c => isCode c || c.before args0 about1) = true := by decide +kernel
set_option maxRecDepth 65536 in
theorem w_t2 : ((words1.drop 24).take 24).all (fun c => isCode c || c.before args0 about1) = true := by decide +kernel
set_option maxRecDepth 65536 in
theorem w_t3 : ((words1.drop 24).drop 24).all (fun c => isCode c || c.before args0 about1) = true := by decide +kernel
theorem w_tables : (allAtoms (Jvm.Cond.code x code maxLocals ret :: tables_1)).before args0 about1 = true := by
  rw [allAtoms_all]
  show words1.all (fun c => c.before args0 about1) = true
  refine all_split ?_ w_codes
  rw [← List.take_append_drop 24 words1, List.all_append, w_t1, ← List.take_append_drop 24 (words1.drop 24), List.all_append, w_t2, w_t3]
  rfl
set_option maxRecDepth 65536 in
theorem w_case : (Jvm.Cond.and given_1 narrow_1).before args0 about1 = true := by decide +kernel
theorem w_applies : (headSpec (Jvm.Cond.code x code maxLocals ret :: tables_1) room_1).applies x e0.platform about1 = true :=
  (Spec.applies_iff w_frames).mpr ⟨w_running, w_runnable, w_alone, w_named, w_hears, w_ripe, w_room, w_tables⟩
theorem atStart : AtStart classFile x code maxLocals ret World_1 tables_1 room_1 Calls_1 rest_1 Pre_1 launch0 p0 e0 about1 theMethod args0 below0 :=
  ⟨lists_1, trivial, launch0.admits_env _ _ _, launch0.least_env, fairChoices_fair.cas, fairChoices_fair.clock, w_frames, w_args, w_heap, w_applies, trivial, trivial, w_case⟩
end start1
theorem witness_1 : WitnessClaimed_1 := ⟨start1.p0, start1.e0, start1.about1, start1.theMethod, start1.args0, start1.below0, start1.atStart⟩
end Jvm.Pilot.@@N@@
