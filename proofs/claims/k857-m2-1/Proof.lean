import JvmDerived
import JvmDerived.Pilot.@@N@@Statement
import JvmDerived.Pilot.@@N@@Code
set_option linter.unusedVariables false
set_option linter.unusedSimpArgs false
namespace Jvm.OwnKit
open Sem ClassFile Op Lib Jvm.Free Jvm.Stand Jvm.LawKit Jvm.RoadKit
/-! My own layer: an abstract heap (a list of objects made since the law began) and one rule a bytecode step, each over a law of the library. -/
abbrev oz : Value := .int 0
abbrev ol : Value := .long 0
abbrev rf (n0 i : Nat) : Value := .ref (n0 + i)
abbrev Ob : Type := (Nat × List Value) ⊕ (FieldType × List Value)
abbrev KTab : Type := List (String × List (String × String × String))
def ObAt (Z : State) (K : KTab) (h : Heap) (a : Addr) : Ob → Prop
  | .inl (k, vs) => ∃ C fs, K[k]? = some (C, fs) ∧ Exa Z h a C ∧ vs.length = fs.length ∧ ∀ (j : Nat) (f : String × String × String) (v : Value), fs[j]? = some f → vs[j]? = some v → Fld Z h a f.1 f.2.1 f.2.2 v
  | .inr (ty, vs) => (Exa Z h a ("[" ++ ty.toString) ∧ ∀ v ∈ vs, fits ty v = true) ∧ ∃ c : Cell, Arr Z h a c ty ∧ c.slots = vs.toArray ∧ ∀ C, ty = .object C → Ovr Z c.cls C
def Rel (Z : State) (K : KTab) (n0 : Nat) (h : Heap) (A : List Ob) : Prop := h.size = n0 + A.length ∧ ∀ (i : Nat) (o : Ob), A[i]? = some o → ObAt Z K h (n0 + i) o
def KOk (Z : State) (a0 : Array Value) (K : KTab) : Prop := ∀ (k : Nat) (C : String) (fs : List (String × String × String)), K[k]? = some (C, fs) →
  (∃ n, (Cond.instantiable C n).before a0 Z = true) ∧ (∀ (j : Nat) (f : String × String × String), fs[j]? = some f → Laid Z a0 C f.1 f.2.1 f.2.2 ∧ ∃ t, parseFieldDescriptor f.2.2 = some t) ∧
  ∀ (i j : Nat) (f g : String × String × String), fs[i]? = some f → fs[j]? = some g → i ≠ j → f.2.1 ≠ g.2.1
section Facts
variable {Z : State} {a0 : Array Value} {K : KTab} {h h' : Heap} {a b : Addr} {o o' : Ob} {n0 : Nat} {A : List Ob} {sl : Nat} {v : Value}
theorem ObAt.ext (E : Ext h h') (F : ObAt Z K h a o) : ObAt Z K h' a o := by
  rcases o with ⟨k, vs⟩ | ⟨ty, vs⟩
  · obtain ⟨C, fs, h1, h2, h3, h4⟩ := F
    exact ⟨C, fs, h1, h2.ext E, h3, fun j f v q r => (h4 j f v q r).ext E⟩
  · obtain ⟨⟨h1, hf⟩, c, h2, h3, h4⟩ := F
    exact ⟨⟨h1.ext E, hf⟩, c, h2.ext E, h3, h4⟩
theorem ObAt.other (W : Wr h h' b sl v) (hne : a ≠ b) (F : ObAt Z K h a o) : ObAt Z K h' a o := by
  rcases o with ⟨k, vs⟩ | ⟨ty, vs⟩
  · obtain ⟨C, fs, h1, h2, h3, h4⟩ := F
    exact ⟨C, fs, h1, h2.wr W, h3, fun j f v q r => (h4 j f v q r).other W (Or.inl hne)⟩
  · obtain ⟨⟨h1, hf⟩, c, h2, h3, h4⟩ := F
    exact ⟨⟨h1.wr W, hf⟩, c, h2.other W hne, h3, h4⟩
theorem ObAt.keep {ws : List Addr} (E : Keep h h' ws) (hne : a ∉ ws) (F : ObAt Z K h a o) : ObAt Z K h' a o := by
  rcases o with ⟨k, vs⟩ | ⟨ty, vs⟩
  · obtain ⟨C, fs, h1, h2, h3, h4⟩ := F
    exact ⟨C, fs, h1, h2.keep E, h3, fun j f v q r => (h4 j f v q r).keep E hne⟩
  · obtain ⟨⟨h1, hf⟩, c, h2, h3, h4⟩ := F
    exact ⟨⟨h1.keep E, hf⟩, c, ⟨E.2.1 a c h2.1 hne, h2.2⟩, h3, h4⟩
theorem Rel.keep {i : Nat} (R : Rel Z K n0 h A) (E : Keep h h' [n0 + i]) (hs : h'.size = h.size) (hO : ObAt Z K h' (n0 + i) o') : Rel Z K n0 h' (A.set i o') := by
  refine ⟨by rw [hs, R.1]; simp, fun j o hj => ?_⟩
  by_cases e : i = j
  · subst e
    obtain ⟨hl, -⟩ := List.getElem?_eq_some_iff.mp hj
    rw [List.getElem?_set_self (by simpa using hl)] at hj
    cases hj; exact hO
  · rw [List.getElem?_set_ne e] at hj
    exact (R.2 j o hj).keep E (fun q => e (Nat.add_left_cancel (List.mem_singleton.mp q)).symm)
theorem ObAt.exa {k : Nat} {vs : List Value} {C : String} {fs : List (String × String × String)} (hk : K[k]? = some (C, fs)) (F : ObAt Z K h a (.inl (k, vs))) : Exa Z h a C := by
  obtain ⟨C', fs', h1, h2, -⟩ := F
  cases hk.symm.trans h1; exact h2
theorem Rel.push (R : Rel Z K n0 h A) (E : Ext h h') (hs : h'.size = n0 + (A.length + 1)) (hN : ObAt Z K h' (n0 + A.length) o) : Rel Z K n0 h' (A ++ [o]) := by
  refine ⟨by rw [hs]; simp, fun i o' hi => ?_⟩
  by_cases hlt : i < A.length
  · rw [List.getElem?_append_left hlt] at hi; exact (R.2 i o' hi).ext E
  · rw [List.getElem?_append_right (by omega)] at hi
    have he : i - A.length = 0 := by
      have := (List.getElem?_eq_some_iff.mp hi).1
      simp at this; omega
    rw [he] at hi
    cases hi
    have : i = A.length := by omega
    rw [this]; exact hN
theorem Rel.set {i : Nat} (R : Rel Z K n0 h A) (W : Wr h h' (n0 + i) sl v) (hO : ObAt Z K h' (n0 + i) o') : Rel Z K n0 h' (A.set i o') := by
  refine ⟨by rw [W.size, R.1]; simp, fun j o hj => ?_⟩
  by_cases e : i = j
  · subst e
    obtain ⟨hl, -⟩ := List.getElem?_eq_some_iff.mp hj
    rw [List.getElem?_set_self (by simpa using hl)] at hj
    cases hj; exact hO
  · rw [List.getElem?_set_ne e] at hj
    exact (R.2 j o hj).other W (fun q => e (Nat.add_left_cancel q).symm)
theorem ObAt.setF (KK : KOk Z a0 K) {k j : Nat} {vs : List Value} {C : String} {fs : List (String × String × String)} {f : String × String × String} (hk : K[k]? = some (C, fs)) (hj : fs[j]? = some f) (W : Wr h h' a (RoadKit.slotOf Z f.1 f.2.1 f.2.2) v) (F : ObAt Z K h a (.inl (k, vs))) : ObAt Z K h' a (.inl (k, vs.set j v)) := by
  obtain ⟨C', fs', h1, h2, h3, h4⟩ := F
  cases hk.symm.trans h1
  refine ⟨C, fs, hk, h2.wr W, by simpa using h3, fun j' f' v' q r => ?_⟩
  by_cases e : j = j'
  · subst e
    cases hj.symm.trans q
    have hl : j < vs.length := by rw [h3]; exact (List.getElem?_eq_some_iff.mp hj).1
    rw [List.getElem?_set_self hl] at r
    cases r
    exact (h4 j f vs[j] hj (List.getElem?_eq_getElem hl)).same W
  · rw [List.getElem?_set_ne e] at r
    obtain ⟨-, k2, k3⟩ := KK k C fs hk
    obtain ⟨L1, t1, p1⟩ := k2 j f hj
    obtain ⟨L2, t2, p2⟩ := k2 j' f' q
    exact (h4 j' f' v' q r).other W (Or.inr (slot_ne L2 L1 (k3 j' j f' f q hj (Ne.symm e)) p2 p1))
theorem ObAt.setA {ty : FieldType} {vs : List Value} {j : Nat} (W : Wr h h' a j v) (hv : fits ty v = true) (F : ObAt Z K h a (.inr (ty, vs))) : ObAt Z K h' a (.inr (ty, vs.set j v)) := by
  obtain ⟨⟨h1, hf⟩, c, h2, h3, h4⟩ := F
  refine ⟨⟨h1.wr W, fun w hw => ?_⟩, c.setSlot j v, h2.same W, ?_, h4⟩
  · rcases List.mem_or_eq_of_mem_set hw with q | rfl
    · exact hf w q
    · exact hv
  simp [Cell.setSlot, h3]
end Facts
/-! ## The walk -/
def Go (p : Program) (l : Launch) (e : Env) (R : Room) (s : State) (m : MethodId) (args : Array Value) (below : List Frame) (meth : Method) (c : Code) (Z : State) (K : KTab) (n0 : Nat) (Q : Option Value → List Ob → Prop)
    (pc : Nat) (ls : Array Slot) (st : List Value) (A : List Ob) (k n : Nat) : Prop :=
  ∀ (T : State) (locs : List Loc), Stand p l e R s m args below meth c T locs k n → Rel Z K n0 T.heap A → Fr n0 locs →
    ∃ s₂ o, Steps p.tables e below (T.setTop (mkF m pc ls st)) s₂ ∧ s₂.status = .running ∧ Ended s₂ below o ∧ ∃ v L, o = .returned v ∧ (∃ A', Q v A' ∧ Rel Z K n0 s₂.heap A' ∧ Fr n0 L) ∧ FrameEnd s o s₂ L R.cells R.slots
abbrev GoT : Type := Nat → Array Slot → List Value → List Ob → Nat → Nat → Prop
def IsGo (l : Launch) (Z : State) (a0 : Array Value) (K : KTab) (n0 b0 : Nat) (y : MethodName) (bytes : ByteArray) (maxL : Nat) (ret : Option FieldType) (R : Room) (Q : Option Value → List Ob → Prop) (G : GoT) : Prop :=
  ∃ (p : Program) (e : Env) (s : State) (m : MethodId) (args : Array Value) (below : List Frame) (meth : Method) (c : Code), p.tables.exec = Jvm.exec ∧ c.code = bytes ∧ c.maxLocals = maxL ∧ s.vm.findClass y.cls = some m.cls ∧ meth.name = y.name ∧ meth.sig.returnType = ret ∧ meth.locks = false ∧ Z.Warmed39 s.vm ∧ KOk Z a0 K ∧ s.heap.size = n0 + b0 ∧ G = Go p l e R s m args below meth c Z K n0 Q
/-- the contract of a method, by its arguments and the abstract heap -/
def Met (l : Launch) (Z : State) (K : KTab) (n0 : Nat) (y : MethodName) (bytes : ByteArray) (maxL : Nat) (ret : Option FieldType) (R : Room) (as : Array Value) (A : List Ob) (Q : Option Value → List Ob → Prop) : Prop :=
  ∀ (ws : List Jvm.Cond) (h0 : Heap), Rel Z K n0 h0 A → MetFree l y (head1 (Jvm.Cond.code y bytes maxL ret :: ws) R) (fun a U => a = as ∧ Z.Warmed39 U.vm ∧ U.heap = h0) (fun _ _ _ _ _ => True)
    (fun _ U o U' => ∃ v L, o = .returned v ∧ (∃ A', Q v A' ∧ Rel Z K n0 U'.heap A' ∧ Fr n0 L) ∧ FrameEnd U o U' L R.cells R.slots)
def Nx (b : ByteArray) (pc : Nat) (i : Instr) (len pc' : Nat) : Prop := decode b pc = .ok (i, len) ∧ pc' = pc + len
def Bx (b : ByteArray) (pc : Nat) (i : Int → Instr) (t f : Nat) : Prop := ∃ o : Int, decode b pc = .ok (i o, 3) ∧ 0 ≤ (pc : Int) + o ∧ ((pc : Int) + o).toNat = t ∧ f = pc + 3
theorem get_set_self {A : List Ob} {i : Nat} {o o' : Ob} (h : A[i]? = some o) : (A.set i o')[i]? = some o' := List.getElem?_set_self (List.getElem?_eq_some_iff.mp h).1
theorem get_set_ne {A : List Ob} {i j : Nat} {o o' : Ob} (h : A[j]? = some o) (hne : i ≠ j) : (A.set i o')[j]? = some o := by rw [List.getElem?_set_ne hne]; exact h
theorem len_set {A : List Ob} {i N : Nat} {o : Ob} (h : A.length = N) : (A.set i o).length = N := by simpa using h
theorem get_app {A : List Ob} {i : Nat} {o o' : Ob} (h : A[i]? = some o) : (A ++ [o'])[i]? = some o := by rw [List.getElem?_append_left (List.getElem?_eq_some_iff.mp h).1]; exact h
theorem get_last {A : List Ob} {N : Nat} {o : Ob} (h : A.length = N) : (A ++ [o])[N]? = some o := by subst h; simp
theorem len_app {A : List Ob} {N : Nat} {o : Ob} (h : A.length = N) : (A ++ [o]).length = N + 1 := by simp [h]
theorem npOf {d : String} {ps : List FieldType} {r : Option FieldType} {n : Nat} (hd : parseMethodDescriptor d = some ⟨ps, r⟩) (hl : n = ps.length) : ∀ sig, parseMethodDescriptor d = some sig → n = sig.parameters.length := fun sig h => by cases hd.symm.trans h; exact hl
theorem leb {a b : Nat} (h : Nat.ble a b = true) : a ≤ b := Nat.le_of_ble_eq_true h
theorem ltb {a b : Nat} (h : Nat.ble (a + 1) b = true) : a < b := Nat.le_of_ble_eq_true h
theorem fa0 {α : Type} {P : α → Prop} : ∀ x ∈ ([] : List α), P x := fun _ q => nomatch q
theorem faS {α : Type} {P : α → Prop} {y : α} {L : List α} (q : P y) (r : ∀ x ∈ L, P x) : ∀ x ∈ y :: L, P x := fun x z => (List.mem_cons.mp z).elim (fun u => u ▸ q) (r x)
theorem kokOf {Z : State} {a0 : Array Value} {K : KTab} (h : ∀ p ∈ K, (∃ n, (Jvm.Cond.instantiable p.1 n).before a0 Z = true) ∧ (∀ f ∈ p.2, Laid Z a0 p.1 f.1 f.2.1 f.2.2 ∧ ∃ t, parseFieldDescriptor f.2.2 = some t) ∧ (p.2.map (·.2.1)).Nodup) : KOk Z a0 K := by
  intro k C fs hk
  obtain ⟨h1, h2, h3⟩ := h _ (List.mem_of_getElem? hk)
  refine ⟨h1, fun j f hj => h2 f (List.mem_of_getElem? hj), fun i j f g hi hj hne e => hne ?_⟩
  have q1 : (fs.map (·.2.1))[i]? = some f.2.1 := by simp [List.getElem?_map, hi]
  have q2 : (fs.map (·.2.1))[j]? = some f.2.1 := by simp [List.getElem?_map, hj, e]
  obtain ⟨l1, e1⟩ := List.getElem?_eq_some_iff.mp q1
  obtain ⟨l2, e2⟩ := List.getElem?_eq_some_iff.mp q2
  have h4 := List.pairwise_iff_getElem.mp h3
  rcases Nat.lt_trichotomy i j with q | q | q
  · exact absurd (e1.trans e2.symm) (h4 i j l1 l2 q)
  · exact q
  · exact absurd (e2.trans e1.symm) (h4 j i l2 l1 q)
def Is (v : Option Value) (A' : List Ob) : Option Value → List Ob → Prop := fun v' B => v' = v ∧ B = A'
theorem i_lt {u v : Int32} {a b : Int} (hu : u.toInt = a) (hv : v.toInt = b) : u < v ↔ a < b := by subst hu hv; exact Int32.lt_iff_toInt_lt
theorem i_ge {u v : Int32} {a b : Int} (hu : u.toInt = a) (hv : v.toInt = b) : ¬ u < v ↔ b ≤ a := by rw [i_lt hu hv]; omega
theorem i_eq {u v : Int32} {a b : Int} (hu : u.toInt = a) (hv : v.toInt = b) : u = v ↔ a = b := by subst hu hv; exact Int32.toInt_inj.symm
theorem i_ne {u v : Int32} {a b : Int} (hu : u.toInt = a) (hv : v.toInt = b) : ¬ u = v ↔ ¬ a = b := not_congr (i_eq hu hv)
theorem j_lt {u v : Int64} {a b : Int} (hu : u.toInt = a) (hv : v.toInt = b) : u < v ↔ a < b := by subst hu hv; exact Int64.lt_iff_toInt_lt
theorem j_ge {u v : Int64} {a b : Int} (hu : u.toInt = a) (hv : v.toInt = b) : ¬ u < v ↔ b ≤ a := by rw [j_lt hu hv]; omega
theorem j_eq {u v : Int64} {a b : Int} (hu : u.toInt = a) (hv : v.toInt = b) : u = v ↔ a = b := by subst hu hv; exact Int64.toInt_inj.symm
theorem j_ne {u v : Int64} {a b : Int} (hu : u.toInt = a) (hv : v.toInt = b) : ¬ u = v ↔ ¬ a = b := not_congr (j_eq hu hv)
theorem x_iadd {a b : Int32} {x y : Int} (ha : a.toInt = x) (hb : b.toInt = y) (h : -2147483648 ≤ x + y ∧ x + y < 2147483648) : (a + b).toInt = x + y := by
  have q := c_iadd a b
  have r := rng32 (a + b)
  rw [ha, hb] at q
  omega
theorem x_isub {a b : Int32} {x y : Int} (ha : a.toInt = x) (hb : b.toInt = y) (h : -2147483648 ≤ x - y ∧ x - y < 2147483648) : (a - b).toInt = x - y := by
  have q := c_isub a b
  have r := rng32 (a - b)
  rw [ha, hb] at q
  omega
theorem x_imul {a b : Int32} {x y : Int} (ha : a.toInt = x) (hb : b.toInt = y) (h : -2147483648 ≤ x * y ∧ x * y < 2147483648) : (a * b).toInt = x * y := by
  have q := c_imul a b
  have r := rng32 (a * b)
  rw [ha, hb] at q
  omega
theorem x_ineg {a : Int32} {x : Int} (ha : a.toInt = x) (h : -2147483648 < x) : (-a).toInt = -x := by
  have q := c_ineg a
  have r := rng32 (-a)
  have r2 := rng32 a
  rw [ha] at q r2
  omega
theorem x_ladd {a b : Int64} {x y : Int} (ha : a.toInt = x) (hb : b.toInt = y) (h : -9223372036854775808 ≤ x + y ∧ x + y < 9223372036854775808) : (a + b).toInt = x + y := by
  have q := c_ladd a b
  have r := rng64 (a + b)
  rw [ha, hb] at q
  omega
theorem x_lsub {a b : Int64} {x y : Int} (ha : a.toInt = x) (hb : b.toInt = y) (h : -9223372036854775808 ≤ x - y ∧ x - y < 9223372036854775808) : (a - b).toInt = x - y := by
  have q := c_lsub a b
  have r := rng64 (a - b)
  rw [ha, hb] at q
  omega
theorem x_lmul {a b : Int64} {x y : Int} (ha : a.toInt = x) (hb : b.toInt = y) (h : -9223372036854775808 ≤ x * y ∧ x * y < 9223372036854775808) : (a * b).toInt = x * y := by
  have q := c_lmul a b
  have r := rng64 (a * b)
  rw [ha, hb] at q
  omega
theorem x_lneg {a : Int64} {x : Int} (ha : a.toInt = x) (h : -9223372036854775808 < x) : (-a).toInt = -x := by
  have q := c_lneg a
  have r := rng64 (-a)
  have r2 := rng64 a
  rw [ha] at q r2
  omega
theorem x_irem {a b : Int32} {x y : Int} (ha : a.toInt = x) (hb : b.toInt = y) (h : 0 ≤ x) : (a % b).toInt = x % y := by
  rw [(c_irem a b y hb).1 (by rw [ha]; exact h), ha]
theorem x_idiv {a b : Int32} {x y : Int} (ha : a.toInt = x) (hb : b.toInt = y) (h : 0 ≤ x) (hy : 0 < y) : (a / b).toInt = x / y := by
  have hm : b ≠ -1 := fun e => by
    have q : (-1 : Int32).toInt = -1 := by decide
    rw [e, q] at hb
    omega
  rw [(c_idiv a b y hb hm).1 (by rw [ha]; exact h), ha]
theorem x_i2l {a : Int32} {x : Int} (ha : a.toInt = x) : (a.toInt64).toInt = x := by rw [c_i2l]; exact ha
theorem x_l2i {a : Int64} {x : Int} (ha : a.toInt = x) (h : -2147483648 ≤ x ∧ x < 2147483648) : (a.toInt32).toInt = x := by
  have q := c_l2i a
  have r := rng32 a.toInt32
  rw [ha] at q
  omega
theorem mod_b {x y : Int} (hy : 0 < y) : 0 ≤ x % y ∧ x % y < y := ⟨Int.emod_nonneg _ (by omega), Int.emod_lt_of_pos _ hy⟩
section Rules
variable {l : Launch} {Z : State} {a0 : Array Value} {K : KTab} {n0 b0 : Nat} {y : MethodName} {bytes : ByteArray} {maxL : Nat} {ret : Option FieldType} {R : Room} {Q : Option Value → List Ob → Prop} {G : GoT}
variable {pc pc' : Nat} {ls ls' : Array Slot} {st st' : List Value} {A A' : List Ob} {k k' n n' : Nat}
theorem Met.of (KK : KOk Z a0 K) (hp : plainFor y = true) {as : Array Value} (hef : ∀ m, entryFrame m as maxL = mkF m 0 ls []) (body : ∀ G, IsGo l Z a0 K n0 A.length y bytes maxL ret R Q G → G 0 ls [] A 0 0) : Met l Z K n0 y bytes maxL ret R as A Q := by
  intro ws h0 hR
  refine MetFree.of_bodySF hp hisR ?_
  intro p e s m args below meth c s₁ Bd hml0 hP hK
  obtain ⟨rfl, hZ, hh⟩ := hP
  have e0 : s₁.heap = h0 := by rw [← hh, Bd.state]; rfl
  have H := body (Go p l e R s m args below meth c Z K n0 Q) ⟨p, e, s, m, args, below, meth, c, Bd.exec, Bd.bytes, hml0, findClass_of_methodNamed Bd.named, (name_of_methodNamed Bd.named Bd.method).1, Bd.returns, Bd.notSynchronized, hZ, KK, by rw [hh]; exact hR.1, rfl⟩
  obtain ⟨s₂, o, h1, h2, h3, h4⟩ := H s₁ [] (Stand.of_body Bd) (by rw [e0]; exact hR) (Fr.nil n0)
  exact ⟨s₂, o, castTop (hef m) h1, h2, h3, h4⟩
theorem Met.mono {as : Array Value} {Q' : Option Value → List Ob → Prop} (M : Met l Z K n0 y bytes maxL ret R as A Q) (h : ∀ v A', Q v A' → Q' v A') : Met l Z K n0 y bytes maxL ret R as A Q' := by
  intro ws h0 hR p e ha hc hk s m args below hf happ hP hK
  obtain ⟨n, o, h1, h2, h3, v, L, h4, ⟨A', h5, h6⟩, h7⟩ := M ws h0 hR p e ha hc hk s m args below hf happ hP hK
  exact ⟨n, o, h1, h2, h3, v, L, h4, ⟨A', h _ _ h5, h6⟩, h7⟩
theorem IsGo.lift (H : IsGo l Z a0 K n0 b0 y bytes maxL ret R Q G) (hs : ∀ {p : Program} {e : Env} {below : List Frame} {T target : State} {m : MethodId} {c : Code}, At T m c below → p.tables.exec = Jvm.exec → c.code = bytes → Steps p.tables e below (T.setTop (mkF m pc' ls' st')) target → Steps p.tables e below (T.setTop (mkF m pc ls st)) target)
    (h : G pc' ls' st' A k n) : G pc ls st A k n := by
  obtain ⟨p, e, s, m, args, below, meth, c, hx, hby, hml, hown, hnm, hret, hlk, hZ, hK, hb0, rfl⟩ := H
  intro T locs X hR hF
  obtain ⟨s₂, o, h1, h2⟩ := h T locs X hR hF
  exact ⟨s₂, o, hs X.here hx hby h1, h2⟩
/-! ### loads, stores, constants -/
theorem IsGo.iloadN (H : IsGo l Z a0 K n0 b0 y bytes maxL ret R Q G) {i : Fin 4} (hd : Nx bytes pc (.iload_n i) 1 pc') {v : Int32} (hl : ls[i.val]? = some (.val (.int v))) (h : G pc' ls (.int v :: st) A k n) : G pc ls st A k n := by
  obtain ⟨hd, rfl⟩ := hd
  exact H.lift (fun hA hx hby hr => XS.iloadN hA hx rfl (hb hby hd) hl hr) h
theorem IsGo.iload (H : IsGo l Z a0 K n0 b0 y bytes maxL ret R Q G) {i : Nat} (hd : Nx bytes pc (.iload i) 2 pc') {v : Int32} (hl : ls[i]? = some (.val (.int v))) (h : G pc' ls (.int v :: st) A k n) : G pc ls st A k n := by
  obtain ⟨hd, rfl⟩ := hd
  exact H.lift (fun hA hx hby hr => XS.iload hA hx rfl (hb hby hd) hl hr) h
theorem IsGo.lloadN (H : IsGo l Z a0 K n0 b0 y bytes maxL ret R Q G) {i : Fin 4} (hd : Nx bytes pc (.lload_n i) 1 pc') {v : Int64} (hl : ls[i.val]? = some (.val (.long v))) (h : G pc' ls (.long v :: st) A k n) : G pc ls st A k n := by
  obtain ⟨hd, rfl⟩ := hd
  exact H.lift (fun hA hx hby hr => XS.lloadN hA hx rfl (hb hby hd) hl hr) h
theorem IsGo.lload (H : IsGo l Z a0 K n0 b0 y bytes maxL ret R Q G) {i : Nat} (hd : Nx bytes pc (.lload i) 2 pc') {v : Int64} (hl : ls[i]? = some (.val (.long v))) (h : G pc' ls (.long v :: st) A k n) : G pc ls st A k n := by
  obtain ⟨hd, rfl⟩ := hd
  exact H.lift (fun hA hx hby hr => XS.lload hA hx rfl (hb hby hd) hl hr) h
theorem IsGo.aloadN (H : IsGo l Z a0 K n0 b0 y bytes maxL ret R Q G) {i : Fin 4} (hd : Nx bytes pc (.aload_n i) 1 pc') {v : Value} (hl : ls[i.val]? = some (.val v)) (hv : v.isRef = true) (h : G pc' ls (v :: st) A k n) : G pc ls st A k n := by
  obtain ⟨hd, rfl⟩ := hd
  exact H.lift (fun hA hx hby hr => XS.aloadN hA hx rfl (hb hby hd) hl hv hr) h
theorem IsGo.aload (H : IsGo l Z a0 K n0 b0 y bytes maxL ret R Q G) {i : Nat} (hd : Nx bytes pc (.aload i) 2 pc') {v : Value} (hl : ls[i]? = some (.val v)) (hv : v.isRef = true) (h : G pc' ls (v :: st) A k n) : G pc ls st A k n := by
  obtain ⟨hd, rfl⟩ := hd
  exact H.lift (fun hA hx hby hr => XS.aload hA hx rfl (hb hby hd) hl hv hr) h
theorem IsGo.istoreN (H : IsGo l Z a0 K n0 b0 y bytes maxL ret R Q G) {i : Fin 4} (hd : Nx bytes pc (.istore_n i) 1 pc') {v : Int32} (hl : storeLocals ls i.val (.int v) = some ls') (h : G pc' ls' st A k n) : G pc ls (.int v :: st) A k n := by
  obtain ⟨hd, rfl⟩ := hd
  exact H.lift (fun hA hx hby hr => XS.istoreN hA hx rfl (hb hby hd) rfl hl hr) h
theorem IsGo.istore (H : IsGo l Z a0 K n0 b0 y bytes maxL ret R Q G) {i : Nat} (hd : Nx bytes pc (.istore i) 2 pc') {v : Int32} (hl : storeLocals ls i (.int v) = some ls') (h : G pc' ls' st A k n) : G pc ls (.int v :: st) A k n := by
  obtain ⟨hd, rfl⟩ := hd
  exact H.lift (fun hA hx hby hr => XS.istore hA hx rfl (hb hby hd) rfl hl hr) h
theorem IsGo.lstoreN (H : IsGo l Z a0 K n0 b0 y bytes maxL ret R Q G) {i : Fin 4} (hd : Nx bytes pc (.lstore_n i) 1 pc') {v : Int64} (hl : storeLocals ls i.val (.long v) = some ls') (h : G pc' ls' st A k n) : G pc ls (.long v :: st) A k n := by
  obtain ⟨hd, rfl⟩ := hd
  exact H.lift (fun hA hx hby hr => XS.lstoreN hA hx rfl (hb hby hd) rfl hl hr) h
theorem IsGo.lstore (H : IsGo l Z a0 K n0 b0 y bytes maxL ret R Q G) {i : Nat} (hd : Nx bytes pc (.lstore i) 2 pc') {v : Int64} (hl : storeLocals ls i (.long v) = some ls') (h : G pc' ls' st A k n) : G pc ls (.long v :: st) A k n := by
  obtain ⟨hd, rfl⟩ := hd
  exact H.lift (fun hA hx hby hr => XS.lstore hA hx rfl (hb hby hd) rfl hl hr) h
theorem IsGo.astoreN (H : IsGo l Z a0 K n0 b0 y bytes maxL ret R Q G) {i : Fin 4} (hd : Nx bytes pc (.astore_n i) 1 pc') {v : Value} (hv : v.isRef = true) (hl : storeLocals ls i.val v = some ls') (h : G pc' ls' st A k n) : G pc ls (v :: st) A k n := by
  obtain ⟨hd, rfl⟩ := hd
  exact H.lift (fun hA hx hby hr => XS.astoreN hA hx rfl (hb hby hd) rfl hv hl hr) h
theorem IsGo.astore (H : IsGo l Z a0 K n0 b0 y bytes maxL ret R Q G) {i : Nat} (hd : Nx bytes pc (.astore i) 2 pc') {v : Value} (hv : v.isRef = true) (hl : storeLocals ls i v = some ls') (h : G pc' ls' st A k n) : G pc ls (v :: st) A k n := by
  obtain ⟨hd, rfl⟩ := hd
  exact H.lift (fun hA hx hby hr => XS.astore hA hx rfl (hb hby hd) rfl hv hl hr) h
theorem IsGo.iconst (H : IsGo l Z a0 K n0 b0 y bytes maxL ret R Q G) {i : Int} (hd : Nx bytes pc (.iconst i) 1 pc') {v : Int32} (hv : Int32.ofInt i = v) (h : G pc' ls (.int v :: st) A k n) : G pc ls st A k n := by
  obtain ⟨hd, rfl⟩ := hd
  subst hv
  exact H.lift (fun hA hx hby hr => XS.iconst hA hx rfl (hb hby hd) hr) h
theorem IsGo.bipush (H : IsGo l Z a0 K n0 b0 y bytes maxL ret R Q G) {i : Int} (hd : Nx bytes pc (.bipush i) 2 pc') {v : Int32} (hv : (Int8.ofInt i).toInt32 = v) (h : G pc' ls (.int v :: st) A k n) : G pc ls st A k n := by
  obtain ⟨hd, rfl⟩ := hd
  subst hv
  exact H.lift (fun hA hx hby hr => XS.bipush hA hx rfl (hb hby hd) hr) h
theorem IsGo.sipush (H : IsGo l Z a0 K n0 b0 y bytes maxL ret R Q G) {i : Int} (hd : Nx bytes pc (.sipush i) 3 pc') {v : Int32} (hv : (Int16.ofInt i).toInt32 = v) (h : G pc' ls (.int v :: st) A k n) : G pc ls st A k n := by
  obtain ⟨hd, rfl⟩ := hd
  subst hv
  exact H.lift (fun hA hx hby hr => XS.sipush hA hx rfl (hb hby hd) hr) h
theorem IsGo.lconst (H : IsGo l Z a0 K n0 b0 y bytes maxL ret R Q G) {i : Fin 2} (hd : Nx bytes pc (.lconst i) 1 pc') {v : Int64} (hv : Int64.ofNat i = v) (h : G pc' ls (.long v :: st) A k n) : G pc ls st A k n := by
  obtain ⟨hd, rfl⟩ := hd
  subst hv
  exact H.lift (fun hA hx hby hr => XS.lconst hA hx rfl (hb hby hd) hr) h
theorem IsGo.aconstNull (H : IsGo l Z a0 K n0 b0 y bytes maxL ret R Q G) (hd : Nx bytes pc .aconst_null 1 pc') (h : G pc' ls (.null :: st) A k n) : G pc ls st A k n := by
  obtain ⟨hd, rfl⟩ := hd
  exact H.lift (fun hA hx hby hr => XS.aconstNull hA hx rfl (hb hby hd) hr) h
theorem IsGo.ldc (H : IsGo l Z a0 K n0 b0 y bytes maxL ret R Q G) {i : Nat} (hd : Nx bytes pc (.ldc i) 2 pc') {v : Int32} (w : (Jvm.Cond.constant y.cls i v).before a0 Z = true) (h : G pc' ls (.int v :: st) A k n) : G pc ls st A k n := by
  obtain ⟨hd, rfl⟩ := hd
  obtain ⟨p, e, s, m, args, below, meth, c, hx, hby, hml, hown, hnm, hret, hlk, hZ, hK, hb0, rfl⟩ := H
  intro T locs X hR hF
  obtain ⟨s₂, o, h1, h2⟩ := h T locs X hR hF
  exact ⟨s₂, o, X.ldcInt hx hown (mvT hZ w) (g := mkF m pc ls st) rfl (hb hby hd) _ h1, h2⟩
theorem IsGo.ldc2 (H : IsGo l Z a0 K n0 b0 y bytes maxL ret R Q G) {i : Nat} (hd : Nx bytes pc (.ldc2_w i) 3 pc') {v : Int64} (w : (Jvm.Cond.constantLong y.cls i v).before a0 Z = true) (h : G pc' ls (.long v :: st) A k n) : G pc ls st A k n := by
  obtain ⟨hd, rfl⟩ := hd
  obtain ⟨p, e, s, m, args, below, meth, c, hx, hby, hml, hown, hnm, hret, hlk, hZ, hK, hb0, rfl⟩ := H
  intro T locs X hR hF
  obtain ⟨s₂, o, h1, h2⟩ := h T locs X hR hF
  exact ⟨s₂, o, X.ldc2Long hx hown (mvT hZ w) (g := mkF m pc ls st) rfl (hb hby hd) _ h1, h2⟩
/-! ### sums -/
theorem IsGo.iadd (H : IsGo l Z a0 K n0 b0 y bytes maxL ret R Q G) (hd : Nx bytes pc .iadd 1 pc') {u v w : Int32} (hw : u + v = w) (h : G pc' ls (.int w :: st) A k n) : G pc ls (.int v :: .int u :: st) A k n := by
  obtain ⟨hd, rfl⟩ := hd
  subst hw
  exact H.lift (fun hA hx hby hr => XS.iadd hA hx rfl (hb hby hd) rfl hr) h
theorem IsGo.ladd (H : IsGo l Z a0 K n0 b0 y bytes maxL ret R Q G) (hd : Nx bytes pc .ladd 1 pc') {u v w : Int64} (hw : u + v = w) (h : G pc' ls (.long w :: st) A k n) : G pc ls (.long v :: .long u :: st) A k n := by
  obtain ⟨hd, rfl⟩ := hd
  subst hw
  exact H.lift (fun hA hx hby hr => XS.ladd hA hx rfl (hb hby hd) rfl hr) h
theorem IsGo.isub (H : IsGo l Z a0 K n0 b0 y bytes maxL ret R Q G) (hd : Nx bytes pc .isub 1 pc') {u v w : Int32} (hw : u - v = w) (h : G pc' ls (.int w :: st) A k n) : G pc ls (.int v :: .int u :: st) A k n := by
  obtain ⟨hd, rfl⟩ := hd
  subst hw
  exact H.lift (fun hA hx hby hr => XS.isub hA hx rfl (hb hby hd) rfl hr) h
theorem IsGo.lsub (H : IsGo l Z a0 K n0 b0 y bytes maxL ret R Q G) (hd : Nx bytes pc .lsub 1 pc') {u v w : Int64} (hw : u - v = w) (h : G pc' ls (.long w :: st) A k n) : G pc ls (.long v :: .long u :: st) A k n := by
  obtain ⟨hd, rfl⟩ := hd
  subst hw
  exact H.lift (fun hA hx hby hr => XS.lsub hA hx rfl (hb hby hd) rfl hr) h
theorem IsGo.imul (H : IsGo l Z a0 K n0 b0 y bytes maxL ret R Q G) (hd : Nx bytes pc .imul 1 pc') {u v w : Int32} (hw : u * v = w) (h : G pc' ls (.int w :: st) A k n) : G pc ls (.int v :: .int u :: st) A k n := by
  obtain ⟨hd, rfl⟩ := hd
  subst hw
  exact H.lift (fun hA hx hby hr => XS.imul hA hx rfl (hb hby hd) rfl hr) h
theorem IsGo.lmul (H : IsGo l Z a0 K n0 b0 y bytes maxL ret R Q G) (hd : Nx bytes pc .lmul 1 pc') {u v w : Int64} (hw : u * v = w) (h : G pc' ls (.long w :: st) A k n) : G pc ls (.long v :: .long u :: st) A k n := by
  obtain ⟨hd, rfl⟩ := hd
  subst hw
  exact H.lift (fun hA hx hby hr => XS.lmul hA hx rfl (hb hby hd) rfl hr) h
theorem IsGo.iand (H : IsGo l Z a0 K n0 b0 y bytes maxL ret R Q G) (hd : Nx bytes pc .iand 1 pc') {u v w : Int32} (hw : u &&& v = w) (h : G pc' ls (.int w :: st) A k n) : G pc ls (.int v :: .int u :: st) A k n := by
  obtain ⟨hd, rfl⟩ := hd
  subst hw
  exact H.lift (fun hA hx hby hr => XS.iand hA hx rfl (hb hby hd) rfl hr) h
theorem IsGo.land (H : IsGo l Z a0 K n0 b0 y bytes maxL ret R Q G) (hd : Nx bytes pc .land 1 pc') {u v w : Int64} (hw : u &&& v = w) (h : G pc' ls (.long w :: st) A k n) : G pc ls (.long v :: .long u :: st) A k n := by
  obtain ⟨hd, rfl⟩ := hd
  subst hw
  exact H.lift (fun hA hx hby hr => XS.land hA hx rfl (hb hby hd) rfl hr) h
theorem IsGo.ior (H : IsGo l Z a0 K n0 b0 y bytes maxL ret R Q G) (hd : Nx bytes pc .ior 1 pc') {u v w : Int32} (hw : u ||| v = w) (h : G pc' ls (.int w :: st) A k n) : G pc ls (.int v :: .int u :: st) A k n := by
  obtain ⟨hd, rfl⟩ := hd
  subst hw
  exact H.lift (fun hA hx hby hr => XS.ior hA hx rfl (hb hby hd) rfl hr) h
theorem IsGo.lor (H : IsGo l Z a0 K n0 b0 y bytes maxL ret R Q G) (hd : Nx bytes pc .lor 1 pc') {u v w : Int64} (hw : u ||| v = w) (h : G pc' ls (.long w :: st) A k n) : G pc ls (.long v :: .long u :: st) A k n := by
  obtain ⟨hd, rfl⟩ := hd
  subst hw
  exact H.lift (fun hA hx hby hr => XS.lor hA hx rfl (hb hby hd) rfl hr) h
theorem IsGo.ixor (H : IsGo l Z a0 K n0 b0 y bytes maxL ret R Q G) (hd : Nx bytes pc .ixor 1 pc') {u v w : Int32} (hw : u ^^^ v = w) (h : G pc' ls (.int w :: st) A k n) : G pc ls (.int v :: .int u :: st) A k n := by
  obtain ⟨hd, rfl⟩ := hd
  subst hw
  exact H.lift (fun hA hx hby hr => XS.ixor hA hx rfl (hb hby hd) rfl hr) h
theorem IsGo.lxor (H : IsGo l Z a0 K n0 b0 y bytes maxL ret R Q G) (hd : Nx bytes pc .lxor 1 pc') {u v w : Int64} (hw : u ^^^ v = w) (h : G pc' ls (.long w :: st) A k n) : G pc ls (.long v :: .long u :: st) A k n := by
  obtain ⟨hd, rfl⟩ := hd
  subst hw
  exact H.lift (fun hA hx hby hr => XS.lxor hA hx rfl (hb hby hd) rfl hr) h
theorem IsGo.ishl (H : IsGo l Z a0 K n0 b0 y bytes maxL ret R Q G) (hd : Nx bytes pc .ishl 1 pc') {u v w : Int32} (hw : u <<< (v &&& 31) = w) (h : G pc' ls (.int w :: st) A k n) : G pc ls (.int v :: .int u :: st) A k n := by
  obtain ⟨hd, rfl⟩ := hd
  subst hw
  exact H.lift (fun hA hx hby hr => XS.ishl hA hx rfl (hb hby hd) rfl hr) h
theorem IsGo.ishr (H : IsGo l Z a0 K n0 b0 y bytes maxL ret R Q G) (hd : Nx bytes pc .ishr 1 pc') {u v w : Int32} (hw : u >>> (v &&& 31) = w) (h : G pc' ls (.int w :: st) A k n) : G pc ls (.int v :: .int u :: st) A k n := by
  obtain ⟨hd, rfl⟩ := hd
  subst hw
  exact H.lift (fun hA hx hby hr => XS.ishr hA hx rfl (hb hby hd) rfl hr) h
theorem IsGo.iushr (H : IsGo l Z a0 K n0 b0 y bytes maxL ret R Q G) (hd : Nx bytes pc .iushr 1 pc') {u v w : Int32} (hw : (u.toUInt32 >>> (v &&& 31).toUInt32).toInt32 = w) (h : G pc' ls (.int w :: st) A k n) : G pc ls (.int v :: .int u :: st) A k n := by
  obtain ⟨hd, rfl⟩ := hd
  subst hw
  exact H.lift (fun hA hx hby hr => XS.iushr hA hx rfl (hb hby hd) rfl hr) h
theorem IsGo.lshl (H : IsGo l Z a0 K n0 b0 y bytes maxL ret R Q G) (hd : Nx bytes pc .lshl 1 pc') {u w : Int64} {v : Int32} (hw : u <<< (v &&& 0x3f).toInt64 = w) (h : G pc' ls (.long w :: st) A k n) : G pc ls (.int v :: .long u :: st) A k n := by
  obtain ⟨hd, rfl⟩ := hd
  subst hw
  exact H.lift (fun hA hx hby hr => XS.lshl hA hx rfl (hb hby hd) rfl hr) h
theorem IsGo.lshr (H : IsGo l Z a0 K n0 b0 y bytes maxL ret R Q G) (hd : Nx bytes pc .lshr 1 pc') {u w : Int64} {v : Int32} (hw : u >>> (v &&& 0x3f).toInt64 = w) (h : G pc' ls (.long w :: st) A k n) : G pc ls (.int v :: .long u :: st) A k n := by
  obtain ⟨hd, rfl⟩ := hd
  subst hw
  exact H.lift (fun hA hx hby hr => XS.lshr hA hx rfl (hb hby hd) rfl hr) h
theorem IsGo.lushr (H : IsGo l Z a0 K n0 b0 y bytes maxL ret R Q G) (hd : Nx bytes pc .lushr 1 pc') {u w : Int64} {v : Int32} (hw : (u.toUInt64 >>> (v &&& 0x3f).toInt64.toUInt64).toInt64 = w) (h : G pc' ls (.long w :: st) A k n) : G pc ls (.int v :: .long u :: st) A k n := by
  obtain ⟨hd, rfl⟩ := hd
  subst hw
  exact H.lift (fun hA hx hby hr => XS.lushr hA hx rfl (hb hby hd) rfl hr) h
theorem IsGo.ineg (H : IsGo l Z a0 K n0 b0 y bytes maxL ret R Q G) (hd : Nx bytes pc .ineg 1 pc') {u : Int32} {w : Int32} (hw : -u = w) (h : G pc' ls (.int w :: st) A k n) : G pc ls (.int u :: st) A k n := by
  obtain ⟨hd, rfl⟩ := hd
  subst hw
  exact H.lift (fun hA hx hby hr => XS.ineg hA hx rfl (hb hby hd) rfl hr) h
theorem IsGo.lneg (H : IsGo l Z a0 K n0 b0 y bytes maxL ret R Q G) (hd : Nx bytes pc .lneg 1 pc') {u : Int64} {w : Int64} (hw : -u = w) (h : G pc' ls (.long w :: st) A k n) : G pc ls (.long u :: st) A k n := by
  obtain ⟨hd, rfl⟩ := hd
  subst hw
  exact H.lift (fun hA hx hby hr => XS.lneg hA hx rfl (hb hby hd) rfl hr) h
theorem IsGo.i2l (H : IsGo l Z a0 K n0 b0 y bytes maxL ret R Q G) (hd : Nx bytes pc .i2l 1 pc') {u : Int32} {w : Int64} (hw : u.toInt64 = w) (h : G pc' ls (.long w :: st) A k n) : G pc ls (.int u :: st) A k n := by
  obtain ⟨hd, rfl⟩ := hd
  subst hw
  exact H.lift (fun hA hx hby hr => XS.i2l hA hx rfl (hb hby hd) rfl hr) h
theorem IsGo.l2i (H : IsGo l Z a0 K n0 b0 y bytes maxL ret R Q G) (hd : Nx bytes pc .l2i 1 pc') {u : Int64} {w : Int32} (hw : u.toInt32 = w) (h : G pc' ls (.int w :: st) A k n) : G pc ls (.long u :: st) A k n := by
  obtain ⟨hd, rfl⟩ := hd
  subst hw
  exact H.lift (fun hA hx hby hr => XS.l2i hA hx rfl (hb hby hd) rfl hr) h
theorem IsGo.i2b (H : IsGo l Z a0 K n0 b0 y bytes maxL ret R Q G) (hd : Nx bytes pc .i2b 1 pc') {u : Int32} {w : Int32} (hw : u.toInt8.toInt32 = w) (h : G pc' ls (.int w :: st) A k n) : G pc ls (.int u :: st) A k n := by
  obtain ⟨hd, rfl⟩ := hd
  subst hw
  exact H.lift (fun hA hx hby hr => XS.i2b hA hx rfl (hb hby hd) rfl hr) h
theorem IsGo.idiv (H : IsGo l Z a0 K n0 b0 y bytes maxL ret R Q G) (hd : Nx bytes pc .idiv 1 pc') {u v w : Int32} (hv : v ≠ 0) (hw : u / v = w) (h : G pc' ls (.int w :: st) A k n) : G pc ls (.int v :: .int u :: st) A k n := by
  obtain ⟨hd, rfl⟩ := hd
  subst hw
  exact H.lift (fun hA hx hby hr => XS.idiv hA hx rfl (hb hby hd) rfl hv hr) h
theorem IsGo.irem (H : IsGo l Z a0 K n0 b0 y bytes maxL ret R Q G) (hd : Nx bytes pc .irem 1 pc') {u v w : Int32} (hv : v ≠ 0) (hw : u % v = w) (h : G pc' ls (.int w :: st) A k n) : G pc ls (.int v :: .int u :: st) A k n := by
  obtain ⟨hd, rfl⟩ := hd
  subst hw
  have q : u - u / v * v = u % v := irem_eq_mod u v
  rw [← q] at h
  exact H.lift (fun hA hx hby hr => XS.irem hA hx rfl (hb hby hd) rfl hv hr) h
theorem IsGo.ldiv (H : IsGo l Z a0 K n0 b0 y bytes maxL ret R Q G) (hd : Nx bytes pc .ldiv 1 pc') {u v w : Int64} (hv : v ≠ 0) (hw : u / v = w) (h : G pc' ls (.long w :: st) A k n) : G pc ls (.long v :: .long u :: st) A k n := by
  obtain ⟨hd, rfl⟩ := hd
  subst hw
  exact H.lift (fun hA hx hby hr => XS.ldiv hA hx rfl (hb hby hd) rfl hv hr) h
theorem IsGo.lrem (H : IsGo l Z a0 K n0 b0 y bytes maxL ret R Q G) (hd : Nx bytes pc .lrem 1 pc') {u v w : Int64} (hv : v ≠ 0) (hw : u % v = w) (h : G pc' ls (.long w :: st) A k n) : G pc ls (.long v :: .long u :: st) A k n := by
  obtain ⟨hd, rfl⟩ := hd
  subst hw
  rw [← lrem_mod u v] at h
  exact H.lift (fun hA hx hby hr => XS.lrem hA hx rfl (hb hby hd) rfl hv hr) h
theorem IsGo.iinc (H : IsGo l Z a0 K n0 b0 y bytes maxL ret R Q G) {i : Nat} {cst : Int} (hd : Nx bytes pc (.iinc i cst) 3 pc') {u w : Int32} (hl : ls[i]? = some (.val (.int u))) (hw : u + Int32.ofInt cst = w) (hl' : storeLocals ls i (.int w) = some ls') (h : G pc' ls' st A k n) : G pc ls st A k n := by
  obtain ⟨hd, rfl⟩ := hd
  subst hw
  exact H.lift (fun hA hx hby hr => XS.iinc hA hx rfl (hb hby hd) hl hl' hr) h
/-! ### the stack -/
theorem IsGo.dup (H : IsGo l Z a0 K n0 b0 y bytes maxL ret R Q G) (hd : Nx bytes pc .dup 1 pc') {u : Value} (hc : u.category = 1) (h : G pc' ls (u :: u :: st) A k n) : G pc ls (u :: st) A k n := by
  obtain ⟨hd, rfl⟩ := hd
  exact H.lift (fun hA hx hby hr => XS.dup hA hx rfl (hb hby hd) rfl hc hr) h
theorem IsGo.dupX1 (H : IsGo l Z a0 K n0 b0 y bytes maxL ret R Q G) (hd : Nx bytes pc .dup_x1 1 pc') {u v : Value} (hc : u.category = 1) (hc' : v.category = 1) (h : G pc' ls (u :: v :: u :: st) A k n) : G pc ls (u :: v :: st) A k n := by
  obtain ⟨hd, rfl⟩ := hd
  exact H.lift (fun hA hx hby hr => XS.dupX1 hA hx rfl (hb hby hd) rfl hc hc' hr) h
theorem IsGo.dup2 (H : IsGo l Z a0 K n0 b0 y bytes maxL ret R Q G) (hd : Nx bytes pc .dup2 1 pc') {u v : Value} (hc : u.category = 1) (hc' : v.category = 1) (h : G pc' ls (u :: v :: u :: v :: st) A k n) : G pc ls (u :: v :: st) A k n := by
  obtain ⟨hd, rfl⟩ := hd
  exact H.lift (fun hA hx hby hr => XT.dup2 hA hx rfl (hb hby hd) rfl hc hc' hr) h
theorem IsGo.dup2L (H : IsGo l Z a0 K n0 b0 y bytes maxL ret R Q G) (hd : Nx bytes pc .dup2 1 pc') {u : Int64} (h : G pc' ls (.long u :: .long u :: st) A k n) : G pc ls (.long u :: st) A k n := by
  obtain ⟨hd, rfl⟩ := hd
  exact H.lift (fun hA hx hby hr => XT.dup2L hA hx rfl (hb hby hd) rfl hr) h
theorem IsGo.pop (H : IsGo l Z a0 K n0 b0 y bytes maxL ret R Q G) (hd : Nx bytes pc .pop 1 pc') {u : Value} (hc : u.category = 1) (h : G pc' ls st A k n) : G pc ls (u :: st) A k n := by
  obtain ⟨hd, rfl⟩ := hd
  exact H.lift (fun hA hx hby hr => XS.pop hA hx rfl (hb hby hd) rfl hc hr) h
theorem dupX2_step {tb : Tables} [Ours tb] {e : Env} {below : List Frame} {T target : State} {m : MethodId} {c : Code} {g : JFrame} (h : At T m c below) (hx : tb.exec = Jvm.exec) (hg : g.method = m) {u v w : Value} {rest : List Value} (hd : decode c.code g.pc = .ok (.dup_x2, 1)) (hs : g.stack = u :: v :: w :: rest) (hc : u.category = 1) (hc2 : v.category = 1) (hc3 : w.category = 1)
    (hr : Steps tb e below (T.setTop { g with pc := g.pc + 1, stack := u :: v :: w :: u :: rest }) target) : Steps tb e below (T.setTop g) target := by
  subst hg
  jvm_step h [h.top, hx, hd, hs, hc, hc2, hc3, dup_x2.wp_sem]
  exact hr
theorem pop2L_step {tb : Tables} [Ours tb] {e : Env} {below : List Frame} {T target : State} {m : MethodId} {c : Code} {g : JFrame} (h : At T m c below) (hx : tb.exec = Jvm.exec) (hg : g.method = m) {u : Int64} {rest : List Value} (hd : decode c.code g.pc = .ok (.pop2, 1)) (hs : g.stack = .long u :: rest)
    (hr : Steps tb e below (T.setTop { g with pc := g.pc + 1, stack := rest }) target) : Steps tb e below (T.setTop g) target := by
  subst hg
  jvm_step h [h.top, hx, hd, hs, pop2.wp_sem, Value.category]
  exact hr
theorem IsGo.dupX2 (H : IsGo l Z a0 K n0 b0 y bytes maxL ret R Q G) (hd : Nx bytes pc .dup_x2 1 pc') {u v w : Value} (hc : u.category = 1) (hc' : v.category = 1) (hc3 : w.category = 1) (h : G pc' ls (u :: v :: w :: u :: st) A k n) : G pc ls (u :: v :: w :: st) A k n := by
  obtain ⟨hd, rfl⟩ := hd
  exact H.lift (fun hA hx hby hr => dupX2_step hA hx rfl (hb hby hd) rfl hc hc' hc3 hr) h
theorem IsGo.pop2L (H : IsGo l Z a0 K n0 b0 y bytes maxL ret R Q G) (hd : Nx bytes pc .pop2 1 pc') {u : Int64} (h : G pc' ls st A k n) : G pc ls (.long u :: st) A k n := by
  obtain ⟨hd, rfl⟩ := hd
  exact H.lift (fun hA hx hby hr => pop2L_step hA hx rfl (hb hby hd) rfl hr) h
/-! ### branches -/
theorem IsGo.goto (H : IsGo l Z a0 K n0 b0 y bytes maxL ret R Q G) {f : Nat} (hd : Bx bytes pc .goto pc' f) (h : G pc' ls st A k n) : G pc ls st A k n := by
  obtain ⟨o, hd, ho, hp, -⟩ := hd
  exact H.lift (fun hA hx hby hr => XS.goto hA hx rfl (pc0 := pc) (pc' := pc') rfl (hb hby hd) ho hp hr) h
/-- what a comparison of two ints says -/
def CP : ClassFile.Cond → Int32 → Int32 → Prop
  | .eq, u, v => u = v
  | .ne, u, v => ¬ u = v
  | .lt, u, v => u < v
  | .ge, u, v => ¬ u < v
  | .gt, u, v => v < u
  | .le, u, v => ¬ v < u
def CPL : ClassFile.Cond → Int64 → Int64 → Prop
  | .eq, u, v => u = v
  | .ne, u, v => ¬ u = v
  | .lt, u, v => u < v
  | .ge, u, v => ¬ u < v
  | .gt, u, v => v < u
  | .le, u, v => ¬ v < u
def ng : ClassFile.Cond → ClassFile.Cond
  | .eq => .ne | .ne => .eq | .lt => .ge | .ge => .lt | .gt => .le | .le => .gt
theorem cp_or (cd : ClassFile.Cond) (u v : Int32) : CP cd u v ∨ CP (ng cd) u v := by
  cases cd <;> simp only [CP, ng] <;> first | exact Classical.em _ | exact (Classical.em _).symm
theorem cpl_or (cd : ClassFile.Cond) (u v : Int64) : CPL cd u v ∨ CPL (ng cd) u v := by
  cases cd <;> simp only [CPL, ng] <;> first | exact Classical.em _ | exact (Classical.em _).symm
theorem cp_t {cd : ClassFile.Cond} {u v : Int32} (h : CP cd u v) : if_icmp.holds cd u v = true := by
  cases cd <;> simp only [CP] at h
  · exact XT.ii_eq_t h
  · exact XT.ii_ne_t h
  · exact XT.ii_lt_t h
  · exact XT.ii_ge_t h
  · exact XT.ii_gt_t h
  · exact XT.ii_le_t h
theorem cp_f {cd : ClassFile.Cond} {u v : Int32} (h : CP (ng cd) u v) : if_icmp.holds cd u v = false := by
  cases cd <;> simp only [CP, ng] at h
  · exact XT.ii_eq_f h
  · exact XT.ii_ne_f h
  · exact XT.ii_lt_f h
  · exact XT.ii_ge_f h
  · exact XT.ii_gt_f h
  · exact XT.ii_le_f h
theorem IsGo.icmpT (H : IsGo l Z a0 K n0 b0 y bytes maxL ret R Q G) {cd : ClassFile.Cond} {t f : Nat} (hd : Bx bytes pc (.if_icmp cd) t f) {u v : Int32} (hc : CP cd u v) (h : G t ls st A k n) : G pc ls (.int v :: .int u :: st) A k n := by
  obtain ⟨o, hd, ho, hp, rfl⟩ := hd
  exact H.lift (fun hA hx hby hr => XS.icmpYes hA hx rfl (pc0 := pc) (pc' := t) rfl (hb hby hd) rfl (cp_t hc) ho hp hr) h
theorem IsGo.icmpF (H : IsGo l Z a0 K n0 b0 y bytes maxL ret R Q G) {cd : ClassFile.Cond} {t f : Nat} (hd : Bx bytes pc (.if_icmp cd) t f) {u v : Int32} (hc : CP (ng cd) u v) (h : G f ls st A k n) : G pc ls (.int v :: .int u :: st) A k n := by
  obtain ⟨o, hd, ho, hp, rfl⟩ := hd
  exact H.lift (fun hA hx hby hr => XS.icmpNo hA hx rfl (hb hby hd) rfl (cp_f hc) hr) h
theorem IsGo.icmpS (H : IsGo l Z a0 K n0 b0 y bytes maxL ret R Q G) {cd : ClassFile.Cond} {t f : Nat} (hd : Bx bytes pc (.if_icmp cd) t f) {u v : Int32} (h1 : CP cd u v → G t ls st A k n) (h2 : CP (ng cd) u v → G f ls st A k n) : G pc ls (.int v :: .int u :: st) A k n :=
  (cp_or cd u v).elim (fun q => H.icmpT hd q (h1 q)) (fun q => H.icmpF hd q (h2 q))
theorem IsGo.ifT (H : IsGo l Z a0 K n0 b0 y bytes maxL ret R Q G) {cd : ClassFile.Cond} {t f : Nat} (hd : Bx bytes pc (.ifCond cd) t f) {u : Int32} (hc : CP cd u 0) (h : G t ls st A k n) : G pc ls (.int u :: st) A k n := by
  obtain ⟨o, hd, ho, hp, rfl⟩ := hd
  exact H.lift (fun hA hx hby hr => XS.ifYes hA hx rfl (pc0 := pc) (pc' := t) rfl (hb hby hd) rfl (by rw [if0]; exact cp_t hc) ho hp hr) h
theorem IsGo.ifF (H : IsGo l Z a0 K n0 b0 y bytes maxL ret R Q G) {cd : ClassFile.Cond} {t f : Nat} (hd : Bx bytes pc (.ifCond cd) t f) {u : Int32} (hc : CP (ng cd) u 0) (h : G f ls st A k n) : G pc ls (.int u :: st) A k n := by
  obtain ⟨o, hd, ho, hp, rfl⟩ := hd
  exact H.lift (fun hA hx hby hr => XS.ifNo hA hx rfl (hb hby hd) rfl (by rw [if0]; exact cp_f hc) hr) h
theorem IsGo.ifS (H : IsGo l Z a0 K n0 b0 y bytes maxL ret R Q G) {cd : ClassFile.Cond} {t f : Nat} (hd : Bx bytes pc (.ifCond cd) t f) {u : Int32} (h1 : CP cd u 0 → G t ls st A k n) (h2 : CP (ng cd) u 0 → G f ls st A k n) : G pc ls (.int u :: st) A k n :=
  (cp_or cd u 0).elim (fun q => H.ifT hd q (h1 q)) (fun q => H.ifF hd q (h2 q))
theorem cpl_cp {cd : ClassFile.Cond} {u v : Int64} (h : CPL cd u v) : CP cd (lcmpW u v) 0 := by
  cases cd <;> simp only [CPL] at h <;> simp only [CP]
  · exact (lw_eq u v).mpr h
  · exact fun q => h ((lw_eq u v).mp q)
  · exact (lw_lt u v).mpr h
  · exact fun q => h ((lw_lt u v).mp q)
  · exact (lw_gt u v).mpr h
  · exact fun q => h ((lw_gt u v).mp q)
theorem IsGo.lcmp (H : IsGo l Z a0 K n0 b0 y bytes maxL ret R Q G) (hd : Nx bytes pc .lcmp 1 pc') {u v : Int64} (h : G pc' ls (.int (lcmpW u v) :: st) A k n) : G pc ls (.long v :: .long u :: st) A k n := by
  obtain ⟨hd, rfl⟩ := hd
  exact H.lift (fun hA hx hby hr => XS.lcmp hA hx rfl (hb hby hd) rfl hr) h
theorem IsGo.lifT (H : IsGo l Z a0 K n0 b0 y bytes maxL ret R Q G) (hd0 : Nx bytes pc .lcmp 1 pc') {cd : ClassFile.Cond} {t f : Nat} (hd : Bx bytes pc' (.ifCond cd) t f) {u v : Int64} (hc : CPL cd u v) (h : G t ls st A k n) : G pc ls (.long v :: .long u :: st) A k n :=
  H.lcmp hd0 (H.ifT hd (cpl_cp hc) h)
theorem cpl_ng {cd : ClassFile.Cond} {u v : Int64} (h : CPL (ng cd) u v) : CP (ng cd) (lcmpW u v) 0 := cpl_cp h
theorem IsGo.lifF (H : IsGo l Z a0 K n0 b0 y bytes maxL ret R Q G) (hd0 : Nx bytes pc .lcmp 1 pc') {cd : ClassFile.Cond} {t f : Nat} (hd : Bx bytes pc' (.ifCond cd) t f) {u v : Int64} (hc : CPL (ng cd) u v) (h : G f ls st A k n) : G pc ls (.long v :: .long u :: st) A k n :=
  H.lcmp hd0 (H.ifF hd (cpl_ng hc) h)
theorem IsGo.lifS (H : IsGo l Z a0 K n0 b0 y bytes maxL ret R Q G) (hd0 : Nx bytes pc .lcmp 1 pc') {cd : ClassFile.Cond} {t f : Nat} (hd : Bx bytes pc' (.ifCond cd) t f) {u v : Int64} (h1 : CPL cd u v → G t ls st A k n) (h2 : CPL (ng cd) u v → G f ls st A k n) : G pc ls (.long v :: .long u :: st) A k n :=
  (cpl_or cd u v).elim (fun q => H.lifT hd0 hd q (h1 q)) (fun q => H.lifF hd0 hd q (h2 q))
theorem IsGo.ifnullT (H : IsGo l Z a0 K n0 b0 y bytes maxL ret R Q G) {t f : Nat} (hd : Bx bytes pc .ifnull t f) (h : G t ls st A k n) : G pc ls (.null :: st) A k n := by
  obtain ⟨o, hd, ho, hp, rfl⟩ := hd
  exact H.lift (fun hA hx hby hr => XS.ifnullYes hA hx rfl (pc0 := pc) (pc' := t) rfl (hb hby hd) rfl ho hp hr) h
theorem IsGo.ifnullF (H : IsGo l Z a0 K n0 b0 y bytes maxL ret R Q G) {t f : Nat} (hd : Bx bytes pc .ifnull t f) {b : Addr} (h : G f ls st A k n) : G pc ls (.ref b :: st) A k n := by
  obtain ⟨o, hd, ho, hp, rfl⟩ := hd
  exact H.lift (fun hA hx hby hr => XS.ifnullNo hA hx rfl (hb hby hd) rfl hr) h
theorem IsGo.ifnonnullT (H : IsGo l Z a0 K n0 b0 y bytes maxL ret R Q G) {t f : Nat} (hd : Bx bytes pc .ifnonnull t f) {b : Addr} (h : G t ls st A k n) : G pc ls (.ref b :: st) A k n := by
  obtain ⟨o, hd, ho, hp, rfl⟩ := hd
  exact H.lift (fun hA hx hby hr => XS.ifnonnullYes hA hx rfl (pc0 := pc) (pc' := t) rfl (hb hby hd) rfl ho hp hr) h
theorem IsGo.ifnonnullF (H : IsGo l Z a0 K n0 b0 y bytes maxL ret R Q G) {t f : Nat} (hd : Bx bytes pc .ifnonnull t f) (h : G f ls st A k n) : G pc ls (.null :: st) A k n := by
  obtain ⟨o, hd, ho, hp, rfl⟩ := hd
  exact H.lift (fun hA hx hby hr => XS.ifnonnullNo hA hx rfl (hb hby hd) rfl hr) h
theorem IsGo.acmp (H : IsGo l Z a0 K n0 b0 y bytes maxL ret R Q G) {cd : ClassFile.ACond} {t f : Nat} (hd : Bx bytes pc (.if_acmp cd) t f) {u v : Value} (h1 : u.isRef = true) (h2 : v.isRef = true) {same : Bool} (hq : decide (u = v) = same) (h : G (if acV cd same = true then t else f) ls st A k n) : G pc ls (v :: u :: st) A k n := by
  obtain ⟨o, hd, ho, hp, rfl⟩ := hd
  obtain ⟨p, e, s, m, args, below, meth, c, hx, hby, hml, hown, hnm, hret, hlk, hZ, hK, hb0, rfl⟩ := H
  intro T locs X hR hF
  obtain ⟨s₂, oo, q1, q2⟩ := h T locs X hR hF
  exact ⟨s₂, oo, RoadKit.acmp X hx (g := mkF m pc ls (v :: u :: st)) rfl h1 h2 (pc0 := pc) rfl (hb hby hd) rfl hq ho (by rw [hp]) q1, q2⟩
/-! ### the heap -/
def FL (Z : State) (a0 : Array Value) (K : KTab) (own : String) (idx k j : Nat) : Prop := ∃ C fs O nm d host, K[k]? = some (C, fs) ∧ fs[j]? = some (O, nm, d) ∧ ((Jvm.Cond.fieldLink own idx O nm d).before a0 Z = true ∨ (Jvm.Cond.fieldLinkNest own idx O nm d host).before a0 Z = true)
def PL (Z : State) (a0 : Array Value) (K : KTab) (own mname : String) (idx k j : Nat) (ty : FieldType) : Prop := ∃ C fs O nm d host, K[k]? = some (C, fs) ∧ fs[j]? = some (O, nm, d) ∧ ((Jvm.Cond.fieldLink own idx O nm d).before a0 Z = true ∨ (Jvm.Cond.fieldLinkNest own idx O nm d host).before a0 Z = true) ∧
  ((Jvm.Cond.lays C O nm d).before a0 Z = true ∨ ((Jvm.Cond.laysFinal C O nm d).before a0 Z = true ∧ own = O ∧ mname = "<init>")) ∧ parseFieldDescriptor d = some ty
theorem IsGo.getfield (H : IsGo l Z a0 K n0 b0 y bytes maxL ret R Q G) {idx kk j i : Nat} (hd : Nx bytes pc (.getfield idx) 3 pc') (L : FL Z a0 K y.cls idx kk j) {vs : List Value} {v : Value} (hA : A[i]? = some (.inl (kk, vs))) (hv : vs[j]? = some v) (h : G pc' ls (v :: st) A k n) : G pc ls (.ref (n0 + i) :: st) A k n := by
  obtain ⟨hd, rfl⟩ := hd
  obtain ⟨p, e, s, m, args, below, meth, c, hx, hby, hml, hown, hnm, hret, hlk, hZ, hK, hb0, rfl⟩ := H
  obtain ⟨C, fs, O, nm, d, host, hk, hj, w⟩ := L
  intro T locs X hR hF
  obtain ⟨C', fs', hk', hE, hlen, hf⟩ := hR.2 i _ hA
  cases hk.symm.trans hk'
  obtain ⟨T', X', eT, sp⟩ := getF X hx hZ hown w Via.refl rfl (hf j _ v hj hv) (g := mkF m pc ls (.ref (n0 + i) :: st)) rfl rfl (hb hby hd)
  obtain ⟨s₂, o, h1, h2⟩ := h T' locs X' (by rw [eT]; exact hR) hF
  exact ⟨s₂, o, sp _ h1, h2⟩
theorem IsGo.putfield (H : IsGo l Z a0 K n0 b0 y bytes maxL ret R Q G) {idx kk j i : Nat} {ty : FieldType} (hd : Nx bytes pc (.putfield idx) 3 pc') (L : PL Z a0 K y.cls y.name idx kk j ty) {vs : List Value} {v : Value} (hA : A[i]? = some (.inl (kk, vs))) (hn : narrow ty v = v) (hf : fits ty v = true) (hA' : A.set i (.inl (kk, vs.set j v)) = A') (h : G pc' ls st A' k n) : G pc ls (v :: .ref (n0 + i) :: st) A k n := by
  obtain ⟨hd, rfl⟩ := hd
  obtain ⟨p, e, s, m, args, below, meth, c, hx, hby, hml, hown, hnm, hret, hlk, hZ, hK, hb0, rfl⟩ := H
  obtain ⟨C, fs, O, nm, d, host, hk, hj, w, wl, hty⟩ := L
  subst hA'
  intro T locs X hR hF
  have hO := hR.2 i _ hA
  obtain ⟨C', fs', hk', hE, hlen, hfl⟩ := hR.2 i _ hA
  cases hk.symm.trans hk'
  obtain ⟨⟨ki, wi⟩, -, -⟩ := hK kk C fs hk
  have hlt : j < vs.length := by rw [hlen]; exact (List.getElem?_eq_some_iff.mp hj).1
  obtain ⟨T', h', X', eT, W, sp⟩ := putF X hx hZ hown w Via.refl rfl (hfl j _ vs[j] hj (List.getElem?_eq_getElem hlt)) hE (by rw [hnm]; exact wl) wi hty hn hf (g := mkF m pc ls (v :: .ref (n0 + i) :: st)) rfl rfl (hb hby hd)
  obtain ⟨s₂, o, h1, h2⟩ := h T' _ X' (by rw [eT]; exact hR.set W (hO.setF hK hk hj W)) (Fr.snoc X' hF (Nat.le_add_right _ _))
  exact ⟨s₂, o, sp _ h1, h2⟩
def NL (Z : State) (a0 : Array Value) (K : KTab) (own : String) (idx kk sz : Nat) (dv : List Value) : Prop := ∃ C fs, K[kk]? = some (C, fs) ∧ (Jvm.Cond.classLink own idx C).before a0 Z = true ∧ (Jvm.Cond.instantiable C sz).before a0 Z = true ∧ (Jvm.Cond.initialized C).before a0 Z = true ∧ fs.map (fun f => (parseFieldDescriptor f.2.2).map defaultValue) = dv.map some
theorem size_up {p : Program} {e : Env} {s T' : State} {m : MethodId} {args : Array Value} {below : List Frame} {meth : Method} {c : Code} {locs : List Loc} {h : Heap} (X : Stand p l e R s m args below meth c T' locs (k + 1) n) (hb : s.heap.size = n0 + b0) (hh : h.size = n0 + A.length) (hk : A.length = b0 + k) (hlt : h.size < T'.heap.size) : T'.heap.size = n0 + (A.length + 1) := by
  have := X.heapSize
  omega
theorem IsGo.new (H : IsGo l Z a0 K n0 b0 y bytes maxL ret R Q G) {idx kk sz i : Nat} {dv : List Value} (hd : Nx bytes pc (.new idx) 3 pc') (L : NL Z a0 K y.cls idx kk sz dv) (hk : A.length = b0 + k) (hc : k + 1 ≤ R.cells) (hs : n + sz ≤ R.slots) (hi : A.length = i) (hA' : A ++ [.inl (kk, dv)] = A') (hk' : k + 1 = k') (hn' : n + sz = n') (h : G pc' ls (.ref (n0 + i) :: st) A' k' n') : G pc ls st A k n := by
  obtain ⟨hd, rfl⟩ := hd
  obtain ⟨p, e, s, m, args, below, meth, c, hx, hby, hml, hown, hnm, hret, hlk, hZ, hK, hb0, rfl⟩ := H
  obtain ⟨C, fs, hkk, w1, w2, w3, hdv⟩ := L
  subst hA' hk' hn' hi
  intro T locs X hR hF
  obtain ⟨T', h', X', eT, E, EA, D, -, sp⟩ := newO X hx hZ hown w1 w2 w3 rfl (g := mkF m pc ls st) rfl (hb hby hd) hc hs
  have hsz : h'.size = n0 + (A.length + 1) := by rw [← eT]; exact size_up X' hb0 hR.1 hk (by rw [eT]; exact EA.lt)
  rw [hR.1] at EA D
  have hlen : dv.length = fs.length := by simpa using (congrArg List.length hdv).symm
  obtain ⟨-, kl, -⟩ := hK kk C fs hkk
  have hN : ObAt Z K h' (n0 + A.length) (.inl (kk, dv)) := ⟨C, fs, hkk, EA, hlen, fun j f v q r => by
    obtain ⟨L1, t, ht⟩ := kl j f q
    have e1 : (fs.map (fun f => (parseFieldDescriptor f.2.2).map defaultValue))[j]? = some (some (defaultValue t)) := by simp [List.getElem?_map, q, ht]
    rw [hdv, List.getElem?_map, r] at e1
    simp only [Option.map_some, Option.some.injEq] at e1
    rw [e1]; exact D L1 ht⟩
  obtain ⟨s₂, o, h1, h2⟩ := h T' locs X' (by rw [eT]; exact hR.push E hsz hN) hF
  rw [← hR.1] at h1
  exact ⟨s₂, o, sp _ h1, h2⟩
def AL (Z : State) (a0 : Array Value) (t : FieldType) : Prop := (Jvm.Cond.arrayClass t).before a0 Z = true
theorem tn_of {z : Int32} {N : Nat} (h : z.toInt = (N : Int)) : ¬ z < 0 ∧ z.toNatClampNeg = N := by
  constructor
  · intro q
    have := Int32.lt_iff_toInt_lt.mp q
    simp at this; omega
  · simp [Int32.toNatClampNeg, h]
theorem IsGo.newarray (H : IsGo l Z a0 K n0 b0 y bytes maxL ret R Q G) {aty : ArrayType} {i N cap : Nat} {z : Int32} {vs : List Value} {ty : FieldType} (hd : Nx bytes pc (.newarray aty) 2 pc') (hty : newarray.typeOf aty = ty) (w : AL Z a0 ty) (hz : z.toInt = (N : Int)) (hvs : List.replicate N (defaultValue ty) = vs) (hcap : N ≤ cap) (hbig : cap * 8 ≤ 536870912) (hk : A.length = b0 + k) (hc : k + 1 ≤ R.cells) (hs : n + cap ≤ R.slots) (hi : A.length = i) (hA' : A ++ [.inr (ty, vs)] = A') (hk' : k + 1 = k') (hn' : n + cap = n') (h : G pc' ls (.ref (n0 + i) :: st) A' k' n') : G pc ls (.int z :: st) A k n := by
  obtain ⟨hd, rfl⟩ := hd
  obtain ⟨p, e, s, m, args, below, meth, c, hx, hby, hml, hown, hnm, hret, hlk, hZ, hK, hb0, rfl⟩ := H
  subst hA' hk' hn' hi hty
  obtain ⟨z1, z2⟩ := tn_of hz
  intro T locs X hR hF
  obtain ⟨T', h', cA, X', eT, E, Ar, EA, sp⟩ := newPE X hx hZ w rfl (g := mkF m pc ls (.int z :: st)) rfl (hb hby hd) rfl z1 (by rw [z2]; exact hcap) hbig hc hs rfl
  have hsz : h'.size = n0 + (A.length + 1) := by rw [← eT]; exact size_up X' hb0 hR.1 hk (by rw [eT]; exact EA.lt)
  rw [hR.1] at EA Ar
  have hN : ObAt Z K h' (n0 + A.length) (.inr (newarray.typeOf aty, vs)) := ⟨⟨EA, fun w hw => by rw [← hvs] at hw; rw [(List.mem_replicate.mp hw).2]; cases aty <;> rfl⟩, _, Ar, by simp [newA, z2, ← hvs], fun C q => by cases aty <;> simp [newarray.typeOf] at q⟩
  obtain ⟨s₂, o, h1, h2⟩ := h T' locs X' (by rw [eT]; exact hR.push E hsz hN) hF
  rw [← hR.1] at h1
  exact ⟨s₂, o, sp _ h1, h2⟩
theorem IsGo.anewarray (H : IsGo l Z a0 K n0 b0 y bytes maxL ret R Q G) {idx i N cap : Nat} {z : Int32} {vs : List Value} {C : String} (hd : Nx bytes pc (.anewarray idx) 3 pc') (w1 : (Jvm.Cond.classLink y.cls idx C).before a0 Z = true) (w2 : (Jvm.Cond.arrayOver (.object C)).before a0 Z = true) (hz : z.toInt = (N : Int)) (hvs : List.replicate N Value.null = vs) (hcap : N ≤ cap) (hbig : cap * 8 ≤ 536870912) (hk : A.length = b0 + k) (hc : k + 1 ≤ R.cells) (hs : n + cap ≤ R.slots) (hi : A.length = i) (hA' : A ++ [.inr (.object C, vs)] = A') (hk' : k + 1 = k') (hn' : n + cap = n') (h : G pc' ls (.ref (n0 + i) :: st) A' k' n') : G pc ls (.int z :: st) A k n := by
  obtain ⟨hd, rfl⟩ := hd
  obtain ⟨p, e, s, m, args, below, meth, c, hx, hby, hml, hown, hnm, hret, hlk, hZ, hK, hb0, rfl⟩ := H
  subst hA' hk' hn' hi
  obtain ⟨z1, z2⟩ := tn_of hz
  intro T locs X hR hF
  obtain ⟨T', h', cA, X', eT, E, Ar, EA, Ov, sp⟩ := newRE X hx hZ hown w1 w2 rfl (g := mkF m pc ls (.int z :: st)) rfl (hb hby hd) rfl z1 (by rw [z2]; exact hcap) hbig hc hs rfl
  have hsz : h'.size = n0 + (A.length + 1) := by rw [← eT]; exact size_up X' hb0 hR.1 hk (by rw [eT]; exact EA.lt)
  rw [hR.1] at EA Ar
  have hN : ObAt Z K h' (n0 + A.length) (.inr (.object C, vs)) := ⟨⟨EA, fun w hw => by rw [← hvs] at hw; rw [(List.mem_replicate.mp hw).2]; rfl⟩, _, Ar, by simp [newA, z2, ← hvs, defaultValue], fun C' q => by cases q; exact Ov⟩
  obtain ⟨s₂, o, h1, h2⟩ := h T' locs X' (by rw [eT]; exact hR.push E hsz hN) hF
  rw [← hR.1] at h1
  exact ⟨s₂, o, sp _ h1, h2⟩
theorem arr_in {c : Cell} {vs : List Value} {z : Int32} {j : Nat} (hz : z.toInt = (j : Int)) (hs : c.slots = vs.toArray) (hj : j < vs.length) : ¬ (z < 0 ∨ c.slots.size ≤ z.toNatClampNeg) := by
  obtain ⟨z1, z2⟩ := tn_of hz
  rw [z2, hs]; simp [z1]; omega
theorem IsGo.arraylength (H : IsGo l Z a0 K n0 b0 y bytes maxL ret R Q G) (hd : Nx bytes pc .arraylength 1 pc') {i : Nat} {ty : FieldType} {vs : List Value} {z : Int32} (hA : A[i]? = some (.inr (ty, vs))) (hz : vs.length.toInt32 = z) (h : G pc' ls (.int z :: st) A k n) : G pc ls (.ref (n0 + i) :: st) A k n := by
  obtain ⟨hd, rfl⟩ := hd
  obtain ⟨p, e, s, m, args, below, meth, c, hx, hby, hml, hown, hnm, hret, hlk, hZ, hK, hb0, rfl⟩ := H
  subst hz
  intro T locs X hR hF
  obtain ⟨EA, cl, Ar, hcs, -⟩ := hR.2 i _ hA
  obtain ⟨s₂, o, h1, h2⟩ := h T locs X hR hF
  have q : vs.length = cl.slots.size := by rw [hcs]; simp
  rw [q] at h1
  exact ⟨s₂, o, X.arraylength hx Ar.1 (State.isArrayOf_alike hZ.alike Ar.2.1) (g := mkF m pc ls (.ref (n0 + i) :: st)) rfl rfl (hb hby hd) _ h1, h2⟩
theorem IsGo.iaload (H : IsGo l Z a0 K n0 b0 y bytes maxL ret R Q G) (hd : Nx bytes pc .iaload 1 pc') {i j : Nat} {vs : List Value} {z : Int32} {v : Value} (hA : A[i]? = some (.inr (.int, vs))) (hz : z.toInt = (j : Int)) (hv : vs[j]? = some v) (h : G pc' ls (v :: st) A k n) : G pc ls (.int z :: .ref (n0 + i) :: st) A k n := by
  obtain ⟨hd, rfl⟩ := hd
  obtain ⟨p, e, s, m, args, below, meth, c, hx, hby, hml, hown, hnm, hret, hlk, hZ, hK, hb0, rfl⟩ := H
  intro T locs X hR hF
  obtain ⟨EA, cl, Ar, hcs, -⟩ := hR.2 i _ hA
  obtain ⟨s₂, o, h1, h2⟩ := h T locs X hR hF
  exact ⟨s₂, o, X.iaload hx Ar.1 (State.isArrayOf_alike hZ.alike Ar.2.1) Ar.2.2 (arr_in hz hcs (List.getElem?_eq_some_iff.mp hv).1) (v := v) (by rw [(tn_of hz).2, hcs]; simpa using hv) (g := mkF m pc ls (.int z :: .ref (n0 + i) :: st)) rfl rfl (hb hby hd) _ h1, h2⟩
theorem IsGo.laload (H : IsGo l Z a0 K n0 b0 y bytes maxL ret R Q G) (hd : Nx bytes pc .laload 1 pc') {i j : Nat} {vs : List Value} {z : Int32} {v : Value} (hA : A[i]? = some (.inr (.long, vs))) (hz : z.toInt = (j : Int)) (hv : vs[j]? = some v) (h : G pc' ls (v :: st) A k n) : G pc ls (.int z :: .ref (n0 + i) :: st) A k n := by
  obtain ⟨hd, rfl⟩ := hd
  obtain ⟨p, e, s, m, args, below, meth, c, hx, hby, hml, hown, hnm, hret, hlk, hZ, hK, hb0, rfl⟩ := H
  intro T locs X hR hF
  obtain ⟨EA, cl, Ar, hcs, -⟩ := hR.2 i _ hA
  obtain ⟨s₂, o, h1, h2⟩ := h T locs X hR hF
  exact ⟨s₂, o, X.laload hx Ar.1 (State.isArrayOf_alike hZ.alike Ar.2.1) Ar.2.2 (arr_in hz hcs (List.getElem?_eq_some_iff.mp hv).1) (v := v) (by rw [(tn_of hz).2, hcs]; simpa using hv) (g := mkF m pc ls (.int z :: .ref (n0 + i) :: st)) rfl rfl (hb hby hd) _ h1, h2⟩
theorem IsGo.aaload (H : IsGo l Z a0 K n0 b0 y bytes maxL ret R Q G) (hd : Nx bytes pc .aaload 1 pc') {i j : Nat} {C : String} {vs : List Value} {z : Int32} {v : Value} (hA : A[i]? = some (.inr (.object C, vs))) (hz : z.toInt = (j : Int)) (hv : vs[j]? = some v) (h : G pc' ls (v :: st) A k n) : G pc ls (.int z :: .ref (n0 + i) :: st) A k n := by
  obtain ⟨hd, rfl⟩ := hd
  obtain ⟨p, e, s, m, args, below, meth, c, hx, hby, hml, hown, hnm, hret, hlk, hZ, hK, hb0, rfl⟩ := H
  intro T locs X hR hF
  obtain ⟨EA, cl, Ar, hcs, -⟩ := hR.2 i _ hA
  obtain ⟨s₂, o, h1, h2⟩ := h T locs X hR hF
  exact ⟨s₂, o, X.aaload hx Ar.1 (State.isArrayOf_alike hZ.alike Ar.2.1) rfl Ar.2.2 (arr_in hz hcs (List.getElem?_eq_some_iff.mp hv).1) (v := v) (by rw [(tn_of hz).2, hcs]; simpa using hv) (g := mkF m pc ls (.int z :: .ref (n0 + i) :: st)) rfl rfl (hb hby hd) _ h1, h2⟩
theorem IsGo.iastore (H : IsGo l Z a0 K n0 b0 y bytes maxL ret R Q G) (hd : Nx bytes pc .iastore 1 pc') {i j : Nat} {vs : List Value} {z v : Int32} (hA : A[i]? = some (.inr (.int, vs))) (hz : z.toInt = (j : Int)) (hj : j < vs.length) (hA' : A.set i (.inr (.int, vs.set j (.int v))) = A') (h : G pc' ls st A' k n) : G pc ls (.int v :: .int z :: .ref (n0 + i) :: st) A k n := by
  obtain ⟨hd, rfl⟩ := hd
  obtain ⟨p, e, s, m, args, below, meth, c, hx, hby, hml, hown, hnm, hret, hlk, hZ, hK, hb0, rfl⟩ := H
  subst hA'
  intro T locs X hR hF
  have hO := hR.2 i _ hA
  obtain ⟨EA, cl, Ar, hcs, -⟩ := hR.2 i _ hA
  obtain ⟨T', h', X', eT, W, sp⟩ := stI X hx hZ rfl Ar (arr_in hz hcs hj) (g := mkF m pc ls (.int v :: .int z :: .ref (n0 + i) :: st)) rfl rfl (hb hby hd)
  rw [(tn_of hz).2] at W
  obtain ⟨s₂, o, h1, h2⟩ := h T' _ X' (by rw [eT]; exact hR.set W (hO.setA W rfl)) (Fr.snoc X' hF (Nat.le_add_right _ _))
  exact ⟨s₂, o, sp _ h1, h2⟩
theorem IsGo.lastore (H : IsGo l Z a0 K n0 b0 y bytes maxL ret R Q G) (hd : Nx bytes pc .lastore 1 pc') {i j : Nat} {vs : List Value} {z : Int32} {v : Int64} (hA : A[i]? = some (.inr (.long, vs))) (hz : z.toInt = (j : Int)) (hj : j < vs.length) (hA' : A.set i (.inr (.long, vs.set j (.long v))) = A') (h : G pc' ls st A' k n) : G pc ls (.long v :: .int z :: .ref (n0 + i) :: st) A k n := by
  obtain ⟨hd, rfl⟩ := hd
  obtain ⟨p, e, s, m, args, below, meth, c, hx, hby, hml, hown, hnm, hret, hlk, hZ, hK, hb0, rfl⟩ := H
  subst hA'
  intro T locs X hR hF
  have hO := hR.2 i _ hA
  obtain ⟨EA, cl, Ar, hcs, -⟩ := hR.2 i _ hA
  obtain ⟨T', h', X', eT, W, sp⟩ := stJ X hx hZ rfl Ar (arr_in hz hcs hj) (g := mkF m pc ls (.long v :: .int z :: .ref (n0 + i) :: st)) rfl rfl (hb hby hd)
  rw [(tn_of hz).2] at W
  obtain ⟨s₂, o, h1, h2⟩ := h T' _ X' (by rw [eT]; exact hR.set W (hO.setA W rfl)) (Fr.snoc X' hF (Nat.le_add_right _ _))
  exact ⟨s₂, o, sp _ h1, h2⟩
theorem IsGo.bastore (H : IsGo l Z a0 K n0 b0 y bytes maxL ret R Q G) (hd : Nx bytes pc .bastore 1 pc') {i j : Nat} {vs : List Value} {z v w : Int32} (hA : A[i]? = some (.inr (.byte, vs))) (hz : z.toInt = (j : Int)) (hj : j < vs.length) (hw : nar .byte v = w) (hA' : A.set i (.inr (.byte, vs.set j (.int w))) = A') (h : G pc' ls st A' k n) : G pc ls (.int v :: .int z :: .ref (n0 + i) :: st) A k n := by
  obtain ⟨hd, rfl⟩ := hd
  obtain ⟨p, e, s, m, args, below, meth, c, hx, hby, hml, hown, hnm, hret, hlk, hZ, hK, hb0, rfl⟩ := H
  subst hA' hw
  intro T locs X hR hF
  have hO := hR.2 i _ hA
  obtain ⟨EA, cl, Ar, hcs, -⟩ := hR.2 i _ hA
  obtain ⟨T', h', X', eT, W, sp⟩ := stB X hx hZ rfl Ar (arr_in hz hcs hj) (g := mkF m pc ls (.int v :: .int z :: .ref (n0 + i) :: st)) rfl rfl (hb hby hd)
  rw [(tn_of hz).2] at W
  obtain ⟨s₂, o, h1, h2⟩ := h T' _ X' (by rw [eT]; exact hR.set W (hO.setA W (fits_nar_byte v))) (Fr.snoc X' hF (Nat.le_add_right _ _))
  exact ⟨s₂, o, sp _ h1, h2⟩
/-- the value can stand in an array of that class -/
def StoO (K : KTab) (C : String) (n0 : Nat) (A : List Ob) (v : Value) : Prop := v = .null ∨ ∃ i kk vs fs, v = .ref (n0 + i) ∧ A[i]? = some (.inl (kk, vs)) ∧ K[kk]? = some (C, fs)
theorem IsGo.aastore (H : IsGo l Z a0 K n0 b0 y bytes maxL ret R Q G) (hd : Nx bytes pc .aastore 1 pc') {i j : Nat} {C : String} {vs : List Value} {z : Int32} {v : Value} (hA : A[i]? = some (.inr (.object C, vs))) (hz : z.toInt = (j : Int)) (hj : j < vs.length) (hv : StoO K C n0 A v) (hA' : A.set i (.inr (.object C, vs.set j v)) = A') (h : G pc' ls st A' k n) : G pc ls (v :: .int z :: .ref (n0 + i) :: st) A k n := by
  obtain ⟨hd, rfl⟩ := hd
  obtain ⟨p, e, s, m, args, below, meth, c, hx, hby, hml, hown, hnm, hret, hlk, hZ, hK, hb0, rfl⟩ := H
  subst hA'
  intro T locs X hR hF
  have hO := hR.2 i _ hA
  obtain ⟨EA, cl, Ar, hcs, hov⟩ := hR.2 i _ hA
  have S : Sto Z T.heap (n0 + i) v := by
    rcases hv with rfl | ⟨i2, kk, vs2, fs, rfl, q1, q2⟩
    · exact Or.inl rfl
    · exact Sto.of Ar (hov C rfl) (Ins.self ((hR.2 i2 _ q1).exa q2))
  obtain ⟨T', h', X', eT, W, sp⟩ := stR X hx hZ rfl Ar (arr_in hz hcs hj) rfl S (g := mkF m pc ls (v :: .int z :: .ref (n0 + i) :: st)) rfl rfl (hb hby hd)
  rw [(tn_of hz).2] at W
  obtain ⟨s₂, o, h1, h2⟩ := h T' _ X' (by rw [eT]; exact hR.set W (hO.setA W (by rcases hv with rfl | ⟨i2, kk, vs2, fs, rfl, -⟩ <;> rfl))) (Fr.snoc X' hF (Nat.le_add_right _ _))
  exact ⟨s₂, o, sp _ h1, h2⟩
/-! ### arraycopy, clone, checkcast -/
def XL (Z : State) (a0 : Array Value) (own : String) (idx : Nat) : Prop := (Jvm.Cond.methodLink own idx Jvm.Stand.acN).before a0 Z = true ∧ (Jvm.Cond.native Jvm.Stand.acN).before a0 Z = true ∧ (Jvm.Cond.static Jvm.Stand.acN).before a0 Z = true ∧ (Jvm.Cond.initialized "java/lang/System").before a0 Z = true
theorem arv_of {h : Heap} {a : Addr} {ty : FieldType} {vs : List Value} (hl : vs.length < 2147483648) (F : ObAt Z K h a (.inr (ty, vs))) : ∃ kc : ClassId, Arv Z h a kc ty vs.length.toInt32 vs .null ∧ ∀ C, ty = .object C → Ovr Z kc C := by
  obtain ⟨⟨h1, hf⟩, c, h2, h3, h4⟩ := F
  have e := len_toInt (n := vs.length) (by omega)
  obtain ⟨z1, z2⟩ := tn_of e
  refine ⟨c.cls, ⟨c, h2, rfl, by rw [z2, h3]; simp, z1, fun k hk => ?_, fun i hi => ?_⟩, h4⟩
  · rw [h3] at hk ⊢
    have hk' : k < vs.length := by simpa using hk
    simp [List.getD, hk']
  · rw [h3] at hi
    have hi' : i < vs.length := by simpa using hi
    have : vs.getD i .null = vs[i] := by simp [List.getD, hi']
    rw [this]; exact hf _ (List.getElem_mem hi')
theorem slots_of {c : Cell} {vs : List Value} {d : Value} (hs : c.slots.size = vs.length) (hh : ∀ k, k < c.slots.size → c.slots[k]? = some (vs.getD k d)) : c.slots = vs.toArray := by
  apply Array.ext
  · simpa using hs
  · intro i h1 h2
    have q := hh i h1
    have h3 : i < vs.length := by simpa using h2
    rw [Array.getElem?_eq_getElem h1] at q
    have e : vs.getD i d = vs[i] := by simp [List.getD, h3]
    rw [e] at q
    simpa using q
theorem IsGo.arraycopy (H : IsGo l Z a0 K n0 b0 y bytes maxL ret R Q G) {idx : Nat} (hd : Nx bytes pc (.invokestatic idx) 3 pc') (L : XL Z a0 y.cls idx) {i j : Nat} {ty : FieldType} {vs vd us : List Value} {sp dp nn : Int32} {p q r : Nat} (hA : A[i]? = some (.inr (ty, vs))) (hB : A[j]? = some (.inr (ty, vd))) (hty : refKind ty = false) (h1 : sp.toInt = (p : Int)) (h2 : dp.toInt = (q : Int)) (h3 : nn.toInt = (r : Int)) (h4 : p + r ≤ vs.length) (h5 : q + r ≤ vd.length) (l1 : vs.length < 2147483648) (l2 : vd.length < 2147483648)
    (hus : (List.range r).map (fun i => vs.getD (p + i) .null) = us) (hls : ls.size = maxL) (hf : 1 ≤ R.frames) (hl : (st.map fun v => v.category).sum + (nativeFrameWords "java/lang/System" "arraycopy" 5 + 11) ≤ R.locals) (hk : A.length = b0 + k) (hA' : A.set j (.inr (ty, vd.take q ++ us ++ vd.drop (q + r))) = A') (h : G pc' ls st A' k n) : G pc ls (.int nn :: .int dp :: .ref (n0 + j) :: .int sp :: .ref (n0 + i) :: st) A k n := by
  obtain ⟨hd, rfl⟩ := hd
  obtain ⟨pp, e, s, m, args, below, meth, c, hx, hby, hml, hown, hnm, hret, hlk, hZ, hK, hb0, rfl⟩ := H
  obtain ⟨w1, w2, w3, w4⟩ := L
  subst hA'
  intro T locs X hR hF
  obtain ⟨k1, V1, -⟩ := arv_of l1 (hR.2 i _ hA)
  obtain ⟨k2, V2, O2⟩ := arv_of l2 (hR.2 j _ hB)
  obtain ⟨⟨EB, fB⟩, -⟩ := hR.2 j _ hB
  obtain ⟨⟨-, fA⟩, -⟩ := hR.2 i _ hA
  obtain ⟨s1, s2⟩ := tn_of h1
  obtain ⟨t1, t2⟩ := tn_of h2
  obtain ⟨u1, u2⟩ := tn_of h3
  have n1 := (tn_of (len_toInt (n := vs.length) (by omega))).2
  have n2 := (tn_of (len_toInt (n := vd.length) (by omega))).2
  obtain ⟨T', h', L', X', eT, F', Kp, V', sp'⟩ := cpA X hx hZ hown w1 w2 w3 w4 rfl V1 V2 (us := us) (Or.inl ⟨rfl, hty⟩) s1 t1 u1 (by rw [s2, u2, n1]; exact h4) (by rw [t2, u2, n2]; exact h5) (by rw [s2, u2]; exact hus.symm) (by rw [t2, u2]; exact h5) (n0 := n0) hF (Nat.le_add_right _ _) (g := mkF m pc ls (.int nn :: .int dp :: .ref (n0 + j) :: .int sp :: .ref (n0 + i) :: st)) rfl (by rw [hml]; exact hls) rfl (hb hby hd) hf (W := (st.map fun v => v.category).sum) (by show 2 * 0 + _ ≤ _; omega) hl
  have hsz : h'.size = T.heap.size := by
    have q1 := X'.heapSize
    have q2 := Kp.1
    have q3 := hR.1
    rw [eT] at q1
    omega
  rw [t2, u2] at V'
  have hlen : (vd.take q ++ us ++ vd.drop (q + r)).length = vd.length := by
    have : us.length = r := by rw [← hus]; simp
    simp [this]; omega
  have hO : ObAt Z K h' (n0 + j) (.inr (ty, vd.take q ++ us ++ vd.drop (q + r))) := by
    obtain ⟨cc, a1, a2, a3, a4, a5, a6⟩ := V'
    have e1 : cc.slots.size = (vd.take q ++ us ++ vd.drop (q + r)).length := by rw [hlen, a3, n2]
    refine ⟨⟨EB.keep Kp, fun w hw => ?_⟩, cc, a1, slots_of e1 a5, fun C q => by rw [a2]; exact O2 C q⟩
    obtain ⟨z, hz, rfl⟩ := List.mem_iff_getElem.mp hw
    have := a6 z (by rw [e1]; exact hz)
    rwa [show (vd.take q ++ us ++ vd.drop (q + r)).getD z .null = (vd.take q ++ us ++ vd.drop (q + r))[z] from by simp only [List.getD, List.getElem?_eq_getElem hz, Option.getD_some]] at this
  obtain ⟨s₂, o, g1, g2⟩ := h T' _ X' (by rw [eT]; exact hR.keep Kp hsz hO) F'
  exact ⟨s₂, o, sp' _ g1, g2⟩
def KL (Z : State) (a0 : Array Value) (own : String) (idx : Nat) (ad : String) : Prop := (Jvm.Cond.methodLink own idx ⟨ad, "clone", "()Ljava/lang/Object;"⟩).before a0 Z = true ∧ (Jvm.Cond.sameMethod ad "java/lang/Object" "clone" "()Ljava/lang/Object;").before a0 Z = true ∧ (Jvm.Cond.native ⟨"java/lang/Object", "clone", "()Ljava/lang/Object;"⟩).before a0 Z = true ∧
  (Jvm.Cond.instanceMethod ⟨"java/lang/Object", "clone", "()Ljava/lang/Object;"⟩).before a0 Z = true ∧ (Jvm.Cond.selects ad ⟨ad, "clone", "()Ljava/lang/Object;"⟩ ⟨"java/lang/Object", "clone", "()Ljava/lang/Object;"⟩).before a0 Z = true ∧ (Jvm.Cond.castable ad "java/lang/Cloneable").before a0 Z = true
theorem IsGo.clone (H : IsGo l Z a0 K n0 b0 y bytes maxL ret R Q G) {idx : Nat} {ad : String} (hd : Nx bytes pc (.invokevirtual idx) 3 pc') (L : KL Z a0 y.cls idx ad) {i ii cap : Nat} {ty : FieldType} {vs : List Value} (hA : A[i]? = some (.inr (ty, vs))) (had : "[" ++ ty.toString = ad) (l1 : vs.length < 2147483648) (hcap : vs.length ≤ cap)
    (hls : ls.size = maxL) (hf : 1 ≤ R.frames) (hl : (st.map fun v => v.category).sum + 14 ≤ R.locals) (hk : A.length = b0 + k) (hc : k + 1 ≤ R.cells) (hs : n + cap ≤ R.slots) (hi : A.length = ii) (hA' : A ++ [.inr (ty, vs)] = A') (hk' : k + 1 = k') (hn' : n + cap = n') (h : G pc' ls (.ref (n0 + ii) :: st) A' k' n') : G pc ls (.ref (n0 + i) :: st) A k n := by
  obtain ⟨hd, rfl⟩ := hd
  obtain ⟨pp, e, s, m, args, below, meth, c, hx, hby, hml, hown, hnm, hret, hlk, hZ, hK, hb0, rfl⟩ := H
  obtain ⟨w1, w2, w3, w4, w5, w6⟩ := L
  subst hA' hk' hn' hi had
  intro T locs X hR hF
  obtain ⟨k1, V1, O1⟩ := arv_of l1 (hR.2 i _ hA)
  obtain ⟨⟨EB, fB⟩, -⟩ := hR.2 i _ hA
  have n1 := (tn_of (len_toInt (n := vs.length) (by omega))).2
  obtain ⟨T', h', X', eT, E, V', EA, sp⟩ := cloneH X hx hZ hown w1 w2 w3 w4 w5 w6 rfl V1.arh EB (g := mkF m pc ls (.ref (n0 + i) :: st)) rfl (by rw [hml]; exact hls) rfl (hb hby hd) hf (W := (st.map fun v => v.category).sum) (cap := cap) (by show 2 * 0 + _ ≤ _; omega) hl (by rw [n1]; exact hcap) hc hs
  have hsz : h'.size = n0 + (A.length + 1) := by rw [← eT]; exact size_up X' hb0 hR.1 hk (by rw [eT]; exact EA.lt)
  rw [hR.1] at EA V'
  have hN : ObAt Z K h' (n0 + A.length) (.inr (ty, vs)) := by
    obtain ⟨cc, a1, a2, a3, a4, a5, a6⟩ := V'
    refine ⟨⟨EA, fB⟩, cc, a1, slots_of (by rw [a3, n1]) a5, fun C q => by rw [a2]; exact O1 C q⟩
  obtain ⟨s₂, o, h1, h2⟩ := h T' locs X' (by rw [eT]; exact hR.push E hsz hN) hF
  rw [← hR.1] at h1
  exact ⟨s₂, o, sp _ h1, h2⟩
theorem IsGo.castA (H : IsGo l Z a0 K n0 b0 y bytes maxL ret R Q G) {idx : Nat} {ad : String} (hd : Nx bytes pc (.checkcast idx) 3 pc') (w : (Jvm.Cond.classLink y.cls idx ad).before a0 Z = true) {i : Nat} {ty : FieldType} {vs : List Value} (hA : A[i]? = some (.inr (ty, vs))) (had : "[" ++ ty.toString = ad) (h : G pc' ls (.ref (n0 + i) :: st) A k n) : G pc ls (.ref (n0 + i) :: st) A k n := by
  obtain ⟨hd, rfl⟩ := hd
  obtain ⟨pp, e, s, m, args, below, meth, c, hx, hby, hml, hown, hnm, hret, hlk, hZ, hK, hb0, rfl⟩ := H
  subst had
  intro T locs X hR hF
  obtain ⟨⟨EB, -⟩, -⟩ := hR.2 i _ hA
  obtain ⟨T', X', eT, sp⟩ := castY X hx hZ hown w rfl (Ins.self EB) (g := mkF m pc ls (.ref (n0 + i) :: st)) rfl rfl (hb hby hd)
  obtain ⟨s₂, o, h1, h2⟩ := h T' locs X' (by rw [eT]; exact hR) hF
  exact ⟨s₂, o, sp _ h1, h2⟩
/-! ### calls -/
def IL (Z : State) (a0 : Array Value) (own : String) (idx : Nat) : Prop := (Jvm.Cond.methodLink own idx Lib.objectInit).before a0 Z = true ∧ (Jvm.Cond.instanceMethod Lib.objectInit).before a0 Z = true ∧ (Jvm.Cond.code Lib.objectInit ⟨#[0xb1]⟩ 1 none).before a0 Z = true
theorem IsGo.initO (H : IsGo l Z a0 K n0 b0 y bytes maxL ret R Q G) {idx : Nat} (hd : Nx bytes pc (.invokespecial idx) 3 pc') (L : IL Z a0 y.cls idx) {a : Addr} (hls : ls.size = maxL) (hf : 1 ≤ R.frames) (hl : (st.map fun v => v.category).sum + 12 ≤ R.locals) (h : G pc' ls st A k n) : G pc ls (.ref a :: st) A k n := by
  obtain ⟨hd, rfl⟩ := hd
  obtain ⟨p, e, s, m, args, below, meth, c, hx, hby, hml, hown, hnm, hret, hlk, hZ, hK, hb0, rfl⟩ := H
  obtain ⟨w1, w2, w3⟩ := L
  intro T locs X hR hF
  obtain ⟨T', X', eT, sp⟩ := RoadKit.initO X hx hZ hown w1 w2 w3 rfl (g := mkF m pc ls (.ref a :: st)) rfl (by rw [hml]; exact hls) rfl (hb hby hd) hf (W := (st.map fun v => v.category).sum) (by show 2 * 0 + _ ≤ _; omega) hl
  obtain ⟨s₂, o, h1, h2⟩ := h T' locs X' (by rw [eT]; exact hR) hF
  exact ⟨s₂, o, sp _ h1, h2⟩
def SL (Z : State) (a0 : Array Value) (own : String) (idx : Nat) (z : MethodName) (zb : ByteArray) (zm : Nat) (zr : Option FieldType) (np : Nat) : Prop :=
  (Jvm.Cond.methodLink own idx z).before a0 Z = true ∧ (Jvm.Cond.static z).before a0 Z = true ∧ (Jvm.Cond.initialized z.cls).before a0 Z = true ∧ (Jvm.Cond.code z zb zm zr).before a0 Z = true ∧ (z.cls ≠ "java/lang/invoke/MethodHandle" ∧ z.cls ≠ "java/lang/invoke/VarHandle") ∧ ∀ sig, parseMethodDescriptor z.desc = some sig → np = sig.parameters.length
theorem IsGo.callS (H : IsGo l Z a0 K n0 b0 y bytes maxL ret R Q G) {idx : Nat} (hd : Nx bytes pc (.invokestatic idx) 3 pc') {z : MethodName} {zb : ByteArray} {zm : Nat} {zr : Option FieldType} {np : Nat} (L : SL Z a0 y.cls idx z zb zm zr np) {rm : Room} {as : Array Value} {QQ : Option Value → List Ob → Prop} (M : Met l Z K n0 z zb zm zr rm as A QQ)
    {argsL rest : List Value} (ha : argsL.toArray = as) (hnp : argsL.length = np) (hst : st = argsL.reverse ++ rest) (hls : ls.size = maxL) (hf : rm.frames + 1 ≤ R.frames) (hl : (rest.map fun v => v.category).sum + (zm + 11) + rm.locals ≤ R.locals) (hc : k + rm.cells ≤ R.cells) (hs : n + rm.slots ≤ R.slots) (h : ∀ v A', QQ v A' → G pc' ls (v.toList ++ rest) A' (k + rm.cells) (n + rm.slots)) : G pc ls st A k n := by
  obtain ⟨hd, rfl⟩ := hd
  obtain ⟨p, e, s, m, args, below, meth, c, hx, hby, hml, hown, hnm, hret, hlk, hZ, hK, hb0, rfl⟩ := H
  obtain ⟨w1, w2, w3, w4, w5, w6⟩ := L
  subst ha hst hnp
  intro T locs X hR hF
  obtain ⟨v, vm₁, ⟨T', L', k', n'⟩, -, X', ⟨Lc, ⟨A', hQ, hR', hF'⟩, e1, e2, e3⟩, sp⟩ := Jvm.LawKit.callS X hx (y := z) hown (mvT hZ w1) (mvT hZ w2) (mvT hZ w3) (mvT hZ w4) w5 (backOf (W := (rest.map fun v => v.category).sum) (Q := fun v h L => ∃ A', QQ v A' ∧ Rel Z K n0 h A' ∧ Fr n0 L) (M [] T.heap hR) hZ w4 w3 hf hl) (g := mkF m pc ls (argsL.reverse ++ rest)) rfl (by rw [hml]; exact hls) (argsL := argsL) (rest := rest) w6 rfl (by show 2 * 0 + _ ≤ _; omega) (hb hby hd) (fun _ _ => ⟨rfl, rfl, hc, hs⟩)
  dsimp only [Pt.U, Pt.locs, Pt.cells, Pt.slots] at X' e1 e2 e3 sp hQ hR'
  subst e1 e2 e3
  obtain ⟨s₂, o, h1, h2⟩ := h v A' hQ T' _ X' hR' (Fr.app hF hF')
  exact ⟨s₂, o, sp _ h1, h2⟩
/-- a constructor by its contract -/
def CL (Z : State) (a0 : Array Value) (own : String) (idx : Nat) (z : MethodName) (zb : ByteArray) (zm : Nat) (np : Nat) : Prop :=
  (Jvm.Cond.methodLink own idx z).before a0 Z = true ∧ (Jvm.Cond.instanceMethod z).before a0 Z = true ∧ (Jvm.Cond.initialized z.cls).before a0 Z = true ∧ (Jvm.Cond.code z zb zm none).before a0 Z = true ∧ (z.cls ≠ "java/lang/invoke/MethodHandle" ∧ z.cls ≠ "java/lang/invoke/VarHandle") ∧ (∀ sig, parseMethodDescriptor z.desc = some sig → np = sig.parameters.length) ∧ z.name = "<init>"
theorem IsGo.callC (H : IsGo l Z a0 K n0 b0 y bytes maxL ret R Q G) {idx : Nat} (hd : Nx bytes pc (.invokespecial idx) 3 pc') {z : MethodName} {zb : ByteArray} {zm : Nat} {np : Nat} (L : CL Z a0 y.cls idx z zb zm np) {rm : Room} {as : Array Value} {QQ : Option Value → List Ob → Prop} (M : Met l Z K n0 z zb zm none rm as A QQ)
    {a : Addr} {argsL rest : List Value} (ha : (Value.ref a :: argsL).toArray = as) (hnp : argsL.length = np) (hst : st = argsL.reverse ++ .ref a :: rest) (hls : ls.size = maxL) (hf : rm.frames + 1 ≤ R.frames) (hl : (rest.map fun v => v.category).sum + (zm + 11) + rm.locals ≤ R.locals) (hc : k + rm.cells ≤ R.cells) (hs : n + rm.slots ≤ R.slots) (h : ∀ v A', QQ v A' → G pc' ls (v.toList ++ rest) A' (k + rm.cells) (n + rm.slots)) : G pc ls st A k n := by
  obtain ⟨hd, rfl⟩ := hd
  obtain ⟨p, e, s, m, args, below, meth, c, hx, hby, hml, hown, hnm, hret, hlk, hZ, hK, hb0, rfl⟩ := H
  obtain ⟨w1, w2, w3, w4, w5, w6, w7⟩ := L
  subst ha hst hnp
  intro T locs X hR hF
  obtain ⟨v, vm₁, ⟨T', L', k', n'⟩, -, X', ⟨Lc, ⟨A', hQ, hR', hF'⟩, e1, e2, e3⟩, sp⟩ := X.specialBack hx (y := z) w7 hown (mvT hZ w1) (mvT hZ w2) (mvT hZ w4) w5 (backOf (W := (rest.map fun v => v.category).sum) (Q := fun v h L => ∃ A', QQ v A' ∧ Rel Z K n0 h A' ∧ Fr n0 L) (M [] T.heap hR) hZ w4 w3 hf hl) (g := mkF m pc ls (argsL.reverse ++ .ref a :: rest)) rfl (by rw [hml]; exact hls) (Steps.refl _) (a := a) (argsL := argsL) (rest := rest) w6 rfl (by show 2 * 0 + _ ≤ _; omega) (hb hby hd) (fun _ _ => ⟨rfl, rfl, hc, hs⟩)
  dsimp only [Pt.U, Pt.locs, Pt.cells, Pt.slots] at X' e1 e2 e3 sp hQ hR'
  subst e1 e2 e3
  obtain ⟨s₂, o, h1, h2⟩ := h v A' hQ T' _ X' hR' (Fr.app hF hF')
  exact ⟨s₂, o, sp.trans h1, h2⟩
/-- a method of an object of class number kk, by its contract -/
def VL (Z : State) (a0 : Array Value) (K : KTab) (own : String) (idx kk : Nat) (z : MethodName) (zb : ByteArray) (zm : Nat) (zr : Option FieldType) (np : Nat) : Prop :=
  ∃ C fs, K[kk]? = some (C, fs) ∧ (Jvm.Cond.methodLink own idx z).before a0 Z = true ∧ (Jvm.Cond.declares z).before a0 Z = true ∧ (Jvm.Cond.selects C z z).before a0 Z = true ∧ (Jvm.Cond.instanceMethod z).before a0 Z = true ∧ (Jvm.Cond.initialized z.cls).before a0 Z = true ∧ (Jvm.Cond.code z zb zm zr).before a0 Z = true ∧ (z.cls ≠ "java/lang/invoke/MethodHandle" ∧ z.cls ≠ "java/lang/invoke/VarHandle") ∧ (∀ sig, parseMethodDescriptor z.desc = some sig → np = sig.parameters.length)
theorem IsGo.callV (H : IsGo l Z a0 K n0 b0 y bytes maxL ret R Q G) {idx kk : Nat} (hd : Nx bytes pc (.invokevirtual idx) 3 pc') {z : MethodName} {zb : ByteArray} {zm : Nat} {zr : Option FieldType} {np : Nat} (L : VL Z a0 K y.cls idx kk z zb zm zr np) {rm : Room} {as : Array Value} {QQ : Option Value → List Ob → Prop} (M : Met l Z K n0 z zb zm zr rm as A QQ)
    {i : Nat} {vs : List Value} (hA : A[i]? = some (.inl (kk, vs))) {argsL rest : List Value} (ha : (Value.ref (n0 + i) :: argsL).toArray = as) (hnp : argsL.length = np) (hst : st = argsL.reverse ++ .ref (n0 + i) :: rest) (hls : ls.size = maxL) (hf : rm.frames + 1 ≤ R.frames) (hl : (rest.map fun v => v.category).sum + (zm + 11) + rm.locals ≤ R.locals) (hc : k + rm.cells ≤ R.cells) (hs : n + rm.slots ≤ R.slots) (h : ∀ v A', QQ v A' → G pc' ls (v.toList ++ rest) A' (k + rm.cells) (n + rm.slots)) : G pc ls st A k n := by
  obtain ⟨hd, rfl⟩ := hd
  obtain ⟨p, e, s, m, args, below, meth, c, hx, hby, hml, hown, hnm, hret, hlk, hZ, hK, hb0, rfl⟩ := H
  obtain ⟨C, fs, hk, w1, w2, w3, w4, w5, w6, w7, w8⟩ := L
  subst ha hst hnp
  intro T locs X hR hF
  obtain ⟨cB, kB, qa, qb, qc⟩ := isOf hZ rfl ((hR.2 i _ hA).exa hk)
  obtain ⟨v, vm₁, ⟨T', L', k', n'⟩, -, X', ⟨Lc, ⟨A', hQ, hR', hF'⟩, e1, e2, e3⟩, sp⟩ := X.virtualBack hx (y := z) (z := z) hown (mvT hZ w1) (mvT hZ w2) (notFace_of_selects (args := #[]) (mvT hZ w3)) (mvT hZ w3) (mvT hZ w4) w7 (backOf (W := (rest.map fun v => v.category).sum) (Q := fun v h L => ∃ A', QQ v A' ∧ Rel Z K n0 h A' ∧ Fr n0 L) (M [] T.heap hR) hZ w6 w5 hf hl) qa qc (g := mkF m pc ls (argsL.reverse ++ .ref (n0 + i) :: rest)) rfl (by rw [hml]; exact hls) (Steps.refl _) (argsL := argsL) (rest := rest) w8 rfl (by show 2 * 0 + _ ≤ _; omega) (hb hby hd) (fun _ _ => ⟨rfl, rfl, hc, hs⟩)
  dsimp only [Pt.U, Pt.locs, Pt.cells, Pt.slots] at X' e1 e2 e3 sp hQ hR'
  subst e1 e2 e3
  obtain ⟨s₂, o, h1, h2⟩ := h v A' hQ T' _ X' hR' (Fr.app hF hF')
  exact ⟨s₂, o, sp.trans h1, h2⟩
/-- a private method -/
def ML (Z : State) (a0 : Array Value) (K : KTab) (own : String) (idx kk : Nat) (z : MethodName) (zb : ByteArray) (zm : Nat) (zr : Option FieldType) (np : Nat) : Prop :=
  ∃ C fs, K[kk]? = some (C, fs) ∧ (Jvm.Cond.methodLink own idx z).before a0 Z = true ∧ (Jvm.Cond.privateMethod z).before a0 Z = true ∧ (Jvm.Cond.selects z.cls z z).before a0 Z = true ∧ (Jvm.Cond.instanceMethod z).before a0 Z = true ∧ (Jvm.Cond.initialized z.cls).before a0 Z = true ∧ (Jvm.Cond.code z zb zm zr).before a0 Z = true ∧ (z.cls ≠ "java/lang/invoke/MethodHandle" ∧ z.cls ≠ "java/lang/invoke/VarHandle") ∧ (∀ sig, parseMethodDescriptor z.desc = some sig → np = sig.parameters.length)
theorem IsGo.callM (H : IsGo l Z a0 K n0 b0 y bytes maxL ret R Q G) {idx kk : Nat} (hd : Nx bytes pc (.invokevirtual idx) 3 pc') {z : MethodName} {zb : ByteArray} {zm : Nat} {zr : Option FieldType} {np : Nat} (L : ML Z a0 K y.cls idx kk z zb zm zr np) {rm : Room} {as : Array Value} {QQ : Option Value → List Ob → Prop} (M : Met l Z K n0 z zb zm zr rm as A QQ)
    {i : Nat} {vs : List Value} (hA : A[i]? = some (.inl (kk, vs))) {argsL rest : List Value} (ha : (Value.ref (n0 + i) :: argsL).toArray = as) (hnp : argsL.length = np) (hst : st = argsL.reverse ++ .ref (n0 + i) :: rest) (hls : ls.size = maxL) (hf : rm.frames + 1 ≤ R.frames) (hl : (rest.map fun v => v.category).sum + (zm + 11) + rm.locals ≤ R.locals) (hc : k + rm.cells ≤ R.cells) (hs : n + rm.slots ≤ R.slots) (h : ∀ v A', QQ v A' → G pc' ls (v.toList ++ rest) A' (k + rm.cells) (n + rm.slots)) : G pc ls st A k n := by
  obtain ⟨hd, rfl⟩ := hd
  obtain ⟨p, e, s, m, args, below, meth, c, hx, hby, hml, hown, hnm, hret, hlk, hZ, hK, hb0, rfl⟩ := H
  obtain ⟨C, fs, hk, w1, w2, w3, w4, w5, w6, w7, w8⟩ := L
  subst ha hst hnp
  intro T locs X hR hF
  obtain ⟨cq, q1, q2⟩ := ((hR.2 i _ hA).exa hk).cell
  obtain ⟨v, vm₁, ⟨T', L', k', n'⟩, -, X', ⟨Lc, ⟨A', hQ, hR', hF'⟩, e1, e2, e3⟩, sp⟩ := X.privateBack hx (y := z) hown (mvT hZ w1) (mvT hZ w4) (mvT hZ w3) (Cond.privateMethod_at (mvP hZ w2 (args := #[]))) (mvT hZ w6) w7 (backOf (W := (rest.map fun v => v.category).sum) (Q := fun v h L => ∃ A', QQ v A' ∧ Rel Z K n0 h A' ∧ Fr n0 L) (M [] T.heap hR) hZ w6 w5 hf hl) (g := mkF m pc ls (argsL.reverse ++ .ref (n0 + i) :: rest)) rfl (by rw [hml]; exact hls) (Steps.refl _) (a := n0 + i) q1 q2 (argsL := argsL) (rest := rest) w8 rfl (by show 2 * 0 + _ ≤ _; omega) (hb hby hd) (fun _ _ => ⟨rfl, rfl, hc, hs⟩)
  dsimp only [Pt.U, Pt.locs, Pt.cells, Pt.slots] at X' e1 e2 e3 sp hQ hR'
  subst e1 e2 e3
  obtain ⟨s₂, o, h1, h2⟩ := h v A' hQ T' _ X' hR' (Fr.app hF hF')
  exact ⟨s₂, o, sp.trans h1, h2⟩
theorem IsGo.callSD (H : IsGo l Z a0 K n0 b0 y bytes maxL ret R Q G) {idx : Nat} (hd : Nx bytes pc (.invokestatic idx) 3 pc') {z : MethodName} {zb : ByteArray} {zm : Nat} {zr : Option FieldType} {np : Nat} (L : SL Z a0 y.cls idx z zb zm zr np) {rm : Room} {as : Array Value} {vo : Option Value} (M : Met l Z K n0 z zb zm zr rm as A (Is vo A'))
    {argsL rest : List Value} (ha : argsL.toArray = as) (hnp : argsL.length = np) (hst : st = argsL.reverse ++ rest) (hls : ls.size = maxL) (hf : rm.frames + 1 ≤ R.frames) (hl : (rest.map fun v => v.category).sum + (zm + 11) + rm.locals ≤ R.locals) (hc : k + rm.cells ≤ R.cells) (hs : n + rm.slots ≤ R.slots) (hst' : vo.toList ++ rest = st') (hk' : k + rm.cells = k') (hn' : n + rm.slots = n') (h : G pc' ls st' A' k' n') : G pc ls st A k n :=
  H.callS hd L M ha hnp hst hls hf hl hc hs (fun v B q => by obtain ⟨rfl, rfl⟩ := q; subst hst' hk' hn'; exact h)
theorem IsGo.callCD (H : IsGo l Z a0 K n0 b0 y bytes maxL ret R Q G) {idx : Nat} (hd : Nx bytes pc (.invokespecial idx) 3 pc') {z : MethodName} {zb : ByteArray} {zm : Nat} {np : Nat} (L : CL Z a0 y.cls idx z zb zm np) {rm : Room} {as : Array Value} {vo : Option Value} (M : Met l Z K n0 z zb zm none rm as A (Is vo A'))
    {a : Addr} {argsL rest : List Value} (ha : (Value.ref a :: argsL).toArray = as) (hnp : argsL.length = np) (hst : st = argsL.reverse ++ .ref a :: rest) (hls : ls.size = maxL) (hf : rm.frames + 1 ≤ R.frames) (hl : (rest.map fun v => v.category).sum + (zm + 11) + rm.locals ≤ R.locals) (hc : k + rm.cells ≤ R.cells) (hs : n + rm.slots ≤ R.slots) (hst' : vo.toList ++ rest = st') (hk' : k + rm.cells = k') (hn' : n + rm.slots = n') (h : G pc' ls st' A' k' n') : G pc ls st A k n :=
  H.callC hd L M ha hnp hst hls hf hl hc hs (fun v B q => by obtain ⟨rfl, rfl⟩ := q; subst hst' hk' hn'; exact h)
theorem IsGo.callVD (H : IsGo l Z a0 K n0 b0 y bytes maxL ret R Q G) {idx kk : Nat} (hd : Nx bytes pc (.invokevirtual idx) 3 pc') {z : MethodName} {zb : ByteArray} {zm : Nat} {zr : Option FieldType} {np : Nat} (L : VL Z a0 K y.cls idx kk z zb zm zr np) {rm : Room} {as : Array Value} {vo : Option Value} (M : Met l Z K n0 z zb zm zr rm as A (Is vo A'))
    {i : Nat} {vs : List Value} (hA : A[i]? = some (.inl (kk, vs))) {argsL rest : List Value} (ha : (Value.ref (n0 + i) :: argsL).toArray = as) (hnp : argsL.length = np) (hst : st = argsL.reverse ++ .ref (n0 + i) :: rest) (hls : ls.size = maxL) (hf : rm.frames + 1 ≤ R.frames) (hl : (rest.map fun v => v.category).sum + (zm + 11) + rm.locals ≤ R.locals) (hc : k + rm.cells ≤ R.cells) (hs : n + rm.slots ≤ R.slots) (hst' : vo.toList ++ rest = st') (hk' : k + rm.cells = k') (hn' : n + rm.slots = n') (h : G pc' ls st' A' k' n') : G pc ls st A k n :=
  H.callV hd L M hA ha hnp hst hls hf hl hc hs (fun v B q => by obtain ⟨rfl, rfl⟩ := q; subst hst' hk' hn'; exact h)
theorem IsGo.callMD (H : IsGo l Z a0 K n0 b0 y bytes maxL ret R Q G) {idx kk : Nat} (hd : Nx bytes pc (.invokevirtual idx) 3 pc') {z : MethodName} {zb : ByteArray} {zm : Nat} {zr : Option FieldType} {np : Nat} (L : ML Z a0 K y.cls idx kk z zb zm zr np) {rm : Room} {as : Array Value} {vo : Option Value} (M : Met l Z K n0 z zb zm zr rm as A (Is vo A'))
    {i : Nat} {vs : List Value} (hA : A[i]? = some (.inl (kk, vs))) {argsL rest : List Value} (ha : (Value.ref (n0 + i) :: argsL).toArray = as) (hnp : argsL.length = np) (hst : st = argsL.reverse ++ .ref (n0 + i) :: rest) (hls : ls.size = maxL) (hf : rm.frames + 1 ≤ R.frames) (hl : (rest.map fun v => v.category).sum + (zm + 11) + rm.locals ≤ R.locals) (hc : k + rm.cells ≤ R.cells) (hs : n + rm.slots ≤ R.slots) (hst' : vo.toList ++ rest = st') (hk' : k + rm.cells = k') (hn' : n + rm.slots = n') (h : G pc' ls st' A' k' n') : G pc ls st A k n :=
  H.callM hd L M hA ha hnp hst hls hf hl hc hs (fun v B q => by obtain ⟨rfl, rfl⟩ := q; subst hst' hk' hn'; exact h)
/-! ### the end -/
theorem IsGo.retW (H : IsGo l Z a0 K n0 b0 y bytes maxL ret R Q G) {i : Instr} (hd : Nx bytes pc i 1 pc') {t : FieldType} {w : Value} (hret : ret = some t) (hn : narrow t w = w)
    (hi : (i = .ireturn ∧ (t = .int ∨ t = .boolean ∨ t = .byte ∨ t = .char ∨ t = .short) ∧ ∃ z, w = .int z) ∨ (i = .lreturn ∧ t = .long ∧ ∃ z, w = .long z) ∨ (i = .dreturn ∧ t = .double ∧ ∃ z, w = .double z) ∨ (i = .freturn ∧ t = .float ∧ ∃ z, w = .float z) ∨ (i = .areturn ∧ t.isReference = true ∧ w.isRef = true))
    (hQ : Q (some w) A) (hc : k ≤ R.cells) (hs : n ≤ R.slots) : G pc ls (w :: st) A k n := by
  obtain ⟨hd, rfl⟩ := hd
  obtain ⟨p, e, s, m, args, below, meth, c, hx, hby, hml, hown, hnm, hret', hlk, hZ, hK, hb0, rfl⟩ := H
  intro T locs X hR hF
  obtain ⟨fs, hr, hrun, hended, hW, hsame⟩ := X.leave (v := some w) (fun h => by rw [hret', hret] at h; cases h) hlk
  exact ⟨_, _, retOut X hx (hret'.trans hret) hn hi (hb hby hd) hr, hrun, hended, _, _, rfl, ⟨A, hQ, hR, hF⟩, ⟨_, rfl⟩, hW, hsame.mono hc hs⟩
theorem IsGo.ireturn (H : IsGo l Z a0 K n0 b0 y bytes maxL ret R Q G) (hd : Nx bytes pc .ireturn 1 pc') {t : FieldType} {z : Int32} (hret : ret = some t) (ht : t = .int ∨ t = .boolean ∨ t = .byte ∨ t = .char ∨ t = .short) (hn : narrow t (.int z) = .int z) (hQ : Q (some (.int z)) A) (hc : k ≤ R.cells) (hs : n ≤ R.slots) : G pc ls (.int z :: st) A k n :=
  H.retW hd hret hn (Or.inl ⟨rfl, ht, z, rfl⟩) hQ hc hs
theorem IsGo.lreturn (H : IsGo l Z a0 K n0 b0 y bytes maxL ret R Q G) (hd : Nx bytes pc .lreturn 1 pc') {z : Int64} (hret : ret = some .long) (hQ : Q (some (.long z)) A) (hc : k ≤ R.cells) (hs : n ≤ R.slots) : G pc ls (.long z :: st) A k n :=
  H.retW hd hret rfl (Or.inr (Or.inl ⟨rfl, rfl, z, rfl⟩)) hQ hc hs
theorem IsGo.areturn (H : IsGo l Z a0 K n0 b0 y bytes maxL ret R Q G) (hd : Nx bytes pc .areturn 1 pc') {t : FieldType} {w : Value} (hret : ret = some t) (ht : t.isReference = true) (hn : narrow t w = w) (hw : w.isRef = true) (hQ : Q (some w) A) (hc : k ≤ R.cells) (hs : n ≤ R.slots) : G pc ls (w :: st) A k n :=
  H.retW hd hret hn (Or.inr (Or.inr (Or.inr (Or.inr ⟨rfl, ht, hw⟩)))) hQ hc hs
theorem IsGo.vreturn (H : IsGo l Z a0 K n0 b0 y bytes maxL ret R Q G) (hd : Nx bytes pc .return_ 1 pc') (hret : ret = none) (hQ : Q none A) (hc : k ≤ R.cells) (hs : n ≤ R.slots) : G pc ls [] A k n := by
  obtain ⟨hd, rfl⟩ := hd
  obtain ⟨p, e, s, m, args, below, meth, c, hx, hby, hml, hown, hnm, hret', hlk, hZ, hK, hb0, rfl⟩ := H
  intro T locs X hR hF
  obtain ⟨fs, hr, hrun, hended, hW, hsame⟩ := X.leave (v := none) (fun _ => rfl) hlk
  exact ⟨_, _, X.returnOut hx (hret'.trans hret) (hb hby hd) hr, hrun, hended, _, _, rfl, ⟨A, hQ, hR, hF⟩, ⟨_, rfl⟩, hW, hsame.mono hc hs⟩
end Rules
end Jvm.OwnKit

namespace Jvm.Pilot.@@N@@
open Jvm Jvm.ClassFile Sem Op Lib Jvm.Free Jvm.Stand Jvm.LawKit Jvm.RoadKit Jvm.OwnKit Bundle Jvm.Pilot.@@N@@.Jvm.D
abbrev HW1 (Z : State) (a0 : Array Value) : Prop := ∀ d ∈ tables_1, d.before a0 Z = true
def KT : KTab := []
abbrev y1 : MethodName := ⟨"com/example/wavegrant/wavegrant/Groups", "starts", "([III)[I"⟩
abbrev y2 : MethodName := ⟨"com/example/wavegrant/wavegrant/GroupsStartsPinLaw", "at", "([II[III)Z"⟩
abbrev y3 : MethodName := ⟨"com/example/wavegrant/wavegrant/GroupsStartsPinLaw", "below", "([III)I"⟩
theorem kok {Z : State} {a0 : Array Value} (hw : HW1 Z a0) : KOk Z a0 KT := kokOf fa0

theorem own_rng (y : Int32) : 0 ≤ (y &&& (2147483647 : Int32)).toInt := by
  have q := c_mask y 2147483647 31 (by decide) (by decide)
  omega
theorem own_rem (y m : Int32) (d : Int) (hm : m.toInt = d) (hd : 0 < d) : 0 ≤ ((y &&& (2147483647 : Int32)) % m).toInt ∧ ((y &&& (2147483647 : Int32)) % m).toInt < d := by
  have q := (c_irem (y &&& (2147483647 : Int32)) m d hm).1 (own_rng y)
  rw [q]
  exact ⟨Int.emod_nonneg _ (by omega), Int.emod_lt_of_pos _ hd⟩
theorem own_rem1 (y : Int32) : ((y &&& (2147483647 : Int32)) % (1 : Int32)) = 0 := by
  have q := own_rem y 1 1 (by decide) (by decide)
  exact (i_eq rfl (by decide)).mpr (by omega : _ = (0 : Int))
theorem own_rem2 (y : Int32) : ((y &&& (2147483647 : Int32)) % (2 : Int32)) = 0 ∨ ((y &&& (2147483647 : Int32)) % (2 : Int32)) = 1 := by
  have q := own_rem y 2 2 (by decide) (by decide)
  rw [i_eq rfl (by decide : (0 : Int32).toInt = 0), i_eq rfl (by decide : (1 : Int32).toInt = 1)]
  omega
theorem own_rem3 (y : Int32) : ((y &&& (2147483647 : Int32)) % (3 : Int32)) = 0 ∨ ((y &&& (2147483647 : Int32)) % (3 : Int32)) = 1 ∨ ((y &&& (2147483647 : Int32)) % (3 : Int32)) = 2 := by
  have q := own_rem y 3 3 (by decide) (by decide)
  rw [i_eq rfl (by decide : (0 : Int32).toInt = 0), i_eq rfl (by decide : (1 : Int32).toInt = 1), i_eq rfl (by decide : (2 : Int32).toInt = 2)]
  omega
theorem own_and3 (y : Int32) : (y &&& (3 : Int32)) = 0 ∨ (y &&& (3 : Int32)) = 1 ∨ (y &&& (3 : Int32)) = 2 ∨ (y &&& (3 : Int32)) = 3 := by
  have q := c_mask y 3 2 (by decide) (by decide)
  rw [i_eq rfl (by decide : (0 : Int32).toInt = 0), i_eq rfl (by decide : (1 : Int32).toInt = 1), i_eq rfl (by decide : (2 : Int32).toInt = 2), i_eq rfl (by decide : (3 : Int32).toInt = 3)]
  omega


theorem own_rem5 (y : Int32) : ((y &&& (2147483647 : Int32)) % (5 : Int32)) = 0 ∨ ((y &&& (2147483647 : Int32)) % (5 : Int32)) = 1 ∨ ((y &&& (2147483647 : Int32)) % (5 : Int32)) = 2 ∨ ((y &&& (2147483647 : Int32)) % (5 : Int32)) = 3 ∨ ((y &&& (2147483647 : Int32)) % (5 : Int32)) = 4 := by
  have q := own_rem y 5 5 (by decide) (by decide)
  rw [i_eq rfl (by decide : (0 : Int32).toInt = 0), i_eq rfl (by decide : (1 : Int32).toInt = 1), i_eq rfl (by decide : (2 : Int32).toInt = 2), i_eq rfl (by decide : (3 : Int32).toInt = 3), i_eq rfl (by decide : (4 : Int32).toInt = 4)]
  omega

theorem own_rem6 (y : Int32) : ((y &&& (2147483647 : Int32)) % (6 : Int32)) = 0 ∨ ((y &&& (2147483647 : Int32)) % (6 : Int32)) = 1 ∨ ((y &&& (2147483647 : Int32)) % (6 : Int32)) = 2 ∨ ((y &&& (2147483647 : Int32)) % (6 : Int32)) = 3 ∨ ((y &&& (2147483647 : Int32)) % (6 : Int32)) = 4 ∨ ((y &&& (2147483647 : Int32)) % (6 : Int32)) = 5 := by
  have q := own_rem y 6 6 (by decide) (by decide)
  rw [i_eq rfl (by decide : (0 : Int32).toInt = 0), i_eq rfl (by decide : (1 : Int32).toInt = 1), i_eq rfl (by decide : (2 : Int32).toInt = 2), i_eq rfl (by decide : (3 : Int32).toInt = 3), i_eq rfl (by decide : (4 : Int32).toInt = 4), i_eq rfl (by decide : (5 : Int32).toInt = 5)]
  omega

def own_c : List Nat → Nat → Int32
  | [], _ => 0
  | m :: L, j => own_c L j + (if j = m then 1 else 0)
def own_p (L : List Nat) : Nat → Int32
  | 0 => own_c L 0
  | k + 1 => own_c L (k + 1) + own_p L k
def own_lt (e k : Int32) : Int32 := if e < k then 1 else 0
def own_b : List Int32 → Int32 → Int32
  | [], _ => 0
  | e :: E, k => own_b E k + own_lt e k
theorem own_get (n : Nat) (L : List Nat) {m : Nat} (h : m < n) : ((List.range n).map (fun j => Value.int (own_c L j)))[m]? = some (.int (own_c L m)) := by simp [h]
theorem own_set (n : Nat) (L : List Nat) {m : Nat} (h : m < n) : ((List.range n).map (fun j => Value.int (own_c L j))).set m (.int (own_c L m + 1)) = (List.range n).map (fun j => Value.int (own_c (m :: L) j)) := by
  apply List.ext_getElem
  · simp
  · intro i h1 h2
    simp only [List.length_set, List.length_map, List.length_range] at h1
    rw [List.getElem_set]
    by_cases e : m = i
    · subst e; simp [own_c]
    · have e2 : ¬ i = m := fun q => e q.symm
      simp [own_c, e, e2]
theorem own_swap (a b c d : Int32) : (a + b) + (c + d) = (a + c) + (b + d) := by
  rw [Int32.add_assoc, Int32.add_assoc, ← Int32.add_assoc b c d, Int32.add_comm b c, Int32.add_assoc c b d]
theorem own_pc (m : Nat) (L : List Nat) : ∀ k, own_p (m :: L) k = own_p L k + (if m ≤ k then 1 else 0) := by
  intro k
  induction k with
  | zero =>
    show own_c L 0 + _ = own_c L 0 + _
    by_cases h : m = 0
    · simp [h]
    · have h1 : ¬ 0 = m := fun q => h q.symm
      simp [h, h1]
  | succ k ih =>
    show (own_c L (k + 1) + _) + own_p (m :: L) k = (own_c L (k + 1) + own_p L k) + _
    rw [ih, own_swap]
    congr 1
    by_cases h : k + 1 = m
    · have h1 : ¬ m ≤ k := by omega
      have h2 : m ≤ k + 1 := by omega
      simp [h, h1, h2]
    · by_cases h1 : m ≤ k
      · have h2 : m ≤ k + 1 := by omega
        simp [h, h1, h2]
      · have h2 : ¬ m ≤ k + 1 := by omega
        simp [h, h1, h2]
theorem own_pn : ∀ k, own_p [] k = 0 := by
  intro k
  induction k with
  | zero => rfl
  | succ k ih => show (0 : Int32) + own_p [] k = 0; rw [ih]; rfl
theorem own_main : ∀ (P : List (Int32 × Nat)), (∀ p ∈ P, p.1.toInt = (p.2 : Int)) → ∀ {k : Nat} {kk : Int32}, kk.toInt = (k : Int) → own_p (P.map (fun p => p.2 + 1)) k = own_b (P.map (fun p => p.1)) kk
  | [], _, k, kk, _ => own_pn k
  | (e, N) :: P, h, k, kk, hk => by
    show own_p ((N + 1) :: P.map (fun p => p.2 + 1)) k = own_b (P.map (fun p => p.1)) kk + own_lt e kk
    rw [own_pc, own_main P (fun p hp => h p (List.mem_cons_of_mem _ hp)) hk]
    have he : e.toInt = (N : Int) := h (e, N) (List.mem_cons_self ..)
    congr 1
    unfold own_lt
    by_cases q : N + 1 ≤ k
    · rw [if_pos q, if_pos ((i_lt he hk).mpr (by omega))]
    · rw [if_neg q, if_neg ((i_ge he hk).mpr (by omega))]
theorem own_e1 {e : Int32} {N : Nat} (K : Nat) (h : e.toInt = (N : Int)) (hl : N < K) (hK : K ≤ 5) : (e + (1 : Int32)).toInt = ((N + 1 : Nat) : Int) := by
  rw [x_iadd h (by decide : (1 : Int32).toInt = 1) (by omega)]; omega
theorem own_N (y m : Int32) (K : Nat) (hm : m.toInt = (K : Int)) (hK : 0 < K) : ∃ N : Nat, ((y &&& (2147483647 : Int32)) % m).toInt = (N : Int) ∧ N < K := by
  have q := own_rem y m K hm (by omega)
  exact ⟨((y &&& (2147483647 : Int32)) % m).toInt.toNat, by omega, by omega⟩

theorem pn_0 : plainName "com/example/wavegrant/wavegrant/GroupsStartsPinLaw" = true := by first | (simp [plainName, overriddenIn]; done) | decide +kernel
theorem s3_0 : Nx method_2_code 0 (.iconst 0) 1 1 := ⟨by decide +kernel, rfl⟩
theorem s3_1 : Nx method_2_code 1 (.istore_n 3) 1 2 := ⟨by decide +kernel, rfl⟩
theorem s3_2 : Nx method_2_code 2 (.iload_n 1) 1 3 := ⟨by decide +kernel, rfl⟩
theorem s3_3 : Bx method_2_code 3 (.ifCond .le) 16 6 := ⟨(13), by decide +kernel, by decide, by decide, rfl⟩
theorem s3_16 : Nx method_2_code 16 (.iload_n 1) 1 17 := ⟨by decide +kernel, rfl⟩
theorem s3_17 : Nx method_2_code 17 (.iconst 1) 1 18 := ⟨by decide +kernel, rfl⟩
theorem s3_18 : Bx method_2_code 18 (.if_icmp .le) 31 21 := ⟨(13), by decide +kernel, by decide, by decide, rfl⟩
theorem s3_31 : Nx method_2_code 31 (.iload_n 1) 1 32 := ⟨by decide +kernel, rfl⟩
theorem s3_32 : Nx method_2_code 32 (.iconst 2) 1 33 := ⟨by decide +kernel, rfl⟩
theorem s3_33 : Bx method_2_code 33 (.if_icmp .le) 46 36 := ⟨(13), by decide +kernel, by decide, by decide, rfl⟩
theorem s3_46 : Nx method_2_code 46 (.iload_n 1) 1 47 := ⟨by decide +kernel, rfl⟩
theorem s3_47 : Nx method_2_code 47 (.iconst 3) 1 48 := ⟨by decide +kernel, rfl⟩
theorem s3_48 : Bx method_2_code 48 (.if_icmp .le) 61 51 := ⟨(13), by decide +kernel, by decide, by decide, rfl⟩
theorem s3_61 : Nx method_2_code 61 (.iload_n 3) 1 62 := ⟨by decide +kernel, rfl⟩
theorem s3_62 : Nx method_2_code 62 (.ireturn) 1 63 := ⟨by decide +kernel, rfl⟩
set_option maxRecDepth 65536 in
set_option maxHeartbeats 40000000 in
theorem m_below0 (l : Launch) {Z : State} {a0 : Array Value} (hw : HW1 Z a0) (n0 : Nat) (A : List Ob) (i : Nat) (e0 e1 e2 e3 k : Int32) (hA : A[i]? = some (.inr (.int, [.int e0, .int e1, .int e2, .int e3]))) : Met l Z KT n0 y3 method_2_code 4 (some .int) ({ frames := 0, cells := 0, slots := 0, locals := 0 } : Room) #[(.ref (n0 + i)), (.int (0 : Int32)), (.int k)] A (Is (some (.int (own_b [] k))) A) := by
  refine Met.of (a0 := a0) (ls := #[.val (.ref (n0 + i)), .val (.int (0 : Int32)), .val (.int k), .unset]) (kok hw) (plainFor_of_name pn_0) (fun m => by first | (simp [entryFrame, mkF, argsToLocals, Value.category]; done) | rfl) (fun G H => ?_)
  refine H.iconst s3_0 (v := (0 : Int32)) (by decide) ?_
  refine H.istoreN s3_1 (ls' := #[.val (.ref (n0 + i)), .val (.int (0 : Int32)), .val (.int k), .val (.int (0 : Int32))]) rfl ?_
  refine H.iloadN s3_2 rfl ?_
  refine H.ifT s3_3 (show ¬ (0 : Int32) < (0 : Int32) by decide) ?_
  refine H.iloadN s3_16 rfl ?_
  refine H.iconst s3_17 (v := (1 : Int32)) (by decide) ?_
  refine H.icmpT s3_18 (show ¬ (1 : Int32) < (0 : Int32) by decide) ?_
  refine H.iloadN s3_31 rfl ?_
  refine H.iconst s3_32 (v := (2 : Int32)) (by decide) ?_
  refine H.icmpT s3_33 (show ¬ (2 : Int32) < (0 : Int32) by decide) ?_
  refine H.iloadN s3_46 rfl ?_
  refine H.iconst s3_47 (v := (3 : Int32)) (by decide) ?_
  refine H.icmpT s3_48 (show ¬ (3 : Int32) < (0 : Int32) by decide) ?_
  refine H.iloadN s3_61 rfl ?_
  exact H.ireturn s3_62 rfl (by simp) rfl ⟨by simp [own_b, own_lt], rfl⟩ (by decide) (by decide)

theorem s3_6 : Nx method_2_code 6 (.aload_n 0) 1 7 := ⟨by decide +kernel, rfl⟩
theorem s3_7 : Nx method_2_code 7 (.iconst 0) 1 8 := ⟨by decide +kernel, rfl⟩
theorem s3_8 : Nx method_2_code 8 (.iaload) 1 9 := ⟨by decide +kernel, rfl⟩
theorem s3_9 : Nx method_2_code 9 (.iload_n 2) 1 10 := ⟨by decide +kernel, rfl⟩
theorem s3_10 : Bx method_2_code 10 (.if_icmp .ge) 16 13 := ⟨(6), by decide +kernel, by decide, by decide, rfl⟩
theorem s3_13 : Nx method_2_code 13 (.iinc 3 1) 3 16 := ⟨by decide +kernel, rfl⟩
set_option maxRecDepth 65536 in
set_option maxHeartbeats 40000000 in
theorem m_below1 (l : Launch) {Z : State} {a0 : Array Value} (hw : HW1 Z a0) (n0 : Nat) (A : List Ob) (i : Nat) (e0 e1 e2 e3 k : Int32) (hA : A[i]? = some (.inr (.int, [.int e0, .int e1, .int e2, .int e3]))) : Met l Z KT n0 y3 method_2_code 4 (some .int) ({ frames := 0, cells := 0, slots := 0, locals := 0 } : Room) #[(.ref (n0 + i)), (.int (1 : Int32)), (.int k)] A (Is (some (.int (own_b [e0] k))) A) := by
  refine Met.of (a0 := a0) (ls := #[.val (.ref (n0 + i)), .val (.int (1 : Int32)), .val (.int k), .unset]) (kok hw) (plainFor_of_name pn_0) (fun m => by first | (simp [entryFrame, mkF, argsToLocals, Value.category]; done) | rfl) (fun G H => ?_)
  refine H.iconst s3_0 (v := (0 : Int32)) (by decide) ?_
  refine H.istoreN s3_1 (ls' := #[.val (.ref (n0 + i)), .val (.int (1 : Int32)), .val (.int k), .val (.int (0 : Int32))]) rfl ?_
  refine H.iloadN s3_2 rfl ?_
  refine H.ifF s3_3 (show (0 : Int32) < (1 : Int32) by decide) ?_
  refine H.aloadN s3_6 rfl rfl ?_
  refine H.iconst s3_7 (v := (0 : Int32)) (by decide) ?_
  refine H.iaload s3_8 (i := i) (j := 0) hA (by decide) (v := (.int e0)) rfl ?_
  refine H.iloadN s3_9 rfl ?_
  refine H.icmpS s3_10 (fun (c10 : ¬ e0 < k) => ?_) (fun (c10 : e0 < k) => ?_)
  · have d10 : k.toInt ≤ e0.toInt := (i_ge rfl rfl).mp c10
    refine H.iloadN s3_16 rfl ?_
    refine H.iconst s3_17 (v := (1 : Int32)) (by decide) ?_
    refine H.icmpT s3_18 (show ¬ (1 : Int32) < (1 : Int32) by decide) ?_
    refine H.iloadN s3_31 rfl ?_
    refine H.iconst s3_32 (v := (2 : Int32)) (by decide) ?_
    refine H.icmpT s3_33 (show ¬ (2 : Int32) < (1 : Int32) by decide) ?_
    refine H.iloadN s3_46 rfl ?_
    refine H.iconst s3_47 (v := (3 : Int32)) (by decide) ?_
    refine H.icmpT s3_48 (show ¬ (3 : Int32) < (1 : Int32) by decide) ?_
    refine H.iloadN s3_61 rfl ?_
    exact H.ireturn s3_62 rfl (by simp) rfl ⟨by simp [own_b, own_lt, c10], rfl⟩ (by decide) (by decide)
  · have d10 : e0.toInt < k.toInt := (i_lt rfl rfl).mp c10
    refine H.iinc s3_13 rfl (w := (1 : Int32)) (by decide) (ls' := #[.val (.ref (n0 + i)), .val (.int (1 : Int32)), .val (.int k), .val (.int (1 : Int32))]) rfl ?_
    refine H.iloadN s3_16 rfl ?_
    refine H.iconst s3_17 (v := (1 : Int32)) (by decide) ?_
    refine H.icmpT s3_18 (show ¬ (1 : Int32) < (1 : Int32) by decide) ?_
    refine H.iloadN s3_31 rfl ?_
    refine H.iconst s3_32 (v := (2 : Int32)) (by decide) ?_
    refine H.icmpT s3_33 (show ¬ (2 : Int32) < (1 : Int32) by decide) ?_
    refine H.iloadN s3_46 rfl ?_
    refine H.iconst s3_47 (v := (3 : Int32)) (by decide) ?_
    refine H.icmpT s3_48 (show ¬ (3 : Int32) < (1 : Int32) by decide) ?_
    refine H.iloadN s3_61 rfl ?_
    exact H.ireturn s3_62 rfl (by simp) rfl ⟨by simp [own_b, own_lt, c10], rfl⟩ (by decide) (by decide)

theorem s3_21 : Nx method_2_code 21 (.aload_n 0) 1 22 := ⟨by decide +kernel, rfl⟩
theorem s3_22 : Nx method_2_code 22 (.iconst 1) 1 23 := ⟨by decide +kernel, rfl⟩
theorem s3_23 : Nx method_2_code 23 (.iaload) 1 24 := ⟨by decide +kernel, rfl⟩
theorem s3_24 : Nx method_2_code 24 (.iload_n 2) 1 25 := ⟨by decide +kernel, rfl⟩
theorem s3_25 : Bx method_2_code 25 (.if_icmp .ge) 31 28 := ⟨(6), by decide +kernel, by decide, by decide, rfl⟩
theorem s3_28 : Nx method_2_code 28 (.iinc 3 1) 3 31 := ⟨by decide +kernel, rfl⟩
set_option maxRecDepth 65536 in
set_option maxHeartbeats 40000000 in
theorem m_below2 (l : Launch) {Z : State} {a0 : Array Value} (hw : HW1 Z a0) (n0 : Nat) (A : List Ob) (i : Nat) (e0 e1 e2 e3 k : Int32) (hA : A[i]? = some (.inr (.int, [.int e0, .int e1, .int e2, .int e3]))) : Met l Z KT n0 y3 method_2_code 4 (some .int) ({ frames := 0, cells := 0, slots := 0, locals := 0 } : Room) #[(.ref (n0 + i)), (.int (2 : Int32)), (.int k)] A (Is (some (.int (own_b [e1, e0] k))) A) := by
  refine Met.of (a0 := a0) (ls := #[.val (.ref (n0 + i)), .val (.int (2 : Int32)), .val (.int k), .unset]) (kok hw) (plainFor_of_name pn_0) (fun m => by first | (simp [entryFrame, mkF, argsToLocals, Value.category]; done) | rfl) (fun G H => ?_)
  refine H.iconst s3_0 (v := (0 : Int32)) (by decide) ?_
  refine H.istoreN s3_1 (ls' := #[.val (.ref (n0 + i)), .val (.int (2 : Int32)), .val (.int k), .val (.int (0 : Int32))]) rfl ?_
  refine H.iloadN s3_2 rfl ?_
  refine H.ifF s3_3 (show (0 : Int32) < (2 : Int32) by decide) ?_
  refine H.aloadN s3_6 rfl rfl ?_
  refine H.iconst s3_7 (v := (0 : Int32)) (by decide) ?_
  refine H.iaload s3_8 (i := i) (j := 0) hA (by decide) (v := (.int e0)) rfl ?_
  refine H.iloadN s3_9 rfl ?_
  refine H.icmpS s3_10 (fun (c10 : ¬ e0 < k) => ?_) (fun (c10 : e0 < k) => ?_)
  · have d10 : k.toInt ≤ e0.toInt := (i_ge rfl rfl).mp c10
    refine H.iloadN s3_16 rfl ?_
    refine H.iconst s3_17 (v := (1 : Int32)) (by decide) ?_
    refine H.icmpF s3_18 (show (1 : Int32) < (2 : Int32) by decide) ?_
    refine H.aloadN s3_21 rfl rfl ?_
    refine H.iconst s3_22 (v := (1 : Int32)) (by decide) ?_
    refine H.iaload s3_23 (i := i) (j := 1) hA (by decide) (v := (.int e1)) rfl ?_
    refine H.iloadN s3_24 rfl ?_
    refine H.icmpS s3_25 (fun (c25 : ¬ e1 < k) => ?_) (fun (c25 : e1 < k) => ?_)
    · have d25 : k.toInt ≤ e1.toInt := (i_ge rfl rfl).mp c25
      refine H.iloadN s3_31 rfl ?_
      refine H.iconst s3_32 (v := (2 : Int32)) (by decide) ?_
      refine H.icmpT s3_33 (show ¬ (2 : Int32) < (2 : Int32) by decide) ?_
      refine H.iloadN s3_46 rfl ?_
      refine H.iconst s3_47 (v := (3 : Int32)) (by decide) ?_
      refine H.icmpT s3_48 (show ¬ (3 : Int32) < (2 : Int32) by decide) ?_
      refine H.iloadN s3_61 rfl ?_
      exact H.ireturn s3_62 rfl (by simp) rfl ⟨by simp [own_b, own_lt, c10, c25], rfl⟩ (by decide) (by decide)
    · have d25 : e1.toInt < k.toInt := (i_lt rfl rfl).mp c25
      refine H.iinc s3_28 rfl (w := (1 : Int32)) (by decide) (ls' := #[.val (.ref (n0 + i)), .val (.int (2 : Int32)), .val (.int k), .val (.int (1 : Int32))]) rfl ?_
      refine H.iloadN s3_31 rfl ?_
      refine H.iconst s3_32 (v := (2 : Int32)) (by decide) ?_
      refine H.icmpT s3_33 (show ¬ (2 : Int32) < (2 : Int32) by decide) ?_
      refine H.iloadN s3_46 rfl ?_
      refine H.iconst s3_47 (v := (3 : Int32)) (by decide) ?_
      refine H.icmpT s3_48 (show ¬ (3 : Int32) < (2 : Int32) by decide) ?_
      refine H.iloadN s3_61 rfl ?_
      exact H.ireturn s3_62 rfl (by simp) rfl ⟨by simp [own_b, own_lt, c10, c25], rfl⟩ (by decide) (by decide)
  · have d10 : e0.toInt < k.toInt := (i_lt rfl rfl).mp c10
    refine H.iinc s3_13 rfl (w := (1 : Int32)) (by decide) (ls' := #[.val (.ref (n0 + i)), .val (.int (2 : Int32)), .val (.int k), .val (.int (1 : Int32))]) rfl ?_
    refine H.iloadN s3_16 rfl ?_
    refine H.iconst s3_17 (v := (1 : Int32)) (by decide) ?_
    refine H.icmpF s3_18 (show (1 : Int32) < (2 : Int32) by decide) ?_
    refine H.aloadN s3_21 rfl rfl ?_
    refine H.iconst s3_22 (v := (1 : Int32)) (by decide) ?_
    refine H.iaload s3_23 (i := i) (j := 1) hA (by decide) (v := (.int e1)) rfl ?_
    refine H.iloadN s3_24 rfl ?_
    refine H.icmpS s3_25 (fun (c25 : ¬ e1 < k) => ?_) (fun (c25 : e1 < k) => ?_)
    · have d25 : k.toInt ≤ e1.toInt := (i_ge rfl rfl).mp c25
      refine H.iloadN s3_31 rfl ?_
      refine H.iconst s3_32 (v := (2 : Int32)) (by decide) ?_
      refine H.icmpT s3_33 (show ¬ (2 : Int32) < (2 : Int32) by decide) ?_
      refine H.iloadN s3_46 rfl ?_
      refine H.iconst s3_47 (v := (3 : Int32)) (by decide) ?_
      refine H.icmpT s3_48 (show ¬ (3 : Int32) < (2 : Int32) by decide) ?_
      refine H.iloadN s3_61 rfl ?_
      exact H.ireturn s3_62 rfl (by simp) rfl ⟨by simp [own_b, own_lt, c10, c25], rfl⟩ (by decide) (by decide)
    · have d25 : e1.toInt < k.toInt := (i_lt rfl rfl).mp c25
      refine H.iinc s3_28 rfl (w := (2 : Int32)) (by decide) (ls' := #[.val (.ref (n0 + i)), .val (.int (2 : Int32)), .val (.int k), .val (.int (2 : Int32))]) rfl ?_
      refine H.iloadN s3_31 rfl ?_
      refine H.iconst s3_32 (v := (2 : Int32)) (by decide) ?_
      refine H.icmpT s3_33 (show ¬ (2 : Int32) < (2 : Int32) by decide) ?_
      refine H.iloadN s3_46 rfl ?_
      refine H.iconst s3_47 (v := (3 : Int32)) (by decide) ?_
      refine H.icmpT s3_48 (show ¬ (3 : Int32) < (2 : Int32) by decide) ?_
      refine H.iloadN s3_61 rfl ?_
      exact H.ireturn s3_62 rfl (by simp) rfl ⟨by simp [own_b, own_lt, c10, c25], rfl⟩ (by decide) (by decide)

theorem s3_36 : Nx method_2_code 36 (.aload_n 0) 1 37 := ⟨by decide +kernel, rfl⟩
theorem s3_37 : Nx method_2_code 37 (.iconst 2) 1 38 := ⟨by decide +kernel, rfl⟩
theorem s3_38 : Nx method_2_code 38 (.iaload) 1 39 := ⟨by decide +kernel, rfl⟩
theorem s3_39 : Nx method_2_code 39 (.iload_n 2) 1 40 := ⟨by decide +kernel, rfl⟩
theorem s3_40 : Bx method_2_code 40 (.if_icmp .ge) 46 43 := ⟨(6), by decide +kernel, by decide, by decide, rfl⟩
theorem s3_43 : Nx method_2_code 43 (.iinc 3 1) 3 46 := ⟨by decide +kernel, rfl⟩
set_option maxRecDepth 65536 in
set_option maxHeartbeats 40000000 in
theorem m_below3 (l : Launch) {Z : State} {a0 : Array Value} (hw : HW1 Z a0) (n0 : Nat) (A : List Ob) (i : Nat) (e0 e1 e2 e3 k : Int32) (hA : A[i]? = some (.inr (.int, [.int e0, .int e1, .int e2, .int e3]))) : Met l Z KT n0 y3 method_2_code 4 (some .int) ({ frames := 0, cells := 0, slots := 0, locals := 0 } : Room) #[(.ref (n0 + i)), (.int (3 : Int32)), (.int k)] A (Is (some (.int (own_b [e2, e1, e0] k))) A) := by
  refine Met.of (a0 := a0) (ls := #[.val (.ref (n0 + i)), .val (.int (3 : Int32)), .val (.int k), .unset]) (kok hw) (plainFor_of_name pn_0) (fun m => by first | (simp [entryFrame, mkF, argsToLocals, Value.category]; done) | rfl) (fun G H => ?_)
  refine H.iconst s3_0 (v := (0 : Int32)) (by decide) ?_
  refine H.istoreN s3_1 (ls' := #[.val (.ref (n0 + i)), .val (.int (3 : Int32)), .val (.int k), .val (.int (0 : Int32))]) rfl ?_
  refine H.iloadN s3_2 rfl ?_
  refine H.ifF s3_3 (show (0 : Int32) < (3 : Int32) by decide) ?_
  refine H.aloadN s3_6 rfl rfl ?_
  refine H.iconst s3_7 (v := (0 : Int32)) (by decide) ?_
  refine H.iaload s3_8 (i := i) (j := 0) hA (by decide) (v := (.int e0)) rfl ?_
  refine H.iloadN s3_9 rfl ?_
  refine H.icmpS s3_10 (fun (c10 : ¬ e0 < k) => ?_) (fun (c10 : e0 < k) => ?_)
  · have d10 : k.toInt ≤ e0.toInt := (i_ge rfl rfl).mp c10
    refine H.iloadN s3_16 rfl ?_
    refine H.iconst s3_17 (v := (1 : Int32)) (by decide) ?_
    refine H.icmpF s3_18 (show (1 : Int32) < (3 : Int32) by decide) ?_
    refine H.aloadN s3_21 rfl rfl ?_
    refine H.iconst s3_22 (v := (1 : Int32)) (by decide) ?_
    refine H.iaload s3_23 (i := i) (j := 1) hA (by decide) (v := (.int e1)) rfl ?_
    refine H.iloadN s3_24 rfl ?_
    refine H.icmpS s3_25 (fun (c25 : ¬ e1 < k) => ?_) (fun (c25 : e1 < k) => ?_)
    · have d25 : k.toInt ≤ e1.toInt := (i_ge rfl rfl).mp c25
      refine H.iloadN s3_31 rfl ?_
      refine H.iconst s3_32 (v := (2 : Int32)) (by decide) ?_
      refine H.icmpF s3_33 (show (2 : Int32) < (3 : Int32) by decide) ?_
      refine H.aloadN s3_36 rfl rfl ?_
      refine H.iconst s3_37 (v := (2 : Int32)) (by decide) ?_
      refine H.iaload s3_38 (i := i) (j := 2) hA (by decide) (v := (.int e2)) rfl ?_
      refine H.iloadN s3_39 rfl ?_
      refine H.icmpS s3_40 (fun (c40 : ¬ e2 < k) => ?_) (fun (c40 : e2 < k) => ?_)
      · have d40 : k.toInt ≤ e2.toInt := (i_ge rfl rfl).mp c40
        refine H.iloadN s3_46 rfl ?_
        refine H.iconst s3_47 (v := (3 : Int32)) (by decide) ?_
        refine H.icmpT s3_48 (show ¬ (3 : Int32) < (3 : Int32) by decide) ?_
        refine H.iloadN s3_61 rfl ?_
        exact H.ireturn s3_62 rfl (by simp) rfl ⟨by simp [own_b, own_lt, c10, c25, c40], rfl⟩ (by decide) (by decide)
      · have d40 : e2.toInt < k.toInt := (i_lt rfl rfl).mp c40
        refine H.iinc s3_43 rfl (w := (1 : Int32)) (by decide) (ls' := #[.val (.ref (n0 + i)), .val (.int (3 : Int32)), .val (.int k), .val (.int (1 : Int32))]) rfl ?_
        refine H.iloadN s3_46 rfl ?_
        refine H.iconst s3_47 (v := (3 : Int32)) (by decide) ?_
        refine H.icmpT s3_48 (show ¬ (3 : Int32) < (3 : Int32) by decide) ?_
        refine H.iloadN s3_61 rfl ?_
        exact H.ireturn s3_62 rfl (by simp) rfl ⟨by simp [own_b, own_lt, c10, c25, c40], rfl⟩ (by decide) (by decide)
    · have d25 : e1.toInt < k.toInt := (i_lt rfl rfl).mp c25
      refine H.iinc s3_28 rfl (w := (1 : Int32)) (by decide) (ls' := #[.val (.ref (n0 + i)), .val (.int (3 : Int32)), .val (.int k), .val (.int (1 : Int32))]) rfl ?_
      refine H.iloadN s3_31 rfl ?_
      refine H.iconst s3_32 (v := (2 : Int32)) (by decide) ?_
      refine H.icmpF s3_33 (show (2 : Int32) < (3 : Int32) by decide) ?_
      refine H.aloadN s3_36 rfl rfl ?_
      refine H.iconst s3_37 (v := (2 : Int32)) (by decide) ?_
      refine H.iaload s3_38 (i := i) (j := 2) hA (by decide) (v := (.int e2)) rfl ?_
      refine H.iloadN s3_39 rfl ?_
      refine H.icmpS s3_40 (fun (c40 : ¬ e2 < k) => ?_) (fun (c40 : e2 < k) => ?_)
      · have d40 : k.toInt ≤ e2.toInt := (i_ge rfl rfl).mp c40
        refine H.iloadN s3_46 rfl ?_
        refine H.iconst s3_47 (v := (3 : Int32)) (by decide) ?_
        refine H.icmpT s3_48 (show ¬ (3 : Int32) < (3 : Int32) by decide) ?_
        refine H.iloadN s3_61 rfl ?_
        exact H.ireturn s3_62 rfl (by simp) rfl ⟨by simp [own_b, own_lt, c10, c25, c40], rfl⟩ (by decide) (by decide)
      · have d40 : e2.toInt < k.toInt := (i_lt rfl rfl).mp c40
        refine H.iinc s3_43 rfl (w := (2 : Int32)) (by decide) (ls' := #[.val (.ref (n0 + i)), .val (.int (3 : Int32)), .val (.int k), .val (.int (2 : Int32))]) rfl ?_
        refine H.iloadN s3_46 rfl ?_
        refine H.iconst s3_47 (v := (3 : Int32)) (by decide) ?_
        refine H.icmpT s3_48 (show ¬ (3 : Int32) < (3 : Int32) by decide) ?_
        refine H.iloadN s3_61 rfl ?_
        exact H.ireturn s3_62 rfl (by simp) rfl ⟨by simp [own_b, own_lt, c10, c25, c40], rfl⟩ (by decide) (by decide)
  · have d10 : e0.toInt < k.toInt := (i_lt rfl rfl).mp c10
    refine H.iinc s3_13 rfl (w := (1 : Int32)) (by decide) (ls' := #[.val (.ref (n0 + i)), .val (.int (3 : Int32)), .val (.int k), .val (.int (1 : Int32))]) rfl ?_
    refine H.iloadN s3_16 rfl ?_
    refine H.iconst s3_17 (v := (1 : Int32)) (by decide) ?_
    refine H.icmpF s3_18 (show (1 : Int32) < (3 : Int32) by decide) ?_
    refine H.aloadN s3_21 rfl rfl ?_
    refine H.iconst s3_22 (v := (1 : Int32)) (by decide) ?_
    refine H.iaload s3_23 (i := i) (j := 1) hA (by decide) (v := (.int e1)) rfl ?_
    refine H.iloadN s3_24 rfl ?_
    refine H.icmpS s3_25 (fun (c25 : ¬ e1 < k) => ?_) (fun (c25 : e1 < k) => ?_)
    · have d25 : k.toInt ≤ e1.toInt := (i_ge rfl rfl).mp c25
      refine H.iloadN s3_31 rfl ?_
      refine H.iconst s3_32 (v := (2 : Int32)) (by decide) ?_
      refine H.icmpF s3_33 (show (2 : Int32) < (3 : Int32) by decide) ?_
      refine H.aloadN s3_36 rfl rfl ?_
      refine H.iconst s3_37 (v := (2 : Int32)) (by decide) ?_
      refine H.iaload s3_38 (i := i) (j := 2) hA (by decide) (v := (.int e2)) rfl ?_
      refine H.iloadN s3_39 rfl ?_
      refine H.icmpS s3_40 (fun (c40 : ¬ e2 < k) => ?_) (fun (c40 : e2 < k) => ?_)
      · have d40 : k.toInt ≤ e2.toInt := (i_ge rfl rfl).mp c40
        refine H.iloadN s3_46 rfl ?_
        refine H.iconst s3_47 (v := (3 : Int32)) (by decide) ?_
        refine H.icmpT s3_48 (show ¬ (3 : Int32) < (3 : Int32) by decide) ?_
        refine H.iloadN s3_61 rfl ?_
        exact H.ireturn s3_62 rfl (by simp) rfl ⟨by simp [own_b, own_lt, c10, c25, c40], rfl⟩ (by decide) (by decide)
      · have d40 : e2.toInt < k.toInt := (i_lt rfl rfl).mp c40
        refine H.iinc s3_43 rfl (w := (2 : Int32)) (by decide) (ls' := #[.val (.ref (n0 + i)), .val (.int (3 : Int32)), .val (.int k), .val (.int (2 : Int32))]) rfl ?_
        refine H.iloadN s3_46 rfl ?_
        refine H.iconst s3_47 (v := (3 : Int32)) (by decide) ?_
        refine H.icmpT s3_48 (show ¬ (3 : Int32) < (3 : Int32) by decide) ?_
        refine H.iloadN s3_61 rfl ?_
        exact H.ireturn s3_62 rfl (by simp) rfl ⟨by simp [own_b, own_lt, c10, c25, c40], rfl⟩ (by decide) (by decide)
    · have d25 : e1.toInt < k.toInt := (i_lt rfl rfl).mp c25
      refine H.iinc s3_28 rfl (w := (2 : Int32)) (by decide) (ls' := #[.val (.ref (n0 + i)), .val (.int (3 : Int32)), .val (.int k), .val (.int (2 : Int32))]) rfl ?_
      refine H.iloadN s3_31 rfl ?_
      refine H.iconst s3_32 (v := (2 : Int32)) (by decide) ?_
      refine H.icmpF s3_33 (show (2 : Int32) < (3 : Int32) by decide) ?_
      refine H.aloadN s3_36 rfl rfl ?_
      refine H.iconst s3_37 (v := (2 : Int32)) (by decide) ?_
      refine H.iaload s3_38 (i := i) (j := 2) hA (by decide) (v := (.int e2)) rfl ?_
      refine H.iloadN s3_39 rfl ?_
      refine H.icmpS s3_40 (fun (c40 : ¬ e2 < k) => ?_) (fun (c40 : e2 < k) => ?_)
      · have d40 : k.toInt ≤ e2.toInt := (i_ge rfl rfl).mp c40
        refine H.iloadN s3_46 rfl ?_
        refine H.iconst s3_47 (v := (3 : Int32)) (by decide) ?_
        refine H.icmpT s3_48 (show ¬ (3 : Int32) < (3 : Int32) by decide) ?_
        refine H.iloadN s3_61 rfl ?_
        exact H.ireturn s3_62 rfl (by simp) rfl ⟨by simp [own_b, own_lt, c10, c25, c40], rfl⟩ (by decide) (by decide)
      · have d40 : e2.toInt < k.toInt := (i_lt rfl rfl).mp c40
        refine H.iinc s3_43 rfl (w := (3 : Int32)) (by decide) (ls' := #[.val (.ref (n0 + i)), .val (.int (3 : Int32)), .val (.int k), .val (.int (3 : Int32))]) rfl ?_
        refine H.iloadN s3_46 rfl ?_
        refine H.iconst s3_47 (v := (3 : Int32)) (by decide) ?_
        refine H.icmpT s3_48 (show ¬ (3 : Int32) < (3 : Int32) by decide) ?_
        refine H.iloadN s3_61 rfl ?_
        exact H.ireturn s3_62 rfl (by simp) rfl ⟨by simp [own_b, own_lt, c10, c25, c40], rfl⟩ (by decide) (by decide)

theorem s3_51 : Nx method_2_code 51 (.aload_n 0) 1 52 := ⟨by decide +kernel, rfl⟩
theorem s3_52 : Nx method_2_code 52 (.iconst 3) 1 53 := ⟨by decide +kernel, rfl⟩
theorem s3_53 : Nx method_2_code 53 (.iaload) 1 54 := ⟨by decide +kernel, rfl⟩
theorem s3_54 : Nx method_2_code 54 (.iload_n 2) 1 55 := ⟨by decide +kernel, rfl⟩
theorem s3_55 : Bx method_2_code 55 (.if_icmp .ge) 61 58 := ⟨(6), by decide +kernel, by decide, by decide, rfl⟩
theorem s3_58 : Nx method_2_code 58 (.iinc 3 1) 3 61 := ⟨by decide +kernel, rfl⟩
set_option maxRecDepth 65536 in
set_option maxHeartbeats 40000000 in
theorem m_below4 (l : Launch) {Z : State} {a0 : Array Value} (hw : HW1 Z a0) (n0 : Nat) (A : List Ob) (i : Nat) (e0 e1 e2 e3 k : Int32) (hA : A[i]? = some (.inr (.int, [.int e0, .int e1, .int e2, .int e3]))) : Met l Z KT n0 y3 method_2_code 4 (some .int) ({ frames := 0, cells := 0, slots := 0, locals := 0 } : Room) #[(.ref (n0 + i)), (.int (4 : Int32)), (.int k)] A (Is (some (.int (own_b [e3, e2, e1, e0] k))) A) := by
  refine Met.of (a0 := a0) (ls := #[.val (.ref (n0 + i)), .val (.int (4 : Int32)), .val (.int k), .unset]) (kok hw) (plainFor_of_name pn_0) (fun m => by first | (simp [entryFrame, mkF, argsToLocals, Value.category]; done) | rfl) (fun G H => ?_)
  refine H.iconst s3_0 (v := (0 : Int32)) (by decide) ?_
  refine H.istoreN s3_1 (ls' := #[.val (.ref (n0 + i)), .val (.int (4 : Int32)), .val (.int k), .val (.int (0 : Int32))]) rfl ?_
  refine H.iloadN s3_2 rfl ?_
  refine H.ifF s3_3 (show (0 : Int32) < (4 : Int32) by decide) ?_
  refine H.aloadN s3_6 rfl rfl ?_
  refine H.iconst s3_7 (v := (0 : Int32)) (by decide) ?_
  refine H.iaload s3_8 (i := i) (j := 0) hA (by decide) (v := (.int e0)) rfl ?_
  refine H.iloadN s3_9 rfl ?_
  refine H.icmpS s3_10 (fun (c10 : ¬ e0 < k) => ?_) (fun (c10 : e0 < k) => ?_)
  · have d10 : k.toInt ≤ e0.toInt := (i_ge rfl rfl).mp c10
    refine H.iloadN s3_16 rfl ?_
    refine H.iconst s3_17 (v := (1 : Int32)) (by decide) ?_
    refine H.icmpF s3_18 (show (1 : Int32) < (4 : Int32) by decide) ?_
    refine H.aloadN s3_21 rfl rfl ?_
    refine H.iconst s3_22 (v := (1 : Int32)) (by decide) ?_
    refine H.iaload s3_23 (i := i) (j := 1) hA (by decide) (v := (.int e1)) rfl ?_
    refine H.iloadN s3_24 rfl ?_
    refine H.icmpS s3_25 (fun (c25 : ¬ e1 < k) => ?_) (fun (c25 : e1 < k) => ?_)
    · have d25 : k.toInt ≤ e1.toInt := (i_ge rfl rfl).mp c25
      refine H.iloadN s3_31 rfl ?_
      refine H.iconst s3_32 (v := (2 : Int32)) (by decide) ?_
      refine H.icmpF s3_33 (show (2 : Int32) < (4 : Int32) by decide) ?_
      refine H.aloadN s3_36 rfl rfl ?_
      refine H.iconst s3_37 (v := (2 : Int32)) (by decide) ?_
      refine H.iaload s3_38 (i := i) (j := 2) hA (by decide) (v := (.int e2)) rfl ?_
      refine H.iloadN s3_39 rfl ?_
      refine H.icmpS s3_40 (fun (c40 : ¬ e2 < k) => ?_) (fun (c40 : e2 < k) => ?_)
      · have d40 : k.toInt ≤ e2.toInt := (i_ge rfl rfl).mp c40
        refine H.iloadN s3_46 rfl ?_
        refine H.iconst s3_47 (v := (3 : Int32)) (by decide) ?_
        refine H.icmpF s3_48 (show (3 : Int32) < (4 : Int32) by decide) ?_
        refine H.aloadN s3_51 rfl rfl ?_
        refine H.iconst s3_52 (v := (3 : Int32)) (by decide) ?_
        refine H.iaload s3_53 (i := i) (j := 3) hA (by decide) (v := (.int e3)) rfl ?_
        refine H.iloadN s3_54 rfl ?_
        refine H.icmpS s3_55 (fun (c55 : ¬ e3 < k) => ?_) (fun (c55 : e3 < k) => ?_)
        · have d55 : k.toInt ≤ e3.toInt := (i_ge rfl rfl).mp c55
          refine H.iloadN s3_61 rfl ?_
          exact H.ireturn s3_62 rfl (by simp) rfl ⟨by simp [own_b, own_lt, c10, c25, c40, c55], rfl⟩ (by decide) (by decide)
        · have d55 : e3.toInt < k.toInt := (i_lt rfl rfl).mp c55
          refine H.iinc s3_58 rfl (w := (1 : Int32)) (by decide) (ls' := #[.val (.ref (n0 + i)), .val (.int (4 : Int32)), .val (.int k), .val (.int (1 : Int32))]) rfl ?_
          refine H.iloadN s3_61 rfl ?_
          exact H.ireturn s3_62 rfl (by simp) rfl ⟨by simp [own_b, own_lt, c10, c25, c40, c55], rfl⟩ (by decide) (by decide)
      · have d40 : e2.toInt < k.toInt := (i_lt rfl rfl).mp c40
        refine H.iinc s3_43 rfl (w := (1 : Int32)) (by decide) (ls' := #[.val (.ref (n0 + i)), .val (.int (4 : Int32)), .val (.int k), .val (.int (1 : Int32))]) rfl ?_
        refine H.iloadN s3_46 rfl ?_
        refine H.iconst s3_47 (v := (3 : Int32)) (by decide) ?_
        refine H.icmpF s3_48 (show (3 : Int32) < (4 : Int32) by decide) ?_
        refine H.aloadN s3_51 rfl rfl ?_
        refine H.iconst s3_52 (v := (3 : Int32)) (by decide) ?_
        refine H.iaload s3_53 (i := i) (j := 3) hA (by decide) (v := (.int e3)) rfl ?_
        refine H.iloadN s3_54 rfl ?_
        refine H.icmpS s3_55 (fun (c55 : ¬ e3 < k) => ?_) (fun (c55 : e3 < k) => ?_)
        · have d55 : k.toInt ≤ e3.toInt := (i_ge rfl rfl).mp c55
          refine H.iloadN s3_61 rfl ?_
          exact H.ireturn s3_62 rfl (by simp) rfl ⟨by simp [own_b, own_lt, c10, c25, c40, c55], rfl⟩ (by decide) (by decide)
        · have d55 : e3.toInt < k.toInt := (i_lt rfl rfl).mp c55
          refine H.iinc s3_58 rfl (w := (2 : Int32)) (by decide) (ls' := #[.val (.ref (n0 + i)), .val (.int (4 : Int32)), .val (.int k), .val (.int (2 : Int32))]) rfl ?_
          refine H.iloadN s3_61 rfl ?_
          exact H.ireturn s3_62 rfl (by simp) rfl ⟨by simp [own_b, own_lt, c10, c25, c40, c55], rfl⟩ (by decide) (by decide)
    · have d25 : e1.toInt < k.toInt := (i_lt rfl rfl).mp c25
      refine H.iinc s3_28 rfl (w := (1 : Int32)) (by decide) (ls' := #[.val (.ref (n0 + i)), .val (.int (4 : Int32)), .val (.int k), .val (.int (1 : Int32))]) rfl ?_
      refine H.iloadN s3_31 rfl ?_
      refine H.iconst s3_32 (v := (2 : Int32)) (by decide) ?_
      refine H.icmpF s3_33 (show (2 : Int32) < (4 : Int32) by decide) ?_
      refine H.aloadN s3_36 rfl rfl ?_
      refine H.iconst s3_37 (v := (2 : Int32)) (by decide) ?_
      refine H.iaload s3_38 (i := i) (j := 2) hA (by decide) (v := (.int e2)) rfl ?_
      refine H.iloadN s3_39 rfl ?_
      refine H.icmpS s3_40 (fun (c40 : ¬ e2 < k) => ?_) (fun (c40 : e2 < k) => ?_)
      · have d40 : k.toInt ≤ e2.toInt := (i_ge rfl rfl).mp c40
        refine H.iloadN s3_46 rfl ?_
        refine H.iconst s3_47 (v := (3 : Int32)) (by decide) ?_
        refine H.icmpF s3_48 (show (3 : Int32) < (4 : Int32) by decide) ?_
        refine H.aloadN s3_51 rfl rfl ?_
        refine H.iconst s3_52 (v := (3 : Int32)) (by decide) ?_
        refine H.iaload s3_53 (i := i) (j := 3) hA (by decide) (v := (.int e3)) rfl ?_
        refine H.iloadN s3_54 rfl ?_
        refine H.icmpS s3_55 (fun (c55 : ¬ e3 < k) => ?_) (fun (c55 : e3 < k) => ?_)
        · have d55 : k.toInt ≤ e3.toInt := (i_ge rfl rfl).mp c55
          refine H.iloadN s3_61 rfl ?_
          exact H.ireturn s3_62 rfl (by simp) rfl ⟨by simp [own_b, own_lt, c10, c25, c40, c55], rfl⟩ (by decide) (by decide)
        · have d55 : e3.toInt < k.toInt := (i_lt rfl rfl).mp c55
          refine H.iinc s3_58 rfl (w := (2 : Int32)) (by decide) (ls' := #[.val (.ref (n0 + i)), .val (.int (4 : Int32)), .val (.int k), .val (.int (2 : Int32))]) rfl ?_
          refine H.iloadN s3_61 rfl ?_
          exact H.ireturn s3_62 rfl (by simp) rfl ⟨by simp [own_b, own_lt, c10, c25, c40, c55], rfl⟩ (by decide) (by decide)
      · have d40 : e2.toInt < k.toInt := (i_lt rfl rfl).mp c40
        refine H.iinc s3_43 rfl (w := (2 : Int32)) (by decide) (ls' := #[.val (.ref (n0 + i)), .val (.int (4 : Int32)), .val (.int k), .val (.int (2 : Int32))]) rfl ?_
        refine H.iloadN s3_46 rfl ?_
        refine H.iconst s3_47 (v := (3 : Int32)) (by decide) ?_
        refine H.icmpF s3_48 (show (3 : Int32) < (4 : Int32) by decide) ?_
        refine H.aloadN s3_51 rfl rfl ?_
        refine H.iconst s3_52 (v := (3 : Int32)) (by decide) ?_
        refine H.iaload s3_53 (i := i) (j := 3) hA (by decide) (v := (.int e3)) rfl ?_
        refine H.iloadN s3_54 rfl ?_
        refine H.icmpS s3_55 (fun (c55 : ¬ e3 < k) => ?_) (fun (c55 : e3 < k) => ?_)
        · have d55 : k.toInt ≤ e3.toInt := (i_ge rfl rfl).mp c55
          refine H.iloadN s3_61 rfl ?_
          exact H.ireturn s3_62 rfl (by simp) rfl ⟨by simp [own_b, own_lt, c10, c25, c40, c55], rfl⟩ (by decide) (by decide)
        · have d55 : e3.toInt < k.toInt := (i_lt rfl rfl).mp c55
          refine H.iinc s3_58 rfl (w := (3 : Int32)) (by decide) (ls' := #[.val (.ref (n0 + i)), .val (.int (4 : Int32)), .val (.int k), .val (.int (3 : Int32))]) rfl ?_
          refine H.iloadN s3_61 rfl ?_
          exact H.ireturn s3_62 rfl (by simp) rfl ⟨by simp [own_b, own_lt, c10, c25, c40, c55], rfl⟩ (by decide) (by decide)
  · have d10 : e0.toInt < k.toInt := (i_lt rfl rfl).mp c10
    refine H.iinc s3_13 rfl (w := (1 : Int32)) (by decide) (ls' := #[.val (.ref (n0 + i)), .val (.int (4 : Int32)), .val (.int k), .val (.int (1 : Int32))]) rfl ?_
    refine H.iloadN s3_16 rfl ?_
    refine H.iconst s3_17 (v := (1 : Int32)) (by decide) ?_
    refine H.icmpF s3_18 (show (1 : Int32) < (4 : Int32) by decide) ?_
    refine H.aloadN s3_21 rfl rfl ?_
    refine H.iconst s3_22 (v := (1 : Int32)) (by decide) ?_
    refine H.iaload s3_23 (i := i) (j := 1) hA (by decide) (v := (.int e1)) rfl ?_
    refine H.iloadN s3_24 rfl ?_
    refine H.icmpS s3_25 (fun (c25 : ¬ e1 < k) => ?_) (fun (c25 : e1 < k) => ?_)
    · have d25 : k.toInt ≤ e1.toInt := (i_ge rfl rfl).mp c25
      refine H.iloadN s3_31 rfl ?_
      refine H.iconst s3_32 (v := (2 : Int32)) (by decide) ?_
      refine H.icmpF s3_33 (show (2 : Int32) < (4 : Int32) by decide) ?_
      refine H.aloadN s3_36 rfl rfl ?_
      refine H.iconst s3_37 (v := (2 : Int32)) (by decide) ?_
      refine H.iaload s3_38 (i := i) (j := 2) hA (by decide) (v := (.int e2)) rfl ?_
      refine H.iloadN s3_39 rfl ?_
      refine H.icmpS s3_40 (fun (c40 : ¬ e2 < k) => ?_) (fun (c40 : e2 < k) => ?_)
      · have d40 : k.toInt ≤ e2.toInt := (i_ge rfl rfl).mp c40
        refine H.iloadN s3_46 rfl ?_
        refine H.iconst s3_47 (v := (3 : Int32)) (by decide) ?_
        refine H.icmpF s3_48 (show (3 : Int32) < (4 : Int32) by decide) ?_
        refine H.aloadN s3_51 rfl rfl ?_
        refine H.iconst s3_52 (v := (3 : Int32)) (by decide) ?_
        refine H.iaload s3_53 (i := i) (j := 3) hA (by decide) (v := (.int e3)) rfl ?_
        refine H.iloadN s3_54 rfl ?_
        refine H.icmpS s3_55 (fun (c55 : ¬ e3 < k) => ?_) (fun (c55 : e3 < k) => ?_)
        · have d55 : k.toInt ≤ e3.toInt := (i_ge rfl rfl).mp c55
          refine H.iloadN s3_61 rfl ?_
          exact H.ireturn s3_62 rfl (by simp) rfl ⟨by simp [own_b, own_lt, c10, c25, c40, c55], rfl⟩ (by decide) (by decide)
        · have d55 : e3.toInt < k.toInt := (i_lt rfl rfl).mp c55
          refine H.iinc s3_58 rfl (w := (2 : Int32)) (by decide) (ls' := #[.val (.ref (n0 + i)), .val (.int (4 : Int32)), .val (.int k), .val (.int (2 : Int32))]) rfl ?_
          refine H.iloadN s3_61 rfl ?_
          exact H.ireturn s3_62 rfl (by simp) rfl ⟨by simp [own_b, own_lt, c10, c25, c40, c55], rfl⟩ (by decide) (by decide)
      · have d40 : e2.toInt < k.toInt := (i_lt rfl rfl).mp c40
        refine H.iinc s3_43 rfl (w := (2 : Int32)) (by decide) (ls' := #[.val (.ref (n0 + i)), .val (.int (4 : Int32)), .val (.int k), .val (.int (2 : Int32))]) rfl ?_
        refine H.iloadN s3_46 rfl ?_
        refine H.iconst s3_47 (v := (3 : Int32)) (by decide) ?_
        refine H.icmpF s3_48 (show (3 : Int32) < (4 : Int32) by decide) ?_
        refine H.aloadN s3_51 rfl rfl ?_
        refine H.iconst s3_52 (v := (3 : Int32)) (by decide) ?_
        refine H.iaload s3_53 (i := i) (j := 3) hA (by decide) (v := (.int e3)) rfl ?_
        refine H.iloadN s3_54 rfl ?_
        refine H.icmpS s3_55 (fun (c55 : ¬ e3 < k) => ?_) (fun (c55 : e3 < k) => ?_)
        · have d55 : k.toInt ≤ e3.toInt := (i_ge rfl rfl).mp c55
          refine H.iloadN s3_61 rfl ?_
          exact H.ireturn s3_62 rfl (by simp) rfl ⟨by simp [own_b, own_lt, c10, c25, c40, c55], rfl⟩ (by decide) (by decide)
        · have d55 : e3.toInt < k.toInt := (i_lt rfl rfl).mp c55
          refine H.iinc s3_58 rfl (w := (3 : Int32)) (by decide) (ls' := #[.val (.ref (n0 + i)), .val (.int (4 : Int32)), .val (.int k), .val (.int (3 : Int32))]) rfl ?_
          refine H.iloadN s3_61 rfl ?_
          exact H.ireturn s3_62 rfl (by simp) rfl ⟨by simp [own_b, own_lt, c10, c25, c40, c55], rfl⟩ (by decide) (by decide)
    · have d25 : e1.toInt < k.toInt := (i_lt rfl rfl).mp c25
      refine H.iinc s3_28 rfl (w := (2 : Int32)) (by decide) (ls' := #[.val (.ref (n0 + i)), .val (.int (4 : Int32)), .val (.int k), .val (.int (2 : Int32))]) rfl ?_
      refine H.iloadN s3_31 rfl ?_
      refine H.iconst s3_32 (v := (2 : Int32)) (by decide) ?_
      refine H.icmpF s3_33 (show (2 : Int32) < (4 : Int32) by decide) ?_
      refine H.aloadN s3_36 rfl rfl ?_
      refine H.iconst s3_37 (v := (2 : Int32)) (by decide) ?_
      refine H.iaload s3_38 (i := i) (j := 2) hA (by decide) (v := (.int e2)) rfl ?_
      refine H.iloadN s3_39 rfl ?_
      refine H.icmpS s3_40 (fun (c40 : ¬ e2 < k) => ?_) (fun (c40 : e2 < k) => ?_)
      · have d40 : k.toInt ≤ e2.toInt := (i_ge rfl rfl).mp c40
        refine H.iloadN s3_46 rfl ?_
        refine H.iconst s3_47 (v := (3 : Int32)) (by decide) ?_
        refine H.icmpF s3_48 (show (3 : Int32) < (4 : Int32) by decide) ?_
        refine H.aloadN s3_51 rfl rfl ?_
        refine H.iconst s3_52 (v := (3 : Int32)) (by decide) ?_
        refine H.iaload s3_53 (i := i) (j := 3) hA (by decide) (v := (.int e3)) rfl ?_
        refine H.iloadN s3_54 rfl ?_
        refine H.icmpS s3_55 (fun (c55 : ¬ e3 < k) => ?_) (fun (c55 : e3 < k) => ?_)
        · have d55 : k.toInt ≤ e3.toInt := (i_ge rfl rfl).mp c55
          refine H.iloadN s3_61 rfl ?_
          exact H.ireturn s3_62 rfl (by simp) rfl ⟨by simp [own_b, own_lt, c10, c25, c40, c55], rfl⟩ (by decide) (by decide)
        · have d55 : e3.toInt < k.toInt := (i_lt rfl rfl).mp c55
          refine H.iinc s3_58 rfl (w := (3 : Int32)) (by decide) (ls' := #[.val (.ref (n0 + i)), .val (.int (4 : Int32)), .val (.int k), .val (.int (3 : Int32))]) rfl ?_
          refine H.iloadN s3_61 rfl ?_
          exact H.ireturn s3_62 rfl (by simp) rfl ⟨by simp [own_b, own_lt, c10, c25, c40, c55], rfl⟩ (by decide) (by decide)
      · have d40 : e2.toInt < k.toInt := (i_lt rfl rfl).mp c40
        refine H.iinc s3_43 rfl (w := (3 : Int32)) (by decide) (ls' := #[.val (.ref (n0 + i)), .val (.int (4 : Int32)), .val (.int k), .val (.int (3 : Int32))]) rfl ?_
        refine H.iloadN s3_46 rfl ?_
        refine H.iconst s3_47 (v := (3 : Int32)) (by decide) ?_
        refine H.icmpF s3_48 (show (3 : Int32) < (4 : Int32) by decide) ?_
        refine H.aloadN s3_51 rfl rfl ?_
        refine H.iconst s3_52 (v := (3 : Int32)) (by decide) ?_
        refine H.iaload s3_53 (i := i) (j := 3) hA (by decide) (v := (.int e3)) rfl ?_
        refine H.iloadN s3_54 rfl ?_
        refine H.icmpS s3_55 (fun (c55 : ¬ e3 < k) => ?_) (fun (c55 : e3 < k) => ?_)
        · have d55 : k.toInt ≤ e3.toInt := (i_ge rfl rfl).mp c55
          refine H.iloadN s3_61 rfl ?_
          exact H.ireturn s3_62 rfl (by simp) rfl ⟨by simp [own_b, own_lt, c10, c25, c40, c55], rfl⟩ (by decide) (by decide)
        · have d55 : e3.toInt < k.toInt := (i_lt rfl rfl).mp c55
          refine H.iinc s3_58 rfl (w := (4 : Int32)) (by decide) (ls' := #[.val (.ref (n0 + i)), .val (.int (4 : Int32)), .val (.int k), .val (.int (4 : Int32))]) rfl ?_
          refine H.iloadN s3_61 rfl ?_
          exact H.ireturn s3_62 rfl (by simp) rfl ⟨by simp [own_b, own_lt, c10, c25, c40, c55], rfl⟩ (by decide) (by decide)

theorem s2_0 : Nx method_3_code 0 (.iload 4) 2 2 := ⟨by decide +kernel, rfl⟩
theorem s2_2 : Nx method_3_code 2 (.iload_n 1) 1 3 := ⟨by decide +kernel, rfl⟩
theorem s2_3 : Bx method_3_code 3 (.if_icmp .le) 8 6 := ⟨(5), by decide +kernel, by decide, by decide, rfl⟩
theorem s2_8 : Nx method_3_code 8 (.aload_n 0) 1 9 := ⟨by decide +kernel, rfl⟩
theorem s2_9 : Nx method_3_code 9 (.iload 4) 2 11 := ⟨by decide +kernel, rfl⟩
theorem s2_11 : Nx method_3_code 11 (.iaload) 1 12 := ⟨by decide +kernel, rfl⟩
theorem s2_12 : Nx method_3_code 12 (.aload_n 2) 1 13 := ⟨by decide +kernel, rfl⟩
theorem s2_13 : Nx method_3_code 13 (.iload_n 3) 1 14 := ⟨by decide +kernel, rfl⟩
theorem s2_14 : Nx method_3_code 14 (.iload 4) 2 16 := ⟨by decide +kernel, rfl⟩
theorem s2_16 : Nx method_3_code 16 (.invokestatic 7) 3 19 := ⟨by decide +kernel, rfl⟩
theorem pd_0 : ∀ sig, parseMethodDescriptor "([III)I" = some sig → 3 = sig.parameters.length := npOf (r := some .int) (ps := [(.array .int), .int, .int]) (by decide +kernel) rfl
theorem k_1 {Z : State} {a0 : Array Value} (hw : HW1 Z a0) : SL Z a0 "com/example/wavegrant/wavegrant/GroupsStartsPinLaw" 7 y3 method_2_code 4 (some .int) 3 := ⟨(hw _ (List.mem_of_getElem? (i := 10) rfl)), (hw _ (List.mem_of_getElem? (i := 11) rfl)), (hw _ (List.mem_of_getElem? (i := 8) rfl)), (hw _ (List.mem_of_getElem? (i := 12) rfl)), ⟨by decide, by decide⟩, pd_0⟩
theorem s2_19 : Bx method_3_code 19 (.if_icmp .ne) 26 22 := ⟨(7), by decide +kernel, by decide, by decide, rfl⟩
theorem s2_22 : Nx method_3_code 22 (.iconst 1) 1 23 := ⟨by decide +kernel, rfl⟩
theorem s2_23 : Bx method_3_code 23 (.goto) 27 26 := ⟨(4), by decide +kernel, by decide, by decide, rfl⟩
theorem s2_27 : Nx method_3_code 27 (.ireturn) 1 28 := ⟨by decide +kernel, rfl⟩
set_option maxRecDepth 65536 in
set_option maxHeartbeats 40000000 in
theorem m_at0 (l : Launch) {Z : State} {a0 : Array Value} (hw : HW1 Z a0) (n0 : Nat) (A : List Ob) (i j : Nat) (fs : List Value) (e0 e1 e2 e3 z kk ky : Int32) (k : Nat) (hA : A[i]? = some (.inr (.int, [.int e0, .int e1, .int e2, .int e3]))) (hB : A[j]? = some (.inr (.int, fs))) (hk : kk.toInt = (k : Int)) (hfk : fs[k]? = some (.int z)) (hle : ¬ ky < kk) (hz : z = own_b [] kk) : Met l Z KT n0 y2 method_3_code 5 (some .boolean) ({ frames := 1, cells := 0, slots := 0, locals := 16 } : Room) #[(.ref (n0 + j)), (.int ky), (.ref (n0 + i)), (.int (0 : Int32)), (.int kk)] A (Is (some (.int (1 : Int32))) A) := by
  refine Met.of (a0 := a0) (ls := #[.val (.ref (n0 + j)), .val (.int ky), .val (.ref (n0 + i)), .val (.int (0 : Int32)), .val (.int kk)]) (kok hw) (plainFor_of_name pn_0) (fun m => by first | (simp [entryFrame, mkF, argsToLocals, Value.category]; done) | rfl) (fun G H => ?_)
  refine H.iload s2_0 rfl ?_
  refine H.iloadN s2_2 rfl ?_
  refine H.icmpT s2_3 hle ?_
  refine H.aloadN s2_8 rfl rfl ?_
  refine H.iload s2_9 rfl ?_
  refine H.iaload s2_11 (i := j) (j := k) hB hk (v := (.int z)) hfk ?_
  refine H.aloadN s2_12 rfl rfl ?_
  refine H.iloadN s2_13 rfl ?_
  refine H.iload s2_14 rfl ?_
  refine H.callSD s2_16 (k_1 hw) (m_below0 l hw n0 A i e0 e1 e2 e3 kk hA) (argsL := [(.ref (n0 + i)), (.int (0 : Int32)), (.int kk)]) (rest := [(.int z)]) rfl rfl rfl rfl (leb rfl) (leb rfl) (leb rfl) (leb rfl) (st' := [(.int (own_b [] kk)), (.int z)]) rfl (k' := 0) rfl (n' := 0) rfl ?_
  refine H.icmpF s2_19 hz ?_
  refine H.iconst s2_22 (v := (1 : Int32)) (by decide) ?_
  refine H.goto s2_23 ?_
  exact H.ireturn s2_27 rfl (by simp) rfl ⟨rfl, rfl⟩ (by decide) (by decide)


set_option maxRecDepth 65536 in
set_option maxHeartbeats 40000000 in
theorem m_at1 (l : Launch) {Z : State} {a0 : Array Value} (hw : HW1 Z a0) (n0 : Nat) (A : List Ob) (i j : Nat) (fs : List Value) (e0 e1 e2 e3 z kk ky : Int32) (k : Nat) (hA : A[i]? = some (.inr (.int, [.int e0, .int e1, .int e2, .int e3]))) (hB : A[j]? = some (.inr (.int, fs))) (hk : kk.toInt = (k : Int)) (hfk : fs[k]? = some (.int z)) (hle : ¬ ky < kk) (hz : z = own_b [e0] kk) : Met l Z KT n0 y2 method_3_code 5 (some .boolean) ({ frames := 1, cells := 0, slots := 0, locals := 16 } : Room) #[(.ref (n0 + j)), (.int ky), (.ref (n0 + i)), (.int (1 : Int32)), (.int kk)] A (Is (some (.int (1 : Int32))) A) := by
  refine Met.of (a0 := a0) (ls := #[.val (.ref (n0 + j)), .val (.int ky), .val (.ref (n0 + i)), .val (.int (1 : Int32)), .val (.int kk)]) (kok hw) (plainFor_of_name pn_0) (fun m => by first | (simp [entryFrame, mkF, argsToLocals, Value.category]; done) | rfl) (fun G H => ?_)
  refine H.iload s2_0 rfl ?_
  refine H.iloadN s2_2 rfl ?_
  refine H.icmpT s2_3 hle ?_
  refine H.aloadN s2_8 rfl rfl ?_
  refine H.iload s2_9 rfl ?_
  refine H.iaload s2_11 (i := j) (j := k) hB hk (v := (.int z)) hfk ?_
  refine H.aloadN s2_12 rfl rfl ?_
  refine H.iloadN s2_13 rfl ?_
  refine H.iload s2_14 rfl ?_
  refine H.callSD s2_16 (k_1 hw) (m_below1 l hw n0 A i e0 e1 e2 e3 kk hA) (argsL := [(.ref (n0 + i)), (.int (1 : Int32)), (.int kk)]) (rest := [(.int z)]) rfl rfl rfl rfl (leb rfl) (leb rfl) (leb rfl) (leb rfl) (st' := [(.int (own_b [e0] kk)), (.int z)]) rfl (k' := 0) rfl (n' := 0) rfl ?_
  refine H.icmpF s2_19 hz ?_
  refine H.iconst s2_22 (v := (1 : Int32)) (by decide) ?_
  refine H.goto s2_23 ?_
  exact H.ireturn s2_27 rfl (by simp) rfl ⟨rfl, rfl⟩ (by decide) (by decide)


set_option maxRecDepth 65536 in
set_option maxHeartbeats 40000000 in
theorem m_at2 (l : Launch) {Z : State} {a0 : Array Value} (hw : HW1 Z a0) (n0 : Nat) (A : List Ob) (i j : Nat) (fs : List Value) (e0 e1 e2 e3 z kk ky : Int32) (k : Nat) (hA : A[i]? = some (.inr (.int, [.int e0, .int e1, .int e2, .int e3]))) (hB : A[j]? = some (.inr (.int, fs))) (hk : kk.toInt = (k : Int)) (hfk : fs[k]? = some (.int z)) (hle : ¬ ky < kk) (hz : z = own_b [e1, e0] kk) : Met l Z KT n0 y2 method_3_code 5 (some .boolean) ({ frames := 1, cells := 0, slots := 0, locals := 16 } : Room) #[(.ref (n0 + j)), (.int ky), (.ref (n0 + i)), (.int (2 : Int32)), (.int kk)] A (Is (some (.int (1 : Int32))) A) := by
  refine Met.of (a0 := a0) (ls := #[.val (.ref (n0 + j)), .val (.int ky), .val (.ref (n0 + i)), .val (.int (2 : Int32)), .val (.int kk)]) (kok hw) (plainFor_of_name pn_0) (fun m => by first | (simp [entryFrame, mkF, argsToLocals, Value.category]; done) | rfl) (fun G H => ?_)
  refine H.iload s2_0 rfl ?_
  refine H.iloadN s2_2 rfl ?_
  refine H.icmpT s2_3 hle ?_
  refine H.aloadN s2_8 rfl rfl ?_
  refine H.iload s2_9 rfl ?_
  refine H.iaload s2_11 (i := j) (j := k) hB hk (v := (.int z)) hfk ?_
  refine H.aloadN s2_12 rfl rfl ?_
  refine H.iloadN s2_13 rfl ?_
  refine H.iload s2_14 rfl ?_
  refine H.callSD s2_16 (k_1 hw) (m_below2 l hw n0 A i e0 e1 e2 e3 kk hA) (argsL := [(.ref (n0 + i)), (.int (2 : Int32)), (.int kk)]) (rest := [(.int z)]) rfl rfl rfl rfl (leb rfl) (leb rfl) (leb rfl) (leb rfl) (st' := [(.int (own_b [e1, e0] kk)), (.int z)]) rfl (k' := 0) rfl (n' := 0) rfl ?_
  refine H.icmpF s2_19 hz ?_
  refine H.iconst s2_22 (v := (1 : Int32)) (by decide) ?_
  refine H.goto s2_23 ?_
  exact H.ireturn s2_27 rfl (by simp) rfl ⟨rfl, rfl⟩ (by decide) (by decide)


set_option maxRecDepth 65536 in
set_option maxHeartbeats 40000000 in
theorem m_at3 (l : Launch) {Z : State} {a0 : Array Value} (hw : HW1 Z a0) (n0 : Nat) (A : List Ob) (i j : Nat) (fs : List Value) (e0 e1 e2 e3 z kk ky : Int32) (k : Nat) (hA : A[i]? = some (.inr (.int, [.int e0, .int e1, .int e2, .int e3]))) (hB : A[j]? = some (.inr (.int, fs))) (hk : kk.toInt = (k : Int)) (hfk : fs[k]? = some (.int z)) (hle : ¬ ky < kk) (hz : z = own_b [e2, e1, e0] kk) : Met l Z KT n0 y2 method_3_code 5 (some .boolean) ({ frames := 1, cells := 0, slots := 0, locals := 16 } : Room) #[(.ref (n0 + j)), (.int ky), (.ref (n0 + i)), (.int (3 : Int32)), (.int kk)] A (Is (some (.int (1 : Int32))) A) := by
  refine Met.of (a0 := a0) (ls := #[.val (.ref (n0 + j)), .val (.int ky), .val (.ref (n0 + i)), .val (.int (3 : Int32)), .val (.int kk)]) (kok hw) (plainFor_of_name pn_0) (fun m => by first | (simp [entryFrame, mkF, argsToLocals, Value.category]; done) | rfl) (fun G H => ?_)
  refine H.iload s2_0 rfl ?_
  refine H.iloadN s2_2 rfl ?_
  refine H.icmpT s2_3 hle ?_
  refine H.aloadN s2_8 rfl rfl ?_
  refine H.iload s2_9 rfl ?_
  refine H.iaload s2_11 (i := j) (j := k) hB hk (v := (.int z)) hfk ?_
  refine H.aloadN s2_12 rfl rfl ?_
  refine H.iloadN s2_13 rfl ?_
  refine H.iload s2_14 rfl ?_
  refine H.callSD s2_16 (k_1 hw) (m_below3 l hw n0 A i e0 e1 e2 e3 kk hA) (argsL := [(.ref (n0 + i)), (.int (3 : Int32)), (.int kk)]) (rest := [(.int z)]) rfl rfl rfl rfl (leb rfl) (leb rfl) (leb rfl) (leb rfl) (st' := [(.int (own_b [e2, e1, e0] kk)), (.int z)]) rfl (k' := 0) rfl (n' := 0) rfl ?_
  refine H.icmpF s2_19 hz ?_
  refine H.iconst s2_22 (v := (1 : Int32)) (by decide) ?_
  refine H.goto s2_23 ?_
  exact H.ireturn s2_27 rfl (by simp) rfl ⟨rfl, rfl⟩ (by decide) (by decide)


set_option maxRecDepth 65536 in
set_option maxHeartbeats 40000000 in
theorem m_at4 (l : Launch) {Z : State} {a0 : Array Value} (hw : HW1 Z a0) (n0 : Nat) (A : List Ob) (i j : Nat) (fs : List Value) (e0 e1 e2 e3 z kk ky : Int32) (k : Nat) (hA : A[i]? = some (.inr (.int, [.int e0, .int e1, .int e2, .int e3]))) (hB : A[j]? = some (.inr (.int, fs))) (hk : kk.toInt = (k : Int)) (hfk : fs[k]? = some (.int z)) (hle : ¬ ky < kk) (hz : z = own_b [e3, e2, e1, e0] kk) : Met l Z KT n0 y2 method_3_code 5 (some .boolean) ({ frames := 1, cells := 0, slots := 0, locals := 16 } : Room) #[(.ref (n0 + j)), (.int ky), (.ref (n0 + i)), (.int (4 : Int32)), (.int kk)] A (Is (some (.int (1 : Int32))) A) := by
  refine Met.of (a0 := a0) (ls := #[.val (.ref (n0 + j)), .val (.int ky), .val (.ref (n0 + i)), .val (.int (4 : Int32)), .val (.int kk)]) (kok hw) (plainFor_of_name pn_0) (fun m => by first | (simp [entryFrame, mkF, argsToLocals, Value.category]; done) | rfl) (fun G H => ?_)
  refine H.iload s2_0 rfl ?_
  refine H.iloadN s2_2 rfl ?_
  refine H.icmpT s2_3 hle ?_
  refine H.aloadN s2_8 rfl rfl ?_
  refine H.iload s2_9 rfl ?_
  refine H.iaload s2_11 (i := j) (j := k) hB hk (v := (.int z)) hfk ?_
  refine H.aloadN s2_12 rfl rfl ?_
  refine H.iloadN s2_13 rfl ?_
  refine H.iload s2_14 rfl ?_
  refine H.callSD s2_16 (k_1 hw) (m_below4 l hw n0 A i e0 e1 e2 e3 kk hA) (argsL := [(.ref (n0 + i)), (.int (4 : Int32)), (.int kk)]) (rest := [(.int z)]) rfl rfl rfl rfl (leb rfl) (leb rfl) (leb rfl) (leb rfl) (st' := [(.int (own_b [e3, e2, e1, e0] kk)), (.int z)]) rfl (k' := 0) rfl (n' := 0) rfl ?_
  refine H.icmpF s2_19 hz ?_
  refine H.iconst s2_22 (v := (1 : Int32)) (by decide) ?_
  refine H.goto s2_23 ?_
  exact H.ireturn s2_27 rfl (by simp) rfl ⟨rfl, rfl⟩ (by decide) (by decide)

theorem s2_6 : Nx method_3_code 6 (.iconst 1) 1 7 := ⟨by decide +kernel, rfl⟩
theorem s2_7 : Nx method_3_code 7 (.ireturn) 1 8 := ⟨by decide +kernel, rfl⟩
set_option maxRecDepth 65536 in
set_option maxHeartbeats 40000000 in
theorem m_atT (l : Launch) {Z : State} {a0 : Array Value} (hw : HW1 Z a0) (n0 : Nat) (A : List Ob) (i j : Nat) (ky c kk : Int32) (h : ky < kk) : Met l Z KT n0 y2 method_3_code 5 (some .boolean) ({ frames := 0, cells := 0, slots := 0, locals := 0 } : Room) #[(.ref (n0 + j)), (.int ky), (.ref (n0 + i)), (.int c), (.int kk)] A (Is (some (.int (1 : Int32))) A) := by
  refine Met.of (a0 := a0) (ls := #[.val (.ref (n0 + j)), .val (.int ky), .val (.ref (n0 + i)), .val (.int c), .val (.int kk)]) (kok hw) (plainFor_of_name pn_0) (fun m => by first | (simp [entryFrame, mkF, argsToLocals, Value.category]; done) | rfl) (fun G H => ?_)
  refine H.iload s2_0 rfl ?_
  refine H.iloadN s2_2 rfl ?_
  refine H.icmpF s2_3 h ?_
  refine H.iconst s2_6 (v := (1 : Int32)) (by decide) ?_
  exact H.ireturn s2_7 rfl (by simp) rfl ⟨rfl, rfl⟩ (by decide) (by decide)

theorem pn_4 : plainName "com/example/wavegrant/wavegrant/Groups" = true := by first | (simp [plainName, overriddenIn]; done) | decide +kernel
theorem s0_0 : Nx code 0 (.iload 4) 2 2 := ⟨at_0, rfl⟩
theorem k_2 {Z : State} {a0 : Array Value} (hw : HW1 Z a0) : (Jvm.Cond.constant "com/example/wavegrant/wavegrant/GroupsStartsPinLaw" 13 (2147483647)).before a0 Z = true := (hw _ (List.mem_of_getElem? (i := 0) rfl))
theorem s0_2 : Nx code 2 (.ldc 13) 2 4 := ⟨at_2, rfl⟩
theorem s0_4 : Nx code 4 (.iand) 1 5 := ⟨at_4, rfl⟩
theorem s0_5 : Nx code 5 (.bipush 6) 2 7 := ⟨at_5, rfl⟩
theorem s0_7 : Nx code 7 (.irem) 1 8 := ⟨at_7, rfl⟩
theorem s0_8 : Nx code 8 (.istore 6) 2 10 := ⟨at_8, rfl⟩
theorem s0_10 : Nx code 10 (.iload 6) 2 12 := ⟨at_10, rfl⟩
theorem s0_12 : Bx code 12 (.ifCond .ne) 19 15 := ⟨(7), at_12, by decide, by decide, rfl⟩
theorem s0_15 : Nx code 15 (.iconst 0) 1 16 := ⟨at_15, rfl⟩
theorem s0_16 : Bx code 16 (.goto) 26 19 := ⟨(10), at_16, by decide, by decide, rfl⟩
theorem s0_26 : Nx code 26 (.istore 7) 2 28 := ⟨at_26, rfl⟩
theorem s0_28 : Nx code 28 (.iconst 4) 1 29 := ⟨at_28, rfl⟩
theorem s0_29 : Nx code 29 (.newarray .int) 2 31 := ⟨at_29, rfl⟩
theorem k_3 {Z : State} {a0 : Array Value} (hw : HW1 Z a0) : AL Z a0 .int := (hw _ (List.mem_of_getElem? (i := 1) rfl))
theorem s0_31 : Nx code 31 (.astore 8) 2 33 := ⟨at_31, rfl⟩
theorem s0_33 : Nx code 33 (.iload 6) 2 35 := ⟨at_33, rfl⟩
theorem s0_35 : Bx code 35 (.ifCond .le) 82 38 := ⟨(47), at_35, by decide, by decide, rfl⟩
theorem s0_82 : Nx code 82 (.aload 8) 2 84 := ⟨at_82, rfl⟩
theorem s0_84 : Nx code 84 (.iload 7) 2 86 := ⟨at_84, rfl⟩
theorem s0_86 : Nx code 86 (.iload 6) 2 88 := ⟨at_86, rfl⟩
theorem s0_88 : Nx code 88 (.invokestatic 14) 3 91 := ⟨at_88, rfl⟩
theorem s1_0 : Nx prog_8_method_2_code 0 (.iload_n 2) 1 1 := ⟨by decide +kernel, rfl⟩
theorem s1_1 : Nx prog_8_method_2_code 1 (.iconst 1) 1 2 := ⟨by decide +kernel, rfl⟩
theorem s1_2 : Nx prog_8_method_2_code 2 (.iadd) 1 3 := ⟨by decide +kernel, rfl⟩
theorem s1_3 : Nx prog_8_method_2_code 3 (.newarray .int) 2 5 := ⟨by decide +kernel, rfl⟩
theorem s1_5 : Nx prog_8_method_2_code 5 (.astore_n 3) 1 6 := ⟨by decide +kernel, rfl⟩
theorem s1_6 : Nx prog_8_method_2_code 6 (.iconst 0) 1 7 := ⟨by decide +kernel, rfl⟩
theorem s1_7 : Nx prog_8_method_2_code 7 (.istore 4) 2 9 := ⟨by decide +kernel, rfl⟩
theorem s1_9 : Nx prog_8_method_2_code 9 (.iload 4) 2 11 := ⟨by decide +kernel, rfl⟩
theorem s1_11 : Nx prog_8_method_2_code 11 (.iload_n 1) 1 12 := ⟨by decide +kernel, rfl⟩
theorem s1_12 : Bx prog_8_method_2_code 12 (.if_icmp .ge) 33 15 := ⟨(21), by decide +kernel, by decide, by decide, rfl⟩
theorem s1_33 : Nx prog_8_method_2_code 33 (.iconst 0) 1 34 := ⟨by decide +kernel, rfl⟩
theorem s1_34 : Nx prog_8_method_2_code 34 (.istore 4) 2 36 := ⟨by decide +kernel, rfl⟩
theorem s1_36 : Nx prog_8_method_2_code 36 (.iload 4) 2 38 := ⟨by decide +kernel, rfl⟩
theorem s1_38 : Nx prog_8_method_2_code 38 (.iload_n 2) 1 39 := ⟨by decide +kernel, rfl⟩
theorem s1_39 : Bx prog_8_method_2_code 39 (.if_icmp .ge) 61 42 := ⟨(22), by decide +kernel, by decide, by decide, rfl⟩
theorem s1_61 : Nx prog_8_method_2_code 61 (.aload_n 3) 1 62 := ⟨by decide +kernel, rfl⟩
theorem s1_62 : Nx prog_8_method_2_code 62 (.areturn) 1 63 := ⟨by decide +kernel, rfl⟩
set_option maxRecDepth 65536 in
set_option maxHeartbeats 40000000 in
theorem a_0 (l : Launch) {Z : State} {a0 : Array Value} (hw : HW1 Z a0) (n0 : Nat)  : Met l Z KT n0 y1 prog_8_method_2_code 5 (some (.array .int)) ({ frames := 0, cells := 1, slots := 1, locals := 0 } : Room) #[(.ref (n0 + 0)), (.int (0 : Int32)), (.int (0 : Int32))] [.inr (.int, [(.int (0 : Int32)), (.int (0 : Int32)), (.int (0 : Int32)), (.int (0 : Int32))])] (Is (some (.ref (n0 + 1))) [.inr (.int, [(.int (0 : Int32)), (.int (0 : Int32)), (.int (0 : Int32)), (.int (0 : Int32))]), .inr (.int, [(.int (0 : Int32))])]) := by
  refine Met.of (a0 := a0) (ls := #[.val (.ref (n0 + 0)), .val (.int (0 : Int32)), .val (.int (0 : Int32)), .unset, .unset]) (kok hw) (plainFor_of_name pn_4) (fun m => by first | (simp [entryFrame, mkF, argsToLocals, Value.category]; done) | rfl) (fun G H => ?_)
  refine H.iloadN s1_0 rfl ?_
  refine H.iconst s1_1 (v := (1 : Int32)) (by decide) ?_
  refine H.iadd s1_2 (w := (1 : Int32)) (by decide) ?_
  refine H.newarray s1_3 (ty := .int) rfl (k_3 hw) (N := 1) (cap := 1) (by decide) rfl (by decide) (by decide) (by first | rfl | simp) (by decide) (by decide) (i := 1) rfl (A' := [.inr (.int, [(.int (0 : Int32)), (.int (0 : Int32)), (.int (0 : Int32)), (.int (0 : Int32))]), .inr (.int, [(.int (0 : Int32))])]) rfl (k' := 1) rfl (n' := 1) rfl ?_
  refine H.astoreN s1_5 rfl (ls' := #[.val (.ref (n0 + 0)), .val (.int (0 : Int32)), .val (.int (0 : Int32)), .val (.ref (n0 + 1)), .unset]) rfl ?_
  refine H.iconst s1_6 (v := (0 : Int32)) (by decide) ?_
  refine H.istore s1_7 (ls' := #[.val (.ref (n0 + 0)), .val (.int (0 : Int32)), .val (.int (0 : Int32)), .val (.ref (n0 + 1)), .val (.int (0 : Int32))]) rfl ?_
  refine H.iload s1_9 rfl ?_
  refine H.iloadN s1_11 rfl ?_
  refine H.icmpT s1_12 (show ¬ (0 : Int32) < (0 : Int32) by decide) ?_
  refine H.iconst s1_33 (v := (0 : Int32)) (by decide) ?_
  refine H.istore s1_34 (ls' := #[.val (.ref (n0 + 0)), .val (.int (0 : Int32)), .val (.int (0 : Int32)), .val (.ref (n0 + 1)), .val (.int (0 : Int32))]) rfl ?_
  refine H.iload s1_36 rfl ?_
  refine H.iloadN s1_38 rfl ?_
  refine H.icmpT s1_39 (show ¬ (0 : Int32) < (0 : Int32) by decide) ?_
  refine H.aloadN s1_61 rfl rfl ?_
  exact H.areturn s1_62 rfl rfl rfl rfl ⟨rfl, rfl⟩ (by decide) (by decide)

theorem pd_1 : ∀ sig, parseMethodDescriptor "([III)[I" = some sig → 3 = sig.parameters.length := npOf (r := some (.array .int)) (ps := [(.array .int), .int, .int]) (by decide +kernel) rfl
theorem k_5 {Z : State} {a0 : Array Value} (hw : HW1 Z a0) : SL Z a0 "com/example/wavegrant/wavegrant/GroupsStartsPinLaw" 14 y1 prog_8_method_2_code 5 (some (.array .int)) 3 := ⟨(hw _ (List.mem_of_getElem? (i := 2) rfl)), (hw _ (List.mem_of_getElem? (i := 3) rfl)), (hw _ (List.mem_of_getElem? (i := 4) rfl)), (hw _ (List.mem_of_getElem? (i := 5) rfl)), ⟨by decide, by decide⟩, pd_1⟩
theorem s0_91 : Nx code 91 (.astore 9) 2 93 := ⟨at_91, rfl⟩
theorem s0_93 : Nx code 93 (.aload 9) 2 95 := ⟨at_93, rfl⟩
theorem s0_95 : Bx code 95 (.ifnull) 108 98 := ⟨(13), at_95, by decide, by decide, rfl⟩
theorem s0_98 : Nx code 98 (.aload 9) 2 100 := ⟨at_98, rfl⟩
theorem s0_100 : Nx code 100 (.arraylength) 1 101 := ⟨at_100, rfl⟩
theorem s0_101 : Nx code 101 (.iload 6) 2 103 := ⟨at_101, rfl⟩
theorem s0_103 : Nx code 103 (.iconst 1) 1 104 := ⟨at_103, rfl⟩
theorem s0_104 : Nx code 104 (.iadd) 1 105 := ⟨at_104, rfl⟩
theorem s0_105 : Bx code 105 (.if_icmp .eq) 110 108 := ⟨(5), at_105, by decide, by decide, rfl⟩
theorem s0_110 : Nx code 110 (.aload 9) 2 112 := ⟨at_110, rfl⟩
theorem s0_112 : Nx code 112 (.iload 6) 2 114 := ⟨at_112, rfl⟩
theorem s0_114 : Nx code 114 (.aload 8) 2 116 := ⟨at_114, rfl⟩
theorem s0_116 : Nx code 116 (.iload 7) 2 118 := ⟨at_116, rfl⟩
theorem s0_118 : Nx code 118 (.iconst 0) 1 119 := ⟨at_118, rfl⟩
theorem s0_119 : Nx code 119 (.invokestatic 20) 3 122 := ⟨at_119, rfl⟩
theorem pd_2 : ∀ sig, parseMethodDescriptor "([II[III)Z" = some sig → 5 = sig.parameters.length := npOf (r := some .boolean) (ps := [(.array .int), .int, (.array .int), .int, .int]) (by decide +kernel) rfl
theorem k_6 {Z : State} {a0 : Array Value} (hw : HW1 Z a0) : SL Z a0 "com/example/wavegrant/wavegrant/GroupsStartsPinLaw" 20 y2 method_3_code 5 (some .boolean) 5 := ⟨(hw _ (List.mem_of_getElem? (i := 6) rfl)), (hw _ (List.mem_of_getElem? (i := 7) rfl)), (hw _ (List.mem_of_getElem? (i := 8) rfl)), (hw _ (List.mem_of_getElem? (i := 9) rfl)), ⟨by decide, by decide⟩, pd_2⟩
theorem s0_122 : Bx code 122 (.ifCond .eq) 204 125 := ⟨(82), at_122, by decide, by decide, rfl⟩
theorem s0_125 : Nx code 125 (.aload 9) 2 127 := ⟨at_125, rfl⟩
theorem s0_127 : Nx code 127 (.iload 6) 2 129 := ⟨at_127, rfl⟩
theorem s0_129 : Nx code 129 (.aload 8) 2 131 := ⟨at_129, rfl⟩
theorem s0_131 : Nx code 131 (.iload 7) 2 133 := ⟨at_131, rfl⟩
theorem s0_133 : Nx code 133 (.iconst 1) 1 134 := ⟨at_133, rfl⟩
theorem s0_134 : Nx code 134 (.invokestatic 20) 3 137 := ⟨at_134, rfl⟩
theorem s0_137 : Bx code 137 (.ifCond .eq) 204 140 := ⟨(67), at_137, by decide, by decide, rfl⟩
theorem s0_140 : Nx code 140 (.aload 9) 2 142 := ⟨at_140, rfl⟩
theorem s0_142 : Nx code 142 (.iload 6) 2 144 := ⟨at_142, rfl⟩
theorem s0_144 : Nx code 144 (.aload 8) 2 146 := ⟨at_144, rfl⟩
theorem s0_146 : Nx code 146 (.iload 7) 2 148 := ⟨at_146, rfl⟩
theorem s0_148 : Nx code 148 (.iconst 2) 1 149 := ⟨at_148, rfl⟩
theorem s0_149 : Nx code 149 (.invokestatic 20) 3 152 := ⟨at_149, rfl⟩
theorem s0_152 : Bx code 152 (.ifCond .eq) 204 155 := ⟨(52), at_152, by decide, by decide, rfl⟩
theorem s0_155 : Nx code 155 (.aload 9) 2 157 := ⟨at_155, rfl⟩
theorem s0_157 : Nx code 157 (.iload 6) 2 159 := ⟨at_157, rfl⟩
theorem s0_159 : Nx code 159 (.aload 8) 2 161 := ⟨at_159, rfl⟩
theorem s0_161 : Nx code 161 (.iload 7) 2 163 := ⟨at_161, rfl⟩
theorem s0_163 : Nx code 163 (.iconst 3) 1 164 := ⟨at_163, rfl⟩
theorem s0_164 : Nx code 164 (.invokestatic 20) 3 167 := ⟨at_164, rfl⟩
theorem s0_167 : Bx code 167 (.ifCond .eq) 204 170 := ⟨(37), at_167, by decide, by decide, rfl⟩
theorem s0_170 : Nx code 170 (.aload 9) 2 172 := ⟨at_170, rfl⟩
theorem s0_172 : Nx code 172 (.iload 6) 2 174 := ⟨at_172, rfl⟩
theorem s0_174 : Nx code 174 (.aload 8) 2 176 := ⟨at_174, rfl⟩
theorem s0_176 : Nx code 176 (.iload 7) 2 178 := ⟨at_176, rfl⟩
theorem s0_178 : Nx code 178 (.iconst 4) 1 179 := ⟨at_178, rfl⟩
theorem s0_179 : Nx code 179 (.invokestatic 20) 3 182 := ⟨at_179, rfl⟩
theorem s0_182 : Bx code 182 (.ifCond .eq) 204 185 := ⟨(22), at_182, by decide, by decide, rfl⟩
theorem s0_185 : Nx code 185 (.aload 9) 2 187 := ⟨at_185, rfl⟩
theorem s0_187 : Nx code 187 (.iload 6) 2 189 := ⟨at_187, rfl⟩
theorem s0_189 : Nx code 189 (.aload 8) 2 191 := ⟨at_189, rfl⟩
theorem s0_191 : Nx code 191 (.iload 7) 2 193 := ⟨at_191, rfl⟩
theorem s0_193 : Nx code 193 (.iconst 5) 1 194 := ⟨at_193, rfl⟩
theorem s0_194 : Nx code 194 (.invokestatic 20) 3 197 := ⟨at_194, rfl⟩
theorem s0_197 : Bx code 197 (.ifCond .eq) 204 200 := ⟨(7), at_197, by decide, by decide, rfl⟩
theorem s0_200 : Nx code 200 (.iconst 1) 1 201 := ⟨at_200, rfl⟩
theorem s0_201 : Bx code 201 (.goto) 205 204 := ⟨(4), at_201, by decide, by decide, rfl⟩
theorem s0_205 : Nx code 205 (.ireturn) 1 206 := ⟨at_205, rfl⟩
theorem s0_19 : Nx code 19 (.iload 5) 2 21 := ⟨at_19, rfl⟩
theorem s0_21 : Nx code 21 (.ldc 13) 2 23 := ⟨at_21, rfl⟩
theorem s0_23 : Nx code 23 (.iand) 1 24 := ⟨at_23, rfl⟩
theorem s0_24 : Nx code 24 (.iconst 5) 1 25 := ⟨at_24, rfl⟩
theorem s0_25 : Nx code 25 (.irem) 1 26 := ⟨at_25, rfl⟩
theorem s0_38 : Nx code 38 (.aload 8) 2 40 := ⟨at_38, rfl⟩
theorem s0_40 : Nx code 40 (.iconst 0) 1 41 := ⟨at_40, rfl⟩
theorem s0_41 : Nx code 41 (.iload_n 0) 1 42 := ⟨at_41, rfl⟩
theorem s0_42 : Nx code 42 (.ldc 13) 2 44 := ⟨at_42, rfl⟩
theorem s0_44 : Nx code 44 (.iand) 1 45 := ⟨at_44, rfl⟩
theorem s0_45 : Nx code 45 (.iload 6) 2 47 := ⟨at_45, rfl⟩
theorem s0_47 : Nx code 47 (.irem) 1 48 := ⟨at_47, rfl⟩
theorem s0_48 : Nx code 48 (.iastore) 1 49 := ⟨at_48, rfl⟩
theorem s0_49 : Nx code 49 (.aload 8) 2 51 := ⟨at_49, rfl⟩
theorem s0_51 : Nx code 51 (.iconst 1) 1 52 := ⟨at_51, rfl⟩
theorem s0_52 : Nx code 52 (.iload_n 1) 1 53 := ⟨at_52, rfl⟩
theorem s0_53 : Nx code 53 (.ldc 13) 2 55 := ⟨at_53, rfl⟩
theorem s0_55 : Nx code 55 (.iand) 1 56 := ⟨at_55, rfl⟩
theorem s0_56 : Nx code 56 (.iload 6) 2 58 := ⟨at_56, rfl⟩
theorem s0_58 : Nx code 58 (.irem) 1 59 := ⟨at_58, rfl⟩
theorem s0_59 : Nx code 59 (.iastore) 1 60 := ⟨at_59, rfl⟩
theorem s0_60 : Nx code 60 (.aload 8) 2 62 := ⟨at_60, rfl⟩
theorem s0_62 : Nx code 62 (.iconst 2) 1 63 := ⟨at_62, rfl⟩
theorem s0_63 : Nx code 63 (.iload_n 2) 1 64 := ⟨at_63, rfl⟩
theorem s0_64 : Nx code 64 (.ldc 13) 2 66 := ⟨at_64, rfl⟩
theorem s0_66 : Nx code 66 (.iand) 1 67 := ⟨at_66, rfl⟩
theorem s0_67 : Nx code 67 (.iload 6) 2 69 := ⟨at_67, rfl⟩
theorem s0_69 : Nx code 69 (.irem) 1 70 := ⟨at_69, rfl⟩
theorem s0_70 : Nx code 70 (.iastore) 1 71 := ⟨at_70, rfl⟩
theorem s0_71 : Nx code 71 (.aload 8) 2 73 := ⟨at_71, rfl⟩
theorem s0_73 : Nx code 73 (.iconst 3) 1 74 := ⟨at_73, rfl⟩
theorem s0_74 : Nx code 74 (.iload_n 3) 1 75 := ⟨at_74, rfl⟩
theorem s0_75 : Nx code 75 (.ldc 13) 2 77 := ⟨at_75, rfl⟩
theorem s0_77 : Nx code 77 (.iand) 1 78 := ⟨at_77, rfl⟩
theorem s0_78 : Nx code 78 (.iload 6) 2 80 := ⟨at_78, rfl⟩
theorem s0_80 : Nx code 80 (.irem) 1 81 := ⟨at_80, rfl⟩
theorem s0_81 : Nx code 81 (.iastore) 1 82 := ⟨at_81, rfl⟩
theorem s1_42 : Nx prog_8_method_2_code 42 (.aload_n 3) 1 43 := ⟨by decide +kernel, rfl⟩
theorem s1_43 : Nx prog_8_method_2_code 43 (.iload 4) 2 45 := ⟨by decide +kernel, rfl⟩
theorem s1_45 : Nx prog_8_method_2_code 45 (.iconst 1) 1 46 := ⟨by decide +kernel, rfl⟩
theorem s1_46 : Nx prog_8_method_2_code 46 (.iadd) 1 47 := ⟨by decide +kernel, rfl⟩
theorem s1_47 : Nx prog_8_method_2_code 47 (.dup2) 1 48 := ⟨by decide +kernel, rfl⟩
theorem s1_48 : Nx prog_8_method_2_code 48 (.iaload) 1 49 := ⟨by decide +kernel, rfl⟩
theorem s1_49 : Nx prog_8_method_2_code 49 (.aload_n 3) 1 50 := ⟨by decide +kernel, rfl⟩
theorem s1_50 : Nx prog_8_method_2_code 50 (.iload 4) 2 52 := ⟨by decide +kernel, rfl⟩
theorem s1_52 : Nx prog_8_method_2_code 52 (.iaload) 1 53 := ⟨by decide +kernel, rfl⟩
theorem s1_53 : Nx prog_8_method_2_code 53 (.iadd) 1 54 := ⟨by decide +kernel, rfl⟩
theorem s1_54 : Nx prog_8_method_2_code 54 (.iastore) 1 55 := ⟨by decide +kernel, rfl⟩
theorem s1_55 : Nx prog_8_method_2_code 55 (.iinc 4 1) 3 58 := ⟨by decide +kernel, rfl⟩
theorem s1_58 : Bx prog_8_method_2_code 58 (.goto) 36 61 := ⟨(-22), by decide +kernel, by decide, by decide, rfl⟩
set_option maxRecDepth 65536 in
set_option maxHeartbeats 40000000 in
theorem a_1 (l : Launch) {Z : State} {a0 : Array Value} (hw : HW1 Z a0) (n0 : Nat) (e0 : Int32) (e1 : Int32) (e2 : Int32) (e3 : Int32) {N0 : Nat} (hN0 : e0.toInt = (N0 : Int)) (lN0 : N0 < 1) {N1 : Nat} (hN1 : e1.toInt = (N1 : Int)) (lN1 : N1 < 1) {N2 : Nat} (hN2 : e2.toInt = (N2 : Int)) (lN2 : N2 < 1) {N3 : Nat} (hN3 : e3.toInt = (N3 : Int)) (lN3 : N3 < 1) : Met l Z KT n0 y1 prog_8_method_2_code 5 (some (.array .int)) ({ frames := 0, cells := 1, slots := 2, locals := 0 } : Room) #[(.ref (n0 + 0)), (.int (0 : Int32)), (.int (1 : Int32))] [.inr (.int, [(.int e0), (.int e1), (.int e2), (.int e3)])] (Is (some (.ref (n0 + 1))) [.inr (.int, [(.int e0), (.int e1), (.int e2), (.int e3)]), .inr (.int, [(.int (0 : Int32)), (.int (0 : Int32))])]) := by
  refine Met.of (a0 := a0) (ls := #[.val (.ref (n0 + 0)), .val (.int (0 : Int32)), .val (.int (1 : Int32)), .unset, .unset]) (kok hw) (plainFor_of_name pn_4) (fun m => by first | (simp [entryFrame, mkF, argsToLocals, Value.category]; done) | rfl) (fun G H => ?_)
  refine H.iloadN s1_0 rfl ?_
  refine H.iconst s1_1 (v := (1 : Int32)) (by decide) ?_
  refine H.iadd s1_2 (w := (2 : Int32)) (by decide) ?_
  refine H.newarray s1_3 (ty := .int) rfl (k_3 hw) (N := 2) (cap := 2) (by decide) rfl (by decide) (by decide) (by first | rfl | simp) (by decide) (by decide) (i := 1) rfl (A' := [.inr (.int, [(.int e0), (.int e1), (.int e2), (.int e3)]), .inr (.int, [(.int (0 : Int32)), (.int (0 : Int32))])]) rfl (k' := 1) rfl (n' := 2) rfl ?_
  refine H.astoreN s1_5 rfl (ls' := #[.val (.ref (n0 + 0)), .val (.int (0 : Int32)), .val (.int (1 : Int32)), .val (.ref (n0 + 1)), .unset]) rfl ?_
  refine H.iconst s1_6 (v := (0 : Int32)) (by decide) ?_
  refine H.istore s1_7 (ls' := #[.val (.ref (n0 + 0)), .val (.int (0 : Int32)), .val (.int (1 : Int32)), .val (.ref (n0 + 1)), .val (.int (0 : Int32))]) rfl ?_
  refine H.iload s1_9 rfl ?_
  refine H.iloadN s1_11 rfl ?_
  refine H.icmpT s1_12 (show ¬ (0 : Int32) < (0 : Int32) by decide) ?_
  refine H.iconst s1_33 (v := (0 : Int32)) (by decide) ?_
  refine H.istore s1_34 (ls' := #[.val (.ref (n0 + 0)), .val (.int (0 : Int32)), .val (.int (1 : Int32)), .val (.ref (n0 + 1)), .val (.int (0 : Int32))]) rfl ?_
  refine H.iload s1_36 rfl ?_
  refine H.iloadN s1_38 rfl ?_
  refine H.icmpF s1_39 (show (0 : Int32) < (1 : Int32) by decide) ?_
  refine H.aloadN s1_42 rfl rfl ?_
  refine H.iload s1_43 rfl ?_
  refine H.iconst s1_45 (v := (1 : Int32)) (by decide) ?_
  refine H.iadd s1_46 (w := (1 : Int32)) (by decide) ?_
  refine H.dup2 s1_47 rfl rfl ?_
  refine H.iaload s1_48 (i := 1) (j := 1) rfl (by decide) (v := (.int (0 : Int32))) rfl ?_
  refine H.aloadN s1_49 rfl rfl ?_
  refine H.iload s1_50 rfl ?_
  refine H.iaload s1_52 (i := 1) (j := 0) rfl (by decide) (v := (.int (0 : Int32))) rfl ?_
  refine H.iadd s1_53 (w := (0 : Int32)) (by decide) ?_
  refine H.iastore s1_54 (i := 1) (j := 1) rfl (by decide) (ltb rfl)  (A' := [.inr (.int, [(.int e0), (.int e1), (.int e2), (.int e3)]), .inr (.int, [(.int (0 : Int32)), (.int (0 : Int32))])]) rfl ?_
  refine H.iinc s1_55 rfl (w := (1 : Int32)) (by decide) (ls' := #[.val (.ref (n0 + 0)), .val (.int (0 : Int32)), .val (.int (1 : Int32)), .val (.ref (n0 + 1)), .val (.int (1 : Int32))]) rfl ?_
  refine H.goto s1_58 ?_
  refine H.iload s1_36 rfl ?_
  refine H.iloadN s1_38 rfl ?_
  refine H.icmpT s1_39 (show ¬ (1 : Int32) < (1 : Int32) by decide) ?_
  refine H.aloadN s1_61 rfl rfl ?_
  exact H.areturn s1_62 rfl rfl rfl rfl ⟨rfl, rfl⟩ (by decide) (by decide)

theorem s1_15 : Nx prog_8_method_2_code 15 (.aload_n 3) 1 16 := ⟨by decide +kernel, rfl⟩
theorem s1_16 : Nx prog_8_method_2_code 16 (.aload_n 0) 1 17 := ⟨by decide +kernel, rfl⟩
theorem s1_17 : Nx prog_8_method_2_code 17 (.iload 4) 2 19 := ⟨by decide +kernel, rfl⟩
theorem s1_19 : Nx prog_8_method_2_code 19 (.iaload) 1 20 := ⟨by decide +kernel, rfl⟩
theorem s1_20 : Nx prog_8_method_2_code 20 (.iconst 1) 1 21 := ⟨by decide +kernel, rfl⟩
theorem s1_21 : Nx prog_8_method_2_code 21 (.iadd) 1 22 := ⟨by decide +kernel, rfl⟩
theorem s1_22 : Nx prog_8_method_2_code 22 (.dup2) 1 23 := ⟨by decide +kernel, rfl⟩
theorem s1_23 : Nx prog_8_method_2_code 23 (.iaload) 1 24 := ⟨by decide +kernel, rfl⟩
theorem s1_24 : Nx prog_8_method_2_code 24 (.iconst 1) 1 25 := ⟨by decide +kernel, rfl⟩
theorem s1_25 : Nx prog_8_method_2_code 25 (.iadd) 1 26 := ⟨by decide +kernel, rfl⟩
theorem s1_26 : Nx prog_8_method_2_code 26 (.iastore) 1 27 := ⟨by decide +kernel, rfl⟩
theorem s1_27 : Nx prog_8_method_2_code 27 (.iinc 4 1) 3 30 := ⟨by decide +kernel, rfl⟩
theorem s1_30 : Bx prog_8_method_2_code 30 (.goto) 9 33 := ⟨(-21), by decide +kernel, by decide, by decide, rfl⟩
set_option maxRecDepth 65536 in
set_option maxHeartbeats 40000000 in
theorem a_2 (l : Launch) {Z : State} {a0 : Array Value} (hw : HW1 Z a0) (n0 : Nat) (e0 : Int32) (e1 : Int32) (e2 : Int32) (e3 : Int32) {N0 : Nat} (hN0 : e0.toInt = (N0 : Int)) (lN0 : N0 < 1) {N1 : Nat} (hN1 : e1.toInt = (N1 : Int)) (lN1 : N1 < 1) {N2 : Nat} (hN2 : e2.toInt = (N2 : Int)) (lN2 : N2 < 1) {N3 : Nat} (hN3 : e3.toInt = (N3 : Int)) (lN3 : N3 < 1) : Met l Z KT n0 y1 prog_8_method_2_code 5 (some (.array .int)) ({ frames := 0, cells := 1, slots := 2, locals := 0 } : Room) #[(.ref (n0 + 0)), (.int (1 : Int32)), (.int (1 : Int32))] [.inr (.int, [(.int e0), (.int e1), (.int e2), (.int e3)])] (Is (some (.ref (n0 + 1))) [.inr (.int, [(.int e0), (.int e1), (.int e2), (.int e3)]), .inr (.int, [(.int (own_c [(N0 + 1)] 0)), (.int (own_p [(N0 + 1)] 1))])]) := by
  refine Met.of (a0 := a0) (ls := #[.val (.ref (n0 + 0)), .val (.int (1 : Int32)), .val (.int (1 : Int32)), .unset, .unset]) (kok hw) (plainFor_of_name pn_4) (fun m => by first | (simp [entryFrame, mkF, argsToLocals, Value.category]; done) | rfl) (fun G H => ?_)
  refine H.iloadN s1_0 rfl ?_
  refine H.iconst s1_1 (v := (1 : Int32)) (by decide) ?_
  refine H.iadd s1_2 (w := (2 : Int32)) (by decide) ?_
  refine H.newarray s1_3 (ty := .int) rfl (k_3 hw) (N := 2) (cap := 2) (by decide) rfl (by decide) (by decide) (by first | rfl | simp) (by decide) (by decide) (i := 1) rfl (A' := [.inr (.int, [(.int e0), (.int e1), (.int e2), (.int e3)]), .inr (.int, [(.int (0 : Int32)), (.int (0 : Int32))])]) rfl (k' := 1) rfl (n' := 2) rfl ?_
  refine H.astoreN s1_5 rfl (ls' := #[.val (.ref (n0 + 0)), .val (.int (1 : Int32)), .val (.int (1 : Int32)), .val (.ref (n0 + 1)), .unset]) rfl ?_
  refine H.iconst s1_6 (v := (0 : Int32)) (by decide) ?_
  refine H.istore s1_7 (ls' := #[.val (.ref (n0 + 0)), .val (.int (1 : Int32)), .val (.int (1 : Int32)), .val (.ref (n0 + 1)), .val (.int (0 : Int32))]) rfl ?_
  refine H.iload s1_9 rfl ?_
  refine H.iloadN s1_11 rfl ?_
  refine H.icmpF s1_12 (show (0 : Int32) < (1 : Int32) by decide) ?_
  refine H.aloadN s1_15 rfl rfl ?_
  refine H.aloadN s1_16 rfl rfl ?_
  refine H.iload s1_17 rfl ?_
  refine H.iaload s1_19 (i := 0) (j := 0) rfl (by decide) (v := (.int e0)) rfl ?_
  refine H.iconst s1_20 (v := (1 : Int32)) (by decide) ?_
  refine H.iadd s1_21 rfl ?_
  refine H.dup2 s1_22 rfl rfl ?_
  refine H.iaload s1_23 (i := 1) (j := (N0 + 1)) rfl (own_e1 1 hN0 lN0 (by decide)) (v := (.int (own_c [] (N0 + 1)))) (own_get 2 [] (by omega)) ?_
  refine H.iconst s1_24 (v := (1 : Int32)) (by decide) ?_
  refine H.iadd s1_25 rfl ?_
  refine H.iastore s1_26 (i := 1) (j := (N0 + 1)) rfl (own_e1 1 hN0 lN0 (by decide)) (by show _ < 2; omega)  (A' := [.inr (.int, [(.int e0), (.int e1), (.int e2), (.int e3)]), .inr (.int, [(.int (own_c [(N0 + 1)] 0)), (.int (own_c [(N0 + 1)] 1))])]) (congrArg (fun z => ([.inr (.int, [(.int e0), (.int e1), (.int e2), (.int e3)]), .inr (.int, [(.int (0 : Int32)), (.int (0 : Int32))])] : List Ob).set 1 (.inr (.int, z))) (own_set 2 [] (by omega))) ?_
  refine H.iinc s1_27 rfl (w := (1 : Int32)) (by decide) (ls' := #[.val (.ref (n0 + 0)), .val (.int (1 : Int32)), .val (.int (1 : Int32)), .val (.ref (n0 + 1)), .val (.int (1 : Int32))]) rfl ?_
  refine H.goto s1_30 ?_
  refine H.iload s1_9 rfl ?_
  refine H.iloadN s1_11 rfl ?_
  refine H.icmpT s1_12 (show ¬ (1 : Int32) < (1 : Int32) by decide) ?_
  refine H.iconst s1_33 (v := (0 : Int32)) (by decide) ?_
  refine H.istore s1_34 (ls' := #[.val (.ref (n0 + 0)), .val (.int (1 : Int32)), .val (.int (1 : Int32)), .val (.ref (n0 + 1)), .val (.int (0 : Int32))]) rfl ?_
  refine H.iload s1_36 rfl ?_
  refine H.iloadN s1_38 rfl ?_
  refine H.icmpF s1_39 (show (0 : Int32) < (1 : Int32) by decide) ?_
  refine H.aloadN s1_42 rfl rfl ?_
  refine H.iload s1_43 rfl ?_
  refine H.iconst s1_45 (v := (1 : Int32)) (by decide) ?_
  refine H.iadd s1_46 (w := (1 : Int32)) (by decide) ?_
  refine H.dup2 s1_47 rfl rfl ?_
  refine H.iaload s1_48 (i := 1) (j := 1) rfl (by decide) (v := (.int (own_c [(N0 + 1)] 1))) rfl ?_
  refine H.aloadN s1_49 rfl rfl ?_
  refine H.iload s1_50 rfl ?_
  refine H.iaload s1_52 (i := 1) (j := 0) rfl (by decide) (v := (.int (own_c [(N0 + 1)] 0))) rfl ?_
  refine H.iadd s1_53 (w := (own_p [(N0 + 1)] 1)) rfl ?_
  refine H.iastore s1_54 (i := 1) (j := 1) rfl (by decide) (ltb rfl)  (A' := [.inr (.int, [(.int e0), (.int e1), (.int e2), (.int e3)]), .inr (.int, [(.int (own_c [(N0 + 1)] 0)), (.int (own_p [(N0 + 1)] 1))])]) rfl ?_
  refine H.iinc s1_55 rfl (w := (1 : Int32)) (by decide) (ls' := #[.val (.ref (n0 + 0)), .val (.int (1 : Int32)), .val (.int (1 : Int32)), .val (.ref (n0 + 1)), .val (.int (1 : Int32))]) rfl ?_
  refine H.goto s1_58 ?_
  refine H.iload s1_36 rfl ?_
  refine H.iloadN s1_38 rfl ?_
  refine H.icmpT s1_39 (show ¬ (1 : Int32) < (1 : Int32) by decide) ?_
  refine H.aloadN s1_61 rfl rfl ?_
  exact H.areturn s1_62 rfl rfl rfl rfl ⟨rfl, rfl⟩ (by decide) (by decide)


set_option maxRecDepth 65536 in
set_option maxHeartbeats 40000000 in
theorem a_3 (l : Launch) {Z : State} {a0 : Array Value} (hw : HW1 Z a0) (n0 : Nat) (e0 : Int32) (e1 : Int32) (e2 : Int32) (e3 : Int32) {N0 : Nat} (hN0 : e0.toInt = (N0 : Int)) (lN0 : N0 < 1) {N1 : Nat} (hN1 : e1.toInt = (N1 : Int)) (lN1 : N1 < 1) {N2 : Nat} (hN2 : e2.toInt = (N2 : Int)) (lN2 : N2 < 1) {N3 : Nat} (hN3 : e3.toInt = (N3 : Int)) (lN3 : N3 < 1) : Met l Z KT n0 y1 prog_8_method_2_code 5 (some (.array .int)) ({ frames := 0, cells := 1, slots := 2, locals := 0 } : Room) #[(.ref (n0 + 0)), (.int (2 : Int32)), (.int (1 : Int32))] [.inr (.int, [(.int e0), (.int e1), (.int e2), (.int e3)])] (Is (some (.ref (n0 + 1))) [.inr (.int, [(.int e0), (.int e1), (.int e2), (.int e3)]), .inr (.int, [(.int (own_c [(N1 + 1), (N0 + 1)] 0)), (.int (own_p [(N1 + 1), (N0 + 1)] 1))])]) := by
  refine Met.of (a0 := a0) (ls := #[.val (.ref (n0 + 0)), .val (.int (2 : Int32)), .val (.int (1 : Int32)), .unset, .unset]) (kok hw) (plainFor_of_name pn_4) (fun m => by first | (simp [entryFrame, mkF, argsToLocals, Value.category]; done) | rfl) (fun G H => ?_)
  refine H.iloadN s1_0 rfl ?_
  refine H.iconst s1_1 (v := (1 : Int32)) (by decide) ?_
  refine H.iadd s1_2 (w := (2 : Int32)) (by decide) ?_
  refine H.newarray s1_3 (ty := .int) rfl (k_3 hw) (N := 2) (cap := 2) (by decide) rfl (by decide) (by decide) (by first | rfl | simp) (by decide) (by decide) (i := 1) rfl (A' := [.inr (.int, [(.int e0), (.int e1), (.int e2), (.int e3)]), .inr (.int, [(.int (0 : Int32)), (.int (0 : Int32))])]) rfl (k' := 1) rfl (n' := 2) rfl ?_
  refine H.astoreN s1_5 rfl (ls' := #[.val (.ref (n0 + 0)), .val (.int (2 : Int32)), .val (.int (1 : Int32)), .val (.ref (n0 + 1)), .unset]) rfl ?_
  refine H.iconst s1_6 (v := (0 : Int32)) (by decide) ?_
  refine H.istore s1_7 (ls' := #[.val (.ref (n0 + 0)), .val (.int (2 : Int32)), .val (.int (1 : Int32)), .val (.ref (n0 + 1)), .val (.int (0 : Int32))]) rfl ?_
  refine H.iload s1_9 rfl ?_
  refine H.iloadN s1_11 rfl ?_
  refine H.icmpF s1_12 (show (0 : Int32) < (2 : Int32) by decide) ?_
  refine H.aloadN s1_15 rfl rfl ?_
  refine H.aloadN s1_16 rfl rfl ?_
  refine H.iload s1_17 rfl ?_
  refine H.iaload s1_19 (i := 0) (j := 0) rfl (by decide) (v := (.int e0)) rfl ?_
  refine H.iconst s1_20 (v := (1 : Int32)) (by decide) ?_
  refine H.iadd s1_21 rfl ?_
  refine H.dup2 s1_22 rfl rfl ?_
  refine H.iaload s1_23 (i := 1) (j := (N0 + 1)) rfl (own_e1 1 hN0 lN0 (by decide)) (v := (.int (own_c [] (N0 + 1)))) (own_get 2 [] (by omega)) ?_
  refine H.iconst s1_24 (v := (1 : Int32)) (by decide) ?_
  refine H.iadd s1_25 rfl ?_
  refine H.iastore s1_26 (i := 1) (j := (N0 + 1)) rfl (own_e1 1 hN0 lN0 (by decide)) (by show _ < 2; omega)  (A' := [.inr (.int, [(.int e0), (.int e1), (.int e2), (.int e3)]), .inr (.int, [(.int (own_c [(N0 + 1)] 0)), (.int (own_c [(N0 + 1)] 1))])]) (congrArg (fun z => ([.inr (.int, [(.int e0), (.int e1), (.int e2), (.int e3)]), .inr (.int, [(.int (0 : Int32)), (.int (0 : Int32))])] : List Ob).set 1 (.inr (.int, z))) (own_set 2 [] (by omega))) ?_
  refine H.iinc s1_27 rfl (w := (1 : Int32)) (by decide) (ls' := #[.val (.ref (n0 + 0)), .val (.int (2 : Int32)), .val (.int (1 : Int32)), .val (.ref (n0 + 1)), .val (.int (1 : Int32))]) rfl ?_
  refine H.goto s1_30 ?_
  refine H.iload s1_9 rfl ?_
  refine H.iloadN s1_11 rfl ?_
  refine H.icmpF s1_12 (show (1 : Int32) < (2 : Int32) by decide) ?_
  refine H.aloadN s1_15 rfl rfl ?_
  refine H.aloadN s1_16 rfl rfl ?_
  refine H.iload s1_17 rfl ?_
  refine H.iaload s1_19 (i := 0) (j := 1) rfl (by decide) (v := (.int e1)) rfl ?_
  refine H.iconst s1_20 (v := (1 : Int32)) (by decide) ?_
  refine H.iadd s1_21 rfl ?_
  refine H.dup2 s1_22 rfl rfl ?_
  refine H.iaload s1_23 (i := 1) (j := (N1 + 1)) rfl (own_e1 1 hN1 lN1 (by decide)) (v := (.int (own_c [(N0 + 1)] (N1 + 1)))) (own_get 2 [(N0 + 1)] (by omega)) ?_
  refine H.iconst s1_24 (v := (1 : Int32)) (by decide) ?_
  refine H.iadd s1_25 rfl ?_
  refine H.iastore s1_26 (i := 1) (j := (N1 + 1)) rfl (own_e1 1 hN1 lN1 (by decide)) (by show _ < 2; omega)  (A' := [.inr (.int, [(.int e0), (.int e1), (.int e2), (.int e3)]), .inr (.int, [(.int (own_c [(N1 + 1), (N0 + 1)] 0)), (.int (own_c [(N1 + 1), (N0 + 1)] 1))])]) (congrArg (fun z => ([.inr (.int, [(.int e0), (.int e1), (.int e2), (.int e3)]), .inr (.int, [(.int (own_c [(N0 + 1)] 0)), (.int (own_c [(N0 + 1)] 1))])] : List Ob).set 1 (.inr (.int, z))) (own_set 2 [(N0 + 1)] (by omega))) ?_
  refine H.iinc s1_27 rfl (w := (2 : Int32)) (by decide) (ls' := #[.val (.ref (n0 + 0)), .val (.int (2 : Int32)), .val (.int (1 : Int32)), .val (.ref (n0 + 1)), .val (.int (2 : Int32))]) rfl ?_
  refine H.goto s1_30 ?_
  refine H.iload s1_9 rfl ?_
  refine H.iloadN s1_11 rfl ?_
  refine H.icmpT s1_12 (show ¬ (2 : Int32) < (2 : Int32) by decide) ?_
  refine H.iconst s1_33 (v := (0 : Int32)) (by decide) ?_
  refine H.istore s1_34 (ls' := #[.val (.ref (n0 + 0)), .val (.int (2 : Int32)), .val (.int (1 : Int32)), .val (.ref (n0 + 1)), .val (.int (0 : Int32))]) rfl ?_
  refine H.iload s1_36 rfl ?_
  refine H.iloadN s1_38 rfl ?_
  refine H.icmpF s1_39 (show (0 : Int32) < (1 : Int32) by decide) ?_
  refine H.aloadN s1_42 rfl rfl ?_
  refine H.iload s1_43 rfl ?_
  refine H.iconst s1_45 (v := (1 : Int32)) (by decide) ?_
  refine H.iadd s1_46 (w := (1 : Int32)) (by decide) ?_
  refine H.dup2 s1_47 rfl rfl ?_
  refine H.iaload s1_48 (i := 1) (j := 1) rfl (by decide) (v := (.int (own_c [(N1 + 1), (N0 + 1)] 1))) rfl ?_
  refine H.aloadN s1_49 rfl rfl ?_
  refine H.iload s1_50 rfl ?_
  refine H.iaload s1_52 (i := 1) (j := 0) rfl (by decide) (v := (.int (own_c [(N1 + 1), (N0 + 1)] 0))) rfl ?_
  refine H.iadd s1_53 (w := (own_p [(N1 + 1), (N0 + 1)] 1)) rfl ?_
  refine H.iastore s1_54 (i := 1) (j := 1) rfl (by decide) (ltb rfl)  (A' := [.inr (.int, [(.int e0), (.int e1), (.int e2), (.int e3)]), .inr (.int, [(.int (own_c [(N1 + 1), (N0 + 1)] 0)), (.int (own_p [(N1 + 1), (N0 + 1)] 1))])]) rfl ?_
  refine H.iinc s1_55 rfl (w := (1 : Int32)) (by decide) (ls' := #[.val (.ref (n0 + 0)), .val (.int (2 : Int32)), .val (.int (1 : Int32)), .val (.ref (n0 + 1)), .val (.int (1 : Int32))]) rfl ?_
  refine H.goto s1_58 ?_
  refine H.iload s1_36 rfl ?_
  refine H.iloadN s1_38 rfl ?_
  refine H.icmpT s1_39 (show ¬ (1 : Int32) < (1 : Int32) by decide) ?_
  refine H.aloadN s1_61 rfl rfl ?_
  exact H.areturn s1_62 rfl rfl rfl rfl ⟨rfl, rfl⟩ (by decide) (by decide)


set_option maxRecDepth 65536 in
set_option maxHeartbeats 40000000 in
theorem a_4 (l : Launch) {Z : State} {a0 : Array Value} (hw : HW1 Z a0) (n0 : Nat) (e0 : Int32) (e1 : Int32) (e2 : Int32) (e3 : Int32) {N0 : Nat} (hN0 : e0.toInt = (N0 : Int)) (lN0 : N0 < 1) {N1 : Nat} (hN1 : e1.toInt = (N1 : Int)) (lN1 : N1 < 1) {N2 : Nat} (hN2 : e2.toInt = (N2 : Int)) (lN2 : N2 < 1) {N3 : Nat} (hN3 : e3.toInt = (N3 : Int)) (lN3 : N3 < 1) : Met l Z KT n0 y1 prog_8_method_2_code 5 (some (.array .int)) ({ frames := 0, cells := 1, slots := 2, locals := 0 } : Room) #[(.ref (n0 + 0)), (.int (3 : Int32)), (.int (1 : Int32))] [.inr (.int, [(.int e0), (.int e1), (.int e2), (.int e3)])] (Is (some (.ref (n0 + 1))) [.inr (.int, [(.int e0), (.int e1), (.int e2), (.int e3)]), .inr (.int, [(.int (own_c [(N2 + 1), (N1 + 1), (N0 + 1)] 0)), (.int (own_p [(N2 + 1), (N1 + 1), (N0 + 1)] 1))])]) := by
  refine Met.of (a0 := a0) (ls := #[.val (.ref (n0 + 0)), .val (.int (3 : Int32)), .val (.int (1 : Int32)), .unset, .unset]) (kok hw) (plainFor_of_name pn_4) (fun m => by first | (simp [entryFrame, mkF, argsToLocals, Value.category]; done) | rfl) (fun G H => ?_)
  refine H.iloadN s1_0 rfl ?_
  refine H.iconst s1_1 (v := (1 : Int32)) (by decide) ?_
  refine H.iadd s1_2 (w := (2 : Int32)) (by decide) ?_
  refine H.newarray s1_3 (ty := .int) rfl (k_3 hw) (N := 2) (cap := 2) (by decide) rfl (by decide) (by decide) (by first | rfl | simp) (by decide) (by decide) (i := 1) rfl (A' := [.inr (.int, [(.int e0), (.int e1), (.int e2), (.int e3)]), .inr (.int, [(.int (0 : Int32)), (.int (0 : Int32))])]) rfl (k' := 1) rfl (n' := 2) rfl ?_
  refine H.astoreN s1_5 rfl (ls' := #[.val (.ref (n0 + 0)), .val (.int (3 : Int32)), .val (.int (1 : Int32)), .val (.ref (n0 + 1)), .unset]) rfl ?_
  refine H.iconst s1_6 (v := (0 : Int32)) (by decide) ?_
  refine H.istore s1_7 (ls' := #[.val (.ref (n0 + 0)), .val (.int (3 : Int32)), .val (.int (1 : Int32)), .val (.ref (n0 + 1)), .val (.int (0 : Int32))]) rfl ?_
  refine H.iload s1_9 rfl ?_
  refine H.iloadN s1_11 rfl ?_
  refine H.icmpF s1_12 (show (0 : Int32) < (3 : Int32) by decide) ?_
  refine H.aloadN s1_15 rfl rfl ?_
  refine H.aloadN s1_16 rfl rfl ?_
  refine H.iload s1_17 rfl ?_
  refine H.iaload s1_19 (i := 0) (j := 0) rfl (by decide) (v := (.int e0)) rfl ?_
  refine H.iconst s1_20 (v := (1 : Int32)) (by decide) ?_
  refine H.iadd s1_21 rfl ?_
  refine H.dup2 s1_22 rfl rfl ?_
  refine H.iaload s1_23 (i := 1) (j := (N0 + 1)) rfl (own_e1 1 hN0 lN0 (by decide)) (v := (.int (own_c [] (N0 + 1)))) (own_get 2 [] (by omega)) ?_
  refine H.iconst s1_24 (v := (1 : Int32)) (by decide) ?_
  refine H.iadd s1_25 rfl ?_
  refine H.iastore s1_26 (i := 1) (j := (N0 + 1)) rfl (own_e1 1 hN0 lN0 (by decide)) (by show _ < 2; omega)  (A' := [.inr (.int, [(.int e0), (.int e1), (.int e2), (.int e3)]), .inr (.int, [(.int (own_c [(N0 + 1)] 0)), (.int (own_c [(N0 + 1)] 1))])]) (congrArg (fun z => ([.inr (.int, [(.int e0), (.int e1), (.int e2), (.int e3)]), .inr (.int, [(.int (0 : Int32)), (.int (0 : Int32))])] : List Ob).set 1 (.inr (.int, z))) (own_set 2 [] (by omega))) ?_
  refine H.iinc s1_27 rfl (w := (1 : Int32)) (by decide) (ls' := #[.val (.ref (n0 + 0)), .val (.int (3 : Int32)), .val (.int (1 : Int32)), .val (.ref (n0 + 1)), .val (.int (1 : Int32))]) rfl ?_
  refine H.goto s1_30 ?_
  refine H.iload s1_9 rfl ?_
  refine H.iloadN s1_11 rfl ?_
  refine H.icmpF s1_12 (show (1 : Int32) < (3 : Int32) by decide) ?_
  refine H.aloadN s1_15 rfl rfl ?_
  refine H.aloadN s1_16 rfl rfl ?_
  refine H.iload s1_17 rfl ?_
  refine H.iaload s1_19 (i := 0) (j := 1) rfl (by decide) (v := (.int e1)) rfl ?_
  refine H.iconst s1_20 (v := (1 : Int32)) (by decide) ?_
  refine H.iadd s1_21 rfl ?_
  refine H.dup2 s1_22 rfl rfl ?_
  refine H.iaload s1_23 (i := 1) (j := (N1 + 1)) rfl (own_e1 1 hN1 lN1 (by decide)) (v := (.int (own_c [(N0 + 1)] (N1 + 1)))) (own_get 2 [(N0 + 1)] (by omega)) ?_
  refine H.iconst s1_24 (v := (1 : Int32)) (by decide) ?_
  refine H.iadd s1_25 rfl ?_
  refine H.iastore s1_26 (i := 1) (j := (N1 + 1)) rfl (own_e1 1 hN1 lN1 (by decide)) (by show _ < 2; omega)  (A' := [.inr (.int, [(.int e0), (.int e1), (.int e2), (.int e3)]), .inr (.int, [(.int (own_c [(N1 + 1), (N0 + 1)] 0)), (.int (own_c [(N1 + 1), (N0 + 1)] 1))])]) (congrArg (fun z => ([.inr (.int, [(.int e0), (.int e1), (.int e2), (.int e3)]), .inr (.int, [(.int (own_c [(N0 + 1)] 0)), (.int (own_c [(N0 + 1)] 1))])] : List Ob).set 1 (.inr (.int, z))) (own_set 2 [(N0 + 1)] (by omega))) ?_
  refine H.iinc s1_27 rfl (w := (2 : Int32)) (by decide) (ls' := #[.val (.ref (n0 + 0)), .val (.int (3 : Int32)), .val (.int (1 : Int32)), .val (.ref (n0 + 1)), .val (.int (2 : Int32))]) rfl ?_
  refine H.goto s1_30 ?_
  refine H.iload s1_9 rfl ?_
  refine H.iloadN s1_11 rfl ?_
  refine H.icmpF s1_12 (show (2 : Int32) < (3 : Int32) by decide) ?_
  refine H.aloadN s1_15 rfl rfl ?_
  refine H.aloadN s1_16 rfl rfl ?_
  refine H.iload s1_17 rfl ?_
  refine H.iaload s1_19 (i := 0) (j := 2) rfl (by decide) (v := (.int e2)) rfl ?_
  refine H.iconst s1_20 (v := (1 : Int32)) (by decide) ?_
  refine H.iadd s1_21 rfl ?_
  refine H.dup2 s1_22 rfl rfl ?_
  refine H.iaload s1_23 (i := 1) (j := (N2 + 1)) rfl (own_e1 1 hN2 lN2 (by decide)) (v := (.int (own_c [(N1 + 1), (N0 + 1)] (N2 + 1)))) (own_get 2 [(N1 + 1), (N0 + 1)] (by omega)) ?_
  refine H.iconst s1_24 (v := (1 : Int32)) (by decide) ?_
  refine H.iadd s1_25 rfl ?_
  refine H.iastore s1_26 (i := 1) (j := (N2 + 1)) rfl (own_e1 1 hN2 lN2 (by decide)) (by show _ < 2; omega)  (A' := [.inr (.int, [(.int e0), (.int e1), (.int e2), (.int e3)]), .inr (.int, [(.int (own_c [(N2 + 1), (N1 + 1), (N0 + 1)] 0)), (.int (own_c [(N2 + 1), (N1 + 1), (N0 + 1)] 1))])]) (congrArg (fun z => ([.inr (.int, [(.int e0), (.int e1), (.int e2), (.int e3)]), .inr (.int, [(.int (own_c [(N1 + 1), (N0 + 1)] 0)), (.int (own_c [(N1 + 1), (N0 + 1)] 1))])] : List Ob).set 1 (.inr (.int, z))) (own_set 2 [(N1 + 1), (N0 + 1)] (by omega))) ?_
  refine H.iinc s1_27 rfl (w := (3 : Int32)) (by decide) (ls' := #[.val (.ref (n0 + 0)), .val (.int (3 : Int32)), .val (.int (1 : Int32)), .val (.ref (n0 + 1)), .val (.int (3 : Int32))]) rfl ?_
  refine H.goto s1_30 ?_
  refine H.iload s1_9 rfl ?_
  refine H.iloadN s1_11 rfl ?_
  refine H.icmpT s1_12 (show ¬ (3 : Int32) < (3 : Int32) by decide) ?_
  refine H.iconst s1_33 (v := (0 : Int32)) (by decide) ?_
  refine H.istore s1_34 (ls' := #[.val (.ref (n0 + 0)), .val (.int (3 : Int32)), .val (.int (1 : Int32)), .val (.ref (n0 + 1)), .val (.int (0 : Int32))]) rfl ?_
  refine H.iload s1_36 rfl ?_
  refine H.iloadN s1_38 rfl ?_
  refine H.icmpF s1_39 (show (0 : Int32) < (1 : Int32) by decide) ?_
  refine H.aloadN s1_42 rfl rfl ?_
  refine H.iload s1_43 rfl ?_
  refine H.iconst s1_45 (v := (1 : Int32)) (by decide) ?_
  refine H.iadd s1_46 (w := (1 : Int32)) (by decide) ?_
  refine H.dup2 s1_47 rfl rfl ?_
  refine H.iaload s1_48 (i := 1) (j := 1) rfl (by decide) (v := (.int (own_c [(N2 + 1), (N1 + 1), (N0 + 1)] 1))) rfl ?_
  refine H.aloadN s1_49 rfl rfl ?_
  refine H.iload s1_50 rfl ?_
  refine H.iaload s1_52 (i := 1) (j := 0) rfl (by decide) (v := (.int (own_c [(N2 + 1), (N1 + 1), (N0 + 1)] 0))) rfl ?_
  refine H.iadd s1_53 (w := (own_p [(N2 + 1), (N1 + 1), (N0 + 1)] 1)) rfl ?_
  refine H.iastore s1_54 (i := 1) (j := 1) rfl (by decide) (ltb rfl)  (A' := [.inr (.int, [(.int e0), (.int e1), (.int e2), (.int e3)]), .inr (.int, [(.int (own_c [(N2 + 1), (N1 + 1), (N0 + 1)] 0)), (.int (own_p [(N2 + 1), (N1 + 1), (N0 + 1)] 1))])]) rfl ?_
  refine H.iinc s1_55 rfl (w := (1 : Int32)) (by decide) (ls' := #[.val (.ref (n0 + 0)), .val (.int (3 : Int32)), .val (.int (1 : Int32)), .val (.ref (n0 + 1)), .val (.int (1 : Int32))]) rfl ?_
  refine H.goto s1_58 ?_
  refine H.iload s1_36 rfl ?_
  refine H.iloadN s1_38 rfl ?_
  refine H.icmpT s1_39 (show ¬ (1 : Int32) < (1 : Int32) by decide) ?_
  refine H.aloadN s1_61 rfl rfl ?_
  exact H.areturn s1_62 rfl rfl rfl rfl ⟨rfl, rfl⟩ (by decide) (by decide)


set_option maxRecDepth 65536 in
set_option maxHeartbeats 40000000 in
theorem a_5 (l : Launch) {Z : State} {a0 : Array Value} (hw : HW1 Z a0) (n0 : Nat) (e0 : Int32) (e1 : Int32) (e2 : Int32) (e3 : Int32) {N0 : Nat} (hN0 : e0.toInt = (N0 : Int)) (lN0 : N0 < 1) {N1 : Nat} (hN1 : e1.toInt = (N1 : Int)) (lN1 : N1 < 1) {N2 : Nat} (hN2 : e2.toInt = (N2 : Int)) (lN2 : N2 < 1) {N3 : Nat} (hN3 : e3.toInt = (N3 : Int)) (lN3 : N3 < 1) : Met l Z KT n0 y1 prog_8_method_2_code 5 (some (.array .int)) ({ frames := 0, cells := 1, slots := 2, locals := 0 } : Room) #[(.ref (n0 + 0)), (.int (4 : Int32)), (.int (1 : Int32))] [.inr (.int, [(.int e0), (.int e1), (.int e2), (.int e3)])] (Is (some (.ref (n0 + 1))) [.inr (.int, [(.int e0), (.int e1), (.int e2), (.int e3)]), .inr (.int, [(.int (own_c [(N3 + 1), (N2 + 1), (N1 + 1), (N0 + 1)] 0)), (.int (own_p [(N3 + 1), (N2 + 1), (N1 + 1), (N0 + 1)] 1))])]) := by
  refine Met.of (a0 := a0) (ls := #[.val (.ref (n0 + 0)), .val (.int (4 : Int32)), .val (.int (1 : Int32)), .unset, .unset]) (kok hw) (plainFor_of_name pn_4) (fun m => by first | (simp [entryFrame, mkF, argsToLocals, Value.category]; done) | rfl) (fun G H => ?_)
  refine H.iloadN s1_0 rfl ?_
  refine H.iconst s1_1 (v := (1 : Int32)) (by decide) ?_
  refine H.iadd s1_2 (w := (2 : Int32)) (by decide) ?_
  refine H.newarray s1_3 (ty := .int) rfl (k_3 hw) (N := 2) (cap := 2) (by decide) rfl (by decide) (by decide) (by first | rfl | simp) (by decide) (by decide) (i := 1) rfl (A' := [.inr (.int, [(.int e0), (.int e1), (.int e2), (.int e3)]), .inr (.int, [(.int (0 : Int32)), (.int (0 : Int32))])]) rfl (k' := 1) rfl (n' := 2) rfl ?_
  refine H.astoreN s1_5 rfl (ls' := #[.val (.ref (n0 + 0)), .val (.int (4 : Int32)), .val (.int (1 : Int32)), .val (.ref (n0 + 1)), .unset]) rfl ?_
  refine H.iconst s1_6 (v := (0 : Int32)) (by decide) ?_
  refine H.istore s1_7 (ls' := #[.val (.ref (n0 + 0)), .val (.int (4 : Int32)), .val (.int (1 : Int32)), .val (.ref (n0 + 1)), .val (.int (0 : Int32))]) rfl ?_
  refine H.iload s1_9 rfl ?_
  refine H.iloadN s1_11 rfl ?_
  refine H.icmpF s1_12 (show (0 : Int32) < (4 : Int32) by decide) ?_
  refine H.aloadN s1_15 rfl rfl ?_
  refine H.aloadN s1_16 rfl rfl ?_
  refine H.iload s1_17 rfl ?_
  refine H.iaload s1_19 (i := 0) (j := 0) rfl (by decide) (v := (.int e0)) rfl ?_
  refine H.iconst s1_20 (v := (1 : Int32)) (by decide) ?_
  refine H.iadd s1_21 rfl ?_
  refine H.dup2 s1_22 rfl rfl ?_
  refine H.iaload s1_23 (i := 1) (j := (N0 + 1)) rfl (own_e1 1 hN0 lN0 (by decide)) (v := (.int (own_c [] (N0 + 1)))) (own_get 2 [] (by omega)) ?_
  refine H.iconst s1_24 (v := (1 : Int32)) (by decide) ?_
  refine H.iadd s1_25 rfl ?_
  refine H.iastore s1_26 (i := 1) (j := (N0 + 1)) rfl (own_e1 1 hN0 lN0 (by decide)) (by show _ < 2; omega)  (A' := [.inr (.int, [(.int e0), (.int e1), (.int e2), (.int e3)]), .inr (.int, [(.int (own_c [(N0 + 1)] 0)), (.int (own_c [(N0 + 1)] 1))])]) (congrArg (fun z => ([.inr (.int, [(.int e0), (.int e1), (.int e2), (.int e3)]), .inr (.int, [(.int (0 : Int32)), (.int (0 : Int32))])] : List Ob).set 1 (.inr (.int, z))) (own_set 2 [] (by omega))) ?_
  refine H.iinc s1_27 rfl (w := (1 : Int32)) (by decide) (ls' := #[.val (.ref (n0 + 0)), .val (.int (4 : Int32)), .val (.int (1 : Int32)), .val (.ref (n0 + 1)), .val (.int (1 : Int32))]) rfl ?_
  refine H.goto s1_30 ?_
  refine H.iload s1_9 rfl ?_
  refine H.iloadN s1_11 rfl ?_
  refine H.icmpF s1_12 (show (1 : Int32) < (4 : Int32) by decide) ?_
  refine H.aloadN s1_15 rfl rfl ?_
  refine H.aloadN s1_16 rfl rfl ?_
  refine H.iload s1_17 rfl ?_
  refine H.iaload s1_19 (i := 0) (j := 1) rfl (by decide) (v := (.int e1)) rfl ?_
  refine H.iconst s1_20 (v := (1 : Int32)) (by decide) ?_
  refine H.iadd s1_21 rfl ?_
  refine H.dup2 s1_22 rfl rfl ?_
  refine H.iaload s1_23 (i := 1) (j := (N1 + 1)) rfl (own_e1 1 hN1 lN1 (by decide)) (v := (.int (own_c [(N0 + 1)] (N1 + 1)))) (own_get 2 [(N0 + 1)] (by omega)) ?_
  refine H.iconst s1_24 (v := (1 : Int32)) (by decide) ?_
  refine H.iadd s1_25 rfl ?_
  refine H.iastore s1_26 (i := 1) (j := (N1 + 1)) rfl (own_e1 1 hN1 lN1 (by decide)) (by show _ < 2; omega)  (A' := [.inr (.int, [(.int e0), (.int e1), (.int e2), (.int e3)]), .inr (.int, [(.int (own_c [(N1 + 1), (N0 + 1)] 0)), (.int (own_c [(N1 + 1), (N0 + 1)] 1))])]) (congrArg (fun z => ([.inr (.int, [(.int e0), (.int e1), (.int e2), (.int e3)]), .inr (.int, [(.int (own_c [(N0 + 1)] 0)), (.int (own_c [(N0 + 1)] 1))])] : List Ob).set 1 (.inr (.int, z))) (own_set 2 [(N0 + 1)] (by omega))) ?_
  refine H.iinc s1_27 rfl (w := (2 : Int32)) (by decide) (ls' := #[.val (.ref (n0 + 0)), .val (.int (4 : Int32)), .val (.int (1 : Int32)), .val (.ref (n0 + 1)), .val (.int (2 : Int32))]) rfl ?_
  refine H.goto s1_30 ?_
  refine H.iload s1_9 rfl ?_
  refine H.iloadN s1_11 rfl ?_
  refine H.icmpF s1_12 (show (2 : Int32) < (4 : Int32) by decide) ?_
  refine H.aloadN s1_15 rfl rfl ?_
  refine H.aloadN s1_16 rfl rfl ?_
  refine H.iload s1_17 rfl ?_
  refine H.iaload s1_19 (i := 0) (j := 2) rfl (by decide) (v := (.int e2)) rfl ?_
  refine H.iconst s1_20 (v := (1 : Int32)) (by decide) ?_
  refine H.iadd s1_21 rfl ?_
  refine H.dup2 s1_22 rfl rfl ?_
  refine H.iaload s1_23 (i := 1) (j := (N2 + 1)) rfl (own_e1 1 hN2 lN2 (by decide)) (v := (.int (own_c [(N1 + 1), (N0 + 1)] (N2 + 1)))) (own_get 2 [(N1 + 1), (N0 + 1)] (by omega)) ?_
  refine H.iconst s1_24 (v := (1 : Int32)) (by decide) ?_
  refine H.iadd s1_25 rfl ?_
  refine H.iastore s1_26 (i := 1) (j := (N2 + 1)) rfl (own_e1 1 hN2 lN2 (by decide)) (by show _ < 2; omega)  (A' := [.inr (.int, [(.int e0), (.int e1), (.int e2), (.int e3)]), .inr (.int, [(.int (own_c [(N2 + 1), (N1 + 1), (N0 + 1)] 0)), (.int (own_c [(N2 + 1), (N1 + 1), (N0 + 1)] 1))])]) (congrArg (fun z => ([.inr (.int, [(.int e0), (.int e1), (.int e2), (.int e3)]), .inr (.int, [(.int (own_c [(N1 + 1), (N0 + 1)] 0)), (.int (own_c [(N1 + 1), (N0 + 1)] 1))])] : List Ob).set 1 (.inr (.int, z))) (own_set 2 [(N1 + 1), (N0 + 1)] (by omega))) ?_
  refine H.iinc s1_27 rfl (w := (3 : Int32)) (by decide) (ls' := #[.val (.ref (n0 + 0)), .val (.int (4 : Int32)), .val (.int (1 : Int32)), .val (.ref (n0 + 1)), .val (.int (3 : Int32))]) rfl ?_
  refine H.goto s1_30 ?_
  refine H.iload s1_9 rfl ?_
  refine H.iloadN s1_11 rfl ?_
  refine H.icmpF s1_12 (show (3 : Int32) < (4 : Int32) by decide) ?_
  refine H.aloadN s1_15 rfl rfl ?_
  refine H.aloadN s1_16 rfl rfl ?_
  refine H.iload s1_17 rfl ?_
  refine H.iaload s1_19 (i := 0) (j := 3) rfl (by decide) (v := (.int e3)) rfl ?_
  refine H.iconst s1_20 (v := (1 : Int32)) (by decide) ?_
  refine H.iadd s1_21 rfl ?_
  refine H.dup2 s1_22 rfl rfl ?_
  refine H.iaload s1_23 (i := 1) (j := (N3 + 1)) rfl (own_e1 1 hN3 lN3 (by decide)) (v := (.int (own_c [(N2 + 1), (N1 + 1), (N0 + 1)] (N3 + 1)))) (own_get 2 [(N2 + 1), (N1 + 1), (N0 + 1)] (by omega)) ?_
  refine H.iconst s1_24 (v := (1 : Int32)) (by decide) ?_
  refine H.iadd s1_25 rfl ?_
  refine H.iastore s1_26 (i := 1) (j := (N3 + 1)) rfl (own_e1 1 hN3 lN3 (by decide)) (by show _ < 2; omega)  (A' := [.inr (.int, [(.int e0), (.int e1), (.int e2), (.int e3)]), .inr (.int, [(.int (own_c [(N3 + 1), (N2 + 1), (N1 + 1), (N0 + 1)] 0)), (.int (own_c [(N3 + 1), (N2 + 1), (N1 + 1), (N0 + 1)] 1))])]) (congrArg (fun z => ([.inr (.int, [(.int e0), (.int e1), (.int e2), (.int e3)]), .inr (.int, [(.int (own_c [(N2 + 1), (N1 + 1), (N0 + 1)] 0)), (.int (own_c [(N2 + 1), (N1 + 1), (N0 + 1)] 1))])] : List Ob).set 1 (.inr (.int, z))) (own_set 2 [(N2 + 1), (N1 + 1), (N0 + 1)] (by omega))) ?_
  refine H.iinc s1_27 rfl (w := (4 : Int32)) (by decide) (ls' := #[.val (.ref (n0 + 0)), .val (.int (4 : Int32)), .val (.int (1 : Int32)), .val (.ref (n0 + 1)), .val (.int (4 : Int32))]) rfl ?_
  refine H.goto s1_30 ?_
  refine H.iload s1_9 rfl ?_
  refine H.iloadN s1_11 rfl ?_
  refine H.icmpT s1_12 (show ¬ (4 : Int32) < (4 : Int32) by decide) ?_
  refine H.iconst s1_33 (v := (0 : Int32)) (by decide) ?_
  refine H.istore s1_34 (ls' := #[.val (.ref (n0 + 0)), .val (.int (4 : Int32)), .val (.int (1 : Int32)), .val (.ref (n0 + 1)), .val (.int (0 : Int32))]) rfl ?_
  refine H.iload s1_36 rfl ?_
  refine H.iloadN s1_38 rfl ?_
  refine H.icmpF s1_39 (show (0 : Int32) < (1 : Int32) by decide) ?_
  refine H.aloadN s1_42 rfl rfl ?_
  refine H.iload s1_43 rfl ?_
  refine H.iconst s1_45 (v := (1 : Int32)) (by decide) ?_
  refine H.iadd s1_46 (w := (1 : Int32)) (by decide) ?_
  refine H.dup2 s1_47 rfl rfl ?_
  refine H.iaload s1_48 (i := 1) (j := 1) rfl (by decide) (v := (.int (own_c [(N3 + 1), (N2 + 1), (N1 + 1), (N0 + 1)] 1))) rfl ?_
  refine H.aloadN s1_49 rfl rfl ?_
  refine H.iload s1_50 rfl ?_
  refine H.iaload s1_52 (i := 1) (j := 0) rfl (by decide) (v := (.int (own_c [(N3 + 1), (N2 + 1), (N1 + 1), (N0 + 1)] 0))) rfl ?_
  refine H.iadd s1_53 (w := (own_p [(N3 + 1), (N2 + 1), (N1 + 1), (N0 + 1)] 1)) rfl ?_
  refine H.iastore s1_54 (i := 1) (j := 1) rfl (by decide) (ltb rfl)  (A' := [.inr (.int, [(.int e0), (.int e1), (.int e2), (.int e3)]), .inr (.int, [(.int (own_c [(N3 + 1), (N2 + 1), (N1 + 1), (N0 + 1)] 0)), (.int (own_p [(N3 + 1), (N2 + 1), (N1 + 1), (N0 + 1)] 1))])]) rfl ?_
  refine H.iinc s1_55 rfl (w := (1 : Int32)) (by decide) (ls' := #[.val (.ref (n0 + 0)), .val (.int (4 : Int32)), .val (.int (1 : Int32)), .val (.ref (n0 + 1)), .val (.int (1 : Int32))]) rfl ?_
  refine H.goto s1_58 ?_
  refine H.iload s1_36 rfl ?_
  refine H.iloadN s1_38 rfl ?_
  refine H.icmpT s1_39 (show ¬ (1 : Int32) < (1 : Int32) by decide) ?_
  refine H.aloadN s1_61 rfl rfl ?_
  exact H.areturn s1_62 rfl rfl rfl rfl ⟨rfl, rfl⟩ (by decide) (by decide)


set_option maxRecDepth 65536 in
set_option maxHeartbeats 40000000 in
theorem a_6 (l : Launch) {Z : State} {a0 : Array Value} (hw : HW1 Z a0) (n0 : Nat) (e0 : Int32) (e1 : Int32) (e2 : Int32) (e3 : Int32) {N0 : Nat} (hN0 : e0.toInt = (N0 : Int)) (lN0 : N0 < 2) {N1 : Nat} (hN1 : e1.toInt = (N1 : Int)) (lN1 : N1 < 2) {N2 : Nat} (hN2 : e2.toInt = (N2 : Int)) (lN2 : N2 < 2) {N3 : Nat} (hN3 : e3.toInt = (N3 : Int)) (lN3 : N3 < 2) : Met l Z KT n0 y1 prog_8_method_2_code 5 (some (.array .int)) ({ frames := 0, cells := 1, slots := 3, locals := 0 } : Room) #[(.ref (n0 + 0)), (.int (0 : Int32)), (.int (2 : Int32))] [.inr (.int, [(.int e0), (.int e1), (.int e2), (.int e3)])] (Is (some (.ref (n0 + 1))) [.inr (.int, [(.int e0), (.int e1), (.int e2), (.int e3)]), .inr (.int, [(.int (0 : Int32)), (.int (0 : Int32)), (.int (0 : Int32))])]) := by
  refine Met.of (a0 := a0) (ls := #[.val (.ref (n0 + 0)), .val (.int (0 : Int32)), .val (.int (2 : Int32)), .unset, .unset]) (kok hw) (plainFor_of_name pn_4) (fun m => by first | (simp [entryFrame, mkF, argsToLocals, Value.category]; done) | rfl) (fun G H => ?_)
  refine H.iloadN s1_0 rfl ?_
  refine H.iconst s1_1 (v := (1 : Int32)) (by decide) ?_
  refine H.iadd s1_2 (w := (3 : Int32)) (by decide) ?_
  refine H.newarray s1_3 (ty := .int) rfl (k_3 hw) (N := 3) (cap := 3) (by decide) rfl (by decide) (by decide) (by first | rfl | simp) (by decide) (by decide) (i := 1) rfl (A' := [.inr (.int, [(.int e0), (.int e1), (.int e2), (.int e3)]), .inr (.int, [(.int (0 : Int32)), (.int (0 : Int32)), (.int (0 : Int32))])]) rfl (k' := 1) rfl (n' := 3) rfl ?_
  refine H.astoreN s1_5 rfl (ls' := #[.val (.ref (n0 + 0)), .val (.int (0 : Int32)), .val (.int (2 : Int32)), .val (.ref (n0 + 1)), .unset]) rfl ?_
  refine H.iconst s1_6 (v := (0 : Int32)) (by decide) ?_
  refine H.istore s1_7 (ls' := #[.val (.ref (n0 + 0)), .val (.int (0 : Int32)), .val (.int (2 : Int32)), .val (.ref (n0 + 1)), .val (.int (0 : Int32))]) rfl ?_
  refine H.iload s1_9 rfl ?_
  refine H.iloadN s1_11 rfl ?_
  refine H.icmpT s1_12 (show ¬ (0 : Int32) < (0 : Int32) by decide) ?_
  refine H.iconst s1_33 (v := (0 : Int32)) (by decide) ?_
  refine H.istore s1_34 (ls' := #[.val (.ref (n0 + 0)), .val (.int (0 : Int32)), .val (.int (2 : Int32)), .val (.ref (n0 + 1)), .val (.int (0 : Int32))]) rfl ?_
  refine H.iload s1_36 rfl ?_
  refine H.iloadN s1_38 rfl ?_
  refine H.icmpF s1_39 (show (0 : Int32) < (2 : Int32) by decide) ?_
  refine H.aloadN s1_42 rfl rfl ?_
  refine H.iload s1_43 rfl ?_
  refine H.iconst s1_45 (v := (1 : Int32)) (by decide) ?_
  refine H.iadd s1_46 (w := (1 : Int32)) (by decide) ?_
  refine H.dup2 s1_47 rfl rfl ?_
  refine H.iaload s1_48 (i := 1) (j := 1) rfl (by decide) (v := (.int (0 : Int32))) rfl ?_
  refine H.aloadN s1_49 rfl rfl ?_
  refine H.iload s1_50 rfl ?_
  refine H.iaload s1_52 (i := 1) (j := 0) rfl (by decide) (v := (.int (0 : Int32))) rfl ?_
  refine H.iadd s1_53 (w := (0 : Int32)) (by decide) ?_
  refine H.iastore s1_54 (i := 1) (j := 1) rfl (by decide) (ltb rfl)  (A' := [.inr (.int, [(.int e0), (.int e1), (.int e2), (.int e3)]), .inr (.int, [(.int (0 : Int32)), (.int (0 : Int32)), (.int (0 : Int32))])]) rfl ?_
  refine H.iinc s1_55 rfl (w := (1 : Int32)) (by decide) (ls' := #[.val (.ref (n0 + 0)), .val (.int (0 : Int32)), .val (.int (2 : Int32)), .val (.ref (n0 + 1)), .val (.int (1 : Int32))]) rfl ?_
  refine H.goto s1_58 ?_
  refine H.iload s1_36 rfl ?_
  refine H.iloadN s1_38 rfl ?_
  refine H.icmpF s1_39 (show (1 : Int32) < (2 : Int32) by decide) ?_
  refine H.aloadN s1_42 rfl rfl ?_
  refine H.iload s1_43 rfl ?_
  refine H.iconst s1_45 (v := (1 : Int32)) (by decide) ?_
  refine H.iadd s1_46 (w := (2 : Int32)) (by decide) ?_
  refine H.dup2 s1_47 rfl rfl ?_
  refine H.iaload s1_48 (i := 1) (j := 2) rfl (by decide) (v := (.int (0 : Int32))) rfl ?_
  refine H.aloadN s1_49 rfl rfl ?_
  refine H.iload s1_50 rfl ?_
  refine H.iaload s1_52 (i := 1) (j := 1) rfl (by decide) (v := (.int (0 : Int32))) rfl ?_
  refine H.iadd s1_53 (w := (0 : Int32)) (by decide) ?_
  refine H.iastore s1_54 (i := 1) (j := 2) rfl (by decide) (ltb rfl)  (A' := [.inr (.int, [(.int e0), (.int e1), (.int e2), (.int e3)]), .inr (.int, [(.int (0 : Int32)), (.int (0 : Int32)), (.int (0 : Int32))])]) rfl ?_
  refine H.iinc s1_55 rfl (w := (2 : Int32)) (by decide) (ls' := #[.val (.ref (n0 + 0)), .val (.int (0 : Int32)), .val (.int (2 : Int32)), .val (.ref (n0 + 1)), .val (.int (2 : Int32))]) rfl ?_
  refine H.goto s1_58 ?_
  refine H.iload s1_36 rfl ?_
  refine H.iloadN s1_38 rfl ?_
  refine H.icmpT s1_39 (show ¬ (2 : Int32) < (2 : Int32) by decide) ?_
  refine H.aloadN s1_61 rfl rfl ?_
  exact H.areturn s1_62 rfl rfl rfl rfl ⟨rfl, rfl⟩ (by decide) (by decide)


set_option maxRecDepth 65536 in
set_option maxHeartbeats 40000000 in
theorem a_7 (l : Launch) {Z : State} {a0 : Array Value} (hw : HW1 Z a0) (n0 : Nat) (e0 : Int32) (e1 : Int32) (e2 : Int32) (e3 : Int32) {N0 : Nat} (hN0 : e0.toInt = (N0 : Int)) (lN0 : N0 < 2) {N1 : Nat} (hN1 : e1.toInt = (N1 : Int)) (lN1 : N1 < 2) {N2 : Nat} (hN2 : e2.toInt = (N2 : Int)) (lN2 : N2 < 2) {N3 : Nat} (hN3 : e3.toInt = (N3 : Int)) (lN3 : N3 < 2) : Met l Z KT n0 y1 prog_8_method_2_code 5 (some (.array .int)) ({ frames := 0, cells := 1, slots := 3, locals := 0 } : Room) #[(.ref (n0 + 0)), (.int (1 : Int32)), (.int (2 : Int32))] [.inr (.int, [(.int e0), (.int e1), (.int e2), (.int e3)])] (Is (some (.ref (n0 + 1))) [.inr (.int, [(.int e0), (.int e1), (.int e2), (.int e3)]), .inr (.int, [(.int (own_c [(N0 + 1)] 0)), (.int (own_p [(N0 + 1)] 1)), (.int (own_p [(N0 + 1)] 2))])]) := by
  refine Met.of (a0 := a0) (ls := #[.val (.ref (n0 + 0)), .val (.int (1 : Int32)), .val (.int (2 : Int32)), .unset, .unset]) (kok hw) (plainFor_of_name pn_4) (fun m => by first | (simp [entryFrame, mkF, argsToLocals, Value.category]; done) | rfl) (fun G H => ?_)
  refine H.iloadN s1_0 rfl ?_
  refine H.iconst s1_1 (v := (1 : Int32)) (by decide) ?_
  refine H.iadd s1_2 (w := (3 : Int32)) (by decide) ?_
  refine H.newarray s1_3 (ty := .int) rfl (k_3 hw) (N := 3) (cap := 3) (by decide) rfl (by decide) (by decide) (by first | rfl | simp) (by decide) (by decide) (i := 1) rfl (A' := [.inr (.int, [(.int e0), (.int e1), (.int e2), (.int e3)]), .inr (.int, [(.int (0 : Int32)), (.int (0 : Int32)), (.int (0 : Int32))])]) rfl (k' := 1) rfl (n' := 3) rfl ?_
  refine H.astoreN s1_5 rfl (ls' := #[.val (.ref (n0 + 0)), .val (.int (1 : Int32)), .val (.int (2 : Int32)), .val (.ref (n0 + 1)), .unset]) rfl ?_
  refine H.iconst s1_6 (v := (0 : Int32)) (by decide) ?_
  refine H.istore s1_7 (ls' := #[.val (.ref (n0 + 0)), .val (.int (1 : Int32)), .val (.int (2 : Int32)), .val (.ref (n0 + 1)), .val (.int (0 : Int32))]) rfl ?_
  refine H.iload s1_9 rfl ?_
  refine H.iloadN s1_11 rfl ?_
  refine H.icmpF s1_12 (show (0 : Int32) < (1 : Int32) by decide) ?_
  refine H.aloadN s1_15 rfl rfl ?_
  refine H.aloadN s1_16 rfl rfl ?_
  refine H.iload s1_17 rfl ?_
  refine H.iaload s1_19 (i := 0) (j := 0) rfl (by decide) (v := (.int e0)) rfl ?_
  refine H.iconst s1_20 (v := (1 : Int32)) (by decide) ?_
  refine H.iadd s1_21 rfl ?_
  refine H.dup2 s1_22 rfl rfl ?_
  refine H.iaload s1_23 (i := 1) (j := (N0 + 1)) rfl (own_e1 2 hN0 lN0 (by decide)) (v := (.int (own_c [] (N0 + 1)))) (own_get 3 [] (by omega)) ?_
  refine H.iconst s1_24 (v := (1 : Int32)) (by decide) ?_
  refine H.iadd s1_25 rfl ?_
  refine H.iastore s1_26 (i := 1) (j := (N0 + 1)) rfl (own_e1 2 hN0 lN0 (by decide)) (by show _ < 3; omega)  (A' := [.inr (.int, [(.int e0), (.int e1), (.int e2), (.int e3)]), .inr (.int, [(.int (own_c [(N0 + 1)] 0)), (.int (own_c [(N0 + 1)] 1)), (.int (own_c [(N0 + 1)] 2))])]) (congrArg (fun z => ([.inr (.int, [(.int e0), (.int e1), (.int e2), (.int e3)]), .inr (.int, [(.int (0 : Int32)), (.int (0 : Int32)), (.int (0 : Int32))])] : List Ob).set 1 (.inr (.int, z))) (own_set 3 [] (by omega))) ?_
  refine H.iinc s1_27 rfl (w := (1 : Int32)) (by decide) (ls' := #[.val (.ref (n0 + 0)), .val (.int (1 : Int32)), .val (.int (2 : Int32)), .val (.ref (n0 + 1)), .val (.int (1 : Int32))]) rfl ?_
  refine H.goto s1_30 ?_
  refine H.iload s1_9 rfl ?_
  refine H.iloadN s1_11 rfl ?_
  refine H.icmpT s1_12 (show ¬ (1 : Int32) < (1 : Int32) by decide) ?_
  refine H.iconst s1_33 (v := (0 : Int32)) (by decide) ?_
  refine H.istore s1_34 (ls' := #[.val (.ref (n0 + 0)), .val (.int (1 : Int32)), .val (.int (2 : Int32)), .val (.ref (n0 + 1)), .val (.int (0 : Int32))]) rfl ?_
  refine H.iload s1_36 rfl ?_
  refine H.iloadN s1_38 rfl ?_
  refine H.icmpF s1_39 (show (0 : Int32) < (2 : Int32) by decide) ?_
  refine H.aloadN s1_42 rfl rfl ?_
  refine H.iload s1_43 rfl ?_
  refine H.iconst s1_45 (v := (1 : Int32)) (by decide) ?_
  refine H.iadd s1_46 (w := (1 : Int32)) (by decide) ?_
  refine H.dup2 s1_47 rfl rfl ?_
  refine H.iaload s1_48 (i := 1) (j := 1) rfl (by decide) (v := (.int (own_c [(N0 + 1)] 1))) rfl ?_
  refine H.aloadN s1_49 rfl rfl ?_
  refine H.iload s1_50 rfl ?_
  refine H.iaload s1_52 (i := 1) (j := 0) rfl (by decide) (v := (.int (own_c [(N0 + 1)] 0))) rfl ?_
  refine H.iadd s1_53 (w := (own_p [(N0 + 1)] 1)) rfl ?_
  refine H.iastore s1_54 (i := 1) (j := 1) rfl (by decide) (ltb rfl)  (A' := [.inr (.int, [(.int e0), (.int e1), (.int e2), (.int e3)]), .inr (.int, [(.int (own_c [(N0 + 1)] 0)), (.int (own_p [(N0 + 1)] 1)), (.int (own_c [(N0 + 1)] 2))])]) rfl ?_
  refine H.iinc s1_55 rfl (w := (1 : Int32)) (by decide) (ls' := #[.val (.ref (n0 + 0)), .val (.int (1 : Int32)), .val (.int (2 : Int32)), .val (.ref (n0 + 1)), .val (.int (1 : Int32))]) rfl ?_
  refine H.goto s1_58 ?_
  refine H.iload s1_36 rfl ?_
  refine H.iloadN s1_38 rfl ?_
  refine H.icmpF s1_39 (show (1 : Int32) < (2 : Int32) by decide) ?_
  refine H.aloadN s1_42 rfl rfl ?_
  refine H.iload s1_43 rfl ?_
  refine H.iconst s1_45 (v := (1 : Int32)) (by decide) ?_
  refine H.iadd s1_46 (w := (2 : Int32)) (by decide) ?_
  refine H.dup2 s1_47 rfl rfl ?_
  refine H.iaload s1_48 (i := 1) (j := 2) rfl (by decide) (v := (.int (own_c [(N0 + 1)] 2))) rfl ?_
  refine H.aloadN s1_49 rfl rfl ?_
  refine H.iload s1_50 rfl ?_
  refine H.iaload s1_52 (i := 1) (j := 1) rfl (by decide) (v := (.int (own_p [(N0 + 1)] 1))) rfl ?_
  refine H.iadd s1_53 (w := (own_p [(N0 + 1)] 2)) rfl ?_
  refine H.iastore s1_54 (i := 1) (j := 2) rfl (by decide) (ltb rfl)  (A' := [.inr (.int, [(.int e0), (.int e1), (.int e2), (.int e3)]), .inr (.int, [(.int (own_c [(N0 + 1)] 0)), (.int (own_p [(N0 + 1)] 1)), (.int (own_p [(N0 + 1)] 2))])]) rfl ?_
  refine H.iinc s1_55 rfl (w := (2 : Int32)) (by decide) (ls' := #[.val (.ref (n0 + 0)), .val (.int (1 : Int32)), .val (.int (2 : Int32)), .val (.ref (n0 + 1)), .val (.int (2 : Int32))]) rfl ?_
  refine H.goto s1_58 ?_
  refine H.iload s1_36 rfl ?_
  refine H.iloadN s1_38 rfl ?_
  refine H.icmpT s1_39 (show ¬ (2 : Int32) < (2 : Int32) by decide) ?_
  refine H.aloadN s1_61 rfl rfl ?_
  exact H.areturn s1_62 rfl rfl rfl rfl ⟨rfl, rfl⟩ (by decide) (by decide)


set_option maxRecDepth 65536 in
set_option maxHeartbeats 40000000 in
theorem a_8 (l : Launch) {Z : State} {a0 : Array Value} (hw : HW1 Z a0) (n0 : Nat) (e0 : Int32) (e1 : Int32) (e2 : Int32) (e3 : Int32) {N0 : Nat} (hN0 : e0.toInt = (N0 : Int)) (lN0 : N0 < 2) {N1 : Nat} (hN1 : e1.toInt = (N1 : Int)) (lN1 : N1 < 2) {N2 : Nat} (hN2 : e2.toInt = (N2 : Int)) (lN2 : N2 < 2) {N3 : Nat} (hN3 : e3.toInt = (N3 : Int)) (lN3 : N3 < 2) : Met l Z KT n0 y1 prog_8_method_2_code 5 (some (.array .int)) ({ frames := 0, cells := 1, slots := 3, locals := 0 } : Room) #[(.ref (n0 + 0)), (.int (2 : Int32)), (.int (2 : Int32))] [.inr (.int, [(.int e0), (.int e1), (.int e2), (.int e3)])] (Is (some (.ref (n0 + 1))) [.inr (.int, [(.int e0), (.int e1), (.int e2), (.int e3)]), .inr (.int, [(.int (own_c [(N1 + 1), (N0 + 1)] 0)), (.int (own_p [(N1 + 1), (N0 + 1)] 1)), (.int (own_p [(N1 + 1), (N0 + 1)] 2))])]) := by
  refine Met.of (a0 := a0) (ls := #[.val (.ref (n0 + 0)), .val (.int (2 : Int32)), .val (.int (2 : Int32)), .unset, .unset]) (kok hw) (plainFor_of_name pn_4) (fun m => by first | (simp [entryFrame, mkF, argsToLocals, Value.category]; done) | rfl) (fun G H => ?_)
  refine H.iloadN s1_0 rfl ?_
  refine H.iconst s1_1 (v := (1 : Int32)) (by decide) ?_
  refine H.iadd s1_2 (w := (3 : Int32)) (by decide) ?_
  refine H.newarray s1_3 (ty := .int) rfl (k_3 hw) (N := 3) (cap := 3) (by decide) rfl (by decide) (by decide) (by first | rfl | simp) (by decide) (by decide) (i := 1) rfl (A' := [.inr (.int, [(.int e0), (.int e1), (.int e2), (.int e3)]), .inr (.int, [(.int (0 : Int32)), (.int (0 : Int32)), (.int (0 : Int32))])]) rfl (k' := 1) rfl (n' := 3) rfl ?_
  refine H.astoreN s1_5 rfl (ls' := #[.val (.ref (n0 + 0)), .val (.int (2 : Int32)), .val (.int (2 : Int32)), .val (.ref (n0 + 1)), .unset]) rfl ?_
  refine H.iconst s1_6 (v := (0 : Int32)) (by decide) ?_
  refine H.istore s1_7 (ls' := #[.val (.ref (n0 + 0)), .val (.int (2 : Int32)), .val (.int (2 : Int32)), .val (.ref (n0 + 1)), .val (.int (0 : Int32))]) rfl ?_
  refine H.iload s1_9 rfl ?_
  refine H.iloadN s1_11 rfl ?_
  refine H.icmpF s1_12 (show (0 : Int32) < (2 : Int32) by decide) ?_
  refine H.aloadN s1_15 rfl rfl ?_
  refine H.aloadN s1_16 rfl rfl ?_
  refine H.iload s1_17 rfl ?_
  refine H.iaload s1_19 (i := 0) (j := 0) rfl (by decide) (v := (.int e0)) rfl ?_
  refine H.iconst s1_20 (v := (1 : Int32)) (by decide) ?_
  refine H.iadd s1_21 rfl ?_
  refine H.dup2 s1_22 rfl rfl ?_
  refine H.iaload s1_23 (i := 1) (j := (N0 + 1)) rfl (own_e1 2 hN0 lN0 (by decide)) (v := (.int (own_c [] (N0 + 1)))) (own_get 3 [] (by omega)) ?_
  refine H.iconst s1_24 (v := (1 : Int32)) (by decide) ?_
  refine H.iadd s1_25 rfl ?_
  refine H.iastore s1_26 (i := 1) (j := (N0 + 1)) rfl (own_e1 2 hN0 lN0 (by decide)) (by show _ < 3; omega)  (A' := [.inr (.int, [(.int e0), (.int e1), (.int e2), (.int e3)]), .inr (.int, [(.int (own_c [(N0 + 1)] 0)), (.int (own_c [(N0 + 1)] 1)), (.int (own_c [(N0 + 1)] 2))])]) (congrArg (fun z => ([.inr (.int, [(.int e0), (.int e1), (.int e2), (.int e3)]), .inr (.int, [(.int (0 : Int32)), (.int (0 : Int32)), (.int (0 : Int32))])] : List Ob).set 1 (.inr (.int, z))) (own_set 3 [] (by omega))) ?_
  refine H.iinc s1_27 rfl (w := (1 : Int32)) (by decide) (ls' := #[.val (.ref (n0 + 0)), .val (.int (2 : Int32)), .val (.int (2 : Int32)), .val (.ref (n0 + 1)), .val (.int (1 : Int32))]) rfl ?_
  refine H.goto s1_30 ?_
  refine H.iload s1_9 rfl ?_
  refine H.iloadN s1_11 rfl ?_
  refine H.icmpF s1_12 (show (1 : Int32) < (2 : Int32) by decide) ?_
  refine H.aloadN s1_15 rfl rfl ?_
  refine H.aloadN s1_16 rfl rfl ?_
  refine H.iload s1_17 rfl ?_
  refine H.iaload s1_19 (i := 0) (j := 1) rfl (by decide) (v := (.int e1)) rfl ?_
  refine H.iconst s1_20 (v := (1 : Int32)) (by decide) ?_
  refine H.iadd s1_21 rfl ?_
  refine H.dup2 s1_22 rfl rfl ?_
  refine H.iaload s1_23 (i := 1) (j := (N1 + 1)) rfl (own_e1 2 hN1 lN1 (by decide)) (v := (.int (own_c [(N0 + 1)] (N1 + 1)))) (own_get 3 [(N0 + 1)] (by omega)) ?_
  refine H.iconst s1_24 (v := (1 : Int32)) (by decide) ?_
  refine H.iadd s1_25 rfl ?_
  refine H.iastore s1_26 (i := 1) (j := (N1 + 1)) rfl (own_e1 2 hN1 lN1 (by decide)) (by show _ < 3; omega)  (A' := [.inr (.int, [(.int e0), (.int e1), (.int e2), (.int e3)]), .inr (.int, [(.int (own_c [(N1 + 1), (N0 + 1)] 0)), (.int (own_c [(N1 + 1), (N0 + 1)] 1)), (.int (own_c [(N1 + 1), (N0 + 1)] 2))])]) (congrArg (fun z => ([.inr (.int, [(.int e0), (.int e1), (.int e2), (.int e3)]), .inr (.int, [(.int (own_c [(N0 + 1)] 0)), (.int (own_c [(N0 + 1)] 1)), (.int (own_c [(N0 + 1)] 2))])] : List Ob).set 1 (.inr (.int, z))) (own_set 3 [(N0 + 1)] (by omega))) ?_
  refine H.iinc s1_27 rfl (w := (2 : Int32)) (by decide) (ls' := #[.val (.ref (n0 + 0)), .val (.int (2 : Int32)), .val (.int (2 : Int32)), .val (.ref (n0 + 1)), .val (.int (2 : Int32))]) rfl ?_
  refine H.goto s1_30 ?_
  refine H.iload s1_9 rfl ?_
  refine H.iloadN s1_11 rfl ?_
  refine H.icmpT s1_12 (show ¬ (2 : Int32) < (2 : Int32) by decide) ?_
  refine H.iconst s1_33 (v := (0 : Int32)) (by decide) ?_
  refine H.istore s1_34 (ls' := #[.val (.ref (n0 + 0)), .val (.int (2 : Int32)), .val (.int (2 : Int32)), .val (.ref (n0 + 1)), .val (.int (0 : Int32))]) rfl ?_
  refine H.iload s1_36 rfl ?_
  refine H.iloadN s1_38 rfl ?_
  refine H.icmpF s1_39 (show (0 : Int32) < (2 : Int32) by decide) ?_
  refine H.aloadN s1_42 rfl rfl ?_
  refine H.iload s1_43 rfl ?_
  refine H.iconst s1_45 (v := (1 : Int32)) (by decide) ?_
  refine H.iadd s1_46 (w := (1 : Int32)) (by decide) ?_
  refine H.dup2 s1_47 rfl rfl ?_
  refine H.iaload s1_48 (i := 1) (j := 1) rfl (by decide) (v := (.int (own_c [(N1 + 1), (N0 + 1)] 1))) rfl ?_
  refine H.aloadN s1_49 rfl rfl ?_
  refine H.iload s1_50 rfl ?_
  refine H.iaload s1_52 (i := 1) (j := 0) rfl (by decide) (v := (.int (own_c [(N1 + 1), (N0 + 1)] 0))) rfl ?_
  refine H.iadd s1_53 (w := (own_p [(N1 + 1), (N0 + 1)] 1)) rfl ?_
  refine H.iastore s1_54 (i := 1) (j := 1) rfl (by decide) (ltb rfl)  (A' := [.inr (.int, [(.int e0), (.int e1), (.int e2), (.int e3)]), .inr (.int, [(.int (own_c [(N1 + 1), (N0 + 1)] 0)), (.int (own_p [(N1 + 1), (N0 + 1)] 1)), (.int (own_c [(N1 + 1), (N0 + 1)] 2))])]) rfl ?_
  refine H.iinc s1_55 rfl (w := (1 : Int32)) (by decide) (ls' := #[.val (.ref (n0 + 0)), .val (.int (2 : Int32)), .val (.int (2 : Int32)), .val (.ref (n0 + 1)), .val (.int (1 : Int32))]) rfl ?_
  refine H.goto s1_58 ?_
  refine H.iload s1_36 rfl ?_
  refine H.iloadN s1_38 rfl ?_
  refine H.icmpF s1_39 (show (1 : Int32) < (2 : Int32) by decide) ?_
  refine H.aloadN s1_42 rfl rfl ?_
  refine H.iload s1_43 rfl ?_
  refine H.iconst s1_45 (v := (1 : Int32)) (by decide) ?_
  refine H.iadd s1_46 (w := (2 : Int32)) (by decide) ?_
  refine H.dup2 s1_47 rfl rfl ?_
  refine H.iaload s1_48 (i := 1) (j := 2) rfl (by decide) (v := (.int (own_c [(N1 + 1), (N0 + 1)] 2))) rfl ?_
  refine H.aloadN s1_49 rfl rfl ?_
  refine H.iload s1_50 rfl ?_
  refine H.iaload s1_52 (i := 1) (j := 1) rfl (by decide) (v := (.int (own_p [(N1 + 1), (N0 + 1)] 1))) rfl ?_
  refine H.iadd s1_53 (w := (own_p [(N1 + 1), (N0 + 1)] 2)) rfl ?_
  refine H.iastore s1_54 (i := 1) (j := 2) rfl (by decide) (ltb rfl)  (A' := [.inr (.int, [(.int e0), (.int e1), (.int e2), (.int e3)]), .inr (.int, [(.int (own_c [(N1 + 1), (N0 + 1)] 0)), (.int (own_p [(N1 + 1), (N0 + 1)] 1)), (.int (own_p [(N1 + 1), (N0 + 1)] 2))])]) rfl ?_
  refine H.iinc s1_55 rfl (w := (2 : Int32)) (by decide) (ls' := #[.val (.ref (n0 + 0)), .val (.int (2 : Int32)), .val (.int (2 : Int32)), .val (.ref (n0 + 1)), .val (.int (2 : Int32))]) rfl ?_
  refine H.goto s1_58 ?_
  refine H.iload s1_36 rfl ?_
  refine H.iloadN s1_38 rfl ?_
  refine H.icmpT s1_39 (show ¬ (2 : Int32) < (2 : Int32) by decide) ?_
  refine H.aloadN s1_61 rfl rfl ?_
  exact H.areturn s1_62 rfl rfl rfl rfl ⟨rfl, rfl⟩ (by decide) (by decide)


set_option maxRecDepth 65536 in
set_option maxHeartbeats 40000000 in
theorem a_9 (l : Launch) {Z : State} {a0 : Array Value} (hw : HW1 Z a0) (n0 : Nat) (e0 : Int32) (e1 : Int32) (e2 : Int32) (e3 : Int32) {N0 : Nat} (hN0 : e0.toInt = (N0 : Int)) (lN0 : N0 < 2) {N1 : Nat} (hN1 : e1.toInt = (N1 : Int)) (lN1 : N1 < 2) {N2 : Nat} (hN2 : e2.toInt = (N2 : Int)) (lN2 : N2 < 2) {N3 : Nat} (hN3 : e3.toInt = (N3 : Int)) (lN3 : N3 < 2) : Met l Z KT n0 y1 prog_8_method_2_code 5 (some (.array .int)) ({ frames := 0, cells := 1, slots := 3, locals := 0 } : Room) #[(.ref (n0 + 0)), (.int (3 : Int32)), (.int (2 : Int32))] [.inr (.int, [(.int e0), (.int e1), (.int e2), (.int e3)])] (Is (some (.ref (n0 + 1))) [.inr (.int, [(.int e0), (.int e1), (.int e2), (.int e3)]), .inr (.int, [(.int (own_c [(N2 + 1), (N1 + 1), (N0 + 1)] 0)), (.int (own_p [(N2 + 1), (N1 + 1), (N0 + 1)] 1)), (.int (own_p [(N2 + 1), (N1 + 1), (N0 + 1)] 2))])]) := by
  refine Met.of (a0 := a0) (ls := #[.val (.ref (n0 + 0)), .val (.int (3 : Int32)), .val (.int (2 : Int32)), .unset, .unset]) (kok hw) (plainFor_of_name pn_4) (fun m => by first | (simp [entryFrame, mkF, argsToLocals, Value.category]; done) | rfl) (fun G H => ?_)
  refine H.iloadN s1_0 rfl ?_
  refine H.iconst s1_1 (v := (1 : Int32)) (by decide) ?_
  refine H.iadd s1_2 (w := (3 : Int32)) (by decide) ?_
  refine H.newarray s1_3 (ty := .int) rfl (k_3 hw) (N := 3) (cap := 3) (by decide) rfl (by decide) (by decide) (by first | rfl | simp) (by decide) (by decide) (i := 1) rfl (A' := [.inr (.int, [(.int e0), (.int e1), (.int e2), (.int e3)]), .inr (.int, [(.int (0 : Int32)), (.int (0 : Int32)), (.int (0 : Int32))])]) rfl (k' := 1) rfl (n' := 3) rfl ?_
  refine H.astoreN s1_5 rfl (ls' := #[.val (.ref (n0 + 0)), .val (.int (3 : Int32)), .val (.int (2 : Int32)), .val (.ref (n0 + 1)), .unset]) rfl ?_
  refine H.iconst s1_6 (v := (0 : Int32)) (by decide) ?_
  refine H.istore s1_7 (ls' := #[.val (.ref (n0 + 0)), .val (.int (3 : Int32)), .val (.int (2 : Int32)), .val (.ref (n0 + 1)), .val (.int (0 : Int32))]) rfl ?_
  refine H.iload s1_9 rfl ?_
  refine H.iloadN s1_11 rfl ?_
  refine H.icmpF s1_12 (show (0 : Int32) < (3 : Int32) by decide) ?_
  refine H.aloadN s1_15 rfl rfl ?_
  refine H.aloadN s1_16 rfl rfl ?_
  refine H.iload s1_17 rfl ?_
  refine H.iaload s1_19 (i := 0) (j := 0) rfl (by decide) (v := (.int e0)) rfl ?_
  refine H.iconst s1_20 (v := (1 : Int32)) (by decide) ?_
  refine H.iadd s1_21 rfl ?_
  refine H.dup2 s1_22 rfl rfl ?_
  refine H.iaload s1_23 (i := 1) (j := (N0 + 1)) rfl (own_e1 2 hN0 lN0 (by decide)) (v := (.int (own_c [] (N0 + 1)))) (own_get 3 [] (by omega)) ?_
  refine H.iconst s1_24 (v := (1 : Int32)) (by decide) ?_
  refine H.iadd s1_25 rfl ?_
  refine H.iastore s1_26 (i := 1) (j := (N0 + 1)) rfl (own_e1 2 hN0 lN0 (by decide)) (by show _ < 3; omega)  (A' := [.inr (.int, [(.int e0), (.int e1), (.int e2), (.int e3)]), .inr (.int, [(.int (own_c [(N0 + 1)] 0)), (.int (own_c [(N0 + 1)] 1)), (.int (own_c [(N0 + 1)] 2))])]) (congrArg (fun z => ([.inr (.int, [(.int e0), (.int e1), (.int e2), (.int e3)]), .inr (.int, [(.int (0 : Int32)), (.int (0 : Int32)), (.int (0 : Int32))])] : List Ob).set 1 (.inr (.int, z))) (own_set 3 [] (by omega))) ?_
  refine H.iinc s1_27 rfl (w := (1 : Int32)) (by decide) (ls' := #[.val (.ref (n0 + 0)), .val (.int (3 : Int32)), .val (.int (2 : Int32)), .val (.ref (n0 + 1)), .val (.int (1 : Int32))]) rfl ?_
  refine H.goto s1_30 ?_
  refine H.iload s1_9 rfl ?_
  refine H.iloadN s1_11 rfl ?_
  refine H.icmpF s1_12 (show (1 : Int32) < (3 : Int32) by decide) ?_
  refine H.aloadN s1_15 rfl rfl ?_
  refine H.aloadN s1_16 rfl rfl ?_
  refine H.iload s1_17 rfl ?_
  refine H.iaload s1_19 (i := 0) (j := 1) rfl (by decide) (v := (.int e1)) rfl ?_
  refine H.iconst s1_20 (v := (1 : Int32)) (by decide) ?_
  refine H.iadd s1_21 rfl ?_
  refine H.dup2 s1_22 rfl rfl ?_
  refine H.iaload s1_23 (i := 1) (j := (N1 + 1)) rfl (own_e1 2 hN1 lN1 (by decide)) (v := (.int (own_c [(N0 + 1)] (N1 + 1)))) (own_get 3 [(N0 + 1)] (by omega)) ?_
  refine H.iconst s1_24 (v := (1 : Int32)) (by decide) ?_
  refine H.iadd s1_25 rfl ?_
  refine H.iastore s1_26 (i := 1) (j := (N1 + 1)) rfl (own_e1 2 hN1 lN1 (by decide)) (by show _ < 3; omega)  (A' := [.inr (.int, [(.int e0), (.int e1), (.int e2), (.int e3)]), .inr (.int, [(.int (own_c [(N1 + 1), (N0 + 1)] 0)), (.int (own_c [(N1 + 1), (N0 + 1)] 1)), (.int (own_c [(N1 + 1), (N0 + 1)] 2))])]) (congrArg (fun z => ([.inr (.int, [(.int e0), (.int e1), (.int e2), (.int e3)]), .inr (.int, [(.int (own_c [(N0 + 1)] 0)), (.int (own_c [(N0 + 1)] 1)), (.int (own_c [(N0 + 1)] 2))])] : List Ob).set 1 (.inr (.int, z))) (own_set 3 [(N0 + 1)] (by omega))) ?_
  refine H.iinc s1_27 rfl (w := (2 : Int32)) (by decide) (ls' := #[.val (.ref (n0 + 0)), .val (.int (3 : Int32)), .val (.int (2 : Int32)), .val (.ref (n0 + 1)), .val (.int (2 : Int32))]) rfl ?_
  refine H.goto s1_30 ?_
  refine H.iload s1_9 rfl ?_
  refine H.iloadN s1_11 rfl ?_
  refine H.icmpF s1_12 (show (2 : Int32) < (3 : Int32) by decide) ?_
  refine H.aloadN s1_15 rfl rfl ?_
  refine H.aloadN s1_16 rfl rfl ?_
  refine H.iload s1_17 rfl ?_
  refine H.iaload s1_19 (i := 0) (j := 2) rfl (by decide) (v := (.int e2)) rfl ?_
  refine H.iconst s1_20 (v := (1 : Int32)) (by decide) ?_
  refine H.iadd s1_21 rfl ?_
  refine H.dup2 s1_22 rfl rfl ?_
  refine H.iaload s1_23 (i := 1) (j := (N2 + 1)) rfl (own_e1 2 hN2 lN2 (by decide)) (v := (.int (own_c [(N1 + 1), (N0 + 1)] (N2 + 1)))) (own_get 3 [(N1 + 1), (N0 + 1)] (by omega)) ?_
  refine H.iconst s1_24 (v := (1 : Int32)) (by decide) ?_
  refine H.iadd s1_25 rfl ?_
  refine H.iastore s1_26 (i := 1) (j := (N2 + 1)) rfl (own_e1 2 hN2 lN2 (by decide)) (by show _ < 3; omega)  (A' := [.inr (.int, [(.int e0), (.int e1), (.int e2), (.int e3)]), .inr (.int, [(.int (own_c [(N2 + 1), (N1 + 1), (N0 + 1)] 0)), (.int (own_c [(N2 + 1), (N1 + 1), (N0 + 1)] 1)), (.int (own_c [(N2 + 1), (N1 + 1), (N0 + 1)] 2))])]) (congrArg (fun z => ([.inr (.int, [(.int e0), (.int e1), (.int e2), (.int e3)]), .inr (.int, [(.int (own_c [(N1 + 1), (N0 + 1)] 0)), (.int (own_c [(N1 + 1), (N0 + 1)] 1)), (.int (own_c [(N1 + 1), (N0 + 1)] 2))])] : List Ob).set 1 (.inr (.int, z))) (own_set 3 [(N1 + 1), (N0 + 1)] (by omega))) ?_
  refine H.iinc s1_27 rfl (w := (3 : Int32)) (by decide) (ls' := #[.val (.ref (n0 + 0)), .val (.int (3 : Int32)), .val (.int (2 : Int32)), .val (.ref (n0 + 1)), .val (.int (3 : Int32))]) rfl ?_
  refine H.goto s1_30 ?_
  refine H.iload s1_9 rfl ?_
  refine H.iloadN s1_11 rfl ?_
  refine H.icmpT s1_12 (show ¬ (3 : Int32) < (3 : Int32) by decide) ?_
  refine H.iconst s1_33 (v := (0 : Int32)) (by decide) ?_
  refine H.istore s1_34 (ls' := #[.val (.ref (n0 + 0)), .val (.int (3 : Int32)), .val (.int (2 : Int32)), .val (.ref (n0 + 1)), .val (.int (0 : Int32))]) rfl ?_
  refine H.iload s1_36 rfl ?_
  refine H.iloadN s1_38 rfl ?_
  refine H.icmpF s1_39 (show (0 : Int32) < (2 : Int32) by decide) ?_
  refine H.aloadN s1_42 rfl rfl ?_
  refine H.iload s1_43 rfl ?_
  refine H.iconst s1_45 (v := (1 : Int32)) (by decide) ?_
  refine H.iadd s1_46 (w := (1 : Int32)) (by decide) ?_
  refine H.dup2 s1_47 rfl rfl ?_
  refine H.iaload s1_48 (i := 1) (j := 1) rfl (by decide) (v := (.int (own_c [(N2 + 1), (N1 + 1), (N0 + 1)] 1))) rfl ?_
  refine H.aloadN s1_49 rfl rfl ?_
  refine H.iload s1_50 rfl ?_
  refine H.iaload s1_52 (i := 1) (j := 0) rfl (by decide) (v := (.int (own_c [(N2 + 1), (N1 + 1), (N0 + 1)] 0))) rfl ?_
  refine H.iadd s1_53 (w := (own_p [(N2 + 1), (N1 + 1), (N0 + 1)] 1)) rfl ?_
  refine H.iastore s1_54 (i := 1) (j := 1) rfl (by decide) (ltb rfl)  (A' := [.inr (.int, [(.int e0), (.int e1), (.int e2), (.int e3)]), .inr (.int, [(.int (own_c [(N2 + 1), (N1 + 1), (N0 + 1)] 0)), (.int (own_p [(N2 + 1), (N1 + 1), (N0 + 1)] 1)), (.int (own_c [(N2 + 1), (N1 + 1), (N0 + 1)] 2))])]) rfl ?_
  refine H.iinc s1_55 rfl (w := (1 : Int32)) (by decide) (ls' := #[.val (.ref (n0 + 0)), .val (.int (3 : Int32)), .val (.int (2 : Int32)), .val (.ref (n0 + 1)), .val (.int (1 : Int32))]) rfl ?_
  refine H.goto s1_58 ?_
  refine H.iload s1_36 rfl ?_
  refine H.iloadN s1_38 rfl ?_
  refine H.icmpF s1_39 (show (1 : Int32) < (2 : Int32) by decide) ?_
  refine H.aloadN s1_42 rfl rfl ?_
  refine H.iload s1_43 rfl ?_
  refine H.iconst s1_45 (v := (1 : Int32)) (by decide) ?_
  refine H.iadd s1_46 (w := (2 : Int32)) (by decide) ?_
  refine H.dup2 s1_47 rfl rfl ?_
  refine H.iaload s1_48 (i := 1) (j := 2) rfl (by decide) (v := (.int (own_c [(N2 + 1), (N1 + 1), (N0 + 1)] 2))) rfl ?_
  refine H.aloadN s1_49 rfl rfl ?_
  refine H.iload s1_50 rfl ?_
  refine H.iaload s1_52 (i := 1) (j := 1) rfl (by decide) (v := (.int (own_p [(N2 + 1), (N1 + 1), (N0 + 1)] 1))) rfl ?_
  refine H.iadd s1_53 (w := (own_p [(N2 + 1), (N1 + 1), (N0 + 1)] 2)) rfl ?_
  refine H.iastore s1_54 (i := 1) (j := 2) rfl (by decide) (ltb rfl)  (A' := [.inr (.int, [(.int e0), (.int e1), (.int e2), (.int e3)]), .inr (.int, [(.int (own_c [(N2 + 1), (N1 + 1), (N0 + 1)] 0)), (.int (own_p [(N2 + 1), (N1 + 1), (N0 + 1)] 1)), (.int (own_p [(N2 + 1), (N1 + 1), (N0 + 1)] 2))])]) rfl ?_
  refine H.iinc s1_55 rfl (w := (2 : Int32)) (by decide) (ls' := #[.val (.ref (n0 + 0)), .val (.int (3 : Int32)), .val (.int (2 : Int32)), .val (.ref (n0 + 1)), .val (.int (2 : Int32))]) rfl ?_
  refine H.goto s1_58 ?_
  refine H.iload s1_36 rfl ?_
  refine H.iloadN s1_38 rfl ?_
  refine H.icmpT s1_39 (show ¬ (2 : Int32) < (2 : Int32) by decide) ?_
  refine H.aloadN s1_61 rfl rfl ?_
  exact H.areturn s1_62 rfl rfl rfl rfl ⟨rfl, rfl⟩ (by decide) (by decide)


set_option maxRecDepth 65536 in
set_option maxHeartbeats 40000000 in
theorem a_10 (l : Launch) {Z : State} {a0 : Array Value} (hw : HW1 Z a0) (n0 : Nat) (e0 : Int32) (e1 : Int32) (e2 : Int32) (e3 : Int32) {N0 : Nat} (hN0 : e0.toInt = (N0 : Int)) (lN0 : N0 < 2) {N1 : Nat} (hN1 : e1.toInt = (N1 : Int)) (lN1 : N1 < 2) {N2 : Nat} (hN2 : e2.toInt = (N2 : Int)) (lN2 : N2 < 2) {N3 : Nat} (hN3 : e3.toInt = (N3 : Int)) (lN3 : N3 < 2) : Met l Z KT n0 y1 prog_8_method_2_code 5 (some (.array .int)) ({ frames := 0, cells := 1, slots := 3, locals := 0 } : Room) #[(.ref (n0 + 0)), (.int (4 : Int32)), (.int (2 : Int32))] [.inr (.int, [(.int e0), (.int e1), (.int e2), (.int e3)])] (Is (some (.ref (n0 + 1))) [.inr (.int, [(.int e0), (.int e1), (.int e2), (.int e3)]), .inr (.int, [(.int (own_c [(N3 + 1), (N2 + 1), (N1 + 1), (N0 + 1)] 0)), (.int (own_p [(N3 + 1), (N2 + 1), (N1 + 1), (N0 + 1)] 1)), (.int (own_p [(N3 + 1), (N2 + 1), (N1 + 1), (N0 + 1)] 2))])]) := by
  refine Met.of (a0 := a0) (ls := #[.val (.ref (n0 + 0)), .val (.int (4 : Int32)), .val (.int (2 : Int32)), .unset, .unset]) (kok hw) (plainFor_of_name pn_4) (fun m => by first | (simp [entryFrame, mkF, argsToLocals, Value.category]; done) | rfl) (fun G H => ?_)
  refine H.iloadN s1_0 rfl ?_
  refine H.iconst s1_1 (v := (1 : Int32)) (by decide) ?_
  refine H.iadd s1_2 (w := (3 : Int32)) (by decide) ?_
  refine H.newarray s1_3 (ty := .int) rfl (k_3 hw) (N := 3) (cap := 3) (by decide) rfl (by decide) (by decide) (by first | rfl | simp) (by decide) (by decide) (i := 1) rfl (A' := [.inr (.int, [(.int e0), (.int e1), (.int e2), (.int e3)]), .inr (.int, [(.int (0 : Int32)), (.int (0 : Int32)), (.int (0 : Int32))])]) rfl (k' := 1) rfl (n' := 3) rfl ?_
  refine H.astoreN s1_5 rfl (ls' := #[.val (.ref (n0 + 0)), .val (.int (4 : Int32)), .val (.int (2 : Int32)), .val (.ref (n0 + 1)), .unset]) rfl ?_
  refine H.iconst s1_6 (v := (0 : Int32)) (by decide) ?_
  refine H.istore s1_7 (ls' := #[.val (.ref (n0 + 0)), .val (.int (4 : Int32)), .val (.int (2 : Int32)), .val (.ref (n0 + 1)), .val (.int (0 : Int32))]) rfl ?_
  refine H.iload s1_9 rfl ?_
  refine H.iloadN s1_11 rfl ?_
  refine H.icmpF s1_12 (show (0 : Int32) < (4 : Int32) by decide) ?_
  refine H.aloadN s1_15 rfl rfl ?_
  refine H.aloadN s1_16 rfl rfl ?_
  refine H.iload s1_17 rfl ?_
  refine H.iaload s1_19 (i := 0) (j := 0) rfl (by decide) (v := (.int e0)) rfl ?_
  refine H.iconst s1_20 (v := (1 : Int32)) (by decide) ?_
  refine H.iadd s1_21 rfl ?_
  refine H.dup2 s1_22 rfl rfl ?_
  refine H.iaload s1_23 (i := 1) (j := (N0 + 1)) rfl (own_e1 2 hN0 lN0 (by decide)) (v := (.int (own_c [] (N0 + 1)))) (own_get 3 [] (by omega)) ?_
  refine H.iconst s1_24 (v := (1 : Int32)) (by decide) ?_
  refine H.iadd s1_25 rfl ?_
  refine H.iastore s1_26 (i := 1) (j := (N0 + 1)) rfl (own_e1 2 hN0 lN0 (by decide)) (by show _ < 3; omega)  (A' := [.inr (.int, [(.int e0), (.int e1), (.int e2), (.int e3)]), .inr (.int, [(.int (own_c [(N0 + 1)] 0)), (.int (own_c [(N0 + 1)] 1)), (.int (own_c [(N0 + 1)] 2))])]) (congrArg (fun z => ([.inr (.int, [(.int e0), (.int e1), (.int e2), (.int e3)]), .inr (.int, [(.int (0 : Int32)), (.int (0 : Int32)), (.int (0 : Int32))])] : List Ob).set 1 (.inr (.int, z))) (own_set 3 [] (by omega))) ?_
  refine H.iinc s1_27 rfl (w := (1 : Int32)) (by decide) (ls' := #[.val (.ref (n0 + 0)), .val (.int (4 : Int32)), .val (.int (2 : Int32)), .val (.ref (n0 + 1)), .val (.int (1 : Int32))]) rfl ?_
  refine H.goto s1_30 ?_
  refine H.iload s1_9 rfl ?_
  refine H.iloadN s1_11 rfl ?_
  refine H.icmpF s1_12 (show (1 : Int32) < (4 : Int32) by decide) ?_
  refine H.aloadN s1_15 rfl rfl ?_
  refine H.aloadN s1_16 rfl rfl ?_
  refine H.iload s1_17 rfl ?_
  refine H.iaload s1_19 (i := 0) (j := 1) rfl (by decide) (v := (.int e1)) rfl ?_
  refine H.iconst s1_20 (v := (1 : Int32)) (by decide) ?_
  refine H.iadd s1_21 rfl ?_
  refine H.dup2 s1_22 rfl rfl ?_
  refine H.iaload s1_23 (i := 1) (j := (N1 + 1)) rfl (own_e1 2 hN1 lN1 (by decide)) (v := (.int (own_c [(N0 + 1)] (N1 + 1)))) (own_get 3 [(N0 + 1)] (by omega)) ?_
  refine H.iconst s1_24 (v := (1 : Int32)) (by decide) ?_
  refine H.iadd s1_25 rfl ?_
  refine H.iastore s1_26 (i := 1) (j := (N1 + 1)) rfl (own_e1 2 hN1 lN1 (by decide)) (by show _ < 3; omega)  (A' := [.inr (.int, [(.int e0), (.int e1), (.int e2), (.int e3)]), .inr (.int, [(.int (own_c [(N1 + 1), (N0 + 1)] 0)), (.int (own_c [(N1 + 1), (N0 + 1)] 1)), (.int (own_c [(N1 + 1), (N0 + 1)] 2))])]) (congrArg (fun z => ([.inr (.int, [(.int e0), (.int e1), (.int e2), (.int e3)]), .inr (.int, [(.int (own_c [(N0 + 1)] 0)), (.int (own_c [(N0 + 1)] 1)), (.int (own_c [(N0 + 1)] 2))])] : List Ob).set 1 (.inr (.int, z))) (own_set 3 [(N0 + 1)] (by omega))) ?_
  refine H.iinc s1_27 rfl (w := (2 : Int32)) (by decide) (ls' := #[.val (.ref (n0 + 0)), .val (.int (4 : Int32)), .val (.int (2 : Int32)), .val (.ref (n0 + 1)), .val (.int (2 : Int32))]) rfl ?_
  refine H.goto s1_30 ?_
  refine H.iload s1_9 rfl ?_
  refine H.iloadN s1_11 rfl ?_
  refine H.icmpF s1_12 (show (2 : Int32) < (4 : Int32) by decide) ?_
  refine H.aloadN s1_15 rfl rfl ?_
  refine H.aloadN s1_16 rfl rfl ?_
  refine H.iload s1_17 rfl ?_
  refine H.iaload s1_19 (i := 0) (j := 2) rfl (by decide) (v := (.int e2)) rfl ?_
  refine H.iconst s1_20 (v := (1 : Int32)) (by decide) ?_
  refine H.iadd s1_21 rfl ?_
  refine H.dup2 s1_22 rfl rfl ?_
  refine H.iaload s1_23 (i := 1) (j := (N2 + 1)) rfl (own_e1 2 hN2 lN2 (by decide)) (v := (.int (own_c [(N1 + 1), (N0 + 1)] (N2 + 1)))) (own_get 3 [(N1 + 1), (N0 + 1)] (by omega)) ?_
  refine H.iconst s1_24 (v := (1 : Int32)) (by decide) ?_
  refine H.iadd s1_25 rfl ?_
  refine H.iastore s1_26 (i := 1) (j := (N2 + 1)) rfl (own_e1 2 hN2 lN2 (by decide)) (by show _ < 3; omega)  (A' := [.inr (.int, [(.int e0), (.int e1), (.int e2), (.int e3)]), .inr (.int, [(.int (own_c [(N2 + 1), (N1 + 1), (N0 + 1)] 0)), (.int (own_c [(N2 + 1), (N1 + 1), (N0 + 1)] 1)), (.int (own_c [(N2 + 1), (N1 + 1), (N0 + 1)] 2))])]) (congrArg (fun z => ([.inr (.int, [(.int e0), (.int e1), (.int e2), (.int e3)]), .inr (.int, [(.int (own_c [(N1 + 1), (N0 + 1)] 0)), (.int (own_c [(N1 + 1), (N0 + 1)] 1)), (.int (own_c [(N1 + 1), (N0 + 1)] 2))])] : List Ob).set 1 (.inr (.int, z))) (own_set 3 [(N1 + 1), (N0 + 1)] (by omega))) ?_
  refine H.iinc s1_27 rfl (w := (3 : Int32)) (by decide) (ls' := #[.val (.ref (n0 + 0)), .val (.int (4 : Int32)), .val (.int (2 : Int32)), .val (.ref (n0 + 1)), .val (.int (3 : Int32))]) rfl ?_
  refine H.goto s1_30 ?_
  refine H.iload s1_9 rfl ?_
  refine H.iloadN s1_11 rfl ?_
  refine H.icmpF s1_12 (show (3 : Int32) < (4 : Int32) by decide) ?_
  refine H.aloadN s1_15 rfl rfl ?_
  refine H.aloadN s1_16 rfl rfl ?_
  refine H.iload s1_17 rfl ?_
  refine H.iaload s1_19 (i := 0) (j := 3) rfl (by decide) (v := (.int e3)) rfl ?_
  refine H.iconst s1_20 (v := (1 : Int32)) (by decide) ?_
  refine H.iadd s1_21 rfl ?_
  refine H.dup2 s1_22 rfl rfl ?_
  refine H.iaload s1_23 (i := 1) (j := (N3 + 1)) rfl (own_e1 2 hN3 lN3 (by decide)) (v := (.int (own_c [(N2 + 1), (N1 + 1), (N0 + 1)] (N3 + 1)))) (own_get 3 [(N2 + 1), (N1 + 1), (N0 + 1)] (by omega)) ?_
  refine H.iconst s1_24 (v := (1 : Int32)) (by decide) ?_
  refine H.iadd s1_25 rfl ?_
  refine H.iastore s1_26 (i := 1) (j := (N3 + 1)) rfl (own_e1 2 hN3 lN3 (by decide)) (by show _ < 3; omega)  (A' := [.inr (.int, [(.int e0), (.int e1), (.int e2), (.int e3)]), .inr (.int, [(.int (own_c [(N3 + 1), (N2 + 1), (N1 + 1), (N0 + 1)] 0)), (.int (own_c [(N3 + 1), (N2 + 1), (N1 + 1), (N0 + 1)] 1)), (.int (own_c [(N3 + 1), (N2 + 1), (N1 + 1), (N0 + 1)] 2))])]) (congrArg (fun z => ([.inr (.int, [(.int e0), (.int e1), (.int e2), (.int e3)]), .inr (.int, [(.int (own_c [(N2 + 1), (N1 + 1), (N0 + 1)] 0)), (.int (own_c [(N2 + 1), (N1 + 1), (N0 + 1)] 1)), (.int (own_c [(N2 + 1), (N1 + 1), (N0 + 1)] 2))])] : List Ob).set 1 (.inr (.int, z))) (own_set 3 [(N2 + 1), (N1 + 1), (N0 + 1)] (by omega))) ?_
  refine H.iinc s1_27 rfl (w := (4 : Int32)) (by decide) (ls' := #[.val (.ref (n0 + 0)), .val (.int (4 : Int32)), .val (.int (2 : Int32)), .val (.ref (n0 + 1)), .val (.int (4 : Int32))]) rfl ?_
  refine H.goto s1_30 ?_
  refine H.iload s1_9 rfl ?_
  refine H.iloadN s1_11 rfl ?_
  refine H.icmpT s1_12 (show ¬ (4 : Int32) < (4 : Int32) by decide) ?_
  refine H.iconst s1_33 (v := (0 : Int32)) (by decide) ?_
  refine H.istore s1_34 (ls' := #[.val (.ref (n0 + 0)), .val (.int (4 : Int32)), .val (.int (2 : Int32)), .val (.ref (n0 + 1)), .val (.int (0 : Int32))]) rfl ?_
  refine H.iload s1_36 rfl ?_
  refine H.iloadN s1_38 rfl ?_
  refine H.icmpF s1_39 (show (0 : Int32) < (2 : Int32) by decide) ?_
  refine H.aloadN s1_42 rfl rfl ?_
  refine H.iload s1_43 rfl ?_
  refine H.iconst s1_45 (v := (1 : Int32)) (by decide) ?_
  refine H.iadd s1_46 (w := (1 : Int32)) (by decide) ?_
  refine H.dup2 s1_47 rfl rfl ?_
  refine H.iaload s1_48 (i := 1) (j := 1) rfl (by decide) (v := (.int (own_c [(N3 + 1), (N2 + 1), (N1 + 1), (N0 + 1)] 1))) rfl ?_
  refine H.aloadN s1_49 rfl rfl ?_
  refine H.iload s1_50 rfl ?_
  refine H.iaload s1_52 (i := 1) (j := 0) rfl (by decide) (v := (.int (own_c [(N3 + 1), (N2 + 1), (N1 + 1), (N0 + 1)] 0))) rfl ?_
  refine H.iadd s1_53 (w := (own_p [(N3 + 1), (N2 + 1), (N1 + 1), (N0 + 1)] 1)) rfl ?_
  refine H.iastore s1_54 (i := 1) (j := 1) rfl (by decide) (ltb rfl)  (A' := [.inr (.int, [(.int e0), (.int e1), (.int e2), (.int e3)]), .inr (.int, [(.int (own_c [(N3 + 1), (N2 + 1), (N1 + 1), (N0 + 1)] 0)), (.int (own_p [(N3 + 1), (N2 + 1), (N1 + 1), (N0 + 1)] 1)), (.int (own_c [(N3 + 1), (N2 + 1), (N1 + 1), (N0 + 1)] 2))])]) rfl ?_
  refine H.iinc s1_55 rfl (w := (1 : Int32)) (by decide) (ls' := #[.val (.ref (n0 + 0)), .val (.int (4 : Int32)), .val (.int (2 : Int32)), .val (.ref (n0 + 1)), .val (.int (1 : Int32))]) rfl ?_
  refine H.goto s1_58 ?_
  refine H.iload s1_36 rfl ?_
  refine H.iloadN s1_38 rfl ?_
  refine H.icmpF s1_39 (show (1 : Int32) < (2 : Int32) by decide) ?_
  refine H.aloadN s1_42 rfl rfl ?_
  refine H.iload s1_43 rfl ?_
  refine H.iconst s1_45 (v := (1 : Int32)) (by decide) ?_
  refine H.iadd s1_46 (w := (2 : Int32)) (by decide) ?_
  refine H.dup2 s1_47 rfl rfl ?_
  refine H.iaload s1_48 (i := 1) (j := 2) rfl (by decide) (v := (.int (own_c [(N3 + 1), (N2 + 1), (N1 + 1), (N0 + 1)] 2))) rfl ?_
  refine H.aloadN s1_49 rfl rfl ?_
  refine H.iload s1_50 rfl ?_
  refine H.iaload s1_52 (i := 1) (j := 1) rfl (by decide) (v := (.int (own_p [(N3 + 1), (N2 + 1), (N1 + 1), (N0 + 1)] 1))) rfl ?_
  refine H.iadd s1_53 (w := (own_p [(N3 + 1), (N2 + 1), (N1 + 1), (N0 + 1)] 2)) rfl ?_
  refine H.iastore s1_54 (i := 1) (j := 2) rfl (by decide) (ltb rfl)  (A' := [.inr (.int, [(.int e0), (.int e1), (.int e2), (.int e3)]), .inr (.int, [(.int (own_c [(N3 + 1), (N2 + 1), (N1 + 1), (N0 + 1)] 0)), (.int (own_p [(N3 + 1), (N2 + 1), (N1 + 1), (N0 + 1)] 1)), (.int (own_p [(N3 + 1), (N2 + 1), (N1 + 1), (N0 + 1)] 2))])]) rfl ?_
  refine H.iinc s1_55 rfl (w := (2 : Int32)) (by decide) (ls' := #[.val (.ref (n0 + 0)), .val (.int (4 : Int32)), .val (.int (2 : Int32)), .val (.ref (n0 + 1)), .val (.int (2 : Int32))]) rfl ?_
  refine H.goto s1_58 ?_
  refine H.iload s1_36 rfl ?_
  refine H.iloadN s1_38 rfl ?_
  refine H.icmpT s1_39 (show ¬ (2 : Int32) < (2 : Int32) by decide) ?_
  refine H.aloadN s1_61 rfl rfl ?_
  exact H.areturn s1_62 rfl rfl rfl rfl ⟨rfl, rfl⟩ (by decide) (by decide)


set_option maxRecDepth 65536 in
set_option maxHeartbeats 40000000 in
theorem a_11 (l : Launch) {Z : State} {a0 : Array Value} (hw : HW1 Z a0) (n0 : Nat) (e0 : Int32) (e1 : Int32) (e2 : Int32) (e3 : Int32) {N0 : Nat} (hN0 : e0.toInt = (N0 : Int)) (lN0 : N0 < 3) {N1 : Nat} (hN1 : e1.toInt = (N1 : Int)) (lN1 : N1 < 3) {N2 : Nat} (hN2 : e2.toInt = (N2 : Int)) (lN2 : N2 < 3) {N3 : Nat} (hN3 : e3.toInt = (N3 : Int)) (lN3 : N3 < 3) : Met l Z KT n0 y1 prog_8_method_2_code 5 (some (.array .int)) ({ frames := 0, cells := 1, slots := 4, locals := 0 } : Room) #[(.ref (n0 + 0)), (.int (0 : Int32)), (.int (3 : Int32))] [.inr (.int, [(.int e0), (.int e1), (.int e2), (.int e3)])] (Is (some (.ref (n0 + 1))) [.inr (.int, [(.int e0), (.int e1), (.int e2), (.int e3)]), .inr (.int, [(.int (0 : Int32)), (.int (0 : Int32)), (.int (0 : Int32)), (.int (0 : Int32))])]) := by
  refine Met.of (a0 := a0) (ls := #[.val (.ref (n0 + 0)), .val (.int (0 : Int32)), .val (.int (3 : Int32)), .unset, .unset]) (kok hw) (plainFor_of_name pn_4) (fun m => by first | (simp [entryFrame, mkF, argsToLocals, Value.category]; done) | rfl) (fun G H => ?_)
  refine H.iloadN s1_0 rfl ?_
  refine H.iconst s1_1 (v := (1 : Int32)) (by decide) ?_
  refine H.iadd s1_2 (w := (4 : Int32)) (by decide) ?_
  refine H.newarray s1_3 (ty := .int) rfl (k_3 hw) (N := 4) (cap := 4) (by decide) rfl (by decide) (by decide) (by first | rfl | simp) (by decide) (by decide) (i := 1) rfl (A' := [.inr (.int, [(.int e0), (.int e1), (.int e2), (.int e3)]), .inr (.int, [(.int (0 : Int32)), (.int (0 : Int32)), (.int (0 : Int32)), (.int (0 : Int32))])]) rfl (k' := 1) rfl (n' := 4) rfl ?_
  refine H.astoreN s1_5 rfl (ls' := #[.val (.ref (n0 + 0)), .val (.int (0 : Int32)), .val (.int (3 : Int32)), .val (.ref (n0 + 1)), .unset]) rfl ?_
  refine H.iconst s1_6 (v := (0 : Int32)) (by decide) ?_
  refine H.istore s1_7 (ls' := #[.val (.ref (n0 + 0)), .val (.int (0 : Int32)), .val (.int (3 : Int32)), .val (.ref (n0 + 1)), .val (.int (0 : Int32))]) rfl ?_
  refine H.iload s1_9 rfl ?_
  refine H.iloadN s1_11 rfl ?_
  refine H.icmpT s1_12 (show ¬ (0 : Int32) < (0 : Int32) by decide) ?_
  refine H.iconst s1_33 (v := (0 : Int32)) (by decide) ?_
  refine H.istore s1_34 (ls' := #[.val (.ref (n0 + 0)), .val (.int (0 : Int32)), .val (.int (3 : Int32)), .val (.ref (n0 + 1)), .val (.int (0 : Int32))]) rfl ?_
  refine H.iload s1_36 rfl ?_
  refine H.iloadN s1_38 rfl ?_
  refine H.icmpF s1_39 (show (0 : Int32) < (3 : Int32) by decide) ?_
  refine H.aloadN s1_42 rfl rfl ?_
  refine H.iload s1_43 rfl ?_
  refine H.iconst s1_45 (v := (1 : Int32)) (by decide) ?_
  refine H.iadd s1_46 (w := (1 : Int32)) (by decide) ?_
  refine H.dup2 s1_47 rfl rfl ?_
  refine H.iaload s1_48 (i := 1) (j := 1) rfl (by decide) (v := (.int (0 : Int32))) rfl ?_
  refine H.aloadN s1_49 rfl rfl ?_
  refine H.iload s1_50 rfl ?_
  refine H.iaload s1_52 (i := 1) (j := 0) rfl (by decide) (v := (.int (0 : Int32))) rfl ?_
  refine H.iadd s1_53 (w := (0 : Int32)) (by decide) ?_
  refine H.iastore s1_54 (i := 1) (j := 1) rfl (by decide) (ltb rfl)  (A' := [.inr (.int, [(.int e0), (.int e1), (.int e2), (.int e3)]), .inr (.int, [(.int (0 : Int32)), (.int (0 : Int32)), (.int (0 : Int32)), (.int (0 : Int32))])]) rfl ?_
  refine H.iinc s1_55 rfl (w := (1 : Int32)) (by decide) (ls' := #[.val (.ref (n0 + 0)), .val (.int (0 : Int32)), .val (.int (3 : Int32)), .val (.ref (n0 + 1)), .val (.int (1 : Int32))]) rfl ?_
  refine H.goto s1_58 ?_
  refine H.iload s1_36 rfl ?_
  refine H.iloadN s1_38 rfl ?_
  refine H.icmpF s1_39 (show (1 : Int32) < (3 : Int32) by decide) ?_
  refine H.aloadN s1_42 rfl rfl ?_
  refine H.iload s1_43 rfl ?_
  refine H.iconst s1_45 (v := (1 : Int32)) (by decide) ?_
  refine H.iadd s1_46 (w := (2 : Int32)) (by decide) ?_
  refine H.dup2 s1_47 rfl rfl ?_
  refine H.iaload s1_48 (i := 1) (j := 2) rfl (by decide) (v := (.int (0 : Int32))) rfl ?_
  refine H.aloadN s1_49 rfl rfl ?_
  refine H.iload s1_50 rfl ?_
  refine H.iaload s1_52 (i := 1) (j := 1) rfl (by decide) (v := (.int (0 : Int32))) rfl ?_
  refine H.iadd s1_53 (w := (0 : Int32)) (by decide) ?_
  refine H.iastore s1_54 (i := 1) (j := 2) rfl (by decide) (ltb rfl)  (A' := [.inr (.int, [(.int e0), (.int e1), (.int e2), (.int e3)]), .inr (.int, [(.int (0 : Int32)), (.int (0 : Int32)), (.int (0 : Int32)), (.int (0 : Int32))])]) rfl ?_
  refine H.iinc s1_55 rfl (w := (2 : Int32)) (by decide) (ls' := #[.val (.ref (n0 + 0)), .val (.int (0 : Int32)), .val (.int (3 : Int32)), .val (.ref (n0 + 1)), .val (.int (2 : Int32))]) rfl ?_
  refine H.goto s1_58 ?_
  refine H.iload s1_36 rfl ?_
  refine H.iloadN s1_38 rfl ?_
  refine H.icmpF s1_39 (show (2 : Int32) < (3 : Int32) by decide) ?_
  refine H.aloadN s1_42 rfl rfl ?_
  refine H.iload s1_43 rfl ?_
  refine H.iconst s1_45 (v := (1 : Int32)) (by decide) ?_
  refine H.iadd s1_46 (w := (3 : Int32)) (by decide) ?_
  refine H.dup2 s1_47 rfl rfl ?_
  refine H.iaload s1_48 (i := 1) (j := 3) rfl (by decide) (v := (.int (0 : Int32))) rfl ?_
  refine H.aloadN s1_49 rfl rfl ?_
  refine H.iload s1_50 rfl ?_
  refine H.iaload s1_52 (i := 1) (j := 2) rfl (by decide) (v := (.int (0 : Int32))) rfl ?_
  refine H.iadd s1_53 (w := (0 : Int32)) (by decide) ?_
  refine H.iastore s1_54 (i := 1) (j := 3) rfl (by decide) (ltb rfl)  (A' := [.inr (.int, [(.int e0), (.int e1), (.int e2), (.int e3)]), .inr (.int, [(.int (0 : Int32)), (.int (0 : Int32)), (.int (0 : Int32)), (.int (0 : Int32))])]) rfl ?_
  refine H.iinc s1_55 rfl (w := (3 : Int32)) (by decide) (ls' := #[.val (.ref (n0 + 0)), .val (.int (0 : Int32)), .val (.int (3 : Int32)), .val (.ref (n0 + 1)), .val (.int (3 : Int32))]) rfl ?_
  refine H.goto s1_58 ?_
  refine H.iload s1_36 rfl ?_
  refine H.iloadN s1_38 rfl ?_
  refine H.icmpT s1_39 (show ¬ (3 : Int32) < (3 : Int32) by decide) ?_
  refine H.aloadN s1_61 rfl rfl ?_
  exact H.areturn s1_62 rfl rfl rfl rfl ⟨rfl, rfl⟩ (by decide) (by decide)


set_option maxRecDepth 65536 in
set_option maxHeartbeats 40000000 in
theorem a_12 (l : Launch) {Z : State} {a0 : Array Value} (hw : HW1 Z a0) (n0 : Nat) (e0 : Int32) (e1 : Int32) (e2 : Int32) (e3 : Int32) {N0 : Nat} (hN0 : e0.toInt = (N0 : Int)) (lN0 : N0 < 3) {N1 : Nat} (hN1 : e1.toInt = (N1 : Int)) (lN1 : N1 < 3) {N2 : Nat} (hN2 : e2.toInt = (N2 : Int)) (lN2 : N2 < 3) {N3 : Nat} (hN3 : e3.toInt = (N3 : Int)) (lN3 : N3 < 3) : Met l Z KT n0 y1 prog_8_method_2_code 5 (some (.array .int)) ({ frames := 0, cells := 1, slots := 4, locals := 0 } : Room) #[(.ref (n0 + 0)), (.int (1 : Int32)), (.int (3 : Int32))] [.inr (.int, [(.int e0), (.int e1), (.int e2), (.int e3)])] (Is (some (.ref (n0 + 1))) [.inr (.int, [(.int e0), (.int e1), (.int e2), (.int e3)]), .inr (.int, [(.int (own_c [(N0 + 1)] 0)), (.int (own_p [(N0 + 1)] 1)), (.int (own_p [(N0 + 1)] 2)), (.int (own_p [(N0 + 1)] 3))])]) := by
  refine Met.of (a0 := a0) (ls := #[.val (.ref (n0 + 0)), .val (.int (1 : Int32)), .val (.int (3 : Int32)), .unset, .unset]) (kok hw) (plainFor_of_name pn_4) (fun m => by first | (simp [entryFrame, mkF, argsToLocals, Value.category]; done) | rfl) (fun G H => ?_)
  refine H.iloadN s1_0 rfl ?_
  refine H.iconst s1_1 (v := (1 : Int32)) (by decide) ?_
  refine H.iadd s1_2 (w := (4 : Int32)) (by decide) ?_
  refine H.newarray s1_3 (ty := .int) rfl (k_3 hw) (N := 4) (cap := 4) (by decide) rfl (by decide) (by decide) (by first | rfl | simp) (by decide) (by decide) (i := 1) rfl (A' := [.inr (.int, [(.int e0), (.int e1), (.int e2), (.int e3)]), .inr (.int, [(.int (0 : Int32)), (.int (0 : Int32)), (.int (0 : Int32)), (.int (0 : Int32))])]) rfl (k' := 1) rfl (n' := 4) rfl ?_
  refine H.astoreN s1_5 rfl (ls' := #[.val (.ref (n0 + 0)), .val (.int (1 : Int32)), .val (.int (3 : Int32)), .val (.ref (n0 + 1)), .unset]) rfl ?_
  refine H.iconst s1_6 (v := (0 : Int32)) (by decide) ?_
  refine H.istore s1_7 (ls' := #[.val (.ref (n0 + 0)), .val (.int (1 : Int32)), .val (.int (3 : Int32)), .val (.ref (n0 + 1)), .val (.int (0 : Int32))]) rfl ?_
  refine H.iload s1_9 rfl ?_
  refine H.iloadN s1_11 rfl ?_
  refine H.icmpF s1_12 (show (0 : Int32) < (1 : Int32) by decide) ?_
  refine H.aloadN s1_15 rfl rfl ?_
  refine H.aloadN s1_16 rfl rfl ?_
  refine H.iload s1_17 rfl ?_
  refine H.iaload s1_19 (i := 0) (j := 0) rfl (by decide) (v := (.int e0)) rfl ?_
  refine H.iconst s1_20 (v := (1 : Int32)) (by decide) ?_
  refine H.iadd s1_21 rfl ?_
  refine H.dup2 s1_22 rfl rfl ?_
  refine H.iaload s1_23 (i := 1) (j := (N0 + 1)) rfl (own_e1 3 hN0 lN0 (by decide)) (v := (.int (own_c [] (N0 + 1)))) (own_get 4 [] (by omega)) ?_
  refine H.iconst s1_24 (v := (1 : Int32)) (by decide) ?_
  refine H.iadd s1_25 rfl ?_
  refine H.iastore s1_26 (i := 1) (j := (N0 + 1)) rfl (own_e1 3 hN0 lN0 (by decide)) (by show _ < 4; omega)  (A' := [.inr (.int, [(.int e0), (.int e1), (.int e2), (.int e3)]), .inr (.int, [(.int (own_c [(N0 + 1)] 0)), (.int (own_c [(N0 + 1)] 1)), (.int (own_c [(N0 + 1)] 2)), (.int (own_c [(N0 + 1)] 3))])]) (congrArg (fun z => ([.inr (.int, [(.int e0), (.int e1), (.int e2), (.int e3)]), .inr (.int, [(.int (0 : Int32)), (.int (0 : Int32)), (.int (0 : Int32)), (.int (0 : Int32))])] : List Ob).set 1 (.inr (.int, z))) (own_set 4 [] (by omega))) ?_
  refine H.iinc s1_27 rfl (w := (1 : Int32)) (by decide) (ls' := #[.val (.ref (n0 + 0)), .val (.int (1 : Int32)), .val (.int (3 : Int32)), .val (.ref (n0 + 1)), .val (.int (1 : Int32))]) rfl ?_
  refine H.goto s1_30 ?_
  refine H.iload s1_9 rfl ?_
  refine H.iloadN s1_11 rfl ?_
  refine H.icmpT s1_12 (show ¬ (1 : Int32) < (1 : Int32) by decide) ?_
  refine H.iconst s1_33 (v := (0 : Int32)) (by decide) ?_
  refine H.istore s1_34 (ls' := #[.val (.ref (n0 + 0)), .val (.int (1 : Int32)), .val (.int (3 : Int32)), .val (.ref (n0 + 1)), .val (.int (0 : Int32))]) rfl ?_
  refine H.iload s1_36 rfl ?_
  refine H.iloadN s1_38 rfl ?_
  refine H.icmpF s1_39 (show (0 : Int32) < (3 : Int32) by decide) ?_
  refine H.aloadN s1_42 rfl rfl ?_
  refine H.iload s1_43 rfl ?_
  refine H.iconst s1_45 (v := (1 : Int32)) (by decide) ?_
  refine H.iadd s1_46 (w := (1 : Int32)) (by decide) ?_
  refine H.dup2 s1_47 rfl rfl ?_
  refine H.iaload s1_48 (i := 1) (j := 1) rfl (by decide) (v := (.int (own_c [(N0 + 1)] 1))) rfl ?_
  refine H.aloadN s1_49 rfl rfl ?_
  refine H.iload s1_50 rfl ?_
  refine H.iaload s1_52 (i := 1) (j := 0) rfl (by decide) (v := (.int (own_c [(N0 + 1)] 0))) rfl ?_
  refine H.iadd s1_53 (w := (own_p [(N0 + 1)] 1)) rfl ?_
  refine H.iastore s1_54 (i := 1) (j := 1) rfl (by decide) (ltb rfl)  (A' := [.inr (.int, [(.int e0), (.int e1), (.int e2), (.int e3)]), .inr (.int, [(.int (own_c [(N0 + 1)] 0)), (.int (own_p [(N0 + 1)] 1)), (.int (own_c [(N0 + 1)] 2)), (.int (own_c [(N0 + 1)] 3))])]) rfl ?_
  refine H.iinc s1_55 rfl (w := (1 : Int32)) (by decide) (ls' := #[.val (.ref (n0 + 0)), .val (.int (1 : Int32)), .val (.int (3 : Int32)), .val (.ref (n0 + 1)), .val (.int (1 : Int32))]) rfl ?_
  refine H.goto s1_58 ?_
  refine H.iload s1_36 rfl ?_
  refine H.iloadN s1_38 rfl ?_
  refine H.icmpF s1_39 (show (1 : Int32) < (3 : Int32) by decide) ?_
  refine H.aloadN s1_42 rfl rfl ?_
  refine H.iload s1_43 rfl ?_
  refine H.iconst s1_45 (v := (1 : Int32)) (by decide) ?_
  refine H.iadd s1_46 (w := (2 : Int32)) (by decide) ?_
  refine H.dup2 s1_47 rfl rfl ?_
  refine H.iaload s1_48 (i := 1) (j := 2) rfl (by decide) (v := (.int (own_c [(N0 + 1)] 2))) rfl ?_
  refine H.aloadN s1_49 rfl rfl ?_
  refine H.iload s1_50 rfl ?_
  refine H.iaload s1_52 (i := 1) (j := 1) rfl (by decide) (v := (.int (own_p [(N0 + 1)] 1))) rfl ?_
  refine H.iadd s1_53 (w := (own_p [(N0 + 1)] 2)) rfl ?_
  refine H.iastore s1_54 (i := 1) (j := 2) rfl (by decide) (ltb rfl)  (A' := [.inr (.int, [(.int e0), (.int e1), (.int e2), (.int e3)]), .inr (.int, [(.int (own_c [(N0 + 1)] 0)), (.int (own_p [(N0 + 1)] 1)), (.int (own_p [(N0 + 1)] 2)), (.int (own_c [(N0 + 1)] 3))])]) rfl ?_
  refine H.iinc s1_55 rfl (w := (2 : Int32)) (by decide) (ls' := #[.val (.ref (n0 + 0)), .val (.int (1 : Int32)), .val (.int (3 : Int32)), .val (.ref (n0 + 1)), .val (.int (2 : Int32))]) rfl ?_
  refine H.goto s1_58 ?_
  refine H.iload s1_36 rfl ?_
  refine H.iloadN s1_38 rfl ?_
  refine H.icmpF s1_39 (show (2 : Int32) < (3 : Int32) by decide) ?_
  refine H.aloadN s1_42 rfl rfl ?_
  refine H.iload s1_43 rfl ?_
  refine H.iconst s1_45 (v := (1 : Int32)) (by decide) ?_
  refine H.iadd s1_46 (w := (3 : Int32)) (by decide) ?_
  refine H.dup2 s1_47 rfl rfl ?_
  refine H.iaload s1_48 (i := 1) (j := 3) rfl (by decide) (v := (.int (own_c [(N0 + 1)] 3))) rfl ?_
  refine H.aloadN s1_49 rfl rfl ?_
  refine H.iload s1_50 rfl ?_
  refine H.iaload s1_52 (i := 1) (j := 2) rfl (by decide) (v := (.int (own_p [(N0 + 1)] 2))) rfl ?_
  refine H.iadd s1_53 (w := (own_p [(N0 + 1)] 3)) rfl ?_
  refine H.iastore s1_54 (i := 1) (j := 3) rfl (by decide) (ltb rfl)  (A' := [.inr (.int, [(.int e0), (.int e1), (.int e2), (.int e3)]), .inr (.int, [(.int (own_c [(N0 + 1)] 0)), (.int (own_p [(N0 + 1)] 1)), (.int (own_p [(N0 + 1)] 2)), (.int (own_p [(N0 + 1)] 3))])]) rfl ?_
  refine H.iinc s1_55 rfl (w := (3 : Int32)) (by decide) (ls' := #[.val (.ref (n0 + 0)), .val (.int (1 : Int32)), .val (.int (3 : Int32)), .val (.ref (n0 + 1)), .val (.int (3 : Int32))]) rfl ?_
  refine H.goto s1_58 ?_
  refine H.iload s1_36 rfl ?_
  refine H.iloadN s1_38 rfl ?_
  refine H.icmpT s1_39 (show ¬ (3 : Int32) < (3 : Int32) by decide) ?_
  refine H.aloadN s1_61 rfl rfl ?_
  exact H.areturn s1_62 rfl rfl rfl rfl ⟨rfl, rfl⟩ (by decide) (by decide)


set_option maxRecDepth 65536 in
set_option maxHeartbeats 40000000 in
theorem a_13 (l : Launch) {Z : State} {a0 : Array Value} (hw : HW1 Z a0) (n0 : Nat) (e0 : Int32) (e1 : Int32) (e2 : Int32) (e3 : Int32) {N0 : Nat} (hN0 : e0.toInt = (N0 : Int)) (lN0 : N0 < 3) {N1 : Nat} (hN1 : e1.toInt = (N1 : Int)) (lN1 : N1 < 3) {N2 : Nat} (hN2 : e2.toInt = (N2 : Int)) (lN2 : N2 < 3) {N3 : Nat} (hN3 : e3.toInt = (N3 : Int)) (lN3 : N3 < 3) : Met l Z KT n0 y1 prog_8_method_2_code 5 (some (.array .int)) ({ frames := 0, cells := 1, slots := 4, locals := 0 } : Room) #[(.ref (n0 + 0)), (.int (2 : Int32)), (.int (3 : Int32))] [.inr (.int, [(.int e0), (.int e1), (.int e2), (.int e3)])] (Is (some (.ref (n0 + 1))) [.inr (.int, [(.int e0), (.int e1), (.int e2), (.int e3)]), .inr (.int, [(.int (own_c [(N1 + 1), (N0 + 1)] 0)), (.int (own_p [(N1 + 1), (N0 + 1)] 1)), (.int (own_p [(N1 + 1), (N0 + 1)] 2)), (.int (own_p [(N1 + 1), (N0 + 1)] 3))])]) := by
  refine Met.of (a0 := a0) (ls := #[.val (.ref (n0 + 0)), .val (.int (2 : Int32)), .val (.int (3 : Int32)), .unset, .unset]) (kok hw) (plainFor_of_name pn_4) (fun m => by first | (simp [entryFrame, mkF, argsToLocals, Value.category]; done) | rfl) (fun G H => ?_)
  refine H.iloadN s1_0 rfl ?_
  refine H.iconst s1_1 (v := (1 : Int32)) (by decide) ?_
  refine H.iadd s1_2 (w := (4 : Int32)) (by decide) ?_
  refine H.newarray s1_3 (ty := .int) rfl (k_3 hw) (N := 4) (cap := 4) (by decide) rfl (by decide) (by decide) (by first | rfl | simp) (by decide) (by decide) (i := 1) rfl (A' := [.inr (.int, [(.int e0), (.int e1), (.int e2), (.int e3)]), .inr (.int, [(.int (0 : Int32)), (.int (0 : Int32)), (.int (0 : Int32)), (.int (0 : Int32))])]) rfl (k' := 1) rfl (n' := 4) rfl ?_
  refine H.astoreN s1_5 rfl (ls' := #[.val (.ref (n0 + 0)), .val (.int (2 : Int32)), .val (.int (3 : Int32)), .val (.ref (n0 + 1)), .unset]) rfl ?_
  refine H.iconst s1_6 (v := (0 : Int32)) (by decide) ?_
  refine H.istore s1_7 (ls' := #[.val (.ref (n0 + 0)), .val (.int (2 : Int32)), .val (.int (3 : Int32)), .val (.ref (n0 + 1)), .val (.int (0 : Int32))]) rfl ?_
  refine H.iload s1_9 rfl ?_
  refine H.iloadN s1_11 rfl ?_
  refine H.icmpF s1_12 (show (0 : Int32) < (2 : Int32) by decide) ?_
  refine H.aloadN s1_15 rfl rfl ?_
  refine H.aloadN s1_16 rfl rfl ?_
  refine H.iload s1_17 rfl ?_
  refine H.iaload s1_19 (i := 0) (j := 0) rfl (by decide) (v := (.int e0)) rfl ?_
  refine H.iconst s1_20 (v := (1 : Int32)) (by decide) ?_
  refine H.iadd s1_21 rfl ?_
  refine H.dup2 s1_22 rfl rfl ?_
  refine H.iaload s1_23 (i := 1) (j := (N0 + 1)) rfl (own_e1 3 hN0 lN0 (by decide)) (v := (.int (own_c [] (N0 + 1)))) (own_get 4 [] (by omega)) ?_
  refine H.iconst s1_24 (v := (1 : Int32)) (by decide) ?_
  refine H.iadd s1_25 rfl ?_
  refine H.iastore s1_26 (i := 1) (j := (N0 + 1)) rfl (own_e1 3 hN0 lN0 (by decide)) (by show _ < 4; omega)  (A' := [.inr (.int, [(.int e0), (.int e1), (.int e2), (.int e3)]), .inr (.int, [(.int (own_c [(N0 + 1)] 0)), (.int (own_c [(N0 + 1)] 1)), (.int (own_c [(N0 + 1)] 2)), (.int (own_c [(N0 + 1)] 3))])]) (congrArg (fun z => ([.inr (.int, [(.int e0), (.int e1), (.int e2), (.int e3)]), .inr (.int, [(.int (0 : Int32)), (.int (0 : Int32)), (.int (0 : Int32)), (.int (0 : Int32))])] : List Ob).set 1 (.inr (.int, z))) (own_set 4 [] (by omega))) ?_
  refine H.iinc s1_27 rfl (w := (1 : Int32)) (by decide) (ls' := #[.val (.ref (n0 + 0)), .val (.int (2 : Int32)), .val (.int (3 : Int32)), .val (.ref (n0 + 1)), .val (.int (1 : Int32))]) rfl ?_
  refine H.goto s1_30 ?_
  refine H.iload s1_9 rfl ?_
  refine H.iloadN s1_11 rfl ?_
  refine H.icmpF s1_12 (show (1 : Int32) < (2 : Int32) by decide) ?_
  refine H.aloadN s1_15 rfl rfl ?_
  refine H.aloadN s1_16 rfl rfl ?_
  refine H.iload s1_17 rfl ?_
  refine H.iaload s1_19 (i := 0) (j := 1) rfl (by decide) (v := (.int e1)) rfl ?_
  refine H.iconst s1_20 (v := (1 : Int32)) (by decide) ?_
  refine H.iadd s1_21 rfl ?_
  refine H.dup2 s1_22 rfl rfl ?_
  refine H.iaload s1_23 (i := 1) (j := (N1 + 1)) rfl (own_e1 3 hN1 lN1 (by decide)) (v := (.int (own_c [(N0 + 1)] (N1 + 1)))) (own_get 4 [(N0 + 1)] (by omega)) ?_
  refine H.iconst s1_24 (v := (1 : Int32)) (by decide) ?_
  refine H.iadd s1_25 rfl ?_
  refine H.iastore s1_26 (i := 1) (j := (N1 + 1)) rfl (own_e1 3 hN1 lN1 (by decide)) (by show _ < 4; omega)  (A' := [.inr (.int, [(.int e0), (.int e1), (.int e2), (.int e3)]), .inr (.int, [(.int (own_c [(N1 + 1), (N0 + 1)] 0)), (.int (own_c [(N1 + 1), (N0 + 1)] 1)), (.int (own_c [(N1 + 1), (N0 + 1)] 2)), (.int (own_c [(N1 + 1), (N0 + 1)] 3))])]) (congrArg (fun z => ([.inr (.int, [(.int e0), (.int e1), (.int e2), (.int e3)]), .inr (.int, [(.int (own_c [(N0 + 1)] 0)), (.int (own_c [(N0 + 1)] 1)), (.int (own_c [(N0 + 1)] 2)), (.int (own_c [(N0 + 1)] 3))])] : List Ob).set 1 (.inr (.int, z))) (own_set 4 [(N0 + 1)] (by omega))) ?_
  refine H.iinc s1_27 rfl (w := (2 : Int32)) (by decide) (ls' := #[.val (.ref (n0 + 0)), .val (.int (2 : Int32)), .val (.int (3 : Int32)), .val (.ref (n0 + 1)), .val (.int (2 : Int32))]) rfl ?_
  refine H.goto s1_30 ?_
  refine H.iload s1_9 rfl ?_
  refine H.iloadN s1_11 rfl ?_
  refine H.icmpT s1_12 (show ¬ (2 : Int32) < (2 : Int32) by decide) ?_
  refine H.iconst s1_33 (v := (0 : Int32)) (by decide) ?_
  refine H.istore s1_34 (ls' := #[.val (.ref (n0 + 0)), .val (.int (2 : Int32)), .val (.int (3 : Int32)), .val (.ref (n0 + 1)), .val (.int (0 : Int32))]) rfl ?_
  refine H.iload s1_36 rfl ?_
  refine H.iloadN s1_38 rfl ?_
  refine H.icmpF s1_39 (show (0 : Int32) < (3 : Int32) by decide) ?_
  refine H.aloadN s1_42 rfl rfl ?_
  refine H.iload s1_43 rfl ?_
  refine H.iconst s1_45 (v := (1 : Int32)) (by decide) ?_
  refine H.iadd s1_46 (w := (1 : Int32)) (by decide) ?_
  refine H.dup2 s1_47 rfl rfl ?_
  refine H.iaload s1_48 (i := 1) (j := 1) rfl (by decide) (v := (.int (own_c [(N1 + 1), (N0 + 1)] 1))) rfl ?_
  refine H.aloadN s1_49 rfl rfl ?_
  refine H.iload s1_50 rfl ?_
  refine H.iaload s1_52 (i := 1) (j := 0) rfl (by decide) (v := (.int (own_c [(N1 + 1), (N0 + 1)] 0))) rfl ?_
  refine H.iadd s1_53 (w := (own_p [(N1 + 1), (N0 + 1)] 1)) rfl ?_
  refine H.iastore s1_54 (i := 1) (j := 1) rfl (by decide) (ltb rfl)  (A' := [.inr (.int, [(.int e0), (.int e1), (.int e2), (.int e3)]), .inr (.int, [(.int (own_c [(N1 + 1), (N0 + 1)] 0)), (.int (own_p [(N1 + 1), (N0 + 1)] 1)), (.int (own_c [(N1 + 1), (N0 + 1)] 2)), (.int (own_c [(N1 + 1), (N0 + 1)] 3))])]) rfl ?_
  refine H.iinc s1_55 rfl (w := (1 : Int32)) (by decide) (ls' := #[.val (.ref (n0 + 0)), .val (.int (2 : Int32)), .val (.int (3 : Int32)), .val (.ref (n0 + 1)), .val (.int (1 : Int32))]) rfl ?_
  refine H.goto s1_58 ?_
  refine H.iload s1_36 rfl ?_
  refine H.iloadN s1_38 rfl ?_
  refine H.icmpF s1_39 (show (1 : Int32) < (3 : Int32) by decide) ?_
  refine H.aloadN s1_42 rfl rfl ?_
  refine H.iload s1_43 rfl ?_
  refine H.iconst s1_45 (v := (1 : Int32)) (by decide) ?_
  refine H.iadd s1_46 (w := (2 : Int32)) (by decide) ?_
  refine H.dup2 s1_47 rfl rfl ?_
  refine H.iaload s1_48 (i := 1) (j := 2) rfl (by decide) (v := (.int (own_c [(N1 + 1), (N0 + 1)] 2))) rfl ?_
  refine H.aloadN s1_49 rfl rfl ?_
  refine H.iload s1_50 rfl ?_
  refine H.iaload s1_52 (i := 1) (j := 1) rfl (by decide) (v := (.int (own_p [(N1 + 1), (N0 + 1)] 1))) rfl ?_
  refine H.iadd s1_53 (w := (own_p [(N1 + 1), (N0 + 1)] 2)) rfl ?_
  refine H.iastore s1_54 (i := 1) (j := 2) rfl (by decide) (ltb rfl)  (A' := [.inr (.int, [(.int e0), (.int e1), (.int e2), (.int e3)]), .inr (.int, [(.int (own_c [(N1 + 1), (N0 + 1)] 0)), (.int (own_p [(N1 + 1), (N0 + 1)] 1)), (.int (own_p [(N1 + 1), (N0 + 1)] 2)), (.int (own_c [(N1 + 1), (N0 + 1)] 3))])]) rfl ?_
  refine H.iinc s1_55 rfl (w := (2 : Int32)) (by decide) (ls' := #[.val (.ref (n0 + 0)), .val (.int (2 : Int32)), .val (.int (3 : Int32)), .val (.ref (n0 + 1)), .val (.int (2 : Int32))]) rfl ?_
  refine H.goto s1_58 ?_
  refine H.iload s1_36 rfl ?_
  refine H.iloadN s1_38 rfl ?_
  refine H.icmpF s1_39 (show (2 : Int32) < (3 : Int32) by decide) ?_
  refine H.aloadN s1_42 rfl rfl ?_
  refine H.iload s1_43 rfl ?_
  refine H.iconst s1_45 (v := (1 : Int32)) (by decide) ?_
  refine H.iadd s1_46 (w := (3 : Int32)) (by decide) ?_
  refine H.dup2 s1_47 rfl rfl ?_
  refine H.iaload s1_48 (i := 1) (j := 3) rfl (by decide) (v := (.int (own_c [(N1 + 1), (N0 + 1)] 3))) rfl ?_
  refine H.aloadN s1_49 rfl rfl ?_
  refine H.iload s1_50 rfl ?_
  refine H.iaload s1_52 (i := 1) (j := 2) rfl (by decide) (v := (.int (own_p [(N1 + 1), (N0 + 1)] 2))) rfl ?_
  refine H.iadd s1_53 (w := (own_p [(N1 + 1), (N0 + 1)] 3)) rfl ?_
  refine H.iastore s1_54 (i := 1) (j := 3) rfl (by decide) (ltb rfl)  (A' := [.inr (.int, [(.int e0), (.int e1), (.int e2), (.int e3)]), .inr (.int, [(.int (own_c [(N1 + 1), (N0 + 1)] 0)), (.int (own_p [(N1 + 1), (N0 + 1)] 1)), (.int (own_p [(N1 + 1), (N0 + 1)] 2)), (.int (own_p [(N1 + 1), (N0 + 1)] 3))])]) rfl ?_
  refine H.iinc s1_55 rfl (w := (3 : Int32)) (by decide) (ls' := #[.val (.ref (n0 + 0)), .val (.int (2 : Int32)), .val (.int (3 : Int32)), .val (.ref (n0 + 1)), .val (.int (3 : Int32))]) rfl ?_
  refine H.goto s1_58 ?_
  refine H.iload s1_36 rfl ?_
  refine H.iloadN s1_38 rfl ?_
  refine H.icmpT s1_39 (show ¬ (3 : Int32) < (3 : Int32) by decide) ?_
  refine H.aloadN s1_61 rfl rfl ?_
  exact H.areturn s1_62 rfl rfl rfl rfl ⟨rfl, rfl⟩ (by decide) (by decide)


set_option maxRecDepth 65536 in
set_option maxHeartbeats 40000000 in
theorem a_14 (l : Launch) {Z : State} {a0 : Array Value} (hw : HW1 Z a0) (n0 : Nat) (e0 : Int32) (e1 : Int32) (e2 : Int32) (e3 : Int32) {N0 : Nat} (hN0 : e0.toInt = (N0 : Int)) (lN0 : N0 < 3) {N1 : Nat} (hN1 : e1.toInt = (N1 : Int)) (lN1 : N1 < 3) {N2 : Nat} (hN2 : e2.toInt = (N2 : Int)) (lN2 : N2 < 3) {N3 : Nat} (hN3 : e3.toInt = (N3 : Int)) (lN3 : N3 < 3) : Met l Z KT n0 y1 prog_8_method_2_code 5 (some (.array .int)) ({ frames := 0, cells := 1, slots := 4, locals := 0 } : Room) #[(.ref (n0 + 0)), (.int (3 : Int32)), (.int (3 : Int32))] [.inr (.int, [(.int e0), (.int e1), (.int e2), (.int e3)])] (Is (some (.ref (n0 + 1))) [.inr (.int, [(.int e0), (.int e1), (.int e2), (.int e3)]), .inr (.int, [(.int (own_c [(N2 + 1), (N1 + 1), (N0 + 1)] 0)), (.int (own_p [(N2 + 1), (N1 + 1), (N0 + 1)] 1)), (.int (own_p [(N2 + 1), (N1 + 1), (N0 + 1)] 2)), (.int (own_p [(N2 + 1), (N1 + 1), (N0 + 1)] 3))])]) := by
  refine Met.of (a0 := a0) (ls := #[.val (.ref (n0 + 0)), .val (.int (3 : Int32)), .val (.int (3 : Int32)), .unset, .unset]) (kok hw) (plainFor_of_name pn_4) (fun m => by first | (simp [entryFrame, mkF, argsToLocals, Value.category]; done) | rfl) (fun G H => ?_)
  refine H.iloadN s1_0 rfl ?_
  refine H.iconst s1_1 (v := (1 : Int32)) (by decide) ?_
  refine H.iadd s1_2 (w := (4 : Int32)) (by decide) ?_
  refine H.newarray s1_3 (ty := .int) rfl (k_3 hw) (N := 4) (cap := 4) (by decide) rfl (by decide) (by decide) (by first | rfl | simp) (by decide) (by decide) (i := 1) rfl (A' := [.inr (.int, [(.int e0), (.int e1), (.int e2), (.int e3)]), .inr (.int, [(.int (0 : Int32)), (.int (0 : Int32)), (.int (0 : Int32)), (.int (0 : Int32))])]) rfl (k' := 1) rfl (n' := 4) rfl ?_
  refine H.astoreN s1_5 rfl (ls' := #[.val (.ref (n0 + 0)), .val (.int (3 : Int32)), .val (.int (3 : Int32)), .val (.ref (n0 + 1)), .unset]) rfl ?_
  refine H.iconst s1_6 (v := (0 : Int32)) (by decide) ?_
  refine H.istore s1_7 (ls' := #[.val (.ref (n0 + 0)), .val (.int (3 : Int32)), .val (.int (3 : Int32)), .val (.ref (n0 + 1)), .val (.int (0 : Int32))]) rfl ?_
  refine H.iload s1_9 rfl ?_
  refine H.iloadN s1_11 rfl ?_
  refine H.icmpF s1_12 (show (0 : Int32) < (3 : Int32) by decide) ?_
  refine H.aloadN s1_15 rfl rfl ?_
  refine H.aloadN s1_16 rfl rfl ?_
  refine H.iload s1_17 rfl ?_
  refine H.iaload s1_19 (i := 0) (j := 0) rfl (by decide) (v := (.int e0)) rfl ?_
  refine H.iconst s1_20 (v := (1 : Int32)) (by decide) ?_
  refine H.iadd s1_21 rfl ?_
  refine H.dup2 s1_22 rfl rfl ?_
  refine H.iaload s1_23 (i := 1) (j := (N0 + 1)) rfl (own_e1 3 hN0 lN0 (by decide)) (v := (.int (own_c [] (N0 + 1)))) (own_get 4 [] (by omega)) ?_
  refine H.iconst s1_24 (v := (1 : Int32)) (by decide) ?_
  refine H.iadd s1_25 rfl ?_
  refine H.iastore s1_26 (i := 1) (j := (N0 + 1)) rfl (own_e1 3 hN0 lN0 (by decide)) (by show _ < 4; omega)  (A' := [.inr (.int, [(.int e0), (.int e1), (.int e2), (.int e3)]), .inr (.int, [(.int (own_c [(N0 + 1)] 0)), (.int (own_c [(N0 + 1)] 1)), (.int (own_c [(N0 + 1)] 2)), (.int (own_c [(N0 + 1)] 3))])]) (congrArg (fun z => ([.inr (.int, [(.int e0), (.int e1), (.int e2), (.int e3)]), .inr (.int, [(.int (0 : Int32)), (.int (0 : Int32)), (.int (0 : Int32)), (.int (0 : Int32))])] : List Ob).set 1 (.inr (.int, z))) (own_set 4 [] (by omega))) ?_
  refine H.iinc s1_27 rfl (w := (1 : Int32)) (by decide) (ls' := #[.val (.ref (n0 + 0)), .val (.int (3 : Int32)), .val (.int (3 : Int32)), .val (.ref (n0 + 1)), .val (.int (1 : Int32))]) rfl ?_
  refine H.goto s1_30 ?_
  refine H.iload s1_9 rfl ?_
  refine H.iloadN s1_11 rfl ?_
  refine H.icmpF s1_12 (show (1 : Int32) < (3 : Int32) by decide) ?_
  refine H.aloadN s1_15 rfl rfl ?_
  refine H.aloadN s1_16 rfl rfl ?_
  refine H.iload s1_17 rfl ?_
  refine H.iaload s1_19 (i := 0) (j := 1) rfl (by decide) (v := (.int e1)) rfl ?_
  refine H.iconst s1_20 (v := (1 : Int32)) (by decide) ?_
  refine H.iadd s1_21 rfl ?_
  refine H.dup2 s1_22 rfl rfl ?_
  refine H.iaload s1_23 (i := 1) (j := (N1 + 1)) rfl (own_e1 3 hN1 lN1 (by decide)) (v := (.int (own_c [(N0 + 1)] (N1 + 1)))) (own_get 4 [(N0 + 1)] (by omega)) ?_
  refine H.iconst s1_24 (v := (1 : Int32)) (by decide) ?_
  refine H.iadd s1_25 rfl ?_
  refine H.iastore s1_26 (i := 1) (j := (N1 + 1)) rfl (own_e1 3 hN1 lN1 (by decide)) (by show _ < 4; omega)  (A' := [.inr (.int, [(.int e0), (.int e1), (.int e2), (.int e3)]), .inr (.int, [(.int (own_c [(N1 + 1), (N0 + 1)] 0)), (.int (own_c [(N1 + 1), (N0 + 1)] 1)), (.int (own_c [(N1 + 1), (N0 + 1)] 2)), (.int (own_c [(N1 + 1), (N0 + 1)] 3))])]) (congrArg (fun z => ([.inr (.int, [(.int e0), (.int e1), (.int e2), (.int e3)]), .inr (.int, [(.int (own_c [(N0 + 1)] 0)), (.int (own_c [(N0 + 1)] 1)), (.int (own_c [(N0 + 1)] 2)), (.int (own_c [(N0 + 1)] 3))])] : List Ob).set 1 (.inr (.int, z))) (own_set 4 [(N0 + 1)] (by omega))) ?_
  refine H.iinc s1_27 rfl (w := (2 : Int32)) (by decide) (ls' := #[.val (.ref (n0 + 0)), .val (.int (3 : Int32)), .val (.int (3 : Int32)), .val (.ref (n0 + 1)), .val (.int (2 : Int32))]) rfl ?_
  refine H.goto s1_30 ?_
  refine H.iload s1_9 rfl ?_
  refine H.iloadN s1_11 rfl ?_
  refine H.icmpF s1_12 (show (2 : Int32) < (3 : Int32) by decide) ?_
  refine H.aloadN s1_15 rfl rfl ?_
  refine H.aloadN s1_16 rfl rfl ?_
  refine H.iload s1_17 rfl ?_
  refine H.iaload s1_19 (i := 0) (j := 2) rfl (by decide) (v := (.int e2)) rfl ?_
  refine H.iconst s1_20 (v := (1 : Int32)) (by decide) ?_
  refine H.iadd s1_21 rfl ?_
  refine H.dup2 s1_22 rfl rfl ?_
  refine H.iaload s1_23 (i := 1) (j := (N2 + 1)) rfl (own_e1 3 hN2 lN2 (by decide)) (v := (.int (own_c [(N1 + 1), (N0 + 1)] (N2 + 1)))) (own_get 4 [(N1 + 1), (N0 + 1)] (by omega)) ?_
  refine H.iconst s1_24 (v := (1 : Int32)) (by decide) ?_
  refine H.iadd s1_25 rfl ?_
  refine H.iastore s1_26 (i := 1) (j := (N2 + 1)) rfl (own_e1 3 hN2 lN2 (by decide)) (by show _ < 4; omega)  (A' := [.inr (.int, [(.int e0), (.int e1), (.int e2), (.int e3)]), .inr (.int, [(.int (own_c [(N2 + 1), (N1 + 1), (N0 + 1)] 0)), (.int (own_c [(N2 + 1), (N1 + 1), (N0 + 1)] 1)), (.int (own_c [(N2 + 1), (N1 + 1), (N0 + 1)] 2)), (.int (own_c [(N2 + 1), (N1 + 1), (N0 + 1)] 3))])]) (congrArg (fun z => ([.inr (.int, [(.int e0), (.int e1), (.int e2), (.int e3)]), .inr (.int, [(.int (own_c [(N1 + 1), (N0 + 1)] 0)), (.int (own_c [(N1 + 1), (N0 + 1)] 1)), (.int (own_c [(N1 + 1), (N0 + 1)] 2)), (.int (own_c [(N1 + 1), (N0 + 1)] 3))])] : List Ob).set 1 (.inr (.int, z))) (own_set 4 [(N1 + 1), (N0 + 1)] (by omega))) ?_
  refine H.iinc s1_27 rfl (w := (3 : Int32)) (by decide) (ls' := #[.val (.ref (n0 + 0)), .val (.int (3 : Int32)), .val (.int (3 : Int32)), .val (.ref (n0 + 1)), .val (.int (3 : Int32))]) rfl ?_
  refine H.goto s1_30 ?_
  refine H.iload s1_9 rfl ?_
  refine H.iloadN s1_11 rfl ?_
  refine H.icmpT s1_12 (show ¬ (3 : Int32) < (3 : Int32) by decide) ?_
  refine H.iconst s1_33 (v := (0 : Int32)) (by decide) ?_
  refine H.istore s1_34 (ls' := #[.val (.ref (n0 + 0)), .val (.int (3 : Int32)), .val (.int (3 : Int32)), .val (.ref (n0 + 1)), .val (.int (0 : Int32))]) rfl ?_
  refine H.iload s1_36 rfl ?_
  refine H.iloadN s1_38 rfl ?_
  refine H.icmpF s1_39 (show (0 : Int32) < (3 : Int32) by decide) ?_
  refine H.aloadN s1_42 rfl rfl ?_
  refine H.iload s1_43 rfl ?_
  refine H.iconst s1_45 (v := (1 : Int32)) (by decide) ?_
  refine H.iadd s1_46 (w := (1 : Int32)) (by decide) ?_
  refine H.dup2 s1_47 rfl rfl ?_
  refine H.iaload s1_48 (i := 1) (j := 1) rfl (by decide) (v := (.int (own_c [(N2 + 1), (N1 + 1), (N0 + 1)] 1))) rfl ?_
  refine H.aloadN s1_49 rfl rfl ?_
  refine H.iload s1_50 rfl ?_
  refine H.iaload s1_52 (i := 1) (j := 0) rfl (by decide) (v := (.int (own_c [(N2 + 1), (N1 + 1), (N0 + 1)] 0))) rfl ?_
  refine H.iadd s1_53 (w := (own_p [(N2 + 1), (N1 + 1), (N0 + 1)] 1)) rfl ?_
  refine H.iastore s1_54 (i := 1) (j := 1) rfl (by decide) (ltb rfl)  (A' := [.inr (.int, [(.int e0), (.int e1), (.int e2), (.int e3)]), .inr (.int, [(.int (own_c [(N2 + 1), (N1 + 1), (N0 + 1)] 0)), (.int (own_p [(N2 + 1), (N1 + 1), (N0 + 1)] 1)), (.int (own_c [(N2 + 1), (N1 + 1), (N0 + 1)] 2)), (.int (own_c [(N2 + 1), (N1 + 1), (N0 + 1)] 3))])]) rfl ?_
  refine H.iinc s1_55 rfl (w := (1 : Int32)) (by decide) (ls' := #[.val (.ref (n0 + 0)), .val (.int (3 : Int32)), .val (.int (3 : Int32)), .val (.ref (n0 + 1)), .val (.int (1 : Int32))]) rfl ?_
  refine H.goto s1_58 ?_
  refine H.iload s1_36 rfl ?_
  refine H.iloadN s1_38 rfl ?_
  refine H.icmpF s1_39 (show (1 : Int32) < (3 : Int32) by decide) ?_
  refine H.aloadN s1_42 rfl rfl ?_
  refine H.iload s1_43 rfl ?_
  refine H.iconst s1_45 (v := (1 : Int32)) (by decide) ?_
  refine H.iadd s1_46 (w := (2 : Int32)) (by decide) ?_
  refine H.dup2 s1_47 rfl rfl ?_
  refine H.iaload s1_48 (i := 1) (j := 2) rfl (by decide) (v := (.int (own_c [(N2 + 1), (N1 + 1), (N0 + 1)] 2))) rfl ?_
  refine H.aloadN s1_49 rfl rfl ?_
  refine H.iload s1_50 rfl ?_
  refine H.iaload s1_52 (i := 1) (j := 1) rfl (by decide) (v := (.int (own_p [(N2 + 1), (N1 + 1), (N0 + 1)] 1))) rfl ?_
  refine H.iadd s1_53 (w := (own_p [(N2 + 1), (N1 + 1), (N0 + 1)] 2)) rfl ?_
  refine H.iastore s1_54 (i := 1) (j := 2) rfl (by decide) (ltb rfl)  (A' := [.inr (.int, [(.int e0), (.int e1), (.int e2), (.int e3)]), .inr (.int, [(.int (own_c [(N2 + 1), (N1 + 1), (N0 + 1)] 0)), (.int (own_p [(N2 + 1), (N1 + 1), (N0 + 1)] 1)), (.int (own_p [(N2 + 1), (N1 + 1), (N0 + 1)] 2)), (.int (own_c [(N2 + 1), (N1 + 1), (N0 + 1)] 3))])]) rfl ?_
  refine H.iinc s1_55 rfl (w := (2 : Int32)) (by decide) (ls' := #[.val (.ref (n0 + 0)), .val (.int (3 : Int32)), .val (.int (3 : Int32)), .val (.ref (n0 + 1)), .val (.int (2 : Int32))]) rfl ?_
  refine H.goto s1_58 ?_
  refine H.iload s1_36 rfl ?_
  refine H.iloadN s1_38 rfl ?_
  refine H.icmpF s1_39 (show (2 : Int32) < (3 : Int32) by decide) ?_
  refine H.aloadN s1_42 rfl rfl ?_
  refine H.iload s1_43 rfl ?_
  refine H.iconst s1_45 (v := (1 : Int32)) (by decide) ?_
  refine H.iadd s1_46 (w := (3 : Int32)) (by decide) ?_
  refine H.dup2 s1_47 rfl rfl ?_
  refine H.iaload s1_48 (i := 1) (j := 3) rfl (by decide) (v := (.int (own_c [(N2 + 1), (N1 + 1), (N0 + 1)] 3))) rfl ?_
  refine H.aloadN s1_49 rfl rfl ?_
  refine H.iload s1_50 rfl ?_
  refine H.iaload s1_52 (i := 1) (j := 2) rfl (by decide) (v := (.int (own_p [(N2 + 1), (N1 + 1), (N0 + 1)] 2))) rfl ?_
  refine H.iadd s1_53 (w := (own_p [(N2 + 1), (N1 + 1), (N0 + 1)] 3)) rfl ?_
  refine H.iastore s1_54 (i := 1) (j := 3) rfl (by decide) (ltb rfl)  (A' := [.inr (.int, [(.int e0), (.int e1), (.int e2), (.int e3)]), .inr (.int, [(.int (own_c [(N2 + 1), (N1 + 1), (N0 + 1)] 0)), (.int (own_p [(N2 + 1), (N1 + 1), (N0 + 1)] 1)), (.int (own_p [(N2 + 1), (N1 + 1), (N0 + 1)] 2)), (.int (own_p [(N2 + 1), (N1 + 1), (N0 + 1)] 3))])]) rfl ?_
  refine H.iinc s1_55 rfl (w := (3 : Int32)) (by decide) (ls' := #[.val (.ref (n0 + 0)), .val (.int (3 : Int32)), .val (.int (3 : Int32)), .val (.ref (n0 + 1)), .val (.int (3 : Int32))]) rfl ?_
  refine H.goto s1_58 ?_
  refine H.iload s1_36 rfl ?_
  refine H.iloadN s1_38 rfl ?_
  refine H.icmpT s1_39 (show ¬ (3 : Int32) < (3 : Int32) by decide) ?_
  refine H.aloadN s1_61 rfl rfl ?_
  exact H.areturn s1_62 rfl rfl rfl rfl ⟨rfl, rfl⟩ (by decide) (by decide)


set_option maxRecDepth 65536 in
set_option maxHeartbeats 40000000 in
theorem a_15 (l : Launch) {Z : State} {a0 : Array Value} (hw : HW1 Z a0) (n0 : Nat) (e0 : Int32) (e1 : Int32) (e2 : Int32) (e3 : Int32) {N0 : Nat} (hN0 : e0.toInt = (N0 : Int)) (lN0 : N0 < 3) {N1 : Nat} (hN1 : e1.toInt = (N1 : Int)) (lN1 : N1 < 3) {N2 : Nat} (hN2 : e2.toInt = (N2 : Int)) (lN2 : N2 < 3) {N3 : Nat} (hN3 : e3.toInt = (N3 : Int)) (lN3 : N3 < 3) : Met l Z KT n0 y1 prog_8_method_2_code 5 (some (.array .int)) ({ frames := 0, cells := 1, slots := 4, locals := 0 } : Room) #[(.ref (n0 + 0)), (.int (4 : Int32)), (.int (3 : Int32))] [.inr (.int, [(.int e0), (.int e1), (.int e2), (.int e3)])] (Is (some (.ref (n0 + 1))) [.inr (.int, [(.int e0), (.int e1), (.int e2), (.int e3)]), .inr (.int, [(.int (own_c [(N3 + 1), (N2 + 1), (N1 + 1), (N0 + 1)] 0)), (.int (own_p [(N3 + 1), (N2 + 1), (N1 + 1), (N0 + 1)] 1)), (.int (own_p [(N3 + 1), (N2 + 1), (N1 + 1), (N0 + 1)] 2)), (.int (own_p [(N3 + 1), (N2 + 1), (N1 + 1), (N0 + 1)] 3))])]) := by
  refine Met.of (a0 := a0) (ls := #[.val (.ref (n0 + 0)), .val (.int (4 : Int32)), .val (.int (3 : Int32)), .unset, .unset]) (kok hw) (plainFor_of_name pn_4) (fun m => by first | (simp [entryFrame, mkF, argsToLocals, Value.category]; done) | rfl) (fun G H => ?_)
  refine H.iloadN s1_0 rfl ?_
  refine H.iconst s1_1 (v := (1 : Int32)) (by decide) ?_
  refine H.iadd s1_2 (w := (4 : Int32)) (by decide) ?_
  refine H.newarray s1_3 (ty := .int) rfl (k_3 hw) (N := 4) (cap := 4) (by decide) rfl (by decide) (by decide) (by first | rfl | simp) (by decide) (by decide) (i := 1) rfl (A' := [.inr (.int, [(.int e0), (.int e1), (.int e2), (.int e3)]), .inr (.int, [(.int (0 : Int32)), (.int (0 : Int32)), (.int (0 : Int32)), (.int (0 : Int32))])]) rfl (k' := 1) rfl (n' := 4) rfl ?_
  refine H.astoreN s1_5 rfl (ls' := #[.val (.ref (n0 + 0)), .val (.int (4 : Int32)), .val (.int (3 : Int32)), .val (.ref (n0 + 1)), .unset]) rfl ?_
  refine H.iconst s1_6 (v := (0 : Int32)) (by decide) ?_
  refine H.istore s1_7 (ls' := #[.val (.ref (n0 + 0)), .val (.int (4 : Int32)), .val (.int (3 : Int32)), .val (.ref (n0 + 1)), .val (.int (0 : Int32))]) rfl ?_
  refine H.iload s1_9 rfl ?_
  refine H.iloadN s1_11 rfl ?_
  refine H.icmpF s1_12 (show (0 : Int32) < (4 : Int32) by decide) ?_
  refine H.aloadN s1_15 rfl rfl ?_
  refine H.aloadN s1_16 rfl rfl ?_
  refine H.iload s1_17 rfl ?_
  refine H.iaload s1_19 (i := 0) (j := 0) rfl (by decide) (v := (.int e0)) rfl ?_
  refine H.iconst s1_20 (v := (1 : Int32)) (by decide) ?_
  refine H.iadd s1_21 rfl ?_
  refine H.dup2 s1_22 rfl rfl ?_
  refine H.iaload s1_23 (i := 1) (j := (N0 + 1)) rfl (own_e1 3 hN0 lN0 (by decide)) (v := (.int (own_c [] (N0 + 1)))) (own_get 4 [] (by omega)) ?_
  refine H.iconst s1_24 (v := (1 : Int32)) (by decide) ?_
  refine H.iadd s1_25 rfl ?_
  refine H.iastore s1_26 (i := 1) (j := (N0 + 1)) rfl (own_e1 3 hN0 lN0 (by decide)) (by show _ < 4; omega)  (A' := [.inr (.int, [(.int e0), (.int e1), (.int e2), (.int e3)]), .inr (.int, [(.int (own_c [(N0 + 1)] 0)), (.int (own_c [(N0 + 1)] 1)), (.int (own_c [(N0 + 1)] 2)), (.int (own_c [(N0 + 1)] 3))])]) (congrArg (fun z => ([.inr (.int, [(.int e0), (.int e1), (.int e2), (.int e3)]), .inr (.int, [(.int (0 : Int32)), (.int (0 : Int32)), (.int (0 : Int32)), (.int (0 : Int32))])] : List Ob).set 1 (.inr (.int, z))) (own_set 4 [] (by omega))) ?_
  refine H.iinc s1_27 rfl (w := (1 : Int32)) (by decide) (ls' := #[.val (.ref (n0 + 0)), .val (.int (4 : Int32)), .val (.int (3 : Int32)), .val (.ref (n0 + 1)), .val (.int (1 : Int32))]) rfl ?_
  refine H.goto s1_30 ?_
  refine H.iload s1_9 rfl ?_
  refine H.iloadN s1_11 rfl ?_
  refine H.icmpF s1_12 (show (1 : Int32) < (4 : Int32) by decide) ?_
  refine H.aloadN s1_15 rfl rfl ?_
  refine H.aloadN s1_16 rfl rfl ?_
  refine H.iload s1_17 rfl ?_
  refine H.iaload s1_19 (i := 0) (j := 1) rfl (by decide) (v := (.int e1)) rfl ?_
  refine H.iconst s1_20 (v := (1 : Int32)) (by decide) ?_
  refine H.iadd s1_21 rfl ?_
  refine H.dup2 s1_22 rfl rfl ?_
  refine H.iaload s1_23 (i := 1) (j := (N1 + 1)) rfl (own_e1 3 hN1 lN1 (by decide)) (v := (.int (own_c [(N0 + 1)] (N1 + 1)))) (own_get 4 [(N0 + 1)] (by omega)) ?_
  refine H.iconst s1_24 (v := (1 : Int32)) (by decide) ?_
  refine H.iadd s1_25 rfl ?_
  refine H.iastore s1_26 (i := 1) (j := (N1 + 1)) rfl (own_e1 3 hN1 lN1 (by decide)) (by show _ < 4; omega)  (A' := [.inr (.int, [(.int e0), (.int e1), (.int e2), (.int e3)]), .inr (.int, [(.int (own_c [(N1 + 1), (N0 + 1)] 0)), (.int (own_c [(N1 + 1), (N0 + 1)] 1)), (.int (own_c [(N1 + 1), (N0 + 1)] 2)), (.int (own_c [(N1 + 1), (N0 + 1)] 3))])]) (congrArg (fun z => ([.inr (.int, [(.int e0), (.int e1), (.int e2), (.int e3)]), .inr (.int, [(.int (own_c [(N0 + 1)] 0)), (.int (own_c [(N0 + 1)] 1)), (.int (own_c [(N0 + 1)] 2)), (.int (own_c [(N0 + 1)] 3))])] : List Ob).set 1 (.inr (.int, z))) (own_set 4 [(N0 + 1)] (by omega))) ?_
  refine H.iinc s1_27 rfl (w := (2 : Int32)) (by decide) (ls' := #[.val (.ref (n0 + 0)), .val (.int (4 : Int32)), .val (.int (3 : Int32)), .val (.ref (n0 + 1)), .val (.int (2 : Int32))]) rfl ?_
  refine H.goto s1_30 ?_
  refine H.iload s1_9 rfl ?_
  refine H.iloadN s1_11 rfl ?_
  refine H.icmpF s1_12 (show (2 : Int32) < (4 : Int32) by decide) ?_
  refine H.aloadN s1_15 rfl rfl ?_
  refine H.aloadN s1_16 rfl rfl ?_
  refine H.iload s1_17 rfl ?_
  refine H.iaload s1_19 (i := 0) (j := 2) rfl (by decide) (v := (.int e2)) rfl ?_
  refine H.iconst s1_20 (v := (1 : Int32)) (by decide) ?_
  refine H.iadd s1_21 rfl ?_
  refine H.dup2 s1_22 rfl rfl ?_
  refine H.iaload s1_23 (i := 1) (j := (N2 + 1)) rfl (own_e1 3 hN2 lN2 (by decide)) (v := (.int (own_c [(N1 + 1), (N0 + 1)] (N2 + 1)))) (own_get 4 [(N1 + 1), (N0 + 1)] (by omega)) ?_
  refine H.iconst s1_24 (v := (1 : Int32)) (by decide) ?_
  refine H.iadd s1_25 rfl ?_
  refine H.iastore s1_26 (i := 1) (j := (N2 + 1)) rfl (own_e1 3 hN2 lN2 (by decide)) (by show _ < 4; omega)  (A' := [.inr (.int, [(.int e0), (.int e1), (.int e2), (.int e3)]), .inr (.int, [(.int (own_c [(N2 + 1), (N1 + 1), (N0 + 1)] 0)), (.int (own_c [(N2 + 1), (N1 + 1), (N0 + 1)] 1)), (.int (own_c [(N2 + 1), (N1 + 1), (N0 + 1)] 2)), (.int (own_c [(N2 + 1), (N1 + 1), (N0 + 1)] 3))])]) (congrArg (fun z => ([.inr (.int, [(.int e0), (.int e1), (.int e2), (.int e3)]), .inr (.int, [(.int (own_c [(N1 + 1), (N0 + 1)] 0)), (.int (own_c [(N1 + 1), (N0 + 1)] 1)), (.int (own_c [(N1 + 1), (N0 + 1)] 2)), (.int (own_c [(N1 + 1), (N0 + 1)] 3))])] : List Ob).set 1 (.inr (.int, z))) (own_set 4 [(N1 + 1), (N0 + 1)] (by omega))) ?_
  refine H.iinc s1_27 rfl (w := (3 : Int32)) (by decide) (ls' := #[.val (.ref (n0 + 0)), .val (.int (4 : Int32)), .val (.int (3 : Int32)), .val (.ref (n0 + 1)), .val (.int (3 : Int32))]) rfl ?_
  refine H.goto s1_30 ?_
  refine H.iload s1_9 rfl ?_
  refine H.iloadN s1_11 rfl ?_
  refine H.icmpF s1_12 (show (3 : Int32) < (4 : Int32) by decide) ?_
  refine H.aloadN s1_15 rfl rfl ?_
  refine H.aloadN s1_16 rfl rfl ?_
  refine H.iload s1_17 rfl ?_
  refine H.iaload s1_19 (i := 0) (j := 3) rfl (by decide) (v := (.int e3)) rfl ?_
  refine H.iconst s1_20 (v := (1 : Int32)) (by decide) ?_
  refine H.iadd s1_21 rfl ?_
  refine H.dup2 s1_22 rfl rfl ?_
  refine H.iaload s1_23 (i := 1) (j := (N3 + 1)) rfl (own_e1 3 hN3 lN3 (by decide)) (v := (.int (own_c [(N2 + 1), (N1 + 1), (N0 + 1)] (N3 + 1)))) (own_get 4 [(N2 + 1), (N1 + 1), (N0 + 1)] (by omega)) ?_
  refine H.iconst s1_24 (v := (1 : Int32)) (by decide) ?_
  refine H.iadd s1_25 rfl ?_
  refine H.iastore s1_26 (i := 1) (j := (N3 + 1)) rfl (own_e1 3 hN3 lN3 (by decide)) (by show _ < 4; omega)  (A' := [.inr (.int, [(.int e0), (.int e1), (.int e2), (.int e3)]), .inr (.int, [(.int (own_c [(N3 + 1), (N2 + 1), (N1 + 1), (N0 + 1)] 0)), (.int (own_c [(N3 + 1), (N2 + 1), (N1 + 1), (N0 + 1)] 1)), (.int (own_c [(N3 + 1), (N2 + 1), (N1 + 1), (N0 + 1)] 2)), (.int (own_c [(N3 + 1), (N2 + 1), (N1 + 1), (N0 + 1)] 3))])]) (congrArg (fun z => ([.inr (.int, [(.int e0), (.int e1), (.int e2), (.int e3)]), .inr (.int, [(.int (own_c [(N2 + 1), (N1 + 1), (N0 + 1)] 0)), (.int (own_c [(N2 + 1), (N1 + 1), (N0 + 1)] 1)), (.int (own_c [(N2 + 1), (N1 + 1), (N0 + 1)] 2)), (.int (own_c [(N2 + 1), (N1 + 1), (N0 + 1)] 3))])] : List Ob).set 1 (.inr (.int, z))) (own_set 4 [(N2 + 1), (N1 + 1), (N0 + 1)] (by omega))) ?_
  refine H.iinc s1_27 rfl (w := (4 : Int32)) (by decide) (ls' := #[.val (.ref (n0 + 0)), .val (.int (4 : Int32)), .val (.int (3 : Int32)), .val (.ref (n0 + 1)), .val (.int (4 : Int32))]) rfl ?_
  refine H.goto s1_30 ?_
  refine H.iload s1_9 rfl ?_
  refine H.iloadN s1_11 rfl ?_
  refine H.icmpT s1_12 (show ¬ (4 : Int32) < (4 : Int32) by decide) ?_
  refine H.iconst s1_33 (v := (0 : Int32)) (by decide) ?_
  refine H.istore s1_34 (ls' := #[.val (.ref (n0 + 0)), .val (.int (4 : Int32)), .val (.int (3 : Int32)), .val (.ref (n0 + 1)), .val (.int (0 : Int32))]) rfl ?_
  refine H.iload s1_36 rfl ?_
  refine H.iloadN s1_38 rfl ?_
  refine H.icmpF s1_39 (show (0 : Int32) < (3 : Int32) by decide) ?_
  refine H.aloadN s1_42 rfl rfl ?_
  refine H.iload s1_43 rfl ?_
  refine H.iconst s1_45 (v := (1 : Int32)) (by decide) ?_
  refine H.iadd s1_46 (w := (1 : Int32)) (by decide) ?_
  refine H.dup2 s1_47 rfl rfl ?_
  refine H.iaload s1_48 (i := 1) (j := 1) rfl (by decide) (v := (.int (own_c [(N3 + 1), (N2 + 1), (N1 + 1), (N0 + 1)] 1))) rfl ?_
  refine H.aloadN s1_49 rfl rfl ?_
  refine H.iload s1_50 rfl ?_
  refine H.iaload s1_52 (i := 1) (j := 0) rfl (by decide) (v := (.int (own_c [(N3 + 1), (N2 + 1), (N1 + 1), (N0 + 1)] 0))) rfl ?_
  refine H.iadd s1_53 (w := (own_p [(N3 + 1), (N2 + 1), (N1 + 1), (N0 + 1)] 1)) rfl ?_
  refine H.iastore s1_54 (i := 1) (j := 1) rfl (by decide) (ltb rfl)  (A' := [.inr (.int, [(.int e0), (.int e1), (.int e2), (.int e3)]), .inr (.int, [(.int (own_c [(N3 + 1), (N2 + 1), (N1 + 1), (N0 + 1)] 0)), (.int (own_p [(N3 + 1), (N2 + 1), (N1 + 1), (N0 + 1)] 1)), (.int (own_c [(N3 + 1), (N2 + 1), (N1 + 1), (N0 + 1)] 2)), (.int (own_c [(N3 + 1), (N2 + 1), (N1 + 1), (N0 + 1)] 3))])]) rfl ?_
  refine H.iinc s1_55 rfl (w := (1 : Int32)) (by decide) (ls' := #[.val (.ref (n0 + 0)), .val (.int (4 : Int32)), .val (.int (3 : Int32)), .val (.ref (n0 + 1)), .val (.int (1 : Int32))]) rfl ?_
  refine H.goto s1_58 ?_
  refine H.iload s1_36 rfl ?_
  refine H.iloadN s1_38 rfl ?_
  refine H.icmpF s1_39 (show (1 : Int32) < (3 : Int32) by decide) ?_
  refine H.aloadN s1_42 rfl rfl ?_
  refine H.iload s1_43 rfl ?_
  refine H.iconst s1_45 (v := (1 : Int32)) (by decide) ?_
  refine H.iadd s1_46 (w := (2 : Int32)) (by decide) ?_
  refine H.dup2 s1_47 rfl rfl ?_
  refine H.iaload s1_48 (i := 1) (j := 2) rfl (by decide) (v := (.int (own_c [(N3 + 1), (N2 + 1), (N1 + 1), (N0 + 1)] 2))) rfl ?_
  refine H.aloadN s1_49 rfl rfl ?_
  refine H.iload s1_50 rfl ?_
  refine H.iaload s1_52 (i := 1) (j := 1) rfl (by decide) (v := (.int (own_p [(N3 + 1), (N2 + 1), (N1 + 1), (N0 + 1)] 1))) rfl ?_
  refine H.iadd s1_53 (w := (own_p [(N3 + 1), (N2 + 1), (N1 + 1), (N0 + 1)] 2)) rfl ?_
  refine H.iastore s1_54 (i := 1) (j := 2) rfl (by decide) (ltb rfl)  (A' := [.inr (.int, [(.int e0), (.int e1), (.int e2), (.int e3)]), .inr (.int, [(.int (own_c [(N3 + 1), (N2 + 1), (N1 + 1), (N0 + 1)] 0)), (.int (own_p [(N3 + 1), (N2 + 1), (N1 + 1), (N0 + 1)] 1)), (.int (own_p [(N3 + 1), (N2 + 1), (N1 + 1), (N0 + 1)] 2)), (.int (own_c [(N3 + 1), (N2 + 1), (N1 + 1), (N0 + 1)] 3))])]) rfl ?_
  refine H.iinc s1_55 rfl (w := (2 : Int32)) (by decide) (ls' := #[.val (.ref (n0 + 0)), .val (.int (4 : Int32)), .val (.int (3 : Int32)), .val (.ref (n0 + 1)), .val (.int (2 : Int32))]) rfl ?_
  refine H.goto s1_58 ?_
  refine H.iload s1_36 rfl ?_
  refine H.iloadN s1_38 rfl ?_
  refine H.icmpF s1_39 (show (2 : Int32) < (3 : Int32) by decide) ?_
  refine H.aloadN s1_42 rfl rfl ?_
  refine H.iload s1_43 rfl ?_
  refine H.iconst s1_45 (v := (1 : Int32)) (by decide) ?_
  refine H.iadd s1_46 (w := (3 : Int32)) (by decide) ?_
  refine H.dup2 s1_47 rfl rfl ?_
  refine H.iaload s1_48 (i := 1) (j := 3) rfl (by decide) (v := (.int (own_c [(N3 + 1), (N2 + 1), (N1 + 1), (N0 + 1)] 3))) rfl ?_
  refine H.aloadN s1_49 rfl rfl ?_
  refine H.iload s1_50 rfl ?_
  refine H.iaload s1_52 (i := 1) (j := 2) rfl (by decide) (v := (.int (own_p [(N3 + 1), (N2 + 1), (N1 + 1), (N0 + 1)] 2))) rfl ?_
  refine H.iadd s1_53 (w := (own_p [(N3 + 1), (N2 + 1), (N1 + 1), (N0 + 1)] 3)) rfl ?_
  refine H.iastore s1_54 (i := 1) (j := 3) rfl (by decide) (ltb rfl)  (A' := [.inr (.int, [(.int e0), (.int e1), (.int e2), (.int e3)]), .inr (.int, [(.int (own_c [(N3 + 1), (N2 + 1), (N1 + 1), (N0 + 1)] 0)), (.int (own_p [(N3 + 1), (N2 + 1), (N1 + 1), (N0 + 1)] 1)), (.int (own_p [(N3 + 1), (N2 + 1), (N1 + 1), (N0 + 1)] 2)), (.int (own_p [(N3 + 1), (N2 + 1), (N1 + 1), (N0 + 1)] 3))])]) rfl ?_
  refine H.iinc s1_55 rfl (w := (3 : Int32)) (by decide) (ls' := #[.val (.ref (n0 + 0)), .val (.int (4 : Int32)), .val (.int (3 : Int32)), .val (.ref (n0 + 1)), .val (.int (3 : Int32))]) rfl ?_
  refine H.goto s1_58 ?_
  refine H.iload s1_36 rfl ?_
  refine H.iloadN s1_38 rfl ?_
  refine H.icmpT s1_39 (show ¬ (3 : Int32) < (3 : Int32) by decide) ?_
  refine H.aloadN s1_61 rfl rfl ?_
  exact H.areturn s1_62 rfl rfl rfl rfl ⟨rfl, rfl⟩ (by decide) (by decide)


set_option maxRecDepth 65536 in
set_option maxHeartbeats 40000000 in
theorem a_16 (l : Launch) {Z : State} {a0 : Array Value} (hw : HW1 Z a0) (n0 : Nat) (e0 : Int32) (e1 : Int32) (e2 : Int32) (e3 : Int32) {N0 : Nat} (hN0 : e0.toInt = (N0 : Int)) (lN0 : N0 < 4) {N1 : Nat} (hN1 : e1.toInt = (N1 : Int)) (lN1 : N1 < 4) {N2 : Nat} (hN2 : e2.toInt = (N2 : Int)) (lN2 : N2 < 4) {N3 : Nat} (hN3 : e3.toInt = (N3 : Int)) (lN3 : N3 < 4) : Met l Z KT n0 y1 prog_8_method_2_code 5 (some (.array .int)) ({ frames := 0, cells := 1, slots := 5, locals := 0 } : Room) #[(.ref (n0 + 0)), (.int (0 : Int32)), (.int (4 : Int32))] [.inr (.int, [(.int e0), (.int e1), (.int e2), (.int e3)])] (Is (some (.ref (n0 + 1))) [.inr (.int, [(.int e0), (.int e1), (.int e2), (.int e3)]), .inr (.int, [(.int (0 : Int32)), (.int (0 : Int32)), (.int (0 : Int32)), (.int (0 : Int32)), (.int (0 : Int32))])]) := by
  refine Met.of (a0 := a0) (ls := #[.val (.ref (n0 + 0)), .val (.int (0 : Int32)), .val (.int (4 : Int32)), .unset, .unset]) (kok hw) (plainFor_of_name pn_4) (fun m => by first | (simp [entryFrame, mkF, argsToLocals, Value.category]; done) | rfl) (fun G H => ?_)
  refine H.iloadN s1_0 rfl ?_
  refine H.iconst s1_1 (v := (1 : Int32)) (by decide) ?_
  refine H.iadd s1_2 (w := (5 : Int32)) (by decide) ?_
  refine H.newarray s1_3 (ty := .int) rfl (k_3 hw) (N := 5) (cap := 5) (by decide) rfl (by decide) (by decide) (by first | rfl | simp) (by decide) (by decide) (i := 1) rfl (A' := [.inr (.int, [(.int e0), (.int e1), (.int e2), (.int e3)]), .inr (.int, [(.int (0 : Int32)), (.int (0 : Int32)), (.int (0 : Int32)), (.int (0 : Int32)), (.int (0 : Int32))])]) rfl (k' := 1) rfl (n' := 5) rfl ?_
  refine H.astoreN s1_5 rfl (ls' := #[.val (.ref (n0 + 0)), .val (.int (0 : Int32)), .val (.int (4 : Int32)), .val (.ref (n0 + 1)), .unset]) rfl ?_
  refine H.iconst s1_6 (v := (0 : Int32)) (by decide) ?_
  refine H.istore s1_7 (ls' := #[.val (.ref (n0 + 0)), .val (.int (0 : Int32)), .val (.int (4 : Int32)), .val (.ref (n0 + 1)), .val (.int (0 : Int32))]) rfl ?_
  refine H.iload s1_9 rfl ?_
  refine H.iloadN s1_11 rfl ?_
  refine H.icmpT s1_12 (show ¬ (0 : Int32) < (0 : Int32) by decide) ?_
  refine H.iconst s1_33 (v := (0 : Int32)) (by decide) ?_
  refine H.istore s1_34 (ls' := #[.val (.ref (n0 + 0)), .val (.int (0 : Int32)), .val (.int (4 : Int32)), .val (.ref (n0 + 1)), .val (.int (0 : Int32))]) rfl ?_
  refine H.iload s1_36 rfl ?_
  refine H.iloadN s1_38 rfl ?_
  refine H.icmpF s1_39 (show (0 : Int32) < (4 : Int32) by decide) ?_
  refine H.aloadN s1_42 rfl rfl ?_
  refine H.iload s1_43 rfl ?_
  refine H.iconst s1_45 (v := (1 : Int32)) (by decide) ?_
  refine H.iadd s1_46 (w := (1 : Int32)) (by decide) ?_
  refine H.dup2 s1_47 rfl rfl ?_
  refine H.iaload s1_48 (i := 1) (j := 1) rfl (by decide) (v := (.int (0 : Int32))) rfl ?_
  refine H.aloadN s1_49 rfl rfl ?_
  refine H.iload s1_50 rfl ?_
  refine H.iaload s1_52 (i := 1) (j := 0) rfl (by decide) (v := (.int (0 : Int32))) rfl ?_
  refine H.iadd s1_53 (w := (0 : Int32)) (by decide) ?_
  refine H.iastore s1_54 (i := 1) (j := 1) rfl (by decide) (ltb rfl)  (A' := [.inr (.int, [(.int e0), (.int e1), (.int e2), (.int e3)]), .inr (.int, [(.int (0 : Int32)), (.int (0 : Int32)), (.int (0 : Int32)), (.int (0 : Int32)), (.int (0 : Int32))])]) rfl ?_
  refine H.iinc s1_55 rfl (w := (1 : Int32)) (by decide) (ls' := #[.val (.ref (n0 + 0)), .val (.int (0 : Int32)), .val (.int (4 : Int32)), .val (.ref (n0 + 1)), .val (.int (1 : Int32))]) rfl ?_
  refine H.goto s1_58 ?_
  refine H.iload s1_36 rfl ?_
  refine H.iloadN s1_38 rfl ?_
  refine H.icmpF s1_39 (show (1 : Int32) < (4 : Int32) by decide) ?_
  refine H.aloadN s1_42 rfl rfl ?_
  refine H.iload s1_43 rfl ?_
  refine H.iconst s1_45 (v := (1 : Int32)) (by decide) ?_
  refine H.iadd s1_46 (w := (2 : Int32)) (by decide) ?_
  refine H.dup2 s1_47 rfl rfl ?_
  refine H.iaload s1_48 (i := 1) (j := 2) rfl (by decide) (v := (.int (0 : Int32))) rfl ?_
  refine H.aloadN s1_49 rfl rfl ?_
  refine H.iload s1_50 rfl ?_
  refine H.iaload s1_52 (i := 1) (j := 1) rfl (by decide) (v := (.int (0 : Int32))) rfl ?_
  refine H.iadd s1_53 (w := (0 : Int32)) (by decide) ?_
  refine H.iastore s1_54 (i := 1) (j := 2) rfl (by decide) (ltb rfl)  (A' := [.inr (.int, [(.int e0), (.int e1), (.int e2), (.int e3)]), .inr (.int, [(.int (0 : Int32)), (.int (0 : Int32)), (.int (0 : Int32)), (.int (0 : Int32)), (.int (0 : Int32))])]) rfl ?_
  refine H.iinc s1_55 rfl (w := (2 : Int32)) (by decide) (ls' := #[.val (.ref (n0 + 0)), .val (.int (0 : Int32)), .val (.int (4 : Int32)), .val (.ref (n0 + 1)), .val (.int (2 : Int32))]) rfl ?_
  refine H.goto s1_58 ?_
  refine H.iload s1_36 rfl ?_
  refine H.iloadN s1_38 rfl ?_
  refine H.icmpF s1_39 (show (2 : Int32) < (4 : Int32) by decide) ?_
  refine H.aloadN s1_42 rfl rfl ?_
  refine H.iload s1_43 rfl ?_
  refine H.iconst s1_45 (v := (1 : Int32)) (by decide) ?_
  refine H.iadd s1_46 (w := (3 : Int32)) (by decide) ?_
  refine H.dup2 s1_47 rfl rfl ?_
  refine H.iaload s1_48 (i := 1) (j := 3) rfl (by decide) (v := (.int (0 : Int32))) rfl ?_
  refine H.aloadN s1_49 rfl rfl ?_
  refine H.iload s1_50 rfl ?_
  refine H.iaload s1_52 (i := 1) (j := 2) rfl (by decide) (v := (.int (0 : Int32))) rfl ?_
  refine H.iadd s1_53 (w := (0 : Int32)) (by decide) ?_
  refine H.iastore s1_54 (i := 1) (j := 3) rfl (by decide) (ltb rfl)  (A' := [.inr (.int, [(.int e0), (.int e1), (.int e2), (.int e3)]), .inr (.int, [(.int (0 : Int32)), (.int (0 : Int32)), (.int (0 : Int32)), (.int (0 : Int32)), (.int (0 : Int32))])]) rfl ?_
  refine H.iinc s1_55 rfl (w := (3 : Int32)) (by decide) (ls' := #[.val (.ref (n0 + 0)), .val (.int (0 : Int32)), .val (.int (4 : Int32)), .val (.ref (n0 + 1)), .val (.int (3 : Int32))]) rfl ?_
  refine H.goto s1_58 ?_
  refine H.iload s1_36 rfl ?_
  refine H.iloadN s1_38 rfl ?_
  refine H.icmpF s1_39 (show (3 : Int32) < (4 : Int32) by decide) ?_
  refine H.aloadN s1_42 rfl rfl ?_
  refine H.iload s1_43 rfl ?_
  refine H.iconst s1_45 (v := (1 : Int32)) (by decide) ?_
  refine H.iadd s1_46 (w := (4 : Int32)) (by decide) ?_
  refine H.dup2 s1_47 rfl rfl ?_
  refine H.iaload s1_48 (i := 1) (j := 4) rfl (by decide) (v := (.int (0 : Int32))) rfl ?_
  refine H.aloadN s1_49 rfl rfl ?_
  refine H.iload s1_50 rfl ?_
  refine H.iaload s1_52 (i := 1) (j := 3) rfl (by decide) (v := (.int (0 : Int32))) rfl ?_
  refine H.iadd s1_53 (w := (0 : Int32)) (by decide) ?_
  refine H.iastore s1_54 (i := 1) (j := 4) rfl (by decide) (ltb rfl)  (A' := [.inr (.int, [(.int e0), (.int e1), (.int e2), (.int e3)]), .inr (.int, [(.int (0 : Int32)), (.int (0 : Int32)), (.int (0 : Int32)), (.int (0 : Int32)), (.int (0 : Int32))])]) rfl ?_
  refine H.iinc s1_55 rfl (w := (4 : Int32)) (by decide) (ls' := #[.val (.ref (n0 + 0)), .val (.int (0 : Int32)), .val (.int (4 : Int32)), .val (.ref (n0 + 1)), .val (.int (4 : Int32))]) rfl ?_
  refine H.goto s1_58 ?_
  refine H.iload s1_36 rfl ?_
  refine H.iloadN s1_38 rfl ?_
  refine H.icmpT s1_39 (show ¬ (4 : Int32) < (4 : Int32) by decide) ?_
  refine H.aloadN s1_61 rfl rfl ?_
  exact H.areturn s1_62 rfl rfl rfl rfl ⟨rfl, rfl⟩ (by decide) (by decide)


set_option maxRecDepth 65536 in
set_option maxHeartbeats 40000000 in
theorem a_17 (l : Launch) {Z : State} {a0 : Array Value} (hw : HW1 Z a0) (n0 : Nat) (e0 : Int32) (e1 : Int32) (e2 : Int32) (e3 : Int32) {N0 : Nat} (hN0 : e0.toInt = (N0 : Int)) (lN0 : N0 < 4) {N1 : Nat} (hN1 : e1.toInt = (N1 : Int)) (lN1 : N1 < 4) {N2 : Nat} (hN2 : e2.toInt = (N2 : Int)) (lN2 : N2 < 4) {N3 : Nat} (hN3 : e3.toInt = (N3 : Int)) (lN3 : N3 < 4) : Met l Z KT n0 y1 prog_8_method_2_code 5 (some (.array .int)) ({ frames := 0, cells := 1, slots := 5, locals := 0 } : Room) #[(.ref (n0 + 0)), (.int (1 : Int32)), (.int (4 : Int32))] [.inr (.int, [(.int e0), (.int e1), (.int e2), (.int e3)])] (Is (some (.ref (n0 + 1))) [.inr (.int, [(.int e0), (.int e1), (.int e2), (.int e3)]), .inr (.int, [(.int (own_c [(N0 + 1)] 0)), (.int (own_p [(N0 + 1)] 1)), (.int (own_p [(N0 + 1)] 2)), (.int (own_p [(N0 + 1)] 3)), (.int (own_p [(N0 + 1)] 4))])]) := by
  refine Met.of (a0 := a0) (ls := #[.val (.ref (n0 + 0)), .val (.int (1 : Int32)), .val (.int (4 : Int32)), .unset, .unset]) (kok hw) (plainFor_of_name pn_4) (fun m => by first | (simp [entryFrame, mkF, argsToLocals, Value.category]; done) | rfl) (fun G H => ?_)
  refine H.iloadN s1_0 rfl ?_
  refine H.iconst s1_1 (v := (1 : Int32)) (by decide) ?_
  refine H.iadd s1_2 (w := (5 : Int32)) (by decide) ?_
  refine H.newarray s1_3 (ty := .int) rfl (k_3 hw) (N := 5) (cap := 5) (by decide) rfl (by decide) (by decide) (by first | rfl | simp) (by decide) (by decide) (i := 1) rfl (A' := [.inr (.int, [(.int e0), (.int e1), (.int e2), (.int e3)]), .inr (.int, [(.int (0 : Int32)), (.int (0 : Int32)), (.int (0 : Int32)), (.int (0 : Int32)), (.int (0 : Int32))])]) rfl (k' := 1) rfl (n' := 5) rfl ?_
  refine H.astoreN s1_5 rfl (ls' := #[.val (.ref (n0 + 0)), .val (.int (1 : Int32)), .val (.int (4 : Int32)), .val (.ref (n0 + 1)), .unset]) rfl ?_
  refine H.iconst s1_6 (v := (0 : Int32)) (by decide) ?_
  refine H.istore s1_7 (ls' := #[.val (.ref (n0 + 0)), .val (.int (1 : Int32)), .val (.int (4 : Int32)), .val (.ref (n0 + 1)), .val (.int (0 : Int32))]) rfl ?_
  refine H.iload s1_9 rfl ?_
  refine H.iloadN s1_11 rfl ?_
  refine H.icmpF s1_12 (show (0 : Int32) < (1 : Int32) by decide) ?_
  refine H.aloadN s1_15 rfl rfl ?_
  refine H.aloadN s1_16 rfl rfl ?_
  refine H.iload s1_17 rfl ?_
  refine H.iaload s1_19 (i := 0) (j := 0) rfl (by decide) (v := (.int e0)) rfl ?_
  refine H.iconst s1_20 (v := (1 : Int32)) (by decide) ?_
  refine H.iadd s1_21 rfl ?_
  refine H.dup2 s1_22 rfl rfl ?_
  refine H.iaload s1_23 (i := 1) (j := (N0 + 1)) rfl (own_e1 4 hN0 lN0 (by decide)) (v := (.int (own_c [] (N0 + 1)))) (own_get 5 [] (by omega)) ?_
  refine H.iconst s1_24 (v := (1 : Int32)) (by decide) ?_
  refine H.iadd s1_25 rfl ?_
  refine H.iastore s1_26 (i := 1) (j := (N0 + 1)) rfl (own_e1 4 hN0 lN0 (by decide)) (by show _ < 5; omega)  (A' := [.inr (.int, [(.int e0), (.int e1), (.int e2), (.int e3)]), .inr (.int, [(.int (own_c [(N0 + 1)] 0)), (.int (own_c [(N0 + 1)] 1)), (.int (own_c [(N0 + 1)] 2)), (.int (own_c [(N0 + 1)] 3)), (.int (own_c [(N0 + 1)] 4))])]) (congrArg (fun z => ([.inr (.int, [(.int e0), (.int e1), (.int e2), (.int e3)]), .inr (.int, [(.int (0 : Int32)), (.int (0 : Int32)), (.int (0 : Int32)), (.int (0 : Int32)), (.int (0 : Int32))])] : List Ob).set 1 (.inr (.int, z))) (own_set 5 [] (by omega))) ?_
  refine H.iinc s1_27 rfl (w := (1 : Int32)) (by decide) (ls' := #[.val (.ref (n0 + 0)), .val (.int (1 : Int32)), .val (.int (4 : Int32)), .val (.ref (n0 + 1)), .val (.int (1 : Int32))]) rfl ?_
  refine H.goto s1_30 ?_
  refine H.iload s1_9 rfl ?_
  refine H.iloadN s1_11 rfl ?_
  refine H.icmpT s1_12 (show ¬ (1 : Int32) < (1 : Int32) by decide) ?_
  refine H.iconst s1_33 (v := (0 : Int32)) (by decide) ?_
  refine H.istore s1_34 (ls' := #[.val (.ref (n0 + 0)), .val (.int (1 : Int32)), .val (.int (4 : Int32)), .val (.ref (n0 + 1)), .val (.int (0 : Int32))]) rfl ?_
  refine H.iload s1_36 rfl ?_
  refine H.iloadN s1_38 rfl ?_
  refine H.icmpF s1_39 (show (0 : Int32) < (4 : Int32) by decide) ?_
  refine H.aloadN s1_42 rfl rfl ?_
  refine H.iload s1_43 rfl ?_
  refine H.iconst s1_45 (v := (1 : Int32)) (by decide) ?_
  refine H.iadd s1_46 (w := (1 : Int32)) (by decide) ?_
  refine H.dup2 s1_47 rfl rfl ?_
  refine H.iaload s1_48 (i := 1) (j := 1) rfl (by decide) (v := (.int (own_c [(N0 + 1)] 1))) rfl ?_
  refine H.aloadN s1_49 rfl rfl ?_
  refine H.iload s1_50 rfl ?_
  refine H.iaload s1_52 (i := 1) (j := 0) rfl (by decide) (v := (.int (own_c [(N0 + 1)] 0))) rfl ?_
  refine H.iadd s1_53 (w := (own_p [(N0 + 1)] 1)) rfl ?_
  refine H.iastore s1_54 (i := 1) (j := 1) rfl (by decide) (ltb rfl)  (A' := [.inr (.int, [(.int e0), (.int e1), (.int e2), (.int e3)]), .inr (.int, [(.int (own_c [(N0 + 1)] 0)), (.int (own_p [(N0 + 1)] 1)), (.int (own_c [(N0 + 1)] 2)), (.int (own_c [(N0 + 1)] 3)), (.int (own_c [(N0 + 1)] 4))])]) rfl ?_
  refine H.iinc s1_55 rfl (w := (1 : Int32)) (by decide) (ls' := #[.val (.ref (n0 + 0)), .val (.int (1 : Int32)), .val (.int (4 : Int32)), .val (.ref (n0 + 1)), .val (.int (1 : Int32))]) rfl ?_
  refine H.goto s1_58 ?_
  refine H.iload s1_36 rfl ?_
  refine H.iloadN s1_38 rfl ?_
  refine H.icmpF s1_39 (show (1 : Int32) < (4 : Int32) by decide) ?_
  refine H.aloadN s1_42 rfl rfl ?_
  refine H.iload s1_43 rfl ?_
  refine H.iconst s1_45 (v := (1 : Int32)) (by decide) ?_
  refine H.iadd s1_46 (w := (2 : Int32)) (by decide) ?_
  refine H.dup2 s1_47 rfl rfl ?_
  refine H.iaload s1_48 (i := 1) (j := 2) rfl (by decide) (v := (.int (own_c [(N0 + 1)] 2))) rfl ?_
  refine H.aloadN s1_49 rfl rfl ?_
  refine H.iload s1_50 rfl ?_
  refine H.iaload s1_52 (i := 1) (j := 1) rfl (by decide) (v := (.int (own_p [(N0 + 1)] 1))) rfl ?_
  refine H.iadd s1_53 (w := (own_p [(N0 + 1)] 2)) rfl ?_
  refine H.iastore s1_54 (i := 1) (j := 2) rfl (by decide) (ltb rfl)  (A' := [.inr (.int, [(.int e0), (.int e1), (.int e2), (.int e3)]), .inr (.int, [(.int (own_c [(N0 + 1)] 0)), (.int (own_p [(N0 + 1)] 1)), (.int (own_p [(N0 + 1)] 2)), (.int (own_c [(N0 + 1)] 3)), (.int (own_c [(N0 + 1)] 4))])]) rfl ?_
  refine H.iinc s1_55 rfl (w := (2 : Int32)) (by decide) (ls' := #[.val (.ref (n0 + 0)), .val (.int (1 : Int32)), .val (.int (4 : Int32)), .val (.ref (n0 + 1)), .val (.int (2 : Int32))]) rfl ?_
  refine H.goto s1_58 ?_
  refine H.iload s1_36 rfl ?_
  refine H.iloadN s1_38 rfl ?_
  refine H.icmpF s1_39 (show (2 : Int32) < (4 : Int32) by decide) ?_
  refine H.aloadN s1_42 rfl rfl ?_
  refine H.iload s1_43 rfl ?_
  refine H.iconst s1_45 (v := (1 : Int32)) (by decide) ?_
  refine H.iadd s1_46 (w := (3 : Int32)) (by decide) ?_
  refine H.dup2 s1_47 rfl rfl ?_
  refine H.iaload s1_48 (i := 1) (j := 3) rfl (by decide) (v := (.int (own_c [(N0 + 1)] 3))) rfl ?_
  refine H.aloadN s1_49 rfl rfl ?_
  refine H.iload s1_50 rfl ?_
  refine H.iaload s1_52 (i := 1) (j := 2) rfl (by decide) (v := (.int (own_p [(N0 + 1)] 2))) rfl ?_
  refine H.iadd s1_53 (w := (own_p [(N0 + 1)] 3)) rfl ?_
  refine H.iastore s1_54 (i := 1) (j := 3) rfl (by decide) (ltb rfl)  (A' := [.inr (.int, [(.int e0), (.int e1), (.int e2), (.int e3)]), .inr (.int, [(.int (own_c [(N0 + 1)] 0)), (.int (own_p [(N0 + 1)] 1)), (.int (own_p [(N0 + 1)] 2)), (.int (own_p [(N0 + 1)] 3)), (.int (own_c [(N0 + 1)] 4))])]) rfl ?_
  refine H.iinc s1_55 rfl (w := (3 : Int32)) (by decide) (ls' := #[.val (.ref (n0 + 0)), .val (.int (1 : Int32)), .val (.int (4 : Int32)), .val (.ref (n0 + 1)), .val (.int (3 : Int32))]) rfl ?_
  refine H.goto s1_58 ?_
  refine H.iload s1_36 rfl ?_
  refine H.iloadN s1_38 rfl ?_
  refine H.icmpF s1_39 (show (3 : Int32) < (4 : Int32) by decide) ?_
  refine H.aloadN s1_42 rfl rfl ?_
  refine H.iload s1_43 rfl ?_
  refine H.iconst s1_45 (v := (1 : Int32)) (by decide) ?_
  refine H.iadd s1_46 (w := (4 : Int32)) (by decide) ?_
  refine H.dup2 s1_47 rfl rfl ?_
  refine H.iaload s1_48 (i := 1) (j := 4) rfl (by decide) (v := (.int (own_c [(N0 + 1)] 4))) rfl ?_
  refine H.aloadN s1_49 rfl rfl ?_
  refine H.iload s1_50 rfl ?_
  refine H.iaload s1_52 (i := 1) (j := 3) rfl (by decide) (v := (.int (own_p [(N0 + 1)] 3))) rfl ?_
  refine H.iadd s1_53 (w := (own_p [(N0 + 1)] 4)) rfl ?_
  refine H.iastore s1_54 (i := 1) (j := 4) rfl (by decide) (ltb rfl)  (A' := [.inr (.int, [(.int e0), (.int e1), (.int e2), (.int e3)]), .inr (.int, [(.int (own_c [(N0 + 1)] 0)), (.int (own_p [(N0 + 1)] 1)), (.int (own_p [(N0 + 1)] 2)), (.int (own_p [(N0 + 1)] 3)), (.int (own_p [(N0 + 1)] 4))])]) rfl ?_
  refine H.iinc s1_55 rfl (w := (4 : Int32)) (by decide) (ls' := #[.val (.ref (n0 + 0)), .val (.int (1 : Int32)), .val (.int (4 : Int32)), .val (.ref (n0 + 1)), .val (.int (4 : Int32))]) rfl ?_
  refine H.goto s1_58 ?_
  refine H.iload s1_36 rfl ?_
  refine H.iloadN s1_38 rfl ?_
  refine H.icmpT s1_39 (show ¬ (4 : Int32) < (4 : Int32) by decide) ?_
  refine H.aloadN s1_61 rfl rfl ?_
  exact H.areturn s1_62 rfl rfl rfl rfl ⟨rfl, rfl⟩ (by decide) (by decide)


set_option maxRecDepth 65536 in
set_option maxHeartbeats 40000000 in
theorem a_18 (l : Launch) {Z : State} {a0 : Array Value} (hw : HW1 Z a0) (n0 : Nat) (e0 : Int32) (e1 : Int32) (e2 : Int32) (e3 : Int32) {N0 : Nat} (hN0 : e0.toInt = (N0 : Int)) (lN0 : N0 < 4) {N1 : Nat} (hN1 : e1.toInt = (N1 : Int)) (lN1 : N1 < 4) {N2 : Nat} (hN2 : e2.toInt = (N2 : Int)) (lN2 : N2 < 4) {N3 : Nat} (hN3 : e3.toInt = (N3 : Int)) (lN3 : N3 < 4) : Met l Z KT n0 y1 prog_8_method_2_code 5 (some (.array .int)) ({ frames := 0, cells := 1, slots := 5, locals := 0 } : Room) #[(.ref (n0 + 0)), (.int (2 : Int32)), (.int (4 : Int32))] [.inr (.int, [(.int e0), (.int e1), (.int e2), (.int e3)])] (Is (some (.ref (n0 + 1))) [.inr (.int, [(.int e0), (.int e1), (.int e2), (.int e3)]), .inr (.int, [(.int (own_c [(N1 + 1), (N0 + 1)] 0)), (.int (own_p [(N1 + 1), (N0 + 1)] 1)), (.int (own_p [(N1 + 1), (N0 + 1)] 2)), (.int (own_p [(N1 + 1), (N0 + 1)] 3)), (.int (own_p [(N1 + 1), (N0 + 1)] 4))])]) := by
  refine Met.of (a0 := a0) (ls := #[.val (.ref (n0 + 0)), .val (.int (2 : Int32)), .val (.int (4 : Int32)), .unset, .unset]) (kok hw) (plainFor_of_name pn_4) (fun m => by first | (simp [entryFrame, mkF, argsToLocals, Value.category]; done) | rfl) (fun G H => ?_)
  refine H.iloadN s1_0 rfl ?_
  refine H.iconst s1_1 (v := (1 : Int32)) (by decide) ?_
  refine H.iadd s1_2 (w := (5 : Int32)) (by decide) ?_
  refine H.newarray s1_3 (ty := .int) rfl (k_3 hw) (N := 5) (cap := 5) (by decide) rfl (by decide) (by decide) (by first | rfl | simp) (by decide) (by decide) (i := 1) rfl (A' := [.inr (.int, [(.int e0), (.int e1), (.int e2), (.int e3)]), .inr (.int, [(.int (0 : Int32)), (.int (0 : Int32)), (.int (0 : Int32)), (.int (0 : Int32)), (.int (0 : Int32))])]) rfl (k' := 1) rfl (n' := 5) rfl ?_
  refine H.astoreN s1_5 rfl (ls' := #[.val (.ref (n0 + 0)), .val (.int (2 : Int32)), .val (.int (4 : Int32)), .val (.ref (n0 + 1)), .unset]) rfl ?_
  refine H.iconst s1_6 (v := (0 : Int32)) (by decide) ?_
  refine H.istore s1_7 (ls' := #[.val (.ref (n0 + 0)), .val (.int (2 : Int32)), .val (.int (4 : Int32)), .val (.ref (n0 + 1)), .val (.int (0 : Int32))]) rfl ?_
  refine H.iload s1_9 rfl ?_
  refine H.iloadN s1_11 rfl ?_
  refine H.icmpF s1_12 (show (0 : Int32) < (2 : Int32) by decide) ?_
  refine H.aloadN s1_15 rfl rfl ?_
  refine H.aloadN s1_16 rfl rfl ?_
  refine H.iload s1_17 rfl ?_
  refine H.iaload s1_19 (i := 0) (j := 0) rfl (by decide) (v := (.int e0)) rfl ?_
  refine H.iconst s1_20 (v := (1 : Int32)) (by decide) ?_
  refine H.iadd s1_21 rfl ?_
  refine H.dup2 s1_22 rfl rfl ?_
  refine H.iaload s1_23 (i := 1) (j := (N0 + 1)) rfl (own_e1 4 hN0 lN0 (by decide)) (v := (.int (own_c [] (N0 + 1)))) (own_get 5 [] (by omega)) ?_
  refine H.iconst s1_24 (v := (1 : Int32)) (by decide) ?_
  refine H.iadd s1_25 rfl ?_
  refine H.iastore s1_26 (i := 1) (j := (N0 + 1)) rfl (own_e1 4 hN0 lN0 (by decide)) (by show _ < 5; omega)  (A' := [.inr (.int, [(.int e0), (.int e1), (.int e2), (.int e3)]), .inr (.int, [(.int (own_c [(N0 + 1)] 0)), (.int (own_c [(N0 + 1)] 1)), (.int (own_c [(N0 + 1)] 2)), (.int (own_c [(N0 + 1)] 3)), (.int (own_c [(N0 + 1)] 4))])]) (congrArg (fun z => ([.inr (.int, [(.int e0), (.int e1), (.int e2), (.int e3)]), .inr (.int, [(.int (0 : Int32)), (.int (0 : Int32)), (.int (0 : Int32)), (.int (0 : Int32)), (.int (0 : Int32))])] : List Ob).set 1 (.inr (.int, z))) (own_set 5 [] (by omega))) ?_
  refine H.iinc s1_27 rfl (w := (1 : Int32)) (by decide) (ls' := #[.val (.ref (n0 + 0)), .val (.int (2 : Int32)), .val (.int (4 : Int32)), .val (.ref (n0 + 1)), .val (.int (1 : Int32))]) rfl ?_
  refine H.goto s1_30 ?_
  refine H.iload s1_9 rfl ?_
  refine H.iloadN s1_11 rfl ?_
  refine H.icmpF s1_12 (show (1 : Int32) < (2 : Int32) by decide) ?_
  refine H.aloadN s1_15 rfl rfl ?_
  refine H.aloadN s1_16 rfl rfl ?_
  refine H.iload s1_17 rfl ?_
  refine H.iaload s1_19 (i := 0) (j := 1) rfl (by decide) (v := (.int e1)) rfl ?_
  refine H.iconst s1_20 (v := (1 : Int32)) (by decide) ?_
  refine H.iadd s1_21 rfl ?_
  refine H.dup2 s1_22 rfl rfl ?_
  refine H.iaload s1_23 (i := 1) (j := (N1 + 1)) rfl (own_e1 4 hN1 lN1 (by decide)) (v := (.int (own_c [(N0 + 1)] (N1 + 1)))) (own_get 5 [(N0 + 1)] (by omega)) ?_
  refine H.iconst s1_24 (v := (1 : Int32)) (by decide) ?_
  refine H.iadd s1_25 rfl ?_
  refine H.iastore s1_26 (i := 1) (j := (N1 + 1)) rfl (own_e1 4 hN1 lN1 (by decide)) (by show _ < 5; omega)  (A' := [.inr (.int, [(.int e0), (.int e1), (.int e2), (.int e3)]), .inr (.int, [(.int (own_c [(N1 + 1), (N0 + 1)] 0)), (.int (own_c [(N1 + 1), (N0 + 1)] 1)), (.int (own_c [(N1 + 1), (N0 + 1)] 2)), (.int (own_c [(N1 + 1), (N0 + 1)] 3)), (.int (own_c [(N1 + 1), (N0 + 1)] 4))])]) (congrArg (fun z => ([.inr (.int, [(.int e0), (.int e1), (.int e2), (.int e3)]), .inr (.int, [(.int (own_c [(N0 + 1)] 0)), (.int (own_c [(N0 + 1)] 1)), (.int (own_c [(N0 + 1)] 2)), (.int (own_c [(N0 + 1)] 3)), (.int (own_c [(N0 + 1)] 4))])] : List Ob).set 1 (.inr (.int, z))) (own_set 5 [(N0 + 1)] (by omega))) ?_
  refine H.iinc s1_27 rfl (w := (2 : Int32)) (by decide) (ls' := #[.val (.ref (n0 + 0)), .val (.int (2 : Int32)), .val (.int (4 : Int32)), .val (.ref (n0 + 1)), .val (.int (2 : Int32))]) rfl ?_
  refine H.goto s1_30 ?_
  refine H.iload s1_9 rfl ?_
  refine H.iloadN s1_11 rfl ?_
  refine H.icmpT s1_12 (show ¬ (2 : Int32) < (2 : Int32) by decide) ?_
  refine H.iconst s1_33 (v := (0 : Int32)) (by decide) ?_
  refine H.istore s1_34 (ls' := #[.val (.ref (n0 + 0)), .val (.int (2 : Int32)), .val (.int (4 : Int32)), .val (.ref (n0 + 1)), .val (.int (0 : Int32))]) rfl ?_
  refine H.iload s1_36 rfl ?_
  refine H.iloadN s1_38 rfl ?_
  refine H.icmpF s1_39 (show (0 : Int32) < (4 : Int32) by decide) ?_
  refine H.aloadN s1_42 rfl rfl ?_
  refine H.iload s1_43 rfl ?_
  refine H.iconst s1_45 (v := (1 : Int32)) (by decide) ?_
  refine H.iadd s1_46 (w := (1 : Int32)) (by decide) ?_
  refine H.dup2 s1_47 rfl rfl ?_
  refine H.iaload s1_48 (i := 1) (j := 1) rfl (by decide) (v := (.int (own_c [(N1 + 1), (N0 + 1)] 1))) rfl ?_
  refine H.aloadN s1_49 rfl rfl ?_
  refine H.iload s1_50 rfl ?_
  refine H.iaload s1_52 (i := 1) (j := 0) rfl (by decide) (v := (.int (own_c [(N1 + 1), (N0 + 1)] 0))) rfl ?_
  refine H.iadd s1_53 (w := (own_p [(N1 + 1), (N0 + 1)] 1)) rfl ?_
  refine H.iastore s1_54 (i := 1) (j := 1) rfl (by decide) (ltb rfl)  (A' := [.inr (.int, [(.int e0), (.int e1), (.int e2), (.int e3)]), .inr (.int, [(.int (own_c [(N1 + 1), (N0 + 1)] 0)), (.int (own_p [(N1 + 1), (N0 + 1)] 1)), (.int (own_c [(N1 + 1), (N0 + 1)] 2)), (.int (own_c [(N1 + 1), (N0 + 1)] 3)), (.int (own_c [(N1 + 1), (N0 + 1)] 4))])]) rfl ?_
  refine H.iinc s1_55 rfl (w := (1 : Int32)) (by decide) (ls' := #[.val (.ref (n0 + 0)), .val (.int (2 : Int32)), .val (.int (4 : Int32)), .val (.ref (n0 + 1)), .val (.int (1 : Int32))]) rfl ?_
  refine H.goto s1_58 ?_
  refine H.iload s1_36 rfl ?_
  refine H.iloadN s1_38 rfl ?_
  refine H.icmpF s1_39 (show (1 : Int32) < (4 : Int32) by decide) ?_
  refine H.aloadN s1_42 rfl rfl ?_
  refine H.iload s1_43 rfl ?_
  refine H.iconst s1_45 (v := (1 : Int32)) (by decide) ?_
  refine H.iadd s1_46 (w := (2 : Int32)) (by decide) ?_
  refine H.dup2 s1_47 rfl rfl ?_
  refine H.iaload s1_48 (i := 1) (j := 2) rfl (by decide) (v := (.int (own_c [(N1 + 1), (N0 + 1)] 2))) rfl ?_
  refine H.aloadN s1_49 rfl rfl ?_
  refine H.iload s1_50 rfl ?_
  refine H.iaload s1_52 (i := 1) (j := 1) rfl (by decide) (v := (.int (own_p [(N1 + 1), (N0 + 1)] 1))) rfl ?_
  refine H.iadd s1_53 (w := (own_p [(N1 + 1), (N0 + 1)] 2)) rfl ?_
  refine H.iastore s1_54 (i := 1) (j := 2) rfl (by decide) (ltb rfl)  (A' := [.inr (.int, [(.int e0), (.int e1), (.int e2), (.int e3)]), .inr (.int, [(.int (own_c [(N1 + 1), (N0 + 1)] 0)), (.int (own_p [(N1 + 1), (N0 + 1)] 1)), (.int (own_p [(N1 + 1), (N0 + 1)] 2)), (.int (own_c [(N1 + 1), (N0 + 1)] 3)), (.int (own_c [(N1 + 1), (N0 + 1)] 4))])]) rfl ?_
  refine H.iinc s1_55 rfl (w := (2 : Int32)) (by decide) (ls' := #[.val (.ref (n0 + 0)), .val (.int (2 : Int32)), .val (.int (4 : Int32)), .val (.ref (n0 + 1)), .val (.int (2 : Int32))]) rfl ?_
  refine H.goto s1_58 ?_
  refine H.iload s1_36 rfl ?_
  refine H.iloadN s1_38 rfl ?_
  refine H.icmpF s1_39 (show (2 : Int32) < (4 : Int32) by decide) ?_
  refine H.aloadN s1_42 rfl rfl ?_
  refine H.iload s1_43 rfl ?_
  refine H.iconst s1_45 (v := (1 : Int32)) (by decide) ?_
  refine H.iadd s1_46 (w := (3 : Int32)) (by decide) ?_
  refine H.dup2 s1_47 rfl rfl ?_
  refine H.iaload s1_48 (i := 1) (j := 3) rfl (by decide) (v := (.int (own_c [(N1 + 1), (N0 + 1)] 3))) rfl ?_
  refine H.aloadN s1_49 rfl rfl ?_
  refine H.iload s1_50 rfl ?_
  refine H.iaload s1_52 (i := 1) (j := 2) rfl (by decide) (v := (.int (own_p [(N1 + 1), (N0 + 1)] 2))) rfl ?_
  refine H.iadd s1_53 (w := (own_p [(N1 + 1), (N0 + 1)] 3)) rfl ?_
  refine H.iastore s1_54 (i := 1) (j := 3) rfl (by decide) (ltb rfl)  (A' := [.inr (.int, [(.int e0), (.int e1), (.int e2), (.int e3)]), .inr (.int, [(.int (own_c [(N1 + 1), (N0 + 1)] 0)), (.int (own_p [(N1 + 1), (N0 + 1)] 1)), (.int (own_p [(N1 + 1), (N0 + 1)] 2)), (.int (own_p [(N1 + 1), (N0 + 1)] 3)), (.int (own_c [(N1 + 1), (N0 + 1)] 4))])]) rfl ?_
  refine H.iinc s1_55 rfl (w := (3 : Int32)) (by decide) (ls' := #[.val (.ref (n0 + 0)), .val (.int (2 : Int32)), .val (.int (4 : Int32)), .val (.ref (n0 + 1)), .val (.int (3 : Int32))]) rfl ?_
  refine H.goto s1_58 ?_
  refine H.iload s1_36 rfl ?_
  refine H.iloadN s1_38 rfl ?_
  refine H.icmpF s1_39 (show (3 : Int32) < (4 : Int32) by decide) ?_
  refine H.aloadN s1_42 rfl rfl ?_
  refine H.iload s1_43 rfl ?_
  refine H.iconst s1_45 (v := (1 : Int32)) (by decide) ?_
  refine H.iadd s1_46 (w := (4 : Int32)) (by decide) ?_
  refine H.dup2 s1_47 rfl rfl ?_
  refine H.iaload s1_48 (i := 1) (j := 4) rfl (by decide) (v := (.int (own_c [(N1 + 1), (N0 + 1)] 4))) rfl ?_
  refine H.aloadN s1_49 rfl rfl ?_
  refine H.iload s1_50 rfl ?_
  refine H.iaload s1_52 (i := 1) (j := 3) rfl (by decide) (v := (.int (own_p [(N1 + 1), (N0 + 1)] 3))) rfl ?_
  refine H.iadd s1_53 (w := (own_p [(N1 + 1), (N0 + 1)] 4)) rfl ?_
  refine H.iastore s1_54 (i := 1) (j := 4) rfl (by decide) (ltb rfl)  (A' := [.inr (.int, [(.int e0), (.int e1), (.int e2), (.int e3)]), .inr (.int, [(.int (own_c [(N1 + 1), (N0 + 1)] 0)), (.int (own_p [(N1 + 1), (N0 + 1)] 1)), (.int (own_p [(N1 + 1), (N0 + 1)] 2)), (.int (own_p [(N1 + 1), (N0 + 1)] 3)), (.int (own_p [(N1 + 1), (N0 + 1)] 4))])]) rfl ?_
  refine H.iinc s1_55 rfl (w := (4 : Int32)) (by decide) (ls' := #[.val (.ref (n0 + 0)), .val (.int (2 : Int32)), .val (.int (4 : Int32)), .val (.ref (n0 + 1)), .val (.int (4 : Int32))]) rfl ?_
  refine H.goto s1_58 ?_
  refine H.iload s1_36 rfl ?_
  refine H.iloadN s1_38 rfl ?_
  refine H.icmpT s1_39 (show ¬ (4 : Int32) < (4 : Int32) by decide) ?_
  refine H.aloadN s1_61 rfl rfl ?_
  exact H.areturn s1_62 rfl rfl rfl rfl ⟨rfl, rfl⟩ (by decide) (by decide)


set_option maxRecDepth 65536 in
set_option maxHeartbeats 40000000 in
theorem a_19 (l : Launch) {Z : State} {a0 : Array Value} (hw : HW1 Z a0) (n0 : Nat) (e0 : Int32) (e1 : Int32) (e2 : Int32) (e3 : Int32) {N0 : Nat} (hN0 : e0.toInt = (N0 : Int)) (lN0 : N0 < 4) {N1 : Nat} (hN1 : e1.toInt = (N1 : Int)) (lN1 : N1 < 4) {N2 : Nat} (hN2 : e2.toInt = (N2 : Int)) (lN2 : N2 < 4) {N3 : Nat} (hN3 : e3.toInt = (N3 : Int)) (lN3 : N3 < 4) : Met l Z KT n0 y1 prog_8_method_2_code 5 (some (.array .int)) ({ frames := 0, cells := 1, slots := 5, locals := 0 } : Room) #[(.ref (n0 + 0)), (.int (3 : Int32)), (.int (4 : Int32))] [.inr (.int, [(.int e0), (.int e1), (.int e2), (.int e3)])] (Is (some (.ref (n0 + 1))) [.inr (.int, [(.int e0), (.int e1), (.int e2), (.int e3)]), .inr (.int, [(.int (own_c [(N2 + 1), (N1 + 1), (N0 + 1)] 0)), (.int (own_p [(N2 + 1), (N1 + 1), (N0 + 1)] 1)), (.int (own_p [(N2 + 1), (N1 + 1), (N0 + 1)] 2)), (.int (own_p [(N2 + 1), (N1 + 1), (N0 + 1)] 3)), (.int (own_p [(N2 + 1), (N1 + 1), (N0 + 1)] 4))])]) := by
  refine Met.of (a0 := a0) (ls := #[.val (.ref (n0 + 0)), .val (.int (3 : Int32)), .val (.int (4 : Int32)), .unset, .unset]) (kok hw) (plainFor_of_name pn_4) (fun m => by first | (simp [entryFrame, mkF, argsToLocals, Value.category]; done) | rfl) (fun G H => ?_)
  refine H.iloadN s1_0 rfl ?_
  refine H.iconst s1_1 (v := (1 : Int32)) (by decide) ?_
  refine H.iadd s1_2 (w := (5 : Int32)) (by decide) ?_
  refine H.newarray s1_3 (ty := .int) rfl (k_3 hw) (N := 5) (cap := 5) (by decide) rfl (by decide) (by decide) (by first | rfl | simp) (by decide) (by decide) (i := 1) rfl (A' := [.inr (.int, [(.int e0), (.int e1), (.int e2), (.int e3)]), .inr (.int, [(.int (0 : Int32)), (.int (0 : Int32)), (.int (0 : Int32)), (.int (0 : Int32)), (.int (0 : Int32))])]) rfl (k' := 1) rfl (n' := 5) rfl ?_
  refine H.astoreN s1_5 rfl (ls' := #[.val (.ref (n0 + 0)), .val (.int (3 : Int32)), .val (.int (4 : Int32)), .val (.ref (n0 + 1)), .unset]) rfl ?_
  refine H.iconst s1_6 (v := (0 : Int32)) (by decide) ?_
  refine H.istore s1_7 (ls' := #[.val (.ref (n0 + 0)), .val (.int (3 : Int32)), .val (.int (4 : Int32)), .val (.ref (n0 + 1)), .val (.int (0 : Int32))]) rfl ?_
  refine H.iload s1_9 rfl ?_
  refine H.iloadN s1_11 rfl ?_
  refine H.icmpF s1_12 (show (0 : Int32) < (3 : Int32) by decide) ?_
  refine H.aloadN s1_15 rfl rfl ?_
  refine H.aloadN s1_16 rfl rfl ?_
  refine H.iload s1_17 rfl ?_
  refine H.iaload s1_19 (i := 0) (j := 0) rfl (by decide) (v := (.int e0)) rfl ?_
  refine H.iconst s1_20 (v := (1 : Int32)) (by decide) ?_
  refine H.iadd s1_21 rfl ?_
  refine H.dup2 s1_22 rfl rfl ?_
  refine H.iaload s1_23 (i := 1) (j := (N0 + 1)) rfl (own_e1 4 hN0 lN0 (by decide)) (v := (.int (own_c [] (N0 + 1)))) (own_get 5 [] (by omega)) ?_
  refine H.iconst s1_24 (v := (1 : Int32)) (by decide) ?_
  refine H.iadd s1_25 rfl ?_
  refine H.iastore s1_26 (i := 1) (j := (N0 + 1)) rfl (own_e1 4 hN0 lN0 (by decide)) (by show _ < 5; omega)  (A' := [.inr (.int, [(.int e0), (.int e1), (.int e2), (.int e3)]), .inr (.int, [(.int (own_c [(N0 + 1)] 0)), (.int (own_c [(N0 + 1)] 1)), (.int (own_c [(N0 + 1)] 2)), (.int (own_c [(N0 + 1)] 3)), (.int (own_c [(N0 + 1)] 4))])]) (congrArg (fun z => ([.inr (.int, [(.int e0), (.int e1), (.int e2), (.int e3)]), .inr (.int, [(.int (0 : Int32)), (.int (0 : Int32)), (.int (0 : Int32)), (.int (0 : Int32)), (.int (0 : Int32))])] : List Ob).set 1 (.inr (.int, z))) (own_set 5 [] (by omega))) ?_
  refine H.iinc s1_27 rfl (w := (1 : Int32)) (by decide) (ls' := #[.val (.ref (n0 + 0)), .val (.int (3 : Int32)), .val (.int (4 : Int32)), .val (.ref (n0 + 1)), .val (.int (1 : Int32))]) rfl ?_
  refine H.goto s1_30 ?_
  refine H.iload s1_9 rfl ?_
  refine H.iloadN s1_11 rfl ?_
  refine H.icmpF s1_12 (show (1 : Int32) < (3 : Int32) by decide) ?_
  refine H.aloadN s1_15 rfl rfl ?_
  refine H.aloadN s1_16 rfl rfl ?_
  refine H.iload s1_17 rfl ?_
  refine H.iaload s1_19 (i := 0) (j := 1) rfl (by decide) (v := (.int e1)) rfl ?_
  refine H.iconst s1_20 (v := (1 : Int32)) (by decide) ?_
  refine H.iadd s1_21 rfl ?_
  refine H.dup2 s1_22 rfl rfl ?_
  refine H.iaload s1_23 (i := 1) (j := (N1 + 1)) rfl (own_e1 4 hN1 lN1 (by decide)) (v := (.int (own_c [(N0 + 1)] (N1 + 1)))) (own_get 5 [(N0 + 1)] (by omega)) ?_
  refine H.iconst s1_24 (v := (1 : Int32)) (by decide) ?_
  refine H.iadd s1_25 rfl ?_
  refine H.iastore s1_26 (i := 1) (j := (N1 + 1)) rfl (own_e1 4 hN1 lN1 (by decide)) (by show _ < 5; omega)  (A' := [.inr (.int, [(.int e0), (.int e1), (.int e2), (.int e3)]), .inr (.int, [(.int (own_c [(N1 + 1), (N0 + 1)] 0)), (.int (own_c [(N1 + 1), (N0 + 1)] 1)), (.int (own_c [(N1 + 1), (N0 + 1)] 2)), (.int (own_c [(N1 + 1), (N0 + 1)] 3)), (.int (own_c [(N1 + 1), (N0 + 1)] 4))])]) (congrArg (fun z => ([.inr (.int, [(.int e0), (.int e1), (.int e2), (.int e3)]), .inr (.int, [(.int (own_c [(N0 + 1)] 0)), (.int (own_c [(N0 + 1)] 1)), (.int (own_c [(N0 + 1)] 2)), (.int (own_c [(N0 + 1)] 3)), (.int (own_c [(N0 + 1)] 4))])] : List Ob).set 1 (.inr (.int, z))) (own_set 5 [(N0 + 1)] (by omega))) ?_
  refine H.iinc s1_27 rfl (w := (2 : Int32)) (by decide) (ls' := #[.val (.ref (n0 + 0)), .val (.int (3 : Int32)), .val (.int (4 : Int32)), .val (.ref (n0 + 1)), .val (.int (2 : Int32))]) rfl ?_
  refine H.goto s1_30 ?_
  refine H.iload s1_9 rfl ?_
  refine H.iloadN s1_11 rfl ?_
  refine H.icmpF s1_12 (show (2 : Int32) < (3 : Int32) by decide) ?_
  refine H.aloadN s1_15 rfl rfl ?_
  refine H.aloadN s1_16 rfl rfl ?_
  refine H.iload s1_17 rfl ?_
  refine H.iaload s1_19 (i := 0) (j := 2) rfl (by decide) (v := (.int e2)) rfl ?_
  refine H.iconst s1_20 (v := (1 : Int32)) (by decide) ?_
  refine H.iadd s1_21 rfl ?_
  refine H.dup2 s1_22 rfl rfl ?_
  refine H.iaload s1_23 (i := 1) (j := (N2 + 1)) rfl (own_e1 4 hN2 lN2 (by decide)) (v := (.int (own_c [(N1 + 1), (N0 + 1)] (N2 + 1)))) (own_get 5 [(N1 + 1), (N0 + 1)] (by omega)) ?_
  refine H.iconst s1_24 (v := (1 : Int32)) (by decide) ?_
  refine H.iadd s1_25 rfl ?_
  refine H.iastore s1_26 (i := 1) (j := (N2 + 1)) rfl (own_e1 4 hN2 lN2 (by decide)) (by show _ < 5; omega)  (A' := [.inr (.int, [(.int e0), (.int e1), (.int e2), (.int e3)]), .inr (.int, [(.int (own_c [(N2 + 1), (N1 + 1), (N0 + 1)] 0)), (.int (own_c [(N2 + 1), (N1 + 1), (N0 + 1)] 1)), (.int (own_c [(N2 + 1), (N1 + 1), (N0 + 1)] 2)), (.int (own_c [(N2 + 1), (N1 + 1), (N0 + 1)] 3)), (.int (own_c [(N2 + 1), (N1 + 1), (N0 + 1)] 4))])]) (congrArg (fun z => ([.inr (.int, [(.int e0), (.int e1), (.int e2), (.int e3)]), .inr (.int, [(.int (own_c [(N1 + 1), (N0 + 1)] 0)), (.int (own_c [(N1 + 1), (N0 + 1)] 1)), (.int (own_c [(N1 + 1), (N0 + 1)] 2)), (.int (own_c [(N1 + 1), (N0 + 1)] 3)), (.int (own_c [(N1 + 1), (N0 + 1)] 4))])] : List Ob).set 1 (.inr (.int, z))) (own_set 5 [(N1 + 1), (N0 + 1)] (by omega))) ?_
  refine H.iinc s1_27 rfl (w := (3 : Int32)) (by decide) (ls' := #[.val (.ref (n0 + 0)), .val (.int (3 : Int32)), .val (.int (4 : Int32)), .val (.ref (n0 + 1)), .val (.int (3 : Int32))]) rfl ?_
  refine H.goto s1_30 ?_
  refine H.iload s1_9 rfl ?_
  refine H.iloadN s1_11 rfl ?_
  refine H.icmpT s1_12 (show ¬ (3 : Int32) < (3 : Int32) by decide) ?_
  refine H.iconst s1_33 (v := (0 : Int32)) (by decide) ?_
  refine H.istore s1_34 (ls' := #[.val (.ref (n0 + 0)), .val (.int (3 : Int32)), .val (.int (4 : Int32)), .val (.ref (n0 + 1)), .val (.int (0 : Int32))]) rfl ?_
  refine H.iload s1_36 rfl ?_
  refine H.iloadN s1_38 rfl ?_
  refine H.icmpF s1_39 (show (0 : Int32) < (4 : Int32) by decide) ?_
  refine H.aloadN s1_42 rfl rfl ?_
  refine H.iload s1_43 rfl ?_
  refine H.iconst s1_45 (v := (1 : Int32)) (by decide) ?_
  refine H.iadd s1_46 (w := (1 : Int32)) (by decide) ?_
  refine H.dup2 s1_47 rfl rfl ?_
  refine H.iaload s1_48 (i := 1) (j := 1) rfl (by decide) (v := (.int (own_c [(N2 + 1), (N1 + 1), (N0 + 1)] 1))) rfl ?_
  refine H.aloadN s1_49 rfl rfl ?_
  refine H.iload s1_50 rfl ?_
  refine H.iaload s1_52 (i := 1) (j := 0) rfl (by decide) (v := (.int (own_c [(N2 + 1), (N1 + 1), (N0 + 1)] 0))) rfl ?_
  refine H.iadd s1_53 (w := (own_p [(N2 + 1), (N1 + 1), (N0 + 1)] 1)) rfl ?_
  refine H.iastore s1_54 (i := 1) (j := 1) rfl (by decide) (ltb rfl)  (A' := [.inr (.int, [(.int e0), (.int e1), (.int e2), (.int e3)]), .inr (.int, [(.int (own_c [(N2 + 1), (N1 + 1), (N0 + 1)] 0)), (.int (own_p [(N2 + 1), (N1 + 1), (N0 + 1)] 1)), (.int (own_c [(N2 + 1), (N1 + 1), (N0 + 1)] 2)), (.int (own_c [(N2 + 1), (N1 + 1), (N0 + 1)] 3)), (.int (own_c [(N2 + 1), (N1 + 1), (N0 + 1)] 4))])]) rfl ?_
  refine H.iinc s1_55 rfl (w := (1 : Int32)) (by decide) (ls' := #[.val (.ref (n0 + 0)), .val (.int (3 : Int32)), .val (.int (4 : Int32)), .val (.ref (n0 + 1)), .val (.int (1 : Int32))]) rfl ?_
  refine H.goto s1_58 ?_
  refine H.iload s1_36 rfl ?_
  refine H.iloadN s1_38 rfl ?_
  refine H.icmpF s1_39 (show (1 : Int32) < (4 : Int32) by decide) ?_
  refine H.aloadN s1_42 rfl rfl ?_
  refine H.iload s1_43 rfl ?_
  refine H.iconst s1_45 (v := (1 : Int32)) (by decide) ?_
  refine H.iadd s1_46 (w := (2 : Int32)) (by decide) ?_
  refine H.dup2 s1_47 rfl rfl ?_
  refine H.iaload s1_48 (i := 1) (j := 2) rfl (by decide) (v := (.int (own_c [(N2 + 1), (N1 + 1), (N0 + 1)] 2))) rfl ?_
  refine H.aloadN s1_49 rfl rfl ?_
  refine H.iload s1_50 rfl ?_
  refine H.iaload s1_52 (i := 1) (j := 1) rfl (by decide) (v := (.int (own_p [(N2 + 1), (N1 + 1), (N0 + 1)] 1))) rfl ?_
  refine H.iadd s1_53 (w := (own_p [(N2 + 1), (N1 + 1), (N0 + 1)] 2)) rfl ?_
  refine H.iastore s1_54 (i := 1) (j := 2) rfl (by decide) (ltb rfl)  (A' := [.inr (.int, [(.int e0), (.int e1), (.int e2), (.int e3)]), .inr (.int, [(.int (own_c [(N2 + 1), (N1 + 1), (N0 + 1)] 0)), (.int (own_p [(N2 + 1), (N1 + 1), (N0 + 1)] 1)), (.int (own_p [(N2 + 1), (N1 + 1), (N0 + 1)] 2)), (.int (own_c [(N2 + 1), (N1 + 1), (N0 + 1)] 3)), (.int (own_c [(N2 + 1), (N1 + 1), (N0 + 1)] 4))])]) rfl ?_
  refine H.iinc s1_55 rfl (w := (2 : Int32)) (by decide) (ls' := #[.val (.ref (n0 + 0)), .val (.int (3 : Int32)), .val (.int (4 : Int32)), .val (.ref (n0 + 1)), .val (.int (2 : Int32))]) rfl ?_
  refine H.goto s1_58 ?_
  refine H.iload s1_36 rfl ?_
  refine H.iloadN s1_38 rfl ?_
  refine H.icmpF s1_39 (show (2 : Int32) < (4 : Int32) by decide) ?_
  refine H.aloadN s1_42 rfl rfl ?_
  refine H.iload s1_43 rfl ?_
  refine H.iconst s1_45 (v := (1 : Int32)) (by decide) ?_
  refine H.iadd s1_46 (w := (3 : Int32)) (by decide) ?_
  refine H.dup2 s1_47 rfl rfl ?_
  refine H.iaload s1_48 (i := 1) (j := 3) rfl (by decide) (v := (.int (own_c [(N2 + 1), (N1 + 1), (N0 + 1)] 3))) rfl ?_
  refine H.aloadN s1_49 rfl rfl ?_
  refine H.iload s1_50 rfl ?_
  refine H.iaload s1_52 (i := 1) (j := 2) rfl (by decide) (v := (.int (own_p [(N2 + 1), (N1 + 1), (N0 + 1)] 2))) rfl ?_
  refine H.iadd s1_53 (w := (own_p [(N2 + 1), (N1 + 1), (N0 + 1)] 3)) rfl ?_
  refine H.iastore s1_54 (i := 1) (j := 3) rfl (by decide) (ltb rfl)  (A' := [.inr (.int, [(.int e0), (.int e1), (.int e2), (.int e3)]), .inr (.int, [(.int (own_c [(N2 + 1), (N1 + 1), (N0 + 1)] 0)), (.int (own_p [(N2 + 1), (N1 + 1), (N0 + 1)] 1)), (.int (own_p [(N2 + 1), (N1 + 1), (N0 + 1)] 2)), (.int (own_p [(N2 + 1), (N1 + 1), (N0 + 1)] 3)), (.int (own_c [(N2 + 1), (N1 + 1), (N0 + 1)] 4))])]) rfl ?_
  refine H.iinc s1_55 rfl (w := (3 : Int32)) (by decide) (ls' := #[.val (.ref (n0 + 0)), .val (.int (3 : Int32)), .val (.int (4 : Int32)), .val (.ref (n0 + 1)), .val (.int (3 : Int32))]) rfl ?_
  refine H.goto s1_58 ?_
  refine H.iload s1_36 rfl ?_
  refine H.iloadN s1_38 rfl ?_
  refine H.icmpF s1_39 (show (3 : Int32) < (4 : Int32) by decide) ?_
  refine H.aloadN s1_42 rfl rfl ?_
  refine H.iload s1_43 rfl ?_
  refine H.iconst s1_45 (v := (1 : Int32)) (by decide) ?_
  refine H.iadd s1_46 (w := (4 : Int32)) (by decide) ?_
  refine H.dup2 s1_47 rfl rfl ?_
  refine H.iaload s1_48 (i := 1) (j := 4) rfl (by decide) (v := (.int (own_c [(N2 + 1), (N1 + 1), (N0 + 1)] 4))) rfl ?_
  refine H.aloadN s1_49 rfl rfl ?_
  refine H.iload s1_50 rfl ?_
  refine H.iaload s1_52 (i := 1) (j := 3) rfl (by decide) (v := (.int (own_p [(N2 + 1), (N1 + 1), (N0 + 1)] 3))) rfl ?_
  refine H.iadd s1_53 (w := (own_p [(N2 + 1), (N1 + 1), (N0 + 1)] 4)) rfl ?_
  refine H.iastore s1_54 (i := 1) (j := 4) rfl (by decide) (ltb rfl)  (A' := [.inr (.int, [(.int e0), (.int e1), (.int e2), (.int e3)]), .inr (.int, [(.int (own_c [(N2 + 1), (N1 + 1), (N0 + 1)] 0)), (.int (own_p [(N2 + 1), (N1 + 1), (N0 + 1)] 1)), (.int (own_p [(N2 + 1), (N1 + 1), (N0 + 1)] 2)), (.int (own_p [(N2 + 1), (N1 + 1), (N0 + 1)] 3)), (.int (own_p [(N2 + 1), (N1 + 1), (N0 + 1)] 4))])]) rfl ?_
  refine H.iinc s1_55 rfl (w := (4 : Int32)) (by decide) (ls' := #[.val (.ref (n0 + 0)), .val (.int (3 : Int32)), .val (.int (4 : Int32)), .val (.ref (n0 + 1)), .val (.int (4 : Int32))]) rfl ?_
  refine H.goto s1_58 ?_
  refine H.iload s1_36 rfl ?_
  refine H.iloadN s1_38 rfl ?_
  refine H.icmpT s1_39 (show ¬ (4 : Int32) < (4 : Int32) by decide) ?_
  refine H.aloadN s1_61 rfl rfl ?_
  exact H.areturn s1_62 rfl rfl rfl rfl ⟨rfl, rfl⟩ (by decide) (by decide)


set_option maxRecDepth 65536 in
set_option maxHeartbeats 40000000 in
theorem a_20 (l : Launch) {Z : State} {a0 : Array Value} (hw : HW1 Z a0) (n0 : Nat) (e0 : Int32) (e1 : Int32) (e2 : Int32) (e3 : Int32) {N0 : Nat} (hN0 : e0.toInt = (N0 : Int)) (lN0 : N0 < 4) {N1 : Nat} (hN1 : e1.toInt = (N1 : Int)) (lN1 : N1 < 4) {N2 : Nat} (hN2 : e2.toInt = (N2 : Int)) (lN2 : N2 < 4) {N3 : Nat} (hN3 : e3.toInt = (N3 : Int)) (lN3 : N3 < 4) : Met l Z KT n0 y1 prog_8_method_2_code 5 (some (.array .int)) ({ frames := 0, cells := 1, slots := 5, locals := 0 } : Room) #[(.ref (n0 + 0)), (.int (4 : Int32)), (.int (4 : Int32))] [.inr (.int, [(.int e0), (.int e1), (.int e2), (.int e3)])] (Is (some (.ref (n0 + 1))) [.inr (.int, [(.int e0), (.int e1), (.int e2), (.int e3)]), .inr (.int, [(.int (own_c [(N3 + 1), (N2 + 1), (N1 + 1), (N0 + 1)] 0)), (.int (own_p [(N3 + 1), (N2 + 1), (N1 + 1), (N0 + 1)] 1)), (.int (own_p [(N3 + 1), (N2 + 1), (N1 + 1), (N0 + 1)] 2)), (.int (own_p [(N3 + 1), (N2 + 1), (N1 + 1), (N0 + 1)] 3)), (.int (own_p [(N3 + 1), (N2 + 1), (N1 + 1), (N0 + 1)] 4))])]) := by
  refine Met.of (a0 := a0) (ls := #[.val (.ref (n0 + 0)), .val (.int (4 : Int32)), .val (.int (4 : Int32)), .unset, .unset]) (kok hw) (plainFor_of_name pn_4) (fun m => by first | (simp [entryFrame, mkF, argsToLocals, Value.category]; done) | rfl) (fun G H => ?_)
  refine H.iloadN s1_0 rfl ?_
  refine H.iconst s1_1 (v := (1 : Int32)) (by decide) ?_
  refine H.iadd s1_2 (w := (5 : Int32)) (by decide) ?_
  refine H.newarray s1_3 (ty := .int) rfl (k_3 hw) (N := 5) (cap := 5) (by decide) rfl (by decide) (by decide) (by first | rfl | simp) (by decide) (by decide) (i := 1) rfl (A' := [.inr (.int, [(.int e0), (.int e1), (.int e2), (.int e3)]), .inr (.int, [(.int (0 : Int32)), (.int (0 : Int32)), (.int (0 : Int32)), (.int (0 : Int32)), (.int (0 : Int32))])]) rfl (k' := 1) rfl (n' := 5) rfl ?_
  refine H.astoreN s1_5 rfl (ls' := #[.val (.ref (n0 + 0)), .val (.int (4 : Int32)), .val (.int (4 : Int32)), .val (.ref (n0 + 1)), .unset]) rfl ?_
  refine H.iconst s1_6 (v := (0 : Int32)) (by decide) ?_
  refine H.istore s1_7 (ls' := #[.val (.ref (n0 + 0)), .val (.int (4 : Int32)), .val (.int (4 : Int32)), .val (.ref (n0 + 1)), .val (.int (0 : Int32))]) rfl ?_
  refine H.iload s1_9 rfl ?_
  refine H.iloadN s1_11 rfl ?_
  refine H.icmpF s1_12 (show (0 : Int32) < (4 : Int32) by decide) ?_
  refine H.aloadN s1_15 rfl rfl ?_
  refine H.aloadN s1_16 rfl rfl ?_
  refine H.iload s1_17 rfl ?_
  refine H.iaload s1_19 (i := 0) (j := 0) rfl (by decide) (v := (.int e0)) rfl ?_
  refine H.iconst s1_20 (v := (1 : Int32)) (by decide) ?_
  refine H.iadd s1_21 rfl ?_
  refine H.dup2 s1_22 rfl rfl ?_
  refine H.iaload s1_23 (i := 1) (j := (N0 + 1)) rfl (own_e1 4 hN0 lN0 (by decide)) (v := (.int (own_c [] (N0 + 1)))) (own_get 5 [] (by omega)) ?_
  refine H.iconst s1_24 (v := (1 : Int32)) (by decide) ?_
  refine H.iadd s1_25 rfl ?_
  refine H.iastore s1_26 (i := 1) (j := (N0 + 1)) rfl (own_e1 4 hN0 lN0 (by decide)) (by show _ < 5; omega)  (A' := [.inr (.int, [(.int e0), (.int e1), (.int e2), (.int e3)]), .inr (.int, [(.int (own_c [(N0 + 1)] 0)), (.int (own_c [(N0 + 1)] 1)), (.int (own_c [(N0 + 1)] 2)), (.int (own_c [(N0 + 1)] 3)), (.int (own_c [(N0 + 1)] 4))])]) (congrArg (fun z => ([.inr (.int, [(.int e0), (.int e1), (.int e2), (.int e3)]), .inr (.int, [(.int (0 : Int32)), (.int (0 : Int32)), (.int (0 : Int32)), (.int (0 : Int32)), (.int (0 : Int32))])] : List Ob).set 1 (.inr (.int, z))) (own_set 5 [] (by omega))) ?_
  refine H.iinc s1_27 rfl (w := (1 : Int32)) (by decide) (ls' := #[.val (.ref (n0 + 0)), .val (.int (4 : Int32)), .val (.int (4 : Int32)), .val (.ref (n0 + 1)), .val (.int (1 : Int32))]) rfl ?_
  refine H.goto s1_30 ?_
  refine H.iload s1_9 rfl ?_
  refine H.iloadN s1_11 rfl ?_
  refine H.icmpF s1_12 (show (1 : Int32) < (4 : Int32) by decide) ?_
  refine H.aloadN s1_15 rfl rfl ?_
  refine H.aloadN s1_16 rfl rfl ?_
  refine H.iload s1_17 rfl ?_
  refine H.iaload s1_19 (i := 0) (j := 1) rfl (by decide) (v := (.int e1)) rfl ?_
  refine H.iconst s1_20 (v := (1 : Int32)) (by decide) ?_
  refine H.iadd s1_21 rfl ?_
  refine H.dup2 s1_22 rfl rfl ?_
  refine H.iaload s1_23 (i := 1) (j := (N1 + 1)) rfl (own_e1 4 hN1 lN1 (by decide)) (v := (.int (own_c [(N0 + 1)] (N1 + 1)))) (own_get 5 [(N0 + 1)] (by omega)) ?_
  refine H.iconst s1_24 (v := (1 : Int32)) (by decide) ?_
  refine H.iadd s1_25 rfl ?_
  refine H.iastore s1_26 (i := 1) (j := (N1 + 1)) rfl (own_e1 4 hN1 lN1 (by decide)) (by show _ < 5; omega)  (A' := [.inr (.int, [(.int e0), (.int e1), (.int e2), (.int e3)]), .inr (.int, [(.int (own_c [(N1 + 1), (N0 + 1)] 0)), (.int (own_c [(N1 + 1), (N0 + 1)] 1)), (.int (own_c [(N1 + 1), (N0 + 1)] 2)), (.int (own_c [(N1 + 1), (N0 + 1)] 3)), (.int (own_c [(N1 + 1), (N0 + 1)] 4))])]) (congrArg (fun z => ([.inr (.int, [(.int e0), (.int e1), (.int e2), (.int e3)]), .inr (.int, [(.int (own_c [(N0 + 1)] 0)), (.int (own_c [(N0 + 1)] 1)), (.int (own_c [(N0 + 1)] 2)), (.int (own_c [(N0 + 1)] 3)), (.int (own_c [(N0 + 1)] 4))])] : List Ob).set 1 (.inr (.int, z))) (own_set 5 [(N0 + 1)] (by omega))) ?_
  refine H.iinc s1_27 rfl (w := (2 : Int32)) (by decide) (ls' := #[.val (.ref (n0 + 0)), .val (.int (4 : Int32)), .val (.int (4 : Int32)), .val (.ref (n0 + 1)), .val (.int (2 : Int32))]) rfl ?_
  refine H.goto s1_30 ?_
  refine H.iload s1_9 rfl ?_
  refine H.iloadN s1_11 rfl ?_
  refine H.icmpF s1_12 (show (2 : Int32) < (4 : Int32) by decide) ?_
  refine H.aloadN s1_15 rfl rfl ?_
  refine H.aloadN s1_16 rfl rfl ?_
  refine H.iload s1_17 rfl ?_
  refine H.iaload s1_19 (i := 0) (j := 2) rfl (by decide) (v := (.int e2)) rfl ?_
  refine H.iconst s1_20 (v := (1 : Int32)) (by decide) ?_
  refine H.iadd s1_21 rfl ?_
  refine H.dup2 s1_22 rfl rfl ?_
  refine H.iaload s1_23 (i := 1) (j := (N2 + 1)) rfl (own_e1 4 hN2 lN2 (by decide)) (v := (.int (own_c [(N1 + 1), (N0 + 1)] (N2 + 1)))) (own_get 5 [(N1 + 1), (N0 + 1)] (by omega)) ?_
  refine H.iconst s1_24 (v := (1 : Int32)) (by decide) ?_
  refine H.iadd s1_25 rfl ?_
  refine H.iastore s1_26 (i := 1) (j := (N2 + 1)) rfl (own_e1 4 hN2 lN2 (by decide)) (by show _ < 5; omega)  (A' := [.inr (.int, [(.int e0), (.int e1), (.int e2), (.int e3)]), .inr (.int, [(.int (own_c [(N2 + 1), (N1 + 1), (N0 + 1)] 0)), (.int (own_c [(N2 + 1), (N1 + 1), (N0 + 1)] 1)), (.int (own_c [(N2 + 1), (N1 + 1), (N0 + 1)] 2)), (.int (own_c [(N2 + 1), (N1 + 1), (N0 + 1)] 3)), (.int (own_c [(N2 + 1), (N1 + 1), (N0 + 1)] 4))])]) (congrArg (fun z => ([.inr (.int, [(.int e0), (.int e1), (.int e2), (.int e3)]), .inr (.int, [(.int (own_c [(N1 + 1), (N0 + 1)] 0)), (.int (own_c [(N1 + 1), (N0 + 1)] 1)), (.int (own_c [(N1 + 1), (N0 + 1)] 2)), (.int (own_c [(N1 + 1), (N0 + 1)] 3)), (.int (own_c [(N1 + 1), (N0 + 1)] 4))])] : List Ob).set 1 (.inr (.int, z))) (own_set 5 [(N1 + 1), (N0 + 1)] (by omega))) ?_
  refine H.iinc s1_27 rfl (w := (3 : Int32)) (by decide) (ls' := #[.val (.ref (n0 + 0)), .val (.int (4 : Int32)), .val (.int (4 : Int32)), .val (.ref (n0 + 1)), .val (.int (3 : Int32))]) rfl ?_
  refine H.goto s1_30 ?_
  refine H.iload s1_9 rfl ?_
  refine H.iloadN s1_11 rfl ?_
  refine H.icmpF s1_12 (show (3 : Int32) < (4 : Int32) by decide) ?_
  refine H.aloadN s1_15 rfl rfl ?_
  refine H.aloadN s1_16 rfl rfl ?_
  refine H.iload s1_17 rfl ?_
  refine H.iaload s1_19 (i := 0) (j := 3) rfl (by decide) (v := (.int e3)) rfl ?_
  refine H.iconst s1_20 (v := (1 : Int32)) (by decide) ?_
  refine H.iadd s1_21 rfl ?_
  refine H.dup2 s1_22 rfl rfl ?_
  refine H.iaload s1_23 (i := 1) (j := (N3 + 1)) rfl (own_e1 4 hN3 lN3 (by decide)) (v := (.int (own_c [(N2 + 1), (N1 + 1), (N0 + 1)] (N3 + 1)))) (own_get 5 [(N2 + 1), (N1 + 1), (N0 + 1)] (by omega)) ?_
  refine H.iconst s1_24 (v := (1 : Int32)) (by decide) ?_
  refine H.iadd s1_25 rfl ?_
  refine H.iastore s1_26 (i := 1) (j := (N3 + 1)) rfl (own_e1 4 hN3 lN3 (by decide)) (by show _ < 5; omega)  (A' := [.inr (.int, [(.int e0), (.int e1), (.int e2), (.int e3)]), .inr (.int, [(.int (own_c [(N3 + 1), (N2 + 1), (N1 + 1), (N0 + 1)] 0)), (.int (own_c [(N3 + 1), (N2 + 1), (N1 + 1), (N0 + 1)] 1)), (.int (own_c [(N3 + 1), (N2 + 1), (N1 + 1), (N0 + 1)] 2)), (.int (own_c [(N3 + 1), (N2 + 1), (N1 + 1), (N0 + 1)] 3)), (.int (own_c [(N3 + 1), (N2 + 1), (N1 + 1), (N0 + 1)] 4))])]) (congrArg (fun z => ([.inr (.int, [(.int e0), (.int e1), (.int e2), (.int e3)]), .inr (.int, [(.int (own_c [(N2 + 1), (N1 + 1), (N0 + 1)] 0)), (.int (own_c [(N2 + 1), (N1 + 1), (N0 + 1)] 1)), (.int (own_c [(N2 + 1), (N1 + 1), (N0 + 1)] 2)), (.int (own_c [(N2 + 1), (N1 + 1), (N0 + 1)] 3)), (.int (own_c [(N2 + 1), (N1 + 1), (N0 + 1)] 4))])] : List Ob).set 1 (.inr (.int, z))) (own_set 5 [(N2 + 1), (N1 + 1), (N0 + 1)] (by omega))) ?_
  refine H.iinc s1_27 rfl (w := (4 : Int32)) (by decide) (ls' := #[.val (.ref (n0 + 0)), .val (.int (4 : Int32)), .val (.int (4 : Int32)), .val (.ref (n0 + 1)), .val (.int (4 : Int32))]) rfl ?_
  refine H.goto s1_30 ?_
  refine H.iload s1_9 rfl ?_
  refine H.iloadN s1_11 rfl ?_
  refine H.icmpT s1_12 (show ¬ (4 : Int32) < (4 : Int32) by decide) ?_
  refine H.iconst s1_33 (v := (0 : Int32)) (by decide) ?_
  refine H.istore s1_34 (ls' := #[.val (.ref (n0 + 0)), .val (.int (4 : Int32)), .val (.int (4 : Int32)), .val (.ref (n0 + 1)), .val (.int (0 : Int32))]) rfl ?_
  refine H.iload s1_36 rfl ?_
  refine H.iloadN s1_38 rfl ?_
  refine H.icmpF s1_39 (show (0 : Int32) < (4 : Int32) by decide) ?_
  refine H.aloadN s1_42 rfl rfl ?_
  refine H.iload s1_43 rfl ?_
  refine H.iconst s1_45 (v := (1 : Int32)) (by decide) ?_
  refine H.iadd s1_46 (w := (1 : Int32)) (by decide) ?_
  refine H.dup2 s1_47 rfl rfl ?_
  refine H.iaload s1_48 (i := 1) (j := 1) rfl (by decide) (v := (.int (own_c [(N3 + 1), (N2 + 1), (N1 + 1), (N0 + 1)] 1))) rfl ?_
  refine H.aloadN s1_49 rfl rfl ?_
  refine H.iload s1_50 rfl ?_
  refine H.iaload s1_52 (i := 1) (j := 0) rfl (by decide) (v := (.int (own_c [(N3 + 1), (N2 + 1), (N1 + 1), (N0 + 1)] 0))) rfl ?_
  refine H.iadd s1_53 (w := (own_p [(N3 + 1), (N2 + 1), (N1 + 1), (N0 + 1)] 1)) rfl ?_
  refine H.iastore s1_54 (i := 1) (j := 1) rfl (by decide) (ltb rfl)  (A' := [.inr (.int, [(.int e0), (.int e1), (.int e2), (.int e3)]), .inr (.int, [(.int (own_c [(N3 + 1), (N2 + 1), (N1 + 1), (N0 + 1)] 0)), (.int (own_p [(N3 + 1), (N2 + 1), (N1 + 1), (N0 + 1)] 1)), (.int (own_c [(N3 + 1), (N2 + 1), (N1 + 1), (N0 + 1)] 2)), (.int (own_c [(N3 + 1), (N2 + 1), (N1 + 1), (N0 + 1)] 3)), (.int (own_c [(N3 + 1), (N2 + 1), (N1 + 1), (N0 + 1)] 4))])]) rfl ?_
  refine H.iinc s1_55 rfl (w := (1 : Int32)) (by decide) (ls' := #[.val (.ref (n0 + 0)), .val (.int (4 : Int32)), .val (.int (4 : Int32)), .val (.ref (n0 + 1)), .val (.int (1 : Int32))]) rfl ?_
  refine H.goto s1_58 ?_
  refine H.iload s1_36 rfl ?_
  refine H.iloadN s1_38 rfl ?_
  refine H.icmpF s1_39 (show (1 : Int32) < (4 : Int32) by decide) ?_
  refine H.aloadN s1_42 rfl rfl ?_
  refine H.iload s1_43 rfl ?_
  refine H.iconst s1_45 (v := (1 : Int32)) (by decide) ?_
  refine H.iadd s1_46 (w := (2 : Int32)) (by decide) ?_
  refine H.dup2 s1_47 rfl rfl ?_
  refine H.iaload s1_48 (i := 1) (j := 2) rfl (by decide) (v := (.int (own_c [(N3 + 1), (N2 + 1), (N1 + 1), (N0 + 1)] 2))) rfl ?_
  refine H.aloadN s1_49 rfl rfl ?_
  refine H.iload s1_50 rfl ?_
  refine H.iaload s1_52 (i := 1) (j := 1) rfl (by decide) (v := (.int (own_p [(N3 + 1), (N2 + 1), (N1 + 1), (N0 + 1)] 1))) rfl ?_
  refine H.iadd s1_53 (w := (own_p [(N3 + 1), (N2 + 1), (N1 + 1), (N0 + 1)] 2)) rfl ?_
  refine H.iastore s1_54 (i := 1) (j := 2) rfl (by decide) (ltb rfl)  (A' := [.inr (.int, [(.int e0), (.int e1), (.int e2), (.int e3)]), .inr (.int, [(.int (own_c [(N3 + 1), (N2 + 1), (N1 + 1), (N0 + 1)] 0)), (.int (own_p [(N3 + 1), (N2 + 1), (N1 + 1), (N0 + 1)] 1)), (.int (own_p [(N3 + 1), (N2 + 1), (N1 + 1), (N0 + 1)] 2)), (.int (own_c [(N3 + 1), (N2 + 1), (N1 + 1), (N0 + 1)] 3)), (.int (own_c [(N3 + 1), (N2 + 1), (N1 + 1), (N0 + 1)] 4))])]) rfl ?_
  refine H.iinc s1_55 rfl (w := (2 : Int32)) (by decide) (ls' := #[.val (.ref (n0 + 0)), .val (.int (4 : Int32)), .val (.int (4 : Int32)), .val (.ref (n0 + 1)), .val (.int (2 : Int32))]) rfl ?_
  refine H.goto s1_58 ?_
  refine H.iload s1_36 rfl ?_
  refine H.iloadN s1_38 rfl ?_
  refine H.icmpF s1_39 (show (2 : Int32) < (4 : Int32) by decide) ?_
  refine H.aloadN s1_42 rfl rfl ?_
  refine H.iload s1_43 rfl ?_
  refine H.iconst s1_45 (v := (1 : Int32)) (by decide) ?_
  refine H.iadd s1_46 (w := (3 : Int32)) (by decide) ?_
  refine H.dup2 s1_47 rfl rfl ?_
  refine H.iaload s1_48 (i := 1) (j := 3) rfl (by decide) (v := (.int (own_c [(N3 + 1), (N2 + 1), (N1 + 1), (N0 + 1)] 3))) rfl ?_
  refine H.aloadN s1_49 rfl rfl ?_
  refine H.iload s1_50 rfl ?_
  refine H.iaload s1_52 (i := 1) (j := 2) rfl (by decide) (v := (.int (own_p [(N3 + 1), (N2 + 1), (N1 + 1), (N0 + 1)] 2))) rfl ?_
  refine H.iadd s1_53 (w := (own_p [(N3 + 1), (N2 + 1), (N1 + 1), (N0 + 1)] 3)) rfl ?_
  refine H.iastore s1_54 (i := 1) (j := 3) rfl (by decide) (ltb rfl)  (A' := [.inr (.int, [(.int e0), (.int e1), (.int e2), (.int e3)]), .inr (.int, [(.int (own_c [(N3 + 1), (N2 + 1), (N1 + 1), (N0 + 1)] 0)), (.int (own_p [(N3 + 1), (N2 + 1), (N1 + 1), (N0 + 1)] 1)), (.int (own_p [(N3 + 1), (N2 + 1), (N1 + 1), (N0 + 1)] 2)), (.int (own_p [(N3 + 1), (N2 + 1), (N1 + 1), (N0 + 1)] 3)), (.int (own_c [(N3 + 1), (N2 + 1), (N1 + 1), (N0 + 1)] 4))])]) rfl ?_
  refine H.iinc s1_55 rfl (w := (3 : Int32)) (by decide) (ls' := #[.val (.ref (n0 + 0)), .val (.int (4 : Int32)), .val (.int (4 : Int32)), .val (.ref (n0 + 1)), .val (.int (3 : Int32))]) rfl ?_
  refine H.goto s1_58 ?_
  refine H.iload s1_36 rfl ?_
  refine H.iloadN s1_38 rfl ?_
  refine H.icmpF s1_39 (show (3 : Int32) < (4 : Int32) by decide) ?_
  refine H.aloadN s1_42 rfl rfl ?_
  refine H.iload s1_43 rfl ?_
  refine H.iconst s1_45 (v := (1 : Int32)) (by decide) ?_
  refine H.iadd s1_46 (w := (4 : Int32)) (by decide) ?_
  refine H.dup2 s1_47 rfl rfl ?_
  refine H.iaload s1_48 (i := 1) (j := 4) rfl (by decide) (v := (.int (own_c [(N3 + 1), (N2 + 1), (N1 + 1), (N0 + 1)] 4))) rfl ?_
  refine H.aloadN s1_49 rfl rfl ?_
  refine H.iload s1_50 rfl ?_
  refine H.iaload s1_52 (i := 1) (j := 3) rfl (by decide) (v := (.int (own_p [(N3 + 1), (N2 + 1), (N1 + 1), (N0 + 1)] 3))) rfl ?_
  refine H.iadd s1_53 (w := (own_p [(N3 + 1), (N2 + 1), (N1 + 1), (N0 + 1)] 4)) rfl ?_
  refine H.iastore s1_54 (i := 1) (j := 4) rfl (by decide) (ltb rfl)  (A' := [.inr (.int, [(.int e0), (.int e1), (.int e2), (.int e3)]), .inr (.int, [(.int (own_c [(N3 + 1), (N2 + 1), (N1 + 1), (N0 + 1)] 0)), (.int (own_p [(N3 + 1), (N2 + 1), (N1 + 1), (N0 + 1)] 1)), (.int (own_p [(N3 + 1), (N2 + 1), (N1 + 1), (N0 + 1)] 2)), (.int (own_p [(N3 + 1), (N2 + 1), (N1 + 1), (N0 + 1)] 3)), (.int (own_p [(N3 + 1), (N2 + 1), (N1 + 1), (N0 + 1)] 4))])]) rfl ?_
  refine H.iinc s1_55 rfl (w := (4 : Int32)) (by decide) (ls' := #[.val (.ref (n0 + 0)), .val (.int (4 : Int32)), .val (.int (4 : Int32)), .val (.ref (n0 + 1)), .val (.int (4 : Int32))]) rfl ?_
  refine H.goto s1_58 ?_
  refine H.iload s1_36 rfl ?_
  refine H.iloadN s1_38 rfl ?_
  refine H.icmpT s1_39 (show ¬ (4 : Int32) < (4 : Int32) by decide) ?_
  refine H.aloadN s1_61 rfl rfl ?_
  exact H.areturn s1_62 rfl rfl rfl rfl ⟨rfl, rfl⟩ (by decide) (by decide)


set_option maxRecDepth 65536 in
set_option maxHeartbeats 40000000 in
theorem a_21 (l : Launch) {Z : State} {a0 : Array Value} (hw : HW1 Z a0) (n0 : Nat) (e0 : Int32) (e1 : Int32) (e2 : Int32) (e3 : Int32) {N0 : Nat} (hN0 : e0.toInt = (N0 : Int)) (lN0 : N0 < 5) {N1 : Nat} (hN1 : e1.toInt = (N1 : Int)) (lN1 : N1 < 5) {N2 : Nat} (hN2 : e2.toInt = (N2 : Int)) (lN2 : N2 < 5) {N3 : Nat} (hN3 : e3.toInt = (N3 : Int)) (lN3 : N3 < 5) : Met l Z KT n0 y1 prog_8_method_2_code 5 (some (.array .int)) ({ frames := 0, cells := 1, slots := 6, locals := 0 } : Room) #[(.ref (n0 + 0)), (.int (0 : Int32)), (.int (5 : Int32))] [.inr (.int, [(.int e0), (.int e1), (.int e2), (.int e3)])] (Is (some (.ref (n0 + 1))) [.inr (.int, [(.int e0), (.int e1), (.int e2), (.int e3)]), .inr (.int, [(.int (0 : Int32)), (.int (0 : Int32)), (.int (0 : Int32)), (.int (0 : Int32)), (.int (0 : Int32)), (.int (0 : Int32))])]) := by
  refine Met.of (a0 := a0) (ls := #[.val (.ref (n0 + 0)), .val (.int (0 : Int32)), .val (.int (5 : Int32)), .unset, .unset]) (kok hw) (plainFor_of_name pn_4) (fun m => by first | (simp [entryFrame, mkF, argsToLocals, Value.category]; done) | rfl) (fun G H => ?_)
  refine H.iloadN s1_0 rfl ?_
  refine H.iconst s1_1 (v := (1 : Int32)) (by decide) ?_
  refine H.iadd s1_2 (w := (6 : Int32)) (by decide) ?_
  refine H.newarray s1_3 (ty := .int) rfl (k_3 hw) (N := 6) (cap := 6) (by decide) rfl (by decide) (by decide) (by first | rfl | simp) (by decide) (by decide) (i := 1) rfl (A' := [.inr (.int, [(.int e0), (.int e1), (.int e2), (.int e3)]), .inr (.int, [(.int (0 : Int32)), (.int (0 : Int32)), (.int (0 : Int32)), (.int (0 : Int32)), (.int (0 : Int32)), (.int (0 : Int32))])]) rfl (k' := 1) rfl (n' := 6) rfl ?_
  refine H.astoreN s1_5 rfl (ls' := #[.val (.ref (n0 + 0)), .val (.int (0 : Int32)), .val (.int (5 : Int32)), .val (.ref (n0 + 1)), .unset]) rfl ?_
  refine H.iconst s1_6 (v := (0 : Int32)) (by decide) ?_
  refine H.istore s1_7 (ls' := #[.val (.ref (n0 + 0)), .val (.int (0 : Int32)), .val (.int (5 : Int32)), .val (.ref (n0 + 1)), .val (.int (0 : Int32))]) rfl ?_
  refine H.iload s1_9 rfl ?_
  refine H.iloadN s1_11 rfl ?_
  refine H.icmpT s1_12 (show ¬ (0 : Int32) < (0 : Int32) by decide) ?_
  refine H.iconst s1_33 (v := (0 : Int32)) (by decide) ?_
  refine H.istore s1_34 (ls' := #[.val (.ref (n0 + 0)), .val (.int (0 : Int32)), .val (.int (5 : Int32)), .val (.ref (n0 + 1)), .val (.int (0 : Int32))]) rfl ?_
  refine H.iload s1_36 rfl ?_
  refine H.iloadN s1_38 rfl ?_
  refine H.icmpF s1_39 (show (0 : Int32) < (5 : Int32) by decide) ?_
  refine H.aloadN s1_42 rfl rfl ?_
  refine H.iload s1_43 rfl ?_
  refine H.iconst s1_45 (v := (1 : Int32)) (by decide) ?_
  refine H.iadd s1_46 (w := (1 : Int32)) (by decide) ?_
  refine H.dup2 s1_47 rfl rfl ?_
  refine H.iaload s1_48 (i := 1) (j := 1) rfl (by decide) (v := (.int (0 : Int32))) rfl ?_
  refine H.aloadN s1_49 rfl rfl ?_
  refine H.iload s1_50 rfl ?_
  refine H.iaload s1_52 (i := 1) (j := 0) rfl (by decide) (v := (.int (0 : Int32))) rfl ?_
  refine H.iadd s1_53 (w := (0 : Int32)) (by decide) ?_
  refine H.iastore s1_54 (i := 1) (j := 1) rfl (by decide) (ltb rfl)  (A' := [.inr (.int, [(.int e0), (.int e1), (.int e2), (.int e3)]), .inr (.int, [(.int (0 : Int32)), (.int (0 : Int32)), (.int (0 : Int32)), (.int (0 : Int32)), (.int (0 : Int32)), (.int (0 : Int32))])]) rfl ?_
  refine H.iinc s1_55 rfl (w := (1 : Int32)) (by decide) (ls' := #[.val (.ref (n0 + 0)), .val (.int (0 : Int32)), .val (.int (5 : Int32)), .val (.ref (n0 + 1)), .val (.int (1 : Int32))]) rfl ?_
  refine H.goto s1_58 ?_
  refine H.iload s1_36 rfl ?_
  refine H.iloadN s1_38 rfl ?_
  refine H.icmpF s1_39 (show (1 : Int32) < (5 : Int32) by decide) ?_
  refine H.aloadN s1_42 rfl rfl ?_
  refine H.iload s1_43 rfl ?_
  refine H.iconst s1_45 (v := (1 : Int32)) (by decide) ?_
  refine H.iadd s1_46 (w := (2 : Int32)) (by decide) ?_
  refine H.dup2 s1_47 rfl rfl ?_
  refine H.iaload s1_48 (i := 1) (j := 2) rfl (by decide) (v := (.int (0 : Int32))) rfl ?_
  refine H.aloadN s1_49 rfl rfl ?_
  refine H.iload s1_50 rfl ?_
  refine H.iaload s1_52 (i := 1) (j := 1) rfl (by decide) (v := (.int (0 : Int32))) rfl ?_
  refine H.iadd s1_53 (w := (0 : Int32)) (by decide) ?_
  refine H.iastore s1_54 (i := 1) (j := 2) rfl (by decide) (ltb rfl)  (A' := [.inr (.int, [(.int e0), (.int e1), (.int e2), (.int e3)]), .inr (.int, [(.int (0 : Int32)), (.int (0 : Int32)), (.int (0 : Int32)), (.int (0 : Int32)), (.int (0 : Int32)), (.int (0 : Int32))])]) rfl ?_
  refine H.iinc s1_55 rfl (w := (2 : Int32)) (by decide) (ls' := #[.val (.ref (n0 + 0)), .val (.int (0 : Int32)), .val (.int (5 : Int32)), .val (.ref (n0 + 1)), .val (.int (2 : Int32))]) rfl ?_
  refine H.goto s1_58 ?_
  refine H.iload s1_36 rfl ?_
  refine H.iloadN s1_38 rfl ?_
  refine H.icmpF s1_39 (show (2 : Int32) < (5 : Int32) by decide) ?_
  refine H.aloadN s1_42 rfl rfl ?_
  refine H.iload s1_43 rfl ?_
  refine H.iconst s1_45 (v := (1 : Int32)) (by decide) ?_
  refine H.iadd s1_46 (w := (3 : Int32)) (by decide) ?_
  refine H.dup2 s1_47 rfl rfl ?_
  refine H.iaload s1_48 (i := 1) (j := 3) rfl (by decide) (v := (.int (0 : Int32))) rfl ?_
  refine H.aloadN s1_49 rfl rfl ?_
  refine H.iload s1_50 rfl ?_
  refine H.iaload s1_52 (i := 1) (j := 2) rfl (by decide) (v := (.int (0 : Int32))) rfl ?_
  refine H.iadd s1_53 (w := (0 : Int32)) (by decide) ?_
  refine H.iastore s1_54 (i := 1) (j := 3) rfl (by decide) (ltb rfl)  (A' := [.inr (.int, [(.int e0), (.int e1), (.int e2), (.int e3)]), .inr (.int, [(.int (0 : Int32)), (.int (0 : Int32)), (.int (0 : Int32)), (.int (0 : Int32)), (.int (0 : Int32)), (.int (0 : Int32))])]) rfl ?_
  refine H.iinc s1_55 rfl (w := (3 : Int32)) (by decide) (ls' := #[.val (.ref (n0 + 0)), .val (.int (0 : Int32)), .val (.int (5 : Int32)), .val (.ref (n0 + 1)), .val (.int (3 : Int32))]) rfl ?_
  refine H.goto s1_58 ?_
  refine H.iload s1_36 rfl ?_
  refine H.iloadN s1_38 rfl ?_
  refine H.icmpF s1_39 (show (3 : Int32) < (5 : Int32) by decide) ?_
  refine H.aloadN s1_42 rfl rfl ?_
  refine H.iload s1_43 rfl ?_
  refine H.iconst s1_45 (v := (1 : Int32)) (by decide) ?_
  refine H.iadd s1_46 (w := (4 : Int32)) (by decide) ?_
  refine H.dup2 s1_47 rfl rfl ?_
  refine H.iaload s1_48 (i := 1) (j := 4) rfl (by decide) (v := (.int (0 : Int32))) rfl ?_
  refine H.aloadN s1_49 rfl rfl ?_
  refine H.iload s1_50 rfl ?_
  refine H.iaload s1_52 (i := 1) (j := 3) rfl (by decide) (v := (.int (0 : Int32))) rfl ?_
  refine H.iadd s1_53 (w := (0 : Int32)) (by decide) ?_
  refine H.iastore s1_54 (i := 1) (j := 4) rfl (by decide) (ltb rfl)  (A' := [.inr (.int, [(.int e0), (.int e1), (.int e2), (.int e3)]), .inr (.int, [(.int (0 : Int32)), (.int (0 : Int32)), (.int (0 : Int32)), (.int (0 : Int32)), (.int (0 : Int32)), (.int (0 : Int32))])]) rfl ?_
  refine H.iinc s1_55 rfl (w := (4 : Int32)) (by decide) (ls' := #[.val (.ref (n0 + 0)), .val (.int (0 : Int32)), .val (.int (5 : Int32)), .val (.ref (n0 + 1)), .val (.int (4 : Int32))]) rfl ?_
  refine H.goto s1_58 ?_
  refine H.iload s1_36 rfl ?_
  refine H.iloadN s1_38 rfl ?_
  refine H.icmpF s1_39 (show (4 : Int32) < (5 : Int32) by decide) ?_
  refine H.aloadN s1_42 rfl rfl ?_
  refine H.iload s1_43 rfl ?_
  refine H.iconst s1_45 (v := (1 : Int32)) (by decide) ?_
  refine H.iadd s1_46 (w := (5 : Int32)) (by decide) ?_
  refine H.dup2 s1_47 rfl rfl ?_
  refine H.iaload s1_48 (i := 1) (j := 5) rfl (by decide) (v := (.int (0 : Int32))) rfl ?_
  refine H.aloadN s1_49 rfl rfl ?_
  refine H.iload s1_50 rfl ?_
  refine H.iaload s1_52 (i := 1) (j := 4) rfl (by decide) (v := (.int (0 : Int32))) rfl ?_
  refine H.iadd s1_53 (w := (0 : Int32)) (by decide) ?_
  refine H.iastore s1_54 (i := 1) (j := 5) rfl (by decide) (ltb rfl)  (A' := [.inr (.int, [(.int e0), (.int e1), (.int e2), (.int e3)]), .inr (.int, [(.int (0 : Int32)), (.int (0 : Int32)), (.int (0 : Int32)), (.int (0 : Int32)), (.int (0 : Int32)), (.int (0 : Int32))])]) rfl ?_
  refine H.iinc s1_55 rfl (w := (5 : Int32)) (by decide) (ls' := #[.val (.ref (n0 + 0)), .val (.int (0 : Int32)), .val (.int (5 : Int32)), .val (.ref (n0 + 1)), .val (.int (5 : Int32))]) rfl ?_
  refine H.goto s1_58 ?_
  refine H.iload s1_36 rfl ?_
  refine H.iloadN s1_38 rfl ?_
  refine H.icmpT s1_39 (show ¬ (5 : Int32) < (5 : Int32) by decide) ?_
  refine H.aloadN s1_61 rfl rfl ?_
  exact H.areturn s1_62 rfl rfl rfl rfl ⟨rfl, rfl⟩ (by decide) (by decide)


set_option maxRecDepth 65536 in
set_option maxHeartbeats 40000000 in
theorem a_22 (l : Launch) {Z : State} {a0 : Array Value} (hw : HW1 Z a0) (n0 : Nat) (e0 : Int32) (e1 : Int32) (e2 : Int32) (e3 : Int32) {N0 : Nat} (hN0 : e0.toInt = (N0 : Int)) (lN0 : N0 < 5) {N1 : Nat} (hN1 : e1.toInt = (N1 : Int)) (lN1 : N1 < 5) {N2 : Nat} (hN2 : e2.toInt = (N2 : Int)) (lN2 : N2 < 5) {N3 : Nat} (hN3 : e3.toInt = (N3 : Int)) (lN3 : N3 < 5) : Met l Z KT n0 y1 prog_8_method_2_code 5 (some (.array .int)) ({ frames := 0, cells := 1, slots := 6, locals := 0 } : Room) #[(.ref (n0 + 0)), (.int (1 : Int32)), (.int (5 : Int32))] [.inr (.int, [(.int e0), (.int e1), (.int e2), (.int e3)])] (Is (some (.ref (n0 + 1))) [.inr (.int, [(.int e0), (.int e1), (.int e2), (.int e3)]), .inr (.int, [(.int (own_c [(N0 + 1)] 0)), (.int (own_p [(N0 + 1)] 1)), (.int (own_p [(N0 + 1)] 2)), (.int (own_p [(N0 + 1)] 3)), (.int (own_p [(N0 + 1)] 4)), (.int (own_p [(N0 + 1)] 5))])]) := by
  refine Met.of (a0 := a0) (ls := #[.val (.ref (n0 + 0)), .val (.int (1 : Int32)), .val (.int (5 : Int32)), .unset, .unset]) (kok hw) (plainFor_of_name pn_4) (fun m => by first | (simp [entryFrame, mkF, argsToLocals, Value.category]; done) | rfl) (fun G H => ?_)
  refine H.iloadN s1_0 rfl ?_
  refine H.iconst s1_1 (v := (1 : Int32)) (by decide) ?_
  refine H.iadd s1_2 (w := (6 : Int32)) (by decide) ?_
  refine H.newarray s1_3 (ty := .int) rfl (k_3 hw) (N := 6) (cap := 6) (by decide) rfl (by decide) (by decide) (by first | rfl | simp) (by decide) (by decide) (i := 1) rfl (A' := [.inr (.int, [(.int e0), (.int e1), (.int e2), (.int e3)]), .inr (.int, [(.int (0 : Int32)), (.int (0 : Int32)), (.int (0 : Int32)), (.int (0 : Int32)), (.int (0 : Int32)), (.int (0 : Int32))])]) rfl (k' := 1) rfl (n' := 6) rfl ?_
  refine H.astoreN s1_5 rfl (ls' := #[.val (.ref (n0 + 0)), .val (.int (1 : Int32)), .val (.int (5 : Int32)), .val (.ref (n0 + 1)), .unset]) rfl ?_
  refine H.iconst s1_6 (v := (0 : Int32)) (by decide) ?_
  refine H.istore s1_7 (ls' := #[.val (.ref (n0 + 0)), .val (.int (1 : Int32)), .val (.int (5 : Int32)), .val (.ref (n0 + 1)), .val (.int (0 : Int32))]) rfl ?_
  refine H.iload s1_9 rfl ?_
  refine H.iloadN s1_11 rfl ?_
  refine H.icmpF s1_12 (show (0 : Int32) < (1 : Int32) by decide) ?_
  refine H.aloadN s1_15 rfl rfl ?_
  refine H.aloadN s1_16 rfl rfl ?_
  refine H.iload s1_17 rfl ?_
  refine H.iaload s1_19 (i := 0) (j := 0) rfl (by decide) (v := (.int e0)) rfl ?_
  refine H.iconst s1_20 (v := (1 : Int32)) (by decide) ?_
  refine H.iadd s1_21 rfl ?_
  refine H.dup2 s1_22 rfl rfl ?_
  refine H.iaload s1_23 (i := 1) (j := (N0 + 1)) rfl (own_e1 5 hN0 lN0 (by decide)) (v := (.int (own_c [] (N0 + 1)))) (own_get 6 [] (by omega)) ?_
  refine H.iconst s1_24 (v := (1 : Int32)) (by decide) ?_
  refine H.iadd s1_25 rfl ?_
  refine H.iastore s1_26 (i := 1) (j := (N0 + 1)) rfl (own_e1 5 hN0 lN0 (by decide)) (by show _ < 6; omega)  (A' := [.inr (.int, [(.int e0), (.int e1), (.int e2), (.int e3)]), .inr (.int, [(.int (own_c [(N0 + 1)] 0)), (.int (own_c [(N0 + 1)] 1)), (.int (own_c [(N0 + 1)] 2)), (.int (own_c [(N0 + 1)] 3)), (.int (own_c [(N0 + 1)] 4)), (.int (own_c [(N0 + 1)] 5))])]) (congrArg (fun z => ([.inr (.int, [(.int e0), (.int e1), (.int e2), (.int e3)]), .inr (.int, [(.int (0 : Int32)), (.int (0 : Int32)), (.int (0 : Int32)), (.int (0 : Int32)), (.int (0 : Int32)), (.int (0 : Int32))])] : List Ob).set 1 (.inr (.int, z))) (own_set 6 [] (by omega))) ?_
  refine H.iinc s1_27 rfl (w := (1 : Int32)) (by decide) (ls' := #[.val (.ref (n0 + 0)), .val (.int (1 : Int32)), .val (.int (5 : Int32)), .val (.ref (n0 + 1)), .val (.int (1 : Int32))]) rfl ?_
  refine H.goto s1_30 ?_
  refine H.iload s1_9 rfl ?_
  refine H.iloadN s1_11 rfl ?_
  refine H.icmpT s1_12 (show ¬ (1 : Int32) < (1 : Int32) by decide) ?_
  refine H.iconst s1_33 (v := (0 : Int32)) (by decide) ?_
  refine H.istore s1_34 (ls' := #[.val (.ref (n0 + 0)), .val (.int (1 : Int32)), .val (.int (5 : Int32)), .val (.ref (n0 + 1)), .val (.int (0 : Int32))]) rfl ?_
  refine H.iload s1_36 rfl ?_
  refine H.iloadN s1_38 rfl ?_
  refine H.icmpF s1_39 (show (0 : Int32) < (5 : Int32) by decide) ?_
  refine H.aloadN s1_42 rfl rfl ?_
  refine H.iload s1_43 rfl ?_
  refine H.iconst s1_45 (v := (1 : Int32)) (by decide) ?_
  refine H.iadd s1_46 (w := (1 : Int32)) (by decide) ?_
  refine H.dup2 s1_47 rfl rfl ?_
  refine H.iaload s1_48 (i := 1) (j := 1) rfl (by decide) (v := (.int (own_c [(N0 + 1)] 1))) rfl ?_
  refine H.aloadN s1_49 rfl rfl ?_
  refine H.iload s1_50 rfl ?_
  refine H.iaload s1_52 (i := 1) (j := 0) rfl (by decide) (v := (.int (own_c [(N0 + 1)] 0))) rfl ?_
  refine H.iadd s1_53 (w := (own_p [(N0 + 1)] 1)) rfl ?_
  refine H.iastore s1_54 (i := 1) (j := 1) rfl (by decide) (ltb rfl)  (A' := [.inr (.int, [(.int e0), (.int e1), (.int e2), (.int e3)]), .inr (.int, [(.int (own_c [(N0 + 1)] 0)), (.int (own_p [(N0 + 1)] 1)), (.int (own_c [(N0 + 1)] 2)), (.int (own_c [(N0 + 1)] 3)), (.int (own_c [(N0 + 1)] 4)), (.int (own_c [(N0 + 1)] 5))])]) rfl ?_
  refine H.iinc s1_55 rfl (w := (1 : Int32)) (by decide) (ls' := #[.val (.ref (n0 + 0)), .val (.int (1 : Int32)), .val (.int (5 : Int32)), .val (.ref (n0 + 1)), .val (.int (1 : Int32))]) rfl ?_
  refine H.goto s1_58 ?_
  refine H.iload s1_36 rfl ?_
  refine H.iloadN s1_38 rfl ?_
  refine H.icmpF s1_39 (show (1 : Int32) < (5 : Int32) by decide) ?_
  refine H.aloadN s1_42 rfl rfl ?_
  refine H.iload s1_43 rfl ?_
  refine H.iconst s1_45 (v := (1 : Int32)) (by decide) ?_
  refine H.iadd s1_46 (w := (2 : Int32)) (by decide) ?_
  refine H.dup2 s1_47 rfl rfl ?_
  refine H.iaload s1_48 (i := 1) (j := 2) rfl (by decide) (v := (.int (own_c [(N0 + 1)] 2))) rfl ?_
  refine H.aloadN s1_49 rfl rfl ?_
  refine H.iload s1_50 rfl ?_
  refine H.iaload s1_52 (i := 1) (j := 1) rfl (by decide) (v := (.int (own_p [(N0 + 1)] 1))) rfl ?_
  refine H.iadd s1_53 (w := (own_p [(N0 + 1)] 2)) rfl ?_
  refine H.iastore s1_54 (i := 1) (j := 2) rfl (by decide) (ltb rfl)  (A' := [.inr (.int, [(.int e0), (.int e1), (.int e2), (.int e3)]), .inr (.int, [(.int (own_c [(N0 + 1)] 0)), (.int (own_p [(N0 + 1)] 1)), (.int (own_p [(N0 + 1)] 2)), (.int (own_c [(N0 + 1)] 3)), (.int (own_c [(N0 + 1)] 4)), (.int (own_c [(N0 + 1)] 5))])]) rfl ?_
  refine H.iinc s1_55 rfl (w := (2 : Int32)) (by decide) (ls' := #[.val (.ref (n0 + 0)), .val (.int (1 : Int32)), .val (.int (5 : Int32)), .val (.ref (n0 + 1)), .val (.int (2 : Int32))]) rfl ?_
  refine H.goto s1_58 ?_
  refine H.iload s1_36 rfl ?_
  refine H.iloadN s1_38 rfl ?_
  refine H.icmpF s1_39 (show (2 : Int32) < (5 : Int32) by decide) ?_
  refine H.aloadN s1_42 rfl rfl ?_
  refine H.iload s1_43 rfl ?_
  refine H.iconst s1_45 (v := (1 : Int32)) (by decide) ?_
  refine H.iadd s1_46 (w := (3 : Int32)) (by decide) ?_
  refine H.dup2 s1_47 rfl rfl ?_
  refine H.iaload s1_48 (i := 1) (j := 3) rfl (by decide) (v := (.int (own_c [(N0 + 1)] 3))) rfl ?_
  refine H.aloadN s1_49 rfl rfl ?_
  refine H.iload s1_50 rfl ?_
  refine H.iaload s1_52 (i := 1) (j := 2) rfl (by decide) (v := (.int (own_p [(N0 + 1)] 2))) rfl ?_
  refine H.iadd s1_53 (w := (own_p [(N0 + 1)] 3)) rfl ?_
  refine H.iastore s1_54 (i := 1) (j := 3) rfl (by decide) (ltb rfl)  (A' := [.inr (.int, [(.int e0), (.int e1), (.int e2), (.int e3)]), .inr (.int, [(.int (own_c [(N0 + 1)] 0)), (.int (own_p [(N0 + 1)] 1)), (.int (own_p [(N0 + 1)] 2)), (.int (own_p [(N0 + 1)] 3)), (.int (own_c [(N0 + 1)] 4)), (.int (own_c [(N0 + 1)] 5))])]) rfl ?_
  refine H.iinc s1_55 rfl (w := (3 : Int32)) (by decide) (ls' := #[.val (.ref (n0 + 0)), .val (.int (1 : Int32)), .val (.int (5 : Int32)), .val (.ref (n0 + 1)), .val (.int (3 : Int32))]) rfl ?_
  refine H.goto s1_58 ?_
  refine H.iload s1_36 rfl ?_
  refine H.iloadN s1_38 rfl ?_
  refine H.icmpF s1_39 (show (3 : Int32) < (5 : Int32) by decide) ?_
  refine H.aloadN s1_42 rfl rfl ?_
  refine H.iload s1_43 rfl ?_
  refine H.iconst s1_45 (v := (1 : Int32)) (by decide) ?_
  refine H.iadd s1_46 (w := (4 : Int32)) (by decide) ?_
  refine H.dup2 s1_47 rfl rfl ?_
  refine H.iaload s1_48 (i := 1) (j := 4) rfl (by decide) (v := (.int (own_c [(N0 + 1)] 4))) rfl ?_
  refine H.aloadN s1_49 rfl rfl ?_
  refine H.iload s1_50 rfl ?_
  refine H.iaload s1_52 (i := 1) (j := 3) rfl (by decide) (v := (.int (own_p [(N0 + 1)] 3))) rfl ?_
  refine H.iadd s1_53 (w := (own_p [(N0 + 1)] 4)) rfl ?_
  refine H.iastore s1_54 (i := 1) (j := 4) rfl (by decide) (ltb rfl)  (A' := [.inr (.int, [(.int e0), (.int e1), (.int e2), (.int e3)]), .inr (.int, [(.int (own_c [(N0 + 1)] 0)), (.int (own_p [(N0 + 1)] 1)), (.int (own_p [(N0 + 1)] 2)), (.int (own_p [(N0 + 1)] 3)), (.int (own_p [(N0 + 1)] 4)), (.int (own_c [(N0 + 1)] 5))])]) rfl ?_
  refine H.iinc s1_55 rfl (w := (4 : Int32)) (by decide) (ls' := #[.val (.ref (n0 + 0)), .val (.int (1 : Int32)), .val (.int (5 : Int32)), .val (.ref (n0 + 1)), .val (.int (4 : Int32))]) rfl ?_
  refine H.goto s1_58 ?_
  refine H.iload s1_36 rfl ?_
  refine H.iloadN s1_38 rfl ?_
  refine H.icmpF s1_39 (show (4 : Int32) < (5 : Int32) by decide) ?_
  refine H.aloadN s1_42 rfl rfl ?_
  refine H.iload s1_43 rfl ?_
  refine H.iconst s1_45 (v := (1 : Int32)) (by decide) ?_
  refine H.iadd s1_46 (w := (5 : Int32)) (by decide) ?_
  refine H.dup2 s1_47 rfl rfl ?_
  refine H.iaload s1_48 (i := 1) (j := 5) rfl (by decide) (v := (.int (own_c [(N0 + 1)] 5))) rfl ?_
  refine H.aloadN s1_49 rfl rfl ?_
  refine H.iload s1_50 rfl ?_
  refine H.iaload s1_52 (i := 1) (j := 4) rfl (by decide) (v := (.int (own_p [(N0 + 1)] 4))) rfl ?_
  refine H.iadd s1_53 (w := (own_p [(N0 + 1)] 5)) rfl ?_
  refine H.iastore s1_54 (i := 1) (j := 5) rfl (by decide) (ltb rfl)  (A' := [.inr (.int, [(.int e0), (.int e1), (.int e2), (.int e3)]), .inr (.int, [(.int (own_c [(N0 + 1)] 0)), (.int (own_p [(N0 + 1)] 1)), (.int (own_p [(N0 + 1)] 2)), (.int (own_p [(N0 + 1)] 3)), (.int (own_p [(N0 + 1)] 4)), (.int (own_p [(N0 + 1)] 5))])]) rfl ?_
  refine H.iinc s1_55 rfl (w := (5 : Int32)) (by decide) (ls' := #[.val (.ref (n0 + 0)), .val (.int (1 : Int32)), .val (.int (5 : Int32)), .val (.ref (n0 + 1)), .val (.int (5 : Int32))]) rfl ?_
  refine H.goto s1_58 ?_
  refine H.iload s1_36 rfl ?_
  refine H.iloadN s1_38 rfl ?_
  refine H.icmpT s1_39 (show ¬ (5 : Int32) < (5 : Int32) by decide) ?_
  refine H.aloadN s1_61 rfl rfl ?_
  exact H.areturn s1_62 rfl rfl rfl rfl ⟨rfl, rfl⟩ (by decide) (by decide)


set_option maxRecDepth 65536 in
set_option maxHeartbeats 40000000 in
theorem a_23 (l : Launch) {Z : State} {a0 : Array Value} (hw : HW1 Z a0) (n0 : Nat) (e0 : Int32) (e1 : Int32) (e2 : Int32) (e3 : Int32) {N0 : Nat} (hN0 : e0.toInt = (N0 : Int)) (lN0 : N0 < 5) {N1 : Nat} (hN1 : e1.toInt = (N1 : Int)) (lN1 : N1 < 5) {N2 : Nat} (hN2 : e2.toInt = (N2 : Int)) (lN2 : N2 < 5) {N3 : Nat} (hN3 : e3.toInt = (N3 : Int)) (lN3 : N3 < 5) : Met l Z KT n0 y1 prog_8_method_2_code 5 (some (.array .int)) ({ frames := 0, cells := 1, slots := 6, locals := 0 } : Room) #[(.ref (n0 + 0)), (.int (2 : Int32)), (.int (5 : Int32))] [.inr (.int, [(.int e0), (.int e1), (.int e2), (.int e3)])] (Is (some (.ref (n0 + 1))) [.inr (.int, [(.int e0), (.int e1), (.int e2), (.int e3)]), .inr (.int, [(.int (own_c [(N1 + 1), (N0 + 1)] 0)), (.int (own_p [(N1 + 1), (N0 + 1)] 1)), (.int (own_p [(N1 + 1), (N0 + 1)] 2)), (.int (own_p [(N1 + 1), (N0 + 1)] 3)), (.int (own_p [(N1 + 1), (N0 + 1)] 4)), (.int (own_p [(N1 + 1), (N0 + 1)] 5))])]) := by
  refine Met.of (a0 := a0) (ls := #[.val (.ref (n0 + 0)), .val (.int (2 : Int32)), .val (.int (5 : Int32)), .unset, .unset]) (kok hw) (plainFor_of_name pn_4) (fun m => by first | (simp [entryFrame, mkF, argsToLocals, Value.category]; done) | rfl) (fun G H => ?_)
  refine H.iloadN s1_0 rfl ?_
  refine H.iconst s1_1 (v := (1 : Int32)) (by decide) ?_
  refine H.iadd s1_2 (w := (6 : Int32)) (by decide) ?_
  refine H.newarray s1_3 (ty := .int) rfl (k_3 hw) (N := 6) (cap := 6) (by decide) rfl (by decide) (by decide) (by first | rfl | simp) (by decide) (by decide) (i := 1) rfl (A' := [.inr (.int, [(.int e0), (.int e1), (.int e2), (.int e3)]), .inr (.int, [(.int (0 : Int32)), (.int (0 : Int32)), (.int (0 : Int32)), (.int (0 : Int32)), (.int (0 : Int32)), (.int (0 : Int32))])]) rfl (k' := 1) rfl (n' := 6) rfl ?_
  refine H.astoreN s1_5 rfl (ls' := #[.val (.ref (n0 + 0)), .val (.int (2 : Int32)), .val (.int (5 : Int32)), .val (.ref (n0 + 1)), .unset]) rfl ?_
  refine H.iconst s1_6 (v := (0 : Int32)) (by decide) ?_
  refine H.istore s1_7 (ls' := #[.val (.ref (n0 + 0)), .val (.int (2 : Int32)), .val (.int (5 : Int32)), .val (.ref (n0 + 1)), .val (.int (0 : Int32))]) rfl ?_
  refine H.iload s1_9 rfl ?_
  refine H.iloadN s1_11 rfl ?_
  refine H.icmpF s1_12 (show (0 : Int32) < (2 : Int32) by decide) ?_
  refine H.aloadN s1_15 rfl rfl ?_
  refine H.aloadN s1_16 rfl rfl ?_
  refine H.iload s1_17 rfl ?_
  refine H.iaload s1_19 (i := 0) (j := 0) rfl (by decide) (v := (.int e0)) rfl ?_
  refine H.iconst s1_20 (v := (1 : Int32)) (by decide) ?_
  refine H.iadd s1_21 rfl ?_
  refine H.dup2 s1_22 rfl rfl ?_
  refine H.iaload s1_23 (i := 1) (j := (N0 + 1)) rfl (own_e1 5 hN0 lN0 (by decide)) (v := (.int (own_c [] (N0 + 1)))) (own_get 6 [] (by omega)) ?_
  refine H.iconst s1_24 (v := (1 : Int32)) (by decide) ?_
  refine H.iadd s1_25 rfl ?_
  refine H.iastore s1_26 (i := 1) (j := (N0 + 1)) rfl (own_e1 5 hN0 lN0 (by decide)) (by show _ < 6; omega)  (A' := [.inr (.int, [(.int e0), (.int e1), (.int e2), (.int e3)]), .inr (.int, [(.int (own_c [(N0 + 1)] 0)), (.int (own_c [(N0 + 1)] 1)), (.int (own_c [(N0 + 1)] 2)), (.int (own_c [(N0 + 1)] 3)), (.int (own_c [(N0 + 1)] 4)), (.int (own_c [(N0 + 1)] 5))])]) (congrArg (fun z => ([.inr (.int, [(.int e0), (.int e1), (.int e2), (.int e3)]), .inr (.int, [(.int (0 : Int32)), (.int (0 : Int32)), (.int (0 : Int32)), (.int (0 : Int32)), (.int (0 : Int32)), (.int (0 : Int32))])] : List Ob).set 1 (.inr (.int, z))) (own_set 6 [] (by omega))) ?_
  refine H.iinc s1_27 rfl (w := (1 : Int32)) (by decide) (ls' := #[.val (.ref (n0 + 0)), .val (.int (2 : Int32)), .val (.int (5 : Int32)), .val (.ref (n0 + 1)), .val (.int (1 : Int32))]) rfl ?_
  refine H.goto s1_30 ?_
  refine H.iload s1_9 rfl ?_
  refine H.iloadN s1_11 rfl ?_
  refine H.icmpF s1_12 (show (1 : Int32) < (2 : Int32) by decide) ?_
  refine H.aloadN s1_15 rfl rfl ?_
  refine H.aloadN s1_16 rfl rfl ?_
  refine H.iload s1_17 rfl ?_
  refine H.iaload s1_19 (i := 0) (j := 1) rfl (by decide) (v := (.int e1)) rfl ?_
  refine H.iconst s1_20 (v := (1 : Int32)) (by decide) ?_
  refine H.iadd s1_21 rfl ?_
  refine H.dup2 s1_22 rfl rfl ?_
  refine H.iaload s1_23 (i := 1) (j := (N1 + 1)) rfl (own_e1 5 hN1 lN1 (by decide)) (v := (.int (own_c [(N0 + 1)] (N1 + 1)))) (own_get 6 [(N0 + 1)] (by omega)) ?_
  refine H.iconst s1_24 (v := (1 : Int32)) (by decide) ?_
  refine H.iadd s1_25 rfl ?_
  refine H.iastore s1_26 (i := 1) (j := (N1 + 1)) rfl (own_e1 5 hN1 lN1 (by decide)) (by show _ < 6; omega)  (A' := [.inr (.int, [(.int e0), (.int e1), (.int e2), (.int e3)]), .inr (.int, [(.int (own_c [(N1 + 1), (N0 + 1)] 0)), (.int (own_c [(N1 + 1), (N0 + 1)] 1)), (.int (own_c [(N1 + 1), (N0 + 1)] 2)), (.int (own_c [(N1 + 1), (N0 + 1)] 3)), (.int (own_c [(N1 + 1), (N0 + 1)] 4)), (.int (own_c [(N1 + 1), (N0 + 1)] 5))])]) (congrArg (fun z => ([.inr (.int, [(.int e0), (.int e1), (.int e2), (.int e3)]), .inr (.int, [(.int (own_c [(N0 + 1)] 0)), (.int (own_c [(N0 + 1)] 1)), (.int (own_c [(N0 + 1)] 2)), (.int (own_c [(N0 + 1)] 3)), (.int (own_c [(N0 + 1)] 4)), (.int (own_c [(N0 + 1)] 5))])] : List Ob).set 1 (.inr (.int, z))) (own_set 6 [(N0 + 1)] (by omega))) ?_
  refine H.iinc s1_27 rfl (w := (2 : Int32)) (by decide) (ls' := #[.val (.ref (n0 + 0)), .val (.int (2 : Int32)), .val (.int (5 : Int32)), .val (.ref (n0 + 1)), .val (.int (2 : Int32))]) rfl ?_
  refine H.goto s1_30 ?_
  refine H.iload s1_9 rfl ?_
  refine H.iloadN s1_11 rfl ?_
  refine H.icmpT s1_12 (show ¬ (2 : Int32) < (2 : Int32) by decide) ?_
  refine H.iconst s1_33 (v := (0 : Int32)) (by decide) ?_
  refine H.istore s1_34 (ls' := #[.val (.ref (n0 + 0)), .val (.int (2 : Int32)), .val (.int (5 : Int32)), .val (.ref (n0 + 1)), .val (.int (0 : Int32))]) rfl ?_
  refine H.iload s1_36 rfl ?_
  refine H.iloadN s1_38 rfl ?_
  refine H.icmpF s1_39 (show (0 : Int32) < (5 : Int32) by decide) ?_
  refine H.aloadN s1_42 rfl rfl ?_
  refine H.iload s1_43 rfl ?_
  refine H.iconst s1_45 (v := (1 : Int32)) (by decide) ?_
  refine H.iadd s1_46 (w := (1 : Int32)) (by decide) ?_
  refine H.dup2 s1_47 rfl rfl ?_
  refine H.iaload s1_48 (i := 1) (j := 1) rfl (by decide) (v := (.int (own_c [(N1 + 1), (N0 + 1)] 1))) rfl ?_
  refine H.aloadN s1_49 rfl rfl ?_
  refine H.iload s1_50 rfl ?_
  refine H.iaload s1_52 (i := 1) (j := 0) rfl (by decide) (v := (.int (own_c [(N1 + 1), (N0 + 1)] 0))) rfl ?_
  refine H.iadd s1_53 (w := (own_p [(N1 + 1), (N0 + 1)] 1)) rfl ?_
  refine H.iastore s1_54 (i := 1) (j := 1) rfl (by decide) (ltb rfl)  (A' := [.inr (.int, [(.int e0), (.int e1), (.int e2), (.int e3)]), .inr (.int, [(.int (own_c [(N1 + 1), (N0 + 1)] 0)), (.int (own_p [(N1 + 1), (N0 + 1)] 1)), (.int (own_c [(N1 + 1), (N0 + 1)] 2)), (.int (own_c [(N1 + 1), (N0 + 1)] 3)), (.int (own_c [(N1 + 1), (N0 + 1)] 4)), (.int (own_c [(N1 + 1), (N0 + 1)] 5))])]) rfl ?_
  refine H.iinc s1_55 rfl (w := (1 : Int32)) (by decide) (ls' := #[.val (.ref (n0 + 0)), .val (.int (2 : Int32)), .val (.int (5 : Int32)), .val (.ref (n0 + 1)), .val (.int (1 : Int32))]) rfl ?_
  refine H.goto s1_58 ?_
  refine H.iload s1_36 rfl ?_
  refine H.iloadN s1_38 rfl ?_
  refine H.icmpF s1_39 (show (1 : Int32) < (5 : Int32) by decide) ?_
  refine H.aloadN s1_42 rfl rfl ?_
  refine H.iload s1_43 rfl ?_
  refine H.iconst s1_45 (v := (1 : Int32)) (by decide) ?_
  refine H.iadd s1_46 (w := (2 : Int32)) (by decide) ?_
  refine H.dup2 s1_47 rfl rfl ?_
  refine H.iaload s1_48 (i := 1) (j := 2) rfl (by decide) (v := (.int (own_c [(N1 + 1), (N0 + 1)] 2))) rfl ?_
  refine H.aloadN s1_49 rfl rfl ?_
  refine H.iload s1_50 rfl ?_
  refine H.iaload s1_52 (i := 1) (j := 1) rfl (by decide) (v := (.int (own_p [(N1 + 1), (N0 + 1)] 1))) rfl ?_
  refine H.iadd s1_53 (w := (own_p [(N1 + 1), (N0 + 1)] 2)) rfl ?_
  refine H.iastore s1_54 (i := 1) (j := 2) rfl (by decide) (ltb rfl)  (A' := [.inr (.int, [(.int e0), (.int e1), (.int e2), (.int e3)]), .inr (.int, [(.int (own_c [(N1 + 1), (N0 + 1)] 0)), (.int (own_p [(N1 + 1), (N0 + 1)] 1)), (.int (own_p [(N1 + 1), (N0 + 1)] 2)), (.int (own_c [(N1 + 1), (N0 + 1)] 3)), (.int (own_c [(N1 + 1), (N0 + 1)] 4)), (.int (own_c [(N1 + 1), (N0 + 1)] 5))])]) rfl ?_
  refine H.iinc s1_55 rfl (w := (2 : Int32)) (by decide) (ls' := #[.val (.ref (n0 + 0)), .val (.int (2 : Int32)), .val (.int (5 : Int32)), .val (.ref (n0 + 1)), .val (.int (2 : Int32))]) rfl ?_
  refine H.goto s1_58 ?_
  refine H.iload s1_36 rfl ?_
  refine H.iloadN s1_38 rfl ?_
  refine H.icmpF s1_39 (show (2 : Int32) < (5 : Int32) by decide) ?_
  refine H.aloadN s1_42 rfl rfl ?_
  refine H.iload s1_43 rfl ?_
  refine H.iconst s1_45 (v := (1 : Int32)) (by decide) ?_
  refine H.iadd s1_46 (w := (3 : Int32)) (by decide) ?_
  refine H.dup2 s1_47 rfl rfl ?_
  refine H.iaload s1_48 (i := 1) (j := 3) rfl (by decide) (v := (.int (own_c [(N1 + 1), (N0 + 1)] 3))) rfl ?_
  refine H.aloadN s1_49 rfl rfl ?_
  refine H.iload s1_50 rfl ?_
  refine H.iaload s1_52 (i := 1) (j := 2) rfl (by decide) (v := (.int (own_p [(N1 + 1), (N0 + 1)] 2))) rfl ?_
  refine H.iadd s1_53 (w := (own_p [(N1 + 1), (N0 + 1)] 3)) rfl ?_
  refine H.iastore s1_54 (i := 1) (j := 3) rfl (by decide) (ltb rfl)  (A' := [.inr (.int, [(.int e0), (.int e1), (.int e2), (.int e3)]), .inr (.int, [(.int (own_c [(N1 + 1), (N0 + 1)] 0)), (.int (own_p [(N1 + 1), (N0 + 1)] 1)), (.int (own_p [(N1 + 1), (N0 + 1)] 2)), (.int (own_p [(N1 + 1), (N0 + 1)] 3)), (.int (own_c [(N1 + 1), (N0 + 1)] 4)), (.int (own_c [(N1 + 1), (N0 + 1)] 5))])]) rfl ?_
  refine H.iinc s1_55 rfl (w := (3 : Int32)) (by decide) (ls' := #[.val (.ref (n0 + 0)), .val (.int (2 : Int32)), .val (.int (5 : Int32)), .val (.ref (n0 + 1)), .val (.int (3 : Int32))]) rfl ?_
  refine H.goto s1_58 ?_
  refine H.iload s1_36 rfl ?_
  refine H.iloadN s1_38 rfl ?_
  refine H.icmpF s1_39 (show (3 : Int32) < (5 : Int32) by decide) ?_
  refine H.aloadN s1_42 rfl rfl ?_
  refine H.iload s1_43 rfl ?_
  refine H.iconst s1_45 (v := (1 : Int32)) (by decide) ?_
  refine H.iadd s1_46 (w := (4 : Int32)) (by decide) ?_
  refine H.dup2 s1_47 rfl rfl ?_
  refine H.iaload s1_48 (i := 1) (j := 4) rfl (by decide) (v := (.int (own_c [(N1 + 1), (N0 + 1)] 4))) rfl ?_
  refine H.aloadN s1_49 rfl rfl ?_
  refine H.iload s1_50 rfl ?_
  refine H.iaload s1_52 (i := 1) (j := 3) rfl (by decide) (v := (.int (own_p [(N1 + 1), (N0 + 1)] 3))) rfl ?_
  refine H.iadd s1_53 (w := (own_p [(N1 + 1), (N0 + 1)] 4)) rfl ?_
  refine H.iastore s1_54 (i := 1) (j := 4) rfl (by decide) (ltb rfl)  (A' := [.inr (.int, [(.int e0), (.int e1), (.int e2), (.int e3)]), .inr (.int, [(.int (own_c [(N1 + 1), (N0 + 1)] 0)), (.int (own_p [(N1 + 1), (N0 + 1)] 1)), (.int (own_p [(N1 + 1), (N0 + 1)] 2)), (.int (own_p [(N1 + 1), (N0 + 1)] 3)), (.int (own_p [(N1 + 1), (N0 + 1)] 4)), (.int (own_c [(N1 + 1), (N0 + 1)] 5))])]) rfl ?_
  refine H.iinc s1_55 rfl (w := (4 : Int32)) (by decide) (ls' := #[.val (.ref (n0 + 0)), .val (.int (2 : Int32)), .val (.int (5 : Int32)), .val (.ref (n0 + 1)), .val (.int (4 : Int32))]) rfl ?_
  refine H.goto s1_58 ?_
  refine H.iload s1_36 rfl ?_
  refine H.iloadN s1_38 rfl ?_
  refine H.icmpF s1_39 (show (4 : Int32) < (5 : Int32) by decide) ?_
  refine H.aloadN s1_42 rfl rfl ?_
  refine H.iload s1_43 rfl ?_
  refine H.iconst s1_45 (v := (1 : Int32)) (by decide) ?_
  refine H.iadd s1_46 (w := (5 : Int32)) (by decide) ?_
  refine H.dup2 s1_47 rfl rfl ?_
  refine H.iaload s1_48 (i := 1) (j := 5) rfl (by decide) (v := (.int (own_c [(N1 + 1), (N0 + 1)] 5))) rfl ?_
  refine H.aloadN s1_49 rfl rfl ?_
  refine H.iload s1_50 rfl ?_
  refine H.iaload s1_52 (i := 1) (j := 4) rfl (by decide) (v := (.int (own_p [(N1 + 1), (N0 + 1)] 4))) rfl ?_
  refine H.iadd s1_53 (w := (own_p [(N1 + 1), (N0 + 1)] 5)) rfl ?_
  refine H.iastore s1_54 (i := 1) (j := 5) rfl (by decide) (ltb rfl)  (A' := [.inr (.int, [(.int e0), (.int e1), (.int e2), (.int e3)]), .inr (.int, [(.int (own_c [(N1 + 1), (N0 + 1)] 0)), (.int (own_p [(N1 + 1), (N0 + 1)] 1)), (.int (own_p [(N1 + 1), (N0 + 1)] 2)), (.int (own_p [(N1 + 1), (N0 + 1)] 3)), (.int (own_p [(N1 + 1), (N0 + 1)] 4)), (.int (own_p [(N1 + 1), (N0 + 1)] 5))])]) rfl ?_
  refine H.iinc s1_55 rfl (w := (5 : Int32)) (by decide) (ls' := #[.val (.ref (n0 + 0)), .val (.int (2 : Int32)), .val (.int (5 : Int32)), .val (.ref (n0 + 1)), .val (.int (5 : Int32))]) rfl ?_
  refine H.goto s1_58 ?_
  refine H.iload s1_36 rfl ?_
  refine H.iloadN s1_38 rfl ?_
  refine H.icmpT s1_39 (show ¬ (5 : Int32) < (5 : Int32) by decide) ?_
  refine H.aloadN s1_61 rfl rfl ?_
  exact H.areturn s1_62 rfl rfl rfl rfl ⟨rfl, rfl⟩ (by decide) (by decide)


set_option maxRecDepth 65536 in
set_option maxHeartbeats 40000000 in
theorem a_24 (l : Launch) {Z : State} {a0 : Array Value} (hw : HW1 Z a0) (n0 : Nat) (e0 : Int32) (e1 : Int32) (e2 : Int32) (e3 : Int32) {N0 : Nat} (hN0 : e0.toInt = (N0 : Int)) (lN0 : N0 < 5) {N1 : Nat} (hN1 : e1.toInt = (N1 : Int)) (lN1 : N1 < 5) {N2 : Nat} (hN2 : e2.toInt = (N2 : Int)) (lN2 : N2 < 5) {N3 : Nat} (hN3 : e3.toInt = (N3 : Int)) (lN3 : N3 < 5) : Met l Z KT n0 y1 prog_8_method_2_code 5 (some (.array .int)) ({ frames := 0, cells := 1, slots := 6, locals := 0 } : Room) #[(.ref (n0 + 0)), (.int (3 : Int32)), (.int (5 : Int32))] [.inr (.int, [(.int e0), (.int e1), (.int e2), (.int e3)])] (Is (some (.ref (n0 + 1))) [.inr (.int, [(.int e0), (.int e1), (.int e2), (.int e3)]), .inr (.int, [(.int (own_c [(N2 + 1), (N1 + 1), (N0 + 1)] 0)), (.int (own_p [(N2 + 1), (N1 + 1), (N0 + 1)] 1)), (.int (own_p [(N2 + 1), (N1 + 1), (N0 + 1)] 2)), (.int (own_p [(N2 + 1), (N1 + 1), (N0 + 1)] 3)), (.int (own_p [(N2 + 1), (N1 + 1), (N0 + 1)] 4)), (.int (own_p [(N2 + 1), (N1 + 1), (N0 + 1)] 5))])]) := by
  refine Met.of (a0 := a0) (ls := #[.val (.ref (n0 + 0)), .val (.int (3 : Int32)), .val (.int (5 : Int32)), .unset, .unset]) (kok hw) (plainFor_of_name pn_4) (fun m => by first | (simp [entryFrame, mkF, argsToLocals, Value.category]; done) | rfl) (fun G H => ?_)
  refine H.iloadN s1_0 rfl ?_
  refine H.iconst s1_1 (v := (1 : Int32)) (by decide) ?_
  refine H.iadd s1_2 (w := (6 : Int32)) (by decide) ?_
  refine H.newarray s1_3 (ty := .int) rfl (k_3 hw) (N := 6) (cap := 6) (by decide) rfl (by decide) (by decide) (by first | rfl | simp) (by decide) (by decide) (i := 1) rfl (A' := [.inr (.int, [(.int e0), (.int e1), (.int e2), (.int e3)]), .inr (.int, [(.int (0 : Int32)), (.int (0 : Int32)), (.int (0 : Int32)), (.int (0 : Int32)), (.int (0 : Int32)), (.int (0 : Int32))])]) rfl (k' := 1) rfl (n' := 6) rfl ?_
  refine H.astoreN s1_5 rfl (ls' := #[.val (.ref (n0 + 0)), .val (.int (3 : Int32)), .val (.int (5 : Int32)), .val (.ref (n0 + 1)), .unset]) rfl ?_
  refine H.iconst s1_6 (v := (0 : Int32)) (by decide) ?_
  refine H.istore s1_7 (ls' := #[.val (.ref (n0 + 0)), .val (.int (3 : Int32)), .val (.int (5 : Int32)), .val (.ref (n0 + 1)), .val (.int (0 : Int32))]) rfl ?_
  refine H.iload s1_9 rfl ?_
  refine H.iloadN s1_11 rfl ?_
  refine H.icmpF s1_12 (show (0 : Int32) < (3 : Int32) by decide) ?_
  refine H.aloadN s1_15 rfl rfl ?_
  refine H.aloadN s1_16 rfl rfl ?_
  refine H.iload s1_17 rfl ?_
  refine H.iaload s1_19 (i := 0) (j := 0) rfl (by decide) (v := (.int e0)) rfl ?_
  refine H.iconst s1_20 (v := (1 : Int32)) (by decide) ?_
  refine H.iadd s1_21 rfl ?_
  refine H.dup2 s1_22 rfl rfl ?_
  refine H.iaload s1_23 (i := 1) (j := (N0 + 1)) rfl (own_e1 5 hN0 lN0 (by decide)) (v := (.int (own_c [] (N0 + 1)))) (own_get 6 [] (by omega)) ?_
  refine H.iconst s1_24 (v := (1 : Int32)) (by decide) ?_
  refine H.iadd s1_25 rfl ?_
  refine H.iastore s1_26 (i := 1) (j := (N0 + 1)) rfl (own_e1 5 hN0 lN0 (by decide)) (by show _ < 6; omega)  (A' := [.inr (.int, [(.int e0), (.int e1), (.int e2), (.int e3)]), .inr (.int, [(.int (own_c [(N0 + 1)] 0)), (.int (own_c [(N0 + 1)] 1)), (.int (own_c [(N0 + 1)] 2)), (.int (own_c [(N0 + 1)] 3)), (.int (own_c [(N0 + 1)] 4)), (.int (own_c [(N0 + 1)] 5))])]) (congrArg (fun z => ([.inr (.int, [(.int e0), (.int e1), (.int e2), (.int e3)]), .inr (.int, [(.int (0 : Int32)), (.int (0 : Int32)), (.int (0 : Int32)), (.int (0 : Int32)), (.int (0 : Int32)), (.int (0 : Int32))])] : List Ob).set 1 (.inr (.int, z))) (own_set 6 [] (by omega))) ?_
  refine H.iinc s1_27 rfl (w := (1 : Int32)) (by decide) (ls' := #[.val (.ref (n0 + 0)), .val (.int (3 : Int32)), .val (.int (5 : Int32)), .val (.ref (n0 + 1)), .val (.int (1 : Int32))]) rfl ?_
  refine H.goto s1_30 ?_
  refine H.iload s1_9 rfl ?_
  refine H.iloadN s1_11 rfl ?_
  refine H.icmpF s1_12 (show (1 : Int32) < (3 : Int32) by decide) ?_
  refine H.aloadN s1_15 rfl rfl ?_
  refine H.aloadN s1_16 rfl rfl ?_
  refine H.iload s1_17 rfl ?_
  refine H.iaload s1_19 (i := 0) (j := 1) rfl (by decide) (v := (.int e1)) rfl ?_
  refine H.iconst s1_20 (v := (1 : Int32)) (by decide) ?_
  refine H.iadd s1_21 rfl ?_
  refine H.dup2 s1_22 rfl rfl ?_
  refine H.iaload s1_23 (i := 1) (j := (N1 + 1)) rfl (own_e1 5 hN1 lN1 (by decide)) (v := (.int (own_c [(N0 + 1)] (N1 + 1)))) (own_get 6 [(N0 + 1)] (by omega)) ?_
  refine H.iconst s1_24 (v := (1 : Int32)) (by decide) ?_
  refine H.iadd s1_25 rfl ?_
  refine H.iastore s1_26 (i := 1) (j := (N1 + 1)) rfl (own_e1 5 hN1 lN1 (by decide)) (by show _ < 6; omega)  (A' := [.inr (.int, [(.int e0), (.int e1), (.int e2), (.int e3)]), .inr (.int, [(.int (own_c [(N1 + 1), (N0 + 1)] 0)), (.int (own_c [(N1 + 1), (N0 + 1)] 1)), (.int (own_c [(N1 + 1), (N0 + 1)] 2)), (.int (own_c [(N1 + 1), (N0 + 1)] 3)), (.int (own_c [(N1 + 1), (N0 + 1)] 4)), (.int (own_c [(N1 + 1), (N0 + 1)] 5))])]) (congrArg (fun z => ([.inr (.int, [(.int e0), (.int e1), (.int e2), (.int e3)]), .inr (.int, [(.int (own_c [(N0 + 1)] 0)), (.int (own_c [(N0 + 1)] 1)), (.int (own_c [(N0 + 1)] 2)), (.int (own_c [(N0 + 1)] 3)), (.int (own_c [(N0 + 1)] 4)), (.int (own_c [(N0 + 1)] 5))])] : List Ob).set 1 (.inr (.int, z))) (own_set 6 [(N0 + 1)] (by omega))) ?_
  refine H.iinc s1_27 rfl (w := (2 : Int32)) (by decide) (ls' := #[.val (.ref (n0 + 0)), .val (.int (3 : Int32)), .val (.int (5 : Int32)), .val (.ref (n0 + 1)), .val (.int (2 : Int32))]) rfl ?_
  refine H.goto s1_30 ?_
  refine H.iload s1_9 rfl ?_
  refine H.iloadN s1_11 rfl ?_
  refine H.icmpF s1_12 (show (2 : Int32) < (3 : Int32) by decide) ?_
  refine H.aloadN s1_15 rfl rfl ?_
  refine H.aloadN s1_16 rfl rfl ?_
  refine H.iload s1_17 rfl ?_
  refine H.iaload s1_19 (i := 0) (j := 2) rfl (by decide) (v := (.int e2)) rfl ?_
  refine H.iconst s1_20 (v := (1 : Int32)) (by decide) ?_
  refine H.iadd s1_21 rfl ?_
  refine H.dup2 s1_22 rfl rfl ?_
  refine H.iaload s1_23 (i := 1) (j := (N2 + 1)) rfl (own_e1 5 hN2 lN2 (by decide)) (v := (.int (own_c [(N1 + 1), (N0 + 1)] (N2 + 1)))) (own_get 6 [(N1 + 1), (N0 + 1)] (by omega)) ?_
  refine H.iconst s1_24 (v := (1 : Int32)) (by decide) ?_
  refine H.iadd s1_25 rfl ?_
  refine H.iastore s1_26 (i := 1) (j := (N2 + 1)) rfl (own_e1 5 hN2 lN2 (by decide)) (by show _ < 6; omega)  (A' := [.inr (.int, [(.int e0), (.int e1), (.int e2), (.int e3)]), .inr (.int, [(.int (own_c [(N2 + 1), (N1 + 1), (N0 + 1)] 0)), (.int (own_c [(N2 + 1), (N1 + 1), (N0 + 1)] 1)), (.int (own_c [(N2 + 1), (N1 + 1), (N0 + 1)] 2)), (.int (own_c [(N2 + 1), (N1 + 1), (N0 + 1)] 3)), (.int (own_c [(N2 + 1), (N1 + 1), (N0 + 1)] 4)), (.int (own_c [(N2 + 1), (N1 + 1), (N0 + 1)] 5))])]) (congrArg (fun z => ([.inr (.int, [(.int e0), (.int e1), (.int e2), (.int e3)]), .inr (.int, [(.int (own_c [(N1 + 1), (N0 + 1)] 0)), (.int (own_c [(N1 + 1), (N0 + 1)] 1)), (.int (own_c [(N1 + 1), (N0 + 1)] 2)), (.int (own_c [(N1 + 1), (N0 + 1)] 3)), (.int (own_c [(N1 + 1), (N0 + 1)] 4)), (.int (own_c [(N1 + 1), (N0 + 1)] 5))])] : List Ob).set 1 (.inr (.int, z))) (own_set 6 [(N1 + 1), (N0 + 1)] (by omega))) ?_
  refine H.iinc s1_27 rfl (w := (3 : Int32)) (by decide) (ls' := #[.val (.ref (n0 + 0)), .val (.int (3 : Int32)), .val (.int (5 : Int32)), .val (.ref (n0 + 1)), .val (.int (3 : Int32))]) rfl ?_
  refine H.goto s1_30 ?_
  refine H.iload s1_9 rfl ?_
  refine H.iloadN s1_11 rfl ?_
  refine H.icmpT s1_12 (show ¬ (3 : Int32) < (3 : Int32) by decide) ?_
  refine H.iconst s1_33 (v := (0 : Int32)) (by decide) ?_
  refine H.istore s1_34 (ls' := #[.val (.ref (n0 + 0)), .val (.int (3 : Int32)), .val (.int (5 : Int32)), .val (.ref (n0 + 1)), .val (.int (0 : Int32))]) rfl ?_
  refine H.iload s1_36 rfl ?_
  refine H.iloadN s1_38 rfl ?_
  refine H.icmpF s1_39 (show (0 : Int32) < (5 : Int32) by decide) ?_
  refine H.aloadN s1_42 rfl rfl ?_
  refine H.iload s1_43 rfl ?_
  refine H.iconst s1_45 (v := (1 : Int32)) (by decide) ?_
  refine H.iadd s1_46 (w := (1 : Int32)) (by decide) ?_
  refine H.dup2 s1_47 rfl rfl ?_
  refine H.iaload s1_48 (i := 1) (j := 1) rfl (by decide) (v := (.int (own_c [(N2 + 1), (N1 + 1), (N0 + 1)] 1))) rfl ?_
  refine H.aloadN s1_49 rfl rfl ?_
  refine H.iload s1_50 rfl ?_
  refine H.iaload s1_52 (i := 1) (j := 0) rfl (by decide) (v := (.int (own_c [(N2 + 1), (N1 + 1), (N0 + 1)] 0))) rfl ?_
  refine H.iadd s1_53 (w := (own_p [(N2 + 1), (N1 + 1), (N0 + 1)] 1)) rfl ?_
  refine H.iastore s1_54 (i := 1) (j := 1) rfl (by decide) (ltb rfl)  (A' := [.inr (.int, [(.int e0), (.int e1), (.int e2), (.int e3)]), .inr (.int, [(.int (own_c [(N2 + 1), (N1 + 1), (N0 + 1)] 0)), (.int (own_p [(N2 + 1), (N1 + 1), (N0 + 1)] 1)), (.int (own_c [(N2 + 1), (N1 + 1), (N0 + 1)] 2)), (.int (own_c [(N2 + 1), (N1 + 1), (N0 + 1)] 3)), (.int (own_c [(N2 + 1), (N1 + 1), (N0 + 1)] 4)), (.int (own_c [(N2 + 1), (N1 + 1), (N0 + 1)] 5))])]) rfl ?_
  refine H.iinc s1_55 rfl (w := (1 : Int32)) (by decide) (ls' := #[.val (.ref (n0 + 0)), .val (.int (3 : Int32)), .val (.int (5 : Int32)), .val (.ref (n0 + 1)), .val (.int (1 : Int32))]) rfl ?_
  refine H.goto s1_58 ?_
  refine H.iload s1_36 rfl ?_
  refine H.iloadN s1_38 rfl ?_
  refine H.icmpF s1_39 (show (1 : Int32) < (5 : Int32) by decide) ?_
  refine H.aloadN s1_42 rfl rfl ?_
  refine H.iload s1_43 rfl ?_
  refine H.iconst s1_45 (v := (1 : Int32)) (by decide) ?_
  refine H.iadd s1_46 (w := (2 : Int32)) (by decide) ?_
  refine H.dup2 s1_47 rfl rfl ?_
  refine H.iaload s1_48 (i := 1) (j := 2) rfl (by decide) (v := (.int (own_c [(N2 + 1), (N1 + 1), (N0 + 1)] 2))) rfl ?_
  refine H.aloadN s1_49 rfl rfl ?_
  refine H.iload s1_50 rfl ?_
  refine H.iaload s1_52 (i := 1) (j := 1) rfl (by decide) (v := (.int (own_p [(N2 + 1), (N1 + 1), (N0 + 1)] 1))) rfl ?_
  refine H.iadd s1_53 (w := (own_p [(N2 + 1), (N1 + 1), (N0 + 1)] 2)) rfl ?_
  refine H.iastore s1_54 (i := 1) (j := 2) rfl (by decide) (ltb rfl)  (A' := [.inr (.int, [(.int e0), (.int e1), (.int e2), (.int e3)]), .inr (.int, [(.int (own_c [(N2 + 1), (N1 + 1), (N0 + 1)] 0)), (.int (own_p [(N2 + 1), (N1 + 1), (N0 + 1)] 1)), (.int (own_p [(N2 + 1), (N1 + 1), (N0 + 1)] 2)), (.int (own_c [(N2 + 1), (N1 + 1), (N0 + 1)] 3)), (.int (own_c [(N2 + 1), (N1 + 1), (N0 + 1)] 4)), (.int (own_c [(N2 + 1), (N1 + 1), (N0 + 1)] 5))])]) rfl ?_
  refine H.iinc s1_55 rfl (w := (2 : Int32)) (by decide) (ls' := #[.val (.ref (n0 + 0)), .val (.int (3 : Int32)), .val (.int (5 : Int32)), .val (.ref (n0 + 1)), .val (.int (2 : Int32))]) rfl ?_
  refine H.goto s1_58 ?_
  refine H.iload s1_36 rfl ?_
  refine H.iloadN s1_38 rfl ?_
  refine H.icmpF s1_39 (show (2 : Int32) < (5 : Int32) by decide) ?_
  refine H.aloadN s1_42 rfl rfl ?_
  refine H.iload s1_43 rfl ?_
  refine H.iconst s1_45 (v := (1 : Int32)) (by decide) ?_
  refine H.iadd s1_46 (w := (3 : Int32)) (by decide) ?_
  refine H.dup2 s1_47 rfl rfl ?_
  refine H.iaload s1_48 (i := 1) (j := 3) rfl (by decide) (v := (.int (own_c [(N2 + 1), (N1 + 1), (N0 + 1)] 3))) rfl ?_
  refine H.aloadN s1_49 rfl rfl ?_
  refine H.iload s1_50 rfl ?_
  refine H.iaload s1_52 (i := 1) (j := 2) rfl (by decide) (v := (.int (own_p [(N2 + 1), (N1 + 1), (N0 + 1)] 2))) rfl ?_
  refine H.iadd s1_53 (w := (own_p [(N2 + 1), (N1 + 1), (N0 + 1)] 3)) rfl ?_
  refine H.iastore s1_54 (i := 1) (j := 3) rfl (by decide) (ltb rfl)  (A' := [.inr (.int, [(.int e0), (.int e1), (.int e2), (.int e3)]), .inr (.int, [(.int (own_c [(N2 + 1), (N1 + 1), (N0 + 1)] 0)), (.int (own_p [(N2 + 1), (N1 + 1), (N0 + 1)] 1)), (.int (own_p [(N2 + 1), (N1 + 1), (N0 + 1)] 2)), (.int (own_p [(N2 + 1), (N1 + 1), (N0 + 1)] 3)), (.int (own_c [(N2 + 1), (N1 + 1), (N0 + 1)] 4)), (.int (own_c [(N2 + 1), (N1 + 1), (N0 + 1)] 5))])]) rfl ?_
  refine H.iinc s1_55 rfl (w := (3 : Int32)) (by decide) (ls' := #[.val (.ref (n0 + 0)), .val (.int (3 : Int32)), .val (.int (5 : Int32)), .val (.ref (n0 + 1)), .val (.int (3 : Int32))]) rfl ?_
  refine H.goto s1_58 ?_
  refine H.iload s1_36 rfl ?_
  refine H.iloadN s1_38 rfl ?_
  refine H.icmpF s1_39 (show (3 : Int32) < (5 : Int32) by decide) ?_
  refine H.aloadN s1_42 rfl rfl ?_
  refine H.iload s1_43 rfl ?_
  refine H.iconst s1_45 (v := (1 : Int32)) (by decide) ?_
  refine H.iadd s1_46 (w := (4 : Int32)) (by decide) ?_
  refine H.dup2 s1_47 rfl rfl ?_
  refine H.iaload s1_48 (i := 1) (j := 4) rfl (by decide) (v := (.int (own_c [(N2 + 1), (N1 + 1), (N0 + 1)] 4))) rfl ?_
  refine H.aloadN s1_49 rfl rfl ?_
  refine H.iload s1_50 rfl ?_
  refine H.iaload s1_52 (i := 1) (j := 3) rfl (by decide) (v := (.int (own_p [(N2 + 1), (N1 + 1), (N0 + 1)] 3))) rfl ?_
  refine H.iadd s1_53 (w := (own_p [(N2 + 1), (N1 + 1), (N0 + 1)] 4)) rfl ?_
  refine H.iastore s1_54 (i := 1) (j := 4) rfl (by decide) (ltb rfl)  (A' := [.inr (.int, [(.int e0), (.int e1), (.int e2), (.int e3)]), .inr (.int, [(.int (own_c [(N2 + 1), (N1 + 1), (N0 + 1)] 0)), (.int (own_p [(N2 + 1), (N1 + 1), (N0 + 1)] 1)), (.int (own_p [(N2 + 1), (N1 + 1), (N0 + 1)] 2)), (.int (own_p [(N2 + 1), (N1 + 1), (N0 + 1)] 3)), (.int (own_p [(N2 + 1), (N1 + 1), (N0 + 1)] 4)), (.int (own_c [(N2 + 1), (N1 + 1), (N0 + 1)] 5))])]) rfl ?_
  refine H.iinc s1_55 rfl (w := (4 : Int32)) (by decide) (ls' := #[.val (.ref (n0 + 0)), .val (.int (3 : Int32)), .val (.int (5 : Int32)), .val (.ref (n0 + 1)), .val (.int (4 : Int32))]) rfl ?_
  refine H.goto s1_58 ?_
  refine H.iload s1_36 rfl ?_
  refine H.iloadN s1_38 rfl ?_
  refine H.icmpF s1_39 (show (4 : Int32) < (5 : Int32) by decide) ?_
  refine H.aloadN s1_42 rfl rfl ?_
  refine H.iload s1_43 rfl ?_
  refine H.iconst s1_45 (v := (1 : Int32)) (by decide) ?_
  refine H.iadd s1_46 (w := (5 : Int32)) (by decide) ?_
  refine H.dup2 s1_47 rfl rfl ?_
  refine H.iaload s1_48 (i := 1) (j := 5) rfl (by decide) (v := (.int (own_c [(N2 + 1), (N1 + 1), (N0 + 1)] 5))) rfl ?_
  refine H.aloadN s1_49 rfl rfl ?_
  refine H.iload s1_50 rfl ?_
  refine H.iaload s1_52 (i := 1) (j := 4) rfl (by decide) (v := (.int (own_p [(N2 + 1), (N1 + 1), (N0 + 1)] 4))) rfl ?_
  refine H.iadd s1_53 (w := (own_p [(N2 + 1), (N1 + 1), (N0 + 1)] 5)) rfl ?_
  refine H.iastore s1_54 (i := 1) (j := 5) rfl (by decide) (ltb rfl)  (A' := [.inr (.int, [(.int e0), (.int e1), (.int e2), (.int e3)]), .inr (.int, [(.int (own_c [(N2 + 1), (N1 + 1), (N0 + 1)] 0)), (.int (own_p [(N2 + 1), (N1 + 1), (N0 + 1)] 1)), (.int (own_p [(N2 + 1), (N1 + 1), (N0 + 1)] 2)), (.int (own_p [(N2 + 1), (N1 + 1), (N0 + 1)] 3)), (.int (own_p [(N2 + 1), (N1 + 1), (N0 + 1)] 4)), (.int (own_p [(N2 + 1), (N1 + 1), (N0 + 1)] 5))])]) rfl ?_
  refine H.iinc s1_55 rfl (w := (5 : Int32)) (by decide) (ls' := #[.val (.ref (n0 + 0)), .val (.int (3 : Int32)), .val (.int (5 : Int32)), .val (.ref (n0 + 1)), .val (.int (5 : Int32))]) rfl ?_
  refine H.goto s1_58 ?_
  refine H.iload s1_36 rfl ?_
  refine H.iloadN s1_38 rfl ?_
  refine H.icmpT s1_39 (show ¬ (5 : Int32) < (5 : Int32) by decide) ?_
  refine H.aloadN s1_61 rfl rfl ?_
  exact H.areturn s1_62 rfl rfl rfl rfl ⟨rfl, rfl⟩ (by decide) (by decide)


set_option maxRecDepth 65536 in
set_option maxHeartbeats 40000000 in
theorem a_25 (l : Launch) {Z : State} {a0 : Array Value} (hw : HW1 Z a0) (n0 : Nat) (e0 : Int32) (e1 : Int32) (e2 : Int32) (e3 : Int32) {N0 : Nat} (hN0 : e0.toInt = (N0 : Int)) (lN0 : N0 < 5) {N1 : Nat} (hN1 : e1.toInt = (N1 : Int)) (lN1 : N1 < 5) {N2 : Nat} (hN2 : e2.toInt = (N2 : Int)) (lN2 : N2 < 5) {N3 : Nat} (hN3 : e3.toInt = (N3 : Int)) (lN3 : N3 < 5) : Met l Z KT n0 y1 prog_8_method_2_code 5 (some (.array .int)) ({ frames := 0, cells := 1, slots := 6, locals := 0 } : Room) #[(.ref (n0 + 0)), (.int (4 : Int32)), (.int (5 : Int32))] [.inr (.int, [(.int e0), (.int e1), (.int e2), (.int e3)])] (Is (some (.ref (n0 + 1))) [.inr (.int, [(.int e0), (.int e1), (.int e2), (.int e3)]), .inr (.int, [(.int (own_c [(N3 + 1), (N2 + 1), (N1 + 1), (N0 + 1)] 0)), (.int (own_p [(N3 + 1), (N2 + 1), (N1 + 1), (N0 + 1)] 1)), (.int (own_p [(N3 + 1), (N2 + 1), (N1 + 1), (N0 + 1)] 2)), (.int (own_p [(N3 + 1), (N2 + 1), (N1 + 1), (N0 + 1)] 3)), (.int (own_p [(N3 + 1), (N2 + 1), (N1 + 1), (N0 + 1)] 4)), (.int (own_p [(N3 + 1), (N2 + 1), (N1 + 1), (N0 + 1)] 5))])]) := by
  refine Met.of (a0 := a0) (ls := #[.val (.ref (n0 + 0)), .val (.int (4 : Int32)), .val (.int (5 : Int32)), .unset, .unset]) (kok hw) (plainFor_of_name pn_4) (fun m => by first | (simp [entryFrame, mkF, argsToLocals, Value.category]; done) | rfl) (fun G H => ?_)
  refine H.iloadN s1_0 rfl ?_
  refine H.iconst s1_1 (v := (1 : Int32)) (by decide) ?_
  refine H.iadd s1_2 (w := (6 : Int32)) (by decide) ?_
  refine H.newarray s1_3 (ty := .int) rfl (k_3 hw) (N := 6) (cap := 6) (by decide) rfl (by decide) (by decide) (by first | rfl | simp) (by decide) (by decide) (i := 1) rfl (A' := [.inr (.int, [(.int e0), (.int e1), (.int e2), (.int e3)]), .inr (.int, [(.int (0 : Int32)), (.int (0 : Int32)), (.int (0 : Int32)), (.int (0 : Int32)), (.int (0 : Int32)), (.int (0 : Int32))])]) rfl (k' := 1) rfl (n' := 6) rfl ?_
  refine H.astoreN s1_5 rfl (ls' := #[.val (.ref (n0 + 0)), .val (.int (4 : Int32)), .val (.int (5 : Int32)), .val (.ref (n0 + 1)), .unset]) rfl ?_
  refine H.iconst s1_6 (v := (0 : Int32)) (by decide) ?_
  refine H.istore s1_7 (ls' := #[.val (.ref (n0 + 0)), .val (.int (4 : Int32)), .val (.int (5 : Int32)), .val (.ref (n0 + 1)), .val (.int (0 : Int32))]) rfl ?_
  refine H.iload s1_9 rfl ?_
  refine H.iloadN s1_11 rfl ?_
  refine H.icmpF s1_12 (show (0 : Int32) < (4 : Int32) by decide) ?_
  refine H.aloadN s1_15 rfl rfl ?_
  refine H.aloadN s1_16 rfl rfl ?_
  refine H.iload s1_17 rfl ?_
  refine H.iaload s1_19 (i := 0) (j := 0) rfl (by decide) (v := (.int e0)) rfl ?_
  refine H.iconst s1_20 (v := (1 : Int32)) (by decide) ?_
  refine H.iadd s1_21 rfl ?_
  refine H.dup2 s1_22 rfl rfl ?_
  refine H.iaload s1_23 (i := 1) (j := (N0 + 1)) rfl (own_e1 5 hN0 lN0 (by decide)) (v := (.int (own_c [] (N0 + 1)))) (own_get 6 [] (by omega)) ?_
  refine H.iconst s1_24 (v := (1 : Int32)) (by decide) ?_
  refine H.iadd s1_25 rfl ?_
  refine H.iastore s1_26 (i := 1) (j := (N0 + 1)) rfl (own_e1 5 hN0 lN0 (by decide)) (by show _ < 6; omega)  (A' := [.inr (.int, [(.int e0), (.int e1), (.int e2), (.int e3)]), .inr (.int, [(.int (own_c [(N0 + 1)] 0)), (.int (own_c [(N0 + 1)] 1)), (.int (own_c [(N0 + 1)] 2)), (.int (own_c [(N0 + 1)] 3)), (.int (own_c [(N0 + 1)] 4)), (.int (own_c [(N0 + 1)] 5))])]) (congrArg (fun z => ([.inr (.int, [(.int e0), (.int e1), (.int e2), (.int e3)]), .inr (.int, [(.int (0 : Int32)), (.int (0 : Int32)), (.int (0 : Int32)), (.int (0 : Int32)), (.int (0 : Int32)), (.int (0 : Int32))])] : List Ob).set 1 (.inr (.int, z))) (own_set 6 [] (by omega))) ?_
  refine H.iinc s1_27 rfl (w := (1 : Int32)) (by decide) (ls' := #[.val (.ref (n0 + 0)), .val (.int (4 : Int32)), .val (.int (5 : Int32)), .val (.ref (n0 + 1)), .val (.int (1 : Int32))]) rfl ?_
  refine H.goto s1_30 ?_
  refine H.iload s1_9 rfl ?_
  refine H.iloadN s1_11 rfl ?_
  refine H.icmpF s1_12 (show (1 : Int32) < (4 : Int32) by decide) ?_
  refine H.aloadN s1_15 rfl rfl ?_
  refine H.aloadN s1_16 rfl rfl ?_
  refine H.iload s1_17 rfl ?_
  refine H.iaload s1_19 (i := 0) (j := 1) rfl (by decide) (v := (.int e1)) rfl ?_
  refine H.iconst s1_20 (v := (1 : Int32)) (by decide) ?_
  refine H.iadd s1_21 rfl ?_
  refine H.dup2 s1_22 rfl rfl ?_
  refine H.iaload s1_23 (i := 1) (j := (N1 + 1)) rfl (own_e1 5 hN1 lN1 (by decide)) (v := (.int (own_c [(N0 + 1)] (N1 + 1)))) (own_get 6 [(N0 + 1)] (by omega)) ?_
  refine H.iconst s1_24 (v := (1 : Int32)) (by decide) ?_
  refine H.iadd s1_25 rfl ?_
  refine H.iastore s1_26 (i := 1) (j := (N1 + 1)) rfl (own_e1 5 hN1 lN1 (by decide)) (by show _ < 6; omega)  (A' := [.inr (.int, [(.int e0), (.int e1), (.int e2), (.int e3)]), .inr (.int, [(.int (own_c [(N1 + 1), (N0 + 1)] 0)), (.int (own_c [(N1 + 1), (N0 + 1)] 1)), (.int (own_c [(N1 + 1), (N0 + 1)] 2)), (.int (own_c [(N1 + 1), (N0 + 1)] 3)), (.int (own_c [(N1 + 1), (N0 + 1)] 4)), (.int (own_c [(N1 + 1), (N0 + 1)] 5))])]) (congrArg (fun z => ([.inr (.int, [(.int e0), (.int e1), (.int e2), (.int e3)]), .inr (.int, [(.int (own_c [(N0 + 1)] 0)), (.int (own_c [(N0 + 1)] 1)), (.int (own_c [(N0 + 1)] 2)), (.int (own_c [(N0 + 1)] 3)), (.int (own_c [(N0 + 1)] 4)), (.int (own_c [(N0 + 1)] 5))])] : List Ob).set 1 (.inr (.int, z))) (own_set 6 [(N0 + 1)] (by omega))) ?_
  refine H.iinc s1_27 rfl (w := (2 : Int32)) (by decide) (ls' := #[.val (.ref (n0 + 0)), .val (.int (4 : Int32)), .val (.int (5 : Int32)), .val (.ref (n0 + 1)), .val (.int (2 : Int32))]) rfl ?_
  refine H.goto s1_30 ?_
  refine H.iload s1_9 rfl ?_
  refine H.iloadN s1_11 rfl ?_
  refine H.icmpF s1_12 (show (2 : Int32) < (4 : Int32) by decide) ?_
  refine H.aloadN s1_15 rfl rfl ?_
  refine H.aloadN s1_16 rfl rfl ?_
  refine H.iload s1_17 rfl ?_
  refine H.iaload s1_19 (i := 0) (j := 2) rfl (by decide) (v := (.int e2)) rfl ?_
  refine H.iconst s1_20 (v := (1 : Int32)) (by decide) ?_
  refine H.iadd s1_21 rfl ?_
  refine H.dup2 s1_22 rfl rfl ?_
  refine H.iaload s1_23 (i := 1) (j := (N2 + 1)) rfl (own_e1 5 hN2 lN2 (by decide)) (v := (.int (own_c [(N1 + 1), (N0 + 1)] (N2 + 1)))) (own_get 6 [(N1 + 1), (N0 + 1)] (by omega)) ?_
  refine H.iconst s1_24 (v := (1 : Int32)) (by decide) ?_
  refine H.iadd s1_25 rfl ?_
  refine H.iastore s1_26 (i := 1) (j := (N2 + 1)) rfl (own_e1 5 hN2 lN2 (by decide)) (by show _ < 6; omega)  (A' := [.inr (.int, [(.int e0), (.int e1), (.int e2), (.int e3)]), .inr (.int, [(.int (own_c [(N2 + 1), (N1 + 1), (N0 + 1)] 0)), (.int (own_c [(N2 + 1), (N1 + 1), (N0 + 1)] 1)), (.int (own_c [(N2 + 1), (N1 + 1), (N0 + 1)] 2)), (.int (own_c [(N2 + 1), (N1 + 1), (N0 + 1)] 3)), (.int (own_c [(N2 + 1), (N1 + 1), (N0 + 1)] 4)), (.int (own_c [(N2 + 1), (N1 + 1), (N0 + 1)] 5))])]) (congrArg (fun z => ([.inr (.int, [(.int e0), (.int e1), (.int e2), (.int e3)]), .inr (.int, [(.int (own_c [(N1 + 1), (N0 + 1)] 0)), (.int (own_c [(N1 + 1), (N0 + 1)] 1)), (.int (own_c [(N1 + 1), (N0 + 1)] 2)), (.int (own_c [(N1 + 1), (N0 + 1)] 3)), (.int (own_c [(N1 + 1), (N0 + 1)] 4)), (.int (own_c [(N1 + 1), (N0 + 1)] 5))])] : List Ob).set 1 (.inr (.int, z))) (own_set 6 [(N1 + 1), (N0 + 1)] (by omega))) ?_
  refine H.iinc s1_27 rfl (w := (3 : Int32)) (by decide) (ls' := #[.val (.ref (n0 + 0)), .val (.int (4 : Int32)), .val (.int (5 : Int32)), .val (.ref (n0 + 1)), .val (.int (3 : Int32))]) rfl ?_
  refine H.goto s1_30 ?_
  refine H.iload s1_9 rfl ?_
  refine H.iloadN s1_11 rfl ?_
  refine H.icmpF s1_12 (show (3 : Int32) < (4 : Int32) by decide) ?_
  refine H.aloadN s1_15 rfl rfl ?_
  refine H.aloadN s1_16 rfl rfl ?_
  refine H.iload s1_17 rfl ?_
  refine H.iaload s1_19 (i := 0) (j := 3) rfl (by decide) (v := (.int e3)) rfl ?_
  refine H.iconst s1_20 (v := (1 : Int32)) (by decide) ?_
  refine H.iadd s1_21 rfl ?_
  refine H.dup2 s1_22 rfl rfl ?_
  refine H.iaload s1_23 (i := 1) (j := (N3 + 1)) rfl (own_e1 5 hN3 lN3 (by decide)) (v := (.int (own_c [(N2 + 1), (N1 + 1), (N0 + 1)] (N3 + 1)))) (own_get 6 [(N2 + 1), (N1 + 1), (N0 + 1)] (by omega)) ?_
  refine H.iconst s1_24 (v := (1 : Int32)) (by decide) ?_
  refine H.iadd s1_25 rfl ?_
  refine H.iastore s1_26 (i := 1) (j := (N3 + 1)) rfl (own_e1 5 hN3 lN3 (by decide)) (by show _ < 6; omega)  (A' := [.inr (.int, [(.int e0), (.int e1), (.int e2), (.int e3)]), .inr (.int, [(.int (own_c [(N3 + 1), (N2 + 1), (N1 + 1), (N0 + 1)] 0)), (.int (own_c [(N3 + 1), (N2 + 1), (N1 + 1), (N0 + 1)] 1)), (.int (own_c [(N3 + 1), (N2 + 1), (N1 + 1), (N0 + 1)] 2)), (.int (own_c [(N3 + 1), (N2 + 1), (N1 + 1), (N0 + 1)] 3)), (.int (own_c [(N3 + 1), (N2 + 1), (N1 + 1), (N0 + 1)] 4)), (.int (own_c [(N3 + 1), (N2 + 1), (N1 + 1), (N0 + 1)] 5))])]) (congrArg (fun z => ([.inr (.int, [(.int e0), (.int e1), (.int e2), (.int e3)]), .inr (.int, [(.int (own_c [(N2 + 1), (N1 + 1), (N0 + 1)] 0)), (.int (own_c [(N2 + 1), (N1 + 1), (N0 + 1)] 1)), (.int (own_c [(N2 + 1), (N1 + 1), (N0 + 1)] 2)), (.int (own_c [(N2 + 1), (N1 + 1), (N0 + 1)] 3)), (.int (own_c [(N2 + 1), (N1 + 1), (N0 + 1)] 4)), (.int (own_c [(N2 + 1), (N1 + 1), (N0 + 1)] 5))])] : List Ob).set 1 (.inr (.int, z))) (own_set 6 [(N2 + 1), (N1 + 1), (N0 + 1)] (by omega))) ?_
  refine H.iinc s1_27 rfl (w := (4 : Int32)) (by decide) (ls' := #[.val (.ref (n0 + 0)), .val (.int (4 : Int32)), .val (.int (5 : Int32)), .val (.ref (n0 + 1)), .val (.int (4 : Int32))]) rfl ?_
  refine H.goto s1_30 ?_
  refine H.iload s1_9 rfl ?_
  refine H.iloadN s1_11 rfl ?_
  refine H.icmpT s1_12 (show ¬ (4 : Int32) < (4 : Int32) by decide) ?_
  refine H.iconst s1_33 (v := (0 : Int32)) (by decide) ?_
  refine H.istore s1_34 (ls' := #[.val (.ref (n0 + 0)), .val (.int (4 : Int32)), .val (.int (5 : Int32)), .val (.ref (n0 + 1)), .val (.int (0 : Int32))]) rfl ?_
  refine H.iload s1_36 rfl ?_
  refine H.iloadN s1_38 rfl ?_
  refine H.icmpF s1_39 (show (0 : Int32) < (5 : Int32) by decide) ?_
  refine H.aloadN s1_42 rfl rfl ?_
  refine H.iload s1_43 rfl ?_
  refine H.iconst s1_45 (v := (1 : Int32)) (by decide) ?_
  refine H.iadd s1_46 (w := (1 : Int32)) (by decide) ?_
  refine H.dup2 s1_47 rfl rfl ?_
  refine H.iaload s1_48 (i := 1) (j := 1) rfl (by decide) (v := (.int (own_c [(N3 + 1), (N2 + 1), (N1 + 1), (N0 + 1)] 1))) rfl ?_
  refine H.aloadN s1_49 rfl rfl ?_
  refine H.iload s1_50 rfl ?_
  refine H.iaload s1_52 (i := 1) (j := 0) rfl (by decide) (v := (.int (own_c [(N3 + 1), (N2 + 1), (N1 + 1), (N0 + 1)] 0))) rfl ?_
  refine H.iadd s1_53 (w := (own_p [(N3 + 1), (N2 + 1), (N1 + 1), (N0 + 1)] 1)) rfl ?_
  refine H.iastore s1_54 (i := 1) (j := 1) rfl (by decide) (ltb rfl)  (A' := [.inr (.int, [(.int e0), (.int e1), (.int e2), (.int e3)]), .inr (.int, [(.int (own_c [(N3 + 1), (N2 + 1), (N1 + 1), (N0 + 1)] 0)), (.int (own_p [(N3 + 1), (N2 + 1), (N1 + 1), (N0 + 1)] 1)), (.int (own_c [(N3 + 1), (N2 + 1), (N1 + 1), (N0 + 1)] 2)), (.int (own_c [(N3 + 1), (N2 + 1), (N1 + 1), (N0 + 1)] 3)), (.int (own_c [(N3 + 1), (N2 + 1), (N1 + 1), (N0 + 1)] 4)), (.int (own_c [(N3 + 1), (N2 + 1), (N1 + 1), (N0 + 1)] 5))])]) rfl ?_
  refine H.iinc s1_55 rfl (w := (1 : Int32)) (by decide) (ls' := #[.val (.ref (n0 + 0)), .val (.int (4 : Int32)), .val (.int (5 : Int32)), .val (.ref (n0 + 1)), .val (.int (1 : Int32))]) rfl ?_
  refine H.goto s1_58 ?_
  refine H.iload s1_36 rfl ?_
  refine H.iloadN s1_38 rfl ?_
  refine H.icmpF s1_39 (show (1 : Int32) < (5 : Int32) by decide) ?_
  refine H.aloadN s1_42 rfl rfl ?_
  refine H.iload s1_43 rfl ?_
  refine H.iconst s1_45 (v := (1 : Int32)) (by decide) ?_
  refine H.iadd s1_46 (w := (2 : Int32)) (by decide) ?_
  refine H.dup2 s1_47 rfl rfl ?_
  refine H.iaload s1_48 (i := 1) (j := 2) rfl (by decide) (v := (.int (own_c [(N3 + 1), (N2 + 1), (N1 + 1), (N0 + 1)] 2))) rfl ?_
  refine H.aloadN s1_49 rfl rfl ?_
  refine H.iload s1_50 rfl ?_
  refine H.iaload s1_52 (i := 1) (j := 1) rfl (by decide) (v := (.int (own_p [(N3 + 1), (N2 + 1), (N1 + 1), (N0 + 1)] 1))) rfl ?_
  refine H.iadd s1_53 (w := (own_p [(N3 + 1), (N2 + 1), (N1 + 1), (N0 + 1)] 2)) rfl ?_
  refine H.iastore s1_54 (i := 1) (j := 2) rfl (by decide) (ltb rfl)  (A' := [.inr (.int, [(.int e0), (.int e1), (.int e2), (.int e3)]), .inr (.int, [(.int (own_c [(N3 + 1), (N2 + 1), (N1 + 1), (N0 + 1)] 0)), (.int (own_p [(N3 + 1), (N2 + 1), (N1 + 1), (N0 + 1)] 1)), (.int (own_p [(N3 + 1), (N2 + 1), (N1 + 1), (N0 + 1)] 2)), (.int (own_c [(N3 + 1), (N2 + 1), (N1 + 1), (N0 + 1)] 3)), (.int (own_c [(N3 + 1), (N2 + 1), (N1 + 1), (N0 + 1)] 4)), (.int (own_c [(N3 + 1), (N2 + 1), (N1 + 1), (N0 + 1)] 5))])]) rfl ?_
  refine H.iinc s1_55 rfl (w := (2 : Int32)) (by decide) (ls' := #[.val (.ref (n0 + 0)), .val (.int (4 : Int32)), .val (.int (5 : Int32)), .val (.ref (n0 + 1)), .val (.int (2 : Int32))]) rfl ?_
  refine H.goto s1_58 ?_
  refine H.iload s1_36 rfl ?_
  refine H.iloadN s1_38 rfl ?_
  refine H.icmpF s1_39 (show (2 : Int32) < (5 : Int32) by decide) ?_
  refine H.aloadN s1_42 rfl rfl ?_
  refine H.iload s1_43 rfl ?_
  refine H.iconst s1_45 (v := (1 : Int32)) (by decide) ?_
  refine H.iadd s1_46 (w := (3 : Int32)) (by decide) ?_
  refine H.dup2 s1_47 rfl rfl ?_
  refine H.iaload s1_48 (i := 1) (j := 3) rfl (by decide) (v := (.int (own_c [(N3 + 1), (N2 + 1), (N1 + 1), (N0 + 1)] 3))) rfl ?_
  refine H.aloadN s1_49 rfl rfl ?_
  refine H.iload s1_50 rfl ?_
  refine H.iaload s1_52 (i := 1) (j := 2) rfl (by decide) (v := (.int (own_p [(N3 + 1), (N2 + 1), (N1 + 1), (N0 + 1)] 2))) rfl ?_
  refine H.iadd s1_53 (w := (own_p [(N3 + 1), (N2 + 1), (N1 + 1), (N0 + 1)] 3)) rfl ?_
  refine H.iastore s1_54 (i := 1) (j := 3) rfl (by decide) (ltb rfl)  (A' := [.inr (.int, [(.int e0), (.int e1), (.int e2), (.int e3)]), .inr (.int, [(.int (own_c [(N3 + 1), (N2 + 1), (N1 + 1), (N0 + 1)] 0)), (.int (own_p [(N3 + 1), (N2 + 1), (N1 + 1), (N0 + 1)] 1)), (.int (own_p [(N3 + 1), (N2 + 1), (N1 + 1), (N0 + 1)] 2)), (.int (own_p [(N3 + 1), (N2 + 1), (N1 + 1), (N0 + 1)] 3)), (.int (own_c [(N3 + 1), (N2 + 1), (N1 + 1), (N0 + 1)] 4)), (.int (own_c [(N3 + 1), (N2 + 1), (N1 + 1), (N0 + 1)] 5))])]) rfl ?_
  refine H.iinc s1_55 rfl (w := (3 : Int32)) (by decide) (ls' := #[.val (.ref (n0 + 0)), .val (.int (4 : Int32)), .val (.int (5 : Int32)), .val (.ref (n0 + 1)), .val (.int (3 : Int32))]) rfl ?_
  refine H.goto s1_58 ?_
  refine H.iload s1_36 rfl ?_
  refine H.iloadN s1_38 rfl ?_
  refine H.icmpF s1_39 (show (3 : Int32) < (5 : Int32) by decide) ?_
  refine H.aloadN s1_42 rfl rfl ?_
  refine H.iload s1_43 rfl ?_
  refine H.iconst s1_45 (v := (1 : Int32)) (by decide) ?_
  refine H.iadd s1_46 (w := (4 : Int32)) (by decide) ?_
  refine H.dup2 s1_47 rfl rfl ?_
  refine H.iaload s1_48 (i := 1) (j := 4) rfl (by decide) (v := (.int (own_c [(N3 + 1), (N2 + 1), (N1 + 1), (N0 + 1)] 4))) rfl ?_
  refine H.aloadN s1_49 rfl rfl ?_
  refine H.iload s1_50 rfl ?_
  refine H.iaload s1_52 (i := 1) (j := 3) rfl (by decide) (v := (.int (own_p [(N3 + 1), (N2 + 1), (N1 + 1), (N0 + 1)] 3))) rfl ?_
  refine H.iadd s1_53 (w := (own_p [(N3 + 1), (N2 + 1), (N1 + 1), (N0 + 1)] 4)) rfl ?_
  refine H.iastore s1_54 (i := 1) (j := 4) rfl (by decide) (ltb rfl)  (A' := [.inr (.int, [(.int e0), (.int e1), (.int e2), (.int e3)]), .inr (.int, [(.int (own_c [(N3 + 1), (N2 + 1), (N1 + 1), (N0 + 1)] 0)), (.int (own_p [(N3 + 1), (N2 + 1), (N1 + 1), (N0 + 1)] 1)), (.int (own_p [(N3 + 1), (N2 + 1), (N1 + 1), (N0 + 1)] 2)), (.int (own_p [(N3 + 1), (N2 + 1), (N1 + 1), (N0 + 1)] 3)), (.int (own_p [(N3 + 1), (N2 + 1), (N1 + 1), (N0 + 1)] 4)), (.int (own_c [(N3 + 1), (N2 + 1), (N1 + 1), (N0 + 1)] 5))])]) rfl ?_
  refine H.iinc s1_55 rfl (w := (4 : Int32)) (by decide) (ls' := #[.val (.ref (n0 + 0)), .val (.int (4 : Int32)), .val (.int (5 : Int32)), .val (.ref (n0 + 1)), .val (.int (4 : Int32))]) rfl ?_
  refine H.goto s1_58 ?_
  refine H.iload s1_36 rfl ?_
  refine H.iloadN s1_38 rfl ?_
  refine H.icmpF s1_39 (show (4 : Int32) < (5 : Int32) by decide) ?_
  refine H.aloadN s1_42 rfl rfl ?_
  refine H.iload s1_43 rfl ?_
  refine H.iconst s1_45 (v := (1 : Int32)) (by decide) ?_
  refine H.iadd s1_46 (w := (5 : Int32)) (by decide) ?_
  refine H.dup2 s1_47 rfl rfl ?_
  refine H.iaload s1_48 (i := 1) (j := 5) rfl (by decide) (v := (.int (own_c [(N3 + 1), (N2 + 1), (N1 + 1), (N0 + 1)] 5))) rfl ?_
  refine H.aloadN s1_49 rfl rfl ?_
  refine H.iload s1_50 rfl ?_
  refine H.iaload s1_52 (i := 1) (j := 4) rfl (by decide) (v := (.int (own_p [(N3 + 1), (N2 + 1), (N1 + 1), (N0 + 1)] 4))) rfl ?_
  refine H.iadd s1_53 (w := (own_p [(N3 + 1), (N2 + 1), (N1 + 1), (N0 + 1)] 5)) rfl ?_
  refine H.iastore s1_54 (i := 1) (j := 5) rfl (by decide) (ltb rfl)  (A' := [.inr (.int, [(.int e0), (.int e1), (.int e2), (.int e3)]), .inr (.int, [(.int (own_c [(N3 + 1), (N2 + 1), (N1 + 1), (N0 + 1)] 0)), (.int (own_p [(N3 + 1), (N2 + 1), (N1 + 1), (N0 + 1)] 1)), (.int (own_p [(N3 + 1), (N2 + 1), (N1 + 1), (N0 + 1)] 2)), (.int (own_p [(N3 + 1), (N2 + 1), (N1 + 1), (N0 + 1)] 3)), (.int (own_p [(N3 + 1), (N2 + 1), (N1 + 1), (N0 + 1)] 4)), (.int (own_p [(N3 + 1), (N2 + 1), (N1 + 1), (N0 + 1)] 5))])]) rfl ?_
  refine H.iinc s1_55 rfl (w := (5 : Int32)) (by decide) (ls' := #[.val (.ref (n0 + 0)), .val (.int (4 : Int32)), .val (.int (5 : Int32)), .val (.ref (n0 + 1)), .val (.int (5 : Int32))]) rfl ?_
  refine H.goto s1_58 ?_
  refine H.iload s1_36 rfl ?_
  refine H.iloadN s1_38 rfl ?_
  refine H.icmpT s1_39 (show ¬ (5 : Int32) < (5 : Int32) by decide) ?_
  refine H.aloadN s1_61 rfl rfl ?_
  exact H.areturn s1_62 rfl rfl rfl rfl ⟨rfl, rfl⟩ (by decide) (by decide)


set_option maxRecDepth 65536 in
set_option maxHeartbeats 40000000 in
theorem law_met (l : Launch) {Z : State} {a0 : Array Value} (hw : HW1 Z a0) (n0 : Nat) (p0 : Int32) (p1 : Int32) (p2 : Int32) (p3 : Int32) (p4 : Int32) (p5 : Int32) : Met l Z KT n0 x code maxLocals ret room_1 #[(.int p0), (.int p1), (.int p2), (.int p3), (.int p4), (.int p5)] [] (fun v _ => v = some (.int 1)) := by
  refine Met.of (a0 := a0) (ls := #[.val (.int p0), .val (.int p1), .val (.int p2), .val (.int p3), .val (.int p4), .val (.int p5), .unset, .unset, .unset, .unset]) (kok hw) (plainFor_of_name pn_0) (fun m => by first | (simp [entryFrame, mkF, argsToLocals, Value.category, maxLocals]; done) | rfl) (fun G H => ?_)
  refine H.iload s0_0 rfl ?_
  refine H.ldc s0_2 (k_2 hw) ?_
  refine H.iand s0_4 rfl ?_
  refine H.bipush s0_5 (v := (6 : Int32)) (by decide) ?_
  rcases own_rem6 p4 with hz7 | hz7 | hz7 | hz7 | hz7 | hz7
  · refine H.irem s0_7 (by decide) (w := (0 : Int32)) hz7 ?_
    refine H.istore s0_8 (ls' := #[.val (.int p0), .val (.int p1), .val (.int p2), .val (.int p3), .val (.int p4), .val (.int p5), .val (.int (0 : Int32)), .unset, .unset, .unset]) rfl ?_
    refine H.iload s0_10 rfl ?_
    refine H.ifF s0_12 (show (0 : Int32) = (0 : Int32) by decide) ?_
    refine H.iconst s0_15 (v := (0 : Int32)) (by decide) ?_
    refine H.goto s0_16 ?_
    refine H.istore s0_26 (ls' := #[.val (.int p0), .val (.int p1), .val (.int p2), .val (.int p3), .val (.int p4), .val (.int p5), .val (.int (0 : Int32)), .val (.int (0 : Int32)), .unset, .unset]) rfl ?_
    refine H.iconst s0_28 (v := (4 : Int32)) (by decide) ?_
    refine H.newarray s0_29 (ty := .int) rfl (k_3 hw) (N := 4) (cap := 4) (by decide) rfl (by decide) (by decide) rfl (by decide) (by decide) (i := 0) rfl (A' := [.inr (.int, [(.int (0 : Int32)), (.int (0 : Int32)), (.int (0 : Int32)), (.int (0 : Int32))])]) rfl (k' := 1) rfl (n' := 4) rfl ?_
    refine H.astore s0_31 rfl (ls' := #[.val (.int p0), .val (.int p1), .val (.int p2), .val (.int p3), .val (.int p4), .val (.int p5), .val (.int (0 : Int32)), .val (.int (0 : Int32)), .val (.ref (n0 + 0)), .unset]) rfl ?_
    refine H.iload s0_33 rfl ?_
    refine H.ifT s0_35 (show ¬ (0 : Int32) < (0 : Int32) by decide) ?_
    refine H.aload s0_82 rfl rfl ?_
    refine H.iload s0_84 rfl ?_
    refine H.iload s0_86 rfl ?_
    refine H.callSD s0_88 (k_5 hw) (a_0 l hw n0) (argsL := [(.ref (n0 + 0)), (.int (0 : Int32)), (.int (0 : Int32))]) (rest := []) rfl rfl rfl rfl (leb rfl) (leb rfl) (leb rfl) (leb rfl) (st' := [(.ref (n0 + 1))]) rfl (k' := 2) rfl (n' := 5) rfl ?_
    refine H.astore s0_91 rfl (ls' := #[.val (.int p0), .val (.int p1), .val (.int p2), .val (.int p3), .val (.int p4), .val (.int p5), .val (.int (0 : Int32)), .val (.int (0 : Int32)), .val (.ref (n0 + 0)), .val (.ref (n0 + 1))]) rfl ?_
    refine H.aload s0_93 rfl rfl ?_
    refine H.ifnullF s0_95 ?_
    refine H.aload s0_98 rfl rfl ?_
    refine H.arraylength s0_100 (i := 1) rfl (z := (1 : Int32)) rfl ?_
    refine H.iload s0_101 rfl ?_
    refine H.iconst s0_103 (v := (1 : Int32)) (by decide) ?_
    refine H.iadd s0_104 (w := (1 : Int32)) (by decide) ?_
    refine H.icmpT s0_105 (show (1 : Int32) = (1 : Int32) by decide) ?_
    refine H.aload s0_110 rfl rfl ?_
    refine H.iload s0_112 rfl ?_
    refine H.aload s0_114 rfl rfl ?_
    refine H.iload s0_116 rfl ?_
    refine H.iconst s0_118 (v := (0 : Int32)) (by decide) ?_
    refine H.callSD s0_119 (k_6 hw) (m_at0 l hw n0 [.inr (.int, [(.int (0 : Int32)), (.int (0 : Int32)), (.int (0 : Int32)), (.int (0 : Int32))]), .inr (.int, [(.int (0 : Int32))])] 0 1 _ (0 : Int32) (0 : Int32) (0 : Int32) (0 : Int32) (0 : Int32) (0 : Int32) (0 : Int32) 0 rfl rfl (by decide) rfl (by decide) rfl) (argsL := [(.ref (n0 + 1)), (.int (0 : Int32)), (.ref (n0 + 0)), (.int (0 : Int32)), (.int (0 : Int32))]) (rest := []) rfl rfl rfl rfl (leb rfl) (leb rfl) (leb rfl) (leb rfl) (st' := [(.int (1 : Int32))]) rfl (k' := 2) rfl (n' := 5) rfl ?_
    refine H.ifF s0_122 (show ¬ (1 : Int32) = (0 : Int32) by decide) ?_
    refine H.aload s0_125 rfl rfl ?_
    refine H.iload s0_127 rfl ?_
    refine H.aload s0_129 rfl rfl ?_
    refine H.iload s0_131 rfl ?_
    refine H.iconst s0_133 (v := (1 : Int32)) (by decide) ?_
    refine H.callSD s0_134 (k_6 hw) (m_atT l hw n0 [.inr (.int, [(.int (0 : Int32)), (.int (0 : Int32)), (.int (0 : Int32)), (.int (0 : Int32))]), .inr (.int, [(.int (0 : Int32))])] 0 1 (0 : Int32) (0 : Int32) (1 : Int32) (by decide)) (argsL := [(.ref (n0 + 1)), (.int (0 : Int32)), (.ref (n0 + 0)), (.int (0 : Int32)), (.int (1 : Int32))]) (rest := []) rfl rfl rfl rfl (leb rfl) (leb rfl) (leb rfl) (leb rfl) (st' := [(.int (1 : Int32))]) rfl (k' := 2) rfl (n' := 5) rfl ?_
    refine H.ifF s0_137 (show ¬ (1 : Int32) = (0 : Int32) by decide) ?_
    refine H.aload s0_140 rfl rfl ?_
    refine H.iload s0_142 rfl ?_
    refine H.aload s0_144 rfl rfl ?_
    refine H.iload s0_146 rfl ?_
    refine H.iconst s0_148 (v := (2 : Int32)) (by decide) ?_
    refine H.callSD s0_149 (k_6 hw) (m_atT l hw n0 [.inr (.int, [(.int (0 : Int32)), (.int (0 : Int32)), (.int (0 : Int32)), (.int (0 : Int32))]), .inr (.int, [(.int (0 : Int32))])] 0 1 (0 : Int32) (0 : Int32) (2 : Int32) (by decide)) (argsL := [(.ref (n0 + 1)), (.int (0 : Int32)), (.ref (n0 + 0)), (.int (0 : Int32)), (.int (2 : Int32))]) (rest := []) rfl rfl rfl rfl (leb rfl) (leb rfl) (leb rfl) (leb rfl) (st' := [(.int (1 : Int32))]) rfl (k' := 2) rfl (n' := 5) rfl ?_
    refine H.ifF s0_152 (show ¬ (1 : Int32) = (0 : Int32) by decide) ?_
    refine H.aload s0_155 rfl rfl ?_
    refine H.iload s0_157 rfl ?_
    refine H.aload s0_159 rfl rfl ?_
    refine H.iload s0_161 rfl ?_
    refine H.iconst s0_163 (v := (3 : Int32)) (by decide) ?_
    refine H.callSD s0_164 (k_6 hw) (m_atT l hw n0 [.inr (.int, [(.int (0 : Int32)), (.int (0 : Int32)), (.int (0 : Int32)), (.int (0 : Int32))]), .inr (.int, [(.int (0 : Int32))])] 0 1 (0 : Int32) (0 : Int32) (3 : Int32) (by decide)) (argsL := [(.ref (n0 + 1)), (.int (0 : Int32)), (.ref (n0 + 0)), (.int (0 : Int32)), (.int (3 : Int32))]) (rest := []) rfl rfl rfl rfl (leb rfl) (leb rfl) (leb rfl) (leb rfl) (st' := [(.int (1 : Int32))]) rfl (k' := 2) rfl (n' := 5) rfl ?_
    refine H.ifF s0_167 (show ¬ (1 : Int32) = (0 : Int32) by decide) ?_
    refine H.aload s0_170 rfl rfl ?_
    refine H.iload s0_172 rfl ?_
    refine H.aload s0_174 rfl rfl ?_
    refine H.iload s0_176 rfl ?_
    refine H.iconst s0_178 (v := (4 : Int32)) (by decide) ?_
    refine H.callSD s0_179 (k_6 hw) (m_atT l hw n0 [.inr (.int, [(.int (0 : Int32)), (.int (0 : Int32)), (.int (0 : Int32)), (.int (0 : Int32))]), .inr (.int, [(.int (0 : Int32))])] 0 1 (0 : Int32) (0 : Int32) (4 : Int32) (by decide)) (argsL := [(.ref (n0 + 1)), (.int (0 : Int32)), (.ref (n0 + 0)), (.int (0 : Int32)), (.int (4 : Int32))]) (rest := []) rfl rfl rfl rfl (leb rfl) (leb rfl) (leb rfl) (leb rfl) (st' := [(.int (1 : Int32))]) rfl (k' := 2) rfl (n' := 5) rfl ?_
    refine H.ifF s0_182 (show ¬ (1 : Int32) = (0 : Int32) by decide) ?_
    refine H.aload s0_185 rfl rfl ?_
    refine H.iload s0_187 rfl ?_
    refine H.aload s0_189 rfl rfl ?_
    refine H.iload s0_191 rfl ?_
    refine H.iconst s0_193 (v := (5 : Int32)) (by decide) ?_
    refine H.callSD s0_194 (k_6 hw) (m_atT l hw n0 [.inr (.int, [(.int (0 : Int32)), (.int (0 : Int32)), (.int (0 : Int32)), (.int (0 : Int32))]), .inr (.int, [(.int (0 : Int32))])] 0 1 (0 : Int32) (0 : Int32) (5 : Int32) (by decide)) (argsL := [(.ref (n0 + 1)), (.int (0 : Int32)), (.ref (n0 + 0)), (.int (0 : Int32)), (.int (5 : Int32))]) (rest := []) rfl rfl rfl rfl (leb rfl) (leb rfl) (leb rfl) (leb rfl) (st' := [(.int (1 : Int32))]) rfl (k' := 2) rfl (n' := 5) rfl ?_
    refine H.ifF s0_197 (show ¬ (1 : Int32) = (0 : Int32) by decide) ?_
    refine H.iconst s0_200 (v := (1 : Int32)) (by decide) ?_
    refine H.goto s0_201 ?_
    exact H.ireturn s0_205 rfl (by simp) rfl rfl (by decide) (by decide)
  · refine H.irem s0_7 (by decide) (w := (1 : Int32)) hz7 ?_
    refine H.istore s0_8 (ls' := #[.val (.int p0), .val (.int p1), .val (.int p2), .val (.int p3), .val (.int p4), .val (.int p5), .val (.int (1 : Int32)), .unset, .unset, .unset]) rfl ?_
    refine H.iload s0_10 rfl ?_
    refine H.ifT s0_12 (show ¬ (1 : Int32) = (0 : Int32) by decide) ?_
    refine H.iload s0_19 rfl ?_
    refine H.ldc s0_21 (k_2 hw) ?_
    refine H.iand s0_23 rfl ?_
    refine H.iconst s0_24 (v := (5 : Int32)) (by decide) ?_
    rcases own_rem5 p5 with hz25 | hz25 | hz25 | hz25 | hz25
    · refine H.irem s0_25 (by decide) (w := (0 : Int32)) hz25 ?_
      refine H.istore s0_26 (ls' := #[.val (.int p0), .val (.int p1), .val (.int p2), .val (.int p3), .val (.int p4), .val (.int p5), .val (.int (1 : Int32)), .val (.int (0 : Int32)), .unset, .unset]) rfl ?_
      refine H.iconst s0_28 (v := (4 : Int32)) (by decide) ?_
      refine H.newarray s0_29 (ty := .int) rfl (k_3 hw) (N := 4) (cap := 4) (by decide) rfl (by decide) (by decide) rfl (by decide) (by decide) (i := 0) rfl (A' := [.inr (.int, [(.int (0 : Int32)), (.int (0 : Int32)), (.int (0 : Int32)), (.int (0 : Int32))])]) rfl (k' := 1) rfl (n' := 4) rfl ?_
      refine H.astore s0_31 rfl (ls' := #[.val (.int p0), .val (.int p1), .val (.int p2), .val (.int p3), .val (.int p4), .val (.int p5), .val (.int (1 : Int32)), .val (.int (0 : Int32)), .val (.ref (n0 + 0)), .unset]) rfl ?_
      refine H.iload s0_33 rfl ?_
      refine H.ifF s0_35 (show (0 : Int32) < (1 : Int32) by decide) ?_
      refine H.aload s0_38 rfl rfl ?_
      refine H.iconst s0_40 (v := (0 : Int32)) (by decide) ?_
      refine H.iloadN s0_41 rfl ?_
      refine H.ldc s0_42 (k_2 hw) ?_
      refine H.iand s0_44 rfl ?_
      refine H.iload s0_45 rfl ?_
      obtain ⟨e0, he0⟩ : ∃ z, z = ((p0 &&& (2147483647 : Int32)) % (1 : Int32)) := ⟨_, rfl⟩
      obtain ⟨N0, hN0, lN0⟩ := own_N p0 1 1 (by decide) (by decide)
      rw [← he0] at hN0
      refine H.irem s0_47 (by decide) he0.symm ?_
      refine H.iastore s0_48 (i := 0) (j := 0) rfl (by decide) (ltb rfl)  (A' := [.inr (.int, [(.int e0), (.int (0 : Int32)), (.int (0 : Int32)), (.int (0 : Int32))])]) rfl ?_
      refine H.aload s0_49 rfl rfl ?_
      refine H.iconst s0_51 (v := (1 : Int32)) (by decide) ?_
      refine H.iloadN s0_52 rfl ?_
      refine H.ldc s0_53 (k_2 hw) ?_
      refine H.iand s0_55 rfl ?_
      refine H.iload s0_56 rfl ?_
      obtain ⟨e1, he1⟩ : ∃ z, z = ((p1 &&& (2147483647 : Int32)) % (1 : Int32)) := ⟨_, rfl⟩
      obtain ⟨N1, hN1, lN1⟩ := own_N p1 1 1 (by decide) (by decide)
      rw [← he1] at hN1
      refine H.irem s0_58 (by decide) he1.symm ?_
      refine H.iastore s0_59 (i := 0) (j := 1) rfl (by decide) (ltb rfl)  (A' := [.inr (.int, [(.int e0), (.int e1), (.int (0 : Int32)), (.int (0 : Int32))])]) rfl ?_
      refine H.aload s0_60 rfl rfl ?_
      refine H.iconst s0_62 (v := (2 : Int32)) (by decide) ?_
      refine H.iloadN s0_63 rfl ?_
      refine H.ldc s0_64 (k_2 hw) ?_
      refine H.iand s0_66 rfl ?_
      refine H.iload s0_67 rfl ?_
      obtain ⟨e2, he2⟩ : ∃ z, z = ((p2 &&& (2147483647 : Int32)) % (1 : Int32)) := ⟨_, rfl⟩
      obtain ⟨N2, hN2, lN2⟩ := own_N p2 1 1 (by decide) (by decide)
      rw [← he2] at hN2
      refine H.irem s0_69 (by decide) he2.symm ?_
      refine H.iastore s0_70 (i := 0) (j := 2) rfl (by decide) (ltb rfl)  (A' := [.inr (.int, [(.int e0), (.int e1), (.int e2), (.int (0 : Int32))])]) rfl ?_
      refine H.aload s0_71 rfl rfl ?_
      refine H.iconst s0_73 (v := (3 : Int32)) (by decide) ?_
      refine H.iloadN s0_74 rfl ?_
      refine H.ldc s0_75 (k_2 hw) ?_
      refine H.iand s0_77 rfl ?_
      refine H.iload s0_78 rfl ?_
      obtain ⟨e3, he3⟩ : ∃ z, z = ((p3 &&& (2147483647 : Int32)) % (1 : Int32)) := ⟨_, rfl⟩
      obtain ⟨N3, hN3, lN3⟩ := own_N p3 1 1 (by decide) (by decide)
      rw [← he3] at hN3
      refine H.irem s0_80 (by decide) he3.symm ?_
      refine H.iastore s0_81 (i := 0) (j := 3) rfl (by decide) (ltb rfl)  (A' := [.inr (.int, [(.int e0), (.int e1), (.int e2), (.int e3)])]) rfl ?_
      refine H.aload s0_82 rfl rfl ?_
      refine H.iload s0_84 rfl ?_
      refine H.iload s0_86 rfl ?_
      refine H.callSD s0_88 (k_5 hw) (a_1 l hw n0 e0 e1 e2 e3 hN0 lN0 hN1 lN1 hN2 lN2 hN3 lN3) (argsL := [(.ref (n0 + 0)), (.int (0 : Int32)), (.int (1 : Int32))]) (rest := []) rfl rfl rfl rfl (leb rfl) (leb rfl) (leb rfl) (leb rfl) (st' := [(.ref (n0 + 1))]) rfl (k' := 2) rfl (n' := 6) rfl ?_
      refine H.astore s0_91 rfl (ls' := #[.val (.int p0), .val (.int p1), .val (.int p2), .val (.int p3), .val (.int p4), .val (.int p5), .val (.int (1 : Int32)), .val (.int (0 : Int32)), .val (.ref (n0 + 0)), .val (.ref (n0 + 1))]) rfl ?_
      refine H.aload s0_93 rfl rfl ?_
      refine H.ifnullF s0_95 ?_
      refine H.aload s0_98 rfl rfl ?_
      refine H.arraylength s0_100 (i := 1) rfl (z := (2 : Int32)) rfl ?_
      refine H.iload s0_101 rfl ?_
      refine H.iconst s0_103 (v := (1 : Int32)) (by decide) ?_
      refine H.iadd s0_104 (w := (2 : Int32)) (by decide) ?_
      refine H.icmpT s0_105 (show (2 : Int32) = (2 : Int32) by decide) ?_
      refine H.aload s0_110 rfl rfl ?_
      refine H.iload s0_112 rfl ?_
      refine H.aload s0_114 rfl rfl ?_
      refine H.iload s0_116 rfl ?_
      refine H.iconst s0_118 (v := (0 : Int32)) (by decide) ?_
      refine H.callSD s0_119 (k_6 hw) (m_at0 l hw n0 [.inr (.int, [(.int e0), (.int e1), (.int e2), (.int e3)]), .inr (.int, [(.int (0 : Int32)), (.int (0 : Int32))])] 0 1 _ e0 e1 e2 e3 (0 : Int32) (0 : Int32) (1 : Int32) 0 rfl rfl (by decide) rfl (by decide) rfl) (argsL := [(.ref (n0 + 1)), (.int (1 : Int32)), (.ref (n0 + 0)), (.int (0 : Int32)), (.int (0 : Int32))]) (rest := []) rfl rfl rfl rfl (leb rfl) (leb rfl) (leb rfl) (leb rfl) (st' := [(.int (1 : Int32))]) rfl (k' := 2) rfl (n' := 6) rfl ?_
      refine H.ifF s0_122 (show ¬ (1 : Int32) = (0 : Int32) by decide) ?_
      refine H.aload s0_125 rfl rfl ?_
      refine H.iload s0_127 rfl ?_
      refine H.aload s0_129 rfl rfl ?_
      refine H.iload s0_131 rfl ?_
      refine H.iconst s0_133 (v := (1 : Int32)) (by decide) ?_
      refine H.callSD s0_134 (k_6 hw) (m_at0 l hw n0 [.inr (.int, [(.int e0), (.int e1), (.int e2), (.int e3)]), .inr (.int, [(.int (0 : Int32)), (.int (0 : Int32))])] 0 1 _ e0 e1 e2 e3 (0 : Int32) (1 : Int32) (1 : Int32) 1 rfl rfl (by decide) rfl (by decide) rfl) (argsL := [(.ref (n0 + 1)), (.int (1 : Int32)), (.ref (n0 + 0)), (.int (0 : Int32)), (.int (1 : Int32))]) (rest := []) rfl rfl rfl rfl (leb rfl) (leb rfl) (leb rfl) (leb rfl) (st' := [(.int (1 : Int32))]) rfl (k' := 2) rfl (n' := 6) rfl ?_
      refine H.ifF s0_137 (show ¬ (1 : Int32) = (0 : Int32) by decide) ?_
      refine H.aload s0_140 rfl rfl ?_
      refine H.iload s0_142 rfl ?_
      refine H.aload s0_144 rfl rfl ?_
      refine H.iload s0_146 rfl ?_
      refine H.iconst s0_148 (v := (2 : Int32)) (by decide) ?_
      refine H.callSD s0_149 (k_6 hw) (m_atT l hw n0 [.inr (.int, [(.int e0), (.int e1), (.int e2), (.int e3)]), .inr (.int, [(.int (0 : Int32)), (.int (0 : Int32))])] 0 1 (1 : Int32) (0 : Int32) (2 : Int32) (by decide)) (argsL := [(.ref (n0 + 1)), (.int (1 : Int32)), (.ref (n0 + 0)), (.int (0 : Int32)), (.int (2 : Int32))]) (rest := []) rfl rfl rfl rfl (leb rfl) (leb rfl) (leb rfl) (leb rfl) (st' := [(.int (1 : Int32))]) rfl (k' := 2) rfl (n' := 6) rfl ?_
      refine H.ifF s0_152 (show ¬ (1 : Int32) = (0 : Int32) by decide) ?_
      refine H.aload s0_155 rfl rfl ?_
      refine H.iload s0_157 rfl ?_
      refine H.aload s0_159 rfl rfl ?_
      refine H.iload s0_161 rfl ?_
      refine H.iconst s0_163 (v := (3 : Int32)) (by decide) ?_
      refine H.callSD s0_164 (k_6 hw) (m_atT l hw n0 [.inr (.int, [(.int e0), (.int e1), (.int e2), (.int e3)]), .inr (.int, [(.int (0 : Int32)), (.int (0 : Int32))])] 0 1 (1 : Int32) (0 : Int32) (3 : Int32) (by decide)) (argsL := [(.ref (n0 + 1)), (.int (1 : Int32)), (.ref (n0 + 0)), (.int (0 : Int32)), (.int (3 : Int32))]) (rest := []) rfl rfl rfl rfl (leb rfl) (leb rfl) (leb rfl) (leb rfl) (st' := [(.int (1 : Int32))]) rfl (k' := 2) rfl (n' := 6) rfl ?_
      refine H.ifF s0_167 (show ¬ (1 : Int32) = (0 : Int32) by decide) ?_
      refine H.aload s0_170 rfl rfl ?_
      refine H.iload s0_172 rfl ?_
      refine H.aload s0_174 rfl rfl ?_
      refine H.iload s0_176 rfl ?_
      refine H.iconst s0_178 (v := (4 : Int32)) (by decide) ?_
      refine H.callSD s0_179 (k_6 hw) (m_atT l hw n0 [.inr (.int, [(.int e0), (.int e1), (.int e2), (.int e3)]), .inr (.int, [(.int (0 : Int32)), (.int (0 : Int32))])] 0 1 (1 : Int32) (0 : Int32) (4 : Int32) (by decide)) (argsL := [(.ref (n0 + 1)), (.int (1 : Int32)), (.ref (n0 + 0)), (.int (0 : Int32)), (.int (4 : Int32))]) (rest := []) rfl rfl rfl rfl (leb rfl) (leb rfl) (leb rfl) (leb rfl) (st' := [(.int (1 : Int32))]) rfl (k' := 2) rfl (n' := 6) rfl ?_
      refine H.ifF s0_182 (show ¬ (1 : Int32) = (0 : Int32) by decide) ?_
      refine H.aload s0_185 rfl rfl ?_
      refine H.iload s0_187 rfl ?_
      refine H.aload s0_189 rfl rfl ?_
      refine H.iload s0_191 rfl ?_
      refine H.iconst s0_193 (v := (5 : Int32)) (by decide) ?_
      refine H.callSD s0_194 (k_6 hw) (m_atT l hw n0 [.inr (.int, [(.int e0), (.int e1), (.int e2), (.int e3)]), .inr (.int, [(.int (0 : Int32)), (.int (0 : Int32))])] 0 1 (1 : Int32) (0 : Int32) (5 : Int32) (by decide)) (argsL := [(.ref (n0 + 1)), (.int (1 : Int32)), (.ref (n0 + 0)), (.int (0 : Int32)), (.int (5 : Int32))]) (rest := []) rfl rfl rfl rfl (leb rfl) (leb rfl) (leb rfl) (leb rfl) (st' := [(.int (1 : Int32))]) rfl (k' := 2) rfl (n' := 6) rfl ?_
      refine H.ifF s0_197 (show ¬ (1 : Int32) = (0 : Int32) by decide) ?_
      refine H.iconst s0_200 (v := (1 : Int32)) (by decide) ?_
      refine H.goto s0_201 ?_
      exact H.ireturn s0_205 rfl (by simp) rfl rfl (by decide) (by decide)
    · refine H.irem s0_25 (by decide) (w := (1 : Int32)) hz25 ?_
      refine H.istore s0_26 (ls' := #[.val (.int p0), .val (.int p1), .val (.int p2), .val (.int p3), .val (.int p4), .val (.int p5), .val (.int (1 : Int32)), .val (.int (1 : Int32)), .unset, .unset]) rfl ?_
      refine H.iconst s0_28 (v := (4 : Int32)) (by decide) ?_
      refine H.newarray s0_29 (ty := .int) rfl (k_3 hw) (N := 4) (cap := 4) (by decide) rfl (by decide) (by decide) rfl (by decide) (by decide) (i := 0) rfl (A' := [.inr (.int, [(.int (0 : Int32)), (.int (0 : Int32)), (.int (0 : Int32)), (.int (0 : Int32))])]) rfl (k' := 1) rfl (n' := 4) rfl ?_
      refine H.astore s0_31 rfl (ls' := #[.val (.int p0), .val (.int p1), .val (.int p2), .val (.int p3), .val (.int p4), .val (.int p5), .val (.int (1 : Int32)), .val (.int (1 : Int32)), .val (.ref (n0 + 0)), .unset]) rfl ?_
      refine H.iload s0_33 rfl ?_
      refine H.ifF s0_35 (show (0 : Int32) < (1 : Int32) by decide) ?_
      refine H.aload s0_38 rfl rfl ?_
      refine H.iconst s0_40 (v := (0 : Int32)) (by decide) ?_
      refine H.iloadN s0_41 rfl ?_
      refine H.ldc s0_42 (k_2 hw) ?_
      refine H.iand s0_44 rfl ?_
      refine H.iload s0_45 rfl ?_
      obtain ⟨e0, he0⟩ : ∃ z, z = ((p0 &&& (2147483647 : Int32)) % (1 : Int32)) := ⟨_, rfl⟩
      obtain ⟨N0, hN0, lN0⟩ := own_N p0 1 1 (by decide) (by decide)
      rw [← he0] at hN0
      refine H.irem s0_47 (by decide) he0.symm ?_
      refine H.iastore s0_48 (i := 0) (j := 0) rfl (by decide) (ltb rfl)  (A' := [.inr (.int, [(.int e0), (.int (0 : Int32)), (.int (0 : Int32)), (.int (0 : Int32))])]) rfl ?_
      refine H.aload s0_49 rfl rfl ?_
      refine H.iconst s0_51 (v := (1 : Int32)) (by decide) ?_
      refine H.iloadN s0_52 rfl ?_
      refine H.ldc s0_53 (k_2 hw) ?_
      refine H.iand s0_55 rfl ?_
      refine H.iload s0_56 rfl ?_
      obtain ⟨e1, he1⟩ : ∃ z, z = ((p1 &&& (2147483647 : Int32)) % (1 : Int32)) := ⟨_, rfl⟩
      obtain ⟨N1, hN1, lN1⟩ := own_N p1 1 1 (by decide) (by decide)
      rw [← he1] at hN1
      refine H.irem s0_58 (by decide) he1.symm ?_
      refine H.iastore s0_59 (i := 0) (j := 1) rfl (by decide) (ltb rfl)  (A' := [.inr (.int, [(.int e0), (.int e1), (.int (0 : Int32)), (.int (0 : Int32))])]) rfl ?_
      refine H.aload s0_60 rfl rfl ?_
      refine H.iconst s0_62 (v := (2 : Int32)) (by decide) ?_
      refine H.iloadN s0_63 rfl ?_
      refine H.ldc s0_64 (k_2 hw) ?_
      refine H.iand s0_66 rfl ?_
      refine H.iload s0_67 rfl ?_
      obtain ⟨e2, he2⟩ : ∃ z, z = ((p2 &&& (2147483647 : Int32)) % (1 : Int32)) := ⟨_, rfl⟩
      obtain ⟨N2, hN2, lN2⟩ := own_N p2 1 1 (by decide) (by decide)
      rw [← he2] at hN2
      refine H.irem s0_69 (by decide) he2.symm ?_
      refine H.iastore s0_70 (i := 0) (j := 2) rfl (by decide) (ltb rfl)  (A' := [.inr (.int, [(.int e0), (.int e1), (.int e2), (.int (0 : Int32))])]) rfl ?_
      refine H.aload s0_71 rfl rfl ?_
      refine H.iconst s0_73 (v := (3 : Int32)) (by decide) ?_
      refine H.iloadN s0_74 rfl ?_
      refine H.ldc s0_75 (k_2 hw) ?_
      refine H.iand s0_77 rfl ?_
      refine H.iload s0_78 rfl ?_
      obtain ⟨e3, he3⟩ : ∃ z, z = ((p3 &&& (2147483647 : Int32)) % (1 : Int32)) := ⟨_, rfl⟩
      obtain ⟨N3, hN3, lN3⟩ := own_N p3 1 1 (by decide) (by decide)
      rw [← he3] at hN3
      refine H.irem s0_80 (by decide) he3.symm ?_
      refine H.iastore s0_81 (i := 0) (j := 3) rfl (by decide) (ltb rfl)  (A' := [.inr (.int, [(.int e0), (.int e1), (.int e2), (.int e3)])]) rfl ?_
      refine H.aload s0_82 rfl rfl ?_
      refine H.iload s0_84 rfl ?_
      refine H.iload s0_86 rfl ?_
      refine H.callSD s0_88 (k_5 hw) (a_2 l hw n0 e0 e1 e2 e3 hN0 lN0 hN1 lN1 hN2 lN2 hN3 lN3) (argsL := [(.ref (n0 + 0)), (.int (1 : Int32)), (.int (1 : Int32))]) (rest := []) rfl rfl rfl rfl (leb rfl) (leb rfl) (leb rfl) (leb rfl) (st' := [(.ref (n0 + 1))]) rfl (k' := 2) rfl (n' := 6) rfl ?_
      refine H.astore s0_91 rfl (ls' := #[.val (.int p0), .val (.int p1), .val (.int p2), .val (.int p3), .val (.int p4), .val (.int p5), .val (.int (1 : Int32)), .val (.int (1 : Int32)), .val (.ref (n0 + 0)), .val (.ref (n0 + 1))]) rfl ?_
      refine H.aload s0_93 rfl rfl ?_
      refine H.ifnullF s0_95 ?_
      refine H.aload s0_98 rfl rfl ?_
      refine H.arraylength s0_100 (i := 1) rfl (z := (2 : Int32)) rfl ?_
      refine H.iload s0_101 rfl ?_
      refine H.iconst s0_103 (v := (1 : Int32)) (by decide) ?_
      refine H.iadd s0_104 (w := (2 : Int32)) (by decide) ?_
      refine H.icmpT s0_105 (show (2 : Int32) = (2 : Int32) by decide) ?_
      refine H.aload s0_110 rfl rfl ?_
      refine H.iload s0_112 rfl ?_
      refine H.aload s0_114 rfl rfl ?_
      refine H.iload s0_116 rfl ?_
      refine H.iconst s0_118 (v := (0 : Int32)) (by decide) ?_
      refine H.callSD s0_119 (k_6 hw) (m_at1 l hw n0 [.inr (.int, [(.int e0), (.int e1), (.int e2), (.int e3)]), .inr (.int, [(.int (own_c [(N0 + 1)] 0)), (.int (own_p [(N0 + 1)] 1))])] 0 1 _ e0 e1 e2 e3 (own_c [(N0 + 1)] 0) (0 : Int32) (1 : Int32) 0 rfl rfl (by decide) rfl (by decide) (own_main [(e0, N0)] (faS hN0 fa0) (k := 0) (by decide))) (argsL := [(.ref (n0 + 1)), (.int (1 : Int32)), (.ref (n0 + 0)), (.int (1 : Int32)), (.int (0 : Int32))]) (rest := []) rfl rfl rfl rfl (leb rfl) (leb rfl) (leb rfl) (leb rfl) (st' := [(.int (1 : Int32))]) rfl (k' := 2) rfl (n' := 6) rfl ?_
      refine H.ifF s0_122 (show ¬ (1 : Int32) = (0 : Int32) by decide) ?_
      refine H.aload s0_125 rfl rfl ?_
      refine H.iload s0_127 rfl ?_
      refine H.aload s0_129 rfl rfl ?_
      refine H.iload s0_131 rfl ?_
      refine H.iconst s0_133 (v := (1 : Int32)) (by decide) ?_
      refine H.callSD s0_134 (k_6 hw) (m_at1 l hw n0 [.inr (.int, [(.int e0), (.int e1), (.int e2), (.int e3)]), .inr (.int, [(.int (own_c [(N0 + 1)] 0)), (.int (own_p [(N0 + 1)] 1))])] 0 1 _ e0 e1 e2 e3 (own_p [(N0 + 1)] 1) (1 : Int32) (1 : Int32) 1 rfl rfl (by decide) rfl (by decide) (own_main [(e0, N0)] (faS hN0 fa0) (k := 1) (by decide))) (argsL := [(.ref (n0 + 1)), (.int (1 : Int32)), (.ref (n0 + 0)), (.int (1 : Int32)), (.int (1 : Int32))]) (rest := []) rfl rfl rfl rfl (leb rfl) (leb rfl) (leb rfl) (leb rfl) (st' := [(.int (1 : Int32))]) rfl (k' := 2) rfl (n' := 6) rfl ?_
      refine H.ifF s0_137 (show ¬ (1 : Int32) = (0 : Int32) by decide) ?_
      refine H.aload s0_140 rfl rfl ?_
      refine H.iload s0_142 rfl ?_
      refine H.aload s0_144 rfl rfl ?_
      refine H.iload s0_146 rfl ?_
      refine H.iconst s0_148 (v := (2 : Int32)) (by decide) ?_
      refine H.callSD s0_149 (k_6 hw) (m_atT l hw n0 [.inr (.int, [(.int e0), (.int e1), (.int e2), (.int e3)]), .inr (.int, [(.int (own_c [(N0 + 1)] 0)), (.int (own_p [(N0 + 1)] 1))])] 0 1 (1 : Int32) (1 : Int32) (2 : Int32) (by decide)) (argsL := [(.ref (n0 + 1)), (.int (1 : Int32)), (.ref (n0 + 0)), (.int (1 : Int32)), (.int (2 : Int32))]) (rest := []) rfl rfl rfl rfl (leb rfl) (leb rfl) (leb rfl) (leb rfl) (st' := [(.int (1 : Int32))]) rfl (k' := 2) rfl (n' := 6) rfl ?_
      refine H.ifF s0_152 (show ¬ (1 : Int32) = (0 : Int32) by decide) ?_
      refine H.aload s0_155 rfl rfl ?_
      refine H.iload s0_157 rfl ?_
      refine H.aload s0_159 rfl rfl ?_
      refine H.iload s0_161 rfl ?_
      refine H.iconst s0_163 (v := (3 : Int32)) (by decide) ?_
      refine H.callSD s0_164 (k_6 hw) (m_atT l hw n0 [.inr (.int, [(.int e0), (.int e1), (.int e2), (.int e3)]), .inr (.int, [(.int (own_c [(N0 + 1)] 0)), (.int (own_p [(N0 + 1)] 1))])] 0 1 (1 : Int32) (1 : Int32) (3 : Int32) (by decide)) (argsL := [(.ref (n0 + 1)), (.int (1 : Int32)), (.ref (n0 + 0)), (.int (1 : Int32)), (.int (3 : Int32))]) (rest := []) rfl rfl rfl rfl (leb rfl) (leb rfl) (leb rfl) (leb rfl) (st' := [(.int (1 : Int32))]) rfl (k' := 2) rfl (n' := 6) rfl ?_
      refine H.ifF s0_167 (show ¬ (1 : Int32) = (0 : Int32) by decide) ?_
      refine H.aload s0_170 rfl rfl ?_
      refine H.iload s0_172 rfl ?_
      refine H.aload s0_174 rfl rfl ?_
      refine H.iload s0_176 rfl ?_
      refine H.iconst s0_178 (v := (4 : Int32)) (by decide) ?_
      refine H.callSD s0_179 (k_6 hw) (m_atT l hw n0 [.inr (.int, [(.int e0), (.int e1), (.int e2), (.int e3)]), .inr (.int, [(.int (own_c [(N0 + 1)] 0)), (.int (own_p [(N0 + 1)] 1))])] 0 1 (1 : Int32) (1 : Int32) (4 : Int32) (by decide)) (argsL := [(.ref (n0 + 1)), (.int (1 : Int32)), (.ref (n0 + 0)), (.int (1 : Int32)), (.int (4 : Int32))]) (rest := []) rfl rfl rfl rfl (leb rfl) (leb rfl) (leb rfl) (leb rfl) (st' := [(.int (1 : Int32))]) rfl (k' := 2) rfl (n' := 6) rfl ?_
      refine H.ifF s0_182 (show ¬ (1 : Int32) = (0 : Int32) by decide) ?_
      refine H.aload s0_185 rfl rfl ?_
      refine H.iload s0_187 rfl ?_
      refine H.aload s0_189 rfl rfl ?_
      refine H.iload s0_191 rfl ?_
      refine H.iconst s0_193 (v := (5 : Int32)) (by decide) ?_
      refine H.callSD s0_194 (k_6 hw) (m_atT l hw n0 [.inr (.int, [(.int e0), (.int e1), (.int e2), (.int e3)]), .inr (.int, [(.int (own_c [(N0 + 1)] 0)), (.int (own_p [(N0 + 1)] 1))])] 0 1 (1 : Int32) (1 : Int32) (5 : Int32) (by decide)) (argsL := [(.ref (n0 + 1)), (.int (1 : Int32)), (.ref (n0 + 0)), (.int (1 : Int32)), (.int (5 : Int32))]) (rest := []) rfl rfl rfl rfl (leb rfl) (leb rfl) (leb rfl) (leb rfl) (st' := [(.int (1 : Int32))]) rfl (k' := 2) rfl (n' := 6) rfl ?_
      refine H.ifF s0_197 (show ¬ (1 : Int32) = (0 : Int32) by decide) ?_
      refine H.iconst s0_200 (v := (1 : Int32)) (by decide) ?_
      refine H.goto s0_201 ?_
      exact H.ireturn s0_205 rfl (by simp) rfl rfl (by decide) (by decide)
    · refine H.irem s0_25 (by decide) (w := (2 : Int32)) hz25 ?_
      refine H.istore s0_26 (ls' := #[.val (.int p0), .val (.int p1), .val (.int p2), .val (.int p3), .val (.int p4), .val (.int p5), .val (.int (1 : Int32)), .val (.int (2 : Int32)), .unset, .unset]) rfl ?_
      refine H.iconst s0_28 (v := (4 : Int32)) (by decide) ?_
      refine H.newarray s0_29 (ty := .int) rfl (k_3 hw) (N := 4) (cap := 4) (by decide) rfl (by decide) (by decide) rfl (by decide) (by decide) (i := 0) rfl (A' := [.inr (.int, [(.int (0 : Int32)), (.int (0 : Int32)), (.int (0 : Int32)), (.int (0 : Int32))])]) rfl (k' := 1) rfl (n' := 4) rfl ?_
      refine H.astore s0_31 rfl (ls' := #[.val (.int p0), .val (.int p1), .val (.int p2), .val (.int p3), .val (.int p4), .val (.int p5), .val (.int (1 : Int32)), .val (.int (2 : Int32)), .val (.ref (n0 + 0)), .unset]) rfl ?_
      refine H.iload s0_33 rfl ?_
      refine H.ifF s0_35 (show (0 : Int32) < (1 : Int32) by decide) ?_
      refine H.aload s0_38 rfl rfl ?_
      refine H.iconst s0_40 (v := (0 : Int32)) (by decide) ?_
      refine H.iloadN s0_41 rfl ?_
      refine H.ldc s0_42 (k_2 hw) ?_
      refine H.iand s0_44 rfl ?_
      refine H.iload s0_45 rfl ?_
      obtain ⟨e0, he0⟩ : ∃ z, z = ((p0 &&& (2147483647 : Int32)) % (1 : Int32)) := ⟨_, rfl⟩
      obtain ⟨N0, hN0, lN0⟩ := own_N p0 1 1 (by decide) (by decide)
      rw [← he0] at hN0
      refine H.irem s0_47 (by decide) he0.symm ?_
      refine H.iastore s0_48 (i := 0) (j := 0) rfl (by decide) (ltb rfl)  (A' := [.inr (.int, [(.int e0), (.int (0 : Int32)), (.int (0 : Int32)), (.int (0 : Int32))])]) rfl ?_
      refine H.aload s0_49 rfl rfl ?_
      refine H.iconst s0_51 (v := (1 : Int32)) (by decide) ?_
      refine H.iloadN s0_52 rfl ?_
      refine H.ldc s0_53 (k_2 hw) ?_
      refine H.iand s0_55 rfl ?_
      refine H.iload s0_56 rfl ?_
      obtain ⟨e1, he1⟩ : ∃ z, z = ((p1 &&& (2147483647 : Int32)) % (1 : Int32)) := ⟨_, rfl⟩
      obtain ⟨N1, hN1, lN1⟩ := own_N p1 1 1 (by decide) (by decide)
      rw [← he1] at hN1
      refine H.irem s0_58 (by decide) he1.symm ?_
      refine H.iastore s0_59 (i := 0) (j := 1) rfl (by decide) (ltb rfl)  (A' := [.inr (.int, [(.int e0), (.int e1), (.int (0 : Int32)), (.int (0 : Int32))])]) rfl ?_
      refine H.aload s0_60 rfl rfl ?_
      refine H.iconst s0_62 (v := (2 : Int32)) (by decide) ?_
      refine H.iloadN s0_63 rfl ?_
      refine H.ldc s0_64 (k_2 hw) ?_
      refine H.iand s0_66 rfl ?_
      refine H.iload s0_67 rfl ?_
      obtain ⟨e2, he2⟩ : ∃ z, z = ((p2 &&& (2147483647 : Int32)) % (1 : Int32)) := ⟨_, rfl⟩
      obtain ⟨N2, hN2, lN2⟩ := own_N p2 1 1 (by decide) (by decide)
      rw [← he2] at hN2
      refine H.irem s0_69 (by decide) he2.symm ?_
      refine H.iastore s0_70 (i := 0) (j := 2) rfl (by decide) (ltb rfl)  (A' := [.inr (.int, [(.int e0), (.int e1), (.int e2), (.int (0 : Int32))])]) rfl ?_
      refine H.aload s0_71 rfl rfl ?_
      refine H.iconst s0_73 (v := (3 : Int32)) (by decide) ?_
      refine H.iloadN s0_74 rfl ?_
      refine H.ldc s0_75 (k_2 hw) ?_
      refine H.iand s0_77 rfl ?_
      refine H.iload s0_78 rfl ?_
      obtain ⟨e3, he3⟩ : ∃ z, z = ((p3 &&& (2147483647 : Int32)) % (1 : Int32)) := ⟨_, rfl⟩
      obtain ⟨N3, hN3, lN3⟩ := own_N p3 1 1 (by decide) (by decide)
      rw [← he3] at hN3
      refine H.irem s0_80 (by decide) he3.symm ?_
      refine H.iastore s0_81 (i := 0) (j := 3) rfl (by decide) (ltb rfl)  (A' := [.inr (.int, [(.int e0), (.int e1), (.int e2), (.int e3)])]) rfl ?_
      refine H.aload s0_82 rfl rfl ?_
      refine H.iload s0_84 rfl ?_
      refine H.iload s0_86 rfl ?_
      refine H.callSD s0_88 (k_5 hw) (a_3 l hw n0 e0 e1 e2 e3 hN0 lN0 hN1 lN1 hN2 lN2 hN3 lN3) (argsL := [(.ref (n0 + 0)), (.int (2 : Int32)), (.int (1 : Int32))]) (rest := []) rfl rfl rfl rfl (leb rfl) (leb rfl) (leb rfl) (leb rfl) (st' := [(.ref (n0 + 1))]) rfl (k' := 2) rfl (n' := 6) rfl ?_
      refine H.astore s0_91 rfl (ls' := #[.val (.int p0), .val (.int p1), .val (.int p2), .val (.int p3), .val (.int p4), .val (.int p5), .val (.int (1 : Int32)), .val (.int (2 : Int32)), .val (.ref (n0 + 0)), .val (.ref (n0 + 1))]) rfl ?_
      refine H.aload s0_93 rfl rfl ?_
      refine H.ifnullF s0_95 ?_
      refine H.aload s0_98 rfl rfl ?_
      refine H.arraylength s0_100 (i := 1) rfl (z := (2 : Int32)) rfl ?_
      refine H.iload s0_101 rfl ?_
      refine H.iconst s0_103 (v := (1 : Int32)) (by decide) ?_
      refine H.iadd s0_104 (w := (2 : Int32)) (by decide) ?_
      refine H.icmpT s0_105 (show (2 : Int32) = (2 : Int32) by decide) ?_
      refine H.aload s0_110 rfl rfl ?_
      refine H.iload s0_112 rfl ?_
      refine H.aload s0_114 rfl rfl ?_
      refine H.iload s0_116 rfl ?_
      refine H.iconst s0_118 (v := (0 : Int32)) (by decide) ?_
      refine H.callSD s0_119 (k_6 hw) (m_at2 l hw n0 [.inr (.int, [(.int e0), (.int e1), (.int e2), (.int e3)]), .inr (.int, [(.int (own_c [(N1 + 1), (N0 + 1)] 0)), (.int (own_p [(N1 + 1), (N0 + 1)] 1))])] 0 1 _ e0 e1 e2 e3 (own_c [(N1 + 1), (N0 + 1)] 0) (0 : Int32) (1 : Int32) 0 rfl rfl (by decide) rfl (by decide) (own_main [(e1, N1), (e0, N0)] (faS hN1 (faS hN0 fa0)) (k := 0) (by decide))) (argsL := [(.ref (n0 + 1)), (.int (1 : Int32)), (.ref (n0 + 0)), (.int (2 : Int32)), (.int (0 : Int32))]) (rest := []) rfl rfl rfl rfl (leb rfl) (leb rfl) (leb rfl) (leb rfl) (st' := [(.int (1 : Int32))]) rfl (k' := 2) rfl (n' := 6) rfl ?_
      refine H.ifF s0_122 (show ¬ (1 : Int32) = (0 : Int32) by decide) ?_
      refine H.aload s0_125 rfl rfl ?_
      refine H.iload s0_127 rfl ?_
      refine H.aload s0_129 rfl rfl ?_
      refine H.iload s0_131 rfl ?_
      refine H.iconst s0_133 (v := (1 : Int32)) (by decide) ?_
      refine H.callSD s0_134 (k_6 hw) (m_at2 l hw n0 [.inr (.int, [(.int e0), (.int e1), (.int e2), (.int e3)]), .inr (.int, [(.int (own_c [(N1 + 1), (N0 + 1)] 0)), (.int (own_p [(N1 + 1), (N0 + 1)] 1))])] 0 1 _ e0 e1 e2 e3 (own_p [(N1 + 1), (N0 + 1)] 1) (1 : Int32) (1 : Int32) 1 rfl rfl (by decide) rfl (by decide) (own_main [(e1, N1), (e0, N0)] (faS hN1 (faS hN0 fa0)) (k := 1) (by decide))) (argsL := [(.ref (n0 + 1)), (.int (1 : Int32)), (.ref (n0 + 0)), (.int (2 : Int32)), (.int (1 : Int32))]) (rest := []) rfl rfl rfl rfl (leb rfl) (leb rfl) (leb rfl) (leb rfl) (st' := [(.int (1 : Int32))]) rfl (k' := 2) rfl (n' := 6) rfl ?_
      refine H.ifF s0_137 (show ¬ (1 : Int32) = (0 : Int32) by decide) ?_
      refine H.aload s0_140 rfl rfl ?_
      refine H.iload s0_142 rfl ?_
      refine H.aload s0_144 rfl rfl ?_
      refine H.iload s0_146 rfl ?_
      refine H.iconst s0_148 (v := (2 : Int32)) (by decide) ?_
      refine H.callSD s0_149 (k_6 hw) (m_atT l hw n0 [.inr (.int, [(.int e0), (.int e1), (.int e2), (.int e3)]), .inr (.int, [(.int (own_c [(N1 + 1), (N0 + 1)] 0)), (.int (own_p [(N1 + 1), (N0 + 1)] 1))])] 0 1 (1 : Int32) (2 : Int32) (2 : Int32) (by decide)) (argsL := [(.ref (n0 + 1)), (.int (1 : Int32)), (.ref (n0 + 0)), (.int (2 : Int32)), (.int (2 : Int32))]) (rest := []) rfl rfl rfl rfl (leb rfl) (leb rfl) (leb rfl) (leb rfl) (st' := [(.int (1 : Int32))]) rfl (k' := 2) rfl (n' := 6) rfl ?_
      refine H.ifF s0_152 (show ¬ (1 : Int32) = (0 : Int32) by decide) ?_
      refine H.aload s0_155 rfl rfl ?_
      refine H.iload s0_157 rfl ?_
      refine H.aload s0_159 rfl rfl ?_
      refine H.iload s0_161 rfl ?_
      refine H.iconst s0_163 (v := (3 : Int32)) (by decide) ?_
      refine H.callSD s0_164 (k_6 hw) (m_atT l hw n0 [.inr (.int, [(.int e0), (.int e1), (.int e2), (.int e3)]), .inr (.int, [(.int (own_c [(N1 + 1), (N0 + 1)] 0)), (.int (own_p [(N1 + 1), (N0 + 1)] 1))])] 0 1 (1 : Int32) (2 : Int32) (3 : Int32) (by decide)) (argsL := [(.ref (n0 + 1)), (.int (1 : Int32)), (.ref (n0 + 0)), (.int (2 : Int32)), (.int (3 : Int32))]) (rest := []) rfl rfl rfl rfl (leb rfl) (leb rfl) (leb rfl) (leb rfl) (st' := [(.int (1 : Int32))]) rfl (k' := 2) rfl (n' := 6) rfl ?_
      refine H.ifF s0_167 (show ¬ (1 : Int32) = (0 : Int32) by decide) ?_
      refine H.aload s0_170 rfl rfl ?_
      refine H.iload s0_172 rfl ?_
      refine H.aload s0_174 rfl rfl ?_
      refine H.iload s0_176 rfl ?_
      refine H.iconst s0_178 (v := (4 : Int32)) (by decide) ?_
      refine H.callSD s0_179 (k_6 hw) (m_atT l hw n0 [.inr (.int, [(.int e0), (.int e1), (.int e2), (.int e3)]), .inr (.int, [(.int (own_c [(N1 + 1), (N0 + 1)] 0)), (.int (own_p [(N1 + 1), (N0 + 1)] 1))])] 0 1 (1 : Int32) (2 : Int32) (4 : Int32) (by decide)) (argsL := [(.ref (n0 + 1)), (.int (1 : Int32)), (.ref (n0 + 0)), (.int (2 : Int32)), (.int (4 : Int32))]) (rest := []) rfl rfl rfl rfl (leb rfl) (leb rfl) (leb rfl) (leb rfl) (st' := [(.int (1 : Int32))]) rfl (k' := 2) rfl (n' := 6) rfl ?_
      refine H.ifF s0_182 (show ¬ (1 : Int32) = (0 : Int32) by decide) ?_
      refine H.aload s0_185 rfl rfl ?_
      refine H.iload s0_187 rfl ?_
      refine H.aload s0_189 rfl rfl ?_
      refine H.iload s0_191 rfl ?_
      refine H.iconst s0_193 (v := (5 : Int32)) (by decide) ?_
      refine H.callSD s0_194 (k_6 hw) (m_atT l hw n0 [.inr (.int, [(.int e0), (.int e1), (.int e2), (.int e3)]), .inr (.int, [(.int (own_c [(N1 + 1), (N0 + 1)] 0)), (.int (own_p [(N1 + 1), (N0 + 1)] 1))])] 0 1 (1 : Int32) (2 : Int32) (5 : Int32) (by decide)) (argsL := [(.ref (n0 + 1)), (.int (1 : Int32)), (.ref (n0 + 0)), (.int (2 : Int32)), (.int (5 : Int32))]) (rest := []) rfl rfl rfl rfl (leb rfl) (leb rfl) (leb rfl) (leb rfl) (st' := [(.int (1 : Int32))]) rfl (k' := 2) rfl (n' := 6) rfl ?_
      refine H.ifF s0_197 (show ¬ (1 : Int32) = (0 : Int32) by decide) ?_
      refine H.iconst s0_200 (v := (1 : Int32)) (by decide) ?_
      refine H.goto s0_201 ?_
      exact H.ireturn s0_205 rfl (by simp) rfl rfl (by decide) (by decide)
    · refine H.irem s0_25 (by decide) (w := (3 : Int32)) hz25 ?_
      refine H.istore s0_26 (ls' := #[.val (.int p0), .val (.int p1), .val (.int p2), .val (.int p3), .val (.int p4), .val (.int p5), .val (.int (1 : Int32)), .val (.int (3 : Int32)), .unset, .unset]) rfl ?_
      refine H.iconst s0_28 (v := (4 : Int32)) (by decide) ?_
      refine H.newarray s0_29 (ty := .int) rfl (k_3 hw) (N := 4) (cap := 4) (by decide) rfl (by decide) (by decide) rfl (by decide) (by decide) (i := 0) rfl (A' := [.inr (.int, [(.int (0 : Int32)), (.int (0 : Int32)), (.int (0 : Int32)), (.int (0 : Int32))])]) rfl (k' := 1) rfl (n' := 4) rfl ?_
      refine H.astore s0_31 rfl (ls' := #[.val (.int p0), .val (.int p1), .val (.int p2), .val (.int p3), .val (.int p4), .val (.int p5), .val (.int (1 : Int32)), .val (.int (3 : Int32)), .val (.ref (n0 + 0)), .unset]) rfl ?_
      refine H.iload s0_33 rfl ?_
      refine H.ifF s0_35 (show (0 : Int32) < (1 : Int32) by decide) ?_
      refine H.aload s0_38 rfl rfl ?_
      refine H.iconst s0_40 (v := (0 : Int32)) (by decide) ?_
      refine H.iloadN s0_41 rfl ?_
      refine H.ldc s0_42 (k_2 hw) ?_
      refine H.iand s0_44 rfl ?_
      refine H.iload s0_45 rfl ?_
      obtain ⟨e0, he0⟩ : ∃ z, z = ((p0 &&& (2147483647 : Int32)) % (1 : Int32)) := ⟨_, rfl⟩
      obtain ⟨N0, hN0, lN0⟩ := own_N p0 1 1 (by decide) (by decide)
      rw [← he0] at hN0
      refine H.irem s0_47 (by decide) he0.symm ?_
      refine H.iastore s0_48 (i := 0) (j := 0) rfl (by decide) (ltb rfl)  (A' := [.inr (.int, [(.int e0), (.int (0 : Int32)), (.int (0 : Int32)), (.int (0 : Int32))])]) rfl ?_
      refine H.aload s0_49 rfl rfl ?_
      refine H.iconst s0_51 (v := (1 : Int32)) (by decide) ?_
      refine H.iloadN s0_52 rfl ?_
      refine H.ldc s0_53 (k_2 hw) ?_
      refine H.iand s0_55 rfl ?_
      refine H.iload s0_56 rfl ?_
      obtain ⟨e1, he1⟩ : ∃ z, z = ((p1 &&& (2147483647 : Int32)) % (1 : Int32)) := ⟨_, rfl⟩
      obtain ⟨N1, hN1, lN1⟩ := own_N p1 1 1 (by decide) (by decide)
      rw [← he1] at hN1
      refine H.irem s0_58 (by decide) he1.symm ?_
      refine H.iastore s0_59 (i := 0) (j := 1) rfl (by decide) (ltb rfl)  (A' := [.inr (.int, [(.int e0), (.int e1), (.int (0 : Int32)), (.int (0 : Int32))])]) rfl ?_
      refine H.aload s0_60 rfl rfl ?_
      refine H.iconst s0_62 (v := (2 : Int32)) (by decide) ?_
      refine H.iloadN s0_63 rfl ?_
      refine H.ldc s0_64 (k_2 hw) ?_
      refine H.iand s0_66 rfl ?_
      refine H.iload s0_67 rfl ?_
      obtain ⟨e2, he2⟩ : ∃ z, z = ((p2 &&& (2147483647 : Int32)) % (1 : Int32)) := ⟨_, rfl⟩
      obtain ⟨N2, hN2, lN2⟩ := own_N p2 1 1 (by decide) (by decide)
      rw [← he2] at hN2
      refine H.irem s0_69 (by decide) he2.symm ?_
      refine H.iastore s0_70 (i := 0) (j := 2) rfl (by decide) (ltb rfl)  (A' := [.inr (.int, [(.int e0), (.int e1), (.int e2), (.int (0 : Int32))])]) rfl ?_
      refine H.aload s0_71 rfl rfl ?_
      refine H.iconst s0_73 (v := (3 : Int32)) (by decide) ?_
      refine H.iloadN s0_74 rfl ?_
      refine H.ldc s0_75 (k_2 hw) ?_
      refine H.iand s0_77 rfl ?_
      refine H.iload s0_78 rfl ?_
      obtain ⟨e3, he3⟩ : ∃ z, z = ((p3 &&& (2147483647 : Int32)) % (1 : Int32)) := ⟨_, rfl⟩
      obtain ⟨N3, hN3, lN3⟩ := own_N p3 1 1 (by decide) (by decide)
      rw [← he3] at hN3
      refine H.irem s0_80 (by decide) he3.symm ?_
      refine H.iastore s0_81 (i := 0) (j := 3) rfl (by decide) (ltb rfl)  (A' := [.inr (.int, [(.int e0), (.int e1), (.int e2), (.int e3)])]) rfl ?_
      refine H.aload s0_82 rfl rfl ?_
      refine H.iload s0_84 rfl ?_
      refine H.iload s0_86 rfl ?_
      refine H.callSD s0_88 (k_5 hw) (a_4 l hw n0 e0 e1 e2 e3 hN0 lN0 hN1 lN1 hN2 lN2 hN3 lN3) (argsL := [(.ref (n0 + 0)), (.int (3 : Int32)), (.int (1 : Int32))]) (rest := []) rfl rfl rfl rfl (leb rfl) (leb rfl) (leb rfl) (leb rfl) (st' := [(.ref (n0 + 1))]) rfl (k' := 2) rfl (n' := 6) rfl ?_
      refine H.astore s0_91 rfl (ls' := #[.val (.int p0), .val (.int p1), .val (.int p2), .val (.int p3), .val (.int p4), .val (.int p5), .val (.int (1 : Int32)), .val (.int (3 : Int32)), .val (.ref (n0 + 0)), .val (.ref (n0 + 1))]) rfl ?_
      refine H.aload s0_93 rfl rfl ?_
      refine H.ifnullF s0_95 ?_
      refine H.aload s0_98 rfl rfl ?_
      refine H.arraylength s0_100 (i := 1) rfl (z := (2 : Int32)) rfl ?_
      refine H.iload s0_101 rfl ?_
      refine H.iconst s0_103 (v := (1 : Int32)) (by decide) ?_
      refine H.iadd s0_104 (w := (2 : Int32)) (by decide) ?_
      refine H.icmpT s0_105 (show (2 : Int32) = (2 : Int32) by decide) ?_
      refine H.aload s0_110 rfl rfl ?_
      refine H.iload s0_112 rfl ?_
      refine H.aload s0_114 rfl rfl ?_
      refine H.iload s0_116 rfl ?_
      refine H.iconst s0_118 (v := (0 : Int32)) (by decide) ?_
      refine H.callSD s0_119 (k_6 hw) (m_at3 l hw n0 [.inr (.int, [(.int e0), (.int e1), (.int e2), (.int e3)]), .inr (.int, [(.int (own_c [(N2 + 1), (N1 + 1), (N0 + 1)] 0)), (.int (own_p [(N2 + 1), (N1 + 1), (N0 + 1)] 1))])] 0 1 _ e0 e1 e2 e3 (own_c [(N2 + 1), (N1 + 1), (N0 + 1)] 0) (0 : Int32) (1 : Int32) 0 rfl rfl (by decide) rfl (by decide) (own_main [(e2, N2), (e1, N1), (e0, N0)] (faS hN2 (faS hN1 (faS hN0 fa0))) (k := 0) (by decide))) (argsL := [(.ref (n0 + 1)), (.int (1 : Int32)), (.ref (n0 + 0)), (.int (3 : Int32)), (.int (0 : Int32))]) (rest := []) rfl rfl rfl rfl (leb rfl) (leb rfl) (leb rfl) (leb rfl) (st' := [(.int (1 : Int32))]) rfl (k' := 2) rfl (n' := 6) rfl ?_
      refine H.ifF s0_122 (show ¬ (1 : Int32) = (0 : Int32) by decide) ?_
      refine H.aload s0_125 rfl rfl ?_
      refine H.iload s0_127 rfl ?_
      refine H.aload s0_129 rfl rfl ?_
      refine H.iload s0_131 rfl ?_
      refine H.iconst s0_133 (v := (1 : Int32)) (by decide) ?_
      refine H.callSD s0_134 (k_6 hw) (m_at3 l hw n0 [.inr (.int, [(.int e0), (.int e1), (.int e2), (.int e3)]), .inr (.int, [(.int (own_c [(N2 + 1), (N1 + 1), (N0 + 1)] 0)), (.int (own_p [(N2 + 1), (N1 + 1), (N0 + 1)] 1))])] 0 1 _ e0 e1 e2 e3 (own_p [(N2 + 1), (N1 + 1), (N0 + 1)] 1) (1 : Int32) (1 : Int32) 1 rfl rfl (by decide) rfl (by decide) (own_main [(e2, N2), (e1, N1), (e0, N0)] (faS hN2 (faS hN1 (faS hN0 fa0))) (k := 1) (by decide))) (argsL := [(.ref (n0 + 1)), (.int (1 : Int32)), (.ref (n0 + 0)), (.int (3 : Int32)), (.int (1 : Int32))]) (rest := []) rfl rfl rfl rfl (leb rfl) (leb rfl) (leb rfl) (leb rfl) (st' := [(.int (1 : Int32))]) rfl (k' := 2) rfl (n' := 6) rfl ?_
      refine H.ifF s0_137 (show ¬ (1 : Int32) = (0 : Int32) by decide) ?_
      refine H.aload s0_140 rfl rfl ?_
      refine H.iload s0_142 rfl ?_
      refine H.aload s0_144 rfl rfl ?_
      refine H.iload s0_146 rfl ?_
      refine H.iconst s0_148 (v := (2 : Int32)) (by decide) ?_
      refine H.callSD s0_149 (k_6 hw) (m_atT l hw n0 [.inr (.int, [(.int e0), (.int e1), (.int e2), (.int e3)]), .inr (.int, [(.int (own_c [(N2 + 1), (N1 + 1), (N0 + 1)] 0)), (.int (own_p [(N2 + 1), (N1 + 1), (N0 + 1)] 1))])] 0 1 (1 : Int32) (3 : Int32) (2 : Int32) (by decide)) (argsL := [(.ref (n0 + 1)), (.int (1 : Int32)), (.ref (n0 + 0)), (.int (3 : Int32)), (.int (2 : Int32))]) (rest := []) rfl rfl rfl rfl (leb rfl) (leb rfl) (leb rfl) (leb rfl) (st' := [(.int (1 : Int32))]) rfl (k' := 2) rfl (n' := 6) rfl ?_
      refine H.ifF s0_152 (show ¬ (1 : Int32) = (0 : Int32) by decide) ?_
      refine H.aload s0_155 rfl rfl ?_
      refine H.iload s0_157 rfl ?_
      refine H.aload s0_159 rfl rfl ?_
      refine H.iload s0_161 rfl ?_
      refine H.iconst s0_163 (v := (3 : Int32)) (by decide) ?_
      refine H.callSD s0_164 (k_6 hw) (m_atT l hw n0 [.inr (.int, [(.int e0), (.int e1), (.int e2), (.int e3)]), .inr (.int, [(.int (own_c [(N2 + 1), (N1 + 1), (N0 + 1)] 0)), (.int (own_p [(N2 + 1), (N1 + 1), (N0 + 1)] 1))])] 0 1 (1 : Int32) (3 : Int32) (3 : Int32) (by decide)) (argsL := [(.ref (n0 + 1)), (.int (1 : Int32)), (.ref (n0 + 0)), (.int (3 : Int32)), (.int (3 : Int32))]) (rest := []) rfl rfl rfl rfl (leb rfl) (leb rfl) (leb rfl) (leb rfl) (st' := [(.int (1 : Int32))]) rfl (k' := 2) rfl (n' := 6) rfl ?_
      refine H.ifF s0_167 (show ¬ (1 : Int32) = (0 : Int32) by decide) ?_
      refine H.aload s0_170 rfl rfl ?_
      refine H.iload s0_172 rfl ?_
      refine H.aload s0_174 rfl rfl ?_
      refine H.iload s0_176 rfl ?_
      refine H.iconst s0_178 (v := (4 : Int32)) (by decide) ?_
      refine H.callSD s0_179 (k_6 hw) (m_atT l hw n0 [.inr (.int, [(.int e0), (.int e1), (.int e2), (.int e3)]), .inr (.int, [(.int (own_c [(N2 + 1), (N1 + 1), (N0 + 1)] 0)), (.int (own_p [(N2 + 1), (N1 + 1), (N0 + 1)] 1))])] 0 1 (1 : Int32) (3 : Int32) (4 : Int32) (by decide)) (argsL := [(.ref (n0 + 1)), (.int (1 : Int32)), (.ref (n0 + 0)), (.int (3 : Int32)), (.int (4 : Int32))]) (rest := []) rfl rfl rfl rfl (leb rfl) (leb rfl) (leb rfl) (leb rfl) (st' := [(.int (1 : Int32))]) rfl (k' := 2) rfl (n' := 6) rfl ?_
      refine H.ifF s0_182 (show ¬ (1 : Int32) = (0 : Int32) by decide) ?_
      refine H.aload s0_185 rfl rfl ?_
      refine H.iload s0_187 rfl ?_
      refine H.aload s0_189 rfl rfl ?_
      refine H.iload s0_191 rfl ?_
      refine H.iconst s0_193 (v := (5 : Int32)) (by decide) ?_
      refine H.callSD s0_194 (k_6 hw) (m_atT l hw n0 [.inr (.int, [(.int e0), (.int e1), (.int e2), (.int e3)]), .inr (.int, [(.int (own_c [(N2 + 1), (N1 + 1), (N0 + 1)] 0)), (.int (own_p [(N2 + 1), (N1 + 1), (N0 + 1)] 1))])] 0 1 (1 : Int32) (3 : Int32) (5 : Int32) (by decide)) (argsL := [(.ref (n0 + 1)), (.int (1 : Int32)), (.ref (n0 + 0)), (.int (3 : Int32)), (.int (5 : Int32))]) (rest := []) rfl rfl rfl rfl (leb rfl) (leb rfl) (leb rfl) (leb rfl) (st' := [(.int (1 : Int32))]) rfl (k' := 2) rfl (n' := 6) rfl ?_
      refine H.ifF s0_197 (show ¬ (1 : Int32) = (0 : Int32) by decide) ?_
      refine H.iconst s0_200 (v := (1 : Int32)) (by decide) ?_
      refine H.goto s0_201 ?_
      exact H.ireturn s0_205 rfl (by simp) rfl rfl (by decide) (by decide)
    · refine H.irem s0_25 (by decide) (w := (4 : Int32)) hz25 ?_
      refine H.istore s0_26 (ls' := #[.val (.int p0), .val (.int p1), .val (.int p2), .val (.int p3), .val (.int p4), .val (.int p5), .val (.int (1 : Int32)), .val (.int (4 : Int32)), .unset, .unset]) rfl ?_
      refine H.iconst s0_28 (v := (4 : Int32)) (by decide) ?_
      refine H.newarray s0_29 (ty := .int) rfl (k_3 hw) (N := 4) (cap := 4) (by decide) rfl (by decide) (by decide) rfl (by decide) (by decide) (i := 0) rfl (A' := [.inr (.int, [(.int (0 : Int32)), (.int (0 : Int32)), (.int (0 : Int32)), (.int (0 : Int32))])]) rfl (k' := 1) rfl (n' := 4) rfl ?_
      refine H.astore s0_31 rfl (ls' := #[.val (.int p0), .val (.int p1), .val (.int p2), .val (.int p3), .val (.int p4), .val (.int p5), .val (.int (1 : Int32)), .val (.int (4 : Int32)), .val (.ref (n0 + 0)), .unset]) rfl ?_
      refine H.iload s0_33 rfl ?_
      refine H.ifF s0_35 (show (0 : Int32) < (1 : Int32) by decide) ?_
      refine H.aload s0_38 rfl rfl ?_
      refine H.iconst s0_40 (v := (0 : Int32)) (by decide) ?_
      refine H.iloadN s0_41 rfl ?_
      refine H.ldc s0_42 (k_2 hw) ?_
      refine H.iand s0_44 rfl ?_
      refine H.iload s0_45 rfl ?_
      obtain ⟨e0, he0⟩ : ∃ z, z = ((p0 &&& (2147483647 : Int32)) % (1 : Int32)) := ⟨_, rfl⟩
      obtain ⟨N0, hN0, lN0⟩ := own_N p0 1 1 (by decide) (by decide)
      rw [← he0] at hN0
      refine H.irem s0_47 (by decide) he0.symm ?_
      refine H.iastore s0_48 (i := 0) (j := 0) rfl (by decide) (ltb rfl)  (A' := [.inr (.int, [(.int e0), (.int (0 : Int32)), (.int (0 : Int32)), (.int (0 : Int32))])]) rfl ?_
      refine H.aload s0_49 rfl rfl ?_
      refine H.iconst s0_51 (v := (1 : Int32)) (by decide) ?_
      refine H.iloadN s0_52 rfl ?_
      refine H.ldc s0_53 (k_2 hw) ?_
      refine H.iand s0_55 rfl ?_
      refine H.iload s0_56 rfl ?_
      obtain ⟨e1, he1⟩ : ∃ z, z = ((p1 &&& (2147483647 : Int32)) % (1 : Int32)) := ⟨_, rfl⟩
      obtain ⟨N1, hN1, lN1⟩ := own_N p1 1 1 (by decide) (by decide)
      rw [← he1] at hN1
      refine H.irem s0_58 (by decide) he1.symm ?_
      refine H.iastore s0_59 (i := 0) (j := 1) rfl (by decide) (ltb rfl)  (A' := [.inr (.int, [(.int e0), (.int e1), (.int (0 : Int32)), (.int (0 : Int32))])]) rfl ?_
      refine H.aload s0_60 rfl rfl ?_
      refine H.iconst s0_62 (v := (2 : Int32)) (by decide) ?_
      refine H.iloadN s0_63 rfl ?_
      refine H.ldc s0_64 (k_2 hw) ?_
      refine H.iand s0_66 rfl ?_
      refine H.iload s0_67 rfl ?_
      obtain ⟨e2, he2⟩ : ∃ z, z = ((p2 &&& (2147483647 : Int32)) % (1 : Int32)) := ⟨_, rfl⟩
      obtain ⟨N2, hN2, lN2⟩ := own_N p2 1 1 (by decide) (by decide)
      rw [← he2] at hN2
      refine H.irem s0_69 (by decide) he2.symm ?_
      refine H.iastore s0_70 (i := 0) (j := 2) rfl (by decide) (ltb rfl)  (A' := [.inr (.int, [(.int e0), (.int e1), (.int e2), (.int (0 : Int32))])]) rfl ?_
      refine H.aload s0_71 rfl rfl ?_
      refine H.iconst s0_73 (v := (3 : Int32)) (by decide) ?_
      refine H.iloadN s0_74 rfl ?_
      refine H.ldc s0_75 (k_2 hw) ?_
      refine H.iand s0_77 rfl ?_
      refine H.iload s0_78 rfl ?_
      obtain ⟨e3, he3⟩ : ∃ z, z = ((p3 &&& (2147483647 : Int32)) % (1 : Int32)) := ⟨_, rfl⟩
      obtain ⟨N3, hN3, lN3⟩ := own_N p3 1 1 (by decide) (by decide)
      rw [← he3] at hN3
      refine H.irem s0_80 (by decide) he3.symm ?_
      refine H.iastore s0_81 (i := 0) (j := 3) rfl (by decide) (ltb rfl)  (A' := [.inr (.int, [(.int e0), (.int e1), (.int e2), (.int e3)])]) rfl ?_
      refine H.aload s0_82 rfl rfl ?_
      refine H.iload s0_84 rfl ?_
      refine H.iload s0_86 rfl ?_
      refine H.callSD s0_88 (k_5 hw) (a_5 l hw n0 e0 e1 e2 e3 hN0 lN0 hN1 lN1 hN2 lN2 hN3 lN3) (argsL := [(.ref (n0 + 0)), (.int (4 : Int32)), (.int (1 : Int32))]) (rest := []) rfl rfl rfl rfl (leb rfl) (leb rfl) (leb rfl) (leb rfl) (st' := [(.ref (n0 + 1))]) rfl (k' := 2) rfl (n' := 6) rfl ?_
      refine H.astore s0_91 rfl (ls' := #[.val (.int p0), .val (.int p1), .val (.int p2), .val (.int p3), .val (.int p4), .val (.int p5), .val (.int (1 : Int32)), .val (.int (4 : Int32)), .val (.ref (n0 + 0)), .val (.ref (n0 + 1))]) rfl ?_
      refine H.aload s0_93 rfl rfl ?_
      refine H.ifnullF s0_95 ?_
      refine H.aload s0_98 rfl rfl ?_
      refine H.arraylength s0_100 (i := 1) rfl (z := (2 : Int32)) rfl ?_
      refine H.iload s0_101 rfl ?_
      refine H.iconst s0_103 (v := (1 : Int32)) (by decide) ?_
      refine H.iadd s0_104 (w := (2 : Int32)) (by decide) ?_
      refine H.icmpT s0_105 (show (2 : Int32) = (2 : Int32) by decide) ?_
      refine H.aload s0_110 rfl rfl ?_
      refine H.iload s0_112 rfl ?_
      refine H.aload s0_114 rfl rfl ?_
      refine H.iload s0_116 rfl ?_
      refine H.iconst s0_118 (v := (0 : Int32)) (by decide) ?_
      refine H.callSD s0_119 (k_6 hw) (m_at4 l hw n0 [.inr (.int, [(.int e0), (.int e1), (.int e2), (.int e3)]), .inr (.int, [(.int (own_c [(N3 + 1), (N2 + 1), (N1 + 1), (N0 + 1)] 0)), (.int (own_p [(N3 + 1), (N2 + 1), (N1 + 1), (N0 + 1)] 1))])] 0 1 _ e0 e1 e2 e3 (own_c [(N3 + 1), (N2 + 1), (N1 + 1), (N0 + 1)] 0) (0 : Int32) (1 : Int32) 0 rfl rfl (by decide) rfl (by decide) (own_main [(e3, N3), (e2, N2), (e1, N1), (e0, N0)] (faS hN3 (faS hN2 (faS hN1 (faS hN0 fa0)))) (k := 0) (by decide))) (argsL := [(.ref (n0 + 1)), (.int (1 : Int32)), (.ref (n0 + 0)), (.int (4 : Int32)), (.int (0 : Int32))]) (rest := []) rfl rfl rfl rfl (leb rfl) (leb rfl) (leb rfl) (leb rfl) (st' := [(.int (1 : Int32))]) rfl (k' := 2) rfl (n' := 6) rfl ?_
      refine H.ifF s0_122 (show ¬ (1 : Int32) = (0 : Int32) by decide) ?_
      refine H.aload s0_125 rfl rfl ?_
      refine H.iload s0_127 rfl ?_
      refine H.aload s0_129 rfl rfl ?_
      refine H.iload s0_131 rfl ?_
      refine H.iconst s0_133 (v := (1 : Int32)) (by decide) ?_
      refine H.callSD s0_134 (k_6 hw) (m_at4 l hw n0 [.inr (.int, [(.int e0), (.int e1), (.int e2), (.int e3)]), .inr (.int, [(.int (own_c [(N3 + 1), (N2 + 1), (N1 + 1), (N0 + 1)] 0)), (.int (own_p [(N3 + 1), (N2 + 1), (N1 + 1), (N0 + 1)] 1))])] 0 1 _ e0 e1 e2 e3 (own_p [(N3 + 1), (N2 + 1), (N1 + 1), (N0 + 1)] 1) (1 : Int32) (1 : Int32) 1 rfl rfl (by decide) rfl (by decide) (own_main [(e3, N3), (e2, N2), (e1, N1), (e0, N0)] (faS hN3 (faS hN2 (faS hN1 (faS hN0 fa0)))) (k := 1) (by decide))) (argsL := [(.ref (n0 + 1)), (.int (1 : Int32)), (.ref (n0 + 0)), (.int (4 : Int32)), (.int (1 : Int32))]) (rest := []) rfl rfl rfl rfl (leb rfl) (leb rfl) (leb rfl) (leb rfl) (st' := [(.int (1 : Int32))]) rfl (k' := 2) rfl (n' := 6) rfl ?_
      refine H.ifF s0_137 (show ¬ (1 : Int32) = (0 : Int32) by decide) ?_
      refine H.aload s0_140 rfl rfl ?_
      refine H.iload s0_142 rfl ?_
      refine H.aload s0_144 rfl rfl ?_
      refine H.iload s0_146 rfl ?_
      refine H.iconst s0_148 (v := (2 : Int32)) (by decide) ?_
      refine H.callSD s0_149 (k_6 hw) (m_atT l hw n0 [.inr (.int, [(.int e0), (.int e1), (.int e2), (.int e3)]), .inr (.int, [(.int (own_c [(N3 + 1), (N2 + 1), (N1 + 1), (N0 + 1)] 0)), (.int (own_p [(N3 + 1), (N2 + 1), (N1 + 1), (N0 + 1)] 1))])] 0 1 (1 : Int32) (4 : Int32) (2 : Int32) (by decide)) (argsL := [(.ref (n0 + 1)), (.int (1 : Int32)), (.ref (n0 + 0)), (.int (4 : Int32)), (.int (2 : Int32))]) (rest := []) rfl rfl rfl rfl (leb rfl) (leb rfl) (leb rfl) (leb rfl) (st' := [(.int (1 : Int32))]) rfl (k' := 2) rfl (n' := 6) rfl ?_
      refine H.ifF s0_152 (show ¬ (1 : Int32) = (0 : Int32) by decide) ?_
      refine H.aload s0_155 rfl rfl ?_
      refine H.iload s0_157 rfl ?_
      refine H.aload s0_159 rfl rfl ?_
      refine H.iload s0_161 rfl ?_
      refine H.iconst s0_163 (v := (3 : Int32)) (by decide) ?_
      refine H.callSD s0_164 (k_6 hw) (m_atT l hw n0 [.inr (.int, [(.int e0), (.int e1), (.int e2), (.int e3)]), .inr (.int, [(.int (own_c [(N3 + 1), (N2 + 1), (N1 + 1), (N0 + 1)] 0)), (.int (own_p [(N3 + 1), (N2 + 1), (N1 + 1), (N0 + 1)] 1))])] 0 1 (1 : Int32) (4 : Int32) (3 : Int32) (by decide)) (argsL := [(.ref (n0 + 1)), (.int (1 : Int32)), (.ref (n0 + 0)), (.int (4 : Int32)), (.int (3 : Int32))]) (rest := []) rfl rfl rfl rfl (leb rfl) (leb rfl) (leb rfl) (leb rfl) (st' := [(.int (1 : Int32))]) rfl (k' := 2) rfl (n' := 6) rfl ?_
      refine H.ifF s0_167 (show ¬ (1 : Int32) = (0 : Int32) by decide) ?_
      refine H.aload s0_170 rfl rfl ?_
      refine H.iload s0_172 rfl ?_
      refine H.aload s0_174 rfl rfl ?_
      refine H.iload s0_176 rfl ?_
      refine H.iconst s0_178 (v := (4 : Int32)) (by decide) ?_
      refine H.callSD s0_179 (k_6 hw) (m_atT l hw n0 [.inr (.int, [(.int e0), (.int e1), (.int e2), (.int e3)]), .inr (.int, [(.int (own_c [(N3 + 1), (N2 + 1), (N1 + 1), (N0 + 1)] 0)), (.int (own_p [(N3 + 1), (N2 + 1), (N1 + 1), (N0 + 1)] 1))])] 0 1 (1 : Int32) (4 : Int32) (4 : Int32) (by decide)) (argsL := [(.ref (n0 + 1)), (.int (1 : Int32)), (.ref (n0 + 0)), (.int (4 : Int32)), (.int (4 : Int32))]) (rest := []) rfl rfl rfl rfl (leb rfl) (leb rfl) (leb rfl) (leb rfl) (st' := [(.int (1 : Int32))]) rfl (k' := 2) rfl (n' := 6) rfl ?_
      refine H.ifF s0_182 (show ¬ (1 : Int32) = (0 : Int32) by decide) ?_
      refine H.aload s0_185 rfl rfl ?_
      refine H.iload s0_187 rfl ?_
      refine H.aload s0_189 rfl rfl ?_
      refine H.iload s0_191 rfl ?_
      refine H.iconst s0_193 (v := (5 : Int32)) (by decide) ?_
      refine H.callSD s0_194 (k_6 hw) (m_atT l hw n0 [.inr (.int, [(.int e0), (.int e1), (.int e2), (.int e3)]), .inr (.int, [(.int (own_c [(N3 + 1), (N2 + 1), (N1 + 1), (N0 + 1)] 0)), (.int (own_p [(N3 + 1), (N2 + 1), (N1 + 1), (N0 + 1)] 1))])] 0 1 (1 : Int32) (4 : Int32) (5 : Int32) (by decide)) (argsL := [(.ref (n0 + 1)), (.int (1 : Int32)), (.ref (n0 + 0)), (.int (4 : Int32)), (.int (5 : Int32))]) (rest := []) rfl rfl rfl rfl (leb rfl) (leb rfl) (leb rfl) (leb rfl) (st' := [(.int (1 : Int32))]) rfl (k' := 2) rfl (n' := 6) rfl ?_
      refine H.ifF s0_197 (show ¬ (1 : Int32) = (0 : Int32) by decide) ?_
      refine H.iconst s0_200 (v := (1 : Int32)) (by decide) ?_
      refine H.goto s0_201 ?_
      exact H.ireturn s0_205 rfl (by simp) rfl rfl (by decide) (by decide)
  · refine H.irem s0_7 (by decide) (w := (2 : Int32)) hz7 ?_
    refine H.istore s0_8 (ls' := #[.val (.int p0), .val (.int p1), .val (.int p2), .val (.int p3), .val (.int p4), .val (.int p5), .val (.int (2 : Int32)), .unset, .unset, .unset]) rfl ?_
    refine H.iload s0_10 rfl ?_
    refine H.ifT s0_12 (show ¬ (2 : Int32) = (0 : Int32) by decide) ?_
    refine H.iload s0_19 rfl ?_
    refine H.ldc s0_21 (k_2 hw) ?_
    refine H.iand s0_23 rfl ?_
    refine H.iconst s0_24 (v := (5 : Int32)) (by decide) ?_
    rcases own_rem5 p5 with hz25 | hz25 | hz25 | hz25 | hz25
    · refine H.irem s0_25 (by decide) (w := (0 : Int32)) hz25 ?_
      refine H.istore s0_26 (ls' := #[.val (.int p0), .val (.int p1), .val (.int p2), .val (.int p3), .val (.int p4), .val (.int p5), .val (.int (2 : Int32)), .val (.int (0 : Int32)), .unset, .unset]) rfl ?_
      refine H.iconst s0_28 (v := (4 : Int32)) (by decide) ?_
      refine H.newarray s0_29 (ty := .int) rfl (k_3 hw) (N := 4) (cap := 4) (by decide) rfl (by decide) (by decide) rfl (by decide) (by decide) (i := 0) rfl (A' := [.inr (.int, [(.int (0 : Int32)), (.int (0 : Int32)), (.int (0 : Int32)), (.int (0 : Int32))])]) rfl (k' := 1) rfl (n' := 4) rfl ?_
      refine H.astore s0_31 rfl (ls' := #[.val (.int p0), .val (.int p1), .val (.int p2), .val (.int p3), .val (.int p4), .val (.int p5), .val (.int (2 : Int32)), .val (.int (0 : Int32)), .val (.ref (n0 + 0)), .unset]) rfl ?_
      refine H.iload s0_33 rfl ?_
      refine H.ifF s0_35 (show (0 : Int32) < (2 : Int32) by decide) ?_
      refine H.aload s0_38 rfl rfl ?_
      refine H.iconst s0_40 (v := (0 : Int32)) (by decide) ?_
      refine H.iloadN s0_41 rfl ?_
      refine H.ldc s0_42 (k_2 hw) ?_
      refine H.iand s0_44 rfl ?_
      refine H.iload s0_45 rfl ?_
      obtain ⟨e0, he0⟩ : ∃ z, z = ((p0 &&& (2147483647 : Int32)) % (2 : Int32)) := ⟨_, rfl⟩
      obtain ⟨N0, hN0, lN0⟩ := own_N p0 2 2 (by decide) (by decide)
      rw [← he0] at hN0
      refine H.irem s0_47 (by decide) he0.symm ?_
      refine H.iastore s0_48 (i := 0) (j := 0) rfl (by decide) (ltb rfl)  (A' := [.inr (.int, [(.int e0), (.int (0 : Int32)), (.int (0 : Int32)), (.int (0 : Int32))])]) rfl ?_
      refine H.aload s0_49 rfl rfl ?_
      refine H.iconst s0_51 (v := (1 : Int32)) (by decide) ?_
      refine H.iloadN s0_52 rfl ?_
      refine H.ldc s0_53 (k_2 hw) ?_
      refine H.iand s0_55 rfl ?_
      refine H.iload s0_56 rfl ?_
      obtain ⟨e1, he1⟩ : ∃ z, z = ((p1 &&& (2147483647 : Int32)) % (2 : Int32)) := ⟨_, rfl⟩
      obtain ⟨N1, hN1, lN1⟩ := own_N p1 2 2 (by decide) (by decide)
      rw [← he1] at hN1
      refine H.irem s0_58 (by decide) he1.symm ?_
      refine H.iastore s0_59 (i := 0) (j := 1) rfl (by decide) (ltb rfl)  (A' := [.inr (.int, [(.int e0), (.int e1), (.int (0 : Int32)), (.int (0 : Int32))])]) rfl ?_
      refine H.aload s0_60 rfl rfl ?_
      refine H.iconst s0_62 (v := (2 : Int32)) (by decide) ?_
      refine H.iloadN s0_63 rfl ?_
      refine H.ldc s0_64 (k_2 hw) ?_
      refine H.iand s0_66 rfl ?_
      refine H.iload s0_67 rfl ?_
      obtain ⟨e2, he2⟩ : ∃ z, z = ((p2 &&& (2147483647 : Int32)) % (2 : Int32)) := ⟨_, rfl⟩
      obtain ⟨N2, hN2, lN2⟩ := own_N p2 2 2 (by decide) (by decide)
      rw [← he2] at hN2
      refine H.irem s0_69 (by decide) he2.symm ?_
      refine H.iastore s0_70 (i := 0) (j := 2) rfl (by decide) (ltb rfl)  (A' := [.inr (.int, [(.int e0), (.int e1), (.int e2), (.int (0 : Int32))])]) rfl ?_
      refine H.aload s0_71 rfl rfl ?_
      refine H.iconst s0_73 (v := (3 : Int32)) (by decide) ?_
      refine H.iloadN s0_74 rfl ?_
      refine H.ldc s0_75 (k_2 hw) ?_
      refine H.iand s0_77 rfl ?_
      refine H.iload s0_78 rfl ?_
      obtain ⟨e3, he3⟩ : ∃ z, z = ((p3 &&& (2147483647 : Int32)) % (2 : Int32)) := ⟨_, rfl⟩
      obtain ⟨N3, hN3, lN3⟩ := own_N p3 2 2 (by decide) (by decide)
      rw [← he3] at hN3
      refine H.irem s0_80 (by decide) he3.symm ?_
      refine H.iastore s0_81 (i := 0) (j := 3) rfl (by decide) (ltb rfl)  (A' := [.inr (.int, [(.int e0), (.int e1), (.int e2), (.int e3)])]) rfl ?_
      refine H.aload s0_82 rfl rfl ?_
      refine H.iload s0_84 rfl ?_
      refine H.iload s0_86 rfl ?_
      refine H.callSD s0_88 (k_5 hw) (a_6 l hw n0 e0 e1 e2 e3 hN0 lN0 hN1 lN1 hN2 lN2 hN3 lN3) (argsL := [(.ref (n0 + 0)), (.int (0 : Int32)), (.int (2 : Int32))]) (rest := []) rfl rfl rfl rfl (leb rfl) (leb rfl) (leb rfl) (leb rfl) (st' := [(.ref (n0 + 1))]) rfl (k' := 2) rfl (n' := 7) rfl ?_
      refine H.astore s0_91 rfl (ls' := #[.val (.int p0), .val (.int p1), .val (.int p2), .val (.int p3), .val (.int p4), .val (.int p5), .val (.int (2 : Int32)), .val (.int (0 : Int32)), .val (.ref (n0 + 0)), .val (.ref (n0 + 1))]) rfl ?_
      refine H.aload s0_93 rfl rfl ?_
      refine H.ifnullF s0_95 ?_
      refine H.aload s0_98 rfl rfl ?_
      refine H.arraylength s0_100 (i := 1) rfl (z := (3 : Int32)) rfl ?_
      refine H.iload s0_101 rfl ?_
      refine H.iconst s0_103 (v := (1 : Int32)) (by decide) ?_
      refine H.iadd s0_104 (w := (3 : Int32)) (by decide) ?_
      refine H.icmpT s0_105 (show (3 : Int32) = (3 : Int32) by decide) ?_
      refine H.aload s0_110 rfl rfl ?_
      refine H.iload s0_112 rfl ?_
      refine H.aload s0_114 rfl rfl ?_
      refine H.iload s0_116 rfl ?_
      refine H.iconst s0_118 (v := (0 : Int32)) (by decide) ?_
      refine H.callSD s0_119 (k_6 hw) (m_at0 l hw n0 [.inr (.int, [(.int e0), (.int e1), (.int e2), (.int e3)]), .inr (.int, [(.int (0 : Int32)), (.int (0 : Int32)), (.int (0 : Int32))])] 0 1 _ e0 e1 e2 e3 (0 : Int32) (0 : Int32) (2 : Int32) 0 rfl rfl (by decide) rfl (by decide) rfl) (argsL := [(.ref (n0 + 1)), (.int (2 : Int32)), (.ref (n0 + 0)), (.int (0 : Int32)), (.int (0 : Int32))]) (rest := []) rfl rfl rfl rfl (leb rfl) (leb rfl) (leb rfl) (leb rfl) (st' := [(.int (1 : Int32))]) rfl (k' := 2) rfl (n' := 7) rfl ?_
      refine H.ifF s0_122 (show ¬ (1 : Int32) = (0 : Int32) by decide) ?_
      refine H.aload s0_125 rfl rfl ?_
      refine H.iload s0_127 rfl ?_
      refine H.aload s0_129 rfl rfl ?_
      refine H.iload s0_131 rfl ?_
      refine H.iconst s0_133 (v := (1 : Int32)) (by decide) ?_
      refine H.callSD s0_134 (k_6 hw) (m_at0 l hw n0 [.inr (.int, [(.int e0), (.int e1), (.int e2), (.int e3)]), .inr (.int, [(.int (0 : Int32)), (.int (0 : Int32)), (.int (0 : Int32))])] 0 1 _ e0 e1 e2 e3 (0 : Int32) (1 : Int32) (2 : Int32) 1 rfl rfl (by decide) rfl (by decide) rfl) (argsL := [(.ref (n0 + 1)), (.int (2 : Int32)), (.ref (n0 + 0)), (.int (0 : Int32)), (.int (1 : Int32))]) (rest := []) rfl rfl rfl rfl (leb rfl) (leb rfl) (leb rfl) (leb rfl) (st' := [(.int (1 : Int32))]) rfl (k' := 2) rfl (n' := 7) rfl ?_
      refine H.ifF s0_137 (show ¬ (1 : Int32) = (0 : Int32) by decide) ?_
      refine H.aload s0_140 rfl rfl ?_
      refine H.iload s0_142 rfl ?_
      refine H.aload s0_144 rfl rfl ?_
      refine H.iload s0_146 rfl ?_
      refine H.iconst s0_148 (v := (2 : Int32)) (by decide) ?_
      refine H.callSD s0_149 (k_6 hw) (m_at0 l hw n0 [.inr (.int, [(.int e0), (.int e1), (.int e2), (.int e3)]), .inr (.int, [(.int (0 : Int32)), (.int (0 : Int32)), (.int (0 : Int32))])] 0 1 _ e0 e1 e2 e3 (0 : Int32) (2 : Int32) (2 : Int32) 2 rfl rfl (by decide) rfl (by decide) rfl) (argsL := [(.ref (n0 + 1)), (.int (2 : Int32)), (.ref (n0 + 0)), (.int (0 : Int32)), (.int (2 : Int32))]) (rest := []) rfl rfl rfl rfl (leb rfl) (leb rfl) (leb rfl) (leb rfl) (st' := [(.int (1 : Int32))]) rfl (k' := 2) rfl (n' := 7) rfl ?_
      refine H.ifF s0_152 (show ¬ (1 : Int32) = (0 : Int32) by decide) ?_
      refine H.aload s0_155 rfl rfl ?_
      refine H.iload s0_157 rfl ?_
      refine H.aload s0_159 rfl rfl ?_
      refine H.iload s0_161 rfl ?_
      refine H.iconst s0_163 (v := (3 : Int32)) (by decide) ?_
      refine H.callSD s0_164 (k_6 hw) (m_atT l hw n0 [.inr (.int, [(.int e0), (.int e1), (.int e2), (.int e3)]), .inr (.int, [(.int (0 : Int32)), (.int (0 : Int32)), (.int (0 : Int32))])] 0 1 (2 : Int32) (0 : Int32) (3 : Int32) (by decide)) (argsL := [(.ref (n0 + 1)), (.int (2 : Int32)), (.ref (n0 + 0)), (.int (0 : Int32)), (.int (3 : Int32))]) (rest := []) rfl rfl rfl rfl (leb rfl) (leb rfl) (leb rfl) (leb rfl) (st' := [(.int (1 : Int32))]) rfl (k' := 2) rfl (n' := 7) rfl ?_
      refine H.ifF s0_167 (show ¬ (1 : Int32) = (0 : Int32) by decide) ?_
      refine H.aload s0_170 rfl rfl ?_
      refine H.iload s0_172 rfl ?_
      refine H.aload s0_174 rfl rfl ?_
      refine H.iload s0_176 rfl ?_
      refine H.iconst s0_178 (v := (4 : Int32)) (by decide) ?_
      refine H.callSD s0_179 (k_6 hw) (m_atT l hw n0 [.inr (.int, [(.int e0), (.int e1), (.int e2), (.int e3)]), .inr (.int, [(.int (0 : Int32)), (.int (0 : Int32)), (.int (0 : Int32))])] 0 1 (2 : Int32) (0 : Int32) (4 : Int32) (by decide)) (argsL := [(.ref (n0 + 1)), (.int (2 : Int32)), (.ref (n0 + 0)), (.int (0 : Int32)), (.int (4 : Int32))]) (rest := []) rfl rfl rfl rfl (leb rfl) (leb rfl) (leb rfl) (leb rfl) (st' := [(.int (1 : Int32))]) rfl (k' := 2) rfl (n' := 7) rfl ?_
      refine H.ifF s0_182 (show ¬ (1 : Int32) = (0 : Int32) by decide) ?_
      refine H.aload s0_185 rfl rfl ?_
      refine H.iload s0_187 rfl ?_
      refine H.aload s0_189 rfl rfl ?_
      refine H.iload s0_191 rfl ?_
      refine H.iconst s0_193 (v := (5 : Int32)) (by decide) ?_
      refine H.callSD s0_194 (k_6 hw) (m_atT l hw n0 [.inr (.int, [(.int e0), (.int e1), (.int e2), (.int e3)]), .inr (.int, [(.int (0 : Int32)), (.int (0 : Int32)), (.int (0 : Int32))])] 0 1 (2 : Int32) (0 : Int32) (5 : Int32) (by decide)) (argsL := [(.ref (n0 + 1)), (.int (2 : Int32)), (.ref (n0 + 0)), (.int (0 : Int32)), (.int (5 : Int32))]) (rest := []) rfl rfl rfl rfl (leb rfl) (leb rfl) (leb rfl) (leb rfl) (st' := [(.int (1 : Int32))]) rfl (k' := 2) rfl (n' := 7) rfl ?_
      refine H.ifF s0_197 (show ¬ (1 : Int32) = (0 : Int32) by decide) ?_
      refine H.iconst s0_200 (v := (1 : Int32)) (by decide) ?_
      refine H.goto s0_201 ?_
      exact H.ireturn s0_205 rfl (by simp) rfl rfl (by decide) (by decide)
    · refine H.irem s0_25 (by decide) (w := (1 : Int32)) hz25 ?_
      refine H.istore s0_26 (ls' := #[.val (.int p0), .val (.int p1), .val (.int p2), .val (.int p3), .val (.int p4), .val (.int p5), .val (.int (2 : Int32)), .val (.int (1 : Int32)), .unset, .unset]) rfl ?_
      refine H.iconst s0_28 (v := (4 : Int32)) (by decide) ?_
      refine H.newarray s0_29 (ty := .int) rfl (k_3 hw) (N := 4) (cap := 4) (by decide) rfl (by decide) (by decide) rfl (by decide) (by decide) (i := 0) rfl (A' := [.inr (.int, [(.int (0 : Int32)), (.int (0 : Int32)), (.int (0 : Int32)), (.int (0 : Int32))])]) rfl (k' := 1) rfl (n' := 4) rfl ?_
      refine H.astore s0_31 rfl (ls' := #[.val (.int p0), .val (.int p1), .val (.int p2), .val (.int p3), .val (.int p4), .val (.int p5), .val (.int (2 : Int32)), .val (.int (1 : Int32)), .val (.ref (n0 + 0)), .unset]) rfl ?_
      refine H.iload s0_33 rfl ?_
      refine H.ifF s0_35 (show (0 : Int32) < (2 : Int32) by decide) ?_
      refine H.aload s0_38 rfl rfl ?_
      refine H.iconst s0_40 (v := (0 : Int32)) (by decide) ?_
      refine H.iloadN s0_41 rfl ?_
      refine H.ldc s0_42 (k_2 hw) ?_
      refine H.iand s0_44 rfl ?_
      refine H.iload s0_45 rfl ?_
      obtain ⟨e0, he0⟩ : ∃ z, z = ((p0 &&& (2147483647 : Int32)) % (2 : Int32)) := ⟨_, rfl⟩
      obtain ⟨N0, hN0, lN0⟩ := own_N p0 2 2 (by decide) (by decide)
      rw [← he0] at hN0
      refine H.irem s0_47 (by decide) he0.symm ?_
      refine H.iastore s0_48 (i := 0) (j := 0) rfl (by decide) (ltb rfl)  (A' := [.inr (.int, [(.int e0), (.int (0 : Int32)), (.int (0 : Int32)), (.int (0 : Int32))])]) rfl ?_
      refine H.aload s0_49 rfl rfl ?_
      refine H.iconst s0_51 (v := (1 : Int32)) (by decide) ?_
      refine H.iloadN s0_52 rfl ?_
      refine H.ldc s0_53 (k_2 hw) ?_
      refine H.iand s0_55 rfl ?_
      refine H.iload s0_56 rfl ?_
      obtain ⟨e1, he1⟩ : ∃ z, z = ((p1 &&& (2147483647 : Int32)) % (2 : Int32)) := ⟨_, rfl⟩
      obtain ⟨N1, hN1, lN1⟩ := own_N p1 2 2 (by decide) (by decide)
      rw [← he1] at hN1
      refine H.irem s0_58 (by decide) he1.symm ?_
      refine H.iastore s0_59 (i := 0) (j := 1) rfl (by decide) (ltb rfl)  (A' := [.inr (.int, [(.int e0), (.int e1), (.int (0 : Int32)), (.int (0 : Int32))])]) rfl ?_
      refine H.aload s0_60 rfl rfl ?_
      refine H.iconst s0_62 (v := (2 : Int32)) (by decide) ?_
      refine H.iloadN s0_63 rfl ?_
      refine H.ldc s0_64 (k_2 hw) ?_
      refine H.iand s0_66 rfl ?_
      refine H.iload s0_67 rfl ?_
      obtain ⟨e2, he2⟩ : ∃ z, z = ((p2 &&& (2147483647 : Int32)) % (2 : Int32)) := ⟨_, rfl⟩
      obtain ⟨N2, hN2, lN2⟩ := own_N p2 2 2 (by decide) (by decide)
      rw [← he2] at hN2
      refine H.irem s0_69 (by decide) he2.symm ?_
      refine H.iastore s0_70 (i := 0) (j := 2) rfl (by decide) (ltb rfl)  (A' := [.inr (.int, [(.int e0), (.int e1), (.int e2), (.int (0 : Int32))])]) rfl ?_
      refine H.aload s0_71 rfl rfl ?_
      refine H.iconst s0_73 (v := (3 : Int32)) (by decide) ?_
      refine H.iloadN s0_74 rfl ?_
      refine H.ldc s0_75 (k_2 hw) ?_
      refine H.iand s0_77 rfl ?_
      refine H.iload s0_78 rfl ?_
      obtain ⟨e3, he3⟩ : ∃ z, z = ((p3 &&& (2147483647 : Int32)) % (2 : Int32)) := ⟨_, rfl⟩
      obtain ⟨N3, hN3, lN3⟩ := own_N p3 2 2 (by decide) (by decide)
      rw [← he3] at hN3
      refine H.irem s0_80 (by decide) he3.symm ?_
      refine H.iastore s0_81 (i := 0) (j := 3) rfl (by decide) (ltb rfl)  (A' := [.inr (.int, [(.int e0), (.int e1), (.int e2), (.int e3)])]) rfl ?_
      refine H.aload s0_82 rfl rfl ?_
      refine H.iload s0_84 rfl ?_
      refine H.iload s0_86 rfl ?_
      refine H.callSD s0_88 (k_5 hw) (a_7 l hw n0 e0 e1 e2 e3 hN0 lN0 hN1 lN1 hN2 lN2 hN3 lN3) (argsL := [(.ref (n0 + 0)), (.int (1 : Int32)), (.int (2 : Int32))]) (rest := []) rfl rfl rfl rfl (leb rfl) (leb rfl) (leb rfl) (leb rfl) (st' := [(.ref (n0 + 1))]) rfl (k' := 2) rfl (n' := 7) rfl ?_
      refine H.astore s0_91 rfl (ls' := #[.val (.int p0), .val (.int p1), .val (.int p2), .val (.int p3), .val (.int p4), .val (.int p5), .val (.int (2 : Int32)), .val (.int (1 : Int32)), .val (.ref (n0 + 0)), .val (.ref (n0 + 1))]) rfl ?_
      refine H.aload s0_93 rfl rfl ?_
      refine H.ifnullF s0_95 ?_
      refine H.aload s0_98 rfl rfl ?_
      refine H.arraylength s0_100 (i := 1) rfl (z := (3 : Int32)) rfl ?_
      refine H.iload s0_101 rfl ?_
      refine H.iconst s0_103 (v := (1 : Int32)) (by decide) ?_
      refine H.iadd s0_104 (w := (3 : Int32)) (by decide) ?_
      refine H.icmpT s0_105 (show (3 : Int32) = (3 : Int32) by decide) ?_
      refine H.aload s0_110 rfl rfl ?_
      refine H.iload s0_112 rfl ?_
      refine H.aload s0_114 rfl rfl ?_
      refine H.iload s0_116 rfl ?_
      refine H.iconst s0_118 (v := (0 : Int32)) (by decide) ?_
      refine H.callSD s0_119 (k_6 hw) (m_at1 l hw n0 [.inr (.int, [(.int e0), (.int e1), (.int e2), (.int e3)]), .inr (.int, [(.int (own_c [(N0 + 1)] 0)), (.int (own_p [(N0 + 1)] 1)), (.int (own_p [(N0 + 1)] 2))])] 0 1 _ e0 e1 e2 e3 (own_c [(N0 + 1)] 0) (0 : Int32) (2 : Int32) 0 rfl rfl (by decide) rfl (by decide) (own_main [(e0, N0)] (faS hN0 fa0) (k := 0) (by decide))) (argsL := [(.ref (n0 + 1)), (.int (2 : Int32)), (.ref (n0 + 0)), (.int (1 : Int32)), (.int (0 : Int32))]) (rest := []) rfl rfl rfl rfl (leb rfl) (leb rfl) (leb rfl) (leb rfl) (st' := [(.int (1 : Int32))]) rfl (k' := 2) rfl (n' := 7) rfl ?_
      refine H.ifF s0_122 (show ¬ (1 : Int32) = (0 : Int32) by decide) ?_
      refine H.aload s0_125 rfl rfl ?_
      refine H.iload s0_127 rfl ?_
      refine H.aload s0_129 rfl rfl ?_
      refine H.iload s0_131 rfl ?_
      refine H.iconst s0_133 (v := (1 : Int32)) (by decide) ?_
      refine H.callSD s0_134 (k_6 hw) (m_at1 l hw n0 [.inr (.int, [(.int e0), (.int e1), (.int e2), (.int e3)]), .inr (.int, [(.int (own_c [(N0 + 1)] 0)), (.int (own_p [(N0 + 1)] 1)), (.int (own_p [(N0 + 1)] 2))])] 0 1 _ e0 e1 e2 e3 (own_p [(N0 + 1)] 1) (1 : Int32) (2 : Int32) 1 rfl rfl (by decide) rfl (by decide) (own_main [(e0, N0)] (faS hN0 fa0) (k := 1) (by decide))) (argsL := [(.ref (n0 + 1)), (.int (2 : Int32)), (.ref (n0 + 0)), (.int (1 : Int32)), (.int (1 : Int32))]) (rest := []) rfl rfl rfl rfl (leb rfl) (leb rfl) (leb rfl) (leb rfl) (st' := [(.int (1 : Int32))]) rfl (k' := 2) rfl (n' := 7) rfl ?_
      refine H.ifF s0_137 (show ¬ (1 : Int32) = (0 : Int32) by decide) ?_
      refine H.aload s0_140 rfl rfl ?_
      refine H.iload s0_142 rfl ?_
      refine H.aload s0_144 rfl rfl ?_
      refine H.iload s0_146 rfl ?_
      refine H.iconst s0_148 (v := (2 : Int32)) (by decide) ?_
      refine H.callSD s0_149 (k_6 hw) (m_at1 l hw n0 [.inr (.int, [(.int e0), (.int e1), (.int e2), (.int e3)]), .inr (.int, [(.int (own_c [(N0 + 1)] 0)), (.int (own_p [(N0 + 1)] 1)), (.int (own_p [(N0 + 1)] 2))])] 0 1 _ e0 e1 e2 e3 (own_p [(N0 + 1)] 2) (2 : Int32) (2 : Int32) 2 rfl rfl (by decide) rfl (by decide) (own_main [(e0, N0)] (faS hN0 fa0) (k := 2) (by decide))) (argsL := [(.ref (n0 + 1)), (.int (2 : Int32)), (.ref (n0 + 0)), (.int (1 : Int32)), (.int (2 : Int32))]) (rest := []) rfl rfl rfl rfl (leb rfl) (leb rfl) (leb rfl) (leb rfl) (st' := [(.int (1 : Int32))]) rfl (k' := 2) rfl (n' := 7) rfl ?_
      refine H.ifF s0_152 (show ¬ (1 : Int32) = (0 : Int32) by decide) ?_
      refine H.aload s0_155 rfl rfl ?_
      refine H.iload s0_157 rfl ?_
      refine H.aload s0_159 rfl rfl ?_
      refine H.iload s0_161 rfl ?_
      refine H.iconst s0_163 (v := (3 : Int32)) (by decide) ?_
      refine H.callSD s0_164 (k_6 hw) (m_atT l hw n0 [.inr (.int, [(.int e0), (.int e1), (.int e2), (.int e3)]), .inr (.int, [(.int (own_c [(N0 + 1)] 0)), (.int (own_p [(N0 + 1)] 1)), (.int (own_p [(N0 + 1)] 2))])] 0 1 (2 : Int32) (1 : Int32) (3 : Int32) (by decide)) (argsL := [(.ref (n0 + 1)), (.int (2 : Int32)), (.ref (n0 + 0)), (.int (1 : Int32)), (.int (3 : Int32))]) (rest := []) rfl rfl rfl rfl (leb rfl) (leb rfl) (leb rfl) (leb rfl) (st' := [(.int (1 : Int32))]) rfl (k' := 2) rfl (n' := 7) rfl ?_
      refine H.ifF s0_167 (show ¬ (1 : Int32) = (0 : Int32) by decide) ?_
      refine H.aload s0_170 rfl rfl ?_
      refine H.iload s0_172 rfl ?_
      refine H.aload s0_174 rfl rfl ?_
      refine H.iload s0_176 rfl ?_
      refine H.iconst s0_178 (v := (4 : Int32)) (by decide) ?_
      refine H.callSD s0_179 (k_6 hw) (m_atT l hw n0 [.inr (.int, [(.int e0), (.int e1), (.int e2), (.int e3)]), .inr (.int, [(.int (own_c [(N0 + 1)] 0)), (.int (own_p [(N0 + 1)] 1)), (.int (own_p [(N0 + 1)] 2))])] 0 1 (2 : Int32) (1 : Int32) (4 : Int32) (by decide)) (argsL := [(.ref (n0 + 1)), (.int (2 : Int32)), (.ref (n0 + 0)), (.int (1 : Int32)), (.int (4 : Int32))]) (rest := []) rfl rfl rfl rfl (leb rfl) (leb rfl) (leb rfl) (leb rfl) (st' := [(.int (1 : Int32))]) rfl (k' := 2) rfl (n' := 7) rfl ?_
      refine H.ifF s0_182 (show ¬ (1 : Int32) = (0 : Int32) by decide) ?_
      refine H.aload s0_185 rfl rfl ?_
      refine H.iload s0_187 rfl ?_
      refine H.aload s0_189 rfl rfl ?_
      refine H.iload s0_191 rfl ?_
      refine H.iconst s0_193 (v := (5 : Int32)) (by decide) ?_
      refine H.callSD s0_194 (k_6 hw) (m_atT l hw n0 [.inr (.int, [(.int e0), (.int e1), (.int e2), (.int e3)]), .inr (.int, [(.int (own_c [(N0 + 1)] 0)), (.int (own_p [(N0 + 1)] 1)), (.int (own_p [(N0 + 1)] 2))])] 0 1 (2 : Int32) (1 : Int32) (5 : Int32) (by decide)) (argsL := [(.ref (n0 + 1)), (.int (2 : Int32)), (.ref (n0 + 0)), (.int (1 : Int32)), (.int (5 : Int32))]) (rest := []) rfl rfl rfl rfl (leb rfl) (leb rfl) (leb rfl) (leb rfl) (st' := [(.int (1 : Int32))]) rfl (k' := 2) rfl (n' := 7) rfl ?_
      refine H.ifF s0_197 (show ¬ (1 : Int32) = (0 : Int32) by decide) ?_
      refine H.iconst s0_200 (v := (1 : Int32)) (by decide) ?_
      refine H.goto s0_201 ?_
      exact H.ireturn s0_205 rfl (by simp) rfl rfl (by decide) (by decide)
    · refine H.irem s0_25 (by decide) (w := (2 : Int32)) hz25 ?_
      refine H.istore s0_26 (ls' := #[.val (.int p0), .val (.int p1), .val (.int p2), .val (.int p3), .val (.int p4), .val (.int p5), .val (.int (2 : Int32)), .val (.int (2 : Int32)), .unset, .unset]) rfl ?_
      refine H.iconst s0_28 (v := (4 : Int32)) (by decide) ?_
      refine H.newarray s0_29 (ty := .int) rfl (k_3 hw) (N := 4) (cap := 4) (by decide) rfl (by decide) (by decide) rfl (by decide) (by decide) (i := 0) rfl (A' := [.inr (.int, [(.int (0 : Int32)), (.int (0 : Int32)), (.int (0 : Int32)), (.int (0 : Int32))])]) rfl (k' := 1) rfl (n' := 4) rfl ?_
      refine H.astore s0_31 rfl (ls' := #[.val (.int p0), .val (.int p1), .val (.int p2), .val (.int p3), .val (.int p4), .val (.int p5), .val (.int (2 : Int32)), .val (.int (2 : Int32)), .val (.ref (n0 + 0)), .unset]) rfl ?_
      refine H.iload s0_33 rfl ?_
      refine H.ifF s0_35 (show (0 : Int32) < (2 : Int32) by decide) ?_
      refine H.aload s0_38 rfl rfl ?_
      refine H.iconst s0_40 (v := (0 : Int32)) (by decide) ?_
      refine H.iloadN s0_41 rfl ?_
      refine H.ldc s0_42 (k_2 hw) ?_
      refine H.iand s0_44 rfl ?_
      refine H.iload s0_45 rfl ?_
      obtain ⟨e0, he0⟩ : ∃ z, z = ((p0 &&& (2147483647 : Int32)) % (2 : Int32)) := ⟨_, rfl⟩
      obtain ⟨N0, hN0, lN0⟩ := own_N p0 2 2 (by decide) (by decide)
      rw [← he0] at hN0
      refine H.irem s0_47 (by decide) he0.symm ?_
      refine H.iastore s0_48 (i := 0) (j := 0) rfl (by decide) (ltb rfl)  (A' := [.inr (.int, [(.int e0), (.int (0 : Int32)), (.int (0 : Int32)), (.int (0 : Int32))])]) rfl ?_
      refine H.aload s0_49 rfl rfl ?_
      refine H.iconst s0_51 (v := (1 : Int32)) (by decide) ?_
      refine H.iloadN s0_52 rfl ?_
      refine H.ldc s0_53 (k_2 hw) ?_
      refine H.iand s0_55 rfl ?_
      refine H.iload s0_56 rfl ?_
      obtain ⟨e1, he1⟩ : ∃ z, z = ((p1 &&& (2147483647 : Int32)) % (2 : Int32)) := ⟨_, rfl⟩
      obtain ⟨N1, hN1, lN1⟩ := own_N p1 2 2 (by decide) (by decide)
      rw [← he1] at hN1
      refine H.irem s0_58 (by decide) he1.symm ?_
      refine H.iastore s0_59 (i := 0) (j := 1) rfl (by decide) (ltb rfl)  (A' := [.inr (.int, [(.int e0), (.int e1), (.int (0 : Int32)), (.int (0 : Int32))])]) rfl ?_
      refine H.aload s0_60 rfl rfl ?_
      refine H.iconst s0_62 (v := (2 : Int32)) (by decide) ?_
      refine H.iloadN s0_63 rfl ?_
      refine H.ldc s0_64 (k_2 hw) ?_
      refine H.iand s0_66 rfl ?_
      refine H.iload s0_67 rfl ?_
      obtain ⟨e2, he2⟩ : ∃ z, z = ((p2 &&& (2147483647 : Int32)) % (2 : Int32)) := ⟨_, rfl⟩
      obtain ⟨N2, hN2, lN2⟩ := own_N p2 2 2 (by decide) (by decide)
      rw [← he2] at hN2
      refine H.irem s0_69 (by decide) he2.symm ?_
      refine H.iastore s0_70 (i := 0) (j := 2) rfl (by decide) (ltb rfl)  (A' := [.inr (.int, [(.int e0), (.int e1), (.int e2), (.int (0 : Int32))])]) rfl ?_
      refine H.aload s0_71 rfl rfl ?_
      refine H.iconst s0_73 (v := (3 : Int32)) (by decide) ?_
      refine H.iloadN s0_74 rfl ?_
      refine H.ldc s0_75 (k_2 hw) ?_
      refine H.iand s0_77 rfl ?_
      refine H.iload s0_78 rfl ?_
      obtain ⟨e3, he3⟩ : ∃ z, z = ((p3 &&& (2147483647 : Int32)) % (2 : Int32)) := ⟨_, rfl⟩
      obtain ⟨N3, hN3, lN3⟩ := own_N p3 2 2 (by decide) (by decide)
      rw [← he3] at hN3
      refine H.irem s0_80 (by decide) he3.symm ?_
      refine H.iastore s0_81 (i := 0) (j := 3) rfl (by decide) (ltb rfl)  (A' := [.inr (.int, [(.int e0), (.int e1), (.int e2), (.int e3)])]) rfl ?_
      refine H.aload s0_82 rfl rfl ?_
      refine H.iload s0_84 rfl ?_
      refine H.iload s0_86 rfl ?_
      refine H.callSD s0_88 (k_5 hw) (a_8 l hw n0 e0 e1 e2 e3 hN0 lN0 hN1 lN1 hN2 lN2 hN3 lN3) (argsL := [(.ref (n0 + 0)), (.int (2 : Int32)), (.int (2 : Int32))]) (rest := []) rfl rfl rfl rfl (leb rfl) (leb rfl) (leb rfl) (leb rfl) (st' := [(.ref (n0 + 1))]) rfl (k' := 2) rfl (n' := 7) rfl ?_
      refine H.astore s0_91 rfl (ls' := #[.val (.int p0), .val (.int p1), .val (.int p2), .val (.int p3), .val (.int p4), .val (.int p5), .val (.int (2 : Int32)), .val (.int (2 : Int32)), .val (.ref (n0 + 0)), .val (.ref (n0 + 1))]) rfl ?_
      refine H.aload s0_93 rfl rfl ?_
      refine H.ifnullF s0_95 ?_
      refine H.aload s0_98 rfl rfl ?_
      refine H.arraylength s0_100 (i := 1) rfl (z := (3 : Int32)) rfl ?_
      refine H.iload s0_101 rfl ?_
      refine H.iconst s0_103 (v := (1 : Int32)) (by decide) ?_
      refine H.iadd s0_104 (w := (3 : Int32)) (by decide) ?_
      refine H.icmpT s0_105 (show (3 : Int32) = (3 : Int32) by decide) ?_
      refine H.aload s0_110 rfl rfl ?_
      refine H.iload s0_112 rfl ?_
      refine H.aload s0_114 rfl rfl ?_
      refine H.iload s0_116 rfl ?_
      refine H.iconst s0_118 (v := (0 : Int32)) (by decide) ?_
      refine H.callSD s0_119 (k_6 hw) (m_at2 l hw n0 [.inr (.int, [(.int e0), (.int e1), (.int e2), (.int e3)]), .inr (.int, [(.int (own_c [(N1 + 1), (N0 + 1)] 0)), (.int (own_p [(N1 + 1), (N0 + 1)] 1)), (.int (own_p [(N1 + 1), (N0 + 1)] 2))])] 0 1 _ e0 e1 e2 e3 (own_c [(N1 + 1), (N0 + 1)] 0) (0 : Int32) (2 : Int32) 0 rfl rfl (by decide) rfl (by decide) (own_main [(e1, N1), (e0, N0)] (faS hN1 (faS hN0 fa0)) (k := 0) (by decide))) (argsL := [(.ref (n0 + 1)), (.int (2 : Int32)), (.ref (n0 + 0)), (.int (2 : Int32)), (.int (0 : Int32))]) (rest := []) rfl rfl rfl rfl (leb rfl) (leb rfl) (leb rfl) (leb rfl) (st' := [(.int (1 : Int32))]) rfl (k' := 2) rfl (n' := 7) rfl ?_
      refine H.ifF s0_122 (show ¬ (1 : Int32) = (0 : Int32) by decide) ?_
      refine H.aload s0_125 rfl rfl ?_
      refine H.iload s0_127 rfl ?_
      refine H.aload s0_129 rfl rfl ?_
      refine H.iload s0_131 rfl ?_
      refine H.iconst s0_133 (v := (1 : Int32)) (by decide) ?_
      refine H.callSD s0_134 (k_6 hw) (m_at2 l hw n0 [.inr (.int, [(.int e0), (.int e1), (.int e2), (.int e3)]), .inr (.int, [(.int (own_c [(N1 + 1), (N0 + 1)] 0)), (.int (own_p [(N1 + 1), (N0 + 1)] 1)), (.int (own_p [(N1 + 1), (N0 + 1)] 2))])] 0 1 _ e0 e1 e2 e3 (own_p [(N1 + 1), (N0 + 1)] 1) (1 : Int32) (2 : Int32) 1 rfl rfl (by decide) rfl (by decide) (own_main [(e1, N1), (e0, N0)] (faS hN1 (faS hN0 fa0)) (k := 1) (by decide))) (argsL := [(.ref (n0 + 1)), (.int (2 : Int32)), (.ref (n0 + 0)), (.int (2 : Int32)), (.int (1 : Int32))]) (rest := []) rfl rfl rfl rfl (leb rfl) (leb rfl) (leb rfl) (leb rfl) (st' := [(.int (1 : Int32))]) rfl (k' := 2) rfl (n' := 7) rfl ?_
      refine H.ifF s0_137 (show ¬ (1 : Int32) = (0 : Int32) by decide) ?_
      refine H.aload s0_140 rfl rfl ?_
      refine H.iload s0_142 rfl ?_
      refine H.aload s0_144 rfl rfl ?_
      refine H.iload s0_146 rfl ?_
      refine H.iconst s0_148 (v := (2 : Int32)) (by decide) ?_
      refine H.callSD s0_149 (k_6 hw) (m_at2 l hw n0 [.inr (.int, [(.int e0), (.int e1), (.int e2), (.int e3)]), .inr (.int, [(.int (own_c [(N1 + 1), (N0 + 1)] 0)), (.int (own_p [(N1 + 1), (N0 + 1)] 1)), (.int (own_p [(N1 + 1), (N0 + 1)] 2))])] 0 1 _ e0 e1 e2 e3 (own_p [(N1 + 1), (N0 + 1)] 2) (2 : Int32) (2 : Int32) 2 rfl rfl (by decide) rfl (by decide) (own_main [(e1, N1), (e0, N0)] (faS hN1 (faS hN0 fa0)) (k := 2) (by decide))) (argsL := [(.ref (n0 + 1)), (.int (2 : Int32)), (.ref (n0 + 0)), (.int (2 : Int32)), (.int (2 : Int32))]) (rest := []) rfl rfl rfl rfl (leb rfl) (leb rfl) (leb rfl) (leb rfl) (st' := [(.int (1 : Int32))]) rfl (k' := 2) rfl (n' := 7) rfl ?_
      refine H.ifF s0_152 (show ¬ (1 : Int32) = (0 : Int32) by decide) ?_
      refine H.aload s0_155 rfl rfl ?_
      refine H.iload s0_157 rfl ?_
      refine H.aload s0_159 rfl rfl ?_
      refine H.iload s0_161 rfl ?_
      refine H.iconst s0_163 (v := (3 : Int32)) (by decide) ?_
      refine H.callSD s0_164 (k_6 hw) (m_atT l hw n0 [.inr (.int, [(.int e0), (.int e1), (.int e2), (.int e3)]), .inr (.int, [(.int (own_c [(N1 + 1), (N0 + 1)] 0)), (.int (own_p [(N1 + 1), (N0 + 1)] 1)), (.int (own_p [(N1 + 1), (N0 + 1)] 2))])] 0 1 (2 : Int32) (2 : Int32) (3 : Int32) (by decide)) (argsL := [(.ref (n0 + 1)), (.int (2 : Int32)), (.ref (n0 + 0)), (.int (2 : Int32)), (.int (3 : Int32))]) (rest := []) rfl rfl rfl rfl (leb rfl) (leb rfl) (leb rfl) (leb rfl) (st' := [(.int (1 : Int32))]) rfl (k' := 2) rfl (n' := 7) rfl ?_
      refine H.ifF s0_167 (show ¬ (1 : Int32) = (0 : Int32) by decide) ?_
      refine H.aload s0_170 rfl rfl ?_
      refine H.iload s0_172 rfl ?_
      refine H.aload s0_174 rfl rfl ?_
      refine H.iload s0_176 rfl ?_
      refine H.iconst s0_178 (v := (4 : Int32)) (by decide) ?_
      refine H.callSD s0_179 (k_6 hw) (m_atT l hw n0 [.inr (.int, [(.int e0), (.int e1), (.int e2), (.int e3)]), .inr (.int, [(.int (own_c [(N1 + 1), (N0 + 1)] 0)), (.int (own_p [(N1 + 1), (N0 + 1)] 1)), (.int (own_p [(N1 + 1), (N0 + 1)] 2))])] 0 1 (2 : Int32) (2 : Int32) (4 : Int32) (by decide)) (argsL := [(.ref (n0 + 1)), (.int (2 : Int32)), (.ref (n0 + 0)), (.int (2 : Int32)), (.int (4 : Int32))]) (rest := []) rfl rfl rfl rfl (leb rfl) (leb rfl) (leb rfl) (leb rfl) (st' := [(.int (1 : Int32))]) rfl (k' := 2) rfl (n' := 7) rfl ?_
      refine H.ifF s0_182 (show ¬ (1 : Int32) = (0 : Int32) by decide) ?_
      refine H.aload s0_185 rfl rfl ?_
      refine H.iload s0_187 rfl ?_
      refine H.aload s0_189 rfl rfl ?_
      refine H.iload s0_191 rfl ?_
      refine H.iconst s0_193 (v := (5 : Int32)) (by decide) ?_
      refine H.callSD s0_194 (k_6 hw) (m_atT l hw n0 [.inr (.int, [(.int e0), (.int e1), (.int e2), (.int e3)]), .inr (.int, [(.int (own_c [(N1 + 1), (N0 + 1)] 0)), (.int (own_p [(N1 + 1), (N0 + 1)] 1)), (.int (own_p [(N1 + 1), (N0 + 1)] 2))])] 0 1 (2 : Int32) (2 : Int32) (5 : Int32) (by decide)) (argsL := [(.ref (n0 + 1)), (.int (2 : Int32)), (.ref (n0 + 0)), (.int (2 : Int32)), (.int (5 : Int32))]) (rest := []) rfl rfl rfl rfl (leb rfl) (leb rfl) (leb rfl) (leb rfl) (st' := [(.int (1 : Int32))]) rfl (k' := 2) rfl (n' := 7) rfl ?_
      refine H.ifF s0_197 (show ¬ (1 : Int32) = (0 : Int32) by decide) ?_
      refine H.iconst s0_200 (v := (1 : Int32)) (by decide) ?_
      refine H.goto s0_201 ?_
      exact H.ireturn s0_205 rfl (by simp) rfl rfl (by decide) (by decide)
    · refine H.irem s0_25 (by decide) (w := (3 : Int32)) hz25 ?_
      refine H.istore s0_26 (ls' := #[.val (.int p0), .val (.int p1), .val (.int p2), .val (.int p3), .val (.int p4), .val (.int p5), .val (.int (2 : Int32)), .val (.int (3 : Int32)), .unset, .unset]) rfl ?_
      refine H.iconst s0_28 (v := (4 : Int32)) (by decide) ?_
      refine H.newarray s0_29 (ty := .int) rfl (k_3 hw) (N := 4) (cap := 4) (by decide) rfl (by decide) (by decide) rfl (by decide) (by decide) (i := 0) rfl (A' := [.inr (.int, [(.int (0 : Int32)), (.int (0 : Int32)), (.int (0 : Int32)), (.int (0 : Int32))])]) rfl (k' := 1) rfl (n' := 4) rfl ?_
      refine H.astore s0_31 rfl (ls' := #[.val (.int p0), .val (.int p1), .val (.int p2), .val (.int p3), .val (.int p4), .val (.int p5), .val (.int (2 : Int32)), .val (.int (3 : Int32)), .val (.ref (n0 + 0)), .unset]) rfl ?_
      refine H.iload s0_33 rfl ?_
      refine H.ifF s0_35 (show (0 : Int32) < (2 : Int32) by decide) ?_
      refine H.aload s0_38 rfl rfl ?_
      refine H.iconst s0_40 (v := (0 : Int32)) (by decide) ?_
      refine H.iloadN s0_41 rfl ?_
      refine H.ldc s0_42 (k_2 hw) ?_
      refine H.iand s0_44 rfl ?_
      refine H.iload s0_45 rfl ?_
      obtain ⟨e0, he0⟩ : ∃ z, z = ((p0 &&& (2147483647 : Int32)) % (2 : Int32)) := ⟨_, rfl⟩
      obtain ⟨N0, hN0, lN0⟩ := own_N p0 2 2 (by decide) (by decide)
      rw [← he0] at hN0
      refine H.irem s0_47 (by decide) he0.symm ?_
      refine H.iastore s0_48 (i := 0) (j := 0) rfl (by decide) (ltb rfl)  (A' := [.inr (.int, [(.int e0), (.int (0 : Int32)), (.int (0 : Int32)), (.int (0 : Int32))])]) rfl ?_
      refine H.aload s0_49 rfl rfl ?_
      refine H.iconst s0_51 (v := (1 : Int32)) (by decide) ?_
      refine H.iloadN s0_52 rfl ?_
      refine H.ldc s0_53 (k_2 hw) ?_
      refine H.iand s0_55 rfl ?_
      refine H.iload s0_56 rfl ?_
      obtain ⟨e1, he1⟩ : ∃ z, z = ((p1 &&& (2147483647 : Int32)) % (2 : Int32)) := ⟨_, rfl⟩
      obtain ⟨N1, hN1, lN1⟩ := own_N p1 2 2 (by decide) (by decide)
      rw [← he1] at hN1
      refine H.irem s0_58 (by decide) he1.symm ?_
      refine H.iastore s0_59 (i := 0) (j := 1) rfl (by decide) (ltb rfl)  (A' := [.inr (.int, [(.int e0), (.int e1), (.int (0 : Int32)), (.int (0 : Int32))])]) rfl ?_
      refine H.aload s0_60 rfl rfl ?_
      refine H.iconst s0_62 (v := (2 : Int32)) (by decide) ?_
      refine H.iloadN s0_63 rfl ?_
      refine H.ldc s0_64 (k_2 hw) ?_
      refine H.iand s0_66 rfl ?_
      refine H.iload s0_67 rfl ?_
      obtain ⟨e2, he2⟩ : ∃ z, z = ((p2 &&& (2147483647 : Int32)) % (2 : Int32)) := ⟨_, rfl⟩
      obtain ⟨N2, hN2, lN2⟩ := own_N p2 2 2 (by decide) (by decide)
      rw [← he2] at hN2
      refine H.irem s0_69 (by decide) he2.symm ?_
      refine H.iastore s0_70 (i := 0) (j := 2) rfl (by decide) (ltb rfl)  (A' := [.inr (.int, [(.int e0), (.int e1), (.int e2), (.int (0 : Int32))])]) rfl ?_
      refine H.aload s0_71 rfl rfl ?_
      refine H.iconst s0_73 (v := (3 : Int32)) (by decide) ?_
      refine H.iloadN s0_74 rfl ?_
      refine H.ldc s0_75 (k_2 hw) ?_
      refine H.iand s0_77 rfl ?_
      refine H.iload s0_78 rfl ?_
      obtain ⟨e3, he3⟩ : ∃ z, z = ((p3 &&& (2147483647 : Int32)) % (2 : Int32)) := ⟨_, rfl⟩
      obtain ⟨N3, hN3, lN3⟩ := own_N p3 2 2 (by decide) (by decide)
      rw [← he3] at hN3
      refine H.irem s0_80 (by decide) he3.symm ?_
      refine H.iastore s0_81 (i := 0) (j := 3) rfl (by decide) (ltb rfl)  (A' := [.inr (.int, [(.int e0), (.int e1), (.int e2), (.int e3)])]) rfl ?_
      refine H.aload s0_82 rfl rfl ?_
      refine H.iload s0_84 rfl ?_
      refine H.iload s0_86 rfl ?_
      refine H.callSD s0_88 (k_5 hw) (a_9 l hw n0 e0 e1 e2 e3 hN0 lN0 hN1 lN1 hN2 lN2 hN3 lN3) (argsL := [(.ref (n0 + 0)), (.int (3 : Int32)), (.int (2 : Int32))]) (rest := []) rfl rfl rfl rfl (leb rfl) (leb rfl) (leb rfl) (leb rfl) (st' := [(.ref (n0 + 1))]) rfl (k' := 2) rfl (n' := 7) rfl ?_
      refine H.astore s0_91 rfl (ls' := #[.val (.int p0), .val (.int p1), .val (.int p2), .val (.int p3), .val (.int p4), .val (.int p5), .val (.int (2 : Int32)), .val (.int (3 : Int32)), .val (.ref (n0 + 0)), .val (.ref (n0 + 1))]) rfl ?_
      refine H.aload s0_93 rfl rfl ?_
      refine H.ifnullF s0_95 ?_
      refine H.aload s0_98 rfl rfl ?_
      refine H.arraylength s0_100 (i := 1) rfl (z := (3 : Int32)) rfl ?_
      refine H.iload s0_101 rfl ?_
      refine H.iconst s0_103 (v := (1 : Int32)) (by decide) ?_
      refine H.iadd s0_104 (w := (3 : Int32)) (by decide) ?_
      refine H.icmpT s0_105 (show (3 : Int32) = (3 : Int32) by decide) ?_
      refine H.aload s0_110 rfl rfl ?_
      refine H.iload s0_112 rfl ?_
      refine H.aload s0_114 rfl rfl ?_
      refine H.iload s0_116 rfl ?_
      refine H.iconst s0_118 (v := (0 : Int32)) (by decide) ?_
      refine H.callSD s0_119 (k_6 hw) (m_at3 l hw n0 [.inr (.int, [(.int e0), (.int e1), (.int e2), (.int e3)]), .inr (.int, [(.int (own_c [(N2 + 1), (N1 + 1), (N0 + 1)] 0)), (.int (own_p [(N2 + 1), (N1 + 1), (N0 + 1)] 1)), (.int (own_p [(N2 + 1), (N1 + 1), (N0 + 1)] 2))])] 0 1 _ e0 e1 e2 e3 (own_c [(N2 + 1), (N1 + 1), (N0 + 1)] 0) (0 : Int32) (2 : Int32) 0 rfl rfl (by decide) rfl (by decide) (own_main [(e2, N2), (e1, N1), (e0, N0)] (faS hN2 (faS hN1 (faS hN0 fa0))) (k := 0) (by decide))) (argsL := [(.ref (n0 + 1)), (.int (2 : Int32)), (.ref (n0 + 0)), (.int (3 : Int32)), (.int (0 : Int32))]) (rest := []) rfl rfl rfl rfl (leb rfl) (leb rfl) (leb rfl) (leb rfl) (st' := [(.int (1 : Int32))]) rfl (k' := 2) rfl (n' := 7) rfl ?_
      refine H.ifF s0_122 (show ¬ (1 : Int32) = (0 : Int32) by decide) ?_
      refine H.aload s0_125 rfl rfl ?_
      refine H.iload s0_127 rfl ?_
      refine H.aload s0_129 rfl rfl ?_
      refine H.iload s0_131 rfl ?_
      refine H.iconst s0_133 (v := (1 : Int32)) (by decide) ?_
      refine H.callSD s0_134 (k_6 hw) (m_at3 l hw n0 [.inr (.int, [(.int e0), (.int e1), (.int e2), (.int e3)]), .inr (.int, [(.int (own_c [(N2 + 1), (N1 + 1), (N0 + 1)] 0)), (.int (own_p [(N2 + 1), (N1 + 1), (N0 + 1)] 1)), (.int (own_p [(N2 + 1), (N1 + 1), (N0 + 1)] 2))])] 0 1 _ e0 e1 e2 e3 (own_p [(N2 + 1), (N1 + 1), (N0 + 1)] 1) (1 : Int32) (2 : Int32) 1 rfl rfl (by decide) rfl (by decide) (own_main [(e2, N2), (e1, N1), (e0, N0)] (faS hN2 (faS hN1 (faS hN0 fa0))) (k := 1) (by decide))) (argsL := [(.ref (n0 + 1)), (.int (2 : Int32)), (.ref (n0 + 0)), (.int (3 : Int32)), (.int (1 : Int32))]) (rest := []) rfl rfl rfl rfl (leb rfl) (leb rfl) (leb rfl) (leb rfl) (st' := [(.int (1 : Int32))]) rfl (k' := 2) rfl (n' := 7) rfl ?_
      refine H.ifF s0_137 (show ¬ (1 : Int32) = (0 : Int32) by decide) ?_
      refine H.aload s0_140 rfl rfl ?_
      refine H.iload s0_142 rfl ?_
      refine H.aload s0_144 rfl rfl ?_
      refine H.iload s0_146 rfl ?_
      refine H.iconst s0_148 (v := (2 : Int32)) (by decide) ?_
      refine H.callSD s0_149 (k_6 hw) (m_at3 l hw n0 [.inr (.int, [(.int e0), (.int e1), (.int e2), (.int e3)]), .inr (.int, [(.int (own_c [(N2 + 1), (N1 + 1), (N0 + 1)] 0)), (.int (own_p [(N2 + 1), (N1 + 1), (N0 + 1)] 1)), (.int (own_p [(N2 + 1), (N1 + 1), (N0 + 1)] 2))])] 0 1 _ e0 e1 e2 e3 (own_p [(N2 + 1), (N1 + 1), (N0 + 1)] 2) (2 : Int32) (2 : Int32) 2 rfl rfl (by decide) rfl (by decide) (own_main [(e2, N2), (e1, N1), (e0, N0)] (faS hN2 (faS hN1 (faS hN0 fa0))) (k := 2) (by decide))) (argsL := [(.ref (n0 + 1)), (.int (2 : Int32)), (.ref (n0 + 0)), (.int (3 : Int32)), (.int (2 : Int32))]) (rest := []) rfl rfl rfl rfl (leb rfl) (leb rfl) (leb rfl) (leb rfl) (st' := [(.int (1 : Int32))]) rfl (k' := 2) rfl (n' := 7) rfl ?_
      refine H.ifF s0_152 (show ¬ (1 : Int32) = (0 : Int32) by decide) ?_
      refine H.aload s0_155 rfl rfl ?_
      refine H.iload s0_157 rfl ?_
      refine H.aload s0_159 rfl rfl ?_
      refine H.iload s0_161 rfl ?_
      refine H.iconst s0_163 (v := (3 : Int32)) (by decide) ?_
      refine H.callSD s0_164 (k_6 hw) (m_atT l hw n0 [.inr (.int, [(.int e0), (.int e1), (.int e2), (.int e3)]), .inr (.int, [(.int (own_c [(N2 + 1), (N1 + 1), (N0 + 1)] 0)), (.int (own_p [(N2 + 1), (N1 + 1), (N0 + 1)] 1)), (.int (own_p [(N2 + 1), (N1 + 1), (N0 + 1)] 2))])] 0 1 (2 : Int32) (3 : Int32) (3 : Int32) (by decide)) (argsL := [(.ref (n0 + 1)), (.int (2 : Int32)), (.ref (n0 + 0)), (.int (3 : Int32)), (.int (3 : Int32))]) (rest := []) rfl rfl rfl rfl (leb rfl) (leb rfl) (leb rfl) (leb rfl) (st' := [(.int (1 : Int32))]) rfl (k' := 2) rfl (n' := 7) rfl ?_
      refine H.ifF s0_167 (show ¬ (1 : Int32) = (0 : Int32) by decide) ?_
      refine H.aload s0_170 rfl rfl ?_
      refine H.iload s0_172 rfl ?_
      refine H.aload s0_174 rfl rfl ?_
      refine H.iload s0_176 rfl ?_
      refine H.iconst s0_178 (v := (4 : Int32)) (by decide) ?_
      refine H.callSD s0_179 (k_6 hw) (m_atT l hw n0 [.inr (.int, [(.int e0), (.int e1), (.int e2), (.int e3)]), .inr (.int, [(.int (own_c [(N2 + 1), (N1 + 1), (N0 + 1)] 0)), (.int (own_p [(N2 + 1), (N1 + 1), (N0 + 1)] 1)), (.int (own_p [(N2 + 1), (N1 + 1), (N0 + 1)] 2))])] 0 1 (2 : Int32) (3 : Int32) (4 : Int32) (by decide)) (argsL := [(.ref (n0 + 1)), (.int (2 : Int32)), (.ref (n0 + 0)), (.int (3 : Int32)), (.int (4 : Int32))]) (rest := []) rfl rfl rfl rfl (leb rfl) (leb rfl) (leb rfl) (leb rfl) (st' := [(.int (1 : Int32))]) rfl (k' := 2) rfl (n' := 7) rfl ?_
      refine H.ifF s0_182 (show ¬ (1 : Int32) = (0 : Int32) by decide) ?_
      refine H.aload s0_185 rfl rfl ?_
      refine H.iload s0_187 rfl ?_
      refine H.aload s0_189 rfl rfl ?_
      refine H.iload s0_191 rfl ?_
      refine H.iconst s0_193 (v := (5 : Int32)) (by decide) ?_
      refine H.callSD s0_194 (k_6 hw) (m_atT l hw n0 [.inr (.int, [(.int e0), (.int e1), (.int e2), (.int e3)]), .inr (.int, [(.int (own_c [(N2 + 1), (N1 + 1), (N0 + 1)] 0)), (.int (own_p [(N2 + 1), (N1 + 1), (N0 + 1)] 1)), (.int (own_p [(N2 + 1), (N1 + 1), (N0 + 1)] 2))])] 0 1 (2 : Int32) (3 : Int32) (5 : Int32) (by decide)) (argsL := [(.ref (n0 + 1)), (.int (2 : Int32)), (.ref (n0 + 0)), (.int (3 : Int32)), (.int (5 : Int32))]) (rest := []) rfl rfl rfl rfl (leb rfl) (leb rfl) (leb rfl) (leb rfl) (st' := [(.int (1 : Int32))]) rfl (k' := 2) rfl (n' := 7) rfl ?_
      refine H.ifF s0_197 (show ¬ (1 : Int32) = (0 : Int32) by decide) ?_
      refine H.iconst s0_200 (v := (1 : Int32)) (by decide) ?_
      refine H.goto s0_201 ?_
      exact H.ireturn s0_205 rfl (by simp) rfl rfl (by decide) (by decide)
    · refine H.irem s0_25 (by decide) (w := (4 : Int32)) hz25 ?_
      refine H.istore s0_26 (ls' := #[.val (.int p0), .val (.int p1), .val (.int p2), .val (.int p3), .val (.int p4), .val (.int p5), .val (.int (2 : Int32)), .val (.int (4 : Int32)), .unset, .unset]) rfl ?_
      refine H.iconst s0_28 (v := (4 : Int32)) (by decide) ?_
      refine H.newarray s0_29 (ty := .int) rfl (k_3 hw) (N := 4) (cap := 4) (by decide) rfl (by decide) (by decide) rfl (by decide) (by decide) (i := 0) rfl (A' := [.inr (.int, [(.int (0 : Int32)), (.int (0 : Int32)), (.int (0 : Int32)), (.int (0 : Int32))])]) rfl (k' := 1) rfl (n' := 4) rfl ?_
      refine H.astore s0_31 rfl (ls' := #[.val (.int p0), .val (.int p1), .val (.int p2), .val (.int p3), .val (.int p4), .val (.int p5), .val (.int (2 : Int32)), .val (.int (4 : Int32)), .val (.ref (n0 + 0)), .unset]) rfl ?_
      refine H.iload s0_33 rfl ?_
      refine H.ifF s0_35 (show (0 : Int32) < (2 : Int32) by decide) ?_
      refine H.aload s0_38 rfl rfl ?_
      refine H.iconst s0_40 (v := (0 : Int32)) (by decide) ?_
      refine H.iloadN s0_41 rfl ?_
      refine H.ldc s0_42 (k_2 hw) ?_
      refine H.iand s0_44 rfl ?_
      refine H.iload s0_45 rfl ?_
      obtain ⟨e0, he0⟩ : ∃ z, z = ((p0 &&& (2147483647 : Int32)) % (2 : Int32)) := ⟨_, rfl⟩
      obtain ⟨N0, hN0, lN0⟩ := own_N p0 2 2 (by decide) (by decide)
      rw [← he0] at hN0
      refine H.irem s0_47 (by decide) he0.symm ?_
      refine H.iastore s0_48 (i := 0) (j := 0) rfl (by decide) (ltb rfl)  (A' := [.inr (.int, [(.int e0), (.int (0 : Int32)), (.int (0 : Int32)), (.int (0 : Int32))])]) rfl ?_
      refine H.aload s0_49 rfl rfl ?_
      refine H.iconst s0_51 (v := (1 : Int32)) (by decide) ?_
      refine H.iloadN s0_52 rfl ?_
      refine H.ldc s0_53 (k_2 hw) ?_
      refine H.iand s0_55 rfl ?_
      refine H.iload s0_56 rfl ?_
      obtain ⟨e1, he1⟩ : ∃ z, z = ((p1 &&& (2147483647 : Int32)) % (2 : Int32)) := ⟨_, rfl⟩
      obtain ⟨N1, hN1, lN1⟩ := own_N p1 2 2 (by decide) (by decide)
      rw [← he1] at hN1
      refine H.irem s0_58 (by decide) he1.symm ?_
      refine H.iastore s0_59 (i := 0) (j := 1) rfl (by decide) (ltb rfl)  (A' := [.inr (.int, [(.int e0), (.int e1), (.int (0 : Int32)), (.int (0 : Int32))])]) rfl ?_
      refine H.aload s0_60 rfl rfl ?_
      refine H.iconst s0_62 (v := (2 : Int32)) (by decide) ?_
      refine H.iloadN s0_63 rfl ?_
      refine H.ldc s0_64 (k_2 hw) ?_
      refine H.iand s0_66 rfl ?_
      refine H.iload s0_67 rfl ?_
      obtain ⟨e2, he2⟩ : ∃ z, z = ((p2 &&& (2147483647 : Int32)) % (2 : Int32)) := ⟨_, rfl⟩
      obtain ⟨N2, hN2, lN2⟩ := own_N p2 2 2 (by decide) (by decide)
      rw [← he2] at hN2
      refine H.irem s0_69 (by decide) he2.symm ?_
      refine H.iastore s0_70 (i := 0) (j := 2) rfl (by decide) (ltb rfl)  (A' := [.inr (.int, [(.int e0), (.int e1), (.int e2), (.int (0 : Int32))])]) rfl ?_
      refine H.aload s0_71 rfl rfl ?_
      refine H.iconst s0_73 (v := (3 : Int32)) (by decide) ?_
      refine H.iloadN s0_74 rfl ?_
      refine H.ldc s0_75 (k_2 hw) ?_
      refine H.iand s0_77 rfl ?_
      refine H.iload s0_78 rfl ?_
      obtain ⟨e3, he3⟩ : ∃ z, z = ((p3 &&& (2147483647 : Int32)) % (2 : Int32)) := ⟨_, rfl⟩
      obtain ⟨N3, hN3, lN3⟩ := own_N p3 2 2 (by decide) (by decide)
      rw [← he3] at hN3
      refine H.irem s0_80 (by decide) he3.symm ?_
      refine H.iastore s0_81 (i := 0) (j := 3) rfl (by decide) (ltb rfl)  (A' := [.inr (.int, [(.int e0), (.int e1), (.int e2), (.int e3)])]) rfl ?_
      refine H.aload s0_82 rfl rfl ?_
      refine H.iload s0_84 rfl ?_
      refine H.iload s0_86 rfl ?_
      refine H.callSD s0_88 (k_5 hw) (a_10 l hw n0 e0 e1 e2 e3 hN0 lN0 hN1 lN1 hN2 lN2 hN3 lN3) (argsL := [(.ref (n0 + 0)), (.int (4 : Int32)), (.int (2 : Int32))]) (rest := []) rfl rfl rfl rfl (leb rfl) (leb rfl) (leb rfl) (leb rfl) (st' := [(.ref (n0 + 1))]) rfl (k' := 2) rfl (n' := 7) rfl ?_
      refine H.astore s0_91 rfl (ls' := #[.val (.int p0), .val (.int p1), .val (.int p2), .val (.int p3), .val (.int p4), .val (.int p5), .val (.int (2 : Int32)), .val (.int (4 : Int32)), .val (.ref (n0 + 0)), .val (.ref (n0 + 1))]) rfl ?_
      refine H.aload s0_93 rfl rfl ?_
      refine H.ifnullF s0_95 ?_
      refine H.aload s0_98 rfl rfl ?_
      refine H.arraylength s0_100 (i := 1) rfl (z := (3 : Int32)) rfl ?_
      refine H.iload s0_101 rfl ?_
      refine H.iconst s0_103 (v := (1 : Int32)) (by decide) ?_
      refine H.iadd s0_104 (w := (3 : Int32)) (by decide) ?_
      refine H.icmpT s0_105 (show (3 : Int32) = (3 : Int32) by decide) ?_
      refine H.aload s0_110 rfl rfl ?_
      refine H.iload s0_112 rfl ?_
      refine H.aload s0_114 rfl rfl ?_
      refine H.iload s0_116 rfl ?_
      refine H.iconst s0_118 (v := (0 : Int32)) (by decide) ?_
      refine H.callSD s0_119 (k_6 hw) (m_at4 l hw n0 [.inr (.int, [(.int e0), (.int e1), (.int e2), (.int e3)]), .inr (.int, [(.int (own_c [(N3 + 1), (N2 + 1), (N1 + 1), (N0 + 1)] 0)), (.int (own_p [(N3 + 1), (N2 + 1), (N1 + 1), (N0 + 1)] 1)), (.int (own_p [(N3 + 1), (N2 + 1), (N1 + 1), (N0 + 1)] 2))])] 0 1 _ e0 e1 e2 e3 (own_c [(N3 + 1), (N2 + 1), (N1 + 1), (N0 + 1)] 0) (0 : Int32) (2 : Int32) 0 rfl rfl (by decide) rfl (by decide) (own_main [(e3, N3), (e2, N2), (e1, N1), (e0, N0)] (faS hN3 (faS hN2 (faS hN1 (faS hN0 fa0)))) (k := 0) (by decide))) (argsL := [(.ref (n0 + 1)), (.int (2 : Int32)), (.ref (n0 + 0)), (.int (4 : Int32)), (.int (0 : Int32))]) (rest := []) rfl rfl rfl rfl (leb rfl) (leb rfl) (leb rfl) (leb rfl) (st' := [(.int (1 : Int32))]) rfl (k' := 2) rfl (n' := 7) rfl ?_
      refine H.ifF s0_122 (show ¬ (1 : Int32) = (0 : Int32) by decide) ?_
      refine H.aload s0_125 rfl rfl ?_
      refine H.iload s0_127 rfl ?_
      refine H.aload s0_129 rfl rfl ?_
      refine H.iload s0_131 rfl ?_
      refine H.iconst s0_133 (v := (1 : Int32)) (by decide) ?_
      refine H.callSD s0_134 (k_6 hw) (m_at4 l hw n0 [.inr (.int, [(.int e0), (.int e1), (.int e2), (.int e3)]), .inr (.int, [(.int (own_c [(N3 + 1), (N2 + 1), (N1 + 1), (N0 + 1)] 0)), (.int (own_p [(N3 + 1), (N2 + 1), (N1 + 1), (N0 + 1)] 1)), (.int (own_p [(N3 + 1), (N2 + 1), (N1 + 1), (N0 + 1)] 2))])] 0 1 _ e0 e1 e2 e3 (own_p [(N3 + 1), (N2 + 1), (N1 + 1), (N0 + 1)] 1) (1 : Int32) (2 : Int32) 1 rfl rfl (by decide) rfl (by decide) (own_main [(e3, N3), (e2, N2), (e1, N1), (e0, N0)] (faS hN3 (faS hN2 (faS hN1 (faS hN0 fa0)))) (k := 1) (by decide))) (argsL := [(.ref (n0 + 1)), (.int (2 : Int32)), (.ref (n0 + 0)), (.int (4 : Int32)), (.int (1 : Int32))]) (rest := []) rfl rfl rfl rfl (leb rfl) (leb rfl) (leb rfl) (leb rfl) (st' := [(.int (1 : Int32))]) rfl (k' := 2) rfl (n' := 7) rfl ?_
      refine H.ifF s0_137 (show ¬ (1 : Int32) = (0 : Int32) by decide) ?_
      refine H.aload s0_140 rfl rfl ?_
      refine H.iload s0_142 rfl ?_
      refine H.aload s0_144 rfl rfl ?_
      refine H.iload s0_146 rfl ?_
      refine H.iconst s0_148 (v := (2 : Int32)) (by decide) ?_
      refine H.callSD s0_149 (k_6 hw) (m_at4 l hw n0 [.inr (.int, [(.int e0), (.int e1), (.int e2), (.int e3)]), .inr (.int, [(.int (own_c [(N3 + 1), (N2 + 1), (N1 + 1), (N0 + 1)] 0)), (.int (own_p [(N3 + 1), (N2 + 1), (N1 + 1), (N0 + 1)] 1)), (.int (own_p [(N3 + 1), (N2 + 1), (N1 + 1), (N0 + 1)] 2))])] 0 1 _ e0 e1 e2 e3 (own_p [(N3 + 1), (N2 + 1), (N1 + 1), (N0 + 1)] 2) (2 : Int32) (2 : Int32) 2 rfl rfl (by decide) rfl (by decide) (own_main [(e3, N3), (e2, N2), (e1, N1), (e0, N0)] (faS hN3 (faS hN2 (faS hN1 (faS hN0 fa0)))) (k := 2) (by decide))) (argsL := [(.ref (n0 + 1)), (.int (2 : Int32)), (.ref (n0 + 0)), (.int (4 : Int32)), (.int (2 : Int32))]) (rest := []) rfl rfl rfl rfl (leb rfl) (leb rfl) (leb rfl) (leb rfl) (st' := [(.int (1 : Int32))]) rfl (k' := 2) rfl (n' := 7) rfl ?_
      refine H.ifF s0_152 (show ¬ (1 : Int32) = (0 : Int32) by decide) ?_
      refine H.aload s0_155 rfl rfl ?_
      refine H.iload s0_157 rfl ?_
      refine H.aload s0_159 rfl rfl ?_
      refine H.iload s0_161 rfl ?_
      refine H.iconst s0_163 (v := (3 : Int32)) (by decide) ?_
      refine H.callSD s0_164 (k_6 hw) (m_atT l hw n0 [.inr (.int, [(.int e0), (.int e1), (.int e2), (.int e3)]), .inr (.int, [(.int (own_c [(N3 + 1), (N2 + 1), (N1 + 1), (N0 + 1)] 0)), (.int (own_p [(N3 + 1), (N2 + 1), (N1 + 1), (N0 + 1)] 1)), (.int (own_p [(N3 + 1), (N2 + 1), (N1 + 1), (N0 + 1)] 2))])] 0 1 (2 : Int32) (4 : Int32) (3 : Int32) (by decide)) (argsL := [(.ref (n0 + 1)), (.int (2 : Int32)), (.ref (n0 + 0)), (.int (4 : Int32)), (.int (3 : Int32))]) (rest := []) rfl rfl rfl rfl (leb rfl) (leb rfl) (leb rfl) (leb rfl) (st' := [(.int (1 : Int32))]) rfl (k' := 2) rfl (n' := 7) rfl ?_
      refine H.ifF s0_167 (show ¬ (1 : Int32) = (0 : Int32) by decide) ?_
      refine H.aload s0_170 rfl rfl ?_
      refine H.iload s0_172 rfl ?_
      refine H.aload s0_174 rfl rfl ?_
      refine H.iload s0_176 rfl ?_
      refine H.iconst s0_178 (v := (4 : Int32)) (by decide) ?_
      refine H.callSD s0_179 (k_6 hw) (m_atT l hw n0 [.inr (.int, [(.int e0), (.int e1), (.int e2), (.int e3)]), .inr (.int, [(.int (own_c [(N3 + 1), (N2 + 1), (N1 + 1), (N0 + 1)] 0)), (.int (own_p [(N3 + 1), (N2 + 1), (N1 + 1), (N0 + 1)] 1)), (.int (own_p [(N3 + 1), (N2 + 1), (N1 + 1), (N0 + 1)] 2))])] 0 1 (2 : Int32) (4 : Int32) (4 : Int32) (by decide)) (argsL := [(.ref (n0 + 1)), (.int (2 : Int32)), (.ref (n0 + 0)), (.int (4 : Int32)), (.int (4 : Int32))]) (rest := []) rfl rfl rfl rfl (leb rfl) (leb rfl) (leb rfl) (leb rfl) (st' := [(.int (1 : Int32))]) rfl (k' := 2) rfl (n' := 7) rfl ?_
      refine H.ifF s0_182 (show ¬ (1 : Int32) = (0 : Int32) by decide) ?_
      refine H.aload s0_185 rfl rfl ?_
      refine H.iload s0_187 rfl ?_
      refine H.aload s0_189 rfl rfl ?_
      refine H.iload s0_191 rfl ?_
      refine H.iconst s0_193 (v := (5 : Int32)) (by decide) ?_
      refine H.callSD s0_194 (k_6 hw) (m_atT l hw n0 [.inr (.int, [(.int e0), (.int e1), (.int e2), (.int e3)]), .inr (.int, [(.int (own_c [(N3 + 1), (N2 + 1), (N1 + 1), (N0 + 1)] 0)), (.int (own_p [(N3 + 1), (N2 + 1), (N1 + 1), (N0 + 1)] 1)), (.int (own_p [(N3 + 1), (N2 + 1), (N1 + 1), (N0 + 1)] 2))])] 0 1 (2 : Int32) (4 : Int32) (5 : Int32) (by decide)) (argsL := [(.ref (n0 + 1)), (.int (2 : Int32)), (.ref (n0 + 0)), (.int (4 : Int32)), (.int (5 : Int32))]) (rest := []) rfl rfl rfl rfl (leb rfl) (leb rfl) (leb rfl) (leb rfl) (st' := [(.int (1 : Int32))]) rfl (k' := 2) rfl (n' := 7) rfl ?_
      refine H.ifF s0_197 (show ¬ (1 : Int32) = (0 : Int32) by decide) ?_
      refine H.iconst s0_200 (v := (1 : Int32)) (by decide) ?_
      refine H.goto s0_201 ?_
      exact H.ireturn s0_205 rfl (by simp) rfl rfl (by decide) (by decide)
  · refine H.irem s0_7 (by decide) (w := (3 : Int32)) hz7 ?_
    refine H.istore s0_8 (ls' := #[.val (.int p0), .val (.int p1), .val (.int p2), .val (.int p3), .val (.int p4), .val (.int p5), .val (.int (3 : Int32)), .unset, .unset, .unset]) rfl ?_
    refine H.iload s0_10 rfl ?_
    refine H.ifT s0_12 (show ¬ (3 : Int32) = (0 : Int32) by decide) ?_
    refine H.iload s0_19 rfl ?_
    refine H.ldc s0_21 (k_2 hw) ?_
    refine H.iand s0_23 rfl ?_
    refine H.iconst s0_24 (v := (5 : Int32)) (by decide) ?_
    rcases own_rem5 p5 with hz25 | hz25 | hz25 | hz25 | hz25
    · refine H.irem s0_25 (by decide) (w := (0 : Int32)) hz25 ?_
      refine H.istore s0_26 (ls' := #[.val (.int p0), .val (.int p1), .val (.int p2), .val (.int p3), .val (.int p4), .val (.int p5), .val (.int (3 : Int32)), .val (.int (0 : Int32)), .unset, .unset]) rfl ?_
      refine H.iconst s0_28 (v := (4 : Int32)) (by decide) ?_
      refine H.newarray s0_29 (ty := .int) rfl (k_3 hw) (N := 4) (cap := 4) (by decide) rfl (by decide) (by decide) rfl (by decide) (by decide) (i := 0) rfl (A' := [.inr (.int, [(.int (0 : Int32)), (.int (0 : Int32)), (.int (0 : Int32)), (.int (0 : Int32))])]) rfl (k' := 1) rfl (n' := 4) rfl ?_
      refine H.astore s0_31 rfl (ls' := #[.val (.int p0), .val (.int p1), .val (.int p2), .val (.int p3), .val (.int p4), .val (.int p5), .val (.int (3 : Int32)), .val (.int (0 : Int32)), .val (.ref (n0 + 0)), .unset]) rfl ?_
      refine H.iload s0_33 rfl ?_
      refine H.ifF s0_35 (show (0 : Int32) < (3 : Int32) by decide) ?_
      refine H.aload s0_38 rfl rfl ?_
      refine H.iconst s0_40 (v := (0 : Int32)) (by decide) ?_
      refine H.iloadN s0_41 rfl ?_
      refine H.ldc s0_42 (k_2 hw) ?_
      refine H.iand s0_44 rfl ?_
      refine H.iload s0_45 rfl ?_
      obtain ⟨e0, he0⟩ : ∃ z, z = ((p0 &&& (2147483647 : Int32)) % (3 : Int32)) := ⟨_, rfl⟩
      obtain ⟨N0, hN0, lN0⟩ := own_N p0 3 3 (by decide) (by decide)
      rw [← he0] at hN0
      refine H.irem s0_47 (by decide) he0.symm ?_
      refine H.iastore s0_48 (i := 0) (j := 0) rfl (by decide) (ltb rfl)  (A' := [.inr (.int, [(.int e0), (.int (0 : Int32)), (.int (0 : Int32)), (.int (0 : Int32))])]) rfl ?_
      refine H.aload s0_49 rfl rfl ?_
      refine H.iconst s0_51 (v := (1 : Int32)) (by decide) ?_
      refine H.iloadN s0_52 rfl ?_
      refine H.ldc s0_53 (k_2 hw) ?_
      refine H.iand s0_55 rfl ?_
      refine H.iload s0_56 rfl ?_
      obtain ⟨e1, he1⟩ : ∃ z, z = ((p1 &&& (2147483647 : Int32)) % (3 : Int32)) := ⟨_, rfl⟩
      obtain ⟨N1, hN1, lN1⟩ := own_N p1 3 3 (by decide) (by decide)
      rw [← he1] at hN1
      refine H.irem s0_58 (by decide) he1.symm ?_
      refine H.iastore s0_59 (i := 0) (j := 1) rfl (by decide) (ltb rfl)  (A' := [.inr (.int, [(.int e0), (.int e1), (.int (0 : Int32)), (.int (0 : Int32))])]) rfl ?_
      refine H.aload s0_60 rfl rfl ?_
      refine H.iconst s0_62 (v := (2 : Int32)) (by decide) ?_
      refine H.iloadN s0_63 rfl ?_
      refine H.ldc s0_64 (k_2 hw) ?_
      refine H.iand s0_66 rfl ?_
      refine H.iload s0_67 rfl ?_
      obtain ⟨e2, he2⟩ : ∃ z, z = ((p2 &&& (2147483647 : Int32)) % (3 : Int32)) := ⟨_, rfl⟩
      obtain ⟨N2, hN2, lN2⟩ := own_N p2 3 3 (by decide) (by decide)
      rw [← he2] at hN2
      refine H.irem s0_69 (by decide) he2.symm ?_
      refine H.iastore s0_70 (i := 0) (j := 2) rfl (by decide) (ltb rfl)  (A' := [.inr (.int, [(.int e0), (.int e1), (.int e2), (.int (0 : Int32))])]) rfl ?_
      refine H.aload s0_71 rfl rfl ?_
      refine H.iconst s0_73 (v := (3 : Int32)) (by decide) ?_
      refine H.iloadN s0_74 rfl ?_
      refine H.ldc s0_75 (k_2 hw) ?_
      refine H.iand s0_77 rfl ?_
      refine H.iload s0_78 rfl ?_
      obtain ⟨e3, he3⟩ : ∃ z, z = ((p3 &&& (2147483647 : Int32)) % (3 : Int32)) := ⟨_, rfl⟩
      obtain ⟨N3, hN3, lN3⟩ := own_N p3 3 3 (by decide) (by decide)
      rw [← he3] at hN3
      refine H.irem s0_80 (by decide) he3.symm ?_
      refine H.iastore s0_81 (i := 0) (j := 3) rfl (by decide) (ltb rfl)  (A' := [.inr (.int, [(.int e0), (.int e1), (.int e2), (.int e3)])]) rfl ?_
      refine H.aload s0_82 rfl rfl ?_
      refine H.iload s0_84 rfl ?_
      refine H.iload s0_86 rfl ?_
      refine H.callSD s0_88 (k_5 hw) (a_11 l hw n0 e0 e1 e2 e3 hN0 lN0 hN1 lN1 hN2 lN2 hN3 lN3) (argsL := [(.ref (n0 + 0)), (.int (0 : Int32)), (.int (3 : Int32))]) (rest := []) rfl rfl rfl rfl (leb rfl) (leb rfl) (leb rfl) (leb rfl) (st' := [(.ref (n0 + 1))]) rfl (k' := 2) rfl (n' := 8) rfl ?_
      refine H.astore s0_91 rfl (ls' := #[.val (.int p0), .val (.int p1), .val (.int p2), .val (.int p3), .val (.int p4), .val (.int p5), .val (.int (3 : Int32)), .val (.int (0 : Int32)), .val (.ref (n0 + 0)), .val (.ref (n0 + 1))]) rfl ?_
      refine H.aload s0_93 rfl rfl ?_
      refine H.ifnullF s0_95 ?_
      refine H.aload s0_98 rfl rfl ?_
      refine H.arraylength s0_100 (i := 1) rfl (z := (4 : Int32)) rfl ?_
      refine H.iload s0_101 rfl ?_
      refine H.iconst s0_103 (v := (1 : Int32)) (by decide) ?_
      refine H.iadd s0_104 (w := (4 : Int32)) (by decide) ?_
      refine H.icmpT s0_105 (show (4 : Int32) = (4 : Int32) by decide) ?_
      refine H.aload s0_110 rfl rfl ?_
      refine H.iload s0_112 rfl ?_
      refine H.aload s0_114 rfl rfl ?_
      refine H.iload s0_116 rfl ?_
      refine H.iconst s0_118 (v := (0 : Int32)) (by decide) ?_
      refine H.callSD s0_119 (k_6 hw) (m_at0 l hw n0 [.inr (.int, [(.int e0), (.int e1), (.int e2), (.int e3)]), .inr (.int, [(.int (0 : Int32)), (.int (0 : Int32)), (.int (0 : Int32)), (.int (0 : Int32))])] 0 1 _ e0 e1 e2 e3 (0 : Int32) (0 : Int32) (3 : Int32) 0 rfl rfl (by decide) rfl (by decide) rfl) (argsL := [(.ref (n0 + 1)), (.int (3 : Int32)), (.ref (n0 + 0)), (.int (0 : Int32)), (.int (0 : Int32))]) (rest := []) rfl rfl rfl rfl (leb rfl) (leb rfl) (leb rfl) (leb rfl) (st' := [(.int (1 : Int32))]) rfl (k' := 2) rfl (n' := 8) rfl ?_
      refine H.ifF s0_122 (show ¬ (1 : Int32) = (0 : Int32) by decide) ?_
      refine H.aload s0_125 rfl rfl ?_
      refine H.iload s0_127 rfl ?_
      refine H.aload s0_129 rfl rfl ?_
      refine H.iload s0_131 rfl ?_
      refine H.iconst s0_133 (v := (1 : Int32)) (by decide) ?_
      refine H.callSD s0_134 (k_6 hw) (m_at0 l hw n0 [.inr (.int, [(.int e0), (.int e1), (.int e2), (.int e3)]), .inr (.int, [(.int (0 : Int32)), (.int (0 : Int32)), (.int (0 : Int32)), (.int (0 : Int32))])] 0 1 _ e0 e1 e2 e3 (0 : Int32) (1 : Int32) (3 : Int32) 1 rfl rfl (by decide) rfl (by decide) rfl) (argsL := [(.ref (n0 + 1)), (.int (3 : Int32)), (.ref (n0 + 0)), (.int (0 : Int32)), (.int (1 : Int32))]) (rest := []) rfl rfl rfl rfl (leb rfl) (leb rfl) (leb rfl) (leb rfl) (st' := [(.int (1 : Int32))]) rfl (k' := 2) rfl (n' := 8) rfl ?_
      refine H.ifF s0_137 (show ¬ (1 : Int32) = (0 : Int32) by decide) ?_
      refine H.aload s0_140 rfl rfl ?_
      refine H.iload s0_142 rfl ?_
      refine H.aload s0_144 rfl rfl ?_
      refine H.iload s0_146 rfl ?_
      refine H.iconst s0_148 (v := (2 : Int32)) (by decide) ?_
      refine H.callSD s0_149 (k_6 hw) (m_at0 l hw n0 [.inr (.int, [(.int e0), (.int e1), (.int e2), (.int e3)]), .inr (.int, [(.int (0 : Int32)), (.int (0 : Int32)), (.int (0 : Int32)), (.int (0 : Int32))])] 0 1 _ e0 e1 e2 e3 (0 : Int32) (2 : Int32) (3 : Int32) 2 rfl rfl (by decide) rfl (by decide) rfl) (argsL := [(.ref (n0 + 1)), (.int (3 : Int32)), (.ref (n0 + 0)), (.int (0 : Int32)), (.int (2 : Int32))]) (rest := []) rfl rfl rfl rfl (leb rfl) (leb rfl) (leb rfl) (leb rfl) (st' := [(.int (1 : Int32))]) rfl (k' := 2) rfl (n' := 8) rfl ?_
      refine H.ifF s0_152 (show ¬ (1 : Int32) = (0 : Int32) by decide) ?_
      refine H.aload s0_155 rfl rfl ?_
      refine H.iload s0_157 rfl ?_
      refine H.aload s0_159 rfl rfl ?_
      refine H.iload s0_161 rfl ?_
      refine H.iconst s0_163 (v := (3 : Int32)) (by decide) ?_
      refine H.callSD s0_164 (k_6 hw) (m_at0 l hw n0 [.inr (.int, [(.int e0), (.int e1), (.int e2), (.int e3)]), .inr (.int, [(.int (0 : Int32)), (.int (0 : Int32)), (.int (0 : Int32)), (.int (0 : Int32))])] 0 1 _ e0 e1 e2 e3 (0 : Int32) (3 : Int32) (3 : Int32) 3 rfl rfl (by decide) rfl (by decide) rfl) (argsL := [(.ref (n0 + 1)), (.int (3 : Int32)), (.ref (n0 + 0)), (.int (0 : Int32)), (.int (3 : Int32))]) (rest := []) rfl rfl rfl rfl (leb rfl) (leb rfl) (leb rfl) (leb rfl) (st' := [(.int (1 : Int32))]) rfl (k' := 2) rfl (n' := 8) rfl ?_
      refine H.ifF s0_167 (show ¬ (1 : Int32) = (0 : Int32) by decide) ?_
      refine H.aload s0_170 rfl rfl ?_
      refine H.iload s0_172 rfl ?_
      refine H.aload s0_174 rfl rfl ?_
      refine H.iload s0_176 rfl ?_
      refine H.iconst s0_178 (v := (4 : Int32)) (by decide) ?_
      refine H.callSD s0_179 (k_6 hw) (m_atT l hw n0 [.inr (.int, [(.int e0), (.int e1), (.int e2), (.int e3)]), .inr (.int, [(.int (0 : Int32)), (.int (0 : Int32)), (.int (0 : Int32)), (.int (0 : Int32))])] 0 1 (3 : Int32) (0 : Int32) (4 : Int32) (by decide)) (argsL := [(.ref (n0 + 1)), (.int (3 : Int32)), (.ref (n0 + 0)), (.int (0 : Int32)), (.int (4 : Int32))]) (rest := []) rfl rfl rfl rfl (leb rfl) (leb rfl) (leb rfl) (leb rfl) (st' := [(.int (1 : Int32))]) rfl (k' := 2) rfl (n' := 8) rfl ?_
      refine H.ifF s0_182 (show ¬ (1 : Int32) = (0 : Int32) by decide) ?_
      refine H.aload s0_185 rfl rfl ?_
      refine H.iload s0_187 rfl ?_
      refine H.aload s0_189 rfl rfl ?_
      refine H.iload s0_191 rfl ?_
      refine H.iconst s0_193 (v := (5 : Int32)) (by decide) ?_
      refine H.callSD s0_194 (k_6 hw) (m_atT l hw n0 [.inr (.int, [(.int e0), (.int e1), (.int e2), (.int e3)]), .inr (.int, [(.int (0 : Int32)), (.int (0 : Int32)), (.int (0 : Int32)), (.int (0 : Int32))])] 0 1 (3 : Int32) (0 : Int32) (5 : Int32) (by decide)) (argsL := [(.ref (n0 + 1)), (.int (3 : Int32)), (.ref (n0 + 0)), (.int (0 : Int32)), (.int (5 : Int32))]) (rest := []) rfl rfl rfl rfl (leb rfl) (leb rfl) (leb rfl) (leb rfl) (st' := [(.int (1 : Int32))]) rfl (k' := 2) rfl (n' := 8) rfl ?_
      refine H.ifF s0_197 (show ¬ (1 : Int32) = (0 : Int32) by decide) ?_
      refine H.iconst s0_200 (v := (1 : Int32)) (by decide) ?_
      refine H.goto s0_201 ?_
      exact H.ireturn s0_205 rfl (by simp) rfl rfl (by decide) (by decide)
    · refine H.irem s0_25 (by decide) (w := (1 : Int32)) hz25 ?_
      refine H.istore s0_26 (ls' := #[.val (.int p0), .val (.int p1), .val (.int p2), .val (.int p3), .val (.int p4), .val (.int p5), .val (.int (3 : Int32)), .val (.int (1 : Int32)), .unset, .unset]) rfl ?_
      refine H.iconst s0_28 (v := (4 : Int32)) (by decide) ?_
      refine H.newarray s0_29 (ty := .int) rfl (k_3 hw) (N := 4) (cap := 4) (by decide) rfl (by decide) (by decide) rfl (by decide) (by decide) (i := 0) rfl (A' := [.inr (.int, [(.int (0 : Int32)), (.int (0 : Int32)), (.int (0 : Int32)), (.int (0 : Int32))])]) rfl (k' := 1) rfl (n' := 4) rfl ?_
      refine H.astore s0_31 rfl (ls' := #[.val (.int p0), .val (.int p1), .val (.int p2), .val (.int p3), .val (.int p4), .val (.int p5), .val (.int (3 : Int32)), .val (.int (1 : Int32)), .val (.ref (n0 + 0)), .unset]) rfl ?_
      refine H.iload s0_33 rfl ?_
      refine H.ifF s0_35 (show (0 : Int32) < (3 : Int32) by decide) ?_
      refine H.aload s0_38 rfl rfl ?_
      refine H.iconst s0_40 (v := (0 : Int32)) (by decide) ?_
      refine H.iloadN s0_41 rfl ?_
      refine H.ldc s0_42 (k_2 hw) ?_
      refine H.iand s0_44 rfl ?_
      refine H.iload s0_45 rfl ?_
      obtain ⟨e0, he0⟩ : ∃ z, z = ((p0 &&& (2147483647 : Int32)) % (3 : Int32)) := ⟨_, rfl⟩
      obtain ⟨N0, hN0, lN0⟩ := own_N p0 3 3 (by decide) (by decide)
      rw [← he0] at hN0
      refine H.irem s0_47 (by decide) he0.symm ?_
      refine H.iastore s0_48 (i := 0) (j := 0) rfl (by decide) (ltb rfl)  (A' := [.inr (.int, [(.int e0), (.int (0 : Int32)), (.int (0 : Int32)), (.int (0 : Int32))])]) rfl ?_
      refine H.aload s0_49 rfl rfl ?_
      refine H.iconst s0_51 (v := (1 : Int32)) (by decide) ?_
      refine H.iloadN s0_52 rfl ?_
      refine H.ldc s0_53 (k_2 hw) ?_
      refine H.iand s0_55 rfl ?_
      refine H.iload s0_56 rfl ?_
      obtain ⟨e1, he1⟩ : ∃ z, z = ((p1 &&& (2147483647 : Int32)) % (3 : Int32)) := ⟨_, rfl⟩
      obtain ⟨N1, hN1, lN1⟩ := own_N p1 3 3 (by decide) (by decide)
      rw [← he1] at hN1
      refine H.irem s0_58 (by decide) he1.symm ?_
      refine H.iastore s0_59 (i := 0) (j := 1) rfl (by decide) (ltb rfl)  (A' := [.inr (.int, [(.int e0), (.int e1), (.int (0 : Int32)), (.int (0 : Int32))])]) rfl ?_
      refine H.aload s0_60 rfl rfl ?_
      refine H.iconst s0_62 (v := (2 : Int32)) (by decide) ?_
      refine H.iloadN s0_63 rfl ?_
      refine H.ldc s0_64 (k_2 hw) ?_
      refine H.iand s0_66 rfl ?_
      refine H.iload s0_67 rfl ?_
      obtain ⟨e2, he2⟩ : ∃ z, z = ((p2 &&& (2147483647 : Int32)) % (3 : Int32)) := ⟨_, rfl⟩
      obtain ⟨N2, hN2, lN2⟩ := own_N p2 3 3 (by decide) (by decide)
      rw [← he2] at hN2
      refine H.irem s0_69 (by decide) he2.symm ?_
      refine H.iastore s0_70 (i := 0) (j := 2) rfl (by decide) (ltb rfl)  (A' := [.inr (.int, [(.int e0), (.int e1), (.int e2), (.int (0 : Int32))])]) rfl ?_
      refine H.aload s0_71 rfl rfl ?_
      refine H.iconst s0_73 (v := (3 : Int32)) (by decide) ?_
      refine H.iloadN s0_74 rfl ?_
      refine H.ldc s0_75 (k_2 hw) ?_
      refine H.iand s0_77 rfl ?_
      refine H.iload s0_78 rfl ?_
      obtain ⟨e3, he3⟩ : ∃ z, z = ((p3 &&& (2147483647 : Int32)) % (3 : Int32)) := ⟨_, rfl⟩
      obtain ⟨N3, hN3, lN3⟩ := own_N p3 3 3 (by decide) (by decide)
      rw [← he3] at hN3
      refine H.irem s0_80 (by decide) he3.symm ?_
      refine H.iastore s0_81 (i := 0) (j := 3) rfl (by decide) (ltb rfl)  (A' := [.inr (.int, [(.int e0), (.int e1), (.int e2), (.int e3)])]) rfl ?_
      refine H.aload s0_82 rfl rfl ?_
      refine H.iload s0_84 rfl ?_
      refine H.iload s0_86 rfl ?_
      refine H.callSD s0_88 (k_5 hw) (a_12 l hw n0 e0 e1 e2 e3 hN0 lN0 hN1 lN1 hN2 lN2 hN3 lN3) (argsL := [(.ref (n0 + 0)), (.int (1 : Int32)), (.int (3 : Int32))]) (rest := []) rfl rfl rfl rfl (leb rfl) (leb rfl) (leb rfl) (leb rfl) (st' := [(.ref (n0 + 1))]) rfl (k' := 2) rfl (n' := 8) rfl ?_
      refine H.astore s0_91 rfl (ls' := #[.val (.int p0), .val (.int p1), .val (.int p2), .val (.int p3), .val (.int p4), .val (.int p5), .val (.int (3 : Int32)), .val (.int (1 : Int32)), .val (.ref (n0 + 0)), .val (.ref (n0 + 1))]) rfl ?_
      refine H.aload s0_93 rfl rfl ?_
      refine H.ifnullF s0_95 ?_
      refine H.aload s0_98 rfl rfl ?_
      refine H.arraylength s0_100 (i := 1) rfl (z := (4 : Int32)) rfl ?_
      refine H.iload s0_101 rfl ?_
      refine H.iconst s0_103 (v := (1 : Int32)) (by decide) ?_
      refine H.iadd s0_104 (w := (4 : Int32)) (by decide) ?_
      refine H.icmpT s0_105 (show (4 : Int32) = (4 : Int32) by decide) ?_
      refine H.aload s0_110 rfl rfl ?_
      refine H.iload s0_112 rfl ?_
      refine H.aload s0_114 rfl rfl ?_
      refine H.iload s0_116 rfl ?_
      refine H.iconst s0_118 (v := (0 : Int32)) (by decide) ?_
      refine H.callSD s0_119 (k_6 hw) (m_at1 l hw n0 [.inr (.int, [(.int e0), (.int e1), (.int e2), (.int e3)]), .inr (.int, [(.int (own_c [(N0 + 1)] 0)), (.int (own_p [(N0 + 1)] 1)), (.int (own_p [(N0 + 1)] 2)), (.int (own_p [(N0 + 1)] 3))])] 0 1 _ e0 e1 e2 e3 (own_c [(N0 + 1)] 0) (0 : Int32) (3 : Int32) 0 rfl rfl (by decide) rfl (by decide) (own_main [(e0, N0)] (faS hN0 fa0) (k := 0) (by decide))) (argsL := [(.ref (n0 + 1)), (.int (3 : Int32)), (.ref (n0 + 0)), (.int (1 : Int32)), (.int (0 : Int32))]) (rest := []) rfl rfl rfl rfl (leb rfl) (leb rfl) (leb rfl) (leb rfl) (st' := [(.int (1 : Int32))]) rfl (k' := 2) rfl (n' := 8) rfl ?_
      refine H.ifF s0_122 (show ¬ (1 : Int32) = (0 : Int32) by decide) ?_
      refine H.aload s0_125 rfl rfl ?_
      refine H.iload s0_127 rfl ?_
      refine H.aload s0_129 rfl rfl ?_
      refine H.iload s0_131 rfl ?_
      refine H.iconst s0_133 (v := (1 : Int32)) (by decide) ?_
      refine H.callSD s0_134 (k_6 hw) (m_at1 l hw n0 [.inr (.int, [(.int e0), (.int e1), (.int e2), (.int e3)]), .inr (.int, [(.int (own_c [(N0 + 1)] 0)), (.int (own_p [(N0 + 1)] 1)), (.int (own_p [(N0 + 1)] 2)), (.int (own_p [(N0 + 1)] 3))])] 0 1 _ e0 e1 e2 e3 (own_p [(N0 + 1)] 1) (1 : Int32) (3 : Int32) 1 rfl rfl (by decide) rfl (by decide) (own_main [(e0, N0)] (faS hN0 fa0) (k := 1) (by decide))) (argsL := [(.ref (n0 + 1)), (.int (3 : Int32)), (.ref (n0 + 0)), (.int (1 : Int32)), (.int (1 : Int32))]) (rest := []) rfl rfl rfl rfl (leb rfl) (leb rfl) (leb rfl) (leb rfl) (st' := [(.int (1 : Int32))]) rfl (k' := 2) rfl (n' := 8) rfl ?_
      refine H.ifF s0_137 (show ¬ (1 : Int32) = (0 : Int32) by decide) ?_
      refine H.aload s0_140 rfl rfl ?_
      refine H.iload s0_142 rfl ?_
      refine H.aload s0_144 rfl rfl ?_
      refine H.iload s0_146 rfl ?_
      refine H.iconst s0_148 (v := (2 : Int32)) (by decide) ?_
      refine H.callSD s0_149 (k_6 hw) (m_at1 l hw n0 [.inr (.int, [(.int e0), (.int e1), (.int e2), (.int e3)]), .inr (.int, [(.int (own_c [(N0 + 1)] 0)), (.int (own_p [(N0 + 1)] 1)), (.int (own_p [(N0 + 1)] 2)), (.int (own_p [(N0 + 1)] 3))])] 0 1 _ e0 e1 e2 e3 (own_p [(N0 + 1)] 2) (2 : Int32) (3 : Int32) 2 rfl rfl (by decide) rfl (by decide) (own_main [(e0, N0)] (faS hN0 fa0) (k := 2) (by decide))) (argsL := [(.ref (n0 + 1)), (.int (3 : Int32)), (.ref (n0 + 0)), (.int (1 : Int32)), (.int (2 : Int32))]) (rest := []) rfl rfl rfl rfl (leb rfl) (leb rfl) (leb rfl) (leb rfl) (st' := [(.int (1 : Int32))]) rfl (k' := 2) rfl (n' := 8) rfl ?_
      refine H.ifF s0_152 (show ¬ (1 : Int32) = (0 : Int32) by decide) ?_
      refine H.aload s0_155 rfl rfl ?_
      refine H.iload s0_157 rfl ?_
      refine H.aload s0_159 rfl rfl ?_
      refine H.iload s0_161 rfl ?_
      refine H.iconst s0_163 (v := (3 : Int32)) (by decide) ?_
      refine H.callSD s0_164 (k_6 hw) (m_at1 l hw n0 [.inr (.int, [(.int e0), (.int e1), (.int e2), (.int e3)]), .inr (.int, [(.int (own_c [(N0 + 1)] 0)), (.int (own_p [(N0 + 1)] 1)), (.int (own_p [(N0 + 1)] 2)), (.int (own_p [(N0 + 1)] 3))])] 0 1 _ e0 e1 e2 e3 (own_p [(N0 + 1)] 3) (3 : Int32) (3 : Int32) 3 rfl rfl (by decide) rfl (by decide) (own_main [(e0, N0)] (faS hN0 fa0) (k := 3) (by decide))) (argsL := [(.ref (n0 + 1)), (.int (3 : Int32)), (.ref (n0 + 0)), (.int (1 : Int32)), (.int (3 : Int32))]) (rest := []) rfl rfl rfl rfl (leb rfl) (leb rfl) (leb rfl) (leb rfl) (st' := [(.int (1 : Int32))]) rfl (k' := 2) rfl (n' := 8) rfl ?_
      refine H.ifF s0_167 (show ¬ (1 : Int32) = (0 : Int32) by decide) ?_
      refine H.aload s0_170 rfl rfl ?_
      refine H.iload s0_172 rfl ?_
      refine H.aload s0_174 rfl rfl ?_
      refine H.iload s0_176 rfl ?_
      refine H.iconst s0_178 (v := (4 : Int32)) (by decide) ?_
      refine H.callSD s0_179 (k_6 hw) (m_atT l hw n0 [.inr (.int, [(.int e0), (.int e1), (.int e2), (.int e3)]), .inr (.int, [(.int (own_c [(N0 + 1)] 0)), (.int (own_p [(N0 + 1)] 1)), (.int (own_p [(N0 + 1)] 2)), (.int (own_p [(N0 + 1)] 3))])] 0 1 (3 : Int32) (1 : Int32) (4 : Int32) (by decide)) (argsL := [(.ref (n0 + 1)), (.int (3 : Int32)), (.ref (n0 + 0)), (.int (1 : Int32)), (.int (4 : Int32))]) (rest := []) rfl rfl rfl rfl (leb rfl) (leb rfl) (leb rfl) (leb rfl) (st' := [(.int (1 : Int32))]) rfl (k' := 2) rfl (n' := 8) rfl ?_
      refine H.ifF s0_182 (show ¬ (1 : Int32) = (0 : Int32) by decide) ?_
      refine H.aload s0_185 rfl rfl ?_
      refine H.iload s0_187 rfl ?_
      refine H.aload s0_189 rfl rfl ?_
      refine H.iload s0_191 rfl ?_
      refine H.iconst s0_193 (v := (5 : Int32)) (by decide) ?_
      refine H.callSD s0_194 (k_6 hw) (m_atT l hw n0 [.inr (.int, [(.int e0), (.int e1), (.int e2), (.int e3)]), .inr (.int, [(.int (own_c [(N0 + 1)] 0)), (.int (own_p [(N0 + 1)] 1)), (.int (own_p [(N0 + 1)] 2)), (.int (own_p [(N0 + 1)] 3))])] 0 1 (3 : Int32) (1 : Int32) (5 : Int32) (by decide)) (argsL := [(.ref (n0 + 1)), (.int (3 : Int32)), (.ref (n0 + 0)), (.int (1 : Int32)), (.int (5 : Int32))]) (rest := []) rfl rfl rfl rfl (leb rfl) (leb rfl) (leb rfl) (leb rfl) (st' := [(.int (1 : Int32))]) rfl (k' := 2) rfl (n' := 8) rfl ?_
      refine H.ifF s0_197 (show ¬ (1 : Int32) = (0 : Int32) by decide) ?_
      refine H.iconst s0_200 (v := (1 : Int32)) (by decide) ?_
      refine H.goto s0_201 ?_
      exact H.ireturn s0_205 rfl (by simp) rfl rfl (by decide) (by decide)
    · refine H.irem s0_25 (by decide) (w := (2 : Int32)) hz25 ?_
      refine H.istore s0_26 (ls' := #[.val (.int p0), .val (.int p1), .val (.int p2), .val (.int p3), .val (.int p4), .val (.int p5), .val (.int (3 : Int32)), .val (.int (2 : Int32)), .unset, .unset]) rfl ?_
      refine H.iconst s0_28 (v := (4 : Int32)) (by decide) ?_
      refine H.newarray s0_29 (ty := .int) rfl (k_3 hw) (N := 4) (cap := 4) (by decide) rfl (by decide) (by decide) rfl (by decide) (by decide) (i := 0) rfl (A' := [.inr (.int, [(.int (0 : Int32)), (.int (0 : Int32)), (.int (0 : Int32)), (.int (0 : Int32))])]) rfl (k' := 1) rfl (n' := 4) rfl ?_
      refine H.astore s0_31 rfl (ls' := #[.val (.int p0), .val (.int p1), .val (.int p2), .val (.int p3), .val (.int p4), .val (.int p5), .val (.int (3 : Int32)), .val (.int (2 : Int32)), .val (.ref (n0 + 0)), .unset]) rfl ?_
      refine H.iload s0_33 rfl ?_
      refine H.ifF s0_35 (show (0 : Int32) < (3 : Int32) by decide) ?_
      refine H.aload s0_38 rfl rfl ?_
      refine H.iconst s0_40 (v := (0 : Int32)) (by decide) ?_
      refine H.iloadN s0_41 rfl ?_
      refine H.ldc s0_42 (k_2 hw) ?_
      refine H.iand s0_44 rfl ?_
      refine H.iload s0_45 rfl ?_
      obtain ⟨e0, he0⟩ : ∃ z, z = ((p0 &&& (2147483647 : Int32)) % (3 : Int32)) := ⟨_, rfl⟩
      obtain ⟨N0, hN0, lN0⟩ := own_N p0 3 3 (by decide) (by decide)
      rw [← he0] at hN0
      refine H.irem s0_47 (by decide) he0.symm ?_
      refine H.iastore s0_48 (i := 0) (j := 0) rfl (by decide) (ltb rfl)  (A' := [.inr (.int, [(.int e0), (.int (0 : Int32)), (.int (0 : Int32)), (.int (0 : Int32))])]) rfl ?_
      refine H.aload s0_49 rfl rfl ?_
      refine H.iconst s0_51 (v := (1 : Int32)) (by decide) ?_
      refine H.iloadN s0_52 rfl ?_
      refine H.ldc s0_53 (k_2 hw) ?_
      refine H.iand s0_55 rfl ?_
      refine H.iload s0_56 rfl ?_
      obtain ⟨e1, he1⟩ : ∃ z, z = ((p1 &&& (2147483647 : Int32)) % (3 : Int32)) := ⟨_, rfl⟩
      obtain ⟨N1, hN1, lN1⟩ := own_N p1 3 3 (by decide) (by decide)
      rw [← he1] at hN1
      refine H.irem s0_58 (by decide) he1.symm ?_
      refine H.iastore s0_59 (i := 0) (j := 1) rfl (by decide) (ltb rfl)  (A' := [.inr (.int, [(.int e0), (.int e1), (.int (0 : Int32)), (.int (0 : Int32))])]) rfl ?_
      refine H.aload s0_60 rfl rfl ?_
      refine H.iconst s0_62 (v := (2 : Int32)) (by decide) ?_
      refine H.iloadN s0_63 rfl ?_
      refine H.ldc s0_64 (k_2 hw) ?_
      refine H.iand s0_66 rfl ?_
      refine H.iload s0_67 rfl ?_
      obtain ⟨e2, he2⟩ : ∃ z, z = ((p2 &&& (2147483647 : Int32)) % (3 : Int32)) := ⟨_, rfl⟩
      obtain ⟨N2, hN2, lN2⟩ := own_N p2 3 3 (by decide) (by decide)
      rw [← he2] at hN2
      refine H.irem s0_69 (by decide) he2.symm ?_
      refine H.iastore s0_70 (i := 0) (j := 2) rfl (by decide) (ltb rfl)  (A' := [.inr (.int, [(.int e0), (.int e1), (.int e2), (.int (0 : Int32))])]) rfl ?_
      refine H.aload s0_71 rfl rfl ?_
      refine H.iconst s0_73 (v := (3 : Int32)) (by decide) ?_
      refine H.iloadN s0_74 rfl ?_
      refine H.ldc s0_75 (k_2 hw) ?_
      refine H.iand s0_77 rfl ?_
      refine H.iload s0_78 rfl ?_
      obtain ⟨e3, he3⟩ : ∃ z, z = ((p3 &&& (2147483647 : Int32)) % (3 : Int32)) := ⟨_, rfl⟩
      obtain ⟨N3, hN3, lN3⟩ := own_N p3 3 3 (by decide) (by decide)
      rw [← he3] at hN3
      refine H.irem s0_80 (by decide) he3.symm ?_
      refine H.iastore s0_81 (i := 0) (j := 3) rfl (by decide) (ltb rfl)  (A' := [.inr (.int, [(.int e0), (.int e1), (.int e2), (.int e3)])]) rfl ?_
      refine H.aload s0_82 rfl rfl ?_
      refine H.iload s0_84 rfl ?_
      refine H.iload s0_86 rfl ?_
      refine H.callSD s0_88 (k_5 hw) (a_13 l hw n0 e0 e1 e2 e3 hN0 lN0 hN1 lN1 hN2 lN2 hN3 lN3) (argsL := [(.ref (n0 + 0)), (.int (2 : Int32)), (.int (3 : Int32))]) (rest := []) rfl rfl rfl rfl (leb rfl) (leb rfl) (leb rfl) (leb rfl) (st' := [(.ref (n0 + 1))]) rfl (k' := 2) rfl (n' := 8) rfl ?_
      refine H.astore s0_91 rfl (ls' := #[.val (.int p0), .val (.int p1), .val (.int p2), .val (.int p3), .val (.int p4), .val (.int p5), .val (.int (3 : Int32)), .val (.int (2 : Int32)), .val (.ref (n0 + 0)), .val (.ref (n0 + 1))]) rfl ?_
      refine H.aload s0_93 rfl rfl ?_
      refine H.ifnullF s0_95 ?_
      refine H.aload s0_98 rfl rfl ?_
      refine H.arraylength s0_100 (i := 1) rfl (z := (4 : Int32)) rfl ?_
      refine H.iload s0_101 rfl ?_
      refine H.iconst s0_103 (v := (1 : Int32)) (by decide) ?_
      refine H.iadd s0_104 (w := (4 : Int32)) (by decide) ?_
      refine H.icmpT s0_105 (show (4 : Int32) = (4 : Int32) by decide) ?_
      refine H.aload s0_110 rfl rfl ?_
      refine H.iload s0_112 rfl ?_
      refine H.aload s0_114 rfl rfl ?_
      refine H.iload s0_116 rfl ?_
      refine H.iconst s0_118 (v := (0 : Int32)) (by decide) ?_
      refine H.callSD s0_119 (k_6 hw) (m_at2 l hw n0 [.inr (.int, [(.int e0), (.int e1), (.int e2), (.int e3)]), .inr (.int, [(.int (own_c [(N1 + 1), (N0 + 1)] 0)), (.int (own_p [(N1 + 1), (N0 + 1)] 1)), (.int (own_p [(N1 + 1), (N0 + 1)] 2)), (.int (own_p [(N1 + 1), (N0 + 1)] 3))])] 0 1 _ e0 e1 e2 e3 (own_c [(N1 + 1), (N0 + 1)] 0) (0 : Int32) (3 : Int32) 0 rfl rfl (by decide) rfl (by decide) (own_main [(e1, N1), (e0, N0)] (faS hN1 (faS hN0 fa0)) (k := 0) (by decide))) (argsL := [(.ref (n0 + 1)), (.int (3 : Int32)), (.ref (n0 + 0)), (.int (2 : Int32)), (.int (0 : Int32))]) (rest := []) rfl rfl rfl rfl (leb rfl) (leb rfl) (leb rfl) (leb rfl) (st' := [(.int (1 : Int32))]) rfl (k' := 2) rfl (n' := 8) rfl ?_
      refine H.ifF s0_122 (show ¬ (1 : Int32) = (0 : Int32) by decide) ?_
      refine H.aload s0_125 rfl rfl ?_
      refine H.iload s0_127 rfl ?_
      refine H.aload s0_129 rfl rfl ?_
      refine H.iload s0_131 rfl ?_
      refine H.iconst s0_133 (v := (1 : Int32)) (by decide) ?_
      refine H.callSD s0_134 (k_6 hw) (m_at2 l hw n0 [.inr (.int, [(.int e0), (.int e1), (.int e2), (.int e3)]), .inr (.int, [(.int (own_c [(N1 + 1), (N0 + 1)] 0)), (.int (own_p [(N1 + 1), (N0 + 1)] 1)), (.int (own_p [(N1 + 1), (N0 + 1)] 2)), (.int (own_p [(N1 + 1), (N0 + 1)] 3))])] 0 1 _ e0 e1 e2 e3 (own_p [(N1 + 1), (N0 + 1)] 1) (1 : Int32) (3 : Int32) 1 rfl rfl (by decide) rfl (by decide) (own_main [(e1, N1), (e0, N0)] (faS hN1 (faS hN0 fa0)) (k := 1) (by decide))) (argsL := [(.ref (n0 + 1)), (.int (3 : Int32)), (.ref (n0 + 0)), (.int (2 : Int32)), (.int (1 : Int32))]) (rest := []) rfl rfl rfl rfl (leb rfl) (leb rfl) (leb rfl) (leb rfl) (st' := [(.int (1 : Int32))]) rfl (k' := 2) rfl (n' := 8) rfl ?_
      refine H.ifF s0_137 (show ¬ (1 : Int32) = (0 : Int32) by decide) ?_
      refine H.aload s0_140 rfl rfl ?_
      refine H.iload s0_142 rfl ?_
      refine H.aload s0_144 rfl rfl ?_
      refine H.iload s0_146 rfl ?_
      refine H.iconst s0_148 (v := (2 : Int32)) (by decide) ?_
      refine H.callSD s0_149 (k_6 hw) (m_at2 l hw n0 [.inr (.int, [(.int e0), (.int e1), (.int e2), (.int e3)]), .inr (.int, [(.int (own_c [(N1 + 1), (N0 + 1)] 0)), (.int (own_p [(N1 + 1), (N0 + 1)] 1)), (.int (own_p [(N1 + 1), (N0 + 1)] 2)), (.int (own_p [(N1 + 1), (N0 + 1)] 3))])] 0 1 _ e0 e1 e2 e3 (own_p [(N1 + 1), (N0 + 1)] 2) (2 : Int32) (3 : Int32) 2 rfl rfl (by decide) rfl (by decide) (own_main [(e1, N1), (e0, N0)] (faS hN1 (faS hN0 fa0)) (k := 2) (by decide))) (argsL := [(.ref (n0 + 1)), (.int (3 : Int32)), (.ref (n0 + 0)), (.int (2 : Int32)), (.int (2 : Int32))]) (rest := []) rfl rfl rfl rfl (leb rfl) (leb rfl) (leb rfl) (leb rfl) (st' := [(.int (1 : Int32))]) rfl (k' := 2) rfl (n' := 8) rfl ?_
      refine H.ifF s0_152 (show ¬ (1 : Int32) = (0 : Int32) by decide) ?_
      refine H.aload s0_155 rfl rfl ?_
      refine H.iload s0_157 rfl ?_
      refine H.aload s0_159 rfl rfl ?_
      refine H.iload s0_161 rfl ?_
      refine H.iconst s0_163 (v := (3 : Int32)) (by decide) ?_
      refine H.callSD s0_164 (k_6 hw) (m_at2 l hw n0 [.inr (.int, [(.int e0), (.int e1), (.int e2), (.int e3)]), .inr (.int, [(.int (own_c [(N1 + 1), (N0 + 1)] 0)), (.int (own_p [(N1 + 1), (N0 + 1)] 1)), (.int (own_p [(N1 + 1), (N0 + 1)] 2)), (.int (own_p [(N1 + 1), (N0 + 1)] 3))])] 0 1 _ e0 e1 e2 e3 (own_p [(N1 + 1), (N0 + 1)] 3) (3 : Int32) (3 : Int32) 3 rfl rfl (by decide) rfl (by decide) (own_main [(e1, N1), (e0, N0)] (faS hN1 (faS hN0 fa0)) (k := 3) (by decide))) (argsL := [(.ref (n0 + 1)), (.int (3 : Int32)), (.ref (n0 + 0)), (.int (2 : Int32)), (.int (3 : Int32))]) (rest := []) rfl rfl rfl rfl (leb rfl) (leb rfl) (leb rfl) (leb rfl) (st' := [(.int (1 : Int32))]) rfl (k' := 2) rfl (n' := 8) rfl ?_
      refine H.ifF s0_167 (show ¬ (1 : Int32) = (0 : Int32) by decide) ?_
      refine H.aload s0_170 rfl rfl ?_
      refine H.iload s0_172 rfl ?_
      refine H.aload s0_174 rfl rfl ?_
      refine H.iload s0_176 rfl ?_
      refine H.iconst s0_178 (v := (4 : Int32)) (by decide) ?_
      refine H.callSD s0_179 (k_6 hw) (m_atT l hw n0 [.inr (.int, [(.int e0), (.int e1), (.int e2), (.int e3)]), .inr (.int, [(.int (own_c [(N1 + 1), (N0 + 1)] 0)), (.int (own_p [(N1 + 1), (N0 + 1)] 1)), (.int (own_p [(N1 + 1), (N0 + 1)] 2)), (.int (own_p [(N1 + 1), (N0 + 1)] 3))])] 0 1 (3 : Int32) (2 : Int32) (4 : Int32) (by decide)) (argsL := [(.ref (n0 + 1)), (.int (3 : Int32)), (.ref (n0 + 0)), (.int (2 : Int32)), (.int (4 : Int32))]) (rest := []) rfl rfl rfl rfl (leb rfl) (leb rfl) (leb rfl) (leb rfl) (st' := [(.int (1 : Int32))]) rfl (k' := 2) rfl (n' := 8) rfl ?_
      refine H.ifF s0_182 (show ¬ (1 : Int32) = (0 : Int32) by decide) ?_
      refine H.aload s0_185 rfl rfl ?_
      refine H.iload s0_187 rfl ?_
      refine H.aload s0_189 rfl rfl ?_
      refine H.iload s0_191 rfl ?_
      refine H.iconst s0_193 (v := (5 : Int32)) (by decide) ?_
      refine H.callSD s0_194 (k_6 hw) (m_atT l hw n0 [.inr (.int, [(.int e0), (.int e1), (.int e2), (.int e3)]), .inr (.int, [(.int (own_c [(N1 + 1), (N0 + 1)] 0)), (.int (own_p [(N1 + 1), (N0 + 1)] 1)), (.int (own_p [(N1 + 1), (N0 + 1)] 2)), (.int (own_p [(N1 + 1), (N0 + 1)] 3))])] 0 1 (3 : Int32) (2 : Int32) (5 : Int32) (by decide)) (argsL := [(.ref (n0 + 1)), (.int (3 : Int32)), (.ref (n0 + 0)), (.int (2 : Int32)), (.int (5 : Int32))]) (rest := []) rfl rfl rfl rfl (leb rfl) (leb rfl) (leb rfl) (leb rfl) (st' := [(.int (1 : Int32))]) rfl (k' := 2) rfl (n' := 8) rfl ?_
      refine H.ifF s0_197 (show ¬ (1 : Int32) = (0 : Int32) by decide) ?_
      refine H.iconst s0_200 (v := (1 : Int32)) (by decide) ?_
      refine H.goto s0_201 ?_
      exact H.ireturn s0_205 rfl (by simp) rfl rfl (by decide) (by decide)
    · refine H.irem s0_25 (by decide) (w := (3 : Int32)) hz25 ?_
      refine H.istore s0_26 (ls' := #[.val (.int p0), .val (.int p1), .val (.int p2), .val (.int p3), .val (.int p4), .val (.int p5), .val (.int (3 : Int32)), .val (.int (3 : Int32)), .unset, .unset]) rfl ?_
      refine H.iconst s0_28 (v := (4 : Int32)) (by decide) ?_
      refine H.newarray s0_29 (ty := .int) rfl (k_3 hw) (N := 4) (cap := 4) (by decide) rfl (by decide) (by decide) rfl (by decide) (by decide) (i := 0) rfl (A' := [.inr (.int, [(.int (0 : Int32)), (.int (0 : Int32)), (.int (0 : Int32)), (.int (0 : Int32))])]) rfl (k' := 1) rfl (n' := 4) rfl ?_
      refine H.astore s0_31 rfl (ls' := #[.val (.int p0), .val (.int p1), .val (.int p2), .val (.int p3), .val (.int p4), .val (.int p5), .val (.int (3 : Int32)), .val (.int (3 : Int32)), .val (.ref (n0 + 0)), .unset]) rfl ?_
      refine H.iload s0_33 rfl ?_
      refine H.ifF s0_35 (show (0 : Int32) < (3 : Int32) by decide) ?_
      refine H.aload s0_38 rfl rfl ?_
      refine H.iconst s0_40 (v := (0 : Int32)) (by decide) ?_
      refine H.iloadN s0_41 rfl ?_
      refine H.ldc s0_42 (k_2 hw) ?_
      refine H.iand s0_44 rfl ?_
      refine H.iload s0_45 rfl ?_
      obtain ⟨e0, he0⟩ : ∃ z, z = ((p0 &&& (2147483647 : Int32)) % (3 : Int32)) := ⟨_, rfl⟩
      obtain ⟨N0, hN0, lN0⟩ := own_N p0 3 3 (by decide) (by decide)
      rw [← he0] at hN0
      refine H.irem s0_47 (by decide) he0.symm ?_
      refine H.iastore s0_48 (i := 0) (j := 0) rfl (by decide) (ltb rfl)  (A' := [.inr (.int, [(.int e0), (.int (0 : Int32)), (.int (0 : Int32)), (.int (0 : Int32))])]) rfl ?_
      refine H.aload s0_49 rfl rfl ?_
      refine H.iconst s0_51 (v := (1 : Int32)) (by decide) ?_
      refine H.iloadN s0_52 rfl ?_
      refine H.ldc s0_53 (k_2 hw) ?_
      refine H.iand s0_55 rfl ?_
      refine H.iload s0_56 rfl ?_
      obtain ⟨e1, he1⟩ : ∃ z, z = ((p1 &&& (2147483647 : Int32)) % (3 : Int32)) := ⟨_, rfl⟩
      obtain ⟨N1, hN1, lN1⟩ := own_N p1 3 3 (by decide) (by decide)
      rw [← he1] at hN1
      refine H.irem s0_58 (by decide) he1.symm ?_
      refine H.iastore s0_59 (i := 0) (j := 1) rfl (by decide) (ltb rfl)  (A' := [.inr (.int, [(.int e0), (.int e1), (.int (0 : Int32)), (.int (0 : Int32))])]) rfl ?_
      refine H.aload s0_60 rfl rfl ?_
      refine H.iconst s0_62 (v := (2 : Int32)) (by decide) ?_
      refine H.iloadN s0_63 rfl ?_
      refine H.ldc s0_64 (k_2 hw) ?_
      refine H.iand s0_66 rfl ?_
      refine H.iload s0_67 rfl ?_
      obtain ⟨e2, he2⟩ : ∃ z, z = ((p2 &&& (2147483647 : Int32)) % (3 : Int32)) := ⟨_, rfl⟩
      obtain ⟨N2, hN2, lN2⟩ := own_N p2 3 3 (by decide) (by decide)
      rw [← he2] at hN2
      refine H.irem s0_69 (by decide) he2.symm ?_
      refine H.iastore s0_70 (i := 0) (j := 2) rfl (by decide) (ltb rfl)  (A' := [.inr (.int, [(.int e0), (.int e1), (.int e2), (.int (0 : Int32))])]) rfl ?_
      refine H.aload s0_71 rfl rfl ?_
      refine H.iconst s0_73 (v := (3 : Int32)) (by decide) ?_
      refine H.iloadN s0_74 rfl ?_
      refine H.ldc s0_75 (k_2 hw) ?_
      refine H.iand s0_77 rfl ?_
      refine H.iload s0_78 rfl ?_
      obtain ⟨e3, he3⟩ : ∃ z, z = ((p3 &&& (2147483647 : Int32)) % (3 : Int32)) := ⟨_, rfl⟩
      obtain ⟨N3, hN3, lN3⟩ := own_N p3 3 3 (by decide) (by decide)
      rw [← he3] at hN3
      refine H.irem s0_80 (by decide) he3.symm ?_
      refine H.iastore s0_81 (i := 0) (j := 3) rfl (by decide) (ltb rfl)  (A' := [.inr (.int, [(.int e0), (.int e1), (.int e2), (.int e3)])]) rfl ?_
      refine H.aload s0_82 rfl rfl ?_
      refine H.iload s0_84 rfl ?_
      refine H.iload s0_86 rfl ?_
      refine H.callSD s0_88 (k_5 hw) (a_14 l hw n0 e0 e1 e2 e3 hN0 lN0 hN1 lN1 hN2 lN2 hN3 lN3) (argsL := [(.ref (n0 + 0)), (.int (3 : Int32)), (.int (3 : Int32))]) (rest := []) rfl rfl rfl rfl (leb rfl) (leb rfl) (leb rfl) (leb rfl) (st' := [(.ref (n0 + 1))]) rfl (k' := 2) rfl (n' := 8) rfl ?_
      refine H.astore s0_91 rfl (ls' := #[.val (.int p0), .val (.int p1), .val (.int p2), .val (.int p3), .val (.int p4), .val (.int p5), .val (.int (3 : Int32)), .val (.int (3 : Int32)), .val (.ref (n0 + 0)), .val (.ref (n0 + 1))]) rfl ?_
      refine H.aload s0_93 rfl rfl ?_
      refine H.ifnullF s0_95 ?_
      refine H.aload s0_98 rfl rfl ?_
      refine H.arraylength s0_100 (i := 1) rfl (z := (4 : Int32)) rfl ?_
      refine H.iload s0_101 rfl ?_
      refine H.iconst s0_103 (v := (1 : Int32)) (by decide) ?_
      refine H.iadd s0_104 (w := (4 : Int32)) (by decide) ?_
      refine H.icmpT s0_105 (show (4 : Int32) = (4 : Int32) by decide) ?_
      refine H.aload s0_110 rfl rfl ?_
      refine H.iload s0_112 rfl ?_
      refine H.aload s0_114 rfl rfl ?_
      refine H.iload s0_116 rfl ?_
      refine H.iconst s0_118 (v := (0 : Int32)) (by decide) ?_
      refine H.callSD s0_119 (k_6 hw) (m_at3 l hw n0 [.inr (.int, [(.int e0), (.int e1), (.int e2), (.int e3)]), .inr (.int, [(.int (own_c [(N2 + 1), (N1 + 1), (N0 + 1)] 0)), (.int (own_p [(N2 + 1), (N1 + 1), (N0 + 1)] 1)), (.int (own_p [(N2 + 1), (N1 + 1), (N0 + 1)] 2)), (.int (own_p [(N2 + 1), (N1 + 1), (N0 + 1)] 3))])] 0 1 _ e0 e1 e2 e3 (own_c [(N2 + 1), (N1 + 1), (N0 + 1)] 0) (0 : Int32) (3 : Int32) 0 rfl rfl (by decide) rfl (by decide) (own_main [(e2, N2), (e1, N1), (e0, N0)] (faS hN2 (faS hN1 (faS hN0 fa0))) (k := 0) (by decide))) (argsL := [(.ref (n0 + 1)), (.int (3 : Int32)), (.ref (n0 + 0)), (.int (3 : Int32)), (.int (0 : Int32))]) (rest := []) rfl rfl rfl rfl (leb rfl) (leb rfl) (leb rfl) (leb rfl) (st' := [(.int (1 : Int32))]) rfl (k' := 2) rfl (n' := 8) rfl ?_
      refine H.ifF s0_122 (show ¬ (1 : Int32) = (0 : Int32) by decide) ?_
      refine H.aload s0_125 rfl rfl ?_
      refine H.iload s0_127 rfl ?_
      refine H.aload s0_129 rfl rfl ?_
      refine H.iload s0_131 rfl ?_
      refine H.iconst s0_133 (v := (1 : Int32)) (by decide) ?_
      refine H.callSD s0_134 (k_6 hw) (m_at3 l hw n0 [.inr (.int, [(.int e0), (.int e1), (.int e2), (.int e3)]), .inr (.int, [(.int (own_c [(N2 + 1), (N1 + 1), (N0 + 1)] 0)), (.int (own_p [(N2 + 1), (N1 + 1), (N0 + 1)] 1)), (.int (own_p [(N2 + 1), (N1 + 1), (N0 + 1)] 2)), (.int (own_p [(N2 + 1), (N1 + 1), (N0 + 1)] 3))])] 0 1 _ e0 e1 e2 e3 (own_p [(N2 + 1), (N1 + 1), (N0 + 1)] 1) (1 : Int32) (3 : Int32) 1 rfl rfl (by decide) rfl (by decide) (own_main [(e2, N2), (e1, N1), (e0, N0)] (faS hN2 (faS hN1 (faS hN0 fa0))) (k := 1) (by decide))) (argsL := [(.ref (n0 + 1)), (.int (3 : Int32)), (.ref (n0 + 0)), (.int (3 : Int32)), (.int (1 : Int32))]) (rest := []) rfl rfl rfl rfl (leb rfl) (leb rfl) (leb rfl) (leb rfl) (st' := [(.int (1 : Int32))]) rfl (k' := 2) rfl (n' := 8) rfl ?_
      refine H.ifF s0_137 (show ¬ (1 : Int32) = (0 : Int32) by decide) ?_
      refine H.aload s0_140 rfl rfl ?_
      refine H.iload s0_142 rfl ?_
      refine H.aload s0_144 rfl rfl ?_
      refine H.iload s0_146 rfl ?_
      refine H.iconst s0_148 (v := (2 : Int32)) (by decide) ?_
      refine H.callSD s0_149 (k_6 hw) (m_at3 l hw n0 [.inr (.int, [(.int e0), (.int e1), (.int e2), (.int e3)]), .inr (.int, [(.int (own_c [(N2 + 1), (N1 + 1), (N0 + 1)] 0)), (.int (own_p [(N2 + 1), (N1 + 1), (N0 + 1)] 1)), (.int (own_p [(N2 + 1), (N1 + 1), (N0 + 1)] 2)), (.int (own_p [(N2 + 1), (N1 + 1), (N0 + 1)] 3))])] 0 1 _ e0 e1 e2 e3 (own_p [(N2 + 1), (N1 + 1), (N0 + 1)] 2) (2 : Int32) (3 : Int32) 2 rfl rfl (by decide) rfl (by decide) (own_main [(e2, N2), (e1, N1), (e0, N0)] (faS hN2 (faS hN1 (faS hN0 fa0))) (k := 2) (by decide))) (argsL := [(.ref (n0 + 1)), (.int (3 : Int32)), (.ref (n0 + 0)), (.int (3 : Int32)), (.int (2 : Int32))]) (rest := []) rfl rfl rfl rfl (leb rfl) (leb rfl) (leb rfl) (leb rfl) (st' := [(.int (1 : Int32))]) rfl (k' := 2) rfl (n' := 8) rfl ?_
      refine H.ifF s0_152 (show ¬ (1 : Int32) = (0 : Int32) by decide) ?_
      refine H.aload s0_155 rfl rfl ?_
      refine H.iload s0_157 rfl ?_
      refine H.aload s0_159 rfl rfl ?_
      refine H.iload s0_161 rfl ?_
      refine H.iconst s0_163 (v := (3 : Int32)) (by decide) ?_
      refine H.callSD s0_164 (k_6 hw) (m_at3 l hw n0 [.inr (.int, [(.int e0), (.int e1), (.int e2), (.int e3)]), .inr (.int, [(.int (own_c [(N2 + 1), (N1 + 1), (N0 + 1)] 0)), (.int (own_p [(N2 + 1), (N1 + 1), (N0 + 1)] 1)), (.int (own_p [(N2 + 1), (N1 + 1), (N0 + 1)] 2)), (.int (own_p [(N2 + 1), (N1 + 1), (N0 + 1)] 3))])] 0 1 _ e0 e1 e2 e3 (own_p [(N2 + 1), (N1 + 1), (N0 + 1)] 3) (3 : Int32) (3 : Int32) 3 rfl rfl (by decide) rfl (by decide) (own_main [(e2, N2), (e1, N1), (e0, N0)] (faS hN2 (faS hN1 (faS hN0 fa0))) (k := 3) (by decide))) (argsL := [(.ref (n0 + 1)), (.int (3 : Int32)), (.ref (n0 + 0)), (.int (3 : Int32)), (.int (3 : Int32))]) (rest := []) rfl rfl rfl rfl (leb rfl) (leb rfl) (leb rfl) (leb rfl) (st' := [(.int (1 : Int32))]) rfl (k' := 2) rfl (n' := 8) rfl ?_
      refine H.ifF s0_167 (show ¬ (1 : Int32) = (0 : Int32) by decide) ?_
      refine H.aload s0_170 rfl rfl ?_
      refine H.iload s0_172 rfl ?_
      refine H.aload s0_174 rfl rfl ?_
      refine H.iload s0_176 rfl ?_
      refine H.iconst s0_178 (v := (4 : Int32)) (by decide) ?_
      refine H.callSD s0_179 (k_6 hw) (m_atT l hw n0 [.inr (.int, [(.int e0), (.int e1), (.int e2), (.int e3)]), .inr (.int, [(.int (own_c [(N2 + 1), (N1 + 1), (N0 + 1)] 0)), (.int (own_p [(N2 + 1), (N1 + 1), (N0 + 1)] 1)), (.int (own_p [(N2 + 1), (N1 + 1), (N0 + 1)] 2)), (.int (own_p [(N2 + 1), (N1 + 1), (N0 + 1)] 3))])] 0 1 (3 : Int32) (3 : Int32) (4 : Int32) (by decide)) (argsL := [(.ref (n0 + 1)), (.int (3 : Int32)), (.ref (n0 + 0)), (.int (3 : Int32)), (.int (4 : Int32))]) (rest := []) rfl rfl rfl rfl (leb rfl) (leb rfl) (leb rfl) (leb rfl) (st' := [(.int (1 : Int32))]) rfl (k' := 2) rfl (n' := 8) rfl ?_
      refine H.ifF s0_182 (show ¬ (1 : Int32) = (0 : Int32) by decide) ?_
      refine H.aload s0_185 rfl rfl ?_
      refine H.iload s0_187 rfl ?_
      refine H.aload s0_189 rfl rfl ?_
      refine H.iload s0_191 rfl ?_
      refine H.iconst s0_193 (v := (5 : Int32)) (by decide) ?_
      refine H.callSD s0_194 (k_6 hw) (m_atT l hw n0 [.inr (.int, [(.int e0), (.int e1), (.int e2), (.int e3)]), .inr (.int, [(.int (own_c [(N2 + 1), (N1 + 1), (N0 + 1)] 0)), (.int (own_p [(N2 + 1), (N1 + 1), (N0 + 1)] 1)), (.int (own_p [(N2 + 1), (N1 + 1), (N0 + 1)] 2)), (.int (own_p [(N2 + 1), (N1 + 1), (N0 + 1)] 3))])] 0 1 (3 : Int32) (3 : Int32) (5 : Int32) (by decide)) (argsL := [(.ref (n0 + 1)), (.int (3 : Int32)), (.ref (n0 + 0)), (.int (3 : Int32)), (.int (5 : Int32))]) (rest := []) rfl rfl rfl rfl (leb rfl) (leb rfl) (leb rfl) (leb rfl) (st' := [(.int (1 : Int32))]) rfl (k' := 2) rfl (n' := 8) rfl ?_
      refine H.ifF s0_197 (show ¬ (1 : Int32) = (0 : Int32) by decide) ?_
      refine H.iconst s0_200 (v := (1 : Int32)) (by decide) ?_
      refine H.goto s0_201 ?_
      exact H.ireturn s0_205 rfl (by simp) rfl rfl (by decide) (by decide)
    · refine H.irem s0_25 (by decide) (w := (4 : Int32)) hz25 ?_
      refine H.istore s0_26 (ls' := #[.val (.int p0), .val (.int p1), .val (.int p2), .val (.int p3), .val (.int p4), .val (.int p5), .val (.int (3 : Int32)), .val (.int (4 : Int32)), .unset, .unset]) rfl ?_
      refine H.iconst s0_28 (v := (4 : Int32)) (by decide) ?_
      refine H.newarray s0_29 (ty := .int) rfl (k_3 hw) (N := 4) (cap := 4) (by decide) rfl (by decide) (by decide) rfl (by decide) (by decide) (i := 0) rfl (A' := [.inr (.int, [(.int (0 : Int32)), (.int (0 : Int32)), (.int (0 : Int32)), (.int (0 : Int32))])]) rfl (k' := 1) rfl (n' := 4) rfl ?_
      refine H.astore s0_31 rfl (ls' := #[.val (.int p0), .val (.int p1), .val (.int p2), .val (.int p3), .val (.int p4), .val (.int p5), .val (.int (3 : Int32)), .val (.int (4 : Int32)), .val (.ref (n0 + 0)), .unset]) rfl ?_
      refine H.iload s0_33 rfl ?_
      refine H.ifF s0_35 (show (0 : Int32) < (3 : Int32) by decide) ?_
      refine H.aload s0_38 rfl rfl ?_
      refine H.iconst s0_40 (v := (0 : Int32)) (by decide) ?_
      refine H.iloadN s0_41 rfl ?_
      refine H.ldc s0_42 (k_2 hw) ?_
      refine H.iand s0_44 rfl ?_
      refine H.iload s0_45 rfl ?_
      obtain ⟨e0, he0⟩ : ∃ z, z = ((p0 &&& (2147483647 : Int32)) % (3 : Int32)) := ⟨_, rfl⟩
      obtain ⟨N0, hN0, lN0⟩ := own_N p0 3 3 (by decide) (by decide)
      rw [← he0] at hN0
      refine H.irem s0_47 (by decide) he0.symm ?_
      refine H.iastore s0_48 (i := 0) (j := 0) rfl (by decide) (ltb rfl)  (A' := [.inr (.int, [(.int e0), (.int (0 : Int32)), (.int (0 : Int32)), (.int (0 : Int32))])]) rfl ?_
      refine H.aload s0_49 rfl rfl ?_
      refine H.iconst s0_51 (v := (1 : Int32)) (by decide) ?_
      refine H.iloadN s0_52 rfl ?_
      refine H.ldc s0_53 (k_2 hw) ?_
      refine H.iand s0_55 rfl ?_
      refine H.iload s0_56 rfl ?_
      obtain ⟨e1, he1⟩ : ∃ z, z = ((p1 &&& (2147483647 : Int32)) % (3 : Int32)) := ⟨_, rfl⟩
      obtain ⟨N1, hN1, lN1⟩ := own_N p1 3 3 (by decide) (by decide)
      rw [← he1] at hN1
      refine H.irem s0_58 (by decide) he1.symm ?_
      refine H.iastore s0_59 (i := 0) (j := 1) rfl (by decide) (ltb rfl)  (A' := [.inr (.int, [(.int e0), (.int e1), (.int (0 : Int32)), (.int (0 : Int32))])]) rfl ?_
      refine H.aload s0_60 rfl rfl ?_
      refine H.iconst s0_62 (v := (2 : Int32)) (by decide) ?_
      refine H.iloadN s0_63 rfl ?_
      refine H.ldc s0_64 (k_2 hw) ?_
      refine H.iand s0_66 rfl ?_
      refine H.iload s0_67 rfl ?_
      obtain ⟨e2, he2⟩ : ∃ z, z = ((p2 &&& (2147483647 : Int32)) % (3 : Int32)) := ⟨_, rfl⟩
      obtain ⟨N2, hN2, lN2⟩ := own_N p2 3 3 (by decide) (by decide)
      rw [← he2] at hN2
      refine H.irem s0_69 (by decide) he2.symm ?_
      refine H.iastore s0_70 (i := 0) (j := 2) rfl (by decide) (ltb rfl)  (A' := [.inr (.int, [(.int e0), (.int e1), (.int e2), (.int (0 : Int32))])]) rfl ?_
      refine H.aload s0_71 rfl rfl ?_
      refine H.iconst s0_73 (v := (3 : Int32)) (by decide) ?_
      refine H.iloadN s0_74 rfl ?_
      refine H.ldc s0_75 (k_2 hw) ?_
      refine H.iand s0_77 rfl ?_
      refine H.iload s0_78 rfl ?_
      obtain ⟨e3, he3⟩ : ∃ z, z = ((p3 &&& (2147483647 : Int32)) % (3 : Int32)) := ⟨_, rfl⟩
      obtain ⟨N3, hN3, lN3⟩ := own_N p3 3 3 (by decide) (by decide)
      rw [← he3] at hN3
      refine H.irem s0_80 (by decide) he3.symm ?_
      refine H.iastore s0_81 (i := 0) (j := 3) rfl (by decide) (ltb rfl)  (A' := [.inr (.int, [(.int e0), (.int e1), (.int e2), (.int e3)])]) rfl ?_
      refine H.aload s0_82 rfl rfl ?_
      refine H.iload s0_84 rfl ?_
      refine H.iload s0_86 rfl ?_
      refine H.callSD s0_88 (k_5 hw) (a_15 l hw n0 e0 e1 e2 e3 hN0 lN0 hN1 lN1 hN2 lN2 hN3 lN3) (argsL := [(.ref (n0 + 0)), (.int (4 : Int32)), (.int (3 : Int32))]) (rest := []) rfl rfl rfl rfl (leb rfl) (leb rfl) (leb rfl) (leb rfl) (st' := [(.ref (n0 + 1))]) rfl (k' := 2) rfl (n' := 8) rfl ?_
      refine H.astore s0_91 rfl (ls' := #[.val (.int p0), .val (.int p1), .val (.int p2), .val (.int p3), .val (.int p4), .val (.int p5), .val (.int (3 : Int32)), .val (.int (4 : Int32)), .val (.ref (n0 + 0)), .val (.ref (n0 + 1))]) rfl ?_
      refine H.aload s0_93 rfl rfl ?_
      refine H.ifnullF s0_95 ?_
      refine H.aload s0_98 rfl rfl ?_
      refine H.arraylength s0_100 (i := 1) rfl (z := (4 : Int32)) rfl ?_
      refine H.iload s0_101 rfl ?_
      refine H.iconst s0_103 (v := (1 : Int32)) (by decide) ?_
      refine H.iadd s0_104 (w := (4 : Int32)) (by decide) ?_
      refine H.icmpT s0_105 (show (4 : Int32) = (4 : Int32) by decide) ?_
      refine H.aload s0_110 rfl rfl ?_
      refine H.iload s0_112 rfl ?_
      refine H.aload s0_114 rfl rfl ?_
      refine H.iload s0_116 rfl ?_
      refine H.iconst s0_118 (v := (0 : Int32)) (by decide) ?_
      refine H.callSD s0_119 (k_6 hw) (m_at4 l hw n0 [.inr (.int, [(.int e0), (.int e1), (.int e2), (.int e3)]), .inr (.int, [(.int (own_c [(N3 + 1), (N2 + 1), (N1 + 1), (N0 + 1)] 0)), (.int (own_p [(N3 + 1), (N2 + 1), (N1 + 1), (N0 + 1)] 1)), (.int (own_p [(N3 + 1), (N2 + 1), (N1 + 1), (N0 + 1)] 2)), (.int (own_p [(N3 + 1), (N2 + 1), (N1 + 1), (N0 + 1)] 3))])] 0 1 _ e0 e1 e2 e3 (own_c [(N3 + 1), (N2 + 1), (N1 + 1), (N0 + 1)] 0) (0 : Int32) (3 : Int32) 0 rfl rfl (by decide) rfl (by decide) (own_main [(e3, N3), (e2, N2), (e1, N1), (e0, N0)] (faS hN3 (faS hN2 (faS hN1 (faS hN0 fa0)))) (k := 0) (by decide))) (argsL := [(.ref (n0 + 1)), (.int (3 : Int32)), (.ref (n0 + 0)), (.int (4 : Int32)), (.int (0 : Int32))]) (rest := []) rfl rfl rfl rfl (leb rfl) (leb rfl) (leb rfl) (leb rfl) (st' := [(.int (1 : Int32))]) rfl (k' := 2) rfl (n' := 8) rfl ?_
      refine H.ifF s0_122 (show ¬ (1 : Int32) = (0 : Int32) by decide) ?_
      refine H.aload s0_125 rfl rfl ?_
      refine H.iload s0_127 rfl ?_
      refine H.aload s0_129 rfl rfl ?_
      refine H.iload s0_131 rfl ?_
      refine H.iconst s0_133 (v := (1 : Int32)) (by decide) ?_
      refine H.callSD s0_134 (k_6 hw) (m_at4 l hw n0 [.inr (.int, [(.int e0), (.int e1), (.int e2), (.int e3)]), .inr (.int, [(.int (own_c [(N3 + 1), (N2 + 1), (N1 + 1), (N0 + 1)] 0)), (.int (own_p [(N3 + 1), (N2 + 1), (N1 + 1), (N0 + 1)] 1)), (.int (own_p [(N3 + 1), (N2 + 1), (N1 + 1), (N0 + 1)] 2)), (.int (own_p [(N3 + 1), (N2 + 1), (N1 + 1), (N0 + 1)] 3))])] 0 1 _ e0 e1 e2 e3 (own_p [(N3 + 1), (N2 + 1), (N1 + 1), (N0 + 1)] 1) (1 : Int32) (3 : Int32) 1 rfl rfl (by decide) rfl (by decide) (own_main [(e3, N3), (e2, N2), (e1, N1), (e0, N0)] (faS hN3 (faS hN2 (faS hN1 (faS hN0 fa0)))) (k := 1) (by decide))) (argsL := [(.ref (n0 + 1)), (.int (3 : Int32)), (.ref (n0 + 0)), (.int (4 : Int32)), (.int (1 : Int32))]) (rest := []) rfl rfl rfl rfl (leb rfl) (leb rfl) (leb rfl) (leb rfl) (st' := [(.int (1 : Int32))]) rfl (k' := 2) rfl (n' := 8) rfl ?_
      refine H.ifF s0_137 (show ¬ (1 : Int32) = (0 : Int32) by decide) ?_
      refine H.aload s0_140 rfl rfl ?_
      refine H.iload s0_142 rfl ?_
      refine H.aload s0_144 rfl rfl ?_
      refine H.iload s0_146 rfl ?_
      refine H.iconst s0_148 (v := (2 : Int32)) (by decide) ?_
      refine H.callSD s0_149 (k_6 hw) (m_at4 l hw n0 [.inr (.int, [(.int e0), (.int e1), (.int e2), (.int e3)]), .inr (.int, [(.int (own_c [(N3 + 1), (N2 + 1), (N1 + 1), (N0 + 1)] 0)), (.int (own_p [(N3 + 1), (N2 + 1), (N1 + 1), (N0 + 1)] 1)), (.int (own_p [(N3 + 1), (N2 + 1), (N1 + 1), (N0 + 1)] 2)), (.int (own_p [(N3 + 1), (N2 + 1), (N1 + 1), (N0 + 1)] 3))])] 0 1 _ e0 e1 e2 e3 (own_p [(N3 + 1), (N2 + 1), (N1 + 1), (N0 + 1)] 2) (2 : Int32) (3 : Int32) 2 rfl rfl (by decide) rfl (by decide) (own_main [(e3, N3), (e2, N2), (e1, N1), (e0, N0)] (faS hN3 (faS hN2 (faS hN1 (faS hN0 fa0)))) (k := 2) (by decide))) (argsL := [(.ref (n0 + 1)), (.int (3 : Int32)), (.ref (n0 + 0)), (.int (4 : Int32)), (.int (2 : Int32))]) (rest := []) rfl rfl rfl rfl (leb rfl) (leb rfl) (leb rfl) (leb rfl) (st' := [(.int (1 : Int32))]) rfl (k' := 2) rfl (n' := 8) rfl ?_
      refine H.ifF s0_152 (show ¬ (1 : Int32) = (0 : Int32) by decide) ?_
      refine H.aload s0_155 rfl rfl ?_
      refine H.iload s0_157 rfl ?_
      refine H.aload s0_159 rfl rfl ?_
      refine H.iload s0_161 rfl ?_
      refine H.iconst s0_163 (v := (3 : Int32)) (by decide) ?_
      refine H.callSD s0_164 (k_6 hw) (m_at4 l hw n0 [.inr (.int, [(.int e0), (.int e1), (.int e2), (.int e3)]), .inr (.int, [(.int (own_c [(N3 + 1), (N2 + 1), (N1 + 1), (N0 + 1)] 0)), (.int (own_p [(N3 + 1), (N2 + 1), (N1 + 1), (N0 + 1)] 1)), (.int (own_p [(N3 + 1), (N2 + 1), (N1 + 1), (N0 + 1)] 2)), (.int (own_p [(N3 + 1), (N2 + 1), (N1 + 1), (N0 + 1)] 3))])] 0 1 _ e0 e1 e2 e3 (own_p [(N3 + 1), (N2 + 1), (N1 + 1), (N0 + 1)] 3) (3 : Int32) (3 : Int32) 3 rfl rfl (by decide) rfl (by decide) (own_main [(e3, N3), (e2, N2), (e1, N1), (e0, N0)] (faS hN3 (faS hN2 (faS hN1 (faS hN0 fa0)))) (k := 3) (by decide))) (argsL := [(.ref (n0 + 1)), (.int (3 : Int32)), (.ref (n0 + 0)), (.int (4 : Int32)), (.int (3 : Int32))]) (rest := []) rfl rfl rfl rfl (leb rfl) (leb rfl) (leb rfl) (leb rfl) (st' := [(.int (1 : Int32))]) rfl (k' := 2) rfl (n' := 8) rfl ?_
      refine H.ifF s0_167 (show ¬ (1 : Int32) = (0 : Int32) by decide) ?_
      refine H.aload s0_170 rfl rfl ?_
      refine H.iload s0_172 rfl ?_
      refine H.aload s0_174 rfl rfl ?_
      refine H.iload s0_176 rfl ?_
      refine H.iconst s0_178 (v := (4 : Int32)) (by decide) ?_
      refine H.callSD s0_179 (k_6 hw) (m_atT l hw n0 [.inr (.int, [(.int e0), (.int e1), (.int e2), (.int e3)]), .inr (.int, [(.int (own_c [(N3 + 1), (N2 + 1), (N1 + 1), (N0 + 1)] 0)), (.int (own_p [(N3 + 1), (N2 + 1), (N1 + 1), (N0 + 1)] 1)), (.int (own_p [(N3 + 1), (N2 + 1), (N1 + 1), (N0 + 1)] 2)), (.int (own_p [(N3 + 1), (N2 + 1), (N1 + 1), (N0 + 1)] 3))])] 0 1 (3 : Int32) (4 : Int32) (4 : Int32) (by decide)) (argsL := [(.ref (n0 + 1)), (.int (3 : Int32)), (.ref (n0 + 0)), (.int (4 : Int32)), (.int (4 : Int32))]) (rest := []) rfl rfl rfl rfl (leb rfl) (leb rfl) (leb rfl) (leb rfl) (st' := [(.int (1 : Int32))]) rfl (k' := 2) rfl (n' := 8) rfl ?_
      refine H.ifF s0_182 (show ¬ (1 : Int32) = (0 : Int32) by decide) ?_
      refine H.aload s0_185 rfl rfl ?_
      refine H.iload s0_187 rfl ?_
      refine H.aload s0_189 rfl rfl ?_
      refine H.iload s0_191 rfl ?_
      refine H.iconst s0_193 (v := (5 : Int32)) (by decide) ?_
      refine H.callSD s0_194 (k_6 hw) (m_atT l hw n0 [.inr (.int, [(.int e0), (.int e1), (.int e2), (.int e3)]), .inr (.int, [(.int (own_c [(N3 + 1), (N2 + 1), (N1 + 1), (N0 + 1)] 0)), (.int (own_p [(N3 + 1), (N2 + 1), (N1 + 1), (N0 + 1)] 1)), (.int (own_p [(N3 + 1), (N2 + 1), (N1 + 1), (N0 + 1)] 2)), (.int (own_p [(N3 + 1), (N2 + 1), (N1 + 1), (N0 + 1)] 3))])] 0 1 (3 : Int32) (4 : Int32) (5 : Int32) (by decide)) (argsL := [(.ref (n0 + 1)), (.int (3 : Int32)), (.ref (n0 + 0)), (.int (4 : Int32)), (.int (5 : Int32))]) (rest := []) rfl rfl rfl rfl (leb rfl) (leb rfl) (leb rfl) (leb rfl) (st' := [(.int (1 : Int32))]) rfl (k' := 2) rfl (n' := 8) rfl ?_
      refine H.ifF s0_197 (show ¬ (1 : Int32) = (0 : Int32) by decide) ?_
      refine H.iconst s0_200 (v := (1 : Int32)) (by decide) ?_
      refine H.goto s0_201 ?_
      exact H.ireturn s0_205 rfl (by simp) rfl rfl (by decide) (by decide)
  · refine H.irem s0_7 (by decide) (w := (4 : Int32)) hz7 ?_
    refine H.istore s0_8 (ls' := #[.val (.int p0), .val (.int p1), .val (.int p2), .val (.int p3), .val (.int p4), .val (.int p5), .val (.int (4 : Int32)), .unset, .unset, .unset]) rfl ?_
    refine H.iload s0_10 rfl ?_
    refine H.ifT s0_12 (show ¬ (4 : Int32) = (0 : Int32) by decide) ?_
    refine H.iload s0_19 rfl ?_
    refine H.ldc s0_21 (k_2 hw) ?_
    refine H.iand s0_23 rfl ?_
    refine H.iconst s0_24 (v := (5 : Int32)) (by decide) ?_
    rcases own_rem5 p5 with hz25 | hz25 | hz25 | hz25 | hz25
    · refine H.irem s0_25 (by decide) (w := (0 : Int32)) hz25 ?_
      refine H.istore s0_26 (ls' := #[.val (.int p0), .val (.int p1), .val (.int p2), .val (.int p3), .val (.int p4), .val (.int p5), .val (.int (4 : Int32)), .val (.int (0 : Int32)), .unset, .unset]) rfl ?_
      refine H.iconst s0_28 (v := (4 : Int32)) (by decide) ?_
      refine H.newarray s0_29 (ty := .int) rfl (k_3 hw) (N := 4) (cap := 4) (by decide) rfl (by decide) (by decide) rfl (by decide) (by decide) (i := 0) rfl (A' := [.inr (.int, [(.int (0 : Int32)), (.int (0 : Int32)), (.int (0 : Int32)), (.int (0 : Int32))])]) rfl (k' := 1) rfl (n' := 4) rfl ?_
      refine H.astore s0_31 rfl (ls' := #[.val (.int p0), .val (.int p1), .val (.int p2), .val (.int p3), .val (.int p4), .val (.int p5), .val (.int (4 : Int32)), .val (.int (0 : Int32)), .val (.ref (n0 + 0)), .unset]) rfl ?_
      refine H.iload s0_33 rfl ?_
      refine H.ifF s0_35 (show (0 : Int32) < (4 : Int32) by decide) ?_
      refine H.aload s0_38 rfl rfl ?_
      refine H.iconst s0_40 (v := (0 : Int32)) (by decide) ?_
      refine H.iloadN s0_41 rfl ?_
      refine H.ldc s0_42 (k_2 hw) ?_
      refine H.iand s0_44 rfl ?_
      refine H.iload s0_45 rfl ?_
      obtain ⟨e0, he0⟩ : ∃ z, z = ((p0 &&& (2147483647 : Int32)) % (4 : Int32)) := ⟨_, rfl⟩
      obtain ⟨N0, hN0, lN0⟩ := own_N p0 4 4 (by decide) (by decide)
      rw [← he0] at hN0
      refine H.irem s0_47 (by decide) he0.symm ?_
      refine H.iastore s0_48 (i := 0) (j := 0) rfl (by decide) (ltb rfl)  (A' := [.inr (.int, [(.int e0), (.int (0 : Int32)), (.int (0 : Int32)), (.int (0 : Int32))])]) rfl ?_
      refine H.aload s0_49 rfl rfl ?_
      refine H.iconst s0_51 (v := (1 : Int32)) (by decide) ?_
      refine H.iloadN s0_52 rfl ?_
      refine H.ldc s0_53 (k_2 hw) ?_
      refine H.iand s0_55 rfl ?_
      refine H.iload s0_56 rfl ?_
      obtain ⟨e1, he1⟩ : ∃ z, z = ((p1 &&& (2147483647 : Int32)) % (4 : Int32)) := ⟨_, rfl⟩
      obtain ⟨N1, hN1, lN1⟩ := own_N p1 4 4 (by decide) (by decide)
      rw [← he1] at hN1
      refine H.irem s0_58 (by decide) he1.symm ?_
      refine H.iastore s0_59 (i := 0) (j := 1) rfl (by decide) (ltb rfl)  (A' := [.inr (.int, [(.int e0), (.int e1), (.int (0 : Int32)), (.int (0 : Int32))])]) rfl ?_
      refine H.aload s0_60 rfl rfl ?_
      refine H.iconst s0_62 (v := (2 : Int32)) (by decide) ?_
      refine H.iloadN s0_63 rfl ?_
      refine H.ldc s0_64 (k_2 hw) ?_
      refine H.iand s0_66 rfl ?_
      refine H.iload s0_67 rfl ?_
      obtain ⟨e2, he2⟩ : ∃ z, z = ((p2 &&& (2147483647 : Int32)) % (4 : Int32)) := ⟨_, rfl⟩
      obtain ⟨N2, hN2, lN2⟩ := own_N p2 4 4 (by decide) (by decide)
      rw [← he2] at hN2
      refine H.irem s0_69 (by decide) he2.symm ?_
      refine H.iastore s0_70 (i := 0) (j := 2) rfl (by decide) (ltb rfl)  (A' := [.inr (.int, [(.int e0), (.int e1), (.int e2), (.int (0 : Int32))])]) rfl ?_
      refine H.aload s0_71 rfl rfl ?_
      refine H.iconst s0_73 (v := (3 : Int32)) (by decide) ?_
      refine H.iloadN s0_74 rfl ?_
      refine H.ldc s0_75 (k_2 hw) ?_
      refine H.iand s0_77 rfl ?_
      refine H.iload s0_78 rfl ?_
      obtain ⟨e3, he3⟩ : ∃ z, z = ((p3 &&& (2147483647 : Int32)) % (4 : Int32)) := ⟨_, rfl⟩
      obtain ⟨N3, hN3, lN3⟩ := own_N p3 4 4 (by decide) (by decide)
      rw [← he3] at hN3
      refine H.irem s0_80 (by decide) he3.symm ?_
      refine H.iastore s0_81 (i := 0) (j := 3) rfl (by decide) (ltb rfl)  (A' := [.inr (.int, [(.int e0), (.int e1), (.int e2), (.int e3)])]) rfl ?_
      refine H.aload s0_82 rfl rfl ?_
      refine H.iload s0_84 rfl ?_
      refine H.iload s0_86 rfl ?_
      refine H.callSD s0_88 (k_5 hw) (a_16 l hw n0 e0 e1 e2 e3 hN0 lN0 hN1 lN1 hN2 lN2 hN3 lN3) (argsL := [(.ref (n0 + 0)), (.int (0 : Int32)), (.int (4 : Int32))]) (rest := []) rfl rfl rfl rfl (leb rfl) (leb rfl) (leb rfl) (leb rfl) (st' := [(.ref (n0 + 1))]) rfl (k' := 2) rfl (n' := 9) rfl ?_
      refine H.astore s0_91 rfl (ls' := #[.val (.int p0), .val (.int p1), .val (.int p2), .val (.int p3), .val (.int p4), .val (.int p5), .val (.int (4 : Int32)), .val (.int (0 : Int32)), .val (.ref (n0 + 0)), .val (.ref (n0 + 1))]) rfl ?_
      refine H.aload s0_93 rfl rfl ?_
      refine H.ifnullF s0_95 ?_
      refine H.aload s0_98 rfl rfl ?_
      refine H.arraylength s0_100 (i := 1) rfl (z := (5 : Int32)) rfl ?_
      refine H.iload s0_101 rfl ?_
      refine H.iconst s0_103 (v := (1 : Int32)) (by decide) ?_
      refine H.iadd s0_104 (w := (5 : Int32)) (by decide) ?_
      refine H.icmpT s0_105 (show (5 : Int32) = (5 : Int32) by decide) ?_
      refine H.aload s0_110 rfl rfl ?_
      refine H.iload s0_112 rfl ?_
      refine H.aload s0_114 rfl rfl ?_
      refine H.iload s0_116 rfl ?_
      refine H.iconst s0_118 (v := (0 : Int32)) (by decide) ?_
      refine H.callSD s0_119 (k_6 hw) (m_at0 l hw n0 [.inr (.int, [(.int e0), (.int e1), (.int e2), (.int e3)]), .inr (.int, [(.int (0 : Int32)), (.int (0 : Int32)), (.int (0 : Int32)), (.int (0 : Int32)), (.int (0 : Int32))])] 0 1 _ e0 e1 e2 e3 (0 : Int32) (0 : Int32) (4 : Int32) 0 rfl rfl (by decide) rfl (by decide) rfl) (argsL := [(.ref (n0 + 1)), (.int (4 : Int32)), (.ref (n0 + 0)), (.int (0 : Int32)), (.int (0 : Int32))]) (rest := []) rfl rfl rfl rfl (leb rfl) (leb rfl) (leb rfl) (leb rfl) (st' := [(.int (1 : Int32))]) rfl (k' := 2) rfl (n' := 9) rfl ?_
      refine H.ifF s0_122 (show ¬ (1 : Int32) = (0 : Int32) by decide) ?_
      refine H.aload s0_125 rfl rfl ?_
      refine H.iload s0_127 rfl ?_
      refine H.aload s0_129 rfl rfl ?_
      refine H.iload s0_131 rfl ?_
      refine H.iconst s0_133 (v := (1 : Int32)) (by decide) ?_
      refine H.callSD s0_134 (k_6 hw) (m_at0 l hw n0 [.inr (.int, [(.int e0), (.int e1), (.int e2), (.int e3)]), .inr (.int, [(.int (0 : Int32)), (.int (0 : Int32)), (.int (0 : Int32)), (.int (0 : Int32)), (.int (0 : Int32))])] 0 1 _ e0 e1 e2 e3 (0 : Int32) (1 : Int32) (4 : Int32) 1 rfl rfl (by decide) rfl (by decide) rfl) (argsL := [(.ref (n0 + 1)), (.int (4 : Int32)), (.ref (n0 + 0)), (.int (0 : Int32)), (.int (1 : Int32))]) (rest := []) rfl rfl rfl rfl (leb rfl) (leb rfl) (leb rfl) (leb rfl) (st' := [(.int (1 : Int32))]) rfl (k' := 2) rfl (n' := 9) rfl ?_
      refine H.ifF s0_137 (show ¬ (1 : Int32) = (0 : Int32) by decide) ?_
      refine H.aload s0_140 rfl rfl ?_
      refine H.iload s0_142 rfl ?_
      refine H.aload s0_144 rfl rfl ?_
      refine H.iload s0_146 rfl ?_
      refine H.iconst s0_148 (v := (2 : Int32)) (by decide) ?_
      refine H.callSD s0_149 (k_6 hw) (m_at0 l hw n0 [.inr (.int, [(.int e0), (.int e1), (.int e2), (.int e3)]), .inr (.int, [(.int (0 : Int32)), (.int (0 : Int32)), (.int (0 : Int32)), (.int (0 : Int32)), (.int (0 : Int32))])] 0 1 _ e0 e1 e2 e3 (0 : Int32) (2 : Int32) (4 : Int32) 2 rfl rfl (by decide) rfl (by decide) rfl) (argsL := [(.ref (n0 + 1)), (.int (4 : Int32)), (.ref (n0 + 0)), (.int (0 : Int32)), (.int (2 : Int32))]) (rest := []) rfl rfl rfl rfl (leb rfl) (leb rfl) (leb rfl) (leb rfl) (st' := [(.int (1 : Int32))]) rfl (k' := 2) rfl (n' := 9) rfl ?_
      refine H.ifF s0_152 (show ¬ (1 : Int32) = (0 : Int32) by decide) ?_
      refine H.aload s0_155 rfl rfl ?_
      refine H.iload s0_157 rfl ?_
      refine H.aload s0_159 rfl rfl ?_
      refine H.iload s0_161 rfl ?_
      refine H.iconst s0_163 (v := (3 : Int32)) (by decide) ?_
      refine H.callSD s0_164 (k_6 hw) (m_at0 l hw n0 [.inr (.int, [(.int e0), (.int e1), (.int e2), (.int e3)]), .inr (.int, [(.int (0 : Int32)), (.int (0 : Int32)), (.int (0 : Int32)), (.int (0 : Int32)), (.int (0 : Int32))])] 0 1 _ e0 e1 e2 e3 (0 : Int32) (3 : Int32) (4 : Int32) 3 rfl rfl (by decide) rfl (by decide) rfl) (argsL := [(.ref (n0 + 1)), (.int (4 : Int32)), (.ref (n0 + 0)), (.int (0 : Int32)), (.int (3 : Int32))]) (rest := []) rfl rfl rfl rfl (leb rfl) (leb rfl) (leb rfl) (leb rfl) (st' := [(.int (1 : Int32))]) rfl (k' := 2) rfl (n' := 9) rfl ?_
      refine H.ifF s0_167 (show ¬ (1 : Int32) = (0 : Int32) by decide) ?_
      refine H.aload s0_170 rfl rfl ?_
      refine H.iload s0_172 rfl ?_
      refine H.aload s0_174 rfl rfl ?_
      refine H.iload s0_176 rfl ?_
      refine H.iconst s0_178 (v := (4 : Int32)) (by decide) ?_
      refine H.callSD s0_179 (k_6 hw) (m_at0 l hw n0 [.inr (.int, [(.int e0), (.int e1), (.int e2), (.int e3)]), .inr (.int, [(.int (0 : Int32)), (.int (0 : Int32)), (.int (0 : Int32)), (.int (0 : Int32)), (.int (0 : Int32))])] 0 1 _ e0 e1 e2 e3 (0 : Int32) (4 : Int32) (4 : Int32) 4 rfl rfl (by decide) rfl (by decide) rfl) (argsL := [(.ref (n0 + 1)), (.int (4 : Int32)), (.ref (n0 + 0)), (.int (0 : Int32)), (.int (4 : Int32))]) (rest := []) rfl rfl rfl rfl (leb rfl) (leb rfl) (leb rfl) (leb rfl) (st' := [(.int (1 : Int32))]) rfl (k' := 2) rfl (n' := 9) rfl ?_
      refine H.ifF s0_182 (show ¬ (1 : Int32) = (0 : Int32) by decide) ?_
      refine H.aload s0_185 rfl rfl ?_
      refine H.iload s0_187 rfl ?_
      refine H.aload s0_189 rfl rfl ?_
      refine H.iload s0_191 rfl ?_
      refine H.iconst s0_193 (v := (5 : Int32)) (by decide) ?_
      refine H.callSD s0_194 (k_6 hw) (m_atT l hw n0 [.inr (.int, [(.int e0), (.int e1), (.int e2), (.int e3)]), .inr (.int, [(.int (0 : Int32)), (.int (0 : Int32)), (.int (0 : Int32)), (.int (0 : Int32)), (.int (0 : Int32))])] 0 1 (4 : Int32) (0 : Int32) (5 : Int32) (by decide)) (argsL := [(.ref (n0 + 1)), (.int (4 : Int32)), (.ref (n0 + 0)), (.int (0 : Int32)), (.int (5 : Int32))]) (rest := []) rfl rfl rfl rfl (leb rfl) (leb rfl) (leb rfl) (leb rfl) (st' := [(.int (1 : Int32))]) rfl (k' := 2) rfl (n' := 9) rfl ?_
      refine H.ifF s0_197 (show ¬ (1 : Int32) = (0 : Int32) by decide) ?_
      refine H.iconst s0_200 (v := (1 : Int32)) (by decide) ?_
      refine H.goto s0_201 ?_
      exact H.ireturn s0_205 rfl (by simp) rfl rfl (by decide) (by decide)
    · refine H.irem s0_25 (by decide) (w := (1 : Int32)) hz25 ?_
      refine H.istore s0_26 (ls' := #[.val (.int p0), .val (.int p1), .val (.int p2), .val (.int p3), .val (.int p4), .val (.int p5), .val (.int (4 : Int32)), .val (.int (1 : Int32)), .unset, .unset]) rfl ?_
      refine H.iconst s0_28 (v := (4 : Int32)) (by decide) ?_
      refine H.newarray s0_29 (ty := .int) rfl (k_3 hw) (N := 4) (cap := 4) (by decide) rfl (by decide) (by decide) rfl (by decide) (by decide) (i := 0) rfl (A' := [.inr (.int, [(.int (0 : Int32)), (.int (0 : Int32)), (.int (0 : Int32)), (.int (0 : Int32))])]) rfl (k' := 1) rfl (n' := 4) rfl ?_
      refine H.astore s0_31 rfl (ls' := #[.val (.int p0), .val (.int p1), .val (.int p2), .val (.int p3), .val (.int p4), .val (.int p5), .val (.int (4 : Int32)), .val (.int (1 : Int32)), .val (.ref (n0 + 0)), .unset]) rfl ?_
      refine H.iload s0_33 rfl ?_
      refine H.ifF s0_35 (show (0 : Int32) < (4 : Int32) by decide) ?_
      refine H.aload s0_38 rfl rfl ?_
      refine H.iconst s0_40 (v := (0 : Int32)) (by decide) ?_
      refine H.iloadN s0_41 rfl ?_
      refine H.ldc s0_42 (k_2 hw) ?_
      refine H.iand s0_44 rfl ?_
      refine H.iload s0_45 rfl ?_
      obtain ⟨e0, he0⟩ : ∃ z, z = ((p0 &&& (2147483647 : Int32)) % (4 : Int32)) := ⟨_, rfl⟩
      obtain ⟨N0, hN0, lN0⟩ := own_N p0 4 4 (by decide) (by decide)
      rw [← he0] at hN0
      refine H.irem s0_47 (by decide) he0.symm ?_
      refine H.iastore s0_48 (i := 0) (j := 0) rfl (by decide) (ltb rfl)  (A' := [.inr (.int, [(.int e0), (.int (0 : Int32)), (.int (0 : Int32)), (.int (0 : Int32))])]) rfl ?_
      refine H.aload s0_49 rfl rfl ?_
      refine H.iconst s0_51 (v := (1 : Int32)) (by decide) ?_
      refine H.iloadN s0_52 rfl ?_
      refine H.ldc s0_53 (k_2 hw) ?_
      refine H.iand s0_55 rfl ?_
      refine H.iload s0_56 rfl ?_
      obtain ⟨e1, he1⟩ : ∃ z, z = ((p1 &&& (2147483647 : Int32)) % (4 : Int32)) := ⟨_, rfl⟩
      obtain ⟨N1, hN1, lN1⟩ := own_N p1 4 4 (by decide) (by decide)
      rw [← he1] at hN1
      refine H.irem s0_58 (by decide) he1.symm ?_
      refine H.iastore s0_59 (i := 0) (j := 1) rfl (by decide) (ltb rfl)  (A' := [.inr (.int, [(.int e0), (.int e1), (.int (0 : Int32)), (.int (0 : Int32))])]) rfl ?_
      refine H.aload s0_60 rfl rfl ?_
      refine H.iconst s0_62 (v := (2 : Int32)) (by decide) ?_
      refine H.iloadN s0_63 rfl ?_
      refine H.ldc s0_64 (k_2 hw) ?_
      refine H.iand s0_66 rfl ?_
      refine H.iload s0_67 rfl ?_
      obtain ⟨e2, he2⟩ : ∃ z, z = ((p2 &&& (2147483647 : Int32)) % (4 : Int32)) := ⟨_, rfl⟩
      obtain ⟨N2, hN2, lN2⟩ := own_N p2 4 4 (by decide) (by decide)
      rw [← he2] at hN2
      refine H.irem s0_69 (by decide) he2.symm ?_
      refine H.iastore s0_70 (i := 0) (j := 2) rfl (by decide) (ltb rfl)  (A' := [.inr (.int, [(.int e0), (.int e1), (.int e2), (.int (0 : Int32))])]) rfl ?_
      refine H.aload s0_71 rfl rfl ?_
      refine H.iconst s0_73 (v := (3 : Int32)) (by decide) ?_
      refine H.iloadN s0_74 rfl ?_
      refine H.ldc s0_75 (k_2 hw) ?_
      refine H.iand s0_77 rfl ?_
      refine H.iload s0_78 rfl ?_
      obtain ⟨e3, he3⟩ : ∃ z, z = ((p3 &&& (2147483647 : Int32)) % (4 : Int32)) := ⟨_, rfl⟩
      obtain ⟨N3, hN3, lN3⟩ := own_N p3 4 4 (by decide) (by decide)
      rw [← he3] at hN3
      refine H.irem s0_80 (by decide) he3.symm ?_
      refine H.iastore s0_81 (i := 0) (j := 3) rfl (by decide) (ltb rfl)  (A' := [.inr (.int, [(.int e0), (.int e1), (.int e2), (.int e3)])]) rfl ?_
      refine H.aload s0_82 rfl rfl ?_
      refine H.iload s0_84 rfl ?_
      refine H.iload s0_86 rfl ?_
      refine H.callSD s0_88 (k_5 hw) (a_17 l hw n0 e0 e1 e2 e3 hN0 lN0 hN1 lN1 hN2 lN2 hN3 lN3) (argsL := [(.ref (n0 + 0)), (.int (1 : Int32)), (.int (4 : Int32))]) (rest := []) rfl rfl rfl rfl (leb rfl) (leb rfl) (leb rfl) (leb rfl) (st' := [(.ref (n0 + 1))]) rfl (k' := 2) rfl (n' := 9) rfl ?_
      refine H.astore s0_91 rfl (ls' := #[.val (.int p0), .val (.int p1), .val (.int p2), .val (.int p3), .val (.int p4), .val (.int p5), .val (.int (4 : Int32)), .val (.int (1 : Int32)), .val (.ref (n0 + 0)), .val (.ref (n0 + 1))]) rfl ?_
      refine H.aload s0_93 rfl rfl ?_
      refine H.ifnullF s0_95 ?_
      refine H.aload s0_98 rfl rfl ?_
      refine H.arraylength s0_100 (i := 1) rfl (z := (5 : Int32)) rfl ?_
      refine H.iload s0_101 rfl ?_
      refine H.iconst s0_103 (v := (1 : Int32)) (by decide) ?_
      refine H.iadd s0_104 (w := (5 : Int32)) (by decide) ?_
      refine H.icmpT s0_105 (show (5 : Int32) = (5 : Int32) by decide) ?_
      refine H.aload s0_110 rfl rfl ?_
      refine H.iload s0_112 rfl ?_
      refine H.aload s0_114 rfl rfl ?_
      refine H.iload s0_116 rfl ?_
      refine H.iconst s0_118 (v := (0 : Int32)) (by decide) ?_
      refine H.callSD s0_119 (k_6 hw) (m_at1 l hw n0 [.inr (.int, [(.int e0), (.int e1), (.int e2), (.int e3)]), .inr (.int, [(.int (own_c [(N0 + 1)] 0)), (.int (own_p [(N0 + 1)] 1)), (.int (own_p [(N0 + 1)] 2)), (.int (own_p [(N0 + 1)] 3)), (.int (own_p [(N0 + 1)] 4))])] 0 1 _ e0 e1 e2 e3 (own_c [(N0 + 1)] 0) (0 : Int32) (4 : Int32) 0 rfl rfl (by decide) rfl (by decide) (own_main [(e0, N0)] (faS hN0 fa0) (k := 0) (by decide))) (argsL := [(.ref (n0 + 1)), (.int (4 : Int32)), (.ref (n0 + 0)), (.int (1 : Int32)), (.int (0 : Int32))]) (rest := []) rfl rfl rfl rfl (leb rfl) (leb rfl) (leb rfl) (leb rfl) (st' := [(.int (1 : Int32))]) rfl (k' := 2) rfl (n' := 9) rfl ?_
      refine H.ifF s0_122 (show ¬ (1 : Int32) = (0 : Int32) by decide) ?_
      refine H.aload s0_125 rfl rfl ?_
      refine H.iload s0_127 rfl ?_
      refine H.aload s0_129 rfl rfl ?_
      refine H.iload s0_131 rfl ?_
      refine H.iconst s0_133 (v := (1 : Int32)) (by decide) ?_
      refine H.callSD s0_134 (k_6 hw) (m_at1 l hw n0 [.inr (.int, [(.int e0), (.int e1), (.int e2), (.int e3)]), .inr (.int, [(.int (own_c [(N0 + 1)] 0)), (.int (own_p [(N0 + 1)] 1)), (.int (own_p [(N0 + 1)] 2)), (.int (own_p [(N0 + 1)] 3)), (.int (own_p [(N0 + 1)] 4))])] 0 1 _ e0 e1 e2 e3 (own_p [(N0 + 1)] 1) (1 : Int32) (4 : Int32) 1 rfl rfl (by decide) rfl (by decide) (own_main [(e0, N0)] (faS hN0 fa0) (k := 1) (by decide))) (argsL := [(.ref (n0 + 1)), (.int (4 : Int32)), (.ref (n0 + 0)), (.int (1 : Int32)), (.int (1 : Int32))]) (rest := []) rfl rfl rfl rfl (leb rfl) (leb rfl) (leb rfl) (leb rfl) (st' := [(.int (1 : Int32))]) rfl (k' := 2) rfl (n' := 9) rfl ?_
      refine H.ifF s0_137 (show ¬ (1 : Int32) = (0 : Int32) by decide) ?_
      refine H.aload s0_140 rfl rfl ?_
      refine H.iload s0_142 rfl ?_
      refine H.aload s0_144 rfl rfl ?_
      refine H.iload s0_146 rfl ?_
      refine H.iconst s0_148 (v := (2 : Int32)) (by decide) ?_
      refine H.callSD s0_149 (k_6 hw) (m_at1 l hw n0 [.inr (.int, [(.int e0), (.int e1), (.int e2), (.int e3)]), .inr (.int, [(.int (own_c [(N0 + 1)] 0)), (.int (own_p [(N0 + 1)] 1)), (.int (own_p [(N0 + 1)] 2)), (.int (own_p [(N0 + 1)] 3)), (.int (own_p [(N0 + 1)] 4))])] 0 1 _ e0 e1 e2 e3 (own_p [(N0 + 1)] 2) (2 : Int32) (4 : Int32) 2 rfl rfl (by decide) rfl (by decide) (own_main [(e0, N0)] (faS hN0 fa0) (k := 2) (by decide))) (argsL := [(.ref (n0 + 1)), (.int (4 : Int32)), (.ref (n0 + 0)), (.int (1 : Int32)), (.int (2 : Int32))]) (rest := []) rfl rfl rfl rfl (leb rfl) (leb rfl) (leb rfl) (leb rfl) (st' := [(.int (1 : Int32))]) rfl (k' := 2) rfl (n' := 9) rfl ?_
      refine H.ifF s0_152 (show ¬ (1 : Int32) = (0 : Int32) by decide) ?_
      refine H.aload s0_155 rfl rfl ?_
      refine H.iload s0_157 rfl ?_
      refine H.aload s0_159 rfl rfl ?_
      refine H.iload s0_161 rfl ?_
      refine H.iconst s0_163 (v := (3 : Int32)) (by decide) ?_
      refine H.callSD s0_164 (k_6 hw) (m_at1 l hw n0 [.inr (.int, [(.int e0), (.int e1), (.int e2), (.int e3)]), .inr (.int, [(.int (own_c [(N0 + 1)] 0)), (.int (own_p [(N0 + 1)] 1)), (.int (own_p [(N0 + 1)] 2)), (.int (own_p [(N0 + 1)] 3)), (.int (own_p [(N0 + 1)] 4))])] 0 1 _ e0 e1 e2 e3 (own_p [(N0 + 1)] 3) (3 : Int32) (4 : Int32) 3 rfl rfl (by decide) rfl (by decide) (own_main [(e0, N0)] (faS hN0 fa0) (k := 3) (by decide))) (argsL := [(.ref (n0 + 1)), (.int (4 : Int32)), (.ref (n0 + 0)), (.int (1 : Int32)), (.int (3 : Int32))]) (rest := []) rfl rfl rfl rfl (leb rfl) (leb rfl) (leb rfl) (leb rfl) (st' := [(.int (1 : Int32))]) rfl (k' := 2) rfl (n' := 9) rfl ?_
      refine H.ifF s0_167 (show ¬ (1 : Int32) = (0 : Int32) by decide) ?_
      refine H.aload s0_170 rfl rfl ?_
      refine H.iload s0_172 rfl ?_
      refine H.aload s0_174 rfl rfl ?_
      refine H.iload s0_176 rfl ?_
      refine H.iconst s0_178 (v := (4 : Int32)) (by decide) ?_
      refine H.callSD s0_179 (k_6 hw) (m_at1 l hw n0 [.inr (.int, [(.int e0), (.int e1), (.int e2), (.int e3)]), .inr (.int, [(.int (own_c [(N0 + 1)] 0)), (.int (own_p [(N0 + 1)] 1)), (.int (own_p [(N0 + 1)] 2)), (.int (own_p [(N0 + 1)] 3)), (.int (own_p [(N0 + 1)] 4))])] 0 1 _ e0 e1 e2 e3 (own_p [(N0 + 1)] 4) (4 : Int32) (4 : Int32) 4 rfl rfl (by decide) rfl (by decide) (own_main [(e0, N0)] (faS hN0 fa0) (k := 4) (by decide))) (argsL := [(.ref (n0 + 1)), (.int (4 : Int32)), (.ref (n0 + 0)), (.int (1 : Int32)), (.int (4 : Int32))]) (rest := []) rfl rfl rfl rfl (leb rfl) (leb rfl) (leb rfl) (leb rfl) (st' := [(.int (1 : Int32))]) rfl (k' := 2) rfl (n' := 9) rfl ?_
      refine H.ifF s0_182 (show ¬ (1 : Int32) = (0 : Int32) by decide) ?_
      refine H.aload s0_185 rfl rfl ?_
      refine H.iload s0_187 rfl ?_
      refine H.aload s0_189 rfl rfl ?_
      refine H.iload s0_191 rfl ?_
      refine H.iconst s0_193 (v := (5 : Int32)) (by decide) ?_
      refine H.callSD s0_194 (k_6 hw) (m_atT l hw n0 [.inr (.int, [(.int e0), (.int e1), (.int e2), (.int e3)]), .inr (.int, [(.int (own_c [(N0 + 1)] 0)), (.int (own_p [(N0 + 1)] 1)), (.int (own_p [(N0 + 1)] 2)), (.int (own_p [(N0 + 1)] 3)), (.int (own_p [(N0 + 1)] 4))])] 0 1 (4 : Int32) (1 : Int32) (5 : Int32) (by decide)) (argsL := [(.ref (n0 + 1)), (.int (4 : Int32)), (.ref (n0 + 0)), (.int (1 : Int32)), (.int (5 : Int32))]) (rest := []) rfl rfl rfl rfl (leb rfl) (leb rfl) (leb rfl) (leb rfl) (st' := [(.int (1 : Int32))]) rfl (k' := 2) rfl (n' := 9) rfl ?_
      refine H.ifF s0_197 (show ¬ (1 : Int32) = (0 : Int32) by decide) ?_
      refine H.iconst s0_200 (v := (1 : Int32)) (by decide) ?_
      refine H.goto s0_201 ?_
      exact H.ireturn s0_205 rfl (by simp) rfl rfl (by decide) (by decide)
    · refine H.irem s0_25 (by decide) (w := (2 : Int32)) hz25 ?_
      refine H.istore s0_26 (ls' := #[.val (.int p0), .val (.int p1), .val (.int p2), .val (.int p3), .val (.int p4), .val (.int p5), .val (.int (4 : Int32)), .val (.int (2 : Int32)), .unset, .unset]) rfl ?_
      refine H.iconst s0_28 (v := (4 : Int32)) (by decide) ?_
      refine H.newarray s0_29 (ty := .int) rfl (k_3 hw) (N := 4) (cap := 4) (by decide) rfl (by decide) (by decide) rfl (by decide) (by decide) (i := 0) rfl (A' := [.inr (.int, [(.int (0 : Int32)), (.int (0 : Int32)), (.int (0 : Int32)), (.int (0 : Int32))])]) rfl (k' := 1) rfl (n' := 4) rfl ?_
      refine H.astore s0_31 rfl (ls' := #[.val (.int p0), .val (.int p1), .val (.int p2), .val (.int p3), .val (.int p4), .val (.int p5), .val (.int (4 : Int32)), .val (.int (2 : Int32)), .val (.ref (n0 + 0)), .unset]) rfl ?_
      refine H.iload s0_33 rfl ?_
      refine H.ifF s0_35 (show (0 : Int32) < (4 : Int32) by decide) ?_
      refine H.aload s0_38 rfl rfl ?_
      refine H.iconst s0_40 (v := (0 : Int32)) (by decide) ?_
      refine H.iloadN s0_41 rfl ?_
      refine H.ldc s0_42 (k_2 hw) ?_
      refine H.iand s0_44 rfl ?_
      refine H.iload s0_45 rfl ?_
      obtain ⟨e0, he0⟩ : ∃ z, z = ((p0 &&& (2147483647 : Int32)) % (4 : Int32)) := ⟨_, rfl⟩
      obtain ⟨N0, hN0, lN0⟩ := own_N p0 4 4 (by decide) (by decide)
      rw [← he0] at hN0
      refine H.irem s0_47 (by decide) he0.symm ?_
      refine H.iastore s0_48 (i := 0) (j := 0) rfl (by decide) (ltb rfl)  (A' := [.inr (.int, [(.int e0), (.int (0 : Int32)), (.int (0 : Int32)), (.int (0 : Int32))])]) rfl ?_
      refine H.aload s0_49 rfl rfl ?_
      refine H.iconst s0_51 (v := (1 : Int32)) (by decide) ?_
      refine H.iloadN s0_52 rfl ?_
      refine H.ldc s0_53 (k_2 hw) ?_
      refine H.iand s0_55 rfl ?_
      refine H.iload s0_56 rfl ?_
      obtain ⟨e1, he1⟩ : ∃ z, z = ((p1 &&& (2147483647 : Int32)) % (4 : Int32)) := ⟨_, rfl⟩
      obtain ⟨N1, hN1, lN1⟩ := own_N p1 4 4 (by decide) (by decide)
      rw [← he1] at hN1
      refine H.irem s0_58 (by decide) he1.symm ?_
      refine H.iastore s0_59 (i := 0) (j := 1) rfl (by decide) (ltb rfl)  (A' := [.inr (.int, [(.int e0), (.int e1), (.int (0 : Int32)), (.int (0 : Int32))])]) rfl ?_
      refine H.aload s0_60 rfl rfl ?_
      refine H.iconst s0_62 (v := (2 : Int32)) (by decide) ?_
      refine H.iloadN s0_63 rfl ?_
      refine H.ldc s0_64 (k_2 hw) ?_
      refine H.iand s0_66 rfl ?_
      refine H.iload s0_67 rfl ?_
      obtain ⟨e2, he2⟩ : ∃ z, z = ((p2 &&& (2147483647 : Int32)) % (4 : Int32)) := ⟨_, rfl⟩
      obtain ⟨N2, hN2, lN2⟩ := own_N p2 4 4 (by decide) (by decide)
      rw [← he2] at hN2
      refine H.irem s0_69 (by decide) he2.symm ?_
      refine H.iastore s0_70 (i := 0) (j := 2) rfl (by decide) (ltb rfl)  (A' := [.inr (.int, [(.int e0), (.int e1), (.int e2), (.int (0 : Int32))])]) rfl ?_
      refine H.aload s0_71 rfl rfl ?_
      refine H.iconst s0_73 (v := (3 : Int32)) (by decide) ?_
      refine H.iloadN s0_74 rfl ?_
      refine H.ldc s0_75 (k_2 hw) ?_
      refine H.iand s0_77 rfl ?_
      refine H.iload s0_78 rfl ?_
      obtain ⟨e3, he3⟩ : ∃ z, z = ((p3 &&& (2147483647 : Int32)) % (4 : Int32)) := ⟨_, rfl⟩
      obtain ⟨N3, hN3, lN3⟩ := own_N p3 4 4 (by decide) (by decide)
      rw [← he3] at hN3
      refine H.irem s0_80 (by decide) he3.symm ?_
      refine H.iastore s0_81 (i := 0) (j := 3) rfl (by decide) (ltb rfl)  (A' := [.inr (.int, [(.int e0), (.int e1), (.int e2), (.int e3)])]) rfl ?_
      refine H.aload s0_82 rfl rfl ?_
      refine H.iload s0_84 rfl ?_
      refine H.iload s0_86 rfl ?_
      refine H.callSD s0_88 (k_5 hw) (a_18 l hw n0 e0 e1 e2 e3 hN0 lN0 hN1 lN1 hN2 lN2 hN3 lN3) (argsL := [(.ref (n0 + 0)), (.int (2 : Int32)), (.int (4 : Int32))]) (rest := []) rfl rfl rfl rfl (leb rfl) (leb rfl) (leb rfl) (leb rfl) (st' := [(.ref (n0 + 1))]) rfl (k' := 2) rfl (n' := 9) rfl ?_
      refine H.astore s0_91 rfl (ls' := #[.val (.int p0), .val (.int p1), .val (.int p2), .val (.int p3), .val (.int p4), .val (.int p5), .val (.int (4 : Int32)), .val (.int (2 : Int32)), .val (.ref (n0 + 0)), .val (.ref (n0 + 1))]) rfl ?_
      refine H.aload s0_93 rfl rfl ?_
      refine H.ifnullF s0_95 ?_
      refine H.aload s0_98 rfl rfl ?_
      refine H.arraylength s0_100 (i := 1) rfl (z := (5 : Int32)) rfl ?_
      refine H.iload s0_101 rfl ?_
      refine H.iconst s0_103 (v := (1 : Int32)) (by decide) ?_
      refine H.iadd s0_104 (w := (5 : Int32)) (by decide) ?_
      refine H.icmpT s0_105 (show (5 : Int32) = (5 : Int32) by decide) ?_
      refine H.aload s0_110 rfl rfl ?_
      refine H.iload s0_112 rfl ?_
      refine H.aload s0_114 rfl rfl ?_
      refine H.iload s0_116 rfl ?_
      refine H.iconst s0_118 (v := (0 : Int32)) (by decide) ?_
      refine H.callSD s0_119 (k_6 hw) (m_at2 l hw n0 [.inr (.int, [(.int e0), (.int e1), (.int e2), (.int e3)]), .inr (.int, [(.int (own_c [(N1 + 1), (N0 + 1)] 0)), (.int (own_p [(N1 + 1), (N0 + 1)] 1)), (.int (own_p [(N1 + 1), (N0 + 1)] 2)), (.int (own_p [(N1 + 1), (N0 + 1)] 3)), (.int (own_p [(N1 + 1), (N0 + 1)] 4))])] 0 1 _ e0 e1 e2 e3 (own_c [(N1 + 1), (N0 + 1)] 0) (0 : Int32) (4 : Int32) 0 rfl rfl (by decide) rfl (by decide) (own_main [(e1, N1), (e0, N0)] (faS hN1 (faS hN0 fa0)) (k := 0) (by decide))) (argsL := [(.ref (n0 + 1)), (.int (4 : Int32)), (.ref (n0 + 0)), (.int (2 : Int32)), (.int (0 : Int32))]) (rest := []) rfl rfl rfl rfl (leb rfl) (leb rfl) (leb rfl) (leb rfl) (st' := [(.int (1 : Int32))]) rfl (k' := 2) rfl (n' := 9) rfl ?_
      refine H.ifF s0_122 (show ¬ (1 : Int32) = (0 : Int32) by decide) ?_
      refine H.aload s0_125 rfl rfl ?_
      refine H.iload s0_127 rfl ?_
      refine H.aload s0_129 rfl rfl ?_
      refine H.iload s0_131 rfl ?_
      refine H.iconst s0_133 (v := (1 : Int32)) (by decide) ?_
      refine H.callSD s0_134 (k_6 hw) (m_at2 l hw n0 [.inr (.int, [(.int e0), (.int e1), (.int e2), (.int e3)]), .inr (.int, [(.int (own_c [(N1 + 1), (N0 + 1)] 0)), (.int (own_p [(N1 + 1), (N0 + 1)] 1)), (.int (own_p [(N1 + 1), (N0 + 1)] 2)), (.int (own_p [(N1 + 1), (N0 + 1)] 3)), (.int (own_p [(N1 + 1), (N0 + 1)] 4))])] 0 1 _ e0 e1 e2 e3 (own_p [(N1 + 1), (N0 + 1)] 1) (1 : Int32) (4 : Int32) 1 rfl rfl (by decide) rfl (by decide) (own_main [(e1, N1), (e0, N0)] (faS hN1 (faS hN0 fa0)) (k := 1) (by decide))) (argsL := [(.ref (n0 + 1)), (.int (4 : Int32)), (.ref (n0 + 0)), (.int (2 : Int32)), (.int (1 : Int32))]) (rest := []) rfl rfl rfl rfl (leb rfl) (leb rfl) (leb rfl) (leb rfl) (st' := [(.int (1 : Int32))]) rfl (k' := 2) rfl (n' := 9) rfl ?_
      refine H.ifF s0_137 (show ¬ (1 : Int32) = (0 : Int32) by decide) ?_
      refine H.aload s0_140 rfl rfl ?_
      refine H.iload s0_142 rfl ?_
      refine H.aload s0_144 rfl rfl ?_
      refine H.iload s0_146 rfl ?_
      refine H.iconst s0_148 (v := (2 : Int32)) (by decide) ?_
      refine H.callSD s0_149 (k_6 hw) (m_at2 l hw n0 [.inr (.int, [(.int e0), (.int e1), (.int e2), (.int e3)]), .inr (.int, [(.int (own_c [(N1 + 1), (N0 + 1)] 0)), (.int (own_p [(N1 + 1), (N0 + 1)] 1)), (.int (own_p [(N1 + 1), (N0 + 1)] 2)), (.int (own_p [(N1 + 1), (N0 + 1)] 3)), (.int (own_p [(N1 + 1), (N0 + 1)] 4))])] 0 1 _ e0 e1 e2 e3 (own_p [(N1 + 1), (N0 + 1)] 2) (2 : Int32) (4 : Int32) 2 rfl rfl (by decide) rfl (by decide) (own_main [(e1, N1), (e0, N0)] (faS hN1 (faS hN0 fa0)) (k := 2) (by decide))) (argsL := [(.ref (n0 + 1)), (.int (4 : Int32)), (.ref (n0 + 0)), (.int (2 : Int32)), (.int (2 : Int32))]) (rest := []) rfl rfl rfl rfl (leb rfl) (leb rfl) (leb rfl) (leb rfl) (st' := [(.int (1 : Int32))]) rfl (k' := 2) rfl (n' := 9) rfl ?_
      refine H.ifF s0_152 (show ¬ (1 : Int32) = (0 : Int32) by decide) ?_
      refine H.aload s0_155 rfl rfl ?_
      refine H.iload s0_157 rfl ?_
      refine H.aload s0_159 rfl rfl ?_
      refine H.iload s0_161 rfl ?_
      refine H.iconst s0_163 (v := (3 : Int32)) (by decide) ?_
      refine H.callSD s0_164 (k_6 hw) (m_at2 l hw n0 [.inr (.int, [(.int e0), (.int e1), (.int e2), (.int e3)]), .inr (.int, [(.int (own_c [(N1 + 1), (N0 + 1)] 0)), (.int (own_p [(N1 + 1), (N0 + 1)] 1)), (.int (own_p [(N1 + 1), (N0 + 1)] 2)), (.int (own_p [(N1 + 1), (N0 + 1)] 3)), (.int (own_p [(N1 + 1), (N0 + 1)] 4))])] 0 1 _ e0 e1 e2 e3 (own_p [(N1 + 1), (N0 + 1)] 3) (3 : Int32) (4 : Int32) 3 rfl rfl (by decide) rfl (by decide) (own_main [(e1, N1), (e0, N0)] (faS hN1 (faS hN0 fa0)) (k := 3) (by decide))) (argsL := [(.ref (n0 + 1)), (.int (4 : Int32)), (.ref (n0 + 0)), (.int (2 : Int32)), (.int (3 : Int32))]) (rest := []) rfl rfl rfl rfl (leb rfl) (leb rfl) (leb rfl) (leb rfl) (st' := [(.int (1 : Int32))]) rfl (k' := 2) rfl (n' := 9) rfl ?_
      refine H.ifF s0_167 (show ¬ (1 : Int32) = (0 : Int32) by decide) ?_
      refine H.aload s0_170 rfl rfl ?_
      refine H.iload s0_172 rfl ?_
      refine H.aload s0_174 rfl rfl ?_
      refine H.iload s0_176 rfl ?_
      refine H.iconst s0_178 (v := (4 : Int32)) (by decide) ?_
      refine H.callSD s0_179 (k_6 hw) (m_at2 l hw n0 [.inr (.int, [(.int e0), (.int e1), (.int e2), (.int e3)]), .inr (.int, [(.int (own_c [(N1 + 1), (N0 + 1)] 0)), (.int (own_p [(N1 + 1), (N0 + 1)] 1)), (.int (own_p [(N1 + 1), (N0 + 1)] 2)), (.int (own_p [(N1 + 1), (N0 + 1)] 3)), (.int (own_p [(N1 + 1), (N0 + 1)] 4))])] 0 1 _ e0 e1 e2 e3 (own_p [(N1 + 1), (N0 + 1)] 4) (4 : Int32) (4 : Int32) 4 rfl rfl (by decide) rfl (by decide) (own_main [(e1, N1), (e0, N0)] (faS hN1 (faS hN0 fa0)) (k := 4) (by decide))) (argsL := [(.ref (n0 + 1)), (.int (4 : Int32)), (.ref (n0 + 0)), (.int (2 : Int32)), (.int (4 : Int32))]) (rest := []) rfl rfl rfl rfl (leb rfl) (leb rfl) (leb rfl) (leb rfl) (st' := [(.int (1 : Int32))]) rfl (k' := 2) rfl (n' := 9) rfl ?_
      refine H.ifF s0_182 (show ¬ (1 : Int32) = (0 : Int32) by decide) ?_
      refine H.aload s0_185 rfl rfl ?_
      refine H.iload s0_187 rfl ?_
      refine H.aload s0_189 rfl rfl ?_
      refine H.iload s0_191 rfl ?_
      refine H.iconst s0_193 (v := (5 : Int32)) (by decide) ?_
      refine H.callSD s0_194 (k_6 hw) (m_atT l hw n0 [.inr (.int, [(.int e0), (.int e1), (.int e2), (.int e3)]), .inr (.int, [(.int (own_c [(N1 + 1), (N0 + 1)] 0)), (.int (own_p [(N1 + 1), (N0 + 1)] 1)), (.int (own_p [(N1 + 1), (N0 + 1)] 2)), (.int (own_p [(N1 + 1), (N0 + 1)] 3)), (.int (own_p [(N1 + 1), (N0 + 1)] 4))])] 0 1 (4 : Int32) (2 : Int32) (5 : Int32) (by decide)) (argsL := [(.ref (n0 + 1)), (.int (4 : Int32)), (.ref (n0 + 0)), (.int (2 : Int32)), (.int (5 : Int32))]) (rest := []) rfl rfl rfl rfl (leb rfl) (leb rfl) (leb rfl) (leb rfl) (st' := [(.int (1 : Int32))]) rfl (k' := 2) rfl (n' := 9) rfl ?_
      refine H.ifF s0_197 (show ¬ (1 : Int32) = (0 : Int32) by decide) ?_
      refine H.iconst s0_200 (v := (1 : Int32)) (by decide) ?_
      refine H.goto s0_201 ?_
      exact H.ireturn s0_205 rfl (by simp) rfl rfl (by decide) (by decide)
    · refine H.irem s0_25 (by decide) (w := (3 : Int32)) hz25 ?_
      refine H.istore s0_26 (ls' := #[.val (.int p0), .val (.int p1), .val (.int p2), .val (.int p3), .val (.int p4), .val (.int p5), .val (.int (4 : Int32)), .val (.int (3 : Int32)), .unset, .unset]) rfl ?_
      refine H.iconst s0_28 (v := (4 : Int32)) (by decide) ?_
      refine H.newarray s0_29 (ty := .int) rfl (k_3 hw) (N := 4) (cap := 4) (by decide) rfl (by decide) (by decide) rfl (by decide) (by decide) (i := 0) rfl (A' := [.inr (.int, [(.int (0 : Int32)), (.int (0 : Int32)), (.int (0 : Int32)), (.int (0 : Int32))])]) rfl (k' := 1) rfl (n' := 4) rfl ?_
      refine H.astore s0_31 rfl (ls' := #[.val (.int p0), .val (.int p1), .val (.int p2), .val (.int p3), .val (.int p4), .val (.int p5), .val (.int (4 : Int32)), .val (.int (3 : Int32)), .val (.ref (n0 + 0)), .unset]) rfl ?_
      refine H.iload s0_33 rfl ?_
      refine H.ifF s0_35 (show (0 : Int32) < (4 : Int32) by decide) ?_
      refine H.aload s0_38 rfl rfl ?_
      refine H.iconst s0_40 (v := (0 : Int32)) (by decide) ?_
      refine H.iloadN s0_41 rfl ?_
      refine H.ldc s0_42 (k_2 hw) ?_
      refine H.iand s0_44 rfl ?_
      refine H.iload s0_45 rfl ?_
      obtain ⟨e0, he0⟩ : ∃ z, z = ((p0 &&& (2147483647 : Int32)) % (4 : Int32)) := ⟨_, rfl⟩
      obtain ⟨N0, hN0, lN0⟩ := own_N p0 4 4 (by decide) (by decide)
      rw [← he0] at hN0
      refine H.irem s0_47 (by decide) he0.symm ?_
      refine H.iastore s0_48 (i := 0) (j := 0) rfl (by decide) (ltb rfl)  (A' := [.inr (.int, [(.int e0), (.int (0 : Int32)), (.int (0 : Int32)), (.int (0 : Int32))])]) rfl ?_
      refine H.aload s0_49 rfl rfl ?_
      refine H.iconst s0_51 (v := (1 : Int32)) (by decide) ?_
      refine H.iloadN s0_52 rfl ?_
      refine H.ldc s0_53 (k_2 hw) ?_
      refine H.iand s0_55 rfl ?_
      refine H.iload s0_56 rfl ?_
      obtain ⟨e1, he1⟩ : ∃ z, z = ((p1 &&& (2147483647 : Int32)) % (4 : Int32)) := ⟨_, rfl⟩
      obtain ⟨N1, hN1, lN1⟩ := own_N p1 4 4 (by decide) (by decide)
      rw [← he1] at hN1
      refine H.irem s0_58 (by decide) he1.symm ?_
      refine H.iastore s0_59 (i := 0) (j := 1) rfl (by decide) (ltb rfl)  (A' := [.inr (.int, [(.int e0), (.int e1), (.int (0 : Int32)), (.int (0 : Int32))])]) rfl ?_
      refine H.aload s0_60 rfl rfl ?_
      refine H.iconst s0_62 (v := (2 : Int32)) (by decide) ?_
      refine H.iloadN s0_63 rfl ?_
      refine H.ldc s0_64 (k_2 hw) ?_
      refine H.iand s0_66 rfl ?_
      refine H.iload s0_67 rfl ?_
      obtain ⟨e2, he2⟩ : ∃ z, z = ((p2 &&& (2147483647 : Int32)) % (4 : Int32)) := ⟨_, rfl⟩
      obtain ⟨N2, hN2, lN2⟩ := own_N p2 4 4 (by decide) (by decide)
      rw [← he2] at hN2
      refine H.irem s0_69 (by decide) he2.symm ?_
      refine H.iastore s0_70 (i := 0) (j := 2) rfl (by decide) (ltb rfl)  (A' := [.inr (.int, [(.int e0), (.int e1), (.int e2), (.int (0 : Int32))])]) rfl ?_
      refine H.aload s0_71 rfl rfl ?_
      refine H.iconst s0_73 (v := (3 : Int32)) (by decide) ?_
      refine H.iloadN s0_74 rfl ?_
      refine H.ldc s0_75 (k_2 hw) ?_
      refine H.iand s0_77 rfl ?_
      refine H.iload s0_78 rfl ?_
      obtain ⟨e3, he3⟩ : ∃ z, z = ((p3 &&& (2147483647 : Int32)) % (4 : Int32)) := ⟨_, rfl⟩
      obtain ⟨N3, hN3, lN3⟩ := own_N p3 4 4 (by decide) (by decide)
      rw [← he3] at hN3
      refine H.irem s0_80 (by decide) he3.symm ?_
      refine H.iastore s0_81 (i := 0) (j := 3) rfl (by decide) (ltb rfl)  (A' := [.inr (.int, [(.int e0), (.int e1), (.int e2), (.int e3)])]) rfl ?_
      refine H.aload s0_82 rfl rfl ?_
      refine H.iload s0_84 rfl ?_
      refine H.iload s0_86 rfl ?_
      refine H.callSD s0_88 (k_5 hw) (a_19 l hw n0 e0 e1 e2 e3 hN0 lN0 hN1 lN1 hN2 lN2 hN3 lN3) (argsL := [(.ref (n0 + 0)), (.int (3 : Int32)), (.int (4 : Int32))]) (rest := []) rfl rfl rfl rfl (leb rfl) (leb rfl) (leb rfl) (leb rfl) (st' := [(.ref (n0 + 1))]) rfl (k' := 2) rfl (n' := 9) rfl ?_
      refine H.astore s0_91 rfl (ls' := #[.val (.int p0), .val (.int p1), .val (.int p2), .val (.int p3), .val (.int p4), .val (.int p5), .val (.int (4 : Int32)), .val (.int (3 : Int32)), .val (.ref (n0 + 0)), .val (.ref (n0 + 1))]) rfl ?_
      refine H.aload s0_93 rfl rfl ?_
      refine H.ifnullF s0_95 ?_
      refine H.aload s0_98 rfl rfl ?_
      refine H.arraylength s0_100 (i := 1) rfl (z := (5 : Int32)) rfl ?_
      refine H.iload s0_101 rfl ?_
      refine H.iconst s0_103 (v := (1 : Int32)) (by decide) ?_
      refine H.iadd s0_104 (w := (5 : Int32)) (by decide) ?_
      refine H.icmpT s0_105 (show (5 : Int32) = (5 : Int32) by decide) ?_
      refine H.aload s0_110 rfl rfl ?_
      refine H.iload s0_112 rfl ?_
      refine H.aload s0_114 rfl rfl ?_
      refine H.iload s0_116 rfl ?_
      refine H.iconst s0_118 (v := (0 : Int32)) (by decide) ?_
      refine H.callSD s0_119 (k_6 hw) (m_at3 l hw n0 [.inr (.int, [(.int e0), (.int e1), (.int e2), (.int e3)]), .inr (.int, [(.int (own_c [(N2 + 1), (N1 + 1), (N0 + 1)] 0)), (.int (own_p [(N2 + 1), (N1 + 1), (N0 + 1)] 1)), (.int (own_p [(N2 + 1), (N1 + 1), (N0 + 1)] 2)), (.int (own_p [(N2 + 1), (N1 + 1), (N0 + 1)] 3)), (.int (own_p [(N2 + 1), (N1 + 1), (N0 + 1)] 4))])] 0 1 _ e0 e1 e2 e3 (own_c [(N2 + 1), (N1 + 1), (N0 + 1)] 0) (0 : Int32) (4 : Int32) 0 rfl rfl (by decide) rfl (by decide) (own_main [(e2, N2), (e1, N1), (e0, N0)] (faS hN2 (faS hN1 (faS hN0 fa0))) (k := 0) (by decide))) (argsL := [(.ref (n0 + 1)), (.int (4 : Int32)), (.ref (n0 + 0)), (.int (3 : Int32)), (.int (0 : Int32))]) (rest := []) rfl rfl rfl rfl (leb rfl) (leb rfl) (leb rfl) (leb rfl) (st' := [(.int (1 : Int32))]) rfl (k' := 2) rfl (n' := 9) rfl ?_
      refine H.ifF s0_122 (show ¬ (1 : Int32) = (0 : Int32) by decide) ?_
      refine H.aload s0_125 rfl rfl ?_
      refine H.iload s0_127 rfl ?_
      refine H.aload s0_129 rfl rfl ?_
      refine H.iload s0_131 rfl ?_
      refine H.iconst s0_133 (v := (1 : Int32)) (by decide) ?_
      refine H.callSD s0_134 (k_6 hw) (m_at3 l hw n0 [.inr (.int, [(.int e0), (.int e1), (.int e2), (.int e3)]), .inr (.int, [(.int (own_c [(N2 + 1), (N1 + 1), (N0 + 1)] 0)), (.int (own_p [(N2 + 1), (N1 + 1), (N0 + 1)] 1)), (.int (own_p [(N2 + 1), (N1 + 1), (N0 + 1)] 2)), (.int (own_p [(N2 + 1), (N1 + 1), (N0 + 1)] 3)), (.int (own_p [(N2 + 1), (N1 + 1), (N0 + 1)] 4))])] 0 1 _ e0 e1 e2 e3 (own_p [(N2 + 1), (N1 + 1), (N0 + 1)] 1) (1 : Int32) (4 : Int32) 1 rfl rfl (by decide) rfl (by decide) (own_main [(e2, N2), (e1, N1), (e0, N0)] (faS hN2 (faS hN1 (faS hN0 fa0))) (k := 1) (by decide))) (argsL := [(.ref (n0 + 1)), (.int (4 : Int32)), (.ref (n0 + 0)), (.int (3 : Int32)), (.int (1 : Int32))]) (rest := []) rfl rfl rfl rfl (leb rfl) (leb rfl) (leb rfl) (leb rfl) (st' := [(.int (1 : Int32))]) rfl (k' := 2) rfl (n' := 9) rfl ?_
      refine H.ifF s0_137 (show ¬ (1 : Int32) = (0 : Int32) by decide) ?_
      refine H.aload s0_140 rfl rfl ?_
      refine H.iload s0_142 rfl ?_
      refine H.aload s0_144 rfl rfl ?_
      refine H.iload s0_146 rfl ?_
      refine H.iconst s0_148 (v := (2 : Int32)) (by decide) ?_
      refine H.callSD s0_149 (k_6 hw) (m_at3 l hw n0 [.inr (.int, [(.int e0), (.int e1), (.int e2), (.int e3)]), .inr (.int, [(.int (own_c [(N2 + 1), (N1 + 1), (N0 + 1)] 0)), (.int (own_p [(N2 + 1), (N1 + 1), (N0 + 1)] 1)), (.int (own_p [(N2 + 1), (N1 + 1), (N0 + 1)] 2)), (.int (own_p [(N2 + 1), (N1 + 1), (N0 + 1)] 3)), (.int (own_p [(N2 + 1), (N1 + 1), (N0 + 1)] 4))])] 0 1 _ e0 e1 e2 e3 (own_p [(N2 + 1), (N1 + 1), (N0 + 1)] 2) (2 : Int32) (4 : Int32) 2 rfl rfl (by decide) rfl (by decide) (own_main [(e2, N2), (e1, N1), (e0, N0)] (faS hN2 (faS hN1 (faS hN0 fa0))) (k := 2) (by decide))) (argsL := [(.ref (n0 + 1)), (.int (4 : Int32)), (.ref (n0 + 0)), (.int (3 : Int32)), (.int (2 : Int32))]) (rest := []) rfl rfl rfl rfl (leb rfl) (leb rfl) (leb rfl) (leb rfl) (st' := [(.int (1 : Int32))]) rfl (k' := 2) rfl (n' := 9) rfl ?_
      refine H.ifF s0_152 (show ¬ (1 : Int32) = (0 : Int32) by decide) ?_
      refine H.aload s0_155 rfl rfl ?_
      refine H.iload s0_157 rfl ?_
      refine H.aload s0_159 rfl rfl ?_
      refine H.iload s0_161 rfl ?_
      refine H.iconst s0_163 (v := (3 : Int32)) (by decide) ?_
      refine H.callSD s0_164 (k_6 hw) (m_at3 l hw n0 [.inr (.int, [(.int e0), (.int e1), (.int e2), (.int e3)]), .inr (.int, [(.int (own_c [(N2 + 1), (N1 + 1), (N0 + 1)] 0)), (.int (own_p [(N2 + 1), (N1 + 1), (N0 + 1)] 1)), (.int (own_p [(N2 + 1), (N1 + 1), (N0 + 1)] 2)), (.int (own_p [(N2 + 1), (N1 + 1), (N0 + 1)] 3)), (.int (own_p [(N2 + 1), (N1 + 1), (N0 + 1)] 4))])] 0 1 _ e0 e1 e2 e3 (own_p [(N2 + 1), (N1 + 1), (N0 + 1)] 3) (3 : Int32) (4 : Int32) 3 rfl rfl (by decide) rfl (by decide) (own_main [(e2, N2), (e1, N1), (e0, N0)] (faS hN2 (faS hN1 (faS hN0 fa0))) (k := 3) (by decide))) (argsL := [(.ref (n0 + 1)), (.int (4 : Int32)), (.ref (n0 + 0)), (.int (3 : Int32)), (.int (3 : Int32))]) (rest := []) rfl rfl rfl rfl (leb rfl) (leb rfl) (leb rfl) (leb rfl) (st' := [(.int (1 : Int32))]) rfl (k' := 2) rfl (n' := 9) rfl ?_
      refine H.ifF s0_167 (show ¬ (1 : Int32) = (0 : Int32) by decide) ?_
      refine H.aload s0_170 rfl rfl ?_
      refine H.iload s0_172 rfl ?_
      refine H.aload s0_174 rfl rfl ?_
      refine H.iload s0_176 rfl ?_
      refine H.iconst s0_178 (v := (4 : Int32)) (by decide) ?_
      refine H.callSD s0_179 (k_6 hw) (m_at3 l hw n0 [.inr (.int, [(.int e0), (.int e1), (.int e2), (.int e3)]), .inr (.int, [(.int (own_c [(N2 + 1), (N1 + 1), (N0 + 1)] 0)), (.int (own_p [(N2 + 1), (N1 + 1), (N0 + 1)] 1)), (.int (own_p [(N2 + 1), (N1 + 1), (N0 + 1)] 2)), (.int (own_p [(N2 + 1), (N1 + 1), (N0 + 1)] 3)), (.int (own_p [(N2 + 1), (N1 + 1), (N0 + 1)] 4))])] 0 1 _ e0 e1 e2 e3 (own_p [(N2 + 1), (N1 + 1), (N0 + 1)] 4) (4 : Int32) (4 : Int32) 4 rfl rfl (by decide) rfl (by decide) (own_main [(e2, N2), (e1, N1), (e0, N0)] (faS hN2 (faS hN1 (faS hN0 fa0))) (k := 4) (by decide))) (argsL := [(.ref (n0 + 1)), (.int (4 : Int32)), (.ref (n0 + 0)), (.int (3 : Int32)), (.int (4 : Int32))]) (rest := []) rfl rfl rfl rfl (leb rfl) (leb rfl) (leb rfl) (leb rfl) (st' := [(.int (1 : Int32))]) rfl (k' := 2) rfl (n' := 9) rfl ?_
      refine H.ifF s0_182 (show ¬ (1 : Int32) = (0 : Int32) by decide) ?_
      refine H.aload s0_185 rfl rfl ?_
      refine H.iload s0_187 rfl ?_
      refine H.aload s0_189 rfl rfl ?_
      refine H.iload s0_191 rfl ?_
      refine H.iconst s0_193 (v := (5 : Int32)) (by decide) ?_
      refine H.callSD s0_194 (k_6 hw) (m_atT l hw n0 [.inr (.int, [(.int e0), (.int e1), (.int e2), (.int e3)]), .inr (.int, [(.int (own_c [(N2 + 1), (N1 + 1), (N0 + 1)] 0)), (.int (own_p [(N2 + 1), (N1 + 1), (N0 + 1)] 1)), (.int (own_p [(N2 + 1), (N1 + 1), (N0 + 1)] 2)), (.int (own_p [(N2 + 1), (N1 + 1), (N0 + 1)] 3)), (.int (own_p [(N2 + 1), (N1 + 1), (N0 + 1)] 4))])] 0 1 (4 : Int32) (3 : Int32) (5 : Int32) (by decide)) (argsL := [(.ref (n0 + 1)), (.int (4 : Int32)), (.ref (n0 + 0)), (.int (3 : Int32)), (.int (5 : Int32))]) (rest := []) rfl rfl rfl rfl (leb rfl) (leb rfl) (leb rfl) (leb rfl) (st' := [(.int (1 : Int32))]) rfl (k' := 2) rfl (n' := 9) rfl ?_
      refine H.ifF s0_197 (show ¬ (1 : Int32) = (0 : Int32) by decide) ?_
      refine H.iconst s0_200 (v := (1 : Int32)) (by decide) ?_
      refine H.goto s0_201 ?_
      exact H.ireturn s0_205 rfl (by simp) rfl rfl (by decide) (by decide)
    · refine H.irem s0_25 (by decide) (w := (4 : Int32)) hz25 ?_
      refine H.istore s0_26 (ls' := #[.val (.int p0), .val (.int p1), .val (.int p2), .val (.int p3), .val (.int p4), .val (.int p5), .val (.int (4 : Int32)), .val (.int (4 : Int32)), .unset, .unset]) rfl ?_
      refine H.iconst s0_28 (v := (4 : Int32)) (by decide) ?_
      refine H.newarray s0_29 (ty := .int) rfl (k_3 hw) (N := 4) (cap := 4) (by decide) rfl (by decide) (by decide) rfl (by decide) (by decide) (i := 0) rfl (A' := [.inr (.int, [(.int (0 : Int32)), (.int (0 : Int32)), (.int (0 : Int32)), (.int (0 : Int32))])]) rfl (k' := 1) rfl (n' := 4) rfl ?_
      refine H.astore s0_31 rfl (ls' := #[.val (.int p0), .val (.int p1), .val (.int p2), .val (.int p3), .val (.int p4), .val (.int p5), .val (.int (4 : Int32)), .val (.int (4 : Int32)), .val (.ref (n0 + 0)), .unset]) rfl ?_
      refine H.iload s0_33 rfl ?_
      refine H.ifF s0_35 (show (0 : Int32) < (4 : Int32) by decide) ?_
      refine H.aload s0_38 rfl rfl ?_
      refine H.iconst s0_40 (v := (0 : Int32)) (by decide) ?_
      refine H.iloadN s0_41 rfl ?_
      refine H.ldc s0_42 (k_2 hw) ?_
      refine H.iand s0_44 rfl ?_
      refine H.iload s0_45 rfl ?_
      obtain ⟨e0, he0⟩ : ∃ z, z = ((p0 &&& (2147483647 : Int32)) % (4 : Int32)) := ⟨_, rfl⟩
      obtain ⟨N0, hN0, lN0⟩ := own_N p0 4 4 (by decide) (by decide)
      rw [← he0] at hN0
      refine H.irem s0_47 (by decide) he0.symm ?_
      refine H.iastore s0_48 (i := 0) (j := 0) rfl (by decide) (ltb rfl)  (A' := [.inr (.int, [(.int e0), (.int (0 : Int32)), (.int (0 : Int32)), (.int (0 : Int32))])]) rfl ?_
      refine H.aload s0_49 rfl rfl ?_
      refine H.iconst s0_51 (v := (1 : Int32)) (by decide) ?_
      refine H.iloadN s0_52 rfl ?_
      refine H.ldc s0_53 (k_2 hw) ?_
      refine H.iand s0_55 rfl ?_
      refine H.iload s0_56 rfl ?_
      obtain ⟨e1, he1⟩ : ∃ z, z = ((p1 &&& (2147483647 : Int32)) % (4 : Int32)) := ⟨_, rfl⟩
      obtain ⟨N1, hN1, lN1⟩ := own_N p1 4 4 (by decide) (by decide)
      rw [← he1] at hN1
      refine H.irem s0_58 (by decide) he1.symm ?_
      refine H.iastore s0_59 (i := 0) (j := 1) rfl (by decide) (ltb rfl)  (A' := [.inr (.int, [(.int e0), (.int e1), (.int (0 : Int32)), (.int (0 : Int32))])]) rfl ?_
      refine H.aload s0_60 rfl rfl ?_
      refine H.iconst s0_62 (v := (2 : Int32)) (by decide) ?_
      refine H.iloadN s0_63 rfl ?_
      refine H.ldc s0_64 (k_2 hw) ?_
      refine H.iand s0_66 rfl ?_
      refine H.iload s0_67 rfl ?_
      obtain ⟨e2, he2⟩ : ∃ z, z = ((p2 &&& (2147483647 : Int32)) % (4 : Int32)) := ⟨_, rfl⟩
      obtain ⟨N2, hN2, lN2⟩ := own_N p2 4 4 (by decide) (by decide)
      rw [← he2] at hN2
      refine H.irem s0_69 (by decide) he2.symm ?_
      refine H.iastore s0_70 (i := 0) (j := 2) rfl (by decide) (ltb rfl)  (A' := [.inr (.int, [(.int e0), (.int e1), (.int e2), (.int (0 : Int32))])]) rfl ?_
      refine H.aload s0_71 rfl rfl ?_
      refine H.iconst s0_73 (v := (3 : Int32)) (by decide) ?_
      refine H.iloadN s0_74 rfl ?_
      refine H.ldc s0_75 (k_2 hw) ?_
      refine H.iand s0_77 rfl ?_
      refine H.iload s0_78 rfl ?_
      obtain ⟨e3, he3⟩ : ∃ z, z = ((p3 &&& (2147483647 : Int32)) % (4 : Int32)) := ⟨_, rfl⟩
      obtain ⟨N3, hN3, lN3⟩ := own_N p3 4 4 (by decide) (by decide)
      rw [← he3] at hN3
      refine H.irem s0_80 (by decide) he3.symm ?_
      refine H.iastore s0_81 (i := 0) (j := 3) rfl (by decide) (ltb rfl)  (A' := [.inr (.int, [(.int e0), (.int e1), (.int e2), (.int e3)])]) rfl ?_
      refine H.aload s0_82 rfl rfl ?_
      refine H.iload s0_84 rfl ?_
      refine H.iload s0_86 rfl ?_
      refine H.callSD s0_88 (k_5 hw) (a_20 l hw n0 e0 e1 e2 e3 hN0 lN0 hN1 lN1 hN2 lN2 hN3 lN3) (argsL := [(.ref (n0 + 0)), (.int (4 : Int32)), (.int (4 : Int32))]) (rest := []) rfl rfl rfl rfl (leb rfl) (leb rfl) (leb rfl) (leb rfl) (st' := [(.ref (n0 + 1))]) rfl (k' := 2) rfl (n' := 9) rfl ?_
      refine H.astore s0_91 rfl (ls' := #[.val (.int p0), .val (.int p1), .val (.int p2), .val (.int p3), .val (.int p4), .val (.int p5), .val (.int (4 : Int32)), .val (.int (4 : Int32)), .val (.ref (n0 + 0)), .val (.ref (n0 + 1))]) rfl ?_
      refine H.aload s0_93 rfl rfl ?_
      refine H.ifnullF s0_95 ?_
      refine H.aload s0_98 rfl rfl ?_
      refine H.arraylength s0_100 (i := 1) rfl (z := (5 : Int32)) rfl ?_
      refine H.iload s0_101 rfl ?_
      refine H.iconst s0_103 (v := (1 : Int32)) (by decide) ?_
      refine H.iadd s0_104 (w := (5 : Int32)) (by decide) ?_
      refine H.icmpT s0_105 (show (5 : Int32) = (5 : Int32) by decide) ?_
      refine H.aload s0_110 rfl rfl ?_
      refine H.iload s0_112 rfl ?_
      refine H.aload s0_114 rfl rfl ?_
      refine H.iload s0_116 rfl ?_
      refine H.iconst s0_118 (v := (0 : Int32)) (by decide) ?_
      refine H.callSD s0_119 (k_6 hw) (m_at4 l hw n0 [.inr (.int, [(.int e0), (.int e1), (.int e2), (.int e3)]), .inr (.int, [(.int (own_c [(N3 + 1), (N2 + 1), (N1 + 1), (N0 + 1)] 0)), (.int (own_p [(N3 + 1), (N2 + 1), (N1 + 1), (N0 + 1)] 1)), (.int (own_p [(N3 + 1), (N2 + 1), (N1 + 1), (N0 + 1)] 2)), (.int (own_p [(N3 + 1), (N2 + 1), (N1 + 1), (N0 + 1)] 3)), (.int (own_p [(N3 + 1), (N2 + 1), (N1 + 1), (N0 + 1)] 4))])] 0 1 _ e0 e1 e2 e3 (own_c [(N3 + 1), (N2 + 1), (N1 + 1), (N0 + 1)] 0) (0 : Int32) (4 : Int32) 0 rfl rfl (by decide) rfl (by decide) (own_main [(e3, N3), (e2, N2), (e1, N1), (e0, N0)] (faS hN3 (faS hN2 (faS hN1 (faS hN0 fa0)))) (k := 0) (by decide))) (argsL := [(.ref (n0 + 1)), (.int (4 : Int32)), (.ref (n0 + 0)), (.int (4 : Int32)), (.int (0 : Int32))]) (rest := []) rfl rfl rfl rfl (leb rfl) (leb rfl) (leb rfl) (leb rfl) (st' := [(.int (1 : Int32))]) rfl (k' := 2) rfl (n' := 9) rfl ?_
      refine H.ifF s0_122 (show ¬ (1 : Int32) = (0 : Int32) by decide) ?_
      refine H.aload s0_125 rfl rfl ?_
      refine H.iload s0_127 rfl ?_
      refine H.aload s0_129 rfl rfl ?_
      refine H.iload s0_131 rfl ?_
      refine H.iconst s0_133 (v := (1 : Int32)) (by decide) ?_
      refine H.callSD s0_134 (k_6 hw) (m_at4 l hw n0 [.inr (.int, [(.int e0), (.int e1), (.int e2), (.int e3)]), .inr (.int, [(.int (own_c [(N3 + 1), (N2 + 1), (N1 + 1), (N0 + 1)] 0)), (.int (own_p [(N3 + 1), (N2 + 1), (N1 + 1), (N0 + 1)] 1)), (.int (own_p [(N3 + 1), (N2 + 1), (N1 + 1), (N0 + 1)] 2)), (.int (own_p [(N3 + 1), (N2 + 1), (N1 + 1), (N0 + 1)] 3)), (.int (own_p [(N3 + 1), (N2 + 1), (N1 + 1), (N0 + 1)] 4))])] 0 1 _ e0 e1 e2 e3 (own_p [(N3 + 1), (N2 + 1), (N1 + 1), (N0 + 1)] 1) (1 : Int32) (4 : Int32) 1 rfl rfl (by decide) rfl (by decide) (own_main [(e3, N3), (e2, N2), (e1, N1), (e0, N0)] (faS hN3 (faS hN2 (faS hN1 (faS hN0 fa0)))) (k := 1) (by decide))) (argsL := [(.ref (n0 + 1)), (.int (4 : Int32)), (.ref (n0 + 0)), (.int (4 : Int32)), (.int (1 : Int32))]) (rest := []) rfl rfl rfl rfl (leb rfl) (leb rfl) (leb rfl) (leb rfl) (st' := [(.int (1 : Int32))]) rfl (k' := 2) rfl (n' := 9) rfl ?_
      refine H.ifF s0_137 (show ¬ (1 : Int32) = (0 : Int32) by decide) ?_
      refine H.aload s0_140 rfl rfl ?_
      refine H.iload s0_142 rfl ?_
      refine H.aload s0_144 rfl rfl ?_
      refine H.iload s0_146 rfl ?_
      refine H.iconst s0_148 (v := (2 : Int32)) (by decide) ?_
      refine H.callSD s0_149 (k_6 hw) (m_at4 l hw n0 [.inr (.int, [(.int e0), (.int e1), (.int e2), (.int e3)]), .inr (.int, [(.int (own_c [(N3 + 1), (N2 + 1), (N1 + 1), (N0 + 1)] 0)), (.int (own_p [(N3 + 1), (N2 + 1), (N1 + 1), (N0 + 1)] 1)), (.int (own_p [(N3 + 1), (N2 + 1), (N1 + 1), (N0 + 1)] 2)), (.int (own_p [(N3 + 1), (N2 + 1), (N1 + 1), (N0 + 1)] 3)), (.int (own_p [(N3 + 1), (N2 + 1), (N1 + 1), (N0 + 1)] 4))])] 0 1 _ e0 e1 e2 e3 (own_p [(N3 + 1), (N2 + 1), (N1 + 1), (N0 + 1)] 2) (2 : Int32) (4 : Int32) 2 rfl rfl (by decide) rfl (by decide) (own_main [(e3, N3), (e2, N2), (e1, N1), (e0, N0)] (faS hN3 (faS hN2 (faS hN1 (faS hN0 fa0)))) (k := 2) (by decide))) (argsL := [(.ref (n0 + 1)), (.int (4 : Int32)), (.ref (n0 + 0)), (.int (4 : Int32)), (.int (2 : Int32))]) (rest := []) rfl rfl rfl rfl (leb rfl) (leb rfl) (leb rfl) (leb rfl) (st' := [(.int (1 : Int32))]) rfl (k' := 2) rfl (n' := 9) rfl ?_
      refine H.ifF s0_152 (show ¬ (1 : Int32) = (0 : Int32) by decide) ?_
      refine H.aload s0_155 rfl rfl ?_
      refine H.iload s0_157 rfl ?_
      refine H.aload s0_159 rfl rfl ?_
      refine H.iload s0_161 rfl ?_
      refine H.iconst s0_163 (v := (3 : Int32)) (by decide) ?_
      refine H.callSD s0_164 (k_6 hw) (m_at4 l hw n0 [.inr (.int, [(.int e0), (.int e1), (.int e2), (.int e3)]), .inr (.int, [(.int (own_c [(N3 + 1), (N2 + 1), (N1 + 1), (N0 + 1)] 0)), (.int (own_p [(N3 + 1), (N2 + 1), (N1 + 1), (N0 + 1)] 1)), (.int (own_p [(N3 + 1), (N2 + 1), (N1 + 1), (N0 + 1)] 2)), (.int (own_p [(N3 + 1), (N2 + 1), (N1 + 1), (N0 + 1)] 3)), (.int (own_p [(N3 + 1), (N2 + 1), (N1 + 1), (N0 + 1)] 4))])] 0 1 _ e0 e1 e2 e3 (own_p [(N3 + 1), (N2 + 1), (N1 + 1), (N0 + 1)] 3) (3 : Int32) (4 : Int32) 3 rfl rfl (by decide) rfl (by decide) (own_main [(e3, N3), (e2, N2), (e1, N1), (e0, N0)] (faS hN3 (faS hN2 (faS hN1 (faS hN0 fa0)))) (k := 3) (by decide))) (argsL := [(.ref (n0 + 1)), (.int (4 : Int32)), (.ref (n0 + 0)), (.int (4 : Int32)), (.int (3 : Int32))]) (rest := []) rfl rfl rfl rfl (leb rfl) (leb rfl) (leb rfl) (leb rfl) (st' := [(.int (1 : Int32))]) rfl (k' := 2) rfl (n' := 9) rfl ?_
      refine H.ifF s0_167 (show ¬ (1 : Int32) = (0 : Int32) by decide) ?_
      refine H.aload s0_170 rfl rfl ?_
      refine H.iload s0_172 rfl ?_
      refine H.aload s0_174 rfl rfl ?_
      refine H.iload s0_176 rfl ?_
      refine H.iconst s0_178 (v := (4 : Int32)) (by decide) ?_
      refine H.callSD s0_179 (k_6 hw) (m_at4 l hw n0 [.inr (.int, [(.int e0), (.int e1), (.int e2), (.int e3)]), .inr (.int, [(.int (own_c [(N3 + 1), (N2 + 1), (N1 + 1), (N0 + 1)] 0)), (.int (own_p [(N3 + 1), (N2 + 1), (N1 + 1), (N0 + 1)] 1)), (.int (own_p [(N3 + 1), (N2 + 1), (N1 + 1), (N0 + 1)] 2)), (.int (own_p [(N3 + 1), (N2 + 1), (N1 + 1), (N0 + 1)] 3)), (.int (own_p [(N3 + 1), (N2 + 1), (N1 + 1), (N0 + 1)] 4))])] 0 1 _ e0 e1 e2 e3 (own_p [(N3 + 1), (N2 + 1), (N1 + 1), (N0 + 1)] 4) (4 : Int32) (4 : Int32) 4 rfl rfl (by decide) rfl (by decide) (own_main [(e3, N3), (e2, N2), (e1, N1), (e0, N0)] (faS hN3 (faS hN2 (faS hN1 (faS hN0 fa0)))) (k := 4) (by decide))) (argsL := [(.ref (n0 + 1)), (.int (4 : Int32)), (.ref (n0 + 0)), (.int (4 : Int32)), (.int (4 : Int32))]) (rest := []) rfl rfl rfl rfl (leb rfl) (leb rfl) (leb rfl) (leb rfl) (st' := [(.int (1 : Int32))]) rfl (k' := 2) rfl (n' := 9) rfl ?_
      refine H.ifF s0_182 (show ¬ (1 : Int32) = (0 : Int32) by decide) ?_
      refine H.aload s0_185 rfl rfl ?_
      refine H.iload s0_187 rfl ?_
      refine H.aload s0_189 rfl rfl ?_
      refine H.iload s0_191 rfl ?_
      refine H.iconst s0_193 (v := (5 : Int32)) (by decide) ?_
      refine H.callSD s0_194 (k_6 hw) (m_atT l hw n0 [.inr (.int, [(.int e0), (.int e1), (.int e2), (.int e3)]), .inr (.int, [(.int (own_c [(N3 + 1), (N2 + 1), (N1 + 1), (N0 + 1)] 0)), (.int (own_p [(N3 + 1), (N2 + 1), (N1 + 1), (N0 + 1)] 1)), (.int (own_p [(N3 + 1), (N2 + 1), (N1 + 1), (N0 + 1)] 2)), (.int (own_p [(N3 + 1), (N2 + 1), (N1 + 1), (N0 + 1)] 3)), (.int (own_p [(N3 + 1), (N2 + 1), (N1 + 1), (N0 + 1)] 4))])] 0 1 (4 : Int32) (4 : Int32) (5 : Int32) (by decide)) (argsL := [(.ref (n0 + 1)), (.int (4 : Int32)), (.ref (n0 + 0)), (.int (4 : Int32)), (.int (5 : Int32))]) (rest := []) rfl rfl rfl rfl (leb rfl) (leb rfl) (leb rfl) (leb rfl) (st' := [(.int (1 : Int32))]) rfl (k' := 2) rfl (n' := 9) rfl ?_
      refine H.ifF s0_197 (show ¬ (1 : Int32) = (0 : Int32) by decide) ?_
      refine H.iconst s0_200 (v := (1 : Int32)) (by decide) ?_
      refine H.goto s0_201 ?_
      exact H.ireturn s0_205 rfl (by simp) rfl rfl (by decide) (by decide)
  · refine H.irem s0_7 (by decide) (w := (5 : Int32)) hz7 ?_
    refine H.istore s0_8 (ls' := #[.val (.int p0), .val (.int p1), .val (.int p2), .val (.int p3), .val (.int p4), .val (.int p5), .val (.int (5 : Int32)), .unset, .unset, .unset]) rfl ?_
    refine H.iload s0_10 rfl ?_
    refine H.ifT s0_12 (show ¬ (5 : Int32) = (0 : Int32) by decide) ?_
    refine H.iload s0_19 rfl ?_
    refine H.ldc s0_21 (k_2 hw) ?_
    refine H.iand s0_23 rfl ?_
    refine H.iconst s0_24 (v := (5 : Int32)) (by decide) ?_
    rcases own_rem5 p5 with hz25 | hz25 | hz25 | hz25 | hz25
    · refine H.irem s0_25 (by decide) (w := (0 : Int32)) hz25 ?_
      refine H.istore s0_26 (ls' := #[.val (.int p0), .val (.int p1), .val (.int p2), .val (.int p3), .val (.int p4), .val (.int p5), .val (.int (5 : Int32)), .val (.int (0 : Int32)), .unset, .unset]) rfl ?_
      refine H.iconst s0_28 (v := (4 : Int32)) (by decide) ?_
      refine H.newarray s0_29 (ty := .int) rfl (k_3 hw) (N := 4) (cap := 4) (by decide) rfl (by decide) (by decide) rfl (by decide) (by decide) (i := 0) rfl (A' := [.inr (.int, [(.int (0 : Int32)), (.int (0 : Int32)), (.int (0 : Int32)), (.int (0 : Int32))])]) rfl (k' := 1) rfl (n' := 4) rfl ?_
      refine H.astore s0_31 rfl (ls' := #[.val (.int p0), .val (.int p1), .val (.int p2), .val (.int p3), .val (.int p4), .val (.int p5), .val (.int (5 : Int32)), .val (.int (0 : Int32)), .val (.ref (n0 + 0)), .unset]) rfl ?_
      refine H.iload s0_33 rfl ?_
      refine H.ifF s0_35 (show (0 : Int32) < (5 : Int32) by decide) ?_
      refine H.aload s0_38 rfl rfl ?_
      refine H.iconst s0_40 (v := (0 : Int32)) (by decide) ?_
      refine H.iloadN s0_41 rfl ?_
      refine H.ldc s0_42 (k_2 hw) ?_
      refine H.iand s0_44 rfl ?_
      refine H.iload s0_45 rfl ?_
      obtain ⟨e0, he0⟩ : ∃ z, z = ((p0 &&& (2147483647 : Int32)) % (5 : Int32)) := ⟨_, rfl⟩
      obtain ⟨N0, hN0, lN0⟩ := own_N p0 5 5 (by decide) (by decide)
      rw [← he0] at hN0
      refine H.irem s0_47 (by decide) he0.symm ?_
      refine H.iastore s0_48 (i := 0) (j := 0) rfl (by decide) (ltb rfl)  (A' := [.inr (.int, [(.int e0), (.int (0 : Int32)), (.int (0 : Int32)), (.int (0 : Int32))])]) rfl ?_
      refine H.aload s0_49 rfl rfl ?_
      refine H.iconst s0_51 (v := (1 : Int32)) (by decide) ?_
      refine H.iloadN s0_52 rfl ?_
      refine H.ldc s0_53 (k_2 hw) ?_
      refine H.iand s0_55 rfl ?_
      refine H.iload s0_56 rfl ?_
      obtain ⟨e1, he1⟩ : ∃ z, z = ((p1 &&& (2147483647 : Int32)) % (5 : Int32)) := ⟨_, rfl⟩
      obtain ⟨N1, hN1, lN1⟩ := own_N p1 5 5 (by decide) (by decide)
      rw [← he1] at hN1
      refine H.irem s0_58 (by decide) he1.symm ?_
      refine H.iastore s0_59 (i := 0) (j := 1) rfl (by decide) (ltb rfl)  (A' := [.inr (.int, [(.int e0), (.int e1), (.int (0 : Int32)), (.int (0 : Int32))])]) rfl ?_
      refine H.aload s0_60 rfl rfl ?_
      refine H.iconst s0_62 (v := (2 : Int32)) (by decide) ?_
      refine H.iloadN s0_63 rfl ?_
      refine H.ldc s0_64 (k_2 hw) ?_
      refine H.iand s0_66 rfl ?_
      refine H.iload s0_67 rfl ?_
      obtain ⟨e2, he2⟩ : ∃ z, z = ((p2 &&& (2147483647 : Int32)) % (5 : Int32)) := ⟨_, rfl⟩
      obtain ⟨N2, hN2, lN2⟩ := own_N p2 5 5 (by decide) (by decide)
      rw [← he2] at hN2
      refine H.irem s0_69 (by decide) he2.symm ?_
      refine H.iastore s0_70 (i := 0) (j := 2) rfl (by decide) (ltb rfl)  (A' := [.inr (.int, [(.int e0), (.int e1), (.int e2), (.int (0 : Int32))])]) rfl ?_
      refine H.aload s0_71 rfl rfl ?_
      refine H.iconst s0_73 (v := (3 : Int32)) (by decide) ?_
      refine H.iloadN s0_74 rfl ?_
      refine H.ldc s0_75 (k_2 hw) ?_
      refine H.iand s0_77 rfl ?_
      refine H.iload s0_78 rfl ?_
      obtain ⟨e3, he3⟩ : ∃ z, z = ((p3 &&& (2147483647 : Int32)) % (5 : Int32)) := ⟨_, rfl⟩
      obtain ⟨N3, hN3, lN3⟩ := own_N p3 5 5 (by decide) (by decide)
      rw [← he3] at hN3
      refine H.irem s0_80 (by decide) he3.symm ?_
      refine H.iastore s0_81 (i := 0) (j := 3) rfl (by decide) (ltb rfl)  (A' := [.inr (.int, [(.int e0), (.int e1), (.int e2), (.int e3)])]) rfl ?_
      refine H.aload s0_82 rfl rfl ?_
      refine H.iload s0_84 rfl ?_
      refine H.iload s0_86 rfl ?_
      refine H.callSD s0_88 (k_5 hw) (a_21 l hw n0 e0 e1 e2 e3 hN0 lN0 hN1 lN1 hN2 lN2 hN3 lN3) (argsL := [(.ref (n0 + 0)), (.int (0 : Int32)), (.int (5 : Int32))]) (rest := []) rfl rfl rfl rfl (leb rfl) (leb rfl) (leb rfl) (leb rfl) (st' := [(.ref (n0 + 1))]) rfl (k' := 2) rfl (n' := 10) rfl ?_
      refine H.astore s0_91 rfl (ls' := #[.val (.int p0), .val (.int p1), .val (.int p2), .val (.int p3), .val (.int p4), .val (.int p5), .val (.int (5 : Int32)), .val (.int (0 : Int32)), .val (.ref (n0 + 0)), .val (.ref (n0 + 1))]) rfl ?_
      refine H.aload s0_93 rfl rfl ?_
      refine H.ifnullF s0_95 ?_
      refine H.aload s0_98 rfl rfl ?_
      refine H.arraylength s0_100 (i := 1) rfl (z := (6 : Int32)) rfl ?_
      refine H.iload s0_101 rfl ?_
      refine H.iconst s0_103 (v := (1 : Int32)) (by decide) ?_
      refine H.iadd s0_104 (w := (6 : Int32)) (by decide) ?_
      refine H.icmpT s0_105 (show (6 : Int32) = (6 : Int32) by decide) ?_
      refine H.aload s0_110 rfl rfl ?_
      refine H.iload s0_112 rfl ?_
      refine H.aload s0_114 rfl rfl ?_
      refine H.iload s0_116 rfl ?_
      refine H.iconst s0_118 (v := (0 : Int32)) (by decide) ?_
      refine H.callSD s0_119 (k_6 hw) (m_at0 l hw n0 [.inr (.int, [(.int e0), (.int e1), (.int e2), (.int e3)]), .inr (.int, [(.int (0 : Int32)), (.int (0 : Int32)), (.int (0 : Int32)), (.int (0 : Int32)), (.int (0 : Int32)), (.int (0 : Int32))])] 0 1 _ e0 e1 e2 e3 (0 : Int32) (0 : Int32) (5 : Int32) 0 rfl rfl (by decide) rfl (by decide) rfl) (argsL := [(.ref (n0 + 1)), (.int (5 : Int32)), (.ref (n0 + 0)), (.int (0 : Int32)), (.int (0 : Int32))]) (rest := []) rfl rfl rfl rfl (leb rfl) (leb rfl) (leb rfl) (leb rfl) (st' := [(.int (1 : Int32))]) rfl (k' := 2) rfl (n' := 10) rfl ?_
      refine H.ifF s0_122 (show ¬ (1 : Int32) = (0 : Int32) by decide) ?_
      refine H.aload s0_125 rfl rfl ?_
      refine H.iload s0_127 rfl ?_
      refine H.aload s0_129 rfl rfl ?_
      refine H.iload s0_131 rfl ?_
      refine H.iconst s0_133 (v := (1 : Int32)) (by decide) ?_
      refine H.callSD s0_134 (k_6 hw) (m_at0 l hw n0 [.inr (.int, [(.int e0), (.int e1), (.int e2), (.int e3)]), .inr (.int, [(.int (0 : Int32)), (.int (0 : Int32)), (.int (0 : Int32)), (.int (0 : Int32)), (.int (0 : Int32)), (.int (0 : Int32))])] 0 1 _ e0 e1 e2 e3 (0 : Int32) (1 : Int32) (5 : Int32) 1 rfl rfl (by decide) rfl (by decide) rfl) (argsL := [(.ref (n0 + 1)), (.int (5 : Int32)), (.ref (n0 + 0)), (.int (0 : Int32)), (.int (1 : Int32))]) (rest := []) rfl rfl rfl rfl (leb rfl) (leb rfl) (leb rfl) (leb rfl) (st' := [(.int (1 : Int32))]) rfl (k' := 2) rfl (n' := 10) rfl ?_
      refine H.ifF s0_137 (show ¬ (1 : Int32) = (0 : Int32) by decide) ?_
      refine H.aload s0_140 rfl rfl ?_
      refine H.iload s0_142 rfl ?_
      refine H.aload s0_144 rfl rfl ?_
      refine H.iload s0_146 rfl ?_
      refine H.iconst s0_148 (v := (2 : Int32)) (by decide) ?_
      refine H.callSD s0_149 (k_6 hw) (m_at0 l hw n0 [.inr (.int, [(.int e0), (.int e1), (.int e2), (.int e3)]), .inr (.int, [(.int (0 : Int32)), (.int (0 : Int32)), (.int (0 : Int32)), (.int (0 : Int32)), (.int (0 : Int32)), (.int (0 : Int32))])] 0 1 _ e0 e1 e2 e3 (0 : Int32) (2 : Int32) (5 : Int32) 2 rfl rfl (by decide) rfl (by decide) rfl) (argsL := [(.ref (n0 + 1)), (.int (5 : Int32)), (.ref (n0 + 0)), (.int (0 : Int32)), (.int (2 : Int32))]) (rest := []) rfl rfl rfl rfl (leb rfl) (leb rfl) (leb rfl) (leb rfl) (st' := [(.int (1 : Int32))]) rfl (k' := 2) rfl (n' := 10) rfl ?_
      refine H.ifF s0_152 (show ¬ (1 : Int32) = (0 : Int32) by decide) ?_
      refine H.aload s0_155 rfl rfl ?_
      refine H.iload s0_157 rfl ?_
      refine H.aload s0_159 rfl rfl ?_
      refine H.iload s0_161 rfl ?_
      refine H.iconst s0_163 (v := (3 : Int32)) (by decide) ?_
      refine H.callSD s0_164 (k_6 hw) (m_at0 l hw n0 [.inr (.int, [(.int e0), (.int e1), (.int e2), (.int e3)]), .inr (.int, [(.int (0 : Int32)), (.int (0 : Int32)), (.int (0 : Int32)), (.int (0 : Int32)), (.int (0 : Int32)), (.int (0 : Int32))])] 0 1 _ e0 e1 e2 e3 (0 : Int32) (3 : Int32) (5 : Int32) 3 rfl rfl (by decide) rfl (by decide) rfl) (argsL := [(.ref (n0 + 1)), (.int (5 : Int32)), (.ref (n0 + 0)), (.int (0 : Int32)), (.int (3 : Int32))]) (rest := []) rfl rfl rfl rfl (leb rfl) (leb rfl) (leb rfl) (leb rfl) (st' := [(.int (1 : Int32))]) rfl (k' := 2) rfl (n' := 10) rfl ?_
      refine H.ifF s0_167 (show ¬ (1 : Int32) = (0 : Int32) by decide) ?_
      refine H.aload s0_170 rfl rfl ?_
      refine H.iload s0_172 rfl ?_
      refine H.aload s0_174 rfl rfl ?_
      refine H.iload s0_176 rfl ?_
      refine H.iconst s0_178 (v := (4 : Int32)) (by decide) ?_
      refine H.callSD s0_179 (k_6 hw) (m_at0 l hw n0 [.inr (.int, [(.int e0), (.int e1), (.int e2), (.int e3)]), .inr (.int, [(.int (0 : Int32)), (.int (0 : Int32)), (.int (0 : Int32)), (.int (0 : Int32)), (.int (0 : Int32)), (.int (0 : Int32))])] 0 1 _ e0 e1 e2 e3 (0 : Int32) (4 : Int32) (5 : Int32) 4 rfl rfl (by decide) rfl (by decide) rfl) (argsL := [(.ref (n0 + 1)), (.int (5 : Int32)), (.ref (n0 + 0)), (.int (0 : Int32)), (.int (4 : Int32))]) (rest := []) rfl rfl rfl rfl (leb rfl) (leb rfl) (leb rfl) (leb rfl) (st' := [(.int (1 : Int32))]) rfl (k' := 2) rfl (n' := 10) rfl ?_
      refine H.ifF s0_182 (show ¬ (1 : Int32) = (0 : Int32) by decide) ?_
      refine H.aload s0_185 rfl rfl ?_
      refine H.iload s0_187 rfl ?_
      refine H.aload s0_189 rfl rfl ?_
      refine H.iload s0_191 rfl ?_
      refine H.iconst s0_193 (v := (5 : Int32)) (by decide) ?_
      refine H.callSD s0_194 (k_6 hw) (m_at0 l hw n0 [.inr (.int, [(.int e0), (.int e1), (.int e2), (.int e3)]), .inr (.int, [(.int (0 : Int32)), (.int (0 : Int32)), (.int (0 : Int32)), (.int (0 : Int32)), (.int (0 : Int32)), (.int (0 : Int32))])] 0 1 _ e0 e1 e2 e3 (0 : Int32) (5 : Int32) (5 : Int32) 5 rfl rfl (by decide) rfl (by decide) rfl) (argsL := [(.ref (n0 + 1)), (.int (5 : Int32)), (.ref (n0 + 0)), (.int (0 : Int32)), (.int (5 : Int32))]) (rest := []) rfl rfl rfl rfl (leb rfl) (leb rfl) (leb rfl) (leb rfl) (st' := [(.int (1 : Int32))]) rfl (k' := 2) rfl (n' := 10) rfl ?_
      refine H.ifF s0_197 (show ¬ (1 : Int32) = (0 : Int32) by decide) ?_
      refine H.iconst s0_200 (v := (1 : Int32)) (by decide) ?_
      refine H.goto s0_201 ?_
      exact H.ireturn s0_205 rfl (by simp) rfl rfl (by decide) (by decide)
    · refine H.irem s0_25 (by decide) (w := (1 : Int32)) hz25 ?_
      refine H.istore s0_26 (ls' := #[.val (.int p0), .val (.int p1), .val (.int p2), .val (.int p3), .val (.int p4), .val (.int p5), .val (.int (5 : Int32)), .val (.int (1 : Int32)), .unset, .unset]) rfl ?_
      refine H.iconst s0_28 (v := (4 : Int32)) (by decide) ?_
      refine H.newarray s0_29 (ty := .int) rfl (k_3 hw) (N := 4) (cap := 4) (by decide) rfl (by decide) (by decide) rfl (by decide) (by decide) (i := 0) rfl (A' := [.inr (.int, [(.int (0 : Int32)), (.int (0 : Int32)), (.int (0 : Int32)), (.int (0 : Int32))])]) rfl (k' := 1) rfl (n' := 4) rfl ?_
      refine H.astore s0_31 rfl (ls' := #[.val (.int p0), .val (.int p1), .val (.int p2), .val (.int p3), .val (.int p4), .val (.int p5), .val (.int (5 : Int32)), .val (.int (1 : Int32)), .val (.ref (n0 + 0)), .unset]) rfl ?_
      refine H.iload s0_33 rfl ?_
      refine H.ifF s0_35 (show (0 : Int32) < (5 : Int32) by decide) ?_
      refine H.aload s0_38 rfl rfl ?_
      refine H.iconst s0_40 (v := (0 : Int32)) (by decide) ?_
      refine H.iloadN s0_41 rfl ?_
      refine H.ldc s0_42 (k_2 hw) ?_
      refine H.iand s0_44 rfl ?_
      refine H.iload s0_45 rfl ?_
      obtain ⟨e0, he0⟩ : ∃ z, z = ((p0 &&& (2147483647 : Int32)) % (5 : Int32)) := ⟨_, rfl⟩
      obtain ⟨N0, hN0, lN0⟩ := own_N p0 5 5 (by decide) (by decide)
      rw [← he0] at hN0
      refine H.irem s0_47 (by decide) he0.symm ?_
      refine H.iastore s0_48 (i := 0) (j := 0) rfl (by decide) (ltb rfl)  (A' := [.inr (.int, [(.int e0), (.int (0 : Int32)), (.int (0 : Int32)), (.int (0 : Int32))])]) rfl ?_
      refine H.aload s0_49 rfl rfl ?_
      refine H.iconst s0_51 (v := (1 : Int32)) (by decide) ?_
      refine H.iloadN s0_52 rfl ?_
      refine H.ldc s0_53 (k_2 hw) ?_
      refine H.iand s0_55 rfl ?_
      refine H.iload s0_56 rfl ?_
      obtain ⟨e1, he1⟩ : ∃ z, z = ((p1 &&& (2147483647 : Int32)) % (5 : Int32)) := ⟨_, rfl⟩
      obtain ⟨N1, hN1, lN1⟩ := own_N p1 5 5 (by decide) (by decide)
      rw [← he1] at hN1
      refine H.irem s0_58 (by decide) he1.symm ?_
      refine H.iastore s0_59 (i := 0) (j := 1) rfl (by decide) (ltb rfl)  (A' := [.inr (.int, [(.int e0), (.int e1), (.int (0 : Int32)), (.int (0 : Int32))])]) rfl ?_
      refine H.aload s0_60 rfl rfl ?_
      refine H.iconst s0_62 (v := (2 : Int32)) (by decide) ?_
      refine H.iloadN s0_63 rfl ?_
      refine H.ldc s0_64 (k_2 hw) ?_
      refine H.iand s0_66 rfl ?_
      refine H.iload s0_67 rfl ?_
      obtain ⟨e2, he2⟩ : ∃ z, z = ((p2 &&& (2147483647 : Int32)) % (5 : Int32)) := ⟨_, rfl⟩
      obtain ⟨N2, hN2, lN2⟩ := own_N p2 5 5 (by decide) (by decide)
      rw [← he2] at hN2
      refine H.irem s0_69 (by decide) he2.symm ?_
      refine H.iastore s0_70 (i := 0) (j := 2) rfl (by decide) (ltb rfl)  (A' := [.inr (.int, [(.int e0), (.int e1), (.int e2), (.int (0 : Int32))])]) rfl ?_
      refine H.aload s0_71 rfl rfl ?_
      refine H.iconst s0_73 (v := (3 : Int32)) (by decide) ?_
      refine H.iloadN s0_74 rfl ?_
      refine H.ldc s0_75 (k_2 hw) ?_
      refine H.iand s0_77 rfl ?_
      refine H.iload s0_78 rfl ?_
      obtain ⟨e3, he3⟩ : ∃ z, z = ((p3 &&& (2147483647 : Int32)) % (5 : Int32)) := ⟨_, rfl⟩
      obtain ⟨N3, hN3, lN3⟩ := own_N p3 5 5 (by decide) (by decide)
      rw [← he3] at hN3
      refine H.irem s0_80 (by decide) he3.symm ?_
      refine H.iastore s0_81 (i := 0) (j := 3) rfl (by decide) (ltb rfl)  (A' := [.inr (.int, [(.int e0), (.int e1), (.int e2), (.int e3)])]) rfl ?_
      refine H.aload s0_82 rfl rfl ?_
      refine H.iload s0_84 rfl ?_
      refine H.iload s0_86 rfl ?_
      refine H.callSD s0_88 (k_5 hw) (a_22 l hw n0 e0 e1 e2 e3 hN0 lN0 hN1 lN1 hN2 lN2 hN3 lN3) (argsL := [(.ref (n0 + 0)), (.int (1 : Int32)), (.int (5 : Int32))]) (rest := []) rfl rfl rfl rfl (leb rfl) (leb rfl) (leb rfl) (leb rfl) (st' := [(.ref (n0 + 1))]) rfl (k' := 2) rfl (n' := 10) rfl ?_
      refine H.astore s0_91 rfl (ls' := #[.val (.int p0), .val (.int p1), .val (.int p2), .val (.int p3), .val (.int p4), .val (.int p5), .val (.int (5 : Int32)), .val (.int (1 : Int32)), .val (.ref (n0 + 0)), .val (.ref (n0 + 1))]) rfl ?_
      refine H.aload s0_93 rfl rfl ?_
      refine H.ifnullF s0_95 ?_
      refine H.aload s0_98 rfl rfl ?_
      refine H.arraylength s0_100 (i := 1) rfl (z := (6 : Int32)) rfl ?_
      refine H.iload s0_101 rfl ?_
      refine H.iconst s0_103 (v := (1 : Int32)) (by decide) ?_
      refine H.iadd s0_104 (w := (6 : Int32)) (by decide) ?_
      refine H.icmpT s0_105 (show (6 : Int32) = (6 : Int32) by decide) ?_
      refine H.aload s0_110 rfl rfl ?_
      refine H.iload s0_112 rfl ?_
      refine H.aload s0_114 rfl rfl ?_
      refine H.iload s0_116 rfl ?_
      refine H.iconst s0_118 (v := (0 : Int32)) (by decide) ?_
      refine H.callSD s0_119 (k_6 hw) (m_at1 l hw n0 [.inr (.int, [(.int e0), (.int e1), (.int e2), (.int e3)]), .inr (.int, [(.int (own_c [(N0 + 1)] 0)), (.int (own_p [(N0 + 1)] 1)), (.int (own_p [(N0 + 1)] 2)), (.int (own_p [(N0 + 1)] 3)), (.int (own_p [(N0 + 1)] 4)), (.int (own_p [(N0 + 1)] 5))])] 0 1 _ e0 e1 e2 e3 (own_c [(N0 + 1)] 0) (0 : Int32) (5 : Int32) 0 rfl rfl (by decide) rfl (by decide) (own_main [(e0, N0)] (faS hN0 fa0) (k := 0) (by decide))) (argsL := [(.ref (n0 + 1)), (.int (5 : Int32)), (.ref (n0 + 0)), (.int (1 : Int32)), (.int (0 : Int32))]) (rest := []) rfl rfl rfl rfl (leb rfl) (leb rfl) (leb rfl) (leb rfl) (st' := [(.int (1 : Int32))]) rfl (k' := 2) rfl (n' := 10) rfl ?_
      refine H.ifF s0_122 (show ¬ (1 : Int32) = (0 : Int32) by decide) ?_
      refine H.aload s0_125 rfl rfl ?_
      refine H.iload s0_127 rfl ?_
      refine H.aload s0_129 rfl rfl ?_
      refine H.iload s0_131 rfl ?_
      refine H.iconst s0_133 (v := (1 : Int32)) (by decide) ?_
      refine H.callSD s0_134 (k_6 hw) (m_at1 l hw n0 [.inr (.int, [(.int e0), (.int e1), (.int e2), (.int e3)]), .inr (.int, [(.int (own_c [(N0 + 1)] 0)), (.int (own_p [(N0 + 1)] 1)), (.int (own_p [(N0 + 1)] 2)), (.int (own_p [(N0 + 1)] 3)), (.int (own_p [(N0 + 1)] 4)), (.int (own_p [(N0 + 1)] 5))])] 0 1 _ e0 e1 e2 e3 (own_p [(N0 + 1)] 1) (1 : Int32) (5 : Int32) 1 rfl rfl (by decide) rfl (by decide) (own_main [(e0, N0)] (faS hN0 fa0) (k := 1) (by decide))) (argsL := [(.ref (n0 + 1)), (.int (5 : Int32)), (.ref (n0 + 0)), (.int (1 : Int32)), (.int (1 : Int32))]) (rest := []) rfl rfl rfl rfl (leb rfl) (leb rfl) (leb rfl) (leb rfl) (st' := [(.int (1 : Int32))]) rfl (k' := 2) rfl (n' := 10) rfl ?_
      refine H.ifF s0_137 (show ¬ (1 : Int32) = (0 : Int32) by decide) ?_
      refine H.aload s0_140 rfl rfl ?_
      refine H.iload s0_142 rfl ?_
      refine H.aload s0_144 rfl rfl ?_
      refine H.iload s0_146 rfl ?_
      refine H.iconst s0_148 (v := (2 : Int32)) (by decide) ?_
      refine H.callSD s0_149 (k_6 hw) (m_at1 l hw n0 [.inr (.int, [(.int e0), (.int e1), (.int e2), (.int e3)]), .inr (.int, [(.int (own_c [(N0 + 1)] 0)), (.int (own_p [(N0 + 1)] 1)), (.int (own_p [(N0 + 1)] 2)), (.int (own_p [(N0 + 1)] 3)), (.int (own_p [(N0 + 1)] 4)), (.int (own_p [(N0 + 1)] 5))])] 0 1 _ e0 e1 e2 e3 (own_p [(N0 + 1)] 2) (2 : Int32) (5 : Int32) 2 rfl rfl (by decide) rfl (by decide) (own_main [(e0, N0)] (faS hN0 fa0) (k := 2) (by decide))) (argsL := [(.ref (n0 + 1)), (.int (5 : Int32)), (.ref (n0 + 0)), (.int (1 : Int32)), (.int (2 : Int32))]) (rest := []) rfl rfl rfl rfl (leb rfl) (leb rfl) (leb rfl) (leb rfl) (st' := [(.int (1 : Int32))]) rfl (k' := 2) rfl (n' := 10) rfl ?_
      refine H.ifF s0_152 (show ¬ (1 : Int32) = (0 : Int32) by decide) ?_
      refine H.aload s0_155 rfl rfl ?_
      refine H.iload s0_157 rfl ?_
      refine H.aload s0_159 rfl rfl ?_
      refine H.iload s0_161 rfl ?_
      refine H.iconst s0_163 (v := (3 : Int32)) (by decide) ?_
      refine H.callSD s0_164 (k_6 hw) (m_at1 l hw n0 [.inr (.int, [(.int e0), (.int e1), (.int e2), (.int e3)]), .inr (.int, [(.int (own_c [(N0 + 1)] 0)), (.int (own_p [(N0 + 1)] 1)), (.int (own_p [(N0 + 1)] 2)), (.int (own_p [(N0 + 1)] 3)), (.int (own_p [(N0 + 1)] 4)), (.int (own_p [(N0 + 1)] 5))])] 0 1 _ e0 e1 e2 e3 (own_p [(N0 + 1)] 3) (3 : Int32) (5 : Int32) 3 rfl rfl (by decide) rfl (by decide) (own_main [(e0, N0)] (faS hN0 fa0) (k := 3) (by decide))) (argsL := [(.ref (n0 + 1)), (.int (5 : Int32)), (.ref (n0 + 0)), (.int (1 : Int32)), (.int (3 : Int32))]) (rest := []) rfl rfl rfl rfl (leb rfl) (leb rfl) (leb rfl) (leb rfl) (st' := [(.int (1 : Int32))]) rfl (k' := 2) rfl (n' := 10) rfl ?_
      refine H.ifF s0_167 (show ¬ (1 : Int32) = (0 : Int32) by decide) ?_
      refine H.aload s0_170 rfl rfl ?_
      refine H.iload s0_172 rfl ?_
      refine H.aload s0_174 rfl rfl ?_
      refine H.iload s0_176 rfl ?_
      refine H.iconst s0_178 (v := (4 : Int32)) (by decide) ?_
      refine H.callSD s0_179 (k_6 hw) (m_at1 l hw n0 [.inr (.int, [(.int e0), (.int e1), (.int e2), (.int e3)]), .inr (.int, [(.int (own_c [(N0 + 1)] 0)), (.int (own_p [(N0 + 1)] 1)), (.int (own_p [(N0 + 1)] 2)), (.int (own_p [(N0 + 1)] 3)), (.int (own_p [(N0 + 1)] 4)), (.int (own_p [(N0 + 1)] 5))])] 0 1 _ e0 e1 e2 e3 (own_p [(N0 + 1)] 4) (4 : Int32) (5 : Int32) 4 rfl rfl (by decide) rfl (by decide) (own_main [(e0, N0)] (faS hN0 fa0) (k := 4) (by decide))) (argsL := [(.ref (n0 + 1)), (.int (5 : Int32)), (.ref (n0 + 0)), (.int (1 : Int32)), (.int (4 : Int32))]) (rest := []) rfl rfl rfl rfl (leb rfl) (leb rfl) (leb rfl) (leb rfl) (st' := [(.int (1 : Int32))]) rfl (k' := 2) rfl (n' := 10) rfl ?_
      refine H.ifF s0_182 (show ¬ (1 : Int32) = (0 : Int32) by decide) ?_
      refine H.aload s0_185 rfl rfl ?_
      refine H.iload s0_187 rfl ?_
      refine H.aload s0_189 rfl rfl ?_
      refine H.iload s0_191 rfl ?_
      refine H.iconst s0_193 (v := (5 : Int32)) (by decide) ?_
      refine H.callSD s0_194 (k_6 hw) (m_at1 l hw n0 [.inr (.int, [(.int e0), (.int e1), (.int e2), (.int e3)]), .inr (.int, [(.int (own_c [(N0 + 1)] 0)), (.int (own_p [(N0 + 1)] 1)), (.int (own_p [(N0 + 1)] 2)), (.int (own_p [(N0 + 1)] 3)), (.int (own_p [(N0 + 1)] 4)), (.int (own_p [(N0 + 1)] 5))])] 0 1 _ e0 e1 e2 e3 (own_p [(N0 + 1)] 5) (5 : Int32) (5 : Int32) 5 rfl rfl (by decide) rfl (by decide) (own_main [(e0, N0)] (faS hN0 fa0) (k := 5) (by decide))) (argsL := [(.ref (n0 + 1)), (.int (5 : Int32)), (.ref (n0 + 0)), (.int (1 : Int32)), (.int (5 : Int32))]) (rest := []) rfl rfl rfl rfl (leb rfl) (leb rfl) (leb rfl) (leb rfl) (st' := [(.int (1 : Int32))]) rfl (k' := 2) rfl (n' := 10) rfl ?_
      refine H.ifF s0_197 (show ¬ (1 : Int32) = (0 : Int32) by decide) ?_
      refine H.iconst s0_200 (v := (1 : Int32)) (by decide) ?_
      refine H.goto s0_201 ?_
      exact H.ireturn s0_205 rfl (by simp) rfl rfl (by decide) (by decide)
    · refine H.irem s0_25 (by decide) (w := (2 : Int32)) hz25 ?_
      refine H.istore s0_26 (ls' := #[.val (.int p0), .val (.int p1), .val (.int p2), .val (.int p3), .val (.int p4), .val (.int p5), .val (.int (5 : Int32)), .val (.int (2 : Int32)), .unset, .unset]) rfl ?_
      refine H.iconst s0_28 (v := (4 : Int32)) (by decide) ?_
      refine H.newarray s0_29 (ty := .int) rfl (k_3 hw) (N := 4) (cap := 4) (by decide) rfl (by decide) (by decide) rfl (by decide) (by decide) (i := 0) rfl (A' := [.inr (.int, [(.int (0 : Int32)), (.int (0 : Int32)), (.int (0 : Int32)), (.int (0 : Int32))])]) rfl (k' := 1) rfl (n' := 4) rfl ?_
      refine H.astore s0_31 rfl (ls' := #[.val (.int p0), .val (.int p1), .val (.int p2), .val (.int p3), .val (.int p4), .val (.int p5), .val (.int (5 : Int32)), .val (.int (2 : Int32)), .val (.ref (n0 + 0)), .unset]) rfl ?_
      refine H.iload s0_33 rfl ?_
      refine H.ifF s0_35 (show (0 : Int32) < (5 : Int32) by decide) ?_
      refine H.aload s0_38 rfl rfl ?_
      refine H.iconst s0_40 (v := (0 : Int32)) (by decide) ?_
      refine H.iloadN s0_41 rfl ?_
      refine H.ldc s0_42 (k_2 hw) ?_
      refine H.iand s0_44 rfl ?_
      refine H.iload s0_45 rfl ?_
      obtain ⟨e0, he0⟩ : ∃ z, z = ((p0 &&& (2147483647 : Int32)) % (5 : Int32)) := ⟨_, rfl⟩
      obtain ⟨N0, hN0, lN0⟩ := own_N p0 5 5 (by decide) (by decide)
      rw [← he0] at hN0
      refine H.irem s0_47 (by decide) he0.symm ?_
      refine H.iastore s0_48 (i := 0) (j := 0) rfl (by decide) (ltb rfl)  (A' := [.inr (.int, [(.int e0), (.int (0 : Int32)), (.int (0 : Int32)), (.int (0 : Int32))])]) rfl ?_
      refine H.aload s0_49 rfl rfl ?_
      refine H.iconst s0_51 (v := (1 : Int32)) (by decide) ?_
      refine H.iloadN s0_52 rfl ?_
      refine H.ldc s0_53 (k_2 hw) ?_
      refine H.iand s0_55 rfl ?_
      refine H.iload s0_56 rfl ?_
      obtain ⟨e1, he1⟩ : ∃ z, z = ((p1 &&& (2147483647 : Int32)) % (5 : Int32)) := ⟨_, rfl⟩
      obtain ⟨N1, hN1, lN1⟩ := own_N p1 5 5 (by decide) (by decide)
      rw [← he1] at hN1
      refine H.irem s0_58 (by decide) he1.symm ?_
      refine H.iastore s0_59 (i := 0) (j := 1) rfl (by decide) (ltb rfl)  (A' := [.inr (.int, [(.int e0), (.int e1), (.int (0 : Int32)), (.int (0 : Int32))])]) rfl ?_
      refine H.aload s0_60 rfl rfl ?_
      refine H.iconst s0_62 (v := (2 : Int32)) (by decide) ?_
      refine H.iloadN s0_63 rfl ?_
      refine H.ldc s0_64 (k_2 hw) ?_
      refine H.iand s0_66 rfl ?_
      refine H.iload s0_67 rfl ?_
      obtain ⟨e2, he2⟩ : ∃ z, z = ((p2 &&& (2147483647 : Int32)) % (5 : Int32)) := ⟨_, rfl⟩
      obtain ⟨N2, hN2, lN2⟩ := own_N p2 5 5 (by decide) (by decide)
      rw [← he2] at hN2
      refine H.irem s0_69 (by decide) he2.symm ?_
      refine H.iastore s0_70 (i := 0) (j := 2) rfl (by decide) (ltb rfl)  (A' := [.inr (.int, [(.int e0), (.int e1), (.int e2), (.int (0 : Int32))])]) rfl ?_
      refine H.aload s0_71 rfl rfl ?_
      refine H.iconst s0_73 (v := (3 : Int32)) (by decide) ?_
      refine H.iloadN s0_74 rfl ?_
      refine H.ldc s0_75 (k_2 hw) ?_
      refine H.iand s0_77 rfl ?_
      refine H.iload s0_78 rfl ?_
      obtain ⟨e3, he3⟩ : ∃ z, z = ((p3 &&& (2147483647 : Int32)) % (5 : Int32)) := ⟨_, rfl⟩
      obtain ⟨N3, hN3, lN3⟩ := own_N p3 5 5 (by decide) (by decide)
      rw [← he3] at hN3
      refine H.irem s0_80 (by decide) he3.symm ?_
      refine H.iastore s0_81 (i := 0) (j := 3) rfl (by decide) (ltb rfl)  (A' := [.inr (.int, [(.int e0), (.int e1), (.int e2), (.int e3)])]) rfl ?_
      refine H.aload s0_82 rfl rfl ?_
      refine H.iload s0_84 rfl ?_
      refine H.iload s0_86 rfl ?_
      refine H.callSD s0_88 (k_5 hw) (a_23 l hw n0 e0 e1 e2 e3 hN0 lN0 hN1 lN1 hN2 lN2 hN3 lN3) (argsL := [(.ref (n0 + 0)), (.int (2 : Int32)), (.int (5 : Int32))]) (rest := []) rfl rfl rfl rfl (leb rfl) (leb rfl) (leb rfl) (leb rfl) (st' := [(.ref (n0 + 1))]) rfl (k' := 2) rfl (n' := 10) rfl ?_
      refine H.astore s0_91 rfl (ls' := #[.val (.int p0), .val (.int p1), .val (.int p2), .val (.int p3), .val (.int p4), .val (.int p5), .val (.int (5 : Int32)), .val (.int (2 : Int32)), .val (.ref (n0 + 0)), .val (.ref (n0 + 1))]) rfl ?_
      refine H.aload s0_93 rfl rfl ?_
      refine H.ifnullF s0_95 ?_
      refine H.aload s0_98 rfl rfl ?_
      refine H.arraylength s0_100 (i := 1) rfl (z := (6 : Int32)) rfl ?_
      refine H.iload s0_101 rfl ?_
      refine H.iconst s0_103 (v := (1 : Int32)) (by decide) ?_
      refine H.iadd s0_104 (w := (6 : Int32)) (by decide) ?_
      refine H.icmpT s0_105 (show (6 : Int32) = (6 : Int32) by decide) ?_
      refine H.aload s0_110 rfl rfl ?_
      refine H.iload s0_112 rfl ?_
      refine H.aload s0_114 rfl rfl ?_
      refine H.iload s0_116 rfl ?_
      refine H.iconst s0_118 (v := (0 : Int32)) (by decide) ?_
      refine H.callSD s0_119 (k_6 hw) (m_at2 l hw n0 [.inr (.int, [(.int e0), (.int e1), (.int e2), (.int e3)]), .inr (.int, [(.int (own_c [(N1 + 1), (N0 + 1)] 0)), (.int (own_p [(N1 + 1), (N0 + 1)] 1)), (.int (own_p [(N1 + 1), (N0 + 1)] 2)), (.int (own_p [(N1 + 1), (N0 + 1)] 3)), (.int (own_p [(N1 + 1), (N0 + 1)] 4)), (.int (own_p [(N1 + 1), (N0 + 1)] 5))])] 0 1 _ e0 e1 e2 e3 (own_c [(N1 + 1), (N0 + 1)] 0) (0 : Int32) (5 : Int32) 0 rfl rfl (by decide) rfl (by decide) (own_main [(e1, N1), (e0, N0)] (faS hN1 (faS hN0 fa0)) (k := 0) (by decide))) (argsL := [(.ref (n0 + 1)), (.int (5 : Int32)), (.ref (n0 + 0)), (.int (2 : Int32)), (.int (0 : Int32))]) (rest := []) rfl rfl rfl rfl (leb rfl) (leb rfl) (leb rfl) (leb rfl) (st' := [(.int (1 : Int32))]) rfl (k' := 2) rfl (n' := 10) rfl ?_
      refine H.ifF s0_122 (show ¬ (1 : Int32) = (0 : Int32) by decide) ?_
      refine H.aload s0_125 rfl rfl ?_
      refine H.iload s0_127 rfl ?_
      refine H.aload s0_129 rfl rfl ?_
      refine H.iload s0_131 rfl ?_
      refine H.iconst s0_133 (v := (1 : Int32)) (by decide) ?_
      refine H.callSD s0_134 (k_6 hw) (m_at2 l hw n0 [.inr (.int, [(.int e0), (.int e1), (.int e2), (.int e3)]), .inr (.int, [(.int (own_c [(N1 + 1), (N0 + 1)] 0)), (.int (own_p [(N1 + 1), (N0 + 1)] 1)), (.int (own_p [(N1 + 1), (N0 + 1)] 2)), (.int (own_p [(N1 + 1), (N0 + 1)] 3)), (.int (own_p [(N1 + 1), (N0 + 1)] 4)), (.int (own_p [(N1 + 1), (N0 + 1)] 5))])] 0 1 _ e0 e1 e2 e3 (own_p [(N1 + 1), (N0 + 1)] 1) (1 : Int32) (5 : Int32) 1 rfl rfl (by decide) rfl (by decide) (own_main [(e1, N1), (e0, N0)] (faS hN1 (faS hN0 fa0)) (k := 1) (by decide))) (argsL := [(.ref (n0 + 1)), (.int (5 : Int32)), (.ref (n0 + 0)), (.int (2 : Int32)), (.int (1 : Int32))]) (rest := []) rfl rfl rfl rfl (leb rfl) (leb rfl) (leb rfl) (leb rfl) (st' := [(.int (1 : Int32))]) rfl (k' := 2) rfl (n' := 10) rfl ?_
      refine H.ifF s0_137 (show ¬ (1 : Int32) = (0 : Int32) by decide) ?_
      refine H.aload s0_140 rfl rfl ?_
      refine H.iload s0_142 rfl ?_
      refine H.aload s0_144 rfl rfl ?_
      refine H.iload s0_146 rfl ?_
      refine H.iconst s0_148 (v := (2 : Int32)) (by decide) ?_
      refine H.callSD s0_149 (k_6 hw) (m_at2 l hw n0 [.inr (.int, [(.int e0), (.int e1), (.int e2), (.int e3)]), .inr (.int, [(.int (own_c [(N1 + 1), (N0 + 1)] 0)), (.int (own_p [(N1 + 1), (N0 + 1)] 1)), (.int (own_p [(N1 + 1), (N0 + 1)] 2)), (.int (own_p [(N1 + 1), (N0 + 1)] 3)), (.int (own_p [(N1 + 1), (N0 + 1)] 4)), (.int (own_p [(N1 + 1), (N0 + 1)] 5))])] 0 1 _ e0 e1 e2 e3 (own_p [(N1 + 1), (N0 + 1)] 2) (2 : Int32) (5 : Int32) 2 rfl rfl (by decide) rfl (by decide) (own_main [(e1, N1), (e0, N0)] (faS hN1 (faS hN0 fa0)) (k := 2) (by decide))) (argsL := [(.ref (n0 + 1)), (.int (5 : Int32)), (.ref (n0 + 0)), (.int (2 : Int32)), (.int (2 : Int32))]) (rest := []) rfl rfl rfl rfl (leb rfl) (leb rfl) (leb rfl) (leb rfl) (st' := [(.int (1 : Int32))]) rfl (k' := 2) rfl (n' := 10) rfl ?_
      refine H.ifF s0_152 (show ¬ (1 : Int32) = (0 : Int32) by decide) ?_
      refine H.aload s0_155 rfl rfl ?_
      refine H.iload s0_157 rfl ?_
      refine H.aload s0_159 rfl rfl ?_
      refine H.iload s0_161 rfl ?_
      refine H.iconst s0_163 (v := (3 : Int32)) (by decide) ?_
      refine H.callSD s0_164 (k_6 hw) (m_at2 l hw n0 [.inr (.int, [(.int e0), (.int e1), (.int e2), (.int e3)]), .inr (.int, [(.int (own_c [(N1 + 1), (N0 + 1)] 0)), (.int (own_p [(N1 + 1), (N0 + 1)] 1)), (.int (own_p [(N1 + 1), (N0 + 1)] 2)), (.int (own_p [(N1 + 1), (N0 + 1)] 3)), (.int (own_p [(N1 + 1), (N0 + 1)] 4)), (.int (own_p [(N1 + 1), (N0 + 1)] 5))])] 0 1 _ e0 e1 e2 e3 (own_p [(N1 + 1), (N0 + 1)] 3) (3 : Int32) (5 : Int32) 3 rfl rfl (by decide) rfl (by decide) (own_main [(e1, N1), (e0, N0)] (faS hN1 (faS hN0 fa0)) (k := 3) (by decide))) (argsL := [(.ref (n0 + 1)), (.int (5 : Int32)), (.ref (n0 + 0)), (.int (2 : Int32)), (.int (3 : Int32))]) (rest := []) rfl rfl rfl rfl (leb rfl) (leb rfl) (leb rfl) (leb rfl) (st' := [(.int (1 : Int32))]) rfl (k' := 2) rfl (n' := 10) rfl ?_
      refine H.ifF s0_167 (show ¬ (1 : Int32) = (0 : Int32) by decide) ?_
      refine H.aload s0_170 rfl rfl ?_
      refine H.iload s0_172 rfl ?_
      refine H.aload s0_174 rfl rfl ?_
      refine H.iload s0_176 rfl ?_
      refine H.iconst s0_178 (v := (4 : Int32)) (by decide) ?_
      refine H.callSD s0_179 (k_6 hw) (m_at2 l hw n0 [.inr (.int, [(.int e0), (.int e1), (.int e2), (.int e3)]), .inr (.int, [(.int (own_c [(N1 + 1), (N0 + 1)] 0)), (.int (own_p [(N1 + 1), (N0 + 1)] 1)), (.int (own_p [(N1 + 1), (N0 + 1)] 2)), (.int (own_p [(N1 + 1), (N0 + 1)] 3)), (.int (own_p [(N1 + 1), (N0 + 1)] 4)), (.int (own_p [(N1 + 1), (N0 + 1)] 5))])] 0 1 _ e0 e1 e2 e3 (own_p [(N1 + 1), (N0 + 1)] 4) (4 : Int32) (5 : Int32) 4 rfl rfl (by decide) rfl (by decide) (own_main [(e1, N1), (e0, N0)] (faS hN1 (faS hN0 fa0)) (k := 4) (by decide))) (argsL := [(.ref (n0 + 1)), (.int (5 : Int32)), (.ref (n0 + 0)), (.int (2 : Int32)), (.int (4 : Int32))]) (rest := []) rfl rfl rfl rfl (leb rfl) (leb rfl) (leb rfl) (leb rfl) (st' := [(.int (1 : Int32))]) rfl (k' := 2) rfl (n' := 10) rfl ?_
      refine H.ifF s0_182 (show ¬ (1 : Int32) = (0 : Int32) by decide) ?_
      refine H.aload s0_185 rfl rfl ?_
      refine H.iload s0_187 rfl ?_
      refine H.aload s0_189 rfl rfl ?_
      refine H.iload s0_191 rfl ?_
      refine H.iconst s0_193 (v := (5 : Int32)) (by decide) ?_
      refine H.callSD s0_194 (k_6 hw) (m_at2 l hw n0 [.inr (.int, [(.int e0), (.int e1), (.int e2), (.int e3)]), .inr (.int, [(.int (own_c [(N1 + 1), (N0 + 1)] 0)), (.int (own_p [(N1 + 1), (N0 + 1)] 1)), (.int (own_p [(N1 + 1), (N0 + 1)] 2)), (.int (own_p [(N1 + 1), (N0 + 1)] 3)), (.int (own_p [(N1 + 1), (N0 + 1)] 4)), (.int (own_p [(N1 + 1), (N0 + 1)] 5))])] 0 1 _ e0 e1 e2 e3 (own_p [(N1 + 1), (N0 + 1)] 5) (5 : Int32) (5 : Int32) 5 rfl rfl (by decide) rfl (by decide) (own_main [(e1, N1), (e0, N0)] (faS hN1 (faS hN0 fa0)) (k := 5) (by decide))) (argsL := [(.ref (n0 + 1)), (.int (5 : Int32)), (.ref (n0 + 0)), (.int (2 : Int32)), (.int (5 : Int32))]) (rest := []) rfl rfl rfl rfl (leb rfl) (leb rfl) (leb rfl) (leb rfl) (st' := [(.int (1 : Int32))]) rfl (k' := 2) rfl (n' := 10) rfl ?_
      refine H.ifF s0_197 (show ¬ (1 : Int32) = (0 : Int32) by decide) ?_
      refine H.iconst s0_200 (v := (1 : Int32)) (by decide) ?_
      refine H.goto s0_201 ?_
      exact H.ireturn s0_205 rfl (by simp) rfl rfl (by decide) (by decide)
    · refine H.irem s0_25 (by decide) (w := (3 : Int32)) hz25 ?_
      refine H.istore s0_26 (ls' := #[.val (.int p0), .val (.int p1), .val (.int p2), .val (.int p3), .val (.int p4), .val (.int p5), .val (.int (5 : Int32)), .val (.int (3 : Int32)), .unset, .unset]) rfl ?_
      refine H.iconst s0_28 (v := (4 : Int32)) (by decide) ?_
      refine H.newarray s0_29 (ty := .int) rfl (k_3 hw) (N := 4) (cap := 4) (by decide) rfl (by decide) (by decide) rfl (by decide) (by decide) (i := 0) rfl (A' := [.inr (.int, [(.int (0 : Int32)), (.int (0 : Int32)), (.int (0 : Int32)), (.int (0 : Int32))])]) rfl (k' := 1) rfl (n' := 4) rfl ?_
      refine H.astore s0_31 rfl (ls' := #[.val (.int p0), .val (.int p1), .val (.int p2), .val (.int p3), .val (.int p4), .val (.int p5), .val (.int (5 : Int32)), .val (.int (3 : Int32)), .val (.ref (n0 + 0)), .unset]) rfl ?_
      refine H.iload s0_33 rfl ?_
      refine H.ifF s0_35 (show (0 : Int32) < (5 : Int32) by decide) ?_
      refine H.aload s0_38 rfl rfl ?_
      refine H.iconst s0_40 (v := (0 : Int32)) (by decide) ?_
      refine H.iloadN s0_41 rfl ?_
      refine H.ldc s0_42 (k_2 hw) ?_
      refine H.iand s0_44 rfl ?_
      refine H.iload s0_45 rfl ?_
      obtain ⟨e0, he0⟩ : ∃ z, z = ((p0 &&& (2147483647 : Int32)) % (5 : Int32)) := ⟨_, rfl⟩
      obtain ⟨N0, hN0, lN0⟩ := own_N p0 5 5 (by decide) (by decide)
      rw [← he0] at hN0
      refine H.irem s0_47 (by decide) he0.symm ?_
      refine H.iastore s0_48 (i := 0) (j := 0) rfl (by decide) (ltb rfl)  (A' := [.inr (.int, [(.int e0), (.int (0 : Int32)), (.int (0 : Int32)), (.int (0 : Int32))])]) rfl ?_
      refine H.aload s0_49 rfl rfl ?_
      refine H.iconst s0_51 (v := (1 : Int32)) (by decide) ?_
      refine H.iloadN s0_52 rfl ?_
      refine H.ldc s0_53 (k_2 hw) ?_
      refine H.iand s0_55 rfl ?_
      refine H.iload s0_56 rfl ?_
      obtain ⟨e1, he1⟩ : ∃ z, z = ((p1 &&& (2147483647 : Int32)) % (5 : Int32)) := ⟨_, rfl⟩
      obtain ⟨N1, hN1, lN1⟩ := own_N p1 5 5 (by decide) (by decide)
      rw [← he1] at hN1
      refine H.irem s0_58 (by decide) he1.symm ?_
      refine H.iastore s0_59 (i := 0) (j := 1) rfl (by decide) (ltb rfl)  (A' := [.inr (.int, [(.int e0), (.int e1), (.int (0 : Int32)), (.int (0 : Int32))])]) rfl ?_
      refine H.aload s0_60 rfl rfl ?_
      refine H.iconst s0_62 (v := (2 : Int32)) (by decide) ?_
      refine H.iloadN s0_63 rfl ?_
      refine H.ldc s0_64 (k_2 hw) ?_
      refine H.iand s0_66 rfl ?_
      refine H.iload s0_67 rfl ?_
      obtain ⟨e2, he2⟩ : ∃ z, z = ((p2 &&& (2147483647 : Int32)) % (5 : Int32)) := ⟨_, rfl⟩
      obtain ⟨N2, hN2, lN2⟩ := own_N p2 5 5 (by decide) (by decide)
      rw [← he2] at hN2
      refine H.irem s0_69 (by decide) he2.symm ?_
      refine H.iastore s0_70 (i := 0) (j := 2) rfl (by decide) (ltb rfl)  (A' := [.inr (.int, [(.int e0), (.int e1), (.int e2), (.int (0 : Int32))])]) rfl ?_
      refine H.aload s0_71 rfl rfl ?_
      refine H.iconst s0_73 (v := (3 : Int32)) (by decide) ?_
      refine H.iloadN s0_74 rfl ?_
      refine H.ldc s0_75 (k_2 hw) ?_
      refine H.iand s0_77 rfl ?_
      refine H.iload s0_78 rfl ?_
      obtain ⟨e3, he3⟩ : ∃ z, z = ((p3 &&& (2147483647 : Int32)) % (5 : Int32)) := ⟨_, rfl⟩
      obtain ⟨N3, hN3, lN3⟩ := own_N p3 5 5 (by decide) (by decide)
      rw [← he3] at hN3
      refine H.irem s0_80 (by decide) he3.symm ?_
      refine H.iastore s0_81 (i := 0) (j := 3) rfl (by decide) (ltb rfl)  (A' := [.inr (.int, [(.int e0), (.int e1), (.int e2), (.int e3)])]) rfl ?_
      refine H.aload s0_82 rfl rfl ?_
      refine H.iload s0_84 rfl ?_
      refine H.iload s0_86 rfl ?_
      refine H.callSD s0_88 (k_5 hw) (a_24 l hw n0 e0 e1 e2 e3 hN0 lN0 hN1 lN1 hN2 lN2 hN3 lN3) (argsL := [(.ref (n0 + 0)), (.int (3 : Int32)), (.int (5 : Int32))]) (rest := []) rfl rfl rfl rfl (leb rfl) (leb rfl) (leb rfl) (leb rfl) (st' := [(.ref (n0 + 1))]) rfl (k' := 2) rfl (n' := 10) rfl ?_
      refine H.astore s0_91 rfl (ls' := #[.val (.int p0), .val (.int p1), .val (.int p2), .val (.int p3), .val (.int p4), .val (.int p5), .val (.int (5 : Int32)), .val (.int (3 : Int32)), .val (.ref (n0 + 0)), .val (.ref (n0 + 1))]) rfl ?_
      refine H.aload s0_93 rfl rfl ?_
      refine H.ifnullF s0_95 ?_
      refine H.aload s0_98 rfl rfl ?_
      refine H.arraylength s0_100 (i := 1) rfl (z := (6 : Int32)) rfl ?_
      refine H.iload s0_101 rfl ?_
      refine H.iconst s0_103 (v := (1 : Int32)) (by decide) ?_
      refine H.iadd s0_104 (w := (6 : Int32)) (by decide) ?_
      refine H.icmpT s0_105 (show (6 : Int32) = (6 : Int32) by decide) ?_
      refine H.aload s0_110 rfl rfl ?_
      refine H.iload s0_112 rfl ?_
      refine H.aload s0_114 rfl rfl ?_
      refine H.iload s0_116 rfl ?_
      refine H.iconst s0_118 (v := (0 : Int32)) (by decide) ?_
      refine H.callSD s0_119 (k_6 hw) (m_at3 l hw n0 [.inr (.int, [(.int e0), (.int e1), (.int e2), (.int e3)]), .inr (.int, [(.int (own_c [(N2 + 1), (N1 + 1), (N0 + 1)] 0)), (.int (own_p [(N2 + 1), (N1 + 1), (N0 + 1)] 1)), (.int (own_p [(N2 + 1), (N1 + 1), (N0 + 1)] 2)), (.int (own_p [(N2 + 1), (N1 + 1), (N0 + 1)] 3)), (.int (own_p [(N2 + 1), (N1 + 1), (N0 + 1)] 4)), (.int (own_p [(N2 + 1), (N1 + 1), (N0 + 1)] 5))])] 0 1 _ e0 e1 e2 e3 (own_c [(N2 + 1), (N1 + 1), (N0 + 1)] 0) (0 : Int32) (5 : Int32) 0 rfl rfl (by decide) rfl (by decide) (own_main [(e2, N2), (e1, N1), (e0, N0)] (faS hN2 (faS hN1 (faS hN0 fa0))) (k := 0) (by decide))) (argsL := [(.ref (n0 + 1)), (.int (5 : Int32)), (.ref (n0 + 0)), (.int (3 : Int32)), (.int (0 : Int32))]) (rest := []) rfl rfl rfl rfl (leb rfl) (leb rfl) (leb rfl) (leb rfl) (st' := [(.int (1 : Int32))]) rfl (k' := 2) rfl (n' := 10) rfl ?_
      refine H.ifF s0_122 (show ¬ (1 : Int32) = (0 : Int32) by decide) ?_
      refine H.aload s0_125 rfl rfl ?_
      refine H.iload s0_127 rfl ?_
      refine H.aload s0_129 rfl rfl ?_
      refine H.iload s0_131 rfl ?_
      refine H.iconst s0_133 (v := (1 : Int32)) (by decide) ?_
      refine H.callSD s0_134 (k_6 hw) (m_at3 l hw n0 [.inr (.int, [(.int e0), (.int e1), (.int e2), (.int e3)]), .inr (.int, [(.int (own_c [(N2 + 1), (N1 + 1), (N0 + 1)] 0)), (.int (own_p [(N2 + 1), (N1 + 1), (N0 + 1)] 1)), (.int (own_p [(N2 + 1), (N1 + 1), (N0 + 1)] 2)), (.int (own_p [(N2 + 1), (N1 + 1), (N0 + 1)] 3)), (.int (own_p [(N2 + 1), (N1 + 1), (N0 + 1)] 4)), (.int (own_p [(N2 + 1), (N1 + 1), (N0 + 1)] 5))])] 0 1 _ e0 e1 e2 e3 (own_p [(N2 + 1), (N1 + 1), (N0 + 1)] 1) (1 : Int32) (5 : Int32) 1 rfl rfl (by decide) rfl (by decide) (own_main [(e2, N2), (e1, N1), (e0, N0)] (faS hN2 (faS hN1 (faS hN0 fa0))) (k := 1) (by decide))) (argsL := [(.ref (n0 + 1)), (.int (5 : Int32)), (.ref (n0 + 0)), (.int (3 : Int32)), (.int (1 : Int32))]) (rest := []) rfl rfl rfl rfl (leb rfl) (leb rfl) (leb rfl) (leb rfl) (st' := [(.int (1 : Int32))]) rfl (k' := 2) rfl (n' := 10) rfl ?_
      refine H.ifF s0_137 (show ¬ (1 : Int32) = (0 : Int32) by decide) ?_
      refine H.aload s0_140 rfl rfl ?_
      refine H.iload s0_142 rfl ?_
      refine H.aload s0_144 rfl rfl ?_
      refine H.iload s0_146 rfl ?_
      refine H.iconst s0_148 (v := (2 : Int32)) (by decide) ?_
      refine H.callSD s0_149 (k_6 hw) (m_at3 l hw n0 [.inr (.int, [(.int e0), (.int e1), (.int e2), (.int e3)]), .inr (.int, [(.int (own_c [(N2 + 1), (N1 + 1), (N0 + 1)] 0)), (.int (own_p [(N2 + 1), (N1 + 1), (N0 + 1)] 1)), (.int (own_p [(N2 + 1), (N1 + 1), (N0 + 1)] 2)), (.int (own_p [(N2 + 1), (N1 + 1), (N0 + 1)] 3)), (.int (own_p [(N2 + 1), (N1 + 1), (N0 + 1)] 4)), (.int (own_p [(N2 + 1), (N1 + 1), (N0 + 1)] 5))])] 0 1 _ e0 e1 e2 e3 (own_p [(N2 + 1), (N1 + 1), (N0 + 1)] 2) (2 : Int32) (5 : Int32) 2 rfl rfl (by decide) rfl (by decide) (own_main [(e2, N2), (e1, N1), (e0, N0)] (faS hN2 (faS hN1 (faS hN0 fa0))) (k := 2) (by decide))) (argsL := [(.ref (n0 + 1)), (.int (5 : Int32)), (.ref (n0 + 0)), (.int (3 : Int32)), (.int (2 : Int32))]) (rest := []) rfl rfl rfl rfl (leb rfl) (leb rfl) (leb rfl) (leb rfl) (st' := [(.int (1 : Int32))]) rfl (k' := 2) rfl (n' := 10) rfl ?_
      refine H.ifF s0_152 (show ¬ (1 : Int32) = (0 : Int32) by decide) ?_
      refine H.aload s0_155 rfl rfl ?_
      refine H.iload s0_157 rfl ?_
      refine H.aload s0_159 rfl rfl ?_
      refine H.iload s0_161 rfl ?_
      refine H.iconst s0_163 (v := (3 : Int32)) (by decide) ?_
      refine H.callSD s0_164 (k_6 hw) (m_at3 l hw n0 [.inr (.int, [(.int e0), (.int e1), (.int e2), (.int e3)]), .inr (.int, [(.int (own_c [(N2 + 1), (N1 + 1), (N0 + 1)] 0)), (.int (own_p [(N2 + 1), (N1 + 1), (N0 + 1)] 1)), (.int (own_p [(N2 + 1), (N1 + 1), (N0 + 1)] 2)), (.int (own_p [(N2 + 1), (N1 + 1), (N0 + 1)] 3)), (.int (own_p [(N2 + 1), (N1 + 1), (N0 + 1)] 4)), (.int (own_p [(N2 + 1), (N1 + 1), (N0 + 1)] 5))])] 0 1 _ e0 e1 e2 e3 (own_p [(N2 + 1), (N1 + 1), (N0 + 1)] 3) (3 : Int32) (5 : Int32) 3 rfl rfl (by decide) rfl (by decide) (own_main [(e2, N2), (e1, N1), (e0, N0)] (faS hN2 (faS hN1 (faS hN0 fa0))) (k := 3) (by decide))) (argsL := [(.ref (n0 + 1)), (.int (5 : Int32)), (.ref (n0 + 0)), (.int (3 : Int32)), (.int (3 : Int32))]) (rest := []) rfl rfl rfl rfl (leb rfl) (leb rfl) (leb rfl) (leb rfl) (st' := [(.int (1 : Int32))]) rfl (k' := 2) rfl (n' := 10) rfl ?_
      refine H.ifF s0_167 (show ¬ (1 : Int32) = (0 : Int32) by decide) ?_
      refine H.aload s0_170 rfl rfl ?_
      refine H.iload s0_172 rfl ?_
      refine H.aload s0_174 rfl rfl ?_
      refine H.iload s0_176 rfl ?_
      refine H.iconst s0_178 (v := (4 : Int32)) (by decide) ?_
      refine H.callSD s0_179 (k_6 hw) (m_at3 l hw n0 [.inr (.int, [(.int e0), (.int e1), (.int e2), (.int e3)]), .inr (.int, [(.int (own_c [(N2 + 1), (N1 + 1), (N0 + 1)] 0)), (.int (own_p [(N2 + 1), (N1 + 1), (N0 + 1)] 1)), (.int (own_p [(N2 + 1), (N1 + 1), (N0 + 1)] 2)), (.int (own_p [(N2 + 1), (N1 + 1), (N0 + 1)] 3)), (.int (own_p [(N2 + 1), (N1 + 1), (N0 + 1)] 4)), (.int (own_p [(N2 + 1), (N1 + 1), (N0 + 1)] 5))])] 0 1 _ e0 e1 e2 e3 (own_p [(N2 + 1), (N1 + 1), (N0 + 1)] 4) (4 : Int32) (5 : Int32) 4 rfl rfl (by decide) rfl (by decide) (own_main [(e2, N2), (e1, N1), (e0, N0)] (faS hN2 (faS hN1 (faS hN0 fa0))) (k := 4) (by decide))) (argsL := [(.ref (n0 + 1)), (.int (5 : Int32)), (.ref (n0 + 0)), (.int (3 : Int32)), (.int (4 : Int32))]) (rest := []) rfl rfl rfl rfl (leb rfl) (leb rfl) (leb rfl) (leb rfl) (st' := [(.int (1 : Int32))]) rfl (k' := 2) rfl (n' := 10) rfl ?_
      refine H.ifF s0_182 (show ¬ (1 : Int32) = (0 : Int32) by decide) ?_
      refine H.aload s0_185 rfl rfl ?_
      refine H.iload s0_187 rfl ?_
      refine H.aload s0_189 rfl rfl ?_
      refine H.iload s0_191 rfl ?_
      refine H.iconst s0_193 (v := (5 : Int32)) (by decide) ?_
      refine H.callSD s0_194 (k_6 hw) (m_at3 l hw n0 [.inr (.int, [(.int e0), (.int e1), (.int e2), (.int e3)]), .inr (.int, [(.int (own_c [(N2 + 1), (N1 + 1), (N0 + 1)] 0)), (.int (own_p [(N2 + 1), (N1 + 1), (N0 + 1)] 1)), (.int (own_p [(N2 + 1), (N1 + 1), (N0 + 1)] 2)), (.int (own_p [(N2 + 1), (N1 + 1), (N0 + 1)] 3)), (.int (own_p [(N2 + 1), (N1 + 1), (N0 + 1)] 4)), (.int (own_p [(N2 + 1), (N1 + 1), (N0 + 1)] 5))])] 0 1 _ e0 e1 e2 e3 (own_p [(N2 + 1), (N1 + 1), (N0 + 1)] 5) (5 : Int32) (5 : Int32) 5 rfl rfl (by decide) rfl (by decide) (own_main [(e2, N2), (e1, N1), (e0, N0)] (faS hN2 (faS hN1 (faS hN0 fa0))) (k := 5) (by decide))) (argsL := [(.ref (n0 + 1)), (.int (5 : Int32)), (.ref (n0 + 0)), (.int (3 : Int32)), (.int (5 : Int32))]) (rest := []) rfl rfl rfl rfl (leb rfl) (leb rfl) (leb rfl) (leb rfl) (st' := [(.int (1 : Int32))]) rfl (k' := 2) rfl (n' := 10) rfl ?_
      refine H.ifF s0_197 (show ¬ (1 : Int32) = (0 : Int32) by decide) ?_
      refine H.iconst s0_200 (v := (1 : Int32)) (by decide) ?_
      refine H.goto s0_201 ?_
      exact H.ireturn s0_205 rfl (by simp) rfl rfl (by decide) (by decide)
    · refine H.irem s0_25 (by decide) (w := (4 : Int32)) hz25 ?_
      refine H.istore s0_26 (ls' := #[.val (.int p0), .val (.int p1), .val (.int p2), .val (.int p3), .val (.int p4), .val (.int p5), .val (.int (5 : Int32)), .val (.int (4 : Int32)), .unset, .unset]) rfl ?_
      refine H.iconst s0_28 (v := (4 : Int32)) (by decide) ?_
      refine H.newarray s0_29 (ty := .int) rfl (k_3 hw) (N := 4) (cap := 4) (by decide) rfl (by decide) (by decide) rfl (by decide) (by decide) (i := 0) rfl (A' := [.inr (.int, [(.int (0 : Int32)), (.int (0 : Int32)), (.int (0 : Int32)), (.int (0 : Int32))])]) rfl (k' := 1) rfl (n' := 4) rfl ?_
      refine H.astore s0_31 rfl (ls' := #[.val (.int p0), .val (.int p1), .val (.int p2), .val (.int p3), .val (.int p4), .val (.int p5), .val (.int (5 : Int32)), .val (.int (4 : Int32)), .val (.ref (n0 + 0)), .unset]) rfl ?_
      refine H.iload s0_33 rfl ?_
      refine H.ifF s0_35 (show (0 : Int32) < (5 : Int32) by decide) ?_
      refine H.aload s0_38 rfl rfl ?_
      refine H.iconst s0_40 (v := (0 : Int32)) (by decide) ?_
      refine H.iloadN s0_41 rfl ?_
      refine H.ldc s0_42 (k_2 hw) ?_
      refine H.iand s0_44 rfl ?_
      refine H.iload s0_45 rfl ?_
      obtain ⟨e0, he0⟩ : ∃ z, z = ((p0 &&& (2147483647 : Int32)) % (5 : Int32)) := ⟨_, rfl⟩
      obtain ⟨N0, hN0, lN0⟩ := own_N p0 5 5 (by decide) (by decide)
      rw [← he0] at hN0
      refine H.irem s0_47 (by decide) he0.symm ?_
      refine H.iastore s0_48 (i := 0) (j := 0) rfl (by decide) (ltb rfl)  (A' := [.inr (.int, [(.int e0), (.int (0 : Int32)), (.int (0 : Int32)), (.int (0 : Int32))])]) rfl ?_
      refine H.aload s0_49 rfl rfl ?_
      refine H.iconst s0_51 (v := (1 : Int32)) (by decide) ?_
      refine H.iloadN s0_52 rfl ?_
      refine H.ldc s0_53 (k_2 hw) ?_
      refine H.iand s0_55 rfl ?_
      refine H.iload s0_56 rfl ?_
      obtain ⟨e1, he1⟩ : ∃ z, z = ((p1 &&& (2147483647 : Int32)) % (5 : Int32)) := ⟨_, rfl⟩
      obtain ⟨N1, hN1, lN1⟩ := own_N p1 5 5 (by decide) (by decide)
      rw [← he1] at hN1
      refine H.irem s0_58 (by decide) he1.symm ?_
      refine H.iastore s0_59 (i := 0) (j := 1) rfl (by decide) (ltb rfl)  (A' := [.inr (.int, [(.int e0), (.int e1), (.int (0 : Int32)), (.int (0 : Int32))])]) rfl ?_
      refine H.aload s0_60 rfl rfl ?_
      refine H.iconst s0_62 (v := (2 : Int32)) (by decide) ?_
      refine H.iloadN s0_63 rfl ?_
      refine H.ldc s0_64 (k_2 hw) ?_
      refine H.iand s0_66 rfl ?_
      refine H.iload s0_67 rfl ?_
      obtain ⟨e2, he2⟩ : ∃ z, z = ((p2 &&& (2147483647 : Int32)) % (5 : Int32)) := ⟨_, rfl⟩
      obtain ⟨N2, hN2, lN2⟩ := own_N p2 5 5 (by decide) (by decide)
      rw [← he2] at hN2
      refine H.irem s0_69 (by decide) he2.symm ?_
      refine H.iastore s0_70 (i := 0) (j := 2) rfl (by decide) (ltb rfl)  (A' := [.inr (.int, [(.int e0), (.int e1), (.int e2), (.int (0 : Int32))])]) rfl ?_
      refine H.aload s0_71 rfl rfl ?_
      refine H.iconst s0_73 (v := (3 : Int32)) (by decide) ?_
      refine H.iloadN s0_74 rfl ?_
      refine H.ldc s0_75 (k_2 hw) ?_
      refine H.iand s0_77 rfl ?_
      refine H.iload s0_78 rfl ?_
      obtain ⟨e3, he3⟩ : ∃ z, z = ((p3 &&& (2147483647 : Int32)) % (5 : Int32)) := ⟨_, rfl⟩
      obtain ⟨N3, hN3, lN3⟩ := own_N p3 5 5 (by decide) (by decide)
      rw [← he3] at hN3
      refine H.irem s0_80 (by decide) he3.symm ?_
      refine H.iastore s0_81 (i := 0) (j := 3) rfl (by decide) (ltb rfl)  (A' := [.inr (.int, [(.int e0), (.int e1), (.int e2), (.int e3)])]) rfl ?_
      refine H.aload s0_82 rfl rfl ?_
      refine H.iload s0_84 rfl ?_
      refine H.iload s0_86 rfl ?_
      refine H.callSD s0_88 (k_5 hw) (a_25 l hw n0 e0 e1 e2 e3 hN0 lN0 hN1 lN1 hN2 lN2 hN3 lN3) (argsL := [(.ref (n0 + 0)), (.int (4 : Int32)), (.int (5 : Int32))]) (rest := []) rfl rfl rfl rfl (leb rfl) (leb rfl) (leb rfl) (leb rfl) (st' := [(.ref (n0 + 1))]) rfl (k' := 2) rfl (n' := 10) rfl ?_
      refine H.astore s0_91 rfl (ls' := #[.val (.int p0), .val (.int p1), .val (.int p2), .val (.int p3), .val (.int p4), .val (.int p5), .val (.int (5 : Int32)), .val (.int (4 : Int32)), .val (.ref (n0 + 0)), .val (.ref (n0 + 1))]) rfl ?_
      refine H.aload s0_93 rfl rfl ?_
      refine H.ifnullF s0_95 ?_
      refine H.aload s0_98 rfl rfl ?_
      refine H.arraylength s0_100 (i := 1) rfl (z := (6 : Int32)) rfl ?_
      refine H.iload s0_101 rfl ?_
      refine H.iconst s0_103 (v := (1 : Int32)) (by decide) ?_
      refine H.iadd s0_104 (w := (6 : Int32)) (by decide) ?_
      refine H.icmpT s0_105 (show (6 : Int32) = (6 : Int32) by decide) ?_
      refine H.aload s0_110 rfl rfl ?_
      refine H.iload s0_112 rfl ?_
      refine H.aload s0_114 rfl rfl ?_
      refine H.iload s0_116 rfl ?_
      refine H.iconst s0_118 (v := (0 : Int32)) (by decide) ?_
      refine H.callSD s0_119 (k_6 hw) (m_at4 l hw n0 [.inr (.int, [(.int e0), (.int e1), (.int e2), (.int e3)]), .inr (.int, [(.int (own_c [(N3 + 1), (N2 + 1), (N1 + 1), (N0 + 1)] 0)), (.int (own_p [(N3 + 1), (N2 + 1), (N1 + 1), (N0 + 1)] 1)), (.int (own_p [(N3 + 1), (N2 + 1), (N1 + 1), (N0 + 1)] 2)), (.int (own_p [(N3 + 1), (N2 + 1), (N1 + 1), (N0 + 1)] 3)), (.int (own_p [(N3 + 1), (N2 + 1), (N1 + 1), (N0 + 1)] 4)), (.int (own_p [(N3 + 1), (N2 + 1), (N1 + 1), (N0 + 1)] 5))])] 0 1 _ e0 e1 e2 e3 (own_c [(N3 + 1), (N2 + 1), (N1 + 1), (N0 + 1)] 0) (0 : Int32) (5 : Int32) 0 rfl rfl (by decide) rfl (by decide) (own_main [(e3, N3), (e2, N2), (e1, N1), (e0, N0)] (faS hN3 (faS hN2 (faS hN1 (faS hN0 fa0)))) (k := 0) (by decide))) (argsL := [(.ref (n0 + 1)), (.int (5 : Int32)), (.ref (n0 + 0)), (.int (4 : Int32)), (.int (0 : Int32))]) (rest := []) rfl rfl rfl rfl (leb rfl) (leb rfl) (leb rfl) (leb rfl) (st' := [(.int (1 : Int32))]) rfl (k' := 2) rfl (n' := 10) rfl ?_
      refine H.ifF s0_122 (show ¬ (1 : Int32) = (0 : Int32) by decide) ?_
      refine H.aload s0_125 rfl rfl ?_
      refine H.iload s0_127 rfl ?_
      refine H.aload s0_129 rfl rfl ?_
      refine H.iload s0_131 rfl ?_
      refine H.iconst s0_133 (v := (1 : Int32)) (by decide) ?_
      refine H.callSD s0_134 (k_6 hw) (m_at4 l hw n0 [.inr (.int, [(.int e0), (.int e1), (.int e2), (.int e3)]), .inr (.int, [(.int (own_c [(N3 + 1), (N2 + 1), (N1 + 1), (N0 + 1)] 0)), (.int (own_p [(N3 + 1), (N2 + 1), (N1 + 1), (N0 + 1)] 1)), (.int (own_p [(N3 + 1), (N2 + 1), (N1 + 1), (N0 + 1)] 2)), (.int (own_p [(N3 + 1), (N2 + 1), (N1 + 1), (N0 + 1)] 3)), (.int (own_p [(N3 + 1), (N2 + 1), (N1 + 1), (N0 + 1)] 4)), (.int (own_p [(N3 + 1), (N2 + 1), (N1 + 1), (N0 + 1)] 5))])] 0 1 _ e0 e1 e2 e3 (own_p [(N3 + 1), (N2 + 1), (N1 + 1), (N0 + 1)] 1) (1 : Int32) (5 : Int32) 1 rfl rfl (by decide) rfl (by decide) (own_main [(e3, N3), (e2, N2), (e1, N1), (e0, N0)] (faS hN3 (faS hN2 (faS hN1 (faS hN0 fa0)))) (k := 1) (by decide))) (argsL := [(.ref (n0 + 1)), (.int (5 : Int32)), (.ref (n0 + 0)), (.int (4 : Int32)), (.int (1 : Int32))]) (rest := []) rfl rfl rfl rfl (leb rfl) (leb rfl) (leb rfl) (leb rfl) (st' := [(.int (1 : Int32))]) rfl (k' := 2) rfl (n' := 10) rfl ?_
      refine H.ifF s0_137 (show ¬ (1 : Int32) = (0 : Int32) by decide) ?_
      refine H.aload s0_140 rfl rfl ?_
      refine H.iload s0_142 rfl ?_
      refine H.aload s0_144 rfl rfl ?_
      refine H.iload s0_146 rfl ?_
      refine H.iconst s0_148 (v := (2 : Int32)) (by decide) ?_
      refine H.callSD s0_149 (k_6 hw) (m_at4 l hw n0 [.inr (.int, [(.int e0), (.int e1), (.int e2), (.int e3)]), .inr (.int, [(.int (own_c [(N3 + 1), (N2 + 1), (N1 + 1), (N0 + 1)] 0)), (.int (own_p [(N3 + 1), (N2 + 1), (N1 + 1), (N0 + 1)] 1)), (.int (own_p [(N3 + 1), (N2 + 1), (N1 + 1), (N0 + 1)] 2)), (.int (own_p [(N3 + 1), (N2 + 1), (N1 + 1), (N0 + 1)] 3)), (.int (own_p [(N3 + 1), (N2 + 1), (N1 + 1), (N0 + 1)] 4)), (.int (own_p [(N3 + 1), (N2 + 1), (N1 + 1), (N0 + 1)] 5))])] 0 1 _ e0 e1 e2 e3 (own_p [(N3 + 1), (N2 + 1), (N1 + 1), (N0 + 1)] 2) (2 : Int32) (5 : Int32) 2 rfl rfl (by decide) rfl (by decide) (own_main [(e3, N3), (e2, N2), (e1, N1), (e0, N0)] (faS hN3 (faS hN2 (faS hN1 (faS hN0 fa0)))) (k := 2) (by decide))) (argsL := [(.ref (n0 + 1)), (.int (5 : Int32)), (.ref (n0 + 0)), (.int (4 : Int32)), (.int (2 : Int32))]) (rest := []) rfl rfl rfl rfl (leb rfl) (leb rfl) (leb rfl) (leb rfl) (st' := [(.int (1 : Int32))]) rfl (k' := 2) rfl (n' := 10) rfl ?_
      refine H.ifF s0_152 (show ¬ (1 : Int32) = (0 : Int32) by decide) ?_
      refine H.aload s0_155 rfl rfl ?_
      refine H.iload s0_157 rfl ?_
      refine H.aload s0_159 rfl rfl ?_
      refine H.iload s0_161 rfl ?_
      refine H.iconst s0_163 (v := (3 : Int32)) (by decide) ?_
      refine H.callSD s0_164 (k_6 hw) (m_at4 l hw n0 [.inr (.int, [(.int e0), (.int e1), (.int e2), (.int e3)]), .inr (.int, [(.int (own_c [(N3 + 1), (N2 + 1), (N1 + 1), (N0 + 1)] 0)), (.int (own_p [(N3 + 1), (N2 + 1), (N1 + 1), (N0 + 1)] 1)), (.int (own_p [(N3 + 1), (N2 + 1), (N1 + 1), (N0 + 1)] 2)), (.int (own_p [(N3 + 1), (N2 + 1), (N1 + 1), (N0 + 1)] 3)), (.int (own_p [(N3 + 1), (N2 + 1), (N1 + 1), (N0 + 1)] 4)), (.int (own_p [(N3 + 1), (N2 + 1), (N1 + 1), (N0 + 1)] 5))])] 0 1 _ e0 e1 e2 e3 (own_p [(N3 + 1), (N2 + 1), (N1 + 1), (N0 + 1)] 3) (3 : Int32) (5 : Int32) 3 rfl rfl (by decide) rfl (by decide) (own_main [(e3, N3), (e2, N2), (e1, N1), (e0, N0)] (faS hN3 (faS hN2 (faS hN1 (faS hN0 fa0)))) (k := 3) (by decide))) (argsL := [(.ref (n0 + 1)), (.int (5 : Int32)), (.ref (n0 + 0)), (.int (4 : Int32)), (.int (3 : Int32))]) (rest := []) rfl rfl rfl rfl (leb rfl) (leb rfl) (leb rfl) (leb rfl) (st' := [(.int (1 : Int32))]) rfl (k' := 2) rfl (n' := 10) rfl ?_
      refine H.ifF s0_167 (show ¬ (1 : Int32) = (0 : Int32) by decide) ?_
      refine H.aload s0_170 rfl rfl ?_
      refine H.iload s0_172 rfl ?_
      refine H.aload s0_174 rfl rfl ?_
      refine H.iload s0_176 rfl ?_
      refine H.iconst s0_178 (v := (4 : Int32)) (by decide) ?_
      refine H.callSD s0_179 (k_6 hw) (m_at4 l hw n0 [.inr (.int, [(.int e0), (.int e1), (.int e2), (.int e3)]), .inr (.int, [(.int (own_c [(N3 + 1), (N2 + 1), (N1 + 1), (N0 + 1)] 0)), (.int (own_p [(N3 + 1), (N2 + 1), (N1 + 1), (N0 + 1)] 1)), (.int (own_p [(N3 + 1), (N2 + 1), (N1 + 1), (N0 + 1)] 2)), (.int (own_p [(N3 + 1), (N2 + 1), (N1 + 1), (N0 + 1)] 3)), (.int (own_p [(N3 + 1), (N2 + 1), (N1 + 1), (N0 + 1)] 4)), (.int (own_p [(N3 + 1), (N2 + 1), (N1 + 1), (N0 + 1)] 5))])] 0 1 _ e0 e1 e2 e3 (own_p [(N3 + 1), (N2 + 1), (N1 + 1), (N0 + 1)] 4) (4 : Int32) (5 : Int32) 4 rfl rfl (by decide) rfl (by decide) (own_main [(e3, N3), (e2, N2), (e1, N1), (e0, N0)] (faS hN3 (faS hN2 (faS hN1 (faS hN0 fa0)))) (k := 4) (by decide))) (argsL := [(.ref (n0 + 1)), (.int (5 : Int32)), (.ref (n0 + 0)), (.int (4 : Int32)), (.int (4 : Int32))]) (rest := []) rfl rfl rfl rfl (leb rfl) (leb rfl) (leb rfl) (leb rfl) (st' := [(.int (1 : Int32))]) rfl (k' := 2) rfl (n' := 10) rfl ?_
      refine H.ifF s0_182 (show ¬ (1 : Int32) = (0 : Int32) by decide) ?_
      refine H.aload s0_185 rfl rfl ?_
      refine H.iload s0_187 rfl ?_
      refine H.aload s0_189 rfl rfl ?_
      refine H.iload s0_191 rfl ?_
      refine H.iconst s0_193 (v := (5 : Int32)) (by decide) ?_
      refine H.callSD s0_194 (k_6 hw) (m_at4 l hw n0 [.inr (.int, [(.int e0), (.int e1), (.int e2), (.int e3)]), .inr (.int, [(.int (own_c [(N3 + 1), (N2 + 1), (N1 + 1), (N0 + 1)] 0)), (.int (own_p [(N3 + 1), (N2 + 1), (N1 + 1), (N0 + 1)] 1)), (.int (own_p [(N3 + 1), (N2 + 1), (N1 + 1), (N0 + 1)] 2)), (.int (own_p [(N3 + 1), (N2 + 1), (N1 + 1), (N0 + 1)] 3)), (.int (own_p [(N3 + 1), (N2 + 1), (N1 + 1), (N0 + 1)] 4)), (.int (own_p [(N3 + 1), (N2 + 1), (N1 + 1), (N0 + 1)] 5))])] 0 1 _ e0 e1 e2 e3 (own_p [(N3 + 1), (N2 + 1), (N1 + 1), (N0 + 1)] 5) (5 : Int32) (5 : Int32) 5 rfl rfl (by decide) rfl (by decide) (own_main [(e3, N3), (e2, N2), (e1, N1), (e0, N0)] (faS hN3 (faS hN2 (faS hN1 (faS hN0 fa0)))) (k := 5) (by decide))) (argsL := [(.ref (n0 + 1)), (.int (5 : Int32)), (.ref (n0 + 0)), (.int (4 : Int32)), (.int (5 : Int32))]) (rest := []) rfl rfl rfl rfl (leb rfl) (leb rfl) (leb rfl) (leb rfl) (st' := [(.int (1 : Int32))]) rfl (k' := 2) rfl (n' := 10) rfl ?_
      refine H.ifF s0_197 (show ¬ (1 : Int32) = (0 : Int32) by decide) ?_
      refine H.iconst s0_200 (v := (1 : Int32)) (by decide) ?_
      refine H.goto s0_201 ?_
      exact H.ireturn s0_205 rfl (by simp) rfl rfl (by decide) (by decide)

set_option maxRecDepth 65536 in
set_option maxHeartbeats 40000000 in
theorem comes_1 {Post : Tables → Env → Array Value → State → Outcome → State → Prop} (hpost : ∀ tb e args s v u, (limb_1_1.after args s (.returned v) u = true ∧ limb_1_2.after args s (.returned v) u = true ∧ True) → FrameEnd s (.returned v) u (Jvm.fieldLocs frame_1_writes args s ++ Jvm.arrayLocs frame_1_arrays args s ++ Jvm.staticLocs frame_1_statics s) 16 128 → Post tb e args s (.returned v) u) :
    ArmFor flags0 classFile x code maxLocals ret World_1 tables_1 room_1 Calls_1 rest_1 Pre_1 Post := by
  intro l hfl _ _ p e ha hc hk s m args below hf hA hF happ hP
  obtain ⟨hcalls, hrest, hpre⟩ := hP
  obtain ⟨-, -, -, hnamed, -, -, -, hat⟩ := (Spec.applies_iff hf).mp happ
  obtain ⟨hg, hn⟩ := and_e (Cond.before_iff.mp (show (Jvm.Cond.and given_1 narrow_1).before args s = true from hpre))
  obtain ⟨hc0, hr0⟩ := and_e hg
  obtain ⟨w0, w1, w2, w3, w4, w5, rfl⟩ : ∃ w0 w1 w2 w3 w4 w5 : Value, args = #[w0, w1, w2, w3, w4, w5] := by
    have hs : args.size = 6 := by simpa [Cond.value, given_1] using hc0
    obtain ⟨L⟩ := args
    match L, hs with
    | [w0, w1, w2, w3, w4, w5], _ => exact ⟨w0, w1, w2, w3, w4, w5, rfl⟩
  have hw : HW1 s _ := fun d (hd : d ∈ tables_1) => atoms_spec (ws := Jvm.Cond.code x code maxLocals ret :: tables_1) hat d (List.mem_cons_of_mem _ hd)
  obtain ⟨hx0, hr1⟩ := and_e hr0
  obtain ⟨i0, ee0⟩ := is_v hx0
  obtain rfl : w0 = (.int i0) := Option.some.inj ee0
  obtain ⟨hx1, hr2⟩ := and_e hr1
  obtain ⟨i1, ee1⟩ := is_v hx1
  obtain rfl : w1 = (.int i1) := Option.some.inj ee1
  obtain ⟨hx2, hr3⟩ := and_e hr2
  obtain ⟨i2, ee2⟩ := is_v hx2
  obtain rfl : w2 = (.int i2) := Option.some.inj ee2
  obtain ⟨hx3, hr4⟩ := and_e hr3
  obtain ⟨i3, ee3⟩ := is_v hx3
  obtain rfl : w3 = (.int i3) := Option.some.inj ee3
  obtain ⟨hx4, hr5⟩ := and_e hr4
  obtain ⟨i4, ee4⟩ := is_v hx4
  obtain rfl : w4 = (.int i4) := Option.some.inj ee4
  have hx5 := hr5
  obtain ⟨i5, ee5⟩ := is_v hx5
  obtain rfl : w5 = (.int i5) := Option.some.inj ee5
  obtain ⟨n, o, h1, h2, h3, _, L, rfl, ⟨A', rfl, hRel, N⟩, hq⟩ := law_met l hw s.heap.size i0 i1 i2 i3 i4 i5 tables_1 s.heap ⟨rfl, fun i o h => by simp at h⟩ p e ha hc hk s m _ below hf ((Spec.applies_iff_loose hf).mp happ).1 ⟨rfl, State.Warmed39.refl s, rfl⟩ trivial
  refine ⟨n, _, h1, h2, h3, hpost _ _ _ _ _ _ ⟨Cond.after_iff.mpr rfl, Cond.after_iff.mpr (eq_i res_at (Term.int_eval (1)) rfl), trivial⟩ ⟨hq.1, hq.2.1, (hq.2.2.sift fun y hy => Or.inr (N y hy)).mono (by decide) (by decide)⟩⟩
theorem main_1_1 : Claimed_1_1 := comes_1 fun _ _ _ _ _ _ h hF => ⟨h.1, hF⟩
theorem main_1_2 : Claimed_1_2 := comes_1 fun _ _ _ _ _ _ h hF => ⟨h.2.1, hF⟩
end Jvm.Pilot.@@N@@
namespace Jvm.Pilot.@@N@@
open Jvm Jvm.ClassFile Sem Op Lib Jvm.Free Jvm.Stand Jvm.Pilot.@@N@@.Jvm.D
/-! MADE BY PROGRAM (witnessworld.py) out of the Statement's table words and the real class files: 9 classes; the members and pool entries that the words name. The judged class is class 1, her method 3. -/
namespace start1
open Jvm.ClassFile
def u (s : String) : CpInfo := .utf8 (stringToUtf16 s)
/-- a pool by its gaps: so many unusable entries, then the entry; so many at the end -/
def gap : Nat → List CpInfo → List CpInfo
  | 0, r => r
  | n + 1, r => .unusable :: gap n r
def poolList (es : List (Nat × CpInfo)) (last : Nat) : List CpInfo := es.foldr (fun e r => gap e.1 (e.2 :: r)) (gap last [])
def pool (es : List (Nat × CpInfo)) (last : Nat) : Array CpInfo := ⟨poolList es last⟩
def fileOf (pool : Array CpInfo) (this : Nat) (attrs : Array Attribute := #[]) (ms : Array MethodInfo := #[]) (fl : Nat := 33) (sup : Nat := 0) (ifs : Array Nat := #[]) (fds : Array FieldInfo := #[]) : ClassFile where
  minorVersion := 0
  majorVersion := 65
  constantPool := pool
  accessFlags := fl
  thisClass := this
  superClass := sup
  interfaces := ifs
  fields := fds
  methods := ms
  attributes := attrs
def plain (name : String) (sup : Option ClassId) : Class where
  name := name
  kind := .ordinary
  loader := none
  accessFlags := 33
  super := sup
  interfaces := #[]
  cf := none
  fields := #[]
  methods := #[]
  instanceTypes := #[]
  staticTypes := #[]
  resolved := #[]
  callSites := []
  init := .initialized
  statics := none
  mirror := none

def pool0 : Array CpInfo := pool [(5, u "<init>"), (0, u "()V"), (1, .class_ 10), (1, u "java/lang/Object")] 113

def k0m0 : Method := { name := "<init>", desc := "()V", sig := { parameters := [], returnType := none }, accessFlags := 1, code := none }
/-- java/lang/Object -/
def k0 : Class := { plain "java/lang/Object" none with
  accessFlags := 33
  interfaces := #[]
  cf := some (fileOf pool0 8 #[] #[{ accessFlags := 1, nameIndex := 5, descriptorIndex := 6, attributes := #[] }] 33 0 #[] #[])
  fields := #[]
  methods := #[k0m0]
  instanceTypes := #[]
  staticTypes := #[]
  resolved := Array.replicate 124 none
  statics := none }

def pool1 : Array CpInfo := pool [(2, .class_ 4), (1, u "java/lang/Object"), (0, u "<init>"), (0, u "()V"), (0, .methodref 8 9), (0, .class_ 10), (0, .nameAndType 11 12), (0, u "com/example/wavegrant/wavegrant/GroupsStartsPinLaw"), (0, u "below"), (0, u "([III)I"), (0, .integer 2147483647), (0, .methodref 15 16), (0, .class_ 17), (0, .nameAndType 18 19), (0, u "com/example/wavegrant/wavegrant/Groups"), (0, u "starts"), (0, u "([III)[I"), (0, .methodref 8 21), (0, .nameAndType 22 23), (0, u "at"), (0, u "([II[III)Z"), (3, u "law"), (0, u "(IIIIII)Z")] 4

def k1m0 : Method := { name := "<init>", desc := "()V", sig := { parameters := [], returnType := none }, accessFlags := 2, code := none }
def k1c1 : Code := { maxStack := 2, maxLocals := 4, code := method_2_code, exceptionTable := #[], attributes := #[] }
def k1m1 : Method := { name := "below", desc := "([III)I", sig := { parameters := [(.array .int), .int, .int], returnType := some .int }, accessFlags := 10, code := some k1c1 }
def k1c2 : Code := { maxStack := 4, maxLocals := 5, code := method_3_code, exceptionTable := #[], attributes := #[] }
def k1m2 : Method := { name := "at", desc := "([II[III)Z", sig := { parameters := [(.array .int), .int, (.array .int), .int, .int], returnType := some .boolean }, accessFlags := 10, code := some k1c2 }
def k1c3 : Code := { maxStack := 5, maxLocals := 10, code := code, exceptionTable := #[], attributes := #[] }
def k1m3 : Method := { name := "law", desc := "(IIIIII)Z", sig := { parameters := [.int, .int, .int, .int, .int, .int], returnType := some .boolean }, accessFlags := 9, code := some k1c3 }
/-- com/example/wavegrant/wavegrant/GroupsStartsPinLaw -/
def k1 : Class := { plain "com/example/wavegrant/wavegrant/GroupsStartsPinLaw" (some 0) with
  accessFlags := 49
  interfaces := #[]
  cf := some (fileOf pool1 8 #[] #[{ accessFlags := 2, nameIndex := 5, descriptorIndex := 6, attributes := #[] }, { accessFlags := 10, nameIndex := 11, descriptorIndex := 12, attributes := #[] }, { accessFlags := 10, nameIndex := 22, descriptorIndex := 23, attributes := #[] }, { accessFlags := 9, nameIndex := 27, descriptorIndex := 28, attributes := #[] }] 49 2 #[] #[])
  fields := #[]
  methods := #[k1m0, k1m1, k1m2, k1m3]
  instanceTypes := #[]
  staticTypes := #[]
  resolved := Array.replicate 33 none
  statics := none }

def pool2 : Array CpInfo := pool [(2, .class_ 4), (1, u "java/lang/Object"), (0, u "<init>"), (0, u "()V"), (6, .class_ 14), (0, u "com/example/wavegrant/wavegrant/Groups"), (2, u "starts"), (0, u "([III)[I")] 7

def k2m0 : Method := { name := "<init>", desc := "()V", sig := { parameters := [], returnType := none }, accessFlags := 2, code := none }
def k2c1 : Code := { maxStack := 5, maxLocals := 5, code := prog_8_method_2_code, exceptionTable := #[], attributes := #[] }
def k2m1 : Method := { name := "starts", desc := "([III)[I", sig := { parameters := [(.array .int), .int, .int], returnType := some (.array .int) }, accessFlags := 8, code := some k2c1 }
/-- com/example/wavegrant/wavegrant/Groups -/
def k2 : Class := { plain "com/example/wavegrant/wavegrant/Groups" (some 0) with
  accessFlags := 48
  interfaces := #[]
  cf := some (fileOf pool2 13 #[] #[{ accessFlags := 2, nameIndex := 5, descriptorIndex := 6, attributes := #[] }, { accessFlags := 8, nameIndex := 17, descriptorIndex := 18, attributes := #[] }] 48 2 #[] #[])
  fields := #[]
  methods := #[k2m0, k2m1]
  instanceTypes := #[]
  staticTypes := #[]
  resolved := Array.replicate 26 none
  statics := none }

def pool3 : Array CpInfo := pool [(1, u "java/lang/Cloneable"), (0, .class_ 1), (0, u "java/lang/Object"), (0, .class_ 3)] 3

/-- java/lang/Cloneable -/
def k3 : Class := { plain "java/lang/Cloneable" (some 0) with
  accessFlags := 1537
  interfaces := #[]
  cf := some (fileOf pool3 2 #[] #[] 1537 4 #[] #[])
  fields := #[]
  methods := #[]
  instanceTypes := #[]
  staticTypes := #[]
  resolved := Array.replicate 8 none
  statics := none }

def pool4 : Array CpInfo := pool [(1, u "java/io/Serializable"), (0, .class_ 1), (0, u "java/lang/Object"), (0, .class_ 3)] 3

/-- java/io/Serializable -/
def k4 : Class := { plain "java/io/Serializable" (some 0) with
  accessFlags := 1537
  interfaces := #[]
  cf := some (fileOf pool4 2 #[] #[] 1537 4 #[] #[])
  fields := #[]
  methods := #[]
  instanceTypes := #[]
  staticTypes := #[]
  resolved := Array.replicate 8 none
  statics := none }

/-- the primitive byte -/
def k5 : Class := { plain "byte" none with kind := .primitive 'B', accessFlags := 0x411 }
/-- [B -/
def k6 : Class := { plain "[B" (some 0) with kind := .array 5 .byte, interfaces := #[3, 4], accessFlags := 1041 }

/-- the primitive int -/
def k7 : Class := { plain "int" none with kind := .primitive 'I', accessFlags := 0x411 }
/-- [I -/
def k8 : Class := { plain "[I" (some 0) with kind := .array 7 .int, interfaces := #[3, 4], accessFlags := 1041 }

def heap : Heap := #[]
def classes : Array Class := #[k0, k1, k2, k3, k4, k5, k6, k7, k8]
def interned : List (Array UInt16 × Addr) := []
def slotsUsed : Nat := 0
def theMethod : MethodId := ⟨1, 3⟩
def args0 : Array Value := #[.int 5, .int 6, .int 7, .int 8, .int 9, .int 10]
def aboutOver (below : List Frame) : State where
  vm := { classes := classes, interned := interned.toArray }
  heap := heap
  slotsUsed := slotsUsed
  threads := #[{ frames := .invoking theMethod args0 :: below }]
def below0 : List Frame := [.native { method := ⟨0, 0⟩, args := #[] }]
def about1 : State := aboutOver below0
def p0 : Program := .bare "" "" ""
def e0 : Env := launch0.env 0 0 0
theorem w_frames : about1.frames = Frame.invoking theMethod args0 :: below0 := rfl
set_option maxRecDepth 65536 in
theorem w_args : argsFit about1.vm theMethod args0 = true := by decide +kernel
set_option maxRecDepth 65536 in
theorem w_heap : heapFits about1 = true := by decide +kernel
set_option maxRecDepth 65536 in
theorem w_runnable : about1.curStatus? = some .runnable := by decide +kernel
set_option maxRecDepth 65536 in
theorem w_alone : about1.alone = true := by decide +kernel
set_option maxRecDepth 65536 in
theorem w_named : about1.methodNamed? x = some theMethod := by decide +kernel
set_option maxRecDepth 65536 in
theorem w_hears : about1.hears theMethod below0 = true := by decide +kernel
set_option maxRecDepth 65536 in
theorem w_ripe : about1.ripe theMethod args0 below0 = true := by decide +kernel
theorem w_running : about1.status = .running := rfl
set_option maxRecDepth 65536 in
theorem w_room : about1.hasRoom e0.platform room_1 = true :=
  launch0.hasRoom_least _ room_1 (by decide +kernel) (by decide +kernel) (by decide +kernel) (by decide +kernel) (by decide +kernel) (by decide +kernel)
theorem allAtoms_all (ts : List Jvm.Cond) (a : Array Jvm.Value) (st : Jvm.State) : (allAtoms ts).before a st = ts.all (fun c => c.before a st) := by
  induction ts with
  | nil => rfl
  | cons c t ih =>
    show (Jvm.Cond.and c (allAtoms t)).before a st = _
    rw [Jvm.Cond.before_and, ih, List.all_cons]
def words1 : List Jvm.Cond := Jvm.Cond.code x code maxLocals ret :: tables_1
/-- a 'code' word, met by the world's own term for the bytes: nothing is compared byte by byte -/
theorem code_word {y : MethodName} {bytes : ByteArray} {mx : Nat} {rt : Option FieldType} {a : Array Value} {s : State} {m : MethodId} {meth : Method} {c : Code} (h1 : s.methodNamed? y = some m) (h2 : s.vm.method? m = some meth) (h3 : meth.code = some c) (h4 : c.code = bytes)
    (h5 : (c.maxLocals == mx && c.exceptionTable.isEmpty && decide (c.maxStack ≤ mostOperands) && decide (meth.sig.returnType = rt) && !meth.locks && decide (parseMethodDescriptor y.desc = some meth.sig)) = true) : (Jvm.Cond.code y bytes mx rt).before a s = true := by
  simp only [Bool.and_eq_true, beq_iff_eq, Bool.not_eq_true', decide_eq_true_eq] at h5
  obtain ⟨⟨⟨⟨⟨g1, g2⟩, g3⟩, g4⟩, g5⟩, g6⟩ := h5
  simp [Cond.before, Cond.holds, Cond.value, h1, h2, h3, h4, g1, g2, g3, g4, g5, g6]
def isCode : Jvm.Cond → Bool
  | .code _ _ _ _ => true
  | _ => false
theorem all_split {L : List Jvm.Cond} {P : Jvm.Cond → Bool} (h1 : L.all (fun c => isCode c || P c) = true) (h2 : ∀ c ∈ L.filter isCode, P c = true) : L.all P = true := by
  refine List.all_eq_true.mpr fun c hc => ?_
  have h := List.all_eq_true.mp h1 c hc
  rcases Bool.eq_false_or_eq_true (isCode c) with hi | hi
  · exact h2 c (List.mem_filter.mpr ⟨hc, hi⟩)
  · simpa [hi] using h
set_option maxRecDepth 65536 in
theorem w_c0 : (Jvm.Cond.code x code maxLocals ret).before args0 about1 = true := code_word (m := ⟨1, 3⟩) (meth := k1m3) (c := k1c3) (by decide +kernel) rfl rfl rfl (by decide +kernel)
set_option maxRecDepth 65536 in
theorem w_c1 : (Jvm.Cond.code ({ cls := "com/example/wavegrant/wavegrant/Groups", name := "starts", desc := "([III)[I" } : Jvm.MethodName) prog_8_method_2_code (5 : Nat) (Option.some (Jvm.ClassFile.FieldType.array Jvm.ClassFile.FieldType.int))).before args0 about1 = true := code_word (m := ⟨2, 1⟩) (meth := k2m1) (c := k2c1) (by decide +kernel) rfl rfl rfl (by decide +kernel)
set_option maxRecDepth 65536 in
theorem w_c2 : (Jvm.Cond.code ({ cls := "com/example/wavegrant/wavegrant/GroupsStartsPinLaw", name := "at", desc := "([II[III)Z" } : Jvm.MethodName) method_3_code (5 : Nat) (Option.some Jvm.ClassFile.FieldType.boolean)).before args0 about1 = true := code_word (m := ⟨1, 2⟩) (meth := k1m2) (c := k1c2) (by decide +kernel) rfl rfl rfl (by decide +kernel)
set_option maxRecDepth 65536 in
theorem w_c3 : (Jvm.Cond.code ({ cls := "com/example/wavegrant/wavegrant/GroupsStartsPinLaw", name := "below", desc := "([III)I" } : Jvm.MethodName) method_2_code (4 : Nat) (Option.some Jvm.ClassFile.FieldType.int)).before args0 about1 = true := code_word (m := ⟨1, 1⟩) (meth := k1m1) (c := k1c1) (by decide +kernel) rfl rfl rfl (by decide +kernel)
def codes1 : List Jvm.Cond := [Jvm.Cond.code x code maxLocals ret, Jvm.Cond.code ({ cls := "com/example/wavegrant/wavegrant/Groups", name := "starts", desc := "([III)[I" } : Jvm.MethodName) prog_8_method_2_code (5 : Nat) (Option.some (Jvm.ClassFile.FieldType.array Jvm.ClassFile.FieldType.int)), Jvm.Cond.code ({ cls := "com/example/wavegrant/wavegrant/GroupsStartsPinLaw", name := "at", desc := "([II[III)Z" } : Jvm.MethodName) method_3_code (5 : Nat) (Option.some Jvm.ClassFile.FieldType.boolean), Jvm.Cond.code ({ cls := "com/example/wavegrant/wavegrant/GroupsStartsPinLaw", name := "below", desc := "([III)I" } : Jvm.MethodName) method_2_code (4 : Nat) (Option.some Jvm.ClassFile.FieldType.int)]
set_option maxRecDepth 65536 in
theorem codes_eq : words1.filter isCode = codes1 := rfl
theorem w_codes : ∀ c ∈ words1.filter isCode, c.before args0 about1 = true := by
  rw [codes_eq]
  intro c hc
  simp only [codes1, List.mem_cons, List.not_mem_nil, or_false] at hc
  rcases hc with rfl | rfl | rfl | rfl
  · exact w_c0
  · exact w_c1
  · exact w_c2
  · exact w_c3
set_option maxRecDepth 65536 in
theorem w_t1 : words1.all (fun c => isCode c || c.before args0 about1) = true := by decide +kernel
theorem w_tables : (allAtoms (Jvm.Cond.code x code maxLocals ret :: tables_1)).before args0 about1 = true := by
  rw [allAtoms_all]
  show words1.all (fun c => c.before args0 about1) = true
  refine all_split ?_ w_codes
  rw [w_t1]
set_option maxRecDepth 65536 in
theorem w_case : (Jvm.Cond.and given_1 narrow_1).before args0 about1 = true := by decide +kernel
theorem w_applies : (headSpec (Jvm.Cond.code x code maxLocals ret :: tables_1) room_1).applies x e0.platform about1 = true :=
  (Spec.applies_iff w_frames).mpr ⟨w_running, w_runnable, w_alone, w_named, w_hears, w_ripe, w_room, w_tables⟩
theorem atStart : AtStart classFile x code maxLocals ret World_1 tables_1 room_1 Calls_1 rest_1 Pre_1 launch0 p0 e0 about1 theMethod args0 below0 :=
  ⟨lists_1, trivial, launch0.admits_env _ _ _, launch0.least_env, fairChoices_fair.cas, fairChoices_fair.clock, w_frames, w_args, w_heap, w_applies, trivial, trivial, w_case⟩
end start1
theorem witness_1 : WitnessClaimed_1 := ⟨start1.p0, start1.e0, start1.about1, start1.theMethod, start1.args0, start1.below0, start1.atStart⟩
end Jvm.Pilot.@@N@@
