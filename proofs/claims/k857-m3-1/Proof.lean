import JvmDerived
import JvmDerived.Pilot.@@N@@Statement
import JvmDerived.Pilot.@@N@@Code
set_option linter.unusedVariables false
set_option linter.unusedSimpArgs false
namespace Jvm.OwnKit
open Sem ClassFile Op Lib Jvm.Free Jvm.Stand Jvm.LawKit Jvm.RoadKit
/-! My own layer: an abstract heap (a list of objects made since the law began) and one rule a bytecode step, each over a law of the library. -/
abbrev oz : Value := .int 0
abbrev ol : Value := .long 0
abbrev rf (n0 i : Nat) : Value := .ref (n0 + i)
abbrev Ob : Type := (Nat × List Value) ⊕ (FieldType × List Value)
abbrev KTab : Type := List (String × List (String × String × String))
def ObAt (Z : State) (K : KTab) (h : Heap) (a : Addr) : Ob → Prop
  | .inl (k, vs) => ∃ C fs, K[k]? = some (C, fs) ∧ Exa Z h a C ∧ vs.length = fs.length ∧ ∀ (j : Nat) (f : String × String × String) (v : Value), fs[j]? = some f → vs[j]? = some v → Fld Z h a f.1 f.2.1 f.2.2 v
  | .inr (ty, vs) => (Exa Z h a ("[" ++ ty.toString) ∧ ∀ v ∈ vs, fits ty v = true) ∧ ∃ c : Cell, Arr Z h a c ty ∧ c.slots = vs.toArray ∧ ∀ C, ty = .object C → Ovr Z c.cls C
def Rel (Z : State) (K : KTab) (n0 : Nat) (h : Heap) (A : List Ob) : Prop := h.size = n0 + A.length ∧ ∀ (i : Nat) (o : Ob), A[i]? = some o → ObAt Z K h (n0 + i) o
def KOk (Z : State) (a0 : Array Value) (K : KTab) : Prop := ∀ (k : Nat) (C : String) (fs : List (String × String × String)), K[k]? = some (C, fs) →
  (∃ n, (Cond.instantiable C n).before a0 Z = true) ∧ (∀ (j : Nat) (f : String × String × String), fs[j]? = some f → Laid Z a0 C f.1 f.2.1 f.2.2 ∧ ∃ t, parseFieldDescriptor f.2.2 = some t) ∧
  ∀ (i j : Nat) (f g : String × String × String), fs[i]? = some f → fs[j]? = some g → i ≠ j → f.2.1 ≠ g.2.1
section Facts
variable {Z : State} {a0 : Array Value} {K : KTab} {h h' : Heap} {a b : Addr} {o o' : Ob} {n0 : Nat} {A : List Ob} {sl : Nat} {v : Value}
theorem ObAt.ext (E : Ext h h') (F : ObAt Z K h a o) : ObAt Z K h' a o := by
  rcases o with ⟨k, vs⟩ | ⟨ty, vs⟩
  · obtain ⟨C, fs, h1, h2, h3, h4⟩ := F
    exact ⟨C, fs, h1, h2.ext E, h3, fun j f v q r => (h4 j f v q r).ext E⟩
  · obtain ⟨⟨h1, hf⟩, c, h2, h3, h4⟩ := F
    exact ⟨⟨h1.ext E, hf⟩, c, h2.ext E, h3, h4⟩
theorem ObAt.other (W : Wr h h' b sl v) (hne : a ≠ b) (F : ObAt Z K h a o) : ObAt Z K h' a o := by
  rcases o with ⟨k, vs⟩ | ⟨ty, vs⟩
  · obtain ⟨C, fs, h1, h2, h3, h4⟩ := F
    exact ⟨C, fs, h1, h2.wr W, h3, fun j f v q r => (h4 j f v q r).other W (Or.inl hne)⟩
  · obtain ⟨⟨h1, hf⟩, c, h2, h3, h4⟩ := F
    exact ⟨⟨h1.wr W, hf⟩, c, h2.other W hne, h3, h4⟩
theorem ObAt.keep {ws : List Addr} (E : Keep h h' ws) (hne : a ∉ ws) (F : ObAt Z K h a o) : ObAt Z K h' a o := by
  rcases o with ⟨k, vs⟩ | ⟨ty, vs⟩
  · obtain ⟨C, fs, h1, h2, h3, h4⟩ := F
    exact ⟨C, fs, h1, h2.keep E, h3, fun j f v q r => (h4 j f v q r).keep E hne⟩
  · obtain ⟨⟨h1, hf⟩, c, h2, h3, h4⟩ := F
    exact ⟨⟨h1.keep E, hf⟩, c, ⟨E.2.1 a c h2.1 hne, h2.2⟩, h3, h4⟩
theorem Rel.keep {i : Nat} (R : Rel Z K n0 h A) (E : Keep h h' [n0 + i]) (hs : h'.size = h.size) (hO : ObAt Z K h' (n0 + i) o') : Rel Z K n0 h' (A.set i o') := by
  refine ⟨by rw [hs, R.1]; simp, fun j o hj => ?_⟩
  by_cases e : i = j
  · subst e
    obtain ⟨hl, -⟩ := List.getElem?_eq_some_iff.mp hj
    rw [List.getElem?_set_self (by simpa using hl)] at hj
    cases hj; exact hO
  · rw [List.getElem?_set_ne e] at hj
    exact (R.2 j o hj).keep E (fun q => e (Nat.add_left_cancel (List.mem_singleton.mp q)).symm)
theorem ObAt.exa {k : Nat} {vs : List Value} {C : String} {fs : List (String × String × String)} (hk : K[k]? = some (C, fs)) (F : ObAt Z K h a (.inl (k, vs))) : Exa Z h a C := by
  obtain ⟨C', fs', h1, h2, -⟩ := F
  cases hk.symm.trans h1; exact h2
theorem Rel.push (R : Rel Z K n0 h A) (E : Ext h h') (hs : h'.size = n0 + (A.length + 1)) (hN : ObAt Z K h' (n0 + A.length) o) : Rel Z K n0 h' (A ++ [o]) := by
  refine ⟨by rw [hs]; simp, fun i o' hi => ?_⟩
  by_cases hlt : i < A.length
  · rw [List.getElem?_append_left hlt] at hi; exact (R.2 i o' hi).ext E
  · rw [List.getElem?_append_right (by omega)] at hi
    have he : i - A.length = 0 := by
      have := (List.getElem?_eq_some_iff.mp hi).1
      simp at this; omega
    rw [he] at hi
    cases hi
    have : i = A.length := by omega
    rw [this]; exact hN
theorem Rel.set {i : Nat} (R : Rel Z K n0 h A) (W : Wr h h' (n0 + i) sl v) (hO : ObAt Z K h' (n0 + i) o') : Rel Z K n0 h' (A.set i o') := by
  refine ⟨by rw [W.size, R.1]; simp, fun j o hj => ?_⟩
  by_cases e : i = j
  · subst e
    obtain ⟨hl, -⟩ := List.getElem?_eq_some_iff.mp hj
    rw [List.getElem?_set_self (by simpa using hl)] at hj
    cases hj; exact hO
  · rw [List.getElem?_set_ne e] at hj
    exact (R.2 j o hj).other W (fun q => e (Nat.add_left_cancel q).symm)
theorem ObAt.setF (KK : KOk Z a0 K) {k j : Nat} {vs : List Value} {C : String} {fs : List (String × String × String)} {f : String × String × String} (hk : K[k]? = some (C, fs)) (hj : fs[j]? = some f) (W : Wr h h' a (RoadKit.slotOf Z f.1 f.2.1 f.2.2) v) (F : ObAt Z K h a (.inl (k, vs))) : ObAt Z K h' a (.inl (k, vs.set j v)) := by
  obtain ⟨C', fs', h1, h2, h3, h4⟩ := F
  cases hk.symm.trans h1
  refine ⟨C, fs, hk, h2.wr W, by simpa using h3, fun j' f' v' q r => ?_⟩
  by_cases e : j = j'
  · subst e
    cases hj.symm.trans q
    have hl : j < vs.length := by rw [h3]; exact (List.getElem?_eq_some_iff.mp hj).1
    rw [List.getElem?_set_self hl] at r
    cases r
    exact (h4 j f vs[j] hj (List.getElem?_eq_getElem hl)).same W
  · rw [List.getElem?_set_ne e] at r
    obtain ⟨-, k2, k3⟩ := KK k C fs hk
    obtain ⟨L1, t1, p1⟩ := k2 j f hj
    obtain ⟨L2, t2, p2⟩ := k2 j' f' q
    exact (h4 j' f' v' q r).other W (Or.inr (slot_ne L2 L1 (k3 j' j f' f q hj (Ne.symm e)) p2 p1))
theorem ObAt.setA {ty : FieldType} {vs : List Value} {j : Nat} (W : Wr h h' a j v) (hv : fits ty v = true) (F : ObAt Z K h a (.inr (ty, vs))) : ObAt Z K h' a (.inr (ty, vs.set j v)) := by
  obtain ⟨⟨h1, hf⟩, c, h2, h3, h4⟩ := F
  refine ⟨⟨h1.wr W, fun w hw => ?_⟩, c.setSlot j v, h2.same W, ?_, h4⟩
  · rcases List.mem_or_eq_of_mem_set hw with q | rfl
    · exact hf w q
    · exact hv
  simp [Cell.setSlot, h3]
end Facts
/-! ## The walk -/
def Go (p : Program) (l : Launch) (e : Env) (R : Room) (s : State) (m : MethodId) (args : Array Value) (below : List Frame) (meth : Method) (c : Code) (Z : State) (K : KTab) (n0 : Nat) (Q : Option Value → List Ob → Prop)
    (pc : Nat) (ls : Array Slot) (st : List Value) (A : List Ob) (k n : Nat) : Prop :=
  ∀ (T : State) (locs : List Loc), Stand p l e R s m args below meth c T locs k n → Rel Z K n0 T.heap A → Fr n0 locs →
    ∃ s₂ o, Steps p.tables e below (T.setTop (mkF m pc ls st)) s₂ ∧ s₂.status = .running ∧ Ended s₂ below o ∧ ∃ v L, o = .returned v ∧ (∃ A', Q v A' ∧ Rel Z K n0 s₂.heap A' ∧ Fr n0 L) ∧ FrameEnd s o s₂ L R.cells R.slots
abbrev GoT : Type := Nat → Array Slot → List Value → List Ob → Nat → Nat → Prop
def IsGo (l : Launch) (Z : State) (a0 : Array Value) (K : KTab) (n0 b0 : Nat) (y : MethodName) (bytes : ByteArray) (maxL : Nat) (ret : Option FieldType) (R : Room) (Q : Option Value → List Ob → Prop) (G : GoT) : Prop :=
  ∃ (p : Program) (e : Env) (s : State) (m : MethodId) (args : Array Value) (below : List Frame) (meth : Method) (c : Code), p.tables.exec = Jvm.exec ∧ c.code = bytes ∧ c.maxLocals = maxL ∧ s.vm.findClass y.cls = some m.cls ∧ meth.name = y.name ∧ meth.sig.returnType = ret ∧ meth.locks = false ∧ Z.Warmed39 s.vm ∧ KOk Z a0 K ∧ s.heap.size = n0 + b0 ∧ G = Go p l e R s m args below meth c Z K n0 Q
/-- the contract of a method, by its arguments and the abstract heap -/
def Met (l : Launch) (Z : State) (K : KTab) (n0 : Nat) (y : MethodName) (bytes : ByteArray) (maxL : Nat) (ret : Option FieldType) (R : Room) (as : Array Value) (A : List Ob) (Q : Option Value → List Ob → Prop) : Prop :=
  ∀ (ws : List Jvm.Cond) (h0 : Heap), Rel Z K n0 h0 A → MetFree l y (head1 (Jvm.Cond.code y bytes maxL ret :: ws) R) (fun a U => a = as ∧ Z.Warmed39 U.vm ∧ U.heap = h0) (fun _ _ _ _ _ => True)
    (fun _ U o U' => ∃ v L, o = .returned v ∧ (∃ A', Q v A' ∧ Rel Z K n0 U'.heap A' ∧ Fr n0 L) ∧ FrameEnd U o U' L R.cells R.slots)
def Nx (b : ByteArray) (pc : Nat) (i : Instr) (len pc' : Nat) : Prop := decode b pc = .ok (i, len) ∧ pc' = pc + len
def Bx (b : ByteArray) (pc : Nat) (i : Int → Instr) (t f : Nat) : Prop := ∃ o : Int, decode b pc = .ok (i o, 3) ∧ 0 ≤ (pc : Int) + o ∧ ((pc : Int) + o).toNat = t ∧ f = pc + 3
theorem get_set_self {A : List Ob} {i : Nat} {o o' : Ob} (h : A[i]? = some o) : (A.set i o')[i]? = some o' := List.getElem?_set_self (List.getElem?_eq_some_iff.mp h).1
theorem get_set_ne {A : List Ob} {i j : Nat} {o o' : Ob} (h : A[j]? = some o) (hne : i ≠ j) : (A.set i o')[j]? = some o := by rw [List.getElem?_set_ne hne]; exact h
theorem len_set {A : List Ob} {i N : Nat} {o : Ob} (h : A.length = N) : (A.set i o).length = N := by simpa using h
theorem get_app {A : List Ob} {i : Nat} {o o' : Ob} (h : A[i]? = some o) : (A ++ [o'])[i]? = some o := by rw [List.getElem?_append_left (List.getElem?_eq_some_iff.mp h).1]; exact h
theorem get_last {A : List Ob} {N : Nat} {o : Ob} (h : A.length = N) : (A ++ [o])[N]? = some o := by subst h; simp
theorem len_app {A : List Ob} {N : Nat} {o : Ob} (h : A.length = N) : (A ++ [o]).length = N + 1 := by simp [h]
theorem npOf {d : String} {ps : List FieldType} {r : Option FieldType} {n : Nat} (hd : parseMethodDescriptor d = some ⟨ps, r⟩) (hl : n = ps.length) : ∀ sig, parseMethodDescriptor d = some sig → n = sig.parameters.length := fun sig h => by cases hd.symm.trans h; exact hl
theorem leb {a b : Nat} (h : Nat.ble a b = true) : a ≤ b := Nat.le_of_ble_eq_true h
theorem ltb {a b : Nat} (h : Nat.ble (a + 1) b = true) : a < b := Nat.le_of_ble_eq_true h
theorem fa0 {α : Type} {P : α → Prop} : ∀ x ∈ ([] : List α), P x := fun _ q => nomatch q
theorem faS {α : Type} {P : α → Prop} {y : α} {L : List α} (q : P y) (r : ∀ x ∈ L, P x) : ∀ x ∈ y :: L, P x := fun x z => (List.mem_cons.mp z).elim (fun u => u ▸ q) (r x)
theorem kokOf {Z : State} {a0 : Array Value} {K : KTab} (h : ∀ p ∈ K, (∃ n, (Jvm.Cond.instantiable p.1 n).before a0 Z = true) ∧ (∀ f ∈ p.2, Laid Z a0 p.1 f.1 f.2.1 f.2.2 ∧ ∃ t, parseFieldDescriptor f.2.2 = some t) ∧ (p.2.map (·.2.1)).Nodup) : KOk Z a0 K := by
  intro k C fs hk
  obtain ⟨h1, h2, h3⟩ := h _ (List.mem_of_getElem? hk)
  refine ⟨h1, fun j f hj => h2 f (List.mem_of_getElem? hj), fun i j f g hi hj hne e => hne ?_⟩
  have q1 : (fs.map (·.2.1))[i]? = some f.2.1 := by simp [List.getElem?_map, hi]
  have q2 : (fs.map (·.2.1))[j]? = some f.2.1 := by simp [List.getElem?_map, hj, e]
  obtain ⟨l1, e1⟩ := List.getElem?_eq_some_iff.mp q1
  obtain ⟨l2, e2⟩ := List.getElem?_eq_some_iff.mp q2
  have h4 := List.pairwise_iff_getElem.mp h3
  rcases Nat.lt_trichotomy i j with q | q | q
  · exact absurd (e1.trans e2.symm) (h4 i j l1 l2 q)
  · exact q
  · exact absurd (e2.trans e1.symm) (h4 j i l2 l1 q)
def Is (v : Option Value) (A' : List Ob) : Option Value → List Ob → Prop := fun v' B => v' = v ∧ B = A'
theorem i_lt {u v : Int32} {a b : Int} (hu : u.toInt = a) (hv : v.toInt = b) : u < v ↔ a < b := by subst hu hv; exact Int32.lt_iff_toInt_lt
theorem i_ge {u v : Int32} {a b : Int} (hu : u.toInt = a) (hv : v.toInt = b) : ¬ u < v ↔ b ≤ a := by rw [i_lt hu hv]; omega
theorem i_eq {u v : Int32} {a b : Int} (hu : u.toInt = a) (hv : v.toInt = b) : u = v ↔ a = b := by subst hu hv; exact Int32.toInt_inj.symm
theorem i_ne {u v : Int32} {a b : Int} (hu : u.toInt = a) (hv : v.toInt = b) : ¬ u = v ↔ ¬ a = b := not_congr (i_eq hu hv)
theorem j_lt {u v : Int64} {a b : Int} (hu : u.toInt = a) (hv : v.toInt = b) : u < v ↔ a < b := by subst hu hv; exact Int64.lt_iff_toInt_lt
theorem j_ge {u v : Int64} {a b : Int} (hu : u.toInt = a) (hv : v.toInt = b) : ¬ u < v ↔ b ≤ a := by rw [j_lt hu hv]; omega
theorem j_eq {u v : Int64} {a b : Int} (hu : u.toInt = a) (hv : v.toInt = b) : u = v ↔ a = b := by subst hu hv; exact Int64.toInt_inj.symm
theorem j_ne {u v : Int64} {a b : Int} (hu : u.toInt = a) (hv : v.toInt = b) : ¬ u = v ↔ ¬ a = b := not_congr (j_eq hu hv)
theorem x_iadd {a b : Int32} {x y : Int} (ha : a.toInt = x) (hb : b.toInt = y) (h : -2147483648 ≤ x + y ∧ x + y < 2147483648) : (a + b).toInt = x + y := by
  have q := c_iadd a b
  have r := rng32 (a + b)
  rw [ha, hb] at q
  omega
theorem x_isub {a b : Int32} {x y : Int} (ha : a.toInt = x) (hb : b.toInt = y) (h : -2147483648 ≤ x - y ∧ x - y < 2147483648) : (a - b).toInt = x - y := by
  have q := c_isub a b
  have r := rng32 (a - b)
  rw [ha, hb] at q
  omega
theorem x_imul {a b : Int32} {x y : Int} (ha : a.toInt = x) (hb : b.toInt = y) (h : -2147483648 ≤ x * y ∧ x * y < 2147483648) : (a * b).toInt = x * y := by
  have q := c_imul a b
  have r := rng32 (a * b)
  rw [ha, hb] at q
  omega
theorem x_ineg {a : Int32} {x : Int} (ha : a.toInt = x) (h : -2147483648 < x) : (-a).toInt = -x := by
  have q := c_ineg a
  have r := rng32 (-a)
  have r2 := rng32 a
  rw [ha] at q r2
  omega
theorem x_ladd {a b : Int64} {x y : Int} (ha : a.toInt = x) (hb : b.toInt = y) (h : -9223372036854775808 ≤ x + y ∧ x + y < 9223372036854775808) : (a + b).toInt = x + y := by
  have q := c_ladd a b
  have r := rng64 (a + b)
  rw [ha, hb] at q
  omega
theorem x_lsub {a b : Int64} {x y : Int} (ha : a.toInt = x) (hb : b.toInt = y) (h : -9223372036854775808 ≤ x - y ∧ x - y < 9223372036854775808) : (a - b).toInt = x - y := by
  have q := c_lsub a b
  have r := rng64 (a - b)
  rw [ha, hb] at q
  omega
theorem x_lmul {a b : Int64} {x y : Int} (ha : a.toInt = x) (hb : b.toInt = y) (h : -9223372036854775808 ≤ x * y ∧ x * y < 9223372036854775808) : (a * b).toInt = x * y := by
  have q := c_lmul a b
  have r := rng64 (a * b)
  rw [ha, hb] at q
  omega
theorem x_lneg {a : Int64} {x : Int} (ha : a.toInt = x) (h : -9223372036854775808 < x) : (-a).toInt = -x := by
  have q := c_lneg a
  have r := rng64 (-a)
  have r2 := rng64 a
  rw [ha] at q r2
  omega
theorem x_irem {a b : Int32} {x y : Int} (ha : a.toInt = x) (hb : b.toInt = y) (h : 0 ≤ x) : (a % b).toInt = x % y := by
  rw [(c_irem a b y hb).1 (by rw [ha]; exact h), ha]
theorem x_idiv {a b : Int32} {x y : Int} (ha : a.toInt = x) (hb : b.toInt = y) (h : 0 ≤ x) (hy : 0 < y) : (a / b).toInt = x / y := by
  have hm : b ≠ -1 := fun e => by
    have q : (-1 : Int32).toInt = -1 := by decide
    rw [e, q] at hb
    omega
  rw [(c_idiv a b y hb hm).1 (by rw [ha]; exact h), ha]
theorem x_i2l {a : Int32} {x : Int} (ha : a.toInt = x) : (a.toInt64).toInt = x := by rw [c_i2l]; exact ha
theorem x_l2i {a : Int64} {x : Int} (ha : a.toInt = x) (h : -2147483648 ≤ x ∧ x < 2147483648) : (a.toInt32).toInt = x := by
  have q := c_l2i a
  have r := rng32 a.toInt32
  rw [ha] at q
  omega
theorem mod_b {x y : Int} (hy : 0 < y) : 0 ≤ x % y ∧ x % y < y := ⟨Int.emod_nonneg _ (by omega), Int.emod_lt_of_pos _ hy⟩
section Rules
variable {l : Launch} {Z : State} {a0 : Array Value} {K : KTab} {n0 b0 : Nat} {y : MethodName} {bytes : ByteArray} {maxL : Nat} {ret : Option FieldType} {R : Room} {Q : Option Value → List Ob → Prop} {G : GoT}
variable {pc pc' : Nat} {ls ls' : Array Slot} {st st' : List Value} {A A' : List Ob} {k k' n n' : Nat}
theorem Met.of (KK : KOk Z a0 K) (hp : plainFor y = true) {as : Array Value} (hef : ∀ m, entryFrame m as maxL = mkF m 0 ls []) (body : ∀ G, IsGo l Z a0 K n0 A.length y bytes maxL ret R Q G → G 0 ls [] A 0 0) : Met l Z K n0 y bytes maxL ret R as A Q := by
  intro ws h0 hR
  refine MetFree.of_bodySF hp hisR ?_
  intro p e s m args below meth c s₁ Bd hml0 hP hK
  obtain ⟨rfl, hZ, hh⟩ := hP
  have e0 : s₁.heap = h0 := by rw [← hh, Bd.state]; rfl
  have H := body (Go p l e R s m args below meth c Z K n0 Q) ⟨p, e, s, m, args, below, meth, c, Bd.exec, Bd.bytes, hml0, findClass_of_methodNamed Bd.named, (name_of_methodNamed Bd.named Bd.method).1, Bd.returns, Bd.notSynchronized, hZ, KK, by rw [hh]; exact hR.1, rfl⟩
  obtain ⟨s₂, o, h1, h2, h3, h4⟩ := H s₁ [] (Stand.of_body Bd) (by rw [e0]; exact hR) (Fr.nil n0)
  exact ⟨s₂, o, castTop (hef m) h1, h2, h3, h4⟩
theorem Met.mono {as : Array Value} {Q' : Option Value → List Ob → Prop} (M : Met l Z K n0 y bytes maxL ret R as A Q) (h : ∀ v A', Q v A' → Q' v A') : Met l Z K n0 y bytes maxL ret R as A Q' := by
  intro ws h0 hR p e ha hc hk s m args below hf happ hP hK
  obtain ⟨n, o, h1, h2, h3, v, L, h4, ⟨A', h5, h6⟩, h7⟩ := M ws h0 hR p e ha hc hk s m args below hf happ hP hK
  exact ⟨n, o, h1, h2, h3, v, L, h4, ⟨A', h _ _ h5, h6⟩, h7⟩
theorem IsGo.lift (H : IsGo l Z a0 K n0 b0 y bytes maxL ret R Q G) (hs : ∀ {p : Program} {e : Env} {below : List Frame} {T target : State} {m : MethodId} {c : Code}, At T m c below → p.tables.exec = Jvm.exec → c.code = bytes → Steps p.tables e below (T.setTop (mkF m pc' ls' st')) target → Steps p.tables e below (T.setTop (mkF m pc ls st)) target)
    (h : G pc' ls' st' A k n) : G pc ls st A k n := by
  obtain ⟨p, e, s, m, args, below, meth, c, hx, hby, hml, hown, hnm, hret, hlk, hZ, hK, hb0, rfl⟩ := H
  intro T locs X hR hF
  obtain ⟨s₂, o, h1, h2⟩ := h T locs X hR hF
  exact ⟨s₂, o, hs X.here hx hby h1, h2⟩
/-! ### loads, stores, constants -/
theorem IsGo.iloadN (H : IsGo l Z a0 K n0 b0 y bytes maxL ret R Q G) {i : Fin 4} (hd : Nx bytes pc (.iload_n i) 1 pc') {v : Int32} (hl : ls[i.val]? = some (.val (.int v))) (h : G pc' ls (.int v :: st) A k n) : G pc ls st A k n := by
  obtain ⟨hd, rfl⟩ := hd
  exact H.lift (fun hA hx hby hr => XS.iloadN hA hx rfl (hb hby hd) hl hr) h
theorem IsGo.iload (H : IsGo l Z a0 K n0 b0 y bytes maxL ret R Q G) {i : Nat} (hd : Nx bytes pc (.iload i) 2 pc') {v : Int32} (hl : ls[i]? = some (.val (.int v))) (h : G pc' ls (.int v :: st) A k n) : G pc ls st A k n := by
  obtain ⟨hd, rfl⟩ := hd
  exact H.lift (fun hA hx hby hr => XS.iload hA hx rfl (hb hby hd) hl hr) h
theorem IsGo.lloadN (H : IsGo l Z a0 K n0 b0 y bytes maxL ret R Q G) {i : Fin 4} (hd : Nx bytes pc (.lload_n i) 1 pc') {v : Int64} (hl : ls[i.val]? = some (.val (.long v))) (h : G pc' ls (.long v :: st) A k n) : G pc ls st A k n := by
  obtain ⟨hd, rfl⟩ := hd
  exact H.lift (fun hA hx hby hr => XS.lloadN hA hx rfl (hb hby hd) hl hr) h
theorem IsGo.lload (H : IsGo l Z a0 K n0 b0 y bytes maxL ret R Q G) {i : Nat} (hd : Nx bytes pc (.lload i) 2 pc') {v : Int64} (hl : ls[i]? = some (.val (.long v))) (h : G pc' ls (.long v :: st) A k n) : G pc ls st A k n := by
  obtain ⟨hd, rfl⟩ := hd
  exact H.lift (fun hA hx hby hr => XS.lload hA hx rfl (hb hby hd) hl hr) h
theorem IsGo.aloadN (H : IsGo l Z a0 K n0 b0 y bytes maxL ret R Q G) {i : Fin 4} (hd : Nx bytes pc (.aload_n i) 1 pc') {v : Value} (hl : ls[i.val]? = some (.val v)) (hv : v.isRef = true) (h : G pc' ls (v :: st) A k n) : G pc ls st A k n := by
  obtain ⟨hd, rfl⟩ := hd
  exact H.lift (fun hA hx hby hr => XS.aloadN hA hx rfl (hb hby hd) hl hv hr) h
theorem IsGo.aload (H : IsGo l Z a0 K n0 b0 y bytes maxL ret R Q G) {i : Nat} (hd : Nx bytes pc (.aload i) 2 pc') {v : Value} (hl : ls[i]? = some (.val v)) (hv : v.isRef = true) (h : G pc' ls (v :: st) A k n) : G pc ls st A k n := by
  obtain ⟨hd, rfl⟩ := hd
  exact H.lift (fun hA hx hby hr => XS.aload hA hx rfl (hb hby hd) hl hv hr) h
theorem IsGo.istoreN (H : IsGo l Z a0 K n0 b0 y bytes maxL ret R Q G) {i : Fin 4} (hd : Nx bytes pc (.istore_n i) 1 pc') {v : Int32} (hl : storeLocals ls i.val (.int v) = some ls') (h : G pc' ls' st A k n) : G pc ls (.int v :: st) A k n := by
  obtain ⟨hd, rfl⟩ := hd
  exact H.lift (fun hA hx hby hr => XS.istoreN hA hx rfl (hb hby hd) rfl hl hr) h
theorem IsGo.istore (H : IsGo l Z a0 K n0 b0 y bytes maxL ret R Q G) {i : Nat} (hd : Nx bytes pc (.istore i) 2 pc') {v : Int32} (hl : storeLocals ls i (.int v) = some ls') (h : G pc' ls' st A k n) : G pc ls (.int v :: st) A k n := by
  obtain ⟨hd, rfl⟩ := hd
  exact H.lift (fun hA hx hby hr => XS.istore hA hx rfl (hb hby hd) rfl hl hr) h
theorem IsGo.lstoreN (H : IsGo l Z a0 K n0 b0 y bytes maxL ret R Q G) {i : Fin 4} (hd : Nx bytes pc (.lstore_n i) 1 pc') {v : Int64} (hl : storeLocals ls i.val (.long v) = some ls') (h : G pc' ls' st A k n) : G pc ls (.long v :: st) A k n := by
  obtain ⟨hd, rfl⟩ := hd
  exact H.lift (fun hA hx hby hr => XS.lstoreN hA hx rfl (hb hby hd) rfl hl hr) h
theorem IsGo.lstore (H : IsGo l Z a0 K n0 b0 y bytes maxL ret R Q G) {i : Nat} (hd : Nx bytes pc (.lstore i) 2 pc') {v : Int64} (hl : storeLocals ls i (.long v) = some ls') (h : G pc' ls' st A k n) : G pc ls (.long v :: st) A k n := by
  obtain ⟨hd, rfl⟩ := hd
  exact H.lift (fun hA hx hby hr => XS.lstore hA hx rfl (hb hby hd) rfl hl hr) h
theorem IsGo.astoreN (H : IsGo l Z a0 K n0 b0 y bytes maxL ret R Q G) {i : Fin 4} (hd : Nx bytes pc (.astore_n i) 1 pc') {v : Value} (hv : v.isRef = true) (hl : storeLocals ls i.val v = some ls') (h : G pc' ls' st A k n) : G pc ls (v :: st) A k n := by
  obtain ⟨hd, rfl⟩ := hd
  exact H.lift (fun hA hx hby hr => XS.astoreN hA hx rfl (hb hby hd) rfl hv hl hr) h
theorem IsGo.astore (H : IsGo l Z a0 K n0 b0 y bytes maxL ret R Q G) {i : Nat} (hd : Nx bytes pc (.astore i) 2 pc') {v : Value} (hv : v.isRef = true) (hl : storeLocals ls i v = some ls') (h : G pc' ls' st A k n) : G pc ls (v :: st) A k n := by
  obtain ⟨hd, rfl⟩ := hd
  exact H.lift (fun hA hx hby hr => XS.astore hA hx rfl (hb hby hd) rfl hv hl hr) h
theorem IsGo.iconst (H : IsGo l Z a0 K n0 b0 y bytes maxL ret R Q G) {i : Int} (hd : Nx bytes pc (.iconst i) 1 pc') {v : Int32} (hv : Int32.ofInt i = v) (h : G pc' ls (.int v :: st) A k n) : G pc ls st A k n := by
  obtain ⟨hd, rfl⟩ := hd
  subst hv
  exact H.lift (fun hA hx hby hr => XS.iconst hA hx rfl (hb hby hd) hr) h
theorem IsGo.bipush (H : IsGo l Z a0 K n0 b0 y bytes maxL ret R Q G) {i : Int} (hd : Nx bytes pc (.bipush i) 2 pc') {v : Int32} (hv : (Int8.ofInt i).toInt32 = v) (h : G pc' ls (.int v :: st) A k n) : G pc ls st A k n := by
  obtain ⟨hd, rfl⟩ := hd
  subst hv
  exact H.lift (fun hA hx hby hr => XS.bipush hA hx rfl (hb hby hd) hr) h
theorem IsGo.sipush (H : IsGo l Z a0 K n0 b0 y bytes maxL ret R Q G) {i : Int} (hd : Nx bytes pc (.sipush i) 3 pc') {v : Int32} (hv : (Int16.ofInt i).toInt32 = v) (h : G pc' ls (.int v :: st) A k n) : G pc ls st A k n := by
  obtain ⟨hd, rfl⟩ := hd
  subst hv
  exact H.lift (fun hA hx hby hr => XS.sipush hA hx rfl (hb hby hd) hr) h
theorem IsGo.lconst (H : IsGo l Z a0 K n0 b0 y bytes maxL ret R Q G) {i : Fin 2} (hd : Nx bytes pc (.lconst i) 1 pc') {v : Int64} (hv : Int64.ofNat i = v) (h : G pc' ls (.long v :: st) A k n) : G pc ls st A k n := by
  obtain ⟨hd, rfl⟩ := hd
  subst hv
  exact H.lift (fun hA hx hby hr => XS.lconst hA hx rfl (hb hby hd) hr) h
theorem IsGo.aconstNull (H : IsGo l Z a0 K n0 b0 y bytes maxL ret R Q G) (hd : Nx bytes pc .aconst_null 1 pc') (h : G pc' ls (.null :: st) A k n) : G pc ls st A k n := by
  obtain ⟨hd, rfl⟩ := hd
  exact H.lift (fun hA hx hby hr => XS.aconstNull hA hx rfl (hb hby hd) hr) h
theorem IsGo.ldc (H : IsGo l Z a0 K n0 b0 y bytes maxL ret R Q G) {i : Nat} (hd : Nx bytes pc (.ldc i) 2 pc') {v : Int32} (w : (Jvm.Cond.constant y.cls i v).before a0 Z = true) (h : G pc' ls (.int v :: st) A k n) : G pc ls st A k n := by
  obtain ⟨hd, rfl⟩ := hd
  obtain ⟨p, e, s, m, args, below, meth, c, hx, hby, hml, hown, hnm, hret, hlk, hZ, hK, hb0, rfl⟩ := H
  intro T locs X hR hF
  obtain ⟨s₂, o, h1, h2⟩ := h T locs X hR hF
  exact ⟨s₂, o, X.ldcInt hx hown (mvT hZ w) (g := mkF m pc ls st) rfl (hb hby hd) _ h1, h2⟩
theorem IsGo.ldcW (H : IsGo l Z a0 K n0 b0 y bytes maxL ret R Q G) {i : Nat} (hd : Nx bytes pc (.ldc_w i) 3 pc') {v : Int32} (w : (Jvm.Cond.constant y.cls i v).before a0 Z = true) (h : G pc' ls (.int v :: st) A k n) : G pc ls st A k n := by
  obtain ⟨hd, rfl⟩ := hd
  obtain ⟨p, e, s, m, args, below, meth, c, hx, hby, hml, hown, hnm, hret, hlk, hZ, hK, hb0, rfl⟩ := H
  intro T locs X hR hF
  obtain ⟨s₂, o, h1, h2⟩ := h T locs X hR hF
  exact ⟨s₂, o, X.ldcwInt hx hown (mvT hZ w) (g := mkF m pc ls st) rfl (hb hby hd) _ h1, h2⟩
theorem IsGo.ldc2 (H : IsGo l Z a0 K n0 b0 y bytes maxL ret R Q G) {i : Nat} (hd : Nx bytes pc (.ldc2_w i) 3 pc') {v : Int64} (w : (Jvm.Cond.constantLong y.cls i v).before a0 Z = true) (h : G pc' ls (.long v :: st) A k n) : G pc ls st A k n := by
  obtain ⟨hd, rfl⟩ := hd
  obtain ⟨p, e, s, m, args, below, meth, c, hx, hby, hml, hown, hnm, hret, hlk, hZ, hK, hb0, rfl⟩ := H
  intro T locs X hR hF
  obtain ⟨s₂, o, h1, h2⟩ := h T locs X hR hF
  exact ⟨s₂, o, X.ldc2Long hx hown (mvT hZ w) (g := mkF m pc ls st) rfl (hb hby hd) _ h1, h2⟩
/-! ### sums -/
theorem IsGo.iadd (H : IsGo l Z a0 K n0 b0 y bytes maxL ret R Q G) (hd : Nx bytes pc .iadd 1 pc') {u v w : Int32} (hw : u + v = w) (h : G pc' ls (.int w :: st) A k n) : G pc ls (.int v :: .int u :: st) A k n := by
  obtain ⟨hd, rfl⟩ := hd
  subst hw
  exact H.lift (fun hA hx hby hr => XS.iadd hA hx rfl (hb hby hd) rfl hr) h
theorem IsGo.ladd (H : IsGo l Z a0 K n0 b0 y bytes maxL ret R Q G) (hd : Nx bytes pc .ladd 1 pc') {u v w : Int64} (hw : u + v = w) (h : G pc' ls (.long w :: st) A k n) : G pc ls (.long v :: .long u :: st) A k n := by
  obtain ⟨hd, rfl⟩ := hd
  subst hw
  exact H.lift (fun hA hx hby hr => XS.ladd hA hx rfl (hb hby hd) rfl hr) h
theorem IsGo.isub (H : IsGo l Z a0 K n0 b0 y bytes maxL ret R Q G) (hd : Nx bytes pc .isub 1 pc') {u v w : Int32} (hw : u - v = w) (h : G pc' ls (.int w :: st) A k n) : G pc ls (.int v :: .int u :: st) A k n := by
  obtain ⟨hd, rfl⟩ := hd
  subst hw
  exact H.lift (fun hA hx hby hr => XS.isub hA hx rfl (hb hby hd) rfl hr) h
theorem IsGo.lsub (H : IsGo l Z a0 K n0 b0 y bytes maxL ret R Q G) (hd : Nx bytes pc .lsub 1 pc') {u v w : Int64} (hw : u - v = w) (h : G pc' ls (.long w :: st) A k n) : G pc ls (.long v :: .long u :: st) A k n := by
  obtain ⟨hd, rfl⟩ := hd
  subst hw
  exact H.lift (fun hA hx hby hr => XS.lsub hA hx rfl (hb hby hd) rfl hr) h
theorem IsGo.imul (H : IsGo l Z a0 K n0 b0 y bytes maxL ret R Q G) (hd : Nx bytes pc .imul 1 pc') {u v w : Int32} (hw : u * v = w) (h : G pc' ls (.int w :: st) A k n) : G pc ls (.int v :: .int u :: st) A k n := by
  obtain ⟨hd, rfl⟩ := hd
  subst hw
  exact H.lift (fun hA hx hby hr => XS.imul hA hx rfl (hb hby hd) rfl hr) h
theorem IsGo.lmul (H : IsGo l Z a0 K n0 b0 y bytes maxL ret R Q G) (hd : Nx bytes pc .lmul 1 pc') {u v w : Int64} (hw : u * v = w) (h : G pc' ls (.long w :: st) A k n) : G pc ls (.long v :: .long u :: st) A k n := by
  obtain ⟨hd, rfl⟩ := hd
  subst hw
  exact H.lift (fun hA hx hby hr => XS.lmul hA hx rfl (hb hby hd) rfl hr) h
theorem IsGo.iand (H : IsGo l Z a0 K n0 b0 y bytes maxL ret R Q G) (hd : Nx bytes pc .iand 1 pc') {u v w : Int32} (hw : u &&& v = w) (h : G pc' ls (.int w :: st) A k n) : G pc ls (.int v :: .int u :: st) A k n := by
  obtain ⟨hd, rfl⟩ := hd
  subst hw
  exact H.lift (fun hA hx hby hr => XS.iand hA hx rfl (hb hby hd) rfl hr) h
theorem IsGo.land (H : IsGo l Z a0 K n0 b0 y bytes maxL ret R Q G) (hd : Nx bytes pc .land 1 pc') {u v w : Int64} (hw : u &&& v = w) (h : G pc' ls (.long w :: st) A k n) : G pc ls (.long v :: .long u :: st) A k n := by
  obtain ⟨hd, rfl⟩ := hd
  subst hw
  exact H.lift (fun hA hx hby hr => XS.land hA hx rfl (hb hby hd) rfl hr) h
theorem IsGo.ior (H : IsGo l Z a0 K n0 b0 y bytes maxL ret R Q G) (hd : Nx bytes pc .ior 1 pc') {u v w : Int32} (hw : u ||| v = w) (h : G pc' ls (.int w :: st) A k n) : G pc ls (.int v :: .int u :: st) A k n := by
  obtain ⟨hd, rfl⟩ := hd
  subst hw
  exact H.lift (fun hA hx hby hr => XS.ior hA hx rfl (hb hby hd) rfl hr) h
theorem IsGo.lor (H : IsGo l Z a0 K n0 b0 y bytes maxL ret R Q G) (hd : Nx bytes pc .lor 1 pc') {u v w : Int64} (hw : u ||| v = w) (h : G pc' ls (.long w :: st) A k n) : G pc ls (.long v :: .long u :: st) A k n := by
  obtain ⟨hd, rfl⟩ := hd
  subst hw
  exact H.lift (fun hA hx hby hr => XS.lor hA hx rfl (hb hby hd) rfl hr) h
theorem IsGo.ixor (H : IsGo l Z a0 K n0 b0 y bytes maxL ret R Q G) (hd : Nx bytes pc .ixor 1 pc') {u v w : Int32} (hw : u ^^^ v = w) (h : G pc' ls (.int w :: st) A k n) : G pc ls (.int v :: .int u :: st) A k n := by
  obtain ⟨hd, rfl⟩ := hd
  subst hw
  exact H.lift (fun hA hx hby hr => XS.ixor hA hx rfl (hb hby hd) rfl hr) h
theorem IsGo.lxor (H : IsGo l Z a0 K n0 b0 y bytes maxL ret R Q G) (hd : Nx bytes pc .lxor 1 pc') {u v w : Int64} (hw : u ^^^ v = w) (h : G pc' ls (.long w :: st) A k n) : G pc ls (.long v :: .long u :: st) A k n := by
  obtain ⟨hd, rfl⟩ := hd
  subst hw
  exact H.lift (fun hA hx hby hr => XS.lxor hA hx rfl (hb hby hd) rfl hr) h
theorem IsGo.ishl (H : IsGo l Z a0 K n0 b0 y bytes maxL ret R Q G) (hd : Nx bytes pc .ishl 1 pc') {u v w : Int32} (hw : u <<< (v &&& 31) = w) (h : G pc' ls (.int w :: st) A k n) : G pc ls (.int v :: .int u :: st) A k n := by
  obtain ⟨hd, rfl⟩ := hd
  subst hw
  exact H.lift (fun hA hx hby hr => XS.ishl hA hx rfl (hb hby hd) rfl hr) h
theorem IsGo.ishr (H : IsGo l Z a0 K n0 b0 y bytes maxL ret R Q G) (hd : Nx bytes pc .ishr 1 pc') {u v w : Int32} (hw : u >>> (v &&& 31) = w) (h : G pc' ls (.int w :: st) A k n) : G pc ls (.int v :: .int u :: st) A k n := by
  obtain ⟨hd, rfl⟩ := hd
  subst hw
  exact H.lift (fun hA hx hby hr => XS.ishr hA hx rfl (hb hby hd) rfl hr) h
theorem IsGo.iushr (H : IsGo l Z a0 K n0 b0 y bytes maxL ret R Q G) (hd : Nx bytes pc .iushr 1 pc') {u v w : Int32} (hw : (u.toUInt32 >>> (v &&& 31).toUInt32).toInt32 = w) (h : G pc' ls (.int w :: st) A k n) : G pc ls (.int v :: .int u :: st) A k n := by
  obtain ⟨hd, rfl⟩ := hd
  subst hw
  exact H.lift (fun hA hx hby hr => XS.iushr hA hx rfl (hb hby hd) rfl hr) h
theorem IsGo.lshl (H : IsGo l Z a0 K n0 b0 y bytes maxL ret R Q G) (hd : Nx bytes pc .lshl 1 pc') {u w : Int64} {v : Int32} (hw : u <<< (v &&& 0x3f).toInt64 = w) (h : G pc' ls (.long w :: st) A k n) : G pc ls (.int v :: .long u :: st) A k n := by
  obtain ⟨hd, rfl⟩ := hd
  subst hw
  exact H.lift (fun hA hx hby hr => XS.lshl hA hx rfl (hb hby hd) rfl hr) h
theorem IsGo.lshr (H : IsGo l Z a0 K n0 b0 y bytes maxL ret R Q G) (hd : Nx bytes pc .lshr 1 pc') {u w : Int64} {v : Int32} (hw : u >>> (v &&& 0x3f).toInt64 = w) (h : G pc' ls (.long w :: st) A k n) : G pc ls (.int v :: .long u :: st) A k n := by
  obtain ⟨hd, rfl⟩ := hd
  subst hw
  exact H.lift (fun hA hx hby hr => XS.lshr hA hx rfl (hb hby hd) rfl hr) h
theorem IsGo.lushr (H : IsGo l Z a0 K n0 b0 y bytes maxL ret R Q G) (hd : Nx bytes pc .lushr 1 pc') {u w : Int64} {v : Int32} (hw : (u.toUInt64 >>> (v &&& 0x3f).toInt64.toUInt64).toInt64 = w) (h : G pc' ls (.long w :: st) A k n) : G pc ls (.int v :: .long u :: st) A k n := by
  obtain ⟨hd, rfl⟩ := hd
  subst hw
  exact H.lift (fun hA hx hby hr => XS.lushr hA hx rfl (hb hby hd) rfl hr) h
theorem IsGo.ineg (H : IsGo l Z a0 K n0 b0 y bytes maxL ret R Q G) (hd : Nx bytes pc .ineg 1 pc') {u : Int32} {w : Int32} (hw : -u = w) (h : G pc' ls (.int w :: st) A k n) : G pc ls (.int u :: st) A k n := by
  obtain ⟨hd, rfl⟩ := hd
  subst hw
  exact H.lift (fun hA hx hby hr => XS.ineg hA hx rfl (hb hby hd) rfl hr) h
theorem IsGo.lneg (H : IsGo l Z a0 K n0 b0 y bytes maxL ret R Q G) (hd : Nx bytes pc .lneg 1 pc') {u : Int64} {w : Int64} (hw : -u = w) (h : G pc' ls (.long w :: st) A k n) : G pc ls (.long u :: st) A k n := by
  obtain ⟨hd, rfl⟩ := hd
  subst hw
  exact H.lift (fun hA hx hby hr => XS.lneg hA hx rfl (hb hby hd) rfl hr) h
theorem IsGo.i2l (H : IsGo l Z a0 K n0 b0 y bytes maxL ret R Q G) (hd : Nx bytes pc .i2l 1 pc') {u : Int32} {w : Int64} (hw : u.toInt64 = w) (h : G pc' ls (.long w :: st) A k n) : G pc ls (.int u :: st) A k n := by
  obtain ⟨hd, rfl⟩ := hd
  subst hw
  exact H.lift (fun hA hx hby hr => XS.i2l hA hx rfl (hb hby hd) rfl hr) h
theorem IsGo.l2i (H : IsGo l Z a0 K n0 b0 y bytes maxL ret R Q G) (hd : Nx bytes pc .l2i 1 pc') {u : Int64} {w : Int32} (hw : u.toInt32 = w) (h : G pc' ls (.int w :: st) A k n) : G pc ls (.long u :: st) A k n := by
  obtain ⟨hd, rfl⟩ := hd
  subst hw
  exact H.lift (fun hA hx hby hr => XS.l2i hA hx rfl (hb hby hd) rfl hr) h
theorem IsGo.i2b (H : IsGo l Z a0 K n0 b0 y bytes maxL ret R Q G) (hd : Nx bytes pc .i2b 1 pc') {u : Int32} {w : Int32} (hw : u.toInt8.toInt32 = w) (h : G pc' ls (.int w :: st) A k n) : G pc ls (.int u :: st) A k n := by
  obtain ⟨hd, rfl⟩ := hd
  subst hw
  exact H.lift (fun hA hx hby hr => XS.i2b hA hx rfl (hb hby hd) rfl hr) h
theorem IsGo.idiv (H : IsGo l Z a0 K n0 b0 y bytes maxL ret R Q G) (hd : Nx bytes pc .idiv 1 pc') {u v w : Int32} (hv : v ≠ 0) (hw : u / v = w) (h : G pc' ls (.int w :: st) A k n) : G pc ls (.int v :: .int u :: st) A k n := by
  obtain ⟨hd, rfl⟩ := hd
  subst hw
  exact H.lift (fun hA hx hby hr => XS.idiv hA hx rfl (hb hby hd) rfl hv hr) h
theorem IsGo.irem (H : IsGo l Z a0 K n0 b0 y bytes maxL ret R Q G) (hd : Nx bytes pc .irem 1 pc') {u v w : Int32} (hv : v ≠ 0) (hw : u % v = w) (h : G pc' ls (.int w :: st) A k n) : G pc ls (.int v :: .int u :: st) A k n := by
  obtain ⟨hd, rfl⟩ := hd
  subst hw
  have q : u - u / v * v = u % v := irem_eq_mod u v
  rw [← q] at h
  exact H.lift (fun hA hx hby hr => XS.irem hA hx rfl (hb hby hd) rfl hv hr) h
theorem IsGo.ldiv (H : IsGo l Z a0 K n0 b0 y bytes maxL ret R Q G) (hd : Nx bytes pc .ldiv 1 pc') {u v w : Int64} (hv : v ≠ 0) (hw : u / v = w) (h : G pc' ls (.long w :: st) A k n) : G pc ls (.long v :: .long u :: st) A k n := by
  obtain ⟨hd, rfl⟩ := hd
  subst hw
  exact H.lift (fun hA hx hby hr => XS.ldiv hA hx rfl (hb hby hd) rfl hv hr) h
theorem IsGo.lrem (H : IsGo l Z a0 K n0 b0 y bytes maxL ret R Q G) (hd : Nx bytes pc .lrem 1 pc') {u v w : Int64} (hv : v ≠ 0) (hw : u % v = w) (h : G pc' ls (.long w :: st) A k n) : G pc ls (.long v :: .long u :: st) A k n := by
  obtain ⟨hd, rfl⟩ := hd
  subst hw
  rw [← lrem_mod u v] at h
  exact H.lift (fun hA hx hby hr => XS.lrem hA hx rfl (hb hby hd) rfl hv hr) h
theorem IsGo.iinc (H : IsGo l Z a0 K n0 b0 y bytes maxL ret R Q G) {i : Nat} {cst : Int} (hd : Nx bytes pc (.iinc i cst) 3 pc') {u w : Int32} (hl : ls[i]? = some (.val (.int u))) (hw : u + Int32.ofInt cst = w) (hl' : storeLocals ls i (.int w) = some ls') (h : G pc' ls' st A k n) : G pc ls st A k n := by
  obtain ⟨hd, rfl⟩ := hd
  subst hw
  exact H.lift (fun hA hx hby hr => XS.iinc hA hx rfl (hb hby hd) hl hl' hr) h
/-! ### the stack -/
theorem IsGo.dup (H : IsGo l Z a0 K n0 b0 y bytes maxL ret R Q G) (hd : Nx bytes pc .dup 1 pc') {u : Value} (hc : u.category = 1) (h : G pc' ls (u :: u :: st) A k n) : G pc ls (u :: st) A k n := by
  obtain ⟨hd, rfl⟩ := hd
  exact H.lift (fun hA hx hby hr => XS.dup hA hx rfl (hb hby hd) rfl hc hr) h
theorem IsGo.dupX1 (H : IsGo l Z a0 K n0 b0 y bytes maxL ret R Q G) (hd : Nx bytes pc .dup_x1 1 pc') {u v : Value} (hc : u.category = 1) (hc' : v.category = 1) (h : G pc' ls (u :: v :: u :: st) A k n) : G pc ls (u :: v :: st) A k n := by
  obtain ⟨hd, rfl⟩ := hd
  exact H.lift (fun hA hx hby hr => XS.dupX1 hA hx rfl (hb hby hd) rfl hc hc' hr) h
theorem IsGo.dup2 (H : IsGo l Z a0 K n0 b0 y bytes maxL ret R Q G) (hd : Nx bytes pc .dup2 1 pc') {u v : Value} (hc : u.category = 1) (hc' : v.category = 1) (h : G pc' ls (u :: v :: u :: v :: st) A k n) : G pc ls (u :: v :: st) A k n := by
  obtain ⟨hd, rfl⟩ := hd
  exact H.lift (fun hA hx hby hr => XT.dup2 hA hx rfl (hb hby hd) rfl hc hc' hr) h
theorem IsGo.dup2L (H : IsGo l Z a0 K n0 b0 y bytes maxL ret R Q G) (hd : Nx bytes pc .dup2 1 pc') {u : Int64} (h : G pc' ls (.long u :: .long u :: st) A k n) : G pc ls (.long u :: st) A k n := by
  obtain ⟨hd, rfl⟩ := hd
  exact H.lift (fun hA hx hby hr => XT.dup2L hA hx rfl (hb hby hd) rfl hr) h
theorem IsGo.pop (H : IsGo l Z a0 K n0 b0 y bytes maxL ret R Q G) (hd : Nx bytes pc .pop 1 pc') {u : Value} (hc : u.category = 1) (h : G pc' ls st A k n) : G pc ls (u :: st) A k n := by
  obtain ⟨hd, rfl⟩ := hd
  exact H.lift (fun hA hx hby hr => XS.pop hA hx rfl (hb hby hd) rfl hc hr) h
theorem dupX2_step {tb : Tables} [Ours tb] {e : Env} {below : List Frame} {T target : State} {m : MethodId} {c : Code} {g : JFrame} (h : At T m c below) (hx : tb.exec = Jvm.exec) (hg : g.method = m) {u v w : Value} {rest : List Value} (hd : decode c.code g.pc = .ok (.dup_x2, 1)) (hs : g.stack = u :: v :: w :: rest) (hc : u.category = 1) (hc2 : v.category = 1) (hc3 : w.category = 1)
    (hr : Steps tb e below (T.setTop { g with pc := g.pc + 1, stack := u :: v :: w :: u :: rest }) target) : Steps tb e below (T.setTop g) target := by
  subst hg
  jvm_step h [h.top, hx, hd, hs, hc, hc2, hc3, dup_x2.wp_sem]
  exact hr
theorem pop2L_step {tb : Tables} [Ours tb] {e : Env} {below : List Frame} {T target : State} {m : MethodId} {c : Code} {g : JFrame} (h : At T m c below) (hx : tb.exec = Jvm.exec) (hg : g.method = m) {u : Int64} {rest : List Value} (hd : decode c.code g.pc = .ok (.pop2, 1)) (hs : g.stack = .long u :: rest)
    (hr : Steps tb e below (T.setTop { g with pc := g.pc + 1, stack := rest }) target) : Steps tb e below (T.setTop g) target := by
  subst hg
  jvm_step h [h.top, hx, hd, hs, pop2.wp_sem, Value.category]
  exact hr
theorem IsGo.dupX2 (H : IsGo l Z a0 K n0 b0 y bytes maxL ret R Q G) (hd : Nx bytes pc .dup_x2 1 pc') {u v w : Value} (hc : u.category = 1) (hc' : v.category = 1) (hc3 : w.category = 1) (h : G pc' ls (u :: v :: w :: u :: st) A k n) : G pc ls (u :: v :: w :: st) A k n := by
  obtain ⟨hd, rfl⟩ := hd
  exact H.lift (fun hA hx hby hr => dupX2_step hA hx rfl (hb hby hd) rfl hc hc' hc3 hr) h
theorem IsGo.pop2L (H : IsGo l Z a0 K n0 b0 y bytes maxL ret R Q G) (hd : Nx bytes pc .pop2 1 pc') {u : Int64} (h : G pc' ls st A k n) : G pc ls (.long u :: st) A k n := by
  obtain ⟨hd, rfl⟩ := hd
  exact H.lift (fun hA hx hby hr => pop2L_step hA hx rfl (hb hby hd) rfl hr) h
/-! ### branches -/
theorem IsGo.goto (H : IsGo l Z a0 K n0 b0 y bytes maxL ret R Q G) {f : Nat} (hd : Bx bytes pc .goto pc' f) (h : G pc' ls st A k n) : G pc ls st A k n := by
  obtain ⟨o, hd, ho, hp, -⟩ := hd
  exact H.lift (fun hA hx hby hr => XS.goto hA hx rfl (pc0 := pc) (pc' := pc') rfl (hb hby hd) ho hp hr) h
/-- what a comparison of two ints says -/
def CP : ClassFile.Cond → Int32 → Int32 → Prop
  | .eq, u, v => u = v
  | .ne, u, v => ¬ u = v
  | .lt, u, v => u < v
  | .ge, u, v => ¬ u < v
  | .gt, u, v => v < u
  | .le, u, v => ¬ v < u
def CPL : ClassFile.Cond → Int64 → Int64 → Prop
  | .eq, u, v => u = v
  | .ne, u, v => ¬ u = v
  | .lt, u, v => u < v
  | .ge, u, v => ¬ u < v
  | .gt, u, v => v < u
  | .le, u, v => ¬ v < u
def ng : ClassFile.Cond → ClassFile.Cond
  | .eq => .ne | .ne => .eq | .lt => .ge | .ge => .lt | .gt => .le | .le => .gt
theorem cp_or (cd : ClassFile.Cond) (u v : Int32) : CP cd u v ∨ CP (ng cd) u v := by
  cases cd <;> simp only [CP, ng] <;> first | exact Classical.em _ | exact (Classical.em _).symm
theorem cpl_or (cd : ClassFile.Cond) (u v : Int64) : CPL cd u v ∨ CPL (ng cd) u v := by
  cases cd <;> simp only [CPL, ng] <;> first | exact Classical.em _ | exact (Classical.em _).symm
theorem cp_t {cd : ClassFile.Cond} {u v : Int32} (h : CP cd u v) : if_icmp.holds cd u v = true := by
  cases cd <;> simp only [CP] at h
  · exact XT.ii_eq_t h
  · exact XT.ii_ne_t h
  · exact XT.ii_lt_t h
  · exact XT.ii_ge_t h
  · exact XT.ii_gt_t h
  · exact XT.ii_le_t h
theorem cp_f {cd : ClassFile.Cond} {u v : Int32} (h : CP (ng cd) u v) : if_icmp.holds cd u v = false := by
  cases cd <;> simp only [CP, ng] at h
  · exact XT.ii_eq_f h
  · exact XT.ii_ne_f h
  · exact XT.ii_lt_f h
  · exact XT.ii_ge_f h
  · exact XT.ii_gt_f h
  · exact XT.ii_le_f h
theorem IsGo.icmpT (H : IsGo l Z a0 K n0 b0 y bytes maxL ret R Q G) {cd : ClassFile.Cond} {t f : Nat} (hd : Bx bytes pc (.if_icmp cd) t f) {u v : Int32} (hc : CP cd u v) (h : G t ls st A k n) : G pc ls (.int v :: .int u :: st) A k n := by
  obtain ⟨o, hd, ho, hp, rfl⟩ := hd
  exact H.lift (fun hA hx hby hr => XS.icmpYes hA hx rfl (pc0 := pc) (pc' := t) rfl (hb hby hd) rfl (cp_t hc) ho hp hr) h
theorem IsGo.icmpF (H : IsGo l Z a0 K n0 b0 y bytes maxL ret R Q G) {cd : ClassFile.Cond} {t f : Nat} (hd : Bx bytes pc (.if_icmp cd) t f) {u v : Int32} (hc : CP (ng cd) u v) (h : G f ls st A k n) : G pc ls (.int v :: .int u :: st) A k n := by
  obtain ⟨o, hd, ho, hp, rfl⟩ := hd
  exact H.lift (fun hA hx hby hr => XS.icmpNo hA hx rfl (hb hby hd) rfl (cp_f hc) hr) h
theorem IsGo.icmpS (H : IsGo l Z a0 K n0 b0 y bytes maxL ret R Q G) {cd : ClassFile.Cond} {t f : Nat} (hd : Bx bytes pc (.if_icmp cd) t f) {u v : Int32} (h1 : CP cd u v → G t ls st A k n) (h2 : CP (ng cd) u v → G f ls st A k n) : G pc ls (.int v :: .int u :: st) A k n :=
  (cp_or cd u v).elim (fun q => H.icmpT hd q (h1 q)) (fun q => H.icmpF hd q (h2 q))
theorem IsGo.ifT (H : IsGo l Z a0 K n0 b0 y bytes maxL ret R Q G) {cd : ClassFile.Cond} {t f : Nat} (hd : Bx bytes pc (.ifCond cd) t f) {u : Int32} (hc : CP cd u 0) (h : G t ls st A k n) : G pc ls (.int u :: st) A k n := by
  obtain ⟨o, hd, ho, hp, rfl⟩ := hd
  exact H.lift (fun hA hx hby hr => XS.ifYes hA hx rfl (pc0 := pc) (pc' := t) rfl (hb hby hd) rfl (by rw [if0]; exact cp_t hc) ho hp hr) h
theorem IsGo.ifF (H : IsGo l Z a0 K n0 b0 y bytes maxL ret R Q G) {cd : ClassFile.Cond} {t f : Nat} (hd : Bx bytes pc (.ifCond cd) t f) {u : Int32} (hc : CP (ng cd) u 0) (h : G f ls st A k n) : G pc ls (.int u :: st) A k n := by
  obtain ⟨o, hd, ho, hp, rfl⟩ := hd
  exact H.lift (fun hA hx hby hr => XS.ifNo hA hx rfl (hb hby hd) rfl (by rw [if0]; exact cp_f hc) hr) h
theorem IsGo.ifS (H : IsGo l Z a0 K n0 b0 y bytes maxL ret R Q G) {cd : ClassFile.Cond} {t f : Nat} (hd : Bx bytes pc (.ifCond cd) t f) {u : Int32} (h1 : CP cd u 0 → G t ls st A k n) (h2 : CP (ng cd) u 0 → G f ls st A k n) : G pc ls (.int u :: st) A k n :=
  (cp_or cd u 0).elim (fun q => H.ifT hd q (h1 q)) (fun q => H.ifF hd q (h2 q))
theorem cpl_cp {cd : ClassFile.Cond} {u v : Int64} (h : CPL cd u v) : CP cd (lcmpW u v) 0 := by
  cases cd <;> simp only [CPL] at h <;> simp only [CP]
  · exact (lw_eq u v).mpr h
  · exact fun q => h ((lw_eq u v).mp q)
  · exact (lw_lt u v).mpr h
  · exact fun q => h ((lw_lt u v).mp q)
  · exact (lw_gt u v).mpr h
  · exact fun q => h ((lw_gt u v).mp q)
theorem IsGo.lcmp (H : IsGo l Z a0 K n0 b0 y bytes maxL ret R Q G) (hd : Nx bytes pc .lcmp 1 pc') {u v : Int64} (h : G pc' ls (.int (lcmpW u v) :: st) A k n) : G pc ls (.long v :: .long u :: st) A k n := by
  obtain ⟨hd, rfl⟩ := hd
  exact H.lift (fun hA hx hby hr => XS.lcmp hA hx rfl (hb hby hd) rfl hr) h
theorem IsGo.lifT (H : IsGo l Z a0 K n0 b0 y bytes maxL ret R Q G) (hd0 : Nx bytes pc .lcmp 1 pc') {cd : ClassFile.Cond} {t f : Nat} (hd : Bx bytes pc' (.ifCond cd) t f) {u v : Int64} (hc : CPL cd u v) (h : G t ls st A k n) : G pc ls (.long v :: .long u :: st) A k n :=
  H.lcmp hd0 (H.ifT hd (cpl_cp hc) h)
theorem cpl_ng {cd : ClassFile.Cond} {u v : Int64} (h : CPL (ng cd) u v) : CP (ng cd) (lcmpW u v) 0 := cpl_cp h
theorem IsGo.lifF (H : IsGo l Z a0 K n0 b0 y bytes maxL ret R Q G) (hd0 : Nx bytes pc .lcmp 1 pc') {cd : ClassFile.Cond} {t f : Nat} (hd : Bx bytes pc' (.ifCond cd) t f) {u v : Int64} (hc : CPL (ng cd) u v) (h : G f ls st A k n) : G pc ls (.long v :: .long u :: st) A k n :=
  H.lcmp hd0 (H.ifF hd (cpl_ng hc) h)
theorem IsGo.lifS (H : IsGo l Z a0 K n0 b0 y bytes maxL ret R Q G) (hd0 : Nx bytes pc .lcmp 1 pc') {cd : ClassFile.Cond} {t f : Nat} (hd : Bx bytes pc' (.ifCond cd) t f) {u v : Int64} (h1 : CPL cd u v → G t ls st A k n) (h2 : CPL (ng cd) u v → G f ls st A k n) : G pc ls (.long v :: .long u :: st) A k n :=
  (cpl_or cd u v).elim (fun q => H.lifT hd0 hd q (h1 q)) (fun q => H.lifF hd0 hd q (h2 q))
theorem IsGo.ifnullT (H : IsGo l Z a0 K n0 b0 y bytes maxL ret R Q G) {t f : Nat} (hd : Bx bytes pc .ifnull t f) (h : G t ls st A k n) : G pc ls (.null :: st) A k n := by
  obtain ⟨o, hd, ho, hp, rfl⟩ := hd
  exact H.lift (fun hA hx hby hr => XS.ifnullYes hA hx rfl (pc0 := pc) (pc' := t) rfl (hb hby hd) rfl ho hp hr) h
theorem IsGo.ifnullF (H : IsGo l Z a0 K n0 b0 y bytes maxL ret R Q G) {t f : Nat} (hd : Bx bytes pc .ifnull t f) {b : Addr} (h : G f ls st A k n) : G pc ls (.ref b :: st) A k n := by
  obtain ⟨o, hd, ho, hp, rfl⟩ := hd
  exact H.lift (fun hA hx hby hr => XS.ifnullNo hA hx rfl (hb hby hd) rfl hr) h
theorem IsGo.ifnonnullT (H : IsGo l Z a0 K n0 b0 y bytes maxL ret R Q G) {t f : Nat} (hd : Bx bytes pc .ifnonnull t f) {b : Addr} (h : G t ls st A k n) : G pc ls (.ref b :: st) A k n := by
  obtain ⟨o, hd, ho, hp, rfl⟩ := hd
  exact H.lift (fun hA hx hby hr => XS.ifnonnullYes hA hx rfl (pc0 := pc) (pc' := t) rfl (hb hby hd) rfl ho hp hr) h
theorem IsGo.ifnonnullF (H : IsGo l Z a0 K n0 b0 y bytes maxL ret R Q G) {t f : Nat} (hd : Bx bytes pc .ifnonnull t f) (h : G f ls st A k n) : G pc ls (.null :: st) A k n := by
  obtain ⟨o, hd, ho, hp, rfl⟩ := hd
  exact H.lift (fun hA hx hby hr => XS.ifnonnullNo hA hx rfl (hb hby hd) rfl hr) h
theorem IsGo.acmp (H : IsGo l Z a0 K n0 b0 y bytes maxL ret R Q G) {cd : ClassFile.ACond} {t f : Nat} (hd : Bx bytes pc (.if_acmp cd) t f) {u v : Value} (h1 : u.isRef = true) (h2 : v.isRef = true) {same : Bool} (hq : decide (u = v) = same) (h : G (if acV cd same = true then t else f) ls st A k n) : G pc ls (v :: u :: st) A k n := by
  obtain ⟨o, hd, ho, hp, rfl⟩ := hd
  obtain ⟨p, e, s, m, args, below, meth, c, hx, hby, hml, hown, hnm, hret, hlk, hZ, hK, hb0, rfl⟩ := H
  intro T locs X hR hF
  obtain ⟨s₂, oo, q1, q2⟩ := h T locs X hR hF
  exact ⟨s₂, oo, RoadKit.acmp X hx (g := mkF m pc ls (v :: u :: st)) rfl h1 h2 (pc0 := pc) rfl (hb hby hd) rfl hq ho (by rw [hp]) q1, q2⟩
/-! ### the heap -/
def FL (Z : State) (a0 : Array Value) (K : KTab) (own : String) (idx k j : Nat) : Prop := ∃ C fs O nm d host, K[k]? = some (C, fs) ∧ fs[j]? = some (O, nm, d) ∧ ((Jvm.Cond.fieldLink own idx O nm d).before a0 Z = true ∨ (Jvm.Cond.fieldLinkNest own idx O nm d host).before a0 Z = true)
def PL (Z : State) (a0 : Array Value) (K : KTab) (own mname : String) (idx k j : Nat) (ty : FieldType) : Prop := ∃ C fs O nm d host, K[k]? = some (C, fs) ∧ fs[j]? = some (O, nm, d) ∧ ((Jvm.Cond.fieldLink own idx O nm d).before a0 Z = true ∨ (Jvm.Cond.fieldLinkNest own idx O nm d host).before a0 Z = true) ∧
  ((Jvm.Cond.lays C O nm d).before a0 Z = true ∨ ((Jvm.Cond.laysFinal C O nm d).before a0 Z = true ∧ own = O ∧ mname = "<init>")) ∧ parseFieldDescriptor d = some ty
theorem IsGo.getfield (H : IsGo l Z a0 K n0 b0 y bytes maxL ret R Q G) {idx kk j i : Nat} (hd : Nx bytes pc (.getfield idx) 3 pc') (L : FL Z a0 K y.cls idx kk j) {vs : List Value} {v : Value} (hA : A[i]? = some (.inl (kk, vs))) (hv : vs[j]? = some v) (h : G pc' ls (v :: st) A k n) : G pc ls (.ref (n0 + i) :: st) A k n := by
  obtain ⟨hd, rfl⟩ := hd
  obtain ⟨p, e, s, m, args, below, meth, c, hx, hby, hml, hown, hnm, hret, hlk, hZ, hK, hb0, rfl⟩ := H
  obtain ⟨C, fs, O, nm, d, host, hk, hj, w⟩ := L
  intro T locs X hR hF
  obtain ⟨C', fs', hk', hE, hlen, hf⟩ := hR.2 i _ hA
  cases hk.symm.trans hk'
  obtain ⟨T', X', eT, sp⟩ := getF X hx hZ hown w Via.refl rfl (hf j _ v hj hv) (g := mkF m pc ls (.ref (n0 + i) :: st)) rfl rfl (hb hby hd)
  obtain ⟨s₂, o, h1, h2⟩ := h T' locs X' (by rw [eT]; exact hR) hF
  exact ⟨s₂, o, sp _ h1, h2⟩
theorem IsGo.putfield (H : IsGo l Z a0 K n0 b0 y bytes maxL ret R Q G) {idx kk j i : Nat} {ty : FieldType} (hd : Nx bytes pc (.putfield idx) 3 pc') (L : PL Z a0 K y.cls y.name idx kk j ty) {vs : List Value} {v : Value} (hA : A[i]? = some (.inl (kk, vs))) (hn : narrow ty v = v) (hf : fits ty v = true) (hA' : A.set i (.inl (kk, vs.set j v)) = A') (h : G pc' ls st A' k n) : G pc ls (v :: .ref (n0 + i) :: st) A k n := by
  obtain ⟨hd, rfl⟩ := hd
  obtain ⟨p, e, s, m, args, below, meth, c, hx, hby, hml, hown, hnm, hret, hlk, hZ, hK, hb0, rfl⟩ := H
  obtain ⟨C, fs, O, nm, d, host, hk, hj, w, wl, hty⟩ := L
  subst hA'
  intro T locs X hR hF
  have hO := hR.2 i _ hA
  obtain ⟨C', fs', hk', hE, hlen, hfl⟩ := hR.2 i _ hA
  cases hk.symm.trans hk'
  obtain ⟨⟨ki, wi⟩, -, -⟩ := hK kk C fs hk
  have hlt : j < vs.length := by rw [hlen]; exact (List.getElem?_eq_some_iff.mp hj).1
  obtain ⟨T', h', X', eT, W, sp⟩ := putF X hx hZ hown w Via.refl rfl (hfl j _ vs[j] hj (List.getElem?_eq_getElem hlt)) hE (by rw [hnm]; exact wl) wi hty hn hf (g := mkF m pc ls (v :: .ref (n0 + i) :: st)) rfl rfl (hb hby hd)
  obtain ⟨s₂, o, h1, h2⟩ := h T' _ X' (by rw [eT]; exact hR.set W (hO.setF hK hk hj W)) (Fr.snoc X' hF (Nat.le_add_right _ _))
  exact ⟨s₂, o, sp _ h1, h2⟩
def NL (Z : State) (a0 : Array Value) (K : KTab) (own : String) (idx kk sz : Nat) (dv : List Value) : Prop := ∃ C fs, K[kk]? = some (C, fs) ∧ (Jvm.Cond.classLink own idx C).before a0 Z = true ∧ (Jvm.Cond.instantiable C sz).before a0 Z = true ∧ (Jvm.Cond.initialized C).before a0 Z = true ∧ fs.map (fun f => (parseFieldDescriptor f.2.2).map defaultValue) = dv.map some
theorem size_up {p : Program} {e : Env} {s T' : State} {m : MethodId} {args : Array Value} {below : List Frame} {meth : Method} {c : Code} {locs : List Loc} {h : Heap} (X : Stand p l e R s m args below meth c T' locs (k + 1) n) (hb : s.heap.size = n0 + b0) (hh : h.size = n0 + A.length) (hk : A.length = b0 + k) (hlt : h.size < T'.heap.size) : T'.heap.size = n0 + (A.length + 1) := by
  have := X.heapSize
  omega
theorem IsGo.new (H : IsGo l Z a0 K n0 b0 y bytes maxL ret R Q G) {idx kk sz i : Nat} {dv : List Value} (hd : Nx bytes pc (.new idx) 3 pc') (L : NL Z a0 K y.cls idx kk sz dv) (hk : A.length = b0 + k) (hc : k + 1 ≤ R.cells) (hs : n + sz ≤ R.slots) (hi : A.length = i) (hA' : A ++ [.inl (kk, dv)] = A') (hk' : k + 1 = k') (hn' : n + sz = n') (h : G pc' ls (.ref (n0 + i) :: st) A' k' n') : G pc ls st A k n := by
  obtain ⟨hd, rfl⟩ := hd
  obtain ⟨p, e, s, m, args, below, meth, c, hx, hby, hml, hown, hnm, hret, hlk, hZ, hK, hb0, rfl⟩ := H
  obtain ⟨C, fs, hkk, w1, w2, w3, hdv⟩ := L
  subst hA' hk' hn' hi
  intro T locs X hR hF
  obtain ⟨T', h', X', eT, E, EA, D, -, sp⟩ := newO X hx hZ hown w1 w2 w3 rfl (g := mkF m pc ls st) rfl (hb hby hd) hc hs
  have hsz : h'.size = n0 + (A.length + 1) := by rw [← eT]; exact size_up X' hb0 hR.1 hk (by rw [eT]; exact EA.lt)
  rw [hR.1] at EA D
  have hlen : dv.length = fs.length := by simpa using (congrArg List.length hdv).symm
  obtain ⟨-, kl, -⟩ := hK kk C fs hkk
  have hN : ObAt Z K h' (n0 + A.length) (.inl (kk, dv)) := ⟨C, fs, hkk, EA, hlen, fun j f v q r => by
    obtain ⟨L1, t, ht⟩ := kl j f q
    have e1 : (fs.map (fun f => (parseFieldDescriptor f.2.2).map defaultValue))[j]? = some (some (defaultValue t)) := by simp [List.getElem?_map, q, ht]
    rw [hdv, List.getElem?_map, r] at e1
    simp only [Option.map_some, Option.some.injEq] at e1
    rw [e1]; exact D L1 ht⟩
  obtain ⟨s₂, o, h1, h2⟩ := h T' locs X' (by rw [eT]; exact hR.push E hsz hN) hF
  rw [← hR.1] at h1
  exact ⟨s₂, o, sp _ h1, h2⟩
def AL (Z : State) (a0 : Array Value) (t : FieldType) : Prop := (Jvm.Cond.arrayClass t).before a0 Z = true
theorem tn_of {z : Int32} {N : Nat} (h : z.toInt = (N : Int)) : ¬ z < 0 ∧ z.toNatClampNeg = N := by
  constructor
  · intro q
    have := Int32.lt_iff_toInt_lt.mp q
    simp at this; omega
  · simp [Int32.toNatClampNeg, h]
theorem IsGo.newarray (H : IsGo l Z a0 K n0 b0 y bytes maxL ret R Q G) {aty : ArrayType} {i N cap : Nat} {z : Int32} {vs : List Value} {ty : FieldType} (hd : Nx bytes pc (.newarray aty) 2 pc') (hty : newarray.typeOf aty = ty) (w : AL Z a0 ty) (hz : z.toInt = (N : Int)) (hvs : List.replicate N (defaultValue ty) = vs) (hcap : N ≤ cap) (hbig : cap * 8 ≤ 536870912) (hk : A.length = b0 + k) (hc : k + 1 ≤ R.cells) (hs : n + cap ≤ R.slots) (hi : A.length = i) (hA' : A ++ [.inr (ty, vs)] = A') (hk' : k + 1 = k') (hn' : n + cap = n') (h : G pc' ls (.ref (n0 + i) :: st) A' k' n') : G pc ls (.int z :: st) A k n := by
  obtain ⟨hd, rfl⟩ := hd
  obtain ⟨p, e, s, m, args, below, meth, c, hx, hby, hml, hown, hnm, hret, hlk, hZ, hK, hb0, rfl⟩ := H
  subst hA' hk' hn' hi hty
  obtain ⟨z1, z2⟩ := tn_of hz
  intro T locs X hR hF
  obtain ⟨T', h', cA, X', eT, E, Ar, EA, sp⟩ := newPE X hx hZ w rfl (g := mkF m pc ls (.int z :: st)) rfl (hb hby hd) rfl z1 (by rw [z2]; exact hcap) hbig hc hs rfl
  have hsz : h'.size = n0 + (A.length + 1) := by rw [← eT]; exact size_up X' hb0 hR.1 hk (by rw [eT]; exact EA.lt)
  rw [hR.1] at EA Ar
  have hN : ObAt Z K h' (n0 + A.length) (.inr (newarray.typeOf aty, vs)) := ⟨⟨EA, fun w hw => by rw [← hvs] at hw; rw [(List.mem_replicate.mp hw).2]; cases aty <;> rfl⟩, _, Ar, by simp [newA, z2, ← hvs], fun C q => by cases aty <;> simp [newarray.typeOf] at q⟩
  obtain ⟨s₂, o, h1, h2⟩ := h T' locs X' (by rw [eT]; exact hR.push E hsz hN) hF
  rw [← hR.1] at h1
  exact ⟨s₂, o, sp _ h1, h2⟩
theorem IsGo.anewarray (H : IsGo l Z a0 K n0 b0 y bytes maxL ret R Q G) {idx i N cap : Nat} {z : Int32} {vs : List Value} {C : String} (hd : Nx bytes pc (.anewarray idx) 3 pc') (w1 : (Jvm.Cond.classLink y.cls idx C).before a0 Z = true) (w2 : (Jvm.Cond.arrayOver (.object C)).before a0 Z = true) (hz : z.toInt = (N : Int)) (hvs : List.replicate N Value.null = vs) (hcap : N ≤ cap) (hbig : cap * 8 ≤ 536870912) (hk : A.length = b0 + k) (hc : k + 1 ≤ R.cells) (hs : n + cap ≤ R.slots) (hi : A.length = i) (hA' : A ++ [.inr (.object C, vs)] = A') (hk' : k + 1 = k') (hn' : n + cap = n') (h : G pc' ls (.ref (n0 + i) :: st) A' k' n') : G pc ls (.int z :: st) A k n := by
  obtain ⟨hd, rfl⟩ := hd
  obtain ⟨p, e, s, m, args, below, meth, c, hx, hby, hml, hown, hnm, hret, hlk, hZ, hK, hb0, rfl⟩ := H
  subst hA' hk' hn' hi
  obtain ⟨z1, z2⟩ := tn_of hz
  intro T locs X hR hF
  obtain ⟨T', h', cA, X', eT, E, Ar, EA, Ov, sp⟩ := newRE X hx hZ hown w1 w2 rfl (g := mkF m pc ls (.int z :: st)) rfl (hb hby hd) rfl z1 (by rw [z2]; exact hcap) hbig hc hs rfl
  have hsz : h'.size = n0 + (A.length + 1) := by rw [← eT]; exact size_up X' hb0 hR.1 hk (by rw [eT]; exact EA.lt)
  rw [hR.1] at EA Ar
  have hN : ObAt Z K h' (n0 + A.length) (.inr (.object C, vs)) := ⟨⟨EA, fun w hw => by rw [← hvs] at hw; rw [(List.mem_replicate.mp hw).2]; rfl⟩, _, Ar, by simp [newA, z2, ← hvs, defaultValue], fun C' q => by cases q; exact Ov⟩
  obtain ⟨s₂, o, h1, h2⟩ := h T' locs X' (by rw [eT]; exact hR.push E hsz hN) hF
  rw [← hR.1] at h1
  exact ⟨s₂, o, sp _ h1, h2⟩
theorem arr_in {c : Cell} {vs : List Value} {z : Int32} {j : Nat} (hz : z.toInt = (j : Int)) (hs : c.slots = vs.toArray) (hj : j < vs.length) : ¬ (z < 0 ∨ c.slots.size ≤ z.toNatClampNeg) := by
  obtain ⟨z1, z2⟩ := tn_of hz
  rw [z2, hs]; simp [z1]; omega
theorem IsGo.arraylength (H : IsGo l Z a0 K n0 b0 y bytes maxL ret R Q G) (hd : Nx bytes pc .arraylength 1 pc') {i : Nat} {ty : FieldType} {vs : List Value} {z : Int32} (hA : A[i]? = some (.inr (ty, vs))) (hz : vs.length.toInt32 = z) (h : G pc' ls (.int z :: st) A k n) : G pc ls (.ref (n0 + i) :: st) A k n := by
  obtain ⟨hd, rfl⟩ := hd
  obtain ⟨p, e, s, m, args, below, meth, c, hx, hby, hml, hown, hnm, hret, hlk, hZ, hK, hb0, rfl⟩ := H
  subst hz
  intro T locs X hR hF
  obtain ⟨EA, cl, Ar, hcs, -⟩ := hR.2 i _ hA
  obtain ⟨s₂, o, h1, h2⟩ := h T locs X hR hF
  have q : vs.length = cl.slots.size := by rw [hcs]; simp
  rw [q] at h1
  exact ⟨s₂, o, X.arraylength hx Ar.1 (State.isArrayOf_alike hZ.alike Ar.2.1) (g := mkF m pc ls (.ref (n0 + i) :: st)) rfl rfl (hb hby hd) _ h1, h2⟩
theorem IsGo.iaload (H : IsGo l Z a0 K n0 b0 y bytes maxL ret R Q G) (hd : Nx bytes pc .iaload 1 pc') {i j : Nat} {vs : List Value} {z : Int32} {v : Value} (hA : A[i]? = some (.inr (.int, vs))) (hz : z.toInt = (j : Int)) (hv : vs[j]? = some v) (h : G pc' ls (v :: st) A k n) : G pc ls (.int z :: .ref (n0 + i) :: st) A k n := by
  obtain ⟨hd, rfl⟩ := hd
  obtain ⟨p, e, s, m, args, below, meth, c, hx, hby, hml, hown, hnm, hret, hlk, hZ, hK, hb0, rfl⟩ := H
  intro T locs X hR hF
  obtain ⟨EA, cl, Ar, hcs, -⟩ := hR.2 i _ hA
  obtain ⟨s₂, o, h1, h2⟩ := h T locs X hR hF
  exact ⟨s₂, o, X.iaload hx Ar.1 (State.isArrayOf_alike hZ.alike Ar.2.1) Ar.2.2 (arr_in hz hcs (List.getElem?_eq_some_iff.mp hv).1) (v := v) (by rw [(tn_of hz).2, hcs]; simpa using hv) (g := mkF m pc ls (.int z :: .ref (n0 + i) :: st)) rfl rfl (hb hby hd) _ h1, h2⟩
theorem IsGo.laload (H : IsGo l Z a0 K n0 b0 y bytes maxL ret R Q G) (hd : Nx bytes pc .laload 1 pc') {i j : Nat} {vs : List Value} {z : Int32} {v : Value} (hA : A[i]? = some (.inr (.long, vs))) (hz : z.toInt = (j : Int)) (hv : vs[j]? = some v) (h : G pc' ls (v :: st) A k n) : G pc ls (.int z :: .ref (n0 + i) :: st) A k n := by
  obtain ⟨hd, rfl⟩ := hd
  obtain ⟨p, e, s, m, args, below, meth, c, hx, hby, hml, hown, hnm, hret, hlk, hZ, hK, hb0, rfl⟩ := H
  intro T locs X hR hF
  obtain ⟨EA, cl, Ar, hcs, -⟩ := hR.2 i _ hA
  obtain ⟨s₂, o, h1, h2⟩ := h T locs X hR hF
  exact ⟨s₂, o, X.laload hx Ar.1 (State.isArrayOf_alike hZ.alike Ar.2.1) Ar.2.2 (arr_in hz hcs (List.getElem?_eq_some_iff.mp hv).1) (v := v) (by rw [(tn_of hz).2, hcs]; simpa using hv) (g := mkF m pc ls (.int z :: .ref (n0 + i) :: st)) rfl rfl (hb hby hd) _ h1, h2⟩
theorem IsGo.aaload (H : IsGo l Z a0 K n0 b0 y bytes maxL ret R Q G) (hd : Nx bytes pc .aaload 1 pc') {i j : Nat} {C : String} {vs : List Value} {z : Int32} {v : Value} (hA : A[i]? = some (.inr (.object C, vs))) (hz : z.toInt = (j : Int)) (hv : vs[j]? = some v) (h : G pc' ls (v :: st) A k n) : G pc ls (.int z :: .ref (n0 + i) :: st) A k n := by
  obtain ⟨hd, rfl⟩ := hd
  obtain ⟨p, e, s, m, args, below, meth, c, hx, hby, hml, hown, hnm, hret, hlk, hZ, hK, hb0, rfl⟩ := H
  intro T locs X hR hF
  obtain ⟨EA, cl, Ar, hcs, -⟩ := hR.2 i _ hA
  obtain ⟨s₂, o, h1, h2⟩ := h T locs X hR hF
  exact ⟨s₂, o, X.aaload hx Ar.1 (State.isArrayOf_alike hZ.alike Ar.2.1) rfl Ar.2.2 (arr_in hz hcs (List.getElem?_eq_some_iff.mp hv).1) (v := v) (by rw [(tn_of hz).2, hcs]; simpa using hv) (g := mkF m pc ls (.int z :: .ref (n0 + i) :: st)) rfl rfl (hb hby hd) _ h1, h2⟩
theorem IsGo.iastore (H : IsGo l Z a0 K n0 b0 y bytes maxL ret R Q G) (hd : Nx bytes pc .iastore 1 pc') {i j : Nat} {vs : List Value} {z v : Int32} (hA : A[i]? = some (.inr (.int, vs))) (hz : z.toInt = (j : Int)) (hj : j < vs.length) (hA' : A.set i (.inr (.int, vs.set j (.int v))) = A') (h : G pc' ls st A' k n) : G pc ls (.int v :: .int z :: .ref (n0 + i) :: st) A k n := by
  obtain ⟨hd, rfl⟩ := hd
  obtain ⟨p, e, s, m, args, below, meth, c, hx, hby, hml, hown, hnm, hret, hlk, hZ, hK, hb0, rfl⟩ := H
  subst hA'
  intro T locs X hR hF
  have hO := hR.2 i _ hA
  obtain ⟨EA, cl, Ar, hcs, -⟩ := hR.2 i _ hA
  obtain ⟨T', h', X', eT, W, sp⟩ := stI X hx hZ rfl Ar (arr_in hz hcs hj) (g := mkF m pc ls (.int v :: .int z :: .ref (n0 + i) :: st)) rfl rfl (hb hby hd)
  rw [(tn_of hz).2] at W
  obtain ⟨s₂, o, h1, h2⟩ := h T' _ X' (by rw [eT]; exact hR.set W (hO.setA W rfl)) (Fr.snoc X' hF (Nat.le_add_right _ _))
  exact ⟨s₂, o, sp _ h1, h2⟩
theorem IsGo.lastore (H : IsGo l Z a0 K n0 b0 y bytes maxL ret R Q G) (hd : Nx bytes pc .lastore 1 pc') {i j : Nat} {vs : List Value} {z : Int32} {v : Int64} (hA : A[i]? = some (.inr (.long, vs))) (hz : z.toInt = (j : Int)) (hj : j < vs.length) (hA' : A.set i (.inr (.long, vs.set j (.long v))) = A') (h : G pc' ls st A' k n) : G pc ls (.long v :: .int z :: .ref (n0 + i) :: st) A k n := by
  obtain ⟨hd, rfl⟩ := hd
  obtain ⟨p, e, s, m, args, below, meth, c, hx, hby, hml, hown, hnm, hret, hlk, hZ, hK, hb0, rfl⟩ := H
  subst hA'
  intro T locs X hR hF
  have hO := hR.2 i _ hA
  obtain ⟨EA, cl, Ar, hcs, -⟩ := hR.2 i _ hA
  obtain ⟨T', h', X', eT, W, sp⟩ := stJ X hx hZ rfl Ar (arr_in hz hcs hj) (g := mkF m pc ls (.long v :: .int z :: .ref (n0 + i) :: st)) rfl rfl (hb hby hd)
  rw [(tn_of hz).2] at W
  obtain ⟨s₂, o, h1, h2⟩ := h T' _ X' (by rw [eT]; exact hR.set W (hO.setA W rfl)) (Fr.snoc X' hF (Nat.le_add_right _ _))
  exact ⟨s₂, o, sp _ h1, h2⟩
theorem IsGo.bastore (H : IsGo l Z a0 K n0 b0 y bytes maxL ret R Q G) (hd : Nx bytes pc .bastore 1 pc') {i j : Nat} {vs : List Value} {z v w : Int32} (hA : A[i]? = some (.inr (.byte, vs))) (hz : z.toInt = (j : Int)) (hj : j < vs.length) (hw : nar .byte v = w) (hA' : A.set i (.inr (.byte, vs.set j (.int w))) = A') (h : G pc' ls st A' k n) : G pc ls (.int v :: .int z :: .ref (n0 + i) :: st) A k n := by
  obtain ⟨hd, rfl⟩ := hd
  obtain ⟨p, e, s, m, args, below, meth, c, hx, hby, hml, hown, hnm, hret, hlk, hZ, hK, hb0, rfl⟩ := H
  subst hA' hw
  intro T locs X hR hF
  have hO := hR.2 i _ hA
  obtain ⟨EA, cl, Ar, hcs, -⟩ := hR.2 i _ hA
  obtain ⟨T', h', X', eT, W, sp⟩ := stB X hx hZ rfl Ar (arr_in hz hcs hj) (g := mkF m pc ls (.int v :: .int z :: .ref (n0 + i) :: st)) rfl rfl (hb hby hd)
  rw [(tn_of hz).2] at W
  obtain ⟨s₂, o, h1, h2⟩ := h T' _ X' (by rw [eT]; exact hR.set W (hO.setA W (fits_nar_byte v))) (Fr.snoc X' hF (Nat.le_add_right _ _))
  exact ⟨s₂, o, sp _ h1, h2⟩
/-- the value can stand in an array of that class -/
def StoO (K : KTab) (C : String) (n0 : Nat) (A : List Ob) (v : Value) : Prop := v = .null ∨ ∃ i kk vs fs, v = .ref (n0 + i) ∧ A[i]? = some (.inl (kk, vs)) ∧ K[kk]? = some (C, fs)
theorem IsGo.aastore (H : IsGo l Z a0 K n0 b0 y bytes maxL ret R Q G) (hd : Nx bytes pc .aastore 1 pc') {i j : Nat} {C : String} {vs : List Value} {z : Int32} {v : Value} (hA : A[i]? = some (.inr (.object C, vs))) (hz : z.toInt = (j : Int)) (hj : j < vs.length) (hv : StoO K C n0 A v) (hA' : A.set i (.inr (.object C, vs.set j v)) = A') (h : G pc' ls st A' k n) : G pc ls (v :: .int z :: .ref (n0 + i) :: st) A k n := by
  obtain ⟨hd, rfl⟩ := hd
  obtain ⟨p, e, s, m, args, below, meth, c, hx, hby, hml, hown, hnm, hret, hlk, hZ, hK, hb0, rfl⟩ := H
  subst hA'
  intro T locs X hR hF
  have hO := hR.2 i _ hA
  obtain ⟨EA, cl, Ar, hcs, hov⟩ := hR.2 i _ hA
  have S : Sto Z T.heap (n0 + i) v := by
    rcases hv with rfl | ⟨i2, kk, vs2, fs, rfl, q1, q2⟩
    · exact Or.inl rfl
    · exact Sto.of Ar (hov C rfl) (Ins.self ((hR.2 i2 _ q1).exa q2))
  obtain ⟨T', h', X', eT, W, sp⟩ := stR X hx hZ rfl Ar (arr_in hz hcs hj) rfl S (g := mkF m pc ls (v :: .int z :: .ref (n0 + i) :: st)) rfl rfl (hb hby hd)
  rw [(tn_of hz).2] at W
  obtain ⟨s₂, o, h1, h2⟩ := h T' _ X' (by rw [eT]; exact hR.set W (hO.setA W (by rcases hv with rfl | ⟨i2, kk, vs2, fs, rfl, -⟩ <;> rfl))) (Fr.snoc X' hF (Nat.le_add_right _ _))
  exact ⟨s₂, o, sp _ h1, h2⟩
/-! ### arraycopy, clone, checkcast -/
def XL (Z : State) (a0 : Array Value) (own : String) (idx : Nat) : Prop := (Jvm.Cond.methodLink own idx Jvm.Stand.acN).before a0 Z = true ∧ (Jvm.Cond.native Jvm.Stand.acN).before a0 Z = true ∧ (Jvm.Cond.static Jvm.Stand.acN).before a0 Z = true ∧ (Jvm.Cond.initialized "java/lang/System").before a0 Z = true
theorem arv_of {h : Heap} {a : Addr} {ty : FieldType} {vs : List Value} (hl : vs.length < 2147483648) (F : ObAt Z K h a (.inr (ty, vs))) : ∃ kc : ClassId, Arv Z h a kc ty vs.length.toInt32 vs .null ∧ ∀ C, ty = .object C → Ovr Z kc C := by
  obtain ⟨⟨h1, hf⟩, c, h2, h3, h4⟩ := F
  have e := len_toInt (n := vs.length) (by omega)
  obtain ⟨z1, z2⟩ := tn_of e
  refine ⟨c.cls, ⟨c, h2, rfl, by rw [z2, h3]; simp, z1, fun k hk => ?_, fun i hi => ?_⟩, h4⟩
  · rw [h3] at hk ⊢
    have hk' : k < vs.length := by simpa using hk
    simp [List.getD, hk']
  · rw [h3] at hi
    have hi' : i < vs.length := by simpa using hi
    have : vs.getD i .null = vs[i] := by simp [List.getD, hi']
    rw [this]; exact hf _ (List.getElem_mem hi')
theorem slots_of {c : Cell} {vs : List Value} {d : Value} (hs : c.slots.size = vs.length) (hh : ∀ k, k < c.slots.size → c.slots[k]? = some (vs.getD k d)) : c.slots = vs.toArray := by
  apply Array.ext
  · simpa using hs
  · intro i h1 h2
    have q := hh i h1
    have h3 : i < vs.length := by simpa using h2
    rw [Array.getElem?_eq_getElem h1] at q
    have e : vs.getD i d = vs[i] := by simp [List.getD, h3]
    rw [e] at q
    simpa using q
theorem IsGo.arraycopy (H : IsGo l Z a0 K n0 b0 y bytes maxL ret R Q G) {idx : Nat} (hd : Nx bytes pc (.invokestatic idx) 3 pc') (L : XL Z a0 y.cls idx) {i j : Nat} {ty : FieldType} {vs vd us : List Value} {sp dp nn : Int32} {p q r : Nat} (hA : A[i]? = some (.inr (ty, vs))) (hB : A[j]? = some (.inr (ty, vd))) (hty : refKind ty = false) (h1 : sp.toInt = (p : Int)) (h2 : dp.toInt = (q : Int)) (h3 : nn.toInt = (r : Int)) (h4 : p + r ≤ vs.length) (h5 : q + r ≤ vd.length) (l1 : vs.length < 2147483648) (l2 : vd.length < 2147483648)
    (hus : (List.range r).map (fun i => vs.getD (p + i) .null) = us) (hls : ls.size = maxL) (hf : 1 ≤ R.frames) (hl : (st.map fun v => v.category).sum + (nativeFrameWords "java/lang/System" "arraycopy" 5 + 11) ≤ R.locals) (hk : A.length = b0 + k) (hA' : A.set j (.inr (ty, vd.take q ++ us ++ vd.drop (q + r))) = A') (h : G pc' ls st A' k n) : G pc ls (.int nn :: .int dp :: .ref (n0 + j) :: .int sp :: .ref (n0 + i) :: st) A k n := by
  obtain ⟨hd, rfl⟩ := hd
  obtain ⟨pp, e, s, m, args, below, meth, c, hx, hby, hml, hown, hnm, hret, hlk, hZ, hK, hb0, rfl⟩ := H
  obtain ⟨w1, w2, w3, w4⟩ := L
  subst hA'
  intro T locs X hR hF
  obtain ⟨k1, V1, -⟩ := arv_of l1 (hR.2 i _ hA)
  obtain ⟨k2, V2, O2⟩ := arv_of l2 (hR.2 j _ hB)
  obtain ⟨⟨EB, fB⟩, -⟩ := hR.2 j _ hB
  obtain ⟨⟨-, fA⟩, -⟩ := hR.2 i _ hA
  obtain ⟨s1, s2⟩ := tn_of h1
  obtain ⟨t1, t2⟩ := tn_of h2
  obtain ⟨u1, u2⟩ := tn_of h3
  have n1 := (tn_of (len_toInt (n := vs.length) (by omega))).2
  have n2 := (tn_of (len_toInt (n := vd.length) (by omega))).2
  obtain ⟨T', h', L', X', eT, F', Kp, V', sp'⟩ := cpA X hx hZ hown w1 w2 w3 w4 rfl V1 V2 (us := us) (Or.inl ⟨rfl, hty⟩) s1 t1 u1 (by rw [s2, u2, n1]; exact h4) (by rw [t2, u2, n2]; exact h5) (by rw [s2, u2]; exact hus.symm) (by rw [t2, u2]; exact h5) (n0 := n0) hF (Nat.le_add_right _ _) (g := mkF m pc ls (.int nn :: .int dp :: .ref (n0 + j) :: .int sp :: .ref (n0 + i) :: st)) rfl (by rw [hml]; exact hls) rfl (hb hby hd) hf (W := (st.map fun v => v.category).sum) (by show 2 * 0 + _ ≤ _; omega) hl
  have hsz : h'.size = T.heap.size := by
    have q1 := X'.heapSize
    have q2 := Kp.1
    have q3 := hR.1
    rw [eT] at q1
    omega
  rw [t2, u2] at V'
  have hlen : (vd.take q ++ us ++ vd.drop (q + r)).length = vd.length := by
    have : us.length = r := by rw [← hus]; simp
    simp [this]; omega
  have hO : ObAt Z K h' (n0 + j) (.inr (ty, vd.take q ++ us ++ vd.drop (q + r))) := by
    obtain ⟨cc, a1, a2, a3, a4, a5, a6⟩ := V'
    have e1 : cc.slots.size = (vd.take q ++ us ++ vd.drop (q + r)).length := by rw [hlen, a3, n2]
    refine ⟨⟨EB.keep Kp, fun w hw => ?_⟩, cc, a1, slots_of e1 a5, fun C q => by rw [a2]; exact O2 C q⟩
    obtain ⟨z, hz, rfl⟩ := List.mem_iff_getElem.mp hw
    have := a6 z (by rw [e1]; exact hz)
    rwa [show (vd.take q ++ us ++ vd.drop (q + r)).getD z .null = (vd.take q ++ us ++ vd.drop (q + r))[z] from by simp only [List.getD, List.getElem?_eq_getElem hz, Option.getD_some]] at this
  obtain ⟨s₂, o, g1, g2⟩ := h T' _ X' (by rw [eT]; exact hR.keep Kp hsz hO) F'
  exact ⟨s₂, o, sp' _ g1, g2⟩
def KL (Z : State) (a0 : Array Value) (own : String) (idx : Nat) (ad : String) : Prop := (Jvm.Cond.methodLink own idx ⟨ad, "clone", "()Ljava/lang/Object;"⟩).before a0 Z = true ∧ (Jvm.Cond.sameMethod ad "java/lang/Object" "clone" "()Ljava/lang/Object;").before a0 Z = true ∧ (Jvm.Cond.native ⟨"java/lang/Object", "clone", "()Ljava/lang/Object;"⟩).before a0 Z = true ∧
  (Jvm.Cond.instanceMethod ⟨"java/lang/Object", "clone", "()Ljava/lang/Object;"⟩).before a0 Z = true ∧ (Jvm.Cond.selects ad ⟨ad, "clone", "()Ljava/lang/Object;"⟩ ⟨"java/lang/Object", "clone", "()Ljava/lang/Object;"⟩).before a0 Z = true ∧ (Jvm.Cond.castable ad "java/lang/Cloneable").before a0 Z = true
theorem IsGo.clone (H : IsGo l Z a0 K n0 b0 y bytes maxL ret R Q G) {idx : Nat} {ad : String} (hd : Nx bytes pc (.invokevirtual idx) 3 pc') (L : KL Z a0 y.cls idx ad) {i ii cap : Nat} {ty : FieldType} {vs : List Value} (hA : A[i]? = some (.inr (ty, vs))) (had : "[" ++ ty.toString = ad) (l1 : vs.length < 2147483648) (hcap : vs.length ≤ cap)
    (hls : ls.size = maxL) (hf : 1 ≤ R.frames) (hl : (st.map fun v => v.category).sum + 14 ≤ R.locals) (hk : A.length = b0 + k) (hc : k + 1 ≤ R.cells) (hs : n + cap ≤ R.slots) (hi : A.length = ii) (hA' : A ++ [.inr (ty, vs)] = A') (hk' : k + 1 = k') (hn' : n + cap = n') (h : G pc' ls (.ref (n0 + ii) :: st) A' k' n') : G pc ls (.ref (n0 + i) :: st) A k n := by
  obtain ⟨hd, rfl⟩ := hd
  obtain ⟨pp, e, s, m, args, below, meth, c, hx, hby, hml, hown, hnm, hret, hlk, hZ, hK, hb0, rfl⟩ := H
  obtain ⟨w1, w2, w3, w4, w5, w6⟩ := L
  subst hA' hk' hn' hi had
  intro T locs X hR hF
  obtain ⟨k1, V1, O1⟩ := arv_of l1 (hR.2 i _ hA)
  obtain ⟨⟨EB, fB⟩, -⟩ := hR.2 i _ hA
  have n1 := (tn_of (len_toInt (n := vs.length) (by omega))).2
  obtain ⟨T', h', X', eT, E, V', EA, sp⟩ := cloneH X hx hZ hown w1 w2 w3 w4 w5 w6 rfl V1.arh EB (g := mkF m pc ls (.ref (n0 + i) :: st)) rfl (by rw [hml]; exact hls) rfl (hb hby hd) hf (W := (st.map fun v => v.category).sum) (cap := cap) (by show 2 * 0 + _ ≤ _; omega) hl (by rw [n1]; exact hcap) hc hs
  have hsz : h'.size = n0 + (A.length + 1) := by rw [← eT]; exact size_up X' hb0 hR.1 hk (by rw [eT]; exact EA.lt)
  rw [hR.1] at EA V'
  have hN : ObAt Z K h' (n0 + A.length) (.inr (ty, vs)) := by
    obtain ⟨cc, a1, a2, a3, a4, a5, a6⟩ := V'
    refine ⟨⟨EA, fB⟩, cc, a1, slots_of (by rw [a3, n1]) a5, fun C q => by rw [a2]; exact O1 C q⟩
  obtain ⟨s₂, o, h1, h2⟩ := h T' locs X' (by rw [eT]; exact hR.push E hsz hN) hF
  rw [← hR.1] at h1
  exact ⟨s₂, o, sp _ h1, h2⟩
theorem IsGo.castA (H : IsGo l Z a0 K n0 b0 y bytes maxL ret R Q G) {idx : Nat} {ad : String} (hd : Nx bytes pc (.checkcast idx) 3 pc') (w : (Jvm.Cond.classLink y.cls idx ad).before a0 Z = true) {i : Nat} {ty : FieldType} {vs : List Value} (hA : A[i]? = some (.inr (ty, vs))) (had : "[" ++ ty.toString = ad) (h : G pc' ls (.ref (n0 + i) :: st) A k n) : G pc ls (.ref (n0 + i) :: st) A k n := by
  obtain ⟨hd, rfl⟩ := hd
  obtain ⟨pp, e, s, m, args, below, meth, c, hx, hby, hml, hown, hnm, hret, hlk, hZ, hK, hb0, rfl⟩ := H
  subst had
  intro T locs X hR hF
  obtain ⟨⟨EB, -⟩, -⟩ := hR.2 i _ hA
  obtain ⟨T', X', eT, sp⟩ := castY X hx hZ hown w rfl (Ins.self EB) (g := mkF m pc ls (.ref (n0 + i) :: st)) rfl rfl (hb hby hd)
  obtain ⟨s₂, o, h1, h2⟩ := h T' locs X' (by rw [eT]; exact hR) hF
  exact ⟨s₂, o, sp _ h1, h2⟩
/-! ### calls -/
def IL (Z : State) (a0 : Array Value) (own : String) (idx : Nat) : Prop := (Jvm.Cond.methodLink own idx Lib.objectInit).before a0 Z = true ∧ (Jvm.Cond.instanceMethod Lib.objectInit).before a0 Z = true ∧ (Jvm.Cond.code Lib.objectInit ⟨#[0xb1]⟩ 1 none).before a0 Z = true
theorem IsGo.initO (H : IsGo l Z a0 K n0 b0 y bytes maxL ret R Q G) {idx : Nat} (hd : Nx bytes pc (.invokespecial idx) 3 pc') (L : IL Z a0 y.cls idx) {a : Addr} (hls : ls.size = maxL) (hf : 1 ≤ R.frames) (hl : (st.map fun v => v.category).sum + 12 ≤ R.locals) (h : G pc' ls st A k n) : G pc ls (.ref a :: st) A k n := by
  obtain ⟨hd, rfl⟩ := hd
  obtain ⟨p, e, s, m, args, below, meth, c, hx, hby, hml, hown, hnm, hret, hlk, hZ, hK, hb0, rfl⟩ := H
  obtain ⟨w1, w2, w3⟩ := L
  intro T locs X hR hF
  obtain ⟨T', X', eT, sp⟩ := RoadKit.initO X hx hZ hown w1 w2 w3 rfl (g := mkF m pc ls (.ref a :: st)) rfl (by rw [hml]; exact hls) rfl (hb hby hd) hf (W := (st.map fun v => v.category).sum) (by show 2 * 0 + _ ≤ _; omega) hl
  obtain ⟨s₂, o, h1, h2⟩ := h T' locs X' (by rw [eT]; exact hR) hF
  exact ⟨s₂, o, sp _ h1, h2⟩
def SL (Z : State) (a0 : Array Value) (own : String) (idx : Nat) (z : MethodName) (zb : ByteArray) (zm : Nat) (zr : Option FieldType) (np : Nat) : Prop :=
  (Jvm.Cond.methodLink own idx z).before a0 Z = true ∧ (Jvm.Cond.static z).before a0 Z = true ∧ (Jvm.Cond.initialized z.cls).before a0 Z = true ∧ (Jvm.Cond.code z zb zm zr).before a0 Z = true ∧ (z.cls ≠ "java/lang/invoke/MethodHandle" ∧ z.cls ≠ "java/lang/invoke/VarHandle") ∧ ∀ sig, parseMethodDescriptor z.desc = some sig → np = sig.parameters.length
theorem IsGo.callS (H : IsGo l Z a0 K n0 b0 y bytes maxL ret R Q G) {idx : Nat} (hd : Nx bytes pc (.invokestatic idx) 3 pc') {z : MethodName} {zb : ByteArray} {zm : Nat} {zr : Option FieldType} {np : Nat} (L : SL Z a0 y.cls idx z zb zm zr np) {rm : Room} {as : Array Value} {QQ : Option Value → List Ob → Prop} (M : Met l Z K n0 z zb zm zr rm as A QQ)
    {argsL rest : List Value} (ha : argsL.toArray = as) (hnp : argsL.length = np) (hst : st = argsL.reverse ++ rest) (hls : ls.size = maxL) (hf : rm.frames + 1 ≤ R.frames) (hl : (rest.map fun v => v.category).sum + (zm + 11) + rm.locals ≤ R.locals) (hc : k + rm.cells ≤ R.cells) (hs : n + rm.slots ≤ R.slots) (h : ∀ v A', QQ v A' → G pc' ls (v.toList ++ rest) A' (k + rm.cells) (n + rm.slots)) : G pc ls st A k n := by
  obtain ⟨hd, rfl⟩ := hd
  obtain ⟨p, e, s, m, args, below, meth, c, hx, hby, hml, hown, hnm, hret, hlk, hZ, hK, hb0, rfl⟩ := H
  obtain ⟨w1, w2, w3, w4, w5, w6⟩ := L
  subst ha hst hnp
  intro T locs X hR hF
  obtain ⟨v, vm₁, ⟨T', L', k', n'⟩, -, X', ⟨Lc, ⟨A', hQ, hR', hF'⟩, e1, e2, e3⟩, sp⟩ := Jvm.LawKit.callS X hx (y := z) hown (mvT hZ w1) (mvT hZ w2) (mvT hZ w3) (mvT hZ w4) w5 (backOf (W := (rest.map fun v => v.category).sum) (Q := fun v h L => ∃ A', QQ v A' ∧ Rel Z K n0 h A' ∧ Fr n0 L) (M [] T.heap hR) hZ w4 w3 hf hl) (g := mkF m pc ls (argsL.reverse ++ rest)) rfl (by rw [hml]; exact hls) (argsL := argsL) (rest := rest) w6 rfl (by show 2 * 0 + _ ≤ _; omega) (hb hby hd) (fun _ _ => ⟨rfl, rfl, hc, hs⟩)
  dsimp only [Pt.U, Pt.locs, Pt.cells, Pt.slots] at X' e1 e2 e3 sp hQ hR'
  subst e1 e2 e3
  obtain ⟨s₂, o, h1, h2⟩ := h v A' hQ T' _ X' hR' (Fr.app hF hF')
  exact ⟨s₂, o, sp _ h1, h2⟩
/-- a constructor by its contract -/
def CL (Z : State) (a0 : Array Value) (own : String) (idx : Nat) (z : MethodName) (zb : ByteArray) (zm : Nat) (np : Nat) : Prop :=
  (Jvm.Cond.methodLink own idx z).before a0 Z = true ∧ (Jvm.Cond.instanceMethod z).before a0 Z = true ∧ (Jvm.Cond.initialized z.cls).before a0 Z = true ∧ (Jvm.Cond.code z zb zm none).before a0 Z = true ∧ (z.cls ≠ "java/lang/invoke/MethodHandle" ∧ z.cls ≠ "java/lang/invoke/VarHandle") ∧ (∀ sig, parseMethodDescriptor z.desc = some sig → np = sig.parameters.length) ∧ z.name = "<init>"
theorem IsGo.callC (H : IsGo l Z a0 K n0 b0 y bytes maxL ret R Q G) {idx : Nat} (hd : Nx bytes pc (.invokespecial idx) 3 pc') {z : MethodName} {zb : ByteArray} {zm : Nat} {np : Nat} (L : CL Z a0 y.cls idx z zb zm np) {rm : Room} {as : Array Value} {QQ : Option Value → List Ob → Prop} (M : Met l Z K n0 z zb zm none rm as A QQ)
    {a : Addr} {argsL rest : List Value} (ha : (Value.ref a :: argsL).toArray = as) (hnp : argsL.length = np) (hst : st = argsL.reverse ++ .ref a :: rest) (hls : ls.size = maxL) (hf : rm.frames + 1 ≤ R.frames) (hl : (rest.map fun v => v.category).sum + (zm + 11) + rm.locals ≤ R.locals) (hc : k + rm.cells ≤ R.cells) (hs : n + rm.slots ≤ R.slots) (h : ∀ v A', QQ v A' → G pc' ls (v.toList ++ rest) A' (k + rm.cells) (n + rm.slots)) : G pc ls st A k n := by
  obtain ⟨hd, rfl⟩ := hd
  obtain ⟨p, e, s, m, args, below, meth, c, hx, hby, hml, hown, hnm, hret, hlk, hZ, hK, hb0, rfl⟩ := H
  obtain ⟨w1, w2, w3, w4, w5, w6, w7⟩ := L
  subst ha hst hnp
  intro T locs X hR hF
  obtain ⟨v, vm₁, ⟨T', L', k', n'⟩, -, X', ⟨Lc, ⟨A', hQ, hR', hF'⟩, e1, e2, e3⟩, sp⟩ := X.specialBack hx (y := z) w7 hown (mvT hZ w1) (mvT hZ w2) (mvT hZ w4) w5 (backOf (W := (rest.map fun v => v.category).sum) (Q := fun v h L => ∃ A', QQ v A' ∧ Rel Z K n0 h A' ∧ Fr n0 L) (M [] T.heap hR) hZ w4 w3 hf hl) (g := mkF m pc ls (argsL.reverse ++ .ref a :: rest)) rfl (by rw [hml]; exact hls) (Steps.refl _) (a := a) (argsL := argsL) (rest := rest) w6 rfl (by show 2 * 0 + _ ≤ _; omega) (hb hby hd) (fun _ _ => ⟨rfl, rfl, hc, hs⟩)
  dsimp only [Pt.U, Pt.locs, Pt.cells, Pt.slots] at X' e1 e2 e3 sp hQ hR'
  subst e1 e2 e3
  obtain ⟨s₂, o, h1, h2⟩ := h v A' hQ T' _ X' hR' (Fr.app hF hF')
  exact ⟨s₂, o, sp.trans h1, h2⟩
/-- a method of an object of class number kk, by its contract -/
def VL (Z : State) (a0 : Array Value) (K : KTab) (own : String) (idx kk : Nat) (z : MethodName) (zb : ByteArray) (zm : Nat) (zr : Option FieldType) (np : Nat) : Prop :=
  ∃ C fs, K[kk]? = some (C, fs) ∧ (Jvm.Cond.methodLink own idx z).before a0 Z = true ∧ (Jvm.Cond.declares z).before a0 Z = true ∧ (Jvm.Cond.selects C z z).before a0 Z = true ∧ (Jvm.Cond.instanceMethod z).before a0 Z = true ∧ (Jvm.Cond.initialized z.cls).before a0 Z = true ∧ (Jvm.Cond.code z zb zm zr).before a0 Z = true ∧ (z.cls ≠ "java/lang/invoke/MethodHandle" ∧ z.cls ≠ "java/lang/invoke/VarHandle") ∧ (∀ sig, parseMethodDescriptor z.desc = some sig → np = sig.parameters.length)
theorem IsGo.callV (H : IsGo l Z a0 K n0 b0 y bytes maxL ret R Q G) {idx kk : Nat} (hd : Nx bytes pc (.invokevirtual idx) 3 pc') {z : MethodName} {zb : ByteArray} {zm : Nat} {zr : Option FieldType} {np : Nat} (L : VL Z a0 K y.cls idx kk z zb zm zr np) {rm : Room} {as : Array Value} {QQ : Option Value → List Ob → Prop} (M : Met l Z K n0 z zb zm zr rm as A QQ)
    {i : Nat} {vs : List Value} (hA : A[i]? = some (.inl (kk, vs))) {argsL rest : List Value} (ha : (Value.ref (n0 + i) :: argsL).toArray = as) (hnp : argsL.length = np) (hst : st = argsL.reverse ++ .ref (n0 + i) :: rest) (hls : ls.size = maxL) (hf : rm.frames + 1 ≤ R.frames) (hl : (rest.map fun v => v.category).sum + (zm + 11) + rm.locals ≤ R.locals) (hc : k + rm.cells ≤ R.cells) (hs : n + rm.slots ≤ R.slots) (h : ∀ v A', QQ v A' → G pc' ls (v.toList ++ rest) A' (k + rm.cells) (n + rm.slots)) : G pc ls st A k n := by
  obtain ⟨hd, rfl⟩ := hd
  obtain ⟨p, e, s, m, args, below, meth, c, hx, hby, hml, hown, hnm, hret, hlk, hZ, hK, hb0, rfl⟩ := H
  obtain ⟨C, fs, hk, w1, w2, w3, w4, w5, w6, w7, w8⟩ := L
  subst ha hst hnp
  intro T locs X hR hF
  obtain ⟨cB, kB, qa, qb, qc⟩ := isOf hZ rfl ((hR.2 i _ hA).exa hk)
  obtain ⟨v, vm₁, ⟨T', L', k', n'⟩, -, X', ⟨Lc, ⟨A', hQ, hR', hF'⟩, e1, e2, e3⟩, sp⟩ := X.virtualBack hx (y := z) (z := z) hown (mvT hZ w1) (mvT hZ w2) (notFace_of_selects (args := #[]) (mvT hZ w3)) (mvT hZ w3) (mvT hZ w4) w7 (backOf (W := (rest.map fun v => v.category).sum) (Q := fun v h L => ∃ A', QQ v A' ∧ Rel Z K n0 h A' ∧ Fr n0 L) (M [] T.heap hR) hZ w6 w5 hf hl) qa qc (g := mkF m pc ls (argsL.reverse ++ .ref (n0 + i) :: rest)) rfl (by rw [hml]; exact hls) (Steps.refl _) (argsL := argsL) (rest := rest) w8 rfl (by show 2 * 0 + _ ≤ _; omega) (hb hby hd) (fun _ _ => ⟨rfl, rfl, hc, hs⟩)
  dsimp only [Pt.U, Pt.locs, Pt.cells, Pt.slots] at X' e1 e2 e3 sp hQ hR'
  subst e1 e2 e3
  obtain ⟨s₂, o, h1, h2⟩ := h v A' hQ T' _ X' hR' (Fr.app hF hF')
  exact ⟨s₂, o, sp.trans h1, h2⟩
/-- a private method -/
def ML (Z : State) (a0 : Array Value) (K : KTab) (own : String) (idx kk : Nat) (z : MethodName) (zb : ByteArray) (zm : Nat) (zr : Option FieldType) (np : Nat) : Prop :=
  ∃ C fs, K[kk]? = some (C, fs) ∧ (Jvm.Cond.methodLink own idx z).before a0 Z = true ∧ (Jvm.Cond.privateMethod z).before a0 Z = true ∧ z.cls = C ∧ (Jvm.Cond.instanceMethod z).before a0 Z = true ∧ (Jvm.Cond.initialized z.cls).before a0 Z = true ∧ (Jvm.Cond.code z zb zm zr).before a0 Z = true ∧ (z.cls ≠ "java/lang/invoke/MethodHandle" ∧ z.cls ≠ "java/lang/invoke/VarHandle") ∧ (∀ sig, parseMethodDescriptor z.desc = some sig → np = sig.parameters.length)
theorem IsGo.callM (H : IsGo l Z a0 K n0 b0 y bytes maxL ret R Q G) {idx kk : Nat} (hd : Nx bytes pc (.invokevirtual idx) 3 pc') {z : MethodName} {zb : ByteArray} {zm : Nat} {zr : Option FieldType} {np : Nat} (L : ML Z a0 K y.cls idx kk z zb zm zr np) {rm : Room} {as : Array Value} {QQ : Option Value → List Ob → Prop} (M : Met l Z K n0 z zb zm zr rm as A QQ)
    {i : Nat} {vs : List Value} (hA : A[i]? = some (.inl (kk, vs))) {argsL rest : List Value} (ha : (Value.ref (n0 + i) :: argsL).toArray = as) (hnp : argsL.length = np) (hst : st = argsL.reverse ++ .ref (n0 + i) :: rest) (hls : ls.size = maxL) (hf : rm.frames + 1 ≤ R.frames) (hl : (rest.map fun v => v.category).sum + (zm + 11) + rm.locals ≤ R.locals) (hc : k + rm.cells ≤ R.cells) (hs : n + rm.slots ≤ R.slots) (h : ∀ v A', QQ v A' → G pc' ls (v.toList ++ rest) A' (k + rm.cells) (n + rm.slots)) : G pc ls st A k n := by
  obtain ⟨hd, rfl⟩ := hd
  obtain ⟨p, e, s, m, args, below, meth, c, hx, hby, hml, hown, hnm, hret, hlk, hZ, hK, hb0, rfl⟩ := H
  obtain ⟨C, fs, hk, w1, w2, w3, w4, w5, w6, w7, w8⟩ := L
  subst ha hst hnp
  intro T locs X hR hF
  obtain ⟨cq, q1, q2⟩ := ((hR.2 i _ hA).exa hk).cell
  obtain ⟨⟨ki, wi⟩, -, -⟩ := hK kk C fs hk
  obtain ⟨c2, k2, i1, i2, -, i4, -⟩ := Cond.instantiable_spec (show (Jvm.Cond.instantiable z.cls ki).before args s = true from mvT hZ (by rw [w3]; exact wi))
  have hni : k2.isInterface = false := by
    simp only [Bool.or_eq_false_iff] at i4
    exact i4.1
  have hpr := Cond.privateMethod_at (mvP hZ w2 (args := #[]))
  have w3' := selects_self_of_private (args := args) i1 i2 hni hpr (mvT hZ w4) w7
  obtain ⟨v, vm₁, ⟨T', L', k', n'⟩, -, X', ⟨Lc, ⟨A', hQ, hR', hF'⟩, e1, e2, e3⟩, sp⟩ := X.privateBack hx (y := z) hown (mvT hZ w1) (mvT hZ w4) w3' hpr (mvT hZ w6) w7 (backOf (W := (rest.map fun v => v.category).sum) (Q := fun v h L => ∃ A', QQ v A' ∧ Rel Z K n0 h A' ∧ Fr n0 L) (M [] T.heap hR) hZ w6 w5 hf hl) (g := mkF m pc ls (argsL.reverse ++ .ref (n0 + i) :: rest)) rfl (by rw [hml]; exact hls) (Steps.refl _) (a := n0 + i) q1 q2 (argsL := argsL) (rest := rest) w8 rfl (by show 2 * 0 + _ ≤ _; omega) (hb hby hd) (fun _ _ => ⟨rfl, rfl, hc, hs⟩)
  dsimp only [Pt.U, Pt.locs, Pt.cells, Pt.slots] at X' e1 e2 e3 sp hQ hR'
  subst e1 e2 e3
  obtain ⟨s₂, o, h1, h2⟩ := h v A' hQ T' _ X' hR' (Fr.app hF hF')
  exact ⟨s₂, o, sp.trans h1, h2⟩
theorem IsGo.callSD (H : IsGo l Z a0 K n0 b0 y bytes maxL ret R Q G) {idx : Nat} (hd : Nx bytes pc (.invokestatic idx) 3 pc') {z : MethodName} {zb : ByteArray} {zm : Nat} {zr : Option FieldType} {np : Nat} (L : SL Z a0 y.cls idx z zb zm zr np) {rm : Room} {as : Array Value} {vo : Option Value} (M : Met l Z K n0 z zb zm zr rm as A (Is vo A'))
    {argsL rest : List Value} (ha : argsL.toArray = as) (hnp : argsL.length = np) (hst : st = argsL.reverse ++ rest) (hls : ls.size = maxL) (hf : rm.frames + 1 ≤ R.frames) (hl : (rest.map fun v => v.category).sum + (zm + 11) + rm.locals ≤ R.locals) (hc : k + rm.cells ≤ R.cells) (hs : n + rm.slots ≤ R.slots) (hst' : vo.toList ++ rest = st') (hk' : k + rm.cells = k') (hn' : n + rm.slots = n') (h : G pc' ls st' A' k' n') : G pc ls st A k n :=
  H.callS hd L M ha hnp hst hls hf hl hc hs (fun v B q => by obtain ⟨rfl, rfl⟩ := q; subst hst' hk' hn'; exact h)
theorem IsGo.callCD (H : IsGo l Z a0 K n0 b0 y bytes maxL ret R Q G) {idx : Nat} (hd : Nx bytes pc (.invokespecial idx) 3 pc') {z : MethodName} {zb : ByteArray} {zm : Nat} {np : Nat} (L : CL Z a0 y.cls idx z zb zm np) {rm : Room} {as : Array Value} {vo : Option Value} (M : Met l Z K n0 z zb zm none rm as A (Is vo A'))
    {a : Addr} {argsL rest : List Value} (ha : (Value.ref a :: argsL).toArray = as) (hnp : argsL.length = np) (hst : st = argsL.reverse ++ .ref a :: rest) (hls : ls.size = maxL) (hf : rm.frames + 1 ≤ R.frames) (hl : (rest.map fun v => v.category).sum + (zm + 11) + rm.locals ≤ R.locals) (hc : k + rm.cells ≤ R.cells) (hs : n + rm.slots ≤ R.slots) (hst' : vo.toList ++ rest = st') (hk' : k + rm.cells = k') (hn' : n + rm.slots = n') (h : G pc' ls st' A' k' n') : G pc ls st A k n :=
  H.callC hd L M ha hnp hst hls hf hl hc hs (fun v B q => by obtain ⟨rfl, rfl⟩ := q; subst hst' hk' hn'; exact h)
theorem IsGo.callVD (H : IsGo l Z a0 K n0 b0 y bytes maxL ret R Q G) {idx kk : Nat} (hd : Nx bytes pc (.invokevirtual idx) 3 pc') {z : MethodName} {zb : ByteArray} {zm : Nat} {zr : Option FieldType} {np : Nat} (L : VL Z a0 K y.cls idx kk z zb zm zr np) {rm : Room} {as : Array Value} {vo : Option Value} (M : Met l Z K n0 z zb zm zr rm as A (Is vo A'))
    {i : Nat} {vs : List Value} (hA : A[i]? = some (.inl (kk, vs))) {argsL rest : List Value} (ha : (Value.ref (n0 + i) :: argsL).toArray = as) (hnp : argsL.length = np) (hst : st = argsL.reverse ++ .ref (n0 + i) :: rest) (hls : ls.size = maxL) (hf : rm.frames + 1 ≤ R.frames) (hl : (rest.map fun v => v.category).sum + (zm + 11) + rm.locals ≤ R.locals) (hc : k + rm.cells ≤ R.cells) (hs : n + rm.slots ≤ R.slots) (hst' : vo.toList ++ rest = st') (hk' : k + rm.cells = k') (hn' : n + rm.slots = n') (h : G pc' ls st' A' k' n') : G pc ls st A k n :=
  H.callV hd L M hA ha hnp hst hls hf hl hc hs (fun v B q => by obtain ⟨rfl, rfl⟩ := q; subst hst' hk' hn'; exact h)
theorem IsGo.callMD (H : IsGo l Z a0 K n0 b0 y bytes maxL ret R Q G) {idx kk : Nat} (hd : Nx bytes pc (.invokevirtual idx) 3 pc') {z : MethodName} {zb : ByteArray} {zm : Nat} {zr : Option FieldType} {np : Nat} (L : ML Z a0 K y.cls idx kk z zb zm zr np) {rm : Room} {as : Array Value} {vo : Option Value} (M : Met l Z K n0 z zb zm zr rm as A (Is vo A'))
    {i : Nat} {vs : List Value} (hA : A[i]? = some (.inl (kk, vs))) {argsL rest : List Value} (ha : (Value.ref (n0 + i) :: argsL).toArray = as) (hnp : argsL.length = np) (hst : st = argsL.reverse ++ .ref (n0 + i) :: rest) (hls : ls.size = maxL) (hf : rm.frames + 1 ≤ R.frames) (hl : (rest.map fun v => v.category).sum + (zm + 11) + rm.locals ≤ R.locals) (hc : k + rm.cells ≤ R.cells) (hs : n + rm.slots ≤ R.slots) (hst' : vo.toList ++ rest = st') (hk' : k + rm.cells = k') (hn' : n + rm.slots = n') (h : G pc' ls st' A' k' n') : G pc ls st A k n :=
  H.callM hd L M hA ha hnp hst hls hf hl hc hs (fun v B q => by obtain ⟨rfl, rfl⟩ := q; subst hst' hk' hn'; exact h)
/-! ### the end -/
theorem IsGo.retW (H : IsGo l Z a0 K n0 b0 y bytes maxL ret R Q G) {i : Instr} (hd : Nx bytes pc i 1 pc') {t : FieldType} {w : Value} (hret : ret = some t) (hn : narrow t w = w)
    (hi : (i = .ireturn ∧ (t = .int ∨ t = .boolean ∨ t = .byte ∨ t = .char ∨ t = .short) ∧ ∃ z, w = .int z) ∨ (i = .lreturn ∧ t = .long ∧ ∃ z, w = .long z) ∨ (i = .dreturn ∧ t = .double ∧ ∃ z, w = .double z) ∨ (i = .freturn ∧ t = .float ∧ ∃ z, w = .float z) ∨ (i = .areturn ∧ t.isReference = true ∧ w.isRef = true))
    (hQ : Q (some w) A) (hc : k ≤ R.cells) (hs : n ≤ R.slots) : G pc ls (w :: st) A k n := by
  obtain ⟨hd, rfl⟩ := hd
  obtain ⟨p, e, s, m, args, below, meth, c, hx, hby, hml, hown, hnm, hret', hlk, hZ, hK, hb0, rfl⟩ := H
  intro T locs X hR hF
  obtain ⟨fs, hr, hrun, hended, hW, hsame⟩ := X.leave (v := some w) (fun h => by rw [hret', hret] at h; cases h) hlk
  exact ⟨_, _, retOut X hx (hret'.trans hret) hn hi (hb hby hd) hr, hrun, hended, _, _, rfl, ⟨A, hQ, hR, hF⟩, ⟨_, rfl⟩, hW, hsame.mono hc hs⟩
theorem IsGo.ireturn (H : IsGo l Z a0 K n0 b0 y bytes maxL ret R Q G) (hd : Nx bytes pc .ireturn 1 pc') {t : FieldType} {z : Int32} (hret : ret = some t) (ht : t = .int ∨ t = .boolean ∨ t = .byte ∨ t = .char ∨ t = .short) (hn : narrow t (.int z) = .int z) (hQ : Q (some (.int z)) A) (hc : k ≤ R.cells) (hs : n ≤ R.slots) : G pc ls (.int z :: st) A k n :=
  H.retW hd hret hn (Or.inl ⟨rfl, ht, z, rfl⟩) hQ hc hs
theorem IsGo.lreturn (H : IsGo l Z a0 K n0 b0 y bytes maxL ret R Q G) (hd : Nx bytes pc .lreturn 1 pc') {z : Int64} (hret : ret = some .long) (hQ : Q (some (.long z)) A) (hc : k ≤ R.cells) (hs : n ≤ R.slots) : G pc ls (.long z :: st) A k n :=
  H.retW hd hret rfl (Or.inr (Or.inl ⟨rfl, rfl, z, rfl⟩)) hQ hc hs
theorem IsGo.areturn (H : IsGo l Z a0 K n0 b0 y bytes maxL ret R Q G) (hd : Nx bytes pc .areturn 1 pc') {t : FieldType} {w : Value} (hret : ret = some t) (ht : t.isReference = true) (hn : narrow t w = w) (hw : w.isRef = true) (hQ : Q (some w) A) (hc : k ≤ R.cells) (hs : n ≤ R.slots) : G pc ls (w :: st) A k n :=
  H.retW hd hret hn (Or.inr (Or.inr (Or.inr (Or.inr ⟨rfl, ht, hw⟩)))) hQ hc hs
theorem IsGo.vreturn (H : IsGo l Z a0 K n0 b0 y bytes maxL ret R Q G) (hd : Nx bytes pc .return_ 1 pc') (hret : ret = none) (hQ : Q none A) (hc : k ≤ R.cells) (hs : n ≤ R.slots) : G pc ls [] A k n := by
  obtain ⟨hd, rfl⟩ := hd
  obtain ⟨p, e, s, m, args, below, meth, c, hx, hby, hml, hown, hnm, hret', hlk, hZ, hK, hb0, rfl⟩ := H
  intro T locs X hR hF
  obtain ⟨fs, hr, hrun, hended, hW, hsame⟩ := X.leave (v := none) (fun _ => rfl) hlk
  exact ⟨_, _, X.returnOut hx (hret'.trans hret) (hb hby hd) hr, hrun, hended, _, _, rfl, ⟨A, hQ, hR, hF⟩, ⟨_, rfl⟩, hW, hsame.mono hc hs⟩
end Rules
end Jvm.OwnKit

namespace Jvm.Pilot.@@N@@
open Jvm Jvm.ClassFile Sem Op Lib Jvm.Free Jvm.Stand Jvm.LawKit Jvm.RoadKit Jvm.OwnKit Bundle Jvm.Pilot.@@N@@.Jvm.D
abbrev HW1 (Z : State) (a0 : Array Value) : Prop := ∀ d ∈ tables_1, d.before a0 Z = true
def KT : KTab := [("com/example/wavegrant/wavegrant/IndexSet", [("com/example/wavegrant/wavegrant/IndexSet", "size", "I"), ("com/example/wavegrant/wavegrant/IndexSet", "members", "[J"), ("com/example/wavegrant/wavegrant/IndexSet", "nonEmpty", "[J"), ("com/example/wavegrant/wavegrant/IndexSet", "allMembers", "[J"), ("com/example/wavegrant/wavegrant/IndexSet", "allNonEmpty", "[J")])]
abbrev y1 : MethodName := ⟨"java/lang/Math", "max", "(II)I"⟩
abbrev y2 : MethodName := ⟨"com/example/wavegrant/wavegrant/IndexSetRemovePinLaw", "idx", "(II)I"⟩
abbrev y3 : MethodName := ⟨"com/example/wavegrant/wavegrant/IndexSet", "<init>", "(I)V"⟩
abbrev y4 : MethodName := ⟨"java/lang/Object", "<init>", "()V"⟩
abbrev y5 : MethodName := ⟨"com/example/wavegrant/wavegrant/IndexSet", "words", "(I)I"⟩
abbrev y6 : MethodName := ⟨"com/example/wavegrant/wavegrant/IndexSet", "full", "(I)[J"⟩
abbrev y7 : MethodName := ⟨"com/example/wavegrant/wavegrant/IndexSet", "fill", "()V"⟩
abbrev y8 : MethodName := ⟨"com/example/wavegrant/wavegrant/IndexSet", "remove", "(I)V"⟩
abbrev y9 : MethodName := ⟨"com/example/wavegrant/wavegrant/IndexSet", "next", "(I)I"⟩
abbrev y10 : MethodName := ⟨"com/example/wavegrant/wavegrant/IndexSet", "nonEmptyWord", "(I)I"⟩
abbrev y11 : MethodName := ⟨"com/example/wavegrant/wavegrant/IndexSetRemovePinLaw", "ref", "(IIIII)I"⟩
abbrev y12 : MethodName := ⟨"com/example/wavegrant/wavegrant/IndexSetRemovePinLaw", "step", "(IIII)I"⟩
abbrev y13 : MethodName := ⟨"java/lang/Long", "numberOfTrailingZeros", "(J)I"⟩
abbrev y14 : MethodName := ⟨"java/lang/Integer", "numberOfTrailingZeros", "(I)I"⟩
theorem kok {Z : State} {a0 : Array Value} (hw : HW1 Z a0) : KOk Z a0 KT := kokOf (faS ⟨⟨_, (hw _ (List.mem_of_getElem? (i := 9) rfl))⟩, (faS ⟨Or.inr (hw _ (List.mem_of_getElem? (i := 18) rfl)), .int, by decide +kernel⟩ (faS ⟨Or.inr (hw _ (List.mem_of_getElem? (i := 24) rfl)), (.array .long), by decide +kernel⟩ (faS ⟨Or.inr (hw _ (List.mem_of_getElem? (i := 26) rfl)), (.array .long), by decide +kernel⟩ (faS ⟨Or.inr (hw _ (List.mem_of_getElem? (i := 32) rfl)), (.array .long), by decide +kernel⟩ (faS ⟨Or.inr (hw _ (List.mem_of_getElem? (i := 34) rfl)), (.array .long), by decide +kernel⟩ fa0))))), by decide⟩ fa0)
set_option maxRecDepth 65536
set_option maxHeartbeats 40000000
abbrev b1 : ByteArray := jdk_29_method_65_code
abbrev b2 : ByteArray := method_2_code
abbrev b3 : ByteArray := prog_13_method_1_code
abbrev b4 : ByteArray := object_method_1_code
abbrev b5 : ByteArray := prog_13_method_6_code
abbrev b6 : ByteArray := prog_13_method_7_code
abbrev b7 : ByteArray := prog_13_method_2_code
abbrev b8 : ByteArray := prog_13_method_3_code
abbrev b9 : ByteArray := prog_13_method_4_code
abbrev b10 : ByteArray := prog_13_method_5_code
abbrev b11 : ByteArray := method_4_code
abbrev b12 : ByteArray := method_3_code
abbrev b13 : ByteArray := jdk_35_method_49_code
abbrev b14 : ByteArray := jdk_33_method_48_code
def own_b (v : Int64) (j : Nat) : Bool := v.toBitVec.getLsbD j
def own_c (v : Int32) (j : Nat) : Bool := v.toBitVec.getLsbD j
theorem own_b_and (a b : Int64) (j : Nat) : own_b (a &&& b) j = (own_b a j && own_b b j) := by simp [own_b]
theorem own_b_xor (a b : Int64) (j : Nat) : own_b (a ^^^ b) j = (own_b a j ^^ own_b b j) := by simp [own_b]
theorem own_b_m1 (j : Nat) : own_b (-1) j = decide (j < 64) := by
  show (-1 : Int64).toBitVec.getLsbD j = _
  rw [show (-1 : Int64).toBitVec = BitVec.allOnes 64 by decide, BitVec.getLsbD_allOnes]
theorem own_b_1 (j : Nat) : own_b 1 j = decide (j = 0) := by
  show (1 : Int64).toBitVec.getLsbD j = _
  rw [show (1 : Int64).toBitVec = 1#64 by decide, BitVec.getLsbD_one]
  simp
theorem own_b_shl (x : Int64) (q : Int32) (k : Nat) (hk : q.toBitVec.toNat % 64 = k) (j : Nat) : own_b (x <<< (q &&& 0x3f).toInt64) j = (decide (j < 64) && !decide (j < k) && own_b x (j - k)) := by
  show (x.toBitVec <<< ((q &&& 0x3f).toInt64.toBitVec.smod 64)).getLsbD j = _
  rw [BitVec.shiftLeft_eq', (sm64 q k hk).1, smod64 k (sm64 q k hk).2, BitVec.getLsbD_shiftLeft]; rfl
theorem own_b_0 (v : Int64) : v = 0 ↔ ∀ j, j < 64 → own_b v j = false := by
  constructor
  · rintro rfl j _; simp [own_b]
  · intro h
    apply Int64.toBitVec_inj.mp
    apply BitVec.eq_of_getLsbD_eq
    intro j hj
    have := h j hj
    simpa [own_b] using this
theorem own_b_hi (v : Int64) (j : Nat) (h : 64 ≤ j) : own_b v j = false := BitVec.getLsbD_of_ge _ _ h
theorem own_q {q : Int32} {m : Nat} (h : q.toInt = m) : q.toBitVec.toNat % 64 = m % 64 := by
  have e : q.toBitVec.toInt = m := h
  rw [BitVec.toInt_eq_toNat_cond] at e
  have := q.toBitVec.isLt
  split at e <;> omega
/-- the lowest set bit -/
theorem own_low (v : Int64) (h : v ≠ 0) : ∃ t, t < 64 ∧ own_b v t = true ∧ ∀ j, j < t → own_b v j = false := by
  have h' : ∃ t, t < 64 ∧ own_b v t = true := by
    apply Classical.byContradiction
    intro hn
    apply h
    rw [own_b_0]
    intro j hj
    cases hb : own_b v j
    · rfl
    · exact absurd ⟨j, hj, hb⟩ hn
  have key : ∀ n t, t ≤ n → t < 64 ∧ own_b v t = true → ∃ t, t < 64 ∧ own_b v t = true ∧ ∀ j, j < t → own_b v j = false := by
    intro n
    induction n with
    | zero => rintro t ht ⟨h1, h2⟩; exact ⟨t, h1, h2, fun j hj => by omega⟩
    | succ n ih =>
      rintro t ht ⟨h1, h2⟩
      by_cases hc : ∃ j, j < t ∧ own_b v j = true
      · obtain ⟨j, hj, hb⟩ := hc
        exact ih j (by omega) ⟨by omega, hb⟩
      · refine ⟨t, h1, h2, fun j hj => ?_⟩
        cases hb : own_b v j
        · rfl
        · exact absurd ⟨j, hj, hb⟩ hc
  obtain ⟨t, ht⟩ := h'
  exact key t t (Nat.le_refl _) ht
/-- x = 2^t (2 m + 1): the trick of numberOfTrailingZeros -/
theorem own_tz (x : Int32) (t : Nat) (ht : t < 32) (h1 : own_c x t = true) (h2 : ∀ j, j < t → own_c x j = false) : (x ^^^ (-1 : Int32)) &&& (x - (1 : Int32)) = Int32.ofNat (2 ^ t - 1) := by
  apply Int32.toBitVec_inj.mp
  have hx : x.toBitVec.toNat = 2 ^ (t + 1) * (x.toBitVec.toNat / 2 ^ (t + 1)) + 2 ^ t := by
    have e := Nat.div_add_mod x.toBitVec.toNat (2 ^ (t + 1))
    have : x.toBitVec.toNat % 2 ^ (t + 1) = 2 ^ t := by
      apply Nat.eq_of_testBit_eq
      intro i
      rw [Nat.testBit_mod_two_pow, Nat.testBit_two_pow]
      by_cases hi : i < t
      · have := h2 i hi
        simp only [own_c, BitVec.getLsbD] at this
        simp [this]; omega
      · by_cases he : i = t
        · subst he
          simp only [own_c, BitVec.getLsbD] at h1
          simp [h1]
        · have a1 : ¬ i < t + 1 := by omega
          have a2 : ¬ t = i := by omega
          simp [a1, a2]
    omega
  have hlt := x.toBitVec.isLt
  generalize x.toBitVec.toNat / 2 ^ (t + 1) = m at hx
  apply BitVec.eq_of_getLsbD_eq
  intro j hj
  have hs : (x - (1 : Int32)).toBitVec.toNat = 2 ^ (t + 1) * m + (2 ^ t - 1) := by
    have e : (x - (1 : Int32)).toBitVec = x.toBitVec - 1#32 := rfl
    have p : 0 < 2 ^ t := Nat.two_pow_pos t
    rw [e, BitVec.toNat_sub, hx]
    rw [hx] at hlt
    show (2 ^ 32 - 1 + (2 ^ (t + 1) * m + 2 ^ t)) % 2 ^ 32 = _
    generalize 2 ^ (t + 1) * m = y at *
    generalize 2 ^ t = z at *
    omega
  have p : 0 < 2 ^ t := Nat.two_pow_pos t
  have p2 : 2 ^ (t + 1) = 2 * 2 ^ t := by rw [Nat.pow_succ]; omega
  have b1 : x.toBitVec.getLsbD j = (2 ^ (t + 1) * m + 2 ^ t).testBit j := by rw [BitVec.getLsbD, hx]
  have b2 : (x - (1 : Int32)).toBitVec.getLsbD j = (2 ^ (t + 1) * m + (2 ^ t - 1)).testBit j := by rw [BitVec.getLsbD, hs]
  have b3 : (x ^^^ (-1 : Int32)).toBitVec.getLsbD j = !x.toBitVec.getLsbD j := by
    rw [Int32.toBitVec_xor, BitVec.getLsbD_xor, show (-1 : Int32).toBitVec = BitVec.allOnes 32 by decide, BitVec.getLsbD_allOnes]
    simp [hj]
  have b4 : (Int32.ofNat (2 ^ t - 1)).toBitVec.getLsbD j = decide (j < t) := by
    show (BitVec.ofNat 32 (2 ^ t - 1)).getLsbD j = _
    rw [BitVec.getLsbD_ofNat, Nat.testBit_two_pow_sub_one]
    simp [hj]
  rw [Int32.toBitVec_and, BitVec.getLsbD_and, b3, b1, b2, b4, Nat.testBit_two_pow_mul_add _ (by omega), Nat.testBit_two_pow_mul_add _ (by omega)]
  split
  · rw [Nat.testBit_two_pow, Nat.testBit_two_pow_sub_one]
    by_cases hj2 : j < t
    · have a2 : ¬ t = j := by omega
      simp [hj2, a2]
    · simp [hj2]
  · have : ¬ j < t := by omega
    simp [this]
theorem own_c_l2i (a : Int64) (j : Nat) (h : j < 32) : own_c (a).toInt32 j = own_b a j := by
  show (a.toBitVec.signExtend 32).getLsbD j = a.toBitVec.getLsbD j
  rw [BitVec.getLsbD_signExtend]
  have : j < 64 := by omega
  simp [h, this]
theorem own_b_ushr (a : Int64) (j : Nat) : own_b ((a.toUInt64 >>> ((32 : Int32) &&& 0x3f).toInt64.toUInt64).toInt64) j = own_b a (32 + j) := by
  show (a.toBitVec >>> (((32 : Int32) &&& 0x3f).toInt64.toBitVec % 64)).getLsbD j = _
  rw [show ((32 : Int32) &&& 0x3f).toInt64.toBitVec % 64 = 32#64 by decide, BitVec.ushiftRight_eq', BitVec.getLsbD_ushiftRight]
  rfl
theorem own_c_0 (v : Int32) : v = 0 ↔ ∀ j, j < 32 → own_c v j = false := by
  constructor
  · rintro rfl j _; simp [own_c]
  · intro h
    apply Int32.toBitVec_inj.mp
    apply BitVec.eq_of_getLsbD_eq
    intro j hj
    have := h j hj
    simpa [own_c] using this
theorem own_lo {a : Int64} {t : Nat} (h1 : own_b a t = true) (h2 : ∀ j, j < t → own_b a j = false) (h : ¬ (a).toInt32 = 0) : t < 32 := by
  apply Classical.byContradiction
  intro hn
  apply h
  rw [own_c_0]
  intro j hj
  rw [own_c_l2i a j hj]
  exact h2 j (by omega)
theorem own_hi {a : Int64} {t : Nat} (h1 : own_b a t = true) (h : (a).toInt32 = 0) : 32 ≤ t := by
  apply Classical.byContradiction
  intro hn
  have := (own_c_0 _).mp h t (by omega)
  rw [own_c_l2i a t (by omega), h1] at this
  cases this


theorem own_inj {t c : Nat} (ht : t < 32) (hc : c < 32) (h : Int32.ofNat (2 ^ t - 1) = Int32.ofNat (2 ^ c - 1)) : t = c := by
  have key : ∀ a b : Fin 32, Int32.ofNat (2 ^ a.1 - 1) = Int32.ofNat (2 ^ b.1 - 1) → a.1 = b.1 := by decide +kernel
  exact key ⟨t, ht⟩ ⟨c, hc⟩ h
theorem own_dis {t : Nat} {y : Int32} (ht : t < 32) (h : y = Int32.ofNat (2 ^ t - 1)) : y = (0 : Int32) ∨ y = (1 : Int32) ∨ y = (3 : Int32) ∨ y = (7 : Int32) ∨ y = (15 : Int32) ∨ y = (31 : Int32) ∨ y = (63 : Int32) ∨ y = (127 : Int32) ∨ y = (255 : Int32) ∨ y = (511 : Int32) ∨ y = (1023 : Int32) ∨ y = (2047 : Int32) ∨ y = (4095 : Int32) ∨ y = (8191 : Int32) ∨ y = (16383 : Int32) ∨ y = (32767 : Int32) ∨ y = (65535 : Int32) ∨ y = (131071 : Int32) ∨ y = (262143 : Int32) ∨ y = (524287 : Int32) ∨ y = (1048575 : Int32) ∨ y = (2097151 : Int32) ∨ y = (4194303 : Int32) ∨ y = (8388607 : Int32) ∨ y = (16777215 : Int32) ∨ y = (33554431 : Int32) ∨ y = (67108863 : Int32) ∨ y = (134217727 : Int32) ∨ y = (268435455 : Int32) ∨ y = (536870911 : Int32) ∨ y = (1073741823 : Int32) ∨ y = (2147483647 : Int32) := by
  have key : ∀ a : Fin 32, Int32.ofNat (2 ^ a.1 - 1) = (0 : Int32) ∨ Int32.ofNat (2 ^ a.1 - 1) = (1 : Int32) ∨ Int32.ofNat (2 ^ a.1 - 1) = (3 : Int32) ∨ Int32.ofNat (2 ^ a.1 - 1) = (7 : Int32) ∨ Int32.ofNat (2 ^ a.1 - 1) = (15 : Int32) ∨ Int32.ofNat (2 ^ a.1 - 1) = (31 : Int32) ∨ Int32.ofNat (2 ^ a.1 - 1) = (63 : Int32) ∨ Int32.ofNat (2 ^ a.1 - 1) = (127 : Int32) ∨ Int32.ofNat (2 ^ a.1 - 1) = (255 : Int32) ∨ Int32.ofNat (2 ^ a.1 - 1) = (511 : Int32) ∨ Int32.ofNat (2 ^ a.1 - 1) = (1023 : Int32) ∨ Int32.ofNat (2 ^ a.1 - 1) = (2047 : Int32) ∨ Int32.ofNat (2 ^ a.1 - 1) = (4095 : Int32) ∨ Int32.ofNat (2 ^ a.1 - 1) = (8191 : Int32) ∨ Int32.ofNat (2 ^ a.1 - 1) = (16383 : Int32) ∨ Int32.ofNat (2 ^ a.1 - 1) = (32767 : Int32) ∨ Int32.ofNat (2 ^ a.1 - 1) = (65535 : Int32) ∨ Int32.ofNat (2 ^ a.1 - 1) = (131071 : Int32) ∨ Int32.ofNat (2 ^ a.1 - 1) = (262143 : Int32) ∨ Int32.ofNat (2 ^ a.1 - 1) = (524287 : Int32) ∨ Int32.ofNat (2 ^ a.1 - 1) = (1048575 : Int32) ∨ Int32.ofNat (2 ^ a.1 - 1) = (2097151 : Int32) ∨ Int32.ofNat (2 ^ a.1 - 1) = (4194303 : Int32) ∨ Int32.ofNat (2 ^ a.1 - 1) = (8388607 : Int32) ∨ Int32.ofNat (2 ^ a.1 - 1) = (16777215 : Int32) ∨ Int32.ofNat (2 ^ a.1 - 1) = (33554431 : Int32) ∨ Int32.ofNat (2 ^ a.1 - 1) = (67108863 : Int32) ∨ Int32.ofNat (2 ^ a.1 - 1) = (134217727 : Int32) ∨ Int32.ofNat (2 ^ a.1 - 1) = (268435455 : Int32) ∨ Int32.ofNat (2 ^ a.1 - 1) = (536870911 : Int32) ∨ Int32.ofNat (2 ^ a.1 - 1) = (1073741823 : Int32) ∨ Int32.ofNat (2 ^ a.1 - 1) = (2147483647 : Int32) := by decide +kernel
  subst h
  exact key ⟨t, ht⟩
theorem pn_1 : plainName "java/lang/Integer" = true := by first | (simp [plainName, overriddenIn]; done) | decide +kernel
theorem s14_0 : Nx b14 0 (.iload_n 0) 1 1 := ⟨by decide +kernel, rfl⟩
theorem s14_1 : Nx b14 1 (.iconst (-1)) 1 2 := ⟨by decide +kernel, rfl⟩
theorem s14_2 : Nx b14 2 (.ixor) 1 3 := ⟨by decide +kernel, rfl⟩
theorem s14_3 : Nx b14 3 (.iload_n 0) 1 4 := ⟨by decide +kernel, rfl⟩
theorem s14_4 : Nx b14 4 (.iconst 1) 1 5 := ⟨by decide +kernel, rfl⟩
theorem s14_5 : Nx b14 5 (.isub) 1 6 := ⟨by decide +kernel, rfl⟩
theorem s14_6 : Nx b14 6 (.iand) 1 7 := ⟨by decide +kernel, rfl⟩
theorem s14_7 : Nx b14 7 (.istore_n 0) 1 8 := ⟨by decide +kernel, rfl⟩
theorem s14_8 : Nx b14 8 (.iload_n 0) 1 9 := ⟨by decide +kernel, rfl⟩
theorem s14_9 : Bx b14 9 (.ifCond .gt) 17 12 := ⟨(8), by decide +kernel, by decide, by decide, rfl⟩
theorem s14_12 : Nx b14 12 (.iload_n 0) 1 13 := ⟨by decide +kernel, rfl⟩
theorem s14_13 : Nx b14 13 (.bipush 32) 2 15 := ⟨by decide +kernel, rfl⟩
theorem s14_15 : Nx b14 15 (.iand) 1 16 := ⟨by decide +kernel, rfl⟩
theorem s14_16 : Nx b14 16 (.ireturn) 1 17 := ⟨by decide +kernel, rfl⟩
theorem s14_17 : Nx b14 17 (.iconst 1) 1 18 := ⟨by decide +kernel, rfl⟩
theorem s14_18 : Nx b14 18 (.istore_n 1) 1 19 := ⟨by decide +kernel, rfl⟩
theorem s14_19 : Nx b14 19 (.iload_n 0) 1 20 := ⟨by decide +kernel, rfl⟩
theorem k_0 {Z : State} {a0 : Array Value} (hw : HW1 Z a0) : (Jvm.Cond.constant "java/lang/Integer" 264 (65536)).before a0 Z = true := (hw _ (List.mem_of_getElem? (i := 72) rfl))
theorem s14_20 : Nx b14 20 (.ldc_w 264) 3 23 := ⟨by decide +kernel, rfl⟩
theorem s14_23 : Bx b14 23 (.if_icmp .le) 34 26 := ⟨(11), by decide +kernel, by decide, by decide, rfl⟩
theorem s14_34 : Nx b14 34 (.iload_n 0) 1 35 := ⟨by decide +kernel, rfl⟩
theorem s14_35 : Nx b14 35 (.sipush 256) 3 38 := ⟨by decide +kernel, rfl⟩
theorem s14_38 : Bx b14 38 (.if_icmp .le) 49 41 := ⟨(11), by decide +kernel, by decide, by decide, rfl⟩
theorem s14_49 : Nx b14 49 (.iload_n 0) 1 50 := ⟨by decide +kernel, rfl⟩
theorem s14_50 : Nx b14 50 (.bipush 16) 2 52 := ⟨by decide +kernel, rfl⟩
theorem s14_52 : Bx b14 52 (.if_icmp .le) 62 55 := ⟨(10), by decide +kernel, by decide, by decide, rfl⟩
theorem s14_62 : Nx b14 62 (.iload_n 0) 1 63 := ⟨by decide +kernel, rfl⟩
theorem s14_63 : Nx b14 63 (.iconst 4) 1 64 := ⟨by decide +kernel, rfl⟩
theorem s14_64 : Bx b14 64 (.if_icmp .le) 74 67 := ⟨(10), by decide +kernel, by decide, by decide, rfl⟩
theorem s14_74 : Nx b14 74 (.iload_n 1) 1 75 := ⟨by decide +kernel, rfl⟩
theorem s14_75 : Nx b14 75 (.iload_n 0) 1 76 := ⟨by decide +kernel, rfl⟩
theorem s14_76 : Nx b14 76 (.iconst 1) 1 77 := ⟨by decide +kernel, rfl⟩
theorem s14_77 : Nx b14 77 (.iushr) 1 78 := ⟨by decide +kernel, rfl⟩
theorem s14_78 : Nx b14 78 (.iadd) 1 79 := ⟨by decide +kernel, rfl⟩
theorem s14_79 : Nx b14 79 (.ireturn) 1 80 := ⟨by decide +kernel, rfl⟩
theorem s14_67 : Nx b14 67 (.iinc 1 2) 3 70 := ⟨by decide +kernel, rfl⟩
theorem s14_70 : Nx b14 70 (.iload_n 0) 1 71 := ⟨by decide +kernel, rfl⟩
theorem s14_71 : Nx b14 71 (.iconst 2) 1 72 := ⟨by decide +kernel, rfl⟩
theorem s14_72 : Nx b14 72 (.iushr) 1 73 := ⟨by decide +kernel, rfl⟩
theorem s14_73 : Nx b14 73 (.istore_n 0) 1 74 := ⟨by decide +kernel, rfl⟩
theorem s14_55 : Nx b14 55 (.iinc 1 4) 3 58 := ⟨by decide +kernel, rfl⟩
theorem s14_58 : Nx b14 58 (.iload_n 0) 1 59 := ⟨by decide +kernel, rfl⟩
theorem s14_59 : Nx b14 59 (.iconst 4) 1 60 := ⟨by decide +kernel, rfl⟩
theorem s14_60 : Nx b14 60 (.iushr) 1 61 := ⟨by decide +kernel, rfl⟩
theorem s14_61 : Nx b14 61 (.istore_n 0) 1 62 := ⟨by decide +kernel, rfl⟩
theorem s14_41 : Nx b14 41 (.iinc 1 8) 3 44 := ⟨by decide +kernel, rfl⟩
theorem s14_44 : Nx b14 44 (.iload_n 0) 1 45 := ⟨by decide +kernel, rfl⟩
theorem s14_45 : Nx b14 45 (.bipush 8) 2 47 := ⟨by decide +kernel, rfl⟩
theorem s14_47 : Nx b14 47 (.iushr) 1 48 := ⟨by decide +kernel, rfl⟩
theorem s14_48 : Nx b14 48 (.istore_n 0) 1 49 := ⟨by decide +kernel, rfl⟩
theorem s14_26 : Nx b14 26 (.iinc 1 16) 3 29 := ⟨by decide +kernel, rfl⟩
theorem s14_29 : Nx b14 29 (.iload_n 0) 1 30 := ⟨by decide +kernel, rfl⟩
theorem s14_30 : Nx b14 30 (.bipush 16) 2 32 := ⟨by decide +kernel, rfl⟩
theorem s14_32 : Nx b14 32 (.iushr) 1 33 := ⟨by decide +kernel, rfl⟩
theorem s14_33 : Nx b14 33 (.istore_n 0) 1 34 := ⟨by decide +kernel, rfl⟩
theorem m_itz (l : Launch) {Z : State} {a0 : Array Value} (hw : HW1 Z a0) (n0 : Nat) (A : List Ob) (b : Int32) (t : Nat) (ht : t < 32) (h1 : own_c b t = true) (h2 : ∀ j, j < t → own_c b j = false) : Met l Z KT n0 y14 b14 2 (some .int) ({ frames := 0, cells := 0, slots := 0, locals := 0 } : Room) #[(.int b)] A (Is (some (.int (Int32.ofNat t))) A) := by
  refine Met.of (a0 := a0) (ls := #[.val (.int b), .unset]) (kok hw) (plainFor_of_name pn_1) (fun m => by first | (simp [entryFrame, mkF, argsToLocals, Value.category]; done) | rfl) (fun G H => ?_)
  refine H.iloadN s14_0 rfl ?_
  refine H.iconst s14_1 (v := (-1 : Int32)) (by decide) ?_
  refine H.ixor s14_2 rfl ?_
  refine H.iloadN s14_3 rfl ?_
  refine H.iconst s14_4 (v := (1 : Int32)) (by decide) ?_
  refine H.isub s14_5 rfl ?_
  rcases own_dis ht (own_tz b t ht h1 h2) with hz6 | hz6 | hz6 | hz6 | hz6 | hz6 | hz6 | hz6 | hz6 | hz6 | hz6 | hz6 | hz6 | hz6 | hz6 | hz6 | hz6 | hz6 | hz6 | hz6 | hz6 | hz6 | hz6 | hz6 | hz6 | hz6 | hz6 | hz6 | hz6 | hz6 | hz6 | hz6
  · refine H.iand s14_6 (w := (0 : Int32)) hz6 ?_
    refine H.istoreN s14_7 (ls' := #[.val (.int (0 : Int32)), .unset]) rfl ?_
    refine H.iloadN s14_8 rfl ?_
    refine H.ifF s14_9 (show ¬ (0 : Int32) < (0 : Int32) by decide) ?_
    refine H.iloadN s14_12 rfl ?_
    refine H.bipush s14_13 (v := (32 : Int32)) (by decide) ?_
    refine H.iand s14_15 (w := (0 : Int32)) (by decide) ?_
    exact H.ireturn s14_16 rfl (by simp) rfl ⟨by rw [own_inj (c := 0) ht (by decide) ((own_tz b t ht h1 h2).symm.trans hz6)]; rfl, rfl⟩ (by decide) (by decide)
  · refine H.iand s14_6 (w := (1 : Int32)) hz6 ?_
    refine H.istoreN s14_7 (ls' := #[.val (.int (1 : Int32)), .unset]) rfl ?_
    refine H.iloadN s14_8 rfl ?_
    refine H.ifT s14_9 (show (0 : Int32) < (1 : Int32) by decide) ?_
    refine H.iconst s14_17 (v := (1 : Int32)) (by decide) ?_
    refine H.istoreN s14_18 (ls' := #[.val (.int (1 : Int32)), .val (.int (1 : Int32))]) rfl ?_
    refine H.iloadN s14_19 rfl ?_
    refine H.ldcW s14_20 (k_0 hw) ?_
    refine H.icmpT s14_23 (show ¬ (65536 : Int32) < (1 : Int32) by decide) ?_
    refine H.iloadN s14_34 rfl ?_
    refine H.sipush s14_35 (v := (256 : Int32)) (by decide) ?_
    refine H.icmpT s14_38 (show ¬ (256 : Int32) < (1 : Int32) by decide) ?_
    refine H.iloadN s14_49 rfl ?_
    refine H.bipush s14_50 (v := (16 : Int32)) (by decide) ?_
    refine H.icmpT s14_52 (show ¬ (16 : Int32) < (1 : Int32) by decide) ?_
    refine H.iloadN s14_62 rfl ?_
    refine H.iconst s14_63 (v := (4 : Int32)) (by decide) ?_
    refine H.icmpT s14_64 (show ¬ (4 : Int32) < (1 : Int32) by decide) ?_
    refine H.iloadN s14_74 rfl ?_
    refine H.iloadN s14_75 rfl ?_
    refine H.iconst s14_76 (v := (1 : Int32)) (by decide) ?_
    refine H.iushr s14_77 (w := (0 : Int32)) (by decide) ?_
    refine H.iadd s14_78 (w := (1 : Int32)) (by decide) ?_
    exact H.ireturn s14_79 rfl (by simp) rfl ⟨by rw [own_inj (c := 1) ht (by decide) ((own_tz b t ht h1 h2).symm.trans hz6)]; rfl, rfl⟩ (by decide) (by decide)
  · refine H.iand s14_6 (w := (3 : Int32)) hz6 ?_
    refine H.istoreN s14_7 (ls' := #[.val (.int (3 : Int32)), .unset]) rfl ?_
    refine H.iloadN s14_8 rfl ?_
    refine H.ifT s14_9 (show (0 : Int32) < (3 : Int32) by decide) ?_
    refine H.iconst s14_17 (v := (1 : Int32)) (by decide) ?_
    refine H.istoreN s14_18 (ls' := #[.val (.int (3 : Int32)), .val (.int (1 : Int32))]) rfl ?_
    refine H.iloadN s14_19 rfl ?_
    refine H.ldcW s14_20 (k_0 hw) ?_
    refine H.icmpT s14_23 (show ¬ (65536 : Int32) < (3 : Int32) by decide) ?_
    refine H.iloadN s14_34 rfl ?_
    refine H.sipush s14_35 (v := (256 : Int32)) (by decide) ?_
    refine H.icmpT s14_38 (show ¬ (256 : Int32) < (3 : Int32) by decide) ?_
    refine H.iloadN s14_49 rfl ?_
    refine H.bipush s14_50 (v := (16 : Int32)) (by decide) ?_
    refine H.icmpT s14_52 (show ¬ (16 : Int32) < (3 : Int32) by decide) ?_
    refine H.iloadN s14_62 rfl ?_
    refine H.iconst s14_63 (v := (4 : Int32)) (by decide) ?_
    refine H.icmpT s14_64 (show ¬ (4 : Int32) < (3 : Int32) by decide) ?_
    refine H.iloadN s14_74 rfl ?_
    refine H.iloadN s14_75 rfl ?_
    refine H.iconst s14_76 (v := (1 : Int32)) (by decide) ?_
    refine H.iushr s14_77 (w := (1 : Int32)) (by decide) ?_
    refine H.iadd s14_78 (w := (2 : Int32)) (by decide) ?_
    exact H.ireturn s14_79 rfl (by simp) rfl ⟨by rw [own_inj (c := 2) ht (by decide) ((own_tz b t ht h1 h2).symm.trans hz6)]; rfl, rfl⟩ (by decide) (by decide)
  · refine H.iand s14_6 (w := (7 : Int32)) hz6 ?_
    refine H.istoreN s14_7 (ls' := #[.val (.int (7 : Int32)), .unset]) rfl ?_
    refine H.iloadN s14_8 rfl ?_
    refine H.ifT s14_9 (show (0 : Int32) < (7 : Int32) by decide) ?_
    refine H.iconst s14_17 (v := (1 : Int32)) (by decide) ?_
    refine H.istoreN s14_18 (ls' := #[.val (.int (7 : Int32)), .val (.int (1 : Int32))]) rfl ?_
    refine H.iloadN s14_19 rfl ?_
    refine H.ldcW s14_20 (k_0 hw) ?_
    refine H.icmpT s14_23 (show ¬ (65536 : Int32) < (7 : Int32) by decide) ?_
    refine H.iloadN s14_34 rfl ?_
    refine H.sipush s14_35 (v := (256 : Int32)) (by decide) ?_
    refine H.icmpT s14_38 (show ¬ (256 : Int32) < (7 : Int32) by decide) ?_
    refine H.iloadN s14_49 rfl ?_
    refine H.bipush s14_50 (v := (16 : Int32)) (by decide) ?_
    refine H.icmpT s14_52 (show ¬ (16 : Int32) < (7 : Int32) by decide) ?_
    refine H.iloadN s14_62 rfl ?_
    refine H.iconst s14_63 (v := (4 : Int32)) (by decide) ?_
    refine H.icmpF s14_64 (show (4 : Int32) < (7 : Int32) by decide) ?_
    refine H.iinc s14_67 rfl (w := (3 : Int32)) (by decide) (ls' := #[.val (.int (7 : Int32)), .val (.int (3 : Int32))]) rfl ?_
    refine H.iloadN s14_70 rfl ?_
    refine H.iconst s14_71 (v := (2 : Int32)) (by decide) ?_
    refine H.iushr s14_72 (w := (1 : Int32)) (by decide) ?_
    refine H.istoreN s14_73 (ls' := #[.val (.int (1 : Int32)), .val (.int (3 : Int32))]) rfl ?_
    refine H.iloadN s14_74 rfl ?_
    refine H.iloadN s14_75 rfl ?_
    refine H.iconst s14_76 (v := (1 : Int32)) (by decide) ?_
    refine H.iushr s14_77 (w := (0 : Int32)) (by decide) ?_
    refine H.iadd s14_78 (w := (3 : Int32)) (by decide) ?_
    exact H.ireturn s14_79 rfl (by simp) rfl ⟨by rw [own_inj (c := 3) ht (by decide) ((own_tz b t ht h1 h2).symm.trans hz6)]; rfl, rfl⟩ (by decide) (by decide)
  · refine H.iand s14_6 (w := (15 : Int32)) hz6 ?_
    refine H.istoreN s14_7 (ls' := #[.val (.int (15 : Int32)), .unset]) rfl ?_
    refine H.iloadN s14_8 rfl ?_
    refine H.ifT s14_9 (show (0 : Int32) < (15 : Int32) by decide) ?_
    refine H.iconst s14_17 (v := (1 : Int32)) (by decide) ?_
    refine H.istoreN s14_18 (ls' := #[.val (.int (15 : Int32)), .val (.int (1 : Int32))]) rfl ?_
    refine H.iloadN s14_19 rfl ?_
    refine H.ldcW s14_20 (k_0 hw) ?_
    refine H.icmpT s14_23 (show ¬ (65536 : Int32) < (15 : Int32) by decide) ?_
    refine H.iloadN s14_34 rfl ?_
    refine H.sipush s14_35 (v := (256 : Int32)) (by decide) ?_
    refine H.icmpT s14_38 (show ¬ (256 : Int32) < (15 : Int32) by decide) ?_
    refine H.iloadN s14_49 rfl ?_
    refine H.bipush s14_50 (v := (16 : Int32)) (by decide) ?_
    refine H.icmpT s14_52 (show ¬ (16 : Int32) < (15 : Int32) by decide) ?_
    refine H.iloadN s14_62 rfl ?_
    refine H.iconst s14_63 (v := (4 : Int32)) (by decide) ?_
    refine H.icmpF s14_64 (show (4 : Int32) < (15 : Int32) by decide) ?_
    refine H.iinc s14_67 rfl (w := (3 : Int32)) (by decide) (ls' := #[.val (.int (15 : Int32)), .val (.int (3 : Int32))]) rfl ?_
    refine H.iloadN s14_70 rfl ?_
    refine H.iconst s14_71 (v := (2 : Int32)) (by decide) ?_
    refine H.iushr s14_72 (w := (3 : Int32)) (by decide) ?_
    refine H.istoreN s14_73 (ls' := #[.val (.int (3 : Int32)), .val (.int (3 : Int32))]) rfl ?_
    refine H.iloadN s14_74 rfl ?_
    refine H.iloadN s14_75 rfl ?_
    refine H.iconst s14_76 (v := (1 : Int32)) (by decide) ?_
    refine H.iushr s14_77 (w := (1 : Int32)) (by decide) ?_
    refine H.iadd s14_78 (w := (4 : Int32)) (by decide) ?_
    exact H.ireturn s14_79 rfl (by simp) rfl ⟨by rw [own_inj (c := 4) ht (by decide) ((own_tz b t ht h1 h2).symm.trans hz6)]; rfl, rfl⟩ (by decide) (by decide)
  · refine H.iand s14_6 (w := (31 : Int32)) hz6 ?_
    refine H.istoreN s14_7 (ls' := #[.val (.int (31 : Int32)), .unset]) rfl ?_
    refine H.iloadN s14_8 rfl ?_
    refine H.ifT s14_9 (show (0 : Int32) < (31 : Int32) by decide) ?_
    refine H.iconst s14_17 (v := (1 : Int32)) (by decide) ?_
    refine H.istoreN s14_18 (ls' := #[.val (.int (31 : Int32)), .val (.int (1 : Int32))]) rfl ?_
    refine H.iloadN s14_19 rfl ?_
    refine H.ldcW s14_20 (k_0 hw) ?_
    refine H.icmpT s14_23 (show ¬ (65536 : Int32) < (31 : Int32) by decide) ?_
    refine H.iloadN s14_34 rfl ?_
    refine H.sipush s14_35 (v := (256 : Int32)) (by decide) ?_
    refine H.icmpT s14_38 (show ¬ (256 : Int32) < (31 : Int32) by decide) ?_
    refine H.iloadN s14_49 rfl ?_
    refine H.bipush s14_50 (v := (16 : Int32)) (by decide) ?_
    refine H.icmpF s14_52 (show (16 : Int32) < (31 : Int32) by decide) ?_
    refine H.iinc s14_55 rfl (w := (5 : Int32)) (by decide) (ls' := #[.val (.int (31 : Int32)), .val (.int (5 : Int32))]) rfl ?_
    refine H.iloadN s14_58 rfl ?_
    refine H.iconst s14_59 (v := (4 : Int32)) (by decide) ?_
    refine H.iushr s14_60 (w := (1 : Int32)) (by decide) ?_
    refine H.istoreN s14_61 (ls' := #[.val (.int (1 : Int32)), .val (.int (5 : Int32))]) rfl ?_
    refine H.iloadN s14_62 rfl ?_
    refine H.iconst s14_63 (v := (4 : Int32)) (by decide) ?_
    refine H.icmpT s14_64 (show ¬ (4 : Int32) < (1 : Int32) by decide) ?_
    refine H.iloadN s14_74 rfl ?_
    refine H.iloadN s14_75 rfl ?_
    refine H.iconst s14_76 (v := (1 : Int32)) (by decide) ?_
    refine H.iushr s14_77 (w := (0 : Int32)) (by decide) ?_
    refine H.iadd s14_78 (w := (5 : Int32)) (by decide) ?_
    exact H.ireturn s14_79 rfl (by simp) rfl ⟨by rw [own_inj (c := 5) ht (by decide) ((own_tz b t ht h1 h2).symm.trans hz6)]; rfl, rfl⟩ (by decide) (by decide)
  · refine H.iand s14_6 (w := (63 : Int32)) hz6 ?_
    refine H.istoreN s14_7 (ls' := #[.val (.int (63 : Int32)), .unset]) rfl ?_
    refine H.iloadN s14_8 rfl ?_
    refine H.ifT s14_9 (show (0 : Int32) < (63 : Int32) by decide) ?_
    refine H.iconst s14_17 (v := (1 : Int32)) (by decide) ?_
    refine H.istoreN s14_18 (ls' := #[.val (.int (63 : Int32)), .val (.int (1 : Int32))]) rfl ?_
    refine H.iloadN s14_19 rfl ?_
    refine H.ldcW s14_20 (k_0 hw) ?_
    refine H.icmpT s14_23 (show ¬ (65536 : Int32) < (63 : Int32) by decide) ?_
    refine H.iloadN s14_34 rfl ?_
    refine H.sipush s14_35 (v := (256 : Int32)) (by decide) ?_
    refine H.icmpT s14_38 (show ¬ (256 : Int32) < (63 : Int32) by decide) ?_
    refine H.iloadN s14_49 rfl ?_
    refine H.bipush s14_50 (v := (16 : Int32)) (by decide) ?_
    refine H.icmpF s14_52 (show (16 : Int32) < (63 : Int32) by decide) ?_
    refine H.iinc s14_55 rfl (w := (5 : Int32)) (by decide) (ls' := #[.val (.int (63 : Int32)), .val (.int (5 : Int32))]) rfl ?_
    refine H.iloadN s14_58 rfl ?_
    refine H.iconst s14_59 (v := (4 : Int32)) (by decide) ?_
    refine H.iushr s14_60 (w := (3 : Int32)) (by decide) ?_
    refine H.istoreN s14_61 (ls' := #[.val (.int (3 : Int32)), .val (.int (5 : Int32))]) rfl ?_
    refine H.iloadN s14_62 rfl ?_
    refine H.iconst s14_63 (v := (4 : Int32)) (by decide) ?_
    refine H.icmpT s14_64 (show ¬ (4 : Int32) < (3 : Int32) by decide) ?_
    refine H.iloadN s14_74 rfl ?_
    refine H.iloadN s14_75 rfl ?_
    refine H.iconst s14_76 (v := (1 : Int32)) (by decide) ?_
    refine H.iushr s14_77 (w := (1 : Int32)) (by decide) ?_
    refine H.iadd s14_78 (w := (6 : Int32)) (by decide) ?_
    exact H.ireturn s14_79 rfl (by simp) rfl ⟨by rw [own_inj (c := 6) ht (by decide) ((own_tz b t ht h1 h2).symm.trans hz6)]; rfl, rfl⟩ (by decide) (by decide)
  · refine H.iand s14_6 (w := (127 : Int32)) hz6 ?_
    refine H.istoreN s14_7 (ls' := #[.val (.int (127 : Int32)), .unset]) rfl ?_
    refine H.iloadN s14_8 rfl ?_
    refine H.ifT s14_9 (show (0 : Int32) < (127 : Int32) by decide) ?_
    refine H.iconst s14_17 (v := (1 : Int32)) (by decide) ?_
    refine H.istoreN s14_18 (ls' := #[.val (.int (127 : Int32)), .val (.int (1 : Int32))]) rfl ?_
    refine H.iloadN s14_19 rfl ?_
    refine H.ldcW s14_20 (k_0 hw) ?_
    refine H.icmpT s14_23 (show ¬ (65536 : Int32) < (127 : Int32) by decide) ?_
    refine H.iloadN s14_34 rfl ?_
    refine H.sipush s14_35 (v := (256 : Int32)) (by decide) ?_
    refine H.icmpT s14_38 (show ¬ (256 : Int32) < (127 : Int32) by decide) ?_
    refine H.iloadN s14_49 rfl ?_
    refine H.bipush s14_50 (v := (16 : Int32)) (by decide) ?_
    refine H.icmpF s14_52 (show (16 : Int32) < (127 : Int32) by decide) ?_
    refine H.iinc s14_55 rfl (w := (5 : Int32)) (by decide) (ls' := #[.val (.int (127 : Int32)), .val (.int (5 : Int32))]) rfl ?_
    refine H.iloadN s14_58 rfl ?_
    refine H.iconst s14_59 (v := (4 : Int32)) (by decide) ?_
    refine H.iushr s14_60 (w := (7 : Int32)) (by decide) ?_
    refine H.istoreN s14_61 (ls' := #[.val (.int (7 : Int32)), .val (.int (5 : Int32))]) rfl ?_
    refine H.iloadN s14_62 rfl ?_
    refine H.iconst s14_63 (v := (4 : Int32)) (by decide) ?_
    refine H.icmpF s14_64 (show (4 : Int32) < (7 : Int32) by decide) ?_
    refine H.iinc s14_67 rfl (w := (7 : Int32)) (by decide) (ls' := #[.val (.int (7 : Int32)), .val (.int (7 : Int32))]) rfl ?_
    refine H.iloadN s14_70 rfl ?_
    refine H.iconst s14_71 (v := (2 : Int32)) (by decide) ?_
    refine H.iushr s14_72 (w := (1 : Int32)) (by decide) ?_
    refine H.istoreN s14_73 (ls' := #[.val (.int (1 : Int32)), .val (.int (7 : Int32))]) rfl ?_
    refine H.iloadN s14_74 rfl ?_
    refine H.iloadN s14_75 rfl ?_
    refine H.iconst s14_76 (v := (1 : Int32)) (by decide) ?_
    refine H.iushr s14_77 (w := (0 : Int32)) (by decide) ?_
    refine H.iadd s14_78 (w := (7 : Int32)) (by decide) ?_
    exact H.ireturn s14_79 rfl (by simp) rfl ⟨by rw [own_inj (c := 7) ht (by decide) ((own_tz b t ht h1 h2).symm.trans hz6)]; rfl, rfl⟩ (by decide) (by decide)
  · refine H.iand s14_6 (w := (255 : Int32)) hz6 ?_
    refine H.istoreN s14_7 (ls' := #[.val (.int (255 : Int32)), .unset]) rfl ?_
    refine H.iloadN s14_8 rfl ?_
    refine H.ifT s14_9 (show (0 : Int32) < (255 : Int32) by decide) ?_
    refine H.iconst s14_17 (v := (1 : Int32)) (by decide) ?_
    refine H.istoreN s14_18 (ls' := #[.val (.int (255 : Int32)), .val (.int (1 : Int32))]) rfl ?_
    refine H.iloadN s14_19 rfl ?_
    refine H.ldcW s14_20 (k_0 hw) ?_
    refine H.icmpT s14_23 (show ¬ (65536 : Int32) < (255 : Int32) by decide) ?_
    refine H.iloadN s14_34 rfl ?_
    refine H.sipush s14_35 (v := (256 : Int32)) (by decide) ?_
    refine H.icmpT s14_38 (show ¬ (256 : Int32) < (255 : Int32) by decide) ?_
    refine H.iloadN s14_49 rfl ?_
    refine H.bipush s14_50 (v := (16 : Int32)) (by decide) ?_
    refine H.icmpF s14_52 (show (16 : Int32) < (255 : Int32) by decide) ?_
    refine H.iinc s14_55 rfl (w := (5 : Int32)) (by decide) (ls' := #[.val (.int (255 : Int32)), .val (.int (5 : Int32))]) rfl ?_
    refine H.iloadN s14_58 rfl ?_
    refine H.iconst s14_59 (v := (4 : Int32)) (by decide) ?_
    refine H.iushr s14_60 (w := (15 : Int32)) (by decide) ?_
    refine H.istoreN s14_61 (ls' := #[.val (.int (15 : Int32)), .val (.int (5 : Int32))]) rfl ?_
    refine H.iloadN s14_62 rfl ?_
    refine H.iconst s14_63 (v := (4 : Int32)) (by decide) ?_
    refine H.icmpF s14_64 (show (4 : Int32) < (15 : Int32) by decide) ?_
    refine H.iinc s14_67 rfl (w := (7 : Int32)) (by decide) (ls' := #[.val (.int (15 : Int32)), .val (.int (7 : Int32))]) rfl ?_
    refine H.iloadN s14_70 rfl ?_
    refine H.iconst s14_71 (v := (2 : Int32)) (by decide) ?_
    refine H.iushr s14_72 (w := (3 : Int32)) (by decide) ?_
    refine H.istoreN s14_73 (ls' := #[.val (.int (3 : Int32)), .val (.int (7 : Int32))]) rfl ?_
    refine H.iloadN s14_74 rfl ?_
    refine H.iloadN s14_75 rfl ?_
    refine H.iconst s14_76 (v := (1 : Int32)) (by decide) ?_
    refine H.iushr s14_77 (w := (1 : Int32)) (by decide) ?_
    refine H.iadd s14_78 (w := (8 : Int32)) (by decide) ?_
    exact H.ireturn s14_79 rfl (by simp) rfl ⟨by rw [own_inj (c := 8) ht (by decide) ((own_tz b t ht h1 h2).symm.trans hz6)]; rfl, rfl⟩ (by decide) (by decide)
  · refine H.iand s14_6 (w := (511 : Int32)) hz6 ?_
    refine H.istoreN s14_7 (ls' := #[.val (.int (511 : Int32)), .unset]) rfl ?_
    refine H.iloadN s14_8 rfl ?_
    refine H.ifT s14_9 (show (0 : Int32) < (511 : Int32) by decide) ?_
    refine H.iconst s14_17 (v := (1 : Int32)) (by decide) ?_
    refine H.istoreN s14_18 (ls' := #[.val (.int (511 : Int32)), .val (.int (1 : Int32))]) rfl ?_
    refine H.iloadN s14_19 rfl ?_
    refine H.ldcW s14_20 (k_0 hw) ?_
    refine H.icmpT s14_23 (show ¬ (65536 : Int32) < (511 : Int32) by decide) ?_
    refine H.iloadN s14_34 rfl ?_
    refine H.sipush s14_35 (v := (256 : Int32)) (by decide) ?_
    refine H.icmpF s14_38 (show (256 : Int32) < (511 : Int32) by decide) ?_
    refine H.iinc s14_41 rfl (w := (9 : Int32)) (by decide) (ls' := #[.val (.int (511 : Int32)), .val (.int (9 : Int32))]) rfl ?_
    refine H.iloadN s14_44 rfl ?_
    refine H.bipush s14_45 (v := (8 : Int32)) (by decide) ?_
    refine H.iushr s14_47 (w := (1 : Int32)) (by decide) ?_
    refine H.istoreN s14_48 (ls' := #[.val (.int (1 : Int32)), .val (.int (9 : Int32))]) rfl ?_
    refine H.iloadN s14_49 rfl ?_
    refine H.bipush s14_50 (v := (16 : Int32)) (by decide) ?_
    refine H.icmpT s14_52 (show ¬ (16 : Int32) < (1 : Int32) by decide) ?_
    refine H.iloadN s14_62 rfl ?_
    refine H.iconst s14_63 (v := (4 : Int32)) (by decide) ?_
    refine H.icmpT s14_64 (show ¬ (4 : Int32) < (1 : Int32) by decide) ?_
    refine H.iloadN s14_74 rfl ?_
    refine H.iloadN s14_75 rfl ?_
    refine H.iconst s14_76 (v := (1 : Int32)) (by decide) ?_
    refine H.iushr s14_77 (w := (0 : Int32)) (by decide) ?_
    refine H.iadd s14_78 (w := (9 : Int32)) (by decide) ?_
    exact H.ireturn s14_79 rfl (by simp) rfl ⟨by rw [own_inj (c := 9) ht (by decide) ((own_tz b t ht h1 h2).symm.trans hz6)]; rfl, rfl⟩ (by decide) (by decide)
  · refine H.iand s14_6 (w := (1023 : Int32)) hz6 ?_
    refine H.istoreN s14_7 (ls' := #[.val (.int (1023 : Int32)), .unset]) rfl ?_
    refine H.iloadN s14_8 rfl ?_
    refine H.ifT s14_9 (show (0 : Int32) < (1023 : Int32) by decide) ?_
    refine H.iconst s14_17 (v := (1 : Int32)) (by decide) ?_
    refine H.istoreN s14_18 (ls' := #[.val (.int (1023 : Int32)), .val (.int (1 : Int32))]) rfl ?_
    refine H.iloadN s14_19 rfl ?_
    refine H.ldcW s14_20 (k_0 hw) ?_
    refine H.icmpT s14_23 (show ¬ (65536 : Int32) < (1023 : Int32) by decide) ?_
    refine H.iloadN s14_34 rfl ?_
    refine H.sipush s14_35 (v := (256 : Int32)) (by decide) ?_
    refine H.icmpF s14_38 (show (256 : Int32) < (1023 : Int32) by decide) ?_
    refine H.iinc s14_41 rfl (w := (9 : Int32)) (by decide) (ls' := #[.val (.int (1023 : Int32)), .val (.int (9 : Int32))]) rfl ?_
    refine H.iloadN s14_44 rfl ?_
    refine H.bipush s14_45 (v := (8 : Int32)) (by decide) ?_
    refine H.iushr s14_47 (w := (3 : Int32)) (by decide) ?_
    refine H.istoreN s14_48 (ls' := #[.val (.int (3 : Int32)), .val (.int (9 : Int32))]) rfl ?_
    refine H.iloadN s14_49 rfl ?_
    refine H.bipush s14_50 (v := (16 : Int32)) (by decide) ?_
    refine H.icmpT s14_52 (show ¬ (16 : Int32) < (3 : Int32) by decide) ?_
    refine H.iloadN s14_62 rfl ?_
    refine H.iconst s14_63 (v := (4 : Int32)) (by decide) ?_
    refine H.icmpT s14_64 (show ¬ (4 : Int32) < (3 : Int32) by decide) ?_
    refine H.iloadN s14_74 rfl ?_
    refine H.iloadN s14_75 rfl ?_
    refine H.iconst s14_76 (v := (1 : Int32)) (by decide) ?_
    refine H.iushr s14_77 (w := (1 : Int32)) (by decide) ?_
    refine H.iadd s14_78 (w := (10 : Int32)) (by decide) ?_
    exact H.ireturn s14_79 rfl (by simp) rfl ⟨by rw [own_inj (c := 10) ht (by decide) ((own_tz b t ht h1 h2).symm.trans hz6)]; rfl, rfl⟩ (by decide) (by decide)
  · refine H.iand s14_6 (w := (2047 : Int32)) hz6 ?_
    refine H.istoreN s14_7 (ls' := #[.val (.int (2047 : Int32)), .unset]) rfl ?_
    refine H.iloadN s14_8 rfl ?_
    refine H.ifT s14_9 (show (0 : Int32) < (2047 : Int32) by decide) ?_
    refine H.iconst s14_17 (v := (1 : Int32)) (by decide) ?_
    refine H.istoreN s14_18 (ls' := #[.val (.int (2047 : Int32)), .val (.int (1 : Int32))]) rfl ?_
    refine H.iloadN s14_19 rfl ?_
    refine H.ldcW s14_20 (k_0 hw) ?_
    refine H.icmpT s14_23 (show ¬ (65536 : Int32) < (2047 : Int32) by decide) ?_
    refine H.iloadN s14_34 rfl ?_
    refine H.sipush s14_35 (v := (256 : Int32)) (by decide) ?_
    refine H.icmpF s14_38 (show (256 : Int32) < (2047 : Int32) by decide) ?_
    refine H.iinc s14_41 rfl (w := (9 : Int32)) (by decide) (ls' := #[.val (.int (2047 : Int32)), .val (.int (9 : Int32))]) rfl ?_
    refine H.iloadN s14_44 rfl ?_
    refine H.bipush s14_45 (v := (8 : Int32)) (by decide) ?_
    refine H.iushr s14_47 (w := (7 : Int32)) (by decide) ?_
    refine H.istoreN s14_48 (ls' := #[.val (.int (7 : Int32)), .val (.int (9 : Int32))]) rfl ?_
    refine H.iloadN s14_49 rfl ?_
    refine H.bipush s14_50 (v := (16 : Int32)) (by decide) ?_
    refine H.icmpT s14_52 (show ¬ (16 : Int32) < (7 : Int32) by decide) ?_
    refine H.iloadN s14_62 rfl ?_
    refine H.iconst s14_63 (v := (4 : Int32)) (by decide) ?_
    refine H.icmpF s14_64 (show (4 : Int32) < (7 : Int32) by decide) ?_
    refine H.iinc s14_67 rfl (w := (11 : Int32)) (by decide) (ls' := #[.val (.int (7 : Int32)), .val (.int (11 : Int32))]) rfl ?_
    refine H.iloadN s14_70 rfl ?_
    refine H.iconst s14_71 (v := (2 : Int32)) (by decide) ?_
    refine H.iushr s14_72 (w := (1 : Int32)) (by decide) ?_
    refine H.istoreN s14_73 (ls' := #[.val (.int (1 : Int32)), .val (.int (11 : Int32))]) rfl ?_
    refine H.iloadN s14_74 rfl ?_
    refine H.iloadN s14_75 rfl ?_
    refine H.iconst s14_76 (v := (1 : Int32)) (by decide) ?_
    refine H.iushr s14_77 (w := (0 : Int32)) (by decide) ?_
    refine H.iadd s14_78 (w := (11 : Int32)) (by decide) ?_
    exact H.ireturn s14_79 rfl (by simp) rfl ⟨by rw [own_inj (c := 11) ht (by decide) ((own_tz b t ht h1 h2).symm.trans hz6)]; rfl, rfl⟩ (by decide) (by decide)
  · refine H.iand s14_6 (w := (4095 : Int32)) hz6 ?_
    refine H.istoreN s14_7 (ls' := #[.val (.int (4095 : Int32)), .unset]) rfl ?_
    refine H.iloadN s14_8 rfl ?_
    refine H.ifT s14_9 (show (0 : Int32) < (4095 : Int32) by decide) ?_
    refine H.iconst s14_17 (v := (1 : Int32)) (by decide) ?_
    refine H.istoreN s14_18 (ls' := #[.val (.int (4095 : Int32)), .val (.int (1 : Int32))]) rfl ?_
    refine H.iloadN s14_19 rfl ?_
    refine H.ldcW s14_20 (k_0 hw) ?_
    refine H.icmpT s14_23 (show ¬ (65536 : Int32) < (4095 : Int32) by decide) ?_
    refine H.iloadN s14_34 rfl ?_
    refine H.sipush s14_35 (v := (256 : Int32)) (by decide) ?_
    refine H.icmpF s14_38 (show (256 : Int32) < (4095 : Int32) by decide) ?_
    refine H.iinc s14_41 rfl (w := (9 : Int32)) (by decide) (ls' := #[.val (.int (4095 : Int32)), .val (.int (9 : Int32))]) rfl ?_
    refine H.iloadN s14_44 rfl ?_
    refine H.bipush s14_45 (v := (8 : Int32)) (by decide) ?_
    refine H.iushr s14_47 (w := (15 : Int32)) (by decide) ?_
    refine H.istoreN s14_48 (ls' := #[.val (.int (15 : Int32)), .val (.int (9 : Int32))]) rfl ?_
    refine H.iloadN s14_49 rfl ?_
    refine H.bipush s14_50 (v := (16 : Int32)) (by decide) ?_
    refine H.icmpT s14_52 (show ¬ (16 : Int32) < (15 : Int32) by decide) ?_
    refine H.iloadN s14_62 rfl ?_
    refine H.iconst s14_63 (v := (4 : Int32)) (by decide) ?_
    refine H.icmpF s14_64 (show (4 : Int32) < (15 : Int32) by decide) ?_
    refine H.iinc s14_67 rfl (w := (11 : Int32)) (by decide) (ls' := #[.val (.int (15 : Int32)), .val (.int (11 : Int32))]) rfl ?_
    refine H.iloadN s14_70 rfl ?_
    refine H.iconst s14_71 (v := (2 : Int32)) (by decide) ?_
    refine H.iushr s14_72 (w := (3 : Int32)) (by decide) ?_
    refine H.istoreN s14_73 (ls' := #[.val (.int (3 : Int32)), .val (.int (11 : Int32))]) rfl ?_
    refine H.iloadN s14_74 rfl ?_
    refine H.iloadN s14_75 rfl ?_
    refine H.iconst s14_76 (v := (1 : Int32)) (by decide) ?_
    refine H.iushr s14_77 (w := (1 : Int32)) (by decide) ?_
    refine H.iadd s14_78 (w := (12 : Int32)) (by decide) ?_
    exact H.ireturn s14_79 rfl (by simp) rfl ⟨by rw [own_inj (c := 12) ht (by decide) ((own_tz b t ht h1 h2).symm.trans hz6)]; rfl, rfl⟩ (by decide) (by decide)
  · refine H.iand s14_6 (w := (8191 : Int32)) hz6 ?_
    refine H.istoreN s14_7 (ls' := #[.val (.int (8191 : Int32)), .unset]) rfl ?_
    refine H.iloadN s14_8 rfl ?_
    refine H.ifT s14_9 (show (0 : Int32) < (8191 : Int32) by decide) ?_
    refine H.iconst s14_17 (v := (1 : Int32)) (by decide) ?_
    refine H.istoreN s14_18 (ls' := #[.val (.int (8191 : Int32)), .val (.int (1 : Int32))]) rfl ?_
    refine H.iloadN s14_19 rfl ?_
    refine H.ldcW s14_20 (k_0 hw) ?_
    refine H.icmpT s14_23 (show ¬ (65536 : Int32) < (8191 : Int32) by decide) ?_
    refine H.iloadN s14_34 rfl ?_
    refine H.sipush s14_35 (v := (256 : Int32)) (by decide) ?_
    refine H.icmpF s14_38 (show (256 : Int32) < (8191 : Int32) by decide) ?_
    refine H.iinc s14_41 rfl (w := (9 : Int32)) (by decide) (ls' := #[.val (.int (8191 : Int32)), .val (.int (9 : Int32))]) rfl ?_
    refine H.iloadN s14_44 rfl ?_
    refine H.bipush s14_45 (v := (8 : Int32)) (by decide) ?_
    refine H.iushr s14_47 (w := (31 : Int32)) (by decide) ?_
    refine H.istoreN s14_48 (ls' := #[.val (.int (31 : Int32)), .val (.int (9 : Int32))]) rfl ?_
    refine H.iloadN s14_49 rfl ?_
    refine H.bipush s14_50 (v := (16 : Int32)) (by decide) ?_
    refine H.icmpF s14_52 (show (16 : Int32) < (31 : Int32) by decide) ?_
    refine H.iinc s14_55 rfl (w := (13 : Int32)) (by decide) (ls' := #[.val (.int (31 : Int32)), .val (.int (13 : Int32))]) rfl ?_
    refine H.iloadN s14_58 rfl ?_
    refine H.iconst s14_59 (v := (4 : Int32)) (by decide) ?_
    refine H.iushr s14_60 (w := (1 : Int32)) (by decide) ?_
    refine H.istoreN s14_61 (ls' := #[.val (.int (1 : Int32)), .val (.int (13 : Int32))]) rfl ?_
    refine H.iloadN s14_62 rfl ?_
    refine H.iconst s14_63 (v := (4 : Int32)) (by decide) ?_
    refine H.icmpT s14_64 (show ¬ (4 : Int32) < (1 : Int32) by decide) ?_
    refine H.iloadN s14_74 rfl ?_
    refine H.iloadN s14_75 rfl ?_
    refine H.iconst s14_76 (v := (1 : Int32)) (by decide) ?_
    refine H.iushr s14_77 (w := (0 : Int32)) (by decide) ?_
    refine H.iadd s14_78 (w := (13 : Int32)) (by decide) ?_
    exact H.ireturn s14_79 rfl (by simp) rfl ⟨by rw [own_inj (c := 13) ht (by decide) ((own_tz b t ht h1 h2).symm.trans hz6)]; rfl, rfl⟩ (by decide) (by decide)
  · refine H.iand s14_6 (w := (16383 : Int32)) hz6 ?_
    refine H.istoreN s14_7 (ls' := #[.val (.int (16383 : Int32)), .unset]) rfl ?_
    refine H.iloadN s14_8 rfl ?_
    refine H.ifT s14_9 (show (0 : Int32) < (16383 : Int32) by decide) ?_
    refine H.iconst s14_17 (v := (1 : Int32)) (by decide) ?_
    refine H.istoreN s14_18 (ls' := #[.val (.int (16383 : Int32)), .val (.int (1 : Int32))]) rfl ?_
    refine H.iloadN s14_19 rfl ?_
    refine H.ldcW s14_20 (k_0 hw) ?_
    refine H.icmpT s14_23 (show ¬ (65536 : Int32) < (16383 : Int32) by decide) ?_
    refine H.iloadN s14_34 rfl ?_
    refine H.sipush s14_35 (v := (256 : Int32)) (by decide) ?_
    refine H.icmpF s14_38 (show (256 : Int32) < (16383 : Int32) by decide) ?_
    refine H.iinc s14_41 rfl (w := (9 : Int32)) (by decide) (ls' := #[.val (.int (16383 : Int32)), .val (.int (9 : Int32))]) rfl ?_
    refine H.iloadN s14_44 rfl ?_
    refine H.bipush s14_45 (v := (8 : Int32)) (by decide) ?_
    refine H.iushr s14_47 (w := (63 : Int32)) (by decide) ?_
    refine H.istoreN s14_48 (ls' := #[.val (.int (63 : Int32)), .val (.int (9 : Int32))]) rfl ?_
    refine H.iloadN s14_49 rfl ?_
    refine H.bipush s14_50 (v := (16 : Int32)) (by decide) ?_
    refine H.icmpF s14_52 (show (16 : Int32) < (63 : Int32) by decide) ?_
    refine H.iinc s14_55 rfl (w := (13 : Int32)) (by decide) (ls' := #[.val (.int (63 : Int32)), .val (.int (13 : Int32))]) rfl ?_
    refine H.iloadN s14_58 rfl ?_
    refine H.iconst s14_59 (v := (4 : Int32)) (by decide) ?_
    refine H.iushr s14_60 (w := (3 : Int32)) (by decide) ?_
    refine H.istoreN s14_61 (ls' := #[.val (.int (3 : Int32)), .val (.int (13 : Int32))]) rfl ?_
    refine H.iloadN s14_62 rfl ?_
    refine H.iconst s14_63 (v := (4 : Int32)) (by decide) ?_
    refine H.icmpT s14_64 (show ¬ (4 : Int32) < (3 : Int32) by decide) ?_
    refine H.iloadN s14_74 rfl ?_
    refine H.iloadN s14_75 rfl ?_
    refine H.iconst s14_76 (v := (1 : Int32)) (by decide) ?_
    refine H.iushr s14_77 (w := (1 : Int32)) (by decide) ?_
    refine H.iadd s14_78 (w := (14 : Int32)) (by decide) ?_
    exact H.ireturn s14_79 rfl (by simp) rfl ⟨by rw [own_inj (c := 14) ht (by decide) ((own_tz b t ht h1 h2).symm.trans hz6)]; rfl, rfl⟩ (by decide) (by decide)
  · refine H.iand s14_6 (w := (32767 : Int32)) hz6 ?_
    refine H.istoreN s14_7 (ls' := #[.val (.int (32767 : Int32)), .unset]) rfl ?_
    refine H.iloadN s14_8 rfl ?_
    refine H.ifT s14_9 (show (0 : Int32) < (32767 : Int32) by decide) ?_
    refine H.iconst s14_17 (v := (1 : Int32)) (by decide) ?_
    refine H.istoreN s14_18 (ls' := #[.val (.int (32767 : Int32)), .val (.int (1 : Int32))]) rfl ?_
    refine H.iloadN s14_19 rfl ?_
    refine H.ldcW s14_20 (k_0 hw) ?_
    refine H.icmpT s14_23 (show ¬ (65536 : Int32) < (32767 : Int32) by decide) ?_
    refine H.iloadN s14_34 rfl ?_
    refine H.sipush s14_35 (v := (256 : Int32)) (by decide) ?_
    refine H.icmpF s14_38 (show (256 : Int32) < (32767 : Int32) by decide) ?_
    refine H.iinc s14_41 rfl (w := (9 : Int32)) (by decide) (ls' := #[.val (.int (32767 : Int32)), .val (.int (9 : Int32))]) rfl ?_
    refine H.iloadN s14_44 rfl ?_
    refine H.bipush s14_45 (v := (8 : Int32)) (by decide) ?_
    refine H.iushr s14_47 (w := (127 : Int32)) (by decide) ?_
    refine H.istoreN s14_48 (ls' := #[.val (.int (127 : Int32)), .val (.int (9 : Int32))]) rfl ?_
    refine H.iloadN s14_49 rfl ?_
    refine H.bipush s14_50 (v := (16 : Int32)) (by decide) ?_
    refine H.icmpF s14_52 (show (16 : Int32) < (127 : Int32) by decide) ?_
    refine H.iinc s14_55 rfl (w := (13 : Int32)) (by decide) (ls' := #[.val (.int (127 : Int32)), .val (.int (13 : Int32))]) rfl ?_
    refine H.iloadN s14_58 rfl ?_
    refine H.iconst s14_59 (v := (4 : Int32)) (by decide) ?_
    refine H.iushr s14_60 (w := (7 : Int32)) (by decide) ?_
    refine H.istoreN s14_61 (ls' := #[.val (.int (7 : Int32)), .val (.int (13 : Int32))]) rfl ?_
    refine H.iloadN s14_62 rfl ?_
    refine H.iconst s14_63 (v := (4 : Int32)) (by decide) ?_
    refine H.icmpF s14_64 (show (4 : Int32) < (7 : Int32) by decide) ?_
    refine H.iinc s14_67 rfl (w := (15 : Int32)) (by decide) (ls' := #[.val (.int (7 : Int32)), .val (.int (15 : Int32))]) rfl ?_
    refine H.iloadN s14_70 rfl ?_
    refine H.iconst s14_71 (v := (2 : Int32)) (by decide) ?_
    refine H.iushr s14_72 (w := (1 : Int32)) (by decide) ?_
    refine H.istoreN s14_73 (ls' := #[.val (.int (1 : Int32)), .val (.int (15 : Int32))]) rfl ?_
    refine H.iloadN s14_74 rfl ?_
    refine H.iloadN s14_75 rfl ?_
    refine H.iconst s14_76 (v := (1 : Int32)) (by decide) ?_
    refine H.iushr s14_77 (w := (0 : Int32)) (by decide) ?_
    refine H.iadd s14_78 (w := (15 : Int32)) (by decide) ?_
    exact H.ireturn s14_79 rfl (by simp) rfl ⟨by rw [own_inj (c := 15) ht (by decide) ((own_tz b t ht h1 h2).symm.trans hz6)]; rfl, rfl⟩ (by decide) (by decide)
  · refine H.iand s14_6 (w := (65535 : Int32)) hz6 ?_
    refine H.istoreN s14_7 (ls' := #[.val (.int (65535 : Int32)), .unset]) rfl ?_
    refine H.iloadN s14_8 rfl ?_
    refine H.ifT s14_9 (show (0 : Int32) < (65535 : Int32) by decide) ?_
    refine H.iconst s14_17 (v := (1 : Int32)) (by decide) ?_
    refine H.istoreN s14_18 (ls' := #[.val (.int (65535 : Int32)), .val (.int (1 : Int32))]) rfl ?_
    refine H.iloadN s14_19 rfl ?_
    refine H.ldcW s14_20 (k_0 hw) ?_
    refine H.icmpT s14_23 (show ¬ (65536 : Int32) < (65535 : Int32) by decide) ?_
    refine H.iloadN s14_34 rfl ?_
    refine H.sipush s14_35 (v := (256 : Int32)) (by decide) ?_
    refine H.icmpF s14_38 (show (256 : Int32) < (65535 : Int32) by decide) ?_
    refine H.iinc s14_41 rfl (w := (9 : Int32)) (by decide) (ls' := #[.val (.int (65535 : Int32)), .val (.int (9 : Int32))]) rfl ?_
    refine H.iloadN s14_44 rfl ?_
    refine H.bipush s14_45 (v := (8 : Int32)) (by decide) ?_
    refine H.iushr s14_47 (w := (255 : Int32)) (by decide) ?_
    refine H.istoreN s14_48 (ls' := #[.val (.int (255 : Int32)), .val (.int (9 : Int32))]) rfl ?_
    refine H.iloadN s14_49 rfl ?_
    refine H.bipush s14_50 (v := (16 : Int32)) (by decide) ?_
    refine H.icmpF s14_52 (show (16 : Int32) < (255 : Int32) by decide) ?_
    refine H.iinc s14_55 rfl (w := (13 : Int32)) (by decide) (ls' := #[.val (.int (255 : Int32)), .val (.int (13 : Int32))]) rfl ?_
    refine H.iloadN s14_58 rfl ?_
    refine H.iconst s14_59 (v := (4 : Int32)) (by decide) ?_
    refine H.iushr s14_60 (w := (15 : Int32)) (by decide) ?_
    refine H.istoreN s14_61 (ls' := #[.val (.int (15 : Int32)), .val (.int (13 : Int32))]) rfl ?_
    refine H.iloadN s14_62 rfl ?_
    refine H.iconst s14_63 (v := (4 : Int32)) (by decide) ?_
    refine H.icmpF s14_64 (show (4 : Int32) < (15 : Int32) by decide) ?_
    refine H.iinc s14_67 rfl (w := (15 : Int32)) (by decide) (ls' := #[.val (.int (15 : Int32)), .val (.int (15 : Int32))]) rfl ?_
    refine H.iloadN s14_70 rfl ?_
    refine H.iconst s14_71 (v := (2 : Int32)) (by decide) ?_
    refine H.iushr s14_72 (w := (3 : Int32)) (by decide) ?_
    refine H.istoreN s14_73 (ls' := #[.val (.int (3 : Int32)), .val (.int (15 : Int32))]) rfl ?_
    refine H.iloadN s14_74 rfl ?_
    refine H.iloadN s14_75 rfl ?_
    refine H.iconst s14_76 (v := (1 : Int32)) (by decide) ?_
    refine H.iushr s14_77 (w := (1 : Int32)) (by decide) ?_
    refine H.iadd s14_78 (w := (16 : Int32)) (by decide) ?_
    exact H.ireturn s14_79 rfl (by simp) rfl ⟨by rw [own_inj (c := 16) ht (by decide) ((own_tz b t ht h1 h2).symm.trans hz6)]; rfl, rfl⟩ (by decide) (by decide)
  · refine H.iand s14_6 (w := (131071 : Int32)) hz6 ?_
    refine H.istoreN s14_7 (ls' := #[.val (.int (131071 : Int32)), .unset]) rfl ?_
    refine H.iloadN s14_8 rfl ?_
    refine H.ifT s14_9 (show (0 : Int32) < (131071 : Int32) by decide) ?_
    refine H.iconst s14_17 (v := (1 : Int32)) (by decide) ?_
    refine H.istoreN s14_18 (ls' := #[.val (.int (131071 : Int32)), .val (.int (1 : Int32))]) rfl ?_
    refine H.iloadN s14_19 rfl ?_
    refine H.ldcW s14_20 (k_0 hw) ?_
    refine H.icmpF s14_23 (show (65536 : Int32) < (131071 : Int32) by decide) ?_
    refine H.iinc s14_26 rfl (w := (17 : Int32)) (by decide) (ls' := #[.val (.int (131071 : Int32)), .val (.int (17 : Int32))]) rfl ?_
    refine H.iloadN s14_29 rfl ?_
    refine H.bipush s14_30 (v := (16 : Int32)) (by decide) ?_
    refine H.iushr s14_32 (w := (1 : Int32)) (by decide) ?_
    refine H.istoreN s14_33 (ls' := #[.val (.int (1 : Int32)), .val (.int (17 : Int32))]) rfl ?_
    refine H.iloadN s14_34 rfl ?_
    refine H.sipush s14_35 (v := (256 : Int32)) (by decide) ?_
    refine H.icmpT s14_38 (show ¬ (256 : Int32) < (1 : Int32) by decide) ?_
    refine H.iloadN s14_49 rfl ?_
    refine H.bipush s14_50 (v := (16 : Int32)) (by decide) ?_
    refine H.icmpT s14_52 (show ¬ (16 : Int32) < (1 : Int32) by decide) ?_
    refine H.iloadN s14_62 rfl ?_
    refine H.iconst s14_63 (v := (4 : Int32)) (by decide) ?_
    refine H.icmpT s14_64 (show ¬ (4 : Int32) < (1 : Int32) by decide) ?_
    refine H.iloadN s14_74 rfl ?_
    refine H.iloadN s14_75 rfl ?_
    refine H.iconst s14_76 (v := (1 : Int32)) (by decide) ?_
    refine H.iushr s14_77 (w := (0 : Int32)) (by decide) ?_
    refine H.iadd s14_78 (w := (17 : Int32)) (by decide) ?_
    exact H.ireturn s14_79 rfl (by simp) rfl ⟨by rw [own_inj (c := 17) ht (by decide) ((own_tz b t ht h1 h2).symm.trans hz6)]; rfl, rfl⟩ (by decide) (by decide)
  · refine H.iand s14_6 (w := (262143 : Int32)) hz6 ?_
    refine H.istoreN s14_7 (ls' := #[.val (.int (262143 : Int32)), .unset]) rfl ?_
    refine H.iloadN s14_8 rfl ?_
    refine H.ifT s14_9 (show (0 : Int32) < (262143 : Int32) by decide) ?_
    refine H.iconst s14_17 (v := (1 : Int32)) (by decide) ?_
    refine H.istoreN s14_18 (ls' := #[.val (.int (262143 : Int32)), .val (.int (1 : Int32))]) rfl ?_
    refine H.iloadN s14_19 rfl ?_
    refine H.ldcW s14_20 (k_0 hw) ?_
    refine H.icmpF s14_23 (show (65536 : Int32) < (262143 : Int32) by decide) ?_
    refine H.iinc s14_26 rfl (w := (17 : Int32)) (by decide) (ls' := #[.val (.int (262143 : Int32)), .val (.int (17 : Int32))]) rfl ?_
    refine H.iloadN s14_29 rfl ?_
    refine H.bipush s14_30 (v := (16 : Int32)) (by decide) ?_
    refine H.iushr s14_32 (w := (3 : Int32)) (by decide) ?_
    refine H.istoreN s14_33 (ls' := #[.val (.int (3 : Int32)), .val (.int (17 : Int32))]) rfl ?_
    refine H.iloadN s14_34 rfl ?_
    refine H.sipush s14_35 (v := (256 : Int32)) (by decide) ?_
    refine H.icmpT s14_38 (show ¬ (256 : Int32) < (3 : Int32) by decide) ?_
    refine H.iloadN s14_49 rfl ?_
    refine H.bipush s14_50 (v := (16 : Int32)) (by decide) ?_
    refine H.icmpT s14_52 (show ¬ (16 : Int32) < (3 : Int32) by decide) ?_
    refine H.iloadN s14_62 rfl ?_
    refine H.iconst s14_63 (v := (4 : Int32)) (by decide) ?_
    refine H.icmpT s14_64 (show ¬ (4 : Int32) < (3 : Int32) by decide) ?_
    refine H.iloadN s14_74 rfl ?_
    refine H.iloadN s14_75 rfl ?_
    refine H.iconst s14_76 (v := (1 : Int32)) (by decide) ?_
    refine H.iushr s14_77 (w := (1 : Int32)) (by decide) ?_
    refine H.iadd s14_78 (w := (18 : Int32)) (by decide) ?_
    exact H.ireturn s14_79 rfl (by simp) rfl ⟨by rw [own_inj (c := 18) ht (by decide) ((own_tz b t ht h1 h2).symm.trans hz6)]; rfl, rfl⟩ (by decide) (by decide)
  · refine H.iand s14_6 (w := (524287 : Int32)) hz6 ?_
    refine H.istoreN s14_7 (ls' := #[.val (.int (524287 : Int32)), .unset]) rfl ?_
    refine H.iloadN s14_8 rfl ?_
    refine H.ifT s14_9 (show (0 : Int32) < (524287 : Int32) by decide) ?_
    refine H.iconst s14_17 (v := (1 : Int32)) (by decide) ?_
    refine H.istoreN s14_18 (ls' := #[.val (.int (524287 : Int32)), .val (.int (1 : Int32))]) rfl ?_
    refine H.iloadN s14_19 rfl ?_
    refine H.ldcW s14_20 (k_0 hw) ?_
    refine H.icmpF s14_23 (show (65536 : Int32) < (524287 : Int32) by decide) ?_
    refine H.iinc s14_26 rfl (w := (17 : Int32)) (by decide) (ls' := #[.val (.int (524287 : Int32)), .val (.int (17 : Int32))]) rfl ?_
    refine H.iloadN s14_29 rfl ?_
    refine H.bipush s14_30 (v := (16 : Int32)) (by decide) ?_
    refine H.iushr s14_32 (w := (7 : Int32)) (by decide) ?_
    refine H.istoreN s14_33 (ls' := #[.val (.int (7 : Int32)), .val (.int (17 : Int32))]) rfl ?_
    refine H.iloadN s14_34 rfl ?_
    refine H.sipush s14_35 (v := (256 : Int32)) (by decide) ?_
    refine H.icmpT s14_38 (show ¬ (256 : Int32) < (7 : Int32) by decide) ?_
    refine H.iloadN s14_49 rfl ?_
    refine H.bipush s14_50 (v := (16 : Int32)) (by decide) ?_
    refine H.icmpT s14_52 (show ¬ (16 : Int32) < (7 : Int32) by decide) ?_
    refine H.iloadN s14_62 rfl ?_
    refine H.iconst s14_63 (v := (4 : Int32)) (by decide) ?_
    refine H.icmpF s14_64 (show (4 : Int32) < (7 : Int32) by decide) ?_
    refine H.iinc s14_67 rfl (w := (19 : Int32)) (by decide) (ls' := #[.val (.int (7 : Int32)), .val (.int (19 : Int32))]) rfl ?_
    refine H.iloadN s14_70 rfl ?_
    refine H.iconst s14_71 (v := (2 : Int32)) (by decide) ?_
    refine H.iushr s14_72 (w := (1 : Int32)) (by decide) ?_
    refine H.istoreN s14_73 (ls' := #[.val (.int (1 : Int32)), .val (.int (19 : Int32))]) rfl ?_
    refine H.iloadN s14_74 rfl ?_
    refine H.iloadN s14_75 rfl ?_
    refine H.iconst s14_76 (v := (1 : Int32)) (by decide) ?_
    refine H.iushr s14_77 (w := (0 : Int32)) (by decide) ?_
    refine H.iadd s14_78 (w := (19 : Int32)) (by decide) ?_
    exact H.ireturn s14_79 rfl (by simp) rfl ⟨by rw [own_inj (c := 19) ht (by decide) ((own_tz b t ht h1 h2).symm.trans hz6)]; rfl, rfl⟩ (by decide) (by decide)
  · refine H.iand s14_6 (w := (1048575 : Int32)) hz6 ?_
    refine H.istoreN s14_7 (ls' := #[.val (.int (1048575 : Int32)), .unset]) rfl ?_
    refine H.iloadN s14_8 rfl ?_
    refine H.ifT s14_9 (show (0 : Int32) < (1048575 : Int32) by decide) ?_
    refine H.iconst s14_17 (v := (1 : Int32)) (by decide) ?_
    refine H.istoreN s14_18 (ls' := #[.val (.int (1048575 : Int32)), .val (.int (1 : Int32))]) rfl ?_
    refine H.iloadN s14_19 rfl ?_
    refine H.ldcW s14_20 (k_0 hw) ?_
    refine H.icmpF s14_23 (show (65536 : Int32) < (1048575 : Int32) by decide) ?_
    refine H.iinc s14_26 rfl (w := (17 : Int32)) (by decide) (ls' := #[.val (.int (1048575 : Int32)), .val (.int (17 : Int32))]) rfl ?_
    refine H.iloadN s14_29 rfl ?_
    refine H.bipush s14_30 (v := (16 : Int32)) (by decide) ?_
    refine H.iushr s14_32 (w := (15 : Int32)) (by decide) ?_
    refine H.istoreN s14_33 (ls' := #[.val (.int (15 : Int32)), .val (.int (17 : Int32))]) rfl ?_
    refine H.iloadN s14_34 rfl ?_
    refine H.sipush s14_35 (v := (256 : Int32)) (by decide) ?_
    refine H.icmpT s14_38 (show ¬ (256 : Int32) < (15 : Int32) by decide) ?_
    refine H.iloadN s14_49 rfl ?_
    refine H.bipush s14_50 (v := (16 : Int32)) (by decide) ?_
    refine H.icmpT s14_52 (show ¬ (16 : Int32) < (15 : Int32) by decide) ?_
    refine H.iloadN s14_62 rfl ?_
    refine H.iconst s14_63 (v := (4 : Int32)) (by decide) ?_
    refine H.icmpF s14_64 (show (4 : Int32) < (15 : Int32) by decide) ?_
    refine H.iinc s14_67 rfl (w := (19 : Int32)) (by decide) (ls' := #[.val (.int (15 : Int32)), .val (.int (19 : Int32))]) rfl ?_
    refine H.iloadN s14_70 rfl ?_
    refine H.iconst s14_71 (v := (2 : Int32)) (by decide) ?_
    refine H.iushr s14_72 (w := (3 : Int32)) (by decide) ?_
    refine H.istoreN s14_73 (ls' := #[.val (.int (3 : Int32)), .val (.int (19 : Int32))]) rfl ?_
    refine H.iloadN s14_74 rfl ?_
    refine H.iloadN s14_75 rfl ?_
    refine H.iconst s14_76 (v := (1 : Int32)) (by decide) ?_
    refine H.iushr s14_77 (w := (1 : Int32)) (by decide) ?_
    refine H.iadd s14_78 (w := (20 : Int32)) (by decide) ?_
    exact H.ireturn s14_79 rfl (by simp) rfl ⟨by rw [own_inj (c := 20) ht (by decide) ((own_tz b t ht h1 h2).symm.trans hz6)]; rfl, rfl⟩ (by decide) (by decide)
  · refine H.iand s14_6 (w := (2097151 : Int32)) hz6 ?_
    refine H.istoreN s14_7 (ls' := #[.val (.int (2097151 : Int32)), .unset]) rfl ?_
    refine H.iloadN s14_8 rfl ?_
    refine H.ifT s14_9 (show (0 : Int32) < (2097151 : Int32) by decide) ?_
    refine H.iconst s14_17 (v := (1 : Int32)) (by decide) ?_
    refine H.istoreN s14_18 (ls' := #[.val (.int (2097151 : Int32)), .val (.int (1 : Int32))]) rfl ?_
    refine H.iloadN s14_19 rfl ?_
    refine H.ldcW s14_20 (k_0 hw) ?_
    refine H.icmpF s14_23 (show (65536 : Int32) < (2097151 : Int32) by decide) ?_
    refine H.iinc s14_26 rfl (w := (17 : Int32)) (by decide) (ls' := #[.val (.int (2097151 : Int32)), .val (.int (17 : Int32))]) rfl ?_
    refine H.iloadN s14_29 rfl ?_
    refine H.bipush s14_30 (v := (16 : Int32)) (by decide) ?_
    refine H.iushr s14_32 (w := (31 : Int32)) (by decide) ?_
    refine H.istoreN s14_33 (ls' := #[.val (.int (31 : Int32)), .val (.int (17 : Int32))]) rfl ?_
    refine H.iloadN s14_34 rfl ?_
    refine H.sipush s14_35 (v := (256 : Int32)) (by decide) ?_
    refine H.icmpT s14_38 (show ¬ (256 : Int32) < (31 : Int32) by decide) ?_
    refine H.iloadN s14_49 rfl ?_
    refine H.bipush s14_50 (v := (16 : Int32)) (by decide) ?_
    refine H.icmpF s14_52 (show (16 : Int32) < (31 : Int32) by decide) ?_
    refine H.iinc s14_55 rfl (w := (21 : Int32)) (by decide) (ls' := #[.val (.int (31 : Int32)), .val (.int (21 : Int32))]) rfl ?_
    refine H.iloadN s14_58 rfl ?_
    refine H.iconst s14_59 (v := (4 : Int32)) (by decide) ?_
    refine H.iushr s14_60 (w := (1 : Int32)) (by decide) ?_
    refine H.istoreN s14_61 (ls' := #[.val (.int (1 : Int32)), .val (.int (21 : Int32))]) rfl ?_
    refine H.iloadN s14_62 rfl ?_
    refine H.iconst s14_63 (v := (4 : Int32)) (by decide) ?_
    refine H.icmpT s14_64 (show ¬ (4 : Int32) < (1 : Int32) by decide) ?_
    refine H.iloadN s14_74 rfl ?_
    refine H.iloadN s14_75 rfl ?_
    refine H.iconst s14_76 (v := (1 : Int32)) (by decide) ?_
    refine H.iushr s14_77 (w := (0 : Int32)) (by decide) ?_
    refine H.iadd s14_78 (w := (21 : Int32)) (by decide) ?_
    exact H.ireturn s14_79 rfl (by simp) rfl ⟨by rw [own_inj (c := 21) ht (by decide) ((own_tz b t ht h1 h2).symm.trans hz6)]; rfl, rfl⟩ (by decide) (by decide)
  · refine H.iand s14_6 (w := (4194303 : Int32)) hz6 ?_
    refine H.istoreN s14_7 (ls' := #[.val (.int (4194303 : Int32)), .unset]) rfl ?_
    refine H.iloadN s14_8 rfl ?_
    refine H.ifT s14_9 (show (0 : Int32) < (4194303 : Int32) by decide) ?_
    refine H.iconst s14_17 (v := (1 : Int32)) (by decide) ?_
    refine H.istoreN s14_18 (ls' := #[.val (.int (4194303 : Int32)), .val (.int (1 : Int32))]) rfl ?_
    refine H.iloadN s14_19 rfl ?_
    refine H.ldcW s14_20 (k_0 hw) ?_
    refine H.icmpF s14_23 (show (65536 : Int32) < (4194303 : Int32) by decide) ?_
    refine H.iinc s14_26 rfl (w := (17 : Int32)) (by decide) (ls' := #[.val (.int (4194303 : Int32)), .val (.int (17 : Int32))]) rfl ?_
    refine H.iloadN s14_29 rfl ?_
    refine H.bipush s14_30 (v := (16 : Int32)) (by decide) ?_
    refine H.iushr s14_32 (w := (63 : Int32)) (by decide) ?_
    refine H.istoreN s14_33 (ls' := #[.val (.int (63 : Int32)), .val (.int (17 : Int32))]) rfl ?_
    refine H.iloadN s14_34 rfl ?_
    refine H.sipush s14_35 (v := (256 : Int32)) (by decide) ?_
    refine H.icmpT s14_38 (show ¬ (256 : Int32) < (63 : Int32) by decide) ?_
    refine H.iloadN s14_49 rfl ?_
    refine H.bipush s14_50 (v := (16 : Int32)) (by decide) ?_
    refine H.icmpF s14_52 (show (16 : Int32) < (63 : Int32) by decide) ?_
    refine H.iinc s14_55 rfl (w := (21 : Int32)) (by decide) (ls' := #[.val (.int (63 : Int32)), .val (.int (21 : Int32))]) rfl ?_
    refine H.iloadN s14_58 rfl ?_
    refine H.iconst s14_59 (v := (4 : Int32)) (by decide) ?_
    refine H.iushr s14_60 (w := (3 : Int32)) (by decide) ?_
    refine H.istoreN s14_61 (ls' := #[.val (.int (3 : Int32)), .val (.int (21 : Int32))]) rfl ?_
    refine H.iloadN s14_62 rfl ?_
    refine H.iconst s14_63 (v := (4 : Int32)) (by decide) ?_
    refine H.icmpT s14_64 (show ¬ (4 : Int32) < (3 : Int32) by decide) ?_
    refine H.iloadN s14_74 rfl ?_
    refine H.iloadN s14_75 rfl ?_
    refine H.iconst s14_76 (v := (1 : Int32)) (by decide) ?_
    refine H.iushr s14_77 (w := (1 : Int32)) (by decide) ?_
    refine H.iadd s14_78 (w := (22 : Int32)) (by decide) ?_
    exact H.ireturn s14_79 rfl (by simp) rfl ⟨by rw [own_inj (c := 22) ht (by decide) ((own_tz b t ht h1 h2).symm.trans hz6)]; rfl, rfl⟩ (by decide) (by decide)
  · refine H.iand s14_6 (w := (8388607 : Int32)) hz6 ?_
    refine H.istoreN s14_7 (ls' := #[.val (.int (8388607 : Int32)), .unset]) rfl ?_
    refine H.iloadN s14_8 rfl ?_
    refine H.ifT s14_9 (show (0 : Int32) < (8388607 : Int32) by decide) ?_
    refine H.iconst s14_17 (v := (1 : Int32)) (by decide) ?_
    refine H.istoreN s14_18 (ls' := #[.val (.int (8388607 : Int32)), .val (.int (1 : Int32))]) rfl ?_
    refine H.iloadN s14_19 rfl ?_
    refine H.ldcW s14_20 (k_0 hw) ?_
    refine H.icmpF s14_23 (show (65536 : Int32) < (8388607 : Int32) by decide) ?_
    refine H.iinc s14_26 rfl (w := (17 : Int32)) (by decide) (ls' := #[.val (.int (8388607 : Int32)), .val (.int (17 : Int32))]) rfl ?_
    refine H.iloadN s14_29 rfl ?_
    refine H.bipush s14_30 (v := (16 : Int32)) (by decide) ?_
    refine H.iushr s14_32 (w := (127 : Int32)) (by decide) ?_
    refine H.istoreN s14_33 (ls' := #[.val (.int (127 : Int32)), .val (.int (17 : Int32))]) rfl ?_
    refine H.iloadN s14_34 rfl ?_
    refine H.sipush s14_35 (v := (256 : Int32)) (by decide) ?_
    refine H.icmpT s14_38 (show ¬ (256 : Int32) < (127 : Int32) by decide) ?_
    refine H.iloadN s14_49 rfl ?_
    refine H.bipush s14_50 (v := (16 : Int32)) (by decide) ?_
    refine H.icmpF s14_52 (show (16 : Int32) < (127 : Int32) by decide) ?_
    refine H.iinc s14_55 rfl (w := (21 : Int32)) (by decide) (ls' := #[.val (.int (127 : Int32)), .val (.int (21 : Int32))]) rfl ?_
    refine H.iloadN s14_58 rfl ?_
    refine H.iconst s14_59 (v := (4 : Int32)) (by decide) ?_
    refine H.iushr s14_60 (w := (7 : Int32)) (by decide) ?_
    refine H.istoreN s14_61 (ls' := #[.val (.int (7 : Int32)), .val (.int (21 : Int32))]) rfl ?_
    refine H.iloadN s14_62 rfl ?_
    refine H.iconst s14_63 (v := (4 : Int32)) (by decide) ?_
    refine H.icmpF s14_64 (show (4 : Int32) < (7 : Int32) by decide) ?_
    refine H.iinc s14_67 rfl (w := (23 : Int32)) (by decide) (ls' := #[.val (.int (7 : Int32)), .val (.int (23 : Int32))]) rfl ?_
    refine H.iloadN s14_70 rfl ?_
    refine H.iconst s14_71 (v := (2 : Int32)) (by decide) ?_
    refine H.iushr s14_72 (w := (1 : Int32)) (by decide) ?_
    refine H.istoreN s14_73 (ls' := #[.val (.int (1 : Int32)), .val (.int (23 : Int32))]) rfl ?_
    refine H.iloadN s14_74 rfl ?_
    refine H.iloadN s14_75 rfl ?_
    refine H.iconst s14_76 (v := (1 : Int32)) (by decide) ?_
    refine H.iushr s14_77 (w := (0 : Int32)) (by decide) ?_
    refine H.iadd s14_78 (w := (23 : Int32)) (by decide) ?_
    exact H.ireturn s14_79 rfl (by simp) rfl ⟨by rw [own_inj (c := 23) ht (by decide) ((own_tz b t ht h1 h2).symm.trans hz6)]; rfl, rfl⟩ (by decide) (by decide)
  · refine H.iand s14_6 (w := (16777215 : Int32)) hz6 ?_
    refine H.istoreN s14_7 (ls' := #[.val (.int (16777215 : Int32)), .unset]) rfl ?_
    refine H.iloadN s14_8 rfl ?_
    refine H.ifT s14_9 (show (0 : Int32) < (16777215 : Int32) by decide) ?_
    refine H.iconst s14_17 (v := (1 : Int32)) (by decide) ?_
    refine H.istoreN s14_18 (ls' := #[.val (.int (16777215 : Int32)), .val (.int (1 : Int32))]) rfl ?_
    refine H.iloadN s14_19 rfl ?_
    refine H.ldcW s14_20 (k_0 hw) ?_
    refine H.icmpF s14_23 (show (65536 : Int32) < (16777215 : Int32) by decide) ?_
    refine H.iinc s14_26 rfl (w := (17 : Int32)) (by decide) (ls' := #[.val (.int (16777215 : Int32)), .val (.int (17 : Int32))]) rfl ?_
    refine H.iloadN s14_29 rfl ?_
    refine H.bipush s14_30 (v := (16 : Int32)) (by decide) ?_
    refine H.iushr s14_32 (w := (255 : Int32)) (by decide) ?_
    refine H.istoreN s14_33 (ls' := #[.val (.int (255 : Int32)), .val (.int (17 : Int32))]) rfl ?_
    refine H.iloadN s14_34 rfl ?_
    refine H.sipush s14_35 (v := (256 : Int32)) (by decide) ?_
    refine H.icmpT s14_38 (show ¬ (256 : Int32) < (255 : Int32) by decide) ?_
    refine H.iloadN s14_49 rfl ?_
    refine H.bipush s14_50 (v := (16 : Int32)) (by decide) ?_
    refine H.icmpF s14_52 (show (16 : Int32) < (255 : Int32) by decide) ?_
    refine H.iinc s14_55 rfl (w := (21 : Int32)) (by decide) (ls' := #[.val (.int (255 : Int32)), .val (.int (21 : Int32))]) rfl ?_
    refine H.iloadN s14_58 rfl ?_
    refine H.iconst s14_59 (v := (4 : Int32)) (by decide) ?_
    refine H.iushr s14_60 (w := (15 : Int32)) (by decide) ?_
    refine H.istoreN s14_61 (ls' := #[.val (.int (15 : Int32)), .val (.int (21 : Int32))]) rfl ?_
    refine H.iloadN s14_62 rfl ?_
    refine H.iconst s14_63 (v := (4 : Int32)) (by decide) ?_
    refine H.icmpF s14_64 (show (4 : Int32) < (15 : Int32) by decide) ?_
    refine H.iinc s14_67 rfl (w := (23 : Int32)) (by decide) (ls' := #[.val (.int (15 : Int32)), .val (.int (23 : Int32))]) rfl ?_
    refine H.iloadN s14_70 rfl ?_
    refine H.iconst s14_71 (v := (2 : Int32)) (by decide) ?_
    refine H.iushr s14_72 (w := (3 : Int32)) (by decide) ?_
    refine H.istoreN s14_73 (ls' := #[.val (.int (3 : Int32)), .val (.int (23 : Int32))]) rfl ?_
    refine H.iloadN s14_74 rfl ?_
    refine H.iloadN s14_75 rfl ?_
    refine H.iconst s14_76 (v := (1 : Int32)) (by decide) ?_
    refine H.iushr s14_77 (w := (1 : Int32)) (by decide) ?_
    refine H.iadd s14_78 (w := (24 : Int32)) (by decide) ?_
    exact H.ireturn s14_79 rfl (by simp) rfl ⟨by rw [own_inj (c := 24) ht (by decide) ((own_tz b t ht h1 h2).symm.trans hz6)]; rfl, rfl⟩ (by decide) (by decide)
  · refine H.iand s14_6 (w := (33554431 : Int32)) hz6 ?_
    refine H.istoreN s14_7 (ls' := #[.val (.int (33554431 : Int32)), .unset]) rfl ?_
    refine H.iloadN s14_8 rfl ?_
    refine H.ifT s14_9 (show (0 : Int32) < (33554431 : Int32) by decide) ?_
    refine H.iconst s14_17 (v := (1 : Int32)) (by decide) ?_
    refine H.istoreN s14_18 (ls' := #[.val (.int (33554431 : Int32)), .val (.int (1 : Int32))]) rfl ?_
    refine H.iloadN s14_19 rfl ?_
    refine H.ldcW s14_20 (k_0 hw) ?_
    refine H.icmpF s14_23 (show (65536 : Int32) < (33554431 : Int32) by decide) ?_
    refine H.iinc s14_26 rfl (w := (17 : Int32)) (by decide) (ls' := #[.val (.int (33554431 : Int32)), .val (.int (17 : Int32))]) rfl ?_
    refine H.iloadN s14_29 rfl ?_
    refine H.bipush s14_30 (v := (16 : Int32)) (by decide) ?_
    refine H.iushr s14_32 (w := (511 : Int32)) (by decide) ?_
    refine H.istoreN s14_33 (ls' := #[.val (.int (511 : Int32)), .val (.int (17 : Int32))]) rfl ?_
    refine H.iloadN s14_34 rfl ?_
    refine H.sipush s14_35 (v := (256 : Int32)) (by decide) ?_
    refine H.icmpF s14_38 (show (256 : Int32) < (511 : Int32) by decide) ?_
    refine H.iinc s14_41 rfl (w := (25 : Int32)) (by decide) (ls' := #[.val (.int (511 : Int32)), .val (.int (25 : Int32))]) rfl ?_
    refine H.iloadN s14_44 rfl ?_
    refine H.bipush s14_45 (v := (8 : Int32)) (by decide) ?_
    refine H.iushr s14_47 (w := (1 : Int32)) (by decide) ?_
    refine H.istoreN s14_48 (ls' := #[.val (.int (1 : Int32)), .val (.int (25 : Int32))]) rfl ?_
    refine H.iloadN s14_49 rfl ?_
    refine H.bipush s14_50 (v := (16 : Int32)) (by decide) ?_
    refine H.icmpT s14_52 (show ¬ (16 : Int32) < (1 : Int32) by decide) ?_
    refine H.iloadN s14_62 rfl ?_
    refine H.iconst s14_63 (v := (4 : Int32)) (by decide) ?_
    refine H.icmpT s14_64 (show ¬ (4 : Int32) < (1 : Int32) by decide) ?_
    refine H.iloadN s14_74 rfl ?_
    refine H.iloadN s14_75 rfl ?_
    refine H.iconst s14_76 (v := (1 : Int32)) (by decide) ?_
    refine H.iushr s14_77 (w := (0 : Int32)) (by decide) ?_
    refine H.iadd s14_78 (w := (25 : Int32)) (by decide) ?_
    exact H.ireturn s14_79 rfl (by simp) rfl ⟨by rw [own_inj (c := 25) ht (by decide) ((own_tz b t ht h1 h2).symm.trans hz6)]; rfl, rfl⟩ (by decide) (by decide)
  · refine H.iand s14_6 (w := (67108863 : Int32)) hz6 ?_
    refine H.istoreN s14_7 (ls' := #[.val (.int (67108863 : Int32)), .unset]) rfl ?_
    refine H.iloadN s14_8 rfl ?_
    refine H.ifT s14_9 (show (0 : Int32) < (67108863 : Int32) by decide) ?_
    refine H.iconst s14_17 (v := (1 : Int32)) (by decide) ?_
    refine H.istoreN s14_18 (ls' := #[.val (.int (67108863 : Int32)), .val (.int (1 : Int32))]) rfl ?_
    refine H.iloadN s14_19 rfl ?_
    refine H.ldcW s14_20 (k_0 hw) ?_
    refine H.icmpF s14_23 (show (65536 : Int32) < (67108863 : Int32) by decide) ?_
    refine H.iinc s14_26 rfl (w := (17 : Int32)) (by decide) (ls' := #[.val (.int (67108863 : Int32)), .val (.int (17 : Int32))]) rfl ?_
    refine H.iloadN s14_29 rfl ?_
    refine H.bipush s14_30 (v := (16 : Int32)) (by decide) ?_
    refine H.iushr s14_32 (w := (1023 : Int32)) (by decide) ?_
    refine H.istoreN s14_33 (ls' := #[.val (.int (1023 : Int32)), .val (.int (17 : Int32))]) rfl ?_
    refine H.iloadN s14_34 rfl ?_
    refine H.sipush s14_35 (v := (256 : Int32)) (by decide) ?_
    refine H.icmpF s14_38 (show (256 : Int32) < (1023 : Int32) by decide) ?_
    refine H.iinc s14_41 rfl (w := (25 : Int32)) (by decide) (ls' := #[.val (.int (1023 : Int32)), .val (.int (25 : Int32))]) rfl ?_
    refine H.iloadN s14_44 rfl ?_
    refine H.bipush s14_45 (v := (8 : Int32)) (by decide) ?_
    refine H.iushr s14_47 (w := (3 : Int32)) (by decide) ?_
    refine H.istoreN s14_48 (ls' := #[.val (.int (3 : Int32)), .val (.int (25 : Int32))]) rfl ?_
    refine H.iloadN s14_49 rfl ?_
    refine H.bipush s14_50 (v := (16 : Int32)) (by decide) ?_
    refine H.icmpT s14_52 (show ¬ (16 : Int32) < (3 : Int32) by decide) ?_
    refine H.iloadN s14_62 rfl ?_
    refine H.iconst s14_63 (v := (4 : Int32)) (by decide) ?_
    refine H.icmpT s14_64 (show ¬ (4 : Int32) < (3 : Int32) by decide) ?_
    refine H.iloadN s14_74 rfl ?_
    refine H.iloadN s14_75 rfl ?_
    refine H.iconst s14_76 (v := (1 : Int32)) (by decide) ?_
    refine H.iushr s14_77 (w := (1 : Int32)) (by decide) ?_
    refine H.iadd s14_78 (w := (26 : Int32)) (by decide) ?_
    exact H.ireturn s14_79 rfl (by simp) rfl ⟨by rw [own_inj (c := 26) ht (by decide) ((own_tz b t ht h1 h2).symm.trans hz6)]; rfl, rfl⟩ (by decide) (by decide)
  · refine H.iand s14_6 (w := (134217727 : Int32)) hz6 ?_
    refine H.istoreN s14_7 (ls' := #[.val (.int (134217727 : Int32)), .unset]) rfl ?_
    refine H.iloadN s14_8 rfl ?_
    refine H.ifT s14_9 (show (0 : Int32) < (134217727 : Int32) by decide) ?_
    refine H.iconst s14_17 (v := (1 : Int32)) (by decide) ?_
    refine H.istoreN s14_18 (ls' := #[.val (.int (134217727 : Int32)), .val (.int (1 : Int32))]) rfl ?_
    refine H.iloadN s14_19 rfl ?_
    refine H.ldcW s14_20 (k_0 hw) ?_
    refine H.icmpF s14_23 (show (65536 : Int32) < (134217727 : Int32) by decide) ?_
    refine H.iinc s14_26 rfl (w := (17 : Int32)) (by decide) (ls' := #[.val (.int (134217727 : Int32)), .val (.int (17 : Int32))]) rfl ?_
    refine H.iloadN s14_29 rfl ?_
    refine H.bipush s14_30 (v := (16 : Int32)) (by decide) ?_
    refine H.iushr s14_32 (w := (2047 : Int32)) (by decide) ?_
    refine H.istoreN s14_33 (ls' := #[.val (.int (2047 : Int32)), .val (.int (17 : Int32))]) rfl ?_
    refine H.iloadN s14_34 rfl ?_
    refine H.sipush s14_35 (v := (256 : Int32)) (by decide) ?_
    refine H.icmpF s14_38 (show (256 : Int32) < (2047 : Int32) by decide) ?_
    refine H.iinc s14_41 rfl (w := (25 : Int32)) (by decide) (ls' := #[.val (.int (2047 : Int32)), .val (.int (25 : Int32))]) rfl ?_
    refine H.iloadN s14_44 rfl ?_
    refine H.bipush s14_45 (v := (8 : Int32)) (by decide) ?_
    refine H.iushr s14_47 (w := (7 : Int32)) (by decide) ?_
    refine H.istoreN s14_48 (ls' := #[.val (.int (7 : Int32)), .val (.int (25 : Int32))]) rfl ?_
    refine H.iloadN s14_49 rfl ?_
    refine H.bipush s14_50 (v := (16 : Int32)) (by decide) ?_
    refine H.icmpT s14_52 (show ¬ (16 : Int32) < (7 : Int32) by decide) ?_
    refine H.iloadN s14_62 rfl ?_
    refine H.iconst s14_63 (v := (4 : Int32)) (by decide) ?_
    refine H.icmpF s14_64 (show (4 : Int32) < (7 : Int32) by decide) ?_
    refine H.iinc s14_67 rfl (w := (27 : Int32)) (by decide) (ls' := #[.val (.int (7 : Int32)), .val (.int (27 : Int32))]) rfl ?_
    refine H.iloadN s14_70 rfl ?_
    refine H.iconst s14_71 (v := (2 : Int32)) (by decide) ?_
    refine H.iushr s14_72 (w := (1 : Int32)) (by decide) ?_
    refine H.istoreN s14_73 (ls' := #[.val (.int (1 : Int32)), .val (.int (27 : Int32))]) rfl ?_
    refine H.iloadN s14_74 rfl ?_
    refine H.iloadN s14_75 rfl ?_
    refine H.iconst s14_76 (v := (1 : Int32)) (by decide) ?_
    refine H.iushr s14_77 (w := (0 : Int32)) (by decide) ?_
    refine H.iadd s14_78 (w := (27 : Int32)) (by decide) ?_
    exact H.ireturn s14_79 rfl (by simp) rfl ⟨by rw [own_inj (c := 27) ht (by decide) ((own_tz b t ht h1 h2).symm.trans hz6)]; rfl, rfl⟩ (by decide) (by decide)
  · refine H.iand s14_6 (w := (268435455 : Int32)) hz6 ?_
    refine H.istoreN s14_7 (ls' := #[.val (.int (268435455 : Int32)), .unset]) rfl ?_
    refine H.iloadN s14_8 rfl ?_
    refine H.ifT s14_9 (show (0 : Int32) < (268435455 : Int32) by decide) ?_
    refine H.iconst s14_17 (v := (1 : Int32)) (by decide) ?_
    refine H.istoreN s14_18 (ls' := #[.val (.int (268435455 : Int32)), .val (.int (1 : Int32))]) rfl ?_
    refine H.iloadN s14_19 rfl ?_
    refine H.ldcW s14_20 (k_0 hw) ?_
    refine H.icmpF s14_23 (show (65536 : Int32) < (268435455 : Int32) by decide) ?_
    refine H.iinc s14_26 rfl (w := (17 : Int32)) (by decide) (ls' := #[.val (.int (268435455 : Int32)), .val (.int (17 : Int32))]) rfl ?_
    refine H.iloadN s14_29 rfl ?_
    refine H.bipush s14_30 (v := (16 : Int32)) (by decide) ?_
    refine H.iushr s14_32 (w := (4095 : Int32)) (by decide) ?_
    refine H.istoreN s14_33 (ls' := #[.val (.int (4095 : Int32)), .val (.int (17 : Int32))]) rfl ?_
    refine H.iloadN s14_34 rfl ?_
    refine H.sipush s14_35 (v := (256 : Int32)) (by decide) ?_
    refine H.icmpF s14_38 (show (256 : Int32) < (4095 : Int32) by decide) ?_
    refine H.iinc s14_41 rfl (w := (25 : Int32)) (by decide) (ls' := #[.val (.int (4095 : Int32)), .val (.int (25 : Int32))]) rfl ?_
    refine H.iloadN s14_44 rfl ?_
    refine H.bipush s14_45 (v := (8 : Int32)) (by decide) ?_
    refine H.iushr s14_47 (w := (15 : Int32)) (by decide) ?_
    refine H.istoreN s14_48 (ls' := #[.val (.int (15 : Int32)), .val (.int (25 : Int32))]) rfl ?_
    refine H.iloadN s14_49 rfl ?_
    refine H.bipush s14_50 (v := (16 : Int32)) (by decide) ?_
    refine H.icmpT s14_52 (show ¬ (16 : Int32) < (15 : Int32) by decide) ?_
    refine H.iloadN s14_62 rfl ?_
    refine H.iconst s14_63 (v := (4 : Int32)) (by decide) ?_
    refine H.icmpF s14_64 (show (4 : Int32) < (15 : Int32) by decide) ?_
    refine H.iinc s14_67 rfl (w := (27 : Int32)) (by decide) (ls' := #[.val (.int (15 : Int32)), .val (.int (27 : Int32))]) rfl ?_
    refine H.iloadN s14_70 rfl ?_
    refine H.iconst s14_71 (v := (2 : Int32)) (by decide) ?_
    refine H.iushr s14_72 (w := (3 : Int32)) (by decide) ?_
    refine H.istoreN s14_73 (ls' := #[.val (.int (3 : Int32)), .val (.int (27 : Int32))]) rfl ?_
    refine H.iloadN s14_74 rfl ?_
    refine H.iloadN s14_75 rfl ?_
    refine H.iconst s14_76 (v := (1 : Int32)) (by decide) ?_
    refine H.iushr s14_77 (w := (1 : Int32)) (by decide) ?_
    refine H.iadd s14_78 (w := (28 : Int32)) (by decide) ?_
    exact H.ireturn s14_79 rfl (by simp) rfl ⟨by rw [own_inj (c := 28) ht (by decide) ((own_tz b t ht h1 h2).symm.trans hz6)]; rfl, rfl⟩ (by decide) (by decide)
  · refine H.iand s14_6 (w := (536870911 : Int32)) hz6 ?_
    refine H.istoreN s14_7 (ls' := #[.val (.int (536870911 : Int32)), .unset]) rfl ?_
    refine H.iloadN s14_8 rfl ?_
    refine H.ifT s14_9 (show (0 : Int32) < (536870911 : Int32) by decide) ?_
    refine H.iconst s14_17 (v := (1 : Int32)) (by decide) ?_
    refine H.istoreN s14_18 (ls' := #[.val (.int (536870911 : Int32)), .val (.int (1 : Int32))]) rfl ?_
    refine H.iloadN s14_19 rfl ?_
    refine H.ldcW s14_20 (k_0 hw) ?_
    refine H.icmpF s14_23 (show (65536 : Int32) < (536870911 : Int32) by decide) ?_
    refine H.iinc s14_26 rfl (w := (17 : Int32)) (by decide) (ls' := #[.val (.int (536870911 : Int32)), .val (.int (17 : Int32))]) rfl ?_
    refine H.iloadN s14_29 rfl ?_
    refine H.bipush s14_30 (v := (16 : Int32)) (by decide) ?_
    refine H.iushr s14_32 (w := (8191 : Int32)) (by decide) ?_
    refine H.istoreN s14_33 (ls' := #[.val (.int (8191 : Int32)), .val (.int (17 : Int32))]) rfl ?_
    refine H.iloadN s14_34 rfl ?_
    refine H.sipush s14_35 (v := (256 : Int32)) (by decide) ?_
    refine H.icmpF s14_38 (show (256 : Int32) < (8191 : Int32) by decide) ?_
    refine H.iinc s14_41 rfl (w := (25 : Int32)) (by decide) (ls' := #[.val (.int (8191 : Int32)), .val (.int (25 : Int32))]) rfl ?_
    refine H.iloadN s14_44 rfl ?_
    refine H.bipush s14_45 (v := (8 : Int32)) (by decide) ?_
    refine H.iushr s14_47 (w := (31 : Int32)) (by decide) ?_
    refine H.istoreN s14_48 (ls' := #[.val (.int (31 : Int32)), .val (.int (25 : Int32))]) rfl ?_
    refine H.iloadN s14_49 rfl ?_
    refine H.bipush s14_50 (v := (16 : Int32)) (by decide) ?_
    refine H.icmpF s14_52 (show (16 : Int32) < (31 : Int32) by decide) ?_
    refine H.iinc s14_55 rfl (w := (29 : Int32)) (by decide) (ls' := #[.val (.int (31 : Int32)), .val (.int (29 : Int32))]) rfl ?_
    refine H.iloadN s14_58 rfl ?_
    refine H.iconst s14_59 (v := (4 : Int32)) (by decide) ?_
    refine H.iushr s14_60 (w := (1 : Int32)) (by decide) ?_
    refine H.istoreN s14_61 (ls' := #[.val (.int (1 : Int32)), .val (.int (29 : Int32))]) rfl ?_
    refine H.iloadN s14_62 rfl ?_
    refine H.iconst s14_63 (v := (4 : Int32)) (by decide) ?_
    refine H.icmpT s14_64 (show ¬ (4 : Int32) < (1 : Int32) by decide) ?_
    refine H.iloadN s14_74 rfl ?_
    refine H.iloadN s14_75 rfl ?_
    refine H.iconst s14_76 (v := (1 : Int32)) (by decide) ?_
    refine H.iushr s14_77 (w := (0 : Int32)) (by decide) ?_
    refine H.iadd s14_78 (w := (29 : Int32)) (by decide) ?_
    exact H.ireturn s14_79 rfl (by simp) rfl ⟨by rw [own_inj (c := 29) ht (by decide) ((own_tz b t ht h1 h2).symm.trans hz6)]; rfl, rfl⟩ (by decide) (by decide)
  · refine H.iand s14_6 (w := (1073741823 : Int32)) hz6 ?_
    refine H.istoreN s14_7 (ls' := #[.val (.int (1073741823 : Int32)), .unset]) rfl ?_
    refine H.iloadN s14_8 rfl ?_
    refine H.ifT s14_9 (show (0 : Int32) < (1073741823 : Int32) by decide) ?_
    refine H.iconst s14_17 (v := (1 : Int32)) (by decide) ?_
    refine H.istoreN s14_18 (ls' := #[.val (.int (1073741823 : Int32)), .val (.int (1 : Int32))]) rfl ?_
    refine H.iloadN s14_19 rfl ?_
    refine H.ldcW s14_20 (k_0 hw) ?_
    refine H.icmpF s14_23 (show (65536 : Int32) < (1073741823 : Int32) by decide) ?_
    refine H.iinc s14_26 rfl (w := (17 : Int32)) (by decide) (ls' := #[.val (.int (1073741823 : Int32)), .val (.int (17 : Int32))]) rfl ?_
    refine H.iloadN s14_29 rfl ?_
    refine H.bipush s14_30 (v := (16 : Int32)) (by decide) ?_
    refine H.iushr s14_32 (w := (16383 : Int32)) (by decide) ?_
    refine H.istoreN s14_33 (ls' := #[.val (.int (16383 : Int32)), .val (.int (17 : Int32))]) rfl ?_
    refine H.iloadN s14_34 rfl ?_
    refine H.sipush s14_35 (v := (256 : Int32)) (by decide) ?_
    refine H.icmpF s14_38 (show (256 : Int32) < (16383 : Int32) by decide) ?_
    refine H.iinc s14_41 rfl (w := (25 : Int32)) (by decide) (ls' := #[.val (.int (16383 : Int32)), .val (.int (25 : Int32))]) rfl ?_
    refine H.iloadN s14_44 rfl ?_
    refine H.bipush s14_45 (v := (8 : Int32)) (by decide) ?_
    refine H.iushr s14_47 (w := (63 : Int32)) (by decide) ?_
    refine H.istoreN s14_48 (ls' := #[.val (.int (63 : Int32)), .val (.int (25 : Int32))]) rfl ?_
    refine H.iloadN s14_49 rfl ?_
    refine H.bipush s14_50 (v := (16 : Int32)) (by decide) ?_
    refine H.icmpF s14_52 (show (16 : Int32) < (63 : Int32) by decide) ?_
    refine H.iinc s14_55 rfl (w := (29 : Int32)) (by decide) (ls' := #[.val (.int (63 : Int32)), .val (.int (29 : Int32))]) rfl ?_
    refine H.iloadN s14_58 rfl ?_
    refine H.iconst s14_59 (v := (4 : Int32)) (by decide) ?_
    refine H.iushr s14_60 (w := (3 : Int32)) (by decide) ?_
    refine H.istoreN s14_61 (ls' := #[.val (.int (3 : Int32)), .val (.int (29 : Int32))]) rfl ?_
    refine H.iloadN s14_62 rfl ?_
    refine H.iconst s14_63 (v := (4 : Int32)) (by decide) ?_
    refine H.icmpT s14_64 (show ¬ (4 : Int32) < (3 : Int32) by decide) ?_
    refine H.iloadN s14_74 rfl ?_
    refine H.iloadN s14_75 rfl ?_
    refine H.iconst s14_76 (v := (1 : Int32)) (by decide) ?_
    refine H.iushr s14_77 (w := (1 : Int32)) (by decide) ?_
    refine H.iadd s14_78 (w := (30 : Int32)) (by decide) ?_
    exact H.ireturn s14_79 rfl (by simp) rfl ⟨by rw [own_inj (c := 30) ht (by decide) ((own_tz b t ht h1 h2).symm.trans hz6)]; rfl, rfl⟩ (by decide) (by decide)
  · refine H.iand s14_6 (w := (2147483647 : Int32)) hz6 ?_
    refine H.istoreN s14_7 (ls' := #[.val (.int (2147483647 : Int32)), .unset]) rfl ?_
    refine H.iloadN s14_8 rfl ?_
    refine H.ifT s14_9 (show (0 : Int32) < (2147483647 : Int32) by decide) ?_
    refine H.iconst s14_17 (v := (1 : Int32)) (by decide) ?_
    refine H.istoreN s14_18 (ls' := #[.val (.int (2147483647 : Int32)), .val (.int (1 : Int32))]) rfl ?_
    refine H.iloadN s14_19 rfl ?_
    refine H.ldcW s14_20 (k_0 hw) ?_
    refine H.icmpF s14_23 (show (65536 : Int32) < (2147483647 : Int32) by decide) ?_
    refine H.iinc s14_26 rfl (w := (17 : Int32)) (by decide) (ls' := #[.val (.int (2147483647 : Int32)), .val (.int (17 : Int32))]) rfl ?_
    refine H.iloadN s14_29 rfl ?_
    refine H.bipush s14_30 (v := (16 : Int32)) (by decide) ?_
    refine H.iushr s14_32 (w := (32767 : Int32)) (by decide) ?_
    refine H.istoreN s14_33 (ls' := #[.val (.int (32767 : Int32)), .val (.int (17 : Int32))]) rfl ?_
    refine H.iloadN s14_34 rfl ?_
    refine H.sipush s14_35 (v := (256 : Int32)) (by decide) ?_
    refine H.icmpF s14_38 (show (256 : Int32) < (32767 : Int32) by decide) ?_
    refine H.iinc s14_41 rfl (w := (25 : Int32)) (by decide) (ls' := #[.val (.int (32767 : Int32)), .val (.int (25 : Int32))]) rfl ?_
    refine H.iloadN s14_44 rfl ?_
    refine H.bipush s14_45 (v := (8 : Int32)) (by decide) ?_
    refine H.iushr s14_47 (w := (127 : Int32)) (by decide) ?_
    refine H.istoreN s14_48 (ls' := #[.val (.int (127 : Int32)), .val (.int (25 : Int32))]) rfl ?_
    refine H.iloadN s14_49 rfl ?_
    refine H.bipush s14_50 (v := (16 : Int32)) (by decide) ?_
    refine H.icmpF s14_52 (show (16 : Int32) < (127 : Int32) by decide) ?_
    refine H.iinc s14_55 rfl (w := (29 : Int32)) (by decide) (ls' := #[.val (.int (127 : Int32)), .val (.int (29 : Int32))]) rfl ?_
    refine H.iloadN s14_58 rfl ?_
    refine H.iconst s14_59 (v := (4 : Int32)) (by decide) ?_
    refine H.iushr s14_60 (w := (7 : Int32)) (by decide) ?_
    refine H.istoreN s14_61 (ls' := #[.val (.int (7 : Int32)), .val (.int (29 : Int32))]) rfl ?_
    refine H.iloadN s14_62 rfl ?_
    refine H.iconst s14_63 (v := (4 : Int32)) (by decide) ?_
    refine H.icmpF s14_64 (show (4 : Int32) < (7 : Int32) by decide) ?_
    refine H.iinc s14_67 rfl (w := (31 : Int32)) (by decide) (ls' := #[.val (.int (7 : Int32)), .val (.int (31 : Int32))]) rfl ?_
    refine H.iloadN s14_70 rfl ?_
    refine H.iconst s14_71 (v := (2 : Int32)) (by decide) ?_
    refine H.iushr s14_72 (w := (1 : Int32)) (by decide) ?_
    refine H.istoreN s14_73 (ls' := #[.val (.int (1 : Int32)), .val (.int (31 : Int32))]) rfl ?_
    refine H.iloadN s14_74 rfl ?_
    refine H.iloadN s14_75 rfl ?_
    refine H.iconst s14_76 (v := (1 : Int32)) (by decide) ?_
    refine H.iushr s14_77 (w := (0 : Int32)) (by decide) ?_
    refine H.iadd s14_78 (w := (31 : Int32)) (by decide) ?_
    exact H.ireturn s14_79 rfl (by simp) rfl ⟨by rw [own_inj (c := 31) ht (by decide) ((own_tz b t ht h1 h2).symm.trans hz6)]; rfl, rfl⟩ (by decide) (by decide)

theorem own_32 {t : Nat} (h : 32 ≤ t) (ht : t < 64) : (32 : Int32) + Int32.ofNat (t - 32) = Int32.ofNat t := by
  have key : ∀ a : Fin 64, 32 ≤ a.1 → (32 : Int32) + Int32.ofNat (a.1 - 32) = Int32.ofNat a.1 := by decide +kernel
  exact key ⟨t, ht⟩ h
theorem pn_3 : plainName "java/lang/Long" = true := by first | (simp [plainName, overriddenIn]; done) | decide +kernel
theorem s13_0 : Nx b13 0 (.lload_n 0) 1 1 := ⟨by decide +kernel, rfl⟩
theorem s13_1 : Nx b13 1 (.l2i) 1 2 := ⟨by decide +kernel, rfl⟩
theorem s13_2 : Nx b13 2 (.istore_n 2) 1 3 := ⟨by decide +kernel, rfl⟩
theorem s13_3 : Nx b13 3 (.iload_n 2) 1 4 := ⟨by decide +kernel, rfl⟩
theorem s13_4 : Bx b13 4 (.ifCond .ne) 21 7 := ⟨(17), by decide +kernel, by decide, by decide, rfl⟩
theorem s13_21 : Nx b13 21 (.iload_n 2) 1 22 := ⟨by decide +kernel, rfl⟩
theorem s13_22 : Nx b13 22 (.invokestatic 311) 3 25 := ⟨by decide +kernel, rfl⟩
theorem pd_0 : ∀ sig, parseMethodDescriptor "(I)I" = some sig → 1 = sig.parameters.length := npOf (r := some .int) (ps := [.int]) (by decide +kernel) rfl
theorem k_2 {Z : State} {a0 : Array Value} (hw : HW1 Z a0) : SL Z a0 "java/lang/Long" 311 y14 b14 2 (some .int) 1 := ⟨(hw _ (List.mem_of_getElem? (i := 68) rfl)), (hw _ (List.mem_of_getElem? (i := 69) rfl)), (hw _ (List.mem_of_getElem? (i := 70) rfl)), (hw _ (List.mem_of_getElem? (i := 71) rfl)), ⟨by decide, by decide⟩, pd_0⟩
theorem s13_25 : Nx b13 25 (.ireturn) 1 26 := ⟨by decide +kernel, rfl⟩
theorem s13_7 : Nx b13 7 (.bipush 32) 2 9 := ⟨by decide +kernel, rfl⟩
theorem s13_9 : Nx b13 9 (.lload_n 0) 1 10 := ⟨by decide +kernel, rfl⟩
theorem s13_10 : Nx b13 10 (.bipush 32) 2 12 := ⟨by decide +kernel, rfl⟩
theorem s13_12 : Nx b13 12 (.lushr) 1 13 := ⟨by decide +kernel, rfl⟩
theorem s13_13 : Nx b13 13 (.l2i) 1 14 := ⟨by decide +kernel, rfl⟩
theorem s13_14 : Nx b13 14 (.invokestatic 311) 3 17 := ⟨by decide +kernel, rfl⟩
theorem s13_17 : Nx b13 17 (.iadd) 1 18 := ⟨by decide +kernel, rfl⟩
theorem s13_18 : Bx b13 18 (.goto) 25 21 := ⟨(7), by decide +kernel, by decide, by decide, rfl⟩
theorem m_ltz (l : Launch) {Z : State} {a0 : Array Value} (hw : HW1 Z a0) (n0 : Nat) (A : List Ob) (a : Int64) (t : Nat) (ht : t < 64) (h1 : own_b a t = true) (h2 : ∀ j, j < t → own_b a j = false) : Met l Z KT n0 y13 b13 3 (some .int) ({ frames := 1, cells := 0, slots := 0, locals := 14 } : Room) #[(.long a)] A (Is (some (.int (Int32.ofNat t))) A) := by
  refine Met.of (a0 := a0) (ls := #[.val (.long a), .second, .unset]) (kok hw) (plainFor_of_name pn_3) (fun m => by first | (simp [entryFrame, mkF, argsToLocals, Value.category]; done) | rfl) (fun G H => ?_)
  refine H.lloadN s13_0 rfl ?_
  refine H.l2i s13_1 rfl ?_
  refine H.istoreN s13_2 (ls' := #[.val (.long a), .second, .val (.int (a).toInt32)]) rfl ?_
  refine H.iloadN s13_3 rfl ?_
  refine H.ifS s13_4 (fun (c4 : ¬ (a).toInt32 = (0 : Int32)) => ?_) (fun (c4 : (a).toInt32 = (0 : Int32)) => ?_)
  · have d4 : ¬ (a).toInt32.toInt = 0 := (i_ne rfl (by decide : (0 : Int32).toInt = 0)).mp c4
    refine H.iloadN s13_21 rfl ?_
    refine H.callSD s13_22 (k_2 hw) (m_itz l hw n0 A (a).toInt32 t (own_lo h1 h2 c4) (by rw [own_c_l2i _ _ (own_lo h1 h2 c4)]; exact h1) (fun j hj => by rw [own_c_l2i _ _ (by have := own_lo h1 h2 c4; omega)]; exact h2 j hj)) (argsL := [(.int (a).toInt32)]) (rest := []) rfl rfl rfl rfl (leb rfl) (leb rfl) (leb rfl) (leb rfl) (st' := [(.int (Int32.ofNat t))]) rfl (k' := 0) rfl (n' := 0) rfl ?_
    exact H.ireturn s13_25 rfl (by simp) rfl ⟨rfl, rfl⟩ (by decide) (by decide)
  · have d4 : (a).toInt32.toInt = 0 := (i_eq rfl (by decide : (0 : Int32).toInt = 0)).mp c4
    refine H.bipush s13_7 (v := (32 : Int32)) (by decide) ?_
    refine H.lloadN s13_9 rfl ?_
    refine H.bipush s13_10 (v := (32 : Int32)) (by decide) ?_
    refine H.lushr s13_12 rfl ?_
    refine H.l2i s13_13 rfl ?_
    refine H.callSD s13_14 (k_2 hw) (m_itz l hw n0 A (((a.toUInt64 >>> ((32 : Int32) &&& 0x3f).toInt64.toUInt64).toInt64).toInt32) (t - 32) (by omega) (by rw [own_c_l2i _ _ (by omega), own_b_ushr, show 32 + (t - 32) = t by have := own_hi h1 c4; omega]; exact h1) (fun j hj => by rw [own_c_l2i _ _ (by omega), own_b_ushr]; exact h2 _ (by omega))) (argsL := [(.int (((a.toUInt64 >>> ((32 : Int32) &&& 0x3f).toInt64.toUInt64).toInt64)).toInt32)]) (rest := [(.int (32 : Int32))]) rfl rfl rfl rfl (leb rfl) (leb rfl) (leb rfl) (leb rfl) (st' := [(.int (Int32.ofNat (t - 32))), (.int (32 : Int32))]) rfl (k' := 0) rfl (n' := 0) rfl ?_
    refine H.iadd s13_17 rfl ?_
    refine H.goto s13_18 ?_
    exact H.ireturn s13_25 rfl (by simp) rfl ⟨by rw [own_32 (own_hi h1 c4) ht], rfl⟩ (by decide) (by decide)


def own_wd (i : Int32) : Int32 := (i.toUInt32 >>> ((6 : Int32) &&& 31).toUInt32).toInt32
def own_x (L : List Int64) (i : Int32) (m : Nat) : Int64 := L.getD (m / 64) 0 &&& (((1 : Int64) <<< (i &&& 0x3f).toInt64) ^^^ (-1 : Int64))
def own_y (e : Int64) (i : Int32) : Int64 := e &&& (((1 : Int64) <<< (own_wd i &&& 0x3f).toInt64) ^^^ (-1 : Int64))
def own_e (L : List Int64) (e : Int64) (i : Int32) (m : Nat) : Int64 := if own_x L i m = 0 then own_y e i else e
def own_Lr (L : List Int64) (i : Int32) (m : Nat) : List Int64 := L.set (m / 64) (own_x L i m)
theorem own_wdf {i : Int32} {m : Nat} (hi : i.toInt = m) : (own_wd i).toInt = ((m / 64 : Nat) : Int) := by
  have q := c_iushr i 6 6 (by decide) (by decide)
  have r := rng32 i
  unfold own_wd
  rw [q, hi]
  omega
theorem own_wd0 {w : Int32} {m : Nat} (h : w.toInt = m) (hm : m < 64) : own_wd w = 0 := by
  have := own_wdf h
  apply Int32.toInt_inj.mp
  rw [this, show (0 : Int32).toInt = 0 by decide]
  omega
theorem own_el {L : List Int64} {n : Nat} (h : n < L.length) : (L.map Value.long)[n]? = some (.long (L.getD n 0)) := by simp [List.getD, h]
theorem own_el2 {L : List Int64} {n : Nat} {x : Int64} (h : n < L.length) : ((L.set n x).map Value.long)[n]? = some (.long x) := by simp [h]

theorem pn_7 : plainName "com/example/wavegrant/wavegrant/IndexSet" = true := by first | (simp [plainName, overriddenIn]; done) | decide +kernel
theorem s8_0 : Nx b8 0 (.iload_n 1) 1 1 := ⟨by decide +kernel, rfl⟩
theorem s8_1 : Nx b8 1 (.bipush 6) 2 3 := ⟨by decide +kernel, rfl⟩
theorem s8_3 : Nx b8 3 (.iushr) 1 4 := ⟨by decide +kernel, rfl⟩
theorem s8_4 : Nx b8 4 (.istore_n 2) 1 5 := ⟨by decide +kernel, rfl⟩
theorem s8_5 : Nx b8 5 (.aload_n 0) 1 6 := ⟨by decide +kernel, rfl⟩
theorem k_4 {Z : State} {a0 : Array Value} (hw : HW1 Z a0) : FL Z a0 KT "com/example/wavegrant/wavegrant/IndexSet" 17 0 1 := ⟨_, _, "com/example/wavegrant/wavegrant/IndexSet", "members", "[J", "", rfl, rfl, (Or.inl (hw _ (List.mem_of_getElem? (i := 23) rfl)))⟩
theorem s8_6 : Nx b8 6 (.getfield 17) 3 9 := ⟨by decide +kernel, rfl⟩
theorem s8_9 : Nx b8 9 (.iload_n 2) 1 10 := ⟨by decide +kernel, rfl⟩
theorem s8_10 : Nx b8 10 (.dup2) 1 11 := ⟨by decide +kernel, rfl⟩
theorem s8_11 : Nx b8 11 (.laload) 1 12 := ⟨by decide +kernel, rfl⟩
theorem s8_12 : Nx b8 12 (.lconst 1) 1 13 := ⟨by decide +kernel, rfl⟩
theorem s8_13 : Nx b8 13 (.iload_n 1) 1 14 := ⟨by decide +kernel, rfl⟩
theorem s8_14 : Nx b8 14 (.lshl) 1 15 := ⟨by decide +kernel, rfl⟩
theorem k_5 {Z : State} {a0 : Array Value} (hw : HW1 Z a0) : (Jvm.Cond.constantLong "com/example/wavegrant/wavegrant/IndexSet" 40 (-1)).before a0 Z = true := (hw _ (List.mem_of_getElem? (i := 30) rfl))
theorem s8_15 : Nx b8 15 (.ldc2_w 40) 3 18 := ⟨by decide +kernel, rfl⟩
theorem s8_18 : Nx b8 18 (.lxor) 1 19 := ⟨by decide +kernel, rfl⟩
theorem s8_19 : Nx b8 19 (.land) 1 20 := ⟨by decide +kernel, rfl⟩
theorem s8_20 : Nx b8 20 (.lastore) 1 21 := ⟨by decide +kernel, rfl⟩
theorem s8_21 : Nx b8 21 (.aload_n 0) 1 22 := ⟨by decide +kernel, rfl⟩
theorem s8_22 : Nx b8 22 (.getfield 17) 3 25 := ⟨by decide +kernel, rfl⟩
theorem s8_25 : Nx b8 25 (.iload_n 2) 1 26 := ⟨by decide +kernel, rfl⟩
theorem s8_26 : Nx b8 26 (.laload) 1 27 := ⟨by decide +kernel, rfl⟩
theorem s8_27 : Nx b8 27 (.lconst 0) 1 28 := ⟨by decide +kernel, rfl⟩
theorem s8_28 : Nx b8 28 (.lcmp) 1 29 := ⟨by decide +kernel, rfl⟩
theorem s8_29 : Bx b8 29 (.ifCond .ne) 51 32 := ⟨(22), by decide +kernel, by decide, by decide, rfl⟩
theorem s8_51 : Nx b8 51 (.return_) 1 52 := ⟨by decide +kernel, rfl⟩
theorem s8_32 : Nx b8 32 (.aload_n 0) 1 33 := ⟨by decide +kernel, rfl⟩
theorem k_6 {Z : State} {a0 : Array Value} (hw : HW1 Z a0) : FL Z a0 KT "com/example/wavegrant/wavegrant/IndexSet" 21 0 2 := ⟨_, _, "com/example/wavegrant/wavegrant/IndexSet", "nonEmpty", "[J", "", rfl, rfl, (Or.inl (hw _ (List.mem_of_getElem? (i := 25) rfl)))⟩
theorem s8_33 : Nx b8 33 (.getfield 21) 3 36 := ⟨by decide +kernel, rfl⟩
theorem s8_36 : Nx b8 36 (.iload_n 2) 1 37 := ⟨by decide +kernel, rfl⟩
theorem s8_37 : Nx b8 37 (.bipush 6) 2 39 := ⟨by decide +kernel, rfl⟩
theorem s8_39 : Nx b8 39 (.iushr) 1 40 := ⟨by decide +kernel, rfl⟩
theorem s8_40 : Nx b8 40 (.dup2) 1 41 := ⟨by decide +kernel, rfl⟩
theorem s8_41 : Nx b8 41 (.laload) 1 42 := ⟨by decide +kernel, rfl⟩
theorem s8_42 : Nx b8 42 (.lconst 1) 1 43 := ⟨by decide +kernel, rfl⟩
theorem s8_43 : Nx b8 43 (.iload_n 2) 1 44 := ⟨by decide +kernel, rfl⟩
theorem s8_44 : Nx b8 44 (.lshl) 1 45 := ⟨by decide +kernel, rfl⟩
theorem s8_45 : Nx b8 45 (.ldc2_w 40) 3 48 := ⟨by decide +kernel, rfl⟩
theorem s8_48 : Nx b8 48 (.lxor) 1 49 := ⟨by decide +kernel, rfl⟩
theorem s8_49 : Nx b8 49 (.land) 1 50 := ⟨by decide +kernel, rfl⟩
theorem s8_50 : Nx b8 50 (.lastore) 1 51 := ⟨by decide +kernel, rfl⟩
theorem m_rem (l : Launch) {Z : State} {a0 : Array Value} (hw : HW1 Z a0) (n0 : Nat) (L : List Int64) (e : Int64) (sz : Int32) (M E : List Value) (i : Int32) (m : Nat) (hi : i.toInt = m) (hn : m / 64 < L.length) (hL : L.length ≤ 4) : Met l Z KT n0 y8 b8 3 none ({ frames := 0, cells := 0, slots := 0, locals := 0 } : Room) #[(.ref (n0 + 0)), (.int i)] [.inl (0, [(.int sz), (.ref (n0 + 1)), (.ref (n0 + 2)), (.ref (n0 + 3)), (.ref (n0 + 4))]), .inr (.long, (L.map Value.long)), .inr (.long, [(.long e)]), .inr (.long, M), .inr (.long, E)] (Is none [.inl (0, [(.int sz), (.ref (n0 + 1)), (.ref (n0 + 2)), (.ref (n0 + 3)), (.ref (n0 + 4))]), .inr (.long, ((own_Lr L i m).map Value.long)), .inr (.long, [(.long (own_e L e i m))]), .inr (.long, M), .inr (.long, E)]) := by
  refine Met.of (a0 := a0) (ls := #[.val (.ref (n0 + 0)), .val (.int i), .unset]) (kok hw) (plainFor_of_name pn_7) (fun m => by first | (simp [entryFrame, mkF, argsToLocals, Value.category]; done) | rfl) (fun G H => ?_)
  have f_wd := own_wdf hi
  refine H.iloadN s8_0 rfl ?_
  refine H.bipush s8_1 (v := (6 : Int32)) (by decide) ?_
  refine H.iushr s8_3 (w := (own_wd i)) rfl ?_
  refine H.istoreN s8_4 (ls' := #[.val (.ref (n0 + 0)), .val (.int i), .val (.int (own_wd i))]) rfl ?_
  refine H.aloadN s8_5 rfl rfl ?_
  refine H.getfield s8_6 (k_4 hw) (i := 0) rfl rfl ?_
  refine H.iloadN s8_9 rfl ?_
  refine H.dup2 s8_10 rfl rfl ?_
  refine H.laload s8_11 (i := 1) (j := (m / 64)) rfl f_wd (v := (.long (L.getD (m / 64) 0))) (own_el hn) ?_
  refine H.lconst s8_12 (v := (1 : Int64)) (by decide) ?_
  refine H.iloadN s8_13 rfl ?_
  refine H.lshl s8_14 rfl ?_
  refine H.ldc2 s8_15 (k_5 hw) ?_
  refine H.lxor s8_18 rfl ?_
  refine H.land s8_19 (w := (own_x L i m)) rfl ?_
  refine H.lastore s8_20 (i := 1) (j := (m / 64)) rfl f_wd (by simpa using hn)  (A' := [.inl (0, [(.int sz), (.ref (n0 + 1)), (.ref (n0 + 2)), (.ref (n0 + 3)), (.ref (n0 + 4))]), .inr (.long, ((L.set (m / 64) (own_x L i m)).map Value.long)), .inr (.long, [(.long e)]), .inr (.long, M), .inr (.long, E)]) (by simp [List.map_set]) ?_
  refine H.aloadN s8_21 rfl rfl ?_
  refine H.getfield s8_22 (k_4 hw) (i := 0) rfl rfl ?_
  refine H.iloadN s8_25 rfl ?_
  refine H.laload s8_26 (i := 1) (j := (m / 64)) rfl f_wd (v := (.long (own_x L i m))) (own_el2 hn) ?_
  refine H.lconst s8_27 (v := (0 : Int64)) (by decide) ?_
  refine H.lifS s8_28 s8_29 (fun (c28 : ¬ (own_x L i m) = (0 : Int64)) => ?_) (fun (c28 : (own_x L i m) = (0 : Int64)) => ?_)
  · have d28 : ¬ (own_x L i m).toInt = 0 := (j_ne rfl (by decide : (0 : Int64).toInt = 0)).mp c28
    exact H.vreturn s8_51 rfl ⟨rfl, by rw [own_Lr, own_e, if_neg c28]⟩ (by decide) (by decide)
  · have d28 : (own_x L i m).toInt = 0 := (j_eq rfl (by decide : (0 : Int64).toInt = 0)).mp c28
    refine H.aloadN s8_32 rfl rfl ?_
    refine H.getfield s8_33 (k_6 hw) (i := 0) rfl rfl ?_
    refine H.iloadN s8_36 rfl ?_
    refine H.bipush s8_37 (v := (6 : Int32)) (by decide) ?_
    refine H.iushr s8_39 (w := (0 : Int32)) (own_wd0 f_wd (by omega)) ?_
    refine H.dup2 s8_40 rfl rfl ?_
    refine H.laload s8_41 (i := 2) (j := 0) rfl (by decide) (v := (.long e)) rfl ?_
    refine H.lconst s8_42 (v := (1 : Int64)) (by decide) ?_
    refine H.iloadN s8_43 rfl ?_
    refine H.lshl s8_44 rfl ?_
    refine H.ldc2 s8_45 (k_5 hw) ?_
    refine H.lxor s8_48 rfl ?_
    refine H.land s8_49 (w := (own_y e i)) rfl ?_
    refine H.lastore s8_50 (i := 2) (j := 0) rfl (by decide) (ltb rfl)  (A' := [.inl (0, [(.int sz), (.ref (n0 + 1)), (.ref (n0 + 2)), (.ref (n0 + 3)), (.ref (n0 + 4))]), .inr (.long, ((L.set (m / 64) (own_x L i m)).map Value.long)), .inr (.long, [(.long (own_y e i))]), .inr (.long, M), .inr (.long, E)]) rfl ?_
    exact H.vreturn s8_51 rfl ⟨rfl, by rw [own_Lr, own_e, if_pos c28]⟩ (by decide) (by decide)


def own_ctz (v : Int64) : Nat := ((List.range 64).find? (own_b v)).getD 0
theorem own_ctz_eq {v : Int64} {t : Nat} (ht : t < 64) (h1 : own_b v t = true) (h2 : ∀ j, j < t → own_b v j = false) : own_ctz v = t := by
  have : (List.range 64).find? (own_b v) = some t := by
    rw [List.find?_range_eq_some]
    exact ⟨h1, List.mem_range.mpr ht, fun j hj => by rw [h2 j hj]; rfl⟩
  rw [own_ctz, this]; rfl
theorem own_ctz_p {v : Int64} (h : ¬ v = 0) : own_ctz v < 64 ∧ own_b v (own_ctz v) = true ∧ ∀ j, j < own_ctz v → own_b v j = false := by
  obtain ⟨t, ht, h1, h2⟩ := own_low v h
  rw [own_ctz_eq ht h1 h2]
  exact ⟨ht, h1, h2⟩
def own_z (e : Int64) (i : Int32) : Int64 := e &&& ((-1 : Int64) <<< (i &&& 0x3f).toInt64)
def own_nw (L : List Int64) (e : Int64) (i : Int32) : Int32 := if own_z e i = 0 then Int32.ofNat L.length else Int32.ofNat (own_ctz (own_z e i))
theorem own_or0 (v : Int32) : (0 : Int32) ||| v = v := by apply Int32.toBitVec_inj.mp; simp

theorem s10_0 : Nx b10 0 (.iload_n 1) 1 1 := ⟨by decide +kernel, rfl⟩
theorem s10_1 : Nx b10 1 (.bipush 6) 2 3 := ⟨by decide +kernel, rfl⟩
theorem s10_3 : Nx b10 3 (.iushr) 1 4 := ⟨by decide +kernel, rfl⟩
theorem s10_4 : Nx b10 4 (.istore_n 2) 1 5 := ⟨by decide +kernel, rfl⟩
theorem s10_5 : Nx b10 5 (.iload_n 2) 1 6 := ⟨by decide +kernel, rfl⟩
theorem s10_6 : Nx b10 6 (.aload_n 0) 1 7 := ⟨by decide +kernel, rfl⟩
theorem s10_7 : Nx b10 7 (.getfield 21) 3 10 := ⟨by decide +kernel, rfl⟩
theorem s10_10 : Nx b10 10 (.arraylength) 1 11 := ⟨by decide +kernel, rfl⟩
theorem s10_11 : Bx b10 11 (.if_icmp .lt) 20 14 := ⟨(9), by decide +kernel, by decide, by decide, rfl⟩
theorem s10_20 : Nx b10 20 (.aload_n 0) 1 21 := ⟨by decide +kernel, rfl⟩
theorem s10_21 : Nx b10 21 (.getfield 21) 3 24 := ⟨by decide +kernel, rfl⟩
theorem s10_24 : Nx b10 24 (.iload_n 2) 1 25 := ⟨by decide +kernel, rfl⟩
theorem s10_25 : Nx b10 25 (.laload) 1 26 := ⟨by decide +kernel, rfl⟩
theorem s10_26 : Nx b10 26 (.ldc2_w 40) 3 29 := ⟨by decide +kernel, rfl⟩
theorem s10_29 : Nx b10 29 (.iload_n 1) 1 30 := ⟨by decide +kernel, rfl⟩
theorem s10_30 : Nx b10 30 (.lshl) 1 31 := ⟨by decide +kernel, rfl⟩
theorem s10_31 : Nx b10 31 (.land) 1 32 := ⟨by decide +kernel, rfl⟩
theorem s10_32 : Nx b10 32 (.lstore_n 3) 1 33 := ⟨by decide +kernel, rfl⟩
theorem s10_33 : Nx b10 33 (.lload_n 3) 1 34 := ⟨by decide +kernel, rfl⟩
theorem s10_34 : Nx b10 34 (.lconst 0) 1 35 := ⟨by decide +kernel, rfl⟩
theorem s10_35 : Nx b10 35 (.lcmp) 1 36 := ⟨by decide +kernel, rfl⟩
theorem s10_36 : Bx b10 36 (.ifCond .ne) 67 39 := ⟨(31), by decide +kernel, by decide, by decide, rfl⟩
theorem s10_67 : Nx b10 67 (.iload_n 2) 1 68 := ⟨by decide +kernel, rfl⟩
theorem s10_68 : Nx b10 68 (.bipush 6) 2 70 := ⟨by decide +kernel, rfl⟩
theorem s10_70 : Nx b10 70 (.ishl) 1 71 := ⟨by decide +kernel, rfl⟩
theorem s10_71 : Nx b10 71 (.lload_n 3) 1 72 := ⟨by decide +kernel, rfl⟩
theorem s10_72 : Nx b10 72 (.invokestatic 45) 3 75 := ⟨by decide +kernel, rfl⟩
theorem pd_1 : ∀ sig, parseMethodDescriptor "(J)I" = some sig → 1 = sig.parameters.length := npOf (r := some .int) (ps := [.long]) (by decide +kernel) rfl
theorem k_8 {Z : State} {a0 : Array Value} (hw : HW1 Z a0) : SL Z a0 "com/example/wavegrant/wavegrant/IndexSet" 45 y13 b13 3 (some .int) 1 := ⟨(hw _ (List.mem_of_getElem? (i := 64) rfl)), (hw _ (List.mem_of_getElem? (i := 65) rfl)), (hw _ (List.mem_of_getElem? (i := 66) rfl)), (hw _ (List.mem_of_getElem? (i := 67) rfl)), ⟨by decide, by decide⟩, pd_1⟩
theorem s10_75 : Nx b10 75 (.ior) 1 76 := ⟨by decide +kernel, rfl⟩
theorem s10_76 : Nx b10 76 (.ireturn) 1 77 := ⟨by decide +kernel, rfl⟩
theorem s10_39 : Nx b10 39 (.iinc 2 1) 3 42 := ⟨by decide +kernel, rfl⟩
theorem s10_42 : Nx b10 42 (.iload_n 2) 1 43 := ⟨by decide +kernel, rfl⟩
theorem s10_43 : Nx b10 43 (.aload_n 0) 1 44 := ⟨by decide +kernel, rfl⟩
theorem s10_44 : Nx b10 44 (.getfield 21) 3 47 := ⟨by decide +kernel, rfl⟩
theorem s10_47 : Nx b10 47 (.arraylength) 1 48 := ⟨by decide +kernel, rfl⟩
theorem s10_48 : Bx b10 48 (.if_icmp .ne) 57 51 := ⟨(9), by decide +kernel, by decide, by decide, rfl⟩
theorem s10_51 : Nx b10 51 (.aload_n 0) 1 52 := ⟨by decide +kernel, rfl⟩
theorem s10_52 : Nx b10 52 (.getfield 17) 3 55 := ⟨by decide +kernel, rfl⟩
theorem s10_55 : Nx b10 55 (.arraylength) 1 56 := ⟨by decide +kernel, rfl⟩
theorem s10_56 : Nx b10 56 (.ireturn) 1 57 := ⟨by decide +kernel, rfl⟩
theorem m_new (l : Launch) {Z : State} {a0 : Array Value} (hw : HW1 Z a0) (n0 : Nat) (L : List Int64) (e : Int64) (sz : Int32) (M E : List Value) (i : Int32) (m : Nat) (hi : i.toInt = m) (hm : m < 64) : Met l Z KT n0 y10 b10 5 (some .int) ({ frames := 2, cells := 0, slots := 0, locals := 29 } : Room) #[(.ref (n0 + 0)), (.int i)] [.inl (0, [(.int sz), (.ref (n0 + 1)), (.ref (n0 + 2)), (.ref (n0 + 3)), (.ref (n0 + 4))]), .inr (.long, (L.map Value.long)), .inr (.long, [(.long e)]), .inr (.long, M), .inr (.long, E)] (Is (some (.int (own_nw L e i))) [.inl (0, [(.int sz), (.ref (n0 + 1)), (.ref (n0 + 2)), (.ref (n0 + 3)), (.ref (n0 + 4))]), .inr (.long, (L.map Value.long)), .inr (.long, [(.long e)]), .inr (.long, M), .inr (.long, E)]) := by
  refine Met.of (a0 := a0) (ls := #[.val (.ref (n0 + 0)), .val (.int i), .unset, .unset, .unset]) (kok hw) (plainFor_of_name pn_7) (fun m => by first | (simp [entryFrame, mkF, argsToLocals, Value.category]; done) | rfl) (fun G H => ?_)
  refine H.iloadN s10_0 rfl ?_
  refine H.bipush s10_1 (v := (6 : Int32)) (by decide) ?_
  refine H.iushr s10_3 (w := (0 : Int32)) (own_wd0 hi (by omega)) ?_
  refine H.istoreN s10_4 (ls' := #[.val (.ref (n0 + 0)), .val (.int i), .val (.int (0 : Int32)), .unset, .unset]) rfl ?_
  refine H.iloadN s10_5 rfl ?_
  refine H.aloadN s10_6 rfl rfl ?_
  refine H.getfield s10_7 (k_6 hw) (i := 0) rfl rfl ?_
  refine H.arraylength s10_10 (i := 2) rfl (z := (1 : Int32)) rfl ?_
  refine H.icmpT s10_11 (show (0 : Int32) < (1 : Int32) by decide) ?_
  refine H.aloadN s10_20 rfl rfl ?_
  refine H.getfield s10_21 (k_6 hw) (i := 0) rfl rfl ?_
  refine H.iloadN s10_24 rfl ?_
  refine H.laload s10_25 (i := 2) (j := 0) rfl (by decide) (v := (.long e)) rfl ?_
  refine H.ldc2 s10_26 (k_5 hw) ?_
  refine H.iloadN s10_29 rfl ?_
  refine H.lshl s10_30 rfl ?_
  refine H.land s10_31 (w := (own_z e i)) rfl ?_
  refine H.lstoreN s10_32 (ls' := #[.val (.ref (n0 + 0)), .val (.int i), .val (.int (0 : Int32)), .val (.long (own_z e i)), .second]) rfl ?_
  refine H.lloadN s10_33 rfl ?_
  refine H.lconst s10_34 (v := (0 : Int64)) (by decide) ?_
  refine H.lifS s10_35 s10_36 (fun (c35 : ¬ (own_z e i) = (0 : Int64)) => ?_) (fun (c35 : (own_z e i) = (0 : Int64)) => ?_)
  · have d35 : ¬ (own_z e i).toInt = 0 := (j_ne rfl (by decide : (0 : Int64).toInt = 0)).mp c35
    refine H.iloadN s10_67 rfl ?_
    refine H.bipush s10_68 (v := (6 : Int32)) (by decide) ?_
    refine H.ishl s10_70 (w := (0 : Int32)) (by decide) ?_
    refine H.lloadN s10_71 rfl ?_
    refine H.callSD s10_72 (k_8 hw) (m_ltz l hw n0 [.inl (0, [(.int sz), (.ref (n0 + 1)), (.ref (n0 + 2)), (.ref (n0 + 3)), (.ref (n0 + 4))]), .inr (.long, (L.map Value.long)), .inr (.long, [(.long e)]), .inr (.long, M), .inr (.long, E)] (own_z e i) (own_ctz (own_z e i)) (own_ctz_p c35).1 (own_ctz_p c35).2.1 (own_ctz_p c35).2.2) (argsL := [(.long (own_z e i))]) (rest := [(.int (0 : Int32))]) rfl rfl rfl rfl (leb rfl) (leb rfl) (leb rfl) (leb rfl) (st' := [(.int (Int32.ofNat (own_ctz (own_z e i)))), (.int (0 : Int32))]) rfl (k' := 0) rfl (n' := 0) rfl ?_
    refine H.ior s10_75 (w := (Int32.ofNat (own_ctz (own_z e i)))) (own_or0 _) ?_
    exact H.ireturn s10_76 rfl (by simp) rfl ⟨by rw [own_nw, if_neg c35], rfl⟩ (by decide) (by decide)
  · have d35 : (own_z e i).toInt = 0 := (j_eq rfl (by decide : (0 : Int64).toInt = 0)).mp c35
    refine H.iinc s10_39 rfl (w := (1 : Int32)) (by decide) (ls' := #[.val (.ref (n0 + 0)), .val (.int i), .val (.int (1 : Int32)), .val (.long (own_z e i)), .second]) rfl ?_
    refine H.iloadN s10_42 rfl ?_
    refine H.aloadN s10_43 rfl rfl ?_
    refine H.getfield s10_44 (k_6 hw) (i := 0) rfl rfl ?_
    refine H.arraylength s10_47 (i := 2) rfl (z := (1 : Int32)) rfl ?_
    refine H.icmpF s10_48 (show (1 : Int32) = (1 : Int32) by decide) ?_
    refine H.aloadN s10_51 rfl rfl ?_
    refine H.getfield s10_52 (k_4 hw) (i := 0) rfl rfl ?_
    refine H.arraylength s10_55 (i := 1) rfl (z := (Int32.ofNat L.length)) (by rw [List.length_map]) ?_
    exact H.ireturn s10_56 rfl (by simp) rfl ⟨by rw [own_nw, if_pos c35], rfl⟩ (by decide) (by decide)


def own_v (L : List Int64) (i : Int32) (m : Nat) : Int64 := L.getD (m / 64) 0 &&& ((-1 : Int64) <<< (i &&& 0x3f).toInt64)
def own_r (w : Int32) (t : Nat) : Int32 := (w <<< ((6 : Int32) &&& 31)) ||| Int32.ofNat t
def own_g (e : Int64) (i : Int32) : Nat := own_ctz (own_z e (own_wd i + (1 : Int32)))
def own_nxt (L : List Int64) (e : Int64) (sz i : Int32) (m : Nat) : Int32 := if own_wd i < Int32.ofNat L.length then (if own_v L i m = 0 then (if own_nw L e (own_wd i + (1 : Int32)) = Int32.ofNat L.length then sz else own_r (own_nw L e (own_wd i + (1 : Int32))) (own_ctz (L.getD (own_g e i) 0))) else own_r (own_wd i) (own_ctz (own_v L i m))) else sz
theorem own_ofN {n : Nat} (h : n < 1000) : (Int32.ofNat n).toInt = n := by
  show (BitVec.ofNat 32 n).toInt = n
  rw [BitVec.toInt_eq_toNat_cond, BitVec.toNat_ofNat, Nat.mod_eq_of_lt (by omega), if_pos (by omega)]
theorem own_hn {L : List Int64} {i : Int32} {m : Nat} (f : (own_wd i).toInt = ((m / 64 : Nat) : Int)) (h : own_wd i < Int32.ofNat L.length) (hL : L.length ≤ 4) : m / 64 < L.length := by
  have := (i_lt f (own_ofN (n := L.length) (by omega))).mp h
  omega
theorem own_w1 {i : Int32} {m : Nat} (f : (own_wd i).toInt = ((m / 64 : Nat) : Int)) (h : m / 64 < 4) : (own_wd i + (1 : Int32)).toInt = ((m / 64 + 1 : Nat) : Int) := by
  rw [x_iadd f (by decide : (1 : Int32).toInt = 1) (by omega)]
  omega
theorem own_nz {L : List Int64} {e : Int64} {i : Int32} (h : ¬ own_nw L e i = Int32.ofNat L.length) : ¬ own_z e i = 0 ∧ own_nw L e i = Int32.ofNat (own_ctz (own_z e i)) := by
  have q : ¬ own_z e i = 0 := fun q => h (by rw [own_nw, if_pos q])
  exact ⟨q, by rw [own_nw, if_neg q]⟩
theorem own_zb {e : Int64} {i : Int32} (h : ¬ own_z e i = 0) : own_b e (own_ctz (own_z e i)) = true := by
  have q := (own_ctz_p h).2.1
  rw [own_z, own_b_and] at q
  simp only [Bool.and_eq_true] at q
  exact q.1
theorem own_nwi {L : List Int64} {e : Int64} {i : Int32} (h : ¬ own_nw L e i = Int32.ofNat L.length) : (own_nw L e i).toInt = ((own_ctz (own_z e i) : Nat) : Int) := by
  rw [(own_nz h).2]
  exact own_ofN (by have := (own_ctz_p (own_nz h).1).1; omega)

theorem s9_0 : Nx b9 0 (.iload_n 1) 1 1 := ⟨by decide +kernel, rfl⟩
theorem s9_1 : Nx b9 1 (.bipush 6) 2 3 := ⟨by decide +kernel, rfl⟩
theorem s9_3 : Nx b9 3 (.iushr) 1 4 := ⟨by decide +kernel, rfl⟩
theorem s9_4 : Nx b9 4 (.istore_n 2) 1 5 := ⟨by decide +kernel, rfl⟩
theorem s9_5 : Nx b9 5 (.iload_n 2) 1 6 := ⟨by decide +kernel, rfl⟩
theorem s9_6 : Nx b9 6 (.aload_n 0) 1 7 := ⟨by decide +kernel, rfl⟩
theorem s9_7 : Nx b9 7 (.getfield 17) 3 10 := ⟨by decide +kernel, rfl⟩
theorem s9_10 : Nx b9 10 (.arraylength) 1 11 := ⟨by decide +kernel, rfl⟩
theorem s9_11 : Bx b9 11 (.if_icmp .lt) 19 14 := ⟨(8), by decide +kernel, by decide, by decide, rfl⟩
theorem s9_19 : Nx b9 19 (.aload_n 0) 1 20 := ⟨by decide +kernel, rfl⟩
theorem s9_20 : Nx b9 20 (.getfield 17) 3 23 := ⟨by decide +kernel, rfl⟩
theorem s9_23 : Nx b9 23 (.iload_n 2) 1 24 := ⟨by decide +kernel, rfl⟩
theorem s9_24 : Nx b9 24 (.laload) 1 25 := ⟨by decide +kernel, rfl⟩
theorem s9_25 : Nx b9 25 (.ldc2_w 40) 3 28 := ⟨by decide +kernel, rfl⟩
theorem s9_28 : Nx b9 28 (.iload_n 1) 1 29 := ⟨by decide +kernel, rfl⟩
theorem s9_29 : Nx b9 29 (.lshl) 1 30 := ⟨by decide +kernel, rfl⟩
theorem s9_30 : Nx b9 30 (.land) 1 31 := ⟨by decide +kernel, rfl⟩
theorem s9_31 : Nx b9 31 (.lstore_n 3) 1 32 := ⟨by decide +kernel, rfl⟩
theorem s9_32 : Nx b9 32 (.lload_n 3) 1 33 := ⟨by decide +kernel, rfl⟩
theorem s9_33 : Nx b9 33 (.lconst 0) 1 34 := ⟨by decide +kernel, rfl⟩
theorem s9_34 : Nx b9 34 (.lcmp) 1 35 := ⟨by decide +kernel, rfl⟩
theorem s9_35 : Bx b9 35 (.ifCond .ne) 67 38 := ⟨(32), by decide +kernel, by decide, by decide, rfl⟩
theorem s9_67 : Nx b9 67 (.iload_n 2) 1 68 := ⟨by decide +kernel, rfl⟩
theorem s9_68 : Nx b9 68 (.bipush 6) 2 70 := ⟨by decide +kernel, rfl⟩
theorem s9_70 : Nx b9 70 (.ishl) 1 71 := ⟨by decide +kernel, rfl⟩
theorem s9_71 : Nx b9 71 (.lload_n 3) 1 72 := ⟨by decide +kernel, rfl⟩
theorem s9_72 : Nx b9 72 (.invokestatic 45) 3 75 := ⟨by decide +kernel, rfl⟩
theorem s9_75 : Nx b9 75 (.ior) 1 76 := ⟨by decide +kernel, rfl⟩
theorem s9_76 : Nx b9 76 (.ireturn) 1 77 := ⟨by decide +kernel, rfl⟩
theorem s9_38 : Nx b9 38 (.aload_n 0) 1 39 := ⟨by decide +kernel, rfl⟩
theorem s9_39 : Nx b9 39 (.iload_n 2) 1 40 := ⟨by decide +kernel, rfl⟩
theorem s9_40 : Nx b9 40 (.iconst 1) 1 41 := ⟨by decide +kernel, rfl⟩
theorem s9_41 : Nx b9 41 (.iadd) 1 42 := ⟨by decide +kernel, rfl⟩
theorem s9_42 : Nx b9 42 (.invokevirtual 42) 3 45 := ⟨by decide +kernel, rfl⟩
theorem k_9 {Z : State} {a0 : Array Value} (hw : HW1 Z a0) : ML Z a0 KT "com/example/wavegrant/wavegrant/IndexSet" 42 0 y10 b10 5 (some .int) 1 := ⟨_, _, rfl, (hw _ (List.mem_of_getElem? (i := 54) rfl)), (hw _ (List.mem_of_getElem? (i := 56) rfl)), rfl, (hw _ (List.mem_of_getElem? (i := 55) rfl)), (hw _ (List.mem_of_getElem? (i := 10) rfl)), (hw _ (List.mem_of_getElem? (i := 57) rfl)), ⟨by decide, by decide⟩, pd_0⟩
theorem s9_45 : Nx b9 45 (.istore_n 2) 1 46 := ⟨by decide +kernel, rfl⟩
theorem s9_46 : Nx b9 46 (.iload_n 2) 1 47 := ⟨by decide +kernel, rfl⟩
theorem s9_47 : Nx b9 47 (.aload_n 0) 1 48 := ⟨by decide +kernel, rfl⟩
theorem s9_48 : Nx b9 48 (.getfield 17) 3 51 := ⟨by decide +kernel, rfl⟩
theorem s9_51 : Nx b9 51 (.arraylength) 1 52 := ⟨by decide +kernel, rfl⟩
theorem s9_52 : Bx b9 52 (.if_icmp .ne) 60 55 := ⟨(8), by decide +kernel, by decide, by decide, rfl⟩
theorem s9_60 : Nx b9 60 (.aload_n 0) 1 61 := ⟨by decide +kernel, rfl⟩
theorem s9_61 : Nx b9 61 (.getfield 17) 3 64 := ⟨by decide +kernel, rfl⟩
theorem s9_64 : Nx b9 64 (.iload_n 2) 1 65 := ⟨by decide +kernel, rfl⟩
theorem s9_65 : Nx b9 65 (.laload) 1 66 := ⟨by decide +kernel, rfl⟩
theorem s9_66 : Nx b9 66 (.lstore_n 3) 1 67 := ⟨by decide +kernel, rfl⟩
theorem s9_55 : Nx b9 55 (.aload_n 0) 1 56 := ⟨by decide +kernel, rfl⟩
theorem k_10 {Z : State} {a0 : Array Value} (hw : HW1 Z a0) : FL Z a0 KT "com/example/wavegrant/wavegrant/IndexSet" 7 0 0 := ⟨_, _, "com/example/wavegrant/wavegrant/IndexSet", "size", "I", "", rfl, rfl, (Or.inl (hw _ (List.mem_of_getElem? (i := 17) rfl)))⟩
theorem s9_56 : Nx b9 56 (.getfield 7) 3 59 := ⟨by decide +kernel, rfl⟩
theorem s9_59 : Nx b9 59 (.ireturn) 1 60 := ⟨by decide +kernel, rfl⟩
theorem s9_14 : Nx b9 14 (.aload_n 0) 1 15 := ⟨by decide +kernel, rfl⟩
theorem s9_15 : Nx b9 15 (.getfield 7) 3 18 := ⟨by decide +kernel, rfl⟩
theorem s9_18 : Nx b9 18 (.ireturn) 1 19 := ⟨by decide +kernel, rfl⟩
theorem m_nxt (l : Launch) {Z : State} {a0 : Array Value} (hw : HW1 Z a0) (n0 : Nat) (L : List Int64) (e : Int64) (sz : Int32) (M E : List Value) (i : Int32) (m : Nat) (hi : i.toInt = m) (hL : L.length ≤ 4) (he : ∀ w, own_b e w = true → w < L.length) (hz : ∀ w, own_b e w = true → ¬ L.getD w 0 = 0) : Met l Z KT n0 y9 b9 5 (some .int) ({ frames := 3, cells := 0, slots := 0, locals := 45 } : Room) #[(.ref (n0 + 0)), (.int i)] [.inl (0, [(.int sz), (.ref (n0 + 1)), (.ref (n0 + 2)), (.ref (n0 + 3)), (.ref (n0 + 4))]), .inr (.long, (L.map Value.long)), .inr (.long, [(.long e)]), .inr (.long, M), .inr (.long, E)] (Is (some (.int (own_nxt L e sz i m))) [.inl (0, [(.int sz), (.ref (n0 + 1)), (.ref (n0 + 2)), (.ref (n0 + 3)), (.ref (n0 + 4))]), .inr (.long, (L.map Value.long)), .inr (.long, [(.long e)]), .inr (.long, M), .inr (.long, E)]) := by
  refine Met.of (a0 := a0) (ls := #[.val (.ref (n0 + 0)), .val (.int i), .unset, .unset, .unset]) (kok hw) (plainFor_of_name pn_7) (fun m => by first | (simp [entryFrame, mkF, argsToLocals, Value.category]; done) | rfl) (fun G H => ?_)
  have f_wd := own_wdf hi
  refine H.iloadN s9_0 rfl ?_
  refine H.bipush s9_1 (v := (6 : Int32)) (by decide) ?_
  refine H.iushr s9_3 (w := (own_wd i)) rfl ?_
  refine H.istoreN s9_4 (ls' := #[.val (.ref (n0 + 0)), .val (.int i), .val (.int (own_wd i)), .unset, .unset]) rfl ?_
  refine H.iloadN s9_5 rfl ?_
  refine H.aloadN s9_6 rfl rfl ?_
  refine H.getfield s9_7 (k_4 hw) (i := 0) rfl rfl ?_
  refine H.arraylength s9_10 (i := 1) rfl (z := (Int32.ofNat L.length)) (by rw [List.length_map]) ?_
  refine H.icmpS s9_11 (fun (c11 : (own_wd i) < (Int32.ofNat L.length)) => ?_) (fun (c11 : ¬ (own_wd i) < (Int32.ofNat L.length)) => ?_)
  · have d11 : (own_wd i).toInt < (Int32.ofNat L.length).toInt := (i_lt rfl rfl).mp c11
    refine H.aloadN s9_19 rfl rfl ?_
    refine H.getfield s9_20 (k_4 hw) (i := 0) rfl rfl ?_
    refine H.iloadN s9_23 rfl ?_
    refine H.laload s9_24 (i := 1) (j := (m / 64)) rfl f_wd (v := (.long (L.getD (m / 64) 0))) (own_el (own_hn f_wd c11 hL)) ?_
    refine H.ldc2 s9_25 (k_5 hw) ?_
    refine H.iloadN s9_28 rfl ?_
    refine H.lshl s9_29 rfl ?_
    refine H.land s9_30 (w := (own_v L i m)) rfl ?_
    refine H.lstoreN s9_31 (ls' := #[.val (.ref (n0 + 0)), .val (.int i), .val (.int (own_wd i)), .val (.long (own_v L i m)), .second]) rfl ?_
    refine H.lloadN s9_32 rfl ?_
    refine H.lconst s9_33 (v := (0 : Int64)) (by decide) ?_
    refine H.lifS s9_34 s9_35 (fun (c34 : ¬ (own_v L i m) = (0 : Int64)) => ?_) (fun (c34 : (own_v L i m) = (0 : Int64)) => ?_)
    · have d34 : ¬ (own_v L i m).toInt = 0 := (j_ne rfl (by decide : (0 : Int64).toInt = 0)).mp c34
      refine H.iloadN s9_67 rfl ?_
      refine H.bipush s9_68 (v := (6 : Int32)) (by decide) ?_
      refine H.ishl s9_70 rfl ?_
      refine H.lloadN s9_71 rfl ?_
      refine H.callSD s9_72 (k_8 hw) (m_ltz l hw n0 [.inl (0, [(.int sz), (.ref (n0 + 1)), (.ref (n0 + 2)), (.ref (n0 + 3)), (.ref (n0 + 4))]), .inr (.long, (L.map Value.long)), .inr (.long, [(.long e)]), .inr (.long, M), .inr (.long, E)] (own_v L i m) (own_ctz (own_v L i m)) (own_ctz_p c34).1 (own_ctz_p c34).2.1 (own_ctz_p c34).2.2) (argsL := [(.long (own_v L i m))]) (rest := [(.int ((own_wd i) <<< ((6 : Int32) &&& 31)))]) rfl rfl rfl rfl (leb rfl) (leb rfl) (leb rfl) (leb rfl) (st' := [(.int (Int32.ofNat (own_ctz (own_v L i m)))), (.int ((own_wd i) <<< ((6 : Int32) &&& 31)))]) rfl (k' := 0) rfl (n' := 0) rfl ?_
      refine H.ior s9_75 (w := (own_r (own_wd i) (own_ctz (own_v L i m)))) rfl ?_
      exact H.ireturn s9_76 rfl (by simp) rfl ⟨by rw [own_nxt, if_pos c11, if_neg c34], rfl⟩ (by decide) (by decide)
    · have d34 : (own_v L i m).toInt = 0 := (j_eq rfl (by decide : (0 : Int64).toInt = 0)).mp c34
      refine H.aloadN s9_38 rfl rfl ?_
      refine H.iloadN s9_39 rfl ?_
      refine H.iconst s9_40 (v := (1 : Int32)) (by decide) ?_
      refine H.iadd s9_41 rfl ?_
      refine H.callMD s9_42 (k_9 hw) (m_new l hw n0 L e sz M E ((own_wd i) + (1 : Int32)) (m / 64 + 1) (own_w1 f_wd (by have := own_hn f_wd c11 hL; omega)) (by have := own_hn f_wd c11 hL; omega)) (i := 0) rfl (argsL := [(.int ((own_wd i) + (1 : Int32)))]) (rest := []) rfl rfl rfl rfl (leb rfl) (leb rfl) (leb rfl) (leb rfl) (st' := [(.int (own_nw L e ((own_wd i) + (1 : Int32))))]) rfl (k' := 0) rfl (n' := 0) rfl ?_
      refine H.istoreN s9_45 (ls' := #[.val (.ref (n0 + 0)), .val (.int i), .val (.int (own_nw L e ((own_wd i) + (1 : Int32)))), .val (.long (own_v L i m)), .second]) rfl ?_
      refine H.iloadN s9_46 rfl ?_
      refine H.aloadN s9_47 rfl rfl ?_
      refine H.getfield s9_48 (k_4 hw) (i := 0) rfl rfl ?_
      refine H.arraylength s9_51 (i := 1) rfl (z := (Int32.ofNat L.length)) (by rw [List.length_map]) ?_
      refine H.icmpS s9_52 (fun (c52 : ¬ (own_nw L e ((own_wd i) + (1 : Int32))) = (Int32.ofNat L.length)) => ?_) (fun (c52 : (own_nw L e ((own_wd i) + (1 : Int32))) = (Int32.ofNat L.length)) => ?_)
      · have d52 : ¬ (own_nw L e ((own_wd i) + (1 : Int32))).toInt = (Int32.ofNat L.length).toInt := (i_ne rfl rfl).mp c52
        refine H.aloadN s9_60 rfl rfl ?_
        refine H.getfield s9_61 (k_4 hw) (i := 0) rfl rfl ?_
        refine H.iloadN s9_64 rfl ?_
        refine H.laload s9_65 (i := 1) (j := (own_g e i)) rfl (own_nwi c52) (v := (.long (L.getD (own_g e i) 0))) (own_el (he _ (own_zb (own_nz c52).1))) ?_
        refine H.lstoreN s9_66 (ls' := #[.val (.ref (n0 + 0)), .val (.int i), .val (.int (own_nw L e ((own_wd i) + (1 : Int32)))), .val (.long (L.getD (own_g e i) 0)), .second]) rfl ?_
        refine H.iloadN s9_67 rfl ?_
        refine H.bipush s9_68 (v := (6 : Int32)) (by decide) ?_
        refine H.ishl s9_70 rfl ?_
        refine H.lloadN s9_71 rfl ?_
        refine H.callSD s9_72 (k_8 hw) (m_ltz l hw n0 [.inl (0, [(.int sz), (.ref (n0 + 1)), (.ref (n0 + 2)), (.ref (n0 + 3)), (.ref (n0 + 4))]), .inr (.long, (L.map Value.long)), .inr (.long, [(.long e)]), .inr (.long, M), .inr (.long, E)] (L.getD (own_g e i) 0) (own_ctz (L.getD (own_g e i) 0)) (own_ctz_p (hz _ (own_zb (own_nz c52).1))).1 (own_ctz_p (hz _ (own_zb (own_nz c52).1))).2.1 (own_ctz_p (hz _ (own_zb (own_nz c52).1))).2.2) (argsL := [(.long (L.getD (own_g e i) 0))]) (rest := [(.int ((own_nw L e ((own_wd i) + (1 : Int32))) <<< ((6 : Int32) &&& 31)))]) rfl rfl rfl rfl (leb rfl) (leb rfl) (leb rfl) (leb rfl) (st' := [(.int (Int32.ofNat (own_ctz (L.getD (own_g e i) 0)))), (.int ((own_nw L e ((own_wd i) + (1 : Int32))) <<< ((6 : Int32) &&& 31)))]) rfl (k' := 0) rfl (n' := 0) rfl ?_
        refine H.ior s9_75 (w := (own_r (own_nw L e (own_wd i + (1 : Int32))) (own_ctz (L.getD (own_g e i) 0)))) rfl ?_
        exact H.ireturn s9_76 rfl (by simp) rfl ⟨by rw [own_nxt, if_pos c11, if_pos c34, if_neg c52], rfl⟩ (by decide) (by decide)
      · have d52 : (own_nw L e ((own_wd i) + (1 : Int32))).toInt = (Int32.ofNat L.length).toInt := (i_eq rfl rfl).mp c52
        refine H.aloadN s9_55 rfl rfl ?_
        refine H.getfield s9_56 (k_10 hw) (i := 0) rfl rfl ?_
        exact H.ireturn s9_59 rfl (by simp) rfl ⟨by rw [own_nxt, if_pos c11, if_pos c34, if_pos c52], rfl⟩ (by decide) (by decide)
  · have d11 : (Int32.ofNat L.length).toInt ≤ (own_wd i).toInt := (i_ge rfl rfl).mp c11
    refine H.aloadN s9_14 rfl rfl ?_
    refine H.getfield s9_15 (k_10 hw) (i := 0) rfl rfl ?_
    exact H.ireturn s9_18 rfl (by simp) rfl ⟨by rw [own_nxt, if_neg c11], rfl⟩ (by decide) (by decide)

def Inv (f : Nat → Bool) (W : Nat) (L : List Int64) (e : Int64) : Prop := L.length = W ∧ (∀ w, w < W → ∀ j, j < 64 → own_b (L.getD w 0) j = f (64 * w + j)) ∧ (∀ w, own_b e w = true ↔ (w < W ∧ ¬ L.getD w 0 = 0))
theorem own_not1 (q : Int32) (k : Nat) (hk : q.toBitVec.toNat % 64 = k) (j : Nat) (hj : j < 64) : own_b (((1 : Int64) <<< (q &&& 0x3f).toInt64) ^^^ (-1 : Int64)) j = !decide (j = k) := by
  rw [own_b_xor, own_b_m1, own_b_shl _ _ _ hk, own_b_1]
  by_cases h : j = k
  · subst h; simp [hj]
  · by_cases h2 : j < k
    · have : ¬ j = k := h
      simp [hj, h2, this]
    · have a : ¬ j - k = 0 := by omega
      simp [hj, a, h]
theorem own_m1 (q : Int32) (k : Nat) (hk : q.toBitVec.toNat % 64 = k) (j : Nat) (hj : j < 64) : own_b ((-1 : Int64) <<< (q &&& 0x3f).toInt64) j = decide (k ≤ j) := by
  rw [own_b_shl _ _ _ hk, own_b_m1]
  have : j - k < 64 := by omega
  by_cases h : j < k
  · have : ¬ k ≤ j := by omega
    simp [h, this]
  · have : k ≤ j := by omega
    simp [h, hj, this]; omega
theorem own_inv_rem {f : Nat → Bool} {W : Nat} {L : List Int64} {e : Int64} (h : Inv f W L e) {i : Int32} {m : Nat} (hi : i.toInt = m) (hm : m / 64 < W) (hW : W ≤ 4) : Inv (fun j => f j && !decide (j = m)) W (L.set (m / 64) (own_x L i m)) (own_e L e i m) := by
  obtain ⟨h1, h2, h3⟩ := h
  have gs : (L.set (m / 64) (own_x L i m)).getD (m / 64) 0 = own_x L i m := by simp [List.getD, h1, hm]
  have gn : ∀ w, w ≠ m / 64 → (L.set (m / 64) (own_x L i m)).getD w 0 = L.getD w 0 := fun w hw => by simp [List.getD, List.getElem?_set, Ne.symm hw]
  have bx : ∀ j, j < 64 → own_b (own_x L i m) j = (f (64 * (m / 64) + j) && !decide (64 * (m / 64) + j = m)) := by
    intro j hj
    rw [own_x, own_b_and, own_not1 i (m % 64) (own_q hi) j hj, h2 _ hm j hj]
    congr 2
    apply decide_eq_decide.mpr
    omega
  refine ⟨by simpa using h1, fun w hw j hj => ?_, fun w => ?_⟩
  · by_cases hc : w = m / 64
    · subst hc
      rw [gs, bx j hj]
    · rw [gn w hc, h2 w hw j hj]
      have : ¬ 64 * w + j = m := by omega
      simp [this]
  · unfold own_e
    have hwd := own_wdf hi
    split
    · next hx =>
      by_cases h64 : w < 64
      · rw [own_y, own_b_and, own_not1 _ (m / 64) (by rw [own_q hwd]; omega) w h64]
        by_cases hc : w = m / 64
        · subst hc
          rw [gs, hx]
          simp
        · rw [gn w hc]
          simp [hc, h3 w]
      · rw [own_b_hi _ _ (by omega)]
        constructor
        · intro q; cases q
        · rintro ⟨q, -⟩; omega
    · next hx =>
      rw [h3 w]
      by_cases hc : w = m / 64
      · subst hc
        rw [gs]
        constructor
        · rintro ⟨q, -⟩; exact ⟨q, hx⟩
        · rintro ⟨q, -⟩
          refine ⟨q, fun q0 => hx ?_⟩
          rw [own_x, q0]
          exact (own_b_0 _).mpr (fun j hj => by rw [own_b_and]; simp [own_b])
      · rw [gn w hc]

def own_maxI (a b : Int32) : Int32 := if a < b then b else a
theorem own_maxI_t {a b : Int32} (h : a < b) : own_maxI a b = b := if_pos h
theorem own_maxI_f {a b : Int32} (h : ¬ a < b) : own_maxI a b = a := if_neg h
theorem own_maxI_i (a b : Int32) : (own_maxI a b).toInt = max a.toInt b.toInt := by
  unfold own_maxI
  split
  · next h => have := (i_lt rfl rfl).mp h; omega
  · next h => have := (i_ge rfl rfl).mp h; omega
theorem s1_0 : Nx b1 0 (.iload_n 0) 1 1 := ⟨by decide +kernel, rfl⟩
theorem s1_1 : Nx b1 1 (.iload_n 1) 1 2 := ⟨by decide +kernel, rfl⟩
theorem s1_2 : Bx b1 2 (.if_icmp .lt) 9 5 := ⟨(7), by decide +kernel, by decide, by decide, rfl⟩
theorem s1_9 : Nx b1 9 (.iload_n 1) 1 10 := ⟨by decide +kernel, rfl⟩
theorem s1_10 : Nx b1 10 (.ireturn) 1 11 := ⟨by decide +kernel, rfl⟩
theorem s1_5 : Nx b1 5 (.iload_n 0) 1 6 := ⟨by decide +kernel, rfl⟩
theorem s1_6 : Bx b1 6 (.goto) 10 9 := ⟨(4), by decide +kernel, by decide, by decide, rfl⟩
theorem m_maxI (l : Launch) {Z : State} {a0 : Array Value} (hw : HW1 Z a0) (n0 : Nat) (A : List Ob) (a b : Int32) : Met l Z KT n0 y1 b1 2 (some .int) ({ frames := 0, cells := 0, slots := 0, locals := 0 } : Room) #[(.int a), (.int b)] A (Is (some (.int (own_maxI a b))) A) := by
  refine Met.of (a0 := a0) (ls := #[.val (.int a), .val (.int b)]) (kok hw) (Jvm.Free.JP.mathPlain rfl (by decide +kernel)) (fun m => by first | (simp [entryFrame, mkF, argsToLocals, Value.category]; done) | rfl) (fun G H => ?_)
  refine H.iloadN s1_0 rfl ?_
  refine H.iloadN s1_1 rfl ?_
  refine H.icmpS s1_2 (fun (c2 : a < b) => ?_) (fun (c2 : ¬ a < b) => ?_)
  · have d2 : a.toInt < b.toInt := (i_lt rfl rfl).mp c2
    refine H.iloadN s1_9 rfl ?_
    exact H.ireturn s1_10 rfl (by simp) rfl ⟨by rw [own_maxI_t c2], rfl⟩ (by decide) (by decide)
  · have d2 : b.toInt ≤ a.toInt := (i_ge rfl rfl).mp c2
    refine H.iloadN s1_5 rfl ?_
    refine H.goto s1_6 ?_
    exact H.ireturn s1_10 rfl (by simp) rfl ⟨by rw [own_maxI_f c2], rfl⟩ (by decide) (by decide)

theorem own_r_eq {w : Int32} {k t : Nat} (h : w.toInt = k) (hk : k < 64) (ht : t < 64) : own_r w t = Int32.ofNat (64 * k + t) := by
  have key : ∀ a : Fin 64, ∀ b : Fin 64, own_r (Int32.ofNat a.1) b.1 = Int32.ofNat (64 * a.1 + b.1) := by decide +kernel
  have e : w = Int32.ofNat k := by
    apply Int32.toInt_inj.mp
    rw [h, own_ofN (by omega)]
  rw [e]
  exact key ⟨k, hk⟩ ⟨t, ht⟩
def own_Nx (f : Nat → Bool) (S m n : Nat) : Prop := (n = S ∧ ∀ j, m ≤ j → f j = false) ∨ (f n = true ∧ m ≤ n ∧ ∀ j, m ≤ j → j < n → f j = false)
theorem own_nxt_eq {f : Nat → Bool} {W S : Nat} {L : List Int64} {e : Int64} (h : Inv f W L e) (hS : ∀ j, f j = true → j < S) (hSW : S ≤ 64 * W) (hW : W ≤ 4) {i : Int32} {m : Nat} (hi : i.toInt = m) : ∃ n, own_nxt L e (Int32.ofNat S) i m = Int32.ofNat n ∧ own_Nx f S m n := by
  obtain ⟨h1, h2, h3⟩ := h
  have hwd := own_wdf hi
  have hF : ∀ j, 64 * W ≤ j → f j = false := fun j hj => by
    cases hb : f j
    · rfl
    · have := hS j hb; omega
  have hWi : (Int32.ofNat L.length).toInt = ((W : Nat) : Int) := by rw [h1]; exact own_ofN (by omega)
  by_cases c1 : own_wd i < Int32.ofNat L.length
  · have hw : m / 64 < W := by have := (i_lt hwd hWi).mp c1; omega
    have bv : ∀ j, j < 64 → own_b (own_v L i m) j = (f (64 * (m / 64) + j) && decide (m % 64 ≤ j)) := fun j hj => by
      rw [own_v, own_b_and, own_m1 i (m % 64) (own_q hi) j hj, h2 _ hw j hj]
    by_cases c2 : own_v L i m = 0
    · have f0 : ∀ j, m ≤ j → j < 64 * (m / 64) + 64 → f j = false := fun j hj hj2 => by
        have q := (own_b_0 _).mp c2 (j - 64 * (m / 64)) (by omega)
        rw [bv _ (by omega), show 64 * (m / 64) + (j - 64 * (m / 64)) = j by omega] at q
        have : m % 64 ≤ j - 64 * (m / 64) := by omega
        simpa [this] using q
      have hw1 := own_w1 hwd (by omega)
      have bz : ∀ k, k < 64 → own_b (own_z e (own_wd i + (1 : Int32))) k = (own_b e k && decide (m / 64 + 1 ≤ k)) := fun k hk => by
        rw [own_z, own_b_and, own_m1 _ (m / 64 + 1) (by rw [own_q hw1]; omega) k hk]
      have fz : ∀ k, k < 64 → m / 64 + 1 ≤ k → own_b (own_z e (own_wd i + (1 : Int32))) k = false → ∀ j, j / 64 = k → f j = false := fun k hk hk1 hb j hj => by
        by_cases hkW : k < W
        · rw [bz k hk] at hb
          have hb' : own_b e k = false := by simpa [hk1] using hb
          have : L.getD k 0 = 0 := by
            apply Classical.byContradiction
            intro hn
            rw [(h3 k).mpr ⟨hkW, hn⟩] at hb'
            cases hb'
          have q := h2 k hkW (j % 64) (by omega)
          rw [this, (own_b_0 0).mp rfl _ (by omega), show 64 * k + j % 64 = j by omega] at q
          exact q.symm
        · exact hF j (by omega)
      by_cases c3 : own_z e (own_wd i + (1 : Int32)) = 0
      · refine ⟨S, ?_, Or.inl ⟨rfl, fun j hj => ?_⟩⟩
        · rw [own_nxt, if_pos c1, if_pos c2, if_pos (by rw [own_nw, if_pos c3])]
        · by_cases q1 : j < 64 * (m / 64) + 64
          · exact f0 j hj q1
          · by_cases q2 : j / 64 < 64
            · exact fz (j / 64) q2 (by omega) ((own_b_0 _).mp c3 _ q2) j rfl
            · exact hF j (by omega)
      · obtain ⟨g1, g2, g3⟩ := own_ctz_p c3
        have ge : own_nw L e (own_wd i + (1 : Int32)) = Int32.ofNat (own_g e i) := by rw [own_nw, if_neg c3, own_g]
        have g2' := g2
        rw [bz _ g1] at g2'
        simp only [Bool.and_eq_true, decide_eq_true_eq] at g2'
        obtain ⟨gW, gL⟩ := (h3 _).mp g2'.1
        have gi : (own_nw L e (own_wd i + (1 : Int32))).toInt = ((own_g e i : Nat) : Int) := by rw [ge]; exact own_ofN (by unfold own_g; omega)
        have c4 : ¬ own_nw L e (own_wd i + (1 : Int32)) = Int32.ofNat L.length := (i_ne gi hWi).mpr (by unfold own_g; omega)
        change own_g e i < 64 at g1
        change own_g e i < W at gW
        change ¬ L.getD (own_g e i) 0 = 0 at gL
        change own_b e (own_g e i) = true ∧ m / 64 + 1 ≤ own_g e i at g2'
        change ∀ j, j < own_g e i → own_b (own_z e (own_wd i + (1 : Int32))) j = false at g3
        obtain ⟨t1, t2, t3⟩ := own_ctz_p gL
        rw [h2 _ gW _ t1] at t2
        refine ⟨64 * own_g e i + own_ctz (L.getD (own_g e i) 0), ?_, Or.inr ⟨t2, by omega, fun j hj hj2 => ?_⟩⟩
        · rw [own_nxt, if_pos c1, if_pos c2, if_neg c4, own_r_eq gi g1 t1]
        · by_cases q1 : j < 64 * (m / 64) + 64
          · exact f0 j hj q1
          · by_cases q2 : j / 64 < own_g e i
            · exact fz (j / 64) (by omega) (by omega) (g3 _ q2) j rfl
            · have q3 : j / 64 = own_g e i := by omega
              have q := t3 (j % 64) (by omega)
              rw [h2 _ gW _ (by omega), show 64 * own_g e i + j % 64 = j by omega] at q
              exact q
    · obtain ⟨t1, t2, t3⟩ := own_ctz_p c2
      rw [bv _ t1] at t2
      simp only [Bool.and_eq_true, decide_eq_true_eq] at t2
      refine ⟨64 * (m / 64) + own_ctz (own_v L i m), ?_, Or.inr ⟨t2.1, by omega, fun j hj hj2 => ?_⟩⟩
      · rw [own_nxt, if_pos c1, if_neg c2, own_r_eq hwd (by omega) t1]
      · have q := t3 (j - 64 * (m / 64)) (by omega)
        rw [bv _ (by omega), show 64 * (m / 64) + (j - 64 * (m / 64)) = j by omega] at q
        have : m % 64 ≤ j - 64 * (m / 64) := by omega
        simpa [this] using q
  · have hw : W ≤ m / 64 := by have := (i_ge hwd hWi).mp c1; omega
    refine ⟨S, ?_, Or.inl ⟨rfl, fun j hj => hF j (by omega)⟩⟩
    rw [own_nxt, if_neg c1]
def own_st (x a b c : Int32) : Int32 := if x = a then x + (1 : Int32) else if x = b then x + (1 : Int32) else if x = c then x + (1 : Int32) else x
def own_ref (x sz a b c : Int32) : Int32 := if own_st (own_st (own_st x a b c) a b c) a b c < sz then own_st (own_st (own_st x a b c) a b c) a b c else sz
theorem own_st_i {x a b c : Int32} {m u v w : Nat} (hx : x.toInt = m) (ha : a.toInt = u) (hb : b.toInt = v) (hc : c.toInt = w) (hm : m < 1000) : ∃ n : Nat, (own_st x a b c).toInt = n ∧ ((n = m + 1 ∧ (m = u ∨ m = v ∨ m = w)) ∨ (n = m ∧ m ≠ u ∧ m ≠ v ∧ m ≠ w)) := by
  have h1 : (x + (1 : Int32)).toInt = ((m + 1 : Nat) : Int) := by
    rw [x_iadd hx (by decide : (1 : Int32).toInt = 1) (by omega)]; omega
  unfold own_st
  split
  · next h => have := (i_eq hx ha).mp h; exact ⟨m + 1, h1, by omega⟩
  · next h =>
    have := (i_ne hx ha).mp h
    split
    · next h => have := (i_eq hx hb).mp h; exact ⟨m + 1, h1, by omega⟩
    · next h =>
      have := (i_ne hx hb).mp h
      split
      · next h => have := (i_eq hx hc).mp h; exact ⟨m + 1, h1, by omega⟩
      · next h =>
        have := (i_ne hx hc).mp h
        exact ⟨m, hx, by omega⟩
theorem own_st3 {u v w m n1 n2 n3 : Nat} (r1 : (n1 = m + 1 ∧ (m = u ∨ m = v ∨ m = w)) ∨ (n1 = m ∧ m ≠ u ∧ m ≠ v ∧ m ≠ w)) (r2 : (n2 = n1 + 1 ∧ (n1 = u ∨ n1 = v ∨ n1 = w)) ∨ (n2 = n1 ∧ n1 ≠ u ∧ n1 ≠ v ∧ n1 ≠ w)) (r3 : (n3 = n2 + 1 ∧ (n2 = u ∨ n2 = v ∨ n2 = w)) ∨ (n3 = n2 ∧ n2 ≠ u ∧ n2 ≠ v ∧ n2 ≠ w)) :
    m ≤ n3 ∧ ¬ (n3 = u ∨ n3 = v ∨ n3 = w) ∧ ∀ j, m ≤ j → j < n3 → (j = u ∨ j = v ∨ j = w) := by
  rcases r1 with ⟨rfl, h1⟩ | ⟨rfl, h1⟩
  · rcases r2 with ⟨rfl, h2⟩ | ⟨rfl, h2⟩
    · rcases r3 with ⟨rfl, h3⟩ | ⟨rfl, h3⟩
      · refine ⟨by omega, by omega, fun j hj hj2 => ?_⟩
        rcases (by omega : j = m ∨ j = m + 1 ∨ j = m + 1 + 1) with rfl | rfl | rfl
        · exact h1
        · exact h2
        · exact h3
      · refine ⟨by omega, by omega, fun j hj hj2 => ?_⟩
        rcases (by omega : j = m ∨ j = m + 1) with rfl | rfl
        · exact h1
        · exact h2
    · rcases r3 with ⟨rfl, h3⟩ | ⟨rfl, h3⟩
      · exfalso; omega
      · refine ⟨by omega, by omega, fun j hj hj2 => ?_⟩
        obtain rfl : j = m := by omega
        exact h1
  · rcases r2 with ⟨rfl, h2⟩ | ⟨rfl, h2⟩
    · exfalso; omega
    · rcases r3 with ⟨rfl, h3⟩ | ⟨rfl, h3⟩
      · exfalso; omega
      · exact ⟨by omega, by omega, fun j hj hj2 => by omega⟩
def own_F (S u v w : Nat) (j : Nat) : Bool := ((decide (j < S) && !decide (j = u)) && !decide (j = v)) && !decide (j = w)
theorem own_F_t {S u v w j : Nat} : own_F S u v w j = true ↔ (j < S ∧ j ≠ u ∧ j ≠ v ∧ j ≠ w) := by simp [own_F, and_assoc]
theorem own_F_f {S u v w j : Nat} : own_F S u v w j = false ↔ ¬ (j < S ∧ j ≠ u ∧ j ≠ v ∧ j ≠ w) := by rw [← own_F_t]; simp
theorem own_main {W S : Nat} {L : List Int64} {e : Int64} {a b c : Int32} {u v w : Nat} (h : Inv (own_F S u v w) W L e) {sz : Int32} (hsz : Int32.ofNat S = sz) (hSW : S ≤ 64 * W) (hW : W ≤ 4) (ha : a.toInt = u) (hb : b.toInt = v) (hc : c.toInt = w) {x : Int32} {m : Nat} (hx : x.toInt = m) (hm : m ≤ S + 1) : own_nxt L e sz x m = own_ref x sz a b c := by
  subst hsz
  obtain ⟨n, hn, hs⟩ := own_nxt_eq h (fun j hj => (own_F_t.mp hj).1) hSW hW hx
  rw [hn]
  obtain ⟨n1, k1, r1⟩ := own_st_i hx ha hb hc (by omega)
  obtain ⟨n2, k2, r2⟩ := own_st_i k1 ha hb hc (by omega)
  obtain ⟨n3, k3, r3⟩ := own_st_i k2 ha hb hc (by omega)
  have hSi : (Int32.ofNat S).toInt = ((S : Nat) : Int) := own_ofN (by omega)
  obtain ⟨z1, z2, z3⟩ := own_st3 r1 r2 r3
  have key : n = if n3 < S then n3 else S := by
    rcases hs with ⟨e1, e2⟩ | ⟨e1, e2, e3⟩
    · have q1 := own_F_f.mp (e2 n3 z1)
      have : ¬ n3 < S := fun q => q1 ⟨q, fun h => z2 (Or.inl h), fun h => z2 (Or.inr (Or.inl h)), fun h => z2 (Or.inr (Or.inr h))⟩
      rw [if_neg this]
      exact e1
    · have q0 := own_F_t.mp e1
      have c1 : ¬ n < n3 := fun q => by
        rcases z3 n e2 q with h | h | h
        · exact q0.2.1 h
        · exact q0.2.2.1 h
        · exact q0.2.2.2 h
      have c2 : ¬ n3 < n := fun q => by
        have q1 := own_F_f.mp (e3 n3 z1 q)
        exact q1 ⟨by omega, fun h => z2 (Or.inl h), fun h => z2 (Or.inr (Or.inl h)), fun h => z2 (Or.inr (Or.inr h))⟩
      have c3 : n = n3 := by omega
      have c4 : n3 < S := by omega
      rw [if_pos c4]
      exact c3
  unfold own_ref
  rw [key]
  by_cases c1 : n3 < S
  · rw [if_pos c1, if_pos ((i_lt k3 hSi).mpr (by omega))]
    apply Int32.toInt_inj.mp
    rw [own_ofN (by omega), k3]
  · rw [if_neg c1, if_neg ((i_ge k3 hSi).mpr (by omega))]
def own_L2 (L : List Int64) (a b : Int32) (u v : Nat) : List Int64 := own_Lr (own_Lr L a u) b v
def own_L3 (L : List Int64) (a b c : Int32) (u v w : Nat) : List Int64 := own_Lr (own_L2 L a b u v) c w
def own_e2 (L : List Int64) (e : Int64) (a b : Int32) (u v : Nat) : Int64 := own_e (own_Lr L a u) (own_e L e a u) b v
def own_e3 (L : List Int64) (e : Int64) (a b c : Int32) (u v w : Nat) : Int64 := own_e (own_L2 L a b u v) (own_e2 L e a b u v) c w
theorem own_inv3 {S W : Nat} {L : List Int64} {e : Int64} (h : Inv (fun j => decide (j < S)) W L e) (hSW : S ≤ 64 * W) (hW : W ≤ 4) {a b c : Int32} {u v w : Nat} (ha : a.toInt = u) (hb : b.toInt = v) (hc : c.toInt = w) (hu : u < S) (hv : v < S) (hw : w < S) :
    (Inv (fun j => decide (j < S) && !decide (j = u)) W (own_Lr L a u) (own_e L e a u)) ∧
    (Inv (fun j => (decide (j < S) && !decide (j = u)) && !decide (j = v)) W (own_L2 L a b u v) (own_e2 L e a b u v)) ∧
    (Inv (own_F S u v w) W (own_L3 L a b c u v w) (own_e3 L e a b c u v w)) := by
  have i1 := own_inv_rem h ha (by omega) hW
  have i2 := own_inv_rem i1 hb (by omega) hW
  have i3 := own_inv_rem i2 hc (by omega) hW
  exact ⟨i1, i2, i3⟩
theorem own_len {f : Nat → Bool} {W : Nat} {L : List Int64} {e : Int64} (h : Inv f W L e) {m : Nat} (hm : m / 64 < W) : m / 64 < L.length := by rw [h.1]; exact hm
theorem own_len4 {f : Nat → Bool} {W : Nat} {L : List Int64} {e : Int64} (h : Inv f W L e) (hW : W ≤ 4) : L.length ≤ 4 := by rw [h.1]; exact hW
theorem own_he {f : Nat → Bool} {W : Nat} {L : List Int64} {e : Int64} (h : Inv f W L e) : ∀ w, own_b e w = true → w < L.length := fun w hw => by rw [h.1]; exact ((h.2.2 w).mp hw).1
theorem own_hz {f : Nat → Bool} {W : Nat} {L : List Int64} {e : Int64} (h : Inv f W L e) : ∀ w, own_b e w = true → ¬ L.getD w 0 = 0 := fun w hw => ((h.2.2 w).mp hw).2
theorem own_inv0 {S W : Nat} {L : List Int64} {e : Int64} (h1 : L.length = W) (h2 : ∀ w, w < W → ∀ j, j < 64 → own_b (L.getD w 0) j = decide (64 * w + j < S)) (h3 : ∀ w, w < 64 → (own_b e w = true ↔ (w < W ∧ ¬ L.getD w 0 = 0))) (hW : W ≤ 4) : Inv (fun j => decide (j < S)) W L e := by
  refine ⟨h1, h2, fun w => ?_⟩
  by_cases hw : w < 64
  · exact h3 w hw
  · rw [own_b_hi _ _ (by omega)]
    constructor
    · intro q; cases q
    · rintro ⟨q, -⟩; omega
def own_ix (x sz : Int32) : Int32 := if x &&& (1 : Int32) = 0 then ((x.toUInt32 >>> ((1 : Int32) &&& 31).toUInt32).toInt32) % sz else own_maxI (0 : Int32) ((sz - (1 : Int32)) - (((x.toUInt32 >>> ((1 : Int32) &&& 31).toUInt32).toInt32) &&& (3 : Int32)))
theorem own_ush1 (x : Int32) : 0 ≤ ((x.toUInt32 >>> ((1 : Int32) &&& 31).toUInt32).toInt32).toInt := by
  have q := c_iushr x 1 1 (by decide) (by decide)
  rw [q]
  have := rng32 x
  omega
theorem own_ix_r (x sz : Int32) (S : Nat) (h : sz.toInt = S) (hS : 0 < S) (hS2 : S < 1000) : ∃ m : Nat, (own_ix x sz).toInt = m ∧ m < S := by
  have key : 0 ≤ (own_ix x sz).toInt ∧ (own_ix x sz).toInt < S := by
    unfold own_ix
    split
    · have q := x_irem rfl h (own_ush1 x)
      rw [q]
      exact ⟨Int.emod_nonneg _ (by omega), Int.emod_lt_of_pos _ (by omega)⟩
    · rw [own_maxI_i]
      have q1 := x_isub h (by decide : (1 : Int32).toInt = 1) (by omega)
      have q2 := c_mask ((x.toUInt32 >>> ((1 : Int32) &&& 31).toUInt32).toInt32) 3 2 (by decide) (by decide)
      have q3 := x_isub q1 q2 (by omega)
      have q0 : (0 : Int32).toInt = 0 := by decide
      omega
  exact ⟨(own_ix x sz).toInt.toNat, by omega, by omega⟩
theorem own_fr_r (x sz : Int32) (S : Nat) (h : sz.toInt = S) (hS : 0 < S) : ∃ m : Nat, (((x.toUInt32 >>> ((1 : Int32) &&& 31).toUInt32).toInt32) % sz).toInt = m ∧ m < S := by
  have q := x_irem rfl h (own_ush1 x)
  have q1 : 0 ≤ ((x.toUInt32 >>> ((1 : Int32) &&& 31).toUInt32).toInt32).toInt % (S : Int) := Int.emod_nonneg _ (by omega)
  have q2 : ((x.toUInt32 >>> ((1 : Int32) &&& 31).toUInt32).toInt32).toInt % (S : Int) < S := Int.emod_lt_of_pos _ (by omega)
  rw [← q] at q1 q2
  exact ⟨((((x.toUInt32 >>> ((1 : Int32) &&& 31).toUInt32).toInt32) % sz).toInt).toNat, by omega, by omega⟩
theorem own_and3 (x : Int32) : x &&& (3 : Int32) = 0 ∨ x &&& (3 : Int32) = 1 ∨ x &&& (3 : Int32) = 2 ∨ x &&& (3 : Int32) = 3 := by
  have q := c_mask x 3 2 (by decide) (by decide)
  have : (x &&& (3 : Int32)).toInt = 0 ∨ (x &&& (3 : Int32)).toInt = 1 ∨ (x &&& (3 : Int32)).toInt = 2 ∨ (x &&& (3 : Int32)).toInt = 3 := by rw [q]; omega
  rcases this with h | h | h | h
  · exact Or.inl (Int32.toInt_inj.mp (by rw [h]; decide))
  · exact Or.inr (Or.inl (Int32.toInt_inj.mp (by rw [h]; decide)))
  · exact Or.inr (Or.inr (Or.inl (Int32.toInt_inj.mp (by rw [h]; decide))))
  · exact Or.inr (Or.inr (Or.inr (Int32.toInt_inj.mp (by rw [h]; decide))))

theorem pn_11 : plainName "com/example/wavegrant/wavegrant/IndexSetRemovePinLaw" = true := by first | (simp [plainName, overriddenIn]; done) | decide +kernel
theorem s12_0 : Nx b12 0 (.iload_n 0) 1 1 := ⟨by decide +kernel, rfl⟩
theorem s12_1 : Nx b12 1 (.iload_n 1) 1 2 := ⟨by decide +kernel, rfl⟩
theorem s12_2 : Bx b12 2 (.if_icmp .eq) 15 5 := ⟨(13), by decide +kernel, by decide, by decide, rfl⟩
theorem s12_15 : Nx b12 15 (.iload_n 0) 1 16 := ⟨by decide +kernel, rfl⟩
theorem s12_16 : Nx b12 16 (.iconst 1) 1 17 := ⟨by decide +kernel, rfl⟩
theorem s12_17 : Nx b12 17 (.iadd) 1 18 := ⟨by decide +kernel, rfl⟩
theorem s12_18 : Nx b12 18 (.ireturn) 1 19 := ⟨by decide +kernel, rfl⟩
theorem s12_5 : Nx b12 5 (.iload_n 0) 1 6 := ⟨by decide +kernel, rfl⟩
theorem s12_6 : Nx b12 6 (.iload_n 2) 1 7 := ⟨by decide +kernel, rfl⟩
theorem s12_7 : Bx b12 7 (.if_icmp .eq) 15 10 := ⟨(8), by decide +kernel, by decide, by decide, rfl⟩
theorem s12_10 : Nx b12 10 (.iload_n 0) 1 11 := ⟨by decide +kernel, rfl⟩
theorem s12_11 : Nx b12 11 (.iload_n 3) 1 12 := ⟨by decide +kernel, rfl⟩
theorem s12_12 : Bx b12 12 (.if_icmp .ne) 19 15 := ⟨(7), by decide +kernel, by decide, by decide, rfl⟩
theorem s12_19 : Nx b12 19 (.iload_n 0) 1 20 := ⟨by decide +kernel, rfl⟩
theorem s12_20 : Nx b12 20 (.ireturn) 1 21 := ⟨by decide +kernel, rfl⟩
theorem m_st (l : Launch) {Z : State} {a0 : Array Value} (hw : HW1 Z a0) (n0 : Nat) (A : List Ob) (x a b c : Int32) : Met l Z KT n0 y12 b12 4 (some .int) ({ frames := 0, cells := 0, slots := 0, locals := 0 } : Room) #[(.int x), (.int a), (.int b), (.int c)] A (Is (some (.int (own_st x a b c))) A) := by
  refine Met.of (a0 := a0) (ls := #[.val (.int x), .val (.int a), .val (.int b), .val (.int c)]) (kok hw) (plainFor_of_name pn_11) (fun m => by first | (simp [entryFrame, mkF, argsToLocals, Value.category]; done) | rfl) (fun G H => ?_)
  refine H.iloadN s12_0 rfl ?_
  refine H.iloadN s12_1 rfl ?_
  refine H.icmpS s12_2 (fun (c2 : x = a) => ?_) (fun (c2 : ¬ x = a) => ?_)
  · have d2 : x.toInt = a.toInt := (i_eq rfl rfl).mp c2
    refine H.iloadN s12_15 rfl ?_
    refine H.iconst s12_16 (v := (1 : Int32)) (by decide) ?_
    refine H.iadd s12_17 rfl ?_
    exact H.ireturn s12_18 rfl (by simp) rfl ⟨by rw [own_st, if_pos c2], rfl⟩ (by decide) (by decide)
  · have d2 : ¬ x.toInt = a.toInt := (i_ne rfl rfl).mp c2
    refine H.iloadN s12_5 rfl ?_
    refine H.iloadN s12_6 rfl ?_
    refine H.icmpS s12_7 (fun (c7 : x = b) => ?_) (fun (c7 : ¬ x = b) => ?_)
    · have d7 : x.toInt = b.toInt := (i_eq rfl rfl).mp c7
      refine H.iloadN s12_15 rfl ?_
      refine H.iconst s12_16 (v := (1 : Int32)) (by decide) ?_
      refine H.iadd s12_17 rfl ?_
      exact H.ireturn s12_18 rfl (by simp) rfl ⟨by rw [own_st, if_neg c2, if_pos c7], rfl⟩ (by decide) (by decide)
    · have d7 : ¬ x.toInt = b.toInt := (i_ne rfl rfl).mp c7
      refine H.iloadN s12_10 rfl ?_
      refine H.iloadN s12_11 rfl ?_
      refine H.icmpS s12_12 (fun (c12 : ¬ x = c) => ?_) (fun (c12 : x = c) => ?_)
      · have d12 : ¬ x.toInt = c.toInt := (i_ne rfl rfl).mp c12
        refine H.iloadN s12_19 rfl ?_
        exact H.ireturn s12_20 rfl (by simp) rfl ⟨by rw [own_st, if_neg c2, if_neg c7, if_neg c12], rfl⟩ (by decide) (by decide)
      · have d12 : x.toInt = c.toInt := (i_eq rfl rfl).mp c12
        refine H.iloadN s12_15 rfl ?_
        refine H.iconst s12_16 (v := (1 : Int32)) (by decide) ?_
        refine H.iadd s12_17 rfl ?_
        exact H.ireturn s12_18 rfl (by simp) rfl ⟨by rw [own_st, if_neg c2, if_neg c7, if_pos c12], rfl⟩ (by decide) (by decide)

theorem s11_0 : Nx b11 0 (.iload_n 0) 1 1 := ⟨by decide +kernel, rfl⟩
theorem s11_1 : Nx b11 1 (.iload_n 2) 1 2 := ⟨by decide +kernel, rfl⟩
theorem s11_2 : Nx b11 2 (.iload_n 3) 1 3 := ⟨by decide +kernel, rfl⟩
theorem s11_3 : Nx b11 3 (.iload 4) 2 5 := ⟨by decide +kernel, rfl⟩
theorem s11_5 : Nx b11 5 (.invokestatic 13) 3 8 := ⟨by decide +kernel, rfl⟩
theorem pd_2 : ∀ sig, parseMethodDescriptor "(IIII)I" = some sig → 4 = sig.parameters.length := npOf (r := some .int) (ps := [.int, .int, .int, .int]) (by decide +kernel) rfl
theorem k_12 {Z : State} {a0 : Array Value} (hw : HW1 Z a0) : SL Z a0 "com/example/wavegrant/wavegrant/IndexSetRemovePinLaw" 13 y12 b12 4 (some .int) 4 := ⟨(hw _ (List.mem_of_getElem? (i := 61) rfl)), (hw _ (List.mem_of_getElem? (i := 62) rfl)), (hw _ (List.mem_of_getElem? (i := 6) rfl)), (hw _ (List.mem_of_getElem? (i := 63) rfl)), ⟨by decide, by decide⟩, pd_2⟩
theorem s11_8 : Nx b11 8 (.iload_n 2) 1 9 := ⟨by decide +kernel, rfl⟩
theorem s11_9 : Nx b11 9 (.iload_n 3) 1 10 := ⟨by decide +kernel, rfl⟩
theorem s11_10 : Nx b11 10 (.iload 4) 2 12 := ⟨by decide +kernel, rfl⟩
theorem s11_12 : Nx b11 12 (.invokestatic 13) 3 15 := ⟨by decide +kernel, rfl⟩
theorem s11_15 : Nx b11 15 (.iload_n 2) 1 16 := ⟨by decide +kernel, rfl⟩
theorem s11_16 : Nx b11 16 (.iload_n 3) 1 17 := ⟨by decide +kernel, rfl⟩
theorem s11_17 : Nx b11 17 (.iload 4) 2 19 := ⟨by decide +kernel, rfl⟩
theorem s11_19 : Nx b11 19 (.invokestatic 13) 3 22 := ⟨by decide +kernel, rfl⟩
theorem s11_22 : Nx b11 22 (.istore 5) 2 24 := ⟨by decide +kernel, rfl⟩
theorem s11_24 : Nx b11 24 (.iload 5) 2 26 := ⟨by decide +kernel, rfl⟩
theorem s11_26 : Nx b11 26 (.iload_n 1) 1 27 := ⟨by decide +kernel, rfl⟩
theorem s11_27 : Bx b11 27 (.if_icmp .lt) 34 30 := ⟨(7), by decide +kernel, by decide, by decide, rfl⟩
theorem s11_34 : Nx b11 34 (.iload 5) 2 36 := ⟨by decide +kernel, rfl⟩
theorem s11_36 : Nx b11 36 (.ireturn) 1 37 := ⟨by decide +kernel, rfl⟩
theorem s11_30 : Nx b11 30 (.iload_n 1) 1 31 := ⟨by decide +kernel, rfl⟩
theorem s11_31 : Bx b11 31 (.goto) 36 34 := ⟨(5), by decide +kernel, by decide, by decide, rfl⟩
theorem m_ref (l : Launch) {Z : State} {a0 : Array Value} (hw : HW1 Z a0) (n0 : Nat) (A : List Ob) (x sz a b c : Int32) : Met l Z KT n0 y11 b11 6 (some .int) ({ frames := 1, cells := 0, slots := 0, locals := 15 } : Room) #[(.int x), (.int sz), (.int a), (.int b), (.int c)] A (Is (some (.int (own_ref x sz a b c))) A) := by
  refine Met.of (a0 := a0) (ls := #[.val (.int x), .val (.int sz), .val (.int a), .val (.int b), .val (.int c), .unset]) (kok hw) (plainFor_of_name pn_11) (fun m => by first | (simp [entryFrame, mkF, argsToLocals, Value.category]; done) | rfl) (fun G H => ?_)
  refine H.iloadN s11_0 rfl ?_
  refine H.iloadN s11_1 rfl ?_
  refine H.iloadN s11_2 rfl ?_
  refine H.iload s11_3 rfl ?_
  refine H.callSD s11_5 (k_12 hw) (m_st l hw n0 A x a b c) (argsL := [(.int x), (.int a), (.int b), (.int c)]) (rest := []) rfl rfl rfl rfl (leb rfl) (leb rfl) (leb rfl) (leb rfl) (st' := [(.int (own_st x a b c))]) rfl (k' := 0) rfl (n' := 0) rfl ?_
  refine H.iloadN s11_8 rfl ?_
  refine H.iloadN s11_9 rfl ?_
  refine H.iload s11_10 rfl ?_
  refine H.callSD s11_12 (k_12 hw) (m_st l hw n0 A (own_st x a b c) a b c) (argsL := [(.int (own_st x a b c)), (.int a), (.int b), (.int c)]) (rest := []) rfl rfl rfl rfl (leb rfl) (leb rfl) (leb rfl) (leb rfl) (st' := [(.int (own_st (own_st x a b c) a b c))]) rfl (k' := 0) rfl (n' := 0) rfl ?_
  refine H.iloadN s11_15 rfl ?_
  refine H.iloadN s11_16 rfl ?_
  refine H.iload s11_17 rfl ?_
  refine H.callSD s11_19 (k_12 hw) (m_st l hw n0 A (own_st (own_st x a b c) a b c) a b c) (argsL := [(.int (own_st (own_st x a b c) a b c)), (.int a), (.int b), (.int c)]) (rest := []) rfl rfl rfl rfl (leb rfl) (leb rfl) (leb rfl) (leb rfl) (st' := [(.int (own_st (own_st (own_st x a b c) a b c) a b c))]) rfl (k' := 0) rfl (n' := 0) rfl ?_
  refine H.istore s11_22 (ls' := #[.val (.int x), .val (.int sz), .val (.int a), .val (.int b), .val (.int c), .val (.int (own_st (own_st (own_st x a b c) a b c) a b c))]) rfl ?_
  refine H.iload s11_24 rfl ?_
  refine H.iloadN s11_26 rfl ?_
  refine H.icmpS s11_27 (fun (c27 : (own_st (own_st (own_st x a b c) a b c) a b c) < sz) => ?_) (fun (c27 : ¬ (own_st (own_st (own_st x a b c) a b c) a b c) < sz) => ?_)
  · have d27 : (own_st (own_st (own_st x a b c) a b c) a b c).toInt < sz.toInt := (i_lt rfl rfl).mp c27
    refine H.iload s11_34 rfl ?_
    exact H.ireturn s11_36 rfl (by simp) rfl ⟨by rw [own_ref, if_pos c27], rfl⟩ (by decide) (by decide)
  · have d27 : sz.toInt ≤ (own_st (own_st (own_st x a b c) a b c) a b c).toInt := (i_ge rfl rfl).mp c27
    refine H.iloadN s11_30 rfl ?_
    refine H.goto s11_31 ?_
    exact H.ireturn s11_36 rfl (by simp) rfl ⟨by rw [own_ref, if_neg c27], rfl⟩ (by decide) (by decide)

theorem s2_0 : Nx b2 0 (.iload_n 0) 1 1 := ⟨by decide +kernel, rfl⟩
theorem s2_1 : Nx b2 1 (.iconst 1) 1 2 := ⟨by decide +kernel, rfl⟩
theorem s2_2 : Nx b2 2 (.iand) 1 3 := ⟨by decide +kernel, rfl⟩
theorem s2_3 : Bx b2 3 (.ifCond .eq) 20 6 := ⟨(17), by decide +kernel, by decide, by decide, rfl⟩
theorem s2_20 : Nx b2 20 (.iload_n 0) 1 21 := ⟨by decide +kernel, rfl⟩
theorem s2_21 : Nx b2 21 (.iconst 1) 1 22 := ⟨by decide +kernel, rfl⟩
theorem s2_22 : Nx b2 22 (.iushr) 1 23 := ⟨by decide +kernel, rfl⟩
theorem s2_23 : Nx b2 23 (.iload_n 1) 1 24 := ⟨by decide +kernel, rfl⟩
theorem s2_24 : Nx b2 24 (.irem) 1 25 := ⟨by decide +kernel, rfl⟩
theorem s2_25 : Nx b2 25 (.ireturn) 1 26 := ⟨by decide +kernel, rfl⟩
theorem s2_6 : Nx b2 6 (.iconst 0) 1 7 := ⟨by decide +kernel, rfl⟩
theorem s2_7 : Nx b2 7 (.iload_n 1) 1 8 := ⟨by decide +kernel, rfl⟩
theorem s2_8 : Nx b2 8 (.iconst 1) 1 9 := ⟨by decide +kernel, rfl⟩
theorem s2_9 : Nx b2 9 (.isub) 1 10 := ⟨by decide +kernel, rfl⟩
theorem s2_10 : Nx b2 10 (.iload_n 0) 1 11 := ⟨by decide +kernel, rfl⟩
theorem s2_11 : Nx b2 11 (.iconst 1) 1 12 := ⟨by decide +kernel, rfl⟩
theorem s2_12 : Nx b2 12 (.iushr) 1 13 := ⟨by decide +kernel, rfl⟩
theorem s2_13 : Nx b2 13 (.iconst 3) 1 14 := ⟨by decide +kernel, rfl⟩
theorem s2_14 : Nx b2 14 (.iand) 1 15 := ⟨by decide +kernel, rfl⟩
theorem s2_15 : Nx b2 15 (.isub) 1 16 := ⟨by decide +kernel, rfl⟩
theorem s2_16 : Nx b2 16 (.invokestatic 7) 3 19 := ⟨by decide +kernel, rfl⟩
theorem pd_3 : ∀ sig, parseMethodDescriptor "(II)I" = some sig → 2 = sig.parameters.length := npOf (r := some .int) (ps := [.int, .int]) (by decide +kernel) rfl
theorem k_13 {Z : State} {a0 : Array Value} (hw : HW1 Z a0) : SL Z a0 "com/example/wavegrant/wavegrant/IndexSetRemovePinLaw" 7 y1 b1 2 (some .int) 2 := ⟨(hw _ (List.mem_of_getElem? (i := 0) rfl)), (hw _ (List.mem_of_getElem? (i := 1) rfl)), (hw _ (List.mem_of_getElem? (i := 2) rfl)), (hw _ (List.mem_of_getElem? (i := 3) rfl)), ⟨by decide, by decide⟩, pd_3⟩
theorem s2_19 : Nx b2 19 (.ireturn) 1 20 := ⟨by decide +kernel, rfl⟩
theorem m_ix (l : Launch) {Z : State} {a0 : Array Value} (hw : HW1 Z a0) (n0 : Nat) (A : List Ob) (x sz : Int32) (hsz : ¬ sz = 0) : Met l Z KT n0 y2 b2 2 (some .int) ({ frames := 1, cells := 0, slots := 0, locals := 13 } : Room) #[(.int x), (.int sz)] A (Is (some (.int (own_ix x sz))) A) := by
  refine Met.of (a0 := a0) (ls := #[.val (.int x), .val (.int sz)]) (kok hw) (plainFor_of_name pn_11) (fun m => by first | (simp [entryFrame, mkF, argsToLocals, Value.category]; done) | rfl) (fun G H => ?_)
  refine H.iloadN s2_0 rfl ?_
  refine H.iconst s2_1 (v := (1 : Int32)) (by decide) ?_
  refine H.iand s2_2 rfl ?_
  refine H.ifS s2_3 (fun (c3 : (x &&& (1 : Int32)) = (0 : Int32)) => ?_) (fun (c3 : ¬ (x &&& (1 : Int32)) = (0 : Int32)) => ?_)
  · have d3 : (x &&& (1 : Int32)).toInt = 0 := (i_eq rfl (by decide : (0 : Int32).toInt = 0)).mp c3
    refine H.iloadN s2_20 rfl ?_
    refine H.iconst s2_21 (v := (1 : Int32)) (by decide) ?_
    refine H.iushr s2_22 rfl ?_
    refine H.iloadN s2_23 rfl ?_
    refine H.irem s2_24 hsz rfl ?_
    exact H.ireturn s2_25 rfl (by simp) rfl ⟨by rw [own_ix, if_pos c3], rfl⟩ (by decide) (by decide)
  · have d3 : ¬ (x &&& (1 : Int32)).toInt = 0 := (i_ne rfl (by decide : (0 : Int32).toInt = 0)).mp c3
    refine H.iconst s2_6 (v := (0 : Int32)) (by decide) ?_
    refine H.iloadN s2_7 rfl ?_
    refine H.iconst s2_8 (v := (1 : Int32)) (by decide) ?_
    refine H.isub s2_9 rfl ?_
    refine H.iloadN s2_10 rfl ?_
    refine H.iconst s2_11 (v := (1 : Int32)) (by decide) ?_
    refine H.iushr s2_12 rfl ?_
    refine H.iconst s2_13 (v := (3 : Int32)) (by decide) ?_
    refine H.iand s2_14 rfl ?_
    refine H.isub s2_15 rfl ?_
    refine H.callSD s2_16 (k_13 hw) (m_maxI l hw n0 A (0 : Int32) ((sz - (1 : Int32)) - (((x.toUInt32 >>> ((1 : Int32) &&& 31).toUInt32).toInt32) &&& (3 : Int32)))) (argsL := [(.int (0 : Int32)), (.int ((sz - (1 : Int32)) - (((x.toUInt32 >>> ((1 : Int32) &&& 31).toUInt32).toInt32) &&& (3 : Int32))))]) (rest := []) rfl rfl rfl rfl (leb rfl) (leb rfl) (leb rfl) (leb rfl) (st' := [(.int (own_maxI (0 : Int32) ((sz - (1 : Int32)) - (((x.toUInt32 >>> ((1 : Int32) &&& 31).toUInt32).toInt32) &&& (3 : Int32)))))]) rfl (k' := 0) rfl (n' := 0) rfl ?_
    exact H.ireturn s2_19 rfl (by simp) rfl ⟨by rw [own_ix, if_neg c3], rfl⟩ (by decide) (by decide)

def own_f1 : List Int64 := [(1 : Int64)]
theorem inv_1 : Inv (fun j => decide (j < 1)) 1 own_f1 (1 : Int64) := own_inv0 rfl (by decide +kernel) (by decide +kernel) (by decide)
def own_f2 : List Int64 := [(3 : Int64)]
theorem inv_2 : Inv (fun j => decide (j < 2)) 1 own_f2 (1 : Int64) := own_inv0 rfl (by decide +kernel) (by decide +kernel) (by decide)
def own_f3 : List Int64 := [(7 : Int64)]
theorem inv_3 : Inv (fun j => decide (j < 3)) 1 own_f3 (1 : Int64) := own_inv0 rfl (by decide +kernel) (by decide +kernel) (by decide)
def own_f64 : List Int64 := [(-1 : Int64)]
theorem inv_64 : Inv (fun j => decide (j < 64)) 1 own_f64 (1 : Int64) := own_inv0 rfl (by decide +kernel) (by decide +kernel) (by decide)
def own_f65 : List Int64 := [(-1 : Int64), (1 : Int64)]
theorem inv_65 : Inv (fun j => decide (j < 65)) 2 own_f65 (3 : Int64) := own_inv0 rfl (by decide +kernel) (by decide +kernel) (by decide)
def own_f66 : List Int64 := [(-1 : Int64), (3 : Int64)]
theorem inv_66 : Inv (fun j => decide (j < 66)) 2 own_f66 (3 : Int64) := own_inv0 rfl (by decide +kernel) (by decide +kernel) (by decide)
def own_f67 : List Int64 := [(-1 : Int64), (7 : Int64)]
theorem inv_67 : Inv (fun j => decide (j < 67)) 2 own_f67 (3 : Int64) := own_inv0 rfl (by decide +kernel) (by decide +kernel) (by decide)
def own_f128 : List Int64 := [(-1 : Int64), (-1 : Int64)]
theorem inv_128 : Inv (fun j => decide (j < 128)) 2 own_f128 (3 : Int64) := own_inv0 rfl (by decide +kernel) (by decide +kernel) (by decide)
def own_f129 : List Int64 := [(-1 : Int64), (-1 : Int64), (1 : Int64)]
theorem inv_129 : Inv (fun j => decide (j < 129)) 3 own_f129 (7 : Int64) := own_inv0 rfl (by decide +kernel) (by decide +kernel) (by decide)
def own_f130 : List Int64 := [(-1 : Int64), (-1 : Int64), (3 : Int64)]
theorem inv_130 : Inv (fun j => decide (j < 130)) 3 own_f130 (7 : Int64) := own_inv0 rfl (by decide +kernel) (by decide +kernel) (by decide)
def own_f131 : List Int64 := [(-1 : Int64), (-1 : Int64), (7 : Int64)]
theorem inv_131 : Inv (fun j => decide (j < 131)) 3 own_f131 (7 : Int64) := own_inv0 rfl (by decide +kernel) (by decide +kernel) (by decide)
def own_f192 : List Int64 := [(-1 : Int64), (-1 : Int64), (-1 : Int64)]
theorem inv_192 : Inv (fun j => decide (j < 192)) 3 own_f192 (7 : Int64) := own_inv0 rfl (by decide +kernel) (by decide +kernel) (by decide)
def own_f193 : List Int64 := [(-1 : Int64), (-1 : Int64), (-1 : Int64), (1 : Int64)]
theorem inv_193 : Inv (fun j => decide (j < 193)) 4 own_f193 (15 : Int64) := own_inv0 rfl (by decide +kernel) (by decide +kernel) (by decide)
def own_f194 : List Int64 := [(-1 : Int64), (-1 : Int64), (-1 : Int64), (3 : Int64)]
theorem inv_194 : Inv (fun j => decide (j < 194)) 4 own_f194 (15 : Int64) := own_inv0 rfl (by decide +kernel) (by decide +kernel) (by decide)
def own_f195 : List Int64 := [(-1 : Int64), (-1 : Int64), (-1 : Int64), (7 : Int64)]
theorem inv_195 : Inv (fun j => decide (j < 195)) 4 own_f195 (15 : Int64) := own_inv0 rfl (by decide +kernel) (by decide +kernel) (by decide)
theorem s0_0 : Nx code 0 (.iload_n 0) 1 1 := ⟨at_0, rfl⟩
theorem s0_1 : Nx code 1 (.iconst 3) 1 2 := ⟨at_1, rfl⟩
theorem s0_2 : Nx code 2 (.iand) 1 3 := ⟨at_2, rfl⟩
theorem s0_3 : Nx code 3 (.istore 5) 2 5 := ⟨at_3, rfl⟩
theorem s0_5 : Nx code 5 (.iload_n 0) 1 6 := ⟨at_5, rfl⟩
theorem s0_6 : Nx code 6 (.iconst 2) 1 7 := ⟨at_6, rfl⟩
theorem s0_7 : Nx code 7 (.iushr) 1 8 := ⟨at_7, rfl⟩
theorem s0_8 : Nx code 8 (.iconst 3) 1 9 := ⟨at_8, rfl⟩
theorem s0_9 : Nx code 9 (.iand) 1 10 := ⟨at_9, rfl⟩
theorem s0_10 : Nx code 10 (.istore 6) 2 12 := ⟨at_10, rfl⟩
theorem s0_12 : Nx code 12 (.iconst 1) 1 13 := ⟨at_12, rfl⟩
theorem s0_13 : Nx code 13 (.iload 5) 2 15 := ⟨at_13, rfl⟩
theorem s0_15 : Nx code 15 (.bipush 6) 2 17 := ⟨at_15, rfl⟩
theorem s0_17 : Nx code 17 (.ishl) 1 18 := ⟨at_17, rfl⟩
theorem s0_18 : Nx code 18 (.iload 6) 2 20 := ⟨at_18, rfl⟩
theorem s0_20 : Nx code 20 (.iadd) 1 21 := ⟨at_20, rfl⟩
theorem s0_21 : Nx code 21 (.invokestatic 7) 3 24 := ⟨at_21, rfl⟩
theorem a_0 (l : Launch) {Z : State} {a0 : Array Value} (hw : HW1 Z a0) (n0 : Nat)  : Met l Z KT n0 y1 b1 2 (some .int) ({ frames := 0, cells := 0, slots := 0, locals := 0 } : Room) #[(.int (1 : Int32)), (.int (0 : Int32))] [] (Is (some (.int (1 : Int32))) []) := by
  refine Met.of (a0 := a0) (ls := #[.val (.int (1 : Int32)), .val (.int (0 : Int32))]) (kok hw) (Jvm.Free.JP.mathPlain rfl (by decide +kernel)) (fun m => by first | (simp [entryFrame, mkF, argsToLocals, Value.category]; done) | rfl) (fun G H => ?_)
  refine H.iloadN s1_0 rfl ?_
  refine H.iloadN s1_1 rfl ?_
  refine H.icmpF s1_2 (show ¬ (1 : Int32) < (0 : Int32) by decide) ?_
  refine H.iloadN s1_5 rfl ?_
  refine H.goto s1_6 ?_
  exact H.ireturn s1_10 rfl (by simp) rfl ⟨rfl, rfl⟩ (by decide) (by decide)

theorem s0_24 : Nx code 24 (.istore 7) 2 26 := ⟨at_24, rfl⟩
theorem s0_26 : Nx code 26 (.iload_n 1) 1 27 := ⟨at_26, rfl⟩
theorem s0_27 : Nx code 27 (.iload 7) 2 29 := ⟨at_27, rfl⟩
theorem s0_29 : Nx code 29 (.invokestatic 19) 3 32 := ⟨at_29, rfl⟩
theorem k_14 {Z : State} {a0 : Array Value} (hw : HW1 Z a0) : SL Z a0 "com/example/wavegrant/wavegrant/IndexSetRemovePinLaw" 19 y2 b2 2 (some .int) 2 := ⟨(hw _ (List.mem_of_getElem? (i := 4) rfl)), (hw _ (List.mem_of_getElem? (i := 5) rfl)), (hw _ (List.mem_of_getElem? (i := 6) rfl)), (hw _ (List.mem_of_getElem? (i := 7) rfl)), ⟨by decide, by decide⟩, pd_3⟩
theorem s0_32 : Nx code 32 (.istore 8) 2 34 := ⟨at_32, rfl⟩
theorem s0_34 : Nx code 34 (.iload_n 2) 1 35 := ⟨at_34, rfl⟩
theorem s0_35 : Nx code 35 (.iload 7) 2 37 := ⟨at_35, rfl⟩
theorem s0_37 : Nx code 37 (.invokestatic 19) 3 40 := ⟨at_37, rfl⟩
theorem s0_40 : Nx code 40 (.istore 9) 2 42 := ⟨at_40, rfl⟩
theorem s0_42 : Nx code 42 (.iload_n 3) 1 43 := ⟨at_42, rfl⟩
theorem s0_43 : Nx code 43 (.iload 7) 2 45 := ⟨at_43, rfl⟩
theorem s0_45 : Nx code 45 (.invokestatic 19) 3 48 := ⟨at_45, rfl⟩
theorem s0_48 : Nx code 48 (.istore 10) 2 50 := ⟨at_48, rfl⟩
theorem s0_50 : Nx code 50 (.iload 4) 2 52 := ⟨at_50, rfl⟩
theorem s0_52 : Nx code 52 (.iconst 1) 1 53 := ⟨at_52, rfl⟩
theorem s0_53 : Nx code 53 (.iushr) 1 54 := ⟨at_53, rfl⟩
theorem s0_54 : Nx code 54 (.iload 7) 2 56 := ⟨at_54, rfl⟩
theorem s0_56 : Nx code 56 (.iconst 2) 1 57 := ⟨at_56, rfl⟩
theorem s0_57 : Nx code 57 (.iadd) 1 58 := ⟨at_57, rfl⟩
theorem s0_58 : Nx code 58 (.irem) 1 59 := ⟨at_58, rfl⟩
theorem s0_59 : Nx code 59 (.istore 11) 2 61 := ⟨at_59, rfl⟩
theorem k_15 {Z : State} {a0 : Array Value} (hw : HW1 Z a0) : NL Z a0 KT "com/example/wavegrant/wavegrant/IndexSetRemovePinLaw" 22 0 5 [(.int (0 : Int32)), .null, .null, .null, .null] := ⟨_, _, rfl, (hw _ (List.mem_of_getElem? (i := 8) rfl)), (hw _ (List.mem_of_getElem? (i := 9) rfl)), (hw _ (List.mem_of_getElem? (i := 10) rfl)), by decide +kernel⟩
theorem s0_61 : Nx code 61 (.new 22) 3 64 := ⟨at_61, rfl⟩
theorem s0_64 : Nx code 64 (.dup) 1 65 := ⟨at_64, rfl⟩
theorem s0_65 : Nx code 65 (.iload 7) 2 67 := ⟨at_65, rfl⟩
theorem s0_67 : Nx code 67 (.invokespecial 24) 3 70 := ⟨at_67, rfl⟩
theorem s3_0 : Nx b3 0 (.aload_n 0) 1 1 := ⟨by decide +kernel, rfl⟩
theorem s3_1 : Nx b3 1 (.invokespecial 1) 3 4 := ⟨by decide +kernel, rfl⟩
theorem k_16 {Z : State} {a0 : Array Value} (hw : HW1 Z a0) : IL Z a0 "com/example/wavegrant/wavegrant/IndexSet" 1 := ⟨(hw _ (List.mem_of_getElem? (i := 14) rfl)), (hw _ (List.mem_of_getElem? (i := 15) rfl)), (hw _ (List.mem_of_getElem? (i := 16) rfl))⟩
theorem s3_4 : Nx b3 4 (.aload_n 0) 1 5 := ⟨by decide +kernel, rfl⟩
theorem s3_5 : Nx b3 5 (.iload_n 1) 1 6 := ⟨by decide +kernel, rfl⟩
theorem k_17 {Z : State} {a0 : Array Value} (hw : HW1 Z a0) : PL Z a0 KT "com/example/wavegrant/wavegrant/IndexSet" "<init>" 7 0 0 .int := ⟨_, _, "com/example/wavegrant/wavegrant/IndexSet", "size", "I", "", rfl, rfl, (Or.inl (hw _ (List.mem_of_getElem? (i := 17) rfl))), (Or.inr ⟨(hw _ (List.mem_of_getElem? (i := 18) rfl)), rfl, rfl⟩), by decide +kernel⟩
theorem s3_6 : Nx b3 6 (.putfield 7) 3 9 := ⟨by decide +kernel, rfl⟩
theorem s3_9 : Nx b3 9 (.aload_n 0) 1 10 := ⟨by decide +kernel, rfl⟩
theorem s3_10 : Nx b3 10 (.iload_n 1) 1 11 := ⟨by decide +kernel, rfl⟩
theorem s3_11 : Nx b3 11 (.invokestatic 13) 3 14 := ⟨by decide +kernel, rfl⟩
theorem s5_0 : Nx b5 0 (.iload_n 0) 1 1 := ⟨by decide +kernel, rfl⟩
theorem s5_1 : Nx b5 1 (.bipush 63) 2 3 := ⟨by decide +kernel, rfl⟩
theorem s5_3 : Nx b5 3 (.iadd) 1 4 := ⟨by decide +kernel, rfl⟩
theorem s5_4 : Nx b5 4 (.bipush 6) 2 6 := ⟨by decide +kernel, rfl⟩
theorem s5_6 : Nx b5 6 (.iushr) 1 7 := ⟨by decide +kernel, rfl⟩
theorem s5_7 : Nx b5 7 (.ireturn) 1 8 := ⟨by decide +kernel, rfl⟩
theorem a_2 (l : Launch) {Z : State} {a0 : Array Value} (hw : HW1 Z a0) (n0 : Nat)  : Met l Z KT n0 y5 b5 1 (some .int) ({ frames := 0, cells := 0, slots := 0, locals := 0 } : Room) #[(.int (1 : Int32))] [.inl (0, [(.int (1 : Int32)), .null, .null, .null, .null])] (Is (some (.int (1 : Int32))) [.inl (0, [(.int (1 : Int32)), .null, .null, .null, .null])]) := by
  refine Met.of (a0 := a0) (ls := #[.val (.int (1 : Int32))]) (kok hw) (plainFor_of_name pn_7) (fun m => by first | (simp [entryFrame, mkF, argsToLocals, Value.category]; done) | rfl) (fun G H => ?_)
  refine H.iloadN s5_0 rfl ?_
  refine H.bipush s5_1 (v := (63 : Int32)) (by decide) ?_
  refine H.iadd s5_3 (w := (64 : Int32)) (by decide) ?_
  refine H.bipush s5_4 (v := (6 : Int32)) (by decide) ?_
  refine H.iushr s5_6 (w := (1 : Int32)) (by decide) ?_
  exact H.ireturn s5_7 rfl (by simp) rfl ⟨rfl, rfl⟩ (by decide) (by decide)

theorem k_18 {Z : State} {a0 : Array Value} (hw : HW1 Z a0) : SL Z a0 "com/example/wavegrant/wavegrant/IndexSet" 13 y5 b5 1 (some .int) 1 := ⟨(hw _ (List.mem_of_getElem? (i := 19) rfl)), (hw _ (List.mem_of_getElem? (i := 20) rfl)), (hw _ (List.mem_of_getElem? (i := 10) rfl)), (hw _ (List.mem_of_getElem? (i := 21) rfl)), ⟨by decide, by decide⟩, pd_0⟩
theorem s3_14 : Nx b3 14 (.newarray .long) 2 16 := ⟨by decide +kernel, rfl⟩
theorem k_19 {Z : State} {a0 : Array Value} (hw : HW1 Z a0) : AL Z a0 .long := (hw _ (List.mem_of_getElem? (i := 22) rfl))
theorem k_20 {Z : State} {a0 : Array Value} (hw : HW1 Z a0) : PL Z a0 KT "com/example/wavegrant/wavegrant/IndexSet" "<init>" 17 0 1 (.array .long) := ⟨_, _, "com/example/wavegrant/wavegrant/IndexSet", "members", "[J", "", rfl, rfl, (Or.inl (hw _ (List.mem_of_getElem? (i := 23) rfl))), (Or.inr ⟨(hw _ (List.mem_of_getElem? (i := 24) rfl)), rfl, rfl⟩), by decide +kernel⟩
theorem s3_16 : Nx b3 16 (.putfield 17) 3 19 := ⟨by decide +kernel, rfl⟩
theorem s3_19 : Nx b3 19 (.aload_n 0) 1 20 := ⟨by decide +kernel, rfl⟩
theorem s3_20 : Nx b3 20 (.aload_n 0) 1 21 := ⟨by decide +kernel, rfl⟩
theorem s3_21 : Nx b3 21 (.getfield 17) 3 24 := ⟨by decide +kernel, rfl⟩
theorem s3_24 : Nx b3 24 (.arraylength) 1 25 := ⟨by decide +kernel, rfl⟩
theorem s3_25 : Nx b3 25 (.invokestatic 13) 3 28 := ⟨by decide +kernel, rfl⟩
theorem a_3 (l : Launch) {Z : State} {a0 : Array Value} (hw : HW1 Z a0) (n0 : Nat)  : Met l Z KT n0 y5 b5 1 (some .int) ({ frames := 0, cells := 0, slots := 0, locals := 0 } : Room) #[(.int (1 : Int32))] [.inl (0, [(.int (1 : Int32)), (.ref (n0 + 1)), .null, .null, .null]), .inr (.long, [(.long (0 : Int64))])] (Is (some (.int (1 : Int32))) [.inl (0, [(.int (1 : Int32)), (.ref (n0 + 1)), .null, .null, .null]), .inr (.long, [(.long (0 : Int64))])]) := by
  refine Met.of (a0 := a0) (ls := #[.val (.int (1 : Int32))]) (kok hw) (plainFor_of_name pn_7) (fun m => by first | (simp [entryFrame, mkF, argsToLocals, Value.category]; done) | rfl) (fun G H => ?_)
  refine H.iloadN s5_0 rfl ?_
  refine H.bipush s5_1 (v := (63 : Int32)) (by decide) ?_
  refine H.iadd s5_3 (w := (64 : Int32)) (by decide) ?_
  refine H.bipush s5_4 (v := (6 : Int32)) (by decide) ?_
  refine H.iushr s5_6 (w := (1 : Int32)) (by decide) ?_
  exact H.ireturn s5_7 rfl (by simp) rfl ⟨rfl, rfl⟩ (by decide) (by decide)

theorem s3_28 : Nx b3 28 (.newarray .long) 2 30 := ⟨by decide +kernel, rfl⟩
theorem k_21 {Z : State} {a0 : Array Value} (hw : HW1 Z a0) : PL Z a0 KT "com/example/wavegrant/wavegrant/IndexSet" "<init>" 21 0 2 (.array .long) := ⟨_, _, "com/example/wavegrant/wavegrant/IndexSet", "nonEmpty", "[J", "", rfl, rfl, (Or.inl (hw _ (List.mem_of_getElem? (i := 25) rfl))), (Or.inr ⟨(hw _ (List.mem_of_getElem? (i := 26) rfl)), rfl, rfl⟩), by decide +kernel⟩
theorem s3_30 : Nx b3 30 (.putfield 21) 3 33 := ⟨by decide +kernel, rfl⟩
theorem s3_33 : Nx b3 33 (.aload_n 0) 1 34 := ⟨by decide +kernel, rfl⟩
theorem s3_34 : Nx b3 34 (.iload_n 1) 1 35 := ⟨by decide +kernel, rfl⟩
theorem s3_35 : Nx b3 35 (.invokestatic 24) 3 38 := ⟨by decide +kernel, rfl⟩
theorem s6_0 : Nx b6 0 (.iload_n 0) 1 1 := ⟨by decide +kernel, rfl⟩
theorem s6_1 : Nx b6 1 (.invokestatic 13) 3 4 := ⟨by decide +kernel, rfl⟩
theorem a_5 (l : Launch) {Z : State} {a0 : Array Value} (hw : HW1 Z a0) (n0 : Nat)  : Met l Z KT n0 y5 b5 1 (some .int) ({ frames := 0, cells := 0, slots := 0, locals := 0 } : Room) #[(.int (1 : Int32))] [.inl (0, [(.int (1 : Int32)), (.ref (n0 + 1)), (.ref (n0 + 2)), .null, .null]), .inr (.long, [(.long (0 : Int64))]), .inr (.long, [(.long (0 : Int64))])] (Is (some (.int (1 : Int32))) [.inl (0, [(.int (1 : Int32)), (.ref (n0 + 1)), (.ref (n0 + 2)), .null, .null]), .inr (.long, [(.long (0 : Int64))]), .inr (.long, [(.long (0 : Int64))])]) := by
  refine Met.of (a0 := a0) (ls := #[.val (.int (1 : Int32))]) (kok hw) (plainFor_of_name pn_7) (fun m => by first | (simp [entryFrame, mkF, argsToLocals, Value.category]; done) | rfl) (fun G H => ?_)
  refine H.iloadN s5_0 rfl ?_
  refine H.bipush s5_1 (v := (63 : Int32)) (by decide) ?_
  refine H.iadd s5_3 (w := (64 : Int32)) (by decide) ?_
  refine H.bipush s5_4 (v := (6 : Int32)) (by decide) ?_
  refine H.iushr s5_6 (w := (1 : Int32)) (by decide) ?_
  exact H.ireturn s5_7 rfl (by simp) rfl ⟨rfl, rfl⟩ (by decide) (by decide)

theorem s6_4 : Nx b6 4 (.newarray .long) 2 6 := ⟨by decide +kernel, rfl⟩
theorem s6_6 : Nx b6 6 (.astore_n 1) 1 7 := ⟨by decide +kernel, rfl⟩
theorem s6_7 : Nx b6 7 (.iconst 0) 1 8 := ⟨by decide +kernel, rfl⟩
theorem s6_8 : Nx b6 8 (.istore_n 2) 1 9 := ⟨by decide +kernel, rfl⟩
theorem s6_9 : Nx b6 9 (.iload_n 2) 1 10 := ⟨by decide +kernel, rfl⟩
theorem s6_10 : Nx b6 10 (.aload_n 1) 1 11 := ⟨by decide +kernel, rfl⟩
theorem s6_11 : Nx b6 11 (.arraylength) 1 12 := ⟨by decide +kernel, rfl⟩
theorem s6_12 : Bx b6 12 (.if_icmp .ge) 27 15 := ⟨(15), by decide +kernel, by decide, by decide, rfl⟩
theorem s6_15 : Nx b6 15 (.aload_n 1) 1 16 := ⟨by decide +kernel, rfl⟩
theorem s6_16 : Nx b6 16 (.iload_n 2) 1 17 := ⟨by decide +kernel, rfl⟩
theorem s6_17 : Nx b6 17 (.ldc2_w 40) 3 20 := ⟨by decide +kernel, rfl⟩
theorem s6_20 : Nx b6 20 (.lastore) 1 21 := ⟨by decide +kernel, rfl⟩
theorem s6_21 : Nx b6 21 (.iinc 2 1) 3 24 := ⟨by decide +kernel, rfl⟩
theorem s6_24 : Bx b6 24 (.goto) 9 27 := ⟨(-15), by decide +kernel, by decide, by decide, rfl⟩
theorem s6_27 : Nx b6 27 (.iload_n 0) 1 28 := ⟨by decide +kernel, rfl⟩
theorem s6_28 : Nx b6 28 (.bipush 64) 2 30 := ⟨by decide +kernel, rfl⟩
theorem s6_30 : Nx b6 30 (.irem) 1 31 := ⟨by decide +kernel, rfl⟩
theorem s6_31 : Bx b6 31 (.ifCond .eq) 45 34 := ⟨(14), by decide +kernel, by decide, by decide, rfl⟩
theorem s6_34 : Nx b6 34 (.aload_n 1) 1 35 := ⟨by decide +kernel, rfl⟩
theorem s6_35 : Nx b6 35 (.aload_n 1) 1 36 := ⟨by decide +kernel, rfl⟩
theorem s6_36 : Nx b6 36 (.arraylength) 1 37 := ⟨by decide +kernel, rfl⟩
theorem s6_37 : Nx b6 37 (.iconst 1) 1 38 := ⟨by decide +kernel, rfl⟩
theorem s6_38 : Nx b6 38 (.isub) 1 39 := ⟨by decide +kernel, rfl⟩
theorem s6_39 : Nx b6 39 (.lconst 1) 1 40 := ⟨by decide +kernel, rfl⟩
theorem s6_40 : Nx b6 40 (.iload_n 0) 1 41 := ⟨by decide +kernel, rfl⟩
theorem s6_41 : Nx b6 41 (.lshl) 1 42 := ⟨by decide +kernel, rfl⟩
theorem s6_42 : Nx b6 42 (.lconst 1) 1 43 := ⟨by decide +kernel, rfl⟩
theorem s6_43 : Nx b6 43 (.lsub) 1 44 := ⟨by decide +kernel, rfl⟩
theorem s6_44 : Nx b6 44 (.lastore) 1 45 := ⟨by decide +kernel, rfl⟩
theorem s6_45 : Nx b6 45 (.aload_n 1) 1 46 := ⟨by decide +kernel, rfl⟩
theorem s6_46 : Nx b6 46 (.areturn) 1 47 := ⟨by decide +kernel, rfl⟩
theorem a_4 (l : Launch) {Z : State} {a0 : Array Value} (hw : HW1 Z a0) (n0 : Nat)  : Met l Z KT n0 y6 b6 3 (some (.array .long)) ({ frames := 1, cells := 1, slots := 1, locals := 12 } : Room) #[(.int (1 : Int32))] [.inl (0, [(.int (1 : Int32)), (.ref (n0 + 1)), (.ref (n0 + 2)), .null, .null]), .inr (.long, [(.long (0 : Int64))]), .inr (.long, [(.long (0 : Int64))])] (Is (some (.ref (n0 + 3))) [.inl (0, [(.int (1 : Int32)), (.ref (n0 + 1)), (.ref (n0 + 2)), .null, .null]), .inr (.long, [(.long (0 : Int64))]), .inr (.long, [(.long (0 : Int64))]), .inr (.long, [(.long (1 : Int64))])]) := by
  refine Met.of (a0 := a0) (ls := #[.val (.int (1 : Int32)), .unset, .unset]) (kok hw) (plainFor_of_name pn_7) (fun m => by first | (simp [entryFrame, mkF, argsToLocals, Value.category]; done) | rfl) (fun G H => ?_)
  refine H.iloadN s6_0 rfl ?_
  refine H.callSD s6_1 (k_18 hw) (a_5 l hw n0) (argsL := [(.int (1 : Int32))]) (rest := []) rfl rfl rfl rfl (leb rfl) (leb rfl) (leb rfl) (leb rfl) (st' := [(.int (1 : Int32))]) rfl (k' := 0) rfl (n' := 0) rfl ?_
  refine H.newarray s6_4 (ty := .long) rfl (k_19 hw) (N := 1) (cap := 1) (by decide) rfl (by decide) (by decide) (by first | rfl | simp) (by decide) (by decide) (i := 3) rfl (A' := [.inl (0, [(.int (1 : Int32)), (.ref (n0 + 1)), (.ref (n0 + 2)), .null, .null]), .inr (.long, [(.long (0 : Int64))]), .inr (.long, [(.long (0 : Int64))]), .inr (.long, [(.long (0 : Int64))])]) rfl (k' := 1) rfl (n' := 1) rfl ?_
  refine H.astoreN s6_6 rfl (ls' := #[.val (.int (1 : Int32)), .val (.ref (n0 + 3)), .unset]) rfl ?_
  refine H.iconst s6_7 (v := (0 : Int32)) (by decide) ?_
  refine H.istoreN s6_8 (ls' := #[.val (.int (1 : Int32)), .val (.ref (n0 + 3)), .val (.int (0 : Int32))]) rfl ?_
  refine H.iloadN s6_9 rfl ?_
  refine H.aloadN s6_10 rfl rfl ?_
  refine H.arraylength s6_11 (i := 3) rfl (z := (1 : Int32)) rfl ?_
  refine H.icmpF s6_12 (show (0 : Int32) < (1 : Int32) by decide) ?_
  refine H.aloadN s6_15 rfl rfl ?_
  refine H.iloadN s6_16 rfl ?_
  refine H.ldc2 s6_17 (k_5 hw) ?_
  refine H.lastore s6_20 (i := 3) (j := 0) rfl (by decide) (ltb rfl)  rfl ?_
  refine H.iinc s6_21 rfl (w := (1 : Int32)) (by decide) (ls' := #[.val (.int (1 : Int32)), .val (.ref (n0 + 3)), .val (.int (1 : Int32))]) rfl ?_
  refine H.goto s6_24 ?_
  refine H.iloadN s6_9 rfl ?_
  refine H.aloadN s6_10 rfl rfl ?_
  refine H.arraylength s6_11 (i := 3) rfl (z := (1 : Int32)) rfl ?_
  refine H.icmpT s6_12 (show ¬ (1 : Int32) < (1 : Int32) by decide) ?_
  refine H.iloadN s6_27 rfl ?_
  refine H.bipush s6_28 (v := (64 : Int32)) (by decide) ?_
  refine H.irem s6_30 (by decide) (w := (1 : Int32)) (by decide) ?_
  refine H.ifF s6_31 (show ¬ (1 : Int32) = (0 : Int32) by decide) ?_
  refine H.aloadN s6_34 rfl rfl ?_
  refine H.aloadN s6_35 rfl rfl ?_
  refine H.arraylength s6_36 (i := 3) rfl (z := (1 : Int32)) rfl ?_
  refine H.iconst s6_37 (v := (1 : Int32)) (by decide) ?_
  refine H.isub s6_38 (w := (0 : Int32)) (by decide) ?_
  refine H.lconst s6_39 (v := (1 : Int64)) (by decide) ?_
  refine H.iloadN s6_40 rfl ?_
  refine H.lshl s6_41 (w := (2 : Int64)) (by decide) ?_
  refine H.lconst s6_42 (v := (1 : Int64)) (by decide) ?_
  refine H.lsub s6_43 (w := (1 : Int64)) (by decide) ?_
  refine H.lastore s6_44 (i := 3) (j := 0) rfl (by decide) (ltb rfl)  rfl ?_
  refine H.aloadN s6_45 rfl rfl ?_
  exact H.areturn s6_46 rfl rfl rfl rfl ⟨rfl, rfl⟩ (by decide) (by decide)

theorem pd_4 : ∀ sig, parseMethodDescriptor "(I)[J" = some sig → 1 = sig.parameters.length := npOf (r := some (.array .long)) (ps := [.int]) (by decide +kernel) rfl
theorem k_22 {Z : State} {a0 : Array Value} (hw : HW1 Z a0) : SL Z a0 "com/example/wavegrant/wavegrant/IndexSet" 24 y6 b6 3 (some (.array .long)) 1 := ⟨(hw _ (List.mem_of_getElem? (i := 27) rfl)), (hw _ (List.mem_of_getElem? (i := 28) rfl)), (hw _ (List.mem_of_getElem? (i := 10) rfl)), (hw _ (List.mem_of_getElem? (i := 29) rfl)), ⟨by decide, by decide⟩, pd_4⟩
theorem k_23 {Z : State} {a0 : Array Value} (hw : HW1 Z a0) : PL Z a0 KT "com/example/wavegrant/wavegrant/IndexSet" "<init>" 28 0 3 (.array .long) := ⟨_, _, "com/example/wavegrant/wavegrant/IndexSet", "allMembers", "[J", "", rfl, rfl, (Or.inl (hw _ (List.mem_of_getElem? (i := 31) rfl))), (Or.inr ⟨(hw _ (List.mem_of_getElem? (i := 32) rfl)), rfl, rfl⟩), by decide +kernel⟩
theorem s3_38 : Nx b3 38 (.putfield 28) 3 41 := ⟨by decide +kernel, rfl⟩
theorem s3_41 : Nx b3 41 (.aload_n 0) 1 42 := ⟨by decide +kernel, rfl⟩
theorem s3_42 : Nx b3 42 (.aload_n 0) 1 43 := ⟨by decide +kernel, rfl⟩
theorem s3_43 : Nx b3 43 (.getfield 17) 3 46 := ⟨by decide +kernel, rfl⟩
theorem s3_46 : Nx b3 46 (.arraylength) 1 47 := ⟨by decide +kernel, rfl⟩
theorem s3_47 : Nx b3 47 (.invokestatic 24) 3 50 := ⟨by decide +kernel, rfl⟩
theorem a_7 (l : Launch) {Z : State} {a0 : Array Value} (hw : HW1 Z a0) (n0 : Nat)  : Met l Z KT n0 y5 b5 1 (some .int) ({ frames := 0, cells := 0, slots := 0, locals := 0 } : Room) #[(.int (1 : Int32))] [.inl (0, [(.int (1 : Int32)), (.ref (n0 + 1)), (.ref (n0 + 2)), (.ref (n0 + 3)), .null]), .inr (.long, [(.long (0 : Int64))]), .inr (.long, [(.long (0 : Int64))]), .inr (.long, [(.long (1 : Int64))])] (Is (some (.int (1 : Int32))) [.inl (0, [(.int (1 : Int32)), (.ref (n0 + 1)), (.ref (n0 + 2)), (.ref (n0 + 3)), .null]), .inr (.long, [(.long (0 : Int64))]), .inr (.long, [(.long (0 : Int64))]), .inr (.long, [(.long (1 : Int64))])]) := by
  refine Met.of (a0 := a0) (ls := #[.val (.int (1 : Int32))]) (kok hw) (plainFor_of_name pn_7) (fun m => by first | (simp [entryFrame, mkF, argsToLocals, Value.category]; done) | rfl) (fun G H => ?_)
  refine H.iloadN s5_0 rfl ?_
  refine H.bipush s5_1 (v := (63 : Int32)) (by decide) ?_
  refine H.iadd s5_3 (w := (64 : Int32)) (by decide) ?_
  refine H.bipush s5_4 (v := (6 : Int32)) (by decide) ?_
  refine H.iushr s5_6 (w := (1 : Int32)) (by decide) ?_
  exact H.ireturn s5_7 rfl (by simp) rfl ⟨rfl, rfl⟩ (by decide) (by decide)


theorem a_6 (l : Launch) {Z : State} {a0 : Array Value} (hw : HW1 Z a0) (n0 : Nat)  : Met l Z KT n0 y6 b6 3 (some (.array .long)) ({ frames := 1, cells := 1, slots := 1, locals := 12 } : Room) #[(.int (1 : Int32))] [.inl (0, [(.int (1 : Int32)), (.ref (n0 + 1)), (.ref (n0 + 2)), (.ref (n0 + 3)), .null]), .inr (.long, [(.long (0 : Int64))]), .inr (.long, [(.long (0 : Int64))]), .inr (.long, [(.long (1 : Int64))])] (Is (some (.ref (n0 + 4))) [.inl (0, [(.int (1 : Int32)), (.ref (n0 + 1)), (.ref (n0 + 2)), (.ref (n0 + 3)), .null]), .inr (.long, [(.long (0 : Int64))]), .inr (.long, [(.long (0 : Int64))]), .inr (.long, [(.long (1 : Int64))]), .inr (.long, [(.long (1 : Int64))])]) := by
  refine Met.of (a0 := a0) (ls := #[.val (.int (1 : Int32)), .unset, .unset]) (kok hw) (plainFor_of_name pn_7) (fun m => by first | (simp [entryFrame, mkF, argsToLocals, Value.category]; done) | rfl) (fun G H => ?_)
  refine H.iloadN s6_0 rfl ?_
  refine H.callSD s6_1 (k_18 hw) (a_7 l hw n0) (argsL := [(.int (1 : Int32))]) (rest := []) rfl rfl rfl rfl (leb rfl) (leb rfl) (leb rfl) (leb rfl) (st' := [(.int (1 : Int32))]) rfl (k' := 0) rfl (n' := 0) rfl ?_
  refine H.newarray s6_4 (ty := .long) rfl (k_19 hw) (N := 1) (cap := 1) (by decide) rfl (by decide) (by decide) (by first | rfl | simp) (by decide) (by decide) (i := 4) rfl (A' := [.inl (0, [(.int (1 : Int32)), (.ref (n0 + 1)), (.ref (n0 + 2)), (.ref (n0 + 3)), .null]), .inr (.long, [(.long (0 : Int64))]), .inr (.long, [(.long (0 : Int64))]), .inr (.long, [(.long (1 : Int64))]), .inr (.long, [(.long (0 : Int64))])]) rfl (k' := 1) rfl (n' := 1) rfl ?_
  refine H.astoreN s6_6 rfl (ls' := #[.val (.int (1 : Int32)), .val (.ref (n0 + 4)), .unset]) rfl ?_
  refine H.iconst s6_7 (v := (0 : Int32)) (by decide) ?_
  refine H.istoreN s6_8 (ls' := #[.val (.int (1 : Int32)), .val (.ref (n0 + 4)), .val (.int (0 : Int32))]) rfl ?_
  refine H.iloadN s6_9 rfl ?_
  refine H.aloadN s6_10 rfl rfl ?_
  refine H.arraylength s6_11 (i := 4) rfl (z := (1 : Int32)) rfl ?_
  refine H.icmpF s6_12 (show (0 : Int32) < (1 : Int32) by decide) ?_
  refine H.aloadN s6_15 rfl rfl ?_
  refine H.iloadN s6_16 rfl ?_
  refine H.ldc2 s6_17 (k_5 hw) ?_
  refine H.lastore s6_20 (i := 4) (j := 0) rfl (by decide) (ltb rfl)  rfl ?_
  refine H.iinc s6_21 rfl (w := (1 : Int32)) (by decide) (ls' := #[.val (.int (1 : Int32)), .val (.ref (n0 + 4)), .val (.int (1 : Int32))]) rfl ?_
  refine H.goto s6_24 ?_
  refine H.iloadN s6_9 rfl ?_
  refine H.aloadN s6_10 rfl rfl ?_
  refine H.arraylength s6_11 (i := 4) rfl (z := (1 : Int32)) rfl ?_
  refine H.icmpT s6_12 (show ¬ (1 : Int32) < (1 : Int32) by decide) ?_
  refine H.iloadN s6_27 rfl ?_
  refine H.bipush s6_28 (v := (64 : Int32)) (by decide) ?_
  refine H.irem s6_30 (by decide) (w := (1 : Int32)) (by decide) ?_
  refine H.ifF s6_31 (show ¬ (1 : Int32) = (0 : Int32) by decide) ?_
  refine H.aloadN s6_34 rfl rfl ?_
  refine H.aloadN s6_35 rfl rfl ?_
  refine H.arraylength s6_36 (i := 4) rfl (z := (1 : Int32)) rfl ?_
  refine H.iconst s6_37 (v := (1 : Int32)) (by decide) ?_
  refine H.isub s6_38 (w := (0 : Int32)) (by decide) ?_
  refine H.lconst s6_39 (v := (1 : Int64)) (by decide) ?_
  refine H.iloadN s6_40 rfl ?_
  refine H.lshl s6_41 (w := (2 : Int64)) (by decide) ?_
  refine H.lconst s6_42 (v := (1 : Int64)) (by decide) ?_
  refine H.lsub s6_43 (w := (1 : Int64)) (by decide) ?_
  refine H.lastore s6_44 (i := 4) (j := 0) rfl (by decide) (ltb rfl)  rfl ?_
  refine H.aloadN s6_45 rfl rfl ?_
  exact H.areturn s6_46 rfl rfl rfl rfl ⟨rfl, rfl⟩ (by decide) (by decide)

theorem k_24 {Z : State} {a0 : Array Value} (hw : HW1 Z a0) : PL Z a0 KT "com/example/wavegrant/wavegrant/IndexSet" "<init>" 31 0 4 (.array .long) := ⟨_, _, "com/example/wavegrant/wavegrant/IndexSet", "allNonEmpty", "[J", "", rfl, rfl, (Or.inl (hw _ (List.mem_of_getElem? (i := 33) rfl))), (Or.inr ⟨(hw _ (List.mem_of_getElem? (i := 34) rfl)), rfl, rfl⟩), by decide +kernel⟩
theorem s3_50 : Nx b3 50 (.putfield 31) 3 53 := ⟨by decide +kernel, rfl⟩
theorem s3_53 : Nx b3 53 (.return_) 1 54 := ⟨by decide +kernel, rfl⟩
theorem a_1 (l : Launch) {Z : State} {a0 : Array Value} (hw : HW1 Z a0) (n0 : Nat)  : Met l Z KT n0 y3 b3 2 none ({ frames := 2, cells := 4, slots := 4, locals := 27 } : Room) #[(.ref (n0 + 0)), (.int (1 : Int32))] [.inl (0, [(.int (0 : Int32)), .null, .null, .null, .null])] (Is none [.inl (0, [(.int (1 : Int32)), (.ref (n0 + 1)), (.ref (n0 + 2)), (.ref (n0 + 3)), (.ref (n0 + 4))]), .inr (.long, [(.long (0 : Int64))]), .inr (.long, [(.long (0 : Int64))]), .inr (.long, [(.long (1 : Int64))]), .inr (.long, [(.long (1 : Int64))])]) := by
  refine Met.of (a0 := a0) (ls := #[.val (.ref (n0 + 0)), .val (.int (1 : Int32))]) (kok hw) (plainFor_of_name pn_7) (fun m => by first | (simp [entryFrame, mkF, argsToLocals, Value.category]; done) | rfl) (fun G H => ?_)
  refine H.aloadN s3_0 rfl rfl ?_
  refine H.initO s3_1 (k_16 hw) rfl (leb rfl) (leb rfl) ?_
  refine H.aloadN s3_4 rfl rfl ?_
  refine H.iloadN s3_5 rfl ?_
  refine H.putfield s3_6 (k_17 hw) (i := 0) rfl rfl rfl rfl ?_
  refine H.aloadN s3_9 rfl rfl ?_
  refine H.iloadN s3_10 rfl ?_
  refine H.callSD s3_11 (k_18 hw) (a_2 l hw n0) (argsL := [(.int (1 : Int32))]) (rest := [(.ref (n0 + 0))]) rfl rfl rfl rfl (leb rfl) (leb rfl) (leb rfl) (leb rfl) (st' := [(.int (1 : Int32)), (.ref (n0 + 0))]) rfl (k' := 0) rfl (n' := 0) rfl ?_
  refine H.newarray s3_14 (ty := .long) rfl (k_19 hw) (N := 1) (cap := 1) (by decide) rfl (by decide) (by decide) (by first | rfl | simp) (by decide) (by decide) (i := 1) rfl (A' := [.inl (0, [(.int (1 : Int32)), .null, .null, .null, .null]), .inr (.long, [(.long (0 : Int64))])]) rfl (k' := 1) rfl (n' := 1) rfl ?_
  refine H.putfield s3_16 (k_20 hw) (i := 0) rfl rfl rfl rfl ?_
  refine H.aloadN s3_19 rfl rfl ?_
  refine H.aloadN s3_20 rfl rfl ?_
  refine H.getfield s3_21 (k_4 hw) (i := 0) rfl rfl ?_
  refine H.arraylength s3_24 (i := 1) rfl (z := (1 : Int32)) rfl ?_
  refine H.callSD s3_25 (k_18 hw) (a_3 l hw n0) (argsL := [(.int (1 : Int32))]) (rest := [(.ref (n0 + 0))]) rfl rfl rfl rfl (leb rfl) (leb rfl) (leb rfl) (leb rfl) (st' := [(.int (1 : Int32)), (.ref (n0 + 0))]) rfl (k' := 1) rfl (n' := 1) rfl ?_
  refine H.newarray s3_28 (ty := .long) rfl (k_19 hw) (N := 1) (cap := 1) (by decide) rfl (by decide) (by decide) (by first | rfl | simp) (by decide) (by decide) (i := 2) rfl (A' := [.inl (0, [(.int (1 : Int32)), (.ref (n0 + 1)), .null, .null, .null]), .inr (.long, [(.long (0 : Int64))]), .inr (.long, [(.long (0 : Int64))])]) rfl (k' := 2) rfl (n' := 2) rfl ?_
  refine H.putfield s3_30 (k_21 hw) (i := 0) rfl rfl rfl rfl ?_
  refine H.aloadN s3_33 rfl rfl ?_
  refine H.iloadN s3_34 rfl ?_
  refine H.callSD s3_35 (k_22 hw) (a_4 l hw n0) (argsL := [(.int (1 : Int32))]) (rest := [(.ref (n0 + 0))]) rfl rfl rfl rfl (leb rfl) (leb rfl) (leb rfl) (leb rfl) (st' := [(.ref (n0 + 3)), (.ref (n0 + 0))]) rfl (k' := 3) rfl (n' := 3) rfl ?_
  refine H.putfield s3_38 (k_23 hw) (i := 0) rfl rfl rfl rfl ?_
  refine H.aloadN s3_41 rfl rfl ?_
  refine H.aloadN s3_42 rfl rfl ?_
  refine H.getfield s3_43 (k_4 hw) (i := 0) rfl rfl ?_
  refine H.arraylength s3_46 (i := 1) rfl (z := (1 : Int32)) rfl ?_
  refine H.callSD s3_47 (k_22 hw) (a_6 l hw n0) (argsL := [(.int (1 : Int32))]) (rest := [(.ref (n0 + 0))]) rfl rfl rfl rfl (leb rfl) (leb rfl) (leb rfl) (leb rfl) (st' := [(.ref (n0 + 4)), (.ref (n0 + 0))]) rfl (k' := 4) rfl (n' := 4) rfl ?_
  refine H.putfield s3_50 (k_24 hw) (i := 0) rfl rfl rfl rfl ?_
  exact H.vreturn s3_53 rfl ⟨rfl, rfl⟩ (by decide) (by decide)

theorem pd_5 : ∀ sig, parseMethodDescriptor "(I)V" = some sig → 1 = sig.parameters.length := npOf (r := none) (ps := [.int]) (by decide +kernel) rfl
theorem k_25 {Z : State} {a0 : Array Value} (hw : HW1 Z a0) : CL Z a0 "com/example/wavegrant/wavegrant/IndexSetRemovePinLaw" 24 y3 b3 2 1 := ⟨(hw _ (List.mem_of_getElem? (i := 11) rfl)), (hw _ (List.mem_of_getElem? (i := 12) rfl)), (hw _ (List.mem_of_getElem? (i := 10) rfl)), (hw _ (List.mem_of_getElem? (i := 13) rfl)), ⟨by decide, by decide⟩, pd_5, rfl⟩
theorem s0_70 : Nx code 70 (.astore 12) 2 72 := ⟨at_70, rfl⟩
theorem s0_72 : Nx code 72 (.aload 12) 2 74 := ⟨at_72, rfl⟩
theorem s0_74 : Nx code 74 (.invokevirtual 27) 3 77 := ⟨at_74, rfl⟩
theorem s7_0 : Nx b7 0 (.aload_n 0) 1 1 := ⟨by decide +kernel, rfl⟩
theorem k_26 {Z : State} {a0 : Array Value} (hw : HW1 Z a0) : FL Z a0 KT "com/example/wavegrant/wavegrant/IndexSet" 28 0 3 := ⟨_, _, "com/example/wavegrant/wavegrant/IndexSet", "allMembers", "[J", "", rfl, rfl, (Or.inl (hw _ (List.mem_of_getElem? (i := 31) rfl)))⟩
theorem s7_1 : Nx b7 1 (.getfield 28) 3 4 := ⟨by decide +kernel, rfl⟩
theorem s7_4 : Nx b7 4 (.iconst 0) 1 5 := ⟨by decide +kernel, rfl⟩
theorem s7_5 : Nx b7 5 (.aload_n 0) 1 6 := ⟨by decide +kernel, rfl⟩
theorem s7_6 : Nx b7 6 (.getfield 17) 3 9 := ⟨by decide +kernel, rfl⟩
theorem s7_9 : Nx b7 9 (.iconst 0) 1 10 := ⟨by decide +kernel, rfl⟩
theorem s7_10 : Nx b7 10 (.aload_n 0) 1 11 := ⟨by decide +kernel, rfl⟩
theorem s7_11 : Nx b7 11 (.getfield 17) 3 14 := ⟨by decide +kernel, rfl⟩
theorem s7_14 : Nx b7 14 (.arraylength) 1 15 := ⟨by decide +kernel, rfl⟩
theorem s7_15 : Nx b7 15 (.invokestatic 34) 3 18 := ⟨by decide +kernel, rfl⟩
theorem k_27 {Z : State} {a0 : Array Value} (hw : HW1 Z a0) : XL Z a0 "com/example/wavegrant/wavegrant/IndexSet" 34 := ⟨(hw _ (List.mem_of_getElem? (i := 40) rfl)), (hw _ (List.mem_of_getElem? (i := 43) rfl)), (hw _ (List.mem_of_getElem? (i := 41) rfl)), (hw _ (List.mem_of_getElem? (i := 42) rfl))⟩
theorem s7_18 : Nx b7 18 (.aload_n 0) 1 19 := ⟨by decide +kernel, rfl⟩
theorem k_28 {Z : State} {a0 : Array Value} (hw : HW1 Z a0) : FL Z a0 KT "com/example/wavegrant/wavegrant/IndexSet" 31 0 4 := ⟨_, _, "com/example/wavegrant/wavegrant/IndexSet", "allNonEmpty", "[J", "", rfl, rfl, (Or.inl (hw _ (List.mem_of_getElem? (i := 33) rfl)))⟩
theorem s7_19 : Nx b7 19 (.getfield 31) 3 22 := ⟨by decide +kernel, rfl⟩
theorem s7_22 : Nx b7 22 (.iconst 0) 1 23 := ⟨by decide +kernel, rfl⟩
theorem s7_23 : Nx b7 23 (.aload_n 0) 1 24 := ⟨by decide +kernel, rfl⟩
theorem s7_24 : Nx b7 24 (.getfield 21) 3 27 := ⟨by decide +kernel, rfl⟩
theorem s7_27 : Nx b7 27 (.iconst 0) 1 28 := ⟨by decide +kernel, rfl⟩
theorem s7_28 : Nx b7 28 (.aload_n 0) 1 29 := ⟨by decide +kernel, rfl⟩
theorem s7_29 : Nx b7 29 (.getfield 21) 3 32 := ⟨by decide +kernel, rfl⟩
theorem s7_32 : Nx b7 32 (.arraylength) 1 33 := ⟨by decide +kernel, rfl⟩
theorem s7_33 : Nx b7 33 (.invokestatic 34) 3 36 := ⟨by decide +kernel, rfl⟩
theorem s7_36 : Nx b7 36 (.return_) 1 37 := ⟨by decide +kernel, rfl⟩
theorem a_8 (l : Launch) {Z : State} {a0 : Array Value} (hw : HW1 Z a0) (n0 : Nat)  : Met l Z KT n0 y7 b7 1 none ({ frames := 1, cells := 0, slots := 0, locals := 18 } : Room) #[(.ref (n0 + 0))] [.inl (0, [(.int (1 : Int32)), (.ref (n0 + 1)), (.ref (n0 + 2)), (.ref (n0 + 3)), (.ref (n0 + 4))]), .inr (.long, [(.long (0 : Int64))]), .inr (.long, [(.long (0 : Int64))]), .inr (.long, [(.long (1 : Int64))]), .inr (.long, [(.long (1 : Int64))])] (Is none [.inl (0, [(.int (1 : Int32)), (.ref (n0 + 1)), (.ref (n0 + 2)), (.ref (n0 + 3)), (.ref (n0 + 4))]), .inr (.long, [(.long (1 : Int64))]), .inr (.long, [(.long (1 : Int64))]), .inr (.long, [(.long (1 : Int64))]), .inr (.long, [(.long (1 : Int64))])]) := by
  refine Met.of (a0 := a0) (ls := #[.val (.ref (n0 + 0))]) (kok hw) (plainFor_of_name pn_7) (fun m => by first | (simp [entryFrame, mkF, argsToLocals, Value.category]; done) | rfl) (fun G H => ?_)
  refine H.aloadN s7_0 rfl rfl ?_
  refine H.getfield s7_1 (k_26 hw) (i := 0) rfl rfl ?_
  refine H.iconst s7_4 (v := (0 : Int32)) (by decide) ?_
  refine H.aloadN s7_5 rfl rfl ?_
  refine H.getfield s7_6 (k_4 hw) (i := 0) rfl rfl ?_
  refine H.iconst s7_9 (v := (0 : Int32)) (by decide) ?_
  refine H.aloadN s7_10 rfl rfl ?_
  refine H.getfield s7_11 (k_4 hw) (i := 0) rfl rfl ?_
  refine H.arraylength s7_14 (i := 1) rfl (z := (1 : Int32)) rfl ?_
  refine H.arraycopy s7_15 (k_27 hw) (i := 3) (j := 1) rfl rfl rfl (p := 0) (q := 0) (r := 1) (by decide) (by decide) (by decide) (leb rfl) (leb rfl) (leb rfl) (leb rfl) (us := [(.long (1 : Int64))]) rfl rfl (leb rfl) (leb rfl) (by first | rfl | simp) (A' := [.inl (0, [(.int (1 : Int32)), (.ref (n0 + 1)), (.ref (n0 + 2)), (.ref (n0 + 3)), (.ref (n0 + 4))]), .inr (.long, [(.long (1 : Int64))]), .inr (.long, [(.long (0 : Int64))]), .inr (.long, [(.long (1 : Int64))]), .inr (.long, [(.long (1 : Int64))])]) rfl ?_
  refine H.aloadN s7_18 rfl rfl ?_
  refine H.getfield s7_19 (k_28 hw) (i := 0) rfl rfl ?_
  refine H.iconst s7_22 (v := (0 : Int32)) (by decide) ?_
  refine H.aloadN s7_23 rfl rfl ?_
  refine H.getfield s7_24 (k_6 hw) (i := 0) rfl rfl ?_
  refine H.iconst s7_27 (v := (0 : Int32)) (by decide) ?_
  refine H.aloadN s7_28 rfl rfl ?_
  refine H.getfield s7_29 (k_6 hw) (i := 0) rfl rfl ?_
  refine H.arraylength s7_32 (i := 2) rfl (z := (1 : Int32)) rfl ?_
  refine H.arraycopy s7_33 (k_27 hw) (i := 4) (j := 2) rfl rfl rfl (p := 0) (q := 0) (r := 1) (by decide) (by decide) (by decide) (leb rfl) (leb rfl) (leb rfl) (leb rfl) (us := [(.long (1 : Int64))]) rfl rfl (leb rfl) (leb rfl) (by first | rfl | simp) (A' := [.inl (0, [(.int (1 : Int32)), (.ref (n0 + 1)), (.ref (n0 + 2)), (.ref (n0 + 3)), (.ref (n0 + 4))]), .inr (.long, [(.long (1 : Int64))]), .inr (.long, [(.long (1 : Int64))]), .inr (.long, [(.long (1 : Int64))]), .inr (.long, [(.long (1 : Int64))])]) rfl ?_
  exact H.vreturn s7_36 rfl ⟨rfl, rfl⟩ (by decide) (by decide)

theorem pd_6 : ∀ sig, parseMethodDescriptor "()V" = some sig → 0 = sig.parameters.length := npOf (r := none) (ps := []) (by decide +kernel) rfl
theorem k_29 {Z : State} {a0 : Array Value} (hw : HW1 Z a0) : VL Z a0 KT "com/example/wavegrant/wavegrant/IndexSetRemovePinLaw" 27 0 y7 b7 1 none 0 := ⟨_, _, rfl, (hw _ (List.mem_of_getElem? (i := 35) rfl)), (hw _ (List.mem_of_getElem? (i := 36) rfl)), (hw _ (List.mem_of_getElem? (i := 38) rfl)), (hw _ (List.mem_of_getElem? (i := 37) rfl)), (hw _ (List.mem_of_getElem? (i := 10) rfl)), (hw _ (List.mem_of_getElem? (i := 39) rfl)), ⟨by decide, by decide⟩, pd_6⟩
theorem s0_77 : Nx code 77 (.aload 12) 2 79 := ⟨at_77, rfl⟩
theorem s0_79 : Nx code 79 (.iload 8) 2 81 := ⟨at_79, rfl⟩
theorem s0_81 : Nx code 81 (.invokevirtual 30) 3 84 := ⟨at_81, rfl⟩
theorem k_30 {Z : State} {a0 : Array Value} (hw : HW1 Z a0) : VL Z a0 KT "com/example/wavegrant/wavegrant/IndexSetRemovePinLaw" 30 0 y8 b8 3 none 1 := ⟨_, _, rfl, (hw _ (List.mem_of_getElem? (i := 44) rfl)), (hw _ (List.mem_of_getElem? (i := 45) rfl)), (hw _ (List.mem_of_getElem? (i := 47) rfl)), (hw _ (List.mem_of_getElem? (i := 46) rfl)), (hw _ (List.mem_of_getElem? (i := 10) rfl)), (hw _ (List.mem_of_getElem? (i := 48) rfl)), ⟨by decide, by decide⟩, pd_5⟩
theorem s0_84 : Nx code 84 (.aload 12) 2 86 := ⟨at_84, rfl⟩
theorem s0_86 : Nx code 86 (.iload 9) 2 88 := ⟨at_86, rfl⟩
theorem s0_88 : Nx code 88 (.invokevirtual 30) 3 91 := ⟨at_88, rfl⟩
theorem s0_91 : Nx code 91 (.aload 12) 2 93 := ⟨at_91, rfl⟩
theorem s0_93 : Nx code 93 (.iload 10) 2 95 := ⟨at_93, rfl⟩
theorem s0_95 : Nx code 95 (.invokevirtual 30) 3 98 := ⟨at_95, rfl⟩
theorem s0_98 : Nx code 98 (.aload 12) 2 100 := ⟨at_98, rfl⟩
theorem s0_100 : Nx code 100 (.iload 11) 2 102 := ⟨at_100, rfl⟩
theorem s0_102 : Nx code 102 (.invokevirtual 33) 3 105 := ⟨at_102, rfl⟩
theorem k_31 {Z : State} {a0 : Array Value} (hw : HW1 Z a0) : VL Z a0 KT "com/example/wavegrant/wavegrant/IndexSetRemovePinLaw" 33 0 y9 b9 5 (some .int) 1 := ⟨_, _, rfl, (hw _ (List.mem_of_getElem? (i := 49) rfl)), (hw _ (List.mem_of_getElem? (i := 50) rfl)), (hw _ (List.mem_of_getElem? (i := 52) rfl)), (hw _ (List.mem_of_getElem? (i := 51) rfl)), (hw _ (List.mem_of_getElem? (i := 10) rfl)), (hw _ (List.mem_of_getElem? (i := 53) rfl)), ⟨by decide, by decide⟩, pd_0⟩
theorem s0_105 : Nx code 105 (.iload 11) 2 107 := ⟨at_105, rfl⟩
theorem s0_107 : Nx code 107 (.iload 7) 2 109 := ⟨at_107, rfl⟩
theorem s0_109 : Nx code 109 (.iload 8) 2 111 := ⟨at_109, rfl⟩
theorem s0_111 : Nx code 111 (.iload 9) 2 113 := ⟨at_111, rfl⟩
theorem s0_113 : Nx code 113 (.iload 10) 2 115 := ⟨at_113, rfl⟩
theorem s0_115 : Nx code 115 (.invokestatic 37) 3 118 := ⟨at_115, rfl⟩
theorem pd_7 : ∀ sig, parseMethodDescriptor "(IIIII)I" = some sig → 5 = sig.parameters.length := npOf (r := some .int) (ps := [.int, .int, .int, .int, .int]) (by decide +kernel) rfl
theorem k_32 {Z : State} {a0 : Array Value} (hw : HW1 Z a0) : SL Z a0 "com/example/wavegrant/wavegrant/IndexSetRemovePinLaw" 37 y11 b11 6 (some .int) 5 := ⟨(hw _ (List.mem_of_getElem? (i := 58) rfl)), (hw _ (List.mem_of_getElem? (i := 59) rfl)), (hw _ (List.mem_of_getElem? (i := 6) rfl)), (hw _ (List.mem_of_getElem? (i := 60) rfl)), ⟨by decide, by decide⟩, pd_7⟩
theorem s0_118 : Bx code 118 (.if_icmp .ne) 125 121 := ⟨(7), at_118, by decide, by decide, rfl⟩
theorem s0_121 : Nx code 121 (.iconst 1) 1 122 := ⟨at_121, rfl⟩
theorem s0_122 : Bx code 122 (.goto) 126 125 := ⟨(4), at_122, by decide, by decide, rfl⟩
theorem s0_126 : Nx code 126 (.istore 13) 2 128 := ⟨at_126, rfl⟩
theorem s0_128 : Nx code 128 (.iload 13) 2 130 := ⟨at_128, rfl⟩
theorem s0_130 : Bx code 130 (.ifCond .eq) 158 133 := ⟨(28), at_130, by decide, by decide, rfl⟩
theorem s0_133 : Nx code 133 (.aload 12) 2 135 := ⟨at_133, rfl⟩
theorem s0_135 : Nx code 135 (.iconst 0) 1 136 := ⟨at_135, rfl⟩
theorem s0_136 : Nx code 136 (.invokevirtual 33) 3 139 := ⟨at_136, rfl⟩
theorem s0_139 : Nx code 139 (.iconst 0) 1 140 := ⟨at_139, rfl⟩
theorem s0_140 : Nx code 140 (.iload 7) 2 142 := ⟨at_140, rfl⟩
theorem s0_142 : Nx code 142 (.iload 8) 2 144 := ⟨at_142, rfl⟩
theorem s0_144 : Nx code 144 (.iload 9) 2 146 := ⟨at_144, rfl⟩
theorem s0_146 : Nx code 146 (.iload 10) 2 148 := ⟨at_146, rfl⟩
theorem s0_148 : Nx code 148 (.invokestatic 37) 3 151 := ⟨at_148, rfl⟩
theorem s0_151 : Bx code 151 (.if_icmp .ne) 158 154 := ⟨(7), at_151, by decide, by decide, rfl⟩
theorem s0_154 : Nx code 154 (.iconst 1) 1 155 := ⟨at_154, rfl⟩
theorem s0_155 : Bx code 155 (.goto) 159 158 := ⟨(4), at_155, by decide, by decide, rfl⟩
theorem s0_159 : Nx code 159 (.istore 13) 2 161 := ⟨at_159, rfl⟩
theorem s0_161 : Nx code 161 (.iload 13) 2 163 := ⟨at_161, rfl⟩
theorem s0_163 : Bx code 163 (.ifCond .eq) 193 166 := ⟨(30), at_163, by decide, by decide, rfl⟩
theorem s0_166 : Nx code 166 (.aload 12) 2 168 := ⟨at_166, rfl⟩
theorem s0_168 : Nx code 168 (.iload 8) 2 170 := ⟨at_168, rfl⟩
theorem s0_170 : Nx code 170 (.invokevirtual 33) 3 173 := ⟨at_170, rfl⟩
theorem s0_173 : Nx code 173 (.iload 8) 2 175 := ⟨at_173, rfl⟩
theorem s0_175 : Nx code 175 (.iload 7) 2 177 := ⟨at_175, rfl⟩
theorem s0_177 : Nx code 177 (.iload 8) 2 179 := ⟨at_177, rfl⟩
theorem s0_179 : Nx code 179 (.iload 9) 2 181 := ⟨at_179, rfl⟩
theorem s0_181 : Nx code 181 (.iload 10) 2 183 := ⟨at_181, rfl⟩
theorem s0_183 : Nx code 183 (.invokestatic 37) 3 186 := ⟨at_183, rfl⟩
theorem s0_186 : Bx code 186 (.if_icmp .ne) 193 189 := ⟨(7), at_186, by decide, by decide, rfl⟩
theorem s0_189 : Nx code 189 (.iconst 1) 1 190 := ⟨at_189, rfl⟩
theorem s0_190 : Bx code 190 (.goto) 194 193 := ⟨(4), at_190, by decide, by decide, rfl⟩
theorem s0_194 : Nx code 194 (.istore 13) 2 196 := ⟨at_194, rfl⟩
theorem s0_196 : Nx code 196 (.iload 13) 2 198 := ⟨at_196, rfl⟩
theorem s0_198 : Bx code 198 (.ifCond .eq) 228 201 := ⟨(30), at_198, by decide, by decide, rfl⟩
theorem s0_201 : Nx code 201 (.aload 12) 2 203 := ⟨at_201, rfl⟩
theorem s0_203 : Nx code 203 (.iload 9) 2 205 := ⟨at_203, rfl⟩
theorem s0_205 : Nx code 205 (.invokevirtual 33) 3 208 := ⟨at_205, rfl⟩
theorem s0_208 : Nx code 208 (.iload 9) 2 210 := ⟨at_208, rfl⟩
theorem s0_210 : Nx code 210 (.iload 7) 2 212 := ⟨at_210, rfl⟩
theorem s0_212 : Nx code 212 (.iload 8) 2 214 := ⟨at_212, rfl⟩
theorem s0_214 : Nx code 214 (.iload 9) 2 216 := ⟨at_214, rfl⟩
theorem s0_216 : Nx code 216 (.iload 10) 2 218 := ⟨at_216, rfl⟩
theorem s0_218 : Nx code 218 (.invokestatic 37) 3 221 := ⟨at_218, rfl⟩
theorem s0_221 : Bx code 221 (.if_icmp .ne) 228 224 := ⟨(7), at_221, by decide, by decide, rfl⟩
theorem s0_224 : Nx code 224 (.iconst 1) 1 225 := ⟨at_224, rfl⟩
theorem s0_225 : Bx code 225 (.goto) 229 228 := ⟨(4), at_225, by decide, by decide, rfl⟩
theorem s0_229 : Nx code 229 (.istore 13) 2 231 := ⟨at_229, rfl⟩
theorem s0_231 : Nx code 231 (.iload 13) 2 233 := ⟨at_231, rfl⟩
theorem s0_233 : Bx code 233 (.ifCond .eq) 263 236 := ⟨(30), at_233, by decide, by decide, rfl⟩
theorem s0_236 : Nx code 236 (.aload 12) 2 238 := ⟨at_236, rfl⟩
theorem s0_238 : Nx code 238 (.iload 10) 2 240 := ⟨at_238, rfl⟩
theorem s0_240 : Nx code 240 (.invokevirtual 33) 3 243 := ⟨at_240, rfl⟩
theorem s0_243 : Nx code 243 (.iload 10) 2 245 := ⟨at_243, rfl⟩
theorem s0_245 : Nx code 245 (.iload 7) 2 247 := ⟨at_245, rfl⟩
theorem s0_247 : Nx code 247 (.iload 8) 2 249 := ⟨at_247, rfl⟩
theorem s0_249 : Nx code 249 (.iload 9) 2 251 := ⟨at_249, rfl⟩
theorem s0_251 : Nx code 251 (.iload 10) 2 253 := ⟨at_251, rfl⟩
theorem s0_253 : Nx code 253 (.invokestatic 37) 3 256 := ⟨at_253, rfl⟩
theorem s0_256 : Bx code 256 (.if_icmp .ne) 263 259 := ⟨(7), at_256, by decide, by decide, rfl⟩
theorem s0_259 : Nx code 259 (.iconst 1) 1 260 := ⟨at_259, rfl⟩
theorem s0_260 : Bx code 260 (.goto) 264 263 := ⟨(4), at_260, by decide, by decide, rfl⟩
theorem s0_264 : Nx code 264 (.istore 13) 2 266 := ⟨at_264, rfl⟩
theorem s0_266 : Nx code 266 (.iload 13) 2 268 := ⟨at_266, rfl⟩
theorem s0_268 : Nx code 268 (.ireturn) 1 269 := ⟨at_268, rfl⟩
theorem a_9 (l : Launch) {Z : State} {a0 : Array Value} (hw : HW1 Z a0) (n0 : Nat)  : Met l Z KT n0 y1 b1 2 (some .int) ({ frames := 0, cells := 0, slots := 0, locals := 0 } : Room) #[(.int (1 : Int32)), (.int (1 : Int32))] [] (Is (some (.int (1 : Int32))) []) := by
  refine Met.of (a0 := a0) (ls := #[.val (.int (1 : Int32)), .val (.int (1 : Int32))]) (kok hw) (Jvm.Free.JP.mathPlain rfl (by decide +kernel)) (fun m => by first | (simp [entryFrame, mkF, argsToLocals, Value.category]; done) | rfl) (fun G H => ?_)
  refine H.iloadN s1_0 rfl ?_
  refine H.iloadN s1_1 rfl ?_
  refine H.icmpF s1_2 (show ¬ (1 : Int32) < (1 : Int32) by decide) ?_
  refine H.iloadN s1_5 rfl ?_
  refine H.goto s1_6 ?_
  exact H.ireturn s1_10 rfl (by simp) rfl ⟨rfl, rfl⟩ (by decide) (by decide)


theorem a_10 (l : Launch) {Z : State} {a0 : Array Value} (hw : HW1 Z a0) (n0 : Nat)  : Met l Z KT n0 y1 b1 2 (some .int) ({ frames := 0, cells := 0, slots := 0, locals := 0 } : Room) #[(.int (1 : Int32)), (.int (2 : Int32))] [] (Is (some (.int (2 : Int32))) []) := by
  refine Met.of (a0 := a0) (ls := #[.val (.int (1 : Int32)), .val (.int (2 : Int32))]) (kok hw) (Jvm.Free.JP.mathPlain rfl (by decide +kernel)) (fun m => by first | (simp [entryFrame, mkF, argsToLocals, Value.category]; done) | rfl) (fun G H => ?_)
  refine H.iloadN s1_0 rfl ?_
  refine H.iloadN s1_1 rfl ?_
  refine H.icmpT s1_2 (show (1 : Int32) < (2 : Int32) by decide) ?_
  refine H.iloadN s1_9 rfl ?_
  exact H.ireturn s1_10 rfl (by simp) rfl ⟨rfl, rfl⟩ (by decide) (by decide)


theorem a_12 (l : Launch) {Z : State} {a0 : Array Value} (hw : HW1 Z a0) (n0 : Nat)  : Met l Z KT n0 y5 b5 1 (some .int) ({ frames := 0, cells := 0, slots := 0, locals := 0 } : Room) #[(.int (2 : Int32))] [.inl (0, [(.int (2 : Int32)), .null, .null, .null, .null])] (Is (some (.int (1 : Int32))) [.inl (0, [(.int (2 : Int32)), .null, .null, .null, .null])]) := by
  refine Met.of (a0 := a0) (ls := #[.val (.int (2 : Int32))]) (kok hw) (plainFor_of_name pn_7) (fun m => by first | (simp [entryFrame, mkF, argsToLocals, Value.category]; done) | rfl) (fun G H => ?_)
  refine H.iloadN s5_0 rfl ?_
  refine H.bipush s5_1 (v := (63 : Int32)) (by decide) ?_
  refine H.iadd s5_3 (w := (65 : Int32)) (by decide) ?_
  refine H.bipush s5_4 (v := (6 : Int32)) (by decide) ?_
  refine H.iushr s5_6 (w := (1 : Int32)) (by decide) ?_
  exact H.ireturn s5_7 rfl (by simp) rfl ⟨rfl, rfl⟩ (by decide) (by decide)


theorem a_13 (l : Launch) {Z : State} {a0 : Array Value} (hw : HW1 Z a0) (n0 : Nat)  : Met l Z KT n0 y5 b5 1 (some .int) ({ frames := 0, cells := 0, slots := 0, locals := 0 } : Room) #[(.int (1 : Int32))] [.inl (0, [(.int (2 : Int32)), (.ref (n0 + 1)), .null, .null, .null]), .inr (.long, [(.long (0 : Int64))])] (Is (some (.int (1 : Int32))) [.inl (0, [(.int (2 : Int32)), (.ref (n0 + 1)), .null, .null, .null]), .inr (.long, [(.long (0 : Int64))])]) := by
  refine Met.of (a0 := a0) (ls := #[.val (.int (1 : Int32))]) (kok hw) (plainFor_of_name pn_7) (fun m => by first | (simp [entryFrame, mkF, argsToLocals, Value.category]; done) | rfl) (fun G H => ?_)
  refine H.iloadN s5_0 rfl ?_
  refine H.bipush s5_1 (v := (63 : Int32)) (by decide) ?_
  refine H.iadd s5_3 (w := (64 : Int32)) (by decide) ?_
  refine H.bipush s5_4 (v := (6 : Int32)) (by decide) ?_
  refine H.iushr s5_6 (w := (1 : Int32)) (by decide) ?_
  exact H.ireturn s5_7 rfl (by simp) rfl ⟨rfl, rfl⟩ (by decide) (by decide)


theorem a_15 (l : Launch) {Z : State} {a0 : Array Value} (hw : HW1 Z a0) (n0 : Nat)  : Met l Z KT n0 y5 b5 1 (some .int) ({ frames := 0, cells := 0, slots := 0, locals := 0 } : Room) #[(.int (2 : Int32))] [.inl (0, [(.int (2 : Int32)), (.ref (n0 + 1)), (.ref (n0 + 2)), .null, .null]), .inr (.long, [(.long (0 : Int64))]), .inr (.long, [(.long (0 : Int64))])] (Is (some (.int (1 : Int32))) [.inl (0, [(.int (2 : Int32)), (.ref (n0 + 1)), (.ref (n0 + 2)), .null, .null]), .inr (.long, [(.long (0 : Int64))]), .inr (.long, [(.long (0 : Int64))])]) := by
  refine Met.of (a0 := a0) (ls := #[.val (.int (2 : Int32))]) (kok hw) (plainFor_of_name pn_7) (fun m => by first | (simp [entryFrame, mkF, argsToLocals, Value.category]; done) | rfl) (fun G H => ?_)
  refine H.iloadN s5_0 rfl ?_
  refine H.bipush s5_1 (v := (63 : Int32)) (by decide) ?_
  refine H.iadd s5_3 (w := (65 : Int32)) (by decide) ?_
  refine H.bipush s5_4 (v := (6 : Int32)) (by decide) ?_
  refine H.iushr s5_6 (w := (1 : Int32)) (by decide) ?_
  exact H.ireturn s5_7 rfl (by simp) rfl ⟨rfl, rfl⟩ (by decide) (by decide)


theorem a_14 (l : Launch) {Z : State} {a0 : Array Value} (hw : HW1 Z a0) (n0 : Nat)  : Met l Z KT n0 y6 b6 3 (some (.array .long)) ({ frames := 1, cells := 1, slots := 1, locals := 12 } : Room) #[(.int (2 : Int32))] [.inl (0, [(.int (2 : Int32)), (.ref (n0 + 1)), (.ref (n0 + 2)), .null, .null]), .inr (.long, [(.long (0 : Int64))]), .inr (.long, [(.long (0 : Int64))])] (Is (some (.ref (n0 + 3))) [.inl (0, [(.int (2 : Int32)), (.ref (n0 + 1)), (.ref (n0 + 2)), .null, .null]), .inr (.long, [(.long (0 : Int64))]), .inr (.long, [(.long (0 : Int64))]), .inr (.long, [(.long (3 : Int64))])]) := by
  refine Met.of (a0 := a0) (ls := #[.val (.int (2 : Int32)), .unset, .unset]) (kok hw) (plainFor_of_name pn_7) (fun m => by first | (simp [entryFrame, mkF, argsToLocals, Value.category]; done) | rfl) (fun G H => ?_)
  refine H.iloadN s6_0 rfl ?_
  refine H.callSD s6_1 (k_18 hw) (a_15 l hw n0) (argsL := [(.int (2 : Int32))]) (rest := []) rfl rfl rfl rfl (leb rfl) (leb rfl) (leb rfl) (leb rfl) (st' := [(.int (1 : Int32))]) rfl (k' := 0) rfl (n' := 0) rfl ?_
  refine H.newarray s6_4 (ty := .long) rfl (k_19 hw) (N := 1) (cap := 1) (by decide) rfl (by decide) (by decide) (by first | rfl | simp) (by decide) (by decide) (i := 3) rfl (A' := [.inl (0, [(.int (2 : Int32)), (.ref (n0 + 1)), (.ref (n0 + 2)), .null, .null]), .inr (.long, [(.long (0 : Int64))]), .inr (.long, [(.long (0 : Int64))]), .inr (.long, [(.long (0 : Int64))])]) rfl (k' := 1) rfl (n' := 1) rfl ?_
  refine H.astoreN s6_6 rfl (ls' := #[.val (.int (2 : Int32)), .val (.ref (n0 + 3)), .unset]) rfl ?_
  refine H.iconst s6_7 (v := (0 : Int32)) (by decide) ?_
  refine H.istoreN s6_8 (ls' := #[.val (.int (2 : Int32)), .val (.ref (n0 + 3)), .val (.int (0 : Int32))]) rfl ?_
  refine H.iloadN s6_9 rfl ?_
  refine H.aloadN s6_10 rfl rfl ?_
  refine H.arraylength s6_11 (i := 3) rfl (z := (1 : Int32)) rfl ?_
  refine H.icmpF s6_12 (show (0 : Int32) < (1 : Int32) by decide) ?_
  refine H.aloadN s6_15 rfl rfl ?_
  refine H.iloadN s6_16 rfl ?_
  refine H.ldc2 s6_17 (k_5 hw) ?_
  refine H.lastore s6_20 (i := 3) (j := 0) rfl (by decide) (ltb rfl)  rfl ?_
  refine H.iinc s6_21 rfl (w := (1 : Int32)) (by decide) (ls' := #[.val (.int (2 : Int32)), .val (.ref (n0 + 3)), .val (.int (1 : Int32))]) rfl ?_
  refine H.goto s6_24 ?_
  refine H.iloadN s6_9 rfl ?_
  refine H.aloadN s6_10 rfl rfl ?_
  refine H.arraylength s6_11 (i := 3) rfl (z := (1 : Int32)) rfl ?_
  refine H.icmpT s6_12 (show ¬ (1 : Int32) < (1 : Int32) by decide) ?_
  refine H.iloadN s6_27 rfl ?_
  refine H.bipush s6_28 (v := (64 : Int32)) (by decide) ?_
  refine H.irem s6_30 (by decide) (w := (2 : Int32)) (by decide) ?_
  refine H.ifF s6_31 (show ¬ (2 : Int32) = (0 : Int32) by decide) ?_
  refine H.aloadN s6_34 rfl rfl ?_
  refine H.aloadN s6_35 rfl rfl ?_
  refine H.arraylength s6_36 (i := 3) rfl (z := (1 : Int32)) rfl ?_
  refine H.iconst s6_37 (v := (1 : Int32)) (by decide) ?_
  refine H.isub s6_38 (w := (0 : Int32)) (by decide) ?_
  refine H.lconst s6_39 (v := (1 : Int64)) (by decide) ?_
  refine H.iloadN s6_40 rfl ?_
  refine H.lshl s6_41 (w := (4 : Int64)) (by decide) ?_
  refine H.lconst s6_42 (v := (1 : Int64)) (by decide) ?_
  refine H.lsub s6_43 (w := (3 : Int64)) (by decide) ?_
  refine H.lastore s6_44 (i := 3) (j := 0) rfl (by decide) (ltb rfl)  rfl ?_
  refine H.aloadN s6_45 rfl rfl ?_
  exact H.areturn s6_46 rfl rfl rfl rfl ⟨rfl, rfl⟩ (by decide) (by decide)


theorem a_17 (l : Launch) {Z : State} {a0 : Array Value} (hw : HW1 Z a0) (n0 : Nat)  : Met l Z KT n0 y5 b5 1 (some .int) ({ frames := 0, cells := 0, slots := 0, locals := 0 } : Room) #[(.int (1 : Int32))] [.inl (0, [(.int (2 : Int32)), (.ref (n0 + 1)), (.ref (n0 + 2)), (.ref (n0 + 3)), .null]), .inr (.long, [(.long (0 : Int64))]), .inr (.long, [(.long (0 : Int64))]), .inr (.long, [(.long (3 : Int64))])] (Is (some (.int (1 : Int32))) [.inl (0, [(.int (2 : Int32)), (.ref (n0 + 1)), (.ref (n0 + 2)), (.ref (n0 + 3)), .null]), .inr (.long, [(.long (0 : Int64))]), .inr (.long, [(.long (0 : Int64))]), .inr (.long, [(.long (3 : Int64))])]) := by
  refine Met.of (a0 := a0) (ls := #[.val (.int (1 : Int32))]) (kok hw) (plainFor_of_name pn_7) (fun m => by first | (simp [entryFrame, mkF, argsToLocals, Value.category]; done) | rfl) (fun G H => ?_)
  refine H.iloadN s5_0 rfl ?_
  refine H.bipush s5_1 (v := (63 : Int32)) (by decide) ?_
  refine H.iadd s5_3 (w := (64 : Int32)) (by decide) ?_
  refine H.bipush s5_4 (v := (6 : Int32)) (by decide) ?_
  refine H.iushr s5_6 (w := (1 : Int32)) (by decide) ?_
  exact H.ireturn s5_7 rfl (by simp) rfl ⟨rfl, rfl⟩ (by decide) (by decide)


theorem a_16 (l : Launch) {Z : State} {a0 : Array Value} (hw : HW1 Z a0) (n0 : Nat)  : Met l Z KT n0 y6 b6 3 (some (.array .long)) ({ frames := 1, cells := 1, slots := 1, locals := 12 } : Room) #[(.int (1 : Int32))] [.inl (0, [(.int (2 : Int32)), (.ref (n0 + 1)), (.ref (n0 + 2)), (.ref (n0 + 3)), .null]), .inr (.long, [(.long (0 : Int64))]), .inr (.long, [(.long (0 : Int64))]), .inr (.long, [(.long (3 : Int64))])] (Is (some (.ref (n0 + 4))) [.inl (0, [(.int (2 : Int32)), (.ref (n0 + 1)), (.ref (n0 + 2)), (.ref (n0 + 3)), .null]), .inr (.long, [(.long (0 : Int64))]), .inr (.long, [(.long (0 : Int64))]), .inr (.long, [(.long (3 : Int64))]), .inr (.long, [(.long (1 : Int64))])]) := by
  refine Met.of (a0 := a0) (ls := #[.val (.int (1 : Int32)), .unset, .unset]) (kok hw) (plainFor_of_name pn_7) (fun m => by first | (simp [entryFrame, mkF, argsToLocals, Value.category]; done) | rfl) (fun G H => ?_)
  refine H.iloadN s6_0 rfl ?_
  refine H.callSD s6_1 (k_18 hw) (a_17 l hw n0) (argsL := [(.int (1 : Int32))]) (rest := []) rfl rfl rfl rfl (leb rfl) (leb rfl) (leb rfl) (leb rfl) (st' := [(.int (1 : Int32))]) rfl (k' := 0) rfl (n' := 0) rfl ?_
  refine H.newarray s6_4 (ty := .long) rfl (k_19 hw) (N := 1) (cap := 1) (by decide) rfl (by decide) (by decide) (by first | rfl | simp) (by decide) (by decide) (i := 4) rfl (A' := [.inl (0, [(.int (2 : Int32)), (.ref (n0 + 1)), (.ref (n0 + 2)), (.ref (n0 + 3)), .null]), .inr (.long, [(.long (0 : Int64))]), .inr (.long, [(.long (0 : Int64))]), .inr (.long, [(.long (3 : Int64))]), .inr (.long, [(.long (0 : Int64))])]) rfl (k' := 1) rfl (n' := 1) rfl ?_
  refine H.astoreN s6_6 rfl (ls' := #[.val (.int (1 : Int32)), .val (.ref (n0 + 4)), .unset]) rfl ?_
  refine H.iconst s6_7 (v := (0 : Int32)) (by decide) ?_
  refine H.istoreN s6_8 (ls' := #[.val (.int (1 : Int32)), .val (.ref (n0 + 4)), .val (.int (0 : Int32))]) rfl ?_
  refine H.iloadN s6_9 rfl ?_
  refine H.aloadN s6_10 rfl rfl ?_
  refine H.arraylength s6_11 (i := 4) rfl (z := (1 : Int32)) rfl ?_
  refine H.icmpF s6_12 (show (0 : Int32) < (1 : Int32) by decide) ?_
  refine H.aloadN s6_15 rfl rfl ?_
  refine H.iloadN s6_16 rfl ?_
  refine H.ldc2 s6_17 (k_5 hw) ?_
  refine H.lastore s6_20 (i := 4) (j := 0) rfl (by decide) (ltb rfl)  rfl ?_
  refine H.iinc s6_21 rfl (w := (1 : Int32)) (by decide) (ls' := #[.val (.int (1 : Int32)), .val (.ref (n0 + 4)), .val (.int (1 : Int32))]) rfl ?_
  refine H.goto s6_24 ?_
  refine H.iloadN s6_9 rfl ?_
  refine H.aloadN s6_10 rfl rfl ?_
  refine H.arraylength s6_11 (i := 4) rfl (z := (1 : Int32)) rfl ?_
  refine H.icmpT s6_12 (show ¬ (1 : Int32) < (1 : Int32) by decide) ?_
  refine H.iloadN s6_27 rfl ?_
  refine H.bipush s6_28 (v := (64 : Int32)) (by decide) ?_
  refine H.irem s6_30 (by decide) (w := (1 : Int32)) (by decide) ?_
  refine H.ifF s6_31 (show ¬ (1 : Int32) = (0 : Int32) by decide) ?_
  refine H.aloadN s6_34 rfl rfl ?_
  refine H.aloadN s6_35 rfl rfl ?_
  refine H.arraylength s6_36 (i := 4) rfl (z := (1 : Int32)) rfl ?_
  refine H.iconst s6_37 (v := (1 : Int32)) (by decide) ?_
  refine H.isub s6_38 (w := (0 : Int32)) (by decide) ?_
  refine H.lconst s6_39 (v := (1 : Int64)) (by decide) ?_
  refine H.iloadN s6_40 rfl ?_
  refine H.lshl s6_41 (w := (2 : Int64)) (by decide) ?_
  refine H.lconst s6_42 (v := (1 : Int64)) (by decide) ?_
  refine H.lsub s6_43 (w := (1 : Int64)) (by decide) ?_
  refine H.lastore s6_44 (i := 4) (j := 0) rfl (by decide) (ltb rfl)  rfl ?_
  refine H.aloadN s6_45 rfl rfl ?_
  exact H.areturn s6_46 rfl rfl rfl rfl ⟨rfl, rfl⟩ (by decide) (by decide)


theorem a_11 (l : Launch) {Z : State} {a0 : Array Value} (hw : HW1 Z a0) (n0 : Nat)  : Met l Z KT n0 y3 b3 2 none ({ frames := 2, cells := 4, slots := 4, locals := 27 } : Room) #[(.ref (n0 + 0)), (.int (2 : Int32))] [.inl (0, [(.int (0 : Int32)), .null, .null, .null, .null])] (Is none [.inl (0, [(.int (2 : Int32)), (.ref (n0 + 1)), (.ref (n0 + 2)), (.ref (n0 + 3)), (.ref (n0 + 4))]), .inr (.long, [(.long (0 : Int64))]), .inr (.long, [(.long (0 : Int64))]), .inr (.long, [(.long (3 : Int64))]), .inr (.long, [(.long (1 : Int64))])]) := by
  refine Met.of (a0 := a0) (ls := #[.val (.ref (n0 + 0)), .val (.int (2 : Int32))]) (kok hw) (plainFor_of_name pn_7) (fun m => by first | (simp [entryFrame, mkF, argsToLocals, Value.category]; done) | rfl) (fun G H => ?_)
  refine H.aloadN s3_0 rfl rfl ?_
  refine H.initO s3_1 (k_16 hw) rfl (leb rfl) (leb rfl) ?_
  refine H.aloadN s3_4 rfl rfl ?_
  refine H.iloadN s3_5 rfl ?_
  refine H.putfield s3_6 (k_17 hw) (i := 0) rfl rfl rfl rfl ?_
  refine H.aloadN s3_9 rfl rfl ?_
  refine H.iloadN s3_10 rfl ?_
  refine H.callSD s3_11 (k_18 hw) (a_12 l hw n0) (argsL := [(.int (2 : Int32))]) (rest := [(.ref (n0 + 0))]) rfl rfl rfl rfl (leb rfl) (leb rfl) (leb rfl) (leb rfl) (st' := [(.int (1 : Int32)), (.ref (n0 + 0))]) rfl (k' := 0) rfl (n' := 0) rfl ?_
  refine H.newarray s3_14 (ty := .long) rfl (k_19 hw) (N := 1) (cap := 1) (by decide) rfl (by decide) (by decide) (by first | rfl | simp) (by decide) (by decide) (i := 1) rfl (A' := [.inl (0, [(.int (2 : Int32)), .null, .null, .null, .null]), .inr (.long, [(.long (0 : Int64))])]) rfl (k' := 1) rfl (n' := 1) rfl ?_
  refine H.putfield s3_16 (k_20 hw) (i := 0) rfl rfl rfl rfl ?_
  refine H.aloadN s3_19 rfl rfl ?_
  refine H.aloadN s3_20 rfl rfl ?_
  refine H.getfield s3_21 (k_4 hw) (i := 0) rfl rfl ?_
  refine H.arraylength s3_24 (i := 1) rfl (z := (1 : Int32)) rfl ?_
  refine H.callSD s3_25 (k_18 hw) (a_13 l hw n0) (argsL := [(.int (1 : Int32))]) (rest := [(.ref (n0 + 0))]) rfl rfl rfl rfl (leb rfl) (leb rfl) (leb rfl) (leb rfl) (st' := [(.int (1 : Int32)), (.ref (n0 + 0))]) rfl (k' := 1) rfl (n' := 1) rfl ?_
  refine H.newarray s3_28 (ty := .long) rfl (k_19 hw) (N := 1) (cap := 1) (by decide) rfl (by decide) (by decide) (by first | rfl | simp) (by decide) (by decide) (i := 2) rfl (A' := [.inl (0, [(.int (2 : Int32)), (.ref (n0 + 1)), .null, .null, .null]), .inr (.long, [(.long (0 : Int64))]), .inr (.long, [(.long (0 : Int64))])]) rfl (k' := 2) rfl (n' := 2) rfl ?_
  refine H.putfield s3_30 (k_21 hw) (i := 0) rfl rfl rfl rfl ?_
  refine H.aloadN s3_33 rfl rfl ?_
  refine H.iloadN s3_34 rfl ?_
  refine H.callSD s3_35 (k_22 hw) (a_14 l hw n0) (argsL := [(.int (2 : Int32))]) (rest := [(.ref (n0 + 0))]) rfl rfl rfl rfl (leb rfl) (leb rfl) (leb rfl) (leb rfl) (st' := [(.ref (n0 + 3)), (.ref (n0 + 0))]) rfl (k' := 3) rfl (n' := 3) rfl ?_
  refine H.putfield s3_38 (k_23 hw) (i := 0) rfl rfl rfl rfl ?_
  refine H.aloadN s3_41 rfl rfl ?_
  refine H.aloadN s3_42 rfl rfl ?_
  refine H.getfield s3_43 (k_4 hw) (i := 0) rfl rfl ?_
  refine H.arraylength s3_46 (i := 1) rfl (z := (1 : Int32)) rfl ?_
  refine H.callSD s3_47 (k_22 hw) (a_16 l hw n0) (argsL := [(.int (1 : Int32))]) (rest := [(.ref (n0 + 0))]) rfl rfl rfl rfl (leb rfl) (leb rfl) (leb rfl) (leb rfl) (st' := [(.ref (n0 + 4)), (.ref (n0 + 0))]) rfl (k' := 4) rfl (n' := 4) rfl ?_
  refine H.putfield s3_50 (k_24 hw) (i := 0) rfl rfl rfl rfl ?_
  exact H.vreturn s3_53 rfl ⟨rfl, rfl⟩ (by decide) (by decide)


theorem a_18 (l : Launch) {Z : State} {a0 : Array Value} (hw : HW1 Z a0) (n0 : Nat)  : Met l Z KT n0 y7 b7 1 none ({ frames := 1, cells := 0, slots := 0, locals := 18 } : Room) #[(.ref (n0 + 0))] [.inl (0, [(.int (2 : Int32)), (.ref (n0 + 1)), (.ref (n0 + 2)), (.ref (n0 + 3)), (.ref (n0 + 4))]), .inr (.long, [(.long (0 : Int64))]), .inr (.long, [(.long (0 : Int64))]), .inr (.long, [(.long (3 : Int64))]), .inr (.long, [(.long (1 : Int64))])] (Is none [.inl (0, [(.int (2 : Int32)), (.ref (n0 + 1)), (.ref (n0 + 2)), (.ref (n0 + 3)), (.ref (n0 + 4))]), .inr (.long, [(.long (3 : Int64))]), .inr (.long, [(.long (1 : Int64))]), .inr (.long, [(.long (3 : Int64))]), .inr (.long, [(.long (1 : Int64))])]) := by
  refine Met.of (a0 := a0) (ls := #[.val (.ref (n0 + 0))]) (kok hw) (plainFor_of_name pn_7) (fun m => by first | (simp [entryFrame, mkF, argsToLocals, Value.category]; done) | rfl) (fun G H => ?_)
  refine H.aloadN s7_0 rfl rfl ?_
  refine H.getfield s7_1 (k_26 hw) (i := 0) rfl rfl ?_
  refine H.iconst s7_4 (v := (0 : Int32)) (by decide) ?_
  refine H.aloadN s7_5 rfl rfl ?_
  refine H.getfield s7_6 (k_4 hw) (i := 0) rfl rfl ?_
  refine H.iconst s7_9 (v := (0 : Int32)) (by decide) ?_
  refine H.aloadN s7_10 rfl rfl ?_
  refine H.getfield s7_11 (k_4 hw) (i := 0) rfl rfl ?_
  refine H.arraylength s7_14 (i := 1) rfl (z := (1 : Int32)) rfl ?_
  refine H.arraycopy s7_15 (k_27 hw) (i := 3) (j := 1) rfl rfl rfl (p := 0) (q := 0) (r := 1) (by decide) (by decide) (by decide) (leb rfl) (leb rfl) (leb rfl) (leb rfl) (us := [(.long (3 : Int64))]) rfl rfl (leb rfl) (leb rfl) (by first | rfl | simp) (A' := [.inl (0, [(.int (2 : Int32)), (.ref (n0 + 1)), (.ref (n0 + 2)), (.ref (n0 + 3)), (.ref (n0 + 4))]), .inr (.long, [(.long (3 : Int64))]), .inr (.long, [(.long (0 : Int64))]), .inr (.long, [(.long (3 : Int64))]), .inr (.long, [(.long (1 : Int64))])]) rfl ?_
  refine H.aloadN s7_18 rfl rfl ?_
  refine H.getfield s7_19 (k_28 hw) (i := 0) rfl rfl ?_
  refine H.iconst s7_22 (v := (0 : Int32)) (by decide) ?_
  refine H.aloadN s7_23 rfl rfl ?_
  refine H.getfield s7_24 (k_6 hw) (i := 0) rfl rfl ?_
  refine H.iconst s7_27 (v := (0 : Int32)) (by decide) ?_
  refine H.aloadN s7_28 rfl rfl ?_
  refine H.getfield s7_29 (k_6 hw) (i := 0) rfl rfl ?_
  refine H.arraylength s7_32 (i := 2) rfl (z := (1 : Int32)) rfl ?_
  refine H.arraycopy s7_33 (k_27 hw) (i := 4) (j := 2) rfl rfl rfl (p := 0) (q := 0) (r := 1) (by decide) (by decide) (by decide) (leb rfl) (leb rfl) (leb rfl) (leb rfl) (us := [(.long (1 : Int64))]) rfl rfl (leb rfl) (leb rfl) (by first | rfl | simp) (A' := [.inl (0, [(.int (2 : Int32)), (.ref (n0 + 1)), (.ref (n0 + 2)), (.ref (n0 + 3)), (.ref (n0 + 4))]), .inr (.long, [(.long (3 : Int64))]), .inr (.long, [(.long (1 : Int64))]), .inr (.long, [(.long (3 : Int64))]), .inr (.long, [(.long (1 : Int64))])]) rfl ?_
  exact H.vreturn s7_36 rfl ⟨rfl, rfl⟩ (by decide) (by decide)


theorem a_19 (l : Launch) {Z : State} {a0 : Array Value} (hw : HW1 Z a0) (n0 : Nat)  : Met l Z KT n0 y1 b1 2 (some .int) ({ frames := 0, cells := 0, slots := 0, locals := 0 } : Room) #[(.int (1 : Int32)), (.int (3 : Int32))] [] (Is (some (.int (3 : Int32))) []) := by
  refine Met.of (a0 := a0) (ls := #[.val (.int (1 : Int32)), .val (.int (3 : Int32))]) (kok hw) (Jvm.Free.JP.mathPlain rfl (by decide +kernel)) (fun m => by first | (simp [entryFrame, mkF, argsToLocals, Value.category]; done) | rfl) (fun G H => ?_)
  refine H.iloadN s1_0 rfl ?_
  refine H.iloadN s1_1 rfl ?_
  refine H.icmpT s1_2 (show (1 : Int32) < (3 : Int32) by decide) ?_
  refine H.iloadN s1_9 rfl ?_
  exact H.ireturn s1_10 rfl (by simp) rfl ⟨rfl, rfl⟩ (by decide) (by decide)


theorem a_21 (l : Launch) {Z : State} {a0 : Array Value} (hw : HW1 Z a0) (n0 : Nat)  : Met l Z KT n0 y5 b5 1 (some .int) ({ frames := 0, cells := 0, slots := 0, locals := 0 } : Room) #[(.int (3 : Int32))] [.inl (0, [(.int (3 : Int32)), .null, .null, .null, .null])] (Is (some (.int (1 : Int32))) [.inl (0, [(.int (3 : Int32)), .null, .null, .null, .null])]) := by
  refine Met.of (a0 := a0) (ls := #[.val (.int (3 : Int32))]) (kok hw) (plainFor_of_name pn_7) (fun m => by first | (simp [entryFrame, mkF, argsToLocals, Value.category]; done) | rfl) (fun G H => ?_)
  refine H.iloadN s5_0 rfl ?_
  refine H.bipush s5_1 (v := (63 : Int32)) (by decide) ?_
  refine H.iadd s5_3 (w := (66 : Int32)) (by decide) ?_
  refine H.bipush s5_4 (v := (6 : Int32)) (by decide) ?_
  refine H.iushr s5_6 (w := (1 : Int32)) (by decide) ?_
  exact H.ireturn s5_7 rfl (by simp) rfl ⟨rfl, rfl⟩ (by decide) (by decide)


theorem a_22 (l : Launch) {Z : State} {a0 : Array Value} (hw : HW1 Z a0) (n0 : Nat)  : Met l Z KT n0 y5 b5 1 (some .int) ({ frames := 0, cells := 0, slots := 0, locals := 0 } : Room) #[(.int (1 : Int32))] [.inl (0, [(.int (3 : Int32)), (.ref (n0 + 1)), .null, .null, .null]), .inr (.long, [(.long (0 : Int64))])] (Is (some (.int (1 : Int32))) [.inl (0, [(.int (3 : Int32)), (.ref (n0 + 1)), .null, .null, .null]), .inr (.long, [(.long (0 : Int64))])]) := by
  refine Met.of (a0 := a0) (ls := #[.val (.int (1 : Int32))]) (kok hw) (plainFor_of_name pn_7) (fun m => by first | (simp [entryFrame, mkF, argsToLocals, Value.category]; done) | rfl) (fun G H => ?_)
  refine H.iloadN s5_0 rfl ?_
  refine H.bipush s5_1 (v := (63 : Int32)) (by decide) ?_
  refine H.iadd s5_3 (w := (64 : Int32)) (by decide) ?_
  refine H.bipush s5_4 (v := (6 : Int32)) (by decide) ?_
  refine H.iushr s5_6 (w := (1 : Int32)) (by decide) ?_
  exact H.ireturn s5_7 rfl (by simp) rfl ⟨rfl, rfl⟩ (by decide) (by decide)


theorem a_24 (l : Launch) {Z : State} {a0 : Array Value} (hw : HW1 Z a0) (n0 : Nat)  : Met l Z KT n0 y5 b5 1 (some .int) ({ frames := 0, cells := 0, slots := 0, locals := 0 } : Room) #[(.int (3 : Int32))] [.inl (0, [(.int (3 : Int32)), (.ref (n0 + 1)), (.ref (n0 + 2)), .null, .null]), .inr (.long, [(.long (0 : Int64))]), .inr (.long, [(.long (0 : Int64))])] (Is (some (.int (1 : Int32))) [.inl (0, [(.int (3 : Int32)), (.ref (n0 + 1)), (.ref (n0 + 2)), .null, .null]), .inr (.long, [(.long (0 : Int64))]), .inr (.long, [(.long (0 : Int64))])]) := by
  refine Met.of (a0 := a0) (ls := #[.val (.int (3 : Int32))]) (kok hw) (plainFor_of_name pn_7) (fun m => by first | (simp [entryFrame, mkF, argsToLocals, Value.category]; done) | rfl) (fun G H => ?_)
  refine H.iloadN s5_0 rfl ?_
  refine H.bipush s5_1 (v := (63 : Int32)) (by decide) ?_
  refine H.iadd s5_3 (w := (66 : Int32)) (by decide) ?_
  refine H.bipush s5_4 (v := (6 : Int32)) (by decide) ?_
  refine H.iushr s5_6 (w := (1 : Int32)) (by decide) ?_
  exact H.ireturn s5_7 rfl (by simp) rfl ⟨rfl, rfl⟩ (by decide) (by decide)


theorem a_23 (l : Launch) {Z : State} {a0 : Array Value} (hw : HW1 Z a0) (n0 : Nat)  : Met l Z KT n0 y6 b6 3 (some (.array .long)) ({ frames := 1, cells := 1, slots := 1, locals := 12 } : Room) #[(.int (3 : Int32))] [.inl (0, [(.int (3 : Int32)), (.ref (n0 + 1)), (.ref (n0 + 2)), .null, .null]), .inr (.long, [(.long (0 : Int64))]), .inr (.long, [(.long (0 : Int64))])] (Is (some (.ref (n0 + 3))) [.inl (0, [(.int (3 : Int32)), (.ref (n0 + 1)), (.ref (n0 + 2)), .null, .null]), .inr (.long, [(.long (0 : Int64))]), .inr (.long, [(.long (0 : Int64))]), .inr (.long, [(.long (7 : Int64))])]) := by
  refine Met.of (a0 := a0) (ls := #[.val (.int (3 : Int32)), .unset, .unset]) (kok hw) (plainFor_of_name pn_7) (fun m => by first | (simp [entryFrame, mkF, argsToLocals, Value.category]; done) | rfl) (fun G H => ?_)
  refine H.iloadN s6_0 rfl ?_
  refine H.callSD s6_1 (k_18 hw) (a_24 l hw n0) (argsL := [(.int (3 : Int32))]) (rest := []) rfl rfl rfl rfl (leb rfl) (leb rfl) (leb rfl) (leb rfl) (st' := [(.int (1 : Int32))]) rfl (k' := 0) rfl (n' := 0) rfl ?_
  refine H.newarray s6_4 (ty := .long) rfl (k_19 hw) (N := 1) (cap := 1) (by decide) rfl (by decide) (by decide) (by first | rfl | simp) (by decide) (by decide) (i := 3) rfl (A' := [.inl (0, [(.int (3 : Int32)), (.ref (n0 + 1)), (.ref (n0 + 2)), .null, .null]), .inr (.long, [(.long (0 : Int64))]), .inr (.long, [(.long (0 : Int64))]), .inr (.long, [(.long (0 : Int64))])]) rfl (k' := 1) rfl (n' := 1) rfl ?_
  refine H.astoreN s6_6 rfl (ls' := #[.val (.int (3 : Int32)), .val (.ref (n0 + 3)), .unset]) rfl ?_
  refine H.iconst s6_7 (v := (0 : Int32)) (by decide) ?_
  refine H.istoreN s6_8 (ls' := #[.val (.int (3 : Int32)), .val (.ref (n0 + 3)), .val (.int (0 : Int32))]) rfl ?_
  refine H.iloadN s6_9 rfl ?_
  refine H.aloadN s6_10 rfl rfl ?_
  refine H.arraylength s6_11 (i := 3) rfl (z := (1 : Int32)) rfl ?_
  refine H.icmpF s6_12 (show (0 : Int32) < (1 : Int32) by decide) ?_
  refine H.aloadN s6_15 rfl rfl ?_
  refine H.iloadN s6_16 rfl ?_
  refine H.ldc2 s6_17 (k_5 hw) ?_
  refine H.lastore s6_20 (i := 3) (j := 0) rfl (by decide) (ltb rfl)  rfl ?_
  refine H.iinc s6_21 rfl (w := (1 : Int32)) (by decide) (ls' := #[.val (.int (3 : Int32)), .val (.ref (n0 + 3)), .val (.int (1 : Int32))]) rfl ?_
  refine H.goto s6_24 ?_
  refine H.iloadN s6_9 rfl ?_
  refine H.aloadN s6_10 rfl rfl ?_
  refine H.arraylength s6_11 (i := 3) rfl (z := (1 : Int32)) rfl ?_
  refine H.icmpT s6_12 (show ¬ (1 : Int32) < (1 : Int32) by decide) ?_
  refine H.iloadN s6_27 rfl ?_
  refine H.bipush s6_28 (v := (64 : Int32)) (by decide) ?_
  refine H.irem s6_30 (by decide) (w := (3 : Int32)) (by decide) ?_
  refine H.ifF s6_31 (show ¬ (3 : Int32) = (0 : Int32) by decide) ?_
  refine H.aloadN s6_34 rfl rfl ?_
  refine H.aloadN s6_35 rfl rfl ?_
  refine H.arraylength s6_36 (i := 3) rfl (z := (1 : Int32)) rfl ?_
  refine H.iconst s6_37 (v := (1 : Int32)) (by decide) ?_
  refine H.isub s6_38 (w := (0 : Int32)) (by decide) ?_
  refine H.lconst s6_39 (v := (1 : Int64)) (by decide) ?_
  refine H.iloadN s6_40 rfl ?_
  refine H.lshl s6_41 (w := (8 : Int64)) (by decide) ?_
  refine H.lconst s6_42 (v := (1 : Int64)) (by decide) ?_
  refine H.lsub s6_43 (w := (7 : Int64)) (by decide) ?_
  refine H.lastore s6_44 (i := 3) (j := 0) rfl (by decide) (ltb rfl)  rfl ?_
  refine H.aloadN s6_45 rfl rfl ?_
  exact H.areturn s6_46 rfl rfl rfl rfl ⟨rfl, rfl⟩ (by decide) (by decide)


theorem a_26 (l : Launch) {Z : State} {a0 : Array Value} (hw : HW1 Z a0) (n0 : Nat)  : Met l Z KT n0 y5 b5 1 (some .int) ({ frames := 0, cells := 0, slots := 0, locals := 0 } : Room) #[(.int (1 : Int32))] [.inl (0, [(.int (3 : Int32)), (.ref (n0 + 1)), (.ref (n0 + 2)), (.ref (n0 + 3)), .null]), .inr (.long, [(.long (0 : Int64))]), .inr (.long, [(.long (0 : Int64))]), .inr (.long, [(.long (7 : Int64))])] (Is (some (.int (1 : Int32))) [.inl (0, [(.int (3 : Int32)), (.ref (n0 + 1)), (.ref (n0 + 2)), (.ref (n0 + 3)), .null]), .inr (.long, [(.long (0 : Int64))]), .inr (.long, [(.long (0 : Int64))]), .inr (.long, [(.long (7 : Int64))])]) := by
  refine Met.of (a0 := a0) (ls := #[.val (.int (1 : Int32))]) (kok hw) (plainFor_of_name pn_7) (fun m => by first | (simp [entryFrame, mkF, argsToLocals, Value.category]; done) | rfl) (fun G H => ?_)
  refine H.iloadN s5_0 rfl ?_
  refine H.bipush s5_1 (v := (63 : Int32)) (by decide) ?_
  refine H.iadd s5_3 (w := (64 : Int32)) (by decide) ?_
  refine H.bipush s5_4 (v := (6 : Int32)) (by decide) ?_
  refine H.iushr s5_6 (w := (1 : Int32)) (by decide) ?_
  exact H.ireturn s5_7 rfl (by simp) rfl ⟨rfl, rfl⟩ (by decide) (by decide)


theorem a_25 (l : Launch) {Z : State} {a0 : Array Value} (hw : HW1 Z a0) (n0 : Nat)  : Met l Z KT n0 y6 b6 3 (some (.array .long)) ({ frames := 1, cells := 1, slots := 1, locals := 12 } : Room) #[(.int (1 : Int32))] [.inl (0, [(.int (3 : Int32)), (.ref (n0 + 1)), (.ref (n0 + 2)), (.ref (n0 + 3)), .null]), .inr (.long, [(.long (0 : Int64))]), .inr (.long, [(.long (0 : Int64))]), .inr (.long, [(.long (7 : Int64))])] (Is (some (.ref (n0 + 4))) [.inl (0, [(.int (3 : Int32)), (.ref (n0 + 1)), (.ref (n0 + 2)), (.ref (n0 + 3)), .null]), .inr (.long, [(.long (0 : Int64))]), .inr (.long, [(.long (0 : Int64))]), .inr (.long, [(.long (7 : Int64))]), .inr (.long, [(.long (1 : Int64))])]) := by
  refine Met.of (a0 := a0) (ls := #[.val (.int (1 : Int32)), .unset, .unset]) (kok hw) (plainFor_of_name pn_7) (fun m => by first | (simp [entryFrame, mkF, argsToLocals, Value.category]; done) | rfl) (fun G H => ?_)
  refine H.iloadN s6_0 rfl ?_
  refine H.callSD s6_1 (k_18 hw) (a_26 l hw n0) (argsL := [(.int (1 : Int32))]) (rest := []) rfl rfl rfl rfl (leb rfl) (leb rfl) (leb rfl) (leb rfl) (st' := [(.int (1 : Int32))]) rfl (k' := 0) rfl (n' := 0) rfl ?_
  refine H.newarray s6_4 (ty := .long) rfl (k_19 hw) (N := 1) (cap := 1) (by decide) rfl (by decide) (by decide) (by first | rfl | simp) (by decide) (by decide) (i := 4) rfl (A' := [.inl (0, [(.int (3 : Int32)), (.ref (n0 + 1)), (.ref (n0 + 2)), (.ref (n0 + 3)), .null]), .inr (.long, [(.long (0 : Int64))]), .inr (.long, [(.long (0 : Int64))]), .inr (.long, [(.long (7 : Int64))]), .inr (.long, [(.long (0 : Int64))])]) rfl (k' := 1) rfl (n' := 1) rfl ?_
  refine H.astoreN s6_6 rfl (ls' := #[.val (.int (1 : Int32)), .val (.ref (n0 + 4)), .unset]) rfl ?_
  refine H.iconst s6_7 (v := (0 : Int32)) (by decide) ?_
  refine H.istoreN s6_8 (ls' := #[.val (.int (1 : Int32)), .val (.ref (n0 + 4)), .val (.int (0 : Int32))]) rfl ?_
  refine H.iloadN s6_9 rfl ?_
  refine H.aloadN s6_10 rfl rfl ?_
  refine H.arraylength s6_11 (i := 4) rfl (z := (1 : Int32)) rfl ?_
  refine H.icmpF s6_12 (show (0 : Int32) < (1 : Int32) by decide) ?_
  refine H.aloadN s6_15 rfl rfl ?_
  refine H.iloadN s6_16 rfl ?_
  refine H.ldc2 s6_17 (k_5 hw) ?_
  refine H.lastore s6_20 (i := 4) (j := 0) rfl (by decide) (ltb rfl)  rfl ?_
  refine H.iinc s6_21 rfl (w := (1 : Int32)) (by decide) (ls' := #[.val (.int (1 : Int32)), .val (.ref (n0 + 4)), .val (.int (1 : Int32))]) rfl ?_
  refine H.goto s6_24 ?_
  refine H.iloadN s6_9 rfl ?_
  refine H.aloadN s6_10 rfl rfl ?_
  refine H.arraylength s6_11 (i := 4) rfl (z := (1 : Int32)) rfl ?_
  refine H.icmpT s6_12 (show ¬ (1 : Int32) < (1 : Int32) by decide) ?_
  refine H.iloadN s6_27 rfl ?_
  refine H.bipush s6_28 (v := (64 : Int32)) (by decide) ?_
  refine H.irem s6_30 (by decide) (w := (1 : Int32)) (by decide) ?_
  refine H.ifF s6_31 (show ¬ (1 : Int32) = (0 : Int32) by decide) ?_
  refine H.aloadN s6_34 rfl rfl ?_
  refine H.aloadN s6_35 rfl rfl ?_
  refine H.arraylength s6_36 (i := 4) rfl (z := (1 : Int32)) rfl ?_
  refine H.iconst s6_37 (v := (1 : Int32)) (by decide) ?_
  refine H.isub s6_38 (w := (0 : Int32)) (by decide) ?_
  refine H.lconst s6_39 (v := (1 : Int64)) (by decide) ?_
  refine H.iloadN s6_40 rfl ?_
  refine H.lshl s6_41 (w := (2 : Int64)) (by decide) ?_
  refine H.lconst s6_42 (v := (1 : Int64)) (by decide) ?_
  refine H.lsub s6_43 (w := (1 : Int64)) (by decide) ?_
  refine H.lastore s6_44 (i := 4) (j := 0) rfl (by decide) (ltb rfl)  rfl ?_
  refine H.aloadN s6_45 rfl rfl ?_
  exact H.areturn s6_46 rfl rfl rfl rfl ⟨rfl, rfl⟩ (by decide) (by decide)


theorem a_20 (l : Launch) {Z : State} {a0 : Array Value} (hw : HW1 Z a0) (n0 : Nat)  : Met l Z KT n0 y3 b3 2 none ({ frames := 2, cells := 4, slots := 4, locals := 27 } : Room) #[(.ref (n0 + 0)), (.int (3 : Int32))] [.inl (0, [(.int (0 : Int32)), .null, .null, .null, .null])] (Is none [.inl (0, [(.int (3 : Int32)), (.ref (n0 + 1)), (.ref (n0 + 2)), (.ref (n0 + 3)), (.ref (n0 + 4))]), .inr (.long, [(.long (0 : Int64))]), .inr (.long, [(.long (0 : Int64))]), .inr (.long, [(.long (7 : Int64))]), .inr (.long, [(.long (1 : Int64))])]) := by
  refine Met.of (a0 := a0) (ls := #[.val (.ref (n0 + 0)), .val (.int (3 : Int32))]) (kok hw) (plainFor_of_name pn_7) (fun m => by first | (simp [entryFrame, mkF, argsToLocals, Value.category]; done) | rfl) (fun G H => ?_)
  refine H.aloadN s3_0 rfl rfl ?_
  refine H.initO s3_1 (k_16 hw) rfl (leb rfl) (leb rfl) ?_
  refine H.aloadN s3_4 rfl rfl ?_
  refine H.iloadN s3_5 rfl ?_
  refine H.putfield s3_6 (k_17 hw) (i := 0) rfl rfl rfl rfl ?_
  refine H.aloadN s3_9 rfl rfl ?_
  refine H.iloadN s3_10 rfl ?_
  refine H.callSD s3_11 (k_18 hw) (a_21 l hw n0) (argsL := [(.int (3 : Int32))]) (rest := [(.ref (n0 + 0))]) rfl rfl rfl rfl (leb rfl) (leb rfl) (leb rfl) (leb rfl) (st' := [(.int (1 : Int32)), (.ref (n0 + 0))]) rfl (k' := 0) rfl (n' := 0) rfl ?_
  refine H.newarray s3_14 (ty := .long) rfl (k_19 hw) (N := 1) (cap := 1) (by decide) rfl (by decide) (by decide) (by first | rfl | simp) (by decide) (by decide) (i := 1) rfl (A' := [.inl (0, [(.int (3 : Int32)), .null, .null, .null, .null]), .inr (.long, [(.long (0 : Int64))])]) rfl (k' := 1) rfl (n' := 1) rfl ?_
  refine H.putfield s3_16 (k_20 hw) (i := 0) rfl rfl rfl rfl ?_
  refine H.aloadN s3_19 rfl rfl ?_
  refine H.aloadN s3_20 rfl rfl ?_
  refine H.getfield s3_21 (k_4 hw) (i := 0) rfl rfl ?_
  refine H.arraylength s3_24 (i := 1) rfl (z := (1 : Int32)) rfl ?_
  refine H.callSD s3_25 (k_18 hw) (a_22 l hw n0) (argsL := [(.int (1 : Int32))]) (rest := [(.ref (n0 + 0))]) rfl rfl rfl rfl (leb rfl) (leb rfl) (leb rfl) (leb rfl) (st' := [(.int (1 : Int32)), (.ref (n0 + 0))]) rfl (k' := 1) rfl (n' := 1) rfl ?_
  refine H.newarray s3_28 (ty := .long) rfl (k_19 hw) (N := 1) (cap := 1) (by decide) rfl (by decide) (by decide) (by first | rfl | simp) (by decide) (by decide) (i := 2) rfl (A' := [.inl (0, [(.int (3 : Int32)), (.ref (n0 + 1)), .null, .null, .null]), .inr (.long, [(.long (0 : Int64))]), .inr (.long, [(.long (0 : Int64))])]) rfl (k' := 2) rfl (n' := 2) rfl ?_
  refine H.putfield s3_30 (k_21 hw) (i := 0) rfl rfl rfl rfl ?_
  refine H.aloadN s3_33 rfl rfl ?_
  refine H.iloadN s3_34 rfl ?_
  refine H.callSD s3_35 (k_22 hw) (a_23 l hw n0) (argsL := [(.int (3 : Int32))]) (rest := [(.ref (n0 + 0))]) rfl rfl rfl rfl (leb rfl) (leb rfl) (leb rfl) (leb rfl) (st' := [(.ref (n0 + 3)), (.ref (n0 + 0))]) rfl (k' := 3) rfl (n' := 3) rfl ?_
  refine H.putfield s3_38 (k_23 hw) (i := 0) rfl rfl rfl rfl ?_
  refine H.aloadN s3_41 rfl rfl ?_
  refine H.aloadN s3_42 rfl rfl ?_
  refine H.getfield s3_43 (k_4 hw) (i := 0) rfl rfl ?_
  refine H.arraylength s3_46 (i := 1) rfl (z := (1 : Int32)) rfl ?_
  refine H.callSD s3_47 (k_22 hw) (a_25 l hw n0) (argsL := [(.int (1 : Int32))]) (rest := [(.ref (n0 + 0))]) rfl rfl rfl rfl (leb rfl) (leb rfl) (leb rfl) (leb rfl) (st' := [(.ref (n0 + 4)), (.ref (n0 + 0))]) rfl (k' := 4) rfl (n' := 4) rfl ?_
  refine H.putfield s3_50 (k_24 hw) (i := 0) rfl rfl rfl rfl ?_
  exact H.vreturn s3_53 rfl ⟨rfl, rfl⟩ (by decide) (by decide)


theorem a_27 (l : Launch) {Z : State} {a0 : Array Value} (hw : HW1 Z a0) (n0 : Nat)  : Met l Z KT n0 y7 b7 1 none ({ frames := 1, cells := 0, slots := 0, locals := 18 } : Room) #[(.ref (n0 + 0))] [.inl (0, [(.int (3 : Int32)), (.ref (n0 + 1)), (.ref (n0 + 2)), (.ref (n0 + 3)), (.ref (n0 + 4))]), .inr (.long, [(.long (0 : Int64))]), .inr (.long, [(.long (0 : Int64))]), .inr (.long, [(.long (7 : Int64))]), .inr (.long, [(.long (1 : Int64))])] (Is none [.inl (0, [(.int (3 : Int32)), (.ref (n0 + 1)), (.ref (n0 + 2)), (.ref (n0 + 3)), (.ref (n0 + 4))]), .inr (.long, [(.long (7 : Int64))]), .inr (.long, [(.long (1 : Int64))]), .inr (.long, [(.long (7 : Int64))]), .inr (.long, [(.long (1 : Int64))])]) := by
  refine Met.of (a0 := a0) (ls := #[.val (.ref (n0 + 0))]) (kok hw) (plainFor_of_name pn_7) (fun m => by first | (simp [entryFrame, mkF, argsToLocals, Value.category]; done) | rfl) (fun G H => ?_)
  refine H.aloadN s7_0 rfl rfl ?_
  refine H.getfield s7_1 (k_26 hw) (i := 0) rfl rfl ?_
  refine H.iconst s7_4 (v := (0 : Int32)) (by decide) ?_
  refine H.aloadN s7_5 rfl rfl ?_
  refine H.getfield s7_6 (k_4 hw) (i := 0) rfl rfl ?_
  refine H.iconst s7_9 (v := (0 : Int32)) (by decide) ?_
  refine H.aloadN s7_10 rfl rfl ?_
  refine H.getfield s7_11 (k_4 hw) (i := 0) rfl rfl ?_
  refine H.arraylength s7_14 (i := 1) rfl (z := (1 : Int32)) rfl ?_
  refine H.arraycopy s7_15 (k_27 hw) (i := 3) (j := 1) rfl rfl rfl (p := 0) (q := 0) (r := 1) (by decide) (by decide) (by decide) (leb rfl) (leb rfl) (leb rfl) (leb rfl) (us := [(.long (7 : Int64))]) rfl rfl (leb rfl) (leb rfl) (by first | rfl | simp) (A' := [.inl (0, [(.int (3 : Int32)), (.ref (n0 + 1)), (.ref (n0 + 2)), (.ref (n0 + 3)), (.ref (n0 + 4))]), .inr (.long, [(.long (7 : Int64))]), .inr (.long, [(.long (0 : Int64))]), .inr (.long, [(.long (7 : Int64))]), .inr (.long, [(.long (1 : Int64))])]) rfl ?_
  refine H.aloadN s7_18 rfl rfl ?_
  refine H.getfield s7_19 (k_28 hw) (i := 0) rfl rfl ?_
  refine H.iconst s7_22 (v := (0 : Int32)) (by decide) ?_
  refine H.aloadN s7_23 rfl rfl ?_
  refine H.getfield s7_24 (k_6 hw) (i := 0) rfl rfl ?_
  refine H.iconst s7_27 (v := (0 : Int32)) (by decide) ?_
  refine H.aloadN s7_28 rfl rfl ?_
  refine H.getfield s7_29 (k_6 hw) (i := 0) rfl rfl ?_
  refine H.arraylength s7_32 (i := 2) rfl (z := (1 : Int32)) rfl ?_
  refine H.arraycopy s7_33 (k_27 hw) (i := 4) (j := 2) rfl rfl rfl (p := 0) (q := 0) (r := 1) (by decide) (by decide) (by decide) (leb rfl) (leb rfl) (leb rfl) (leb rfl) (us := [(.long (1 : Int64))]) rfl rfl (leb rfl) (leb rfl) (by first | rfl | simp) (A' := [.inl (0, [(.int (3 : Int32)), (.ref (n0 + 1)), (.ref (n0 + 2)), (.ref (n0 + 3)), (.ref (n0 + 4))]), .inr (.long, [(.long (7 : Int64))]), .inr (.long, [(.long (1 : Int64))]), .inr (.long, [(.long (7 : Int64))]), .inr (.long, [(.long (1 : Int64))])]) rfl ?_
  exact H.vreturn s7_36 rfl ⟨rfl, rfl⟩ (by decide) (by decide)


theorem a_28 (l : Launch) {Z : State} {a0 : Array Value} (hw : HW1 Z a0) (n0 : Nat)  : Met l Z KT n0 y1 b1 2 (some .int) ({ frames := 0, cells := 0, slots := 0, locals := 0 } : Room) #[(.int (1 : Int32)), (.int (64 : Int32))] [] (Is (some (.int (64 : Int32))) []) := by
  refine Met.of (a0 := a0) (ls := #[.val (.int (1 : Int32)), .val (.int (64 : Int32))]) (kok hw) (Jvm.Free.JP.mathPlain rfl (by decide +kernel)) (fun m => by first | (simp [entryFrame, mkF, argsToLocals, Value.category]; done) | rfl) (fun G H => ?_)
  refine H.iloadN s1_0 rfl ?_
  refine H.iloadN s1_1 rfl ?_
  refine H.icmpT s1_2 (show (1 : Int32) < (64 : Int32) by decide) ?_
  refine H.iloadN s1_9 rfl ?_
  exact H.ireturn s1_10 rfl (by simp) rfl ⟨rfl, rfl⟩ (by decide) (by decide)


theorem a_30 (l : Launch) {Z : State} {a0 : Array Value} (hw : HW1 Z a0) (n0 : Nat)  : Met l Z KT n0 y5 b5 1 (some .int) ({ frames := 0, cells := 0, slots := 0, locals := 0 } : Room) #[(.int (64 : Int32))] [.inl (0, [(.int (64 : Int32)), .null, .null, .null, .null])] (Is (some (.int (1 : Int32))) [.inl (0, [(.int (64 : Int32)), .null, .null, .null, .null])]) := by
  refine Met.of (a0 := a0) (ls := #[.val (.int (64 : Int32))]) (kok hw) (plainFor_of_name pn_7) (fun m => by first | (simp [entryFrame, mkF, argsToLocals, Value.category]; done) | rfl) (fun G H => ?_)
  refine H.iloadN s5_0 rfl ?_
  refine H.bipush s5_1 (v := (63 : Int32)) (by decide) ?_
  refine H.iadd s5_3 (w := (127 : Int32)) (by decide) ?_
  refine H.bipush s5_4 (v := (6 : Int32)) (by decide) ?_
  refine H.iushr s5_6 (w := (1 : Int32)) (by decide) ?_
  exact H.ireturn s5_7 rfl (by simp) rfl ⟨rfl, rfl⟩ (by decide) (by decide)


theorem a_31 (l : Launch) {Z : State} {a0 : Array Value} (hw : HW1 Z a0) (n0 : Nat)  : Met l Z KT n0 y5 b5 1 (some .int) ({ frames := 0, cells := 0, slots := 0, locals := 0 } : Room) #[(.int (1 : Int32))] [.inl (0, [(.int (64 : Int32)), (.ref (n0 + 1)), .null, .null, .null]), .inr (.long, [(.long (0 : Int64))])] (Is (some (.int (1 : Int32))) [.inl (0, [(.int (64 : Int32)), (.ref (n0 + 1)), .null, .null, .null]), .inr (.long, [(.long (0 : Int64))])]) := by
  refine Met.of (a0 := a0) (ls := #[.val (.int (1 : Int32))]) (kok hw) (plainFor_of_name pn_7) (fun m => by first | (simp [entryFrame, mkF, argsToLocals, Value.category]; done) | rfl) (fun G H => ?_)
  refine H.iloadN s5_0 rfl ?_
  refine H.bipush s5_1 (v := (63 : Int32)) (by decide) ?_
  refine H.iadd s5_3 (w := (64 : Int32)) (by decide) ?_
  refine H.bipush s5_4 (v := (6 : Int32)) (by decide) ?_
  refine H.iushr s5_6 (w := (1 : Int32)) (by decide) ?_
  exact H.ireturn s5_7 rfl (by simp) rfl ⟨rfl, rfl⟩ (by decide) (by decide)


theorem a_33 (l : Launch) {Z : State} {a0 : Array Value} (hw : HW1 Z a0) (n0 : Nat)  : Met l Z KT n0 y5 b5 1 (some .int) ({ frames := 0, cells := 0, slots := 0, locals := 0 } : Room) #[(.int (64 : Int32))] [.inl (0, [(.int (64 : Int32)), (.ref (n0 + 1)), (.ref (n0 + 2)), .null, .null]), .inr (.long, [(.long (0 : Int64))]), .inr (.long, [(.long (0 : Int64))])] (Is (some (.int (1 : Int32))) [.inl (0, [(.int (64 : Int32)), (.ref (n0 + 1)), (.ref (n0 + 2)), .null, .null]), .inr (.long, [(.long (0 : Int64))]), .inr (.long, [(.long (0 : Int64))])]) := by
  refine Met.of (a0 := a0) (ls := #[.val (.int (64 : Int32))]) (kok hw) (plainFor_of_name pn_7) (fun m => by first | (simp [entryFrame, mkF, argsToLocals, Value.category]; done) | rfl) (fun G H => ?_)
  refine H.iloadN s5_0 rfl ?_
  refine H.bipush s5_1 (v := (63 : Int32)) (by decide) ?_
  refine H.iadd s5_3 (w := (127 : Int32)) (by decide) ?_
  refine H.bipush s5_4 (v := (6 : Int32)) (by decide) ?_
  refine H.iushr s5_6 (w := (1 : Int32)) (by decide) ?_
  exact H.ireturn s5_7 rfl (by simp) rfl ⟨rfl, rfl⟩ (by decide) (by decide)


theorem a_32 (l : Launch) {Z : State} {a0 : Array Value} (hw : HW1 Z a0) (n0 : Nat)  : Met l Z KT n0 y6 b6 3 (some (.array .long)) ({ frames := 1, cells := 1, slots := 1, locals := 12 } : Room) #[(.int (64 : Int32))] [.inl (0, [(.int (64 : Int32)), (.ref (n0 + 1)), (.ref (n0 + 2)), .null, .null]), .inr (.long, [(.long (0 : Int64))]), .inr (.long, [(.long (0 : Int64))])] (Is (some (.ref (n0 + 3))) [.inl (0, [(.int (64 : Int32)), (.ref (n0 + 1)), (.ref (n0 + 2)), .null, .null]), .inr (.long, [(.long (0 : Int64))]), .inr (.long, [(.long (0 : Int64))]), .inr (.long, [(.long (-1 : Int64))])]) := by
  refine Met.of (a0 := a0) (ls := #[.val (.int (64 : Int32)), .unset, .unset]) (kok hw) (plainFor_of_name pn_7) (fun m => by first | (simp [entryFrame, mkF, argsToLocals, Value.category]; done) | rfl) (fun G H => ?_)
  refine H.iloadN s6_0 rfl ?_
  refine H.callSD s6_1 (k_18 hw) (a_33 l hw n0) (argsL := [(.int (64 : Int32))]) (rest := []) rfl rfl rfl rfl (leb rfl) (leb rfl) (leb rfl) (leb rfl) (st' := [(.int (1 : Int32))]) rfl (k' := 0) rfl (n' := 0) rfl ?_
  refine H.newarray s6_4 (ty := .long) rfl (k_19 hw) (N := 1) (cap := 1) (by decide) rfl (by decide) (by decide) (by first | rfl | simp) (by decide) (by decide) (i := 3) rfl (A' := [.inl (0, [(.int (64 : Int32)), (.ref (n0 + 1)), (.ref (n0 + 2)), .null, .null]), .inr (.long, [(.long (0 : Int64))]), .inr (.long, [(.long (0 : Int64))]), .inr (.long, [(.long (0 : Int64))])]) rfl (k' := 1) rfl (n' := 1) rfl ?_
  refine H.astoreN s6_6 rfl (ls' := #[.val (.int (64 : Int32)), .val (.ref (n0 + 3)), .unset]) rfl ?_
  refine H.iconst s6_7 (v := (0 : Int32)) (by decide) ?_
  refine H.istoreN s6_8 (ls' := #[.val (.int (64 : Int32)), .val (.ref (n0 + 3)), .val (.int (0 : Int32))]) rfl ?_
  refine H.iloadN s6_9 rfl ?_
  refine H.aloadN s6_10 rfl rfl ?_
  refine H.arraylength s6_11 (i := 3) rfl (z := (1 : Int32)) rfl ?_
  refine H.icmpF s6_12 (show (0 : Int32) < (1 : Int32) by decide) ?_
  refine H.aloadN s6_15 rfl rfl ?_
  refine H.iloadN s6_16 rfl ?_
  refine H.ldc2 s6_17 (k_5 hw) ?_
  refine H.lastore s6_20 (i := 3) (j := 0) rfl (by decide) (ltb rfl)  rfl ?_
  refine H.iinc s6_21 rfl (w := (1 : Int32)) (by decide) (ls' := #[.val (.int (64 : Int32)), .val (.ref (n0 + 3)), .val (.int (1 : Int32))]) rfl ?_
  refine H.goto s6_24 ?_
  refine H.iloadN s6_9 rfl ?_
  refine H.aloadN s6_10 rfl rfl ?_
  refine H.arraylength s6_11 (i := 3) rfl (z := (1 : Int32)) rfl ?_
  refine H.icmpT s6_12 (show ¬ (1 : Int32) < (1 : Int32) by decide) ?_
  refine H.iloadN s6_27 rfl ?_
  refine H.bipush s6_28 (v := (64 : Int32)) (by decide) ?_
  refine H.irem s6_30 (by decide) (w := (0 : Int32)) (by decide) ?_
  refine H.ifT s6_31 (show (0 : Int32) = (0 : Int32) by decide) ?_
  refine H.aloadN s6_45 rfl rfl ?_
  exact H.areturn s6_46 rfl rfl rfl rfl ⟨rfl, rfl⟩ (by decide) (by decide)


theorem a_35 (l : Launch) {Z : State} {a0 : Array Value} (hw : HW1 Z a0) (n0 : Nat)  : Met l Z KT n0 y5 b5 1 (some .int) ({ frames := 0, cells := 0, slots := 0, locals := 0 } : Room) #[(.int (1 : Int32))] [.inl (0, [(.int (64 : Int32)), (.ref (n0 + 1)), (.ref (n0 + 2)), (.ref (n0 + 3)), .null]), .inr (.long, [(.long (0 : Int64))]), .inr (.long, [(.long (0 : Int64))]), .inr (.long, [(.long (-1 : Int64))])] (Is (some (.int (1 : Int32))) [.inl (0, [(.int (64 : Int32)), (.ref (n0 + 1)), (.ref (n0 + 2)), (.ref (n0 + 3)), .null]), .inr (.long, [(.long (0 : Int64))]), .inr (.long, [(.long (0 : Int64))]), .inr (.long, [(.long (-1 : Int64))])]) := by
  refine Met.of (a0 := a0) (ls := #[.val (.int (1 : Int32))]) (kok hw) (plainFor_of_name pn_7) (fun m => by first | (simp [entryFrame, mkF, argsToLocals, Value.category]; done) | rfl) (fun G H => ?_)
  refine H.iloadN s5_0 rfl ?_
  refine H.bipush s5_1 (v := (63 : Int32)) (by decide) ?_
  refine H.iadd s5_3 (w := (64 : Int32)) (by decide) ?_
  refine H.bipush s5_4 (v := (6 : Int32)) (by decide) ?_
  refine H.iushr s5_6 (w := (1 : Int32)) (by decide) ?_
  exact H.ireturn s5_7 rfl (by simp) rfl ⟨rfl, rfl⟩ (by decide) (by decide)


theorem a_34 (l : Launch) {Z : State} {a0 : Array Value} (hw : HW1 Z a0) (n0 : Nat)  : Met l Z KT n0 y6 b6 3 (some (.array .long)) ({ frames := 1, cells := 1, slots := 1, locals := 12 } : Room) #[(.int (1 : Int32))] [.inl (0, [(.int (64 : Int32)), (.ref (n0 + 1)), (.ref (n0 + 2)), (.ref (n0 + 3)), .null]), .inr (.long, [(.long (0 : Int64))]), .inr (.long, [(.long (0 : Int64))]), .inr (.long, [(.long (-1 : Int64))])] (Is (some (.ref (n0 + 4))) [.inl (0, [(.int (64 : Int32)), (.ref (n0 + 1)), (.ref (n0 + 2)), (.ref (n0 + 3)), .null]), .inr (.long, [(.long (0 : Int64))]), .inr (.long, [(.long (0 : Int64))]), .inr (.long, [(.long (-1 : Int64))]), .inr (.long, [(.long (1 : Int64))])]) := by
  refine Met.of (a0 := a0) (ls := #[.val (.int (1 : Int32)), .unset, .unset]) (kok hw) (plainFor_of_name pn_7) (fun m => by first | (simp [entryFrame, mkF, argsToLocals, Value.category]; done) | rfl) (fun G H => ?_)
  refine H.iloadN s6_0 rfl ?_
  refine H.callSD s6_1 (k_18 hw) (a_35 l hw n0) (argsL := [(.int (1 : Int32))]) (rest := []) rfl rfl rfl rfl (leb rfl) (leb rfl) (leb rfl) (leb rfl) (st' := [(.int (1 : Int32))]) rfl (k' := 0) rfl (n' := 0) rfl ?_
  refine H.newarray s6_4 (ty := .long) rfl (k_19 hw) (N := 1) (cap := 1) (by decide) rfl (by decide) (by decide) (by first | rfl | simp) (by decide) (by decide) (i := 4) rfl (A' := [.inl (0, [(.int (64 : Int32)), (.ref (n0 + 1)), (.ref (n0 + 2)), (.ref (n0 + 3)), .null]), .inr (.long, [(.long (0 : Int64))]), .inr (.long, [(.long (0 : Int64))]), .inr (.long, [(.long (-1 : Int64))]), .inr (.long, [(.long (0 : Int64))])]) rfl (k' := 1) rfl (n' := 1) rfl ?_
  refine H.astoreN s6_6 rfl (ls' := #[.val (.int (1 : Int32)), .val (.ref (n0 + 4)), .unset]) rfl ?_
  refine H.iconst s6_7 (v := (0 : Int32)) (by decide) ?_
  refine H.istoreN s6_8 (ls' := #[.val (.int (1 : Int32)), .val (.ref (n0 + 4)), .val (.int (0 : Int32))]) rfl ?_
  refine H.iloadN s6_9 rfl ?_
  refine H.aloadN s6_10 rfl rfl ?_
  refine H.arraylength s6_11 (i := 4) rfl (z := (1 : Int32)) rfl ?_
  refine H.icmpF s6_12 (show (0 : Int32) < (1 : Int32) by decide) ?_
  refine H.aloadN s6_15 rfl rfl ?_
  refine H.iloadN s6_16 rfl ?_
  refine H.ldc2 s6_17 (k_5 hw) ?_
  refine H.lastore s6_20 (i := 4) (j := 0) rfl (by decide) (ltb rfl)  rfl ?_
  refine H.iinc s6_21 rfl (w := (1 : Int32)) (by decide) (ls' := #[.val (.int (1 : Int32)), .val (.ref (n0 + 4)), .val (.int (1 : Int32))]) rfl ?_
  refine H.goto s6_24 ?_
  refine H.iloadN s6_9 rfl ?_
  refine H.aloadN s6_10 rfl rfl ?_
  refine H.arraylength s6_11 (i := 4) rfl (z := (1 : Int32)) rfl ?_
  refine H.icmpT s6_12 (show ¬ (1 : Int32) < (1 : Int32) by decide) ?_
  refine H.iloadN s6_27 rfl ?_
  refine H.bipush s6_28 (v := (64 : Int32)) (by decide) ?_
  refine H.irem s6_30 (by decide) (w := (1 : Int32)) (by decide) ?_
  refine H.ifF s6_31 (show ¬ (1 : Int32) = (0 : Int32) by decide) ?_
  refine H.aloadN s6_34 rfl rfl ?_
  refine H.aloadN s6_35 rfl rfl ?_
  refine H.arraylength s6_36 (i := 4) rfl (z := (1 : Int32)) rfl ?_
  refine H.iconst s6_37 (v := (1 : Int32)) (by decide) ?_
  refine H.isub s6_38 (w := (0 : Int32)) (by decide) ?_
  refine H.lconst s6_39 (v := (1 : Int64)) (by decide) ?_
  refine H.iloadN s6_40 rfl ?_
  refine H.lshl s6_41 (w := (2 : Int64)) (by decide) ?_
  refine H.lconst s6_42 (v := (1 : Int64)) (by decide) ?_
  refine H.lsub s6_43 (w := (1 : Int64)) (by decide) ?_
  refine H.lastore s6_44 (i := 4) (j := 0) rfl (by decide) (ltb rfl)  rfl ?_
  refine H.aloadN s6_45 rfl rfl ?_
  exact H.areturn s6_46 rfl rfl rfl rfl ⟨rfl, rfl⟩ (by decide) (by decide)


theorem a_29 (l : Launch) {Z : State} {a0 : Array Value} (hw : HW1 Z a0) (n0 : Nat)  : Met l Z KT n0 y3 b3 2 none ({ frames := 2, cells := 4, slots := 4, locals := 27 } : Room) #[(.ref (n0 + 0)), (.int (64 : Int32))] [.inl (0, [(.int (0 : Int32)), .null, .null, .null, .null])] (Is none [.inl (0, [(.int (64 : Int32)), (.ref (n0 + 1)), (.ref (n0 + 2)), (.ref (n0 + 3)), (.ref (n0 + 4))]), .inr (.long, [(.long (0 : Int64))]), .inr (.long, [(.long (0 : Int64))]), .inr (.long, [(.long (-1 : Int64))]), .inr (.long, [(.long (1 : Int64))])]) := by
  refine Met.of (a0 := a0) (ls := #[.val (.ref (n0 + 0)), .val (.int (64 : Int32))]) (kok hw) (plainFor_of_name pn_7) (fun m => by first | (simp [entryFrame, mkF, argsToLocals, Value.category]; done) | rfl) (fun G H => ?_)
  refine H.aloadN s3_0 rfl rfl ?_
  refine H.initO s3_1 (k_16 hw) rfl (leb rfl) (leb rfl) ?_
  refine H.aloadN s3_4 rfl rfl ?_
  refine H.iloadN s3_5 rfl ?_
  refine H.putfield s3_6 (k_17 hw) (i := 0) rfl rfl rfl rfl ?_
  refine H.aloadN s3_9 rfl rfl ?_
  refine H.iloadN s3_10 rfl ?_
  refine H.callSD s3_11 (k_18 hw) (a_30 l hw n0) (argsL := [(.int (64 : Int32))]) (rest := [(.ref (n0 + 0))]) rfl rfl rfl rfl (leb rfl) (leb rfl) (leb rfl) (leb rfl) (st' := [(.int (1 : Int32)), (.ref (n0 + 0))]) rfl (k' := 0) rfl (n' := 0) rfl ?_
  refine H.newarray s3_14 (ty := .long) rfl (k_19 hw) (N := 1) (cap := 1) (by decide) rfl (by decide) (by decide) (by first | rfl | simp) (by decide) (by decide) (i := 1) rfl (A' := [.inl (0, [(.int (64 : Int32)), .null, .null, .null, .null]), .inr (.long, [(.long (0 : Int64))])]) rfl (k' := 1) rfl (n' := 1) rfl ?_
  refine H.putfield s3_16 (k_20 hw) (i := 0) rfl rfl rfl rfl ?_
  refine H.aloadN s3_19 rfl rfl ?_
  refine H.aloadN s3_20 rfl rfl ?_
  refine H.getfield s3_21 (k_4 hw) (i := 0) rfl rfl ?_
  refine H.arraylength s3_24 (i := 1) rfl (z := (1 : Int32)) rfl ?_
  refine H.callSD s3_25 (k_18 hw) (a_31 l hw n0) (argsL := [(.int (1 : Int32))]) (rest := [(.ref (n0 + 0))]) rfl rfl rfl rfl (leb rfl) (leb rfl) (leb rfl) (leb rfl) (st' := [(.int (1 : Int32)), (.ref (n0 + 0))]) rfl (k' := 1) rfl (n' := 1) rfl ?_
  refine H.newarray s3_28 (ty := .long) rfl (k_19 hw) (N := 1) (cap := 1) (by decide) rfl (by decide) (by decide) (by first | rfl | simp) (by decide) (by decide) (i := 2) rfl (A' := [.inl (0, [(.int (64 : Int32)), (.ref (n0 + 1)), .null, .null, .null]), .inr (.long, [(.long (0 : Int64))]), .inr (.long, [(.long (0 : Int64))])]) rfl (k' := 2) rfl (n' := 2) rfl ?_
  refine H.putfield s3_30 (k_21 hw) (i := 0) rfl rfl rfl rfl ?_
  refine H.aloadN s3_33 rfl rfl ?_
  refine H.iloadN s3_34 rfl ?_
  refine H.callSD s3_35 (k_22 hw) (a_32 l hw n0) (argsL := [(.int (64 : Int32))]) (rest := [(.ref (n0 + 0))]) rfl rfl rfl rfl (leb rfl) (leb rfl) (leb rfl) (leb rfl) (st' := [(.ref (n0 + 3)), (.ref (n0 + 0))]) rfl (k' := 3) rfl (n' := 3) rfl ?_
  refine H.putfield s3_38 (k_23 hw) (i := 0) rfl rfl rfl rfl ?_
  refine H.aloadN s3_41 rfl rfl ?_
  refine H.aloadN s3_42 rfl rfl ?_
  refine H.getfield s3_43 (k_4 hw) (i := 0) rfl rfl ?_
  refine H.arraylength s3_46 (i := 1) rfl (z := (1 : Int32)) rfl ?_
  refine H.callSD s3_47 (k_22 hw) (a_34 l hw n0) (argsL := [(.int (1 : Int32))]) (rest := [(.ref (n0 + 0))]) rfl rfl rfl rfl (leb rfl) (leb rfl) (leb rfl) (leb rfl) (st' := [(.ref (n0 + 4)), (.ref (n0 + 0))]) rfl (k' := 4) rfl (n' := 4) rfl ?_
  refine H.putfield s3_50 (k_24 hw) (i := 0) rfl rfl rfl rfl ?_
  exact H.vreturn s3_53 rfl ⟨rfl, rfl⟩ (by decide) (by decide)


theorem a_36 (l : Launch) {Z : State} {a0 : Array Value} (hw : HW1 Z a0) (n0 : Nat)  : Met l Z KT n0 y7 b7 1 none ({ frames := 1, cells := 0, slots := 0, locals := 18 } : Room) #[(.ref (n0 + 0))] [.inl (0, [(.int (64 : Int32)), (.ref (n0 + 1)), (.ref (n0 + 2)), (.ref (n0 + 3)), (.ref (n0 + 4))]), .inr (.long, [(.long (0 : Int64))]), .inr (.long, [(.long (0 : Int64))]), .inr (.long, [(.long (-1 : Int64))]), .inr (.long, [(.long (1 : Int64))])] (Is none [.inl (0, [(.int (64 : Int32)), (.ref (n0 + 1)), (.ref (n0 + 2)), (.ref (n0 + 3)), (.ref (n0 + 4))]), .inr (.long, [(.long (-1 : Int64))]), .inr (.long, [(.long (1 : Int64))]), .inr (.long, [(.long (-1 : Int64))]), .inr (.long, [(.long (1 : Int64))])]) := by
  refine Met.of (a0 := a0) (ls := #[.val (.ref (n0 + 0))]) (kok hw) (plainFor_of_name pn_7) (fun m => by first | (simp [entryFrame, mkF, argsToLocals, Value.category]; done) | rfl) (fun G H => ?_)
  refine H.aloadN s7_0 rfl rfl ?_
  refine H.getfield s7_1 (k_26 hw) (i := 0) rfl rfl ?_
  refine H.iconst s7_4 (v := (0 : Int32)) (by decide) ?_
  refine H.aloadN s7_5 rfl rfl ?_
  refine H.getfield s7_6 (k_4 hw) (i := 0) rfl rfl ?_
  refine H.iconst s7_9 (v := (0 : Int32)) (by decide) ?_
  refine H.aloadN s7_10 rfl rfl ?_
  refine H.getfield s7_11 (k_4 hw) (i := 0) rfl rfl ?_
  refine H.arraylength s7_14 (i := 1) rfl (z := (1 : Int32)) rfl ?_
  refine H.arraycopy s7_15 (k_27 hw) (i := 3) (j := 1) rfl rfl rfl (p := 0) (q := 0) (r := 1) (by decide) (by decide) (by decide) (leb rfl) (leb rfl) (leb rfl) (leb rfl) (us := [(.long (-1 : Int64))]) rfl rfl (leb rfl) (leb rfl) (by first | rfl | simp) (A' := [.inl (0, [(.int (64 : Int32)), (.ref (n0 + 1)), (.ref (n0 + 2)), (.ref (n0 + 3)), (.ref (n0 + 4))]), .inr (.long, [(.long (-1 : Int64))]), .inr (.long, [(.long (0 : Int64))]), .inr (.long, [(.long (-1 : Int64))]), .inr (.long, [(.long (1 : Int64))])]) rfl ?_
  refine H.aloadN s7_18 rfl rfl ?_
  refine H.getfield s7_19 (k_28 hw) (i := 0) rfl rfl ?_
  refine H.iconst s7_22 (v := (0 : Int32)) (by decide) ?_
  refine H.aloadN s7_23 rfl rfl ?_
  refine H.getfield s7_24 (k_6 hw) (i := 0) rfl rfl ?_
  refine H.iconst s7_27 (v := (0 : Int32)) (by decide) ?_
  refine H.aloadN s7_28 rfl rfl ?_
  refine H.getfield s7_29 (k_6 hw) (i := 0) rfl rfl ?_
  refine H.arraylength s7_32 (i := 2) rfl (z := (1 : Int32)) rfl ?_
  refine H.arraycopy s7_33 (k_27 hw) (i := 4) (j := 2) rfl rfl rfl (p := 0) (q := 0) (r := 1) (by decide) (by decide) (by decide) (leb rfl) (leb rfl) (leb rfl) (leb rfl) (us := [(.long (1 : Int64))]) rfl rfl (leb rfl) (leb rfl) (by first | rfl | simp) (A' := [.inl (0, [(.int (64 : Int32)), (.ref (n0 + 1)), (.ref (n0 + 2)), (.ref (n0 + 3)), (.ref (n0 + 4))]), .inr (.long, [(.long (-1 : Int64))]), .inr (.long, [(.long (1 : Int64))]), .inr (.long, [(.long (-1 : Int64))]), .inr (.long, [(.long (1 : Int64))])]) rfl ?_
  exact H.vreturn s7_36 rfl ⟨rfl, rfl⟩ (by decide) (by decide)


theorem a_37 (l : Launch) {Z : State} {a0 : Array Value} (hw : HW1 Z a0) (n0 : Nat)  : Met l Z KT n0 y1 b1 2 (some .int) ({ frames := 0, cells := 0, slots := 0, locals := 0 } : Room) #[(.int (1 : Int32)), (.int (65 : Int32))] [] (Is (some (.int (65 : Int32))) []) := by
  refine Met.of (a0 := a0) (ls := #[.val (.int (1 : Int32)), .val (.int (65 : Int32))]) (kok hw) (Jvm.Free.JP.mathPlain rfl (by decide +kernel)) (fun m => by first | (simp [entryFrame, mkF, argsToLocals, Value.category]; done) | rfl) (fun G H => ?_)
  refine H.iloadN s1_0 rfl ?_
  refine H.iloadN s1_1 rfl ?_
  refine H.icmpT s1_2 (show (1 : Int32) < (65 : Int32) by decide) ?_
  refine H.iloadN s1_9 rfl ?_
  exact H.ireturn s1_10 rfl (by simp) rfl ⟨rfl, rfl⟩ (by decide) (by decide)


theorem a_39 (l : Launch) {Z : State} {a0 : Array Value} (hw : HW1 Z a0) (n0 : Nat)  : Met l Z KT n0 y5 b5 1 (some .int) ({ frames := 0, cells := 0, slots := 0, locals := 0 } : Room) #[(.int (65 : Int32))] [.inl (0, [(.int (65 : Int32)), .null, .null, .null, .null])] (Is (some (.int (2 : Int32))) [.inl (0, [(.int (65 : Int32)), .null, .null, .null, .null])]) := by
  refine Met.of (a0 := a0) (ls := #[.val (.int (65 : Int32))]) (kok hw) (plainFor_of_name pn_7) (fun m => by first | (simp [entryFrame, mkF, argsToLocals, Value.category]; done) | rfl) (fun G H => ?_)
  refine H.iloadN s5_0 rfl ?_
  refine H.bipush s5_1 (v := (63 : Int32)) (by decide) ?_
  refine H.iadd s5_3 (w := (128 : Int32)) (by decide) ?_
  refine H.bipush s5_4 (v := (6 : Int32)) (by decide) ?_
  refine H.iushr s5_6 (w := (2 : Int32)) (by decide) ?_
  exact H.ireturn s5_7 rfl (by simp) rfl ⟨rfl, rfl⟩ (by decide) (by decide)


theorem a_40 (l : Launch) {Z : State} {a0 : Array Value} (hw : HW1 Z a0) (n0 : Nat)  : Met l Z KT n0 y5 b5 1 (some .int) ({ frames := 0, cells := 0, slots := 0, locals := 0 } : Room) #[(.int (2 : Int32))] [.inl (0, [(.int (65 : Int32)), (.ref (n0 + 1)), .null, .null, .null]), .inr (.long, [(.long (0 : Int64)), (.long (0 : Int64))])] (Is (some (.int (1 : Int32))) [.inl (0, [(.int (65 : Int32)), (.ref (n0 + 1)), .null, .null, .null]), .inr (.long, [(.long (0 : Int64)), (.long (0 : Int64))])]) := by
  refine Met.of (a0 := a0) (ls := #[.val (.int (2 : Int32))]) (kok hw) (plainFor_of_name pn_7) (fun m => by first | (simp [entryFrame, mkF, argsToLocals, Value.category]; done) | rfl) (fun G H => ?_)
  refine H.iloadN s5_0 rfl ?_
  refine H.bipush s5_1 (v := (63 : Int32)) (by decide) ?_
  refine H.iadd s5_3 (w := (65 : Int32)) (by decide) ?_
  refine H.bipush s5_4 (v := (6 : Int32)) (by decide) ?_
  refine H.iushr s5_6 (w := (1 : Int32)) (by decide) ?_
  exact H.ireturn s5_7 rfl (by simp) rfl ⟨rfl, rfl⟩ (by decide) (by decide)


theorem a_42 (l : Launch) {Z : State} {a0 : Array Value} (hw : HW1 Z a0) (n0 : Nat)  : Met l Z KT n0 y5 b5 1 (some .int) ({ frames := 0, cells := 0, slots := 0, locals := 0 } : Room) #[(.int (65 : Int32))] [.inl (0, [(.int (65 : Int32)), (.ref (n0 + 1)), (.ref (n0 + 2)), .null, .null]), .inr (.long, [(.long (0 : Int64)), (.long (0 : Int64))]), .inr (.long, [(.long (0 : Int64))])] (Is (some (.int (2 : Int32))) [.inl (0, [(.int (65 : Int32)), (.ref (n0 + 1)), (.ref (n0 + 2)), .null, .null]), .inr (.long, [(.long (0 : Int64)), (.long (0 : Int64))]), .inr (.long, [(.long (0 : Int64))])]) := by
  refine Met.of (a0 := a0) (ls := #[.val (.int (65 : Int32))]) (kok hw) (plainFor_of_name pn_7) (fun m => by first | (simp [entryFrame, mkF, argsToLocals, Value.category]; done) | rfl) (fun G H => ?_)
  refine H.iloadN s5_0 rfl ?_
  refine H.bipush s5_1 (v := (63 : Int32)) (by decide) ?_
  refine H.iadd s5_3 (w := (128 : Int32)) (by decide) ?_
  refine H.bipush s5_4 (v := (6 : Int32)) (by decide) ?_
  refine H.iushr s5_6 (w := (2 : Int32)) (by decide) ?_
  exact H.ireturn s5_7 rfl (by simp) rfl ⟨rfl, rfl⟩ (by decide) (by decide)


theorem a_41 (l : Launch) {Z : State} {a0 : Array Value} (hw : HW1 Z a0) (n0 : Nat)  : Met l Z KT n0 y6 b6 3 (some (.array .long)) ({ frames := 1, cells := 1, slots := 2, locals := 12 } : Room) #[(.int (65 : Int32))] [.inl (0, [(.int (65 : Int32)), (.ref (n0 + 1)), (.ref (n0 + 2)), .null, .null]), .inr (.long, [(.long (0 : Int64)), (.long (0 : Int64))]), .inr (.long, [(.long (0 : Int64))])] (Is (some (.ref (n0 + 3))) [.inl (0, [(.int (65 : Int32)), (.ref (n0 + 1)), (.ref (n0 + 2)), .null, .null]), .inr (.long, [(.long (0 : Int64)), (.long (0 : Int64))]), .inr (.long, [(.long (0 : Int64))]), .inr (.long, [(.long (-1 : Int64)), (.long (1 : Int64))])]) := by
  refine Met.of (a0 := a0) (ls := #[.val (.int (65 : Int32)), .unset, .unset]) (kok hw) (plainFor_of_name pn_7) (fun m => by first | (simp [entryFrame, mkF, argsToLocals, Value.category]; done) | rfl) (fun G H => ?_)
  refine H.iloadN s6_0 rfl ?_
  refine H.callSD s6_1 (k_18 hw) (a_42 l hw n0) (argsL := [(.int (65 : Int32))]) (rest := []) rfl rfl rfl rfl (leb rfl) (leb rfl) (leb rfl) (leb rfl) (st' := [(.int (2 : Int32))]) rfl (k' := 0) rfl (n' := 0) rfl ?_
  refine H.newarray s6_4 (ty := .long) rfl (k_19 hw) (N := 2) (cap := 2) (by decide) rfl (by decide) (by decide) (by first | rfl | simp) (by decide) (by decide) (i := 3) rfl (A' := [.inl (0, [(.int (65 : Int32)), (.ref (n0 + 1)), (.ref (n0 + 2)), .null, .null]), .inr (.long, [(.long (0 : Int64)), (.long (0 : Int64))]), .inr (.long, [(.long (0 : Int64))]), .inr (.long, [(.long (0 : Int64)), (.long (0 : Int64))])]) rfl (k' := 1) rfl (n' := 2) rfl ?_
  refine H.astoreN s6_6 rfl (ls' := #[.val (.int (65 : Int32)), .val (.ref (n0 + 3)), .unset]) rfl ?_
  refine H.iconst s6_7 (v := (0 : Int32)) (by decide) ?_
  refine H.istoreN s6_8 (ls' := #[.val (.int (65 : Int32)), .val (.ref (n0 + 3)), .val (.int (0 : Int32))]) rfl ?_
  refine H.iloadN s6_9 rfl ?_
  refine H.aloadN s6_10 rfl rfl ?_
  refine H.arraylength s6_11 (i := 3) rfl (z := (2 : Int32)) rfl ?_
  refine H.icmpF s6_12 (show (0 : Int32) < (2 : Int32) by decide) ?_
  refine H.aloadN s6_15 rfl rfl ?_
  refine H.iloadN s6_16 rfl ?_
  refine H.ldc2 s6_17 (k_5 hw) ?_
  refine H.lastore s6_20 (i := 3) (j := 0) rfl (by decide) (ltb rfl)  rfl ?_
  refine H.iinc s6_21 rfl (w := (1 : Int32)) (by decide) (ls' := #[.val (.int (65 : Int32)), .val (.ref (n0 + 3)), .val (.int (1 : Int32))]) rfl ?_
  refine H.goto s6_24 ?_
  refine H.iloadN s6_9 rfl ?_
  refine H.aloadN s6_10 rfl rfl ?_
  refine H.arraylength s6_11 (i := 3) rfl (z := (2 : Int32)) rfl ?_
  refine H.icmpF s6_12 (show (1 : Int32) < (2 : Int32) by decide) ?_
  refine H.aloadN s6_15 rfl rfl ?_
  refine H.iloadN s6_16 rfl ?_
  refine H.ldc2 s6_17 (k_5 hw) ?_
  refine H.lastore s6_20 (i := 3) (j := 1) rfl (by decide) (ltb rfl)  rfl ?_
  refine H.iinc s6_21 rfl (w := (2 : Int32)) (by decide) (ls' := #[.val (.int (65 : Int32)), .val (.ref (n0 + 3)), .val (.int (2 : Int32))]) rfl ?_
  refine H.goto s6_24 ?_
  refine H.iloadN s6_9 rfl ?_
  refine H.aloadN s6_10 rfl rfl ?_
  refine H.arraylength s6_11 (i := 3) rfl (z := (2 : Int32)) rfl ?_
  refine H.icmpT s6_12 (show ¬ (2 : Int32) < (2 : Int32) by decide) ?_
  refine H.iloadN s6_27 rfl ?_
  refine H.bipush s6_28 (v := (64 : Int32)) (by decide) ?_
  refine H.irem s6_30 (by decide) (w := (1 : Int32)) (by decide) ?_
  refine H.ifF s6_31 (show ¬ (1 : Int32) = (0 : Int32) by decide) ?_
  refine H.aloadN s6_34 rfl rfl ?_
  refine H.aloadN s6_35 rfl rfl ?_
  refine H.arraylength s6_36 (i := 3) rfl (z := (2 : Int32)) rfl ?_
  refine H.iconst s6_37 (v := (1 : Int32)) (by decide) ?_
  refine H.isub s6_38 (w := (1 : Int32)) (by decide) ?_
  refine H.lconst s6_39 (v := (1 : Int64)) (by decide) ?_
  refine H.iloadN s6_40 rfl ?_
  refine H.lshl s6_41 (w := (2 : Int64)) (by decide) ?_
  refine H.lconst s6_42 (v := (1 : Int64)) (by decide) ?_
  refine H.lsub s6_43 (w := (1 : Int64)) (by decide) ?_
  refine H.lastore s6_44 (i := 3) (j := 1) rfl (by decide) (ltb rfl)  rfl ?_
  refine H.aloadN s6_45 rfl rfl ?_
  exact H.areturn s6_46 rfl rfl rfl rfl ⟨rfl, rfl⟩ (by decide) (by decide)


theorem a_44 (l : Launch) {Z : State} {a0 : Array Value} (hw : HW1 Z a0) (n0 : Nat)  : Met l Z KT n0 y5 b5 1 (some .int) ({ frames := 0, cells := 0, slots := 0, locals := 0 } : Room) #[(.int (2 : Int32))] [.inl (0, [(.int (65 : Int32)), (.ref (n0 + 1)), (.ref (n0 + 2)), (.ref (n0 + 3)), .null]), .inr (.long, [(.long (0 : Int64)), (.long (0 : Int64))]), .inr (.long, [(.long (0 : Int64))]), .inr (.long, [(.long (-1 : Int64)), (.long (1 : Int64))])] (Is (some (.int (1 : Int32))) [.inl (0, [(.int (65 : Int32)), (.ref (n0 + 1)), (.ref (n0 + 2)), (.ref (n0 + 3)), .null]), .inr (.long, [(.long (0 : Int64)), (.long (0 : Int64))]), .inr (.long, [(.long (0 : Int64))]), .inr (.long, [(.long (-1 : Int64)), (.long (1 : Int64))])]) := by
  refine Met.of (a0 := a0) (ls := #[.val (.int (2 : Int32))]) (kok hw) (plainFor_of_name pn_7) (fun m => by first | (simp [entryFrame, mkF, argsToLocals, Value.category]; done) | rfl) (fun G H => ?_)
  refine H.iloadN s5_0 rfl ?_
  refine H.bipush s5_1 (v := (63 : Int32)) (by decide) ?_
  refine H.iadd s5_3 (w := (65 : Int32)) (by decide) ?_
  refine H.bipush s5_4 (v := (6 : Int32)) (by decide) ?_
  refine H.iushr s5_6 (w := (1 : Int32)) (by decide) ?_
  exact H.ireturn s5_7 rfl (by simp) rfl ⟨rfl, rfl⟩ (by decide) (by decide)


theorem a_43 (l : Launch) {Z : State} {a0 : Array Value} (hw : HW1 Z a0) (n0 : Nat)  : Met l Z KT n0 y6 b6 3 (some (.array .long)) ({ frames := 1, cells := 1, slots := 1, locals := 12 } : Room) #[(.int (2 : Int32))] [.inl (0, [(.int (65 : Int32)), (.ref (n0 + 1)), (.ref (n0 + 2)), (.ref (n0 + 3)), .null]), .inr (.long, [(.long (0 : Int64)), (.long (0 : Int64))]), .inr (.long, [(.long (0 : Int64))]), .inr (.long, [(.long (-1 : Int64)), (.long (1 : Int64))])] (Is (some (.ref (n0 + 4))) [.inl (0, [(.int (65 : Int32)), (.ref (n0 + 1)), (.ref (n0 + 2)), (.ref (n0 + 3)), .null]), .inr (.long, [(.long (0 : Int64)), (.long (0 : Int64))]), .inr (.long, [(.long (0 : Int64))]), .inr (.long, [(.long (-1 : Int64)), (.long (1 : Int64))]), .inr (.long, [(.long (3 : Int64))])]) := by
  refine Met.of (a0 := a0) (ls := #[.val (.int (2 : Int32)), .unset, .unset]) (kok hw) (plainFor_of_name pn_7) (fun m => by first | (simp [entryFrame, mkF, argsToLocals, Value.category]; done) | rfl) (fun G H => ?_)
  refine H.iloadN s6_0 rfl ?_
  refine H.callSD s6_1 (k_18 hw) (a_44 l hw n0) (argsL := [(.int (2 : Int32))]) (rest := []) rfl rfl rfl rfl (leb rfl) (leb rfl) (leb rfl) (leb rfl) (st' := [(.int (1 : Int32))]) rfl (k' := 0) rfl (n' := 0) rfl ?_
  refine H.newarray s6_4 (ty := .long) rfl (k_19 hw) (N := 1) (cap := 1) (by decide) rfl (by decide) (by decide) (by first | rfl | simp) (by decide) (by decide) (i := 4) rfl (A' := [.inl (0, [(.int (65 : Int32)), (.ref (n0 + 1)), (.ref (n0 + 2)), (.ref (n0 + 3)), .null]), .inr (.long, [(.long (0 : Int64)), (.long (0 : Int64))]), .inr (.long, [(.long (0 : Int64))]), .inr (.long, [(.long (-1 : Int64)), (.long (1 : Int64))]), .inr (.long, [(.long (0 : Int64))])]) rfl (k' := 1) rfl (n' := 1) rfl ?_
  refine H.astoreN s6_6 rfl (ls' := #[.val (.int (2 : Int32)), .val (.ref (n0 + 4)), .unset]) rfl ?_
  refine H.iconst s6_7 (v := (0 : Int32)) (by decide) ?_
  refine H.istoreN s6_8 (ls' := #[.val (.int (2 : Int32)), .val (.ref (n0 + 4)), .val (.int (0 : Int32))]) rfl ?_
  refine H.iloadN s6_9 rfl ?_
  refine H.aloadN s6_10 rfl rfl ?_
  refine H.arraylength s6_11 (i := 4) rfl (z := (1 : Int32)) rfl ?_
  refine H.icmpF s6_12 (show (0 : Int32) < (1 : Int32) by decide) ?_
  refine H.aloadN s6_15 rfl rfl ?_
  refine H.iloadN s6_16 rfl ?_
  refine H.ldc2 s6_17 (k_5 hw) ?_
  refine H.lastore s6_20 (i := 4) (j := 0) rfl (by decide) (ltb rfl)  rfl ?_
  refine H.iinc s6_21 rfl (w := (1 : Int32)) (by decide) (ls' := #[.val (.int (2 : Int32)), .val (.ref (n0 + 4)), .val (.int (1 : Int32))]) rfl ?_
  refine H.goto s6_24 ?_
  refine H.iloadN s6_9 rfl ?_
  refine H.aloadN s6_10 rfl rfl ?_
  refine H.arraylength s6_11 (i := 4) rfl (z := (1 : Int32)) rfl ?_
  refine H.icmpT s6_12 (show ¬ (1 : Int32) < (1 : Int32) by decide) ?_
  refine H.iloadN s6_27 rfl ?_
  refine H.bipush s6_28 (v := (64 : Int32)) (by decide) ?_
  refine H.irem s6_30 (by decide) (w := (2 : Int32)) (by decide) ?_
  refine H.ifF s6_31 (show ¬ (2 : Int32) = (0 : Int32) by decide) ?_
  refine H.aloadN s6_34 rfl rfl ?_
  refine H.aloadN s6_35 rfl rfl ?_
  refine H.arraylength s6_36 (i := 4) rfl (z := (1 : Int32)) rfl ?_
  refine H.iconst s6_37 (v := (1 : Int32)) (by decide) ?_
  refine H.isub s6_38 (w := (0 : Int32)) (by decide) ?_
  refine H.lconst s6_39 (v := (1 : Int64)) (by decide) ?_
  refine H.iloadN s6_40 rfl ?_
  refine H.lshl s6_41 (w := (4 : Int64)) (by decide) ?_
  refine H.lconst s6_42 (v := (1 : Int64)) (by decide) ?_
  refine H.lsub s6_43 (w := (3 : Int64)) (by decide) ?_
  refine H.lastore s6_44 (i := 4) (j := 0) rfl (by decide) (ltb rfl)  rfl ?_
  refine H.aloadN s6_45 rfl rfl ?_
  exact H.areturn s6_46 rfl rfl rfl rfl ⟨rfl, rfl⟩ (by decide) (by decide)


theorem a_38 (l : Launch) {Z : State} {a0 : Array Value} (hw : HW1 Z a0) (n0 : Nat)  : Met l Z KT n0 y3 b3 2 none ({ frames := 2, cells := 4, slots := 6, locals := 27 } : Room) #[(.ref (n0 + 0)), (.int (65 : Int32))] [.inl (0, [(.int (0 : Int32)), .null, .null, .null, .null])] (Is none [.inl (0, [(.int (65 : Int32)), (.ref (n0 + 1)), (.ref (n0 + 2)), (.ref (n0 + 3)), (.ref (n0 + 4))]), .inr (.long, [(.long (0 : Int64)), (.long (0 : Int64))]), .inr (.long, [(.long (0 : Int64))]), .inr (.long, [(.long (-1 : Int64)), (.long (1 : Int64))]), .inr (.long, [(.long (3 : Int64))])]) := by
  refine Met.of (a0 := a0) (ls := #[.val (.ref (n0 + 0)), .val (.int (65 : Int32))]) (kok hw) (plainFor_of_name pn_7) (fun m => by first | (simp [entryFrame, mkF, argsToLocals, Value.category]; done) | rfl) (fun G H => ?_)
  refine H.aloadN s3_0 rfl rfl ?_
  refine H.initO s3_1 (k_16 hw) rfl (leb rfl) (leb rfl) ?_
  refine H.aloadN s3_4 rfl rfl ?_
  refine H.iloadN s3_5 rfl ?_
  refine H.putfield s3_6 (k_17 hw) (i := 0) rfl rfl rfl rfl ?_
  refine H.aloadN s3_9 rfl rfl ?_
  refine H.iloadN s3_10 rfl ?_
  refine H.callSD s3_11 (k_18 hw) (a_39 l hw n0) (argsL := [(.int (65 : Int32))]) (rest := [(.ref (n0 + 0))]) rfl rfl rfl rfl (leb rfl) (leb rfl) (leb rfl) (leb rfl) (st' := [(.int (2 : Int32)), (.ref (n0 + 0))]) rfl (k' := 0) rfl (n' := 0) rfl ?_
  refine H.newarray s3_14 (ty := .long) rfl (k_19 hw) (N := 2) (cap := 2) (by decide) rfl (by decide) (by decide) (by first | rfl | simp) (by decide) (by decide) (i := 1) rfl (A' := [.inl (0, [(.int (65 : Int32)), .null, .null, .null, .null]), .inr (.long, [(.long (0 : Int64)), (.long (0 : Int64))])]) rfl (k' := 1) rfl (n' := 2) rfl ?_
  refine H.putfield s3_16 (k_20 hw) (i := 0) rfl rfl rfl rfl ?_
  refine H.aloadN s3_19 rfl rfl ?_
  refine H.aloadN s3_20 rfl rfl ?_
  refine H.getfield s3_21 (k_4 hw) (i := 0) rfl rfl ?_
  refine H.arraylength s3_24 (i := 1) rfl (z := (2 : Int32)) rfl ?_
  refine H.callSD s3_25 (k_18 hw) (a_40 l hw n0) (argsL := [(.int (2 : Int32))]) (rest := [(.ref (n0 + 0))]) rfl rfl rfl rfl (leb rfl) (leb rfl) (leb rfl) (leb rfl) (st' := [(.int (1 : Int32)), (.ref (n0 + 0))]) rfl (k' := 1) rfl (n' := 2) rfl ?_
  refine H.newarray s3_28 (ty := .long) rfl (k_19 hw) (N := 1) (cap := 1) (by decide) rfl (by decide) (by decide) (by first | rfl | simp) (by decide) (by decide) (i := 2) rfl (A' := [.inl (0, [(.int (65 : Int32)), (.ref (n0 + 1)), .null, .null, .null]), .inr (.long, [(.long (0 : Int64)), (.long (0 : Int64))]), .inr (.long, [(.long (0 : Int64))])]) rfl (k' := 2) rfl (n' := 3) rfl ?_
  refine H.putfield s3_30 (k_21 hw) (i := 0) rfl rfl rfl rfl ?_
  refine H.aloadN s3_33 rfl rfl ?_
  refine H.iloadN s3_34 rfl ?_
  refine H.callSD s3_35 (k_22 hw) (a_41 l hw n0) (argsL := [(.int (65 : Int32))]) (rest := [(.ref (n0 + 0))]) rfl rfl rfl rfl (leb rfl) (leb rfl) (leb rfl) (leb rfl) (st' := [(.ref (n0 + 3)), (.ref (n0 + 0))]) rfl (k' := 3) rfl (n' := 5) rfl ?_
  refine H.putfield s3_38 (k_23 hw) (i := 0) rfl rfl rfl rfl ?_
  refine H.aloadN s3_41 rfl rfl ?_
  refine H.aloadN s3_42 rfl rfl ?_
  refine H.getfield s3_43 (k_4 hw) (i := 0) rfl rfl ?_
  refine H.arraylength s3_46 (i := 1) rfl (z := (2 : Int32)) rfl ?_
  refine H.callSD s3_47 (k_22 hw) (a_43 l hw n0) (argsL := [(.int (2 : Int32))]) (rest := [(.ref (n0 + 0))]) rfl rfl rfl rfl (leb rfl) (leb rfl) (leb rfl) (leb rfl) (st' := [(.ref (n0 + 4)), (.ref (n0 + 0))]) rfl (k' := 4) rfl (n' := 6) rfl ?_
  refine H.putfield s3_50 (k_24 hw) (i := 0) rfl rfl rfl rfl ?_
  exact H.vreturn s3_53 rfl ⟨rfl, rfl⟩ (by decide) (by decide)


theorem a_45 (l : Launch) {Z : State} {a0 : Array Value} (hw : HW1 Z a0) (n0 : Nat)  : Met l Z KT n0 y7 b7 1 none ({ frames := 1, cells := 0, slots := 0, locals := 18 } : Room) #[(.ref (n0 + 0))] [.inl (0, [(.int (65 : Int32)), (.ref (n0 + 1)), (.ref (n0 + 2)), (.ref (n0 + 3)), (.ref (n0 + 4))]), .inr (.long, [(.long (0 : Int64)), (.long (0 : Int64))]), .inr (.long, [(.long (0 : Int64))]), .inr (.long, [(.long (-1 : Int64)), (.long (1 : Int64))]), .inr (.long, [(.long (3 : Int64))])] (Is none [.inl (0, [(.int (65 : Int32)), (.ref (n0 + 1)), (.ref (n0 + 2)), (.ref (n0 + 3)), (.ref (n0 + 4))]), .inr (.long, [(.long (-1 : Int64)), (.long (1 : Int64))]), .inr (.long, [(.long (3 : Int64))]), .inr (.long, [(.long (-1 : Int64)), (.long (1 : Int64))]), .inr (.long, [(.long (3 : Int64))])]) := by
  refine Met.of (a0 := a0) (ls := #[.val (.ref (n0 + 0))]) (kok hw) (plainFor_of_name pn_7) (fun m => by first | (simp [entryFrame, mkF, argsToLocals, Value.category]; done) | rfl) (fun G H => ?_)
  refine H.aloadN s7_0 rfl rfl ?_
  refine H.getfield s7_1 (k_26 hw) (i := 0) rfl rfl ?_
  refine H.iconst s7_4 (v := (0 : Int32)) (by decide) ?_
  refine H.aloadN s7_5 rfl rfl ?_
  refine H.getfield s7_6 (k_4 hw) (i := 0) rfl rfl ?_
  refine H.iconst s7_9 (v := (0 : Int32)) (by decide) ?_
  refine H.aloadN s7_10 rfl rfl ?_
  refine H.getfield s7_11 (k_4 hw) (i := 0) rfl rfl ?_
  refine H.arraylength s7_14 (i := 1) rfl (z := (2 : Int32)) rfl ?_
  refine H.arraycopy s7_15 (k_27 hw) (i := 3) (j := 1) rfl rfl rfl (p := 0) (q := 0) (r := 2) (by decide) (by decide) (by decide) (leb rfl) (leb rfl) (leb rfl) (leb rfl) (us := [(.long (-1 : Int64)), (.long (1 : Int64))]) rfl rfl (leb rfl) (leb rfl) (by first | rfl | simp) (A' := [.inl (0, [(.int (65 : Int32)), (.ref (n0 + 1)), (.ref (n0 + 2)), (.ref (n0 + 3)), (.ref (n0 + 4))]), .inr (.long, [(.long (-1 : Int64)), (.long (1 : Int64))]), .inr (.long, [(.long (0 : Int64))]), .inr (.long, [(.long (-1 : Int64)), (.long (1 : Int64))]), .inr (.long, [(.long (3 : Int64))])]) rfl ?_
  refine H.aloadN s7_18 rfl rfl ?_
  refine H.getfield s7_19 (k_28 hw) (i := 0) rfl rfl ?_
  refine H.iconst s7_22 (v := (0 : Int32)) (by decide) ?_
  refine H.aloadN s7_23 rfl rfl ?_
  refine H.getfield s7_24 (k_6 hw) (i := 0) rfl rfl ?_
  refine H.iconst s7_27 (v := (0 : Int32)) (by decide) ?_
  refine H.aloadN s7_28 rfl rfl ?_
  refine H.getfield s7_29 (k_6 hw) (i := 0) rfl rfl ?_
  refine H.arraylength s7_32 (i := 2) rfl (z := (1 : Int32)) rfl ?_
  refine H.arraycopy s7_33 (k_27 hw) (i := 4) (j := 2) rfl rfl rfl (p := 0) (q := 0) (r := 1) (by decide) (by decide) (by decide) (leb rfl) (leb rfl) (leb rfl) (leb rfl) (us := [(.long (3 : Int64))]) rfl rfl (leb rfl) (leb rfl) (by first | rfl | simp) (A' := [.inl (0, [(.int (65 : Int32)), (.ref (n0 + 1)), (.ref (n0 + 2)), (.ref (n0 + 3)), (.ref (n0 + 4))]), .inr (.long, [(.long (-1 : Int64)), (.long (1 : Int64))]), .inr (.long, [(.long (3 : Int64))]), .inr (.long, [(.long (-1 : Int64)), (.long (1 : Int64))]), .inr (.long, [(.long (3 : Int64))])]) rfl ?_
  exact H.vreturn s7_36 rfl ⟨rfl, rfl⟩ (by decide) (by decide)


theorem a_46 (l : Launch) {Z : State} {a0 : Array Value} (hw : HW1 Z a0) (n0 : Nat)  : Met l Z KT n0 y1 b1 2 (some .int) ({ frames := 0, cells := 0, slots := 0, locals := 0 } : Room) #[(.int (1 : Int32)), (.int (66 : Int32))] [] (Is (some (.int (66 : Int32))) []) := by
  refine Met.of (a0 := a0) (ls := #[.val (.int (1 : Int32)), .val (.int (66 : Int32))]) (kok hw) (Jvm.Free.JP.mathPlain rfl (by decide +kernel)) (fun m => by first | (simp [entryFrame, mkF, argsToLocals, Value.category]; done) | rfl) (fun G H => ?_)
  refine H.iloadN s1_0 rfl ?_
  refine H.iloadN s1_1 rfl ?_
  refine H.icmpT s1_2 (show (1 : Int32) < (66 : Int32) by decide) ?_
  refine H.iloadN s1_9 rfl ?_
  exact H.ireturn s1_10 rfl (by simp) rfl ⟨rfl, rfl⟩ (by decide) (by decide)


theorem a_48 (l : Launch) {Z : State} {a0 : Array Value} (hw : HW1 Z a0) (n0 : Nat)  : Met l Z KT n0 y5 b5 1 (some .int) ({ frames := 0, cells := 0, slots := 0, locals := 0 } : Room) #[(.int (66 : Int32))] [.inl (0, [(.int (66 : Int32)), .null, .null, .null, .null])] (Is (some (.int (2 : Int32))) [.inl (0, [(.int (66 : Int32)), .null, .null, .null, .null])]) := by
  refine Met.of (a0 := a0) (ls := #[.val (.int (66 : Int32))]) (kok hw) (plainFor_of_name pn_7) (fun m => by first | (simp [entryFrame, mkF, argsToLocals, Value.category]; done) | rfl) (fun G H => ?_)
  refine H.iloadN s5_0 rfl ?_
  refine H.bipush s5_1 (v := (63 : Int32)) (by decide) ?_
  refine H.iadd s5_3 (w := (129 : Int32)) (by decide) ?_
  refine H.bipush s5_4 (v := (6 : Int32)) (by decide) ?_
  refine H.iushr s5_6 (w := (2 : Int32)) (by decide) ?_
  exact H.ireturn s5_7 rfl (by simp) rfl ⟨rfl, rfl⟩ (by decide) (by decide)


theorem a_49 (l : Launch) {Z : State} {a0 : Array Value} (hw : HW1 Z a0) (n0 : Nat)  : Met l Z KT n0 y5 b5 1 (some .int) ({ frames := 0, cells := 0, slots := 0, locals := 0 } : Room) #[(.int (2 : Int32))] [.inl (0, [(.int (66 : Int32)), (.ref (n0 + 1)), .null, .null, .null]), .inr (.long, [(.long (0 : Int64)), (.long (0 : Int64))])] (Is (some (.int (1 : Int32))) [.inl (0, [(.int (66 : Int32)), (.ref (n0 + 1)), .null, .null, .null]), .inr (.long, [(.long (0 : Int64)), (.long (0 : Int64))])]) := by
  refine Met.of (a0 := a0) (ls := #[.val (.int (2 : Int32))]) (kok hw) (plainFor_of_name pn_7) (fun m => by first | (simp [entryFrame, mkF, argsToLocals, Value.category]; done) | rfl) (fun G H => ?_)
  refine H.iloadN s5_0 rfl ?_
  refine H.bipush s5_1 (v := (63 : Int32)) (by decide) ?_
  refine H.iadd s5_3 (w := (65 : Int32)) (by decide) ?_
  refine H.bipush s5_4 (v := (6 : Int32)) (by decide) ?_
  refine H.iushr s5_6 (w := (1 : Int32)) (by decide) ?_
  exact H.ireturn s5_7 rfl (by simp) rfl ⟨rfl, rfl⟩ (by decide) (by decide)


theorem a_51 (l : Launch) {Z : State} {a0 : Array Value} (hw : HW1 Z a0) (n0 : Nat)  : Met l Z KT n0 y5 b5 1 (some .int) ({ frames := 0, cells := 0, slots := 0, locals := 0 } : Room) #[(.int (66 : Int32))] [.inl (0, [(.int (66 : Int32)), (.ref (n0 + 1)), (.ref (n0 + 2)), .null, .null]), .inr (.long, [(.long (0 : Int64)), (.long (0 : Int64))]), .inr (.long, [(.long (0 : Int64))])] (Is (some (.int (2 : Int32))) [.inl (0, [(.int (66 : Int32)), (.ref (n0 + 1)), (.ref (n0 + 2)), .null, .null]), .inr (.long, [(.long (0 : Int64)), (.long (0 : Int64))]), .inr (.long, [(.long (0 : Int64))])]) := by
  refine Met.of (a0 := a0) (ls := #[.val (.int (66 : Int32))]) (kok hw) (plainFor_of_name pn_7) (fun m => by first | (simp [entryFrame, mkF, argsToLocals, Value.category]; done) | rfl) (fun G H => ?_)
  refine H.iloadN s5_0 rfl ?_
  refine H.bipush s5_1 (v := (63 : Int32)) (by decide) ?_
  refine H.iadd s5_3 (w := (129 : Int32)) (by decide) ?_
  refine H.bipush s5_4 (v := (6 : Int32)) (by decide) ?_
  refine H.iushr s5_6 (w := (2 : Int32)) (by decide) ?_
  exact H.ireturn s5_7 rfl (by simp) rfl ⟨rfl, rfl⟩ (by decide) (by decide)


theorem a_50 (l : Launch) {Z : State} {a0 : Array Value} (hw : HW1 Z a0) (n0 : Nat)  : Met l Z KT n0 y6 b6 3 (some (.array .long)) ({ frames := 1, cells := 1, slots := 2, locals := 12 } : Room) #[(.int (66 : Int32))] [.inl (0, [(.int (66 : Int32)), (.ref (n0 + 1)), (.ref (n0 + 2)), .null, .null]), .inr (.long, [(.long (0 : Int64)), (.long (0 : Int64))]), .inr (.long, [(.long (0 : Int64))])] (Is (some (.ref (n0 + 3))) [.inl (0, [(.int (66 : Int32)), (.ref (n0 + 1)), (.ref (n0 + 2)), .null, .null]), .inr (.long, [(.long (0 : Int64)), (.long (0 : Int64))]), .inr (.long, [(.long (0 : Int64))]), .inr (.long, [(.long (-1 : Int64)), (.long (3 : Int64))])]) := by
  refine Met.of (a0 := a0) (ls := #[.val (.int (66 : Int32)), .unset, .unset]) (kok hw) (plainFor_of_name pn_7) (fun m => by first | (simp [entryFrame, mkF, argsToLocals, Value.category]; done) | rfl) (fun G H => ?_)
  refine H.iloadN s6_0 rfl ?_
  refine H.callSD s6_1 (k_18 hw) (a_51 l hw n0) (argsL := [(.int (66 : Int32))]) (rest := []) rfl rfl rfl rfl (leb rfl) (leb rfl) (leb rfl) (leb rfl) (st' := [(.int (2 : Int32))]) rfl (k' := 0) rfl (n' := 0) rfl ?_
  refine H.newarray s6_4 (ty := .long) rfl (k_19 hw) (N := 2) (cap := 2) (by decide) rfl (by decide) (by decide) (by first | rfl | simp) (by decide) (by decide) (i := 3) rfl (A' := [.inl (0, [(.int (66 : Int32)), (.ref (n0 + 1)), (.ref (n0 + 2)), .null, .null]), .inr (.long, [(.long (0 : Int64)), (.long (0 : Int64))]), .inr (.long, [(.long (0 : Int64))]), .inr (.long, [(.long (0 : Int64)), (.long (0 : Int64))])]) rfl (k' := 1) rfl (n' := 2) rfl ?_
  refine H.astoreN s6_6 rfl (ls' := #[.val (.int (66 : Int32)), .val (.ref (n0 + 3)), .unset]) rfl ?_
  refine H.iconst s6_7 (v := (0 : Int32)) (by decide) ?_
  refine H.istoreN s6_8 (ls' := #[.val (.int (66 : Int32)), .val (.ref (n0 + 3)), .val (.int (0 : Int32))]) rfl ?_
  refine H.iloadN s6_9 rfl ?_
  refine H.aloadN s6_10 rfl rfl ?_
  refine H.arraylength s6_11 (i := 3) rfl (z := (2 : Int32)) rfl ?_
  refine H.icmpF s6_12 (show (0 : Int32) < (2 : Int32) by decide) ?_
  refine H.aloadN s6_15 rfl rfl ?_
  refine H.iloadN s6_16 rfl ?_
  refine H.ldc2 s6_17 (k_5 hw) ?_
  refine H.lastore s6_20 (i := 3) (j := 0) rfl (by decide) (ltb rfl)  rfl ?_
  refine H.iinc s6_21 rfl (w := (1 : Int32)) (by decide) (ls' := #[.val (.int (66 : Int32)), .val (.ref (n0 + 3)), .val (.int (1 : Int32))]) rfl ?_
  refine H.goto s6_24 ?_
  refine H.iloadN s6_9 rfl ?_
  refine H.aloadN s6_10 rfl rfl ?_
  refine H.arraylength s6_11 (i := 3) rfl (z := (2 : Int32)) rfl ?_
  refine H.icmpF s6_12 (show (1 : Int32) < (2 : Int32) by decide) ?_
  refine H.aloadN s6_15 rfl rfl ?_
  refine H.iloadN s6_16 rfl ?_
  refine H.ldc2 s6_17 (k_5 hw) ?_
  refine H.lastore s6_20 (i := 3) (j := 1) rfl (by decide) (ltb rfl)  rfl ?_
  refine H.iinc s6_21 rfl (w := (2 : Int32)) (by decide) (ls' := #[.val (.int (66 : Int32)), .val (.ref (n0 + 3)), .val (.int (2 : Int32))]) rfl ?_
  refine H.goto s6_24 ?_
  refine H.iloadN s6_9 rfl ?_
  refine H.aloadN s6_10 rfl rfl ?_
  refine H.arraylength s6_11 (i := 3) rfl (z := (2 : Int32)) rfl ?_
  refine H.icmpT s6_12 (show ¬ (2 : Int32) < (2 : Int32) by decide) ?_
  refine H.iloadN s6_27 rfl ?_
  refine H.bipush s6_28 (v := (64 : Int32)) (by decide) ?_
  refine H.irem s6_30 (by decide) (w := (2 : Int32)) (by decide) ?_
  refine H.ifF s6_31 (show ¬ (2 : Int32) = (0 : Int32) by decide) ?_
  refine H.aloadN s6_34 rfl rfl ?_
  refine H.aloadN s6_35 rfl rfl ?_
  refine H.arraylength s6_36 (i := 3) rfl (z := (2 : Int32)) rfl ?_
  refine H.iconst s6_37 (v := (1 : Int32)) (by decide) ?_
  refine H.isub s6_38 (w := (1 : Int32)) (by decide) ?_
  refine H.lconst s6_39 (v := (1 : Int64)) (by decide) ?_
  refine H.iloadN s6_40 rfl ?_
  refine H.lshl s6_41 (w := (4 : Int64)) (by decide) ?_
  refine H.lconst s6_42 (v := (1 : Int64)) (by decide) ?_
  refine H.lsub s6_43 (w := (3 : Int64)) (by decide) ?_
  refine H.lastore s6_44 (i := 3) (j := 1) rfl (by decide) (ltb rfl)  rfl ?_
  refine H.aloadN s6_45 rfl rfl ?_
  exact H.areturn s6_46 rfl rfl rfl rfl ⟨rfl, rfl⟩ (by decide) (by decide)


theorem a_53 (l : Launch) {Z : State} {a0 : Array Value} (hw : HW1 Z a0) (n0 : Nat)  : Met l Z KT n0 y5 b5 1 (some .int) ({ frames := 0, cells := 0, slots := 0, locals := 0 } : Room) #[(.int (2 : Int32))] [.inl (0, [(.int (66 : Int32)), (.ref (n0 + 1)), (.ref (n0 + 2)), (.ref (n0 + 3)), .null]), .inr (.long, [(.long (0 : Int64)), (.long (0 : Int64))]), .inr (.long, [(.long (0 : Int64))]), .inr (.long, [(.long (-1 : Int64)), (.long (3 : Int64))])] (Is (some (.int (1 : Int32))) [.inl (0, [(.int (66 : Int32)), (.ref (n0 + 1)), (.ref (n0 + 2)), (.ref (n0 + 3)), .null]), .inr (.long, [(.long (0 : Int64)), (.long (0 : Int64))]), .inr (.long, [(.long (0 : Int64))]), .inr (.long, [(.long (-1 : Int64)), (.long (3 : Int64))])]) := by
  refine Met.of (a0 := a0) (ls := #[.val (.int (2 : Int32))]) (kok hw) (plainFor_of_name pn_7) (fun m => by first | (simp [entryFrame, mkF, argsToLocals, Value.category]; done) | rfl) (fun G H => ?_)
  refine H.iloadN s5_0 rfl ?_
  refine H.bipush s5_1 (v := (63 : Int32)) (by decide) ?_
  refine H.iadd s5_3 (w := (65 : Int32)) (by decide) ?_
  refine H.bipush s5_4 (v := (6 : Int32)) (by decide) ?_
  refine H.iushr s5_6 (w := (1 : Int32)) (by decide) ?_
  exact H.ireturn s5_7 rfl (by simp) rfl ⟨rfl, rfl⟩ (by decide) (by decide)


theorem a_52 (l : Launch) {Z : State} {a0 : Array Value} (hw : HW1 Z a0) (n0 : Nat)  : Met l Z KT n0 y6 b6 3 (some (.array .long)) ({ frames := 1, cells := 1, slots := 1, locals := 12 } : Room) #[(.int (2 : Int32))] [.inl (0, [(.int (66 : Int32)), (.ref (n0 + 1)), (.ref (n0 + 2)), (.ref (n0 + 3)), .null]), .inr (.long, [(.long (0 : Int64)), (.long (0 : Int64))]), .inr (.long, [(.long (0 : Int64))]), .inr (.long, [(.long (-1 : Int64)), (.long (3 : Int64))])] (Is (some (.ref (n0 + 4))) [.inl (0, [(.int (66 : Int32)), (.ref (n0 + 1)), (.ref (n0 + 2)), (.ref (n0 + 3)), .null]), .inr (.long, [(.long (0 : Int64)), (.long (0 : Int64))]), .inr (.long, [(.long (0 : Int64))]), .inr (.long, [(.long (-1 : Int64)), (.long (3 : Int64))]), .inr (.long, [(.long (3 : Int64))])]) := by
  refine Met.of (a0 := a0) (ls := #[.val (.int (2 : Int32)), .unset, .unset]) (kok hw) (plainFor_of_name pn_7) (fun m => by first | (simp [entryFrame, mkF, argsToLocals, Value.category]; done) | rfl) (fun G H => ?_)
  refine H.iloadN s6_0 rfl ?_
  refine H.callSD s6_1 (k_18 hw) (a_53 l hw n0) (argsL := [(.int (2 : Int32))]) (rest := []) rfl rfl rfl rfl (leb rfl) (leb rfl) (leb rfl) (leb rfl) (st' := [(.int (1 : Int32))]) rfl (k' := 0) rfl (n' := 0) rfl ?_
  refine H.newarray s6_4 (ty := .long) rfl (k_19 hw) (N := 1) (cap := 1) (by decide) rfl (by decide) (by decide) (by first | rfl | simp) (by decide) (by decide) (i := 4) rfl (A' := [.inl (0, [(.int (66 : Int32)), (.ref (n0 + 1)), (.ref (n0 + 2)), (.ref (n0 + 3)), .null]), .inr (.long, [(.long (0 : Int64)), (.long (0 : Int64))]), .inr (.long, [(.long (0 : Int64))]), .inr (.long, [(.long (-1 : Int64)), (.long (3 : Int64))]), .inr (.long, [(.long (0 : Int64))])]) rfl (k' := 1) rfl (n' := 1) rfl ?_
  refine H.astoreN s6_6 rfl (ls' := #[.val (.int (2 : Int32)), .val (.ref (n0 + 4)), .unset]) rfl ?_
  refine H.iconst s6_7 (v := (0 : Int32)) (by decide) ?_
  refine H.istoreN s6_8 (ls' := #[.val (.int (2 : Int32)), .val (.ref (n0 + 4)), .val (.int (0 : Int32))]) rfl ?_
  refine H.iloadN s6_9 rfl ?_
  refine H.aloadN s6_10 rfl rfl ?_
  refine H.arraylength s6_11 (i := 4) rfl (z := (1 : Int32)) rfl ?_
  refine H.icmpF s6_12 (show (0 : Int32) < (1 : Int32) by decide) ?_
  refine H.aloadN s6_15 rfl rfl ?_
  refine H.iloadN s6_16 rfl ?_
  refine H.ldc2 s6_17 (k_5 hw) ?_
  refine H.lastore s6_20 (i := 4) (j := 0) rfl (by decide) (ltb rfl)  rfl ?_
  refine H.iinc s6_21 rfl (w := (1 : Int32)) (by decide) (ls' := #[.val (.int (2 : Int32)), .val (.ref (n0 + 4)), .val (.int (1 : Int32))]) rfl ?_
  refine H.goto s6_24 ?_
  refine H.iloadN s6_9 rfl ?_
  refine H.aloadN s6_10 rfl rfl ?_
  refine H.arraylength s6_11 (i := 4) rfl (z := (1 : Int32)) rfl ?_
  refine H.icmpT s6_12 (show ¬ (1 : Int32) < (1 : Int32) by decide) ?_
  refine H.iloadN s6_27 rfl ?_
  refine H.bipush s6_28 (v := (64 : Int32)) (by decide) ?_
  refine H.irem s6_30 (by decide) (w := (2 : Int32)) (by decide) ?_
  refine H.ifF s6_31 (show ¬ (2 : Int32) = (0 : Int32) by decide) ?_
  refine H.aloadN s6_34 rfl rfl ?_
  refine H.aloadN s6_35 rfl rfl ?_
  refine H.arraylength s6_36 (i := 4) rfl (z := (1 : Int32)) rfl ?_
  refine H.iconst s6_37 (v := (1 : Int32)) (by decide) ?_
  refine H.isub s6_38 (w := (0 : Int32)) (by decide) ?_
  refine H.lconst s6_39 (v := (1 : Int64)) (by decide) ?_
  refine H.iloadN s6_40 rfl ?_
  refine H.lshl s6_41 (w := (4 : Int64)) (by decide) ?_
  refine H.lconst s6_42 (v := (1 : Int64)) (by decide) ?_
  refine H.lsub s6_43 (w := (3 : Int64)) (by decide) ?_
  refine H.lastore s6_44 (i := 4) (j := 0) rfl (by decide) (ltb rfl)  rfl ?_
  refine H.aloadN s6_45 rfl rfl ?_
  exact H.areturn s6_46 rfl rfl rfl rfl ⟨rfl, rfl⟩ (by decide) (by decide)


theorem a_47 (l : Launch) {Z : State} {a0 : Array Value} (hw : HW1 Z a0) (n0 : Nat)  : Met l Z KT n0 y3 b3 2 none ({ frames := 2, cells := 4, slots := 6, locals := 27 } : Room) #[(.ref (n0 + 0)), (.int (66 : Int32))] [.inl (0, [(.int (0 : Int32)), .null, .null, .null, .null])] (Is none [.inl (0, [(.int (66 : Int32)), (.ref (n0 + 1)), (.ref (n0 + 2)), (.ref (n0 + 3)), (.ref (n0 + 4))]), .inr (.long, [(.long (0 : Int64)), (.long (0 : Int64))]), .inr (.long, [(.long (0 : Int64))]), .inr (.long, [(.long (-1 : Int64)), (.long (3 : Int64))]), .inr (.long, [(.long (3 : Int64))])]) := by
  refine Met.of (a0 := a0) (ls := #[.val (.ref (n0 + 0)), .val (.int (66 : Int32))]) (kok hw) (plainFor_of_name pn_7) (fun m => by first | (simp [entryFrame, mkF, argsToLocals, Value.category]; done) | rfl) (fun G H => ?_)
  refine H.aloadN s3_0 rfl rfl ?_
  refine H.initO s3_1 (k_16 hw) rfl (leb rfl) (leb rfl) ?_
  refine H.aloadN s3_4 rfl rfl ?_
  refine H.iloadN s3_5 rfl ?_
  refine H.putfield s3_6 (k_17 hw) (i := 0) rfl rfl rfl rfl ?_
  refine H.aloadN s3_9 rfl rfl ?_
  refine H.iloadN s3_10 rfl ?_
  refine H.callSD s3_11 (k_18 hw) (a_48 l hw n0) (argsL := [(.int (66 : Int32))]) (rest := [(.ref (n0 + 0))]) rfl rfl rfl rfl (leb rfl) (leb rfl) (leb rfl) (leb rfl) (st' := [(.int (2 : Int32)), (.ref (n0 + 0))]) rfl (k' := 0) rfl (n' := 0) rfl ?_
  refine H.newarray s3_14 (ty := .long) rfl (k_19 hw) (N := 2) (cap := 2) (by decide) rfl (by decide) (by decide) (by first | rfl | simp) (by decide) (by decide) (i := 1) rfl (A' := [.inl (0, [(.int (66 : Int32)), .null, .null, .null, .null]), .inr (.long, [(.long (0 : Int64)), (.long (0 : Int64))])]) rfl (k' := 1) rfl (n' := 2) rfl ?_
  refine H.putfield s3_16 (k_20 hw) (i := 0) rfl rfl rfl rfl ?_
  refine H.aloadN s3_19 rfl rfl ?_
  refine H.aloadN s3_20 rfl rfl ?_
  refine H.getfield s3_21 (k_4 hw) (i := 0) rfl rfl ?_
  refine H.arraylength s3_24 (i := 1) rfl (z := (2 : Int32)) rfl ?_
  refine H.callSD s3_25 (k_18 hw) (a_49 l hw n0) (argsL := [(.int (2 : Int32))]) (rest := [(.ref (n0 + 0))]) rfl rfl rfl rfl (leb rfl) (leb rfl) (leb rfl) (leb rfl) (st' := [(.int (1 : Int32)), (.ref (n0 + 0))]) rfl (k' := 1) rfl (n' := 2) rfl ?_
  refine H.newarray s3_28 (ty := .long) rfl (k_19 hw) (N := 1) (cap := 1) (by decide) rfl (by decide) (by decide) (by first | rfl | simp) (by decide) (by decide) (i := 2) rfl (A' := [.inl (0, [(.int (66 : Int32)), (.ref (n0 + 1)), .null, .null, .null]), .inr (.long, [(.long (0 : Int64)), (.long (0 : Int64))]), .inr (.long, [(.long (0 : Int64))])]) rfl (k' := 2) rfl (n' := 3) rfl ?_
  refine H.putfield s3_30 (k_21 hw) (i := 0) rfl rfl rfl rfl ?_
  refine H.aloadN s3_33 rfl rfl ?_
  refine H.iloadN s3_34 rfl ?_
  refine H.callSD s3_35 (k_22 hw) (a_50 l hw n0) (argsL := [(.int (66 : Int32))]) (rest := [(.ref (n0 + 0))]) rfl rfl rfl rfl (leb rfl) (leb rfl) (leb rfl) (leb rfl) (st' := [(.ref (n0 + 3)), (.ref (n0 + 0))]) rfl (k' := 3) rfl (n' := 5) rfl ?_
  refine H.putfield s3_38 (k_23 hw) (i := 0) rfl rfl rfl rfl ?_
  refine H.aloadN s3_41 rfl rfl ?_
  refine H.aloadN s3_42 rfl rfl ?_
  refine H.getfield s3_43 (k_4 hw) (i := 0) rfl rfl ?_
  refine H.arraylength s3_46 (i := 1) rfl (z := (2 : Int32)) rfl ?_
  refine H.callSD s3_47 (k_22 hw) (a_52 l hw n0) (argsL := [(.int (2 : Int32))]) (rest := [(.ref (n0 + 0))]) rfl rfl rfl rfl (leb rfl) (leb rfl) (leb rfl) (leb rfl) (st' := [(.ref (n0 + 4)), (.ref (n0 + 0))]) rfl (k' := 4) rfl (n' := 6) rfl ?_
  refine H.putfield s3_50 (k_24 hw) (i := 0) rfl rfl rfl rfl ?_
  exact H.vreturn s3_53 rfl ⟨rfl, rfl⟩ (by decide) (by decide)


theorem a_54 (l : Launch) {Z : State} {a0 : Array Value} (hw : HW1 Z a0) (n0 : Nat)  : Met l Z KT n0 y7 b7 1 none ({ frames := 1, cells := 0, slots := 0, locals := 18 } : Room) #[(.ref (n0 + 0))] [.inl (0, [(.int (66 : Int32)), (.ref (n0 + 1)), (.ref (n0 + 2)), (.ref (n0 + 3)), (.ref (n0 + 4))]), .inr (.long, [(.long (0 : Int64)), (.long (0 : Int64))]), .inr (.long, [(.long (0 : Int64))]), .inr (.long, [(.long (-1 : Int64)), (.long (3 : Int64))]), .inr (.long, [(.long (3 : Int64))])] (Is none [.inl (0, [(.int (66 : Int32)), (.ref (n0 + 1)), (.ref (n0 + 2)), (.ref (n0 + 3)), (.ref (n0 + 4))]), .inr (.long, [(.long (-1 : Int64)), (.long (3 : Int64))]), .inr (.long, [(.long (3 : Int64))]), .inr (.long, [(.long (-1 : Int64)), (.long (3 : Int64))]), .inr (.long, [(.long (3 : Int64))])]) := by
  refine Met.of (a0 := a0) (ls := #[.val (.ref (n0 + 0))]) (kok hw) (plainFor_of_name pn_7) (fun m => by first | (simp [entryFrame, mkF, argsToLocals, Value.category]; done) | rfl) (fun G H => ?_)
  refine H.aloadN s7_0 rfl rfl ?_
  refine H.getfield s7_1 (k_26 hw) (i := 0) rfl rfl ?_
  refine H.iconst s7_4 (v := (0 : Int32)) (by decide) ?_
  refine H.aloadN s7_5 rfl rfl ?_
  refine H.getfield s7_6 (k_4 hw) (i := 0) rfl rfl ?_
  refine H.iconst s7_9 (v := (0 : Int32)) (by decide) ?_
  refine H.aloadN s7_10 rfl rfl ?_
  refine H.getfield s7_11 (k_4 hw) (i := 0) rfl rfl ?_
  refine H.arraylength s7_14 (i := 1) rfl (z := (2 : Int32)) rfl ?_
  refine H.arraycopy s7_15 (k_27 hw) (i := 3) (j := 1) rfl rfl rfl (p := 0) (q := 0) (r := 2) (by decide) (by decide) (by decide) (leb rfl) (leb rfl) (leb rfl) (leb rfl) (us := [(.long (-1 : Int64)), (.long (3 : Int64))]) rfl rfl (leb rfl) (leb rfl) (by first | rfl | simp) (A' := [.inl (0, [(.int (66 : Int32)), (.ref (n0 + 1)), (.ref (n0 + 2)), (.ref (n0 + 3)), (.ref (n0 + 4))]), .inr (.long, [(.long (-1 : Int64)), (.long (3 : Int64))]), .inr (.long, [(.long (0 : Int64))]), .inr (.long, [(.long (-1 : Int64)), (.long (3 : Int64))]), .inr (.long, [(.long (3 : Int64))])]) rfl ?_
  refine H.aloadN s7_18 rfl rfl ?_
  refine H.getfield s7_19 (k_28 hw) (i := 0) rfl rfl ?_
  refine H.iconst s7_22 (v := (0 : Int32)) (by decide) ?_
  refine H.aloadN s7_23 rfl rfl ?_
  refine H.getfield s7_24 (k_6 hw) (i := 0) rfl rfl ?_
  refine H.iconst s7_27 (v := (0 : Int32)) (by decide) ?_
  refine H.aloadN s7_28 rfl rfl ?_
  refine H.getfield s7_29 (k_6 hw) (i := 0) rfl rfl ?_
  refine H.arraylength s7_32 (i := 2) rfl (z := (1 : Int32)) rfl ?_
  refine H.arraycopy s7_33 (k_27 hw) (i := 4) (j := 2) rfl rfl rfl (p := 0) (q := 0) (r := 1) (by decide) (by decide) (by decide) (leb rfl) (leb rfl) (leb rfl) (leb rfl) (us := [(.long (3 : Int64))]) rfl rfl (leb rfl) (leb rfl) (by first | rfl | simp) (A' := [.inl (0, [(.int (66 : Int32)), (.ref (n0 + 1)), (.ref (n0 + 2)), (.ref (n0 + 3)), (.ref (n0 + 4))]), .inr (.long, [(.long (-1 : Int64)), (.long (3 : Int64))]), .inr (.long, [(.long (3 : Int64))]), .inr (.long, [(.long (-1 : Int64)), (.long (3 : Int64))]), .inr (.long, [(.long (3 : Int64))])]) rfl ?_
  exact H.vreturn s7_36 rfl ⟨rfl, rfl⟩ (by decide) (by decide)


theorem a_55 (l : Launch) {Z : State} {a0 : Array Value} (hw : HW1 Z a0) (n0 : Nat)  : Met l Z KT n0 y1 b1 2 (some .int) ({ frames := 0, cells := 0, slots := 0, locals := 0 } : Room) #[(.int (1 : Int32)), (.int (67 : Int32))] [] (Is (some (.int (67 : Int32))) []) := by
  refine Met.of (a0 := a0) (ls := #[.val (.int (1 : Int32)), .val (.int (67 : Int32))]) (kok hw) (Jvm.Free.JP.mathPlain rfl (by decide +kernel)) (fun m => by first | (simp [entryFrame, mkF, argsToLocals, Value.category]; done) | rfl) (fun G H => ?_)
  refine H.iloadN s1_0 rfl ?_
  refine H.iloadN s1_1 rfl ?_
  refine H.icmpT s1_2 (show (1 : Int32) < (67 : Int32) by decide) ?_
  refine H.iloadN s1_9 rfl ?_
  exact H.ireturn s1_10 rfl (by simp) rfl ⟨rfl, rfl⟩ (by decide) (by decide)


theorem a_57 (l : Launch) {Z : State} {a0 : Array Value} (hw : HW1 Z a0) (n0 : Nat)  : Met l Z KT n0 y5 b5 1 (some .int) ({ frames := 0, cells := 0, slots := 0, locals := 0 } : Room) #[(.int (67 : Int32))] [.inl (0, [(.int (67 : Int32)), .null, .null, .null, .null])] (Is (some (.int (2 : Int32))) [.inl (0, [(.int (67 : Int32)), .null, .null, .null, .null])]) := by
  refine Met.of (a0 := a0) (ls := #[.val (.int (67 : Int32))]) (kok hw) (plainFor_of_name pn_7) (fun m => by first | (simp [entryFrame, mkF, argsToLocals, Value.category]; done) | rfl) (fun G H => ?_)
  refine H.iloadN s5_0 rfl ?_
  refine H.bipush s5_1 (v := (63 : Int32)) (by decide) ?_
  refine H.iadd s5_3 (w := (130 : Int32)) (by decide) ?_
  refine H.bipush s5_4 (v := (6 : Int32)) (by decide) ?_
  refine H.iushr s5_6 (w := (2 : Int32)) (by decide) ?_
  exact H.ireturn s5_7 rfl (by simp) rfl ⟨rfl, rfl⟩ (by decide) (by decide)


theorem a_58 (l : Launch) {Z : State} {a0 : Array Value} (hw : HW1 Z a0) (n0 : Nat)  : Met l Z KT n0 y5 b5 1 (some .int) ({ frames := 0, cells := 0, slots := 0, locals := 0 } : Room) #[(.int (2 : Int32))] [.inl (0, [(.int (67 : Int32)), (.ref (n0 + 1)), .null, .null, .null]), .inr (.long, [(.long (0 : Int64)), (.long (0 : Int64))])] (Is (some (.int (1 : Int32))) [.inl (0, [(.int (67 : Int32)), (.ref (n0 + 1)), .null, .null, .null]), .inr (.long, [(.long (0 : Int64)), (.long (0 : Int64))])]) := by
  refine Met.of (a0 := a0) (ls := #[.val (.int (2 : Int32))]) (kok hw) (plainFor_of_name pn_7) (fun m => by first | (simp [entryFrame, mkF, argsToLocals, Value.category]; done) | rfl) (fun G H => ?_)
  refine H.iloadN s5_0 rfl ?_
  refine H.bipush s5_1 (v := (63 : Int32)) (by decide) ?_
  refine H.iadd s5_3 (w := (65 : Int32)) (by decide) ?_
  refine H.bipush s5_4 (v := (6 : Int32)) (by decide) ?_
  refine H.iushr s5_6 (w := (1 : Int32)) (by decide) ?_
  exact H.ireturn s5_7 rfl (by simp) rfl ⟨rfl, rfl⟩ (by decide) (by decide)


theorem a_60 (l : Launch) {Z : State} {a0 : Array Value} (hw : HW1 Z a0) (n0 : Nat)  : Met l Z KT n0 y5 b5 1 (some .int) ({ frames := 0, cells := 0, slots := 0, locals := 0 } : Room) #[(.int (67 : Int32))] [.inl (0, [(.int (67 : Int32)), (.ref (n0 + 1)), (.ref (n0 + 2)), .null, .null]), .inr (.long, [(.long (0 : Int64)), (.long (0 : Int64))]), .inr (.long, [(.long (0 : Int64))])] (Is (some (.int (2 : Int32))) [.inl (0, [(.int (67 : Int32)), (.ref (n0 + 1)), (.ref (n0 + 2)), .null, .null]), .inr (.long, [(.long (0 : Int64)), (.long (0 : Int64))]), .inr (.long, [(.long (0 : Int64))])]) := by
  refine Met.of (a0 := a0) (ls := #[.val (.int (67 : Int32))]) (kok hw) (plainFor_of_name pn_7) (fun m => by first | (simp [entryFrame, mkF, argsToLocals, Value.category]; done) | rfl) (fun G H => ?_)
  refine H.iloadN s5_0 rfl ?_
  refine H.bipush s5_1 (v := (63 : Int32)) (by decide) ?_
  refine H.iadd s5_3 (w := (130 : Int32)) (by decide) ?_
  refine H.bipush s5_4 (v := (6 : Int32)) (by decide) ?_
  refine H.iushr s5_6 (w := (2 : Int32)) (by decide) ?_
  exact H.ireturn s5_7 rfl (by simp) rfl ⟨rfl, rfl⟩ (by decide) (by decide)


theorem a_59 (l : Launch) {Z : State} {a0 : Array Value} (hw : HW1 Z a0) (n0 : Nat)  : Met l Z KT n0 y6 b6 3 (some (.array .long)) ({ frames := 1, cells := 1, slots := 2, locals := 12 } : Room) #[(.int (67 : Int32))] [.inl (0, [(.int (67 : Int32)), (.ref (n0 + 1)), (.ref (n0 + 2)), .null, .null]), .inr (.long, [(.long (0 : Int64)), (.long (0 : Int64))]), .inr (.long, [(.long (0 : Int64))])] (Is (some (.ref (n0 + 3))) [.inl (0, [(.int (67 : Int32)), (.ref (n0 + 1)), (.ref (n0 + 2)), .null, .null]), .inr (.long, [(.long (0 : Int64)), (.long (0 : Int64))]), .inr (.long, [(.long (0 : Int64))]), .inr (.long, [(.long (-1 : Int64)), (.long (7 : Int64))])]) := by
  refine Met.of (a0 := a0) (ls := #[.val (.int (67 : Int32)), .unset, .unset]) (kok hw) (plainFor_of_name pn_7) (fun m => by first | (simp [entryFrame, mkF, argsToLocals, Value.category]; done) | rfl) (fun G H => ?_)
  refine H.iloadN s6_0 rfl ?_
  refine H.callSD s6_1 (k_18 hw) (a_60 l hw n0) (argsL := [(.int (67 : Int32))]) (rest := []) rfl rfl rfl rfl (leb rfl) (leb rfl) (leb rfl) (leb rfl) (st' := [(.int (2 : Int32))]) rfl (k' := 0) rfl (n' := 0) rfl ?_
  refine H.newarray s6_4 (ty := .long) rfl (k_19 hw) (N := 2) (cap := 2) (by decide) rfl (by decide) (by decide) (by first | rfl | simp) (by decide) (by decide) (i := 3) rfl (A' := [.inl (0, [(.int (67 : Int32)), (.ref (n0 + 1)), (.ref (n0 + 2)), .null, .null]), .inr (.long, [(.long (0 : Int64)), (.long (0 : Int64))]), .inr (.long, [(.long (0 : Int64))]), .inr (.long, [(.long (0 : Int64)), (.long (0 : Int64))])]) rfl (k' := 1) rfl (n' := 2) rfl ?_
  refine H.astoreN s6_6 rfl (ls' := #[.val (.int (67 : Int32)), .val (.ref (n0 + 3)), .unset]) rfl ?_
  refine H.iconst s6_7 (v := (0 : Int32)) (by decide) ?_
  refine H.istoreN s6_8 (ls' := #[.val (.int (67 : Int32)), .val (.ref (n0 + 3)), .val (.int (0 : Int32))]) rfl ?_
  refine H.iloadN s6_9 rfl ?_
  refine H.aloadN s6_10 rfl rfl ?_
  refine H.arraylength s6_11 (i := 3) rfl (z := (2 : Int32)) rfl ?_
  refine H.icmpF s6_12 (show (0 : Int32) < (2 : Int32) by decide) ?_
  refine H.aloadN s6_15 rfl rfl ?_
  refine H.iloadN s6_16 rfl ?_
  refine H.ldc2 s6_17 (k_5 hw) ?_
  refine H.lastore s6_20 (i := 3) (j := 0) rfl (by decide) (ltb rfl)  rfl ?_
  refine H.iinc s6_21 rfl (w := (1 : Int32)) (by decide) (ls' := #[.val (.int (67 : Int32)), .val (.ref (n0 + 3)), .val (.int (1 : Int32))]) rfl ?_
  refine H.goto s6_24 ?_
  refine H.iloadN s6_9 rfl ?_
  refine H.aloadN s6_10 rfl rfl ?_
  refine H.arraylength s6_11 (i := 3) rfl (z := (2 : Int32)) rfl ?_
  refine H.icmpF s6_12 (show (1 : Int32) < (2 : Int32) by decide) ?_
  refine H.aloadN s6_15 rfl rfl ?_
  refine H.iloadN s6_16 rfl ?_
  refine H.ldc2 s6_17 (k_5 hw) ?_
  refine H.lastore s6_20 (i := 3) (j := 1) rfl (by decide) (ltb rfl)  rfl ?_
  refine H.iinc s6_21 rfl (w := (2 : Int32)) (by decide) (ls' := #[.val (.int (67 : Int32)), .val (.ref (n0 + 3)), .val (.int (2 : Int32))]) rfl ?_
  refine H.goto s6_24 ?_
  refine H.iloadN s6_9 rfl ?_
  refine H.aloadN s6_10 rfl rfl ?_
  refine H.arraylength s6_11 (i := 3) rfl (z := (2 : Int32)) rfl ?_
  refine H.icmpT s6_12 (show ¬ (2 : Int32) < (2 : Int32) by decide) ?_
  refine H.iloadN s6_27 rfl ?_
  refine H.bipush s6_28 (v := (64 : Int32)) (by decide) ?_
  refine H.irem s6_30 (by decide) (w := (3 : Int32)) (by decide) ?_
  refine H.ifF s6_31 (show ¬ (3 : Int32) = (0 : Int32) by decide) ?_
  refine H.aloadN s6_34 rfl rfl ?_
  refine H.aloadN s6_35 rfl rfl ?_
  refine H.arraylength s6_36 (i := 3) rfl (z := (2 : Int32)) rfl ?_
  refine H.iconst s6_37 (v := (1 : Int32)) (by decide) ?_
  refine H.isub s6_38 (w := (1 : Int32)) (by decide) ?_
  refine H.lconst s6_39 (v := (1 : Int64)) (by decide) ?_
  refine H.iloadN s6_40 rfl ?_
  refine H.lshl s6_41 (w := (8 : Int64)) (by decide) ?_
  refine H.lconst s6_42 (v := (1 : Int64)) (by decide) ?_
  refine H.lsub s6_43 (w := (7 : Int64)) (by decide) ?_
  refine H.lastore s6_44 (i := 3) (j := 1) rfl (by decide) (ltb rfl)  rfl ?_
  refine H.aloadN s6_45 rfl rfl ?_
  exact H.areturn s6_46 rfl rfl rfl rfl ⟨rfl, rfl⟩ (by decide) (by decide)


theorem a_62 (l : Launch) {Z : State} {a0 : Array Value} (hw : HW1 Z a0) (n0 : Nat)  : Met l Z KT n0 y5 b5 1 (some .int) ({ frames := 0, cells := 0, slots := 0, locals := 0 } : Room) #[(.int (2 : Int32))] [.inl (0, [(.int (67 : Int32)), (.ref (n0 + 1)), (.ref (n0 + 2)), (.ref (n0 + 3)), .null]), .inr (.long, [(.long (0 : Int64)), (.long (0 : Int64))]), .inr (.long, [(.long (0 : Int64))]), .inr (.long, [(.long (-1 : Int64)), (.long (7 : Int64))])] (Is (some (.int (1 : Int32))) [.inl (0, [(.int (67 : Int32)), (.ref (n0 + 1)), (.ref (n0 + 2)), (.ref (n0 + 3)), .null]), .inr (.long, [(.long (0 : Int64)), (.long (0 : Int64))]), .inr (.long, [(.long (0 : Int64))]), .inr (.long, [(.long (-1 : Int64)), (.long (7 : Int64))])]) := by
  refine Met.of (a0 := a0) (ls := #[.val (.int (2 : Int32))]) (kok hw) (plainFor_of_name pn_7) (fun m => by first | (simp [entryFrame, mkF, argsToLocals, Value.category]; done) | rfl) (fun G H => ?_)
  refine H.iloadN s5_0 rfl ?_
  refine H.bipush s5_1 (v := (63 : Int32)) (by decide) ?_
  refine H.iadd s5_3 (w := (65 : Int32)) (by decide) ?_
  refine H.bipush s5_4 (v := (6 : Int32)) (by decide) ?_
  refine H.iushr s5_6 (w := (1 : Int32)) (by decide) ?_
  exact H.ireturn s5_7 rfl (by simp) rfl ⟨rfl, rfl⟩ (by decide) (by decide)


theorem a_61 (l : Launch) {Z : State} {a0 : Array Value} (hw : HW1 Z a0) (n0 : Nat)  : Met l Z KT n0 y6 b6 3 (some (.array .long)) ({ frames := 1, cells := 1, slots := 1, locals := 12 } : Room) #[(.int (2 : Int32))] [.inl (0, [(.int (67 : Int32)), (.ref (n0 + 1)), (.ref (n0 + 2)), (.ref (n0 + 3)), .null]), .inr (.long, [(.long (0 : Int64)), (.long (0 : Int64))]), .inr (.long, [(.long (0 : Int64))]), .inr (.long, [(.long (-1 : Int64)), (.long (7 : Int64))])] (Is (some (.ref (n0 + 4))) [.inl (0, [(.int (67 : Int32)), (.ref (n0 + 1)), (.ref (n0 + 2)), (.ref (n0 + 3)), .null]), .inr (.long, [(.long (0 : Int64)), (.long (0 : Int64))]), .inr (.long, [(.long (0 : Int64))]), .inr (.long, [(.long (-1 : Int64)), (.long (7 : Int64))]), .inr (.long, [(.long (3 : Int64))])]) := by
  refine Met.of (a0 := a0) (ls := #[.val (.int (2 : Int32)), .unset, .unset]) (kok hw) (plainFor_of_name pn_7) (fun m => by first | (simp [entryFrame, mkF, argsToLocals, Value.category]; done) | rfl) (fun G H => ?_)
  refine H.iloadN s6_0 rfl ?_
  refine H.callSD s6_1 (k_18 hw) (a_62 l hw n0) (argsL := [(.int (2 : Int32))]) (rest := []) rfl rfl rfl rfl (leb rfl) (leb rfl) (leb rfl) (leb rfl) (st' := [(.int (1 : Int32))]) rfl (k' := 0) rfl (n' := 0) rfl ?_
  refine H.newarray s6_4 (ty := .long) rfl (k_19 hw) (N := 1) (cap := 1) (by decide) rfl (by decide) (by decide) (by first | rfl | simp) (by decide) (by decide) (i := 4) rfl (A' := [.inl (0, [(.int (67 : Int32)), (.ref (n0 + 1)), (.ref (n0 + 2)), (.ref (n0 + 3)), .null]), .inr (.long, [(.long (0 : Int64)), (.long (0 : Int64))]), .inr (.long, [(.long (0 : Int64))]), .inr (.long, [(.long (-1 : Int64)), (.long (7 : Int64))]), .inr (.long, [(.long (0 : Int64))])]) rfl (k' := 1) rfl (n' := 1) rfl ?_
  refine H.astoreN s6_6 rfl (ls' := #[.val (.int (2 : Int32)), .val (.ref (n0 + 4)), .unset]) rfl ?_
  refine H.iconst s6_7 (v := (0 : Int32)) (by decide) ?_
  refine H.istoreN s6_8 (ls' := #[.val (.int (2 : Int32)), .val (.ref (n0 + 4)), .val (.int (0 : Int32))]) rfl ?_
  refine H.iloadN s6_9 rfl ?_
  refine H.aloadN s6_10 rfl rfl ?_
  refine H.arraylength s6_11 (i := 4) rfl (z := (1 : Int32)) rfl ?_
  refine H.icmpF s6_12 (show (0 : Int32) < (1 : Int32) by decide) ?_
  refine H.aloadN s6_15 rfl rfl ?_
  refine H.iloadN s6_16 rfl ?_
  refine H.ldc2 s6_17 (k_5 hw) ?_
  refine H.lastore s6_20 (i := 4) (j := 0) rfl (by decide) (ltb rfl)  rfl ?_
  refine H.iinc s6_21 rfl (w := (1 : Int32)) (by decide) (ls' := #[.val (.int (2 : Int32)), .val (.ref (n0 + 4)), .val (.int (1 : Int32))]) rfl ?_
  refine H.goto s6_24 ?_
  refine H.iloadN s6_9 rfl ?_
  refine H.aloadN s6_10 rfl rfl ?_
  refine H.arraylength s6_11 (i := 4) rfl (z := (1 : Int32)) rfl ?_
  refine H.icmpT s6_12 (show ¬ (1 : Int32) < (1 : Int32) by decide) ?_
  refine H.iloadN s6_27 rfl ?_
  refine H.bipush s6_28 (v := (64 : Int32)) (by decide) ?_
  refine H.irem s6_30 (by decide) (w := (2 : Int32)) (by decide) ?_
  refine H.ifF s6_31 (show ¬ (2 : Int32) = (0 : Int32) by decide) ?_
  refine H.aloadN s6_34 rfl rfl ?_
  refine H.aloadN s6_35 rfl rfl ?_
  refine H.arraylength s6_36 (i := 4) rfl (z := (1 : Int32)) rfl ?_
  refine H.iconst s6_37 (v := (1 : Int32)) (by decide) ?_
  refine H.isub s6_38 (w := (0 : Int32)) (by decide) ?_
  refine H.lconst s6_39 (v := (1 : Int64)) (by decide) ?_
  refine H.iloadN s6_40 rfl ?_
  refine H.lshl s6_41 (w := (4 : Int64)) (by decide) ?_
  refine H.lconst s6_42 (v := (1 : Int64)) (by decide) ?_
  refine H.lsub s6_43 (w := (3 : Int64)) (by decide) ?_
  refine H.lastore s6_44 (i := 4) (j := 0) rfl (by decide) (ltb rfl)  rfl ?_
  refine H.aloadN s6_45 rfl rfl ?_
  exact H.areturn s6_46 rfl rfl rfl rfl ⟨rfl, rfl⟩ (by decide) (by decide)


theorem a_56 (l : Launch) {Z : State} {a0 : Array Value} (hw : HW1 Z a0) (n0 : Nat)  : Met l Z KT n0 y3 b3 2 none ({ frames := 2, cells := 4, slots := 6, locals := 27 } : Room) #[(.ref (n0 + 0)), (.int (67 : Int32))] [.inl (0, [(.int (0 : Int32)), .null, .null, .null, .null])] (Is none [.inl (0, [(.int (67 : Int32)), (.ref (n0 + 1)), (.ref (n0 + 2)), (.ref (n0 + 3)), (.ref (n0 + 4))]), .inr (.long, [(.long (0 : Int64)), (.long (0 : Int64))]), .inr (.long, [(.long (0 : Int64))]), .inr (.long, [(.long (-1 : Int64)), (.long (7 : Int64))]), .inr (.long, [(.long (3 : Int64))])]) := by
  refine Met.of (a0 := a0) (ls := #[.val (.ref (n0 + 0)), .val (.int (67 : Int32))]) (kok hw) (plainFor_of_name pn_7) (fun m => by first | (simp [entryFrame, mkF, argsToLocals, Value.category]; done) | rfl) (fun G H => ?_)
  refine H.aloadN s3_0 rfl rfl ?_
  refine H.initO s3_1 (k_16 hw) rfl (leb rfl) (leb rfl) ?_
  refine H.aloadN s3_4 rfl rfl ?_
  refine H.iloadN s3_5 rfl ?_
  refine H.putfield s3_6 (k_17 hw) (i := 0) rfl rfl rfl rfl ?_
  refine H.aloadN s3_9 rfl rfl ?_
  refine H.iloadN s3_10 rfl ?_
  refine H.callSD s3_11 (k_18 hw) (a_57 l hw n0) (argsL := [(.int (67 : Int32))]) (rest := [(.ref (n0 + 0))]) rfl rfl rfl rfl (leb rfl) (leb rfl) (leb rfl) (leb rfl) (st' := [(.int (2 : Int32)), (.ref (n0 + 0))]) rfl (k' := 0) rfl (n' := 0) rfl ?_
  refine H.newarray s3_14 (ty := .long) rfl (k_19 hw) (N := 2) (cap := 2) (by decide) rfl (by decide) (by decide) (by first | rfl | simp) (by decide) (by decide) (i := 1) rfl (A' := [.inl (0, [(.int (67 : Int32)), .null, .null, .null, .null]), .inr (.long, [(.long (0 : Int64)), (.long (0 : Int64))])]) rfl (k' := 1) rfl (n' := 2) rfl ?_
  refine H.putfield s3_16 (k_20 hw) (i := 0) rfl rfl rfl rfl ?_
  refine H.aloadN s3_19 rfl rfl ?_
  refine H.aloadN s3_20 rfl rfl ?_
  refine H.getfield s3_21 (k_4 hw) (i := 0) rfl rfl ?_
  refine H.arraylength s3_24 (i := 1) rfl (z := (2 : Int32)) rfl ?_
  refine H.callSD s3_25 (k_18 hw) (a_58 l hw n0) (argsL := [(.int (2 : Int32))]) (rest := [(.ref (n0 + 0))]) rfl rfl rfl rfl (leb rfl) (leb rfl) (leb rfl) (leb rfl) (st' := [(.int (1 : Int32)), (.ref (n0 + 0))]) rfl (k' := 1) rfl (n' := 2) rfl ?_
  refine H.newarray s3_28 (ty := .long) rfl (k_19 hw) (N := 1) (cap := 1) (by decide) rfl (by decide) (by decide) (by first | rfl | simp) (by decide) (by decide) (i := 2) rfl (A' := [.inl (0, [(.int (67 : Int32)), (.ref (n0 + 1)), .null, .null, .null]), .inr (.long, [(.long (0 : Int64)), (.long (0 : Int64))]), .inr (.long, [(.long (0 : Int64))])]) rfl (k' := 2) rfl (n' := 3) rfl ?_
  refine H.putfield s3_30 (k_21 hw) (i := 0) rfl rfl rfl rfl ?_
  refine H.aloadN s3_33 rfl rfl ?_
  refine H.iloadN s3_34 rfl ?_
  refine H.callSD s3_35 (k_22 hw) (a_59 l hw n0) (argsL := [(.int (67 : Int32))]) (rest := [(.ref (n0 + 0))]) rfl rfl rfl rfl (leb rfl) (leb rfl) (leb rfl) (leb rfl) (st' := [(.ref (n0 + 3)), (.ref (n0 + 0))]) rfl (k' := 3) rfl (n' := 5) rfl ?_
  refine H.putfield s3_38 (k_23 hw) (i := 0) rfl rfl rfl rfl ?_
  refine H.aloadN s3_41 rfl rfl ?_
  refine H.aloadN s3_42 rfl rfl ?_
  refine H.getfield s3_43 (k_4 hw) (i := 0) rfl rfl ?_
  refine H.arraylength s3_46 (i := 1) rfl (z := (2 : Int32)) rfl ?_
  refine H.callSD s3_47 (k_22 hw) (a_61 l hw n0) (argsL := [(.int (2 : Int32))]) (rest := [(.ref (n0 + 0))]) rfl rfl rfl rfl (leb rfl) (leb rfl) (leb rfl) (leb rfl) (st' := [(.ref (n0 + 4)), (.ref (n0 + 0))]) rfl (k' := 4) rfl (n' := 6) rfl ?_
  refine H.putfield s3_50 (k_24 hw) (i := 0) rfl rfl rfl rfl ?_
  exact H.vreturn s3_53 rfl ⟨rfl, rfl⟩ (by decide) (by decide)


theorem a_63 (l : Launch) {Z : State} {a0 : Array Value} (hw : HW1 Z a0) (n0 : Nat)  : Met l Z KT n0 y7 b7 1 none ({ frames := 1, cells := 0, slots := 0, locals := 18 } : Room) #[(.ref (n0 + 0))] [.inl (0, [(.int (67 : Int32)), (.ref (n0 + 1)), (.ref (n0 + 2)), (.ref (n0 + 3)), (.ref (n0 + 4))]), .inr (.long, [(.long (0 : Int64)), (.long (0 : Int64))]), .inr (.long, [(.long (0 : Int64))]), .inr (.long, [(.long (-1 : Int64)), (.long (7 : Int64))]), .inr (.long, [(.long (3 : Int64))])] (Is none [.inl (0, [(.int (67 : Int32)), (.ref (n0 + 1)), (.ref (n0 + 2)), (.ref (n0 + 3)), (.ref (n0 + 4))]), .inr (.long, [(.long (-1 : Int64)), (.long (7 : Int64))]), .inr (.long, [(.long (3 : Int64))]), .inr (.long, [(.long (-1 : Int64)), (.long (7 : Int64))]), .inr (.long, [(.long (3 : Int64))])]) := by
  refine Met.of (a0 := a0) (ls := #[.val (.ref (n0 + 0))]) (kok hw) (plainFor_of_name pn_7) (fun m => by first | (simp [entryFrame, mkF, argsToLocals, Value.category]; done) | rfl) (fun G H => ?_)
  refine H.aloadN s7_0 rfl rfl ?_
  refine H.getfield s7_1 (k_26 hw) (i := 0) rfl rfl ?_
  refine H.iconst s7_4 (v := (0 : Int32)) (by decide) ?_
  refine H.aloadN s7_5 rfl rfl ?_
  refine H.getfield s7_6 (k_4 hw) (i := 0) rfl rfl ?_
  refine H.iconst s7_9 (v := (0 : Int32)) (by decide) ?_
  refine H.aloadN s7_10 rfl rfl ?_
  refine H.getfield s7_11 (k_4 hw) (i := 0) rfl rfl ?_
  refine H.arraylength s7_14 (i := 1) rfl (z := (2 : Int32)) rfl ?_
  refine H.arraycopy s7_15 (k_27 hw) (i := 3) (j := 1) rfl rfl rfl (p := 0) (q := 0) (r := 2) (by decide) (by decide) (by decide) (leb rfl) (leb rfl) (leb rfl) (leb rfl) (us := [(.long (-1 : Int64)), (.long (7 : Int64))]) rfl rfl (leb rfl) (leb rfl) (by first | rfl | simp) (A' := [.inl (0, [(.int (67 : Int32)), (.ref (n0 + 1)), (.ref (n0 + 2)), (.ref (n0 + 3)), (.ref (n0 + 4))]), .inr (.long, [(.long (-1 : Int64)), (.long (7 : Int64))]), .inr (.long, [(.long (0 : Int64))]), .inr (.long, [(.long (-1 : Int64)), (.long (7 : Int64))]), .inr (.long, [(.long (3 : Int64))])]) rfl ?_
  refine H.aloadN s7_18 rfl rfl ?_
  refine H.getfield s7_19 (k_28 hw) (i := 0) rfl rfl ?_
  refine H.iconst s7_22 (v := (0 : Int32)) (by decide) ?_
  refine H.aloadN s7_23 rfl rfl ?_
  refine H.getfield s7_24 (k_6 hw) (i := 0) rfl rfl ?_
  refine H.iconst s7_27 (v := (0 : Int32)) (by decide) ?_
  refine H.aloadN s7_28 rfl rfl ?_
  refine H.getfield s7_29 (k_6 hw) (i := 0) rfl rfl ?_
  refine H.arraylength s7_32 (i := 2) rfl (z := (1 : Int32)) rfl ?_
  refine H.arraycopy s7_33 (k_27 hw) (i := 4) (j := 2) rfl rfl rfl (p := 0) (q := 0) (r := 1) (by decide) (by decide) (by decide) (leb rfl) (leb rfl) (leb rfl) (leb rfl) (us := [(.long (3 : Int64))]) rfl rfl (leb rfl) (leb rfl) (by first | rfl | simp) (A' := [.inl (0, [(.int (67 : Int32)), (.ref (n0 + 1)), (.ref (n0 + 2)), (.ref (n0 + 3)), (.ref (n0 + 4))]), .inr (.long, [(.long (-1 : Int64)), (.long (7 : Int64))]), .inr (.long, [(.long (3 : Int64))]), .inr (.long, [(.long (-1 : Int64)), (.long (7 : Int64))]), .inr (.long, [(.long (3 : Int64))])]) rfl ?_
  exact H.vreturn s7_36 rfl ⟨rfl, rfl⟩ (by decide) (by decide)


theorem a_64 (l : Launch) {Z : State} {a0 : Array Value} (hw : HW1 Z a0) (n0 : Nat)  : Met l Z KT n0 y1 b1 2 (some .int) ({ frames := 0, cells := 0, slots := 0, locals := 0 } : Room) #[(.int (1 : Int32)), (.int (128 : Int32))] [] (Is (some (.int (128 : Int32))) []) := by
  refine Met.of (a0 := a0) (ls := #[.val (.int (1 : Int32)), .val (.int (128 : Int32))]) (kok hw) (Jvm.Free.JP.mathPlain rfl (by decide +kernel)) (fun m => by first | (simp [entryFrame, mkF, argsToLocals, Value.category]; done) | rfl) (fun G H => ?_)
  refine H.iloadN s1_0 rfl ?_
  refine H.iloadN s1_1 rfl ?_
  refine H.icmpT s1_2 (show (1 : Int32) < (128 : Int32) by decide) ?_
  refine H.iloadN s1_9 rfl ?_
  exact H.ireturn s1_10 rfl (by simp) rfl ⟨rfl, rfl⟩ (by decide) (by decide)


theorem a_66 (l : Launch) {Z : State} {a0 : Array Value} (hw : HW1 Z a0) (n0 : Nat)  : Met l Z KT n0 y5 b5 1 (some .int) ({ frames := 0, cells := 0, slots := 0, locals := 0 } : Room) #[(.int (128 : Int32))] [.inl (0, [(.int (128 : Int32)), .null, .null, .null, .null])] (Is (some (.int (2 : Int32))) [.inl (0, [(.int (128 : Int32)), .null, .null, .null, .null])]) := by
  refine Met.of (a0 := a0) (ls := #[.val (.int (128 : Int32))]) (kok hw) (plainFor_of_name pn_7) (fun m => by first | (simp [entryFrame, mkF, argsToLocals, Value.category]; done) | rfl) (fun G H => ?_)
  refine H.iloadN s5_0 rfl ?_
  refine H.bipush s5_1 (v := (63 : Int32)) (by decide) ?_
  refine H.iadd s5_3 (w := (191 : Int32)) (by decide) ?_
  refine H.bipush s5_4 (v := (6 : Int32)) (by decide) ?_
  refine H.iushr s5_6 (w := (2 : Int32)) (by decide) ?_
  exact H.ireturn s5_7 rfl (by simp) rfl ⟨rfl, rfl⟩ (by decide) (by decide)


theorem a_67 (l : Launch) {Z : State} {a0 : Array Value} (hw : HW1 Z a0) (n0 : Nat)  : Met l Z KT n0 y5 b5 1 (some .int) ({ frames := 0, cells := 0, slots := 0, locals := 0 } : Room) #[(.int (2 : Int32))] [.inl (0, [(.int (128 : Int32)), (.ref (n0 + 1)), .null, .null, .null]), .inr (.long, [(.long (0 : Int64)), (.long (0 : Int64))])] (Is (some (.int (1 : Int32))) [.inl (0, [(.int (128 : Int32)), (.ref (n0 + 1)), .null, .null, .null]), .inr (.long, [(.long (0 : Int64)), (.long (0 : Int64))])]) := by
  refine Met.of (a0 := a0) (ls := #[.val (.int (2 : Int32))]) (kok hw) (plainFor_of_name pn_7) (fun m => by first | (simp [entryFrame, mkF, argsToLocals, Value.category]; done) | rfl) (fun G H => ?_)
  refine H.iloadN s5_0 rfl ?_
  refine H.bipush s5_1 (v := (63 : Int32)) (by decide) ?_
  refine H.iadd s5_3 (w := (65 : Int32)) (by decide) ?_
  refine H.bipush s5_4 (v := (6 : Int32)) (by decide) ?_
  refine H.iushr s5_6 (w := (1 : Int32)) (by decide) ?_
  exact H.ireturn s5_7 rfl (by simp) rfl ⟨rfl, rfl⟩ (by decide) (by decide)


theorem a_69 (l : Launch) {Z : State} {a0 : Array Value} (hw : HW1 Z a0) (n0 : Nat)  : Met l Z KT n0 y5 b5 1 (some .int) ({ frames := 0, cells := 0, slots := 0, locals := 0 } : Room) #[(.int (128 : Int32))] [.inl (0, [(.int (128 : Int32)), (.ref (n0 + 1)), (.ref (n0 + 2)), .null, .null]), .inr (.long, [(.long (0 : Int64)), (.long (0 : Int64))]), .inr (.long, [(.long (0 : Int64))])] (Is (some (.int (2 : Int32))) [.inl (0, [(.int (128 : Int32)), (.ref (n0 + 1)), (.ref (n0 + 2)), .null, .null]), .inr (.long, [(.long (0 : Int64)), (.long (0 : Int64))]), .inr (.long, [(.long (0 : Int64))])]) := by
  refine Met.of (a0 := a0) (ls := #[.val (.int (128 : Int32))]) (kok hw) (plainFor_of_name pn_7) (fun m => by first | (simp [entryFrame, mkF, argsToLocals, Value.category]; done) | rfl) (fun G H => ?_)
  refine H.iloadN s5_0 rfl ?_
  refine H.bipush s5_1 (v := (63 : Int32)) (by decide) ?_
  refine H.iadd s5_3 (w := (191 : Int32)) (by decide) ?_
  refine H.bipush s5_4 (v := (6 : Int32)) (by decide) ?_
  refine H.iushr s5_6 (w := (2 : Int32)) (by decide) ?_
  exact H.ireturn s5_7 rfl (by simp) rfl ⟨rfl, rfl⟩ (by decide) (by decide)


theorem a_68 (l : Launch) {Z : State} {a0 : Array Value} (hw : HW1 Z a0) (n0 : Nat)  : Met l Z KT n0 y6 b6 3 (some (.array .long)) ({ frames := 1, cells := 1, slots := 2, locals := 12 } : Room) #[(.int (128 : Int32))] [.inl (0, [(.int (128 : Int32)), (.ref (n0 + 1)), (.ref (n0 + 2)), .null, .null]), .inr (.long, [(.long (0 : Int64)), (.long (0 : Int64))]), .inr (.long, [(.long (0 : Int64))])] (Is (some (.ref (n0 + 3))) [.inl (0, [(.int (128 : Int32)), (.ref (n0 + 1)), (.ref (n0 + 2)), .null, .null]), .inr (.long, [(.long (0 : Int64)), (.long (0 : Int64))]), .inr (.long, [(.long (0 : Int64))]), .inr (.long, [(.long (-1 : Int64)), (.long (-1 : Int64))])]) := by
  refine Met.of (a0 := a0) (ls := #[.val (.int (128 : Int32)), .unset, .unset]) (kok hw) (plainFor_of_name pn_7) (fun m => by first | (simp [entryFrame, mkF, argsToLocals, Value.category]; done) | rfl) (fun G H => ?_)
  refine H.iloadN s6_0 rfl ?_
  refine H.callSD s6_1 (k_18 hw) (a_69 l hw n0) (argsL := [(.int (128 : Int32))]) (rest := []) rfl rfl rfl rfl (leb rfl) (leb rfl) (leb rfl) (leb rfl) (st' := [(.int (2 : Int32))]) rfl (k' := 0) rfl (n' := 0) rfl ?_
  refine H.newarray s6_4 (ty := .long) rfl (k_19 hw) (N := 2) (cap := 2) (by decide) rfl (by decide) (by decide) (by first | rfl | simp) (by decide) (by decide) (i := 3) rfl (A' := [.inl (0, [(.int (128 : Int32)), (.ref (n0 + 1)), (.ref (n0 + 2)), .null, .null]), .inr (.long, [(.long (0 : Int64)), (.long (0 : Int64))]), .inr (.long, [(.long (0 : Int64))]), .inr (.long, [(.long (0 : Int64)), (.long (0 : Int64))])]) rfl (k' := 1) rfl (n' := 2) rfl ?_
  refine H.astoreN s6_6 rfl (ls' := #[.val (.int (128 : Int32)), .val (.ref (n0 + 3)), .unset]) rfl ?_
  refine H.iconst s6_7 (v := (0 : Int32)) (by decide) ?_
  refine H.istoreN s6_8 (ls' := #[.val (.int (128 : Int32)), .val (.ref (n0 + 3)), .val (.int (0 : Int32))]) rfl ?_
  refine H.iloadN s6_9 rfl ?_
  refine H.aloadN s6_10 rfl rfl ?_
  refine H.arraylength s6_11 (i := 3) rfl (z := (2 : Int32)) rfl ?_
  refine H.icmpF s6_12 (show (0 : Int32) < (2 : Int32) by decide) ?_
  refine H.aloadN s6_15 rfl rfl ?_
  refine H.iloadN s6_16 rfl ?_
  refine H.ldc2 s6_17 (k_5 hw) ?_
  refine H.lastore s6_20 (i := 3) (j := 0) rfl (by decide) (ltb rfl)  rfl ?_
  refine H.iinc s6_21 rfl (w := (1 : Int32)) (by decide) (ls' := #[.val (.int (128 : Int32)), .val (.ref (n0 + 3)), .val (.int (1 : Int32))]) rfl ?_
  refine H.goto s6_24 ?_
  refine H.iloadN s6_9 rfl ?_
  refine H.aloadN s6_10 rfl rfl ?_
  refine H.arraylength s6_11 (i := 3) rfl (z := (2 : Int32)) rfl ?_
  refine H.icmpF s6_12 (show (1 : Int32) < (2 : Int32) by decide) ?_
  refine H.aloadN s6_15 rfl rfl ?_
  refine H.iloadN s6_16 rfl ?_
  refine H.ldc2 s6_17 (k_5 hw) ?_
  refine H.lastore s6_20 (i := 3) (j := 1) rfl (by decide) (ltb rfl)  rfl ?_
  refine H.iinc s6_21 rfl (w := (2 : Int32)) (by decide) (ls' := #[.val (.int (128 : Int32)), .val (.ref (n0 + 3)), .val (.int (2 : Int32))]) rfl ?_
  refine H.goto s6_24 ?_
  refine H.iloadN s6_9 rfl ?_
  refine H.aloadN s6_10 rfl rfl ?_
  refine H.arraylength s6_11 (i := 3) rfl (z := (2 : Int32)) rfl ?_
  refine H.icmpT s6_12 (show ¬ (2 : Int32) < (2 : Int32) by decide) ?_
  refine H.iloadN s6_27 rfl ?_
  refine H.bipush s6_28 (v := (64 : Int32)) (by decide) ?_
  refine H.irem s6_30 (by decide) (w := (0 : Int32)) (by decide) ?_
  refine H.ifT s6_31 (show (0 : Int32) = (0 : Int32) by decide) ?_
  refine H.aloadN s6_45 rfl rfl ?_
  exact H.areturn s6_46 rfl rfl rfl rfl ⟨rfl, rfl⟩ (by decide) (by decide)


theorem a_71 (l : Launch) {Z : State} {a0 : Array Value} (hw : HW1 Z a0) (n0 : Nat)  : Met l Z KT n0 y5 b5 1 (some .int) ({ frames := 0, cells := 0, slots := 0, locals := 0 } : Room) #[(.int (2 : Int32))] [.inl (0, [(.int (128 : Int32)), (.ref (n0 + 1)), (.ref (n0 + 2)), (.ref (n0 + 3)), .null]), .inr (.long, [(.long (0 : Int64)), (.long (0 : Int64))]), .inr (.long, [(.long (0 : Int64))]), .inr (.long, [(.long (-1 : Int64)), (.long (-1 : Int64))])] (Is (some (.int (1 : Int32))) [.inl (0, [(.int (128 : Int32)), (.ref (n0 + 1)), (.ref (n0 + 2)), (.ref (n0 + 3)), .null]), .inr (.long, [(.long (0 : Int64)), (.long (0 : Int64))]), .inr (.long, [(.long (0 : Int64))]), .inr (.long, [(.long (-1 : Int64)), (.long (-1 : Int64))])]) := by
  refine Met.of (a0 := a0) (ls := #[.val (.int (2 : Int32))]) (kok hw) (plainFor_of_name pn_7) (fun m => by first | (simp [entryFrame, mkF, argsToLocals, Value.category]; done) | rfl) (fun G H => ?_)
  refine H.iloadN s5_0 rfl ?_
  refine H.bipush s5_1 (v := (63 : Int32)) (by decide) ?_
  refine H.iadd s5_3 (w := (65 : Int32)) (by decide) ?_
  refine H.bipush s5_4 (v := (6 : Int32)) (by decide) ?_
  refine H.iushr s5_6 (w := (1 : Int32)) (by decide) ?_
  exact H.ireturn s5_7 rfl (by simp) rfl ⟨rfl, rfl⟩ (by decide) (by decide)


theorem a_70 (l : Launch) {Z : State} {a0 : Array Value} (hw : HW1 Z a0) (n0 : Nat)  : Met l Z KT n0 y6 b6 3 (some (.array .long)) ({ frames := 1, cells := 1, slots := 1, locals := 12 } : Room) #[(.int (2 : Int32))] [.inl (0, [(.int (128 : Int32)), (.ref (n0 + 1)), (.ref (n0 + 2)), (.ref (n0 + 3)), .null]), .inr (.long, [(.long (0 : Int64)), (.long (0 : Int64))]), .inr (.long, [(.long (0 : Int64))]), .inr (.long, [(.long (-1 : Int64)), (.long (-1 : Int64))])] (Is (some (.ref (n0 + 4))) [.inl (0, [(.int (128 : Int32)), (.ref (n0 + 1)), (.ref (n0 + 2)), (.ref (n0 + 3)), .null]), .inr (.long, [(.long (0 : Int64)), (.long (0 : Int64))]), .inr (.long, [(.long (0 : Int64))]), .inr (.long, [(.long (-1 : Int64)), (.long (-1 : Int64))]), .inr (.long, [(.long (3 : Int64))])]) := by
  refine Met.of (a0 := a0) (ls := #[.val (.int (2 : Int32)), .unset, .unset]) (kok hw) (plainFor_of_name pn_7) (fun m => by first | (simp [entryFrame, mkF, argsToLocals, Value.category]; done) | rfl) (fun G H => ?_)
  refine H.iloadN s6_0 rfl ?_
  refine H.callSD s6_1 (k_18 hw) (a_71 l hw n0) (argsL := [(.int (2 : Int32))]) (rest := []) rfl rfl rfl rfl (leb rfl) (leb rfl) (leb rfl) (leb rfl) (st' := [(.int (1 : Int32))]) rfl (k' := 0) rfl (n' := 0) rfl ?_
  refine H.newarray s6_4 (ty := .long) rfl (k_19 hw) (N := 1) (cap := 1) (by decide) rfl (by decide) (by decide) (by first | rfl | simp) (by decide) (by decide) (i := 4) rfl (A' := [.inl (0, [(.int (128 : Int32)), (.ref (n0 + 1)), (.ref (n0 + 2)), (.ref (n0 + 3)), .null]), .inr (.long, [(.long (0 : Int64)), (.long (0 : Int64))]), .inr (.long, [(.long (0 : Int64))]), .inr (.long, [(.long (-1 : Int64)), (.long (-1 : Int64))]), .inr (.long, [(.long (0 : Int64))])]) rfl (k' := 1) rfl (n' := 1) rfl ?_
  refine H.astoreN s6_6 rfl (ls' := #[.val (.int (2 : Int32)), .val (.ref (n0 + 4)), .unset]) rfl ?_
  refine H.iconst s6_7 (v := (0 : Int32)) (by decide) ?_
  refine H.istoreN s6_8 (ls' := #[.val (.int (2 : Int32)), .val (.ref (n0 + 4)), .val (.int (0 : Int32))]) rfl ?_
  refine H.iloadN s6_9 rfl ?_
  refine H.aloadN s6_10 rfl rfl ?_
  refine H.arraylength s6_11 (i := 4) rfl (z := (1 : Int32)) rfl ?_
  refine H.icmpF s6_12 (show (0 : Int32) < (1 : Int32) by decide) ?_
  refine H.aloadN s6_15 rfl rfl ?_
  refine H.iloadN s6_16 rfl ?_
  refine H.ldc2 s6_17 (k_5 hw) ?_
  refine H.lastore s6_20 (i := 4) (j := 0) rfl (by decide) (ltb rfl)  rfl ?_
  refine H.iinc s6_21 rfl (w := (1 : Int32)) (by decide) (ls' := #[.val (.int (2 : Int32)), .val (.ref (n0 + 4)), .val (.int (1 : Int32))]) rfl ?_
  refine H.goto s6_24 ?_
  refine H.iloadN s6_9 rfl ?_
  refine H.aloadN s6_10 rfl rfl ?_
  refine H.arraylength s6_11 (i := 4) rfl (z := (1 : Int32)) rfl ?_
  refine H.icmpT s6_12 (show ¬ (1 : Int32) < (1 : Int32) by decide) ?_
  refine H.iloadN s6_27 rfl ?_
  refine H.bipush s6_28 (v := (64 : Int32)) (by decide) ?_
  refine H.irem s6_30 (by decide) (w := (2 : Int32)) (by decide) ?_
  refine H.ifF s6_31 (show ¬ (2 : Int32) = (0 : Int32) by decide) ?_
  refine H.aloadN s6_34 rfl rfl ?_
  refine H.aloadN s6_35 rfl rfl ?_
  refine H.arraylength s6_36 (i := 4) rfl (z := (1 : Int32)) rfl ?_
  refine H.iconst s6_37 (v := (1 : Int32)) (by decide) ?_
  refine H.isub s6_38 (w := (0 : Int32)) (by decide) ?_
  refine H.lconst s6_39 (v := (1 : Int64)) (by decide) ?_
  refine H.iloadN s6_40 rfl ?_
  refine H.lshl s6_41 (w := (4 : Int64)) (by decide) ?_
  refine H.lconst s6_42 (v := (1 : Int64)) (by decide) ?_
  refine H.lsub s6_43 (w := (3 : Int64)) (by decide) ?_
  refine H.lastore s6_44 (i := 4) (j := 0) rfl (by decide) (ltb rfl)  rfl ?_
  refine H.aloadN s6_45 rfl rfl ?_
  exact H.areturn s6_46 rfl rfl rfl rfl ⟨rfl, rfl⟩ (by decide) (by decide)


theorem a_65 (l : Launch) {Z : State} {a0 : Array Value} (hw : HW1 Z a0) (n0 : Nat)  : Met l Z KT n0 y3 b3 2 none ({ frames := 2, cells := 4, slots := 6, locals := 27 } : Room) #[(.ref (n0 + 0)), (.int (128 : Int32))] [.inl (0, [(.int (0 : Int32)), .null, .null, .null, .null])] (Is none [.inl (0, [(.int (128 : Int32)), (.ref (n0 + 1)), (.ref (n0 + 2)), (.ref (n0 + 3)), (.ref (n0 + 4))]), .inr (.long, [(.long (0 : Int64)), (.long (0 : Int64))]), .inr (.long, [(.long (0 : Int64))]), .inr (.long, [(.long (-1 : Int64)), (.long (-1 : Int64))]), .inr (.long, [(.long (3 : Int64))])]) := by
  refine Met.of (a0 := a0) (ls := #[.val (.ref (n0 + 0)), .val (.int (128 : Int32))]) (kok hw) (plainFor_of_name pn_7) (fun m => by first | (simp [entryFrame, mkF, argsToLocals, Value.category]; done) | rfl) (fun G H => ?_)
  refine H.aloadN s3_0 rfl rfl ?_
  refine H.initO s3_1 (k_16 hw) rfl (leb rfl) (leb rfl) ?_
  refine H.aloadN s3_4 rfl rfl ?_
  refine H.iloadN s3_5 rfl ?_
  refine H.putfield s3_6 (k_17 hw) (i := 0) rfl rfl rfl rfl ?_
  refine H.aloadN s3_9 rfl rfl ?_
  refine H.iloadN s3_10 rfl ?_
  refine H.callSD s3_11 (k_18 hw) (a_66 l hw n0) (argsL := [(.int (128 : Int32))]) (rest := [(.ref (n0 + 0))]) rfl rfl rfl rfl (leb rfl) (leb rfl) (leb rfl) (leb rfl) (st' := [(.int (2 : Int32)), (.ref (n0 + 0))]) rfl (k' := 0) rfl (n' := 0) rfl ?_
  refine H.newarray s3_14 (ty := .long) rfl (k_19 hw) (N := 2) (cap := 2) (by decide) rfl (by decide) (by decide) (by first | rfl | simp) (by decide) (by decide) (i := 1) rfl (A' := [.inl (0, [(.int (128 : Int32)), .null, .null, .null, .null]), .inr (.long, [(.long (0 : Int64)), (.long (0 : Int64))])]) rfl (k' := 1) rfl (n' := 2) rfl ?_
  refine H.putfield s3_16 (k_20 hw) (i := 0) rfl rfl rfl rfl ?_
  refine H.aloadN s3_19 rfl rfl ?_
  refine H.aloadN s3_20 rfl rfl ?_
  refine H.getfield s3_21 (k_4 hw) (i := 0) rfl rfl ?_
  refine H.arraylength s3_24 (i := 1) rfl (z := (2 : Int32)) rfl ?_
  refine H.callSD s3_25 (k_18 hw) (a_67 l hw n0) (argsL := [(.int (2 : Int32))]) (rest := [(.ref (n0 + 0))]) rfl rfl rfl rfl (leb rfl) (leb rfl) (leb rfl) (leb rfl) (st' := [(.int (1 : Int32)), (.ref (n0 + 0))]) rfl (k' := 1) rfl (n' := 2) rfl ?_
  refine H.newarray s3_28 (ty := .long) rfl (k_19 hw) (N := 1) (cap := 1) (by decide) rfl (by decide) (by decide) (by first | rfl | simp) (by decide) (by decide) (i := 2) rfl (A' := [.inl (0, [(.int (128 : Int32)), (.ref (n0 + 1)), .null, .null, .null]), .inr (.long, [(.long (0 : Int64)), (.long (0 : Int64))]), .inr (.long, [(.long (0 : Int64))])]) rfl (k' := 2) rfl (n' := 3) rfl ?_
  refine H.putfield s3_30 (k_21 hw) (i := 0) rfl rfl rfl rfl ?_
  refine H.aloadN s3_33 rfl rfl ?_
  refine H.iloadN s3_34 rfl ?_
  refine H.callSD s3_35 (k_22 hw) (a_68 l hw n0) (argsL := [(.int (128 : Int32))]) (rest := [(.ref (n0 + 0))]) rfl rfl rfl rfl (leb rfl) (leb rfl) (leb rfl) (leb rfl) (st' := [(.ref (n0 + 3)), (.ref (n0 + 0))]) rfl (k' := 3) rfl (n' := 5) rfl ?_
  refine H.putfield s3_38 (k_23 hw) (i := 0) rfl rfl rfl rfl ?_
  refine H.aloadN s3_41 rfl rfl ?_
  refine H.aloadN s3_42 rfl rfl ?_
  refine H.getfield s3_43 (k_4 hw) (i := 0) rfl rfl ?_
  refine H.arraylength s3_46 (i := 1) rfl (z := (2 : Int32)) rfl ?_
  refine H.callSD s3_47 (k_22 hw) (a_70 l hw n0) (argsL := [(.int (2 : Int32))]) (rest := [(.ref (n0 + 0))]) rfl rfl rfl rfl (leb rfl) (leb rfl) (leb rfl) (leb rfl) (st' := [(.ref (n0 + 4)), (.ref (n0 + 0))]) rfl (k' := 4) rfl (n' := 6) rfl ?_
  refine H.putfield s3_50 (k_24 hw) (i := 0) rfl rfl rfl rfl ?_
  exact H.vreturn s3_53 rfl ⟨rfl, rfl⟩ (by decide) (by decide)


theorem a_72 (l : Launch) {Z : State} {a0 : Array Value} (hw : HW1 Z a0) (n0 : Nat)  : Met l Z KT n0 y7 b7 1 none ({ frames := 1, cells := 0, slots := 0, locals := 18 } : Room) #[(.ref (n0 + 0))] [.inl (0, [(.int (128 : Int32)), (.ref (n0 + 1)), (.ref (n0 + 2)), (.ref (n0 + 3)), (.ref (n0 + 4))]), .inr (.long, [(.long (0 : Int64)), (.long (0 : Int64))]), .inr (.long, [(.long (0 : Int64))]), .inr (.long, [(.long (-1 : Int64)), (.long (-1 : Int64))]), .inr (.long, [(.long (3 : Int64))])] (Is none [.inl (0, [(.int (128 : Int32)), (.ref (n0 + 1)), (.ref (n0 + 2)), (.ref (n0 + 3)), (.ref (n0 + 4))]), .inr (.long, [(.long (-1 : Int64)), (.long (-1 : Int64))]), .inr (.long, [(.long (3 : Int64))]), .inr (.long, [(.long (-1 : Int64)), (.long (-1 : Int64))]), .inr (.long, [(.long (3 : Int64))])]) := by
  refine Met.of (a0 := a0) (ls := #[.val (.ref (n0 + 0))]) (kok hw) (plainFor_of_name pn_7) (fun m => by first | (simp [entryFrame, mkF, argsToLocals, Value.category]; done) | rfl) (fun G H => ?_)
  refine H.aloadN s7_0 rfl rfl ?_
  refine H.getfield s7_1 (k_26 hw) (i := 0) rfl rfl ?_
  refine H.iconst s7_4 (v := (0 : Int32)) (by decide) ?_
  refine H.aloadN s7_5 rfl rfl ?_
  refine H.getfield s7_6 (k_4 hw) (i := 0) rfl rfl ?_
  refine H.iconst s7_9 (v := (0 : Int32)) (by decide) ?_
  refine H.aloadN s7_10 rfl rfl ?_
  refine H.getfield s7_11 (k_4 hw) (i := 0) rfl rfl ?_
  refine H.arraylength s7_14 (i := 1) rfl (z := (2 : Int32)) rfl ?_
  refine H.arraycopy s7_15 (k_27 hw) (i := 3) (j := 1) rfl rfl rfl (p := 0) (q := 0) (r := 2) (by decide) (by decide) (by decide) (leb rfl) (leb rfl) (leb rfl) (leb rfl) (us := [(.long (-1 : Int64)), (.long (-1 : Int64))]) rfl rfl (leb rfl) (leb rfl) (by first | rfl | simp) (A' := [.inl (0, [(.int (128 : Int32)), (.ref (n0 + 1)), (.ref (n0 + 2)), (.ref (n0 + 3)), (.ref (n0 + 4))]), .inr (.long, [(.long (-1 : Int64)), (.long (-1 : Int64))]), .inr (.long, [(.long (0 : Int64))]), .inr (.long, [(.long (-1 : Int64)), (.long (-1 : Int64))]), .inr (.long, [(.long (3 : Int64))])]) rfl ?_
  refine H.aloadN s7_18 rfl rfl ?_
  refine H.getfield s7_19 (k_28 hw) (i := 0) rfl rfl ?_
  refine H.iconst s7_22 (v := (0 : Int32)) (by decide) ?_
  refine H.aloadN s7_23 rfl rfl ?_
  refine H.getfield s7_24 (k_6 hw) (i := 0) rfl rfl ?_
  refine H.iconst s7_27 (v := (0 : Int32)) (by decide) ?_
  refine H.aloadN s7_28 rfl rfl ?_
  refine H.getfield s7_29 (k_6 hw) (i := 0) rfl rfl ?_
  refine H.arraylength s7_32 (i := 2) rfl (z := (1 : Int32)) rfl ?_
  refine H.arraycopy s7_33 (k_27 hw) (i := 4) (j := 2) rfl rfl rfl (p := 0) (q := 0) (r := 1) (by decide) (by decide) (by decide) (leb rfl) (leb rfl) (leb rfl) (leb rfl) (us := [(.long (3 : Int64))]) rfl rfl (leb rfl) (leb rfl) (by first | rfl | simp) (A' := [.inl (0, [(.int (128 : Int32)), (.ref (n0 + 1)), (.ref (n0 + 2)), (.ref (n0 + 3)), (.ref (n0 + 4))]), .inr (.long, [(.long (-1 : Int64)), (.long (-1 : Int64))]), .inr (.long, [(.long (3 : Int64))]), .inr (.long, [(.long (-1 : Int64)), (.long (-1 : Int64))]), .inr (.long, [(.long (3 : Int64))])]) rfl ?_
  exact H.vreturn s7_36 rfl ⟨rfl, rfl⟩ (by decide) (by decide)


theorem a_73 (l : Launch) {Z : State} {a0 : Array Value} (hw : HW1 Z a0) (n0 : Nat)  : Met l Z KT n0 y1 b1 2 (some .int) ({ frames := 0, cells := 0, slots := 0, locals := 0 } : Room) #[(.int (1 : Int32)), (.int (129 : Int32))] [] (Is (some (.int (129 : Int32))) []) := by
  refine Met.of (a0 := a0) (ls := #[.val (.int (1 : Int32)), .val (.int (129 : Int32))]) (kok hw) (Jvm.Free.JP.mathPlain rfl (by decide +kernel)) (fun m => by first | (simp [entryFrame, mkF, argsToLocals, Value.category]; done) | rfl) (fun G H => ?_)
  refine H.iloadN s1_0 rfl ?_
  refine H.iloadN s1_1 rfl ?_
  refine H.icmpT s1_2 (show (1 : Int32) < (129 : Int32) by decide) ?_
  refine H.iloadN s1_9 rfl ?_
  exact H.ireturn s1_10 rfl (by simp) rfl ⟨rfl, rfl⟩ (by decide) (by decide)


theorem a_75 (l : Launch) {Z : State} {a0 : Array Value} (hw : HW1 Z a0) (n0 : Nat)  : Met l Z KT n0 y5 b5 1 (some .int) ({ frames := 0, cells := 0, slots := 0, locals := 0 } : Room) #[(.int (129 : Int32))] [.inl (0, [(.int (129 : Int32)), .null, .null, .null, .null])] (Is (some (.int (3 : Int32))) [.inl (0, [(.int (129 : Int32)), .null, .null, .null, .null])]) := by
  refine Met.of (a0 := a0) (ls := #[.val (.int (129 : Int32))]) (kok hw) (plainFor_of_name pn_7) (fun m => by first | (simp [entryFrame, mkF, argsToLocals, Value.category]; done) | rfl) (fun G H => ?_)
  refine H.iloadN s5_0 rfl ?_
  refine H.bipush s5_1 (v := (63 : Int32)) (by decide) ?_
  refine H.iadd s5_3 (w := (192 : Int32)) (by decide) ?_
  refine H.bipush s5_4 (v := (6 : Int32)) (by decide) ?_
  refine H.iushr s5_6 (w := (3 : Int32)) (by decide) ?_
  exact H.ireturn s5_7 rfl (by simp) rfl ⟨rfl, rfl⟩ (by decide) (by decide)


theorem a_76 (l : Launch) {Z : State} {a0 : Array Value} (hw : HW1 Z a0) (n0 : Nat)  : Met l Z KT n0 y5 b5 1 (some .int) ({ frames := 0, cells := 0, slots := 0, locals := 0 } : Room) #[(.int (3 : Int32))] [.inl (0, [(.int (129 : Int32)), (.ref (n0 + 1)), .null, .null, .null]), .inr (.long, [(.long (0 : Int64)), (.long (0 : Int64)), (.long (0 : Int64))])] (Is (some (.int (1 : Int32))) [.inl (0, [(.int (129 : Int32)), (.ref (n0 + 1)), .null, .null, .null]), .inr (.long, [(.long (0 : Int64)), (.long (0 : Int64)), (.long (0 : Int64))])]) := by
  refine Met.of (a0 := a0) (ls := #[.val (.int (3 : Int32))]) (kok hw) (plainFor_of_name pn_7) (fun m => by first | (simp [entryFrame, mkF, argsToLocals, Value.category]; done) | rfl) (fun G H => ?_)
  refine H.iloadN s5_0 rfl ?_
  refine H.bipush s5_1 (v := (63 : Int32)) (by decide) ?_
  refine H.iadd s5_3 (w := (66 : Int32)) (by decide) ?_
  refine H.bipush s5_4 (v := (6 : Int32)) (by decide) ?_
  refine H.iushr s5_6 (w := (1 : Int32)) (by decide) ?_
  exact H.ireturn s5_7 rfl (by simp) rfl ⟨rfl, rfl⟩ (by decide) (by decide)


theorem a_78 (l : Launch) {Z : State} {a0 : Array Value} (hw : HW1 Z a0) (n0 : Nat)  : Met l Z KT n0 y5 b5 1 (some .int) ({ frames := 0, cells := 0, slots := 0, locals := 0 } : Room) #[(.int (129 : Int32))] [.inl (0, [(.int (129 : Int32)), (.ref (n0 + 1)), (.ref (n0 + 2)), .null, .null]), .inr (.long, [(.long (0 : Int64)), (.long (0 : Int64)), (.long (0 : Int64))]), .inr (.long, [(.long (0 : Int64))])] (Is (some (.int (3 : Int32))) [.inl (0, [(.int (129 : Int32)), (.ref (n0 + 1)), (.ref (n0 + 2)), .null, .null]), .inr (.long, [(.long (0 : Int64)), (.long (0 : Int64)), (.long (0 : Int64))]), .inr (.long, [(.long (0 : Int64))])]) := by
  refine Met.of (a0 := a0) (ls := #[.val (.int (129 : Int32))]) (kok hw) (plainFor_of_name pn_7) (fun m => by first | (simp [entryFrame, mkF, argsToLocals, Value.category]; done) | rfl) (fun G H => ?_)
  refine H.iloadN s5_0 rfl ?_
  refine H.bipush s5_1 (v := (63 : Int32)) (by decide) ?_
  refine H.iadd s5_3 (w := (192 : Int32)) (by decide) ?_
  refine H.bipush s5_4 (v := (6 : Int32)) (by decide) ?_
  refine H.iushr s5_6 (w := (3 : Int32)) (by decide) ?_
  exact H.ireturn s5_7 rfl (by simp) rfl ⟨rfl, rfl⟩ (by decide) (by decide)


theorem a_77 (l : Launch) {Z : State} {a0 : Array Value} (hw : HW1 Z a0) (n0 : Nat)  : Met l Z KT n0 y6 b6 3 (some (.array .long)) ({ frames := 1, cells := 1, slots := 3, locals := 12 } : Room) #[(.int (129 : Int32))] [.inl (0, [(.int (129 : Int32)), (.ref (n0 + 1)), (.ref (n0 + 2)), .null, .null]), .inr (.long, [(.long (0 : Int64)), (.long (0 : Int64)), (.long (0 : Int64))]), .inr (.long, [(.long (0 : Int64))])] (Is (some (.ref (n0 + 3))) [.inl (0, [(.int (129 : Int32)), (.ref (n0 + 1)), (.ref (n0 + 2)), .null, .null]), .inr (.long, [(.long (0 : Int64)), (.long (0 : Int64)), (.long (0 : Int64))]), .inr (.long, [(.long (0 : Int64))]), .inr (.long, [(.long (-1 : Int64)), (.long (-1 : Int64)), (.long (1 : Int64))])]) := by
  refine Met.of (a0 := a0) (ls := #[.val (.int (129 : Int32)), .unset, .unset]) (kok hw) (plainFor_of_name pn_7) (fun m => by first | (simp [entryFrame, mkF, argsToLocals, Value.category]; done) | rfl) (fun G H => ?_)
  refine H.iloadN s6_0 rfl ?_
  refine H.callSD s6_1 (k_18 hw) (a_78 l hw n0) (argsL := [(.int (129 : Int32))]) (rest := []) rfl rfl rfl rfl (leb rfl) (leb rfl) (leb rfl) (leb rfl) (st' := [(.int (3 : Int32))]) rfl (k' := 0) rfl (n' := 0) rfl ?_
  refine H.newarray s6_4 (ty := .long) rfl (k_19 hw) (N := 3) (cap := 3) (by decide) rfl (by decide) (by decide) (by first | rfl | simp) (by decide) (by decide) (i := 3) rfl (A' := [.inl (0, [(.int (129 : Int32)), (.ref (n0 + 1)), (.ref (n0 + 2)), .null, .null]), .inr (.long, [(.long (0 : Int64)), (.long (0 : Int64)), (.long (0 : Int64))]), .inr (.long, [(.long (0 : Int64))]), .inr (.long, [(.long (0 : Int64)), (.long (0 : Int64)), (.long (0 : Int64))])]) rfl (k' := 1) rfl (n' := 3) rfl ?_
  refine H.astoreN s6_6 rfl (ls' := #[.val (.int (129 : Int32)), .val (.ref (n0 + 3)), .unset]) rfl ?_
  refine H.iconst s6_7 (v := (0 : Int32)) (by decide) ?_
  refine H.istoreN s6_8 (ls' := #[.val (.int (129 : Int32)), .val (.ref (n0 + 3)), .val (.int (0 : Int32))]) rfl ?_
  refine H.iloadN s6_9 rfl ?_
  refine H.aloadN s6_10 rfl rfl ?_
  refine H.arraylength s6_11 (i := 3) rfl (z := (3 : Int32)) rfl ?_
  refine H.icmpF s6_12 (show (0 : Int32) < (3 : Int32) by decide) ?_
  refine H.aloadN s6_15 rfl rfl ?_
  refine H.iloadN s6_16 rfl ?_
  refine H.ldc2 s6_17 (k_5 hw) ?_
  refine H.lastore s6_20 (i := 3) (j := 0) rfl (by decide) (ltb rfl)  rfl ?_
  refine H.iinc s6_21 rfl (w := (1 : Int32)) (by decide) (ls' := #[.val (.int (129 : Int32)), .val (.ref (n0 + 3)), .val (.int (1 : Int32))]) rfl ?_
  refine H.goto s6_24 ?_
  refine H.iloadN s6_9 rfl ?_
  refine H.aloadN s6_10 rfl rfl ?_
  refine H.arraylength s6_11 (i := 3) rfl (z := (3 : Int32)) rfl ?_
  refine H.icmpF s6_12 (show (1 : Int32) < (3 : Int32) by decide) ?_
  refine H.aloadN s6_15 rfl rfl ?_
  refine H.iloadN s6_16 rfl ?_
  refine H.ldc2 s6_17 (k_5 hw) ?_
  refine H.lastore s6_20 (i := 3) (j := 1) rfl (by decide) (ltb rfl)  rfl ?_
  refine H.iinc s6_21 rfl (w := (2 : Int32)) (by decide) (ls' := #[.val (.int (129 : Int32)), .val (.ref (n0 + 3)), .val (.int (2 : Int32))]) rfl ?_
  refine H.goto s6_24 ?_
  refine H.iloadN s6_9 rfl ?_
  refine H.aloadN s6_10 rfl rfl ?_
  refine H.arraylength s6_11 (i := 3) rfl (z := (3 : Int32)) rfl ?_
  refine H.icmpF s6_12 (show (2 : Int32) < (3 : Int32) by decide) ?_
  refine H.aloadN s6_15 rfl rfl ?_
  refine H.iloadN s6_16 rfl ?_
  refine H.ldc2 s6_17 (k_5 hw) ?_
  refine H.lastore s6_20 (i := 3) (j := 2) rfl (by decide) (ltb rfl)  rfl ?_
  refine H.iinc s6_21 rfl (w := (3 : Int32)) (by decide) (ls' := #[.val (.int (129 : Int32)), .val (.ref (n0 + 3)), .val (.int (3 : Int32))]) rfl ?_
  refine H.goto s6_24 ?_
  refine H.iloadN s6_9 rfl ?_
  refine H.aloadN s6_10 rfl rfl ?_
  refine H.arraylength s6_11 (i := 3) rfl (z := (3 : Int32)) rfl ?_
  refine H.icmpT s6_12 (show ¬ (3 : Int32) < (3 : Int32) by decide) ?_
  refine H.iloadN s6_27 rfl ?_
  refine H.bipush s6_28 (v := (64 : Int32)) (by decide) ?_
  refine H.irem s6_30 (by decide) (w := (1 : Int32)) (by decide) ?_
  refine H.ifF s6_31 (show ¬ (1 : Int32) = (0 : Int32) by decide) ?_
  refine H.aloadN s6_34 rfl rfl ?_
  refine H.aloadN s6_35 rfl rfl ?_
  refine H.arraylength s6_36 (i := 3) rfl (z := (3 : Int32)) rfl ?_
  refine H.iconst s6_37 (v := (1 : Int32)) (by decide) ?_
  refine H.isub s6_38 (w := (2 : Int32)) (by decide) ?_
  refine H.lconst s6_39 (v := (1 : Int64)) (by decide) ?_
  refine H.iloadN s6_40 rfl ?_
  refine H.lshl s6_41 (w := (2 : Int64)) (by decide) ?_
  refine H.lconst s6_42 (v := (1 : Int64)) (by decide) ?_
  refine H.lsub s6_43 (w := (1 : Int64)) (by decide) ?_
  refine H.lastore s6_44 (i := 3) (j := 2) rfl (by decide) (ltb rfl)  rfl ?_
  refine H.aloadN s6_45 rfl rfl ?_
  exact H.areturn s6_46 rfl rfl rfl rfl ⟨rfl, rfl⟩ (by decide) (by decide)


theorem a_80 (l : Launch) {Z : State} {a0 : Array Value} (hw : HW1 Z a0) (n0 : Nat)  : Met l Z KT n0 y5 b5 1 (some .int) ({ frames := 0, cells := 0, slots := 0, locals := 0 } : Room) #[(.int (3 : Int32))] [.inl (0, [(.int (129 : Int32)), (.ref (n0 + 1)), (.ref (n0 + 2)), (.ref (n0 + 3)), .null]), .inr (.long, [(.long (0 : Int64)), (.long (0 : Int64)), (.long (0 : Int64))]), .inr (.long, [(.long (0 : Int64))]), .inr (.long, [(.long (-1 : Int64)), (.long (-1 : Int64)), (.long (1 : Int64))])] (Is (some (.int (1 : Int32))) [.inl (0, [(.int (129 : Int32)), (.ref (n0 + 1)), (.ref (n0 + 2)), (.ref (n0 + 3)), .null]), .inr (.long, [(.long (0 : Int64)), (.long (0 : Int64)), (.long (0 : Int64))]), .inr (.long, [(.long (0 : Int64))]), .inr (.long, [(.long (-1 : Int64)), (.long (-1 : Int64)), (.long (1 : Int64))])]) := by
  refine Met.of (a0 := a0) (ls := #[.val (.int (3 : Int32))]) (kok hw) (plainFor_of_name pn_7) (fun m => by first | (simp [entryFrame, mkF, argsToLocals, Value.category]; done) | rfl) (fun G H => ?_)
  refine H.iloadN s5_0 rfl ?_
  refine H.bipush s5_1 (v := (63 : Int32)) (by decide) ?_
  refine H.iadd s5_3 (w := (66 : Int32)) (by decide) ?_
  refine H.bipush s5_4 (v := (6 : Int32)) (by decide) ?_
  refine H.iushr s5_6 (w := (1 : Int32)) (by decide) ?_
  exact H.ireturn s5_7 rfl (by simp) rfl ⟨rfl, rfl⟩ (by decide) (by decide)


theorem a_79 (l : Launch) {Z : State} {a0 : Array Value} (hw : HW1 Z a0) (n0 : Nat)  : Met l Z KT n0 y6 b6 3 (some (.array .long)) ({ frames := 1, cells := 1, slots := 1, locals := 12 } : Room) #[(.int (3 : Int32))] [.inl (0, [(.int (129 : Int32)), (.ref (n0 + 1)), (.ref (n0 + 2)), (.ref (n0 + 3)), .null]), .inr (.long, [(.long (0 : Int64)), (.long (0 : Int64)), (.long (0 : Int64))]), .inr (.long, [(.long (0 : Int64))]), .inr (.long, [(.long (-1 : Int64)), (.long (-1 : Int64)), (.long (1 : Int64))])] (Is (some (.ref (n0 + 4))) [.inl (0, [(.int (129 : Int32)), (.ref (n0 + 1)), (.ref (n0 + 2)), (.ref (n0 + 3)), .null]), .inr (.long, [(.long (0 : Int64)), (.long (0 : Int64)), (.long (0 : Int64))]), .inr (.long, [(.long (0 : Int64))]), .inr (.long, [(.long (-1 : Int64)), (.long (-1 : Int64)), (.long (1 : Int64))]), .inr (.long, [(.long (7 : Int64))])]) := by
  refine Met.of (a0 := a0) (ls := #[.val (.int (3 : Int32)), .unset, .unset]) (kok hw) (plainFor_of_name pn_7) (fun m => by first | (simp [entryFrame, mkF, argsToLocals, Value.category]; done) | rfl) (fun G H => ?_)
  refine H.iloadN s6_0 rfl ?_
  refine H.callSD s6_1 (k_18 hw) (a_80 l hw n0) (argsL := [(.int (3 : Int32))]) (rest := []) rfl rfl rfl rfl (leb rfl) (leb rfl) (leb rfl) (leb rfl) (st' := [(.int (1 : Int32))]) rfl (k' := 0) rfl (n' := 0) rfl ?_
  refine H.newarray s6_4 (ty := .long) rfl (k_19 hw) (N := 1) (cap := 1) (by decide) rfl (by decide) (by decide) (by first | rfl | simp) (by decide) (by decide) (i := 4) rfl (A' := [.inl (0, [(.int (129 : Int32)), (.ref (n0 + 1)), (.ref (n0 + 2)), (.ref (n0 + 3)), .null]), .inr (.long, [(.long (0 : Int64)), (.long (0 : Int64)), (.long (0 : Int64))]), .inr (.long, [(.long (0 : Int64))]), .inr (.long, [(.long (-1 : Int64)), (.long (-1 : Int64)), (.long (1 : Int64))]), .inr (.long, [(.long (0 : Int64))])]) rfl (k' := 1) rfl (n' := 1) rfl ?_
  refine H.astoreN s6_6 rfl (ls' := #[.val (.int (3 : Int32)), .val (.ref (n0 + 4)), .unset]) rfl ?_
  refine H.iconst s6_7 (v := (0 : Int32)) (by decide) ?_
  refine H.istoreN s6_8 (ls' := #[.val (.int (3 : Int32)), .val (.ref (n0 + 4)), .val (.int (0 : Int32))]) rfl ?_
  refine H.iloadN s6_9 rfl ?_
  refine H.aloadN s6_10 rfl rfl ?_
  refine H.arraylength s6_11 (i := 4) rfl (z := (1 : Int32)) rfl ?_
  refine H.icmpF s6_12 (show (0 : Int32) < (1 : Int32) by decide) ?_
  refine H.aloadN s6_15 rfl rfl ?_
  refine H.iloadN s6_16 rfl ?_
  refine H.ldc2 s6_17 (k_5 hw) ?_
  refine H.lastore s6_20 (i := 4) (j := 0) rfl (by decide) (ltb rfl)  rfl ?_
  refine H.iinc s6_21 rfl (w := (1 : Int32)) (by decide) (ls' := #[.val (.int (3 : Int32)), .val (.ref (n0 + 4)), .val (.int (1 : Int32))]) rfl ?_
  refine H.goto s6_24 ?_
  refine H.iloadN s6_9 rfl ?_
  refine H.aloadN s6_10 rfl rfl ?_
  refine H.arraylength s6_11 (i := 4) rfl (z := (1 : Int32)) rfl ?_
  refine H.icmpT s6_12 (show ¬ (1 : Int32) < (1 : Int32) by decide) ?_
  refine H.iloadN s6_27 rfl ?_
  refine H.bipush s6_28 (v := (64 : Int32)) (by decide) ?_
  refine H.irem s6_30 (by decide) (w := (3 : Int32)) (by decide) ?_
  refine H.ifF s6_31 (show ¬ (3 : Int32) = (0 : Int32) by decide) ?_
  refine H.aloadN s6_34 rfl rfl ?_
  refine H.aloadN s6_35 rfl rfl ?_
  refine H.arraylength s6_36 (i := 4) rfl (z := (1 : Int32)) rfl ?_
  refine H.iconst s6_37 (v := (1 : Int32)) (by decide) ?_
  refine H.isub s6_38 (w := (0 : Int32)) (by decide) ?_
  refine H.lconst s6_39 (v := (1 : Int64)) (by decide) ?_
  refine H.iloadN s6_40 rfl ?_
  refine H.lshl s6_41 (w := (8 : Int64)) (by decide) ?_
  refine H.lconst s6_42 (v := (1 : Int64)) (by decide) ?_
  refine H.lsub s6_43 (w := (7 : Int64)) (by decide) ?_
  refine H.lastore s6_44 (i := 4) (j := 0) rfl (by decide) (ltb rfl)  rfl ?_
  refine H.aloadN s6_45 rfl rfl ?_
  exact H.areturn s6_46 rfl rfl rfl rfl ⟨rfl, rfl⟩ (by decide) (by decide)


theorem a_74 (l : Launch) {Z : State} {a0 : Array Value} (hw : HW1 Z a0) (n0 : Nat)  : Met l Z KT n0 y3 b3 2 none ({ frames := 2, cells := 4, slots := 8, locals := 27 } : Room) #[(.ref (n0 + 0)), (.int (129 : Int32))] [.inl (0, [(.int (0 : Int32)), .null, .null, .null, .null])] (Is none [.inl (0, [(.int (129 : Int32)), (.ref (n0 + 1)), (.ref (n0 + 2)), (.ref (n0 + 3)), (.ref (n0 + 4))]), .inr (.long, [(.long (0 : Int64)), (.long (0 : Int64)), (.long (0 : Int64))]), .inr (.long, [(.long (0 : Int64))]), .inr (.long, [(.long (-1 : Int64)), (.long (-1 : Int64)), (.long (1 : Int64))]), .inr (.long, [(.long (7 : Int64))])]) := by
  refine Met.of (a0 := a0) (ls := #[.val (.ref (n0 + 0)), .val (.int (129 : Int32))]) (kok hw) (plainFor_of_name pn_7) (fun m => by first | (simp [entryFrame, mkF, argsToLocals, Value.category]; done) | rfl) (fun G H => ?_)
  refine H.aloadN s3_0 rfl rfl ?_
  refine H.initO s3_1 (k_16 hw) rfl (leb rfl) (leb rfl) ?_
  refine H.aloadN s3_4 rfl rfl ?_
  refine H.iloadN s3_5 rfl ?_
  refine H.putfield s3_6 (k_17 hw) (i := 0) rfl rfl rfl rfl ?_
  refine H.aloadN s3_9 rfl rfl ?_
  refine H.iloadN s3_10 rfl ?_
  refine H.callSD s3_11 (k_18 hw) (a_75 l hw n0) (argsL := [(.int (129 : Int32))]) (rest := [(.ref (n0 + 0))]) rfl rfl rfl rfl (leb rfl) (leb rfl) (leb rfl) (leb rfl) (st' := [(.int (3 : Int32)), (.ref (n0 + 0))]) rfl (k' := 0) rfl (n' := 0) rfl ?_
  refine H.newarray s3_14 (ty := .long) rfl (k_19 hw) (N := 3) (cap := 3) (by decide) rfl (by decide) (by decide) (by first | rfl | simp) (by decide) (by decide) (i := 1) rfl (A' := [.inl (0, [(.int (129 : Int32)), .null, .null, .null, .null]), .inr (.long, [(.long (0 : Int64)), (.long (0 : Int64)), (.long (0 : Int64))])]) rfl (k' := 1) rfl (n' := 3) rfl ?_
  refine H.putfield s3_16 (k_20 hw) (i := 0) rfl rfl rfl rfl ?_
  refine H.aloadN s3_19 rfl rfl ?_
  refine H.aloadN s3_20 rfl rfl ?_
  refine H.getfield s3_21 (k_4 hw) (i := 0) rfl rfl ?_
  refine H.arraylength s3_24 (i := 1) rfl (z := (3 : Int32)) rfl ?_
  refine H.callSD s3_25 (k_18 hw) (a_76 l hw n0) (argsL := [(.int (3 : Int32))]) (rest := [(.ref (n0 + 0))]) rfl rfl rfl rfl (leb rfl) (leb rfl) (leb rfl) (leb rfl) (st' := [(.int (1 : Int32)), (.ref (n0 + 0))]) rfl (k' := 1) rfl (n' := 3) rfl ?_
  refine H.newarray s3_28 (ty := .long) rfl (k_19 hw) (N := 1) (cap := 1) (by decide) rfl (by decide) (by decide) (by first | rfl | simp) (by decide) (by decide) (i := 2) rfl (A' := [.inl (0, [(.int (129 : Int32)), (.ref (n0 + 1)), .null, .null, .null]), .inr (.long, [(.long (0 : Int64)), (.long (0 : Int64)), (.long (0 : Int64))]), .inr (.long, [(.long (0 : Int64))])]) rfl (k' := 2) rfl (n' := 4) rfl ?_
  refine H.putfield s3_30 (k_21 hw) (i := 0) rfl rfl rfl rfl ?_
  refine H.aloadN s3_33 rfl rfl ?_
  refine H.iloadN s3_34 rfl ?_
  refine H.callSD s3_35 (k_22 hw) (a_77 l hw n0) (argsL := [(.int (129 : Int32))]) (rest := [(.ref (n0 + 0))]) rfl rfl rfl rfl (leb rfl) (leb rfl) (leb rfl) (leb rfl) (st' := [(.ref (n0 + 3)), (.ref (n0 + 0))]) rfl (k' := 3) rfl (n' := 7) rfl ?_
  refine H.putfield s3_38 (k_23 hw) (i := 0) rfl rfl rfl rfl ?_
  refine H.aloadN s3_41 rfl rfl ?_
  refine H.aloadN s3_42 rfl rfl ?_
  refine H.getfield s3_43 (k_4 hw) (i := 0) rfl rfl ?_
  refine H.arraylength s3_46 (i := 1) rfl (z := (3 : Int32)) rfl ?_
  refine H.callSD s3_47 (k_22 hw) (a_79 l hw n0) (argsL := [(.int (3 : Int32))]) (rest := [(.ref (n0 + 0))]) rfl rfl rfl rfl (leb rfl) (leb rfl) (leb rfl) (leb rfl) (st' := [(.ref (n0 + 4)), (.ref (n0 + 0))]) rfl (k' := 4) rfl (n' := 8) rfl ?_
  refine H.putfield s3_50 (k_24 hw) (i := 0) rfl rfl rfl rfl ?_
  exact H.vreturn s3_53 rfl ⟨rfl, rfl⟩ (by decide) (by decide)


theorem a_81 (l : Launch) {Z : State} {a0 : Array Value} (hw : HW1 Z a0) (n0 : Nat)  : Met l Z KT n0 y7 b7 1 none ({ frames := 1, cells := 0, slots := 0, locals := 18 } : Room) #[(.ref (n0 + 0))] [.inl (0, [(.int (129 : Int32)), (.ref (n0 + 1)), (.ref (n0 + 2)), (.ref (n0 + 3)), (.ref (n0 + 4))]), .inr (.long, [(.long (0 : Int64)), (.long (0 : Int64)), (.long (0 : Int64))]), .inr (.long, [(.long (0 : Int64))]), .inr (.long, [(.long (-1 : Int64)), (.long (-1 : Int64)), (.long (1 : Int64))]), .inr (.long, [(.long (7 : Int64))])] (Is none [.inl (0, [(.int (129 : Int32)), (.ref (n0 + 1)), (.ref (n0 + 2)), (.ref (n0 + 3)), (.ref (n0 + 4))]), .inr (.long, [(.long (-1 : Int64)), (.long (-1 : Int64)), (.long (1 : Int64))]), .inr (.long, [(.long (7 : Int64))]), .inr (.long, [(.long (-1 : Int64)), (.long (-1 : Int64)), (.long (1 : Int64))]), .inr (.long, [(.long (7 : Int64))])]) := by
  refine Met.of (a0 := a0) (ls := #[.val (.ref (n0 + 0))]) (kok hw) (plainFor_of_name pn_7) (fun m => by first | (simp [entryFrame, mkF, argsToLocals, Value.category]; done) | rfl) (fun G H => ?_)
  refine H.aloadN s7_0 rfl rfl ?_
  refine H.getfield s7_1 (k_26 hw) (i := 0) rfl rfl ?_
  refine H.iconst s7_4 (v := (0 : Int32)) (by decide) ?_
  refine H.aloadN s7_5 rfl rfl ?_
  refine H.getfield s7_6 (k_4 hw) (i := 0) rfl rfl ?_
  refine H.iconst s7_9 (v := (0 : Int32)) (by decide) ?_
  refine H.aloadN s7_10 rfl rfl ?_
  refine H.getfield s7_11 (k_4 hw) (i := 0) rfl rfl ?_
  refine H.arraylength s7_14 (i := 1) rfl (z := (3 : Int32)) rfl ?_
  refine H.arraycopy s7_15 (k_27 hw) (i := 3) (j := 1) rfl rfl rfl (p := 0) (q := 0) (r := 3) (by decide) (by decide) (by decide) (leb rfl) (leb rfl) (leb rfl) (leb rfl) (us := [(.long (-1 : Int64)), (.long (-1 : Int64)), (.long (1 : Int64))]) rfl rfl (leb rfl) (leb rfl) (by first | rfl | simp) (A' := [.inl (0, [(.int (129 : Int32)), (.ref (n0 + 1)), (.ref (n0 + 2)), (.ref (n0 + 3)), (.ref (n0 + 4))]), .inr (.long, [(.long (-1 : Int64)), (.long (-1 : Int64)), (.long (1 : Int64))]), .inr (.long, [(.long (0 : Int64))]), .inr (.long, [(.long (-1 : Int64)), (.long (-1 : Int64)), (.long (1 : Int64))]), .inr (.long, [(.long (7 : Int64))])]) rfl ?_
  refine H.aloadN s7_18 rfl rfl ?_
  refine H.getfield s7_19 (k_28 hw) (i := 0) rfl rfl ?_
  refine H.iconst s7_22 (v := (0 : Int32)) (by decide) ?_
  refine H.aloadN s7_23 rfl rfl ?_
  refine H.getfield s7_24 (k_6 hw) (i := 0) rfl rfl ?_
  refine H.iconst s7_27 (v := (0 : Int32)) (by decide) ?_
  refine H.aloadN s7_28 rfl rfl ?_
  refine H.getfield s7_29 (k_6 hw) (i := 0) rfl rfl ?_
  refine H.arraylength s7_32 (i := 2) rfl (z := (1 : Int32)) rfl ?_
  refine H.arraycopy s7_33 (k_27 hw) (i := 4) (j := 2) rfl rfl rfl (p := 0) (q := 0) (r := 1) (by decide) (by decide) (by decide) (leb rfl) (leb rfl) (leb rfl) (leb rfl) (us := [(.long (7 : Int64))]) rfl rfl (leb rfl) (leb rfl) (by first | rfl | simp) (A' := [.inl (0, [(.int (129 : Int32)), (.ref (n0 + 1)), (.ref (n0 + 2)), (.ref (n0 + 3)), (.ref (n0 + 4))]), .inr (.long, [(.long (-1 : Int64)), (.long (-1 : Int64)), (.long (1 : Int64))]), .inr (.long, [(.long (7 : Int64))]), .inr (.long, [(.long (-1 : Int64)), (.long (-1 : Int64)), (.long (1 : Int64))]), .inr (.long, [(.long (7 : Int64))])]) rfl ?_
  exact H.vreturn s7_36 rfl ⟨rfl, rfl⟩ (by decide) (by decide)


theorem a_82 (l : Launch) {Z : State} {a0 : Array Value} (hw : HW1 Z a0) (n0 : Nat)  : Met l Z KT n0 y1 b1 2 (some .int) ({ frames := 0, cells := 0, slots := 0, locals := 0 } : Room) #[(.int (1 : Int32)), (.int (130 : Int32))] [] (Is (some (.int (130 : Int32))) []) := by
  refine Met.of (a0 := a0) (ls := #[.val (.int (1 : Int32)), .val (.int (130 : Int32))]) (kok hw) (Jvm.Free.JP.mathPlain rfl (by decide +kernel)) (fun m => by first | (simp [entryFrame, mkF, argsToLocals, Value.category]; done) | rfl) (fun G H => ?_)
  refine H.iloadN s1_0 rfl ?_
  refine H.iloadN s1_1 rfl ?_
  refine H.icmpT s1_2 (show (1 : Int32) < (130 : Int32) by decide) ?_
  refine H.iloadN s1_9 rfl ?_
  exact H.ireturn s1_10 rfl (by simp) rfl ⟨rfl, rfl⟩ (by decide) (by decide)


theorem a_84 (l : Launch) {Z : State} {a0 : Array Value} (hw : HW1 Z a0) (n0 : Nat)  : Met l Z KT n0 y5 b5 1 (some .int) ({ frames := 0, cells := 0, slots := 0, locals := 0 } : Room) #[(.int (130 : Int32))] [.inl (0, [(.int (130 : Int32)), .null, .null, .null, .null])] (Is (some (.int (3 : Int32))) [.inl (0, [(.int (130 : Int32)), .null, .null, .null, .null])]) := by
  refine Met.of (a0 := a0) (ls := #[.val (.int (130 : Int32))]) (kok hw) (plainFor_of_name pn_7) (fun m => by first | (simp [entryFrame, mkF, argsToLocals, Value.category]; done) | rfl) (fun G H => ?_)
  refine H.iloadN s5_0 rfl ?_
  refine H.bipush s5_1 (v := (63 : Int32)) (by decide) ?_
  refine H.iadd s5_3 (w := (193 : Int32)) (by decide) ?_
  refine H.bipush s5_4 (v := (6 : Int32)) (by decide) ?_
  refine H.iushr s5_6 (w := (3 : Int32)) (by decide) ?_
  exact H.ireturn s5_7 rfl (by simp) rfl ⟨rfl, rfl⟩ (by decide) (by decide)


theorem a_85 (l : Launch) {Z : State} {a0 : Array Value} (hw : HW1 Z a0) (n0 : Nat)  : Met l Z KT n0 y5 b5 1 (some .int) ({ frames := 0, cells := 0, slots := 0, locals := 0 } : Room) #[(.int (3 : Int32))] [.inl (0, [(.int (130 : Int32)), (.ref (n0 + 1)), .null, .null, .null]), .inr (.long, [(.long (0 : Int64)), (.long (0 : Int64)), (.long (0 : Int64))])] (Is (some (.int (1 : Int32))) [.inl (0, [(.int (130 : Int32)), (.ref (n0 + 1)), .null, .null, .null]), .inr (.long, [(.long (0 : Int64)), (.long (0 : Int64)), (.long (0 : Int64))])]) := by
  refine Met.of (a0 := a0) (ls := #[.val (.int (3 : Int32))]) (kok hw) (plainFor_of_name pn_7) (fun m => by first | (simp [entryFrame, mkF, argsToLocals, Value.category]; done) | rfl) (fun G H => ?_)
  refine H.iloadN s5_0 rfl ?_
  refine H.bipush s5_1 (v := (63 : Int32)) (by decide) ?_
  refine H.iadd s5_3 (w := (66 : Int32)) (by decide) ?_
  refine H.bipush s5_4 (v := (6 : Int32)) (by decide) ?_
  refine H.iushr s5_6 (w := (1 : Int32)) (by decide) ?_
  exact H.ireturn s5_7 rfl (by simp) rfl ⟨rfl, rfl⟩ (by decide) (by decide)


theorem a_87 (l : Launch) {Z : State} {a0 : Array Value} (hw : HW1 Z a0) (n0 : Nat)  : Met l Z KT n0 y5 b5 1 (some .int) ({ frames := 0, cells := 0, slots := 0, locals := 0 } : Room) #[(.int (130 : Int32))] [.inl (0, [(.int (130 : Int32)), (.ref (n0 + 1)), (.ref (n0 + 2)), .null, .null]), .inr (.long, [(.long (0 : Int64)), (.long (0 : Int64)), (.long (0 : Int64))]), .inr (.long, [(.long (0 : Int64))])] (Is (some (.int (3 : Int32))) [.inl (0, [(.int (130 : Int32)), (.ref (n0 + 1)), (.ref (n0 + 2)), .null, .null]), .inr (.long, [(.long (0 : Int64)), (.long (0 : Int64)), (.long (0 : Int64))]), .inr (.long, [(.long (0 : Int64))])]) := by
  refine Met.of (a0 := a0) (ls := #[.val (.int (130 : Int32))]) (kok hw) (plainFor_of_name pn_7) (fun m => by first | (simp [entryFrame, mkF, argsToLocals, Value.category]; done) | rfl) (fun G H => ?_)
  refine H.iloadN s5_0 rfl ?_
  refine H.bipush s5_1 (v := (63 : Int32)) (by decide) ?_
  refine H.iadd s5_3 (w := (193 : Int32)) (by decide) ?_
  refine H.bipush s5_4 (v := (6 : Int32)) (by decide) ?_
  refine H.iushr s5_6 (w := (3 : Int32)) (by decide) ?_
  exact H.ireturn s5_7 rfl (by simp) rfl ⟨rfl, rfl⟩ (by decide) (by decide)


theorem a_86 (l : Launch) {Z : State} {a0 : Array Value} (hw : HW1 Z a0) (n0 : Nat)  : Met l Z KT n0 y6 b6 3 (some (.array .long)) ({ frames := 1, cells := 1, slots := 3, locals := 12 } : Room) #[(.int (130 : Int32))] [.inl (0, [(.int (130 : Int32)), (.ref (n0 + 1)), (.ref (n0 + 2)), .null, .null]), .inr (.long, [(.long (0 : Int64)), (.long (0 : Int64)), (.long (0 : Int64))]), .inr (.long, [(.long (0 : Int64))])] (Is (some (.ref (n0 + 3))) [.inl (0, [(.int (130 : Int32)), (.ref (n0 + 1)), (.ref (n0 + 2)), .null, .null]), .inr (.long, [(.long (0 : Int64)), (.long (0 : Int64)), (.long (0 : Int64))]), .inr (.long, [(.long (0 : Int64))]), .inr (.long, [(.long (-1 : Int64)), (.long (-1 : Int64)), (.long (3 : Int64))])]) := by
  refine Met.of (a0 := a0) (ls := #[.val (.int (130 : Int32)), .unset, .unset]) (kok hw) (plainFor_of_name pn_7) (fun m => by first | (simp [entryFrame, mkF, argsToLocals, Value.category]; done) | rfl) (fun G H => ?_)
  refine H.iloadN s6_0 rfl ?_
  refine H.callSD s6_1 (k_18 hw) (a_87 l hw n0) (argsL := [(.int (130 : Int32))]) (rest := []) rfl rfl rfl rfl (leb rfl) (leb rfl) (leb rfl) (leb rfl) (st' := [(.int (3 : Int32))]) rfl (k' := 0) rfl (n' := 0) rfl ?_
  refine H.newarray s6_4 (ty := .long) rfl (k_19 hw) (N := 3) (cap := 3) (by decide) rfl (by decide) (by decide) (by first | rfl | simp) (by decide) (by decide) (i := 3) rfl (A' := [.inl (0, [(.int (130 : Int32)), (.ref (n0 + 1)), (.ref (n0 + 2)), .null, .null]), .inr (.long, [(.long (0 : Int64)), (.long (0 : Int64)), (.long (0 : Int64))]), .inr (.long, [(.long (0 : Int64))]), .inr (.long, [(.long (0 : Int64)), (.long (0 : Int64)), (.long (0 : Int64))])]) rfl (k' := 1) rfl (n' := 3) rfl ?_
  refine H.astoreN s6_6 rfl (ls' := #[.val (.int (130 : Int32)), .val (.ref (n0 + 3)), .unset]) rfl ?_
  refine H.iconst s6_7 (v := (0 : Int32)) (by decide) ?_
  refine H.istoreN s6_8 (ls' := #[.val (.int (130 : Int32)), .val (.ref (n0 + 3)), .val (.int (0 : Int32))]) rfl ?_
  refine H.iloadN s6_9 rfl ?_
  refine H.aloadN s6_10 rfl rfl ?_
  refine H.arraylength s6_11 (i := 3) rfl (z := (3 : Int32)) rfl ?_
  refine H.icmpF s6_12 (show (0 : Int32) < (3 : Int32) by decide) ?_
  refine H.aloadN s6_15 rfl rfl ?_
  refine H.iloadN s6_16 rfl ?_
  refine H.ldc2 s6_17 (k_5 hw) ?_
  refine H.lastore s6_20 (i := 3) (j := 0) rfl (by decide) (ltb rfl)  rfl ?_
  refine H.iinc s6_21 rfl (w := (1 : Int32)) (by decide) (ls' := #[.val (.int (130 : Int32)), .val (.ref (n0 + 3)), .val (.int (1 : Int32))]) rfl ?_
  refine H.goto s6_24 ?_
  refine H.iloadN s6_9 rfl ?_
  refine H.aloadN s6_10 rfl rfl ?_
  refine H.arraylength s6_11 (i := 3) rfl (z := (3 : Int32)) rfl ?_
  refine H.icmpF s6_12 (show (1 : Int32) < (3 : Int32) by decide) ?_
  refine H.aloadN s6_15 rfl rfl ?_
  refine H.iloadN s6_16 rfl ?_
  refine H.ldc2 s6_17 (k_5 hw) ?_
  refine H.lastore s6_20 (i := 3) (j := 1) rfl (by decide) (ltb rfl)  rfl ?_
  refine H.iinc s6_21 rfl (w := (2 : Int32)) (by decide) (ls' := #[.val (.int (130 : Int32)), .val (.ref (n0 + 3)), .val (.int (2 : Int32))]) rfl ?_
  refine H.goto s6_24 ?_
  refine H.iloadN s6_9 rfl ?_
  refine H.aloadN s6_10 rfl rfl ?_
  refine H.arraylength s6_11 (i := 3) rfl (z := (3 : Int32)) rfl ?_
  refine H.icmpF s6_12 (show (2 : Int32) < (3 : Int32) by decide) ?_
  refine H.aloadN s6_15 rfl rfl ?_
  refine H.iloadN s6_16 rfl ?_
  refine H.ldc2 s6_17 (k_5 hw) ?_
  refine H.lastore s6_20 (i := 3) (j := 2) rfl (by decide) (ltb rfl)  rfl ?_
  refine H.iinc s6_21 rfl (w := (3 : Int32)) (by decide) (ls' := #[.val (.int (130 : Int32)), .val (.ref (n0 + 3)), .val (.int (3 : Int32))]) rfl ?_
  refine H.goto s6_24 ?_
  refine H.iloadN s6_9 rfl ?_
  refine H.aloadN s6_10 rfl rfl ?_
  refine H.arraylength s6_11 (i := 3) rfl (z := (3 : Int32)) rfl ?_
  refine H.icmpT s6_12 (show ¬ (3 : Int32) < (3 : Int32) by decide) ?_
  refine H.iloadN s6_27 rfl ?_
  refine H.bipush s6_28 (v := (64 : Int32)) (by decide) ?_
  refine H.irem s6_30 (by decide) (w := (2 : Int32)) (by decide) ?_
  refine H.ifF s6_31 (show ¬ (2 : Int32) = (0 : Int32) by decide) ?_
  refine H.aloadN s6_34 rfl rfl ?_
  refine H.aloadN s6_35 rfl rfl ?_
  refine H.arraylength s6_36 (i := 3) rfl (z := (3 : Int32)) rfl ?_
  refine H.iconst s6_37 (v := (1 : Int32)) (by decide) ?_
  refine H.isub s6_38 (w := (2 : Int32)) (by decide) ?_
  refine H.lconst s6_39 (v := (1 : Int64)) (by decide) ?_
  refine H.iloadN s6_40 rfl ?_
  refine H.lshl s6_41 (w := (4 : Int64)) (by decide) ?_
  refine H.lconst s6_42 (v := (1 : Int64)) (by decide) ?_
  refine H.lsub s6_43 (w := (3 : Int64)) (by decide) ?_
  refine H.lastore s6_44 (i := 3) (j := 2) rfl (by decide) (ltb rfl)  rfl ?_
  refine H.aloadN s6_45 rfl rfl ?_
  exact H.areturn s6_46 rfl rfl rfl rfl ⟨rfl, rfl⟩ (by decide) (by decide)


theorem a_89 (l : Launch) {Z : State} {a0 : Array Value} (hw : HW1 Z a0) (n0 : Nat)  : Met l Z KT n0 y5 b5 1 (some .int) ({ frames := 0, cells := 0, slots := 0, locals := 0 } : Room) #[(.int (3 : Int32))] [.inl (0, [(.int (130 : Int32)), (.ref (n0 + 1)), (.ref (n0 + 2)), (.ref (n0 + 3)), .null]), .inr (.long, [(.long (0 : Int64)), (.long (0 : Int64)), (.long (0 : Int64))]), .inr (.long, [(.long (0 : Int64))]), .inr (.long, [(.long (-1 : Int64)), (.long (-1 : Int64)), (.long (3 : Int64))])] (Is (some (.int (1 : Int32))) [.inl (0, [(.int (130 : Int32)), (.ref (n0 + 1)), (.ref (n0 + 2)), (.ref (n0 + 3)), .null]), .inr (.long, [(.long (0 : Int64)), (.long (0 : Int64)), (.long (0 : Int64))]), .inr (.long, [(.long (0 : Int64))]), .inr (.long, [(.long (-1 : Int64)), (.long (-1 : Int64)), (.long (3 : Int64))])]) := by
  refine Met.of (a0 := a0) (ls := #[.val (.int (3 : Int32))]) (kok hw) (plainFor_of_name pn_7) (fun m => by first | (simp [entryFrame, mkF, argsToLocals, Value.category]; done) | rfl) (fun G H => ?_)
  refine H.iloadN s5_0 rfl ?_
  refine H.bipush s5_1 (v := (63 : Int32)) (by decide) ?_
  refine H.iadd s5_3 (w := (66 : Int32)) (by decide) ?_
  refine H.bipush s5_4 (v := (6 : Int32)) (by decide) ?_
  refine H.iushr s5_6 (w := (1 : Int32)) (by decide) ?_
  exact H.ireturn s5_7 rfl (by simp) rfl ⟨rfl, rfl⟩ (by decide) (by decide)


theorem a_88 (l : Launch) {Z : State} {a0 : Array Value} (hw : HW1 Z a0) (n0 : Nat)  : Met l Z KT n0 y6 b6 3 (some (.array .long)) ({ frames := 1, cells := 1, slots := 1, locals := 12 } : Room) #[(.int (3 : Int32))] [.inl (0, [(.int (130 : Int32)), (.ref (n0 + 1)), (.ref (n0 + 2)), (.ref (n0 + 3)), .null]), .inr (.long, [(.long (0 : Int64)), (.long (0 : Int64)), (.long (0 : Int64))]), .inr (.long, [(.long (0 : Int64))]), .inr (.long, [(.long (-1 : Int64)), (.long (-1 : Int64)), (.long (3 : Int64))])] (Is (some (.ref (n0 + 4))) [.inl (0, [(.int (130 : Int32)), (.ref (n0 + 1)), (.ref (n0 + 2)), (.ref (n0 + 3)), .null]), .inr (.long, [(.long (0 : Int64)), (.long (0 : Int64)), (.long (0 : Int64))]), .inr (.long, [(.long (0 : Int64))]), .inr (.long, [(.long (-1 : Int64)), (.long (-1 : Int64)), (.long (3 : Int64))]), .inr (.long, [(.long (7 : Int64))])]) := by
  refine Met.of (a0 := a0) (ls := #[.val (.int (3 : Int32)), .unset, .unset]) (kok hw) (plainFor_of_name pn_7) (fun m => by first | (simp [entryFrame, mkF, argsToLocals, Value.category]; done) | rfl) (fun G H => ?_)
  refine H.iloadN s6_0 rfl ?_
  refine H.callSD s6_1 (k_18 hw) (a_89 l hw n0) (argsL := [(.int (3 : Int32))]) (rest := []) rfl rfl rfl rfl (leb rfl) (leb rfl) (leb rfl) (leb rfl) (st' := [(.int (1 : Int32))]) rfl (k' := 0) rfl (n' := 0) rfl ?_
  refine H.newarray s6_4 (ty := .long) rfl (k_19 hw) (N := 1) (cap := 1) (by decide) rfl (by decide) (by decide) (by first | rfl | simp) (by decide) (by decide) (i := 4) rfl (A' := [.inl (0, [(.int (130 : Int32)), (.ref (n0 + 1)), (.ref (n0 + 2)), (.ref (n0 + 3)), .null]), .inr (.long, [(.long (0 : Int64)), (.long (0 : Int64)), (.long (0 : Int64))]), .inr (.long, [(.long (0 : Int64))]), .inr (.long, [(.long (-1 : Int64)), (.long (-1 : Int64)), (.long (3 : Int64))]), .inr (.long, [(.long (0 : Int64))])]) rfl (k' := 1) rfl (n' := 1) rfl ?_
  refine H.astoreN s6_6 rfl (ls' := #[.val (.int (3 : Int32)), .val (.ref (n0 + 4)), .unset]) rfl ?_
  refine H.iconst s6_7 (v := (0 : Int32)) (by decide) ?_
  refine H.istoreN s6_8 (ls' := #[.val (.int (3 : Int32)), .val (.ref (n0 + 4)), .val (.int (0 : Int32))]) rfl ?_
  refine H.iloadN s6_9 rfl ?_
  refine H.aloadN s6_10 rfl rfl ?_
  refine H.arraylength s6_11 (i := 4) rfl (z := (1 : Int32)) rfl ?_
  refine H.icmpF s6_12 (show (0 : Int32) < (1 : Int32) by decide) ?_
  refine H.aloadN s6_15 rfl rfl ?_
  refine H.iloadN s6_16 rfl ?_
  refine H.ldc2 s6_17 (k_5 hw) ?_
  refine H.lastore s6_20 (i := 4) (j := 0) rfl (by decide) (ltb rfl)  rfl ?_
  refine H.iinc s6_21 rfl (w := (1 : Int32)) (by decide) (ls' := #[.val (.int (3 : Int32)), .val (.ref (n0 + 4)), .val (.int (1 : Int32))]) rfl ?_
  refine H.goto s6_24 ?_
  refine H.iloadN s6_9 rfl ?_
  refine H.aloadN s6_10 rfl rfl ?_
  refine H.arraylength s6_11 (i := 4) rfl (z := (1 : Int32)) rfl ?_
  refine H.icmpT s6_12 (show ¬ (1 : Int32) < (1 : Int32) by decide) ?_
  refine H.iloadN s6_27 rfl ?_
  refine H.bipush s6_28 (v := (64 : Int32)) (by decide) ?_
  refine H.irem s6_30 (by decide) (w := (3 : Int32)) (by decide) ?_
  refine H.ifF s6_31 (show ¬ (3 : Int32) = (0 : Int32) by decide) ?_
  refine H.aloadN s6_34 rfl rfl ?_
  refine H.aloadN s6_35 rfl rfl ?_
  refine H.arraylength s6_36 (i := 4) rfl (z := (1 : Int32)) rfl ?_
  refine H.iconst s6_37 (v := (1 : Int32)) (by decide) ?_
  refine H.isub s6_38 (w := (0 : Int32)) (by decide) ?_
  refine H.lconst s6_39 (v := (1 : Int64)) (by decide) ?_
  refine H.iloadN s6_40 rfl ?_
  refine H.lshl s6_41 (w := (8 : Int64)) (by decide) ?_
  refine H.lconst s6_42 (v := (1 : Int64)) (by decide) ?_
  refine H.lsub s6_43 (w := (7 : Int64)) (by decide) ?_
  refine H.lastore s6_44 (i := 4) (j := 0) rfl (by decide) (ltb rfl)  rfl ?_
  refine H.aloadN s6_45 rfl rfl ?_
  exact H.areturn s6_46 rfl rfl rfl rfl ⟨rfl, rfl⟩ (by decide) (by decide)


theorem a_83 (l : Launch) {Z : State} {a0 : Array Value} (hw : HW1 Z a0) (n0 : Nat)  : Met l Z KT n0 y3 b3 2 none ({ frames := 2, cells := 4, slots := 8, locals := 27 } : Room) #[(.ref (n0 + 0)), (.int (130 : Int32))] [.inl (0, [(.int (0 : Int32)), .null, .null, .null, .null])] (Is none [.inl (0, [(.int (130 : Int32)), (.ref (n0 + 1)), (.ref (n0 + 2)), (.ref (n0 + 3)), (.ref (n0 + 4))]), .inr (.long, [(.long (0 : Int64)), (.long (0 : Int64)), (.long (0 : Int64))]), .inr (.long, [(.long (0 : Int64))]), .inr (.long, [(.long (-1 : Int64)), (.long (-1 : Int64)), (.long (3 : Int64))]), .inr (.long, [(.long (7 : Int64))])]) := by
  refine Met.of (a0 := a0) (ls := #[.val (.ref (n0 + 0)), .val (.int (130 : Int32))]) (kok hw) (plainFor_of_name pn_7) (fun m => by first | (simp [entryFrame, mkF, argsToLocals, Value.category]; done) | rfl) (fun G H => ?_)
  refine H.aloadN s3_0 rfl rfl ?_
  refine H.initO s3_1 (k_16 hw) rfl (leb rfl) (leb rfl) ?_
  refine H.aloadN s3_4 rfl rfl ?_
  refine H.iloadN s3_5 rfl ?_
  refine H.putfield s3_6 (k_17 hw) (i := 0) rfl rfl rfl rfl ?_
  refine H.aloadN s3_9 rfl rfl ?_
  refine H.iloadN s3_10 rfl ?_
  refine H.callSD s3_11 (k_18 hw) (a_84 l hw n0) (argsL := [(.int (130 : Int32))]) (rest := [(.ref (n0 + 0))]) rfl rfl rfl rfl (leb rfl) (leb rfl) (leb rfl) (leb rfl) (st' := [(.int (3 : Int32)), (.ref (n0 + 0))]) rfl (k' := 0) rfl (n' := 0) rfl ?_
  refine H.newarray s3_14 (ty := .long) rfl (k_19 hw) (N := 3) (cap := 3) (by decide) rfl (by decide) (by decide) (by first | rfl | simp) (by decide) (by decide) (i := 1) rfl (A' := [.inl (0, [(.int (130 : Int32)), .null, .null, .null, .null]), .inr (.long, [(.long (0 : Int64)), (.long (0 : Int64)), (.long (0 : Int64))])]) rfl (k' := 1) rfl (n' := 3) rfl ?_
  refine H.putfield s3_16 (k_20 hw) (i := 0) rfl rfl rfl rfl ?_
  refine H.aloadN s3_19 rfl rfl ?_
  refine H.aloadN s3_20 rfl rfl ?_
  refine H.getfield s3_21 (k_4 hw) (i := 0) rfl rfl ?_
  refine H.arraylength s3_24 (i := 1) rfl (z := (3 : Int32)) rfl ?_
  refine H.callSD s3_25 (k_18 hw) (a_85 l hw n0) (argsL := [(.int (3 : Int32))]) (rest := [(.ref (n0 + 0))]) rfl rfl rfl rfl (leb rfl) (leb rfl) (leb rfl) (leb rfl) (st' := [(.int (1 : Int32)), (.ref (n0 + 0))]) rfl (k' := 1) rfl (n' := 3) rfl ?_
  refine H.newarray s3_28 (ty := .long) rfl (k_19 hw) (N := 1) (cap := 1) (by decide) rfl (by decide) (by decide) (by first | rfl | simp) (by decide) (by decide) (i := 2) rfl (A' := [.inl (0, [(.int (130 : Int32)), (.ref (n0 + 1)), .null, .null, .null]), .inr (.long, [(.long (0 : Int64)), (.long (0 : Int64)), (.long (0 : Int64))]), .inr (.long, [(.long (0 : Int64))])]) rfl (k' := 2) rfl (n' := 4) rfl ?_
  refine H.putfield s3_30 (k_21 hw) (i := 0) rfl rfl rfl rfl ?_
  refine H.aloadN s3_33 rfl rfl ?_
  refine H.iloadN s3_34 rfl ?_
  refine H.callSD s3_35 (k_22 hw) (a_86 l hw n0) (argsL := [(.int (130 : Int32))]) (rest := [(.ref (n0 + 0))]) rfl rfl rfl rfl (leb rfl) (leb rfl) (leb rfl) (leb rfl) (st' := [(.ref (n0 + 3)), (.ref (n0 + 0))]) rfl (k' := 3) rfl (n' := 7) rfl ?_
  refine H.putfield s3_38 (k_23 hw) (i := 0) rfl rfl rfl rfl ?_
  refine H.aloadN s3_41 rfl rfl ?_
  refine H.aloadN s3_42 rfl rfl ?_
  refine H.getfield s3_43 (k_4 hw) (i := 0) rfl rfl ?_
  refine H.arraylength s3_46 (i := 1) rfl (z := (3 : Int32)) rfl ?_
  refine H.callSD s3_47 (k_22 hw) (a_88 l hw n0) (argsL := [(.int (3 : Int32))]) (rest := [(.ref (n0 + 0))]) rfl rfl rfl rfl (leb rfl) (leb rfl) (leb rfl) (leb rfl) (st' := [(.ref (n0 + 4)), (.ref (n0 + 0))]) rfl (k' := 4) rfl (n' := 8) rfl ?_
  refine H.putfield s3_50 (k_24 hw) (i := 0) rfl rfl rfl rfl ?_
  exact H.vreturn s3_53 rfl ⟨rfl, rfl⟩ (by decide) (by decide)


theorem a_90 (l : Launch) {Z : State} {a0 : Array Value} (hw : HW1 Z a0) (n0 : Nat)  : Met l Z KT n0 y7 b7 1 none ({ frames := 1, cells := 0, slots := 0, locals := 18 } : Room) #[(.ref (n0 + 0))] [.inl (0, [(.int (130 : Int32)), (.ref (n0 + 1)), (.ref (n0 + 2)), (.ref (n0 + 3)), (.ref (n0 + 4))]), .inr (.long, [(.long (0 : Int64)), (.long (0 : Int64)), (.long (0 : Int64))]), .inr (.long, [(.long (0 : Int64))]), .inr (.long, [(.long (-1 : Int64)), (.long (-1 : Int64)), (.long (3 : Int64))]), .inr (.long, [(.long (7 : Int64))])] (Is none [.inl (0, [(.int (130 : Int32)), (.ref (n0 + 1)), (.ref (n0 + 2)), (.ref (n0 + 3)), (.ref (n0 + 4))]), .inr (.long, [(.long (-1 : Int64)), (.long (-1 : Int64)), (.long (3 : Int64))]), .inr (.long, [(.long (7 : Int64))]), .inr (.long, [(.long (-1 : Int64)), (.long (-1 : Int64)), (.long (3 : Int64))]), .inr (.long, [(.long (7 : Int64))])]) := by
  refine Met.of (a0 := a0) (ls := #[.val (.ref (n0 + 0))]) (kok hw) (plainFor_of_name pn_7) (fun m => by first | (simp [entryFrame, mkF, argsToLocals, Value.category]; done) | rfl) (fun G H => ?_)
  refine H.aloadN s7_0 rfl rfl ?_
  refine H.getfield s7_1 (k_26 hw) (i := 0) rfl rfl ?_
  refine H.iconst s7_4 (v := (0 : Int32)) (by decide) ?_
  refine H.aloadN s7_5 rfl rfl ?_
  refine H.getfield s7_6 (k_4 hw) (i := 0) rfl rfl ?_
  refine H.iconst s7_9 (v := (0 : Int32)) (by decide) ?_
  refine H.aloadN s7_10 rfl rfl ?_
  refine H.getfield s7_11 (k_4 hw) (i := 0) rfl rfl ?_
  refine H.arraylength s7_14 (i := 1) rfl (z := (3 : Int32)) rfl ?_
  refine H.arraycopy s7_15 (k_27 hw) (i := 3) (j := 1) rfl rfl rfl (p := 0) (q := 0) (r := 3) (by decide) (by decide) (by decide) (leb rfl) (leb rfl) (leb rfl) (leb rfl) (us := [(.long (-1 : Int64)), (.long (-1 : Int64)), (.long (3 : Int64))]) rfl rfl (leb rfl) (leb rfl) (by first | rfl | simp) (A' := [.inl (0, [(.int (130 : Int32)), (.ref (n0 + 1)), (.ref (n0 + 2)), (.ref (n0 + 3)), (.ref (n0 + 4))]), .inr (.long, [(.long (-1 : Int64)), (.long (-1 : Int64)), (.long (3 : Int64))]), .inr (.long, [(.long (0 : Int64))]), .inr (.long, [(.long (-1 : Int64)), (.long (-1 : Int64)), (.long (3 : Int64))]), .inr (.long, [(.long (7 : Int64))])]) rfl ?_
  refine H.aloadN s7_18 rfl rfl ?_
  refine H.getfield s7_19 (k_28 hw) (i := 0) rfl rfl ?_
  refine H.iconst s7_22 (v := (0 : Int32)) (by decide) ?_
  refine H.aloadN s7_23 rfl rfl ?_
  refine H.getfield s7_24 (k_6 hw) (i := 0) rfl rfl ?_
  refine H.iconst s7_27 (v := (0 : Int32)) (by decide) ?_
  refine H.aloadN s7_28 rfl rfl ?_
  refine H.getfield s7_29 (k_6 hw) (i := 0) rfl rfl ?_
  refine H.arraylength s7_32 (i := 2) rfl (z := (1 : Int32)) rfl ?_
  refine H.arraycopy s7_33 (k_27 hw) (i := 4) (j := 2) rfl rfl rfl (p := 0) (q := 0) (r := 1) (by decide) (by decide) (by decide) (leb rfl) (leb rfl) (leb rfl) (leb rfl) (us := [(.long (7 : Int64))]) rfl rfl (leb rfl) (leb rfl) (by first | rfl | simp) (A' := [.inl (0, [(.int (130 : Int32)), (.ref (n0 + 1)), (.ref (n0 + 2)), (.ref (n0 + 3)), (.ref (n0 + 4))]), .inr (.long, [(.long (-1 : Int64)), (.long (-1 : Int64)), (.long (3 : Int64))]), .inr (.long, [(.long (7 : Int64))]), .inr (.long, [(.long (-1 : Int64)), (.long (-1 : Int64)), (.long (3 : Int64))]), .inr (.long, [(.long (7 : Int64))])]) rfl ?_
  exact H.vreturn s7_36 rfl ⟨rfl, rfl⟩ (by decide) (by decide)


theorem a_91 (l : Launch) {Z : State} {a0 : Array Value} (hw : HW1 Z a0) (n0 : Nat)  : Met l Z KT n0 y1 b1 2 (some .int) ({ frames := 0, cells := 0, slots := 0, locals := 0 } : Room) #[(.int (1 : Int32)), (.int (131 : Int32))] [] (Is (some (.int (131 : Int32))) []) := by
  refine Met.of (a0 := a0) (ls := #[.val (.int (1 : Int32)), .val (.int (131 : Int32))]) (kok hw) (Jvm.Free.JP.mathPlain rfl (by decide +kernel)) (fun m => by first | (simp [entryFrame, mkF, argsToLocals, Value.category]; done) | rfl) (fun G H => ?_)
  refine H.iloadN s1_0 rfl ?_
  refine H.iloadN s1_1 rfl ?_
  refine H.icmpT s1_2 (show (1 : Int32) < (131 : Int32) by decide) ?_
  refine H.iloadN s1_9 rfl ?_
  exact H.ireturn s1_10 rfl (by simp) rfl ⟨rfl, rfl⟩ (by decide) (by decide)


theorem a_93 (l : Launch) {Z : State} {a0 : Array Value} (hw : HW1 Z a0) (n0 : Nat)  : Met l Z KT n0 y5 b5 1 (some .int) ({ frames := 0, cells := 0, slots := 0, locals := 0 } : Room) #[(.int (131 : Int32))] [.inl (0, [(.int (131 : Int32)), .null, .null, .null, .null])] (Is (some (.int (3 : Int32))) [.inl (0, [(.int (131 : Int32)), .null, .null, .null, .null])]) := by
  refine Met.of (a0 := a0) (ls := #[.val (.int (131 : Int32))]) (kok hw) (plainFor_of_name pn_7) (fun m => by first | (simp [entryFrame, mkF, argsToLocals, Value.category]; done) | rfl) (fun G H => ?_)
  refine H.iloadN s5_0 rfl ?_
  refine H.bipush s5_1 (v := (63 : Int32)) (by decide) ?_
  refine H.iadd s5_3 (w := (194 : Int32)) (by decide) ?_
  refine H.bipush s5_4 (v := (6 : Int32)) (by decide) ?_
  refine H.iushr s5_6 (w := (3 : Int32)) (by decide) ?_
  exact H.ireturn s5_7 rfl (by simp) rfl ⟨rfl, rfl⟩ (by decide) (by decide)


theorem a_94 (l : Launch) {Z : State} {a0 : Array Value} (hw : HW1 Z a0) (n0 : Nat)  : Met l Z KT n0 y5 b5 1 (some .int) ({ frames := 0, cells := 0, slots := 0, locals := 0 } : Room) #[(.int (3 : Int32))] [.inl (0, [(.int (131 : Int32)), (.ref (n0 + 1)), .null, .null, .null]), .inr (.long, [(.long (0 : Int64)), (.long (0 : Int64)), (.long (0 : Int64))])] (Is (some (.int (1 : Int32))) [.inl (0, [(.int (131 : Int32)), (.ref (n0 + 1)), .null, .null, .null]), .inr (.long, [(.long (0 : Int64)), (.long (0 : Int64)), (.long (0 : Int64))])]) := by
  refine Met.of (a0 := a0) (ls := #[.val (.int (3 : Int32))]) (kok hw) (plainFor_of_name pn_7) (fun m => by first | (simp [entryFrame, mkF, argsToLocals, Value.category]; done) | rfl) (fun G H => ?_)
  refine H.iloadN s5_0 rfl ?_
  refine H.bipush s5_1 (v := (63 : Int32)) (by decide) ?_
  refine H.iadd s5_3 (w := (66 : Int32)) (by decide) ?_
  refine H.bipush s5_4 (v := (6 : Int32)) (by decide) ?_
  refine H.iushr s5_6 (w := (1 : Int32)) (by decide) ?_
  exact H.ireturn s5_7 rfl (by simp) rfl ⟨rfl, rfl⟩ (by decide) (by decide)


theorem a_96 (l : Launch) {Z : State} {a0 : Array Value} (hw : HW1 Z a0) (n0 : Nat)  : Met l Z KT n0 y5 b5 1 (some .int) ({ frames := 0, cells := 0, slots := 0, locals := 0 } : Room) #[(.int (131 : Int32))] [.inl (0, [(.int (131 : Int32)), (.ref (n0 + 1)), (.ref (n0 + 2)), .null, .null]), .inr (.long, [(.long (0 : Int64)), (.long (0 : Int64)), (.long (0 : Int64))]), .inr (.long, [(.long (0 : Int64))])] (Is (some (.int (3 : Int32))) [.inl (0, [(.int (131 : Int32)), (.ref (n0 + 1)), (.ref (n0 + 2)), .null, .null]), .inr (.long, [(.long (0 : Int64)), (.long (0 : Int64)), (.long (0 : Int64))]), .inr (.long, [(.long (0 : Int64))])]) := by
  refine Met.of (a0 := a0) (ls := #[.val (.int (131 : Int32))]) (kok hw) (plainFor_of_name pn_7) (fun m => by first | (simp [entryFrame, mkF, argsToLocals, Value.category]; done) | rfl) (fun G H => ?_)
  refine H.iloadN s5_0 rfl ?_
  refine H.bipush s5_1 (v := (63 : Int32)) (by decide) ?_
  refine H.iadd s5_3 (w := (194 : Int32)) (by decide) ?_
  refine H.bipush s5_4 (v := (6 : Int32)) (by decide) ?_
  refine H.iushr s5_6 (w := (3 : Int32)) (by decide) ?_
  exact H.ireturn s5_7 rfl (by simp) rfl ⟨rfl, rfl⟩ (by decide) (by decide)


theorem a_95 (l : Launch) {Z : State} {a0 : Array Value} (hw : HW1 Z a0) (n0 : Nat)  : Met l Z KT n0 y6 b6 3 (some (.array .long)) ({ frames := 1, cells := 1, slots := 3, locals := 12 } : Room) #[(.int (131 : Int32))] [.inl (0, [(.int (131 : Int32)), (.ref (n0 + 1)), (.ref (n0 + 2)), .null, .null]), .inr (.long, [(.long (0 : Int64)), (.long (0 : Int64)), (.long (0 : Int64))]), .inr (.long, [(.long (0 : Int64))])] (Is (some (.ref (n0 + 3))) [.inl (0, [(.int (131 : Int32)), (.ref (n0 + 1)), (.ref (n0 + 2)), .null, .null]), .inr (.long, [(.long (0 : Int64)), (.long (0 : Int64)), (.long (0 : Int64))]), .inr (.long, [(.long (0 : Int64))]), .inr (.long, [(.long (-1 : Int64)), (.long (-1 : Int64)), (.long (7 : Int64))])]) := by
  refine Met.of (a0 := a0) (ls := #[.val (.int (131 : Int32)), .unset, .unset]) (kok hw) (plainFor_of_name pn_7) (fun m => by first | (simp [entryFrame, mkF, argsToLocals, Value.category]; done) | rfl) (fun G H => ?_)
  refine H.iloadN s6_0 rfl ?_
  refine H.callSD s6_1 (k_18 hw) (a_96 l hw n0) (argsL := [(.int (131 : Int32))]) (rest := []) rfl rfl rfl rfl (leb rfl) (leb rfl) (leb rfl) (leb rfl) (st' := [(.int (3 : Int32))]) rfl (k' := 0) rfl (n' := 0) rfl ?_
  refine H.newarray s6_4 (ty := .long) rfl (k_19 hw) (N := 3) (cap := 3) (by decide) rfl (by decide) (by decide) (by first | rfl | simp) (by decide) (by decide) (i := 3) rfl (A' := [.inl (0, [(.int (131 : Int32)), (.ref (n0 + 1)), (.ref (n0 + 2)), .null, .null]), .inr (.long, [(.long (0 : Int64)), (.long (0 : Int64)), (.long (0 : Int64))]), .inr (.long, [(.long (0 : Int64))]), .inr (.long, [(.long (0 : Int64)), (.long (0 : Int64)), (.long (0 : Int64))])]) rfl (k' := 1) rfl (n' := 3) rfl ?_
  refine H.astoreN s6_6 rfl (ls' := #[.val (.int (131 : Int32)), .val (.ref (n0 + 3)), .unset]) rfl ?_
  refine H.iconst s6_7 (v := (0 : Int32)) (by decide) ?_
  refine H.istoreN s6_8 (ls' := #[.val (.int (131 : Int32)), .val (.ref (n0 + 3)), .val (.int (0 : Int32))]) rfl ?_
  refine H.iloadN s6_9 rfl ?_
  refine H.aloadN s6_10 rfl rfl ?_
  refine H.arraylength s6_11 (i := 3) rfl (z := (3 : Int32)) rfl ?_
  refine H.icmpF s6_12 (show (0 : Int32) < (3 : Int32) by decide) ?_
  refine H.aloadN s6_15 rfl rfl ?_
  refine H.iloadN s6_16 rfl ?_
  refine H.ldc2 s6_17 (k_5 hw) ?_
  refine H.lastore s6_20 (i := 3) (j := 0) rfl (by decide) (ltb rfl)  rfl ?_
  refine H.iinc s6_21 rfl (w := (1 : Int32)) (by decide) (ls' := #[.val (.int (131 : Int32)), .val (.ref (n0 + 3)), .val (.int (1 : Int32))]) rfl ?_
  refine H.goto s6_24 ?_
  refine H.iloadN s6_9 rfl ?_
  refine H.aloadN s6_10 rfl rfl ?_
  refine H.arraylength s6_11 (i := 3) rfl (z := (3 : Int32)) rfl ?_
  refine H.icmpF s6_12 (show (1 : Int32) < (3 : Int32) by decide) ?_
  refine H.aloadN s6_15 rfl rfl ?_
  refine H.iloadN s6_16 rfl ?_
  refine H.ldc2 s6_17 (k_5 hw) ?_
  refine H.lastore s6_20 (i := 3) (j := 1) rfl (by decide) (ltb rfl)  rfl ?_
  refine H.iinc s6_21 rfl (w := (2 : Int32)) (by decide) (ls' := #[.val (.int (131 : Int32)), .val (.ref (n0 + 3)), .val (.int (2 : Int32))]) rfl ?_
  refine H.goto s6_24 ?_
  refine H.iloadN s6_9 rfl ?_
  refine H.aloadN s6_10 rfl rfl ?_
  refine H.arraylength s6_11 (i := 3) rfl (z := (3 : Int32)) rfl ?_
  refine H.icmpF s6_12 (show (2 : Int32) < (3 : Int32) by decide) ?_
  refine H.aloadN s6_15 rfl rfl ?_
  refine H.iloadN s6_16 rfl ?_
  refine H.ldc2 s6_17 (k_5 hw) ?_
  refine H.lastore s6_20 (i := 3) (j := 2) rfl (by decide) (ltb rfl)  rfl ?_
  refine H.iinc s6_21 rfl (w := (3 : Int32)) (by decide) (ls' := #[.val (.int (131 : Int32)), .val (.ref (n0 + 3)), .val (.int (3 : Int32))]) rfl ?_
  refine H.goto s6_24 ?_
  refine H.iloadN s6_9 rfl ?_
  refine H.aloadN s6_10 rfl rfl ?_
  refine H.arraylength s6_11 (i := 3) rfl (z := (3 : Int32)) rfl ?_
  refine H.icmpT s6_12 (show ¬ (3 : Int32) < (3 : Int32) by decide) ?_
  refine H.iloadN s6_27 rfl ?_
  refine H.bipush s6_28 (v := (64 : Int32)) (by decide) ?_
  refine H.irem s6_30 (by decide) (w := (3 : Int32)) (by decide) ?_
  refine H.ifF s6_31 (show ¬ (3 : Int32) = (0 : Int32) by decide) ?_
  refine H.aloadN s6_34 rfl rfl ?_
  refine H.aloadN s6_35 rfl rfl ?_
  refine H.arraylength s6_36 (i := 3) rfl (z := (3 : Int32)) rfl ?_
  refine H.iconst s6_37 (v := (1 : Int32)) (by decide) ?_
  refine H.isub s6_38 (w := (2 : Int32)) (by decide) ?_
  refine H.lconst s6_39 (v := (1 : Int64)) (by decide) ?_
  refine H.iloadN s6_40 rfl ?_
  refine H.lshl s6_41 (w := (8 : Int64)) (by decide) ?_
  refine H.lconst s6_42 (v := (1 : Int64)) (by decide) ?_
  refine H.lsub s6_43 (w := (7 : Int64)) (by decide) ?_
  refine H.lastore s6_44 (i := 3) (j := 2) rfl (by decide) (ltb rfl)  rfl ?_
  refine H.aloadN s6_45 rfl rfl ?_
  exact H.areturn s6_46 rfl rfl rfl rfl ⟨rfl, rfl⟩ (by decide) (by decide)


theorem a_98 (l : Launch) {Z : State} {a0 : Array Value} (hw : HW1 Z a0) (n0 : Nat)  : Met l Z KT n0 y5 b5 1 (some .int) ({ frames := 0, cells := 0, slots := 0, locals := 0 } : Room) #[(.int (3 : Int32))] [.inl (0, [(.int (131 : Int32)), (.ref (n0 + 1)), (.ref (n0 + 2)), (.ref (n0 + 3)), .null]), .inr (.long, [(.long (0 : Int64)), (.long (0 : Int64)), (.long (0 : Int64))]), .inr (.long, [(.long (0 : Int64))]), .inr (.long, [(.long (-1 : Int64)), (.long (-1 : Int64)), (.long (7 : Int64))])] (Is (some (.int (1 : Int32))) [.inl (0, [(.int (131 : Int32)), (.ref (n0 + 1)), (.ref (n0 + 2)), (.ref (n0 + 3)), .null]), .inr (.long, [(.long (0 : Int64)), (.long (0 : Int64)), (.long (0 : Int64))]), .inr (.long, [(.long (0 : Int64))]), .inr (.long, [(.long (-1 : Int64)), (.long (-1 : Int64)), (.long (7 : Int64))])]) := by
  refine Met.of (a0 := a0) (ls := #[.val (.int (3 : Int32))]) (kok hw) (plainFor_of_name pn_7) (fun m => by first | (simp [entryFrame, mkF, argsToLocals, Value.category]; done) | rfl) (fun G H => ?_)
  refine H.iloadN s5_0 rfl ?_
  refine H.bipush s5_1 (v := (63 : Int32)) (by decide) ?_
  refine H.iadd s5_3 (w := (66 : Int32)) (by decide) ?_
  refine H.bipush s5_4 (v := (6 : Int32)) (by decide) ?_
  refine H.iushr s5_6 (w := (1 : Int32)) (by decide) ?_
  exact H.ireturn s5_7 rfl (by simp) rfl ⟨rfl, rfl⟩ (by decide) (by decide)


theorem a_97 (l : Launch) {Z : State} {a0 : Array Value} (hw : HW1 Z a0) (n0 : Nat)  : Met l Z KT n0 y6 b6 3 (some (.array .long)) ({ frames := 1, cells := 1, slots := 1, locals := 12 } : Room) #[(.int (3 : Int32))] [.inl (0, [(.int (131 : Int32)), (.ref (n0 + 1)), (.ref (n0 + 2)), (.ref (n0 + 3)), .null]), .inr (.long, [(.long (0 : Int64)), (.long (0 : Int64)), (.long (0 : Int64))]), .inr (.long, [(.long (0 : Int64))]), .inr (.long, [(.long (-1 : Int64)), (.long (-1 : Int64)), (.long (7 : Int64))])] (Is (some (.ref (n0 + 4))) [.inl (0, [(.int (131 : Int32)), (.ref (n0 + 1)), (.ref (n0 + 2)), (.ref (n0 + 3)), .null]), .inr (.long, [(.long (0 : Int64)), (.long (0 : Int64)), (.long (0 : Int64))]), .inr (.long, [(.long (0 : Int64))]), .inr (.long, [(.long (-1 : Int64)), (.long (-1 : Int64)), (.long (7 : Int64))]), .inr (.long, [(.long (7 : Int64))])]) := by
  refine Met.of (a0 := a0) (ls := #[.val (.int (3 : Int32)), .unset, .unset]) (kok hw) (plainFor_of_name pn_7) (fun m => by first | (simp [entryFrame, mkF, argsToLocals, Value.category]; done) | rfl) (fun G H => ?_)
  refine H.iloadN s6_0 rfl ?_
  refine H.callSD s6_1 (k_18 hw) (a_98 l hw n0) (argsL := [(.int (3 : Int32))]) (rest := []) rfl rfl rfl rfl (leb rfl) (leb rfl) (leb rfl) (leb rfl) (st' := [(.int (1 : Int32))]) rfl (k' := 0) rfl (n' := 0) rfl ?_
  refine H.newarray s6_4 (ty := .long) rfl (k_19 hw) (N := 1) (cap := 1) (by decide) rfl (by decide) (by decide) (by first | rfl | simp) (by decide) (by decide) (i := 4) rfl (A' := [.inl (0, [(.int (131 : Int32)), (.ref (n0 + 1)), (.ref (n0 + 2)), (.ref (n0 + 3)), .null]), .inr (.long, [(.long (0 : Int64)), (.long (0 : Int64)), (.long (0 : Int64))]), .inr (.long, [(.long (0 : Int64))]), .inr (.long, [(.long (-1 : Int64)), (.long (-1 : Int64)), (.long (7 : Int64))]), .inr (.long, [(.long (0 : Int64))])]) rfl (k' := 1) rfl (n' := 1) rfl ?_
  refine H.astoreN s6_6 rfl (ls' := #[.val (.int (3 : Int32)), .val (.ref (n0 + 4)), .unset]) rfl ?_
  refine H.iconst s6_7 (v := (0 : Int32)) (by decide) ?_
  refine H.istoreN s6_8 (ls' := #[.val (.int (3 : Int32)), .val (.ref (n0 + 4)), .val (.int (0 : Int32))]) rfl ?_
  refine H.iloadN s6_9 rfl ?_
  refine H.aloadN s6_10 rfl rfl ?_
  refine H.arraylength s6_11 (i := 4) rfl (z := (1 : Int32)) rfl ?_
  refine H.icmpF s6_12 (show (0 : Int32) < (1 : Int32) by decide) ?_
  refine H.aloadN s6_15 rfl rfl ?_
  refine H.iloadN s6_16 rfl ?_
  refine H.ldc2 s6_17 (k_5 hw) ?_
  refine H.lastore s6_20 (i := 4) (j := 0) rfl (by decide) (ltb rfl)  rfl ?_
  refine H.iinc s6_21 rfl (w := (1 : Int32)) (by decide) (ls' := #[.val (.int (3 : Int32)), .val (.ref (n0 + 4)), .val (.int (1 : Int32))]) rfl ?_
  refine H.goto s6_24 ?_
  refine H.iloadN s6_9 rfl ?_
  refine H.aloadN s6_10 rfl rfl ?_
  refine H.arraylength s6_11 (i := 4) rfl (z := (1 : Int32)) rfl ?_
  refine H.icmpT s6_12 (show ¬ (1 : Int32) < (1 : Int32) by decide) ?_
  refine H.iloadN s6_27 rfl ?_
  refine H.bipush s6_28 (v := (64 : Int32)) (by decide) ?_
  refine H.irem s6_30 (by decide) (w := (3 : Int32)) (by decide) ?_
  refine H.ifF s6_31 (show ¬ (3 : Int32) = (0 : Int32) by decide) ?_
  refine H.aloadN s6_34 rfl rfl ?_
  refine H.aloadN s6_35 rfl rfl ?_
  refine H.arraylength s6_36 (i := 4) rfl (z := (1 : Int32)) rfl ?_
  refine H.iconst s6_37 (v := (1 : Int32)) (by decide) ?_
  refine H.isub s6_38 (w := (0 : Int32)) (by decide) ?_
  refine H.lconst s6_39 (v := (1 : Int64)) (by decide) ?_
  refine H.iloadN s6_40 rfl ?_
  refine H.lshl s6_41 (w := (8 : Int64)) (by decide) ?_
  refine H.lconst s6_42 (v := (1 : Int64)) (by decide) ?_
  refine H.lsub s6_43 (w := (7 : Int64)) (by decide) ?_
  refine H.lastore s6_44 (i := 4) (j := 0) rfl (by decide) (ltb rfl)  rfl ?_
  refine H.aloadN s6_45 rfl rfl ?_
  exact H.areturn s6_46 rfl rfl rfl rfl ⟨rfl, rfl⟩ (by decide) (by decide)


theorem a_92 (l : Launch) {Z : State} {a0 : Array Value} (hw : HW1 Z a0) (n0 : Nat)  : Met l Z KT n0 y3 b3 2 none ({ frames := 2, cells := 4, slots := 8, locals := 27 } : Room) #[(.ref (n0 + 0)), (.int (131 : Int32))] [.inl (0, [(.int (0 : Int32)), .null, .null, .null, .null])] (Is none [.inl (0, [(.int (131 : Int32)), (.ref (n0 + 1)), (.ref (n0 + 2)), (.ref (n0 + 3)), (.ref (n0 + 4))]), .inr (.long, [(.long (0 : Int64)), (.long (0 : Int64)), (.long (0 : Int64))]), .inr (.long, [(.long (0 : Int64))]), .inr (.long, [(.long (-1 : Int64)), (.long (-1 : Int64)), (.long (7 : Int64))]), .inr (.long, [(.long (7 : Int64))])]) := by
  refine Met.of (a0 := a0) (ls := #[.val (.ref (n0 + 0)), .val (.int (131 : Int32))]) (kok hw) (plainFor_of_name pn_7) (fun m => by first | (simp [entryFrame, mkF, argsToLocals, Value.category]; done) | rfl) (fun G H => ?_)
  refine H.aloadN s3_0 rfl rfl ?_
  refine H.initO s3_1 (k_16 hw) rfl (leb rfl) (leb rfl) ?_
  refine H.aloadN s3_4 rfl rfl ?_
  refine H.iloadN s3_5 rfl ?_
  refine H.putfield s3_6 (k_17 hw) (i := 0) rfl rfl rfl rfl ?_
  refine H.aloadN s3_9 rfl rfl ?_
  refine H.iloadN s3_10 rfl ?_
  refine H.callSD s3_11 (k_18 hw) (a_93 l hw n0) (argsL := [(.int (131 : Int32))]) (rest := [(.ref (n0 + 0))]) rfl rfl rfl rfl (leb rfl) (leb rfl) (leb rfl) (leb rfl) (st' := [(.int (3 : Int32)), (.ref (n0 + 0))]) rfl (k' := 0) rfl (n' := 0) rfl ?_
  refine H.newarray s3_14 (ty := .long) rfl (k_19 hw) (N := 3) (cap := 3) (by decide) rfl (by decide) (by decide) (by first | rfl | simp) (by decide) (by decide) (i := 1) rfl (A' := [.inl (0, [(.int (131 : Int32)), .null, .null, .null, .null]), .inr (.long, [(.long (0 : Int64)), (.long (0 : Int64)), (.long (0 : Int64))])]) rfl (k' := 1) rfl (n' := 3) rfl ?_
  refine H.putfield s3_16 (k_20 hw) (i := 0) rfl rfl rfl rfl ?_
  refine H.aloadN s3_19 rfl rfl ?_
  refine H.aloadN s3_20 rfl rfl ?_
  refine H.getfield s3_21 (k_4 hw) (i := 0) rfl rfl ?_
  refine H.arraylength s3_24 (i := 1) rfl (z := (3 : Int32)) rfl ?_
  refine H.callSD s3_25 (k_18 hw) (a_94 l hw n0) (argsL := [(.int (3 : Int32))]) (rest := [(.ref (n0 + 0))]) rfl rfl rfl rfl (leb rfl) (leb rfl) (leb rfl) (leb rfl) (st' := [(.int (1 : Int32)), (.ref (n0 + 0))]) rfl (k' := 1) rfl (n' := 3) rfl ?_
  refine H.newarray s3_28 (ty := .long) rfl (k_19 hw) (N := 1) (cap := 1) (by decide) rfl (by decide) (by decide) (by first | rfl | simp) (by decide) (by decide) (i := 2) rfl (A' := [.inl (0, [(.int (131 : Int32)), (.ref (n0 + 1)), .null, .null, .null]), .inr (.long, [(.long (0 : Int64)), (.long (0 : Int64)), (.long (0 : Int64))]), .inr (.long, [(.long (0 : Int64))])]) rfl (k' := 2) rfl (n' := 4) rfl ?_
  refine H.putfield s3_30 (k_21 hw) (i := 0) rfl rfl rfl rfl ?_
  refine H.aloadN s3_33 rfl rfl ?_
  refine H.iloadN s3_34 rfl ?_
  refine H.callSD s3_35 (k_22 hw) (a_95 l hw n0) (argsL := [(.int (131 : Int32))]) (rest := [(.ref (n0 + 0))]) rfl rfl rfl rfl (leb rfl) (leb rfl) (leb rfl) (leb rfl) (st' := [(.ref (n0 + 3)), (.ref (n0 + 0))]) rfl (k' := 3) rfl (n' := 7) rfl ?_
  refine H.putfield s3_38 (k_23 hw) (i := 0) rfl rfl rfl rfl ?_
  refine H.aloadN s3_41 rfl rfl ?_
  refine H.aloadN s3_42 rfl rfl ?_
  refine H.getfield s3_43 (k_4 hw) (i := 0) rfl rfl ?_
  refine H.arraylength s3_46 (i := 1) rfl (z := (3 : Int32)) rfl ?_
  refine H.callSD s3_47 (k_22 hw) (a_97 l hw n0) (argsL := [(.int (3 : Int32))]) (rest := [(.ref (n0 + 0))]) rfl rfl rfl rfl (leb rfl) (leb rfl) (leb rfl) (leb rfl) (st' := [(.ref (n0 + 4)), (.ref (n0 + 0))]) rfl (k' := 4) rfl (n' := 8) rfl ?_
  refine H.putfield s3_50 (k_24 hw) (i := 0) rfl rfl rfl rfl ?_
  exact H.vreturn s3_53 rfl ⟨rfl, rfl⟩ (by decide) (by decide)


theorem a_99 (l : Launch) {Z : State} {a0 : Array Value} (hw : HW1 Z a0) (n0 : Nat)  : Met l Z KT n0 y7 b7 1 none ({ frames := 1, cells := 0, slots := 0, locals := 18 } : Room) #[(.ref (n0 + 0))] [.inl (0, [(.int (131 : Int32)), (.ref (n0 + 1)), (.ref (n0 + 2)), (.ref (n0 + 3)), (.ref (n0 + 4))]), .inr (.long, [(.long (0 : Int64)), (.long (0 : Int64)), (.long (0 : Int64))]), .inr (.long, [(.long (0 : Int64))]), .inr (.long, [(.long (-1 : Int64)), (.long (-1 : Int64)), (.long (7 : Int64))]), .inr (.long, [(.long (7 : Int64))])] (Is none [.inl (0, [(.int (131 : Int32)), (.ref (n0 + 1)), (.ref (n0 + 2)), (.ref (n0 + 3)), (.ref (n0 + 4))]), .inr (.long, [(.long (-1 : Int64)), (.long (-1 : Int64)), (.long (7 : Int64))]), .inr (.long, [(.long (7 : Int64))]), .inr (.long, [(.long (-1 : Int64)), (.long (-1 : Int64)), (.long (7 : Int64))]), .inr (.long, [(.long (7 : Int64))])]) := by
  refine Met.of (a0 := a0) (ls := #[.val (.ref (n0 + 0))]) (kok hw) (plainFor_of_name pn_7) (fun m => by first | (simp [entryFrame, mkF, argsToLocals, Value.category]; done) | rfl) (fun G H => ?_)
  refine H.aloadN s7_0 rfl rfl ?_
  refine H.getfield s7_1 (k_26 hw) (i := 0) rfl rfl ?_
  refine H.iconst s7_4 (v := (0 : Int32)) (by decide) ?_
  refine H.aloadN s7_5 rfl rfl ?_
  refine H.getfield s7_6 (k_4 hw) (i := 0) rfl rfl ?_
  refine H.iconst s7_9 (v := (0 : Int32)) (by decide) ?_
  refine H.aloadN s7_10 rfl rfl ?_
  refine H.getfield s7_11 (k_4 hw) (i := 0) rfl rfl ?_
  refine H.arraylength s7_14 (i := 1) rfl (z := (3 : Int32)) rfl ?_
  refine H.arraycopy s7_15 (k_27 hw) (i := 3) (j := 1) rfl rfl rfl (p := 0) (q := 0) (r := 3) (by decide) (by decide) (by decide) (leb rfl) (leb rfl) (leb rfl) (leb rfl) (us := [(.long (-1 : Int64)), (.long (-1 : Int64)), (.long (7 : Int64))]) rfl rfl (leb rfl) (leb rfl) (by first | rfl | simp) (A' := [.inl (0, [(.int (131 : Int32)), (.ref (n0 + 1)), (.ref (n0 + 2)), (.ref (n0 + 3)), (.ref (n0 + 4))]), .inr (.long, [(.long (-1 : Int64)), (.long (-1 : Int64)), (.long (7 : Int64))]), .inr (.long, [(.long (0 : Int64))]), .inr (.long, [(.long (-1 : Int64)), (.long (-1 : Int64)), (.long (7 : Int64))]), .inr (.long, [(.long (7 : Int64))])]) rfl ?_
  refine H.aloadN s7_18 rfl rfl ?_
  refine H.getfield s7_19 (k_28 hw) (i := 0) rfl rfl ?_
  refine H.iconst s7_22 (v := (0 : Int32)) (by decide) ?_
  refine H.aloadN s7_23 rfl rfl ?_
  refine H.getfield s7_24 (k_6 hw) (i := 0) rfl rfl ?_
  refine H.iconst s7_27 (v := (0 : Int32)) (by decide) ?_
  refine H.aloadN s7_28 rfl rfl ?_
  refine H.getfield s7_29 (k_6 hw) (i := 0) rfl rfl ?_
  refine H.arraylength s7_32 (i := 2) rfl (z := (1 : Int32)) rfl ?_
  refine H.arraycopy s7_33 (k_27 hw) (i := 4) (j := 2) rfl rfl rfl (p := 0) (q := 0) (r := 1) (by decide) (by decide) (by decide) (leb rfl) (leb rfl) (leb rfl) (leb rfl) (us := [(.long (7 : Int64))]) rfl rfl (leb rfl) (leb rfl) (by first | rfl | simp) (A' := [.inl (0, [(.int (131 : Int32)), (.ref (n0 + 1)), (.ref (n0 + 2)), (.ref (n0 + 3)), (.ref (n0 + 4))]), .inr (.long, [(.long (-1 : Int64)), (.long (-1 : Int64)), (.long (7 : Int64))]), .inr (.long, [(.long (7 : Int64))]), .inr (.long, [(.long (-1 : Int64)), (.long (-1 : Int64)), (.long (7 : Int64))]), .inr (.long, [(.long (7 : Int64))])]) rfl ?_
  exact H.vreturn s7_36 rfl ⟨rfl, rfl⟩ (by decide) (by decide)


theorem a_100 (l : Launch) {Z : State} {a0 : Array Value} (hw : HW1 Z a0) (n0 : Nat)  : Met l Z KT n0 y1 b1 2 (some .int) ({ frames := 0, cells := 0, slots := 0, locals := 0 } : Room) #[(.int (1 : Int32)), (.int (192 : Int32))] [] (Is (some (.int (192 : Int32))) []) := by
  refine Met.of (a0 := a0) (ls := #[.val (.int (1 : Int32)), .val (.int (192 : Int32))]) (kok hw) (Jvm.Free.JP.mathPlain rfl (by decide +kernel)) (fun m => by first | (simp [entryFrame, mkF, argsToLocals, Value.category]; done) | rfl) (fun G H => ?_)
  refine H.iloadN s1_0 rfl ?_
  refine H.iloadN s1_1 rfl ?_
  refine H.icmpT s1_2 (show (1 : Int32) < (192 : Int32) by decide) ?_
  refine H.iloadN s1_9 rfl ?_
  exact H.ireturn s1_10 rfl (by simp) rfl ⟨rfl, rfl⟩ (by decide) (by decide)


theorem a_102 (l : Launch) {Z : State} {a0 : Array Value} (hw : HW1 Z a0) (n0 : Nat)  : Met l Z KT n0 y5 b5 1 (some .int) ({ frames := 0, cells := 0, slots := 0, locals := 0 } : Room) #[(.int (192 : Int32))] [.inl (0, [(.int (192 : Int32)), .null, .null, .null, .null])] (Is (some (.int (3 : Int32))) [.inl (0, [(.int (192 : Int32)), .null, .null, .null, .null])]) := by
  refine Met.of (a0 := a0) (ls := #[.val (.int (192 : Int32))]) (kok hw) (plainFor_of_name pn_7) (fun m => by first | (simp [entryFrame, mkF, argsToLocals, Value.category]; done) | rfl) (fun G H => ?_)
  refine H.iloadN s5_0 rfl ?_
  refine H.bipush s5_1 (v := (63 : Int32)) (by decide) ?_
  refine H.iadd s5_3 (w := (255 : Int32)) (by decide) ?_
  refine H.bipush s5_4 (v := (6 : Int32)) (by decide) ?_
  refine H.iushr s5_6 (w := (3 : Int32)) (by decide) ?_
  exact H.ireturn s5_7 rfl (by simp) rfl ⟨rfl, rfl⟩ (by decide) (by decide)


theorem a_103 (l : Launch) {Z : State} {a0 : Array Value} (hw : HW1 Z a0) (n0 : Nat)  : Met l Z KT n0 y5 b5 1 (some .int) ({ frames := 0, cells := 0, slots := 0, locals := 0 } : Room) #[(.int (3 : Int32))] [.inl (0, [(.int (192 : Int32)), (.ref (n0 + 1)), .null, .null, .null]), .inr (.long, [(.long (0 : Int64)), (.long (0 : Int64)), (.long (0 : Int64))])] (Is (some (.int (1 : Int32))) [.inl (0, [(.int (192 : Int32)), (.ref (n0 + 1)), .null, .null, .null]), .inr (.long, [(.long (0 : Int64)), (.long (0 : Int64)), (.long (0 : Int64))])]) := by
  refine Met.of (a0 := a0) (ls := #[.val (.int (3 : Int32))]) (kok hw) (plainFor_of_name pn_7) (fun m => by first | (simp [entryFrame, mkF, argsToLocals, Value.category]; done) | rfl) (fun G H => ?_)
  refine H.iloadN s5_0 rfl ?_
  refine H.bipush s5_1 (v := (63 : Int32)) (by decide) ?_
  refine H.iadd s5_3 (w := (66 : Int32)) (by decide) ?_
  refine H.bipush s5_4 (v := (6 : Int32)) (by decide) ?_
  refine H.iushr s5_6 (w := (1 : Int32)) (by decide) ?_
  exact H.ireturn s5_7 rfl (by simp) rfl ⟨rfl, rfl⟩ (by decide) (by decide)


theorem a_105 (l : Launch) {Z : State} {a0 : Array Value} (hw : HW1 Z a0) (n0 : Nat)  : Met l Z KT n0 y5 b5 1 (some .int) ({ frames := 0, cells := 0, slots := 0, locals := 0 } : Room) #[(.int (192 : Int32))] [.inl (0, [(.int (192 : Int32)), (.ref (n0 + 1)), (.ref (n0 + 2)), .null, .null]), .inr (.long, [(.long (0 : Int64)), (.long (0 : Int64)), (.long (0 : Int64))]), .inr (.long, [(.long (0 : Int64))])] (Is (some (.int (3 : Int32))) [.inl (0, [(.int (192 : Int32)), (.ref (n0 + 1)), (.ref (n0 + 2)), .null, .null]), .inr (.long, [(.long (0 : Int64)), (.long (0 : Int64)), (.long (0 : Int64))]), .inr (.long, [(.long (0 : Int64))])]) := by
  refine Met.of (a0 := a0) (ls := #[.val (.int (192 : Int32))]) (kok hw) (plainFor_of_name pn_7) (fun m => by first | (simp [entryFrame, mkF, argsToLocals, Value.category]; done) | rfl) (fun G H => ?_)
  refine H.iloadN s5_0 rfl ?_
  refine H.bipush s5_1 (v := (63 : Int32)) (by decide) ?_
  refine H.iadd s5_3 (w := (255 : Int32)) (by decide) ?_
  refine H.bipush s5_4 (v := (6 : Int32)) (by decide) ?_
  refine H.iushr s5_6 (w := (3 : Int32)) (by decide) ?_
  exact H.ireturn s5_7 rfl (by simp) rfl ⟨rfl, rfl⟩ (by decide) (by decide)


theorem a_104 (l : Launch) {Z : State} {a0 : Array Value} (hw : HW1 Z a0) (n0 : Nat)  : Met l Z KT n0 y6 b6 3 (some (.array .long)) ({ frames := 1, cells := 1, slots := 3, locals := 12 } : Room) #[(.int (192 : Int32))] [.inl (0, [(.int (192 : Int32)), (.ref (n0 + 1)), (.ref (n0 + 2)), .null, .null]), .inr (.long, [(.long (0 : Int64)), (.long (0 : Int64)), (.long (0 : Int64))]), .inr (.long, [(.long (0 : Int64))])] (Is (some (.ref (n0 + 3))) [.inl (0, [(.int (192 : Int32)), (.ref (n0 + 1)), (.ref (n0 + 2)), .null, .null]), .inr (.long, [(.long (0 : Int64)), (.long (0 : Int64)), (.long (0 : Int64))]), .inr (.long, [(.long (0 : Int64))]), .inr (.long, [(.long (-1 : Int64)), (.long (-1 : Int64)), (.long (-1 : Int64))])]) := by
  refine Met.of (a0 := a0) (ls := #[.val (.int (192 : Int32)), .unset, .unset]) (kok hw) (plainFor_of_name pn_7) (fun m => by first | (simp [entryFrame, mkF, argsToLocals, Value.category]; done) | rfl) (fun G H => ?_)
  refine H.iloadN s6_0 rfl ?_
  refine H.callSD s6_1 (k_18 hw) (a_105 l hw n0) (argsL := [(.int (192 : Int32))]) (rest := []) rfl rfl rfl rfl (leb rfl) (leb rfl) (leb rfl) (leb rfl) (st' := [(.int (3 : Int32))]) rfl (k' := 0) rfl (n' := 0) rfl ?_
  refine H.newarray s6_4 (ty := .long) rfl (k_19 hw) (N := 3) (cap := 3) (by decide) rfl (by decide) (by decide) (by first | rfl | simp) (by decide) (by decide) (i := 3) rfl (A' := [.inl (0, [(.int (192 : Int32)), (.ref (n0 + 1)), (.ref (n0 + 2)), .null, .null]), .inr (.long, [(.long (0 : Int64)), (.long (0 : Int64)), (.long (0 : Int64))]), .inr (.long, [(.long (0 : Int64))]), .inr (.long, [(.long (0 : Int64)), (.long (0 : Int64)), (.long (0 : Int64))])]) rfl (k' := 1) rfl (n' := 3) rfl ?_
  refine H.astoreN s6_6 rfl (ls' := #[.val (.int (192 : Int32)), .val (.ref (n0 + 3)), .unset]) rfl ?_
  refine H.iconst s6_7 (v := (0 : Int32)) (by decide) ?_
  refine H.istoreN s6_8 (ls' := #[.val (.int (192 : Int32)), .val (.ref (n0 + 3)), .val (.int (0 : Int32))]) rfl ?_
  refine H.iloadN s6_9 rfl ?_
  refine H.aloadN s6_10 rfl rfl ?_
  refine H.arraylength s6_11 (i := 3) rfl (z := (3 : Int32)) rfl ?_
  refine H.icmpF s6_12 (show (0 : Int32) < (3 : Int32) by decide) ?_
  refine H.aloadN s6_15 rfl rfl ?_
  refine H.iloadN s6_16 rfl ?_
  refine H.ldc2 s6_17 (k_5 hw) ?_
  refine H.lastore s6_20 (i := 3) (j := 0) rfl (by decide) (ltb rfl)  rfl ?_
  refine H.iinc s6_21 rfl (w := (1 : Int32)) (by decide) (ls' := #[.val (.int (192 : Int32)), .val (.ref (n0 + 3)), .val (.int (1 : Int32))]) rfl ?_
  refine H.goto s6_24 ?_
  refine H.iloadN s6_9 rfl ?_
  refine H.aloadN s6_10 rfl rfl ?_
  refine H.arraylength s6_11 (i := 3) rfl (z := (3 : Int32)) rfl ?_
  refine H.icmpF s6_12 (show (1 : Int32) < (3 : Int32) by decide) ?_
  refine H.aloadN s6_15 rfl rfl ?_
  refine H.iloadN s6_16 rfl ?_
  refine H.ldc2 s6_17 (k_5 hw) ?_
  refine H.lastore s6_20 (i := 3) (j := 1) rfl (by decide) (ltb rfl)  rfl ?_
  refine H.iinc s6_21 rfl (w := (2 : Int32)) (by decide) (ls' := #[.val (.int (192 : Int32)), .val (.ref (n0 + 3)), .val (.int (2 : Int32))]) rfl ?_
  refine H.goto s6_24 ?_
  refine H.iloadN s6_9 rfl ?_
  refine H.aloadN s6_10 rfl rfl ?_
  refine H.arraylength s6_11 (i := 3) rfl (z := (3 : Int32)) rfl ?_
  refine H.icmpF s6_12 (show (2 : Int32) < (3 : Int32) by decide) ?_
  refine H.aloadN s6_15 rfl rfl ?_
  refine H.iloadN s6_16 rfl ?_
  refine H.ldc2 s6_17 (k_5 hw) ?_
  refine H.lastore s6_20 (i := 3) (j := 2) rfl (by decide) (ltb rfl)  rfl ?_
  refine H.iinc s6_21 rfl (w := (3 : Int32)) (by decide) (ls' := #[.val (.int (192 : Int32)), .val (.ref (n0 + 3)), .val (.int (3 : Int32))]) rfl ?_
  refine H.goto s6_24 ?_
  refine H.iloadN s6_9 rfl ?_
  refine H.aloadN s6_10 rfl rfl ?_
  refine H.arraylength s6_11 (i := 3) rfl (z := (3 : Int32)) rfl ?_
  refine H.icmpT s6_12 (show ¬ (3 : Int32) < (3 : Int32) by decide) ?_
  refine H.iloadN s6_27 rfl ?_
  refine H.bipush s6_28 (v := (64 : Int32)) (by decide) ?_
  refine H.irem s6_30 (by decide) (w := (0 : Int32)) (by decide) ?_
  refine H.ifT s6_31 (show (0 : Int32) = (0 : Int32) by decide) ?_
  refine H.aloadN s6_45 rfl rfl ?_
  exact H.areturn s6_46 rfl rfl rfl rfl ⟨rfl, rfl⟩ (by decide) (by decide)


theorem a_107 (l : Launch) {Z : State} {a0 : Array Value} (hw : HW1 Z a0) (n0 : Nat)  : Met l Z KT n0 y5 b5 1 (some .int) ({ frames := 0, cells := 0, slots := 0, locals := 0 } : Room) #[(.int (3 : Int32))] [.inl (0, [(.int (192 : Int32)), (.ref (n0 + 1)), (.ref (n0 + 2)), (.ref (n0 + 3)), .null]), .inr (.long, [(.long (0 : Int64)), (.long (0 : Int64)), (.long (0 : Int64))]), .inr (.long, [(.long (0 : Int64))]), .inr (.long, [(.long (-1 : Int64)), (.long (-1 : Int64)), (.long (-1 : Int64))])] (Is (some (.int (1 : Int32))) [.inl (0, [(.int (192 : Int32)), (.ref (n0 + 1)), (.ref (n0 + 2)), (.ref (n0 + 3)), .null]), .inr (.long, [(.long (0 : Int64)), (.long (0 : Int64)), (.long (0 : Int64))]), .inr (.long, [(.long (0 : Int64))]), .inr (.long, [(.long (-1 : Int64)), (.long (-1 : Int64)), (.long (-1 : Int64))])]) := by
  refine Met.of (a0 := a0) (ls := #[.val (.int (3 : Int32))]) (kok hw) (plainFor_of_name pn_7) (fun m => by first | (simp [entryFrame, mkF, argsToLocals, Value.category]; done) | rfl) (fun G H => ?_)
  refine H.iloadN s5_0 rfl ?_
  refine H.bipush s5_1 (v := (63 : Int32)) (by decide) ?_
  refine H.iadd s5_3 (w := (66 : Int32)) (by decide) ?_
  refine H.bipush s5_4 (v := (6 : Int32)) (by decide) ?_
  refine H.iushr s5_6 (w := (1 : Int32)) (by decide) ?_
  exact H.ireturn s5_7 rfl (by simp) rfl ⟨rfl, rfl⟩ (by decide) (by decide)


theorem a_106 (l : Launch) {Z : State} {a0 : Array Value} (hw : HW1 Z a0) (n0 : Nat)  : Met l Z KT n0 y6 b6 3 (some (.array .long)) ({ frames := 1, cells := 1, slots := 1, locals := 12 } : Room) #[(.int (3 : Int32))] [.inl (0, [(.int (192 : Int32)), (.ref (n0 + 1)), (.ref (n0 + 2)), (.ref (n0 + 3)), .null]), .inr (.long, [(.long (0 : Int64)), (.long (0 : Int64)), (.long (0 : Int64))]), .inr (.long, [(.long (0 : Int64))]), .inr (.long, [(.long (-1 : Int64)), (.long (-1 : Int64)), (.long (-1 : Int64))])] (Is (some (.ref (n0 + 4))) [.inl (0, [(.int (192 : Int32)), (.ref (n0 + 1)), (.ref (n0 + 2)), (.ref (n0 + 3)), .null]), .inr (.long, [(.long (0 : Int64)), (.long (0 : Int64)), (.long (0 : Int64))]), .inr (.long, [(.long (0 : Int64))]), .inr (.long, [(.long (-1 : Int64)), (.long (-1 : Int64)), (.long (-1 : Int64))]), .inr (.long, [(.long (7 : Int64))])]) := by
  refine Met.of (a0 := a0) (ls := #[.val (.int (3 : Int32)), .unset, .unset]) (kok hw) (plainFor_of_name pn_7) (fun m => by first | (simp [entryFrame, mkF, argsToLocals, Value.category]; done) | rfl) (fun G H => ?_)
  refine H.iloadN s6_0 rfl ?_
  refine H.callSD s6_1 (k_18 hw) (a_107 l hw n0) (argsL := [(.int (3 : Int32))]) (rest := []) rfl rfl rfl rfl (leb rfl) (leb rfl) (leb rfl) (leb rfl) (st' := [(.int (1 : Int32))]) rfl (k' := 0) rfl (n' := 0) rfl ?_
  refine H.newarray s6_4 (ty := .long) rfl (k_19 hw) (N := 1) (cap := 1) (by decide) rfl (by decide) (by decide) (by first | rfl | simp) (by decide) (by decide) (i := 4) rfl (A' := [.inl (0, [(.int (192 : Int32)), (.ref (n0 + 1)), (.ref (n0 + 2)), (.ref (n0 + 3)), .null]), .inr (.long, [(.long (0 : Int64)), (.long (0 : Int64)), (.long (0 : Int64))]), .inr (.long, [(.long (0 : Int64))]), .inr (.long, [(.long (-1 : Int64)), (.long (-1 : Int64)), (.long (-1 : Int64))]), .inr (.long, [(.long (0 : Int64))])]) rfl (k' := 1) rfl (n' := 1) rfl ?_
  refine H.astoreN s6_6 rfl (ls' := #[.val (.int (3 : Int32)), .val (.ref (n0 + 4)), .unset]) rfl ?_
  refine H.iconst s6_7 (v := (0 : Int32)) (by decide) ?_
  refine H.istoreN s6_8 (ls' := #[.val (.int (3 : Int32)), .val (.ref (n0 + 4)), .val (.int (0 : Int32))]) rfl ?_
  refine H.iloadN s6_9 rfl ?_
  refine H.aloadN s6_10 rfl rfl ?_
  refine H.arraylength s6_11 (i := 4) rfl (z := (1 : Int32)) rfl ?_
  refine H.icmpF s6_12 (show (0 : Int32) < (1 : Int32) by decide) ?_
  refine H.aloadN s6_15 rfl rfl ?_
  refine H.iloadN s6_16 rfl ?_
  refine H.ldc2 s6_17 (k_5 hw) ?_
  refine H.lastore s6_20 (i := 4) (j := 0) rfl (by decide) (ltb rfl)  rfl ?_
  refine H.iinc s6_21 rfl (w := (1 : Int32)) (by decide) (ls' := #[.val (.int (3 : Int32)), .val (.ref (n0 + 4)), .val (.int (1 : Int32))]) rfl ?_
  refine H.goto s6_24 ?_
  refine H.iloadN s6_9 rfl ?_
  refine H.aloadN s6_10 rfl rfl ?_
  refine H.arraylength s6_11 (i := 4) rfl (z := (1 : Int32)) rfl ?_
  refine H.icmpT s6_12 (show ¬ (1 : Int32) < (1 : Int32) by decide) ?_
  refine H.iloadN s6_27 rfl ?_
  refine H.bipush s6_28 (v := (64 : Int32)) (by decide) ?_
  refine H.irem s6_30 (by decide) (w := (3 : Int32)) (by decide) ?_
  refine H.ifF s6_31 (show ¬ (3 : Int32) = (0 : Int32) by decide) ?_
  refine H.aloadN s6_34 rfl rfl ?_
  refine H.aloadN s6_35 rfl rfl ?_
  refine H.arraylength s6_36 (i := 4) rfl (z := (1 : Int32)) rfl ?_
  refine H.iconst s6_37 (v := (1 : Int32)) (by decide) ?_
  refine H.isub s6_38 (w := (0 : Int32)) (by decide) ?_
  refine H.lconst s6_39 (v := (1 : Int64)) (by decide) ?_
  refine H.iloadN s6_40 rfl ?_
  refine H.lshl s6_41 (w := (8 : Int64)) (by decide) ?_
  refine H.lconst s6_42 (v := (1 : Int64)) (by decide) ?_
  refine H.lsub s6_43 (w := (7 : Int64)) (by decide) ?_
  refine H.lastore s6_44 (i := 4) (j := 0) rfl (by decide) (ltb rfl)  rfl ?_
  refine H.aloadN s6_45 rfl rfl ?_
  exact H.areturn s6_46 rfl rfl rfl rfl ⟨rfl, rfl⟩ (by decide) (by decide)


theorem a_101 (l : Launch) {Z : State} {a0 : Array Value} (hw : HW1 Z a0) (n0 : Nat)  : Met l Z KT n0 y3 b3 2 none ({ frames := 2, cells := 4, slots := 8, locals := 27 } : Room) #[(.ref (n0 + 0)), (.int (192 : Int32))] [.inl (0, [(.int (0 : Int32)), .null, .null, .null, .null])] (Is none [.inl (0, [(.int (192 : Int32)), (.ref (n0 + 1)), (.ref (n0 + 2)), (.ref (n0 + 3)), (.ref (n0 + 4))]), .inr (.long, [(.long (0 : Int64)), (.long (0 : Int64)), (.long (0 : Int64))]), .inr (.long, [(.long (0 : Int64))]), .inr (.long, [(.long (-1 : Int64)), (.long (-1 : Int64)), (.long (-1 : Int64))]), .inr (.long, [(.long (7 : Int64))])]) := by
  refine Met.of (a0 := a0) (ls := #[.val (.ref (n0 + 0)), .val (.int (192 : Int32))]) (kok hw) (plainFor_of_name pn_7) (fun m => by first | (simp [entryFrame, mkF, argsToLocals, Value.category]; done) | rfl) (fun G H => ?_)
  refine H.aloadN s3_0 rfl rfl ?_
  refine H.initO s3_1 (k_16 hw) rfl (leb rfl) (leb rfl) ?_
  refine H.aloadN s3_4 rfl rfl ?_
  refine H.iloadN s3_5 rfl ?_
  refine H.putfield s3_6 (k_17 hw) (i := 0) rfl rfl rfl rfl ?_
  refine H.aloadN s3_9 rfl rfl ?_
  refine H.iloadN s3_10 rfl ?_
  refine H.callSD s3_11 (k_18 hw) (a_102 l hw n0) (argsL := [(.int (192 : Int32))]) (rest := [(.ref (n0 + 0))]) rfl rfl rfl rfl (leb rfl) (leb rfl) (leb rfl) (leb rfl) (st' := [(.int (3 : Int32)), (.ref (n0 + 0))]) rfl (k' := 0) rfl (n' := 0) rfl ?_
  refine H.newarray s3_14 (ty := .long) rfl (k_19 hw) (N := 3) (cap := 3) (by decide) rfl (by decide) (by decide) (by first | rfl | simp) (by decide) (by decide) (i := 1) rfl (A' := [.inl (0, [(.int (192 : Int32)), .null, .null, .null, .null]), .inr (.long, [(.long (0 : Int64)), (.long (0 : Int64)), (.long (0 : Int64))])]) rfl (k' := 1) rfl (n' := 3) rfl ?_
  refine H.putfield s3_16 (k_20 hw) (i := 0) rfl rfl rfl rfl ?_
  refine H.aloadN s3_19 rfl rfl ?_
  refine H.aloadN s3_20 rfl rfl ?_
  refine H.getfield s3_21 (k_4 hw) (i := 0) rfl rfl ?_
  refine H.arraylength s3_24 (i := 1) rfl (z := (3 : Int32)) rfl ?_
  refine H.callSD s3_25 (k_18 hw) (a_103 l hw n0) (argsL := [(.int (3 : Int32))]) (rest := [(.ref (n0 + 0))]) rfl rfl rfl rfl (leb rfl) (leb rfl) (leb rfl) (leb rfl) (st' := [(.int (1 : Int32)), (.ref (n0 + 0))]) rfl (k' := 1) rfl (n' := 3) rfl ?_
  refine H.newarray s3_28 (ty := .long) rfl (k_19 hw) (N := 1) (cap := 1) (by decide) rfl (by decide) (by decide) (by first | rfl | simp) (by decide) (by decide) (i := 2) rfl (A' := [.inl (0, [(.int (192 : Int32)), (.ref (n0 + 1)), .null, .null, .null]), .inr (.long, [(.long (0 : Int64)), (.long (0 : Int64)), (.long (0 : Int64))]), .inr (.long, [(.long (0 : Int64))])]) rfl (k' := 2) rfl (n' := 4) rfl ?_
  refine H.putfield s3_30 (k_21 hw) (i := 0) rfl rfl rfl rfl ?_
  refine H.aloadN s3_33 rfl rfl ?_
  refine H.iloadN s3_34 rfl ?_
  refine H.callSD s3_35 (k_22 hw) (a_104 l hw n0) (argsL := [(.int (192 : Int32))]) (rest := [(.ref (n0 + 0))]) rfl rfl rfl rfl (leb rfl) (leb rfl) (leb rfl) (leb rfl) (st' := [(.ref (n0 + 3)), (.ref (n0 + 0))]) rfl (k' := 3) rfl (n' := 7) rfl ?_
  refine H.putfield s3_38 (k_23 hw) (i := 0) rfl rfl rfl rfl ?_
  refine H.aloadN s3_41 rfl rfl ?_
  refine H.aloadN s3_42 rfl rfl ?_
  refine H.getfield s3_43 (k_4 hw) (i := 0) rfl rfl ?_
  refine H.arraylength s3_46 (i := 1) rfl (z := (3 : Int32)) rfl ?_
  refine H.callSD s3_47 (k_22 hw) (a_106 l hw n0) (argsL := [(.int (3 : Int32))]) (rest := [(.ref (n0 + 0))]) rfl rfl rfl rfl (leb rfl) (leb rfl) (leb rfl) (leb rfl) (st' := [(.ref (n0 + 4)), (.ref (n0 + 0))]) rfl (k' := 4) rfl (n' := 8) rfl ?_
  refine H.putfield s3_50 (k_24 hw) (i := 0) rfl rfl rfl rfl ?_
  exact H.vreturn s3_53 rfl ⟨rfl, rfl⟩ (by decide) (by decide)


theorem a_108 (l : Launch) {Z : State} {a0 : Array Value} (hw : HW1 Z a0) (n0 : Nat)  : Met l Z KT n0 y7 b7 1 none ({ frames := 1, cells := 0, slots := 0, locals := 18 } : Room) #[(.ref (n0 + 0))] [.inl (0, [(.int (192 : Int32)), (.ref (n0 + 1)), (.ref (n0 + 2)), (.ref (n0 + 3)), (.ref (n0 + 4))]), .inr (.long, [(.long (0 : Int64)), (.long (0 : Int64)), (.long (0 : Int64))]), .inr (.long, [(.long (0 : Int64))]), .inr (.long, [(.long (-1 : Int64)), (.long (-1 : Int64)), (.long (-1 : Int64))]), .inr (.long, [(.long (7 : Int64))])] (Is none [.inl (0, [(.int (192 : Int32)), (.ref (n0 + 1)), (.ref (n0 + 2)), (.ref (n0 + 3)), (.ref (n0 + 4))]), .inr (.long, [(.long (-1 : Int64)), (.long (-1 : Int64)), (.long (-1 : Int64))]), .inr (.long, [(.long (7 : Int64))]), .inr (.long, [(.long (-1 : Int64)), (.long (-1 : Int64)), (.long (-1 : Int64))]), .inr (.long, [(.long (7 : Int64))])]) := by
  refine Met.of (a0 := a0) (ls := #[.val (.ref (n0 + 0))]) (kok hw) (plainFor_of_name pn_7) (fun m => by first | (simp [entryFrame, mkF, argsToLocals, Value.category]; done) | rfl) (fun G H => ?_)
  refine H.aloadN s7_0 rfl rfl ?_
  refine H.getfield s7_1 (k_26 hw) (i := 0) rfl rfl ?_
  refine H.iconst s7_4 (v := (0 : Int32)) (by decide) ?_
  refine H.aloadN s7_5 rfl rfl ?_
  refine H.getfield s7_6 (k_4 hw) (i := 0) rfl rfl ?_
  refine H.iconst s7_9 (v := (0 : Int32)) (by decide) ?_
  refine H.aloadN s7_10 rfl rfl ?_
  refine H.getfield s7_11 (k_4 hw) (i := 0) rfl rfl ?_
  refine H.arraylength s7_14 (i := 1) rfl (z := (3 : Int32)) rfl ?_
  refine H.arraycopy s7_15 (k_27 hw) (i := 3) (j := 1) rfl rfl rfl (p := 0) (q := 0) (r := 3) (by decide) (by decide) (by decide) (leb rfl) (leb rfl) (leb rfl) (leb rfl) (us := [(.long (-1 : Int64)), (.long (-1 : Int64)), (.long (-1 : Int64))]) rfl rfl (leb rfl) (leb rfl) (by first | rfl | simp) (A' := [.inl (0, [(.int (192 : Int32)), (.ref (n0 + 1)), (.ref (n0 + 2)), (.ref (n0 + 3)), (.ref (n0 + 4))]), .inr (.long, [(.long (-1 : Int64)), (.long (-1 : Int64)), (.long (-1 : Int64))]), .inr (.long, [(.long (0 : Int64))]), .inr (.long, [(.long (-1 : Int64)), (.long (-1 : Int64)), (.long (-1 : Int64))]), .inr (.long, [(.long (7 : Int64))])]) rfl ?_
  refine H.aloadN s7_18 rfl rfl ?_
  refine H.getfield s7_19 (k_28 hw) (i := 0) rfl rfl ?_
  refine H.iconst s7_22 (v := (0 : Int32)) (by decide) ?_
  refine H.aloadN s7_23 rfl rfl ?_
  refine H.getfield s7_24 (k_6 hw) (i := 0) rfl rfl ?_
  refine H.iconst s7_27 (v := (0 : Int32)) (by decide) ?_
  refine H.aloadN s7_28 rfl rfl ?_
  refine H.getfield s7_29 (k_6 hw) (i := 0) rfl rfl ?_
  refine H.arraylength s7_32 (i := 2) rfl (z := (1 : Int32)) rfl ?_
  refine H.arraycopy s7_33 (k_27 hw) (i := 4) (j := 2) rfl rfl rfl (p := 0) (q := 0) (r := 1) (by decide) (by decide) (by decide) (leb rfl) (leb rfl) (leb rfl) (leb rfl) (us := [(.long (7 : Int64))]) rfl rfl (leb rfl) (leb rfl) (by first | rfl | simp) (A' := [.inl (0, [(.int (192 : Int32)), (.ref (n0 + 1)), (.ref (n0 + 2)), (.ref (n0 + 3)), (.ref (n0 + 4))]), .inr (.long, [(.long (-1 : Int64)), (.long (-1 : Int64)), (.long (-1 : Int64))]), .inr (.long, [(.long (7 : Int64))]), .inr (.long, [(.long (-1 : Int64)), (.long (-1 : Int64)), (.long (-1 : Int64))]), .inr (.long, [(.long (7 : Int64))])]) rfl ?_
  exact H.vreturn s7_36 rfl ⟨rfl, rfl⟩ (by decide) (by decide)


theorem a_109 (l : Launch) {Z : State} {a0 : Array Value} (hw : HW1 Z a0) (n0 : Nat)  : Met l Z KT n0 y1 b1 2 (some .int) ({ frames := 0, cells := 0, slots := 0, locals := 0 } : Room) #[(.int (1 : Int32)), (.int (193 : Int32))] [] (Is (some (.int (193 : Int32))) []) := by
  refine Met.of (a0 := a0) (ls := #[.val (.int (1 : Int32)), .val (.int (193 : Int32))]) (kok hw) (Jvm.Free.JP.mathPlain rfl (by decide +kernel)) (fun m => by first | (simp [entryFrame, mkF, argsToLocals, Value.category]; done) | rfl) (fun G H => ?_)
  refine H.iloadN s1_0 rfl ?_
  refine H.iloadN s1_1 rfl ?_
  refine H.icmpT s1_2 (show (1 : Int32) < (193 : Int32) by decide) ?_
  refine H.iloadN s1_9 rfl ?_
  exact H.ireturn s1_10 rfl (by simp) rfl ⟨rfl, rfl⟩ (by decide) (by decide)


theorem a_111 (l : Launch) {Z : State} {a0 : Array Value} (hw : HW1 Z a0) (n0 : Nat)  : Met l Z KT n0 y5 b5 1 (some .int) ({ frames := 0, cells := 0, slots := 0, locals := 0 } : Room) #[(.int (193 : Int32))] [.inl (0, [(.int (193 : Int32)), .null, .null, .null, .null])] (Is (some (.int (4 : Int32))) [.inl (0, [(.int (193 : Int32)), .null, .null, .null, .null])]) := by
  refine Met.of (a0 := a0) (ls := #[.val (.int (193 : Int32))]) (kok hw) (plainFor_of_name pn_7) (fun m => by first | (simp [entryFrame, mkF, argsToLocals, Value.category]; done) | rfl) (fun G H => ?_)
  refine H.iloadN s5_0 rfl ?_
  refine H.bipush s5_1 (v := (63 : Int32)) (by decide) ?_
  refine H.iadd s5_3 (w := (256 : Int32)) (by decide) ?_
  refine H.bipush s5_4 (v := (6 : Int32)) (by decide) ?_
  refine H.iushr s5_6 (w := (4 : Int32)) (by decide) ?_
  exact H.ireturn s5_7 rfl (by simp) rfl ⟨rfl, rfl⟩ (by decide) (by decide)


theorem a_112 (l : Launch) {Z : State} {a0 : Array Value} (hw : HW1 Z a0) (n0 : Nat)  : Met l Z KT n0 y5 b5 1 (some .int) ({ frames := 0, cells := 0, slots := 0, locals := 0 } : Room) #[(.int (4 : Int32))] [.inl (0, [(.int (193 : Int32)), (.ref (n0 + 1)), .null, .null, .null]), .inr (.long, [(.long (0 : Int64)), (.long (0 : Int64)), (.long (0 : Int64)), (.long (0 : Int64))])] (Is (some (.int (1 : Int32))) [.inl (0, [(.int (193 : Int32)), (.ref (n0 + 1)), .null, .null, .null]), .inr (.long, [(.long (0 : Int64)), (.long (0 : Int64)), (.long (0 : Int64)), (.long (0 : Int64))])]) := by
  refine Met.of (a0 := a0) (ls := #[.val (.int (4 : Int32))]) (kok hw) (plainFor_of_name pn_7) (fun m => by first | (simp [entryFrame, mkF, argsToLocals, Value.category]; done) | rfl) (fun G H => ?_)
  refine H.iloadN s5_0 rfl ?_
  refine H.bipush s5_1 (v := (63 : Int32)) (by decide) ?_
  refine H.iadd s5_3 (w := (67 : Int32)) (by decide) ?_
  refine H.bipush s5_4 (v := (6 : Int32)) (by decide) ?_
  refine H.iushr s5_6 (w := (1 : Int32)) (by decide) ?_
  exact H.ireturn s5_7 rfl (by simp) rfl ⟨rfl, rfl⟩ (by decide) (by decide)


theorem a_114 (l : Launch) {Z : State} {a0 : Array Value} (hw : HW1 Z a0) (n0 : Nat)  : Met l Z KT n0 y5 b5 1 (some .int) ({ frames := 0, cells := 0, slots := 0, locals := 0 } : Room) #[(.int (193 : Int32))] [.inl (0, [(.int (193 : Int32)), (.ref (n0 + 1)), (.ref (n0 + 2)), .null, .null]), .inr (.long, [(.long (0 : Int64)), (.long (0 : Int64)), (.long (0 : Int64)), (.long (0 : Int64))]), .inr (.long, [(.long (0 : Int64))])] (Is (some (.int (4 : Int32))) [.inl (0, [(.int (193 : Int32)), (.ref (n0 + 1)), (.ref (n0 + 2)), .null, .null]), .inr (.long, [(.long (0 : Int64)), (.long (0 : Int64)), (.long (0 : Int64)), (.long (0 : Int64))]), .inr (.long, [(.long (0 : Int64))])]) := by
  refine Met.of (a0 := a0) (ls := #[.val (.int (193 : Int32))]) (kok hw) (plainFor_of_name pn_7) (fun m => by first | (simp [entryFrame, mkF, argsToLocals, Value.category]; done) | rfl) (fun G H => ?_)
  refine H.iloadN s5_0 rfl ?_
  refine H.bipush s5_1 (v := (63 : Int32)) (by decide) ?_
  refine H.iadd s5_3 (w := (256 : Int32)) (by decide) ?_
  refine H.bipush s5_4 (v := (6 : Int32)) (by decide) ?_
  refine H.iushr s5_6 (w := (4 : Int32)) (by decide) ?_
  exact H.ireturn s5_7 rfl (by simp) rfl ⟨rfl, rfl⟩ (by decide) (by decide)


theorem a_113 (l : Launch) {Z : State} {a0 : Array Value} (hw : HW1 Z a0) (n0 : Nat)  : Met l Z KT n0 y6 b6 3 (some (.array .long)) ({ frames := 1, cells := 1, slots := 4, locals := 12 } : Room) #[(.int (193 : Int32))] [.inl (0, [(.int (193 : Int32)), (.ref (n0 + 1)), (.ref (n0 + 2)), .null, .null]), .inr (.long, [(.long (0 : Int64)), (.long (0 : Int64)), (.long (0 : Int64)), (.long (0 : Int64))]), .inr (.long, [(.long (0 : Int64))])] (Is (some (.ref (n0 + 3))) [.inl (0, [(.int (193 : Int32)), (.ref (n0 + 1)), (.ref (n0 + 2)), .null, .null]), .inr (.long, [(.long (0 : Int64)), (.long (0 : Int64)), (.long (0 : Int64)), (.long (0 : Int64))]), .inr (.long, [(.long (0 : Int64))]), .inr (.long, [(.long (-1 : Int64)), (.long (-1 : Int64)), (.long (-1 : Int64)), (.long (1 : Int64))])]) := by
  refine Met.of (a0 := a0) (ls := #[.val (.int (193 : Int32)), .unset, .unset]) (kok hw) (plainFor_of_name pn_7) (fun m => by first | (simp [entryFrame, mkF, argsToLocals, Value.category]; done) | rfl) (fun G H => ?_)
  refine H.iloadN s6_0 rfl ?_
  refine H.callSD s6_1 (k_18 hw) (a_114 l hw n0) (argsL := [(.int (193 : Int32))]) (rest := []) rfl rfl rfl rfl (leb rfl) (leb rfl) (leb rfl) (leb rfl) (st' := [(.int (4 : Int32))]) rfl (k' := 0) rfl (n' := 0) rfl ?_
  refine H.newarray s6_4 (ty := .long) rfl (k_19 hw) (N := 4) (cap := 4) (by decide) rfl (by decide) (by decide) (by first | rfl | simp) (by decide) (by decide) (i := 3) rfl (A' := [.inl (0, [(.int (193 : Int32)), (.ref (n0 + 1)), (.ref (n0 + 2)), .null, .null]), .inr (.long, [(.long (0 : Int64)), (.long (0 : Int64)), (.long (0 : Int64)), (.long (0 : Int64))]), .inr (.long, [(.long (0 : Int64))]), .inr (.long, [(.long (0 : Int64)), (.long (0 : Int64)), (.long (0 : Int64)), (.long (0 : Int64))])]) rfl (k' := 1) rfl (n' := 4) rfl ?_
  refine H.astoreN s6_6 rfl (ls' := #[.val (.int (193 : Int32)), .val (.ref (n0 + 3)), .unset]) rfl ?_
  refine H.iconst s6_7 (v := (0 : Int32)) (by decide) ?_
  refine H.istoreN s6_8 (ls' := #[.val (.int (193 : Int32)), .val (.ref (n0 + 3)), .val (.int (0 : Int32))]) rfl ?_
  refine H.iloadN s6_9 rfl ?_
  refine H.aloadN s6_10 rfl rfl ?_
  refine H.arraylength s6_11 (i := 3) rfl (z := (4 : Int32)) rfl ?_
  refine H.icmpF s6_12 (show (0 : Int32) < (4 : Int32) by decide) ?_
  refine H.aloadN s6_15 rfl rfl ?_
  refine H.iloadN s6_16 rfl ?_
  refine H.ldc2 s6_17 (k_5 hw) ?_
  refine H.lastore s6_20 (i := 3) (j := 0) rfl (by decide) (ltb rfl)  rfl ?_
  refine H.iinc s6_21 rfl (w := (1 : Int32)) (by decide) (ls' := #[.val (.int (193 : Int32)), .val (.ref (n0 + 3)), .val (.int (1 : Int32))]) rfl ?_
  refine H.goto s6_24 ?_
  refine H.iloadN s6_9 rfl ?_
  refine H.aloadN s6_10 rfl rfl ?_
  refine H.arraylength s6_11 (i := 3) rfl (z := (4 : Int32)) rfl ?_
  refine H.icmpF s6_12 (show (1 : Int32) < (4 : Int32) by decide) ?_
  refine H.aloadN s6_15 rfl rfl ?_
  refine H.iloadN s6_16 rfl ?_
  refine H.ldc2 s6_17 (k_5 hw) ?_
  refine H.lastore s6_20 (i := 3) (j := 1) rfl (by decide) (ltb rfl)  rfl ?_
  refine H.iinc s6_21 rfl (w := (2 : Int32)) (by decide) (ls' := #[.val (.int (193 : Int32)), .val (.ref (n0 + 3)), .val (.int (2 : Int32))]) rfl ?_
  refine H.goto s6_24 ?_
  refine H.iloadN s6_9 rfl ?_
  refine H.aloadN s6_10 rfl rfl ?_
  refine H.arraylength s6_11 (i := 3) rfl (z := (4 : Int32)) rfl ?_
  refine H.icmpF s6_12 (show (2 : Int32) < (4 : Int32) by decide) ?_
  refine H.aloadN s6_15 rfl rfl ?_
  refine H.iloadN s6_16 rfl ?_
  refine H.ldc2 s6_17 (k_5 hw) ?_
  refine H.lastore s6_20 (i := 3) (j := 2) rfl (by decide) (ltb rfl)  rfl ?_
  refine H.iinc s6_21 rfl (w := (3 : Int32)) (by decide) (ls' := #[.val (.int (193 : Int32)), .val (.ref (n0 + 3)), .val (.int (3 : Int32))]) rfl ?_
  refine H.goto s6_24 ?_
  refine H.iloadN s6_9 rfl ?_
  refine H.aloadN s6_10 rfl rfl ?_
  refine H.arraylength s6_11 (i := 3) rfl (z := (4 : Int32)) rfl ?_
  refine H.icmpF s6_12 (show (3 : Int32) < (4 : Int32) by decide) ?_
  refine H.aloadN s6_15 rfl rfl ?_
  refine H.iloadN s6_16 rfl ?_
  refine H.ldc2 s6_17 (k_5 hw) ?_
  refine H.lastore s6_20 (i := 3) (j := 3) rfl (by decide) (ltb rfl)  rfl ?_
  refine H.iinc s6_21 rfl (w := (4 : Int32)) (by decide) (ls' := #[.val (.int (193 : Int32)), .val (.ref (n0 + 3)), .val (.int (4 : Int32))]) rfl ?_
  refine H.goto s6_24 ?_
  refine H.iloadN s6_9 rfl ?_
  refine H.aloadN s6_10 rfl rfl ?_
  refine H.arraylength s6_11 (i := 3) rfl (z := (4 : Int32)) rfl ?_
  refine H.icmpT s6_12 (show ¬ (4 : Int32) < (4 : Int32) by decide) ?_
  refine H.iloadN s6_27 rfl ?_
  refine H.bipush s6_28 (v := (64 : Int32)) (by decide) ?_
  refine H.irem s6_30 (by decide) (w := (1 : Int32)) (by decide) ?_
  refine H.ifF s6_31 (show ¬ (1 : Int32) = (0 : Int32) by decide) ?_
  refine H.aloadN s6_34 rfl rfl ?_
  refine H.aloadN s6_35 rfl rfl ?_
  refine H.arraylength s6_36 (i := 3) rfl (z := (4 : Int32)) rfl ?_
  refine H.iconst s6_37 (v := (1 : Int32)) (by decide) ?_
  refine H.isub s6_38 (w := (3 : Int32)) (by decide) ?_
  refine H.lconst s6_39 (v := (1 : Int64)) (by decide) ?_
  refine H.iloadN s6_40 rfl ?_
  refine H.lshl s6_41 (w := (2 : Int64)) (by decide) ?_
  refine H.lconst s6_42 (v := (1 : Int64)) (by decide) ?_
  refine H.lsub s6_43 (w := (1 : Int64)) (by decide) ?_
  refine H.lastore s6_44 (i := 3) (j := 3) rfl (by decide) (ltb rfl)  rfl ?_
  refine H.aloadN s6_45 rfl rfl ?_
  exact H.areturn s6_46 rfl rfl rfl rfl ⟨rfl, rfl⟩ (by decide) (by decide)


theorem a_116 (l : Launch) {Z : State} {a0 : Array Value} (hw : HW1 Z a0) (n0 : Nat)  : Met l Z KT n0 y5 b5 1 (some .int) ({ frames := 0, cells := 0, slots := 0, locals := 0 } : Room) #[(.int (4 : Int32))] [.inl (0, [(.int (193 : Int32)), (.ref (n0 + 1)), (.ref (n0 + 2)), (.ref (n0 + 3)), .null]), .inr (.long, [(.long (0 : Int64)), (.long (0 : Int64)), (.long (0 : Int64)), (.long (0 : Int64))]), .inr (.long, [(.long (0 : Int64))]), .inr (.long, [(.long (-1 : Int64)), (.long (-1 : Int64)), (.long (-1 : Int64)), (.long (1 : Int64))])] (Is (some (.int (1 : Int32))) [.inl (0, [(.int (193 : Int32)), (.ref (n0 + 1)), (.ref (n0 + 2)), (.ref (n0 + 3)), .null]), .inr (.long, [(.long (0 : Int64)), (.long (0 : Int64)), (.long (0 : Int64)), (.long (0 : Int64))]), .inr (.long, [(.long (0 : Int64))]), .inr (.long, [(.long (-1 : Int64)), (.long (-1 : Int64)), (.long (-1 : Int64)), (.long (1 : Int64))])]) := by
  refine Met.of (a0 := a0) (ls := #[.val (.int (4 : Int32))]) (kok hw) (plainFor_of_name pn_7) (fun m => by first | (simp [entryFrame, mkF, argsToLocals, Value.category]; done) | rfl) (fun G H => ?_)
  refine H.iloadN s5_0 rfl ?_
  refine H.bipush s5_1 (v := (63 : Int32)) (by decide) ?_
  refine H.iadd s5_3 (w := (67 : Int32)) (by decide) ?_
  refine H.bipush s5_4 (v := (6 : Int32)) (by decide) ?_
  refine H.iushr s5_6 (w := (1 : Int32)) (by decide) ?_
  exact H.ireturn s5_7 rfl (by simp) rfl ⟨rfl, rfl⟩ (by decide) (by decide)


theorem a_115 (l : Launch) {Z : State} {a0 : Array Value} (hw : HW1 Z a0) (n0 : Nat)  : Met l Z KT n0 y6 b6 3 (some (.array .long)) ({ frames := 1, cells := 1, slots := 1, locals := 12 } : Room) #[(.int (4 : Int32))] [.inl (0, [(.int (193 : Int32)), (.ref (n0 + 1)), (.ref (n0 + 2)), (.ref (n0 + 3)), .null]), .inr (.long, [(.long (0 : Int64)), (.long (0 : Int64)), (.long (0 : Int64)), (.long (0 : Int64))]), .inr (.long, [(.long (0 : Int64))]), .inr (.long, [(.long (-1 : Int64)), (.long (-1 : Int64)), (.long (-1 : Int64)), (.long (1 : Int64))])] (Is (some (.ref (n0 + 4))) [.inl (0, [(.int (193 : Int32)), (.ref (n0 + 1)), (.ref (n0 + 2)), (.ref (n0 + 3)), .null]), .inr (.long, [(.long (0 : Int64)), (.long (0 : Int64)), (.long (0 : Int64)), (.long (0 : Int64))]), .inr (.long, [(.long (0 : Int64))]), .inr (.long, [(.long (-1 : Int64)), (.long (-1 : Int64)), (.long (-1 : Int64)), (.long (1 : Int64))]), .inr (.long, [(.long (15 : Int64))])]) := by
  refine Met.of (a0 := a0) (ls := #[.val (.int (4 : Int32)), .unset, .unset]) (kok hw) (plainFor_of_name pn_7) (fun m => by first | (simp [entryFrame, mkF, argsToLocals, Value.category]; done) | rfl) (fun G H => ?_)
  refine H.iloadN s6_0 rfl ?_
  refine H.callSD s6_1 (k_18 hw) (a_116 l hw n0) (argsL := [(.int (4 : Int32))]) (rest := []) rfl rfl rfl rfl (leb rfl) (leb rfl) (leb rfl) (leb rfl) (st' := [(.int (1 : Int32))]) rfl (k' := 0) rfl (n' := 0) rfl ?_
  refine H.newarray s6_4 (ty := .long) rfl (k_19 hw) (N := 1) (cap := 1) (by decide) rfl (by decide) (by decide) (by first | rfl | simp) (by decide) (by decide) (i := 4) rfl (A' := [.inl (0, [(.int (193 : Int32)), (.ref (n0 + 1)), (.ref (n0 + 2)), (.ref (n0 + 3)), .null]), .inr (.long, [(.long (0 : Int64)), (.long (0 : Int64)), (.long (0 : Int64)), (.long (0 : Int64))]), .inr (.long, [(.long (0 : Int64))]), .inr (.long, [(.long (-1 : Int64)), (.long (-1 : Int64)), (.long (-1 : Int64)), (.long (1 : Int64))]), .inr (.long, [(.long (0 : Int64))])]) rfl (k' := 1) rfl (n' := 1) rfl ?_
  refine H.astoreN s6_6 rfl (ls' := #[.val (.int (4 : Int32)), .val (.ref (n0 + 4)), .unset]) rfl ?_
  refine H.iconst s6_7 (v := (0 : Int32)) (by decide) ?_
  refine H.istoreN s6_8 (ls' := #[.val (.int (4 : Int32)), .val (.ref (n0 + 4)), .val (.int (0 : Int32))]) rfl ?_
  refine H.iloadN s6_9 rfl ?_
  refine H.aloadN s6_10 rfl rfl ?_
  refine H.arraylength s6_11 (i := 4) rfl (z := (1 : Int32)) rfl ?_
  refine H.icmpF s6_12 (show (0 : Int32) < (1 : Int32) by decide) ?_
  refine H.aloadN s6_15 rfl rfl ?_
  refine H.iloadN s6_16 rfl ?_
  refine H.ldc2 s6_17 (k_5 hw) ?_
  refine H.lastore s6_20 (i := 4) (j := 0) rfl (by decide) (ltb rfl)  rfl ?_
  refine H.iinc s6_21 rfl (w := (1 : Int32)) (by decide) (ls' := #[.val (.int (4 : Int32)), .val (.ref (n0 + 4)), .val (.int (1 : Int32))]) rfl ?_
  refine H.goto s6_24 ?_
  refine H.iloadN s6_9 rfl ?_
  refine H.aloadN s6_10 rfl rfl ?_
  refine H.arraylength s6_11 (i := 4) rfl (z := (1 : Int32)) rfl ?_
  refine H.icmpT s6_12 (show ¬ (1 : Int32) < (1 : Int32) by decide) ?_
  refine H.iloadN s6_27 rfl ?_
  refine H.bipush s6_28 (v := (64 : Int32)) (by decide) ?_
  refine H.irem s6_30 (by decide) (w := (4 : Int32)) (by decide) ?_
  refine H.ifF s6_31 (show ¬ (4 : Int32) = (0 : Int32) by decide) ?_
  refine H.aloadN s6_34 rfl rfl ?_
  refine H.aloadN s6_35 rfl rfl ?_
  refine H.arraylength s6_36 (i := 4) rfl (z := (1 : Int32)) rfl ?_
  refine H.iconst s6_37 (v := (1 : Int32)) (by decide) ?_
  refine H.isub s6_38 (w := (0 : Int32)) (by decide) ?_
  refine H.lconst s6_39 (v := (1 : Int64)) (by decide) ?_
  refine H.iloadN s6_40 rfl ?_
  refine H.lshl s6_41 (w := (16 : Int64)) (by decide) ?_
  refine H.lconst s6_42 (v := (1 : Int64)) (by decide) ?_
  refine H.lsub s6_43 (w := (15 : Int64)) (by decide) ?_
  refine H.lastore s6_44 (i := 4) (j := 0) rfl (by decide) (ltb rfl)  rfl ?_
  refine H.aloadN s6_45 rfl rfl ?_
  exact H.areturn s6_46 rfl rfl rfl rfl ⟨rfl, rfl⟩ (by decide) (by decide)


theorem a_110 (l : Launch) {Z : State} {a0 : Array Value} (hw : HW1 Z a0) (n0 : Nat)  : Met l Z KT n0 y3 b3 2 none ({ frames := 2, cells := 4, slots := 10, locals := 27 } : Room) #[(.ref (n0 + 0)), (.int (193 : Int32))] [.inl (0, [(.int (0 : Int32)), .null, .null, .null, .null])] (Is none [.inl (0, [(.int (193 : Int32)), (.ref (n0 + 1)), (.ref (n0 + 2)), (.ref (n0 + 3)), (.ref (n0 + 4))]), .inr (.long, [(.long (0 : Int64)), (.long (0 : Int64)), (.long (0 : Int64)), (.long (0 : Int64))]), .inr (.long, [(.long (0 : Int64))]), .inr (.long, [(.long (-1 : Int64)), (.long (-1 : Int64)), (.long (-1 : Int64)), (.long (1 : Int64))]), .inr (.long, [(.long (15 : Int64))])]) := by
  refine Met.of (a0 := a0) (ls := #[.val (.ref (n0 + 0)), .val (.int (193 : Int32))]) (kok hw) (plainFor_of_name pn_7) (fun m => by first | (simp [entryFrame, mkF, argsToLocals, Value.category]; done) | rfl) (fun G H => ?_)
  refine H.aloadN s3_0 rfl rfl ?_
  refine H.initO s3_1 (k_16 hw) rfl (leb rfl) (leb rfl) ?_
  refine H.aloadN s3_4 rfl rfl ?_
  refine H.iloadN s3_5 rfl ?_
  refine H.putfield s3_6 (k_17 hw) (i := 0) rfl rfl rfl rfl ?_
  refine H.aloadN s3_9 rfl rfl ?_
  refine H.iloadN s3_10 rfl ?_
  refine H.callSD s3_11 (k_18 hw) (a_111 l hw n0) (argsL := [(.int (193 : Int32))]) (rest := [(.ref (n0 + 0))]) rfl rfl rfl rfl (leb rfl) (leb rfl) (leb rfl) (leb rfl) (st' := [(.int (4 : Int32)), (.ref (n0 + 0))]) rfl (k' := 0) rfl (n' := 0) rfl ?_
  refine H.newarray s3_14 (ty := .long) rfl (k_19 hw) (N := 4) (cap := 4) (by decide) rfl (by decide) (by decide) (by first | rfl | simp) (by decide) (by decide) (i := 1) rfl (A' := [.inl (0, [(.int (193 : Int32)), .null, .null, .null, .null]), .inr (.long, [(.long (0 : Int64)), (.long (0 : Int64)), (.long (0 : Int64)), (.long (0 : Int64))])]) rfl (k' := 1) rfl (n' := 4) rfl ?_
  refine H.putfield s3_16 (k_20 hw) (i := 0) rfl rfl rfl rfl ?_
  refine H.aloadN s3_19 rfl rfl ?_
  refine H.aloadN s3_20 rfl rfl ?_
  refine H.getfield s3_21 (k_4 hw) (i := 0) rfl rfl ?_
  refine H.arraylength s3_24 (i := 1) rfl (z := (4 : Int32)) rfl ?_
  refine H.callSD s3_25 (k_18 hw) (a_112 l hw n0) (argsL := [(.int (4 : Int32))]) (rest := [(.ref (n0 + 0))]) rfl rfl rfl rfl (leb rfl) (leb rfl) (leb rfl) (leb rfl) (st' := [(.int (1 : Int32)), (.ref (n0 + 0))]) rfl (k' := 1) rfl (n' := 4) rfl ?_
  refine H.newarray s3_28 (ty := .long) rfl (k_19 hw) (N := 1) (cap := 1) (by decide) rfl (by decide) (by decide) (by first | rfl | simp) (by decide) (by decide) (i := 2) rfl (A' := [.inl (0, [(.int (193 : Int32)), (.ref (n0 + 1)), .null, .null, .null]), .inr (.long, [(.long (0 : Int64)), (.long (0 : Int64)), (.long (0 : Int64)), (.long (0 : Int64))]), .inr (.long, [(.long (0 : Int64))])]) rfl (k' := 2) rfl (n' := 5) rfl ?_
  refine H.putfield s3_30 (k_21 hw) (i := 0) rfl rfl rfl rfl ?_
  refine H.aloadN s3_33 rfl rfl ?_
  refine H.iloadN s3_34 rfl ?_
  refine H.callSD s3_35 (k_22 hw) (a_113 l hw n0) (argsL := [(.int (193 : Int32))]) (rest := [(.ref (n0 + 0))]) rfl rfl rfl rfl (leb rfl) (leb rfl) (leb rfl) (leb rfl) (st' := [(.ref (n0 + 3)), (.ref (n0 + 0))]) rfl (k' := 3) rfl (n' := 9) rfl ?_
  refine H.putfield s3_38 (k_23 hw) (i := 0) rfl rfl rfl rfl ?_
  refine H.aloadN s3_41 rfl rfl ?_
  refine H.aloadN s3_42 rfl rfl ?_
  refine H.getfield s3_43 (k_4 hw) (i := 0) rfl rfl ?_
  refine H.arraylength s3_46 (i := 1) rfl (z := (4 : Int32)) rfl ?_
  refine H.callSD s3_47 (k_22 hw) (a_115 l hw n0) (argsL := [(.int (4 : Int32))]) (rest := [(.ref (n0 + 0))]) rfl rfl rfl rfl (leb rfl) (leb rfl) (leb rfl) (leb rfl) (st' := [(.ref (n0 + 4)), (.ref (n0 + 0))]) rfl (k' := 4) rfl (n' := 10) rfl ?_
  refine H.putfield s3_50 (k_24 hw) (i := 0) rfl rfl rfl rfl ?_
  exact H.vreturn s3_53 rfl ⟨rfl, rfl⟩ (by decide) (by decide)


theorem a_117 (l : Launch) {Z : State} {a0 : Array Value} (hw : HW1 Z a0) (n0 : Nat)  : Met l Z KT n0 y7 b7 1 none ({ frames := 1, cells := 0, slots := 0, locals := 18 } : Room) #[(.ref (n0 + 0))] [.inl (0, [(.int (193 : Int32)), (.ref (n0 + 1)), (.ref (n0 + 2)), (.ref (n0 + 3)), (.ref (n0 + 4))]), .inr (.long, [(.long (0 : Int64)), (.long (0 : Int64)), (.long (0 : Int64)), (.long (0 : Int64))]), .inr (.long, [(.long (0 : Int64))]), .inr (.long, [(.long (-1 : Int64)), (.long (-1 : Int64)), (.long (-1 : Int64)), (.long (1 : Int64))]), .inr (.long, [(.long (15 : Int64))])] (Is none [.inl (0, [(.int (193 : Int32)), (.ref (n0 + 1)), (.ref (n0 + 2)), (.ref (n0 + 3)), (.ref (n0 + 4))]), .inr (.long, [(.long (-1 : Int64)), (.long (-1 : Int64)), (.long (-1 : Int64)), (.long (1 : Int64))]), .inr (.long, [(.long (15 : Int64))]), .inr (.long, [(.long (-1 : Int64)), (.long (-1 : Int64)), (.long (-1 : Int64)), (.long (1 : Int64))]), .inr (.long, [(.long (15 : Int64))])]) := by
  refine Met.of (a0 := a0) (ls := #[.val (.ref (n0 + 0))]) (kok hw) (plainFor_of_name pn_7) (fun m => by first | (simp [entryFrame, mkF, argsToLocals, Value.category]; done) | rfl) (fun G H => ?_)
  refine H.aloadN s7_0 rfl rfl ?_
  refine H.getfield s7_1 (k_26 hw) (i := 0) rfl rfl ?_
  refine H.iconst s7_4 (v := (0 : Int32)) (by decide) ?_
  refine H.aloadN s7_5 rfl rfl ?_
  refine H.getfield s7_6 (k_4 hw) (i := 0) rfl rfl ?_
  refine H.iconst s7_9 (v := (0 : Int32)) (by decide) ?_
  refine H.aloadN s7_10 rfl rfl ?_
  refine H.getfield s7_11 (k_4 hw) (i := 0) rfl rfl ?_
  refine H.arraylength s7_14 (i := 1) rfl (z := (4 : Int32)) rfl ?_
  refine H.arraycopy s7_15 (k_27 hw) (i := 3) (j := 1) rfl rfl rfl (p := 0) (q := 0) (r := 4) (by decide) (by decide) (by decide) (leb rfl) (leb rfl) (leb rfl) (leb rfl) (us := [(.long (-1 : Int64)), (.long (-1 : Int64)), (.long (-1 : Int64)), (.long (1 : Int64))]) rfl rfl (leb rfl) (leb rfl) (by first | rfl | simp) (A' := [.inl (0, [(.int (193 : Int32)), (.ref (n0 + 1)), (.ref (n0 + 2)), (.ref (n0 + 3)), (.ref (n0 + 4))]), .inr (.long, [(.long (-1 : Int64)), (.long (-1 : Int64)), (.long (-1 : Int64)), (.long (1 : Int64))]), .inr (.long, [(.long (0 : Int64))]), .inr (.long, [(.long (-1 : Int64)), (.long (-1 : Int64)), (.long (-1 : Int64)), (.long (1 : Int64))]), .inr (.long, [(.long (15 : Int64))])]) rfl ?_
  refine H.aloadN s7_18 rfl rfl ?_
  refine H.getfield s7_19 (k_28 hw) (i := 0) rfl rfl ?_
  refine H.iconst s7_22 (v := (0 : Int32)) (by decide) ?_
  refine H.aloadN s7_23 rfl rfl ?_
  refine H.getfield s7_24 (k_6 hw) (i := 0) rfl rfl ?_
  refine H.iconst s7_27 (v := (0 : Int32)) (by decide) ?_
  refine H.aloadN s7_28 rfl rfl ?_
  refine H.getfield s7_29 (k_6 hw) (i := 0) rfl rfl ?_
  refine H.arraylength s7_32 (i := 2) rfl (z := (1 : Int32)) rfl ?_
  refine H.arraycopy s7_33 (k_27 hw) (i := 4) (j := 2) rfl rfl rfl (p := 0) (q := 0) (r := 1) (by decide) (by decide) (by decide) (leb rfl) (leb rfl) (leb rfl) (leb rfl) (us := [(.long (15 : Int64))]) rfl rfl (leb rfl) (leb rfl) (by first | rfl | simp) (A' := [.inl (0, [(.int (193 : Int32)), (.ref (n0 + 1)), (.ref (n0 + 2)), (.ref (n0 + 3)), (.ref (n0 + 4))]), .inr (.long, [(.long (-1 : Int64)), (.long (-1 : Int64)), (.long (-1 : Int64)), (.long (1 : Int64))]), .inr (.long, [(.long (15 : Int64))]), .inr (.long, [(.long (-1 : Int64)), (.long (-1 : Int64)), (.long (-1 : Int64)), (.long (1 : Int64))]), .inr (.long, [(.long (15 : Int64))])]) rfl ?_
  exact H.vreturn s7_36 rfl ⟨rfl, rfl⟩ (by decide) (by decide)


theorem a_118 (l : Launch) {Z : State} {a0 : Array Value} (hw : HW1 Z a0) (n0 : Nat)  : Met l Z KT n0 y1 b1 2 (some .int) ({ frames := 0, cells := 0, slots := 0, locals := 0 } : Room) #[(.int (1 : Int32)), (.int (194 : Int32))] [] (Is (some (.int (194 : Int32))) []) := by
  refine Met.of (a0 := a0) (ls := #[.val (.int (1 : Int32)), .val (.int (194 : Int32))]) (kok hw) (Jvm.Free.JP.mathPlain rfl (by decide +kernel)) (fun m => by first | (simp [entryFrame, mkF, argsToLocals, Value.category]; done) | rfl) (fun G H => ?_)
  refine H.iloadN s1_0 rfl ?_
  refine H.iloadN s1_1 rfl ?_
  refine H.icmpT s1_2 (show (1 : Int32) < (194 : Int32) by decide) ?_
  refine H.iloadN s1_9 rfl ?_
  exact H.ireturn s1_10 rfl (by simp) rfl ⟨rfl, rfl⟩ (by decide) (by decide)


theorem a_120 (l : Launch) {Z : State} {a0 : Array Value} (hw : HW1 Z a0) (n0 : Nat)  : Met l Z KT n0 y5 b5 1 (some .int) ({ frames := 0, cells := 0, slots := 0, locals := 0 } : Room) #[(.int (194 : Int32))] [.inl (0, [(.int (194 : Int32)), .null, .null, .null, .null])] (Is (some (.int (4 : Int32))) [.inl (0, [(.int (194 : Int32)), .null, .null, .null, .null])]) := by
  refine Met.of (a0 := a0) (ls := #[.val (.int (194 : Int32))]) (kok hw) (plainFor_of_name pn_7) (fun m => by first | (simp [entryFrame, mkF, argsToLocals, Value.category]; done) | rfl) (fun G H => ?_)
  refine H.iloadN s5_0 rfl ?_
  refine H.bipush s5_1 (v := (63 : Int32)) (by decide) ?_
  refine H.iadd s5_3 (w := (257 : Int32)) (by decide) ?_
  refine H.bipush s5_4 (v := (6 : Int32)) (by decide) ?_
  refine H.iushr s5_6 (w := (4 : Int32)) (by decide) ?_
  exact H.ireturn s5_7 rfl (by simp) rfl ⟨rfl, rfl⟩ (by decide) (by decide)


theorem a_121 (l : Launch) {Z : State} {a0 : Array Value} (hw : HW1 Z a0) (n0 : Nat)  : Met l Z KT n0 y5 b5 1 (some .int) ({ frames := 0, cells := 0, slots := 0, locals := 0 } : Room) #[(.int (4 : Int32))] [.inl (0, [(.int (194 : Int32)), (.ref (n0 + 1)), .null, .null, .null]), .inr (.long, [(.long (0 : Int64)), (.long (0 : Int64)), (.long (0 : Int64)), (.long (0 : Int64))])] (Is (some (.int (1 : Int32))) [.inl (0, [(.int (194 : Int32)), (.ref (n0 + 1)), .null, .null, .null]), .inr (.long, [(.long (0 : Int64)), (.long (0 : Int64)), (.long (0 : Int64)), (.long (0 : Int64))])]) := by
  refine Met.of (a0 := a0) (ls := #[.val (.int (4 : Int32))]) (kok hw) (plainFor_of_name pn_7) (fun m => by first | (simp [entryFrame, mkF, argsToLocals, Value.category]; done) | rfl) (fun G H => ?_)
  refine H.iloadN s5_0 rfl ?_
  refine H.bipush s5_1 (v := (63 : Int32)) (by decide) ?_
  refine H.iadd s5_3 (w := (67 : Int32)) (by decide) ?_
  refine H.bipush s5_4 (v := (6 : Int32)) (by decide) ?_
  refine H.iushr s5_6 (w := (1 : Int32)) (by decide) ?_
  exact H.ireturn s5_7 rfl (by simp) rfl ⟨rfl, rfl⟩ (by decide) (by decide)


theorem a_123 (l : Launch) {Z : State} {a0 : Array Value} (hw : HW1 Z a0) (n0 : Nat)  : Met l Z KT n0 y5 b5 1 (some .int) ({ frames := 0, cells := 0, slots := 0, locals := 0 } : Room) #[(.int (194 : Int32))] [.inl (0, [(.int (194 : Int32)), (.ref (n0 + 1)), (.ref (n0 + 2)), .null, .null]), .inr (.long, [(.long (0 : Int64)), (.long (0 : Int64)), (.long (0 : Int64)), (.long (0 : Int64))]), .inr (.long, [(.long (0 : Int64))])] (Is (some (.int (4 : Int32))) [.inl (0, [(.int (194 : Int32)), (.ref (n0 + 1)), (.ref (n0 + 2)), .null, .null]), .inr (.long, [(.long (0 : Int64)), (.long (0 : Int64)), (.long (0 : Int64)), (.long (0 : Int64))]), .inr (.long, [(.long (0 : Int64))])]) := by
  refine Met.of (a0 := a0) (ls := #[.val (.int (194 : Int32))]) (kok hw) (plainFor_of_name pn_7) (fun m => by first | (simp [entryFrame, mkF, argsToLocals, Value.category]; done) | rfl) (fun G H => ?_)
  refine H.iloadN s5_0 rfl ?_
  refine H.bipush s5_1 (v := (63 : Int32)) (by decide) ?_
  refine H.iadd s5_3 (w := (257 : Int32)) (by decide) ?_
  refine H.bipush s5_4 (v := (6 : Int32)) (by decide) ?_
  refine H.iushr s5_6 (w := (4 : Int32)) (by decide) ?_
  exact H.ireturn s5_7 rfl (by simp) rfl ⟨rfl, rfl⟩ (by decide) (by decide)


theorem a_122 (l : Launch) {Z : State} {a0 : Array Value} (hw : HW1 Z a0) (n0 : Nat)  : Met l Z KT n0 y6 b6 3 (some (.array .long)) ({ frames := 1, cells := 1, slots := 4, locals := 12 } : Room) #[(.int (194 : Int32))] [.inl (0, [(.int (194 : Int32)), (.ref (n0 + 1)), (.ref (n0 + 2)), .null, .null]), .inr (.long, [(.long (0 : Int64)), (.long (0 : Int64)), (.long (0 : Int64)), (.long (0 : Int64))]), .inr (.long, [(.long (0 : Int64))])] (Is (some (.ref (n0 + 3))) [.inl (0, [(.int (194 : Int32)), (.ref (n0 + 1)), (.ref (n0 + 2)), .null, .null]), .inr (.long, [(.long (0 : Int64)), (.long (0 : Int64)), (.long (0 : Int64)), (.long (0 : Int64))]), .inr (.long, [(.long (0 : Int64))]), .inr (.long, [(.long (-1 : Int64)), (.long (-1 : Int64)), (.long (-1 : Int64)), (.long (3 : Int64))])]) := by
  refine Met.of (a0 := a0) (ls := #[.val (.int (194 : Int32)), .unset, .unset]) (kok hw) (plainFor_of_name pn_7) (fun m => by first | (simp [entryFrame, mkF, argsToLocals, Value.category]; done) | rfl) (fun G H => ?_)
  refine H.iloadN s6_0 rfl ?_
  refine H.callSD s6_1 (k_18 hw) (a_123 l hw n0) (argsL := [(.int (194 : Int32))]) (rest := []) rfl rfl rfl rfl (leb rfl) (leb rfl) (leb rfl) (leb rfl) (st' := [(.int (4 : Int32))]) rfl (k' := 0) rfl (n' := 0) rfl ?_
  refine H.newarray s6_4 (ty := .long) rfl (k_19 hw) (N := 4) (cap := 4) (by decide) rfl (by decide) (by decide) (by first | rfl | simp) (by decide) (by decide) (i := 3) rfl (A' := [.inl (0, [(.int (194 : Int32)), (.ref (n0 + 1)), (.ref (n0 + 2)), .null, .null]), .inr (.long, [(.long (0 : Int64)), (.long (0 : Int64)), (.long (0 : Int64)), (.long (0 : Int64))]), .inr (.long, [(.long (0 : Int64))]), .inr (.long, [(.long (0 : Int64)), (.long (0 : Int64)), (.long (0 : Int64)), (.long (0 : Int64))])]) rfl (k' := 1) rfl (n' := 4) rfl ?_
  refine H.astoreN s6_6 rfl (ls' := #[.val (.int (194 : Int32)), .val (.ref (n0 + 3)), .unset]) rfl ?_
  refine H.iconst s6_7 (v := (0 : Int32)) (by decide) ?_
  refine H.istoreN s6_8 (ls' := #[.val (.int (194 : Int32)), .val (.ref (n0 + 3)), .val (.int (0 : Int32))]) rfl ?_
  refine H.iloadN s6_9 rfl ?_
  refine H.aloadN s6_10 rfl rfl ?_
  refine H.arraylength s6_11 (i := 3) rfl (z := (4 : Int32)) rfl ?_
  refine H.icmpF s6_12 (show (0 : Int32) < (4 : Int32) by decide) ?_
  refine H.aloadN s6_15 rfl rfl ?_
  refine H.iloadN s6_16 rfl ?_
  refine H.ldc2 s6_17 (k_5 hw) ?_
  refine H.lastore s6_20 (i := 3) (j := 0) rfl (by decide) (ltb rfl)  rfl ?_
  refine H.iinc s6_21 rfl (w := (1 : Int32)) (by decide) (ls' := #[.val (.int (194 : Int32)), .val (.ref (n0 + 3)), .val (.int (1 : Int32))]) rfl ?_
  refine H.goto s6_24 ?_
  refine H.iloadN s6_9 rfl ?_
  refine H.aloadN s6_10 rfl rfl ?_
  refine H.arraylength s6_11 (i := 3) rfl (z := (4 : Int32)) rfl ?_
  refine H.icmpF s6_12 (show (1 : Int32) < (4 : Int32) by decide) ?_
  refine H.aloadN s6_15 rfl rfl ?_
  refine H.iloadN s6_16 rfl ?_
  refine H.ldc2 s6_17 (k_5 hw) ?_
  refine H.lastore s6_20 (i := 3) (j := 1) rfl (by decide) (ltb rfl)  rfl ?_
  refine H.iinc s6_21 rfl (w := (2 : Int32)) (by decide) (ls' := #[.val (.int (194 : Int32)), .val (.ref (n0 + 3)), .val (.int (2 : Int32))]) rfl ?_
  refine H.goto s6_24 ?_
  refine H.iloadN s6_9 rfl ?_
  refine H.aloadN s6_10 rfl rfl ?_
  refine H.arraylength s6_11 (i := 3) rfl (z := (4 : Int32)) rfl ?_
  refine H.icmpF s6_12 (show (2 : Int32) < (4 : Int32) by decide) ?_
  refine H.aloadN s6_15 rfl rfl ?_
  refine H.iloadN s6_16 rfl ?_
  refine H.ldc2 s6_17 (k_5 hw) ?_
  refine H.lastore s6_20 (i := 3) (j := 2) rfl (by decide) (ltb rfl)  rfl ?_
  refine H.iinc s6_21 rfl (w := (3 : Int32)) (by decide) (ls' := #[.val (.int (194 : Int32)), .val (.ref (n0 + 3)), .val (.int (3 : Int32))]) rfl ?_
  refine H.goto s6_24 ?_
  refine H.iloadN s6_9 rfl ?_
  refine H.aloadN s6_10 rfl rfl ?_
  refine H.arraylength s6_11 (i := 3) rfl (z := (4 : Int32)) rfl ?_
  refine H.icmpF s6_12 (show (3 : Int32) < (4 : Int32) by decide) ?_
  refine H.aloadN s6_15 rfl rfl ?_
  refine H.iloadN s6_16 rfl ?_
  refine H.ldc2 s6_17 (k_5 hw) ?_
  refine H.lastore s6_20 (i := 3) (j := 3) rfl (by decide) (ltb rfl)  rfl ?_
  refine H.iinc s6_21 rfl (w := (4 : Int32)) (by decide) (ls' := #[.val (.int (194 : Int32)), .val (.ref (n0 + 3)), .val (.int (4 : Int32))]) rfl ?_
  refine H.goto s6_24 ?_
  refine H.iloadN s6_9 rfl ?_
  refine H.aloadN s6_10 rfl rfl ?_
  refine H.arraylength s6_11 (i := 3) rfl (z := (4 : Int32)) rfl ?_
  refine H.icmpT s6_12 (show ¬ (4 : Int32) < (4 : Int32) by decide) ?_
  refine H.iloadN s6_27 rfl ?_
  refine H.bipush s6_28 (v := (64 : Int32)) (by decide) ?_
  refine H.irem s6_30 (by decide) (w := (2 : Int32)) (by decide) ?_
  refine H.ifF s6_31 (show ¬ (2 : Int32) = (0 : Int32) by decide) ?_
  refine H.aloadN s6_34 rfl rfl ?_
  refine H.aloadN s6_35 rfl rfl ?_
  refine H.arraylength s6_36 (i := 3) rfl (z := (4 : Int32)) rfl ?_
  refine H.iconst s6_37 (v := (1 : Int32)) (by decide) ?_
  refine H.isub s6_38 (w := (3 : Int32)) (by decide) ?_
  refine H.lconst s6_39 (v := (1 : Int64)) (by decide) ?_
  refine H.iloadN s6_40 rfl ?_
  refine H.lshl s6_41 (w := (4 : Int64)) (by decide) ?_
  refine H.lconst s6_42 (v := (1 : Int64)) (by decide) ?_
  refine H.lsub s6_43 (w := (3 : Int64)) (by decide) ?_
  refine H.lastore s6_44 (i := 3) (j := 3) rfl (by decide) (ltb rfl)  rfl ?_
  refine H.aloadN s6_45 rfl rfl ?_
  exact H.areturn s6_46 rfl rfl rfl rfl ⟨rfl, rfl⟩ (by decide) (by decide)


theorem a_125 (l : Launch) {Z : State} {a0 : Array Value} (hw : HW1 Z a0) (n0 : Nat)  : Met l Z KT n0 y5 b5 1 (some .int) ({ frames := 0, cells := 0, slots := 0, locals := 0 } : Room) #[(.int (4 : Int32))] [.inl (0, [(.int (194 : Int32)), (.ref (n0 + 1)), (.ref (n0 + 2)), (.ref (n0 + 3)), .null]), .inr (.long, [(.long (0 : Int64)), (.long (0 : Int64)), (.long (0 : Int64)), (.long (0 : Int64))]), .inr (.long, [(.long (0 : Int64))]), .inr (.long, [(.long (-1 : Int64)), (.long (-1 : Int64)), (.long (-1 : Int64)), (.long (3 : Int64))])] (Is (some (.int (1 : Int32))) [.inl (0, [(.int (194 : Int32)), (.ref (n0 + 1)), (.ref (n0 + 2)), (.ref (n0 + 3)), .null]), .inr (.long, [(.long (0 : Int64)), (.long (0 : Int64)), (.long (0 : Int64)), (.long (0 : Int64))]), .inr (.long, [(.long (0 : Int64))]), .inr (.long, [(.long (-1 : Int64)), (.long (-1 : Int64)), (.long (-1 : Int64)), (.long (3 : Int64))])]) := by
  refine Met.of (a0 := a0) (ls := #[.val (.int (4 : Int32))]) (kok hw) (plainFor_of_name pn_7) (fun m => by first | (simp [entryFrame, mkF, argsToLocals, Value.category]; done) | rfl) (fun G H => ?_)
  refine H.iloadN s5_0 rfl ?_
  refine H.bipush s5_1 (v := (63 : Int32)) (by decide) ?_
  refine H.iadd s5_3 (w := (67 : Int32)) (by decide) ?_
  refine H.bipush s5_4 (v := (6 : Int32)) (by decide) ?_
  refine H.iushr s5_6 (w := (1 : Int32)) (by decide) ?_
  exact H.ireturn s5_7 rfl (by simp) rfl ⟨rfl, rfl⟩ (by decide) (by decide)


theorem a_124 (l : Launch) {Z : State} {a0 : Array Value} (hw : HW1 Z a0) (n0 : Nat)  : Met l Z KT n0 y6 b6 3 (some (.array .long)) ({ frames := 1, cells := 1, slots := 1, locals := 12 } : Room) #[(.int (4 : Int32))] [.inl (0, [(.int (194 : Int32)), (.ref (n0 + 1)), (.ref (n0 + 2)), (.ref (n0 + 3)), .null]), .inr (.long, [(.long (0 : Int64)), (.long (0 : Int64)), (.long (0 : Int64)), (.long (0 : Int64))]), .inr (.long, [(.long (0 : Int64))]), .inr (.long, [(.long (-1 : Int64)), (.long (-1 : Int64)), (.long (-1 : Int64)), (.long (3 : Int64))])] (Is (some (.ref (n0 + 4))) [.inl (0, [(.int (194 : Int32)), (.ref (n0 + 1)), (.ref (n0 + 2)), (.ref (n0 + 3)), .null]), .inr (.long, [(.long (0 : Int64)), (.long (0 : Int64)), (.long (0 : Int64)), (.long (0 : Int64))]), .inr (.long, [(.long (0 : Int64))]), .inr (.long, [(.long (-1 : Int64)), (.long (-1 : Int64)), (.long (-1 : Int64)), (.long (3 : Int64))]), .inr (.long, [(.long (15 : Int64))])]) := by
  refine Met.of (a0 := a0) (ls := #[.val (.int (4 : Int32)), .unset, .unset]) (kok hw) (plainFor_of_name pn_7) (fun m => by first | (simp [entryFrame, mkF, argsToLocals, Value.category]; done) | rfl) (fun G H => ?_)
  refine H.iloadN s6_0 rfl ?_
  refine H.callSD s6_1 (k_18 hw) (a_125 l hw n0) (argsL := [(.int (4 : Int32))]) (rest := []) rfl rfl rfl rfl (leb rfl) (leb rfl) (leb rfl) (leb rfl) (st' := [(.int (1 : Int32))]) rfl (k' := 0) rfl (n' := 0) rfl ?_
  refine H.newarray s6_4 (ty := .long) rfl (k_19 hw) (N := 1) (cap := 1) (by decide) rfl (by decide) (by decide) (by first | rfl | simp) (by decide) (by decide) (i := 4) rfl (A' := [.inl (0, [(.int (194 : Int32)), (.ref (n0 + 1)), (.ref (n0 + 2)), (.ref (n0 + 3)), .null]), .inr (.long, [(.long (0 : Int64)), (.long (0 : Int64)), (.long (0 : Int64)), (.long (0 : Int64))]), .inr (.long, [(.long (0 : Int64))]), .inr (.long, [(.long (-1 : Int64)), (.long (-1 : Int64)), (.long (-1 : Int64)), (.long (3 : Int64))]), .inr (.long, [(.long (0 : Int64))])]) rfl (k' := 1) rfl (n' := 1) rfl ?_
  refine H.astoreN s6_6 rfl (ls' := #[.val (.int (4 : Int32)), .val (.ref (n0 + 4)), .unset]) rfl ?_
  refine H.iconst s6_7 (v := (0 : Int32)) (by decide) ?_
  refine H.istoreN s6_8 (ls' := #[.val (.int (4 : Int32)), .val (.ref (n0 + 4)), .val (.int (0 : Int32))]) rfl ?_
  refine H.iloadN s6_9 rfl ?_
  refine H.aloadN s6_10 rfl rfl ?_
  refine H.arraylength s6_11 (i := 4) rfl (z := (1 : Int32)) rfl ?_
  refine H.icmpF s6_12 (show (0 : Int32) < (1 : Int32) by decide) ?_
  refine H.aloadN s6_15 rfl rfl ?_
  refine H.iloadN s6_16 rfl ?_
  refine H.ldc2 s6_17 (k_5 hw) ?_
  refine H.lastore s6_20 (i := 4) (j := 0) rfl (by decide) (ltb rfl)  rfl ?_
  refine H.iinc s6_21 rfl (w := (1 : Int32)) (by decide) (ls' := #[.val (.int (4 : Int32)), .val (.ref (n0 + 4)), .val (.int (1 : Int32))]) rfl ?_
  refine H.goto s6_24 ?_
  refine H.iloadN s6_9 rfl ?_
  refine H.aloadN s6_10 rfl rfl ?_
  refine H.arraylength s6_11 (i := 4) rfl (z := (1 : Int32)) rfl ?_
  refine H.icmpT s6_12 (show ¬ (1 : Int32) < (1 : Int32) by decide) ?_
  refine H.iloadN s6_27 rfl ?_
  refine H.bipush s6_28 (v := (64 : Int32)) (by decide) ?_
  refine H.irem s6_30 (by decide) (w := (4 : Int32)) (by decide) ?_
  refine H.ifF s6_31 (show ¬ (4 : Int32) = (0 : Int32) by decide) ?_
  refine H.aloadN s6_34 rfl rfl ?_
  refine H.aloadN s6_35 rfl rfl ?_
  refine H.arraylength s6_36 (i := 4) rfl (z := (1 : Int32)) rfl ?_
  refine H.iconst s6_37 (v := (1 : Int32)) (by decide) ?_
  refine H.isub s6_38 (w := (0 : Int32)) (by decide) ?_
  refine H.lconst s6_39 (v := (1 : Int64)) (by decide) ?_
  refine H.iloadN s6_40 rfl ?_
  refine H.lshl s6_41 (w := (16 : Int64)) (by decide) ?_
  refine H.lconst s6_42 (v := (1 : Int64)) (by decide) ?_
  refine H.lsub s6_43 (w := (15 : Int64)) (by decide) ?_
  refine H.lastore s6_44 (i := 4) (j := 0) rfl (by decide) (ltb rfl)  rfl ?_
  refine H.aloadN s6_45 rfl rfl ?_
  exact H.areturn s6_46 rfl rfl rfl rfl ⟨rfl, rfl⟩ (by decide) (by decide)


theorem a_119 (l : Launch) {Z : State} {a0 : Array Value} (hw : HW1 Z a0) (n0 : Nat)  : Met l Z KT n0 y3 b3 2 none ({ frames := 2, cells := 4, slots := 10, locals := 27 } : Room) #[(.ref (n0 + 0)), (.int (194 : Int32))] [.inl (0, [(.int (0 : Int32)), .null, .null, .null, .null])] (Is none [.inl (0, [(.int (194 : Int32)), (.ref (n0 + 1)), (.ref (n0 + 2)), (.ref (n0 + 3)), (.ref (n0 + 4))]), .inr (.long, [(.long (0 : Int64)), (.long (0 : Int64)), (.long (0 : Int64)), (.long (0 : Int64))]), .inr (.long, [(.long (0 : Int64))]), .inr (.long, [(.long (-1 : Int64)), (.long (-1 : Int64)), (.long (-1 : Int64)), (.long (3 : Int64))]), .inr (.long, [(.long (15 : Int64))])]) := by
  refine Met.of (a0 := a0) (ls := #[.val (.ref (n0 + 0)), .val (.int (194 : Int32))]) (kok hw) (plainFor_of_name pn_7) (fun m => by first | (simp [entryFrame, mkF, argsToLocals, Value.category]; done) | rfl) (fun G H => ?_)
  refine H.aloadN s3_0 rfl rfl ?_
  refine H.initO s3_1 (k_16 hw) rfl (leb rfl) (leb rfl) ?_
  refine H.aloadN s3_4 rfl rfl ?_
  refine H.iloadN s3_5 rfl ?_
  refine H.putfield s3_6 (k_17 hw) (i := 0) rfl rfl rfl rfl ?_
  refine H.aloadN s3_9 rfl rfl ?_
  refine H.iloadN s3_10 rfl ?_
  refine H.callSD s3_11 (k_18 hw) (a_120 l hw n0) (argsL := [(.int (194 : Int32))]) (rest := [(.ref (n0 + 0))]) rfl rfl rfl rfl (leb rfl) (leb rfl) (leb rfl) (leb rfl) (st' := [(.int (4 : Int32)), (.ref (n0 + 0))]) rfl (k' := 0) rfl (n' := 0) rfl ?_
  refine H.newarray s3_14 (ty := .long) rfl (k_19 hw) (N := 4) (cap := 4) (by decide) rfl (by decide) (by decide) (by first | rfl | simp) (by decide) (by decide) (i := 1) rfl (A' := [.inl (0, [(.int (194 : Int32)), .null, .null, .null, .null]), .inr (.long, [(.long (0 : Int64)), (.long (0 : Int64)), (.long (0 : Int64)), (.long (0 : Int64))])]) rfl (k' := 1) rfl (n' := 4) rfl ?_
  refine H.putfield s3_16 (k_20 hw) (i := 0) rfl rfl rfl rfl ?_
  refine H.aloadN s3_19 rfl rfl ?_
  refine H.aloadN s3_20 rfl rfl ?_
  refine H.getfield s3_21 (k_4 hw) (i := 0) rfl rfl ?_
  refine H.arraylength s3_24 (i := 1) rfl (z := (4 : Int32)) rfl ?_
  refine H.callSD s3_25 (k_18 hw) (a_121 l hw n0) (argsL := [(.int (4 : Int32))]) (rest := [(.ref (n0 + 0))]) rfl rfl rfl rfl (leb rfl) (leb rfl) (leb rfl) (leb rfl) (st' := [(.int (1 : Int32)), (.ref (n0 + 0))]) rfl (k' := 1) rfl (n' := 4) rfl ?_
  refine H.newarray s3_28 (ty := .long) rfl (k_19 hw) (N := 1) (cap := 1) (by decide) rfl (by decide) (by decide) (by first | rfl | simp) (by decide) (by decide) (i := 2) rfl (A' := [.inl (0, [(.int (194 : Int32)), (.ref (n0 + 1)), .null, .null, .null]), .inr (.long, [(.long (0 : Int64)), (.long (0 : Int64)), (.long (0 : Int64)), (.long (0 : Int64))]), .inr (.long, [(.long (0 : Int64))])]) rfl (k' := 2) rfl (n' := 5) rfl ?_
  refine H.putfield s3_30 (k_21 hw) (i := 0) rfl rfl rfl rfl ?_
  refine H.aloadN s3_33 rfl rfl ?_
  refine H.iloadN s3_34 rfl ?_
  refine H.callSD s3_35 (k_22 hw) (a_122 l hw n0) (argsL := [(.int (194 : Int32))]) (rest := [(.ref (n0 + 0))]) rfl rfl rfl rfl (leb rfl) (leb rfl) (leb rfl) (leb rfl) (st' := [(.ref (n0 + 3)), (.ref (n0 + 0))]) rfl (k' := 3) rfl (n' := 9) rfl ?_
  refine H.putfield s3_38 (k_23 hw) (i := 0) rfl rfl rfl rfl ?_
  refine H.aloadN s3_41 rfl rfl ?_
  refine H.aloadN s3_42 rfl rfl ?_
  refine H.getfield s3_43 (k_4 hw) (i := 0) rfl rfl ?_
  refine H.arraylength s3_46 (i := 1) rfl (z := (4 : Int32)) rfl ?_
  refine H.callSD s3_47 (k_22 hw) (a_124 l hw n0) (argsL := [(.int (4 : Int32))]) (rest := [(.ref (n0 + 0))]) rfl rfl rfl rfl (leb rfl) (leb rfl) (leb rfl) (leb rfl) (st' := [(.ref (n0 + 4)), (.ref (n0 + 0))]) rfl (k' := 4) rfl (n' := 10) rfl ?_
  refine H.putfield s3_50 (k_24 hw) (i := 0) rfl rfl rfl rfl ?_
  exact H.vreturn s3_53 rfl ⟨rfl, rfl⟩ (by decide) (by decide)


theorem a_126 (l : Launch) {Z : State} {a0 : Array Value} (hw : HW1 Z a0) (n0 : Nat)  : Met l Z KT n0 y7 b7 1 none ({ frames := 1, cells := 0, slots := 0, locals := 18 } : Room) #[(.ref (n0 + 0))] [.inl (0, [(.int (194 : Int32)), (.ref (n0 + 1)), (.ref (n0 + 2)), (.ref (n0 + 3)), (.ref (n0 + 4))]), .inr (.long, [(.long (0 : Int64)), (.long (0 : Int64)), (.long (0 : Int64)), (.long (0 : Int64))]), .inr (.long, [(.long (0 : Int64))]), .inr (.long, [(.long (-1 : Int64)), (.long (-1 : Int64)), (.long (-1 : Int64)), (.long (3 : Int64))]), .inr (.long, [(.long (15 : Int64))])] (Is none [.inl (0, [(.int (194 : Int32)), (.ref (n0 + 1)), (.ref (n0 + 2)), (.ref (n0 + 3)), (.ref (n0 + 4))]), .inr (.long, [(.long (-1 : Int64)), (.long (-1 : Int64)), (.long (-1 : Int64)), (.long (3 : Int64))]), .inr (.long, [(.long (15 : Int64))]), .inr (.long, [(.long (-1 : Int64)), (.long (-1 : Int64)), (.long (-1 : Int64)), (.long (3 : Int64))]), .inr (.long, [(.long (15 : Int64))])]) := by
  refine Met.of (a0 := a0) (ls := #[.val (.ref (n0 + 0))]) (kok hw) (plainFor_of_name pn_7) (fun m => by first | (simp [entryFrame, mkF, argsToLocals, Value.category]; done) | rfl) (fun G H => ?_)
  refine H.aloadN s7_0 rfl rfl ?_
  refine H.getfield s7_1 (k_26 hw) (i := 0) rfl rfl ?_
  refine H.iconst s7_4 (v := (0 : Int32)) (by decide) ?_
  refine H.aloadN s7_5 rfl rfl ?_
  refine H.getfield s7_6 (k_4 hw) (i := 0) rfl rfl ?_
  refine H.iconst s7_9 (v := (0 : Int32)) (by decide) ?_
  refine H.aloadN s7_10 rfl rfl ?_
  refine H.getfield s7_11 (k_4 hw) (i := 0) rfl rfl ?_
  refine H.arraylength s7_14 (i := 1) rfl (z := (4 : Int32)) rfl ?_
  refine H.arraycopy s7_15 (k_27 hw) (i := 3) (j := 1) rfl rfl rfl (p := 0) (q := 0) (r := 4) (by decide) (by decide) (by decide) (leb rfl) (leb rfl) (leb rfl) (leb rfl) (us := [(.long (-1 : Int64)), (.long (-1 : Int64)), (.long (-1 : Int64)), (.long (3 : Int64))]) rfl rfl (leb rfl) (leb rfl) (by first | rfl | simp) (A' := [.inl (0, [(.int (194 : Int32)), (.ref (n0 + 1)), (.ref (n0 + 2)), (.ref (n0 + 3)), (.ref (n0 + 4))]), .inr (.long, [(.long (-1 : Int64)), (.long (-1 : Int64)), (.long (-1 : Int64)), (.long (3 : Int64))]), .inr (.long, [(.long (0 : Int64))]), .inr (.long, [(.long (-1 : Int64)), (.long (-1 : Int64)), (.long (-1 : Int64)), (.long (3 : Int64))]), .inr (.long, [(.long (15 : Int64))])]) rfl ?_
  refine H.aloadN s7_18 rfl rfl ?_
  refine H.getfield s7_19 (k_28 hw) (i := 0) rfl rfl ?_
  refine H.iconst s7_22 (v := (0 : Int32)) (by decide) ?_
  refine H.aloadN s7_23 rfl rfl ?_
  refine H.getfield s7_24 (k_6 hw) (i := 0) rfl rfl ?_
  refine H.iconst s7_27 (v := (0 : Int32)) (by decide) ?_
  refine H.aloadN s7_28 rfl rfl ?_
  refine H.getfield s7_29 (k_6 hw) (i := 0) rfl rfl ?_
  refine H.arraylength s7_32 (i := 2) rfl (z := (1 : Int32)) rfl ?_
  refine H.arraycopy s7_33 (k_27 hw) (i := 4) (j := 2) rfl rfl rfl (p := 0) (q := 0) (r := 1) (by decide) (by decide) (by decide) (leb rfl) (leb rfl) (leb rfl) (leb rfl) (us := [(.long (15 : Int64))]) rfl rfl (leb rfl) (leb rfl) (by first | rfl | simp) (A' := [.inl (0, [(.int (194 : Int32)), (.ref (n0 + 1)), (.ref (n0 + 2)), (.ref (n0 + 3)), (.ref (n0 + 4))]), .inr (.long, [(.long (-1 : Int64)), (.long (-1 : Int64)), (.long (-1 : Int64)), (.long (3 : Int64))]), .inr (.long, [(.long (15 : Int64))]), .inr (.long, [(.long (-1 : Int64)), (.long (-1 : Int64)), (.long (-1 : Int64)), (.long (3 : Int64))]), .inr (.long, [(.long (15 : Int64))])]) rfl ?_
  exact H.vreturn s7_36 rfl ⟨rfl, rfl⟩ (by decide) (by decide)


theorem a_127 (l : Launch) {Z : State} {a0 : Array Value} (hw : HW1 Z a0) (n0 : Nat)  : Met l Z KT n0 y1 b1 2 (some .int) ({ frames := 0, cells := 0, slots := 0, locals := 0 } : Room) #[(.int (1 : Int32)), (.int (195 : Int32))] [] (Is (some (.int (195 : Int32))) []) := by
  refine Met.of (a0 := a0) (ls := #[.val (.int (1 : Int32)), .val (.int (195 : Int32))]) (kok hw) (Jvm.Free.JP.mathPlain rfl (by decide +kernel)) (fun m => by first | (simp [entryFrame, mkF, argsToLocals, Value.category]; done) | rfl) (fun G H => ?_)
  refine H.iloadN s1_0 rfl ?_
  refine H.iloadN s1_1 rfl ?_
  refine H.icmpT s1_2 (show (1 : Int32) < (195 : Int32) by decide) ?_
  refine H.iloadN s1_9 rfl ?_
  exact H.ireturn s1_10 rfl (by simp) rfl ⟨rfl, rfl⟩ (by decide) (by decide)


theorem a_129 (l : Launch) {Z : State} {a0 : Array Value} (hw : HW1 Z a0) (n0 : Nat)  : Met l Z KT n0 y5 b5 1 (some .int) ({ frames := 0, cells := 0, slots := 0, locals := 0 } : Room) #[(.int (195 : Int32))] [.inl (0, [(.int (195 : Int32)), .null, .null, .null, .null])] (Is (some (.int (4 : Int32))) [.inl (0, [(.int (195 : Int32)), .null, .null, .null, .null])]) := by
  refine Met.of (a0 := a0) (ls := #[.val (.int (195 : Int32))]) (kok hw) (plainFor_of_name pn_7) (fun m => by first | (simp [entryFrame, mkF, argsToLocals, Value.category]; done) | rfl) (fun G H => ?_)
  refine H.iloadN s5_0 rfl ?_
  refine H.bipush s5_1 (v := (63 : Int32)) (by decide) ?_
  refine H.iadd s5_3 (w := (258 : Int32)) (by decide) ?_
  refine H.bipush s5_4 (v := (6 : Int32)) (by decide) ?_
  refine H.iushr s5_6 (w := (4 : Int32)) (by decide) ?_
  exact H.ireturn s5_7 rfl (by simp) rfl ⟨rfl, rfl⟩ (by decide) (by decide)


theorem a_130 (l : Launch) {Z : State} {a0 : Array Value} (hw : HW1 Z a0) (n0 : Nat)  : Met l Z KT n0 y5 b5 1 (some .int) ({ frames := 0, cells := 0, slots := 0, locals := 0 } : Room) #[(.int (4 : Int32))] [.inl (0, [(.int (195 : Int32)), (.ref (n0 + 1)), .null, .null, .null]), .inr (.long, [(.long (0 : Int64)), (.long (0 : Int64)), (.long (0 : Int64)), (.long (0 : Int64))])] (Is (some (.int (1 : Int32))) [.inl (0, [(.int (195 : Int32)), (.ref (n0 + 1)), .null, .null, .null]), .inr (.long, [(.long (0 : Int64)), (.long (0 : Int64)), (.long (0 : Int64)), (.long (0 : Int64))])]) := by
  refine Met.of (a0 := a0) (ls := #[.val (.int (4 : Int32))]) (kok hw) (plainFor_of_name pn_7) (fun m => by first | (simp [entryFrame, mkF, argsToLocals, Value.category]; done) | rfl) (fun G H => ?_)
  refine H.iloadN s5_0 rfl ?_
  refine H.bipush s5_1 (v := (63 : Int32)) (by decide) ?_
  refine H.iadd s5_3 (w := (67 : Int32)) (by decide) ?_
  refine H.bipush s5_4 (v := (6 : Int32)) (by decide) ?_
  refine H.iushr s5_6 (w := (1 : Int32)) (by decide) ?_
  exact H.ireturn s5_7 rfl (by simp) rfl ⟨rfl, rfl⟩ (by decide) (by decide)


theorem a_132 (l : Launch) {Z : State} {a0 : Array Value} (hw : HW1 Z a0) (n0 : Nat)  : Met l Z KT n0 y5 b5 1 (some .int) ({ frames := 0, cells := 0, slots := 0, locals := 0 } : Room) #[(.int (195 : Int32))] [.inl (0, [(.int (195 : Int32)), (.ref (n0 + 1)), (.ref (n0 + 2)), .null, .null]), .inr (.long, [(.long (0 : Int64)), (.long (0 : Int64)), (.long (0 : Int64)), (.long (0 : Int64))]), .inr (.long, [(.long (0 : Int64))])] (Is (some (.int (4 : Int32))) [.inl (0, [(.int (195 : Int32)), (.ref (n0 + 1)), (.ref (n0 + 2)), .null, .null]), .inr (.long, [(.long (0 : Int64)), (.long (0 : Int64)), (.long (0 : Int64)), (.long (0 : Int64))]), .inr (.long, [(.long (0 : Int64))])]) := by
  refine Met.of (a0 := a0) (ls := #[.val (.int (195 : Int32))]) (kok hw) (plainFor_of_name pn_7) (fun m => by first | (simp [entryFrame, mkF, argsToLocals, Value.category]; done) | rfl) (fun G H => ?_)
  refine H.iloadN s5_0 rfl ?_
  refine H.bipush s5_1 (v := (63 : Int32)) (by decide) ?_
  refine H.iadd s5_3 (w := (258 : Int32)) (by decide) ?_
  refine H.bipush s5_4 (v := (6 : Int32)) (by decide) ?_
  refine H.iushr s5_6 (w := (4 : Int32)) (by decide) ?_
  exact H.ireturn s5_7 rfl (by simp) rfl ⟨rfl, rfl⟩ (by decide) (by decide)


theorem a_131 (l : Launch) {Z : State} {a0 : Array Value} (hw : HW1 Z a0) (n0 : Nat)  : Met l Z KT n0 y6 b6 3 (some (.array .long)) ({ frames := 1, cells := 1, slots := 4, locals := 12 } : Room) #[(.int (195 : Int32))] [.inl (0, [(.int (195 : Int32)), (.ref (n0 + 1)), (.ref (n0 + 2)), .null, .null]), .inr (.long, [(.long (0 : Int64)), (.long (0 : Int64)), (.long (0 : Int64)), (.long (0 : Int64))]), .inr (.long, [(.long (0 : Int64))])] (Is (some (.ref (n0 + 3))) [.inl (0, [(.int (195 : Int32)), (.ref (n0 + 1)), (.ref (n0 + 2)), .null, .null]), .inr (.long, [(.long (0 : Int64)), (.long (0 : Int64)), (.long (0 : Int64)), (.long (0 : Int64))]), .inr (.long, [(.long (0 : Int64))]), .inr (.long, [(.long (-1 : Int64)), (.long (-1 : Int64)), (.long (-1 : Int64)), (.long (7 : Int64))])]) := by
  refine Met.of (a0 := a0) (ls := #[.val (.int (195 : Int32)), .unset, .unset]) (kok hw) (plainFor_of_name pn_7) (fun m => by first | (simp [entryFrame, mkF, argsToLocals, Value.category]; done) | rfl) (fun G H => ?_)
  refine H.iloadN s6_0 rfl ?_
  refine H.callSD s6_1 (k_18 hw) (a_132 l hw n0) (argsL := [(.int (195 : Int32))]) (rest := []) rfl rfl rfl rfl (leb rfl) (leb rfl) (leb rfl) (leb rfl) (st' := [(.int (4 : Int32))]) rfl (k' := 0) rfl (n' := 0) rfl ?_
  refine H.newarray s6_4 (ty := .long) rfl (k_19 hw) (N := 4) (cap := 4) (by decide) rfl (by decide) (by decide) (by first | rfl | simp) (by decide) (by decide) (i := 3) rfl (A' := [.inl (0, [(.int (195 : Int32)), (.ref (n0 + 1)), (.ref (n0 + 2)), .null, .null]), .inr (.long, [(.long (0 : Int64)), (.long (0 : Int64)), (.long (0 : Int64)), (.long (0 : Int64))]), .inr (.long, [(.long (0 : Int64))]), .inr (.long, [(.long (0 : Int64)), (.long (0 : Int64)), (.long (0 : Int64)), (.long (0 : Int64))])]) rfl (k' := 1) rfl (n' := 4) rfl ?_
  refine H.astoreN s6_6 rfl (ls' := #[.val (.int (195 : Int32)), .val (.ref (n0 + 3)), .unset]) rfl ?_
  refine H.iconst s6_7 (v := (0 : Int32)) (by decide) ?_
  refine H.istoreN s6_8 (ls' := #[.val (.int (195 : Int32)), .val (.ref (n0 + 3)), .val (.int (0 : Int32))]) rfl ?_
  refine H.iloadN s6_9 rfl ?_
  refine H.aloadN s6_10 rfl rfl ?_
  refine H.arraylength s6_11 (i := 3) rfl (z := (4 : Int32)) rfl ?_
  refine H.icmpF s6_12 (show (0 : Int32) < (4 : Int32) by decide) ?_
  refine H.aloadN s6_15 rfl rfl ?_
  refine H.iloadN s6_16 rfl ?_
  refine H.ldc2 s6_17 (k_5 hw) ?_
  refine H.lastore s6_20 (i := 3) (j := 0) rfl (by decide) (ltb rfl)  rfl ?_
  refine H.iinc s6_21 rfl (w := (1 : Int32)) (by decide) (ls' := #[.val (.int (195 : Int32)), .val (.ref (n0 + 3)), .val (.int (1 : Int32))]) rfl ?_
  refine H.goto s6_24 ?_
  refine H.iloadN s6_9 rfl ?_
  refine H.aloadN s6_10 rfl rfl ?_
  refine H.arraylength s6_11 (i := 3) rfl (z := (4 : Int32)) rfl ?_
  refine H.icmpF s6_12 (show (1 : Int32) < (4 : Int32) by decide) ?_
  refine H.aloadN s6_15 rfl rfl ?_
  refine H.iloadN s6_16 rfl ?_
  refine H.ldc2 s6_17 (k_5 hw) ?_
  refine H.lastore s6_20 (i := 3) (j := 1) rfl (by decide) (ltb rfl)  rfl ?_
  refine H.iinc s6_21 rfl (w := (2 : Int32)) (by decide) (ls' := #[.val (.int (195 : Int32)), .val (.ref (n0 + 3)), .val (.int (2 : Int32))]) rfl ?_
  refine H.goto s6_24 ?_
  refine H.iloadN s6_9 rfl ?_
  refine H.aloadN s6_10 rfl rfl ?_
  refine H.arraylength s6_11 (i := 3) rfl (z := (4 : Int32)) rfl ?_
  refine H.icmpF s6_12 (show (2 : Int32) < (4 : Int32) by decide) ?_
  refine H.aloadN s6_15 rfl rfl ?_
  refine H.iloadN s6_16 rfl ?_
  refine H.ldc2 s6_17 (k_5 hw) ?_
  refine H.lastore s6_20 (i := 3) (j := 2) rfl (by decide) (ltb rfl)  rfl ?_
  refine H.iinc s6_21 rfl (w := (3 : Int32)) (by decide) (ls' := #[.val (.int (195 : Int32)), .val (.ref (n0 + 3)), .val (.int (3 : Int32))]) rfl ?_
  refine H.goto s6_24 ?_
  refine H.iloadN s6_9 rfl ?_
  refine H.aloadN s6_10 rfl rfl ?_
  refine H.arraylength s6_11 (i := 3) rfl (z := (4 : Int32)) rfl ?_
  refine H.icmpF s6_12 (show (3 : Int32) < (4 : Int32) by decide) ?_
  refine H.aloadN s6_15 rfl rfl ?_
  refine H.iloadN s6_16 rfl ?_
  refine H.ldc2 s6_17 (k_5 hw) ?_
  refine H.lastore s6_20 (i := 3) (j := 3) rfl (by decide) (ltb rfl)  rfl ?_
  refine H.iinc s6_21 rfl (w := (4 : Int32)) (by decide) (ls' := #[.val (.int (195 : Int32)), .val (.ref (n0 + 3)), .val (.int (4 : Int32))]) rfl ?_
  refine H.goto s6_24 ?_
  refine H.iloadN s6_9 rfl ?_
  refine H.aloadN s6_10 rfl rfl ?_
  refine H.arraylength s6_11 (i := 3) rfl (z := (4 : Int32)) rfl ?_
  refine H.icmpT s6_12 (show ¬ (4 : Int32) < (4 : Int32) by decide) ?_
  refine H.iloadN s6_27 rfl ?_
  refine H.bipush s6_28 (v := (64 : Int32)) (by decide) ?_
  refine H.irem s6_30 (by decide) (w := (3 : Int32)) (by decide) ?_
  refine H.ifF s6_31 (show ¬ (3 : Int32) = (0 : Int32) by decide) ?_
  refine H.aloadN s6_34 rfl rfl ?_
  refine H.aloadN s6_35 rfl rfl ?_
  refine H.arraylength s6_36 (i := 3) rfl (z := (4 : Int32)) rfl ?_
  refine H.iconst s6_37 (v := (1 : Int32)) (by decide) ?_
  refine H.isub s6_38 (w := (3 : Int32)) (by decide) ?_
  refine H.lconst s6_39 (v := (1 : Int64)) (by decide) ?_
  refine H.iloadN s6_40 rfl ?_
  refine H.lshl s6_41 (w := (8 : Int64)) (by decide) ?_
  refine H.lconst s6_42 (v := (1 : Int64)) (by decide) ?_
  refine H.lsub s6_43 (w := (7 : Int64)) (by decide) ?_
  refine H.lastore s6_44 (i := 3) (j := 3) rfl (by decide) (ltb rfl)  rfl ?_
  refine H.aloadN s6_45 rfl rfl ?_
  exact H.areturn s6_46 rfl rfl rfl rfl ⟨rfl, rfl⟩ (by decide) (by decide)


theorem a_134 (l : Launch) {Z : State} {a0 : Array Value} (hw : HW1 Z a0) (n0 : Nat)  : Met l Z KT n0 y5 b5 1 (some .int) ({ frames := 0, cells := 0, slots := 0, locals := 0 } : Room) #[(.int (4 : Int32))] [.inl (0, [(.int (195 : Int32)), (.ref (n0 + 1)), (.ref (n0 + 2)), (.ref (n0 + 3)), .null]), .inr (.long, [(.long (0 : Int64)), (.long (0 : Int64)), (.long (0 : Int64)), (.long (0 : Int64))]), .inr (.long, [(.long (0 : Int64))]), .inr (.long, [(.long (-1 : Int64)), (.long (-1 : Int64)), (.long (-1 : Int64)), (.long (7 : Int64))])] (Is (some (.int (1 : Int32))) [.inl (0, [(.int (195 : Int32)), (.ref (n0 + 1)), (.ref (n0 + 2)), (.ref (n0 + 3)), .null]), .inr (.long, [(.long (0 : Int64)), (.long (0 : Int64)), (.long (0 : Int64)), (.long (0 : Int64))]), .inr (.long, [(.long (0 : Int64))]), .inr (.long, [(.long (-1 : Int64)), (.long (-1 : Int64)), (.long (-1 : Int64)), (.long (7 : Int64))])]) := by
  refine Met.of (a0 := a0) (ls := #[.val (.int (4 : Int32))]) (kok hw) (plainFor_of_name pn_7) (fun m => by first | (simp [entryFrame, mkF, argsToLocals, Value.category]; done) | rfl) (fun G H => ?_)
  refine H.iloadN s5_0 rfl ?_
  refine H.bipush s5_1 (v := (63 : Int32)) (by decide) ?_
  refine H.iadd s5_3 (w := (67 : Int32)) (by decide) ?_
  refine H.bipush s5_4 (v := (6 : Int32)) (by decide) ?_
  refine H.iushr s5_6 (w := (1 : Int32)) (by decide) ?_
  exact H.ireturn s5_7 rfl (by simp) rfl ⟨rfl, rfl⟩ (by decide) (by decide)


theorem a_133 (l : Launch) {Z : State} {a0 : Array Value} (hw : HW1 Z a0) (n0 : Nat)  : Met l Z KT n0 y6 b6 3 (some (.array .long)) ({ frames := 1, cells := 1, slots := 1, locals := 12 } : Room) #[(.int (4 : Int32))] [.inl (0, [(.int (195 : Int32)), (.ref (n0 + 1)), (.ref (n0 + 2)), (.ref (n0 + 3)), .null]), .inr (.long, [(.long (0 : Int64)), (.long (0 : Int64)), (.long (0 : Int64)), (.long (0 : Int64))]), .inr (.long, [(.long (0 : Int64))]), .inr (.long, [(.long (-1 : Int64)), (.long (-1 : Int64)), (.long (-1 : Int64)), (.long (7 : Int64))])] (Is (some (.ref (n0 + 4))) [.inl (0, [(.int (195 : Int32)), (.ref (n0 + 1)), (.ref (n0 + 2)), (.ref (n0 + 3)), .null]), .inr (.long, [(.long (0 : Int64)), (.long (0 : Int64)), (.long (0 : Int64)), (.long (0 : Int64))]), .inr (.long, [(.long (0 : Int64))]), .inr (.long, [(.long (-1 : Int64)), (.long (-1 : Int64)), (.long (-1 : Int64)), (.long (7 : Int64))]), .inr (.long, [(.long (15 : Int64))])]) := by
  refine Met.of (a0 := a0) (ls := #[.val (.int (4 : Int32)), .unset, .unset]) (kok hw) (plainFor_of_name pn_7) (fun m => by first | (simp [entryFrame, mkF, argsToLocals, Value.category]; done) | rfl) (fun G H => ?_)
  refine H.iloadN s6_0 rfl ?_
  refine H.callSD s6_1 (k_18 hw) (a_134 l hw n0) (argsL := [(.int (4 : Int32))]) (rest := []) rfl rfl rfl rfl (leb rfl) (leb rfl) (leb rfl) (leb rfl) (st' := [(.int (1 : Int32))]) rfl (k' := 0) rfl (n' := 0) rfl ?_
  refine H.newarray s6_4 (ty := .long) rfl (k_19 hw) (N := 1) (cap := 1) (by decide) rfl (by decide) (by decide) (by first | rfl | simp) (by decide) (by decide) (i := 4) rfl (A' := [.inl (0, [(.int (195 : Int32)), (.ref (n0 + 1)), (.ref (n0 + 2)), (.ref (n0 + 3)), .null]), .inr (.long, [(.long (0 : Int64)), (.long (0 : Int64)), (.long (0 : Int64)), (.long (0 : Int64))]), .inr (.long, [(.long (0 : Int64))]), .inr (.long, [(.long (-1 : Int64)), (.long (-1 : Int64)), (.long (-1 : Int64)), (.long (7 : Int64))]), .inr (.long, [(.long (0 : Int64))])]) rfl (k' := 1) rfl (n' := 1) rfl ?_
  refine H.astoreN s6_6 rfl (ls' := #[.val (.int (4 : Int32)), .val (.ref (n0 + 4)), .unset]) rfl ?_
  refine H.iconst s6_7 (v := (0 : Int32)) (by decide) ?_
  refine H.istoreN s6_8 (ls' := #[.val (.int (4 : Int32)), .val (.ref (n0 + 4)), .val (.int (0 : Int32))]) rfl ?_
  refine H.iloadN s6_9 rfl ?_
  refine H.aloadN s6_10 rfl rfl ?_
  refine H.arraylength s6_11 (i := 4) rfl (z := (1 : Int32)) rfl ?_
  refine H.icmpF s6_12 (show (0 : Int32) < (1 : Int32) by decide) ?_
  refine H.aloadN s6_15 rfl rfl ?_
  refine H.iloadN s6_16 rfl ?_
  refine H.ldc2 s6_17 (k_5 hw) ?_
  refine H.lastore s6_20 (i := 4) (j := 0) rfl (by decide) (ltb rfl)  rfl ?_
  refine H.iinc s6_21 rfl (w := (1 : Int32)) (by decide) (ls' := #[.val (.int (4 : Int32)), .val (.ref (n0 + 4)), .val (.int (1 : Int32))]) rfl ?_
  refine H.goto s6_24 ?_
  refine H.iloadN s6_9 rfl ?_
  refine H.aloadN s6_10 rfl rfl ?_
  refine H.arraylength s6_11 (i := 4) rfl (z := (1 : Int32)) rfl ?_
  refine H.icmpT s6_12 (show ¬ (1 : Int32) < (1 : Int32) by decide) ?_
  refine H.iloadN s6_27 rfl ?_
  refine H.bipush s6_28 (v := (64 : Int32)) (by decide) ?_
  refine H.irem s6_30 (by decide) (w := (4 : Int32)) (by decide) ?_
  refine H.ifF s6_31 (show ¬ (4 : Int32) = (0 : Int32) by decide) ?_
  refine H.aloadN s6_34 rfl rfl ?_
  refine H.aloadN s6_35 rfl rfl ?_
  refine H.arraylength s6_36 (i := 4) rfl (z := (1 : Int32)) rfl ?_
  refine H.iconst s6_37 (v := (1 : Int32)) (by decide) ?_
  refine H.isub s6_38 (w := (0 : Int32)) (by decide) ?_
  refine H.lconst s6_39 (v := (1 : Int64)) (by decide) ?_
  refine H.iloadN s6_40 rfl ?_
  refine H.lshl s6_41 (w := (16 : Int64)) (by decide) ?_
  refine H.lconst s6_42 (v := (1 : Int64)) (by decide) ?_
  refine H.lsub s6_43 (w := (15 : Int64)) (by decide) ?_
  refine H.lastore s6_44 (i := 4) (j := 0) rfl (by decide) (ltb rfl)  rfl ?_
  refine H.aloadN s6_45 rfl rfl ?_
  exact H.areturn s6_46 rfl rfl rfl rfl ⟨rfl, rfl⟩ (by decide) (by decide)


theorem a_128 (l : Launch) {Z : State} {a0 : Array Value} (hw : HW1 Z a0) (n0 : Nat)  : Met l Z KT n0 y3 b3 2 none ({ frames := 2, cells := 4, slots := 10, locals := 27 } : Room) #[(.ref (n0 + 0)), (.int (195 : Int32))] [.inl (0, [(.int (0 : Int32)), .null, .null, .null, .null])] (Is none [.inl (0, [(.int (195 : Int32)), (.ref (n0 + 1)), (.ref (n0 + 2)), (.ref (n0 + 3)), (.ref (n0 + 4))]), .inr (.long, [(.long (0 : Int64)), (.long (0 : Int64)), (.long (0 : Int64)), (.long (0 : Int64))]), .inr (.long, [(.long (0 : Int64))]), .inr (.long, [(.long (-1 : Int64)), (.long (-1 : Int64)), (.long (-1 : Int64)), (.long (7 : Int64))]), .inr (.long, [(.long (15 : Int64))])]) := by
  refine Met.of (a0 := a0) (ls := #[.val (.ref (n0 + 0)), .val (.int (195 : Int32))]) (kok hw) (plainFor_of_name pn_7) (fun m => by first | (simp [entryFrame, mkF, argsToLocals, Value.category]; done) | rfl) (fun G H => ?_)
  refine H.aloadN s3_0 rfl rfl ?_
  refine H.initO s3_1 (k_16 hw) rfl (leb rfl) (leb rfl) ?_
  refine H.aloadN s3_4 rfl rfl ?_
  refine H.iloadN s3_5 rfl ?_
  refine H.putfield s3_6 (k_17 hw) (i := 0) rfl rfl rfl rfl ?_
  refine H.aloadN s3_9 rfl rfl ?_
  refine H.iloadN s3_10 rfl ?_
  refine H.callSD s3_11 (k_18 hw) (a_129 l hw n0) (argsL := [(.int (195 : Int32))]) (rest := [(.ref (n0 + 0))]) rfl rfl rfl rfl (leb rfl) (leb rfl) (leb rfl) (leb rfl) (st' := [(.int (4 : Int32)), (.ref (n0 + 0))]) rfl (k' := 0) rfl (n' := 0) rfl ?_
  refine H.newarray s3_14 (ty := .long) rfl (k_19 hw) (N := 4) (cap := 4) (by decide) rfl (by decide) (by decide) (by first | rfl | simp) (by decide) (by decide) (i := 1) rfl (A' := [.inl (0, [(.int (195 : Int32)), .null, .null, .null, .null]), .inr (.long, [(.long (0 : Int64)), (.long (0 : Int64)), (.long (0 : Int64)), (.long (0 : Int64))])]) rfl (k' := 1) rfl (n' := 4) rfl ?_
  refine H.putfield s3_16 (k_20 hw) (i := 0) rfl rfl rfl rfl ?_
  refine H.aloadN s3_19 rfl rfl ?_
  refine H.aloadN s3_20 rfl rfl ?_
  refine H.getfield s3_21 (k_4 hw) (i := 0) rfl rfl ?_
  refine H.arraylength s3_24 (i := 1) rfl (z := (4 : Int32)) rfl ?_
  refine H.callSD s3_25 (k_18 hw) (a_130 l hw n0) (argsL := [(.int (4 : Int32))]) (rest := [(.ref (n0 + 0))]) rfl rfl rfl rfl (leb rfl) (leb rfl) (leb rfl) (leb rfl) (st' := [(.int (1 : Int32)), (.ref (n0 + 0))]) rfl (k' := 1) rfl (n' := 4) rfl ?_
  refine H.newarray s3_28 (ty := .long) rfl (k_19 hw) (N := 1) (cap := 1) (by decide) rfl (by decide) (by decide) (by first | rfl | simp) (by decide) (by decide) (i := 2) rfl (A' := [.inl (0, [(.int (195 : Int32)), (.ref (n0 + 1)), .null, .null, .null]), .inr (.long, [(.long (0 : Int64)), (.long (0 : Int64)), (.long (0 : Int64)), (.long (0 : Int64))]), .inr (.long, [(.long (0 : Int64))])]) rfl (k' := 2) rfl (n' := 5) rfl ?_
  refine H.putfield s3_30 (k_21 hw) (i := 0) rfl rfl rfl rfl ?_
  refine H.aloadN s3_33 rfl rfl ?_
  refine H.iloadN s3_34 rfl ?_
  refine H.callSD s3_35 (k_22 hw) (a_131 l hw n0) (argsL := [(.int (195 : Int32))]) (rest := [(.ref (n0 + 0))]) rfl rfl rfl rfl (leb rfl) (leb rfl) (leb rfl) (leb rfl) (st' := [(.ref (n0 + 3)), (.ref (n0 + 0))]) rfl (k' := 3) rfl (n' := 9) rfl ?_
  refine H.putfield s3_38 (k_23 hw) (i := 0) rfl rfl rfl rfl ?_
  refine H.aloadN s3_41 rfl rfl ?_
  refine H.aloadN s3_42 rfl rfl ?_
  refine H.getfield s3_43 (k_4 hw) (i := 0) rfl rfl ?_
  refine H.arraylength s3_46 (i := 1) rfl (z := (4 : Int32)) rfl ?_
  refine H.callSD s3_47 (k_22 hw) (a_133 l hw n0) (argsL := [(.int (4 : Int32))]) (rest := [(.ref (n0 + 0))]) rfl rfl rfl rfl (leb rfl) (leb rfl) (leb rfl) (leb rfl) (st' := [(.ref (n0 + 4)), (.ref (n0 + 0))]) rfl (k' := 4) rfl (n' := 10) rfl ?_
  refine H.putfield s3_50 (k_24 hw) (i := 0) rfl rfl rfl rfl ?_
  exact H.vreturn s3_53 rfl ⟨rfl, rfl⟩ (by decide) (by decide)


theorem a_135 (l : Launch) {Z : State} {a0 : Array Value} (hw : HW1 Z a0) (n0 : Nat)  : Met l Z KT n0 y7 b7 1 none ({ frames := 1, cells := 0, slots := 0, locals := 18 } : Room) #[(.ref (n0 + 0))] [.inl (0, [(.int (195 : Int32)), (.ref (n0 + 1)), (.ref (n0 + 2)), (.ref (n0 + 3)), (.ref (n0 + 4))]), .inr (.long, [(.long (0 : Int64)), (.long (0 : Int64)), (.long (0 : Int64)), (.long (0 : Int64))]), .inr (.long, [(.long (0 : Int64))]), .inr (.long, [(.long (-1 : Int64)), (.long (-1 : Int64)), (.long (-1 : Int64)), (.long (7 : Int64))]), .inr (.long, [(.long (15 : Int64))])] (Is none [.inl (0, [(.int (195 : Int32)), (.ref (n0 + 1)), (.ref (n0 + 2)), (.ref (n0 + 3)), (.ref (n0 + 4))]), .inr (.long, [(.long (-1 : Int64)), (.long (-1 : Int64)), (.long (-1 : Int64)), (.long (7 : Int64))]), .inr (.long, [(.long (15 : Int64))]), .inr (.long, [(.long (-1 : Int64)), (.long (-1 : Int64)), (.long (-1 : Int64)), (.long (7 : Int64))]), .inr (.long, [(.long (15 : Int64))])]) := by
  refine Met.of (a0 := a0) (ls := #[.val (.ref (n0 + 0))]) (kok hw) (plainFor_of_name pn_7) (fun m => by first | (simp [entryFrame, mkF, argsToLocals, Value.category]; done) | rfl) (fun G H => ?_)
  refine H.aloadN s7_0 rfl rfl ?_
  refine H.getfield s7_1 (k_26 hw) (i := 0) rfl rfl ?_
  refine H.iconst s7_4 (v := (0 : Int32)) (by decide) ?_
  refine H.aloadN s7_5 rfl rfl ?_
  refine H.getfield s7_6 (k_4 hw) (i := 0) rfl rfl ?_
  refine H.iconst s7_9 (v := (0 : Int32)) (by decide) ?_
  refine H.aloadN s7_10 rfl rfl ?_
  refine H.getfield s7_11 (k_4 hw) (i := 0) rfl rfl ?_
  refine H.arraylength s7_14 (i := 1) rfl (z := (4 : Int32)) rfl ?_
  refine H.arraycopy s7_15 (k_27 hw) (i := 3) (j := 1) rfl rfl rfl (p := 0) (q := 0) (r := 4) (by decide) (by decide) (by decide) (leb rfl) (leb rfl) (leb rfl) (leb rfl) (us := [(.long (-1 : Int64)), (.long (-1 : Int64)), (.long (-1 : Int64)), (.long (7 : Int64))]) rfl rfl (leb rfl) (leb rfl) (by first | rfl | simp) (A' := [.inl (0, [(.int (195 : Int32)), (.ref (n0 + 1)), (.ref (n0 + 2)), (.ref (n0 + 3)), (.ref (n0 + 4))]), .inr (.long, [(.long (-1 : Int64)), (.long (-1 : Int64)), (.long (-1 : Int64)), (.long (7 : Int64))]), .inr (.long, [(.long (0 : Int64))]), .inr (.long, [(.long (-1 : Int64)), (.long (-1 : Int64)), (.long (-1 : Int64)), (.long (7 : Int64))]), .inr (.long, [(.long (15 : Int64))])]) rfl ?_
  refine H.aloadN s7_18 rfl rfl ?_
  refine H.getfield s7_19 (k_28 hw) (i := 0) rfl rfl ?_
  refine H.iconst s7_22 (v := (0 : Int32)) (by decide) ?_
  refine H.aloadN s7_23 rfl rfl ?_
  refine H.getfield s7_24 (k_6 hw) (i := 0) rfl rfl ?_
  refine H.iconst s7_27 (v := (0 : Int32)) (by decide) ?_
  refine H.aloadN s7_28 rfl rfl ?_
  refine H.getfield s7_29 (k_6 hw) (i := 0) rfl rfl ?_
  refine H.arraylength s7_32 (i := 2) rfl (z := (1 : Int32)) rfl ?_
  refine H.arraycopy s7_33 (k_27 hw) (i := 4) (j := 2) rfl rfl rfl (p := 0) (q := 0) (r := 1) (by decide) (by decide) (by decide) (leb rfl) (leb rfl) (leb rfl) (leb rfl) (us := [(.long (15 : Int64))]) rfl rfl (leb rfl) (leb rfl) (by first | rfl | simp) (A' := [.inl (0, [(.int (195 : Int32)), (.ref (n0 + 1)), (.ref (n0 + 2)), (.ref (n0 + 3)), (.ref (n0 + 4))]), .inr (.long, [(.long (-1 : Int64)), (.long (-1 : Int64)), (.long (-1 : Int64)), (.long (7 : Int64))]), .inr (.long, [(.long (15 : Int64))]), .inr (.long, [(.long (-1 : Int64)), (.long (-1 : Int64)), (.long (-1 : Int64)), (.long (7 : Int64))]), .inr (.long, [(.long (15 : Int64))])]) rfl ?_
  exact H.vreturn s7_36 rfl ⟨rfl, rfl⟩ (by decide) (by decide)


theorem law_met (l : Launch) {Z : State} {a0 : Array Value} (hw : HW1 Z a0) (n0 : Nat) (p0 : Int32) (p1 : Int32) (p2 : Int32) (p3 : Int32) (p4 : Int32) : Met l Z KT n0 x code maxLocals ret room_1 #[(.int p0), (.int p1), (.int p2), (.int p3), (.int p4)] [] (fun v _ => v = some (.int 1)) := by
  refine Met.of (a0 := a0) (ls := #[.val (.int p0), .val (.int p1), .val (.int p2), .val (.int p3), .val (.int p4), .unset, .unset, .unset, .unset, .unset, .unset, .unset, .unset, .unset]) (kok hw) (plainFor_of_name pn_11) (fun m => by first | (simp [entryFrame, mkF, argsToLocals, Value.category, maxLocals]; done) | rfl) (fun G H => ?_)
  refine H.iloadN s0_0 rfl ?_
  refine H.iconst s0_1 (v := (3 : Int32)) (by decide) ?_
  rcases own_and3 p0 with hz2 | hz2 | hz2 | hz2
  · refine H.iand s0_2 (w := (0 : Int32)) hz2 ?_
    refine H.istore s0_3 (ls' := #[.val (.int p0), .val (.int p1), .val (.int p2), .val (.int p3), .val (.int p4), .val (.int (0 : Int32)), .unset, .unset, .unset, .unset, .unset, .unset, .unset, .unset]) rfl ?_
    refine H.iloadN s0_5 rfl ?_
    refine H.iconst s0_6 (v := (2 : Int32)) (by decide) ?_
    refine H.iushr s0_7 rfl ?_
    refine H.iconst s0_8 (v := (3 : Int32)) (by decide) ?_
    rcases own_and3 ((p0.toUInt32 >>> ((2 : Int32) &&& 31).toUInt32).toInt32) with hz9 | hz9 | hz9 | hz9
    · refine H.iand s0_9 (w := (0 : Int32)) hz9 ?_
      refine H.istore s0_10 (ls' := #[.val (.int p0), .val (.int p1), .val (.int p2), .val (.int p3), .val (.int p4), .val (.int (0 : Int32)), .val (.int (0 : Int32)), .unset, .unset, .unset, .unset, .unset, .unset, .unset]) rfl ?_
      refine H.iconst s0_12 (v := (1 : Int32)) (by decide) ?_
      refine H.iload s0_13 rfl ?_
      refine H.bipush s0_15 (v := (6 : Int32)) (by decide) ?_
      refine H.ishl s0_17 (w := (0 : Int32)) (by decide) ?_
      refine H.iload s0_18 rfl ?_
      refine H.iadd s0_20 (w := (0 : Int32)) (by decide) ?_
      refine H.callSD s0_21 (k_13 hw) (a_0 l hw n0) (argsL := [(.int (1 : Int32)), (.int (0 : Int32))]) (rest := []) rfl rfl rfl rfl (leb rfl) (leb rfl) (leb rfl) (leb rfl) (st' := [(.int (1 : Int32))]) rfl (k' := 0) rfl (n' := 0) rfl ?_
      refine H.istore s0_24 (ls' := #[.val (.int p0), .val (.int p1), .val (.int p2), .val (.int p3), .val (.int p4), .val (.int (0 : Int32)), .val (.int (0 : Int32)), .val (.int (1 : Int32)), .unset, .unset, .unset, .unset, .unset, .unset]) rfl ?_
      refine H.iloadN s0_26 rfl ?_
      refine H.iload s0_27 rfl ?_
      refine H.callSD s0_29 (k_14 hw) (m_ix l hw n0 _ p1 (1 : Int32) (by decide)) (argsL := [(.int p1), (.int (1 : Int32))]) (rest := []) rfl rfl rfl rfl (leb rfl) (leb rfl) (leb rfl) (leb rfl) (st' := [(.int (own_ix p1 (1 : Int32)))]) rfl (k' := 0) rfl (n' := 0) rfl ?_
      refine H.istore s0_32 (ls' := #[.val (.int p0), .val (.int p1), .val (.int p2), .val (.int p3), .val (.int p4), .val (.int (0 : Int32)), .val (.int (0 : Int32)), .val (.int (1 : Int32)), .val (.int (own_ix p1 (1 : Int32))), .unset, .unset, .unset, .unset, .unset]) rfl ?_
      refine H.iloadN s0_34 rfl ?_
      refine H.iload s0_35 rfl ?_
      refine H.callSD s0_37 (k_14 hw) (m_ix l hw n0 _ p2 (1 : Int32) (by decide)) (argsL := [(.int p2), (.int (1 : Int32))]) (rest := []) rfl rfl rfl rfl (leb rfl) (leb rfl) (leb rfl) (leb rfl) (st' := [(.int (own_ix p2 (1 : Int32)))]) rfl (k' := 0) rfl (n' := 0) rfl ?_
      refine H.istore s0_40 (ls' := #[.val (.int p0), .val (.int p1), .val (.int p2), .val (.int p3), .val (.int p4), .val (.int (0 : Int32)), .val (.int (0 : Int32)), .val (.int (1 : Int32)), .val (.int (own_ix p1 (1 : Int32))), .val (.int (own_ix p2 (1 : Int32))), .unset, .unset, .unset, .unset]) rfl ?_
      refine H.iloadN s0_42 rfl ?_
      refine H.iload s0_43 rfl ?_
      refine H.callSD s0_45 (k_14 hw) (m_ix l hw n0 _ p3 (1 : Int32) (by decide)) (argsL := [(.int p3), (.int (1 : Int32))]) (rest := []) rfl rfl rfl rfl (leb rfl) (leb rfl) (leb rfl) (leb rfl) (st' := [(.int (own_ix p3 (1 : Int32)))]) rfl (k' := 0) rfl (n' := 0) rfl ?_
      refine H.istore s0_48 (ls' := #[.val (.int p0), .val (.int p1), .val (.int p2), .val (.int p3), .val (.int p4), .val (.int (0 : Int32)), .val (.int (0 : Int32)), .val (.int (1 : Int32)), .val (.int (own_ix p1 (1 : Int32))), .val (.int (own_ix p2 (1 : Int32))), .val (.int (own_ix p3 (1 : Int32))), .unset, .unset, .unset]) rfl ?_
      refine H.iload s0_50 rfl ?_
      refine H.iconst s0_52 (v := (1 : Int32)) (by decide) ?_
      refine H.iushr s0_53 rfl ?_
      refine H.iload s0_54 rfl ?_
      refine H.iconst s0_56 (v := (2 : Int32)) (by decide) ?_
      refine H.iadd s0_57 (w := (3 : Int32)) (by decide) ?_
      refine H.irem s0_58 (by decide) (w := ((p4.toUInt32 >>> ((1 : Int32) &&& 31).toUInt32).toInt32 % (3 : Int32))) rfl ?_
      refine H.istore s0_59 (ls' := #[.val (.int p0), .val (.int p1), .val (.int p2), .val (.int p3), .val (.int p4), .val (.int (0 : Int32)), .val (.int (0 : Int32)), .val (.int (1 : Int32)), .val (.int (own_ix p1 (1 : Int32))), .val (.int (own_ix p2 (1 : Int32))), .val (.int (own_ix p3 (1 : Int32))), .val (.int ((p4.toUInt32 >>> ((1 : Int32) &&& 31).toUInt32).toInt32 % (3 : Int32))), .unset, .unset]) rfl ?_
      refine H.new s0_61 (k_15 hw) rfl (by decide) (by decide) (i := 0) rfl (A' := [.inl (0, [(.int (0 : Int32)), .null, .null, .null, .null])]) rfl (k' := 1) rfl (n' := 5) rfl ?_
      refine H.dup s0_64 rfl ?_
      refine H.iload s0_65 rfl ?_
      refine H.callCD s0_67 (k_25 hw) (a_1 l hw n0) (argsL := [(.int (1 : Int32))]) (rest := [(.ref (n0 + 0))]) rfl rfl rfl rfl (leb rfl) (leb rfl) (leb rfl) (leb rfl) (st' := [(.ref (n0 + 0))]) rfl (k' := 5) rfl (n' := 9) rfl ?_
      refine H.astore s0_70 rfl (ls' := #[.val (.int p0), .val (.int p1), .val (.int p2), .val (.int p3), .val (.int p4), .val (.int (0 : Int32)), .val (.int (0 : Int32)), .val (.int (1 : Int32)), .val (.int (own_ix p1 (1 : Int32))), .val (.int (own_ix p2 (1 : Int32))), .val (.int (own_ix p3 (1 : Int32))), .val (.int ((p4.toUInt32 >>> ((1 : Int32) &&& 31).toUInt32).toInt32 % (3 : Int32))), .val (.ref (n0 + 0)), .unset]) rfl ?_
      refine H.aload s0_72 rfl rfl ?_
      refine H.callVD s0_74 (k_29 hw) (a_8 l hw n0) (i := 0) rfl (argsL := []) (rest := []) rfl rfl rfl rfl (leb rfl) (leb rfl) (leb rfl) (leb rfl) (st' := []) rfl (k' := 5) rfl (n' := 9) rfl ?_
      refine H.aload s0_77 rfl rfl ?_
      refine H.iload s0_79 rfl ?_
      obtain ⟨m1, f1, g1⟩ := own_ix_r p1 (1 : Int32) 1 (by decide) (by decide) (by decide)
      obtain ⟨m2, f2, g2⟩ := own_ix_r p2 (1 : Int32) 1 (by decide) (by decide) (by decide)
      obtain ⟨m3, f3, g3⟩ := own_ix_r p3 (1 : Int32) 1 (by decide) (by decide) (by decide)
      obtain ⟨m4, f4, g4⟩ := own_fr_r p4 (3 : Int32) 3 (by decide) (by decide)
      have q0 := inv_1
      obtain ⟨q1, q2, q3⟩ := own_inv3 q0 (by decide) (by decide) f1 f2 f3 g1 g2 g3
      refine H.callVD s0_81 (k_30 hw) (m_rem l hw n0 own_f1 (1 : Int64) (1 : Int32) (own_f1.map Value.long) [(.long (1 : Int64))] (own_ix p1 (1 : Int32)) m1 f1 (own_len q0 (by omega)) (own_len4 q0 (by decide))) (i := 0) rfl (argsL := [(.int (own_ix p1 (1 : Int32)))]) (rest := []) rfl rfl rfl rfl (leb rfl) (leb rfl) (leb rfl) (leb rfl) (st' := []) rfl (k' := 5) rfl (n' := 9) rfl ?_
      refine H.aload s0_84 rfl rfl ?_
      refine H.iload s0_86 rfl ?_
      refine H.callVD s0_88 (k_30 hw) (m_rem l hw n0 (own_Lr own_f1 (own_ix p1 (1 : Int32)) m1) (own_e own_f1 (1 : Int64) (own_ix p1 (1 : Int32)) m1) (1 : Int32) (own_f1.map Value.long) [(.long (1 : Int64))] (own_ix p2 (1 : Int32)) m2 f2 (own_len q1 (by omega)) (own_len4 q1 (by decide))) (i := 0) rfl (argsL := [(.int (own_ix p2 (1 : Int32)))]) (rest := []) rfl rfl rfl rfl (leb rfl) (leb rfl) (leb rfl) (leb rfl) (st' := []) rfl (k' := 5) rfl (n' := 9) rfl ?_
      refine H.aload s0_91 rfl rfl ?_
      refine H.iload s0_93 rfl ?_
      refine H.callVD s0_95 (k_30 hw) (m_rem l hw n0 (own_L2 own_f1 (own_ix p1 (1 : Int32)) (own_ix p2 (1 : Int32)) m1 m2) (own_e2 own_f1 (1 : Int64) (own_ix p1 (1 : Int32)) (own_ix p2 (1 : Int32)) m1 m2) (1 : Int32) (own_f1.map Value.long) [(.long (1 : Int64))] (own_ix p3 (1 : Int32)) m3 f3 (own_len q2 (by omega)) (own_len4 q2 (by decide))) (i := 0) rfl (argsL := [(.int (own_ix p3 (1 : Int32)))]) (rest := []) rfl rfl rfl rfl (leb rfl) (leb rfl) (leb rfl) (leb rfl) (st' := []) rfl (k' := 5) rfl (n' := 9) rfl ?_
      refine H.aload s0_98 rfl rfl ?_
      refine H.iload s0_100 rfl ?_
      refine H.callVD s0_102 (k_31 hw) (m_nxt l hw n0 (own_L3 own_f1 (own_ix p1 (1 : Int32)) (own_ix p2 (1 : Int32)) (own_ix p3 (1 : Int32)) m1 m2 m3) (own_e3 own_f1 (1 : Int64) (own_ix p1 (1 : Int32)) (own_ix p2 (1 : Int32)) (own_ix p3 (1 : Int32)) m1 m2 m3) (1 : Int32) (own_f1.map Value.long) [(.long (1 : Int64))] ((p4.toUInt32 >>> ((1 : Int32) &&& 31).toUInt32).toInt32 % (3 : Int32)) m4 f4 (own_len4 q3 (by decide)) (own_he q3) (own_hz q3)) (i := 0) rfl (argsL := [(.int ((p4.toUInt32 >>> ((1 : Int32) &&& 31).toUInt32).toInt32 % (3 : Int32)))]) (rest := []) rfl rfl rfl rfl (leb rfl) (leb rfl) (leb rfl) (leb rfl) (st' := [(.int (own_nxt (own_L3 own_f1 (own_ix p1 (1 : Int32)) (own_ix p2 (1 : Int32)) (own_ix p3 (1 : Int32)) m1 m2 m3) (own_e3 own_f1 (1 : Int64) (own_ix p1 (1 : Int32)) (own_ix p2 (1 : Int32)) (own_ix p3 (1 : Int32)) m1 m2 m3) (1 : Int32) ((p4.toUInt32 >>> ((1 : Int32) &&& 31).toUInt32).toInt32 % (3 : Int32)) m4))]) rfl (k' := 5) rfl (n' := 9) rfl ?_
      refine H.iload s0_105 rfl ?_
      refine H.iload s0_107 rfl ?_
      refine H.iload s0_109 rfl ?_
      refine H.iload s0_111 rfl ?_
      refine H.iload s0_113 rfl ?_
      refine H.callSD s0_115 (k_32 hw) (m_ref l hw n0 _ ((p4.toUInt32 >>> ((1 : Int32) &&& 31).toUInt32).toInt32 % (3 : Int32)) (1 : Int32) (own_ix p1 (1 : Int32)) (own_ix p2 (1 : Int32)) (own_ix p3 (1 : Int32))) (argsL := [(.int ((p4.toUInt32 >>> ((1 : Int32) &&& 31).toUInt32).toInt32 % (3 : Int32))), (.int (1 : Int32)), (.int (own_ix p1 (1 : Int32))), (.int (own_ix p2 (1 : Int32))), (.int (own_ix p3 (1 : Int32)))]) (rest := [(.int (own_nxt (own_L3 own_f1 (own_ix p1 (1 : Int32)) (own_ix p2 (1 : Int32)) (own_ix p3 (1 : Int32)) m1 m2 m3) (own_e3 own_f1 (1 : Int64) (own_ix p1 (1 : Int32)) (own_ix p2 (1 : Int32)) (own_ix p3 (1 : Int32)) m1 m2 m3) (1 : Int32) ((p4.toUInt32 >>> ((1 : Int32) &&& 31).toUInt32).toInt32 % (3 : Int32)) m4))]) rfl rfl rfl rfl (leb rfl) (leb rfl) (leb rfl) (leb rfl) (st' := [(.int (own_ref ((p4.toUInt32 >>> ((1 : Int32) &&& 31).toUInt32).toInt32 % (3 : Int32)) (1 : Int32) (own_ix p1 (1 : Int32)) (own_ix p2 (1 : Int32)) (own_ix p3 (1 : Int32)))), (.int (own_nxt (own_L3 own_f1 (own_ix p1 (1 : Int32)) (own_ix p2 (1 : Int32)) (own_ix p3 (1 : Int32)) m1 m2 m3) (own_e3 own_f1 (1 : Int64) (own_ix p1 (1 : Int32)) (own_ix p2 (1 : Int32)) (own_ix p3 (1 : Int32)) m1 m2 m3) (1 : Int32) ((p4.toUInt32 >>> ((1 : Int32) &&& 31).toUInt32).toInt32 % (3 : Int32)) m4))]) rfl (k' := 5) rfl (n' := 9) rfl ?_
      refine H.icmpF s0_118 (own_main q3 rfl (by decide) (by decide) f1 f2 f3 f4 (by omega)) ?_
      refine H.iconst s0_121 (v := (1 : Int32)) (by decide) ?_
      refine H.goto s0_122 ?_
      refine H.istore s0_126 (ls' := #[.val (.int p0), .val (.int p1), .val (.int p2), .val (.int p3), .val (.int p4), .val (.int (0 : Int32)), .val (.int (0 : Int32)), .val (.int (1 : Int32)), .val (.int (own_ix p1 (1 : Int32))), .val (.int (own_ix p2 (1 : Int32))), .val (.int (own_ix p3 (1 : Int32))), .val (.int ((p4.toUInt32 >>> ((1 : Int32) &&& 31).toUInt32).toInt32 % (3 : Int32))), .val (.ref (n0 + 0)), .val (.int (1 : Int32))]) rfl ?_
      refine H.iload s0_128 rfl ?_
      refine H.ifF s0_130 (show ¬ (1 : Int32) = (0 : Int32) by decide) ?_
      refine H.aload s0_133 rfl rfl ?_
      refine H.iconst s0_135 (v := (0 : Int32)) (by decide) ?_
      refine H.callVD s0_136 (k_31 hw) (m_nxt l hw n0 (own_L3 own_f1 (own_ix p1 (1 : Int32)) (own_ix p2 (1 : Int32)) (own_ix p3 (1 : Int32)) m1 m2 m3) (own_e3 own_f1 (1 : Int64) (own_ix p1 (1 : Int32)) (own_ix p2 (1 : Int32)) (own_ix p3 (1 : Int32)) m1 m2 m3) (1 : Int32) (own_f1.map Value.long) [(.long (1 : Int64))] (0 : Int32) 0 (by decide : (0 : Int32).toInt = ((0 : Nat) : Int)) (own_len4 q3 (by decide)) (own_he q3) (own_hz q3)) (i := 0) rfl (argsL := [(.int (0 : Int32))]) (rest := []) rfl rfl rfl rfl (leb rfl) (leb rfl) (leb rfl) (leb rfl) (st' := [(.int (own_nxt (own_L3 own_f1 (own_ix p1 (1 : Int32)) (own_ix p2 (1 : Int32)) (own_ix p3 (1 : Int32)) m1 m2 m3) (own_e3 own_f1 (1 : Int64) (own_ix p1 (1 : Int32)) (own_ix p2 (1 : Int32)) (own_ix p3 (1 : Int32)) m1 m2 m3) (1 : Int32) (0 : Int32) 0))]) rfl (k' := 5) rfl (n' := 9) rfl ?_
      refine H.iconst s0_139 (v := (0 : Int32)) (by decide) ?_
      refine H.iload s0_140 rfl ?_
      refine H.iload s0_142 rfl ?_
      refine H.iload s0_144 rfl ?_
      refine H.iload s0_146 rfl ?_
      refine H.callSD s0_148 (k_32 hw) (m_ref l hw n0 _ (0 : Int32) (1 : Int32) (own_ix p1 (1 : Int32)) (own_ix p2 (1 : Int32)) (own_ix p3 (1 : Int32))) (argsL := [(.int (0 : Int32)), (.int (1 : Int32)), (.int (own_ix p1 (1 : Int32))), (.int (own_ix p2 (1 : Int32))), (.int (own_ix p3 (1 : Int32)))]) (rest := [(.int (own_nxt (own_L3 own_f1 (own_ix p1 (1 : Int32)) (own_ix p2 (1 : Int32)) (own_ix p3 (1 : Int32)) m1 m2 m3) (own_e3 own_f1 (1 : Int64) (own_ix p1 (1 : Int32)) (own_ix p2 (1 : Int32)) (own_ix p3 (1 : Int32)) m1 m2 m3) (1 : Int32) (0 : Int32) 0))]) rfl rfl rfl rfl (leb rfl) (leb rfl) (leb rfl) (leb rfl) (st' := [(.int (own_ref (0 : Int32) (1 : Int32) (own_ix p1 (1 : Int32)) (own_ix p2 (1 : Int32)) (own_ix p3 (1 : Int32)))), (.int (own_nxt (own_L3 own_f1 (own_ix p1 (1 : Int32)) (own_ix p2 (1 : Int32)) (own_ix p3 (1 : Int32)) m1 m2 m3) (own_e3 own_f1 (1 : Int64) (own_ix p1 (1 : Int32)) (own_ix p2 (1 : Int32)) (own_ix p3 (1 : Int32)) m1 m2 m3) (1 : Int32) (0 : Int32) 0))]) rfl (k' := 5) rfl (n' := 9) rfl ?_
      refine H.icmpF s0_151 (own_main q3 rfl (by decide) (by decide) f1 f2 f3 (by decide : (0 : Int32).toInt = ((0 : Nat) : Int)) (by omega)) ?_
      refine H.iconst s0_154 (v := (1 : Int32)) (by decide) ?_
      refine H.goto s0_155 ?_
      refine H.istore s0_159 (ls' := #[.val (.int p0), .val (.int p1), .val (.int p2), .val (.int p3), .val (.int p4), .val (.int (0 : Int32)), .val (.int (0 : Int32)), .val (.int (1 : Int32)), .val (.int (own_ix p1 (1 : Int32))), .val (.int (own_ix p2 (1 : Int32))), .val (.int (own_ix p3 (1 : Int32))), .val (.int ((p4.toUInt32 >>> ((1 : Int32) &&& 31).toUInt32).toInt32 % (3 : Int32))), .val (.ref (n0 + 0)), .val (.int (1 : Int32))]) rfl ?_
      refine H.iload s0_161 rfl ?_
      refine H.ifF s0_163 (show ¬ (1 : Int32) = (0 : Int32) by decide) ?_
      refine H.aload s0_166 rfl rfl ?_
      refine H.iload s0_168 rfl ?_
      refine H.callVD s0_170 (k_31 hw) (m_nxt l hw n0 (own_L3 own_f1 (own_ix p1 (1 : Int32)) (own_ix p2 (1 : Int32)) (own_ix p3 (1 : Int32)) m1 m2 m3) (own_e3 own_f1 (1 : Int64) (own_ix p1 (1 : Int32)) (own_ix p2 (1 : Int32)) (own_ix p3 (1 : Int32)) m1 m2 m3) (1 : Int32) (own_f1.map Value.long) [(.long (1 : Int64))] (own_ix p1 (1 : Int32)) m1 f1 (own_len4 q3 (by decide)) (own_he q3) (own_hz q3)) (i := 0) rfl (argsL := [(.int (own_ix p1 (1 : Int32)))]) (rest := []) rfl rfl rfl rfl (leb rfl) (leb rfl) (leb rfl) (leb rfl) (st' := [(.int (own_nxt (own_L3 own_f1 (own_ix p1 (1 : Int32)) (own_ix p2 (1 : Int32)) (own_ix p3 (1 : Int32)) m1 m2 m3) (own_e3 own_f1 (1 : Int64) (own_ix p1 (1 : Int32)) (own_ix p2 (1 : Int32)) (own_ix p3 (1 : Int32)) m1 m2 m3) (1 : Int32) (own_ix p1 (1 : Int32)) m1))]) rfl (k' := 5) rfl (n' := 9) rfl ?_
      refine H.iload s0_173 rfl ?_
      refine H.iload s0_175 rfl ?_
      refine H.iload s0_177 rfl ?_
      refine H.iload s0_179 rfl ?_
      refine H.iload s0_181 rfl ?_
      refine H.callSD s0_183 (k_32 hw) (m_ref l hw n0 _ (own_ix p1 (1 : Int32)) (1 : Int32) (own_ix p1 (1 : Int32)) (own_ix p2 (1 : Int32)) (own_ix p3 (1 : Int32))) (argsL := [(.int (own_ix p1 (1 : Int32))), (.int (1 : Int32)), (.int (own_ix p1 (1 : Int32))), (.int (own_ix p2 (1 : Int32))), (.int (own_ix p3 (1 : Int32)))]) (rest := [(.int (own_nxt (own_L3 own_f1 (own_ix p1 (1 : Int32)) (own_ix p2 (1 : Int32)) (own_ix p3 (1 : Int32)) m1 m2 m3) (own_e3 own_f1 (1 : Int64) (own_ix p1 (1 : Int32)) (own_ix p2 (1 : Int32)) (own_ix p3 (1 : Int32)) m1 m2 m3) (1 : Int32) (own_ix p1 (1 : Int32)) m1))]) rfl rfl rfl rfl (leb rfl) (leb rfl) (leb rfl) (leb rfl) (st' := [(.int (own_ref (own_ix p1 (1 : Int32)) (1 : Int32) (own_ix p1 (1 : Int32)) (own_ix p2 (1 : Int32)) (own_ix p3 (1 : Int32)))), (.int (own_nxt (own_L3 own_f1 (own_ix p1 (1 : Int32)) (own_ix p2 (1 : Int32)) (own_ix p3 (1 : Int32)) m1 m2 m3) (own_e3 own_f1 (1 : Int64) (own_ix p1 (1 : Int32)) (own_ix p2 (1 : Int32)) (own_ix p3 (1 : Int32)) m1 m2 m3) (1 : Int32) (own_ix p1 (1 : Int32)) m1))]) rfl (k' := 5) rfl (n' := 9) rfl ?_
      refine H.icmpF s0_186 (own_main q3 rfl (by decide) (by decide) f1 f2 f3 f1 (by omega)) ?_
      refine H.iconst s0_189 (v := (1 : Int32)) (by decide) ?_
      refine H.goto s0_190 ?_
      refine H.istore s0_194 (ls' := #[.val (.int p0), .val (.int p1), .val (.int p2), .val (.int p3), .val (.int p4), .val (.int (0 : Int32)), .val (.int (0 : Int32)), .val (.int (1 : Int32)), .val (.int (own_ix p1 (1 : Int32))), .val (.int (own_ix p2 (1 : Int32))), .val (.int (own_ix p3 (1 : Int32))), .val (.int ((p4.toUInt32 >>> ((1 : Int32) &&& 31).toUInt32).toInt32 % (3 : Int32))), .val (.ref (n0 + 0)), .val (.int (1 : Int32))]) rfl ?_
      refine H.iload s0_196 rfl ?_
      refine H.ifF s0_198 (show ¬ (1 : Int32) = (0 : Int32) by decide) ?_
      refine H.aload s0_201 rfl rfl ?_
      refine H.iload s0_203 rfl ?_
      refine H.callVD s0_205 (k_31 hw) (m_nxt l hw n0 (own_L3 own_f1 (own_ix p1 (1 : Int32)) (own_ix p2 (1 : Int32)) (own_ix p3 (1 : Int32)) m1 m2 m3) (own_e3 own_f1 (1 : Int64) (own_ix p1 (1 : Int32)) (own_ix p2 (1 : Int32)) (own_ix p3 (1 : Int32)) m1 m2 m3) (1 : Int32) (own_f1.map Value.long) [(.long (1 : Int64))] (own_ix p2 (1 : Int32)) m2 f2 (own_len4 q3 (by decide)) (own_he q3) (own_hz q3)) (i := 0) rfl (argsL := [(.int (own_ix p2 (1 : Int32)))]) (rest := []) rfl rfl rfl rfl (leb rfl) (leb rfl) (leb rfl) (leb rfl) (st' := [(.int (own_nxt (own_L3 own_f1 (own_ix p1 (1 : Int32)) (own_ix p2 (1 : Int32)) (own_ix p3 (1 : Int32)) m1 m2 m3) (own_e3 own_f1 (1 : Int64) (own_ix p1 (1 : Int32)) (own_ix p2 (1 : Int32)) (own_ix p3 (1 : Int32)) m1 m2 m3) (1 : Int32) (own_ix p2 (1 : Int32)) m2))]) rfl (k' := 5) rfl (n' := 9) rfl ?_
      refine H.iload s0_208 rfl ?_
      refine H.iload s0_210 rfl ?_
      refine H.iload s0_212 rfl ?_
      refine H.iload s0_214 rfl ?_
      refine H.iload s0_216 rfl ?_
      refine H.callSD s0_218 (k_32 hw) (m_ref l hw n0 _ (own_ix p2 (1 : Int32)) (1 : Int32) (own_ix p1 (1 : Int32)) (own_ix p2 (1 : Int32)) (own_ix p3 (1 : Int32))) (argsL := [(.int (own_ix p2 (1 : Int32))), (.int (1 : Int32)), (.int (own_ix p1 (1 : Int32))), (.int (own_ix p2 (1 : Int32))), (.int (own_ix p3 (1 : Int32)))]) (rest := [(.int (own_nxt (own_L3 own_f1 (own_ix p1 (1 : Int32)) (own_ix p2 (1 : Int32)) (own_ix p3 (1 : Int32)) m1 m2 m3) (own_e3 own_f1 (1 : Int64) (own_ix p1 (1 : Int32)) (own_ix p2 (1 : Int32)) (own_ix p3 (1 : Int32)) m1 m2 m3) (1 : Int32) (own_ix p2 (1 : Int32)) m2))]) rfl rfl rfl rfl (leb rfl) (leb rfl) (leb rfl) (leb rfl) (st' := [(.int (own_ref (own_ix p2 (1 : Int32)) (1 : Int32) (own_ix p1 (1 : Int32)) (own_ix p2 (1 : Int32)) (own_ix p3 (1 : Int32)))), (.int (own_nxt (own_L3 own_f1 (own_ix p1 (1 : Int32)) (own_ix p2 (1 : Int32)) (own_ix p3 (1 : Int32)) m1 m2 m3) (own_e3 own_f1 (1 : Int64) (own_ix p1 (1 : Int32)) (own_ix p2 (1 : Int32)) (own_ix p3 (1 : Int32)) m1 m2 m3) (1 : Int32) (own_ix p2 (1 : Int32)) m2))]) rfl (k' := 5) rfl (n' := 9) rfl ?_
      refine H.icmpF s0_221 (own_main q3 rfl (by decide) (by decide) f1 f2 f3 f2 (by omega)) ?_
      refine H.iconst s0_224 (v := (1 : Int32)) (by decide) ?_
      refine H.goto s0_225 ?_
      refine H.istore s0_229 (ls' := #[.val (.int p0), .val (.int p1), .val (.int p2), .val (.int p3), .val (.int p4), .val (.int (0 : Int32)), .val (.int (0 : Int32)), .val (.int (1 : Int32)), .val (.int (own_ix p1 (1 : Int32))), .val (.int (own_ix p2 (1 : Int32))), .val (.int (own_ix p3 (1 : Int32))), .val (.int ((p4.toUInt32 >>> ((1 : Int32) &&& 31).toUInt32).toInt32 % (3 : Int32))), .val (.ref (n0 + 0)), .val (.int (1 : Int32))]) rfl ?_
      refine H.iload s0_231 rfl ?_
      refine H.ifF s0_233 (show ¬ (1 : Int32) = (0 : Int32) by decide) ?_
      refine H.aload s0_236 rfl rfl ?_
      refine H.iload s0_238 rfl ?_
      refine H.callVD s0_240 (k_31 hw) (m_nxt l hw n0 (own_L3 own_f1 (own_ix p1 (1 : Int32)) (own_ix p2 (1 : Int32)) (own_ix p3 (1 : Int32)) m1 m2 m3) (own_e3 own_f1 (1 : Int64) (own_ix p1 (1 : Int32)) (own_ix p2 (1 : Int32)) (own_ix p3 (1 : Int32)) m1 m2 m3) (1 : Int32) (own_f1.map Value.long) [(.long (1 : Int64))] (own_ix p3 (1 : Int32)) m3 f3 (own_len4 q3 (by decide)) (own_he q3) (own_hz q3)) (i := 0) rfl (argsL := [(.int (own_ix p3 (1 : Int32)))]) (rest := []) rfl rfl rfl rfl (leb rfl) (leb rfl) (leb rfl) (leb rfl) (st' := [(.int (own_nxt (own_L3 own_f1 (own_ix p1 (1 : Int32)) (own_ix p2 (1 : Int32)) (own_ix p3 (1 : Int32)) m1 m2 m3) (own_e3 own_f1 (1 : Int64) (own_ix p1 (1 : Int32)) (own_ix p2 (1 : Int32)) (own_ix p3 (1 : Int32)) m1 m2 m3) (1 : Int32) (own_ix p3 (1 : Int32)) m3))]) rfl (k' := 5) rfl (n' := 9) rfl ?_
      refine H.iload s0_243 rfl ?_
      refine H.iload s0_245 rfl ?_
      refine H.iload s0_247 rfl ?_
      refine H.iload s0_249 rfl ?_
      refine H.iload s0_251 rfl ?_
      refine H.callSD s0_253 (k_32 hw) (m_ref l hw n0 _ (own_ix p3 (1 : Int32)) (1 : Int32) (own_ix p1 (1 : Int32)) (own_ix p2 (1 : Int32)) (own_ix p3 (1 : Int32))) (argsL := [(.int (own_ix p3 (1 : Int32))), (.int (1 : Int32)), (.int (own_ix p1 (1 : Int32))), (.int (own_ix p2 (1 : Int32))), (.int (own_ix p3 (1 : Int32)))]) (rest := [(.int (own_nxt (own_L3 own_f1 (own_ix p1 (1 : Int32)) (own_ix p2 (1 : Int32)) (own_ix p3 (1 : Int32)) m1 m2 m3) (own_e3 own_f1 (1 : Int64) (own_ix p1 (1 : Int32)) (own_ix p2 (1 : Int32)) (own_ix p3 (1 : Int32)) m1 m2 m3) (1 : Int32) (own_ix p3 (1 : Int32)) m3))]) rfl rfl rfl rfl (leb rfl) (leb rfl) (leb rfl) (leb rfl) (st' := [(.int (own_ref (own_ix p3 (1 : Int32)) (1 : Int32) (own_ix p1 (1 : Int32)) (own_ix p2 (1 : Int32)) (own_ix p3 (1 : Int32)))), (.int (own_nxt (own_L3 own_f1 (own_ix p1 (1 : Int32)) (own_ix p2 (1 : Int32)) (own_ix p3 (1 : Int32)) m1 m2 m3) (own_e3 own_f1 (1 : Int64) (own_ix p1 (1 : Int32)) (own_ix p2 (1 : Int32)) (own_ix p3 (1 : Int32)) m1 m2 m3) (1 : Int32) (own_ix p3 (1 : Int32)) m3))]) rfl (k' := 5) rfl (n' := 9) rfl ?_
      refine H.icmpF s0_256 (own_main q3 rfl (by decide) (by decide) f1 f2 f3 f3 (by omega)) ?_
      refine H.iconst s0_259 (v := (1 : Int32)) (by decide) ?_
      refine H.goto s0_260 ?_
      refine H.istore s0_264 (ls' := #[.val (.int p0), .val (.int p1), .val (.int p2), .val (.int p3), .val (.int p4), .val (.int (0 : Int32)), .val (.int (0 : Int32)), .val (.int (1 : Int32)), .val (.int (own_ix p1 (1 : Int32))), .val (.int (own_ix p2 (1 : Int32))), .val (.int (own_ix p3 (1 : Int32))), .val (.int ((p4.toUInt32 >>> ((1 : Int32) &&& 31).toUInt32).toInt32 % (3 : Int32))), .val (.ref (n0 + 0)), .val (.int (1 : Int32))]) rfl ?_
      refine H.iload s0_266 rfl ?_
      exact H.ireturn s0_268 rfl (by simp) rfl rfl (by decide) (by decide)
    · refine H.iand s0_9 (w := (1 : Int32)) hz9 ?_
      refine H.istore s0_10 (ls' := #[.val (.int p0), .val (.int p1), .val (.int p2), .val (.int p3), .val (.int p4), .val (.int (0 : Int32)), .val (.int (1 : Int32)), .unset, .unset, .unset, .unset, .unset, .unset, .unset]) rfl ?_
      refine H.iconst s0_12 (v := (1 : Int32)) (by decide) ?_
      refine H.iload s0_13 rfl ?_
      refine H.bipush s0_15 (v := (6 : Int32)) (by decide) ?_
      refine H.ishl s0_17 (w := (0 : Int32)) (by decide) ?_
      refine H.iload s0_18 rfl ?_
      refine H.iadd s0_20 (w := (1 : Int32)) (by decide) ?_
      refine H.callSD s0_21 (k_13 hw) (a_9 l hw n0) (argsL := [(.int (1 : Int32)), (.int (1 : Int32))]) (rest := []) rfl rfl rfl rfl (leb rfl) (leb rfl) (leb rfl) (leb rfl) (st' := [(.int (1 : Int32))]) rfl (k' := 0) rfl (n' := 0) rfl ?_
      refine H.istore s0_24 (ls' := #[.val (.int p0), .val (.int p1), .val (.int p2), .val (.int p3), .val (.int p4), .val (.int (0 : Int32)), .val (.int (1 : Int32)), .val (.int (1 : Int32)), .unset, .unset, .unset, .unset, .unset, .unset]) rfl ?_
      refine H.iloadN s0_26 rfl ?_
      refine H.iload s0_27 rfl ?_
      refine H.callSD s0_29 (k_14 hw) (m_ix l hw n0 _ p1 (1 : Int32) (by decide)) (argsL := [(.int p1), (.int (1 : Int32))]) (rest := []) rfl rfl rfl rfl (leb rfl) (leb rfl) (leb rfl) (leb rfl) (st' := [(.int (own_ix p1 (1 : Int32)))]) rfl (k' := 0) rfl (n' := 0) rfl ?_
      refine H.istore s0_32 (ls' := #[.val (.int p0), .val (.int p1), .val (.int p2), .val (.int p3), .val (.int p4), .val (.int (0 : Int32)), .val (.int (1 : Int32)), .val (.int (1 : Int32)), .val (.int (own_ix p1 (1 : Int32))), .unset, .unset, .unset, .unset, .unset]) rfl ?_
      refine H.iloadN s0_34 rfl ?_
      refine H.iload s0_35 rfl ?_
      refine H.callSD s0_37 (k_14 hw) (m_ix l hw n0 _ p2 (1 : Int32) (by decide)) (argsL := [(.int p2), (.int (1 : Int32))]) (rest := []) rfl rfl rfl rfl (leb rfl) (leb rfl) (leb rfl) (leb rfl) (st' := [(.int (own_ix p2 (1 : Int32)))]) rfl (k' := 0) rfl (n' := 0) rfl ?_
      refine H.istore s0_40 (ls' := #[.val (.int p0), .val (.int p1), .val (.int p2), .val (.int p3), .val (.int p4), .val (.int (0 : Int32)), .val (.int (1 : Int32)), .val (.int (1 : Int32)), .val (.int (own_ix p1 (1 : Int32))), .val (.int (own_ix p2 (1 : Int32))), .unset, .unset, .unset, .unset]) rfl ?_
      refine H.iloadN s0_42 rfl ?_
      refine H.iload s0_43 rfl ?_
      refine H.callSD s0_45 (k_14 hw) (m_ix l hw n0 _ p3 (1 : Int32) (by decide)) (argsL := [(.int p3), (.int (1 : Int32))]) (rest := []) rfl rfl rfl rfl (leb rfl) (leb rfl) (leb rfl) (leb rfl) (st' := [(.int (own_ix p3 (1 : Int32)))]) rfl (k' := 0) rfl (n' := 0) rfl ?_
      refine H.istore s0_48 (ls' := #[.val (.int p0), .val (.int p1), .val (.int p2), .val (.int p3), .val (.int p4), .val (.int (0 : Int32)), .val (.int (1 : Int32)), .val (.int (1 : Int32)), .val (.int (own_ix p1 (1 : Int32))), .val (.int (own_ix p2 (1 : Int32))), .val (.int (own_ix p3 (1 : Int32))), .unset, .unset, .unset]) rfl ?_
      refine H.iload s0_50 rfl ?_
      refine H.iconst s0_52 (v := (1 : Int32)) (by decide) ?_
      refine H.iushr s0_53 rfl ?_
      refine H.iload s0_54 rfl ?_
      refine H.iconst s0_56 (v := (2 : Int32)) (by decide) ?_
      refine H.iadd s0_57 (w := (3 : Int32)) (by decide) ?_
      refine H.irem s0_58 (by decide) (w := ((p4.toUInt32 >>> ((1 : Int32) &&& 31).toUInt32).toInt32 % (3 : Int32))) rfl ?_
      refine H.istore s0_59 (ls' := #[.val (.int p0), .val (.int p1), .val (.int p2), .val (.int p3), .val (.int p4), .val (.int (0 : Int32)), .val (.int (1 : Int32)), .val (.int (1 : Int32)), .val (.int (own_ix p1 (1 : Int32))), .val (.int (own_ix p2 (1 : Int32))), .val (.int (own_ix p3 (1 : Int32))), .val (.int ((p4.toUInt32 >>> ((1 : Int32) &&& 31).toUInt32).toInt32 % (3 : Int32))), .unset, .unset]) rfl ?_
      refine H.new s0_61 (k_15 hw) rfl (by decide) (by decide) (i := 0) rfl (A' := [.inl (0, [(.int (0 : Int32)), .null, .null, .null, .null])]) rfl (k' := 1) rfl (n' := 5) rfl ?_
      refine H.dup s0_64 rfl ?_
      refine H.iload s0_65 rfl ?_
      refine H.callCD s0_67 (k_25 hw) (a_1 l hw n0) (argsL := [(.int (1 : Int32))]) (rest := [(.ref (n0 + 0))]) rfl rfl rfl rfl (leb rfl) (leb rfl) (leb rfl) (leb rfl) (st' := [(.ref (n0 + 0))]) rfl (k' := 5) rfl (n' := 9) rfl ?_
      refine H.astore s0_70 rfl (ls' := #[.val (.int p0), .val (.int p1), .val (.int p2), .val (.int p3), .val (.int p4), .val (.int (0 : Int32)), .val (.int (1 : Int32)), .val (.int (1 : Int32)), .val (.int (own_ix p1 (1 : Int32))), .val (.int (own_ix p2 (1 : Int32))), .val (.int (own_ix p3 (1 : Int32))), .val (.int ((p4.toUInt32 >>> ((1 : Int32) &&& 31).toUInt32).toInt32 % (3 : Int32))), .val (.ref (n0 + 0)), .unset]) rfl ?_
      refine H.aload s0_72 rfl rfl ?_
      refine H.callVD s0_74 (k_29 hw) (a_8 l hw n0) (i := 0) rfl (argsL := []) (rest := []) rfl rfl rfl rfl (leb rfl) (leb rfl) (leb rfl) (leb rfl) (st' := []) rfl (k' := 5) rfl (n' := 9) rfl ?_
      refine H.aload s0_77 rfl rfl ?_
      refine H.iload s0_79 rfl ?_
      obtain ⟨m1, f1, g1⟩ := own_ix_r p1 (1 : Int32) 1 (by decide) (by decide) (by decide)
      obtain ⟨m2, f2, g2⟩ := own_ix_r p2 (1 : Int32) 1 (by decide) (by decide) (by decide)
      obtain ⟨m3, f3, g3⟩ := own_ix_r p3 (1 : Int32) 1 (by decide) (by decide) (by decide)
      obtain ⟨m4, f4, g4⟩ := own_fr_r p4 (3 : Int32) 3 (by decide) (by decide)
      have q0 := inv_1
      obtain ⟨q1, q2, q3⟩ := own_inv3 q0 (by decide) (by decide) f1 f2 f3 g1 g2 g3
      refine H.callVD s0_81 (k_30 hw) (m_rem l hw n0 own_f1 (1 : Int64) (1 : Int32) (own_f1.map Value.long) [(.long (1 : Int64))] (own_ix p1 (1 : Int32)) m1 f1 (own_len q0 (by omega)) (own_len4 q0 (by decide))) (i := 0) rfl (argsL := [(.int (own_ix p1 (1 : Int32)))]) (rest := []) rfl rfl rfl rfl (leb rfl) (leb rfl) (leb rfl) (leb rfl) (st' := []) rfl (k' := 5) rfl (n' := 9) rfl ?_
      refine H.aload s0_84 rfl rfl ?_
      refine H.iload s0_86 rfl ?_
      refine H.callVD s0_88 (k_30 hw) (m_rem l hw n0 (own_Lr own_f1 (own_ix p1 (1 : Int32)) m1) (own_e own_f1 (1 : Int64) (own_ix p1 (1 : Int32)) m1) (1 : Int32) (own_f1.map Value.long) [(.long (1 : Int64))] (own_ix p2 (1 : Int32)) m2 f2 (own_len q1 (by omega)) (own_len4 q1 (by decide))) (i := 0) rfl (argsL := [(.int (own_ix p2 (1 : Int32)))]) (rest := []) rfl rfl rfl rfl (leb rfl) (leb rfl) (leb rfl) (leb rfl) (st' := []) rfl (k' := 5) rfl (n' := 9) rfl ?_
      refine H.aload s0_91 rfl rfl ?_
      refine H.iload s0_93 rfl ?_
      refine H.callVD s0_95 (k_30 hw) (m_rem l hw n0 (own_L2 own_f1 (own_ix p1 (1 : Int32)) (own_ix p2 (1 : Int32)) m1 m2) (own_e2 own_f1 (1 : Int64) (own_ix p1 (1 : Int32)) (own_ix p2 (1 : Int32)) m1 m2) (1 : Int32) (own_f1.map Value.long) [(.long (1 : Int64))] (own_ix p3 (1 : Int32)) m3 f3 (own_len q2 (by omega)) (own_len4 q2 (by decide))) (i := 0) rfl (argsL := [(.int (own_ix p3 (1 : Int32)))]) (rest := []) rfl rfl rfl rfl (leb rfl) (leb rfl) (leb rfl) (leb rfl) (st' := []) rfl (k' := 5) rfl (n' := 9) rfl ?_
      refine H.aload s0_98 rfl rfl ?_
      refine H.iload s0_100 rfl ?_
      refine H.callVD s0_102 (k_31 hw) (m_nxt l hw n0 (own_L3 own_f1 (own_ix p1 (1 : Int32)) (own_ix p2 (1 : Int32)) (own_ix p3 (1 : Int32)) m1 m2 m3) (own_e3 own_f1 (1 : Int64) (own_ix p1 (1 : Int32)) (own_ix p2 (1 : Int32)) (own_ix p3 (1 : Int32)) m1 m2 m3) (1 : Int32) (own_f1.map Value.long) [(.long (1 : Int64))] ((p4.toUInt32 >>> ((1 : Int32) &&& 31).toUInt32).toInt32 % (3 : Int32)) m4 f4 (own_len4 q3 (by decide)) (own_he q3) (own_hz q3)) (i := 0) rfl (argsL := [(.int ((p4.toUInt32 >>> ((1 : Int32) &&& 31).toUInt32).toInt32 % (3 : Int32)))]) (rest := []) rfl rfl rfl rfl (leb rfl) (leb rfl) (leb rfl) (leb rfl) (st' := [(.int (own_nxt (own_L3 own_f1 (own_ix p1 (1 : Int32)) (own_ix p2 (1 : Int32)) (own_ix p3 (1 : Int32)) m1 m2 m3) (own_e3 own_f1 (1 : Int64) (own_ix p1 (1 : Int32)) (own_ix p2 (1 : Int32)) (own_ix p3 (1 : Int32)) m1 m2 m3) (1 : Int32) ((p4.toUInt32 >>> ((1 : Int32) &&& 31).toUInt32).toInt32 % (3 : Int32)) m4))]) rfl (k' := 5) rfl (n' := 9) rfl ?_
      refine H.iload s0_105 rfl ?_
      refine H.iload s0_107 rfl ?_
      refine H.iload s0_109 rfl ?_
      refine H.iload s0_111 rfl ?_
      refine H.iload s0_113 rfl ?_
      refine H.callSD s0_115 (k_32 hw) (m_ref l hw n0 _ ((p4.toUInt32 >>> ((1 : Int32) &&& 31).toUInt32).toInt32 % (3 : Int32)) (1 : Int32) (own_ix p1 (1 : Int32)) (own_ix p2 (1 : Int32)) (own_ix p3 (1 : Int32))) (argsL := [(.int ((p4.toUInt32 >>> ((1 : Int32) &&& 31).toUInt32).toInt32 % (3 : Int32))), (.int (1 : Int32)), (.int (own_ix p1 (1 : Int32))), (.int (own_ix p2 (1 : Int32))), (.int (own_ix p3 (1 : Int32)))]) (rest := [(.int (own_nxt (own_L3 own_f1 (own_ix p1 (1 : Int32)) (own_ix p2 (1 : Int32)) (own_ix p3 (1 : Int32)) m1 m2 m3) (own_e3 own_f1 (1 : Int64) (own_ix p1 (1 : Int32)) (own_ix p2 (1 : Int32)) (own_ix p3 (1 : Int32)) m1 m2 m3) (1 : Int32) ((p4.toUInt32 >>> ((1 : Int32) &&& 31).toUInt32).toInt32 % (3 : Int32)) m4))]) rfl rfl rfl rfl (leb rfl) (leb rfl) (leb rfl) (leb rfl) (st' := [(.int (own_ref ((p4.toUInt32 >>> ((1 : Int32) &&& 31).toUInt32).toInt32 % (3 : Int32)) (1 : Int32) (own_ix p1 (1 : Int32)) (own_ix p2 (1 : Int32)) (own_ix p3 (1 : Int32)))), (.int (own_nxt (own_L3 own_f1 (own_ix p1 (1 : Int32)) (own_ix p2 (1 : Int32)) (own_ix p3 (1 : Int32)) m1 m2 m3) (own_e3 own_f1 (1 : Int64) (own_ix p1 (1 : Int32)) (own_ix p2 (1 : Int32)) (own_ix p3 (1 : Int32)) m1 m2 m3) (1 : Int32) ((p4.toUInt32 >>> ((1 : Int32) &&& 31).toUInt32).toInt32 % (3 : Int32)) m4))]) rfl (k' := 5) rfl (n' := 9) rfl ?_
      refine H.icmpF s0_118 (own_main q3 rfl (by decide) (by decide) f1 f2 f3 f4 (by omega)) ?_
      refine H.iconst s0_121 (v := (1 : Int32)) (by decide) ?_
      refine H.goto s0_122 ?_
      refine H.istore s0_126 (ls' := #[.val (.int p0), .val (.int p1), .val (.int p2), .val (.int p3), .val (.int p4), .val (.int (0 : Int32)), .val (.int (1 : Int32)), .val (.int (1 : Int32)), .val (.int (own_ix p1 (1 : Int32))), .val (.int (own_ix p2 (1 : Int32))), .val (.int (own_ix p3 (1 : Int32))), .val (.int ((p4.toUInt32 >>> ((1 : Int32) &&& 31).toUInt32).toInt32 % (3 : Int32))), .val (.ref (n0 + 0)), .val (.int (1 : Int32))]) rfl ?_
      refine H.iload s0_128 rfl ?_
      refine H.ifF s0_130 (show ¬ (1 : Int32) = (0 : Int32) by decide) ?_
      refine H.aload s0_133 rfl rfl ?_
      refine H.iconst s0_135 (v := (0 : Int32)) (by decide) ?_
      refine H.callVD s0_136 (k_31 hw) (m_nxt l hw n0 (own_L3 own_f1 (own_ix p1 (1 : Int32)) (own_ix p2 (1 : Int32)) (own_ix p3 (1 : Int32)) m1 m2 m3) (own_e3 own_f1 (1 : Int64) (own_ix p1 (1 : Int32)) (own_ix p2 (1 : Int32)) (own_ix p3 (1 : Int32)) m1 m2 m3) (1 : Int32) (own_f1.map Value.long) [(.long (1 : Int64))] (0 : Int32) 0 (by decide : (0 : Int32).toInt = ((0 : Nat) : Int)) (own_len4 q3 (by decide)) (own_he q3) (own_hz q3)) (i := 0) rfl (argsL := [(.int (0 : Int32))]) (rest := []) rfl rfl rfl rfl (leb rfl) (leb rfl) (leb rfl) (leb rfl) (st' := [(.int (own_nxt (own_L3 own_f1 (own_ix p1 (1 : Int32)) (own_ix p2 (1 : Int32)) (own_ix p3 (1 : Int32)) m1 m2 m3) (own_e3 own_f1 (1 : Int64) (own_ix p1 (1 : Int32)) (own_ix p2 (1 : Int32)) (own_ix p3 (1 : Int32)) m1 m2 m3) (1 : Int32) (0 : Int32) 0))]) rfl (k' := 5) rfl (n' := 9) rfl ?_
      refine H.iconst s0_139 (v := (0 : Int32)) (by decide) ?_
      refine H.iload s0_140 rfl ?_
      refine H.iload s0_142 rfl ?_
      refine H.iload s0_144 rfl ?_
      refine H.iload s0_146 rfl ?_
      refine H.callSD s0_148 (k_32 hw) (m_ref l hw n0 _ (0 : Int32) (1 : Int32) (own_ix p1 (1 : Int32)) (own_ix p2 (1 : Int32)) (own_ix p3 (1 : Int32))) (argsL := [(.int (0 : Int32)), (.int (1 : Int32)), (.int (own_ix p1 (1 : Int32))), (.int (own_ix p2 (1 : Int32))), (.int (own_ix p3 (1 : Int32)))]) (rest := [(.int (own_nxt (own_L3 own_f1 (own_ix p1 (1 : Int32)) (own_ix p2 (1 : Int32)) (own_ix p3 (1 : Int32)) m1 m2 m3) (own_e3 own_f1 (1 : Int64) (own_ix p1 (1 : Int32)) (own_ix p2 (1 : Int32)) (own_ix p3 (1 : Int32)) m1 m2 m3) (1 : Int32) (0 : Int32) 0))]) rfl rfl rfl rfl (leb rfl) (leb rfl) (leb rfl) (leb rfl) (st' := [(.int (own_ref (0 : Int32) (1 : Int32) (own_ix p1 (1 : Int32)) (own_ix p2 (1 : Int32)) (own_ix p3 (1 : Int32)))), (.int (own_nxt (own_L3 own_f1 (own_ix p1 (1 : Int32)) (own_ix p2 (1 : Int32)) (own_ix p3 (1 : Int32)) m1 m2 m3) (own_e3 own_f1 (1 : Int64) (own_ix p1 (1 : Int32)) (own_ix p2 (1 : Int32)) (own_ix p3 (1 : Int32)) m1 m2 m3) (1 : Int32) (0 : Int32) 0))]) rfl (k' := 5) rfl (n' := 9) rfl ?_
      refine H.icmpF s0_151 (own_main q3 rfl (by decide) (by decide) f1 f2 f3 (by decide : (0 : Int32).toInt = ((0 : Nat) : Int)) (by omega)) ?_
      refine H.iconst s0_154 (v := (1 : Int32)) (by decide) ?_
      refine H.goto s0_155 ?_
      refine H.istore s0_159 (ls' := #[.val (.int p0), .val (.int p1), .val (.int p2), .val (.int p3), .val (.int p4), .val (.int (0 : Int32)), .val (.int (1 : Int32)), .val (.int (1 : Int32)), .val (.int (own_ix p1 (1 : Int32))), .val (.int (own_ix p2 (1 : Int32))), .val (.int (own_ix p3 (1 : Int32))), .val (.int ((p4.toUInt32 >>> ((1 : Int32) &&& 31).toUInt32).toInt32 % (3 : Int32))), .val (.ref (n0 + 0)), .val (.int (1 : Int32))]) rfl ?_
      refine H.iload s0_161 rfl ?_
      refine H.ifF s0_163 (show ¬ (1 : Int32) = (0 : Int32) by decide) ?_
      refine H.aload s0_166 rfl rfl ?_
      refine H.iload s0_168 rfl ?_
      refine H.callVD s0_170 (k_31 hw) (m_nxt l hw n0 (own_L3 own_f1 (own_ix p1 (1 : Int32)) (own_ix p2 (1 : Int32)) (own_ix p3 (1 : Int32)) m1 m2 m3) (own_e3 own_f1 (1 : Int64) (own_ix p1 (1 : Int32)) (own_ix p2 (1 : Int32)) (own_ix p3 (1 : Int32)) m1 m2 m3) (1 : Int32) (own_f1.map Value.long) [(.long (1 : Int64))] (own_ix p1 (1 : Int32)) m1 f1 (own_len4 q3 (by decide)) (own_he q3) (own_hz q3)) (i := 0) rfl (argsL := [(.int (own_ix p1 (1 : Int32)))]) (rest := []) rfl rfl rfl rfl (leb rfl) (leb rfl) (leb rfl) (leb rfl) (st' := [(.int (own_nxt (own_L3 own_f1 (own_ix p1 (1 : Int32)) (own_ix p2 (1 : Int32)) (own_ix p3 (1 : Int32)) m1 m2 m3) (own_e3 own_f1 (1 : Int64) (own_ix p1 (1 : Int32)) (own_ix p2 (1 : Int32)) (own_ix p3 (1 : Int32)) m1 m2 m3) (1 : Int32) (own_ix p1 (1 : Int32)) m1))]) rfl (k' := 5) rfl (n' := 9) rfl ?_
      refine H.iload s0_173 rfl ?_
      refine H.iload s0_175 rfl ?_
      refine H.iload s0_177 rfl ?_
      refine H.iload s0_179 rfl ?_
      refine H.iload s0_181 rfl ?_
      refine H.callSD s0_183 (k_32 hw) (m_ref l hw n0 _ (own_ix p1 (1 : Int32)) (1 : Int32) (own_ix p1 (1 : Int32)) (own_ix p2 (1 : Int32)) (own_ix p3 (1 : Int32))) (argsL := [(.int (own_ix p1 (1 : Int32))), (.int (1 : Int32)), (.int (own_ix p1 (1 : Int32))), (.int (own_ix p2 (1 : Int32))), (.int (own_ix p3 (1 : Int32)))]) (rest := [(.int (own_nxt (own_L3 own_f1 (own_ix p1 (1 : Int32)) (own_ix p2 (1 : Int32)) (own_ix p3 (1 : Int32)) m1 m2 m3) (own_e3 own_f1 (1 : Int64) (own_ix p1 (1 : Int32)) (own_ix p2 (1 : Int32)) (own_ix p3 (1 : Int32)) m1 m2 m3) (1 : Int32) (own_ix p1 (1 : Int32)) m1))]) rfl rfl rfl rfl (leb rfl) (leb rfl) (leb rfl) (leb rfl) (st' := [(.int (own_ref (own_ix p1 (1 : Int32)) (1 : Int32) (own_ix p1 (1 : Int32)) (own_ix p2 (1 : Int32)) (own_ix p3 (1 : Int32)))), (.int (own_nxt (own_L3 own_f1 (own_ix p1 (1 : Int32)) (own_ix p2 (1 : Int32)) (own_ix p3 (1 : Int32)) m1 m2 m3) (own_e3 own_f1 (1 : Int64) (own_ix p1 (1 : Int32)) (own_ix p2 (1 : Int32)) (own_ix p3 (1 : Int32)) m1 m2 m3) (1 : Int32) (own_ix p1 (1 : Int32)) m1))]) rfl (k' := 5) rfl (n' := 9) rfl ?_
      refine H.icmpF s0_186 (own_main q3 rfl (by decide) (by decide) f1 f2 f3 f1 (by omega)) ?_
      refine H.iconst s0_189 (v := (1 : Int32)) (by decide) ?_
      refine H.goto s0_190 ?_
      refine H.istore s0_194 (ls' := #[.val (.int p0), .val (.int p1), .val (.int p2), .val (.int p3), .val (.int p4), .val (.int (0 : Int32)), .val (.int (1 : Int32)), .val (.int (1 : Int32)), .val (.int (own_ix p1 (1 : Int32))), .val (.int (own_ix p2 (1 : Int32))), .val (.int (own_ix p3 (1 : Int32))), .val (.int ((p4.toUInt32 >>> ((1 : Int32) &&& 31).toUInt32).toInt32 % (3 : Int32))), .val (.ref (n0 + 0)), .val (.int (1 : Int32))]) rfl ?_
      refine H.iload s0_196 rfl ?_
      refine H.ifF s0_198 (show ¬ (1 : Int32) = (0 : Int32) by decide) ?_
      refine H.aload s0_201 rfl rfl ?_
      refine H.iload s0_203 rfl ?_
      refine H.callVD s0_205 (k_31 hw) (m_nxt l hw n0 (own_L3 own_f1 (own_ix p1 (1 : Int32)) (own_ix p2 (1 : Int32)) (own_ix p3 (1 : Int32)) m1 m2 m3) (own_e3 own_f1 (1 : Int64) (own_ix p1 (1 : Int32)) (own_ix p2 (1 : Int32)) (own_ix p3 (1 : Int32)) m1 m2 m3) (1 : Int32) (own_f1.map Value.long) [(.long (1 : Int64))] (own_ix p2 (1 : Int32)) m2 f2 (own_len4 q3 (by decide)) (own_he q3) (own_hz q3)) (i := 0) rfl (argsL := [(.int (own_ix p2 (1 : Int32)))]) (rest := []) rfl rfl rfl rfl (leb rfl) (leb rfl) (leb rfl) (leb rfl) (st' := [(.int (own_nxt (own_L3 own_f1 (own_ix p1 (1 : Int32)) (own_ix p2 (1 : Int32)) (own_ix p3 (1 : Int32)) m1 m2 m3) (own_e3 own_f1 (1 : Int64) (own_ix p1 (1 : Int32)) (own_ix p2 (1 : Int32)) (own_ix p3 (1 : Int32)) m1 m2 m3) (1 : Int32) (own_ix p2 (1 : Int32)) m2))]) rfl (k' := 5) rfl (n' := 9) rfl ?_
      refine H.iload s0_208 rfl ?_
      refine H.iload s0_210 rfl ?_
      refine H.iload s0_212 rfl ?_
      refine H.iload s0_214 rfl ?_
      refine H.iload s0_216 rfl ?_
      refine H.callSD s0_218 (k_32 hw) (m_ref l hw n0 _ (own_ix p2 (1 : Int32)) (1 : Int32) (own_ix p1 (1 : Int32)) (own_ix p2 (1 : Int32)) (own_ix p3 (1 : Int32))) (argsL := [(.int (own_ix p2 (1 : Int32))), (.int (1 : Int32)), (.int (own_ix p1 (1 : Int32))), (.int (own_ix p2 (1 : Int32))), (.int (own_ix p3 (1 : Int32)))]) (rest := [(.int (own_nxt (own_L3 own_f1 (own_ix p1 (1 : Int32)) (own_ix p2 (1 : Int32)) (own_ix p3 (1 : Int32)) m1 m2 m3) (own_e3 own_f1 (1 : Int64) (own_ix p1 (1 : Int32)) (own_ix p2 (1 : Int32)) (own_ix p3 (1 : Int32)) m1 m2 m3) (1 : Int32) (own_ix p2 (1 : Int32)) m2))]) rfl rfl rfl rfl (leb rfl) (leb rfl) (leb rfl) (leb rfl) (st' := [(.int (own_ref (own_ix p2 (1 : Int32)) (1 : Int32) (own_ix p1 (1 : Int32)) (own_ix p2 (1 : Int32)) (own_ix p3 (1 : Int32)))), (.int (own_nxt (own_L3 own_f1 (own_ix p1 (1 : Int32)) (own_ix p2 (1 : Int32)) (own_ix p3 (1 : Int32)) m1 m2 m3) (own_e3 own_f1 (1 : Int64) (own_ix p1 (1 : Int32)) (own_ix p2 (1 : Int32)) (own_ix p3 (1 : Int32)) m1 m2 m3) (1 : Int32) (own_ix p2 (1 : Int32)) m2))]) rfl (k' := 5) rfl (n' := 9) rfl ?_
      refine H.icmpF s0_221 (own_main q3 rfl (by decide) (by decide) f1 f2 f3 f2 (by omega)) ?_
      refine H.iconst s0_224 (v := (1 : Int32)) (by decide) ?_
      refine H.goto s0_225 ?_
      refine H.istore s0_229 (ls' := #[.val (.int p0), .val (.int p1), .val (.int p2), .val (.int p3), .val (.int p4), .val (.int (0 : Int32)), .val (.int (1 : Int32)), .val (.int (1 : Int32)), .val (.int (own_ix p1 (1 : Int32))), .val (.int (own_ix p2 (1 : Int32))), .val (.int (own_ix p3 (1 : Int32))), .val (.int ((p4.toUInt32 >>> ((1 : Int32) &&& 31).toUInt32).toInt32 % (3 : Int32))), .val (.ref (n0 + 0)), .val (.int (1 : Int32))]) rfl ?_
      refine H.iload s0_231 rfl ?_
      refine H.ifF s0_233 (show ¬ (1 : Int32) = (0 : Int32) by decide) ?_
      refine H.aload s0_236 rfl rfl ?_
      refine H.iload s0_238 rfl ?_
      refine H.callVD s0_240 (k_31 hw) (m_nxt l hw n0 (own_L3 own_f1 (own_ix p1 (1 : Int32)) (own_ix p2 (1 : Int32)) (own_ix p3 (1 : Int32)) m1 m2 m3) (own_e3 own_f1 (1 : Int64) (own_ix p1 (1 : Int32)) (own_ix p2 (1 : Int32)) (own_ix p3 (1 : Int32)) m1 m2 m3) (1 : Int32) (own_f1.map Value.long) [(.long (1 : Int64))] (own_ix p3 (1 : Int32)) m3 f3 (own_len4 q3 (by decide)) (own_he q3) (own_hz q3)) (i := 0) rfl (argsL := [(.int (own_ix p3 (1 : Int32)))]) (rest := []) rfl rfl rfl rfl (leb rfl) (leb rfl) (leb rfl) (leb rfl) (st' := [(.int (own_nxt (own_L3 own_f1 (own_ix p1 (1 : Int32)) (own_ix p2 (1 : Int32)) (own_ix p3 (1 : Int32)) m1 m2 m3) (own_e3 own_f1 (1 : Int64) (own_ix p1 (1 : Int32)) (own_ix p2 (1 : Int32)) (own_ix p3 (1 : Int32)) m1 m2 m3) (1 : Int32) (own_ix p3 (1 : Int32)) m3))]) rfl (k' := 5) rfl (n' := 9) rfl ?_
      refine H.iload s0_243 rfl ?_
      refine H.iload s0_245 rfl ?_
      refine H.iload s0_247 rfl ?_
      refine H.iload s0_249 rfl ?_
      refine H.iload s0_251 rfl ?_
      refine H.callSD s0_253 (k_32 hw) (m_ref l hw n0 _ (own_ix p3 (1 : Int32)) (1 : Int32) (own_ix p1 (1 : Int32)) (own_ix p2 (1 : Int32)) (own_ix p3 (1 : Int32))) (argsL := [(.int (own_ix p3 (1 : Int32))), (.int (1 : Int32)), (.int (own_ix p1 (1 : Int32))), (.int (own_ix p2 (1 : Int32))), (.int (own_ix p3 (1 : Int32)))]) (rest := [(.int (own_nxt (own_L3 own_f1 (own_ix p1 (1 : Int32)) (own_ix p2 (1 : Int32)) (own_ix p3 (1 : Int32)) m1 m2 m3) (own_e3 own_f1 (1 : Int64) (own_ix p1 (1 : Int32)) (own_ix p2 (1 : Int32)) (own_ix p3 (1 : Int32)) m1 m2 m3) (1 : Int32) (own_ix p3 (1 : Int32)) m3))]) rfl rfl rfl rfl (leb rfl) (leb rfl) (leb rfl) (leb rfl) (st' := [(.int (own_ref (own_ix p3 (1 : Int32)) (1 : Int32) (own_ix p1 (1 : Int32)) (own_ix p2 (1 : Int32)) (own_ix p3 (1 : Int32)))), (.int (own_nxt (own_L3 own_f1 (own_ix p1 (1 : Int32)) (own_ix p2 (1 : Int32)) (own_ix p3 (1 : Int32)) m1 m2 m3) (own_e3 own_f1 (1 : Int64) (own_ix p1 (1 : Int32)) (own_ix p2 (1 : Int32)) (own_ix p3 (1 : Int32)) m1 m2 m3) (1 : Int32) (own_ix p3 (1 : Int32)) m3))]) rfl (k' := 5) rfl (n' := 9) rfl ?_
      refine H.icmpF s0_256 (own_main q3 rfl (by decide) (by decide) f1 f2 f3 f3 (by omega)) ?_
      refine H.iconst s0_259 (v := (1 : Int32)) (by decide) ?_
      refine H.goto s0_260 ?_
      refine H.istore s0_264 (ls' := #[.val (.int p0), .val (.int p1), .val (.int p2), .val (.int p3), .val (.int p4), .val (.int (0 : Int32)), .val (.int (1 : Int32)), .val (.int (1 : Int32)), .val (.int (own_ix p1 (1 : Int32))), .val (.int (own_ix p2 (1 : Int32))), .val (.int (own_ix p3 (1 : Int32))), .val (.int ((p4.toUInt32 >>> ((1 : Int32) &&& 31).toUInt32).toInt32 % (3 : Int32))), .val (.ref (n0 + 0)), .val (.int (1 : Int32))]) rfl ?_
      refine H.iload s0_266 rfl ?_
      exact H.ireturn s0_268 rfl (by simp) rfl rfl (by decide) (by decide)
    · refine H.iand s0_9 (w := (2 : Int32)) hz9 ?_
      refine H.istore s0_10 (ls' := #[.val (.int p0), .val (.int p1), .val (.int p2), .val (.int p3), .val (.int p4), .val (.int (0 : Int32)), .val (.int (2 : Int32)), .unset, .unset, .unset, .unset, .unset, .unset, .unset]) rfl ?_
      refine H.iconst s0_12 (v := (1 : Int32)) (by decide) ?_
      refine H.iload s0_13 rfl ?_
      refine H.bipush s0_15 (v := (6 : Int32)) (by decide) ?_
      refine H.ishl s0_17 (w := (0 : Int32)) (by decide) ?_
      refine H.iload s0_18 rfl ?_
      refine H.iadd s0_20 (w := (2 : Int32)) (by decide) ?_
      refine H.callSD s0_21 (k_13 hw) (a_10 l hw n0) (argsL := [(.int (1 : Int32)), (.int (2 : Int32))]) (rest := []) rfl rfl rfl rfl (leb rfl) (leb rfl) (leb rfl) (leb rfl) (st' := [(.int (2 : Int32))]) rfl (k' := 0) rfl (n' := 0) rfl ?_
      refine H.istore s0_24 (ls' := #[.val (.int p0), .val (.int p1), .val (.int p2), .val (.int p3), .val (.int p4), .val (.int (0 : Int32)), .val (.int (2 : Int32)), .val (.int (2 : Int32)), .unset, .unset, .unset, .unset, .unset, .unset]) rfl ?_
      refine H.iloadN s0_26 rfl ?_
      refine H.iload s0_27 rfl ?_
      refine H.callSD s0_29 (k_14 hw) (m_ix l hw n0 _ p1 (2 : Int32) (by decide)) (argsL := [(.int p1), (.int (2 : Int32))]) (rest := []) rfl rfl rfl rfl (leb rfl) (leb rfl) (leb rfl) (leb rfl) (st' := [(.int (own_ix p1 (2 : Int32)))]) rfl (k' := 0) rfl (n' := 0) rfl ?_
      refine H.istore s0_32 (ls' := #[.val (.int p0), .val (.int p1), .val (.int p2), .val (.int p3), .val (.int p4), .val (.int (0 : Int32)), .val (.int (2 : Int32)), .val (.int (2 : Int32)), .val (.int (own_ix p1 (2 : Int32))), .unset, .unset, .unset, .unset, .unset]) rfl ?_
      refine H.iloadN s0_34 rfl ?_
      refine H.iload s0_35 rfl ?_
      refine H.callSD s0_37 (k_14 hw) (m_ix l hw n0 _ p2 (2 : Int32) (by decide)) (argsL := [(.int p2), (.int (2 : Int32))]) (rest := []) rfl rfl rfl rfl (leb rfl) (leb rfl) (leb rfl) (leb rfl) (st' := [(.int (own_ix p2 (2 : Int32)))]) rfl (k' := 0) rfl (n' := 0) rfl ?_
      refine H.istore s0_40 (ls' := #[.val (.int p0), .val (.int p1), .val (.int p2), .val (.int p3), .val (.int p4), .val (.int (0 : Int32)), .val (.int (2 : Int32)), .val (.int (2 : Int32)), .val (.int (own_ix p1 (2 : Int32))), .val (.int (own_ix p2 (2 : Int32))), .unset, .unset, .unset, .unset]) rfl ?_
      refine H.iloadN s0_42 rfl ?_
      refine H.iload s0_43 rfl ?_
      refine H.callSD s0_45 (k_14 hw) (m_ix l hw n0 _ p3 (2 : Int32) (by decide)) (argsL := [(.int p3), (.int (2 : Int32))]) (rest := []) rfl rfl rfl rfl (leb rfl) (leb rfl) (leb rfl) (leb rfl) (st' := [(.int (own_ix p3 (2 : Int32)))]) rfl (k' := 0) rfl (n' := 0) rfl ?_
      refine H.istore s0_48 (ls' := #[.val (.int p0), .val (.int p1), .val (.int p2), .val (.int p3), .val (.int p4), .val (.int (0 : Int32)), .val (.int (2 : Int32)), .val (.int (2 : Int32)), .val (.int (own_ix p1 (2 : Int32))), .val (.int (own_ix p2 (2 : Int32))), .val (.int (own_ix p3 (2 : Int32))), .unset, .unset, .unset]) rfl ?_
      refine H.iload s0_50 rfl ?_
      refine H.iconst s0_52 (v := (1 : Int32)) (by decide) ?_
      refine H.iushr s0_53 rfl ?_
      refine H.iload s0_54 rfl ?_
      refine H.iconst s0_56 (v := (2 : Int32)) (by decide) ?_
      refine H.iadd s0_57 (w := (4 : Int32)) (by decide) ?_
      refine H.irem s0_58 (by decide) (w := ((p4.toUInt32 >>> ((1 : Int32) &&& 31).toUInt32).toInt32 % (4 : Int32))) rfl ?_
      refine H.istore s0_59 (ls' := #[.val (.int p0), .val (.int p1), .val (.int p2), .val (.int p3), .val (.int p4), .val (.int (0 : Int32)), .val (.int (2 : Int32)), .val (.int (2 : Int32)), .val (.int (own_ix p1 (2 : Int32))), .val (.int (own_ix p2 (2 : Int32))), .val (.int (own_ix p3 (2 : Int32))), .val (.int ((p4.toUInt32 >>> ((1 : Int32) &&& 31).toUInt32).toInt32 % (4 : Int32))), .unset, .unset]) rfl ?_
      refine H.new s0_61 (k_15 hw) rfl (by decide) (by decide) (i := 0) rfl (A' := [.inl (0, [(.int (0 : Int32)), .null, .null, .null, .null])]) rfl (k' := 1) rfl (n' := 5) rfl ?_
      refine H.dup s0_64 rfl ?_
      refine H.iload s0_65 rfl ?_
      refine H.callCD s0_67 (k_25 hw) (a_11 l hw n0) (argsL := [(.int (2 : Int32))]) (rest := [(.ref (n0 + 0))]) rfl rfl rfl rfl (leb rfl) (leb rfl) (leb rfl) (leb rfl) (st' := [(.ref (n0 + 0))]) rfl (k' := 5) rfl (n' := 9) rfl ?_
      refine H.astore s0_70 rfl (ls' := #[.val (.int p0), .val (.int p1), .val (.int p2), .val (.int p3), .val (.int p4), .val (.int (0 : Int32)), .val (.int (2 : Int32)), .val (.int (2 : Int32)), .val (.int (own_ix p1 (2 : Int32))), .val (.int (own_ix p2 (2 : Int32))), .val (.int (own_ix p3 (2 : Int32))), .val (.int ((p4.toUInt32 >>> ((1 : Int32) &&& 31).toUInt32).toInt32 % (4 : Int32))), .val (.ref (n0 + 0)), .unset]) rfl ?_
      refine H.aload s0_72 rfl rfl ?_
      refine H.callVD s0_74 (k_29 hw) (a_18 l hw n0) (i := 0) rfl (argsL := []) (rest := []) rfl rfl rfl rfl (leb rfl) (leb rfl) (leb rfl) (leb rfl) (st' := []) rfl (k' := 5) rfl (n' := 9) rfl ?_
      refine H.aload s0_77 rfl rfl ?_
      refine H.iload s0_79 rfl ?_
      obtain ⟨m1, f1, g1⟩ := own_ix_r p1 (2 : Int32) 2 (by decide) (by decide) (by decide)
      obtain ⟨m2, f2, g2⟩ := own_ix_r p2 (2 : Int32) 2 (by decide) (by decide) (by decide)
      obtain ⟨m3, f3, g3⟩ := own_ix_r p3 (2 : Int32) 2 (by decide) (by decide) (by decide)
      obtain ⟨m4, f4, g4⟩ := own_fr_r p4 (4 : Int32) 4 (by decide) (by decide)
      have q0 := inv_2
      obtain ⟨q1, q2, q3⟩ := own_inv3 q0 (by decide) (by decide) f1 f2 f3 g1 g2 g3
      refine H.callVD s0_81 (k_30 hw) (m_rem l hw n0 own_f2 (1 : Int64) (2 : Int32) (own_f2.map Value.long) [(.long (1 : Int64))] (own_ix p1 (2 : Int32)) m1 f1 (own_len q0 (by omega)) (own_len4 q0 (by decide))) (i := 0) rfl (argsL := [(.int (own_ix p1 (2 : Int32)))]) (rest := []) rfl rfl rfl rfl (leb rfl) (leb rfl) (leb rfl) (leb rfl) (st' := []) rfl (k' := 5) rfl (n' := 9) rfl ?_
      refine H.aload s0_84 rfl rfl ?_
      refine H.iload s0_86 rfl ?_
      refine H.callVD s0_88 (k_30 hw) (m_rem l hw n0 (own_Lr own_f2 (own_ix p1 (2 : Int32)) m1) (own_e own_f2 (1 : Int64) (own_ix p1 (2 : Int32)) m1) (2 : Int32) (own_f2.map Value.long) [(.long (1 : Int64))] (own_ix p2 (2 : Int32)) m2 f2 (own_len q1 (by omega)) (own_len4 q1 (by decide))) (i := 0) rfl (argsL := [(.int (own_ix p2 (2 : Int32)))]) (rest := []) rfl rfl rfl rfl (leb rfl) (leb rfl) (leb rfl) (leb rfl) (st' := []) rfl (k' := 5) rfl (n' := 9) rfl ?_
      refine H.aload s0_91 rfl rfl ?_
      refine H.iload s0_93 rfl ?_
      refine H.callVD s0_95 (k_30 hw) (m_rem l hw n0 (own_L2 own_f2 (own_ix p1 (2 : Int32)) (own_ix p2 (2 : Int32)) m1 m2) (own_e2 own_f2 (1 : Int64) (own_ix p1 (2 : Int32)) (own_ix p2 (2 : Int32)) m1 m2) (2 : Int32) (own_f2.map Value.long) [(.long (1 : Int64))] (own_ix p3 (2 : Int32)) m3 f3 (own_len q2 (by omega)) (own_len4 q2 (by decide))) (i := 0) rfl (argsL := [(.int (own_ix p3 (2 : Int32)))]) (rest := []) rfl rfl rfl rfl (leb rfl) (leb rfl) (leb rfl) (leb rfl) (st' := []) rfl (k' := 5) rfl (n' := 9) rfl ?_
      refine H.aload s0_98 rfl rfl ?_
      refine H.iload s0_100 rfl ?_
      refine H.callVD s0_102 (k_31 hw) (m_nxt l hw n0 (own_L3 own_f2 (own_ix p1 (2 : Int32)) (own_ix p2 (2 : Int32)) (own_ix p3 (2 : Int32)) m1 m2 m3) (own_e3 own_f2 (1 : Int64) (own_ix p1 (2 : Int32)) (own_ix p2 (2 : Int32)) (own_ix p3 (2 : Int32)) m1 m2 m3) (2 : Int32) (own_f2.map Value.long) [(.long (1 : Int64))] ((p4.toUInt32 >>> ((1 : Int32) &&& 31).toUInt32).toInt32 % (4 : Int32)) m4 f4 (own_len4 q3 (by decide)) (own_he q3) (own_hz q3)) (i := 0) rfl (argsL := [(.int ((p4.toUInt32 >>> ((1 : Int32) &&& 31).toUInt32).toInt32 % (4 : Int32)))]) (rest := []) rfl rfl rfl rfl (leb rfl) (leb rfl) (leb rfl) (leb rfl) (st' := [(.int (own_nxt (own_L3 own_f2 (own_ix p1 (2 : Int32)) (own_ix p2 (2 : Int32)) (own_ix p3 (2 : Int32)) m1 m2 m3) (own_e3 own_f2 (1 : Int64) (own_ix p1 (2 : Int32)) (own_ix p2 (2 : Int32)) (own_ix p3 (2 : Int32)) m1 m2 m3) (2 : Int32) ((p4.toUInt32 >>> ((1 : Int32) &&& 31).toUInt32).toInt32 % (4 : Int32)) m4))]) rfl (k' := 5) rfl (n' := 9) rfl ?_
      refine H.iload s0_105 rfl ?_
      refine H.iload s0_107 rfl ?_
      refine H.iload s0_109 rfl ?_
      refine H.iload s0_111 rfl ?_
      refine H.iload s0_113 rfl ?_
      refine H.callSD s0_115 (k_32 hw) (m_ref l hw n0 _ ((p4.toUInt32 >>> ((1 : Int32) &&& 31).toUInt32).toInt32 % (4 : Int32)) (2 : Int32) (own_ix p1 (2 : Int32)) (own_ix p2 (2 : Int32)) (own_ix p3 (2 : Int32))) (argsL := [(.int ((p4.toUInt32 >>> ((1 : Int32) &&& 31).toUInt32).toInt32 % (4 : Int32))), (.int (2 : Int32)), (.int (own_ix p1 (2 : Int32))), (.int (own_ix p2 (2 : Int32))), (.int (own_ix p3 (2 : Int32)))]) (rest := [(.int (own_nxt (own_L3 own_f2 (own_ix p1 (2 : Int32)) (own_ix p2 (2 : Int32)) (own_ix p3 (2 : Int32)) m1 m2 m3) (own_e3 own_f2 (1 : Int64) (own_ix p1 (2 : Int32)) (own_ix p2 (2 : Int32)) (own_ix p3 (2 : Int32)) m1 m2 m3) (2 : Int32) ((p4.toUInt32 >>> ((1 : Int32) &&& 31).toUInt32).toInt32 % (4 : Int32)) m4))]) rfl rfl rfl rfl (leb rfl) (leb rfl) (leb rfl) (leb rfl) (st' := [(.int (own_ref ((p4.toUInt32 >>> ((1 : Int32) &&& 31).toUInt32).toInt32 % (4 : Int32)) (2 : Int32) (own_ix p1 (2 : Int32)) (own_ix p2 (2 : Int32)) (own_ix p3 (2 : Int32)))), (.int (own_nxt (own_L3 own_f2 (own_ix p1 (2 : Int32)) (own_ix p2 (2 : Int32)) (own_ix p3 (2 : Int32)) m1 m2 m3) (own_e3 own_f2 (1 : Int64) (own_ix p1 (2 : Int32)) (own_ix p2 (2 : Int32)) (own_ix p3 (2 : Int32)) m1 m2 m3) (2 : Int32) ((p4.toUInt32 >>> ((1 : Int32) &&& 31).toUInt32).toInt32 % (4 : Int32)) m4))]) rfl (k' := 5) rfl (n' := 9) rfl ?_
      refine H.icmpF s0_118 (own_main q3 rfl (by decide) (by decide) f1 f2 f3 f4 (by omega)) ?_
      refine H.iconst s0_121 (v := (1 : Int32)) (by decide) ?_
      refine H.goto s0_122 ?_
      refine H.istore s0_126 (ls' := #[.val (.int p0), .val (.int p1), .val (.int p2), .val (.int p3), .val (.int p4), .val (.int (0 : Int32)), .val (.int (2 : Int32)), .val (.int (2 : Int32)), .val (.int (own_ix p1 (2 : Int32))), .val (.int (own_ix p2 (2 : Int32))), .val (.int (own_ix p3 (2 : Int32))), .val (.int ((p4.toUInt32 >>> ((1 : Int32) &&& 31).toUInt32).toInt32 % (4 : Int32))), .val (.ref (n0 + 0)), .val (.int (1 : Int32))]) rfl ?_
      refine H.iload s0_128 rfl ?_
      refine H.ifF s0_130 (show ¬ (1 : Int32) = (0 : Int32) by decide) ?_
      refine H.aload s0_133 rfl rfl ?_
      refine H.iconst s0_135 (v := (0 : Int32)) (by decide) ?_
      refine H.callVD s0_136 (k_31 hw) (m_nxt l hw n0 (own_L3 own_f2 (own_ix p1 (2 : Int32)) (own_ix p2 (2 : Int32)) (own_ix p3 (2 : Int32)) m1 m2 m3) (own_e3 own_f2 (1 : Int64) (own_ix p1 (2 : Int32)) (own_ix p2 (2 : Int32)) (own_ix p3 (2 : Int32)) m1 m2 m3) (2 : Int32) (own_f2.map Value.long) [(.long (1 : Int64))] (0 : Int32) 0 (by decide : (0 : Int32).toInt = ((0 : Nat) : Int)) (own_len4 q3 (by decide)) (own_he q3) (own_hz q3)) (i := 0) rfl (argsL := [(.int (0 : Int32))]) (rest := []) rfl rfl rfl rfl (leb rfl) (leb rfl) (leb rfl) (leb rfl) (st' := [(.int (own_nxt (own_L3 own_f2 (own_ix p1 (2 : Int32)) (own_ix p2 (2 : Int32)) (own_ix p3 (2 : Int32)) m1 m2 m3) (own_e3 own_f2 (1 : Int64) (own_ix p1 (2 : Int32)) (own_ix p2 (2 : Int32)) (own_ix p3 (2 : Int32)) m1 m2 m3) (2 : Int32) (0 : Int32) 0))]) rfl (k' := 5) rfl (n' := 9) rfl ?_
      refine H.iconst s0_139 (v := (0 : Int32)) (by decide) ?_
      refine H.iload s0_140 rfl ?_
      refine H.iload s0_142 rfl ?_
      refine H.iload s0_144 rfl ?_
      refine H.iload s0_146 rfl ?_
      refine H.callSD s0_148 (k_32 hw) (m_ref l hw n0 _ (0 : Int32) (2 : Int32) (own_ix p1 (2 : Int32)) (own_ix p2 (2 : Int32)) (own_ix p3 (2 : Int32))) (argsL := [(.int (0 : Int32)), (.int (2 : Int32)), (.int (own_ix p1 (2 : Int32))), (.int (own_ix p2 (2 : Int32))), (.int (own_ix p3 (2 : Int32)))]) (rest := [(.int (own_nxt (own_L3 own_f2 (own_ix p1 (2 : Int32)) (own_ix p2 (2 : Int32)) (own_ix p3 (2 : Int32)) m1 m2 m3) (own_e3 own_f2 (1 : Int64) (own_ix p1 (2 : Int32)) (own_ix p2 (2 : Int32)) (own_ix p3 (2 : Int32)) m1 m2 m3) (2 : Int32) (0 : Int32) 0))]) rfl rfl rfl rfl (leb rfl) (leb rfl) (leb rfl) (leb rfl) (st' := [(.int (own_ref (0 : Int32) (2 : Int32) (own_ix p1 (2 : Int32)) (own_ix p2 (2 : Int32)) (own_ix p3 (2 : Int32)))), (.int (own_nxt (own_L3 own_f2 (own_ix p1 (2 : Int32)) (own_ix p2 (2 : Int32)) (own_ix p3 (2 : Int32)) m1 m2 m3) (own_e3 own_f2 (1 : Int64) (own_ix p1 (2 : Int32)) (own_ix p2 (2 : Int32)) (own_ix p3 (2 : Int32)) m1 m2 m3) (2 : Int32) (0 : Int32) 0))]) rfl (k' := 5) rfl (n' := 9) rfl ?_
      refine H.icmpF s0_151 (own_main q3 rfl (by decide) (by decide) f1 f2 f3 (by decide : (0 : Int32).toInt = ((0 : Nat) : Int)) (by omega)) ?_
      refine H.iconst s0_154 (v := (1 : Int32)) (by decide) ?_
      refine H.goto s0_155 ?_
      refine H.istore s0_159 (ls' := #[.val (.int p0), .val (.int p1), .val (.int p2), .val (.int p3), .val (.int p4), .val (.int (0 : Int32)), .val (.int (2 : Int32)), .val (.int (2 : Int32)), .val (.int (own_ix p1 (2 : Int32))), .val (.int (own_ix p2 (2 : Int32))), .val (.int (own_ix p3 (2 : Int32))), .val (.int ((p4.toUInt32 >>> ((1 : Int32) &&& 31).toUInt32).toInt32 % (4 : Int32))), .val (.ref (n0 + 0)), .val (.int (1 : Int32))]) rfl ?_
      refine H.iload s0_161 rfl ?_
      refine H.ifF s0_163 (show ¬ (1 : Int32) = (0 : Int32) by decide) ?_
      refine H.aload s0_166 rfl rfl ?_
      refine H.iload s0_168 rfl ?_
      refine H.callVD s0_170 (k_31 hw) (m_nxt l hw n0 (own_L3 own_f2 (own_ix p1 (2 : Int32)) (own_ix p2 (2 : Int32)) (own_ix p3 (2 : Int32)) m1 m2 m3) (own_e3 own_f2 (1 : Int64) (own_ix p1 (2 : Int32)) (own_ix p2 (2 : Int32)) (own_ix p3 (2 : Int32)) m1 m2 m3) (2 : Int32) (own_f2.map Value.long) [(.long (1 : Int64))] (own_ix p1 (2 : Int32)) m1 f1 (own_len4 q3 (by decide)) (own_he q3) (own_hz q3)) (i := 0) rfl (argsL := [(.int (own_ix p1 (2 : Int32)))]) (rest := []) rfl rfl rfl rfl (leb rfl) (leb rfl) (leb rfl) (leb rfl) (st' := [(.int (own_nxt (own_L3 own_f2 (own_ix p1 (2 : Int32)) (own_ix p2 (2 : Int32)) (own_ix p3 (2 : Int32)) m1 m2 m3) (own_e3 own_f2 (1 : Int64) (own_ix p1 (2 : Int32)) (own_ix p2 (2 : Int32)) (own_ix p3 (2 : Int32)) m1 m2 m3) (2 : Int32) (own_ix p1 (2 : Int32)) m1))]) rfl (k' := 5) rfl (n' := 9) rfl ?_
      refine H.iload s0_173 rfl ?_
      refine H.iload s0_175 rfl ?_
      refine H.iload s0_177 rfl ?_
      refine H.iload s0_179 rfl ?_
      refine H.iload s0_181 rfl ?_
      refine H.callSD s0_183 (k_32 hw) (m_ref l hw n0 _ (own_ix p1 (2 : Int32)) (2 : Int32) (own_ix p1 (2 : Int32)) (own_ix p2 (2 : Int32)) (own_ix p3 (2 : Int32))) (argsL := [(.int (own_ix p1 (2 : Int32))), (.int (2 : Int32)), (.int (own_ix p1 (2 : Int32))), (.int (own_ix p2 (2 : Int32))), (.int (own_ix p3 (2 : Int32)))]) (rest := [(.int (own_nxt (own_L3 own_f2 (own_ix p1 (2 : Int32)) (own_ix p2 (2 : Int32)) (own_ix p3 (2 : Int32)) m1 m2 m3) (own_e3 own_f2 (1 : Int64) (own_ix p1 (2 : Int32)) (own_ix p2 (2 : Int32)) (own_ix p3 (2 : Int32)) m1 m2 m3) (2 : Int32) (own_ix p1 (2 : Int32)) m1))]) rfl rfl rfl rfl (leb rfl) (leb rfl) (leb rfl) (leb rfl) (st' := [(.int (own_ref (own_ix p1 (2 : Int32)) (2 : Int32) (own_ix p1 (2 : Int32)) (own_ix p2 (2 : Int32)) (own_ix p3 (2 : Int32)))), (.int (own_nxt (own_L3 own_f2 (own_ix p1 (2 : Int32)) (own_ix p2 (2 : Int32)) (own_ix p3 (2 : Int32)) m1 m2 m3) (own_e3 own_f2 (1 : Int64) (own_ix p1 (2 : Int32)) (own_ix p2 (2 : Int32)) (own_ix p3 (2 : Int32)) m1 m2 m3) (2 : Int32) (own_ix p1 (2 : Int32)) m1))]) rfl (k' := 5) rfl (n' := 9) rfl ?_
      refine H.icmpF s0_186 (own_main q3 rfl (by decide) (by decide) f1 f2 f3 f1 (by omega)) ?_
      refine H.iconst s0_189 (v := (1 : Int32)) (by decide) ?_
      refine H.goto s0_190 ?_
      refine H.istore s0_194 (ls' := #[.val (.int p0), .val (.int p1), .val (.int p2), .val (.int p3), .val (.int p4), .val (.int (0 : Int32)), .val (.int (2 : Int32)), .val (.int (2 : Int32)), .val (.int (own_ix p1 (2 : Int32))), .val (.int (own_ix p2 (2 : Int32))), .val (.int (own_ix p3 (2 : Int32))), .val (.int ((p4.toUInt32 >>> ((1 : Int32) &&& 31).toUInt32).toInt32 % (4 : Int32))), .val (.ref (n0 + 0)), .val (.int (1 : Int32))]) rfl ?_
      refine H.iload s0_196 rfl ?_
      refine H.ifF s0_198 (show ¬ (1 : Int32) = (0 : Int32) by decide) ?_
      refine H.aload s0_201 rfl rfl ?_
      refine H.iload s0_203 rfl ?_
      refine H.callVD s0_205 (k_31 hw) (m_nxt l hw n0 (own_L3 own_f2 (own_ix p1 (2 : Int32)) (own_ix p2 (2 : Int32)) (own_ix p3 (2 : Int32)) m1 m2 m3) (own_e3 own_f2 (1 : Int64) (own_ix p1 (2 : Int32)) (own_ix p2 (2 : Int32)) (own_ix p3 (2 : Int32)) m1 m2 m3) (2 : Int32) (own_f2.map Value.long) [(.long (1 : Int64))] (own_ix p2 (2 : Int32)) m2 f2 (own_len4 q3 (by decide)) (own_he q3) (own_hz q3)) (i := 0) rfl (argsL := [(.int (own_ix p2 (2 : Int32)))]) (rest := []) rfl rfl rfl rfl (leb rfl) (leb rfl) (leb rfl) (leb rfl) (st' := [(.int (own_nxt (own_L3 own_f2 (own_ix p1 (2 : Int32)) (own_ix p2 (2 : Int32)) (own_ix p3 (2 : Int32)) m1 m2 m3) (own_e3 own_f2 (1 : Int64) (own_ix p1 (2 : Int32)) (own_ix p2 (2 : Int32)) (own_ix p3 (2 : Int32)) m1 m2 m3) (2 : Int32) (own_ix p2 (2 : Int32)) m2))]) rfl (k' := 5) rfl (n' := 9) rfl ?_
      refine H.iload s0_208 rfl ?_
      refine H.iload s0_210 rfl ?_
      refine H.iload s0_212 rfl ?_
      refine H.iload s0_214 rfl ?_
      refine H.iload s0_216 rfl ?_
      refine H.callSD s0_218 (k_32 hw) (m_ref l hw n0 _ (own_ix p2 (2 : Int32)) (2 : Int32) (own_ix p1 (2 : Int32)) (own_ix p2 (2 : Int32)) (own_ix p3 (2 : Int32))) (argsL := [(.int (own_ix p2 (2 : Int32))), (.int (2 : Int32)), (.int (own_ix p1 (2 : Int32))), (.int (own_ix p2 (2 : Int32))), (.int (own_ix p3 (2 : Int32)))]) (rest := [(.int (own_nxt (own_L3 own_f2 (own_ix p1 (2 : Int32)) (own_ix p2 (2 : Int32)) (own_ix p3 (2 : Int32)) m1 m2 m3) (own_e3 own_f2 (1 : Int64) (own_ix p1 (2 : Int32)) (own_ix p2 (2 : Int32)) (own_ix p3 (2 : Int32)) m1 m2 m3) (2 : Int32) (own_ix p2 (2 : Int32)) m2))]) rfl rfl rfl rfl (leb rfl) (leb rfl) (leb rfl) (leb rfl) (st' := [(.int (own_ref (own_ix p2 (2 : Int32)) (2 : Int32) (own_ix p1 (2 : Int32)) (own_ix p2 (2 : Int32)) (own_ix p3 (2 : Int32)))), (.int (own_nxt (own_L3 own_f2 (own_ix p1 (2 : Int32)) (own_ix p2 (2 : Int32)) (own_ix p3 (2 : Int32)) m1 m2 m3) (own_e3 own_f2 (1 : Int64) (own_ix p1 (2 : Int32)) (own_ix p2 (2 : Int32)) (own_ix p3 (2 : Int32)) m1 m2 m3) (2 : Int32) (own_ix p2 (2 : Int32)) m2))]) rfl (k' := 5) rfl (n' := 9) rfl ?_
      refine H.icmpF s0_221 (own_main q3 rfl (by decide) (by decide) f1 f2 f3 f2 (by omega)) ?_
      refine H.iconst s0_224 (v := (1 : Int32)) (by decide) ?_
      refine H.goto s0_225 ?_
      refine H.istore s0_229 (ls' := #[.val (.int p0), .val (.int p1), .val (.int p2), .val (.int p3), .val (.int p4), .val (.int (0 : Int32)), .val (.int (2 : Int32)), .val (.int (2 : Int32)), .val (.int (own_ix p1 (2 : Int32))), .val (.int (own_ix p2 (2 : Int32))), .val (.int (own_ix p3 (2 : Int32))), .val (.int ((p4.toUInt32 >>> ((1 : Int32) &&& 31).toUInt32).toInt32 % (4 : Int32))), .val (.ref (n0 + 0)), .val (.int (1 : Int32))]) rfl ?_
      refine H.iload s0_231 rfl ?_
      refine H.ifF s0_233 (show ¬ (1 : Int32) = (0 : Int32) by decide) ?_
      refine H.aload s0_236 rfl rfl ?_
      refine H.iload s0_238 rfl ?_
      refine H.callVD s0_240 (k_31 hw) (m_nxt l hw n0 (own_L3 own_f2 (own_ix p1 (2 : Int32)) (own_ix p2 (2 : Int32)) (own_ix p3 (2 : Int32)) m1 m2 m3) (own_e3 own_f2 (1 : Int64) (own_ix p1 (2 : Int32)) (own_ix p2 (2 : Int32)) (own_ix p3 (2 : Int32)) m1 m2 m3) (2 : Int32) (own_f2.map Value.long) [(.long (1 : Int64))] (own_ix p3 (2 : Int32)) m3 f3 (own_len4 q3 (by decide)) (own_he q3) (own_hz q3)) (i := 0) rfl (argsL := [(.int (own_ix p3 (2 : Int32)))]) (rest := []) rfl rfl rfl rfl (leb rfl) (leb rfl) (leb rfl) (leb rfl) (st' := [(.int (own_nxt (own_L3 own_f2 (own_ix p1 (2 : Int32)) (own_ix p2 (2 : Int32)) (own_ix p3 (2 : Int32)) m1 m2 m3) (own_e3 own_f2 (1 : Int64) (own_ix p1 (2 : Int32)) (own_ix p2 (2 : Int32)) (own_ix p3 (2 : Int32)) m1 m2 m3) (2 : Int32) (own_ix p3 (2 : Int32)) m3))]) rfl (k' := 5) rfl (n' := 9) rfl ?_
      refine H.iload s0_243 rfl ?_
      refine H.iload s0_245 rfl ?_
      refine H.iload s0_247 rfl ?_
      refine H.iload s0_249 rfl ?_
      refine H.iload s0_251 rfl ?_
      refine H.callSD s0_253 (k_32 hw) (m_ref l hw n0 _ (own_ix p3 (2 : Int32)) (2 : Int32) (own_ix p1 (2 : Int32)) (own_ix p2 (2 : Int32)) (own_ix p3 (2 : Int32))) (argsL := [(.int (own_ix p3 (2 : Int32))), (.int (2 : Int32)), (.int (own_ix p1 (2 : Int32))), (.int (own_ix p2 (2 : Int32))), (.int (own_ix p3 (2 : Int32)))]) (rest := [(.int (own_nxt (own_L3 own_f2 (own_ix p1 (2 : Int32)) (own_ix p2 (2 : Int32)) (own_ix p3 (2 : Int32)) m1 m2 m3) (own_e3 own_f2 (1 : Int64) (own_ix p1 (2 : Int32)) (own_ix p2 (2 : Int32)) (own_ix p3 (2 : Int32)) m1 m2 m3) (2 : Int32) (own_ix p3 (2 : Int32)) m3))]) rfl rfl rfl rfl (leb rfl) (leb rfl) (leb rfl) (leb rfl) (st' := [(.int (own_ref (own_ix p3 (2 : Int32)) (2 : Int32) (own_ix p1 (2 : Int32)) (own_ix p2 (2 : Int32)) (own_ix p3 (2 : Int32)))), (.int (own_nxt (own_L3 own_f2 (own_ix p1 (2 : Int32)) (own_ix p2 (2 : Int32)) (own_ix p3 (2 : Int32)) m1 m2 m3) (own_e3 own_f2 (1 : Int64) (own_ix p1 (2 : Int32)) (own_ix p2 (2 : Int32)) (own_ix p3 (2 : Int32)) m1 m2 m3) (2 : Int32) (own_ix p3 (2 : Int32)) m3))]) rfl (k' := 5) rfl (n' := 9) rfl ?_
      refine H.icmpF s0_256 (own_main q3 rfl (by decide) (by decide) f1 f2 f3 f3 (by omega)) ?_
      refine H.iconst s0_259 (v := (1 : Int32)) (by decide) ?_
      refine H.goto s0_260 ?_
      refine H.istore s0_264 (ls' := #[.val (.int p0), .val (.int p1), .val (.int p2), .val (.int p3), .val (.int p4), .val (.int (0 : Int32)), .val (.int (2 : Int32)), .val (.int (2 : Int32)), .val (.int (own_ix p1 (2 : Int32))), .val (.int (own_ix p2 (2 : Int32))), .val (.int (own_ix p3 (2 : Int32))), .val (.int ((p4.toUInt32 >>> ((1 : Int32) &&& 31).toUInt32).toInt32 % (4 : Int32))), .val (.ref (n0 + 0)), .val (.int (1 : Int32))]) rfl ?_
      refine H.iload s0_266 rfl ?_
      exact H.ireturn s0_268 rfl (by simp) rfl rfl (by decide) (by decide)
    · refine H.iand s0_9 (w := (3 : Int32)) hz9 ?_
      refine H.istore s0_10 (ls' := #[.val (.int p0), .val (.int p1), .val (.int p2), .val (.int p3), .val (.int p4), .val (.int (0 : Int32)), .val (.int (3 : Int32)), .unset, .unset, .unset, .unset, .unset, .unset, .unset]) rfl ?_
      refine H.iconst s0_12 (v := (1 : Int32)) (by decide) ?_
      refine H.iload s0_13 rfl ?_
      refine H.bipush s0_15 (v := (6 : Int32)) (by decide) ?_
      refine H.ishl s0_17 (w := (0 : Int32)) (by decide) ?_
      refine H.iload s0_18 rfl ?_
      refine H.iadd s0_20 (w := (3 : Int32)) (by decide) ?_
      refine H.callSD s0_21 (k_13 hw) (a_19 l hw n0) (argsL := [(.int (1 : Int32)), (.int (3 : Int32))]) (rest := []) rfl rfl rfl rfl (leb rfl) (leb rfl) (leb rfl) (leb rfl) (st' := [(.int (3 : Int32))]) rfl (k' := 0) rfl (n' := 0) rfl ?_
      refine H.istore s0_24 (ls' := #[.val (.int p0), .val (.int p1), .val (.int p2), .val (.int p3), .val (.int p4), .val (.int (0 : Int32)), .val (.int (3 : Int32)), .val (.int (3 : Int32)), .unset, .unset, .unset, .unset, .unset, .unset]) rfl ?_
      refine H.iloadN s0_26 rfl ?_
      refine H.iload s0_27 rfl ?_
      refine H.callSD s0_29 (k_14 hw) (m_ix l hw n0 _ p1 (3 : Int32) (by decide)) (argsL := [(.int p1), (.int (3 : Int32))]) (rest := []) rfl rfl rfl rfl (leb rfl) (leb rfl) (leb rfl) (leb rfl) (st' := [(.int (own_ix p1 (3 : Int32)))]) rfl (k' := 0) rfl (n' := 0) rfl ?_
      refine H.istore s0_32 (ls' := #[.val (.int p0), .val (.int p1), .val (.int p2), .val (.int p3), .val (.int p4), .val (.int (0 : Int32)), .val (.int (3 : Int32)), .val (.int (3 : Int32)), .val (.int (own_ix p1 (3 : Int32))), .unset, .unset, .unset, .unset, .unset]) rfl ?_
      refine H.iloadN s0_34 rfl ?_
      refine H.iload s0_35 rfl ?_
      refine H.callSD s0_37 (k_14 hw) (m_ix l hw n0 _ p2 (3 : Int32) (by decide)) (argsL := [(.int p2), (.int (3 : Int32))]) (rest := []) rfl rfl rfl rfl (leb rfl) (leb rfl) (leb rfl) (leb rfl) (st' := [(.int (own_ix p2 (3 : Int32)))]) rfl (k' := 0) rfl (n' := 0) rfl ?_
      refine H.istore s0_40 (ls' := #[.val (.int p0), .val (.int p1), .val (.int p2), .val (.int p3), .val (.int p4), .val (.int (0 : Int32)), .val (.int (3 : Int32)), .val (.int (3 : Int32)), .val (.int (own_ix p1 (3 : Int32))), .val (.int (own_ix p2 (3 : Int32))), .unset, .unset, .unset, .unset]) rfl ?_
      refine H.iloadN s0_42 rfl ?_
      refine H.iload s0_43 rfl ?_
      refine H.callSD s0_45 (k_14 hw) (m_ix l hw n0 _ p3 (3 : Int32) (by decide)) (argsL := [(.int p3), (.int (3 : Int32))]) (rest := []) rfl rfl rfl rfl (leb rfl) (leb rfl) (leb rfl) (leb rfl) (st' := [(.int (own_ix p3 (3 : Int32)))]) rfl (k' := 0) rfl (n' := 0) rfl ?_
      refine H.istore s0_48 (ls' := #[.val (.int p0), .val (.int p1), .val (.int p2), .val (.int p3), .val (.int p4), .val (.int (0 : Int32)), .val (.int (3 : Int32)), .val (.int (3 : Int32)), .val (.int (own_ix p1 (3 : Int32))), .val (.int (own_ix p2 (3 : Int32))), .val (.int (own_ix p3 (3 : Int32))), .unset, .unset, .unset]) rfl ?_
      refine H.iload s0_50 rfl ?_
      refine H.iconst s0_52 (v := (1 : Int32)) (by decide) ?_
      refine H.iushr s0_53 rfl ?_
      refine H.iload s0_54 rfl ?_
      refine H.iconst s0_56 (v := (2 : Int32)) (by decide) ?_
      refine H.iadd s0_57 (w := (5 : Int32)) (by decide) ?_
      refine H.irem s0_58 (by decide) (w := ((p4.toUInt32 >>> ((1 : Int32) &&& 31).toUInt32).toInt32 % (5 : Int32))) rfl ?_
      refine H.istore s0_59 (ls' := #[.val (.int p0), .val (.int p1), .val (.int p2), .val (.int p3), .val (.int p4), .val (.int (0 : Int32)), .val (.int (3 : Int32)), .val (.int (3 : Int32)), .val (.int (own_ix p1 (3 : Int32))), .val (.int (own_ix p2 (3 : Int32))), .val (.int (own_ix p3 (3 : Int32))), .val (.int ((p4.toUInt32 >>> ((1 : Int32) &&& 31).toUInt32).toInt32 % (5 : Int32))), .unset, .unset]) rfl ?_
      refine H.new s0_61 (k_15 hw) rfl (by decide) (by decide) (i := 0) rfl (A' := [.inl (0, [(.int (0 : Int32)), .null, .null, .null, .null])]) rfl (k' := 1) rfl (n' := 5) rfl ?_
      refine H.dup s0_64 rfl ?_
      refine H.iload s0_65 rfl ?_
      refine H.callCD s0_67 (k_25 hw) (a_20 l hw n0) (argsL := [(.int (3 : Int32))]) (rest := [(.ref (n0 + 0))]) rfl rfl rfl rfl (leb rfl) (leb rfl) (leb rfl) (leb rfl) (st' := [(.ref (n0 + 0))]) rfl (k' := 5) rfl (n' := 9) rfl ?_
      refine H.astore s0_70 rfl (ls' := #[.val (.int p0), .val (.int p1), .val (.int p2), .val (.int p3), .val (.int p4), .val (.int (0 : Int32)), .val (.int (3 : Int32)), .val (.int (3 : Int32)), .val (.int (own_ix p1 (3 : Int32))), .val (.int (own_ix p2 (3 : Int32))), .val (.int (own_ix p3 (3 : Int32))), .val (.int ((p4.toUInt32 >>> ((1 : Int32) &&& 31).toUInt32).toInt32 % (5 : Int32))), .val (.ref (n0 + 0)), .unset]) rfl ?_
      refine H.aload s0_72 rfl rfl ?_
      refine H.callVD s0_74 (k_29 hw) (a_27 l hw n0) (i := 0) rfl (argsL := []) (rest := []) rfl rfl rfl rfl (leb rfl) (leb rfl) (leb rfl) (leb rfl) (st' := []) rfl (k' := 5) rfl (n' := 9) rfl ?_
      refine H.aload s0_77 rfl rfl ?_
      refine H.iload s0_79 rfl ?_
      obtain ⟨m1, f1, g1⟩ := own_ix_r p1 (3 : Int32) 3 (by decide) (by decide) (by decide)
      obtain ⟨m2, f2, g2⟩ := own_ix_r p2 (3 : Int32) 3 (by decide) (by decide) (by decide)
      obtain ⟨m3, f3, g3⟩ := own_ix_r p3 (3 : Int32) 3 (by decide) (by decide) (by decide)
      obtain ⟨m4, f4, g4⟩ := own_fr_r p4 (5 : Int32) 5 (by decide) (by decide)
      have q0 := inv_3
      obtain ⟨q1, q2, q3⟩ := own_inv3 q0 (by decide) (by decide) f1 f2 f3 g1 g2 g3
      refine H.callVD s0_81 (k_30 hw) (m_rem l hw n0 own_f3 (1 : Int64) (3 : Int32) (own_f3.map Value.long) [(.long (1 : Int64))] (own_ix p1 (3 : Int32)) m1 f1 (own_len q0 (by omega)) (own_len4 q0 (by decide))) (i := 0) rfl (argsL := [(.int (own_ix p1 (3 : Int32)))]) (rest := []) rfl rfl rfl rfl (leb rfl) (leb rfl) (leb rfl) (leb rfl) (st' := []) rfl (k' := 5) rfl (n' := 9) rfl ?_
      refine H.aload s0_84 rfl rfl ?_
      refine H.iload s0_86 rfl ?_
      refine H.callVD s0_88 (k_30 hw) (m_rem l hw n0 (own_Lr own_f3 (own_ix p1 (3 : Int32)) m1) (own_e own_f3 (1 : Int64) (own_ix p1 (3 : Int32)) m1) (3 : Int32) (own_f3.map Value.long) [(.long (1 : Int64))] (own_ix p2 (3 : Int32)) m2 f2 (own_len q1 (by omega)) (own_len4 q1 (by decide))) (i := 0) rfl (argsL := [(.int (own_ix p2 (3 : Int32)))]) (rest := []) rfl rfl rfl rfl (leb rfl) (leb rfl) (leb rfl) (leb rfl) (st' := []) rfl (k' := 5) rfl (n' := 9) rfl ?_
      refine H.aload s0_91 rfl rfl ?_
      refine H.iload s0_93 rfl ?_
      refine H.callVD s0_95 (k_30 hw) (m_rem l hw n0 (own_L2 own_f3 (own_ix p1 (3 : Int32)) (own_ix p2 (3 : Int32)) m1 m2) (own_e2 own_f3 (1 : Int64) (own_ix p1 (3 : Int32)) (own_ix p2 (3 : Int32)) m1 m2) (3 : Int32) (own_f3.map Value.long) [(.long (1 : Int64))] (own_ix p3 (3 : Int32)) m3 f3 (own_len q2 (by omega)) (own_len4 q2 (by decide))) (i := 0) rfl (argsL := [(.int (own_ix p3 (3 : Int32)))]) (rest := []) rfl rfl rfl rfl (leb rfl) (leb rfl) (leb rfl) (leb rfl) (st' := []) rfl (k' := 5) rfl (n' := 9) rfl ?_
      refine H.aload s0_98 rfl rfl ?_
      refine H.iload s0_100 rfl ?_
      refine H.callVD s0_102 (k_31 hw) (m_nxt l hw n0 (own_L3 own_f3 (own_ix p1 (3 : Int32)) (own_ix p2 (3 : Int32)) (own_ix p3 (3 : Int32)) m1 m2 m3) (own_e3 own_f3 (1 : Int64) (own_ix p1 (3 : Int32)) (own_ix p2 (3 : Int32)) (own_ix p3 (3 : Int32)) m1 m2 m3) (3 : Int32) (own_f3.map Value.long) [(.long (1 : Int64))] ((p4.toUInt32 >>> ((1 : Int32) &&& 31).toUInt32).toInt32 % (5 : Int32)) m4 f4 (own_len4 q3 (by decide)) (own_he q3) (own_hz q3)) (i := 0) rfl (argsL := [(.int ((p4.toUInt32 >>> ((1 : Int32) &&& 31).toUInt32).toInt32 % (5 : Int32)))]) (rest := []) rfl rfl rfl rfl (leb rfl) (leb rfl) (leb rfl) (leb rfl) (st' := [(.int (own_nxt (own_L3 own_f3 (own_ix p1 (3 : Int32)) (own_ix p2 (3 : Int32)) (own_ix p3 (3 : Int32)) m1 m2 m3) (own_e3 own_f3 (1 : Int64) (own_ix p1 (3 : Int32)) (own_ix p2 (3 : Int32)) (own_ix p3 (3 : Int32)) m1 m2 m3) (3 : Int32) ((p4.toUInt32 >>> ((1 : Int32) &&& 31).toUInt32).toInt32 % (5 : Int32)) m4))]) rfl (k' := 5) rfl (n' := 9) rfl ?_
      refine H.iload s0_105 rfl ?_
      refine H.iload s0_107 rfl ?_
      refine H.iload s0_109 rfl ?_
      refine H.iload s0_111 rfl ?_
      refine H.iload s0_113 rfl ?_
      refine H.callSD s0_115 (k_32 hw) (m_ref l hw n0 _ ((p4.toUInt32 >>> ((1 : Int32) &&& 31).toUInt32).toInt32 % (5 : Int32)) (3 : Int32) (own_ix p1 (3 : Int32)) (own_ix p2 (3 : Int32)) (own_ix p3 (3 : Int32))) (argsL := [(.int ((p4.toUInt32 >>> ((1 : Int32) &&& 31).toUInt32).toInt32 % (5 : Int32))), (.int (3 : Int32)), (.int (own_ix p1 (3 : Int32))), (.int (own_ix p2 (3 : Int32))), (.int (own_ix p3 (3 : Int32)))]) (rest := [(.int (own_nxt (own_L3 own_f3 (own_ix p1 (3 : Int32)) (own_ix p2 (3 : Int32)) (own_ix p3 (3 : Int32)) m1 m2 m3) (own_e3 own_f3 (1 : Int64) (own_ix p1 (3 : Int32)) (own_ix p2 (3 : Int32)) (own_ix p3 (3 : Int32)) m1 m2 m3) (3 : Int32) ((p4.toUInt32 >>> ((1 : Int32) &&& 31).toUInt32).toInt32 % (5 : Int32)) m4))]) rfl rfl rfl rfl (leb rfl) (leb rfl) (leb rfl) (leb rfl) (st' := [(.int (own_ref ((p4.toUInt32 >>> ((1 : Int32) &&& 31).toUInt32).toInt32 % (5 : Int32)) (3 : Int32) (own_ix p1 (3 : Int32)) (own_ix p2 (3 : Int32)) (own_ix p3 (3 : Int32)))), (.int (own_nxt (own_L3 own_f3 (own_ix p1 (3 : Int32)) (own_ix p2 (3 : Int32)) (own_ix p3 (3 : Int32)) m1 m2 m3) (own_e3 own_f3 (1 : Int64) (own_ix p1 (3 : Int32)) (own_ix p2 (3 : Int32)) (own_ix p3 (3 : Int32)) m1 m2 m3) (3 : Int32) ((p4.toUInt32 >>> ((1 : Int32) &&& 31).toUInt32).toInt32 % (5 : Int32)) m4))]) rfl (k' := 5) rfl (n' := 9) rfl ?_
      refine H.icmpF s0_118 (own_main q3 rfl (by decide) (by decide) f1 f2 f3 f4 (by omega)) ?_
      refine H.iconst s0_121 (v := (1 : Int32)) (by decide) ?_
      refine H.goto s0_122 ?_
      refine H.istore s0_126 (ls' := #[.val (.int p0), .val (.int p1), .val (.int p2), .val (.int p3), .val (.int p4), .val (.int (0 : Int32)), .val (.int (3 : Int32)), .val (.int (3 : Int32)), .val (.int (own_ix p1 (3 : Int32))), .val (.int (own_ix p2 (3 : Int32))), .val (.int (own_ix p3 (3 : Int32))), .val (.int ((p4.toUInt32 >>> ((1 : Int32) &&& 31).toUInt32).toInt32 % (5 : Int32))), .val (.ref (n0 + 0)), .val (.int (1 : Int32))]) rfl ?_
      refine H.iload s0_128 rfl ?_
      refine H.ifF s0_130 (show ¬ (1 : Int32) = (0 : Int32) by decide) ?_
      refine H.aload s0_133 rfl rfl ?_
      refine H.iconst s0_135 (v := (0 : Int32)) (by decide) ?_
      refine H.callVD s0_136 (k_31 hw) (m_nxt l hw n0 (own_L3 own_f3 (own_ix p1 (3 : Int32)) (own_ix p2 (3 : Int32)) (own_ix p3 (3 : Int32)) m1 m2 m3) (own_e3 own_f3 (1 : Int64) (own_ix p1 (3 : Int32)) (own_ix p2 (3 : Int32)) (own_ix p3 (3 : Int32)) m1 m2 m3) (3 : Int32) (own_f3.map Value.long) [(.long (1 : Int64))] (0 : Int32) 0 (by decide : (0 : Int32).toInt = ((0 : Nat) : Int)) (own_len4 q3 (by decide)) (own_he q3) (own_hz q3)) (i := 0) rfl (argsL := [(.int (0 : Int32))]) (rest := []) rfl rfl rfl rfl (leb rfl) (leb rfl) (leb rfl) (leb rfl) (st' := [(.int (own_nxt (own_L3 own_f3 (own_ix p1 (3 : Int32)) (own_ix p2 (3 : Int32)) (own_ix p3 (3 : Int32)) m1 m2 m3) (own_e3 own_f3 (1 : Int64) (own_ix p1 (3 : Int32)) (own_ix p2 (3 : Int32)) (own_ix p3 (3 : Int32)) m1 m2 m3) (3 : Int32) (0 : Int32) 0))]) rfl (k' := 5) rfl (n' := 9) rfl ?_
      refine H.iconst s0_139 (v := (0 : Int32)) (by decide) ?_
      refine H.iload s0_140 rfl ?_
      refine H.iload s0_142 rfl ?_
      refine H.iload s0_144 rfl ?_
      refine H.iload s0_146 rfl ?_
      refine H.callSD s0_148 (k_32 hw) (m_ref l hw n0 _ (0 : Int32) (3 : Int32) (own_ix p1 (3 : Int32)) (own_ix p2 (3 : Int32)) (own_ix p3 (3 : Int32))) (argsL := [(.int (0 : Int32)), (.int (3 : Int32)), (.int (own_ix p1 (3 : Int32))), (.int (own_ix p2 (3 : Int32))), (.int (own_ix p3 (3 : Int32)))]) (rest := [(.int (own_nxt (own_L3 own_f3 (own_ix p1 (3 : Int32)) (own_ix p2 (3 : Int32)) (own_ix p3 (3 : Int32)) m1 m2 m3) (own_e3 own_f3 (1 : Int64) (own_ix p1 (3 : Int32)) (own_ix p2 (3 : Int32)) (own_ix p3 (3 : Int32)) m1 m2 m3) (3 : Int32) (0 : Int32) 0))]) rfl rfl rfl rfl (leb rfl) (leb rfl) (leb rfl) (leb rfl) (st' := [(.int (own_ref (0 : Int32) (3 : Int32) (own_ix p1 (3 : Int32)) (own_ix p2 (3 : Int32)) (own_ix p3 (3 : Int32)))), (.int (own_nxt (own_L3 own_f3 (own_ix p1 (3 : Int32)) (own_ix p2 (3 : Int32)) (own_ix p3 (3 : Int32)) m1 m2 m3) (own_e3 own_f3 (1 : Int64) (own_ix p1 (3 : Int32)) (own_ix p2 (3 : Int32)) (own_ix p3 (3 : Int32)) m1 m2 m3) (3 : Int32) (0 : Int32) 0))]) rfl (k' := 5) rfl (n' := 9) rfl ?_
      refine H.icmpF s0_151 (own_main q3 rfl (by decide) (by decide) f1 f2 f3 (by decide : (0 : Int32).toInt = ((0 : Nat) : Int)) (by omega)) ?_
      refine H.iconst s0_154 (v := (1 : Int32)) (by decide) ?_
      refine H.goto s0_155 ?_
      refine H.istore s0_159 (ls' := #[.val (.int p0), .val (.int p1), .val (.int p2), .val (.int p3), .val (.int p4), .val (.int (0 : Int32)), .val (.int (3 : Int32)), .val (.int (3 : Int32)), .val (.int (own_ix p1 (3 : Int32))), .val (.int (own_ix p2 (3 : Int32))), .val (.int (own_ix p3 (3 : Int32))), .val (.int ((p4.toUInt32 >>> ((1 : Int32) &&& 31).toUInt32).toInt32 % (5 : Int32))), .val (.ref (n0 + 0)), .val (.int (1 : Int32))]) rfl ?_
      refine H.iload s0_161 rfl ?_
      refine H.ifF s0_163 (show ¬ (1 : Int32) = (0 : Int32) by decide) ?_
      refine H.aload s0_166 rfl rfl ?_
      refine H.iload s0_168 rfl ?_
      refine H.callVD s0_170 (k_31 hw) (m_nxt l hw n0 (own_L3 own_f3 (own_ix p1 (3 : Int32)) (own_ix p2 (3 : Int32)) (own_ix p3 (3 : Int32)) m1 m2 m3) (own_e3 own_f3 (1 : Int64) (own_ix p1 (3 : Int32)) (own_ix p2 (3 : Int32)) (own_ix p3 (3 : Int32)) m1 m2 m3) (3 : Int32) (own_f3.map Value.long) [(.long (1 : Int64))] (own_ix p1 (3 : Int32)) m1 f1 (own_len4 q3 (by decide)) (own_he q3) (own_hz q3)) (i := 0) rfl (argsL := [(.int (own_ix p1 (3 : Int32)))]) (rest := []) rfl rfl rfl rfl (leb rfl) (leb rfl) (leb rfl) (leb rfl) (st' := [(.int (own_nxt (own_L3 own_f3 (own_ix p1 (3 : Int32)) (own_ix p2 (3 : Int32)) (own_ix p3 (3 : Int32)) m1 m2 m3) (own_e3 own_f3 (1 : Int64) (own_ix p1 (3 : Int32)) (own_ix p2 (3 : Int32)) (own_ix p3 (3 : Int32)) m1 m2 m3) (3 : Int32) (own_ix p1 (3 : Int32)) m1))]) rfl (k' := 5) rfl (n' := 9) rfl ?_
      refine H.iload s0_173 rfl ?_
      refine H.iload s0_175 rfl ?_
      refine H.iload s0_177 rfl ?_
      refine H.iload s0_179 rfl ?_
      refine H.iload s0_181 rfl ?_
      refine H.callSD s0_183 (k_32 hw) (m_ref l hw n0 _ (own_ix p1 (3 : Int32)) (3 : Int32) (own_ix p1 (3 : Int32)) (own_ix p2 (3 : Int32)) (own_ix p3 (3 : Int32))) (argsL := [(.int (own_ix p1 (3 : Int32))), (.int (3 : Int32)), (.int (own_ix p1 (3 : Int32))), (.int (own_ix p2 (3 : Int32))), (.int (own_ix p3 (3 : Int32)))]) (rest := [(.int (own_nxt (own_L3 own_f3 (own_ix p1 (3 : Int32)) (own_ix p2 (3 : Int32)) (own_ix p3 (3 : Int32)) m1 m2 m3) (own_e3 own_f3 (1 : Int64) (own_ix p1 (3 : Int32)) (own_ix p2 (3 : Int32)) (own_ix p3 (3 : Int32)) m1 m2 m3) (3 : Int32) (own_ix p1 (3 : Int32)) m1))]) rfl rfl rfl rfl (leb rfl) (leb rfl) (leb rfl) (leb rfl) (st' := [(.int (own_ref (own_ix p1 (3 : Int32)) (3 : Int32) (own_ix p1 (3 : Int32)) (own_ix p2 (3 : Int32)) (own_ix p3 (3 : Int32)))), (.int (own_nxt (own_L3 own_f3 (own_ix p1 (3 : Int32)) (own_ix p2 (3 : Int32)) (own_ix p3 (3 : Int32)) m1 m2 m3) (own_e3 own_f3 (1 : Int64) (own_ix p1 (3 : Int32)) (own_ix p2 (3 : Int32)) (own_ix p3 (3 : Int32)) m1 m2 m3) (3 : Int32) (own_ix p1 (3 : Int32)) m1))]) rfl (k' := 5) rfl (n' := 9) rfl ?_
      refine H.icmpF s0_186 (own_main q3 rfl (by decide) (by decide) f1 f2 f3 f1 (by omega)) ?_
      refine H.iconst s0_189 (v := (1 : Int32)) (by decide) ?_
      refine H.goto s0_190 ?_
      refine H.istore s0_194 (ls' := #[.val (.int p0), .val (.int p1), .val (.int p2), .val (.int p3), .val (.int p4), .val (.int (0 : Int32)), .val (.int (3 : Int32)), .val (.int (3 : Int32)), .val (.int (own_ix p1 (3 : Int32))), .val (.int (own_ix p2 (3 : Int32))), .val (.int (own_ix p3 (3 : Int32))), .val (.int ((p4.toUInt32 >>> ((1 : Int32) &&& 31).toUInt32).toInt32 % (5 : Int32))), .val (.ref (n0 + 0)), .val (.int (1 : Int32))]) rfl ?_
      refine H.iload s0_196 rfl ?_
      refine H.ifF s0_198 (show ¬ (1 : Int32) = (0 : Int32) by decide) ?_
      refine H.aload s0_201 rfl rfl ?_
      refine H.iload s0_203 rfl ?_
      refine H.callVD s0_205 (k_31 hw) (m_nxt l hw n0 (own_L3 own_f3 (own_ix p1 (3 : Int32)) (own_ix p2 (3 : Int32)) (own_ix p3 (3 : Int32)) m1 m2 m3) (own_e3 own_f3 (1 : Int64) (own_ix p1 (3 : Int32)) (own_ix p2 (3 : Int32)) (own_ix p3 (3 : Int32)) m1 m2 m3) (3 : Int32) (own_f3.map Value.long) [(.long (1 : Int64))] (own_ix p2 (3 : Int32)) m2 f2 (own_len4 q3 (by decide)) (own_he q3) (own_hz q3)) (i := 0) rfl (argsL := [(.int (own_ix p2 (3 : Int32)))]) (rest := []) rfl rfl rfl rfl (leb rfl) (leb rfl) (leb rfl) (leb rfl) (st' := [(.int (own_nxt (own_L3 own_f3 (own_ix p1 (3 : Int32)) (own_ix p2 (3 : Int32)) (own_ix p3 (3 : Int32)) m1 m2 m3) (own_e3 own_f3 (1 : Int64) (own_ix p1 (3 : Int32)) (own_ix p2 (3 : Int32)) (own_ix p3 (3 : Int32)) m1 m2 m3) (3 : Int32) (own_ix p2 (3 : Int32)) m2))]) rfl (k' := 5) rfl (n' := 9) rfl ?_
      refine H.iload s0_208 rfl ?_
      refine H.iload s0_210 rfl ?_
      refine H.iload s0_212 rfl ?_
      refine H.iload s0_214 rfl ?_
      refine H.iload s0_216 rfl ?_
      refine H.callSD s0_218 (k_32 hw) (m_ref l hw n0 _ (own_ix p2 (3 : Int32)) (3 : Int32) (own_ix p1 (3 : Int32)) (own_ix p2 (3 : Int32)) (own_ix p3 (3 : Int32))) (argsL := [(.int (own_ix p2 (3 : Int32))), (.int (3 : Int32)), (.int (own_ix p1 (3 : Int32))), (.int (own_ix p2 (3 : Int32))), (.int (own_ix p3 (3 : Int32)))]) (rest := [(.int (own_nxt (own_L3 own_f3 (own_ix p1 (3 : Int32)) (own_ix p2 (3 : Int32)) (own_ix p3 (3 : Int32)) m1 m2 m3) (own_e3 own_f3 (1 : Int64) (own_ix p1 (3 : Int32)) (own_ix p2 (3 : Int32)) (own_ix p3 (3 : Int32)) m1 m2 m3) (3 : Int32) (own_ix p2 (3 : Int32)) m2))]) rfl rfl rfl rfl (leb rfl) (leb rfl) (leb rfl) (leb rfl) (st' := [(.int (own_ref (own_ix p2 (3 : Int32)) (3 : Int32) (own_ix p1 (3 : Int32)) (own_ix p2 (3 : Int32)) (own_ix p3 (3 : Int32)))), (.int (own_nxt (own_L3 own_f3 (own_ix p1 (3 : Int32)) (own_ix p2 (3 : Int32)) (own_ix p3 (3 : Int32)) m1 m2 m3) (own_e3 own_f3 (1 : Int64) (own_ix p1 (3 : Int32)) (own_ix p2 (3 : Int32)) (own_ix p3 (3 : Int32)) m1 m2 m3) (3 : Int32) (own_ix p2 (3 : Int32)) m2))]) rfl (k' := 5) rfl (n' := 9) rfl ?_
      refine H.icmpF s0_221 (own_main q3 rfl (by decide) (by decide) f1 f2 f3 f2 (by omega)) ?_
      refine H.iconst s0_224 (v := (1 : Int32)) (by decide) ?_
      refine H.goto s0_225 ?_
      refine H.istore s0_229 (ls' := #[.val (.int p0), .val (.int p1), .val (.int p2), .val (.int p3), .val (.int p4), .val (.int (0 : Int32)), .val (.int (3 : Int32)), .val (.int (3 : Int32)), .val (.int (own_ix p1 (3 : Int32))), .val (.int (own_ix p2 (3 : Int32))), .val (.int (own_ix p3 (3 : Int32))), .val (.int ((p4.toUInt32 >>> ((1 : Int32) &&& 31).toUInt32).toInt32 % (5 : Int32))), .val (.ref (n0 + 0)), .val (.int (1 : Int32))]) rfl ?_
      refine H.iload s0_231 rfl ?_
      refine H.ifF s0_233 (show ¬ (1 : Int32) = (0 : Int32) by decide) ?_
      refine H.aload s0_236 rfl rfl ?_
      refine H.iload s0_238 rfl ?_
      refine H.callVD s0_240 (k_31 hw) (m_nxt l hw n0 (own_L3 own_f3 (own_ix p1 (3 : Int32)) (own_ix p2 (3 : Int32)) (own_ix p3 (3 : Int32)) m1 m2 m3) (own_e3 own_f3 (1 : Int64) (own_ix p1 (3 : Int32)) (own_ix p2 (3 : Int32)) (own_ix p3 (3 : Int32)) m1 m2 m3) (3 : Int32) (own_f3.map Value.long) [(.long (1 : Int64))] (own_ix p3 (3 : Int32)) m3 f3 (own_len4 q3 (by decide)) (own_he q3) (own_hz q3)) (i := 0) rfl (argsL := [(.int (own_ix p3 (3 : Int32)))]) (rest := []) rfl rfl rfl rfl (leb rfl) (leb rfl) (leb rfl) (leb rfl) (st' := [(.int (own_nxt (own_L3 own_f3 (own_ix p1 (3 : Int32)) (own_ix p2 (3 : Int32)) (own_ix p3 (3 : Int32)) m1 m2 m3) (own_e3 own_f3 (1 : Int64) (own_ix p1 (3 : Int32)) (own_ix p2 (3 : Int32)) (own_ix p3 (3 : Int32)) m1 m2 m3) (3 : Int32) (own_ix p3 (3 : Int32)) m3))]) rfl (k' := 5) rfl (n' := 9) rfl ?_
      refine H.iload s0_243 rfl ?_
      refine H.iload s0_245 rfl ?_
      refine H.iload s0_247 rfl ?_
      refine H.iload s0_249 rfl ?_
      refine H.iload s0_251 rfl ?_
      refine H.callSD s0_253 (k_32 hw) (m_ref l hw n0 _ (own_ix p3 (3 : Int32)) (3 : Int32) (own_ix p1 (3 : Int32)) (own_ix p2 (3 : Int32)) (own_ix p3 (3 : Int32))) (argsL := [(.int (own_ix p3 (3 : Int32))), (.int (3 : Int32)), (.int (own_ix p1 (3 : Int32))), (.int (own_ix p2 (3 : Int32))), (.int (own_ix p3 (3 : Int32)))]) (rest := [(.int (own_nxt (own_L3 own_f3 (own_ix p1 (3 : Int32)) (own_ix p2 (3 : Int32)) (own_ix p3 (3 : Int32)) m1 m2 m3) (own_e3 own_f3 (1 : Int64) (own_ix p1 (3 : Int32)) (own_ix p2 (3 : Int32)) (own_ix p3 (3 : Int32)) m1 m2 m3) (3 : Int32) (own_ix p3 (3 : Int32)) m3))]) rfl rfl rfl rfl (leb rfl) (leb rfl) (leb rfl) (leb rfl) (st' := [(.int (own_ref (own_ix p3 (3 : Int32)) (3 : Int32) (own_ix p1 (3 : Int32)) (own_ix p2 (3 : Int32)) (own_ix p3 (3 : Int32)))), (.int (own_nxt (own_L3 own_f3 (own_ix p1 (3 : Int32)) (own_ix p2 (3 : Int32)) (own_ix p3 (3 : Int32)) m1 m2 m3) (own_e3 own_f3 (1 : Int64) (own_ix p1 (3 : Int32)) (own_ix p2 (3 : Int32)) (own_ix p3 (3 : Int32)) m1 m2 m3) (3 : Int32) (own_ix p3 (3 : Int32)) m3))]) rfl (k' := 5) rfl (n' := 9) rfl ?_
      refine H.icmpF s0_256 (own_main q3 rfl (by decide) (by decide) f1 f2 f3 f3 (by omega)) ?_
      refine H.iconst s0_259 (v := (1 : Int32)) (by decide) ?_
      refine H.goto s0_260 ?_
      refine H.istore s0_264 (ls' := #[.val (.int p0), .val (.int p1), .val (.int p2), .val (.int p3), .val (.int p4), .val (.int (0 : Int32)), .val (.int (3 : Int32)), .val (.int (3 : Int32)), .val (.int (own_ix p1 (3 : Int32))), .val (.int (own_ix p2 (3 : Int32))), .val (.int (own_ix p3 (3 : Int32))), .val (.int ((p4.toUInt32 >>> ((1 : Int32) &&& 31).toUInt32).toInt32 % (5 : Int32))), .val (.ref (n0 + 0)), .val (.int (1 : Int32))]) rfl ?_
      refine H.iload s0_266 rfl ?_
      exact H.ireturn s0_268 rfl (by simp) rfl rfl (by decide) (by decide)
  · refine H.iand s0_2 (w := (1 : Int32)) hz2 ?_
    refine H.istore s0_3 (ls' := #[.val (.int p0), .val (.int p1), .val (.int p2), .val (.int p3), .val (.int p4), .val (.int (1 : Int32)), .unset, .unset, .unset, .unset, .unset, .unset, .unset, .unset]) rfl ?_
    refine H.iloadN s0_5 rfl ?_
    refine H.iconst s0_6 (v := (2 : Int32)) (by decide) ?_
    refine H.iushr s0_7 rfl ?_
    refine H.iconst s0_8 (v := (3 : Int32)) (by decide) ?_
    rcases own_and3 ((p0.toUInt32 >>> ((2 : Int32) &&& 31).toUInt32).toInt32) with hz9 | hz9 | hz9 | hz9
    · refine H.iand s0_9 (w := (0 : Int32)) hz9 ?_
      refine H.istore s0_10 (ls' := #[.val (.int p0), .val (.int p1), .val (.int p2), .val (.int p3), .val (.int p4), .val (.int (1 : Int32)), .val (.int (0 : Int32)), .unset, .unset, .unset, .unset, .unset, .unset, .unset]) rfl ?_
      refine H.iconst s0_12 (v := (1 : Int32)) (by decide) ?_
      refine H.iload s0_13 rfl ?_
      refine H.bipush s0_15 (v := (6 : Int32)) (by decide) ?_
      refine H.ishl s0_17 (w := (64 : Int32)) (by decide) ?_
      refine H.iload s0_18 rfl ?_
      refine H.iadd s0_20 (w := (64 : Int32)) (by decide) ?_
      refine H.callSD s0_21 (k_13 hw) (a_28 l hw n0) (argsL := [(.int (1 : Int32)), (.int (64 : Int32))]) (rest := []) rfl rfl rfl rfl (leb rfl) (leb rfl) (leb rfl) (leb rfl) (st' := [(.int (64 : Int32))]) rfl (k' := 0) rfl (n' := 0) rfl ?_
      refine H.istore s0_24 (ls' := #[.val (.int p0), .val (.int p1), .val (.int p2), .val (.int p3), .val (.int p4), .val (.int (1 : Int32)), .val (.int (0 : Int32)), .val (.int (64 : Int32)), .unset, .unset, .unset, .unset, .unset, .unset]) rfl ?_
      refine H.iloadN s0_26 rfl ?_
      refine H.iload s0_27 rfl ?_
      refine H.callSD s0_29 (k_14 hw) (m_ix l hw n0 _ p1 (64 : Int32) (by decide)) (argsL := [(.int p1), (.int (64 : Int32))]) (rest := []) rfl rfl rfl rfl (leb rfl) (leb rfl) (leb rfl) (leb rfl) (st' := [(.int (own_ix p1 (64 : Int32)))]) rfl (k' := 0) rfl (n' := 0) rfl ?_
      refine H.istore s0_32 (ls' := #[.val (.int p0), .val (.int p1), .val (.int p2), .val (.int p3), .val (.int p4), .val (.int (1 : Int32)), .val (.int (0 : Int32)), .val (.int (64 : Int32)), .val (.int (own_ix p1 (64 : Int32))), .unset, .unset, .unset, .unset, .unset]) rfl ?_
      refine H.iloadN s0_34 rfl ?_
      refine H.iload s0_35 rfl ?_
      refine H.callSD s0_37 (k_14 hw) (m_ix l hw n0 _ p2 (64 : Int32) (by decide)) (argsL := [(.int p2), (.int (64 : Int32))]) (rest := []) rfl rfl rfl rfl (leb rfl) (leb rfl) (leb rfl) (leb rfl) (st' := [(.int (own_ix p2 (64 : Int32)))]) rfl (k' := 0) rfl (n' := 0) rfl ?_
      refine H.istore s0_40 (ls' := #[.val (.int p0), .val (.int p1), .val (.int p2), .val (.int p3), .val (.int p4), .val (.int (1 : Int32)), .val (.int (0 : Int32)), .val (.int (64 : Int32)), .val (.int (own_ix p1 (64 : Int32))), .val (.int (own_ix p2 (64 : Int32))), .unset, .unset, .unset, .unset]) rfl ?_
      refine H.iloadN s0_42 rfl ?_
      refine H.iload s0_43 rfl ?_
      refine H.callSD s0_45 (k_14 hw) (m_ix l hw n0 _ p3 (64 : Int32) (by decide)) (argsL := [(.int p3), (.int (64 : Int32))]) (rest := []) rfl rfl rfl rfl (leb rfl) (leb rfl) (leb rfl) (leb rfl) (st' := [(.int (own_ix p3 (64 : Int32)))]) rfl (k' := 0) rfl (n' := 0) rfl ?_
      refine H.istore s0_48 (ls' := #[.val (.int p0), .val (.int p1), .val (.int p2), .val (.int p3), .val (.int p4), .val (.int (1 : Int32)), .val (.int (0 : Int32)), .val (.int (64 : Int32)), .val (.int (own_ix p1 (64 : Int32))), .val (.int (own_ix p2 (64 : Int32))), .val (.int (own_ix p3 (64 : Int32))), .unset, .unset, .unset]) rfl ?_
      refine H.iload s0_50 rfl ?_
      refine H.iconst s0_52 (v := (1 : Int32)) (by decide) ?_
      refine H.iushr s0_53 rfl ?_
      refine H.iload s0_54 rfl ?_
      refine H.iconst s0_56 (v := (2 : Int32)) (by decide) ?_
      refine H.iadd s0_57 (w := (66 : Int32)) (by decide) ?_
      refine H.irem s0_58 (by decide) (w := ((p4.toUInt32 >>> ((1 : Int32) &&& 31).toUInt32).toInt32 % (66 : Int32))) rfl ?_
      refine H.istore s0_59 (ls' := #[.val (.int p0), .val (.int p1), .val (.int p2), .val (.int p3), .val (.int p4), .val (.int (1 : Int32)), .val (.int (0 : Int32)), .val (.int (64 : Int32)), .val (.int (own_ix p1 (64 : Int32))), .val (.int (own_ix p2 (64 : Int32))), .val (.int (own_ix p3 (64 : Int32))), .val (.int ((p4.toUInt32 >>> ((1 : Int32) &&& 31).toUInt32).toInt32 % (66 : Int32))), .unset, .unset]) rfl ?_
      refine H.new s0_61 (k_15 hw) rfl (by decide) (by decide) (i := 0) rfl (A' := [.inl (0, [(.int (0 : Int32)), .null, .null, .null, .null])]) rfl (k' := 1) rfl (n' := 5) rfl ?_
      refine H.dup s0_64 rfl ?_
      refine H.iload s0_65 rfl ?_
      refine H.callCD s0_67 (k_25 hw) (a_29 l hw n0) (argsL := [(.int (64 : Int32))]) (rest := [(.ref (n0 + 0))]) rfl rfl rfl rfl (leb rfl) (leb rfl) (leb rfl) (leb rfl) (st' := [(.ref (n0 + 0))]) rfl (k' := 5) rfl (n' := 9) rfl ?_
      refine H.astore s0_70 rfl (ls' := #[.val (.int p0), .val (.int p1), .val (.int p2), .val (.int p3), .val (.int p4), .val (.int (1 : Int32)), .val (.int (0 : Int32)), .val (.int (64 : Int32)), .val (.int (own_ix p1 (64 : Int32))), .val (.int (own_ix p2 (64 : Int32))), .val (.int (own_ix p3 (64 : Int32))), .val (.int ((p4.toUInt32 >>> ((1 : Int32) &&& 31).toUInt32).toInt32 % (66 : Int32))), .val (.ref (n0 + 0)), .unset]) rfl ?_
      refine H.aload s0_72 rfl rfl ?_
      refine H.callVD s0_74 (k_29 hw) (a_36 l hw n0) (i := 0) rfl (argsL := []) (rest := []) rfl rfl rfl rfl (leb rfl) (leb rfl) (leb rfl) (leb rfl) (st' := []) rfl (k' := 5) rfl (n' := 9) rfl ?_
      refine H.aload s0_77 rfl rfl ?_
      refine H.iload s0_79 rfl ?_
      obtain ⟨m1, f1, g1⟩ := own_ix_r p1 (64 : Int32) 64 (by decide) (by decide) (by decide)
      obtain ⟨m2, f2, g2⟩ := own_ix_r p2 (64 : Int32) 64 (by decide) (by decide) (by decide)
      obtain ⟨m3, f3, g3⟩ := own_ix_r p3 (64 : Int32) 64 (by decide) (by decide) (by decide)
      obtain ⟨m4, f4, g4⟩ := own_fr_r p4 (66 : Int32) 66 (by decide) (by decide)
      have q0 := inv_64
      obtain ⟨q1, q2, q3⟩ := own_inv3 q0 (by decide) (by decide) f1 f2 f3 g1 g2 g3
      refine H.callVD s0_81 (k_30 hw) (m_rem l hw n0 own_f64 (1 : Int64) (64 : Int32) (own_f64.map Value.long) [(.long (1 : Int64))] (own_ix p1 (64 : Int32)) m1 f1 (own_len q0 (by omega)) (own_len4 q0 (by decide))) (i := 0) rfl (argsL := [(.int (own_ix p1 (64 : Int32)))]) (rest := []) rfl rfl rfl rfl (leb rfl) (leb rfl) (leb rfl) (leb rfl) (st' := []) rfl (k' := 5) rfl (n' := 9) rfl ?_
      refine H.aload s0_84 rfl rfl ?_
      refine H.iload s0_86 rfl ?_
      refine H.callVD s0_88 (k_30 hw) (m_rem l hw n0 (own_Lr own_f64 (own_ix p1 (64 : Int32)) m1) (own_e own_f64 (1 : Int64) (own_ix p1 (64 : Int32)) m1) (64 : Int32) (own_f64.map Value.long) [(.long (1 : Int64))] (own_ix p2 (64 : Int32)) m2 f2 (own_len q1 (by omega)) (own_len4 q1 (by decide))) (i := 0) rfl (argsL := [(.int (own_ix p2 (64 : Int32)))]) (rest := []) rfl rfl rfl rfl (leb rfl) (leb rfl) (leb rfl) (leb rfl) (st' := []) rfl (k' := 5) rfl (n' := 9) rfl ?_
      refine H.aload s0_91 rfl rfl ?_
      refine H.iload s0_93 rfl ?_
      refine H.callVD s0_95 (k_30 hw) (m_rem l hw n0 (own_L2 own_f64 (own_ix p1 (64 : Int32)) (own_ix p2 (64 : Int32)) m1 m2) (own_e2 own_f64 (1 : Int64) (own_ix p1 (64 : Int32)) (own_ix p2 (64 : Int32)) m1 m2) (64 : Int32) (own_f64.map Value.long) [(.long (1 : Int64))] (own_ix p3 (64 : Int32)) m3 f3 (own_len q2 (by omega)) (own_len4 q2 (by decide))) (i := 0) rfl (argsL := [(.int (own_ix p3 (64 : Int32)))]) (rest := []) rfl rfl rfl rfl (leb rfl) (leb rfl) (leb rfl) (leb rfl) (st' := []) rfl (k' := 5) rfl (n' := 9) rfl ?_
      refine H.aload s0_98 rfl rfl ?_
      refine H.iload s0_100 rfl ?_
      refine H.callVD s0_102 (k_31 hw) (m_nxt l hw n0 (own_L3 own_f64 (own_ix p1 (64 : Int32)) (own_ix p2 (64 : Int32)) (own_ix p3 (64 : Int32)) m1 m2 m3) (own_e3 own_f64 (1 : Int64) (own_ix p1 (64 : Int32)) (own_ix p2 (64 : Int32)) (own_ix p3 (64 : Int32)) m1 m2 m3) (64 : Int32) (own_f64.map Value.long) [(.long (1 : Int64))] ((p4.toUInt32 >>> ((1 : Int32) &&& 31).toUInt32).toInt32 % (66 : Int32)) m4 f4 (own_len4 q3 (by decide)) (own_he q3) (own_hz q3)) (i := 0) rfl (argsL := [(.int ((p4.toUInt32 >>> ((1 : Int32) &&& 31).toUInt32).toInt32 % (66 : Int32)))]) (rest := []) rfl rfl rfl rfl (leb rfl) (leb rfl) (leb rfl) (leb rfl) (st' := [(.int (own_nxt (own_L3 own_f64 (own_ix p1 (64 : Int32)) (own_ix p2 (64 : Int32)) (own_ix p3 (64 : Int32)) m1 m2 m3) (own_e3 own_f64 (1 : Int64) (own_ix p1 (64 : Int32)) (own_ix p2 (64 : Int32)) (own_ix p3 (64 : Int32)) m1 m2 m3) (64 : Int32) ((p4.toUInt32 >>> ((1 : Int32) &&& 31).toUInt32).toInt32 % (66 : Int32)) m4))]) rfl (k' := 5) rfl (n' := 9) rfl ?_
      refine H.iload s0_105 rfl ?_
      refine H.iload s0_107 rfl ?_
      refine H.iload s0_109 rfl ?_
      refine H.iload s0_111 rfl ?_
      refine H.iload s0_113 rfl ?_
      refine H.callSD s0_115 (k_32 hw) (m_ref l hw n0 _ ((p4.toUInt32 >>> ((1 : Int32) &&& 31).toUInt32).toInt32 % (66 : Int32)) (64 : Int32) (own_ix p1 (64 : Int32)) (own_ix p2 (64 : Int32)) (own_ix p3 (64 : Int32))) (argsL := [(.int ((p4.toUInt32 >>> ((1 : Int32) &&& 31).toUInt32).toInt32 % (66 : Int32))), (.int (64 : Int32)), (.int (own_ix p1 (64 : Int32))), (.int (own_ix p2 (64 : Int32))), (.int (own_ix p3 (64 : Int32)))]) (rest := [(.int (own_nxt (own_L3 own_f64 (own_ix p1 (64 : Int32)) (own_ix p2 (64 : Int32)) (own_ix p3 (64 : Int32)) m1 m2 m3) (own_e3 own_f64 (1 : Int64) (own_ix p1 (64 : Int32)) (own_ix p2 (64 : Int32)) (own_ix p3 (64 : Int32)) m1 m2 m3) (64 : Int32) ((p4.toUInt32 >>> ((1 : Int32) &&& 31).toUInt32).toInt32 % (66 : Int32)) m4))]) rfl rfl rfl rfl (leb rfl) (leb rfl) (leb rfl) (leb rfl) (st' := [(.int (own_ref ((p4.toUInt32 >>> ((1 : Int32) &&& 31).toUInt32).toInt32 % (66 : Int32)) (64 : Int32) (own_ix p1 (64 : Int32)) (own_ix p2 (64 : Int32)) (own_ix p3 (64 : Int32)))), (.int (own_nxt (own_L3 own_f64 (own_ix p1 (64 : Int32)) (own_ix p2 (64 : Int32)) (own_ix p3 (64 : Int32)) m1 m2 m3) (own_e3 own_f64 (1 : Int64) (own_ix p1 (64 : Int32)) (own_ix p2 (64 : Int32)) (own_ix p3 (64 : Int32)) m1 m2 m3) (64 : Int32) ((p4.toUInt32 >>> ((1 : Int32) &&& 31).toUInt32).toInt32 % (66 : Int32)) m4))]) rfl (k' := 5) rfl (n' := 9) rfl ?_
      refine H.icmpF s0_118 (own_main q3 rfl (by decide) (by decide) f1 f2 f3 f4 (by omega)) ?_
      refine H.iconst s0_121 (v := (1 : Int32)) (by decide) ?_
      refine H.goto s0_122 ?_
      refine H.istore s0_126 (ls' := #[.val (.int p0), .val (.int p1), .val (.int p2), .val (.int p3), .val (.int p4), .val (.int (1 : Int32)), .val (.int (0 : Int32)), .val (.int (64 : Int32)), .val (.int (own_ix p1 (64 : Int32))), .val (.int (own_ix p2 (64 : Int32))), .val (.int (own_ix p3 (64 : Int32))), .val (.int ((p4.toUInt32 >>> ((1 : Int32) &&& 31).toUInt32).toInt32 % (66 : Int32))), .val (.ref (n0 + 0)), .val (.int (1 : Int32))]) rfl ?_
      refine H.iload s0_128 rfl ?_
      refine H.ifF s0_130 (show ¬ (1 : Int32) = (0 : Int32) by decide) ?_
      refine H.aload s0_133 rfl rfl ?_
      refine H.iconst s0_135 (v := (0 : Int32)) (by decide) ?_
      refine H.callVD s0_136 (k_31 hw) (m_nxt l hw n0 (own_L3 own_f64 (own_ix p1 (64 : Int32)) (own_ix p2 (64 : Int32)) (own_ix p3 (64 : Int32)) m1 m2 m3) (own_e3 own_f64 (1 : Int64) (own_ix p1 (64 : Int32)) (own_ix p2 (64 : Int32)) (own_ix p3 (64 : Int32)) m1 m2 m3) (64 : Int32) (own_f64.map Value.long) [(.long (1 : Int64))] (0 : Int32) 0 (by decide : (0 : Int32).toInt = ((0 : Nat) : Int)) (own_len4 q3 (by decide)) (own_he q3) (own_hz q3)) (i := 0) rfl (argsL := [(.int (0 : Int32))]) (rest := []) rfl rfl rfl rfl (leb rfl) (leb rfl) (leb rfl) (leb rfl) (st' := [(.int (own_nxt (own_L3 own_f64 (own_ix p1 (64 : Int32)) (own_ix p2 (64 : Int32)) (own_ix p3 (64 : Int32)) m1 m2 m3) (own_e3 own_f64 (1 : Int64) (own_ix p1 (64 : Int32)) (own_ix p2 (64 : Int32)) (own_ix p3 (64 : Int32)) m1 m2 m3) (64 : Int32) (0 : Int32) 0))]) rfl (k' := 5) rfl (n' := 9) rfl ?_
      refine H.iconst s0_139 (v := (0 : Int32)) (by decide) ?_
      refine H.iload s0_140 rfl ?_
      refine H.iload s0_142 rfl ?_
      refine H.iload s0_144 rfl ?_
      refine H.iload s0_146 rfl ?_
      refine H.callSD s0_148 (k_32 hw) (m_ref l hw n0 _ (0 : Int32) (64 : Int32) (own_ix p1 (64 : Int32)) (own_ix p2 (64 : Int32)) (own_ix p3 (64 : Int32))) (argsL := [(.int (0 : Int32)), (.int (64 : Int32)), (.int (own_ix p1 (64 : Int32))), (.int (own_ix p2 (64 : Int32))), (.int (own_ix p3 (64 : Int32)))]) (rest := [(.int (own_nxt (own_L3 own_f64 (own_ix p1 (64 : Int32)) (own_ix p2 (64 : Int32)) (own_ix p3 (64 : Int32)) m1 m2 m3) (own_e3 own_f64 (1 : Int64) (own_ix p1 (64 : Int32)) (own_ix p2 (64 : Int32)) (own_ix p3 (64 : Int32)) m1 m2 m3) (64 : Int32) (0 : Int32) 0))]) rfl rfl rfl rfl (leb rfl) (leb rfl) (leb rfl) (leb rfl) (st' := [(.int (own_ref (0 : Int32) (64 : Int32) (own_ix p1 (64 : Int32)) (own_ix p2 (64 : Int32)) (own_ix p3 (64 : Int32)))), (.int (own_nxt (own_L3 own_f64 (own_ix p1 (64 : Int32)) (own_ix p2 (64 : Int32)) (own_ix p3 (64 : Int32)) m1 m2 m3) (own_e3 own_f64 (1 : Int64) (own_ix p1 (64 : Int32)) (own_ix p2 (64 : Int32)) (own_ix p3 (64 : Int32)) m1 m2 m3) (64 : Int32) (0 : Int32) 0))]) rfl (k' := 5) rfl (n' := 9) rfl ?_
      refine H.icmpF s0_151 (own_main q3 rfl (by decide) (by decide) f1 f2 f3 (by decide : (0 : Int32).toInt = ((0 : Nat) : Int)) (by omega)) ?_
      refine H.iconst s0_154 (v := (1 : Int32)) (by decide) ?_
      refine H.goto s0_155 ?_
      refine H.istore s0_159 (ls' := #[.val (.int p0), .val (.int p1), .val (.int p2), .val (.int p3), .val (.int p4), .val (.int (1 : Int32)), .val (.int (0 : Int32)), .val (.int (64 : Int32)), .val (.int (own_ix p1 (64 : Int32))), .val (.int (own_ix p2 (64 : Int32))), .val (.int (own_ix p3 (64 : Int32))), .val (.int ((p4.toUInt32 >>> ((1 : Int32) &&& 31).toUInt32).toInt32 % (66 : Int32))), .val (.ref (n0 + 0)), .val (.int (1 : Int32))]) rfl ?_
      refine H.iload s0_161 rfl ?_
      refine H.ifF s0_163 (show ¬ (1 : Int32) = (0 : Int32) by decide) ?_
      refine H.aload s0_166 rfl rfl ?_
      refine H.iload s0_168 rfl ?_
      refine H.callVD s0_170 (k_31 hw) (m_nxt l hw n0 (own_L3 own_f64 (own_ix p1 (64 : Int32)) (own_ix p2 (64 : Int32)) (own_ix p3 (64 : Int32)) m1 m2 m3) (own_e3 own_f64 (1 : Int64) (own_ix p1 (64 : Int32)) (own_ix p2 (64 : Int32)) (own_ix p3 (64 : Int32)) m1 m2 m3) (64 : Int32) (own_f64.map Value.long) [(.long (1 : Int64))] (own_ix p1 (64 : Int32)) m1 f1 (own_len4 q3 (by decide)) (own_he q3) (own_hz q3)) (i := 0) rfl (argsL := [(.int (own_ix p1 (64 : Int32)))]) (rest := []) rfl rfl rfl rfl (leb rfl) (leb rfl) (leb rfl) (leb rfl) (st' := [(.int (own_nxt (own_L3 own_f64 (own_ix p1 (64 : Int32)) (own_ix p2 (64 : Int32)) (own_ix p3 (64 : Int32)) m1 m2 m3) (own_e3 own_f64 (1 : Int64) (own_ix p1 (64 : Int32)) (own_ix p2 (64 : Int32)) (own_ix p3 (64 : Int32)) m1 m2 m3) (64 : Int32) (own_ix p1 (64 : Int32)) m1))]) rfl (k' := 5) rfl (n' := 9) rfl ?_
      refine H.iload s0_173 rfl ?_
      refine H.iload s0_175 rfl ?_
      refine H.iload s0_177 rfl ?_
      refine H.iload s0_179 rfl ?_
      refine H.iload s0_181 rfl ?_
      refine H.callSD s0_183 (k_32 hw) (m_ref l hw n0 _ (own_ix p1 (64 : Int32)) (64 : Int32) (own_ix p1 (64 : Int32)) (own_ix p2 (64 : Int32)) (own_ix p3 (64 : Int32))) (argsL := [(.int (own_ix p1 (64 : Int32))), (.int (64 : Int32)), (.int (own_ix p1 (64 : Int32))), (.int (own_ix p2 (64 : Int32))), (.int (own_ix p3 (64 : Int32)))]) (rest := [(.int (own_nxt (own_L3 own_f64 (own_ix p1 (64 : Int32)) (own_ix p2 (64 : Int32)) (own_ix p3 (64 : Int32)) m1 m2 m3) (own_e3 own_f64 (1 : Int64) (own_ix p1 (64 : Int32)) (own_ix p2 (64 : Int32)) (own_ix p3 (64 : Int32)) m1 m2 m3) (64 : Int32) (own_ix p1 (64 : Int32)) m1))]) rfl rfl rfl rfl (leb rfl) (leb rfl) (leb rfl) (leb rfl) (st' := [(.int (own_ref (own_ix p1 (64 : Int32)) (64 : Int32) (own_ix p1 (64 : Int32)) (own_ix p2 (64 : Int32)) (own_ix p3 (64 : Int32)))), (.int (own_nxt (own_L3 own_f64 (own_ix p1 (64 : Int32)) (own_ix p2 (64 : Int32)) (own_ix p3 (64 : Int32)) m1 m2 m3) (own_e3 own_f64 (1 : Int64) (own_ix p1 (64 : Int32)) (own_ix p2 (64 : Int32)) (own_ix p3 (64 : Int32)) m1 m2 m3) (64 : Int32) (own_ix p1 (64 : Int32)) m1))]) rfl (k' := 5) rfl (n' := 9) rfl ?_
      refine H.icmpF s0_186 (own_main q3 rfl (by decide) (by decide) f1 f2 f3 f1 (by omega)) ?_
      refine H.iconst s0_189 (v := (1 : Int32)) (by decide) ?_
      refine H.goto s0_190 ?_
      refine H.istore s0_194 (ls' := #[.val (.int p0), .val (.int p1), .val (.int p2), .val (.int p3), .val (.int p4), .val (.int (1 : Int32)), .val (.int (0 : Int32)), .val (.int (64 : Int32)), .val (.int (own_ix p1 (64 : Int32))), .val (.int (own_ix p2 (64 : Int32))), .val (.int (own_ix p3 (64 : Int32))), .val (.int ((p4.toUInt32 >>> ((1 : Int32) &&& 31).toUInt32).toInt32 % (66 : Int32))), .val (.ref (n0 + 0)), .val (.int (1 : Int32))]) rfl ?_
      refine H.iload s0_196 rfl ?_
      refine H.ifF s0_198 (show ¬ (1 : Int32) = (0 : Int32) by decide) ?_
      refine H.aload s0_201 rfl rfl ?_
      refine H.iload s0_203 rfl ?_
      refine H.callVD s0_205 (k_31 hw) (m_nxt l hw n0 (own_L3 own_f64 (own_ix p1 (64 : Int32)) (own_ix p2 (64 : Int32)) (own_ix p3 (64 : Int32)) m1 m2 m3) (own_e3 own_f64 (1 : Int64) (own_ix p1 (64 : Int32)) (own_ix p2 (64 : Int32)) (own_ix p3 (64 : Int32)) m1 m2 m3) (64 : Int32) (own_f64.map Value.long) [(.long (1 : Int64))] (own_ix p2 (64 : Int32)) m2 f2 (own_len4 q3 (by decide)) (own_he q3) (own_hz q3)) (i := 0) rfl (argsL := [(.int (own_ix p2 (64 : Int32)))]) (rest := []) rfl rfl rfl rfl (leb rfl) (leb rfl) (leb rfl) (leb rfl) (st' := [(.int (own_nxt (own_L3 own_f64 (own_ix p1 (64 : Int32)) (own_ix p2 (64 : Int32)) (own_ix p3 (64 : Int32)) m1 m2 m3) (own_e3 own_f64 (1 : Int64) (own_ix p1 (64 : Int32)) (own_ix p2 (64 : Int32)) (own_ix p3 (64 : Int32)) m1 m2 m3) (64 : Int32) (own_ix p2 (64 : Int32)) m2))]) rfl (k' := 5) rfl (n' := 9) rfl ?_
      refine H.iload s0_208 rfl ?_
      refine H.iload s0_210 rfl ?_
      refine H.iload s0_212 rfl ?_
      refine H.iload s0_214 rfl ?_
      refine H.iload s0_216 rfl ?_
      refine H.callSD s0_218 (k_32 hw) (m_ref l hw n0 _ (own_ix p2 (64 : Int32)) (64 : Int32) (own_ix p1 (64 : Int32)) (own_ix p2 (64 : Int32)) (own_ix p3 (64 : Int32))) (argsL := [(.int (own_ix p2 (64 : Int32))), (.int (64 : Int32)), (.int (own_ix p1 (64 : Int32))), (.int (own_ix p2 (64 : Int32))), (.int (own_ix p3 (64 : Int32)))]) (rest := [(.int (own_nxt (own_L3 own_f64 (own_ix p1 (64 : Int32)) (own_ix p2 (64 : Int32)) (own_ix p3 (64 : Int32)) m1 m2 m3) (own_e3 own_f64 (1 : Int64) (own_ix p1 (64 : Int32)) (own_ix p2 (64 : Int32)) (own_ix p3 (64 : Int32)) m1 m2 m3) (64 : Int32) (own_ix p2 (64 : Int32)) m2))]) rfl rfl rfl rfl (leb rfl) (leb rfl) (leb rfl) (leb rfl) (st' := [(.int (own_ref (own_ix p2 (64 : Int32)) (64 : Int32) (own_ix p1 (64 : Int32)) (own_ix p2 (64 : Int32)) (own_ix p3 (64 : Int32)))), (.int (own_nxt (own_L3 own_f64 (own_ix p1 (64 : Int32)) (own_ix p2 (64 : Int32)) (own_ix p3 (64 : Int32)) m1 m2 m3) (own_e3 own_f64 (1 : Int64) (own_ix p1 (64 : Int32)) (own_ix p2 (64 : Int32)) (own_ix p3 (64 : Int32)) m1 m2 m3) (64 : Int32) (own_ix p2 (64 : Int32)) m2))]) rfl (k' := 5) rfl (n' := 9) rfl ?_
      refine H.icmpF s0_221 (own_main q3 rfl (by decide) (by decide) f1 f2 f3 f2 (by omega)) ?_
      refine H.iconst s0_224 (v := (1 : Int32)) (by decide) ?_
      refine H.goto s0_225 ?_
      refine H.istore s0_229 (ls' := #[.val (.int p0), .val (.int p1), .val (.int p2), .val (.int p3), .val (.int p4), .val (.int (1 : Int32)), .val (.int (0 : Int32)), .val (.int (64 : Int32)), .val (.int (own_ix p1 (64 : Int32))), .val (.int (own_ix p2 (64 : Int32))), .val (.int (own_ix p3 (64 : Int32))), .val (.int ((p4.toUInt32 >>> ((1 : Int32) &&& 31).toUInt32).toInt32 % (66 : Int32))), .val (.ref (n0 + 0)), .val (.int (1 : Int32))]) rfl ?_
      refine H.iload s0_231 rfl ?_
      refine H.ifF s0_233 (show ¬ (1 : Int32) = (0 : Int32) by decide) ?_
      refine H.aload s0_236 rfl rfl ?_
      refine H.iload s0_238 rfl ?_
      refine H.callVD s0_240 (k_31 hw) (m_nxt l hw n0 (own_L3 own_f64 (own_ix p1 (64 : Int32)) (own_ix p2 (64 : Int32)) (own_ix p3 (64 : Int32)) m1 m2 m3) (own_e3 own_f64 (1 : Int64) (own_ix p1 (64 : Int32)) (own_ix p2 (64 : Int32)) (own_ix p3 (64 : Int32)) m1 m2 m3) (64 : Int32) (own_f64.map Value.long) [(.long (1 : Int64))] (own_ix p3 (64 : Int32)) m3 f3 (own_len4 q3 (by decide)) (own_he q3) (own_hz q3)) (i := 0) rfl (argsL := [(.int (own_ix p3 (64 : Int32)))]) (rest := []) rfl rfl rfl rfl (leb rfl) (leb rfl) (leb rfl) (leb rfl) (st' := [(.int (own_nxt (own_L3 own_f64 (own_ix p1 (64 : Int32)) (own_ix p2 (64 : Int32)) (own_ix p3 (64 : Int32)) m1 m2 m3) (own_e3 own_f64 (1 : Int64) (own_ix p1 (64 : Int32)) (own_ix p2 (64 : Int32)) (own_ix p3 (64 : Int32)) m1 m2 m3) (64 : Int32) (own_ix p3 (64 : Int32)) m3))]) rfl (k' := 5) rfl (n' := 9) rfl ?_
      refine H.iload s0_243 rfl ?_
      refine H.iload s0_245 rfl ?_
      refine H.iload s0_247 rfl ?_
      refine H.iload s0_249 rfl ?_
      refine H.iload s0_251 rfl ?_
      refine H.callSD s0_253 (k_32 hw) (m_ref l hw n0 _ (own_ix p3 (64 : Int32)) (64 : Int32) (own_ix p1 (64 : Int32)) (own_ix p2 (64 : Int32)) (own_ix p3 (64 : Int32))) (argsL := [(.int (own_ix p3 (64 : Int32))), (.int (64 : Int32)), (.int (own_ix p1 (64 : Int32))), (.int (own_ix p2 (64 : Int32))), (.int (own_ix p3 (64 : Int32)))]) (rest := [(.int (own_nxt (own_L3 own_f64 (own_ix p1 (64 : Int32)) (own_ix p2 (64 : Int32)) (own_ix p3 (64 : Int32)) m1 m2 m3) (own_e3 own_f64 (1 : Int64) (own_ix p1 (64 : Int32)) (own_ix p2 (64 : Int32)) (own_ix p3 (64 : Int32)) m1 m2 m3) (64 : Int32) (own_ix p3 (64 : Int32)) m3))]) rfl rfl rfl rfl (leb rfl) (leb rfl) (leb rfl) (leb rfl) (st' := [(.int (own_ref (own_ix p3 (64 : Int32)) (64 : Int32) (own_ix p1 (64 : Int32)) (own_ix p2 (64 : Int32)) (own_ix p3 (64 : Int32)))), (.int (own_nxt (own_L3 own_f64 (own_ix p1 (64 : Int32)) (own_ix p2 (64 : Int32)) (own_ix p3 (64 : Int32)) m1 m2 m3) (own_e3 own_f64 (1 : Int64) (own_ix p1 (64 : Int32)) (own_ix p2 (64 : Int32)) (own_ix p3 (64 : Int32)) m1 m2 m3) (64 : Int32) (own_ix p3 (64 : Int32)) m3))]) rfl (k' := 5) rfl (n' := 9) rfl ?_
      refine H.icmpF s0_256 (own_main q3 rfl (by decide) (by decide) f1 f2 f3 f3 (by omega)) ?_
      refine H.iconst s0_259 (v := (1 : Int32)) (by decide) ?_
      refine H.goto s0_260 ?_
      refine H.istore s0_264 (ls' := #[.val (.int p0), .val (.int p1), .val (.int p2), .val (.int p3), .val (.int p4), .val (.int (1 : Int32)), .val (.int (0 : Int32)), .val (.int (64 : Int32)), .val (.int (own_ix p1 (64 : Int32))), .val (.int (own_ix p2 (64 : Int32))), .val (.int (own_ix p3 (64 : Int32))), .val (.int ((p4.toUInt32 >>> ((1 : Int32) &&& 31).toUInt32).toInt32 % (66 : Int32))), .val (.ref (n0 + 0)), .val (.int (1 : Int32))]) rfl ?_
      refine H.iload s0_266 rfl ?_
      exact H.ireturn s0_268 rfl (by simp) rfl rfl (by decide) (by decide)
    · refine H.iand s0_9 (w := (1 : Int32)) hz9 ?_
      refine H.istore s0_10 (ls' := #[.val (.int p0), .val (.int p1), .val (.int p2), .val (.int p3), .val (.int p4), .val (.int (1 : Int32)), .val (.int (1 : Int32)), .unset, .unset, .unset, .unset, .unset, .unset, .unset]) rfl ?_
      refine H.iconst s0_12 (v := (1 : Int32)) (by decide) ?_
      refine H.iload s0_13 rfl ?_
      refine H.bipush s0_15 (v := (6 : Int32)) (by decide) ?_
      refine H.ishl s0_17 (w := (64 : Int32)) (by decide) ?_
      refine H.iload s0_18 rfl ?_
      refine H.iadd s0_20 (w := (65 : Int32)) (by decide) ?_
      refine H.callSD s0_21 (k_13 hw) (a_37 l hw n0) (argsL := [(.int (1 : Int32)), (.int (65 : Int32))]) (rest := []) rfl rfl rfl rfl (leb rfl) (leb rfl) (leb rfl) (leb rfl) (st' := [(.int (65 : Int32))]) rfl (k' := 0) rfl (n' := 0) rfl ?_
      refine H.istore s0_24 (ls' := #[.val (.int p0), .val (.int p1), .val (.int p2), .val (.int p3), .val (.int p4), .val (.int (1 : Int32)), .val (.int (1 : Int32)), .val (.int (65 : Int32)), .unset, .unset, .unset, .unset, .unset, .unset]) rfl ?_
      refine H.iloadN s0_26 rfl ?_
      refine H.iload s0_27 rfl ?_
      refine H.callSD s0_29 (k_14 hw) (m_ix l hw n0 _ p1 (65 : Int32) (by decide)) (argsL := [(.int p1), (.int (65 : Int32))]) (rest := []) rfl rfl rfl rfl (leb rfl) (leb rfl) (leb rfl) (leb rfl) (st' := [(.int (own_ix p1 (65 : Int32)))]) rfl (k' := 0) rfl (n' := 0) rfl ?_
      refine H.istore s0_32 (ls' := #[.val (.int p0), .val (.int p1), .val (.int p2), .val (.int p3), .val (.int p4), .val (.int (1 : Int32)), .val (.int (1 : Int32)), .val (.int (65 : Int32)), .val (.int (own_ix p1 (65 : Int32))), .unset, .unset, .unset, .unset, .unset]) rfl ?_
      refine H.iloadN s0_34 rfl ?_
      refine H.iload s0_35 rfl ?_
      refine H.callSD s0_37 (k_14 hw) (m_ix l hw n0 _ p2 (65 : Int32) (by decide)) (argsL := [(.int p2), (.int (65 : Int32))]) (rest := []) rfl rfl rfl rfl (leb rfl) (leb rfl) (leb rfl) (leb rfl) (st' := [(.int (own_ix p2 (65 : Int32)))]) rfl (k' := 0) rfl (n' := 0) rfl ?_
      refine H.istore s0_40 (ls' := #[.val (.int p0), .val (.int p1), .val (.int p2), .val (.int p3), .val (.int p4), .val (.int (1 : Int32)), .val (.int (1 : Int32)), .val (.int (65 : Int32)), .val (.int (own_ix p1 (65 : Int32))), .val (.int (own_ix p2 (65 : Int32))), .unset, .unset, .unset, .unset]) rfl ?_
      refine H.iloadN s0_42 rfl ?_
      refine H.iload s0_43 rfl ?_
      refine H.callSD s0_45 (k_14 hw) (m_ix l hw n0 _ p3 (65 : Int32) (by decide)) (argsL := [(.int p3), (.int (65 : Int32))]) (rest := []) rfl rfl rfl rfl (leb rfl) (leb rfl) (leb rfl) (leb rfl) (st' := [(.int (own_ix p3 (65 : Int32)))]) rfl (k' := 0) rfl (n' := 0) rfl ?_
      refine H.istore s0_48 (ls' := #[.val (.int p0), .val (.int p1), .val (.int p2), .val (.int p3), .val (.int p4), .val (.int (1 : Int32)), .val (.int (1 : Int32)), .val (.int (65 : Int32)), .val (.int (own_ix p1 (65 : Int32))), .val (.int (own_ix p2 (65 : Int32))), .val (.int (own_ix p3 (65 : Int32))), .unset, .unset, .unset]) rfl ?_
      refine H.iload s0_50 rfl ?_
      refine H.iconst s0_52 (v := (1 : Int32)) (by decide) ?_
      refine H.iushr s0_53 rfl ?_
      refine H.iload s0_54 rfl ?_
      refine H.iconst s0_56 (v := (2 : Int32)) (by decide) ?_
      refine H.iadd s0_57 (w := (67 : Int32)) (by decide) ?_
      refine H.irem s0_58 (by decide) (w := ((p4.toUInt32 >>> ((1 : Int32) &&& 31).toUInt32).toInt32 % (67 : Int32))) rfl ?_
      refine H.istore s0_59 (ls' := #[.val (.int p0), .val (.int p1), .val (.int p2), .val (.int p3), .val (.int p4), .val (.int (1 : Int32)), .val (.int (1 : Int32)), .val (.int (65 : Int32)), .val (.int (own_ix p1 (65 : Int32))), .val (.int (own_ix p2 (65 : Int32))), .val (.int (own_ix p3 (65 : Int32))), .val (.int ((p4.toUInt32 >>> ((1 : Int32) &&& 31).toUInt32).toInt32 % (67 : Int32))), .unset, .unset]) rfl ?_
      refine H.new s0_61 (k_15 hw) rfl (by decide) (by decide) (i := 0) rfl (A' := [.inl (0, [(.int (0 : Int32)), .null, .null, .null, .null])]) rfl (k' := 1) rfl (n' := 5) rfl ?_
      refine H.dup s0_64 rfl ?_
      refine H.iload s0_65 rfl ?_
      refine H.callCD s0_67 (k_25 hw) (a_38 l hw n0) (argsL := [(.int (65 : Int32))]) (rest := [(.ref (n0 + 0))]) rfl rfl rfl rfl (leb rfl) (leb rfl) (leb rfl) (leb rfl) (st' := [(.ref (n0 + 0))]) rfl (k' := 5) rfl (n' := 11) rfl ?_
      refine H.astore s0_70 rfl (ls' := #[.val (.int p0), .val (.int p1), .val (.int p2), .val (.int p3), .val (.int p4), .val (.int (1 : Int32)), .val (.int (1 : Int32)), .val (.int (65 : Int32)), .val (.int (own_ix p1 (65 : Int32))), .val (.int (own_ix p2 (65 : Int32))), .val (.int (own_ix p3 (65 : Int32))), .val (.int ((p4.toUInt32 >>> ((1 : Int32) &&& 31).toUInt32).toInt32 % (67 : Int32))), .val (.ref (n0 + 0)), .unset]) rfl ?_
      refine H.aload s0_72 rfl rfl ?_
      refine H.callVD s0_74 (k_29 hw) (a_45 l hw n0) (i := 0) rfl (argsL := []) (rest := []) rfl rfl rfl rfl (leb rfl) (leb rfl) (leb rfl) (leb rfl) (st' := []) rfl (k' := 5) rfl (n' := 11) rfl ?_
      refine H.aload s0_77 rfl rfl ?_
      refine H.iload s0_79 rfl ?_
      obtain ⟨m1, f1, g1⟩ := own_ix_r p1 (65 : Int32) 65 (by decide) (by decide) (by decide)
      obtain ⟨m2, f2, g2⟩ := own_ix_r p2 (65 : Int32) 65 (by decide) (by decide) (by decide)
      obtain ⟨m3, f3, g3⟩ := own_ix_r p3 (65 : Int32) 65 (by decide) (by decide) (by decide)
      obtain ⟨m4, f4, g4⟩ := own_fr_r p4 (67 : Int32) 67 (by decide) (by decide)
      have q0 := inv_65
      obtain ⟨q1, q2, q3⟩ := own_inv3 q0 (by decide) (by decide) f1 f2 f3 g1 g2 g3
      refine H.callVD s0_81 (k_30 hw) (m_rem l hw n0 own_f65 (3 : Int64) (65 : Int32) (own_f65.map Value.long) [(.long (3 : Int64))] (own_ix p1 (65 : Int32)) m1 f1 (own_len q0 (by omega)) (own_len4 q0 (by decide))) (i := 0) rfl (argsL := [(.int (own_ix p1 (65 : Int32)))]) (rest := []) rfl rfl rfl rfl (leb rfl) (leb rfl) (leb rfl) (leb rfl) (st' := []) rfl (k' := 5) rfl (n' := 11) rfl ?_
      refine H.aload s0_84 rfl rfl ?_
      refine H.iload s0_86 rfl ?_
      refine H.callVD s0_88 (k_30 hw) (m_rem l hw n0 (own_Lr own_f65 (own_ix p1 (65 : Int32)) m1) (own_e own_f65 (3 : Int64) (own_ix p1 (65 : Int32)) m1) (65 : Int32) (own_f65.map Value.long) [(.long (3 : Int64))] (own_ix p2 (65 : Int32)) m2 f2 (own_len q1 (by omega)) (own_len4 q1 (by decide))) (i := 0) rfl (argsL := [(.int (own_ix p2 (65 : Int32)))]) (rest := []) rfl rfl rfl rfl (leb rfl) (leb rfl) (leb rfl) (leb rfl) (st' := []) rfl (k' := 5) rfl (n' := 11) rfl ?_
      refine H.aload s0_91 rfl rfl ?_
      refine H.iload s0_93 rfl ?_
      refine H.callVD s0_95 (k_30 hw) (m_rem l hw n0 (own_L2 own_f65 (own_ix p1 (65 : Int32)) (own_ix p2 (65 : Int32)) m1 m2) (own_e2 own_f65 (3 : Int64) (own_ix p1 (65 : Int32)) (own_ix p2 (65 : Int32)) m1 m2) (65 : Int32) (own_f65.map Value.long) [(.long (3 : Int64))] (own_ix p3 (65 : Int32)) m3 f3 (own_len q2 (by omega)) (own_len4 q2 (by decide))) (i := 0) rfl (argsL := [(.int (own_ix p3 (65 : Int32)))]) (rest := []) rfl rfl rfl rfl (leb rfl) (leb rfl) (leb rfl) (leb rfl) (st' := []) rfl (k' := 5) rfl (n' := 11) rfl ?_
      refine H.aload s0_98 rfl rfl ?_
      refine H.iload s0_100 rfl ?_
      refine H.callVD s0_102 (k_31 hw) (m_nxt l hw n0 (own_L3 own_f65 (own_ix p1 (65 : Int32)) (own_ix p2 (65 : Int32)) (own_ix p3 (65 : Int32)) m1 m2 m3) (own_e3 own_f65 (3 : Int64) (own_ix p1 (65 : Int32)) (own_ix p2 (65 : Int32)) (own_ix p3 (65 : Int32)) m1 m2 m3) (65 : Int32) (own_f65.map Value.long) [(.long (3 : Int64))] ((p4.toUInt32 >>> ((1 : Int32) &&& 31).toUInt32).toInt32 % (67 : Int32)) m4 f4 (own_len4 q3 (by decide)) (own_he q3) (own_hz q3)) (i := 0) rfl (argsL := [(.int ((p4.toUInt32 >>> ((1 : Int32) &&& 31).toUInt32).toInt32 % (67 : Int32)))]) (rest := []) rfl rfl rfl rfl (leb rfl) (leb rfl) (leb rfl) (leb rfl) (st' := [(.int (own_nxt (own_L3 own_f65 (own_ix p1 (65 : Int32)) (own_ix p2 (65 : Int32)) (own_ix p3 (65 : Int32)) m1 m2 m3) (own_e3 own_f65 (3 : Int64) (own_ix p1 (65 : Int32)) (own_ix p2 (65 : Int32)) (own_ix p3 (65 : Int32)) m1 m2 m3) (65 : Int32) ((p4.toUInt32 >>> ((1 : Int32) &&& 31).toUInt32).toInt32 % (67 : Int32)) m4))]) rfl (k' := 5) rfl (n' := 11) rfl ?_
      refine H.iload s0_105 rfl ?_
      refine H.iload s0_107 rfl ?_
      refine H.iload s0_109 rfl ?_
      refine H.iload s0_111 rfl ?_
      refine H.iload s0_113 rfl ?_
      refine H.callSD s0_115 (k_32 hw) (m_ref l hw n0 _ ((p4.toUInt32 >>> ((1 : Int32) &&& 31).toUInt32).toInt32 % (67 : Int32)) (65 : Int32) (own_ix p1 (65 : Int32)) (own_ix p2 (65 : Int32)) (own_ix p3 (65 : Int32))) (argsL := [(.int ((p4.toUInt32 >>> ((1 : Int32) &&& 31).toUInt32).toInt32 % (67 : Int32))), (.int (65 : Int32)), (.int (own_ix p1 (65 : Int32))), (.int (own_ix p2 (65 : Int32))), (.int (own_ix p3 (65 : Int32)))]) (rest := [(.int (own_nxt (own_L3 own_f65 (own_ix p1 (65 : Int32)) (own_ix p2 (65 : Int32)) (own_ix p3 (65 : Int32)) m1 m2 m3) (own_e3 own_f65 (3 : Int64) (own_ix p1 (65 : Int32)) (own_ix p2 (65 : Int32)) (own_ix p3 (65 : Int32)) m1 m2 m3) (65 : Int32) ((p4.toUInt32 >>> ((1 : Int32) &&& 31).toUInt32).toInt32 % (67 : Int32)) m4))]) rfl rfl rfl rfl (leb rfl) (leb rfl) (leb rfl) (leb rfl) (st' := [(.int (own_ref ((p4.toUInt32 >>> ((1 : Int32) &&& 31).toUInt32).toInt32 % (67 : Int32)) (65 : Int32) (own_ix p1 (65 : Int32)) (own_ix p2 (65 : Int32)) (own_ix p3 (65 : Int32)))), (.int (own_nxt (own_L3 own_f65 (own_ix p1 (65 : Int32)) (own_ix p2 (65 : Int32)) (own_ix p3 (65 : Int32)) m1 m2 m3) (own_e3 own_f65 (3 : Int64) (own_ix p1 (65 : Int32)) (own_ix p2 (65 : Int32)) (own_ix p3 (65 : Int32)) m1 m2 m3) (65 : Int32) ((p4.toUInt32 >>> ((1 : Int32) &&& 31).toUInt32).toInt32 % (67 : Int32)) m4))]) rfl (k' := 5) rfl (n' := 11) rfl ?_
      refine H.icmpF s0_118 (own_main q3 rfl (by decide) (by decide) f1 f2 f3 f4 (by omega)) ?_
      refine H.iconst s0_121 (v := (1 : Int32)) (by decide) ?_
      refine H.goto s0_122 ?_
      refine H.istore s0_126 (ls' := #[.val (.int p0), .val (.int p1), .val (.int p2), .val (.int p3), .val (.int p4), .val (.int (1 : Int32)), .val (.int (1 : Int32)), .val (.int (65 : Int32)), .val (.int (own_ix p1 (65 : Int32))), .val (.int (own_ix p2 (65 : Int32))), .val (.int (own_ix p3 (65 : Int32))), .val (.int ((p4.toUInt32 >>> ((1 : Int32) &&& 31).toUInt32).toInt32 % (67 : Int32))), .val (.ref (n0 + 0)), .val (.int (1 : Int32))]) rfl ?_
      refine H.iload s0_128 rfl ?_
      refine H.ifF s0_130 (show ¬ (1 : Int32) = (0 : Int32) by decide) ?_
      refine H.aload s0_133 rfl rfl ?_
      refine H.iconst s0_135 (v := (0 : Int32)) (by decide) ?_
      refine H.callVD s0_136 (k_31 hw) (m_nxt l hw n0 (own_L3 own_f65 (own_ix p1 (65 : Int32)) (own_ix p2 (65 : Int32)) (own_ix p3 (65 : Int32)) m1 m2 m3) (own_e3 own_f65 (3 : Int64) (own_ix p1 (65 : Int32)) (own_ix p2 (65 : Int32)) (own_ix p3 (65 : Int32)) m1 m2 m3) (65 : Int32) (own_f65.map Value.long) [(.long (3 : Int64))] (0 : Int32) 0 (by decide : (0 : Int32).toInt = ((0 : Nat) : Int)) (own_len4 q3 (by decide)) (own_he q3) (own_hz q3)) (i := 0) rfl (argsL := [(.int (0 : Int32))]) (rest := []) rfl rfl rfl rfl (leb rfl) (leb rfl) (leb rfl) (leb rfl) (st' := [(.int (own_nxt (own_L3 own_f65 (own_ix p1 (65 : Int32)) (own_ix p2 (65 : Int32)) (own_ix p3 (65 : Int32)) m1 m2 m3) (own_e3 own_f65 (3 : Int64) (own_ix p1 (65 : Int32)) (own_ix p2 (65 : Int32)) (own_ix p3 (65 : Int32)) m1 m2 m3) (65 : Int32) (0 : Int32) 0))]) rfl (k' := 5) rfl (n' := 11) rfl ?_
      refine H.iconst s0_139 (v := (0 : Int32)) (by decide) ?_
      refine H.iload s0_140 rfl ?_
      refine H.iload s0_142 rfl ?_
      refine H.iload s0_144 rfl ?_
      refine H.iload s0_146 rfl ?_
      refine H.callSD s0_148 (k_32 hw) (m_ref l hw n0 _ (0 : Int32) (65 : Int32) (own_ix p1 (65 : Int32)) (own_ix p2 (65 : Int32)) (own_ix p3 (65 : Int32))) (argsL := [(.int (0 : Int32)), (.int (65 : Int32)), (.int (own_ix p1 (65 : Int32))), (.int (own_ix p2 (65 : Int32))), (.int (own_ix p3 (65 : Int32)))]) (rest := [(.int (own_nxt (own_L3 own_f65 (own_ix p1 (65 : Int32)) (own_ix p2 (65 : Int32)) (own_ix p3 (65 : Int32)) m1 m2 m3) (own_e3 own_f65 (3 : Int64) (own_ix p1 (65 : Int32)) (own_ix p2 (65 : Int32)) (own_ix p3 (65 : Int32)) m1 m2 m3) (65 : Int32) (0 : Int32) 0))]) rfl rfl rfl rfl (leb rfl) (leb rfl) (leb rfl) (leb rfl) (st' := [(.int (own_ref (0 : Int32) (65 : Int32) (own_ix p1 (65 : Int32)) (own_ix p2 (65 : Int32)) (own_ix p3 (65 : Int32)))), (.int (own_nxt (own_L3 own_f65 (own_ix p1 (65 : Int32)) (own_ix p2 (65 : Int32)) (own_ix p3 (65 : Int32)) m1 m2 m3) (own_e3 own_f65 (3 : Int64) (own_ix p1 (65 : Int32)) (own_ix p2 (65 : Int32)) (own_ix p3 (65 : Int32)) m1 m2 m3) (65 : Int32) (0 : Int32) 0))]) rfl (k' := 5) rfl (n' := 11) rfl ?_
      refine H.icmpF s0_151 (own_main q3 rfl (by decide) (by decide) f1 f2 f3 (by decide : (0 : Int32).toInt = ((0 : Nat) : Int)) (by omega)) ?_
      refine H.iconst s0_154 (v := (1 : Int32)) (by decide) ?_
      refine H.goto s0_155 ?_
      refine H.istore s0_159 (ls' := #[.val (.int p0), .val (.int p1), .val (.int p2), .val (.int p3), .val (.int p4), .val (.int (1 : Int32)), .val (.int (1 : Int32)), .val (.int (65 : Int32)), .val (.int (own_ix p1 (65 : Int32))), .val (.int (own_ix p2 (65 : Int32))), .val (.int (own_ix p3 (65 : Int32))), .val (.int ((p4.toUInt32 >>> ((1 : Int32) &&& 31).toUInt32).toInt32 % (67 : Int32))), .val (.ref (n0 + 0)), .val (.int (1 : Int32))]) rfl ?_
      refine H.iload s0_161 rfl ?_
      refine H.ifF s0_163 (show ¬ (1 : Int32) = (0 : Int32) by decide) ?_
      refine H.aload s0_166 rfl rfl ?_
      refine H.iload s0_168 rfl ?_
      refine H.callVD s0_170 (k_31 hw) (m_nxt l hw n0 (own_L3 own_f65 (own_ix p1 (65 : Int32)) (own_ix p2 (65 : Int32)) (own_ix p3 (65 : Int32)) m1 m2 m3) (own_e3 own_f65 (3 : Int64) (own_ix p1 (65 : Int32)) (own_ix p2 (65 : Int32)) (own_ix p3 (65 : Int32)) m1 m2 m3) (65 : Int32) (own_f65.map Value.long) [(.long (3 : Int64))] (own_ix p1 (65 : Int32)) m1 f1 (own_len4 q3 (by decide)) (own_he q3) (own_hz q3)) (i := 0) rfl (argsL := [(.int (own_ix p1 (65 : Int32)))]) (rest := []) rfl rfl rfl rfl (leb rfl) (leb rfl) (leb rfl) (leb rfl) (st' := [(.int (own_nxt (own_L3 own_f65 (own_ix p1 (65 : Int32)) (own_ix p2 (65 : Int32)) (own_ix p3 (65 : Int32)) m1 m2 m3) (own_e3 own_f65 (3 : Int64) (own_ix p1 (65 : Int32)) (own_ix p2 (65 : Int32)) (own_ix p3 (65 : Int32)) m1 m2 m3) (65 : Int32) (own_ix p1 (65 : Int32)) m1))]) rfl (k' := 5) rfl (n' := 11) rfl ?_
      refine H.iload s0_173 rfl ?_
      refine H.iload s0_175 rfl ?_
      refine H.iload s0_177 rfl ?_
      refine H.iload s0_179 rfl ?_
      refine H.iload s0_181 rfl ?_
      refine H.callSD s0_183 (k_32 hw) (m_ref l hw n0 _ (own_ix p1 (65 : Int32)) (65 : Int32) (own_ix p1 (65 : Int32)) (own_ix p2 (65 : Int32)) (own_ix p3 (65 : Int32))) (argsL := [(.int (own_ix p1 (65 : Int32))), (.int (65 : Int32)), (.int (own_ix p1 (65 : Int32))), (.int (own_ix p2 (65 : Int32))), (.int (own_ix p3 (65 : Int32)))]) (rest := [(.int (own_nxt (own_L3 own_f65 (own_ix p1 (65 : Int32)) (own_ix p2 (65 : Int32)) (own_ix p3 (65 : Int32)) m1 m2 m3) (own_e3 own_f65 (3 : Int64) (own_ix p1 (65 : Int32)) (own_ix p2 (65 : Int32)) (own_ix p3 (65 : Int32)) m1 m2 m3) (65 : Int32) (own_ix p1 (65 : Int32)) m1))]) rfl rfl rfl rfl (leb rfl) (leb rfl) (leb rfl) (leb rfl) (st' := [(.int (own_ref (own_ix p1 (65 : Int32)) (65 : Int32) (own_ix p1 (65 : Int32)) (own_ix p2 (65 : Int32)) (own_ix p3 (65 : Int32)))), (.int (own_nxt (own_L3 own_f65 (own_ix p1 (65 : Int32)) (own_ix p2 (65 : Int32)) (own_ix p3 (65 : Int32)) m1 m2 m3) (own_e3 own_f65 (3 : Int64) (own_ix p1 (65 : Int32)) (own_ix p2 (65 : Int32)) (own_ix p3 (65 : Int32)) m1 m2 m3) (65 : Int32) (own_ix p1 (65 : Int32)) m1))]) rfl (k' := 5) rfl (n' := 11) rfl ?_
      refine H.icmpF s0_186 (own_main q3 rfl (by decide) (by decide) f1 f2 f3 f1 (by omega)) ?_
      refine H.iconst s0_189 (v := (1 : Int32)) (by decide) ?_
      refine H.goto s0_190 ?_
      refine H.istore s0_194 (ls' := #[.val (.int p0), .val (.int p1), .val (.int p2), .val (.int p3), .val (.int p4), .val (.int (1 : Int32)), .val (.int (1 : Int32)), .val (.int (65 : Int32)), .val (.int (own_ix p1 (65 : Int32))), .val (.int (own_ix p2 (65 : Int32))), .val (.int (own_ix p3 (65 : Int32))), .val (.int ((p4.toUInt32 >>> ((1 : Int32) &&& 31).toUInt32).toInt32 % (67 : Int32))), .val (.ref (n0 + 0)), .val (.int (1 : Int32))]) rfl ?_
      refine H.iload s0_196 rfl ?_
      refine H.ifF s0_198 (show ¬ (1 : Int32) = (0 : Int32) by decide) ?_
      refine H.aload s0_201 rfl rfl ?_
      refine H.iload s0_203 rfl ?_
      refine H.callVD s0_205 (k_31 hw) (m_nxt l hw n0 (own_L3 own_f65 (own_ix p1 (65 : Int32)) (own_ix p2 (65 : Int32)) (own_ix p3 (65 : Int32)) m1 m2 m3) (own_e3 own_f65 (3 : Int64) (own_ix p1 (65 : Int32)) (own_ix p2 (65 : Int32)) (own_ix p3 (65 : Int32)) m1 m2 m3) (65 : Int32) (own_f65.map Value.long) [(.long (3 : Int64))] (own_ix p2 (65 : Int32)) m2 f2 (own_len4 q3 (by decide)) (own_he q3) (own_hz q3)) (i := 0) rfl (argsL := [(.int (own_ix p2 (65 : Int32)))]) (rest := []) rfl rfl rfl rfl (leb rfl) (leb rfl) (leb rfl) (leb rfl) (st' := [(.int (own_nxt (own_L3 own_f65 (own_ix p1 (65 : Int32)) (own_ix p2 (65 : Int32)) (own_ix p3 (65 : Int32)) m1 m2 m3) (own_e3 own_f65 (3 : Int64) (own_ix p1 (65 : Int32)) (own_ix p2 (65 : Int32)) (own_ix p3 (65 : Int32)) m1 m2 m3) (65 : Int32) (own_ix p2 (65 : Int32)) m2))]) rfl (k' := 5) rfl (n' := 11) rfl ?_
      refine H.iload s0_208 rfl ?_
      refine H.iload s0_210 rfl ?_
      refine H.iload s0_212 rfl ?_
      refine H.iload s0_214 rfl ?_
      refine H.iload s0_216 rfl ?_
      refine H.callSD s0_218 (k_32 hw) (m_ref l hw n0 _ (own_ix p2 (65 : Int32)) (65 : Int32) (own_ix p1 (65 : Int32)) (own_ix p2 (65 : Int32)) (own_ix p3 (65 : Int32))) (argsL := [(.int (own_ix p2 (65 : Int32))), (.int (65 : Int32)), (.int (own_ix p1 (65 : Int32))), (.int (own_ix p2 (65 : Int32))), (.int (own_ix p3 (65 : Int32)))]) (rest := [(.int (own_nxt (own_L3 own_f65 (own_ix p1 (65 : Int32)) (own_ix p2 (65 : Int32)) (own_ix p3 (65 : Int32)) m1 m2 m3) (own_e3 own_f65 (3 : Int64) (own_ix p1 (65 : Int32)) (own_ix p2 (65 : Int32)) (own_ix p3 (65 : Int32)) m1 m2 m3) (65 : Int32) (own_ix p2 (65 : Int32)) m2))]) rfl rfl rfl rfl (leb rfl) (leb rfl) (leb rfl) (leb rfl) (st' := [(.int (own_ref (own_ix p2 (65 : Int32)) (65 : Int32) (own_ix p1 (65 : Int32)) (own_ix p2 (65 : Int32)) (own_ix p3 (65 : Int32)))), (.int (own_nxt (own_L3 own_f65 (own_ix p1 (65 : Int32)) (own_ix p2 (65 : Int32)) (own_ix p3 (65 : Int32)) m1 m2 m3) (own_e3 own_f65 (3 : Int64) (own_ix p1 (65 : Int32)) (own_ix p2 (65 : Int32)) (own_ix p3 (65 : Int32)) m1 m2 m3) (65 : Int32) (own_ix p2 (65 : Int32)) m2))]) rfl (k' := 5) rfl (n' := 11) rfl ?_
      refine H.icmpF s0_221 (own_main q3 rfl (by decide) (by decide) f1 f2 f3 f2 (by omega)) ?_
      refine H.iconst s0_224 (v := (1 : Int32)) (by decide) ?_
      refine H.goto s0_225 ?_
      refine H.istore s0_229 (ls' := #[.val (.int p0), .val (.int p1), .val (.int p2), .val (.int p3), .val (.int p4), .val (.int (1 : Int32)), .val (.int (1 : Int32)), .val (.int (65 : Int32)), .val (.int (own_ix p1 (65 : Int32))), .val (.int (own_ix p2 (65 : Int32))), .val (.int (own_ix p3 (65 : Int32))), .val (.int ((p4.toUInt32 >>> ((1 : Int32) &&& 31).toUInt32).toInt32 % (67 : Int32))), .val (.ref (n0 + 0)), .val (.int (1 : Int32))]) rfl ?_
      refine H.iload s0_231 rfl ?_
      refine H.ifF s0_233 (show ¬ (1 : Int32) = (0 : Int32) by decide) ?_
      refine H.aload s0_236 rfl rfl ?_
      refine H.iload s0_238 rfl ?_
      refine H.callVD s0_240 (k_31 hw) (m_nxt l hw n0 (own_L3 own_f65 (own_ix p1 (65 : Int32)) (own_ix p2 (65 : Int32)) (own_ix p3 (65 : Int32)) m1 m2 m3) (own_e3 own_f65 (3 : Int64) (own_ix p1 (65 : Int32)) (own_ix p2 (65 : Int32)) (own_ix p3 (65 : Int32)) m1 m2 m3) (65 : Int32) (own_f65.map Value.long) [(.long (3 : Int64))] (own_ix p3 (65 : Int32)) m3 f3 (own_len4 q3 (by decide)) (own_he q3) (own_hz q3)) (i := 0) rfl (argsL := [(.int (own_ix p3 (65 : Int32)))]) (rest := []) rfl rfl rfl rfl (leb rfl) (leb rfl) (leb rfl) (leb rfl) (st' := [(.int (own_nxt (own_L3 own_f65 (own_ix p1 (65 : Int32)) (own_ix p2 (65 : Int32)) (own_ix p3 (65 : Int32)) m1 m2 m3) (own_e3 own_f65 (3 : Int64) (own_ix p1 (65 : Int32)) (own_ix p2 (65 : Int32)) (own_ix p3 (65 : Int32)) m1 m2 m3) (65 : Int32) (own_ix p3 (65 : Int32)) m3))]) rfl (k' := 5) rfl (n' := 11) rfl ?_
      refine H.iload s0_243 rfl ?_
      refine H.iload s0_245 rfl ?_
      refine H.iload s0_247 rfl ?_
      refine H.iload s0_249 rfl ?_
      refine H.iload s0_251 rfl ?_
      refine H.callSD s0_253 (k_32 hw) (m_ref l hw n0 _ (own_ix p3 (65 : Int32)) (65 : Int32) (own_ix p1 (65 : Int32)) (own_ix p2 (65 : Int32)) (own_ix p3 (65 : Int32))) (argsL := [(.int (own_ix p3 (65 : Int32))), (.int (65 : Int32)), (.int (own_ix p1 (65 : Int32))), (.int (own_ix p2 (65 : Int32))), (.int (own_ix p3 (65 : Int32)))]) (rest := [(.int (own_nxt (own_L3 own_f65 (own_ix p1 (65 : Int32)) (own_ix p2 (65 : Int32)) (own_ix p3 (65 : Int32)) m1 m2 m3) (own_e3 own_f65 (3 : Int64) (own_ix p1 (65 : Int32)) (own_ix p2 (65 : Int32)) (own_ix p3 (65 : Int32)) m1 m2 m3) (65 : Int32) (own_ix p3 (65 : Int32)) m3))]) rfl rfl rfl rfl (leb rfl) (leb rfl) (leb rfl) (leb rfl) (st' := [(.int (own_ref (own_ix p3 (65 : Int32)) (65 : Int32) (own_ix p1 (65 : Int32)) (own_ix p2 (65 : Int32)) (own_ix p3 (65 : Int32)))), (.int (own_nxt (own_L3 own_f65 (own_ix p1 (65 : Int32)) (own_ix p2 (65 : Int32)) (own_ix p3 (65 : Int32)) m1 m2 m3) (own_e3 own_f65 (3 : Int64) (own_ix p1 (65 : Int32)) (own_ix p2 (65 : Int32)) (own_ix p3 (65 : Int32)) m1 m2 m3) (65 : Int32) (own_ix p3 (65 : Int32)) m3))]) rfl (k' := 5) rfl (n' := 11) rfl ?_
      refine H.icmpF s0_256 (own_main q3 rfl (by decide) (by decide) f1 f2 f3 f3 (by omega)) ?_
      refine H.iconst s0_259 (v := (1 : Int32)) (by decide) ?_
      refine H.goto s0_260 ?_
      refine H.istore s0_264 (ls' := #[.val (.int p0), .val (.int p1), .val (.int p2), .val (.int p3), .val (.int p4), .val (.int (1 : Int32)), .val (.int (1 : Int32)), .val (.int (65 : Int32)), .val (.int (own_ix p1 (65 : Int32))), .val (.int (own_ix p2 (65 : Int32))), .val (.int (own_ix p3 (65 : Int32))), .val (.int ((p4.toUInt32 >>> ((1 : Int32) &&& 31).toUInt32).toInt32 % (67 : Int32))), .val (.ref (n0 + 0)), .val (.int (1 : Int32))]) rfl ?_
      refine H.iload s0_266 rfl ?_
      exact H.ireturn s0_268 rfl (by simp) rfl rfl (by decide) (by decide)
    · refine H.iand s0_9 (w := (2 : Int32)) hz9 ?_
      refine H.istore s0_10 (ls' := #[.val (.int p0), .val (.int p1), .val (.int p2), .val (.int p3), .val (.int p4), .val (.int (1 : Int32)), .val (.int (2 : Int32)), .unset, .unset, .unset, .unset, .unset, .unset, .unset]) rfl ?_
      refine H.iconst s0_12 (v := (1 : Int32)) (by decide) ?_
      refine H.iload s0_13 rfl ?_
      refine H.bipush s0_15 (v := (6 : Int32)) (by decide) ?_
      refine H.ishl s0_17 (w := (64 : Int32)) (by decide) ?_
      refine H.iload s0_18 rfl ?_
      refine H.iadd s0_20 (w := (66 : Int32)) (by decide) ?_
      refine H.callSD s0_21 (k_13 hw) (a_46 l hw n0) (argsL := [(.int (1 : Int32)), (.int (66 : Int32))]) (rest := []) rfl rfl rfl rfl (leb rfl) (leb rfl) (leb rfl) (leb rfl) (st' := [(.int (66 : Int32))]) rfl (k' := 0) rfl (n' := 0) rfl ?_
      refine H.istore s0_24 (ls' := #[.val (.int p0), .val (.int p1), .val (.int p2), .val (.int p3), .val (.int p4), .val (.int (1 : Int32)), .val (.int (2 : Int32)), .val (.int (66 : Int32)), .unset, .unset, .unset, .unset, .unset, .unset]) rfl ?_
      refine H.iloadN s0_26 rfl ?_
      refine H.iload s0_27 rfl ?_
      refine H.callSD s0_29 (k_14 hw) (m_ix l hw n0 _ p1 (66 : Int32) (by decide)) (argsL := [(.int p1), (.int (66 : Int32))]) (rest := []) rfl rfl rfl rfl (leb rfl) (leb rfl) (leb rfl) (leb rfl) (st' := [(.int (own_ix p1 (66 : Int32)))]) rfl (k' := 0) rfl (n' := 0) rfl ?_
      refine H.istore s0_32 (ls' := #[.val (.int p0), .val (.int p1), .val (.int p2), .val (.int p3), .val (.int p4), .val (.int (1 : Int32)), .val (.int (2 : Int32)), .val (.int (66 : Int32)), .val (.int (own_ix p1 (66 : Int32))), .unset, .unset, .unset, .unset, .unset]) rfl ?_
      refine H.iloadN s0_34 rfl ?_
      refine H.iload s0_35 rfl ?_
      refine H.callSD s0_37 (k_14 hw) (m_ix l hw n0 _ p2 (66 : Int32) (by decide)) (argsL := [(.int p2), (.int (66 : Int32))]) (rest := []) rfl rfl rfl rfl (leb rfl) (leb rfl) (leb rfl) (leb rfl) (st' := [(.int (own_ix p2 (66 : Int32)))]) rfl (k' := 0) rfl (n' := 0) rfl ?_
      refine H.istore s0_40 (ls' := #[.val (.int p0), .val (.int p1), .val (.int p2), .val (.int p3), .val (.int p4), .val (.int (1 : Int32)), .val (.int (2 : Int32)), .val (.int (66 : Int32)), .val (.int (own_ix p1 (66 : Int32))), .val (.int (own_ix p2 (66 : Int32))), .unset, .unset, .unset, .unset]) rfl ?_
      refine H.iloadN s0_42 rfl ?_
      refine H.iload s0_43 rfl ?_
      refine H.callSD s0_45 (k_14 hw) (m_ix l hw n0 _ p3 (66 : Int32) (by decide)) (argsL := [(.int p3), (.int (66 : Int32))]) (rest := []) rfl rfl rfl rfl (leb rfl) (leb rfl) (leb rfl) (leb rfl) (st' := [(.int (own_ix p3 (66 : Int32)))]) rfl (k' := 0) rfl (n' := 0) rfl ?_
      refine H.istore s0_48 (ls' := #[.val (.int p0), .val (.int p1), .val (.int p2), .val (.int p3), .val (.int p4), .val (.int (1 : Int32)), .val (.int (2 : Int32)), .val (.int (66 : Int32)), .val (.int (own_ix p1 (66 : Int32))), .val (.int (own_ix p2 (66 : Int32))), .val (.int (own_ix p3 (66 : Int32))), .unset, .unset, .unset]) rfl ?_
      refine H.iload s0_50 rfl ?_
      refine H.iconst s0_52 (v := (1 : Int32)) (by decide) ?_
      refine H.iushr s0_53 rfl ?_
      refine H.iload s0_54 rfl ?_
      refine H.iconst s0_56 (v := (2 : Int32)) (by decide) ?_
      refine H.iadd s0_57 (w := (68 : Int32)) (by decide) ?_
      refine H.irem s0_58 (by decide) (w := ((p4.toUInt32 >>> ((1 : Int32) &&& 31).toUInt32).toInt32 % (68 : Int32))) rfl ?_
      refine H.istore s0_59 (ls' := #[.val (.int p0), .val (.int p1), .val (.int p2), .val (.int p3), .val (.int p4), .val (.int (1 : Int32)), .val (.int (2 : Int32)), .val (.int (66 : Int32)), .val (.int (own_ix p1 (66 : Int32))), .val (.int (own_ix p2 (66 : Int32))), .val (.int (own_ix p3 (66 : Int32))), .val (.int ((p4.toUInt32 >>> ((1 : Int32) &&& 31).toUInt32).toInt32 % (68 : Int32))), .unset, .unset]) rfl ?_
      refine H.new s0_61 (k_15 hw) rfl (by decide) (by decide) (i := 0) rfl (A' := [.inl (0, [(.int (0 : Int32)), .null, .null, .null, .null])]) rfl (k' := 1) rfl (n' := 5) rfl ?_
      refine H.dup s0_64 rfl ?_
      refine H.iload s0_65 rfl ?_
      refine H.callCD s0_67 (k_25 hw) (a_47 l hw n0) (argsL := [(.int (66 : Int32))]) (rest := [(.ref (n0 + 0))]) rfl rfl rfl rfl (leb rfl) (leb rfl) (leb rfl) (leb rfl) (st' := [(.ref (n0 + 0))]) rfl (k' := 5) rfl (n' := 11) rfl ?_
      refine H.astore s0_70 rfl (ls' := #[.val (.int p0), .val (.int p1), .val (.int p2), .val (.int p3), .val (.int p4), .val (.int (1 : Int32)), .val (.int (2 : Int32)), .val (.int (66 : Int32)), .val (.int (own_ix p1 (66 : Int32))), .val (.int (own_ix p2 (66 : Int32))), .val (.int (own_ix p3 (66 : Int32))), .val (.int ((p4.toUInt32 >>> ((1 : Int32) &&& 31).toUInt32).toInt32 % (68 : Int32))), .val (.ref (n0 + 0)), .unset]) rfl ?_
      refine H.aload s0_72 rfl rfl ?_
      refine H.callVD s0_74 (k_29 hw) (a_54 l hw n0) (i := 0) rfl (argsL := []) (rest := []) rfl rfl rfl rfl (leb rfl) (leb rfl) (leb rfl) (leb rfl) (st' := []) rfl (k' := 5) rfl (n' := 11) rfl ?_
      refine H.aload s0_77 rfl rfl ?_
      refine H.iload s0_79 rfl ?_
      obtain ⟨m1, f1, g1⟩ := own_ix_r p1 (66 : Int32) 66 (by decide) (by decide) (by decide)
      obtain ⟨m2, f2, g2⟩ := own_ix_r p2 (66 : Int32) 66 (by decide) (by decide) (by decide)
      obtain ⟨m3, f3, g3⟩ := own_ix_r p3 (66 : Int32) 66 (by decide) (by decide) (by decide)
      obtain ⟨m4, f4, g4⟩ := own_fr_r p4 (68 : Int32) 68 (by decide) (by decide)
      have q0 := inv_66
      obtain ⟨q1, q2, q3⟩ := own_inv3 q0 (by decide) (by decide) f1 f2 f3 g1 g2 g3
      refine H.callVD s0_81 (k_30 hw) (m_rem l hw n0 own_f66 (3 : Int64) (66 : Int32) (own_f66.map Value.long) [(.long (3 : Int64))] (own_ix p1 (66 : Int32)) m1 f1 (own_len q0 (by omega)) (own_len4 q0 (by decide))) (i := 0) rfl (argsL := [(.int (own_ix p1 (66 : Int32)))]) (rest := []) rfl rfl rfl rfl (leb rfl) (leb rfl) (leb rfl) (leb rfl) (st' := []) rfl (k' := 5) rfl (n' := 11) rfl ?_
      refine H.aload s0_84 rfl rfl ?_
      refine H.iload s0_86 rfl ?_
      refine H.callVD s0_88 (k_30 hw) (m_rem l hw n0 (own_Lr own_f66 (own_ix p1 (66 : Int32)) m1) (own_e own_f66 (3 : Int64) (own_ix p1 (66 : Int32)) m1) (66 : Int32) (own_f66.map Value.long) [(.long (3 : Int64))] (own_ix p2 (66 : Int32)) m2 f2 (own_len q1 (by omega)) (own_len4 q1 (by decide))) (i := 0) rfl (argsL := [(.int (own_ix p2 (66 : Int32)))]) (rest := []) rfl rfl rfl rfl (leb rfl) (leb rfl) (leb rfl) (leb rfl) (st' := []) rfl (k' := 5) rfl (n' := 11) rfl ?_
      refine H.aload s0_91 rfl rfl ?_
      refine H.iload s0_93 rfl ?_
      refine H.callVD s0_95 (k_30 hw) (m_rem l hw n0 (own_L2 own_f66 (own_ix p1 (66 : Int32)) (own_ix p2 (66 : Int32)) m1 m2) (own_e2 own_f66 (3 : Int64) (own_ix p1 (66 : Int32)) (own_ix p2 (66 : Int32)) m1 m2) (66 : Int32) (own_f66.map Value.long) [(.long (3 : Int64))] (own_ix p3 (66 : Int32)) m3 f3 (own_len q2 (by omega)) (own_len4 q2 (by decide))) (i := 0) rfl (argsL := [(.int (own_ix p3 (66 : Int32)))]) (rest := []) rfl rfl rfl rfl (leb rfl) (leb rfl) (leb rfl) (leb rfl) (st' := []) rfl (k' := 5) rfl (n' := 11) rfl ?_
      refine H.aload s0_98 rfl rfl ?_
      refine H.iload s0_100 rfl ?_
      refine H.callVD s0_102 (k_31 hw) (m_nxt l hw n0 (own_L3 own_f66 (own_ix p1 (66 : Int32)) (own_ix p2 (66 : Int32)) (own_ix p3 (66 : Int32)) m1 m2 m3) (own_e3 own_f66 (3 : Int64) (own_ix p1 (66 : Int32)) (own_ix p2 (66 : Int32)) (own_ix p3 (66 : Int32)) m1 m2 m3) (66 : Int32) (own_f66.map Value.long) [(.long (3 : Int64))] ((p4.toUInt32 >>> ((1 : Int32) &&& 31).toUInt32).toInt32 % (68 : Int32)) m4 f4 (own_len4 q3 (by decide)) (own_he q3) (own_hz q3)) (i := 0) rfl (argsL := [(.int ((p4.toUInt32 >>> ((1 : Int32) &&& 31).toUInt32).toInt32 % (68 : Int32)))]) (rest := []) rfl rfl rfl rfl (leb rfl) (leb rfl) (leb rfl) (leb rfl) (st' := [(.int (own_nxt (own_L3 own_f66 (own_ix p1 (66 : Int32)) (own_ix p2 (66 : Int32)) (own_ix p3 (66 : Int32)) m1 m2 m3) (own_e3 own_f66 (3 : Int64) (own_ix p1 (66 : Int32)) (own_ix p2 (66 : Int32)) (own_ix p3 (66 : Int32)) m1 m2 m3) (66 : Int32) ((p4.toUInt32 >>> ((1 : Int32) &&& 31).toUInt32).toInt32 % (68 : Int32)) m4))]) rfl (k' := 5) rfl (n' := 11) rfl ?_
      refine H.iload s0_105 rfl ?_
      refine H.iload s0_107 rfl ?_
      refine H.iload s0_109 rfl ?_
      refine H.iload s0_111 rfl ?_
      refine H.iload s0_113 rfl ?_
      refine H.callSD s0_115 (k_32 hw) (m_ref l hw n0 _ ((p4.toUInt32 >>> ((1 : Int32) &&& 31).toUInt32).toInt32 % (68 : Int32)) (66 : Int32) (own_ix p1 (66 : Int32)) (own_ix p2 (66 : Int32)) (own_ix p3 (66 : Int32))) (argsL := [(.int ((p4.toUInt32 >>> ((1 : Int32) &&& 31).toUInt32).toInt32 % (68 : Int32))), (.int (66 : Int32)), (.int (own_ix p1 (66 : Int32))), (.int (own_ix p2 (66 : Int32))), (.int (own_ix p3 (66 : Int32)))]) (rest := [(.int (own_nxt (own_L3 own_f66 (own_ix p1 (66 : Int32)) (own_ix p2 (66 : Int32)) (own_ix p3 (66 : Int32)) m1 m2 m3) (own_e3 own_f66 (3 : Int64) (own_ix p1 (66 : Int32)) (own_ix p2 (66 : Int32)) (own_ix p3 (66 : Int32)) m1 m2 m3) (66 : Int32) ((p4.toUInt32 >>> ((1 : Int32) &&& 31).toUInt32).toInt32 % (68 : Int32)) m4))]) rfl rfl rfl rfl (leb rfl) (leb rfl) (leb rfl) (leb rfl) (st' := [(.int (own_ref ((p4.toUInt32 >>> ((1 : Int32) &&& 31).toUInt32).toInt32 % (68 : Int32)) (66 : Int32) (own_ix p1 (66 : Int32)) (own_ix p2 (66 : Int32)) (own_ix p3 (66 : Int32)))), (.int (own_nxt (own_L3 own_f66 (own_ix p1 (66 : Int32)) (own_ix p2 (66 : Int32)) (own_ix p3 (66 : Int32)) m1 m2 m3) (own_e3 own_f66 (3 : Int64) (own_ix p1 (66 : Int32)) (own_ix p2 (66 : Int32)) (own_ix p3 (66 : Int32)) m1 m2 m3) (66 : Int32) ((p4.toUInt32 >>> ((1 : Int32) &&& 31).toUInt32).toInt32 % (68 : Int32)) m4))]) rfl (k' := 5) rfl (n' := 11) rfl ?_
      refine H.icmpF s0_118 (own_main q3 rfl (by decide) (by decide) f1 f2 f3 f4 (by omega)) ?_
      refine H.iconst s0_121 (v := (1 : Int32)) (by decide) ?_
      refine H.goto s0_122 ?_
      refine H.istore s0_126 (ls' := #[.val (.int p0), .val (.int p1), .val (.int p2), .val (.int p3), .val (.int p4), .val (.int (1 : Int32)), .val (.int (2 : Int32)), .val (.int (66 : Int32)), .val (.int (own_ix p1 (66 : Int32))), .val (.int (own_ix p2 (66 : Int32))), .val (.int (own_ix p3 (66 : Int32))), .val (.int ((p4.toUInt32 >>> ((1 : Int32) &&& 31).toUInt32).toInt32 % (68 : Int32))), .val (.ref (n0 + 0)), .val (.int (1 : Int32))]) rfl ?_
      refine H.iload s0_128 rfl ?_
      refine H.ifF s0_130 (show ¬ (1 : Int32) = (0 : Int32) by decide) ?_
      refine H.aload s0_133 rfl rfl ?_
      refine H.iconst s0_135 (v := (0 : Int32)) (by decide) ?_
      refine H.callVD s0_136 (k_31 hw) (m_nxt l hw n0 (own_L3 own_f66 (own_ix p1 (66 : Int32)) (own_ix p2 (66 : Int32)) (own_ix p3 (66 : Int32)) m1 m2 m3) (own_e3 own_f66 (3 : Int64) (own_ix p1 (66 : Int32)) (own_ix p2 (66 : Int32)) (own_ix p3 (66 : Int32)) m1 m2 m3) (66 : Int32) (own_f66.map Value.long) [(.long (3 : Int64))] (0 : Int32) 0 (by decide : (0 : Int32).toInt = ((0 : Nat) : Int)) (own_len4 q3 (by decide)) (own_he q3) (own_hz q3)) (i := 0) rfl (argsL := [(.int (0 : Int32))]) (rest := []) rfl rfl rfl rfl (leb rfl) (leb rfl) (leb rfl) (leb rfl) (st' := [(.int (own_nxt (own_L3 own_f66 (own_ix p1 (66 : Int32)) (own_ix p2 (66 : Int32)) (own_ix p3 (66 : Int32)) m1 m2 m3) (own_e3 own_f66 (3 : Int64) (own_ix p1 (66 : Int32)) (own_ix p2 (66 : Int32)) (own_ix p3 (66 : Int32)) m1 m2 m3) (66 : Int32) (0 : Int32) 0))]) rfl (k' := 5) rfl (n' := 11) rfl ?_
      refine H.iconst s0_139 (v := (0 : Int32)) (by decide) ?_
      refine H.iload s0_140 rfl ?_
      refine H.iload s0_142 rfl ?_
      refine H.iload s0_144 rfl ?_
      refine H.iload s0_146 rfl ?_
      refine H.callSD s0_148 (k_32 hw) (m_ref l hw n0 _ (0 : Int32) (66 : Int32) (own_ix p1 (66 : Int32)) (own_ix p2 (66 : Int32)) (own_ix p3 (66 : Int32))) (argsL := [(.int (0 : Int32)), (.int (66 : Int32)), (.int (own_ix p1 (66 : Int32))), (.int (own_ix p2 (66 : Int32))), (.int (own_ix p3 (66 : Int32)))]) (rest := [(.int (own_nxt (own_L3 own_f66 (own_ix p1 (66 : Int32)) (own_ix p2 (66 : Int32)) (own_ix p3 (66 : Int32)) m1 m2 m3) (own_e3 own_f66 (3 : Int64) (own_ix p1 (66 : Int32)) (own_ix p2 (66 : Int32)) (own_ix p3 (66 : Int32)) m1 m2 m3) (66 : Int32) (0 : Int32) 0))]) rfl rfl rfl rfl (leb rfl) (leb rfl) (leb rfl) (leb rfl) (st' := [(.int (own_ref (0 : Int32) (66 : Int32) (own_ix p1 (66 : Int32)) (own_ix p2 (66 : Int32)) (own_ix p3 (66 : Int32)))), (.int (own_nxt (own_L3 own_f66 (own_ix p1 (66 : Int32)) (own_ix p2 (66 : Int32)) (own_ix p3 (66 : Int32)) m1 m2 m3) (own_e3 own_f66 (3 : Int64) (own_ix p1 (66 : Int32)) (own_ix p2 (66 : Int32)) (own_ix p3 (66 : Int32)) m1 m2 m3) (66 : Int32) (0 : Int32) 0))]) rfl (k' := 5) rfl (n' := 11) rfl ?_
      refine H.icmpF s0_151 (own_main q3 rfl (by decide) (by decide) f1 f2 f3 (by decide : (0 : Int32).toInt = ((0 : Nat) : Int)) (by omega)) ?_
      refine H.iconst s0_154 (v := (1 : Int32)) (by decide) ?_
      refine H.goto s0_155 ?_
      refine H.istore s0_159 (ls' := #[.val (.int p0), .val (.int p1), .val (.int p2), .val (.int p3), .val (.int p4), .val (.int (1 : Int32)), .val (.int (2 : Int32)), .val (.int (66 : Int32)), .val (.int (own_ix p1 (66 : Int32))), .val (.int (own_ix p2 (66 : Int32))), .val (.int (own_ix p3 (66 : Int32))), .val (.int ((p4.toUInt32 >>> ((1 : Int32) &&& 31).toUInt32).toInt32 % (68 : Int32))), .val (.ref (n0 + 0)), .val (.int (1 : Int32))]) rfl ?_
      refine H.iload s0_161 rfl ?_
      refine H.ifF s0_163 (show ¬ (1 : Int32) = (0 : Int32) by decide) ?_
      refine H.aload s0_166 rfl rfl ?_
      refine H.iload s0_168 rfl ?_
      refine H.callVD s0_170 (k_31 hw) (m_nxt l hw n0 (own_L3 own_f66 (own_ix p1 (66 : Int32)) (own_ix p2 (66 : Int32)) (own_ix p3 (66 : Int32)) m1 m2 m3) (own_e3 own_f66 (3 : Int64) (own_ix p1 (66 : Int32)) (own_ix p2 (66 : Int32)) (own_ix p3 (66 : Int32)) m1 m2 m3) (66 : Int32) (own_f66.map Value.long) [(.long (3 : Int64))] (own_ix p1 (66 : Int32)) m1 f1 (own_len4 q3 (by decide)) (own_he q3) (own_hz q3)) (i := 0) rfl (argsL := [(.int (own_ix p1 (66 : Int32)))]) (rest := []) rfl rfl rfl rfl (leb rfl) (leb rfl) (leb rfl) (leb rfl) (st' := [(.int (own_nxt (own_L3 own_f66 (own_ix p1 (66 : Int32)) (own_ix p2 (66 : Int32)) (own_ix p3 (66 : Int32)) m1 m2 m3) (own_e3 own_f66 (3 : Int64) (own_ix p1 (66 : Int32)) (own_ix p2 (66 : Int32)) (own_ix p3 (66 : Int32)) m1 m2 m3) (66 : Int32) (own_ix p1 (66 : Int32)) m1))]) rfl (k' := 5) rfl (n' := 11) rfl ?_
      refine H.iload s0_173 rfl ?_
      refine H.iload s0_175 rfl ?_
      refine H.iload s0_177 rfl ?_
      refine H.iload s0_179 rfl ?_
      refine H.iload s0_181 rfl ?_
      refine H.callSD s0_183 (k_32 hw) (m_ref l hw n0 _ (own_ix p1 (66 : Int32)) (66 : Int32) (own_ix p1 (66 : Int32)) (own_ix p2 (66 : Int32)) (own_ix p3 (66 : Int32))) (argsL := [(.int (own_ix p1 (66 : Int32))), (.int (66 : Int32)), (.int (own_ix p1 (66 : Int32))), (.int (own_ix p2 (66 : Int32))), (.int (own_ix p3 (66 : Int32)))]) (rest := [(.int (own_nxt (own_L3 own_f66 (own_ix p1 (66 : Int32)) (own_ix p2 (66 : Int32)) (own_ix p3 (66 : Int32)) m1 m2 m3) (own_e3 own_f66 (3 : Int64) (own_ix p1 (66 : Int32)) (own_ix p2 (66 : Int32)) (own_ix p3 (66 : Int32)) m1 m2 m3) (66 : Int32) (own_ix p1 (66 : Int32)) m1))]) rfl rfl rfl rfl (leb rfl) (leb rfl) (leb rfl) (leb rfl) (st' := [(.int (own_ref (own_ix p1 (66 : Int32)) (66 : Int32) (own_ix p1 (66 : Int32)) (own_ix p2 (66 : Int32)) (own_ix p3 (66 : Int32)))), (.int (own_nxt (own_L3 own_f66 (own_ix p1 (66 : Int32)) (own_ix p2 (66 : Int32)) (own_ix p3 (66 : Int32)) m1 m2 m3) (own_e3 own_f66 (3 : Int64) (own_ix p1 (66 : Int32)) (own_ix p2 (66 : Int32)) (own_ix p3 (66 : Int32)) m1 m2 m3) (66 : Int32) (own_ix p1 (66 : Int32)) m1))]) rfl (k' := 5) rfl (n' := 11) rfl ?_
      refine H.icmpF s0_186 (own_main q3 rfl (by decide) (by decide) f1 f2 f3 f1 (by omega)) ?_
      refine H.iconst s0_189 (v := (1 : Int32)) (by decide) ?_
      refine H.goto s0_190 ?_
      refine H.istore s0_194 (ls' := #[.val (.int p0), .val (.int p1), .val (.int p2), .val (.int p3), .val (.int p4), .val (.int (1 : Int32)), .val (.int (2 : Int32)), .val (.int (66 : Int32)), .val (.int (own_ix p1 (66 : Int32))), .val (.int (own_ix p2 (66 : Int32))), .val (.int (own_ix p3 (66 : Int32))), .val (.int ((p4.toUInt32 >>> ((1 : Int32) &&& 31).toUInt32).toInt32 % (68 : Int32))), .val (.ref (n0 + 0)), .val (.int (1 : Int32))]) rfl ?_
      refine H.iload s0_196 rfl ?_
      refine H.ifF s0_198 (show ¬ (1 : Int32) = (0 : Int32) by decide) ?_
      refine H.aload s0_201 rfl rfl ?_
      refine H.iload s0_203 rfl ?_
      refine H.callVD s0_205 (k_31 hw) (m_nxt l hw n0 (own_L3 own_f66 (own_ix p1 (66 : Int32)) (own_ix p2 (66 : Int32)) (own_ix p3 (66 : Int32)) m1 m2 m3) (own_e3 own_f66 (3 : Int64) (own_ix p1 (66 : Int32)) (own_ix p2 (66 : Int32)) (own_ix p3 (66 : Int32)) m1 m2 m3) (66 : Int32) (own_f66.map Value.long) [(.long (3 : Int64))] (own_ix p2 (66 : Int32)) m2 f2 (own_len4 q3 (by decide)) (own_he q3) (own_hz q3)) (i := 0) rfl (argsL := [(.int (own_ix p2 (66 : Int32)))]) (rest := []) rfl rfl rfl rfl (leb rfl) (leb rfl) (leb rfl) (leb rfl) (st' := [(.int (own_nxt (own_L3 own_f66 (own_ix p1 (66 : Int32)) (own_ix p2 (66 : Int32)) (own_ix p3 (66 : Int32)) m1 m2 m3) (own_e3 own_f66 (3 : Int64) (own_ix p1 (66 : Int32)) (own_ix p2 (66 : Int32)) (own_ix p3 (66 : Int32)) m1 m2 m3) (66 : Int32) (own_ix p2 (66 : Int32)) m2))]) rfl (k' := 5) rfl (n' := 11) rfl ?_
      refine H.iload s0_208 rfl ?_
      refine H.iload s0_210 rfl ?_
      refine H.iload s0_212 rfl ?_
      refine H.iload s0_214 rfl ?_
      refine H.iload s0_216 rfl ?_
      refine H.callSD s0_218 (k_32 hw) (m_ref l hw n0 _ (own_ix p2 (66 : Int32)) (66 : Int32) (own_ix p1 (66 : Int32)) (own_ix p2 (66 : Int32)) (own_ix p3 (66 : Int32))) (argsL := [(.int (own_ix p2 (66 : Int32))), (.int (66 : Int32)), (.int (own_ix p1 (66 : Int32))), (.int (own_ix p2 (66 : Int32))), (.int (own_ix p3 (66 : Int32)))]) (rest := [(.int (own_nxt (own_L3 own_f66 (own_ix p1 (66 : Int32)) (own_ix p2 (66 : Int32)) (own_ix p3 (66 : Int32)) m1 m2 m3) (own_e3 own_f66 (3 : Int64) (own_ix p1 (66 : Int32)) (own_ix p2 (66 : Int32)) (own_ix p3 (66 : Int32)) m1 m2 m3) (66 : Int32) (own_ix p2 (66 : Int32)) m2))]) rfl rfl rfl rfl (leb rfl) (leb rfl) (leb rfl) (leb rfl) (st' := [(.int (own_ref (own_ix p2 (66 : Int32)) (66 : Int32) (own_ix p1 (66 : Int32)) (own_ix p2 (66 : Int32)) (own_ix p3 (66 : Int32)))), (.int (own_nxt (own_L3 own_f66 (own_ix p1 (66 : Int32)) (own_ix p2 (66 : Int32)) (own_ix p3 (66 : Int32)) m1 m2 m3) (own_e3 own_f66 (3 : Int64) (own_ix p1 (66 : Int32)) (own_ix p2 (66 : Int32)) (own_ix p3 (66 : Int32)) m1 m2 m3) (66 : Int32) (own_ix p2 (66 : Int32)) m2))]) rfl (k' := 5) rfl (n' := 11) rfl ?_
      refine H.icmpF s0_221 (own_main q3 rfl (by decide) (by decide) f1 f2 f3 f2 (by omega)) ?_
      refine H.iconst s0_224 (v := (1 : Int32)) (by decide) ?_
      refine H.goto s0_225 ?_
      refine H.istore s0_229 (ls' := #[.val (.int p0), .val (.int p1), .val (.int p2), .val (.int p3), .val (.int p4), .val (.int (1 : Int32)), .val (.int (2 : Int32)), .val (.int (66 : Int32)), .val (.int (own_ix p1 (66 : Int32))), .val (.int (own_ix p2 (66 : Int32))), .val (.int (own_ix p3 (66 : Int32))), .val (.int ((p4.toUInt32 >>> ((1 : Int32) &&& 31).toUInt32).toInt32 % (68 : Int32))), .val (.ref (n0 + 0)), .val (.int (1 : Int32))]) rfl ?_
      refine H.iload s0_231 rfl ?_
      refine H.ifF s0_233 (show ¬ (1 : Int32) = (0 : Int32) by decide) ?_
      refine H.aload s0_236 rfl rfl ?_
      refine H.iload s0_238 rfl ?_
      refine H.callVD s0_240 (k_31 hw) (m_nxt l hw n0 (own_L3 own_f66 (own_ix p1 (66 : Int32)) (own_ix p2 (66 : Int32)) (own_ix p3 (66 : Int32)) m1 m2 m3) (own_e3 own_f66 (3 : Int64) (own_ix p1 (66 : Int32)) (own_ix p2 (66 : Int32)) (own_ix p3 (66 : Int32)) m1 m2 m3) (66 : Int32) (own_f66.map Value.long) [(.long (3 : Int64))] (own_ix p3 (66 : Int32)) m3 f3 (own_len4 q3 (by decide)) (own_he q3) (own_hz q3)) (i := 0) rfl (argsL := [(.int (own_ix p3 (66 : Int32)))]) (rest := []) rfl rfl rfl rfl (leb rfl) (leb rfl) (leb rfl) (leb rfl) (st' := [(.int (own_nxt (own_L3 own_f66 (own_ix p1 (66 : Int32)) (own_ix p2 (66 : Int32)) (own_ix p3 (66 : Int32)) m1 m2 m3) (own_e3 own_f66 (3 : Int64) (own_ix p1 (66 : Int32)) (own_ix p2 (66 : Int32)) (own_ix p3 (66 : Int32)) m1 m2 m3) (66 : Int32) (own_ix p3 (66 : Int32)) m3))]) rfl (k' := 5) rfl (n' := 11) rfl ?_
      refine H.iload s0_243 rfl ?_
      refine H.iload s0_245 rfl ?_
      refine H.iload s0_247 rfl ?_
      refine H.iload s0_249 rfl ?_
      refine H.iload s0_251 rfl ?_
      refine H.callSD s0_253 (k_32 hw) (m_ref l hw n0 _ (own_ix p3 (66 : Int32)) (66 : Int32) (own_ix p1 (66 : Int32)) (own_ix p2 (66 : Int32)) (own_ix p3 (66 : Int32))) (argsL := [(.int (own_ix p3 (66 : Int32))), (.int (66 : Int32)), (.int (own_ix p1 (66 : Int32))), (.int (own_ix p2 (66 : Int32))), (.int (own_ix p3 (66 : Int32)))]) (rest := [(.int (own_nxt (own_L3 own_f66 (own_ix p1 (66 : Int32)) (own_ix p2 (66 : Int32)) (own_ix p3 (66 : Int32)) m1 m2 m3) (own_e3 own_f66 (3 : Int64) (own_ix p1 (66 : Int32)) (own_ix p2 (66 : Int32)) (own_ix p3 (66 : Int32)) m1 m2 m3) (66 : Int32) (own_ix p3 (66 : Int32)) m3))]) rfl rfl rfl rfl (leb rfl) (leb rfl) (leb rfl) (leb rfl) (st' := [(.int (own_ref (own_ix p3 (66 : Int32)) (66 : Int32) (own_ix p1 (66 : Int32)) (own_ix p2 (66 : Int32)) (own_ix p3 (66 : Int32)))), (.int (own_nxt (own_L3 own_f66 (own_ix p1 (66 : Int32)) (own_ix p2 (66 : Int32)) (own_ix p3 (66 : Int32)) m1 m2 m3) (own_e3 own_f66 (3 : Int64) (own_ix p1 (66 : Int32)) (own_ix p2 (66 : Int32)) (own_ix p3 (66 : Int32)) m1 m2 m3) (66 : Int32) (own_ix p3 (66 : Int32)) m3))]) rfl (k' := 5) rfl (n' := 11) rfl ?_
      refine H.icmpF s0_256 (own_main q3 rfl (by decide) (by decide) f1 f2 f3 f3 (by omega)) ?_
      refine H.iconst s0_259 (v := (1 : Int32)) (by decide) ?_
      refine H.goto s0_260 ?_
      refine H.istore s0_264 (ls' := #[.val (.int p0), .val (.int p1), .val (.int p2), .val (.int p3), .val (.int p4), .val (.int (1 : Int32)), .val (.int (2 : Int32)), .val (.int (66 : Int32)), .val (.int (own_ix p1 (66 : Int32))), .val (.int (own_ix p2 (66 : Int32))), .val (.int (own_ix p3 (66 : Int32))), .val (.int ((p4.toUInt32 >>> ((1 : Int32) &&& 31).toUInt32).toInt32 % (68 : Int32))), .val (.ref (n0 + 0)), .val (.int (1 : Int32))]) rfl ?_
      refine H.iload s0_266 rfl ?_
      exact H.ireturn s0_268 rfl (by simp) rfl rfl (by decide) (by decide)
    · refine H.iand s0_9 (w := (3 : Int32)) hz9 ?_
      refine H.istore s0_10 (ls' := #[.val (.int p0), .val (.int p1), .val (.int p2), .val (.int p3), .val (.int p4), .val (.int (1 : Int32)), .val (.int (3 : Int32)), .unset, .unset, .unset, .unset, .unset, .unset, .unset]) rfl ?_
      refine H.iconst s0_12 (v := (1 : Int32)) (by decide) ?_
      refine H.iload s0_13 rfl ?_
      refine H.bipush s0_15 (v := (6 : Int32)) (by decide) ?_
      refine H.ishl s0_17 (w := (64 : Int32)) (by decide) ?_
      refine H.iload s0_18 rfl ?_
      refine H.iadd s0_20 (w := (67 : Int32)) (by decide) ?_
      refine H.callSD s0_21 (k_13 hw) (a_55 l hw n0) (argsL := [(.int (1 : Int32)), (.int (67 : Int32))]) (rest := []) rfl rfl rfl rfl (leb rfl) (leb rfl) (leb rfl) (leb rfl) (st' := [(.int (67 : Int32))]) rfl (k' := 0) rfl (n' := 0) rfl ?_
      refine H.istore s0_24 (ls' := #[.val (.int p0), .val (.int p1), .val (.int p2), .val (.int p3), .val (.int p4), .val (.int (1 : Int32)), .val (.int (3 : Int32)), .val (.int (67 : Int32)), .unset, .unset, .unset, .unset, .unset, .unset]) rfl ?_
      refine H.iloadN s0_26 rfl ?_
      refine H.iload s0_27 rfl ?_
      refine H.callSD s0_29 (k_14 hw) (m_ix l hw n0 _ p1 (67 : Int32) (by decide)) (argsL := [(.int p1), (.int (67 : Int32))]) (rest := []) rfl rfl rfl rfl (leb rfl) (leb rfl) (leb rfl) (leb rfl) (st' := [(.int (own_ix p1 (67 : Int32)))]) rfl (k' := 0) rfl (n' := 0) rfl ?_
      refine H.istore s0_32 (ls' := #[.val (.int p0), .val (.int p1), .val (.int p2), .val (.int p3), .val (.int p4), .val (.int (1 : Int32)), .val (.int (3 : Int32)), .val (.int (67 : Int32)), .val (.int (own_ix p1 (67 : Int32))), .unset, .unset, .unset, .unset, .unset]) rfl ?_
      refine H.iloadN s0_34 rfl ?_
      refine H.iload s0_35 rfl ?_
      refine H.callSD s0_37 (k_14 hw) (m_ix l hw n0 _ p2 (67 : Int32) (by decide)) (argsL := [(.int p2), (.int (67 : Int32))]) (rest := []) rfl rfl rfl rfl (leb rfl) (leb rfl) (leb rfl) (leb rfl) (st' := [(.int (own_ix p2 (67 : Int32)))]) rfl (k' := 0) rfl (n' := 0) rfl ?_
      refine H.istore s0_40 (ls' := #[.val (.int p0), .val (.int p1), .val (.int p2), .val (.int p3), .val (.int p4), .val (.int (1 : Int32)), .val (.int (3 : Int32)), .val (.int (67 : Int32)), .val (.int (own_ix p1 (67 : Int32))), .val (.int (own_ix p2 (67 : Int32))), .unset, .unset, .unset, .unset]) rfl ?_
      refine H.iloadN s0_42 rfl ?_
      refine H.iload s0_43 rfl ?_
      refine H.callSD s0_45 (k_14 hw) (m_ix l hw n0 _ p3 (67 : Int32) (by decide)) (argsL := [(.int p3), (.int (67 : Int32))]) (rest := []) rfl rfl rfl rfl (leb rfl) (leb rfl) (leb rfl) (leb rfl) (st' := [(.int (own_ix p3 (67 : Int32)))]) rfl (k' := 0) rfl (n' := 0) rfl ?_
      refine H.istore s0_48 (ls' := #[.val (.int p0), .val (.int p1), .val (.int p2), .val (.int p3), .val (.int p4), .val (.int (1 : Int32)), .val (.int (3 : Int32)), .val (.int (67 : Int32)), .val (.int (own_ix p1 (67 : Int32))), .val (.int (own_ix p2 (67 : Int32))), .val (.int (own_ix p3 (67 : Int32))), .unset, .unset, .unset]) rfl ?_
      refine H.iload s0_50 rfl ?_
      refine H.iconst s0_52 (v := (1 : Int32)) (by decide) ?_
      refine H.iushr s0_53 rfl ?_
      refine H.iload s0_54 rfl ?_
      refine H.iconst s0_56 (v := (2 : Int32)) (by decide) ?_
      refine H.iadd s0_57 (w := (69 : Int32)) (by decide) ?_
      refine H.irem s0_58 (by decide) (w := ((p4.toUInt32 >>> ((1 : Int32) &&& 31).toUInt32).toInt32 % (69 : Int32))) rfl ?_
      refine H.istore s0_59 (ls' := #[.val (.int p0), .val (.int p1), .val (.int p2), .val (.int p3), .val (.int p4), .val (.int (1 : Int32)), .val (.int (3 : Int32)), .val (.int (67 : Int32)), .val (.int (own_ix p1 (67 : Int32))), .val (.int (own_ix p2 (67 : Int32))), .val (.int (own_ix p3 (67 : Int32))), .val (.int ((p4.toUInt32 >>> ((1 : Int32) &&& 31).toUInt32).toInt32 % (69 : Int32))), .unset, .unset]) rfl ?_
      refine H.new s0_61 (k_15 hw) rfl (by decide) (by decide) (i := 0) rfl (A' := [.inl (0, [(.int (0 : Int32)), .null, .null, .null, .null])]) rfl (k' := 1) rfl (n' := 5) rfl ?_
      refine H.dup s0_64 rfl ?_
      refine H.iload s0_65 rfl ?_
      refine H.callCD s0_67 (k_25 hw) (a_56 l hw n0) (argsL := [(.int (67 : Int32))]) (rest := [(.ref (n0 + 0))]) rfl rfl rfl rfl (leb rfl) (leb rfl) (leb rfl) (leb rfl) (st' := [(.ref (n0 + 0))]) rfl (k' := 5) rfl (n' := 11) rfl ?_
      refine H.astore s0_70 rfl (ls' := #[.val (.int p0), .val (.int p1), .val (.int p2), .val (.int p3), .val (.int p4), .val (.int (1 : Int32)), .val (.int (3 : Int32)), .val (.int (67 : Int32)), .val (.int (own_ix p1 (67 : Int32))), .val (.int (own_ix p2 (67 : Int32))), .val (.int (own_ix p3 (67 : Int32))), .val (.int ((p4.toUInt32 >>> ((1 : Int32) &&& 31).toUInt32).toInt32 % (69 : Int32))), .val (.ref (n0 + 0)), .unset]) rfl ?_
      refine H.aload s0_72 rfl rfl ?_
      refine H.callVD s0_74 (k_29 hw) (a_63 l hw n0) (i := 0) rfl (argsL := []) (rest := []) rfl rfl rfl rfl (leb rfl) (leb rfl) (leb rfl) (leb rfl) (st' := []) rfl (k' := 5) rfl (n' := 11) rfl ?_
      refine H.aload s0_77 rfl rfl ?_
      refine H.iload s0_79 rfl ?_
      obtain ⟨m1, f1, g1⟩ := own_ix_r p1 (67 : Int32) 67 (by decide) (by decide) (by decide)
      obtain ⟨m2, f2, g2⟩ := own_ix_r p2 (67 : Int32) 67 (by decide) (by decide) (by decide)
      obtain ⟨m3, f3, g3⟩ := own_ix_r p3 (67 : Int32) 67 (by decide) (by decide) (by decide)
      obtain ⟨m4, f4, g4⟩ := own_fr_r p4 (69 : Int32) 69 (by decide) (by decide)
      have q0 := inv_67
      obtain ⟨q1, q2, q3⟩ := own_inv3 q0 (by decide) (by decide) f1 f2 f3 g1 g2 g3
      refine H.callVD s0_81 (k_30 hw) (m_rem l hw n0 own_f67 (3 : Int64) (67 : Int32) (own_f67.map Value.long) [(.long (3 : Int64))] (own_ix p1 (67 : Int32)) m1 f1 (own_len q0 (by omega)) (own_len4 q0 (by decide))) (i := 0) rfl (argsL := [(.int (own_ix p1 (67 : Int32)))]) (rest := []) rfl rfl rfl rfl (leb rfl) (leb rfl) (leb rfl) (leb rfl) (st' := []) rfl (k' := 5) rfl (n' := 11) rfl ?_
      refine H.aload s0_84 rfl rfl ?_
      refine H.iload s0_86 rfl ?_
      refine H.callVD s0_88 (k_30 hw) (m_rem l hw n0 (own_Lr own_f67 (own_ix p1 (67 : Int32)) m1) (own_e own_f67 (3 : Int64) (own_ix p1 (67 : Int32)) m1) (67 : Int32) (own_f67.map Value.long) [(.long (3 : Int64))] (own_ix p2 (67 : Int32)) m2 f2 (own_len q1 (by omega)) (own_len4 q1 (by decide))) (i := 0) rfl (argsL := [(.int (own_ix p2 (67 : Int32)))]) (rest := []) rfl rfl rfl rfl (leb rfl) (leb rfl) (leb rfl) (leb rfl) (st' := []) rfl (k' := 5) rfl (n' := 11) rfl ?_
      refine H.aload s0_91 rfl rfl ?_
      refine H.iload s0_93 rfl ?_
      refine H.callVD s0_95 (k_30 hw) (m_rem l hw n0 (own_L2 own_f67 (own_ix p1 (67 : Int32)) (own_ix p2 (67 : Int32)) m1 m2) (own_e2 own_f67 (3 : Int64) (own_ix p1 (67 : Int32)) (own_ix p2 (67 : Int32)) m1 m2) (67 : Int32) (own_f67.map Value.long) [(.long (3 : Int64))] (own_ix p3 (67 : Int32)) m3 f3 (own_len q2 (by omega)) (own_len4 q2 (by decide))) (i := 0) rfl (argsL := [(.int (own_ix p3 (67 : Int32)))]) (rest := []) rfl rfl rfl rfl (leb rfl) (leb rfl) (leb rfl) (leb rfl) (st' := []) rfl (k' := 5) rfl (n' := 11) rfl ?_
      refine H.aload s0_98 rfl rfl ?_
      refine H.iload s0_100 rfl ?_
      refine H.callVD s0_102 (k_31 hw) (m_nxt l hw n0 (own_L3 own_f67 (own_ix p1 (67 : Int32)) (own_ix p2 (67 : Int32)) (own_ix p3 (67 : Int32)) m1 m2 m3) (own_e3 own_f67 (3 : Int64) (own_ix p1 (67 : Int32)) (own_ix p2 (67 : Int32)) (own_ix p3 (67 : Int32)) m1 m2 m3) (67 : Int32) (own_f67.map Value.long) [(.long (3 : Int64))] ((p4.toUInt32 >>> ((1 : Int32) &&& 31).toUInt32).toInt32 % (69 : Int32)) m4 f4 (own_len4 q3 (by decide)) (own_he q3) (own_hz q3)) (i := 0) rfl (argsL := [(.int ((p4.toUInt32 >>> ((1 : Int32) &&& 31).toUInt32).toInt32 % (69 : Int32)))]) (rest := []) rfl rfl rfl rfl (leb rfl) (leb rfl) (leb rfl) (leb rfl) (st' := [(.int (own_nxt (own_L3 own_f67 (own_ix p1 (67 : Int32)) (own_ix p2 (67 : Int32)) (own_ix p3 (67 : Int32)) m1 m2 m3) (own_e3 own_f67 (3 : Int64) (own_ix p1 (67 : Int32)) (own_ix p2 (67 : Int32)) (own_ix p3 (67 : Int32)) m1 m2 m3) (67 : Int32) ((p4.toUInt32 >>> ((1 : Int32) &&& 31).toUInt32).toInt32 % (69 : Int32)) m4))]) rfl (k' := 5) rfl (n' := 11) rfl ?_
      refine H.iload s0_105 rfl ?_
      refine H.iload s0_107 rfl ?_
      refine H.iload s0_109 rfl ?_
      refine H.iload s0_111 rfl ?_
      refine H.iload s0_113 rfl ?_
      refine H.callSD s0_115 (k_32 hw) (m_ref l hw n0 _ ((p4.toUInt32 >>> ((1 : Int32) &&& 31).toUInt32).toInt32 % (69 : Int32)) (67 : Int32) (own_ix p1 (67 : Int32)) (own_ix p2 (67 : Int32)) (own_ix p3 (67 : Int32))) (argsL := [(.int ((p4.toUInt32 >>> ((1 : Int32) &&& 31).toUInt32).toInt32 % (69 : Int32))), (.int (67 : Int32)), (.int (own_ix p1 (67 : Int32))), (.int (own_ix p2 (67 : Int32))), (.int (own_ix p3 (67 : Int32)))]) (rest := [(.int (own_nxt (own_L3 own_f67 (own_ix p1 (67 : Int32)) (own_ix p2 (67 : Int32)) (own_ix p3 (67 : Int32)) m1 m2 m3) (own_e3 own_f67 (3 : Int64) (own_ix p1 (67 : Int32)) (own_ix p2 (67 : Int32)) (own_ix p3 (67 : Int32)) m1 m2 m3) (67 : Int32) ((p4.toUInt32 >>> ((1 : Int32) &&& 31).toUInt32).toInt32 % (69 : Int32)) m4))]) rfl rfl rfl rfl (leb rfl) (leb rfl) (leb rfl) (leb rfl) (st' := [(.int (own_ref ((p4.toUInt32 >>> ((1 : Int32) &&& 31).toUInt32).toInt32 % (69 : Int32)) (67 : Int32) (own_ix p1 (67 : Int32)) (own_ix p2 (67 : Int32)) (own_ix p3 (67 : Int32)))), (.int (own_nxt (own_L3 own_f67 (own_ix p1 (67 : Int32)) (own_ix p2 (67 : Int32)) (own_ix p3 (67 : Int32)) m1 m2 m3) (own_e3 own_f67 (3 : Int64) (own_ix p1 (67 : Int32)) (own_ix p2 (67 : Int32)) (own_ix p3 (67 : Int32)) m1 m2 m3) (67 : Int32) ((p4.toUInt32 >>> ((1 : Int32) &&& 31).toUInt32).toInt32 % (69 : Int32)) m4))]) rfl (k' := 5) rfl (n' := 11) rfl ?_
      refine H.icmpF s0_118 (own_main q3 rfl (by decide) (by decide) f1 f2 f3 f4 (by omega)) ?_
      refine H.iconst s0_121 (v := (1 : Int32)) (by decide) ?_
      refine H.goto s0_122 ?_
      refine H.istore s0_126 (ls' := #[.val (.int p0), .val (.int p1), .val (.int p2), .val (.int p3), .val (.int p4), .val (.int (1 : Int32)), .val (.int (3 : Int32)), .val (.int (67 : Int32)), .val (.int (own_ix p1 (67 : Int32))), .val (.int (own_ix p2 (67 : Int32))), .val (.int (own_ix p3 (67 : Int32))), .val (.int ((p4.toUInt32 >>> ((1 : Int32) &&& 31).toUInt32).toInt32 % (69 : Int32))), .val (.ref (n0 + 0)), .val (.int (1 : Int32))]) rfl ?_
      refine H.iload s0_128 rfl ?_
      refine H.ifF s0_130 (show ¬ (1 : Int32) = (0 : Int32) by decide) ?_
      refine H.aload s0_133 rfl rfl ?_
      refine H.iconst s0_135 (v := (0 : Int32)) (by decide) ?_
      refine H.callVD s0_136 (k_31 hw) (m_nxt l hw n0 (own_L3 own_f67 (own_ix p1 (67 : Int32)) (own_ix p2 (67 : Int32)) (own_ix p3 (67 : Int32)) m1 m2 m3) (own_e3 own_f67 (3 : Int64) (own_ix p1 (67 : Int32)) (own_ix p2 (67 : Int32)) (own_ix p3 (67 : Int32)) m1 m2 m3) (67 : Int32) (own_f67.map Value.long) [(.long (3 : Int64))] (0 : Int32) 0 (by decide : (0 : Int32).toInt = ((0 : Nat) : Int)) (own_len4 q3 (by decide)) (own_he q3) (own_hz q3)) (i := 0) rfl (argsL := [(.int (0 : Int32))]) (rest := []) rfl rfl rfl rfl (leb rfl) (leb rfl) (leb rfl) (leb rfl) (st' := [(.int (own_nxt (own_L3 own_f67 (own_ix p1 (67 : Int32)) (own_ix p2 (67 : Int32)) (own_ix p3 (67 : Int32)) m1 m2 m3) (own_e3 own_f67 (3 : Int64) (own_ix p1 (67 : Int32)) (own_ix p2 (67 : Int32)) (own_ix p3 (67 : Int32)) m1 m2 m3) (67 : Int32) (0 : Int32) 0))]) rfl (k' := 5) rfl (n' := 11) rfl ?_
      refine H.iconst s0_139 (v := (0 : Int32)) (by decide) ?_
      refine H.iload s0_140 rfl ?_
      refine H.iload s0_142 rfl ?_
      refine H.iload s0_144 rfl ?_
      refine H.iload s0_146 rfl ?_
      refine H.callSD s0_148 (k_32 hw) (m_ref l hw n0 _ (0 : Int32) (67 : Int32) (own_ix p1 (67 : Int32)) (own_ix p2 (67 : Int32)) (own_ix p3 (67 : Int32))) (argsL := [(.int (0 : Int32)), (.int (67 : Int32)), (.int (own_ix p1 (67 : Int32))), (.int (own_ix p2 (67 : Int32))), (.int (own_ix p3 (67 : Int32)))]) (rest := [(.int (own_nxt (own_L3 own_f67 (own_ix p1 (67 : Int32)) (own_ix p2 (67 : Int32)) (own_ix p3 (67 : Int32)) m1 m2 m3) (own_e3 own_f67 (3 : Int64) (own_ix p1 (67 : Int32)) (own_ix p2 (67 : Int32)) (own_ix p3 (67 : Int32)) m1 m2 m3) (67 : Int32) (0 : Int32) 0))]) rfl rfl rfl rfl (leb rfl) (leb rfl) (leb rfl) (leb rfl) (st' := [(.int (own_ref (0 : Int32) (67 : Int32) (own_ix p1 (67 : Int32)) (own_ix p2 (67 : Int32)) (own_ix p3 (67 : Int32)))), (.int (own_nxt (own_L3 own_f67 (own_ix p1 (67 : Int32)) (own_ix p2 (67 : Int32)) (own_ix p3 (67 : Int32)) m1 m2 m3) (own_e3 own_f67 (3 : Int64) (own_ix p1 (67 : Int32)) (own_ix p2 (67 : Int32)) (own_ix p3 (67 : Int32)) m1 m2 m3) (67 : Int32) (0 : Int32) 0))]) rfl (k' := 5) rfl (n' := 11) rfl ?_
      refine H.icmpF s0_151 (own_main q3 rfl (by decide) (by decide) f1 f2 f3 (by decide : (0 : Int32).toInt = ((0 : Nat) : Int)) (by omega)) ?_
      refine H.iconst s0_154 (v := (1 : Int32)) (by decide) ?_
      refine H.goto s0_155 ?_
      refine H.istore s0_159 (ls' := #[.val (.int p0), .val (.int p1), .val (.int p2), .val (.int p3), .val (.int p4), .val (.int (1 : Int32)), .val (.int (3 : Int32)), .val (.int (67 : Int32)), .val (.int (own_ix p1 (67 : Int32))), .val (.int (own_ix p2 (67 : Int32))), .val (.int (own_ix p3 (67 : Int32))), .val (.int ((p4.toUInt32 >>> ((1 : Int32) &&& 31).toUInt32).toInt32 % (69 : Int32))), .val (.ref (n0 + 0)), .val (.int (1 : Int32))]) rfl ?_
      refine H.iload s0_161 rfl ?_
      refine H.ifF s0_163 (show ¬ (1 : Int32) = (0 : Int32) by decide) ?_
      refine H.aload s0_166 rfl rfl ?_
      refine H.iload s0_168 rfl ?_
      refine H.callVD s0_170 (k_31 hw) (m_nxt l hw n0 (own_L3 own_f67 (own_ix p1 (67 : Int32)) (own_ix p2 (67 : Int32)) (own_ix p3 (67 : Int32)) m1 m2 m3) (own_e3 own_f67 (3 : Int64) (own_ix p1 (67 : Int32)) (own_ix p2 (67 : Int32)) (own_ix p3 (67 : Int32)) m1 m2 m3) (67 : Int32) (own_f67.map Value.long) [(.long (3 : Int64))] (own_ix p1 (67 : Int32)) m1 f1 (own_len4 q3 (by decide)) (own_he q3) (own_hz q3)) (i := 0) rfl (argsL := [(.int (own_ix p1 (67 : Int32)))]) (rest := []) rfl rfl rfl rfl (leb rfl) (leb rfl) (leb rfl) (leb rfl) (st' := [(.int (own_nxt (own_L3 own_f67 (own_ix p1 (67 : Int32)) (own_ix p2 (67 : Int32)) (own_ix p3 (67 : Int32)) m1 m2 m3) (own_e3 own_f67 (3 : Int64) (own_ix p1 (67 : Int32)) (own_ix p2 (67 : Int32)) (own_ix p3 (67 : Int32)) m1 m2 m3) (67 : Int32) (own_ix p1 (67 : Int32)) m1))]) rfl (k' := 5) rfl (n' := 11) rfl ?_
      refine H.iload s0_173 rfl ?_
      refine H.iload s0_175 rfl ?_
      refine H.iload s0_177 rfl ?_
      refine H.iload s0_179 rfl ?_
      refine H.iload s0_181 rfl ?_
      refine H.callSD s0_183 (k_32 hw) (m_ref l hw n0 _ (own_ix p1 (67 : Int32)) (67 : Int32) (own_ix p1 (67 : Int32)) (own_ix p2 (67 : Int32)) (own_ix p3 (67 : Int32))) (argsL := [(.int (own_ix p1 (67 : Int32))), (.int (67 : Int32)), (.int (own_ix p1 (67 : Int32))), (.int (own_ix p2 (67 : Int32))), (.int (own_ix p3 (67 : Int32)))]) (rest := [(.int (own_nxt (own_L3 own_f67 (own_ix p1 (67 : Int32)) (own_ix p2 (67 : Int32)) (own_ix p3 (67 : Int32)) m1 m2 m3) (own_e3 own_f67 (3 : Int64) (own_ix p1 (67 : Int32)) (own_ix p2 (67 : Int32)) (own_ix p3 (67 : Int32)) m1 m2 m3) (67 : Int32) (own_ix p1 (67 : Int32)) m1))]) rfl rfl rfl rfl (leb rfl) (leb rfl) (leb rfl) (leb rfl) (st' := [(.int (own_ref (own_ix p1 (67 : Int32)) (67 : Int32) (own_ix p1 (67 : Int32)) (own_ix p2 (67 : Int32)) (own_ix p3 (67 : Int32)))), (.int (own_nxt (own_L3 own_f67 (own_ix p1 (67 : Int32)) (own_ix p2 (67 : Int32)) (own_ix p3 (67 : Int32)) m1 m2 m3) (own_e3 own_f67 (3 : Int64) (own_ix p1 (67 : Int32)) (own_ix p2 (67 : Int32)) (own_ix p3 (67 : Int32)) m1 m2 m3) (67 : Int32) (own_ix p1 (67 : Int32)) m1))]) rfl (k' := 5) rfl (n' := 11) rfl ?_
      refine H.icmpF s0_186 (own_main q3 rfl (by decide) (by decide) f1 f2 f3 f1 (by omega)) ?_
      refine H.iconst s0_189 (v := (1 : Int32)) (by decide) ?_
      refine H.goto s0_190 ?_
      refine H.istore s0_194 (ls' := #[.val (.int p0), .val (.int p1), .val (.int p2), .val (.int p3), .val (.int p4), .val (.int (1 : Int32)), .val (.int (3 : Int32)), .val (.int (67 : Int32)), .val (.int (own_ix p1 (67 : Int32))), .val (.int (own_ix p2 (67 : Int32))), .val (.int (own_ix p3 (67 : Int32))), .val (.int ((p4.toUInt32 >>> ((1 : Int32) &&& 31).toUInt32).toInt32 % (69 : Int32))), .val (.ref (n0 + 0)), .val (.int (1 : Int32))]) rfl ?_
      refine H.iload s0_196 rfl ?_
      refine H.ifF s0_198 (show ¬ (1 : Int32) = (0 : Int32) by decide) ?_
      refine H.aload s0_201 rfl rfl ?_
      refine H.iload s0_203 rfl ?_
      refine H.callVD s0_205 (k_31 hw) (m_nxt l hw n0 (own_L3 own_f67 (own_ix p1 (67 : Int32)) (own_ix p2 (67 : Int32)) (own_ix p3 (67 : Int32)) m1 m2 m3) (own_e3 own_f67 (3 : Int64) (own_ix p1 (67 : Int32)) (own_ix p2 (67 : Int32)) (own_ix p3 (67 : Int32)) m1 m2 m3) (67 : Int32) (own_f67.map Value.long) [(.long (3 : Int64))] (own_ix p2 (67 : Int32)) m2 f2 (own_len4 q3 (by decide)) (own_he q3) (own_hz q3)) (i := 0) rfl (argsL := [(.int (own_ix p2 (67 : Int32)))]) (rest := []) rfl rfl rfl rfl (leb rfl) (leb rfl) (leb rfl) (leb rfl) (st' := [(.int (own_nxt (own_L3 own_f67 (own_ix p1 (67 : Int32)) (own_ix p2 (67 : Int32)) (own_ix p3 (67 : Int32)) m1 m2 m3) (own_e3 own_f67 (3 : Int64) (own_ix p1 (67 : Int32)) (own_ix p2 (67 : Int32)) (own_ix p3 (67 : Int32)) m1 m2 m3) (67 : Int32) (own_ix p2 (67 : Int32)) m2))]) rfl (k' := 5) rfl (n' := 11) rfl ?_
      refine H.iload s0_208 rfl ?_
      refine H.iload s0_210 rfl ?_
      refine H.iload s0_212 rfl ?_
      refine H.iload s0_214 rfl ?_
      refine H.iload s0_216 rfl ?_
      refine H.callSD s0_218 (k_32 hw) (m_ref l hw n0 _ (own_ix p2 (67 : Int32)) (67 : Int32) (own_ix p1 (67 : Int32)) (own_ix p2 (67 : Int32)) (own_ix p3 (67 : Int32))) (argsL := [(.int (own_ix p2 (67 : Int32))), (.int (67 : Int32)), (.int (own_ix p1 (67 : Int32))), (.int (own_ix p2 (67 : Int32))), (.int (own_ix p3 (67 : Int32)))]) (rest := [(.int (own_nxt (own_L3 own_f67 (own_ix p1 (67 : Int32)) (own_ix p2 (67 : Int32)) (own_ix p3 (67 : Int32)) m1 m2 m3) (own_e3 own_f67 (3 : Int64) (own_ix p1 (67 : Int32)) (own_ix p2 (67 : Int32)) (own_ix p3 (67 : Int32)) m1 m2 m3) (67 : Int32) (own_ix p2 (67 : Int32)) m2))]) rfl rfl rfl rfl (leb rfl) (leb rfl) (leb rfl) (leb rfl) (st' := [(.int (own_ref (own_ix p2 (67 : Int32)) (67 : Int32) (own_ix p1 (67 : Int32)) (own_ix p2 (67 : Int32)) (own_ix p3 (67 : Int32)))), (.int (own_nxt (own_L3 own_f67 (own_ix p1 (67 : Int32)) (own_ix p2 (67 : Int32)) (own_ix p3 (67 : Int32)) m1 m2 m3) (own_e3 own_f67 (3 : Int64) (own_ix p1 (67 : Int32)) (own_ix p2 (67 : Int32)) (own_ix p3 (67 : Int32)) m1 m2 m3) (67 : Int32) (own_ix p2 (67 : Int32)) m2))]) rfl (k' := 5) rfl (n' := 11) rfl ?_
      refine H.icmpF s0_221 (own_main q3 rfl (by decide) (by decide) f1 f2 f3 f2 (by omega)) ?_
      refine H.iconst s0_224 (v := (1 : Int32)) (by decide) ?_
      refine H.goto s0_225 ?_
      refine H.istore s0_229 (ls' := #[.val (.int p0), .val (.int p1), .val (.int p2), .val (.int p3), .val (.int p4), .val (.int (1 : Int32)), .val (.int (3 : Int32)), .val (.int (67 : Int32)), .val (.int (own_ix p1 (67 : Int32))), .val (.int (own_ix p2 (67 : Int32))), .val (.int (own_ix p3 (67 : Int32))), .val (.int ((p4.toUInt32 >>> ((1 : Int32) &&& 31).toUInt32).toInt32 % (69 : Int32))), .val (.ref (n0 + 0)), .val (.int (1 : Int32))]) rfl ?_
      refine H.iload s0_231 rfl ?_
      refine H.ifF s0_233 (show ¬ (1 : Int32) = (0 : Int32) by decide) ?_
      refine H.aload s0_236 rfl rfl ?_
      refine H.iload s0_238 rfl ?_
      refine H.callVD s0_240 (k_31 hw) (m_nxt l hw n0 (own_L3 own_f67 (own_ix p1 (67 : Int32)) (own_ix p2 (67 : Int32)) (own_ix p3 (67 : Int32)) m1 m2 m3) (own_e3 own_f67 (3 : Int64) (own_ix p1 (67 : Int32)) (own_ix p2 (67 : Int32)) (own_ix p3 (67 : Int32)) m1 m2 m3) (67 : Int32) (own_f67.map Value.long) [(.long (3 : Int64))] (own_ix p3 (67 : Int32)) m3 f3 (own_len4 q3 (by decide)) (own_he q3) (own_hz q3)) (i := 0) rfl (argsL := [(.int (own_ix p3 (67 : Int32)))]) (rest := []) rfl rfl rfl rfl (leb rfl) (leb rfl) (leb rfl) (leb rfl) (st' := [(.int (own_nxt (own_L3 own_f67 (own_ix p1 (67 : Int32)) (own_ix p2 (67 : Int32)) (own_ix p3 (67 : Int32)) m1 m2 m3) (own_e3 own_f67 (3 : Int64) (own_ix p1 (67 : Int32)) (own_ix p2 (67 : Int32)) (own_ix p3 (67 : Int32)) m1 m2 m3) (67 : Int32) (own_ix p3 (67 : Int32)) m3))]) rfl (k' := 5) rfl (n' := 11) rfl ?_
      refine H.iload s0_243 rfl ?_
      refine H.iload s0_245 rfl ?_
      refine H.iload s0_247 rfl ?_
      refine H.iload s0_249 rfl ?_
      refine H.iload s0_251 rfl ?_
      refine H.callSD s0_253 (k_32 hw) (m_ref l hw n0 _ (own_ix p3 (67 : Int32)) (67 : Int32) (own_ix p1 (67 : Int32)) (own_ix p2 (67 : Int32)) (own_ix p3 (67 : Int32))) (argsL := [(.int (own_ix p3 (67 : Int32))), (.int (67 : Int32)), (.int (own_ix p1 (67 : Int32))), (.int (own_ix p2 (67 : Int32))), (.int (own_ix p3 (67 : Int32)))]) (rest := [(.int (own_nxt (own_L3 own_f67 (own_ix p1 (67 : Int32)) (own_ix p2 (67 : Int32)) (own_ix p3 (67 : Int32)) m1 m2 m3) (own_e3 own_f67 (3 : Int64) (own_ix p1 (67 : Int32)) (own_ix p2 (67 : Int32)) (own_ix p3 (67 : Int32)) m1 m2 m3) (67 : Int32) (own_ix p3 (67 : Int32)) m3))]) rfl rfl rfl rfl (leb rfl) (leb rfl) (leb rfl) (leb rfl) (st' := [(.int (own_ref (own_ix p3 (67 : Int32)) (67 : Int32) (own_ix p1 (67 : Int32)) (own_ix p2 (67 : Int32)) (own_ix p3 (67 : Int32)))), (.int (own_nxt (own_L3 own_f67 (own_ix p1 (67 : Int32)) (own_ix p2 (67 : Int32)) (own_ix p3 (67 : Int32)) m1 m2 m3) (own_e3 own_f67 (3 : Int64) (own_ix p1 (67 : Int32)) (own_ix p2 (67 : Int32)) (own_ix p3 (67 : Int32)) m1 m2 m3) (67 : Int32) (own_ix p3 (67 : Int32)) m3))]) rfl (k' := 5) rfl (n' := 11) rfl ?_
      refine H.icmpF s0_256 (own_main q3 rfl (by decide) (by decide) f1 f2 f3 f3 (by omega)) ?_
      refine H.iconst s0_259 (v := (1 : Int32)) (by decide) ?_
      refine H.goto s0_260 ?_
      refine H.istore s0_264 (ls' := #[.val (.int p0), .val (.int p1), .val (.int p2), .val (.int p3), .val (.int p4), .val (.int (1 : Int32)), .val (.int (3 : Int32)), .val (.int (67 : Int32)), .val (.int (own_ix p1 (67 : Int32))), .val (.int (own_ix p2 (67 : Int32))), .val (.int (own_ix p3 (67 : Int32))), .val (.int ((p4.toUInt32 >>> ((1 : Int32) &&& 31).toUInt32).toInt32 % (69 : Int32))), .val (.ref (n0 + 0)), .val (.int (1 : Int32))]) rfl ?_
      refine H.iload s0_266 rfl ?_
      exact H.ireturn s0_268 rfl (by simp) rfl rfl (by decide) (by decide)
  · refine H.iand s0_2 (w := (2 : Int32)) hz2 ?_
    refine H.istore s0_3 (ls' := #[.val (.int p0), .val (.int p1), .val (.int p2), .val (.int p3), .val (.int p4), .val (.int (2 : Int32)), .unset, .unset, .unset, .unset, .unset, .unset, .unset, .unset]) rfl ?_
    refine H.iloadN s0_5 rfl ?_
    refine H.iconst s0_6 (v := (2 : Int32)) (by decide) ?_
    refine H.iushr s0_7 rfl ?_
    refine H.iconst s0_8 (v := (3 : Int32)) (by decide) ?_
    rcases own_and3 ((p0.toUInt32 >>> ((2 : Int32) &&& 31).toUInt32).toInt32) with hz9 | hz9 | hz9 | hz9
    · refine H.iand s0_9 (w := (0 : Int32)) hz9 ?_
      refine H.istore s0_10 (ls' := #[.val (.int p0), .val (.int p1), .val (.int p2), .val (.int p3), .val (.int p4), .val (.int (2 : Int32)), .val (.int (0 : Int32)), .unset, .unset, .unset, .unset, .unset, .unset, .unset]) rfl ?_
      refine H.iconst s0_12 (v := (1 : Int32)) (by decide) ?_
      refine H.iload s0_13 rfl ?_
      refine H.bipush s0_15 (v := (6 : Int32)) (by decide) ?_
      refine H.ishl s0_17 (w := (128 : Int32)) (by decide) ?_
      refine H.iload s0_18 rfl ?_
      refine H.iadd s0_20 (w := (128 : Int32)) (by decide) ?_
      refine H.callSD s0_21 (k_13 hw) (a_64 l hw n0) (argsL := [(.int (1 : Int32)), (.int (128 : Int32))]) (rest := []) rfl rfl rfl rfl (leb rfl) (leb rfl) (leb rfl) (leb rfl) (st' := [(.int (128 : Int32))]) rfl (k' := 0) rfl (n' := 0) rfl ?_
      refine H.istore s0_24 (ls' := #[.val (.int p0), .val (.int p1), .val (.int p2), .val (.int p3), .val (.int p4), .val (.int (2 : Int32)), .val (.int (0 : Int32)), .val (.int (128 : Int32)), .unset, .unset, .unset, .unset, .unset, .unset]) rfl ?_
      refine H.iloadN s0_26 rfl ?_
      refine H.iload s0_27 rfl ?_
      refine H.callSD s0_29 (k_14 hw) (m_ix l hw n0 _ p1 (128 : Int32) (by decide)) (argsL := [(.int p1), (.int (128 : Int32))]) (rest := []) rfl rfl rfl rfl (leb rfl) (leb rfl) (leb rfl) (leb rfl) (st' := [(.int (own_ix p1 (128 : Int32)))]) rfl (k' := 0) rfl (n' := 0) rfl ?_
      refine H.istore s0_32 (ls' := #[.val (.int p0), .val (.int p1), .val (.int p2), .val (.int p3), .val (.int p4), .val (.int (2 : Int32)), .val (.int (0 : Int32)), .val (.int (128 : Int32)), .val (.int (own_ix p1 (128 : Int32))), .unset, .unset, .unset, .unset, .unset]) rfl ?_
      refine H.iloadN s0_34 rfl ?_
      refine H.iload s0_35 rfl ?_
      refine H.callSD s0_37 (k_14 hw) (m_ix l hw n0 _ p2 (128 : Int32) (by decide)) (argsL := [(.int p2), (.int (128 : Int32))]) (rest := []) rfl rfl rfl rfl (leb rfl) (leb rfl) (leb rfl) (leb rfl) (st' := [(.int (own_ix p2 (128 : Int32)))]) rfl (k' := 0) rfl (n' := 0) rfl ?_
      refine H.istore s0_40 (ls' := #[.val (.int p0), .val (.int p1), .val (.int p2), .val (.int p3), .val (.int p4), .val (.int (2 : Int32)), .val (.int (0 : Int32)), .val (.int (128 : Int32)), .val (.int (own_ix p1 (128 : Int32))), .val (.int (own_ix p2 (128 : Int32))), .unset, .unset, .unset, .unset]) rfl ?_
      refine H.iloadN s0_42 rfl ?_
      refine H.iload s0_43 rfl ?_
      refine H.callSD s0_45 (k_14 hw) (m_ix l hw n0 _ p3 (128 : Int32) (by decide)) (argsL := [(.int p3), (.int (128 : Int32))]) (rest := []) rfl rfl rfl rfl (leb rfl) (leb rfl) (leb rfl) (leb rfl) (st' := [(.int (own_ix p3 (128 : Int32)))]) rfl (k' := 0) rfl (n' := 0) rfl ?_
      refine H.istore s0_48 (ls' := #[.val (.int p0), .val (.int p1), .val (.int p2), .val (.int p3), .val (.int p4), .val (.int (2 : Int32)), .val (.int (0 : Int32)), .val (.int (128 : Int32)), .val (.int (own_ix p1 (128 : Int32))), .val (.int (own_ix p2 (128 : Int32))), .val (.int (own_ix p3 (128 : Int32))), .unset, .unset, .unset]) rfl ?_
      refine H.iload s0_50 rfl ?_
      refine H.iconst s0_52 (v := (1 : Int32)) (by decide) ?_
      refine H.iushr s0_53 rfl ?_
      refine H.iload s0_54 rfl ?_
      refine H.iconst s0_56 (v := (2 : Int32)) (by decide) ?_
      refine H.iadd s0_57 (w := (130 : Int32)) (by decide) ?_
      refine H.irem s0_58 (by decide) (w := ((p4.toUInt32 >>> ((1 : Int32) &&& 31).toUInt32).toInt32 % (130 : Int32))) rfl ?_
      refine H.istore s0_59 (ls' := #[.val (.int p0), .val (.int p1), .val (.int p2), .val (.int p3), .val (.int p4), .val (.int (2 : Int32)), .val (.int (0 : Int32)), .val (.int (128 : Int32)), .val (.int (own_ix p1 (128 : Int32))), .val (.int (own_ix p2 (128 : Int32))), .val (.int (own_ix p3 (128 : Int32))), .val (.int ((p4.toUInt32 >>> ((1 : Int32) &&& 31).toUInt32).toInt32 % (130 : Int32))), .unset, .unset]) rfl ?_
      refine H.new s0_61 (k_15 hw) rfl (by decide) (by decide) (i := 0) rfl (A' := [.inl (0, [(.int (0 : Int32)), .null, .null, .null, .null])]) rfl (k' := 1) rfl (n' := 5) rfl ?_
      refine H.dup s0_64 rfl ?_
      refine H.iload s0_65 rfl ?_
      refine H.callCD s0_67 (k_25 hw) (a_65 l hw n0) (argsL := [(.int (128 : Int32))]) (rest := [(.ref (n0 + 0))]) rfl rfl rfl rfl (leb rfl) (leb rfl) (leb rfl) (leb rfl) (st' := [(.ref (n0 + 0))]) rfl (k' := 5) rfl (n' := 11) rfl ?_
      refine H.astore s0_70 rfl (ls' := #[.val (.int p0), .val (.int p1), .val (.int p2), .val (.int p3), .val (.int p4), .val (.int (2 : Int32)), .val (.int (0 : Int32)), .val (.int (128 : Int32)), .val (.int (own_ix p1 (128 : Int32))), .val (.int (own_ix p2 (128 : Int32))), .val (.int (own_ix p3 (128 : Int32))), .val (.int ((p4.toUInt32 >>> ((1 : Int32) &&& 31).toUInt32).toInt32 % (130 : Int32))), .val (.ref (n0 + 0)), .unset]) rfl ?_
      refine H.aload s0_72 rfl rfl ?_
      refine H.callVD s0_74 (k_29 hw) (a_72 l hw n0) (i := 0) rfl (argsL := []) (rest := []) rfl rfl rfl rfl (leb rfl) (leb rfl) (leb rfl) (leb rfl) (st' := []) rfl (k' := 5) rfl (n' := 11) rfl ?_
      refine H.aload s0_77 rfl rfl ?_
      refine H.iload s0_79 rfl ?_
      obtain ⟨m1, f1, g1⟩ := own_ix_r p1 (128 : Int32) 128 (by decide) (by decide) (by decide)
      obtain ⟨m2, f2, g2⟩ := own_ix_r p2 (128 : Int32) 128 (by decide) (by decide) (by decide)
      obtain ⟨m3, f3, g3⟩ := own_ix_r p3 (128 : Int32) 128 (by decide) (by decide) (by decide)
      obtain ⟨m4, f4, g4⟩ := own_fr_r p4 (130 : Int32) 130 (by decide) (by decide)
      have q0 := inv_128
      obtain ⟨q1, q2, q3⟩ := own_inv3 q0 (by decide) (by decide) f1 f2 f3 g1 g2 g3
      refine H.callVD s0_81 (k_30 hw) (m_rem l hw n0 own_f128 (3 : Int64) (128 : Int32) (own_f128.map Value.long) [(.long (3 : Int64))] (own_ix p1 (128 : Int32)) m1 f1 (own_len q0 (by omega)) (own_len4 q0 (by decide))) (i := 0) rfl (argsL := [(.int (own_ix p1 (128 : Int32)))]) (rest := []) rfl rfl rfl rfl (leb rfl) (leb rfl) (leb rfl) (leb rfl) (st' := []) rfl (k' := 5) rfl (n' := 11) rfl ?_
      refine H.aload s0_84 rfl rfl ?_
      refine H.iload s0_86 rfl ?_
      refine H.callVD s0_88 (k_30 hw) (m_rem l hw n0 (own_Lr own_f128 (own_ix p1 (128 : Int32)) m1) (own_e own_f128 (3 : Int64) (own_ix p1 (128 : Int32)) m1) (128 : Int32) (own_f128.map Value.long) [(.long (3 : Int64))] (own_ix p2 (128 : Int32)) m2 f2 (own_len q1 (by omega)) (own_len4 q1 (by decide))) (i := 0) rfl (argsL := [(.int (own_ix p2 (128 : Int32)))]) (rest := []) rfl rfl rfl rfl (leb rfl) (leb rfl) (leb rfl) (leb rfl) (st' := []) rfl (k' := 5) rfl (n' := 11) rfl ?_
      refine H.aload s0_91 rfl rfl ?_
      refine H.iload s0_93 rfl ?_
      refine H.callVD s0_95 (k_30 hw) (m_rem l hw n0 (own_L2 own_f128 (own_ix p1 (128 : Int32)) (own_ix p2 (128 : Int32)) m1 m2) (own_e2 own_f128 (3 : Int64) (own_ix p1 (128 : Int32)) (own_ix p2 (128 : Int32)) m1 m2) (128 : Int32) (own_f128.map Value.long) [(.long (3 : Int64))] (own_ix p3 (128 : Int32)) m3 f3 (own_len q2 (by omega)) (own_len4 q2 (by decide))) (i := 0) rfl (argsL := [(.int (own_ix p3 (128 : Int32)))]) (rest := []) rfl rfl rfl rfl (leb rfl) (leb rfl) (leb rfl) (leb rfl) (st' := []) rfl (k' := 5) rfl (n' := 11) rfl ?_
      refine H.aload s0_98 rfl rfl ?_
      refine H.iload s0_100 rfl ?_
      refine H.callVD s0_102 (k_31 hw) (m_nxt l hw n0 (own_L3 own_f128 (own_ix p1 (128 : Int32)) (own_ix p2 (128 : Int32)) (own_ix p3 (128 : Int32)) m1 m2 m3) (own_e3 own_f128 (3 : Int64) (own_ix p1 (128 : Int32)) (own_ix p2 (128 : Int32)) (own_ix p3 (128 : Int32)) m1 m2 m3) (128 : Int32) (own_f128.map Value.long) [(.long (3 : Int64))] ((p4.toUInt32 >>> ((1 : Int32) &&& 31).toUInt32).toInt32 % (130 : Int32)) m4 f4 (own_len4 q3 (by decide)) (own_he q3) (own_hz q3)) (i := 0) rfl (argsL := [(.int ((p4.toUInt32 >>> ((1 : Int32) &&& 31).toUInt32).toInt32 % (130 : Int32)))]) (rest := []) rfl rfl rfl rfl (leb rfl) (leb rfl) (leb rfl) (leb rfl) (st' := [(.int (own_nxt (own_L3 own_f128 (own_ix p1 (128 : Int32)) (own_ix p2 (128 : Int32)) (own_ix p3 (128 : Int32)) m1 m2 m3) (own_e3 own_f128 (3 : Int64) (own_ix p1 (128 : Int32)) (own_ix p2 (128 : Int32)) (own_ix p3 (128 : Int32)) m1 m2 m3) (128 : Int32) ((p4.toUInt32 >>> ((1 : Int32) &&& 31).toUInt32).toInt32 % (130 : Int32)) m4))]) rfl (k' := 5) rfl (n' := 11) rfl ?_
      refine H.iload s0_105 rfl ?_
      refine H.iload s0_107 rfl ?_
      refine H.iload s0_109 rfl ?_
      refine H.iload s0_111 rfl ?_
      refine H.iload s0_113 rfl ?_
      refine H.callSD s0_115 (k_32 hw) (m_ref l hw n0 _ ((p4.toUInt32 >>> ((1 : Int32) &&& 31).toUInt32).toInt32 % (130 : Int32)) (128 : Int32) (own_ix p1 (128 : Int32)) (own_ix p2 (128 : Int32)) (own_ix p3 (128 : Int32))) (argsL := [(.int ((p4.toUInt32 >>> ((1 : Int32) &&& 31).toUInt32).toInt32 % (130 : Int32))), (.int (128 : Int32)), (.int (own_ix p1 (128 : Int32))), (.int (own_ix p2 (128 : Int32))), (.int (own_ix p3 (128 : Int32)))]) (rest := [(.int (own_nxt (own_L3 own_f128 (own_ix p1 (128 : Int32)) (own_ix p2 (128 : Int32)) (own_ix p3 (128 : Int32)) m1 m2 m3) (own_e3 own_f128 (3 : Int64) (own_ix p1 (128 : Int32)) (own_ix p2 (128 : Int32)) (own_ix p3 (128 : Int32)) m1 m2 m3) (128 : Int32) ((p4.toUInt32 >>> ((1 : Int32) &&& 31).toUInt32).toInt32 % (130 : Int32)) m4))]) rfl rfl rfl rfl (leb rfl) (leb rfl) (leb rfl) (leb rfl) (st' := [(.int (own_ref ((p4.toUInt32 >>> ((1 : Int32) &&& 31).toUInt32).toInt32 % (130 : Int32)) (128 : Int32) (own_ix p1 (128 : Int32)) (own_ix p2 (128 : Int32)) (own_ix p3 (128 : Int32)))), (.int (own_nxt (own_L3 own_f128 (own_ix p1 (128 : Int32)) (own_ix p2 (128 : Int32)) (own_ix p3 (128 : Int32)) m1 m2 m3) (own_e3 own_f128 (3 : Int64) (own_ix p1 (128 : Int32)) (own_ix p2 (128 : Int32)) (own_ix p3 (128 : Int32)) m1 m2 m3) (128 : Int32) ((p4.toUInt32 >>> ((1 : Int32) &&& 31).toUInt32).toInt32 % (130 : Int32)) m4))]) rfl (k' := 5) rfl (n' := 11) rfl ?_
      refine H.icmpF s0_118 (own_main q3 rfl (by decide) (by decide) f1 f2 f3 f4 (by omega)) ?_
      refine H.iconst s0_121 (v := (1 : Int32)) (by decide) ?_
      refine H.goto s0_122 ?_
      refine H.istore s0_126 (ls' := #[.val (.int p0), .val (.int p1), .val (.int p2), .val (.int p3), .val (.int p4), .val (.int (2 : Int32)), .val (.int (0 : Int32)), .val (.int (128 : Int32)), .val (.int (own_ix p1 (128 : Int32))), .val (.int (own_ix p2 (128 : Int32))), .val (.int (own_ix p3 (128 : Int32))), .val (.int ((p4.toUInt32 >>> ((1 : Int32) &&& 31).toUInt32).toInt32 % (130 : Int32))), .val (.ref (n0 + 0)), .val (.int (1 : Int32))]) rfl ?_
      refine H.iload s0_128 rfl ?_
      refine H.ifF s0_130 (show ¬ (1 : Int32) = (0 : Int32) by decide) ?_
      refine H.aload s0_133 rfl rfl ?_
      refine H.iconst s0_135 (v := (0 : Int32)) (by decide) ?_
      refine H.callVD s0_136 (k_31 hw) (m_nxt l hw n0 (own_L3 own_f128 (own_ix p1 (128 : Int32)) (own_ix p2 (128 : Int32)) (own_ix p3 (128 : Int32)) m1 m2 m3) (own_e3 own_f128 (3 : Int64) (own_ix p1 (128 : Int32)) (own_ix p2 (128 : Int32)) (own_ix p3 (128 : Int32)) m1 m2 m3) (128 : Int32) (own_f128.map Value.long) [(.long (3 : Int64))] (0 : Int32) 0 (by decide : (0 : Int32).toInt = ((0 : Nat) : Int)) (own_len4 q3 (by decide)) (own_he q3) (own_hz q3)) (i := 0) rfl (argsL := [(.int (0 : Int32))]) (rest := []) rfl rfl rfl rfl (leb rfl) (leb rfl) (leb rfl) (leb rfl) (st' := [(.int (own_nxt (own_L3 own_f128 (own_ix p1 (128 : Int32)) (own_ix p2 (128 : Int32)) (own_ix p3 (128 : Int32)) m1 m2 m3) (own_e3 own_f128 (3 : Int64) (own_ix p1 (128 : Int32)) (own_ix p2 (128 : Int32)) (own_ix p3 (128 : Int32)) m1 m2 m3) (128 : Int32) (0 : Int32) 0))]) rfl (k' := 5) rfl (n' := 11) rfl ?_
      refine H.iconst s0_139 (v := (0 : Int32)) (by decide) ?_
      refine H.iload s0_140 rfl ?_
      refine H.iload s0_142 rfl ?_
      refine H.iload s0_144 rfl ?_
      refine H.iload s0_146 rfl ?_
      refine H.callSD s0_148 (k_32 hw) (m_ref l hw n0 _ (0 : Int32) (128 : Int32) (own_ix p1 (128 : Int32)) (own_ix p2 (128 : Int32)) (own_ix p3 (128 : Int32))) (argsL := [(.int (0 : Int32)), (.int (128 : Int32)), (.int (own_ix p1 (128 : Int32))), (.int (own_ix p2 (128 : Int32))), (.int (own_ix p3 (128 : Int32)))]) (rest := [(.int (own_nxt (own_L3 own_f128 (own_ix p1 (128 : Int32)) (own_ix p2 (128 : Int32)) (own_ix p3 (128 : Int32)) m1 m2 m3) (own_e3 own_f128 (3 : Int64) (own_ix p1 (128 : Int32)) (own_ix p2 (128 : Int32)) (own_ix p3 (128 : Int32)) m1 m2 m3) (128 : Int32) (0 : Int32) 0))]) rfl rfl rfl rfl (leb rfl) (leb rfl) (leb rfl) (leb rfl) (st' := [(.int (own_ref (0 : Int32) (128 : Int32) (own_ix p1 (128 : Int32)) (own_ix p2 (128 : Int32)) (own_ix p3 (128 : Int32)))), (.int (own_nxt (own_L3 own_f128 (own_ix p1 (128 : Int32)) (own_ix p2 (128 : Int32)) (own_ix p3 (128 : Int32)) m1 m2 m3) (own_e3 own_f128 (3 : Int64) (own_ix p1 (128 : Int32)) (own_ix p2 (128 : Int32)) (own_ix p3 (128 : Int32)) m1 m2 m3) (128 : Int32) (0 : Int32) 0))]) rfl (k' := 5) rfl (n' := 11) rfl ?_
      refine H.icmpF s0_151 (own_main q3 rfl (by decide) (by decide) f1 f2 f3 (by decide : (0 : Int32).toInt = ((0 : Nat) : Int)) (by omega)) ?_
      refine H.iconst s0_154 (v := (1 : Int32)) (by decide) ?_
      refine H.goto s0_155 ?_
      refine H.istore s0_159 (ls' := #[.val (.int p0), .val (.int p1), .val (.int p2), .val (.int p3), .val (.int p4), .val (.int (2 : Int32)), .val (.int (0 : Int32)), .val (.int (128 : Int32)), .val (.int (own_ix p1 (128 : Int32))), .val (.int (own_ix p2 (128 : Int32))), .val (.int (own_ix p3 (128 : Int32))), .val (.int ((p4.toUInt32 >>> ((1 : Int32) &&& 31).toUInt32).toInt32 % (130 : Int32))), .val (.ref (n0 + 0)), .val (.int (1 : Int32))]) rfl ?_
      refine H.iload s0_161 rfl ?_
      refine H.ifF s0_163 (show ¬ (1 : Int32) = (0 : Int32) by decide) ?_
      refine H.aload s0_166 rfl rfl ?_
      refine H.iload s0_168 rfl ?_
      refine H.callVD s0_170 (k_31 hw) (m_nxt l hw n0 (own_L3 own_f128 (own_ix p1 (128 : Int32)) (own_ix p2 (128 : Int32)) (own_ix p3 (128 : Int32)) m1 m2 m3) (own_e3 own_f128 (3 : Int64) (own_ix p1 (128 : Int32)) (own_ix p2 (128 : Int32)) (own_ix p3 (128 : Int32)) m1 m2 m3) (128 : Int32) (own_f128.map Value.long) [(.long (3 : Int64))] (own_ix p1 (128 : Int32)) m1 f1 (own_len4 q3 (by decide)) (own_he q3) (own_hz q3)) (i := 0) rfl (argsL := [(.int (own_ix p1 (128 : Int32)))]) (rest := []) rfl rfl rfl rfl (leb rfl) (leb rfl) (leb rfl) (leb rfl) (st' := [(.int (own_nxt (own_L3 own_f128 (own_ix p1 (128 : Int32)) (own_ix p2 (128 : Int32)) (own_ix p3 (128 : Int32)) m1 m2 m3) (own_e3 own_f128 (3 : Int64) (own_ix p1 (128 : Int32)) (own_ix p2 (128 : Int32)) (own_ix p3 (128 : Int32)) m1 m2 m3) (128 : Int32) (own_ix p1 (128 : Int32)) m1))]) rfl (k' := 5) rfl (n' := 11) rfl ?_
      refine H.iload s0_173 rfl ?_
      refine H.iload s0_175 rfl ?_
      refine H.iload s0_177 rfl ?_
      refine H.iload s0_179 rfl ?_
      refine H.iload s0_181 rfl ?_
      refine H.callSD s0_183 (k_32 hw) (m_ref l hw n0 _ (own_ix p1 (128 : Int32)) (128 : Int32) (own_ix p1 (128 : Int32)) (own_ix p2 (128 : Int32)) (own_ix p3 (128 : Int32))) (argsL := [(.int (own_ix p1 (128 : Int32))), (.int (128 : Int32)), (.int (own_ix p1 (128 : Int32))), (.int (own_ix p2 (128 : Int32))), (.int (own_ix p3 (128 : Int32)))]) (rest := [(.int (own_nxt (own_L3 own_f128 (own_ix p1 (128 : Int32)) (own_ix p2 (128 : Int32)) (own_ix p3 (128 : Int32)) m1 m2 m3) (own_e3 own_f128 (3 : Int64) (own_ix p1 (128 : Int32)) (own_ix p2 (128 : Int32)) (own_ix p3 (128 : Int32)) m1 m2 m3) (128 : Int32) (own_ix p1 (128 : Int32)) m1))]) rfl rfl rfl rfl (leb rfl) (leb rfl) (leb rfl) (leb rfl) (st' := [(.int (own_ref (own_ix p1 (128 : Int32)) (128 : Int32) (own_ix p1 (128 : Int32)) (own_ix p2 (128 : Int32)) (own_ix p3 (128 : Int32)))), (.int (own_nxt (own_L3 own_f128 (own_ix p1 (128 : Int32)) (own_ix p2 (128 : Int32)) (own_ix p3 (128 : Int32)) m1 m2 m3) (own_e3 own_f128 (3 : Int64) (own_ix p1 (128 : Int32)) (own_ix p2 (128 : Int32)) (own_ix p3 (128 : Int32)) m1 m2 m3) (128 : Int32) (own_ix p1 (128 : Int32)) m1))]) rfl (k' := 5) rfl (n' := 11) rfl ?_
      refine H.icmpF s0_186 (own_main q3 rfl (by decide) (by decide) f1 f2 f3 f1 (by omega)) ?_
      refine H.iconst s0_189 (v := (1 : Int32)) (by decide) ?_
      refine H.goto s0_190 ?_
      refine H.istore s0_194 (ls' := #[.val (.int p0), .val (.int p1), .val (.int p2), .val (.int p3), .val (.int p4), .val (.int (2 : Int32)), .val (.int (0 : Int32)), .val (.int (128 : Int32)), .val (.int (own_ix p1 (128 : Int32))), .val (.int (own_ix p2 (128 : Int32))), .val (.int (own_ix p3 (128 : Int32))), .val (.int ((p4.toUInt32 >>> ((1 : Int32) &&& 31).toUInt32).toInt32 % (130 : Int32))), .val (.ref (n0 + 0)), .val (.int (1 : Int32))]) rfl ?_
      refine H.iload s0_196 rfl ?_
      refine H.ifF s0_198 (show ¬ (1 : Int32) = (0 : Int32) by decide) ?_
      refine H.aload s0_201 rfl rfl ?_
      refine H.iload s0_203 rfl ?_
      refine H.callVD s0_205 (k_31 hw) (m_nxt l hw n0 (own_L3 own_f128 (own_ix p1 (128 : Int32)) (own_ix p2 (128 : Int32)) (own_ix p3 (128 : Int32)) m1 m2 m3) (own_e3 own_f128 (3 : Int64) (own_ix p1 (128 : Int32)) (own_ix p2 (128 : Int32)) (own_ix p3 (128 : Int32)) m1 m2 m3) (128 : Int32) (own_f128.map Value.long) [(.long (3 : Int64))] (own_ix p2 (128 : Int32)) m2 f2 (own_len4 q3 (by decide)) (own_he q3) (own_hz q3)) (i := 0) rfl (argsL := [(.int (own_ix p2 (128 : Int32)))]) (rest := []) rfl rfl rfl rfl (leb rfl) (leb rfl) (leb rfl) (leb rfl) (st' := [(.int (own_nxt (own_L3 own_f128 (own_ix p1 (128 : Int32)) (own_ix p2 (128 : Int32)) (own_ix p3 (128 : Int32)) m1 m2 m3) (own_e3 own_f128 (3 : Int64) (own_ix p1 (128 : Int32)) (own_ix p2 (128 : Int32)) (own_ix p3 (128 : Int32)) m1 m2 m3) (128 : Int32) (own_ix p2 (128 : Int32)) m2))]) rfl (k' := 5) rfl (n' := 11) rfl ?_
      refine H.iload s0_208 rfl ?_
      refine H.iload s0_210 rfl ?_
      refine H.iload s0_212 rfl ?_
      refine H.iload s0_214 rfl ?_
      refine H.iload s0_216 rfl ?_
      refine H.callSD s0_218 (k_32 hw) (m_ref l hw n0 _ (own_ix p2 (128 : Int32)) (128 : Int32) (own_ix p1 (128 : Int32)) (own_ix p2 (128 : Int32)) (own_ix p3 (128 : Int32))) (argsL := [(.int (own_ix p2 (128 : Int32))), (.int (128 : Int32)), (.int (own_ix p1 (128 : Int32))), (.int (own_ix p2 (128 : Int32))), (.int (own_ix p3 (128 : Int32)))]) (rest := [(.int (own_nxt (own_L3 own_f128 (own_ix p1 (128 : Int32)) (own_ix p2 (128 : Int32)) (own_ix p3 (128 : Int32)) m1 m2 m3) (own_e3 own_f128 (3 : Int64) (own_ix p1 (128 : Int32)) (own_ix p2 (128 : Int32)) (own_ix p3 (128 : Int32)) m1 m2 m3) (128 : Int32) (own_ix p2 (128 : Int32)) m2))]) rfl rfl rfl rfl (leb rfl) (leb rfl) (leb rfl) (leb rfl) (st' := [(.int (own_ref (own_ix p2 (128 : Int32)) (128 : Int32) (own_ix p1 (128 : Int32)) (own_ix p2 (128 : Int32)) (own_ix p3 (128 : Int32)))), (.int (own_nxt (own_L3 own_f128 (own_ix p1 (128 : Int32)) (own_ix p2 (128 : Int32)) (own_ix p3 (128 : Int32)) m1 m2 m3) (own_e3 own_f128 (3 : Int64) (own_ix p1 (128 : Int32)) (own_ix p2 (128 : Int32)) (own_ix p3 (128 : Int32)) m1 m2 m3) (128 : Int32) (own_ix p2 (128 : Int32)) m2))]) rfl (k' := 5) rfl (n' := 11) rfl ?_
      refine H.icmpF s0_221 (own_main q3 rfl (by decide) (by decide) f1 f2 f3 f2 (by omega)) ?_
      refine H.iconst s0_224 (v := (1 : Int32)) (by decide) ?_
      refine H.goto s0_225 ?_
      refine H.istore s0_229 (ls' := #[.val (.int p0), .val (.int p1), .val (.int p2), .val (.int p3), .val (.int p4), .val (.int (2 : Int32)), .val (.int (0 : Int32)), .val (.int (128 : Int32)), .val (.int (own_ix p1 (128 : Int32))), .val (.int (own_ix p2 (128 : Int32))), .val (.int (own_ix p3 (128 : Int32))), .val (.int ((p4.toUInt32 >>> ((1 : Int32) &&& 31).toUInt32).toInt32 % (130 : Int32))), .val (.ref (n0 + 0)), .val (.int (1 : Int32))]) rfl ?_
      refine H.iload s0_231 rfl ?_
      refine H.ifF s0_233 (show ¬ (1 : Int32) = (0 : Int32) by decide) ?_
      refine H.aload s0_236 rfl rfl ?_
      refine H.iload s0_238 rfl ?_
      refine H.callVD s0_240 (k_31 hw) (m_nxt l hw n0 (own_L3 own_f128 (own_ix p1 (128 : Int32)) (own_ix p2 (128 : Int32)) (own_ix p3 (128 : Int32)) m1 m2 m3) (own_e3 own_f128 (3 : Int64) (own_ix p1 (128 : Int32)) (own_ix p2 (128 : Int32)) (own_ix p3 (128 : Int32)) m1 m2 m3) (128 : Int32) (own_f128.map Value.long) [(.long (3 : Int64))] (own_ix p3 (128 : Int32)) m3 f3 (own_len4 q3 (by decide)) (own_he q3) (own_hz q3)) (i := 0) rfl (argsL := [(.int (own_ix p3 (128 : Int32)))]) (rest := []) rfl rfl rfl rfl (leb rfl) (leb rfl) (leb rfl) (leb rfl) (st' := [(.int (own_nxt (own_L3 own_f128 (own_ix p1 (128 : Int32)) (own_ix p2 (128 : Int32)) (own_ix p3 (128 : Int32)) m1 m2 m3) (own_e3 own_f128 (3 : Int64) (own_ix p1 (128 : Int32)) (own_ix p2 (128 : Int32)) (own_ix p3 (128 : Int32)) m1 m2 m3) (128 : Int32) (own_ix p3 (128 : Int32)) m3))]) rfl (k' := 5) rfl (n' := 11) rfl ?_
      refine H.iload s0_243 rfl ?_
      refine H.iload s0_245 rfl ?_
      refine H.iload s0_247 rfl ?_
      refine H.iload s0_249 rfl ?_
      refine H.iload s0_251 rfl ?_
      refine H.callSD s0_253 (k_32 hw) (m_ref l hw n0 _ (own_ix p3 (128 : Int32)) (128 : Int32) (own_ix p1 (128 : Int32)) (own_ix p2 (128 : Int32)) (own_ix p3 (128 : Int32))) (argsL := [(.int (own_ix p3 (128 : Int32))), (.int (128 : Int32)), (.int (own_ix p1 (128 : Int32))), (.int (own_ix p2 (128 : Int32))), (.int (own_ix p3 (128 : Int32)))]) (rest := [(.int (own_nxt (own_L3 own_f128 (own_ix p1 (128 : Int32)) (own_ix p2 (128 : Int32)) (own_ix p3 (128 : Int32)) m1 m2 m3) (own_e3 own_f128 (3 : Int64) (own_ix p1 (128 : Int32)) (own_ix p2 (128 : Int32)) (own_ix p3 (128 : Int32)) m1 m2 m3) (128 : Int32) (own_ix p3 (128 : Int32)) m3))]) rfl rfl rfl rfl (leb rfl) (leb rfl) (leb rfl) (leb rfl) (st' := [(.int (own_ref (own_ix p3 (128 : Int32)) (128 : Int32) (own_ix p1 (128 : Int32)) (own_ix p2 (128 : Int32)) (own_ix p3 (128 : Int32)))), (.int (own_nxt (own_L3 own_f128 (own_ix p1 (128 : Int32)) (own_ix p2 (128 : Int32)) (own_ix p3 (128 : Int32)) m1 m2 m3) (own_e3 own_f128 (3 : Int64) (own_ix p1 (128 : Int32)) (own_ix p2 (128 : Int32)) (own_ix p3 (128 : Int32)) m1 m2 m3) (128 : Int32) (own_ix p3 (128 : Int32)) m3))]) rfl (k' := 5) rfl (n' := 11) rfl ?_
      refine H.icmpF s0_256 (own_main q3 rfl (by decide) (by decide) f1 f2 f3 f3 (by omega)) ?_
      refine H.iconst s0_259 (v := (1 : Int32)) (by decide) ?_
      refine H.goto s0_260 ?_
      refine H.istore s0_264 (ls' := #[.val (.int p0), .val (.int p1), .val (.int p2), .val (.int p3), .val (.int p4), .val (.int (2 : Int32)), .val (.int (0 : Int32)), .val (.int (128 : Int32)), .val (.int (own_ix p1 (128 : Int32))), .val (.int (own_ix p2 (128 : Int32))), .val (.int (own_ix p3 (128 : Int32))), .val (.int ((p4.toUInt32 >>> ((1 : Int32) &&& 31).toUInt32).toInt32 % (130 : Int32))), .val (.ref (n0 + 0)), .val (.int (1 : Int32))]) rfl ?_
      refine H.iload s0_266 rfl ?_
      exact H.ireturn s0_268 rfl (by simp) rfl rfl (by decide) (by decide)
    · refine H.iand s0_9 (w := (1 : Int32)) hz9 ?_
      refine H.istore s0_10 (ls' := #[.val (.int p0), .val (.int p1), .val (.int p2), .val (.int p3), .val (.int p4), .val (.int (2 : Int32)), .val (.int (1 : Int32)), .unset, .unset, .unset, .unset, .unset, .unset, .unset]) rfl ?_
      refine H.iconst s0_12 (v := (1 : Int32)) (by decide) ?_
      refine H.iload s0_13 rfl ?_
      refine H.bipush s0_15 (v := (6 : Int32)) (by decide) ?_
      refine H.ishl s0_17 (w := (128 : Int32)) (by decide) ?_
      refine H.iload s0_18 rfl ?_
      refine H.iadd s0_20 (w := (129 : Int32)) (by decide) ?_
      refine H.callSD s0_21 (k_13 hw) (a_73 l hw n0) (argsL := [(.int (1 : Int32)), (.int (129 : Int32))]) (rest := []) rfl rfl rfl rfl (leb rfl) (leb rfl) (leb rfl) (leb rfl) (st' := [(.int (129 : Int32))]) rfl (k' := 0) rfl (n' := 0) rfl ?_
      refine H.istore s0_24 (ls' := #[.val (.int p0), .val (.int p1), .val (.int p2), .val (.int p3), .val (.int p4), .val (.int (2 : Int32)), .val (.int (1 : Int32)), .val (.int (129 : Int32)), .unset, .unset, .unset, .unset, .unset, .unset]) rfl ?_
      refine H.iloadN s0_26 rfl ?_
      refine H.iload s0_27 rfl ?_
      refine H.callSD s0_29 (k_14 hw) (m_ix l hw n0 _ p1 (129 : Int32) (by decide)) (argsL := [(.int p1), (.int (129 : Int32))]) (rest := []) rfl rfl rfl rfl (leb rfl) (leb rfl) (leb rfl) (leb rfl) (st' := [(.int (own_ix p1 (129 : Int32)))]) rfl (k' := 0) rfl (n' := 0) rfl ?_
      refine H.istore s0_32 (ls' := #[.val (.int p0), .val (.int p1), .val (.int p2), .val (.int p3), .val (.int p4), .val (.int (2 : Int32)), .val (.int (1 : Int32)), .val (.int (129 : Int32)), .val (.int (own_ix p1 (129 : Int32))), .unset, .unset, .unset, .unset, .unset]) rfl ?_
      refine H.iloadN s0_34 rfl ?_
      refine H.iload s0_35 rfl ?_
      refine H.callSD s0_37 (k_14 hw) (m_ix l hw n0 _ p2 (129 : Int32) (by decide)) (argsL := [(.int p2), (.int (129 : Int32))]) (rest := []) rfl rfl rfl rfl (leb rfl) (leb rfl) (leb rfl) (leb rfl) (st' := [(.int (own_ix p2 (129 : Int32)))]) rfl (k' := 0) rfl (n' := 0) rfl ?_
      refine H.istore s0_40 (ls' := #[.val (.int p0), .val (.int p1), .val (.int p2), .val (.int p3), .val (.int p4), .val (.int (2 : Int32)), .val (.int (1 : Int32)), .val (.int (129 : Int32)), .val (.int (own_ix p1 (129 : Int32))), .val (.int (own_ix p2 (129 : Int32))), .unset, .unset, .unset, .unset]) rfl ?_
      refine H.iloadN s0_42 rfl ?_
      refine H.iload s0_43 rfl ?_
      refine H.callSD s0_45 (k_14 hw) (m_ix l hw n0 _ p3 (129 : Int32) (by decide)) (argsL := [(.int p3), (.int (129 : Int32))]) (rest := []) rfl rfl rfl rfl (leb rfl) (leb rfl) (leb rfl) (leb rfl) (st' := [(.int (own_ix p3 (129 : Int32)))]) rfl (k' := 0) rfl (n' := 0) rfl ?_
      refine H.istore s0_48 (ls' := #[.val (.int p0), .val (.int p1), .val (.int p2), .val (.int p3), .val (.int p4), .val (.int (2 : Int32)), .val (.int (1 : Int32)), .val (.int (129 : Int32)), .val (.int (own_ix p1 (129 : Int32))), .val (.int (own_ix p2 (129 : Int32))), .val (.int (own_ix p3 (129 : Int32))), .unset, .unset, .unset]) rfl ?_
      refine H.iload s0_50 rfl ?_
      refine H.iconst s0_52 (v := (1 : Int32)) (by decide) ?_
      refine H.iushr s0_53 rfl ?_
      refine H.iload s0_54 rfl ?_
      refine H.iconst s0_56 (v := (2 : Int32)) (by decide) ?_
      refine H.iadd s0_57 (w := (131 : Int32)) (by decide) ?_
      refine H.irem s0_58 (by decide) (w := ((p4.toUInt32 >>> ((1 : Int32) &&& 31).toUInt32).toInt32 % (131 : Int32))) rfl ?_
      refine H.istore s0_59 (ls' := #[.val (.int p0), .val (.int p1), .val (.int p2), .val (.int p3), .val (.int p4), .val (.int (2 : Int32)), .val (.int (1 : Int32)), .val (.int (129 : Int32)), .val (.int (own_ix p1 (129 : Int32))), .val (.int (own_ix p2 (129 : Int32))), .val (.int (own_ix p3 (129 : Int32))), .val (.int ((p4.toUInt32 >>> ((1 : Int32) &&& 31).toUInt32).toInt32 % (131 : Int32))), .unset, .unset]) rfl ?_
      refine H.new s0_61 (k_15 hw) rfl (by decide) (by decide) (i := 0) rfl (A' := [.inl (0, [(.int (0 : Int32)), .null, .null, .null, .null])]) rfl (k' := 1) rfl (n' := 5) rfl ?_
      refine H.dup s0_64 rfl ?_
      refine H.iload s0_65 rfl ?_
      refine H.callCD s0_67 (k_25 hw) (a_74 l hw n0) (argsL := [(.int (129 : Int32))]) (rest := [(.ref (n0 + 0))]) rfl rfl rfl rfl (leb rfl) (leb rfl) (leb rfl) (leb rfl) (st' := [(.ref (n0 + 0))]) rfl (k' := 5) rfl (n' := 13) rfl ?_
      refine H.astore s0_70 rfl (ls' := #[.val (.int p0), .val (.int p1), .val (.int p2), .val (.int p3), .val (.int p4), .val (.int (2 : Int32)), .val (.int (1 : Int32)), .val (.int (129 : Int32)), .val (.int (own_ix p1 (129 : Int32))), .val (.int (own_ix p2 (129 : Int32))), .val (.int (own_ix p3 (129 : Int32))), .val (.int ((p4.toUInt32 >>> ((1 : Int32) &&& 31).toUInt32).toInt32 % (131 : Int32))), .val (.ref (n0 + 0)), .unset]) rfl ?_
      refine H.aload s0_72 rfl rfl ?_
      refine H.callVD s0_74 (k_29 hw) (a_81 l hw n0) (i := 0) rfl (argsL := []) (rest := []) rfl rfl rfl rfl (leb rfl) (leb rfl) (leb rfl) (leb rfl) (st' := []) rfl (k' := 5) rfl (n' := 13) rfl ?_
      refine H.aload s0_77 rfl rfl ?_
      refine H.iload s0_79 rfl ?_
      obtain ⟨m1, f1, g1⟩ := own_ix_r p1 (129 : Int32) 129 (by decide) (by decide) (by decide)
      obtain ⟨m2, f2, g2⟩ := own_ix_r p2 (129 : Int32) 129 (by decide) (by decide) (by decide)
      obtain ⟨m3, f3, g3⟩ := own_ix_r p3 (129 : Int32) 129 (by decide) (by decide) (by decide)
      obtain ⟨m4, f4, g4⟩ := own_fr_r p4 (131 : Int32) 131 (by decide) (by decide)
      have q0 := inv_129
      obtain ⟨q1, q2, q3⟩ := own_inv3 q0 (by decide) (by decide) f1 f2 f3 g1 g2 g3
      refine H.callVD s0_81 (k_30 hw) (m_rem l hw n0 own_f129 (7 : Int64) (129 : Int32) (own_f129.map Value.long) [(.long (7 : Int64))] (own_ix p1 (129 : Int32)) m1 f1 (own_len q0 (by omega)) (own_len4 q0 (by decide))) (i := 0) rfl (argsL := [(.int (own_ix p1 (129 : Int32)))]) (rest := []) rfl rfl rfl rfl (leb rfl) (leb rfl) (leb rfl) (leb rfl) (st' := []) rfl (k' := 5) rfl (n' := 13) rfl ?_
      refine H.aload s0_84 rfl rfl ?_
      refine H.iload s0_86 rfl ?_
      refine H.callVD s0_88 (k_30 hw) (m_rem l hw n0 (own_Lr own_f129 (own_ix p1 (129 : Int32)) m1) (own_e own_f129 (7 : Int64) (own_ix p1 (129 : Int32)) m1) (129 : Int32) (own_f129.map Value.long) [(.long (7 : Int64))] (own_ix p2 (129 : Int32)) m2 f2 (own_len q1 (by omega)) (own_len4 q1 (by decide))) (i := 0) rfl (argsL := [(.int (own_ix p2 (129 : Int32)))]) (rest := []) rfl rfl rfl rfl (leb rfl) (leb rfl) (leb rfl) (leb rfl) (st' := []) rfl (k' := 5) rfl (n' := 13) rfl ?_
      refine H.aload s0_91 rfl rfl ?_
      refine H.iload s0_93 rfl ?_
      refine H.callVD s0_95 (k_30 hw) (m_rem l hw n0 (own_L2 own_f129 (own_ix p1 (129 : Int32)) (own_ix p2 (129 : Int32)) m1 m2) (own_e2 own_f129 (7 : Int64) (own_ix p1 (129 : Int32)) (own_ix p2 (129 : Int32)) m1 m2) (129 : Int32) (own_f129.map Value.long) [(.long (7 : Int64))] (own_ix p3 (129 : Int32)) m3 f3 (own_len q2 (by omega)) (own_len4 q2 (by decide))) (i := 0) rfl (argsL := [(.int (own_ix p3 (129 : Int32)))]) (rest := []) rfl rfl rfl rfl (leb rfl) (leb rfl) (leb rfl) (leb rfl) (st' := []) rfl (k' := 5) rfl (n' := 13) rfl ?_
      refine H.aload s0_98 rfl rfl ?_
      refine H.iload s0_100 rfl ?_
      refine H.callVD s0_102 (k_31 hw) (m_nxt l hw n0 (own_L3 own_f129 (own_ix p1 (129 : Int32)) (own_ix p2 (129 : Int32)) (own_ix p3 (129 : Int32)) m1 m2 m3) (own_e3 own_f129 (7 : Int64) (own_ix p1 (129 : Int32)) (own_ix p2 (129 : Int32)) (own_ix p3 (129 : Int32)) m1 m2 m3) (129 : Int32) (own_f129.map Value.long) [(.long (7 : Int64))] ((p4.toUInt32 >>> ((1 : Int32) &&& 31).toUInt32).toInt32 % (131 : Int32)) m4 f4 (own_len4 q3 (by decide)) (own_he q3) (own_hz q3)) (i := 0) rfl (argsL := [(.int ((p4.toUInt32 >>> ((1 : Int32) &&& 31).toUInt32).toInt32 % (131 : Int32)))]) (rest := []) rfl rfl rfl rfl (leb rfl) (leb rfl) (leb rfl) (leb rfl) (st' := [(.int (own_nxt (own_L3 own_f129 (own_ix p1 (129 : Int32)) (own_ix p2 (129 : Int32)) (own_ix p3 (129 : Int32)) m1 m2 m3) (own_e3 own_f129 (7 : Int64) (own_ix p1 (129 : Int32)) (own_ix p2 (129 : Int32)) (own_ix p3 (129 : Int32)) m1 m2 m3) (129 : Int32) ((p4.toUInt32 >>> ((1 : Int32) &&& 31).toUInt32).toInt32 % (131 : Int32)) m4))]) rfl (k' := 5) rfl (n' := 13) rfl ?_
      refine H.iload s0_105 rfl ?_
      refine H.iload s0_107 rfl ?_
      refine H.iload s0_109 rfl ?_
      refine H.iload s0_111 rfl ?_
      refine H.iload s0_113 rfl ?_
      refine H.callSD s0_115 (k_32 hw) (m_ref l hw n0 _ ((p4.toUInt32 >>> ((1 : Int32) &&& 31).toUInt32).toInt32 % (131 : Int32)) (129 : Int32) (own_ix p1 (129 : Int32)) (own_ix p2 (129 : Int32)) (own_ix p3 (129 : Int32))) (argsL := [(.int ((p4.toUInt32 >>> ((1 : Int32) &&& 31).toUInt32).toInt32 % (131 : Int32))), (.int (129 : Int32)), (.int (own_ix p1 (129 : Int32))), (.int (own_ix p2 (129 : Int32))), (.int (own_ix p3 (129 : Int32)))]) (rest := [(.int (own_nxt (own_L3 own_f129 (own_ix p1 (129 : Int32)) (own_ix p2 (129 : Int32)) (own_ix p3 (129 : Int32)) m1 m2 m3) (own_e3 own_f129 (7 : Int64) (own_ix p1 (129 : Int32)) (own_ix p2 (129 : Int32)) (own_ix p3 (129 : Int32)) m1 m2 m3) (129 : Int32) ((p4.toUInt32 >>> ((1 : Int32) &&& 31).toUInt32).toInt32 % (131 : Int32)) m4))]) rfl rfl rfl rfl (leb rfl) (leb rfl) (leb rfl) (leb rfl) (st' := [(.int (own_ref ((p4.toUInt32 >>> ((1 : Int32) &&& 31).toUInt32).toInt32 % (131 : Int32)) (129 : Int32) (own_ix p1 (129 : Int32)) (own_ix p2 (129 : Int32)) (own_ix p3 (129 : Int32)))), (.int (own_nxt (own_L3 own_f129 (own_ix p1 (129 : Int32)) (own_ix p2 (129 : Int32)) (own_ix p3 (129 : Int32)) m1 m2 m3) (own_e3 own_f129 (7 : Int64) (own_ix p1 (129 : Int32)) (own_ix p2 (129 : Int32)) (own_ix p3 (129 : Int32)) m1 m2 m3) (129 : Int32) ((p4.toUInt32 >>> ((1 : Int32) &&& 31).toUInt32).toInt32 % (131 : Int32)) m4))]) rfl (k' := 5) rfl (n' := 13) rfl ?_
      refine H.icmpF s0_118 (own_main q3 rfl (by decide) (by decide) f1 f2 f3 f4 (by omega)) ?_
      refine H.iconst s0_121 (v := (1 : Int32)) (by decide) ?_
      refine H.goto s0_122 ?_
      refine H.istore s0_126 (ls' := #[.val (.int p0), .val (.int p1), .val (.int p2), .val (.int p3), .val (.int p4), .val (.int (2 : Int32)), .val (.int (1 : Int32)), .val (.int (129 : Int32)), .val (.int (own_ix p1 (129 : Int32))), .val (.int (own_ix p2 (129 : Int32))), .val (.int (own_ix p3 (129 : Int32))), .val (.int ((p4.toUInt32 >>> ((1 : Int32) &&& 31).toUInt32).toInt32 % (131 : Int32))), .val (.ref (n0 + 0)), .val (.int (1 : Int32))]) rfl ?_
      refine H.iload s0_128 rfl ?_
      refine H.ifF s0_130 (show ¬ (1 : Int32) = (0 : Int32) by decide) ?_
      refine H.aload s0_133 rfl rfl ?_
      refine H.iconst s0_135 (v := (0 : Int32)) (by decide) ?_
      refine H.callVD s0_136 (k_31 hw) (m_nxt l hw n0 (own_L3 own_f129 (own_ix p1 (129 : Int32)) (own_ix p2 (129 : Int32)) (own_ix p3 (129 : Int32)) m1 m2 m3) (own_e3 own_f129 (7 : Int64) (own_ix p1 (129 : Int32)) (own_ix p2 (129 : Int32)) (own_ix p3 (129 : Int32)) m1 m2 m3) (129 : Int32) (own_f129.map Value.long) [(.long (7 : Int64))] (0 : Int32) 0 (by decide : (0 : Int32).toInt = ((0 : Nat) : Int)) (own_len4 q3 (by decide)) (own_he q3) (own_hz q3)) (i := 0) rfl (argsL := [(.int (0 : Int32))]) (rest := []) rfl rfl rfl rfl (leb rfl) (leb rfl) (leb rfl) (leb rfl) (st' := [(.int (own_nxt (own_L3 own_f129 (own_ix p1 (129 : Int32)) (own_ix p2 (129 : Int32)) (own_ix p3 (129 : Int32)) m1 m2 m3) (own_e3 own_f129 (7 : Int64) (own_ix p1 (129 : Int32)) (own_ix p2 (129 : Int32)) (own_ix p3 (129 : Int32)) m1 m2 m3) (129 : Int32) (0 : Int32) 0))]) rfl (k' := 5) rfl (n' := 13) rfl ?_
      refine H.iconst s0_139 (v := (0 : Int32)) (by decide) ?_
      refine H.iload s0_140 rfl ?_
      refine H.iload s0_142 rfl ?_
      refine H.iload s0_144 rfl ?_
      refine H.iload s0_146 rfl ?_
      refine H.callSD s0_148 (k_32 hw) (m_ref l hw n0 _ (0 : Int32) (129 : Int32) (own_ix p1 (129 : Int32)) (own_ix p2 (129 : Int32)) (own_ix p3 (129 : Int32))) (argsL := [(.int (0 : Int32)), (.int (129 : Int32)), (.int (own_ix p1 (129 : Int32))), (.int (own_ix p2 (129 : Int32))), (.int (own_ix p3 (129 : Int32)))]) (rest := [(.int (own_nxt (own_L3 own_f129 (own_ix p1 (129 : Int32)) (own_ix p2 (129 : Int32)) (own_ix p3 (129 : Int32)) m1 m2 m3) (own_e3 own_f129 (7 : Int64) (own_ix p1 (129 : Int32)) (own_ix p2 (129 : Int32)) (own_ix p3 (129 : Int32)) m1 m2 m3) (129 : Int32) (0 : Int32) 0))]) rfl rfl rfl rfl (leb rfl) (leb rfl) (leb rfl) (leb rfl) (st' := [(.int (own_ref (0 : Int32) (129 : Int32) (own_ix p1 (129 : Int32)) (own_ix p2 (129 : Int32)) (own_ix p3 (129 : Int32)))), (.int (own_nxt (own_L3 own_f129 (own_ix p1 (129 : Int32)) (own_ix p2 (129 : Int32)) (own_ix p3 (129 : Int32)) m1 m2 m3) (own_e3 own_f129 (7 : Int64) (own_ix p1 (129 : Int32)) (own_ix p2 (129 : Int32)) (own_ix p3 (129 : Int32)) m1 m2 m3) (129 : Int32) (0 : Int32) 0))]) rfl (k' := 5) rfl (n' := 13) rfl ?_
      refine H.icmpF s0_151 (own_main q3 rfl (by decide) (by decide) f1 f2 f3 (by decide : (0 : Int32).toInt = ((0 : Nat) : Int)) (by omega)) ?_
      refine H.iconst s0_154 (v := (1 : Int32)) (by decide) ?_
      refine H.goto s0_155 ?_
      refine H.istore s0_159 (ls' := #[.val (.int p0), .val (.int p1), .val (.int p2), .val (.int p3), .val (.int p4), .val (.int (2 : Int32)), .val (.int (1 : Int32)), .val (.int (129 : Int32)), .val (.int (own_ix p1 (129 : Int32))), .val (.int (own_ix p2 (129 : Int32))), .val (.int (own_ix p3 (129 : Int32))), .val (.int ((p4.toUInt32 >>> ((1 : Int32) &&& 31).toUInt32).toInt32 % (131 : Int32))), .val (.ref (n0 + 0)), .val (.int (1 : Int32))]) rfl ?_
      refine H.iload s0_161 rfl ?_
      refine H.ifF s0_163 (show ¬ (1 : Int32) = (0 : Int32) by decide) ?_
      refine H.aload s0_166 rfl rfl ?_
      refine H.iload s0_168 rfl ?_
      refine H.callVD s0_170 (k_31 hw) (m_nxt l hw n0 (own_L3 own_f129 (own_ix p1 (129 : Int32)) (own_ix p2 (129 : Int32)) (own_ix p3 (129 : Int32)) m1 m2 m3) (own_e3 own_f129 (7 : Int64) (own_ix p1 (129 : Int32)) (own_ix p2 (129 : Int32)) (own_ix p3 (129 : Int32)) m1 m2 m3) (129 : Int32) (own_f129.map Value.long) [(.long (7 : Int64))] (own_ix p1 (129 : Int32)) m1 f1 (own_len4 q3 (by decide)) (own_he q3) (own_hz q3)) (i := 0) rfl (argsL := [(.int (own_ix p1 (129 : Int32)))]) (rest := []) rfl rfl rfl rfl (leb rfl) (leb rfl) (leb rfl) (leb rfl) (st' := [(.int (own_nxt (own_L3 own_f129 (own_ix p1 (129 : Int32)) (own_ix p2 (129 : Int32)) (own_ix p3 (129 : Int32)) m1 m2 m3) (own_e3 own_f129 (7 : Int64) (own_ix p1 (129 : Int32)) (own_ix p2 (129 : Int32)) (own_ix p3 (129 : Int32)) m1 m2 m3) (129 : Int32) (own_ix p1 (129 : Int32)) m1))]) rfl (k' := 5) rfl (n' := 13) rfl ?_
      refine H.iload s0_173 rfl ?_
      refine H.iload s0_175 rfl ?_
      refine H.iload s0_177 rfl ?_
      refine H.iload s0_179 rfl ?_
      refine H.iload s0_181 rfl ?_
      refine H.callSD s0_183 (k_32 hw) (m_ref l hw n0 _ (own_ix p1 (129 : Int32)) (129 : Int32) (own_ix p1 (129 : Int32)) (own_ix p2 (129 : Int32)) (own_ix p3 (129 : Int32))) (argsL := [(.int (own_ix p1 (129 : Int32))), (.int (129 : Int32)), (.int (own_ix p1 (129 : Int32))), (.int (own_ix p2 (129 : Int32))), (.int (own_ix p3 (129 : Int32)))]) (rest := [(.int (own_nxt (own_L3 own_f129 (own_ix p1 (129 : Int32)) (own_ix p2 (129 : Int32)) (own_ix p3 (129 : Int32)) m1 m2 m3) (own_e3 own_f129 (7 : Int64) (own_ix p1 (129 : Int32)) (own_ix p2 (129 : Int32)) (own_ix p3 (129 : Int32)) m1 m2 m3) (129 : Int32) (own_ix p1 (129 : Int32)) m1))]) rfl rfl rfl rfl (leb rfl) (leb rfl) (leb rfl) (leb rfl) (st' := [(.int (own_ref (own_ix p1 (129 : Int32)) (129 : Int32) (own_ix p1 (129 : Int32)) (own_ix p2 (129 : Int32)) (own_ix p3 (129 : Int32)))), (.int (own_nxt (own_L3 own_f129 (own_ix p1 (129 : Int32)) (own_ix p2 (129 : Int32)) (own_ix p3 (129 : Int32)) m1 m2 m3) (own_e3 own_f129 (7 : Int64) (own_ix p1 (129 : Int32)) (own_ix p2 (129 : Int32)) (own_ix p3 (129 : Int32)) m1 m2 m3) (129 : Int32) (own_ix p1 (129 : Int32)) m1))]) rfl (k' := 5) rfl (n' := 13) rfl ?_
      refine H.icmpF s0_186 (own_main q3 rfl (by decide) (by decide) f1 f2 f3 f1 (by omega)) ?_
      refine H.iconst s0_189 (v := (1 : Int32)) (by decide) ?_
      refine H.goto s0_190 ?_
      refine H.istore s0_194 (ls' := #[.val (.int p0), .val (.int p1), .val (.int p2), .val (.int p3), .val (.int p4), .val (.int (2 : Int32)), .val (.int (1 : Int32)), .val (.int (129 : Int32)), .val (.int (own_ix p1 (129 : Int32))), .val (.int (own_ix p2 (129 : Int32))), .val (.int (own_ix p3 (129 : Int32))), .val (.int ((p4.toUInt32 >>> ((1 : Int32) &&& 31).toUInt32).toInt32 % (131 : Int32))), .val (.ref (n0 + 0)), .val (.int (1 : Int32))]) rfl ?_
      refine H.iload s0_196 rfl ?_
      refine H.ifF s0_198 (show ¬ (1 : Int32) = (0 : Int32) by decide) ?_
      refine H.aload s0_201 rfl rfl ?_
      refine H.iload s0_203 rfl ?_
      refine H.callVD s0_205 (k_31 hw) (m_nxt l hw n0 (own_L3 own_f129 (own_ix p1 (129 : Int32)) (own_ix p2 (129 : Int32)) (own_ix p3 (129 : Int32)) m1 m2 m3) (own_e3 own_f129 (7 : Int64) (own_ix p1 (129 : Int32)) (own_ix p2 (129 : Int32)) (own_ix p3 (129 : Int32)) m1 m2 m3) (129 : Int32) (own_f129.map Value.long) [(.long (7 : Int64))] (own_ix p2 (129 : Int32)) m2 f2 (own_len4 q3 (by decide)) (own_he q3) (own_hz q3)) (i := 0) rfl (argsL := [(.int (own_ix p2 (129 : Int32)))]) (rest := []) rfl rfl rfl rfl (leb rfl) (leb rfl) (leb rfl) (leb rfl) (st' := [(.int (own_nxt (own_L3 own_f129 (own_ix p1 (129 : Int32)) (own_ix p2 (129 : Int32)) (own_ix p3 (129 : Int32)) m1 m2 m3) (own_e3 own_f129 (7 : Int64) (own_ix p1 (129 : Int32)) (own_ix p2 (129 : Int32)) (own_ix p3 (129 : Int32)) m1 m2 m3) (129 : Int32) (own_ix p2 (129 : Int32)) m2))]) rfl (k' := 5) rfl (n' := 13) rfl ?_
      refine H.iload s0_208 rfl ?_
      refine H.iload s0_210 rfl ?_
      refine H.iload s0_212 rfl ?_
      refine H.iload s0_214 rfl ?_
      refine H.iload s0_216 rfl ?_
      refine H.callSD s0_218 (k_32 hw) (m_ref l hw n0 _ (own_ix p2 (129 : Int32)) (129 : Int32) (own_ix p1 (129 : Int32)) (own_ix p2 (129 : Int32)) (own_ix p3 (129 : Int32))) (argsL := [(.int (own_ix p2 (129 : Int32))), (.int (129 : Int32)), (.int (own_ix p1 (129 : Int32))), (.int (own_ix p2 (129 : Int32))), (.int (own_ix p3 (129 : Int32)))]) (rest := [(.int (own_nxt (own_L3 own_f129 (own_ix p1 (129 : Int32)) (own_ix p2 (129 : Int32)) (own_ix p3 (129 : Int32)) m1 m2 m3) (own_e3 own_f129 (7 : Int64) (own_ix p1 (129 : Int32)) (own_ix p2 (129 : Int32)) (own_ix p3 (129 : Int32)) m1 m2 m3) (129 : Int32) (own_ix p2 (129 : Int32)) m2))]) rfl rfl rfl rfl (leb rfl) (leb rfl) (leb rfl) (leb rfl) (st' := [(.int (own_ref (own_ix p2 (129 : Int32)) (129 : Int32) (own_ix p1 (129 : Int32)) (own_ix p2 (129 : Int32)) (own_ix p3 (129 : Int32)))), (.int (own_nxt (own_L3 own_f129 (own_ix p1 (129 : Int32)) (own_ix p2 (129 : Int32)) (own_ix p3 (129 : Int32)) m1 m2 m3) (own_e3 own_f129 (7 : Int64) (own_ix p1 (129 : Int32)) (own_ix p2 (129 : Int32)) (own_ix p3 (129 : Int32)) m1 m2 m3) (129 : Int32) (own_ix p2 (129 : Int32)) m2))]) rfl (k' := 5) rfl (n' := 13) rfl ?_
      refine H.icmpF s0_221 (own_main q3 rfl (by decide) (by decide) f1 f2 f3 f2 (by omega)) ?_
      refine H.iconst s0_224 (v := (1 : Int32)) (by decide) ?_
      refine H.goto s0_225 ?_
      refine H.istore s0_229 (ls' := #[.val (.int p0), .val (.int p1), .val (.int p2), .val (.int p3), .val (.int p4), .val (.int (2 : Int32)), .val (.int (1 : Int32)), .val (.int (129 : Int32)), .val (.int (own_ix p1 (129 : Int32))), .val (.int (own_ix p2 (129 : Int32))), .val (.int (own_ix p3 (129 : Int32))), .val (.int ((p4.toUInt32 >>> ((1 : Int32) &&& 31).toUInt32).toInt32 % (131 : Int32))), .val (.ref (n0 + 0)), .val (.int (1 : Int32))]) rfl ?_
      refine H.iload s0_231 rfl ?_
      refine H.ifF s0_233 (show ¬ (1 : Int32) = (0 : Int32) by decide) ?_
      refine H.aload s0_236 rfl rfl ?_
      refine H.iload s0_238 rfl ?_
      refine H.callVD s0_240 (k_31 hw) (m_nxt l hw n0 (own_L3 own_f129 (own_ix p1 (129 : Int32)) (own_ix p2 (129 : Int32)) (own_ix p3 (129 : Int32)) m1 m2 m3) (own_e3 own_f129 (7 : Int64) (own_ix p1 (129 : Int32)) (own_ix p2 (129 : Int32)) (own_ix p3 (129 : Int32)) m1 m2 m3) (129 : Int32) (own_f129.map Value.long) [(.long (7 : Int64))] (own_ix p3 (129 : Int32)) m3 f3 (own_len4 q3 (by decide)) (own_he q3) (own_hz q3)) (i := 0) rfl (argsL := [(.int (own_ix p3 (129 : Int32)))]) (rest := []) rfl rfl rfl rfl (leb rfl) (leb rfl) (leb rfl) (leb rfl) (st' := [(.int (own_nxt (own_L3 own_f129 (own_ix p1 (129 : Int32)) (own_ix p2 (129 : Int32)) (own_ix p3 (129 : Int32)) m1 m2 m3) (own_e3 own_f129 (7 : Int64) (own_ix p1 (129 : Int32)) (own_ix p2 (129 : Int32)) (own_ix p3 (129 : Int32)) m1 m2 m3) (129 : Int32) (own_ix p3 (129 : Int32)) m3))]) rfl (k' := 5) rfl (n' := 13) rfl ?_
      refine H.iload s0_243 rfl ?_
      refine H.iload s0_245 rfl ?_
      refine H.iload s0_247 rfl ?_
      refine H.iload s0_249 rfl ?_
      refine H.iload s0_251 rfl ?_
      refine H.callSD s0_253 (k_32 hw) (m_ref l hw n0 _ (own_ix p3 (129 : Int32)) (129 : Int32) (own_ix p1 (129 : Int32)) (own_ix p2 (129 : Int32)) (own_ix p3 (129 : Int32))) (argsL := [(.int (own_ix p3 (129 : Int32))), (.int (129 : Int32)), (.int (own_ix p1 (129 : Int32))), (.int (own_ix p2 (129 : Int32))), (.int (own_ix p3 (129 : Int32)))]) (rest := [(.int (own_nxt (own_L3 own_f129 (own_ix p1 (129 : Int32)) (own_ix p2 (129 : Int32)) (own_ix p3 (129 : Int32)) m1 m2 m3) (own_e3 own_f129 (7 : Int64) (own_ix p1 (129 : Int32)) (own_ix p2 (129 : Int32)) (own_ix p3 (129 : Int32)) m1 m2 m3) (129 : Int32) (own_ix p3 (129 : Int32)) m3))]) rfl rfl rfl rfl (leb rfl) (leb rfl) (leb rfl) (leb rfl) (st' := [(.int (own_ref (own_ix p3 (129 : Int32)) (129 : Int32) (own_ix p1 (129 : Int32)) (own_ix p2 (129 : Int32)) (own_ix p3 (129 : Int32)))), (.int (own_nxt (own_L3 own_f129 (own_ix p1 (129 : Int32)) (own_ix p2 (129 : Int32)) (own_ix p3 (129 : Int32)) m1 m2 m3) (own_e3 own_f129 (7 : Int64) (own_ix p1 (129 : Int32)) (own_ix p2 (129 : Int32)) (own_ix p3 (129 : Int32)) m1 m2 m3) (129 : Int32) (own_ix p3 (129 : Int32)) m3))]) rfl (k' := 5) rfl (n' := 13) rfl ?_
      refine H.icmpF s0_256 (own_main q3 rfl (by decide) (by decide) f1 f2 f3 f3 (by omega)) ?_
      refine H.iconst s0_259 (v := (1 : Int32)) (by decide) ?_
      refine H.goto s0_260 ?_
      refine H.istore s0_264 (ls' := #[.val (.int p0), .val (.int p1), .val (.int p2), .val (.int p3), .val (.int p4), .val (.int (2 : Int32)), .val (.int (1 : Int32)), .val (.int (129 : Int32)), .val (.int (own_ix p1 (129 : Int32))), .val (.int (own_ix p2 (129 : Int32))), .val (.int (own_ix p3 (129 : Int32))), .val (.int ((p4.toUInt32 >>> ((1 : Int32) &&& 31).toUInt32).toInt32 % (131 : Int32))), .val (.ref (n0 + 0)), .val (.int (1 : Int32))]) rfl ?_
      refine H.iload s0_266 rfl ?_
      exact H.ireturn s0_268 rfl (by simp) rfl rfl (by decide) (by decide)
    · refine H.iand s0_9 (w := (2 : Int32)) hz9 ?_
      refine H.istore s0_10 (ls' := #[.val (.int p0), .val (.int p1), .val (.int p2), .val (.int p3), .val (.int p4), .val (.int (2 : Int32)), .val (.int (2 : Int32)), .unset, .unset, .unset, .unset, .unset, .unset, .unset]) rfl ?_
      refine H.iconst s0_12 (v := (1 : Int32)) (by decide) ?_
      refine H.iload s0_13 rfl ?_
      refine H.bipush s0_15 (v := (6 : Int32)) (by decide) ?_
      refine H.ishl s0_17 (w := (128 : Int32)) (by decide) ?_
      refine H.iload s0_18 rfl ?_
      refine H.iadd s0_20 (w := (130 : Int32)) (by decide) ?_
      refine H.callSD s0_21 (k_13 hw) (a_82 l hw n0) (argsL := [(.int (1 : Int32)), (.int (130 : Int32))]) (rest := []) rfl rfl rfl rfl (leb rfl) (leb rfl) (leb rfl) (leb rfl) (st' := [(.int (130 : Int32))]) rfl (k' := 0) rfl (n' := 0) rfl ?_
      refine H.istore s0_24 (ls' := #[.val (.int p0), .val (.int p1), .val (.int p2), .val (.int p3), .val (.int p4), .val (.int (2 : Int32)), .val (.int (2 : Int32)), .val (.int (130 : Int32)), .unset, .unset, .unset, .unset, .unset, .unset]) rfl ?_
      refine H.iloadN s0_26 rfl ?_
      refine H.iload s0_27 rfl ?_
      refine H.callSD s0_29 (k_14 hw) (m_ix l hw n0 _ p1 (130 : Int32) (by decide)) (argsL := [(.int p1), (.int (130 : Int32))]) (rest := []) rfl rfl rfl rfl (leb rfl) (leb rfl) (leb rfl) (leb rfl) (st' := [(.int (own_ix p1 (130 : Int32)))]) rfl (k' := 0) rfl (n' := 0) rfl ?_
      refine H.istore s0_32 (ls' := #[.val (.int p0), .val (.int p1), .val (.int p2), .val (.int p3), .val (.int p4), .val (.int (2 : Int32)), .val (.int (2 : Int32)), .val (.int (130 : Int32)), .val (.int (own_ix p1 (130 : Int32))), .unset, .unset, .unset, .unset, .unset]) rfl ?_
      refine H.iloadN s0_34 rfl ?_
      refine H.iload s0_35 rfl ?_
      refine H.callSD s0_37 (k_14 hw) (m_ix l hw n0 _ p2 (130 : Int32) (by decide)) (argsL := [(.int p2), (.int (130 : Int32))]) (rest := []) rfl rfl rfl rfl (leb rfl) (leb rfl) (leb rfl) (leb rfl) (st' := [(.int (own_ix p2 (130 : Int32)))]) rfl (k' := 0) rfl (n' := 0) rfl ?_
      refine H.istore s0_40 (ls' := #[.val (.int p0), .val (.int p1), .val (.int p2), .val (.int p3), .val (.int p4), .val (.int (2 : Int32)), .val (.int (2 : Int32)), .val (.int (130 : Int32)), .val (.int (own_ix p1 (130 : Int32))), .val (.int (own_ix p2 (130 : Int32))), .unset, .unset, .unset, .unset]) rfl ?_
      refine H.iloadN s0_42 rfl ?_
      refine H.iload s0_43 rfl ?_
      refine H.callSD s0_45 (k_14 hw) (m_ix l hw n0 _ p3 (130 : Int32) (by decide)) (argsL := [(.int p3), (.int (130 : Int32))]) (rest := []) rfl rfl rfl rfl (leb rfl) (leb rfl) (leb rfl) (leb rfl) (st' := [(.int (own_ix p3 (130 : Int32)))]) rfl (k' := 0) rfl (n' := 0) rfl ?_
      refine H.istore s0_48 (ls' := #[.val (.int p0), .val (.int p1), .val (.int p2), .val (.int p3), .val (.int p4), .val (.int (2 : Int32)), .val (.int (2 : Int32)), .val (.int (130 : Int32)), .val (.int (own_ix p1 (130 : Int32))), .val (.int (own_ix p2 (130 : Int32))), .val (.int (own_ix p3 (130 : Int32))), .unset, .unset, .unset]) rfl ?_
      refine H.iload s0_50 rfl ?_
      refine H.iconst s0_52 (v := (1 : Int32)) (by decide) ?_
      refine H.iushr s0_53 rfl ?_
      refine H.iload s0_54 rfl ?_
      refine H.iconst s0_56 (v := (2 : Int32)) (by decide) ?_
      refine H.iadd s0_57 (w := (132 : Int32)) (by decide) ?_
      refine H.irem s0_58 (by decide) (w := ((p4.toUInt32 >>> ((1 : Int32) &&& 31).toUInt32).toInt32 % (132 : Int32))) rfl ?_
      refine H.istore s0_59 (ls' := #[.val (.int p0), .val (.int p1), .val (.int p2), .val (.int p3), .val (.int p4), .val (.int (2 : Int32)), .val (.int (2 : Int32)), .val (.int (130 : Int32)), .val (.int (own_ix p1 (130 : Int32))), .val (.int (own_ix p2 (130 : Int32))), .val (.int (own_ix p3 (130 : Int32))), .val (.int ((p4.toUInt32 >>> ((1 : Int32) &&& 31).toUInt32).toInt32 % (132 : Int32))), .unset, .unset]) rfl ?_
      refine H.new s0_61 (k_15 hw) rfl (by decide) (by decide) (i := 0) rfl (A' := [.inl (0, [(.int (0 : Int32)), .null, .null, .null, .null])]) rfl (k' := 1) rfl (n' := 5) rfl ?_
      refine H.dup s0_64 rfl ?_
      refine H.iload s0_65 rfl ?_
      refine H.callCD s0_67 (k_25 hw) (a_83 l hw n0) (argsL := [(.int (130 : Int32))]) (rest := [(.ref (n0 + 0))]) rfl rfl rfl rfl (leb rfl) (leb rfl) (leb rfl) (leb rfl) (st' := [(.ref (n0 + 0))]) rfl (k' := 5) rfl (n' := 13) rfl ?_
      refine H.astore s0_70 rfl (ls' := #[.val (.int p0), .val (.int p1), .val (.int p2), .val (.int p3), .val (.int p4), .val (.int (2 : Int32)), .val (.int (2 : Int32)), .val (.int (130 : Int32)), .val (.int (own_ix p1 (130 : Int32))), .val (.int (own_ix p2 (130 : Int32))), .val (.int (own_ix p3 (130 : Int32))), .val (.int ((p4.toUInt32 >>> ((1 : Int32) &&& 31).toUInt32).toInt32 % (132 : Int32))), .val (.ref (n0 + 0)), .unset]) rfl ?_
      refine H.aload s0_72 rfl rfl ?_
      refine H.callVD s0_74 (k_29 hw) (a_90 l hw n0) (i := 0) rfl (argsL := []) (rest := []) rfl rfl rfl rfl (leb rfl) (leb rfl) (leb rfl) (leb rfl) (st' := []) rfl (k' := 5) rfl (n' := 13) rfl ?_
      refine H.aload s0_77 rfl rfl ?_
      refine H.iload s0_79 rfl ?_
      obtain ⟨m1, f1, g1⟩ := own_ix_r p1 (130 : Int32) 130 (by decide) (by decide) (by decide)
      obtain ⟨m2, f2, g2⟩ := own_ix_r p2 (130 : Int32) 130 (by decide) (by decide) (by decide)
      obtain ⟨m3, f3, g3⟩ := own_ix_r p3 (130 : Int32) 130 (by decide) (by decide) (by decide)
      obtain ⟨m4, f4, g4⟩ := own_fr_r p4 (132 : Int32) 132 (by decide) (by decide)
      have q0 := inv_130
      obtain ⟨q1, q2, q3⟩ := own_inv3 q0 (by decide) (by decide) f1 f2 f3 g1 g2 g3
      refine H.callVD s0_81 (k_30 hw) (m_rem l hw n0 own_f130 (7 : Int64) (130 : Int32) (own_f130.map Value.long) [(.long (7 : Int64))] (own_ix p1 (130 : Int32)) m1 f1 (own_len q0 (by omega)) (own_len4 q0 (by decide))) (i := 0) rfl (argsL := [(.int (own_ix p1 (130 : Int32)))]) (rest := []) rfl rfl rfl rfl (leb rfl) (leb rfl) (leb rfl) (leb rfl) (st' := []) rfl (k' := 5) rfl (n' := 13) rfl ?_
      refine H.aload s0_84 rfl rfl ?_
      refine H.iload s0_86 rfl ?_
      refine H.callVD s0_88 (k_30 hw) (m_rem l hw n0 (own_Lr own_f130 (own_ix p1 (130 : Int32)) m1) (own_e own_f130 (7 : Int64) (own_ix p1 (130 : Int32)) m1) (130 : Int32) (own_f130.map Value.long) [(.long (7 : Int64))] (own_ix p2 (130 : Int32)) m2 f2 (own_len q1 (by omega)) (own_len4 q1 (by decide))) (i := 0) rfl (argsL := [(.int (own_ix p2 (130 : Int32)))]) (rest := []) rfl rfl rfl rfl (leb rfl) (leb rfl) (leb rfl) (leb rfl) (st' := []) rfl (k' := 5) rfl (n' := 13) rfl ?_
      refine H.aload s0_91 rfl rfl ?_
      refine H.iload s0_93 rfl ?_
      refine H.callVD s0_95 (k_30 hw) (m_rem l hw n0 (own_L2 own_f130 (own_ix p1 (130 : Int32)) (own_ix p2 (130 : Int32)) m1 m2) (own_e2 own_f130 (7 : Int64) (own_ix p1 (130 : Int32)) (own_ix p2 (130 : Int32)) m1 m2) (130 : Int32) (own_f130.map Value.long) [(.long (7 : Int64))] (own_ix p3 (130 : Int32)) m3 f3 (own_len q2 (by omega)) (own_len4 q2 (by decide))) (i := 0) rfl (argsL := [(.int (own_ix p3 (130 : Int32)))]) (rest := []) rfl rfl rfl rfl (leb rfl) (leb rfl) (leb rfl) (leb rfl) (st' := []) rfl (k' := 5) rfl (n' := 13) rfl ?_
      refine H.aload s0_98 rfl rfl ?_
      refine H.iload s0_100 rfl ?_
      refine H.callVD s0_102 (k_31 hw) (m_nxt l hw n0 (own_L3 own_f130 (own_ix p1 (130 : Int32)) (own_ix p2 (130 : Int32)) (own_ix p3 (130 : Int32)) m1 m2 m3) (own_e3 own_f130 (7 : Int64) (own_ix p1 (130 : Int32)) (own_ix p2 (130 : Int32)) (own_ix p3 (130 : Int32)) m1 m2 m3) (130 : Int32) (own_f130.map Value.long) [(.long (7 : Int64))] ((p4.toUInt32 >>> ((1 : Int32) &&& 31).toUInt32).toInt32 % (132 : Int32)) m4 f4 (own_len4 q3 (by decide)) (own_he q3) (own_hz q3)) (i := 0) rfl (argsL := [(.int ((p4.toUInt32 >>> ((1 : Int32) &&& 31).toUInt32).toInt32 % (132 : Int32)))]) (rest := []) rfl rfl rfl rfl (leb rfl) (leb rfl) (leb rfl) (leb rfl) (st' := [(.int (own_nxt (own_L3 own_f130 (own_ix p1 (130 : Int32)) (own_ix p2 (130 : Int32)) (own_ix p3 (130 : Int32)) m1 m2 m3) (own_e3 own_f130 (7 : Int64) (own_ix p1 (130 : Int32)) (own_ix p2 (130 : Int32)) (own_ix p3 (130 : Int32)) m1 m2 m3) (130 : Int32) ((p4.toUInt32 >>> ((1 : Int32) &&& 31).toUInt32).toInt32 % (132 : Int32)) m4))]) rfl (k' := 5) rfl (n' := 13) rfl ?_
      refine H.iload s0_105 rfl ?_
      refine H.iload s0_107 rfl ?_
      refine H.iload s0_109 rfl ?_
      refine H.iload s0_111 rfl ?_
      refine H.iload s0_113 rfl ?_
      refine H.callSD s0_115 (k_32 hw) (m_ref l hw n0 _ ((p4.toUInt32 >>> ((1 : Int32) &&& 31).toUInt32).toInt32 % (132 : Int32)) (130 : Int32) (own_ix p1 (130 : Int32)) (own_ix p2 (130 : Int32)) (own_ix p3 (130 : Int32))) (argsL := [(.int ((p4.toUInt32 >>> ((1 : Int32) &&& 31).toUInt32).toInt32 % (132 : Int32))), (.int (130 : Int32)), (.int (own_ix p1 (130 : Int32))), (.int (own_ix p2 (130 : Int32))), (.int (own_ix p3 (130 : Int32)))]) (rest := [(.int (own_nxt (own_L3 own_f130 (own_ix p1 (130 : Int32)) (own_ix p2 (130 : Int32)) (own_ix p3 (130 : Int32)) m1 m2 m3) (own_e3 own_f130 (7 : Int64) (own_ix p1 (130 : Int32)) (own_ix p2 (130 : Int32)) (own_ix p3 (130 : Int32)) m1 m2 m3) (130 : Int32) ((p4.toUInt32 >>> ((1 : Int32) &&& 31).toUInt32).toInt32 % (132 : Int32)) m4))]) rfl rfl rfl rfl (leb rfl) (leb rfl) (leb rfl) (leb rfl) (st' := [(.int (own_ref ((p4.toUInt32 >>> ((1 : Int32) &&& 31).toUInt32).toInt32 % (132 : Int32)) (130 : Int32) (own_ix p1 (130 : Int32)) (own_ix p2 (130 : Int32)) (own_ix p3 (130 : Int32)))), (.int (own_nxt (own_L3 own_f130 (own_ix p1 (130 : Int32)) (own_ix p2 (130 : Int32)) (own_ix p3 (130 : Int32)) m1 m2 m3) (own_e3 own_f130 (7 : Int64) (own_ix p1 (130 : Int32)) (own_ix p2 (130 : Int32)) (own_ix p3 (130 : Int32)) m1 m2 m3) (130 : Int32) ((p4.toUInt32 >>> ((1 : Int32) &&& 31).toUInt32).toInt32 % (132 : Int32)) m4))]) rfl (k' := 5) rfl (n' := 13) rfl ?_
      refine H.icmpF s0_118 (own_main q3 rfl (by decide) (by decide) f1 f2 f3 f4 (by omega)) ?_
      refine H.iconst s0_121 (v := (1 : Int32)) (by decide) ?_
      refine H.goto s0_122 ?_
      refine H.istore s0_126 (ls' := #[.val (.int p0), .val (.int p1), .val (.int p2), .val (.int p3), .val (.int p4), .val (.int (2 : Int32)), .val (.int (2 : Int32)), .val (.int (130 : Int32)), .val (.int (own_ix p1 (130 : Int32))), .val (.int (own_ix p2 (130 : Int32))), .val (.int (own_ix p3 (130 : Int32))), .val (.int ((p4.toUInt32 >>> ((1 : Int32) &&& 31).toUInt32).toInt32 % (132 : Int32))), .val (.ref (n0 + 0)), .val (.int (1 : Int32))]) rfl ?_
      refine H.iload s0_128 rfl ?_
      refine H.ifF s0_130 (show ¬ (1 : Int32) = (0 : Int32) by decide) ?_
      refine H.aload s0_133 rfl rfl ?_
      refine H.iconst s0_135 (v := (0 : Int32)) (by decide) ?_
      refine H.callVD s0_136 (k_31 hw) (m_nxt l hw n0 (own_L3 own_f130 (own_ix p1 (130 : Int32)) (own_ix p2 (130 : Int32)) (own_ix p3 (130 : Int32)) m1 m2 m3) (own_e3 own_f130 (7 : Int64) (own_ix p1 (130 : Int32)) (own_ix p2 (130 : Int32)) (own_ix p3 (130 : Int32)) m1 m2 m3) (130 : Int32) (own_f130.map Value.long) [(.long (7 : Int64))] (0 : Int32) 0 (by decide : (0 : Int32).toInt = ((0 : Nat) : Int)) (own_len4 q3 (by decide)) (own_he q3) (own_hz q3)) (i := 0) rfl (argsL := [(.int (0 : Int32))]) (rest := []) rfl rfl rfl rfl (leb rfl) (leb rfl) (leb rfl) (leb rfl) (st' := [(.int (own_nxt (own_L3 own_f130 (own_ix p1 (130 : Int32)) (own_ix p2 (130 : Int32)) (own_ix p3 (130 : Int32)) m1 m2 m3) (own_e3 own_f130 (7 : Int64) (own_ix p1 (130 : Int32)) (own_ix p2 (130 : Int32)) (own_ix p3 (130 : Int32)) m1 m2 m3) (130 : Int32) (0 : Int32) 0))]) rfl (k' := 5) rfl (n' := 13) rfl ?_
      refine H.iconst s0_139 (v := (0 : Int32)) (by decide) ?_
      refine H.iload s0_140 rfl ?_
      refine H.iload s0_142 rfl ?_
      refine H.iload s0_144 rfl ?_
      refine H.iload s0_146 rfl ?_
      refine H.callSD s0_148 (k_32 hw) (m_ref l hw n0 _ (0 : Int32) (130 : Int32) (own_ix p1 (130 : Int32)) (own_ix p2 (130 : Int32)) (own_ix p3 (130 : Int32))) (argsL := [(.int (0 : Int32)), (.int (130 : Int32)), (.int (own_ix p1 (130 : Int32))), (.int (own_ix p2 (130 : Int32))), (.int (own_ix p3 (130 : Int32)))]) (rest := [(.int (own_nxt (own_L3 own_f130 (own_ix p1 (130 : Int32)) (own_ix p2 (130 : Int32)) (own_ix p3 (130 : Int32)) m1 m2 m3) (own_e3 own_f130 (7 : Int64) (own_ix p1 (130 : Int32)) (own_ix p2 (130 : Int32)) (own_ix p3 (130 : Int32)) m1 m2 m3) (130 : Int32) (0 : Int32) 0))]) rfl rfl rfl rfl (leb rfl) (leb rfl) (leb rfl) (leb rfl) (st' := [(.int (own_ref (0 : Int32) (130 : Int32) (own_ix p1 (130 : Int32)) (own_ix p2 (130 : Int32)) (own_ix p3 (130 : Int32)))), (.int (own_nxt (own_L3 own_f130 (own_ix p1 (130 : Int32)) (own_ix p2 (130 : Int32)) (own_ix p3 (130 : Int32)) m1 m2 m3) (own_e3 own_f130 (7 : Int64) (own_ix p1 (130 : Int32)) (own_ix p2 (130 : Int32)) (own_ix p3 (130 : Int32)) m1 m2 m3) (130 : Int32) (0 : Int32) 0))]) rfl (k' := 5) rfl (n' := 13) rfl ?_
      refine H.icmpF s0_151 (own_main q3 rfl (by decide) (by decide) f1 f2 f3 (by decide : (0 : Int32).toInt = ((0 : Nat) : Int)) (by omega)) ?_
      refine H.iconst s0_154 (v := (1 : Int32)) (by decide) ?_
      refine H.goto s0_155 ?_
      refine H.istore s0_159 (ls' := #[.val (.int p0), .val (.int p1), .val (.int p2), .val (.int p3), .val (.int p4), .val (.int (2 : Int32)), .val (.int (2 : Int32)), .val (.int (130 : Int32)), .val (.int (own_ix p1 (130 : Int32))), .val (.int (own_ix p2 (130 : Int32))), .val (.int (own_ix p3 (130 : Int32))), .val (.int ((p4.toUInt32 >>> ((1 : Int32) &&& 31).toUInt32).toInt32 % (132 : Int32))), .val (.ref (n0 + 0)), .val (.int (1 : Int32))]) rfl ?_
      refine H.iload s0_161 rfl ?_
      refine H.ifF s0_163 (show ¬ (1 : Int32) = (0 : Int32) by decide) ?_
      refine H.aload s0_166 rfl rfl ?_
      refine H.iload s0_168 rfl ?_
      refine H.callVD s0_170 (k_31 hw) (m_nxt l hw n0 (own_L3 own_f130 (own_ix p1 (130 : Int32)) (own_ix p2 (130 : Int32)) (own_ix p3 (130 : Int32)) m1 m2 m3) (own_e3 own_f130 (7 : Int64) (own_ix p1 (130 : Int32)) (own_ix p2 (130 : Int32)) (own_ix p3 (130 : Int32)) m1 m2 m3) (130 : Int32) (own_f130.map Value.long) [(.long (7 : Int64))] (own_ix p1 (130 : Int32)) m1 f1 (own_len4 q3 (by decide)) (own_he q3) (own_hz q3)) (i := 0) rfl (argsL := [(.int (own_ix p1 (130 : Int32)))]) (rest := []) rfl rfl rfl rfl (leb rfl) (leb rfl) (leb rfl) (leb rfl) (st' := [(.int (own_nxt (own_L3 own_f130 (own_ix p1 (130 : Int32)) (own_ix p2 (130 : Int32)) (own_ix p3 (130 : Int32)) m1 m2 m3) (own_e3 own_f130 (7 : Int64) (own_ix p1 (130 : Int32)) (own_ix p2 (130 : Int32)) (own_ix p3 (130 : Int32)) m1 m2 m3) (130 : Int32) (own_ix p1 (130 : Int32)) m1))]) rfl (k' := 5) rfl (n' := 13) rfl ?_
      refine H.iload s0_173 rfl ?_
      refine H.iload s0_175 rfl ?_
      refine H.iload s0_177 rfl ?_
      refine H.iload s0_179 rfl ?_
      refine H.iload s0_181 rfl ?_
      refine H.callSD s0_183 (k_32 hw) (m_ref l hw n0 _ (own_ix p1 (130 : Int32)) (130 : Int32) (own_ix p1 (130 : Int32)) (own_ix p2 (130 : Int32)) (own_ix p3 (130 : Int32))) (argsL := [(.int (own_ix p1 (130 : Int32))), (.int (130 : Int32)), (.int (own_ix p1 (130 : Int32))), (.int (own_ix p2 (130 : Int32))), (.int (own_ix p3 (130 : Int32)))]) (rest := [(.int (own_nxt (own_L3 own_f130 (own_ix p1 (130 : Int32)) (own_ix p2 (130 : Int32)) (own_ix p3 (130 : Int32)) m1 m2 m3) (own_e3 own_f130 (7 : Int64) (own_ix p1 (130 : Int32)) (own_ix p2 (130 : Int32)) (own_ix p3 (130 : Int32)) m1 m2 m3) (130 : Int32) (own_ix p1 (130 : Int32)) m1))]) rfl rfl rfl rfl (leb rfl) (leb rfl) (leb rfl) (leb rfl) (st' := [(.int (own_ref (own_ix p1 (130 : Int32)) (130 : Int32) (own_ix p1 (130 : Int32)) (own_ix p2 (130 : Int32)) (own_ix p3 (130 : Int32)))), (.int (own_nxt (own_L3 own_f130 (own_ix p1 (130 : Int32)) (own_ix p2 (130 : Int32)) (own_ix p3 (130 : Int32)) m1 m2 m3) (own_e3 own_f130 (7 : Int64) (own_ix p1 (130 : Int32)) (own_ix p2 (130 : Int32)) (own_ix p3 (130 : Int32)) m1 m2 m3) (130 : Int32) (own_ix p1 (130 : Int32)) m1))]) rfl (k' := 5) rfl (n' := 13) rfl ?_
      refine H.icmpF s0_186 (own_main q3 rfl (by decide) (by decide) f1 f2 f3 f1 (by omega)) ?_
      refine H.iconst s0_189 (v := (1 : Int32)) (by decide) ?_
      refine H.goto s0_190 ?_
      refine H.istore s0_194 (ls' := #[.val (.int p0), .val (.int p1), .val (.int p2), .val (.int p3), .val (.int p4), .val (.int (2 : Int32)), .val (.int (2 : Int32)), .val (.int (130 : Int32)), .val (.int (own_ix p1 (130 : Int32))), .val (.int (own_ix p2 (130 : Int32))), .val (.int (own_ix p3 (130 : Int32))), .val (.int ((p4.toUInt32 >>> ((1 : Int32) &&& 31).toUInt32).toInt32 % (132 : Int32))), .val (.ref (n0 + 0)), .val (.int (1 : Int32))]) rfl ?_
      refine H.iload s0_196 rfl ?_
      refine H.ifF s0_198 (show ¬ (1 : Int32) = (0 : Int32) by decide) ?_
      refine H.aload s0_201 rfl rfl ?_
      refine H.iload s0_203 rfl ?_
      refine H.callVD s0_205 (k_31 hw) (m_nxt l hw n0 (own_L3 own_f130 (own_ix p1 (130 : Int32)) (own_ix p2 (130 : Int32)) (own_ix p3 (130 : Int32)) m1 m2 m3) (own_e3 own_f130 (7 : Int64) (own_ix p1 (130 : Int32)) (own_ix p2 (130 : Int32)) (own_ix p3 (130 : Int32)) m1 m2 m3) (130 : Int32) (own_f130.map Value.long) [(.long (7 : Int64))] (own_ix p2 (130 : Int32)) m2 f2 (own_len4 q3 (by decide)) (own_he q3) (own_hz q3)) (i := 0) rfl (argsL := [(.int (own_ix p2 (130 : Int32)))]) (rest := []) rfl rfl rfl rfl (leb rfl) (leb rfl) (leb rfl) (leb rfl) (st' := [(.int (own_nxt (own_L3 own_f130 (own_ix p1 (130 : Int32)) (own_ix p2 (130 : Int32)) (own_ix p3 (130 : Int32)) m1 m2 m3) (own_e3 own_f130 (7 : Int64) (own_ix p1 (130 : Int32)) (own_ix p2 (130 : Int32)) (own_ix p3 (130 : Int32)) m1 m2 m3) (130 : Int32) (own_ix p2 (130 : Int32)) m2))]) rfl (k' := 5) rfl (n' := 13) rfl ?_
      refine H.iload s0_208 rfl ?_
      refine H.iload s0_210 rfl ?_
      refine H.iload s0_212 rfl ?_
      refine H.iload s0_214 rfl ?_
      refine H.iload s0_216 rfl ?_
      refine H.callSD s0_218 (k_32 hw) (m_ref l hw n0 _ (own_ix p2 (130 : Int32)) (130 : Int32) (own_ix p1 (130 : Int32)) (own_ix p2 (130 : Int32)) (own_ix p3 (130 : Int32))) (argsL := [(.int (own_ix p2 (130 : Int32))), (.int (130 : Int32)), (.int (own_ix p1 (130 : Int32))), (.int (own_ix p2 (130 : Int32))), (.int (own_ix p3 (130 : Int32)))]) (rest := [(.int (own_nxt (own_L3 own_f130 (own_ix p1 (130 : Int32)) (own_ix p2 (130 : Int32)) (own_ix p3 (130 : Int32)) m1 m2 m3) (own_e3 own_f130 (7 : Int64) (own_ix p1 (130 : Int32)) (own_ix p2 (130 : Int32)) (own_ix p3 (130 : Int32)) m1 m2 m3) (130 : Int32) (own_ix p2 (130 : Int32)) m2))]) rfl rfl rfl rfl (leb rfl) (leb rfl) (leb rfl) (leb rfl) (st' := [(.int (own_ref (own_ix p2 (130 : Int32)) (130 : Int32) (own_ix p1 (130 : Int32)) (own_ix p2 (130 : Int32)) (own_ix p3 (130 : Int32)))), (.int (own_nxt (own_L3 own_f130 (own_ix p1 (130 : Int32)) (own_ix p2 (130 : Int32)) (own_ix p3 (130 : Int32)) m1 m2 m3) (own_e3 own_f130 (7 : Int64) (own_ix p1 (130 : Int32)) (own_ix p2 (130 : Int32)) (own_ix p3 (130 : Int32)) m1 m2 m3) (130 : Int32) (own_ix p2 (130 : Int32)) m2))]) rfl (k' := 5) rfl (n' := 13) rfl ?_
      refine H.icmpF s0_221 (own_main q3 rfl (by decide) (by decide) f1 f2 f3 f2 (by omega)) ?_
      refine H.iconst s0_224 (v := (1 : Int32)) (by decide) ?_
      refine H.goto s0_225 ?_
      refine H.istore s0_229 (ls' := #[.val (.int p0), .val (.int p1), .val (.int p2), .val (.int p3), .val (.int p4), .val (.int (2 : Int32)), .val (.int (2 : Int32)), .val (.int (130 : Int32)), .val (.int (own_ix p1 (130 : Int32))), .val (.int (own_ix p2 (130 : Int32))), .val (.int (own_ix p3 (130 : Int32))), .val (.int ((p4.toUInt32 >>> ((1 : Int32) &&& 31).toUInt32).toInt32 % (132 : Int32))), .val (.ref (n0 + 0)), .val (.int (1 : Int32))]) rfl ?_
      refine H.iload s0_231 rfl ?_
      refine H.ifF s0_233 (show ¬ (1 : Int32) = (0 : Int32) by decide) ?_
      refine H.aload s0_236 rfl rfl ?_
      refine H.iload s0_238 rfl ?_
      refine H.callVD s0_240 (k_31 hw) (m_nxt l hw n0 (own_L3 own_f130 (own_ix p1 (130 : Int32)) (own_ix p2 (130 : Int32)) (own_ix p3 (130 : Int32)) m1 m2 m3) (own_e3 own_f130 (7 : Int64) (own_ix p1 (130 : Int32)) (own_ix p2 (130 : Int32)) (own_ix p3 (130 : Int32)) m1 m2 m3) (130 : Int32) (own_f130.map Value.long) [(.long (7 : Int64))] (own_ix p3 (130 : Int32)) m3 f3 (own_len4 q3 (by decide)) (own_he q3) (own_hz q3)) (i := 0) rfl (argsL := [(.int (own_ix p3 (130 : Int32)))]) (rest := []) rfl rfl rfl rfl (leb rfl) (leb rfl) (leb rfl) (leb rfl) (st' := [(.int (own_nxt (own_L3 own_f130 (own_ix p1 (130 : Int32)) (own_ix p2 (130 : Int32)) (own_ix p3 (130 : Int32)) m1 m2 m3) (own_e3 own_f130 (7 : Int64) (own_ix p1 (130 : Int32)) (own_ix p2 (130 : Int32)) (own_ix p3 (130 : Int32)) m1 m2 m3) (130 : Int32) (own_ix p3 (130 : Int32)) m3))]) rfl (k' := 5) rfl (n' := 13) rfl ?_
      refine H.iload s0_243 rfl ?_
      refine H.iload s0_245 rfl ?_
      refine H.iload s0_247 rfl ?_
      refine H.iload s0_249 rfl ?_
      refine H.iload s0_251 rfl ?_
      refine H.callSD s0_253 (k_32 hw) (m_ref l hw n0 _ (own_ix p3 (130 : Int32)) (130 : Int32) (own_ix p1 (130 : Int32)) (own_ix p2 (130 : Int32)) (own_ix p3 (130 : Int32))) (argsL := [(.int (own_ix p3 (130 : Int32))), (.int (130 : Int32)), (.int (own_ix p1 (130 : Int32))), (.int (own_ix p2 (130 : Int32))), (.int (own_ix p3 (130 : Int32)))]) (rest := [(.int (own_nxt (own_L3 own_f130 (own_ix p1 (130 : Int32)) (own_ix p2 (130 : Int32)) (own_ix p3 (130 : Int32)) m1 m2 m3) (own_e3 own_f130 (7 : Int64) (own_ix p1 (130 : Int32)) (own_ix p2 (130 : Int32)) (own_ix p3 (130 : Int32)) m1 m2 m3) (130 : Int32) (own_ix p3 (130 : Int32)) m3))]) rfl rfl rfl rfl (leb rfl) (leb rfl) (leb rfl) (leb rfl) (st' := [(.int (own_ref (own_ix p3 (130 : Int32)) (130 : Int32) (own_ix p1 (130 : Int32)) (own_ix p2 (130 : Int32)) (own_ix p3 (130 : Int32)))), (.int (own_nxt (own_L3 own_f130 (own_ix p1 (130 : Int32)) (own_ix p2 (130 : Int32)) (own_ix p3 (130 : Int32)) m1 m2 m3) (own_e3 own_f130 (7 : Int64) (own_ix p1 (130 : Int32)) (own_ix p2 (130 : Int32)) (own_ix p3 (130 : Int32)) m1 m2 m3) (130 : Int32) (own_ix p3 (130 : Int32)) m3))]) rfl (k' := 5) rfl (n' := 13) rfl ?_
      refine H.icmpF s0_256 (own_main q3 rfl (by decide) (by decide) f1 f2 f3 f3 (by omega)) ?_
      refine H.iconst s0_259 (v := (1 : Int32)) (by decide) ?_
      refine H.goto s0_260 ?_
      refine H.istore s0_264 (ls' := #[.val (.int p0), .val (.int p1), .val (.int p2), .val (.int p3), .val (.int p4), .val (.int (2 : Int32)), .val (.int (2 : Int32)), .val (.int (130 : Int32)), .val (.int (own_ix p1 (130 : Int32))), .val (.int (own_ix p2 (130 : Int32))), .val (.int (own_ix p3 (130 : Int32))), .val (.int ((p4.toUInt32 >>> ((1 : Int32) &&& 31).toUInt32).toInt32 % (132 : Int32))), .val (.ref (n0 + 0)), .val (.int (1 : Int32))]) rfl ?_
      refine H.iload s0_266 rfl ?_
      exact H.ireturn s0_268 rfl (by simp) rfl rfl (by decide) (by decide)
    · refine H.iand s0_9 (w := (3 : Int32)) hz9 ?_
      refine H.istore s0_10 (ls' := #[.val (.int p0), .val (.int p1), .val (.int p2), .val (.int p3), .val (.int p4), .val (.int (2 : Int32)), .val (.int (3 : Int32)), .unset, .unset, .unset, .unset, .unset, .unset, .unset]) rfl ?_
      refine H.iconst s0_12 (v := (1 : Int32)) (by decide) ?_
      refine H.iload s0_13 rfl ?_
      refine H.bipush s0_15 (v := (6 : Int32)) (by decide) ?_
      refine H.ishl s0_17 (w := (128 : Int32)) (by decide) ?_
      refine H.iload s0_18 rfl ?_
      refine H.iadd s0_20 (w := (131 : Int32)) (by decide) ?_
      refine H.callSD s0_21 (k_13 hw) (a_91 l hw n0) (argsL := [(.int (1 : Int32)), (.int (131 : Int32))]) (rest := []) rfl rfl rfl rfl (leb rfl) (leb rfl) (leb rfl) (leb rfl) (st' := [(.int (131 : Int32))]) rfl (k' := 0) rfl (n' := 0) rfl ?_
      refine H.istore s0_24 (ls' := #[.val (.int p0), .val (.int p1), .val (.int p2), .val (.int p3), .val (.int p4), .val (.int (2 : Int32)), .val (.int (3 : Int32)), .val (.int (131 : Int32)), .unset, .unset, .unset, .unset, .unset, .unset]) rfl ?_
      refine H.iloadN s0_26 rfl ?_
      refine H.iload s0_27 rfl ?_
      refine H.callSD s0_29 (k_14 hw) (m_ix l hw n0 _ p1 (131 : Int32) (by decide)) (argsL := [(.int p1), (.int (131 : Int32))]) (rest := []) rfl rfl rfl rfl (leb rfl) (leb rfl) (leb rfl) (leb rfl) (st' := [(.int (own_ix p1 (131 : Int32)))]) rfl (k' := 0) rfl (n' := 0) rfl ?_
      refine H.istore s0_32 (ls' := #[.val (.int p0), .val (.int p1), .val (.int p2), .val (.int p3), .val (.int p4), .val (.int (2 : Int32)), .val (.int (3 : Int32)), .val (.int (131 : Int32)), .val (.int (own_ix p1 (131 : Int32))), .unset, .unset, .unset, .unset, .unset]) rfl ?_
      refine H.iloadN s0_34 rfl ?_
      refine H.iload s0_35 rfl ?_
      refine H.callSD s0_37 (k_14 hw) (m_ix l hw n0 _ p2 (131 : Int32) (by decide)) (argsL := [(.int p2), (.int (131 : Int32))]) (rest := []) rfl rfl rfl rfl (leb rfl) (leb rfl) (leb rfl) (leb rfl) (st' := [(.int (own_ix p2 (131 : Int32)))]) rfl (k' := 0) rfl (n' := 0) rfl ?_
      refine H.istore s0_40 (ls' := #[.val (.int p0), .val (.int p1), .val (.int p2), .val (.int p3), .val (.int p4), .val (.int (2 : Int32)), .val (.int (3 : Int32)), .val (.int (131 : Int32)), .val (.int (own_ix p1 (131 : Int32))), .val (.int (own_ix p2 (131 : Int32))), .unset, .unset, .unset, .unset]) rfl ?_
      refine H.iloadN s0_42 rfl ?_
      refine H.iload s0_43 rfl ?_
      refine H.callSD s0_45 (k_14 hw) (m_ix l hw n0 _ p3 (131 : Int32) (by decide)) (argsL := [(.int p3), (.int (131 : Int32))]) (rest := []) rfl rfl rfl rfl (leb rfl) (leb rfl) (leb rfl) (leb rfl) (st' := [(.int (own_ix p3 (131 : Int32)))]) rfl (k' := 0) rfl (n' := 0) rfl ?_
      refine H.istore s0_48 (ls' := #[.val (.int p0), .val (.int p1), .val (.int p2), .val (.int p3), .val (.int p4), .val (.int (2 : Int32)), .val (.int (3 : Int32)), .val (.int (131 : Int32)), .val (.int (own_ix p1 (131 : Int32))), .val (.int (own_ix p2 (131 : Int32))), .val (.int (own_ix p3 (131 : Int32))), .unset, .unset, .unset]) rfl ?_
      refine H.iload s0_50 rfl ?_
      refine H.iconst s0_52 (v := (1 : Int32)) (by decide) ?_
      refine H.iushr s0_53 rfl ?_
      refine H.iload s0_54 rfl ?_
      refine H.iconst s0_56 (v := (2 : Int32)) (by decide) ?_
      refine H.iadd s0_57 (w := (133 : Int32)) (by decide) ?_
      refine H.irem s0_58 (by decide) (w := ((p4.toUInt32 >>> ((1 : Int32) &&& 31).toUInt32).toInt32 % (133 : Int32))) rfl ?_
      refine H.istore s0_59 (ls' := #[.val (.int p0), .val (.int p1), .val (.int p2), .val (.int p3), .val (.int p4), .val (.int (2 : Int32)), .val (.int (3 : Int32)), .val (.int (131 : Int32)), .val (.int (own_ix p1 (131 : Int32))), .val (.int (own_ix p2 (131 : Int32))), .val (.int (own_ix p3 (131 : Int32))), .val (.int ((p4.toUInt32 >>> ((1 : Int32) &&& 31).toUInt32).toInt32 % (133 : Int32))), .unset, .unset]) rfl ?_
      refine H.new s0_61 (k_15 hw) rfl (by decide) (by decide) (i := 0) rfl (A' := [.inl (0, [(.int (0 : Int32)), .null, .null, .null, .null])]) rfl (k' := 1) rfl (n' := 5) rfl ?_
      refine H.dup s0_64 rfl ?_
      refine H.iload s0_65 rfl ?_
      refine H.callCD s0_67 (k_25 hw) (a_92 l hw n0) (argsL := [(.int (131 : Int32))]) (rest := [(.ref (n0 + 0))]) rfl rfl rfl rfl (leb rfl) (leb rfl) (leb rfl) (leb rfl) (st' := [(.ref (n0 + 0))]) rfl (k' := 5) rfl (n' := 13) rfl ?_
      refine H.astore s0_70 rfl (ls' := #[.val (.int p0), .val (.int p1), .val (.int p2), .val (.int p3), .val (.int p4), .val (.int (2 : Int32)), .val (.int (3 : Int32)), .val (.int (131 : Int32)), .val (.int (own_ix p1 (131 : Int32))), .val (.int (own_ix p2 (131 : Int32))), .val (.int (own_ix p3 (131 : Int32))), .val (.int ((p4.toUInt32 >>> ((1 : Int32) &&& 31).toUInt32).toInt32 % (133 : Int32))), .val (.ref (n0 + 0)), .unset]) rfl ?_
      refine H.aload s0_72 rfl rfl ?_
      refine H.callVD s0_74 (k_29 hw) (a_99 l hw n0) (i := 0) rfl (argsL := []) (rest := []) rfl rfl rfl rfl (leb rfl) (leb rfl) (leb rfl) (leb rfl) (st' := []) rfl (k' := 5) rfl (n' := 13) rfl ?_
      refine H.aload s0_77 rfl rfl ?_
      refine H.iload s0_79 rfl ?_
      obtain ⟨m1, f1, g1⟩ := own_ix_r p1 (131 : Int32) 131 (by decide) (by decide) (by decide)
      obtain ⟨m2, f2, g2⟩ := own_ix_r p2 (131 : Int32) 131 (by decide) (by decide) (by decide)
      obtain ⟨m3, f3, g3⟩ := own_ix_r p3 (131 : Int32) 131 (by decide) (by decide) (by decide)
      obtain ⟨m4, f4, g4⟩ := own_fr_r p4 (133 : Int32) 133 (by decide) (by decide)
      have q0 := inv_131
      obtain ⟨q1, q2, q3⟩ := own_inv3 q0 (by decide) (by decide) f1 f2 f3 g1 g2 g3
      refine H.callVD s0_81 (k_30 hw) (m_rem l hw n0 own_f131 (7 : Int64) (131 : Int32) (own_f131.map Value.long) [(.long (7 : Int64))] (own_ix p1 (131 : Int32)) m1 f1 (own_len q0 (by omega)) (own_len4 q0 (by decide))) (i := 0) rfl (argsL := [(.int (own_ix p1 (131 : Int32)))]) (rest := []) rfl rfl rfl rfl (leb rfl) (leb rfl) (leb rfl) (leb rfl) (st' := []) rfl (k' := 5) rfl (n' := 13) rfl ?_
      refine H.aload s0_84 rfl rfl ?_
      refine H.iload s0_86 rfl ?_
      refine H.callVD s0_88 (k_30 hw) (m_rem l hw n0 (own_Lr own_f131 (own_ix p1 (131 : Int32)) m1) (own_e own_f131 (7 : Int64) (own_ix p1 (131 : Int32)) m1) (131 : Int32) (own_f131.map Value.long) [(.long (7 : Int64))] (own_ix p2 (131 : Int32)) m2 f2 (own_len q1 (by omega)) (own_len4 q1 (by decide))) (i := 0) rfl (argsL := [(.int (own_ix p2 (131 : Int32)))]) (rest := []) rfl rfl rfl rfl (leb rfl) (leb rfl) (leb rfl) (leb rfl) (st' := []) rfl (k' := 5) rfl (n' := 13) rfl ?_
      refine H.aload s0_91 rfl rfl ?_
      refine H.iload s0_93 rfl ?_
      refine H.callVD s0_95 (k_30 hw) (m_rem l hw n0 (own_L2 own_f131 (own_ix p1 (131 : Int32)) (own_ix p2 (131 : Int32)) m1 m2) (own_e2 own_f131 (7 : Int64) (own_ix p1 (131 : Int32)) (own_ix p2 (131 : Int32)) m1 m2) (131 : Int32) (own_f131.map Value.long) [(.long (7 : Int64))] (own_ix p3 (131 : Int32)) m3 f3 (own_len q2 (by omega)) (own_len4 q2 (by decide))) (i := 0) rfl (argsL := [(.int (own_ix p3 (131 : Int32)))]) (rest := []) rfl rfl rfl rfl (leb rfl) (leb rfl) (leb rfl) (leb rfl) (st' := []) rfl (k' := 5) rfl (n' := 13) rfl ?_
      refine H.aload s0_98 rfl rfl ?_
      refine H.iload s0_100 rfl ?_
      refine H.callVD s0_102 (k_31 hw) (m_nxt l hw n0 (own_L3 own_f131 (own_ix p1 (131 : Int32)) (own_ix p2 (131 : Int32)) (own_ix p3 (131 : Int32)) m1 m2 m3) (own_e3 own_f131 (7 : Int64) (own_ix p1 (131 : Int32)) (own_ix p2 (131 : Int32)) (own_ix p3 (131 : Int32)) m1 m2 m3) (131 : Int32) (own_f131.map Value.long) [(.long (7 : Int64))] ((p4.toUInt32 >>> ((1 : Int32) &&& 31).toUInt32).toInt32 % (133 : Int32)) m4 f4 (own_len4 q3 (by decide)) (own_he q3) (own_hz q3)) (i := 0) rfl (argsL := [(.int ((p4.toUInt32 >>> ((1 : Int32) &&& 31).toUInt32).toInt32 % (133 : Int32)))]) (rest := []) rfl rfl rfl rfl (leb rfl) (leb rfl) (leb rfl) (leb rfl) (st' := [(.int (own_nxt (own_L3 own_f131 (own_ix p1 (131 : Int32)) (own_ix p2 (131 : Int32)) (own_ix p3 (131 : Int32)) m1 m2 m3) (own_e3 own_f131 (7 : Int64) (own_ix p1 (131 : Int32)) (own_ix p2 (131 : Int32)) (own_ix p3 (131 : Int32)) m1 m2 m3) (131 : Int32) ((p4.toUInt32 >>> ((1 : Int32) &&& 31).toUInt32).toInt32 % (133 : Int32)) m4))]) rfl (k' := 5) rfl (n' := 13) rfl ?_
      refine H.iload s0_105 rfl ?_
      refine H.iload s0_107 rfl ?_
      refine H.iload s0_109 rfl ?_
      refine H.iload s0_111 rfl ?_
      refine H.iload s0_113 rfl ?_
      refine H.callSD s0_115 (k_32 hw) (m_ref l hw n0 _ ((p4.toUInt32 >>> ((1 : Int32) &&& 31).toUInt32).toInt32 % (133 : Int32)) (131 : Int32) (own_ix p1 (131 : Int32)) (own_ix p2 (131 : Int32)) (own_ix p3 (131 : Int32))) (argsL := [(.int ((p4.toUInt32 >>> ((1 : Int32) &&& 31).toUInt32).toInt32 % (133 : Int32))), (.int (131 : Int32)), (.int (own_ix p1 (131 : Int32))), (.int (own_ix p2 (131 : Int32))), (.int (own_ix p3 (131 : Int32)))]) (rest := [(.int (own_nxt (own_L3 own_f131 (own_ix p1 (131 : Int32)) (own_ix p2 (131 : Int32)) (own_ix p3 (131 : Int32)) m1 m2 m3) (own_e3 own_f131 (7 : Int64) (own_ix p1 (131 : Int32)) (own_ix p2 (131 : Int32)) (own_ix p3 (131 : Int32)) m1 m2 m3) (131 : Int32) ((p4.toUInt32 >>> ((1 : Int32) &&& 31).toUInt32).toInt32 % (133 : Int32)) m4))]) rfl rfl rfl rfl (leb rfl) (leb rfl) (leb rfl) (leb rfl) (st' := [(.int (own_ref ((p4.toUInt32 >>> ((1 : Int32) &&& 31).toUInt32).toInt32 % (133 : Int32)) (131 : Int32) (own_ix p1 (131 : Int32)) (own_ix p2 (131 : Int32)) (own_ix p3 (131 : Int32)))), (.int (own_nxt (own_L3 own_f131 (own_ix p1 (131 : Int32)) (own_ix p2 (131 : Int32)) (own_ix p3 (131 : Int32)) m1 m2 m3) (own_e3 own_f131 (7 : Int64) (own_ix p1 (131 : Int32)) (own_ix p2 (131 : Int32)) (own_ix p3 (131 : Int32)) m1 m2 m3) (131 : Int32) ((p4.toUInt32 >>> ((1 : Int32) &&& 31).toUInt32).toInt32 % (133 : Int32)) m4))]) rfl (k' := 5) rfl (n' := 13) rfl ?_
      refine H.icmpF s0_118 (own_main q3 rfl (by decide) (by decide) f1 f2 f3 f4 (by omega)) ?_
      refine H.iconst s0_121 (v := (1 : Int32)) (by decide) ?_
      refine H.goto s0_122 ?_
      refine H.istore s0_126 (ls' := #[.val (.int p0), .val (.int p1), .val (.int p2), .val (.int p3), .val (.int p4), .val (.int (2 : Int32)), .val (.int (3 : Int32)), .val (.int (131 : Int32)), .val (.int (own_ix p1 (131 : Int32))), .val (.int (own_ix p2 (131 : Int32))), .val (.int (own_ix p3 (131 : Int32))), .val (.int ((p4.toUInt32 >>> ((1 : Int32) &&& 31).toUInt32).toInt32 % (133 : Int32))), .val (.ref (n0 + 0)), .val (.int (1 : Int32))]) rfl ?_
      refine H.iload s0_128 rfl ?_
      refine H.ifF s0_130 (show ¬ (1 : Int32) = (0 : Int32) by decide) ?_
      refine H.aload s0_133 rfl rfl ?_
      refine H.iconst s0_135 (v := (0 : Int32)) (by decide) ?_
      refine H.callVD s0_136 (k_31 hw) (m_nxt l hw n0 (own_L3 own_f131 (own_ix p1 (131 : Int32)) (own_ix p2 (131 : Int32)) (own_ix p3 (131 : Int32)) m1 m2 m3) (own_e3 own_f131 (7 : Int64) (own_ix p1 (131 : Int32)) (own_ix p2 (131 : Int32)) (own_ix p3 (131 : Int32)) m1 m2 m3) (131 : Int32) (own_f131.map Value.long) [(.long (7 : Int64))] (0 : Int32) 0 (by decide : (0 : Int32).toInt = ((0 : Nat) : Int)) (own_len4 q3 (by decide)) (own_he q3) (own_hz q3)) (i := 0) rfl (argsL := [(.int (0 : Int32))]) (rest := []) rfl rfl rfl rfl (leb rfl) (leb rfl) (leb rfl) (leb rfl) (st' := [(.int (own_nxt (own_L3 own_f131 (own_ix p1 (131 : Int32)) (own_ix p2 (131 : Int32)) (own_ix p3 (131 : Int32)) m1 m2 m3) (own_e3 own_f131 (7 : Int64) (own_ix p1 (131 : Int32)) (own_ix p2 (131 : Int32)) (own_ix p3 (131 : Int32)) m1 m2 m3) (131 : Int32) (0 : Int32) 0))]) rfl (k' := 5) rfl (n' := 13) rfl ?_
      refine H.iconst s0_139 (v := (0 : Int32)) (by decide) ?_
      refine H.iload s0_140 rfl ?_
      refine H.iload s0_142 rfl ?_
      refine H.iload s0_144 rfl ?_
      refine H.iload s0_146 rfl ?_
      refine H.callSD s0_148 (k_32 hw) (m_ref l hw n0 _ (0 : Int32) (131 : Int32) (own_ix p1 (131 : Int32)) (own_ix p2 (131 : Int32)) (own_ix p3 (131 : Int32))) (argsL := [(.int (0 : Int32)), (.int (131 : Int32)), (.int (own_ix p1 (131 : Int32))), (.int (own_ix p2 (131 : Int32))), (.int (own_ix p3 (131 : Int32)))]) (rest := [(.int (own_nxt (own_L3 own_f131 (own_ix p1 (131 : Int32)) (own_ix p2 (131 : Int32)) (own_ix p3 (131 : Int32)) m1 m2 m3) (own_e3 own_f131 (7 : Int64) (own_ix p1 (131 : Int32)) (own_ix p2 (131 : Int32)) (own_ix p3 (131 : Int32)) m1 m2 m3) (131 : Int32) (0 : Int32) 0))]) rfl rfl rfl rfl (leb rfl) (leb rfl) (leb rfl) (leb rfl) (st' := [(.int (own_ref (0 : Int32) (131 : Int32) (own_ix p1 (131 : Int32)) (own_ix p2 (131 : Int32)) (own_ix p3 (131 : Int32)))), (.int (own_nxt (own_L3 own_f131 (own_ix p1 (131 : Int32)) (own_ix p2 (131 : Int32)) (own_ix p3 (131 : Int32)) m1 m2 m3) (own_e3 own_f131 (7 : Int64) (own_ix p1 (131 : Int32)) (own_ix p2 (131 : Int32)) (own_ix p3 (131 : Int32)) m1 m2 m3) (131 : Int32) (0 : Int32) 0))]) rfl (k' := 5) rfl (n' := 13) rfl ?_
      refine H.icmpF s0_151 (own_main q3 rfl (by decide) (by decide) f1 f2 f3 (by decide : (0 : Int32).toInt = ((0 : Nat) : Int)) (by omega)) ?_
      refine H.iconst s0_154 (v := (1 : Int32)) (by decide) ?_
      refine H.goto s0_155 ?_
      refine H.istore s0_159 (ls' := #[.val (.int p0), .val (.int p1), .val (.int p2), .val (.int p3), .val (.int p4), .val (.int (2 : Int32)), .val (.int (3 : Int32)), .val (.int (131 : Int32)), .val (.int (own_ix p1 (131 : Int32))), .val (.int (own_ix p2 (131 : Int32))), .val (.int (own_ix p3 (131 : Int32))), .val (.int ((p4.toUInt32 >>> ((1 : Int32) &&& 31).toUInt32).toInt32 % (133 : Int32))), .val (.ref (n0 + 0)), .val (.int (1 : Int32))]) rfl ?_
      refine H.iload s0_161 rfl ?_
      refine H.ifF s0_163 (show ¬ (1 : Int32) = (0 : Int32) by decide) ?_
      refine H.aload s0_166 rfl rfl ?_
      refine H.iload s0_168 rfl ?_
      refine H.callVD s0_170 (k_31 hw) (m_nxt l hw n0 (own_L3 own_f131 (own_ix p1 (131 : Int32)) (own_ix p2 (131 : Int32)) (own_ix p3 (131 : Int32)) m1 m2 m3) (own_e3 own_f131 (7 : Int64) (own_ix p1 (131 : Int32)) (own_ix p2 (131 : Int32)) (own_ix p3 (131 : Int32)) m1 m2 m3) (131 : Int32) (own_f131.map Value.long) [(.long (7 : Int64))] (own_ix p1 (131 : Int32)) m1 f1 (own_len4 q3 (by decide)) (own_he q3) (own_hz q3)) (i := 0) rfl (argsL := [(.int (own_ix p1 (131 : Int32)))]) (rest := []) rfl rfl rfl rfl (leb rfl) (leb rfl) (leb rfl) (leb rfl) (st' := [(.int (own_nxt (own_L3 own_f131 (own_ix p1 (131 : Int32)) (own_ix p2 (131 : Int32)) (own_ix p3 (131 : Int32)) m1 m2 m3) (own_e3 own_f131 (7 : Int64) (own_ix p1 (131 : Int32)) (own_ix p2 (131 : Int32)) (own_ix p3 (131 : Int32)) m1 m2 m3) (131 : Int32) (own_ix p1 (131 : Int32)) m1))]) rfl (k' := 5) rfl (n' := 13) rfl ?_
      refine H.iload s0_173 rfl ?_
      refine H.iload s0_175 rfl ?_
      refine H.iload s0_177 rfl ?_
      refine H.iload s0_179 rfl ?_
      refine H.iload s0_181 rfl ?_
      refine H.callSD s0_183 (k_32 hw) (m_ref l hw n0 _ (own_ix p1 (131 : Int32)) (131 : Int32) (own_ix p1 (131 : Int32)) (own_ix p2 (131 : Int32)) (own_ix p3 (131 : Int32))) (argsL := [(.int (own_ix p1 (131 : Int32))), (.int (131 : Int32)), (.int (own_ix p1 (131 : Int32))), (.int (own_ix p2 (131 : Int32))), (.int (own_ix p3 (131 : Int32)))]) (rest := [(.int (own_nxt (own_L3 own_f131 (own_ix p1 (131 : Int32)) (own_ix p2 (131 : Int32)) (own_ix p3 (131 : Int32)) m1 m2 m3) (own_e3 own_f131 (7 : Int64) (own_ix p1 (131 : Int32)) (own_ix p2 (131 : Int32)) (own_ix p3 (131 : Int32)) m1 m2 m3) (131 : Int32) (own_ix p1 (131 : Int32)) m1))]) rfl rfl rfl rfl (leb rfl) (leb rfl) (leb rfl) (leb rfl) (st' := [(.int (own_ref (own_ix p1 (131 : Int32)) (131 : Int32) (own_ix p1 (131 : Int32)) (own_ix p2 (131 : Int32)) (own_ix p3 (131 : Int32)))), (.int (own_nxt (own_L3 own_f131 (own_ix p1 (131 : Int32)) (own_ix p2 (131 : Int32)) (own_ix p3 (131 : Int32)) m1 m2 m3) (own_e3 own_f131 (7 : Int64) (own_ix p1 (131 : Int32)) (own_ix p2 (131 : Int32)) (own_ix p3 (131 : Int32)) m1 m2 m3) (131 : Int32) (own_ix p1 (131 : Int32)) m1))]) rfl (k' := 5) rfl (n' := 13) rfl ?_
      refine H.icmpF s0_186 (own_main q3 rfl (by decide) (by decide) f1 f2 f3 f1 (by omega)) ?_
      refine H.iconst s0_189 (v := (1 : Int32)) (by decide) ?_
      refine H.goto s0_190 ?_
      refine H.istore s0_194 (ls' := #[.val (.int p0), .val (.int p1), .val (.int p2), .val (.int p3), .val (.int p4), .val (.int (2 : Int32)), .val (.int (3 : Int32)), .val (.int (131 : Int32)), .val (.int (own_ix p1 (131 : Int32))), .val (.int (own_ix p2 (131 : Int32))), .val (.int (own_ix p3 (131 : Int32))), .val (.int ((p4.toUInt32 >>> ((1 : Int32) &&& 31).toUInt32).toInt32 % (133 : Int32))), .val (.ref (n0 + 0)), .val (.int (1 : Int32))]) rfl ?_
      refine H.iload s0_196 rfl ?_
      refine H.ifF s0_198 (show ¬ (1 : Int32) = (0 : Int32) by decide) ?_
      refine H.aload s0_201 rfl rfl ?_
      refine H.iload s0_203 rfl ?_
      refine H.callVD s0_205 (k_31 hw) (m_nxt l hw n0 (own_L3 own_f131 (own_ix p1 (131 : Int32)) (own_ix p2 (131 : Int32)) (own_ix p3 (131 : Int32)) m1 m2 m3) (own_e3 own_f131 (7 : Int64) (own_ix p1 (131 : Int32)) (own_ix p2 (131 : Int32)) (own_ix p3 (131 : Int32)) m1 m2 m3) (131 : Int32) (own_f131.map Value.long) [(.long (7 : Int64))] (own_ix p2 (131 : Int32)) m2 f2 (own_len4 q3 (by decide)) (own_he q3) (own_hz q3)) (i := 0) rfl (argsL := [(.int (own_ix p2 (131 : Int32)))]) (rest := []) rfl rfl rfl rfl (leb rfl) (leb rfl) (leb rfl) (leb rfl) (st' := [(.int (own_nxt (own_L3 own_f131 (own_ix p1 (131 : Int32)) (own_ix p2 (131 : Int32)) (own_ix p3 (131 : Int32)) m1 m2 m3) (own_e3 own_f131 (7 : Int64) (own_ix p1 (131 : Int32)) (own_ix p2 (131 : Int32)) (own_ix p3 (131 : Int32)) m1 m2 m3) (131 : Int32) (own_ix p2 (131 : Int32)) m2))]) rfl (k' := 5) rfl (n' := 13) rfl ?_
      refine H.iload s0_208 rfl ?_
      refine H.iload s0_210 rfl ?_
      refine H.iload s0_212 rfl ?_
      refine H.iload s0_214 rfl ?_
      refine H.iload s0_216 rfl ?_
      refine H.callSD s0_218 (k_32 hw) (m_ref l hw n0 _ (own_ix p2 (131 : Int32)) (131 : Int32) (own_ix p1 (131 : Int32)) (own_ix p2 (131 : Int32)) (own_ix p3 (131 : Int32))) (argsL := [(.int (own_ix p2 (131 : Int32))), (.int (131 : Int32)), (.int (own_ix p1 (131 : Int32))), (.int (own_ix p2 (131 : Int32))), (.int (own_ix p3 (131 : Int32)))]) (rest := [(.int (own_nxt (own_L3 own_f131 (own_ix p1 (131 : Int32)) (own_ix p2 (131 : Int32)) (own_ix p3 (131 : Int32)) m1 m2 m3) (own_e3 own_f131 (7 : Int64) (own_ix p1 (131 : Int32)) (own_ix p2 (131 : Int32)) (own_ix p3 (131 : Int32)) m1 m2 m3) (131 : Int32) (own_ix p2 (131 : Int32)) m2))]) rfl rfl rfl rfl (leb rfl) (leb rfl) (leb rfl) (leb rfl) (st' := [(.int (own_ref (own_ix p2 (131 : Int32)) (131 : Int32) (own_ix p1 (131 : Int32)) (own_ix p2 (131 : Int32)) (own_ix p3 (131 : Int32)))), (.int (own_nxt (own_L3 own_f131 (own_ix p1 (131 : Int32)) (own_ix p2 (131 : Int32)) (own_ix p3 (131 : Int32)) m1 m2 m3) (own_e3 own_f131 (7 : Int64) (own_ix p1 (131 : Int32)) (own_ix p2 (131 : Int32)) (own_ix p3 (131 : Int32)) m1 m2 m3) (131 : Int32) (own_ix p2 (131 : Int32)) m2))]) rfl (k' := 5) rfl (n' := 13) rfl ?_
      refine H.icmpF s0_221 (own_main q3 rfl (by decide) (by decide) f1 f2 f3 f2 (by omega)) ?_
      refine H.iconst s0_224 (v := (1 : Int32)) (by decide) ?_
      refine H.goto s0_225 ?_
      refine H.istore s0_229 (ls' := #[.val (.int p0), .val (.int p1), .val (.int p2), .val (.int p3), .val (.int p4), .val (.int (2 : Int32)), .val (.int (3 : Int32)), .val (.int (131 : Int32)), .val (.int (own_ix p1 (131 : Int32))), .val (.int (own_ix p2 (131 : Int32))), .val (.int (own_ix p3 (131 : Int32))), .val (.int ((p4.toUInt32 >>> ((1 : Int32) &&& 31).toUInt32).toInt32 % (133 : Int32))), .val (.ref (n0 + 0)), .val (.int (1 : Int32))]) rfl ?_
      refine H.iload s0_231 rfl ?_
      refine H.ifF s0_233 (show ¬ (1 : Int32) = (0 : Int32) by decide) ?_
      refine H.aload s0_236 rfl rfl ?_
      refine H.iload s0_238 rfl ?_
      refine H.callVD s0_240 (k_31 hw) (m_nxt l hw n0 (own_L3 own_f131 (own_ix p1 (131 : Int32)) (own_ix p2 (131 : Int32)) (own_ix p3 (131 : Int32)) m1 m2 m3) (own_e3 own_f131 (7 : Int64) (own_ix p1 (131 : Int32)) (own_ix p2 (131 : Int32)) (own_ix p3 (131 : Int32)) m1 m2 m3) (131 : Int32) (own_f131.map Value.long) [(.long (7 : Int64))] (own_ix p3 (131 : Int32)) m3 f3 (own_len4 q3 (by decide)) (own_he q3) (own_hz q3)) (i := 0) rfl (argsL := [(.int (own_ix p3 (131 : Int32)))]) (rest := []) rfl rfl rfl rfl (leb rfl) (leb rfl) (leb rfl) (leb rfl) (st' := [(.int (own_nxt (own_L3 own_f131 (own_ix p1 (131 : Int32)) (own_ix p2 (131 : Int32)) (own_ix p3 (131 : Int32)) m1 m2 m3) (own_e3 own_f131 (7 : Int64) (own_ix p1 (131 : Int32)) (own_ix p2 (131 : Int32)) (own_ix p3 (131 : Int32)) m1 m2 m3) (131 : Int32) (own_ix p3 (131 : Int32)) m3))]) rfl (k' := 5) rfl (n' := 13) rfl ?_
      refine H.iload s0_243 rfl ?_
      refine H.iload s0_245 rfl ?_
      refine H.iload s0_247 rfl ?_
      refine H.iload s0_249 rfl ?_
      refine H.iload s0_251 rfl ?_
      refine H.callSD s0_253 (k_32 hw) (m_ref l hw n0 _ (own_ix p3 (131 : Int32)) (131 : Int32) (own_ix p1 (131 : Int32)) (own_ix p2 (131 : Int32)) (own_ix p3 (131 : Int32))) (argsL := [(.int (own_ix p3 (131 : Int32))), (.int (131 : Int32)), (.int (own_ix p1 (131 : Int32))), (.int (own_ix p2 (131 : Int32))), (.int (own_ix p3 (131 : Int32)))]) (rest := [(.int (own_nxt (own_L3 own_f131 (own_ix p1 (131 : Int32)) (own_ix p2 (131 : Int32)) (own_ix p3 (131 : Int32)) m1 m2 m3) (own_e3 own_f131 (7 : Int64) (own_ix p1 (131 : Int32)) (own_ix p2 (131 : Int32)) (own_ix p3 (131 : Int32)) m1 m2 m3) (131 : Int32) (own_ix p3 (131 : Int32)) m3))]) rfl rfl rfl rfl (leb rfl) (leb rfl) (leb rfl) (leb rfl) (st' := [(.int (own_ref (own_ix p3 (131 : Int32)) (131 : Int32) (own_ix p1 (131 : Int32)) (own_ix p2 (131 : Int32)) (own_ix p3 (131 : Int32)))), (.int (own_nxt (own_L3 own_f131 (own_ix p1 (131 : Int32)) (own_ix p2 (131 : Int32)) (own_ix p3 (131 : Int32)) m1 m2 m3) (own_e3 own_f131 (7 : Int64) (own_ix p1 (131 : Int32)) (own_ix p2 (131 : Int32)) (own_ix p3 (131 : Int32)) m1 m2 m3) (131 : Int32) (own_ix p3 (131 : Int32)) m3))]) rfl (k' := 5) rfl (n' := 13) rfl ?_
      refine H.icmpF s0_256 (own_main q3 rfl (by decide) (by decide) f1 f2 f3 f3 (by omega)) ?_
      refine H.iconst s0_259 (v := (1 : Int32)) (by decide) ?_
      refine H.goto s0_260 ?_
      refine H.istore s0_264 (ls' := #[.val (.int p0), .val (.int p1), .val (.int p2), .val (.int p3), .val (.int p4), .val (.int (2 : Int32)), .val (.int (3 : Int32)), .val (.int (131 : Int32)), .val (.int (own_ix p1 (131 : Int32))), .val (.int (own_ix p2 (131 : Int32))), .val (.int (own_ix p3 (131 : Int32))), .val (.int ((p4.toUInt32 >>> ((1 : Int32) &&& 31).toUInt32).toInt32 % (133 : Int32))), .val (.ref (n0 + 0)), .val (.int (1 : Int32))]) rfl ?_
      refine H.iload s0_266 rfl ?_
      exact H.ireturn s0_268 rfl (by simp) rfl rfl (by decide) (by decide)
  · refine H.iand s0_2 (w := (3 : Int32)) hz2 ?_
    refine H.istore s0_3 (ls' := #[.val (.int p0), .val (.int p1), .val (.int p2), .val (.int p3), .val (.int p4), .val (.int (3 : Int32)), .unset, .unset, .unset, .unset, .unset, .unset, .unset, .unset]) rfl ?_
    refine H.iloadN s0_5 rfl ?_
    refine H.iconst s0_6 (v := (2 : Int32)) (by decide) ?_
    refine H.iushr s0_7 rfl ?_
    refine H.iconst s0_8 (v := (3 : Int32)) (by decide) ?_
    rcases own_and3 ((p0.toUInt32 >>> ((2 : Int32) &&& 31).toUInt32).toInt32) with hz9 | hz9 | hz9 | hz9
    · refine H.iand s0_9 (w := (0 : Int32)) hz9 ?_
      refine H.istore s0_10 (ls' := #[.val (.int p0), .val (.int p1), .val (.int p2), .val (.int p3), .val (.int p4), .val (.int (3 : Int32)), .val (.int (0 : Int32)), .unset, .unset, .unset, .unset, .unset, .unset, .unset]) rfl ?_
      refine H.iconst s0_12 (v := (1 : Int32)) (by decide) ?_
      refine H.iload s0_13 rfl ?_
      refine H.bipush s0_15 (v := (6 : Int32)) (by decide) ?_
      refine H.ishl s0_17 (w := (192 : Int32)) (by decide) ?_
      refine H.iload s0_18 rfl ?_
      refine H.iadd s0_20 (w := (192 : Int32)) (by decide) ?_
      refine H.callSD s0_21 (k_13 hw) (a_100 l hw n0) (argsL := [(.int (1 : Int32)), (.int (192 : Int32))]) (rest := []) rfl rfl rfl rfl (leb rfl) (leb rfl) (leb rfl) (leb rfl) (st' := [(.int (192 : Int32))]) rfl (k' := 0) rfl (n' := 0) rfl ?_
      refine H.istore s0_24 (ls' := #[.val (.int p0), .val (.int p1), .val (.int p2), .val (.int p3), .val (.int p4), .val (.int (3 : Int32)), .val (.int (0 : Int32)), .val (.int (192 : Int32)), .unset, .unset, .unset, .unset, .unset, .unset]) rfl ?_
      refine H.iloadN s0_26 rfl ?_
      refine H.iload s0_27 rfl ?_
      refine H.callSD s0_29 (k_14 hw) (m_ix l hw n0 _ p1 (192 : Int32) (by decide)) (argsL := [(.int p1), (.int (192 : Int32))]) (rest := []) rfl rfl rfl rfl (leb rfl) (leb rfl) (leb rfl) (leb rfl) (st' := [(.int (own_ix p1 (192 : Int32)))]) rfl (k' := 0) rfl (n' := 0) rfl ?_
      refine H.istore s0_32 (ls' := #[.val (.int p0), .val (.int p1), .val (.int p2), .val (.int p3), .val (.int p4), .val (.int (3 : Int32)), .val (.int (0 : Int32)), .val (.int (192 : Int32)), .val (.int (own_ix p1 (192 : Int32))), .unset, .unset, .unset, .unset, .unset]) rfl ?_
      refine H.iloadN s0_34 rfl ?_
      refine H.iload s0_35 rfl ?_
      refine H.callSD s0_37 (k_14 hw) (m_ix l hw n0 _ p2 (192 : Int32) (by decide)) (argsL := [(.int p2), (.int (192 : Int32))]) (rest := []) rfl rfl rfl rfl (leb rfl) (leb rfl) (leb rfl) (leb rfl) (st' := [(.int (own_ix p2 (192 : Int32)))]) rfl (k' := 0) rfl (n' := 0) rfl ?_
      refine H.istore s0_40 (ls' := #[.val (.int p0), .val (.int p1), .val (.int p2), .val (.int p3), .val (.int p4), .val (.int (3 : Int32)), .val (.int (0 : Int32)), .val (.int (192 : Int32)), .val (.int (own_ix p1 (192 : Int32))), .val (.int (own_ix p2 (192 : Int32))), .unset, .unset, .unset, .unset]) rfl ?_
      refine H.iloadN s0_42 rfl ?_
      refine H.iload s0_43 rfl ?_
      refine H.callSD s0_45 (k_14 hw) (m_ix l hw n0 _ p3 (192 : Int32) (by decide)) (argsL := [(.int p3), (.int (192 : Int32))]) (rest := []) rfl rfl rfl rfl (leb rfl) (leb rfl) (leb rfl) (leb rfl) (st' := [(.int (own_ix p3 (192 : Int32)))]) rfl (k' := 0) rfl (n' := 0) rfl ?_
      refine H.istore s0_48 (ls' := #[.val (.int p0), .val (.int p1), .val (.int p2), .val (.int p3), .val (.int p4), .val (.int (3 : Int32)), .val (.int (0 : Int32)), .val (.int (192 : Int32)), .val (.int (own_ix p1 (192 : Int32))), .val (.int (own_ix p2 (192 : Int32))), .val (.int (own_ix p3 (192 : Int32))), .unset, .unset, .unset]) rfl ?_
      refine H.iload s0_50 rfl ?_
      refine H.iconst s0_52 (v := (1 : Int32)) (by decide) ?_
      refine H.iushr s0_53 rfl ?_
      refine H.iload s0_54 rfl ?_
      refine H.iconst s0_56 (v := (2 : Int32)) (by decide) ?_
      refine H.iadd s0_57 (w := (194 : Int32)) (by decide) ?_
      refine H.irem s0_58 (by decide) (w := ((p4.toUInt32 >>> ((1 : Int32) &&& 31).toUInt32).toInt32 % (194 : Int32))) rfl ?_
      refine H.istore s0_59 (ls' := #[.val (.int p0), .val (.int p1), .val (.int p2), .val (.int p3), .val (.int p4), .val (.int (3 : Int32)), .val (.int (0 : Int32)), .val (.int (192 : Int32)), .val (.int (own_ix p1 (192 : Int32))), .val (.int (own_ix p2 (192 : Int32))), .val (.int (own_ix p3 (192 : Int32))), .val (.int ((p4.toUInt32 >>> ((1 : Int32) &&& 31).toUInt32).toInt32 % (194 : Int32))), .unset, .unset]) rfl ?_
      refine H.new s0_61 (k_15 hw) rfl (by decide) (by decide) (i := 0) rfl (A' := [.inl (0, [(.int (0 : Int32)), .null, .null, .null, .null])]) rfl (k' := 1) rfl (n' := 5) rfl ?_
      refine H.dup s0_64 rfl ?_
      refine H.iload s0_65 rfl ?_
      refine H.callCD s0_67 (k_25 hw) (a_101 l hw n0) (argsL := [(.int (192 : Int32))]) (rest := [(.ref (n0 + 0))]) rfl rfl rfl rfl (leb rfl) (leb rfl) (leb rfl) (leb rfl) (st' := [(.ref (n0 + 0))]) rfl (k' := 5) rfl (n' := 13) rfl ?_
      refine H.astore s0_70 rfl (ls' := #[.val (.int p0), .val (.int p1), .val (.int p2), .val (.int p3), .val (.int p4), .val (.int (3 : Int32)), .val (.int (0 : Int32)), .val (.int (192 : Int32)), .val (.int (own_ix p1 (192 : Int32))), .val (.int (own_ix p2 (192 : Int32))), .val (.int (own_ix p3 (192 : Int32))), .val (.int ((p4.toUInt32 >>> ((1 : Int32) &&& 31).toUInt32).toInt32 % (194 : Int32))), .val (.ref (n0 + 0)), .unset]) rfl ?_
      refine H.aload s0_72 rfl rfl ?_
      refine H.callVD s0_74 (k_29 hw) (a_108 l hw n0) (i := 0) rfl (argsL := []) (rest := []) rfl rfl rfl rfl (leb rfl) (leb rfl) (leb rfl) (leb rfl) (st' := []) rfl (k' := 5) rfl (n' := 13) rfl ?_
      refine H.aload s0_77 rfl rfl ?_
      refine H.iload s0_79 rfl ?_
      obtain ⟨m1, f1, g1⟩ := own_ix_r p1 (192 : Int32) 192 (by decide) (by decide) (by decide)
      obtain ⟨m2, f2, g2⟩ := own_ix_r p2 (192 : Int32) 192 (by decide) (by decide) (by decide)
      obtain ⟨m3, f3, g3⟩ := own_ix_r p3 (192 : Int32) 192 (by decide) (by decide) (by decide)
      obtain ⟨m4, f4, g4⟩ := own_fr_r p4 (194 : Int32) 194 (by decide) (by decide)
      have q0 := inv_192
      obtain ⟨q1, q2, q3⟩ := own_inv3 q0 (by decide) (by decide) f1 f2 f3 g1 g2 g3
      refine H.callVD s0_81 (k_30 hw) (m_rem l hw n0 own_f192 (7 : Int64) (192 : Int32) (own_f192.map Value.long) [(.long (7 : Int64))] (own_ix p1 (192 : Int32)) m1 f1 (own_len q0 (by omega)) (own_len4 q0 (by decide))) (i := 0) rfl (argsL := [(.int (own_ix p1 (192 : Int32)))]) (rest := []) rfl rfl rfl rfl (leb rfl) (leb rfl) (leb rfl) (leb rfl) (st' := []) rfl (k' := 5) rfl (n' := 13) rfl ?_
      refine H.aload s0_84 rfl rfl ?_
      refine H.iload s0_86 rfl ?_
      refine H.callVD s0_88 (k_30 hw) (m_rem l hw n0 (own_Lr own_f192 (own_ix p1 (192 : Int32)) m1) (own_e own_f192 (7 : Int64) (own_ix p1 (192 : Int32)) m1) (192 : Int32) (own_f192.map Value.long) [(.long (7 : Int64))] (own_ix p2 (192 : Int32)) m2 f2 (own_len q1 (by omega)) (own_len4 q1 (by decide))) (i := 0) rfl (argsL := [(.int (own_ix p2 (192 : Int32)))]) (rest := []) rfl rfl rfl rfl (leb rfl) (leb rfl) (leb rfl) (leb rfl) (st' := []) rfl (k' := 5) rfl (n' := 13) rfl ?_
      refine H.aload s0_91 rfl rfl ?_
      refine H.iload s0_93 rfl ?_
      refine H.callVD s0_95 (k_30 hw) (m_rem l hw n0 (own_L2 own_f192 (own_ix p1 (192 : Int32)) (own_ix p2 (192 : Int32)) m1 m2) (own_e2 own_f192 (7 : Int64) (own_ix p1 (192 : Int32)) (own_ix p2 (192 : Int32)) m1 m2) (192 : Int32) (own_f192.map Value.long) [(.long (7 : Int64))] (own_ix p3 (192 : Int32)) m3 f3 (own_len q2 (by omega)) (own_len4 q2 (by decide))) (i := 0) rfl (argsL := [(.int (own_ix p3 (192 : Int32)))]) (rest := []) rfl rfl rfl rfl (leb rfl) (leb rfl) (leb rfl) (leb rfl) (st' := []) rfl (k' := 5) rfl (n' := 13) rfl ?_
      refine H.aload s0_98 rfl rfl ?_
      refine H.iload s0_100 rfl ?_
      refine H.callVD s0_102 (k_31 hw) (m_nxt l hw n0 (own_L3 own_f192 (own_ix p1 (192 : Int32)) (own_ix p2 (192 : Int32)) (own_ix p3 (192 : Int32)) m1 m2 m3) (own_e3 own_f192 (7 : Int64) (own_ix p1 (192 : Int32)) (own_ix p2 (192 : Int32)) (own_ix p3 (192 : Int32)) m1 m2 m3) (192 : Int32) (own_f192.map Value.long) [(.long (7 : Int64))] ((p4.toUInt32 >>> ((1 : Int32) &&& 31).toUInt32).toInt32 % (194 : Int32)) m4 f4 (own_len4 q3 (by decide)) (own_he q3) (own_hz q3)) (i := 0) rfl (argsL := [(.int ((p4.toUInt32 >>> ((1 : Int32) &&& 31).toUInt32).toInt32 % (194 : Int32)))]) (rest := []) rfl rfl rfl rfl (leb rfl) (leb rfl) (leb rfl) (leb rfl) (st' := [(.int (own_nxt (own_L3 own_f192 (own_ix p1 (192 : Int32)) (own_ix p2 (192 : Int32)) (own_ix p3 (192 : Int32)) m1 m2 m3) (own_e3 own_f192 (7 : Int64) (own_ix p1 (192 : Int32)) (own_ix p2 (192 : Int32)) (own_ix p3 (192 : Int32)) m1 m2 m3) (192 : Int32) ((p4.toUInt32 >>> ((1 : Int32) &&& 31).toUInt32).toInt32 % (194 : Int32)) m4))]) rfl (k' := 5) rfl (n' := 13) rfl ?_
      refine H.iload s0_105 rfl ?_
      refine H.iload s0_107 rfl ?_
      refine H.iload s0_109 rfl ?_
      refine H.iload s0_111 rfl ?_
      refine H.iload s0_113 rfl ?_
      refine H.callSD s0_115 (k_32 hw) (m_ref l hw n0 _ ((p4.toUInt32 >>> ((1 : Int32) &&& 31).toUInt32).toInt32 % (194 : Int32)) (192 : Int32) (own_ix p1 (192 : Int32)) (own_ix p2 (192 : Int32)) (own_ix p3 (192 : Int32))) (argsL := [(.int ((p4.toUInt32 >>> ((1 : Int32) &&& 31).toUInt32).toInt32 % (194 : Int32))), (.int (192 : Int32)), (.int (own_ix p1 (192 : Int32))), (.int (own_ix p2 (192 : Int32))), (.int (own_ix p3 (192 : Int32)))]) (rest := [(.int (own_nxt (own_L3 own_f192 (own_ix p1 (192 : Int32)) (own_ix p2 (192 : Int32)) (own_ix p3 (192 : Int32)) m1 m2 m3) (own_e3 own_f192 (7 : Int64) (own_ix p1 (192 : Int32)) (own_ix p2 (192 : Int32)) (own_ix p3 (192 : Int32)) m1 m2 m3) (192 : Int32) ((p4.toUInt32 >>> ((1 : Int32) &&& 31).toUInt32).toInt32 % (194 : Int32)) m4))]) rfl rfl rfl rfl (leb rfl) (leb rfl) (leb rfl) (leb rfl) (st' := [(.int (own_ref ((p4.toUInt32 >>> ((1 : Int32) &&& 31).toUInt32).toInt32 % (194 : Int32)) (192 : Int32) (own_ix p1 (192 : Int32)) (own_ix p2 (192 : Int32)) (own_ix p3 (192 : Int32)))), (.int (own_nxt (own_L3 own_f192 (own_ix p1 (192 : Int32)) (own_ix p2 (192 : Int32)) (own_ix p3 (192 : Int32)) m1 m2 m3) (own_e3 own_f192 (7 : Int64) (own_ix p1 (192 : Int32)) (own_ix p2 (192 : Int32)) (own_ix p3 (192 : Int32)) m1 m2 m3) (192 : Int32) ((p4.toUInt32 >>> ((1 : Int32) &&& 31).toUInt32).toInt32 % (194 : Int32)) m4))]) rfl (k' := 5) rfl (n' := 13) rfl ?_
      refine H.icmpF s0_118 (own_main q3 rfl (by decide) (by decide) f1 f2 f3 f4 (by omega)) ?_
      refine H.iconst s0_121 (v := (1 : Int32)) (by decide) ?_
      refine H.goto s0_122 ?_
      refine H.istore s0_126 (ls' := #[.val (.int p0), .val (.int p1), .val (.int p2), .val (.int p3), .val (.int p4), .val (.int (3 : Int32)), .val (.int (0 : Int32)), .val (.int (192 : Int32)), .val (.int (own_ix p1 (192 : Int32))), .val (.int (own_ix p2 (192 : Int32))), .val (.int (own_ix p3 (192 : Int32))), .val (.int ((p4.toUInt32 >>> ((1 : Int32) &&& 31).toUInt32).toInt32 % (194 : Int32))), .val (.ref (n0 + 0)), .val (.int (1 : Int32))]) rfl ?_
      refine H.iload s0_128 rfl ?_
      refine H.ifF s0_130 (show ¬ (1 : Int32) = (0 : Int32) by decide) ?_
      refine H.aload s0_133 rfl rfl ?_
      refine H.iconst s0_135 (v := (0 : Int32)) (by decide) ?_
      refine H.callVD s0_136 (k_31 hw) (m_nxt l hw n0 (own_L3 own_f192 (own_ix p1 (192 : Int32)) (own_ix p2 (192 : Int32)) (own_ix p3 (192 : Int32)) m1 m2 m3) (own_e3 own_f192 (7 : Int64) (own_ix p1 (192 : Int32)) (own_ix p2 (192 : Int32)) (own_ix p3 (192 : Int32)) m1 m2 m3) (192 : Int32) (own_f192.map Value.long) [(.long (7 : Int64))] (0 : Int32) 0 (by decide : (0 : Int32).toInt = ((0 : Nat) : Int)) (own_len4 q3 (by decide)) (own_he q3) (own_hz q3)) (i := 0) rfl (argsL := [(.int (0 : Int32))]) (rest := []) rfl rfl rfl rfl (leb rfl) (leb rfl) (leb rfl) (leb rfl) (st' := [(.int (own_nxt (own_L3 own_f192 (own_ix p1 (192 : Int32)) (own_ix p2 (192 : Int32)) (own_ix p3 (192 : Int32)) m1 m2 m3) (own_e3 own_f192 (7 : Int64) (own_ix p1 (192 : Int32)) (own_ix p2 (192 : Int32)) (own_ix p3 (192 : Int32)) m1 m2 m3) (192 : Int32) (0 : Int32) 0))]) rfl (k' := 5) rfl (n' := 13) rfl ?_
      refine H.iconst s0_139 (v := (0 : Int32)) (by decide) ?_
      refine H.iload s0_140 rfl ?_
      refine H.iload s0_142 rfl ?_
      refine H.iload s0_144 rfl ?_
      refine H.iload s0_146 rfl ?_
      refine H.callSD s0_148 (k_32 hw) (m_ref l hw n0 _ (0 : Int32) (192 : Int32) (own_ix p1 (192 : Int32)) (own_ix p2 (192 : Int32)) (own_ix p3 (192 : Int32))) (argsL := [(.int (0 : Int32)), (.int (192 : Int32)), (.int (own_ix p1 (192 : Int32))), (.int (own_ix p2 (192 : Int32))), (.int (own_ix p3 (192 : Int32)))]) (rest := [(.int (own_nxt (own_L3 own_f192 (own_ix p1 (192 : Int32)) (own_ix p2 (192 : Int32)) (own_ix p3 (192 : Int32)) m1 m2 m3) (own_e3 own_f192 (7 : Int64) (own_ix p1 (192 : Int32)) (own_ix p2 (192 : Int32)) (own_ix p3 (192 : Int32)) m1 m2 m3) (192 : Int32) (0 : Int32) 0))]) rfl rfl rfl rfl (leb rfl) (leb rfl) (leb rfl) (leb rfl) (st' := [(.int (own_ref (0 : Int32) (192 : Int32) (own_ix p1 (192 : Int32)) (own_ix p2 (192 : Int32)) (own_ix p3 (192 : Int32)))), (.int (own_nxt (own_L3 own_f192 (own_ix p1 (192 : Int32)) (own_ix p2 (192 : Int32)) (own_ix p3 (192 : Int32)) m1 m2 m3) (own_e3 own_f192 (7 : Int64) (own_ix p1 (192 : Int32)) (own_ix p2 (192 : Int32)) (own_ix p3 (192 : Int32)) m1 m2 m3) (192 : Int32) (0 : Int32) 0))]) rfl (k' := 5) rfl (n' := 13) rfl ?_
      refine H.icmpF s0_151 (own_main q3 rfl (by decide) (by decide) f1 f2 f3 (by decide : (0 : Int32).toInt = ((0 : Nat) : Int)) (by omega)) ?_
      refine H.iconst s0_154 (v := (1 : Int32)) (by decide) ?_
      refine H.goto s0_155 ?_
      refine H.istore s0_159 (ls' := #[.val (.int p0), .val (.int p1), .val (.int p2), .val (.int p3), .val (.int p4), .val (.int (3 : Int32)), .val (.int (0 : Int32)), .val (.int (192 : Int32)), .val (.int (own_ix p1 (192 : Int32))), .val (.int (own_ix p2 (192 : Int32))), .val (.int (own_ix p3 (192 : Int32))), .val (.int ((p4.toUInt32 >>> ((1 : Int32) &&& 31).toUInt32).toInt32 % (194 : Int32))), .val (.ref (n0 + 0)), .val (.int (1 : Int32))]) rfl ?_
      refine H.iload s0_161 rfl ?_
      refine H.ifF s0_163 (show ¬ (1 : Int32) = (0 : Int32) by decide) ?_
      refine H.aload s0_166 rfl rfl ?_
      refine H.iload s0_168 rfl ?_
      refine H.callVD s0_170 (k_31 hw) (m_nxt l hw n0 (own_L3 own_f192 (own_ix p1 (192 : Int32)) (own_ix p2 (192 : Int32)) (own_ix p3 (192 : Int32)) m1 m2 m3) (own_e3 own_f192 (7 : Int64) (own_ix p1 (192 : Int32)) (own_ix p2 (192 : Int32)) (own_ix p3 (192 : Int32)) m1 m2 m3) (192 : Int32) (own_f192.map Value.long) [(.long (7 : Int64))] (own_ix p1 (192 : Int32)) m1 f1 (own_len4 q3 (by decide)) (own_he q3) (own_hz q3)) (i := 0) rfl (argsL := [(.int (own_ix p1 (192 : Int32)))]) (rest := []) rfl rfl rfl rfl (leb rfl) (leb rfl) (leb rfl) (leb rfl) (st' := [(.int (own_nxt (own_L3 own_f192 (own_ix p1 (192 : Int32)) (own_ix p2 (192 : Int32)) (own_ix p3 (192 : Int32)) m1 m2 m3) (own_e3 own_f192 (7 : Int64) (own_ix p1 (192 : Int32)) (own_ix p2 (192 : Int32)) (own_ix p3 (192 : Int32)) m1 m2 m3) (192 : Int32) (own_ix p1 (192 : Int32)) m1))]) rfl (k' := 5) rfl (n' := 13) rfl ?_
      refine H.iload s0_173 rfl ?_
      refine H.iload s0_175 rfl ?_
      refine H.iload s0_177 rfl ?_
      refine H.iload s0_179 rfl ?_
      refine H.iload s0_181 rfl ?_
      refine H.callSD s0_183 (k_32 hw) (m_ref l hw n0 _ (own_ix p1 (192 : Int32)) (192 : Int32) (own_ix p1 (192 : Int32)) (own_ix p2 (192 : Int32)) (own_ix p3 (192 : Int32))) (argsL := [(.int (own_ix p1 (192 : Int32))), (.int (192 : Int32)), (.int (own_ix p1 (192 : Int32))), (.int (own_ix p2 (192 : Int32))), (.int (own_ix p3 (192 : Int32)))]) (rest := [(.int (own_nxt (own_L3 own_f192 (own_ix p1 (192 : Int32)) (own_ix p2 (192 : Int32)) (own_ix p3 (192 : Int32)) m1 m2 m3) (own_e3 own_f192 (7 : Int64) (own_ix p1 (192 : Int32)) (own_ix p2 (192 : Int32)) (own_ix p3 (192 : Int32)) m1 m2 m3) (192 : Int32) (own_ix p1 (192 : Int32)) m1))]) rfl rfl rfl rfl (leb rfl) (leb rfl) (leb rfl) (leb rfl) (st' := [(.int (own_ref (own_ix p1 (192 : Int32)) (192 : Int32) (own_ix p1 (192 : Int32)) (own_ix p2 (192 : Int32)) (own_ix p3 (192 : Int32)))), (.int (own_nxt (own_L3 own_f192 (own_ix p1 (192 : Int32)) (own_ix p2 (192 : Int32)) (own_ix p3 (192 : Int32)) m1 m2 m3) (own_e3 own_f192 (7 : Int64) (own_ix p1 (192 : Int32)) (own_ix p2 (192 : Int32)) (own_ix p3 (192 : Int32)) m1 m2 m3) (192 : Int32) (own_ix p1 (192 : Int32)) m1))]) rfl (k' := 5) rfl (n' := 13) rfl ?_
      refine H.icmpF s0_186 (own_main q3 rfl (by decide) (by decide) f1 f2 f3 f1 (by omega)) ?_
      refine H.iconst s0_189 (v := (1 : Int32)) (by decide) ?_
      refine H.goto s0_190 ?_
      refine H.istore s0_194 (ls' := #[.val (.int p0), .val (.int p1), .val (.int p2), .val (.int p3), .val (.int p4), .val (.int (3 : Int32)), .val (.int (0 : Int32)), .val (.int (192 : Int32)), .val (.int (own_ix p1 (192 : Int32))), .val (.int (own_ix p2 (192 : Int32))), .val (.int (own_ix p3 (192 : Int32))), .val (.int ((p4.toUInt32 >>> ((1 : Int32) &&& 31).toUInt32).toInt32 % (194 : Int32))), .val (.ref (n0 + 0)), .val (.int (1 : Int32))]) rfl ?_
      refine H.iload s0_196 rfl ?_
      refine H.ifF s0_198 (show ¬ (1 : Int32) = (0 : Int32) by decide) ?_
      refine H.aload s0_201 rfl rfl ?_
      refine H.iload s0_203 rfl ?_
      refine H.callVD s0_205 (k_31 hw) (m_nxt l hw n0 (own_L3 own_f192 (own_ix p1 (192 : Int32)) (own_ix p2 (192 : Int32)) (own_ix p3 (192 : Int32)) m1 m2 m3) (own_e3 own_f192 (7 : Int64) (own_ix p1 (192 : Int32)) (own_ix p2 (192 : Int32)) (own_ix p3 (192 : Int32)) m1 m2 m3) (192 : Int32) (own_f192.map Value.long) [(.long (7 : Int64))] (own_ix p2 (192 : Int32)) m2 f2 (own_len4 q3 (by decide)) (own_he q3) (own_hz q3)) (i := 0) rfl (argsL := [(.int (own_ix p2 (192 : Int32)))]) (rest := []) rfl rfl rfl rfl (leb rfl) (leb rfl) (leb rfl) (leb rfl) (st' := [(.int (own_nxt (own_L3 own_f192 (own_ix p1 (192 : Int32)) (own_ix p2 (192 : Int32)) (own_ix p3 (192 : Int32)) m1 m2 m3) (own_e3 own_f192 (7 : Int64) (own_ix p1 (192 : Int32)) (own_ix p2 (192 : Int32)) (own_ix p3 (192 : Int32)) m1 m2 m3) (192 : Int32) (own_ix p2 (192 : Int32)) m2))]) rfl (k' := 5) rfl (n' := 13) rfl ?_
      refine H.iload s0_208 rfl ?_
      refine H.iload s0_210 rfl ?_
      refine H.iload s0_212 rfl ?_
      refine H.iload s0_214 rfl ?_
      refine H.iload s0_216 rfl ?_
      refine H.callSD s0_218 (k_32 hw) (m_ref l hw n0 _ (own_ix p2 (192 : Int32)) (192 : Int32) (own_ix p1 (192 : Int32)) (own_ix p2 (192 : Int32)) (own_ix p3 (192 : Int32))) (argsL := [(.int (own_ix p2 (192 : Int32))), (.int (192 : Int32)), (.int (own_ix p1 (192 : Int32))), (.int (own_ix p2 (192 : Int32))), (.int (own_ix p3 (192 : Int32)))]) (rest := [(.int (own_nxt (own_L3 own_f192 (own_ix p1 (192 : Int32)) (own_ix p2 (192 : Int32)) (own_ix p3 (192 : Int32)) m1 m2 m3) (own_e3 own_f192 (7 : Int64) (own_ix p1 (192 : Int32)) (own_ix p2 (192 : Int32)) (own_ix p3 (192 : Int32)) m1 m2 m3) (192 : Int32) (own_ix p2 (192 : Int32)) m2))]) rfl rfl rfl rfl (leb rfl) (leb rfl) (leb rfl) (leb rfl) (st' := [(.int (own_ref (own_ix p2 (192 : Int32)) (192 : Int32) (own_ix p1 (192 : Int32)) (own_ix p2 (192 : Int32)) (own_ix p3 (192 : Int32)))), (.int (own_nxt (own_L3 own_f192 (own_ix p1 (192 : Int32)) (own_ix p2 (192 : Int32)) (own_ix p3 (192 : Int32)) m1 m2 m3) (own_e3 own_f192 (7 : Int64) (own_ix p1 (192 : Int32)) (own_ix p2 (192 : Int32)) (own_ix p3 (192 : Int32)) m1 m2 m3) (192 : Int32) (own_ix p2 (192 : Int32)) m2))]) rfl (k' := 5) rfl (n' := 13) rfl ?_
      refine H.icmpF s0_221 (own_main q3 rfl (by decide) (by decide) f1 f2 f3 f2 (by omega)) ?_
      refine H.iconst s0_224 (v := (1 : Int32)) (by decide) ?_
      refine H.goto s0_225 ?_
      refine H.istore s0_229 (ls' := #[.val (.int p0), .val (.int p1), .val (.int p2), .val (.int p3), .val (.int p4), .val (.int (3 : Int32)), .val (.int (0 : Int32)), .val (.int (192 : Int32)), .val (.int (own_ix p1 (192 : Int32))), .val (.int (own_ix p2 (192 : Int32))), .val (.int (own_ix p3 (192 : Int32))), .val (.int ((p4.toUInt32 >>> ((1 : Int32) &&& 31).toUInt32).toInt32 % (194 : Int32))), .val (.ref (n0 + 0)), .val (.int (1 : Int32))]) rfl ?_
      refine H.iload s0_231 rfl ?_
      refine H.ifF s0_233 (show ¬ (1 : Int32) = (0 : Int32) by decide) ?_
      refine H.aload s0_236 rfl rfl ?_
      refine H.iload s0_238 rfl ?_
      refine H.callVD s0_240 (k_31 hw) (m_nxt l hw n0 (own_L3 own_f192 (own_ix p1 (192 : Int32)) (own_ix p2 (192 : Int32)) (own_ix p3 (192 : Int32)) m1 m2 m3) (own_e3 own_f192 (7 : Int64) (own_ix p1 (192 : Int32)) (own_ix p2 (192 : Int32)) (own_ix p3 (192 : Int32)) m1 m2 m3) (192 : Int32) (own_f192.map Value.long) [(.long (7 : Int64))] (own_ix p3 (192 : Int32)) m3 f3 (own_len4 q3 (by decide)) (own_he q3) (own_hz q3)) (i := 0) rfl (argsL := [(.int (own_ix p3 (192 : Int32)))]) (rest := []) rfl rfl rfl rfl (leb rfl) (leb rfl) (leb rfl) (leb rfl) (st' := [(.int (own_nxt (own_L3 own_f192 (own_ix p1 (192 : Int32)) (own_ix p2 (192 : Int32)) (own_ix p3 (192 : Int32)) m1 m2 m3) (own_e3 own_f192 (7 : Int64) (own_ix p1 (192 : Int32)) (own_ix p2 (192 : Int32)) (own_ix p3 (192 : Int32)) m1 m2 m3) (192 : Int32) (own_ix p3 (192 : Int32)) m3))]) rfl (k' := 5) rfl (n' := 13) rfl ?_
      refine H.iload s0_243 rfl ?_
      refine H.iload s0_245 rfl ?_
      refine H.iload s0_247 rfl ?_
      refine H.iload s0_249 rfl ?_
      refine H.iload s0_251 rfl ?_
      refine H.callSD s0_253 (k_32 hw) (m_ref l hw n0 _ (own_ix p3 (192 : Int32)) (192 : Int32) (own_ix p1 (192 : Int32)) (own_ix p2 (192 : Int32)) (own_ix p3 (192 : Int32))) (argsL := [(.int (own_ix p3 (192 : Int32))), (.int (192 : Int32)), (.int (own_ix p1 (192 : Int32))), (.int (own_ix p2 (192 : Int32))), (.int (own_ix p3 (192 : Int32)))]) (rest := [(.int (own_nxt (own_L3 own_f192 (own_ix p1 (192 : Int32)) (own_ix p2 (192 : Int32)) (own_ix p3 (192 : Int32)) m1 m2 m3) (own_e3 own_f192 (7 : Int64) (own_ix p1 (192 : Int32)) (own_ix p2 (192 : Int32)) (own_ix p3 (192 : Int32)) m1 m2 m3) (192 : Int32) (own_ix p3 (192 : Int32)) m3))]) rfl rfl rfl rfl (leb rfl) (leb rfl) (leb rfl) (leb rfl) (st' := [(.int (own_ref (own_ix p3 (192 : Int32)) (192 : Int32) (own_ix p1 (192 : Int32)) (own_ix p2 (192 : Int32)) (own_ix p3 (192 : Int32)))), (.int (own_nxt (own_L3 own_f192 (own_ix p1 (192 : Int32)) (own_ix p2 (192 : Int32)) (own_ix p3 (192 : Int32)) m1 m2 m3) (own_e3 own_f192 (7 : Int64) (own_ix p1 (192 : Int32)) (own_ix p2 (192 : Int32)) (own_ix p3 (192 : Int32)) m1 m2 m3) (192 : Int32) (own_ix p3 (192 : Int32)) m3))]) rfl (k' := 5) rfl (n' := 13) rfl ?_
      refine H.icmpF s0_256 (own_main q3 rfl (by decide) (by decide) f1 f2 f3 f3 (by omega)) ?_
      refine H.iconst s0_259 (v := (1 : Int32)) (by decide) ?_
      refine H.goto s0_260 ?_
      refine H.istore s0_264 (ls' := #[.val (.int p0), .val (.int p1), .val (.int p2), .val (.int p3), .val (.int p4), .val (.int (3 : Int32)), .val (.int (0 : Int32)), .val (.int (192 : Int32)), .val (.int (own_ix p1 (192 : Int32))), .val (.int (own_ix p2 (192 : Int32))), .val (.int (own_ix p3 (192 : Int32))), .val (.int ((p4.toUInt32 >>> ((1 : Int32) &&& 31).toUInt32).toInt32 % (194 : Int32))), .val (.ref (n0 + 0)), .val (.int (1 : Int32))]) rfl ?_
      refine H.iload s0_266 rfl ?_
      exact H.ireturn s0_268 rfl (by simp) rfl rfl (by decide) (by decide)
    · refine H.iand s0_9 (w := (1 : Int32)) hz9 ?_
      refine H.istore s0_10 (ls' := #[.val (.int p0), .val (.int p1), .val (.int p2), .val (.int p3), .val (.int p4), .val (.int (3 : Int32)), .val (.int (1 : Int32)), .unset, .unset, .unset, .unset, .unset, .unset, .unset]) rfl ?_
      refine H.iconst s0_12 (v := (1 : Int32)) (by decide) ?_
      refine H.iload s0_13 rfl ?_
      refine H.bipush s0_15 (v := (6 : Int32)) (by decide) ?_
      refine H.ishl s0_17 (w := (192 : Int32)) (by decide) ?_
      refine H.iload s0_18 rfl ?_
      refine H.iadd s0_20 (w := (193 : Int32)) (by decide) ?_
      refine H.callSD s0_21 (k_13 hw) (a_109 l hw n0) (argsL := [(.int (1 : Int32)), (.int (193 : Int32))]) (rest := []) rfl rfl rfl rfl (leb rfl) (leb rfl) (leb rfl) (leb rfl) (st' := [(.int (193 : Int32))]) rfl (k' := 0) rfl (n' := 0) rfl ?_
      refine H.istore s0_24 (ls' := #[.val (.int p0), .val (.int p1), .val (.int p2), .val (.int p3), .val (.int p4), .val (.int (3 : Int32)), .val (.int (1 : Int32)), .val (.int (193 : Int32)), .unset, .unset, .unset, .unset, .unset, .unset]) rfl ?_
      refine H.iloadN s0_26 rfl ?_
      refine H.iload s0_27 rfl ?_
      refine H.callSD s0_29 (k_14 hw) (m_ix l hw n0 _ p1 (193 : Int32) (by decide)) (argsL := [(.int p1), (.int (193 : Int32))]) (rest := []) rfl rfl rfl rfl (leb rfl) (leb rfl) (leb rfl) (leb rfl) (st' := [(.int (own_ix p1 (193 : Int32)))]) rfl (k' := 0) rfl (n' := 0) rfl ?_
      refine H.istore s0_32 (ls' := #[.val (.int p0), .val (.int p1), .val (.int p2), .val (.int p3), .val (.int p4), .val (.int (3 : Int32)), .val (.int (1 : Int32)), .val (.int (193 : Int32)), .val (.int (own_ix p1 (193 : Int32))), .unset, .unset, .unset, .unset, .unset]) rfl ?_
      refine H.iloadN s0_34 rfl ?_
      refine H.iload s0_35 rfl ?_
      refine H.callSD s0_37 (k_14 hw) (m_ix l hw n0 _ p2 (193 : Int32) (by decide)) (argsL := [(.int p2), (.int (193 : Int32))]) (rest := []) rfl rfl rfl rfl (leb rfl) (leb rfl) (leb rfl) (leb rfl) (st' := [(.int (own_ix p2 (193 : Int32)))]) rfl (k' := 0) rfl (n' := 0) rfl ?_
      refine H.istore s0_40 (ls' := #[.val (.int p0), .val (.int p1), .val (.int p2), .val (.int p3), .val (.int p4), .val (.int (3 : Int32)), .val (.int (1 : Int32)), .val (.int (193 : Int32)), .val (.int (own_ix p1 (193 : Int32))), .val (.int (own_ix p2 (193 : Int32))), .unset, .unset, .unset, .unset]) rfl ?_
      refine H.iloadN s0_42 rfl ?_
      refine H.iload s0_43 rfl ?_
      refine H.callSD s0_45 (k_14 hw) (m_ix l hw n0 _ p3 (193 : Int32) (by decide)) (argsL := [(.int p3), (.int (193 : Int32))]) (rest := []) rfl rfl rfl rfl (leb rfl) (leb rfl) (leb rfl) (leb rfl) (st' := [(.int (own_ix p3 (193 : Int32)))]) rfl (k' := 0) rfl (n' := 0) rfl ?_
      refine H.istore s0_48 (ls' := #[.val (.int p0), .val (.int p1), .val (.int p2), .val (.int p3), .val (.int p4), .val (.int (3 : Int32)), .val (.int (1 : Int32)), .val (.int (193 : Int32)), .val (.int (own_ix p1 (193 : Int32))), .val (.int (own_ix p2 (193 : Int32))), .val (.int (own_ix p3 (193 : Int32))), .unset, .unset, .unset]) rfl ?_
      refine H.iload s0_50 rfl ?_
      refine H.iconst s0_52 (v := (1 : Int32)) (by decide) ?_
      refine H.iushr s0_53 rfl ?_
      refine H.iload s0_54 rfl ?_
      refine H.iconst s0_56 (v := (2 : Int32)) (by decide) ?_
      refine H.iadd s0_57 (w := (195 : Int32)) (by decide) ?_
      refine H.irem s0_58 (by decide) (w := ((p4.toUInt32 >>> ((1 : Int32) &&& 31).toUInt32).toInt32 % (195 : Int32))) rfl ?_
      refine H.istore s0_59 (ls' := #[.val (.int p0), .val (.int p1), .val (.int p2), .val (.int p3), .val (.int p4), .val (.int (3 : Int32)), .val (.int (1 : Int32)), .val (.int (193 : Int32)), .val (.int (own_ix p1 (193 : Int32))), .val (.int (own_ix p2 (193 : Int32))), .val (.int (own_ix p3 (193 : Int32))), .val (.int ((p4.toUInt32 >>> ((1 : Int32) &&& 31).toUInt32).toInt32 % (195 : Int32))), .unset, .unset]) rfl ?_
      refine H.new s0_61 (k_15 hw) rfl (by decide) (by decide) (i := 0) rfl (A' := [.inl (0, [(.int (0 : Int32)), .null, .null, .null, .null])]) rfl (k' := 1) rfl (n' := 5) rfl ?_
      refine H.dup s0_64 rfl ?_
      refine H.iload s0_65 rfl ?_
      refine H.callCD s0_67 (k_25 hw) (a_110 l hw n0) (argsL := [(.int (193 : Int32))]) (rest := [(.ref (n0 + 0))]) rfl rfl rfl rfl (leb rfl) (leb rfl) (leb rfl) (leb rfl) (st' := [(.ref (n0 + 0))]) rfl (k' := 5) rfl (n' := 15) rfl ?_
      refine H.astore s0_70 rfl (ls' := #[.val (.int p0), .val (.int p1), .val (.int p2), .val (.int p3), .val (.int p4), .val (.int (3 : Int32)), .val (.int (1 : Int32)), .val (.int (193 : Int32)), .val (.int (own_ix p1 (193 : Int32))), .val (.int (own_ix p2 (193 : Int32))), .val (.int (own_ix p3 (193 : Int32))), .val (.int ((p4.toUInt32 >>> ((1 : Int32) &&& 31).toUInt32).toInt32 % (195 : Int32))), .val (.ref (n0 + 0)), .unset]) rfl ?_
      refine H.aload s0_72 rfl rfl ?_
      refine H.callVD s0_74 (k_29 hw) (a_117 l hw n0) (i := 0) rfl (argsL := []) (rest := []) rfl rfl rfl rfl (leb rfl) (leb rfl) (leb rfl) (leb rfl) (st' := []) rfl (k' := 5) rfl (n' := 15) rfl ?_
      refine H.aload s0_77 rfl rfl ?_
      refine H.iload s0_79 rfl ?_
      obtain ⟨m1, f1, g1⟩ := own_ix_r p1 (193 : Int32) 193 (by decide) (by decide) (by decide)
      obtain ⟨m2, f2, g2⟩ := own_ix_r p2 (193 : Int32) 193 (by decide) (by decide) (by decide)
      obtain ⟨m3, f3, g3⟩ := own_ix_r p3 (193 : Int32) 193 (by decide) (by decide) (by decide)
      obtain ⟨m4, f4, g4⟩ := own_fr_r p4 (195 : Int32) 195 (by decide) (by decide)
      have q0 := inv_193
      obtain ⟨q1, q2, q3⟩ := own_inv3 q0 (by decide) (by decide) f1 f2 f3 g1 g2 g3
      refine H.callVD s0_81 (k_30 hw) (m_rem l hw n0 own_f193 (15 : Int64) (193 : Int32) (own_f193.map Value.long) [(.long (15 : Int64))] (own_ix p1 (193 : Int32)) m1 f1 (own_len q0 (by omega)) (own_len4 q0 (by decide))) (i := 0) rfl (argsL := [(.int (own_ix p1 (193 : Int32)))]) (rest := []) rfl rfl rfl rfl (leb rfl) (leb rfl) (leb rfl) (leb rfl) (st' := []) rfl (k' := 5) rfl (n' := 15) rfl ?_
      refine H.aload s0_84 rfl rfl ?_
      refine H.iload s0_86 rfl ?_
      refine H.callVD s0_88 (k_30 hw) (m_rem l hw n0 (own_Lr own_f193 (own_ix p1 (193 : Int32)) m1) (own_e own_f193 (15 : Int64) (own_ix p1 (193 : Int32)) m1) (193 : Int32) (own_f193.map Value.long) [(.long (15 : Int64))] (own_ix p2 (193 : Int32)) m2 f2 (own_len q1 (by omega)) (own_len4 q1 (by decide))) (i := 0) rfl (argsL := [(.int (own_ix p2 (193 : Int32)))]) (rest := []) rfl rfl rfl rfl (leb rfl) (leb rfl) (leb rfl) (leb rfl) (st' := []) rfl (k' := 5) rfl (n' := 15) rfl ?_
      refine H.aload s0_91 rfl rfl ?_
      refine H.iload s0_93 rfl ?_
      refine H.callVD s0_95 (k_30 hw) (m_rem l hw n0 (own_L2 own_f193 (own_ix p1 (193 : Int32)) (own_ix p2 (193 : Int32)) m1 m2) (own_e2 own_f193 (15 : Int64) (own_ix p1 (193 : Int32)) (own_ix p2 (193 : Int32)) m1 m2) (193 : Int32) (own_f193.map Value.long) [(.long (15 : Int64))] (own_ix p3 (193 : Int32)) m3 f3 (own_len q2 (by omega)) (own_len4 q2 (by decide))) (i := 0) rfl (argsL := [(.int (own_ix p3 (193 : Int32)))]) (rest := []) rfl rfl rfl rfl (leb rfl) (leb rfl) (leb rfl) (leb rfl) (st' := []) rfl (k' := 5) rfl (n' := 15) rfl ?_
      refine H.aload s0_98 rfl rfl ?_
      refine H.iload s0_100 rfl ?_
      refine H.callVD s0_102 (k_31 hw) (m_nxt l hw n0 (own_L3 own_f193 (own_ix p1 (193 : Int32)) (own_ix p2 (193 : Int32)) (own_ix p3 (193 : Int32)) m1 m2 m3) (own_e3 own_f193 (15 : Int64) (own_ix p1 (193 : Int32)) (own_ix p2 (193 : Int32)) (own_ix p3 (193 : Int32)) m1 m2 m3) (193 : Int32) (own_f193.map Value.long) [(.long (15 : Int64))] ((p4.toUInt32 >>> ((1 : Int32) &&& 31).toUInt32).toInt32 % (195 : Int32)) m4 f4 (own_len4 q3 (by decide)) (own_he q3) (own_hz q3)) (i := 0) rfl (argsL := [(.int ((p4.toUInt32 >>> ((1 : Int32) &&& 31).toUInt32).toInt32 % (195 : Int32)))]) (rest := []) rfl rfl rfl rfl (leb rfl) (leb rfl) (leb rfl) (leb rfl) (st' := [(.int (own_nxt (own_L3 own_f193 (own_ix p1 (193 : Int32)) (own_ix p2 (193 : Int32)) (own_ix p3 (193 : Int32)) m1 m2 m3) (own_e3 own_f193 (15 : Int64) (own_ix p1 (193 : Int32)) (own_ix p2 (193 : Int32)) (own_ix p3 (193 : Int32)) m1 m2 m3) (193 : Int32) ((p4.toUInt32 >>> ((1 : Int32) &&& 31).toUInt32).toInt32 % (195 : Int32)) m4))]) rfl (k' := 5) rfl (n' := 15) rfl ?_
      refine H.iload s0_105 rfl ?_
      refine H.iload s0_107 rfl ?_
      refine H.iload s0_109 rfl ?_
      refine H.iload s0_111 rfl ?_
      refine H.iload s0_113 rfl ?_
      refine H.callSD s0_115 (k_32 hw) (m_ref l hw n0 _ ((p4.toUInt32 >>> ((1 : Int32) &&& 31).toUInt32).toInt32 % (195 : Int32)) (193 : Int32) (own_ix p1 (193 : Int32)) (own_ix p2 (193 : Int32)) (own_ix p3 (193 : Int32))) (argsL := [(.int ((p4.toUInt32 >>> ((1 : Int32) &&& 31).toUInt32).toInt32 % (195 : Int32))), (.int (193 : Int32)), (.int (own_ix p1 (193 : Int32))), (.int (own_ix p2 (193 : Int32))), (.int (own_ix p3 (193 : Int32)))]) (rest := [(.int (own_nxt (own_L3 own_f193 (own_ix p1 (193 : Int32)) (own_ix p2 (193 : Int32)) (own_ix p3 (193 : Int32)) m1 m2 m3) (own_e3 own_f193 (15 : Int64) (own_ix p1 (193 : Int32)) (own_ix p2 (193 : Int32)) (own_ix p3 (193 : Int32)) m1 m2 m3) (193 : Int32) ((p4.toUInt32 >>> ((1 : Int32) &&& 31).toUInt32).toInt32 % (195 : Int32)) m4))]) rfl rfl rfl rfl (leb rfl) (leb rfl) (leb rfl) (leb rfl) (st' := [(.int (own_ref ((p4.toUInt32 >>> ((1 : Int32) &&& 31).toUInt32).toInt32 % (195 : Int32)) (193 : Int32) (own_ix p1 (193 : Int32)) (own_ix p2 (193 : Int32)) (own_ix p3 (193 : Int32)))), (.int (own_nxt (own_L3 own_f193 (own_ix p1 (193 : Int32)) (own_ix p2 (193 : Int32)) (own_ix p3 (193 : Int32)) m1 m2 m3) (own_e3 own_f193 (15 : Int64) (own_ix p1 (193 : Int32)) (own_ix p2 (193 : Int32)) (own_ix p3 (193 : Int32)) m1 m2 m3) (193 : Int32) ((p4.toUInt32 >>> ((1 : Int32) &&& 31).toUInt32).toInt32 % (195 : Int32)) m4))]) rfl (k' := 5) rfl (n' := 15) rfl ?_
      refine H.icmpF s0_118 (own_main q3 rfl (by decide) (by decide) f1 f2 f3 f4 (by omega)) ?_
      refine H.iconst s0_121 (v := (1 : Int32)) (by decide) ?_
      refine H.goto s0_122 ?_
      refine H.istore s0_126 (ls' := #[.val (.int p0), .val (.int p1), .val (.int p2), .val (.int p3), .val (.int p4), .val (.int (3 : Int32)), .val (.int (1 : Int32)), .val (.int (193 : Int32)), .val (.int (own_ix p1 (193 : Int32))), .val (.int (own_ix p2 (193 : Int32))), .val (.int (own_ix p3 (193 : Int32))), .val (.int ((p4.toUInt32 >>> ((1 : Int32) &&& 31).toUInt32).toInt32 % (195 : Int32))), .val (.ref (n0 + 0)), .val (.int (1 : Int32))]) rfl ?_
      refine H.iload s0_128 rfl ?_
      refine H.ifF s0_130 (show ¬ (1 : Int32) = (0 : Int32) by decide) ?_
      refine H.aload s0_133 rfl rfl ?_
      refine H.iconst s0_135 (v := (0 : Int32)) (by decide) ?_
      refine H.callVD s0_136 (k_31 hw) (m_nxt l hw n0 (own_L3 own_f193 (own_ix p1 (193 : Int32)) (own_ix p2 (193 : Int32)) (own_ix p3 (193 : Int32)) m1 m2 m3) (own_e3 own_f193 (15 : Int64) (own_ix p1 (193 : Int32)) (own_ix p2 (193 : Int32)) (own_ix p3 (193 : Int32)) m1 m2 m3) (193 : Int32) (own_f193.map Value.long) [(.long (15 : Int64))] (0 : Int32) 0 (by decide : (0 : Int32).toInt = ((0 : Nat) : Int)) (own_len4 q3 (by decide)) (own_he q3) (own_hz q3)) (i := 0) rfl (argsL := [(.int (0 : Int32))]) (rest := []) rfl rfl rfl rfl (leb rfl) (leb rfl) (leb rfl) (leb rfl) (st' := [(.int (own_nxt (own_L3 own_f193 (own_ix p1 (193 : Int32)) (own_ix p2 (193 : Int32)) (own_ix p3 (193 : Int32)) m1 m2 m3) (own_e3 own_f193 (15 : Int64) (own_ix p1 (193 : Int32)) (own_ix p2 (193 : Int32)) (own_ix p3 (193 : Int32)) m1 m2 m3) (193 : Int32) (0 : Int32) 0))]) rfl (k' := 5) rfl (n' := 15) rfl ?_
      refine H.iconst s0_139 (v := (0 : Int32)) (by decide) ?_
      refine H.iload s0_140 rfl ?_
      refine H.iload s0_142 rfl ?_
      refine H.iload s0_144 rfl ?_
      refine H.iload s0_146 rfl ?_
      refine H.callSD s0_148 (k_32 hw) (m_ref l hw n0 _ (0 : Int32) (193 : Int32) (own_ix p1 (193 : Int32)) (own_ix p2 (193 : Int32)) (own_ix p3 (193 : Int32))) (argsL := [(.int (0 : Int32)), (.int (193 : Int32)), (.int (own_ix p1 (193 : Int32))), (.int (own_ix p2 (193 : Int32))), (.int (own_ix p3 (193 : Int32)))]) (rest := [(.int (own_nxt (own_L3 own_f193 (own_ix p1 (193 : Int32)) (own_ix p2 (193 : Int32)) (own_ix p3 (193 : Int32)) m1 m2 m3) (own_e3 own_f193 (15 : Int64) (own_ix p1 (193 : Int32)) (own_ix p2 (193 : Int32)) (own_ix p3 (193 : Int32)) m1 m2 m3) (193 : Int32) (0 : Int32) 0))]) rfl rfl rfl rfl (leb rfl) (leb rfl) (leb rfl) (leb rfl) (st' := [(.int (own_ref (0 : Int32) (193 : Int32) (own_ix p1 (193 : Int32)) (own_ix p2 (193 : Int32)) (own_ix p3 (193 : Int32)))), (.int (own_nxt (own_L3 own_f193 (own_ix p1 (193 : Int32)) (own_ix p2 (193 : Int32)) (own_ix p3 (193 : Int32)) m1 m2 m3) (own_e3 own_f193 (15 : Int64) (own_ix p1 (193 : Int32)) (own_ix p2 (193 : Int32)) (own_ix p3 (193 : Int32)) m1 m2 m3) (193 : Int32) (0 : Int32) 0))]) rfl (k' := 5) rfl (n' := 15) rfl ?_
      refine H.icmpF s0_151 (own_main q3 rfl (by decide) (by decide) f1 f2 f3 (by decide : (0 : Int32).toInt = ((0 : Nat) : Int)) (by omega)) ?_
      refine H.iconst s0_154 (v := (1 : Int32)) (by decide) ?_
      refine H.goto s0_155 ?_
      refine H.istore s0_159 (ls' := #[.val (.int p0), .val (.int p1), .val (.int p2), .val (.int p3), .val (.int p4), .val (.int (3 : Int32)), .val (.int (1 : Int32)), .val (.int (193 : Int32)), .val (.int (own_ix p1 (193 : Int32))), .val (.int (own_ix p2 (193 : Int32))), .val (.int (own_ix p3 (193 : Int32))), .val (.int ((p4.toUInt32 >>> ((1 : Int32) &&& 31).toUInt32).toInt32 % (195 : Int32))), .val (.ref (n0 + 0)), .val (.int (1 : Int32))]) rfl ?_
      refine H.iload s0_161 rfl ?_
      refine H.ifF s0_163 (show ¬ (1 : Int32) = (0 : Int32) by decide) ?_
      refine H.aload s0_166 rfl rfl ?_
      refine H.iload s0_168 rfl ?_
      refine H.callVD s0_170 (k_31 hw) (m_nxt l hw n0 (own_L3 own_f193 (own_ix p1 (193 : Int32)) (own_ix p2 (193 : Int32)) (own_ix p3 (193 : Int32)) m1 m2 m3) (own_e3 own_f193 (15 : Int64) (own_ix p1 (193 : Int32)) (own_ix p2 (193 : Int32)) (own_ix p3 (193 : Int32)) m1 m2 m3) (193 : Int32) (own_f193.map Value.long) [(.long (15 : Int64))] (own_ix p1 (193 : Int32)) m1 f1 (own_len4 q3 (by decide)) (own_he q3) (own_hz q3)) (i := 0) rfl (argsL := [(.int (own_ix p1 (193 : Int32)))]) (rest := []) rfl rfl rfl rfl (leb rfl) (leb rfl) (leb rfl) (leb rfl) (st' := [(.int (own_nxt (own_L3 own_f193 (own_ix p1 (193 : Int32)) (own_ix p2 (193 : Int32)) (own_ix p3 (193 : Int32)) m1 m2 m3) (own_e3 own_f193 (15 : Int64) (own_ix p1 (193 : Int32)) (own_ix p2 (193 : Int32)) (own_ix p3 (193 : Int32)) m1 m2 m3) (193 : Int32) (own_ix p1 (193 : Int32)) m1))]) rfl (k' := 5) rfl (n' := 15) rfl ?_
      refine H.iload s0_173 rfl ?_
      refine H.iload s0_175 rfl ?_
      refine H.iload s0_177 rfl ?_
      refine H.iload s0_179 rfl ?_
      refine H.iload s0_181 rfl ?_
      refine H.callSD s0_183 (k_32 hw) (m_ref l hw n0 _ (own_ix p1 (193 : Int32)) (193 : Int32) (own_ix p1 (193 : Int32)) (own_ix p2 (193 : Int32)) (own_ix p3 (193 : Int32))) (argsL := [(.int (own_ix p1 (193 : Int32))), (.int (193 : Int32)), (.int (own_ix p1 (193 : Int32))), (.int (own_ix p2 (193 : Int32))), (.int (own_ix p3 (193 : Int32)))]) (rest := [(.int (own_nxt (own_L3 own_f193 (own_ix p1 (193 : Int32)) (own_ix p2 (193 : Int32)) (own_ix p3 (193 : Int32)) m1 m2 m3) (own_e3 own_f193 (15 : Int64) (own_ix p1 (193 : Int32)) (own_ix p2 (193 : Int32)) (own_ix p3 (193 : Int32)) m1 m2 m3) (193 : Int32) (own_ix p1 (193 : Int32)) m1))]) rfl rfl rfl rfl (leb rfl) (leb rfl) (leb rfl) (leb rfl) (st' := [(.int (own_ref (own_ix p1 (193 : Int32)) (193 : Int32) (own_ix p1 (193 : Int32)) (own_ix p2 (193 : Int32)) (own_ix p3 (193 : Int32)))), (.int (own_nxt (own_L3 own_f193 (own_ix p1 (193 : Int32)) (own_ix p2 (193 : Int32)) (own_ix p3 (193 : Int32)) m1 m2 m3) (own_e3 own_f193 (15 : Int64) (own_ix p1 (193 : Int32)) (own_ix p2 (193 : Int32)) (own_ix p3 (193 : Int32)) m1 m2 m3) (193 : Int32) (own_ix p1 (193 : Int32)) m1))]) rfl (k' := 5) rfl (n' := 15) rfl ?_
      refine H.icmpF s0_186 (own_main q3 rfl (by decide) (by decide) f1 f2 f3 f1 (by omega)) ?_
      refine H.iconst s0_189 (v := (1 : Int32)) (by decide) ?_
      refine H.goto s0_190 ?_
      refine H.istore s0_194 (ls' := #[.val (.int p0), .val (.int p1), .val (.int p2), .val (.int p3), .val (.int p4), .val (.int (3 : Int32)), .val (.int (1 : Int32)), .val (.int (193 : Int32)), .val (.int (own_ix p1 (193 : Int32))), .val (.int (own_ix p2 (193 : Int32))), .val (.int (own_ix p3 (193 : Int32))), .val (.int ((p4.toUInt32 >>> ((1 : Int32) &&& 31).toUInt32).toInt32 % (195 : Int32))), .val (.ref (n0 + 0)), .val (.int (1 : Int32))]) rfl ?_
      refine H.iload s0_196 rfl ?_
      refine H.ifF s0_198 (show ¬ (1 : Int32) = (0 : Int32) by decide) ?_
      refine H.aload s0_201 rfl rfl ?_
      refine H.iload s0_203 rfl ?_
      refine H.callVD s0_205 (k_31 hw) (m_nxt l hw n0 (own_L3 own_f193 (own_ix p1 (193 : Int32)) (own_ix p2 (193 : Int32)) (own_ix p3 (193 : Int32)) m1 m2 m3) (own_e3 own_f193 (15 : Int64) (own_ix p1 (193 : Int32)) (own_ix p2 (193 : Int32)) (own_ix p3 (193 : Int32)) m1 m2 m3) (193 : Int32) (own_f193.map Value.long) [(.long (15 : Int64))] (own_ix p2 (193 : Int32)) m2 f2 (own_len4 q3 (by decide)) (own_he q3) (own_hz q3)) (i := 0) rfl (argsL := [(.int (own_ix p2 (193 : Int32)))]) (rest := []) rfl rfl rfl rfl (leb rfl) (leb rfl) (leb rfl) (leb rfl) (st' := [(.int (own_nxt (own_L3 own_f193 (own_ix p1 (193 : Int32)) (own_ix p2 (193 : Int32)) (own_ix p3 (193 : Int32)) m1 m2 m3) (own_e3 own_f193 (15 : Int64) (own_ix p1 (193 : Int32)) (own_ix p2 (193 : Int32)) (own_ix p3 (193 : Int32)) m1 m2 m3) (193 : Int32) (own_ix p2 (193 : Int32)) m2))]) rfl (k' := 5) rfl (n' := 15) rfl ?_
      refine H.iload s0_208 rfl ?_
      refine H.iload s0_210 rfl ?_
      refine H.iload s0_212 rfl ?_
      refine H.iload s0_214 rfl ?_
      refine H.iload s0_216 rfl ?_
      refine H.callSD s0_218 (k_32 hw) (m_ref l hw n0 _ (own_ix p2 (193 : Int32)) (193 : Int32) (own_ix p1 (193 : Int32)) (own_ix p2 (193 : Int32)) (own_ix p3 (193 : Int32))) (argsL := [(.int (own_ix p2 (193 : Int32))), (.int (193 : Int32)), (.int (own_ix p1 (193 : Int32))), (.int (own_ix p2 (193 : Int32))), (.int (own_ix p3 (193 : Int32)))]) (rest := [(.int (own_nxt (own_L3 own_f193 (own_ix p1 (193 : Int32)) (own_ix p2 (193 : Int32)) (own_ix p3 (193 : Int32)) m1 m2 m3) (own_e3 own_f193 (15 : Int64) (own_ix p1 (193 : Int32)) (own_ix p2 (193 : Int32)) (own_ix p3 (193 : Int32)) m1 m2 m3) (193 : Int32) (own_ix p2 (193 : Int32)) m2))]) rfl rfl rfl rfl (leb rfl) (leb rfl) (leb rfl) (leb rfl) (st' := [(.int (own_ref (own_ix p2 (193 : Int32)) (193 : Int32) (own_ix p1 (193 : Int32)) (own_ix p2 (193 : Int32)) (own_ix p3 (193 : Int32)))), (.int (own_nxt (own_L3 own_f193 (own_ix p1 (193 : Int32)) (own_ix p2 (193 : Int32)) (own_ix p3 (193 : Int32)) m1 m2 m3) (own_e3 own_f193 (15 : Int64) (own_ix p1 (193 : Int32)) (own_ix p2 (193 : Int32)) (own_ix p3 (193 : Int32)) m1 m2 m3) (193 : Int32) (own_ix p2 (193 : Int32)) m2))]) rfl (k' := 5) rfl (n' := 15) rfl ?_
      refine H.icmpF s0_221 (own_main q3 rfl (by decide) (by decide) f1 f2 f3 f2 (by omega)) ?_
      refine H.iconst s0_224 (v := (1 : Int32)) (by decide) ?_
      refine H.goto s0_225 ?_
      refine H.istore s0_229 (ls' := #[.val (.int p0), .val (.int p1), .val (.int p2), .val (.int p3), .val (.int p4), .val (.int (3 : Int32)), .val (.int (1 : Int32)), .val (.int (193 : Int32)), .val (.int (own_ix p1 (193 : Int32))), .val (.int (own_ix p2 (193 : Int32))), .val (.int (own_ix p3 (193 : Int32))), .val (.int ((p4.toUInt32 >>> ((1 : Int32) &&& 31).toUInt32).toInt32 % (195 : Int32))), .val (.ref (n0 + 0)), .val (.int (1 : Int32))]) rfl ?_
      refine H.iload s0_231 rfl ?_
      refine H.ifF s0_233 (show ¬ (1 : Int32) = (0 : Int32) by decide) ?_
      refine H.aload s0_236 rfl rfl ?_
      refine H.iload s0_238 rfl ?_
      refine H.callVD s0_240 (k_31 hw) (m_nxt l hw n0 (own_L3 own_f193 (own_ix p1 (193 : Int32)) (own_ix p2 (193 : Int32)) (own_ix p3 (193 : Int32)) m1 m2 m3) (own_e3 own_f193 (15 : Int64) (own_ix p1 (193 : Int32)) (own_ix p2 (193 : Int32)) (own_ix p3 (193 : Int32)) m1 m2 m3) (193 : Int32) (own_f193.map Value.long) [(.long (15 : Int64))] (own_ix p3 (193 : Int32)) m3 f3 (own_len4 q3 (by decide)) (own_he q3) (own_hz q3)) (i := 0) rfl (argsL := [(.int (own_ix p3 (193 : Int32)))]) (rest := []) rfl rfl rfl rfl (leb rfl) (leb rfl) (leb rfl) (leb rfl) (st' := [(.int (own_nxt (own_L3 own_f193 (own_ix p1 (193 : Int32)) (own_ix p2 (193 : Int32)) (own_ix p3 (193 : Int32)) m1 m2 m3) (own_e3 own_f193 (15 : Int64) (own_ix p1 (193 : Int32)) (own_ix p2 (193 : Int32)) (own_ix p3 (193 : Int32)) m1 m2 m3) (193 : Int32) (own_ix p3 (193 : Int32)) m3))]) rfl (k' := 5) rfl (n' := 15) rfl ?_
      refine H.iload s0_243 rfl ?_
      refine H.iload s0_245 rfl ?_
      refine H.iload s0_247 rfl ?_
      refine H.iload s0_249 rfl ?_
      refine H.iload s0_251 rfl ?_
      refine H.callSD s0_253 (k_32 hw) (m_ref l hw n0 _ (own_ix p3 (193 : Int32)) (193 : Int32) (own_ix p1 (193 : Int32)) (own_ix p2 (193 : Int32)) (own_ix p3 (193 : Int32))) (argsL := [(.int (own_ix p3 (193 : Int32))), (.int (193 : Int32)), (.int (own_ix p1 (193 : Int32))), (.int (own_ix p2 (193 : Int32))), (.int (own_ix p3 (193 : Int32)))]) (rest := [(.int (own_nxt (own_L3 own_f193 (own_ix p1 (193 : Int32)) (own_ix p2 (193 : Int32)) (own_ix p3 (193 : Int32)) m1 m2 m3) (own_e3 own_f193 (15 : Int64) (own_ix p1 (193 : Int32)) (own_ix p2 (193 : Int32)) (own_ix p3 (193 : Int32)) m1 m2 m3) (193 : Int32) (own_ix p3 (193 : Int32)) m3))]) rfl rfl rfl rfl (leb rfl) (leb rfl) (leb rfl) (leb rfl) (st' := [(.int (own_ref (own_ix p3 (193 : Int32)) (193 : Int32) (own_ix p1 (193 : Int32)) (own_ix p2 (193 : Int32)) (own_ix p3 (193 : Int32)))), (.int (own_nxt (own_L3 own_f193 (own_ix p1 (193 : Int32)) (own_ix p2 (193 : Int32)) (own_ix p3 (193 : Int32)) m1 m2 m3) (own_e3 own_f193 (15 : Int64) (own_ix p1 (193 : Int32)) (own_ix p2 (193 : Int32)) (own_ix p3 (193 : Int32)) m1 m2 m3) (193 : Int32) (own_ix p3 (193 : Int32)) m3))]) rfl (k' := 5) rfl (n' := 15) rfl ?_
      refine H.icmpF s0_256 (own_main q3 rfl (by decide) (by decide) f1 f2 f3 f3 (by omega)) ?_
      refine H.iconst s0_259 (v := (1 : Int32)) (by decide) ?_
      refine H.goto s0_260 ?_
      refine H.istore s0_264 (ls' := #[.val (.int p0), .val (.int p1), .val (.int p2), .val (.int p3), .val (.int p4), .val (.int (3 : Int32)), .val (.int (1 : Int32)), .val (.int (193 : Int32)), .val (.int (own_ix p1 (193 : Int32))), .val (.int (own_ix p2 (193 : Int32))), .val (.int (own_ix p3 (193 : Int32))), .val (.int ((p4.toUInt32 >>> ((1 : Int32) &&& 31).toUInt32).toInt32 % (195 : Int32))), .val (.ref (n0 + 0)), .val (.int (1 : Int32))]) rfl ?_
      refine H.iload s0_266 rfl ?_
      exact H.ireturn s0_268 rfl (by simp) rfl rfl (by decide) (by decide)
    · refine H.iand s0_9 (w := (2 : Int32)) hz9 ?_
      refine H.istore s0_10 (ls' := #[.val (.int p0), .val (.int p1), .val (.int p2), .val (.int p3), .val (.int p4), .val (.int (3 : Int32)), .val (.int (2 : Int32)), .unset, .unset, .unset, .unset, .unset, .unset, .unset]) rfl ?_
      refine H.iconst s0_12 (v := (1 : Int32)) (by decide) ?_
      refine H.iload s0_13 rfl ?_
      refine H.bipush s0_15 (v := (6 : Int32)) (by decide) ?_
      refine H.ishl s0_17 (w := (192 : Int32)) (by decide) ?_
      refine H.iload s0_18 rfl ?_
      refine H.iadd s0_20 (w := (194 : Int32)) (by decide) ?_
      refine H.callSD s0_21 (k_13 hw) (a_118 l hw n0) (argsL := [(.int (1 : Int32)), (.int (194 : Int32))]) (rest := []) rfl rfl rfl rfl (leb rfl) (leb rfl) (leb rfl) (leb rfl) (st' := [(.int (194 : Int32))]) rfl (k' := 0) rfl (n' := 0) rfl ?_
      refine H.istore s0_24 (ls' := #[.val (.int p0), .val (.int p1), .val (.int p2), .val (.int p3), .val (.int p4), .val (.int (3 : Int32)), .val (.int (2 : Int32)), .val (.int (194 : Int32)), .unset, .unset, .unset, .unset, .unset, .unset]) rfl ?_
      refine H.iloadN s0_26 rfl ?_
      refine H.iload s0_27 rfl ?_
      refine H.callSD s0_29 (k_14 hw) (m_ix l hw n0 _ p1 (194 : Int32) (by decide)) (argsL := [(.int p1), (.int (194 : Int32))]) (rest := []) rfl rfl rfl rfl (leb rfl) (leb rfl) (leb rfl) (leb rfl) (st' := [(.int (own_ix p1 (194 : Int32)))]) rfl (k' := 0) rfl (n' := 0) rfl ?_
      refine H.istore s0_32 (ls' := #[.val (.int p0), .val (.int p1), .val (.int p2), .val (.int p3), .val (.int p4), .val (.int (3 : Int32)), .val (.int (2 : Int32)), .val (.int (194 : Int32)), .val (.int (own_ix p1 (194 : Int32))), .unset, .unset, .unset, .unset, .unset]) rfl ?_
      refine H.iloadN s0_34 rfl ?_
      refine H.iload s0_35 rfl ?_
      refine H.callSD s0_37 (k_14 hw) (m_ix l hw n0 _ p2 (194 : Int32) (by decide)) (argsL := [(.int p2), (.int (194 : Int32))]) (rest := []) rfl rfl rfl rfl (leb rfl) (leb rfl) (leb rfl) (leb rfl) (st' := [(.int (own_ix p2 (194 : Int32)))]) rfl (k' := 0) rfl (n' := 0) rfl ?_
      refine H.istore s0_40 (ls' := #[.val (.int p0), .val (.int p1), .val (.int p2), .val (.int p3), .val (.int p4), .val (.int (3 : Int32)), .val (.int (2 : Int32)), .val (.int (194 : Int32)), .val (.int (own_ix p1 (194 : Int32))), .val (.int (own_ix p2 (194 : Int32))), .unset, .unset, .unset, .unset]) rfl ?_
      refine H.iloadN s0_42 rfl ?_
      refine H.iload s0_43 rfl ?_
      refine H.callSD s0_45 (k_14 hw) (m_ix l hw n0 _ p3 (194 : Int32) (by decide)) (argsL := [(.int p3), (.int (194 : Int32))]) (rest := []) rfl rfl rfl rfl (leb rfl) (leb rfl) (leb rfl) (leb rfl) (st' := [(.int (own_ix p3 (194 : Int32)))]) rfl (k' := 0) rfl (n' := 0) rfl ?_
      refine H.istore s0_48 (ls' := #[.val (.int p0), .val (.int p1), .val (.int p2), .val (.int p3), .val (.int p4), .val (.int (3 : Int32)), .val (.int (2 : Int32)), .val (.int (194 : Int32)), .val (.int (own_ix p1 (194 : Int32))), .val (.int (own_ix p2 (194 : Int32))), .val (.int (own_ix p3 (194 : Int32))), .unset, .unset, .unset]) rfl ?_
      refine H.iload s0_50 rfl ?_
      refine H.iconst s0_52 (v := (1 : Int32)) (by decide) ?_
      refine H.iushr s0_53 rfl ?_
      refine H.iload s0_54 rfl ?_
      refine H.iconst s0_56 (v := (2 : Int32)) (by decide) ?_
      refine H.iadd s0_57 (w := (196 : Int32)) (by decide) ?_
      refine H.irem s0_58 (by decide) (w := ((p4.toUInt32 >>> ((1 : Int32) &&& 31).toUInt32).toInt32 % (196 : Int32))) rfl ?_
      refine H.istore s0_59 (ls' := #[.val (.int p0), .val (.int p1), .val (.int p2), .val (.int p3), .val (.int p4), .val (.int (3 : Int32)), .val (.int (2 : Int32)), .val (.int (194 : Int32)), .val (.int (own_ix p1 (194 : Int32))), .val (.int (own_ix p2 (194 : Int32))), .val (.int (own_ix p3 (194 : Int32))), .val (.int ((p4.toUInt32 >>> ((1 : Int32) &&& 31).toUInt32).toInt32 % (196 : Int32))), .unset, .unset]) rfl ?_
      refine H.new s0_61 (k_15 hw) rfl (by decide) (by decide) (i := 0) rfl (A' := [.inl (0, [(.int (0 : Int32)), .null, .null, .null, .null])]) rfl (k' := 1) rfl (n' := 5) rfl ?_
      refine H.dup s0_64 rfl ?_
      refine H.iload s0_65 rfl ?_
      refine H.callCD s0_67 (k_25 hw) (a_119 l hw n0) (argsL := [(.int (194 : Int32))]) (rest := [(.ref (n0 + 0))]) rfl rfl rfl rfl (leb rfl) (leb rfl) (leb rfl) (leb rfl) (st' := [(.ref (n0 + 0))]) rfl (k' := 5) rfl (n' := 15) rfl ?_
      refine H.astore s0_70 rfl (ls' := #[.val (.int p0), .val (.int p1), .val (.int p2), .val (.int p3), .val (.int p4), .val (.int (3 : Int32)), .val (.int (2 : Int32)), .val (.int (194 : Int32)), .val (.int (own_ix p1 (194 : Int32))), .val (.int (own_ix p2 (194 : Int32))), .val (.int (own_ix p3 (194 : Int32))), .val (.int ((p4.toUInt32 >>> ((1 : Int32) &&& 31).toUInt32).toInt32 % (196 : Int32))), .val (.ref (n0 + 0)), .unset]) rfl ?_
      refine H.aload s0_72 rfl rfl ?_
      refine H.callVD s0_74 (k_29 hw) (a_126 l hw n0) (i := 0) rfl (argsL := []) (rest := []) rfl rfl rfl rfl (leb rfl) (leb rfl) (leb rfl) (leb rfl) (st' := []) rfl (k' := 5) rfl (n' := 15) rfl ?_
      refine H.aload s0_77 rfl rfl ?_
      refine H.iload s0_79 rfl ?_
      obtain ⟨m1, f1, g1⟩ := own_ix_r p1 (194 : Int32) 194 (by decide) (by decide) (by decide)
      obtain ⟨m2, f2, g2⟩ := own_ix_r p2 (194 : Int32) 194 (by decide) (by decide) (by decide)
      obtain ⟨m3, f3, g3⟩ := own_ix_r p3 (194 : Int32) 194 (by decide) (by decide) (by decide)
      obtain ⟨m4, f4, g4⟩ := own_fr_r p4 (196 : Int32) 196 (by decide) (by decide)
      have q0 := inv_194
      obtain ⟨q1, q2, q3⟩ := own_inv3 q0 (by decide) (by decide) f1 f2 f3 g1 g2 g3
      refine H.callVD s0_81 (k_30 hw) (m_rem l hw n0 own_f194 (15 : Int64) (194 : Int32) (own_f194.map Value.long) [(.long (15 : Int64))] (own_ix p1 (194 : Int32)) m1 f1 (own_len q0 (by omega)) (own_len4 q0 (by decide))) (i := 0) rfl (argsL := [(.int (own_ix p1 (194 : Int32)))]) (rest := []) rfl rfl rfl rfl (leb rfl) (leb rfl) (leb rfl) (leb rfl) (st' := []) rfl (k' := 5) rfl (n' := 15) rfl ?_
      refine H.aload s0_84 rfl rfl ?_
      refine H.iload s0_86 rfl ?_
      refine H.callVD s0_88 (k_30 hw) (m_rem l hw n0 (own_Lr own_f194 (own_ix p1 (194 : Int32)) m1) (own_e own_f194 (15 : Int64) (own_ix p1 (194 : Int32)) m1) (194 : Int32) (own_f194.map Value.long) [(.long (15 : Int64))] (own_ix p2 (194 : Int32)) m2 f2 (own_len q1 (by omega)) (own_len4 q1 (by decide))) (i := 0) rfl (argsL := [(.int (own_ix p2 (194 : Int32)))]) (rest := []) rfl rfl rfl rfl (leb rfl) (leb rfl) (leb rfl) (leb rfl) (st' := []) rfl (k' := 5) rfl (n' := 15) rfl ?_
      refine H.aload s0_91 rfl rfl ?_
      refine H.iload s0_93 rfl ?_
      refine H.callVD s0_95 (k_30 hw) (m_rem l hw n0 (own_L2 own_f194 (own_ix p1 (194 : Int32)) (own_ix p2 (194 : Int32)) m1 m2) (own_e2 own_f194 (15 : Int64) (own_ix p1 (194 : Int32)) (own_ix p2 (194 : Int32)) m1 m2) (194 : Int32) (own_f194.map Value.long) [(.long (15 : Int64))] (own_ix p3 (194 : Int32)) m3 f3 (own_len q2 (by omega)) (own_len4 q2 (by decide))) (i := 0) rfl (argsL := [(.int (own_ix p3 (194 : Int32)))]) (rest := []) rfl rfl rfl rfl (leb rfl) (leb rfl) (leb rfl) (leb rfl) (st' := []) rfl (k' := 5) rfl (n' := 15) rfl ?_
      refine H.aload s0_98 rfl rfl ?_
      refine H.iload s0_100 rfl ?_
      refine H.callVD s0_102 (k_31 hw) (m_nxt l hw n0 (own_L3 own_f194 (own_ix p1 (194 : Int32)) (own_ix p2 (194 : Int32)) (own_ix p3 (194 : Int32)) m1 m2 m3) (own_e3 own_f194 (15 : Int64) (own_ix p1 (194 : Int32)) (own_ix p2 (194 : Int32)) (own_ix p3 (194 : Int32)) m1 m2 m3) (194 : Int32) (own_f194.map Value.long) [(.long (15 : Int64))] ((p4.toUInt32 >>> ((1 : Int32) &&& 31).toUInt32).toInt32 % (196 : Int32)) m4 f4 (own_len4 q3 (by decide)) (own_he q3) (own_hz q3)) (i := 0) rfl (argsL := [(.int ((p4.toUInt32 >>> ((1 : Int32) &&& 31).toUInt32).toInt32 % (196 : Int32)))]) (rest := []) rfl rfl rfl rfl (leb rfl) (leb rfl) (leb rfl) (leb rfl) (st' := [(.int (own_nxt (own_L3 own_f194 (own_ix p1 (194 : Int32)) (own_ix p2 (194 : Int32)) (own_ix p3 (194 : Int32)) m1 m2 m3) (own_e3 own_f194 (15 : Int64) (own_ix p1 (194 : Int32)) (own_ix p2 (194 : Int32)) (own_ix p3 (194 : Int32)) m1 m2 m3) (194 : Int32) ((p4.toUInt32 >>> ((1 : Int32) &&& 31).toUInt32).toInt32 % (196 : Int32)) m4))]) rfl (k' := 5) rfl (n' := 15) rfl ?_
      refine H.iload s0_105 rfl ?_
      refine H.iload s0_107 rfl ?_
      refine H.iload s0_109 rfl ?_
      refine H.iload s0_111 rfl ?_
      refine H.iload s0_113 rfl ?_
      refine H.callSD s0_115 (k_32 hw) (m_ref l hw n0 _ ((p4.toUInt32 >>> ((1 : Int32) &&& 31).toUInt32).toInt32 % (196 : Int32)) (194 : Int32) (own_ix p1 (194 : Int32)) (own_ix p2 (194 : Int32)) (own_ix p3 (194 : Int32))) (argsL := [(.int ((p4.toUInt32 >>> ((1 : Int32) &&& 31).toUInt32).toInt32 % (196 : Int32))), (.int (194 : Int32)), (.int (own_ix p1 (194 : Int32))), (.int (own_ix p2 (194 : Int32))), (.int (own_ix p3 (194 : Int32)))]) (rest := [(.int (own_nxt (own_L3 own_f194 (own_ix p1 (194 : Int32)) (own_ix p2 (194 : Int32)) (own_ix p3 (194 : Int32)) m1 m2 m3) (own_e3 own_f194 (15 : Int64) (own_ix p1 (194 : Int32)) (own_ix p2 (194 : Int32)) (own_ix p3 (194 : Int32)) m1 m2 m3) (194 : Int32) ((p4.toUInt32 >>> ((1 : Int32) &&& 31).toUInt32).toInt32 % (196 : Int32)) m4))]) rfl rfl rfl rfl (leb rfl) (leb rfl) (leb rfl) (leb rfl) (st' := [(.int (own_ref ((p4.toUInt32 >>> ((1 : Int32) &&& 31).toUInt32).toInt32 % (196 : Int32)) (194 : Int32) (own_ix p1 (194 : Int32)) (own_ix p2 (194 : Int32)) (own_ix p3 (194 : Int32)))), (.int (own_nxt (own_L3 own_f194 (own_ix p1 (194 : Int32)) (own_ix p2 (194 : Int32)) (own_ix p3 (194 : Int32)) m1 m2 m3) (own_e3 own_f194 (15 : Int64) (own_ix p1 (194 : Int32)) (own_ix p2 (194 : Int32)) (own_ix p3 (194 : Int32)) m1 m2 m3) (194 : Int32) ((p4.toUInt32 >>> ((1 : Int32) &&& 31).toUInt32).toInt32 % (196 : Int32)) m4))]) rfl (k' := 5) rfl (n' := 15) rfl ?_
      refine H.icmpF s0_118 (own_main q3 rfl (by decide) (by decide) f1 f2 f3 f4 (by omega)) ?_
      refine H.iconst s0_121 (v := (1 : Int32)) (by decide) ?_
      refine H.goto s0_122 ?_
      refine H.istore s0_126 (ls' := #[.val (.int p0), .val (.int p1), .val (.int p2), .val (.int p3), .val (.int p4), .val (.int (3 : Int32)), .val (.int (2 : Int32)), .val (.int (194 : Int32)), .val (.int (own_ix p1 (194 : Int32))), .val (.int (own_ix p2 (194 : Int32))), .val (.int (own_ix p3 (194 : Int32))), .val (.int ((p4.toUInt32 >>> ((1 : Int32) &&& 31).toUInt32).toInt32 % (196 : Int32))), .val (.ref (n0 + 0)), .val (.int (1 : Int32))]) rfl ?_
      refine H.iload s0_128 rfl ?_
      refine H.ifF s0_130 (show ¬ (1 : Int32) = (0 : Int32) by decide) ?_
      refine H.aload s0_133 rfl rfl ?_
      refine H.iconst s0_135 (v := (0 : Int32)) (by decide) ?_
      refine H.callVD s0_136 (k_31 hw) (m_nxt l hw n0 (own_L3 own_f194 (own_ix p1 (194 : Int32)) (own_ix p2 (194 : Int32)) (own_ix p3 (194 : Int32)) m1 m2 m3) (own_e3 own_f194 (15 : Int64) (own_ix p1 (194 : Int32)) (own_ix p2 (194 : Int32)) (own_ix p3 (194 : Int32)) m1 m2 m3) (194 : Int32) (own_f194.map Value.long) [(.long (15 : Int64))] (0 : Int32) 0 (by decide : (0 : Int32).toInt = ((0 : Nat) : Int)) (own_len4 q3 (by decide)) (own_he q3) (own_hz q3)) (i := 0) rfl (argsL := [(.int (0 : Int32))]) (rest := []) rfl rfl rfl rfl (leb rfl) (leb rfl) (leb rfl) (leb rfl) (st' := [(.int (own_nxt (own_L3 own_f194 (own_ix p1 (194 : Int32)) (own_ix p2 (194 : Int32)) (own_ix p3 (194 : Int32)) m1 m2 m3) (own_e3 own_f194 (15 : Int64) (own_ix p1 (194 : Int32)) (own_ix p2 (194 : Int32)) (own_ix p3 (194 : Int32)) m1 m2 m3) (194 : Int32) (0 : Int32) 0))]) rfl (k' := 5) rfl (n' := 15) rfl ?_
      refine H.iconst s0_139 (v := (0 : Int32)) (by decide) ?_
      refine H.iload s0_140 rfl ?_
      refine H.iload s0_142 rfl ?_
      refine H.iload s0_144 rfl ?_
      refine H.iload s0_146 rfl ?_
      refine H.callSD s0_148 (k_32 hw) (m_ref l hw n0 _ (0 : Int32) (194 : Int32) (own_ix p1 (194 : Int32)) (own_ix p2 (194 : Int32)) (own_ix p3 (194 : Int32))) (argsL := [(.int (0 : Int32)), (.int (194 : Int32)), (.int (own_ix p1 (194 : Int32))), (.int (own_ix p2 (194 : Int32))), (.int (own_ix p3 (194 : Int32)))]) (rest := [(.int (own_nxt (own_L3 own_f194 (own_ix p1 (194 : Int32)) (own_ix p2 (194 : Int32)) (own_ix p3 (194 : Int32)) m1 m2 m3) (own_e3 own_f194 (15 : Int64) (own_ix p1 (194 : Int32)) (own_ix p2 (194 : Int32)) (own_ix p3 (194 : Int32)) m1 m2 m3) (194 : Int32) (0 : Int32) 0))]) rfl rfl rfl rfl (leb rfl) (leb rfl) (leb rfl) (leb rfl) (st' := [(.int (own_ref (0 : Int32) (194 : Int32) (own_ix p1 (194 : Int32)) (own_ix p2 (194 : Int32)) (own_ix p3 (194 : Int32)))), (.int (own_nxt (own_L3 own_f194 (own_ix p1 (194 : Int32)) (own_ix p2 (194 : Int32)) (own_ix p3 (194 : Int32)) m1 m2 m3) (own_e3 own_f194 (15 : Int64) (own_ix p1 (194 : Int32)) (own_ix p2 (194 : Int32)) (own_ix p3 (194 : Int32)) m1 m2 m3) (194 : Int32) (0 : Int32) 0))]) rfl (k' := 5) rfl (n' := 15) rfl ?_
      refine H.icmpF s0_151 (own_main q3 rfl (by decide) (by decide) f1 f2 f3 (by decide : (0 : Int32).toInt = ((0 : Nat) : Int)) (by omega)) ?_
      refine H.iconst s0_154 (v := (1 : Int32)) (by decide) ?_
      refine H.goto s0_155 ?_
      refine H.istore s0_159 (ls' := #[.val (.int p0), .val (.int p1), .val (.int p2), .val (.int p3), .val (.int p4), .val (.int (3 : Int32)), .val (.int (2 : Int32)), .val (.int (194 : Int32)), .val (.int (own_ix p1 (194 : Int32))), .val (.int (own_ix p2 (194 : Int32))), .val (.int (own_ix p3 (194 : Int32))), .val (.int ((p4.toUInt32 >>> ((1 : Int32) &&& 31).toUInt32).toInt32 % (196 : Int32))), .val (.ref (n0 + 0)), .val (.int (1 : Int32))]) rfl ?_
      refine H.iload s0_161 rfl ?_
      refine H.ifF s0_163 (show ¬ (1 : Int32) = (0 : Int32) by decide) ?_
      refine H.aload s0_166 rfl rfl ?_
      refine H.iload s0_168 rfl ?_
      refine H.callVD s0_170 (k_31 hw) (m_nxt l hw n0 (own_L3 own_f194 (own_ix p1 (194 : Int32)) (own_ix p2 (194 : Int32)) (own_ix p3 (194 : Int32)) m1 m2 m3) (own_e3 own_f194 (15 : Int64) (own_ix p1 (194 : Int32)) (own_ix p2 (194 : Int32)) (own_ix p3 (194 : Int32)) m1 m2 m3) (194 : Int32) (own_f194.map Value.long) [(.long (15 : Int64))] (own_ix p1 (194 : Int32)) m1 f1 (own_len4 q3 (by decide)) (own_he q3) (own_hz q3)) (i := 0) rfl (argsL := [(.int (own_ix p1 (194 : Int32)))]) (rest := []) rfl rfl rfl rfl (leb rfl) (leb rfl) (leb rfl) (leb rfl) (st' := [(.int (own_nxt (own_L3 own_f194 (own_ix p1 (194 : Int32)) (own_ix p2 (194 : Int32)) (own_ix p3 (194 : Int32)) m1 m2 m3) (own_e3 own_f194 (15 : Int64) (own_ix p1 (194 : Int32)) (own_ix p2 (194 : Int32)) (own_ix p3 (194 : Int32)) m1 m2 m3) (194 : Int32) (own_ix p1 (194 : Int32)) m1))]) rfl (k' := 5) rfl (n' := 15) rfl ?_
      refine H.iload s0_173 rfl ?_
      refine H.iload s0_175 rfl ?_
      refine H.iload s0_177 rfl ?_
      refine H.iload s0_179 rfl ?_
      refine H.iload s0_181 rfl ?_
      refine H.callSD s0_183 (k_32 hw) (m_ref l hw n0 _ (own_ix p1 (194 : Int32)) (194 : Int32) (own_ix p1 (194 : Int32)) (own_ix p2 (194 : Int32)) (own_ix p3 (194 : Int32))) (argsL := [(.int (own_ix p1 (194 : Int32))), (.int (194 : Int32)), (.int (own_ix p1 (194 : Int32))), (.int (own_ix p2 (194 : Int32))), (.int (own_ix p3 (194 : Int32)))]) (rest := [(.int (own_nxt (own_L3 own_f194 (own_ix p1 (194 : Int32)) (own_ix p2 (194 : Int32)) (own_ix p3 (194 : Int32)) m1 m2 m3) (own_e3 own_f194 (15 : Int64) (own_ix p1 (194 : Int32)) (own_ix p2 (194 : Int32)) (own_ix p3 (194 : Int32)) m1 m2 m3) (194 : Int32) (own_ix p1 (194 : Int32)) m1))]) rfl rfl rfl rfl (leb rfl) (leb rfl) (leb rfl) (leb rfl) (st' := [(.int (own_ref (own_ix p1 (194 : Int32)) (194 : Int32) (own_ix p1 (194 : Int32)) (own_ix p2 (194 : Int32)) (own_ix p3 (194 : Int32)))), (.int (own_nxt (own_L3 own_f194 (own_ix p1 (194 : Int32)) (own_ix p2 (194 : Int32)) (own_ix p3 (194 : Int32)) m1 m2 m3) (own_e3 own_f194 (15 : Int64) (own_ix p1 (194 : Int32)) (own_ix p2 (194 : Int32)) (own_ix p3 (194 : Int32)) m1 m2 m3) (194 : Int32) (own_ix p1 (194 : Int32)) m1))]) rfl (k' := 5) rfl (n' := 15) rfl ?_
      refine H.icmpF s0_186 (own_main q3 rfl (by decide) (by decide) f1 f2 f3 f1 (by omega)) ?_
      refine H.iconst s0_189 (v := (1 : Int32)) (by decide) ?_
      refine H.goto s0_190 ?_
      refine H.istore s0_194 (ls' := #[.val (.int p0), .val (.int p1), .val (.int p2), .val (.int p3), .val (.int p4), .val (.int (3 : Int32)), .val (.int (2 : Int32)), .val (.int (194 : Int32)), .val (.int (own_ix p1 (194 : Int32))), .val (.int (own_ix p2 (194 : Int32))), .val (.int (own_ix p3 (194 : Int32))), .val (.int ((p4.toUInt32 >>> ((1 : Int32) &&& 31).toUInt32).toInt32 % (196 : Int32))), .val (.ref (n0 + 0)), .val (.int (1 : Int32))]) rfl ?_
      refine H.iload s0_196 rfl ?_
      refine H.ifF s0_198 (show ¬ (1 : Int32) = (0 : Int32) by decide) ?_
      refine H.aload s0_201 rfl rfl ?_
      refine H.iload s0_203 rfl ?_
      refine H.callVD s0_205 (k_31 hw) (m_nxt l hw n0 (own_L3 own_f194 (own_ix p1 (194 : Int32)) (own_ix p2 (194 : Int32)) (own_ix p3 (194 : Int32)) m1 m2 m3) (own_e3 own_f194 (15 : Int64) (own_ix p1 (194 : Int32)) (own_ix p2 (194 : Int32)) (own_ix p3 (194 : Int32)) m1 m2 m3) (194 : Int32) (own_f194.map Value.long) [(.long (15 : Int64))] (own_ix p2 (194 : Int32)) m2 f2 (own_len4 q3 (by decide)) (own_he q3) (own_hz q3)) (i := 0) rfl (argsL := [(.int (own_ix p2 (194 : Int32)))]) (rest := []) rfl rfl rfl rfl (leb rfl) (leb rfl) (leb rfl) (leb rfl) (st' := [(.int (own_nxt (own_L3 own_f194 (own_ix p1 (194 : Int32)) (own_ix p2 (194 : Int32)) (own_ix p3 (194 : Int32)) m1 m2 m3) (own_e3 own_f194 (15 : Int64) (own_ix p1 (194 : Int32)) (own_ix p2 (194 : Int32)) (own_ix p3 (194 : Int32)) m1 m2 m3) (194 : Int32) (own_ix p2 (194 : Int32)) m2))]) rfl (k' := 5) rfl (n' := 15) rfl ?_
      refine H.iload s0_208 rfl ?_
      refine H.iload s0_210 rfl ?_
      refine H.iload s0_212 rfl ?_
      refine H.iload s0_214 rfl ?_
      refine H.iload s0_216 rfl ?_
      refine H.callSD s0_218 (k_32 hw) (m_ref l hw n0 _ (own_ix p2 (194 : Int32)) (194 : Int32) (own_ix p1 (194 : Int32)) (own_ix p2 (194 : Int32)) (own_ix p3 (194 : Int32))) (argsL := [(.int (own_ix p2 (194 : Int32))), (.int (194 : Int32)), (.int (own_ix p1 (194 : Int32))), (.int (own_ix p2 (194 : Int32))), (.int (own_ix p3 (194 : Int32)))]) (rest := [(.int (own_nxt (own_L3 own_f194 (own_ix p1 (194 : Int32)) (own_ix p2 (194 : Int32)) (own_ix p3 (194 : Int32)) m1 m2 m3) (own_e3 own_f194 (15 : Int64) (own_ix p1 (194 : Int32)) (own_ix p2 (194 : Int32)) (own_ix p3 (194 : Int32)) m1 m2 m3) (194 : Int32) (own_ix p2 (194 : Int32)) m2))]) rfl rfl rfl rfl (leb rfl) (leb rfl) (leb rfl) (leb rfl) (st' := [(.int (own_ref (own_ix p2 (194 : Int32)) (194 : Int32) (own_ix p1 (194 : Int32)) (own_ix p2 (194 : Int32)) (own_ix p3 (194 : Int32)))), (.int (own_nxt (own_L3 own_f194 (own_ix p1 (194 : Int32)) (own_ix p2 (194 : Int32)) (own_ix p3 (194 : Int32)) m1 m2 m3) (own_e3 own_f194 (15 : Int64) (own_ix p1 (194 : Int32)) (own_ix p2 (194 : Int32)) (own_ix p3 (194 : Int32)) m1 m2 m3) (194 : Int32) (own_ix p2 (194 : Int32)) m2))]) rfl (k' := 5) rfl (n' := 15) rfl ?_
      refine H.icmpF s0_221 (own_main q3 rfl (by decide) (by decide) f1 f2 f3 f2 (by omega)) ?_
      refine H.iconst s0_224 (v := (1 : Int32)) (by decide) ?_
      refine H.goto s0_225 ?_
      refine H.istore s0_229 (ls' := #[.val (.int p0), .val (.int p1), .val (.int p2), .val (.int p3), .val (.int p4), .val (.int (3 : Int32)), .val (.int (2 : Int32)), .val (.int (194 : Int32)), .val (.int (own_ix p1 (194 : Int32))), .val (.int (own_ix p2 (194 : Int32))), .val (.int (own_ix p3 (194 : Int32))), .val (.int ((p4.toUInt32 >>> ((1 : Int32) &&& 31).toUInt32).toInt32 % (196 : Int32))), .val (.ref (n0 + 0)), .val (.int (1 : Int32))]) rfl ?_
      refine H.iload s0_231 rfl ?_
      refine H.ifF s0_233 (show ¬ (1 : Int32) = (0 : Int32) by decide) ?_
      refine H.aload s0_236 rfl rfl ?_
      refine H.iload s0_238 rfl ?_
      refine H.callVD s0_240 (k_31 hw) (m_nxt l hw n0 (own_L3 own_f194 (own_ix p1 (194 : Int32)) (own_ix p2 (194 : Int32)) (own_ix p3 (194 : Int32)) m1 m2 m3) (own_e3 own_f194 (15 : Int64) (own_ix p1 (194 : Int32)) (own_ix p2 (194 : Int32)) (own_ix p3 (194 : Int32)) m1 m2 m3) (194 : Int32) (own_f194.map Value.long) [(.long (15 : Int64))] (own_ix p3 (194 : Int32)) m3 f3 (own_len4 q3 (by decide)) (own_he q3) (own_hz q3)) (i := 0) rfl (argsL := [(.int (own_ix p3 (194 : Int32)))]) (rest := []) rfl rfl rfl rfl (leb rfl) (leb rfl) (leb rfl) (leb rfl) (st' := [(.int (own_nxt (own_L3 own_f194 (own_ix p1 (194 : Int32)) (own_ix p2 (194 : Int32)) (own_ix p3 (194 : Int32)) m1 m2 m3) (own_e3 own_f194 (15 : Int64) (own_ix p1 (194 : Int32)) (own_ix p2 (194 : Int32)) (own_ix p3 (194 : Int32)) m1 m2 m3) (194 : Int32) (own_ix p3 (194 : Int32)) m3))]) rfl (k' := 5) rfl (n' := 15) rfl ?_
      refine H.iload s0_243 rfl ?_
      refine H.iload s0_245 rfl ?_
      refine H.iload s0_247 rfl ?_
      refine H.iload s0_249 rfl ?_
      refine H.iload s0_251 rfl ?_
      refine H.callSD s0_253 (k_32 hw) (m_ref l hw n0 _ (own_ix p3 (194 : Int32)) (194 : Int32) (own_ix p1 (194 : Int32)) (own_ix p2 (194 : Int32)) (own_ix p3 (194 : Int32))) (argsL := [(.int (own_ix p3 (194 : Int32))), (.int (194 : Int32)), (.int (own_ix p1 (194 : Int32))), (.int (own_ix p2 (194 : Int32))), (.int (own_ix p3 (194 : Int32)))]) (rest := [(.int (own_nxt (own_L3 own_f194 (own_ix p1 (194 : Int32)) (own_ix p2 (194 : Int32)) (own_ix p3 (194 : Int32)) m1 m2 m3) (own_e3 own_f194 (15 : Int64) (own_ix p1 (194 : Int32)) (own_ix p2 (194 : Int32)) (own_ix p3 (194 : Int32)) m1 m2 m3) (194 : Int32) (own_ix p3 (194 : Int32)) m3))]) rfl rfl rfl rfl (leb rfl) (leb rfl) (leb rfl) (leb rfl) (st' := [(.int (own_ref (own_ix p3 (194 : Int32)) (194 : Int32) (own_ix p1 (194 : Int32)) (own_ix p2 (194 : Int32)) (own_ix p3 (194 : Int32)))), (.int (own_nxt (own_L3 own_f194 (own_ix p1 (194 : Int32)) (own_ix p2 (194 : Int32)) (own_ix p3 (194 : Int32)) m1 m2 m3) (own_e3 own_f194 (15 : Int64) (own_ix p1 (194 : Int32)) (own_ix p2 (194 : Int32)) (own_ix p3 (194 : Int32)) m1 m2 m3) (194 : Int32) (own_ix p3 (194 : Int32)) m3))]) rfl (k' := 5) rfl (n' := 15) rfl ?_
      refine H.icmpF s0_256 (own_main q3 rfl (by decide) (by decide) f1 f2 f3 f3 (by omega)) ?_
      refine H.iconst s0_259 (v := (1 : Int32)) (by decide) ?_
      refine H.goto s0_260 ?_
      refine H.istore s0_264 (ls' := #[.val (.int p0), .val (.int p1), .val (.int p2), .val (.int p3), .val (.int p4), .val (.int (3 : Int32)), .val (.int (2 : Int32)), .val (.int (194 : Int32)), .val (.int (own_ix p1 (194 : Int32))), .val (.int (own_ix p2 (194 : Int32))), .val (.int (own_ix p3 (194 : Int32))), .val (.int ((p4.toUInt32 >>> ((1 : Int32) &&& 31).toUInt32).toInt32 % (196 : Int32))), .val (.ref (n0 + 0)), .val (.int (1 : Int32))]) rfl ?_
      refine H.iload s0_266 rfl ?_
      exact H.ireturn s0_268 rfl (by simp) rfl rfl (by decide) (by decide)
    · refine H.iand s0_9 (w := (3 : Int32)) hz9 ?_
      refine H.istore s0_10 (ls' := #[.val (.int p0), .val (.int p1), .val (.int p2), .val (.int p3), .val (.int p4), .val (.int (3 : Int32)), .val (.int (3 : Int32)), .unset, .unset, .unset, .unset, .unset, .unset, .unset]) rfl ?_
      refine H.iconst s0_12 (v := (1 : Int32)) (by decide) ?_
      refine H.iload s0_13 rfl ?_
      refine H.bipush s0_15 (v := (6 : Int32)) (by decide) ?_
      refine H.ishl s0_17 (w := (192 : Int32)) (by decide) ?_
      refine H.iload s0_18 rfl ?_
      refine H.iadd s0_20 (w := (195 : Int32)) (by decide) ?_
      refine H.callSD s0_21 (k_13 hw) (a_127 l hw n0) (argsL := [(.int (1 : Int32)), (.int (195 : Int32))]) (rest := []) rfl rfl rfl rfl (leb rfl) (leb rfl) (leb rfl) (leb rfl) (st' := [(.int (195 : Int32))]) rfl (k' := 0) rfl (n' := 0) rfl ?_
      refine H.istore s0_24 (ls' := #[.val (.int p0), .val (.int p1), .val (.int p2), .val (.int p3), .val (.int p4), .val (.int (3 : Int32)), .val (.int (3 : Int32)), .val (.int (195 : Int32)), .unset, .unset, .unset, .unset, .unset, .unset]) rfl ?_
      refine H.iloadN s0_26 rfl ?_
      refine H.iload s0_27 rfl ?_
      refine H.callSD s0_29 (k_14 hw) (m_ix l hw n0 _ p1 (195 : Int32) (by decide)) (argsL := [(.int p1), (.int (195 : Int32))]) (rest := []) rfl rfl rfl rfl (leb rfl) (leb rfl) (leb rfl) (leb rfl) (st' := [(.int (own_ix p1 (195 : Int32)))]) rfl (k' := 0) rfl (n' := 0) rfl ?_
      refine H.istore s0_32 (ls' := #[.val (.int p0), .val (.int p1), .val (.int p2), .val (.int p3), .val (.int p4), .val (.int (3 : Int32)), .val (.int (3 : Int32)), .val (.int (195 : Int32)), .val (.int (own_ix p1 (195 : Int32))), .unset, .unset, .unset, .unset, .unset]) rfl ?_
      refine H.iloadN s0_34 rfl ?_
      refine H.iload s0_35 rfl ?_
      refine H.callSD s0_37 (k_14 hw) (m_ix l hw n0 _ p2 (195 : Int32) (by decide)) (argsL := [(.int p2), (.int (195 : Int32))]) (rest := []) rfl rfl rfl rfl (leb rfl) (leb rfl) (leb rfl) (leb rfl) (st' := [(.int (own_ix p2 (195 : Int32)))]) rfl (k' := 0) rfl (n' := 0) rfl ?_
      refine H.istore s0_40 (ls' := #[.val (.int p0), .val (.int p1), .val (.int p2), .val (.int p3), .val (.int p4), .val (.int (3 : Int32)), .val (.int (3 : Int32)), .val (.int (195 : Int32)), .val (.int (own_ix p1 (195 : Int32))), .val (.int (own_ix p2 (195 : Int32))), .unset, .unset, .unset, .unset]) rfl ?_
      refine H.iloadN s0_42 rfl ?_
      refine H.iload s0_43 rfl ?_
      refine H.callSD s0_45 (k_14 hw) (m_ix l hw n0 _ p3 (195 : Int32) (by decide)) (argsL := [(.int p3), (.int (195 : Int32))]) (rest := []) rfl rfl rfl rfl (leb rfl) (leb rfl) (leb rfl) (leb rfl) (st' := [(.int (own_ix p3 (195 : Int32)))]) rfl (k' := 0) rfl (n' := 0) rfl ?_
      refine H.istore s0_48 (ls' := #[.val (.int p0), .val (.int p1), .val (.int p2), .val (.int p3), .val (.int p4), .val (.int (3 : Int32)), .val (.int (3 : Int32)), .val (.int (195 : Int32)), .val (.int (own_ix p1 (195 : Int32))), .val (.int (own_ix p2 (195 : Int32))), .val (.int (own_ix p3 (195 : Int32))), .unset, .unset, .unset]) rfl ?_
      refine H.iload s0_50 rfl ?_
      refine H.iconst s0_52 (v := (1 : Int32)) (by decide) ?_
      refine H.iushr s0_53 rfl ?_
      refine H.iload s0_54 rfl ?_
      refine H.iconst s0_56 (v := (2 : Int32)) (by decide) ?_
      refine H.iadd s0_57 (w := (197 : Int32)) (by decide) ?_
      refine H.irem s0_58 (by decide) (w := ((p4.toUInt32 >>> ((1 : Int32) &&& 31).toUInt32).toInt32 % (197 : Int32))) rfl ?_
      refine H.istore s0_59 (ls' := #[.val (.int p0), .val (.int p1), .val (.int p2), .val (.int p3), .val (.int p4), .val (.int (3 : Int32)), .val (.int (3 : Int32)), .val (.int (195 : Int32)), .val (.int (own_ix p1 (195 : Int32))), .val (.int (own_ix p2 (195 : Int32))), .val (.int (own_ix p3 (195 : Int32))), .val (.int ((p4.toUInt32 >>> ((1 : Int32) &&& 31).toUInt32).toInt32 % (197 : Int32))), .unset, .unset]) rfl ?_
      refine H.new s0_61 (k_15 hw) rfl (by decide) (by decide) (i := 0) rfl (A' := [.inl (0, [(.int (0 : Int32)), .null, .null, .null, .null])]) rfl (k' := 1) rfl (n' := 5) rfl ?_
      refine H.dup s0_64 rfl ?_
      refine H.iload s0_65 rfl ?_
      refine H.callCD s0_67 (k_25 hw) (a_128 l hw n0) (argsL := [(.int (195 : Int32))]) (rest := [(.ref (n0 + 0))]) rfl rfl rfl rfl (leb rfl) (leb rfl) (leb rfl) (leb rfl) (st' := [(.ref (n0 + 0))]) rfl (k' := 5) rfl (n' := 15) rfl ?_
      refine H.astore s0_70 rfl (ls' := #[.val (.int p0), .val (.int p1), .val (.int p2), .val (.int p3), .val (.int p4), .val (.int (3 : Int32)), .val (.int (3 : Int32)), .val (.int (195 : Int32)), .val (.int (own_ix p1 (195 : Int32))), .val (.int (own_ix p2 (195 : Int32))), .val (.int (own_ix p3 (195 : Int32))), .val (.int ((p4.toUInt32 >>> ((1 : Int32) &&& 31).toUInt32).toInt32 % (197 : Int32))), .val (.ref (n0 + 0)), .unset]) rfl ?_
      refine H.aload s0_72 rfl rfl ?_
      refine H.callVD s0_74 (k_29 hw) (a_135 l hw n0) (i := 0) rfl (argsL := []) (rest := []) rfl rfl rfl rfl (leb rfl) (leb rfl) (leb rfl) (leb rfl) (st' := []) rfl (k' := 5) rfl (n' := 15) rfl ?_
      refine H.aload s0_77 rfl rfl ?_
      refine H.iload s0_79 rfl ?_
      obtain ⟨m1, f1, g1⟩ := own_ix_r p1 (195 : Int32) 195 (by decide) (by decide) (by decide)
      obtain ⟨m2, f2, g2⟩ := own_ix_r p2 (195 : Int32) 195 (by decide) (by decide) (by decide)
      obtain ⟨m3, f3, g3⟩ := own_ix_r p3 (195 : Int32) 195 (by decide) (by decide) (by decide)
      obtain ⟨m4, f4, g4⟩ := own_fr_r p4 (197 : Int32) 197 (by decide) (by decide)
      have q0 := inv_195
      obtain ⟨q1, q2, q3⟩ := own_inv3 q0 (by decide) (by decide) f1 f2 f3 g1 g2 g3
      refine H.callVD s0_81 (k_30 hw) (m_rem l hw n0 own_f195 (15 : Int64) (195 : Int32) (own_f195.map Value.long) [(.long (15 : Int64))] (own_ix p1 (195 : Int32)) m1 f1 (own_len q0 (by omega)) (own_len4 q0 (by decide))) (i := 0) rfl (argsL := [(.int (own_ix p1 (195 : Int32)))]) (rest := []) rfl rfl rfl rfl (leb rfl) (leb rfl) (leb rfl) (leb rfl) (st' := []) rfl (k' := 5) rfl (n' := 15) rfl ?_
      refine H.aload s0_84 rfl rfl ?_
      refine H.iload s0_86 rfl ?_
      refine H.callVD s0_88 (k_30 hw) (m_rem l hw n0 (own_Lr own_f195 (own_ix p1 (195 : Int32)) m1) (own_e own_f195 (15 : Int64) (own_ix p1 (195 : Int32)) m1) (195 : Int32) (own_f195.map Value.long) [(.long (15 : Int64))] (own_ix p2 (195 : Int32)) m2 f2 (own_len q1 (by omega)) (own_len4 q1 (by decide))) (i := 0) rfl (argsL := [(.int (own_ix p2 (195 : Int32)))]) (rest := []) rfl rfl rfl rfl (leb rfl) (leb rfl) (leb rfl) (leb rfl) (st' := []) rfl (k' := 5) rfl (n' := 15) rfl ?_
      refine H.aload s0_91 rfl rfl ?_
      refine H.iload s0_93 rfl ?_
      refine H.callVD s0_95 (k_30 hw) (m_rem l hw n0 (own_L2 own_f195 (own_ix p1 (195 : Int32)) (own_ix p2 (195 : Int32)) m1 m2) (own_e2 own_f195 (15 : Int64) (own_ix p1 (195 : Int32)) (own_ix p2 (195 : Int32)) m1 m2) (195 : Int32) (own_f195.map Value.long) [(.long (15 : Int64))] (own_ix p3 (195 : Int32)) m3 f3 (own_len q2 (by omega)) (own_len4 q2 (by decide))) (i := 0) rfl (argsL := [(.int (own_ix p3 (195 : Int32)))]) (rest := []) rfl rfl rfl rfl (leb rfl) (leb rfl) (leb rfl) (leb rfl) (st' := []) rfl (k' := 5) rfl (n' := 15) rfl ?_
      refine H.aload s0_98 rfl rfl ?_
      refine H.iload s0_100 rfl ?_
      refine H.callVD s0_102 (k_31 hw) (m_nxt l hw n0 (own_L3 own_f195 (own_ix p1 (195 : Int32)) (own_ix p2 (195 : Int32)) (own_ix p3 (195 : Int32)) m1 m2 m3) (own_e3 own_f195 (15 : Int64) (own_ix p1 (195 : Int32)) (own_ix p2 (195 : Int32)) (own_ix p3 (195 : Int32)) m1 m2 m3) (195 : Int32) (own_f195.map Value.long) [(.long (15 : Int64))] ((p4.toUInt32 >>> ((1 : Int32) &&& 31).toUInt32).toInt32 % (197 : Int32)) m4 f4 (own_len4 q3 (by decide)) (own_he q3) (own_hz q3)) (i := 0) rfl (argsL := [(.int ((p4.toUInt32 >>> ((1 : Int32) &&& 31).toUInt32).toInt32 % (197 : Int32)))]) (rest := []) rfl rfl rfl rfl (leb rfl) (leb rfl) (leb rfl) (leb rfl) (st' := [(.int (own_nxt (own_L3 own_f195 (own_ix p1 (195 : Int32)) (own_ix p2 (195 : Int32)) (own_ix p3 (195 : Int32)) m1 m2 m3) (own_e3 own_f195 (15 : Int64) (own_ix p1 (195 : Int32)) (own_ix p2 (195 : Int32)) (own_ix p3 (195 : Int32)) m1 m2 m3) (195 : Int32) ((p4.toUInt32 >>> ((1 : Int32) &&& 31).toUInt32).toInt32 % (197 : Int32)) m4))]) rfl (k' := 5) rfl (n' := 15) rfl ?_
      refine H.iload s0_105 rfl ?_
      refine H.iload s0_107 rfl ?_
      refine H.iload s0_109 rfl ?_
      refine H.iload s0_111 rfl ?_
      refine H.iload s0_113 rfl ?_
      refine H.callSD s0_115 (k_32 hw) (m_ref l hw n0 _ ((p4.toUInt32 >>> ((1 : Int32) &&& 31).toUInt32).toInt32 % (197 : Int32)) (195 : Int32) (own_ix p1 (195 : Int32)) (own_ix p2 (195 : Int32)) (own_ix p3 (195 : Int32))) (argsL := [(.int ((p4.toUInt32 >>> ((1 : Int32) &&& 31).toUInt32).toInt32 % (197 : Int32))), (.int (195 : Int32)), (.int (own_ix p1 (195 : Int32))), (.int (own_ix p2 (195 : Int32))), (.int (own_ix p3 (195 : Int32)))]) (rest := [(.int (own_nxt (own_L3 own_f195 (own_ix p1 (195 : Int32)) (own_ix p2 (195 : Int32)) (own_ix p3 (195 : Int32)) m1 m2 m3) (own_e3 own_f195 (15 : Int64) (own_ix p1 (195 : Int32)) (own_ix p2 (195 : Int32)) (own_ix p3 (195 : Int32)) m1 m2 m3) (195 : Int32) ((p4.toUInt32 >>> ((1 : Int32) &&& 31).toUInt32).toInt32 % (197 : Int32)) m4))]) rfl rfl rfl rfl (leb rfl) (leb rfl) (leb rfl) (leb rfl) (st' := [(.int (own_ref ((p4.toUInt32 >>> ((1 : Int32) &&& 31).toUInt32).toInt32 % (197 : Int32)) (195 : Int32) (own_ix p1 (195 : Int32)) (own_ix p2 (195 : Int32)) (own_ix p3 (195 : Int32)))), (.int (own_nxt (own_L3 own_f195 (own_ix p1 (195 : Int32)) (own_ix p2 (195 : Int32)) (own_ix p3 (195 : Int32)) m1 m2 m3) (own_e3 own_f195 (15 : Int64) (own_ix p1 (195 : Int32)) (own_ix p2 (195 : Int32)) (own_ix p3 (195 : Int32)) m1 m2 m3) (195 : Int32) ((p4.toUInt32 >>> ((1 : Int32) &&& 31).toUInt32).toInt32 % (197 : Int32)) m4))]) rfl (k' := 5) rfl (n' := 15) rfl ?_
      refine H.icmpF s0_118 (own_main q3 rfl (by decide) (by decide) f1 f2 f3 f4 (by omega)) ?_
      refine H.iconst s0_121 (v := (1 : Int32)) (by decide) ?_
      refine H.goto s0_122 ?_
      refine H.istore s0_126 (ls' := #[.val (.int p0), .val (.int p1), .val (.int p2), .val (.int p3), .val (.int p4), .val (.int (3 : Int32)), .val (.int (3 : Int32)), .val (.int (195 : Int32)), .val (.int (own_ix p1 (195 : Int32))), .val (.int (own_ix p2 (195 : Int32))), .val (.int (own_ix p3 (195 : Int32))), .val (.int ((p4.toUInt32 >>> ((1 : Int32) &&& 31).toUInt32).toInt32 % (197 : Int32))), .val (.ref (n0 + 0)), .val (.int (1 : Int32))]) rfl ?_
      refine H.iload s0_128 rfl ?_
      refine H.ifF s0_130 (show ¬ (1 : Int32) = (0 : Int32) by decide) ?_
      refine H.aload s0_133 rfl rfl ?_
      refine H.iconst s0_135 (v := (0 : Int32)) (by decide) ?_
      refine H.callVD s0_136 (k_31 hw) (m_nxt l hw n0 (own_L3 own_f195 (own_ix p1 (195 : Int32)) (own_ix p2 (195 : Int32)) (own_ix p3 (195 : Int32)) m1 m2 m3) (own_e3 own_f195 (15 : Int64) (own_ix p1 (195 : Int32)) (own_ix p2 (195 : Int32)) (own_ix p3 (195 : Int32)) m1 m2 m3) (195 : Int32) (own_f195.map Value.long) [(.long (15 : Int64))] (0 : Int32) 0 (by decide : (0 : Int32).toInt = ((0 : Nat) : Int)) (own_len4 q3 (by decide)) (own_he q3) (own_hz q3)) (i := 0) rfl (argsL := [(.int (0 : Int32))]) (rest := []) rfl rfl rfl rfl (leb rfl) (leb rfl) (leb rfl) (leb rfl) (st' := [(.int (own_nxt (own_L3 own_f195 (own_ix p1 (195 : Int32)) (own_ix p2 (195 : Int32)) (own_ix p3 (195 : Int32)) m1 m2 m3) (own_e3 own_f195 (15 : Int64) (own_ix p1 (195 : Int32)) (own_ix p2 (195 : Int32)) (own_ix p3 (195 : Int32)) m1 m2 m3) (195 : Int32) (0 : Int32) 0))]) rfl (k' := 5) rfl (n' := 15) rfl ?_
      refine H.iconst s0_139 (v := (0 : Int32)) (by decide) ?_
      refine H.iload s0_140 rfl ?_
      refine H.iload s0_142 rfl ?_
      refine H.iload s0_144 rfl ?_
      refine H.iload s0_146 rfl ?_
      refine H.callSD s0_148 (k_32 hw) (m_ref l hw n0 _ (0 : Int32) (195 : Int32) (own_ix p1 (195 : Int32)) (own_ix p2 (195 : Int32)) (own_ix p3 (195 : Int32))) (argsL := [(.int (0 : Int32)), (.int (195 : Int32)), (.int (own_ix p1 (195 : Int32))), (.int (own_ix p2 (195 : Int32))), (.int (own_ix p3 (195 : Int32)))]) (rest := [(.int (own_nxt (own_L3 own_f195 (own_ix p1 (195 : Int32)) (own_ix p2 (195 : Int32)) (own_ix p3 (195 : Int32)) m1 m2 m3) (own_e3 own_f195 (15 : Int64) (own_ix p1 (195 : Int32)) (own_ix p2 (195 : Int32)) (own_ix p3 (195 : Int32)) m1 m2 m3) (195 : Int32) (0 : Int32) 0))]) rfl rfl rfl rfl (leb rfl) (leb rfl) (leb rfl) (leb rfl) (st' := [(.int (own_ref (0 : Int32) (195 : Int32) (own_ix p1 (195 : Int32)) (own_ix p2 (195 : Int32)) (own_ix p3 (195 : Int32)))), (.int (own_nxt (own_L3 own_f195 (own_ix p1 (195 : Int32)) (own_ix p2 (195 : Int32)) (own_ix p3 (195 : Int32)) m1 m2 m3) (own_e3 own_f195 (15 : Int64) (own_ix p1 (195 : Int32)) (own_ix p2 (195 : Int32)) (own_ix p3 (195 : Int32)) m1 m2 m3) (195 : Int32) (0 : Int32) 0))]) rfl (k' := 5) rfl (n' := 15) rfl ?_
      refine H.icmpF s0_151 (own_main q3 rfl (by decide) (by decide) f1 f2 f3 (by decide : (0 : Int32).toInt = ((0 : Nat) : Int)) (by omega)) ?_
      refine H.iconst s0_154 (v := (1 : Int32)) (by decide) ?_
      refine H.goto s0_155 ?_
      refine H.istore s0_159 (ls' := #[.val (.int p0), .val (.int p1), .val (.int p2), .val (.int p3), .val (.int p4), .val (.int (3 : Int32)), .val (.int (3 : Int32)), .val (.int (195 : Int32)), .val (.int (own_ix p1 (195 : Int32))), .val (.int (own_ix p2 (195 : Int32))), .val (.int (own_ix p3 (195 : Int32))), .val (.int ((p4.toUInt32 >>> ((1 : Int32) &&& 31).toUInt32).toInt32 % (197 : Int32))), .val (.ref (n0 + 0)), .val (.int (1 : Int32))]) rfl ?_
      refine H.iload s0_161 rfl ?_
      refine H.ifF s0_163 (show ¬ (1 : Int32) = (0 : Int32) by decide) ?_
      refine H.aload s0_166 rfl rfl ?_
      refine H.iload s0_168 rfl ?_
      refine H.callVD s0_170 (k_31 hw) (m_nxt l hw n0 (own_L3 own_f195 (own_ix p1 (195 : Int32)) (own_ix p2 (195 : Int32)) (own_ix p3 (195 : Int32)) m1 m2 m3) (own_e3 own_f195 (15 : Int64) (own_ix p1 (195 : Int32)) (own_ix p2 (195 : Int32)) (own_ix p3 (195 : Int32)) m1 m2 m3) (195 : Int32) (own_f195.map Value.long) [(.long (15 : Int64))] (own_ix p1 (195 : Int32)) m1 f1 (own_len4 q3 (by decide)) (own_he q3) (own_hz q3)) (i := 0) rfl (argsL := [(.int (own_ix p1 (195 : Int32)))]) (rest := []) rfl rfl rfl rfl (leb rfl) (leb rfl) (leb rfl) (leb rfl) (st' := [(.int (own_nxt (own_L3 own_f195 (own_ix p1 (195 : Int32)) (own_ix p2 (195 : Int32)) (own_ix p3 (195 : Int32)) m1 m2 m3) (own_e3 own_f195 (15 : Int64) (own_ix p1 (195 : Int32)) (own_ix p2 (195 : Int32)) (own_ix p3 (195 : Int32)) m1 m2 m3) (195 : Int32) (own_ix p1 (195 : Int32)) m1))]) rfl (k' := 5) rfl (n' := 15) rfl ?_
      refine H.iload s0_173 rfl ?_
      refine H.iload s0_175 rfl ?_
      refine H.iload s0_177 rfl ?_
      refine H.iload s0_179 rfl ?_
      refine H.iload s0_181 rfl ?_
      refine H.callSD s0_183 (k_32 hw) (m_ref l hw n0 _ (own_ix p1 (195 : Int32)) (195 : Int32) (own_ix p1 (195 : Int32)) (own_ix p2 (195 : Int32)) (own_ix p3 (195 : Int32))) (argsL := [(.int (own_ix p1 (195 : Int32))), (.int (195 : Int32)), (.int (own_ix p1 (195 : Int32))), (.int (own_ix p2 (195 : Int32))), (.int (own_ix p3 (195 : Int32)))]) (rest := [(.int (own_nxt (own_L3 own_f195 (own_ix p1 (195 : Int32)) (own_ix p2 (195 : Int32)) (own_ix p3 (195 : Int32)) m1 m2 m3) (own_e3 own_f195 (15 : Int64) (own_ix p1 (195 : Int32)) (own_ix p2 (195 : Int32)) (own_ix p3 (195 : Int32)) m1 m2 m3) (195 : Int32) (own_ix p1 (195 : Int32)) m1))]) rfl rfl rfl rfl (leb rfl) (leb rfl) (leb rfl) (leb rfl) (st' := [(.int (own_ref (own_ix p1 (195 : Int32)) (195 : Int32) (own_ix p1 (195 : Int32)) (own_ix p2 (195 : Int32)) (own_ix p3 (195 : Int32)))), (.int (own_nxt (own_L3 own_f195 (own_ix p1 (195 : Int32)) (own_ix p2 (195 : Int32)) (own_ix p3 (195 : Int32)) m1 m2 m3) (own_e3 own_f195 (15 : Int64) (own_ix p1 (195 : Int32)) (own_ix p2 (195 : Int32)) (own_ix p3 (195 : Int32)) m1 m2 m3) (195 : Int32) (own_ix p1 (195 : Int32)) m1))]) rfl (k' := 5) rfl (n' := 15) rfl ?_
      refine H.icmpF s0_186 (own_main q3 rfl (by decide) (by decide) f1 f2 f3 f1 (by omega)) ?_
      refine H.iconst s0_189 (v := (1 : Int32)) (by decide) ?_
      refine H.goto s0_190 ?_
      refine H.istore s0_194 (ls' := #[.val (.int p0), .val (.int p1), .val (.int p2), .val (.int p3), .val (.int p4), .val (.int (3 : Int32)), .val (.int (3 : Int32)), .val (.int (195 : Int32)), .val (.int (own_ix p1 (195 : Int32))), .val (.int (own_ix p2 (195 : Int32))), .val (.int (own_ix p3 (195 : Int32))), .val (.int ((p4.toUInt32 >>> ((1 : Int32) &&& 31).toUInt32).toInt32 % (197 : Int32))), .val (.ref (n0 + 0)), .val (.int (1 : Int32))]) rfl ?_
      refine H.iload s0_196 rfl ?_
      refine H.ifF s0_198 (show ¬ (1 : Int32) = (0 : Int32) by decide) ?_
      refine H.aload s0_201 rfl rfl ?_
      refine H.iload s0_203 rfl ?_
      refine H.callVD s0_205 (k_31 hw) (m_nxt l hw n0 (own_L3 own_f195 (own_ix p1 (195 : Int32)) (own_ix p2 (195 : Int32)) (own_ix p3 (195 : Int32)) m1 m2 m3) (own_e3 own_f195 (15 : Int64) (own_ix p1 (195 : Int32)) (own_ix p2 (195 : Int32)) (own_ix p3 (195 : Int32)) m1 m2 m3) (195 : Int32) (own_f195.map Value.long) [(.long (15 : Int64))] (own_ix p2 (195 : Int32)) m2 f2 (own_len4 q3 (by decide)) (own_he q3) (own_hz q3)) (i := 0) rfl (argsL := [(.int (own_ix p2 (195 : Int32)))]) (rest := []) rfl rfl rfl rfl (leb rfl) (leb rfl) (leb rfl) (leb rfl) (st' := [(.int (own_nxt (own_L3 own_f195 (own_ix p1 (195 : Int32)) (own_ix p2 (195 : Int32)) (own_ix p3 (195 : Int32)) m1 m2 m3) (own_e3 own_f195 (15 : Int64) (own_ix p1 (195 : Int32)) (own_ix p2 (195 : Int32)) (own_ix p3 (195 : Int32)) m1 m2 m3) (195 : Int32) (own_ix p2 (195 : Int32)) m2))]) rfl (k' := 5) rfl (n' := 15) rfl ?_
      refine H.iload s0_208 rfl ?_
      refine H.iload s0_210 rfl ?_
      refine H.iload s0_212 rfl ?_
      refine H.iload s0_214 rfl ?_
      refine H.iload s0_216 rfl ?_
      refine H.callSD s0_218 (k_32 hw) (m_ref l hw n0 _ (own_ix p2 (195 : Int32)) (195 : Int32) (own_ix p1 (195 : Int32)) (own_ix p2 (195 : Int32)) (own_ix p3 (195 : Int32))) (argsL := [(.int (own_ix p2 (195 : Int32))), (.int (195 : Int32)), (.int (own_ix p1 (195 : Int32))), (.int (own_ix p2 (195 : Int32))), (.int (own_ix p3 (195 : Int32)))]) (rest := [(.int (own_nxt (own_L3 own_f195 (own_ix p1 (195 : Int32)) (own_ix p2 (195 : Int32)) (own_ix p3 (195 : Int32)) m1 m2 m3) (own_e3 own_f195 (15 : Int64) (own_ix p1 (195 : Int32)) (own_ix p2 (195 : Int32)) (own_ix p3 (195 : Int32)) m1 m2 m3) (195 : Int32) (own_ix p2 (195 : Int32)) m2))]) rfl rfl rfl rfl (leb rfl) (leb rfl) (leb rfl) (leb rfl) (st' := [(.int (own_ref (own_ix p2 (195 : Int32)) (195 : Int32) (own_ix p1 (195 : Int32)) (own_ix p2 (195 : Int32)) (own_ix p3 (195 : Int32)))), (.int (own_nxt (own_L3 own_f195 (own_ix p1 (195 : Int32)) (own_ix p2 (195 : Int32)) (own_ix p3 (195 : Int32)) m1 m2 m3) (own_e3 own_f195 (15 : Int64) (own_ix p1 (195 : Int32)) (own_ix p2 (195 : Int32)) (own_ix p3 (195 : Int32)) m1 m2 m3) (195 : Int32) (own_ix p2 (195 : Int32)) m2))]) rfl (k' := 5) rfl (n' := 15) rfl ?_
      refine H.icmpF s0_221 (own_main q3 rfl (by decide) (by decide) f1 f2 f3 f2 (by omega)) ?_
      refine H.iconst s0_224 (v := (1 : Int32)) (by decide) ?_
      refine H.goto s0_225 ?_
      refine H.istore s0_229 (ls' := #[.val (.int p0), .val (.int p1), .val (.int p2), .val (.int p3), .val (.int p4), .val (.int (3 : Int32)), .val (.int (3 : Int32)), .val (.int (195 : Int32)), .val (.int (own_ix p1 (195 : Int32))), .val (.int (own_ix p2 (195 : Int32))), .val (.int (own_ix p3 (195 : Int32))), .val (.int ((p4.toUInt32 >>> ((1 : Int32) &&& 31).toUInt32).toInt32 % (197 : Int32))), .val (.ref (n0 + 0)), .val (.int (1 : Int32))]) rfl ?_
      refine H.iload s0_231 rfl ?_
      refine H.ifF s0_233 (show ¬ (1 : Int32) = (0 : Int32) by decide) ?_
      refine H.aload s0_236 rfl rfl ?_
      refine H.iload s0_238 rfl ?_
      refine H.callVD s0_240 (k_31 hw) (m_nxt l hw n0 (own_L3 own_f195 (own_ix p1 (195 : Int32)) (own_ix p2 (195 : Int32)) (own_ix p3 (195 : Int32)) m1 m2 m3) (own_e3 own_f195 (15 : Int64) (own_ix p1 (195 : Int32)) (own_ix p2 (195 : Int32)) (own_ix p3 (195 : Int32)) m1 m2 m3) (195 : Int32) (own_f195.map Value.long) [(.long (15 : Int64))] (own_ix p3 (195 : Int32)) m3 f3 (own_len4 q3 (by decide)) (own_he q3) (own_hz q3)) (i := 0) rfl (argsL := [(.int (own_ix p3 (195 : Int32)))]) (rest := []) rfl rfl rfl rfl (leb rfl) (leb rfl) (leb rfl) (leb rfl) (st' := [(.int (own_nxt (own_L3 own_f195 (own_ix p1 (195 : Int32)) (own_ix p2 (195 : Int32)) (own_ix p3 (195 : Int32)) m1 m2 m3) (own_e3 own_f195 (15 : Int64) (own_ix p1 (195 : Int32)) (own_ix p2 (195 : Int32)) (own_ix p3 (195 : Int32)) m1 m2 m3) (195 : Int32) (own_ix p3 (195 : Int32)) m3))]) rfl (k' := 5) rfl (n' := 15) rfl ?_
      refine H.iload s0_243 rfl ?_
      refine H.iload s0_245 rfl ?_
      refine H.iload s0_247 rfl ?_
      refine H.iload s0_249 rfl ?_
      refine H.iload s0_251 rfl ?_
      refine H.callSD s0_253 (k_32 hw) (m_ref l hw n0 _ (own_ix p3 (195 : Int32)) (195 : Int32) (own_ix p1 (195 : Int32)) (own_ix p2 (195 : Int32)) (own_ix p3 (195 : Int32))) (argsL := [(.int (own_ix p3 (195 : Int32))), (.int (195 : Int32)), (.int (own_ix p1 (195 : Int32))), (.int (own_ix p2 (195 : Int32))), (.int (own_ix p3 (195 : Int32)))]) (rest := [(.int (own_nxt (own_L3 own_f195 (own_ix p1 (195 : Int32)) (own_ix p2 (195 : Int32)) (own_ix p3 (195 : Int32)) m1 m2 m3) (own_e3 own_f195 (15 : Int64) (own_ix p1 (195 : Int32)) (own_ix p2 (195 : Int32)) (own_ix p3 (195 : Int32)) m1 m2 m3) (195 : Int32) (own_ix p3 (195 : Int32)) m3))]) rfl rfl rfl rfl (leb rfl) (leb rfl) (leb rfl) (leb rfl) (st' := [(.int (own_ref (own_ix p3 (195 : Int32)) (195 : Int32) (own_ix p1 (195 : Int32)) (own_ix p2 (195 : Int32)) (own_ix p3 (195 : Int32)))), (.int (own_nxt (own_L3 own_f195 (own_ix p1 (195 : Int32)) (own_ix p2 (195 : Int32)) (own_ix p3 (195 : Int32)) m1 m2 m3) (own_e3 own_f195 (15 : Int64) (own_ix p1 (195 : Int32)) (own_ix p2 (195 : Int32)) (own_ix p3 (195 : Int32)) m1 m2 m3) (195 : Int32) (own_ix p3 (195 : Int32)) m3))]) rfl (k' := 5) rfl (n' := 15) rfl ?_
      refine H.icmpF s0_256 (own_main q3 rfl (by decide) (by decide) f1 f2 f3 f3 (by omega)) ?_
      refine H.iconst s0_259 (v := (1 : Int32)) (by decide) ?_
      refine H.goto s0_260 ?_
      refine H.istore s0_264 (ls' := #[.val (.int p0), .val (.int p1), .val (.int p2), .val (.int p3), .val (.int p4), .val (.int (3 : Int32)), .val (.int (3 : Int32)), .val (.int (195 : Int32)), .val (.int (own_ix p1 (195 : Int32))), .val (.int (own_ix p2 (195 : Int32))), .val (.int (own_ix p3 (195 : Int32))), .val (.int ((p4.toUInt32 >>> ((1 : Int32) &&& 31).toUInt32).toInt32 % (197 : Int32))), .val (.ref (n0 + 0)), .val (.int (1 : Int32))]) rfl ?_
      refine H.iload s0_266 rfl ?_
      exact H.ireturn s0_268 rfl (by simp) rfl rfl (by decide) (by decide)

theorem comes_1 {Post : Tables → Env → Array Value → State → Outcome → State → Prop} (hpost : ∀ tb e args s v u, (limb_1_1.after args s (.returned v) u = true ∧ limb_1_2.after args s (.returned v) u = true ∧ True) → FrameEnd s (.returned v) u (Jvm.fieldLocs frame_1_writes args s ++ Jvm.arrayLocs frame_1_arrays args s ++ Jvm.staticLocs frame_1_statics s) 24 128 → Post tb e args s (.returned v) u) :
    ArmFor flags0 classFile x code maxLocals ret World_1 tables_1 room_1 Calls_1 rest_1 Pre_1 Post := by
  intro l hfl _ _ p e ha hc hk s m args below hf hA hF happ hP
  obtain ⟨hcalls, hrest, hpre⟩ := hP
  obtain ⟨-, -, -, hnamed, -, -, -, hat⟩ := (Spec.applies_iff hf).mp happ
  obtain ⟨hg, hn⟩ := and_e (Cond.before_iff.mp (show (Jvm.Cond.and given_1 narrow_1).before args s = true from hpre))
  obtain ⟨hc0, hr0⟩ := and_e hg
  obtain ⟨w0, w1, w2, w3, w4, rfl⟩ : ∃ w0 w1 w2 w3 w4 : Value, args = #[w0, w1, w2, w3, w4] := by
    have hs : args.size = 5 := by simpa [Cond.value, given_1] using hc0
    obtain ⟨L⟩ := args
    match L, hs with
    | [w0, w1, w2, w3, w4], _ => exact ⟨w0, w1, w2, w3, w4, rfl⟩
  have hw : HW1 s _ := fun d (hd : d ∈ tables_1) => atoms_spec (ws := Jvm.Cond.code x code maxLocals ret :: tables_1) hat d (List.mem_cons_of_mem _ hd)
  obtain ⟨hx0, hr1⟩ := and_e hr0
  obtain ⟨i0, ee0⟩ := is_v hx0
  obtain rfl : w0 = (.int i0) := Option.some.inj ee0
  obtain ⟨hx1, hr2⟩ := and_e hr1
  obtain ⟨i1, ee1⟩ := is_v hx1
  obtain rfl : w1 = (.int i1) := Option.some.inj ee1
  obtain ⟨hx2, hr3⟩ := and_e hr2
  obtain ⟨i2, ee2⟩ := is_v hx2
  obtain rfl : w2 = (.int i2) := Option.some.inj ee2
  obtain ⟨hx3, hr4⟩ := and_e hr3
  obtain ⟨i3, ee3⟩ := is_v hx3
  obtain rfl : w3 = (.int i3) := Option.some.inj ee3
  have hx4 := hr4
  obtain ⟨i4, ee4⟩ := is_v hx4
  obtain rfl : w4 = (.int i4) := Option.some.inj ee4
  obtain ⟨n, o, h1, h2, h3, _, L, rfl, ⟨A', rfl, hRel, N⟩, hq⟩ := law_met l hw s.heap.size i0 i1 i2 i3 i4 tables_1 s.heap ⟨rfl, fun i o h => by simp at h⟩ p e ha hc hk s m _ below hf ((Spec.applies_iff_loose hf).mp happ).1 ⟨rfl, State.Warmed39.refl s, rfl⟩ trivial
  refine ⟨n, _, h1, h2, h3, hpost _ _ _ _ _ _ ⟨Cond.after_iff.mpr rfl, Cond.after_iff.mpr (eq_i res_at (Term.int_eval (1)) rfl), trivial⟩ ⟨hq.1, hq.2.1, (hq.2.2.sift fun y hy => Or.inr (N y hy)).mono (by decide) (by decide)⟩⟩
theorem main_1_1 : Claimed_1_1 := comes_1 fun _ _ _ _ _ _ h hF => ⟨h.1, hF⟩
theorem main_1_2 : Claimed_1_2 := comes_1 fun _ _ _ _ _ _ h hF => ⟨h.2.1, hF⟩
end Jvm.Pilot.@@N@@
namespace Jvm.Pilot.@@N@@
open Jvm Jvm.ClassFile Sem Op Lib Jvm.Free Jvm.Stand Jvm.Pilot.@@N@@.Jvm.D
/-! MADE BY PROGRAM (witnessworld.py) out of the Statement's table words and the real class files: 19 classes; the members and pool entries that the words name. The judged class is class 1, her method 4. -/
namespace start1
open Jvm.ClassFile
def u (s : String) : CpInfo := .utf8 (stringToUtf16 s)
/-- a pool by its gaps: so many unusable entries, then the entry; so many at the end -/
def gap : Nat → List CpInfo → List CpInfo
  | 0, r => r
  | n + 1, r => .unusable :: gap n r
def poolList (es : List (Nat × CpInfo)) (last : Nat) : List CpInfo := es.foldr (fun e r => gap e.1 (e.2 :: r)) (gap last [])
def pool (es : List (Nat × CpInfo)) (last : Nat) : Array CpInfo := ⟨poolList es last⟩
def fileOf (pool : Array CpInfo) (this : Nat) (attrs : Array Attribute := #[]) (ms : Array MethodInfo := #[]) (fl : Nat := 33) (sup : Nat := 0) (ifs : Array Nat := #[]) (fds : Array FieldInfo := #[]) : ClassFile where
  minorVersion := 0
  majorVersion := 65
  constantPool := pool
  accessFlags := fl
  thisClass := this
  superClass := sup
  interfaces := ifs
  fields := fds
  methods := ms
  attributes := attrs
def plain (name : String) (sup : Option ClassId) : Class where
  name := name
  kind := .ordinary
  loader := none
  accessFlags := 33
  super := sup
  interfaces := #[]
  cf := none
  fields := #[]
  methods := #[]
  instanceTypes := #[]
  staticTypes := #[]
  resolved := #[]
  callSites := []
  init := .initialized
  statics := none
  mirror := none

def pool0 : Array CpInfo := pool [(5, u "<init>"), (0, u "()V"), (1, .class_ 10), (1, u "java/lang/Object")] 113

def k0c0 : Code := { maxStack := 0, maxLocals := 1, code := object_method_1_code, exceptionTable := #[], attributes := #[] }
def k0m0 : Method := { name := "<init>", desc := "()V", sig := { parameters := [], returnType := none }, accessFlags := 1, code := some k0c0 }
/-- java/lang/Object -/
def k0 : Class := { plain "java/lang/Object" none with
  accessFlags := 33
  interfaces := #[]
  cf := some (fileOf pool0 8 #[] #[{ accessFlags := 1, nameIndex := 5, descriptorIndex := 6, attributes := #[] }] 33 0 #[] #[])
  fields := #[]
  methods := #[k0m0]
  instanceTypes := #[]
  staticTypes := #[]
  resolved := Array.replicate 124 none
  statics := none }

def pool1 : Array CpInfo := pool [(2, .class_ 4), (1, u "java/lang/Object"), (0, u "<init>"), (0, u "()V"), (0, .methodref 8 9), (0, .class_ 10), (0, .nameAndType 11 12), (0, u "java/lang/Math"), (0, u "max"), (0, u "(II)I"), (0, .methodref 14 15), (0, .class_ 16), (0, .nameAndType 17 18), (0, u "com/example/wavegrant/wavegrant/IndexSetRemovePinLaw"), (0, u "step"), (0, u "(IIII)I"), (0, .methodref 14 20), (0, .nameAndType 21 12), (0, u "idx"), (0, .class_ 23), (0, u "com/example/wavegrant/wavegrant/IndexSet"), (0, .methodref 22 25), (0, .nameAndType 5 26), (0, u "(I)V"), (0, .methodref 22 28), (0, .nameAndType 29 6), (0, u "fill"), (0, .methodref 22 31), (0, .nameAndType 32 26), (0, u "remove"), (0, .methodref 22 34), (0, .nameAndType 35 36), (0, u "next"), (0, u "(I)I"), (0, .methodref 14 38), (0, .nameAndType 39 40), (0, u "ref"), (0, u "(IIIII)I"), (3, u "law"), (0, u "(IIIII)Z")] 2

def k1m0 : Method := { name := "<init>", desc := "()V", sig := { parameters := [], returnType := none }, accessFlags := 2, code := none }
def k1c1 : Code := { maxStack := 4, maxLocals := 2, code := method_2_code, exceptionTable := #[], attributes := #[] }
def k1m1 : Method := { name := "idx", desc := "(II)I", sig := { parameters := [.int, .int], returnType := some .int }, accessFlags := 10, code := some k1c1 }
def k1c2 : Code := { maxStack := 2, maxLocals := 4, code := method_3_code, exceptionTable := #[], attributes := #[] }
def k1m2 : Method := { name := "step", desc := "(IIII)I", sig := { parameters := [.int, .int, .int, .int], returnType := some .int }, accessFlags := 10, code := some k1c2 }
def k1c3 : Code := { maxStack := 4, maxLocals := 6, code := method_4_code, exceptionTable := #[], attributes := #[] }
def k1m3 : Method := { name := "ref", desc := "(IIIII)I", sig := { parameters := [.int, .int, .int, .int, .int], returnType := some .int }, accessFlags := 10, code := some k1c3 }
def k1c4 : Code := { maxStack := 6, maxLocals := 14, code := code, exceptionTable := #[], attributes := #[] }
def k1m4 : Method := { name := "law", desc := "(IIIII)Z", sig := { parameters := [.int, .int, .int, .int, .int], returnType := some .boolean }, accessFlags := 9, code := some k1c4 }
/-- com/example/wavegrant/wavegrant/IndexSetRemovePinLaw -/
def k1 : Class := { plain "com/example/wavegrant/wavegrant/IndexSetRemovePinLaw" (some 0) with
  accessFlags := 49
  interfaces := #[]
  cf := some (fileOf pool1 14 #[] #[{ accessFlags := 2, nameIndex := 5, descriptorIndex := 6, attributes := #[] }, { accessFlags := 10, nameIndex := 21, descriptorIndex := 12, attributes := #[] }, { accessFlags := 10, nameIndex := 17, descriptorIndex := 18, attributes := #[] }, { accessFlags := 10, nameIndex := 39, descriptorIndex := 40, attributes := #[] }, { accessFlags := 9, nameIndex := 44, descriptorIndex := 45, attributes := #[] }] 49 2 #[] #[])
  fields := #[]
  methods := #[k1m0, k1m1, k1m2, k1m3, k1m4]
  instanceTypes := #[]
  staticTypes := #[]
  resolved := Array.replicate 48 none
  statics := none }

def pool2 : Array CpInfo := pool [(1, .class_ 2), (0, u "java/lang/Math"), (1, .class_ 6), (1, u "java/lang/Object"), (0, u "<init>"), (0, u "()V"), (89, .class_ 100), (1, u "java/lang/Math$RandomNumberGeneratorHolder"), (71, u "negativeZeroFloatBits"), (0, u "J"), (2, u "negativeZeroDoubleBits"), (21, u "max"), (46, u "$assertionsDisabled"), (0, u "Z"), (88, u "(II)I"), (2, u "twoToTheDoubleScaleDown"), (0, u "D"), (4, u "twoToTheDoubleScaleUp"), (9, u "E"), (3, u "PI"), (2, u "TAU"), (2, u "DEGREES_TO_RADIANS"), (0, u "RADIANS_TO_DEGREES")] 94

def k2m0 : Method := { name := "<init>", desc := "()V", sig := { parameters := [], returnType := none }, accessFlags := 2, code := none }
def k2c1 : Code := { maxStack := 2, maxLocals := 2, code := jdk_29_method_65_code, exceptionTable := #[], attributes := #[] }
def k2m1 : Method := { name := "max", desc := "(II)I", sig := { parameters := [.int, .int], returnType := some .int }, accessFlags := 9, code := some k2c1 }
/-- java/lang/Math -/
def k2 : Class := { plain "java/lang/Math" (some 0) with
  accessFlags := 49
  interfaces := #[]
  cf := some (fileOf pool2 1 #[.nestMembers #[98]] #[{ accessFlags := 2, nameIndex := 7, descriptorIndex := 8, attributes := #[] }, { accessFlags := 9, nameIndex := 198, descriptorIndex := 335, attributes := #[] }] 49 4 #[] #[{ accessFlags := 25, nameIndex := 354, descriptorIndex := 339, attributes := #[] }, { accessFlags := 25, nameIndex := 358, descriptorIndex := 339, attributes := #[] }, { accessFlags := 25, nameIndex := 361, descriptorIndex := 339, attributes := #[] }, { accessFlags := 26, nameIndex := 364, descriptorIndex := 339, attributes := #[] }, { accessFlags := 26, nameIndex := 365, descriptorIndex := 339, attributes := #[] }, { accessFlags := 26, nameIndex := 172, descriptorIndex := 173, attributes := #[] }, { accessFlags := 26, nameIndex := 176, descriptorIndex := 173, attributes := #[] }, { accessFlags := 8, nameIndex := 344, descriptorIndex := 339, attributes := #[] }, { accessFlags := 8, nameIndex := 338, descriptorIndex := 339, attributes := #[] }, { accessFlags := 4120, nameIndex := 245, descriptorIndex := 246, attributes := #[] }])
  fields := #[{ name := "E", type := .double, accessFlags := 25, slot := 0, constantValue := 0 }, { name := "PI", type := .double, accessFlags := 25, slot := 1, constantValue := 0 }, { name := "TAU", type := .double, accessFlags := 25, slot := 2, constantValue := 0 }, { name := "DEGREES_TO_RADIANS", type := .double, accessFlags := 26, slot := 3, constantValue := 0 }, { name := "RADIANS_TO_DEGREES", type := .double, accessFlags := 26, slot := 4, constantValue := 0 }, { name := "negativeZeroFloatBits", type := .long, accessFlags := 26, slot := 5, constantValue := 0 }, { name := "negativeZeroDoubleBits", type := .long, accessFlags := 26, slot := 6, constantValue := 0 }, { name := "twoToTheDoubleScaleUp", type := .double, accessFlags := 8, slot := 7, constantValue := 0 }, { name := "twoToTheDoubleScaleDown", type := .double, accessFlags := 8, slot := 8, constantValue := 0 }, { name := "$assertionsDisabled", type := .boolean, accessFlags := 4120, slot := 9, constantValue := 0 }]
  methods := #[k2m0, k2m1]
  instanceTypes := #[]
  staticTypes := #[.double, .double, .double, .double, .double, .long, .long, .double, .double, .boolean]
  resolved := Array.replicate 460 none
  statics := none }

def pool3 : Array CpInfo := pool [(1, .methodref 2 3), (0, .class_ 4), (0, .nameAndType 5 6), (0, u "java/lang/Object"), (0, u "<init>"), (0, u "()V"), (0, .fieldref 8 9), (0, .class_ 10), (0, .nameAndType 11 12), (0, u "com/example/wavegrant/wavegrant/IndexSet"), (0, u "size"), (0, u "I"), (0, .methodref 8 14), (0, .nameAndType 15 16), (0, u "words"), (0, u "(I)I"), (0, .fieldref 8 18), (0, .nameAndType 19 20), (0, u "members"), (0, u "[J"), (0, .fieldref 8 22), (0, .nameAndType 23 20), (0, u "nonEmpty"), (0, .methodref 8 25), (0, .nameAndType 26 27), (0, u "full"), (0, u "(I)[J"), (0, .fieldref 8 29), (0, .nameAndType 30 20), (0, u "allMembers"), (0, .fieldref 8 32), (0, .nameAndType 33 20), (0, u "allNonEmpty"), (0, .methodref 35 36), (0, .class_ 37), (0, .nameAndType 38 39), (0, u "java/lang/System"), (0, u "arraycopy"), (0, u "(Ljava/lang/Object;ILjava/lang/Object;II)V"), (0, .long 18446744073709551615), (1, .methodref 8 43), (0, .nameAndType 44 16), (0, u "nonEmptyWord"), (0, .methodref 46 47), (0, .class_ 48), (0, .nameAndType 49 50), (0, u "java/lang/Long"), (0, u "numberOfTrailingZeros"), (0, u "(J)I"), (0, u "(I)V"), (2, u "fill"), (0, u "remove"), (1, u "next")] 3

def k3c0 : Code := { maxStack := 2, maxLocals := 2, code := prog_13_method_1_code, exceptionTable := #[], attributes := #[] }
def k3m0 : Method := { name := "<init>", desc := "(I)V", sig := { parameters := [.int], returnType := none }, accessFlags := 0, code := some k3c0 }
def k3c1 : Code := { maxStack := 5, maxLocals := 1, code := prog_13_method_2_code, exceptionTable := #[], attributes := #[] }
def k3m1 : Method := { name := "fill", desc := "()V", sig := { parameters := [], returnType := none }, accessFlags := 0, code := some k3c1 }
def k3c2 : Code := { maxStack := 8, maxLocals := 3, code := prog_13_method_3_code, exceptionTable := #[], attributes := #[] }
def k3m2 : Method := { name := "remove", desc := "(I)V", sig := { parameters := [.int], returnType := none }, accessFlags := 0, code := some k3c2 }
def k3c3 : Code := { maxStack := 5, maxLocals := 5, code := prog_13_method_4_code, exceptionTable := #[], attributes := #[] }
def k3m3 : Method := { name := "next", desc := "(I)I", sig := { parameters := [.int], returnType := some .int }, accessFlags := 0, code := some k3c3 }
def k3c4 : Code := { maxStack := 5, maxLocals := 5, code := prog_13_method_5_code, exceptionTable := #[], attributes := #[] }
def k3m4 : Method := { name := "nonEmptyWord", desc := "(I)I", sig := { parameters := [.int], returnType := some .int }, accessFlags := 2, code := some k3c4 }
def k3c5 : Code := { maxStack := 2, maxLocals := 1, code := prog_13_method_6_code, exceptionTable := #[], attributes := #[] }
def k3m5 : Method := { name := "words", desc := "(I)I", sig := { parameters := [.int], returnType := some .int }, accessFlags := 10, code := some k3c5 }
def k3c6 : Code := { maxStack := 6, maxLocals := 3, code := prog_13_method_7_code, exceptionTable := #[], attributes := #[] }
def k3m6 : Method := { name := "full", desc := "(I)[J", sig := { parameters := [.int], returnType := some (.array .long) }, accessFlags := 10, code := some k3c6 }
/-- com/example/wavegrant/wavegrant/IndexSet -/
def k3 : Class := { plain "com/example/wavegrant/wavegrant/IndexSet" (some 0) with
  accessFlags := 48
  interfaces := #[]
  cf := some (fileOf pool3 8 #[] #[{ accessFlags := 0, nameIndex := 5, descriptorIndex := 51, attributes := #[] }, { accessFlags := 0, nameIndex := 54, descriptorIndex := 6, attributes := #[] }, { accessFlags := 0, nameIndex := 55, descriptorIndex := 51, attributes := #[] }, { accessFlags := 0, nameIndex := 57, descriptorIndex := 16, attributes := #[] }, { accessFlags := 2, nameIndex := 44, descriptorIndex := 16, attributes := #[] }, { accessFlags := 10, nameIndex := 15, descriptorIndex := 16, attributes := #[] }, { accessFlags := 10, nameIndex := 26, descriptorIndex := 27, attributes := #[] }] 48 2 #[] #[{ accessFlags := 18, nameIndex := 11, descriptorIndex := 12, attributes := #[] }, { accessFlags := 18, nameIndex := 19, descriptorIndex := 20, attributes := #[] }, { accessFlags := 18, nameIndex := 23, descriptorIndex := 20, attributes := #[] }, { accessFlags := 18, nameIndex := 30, descriptorIndex := 20, attributes := #[] }, { accessFlags := 18, nameIndex := 33, descriptorIndex := 20, attributes := #[] }])
  fields := #[{ name := "size", type := .int, accessFlags := 18, slot := 0, constantValue := 0 }, { name := "members", type := (.array .long), accessFlags := 18, slot := 1, constantValue := 0 }, { name := "nonEmpty", type := (.array .long), accessFlags := 18, slot := 2, constantValue := 0 }, { name := "allMembers", type := (.array .long), accessFlags := 18, slot := 3, constantValue := 0 }, { name := "allNonEmpty", type := (.array .long), accessFlags := 18, slot := 4, constantValue := 0 }]
  methods := #[k3m0, k3m1, k3m2, k3m3, k3m4, k3m5, k3m6]
  instanceTypes := #[.int, (.array .long), (.array .long), (.array .long), (.array .long)]
  staticTypes := #[]
  resolved := Array.replicate 61 none
  statics := none }

def pool4 : Array CpInfo := pool [(2, .class_ 4), (1, u "java/lang/Object"), (0, u "<init>"), (0, u "()V"), (1, .class_ 10), (1, u "java/lang/System"), (0, u "allowSecurityManager"), (0, u "I"), (16, u "cons"), (0, u "Ljava/io/Console;"), (77, .class_ 110), (1, u "java/lang/System$CallersHolder"), (43, u "initialErrStream"), (0, u "Ljava/io/PrintStream;"), (19, u "security"), (0, u "Ljava/lang/SecurityManager;"), (31, .class_ 209), (0, u "java/lang/System$1"), (7, u "props"), (0, u "Ljava/util/Properties;"), (2, u "lineSeparator"), (0, u "Ljava/lang/String;"), (96, .class_ 321), (1, u "java/lang/System$LoggerFinder"), (5, .class_ 328), (0, u "java/lang/System$Logger"), (67, u "err"), (2, u "out"), (91, u "notSupportedJnuEncoding"), (15, u "in"), (17, u "initialIn"), (0, u "Ljava/io/InputStream;"), (35, u "bootLayer"), (0, u "Ljava/lang/ModuleLayer;"), (99, .class_ 664), (0, u "java/lang/System$2"), (9, u "NEVER"), (2, u "MAYBE"), (49, u "arraycopy"), (0, u "(Ljava/lang/Object;ILjava/lang/Object;II)V"), (72, .class_ 802), (0, u "java/lang/System$Logger$Level")] 31

def k4m0 : Method := { name := "<init>", desc := "()V", sig := { parameters := [], returnType := none }, accessFlags := 2, code := none }
def k4m1 : Method := { name := "arraycopy", desc := "(Ljava/lang/Object;ILjava/lang/Object;II)V", sig := { parameters := [(.object "java/lang/Object"), .int, (.object "java/lang/Object"), .int, .int], returnType := none }, accessFlags := 265, code := none }
/-- java/lang/System -/
def k4 : Class := { plain "java/lang/System" (some 0) with
  accessFlags := 49
  interfaces := #[]
  cf := some (fileOf pool4 8 #[.nestMembers #[319, 327, 801, 108, 663, 208]] #[{ accessFlags := 2, nameIndex := 5, descriptorIndex := 6, attributes := #[] }, { accessFlags := 265, nameIndex := 727, descriptorIndex := 728, attributes := #[] }] 49 2 #[] #[{ accessFlags := 25, nameIndex := 507, descriptorIndex := 526, attributes := #[] }, { accessFlags := 25, nameIndex := 399, descriptorIndex := 155, attributes := #[] }, { accessFlags := 25, nameIndex := 396, descriptorIndex := 155, attributes := #[] }, { accessFlags := 10, nameIndex := 525, descriptorIndex := 526, attributes := #[] }, { accessFlags := 26, nameIndex := 674, descriptorIndex := 12, attributes := #[] }, { accessFlags := 26, nameIndex := 677, descriptorIndex := 12, attributes := #[] }, { accessFlags := 10, nameIndex := 11, descriptorIndex := 12, attributes := #[] }, { accessFlags := 74, nameIndex := 175, descriptorIndex := 176, attributes := #[] }, { accessFlags := 10, nameIndex := 491, descriptorIndex := 222, attributes := #[] }, { accessFlags := 74, nameIndex := 29, descriptorIndex := 30, attributes := #[] }, { accessFlags := 74, nameIndex := 154, descriptorIndex := 155, attributes := #[] }, { accessFlags := 10, nameIndex := 217, descriptorIndex := 218, attributes := #[] }, { accessFlags := 10, nameIndex := 221, descriptorIndex := 222, attributes := #[] }, { accessFlags := 8, nameIndex := 562, descriptorIndex := 563, attributes := #[] }])
  fields := #[{ name := "in", type := (.object "java/io/InputStream"), accessFlags := 25, slot := 0, constantValue := 0 }, { name := "out", type := (.object "java/io/PrintStream"), accessFlags := 25, slot := 1, constantValue := 0 }, { name := "err", type := (.object "java/io/PrintStream"), accessFlags := 25, slot := 2, constantValue := 0 }, { name := "initialIn", type := (.object "java/io/InputStream"), accessFlags := 10, slot := 3, constantValue := 0 }, { name := "NEVER", type := .int, accessFlags := 26, slot := 4, constantValue := 0 }, { name := "MAYBE", type := .int, accessFlags := 26, slot := 5, constantValue := 0 }, { name := "allowSecurityManager", type := .int, accessFlags := 10, slot := 6, constantValue := 0 }, { name := "security", type := (.object "java/lang/SecurityManager"), accessFlags := 74, slot := 7, constantValue := 0 }, { name := "notSupportedJnuEncoding", type := (.object "java/lang/String"), accessFlags := 10, slot := 8, constantValue := 0 }, { name := "cons", type := (.object "java/io/Console"), accessFlags := 74, slot := 9, constantValue := 0 }, { name := "initialErrStream", type := (.object "java/io/PrintStream"), accessFlags := 74, slot := 10, constantValue := 0 }, { name := "props", type := (.object "java/util/Properties"), accessFlags := 10, slot := 11, constantValue := 0 }, { name := "lineSeparator", type := (.object "java/lang/String"), accessFlags := 10, slot := 12, constantValue := 0 }, { name := "bootLayer", type := (.object "java/lang/ModuleLayer"), accessFlags := 8, slot := 13, constantValue := 0 }]
  methods := #[k4m0, k4m1]
  instanceTypes := #[]
  staticTypes := #[(.object "java/io/InputStream"), (.object "java/io/PrintStream"), (.object "java/io/PrintStream"), (.object "java/io/InputStream"), .int, .int, .int, (.object "java/lang/SecurityManager"), (.object "java/lang/String"), (.object "java/io/Console"), (.object "java/io/PrintStream"), (.object "java/util/Properties"), (.object "java/lang/String"), (.object "java/lang/ModuleLayer")]
  resolved := Array.replicate 834 none
  statics := none }

def pool5 : Array CpInfo := pool [(1, .class_ 2), (0, u "java/io/Serializable"), (0, .class_ 4), (0, u "java/lang/Object")] 2

/-- java/io/Serializable -/
def k5 : Class := { plain "java/io/Serializable" (some 0) with
  accessFlags := 1537
  interfaces := #[]
  cf := some (fileOf pool5 1 #[] #[] 1537 3 #[] #[])
  fields := #[]
  methods := #[]
  instanceTypes := #[]
  staticTypes := #[]
  resolved := Array.replicate 7 none
  statics := none }

def pool6 : Array CpInfo := pool [(2, .class_ 4), (1, u "java/lang/Object"), (0, u "<init>"), (0, u "()V"), (1, .class_ 10), (1, u "java/lang/Number"), (2, .class_ 14), (0, u "java/io/Serializable"), (0, u "serialVersionUID"), (0, u "J")] 20

def k6m0 : Method := { name := "<init>", desc := "()V", sig := { parameters := [], returnType := none }, accessFlags := 1, code := none }
/-- java/lang/Number -/
def k6 : Class := { plain "java/lang/Number" (some 0) with
  accessFlags := 1057
  interfaces := #[5]
  cf := some (fileOf pool6 8 #[] #[{ accessFlags := 1, nameIndex := 5, descriptorIndex := 6, attributes := #[] }] 1057 2 #[13] #[{ accessFlags := 26, nameIndex := 15, descriptorIndex := 16, attributes := #[] }])
  fields := #[{ name := "serialVersionUID", type := .long, accessFlags := 26, slot := 0, constantValue := 0 }]
  methods := #[k6m0]
  instanceTypes := #[]
  staticTypes := #[.long]
  resolved := Array.replicate 37 none
  statics := none }

def pool7 : Array CpInfo := pool [(1, .class_ 2), (0, u "java/lang/Comparable"), (0, .class_ 4), (0, u "java/lang/Object")] 7

/-- java/lang/Comparable -/
def k7 : Class := { plain "java/lang/Comparable" (some 0) with
  accessFlags := 1537
  interfaces := #[]
  cf := some (fileOf pool7 1 #[] #[] 1537 3 #[] #[])
  fields := #[]
  methods := #[]
  instanceTypes := #[]
  staticTypes := #[]
  resolved := Array.replicate 12 none
  statics := none }

def pool8 : Array CpInfo := pool [(1, .class_ 2), (0, u "java/lang/constant/Constable"), (0, .class_ 4), (0, u "java/lang/Object")] 6

/-- java/lang/constant/Constable -/
def k8 : Class := { plain "java/lang/constant/Constable" (some 0) with
  accessFlags := 1537
  interfaces := #[]
  cf := some (fileOf pool8 1 #[] #[] 1537 3 #[] #[])
  fields := #[]
  methods := #[]
  instanceTypes := #[]
  staticTypes := #[]
  resolved := Array.replicate 11 none
  statics := none }

def pool9 : Array CpInfo := pool [(1, .class_ 2), (0, u "java/lang/constant/ConstantDesc"), (0, .class_ 4), (0, u "java/lang/Object")] 32

/-- java/lang/constant/ConstantDesc -/
def k9 : Class := { plain "java/lang/constant/ConstantDesc" (some 0) with
  accessFlags := 1537
  interfaces := #[]
  cf := some (fileOf pool9 1 #[] #[] 1537 3 #[] #[])
  fields := #[]
  methods := #[]
  instanceTypes := #[]
  staticTypes := #[]
  resolved := Array.replicate 37 none
  statics := none }

def pool10 : Array CpInfo := pool [(1, .class_ 2), (0, u "java/lang/Long"), (15, .class_ 20), (1, u "java/lang/Integer"), (80, u "(J)I"), (133, .class_ 237), (1, u "java/lang/Long$LongCache"), (33, .class_ 272), (0, u "java/lang/Number"), (2, u "value"), (0, u "J"), (33, u "(I)I"), (0, .methodref 18 312), (0, .nameAndType 313 310), (0, u "numberOfTrailingZeros"), (47, u "TYPE"), (0, u "Ljava/lang/Class;"), (0, .class_ 364), (0, u "java/lang/Comparable"), (0, .class_ 366), (0, u "java/lang/constant/Constable"), (0, .class_ 368), (0, u "java/lang/constant/ConstantDesc"), (0, u "MIN_VALUE"), (1, u "MAX_VALUE"), (4, u "SIZE"), (0, u "I"), (1, u "BYTES"), (1, u "serialVersionUID")] 142

def k10c0 : Code := { maxStack := 4, maxLocals := 3, code := jdk_35_method_49_code, exceptionTable := #[], attributes := #[] }
def k10m0 : Method := { name := "numberOfTrailingZeros", desc := "(J)I", sig := { parameters := [.long], returnType := some .int }, accessFlags := 9, code := some k10c0 }
/-- java/lang/Long -/
def k10 : Class := { plain "java/lang/Long" (some 6) with
  accessFlags := 49
  interfaces := #[7, 8, 9]
  cf := some (fileOf pool10 1 #[.nestMembers #[235]] #[{ accessFlags := 9, nameIndex := 313, descriptorIndex := 101, attributes := #[] }] 49 271 #[363, 365, 367] #[{ accessFlags := 25, nameIndex := 369, descriptorIndex := 276, attributes := #[] }, { accessFlags := 25, nameIndex := 371, descriptorIndex := 276, attributes := #[] }, { accessFlags := 25, nameIndex := 361, descriptorIndex := 362, attributes := #[] }, { accessFlags := 18, nameIndex := 275, descriptorIndex := 276, attributes := #[] }, { accessFlags := 25, nameIndex := 376, descriptorIndex := 377, attributes := #[] }, { accessFlags := 25, nameIndex := 379, descriptorIndex := 377, attributes := #[] }, { accessFlags := 26, nameIndex := 381, descriptorIndex := 276, attributes := #[] }])
  fields := #[{ name := "MIN_VALUE", type := .long, accessFlags := 25, slot := 0, constantValue := 0 }, { name := "MAX_VALUE", type := .long, accessFlags := 25, slot := 1, constantValue := 0 }, { name := "TYPE", type := (.object "java/lang/Class"), accessFlags := 25, slot := 2, constantValue := 0 }, { name := "value", type := .long, accessFlags := 18, slot := 0, constantValue := 0 }, { name := "SIZE", type := .int, accessFlags := 25, slot := 3, constantValue := 0 }, { name := "BYTES", type := .int, accessFlags := 25, slot := 4, constantValue := 0 }, { name := "serialVersionUID", type := .long, accessFlags := 26, slot := 5, constantValue := 0 }]
  methods := #[k10m0]
  instanceTypes := #[.long]
  staticTypes := #[.long, .long, (.object "java/lang/Class"), .int, .int, .long]
  resolved := Array.replicate 524 none
  statics := none }

def pool11 : Array CpInfo := pool [(1, .class_ 2), (0, u "java/lang/Integer"), (16, u "digits"), (0, u "[C"), (33, u "(I)I"), (30, u "DigitOnes"), (0, u "[B"), (2, u "DigitTens"), (99, .class_ 190), (0, u "java/lang/Integer$IntegerCache"), (3, u "I"), (8, .class_ 204), (0, u "java/lang/Number"), (2, u "value"), (56, .integer 65536), (37, u "TYPE"), (0, u "Ljava/lang/Class;"), (0, .class_ 305), (0, u "java/lang/Comparable"), (0, .class_ 307), (0, u "java/lang/constant/Constable"), (0, .class_ 309), (0, u "java/lang/constant/ConstantDesc"), (0, u "MIN_VALUE"), (1, u "MAX_VALUE"), (3, u "SIZE"), (1, u "BYTES"), (1, u "serialVersionUID"), (0, u "J"), (84, u "numberOfTrailingZeros")] 46

def k11c0 : Code := { maxStack := 3, maxLocals := 2, code := jdk_33_method_48_code, exceptionTable := #[], attributes := #[] }
def k11m0 : Method := { name := "numberOfTrailingZeros", desc := "(I)I", sig := { parameters := [.int], returnType := some .int }, accessFlags := 9, code := some k11c0 }
/-- java/lang/Integer -/
def k11 : Class := { plain "java/lang/Integer" (some 6) with
  accessFlags := 49
  interfaces := #[7, 8, 9]
  cf := some (fileOf pool11 1 #[.nestMembers #[189]] #[{ accessFlags := 9, nameIndex := 406, descriptorIndex := 54, attributes := #[] }] 49 203 #[304, 306, 308] #[{ accessFlags := 25, nameIndex := 310, descriptorIndex := 194, attributes := #[] }, { accessFlags := 25, nameIndex := 312, descriptorIndex := 194, attributes := #[] }, { accessFlags := 25, nameIndex := 302, descriptorIndex := 303, attributes := #[] }, { accessFlags := 24, nameIndex := 19, descriptorIndex := 20, attributes := #[] }, { accessFlags := 24, nameIndex := 89, descriptorIndex := 86, attributes := #[] }, { accessFlags := 24, nameIndex := 85, descriptorIndex := 86, attributes := #[] }, { accessFlags := 18, nameIndex := 207, descriptorIndex := 194, attributes := #[] }, { accessFlags := 25, nameIndex := 316, descriptorIndex := 194, attributes := #[] }, { accessFlags := 25, nameIndex := 318, descriptorIndex := 194, attributes := #[] }, { accessFlags := 26, nameIndex := 320, descriptorIndex := 321, attributes := #[] }])
  fields := #[{ name := "MIN_VALUE", type := .int, accessFlags := 25, slot := 0, constantValue := 0 }, { name := "MAX_VALUE", type := .int, accessFlags := 25, slot := 1, constantValue := 0 }, { name := "TYPE", type := (.object "java/lang/Class"), accessFlags := 25, slot := 2, constantValue := 0 }, { name := "digits", type := (.array .char), accessFlags := 24, slot := 3, constantValue := 0 }, { name := "DigitTens", type := (.array .byte), accessFlags := 24, slot := 4, constantValue := 0 }, { name := "DigitOnes", type := (.array .byte), accessFlags := 24, slot := 5, constantValue := 0 }, { name := "value", type := .int, accessFlags := 18, slot := 0, constantValue := 0 }, { name := "SIZE", type := .int, accessFlags := 25, slot := 6, constantValue := 0 }, { name := "BYTES", type := .int, accessFlags := 25, slot := 7, constantValue := 0 }, { name := "serialVersionUID", type := .long, accessFlags := 26, slot := 8, constantValue := 0 }]
  methods := #[k11m0]
  instanceTypes := #[.int]
  staticTypes := #[.int, .int, (.object "java/lang/Class"), (.array .char), (.array .byte), (.array .byte), .int, .int, .long]
  resolved := Array.replicate 453 none
  statics := none }

def pool12 : Array CpInfo := pool [(1, u "java/lang/Cloneable"), (0, .class_ 1), (0, u "java/lang/Object"), (0, .class_ 3)] 3

/-- java/lang/Cloneable -/
def k12 : Class := { plain "java/lang/Cloneable" (some 0) with
  accessFlags := 1537
  interfaces := #[]
  cf := some (fileOf pool12 2 #[] #[] 1537 4 #[] #[])
  fields := #[]
  methods := #[]
  instanceTypes := #[]
  staticTypes := #[]
  resolved := Array.replicate 8 none
  statics := none }

/-- the primitive byte -/
def k13 : Class := { plain "byte" none with kind := .primitive 'B', accessFlags := 0x411 }
/-- [B -/
def k14 : Class := { plain "[B" (some 0) with kind := .array 13 .byte, interfaces := #[12, 5], accessFlags := 1041 }

/-- the primitive int -/
def k15 : Class := { plain "int" none with kind := .primitive 'I', accessFlags := 0x411 }
/-- [I -/
def k16 : Class := { plain "[I" (some 0) with kind := .array 15 .int, interfaces := #[12, 5], accessFlags := 1041 }

/-- the primitive long -/
def k17 : Class := { plain "long" none with kind := .primitive 'J', accessFlags := 0x411 }
/-- [J -/
def k18 : Class := { plain "[J" (some 0) with kind := .array 17 .long, interfaces := #[12, 5], accessFlags := 1041 }

def heap : Heap := #[]
def classes : Array Class := #[k0, k1, k2, k3, k4, k5, k6, k7, k8, k9, k10, k11, k12, k13, k14, k15, k16, k17, k18]
def interned : List (Array UInt16 × Addr) := []
def slotsUsed : Nat := 0
def theMethod : MethodId := ⟨1, 4⟩
def args0 : Array Value := #[.int 5, .int 6, .int 7, .int 8, .int 9]
def aboutOver (below : List Frame) : State where
  vm := { classes := classes, interned := interned.toArray }
  heap := heap
  slotsUsed := slotsUsed
  threads := #[{ frames := .invoking theMethod args0 :: below }]
def below0 : List Frame := [.native { method := ⟨0, 0⟩, args := #[] }]
def about1 : State := aboutOver below0
def p0 : Program := .bare "" "" ""
def e0 : Env := launch0.env 0 0 0
theorem w_frames : about1.frames = Frame.invoking theMethod args0 :: below0 := rfl
set_option maxRecDepth 65536 in
theorem w_args : argsFit about1.vm theMethod args0 = true := by decide +kernel
set_option maxRecDepth 65536 in
theorem w_heap : heapFits about1 = true := by decide +kernel
set_option maxRecDepth 65536 in
theorem w_runnable : about1.curStatus? = some .runnable := by decide +kernel
set_option maxRecDepth 65536 in
theorem w_alone : about1.alone = true := by decide +kernel
set_option maxRecDepth 65536 in
theorem w_named : about1.methodNamed? x = some theMethod := by decide +kernel
set_option maxRecDepth 65536 in
theorem w_hears : about1.hears theMethod below0 = true := by decide +kernel
set_option maxRecDepth 65536 in
theorem w_ripe : about1.ripe theMethod args0 below0 = true := by decide +kernel
theorem w_running : about1.status = .running := rfl
set_option maxRecDepth 65536 in
theorem w_room : about1.hasRoom e0.platform room_1 = true :=
  launch0.hasRoom_least _ room_1 (by decide +kernel) (by decide +kernel) (by decide +kernel) (by decide +kernel) (by decide +kernel) (by decide +kernel)
theorem allAtoms_all (ts : List Jvm.Cond) (a : Array Jvm.Value) (st : Jvm.State) : (allAtoms ts).before a st = ts.all (fun c => c.before a st) := by
  induction ts with
  | nil => rfl
  | cons c t ih =>
    show (Jvm.Cond.and c (allAtoms t)).before a st = _
    rw [Jvm.Cond.before_and, ih, List.all_cons]
def words1 : List Jvm.Cond := Jvm.Cond.code x code maxLocals ret :: tables_1
/-- a 'code' word, met by the world's own term for the bytes: nothing is compared byte by byte -/
theorem code_word {y : MethodName} {bytes : ByteArray} {mx : Nat} {rt : Option FieldType} {a : Array Value} {s : State} {m : MethodId} {meth : Method} {c : Code} (h1 : s.methodNamed? y = some m) (h2 : s.vm.method? m = some meth) (h3 : meth.code = some c) (h4 : c.code = bytes)
    (h5 : (c.maxLocals == mx && c.exceptionTable.isEmpty && decide (c.maxStack ≤ mostOperands) && decide (meth.sig.returnType = rt) && !meth.locks && decide (parseMethodDescriptor y.desc = some meth.sig)) = true) : (Jvm.Cond.code y bytes mx rt).before a s = true := by
  simp only [Bool.and_eq_true, beq_iff_eq, Bool.not_eq_true', decide_eq_true_eq] at h5
  obtain ⟨⟨⟨⟨⟨g1, g2⟩, g3⟩, g4⟩, g5⟩, g6⟩ := h5
  simp [Cond.before, Cond.holds, Cond.value, h1, h2, h3, h4, g1, g2, g3, g4, g5, g6]
def isCode : Jvm.Cond → Bool
  | .code _ _ _ _ => true
  | _ => false
theorem all_split {L : List Jvm.Cond} {P : Jvm.Cond → Bool} (h1 : L.all (fun c => isCode c || P c) = true) (h2 : ∀ c ∈ L.filter isCode, P c = true) : L.all P = true := by
  refine List.all_eq_true.mpr fun c hc => ?_
  have h := List.all_eq_true.mp h1 c hc
  rcases Bool.eq_false_or_eq_true (isCode c) with hi | hi
  · exact h2 c (List.mem_filter.mpr ⟨hc, hi⟩)
  · simpa [hi] using h
set_option maxRecDepth 65536 in
theorem w_c0 : (Jvm.Cond.code x code maxLocals ret).before args0 about1 = true := code_word (m := ⟨1, 4⟩) (meth := k1m4) (c := k1c4) (by decide +kernel) rfl rfl rfl (by decide +kernel)
set_option maxRecDepth 65536 in
theorem w_c1 : (Jvm.Cond.code ({ cls := "java/lang/Math", name := "max", desc := "(II)I" } : Jvm.MethodName) jdk_29_method_65_code (2 : Nat) (Option.some Jvm.ClassFile.FieldType.int)).before args0 about1 = true := code_word (m := ⟨2, 1⟩) (meth := k2m1) (c := k2c1) (by decide +kernel) rfl rfl rfl (by decide +kernel)
set_option maxRecDepth 65536 in
theorem w_c2 : (Jvm.Cond.code ({ cls := "com/example/wavegrant/wavegrant/IndexSetRemovePinLaw", name := "idx", desc := "(II)I" } : Jvm.MethodName) method_2_code (2 : Nat) (Option.some Jvm.ClassFile.FieldType.int)).before args0 about1 = true := code_word (m := ⟨1, 1⟩) (meth := k1m1) (c := k1c1) (by decide +kernel) rfl rfl rfl (by decide +kernel)
set_option maxRecDepth 65536 in
theorem w_c3 : (Jvm.Cond.code ({ cls := "com/example/wavegrant/wavegrant/IndexSet", name := "<init>", desc := "(I)V" } : Jvm.MethodName) prog_13_method_1_code (2 : Nat) (Option.none : Option Jvm.ClassFile.FieldType)).before args0 about1 = true := code_word (m := ⟨3, 0⟩) (meth := k3m0) (c := k3c0) (by decide +kernel) rfl rfl rfl (by decide +kernel)
set_option maxRecDepth 65536 in
theorem w_c4 : (Jvm.Cond.code ({ cls := "java/lang/Object", name := "<init>", desc := "()V" } : Jvm.MethodName) object_method_1_code (1 : Nat) (Option.none : Option Jvm.ClassFile.FieldType)).before args0 about1 = true := code_word (m := ⟨0, 0⟩) (meth := k0m0) (c := k0c0) (by decide +kernel) rfl rfl rfl (by decide +kernel)
set_option maxRecDepth 65536 in
theorem w_c5 : (Jvm.Cond.code ({ cls := "com/example/wavegrant/wavegrant/IndexSet", name := "words", desc := "(I)I" } : Jvm.MethodName) prog_13_method_6_code (1 : Nat) (Option.some Jvm.ClassFile.FieldType.int)).before args0 about1 = true := code_word (m := ⟨3, 5⟩) (meth := k3m5) (c := k3c5) (by decide +kernel) rfl rfl rfl (by decide +kernel)
set_option maxRecDepth 65536 in
theorem w_c6 : (Jvm.Cond.code ({ cls := "com/example/wavegrant/wavegrant/IndexSet", name := "full", desc := "(I)[J" } : Jvm.MethodName) prog_13_method_7_code (3 : Nat) (Option.some (Jvm.ClassFile.FieldType.array Jvm.ClassFile.FieldType.long))).before args0 about1 = true := code_word (m := ⟨3, 6⟩) (meth := k3m6) (c := k3c6) (by decide +kernel) rfl rfl rfl (by decide +kernel)
set_option maxRecDepth 65536 in
theorem w_c7 : (Jvm.Cond.code ({ cls := "com/example/wavegrant/wavegrant/IndexSet", name := "fill", desc := "()V" } : Jvm.MethodName) prog_13_method_2_code (1 : Nat) (Option.none : Option Jvm.ClassFile.FieldType)).before args0 about1 = true := code_word (m := ⟨3, 1⟩) (meth := k3m1) (c := k3c1) (by decide +kernel) rfl rfl rfl (by decide +kernel)
set_option maxRecDepth 65536 in
theorem w_c8 : (Jvm.Cond.code ({ cls := "com/example/wavegrant/wavegrant/IndexSet", name := "remove", desc := "(I)V" } : Jvm.MethodName) prog_13_method_3_code (3 : Nat) (Option.none : Option Jvm.ClassFile.FieldType)).before args0 about1 = true := code_word (m := ⟨3, 2⟩) (meth := k3m2) (c := k3c2) (by decide +kernel) rfl rfl rfl (by decide +kernel)
set_option maxRecDepth 65536 in
theorem w_c9 : (Jvm.Cond.code ({ cls := "com/example/wavegrant/wavegrant/IndexSet", name := "next", desc := "(I)I" } : Jvm.MethodName) prog_13_method_4_code (5 : Nat) (Option.some Jvm.ClassFile.FieldType.int)).before args0 about1 = true := code_word (m := ⟨3, 3⟩) (meth := k3m3) (c := k3c3) (by decide +kernel) rfl rfl rfl (by decide +kernel)
set_option maxRecDepth 65536 in
theorem w_c10 : (Jvm.Cond.code ({ cls := "com/example/wavegrant/wavegrant/IndexSet", name := "nonEmptyWord", desc := "(I)I" } : Jvm.MethodName) prog_13_method_5_code (5 : Nat) (Option.some Jvm.ClassFile.FieldType.int)).before args0 about1 = true := code_word (m := ⟨3, 4⟩) (meth := k3m4) (c := k3c4) (by decide +kernel) rfl rfl rfl (by decide +kernel)
set_option maxRecDepth 65536 in
theorem w_c11 : (Jvm.Cond.code ({ cls := "com/example/wavegrant/wavegrant/IndexSetRemovePinLaw", name := "ref", desc := "(IIIII)I" } : Jvm.MethodName) method_4_code (6 : Nat) (Option.some Jvm.ClassFile.FieldType.int)).before args0 about1 = true := code_word (m := ⟨1, 3⟩) (meth := k1m3) (c := k1c3) (by decide +kernel) rfl rfl rfl (by decide +kernel)
set_option maxRecDepth 65536 in
theorem w_c12 : (Jvm.Cond.code ({ cls := "com/example/wavegrant/wavegrant/IndexSetRemovePinLaw", name := "step", desc := "(IIII)I" } : Jvm.MethodName) method_3_code (4 : Nat) (Option.some Jvm.ClassFile.FieldType.int)).before args0 about1 = true := code_word (m := ⟨1, 2⟩) (meth := k1m2) (c := k1c2) (by decide +kernel) rfl rfl rfl (by decide +kernel)
set_option maxRecDepth 65536 in
theorem w_c13 : (Jvm.Cond.code ({ cls := "java/lang/Long", name := "numberOfTrailingZeros", desc := "(J)I" } : Jvm.MethodName) jdk_35_method_49_code (3 : Nat) (Option.some Jvm.ClassFile.FieldType.int)).before args0 about1 = true := code_word (m := ⟨10, 0⟩) (meth := k10m0) (c := k10c0) (by decide +kernel) rfl rfl rfl (by decide +kernel)
set_option maxRecDepth 65536 in
theorem w_c14 : (Jvm.Cond.code ({ cls := "java/lang/Integer", name := "numberOfTrailingZeros", desc := "(I)I" } : Jvm.MethodName) jdk_33_method_48_code (2 : Nat) (Option.some Jvm.ClassFile.FieldType.int)).before args0 about1 = true := code_word (m := ⟨11, 0⟩) (meth := k11m0) (c := k11c0) (by decide +kernel) rfl rfl rfl (by decide +kernel)
def codes1 : List Jvm.Cond := [Jvm.Cond.code x code maxLocals ret, Jvm.Cond.code ({ cls := "java/lang/Math", name := "max", desc := "(II)I" } : Jvm.MethodName) jdk_29_method_65_code (2 : Nat) (Option.some Jvm.ClassFile.FieldType.int), Jvm.Cond.code ({ cls := "com/example/wavegrant/wavegrant/IndexSetRemovePinLaw", name := "idx", desc := "(II)I" } : Jvm.MethodName) method_2_code (2 : Nat) (Option.some Jvm.ClassFile.FieldType.int), Jvm.Cond.code ({ cls := "com/example/wavegrant/wavegrant/IndexSet", name := "<init>", desc := "(I)V" } : Jvm.MethodName) prog_13_method_1_code (2 : Nat) (Option.none : Option Jvm.ClassFile.FieldType), Jvm.Cond.code ({ cls := "java/lang/Object", name := "<init>", desc := "()V" } : Jvm.MethodName) object_method_1_code (1 : Nat) (Option.none : Option Jvm.ClassFile.FieldType), Jvm.Cond.code ({ cls := "com/example/wavegrant/wavegrant/IndexSet", name := "words", desc := "(I)I" } : Jvm.MethodName) prog_13_method_6_code (1 : Nat) (Option.some Jvm.ClassFile.FieldType.int), Jvm.Cond.code ({ cls := "com/example/wavegrant/wavegrant/IndexSet", name := "full", desc := "(I)[J" } : Jvm.MethodName) prog_13_method_7_code (3 : Nat) (Option.some (Jvm.ClassFile.FieldType.array Jvm.ClassFile.FieldType.long)), Jvm.Cond.code ({ cls := "com/example/wavegrant/wavegrant/IndexSet", name := "fill", desc := "()V" } : Jvm.MethodName) prog_13_method_2_code (1 : Nat) (Option.none : Option Jvm.ClassFile.FieldType), Jvm.Cond.code ({ cls := "com/example/wavegrant/wavegrant/IndexSet", name := "remove", desc := "(I)V" } : Jvm.MethodName) prog_13_method_3_code (3 : Nat) (Option.none : Option Jvm.ClassFile.FieldType), Jvm.Cond.code ({ cls := "com/example/wavegrant/wavegrant/IndexSet", name := "next", desc := "(I)I" } : Jvm.MethodName) prog_13_method_4_code (5 : Nat) (Option.some Jvm.ClassFile.FieldType.int), Jvm.Cond.code ({ cls := "com/example/wavegrant/wavegrant/IndexSet", name := "nonEmptyWord", desc := "(I)I" } : Jvm.MethodName) prog_13_method_5_code (5 : Nat) (Option.some Jvm.ClassFile.FieldType.int), Jvm.Cond.code ({ cls := "com/example/wavegrant/wavegrant/IndexSetRemovePinLaw", name := "ref", desc := "(IIIII)I" } : Jvm.MethodName) method_4_code (6 : Nat) (Option.some Jvm.ClassFile.FieldType.int), Jvm.Cond.code ({ cls := "com/example/wavegrant/wavegrant/IndexSetRemovePinLaw", name := "step", desc := "(IIII)I" } : Jvm.MethodName) method_3_code (4 : Nat) (Option.some Jvm.ClassFile.FieldType.int), Jvm.Cond.code ({ cls := "java/lang/Long", name := "numberOfTrailingZeros", desc := "(J)I" } : Jvm.MethodName) jdk_35_method_49_code (3 : Nat) (Option.some Jvm.ClassFile.FieldType.int), Jvm.Cond.code ({ cls := "java/lang/Integer", name := "numberOfTrailingZeros", desc := "(I)I" } : Jvm.MethodName) jdk_33_method_48_code (2 : Nat) (Option.some Jvm.ClassFile.FieldType.int)]
set_option maxRecDepth 65536 in
theorem codes_eq : words1.filter isCode = codes1 := rfl
theorem w_codes : ∀ c ∈ words1.filter isCode, c.before args0 about1 = true := by
  rw [codes_eq]
  intro c hc
  simp only [codes1, List.mem_cons, List.not_mem_nil, or_false] at hc
  rcases hc with rfl | rfl | rfl | rfl | rfl | rfl | rfl | rfl | rfl | rfl | rfl | rfl | rfl | rfl | rfl
  · exact w_c0
  · exact w_c1
  · exact w_c2
  · exact w_c3
  · exact w_c4
  · exact w_c5
  · exact w_c6
  · exact w_c7
  · exact w_c8
  · exact w_c9
  · exact w_c10
  · exact w_c11
  · exact w_c12
  · exact w_c13
  · exact w_c14
set_option maxRecDepth 65536 in
theorem w_t1 : (words1.take 24).all (fun c => isCode c || c.before args0 about1) = true := by decide +kernel
set_option maxRecDepth 65536 in
theorem w_t2 : ((words1.drop 24).take 24).all (fun c => isCode c || c.before args0 about1) = true := by decide +kernel
set_option maxRecDepth 65536 in
theorem w_t3 : (((words1.drop 24).drop 24).take 24).all (fun c => isCode c || c.before args0 about1) = true := by decide +kernel
set_option maxRecDepth 65536 in
theorem w_t4 : (((words1.drop 24).drop 24).drop 24).all (fun c => isCode c || c.before args0 about1) = true := by decide +kernel
theorem w_tables : (allAtoms (Jvm.Cond.code x code maxLocals ret :: tables_1)).before args0 about1 = true := by
  rw [allAtoms_all]
  show words1.all (fun c => c.before args0 about1) = true
  refine all_split ?_ w_codes
  rw [← List.take_append_drop 24 words1, List.all_append, w_t1, ← List.take_append_drop 24 (words1.drop 24), List.all_append, w_t2, ← List.take_append_drop 24 ((words1.drop 24).drop 24), List.all_append, w_t3, w_t4]
  rfl
set_option maxRecDepth 65536 in
theorem w_case : (Jvm.Cond.and given_1 narrow_1).before args0 about1 = true := by decide +kernel
theorem w_applies : (headSpec (Jvm.Cond.code x code maxLocals ret :: tables_1) room_1).applies x e0.platform about1 = true :=
  (Spec.applies_iff w_frames).mpr ⟨w_running, w_runnable, w_alone, w_named, w_hears, w_ripe, w_room, w_tables⟩
theorem atStart : AtStart classFile x code maxLocals ret World_1 tables_1 room_1 Calls_1 rest_1 Pre_1 launch0 p0 e0 about1 theMethod args0 below0 :=
  ⟨lists_1, trivial, launch0.admits_env _ _ _, launch0.least_env, fairChoices_fair.cas, fairChoices_fair.clock, w_frames, w_args, w_heap, w_applies, trivial, trivial, w_case⟩
end start1
theorem witness_1 : WitnessClaimed_1 := ⟨start1.p0, start1.e0, start1.about1, start1.theMethod, start1.args0, start1.below0, start1.atStart⟩
end Jvm.Pilot.@@N@@
