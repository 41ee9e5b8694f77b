import JvmDerived
import JvmDerived.Pilot.@@N@@Statement
import JvmDerived.Pilot.@@N@@Code
set_option linter.unusedVariables false
set_option linter.unusedSimpArgs false
namespace Jvm.OwnKit
open Sem ClassFile Op Lib Jvm.Free Jvm.Stand Jvm.LawKit Jvm.RoadKit
/-! My own layer: an abstract heap (a list of objects made since the law began) and one rule a bytecode step, each over a law of the library. -/
abbrev oz : Value := .int 0
abbrev ol : Value := .long 0
abbrev rf (n0 i : Nat) : Value := .ref (n0 + i)
abbrev Ob : Type := (Nat × List Value) ⊕ (FieldType × List Value)
abbrev KTab : Type := List (String × List (String × String × String))
def ObAt (Z : State) (K : KTab) (h : Heap) (a : Addr) : Ob → Prop
  | .inl (k, vs) => ∃ C fs, K[k]? = some (C, fs) ∧ Exa Z h a C ∧ vs.length = fs.length ∧ ∀ (j : Nat) (f : String × String × String) (v : Value), fs[j]? = some f → vs[j]? = some v → Fld Z h a f.1 f.2.1 f.2.2 v
  | .inr (ty, vs) => (Exa Z h a ("[" ++ ty.toString) ∧ ∀ v ∈ vs, fits ty v = true) ∧ ∃ c : Cell, Arr Z h a c ty ∧ c.slots = vs.toArray ∧ ∀ C, ty = .object C → Ovr Z c.cls C
def Rel (Z : State) (K : KTab) (n0 : Nat) (h : Heap) (A : List Ob) : Prop := h.size = n0 + A.length ∧ ∀ (i : Nat) (o : Ob), A[i]? = some o → ObAt Z K h (n0 + i) o
def KOk (Z : State) (a0 : Array Value) (K : KTab) : Prop := ∀ (k : Nat) (C : String) (fs : List (String × String × String)), K[k]? = some (C, fs) →
  (∃ n, (Cond.instantiable C n).before a0 Z = true) ∧ (∀ (j : Nat) (f : String × String × String), fs[j]? = some f → Laid Z a0 C f.1 f.2.1 f.2.2 ∧ ∃ t, parseFieldDescriptor f.2.2 = some t) ∧
  ∀ (i j : Nat) (f g : String × String × String), fs[i]? = some f → fs[j]? = some g → i ≠ j → f.2.1 ≠ g.2.1
section Facts
variable {Z : State} {a0 : Array Value} {K : KTab} {h h' : Heap} {a b : Addr} {o o' : Ob} {n0 : Nat} {A : List Ob} {sl : Nat} {v : Value}
theorem ObAt.ext (E : Ext h h') (F : ObAt Z K h a o) : ObAt Z K h' a o := by
  rcases o with ⟨k, vs⟩ | ⟨ty, vs⟩
  · obtain ⟨C, fs, h1, h2, h3, h4⟩ := F
    exact ⟨C, fs, h1, h2.ext E, h3, fun j f v q r => (h4 j f v q r).ext E⟩
  · obtain ⟨⟨h1, hf⟩, c, h2, h3, h4⟩ := F
    exact ⟨⟨h1.ext E, hf⟩, c, h2.ext E, h3, h4⟩
theorem ObAt.other (W : Wr h h' b sl v) (hne : a ≠ b) (F : ObAt Z K h a o) : ObAt Z K h' a o := by
  rcases o with ⟨k, vs⟩ | ⟨ty, vs⟩
  · obtain ⟨C, fs, h1, h2, h3, h4⟩ := F
    exact ⟨C, fs, h1, h2.wr W, h3, fun j f v q r => (h4 j f v q r).other W (Or.inl hne)⟩
  · obtain ⟨⟨h1, hf⟩, c, h2, h3, h4⟩ := F
    exact ⟨⟨h1.wr W, hf⟩, c, h2.other W hne, h3, h4⟩
theorem ObAt.keep {ws : List Addr} (E : Keep h h' ws) (hne : a ∉ ws) (F : ObAt Z K h a o) : ObAt Z K h' a o := by
  rcases o with ⟨k, vs⟩ | ⟨ty, vs⟩
  · obtain ⟨C, fs, h1, h2, h3, h4⟩ := F
    exact ⟨C, fs, h1, h2.keep E, h3, fun j f v q r => (h4 j f v q r).keep E hne⟩
  · obtain ⟨⟨h1, hf⟩, c, h2, h3, h4⟩ := F
    exact ⟨⟨h1.keep E, hf⟩, c, ⟨E.2.1 a c h2.1 hne, h2.2⟩, h3, h4⟩
theorem Rel.keep {i : Nat} (R : Rel Z K n0 h A) (E : Keep h h' [n0 + i]) (hs : h'.size = h.size) (hO : ObAt Z K h' (n0 + i) o') : Rel Z K n0 h' (A.set i o') := by
  refine ⟨by rw [hs, R.1]; simp, fun j o hj => ?_⟩
  by_cases e : i = j
  · subst e
    obtain ⟨hl, -⟩ := List.getElem?_eq_some_iff.mp hj
    rw [List.getElem?_set_self (by simpa using hl)] at hj
    cases hj; exact hO
  · rw [List.getElem?_set_ne e] at hj
    exact (R.2 j o hj).keep E (fun q => e (Nat.add_left_cancel (List.mem_singleton.mp q)).symm)
theorem ObAt.exa {k : Nat} {vs : List Value} {C : String} {fs : List (String × String × String)} (hk : K[k]? = some (C, fs)) (F : ObAt Z K h a (.inl (k, vs))) : Exa Z h a C := by
  obtain ⟨C', fs', h1, h2, -⟩ := F
  cases hk.symm.trans h1; exact h2
theorem Rel.push (R : Rel Z K n0 h A) (E : Ext h h') (hs : h'.size = n0 + (A.length + 1)) (hN : ObAt Z K h' (n0 + A.length) o) : Rel Z K n0 h' (A ++ [o]) := by
  refine ⟨by rw [hs]; simp, fun i o' hi => ?_⟩
  by_cases hlt : i < A.length
  · rw [List.getElem?_append_left hlt] at hi; exact (R.2 i o' hi).ext E
  · rw [List.getElem?_append_right (by omega)] at hi
    have he : i - A.length = 0 := by
      have := (List.getElem?_eq_some_iff.mp hi).1
      simp at this; omega
    rw [he] at hi
    cases hi
    have : i = A.length := by omega
    rw [this]; exact hN
theorem Rel.set {i : Nat} (R : Rel Z K n0 h A) (W : Wr h h' (n0 + i) sl v) (hO : ObAt Z K h' (n0 + i) o') : Rel Z K n0 h' (A.set i o') := by
  refine ⟨by rw [W.size, R.1]; simp, fun j o hj => ?_⟩
  by_cases e : i = j
  · subst e
    obtain ⟨hl, -⟩ := List.getElem?_eq_some_iff.mp hj
    rw [List.getElem?_set_self (by simpa using hl)] at hj
    cases hj; exact hO
  · rw [List.getElem?_set_ne e] at hj
    exact (R.2 j o hj).other W (fun q => e (Nat.add_left_cancel q).symm)
theorem ObAt.setF (KK : KOk Z a0 K) {k j : Nat} {vs : List Value} {C : String} {fs : List (String × String × String)} {f : String × String × String} (hk : K[k]? = some (C, fs)) (hj : fs[j]? = some f) (W : Wr h h' a (RoadKit.slotOf Z f.1 f.2.1 f.2.2) v) (F : ObAt Z K h a (.inl (k, vs))) : ObAt Z K h' a (.inl (k, vs.set j v)) := by
  obtain ⟨C', fs', h1, h2, h3, h4⟩ := F
  cases hk.symm.trans h1
  refine ⟨C, fs, hk, h2.wr W, by simpa using h3, fun j' f' v' q r => ?_⟩
  by_cases e : j = j'
  · subst e
    cases hj.symm.trans q
    have hl : j < vs.length := by rw [h3]; exact (List.getElem?_eq_some_iff.mp hj).1
    rw [List.getElem?_set_self hl] at r
    cases r
    exact (h4 j f vs[j] hj (List.getElem?_eq_getElem hl)).same W
  · rw [List.getElem?_set_ne e] at r
    obtain ⟨-, k2, k3⟩ := KK k C fs hk
    obtain ⟨L1, t1, p1⟩ := k2 j f hj
    obtain ⟨L2, t2, p2⟩ := k2 j' f' q
    exact (h4 j' f' v' q r).other W (Or.inr (slot_ne L2 L1 (k3 j' j f' f q hj (Ne.symm e)) p2 p1))
theorem ObAt.setA {ty : FieldType} {vs : List Value} {j : Nat} (W : Wr h h' a j v) (hv : fits ty v = true) (F : ObAt Z K h a (.inr (ty, vs))) : ObAt Z K h' a (.inr (ty, vs.set j v)) := by
  obtain ⟨⟨h1, hf⟩, c, h2, h3, h4⟩ := F
  refine ⟨⟨h1.wr W, fun w hw => ?_⟩, c.setSlot j v, h2.same W, ?_, h4⟩
  · rcases List.mem_or_eq_of_mem_set hw with q | rfl
    · exact hf w q
    · exact hv
  simp [Cell.setSlot, h3]
end Facts
/-! ## The walk -/
def Go (p : Program) (l : Launch) (e : Env) (R : Room) (s : State) (m : MethodId) (args : Array Value) (below : List Frame) (meth : Method) (c : Code) (Z : State) (K : KTab) (n0 : Nat) (Q : Option Value → List Ob → Prop)
    (pc : Nat) (ls : Array Slot) (st : List Value) (A : List Ob) (k n : Nat) : Prop :=
  ∀ (T : State) (locs : List Loc), Stand p l e R s m args below meth c T locs k n → Rel Z K n0 T.heap A → Fr n0 locs →
    ∃ s₂ o, Steps p.tables e below (T.setTop (mkF m pc ls st)) s₂ ∧ s₂.status = .running ∧ Ended s₂ below o ∧ ∃ v L, o = .returned v ∧ (∃ A', Q v A' ∧ Rel Z K n0 s₂.heap A' ∧ Fr n0 L) ∧ FrameEnd s o s₂ L R.cells R.slots
abbrev GoT : Type := Nat → Array Slot → List Value → List Ob → Nat → Nat → Prop
def IsGo (l : Launch) (Z : State) (a0 : Array Value) (K : KTab) (n0 b0 : Nat) (y : MethodName) (bytes : ByteArray) (maxL : Nat) (ret : Option FieldType) (R : Room) (Q : Option Value → List Ob → Prop) (G : GoT) : Prop :=
  ∃ (p : Program) (e : Env) (s : State) (m : MethodId) (args : Array Value) (below : List Frame) (meth : Method) (c : Code), p.tables.exec = Jvm.exec ∧ c.code = bytes ∧ c.maxLocals = maxL ∧ s.vm.findClass y.cls = some m.cls ∧ meth.name = y.name ∧ meth.sig.returnType = ret ∧ meth.locks = false ∧ Z.Warmed39 s.vm ∧ KOk Z a0 K ∧ s.heap.size = n0 + b0 ∧ G = Go p l e R s m args below meth c Z K n0 Q
/-- the contract of a method, by its arguments and the abstract heap -/
def Met (l : Launch) (Z : State) (K : KTab) (n0 : Nat) (y : MethodName) (bytes : ByteArray) (maxL : Nat) (ret : Option FieldType) (R : Room) (as : Array Value) (A : List Ob) (Q : Option Value → List Ob → Prop) : Prop :=
  ∀ (ws : List Jvm.Cond) (h0 : Heap), Rel Z K n0 h0 A → MetFree l y (head1 (Jvm.Cond.code y bytes maxL ret :: ws) R) (fun a U => a = as ∧ Z.Warmed39 U.vm ∧ U.heap = h0) (fun _ _ _ _ _ => True)
    (fun _ U o U' => ∃ v L, o = .returned v ∧ (∃ A', Q v A' ∧ Rel Z K n0 U'.heap A' ∧ Fr n0 L) ∧ FrameEnd U o U' L R.cells R.slots)
def Nx (b : ByteArray) (pc : Nat) (i : Instr) (len pc' : Nat) : Prop := decode b pc = .ok (i, len) ∧ pc' = pc + len
def Bx (b : ByteArray) (pc : Nat) (i : Int → Instr) (t f : Nat) : Prop := ∃ o : Int, decode b pc = .ok (i o, 3) ∧ 0 ≤ (pc : Int) + o ∧ ((pc : Int) + o).toNat = t ∧ f = pc + 3
theorem get_set_self {A : List Ob} {i : Nat} {o o' : Ob} (h : A[i]? = some o) : (A.set i o')[i]? = some o' := List.getElem?_set_self (List.getElem?_eq_some_iff.mp h).1
theorem get_set_ne {A : List Ob} {i j : Nat} {o o' : Ob} (h : A[j]? = some o) (hne : i ≠ j) : (A.set i o')[j]? = some o := by rw [List.getElem?_set_ne hne]; exact h
theorem len_set {A : List Ob} {i N : Nat} {o : Ob} (h : A.length = N) : (A.set i o).length = N := by simpa using h
theorem get_app {A : List Ob} {i : Nat} {o o' : Ob} (h : A[i]? = some o) : (A ++ [o'])[i]? = some o := by rw [List.getElem?_append_left (List.getElem?_eq_some_iff.mp h).1]; exact h
theorem get_last {A : List Ob} {N : Nat} {o : Ob} (h : A.length = N) : (A ++ [o])[N]? = some o := by subst h; simp
theorem len_app {A : List Ob} {N : Nat} {o : Ob} (h : A.length = N) : (A ++ [o]).length = N + 1 := by simp [h]
theorem npOf {d : String} {ps : List FieldType} {r : Option FieldType} {n : Nat} (hd : parseMethodDescriptor d = some ⟨ps, r⟩) (hl : n = ps.length) : ∀ sig, parseMethodDescriptor d = some sig → n = sig.parameters.length := fun sig h => by cases hd.symm.trans h; exact hl
theorem leb {a b : Nat} (h : Nat.ble a b = true) : a ≤ b := Nat.le_of_ble_eq_true h
theorem ltb {a b : Nat} (h : Nat.ble (a + 1) b = true) : a < b := Nat.le_of_ble_eq_true h
theorem fa0 {α : Type} {P : α → Prop} : ∀ x ∈ ([] : List α), P x := fun _ q => nomatch q
theorem faS {α : Type} {P : α → Prop} {y : α} {L : List α} (q : P y) (r : ∀ x ∈ L, P x) : ∀ x ∈ y :: L, P x := fun x z => (List.mem_cons.mp z).elim (fun u => u ▸ q) (r x)
theorem kokOf {Z : State} {a0 : Array Value} {K : KTab} (h : ∀ p ∈ K, (∃ n, (Jvm.Cond.instantiable p.1 n).before a0 Z = true) ∧ (∀ f ∈ p.2, Laid Z a0 p.1 f.1 f.2.1 f.2.2 ∧ ∃ t, parseFieldDescriptor f.2.2 = some t) ∧ (p.2.map (·.2.1)).Nodup) : KOk Z a0 K := by
  intro k C fs hk
  obtain ⟨h1, h2, h3⟩ := h _ (List.mem_of_getElem? hk)
  refine ⟨h1, fun j f hj => h2 f (List.mem_of_getElem? hj), fun i j f g hi hj hne e => hne ?_⟩
  have q1 : (fs.map (·.2.1))[i]? = some f.2.1 := by simp [List.getElem?_map, hi]
  have q2 : (fs.map (·.2.1))[j]? = some f.2.1 := by simp [List.getElem?_map, hj, e]
  obtain ⟨l1, e1⟩ := List.getElem?_eq_some_iff.mp q1
  obtain ⟨l2, e2⟩ := List.getElem?_eq_some_iff.mp q2
  have h4 := List.pairwise_iff_getElem.mp h3
  rcases Nat.lt_trichotomy i j with q | q | q
  · exact absurd (e1.trans e2.symm) (h4 i j l1 l2 q)
  · exact q
  · exact absurd (e2.trans e1.symm) (h4 j i l2 l1 q)
def Is (v : Option Value) (A' : List Ob) : Option Value → List Ob → Prop := fun v' B => v' = v ∧ B = A'
theorem i_lt {u v : Int32} {a b : Int} (hu : u.toInt = a) (hv : v.toInt = b) : u < v ↔ a < b := by subst hu hv; exact Int32.lt_iff_toInt_lt
theorem i_ge {u v : Int32} {a b : Int} (hu : u.toInt = a) (hv : v.toInt = b) : ¬ u < v ↔ b ≤ a := by rw [i_lt hu hv]; omega
theorem i_eq {u v : Int32} {a b : Int} (hu : u.toInt = a) (hv : v.toInt = b) : u = v ↔ a = b := by subst hu hv; exact Int32.toInt_inj.symm
theorem i_ne {u v : Int32} {a b : Int} (hu : u.toInt = a) (hv : v.toInt = b) : ¬ u = v ↔ ¬ a = b := not_congr (i_eq hu hv)
theorem j_lt {u v : Int64} {a b : Int} (hu : u.toInt = a) (hv : v.toInt = b) : u < v ↔ a < b := by subst hu hv; exact Int64.lt_iff_toInt_lt
theorem j_ge {u v : Int64} {a b : Int} (hu : u.toInt = a) (hv : v.toInt = b) : ¬ u < v ↔ b ≤ a := by rw [j_lt hu hv]; omega
theorem j_eq {u v : Int64} {a b : Int} (hu : u.toInt = a) (hv : v.toInt = b) : u = v ↔ a = b := by subst hu hv; exact Int64.toInt_inj.symm
theorem j_ne {u v : Int64} {a b : Int} (hu : u.toInt = a) (hv : v.toInt = b) : ¬ u = v ↔ ¬ a = b := not_congr (j_eq hu hv)
theorem x_iadd {a b : Int32} {x y : Int} (ha : a.toInt = x) (hb : b.toInt = y) (h : -2147483648 ≤ x + y ∧ x + y < 2147483648) : (a + b).toInt = x + y := by
  have q := c_iadd a b
  have r := rng32 (a + b)
  rw [ha, hb] at q
  omega
theorem x_isub {a b : Int32} {x y : Int} (ha : a.toInt = x) (hb : b.toInt = y) (h : -2147483648 ≤ x - y ∧ x - y < 2147483648) : (a - b).toInt = x - y := by
  have q := c_isub a b
  have r := rng32 (a - b)
  rw [ha, hb] at q
  omega
theorem x_imul {a b : Int32} {x y : Int} (ha : a.toInt = x) (hb : b.toInt = y) (h : -2147483648 ≤ x * y ∧ x * y < 2147483648) : (a * b).toInt = x * y := by
  have q := c_imul a b
  have r := rng32 (a * b)
  rw [ha, hb] at q
  omega
theorem x_ineg {a : Int32} {x : Int} (ha : a.toInt = x) (h : -2147483648 < x) : (-a).toInt = -x := by
  have q := c_ineg a
  have r := rng32 (-a)
  have r2 := rng32 a
  rw [ha] at q r2
  omega
theorem x_ladd {a b : Int64} {x y : Int} (ha : a.toInt = x) (hb : b.toInt = y) (h : -9223372036854775808 ≤ x + y ∧ x + y < 9223372036854775808) : (a + b).toInt = x + y := by
  have q := c_ladd a b
  have r := rng64 (a + b)
  rw [ha, hb] at q
  omega
theorem x_lsub {a b : Int64} {x y : Int} (ha : a.toInt = x) (hb : b.toInt = y) (h : -9223372036854775808 ≤ x - y ∧ x - y < 9223372036854775808) : (a - b).toInt = x - y := by
  have q := c_lsub a b
  have r := rng64 (a - b)
  rw [ha, hb] at q
  omega
theorem x_lmul {a b : Int64} {x y : Int} (ha : a.toInt = x) (hb : b.toInt = y) (h : -9223372036854775808 ≤ x * y ∧ x * y < 9223372036854775808) : (a * b).toInt = x * y := by
  have q := c_lmul a b
  have r := rng64 (a * b)
  rw [ha, hb] at q
  omega
theorem x_lneg {a : Int64} {x : Int} (ha : a.toInt = x) (h : -9223372036854775808 < x) : (-a).toInt = -x := by
  have q := c_lneg a
  have r := rng64 (-a)
  have r2 := rng64 a
  rw [ha] at q r2
  omega
theorem x_irem {a b : Int32} {x y : Int} (ha : a.toInt = x) (hb : b.toInt = y) (h : 0 ≤ x) : (a % b).toInt = x % y := by
  rw [(c_irem a b y hb).1 (by rw [ha]; exact h), ha]
theorem x_idiv {a b : Int32} {x y : Int} (ha : a.toInt = x) (hb : b.toInt = y) (h : 0 ≤ x) (hy : 0 < y) : (a / b).toInt = x / y := by
  have hm : b ≠ -1 := fun e => by
    have q : (-1 : Int32).toInt = -1 := by decide
    rw [e, q] at hb
    omega
  rw [(c_idiv a b y hb hm).1 (by rw [ha]; exact h), ha]
theorem x_i2l {a : Int32} {x : Int} (ha : a.toInt = x) : (a.toInt64).toInt = x := by rw [c_i2l]; exact ha
theorem x_l2i {a : Int64} {x : Int} (ha : a.toInt = x) (h : -2147483648 ≤ x ∧ x < 2147483648) : (a.toInt32).toInt = x := by
  have q := c_l2i a
  have r := rng32 a.toInt32
  rw [ha] at q
  omega
theorem mod_b {x y : Int} (hy : 0 < y) : 0 ≤ x % y ∧ x % y < y := ⟨Int.emod_nonneg _ (by omega), Int.emod_lt_of_pos _ hy⟩
section Rules
variable {l : Launch} {Z : State} {a0 : Array Value} {K : KTab} {n0 b0 : Nat} {y : MethodName} {bytes : ByteArray} {maxL : Nat} {ret : Option FieldType} {R : Room} {Q : Option Value → List Ob → Prop} {G : GoT}
variable {pc pc' : Nat} {ls ls' : Array Slot} {st st' : List Value} {A A' : List Ob} {k k' n n' : Nat}
theorem Met.of (KK : KOk Z a0 K) (hp : plainFor y = true) {as : Array Value} (hef : ∀ m, entryFrame m as maxL = mkF m 0 ls []) (body : ∀ G, IsGo l Z a0 K n0 A.length y bytes maxL ret R Q G → G 0 ls [] A 0 0) : Met l Z K n0 y bytes maxL ret R as A Q := by
  intro ws h0 hR
  refine MetFree.of_bodySF hp hisR ?_
  intro p e s m args below meth c s₁ Bd hml0 hP hK
  obtain ⟨rfl, hZ, hh⟩ := hP
  have e0 : s₁.heap = h0 := by rw [← hh, Bd.state]; rfl
  have H := body (Go p l e R s m args below meth c Z K n0 Q) ⟨p, e, s, m, args, below, meth, c, Bd.exec, Bd.bytes, hml0, findClass_of_methodNamed Bd.named, (name_of_methodNamed Bd.named Bd.method).1, Bd.returns, Bd.notSynchronized, hZ, KK, by rw [hh]; exact hR.1, rfl⟩
  obtain ⟨s₂, o, h1, h2, h3, h4⟩ := H s₁ [] (Stand.of_body Bd) (by rw [e0]; exact hR) (Fr.nil n0)
  exact ⟨s₂, o, castTop (hef m) h1, h2, h3, h4⟩
theorem Met.mono {as : Array Value} {Q' : Option Value → List Ob → Prop} (M : Met l Z K n0 y bytes maxL ret R as A Q) (h : ∀ v A', Q v A' → Q' v A') : Met l Z K n0 y bytes maxL ret R as A Q' := by
  intro ws h0 hR p e ha hc hk s m args below hf happ hP hK
  obtain ⟨n, o, h1, h2, h3, v, L, h4, ⟨A', h5, h6⟩, h7⟩ := M ws h0 hR p e ha hc hk s m args below hf happ hP hK
  exact ⟨n, o, h1, h2, h3, v, L, h4, ⟨A', h _ _ h5, h6⟩, h7⟩
theorem IsGo.lift (H : IsGo l Z a0 K n0 b0 y bytes maxL ret R Q G) (hs : ∀ {p : Program} {e : Env} {below : List Frame} {T target : State} {m : MethodId} {c : Code}, At T m c below → p.tables.exec = Jvm.exec → c.code = bytes → Steps p.tables e below (T.setTop (mkF m pc' ls' st')) target → Steps p.tables e below (T.setTop (mkF m pc ls st)) target)
    (h : G pc' ls' st' A k n) : G pc ls st A k n := by
  obtain ⟨p, e, s, m, args, below, meth, c, hx, hby, hml, hown, hnm, hret, hlk, hZ, hK, hb0, rfl⟩ := H
  intro T locs X hR hF
  obtain ⟨s₂, o, h1, h2⟩ := h T locs X hR hF
  exact ⟨s₂, o, hs X.here hx hby h1, h2⟩
/-! ### loads, stores, constants -/
theorem IsGo.iloadN (H : IsGo l Z a0 K n0 b0 y bytes maxL ret R Q G) {i : Fin 4} (hd : Nx bytes pc (.iload_n i) 1 pc') {v : Int32} (hl : ls[i.val]? = some (.val (.int v))) (h : G pc' ls (.int v :: st) A k n) : G pc ls st A k n := by
  obtain ⟨hd, rfl⟩ := hd
  exact H.lift (fun hA hx hby hr => XS.iloadN hA hx rfl (hb hby hd) hl hr) h
theorem IsGo.iload (H : IsGo l Z a0 K n0 b0 y bytes maxL ret R Q G) {i : Nat} (hd : Nx bytes pc (.iload i) 2 pc') {v : Int32} (hl : ls[i]? = some (.val (.int v))) (h : G pc' ls (.int v :: st) A k n) : G pc ls st A k n := by
  obtain ⟨hd, rfl⟩ := hd
  exact H.lift (fun hA hx hby hr => XS.iload hA hx rfl (hb hby hd) hl hr) h
theorem IsGo.lloadN (H : IsGo l Z a0 K n0 b0 y bytes maxL ret R Q G) {i : Fin 4} (hd : Nx bytes pc (.lload_n i) 1 pc') {v : Int64} (hl : ls[i.val]? = some (.val (.long v))) (h : G pc' ls (.long v :: st) A k n) : G pc ls st A k n := by
  obtain ⟨hd, rfl⟩ := hd
  exact H.lift (fun hA hx hby hr => XS.lloadN hA hx rfl (hb hby hd) hl hr) h
theorem IsGo.lload (H : IsGo l Z a0 K n0 b0 y bytes maxL ret R Q G) {i : Nat} (hd : Nx bytes pc (.lload i) 2 pc') {v : Int64} (hl : ls[i]? = some (.val (.long v))) (h : G pc' ls (.long v :: st) A k n) : G pc ls st A k n := by
  obtain ⟨hd, rfl⟩ := hd
  exact H.lift (fun hA hx hby hr => XS.lload hA hx rfl (hb hby hd) hl hr) h
theorem IsGo.aloadN (H : IsGo l Z a0 K n0 b0 y bytes maxL ret R Q G) {i : Fin 4} (hd : Nx bytes pc (.aload_n i) 1 pc') {v : Value} (hl : ls[i.val]? = some (.val v)) (hv : v.isRef = true) (h : G pc' ls (v :: st) A k n) : G pc ls st A k n := by
  obtain ⟨hd, rfl⟩ := hd
  exact H.lift (fun hA hx hby hr => XS.aloadN hA hx rfl (hb hby hd) hl hv hr) h
theorem IsGo.aload (H : IsGo l Z a0 K n0 b0 y bytes maxL ret R Q G) {i : Nat} (hd : Nx bytes pc (.aload i) 2 pc') {v : Value} (hl : ls[i]? = some (.val v)) (hv : v.isRef = true) (h : G pc' ls (v :: st) A k n) : G pc ls st A k n := by
  obtain ⟨hd, rfl⟩ := hd
  exact H.lift (fun hA hx hby hr => XS.aload hA hx rfl (hb hby hd) hl hv hr) h
theorem IsGo.istoreN (H : IsGo l Z a0 K n0 b0 y bytes maxL ret R Q G) {i : Fin 4} (hd : Nx bytes pc (.istore_n i) 1 pc') {v : Int32} (hl : storeLocals ls i.val (.int v) = some ls') (h : G pc' ls' st A k n) : G pc ls (.int v :: st) A k n := by
  obtain ⟨hd, rfl⟩ := hd
  exact H.lift (fun hA hx hby hr => XS.istoreN hA hx rfl (hb hby hd) rfl hl hr) h
theorem IsGo.istore (H : IsGo l Z a0 K n0 b0 y bytes maxL ret R Q G) {i : Nat} (hd : Nx bytes pc (.istore i) 2 pc') {v : Int32} (hl : storeLocals ls i (.int v) = some ls') (h : G pc' ls' st A k n) : G pc ls (.int v :: st) A k n := by
  obtain ⟨hd, rfl⟩ := hd
  exact H.lift (fun hA hx hby hr => XS.istore hA hx rfl (hb hby hd) rfl hl hr) h
theorem IsGo.lstoreN (H : IsGo l Z a0 K n0 b0 y bytes maxL ret R Q G) {i : Fin 4} (hd : Nx bytes pc (.lstore_n i) 1 pc') {v : Int64} (hl : storeLocals ls i.val (.long v) = some ls') (h : G pc' ls' st A k n) : G pc ls (.long v :: st) A k n := by
  obtain ⟨hd, rfl⟩ := hd
  exact H.lift (fun hA hx hby hr => XS.lstoreN hA hx rfl (hb hby hd) rfl hl hr) h
theorem IsGo.lstore (H : IsGo l Z a0 K n0 b0 y bytes maxL ret R Q G) {i : Nat} (hd : Nx bytes pc (.lstore i) 2 pc') {v : Int64} (hl : storeLocals ls i (.long v) = some ls') (h : G pc' ls' st A k n) : G pc ls (.long v :: st) A k n := by
  obtain ⟨hd, rfl⟩ := hd
  exact H.lift (fun hA hx hby hr => XS.lstore hA hx rfl (hb hby hd) rfl hl hr) h
theorem IsGo.astoreN (H : IsGo l Z a0 K n0 b0 y bytes maxL ret R Q G) {i : Fin 4} (hd : Nx bytes pc (.astore_n i) 1 pc') {v : Value} (hv : v.isRef = true) (hl : storeLocals ls i.val v = some ls') (h : G pc' ls' st A k n) : G pc ls (v :: st) A k n := by
  obtain ⟨hd, rfl⟩ := hd
  exact H.lift (fun hA hx hby hr => XS.astoreN hA hx rfl (hb hby hd) rfl hv hl hr) h
theorem IsGo.astore (H : IsGo l Z a0 K n0 b0 y bytes maxL ret R Q G) {i : Nat} (hd : Nx bytes pc (.astore i) 2 pc') {v : Value} (hv : v.isRef = true) (hl : storeLocals ls i v = some ls') (h : G pc' ls' st A k n) : G pc ls (v :: st) A k n := by
  obtain ⟨hd, rfl⟩ := hd
  exact H.lift (fun hA hx hby hr => XS.astore hA hx rfl (hb hby hd) rfl hv hl hr) h
theorem IsGo.iconst (H : IsGo l Z a0 K n0 b0 y bytes maxL ret R Q G) {i : Int} (hd : Nx bytes pc (.iconst i) 1 pc') {v : Int32} (hv : Int32.ofInt i = v) (h : G pc' ls (.int v :: st) A k n) : G pc ls st A k n := by
  obtain ⟨hd, rfl⟩ := hd
  subst hv
  exact H.lift (fun hA hx hby hr => XS.iconst hA hx rfl (hb hby hd) hr) h
theorem IsGo.bipush (H : IsGo l Z a0 K n0 b0 y bytes maxL ret R Q G) {i : Int} (hd : Nx bytes pc (.bipush i) 2 pc') {v : Int32} (hv : (Int8.ofInt i).toInt32 = v) (h : G pc' ls (.int v :: st) A k n) : G pc ls st A k n := by
  obtain ⟨hd, rfl⟩ := hd
  subst hv
  exact H.lift (fun hA hx hby hr => XS.bipush hA hx rfl (hb hby hd) hr) h
theorem IsGo.sipush (H : IsGo l Z a0 K n0 b0 y bytes maxL ret R Q G) {i : Int} (hd : Nx bytes pc (.sipush i) 3 pc') {v : Int32} (hv : (Int16.ofInt i).toInt32 = v) (h : G pc' ls (.int v :: st) A k n) : G pc ls st A k n := by
  obtain ⟨hd, rfl⟩ := hd
  subst hv
  exact H.lift (fun hA hx hby hr => XS.sipush hA hx rfl (hb hby hd) hr) h
theorem IsGo.lconst (H : IsGo l Z a0 K n0 b0 y bytes maxL ret R Q G) {i : Fin 2} (hd : Nx bytes pc (.lconst i) 1 pc') {v : Int64} (hv : Int64.ofNat i = v) (h : G pc' ls (.long v :: st) A k n) : G pc ls st A k n := by
  obtain ⟨hd, rfl⟩ := hd
  subst hv
  exact H.lift (fun hA hx hby hr => XS.lconst hA hx rfl (hb hby hd) hr) h
theorem IsGo.aconstNull (H : IsGo l Z a0 K n0 b0 y bytes maxL ret R Q G) (hd : Nx bytes pc .aconst_null 1 pc') (h : G pc' ls (.null :: st) A k n) : G pc ls st A k n := by
  obtain ⟨hd, rfl⟩ := hd
  exact H.lift (fun hA hx hby hr => XS.aconstNull hA hx rfl (hb hby hd) hr) h
theorem IsGo.ldc (H : IsGo l Z a0 K n0 b0 y bytes maxL ret R Q G) {i : Nat} (hd : Nx bytes pc (.ldc i) 2 pc') {v : Int32} (w : (Jvm.Cond.constant y.cls i v).before a0 Z = true) (h : G pc' ls (.int v :: st) A k n) : G pc ls st A k n := by
  obtain ⟨hd, rfl⟩ := hd
  obtain ⟨p, e, s, m, args, below, meth, c, hx, hby, hml, hown, hnm, hret, hlk, hZ, hK, hb0, rfl⟩ := H
  intro T locs X hR hF
  obtain ⟨s₂, o, h1, h2⟩ := h T locs X hR hF
  exact ⟨s₂, o, X.ldcInt hx hown (mvT hZ w) (g := mkF m pc ls st) rfl (hb hby hd) _ h1, h2⟩
theorem IsGo.ldc2 (H : IsGo l Z a0 K n0 b0 y bytes maxL ret R Q G) {i : Nat} (hd : Nx bytes pc (.ldc2_w i) 3 pc') {v : Int64} (w : (Jvm.Cond.constantLong y.cls i v).before a0 Z = true) (h : G pc' ls (.long v :: st) A k n) : G pc ls st A k n := by
  obtain ⟨hd, rfl⟩ := hd
  obtain ⟨p, e, s, m, args, below, meth, c, hx, hby, hml, hown, hnm, hret, hlk, hZ, hK, hb0, rfl⟩ := H
  intro T locs X hR hF
  obtain ⟨s₂, o, h1, h2⟩ := h T locs X hR hF
  exact ⟨s₂, o, X.ldc2Long hx hown (mvT hZ w) (g := mkF m pc ls st) rfl (hb hby hd) _ h1, h2⟩
/-! ### sums -/
theorem IsGo.iadd (H : IsGo l Z a0 K n0 b0 y bytes maxL ret R Q G) (hd : Nx bytes pc .iadd 1 pc') {u v w : Int32} (hw : u + v = w) (h : G pc' ls (.int w :: st) A k n) : G pc ls (.int v :: .int u :: st) A k n := by
  obtain ⟨hd, rfl⟩ := hd
  subst hw
  exact H.lift (fun hA hx hby hr => XS.iadd hA hx rfl (hb hby hd) rfl hr) h
theorem IsGo.ladd (H : IsGo l Z a0 K n0 b0 y bytes maxL ret R Q G) (hd : Nx bytes pc .ladd 1 pc') {u v w : Int64} (hw : u + v = w) (h : G pc' ls (.long w :: st) A k n) : G pc ls (.long v :: .long u :: st) A k n := by
  obtain ⟨hd, rfl⟩ := hd
  subst hw
  exact H.lift (fun hA hx hby hr => XS.ladd hA hx rfl (hb hby hd) rfl hr) h
theorem IsGo.isub (H : IsGo l Z a0 K n0 b0 y bytes maxL ret R Q G) (hd : Nx bytes pc .isub 1 pc') {u v w : Int32} (hw : u - v = w) (h : G pc' ls (.int w :: st) A k n) : G pc ls (.int v :: .int u :: st) A k n := by
  obtain ⟨hd, rfl⟩ := hd
  subst hw
  exact H.lift (fun hA hx hby hr => XS.isub hA hx rfl (hb hby hd) rfl hr) h
theorem IsGo.lsub (H : IsGo l Z a0 K n0 b0 y bytes maxL ret R Q G) (hd : Nx bytes pc .lsub 1 pc') {u v w : Int64} (hw : u - v = w) (h : G pc' ls (.long w :: st) A k n) : G pc ls (.long v :: .long u :: st) A k n := by
  obtain ⟨hd, rfl⟩ := hd
  subst hw
  exact H.lift (fun hA hx hby hr => XS.lsub hA hx rfl (hb hby hd) rfl hr) h
theorem IsGo.imul (H : IsGo l Z a0 K n0 b0 y bytes maxL ret R Q G) (hd : Nx bytes pc .imul 1 pc') {u v w : Int32} (hw : u * v = w) (h : G pc' ls (.int w :: st) A k n) : G pc ls (.int v :: .int u :: st) A k n := by
  obtain ⟨hd, rfl⟩ := hd
  subst hw
  exact H.lift (fun hA hx hby hr => XS.imul hA hx rfl (hb hby hd) rfl hr) h
theorem IsGo.lmul (H : IsGo l Z a0 K n0 b0 y bytes maxL ret R Q G) (hd : Nx bytes pc .lmul 1 pc') {u v w : Int64} (hw : u * v = w) (h : G pc' ls (.long w :: st) A k n) : G pc ls (.long v :: .long u :: st) A k n := by
  obtain ⟨hd, rfl⟩ := hd
  subst hw
  exact H.lift (fun hA hx hby hr => XS.lmul hA hx rfl (hb hby hd) rfl hr) h
theorem IsGo.iand (H : IsGo l Z a0 K n0 b0 y bytes maxL ret R Q G) (hd : Nx bytes pc .iand 1 pc') {u v w : Int32} (hw : u &&& v = w) (h : G pc' ls (.int w :: st) A k n) : G pc ls (.int v :: .int u :: st) A k n := by
  obtain ⟨hd, rfl⟩ := hd
  subst hw
  exact H.lift (fun hA hx hby hr => XS.iand hA hx rfl (hb hby hd) rfl hr) h
theorem IsGo.land (H : IsGo l Z a0 K n0 b0 y bytes maxL ret R Q G) (hd : Nx bytes pc .land 1 pc') {u v w : Int64} (hw : u &&& v = w) (h : G pc' ls (.long w :: st) A k n) : G pc ls (.long v :: .long u :: st) A k n := by
  obtain ⟨hd, rfl⟩ := hd
  subst hw
  exact H.lift (fun hA hx hby hr => XS.land hA hx rfl (hb hby hd) rfl hr) h
theorem IsGo.ior (H : IsGo l Z a0 K n0 b0 y bytes maxL ret R Q G) (hd : Nx bytes pc .ior 1 pc') {u v w : Int32} (hw : u ||| v = w) (h : G pc' ls (.int w :: st) A k n) : G pc ls (.int v :: .int u :: st) A k n := by
  obtain ⟨hd, rfl⟩ := hd
  subst hw
  exact H.lift (fun hA hx hby hr => XS.ior hA hx rfl (hb hby hd) rfl hr) h
theorem IsGo.lor (H : IsGo l Z a0 K n0 b0 y bytes maxL ret R Q G) (hd : Nx bytes pc .lor 1 pc') {u v w : Int64} (hw : u ||| v = w) (h : G pc' ls (.long w :: st) A k n) : G pc ls (.long v :: .long u :: st) A k n := by
  obtain ⟨hd, rfl⟩ := hd
  subst hw
  exact H.lift (fun hA hx hby hr => XS.lor hA hx rfl (hb hby hd) rfl hr) h
theorem IsGo.ixor (H : IsGo l Z a0 K n0 b0 y bytes maxL ret R Q G) (hd : Nx bytes pc .ixor 1 pc') {u v w : Int32} (hw : u ^^^ v = w) (h : G pc' ls (.int w :: st) A k n) : G pc ls (.int v :: .int u :: st) A k n := by
  obtain ⟨hd, rfl⟩ := hd
  subst hw
  exact H.lift (fun hA hx hby hr => XS.ixor hA hx rfl (hb hby hd) rfl hr) h
theorem IsGo.lxor (H : IsGo l Z a0 K n0 b0 y bytes maxL ret R Q G) (hd : Nx bytes pc .lxor 1 pc') {u v w : Int64} (hw : u ^^^ v = w) (h : G pc' ls (.long w :: st) A k n) : G pc ls (.long v :: .long u :: st) A k n := by
  obtain ⟨hd, rfl⟩ := hd
  subst hw
  exact H.lift (fun hA hx hby hr => XS.lxor hA hx rfl (hb hby hd) rfl hr) h
theorem IsGo.ishl (H : IsGo l Z a0 K n0 b0 y bytes maxL ret R Q G) (hd : Nx bytes pc .ishl 1 pc') {u v w : Int32} (hw : u <<< (v &&& 31) = w) (h : G pc' ls (.int w :: st) A k n) : G pc ls (.int v :: .int u :: st) A k n := by
  obtain ⟨hd, rfl⟩ := hd
  subst hw
  exact H.lift (fun hA hx hby hr => XS.ishl hA hx rfl (hb hby hd) rfl hr) h
theorem IsGo.ishr (H : IsGo l Z a0 K n0 b0 y bytes maxL ret R Q G) (hd : Nx bytes pc .ishr 1 pc') {u v w : Int32} (hw : u >>> (v &&& 31) = w) (h : G pc' ls (.int w :: st) A k n) : G pc ls (.int v :: .int u :: st) A k n := by
  obtain ⟨hd, rfl⟩ := hd
  subst hw
  exact H.lift (fun hA hx hby hr => XS.ishr hA hx rfl (hb hby hd) rfl hr) h
theorem IsGo.iushr (H : IsGo l Z a0 K n0 b0 y bytes maxL ret R Q G) (hd : Nx bytes pc .iushr 1 pc') {u v w : Int32} (hw : (u.toUInt32 >>> (v &&& 31).toUInt32).toInt32 = w) (h : G pc' ls (.int w :: st) A k n) : G pc ls (.int v :: .int u :: st) A k n := by
  obtain ⟨hd, rfl⟩ := hd
  subst hw
  exact H.lift (fun hA hx hby hr => XS.iushr hA hx rfl (hb hby hd) rfl hr) h
theorem IsGo.lshl (H : IsGo l Z a0 K n0 b0 y bytes maxL ret R Q G) (hd : Nx bytes pc .lshl 1 pc') {u w : Int64} {v : Int32} (hw : u <<< (v &&& 0x3f).toInt64 = w) (h : G pc' ls (.long w :: st) A k n) : G pc ls (.int v :: .long u :: st) A k n := by
  obtain ⟨hd, rfl⟩ := hd
  subst hw
  exact H.lift (fun hA hx hby hr => XS.lshl hA hx rfl (hb hby hd) rfl hr) h
theorem IsGo.lshr (H : IsGo l Z a0 K n0 b0 y bytes maxL ret R Q G) (hd : Nx bytes pc .lshr 1 pc') {u w : Int64} {v : Int32} (hw : u >>> (v &&& 0x3f).toInt64 = w) (h : G pc' ls (.long w :: st) A k n) : G pc ls (.int v :: .long u :: st) A k n := by
  obtain ⟨hd, rfl⟩ := hd
  subst hw
  exact H.lift (fun hA hx hby hr => XS.lshr hA hx rfl (hb hby hd) rfl hr) h
theorem IsGo.lushr (H : IsGo l Z a0 K n0 b0 y bytes maxL ret R Q G) (hd : Nx bytes pc .lushr 1 pc') {u w : Int64} {v : Int32} (hw : (u.toUInt64 >>> (v &&& 0x3f).toInt64.toUInt64).toInt64 = w) (h : G pc' ls (.long w :: st) A k n) : G pc ls (.int v :: .long u :: st) A k n := by
  obtain ⟨hd, rfl⟩ := hd
  subst hw
  exact H.lift (fun hA hx hby hr => XS.lushr hA hx rfl (hb hby hd) rfl hr) h
theorem IsGo.ineg (H : IsGo l Z a0 K n0 b0 y bytes maxL ret R Q G) (hd : Nx bytes pc .ineg 1 pc') {u : Int32} {w : Int32} (hw : -u = w) (h : G pc' ls (.int w :: st) A k n) : G pc ls (.int u :: st) A k n := by
  obtain ⟨hd, rfl⟩ := hd
  subst hw
  exact H.lift (fun hA hx hby hr => XS.ineg hA hx rfl (hb hby hd) rfl hr) h
theorem IsGo.lneg (H : IsGo l Z a0 K n0 b0 y bytes maxL ret R Q G) (hd : Nx bytes pc .lneg 1 pc') {u : Int64} {w : Int64} (hw : -u = w) (h : G pc' ls (.long w :: st) A k n) : G pc ls (.long u :: st) A k n := by
  obtain ⟨hd, rfl⟩ := hd
  subst hw
  exact H.lift (fun hA hx hby hr => XS.lneg hA hx rfl (hb hby hd) rfl hr) h
theorem IsGo.i2l (H : IsGo l Z a0 K n0 b0 y bytes maxL ret R Q G) (hd : Nx bytes pc .i2l 1 pc') {u : Int32} {w : Int64} (hw : u.toInt64 = w) (h : G pc' ls (.long w :: st) A k n) : G pc ls (.int u :: st) A k n := by
  obtain ⟨hd, rfl⟩ := hd
  subst hw
  exact H.lift (fun hA hx hby hr => XS.i2l hA hx rfl (hb hby hd) rfl hr) h
theorem IsGo.l2i (H : IsGo l Z a0 K n0 b0 y bytes maxL ret R Q G) (hd : Nx bytes pc .l2i 1 pc') {u : Int64} {w : Int32} (hw : u.toInt32 = w) (h : G pc' ls (.int w :: st) A k n) : G pc ls (.long u :: st) A k n := by
  obtain ⟨hd, rfl⟩ := hd
  subst hw
  exact H.lift (fun hA hx hby hr => XS.l2i hA hx rfl (hb hby hd) rfl hr) h
theorem IsGo.i2b (H : IsGo l Z a0 K n0 b0 y bytes maxL ret R Q G) (hd : Nx bytes pc .i2b 1 pc') {u : Int32} {w : Int32} (hw : u.toInt8.toInt32 = w) (h : G pc' ls (.int w :: st) A k n) : G pc ls (.int u :: st) A k n := by
  obtain ⟨hd, rfl⟩ := hd
  subst hw
  exact H.lift (fun hA hx hby hr => XS.i2b hA hx rfl (hb hby hd) rfl hr) h
theorem IsGo.idiv (H : IsGo l Z a0 K n0 b0 y bytes maxL ret R Q G) (hd : Nx bytes pc .idiv 1 pc') {u v w : Int32} (hv : v ≠ 0) (hw : u / v = w) (h : G pc' ls (.int w :: st) A k n) : G pc ls (.int v :: .int u :: st) A k n := by
  obtain ⟨hd, rfl⟩ := hd
  subst hw
  exact H.lift (fun hA hx hby hr => XS.idiv hA hx rfl (hb hby hd) rfl hv hr) h
theorem IsGo.irem (H : IsGo l Z a0 K n0 b0 y bytes maxL ret R Q G) (hd : Nx bytes pc .irem 1 pc') {u v w : Int32} (hv : v ≠ 0) (hw : u % v = w) (h : G pc' ls (.int w :: st) A k n) : G pc ls (.int v :: .int u :: st) A k n := by
  obtain ⟨hd, rfl⟩ := hd
  subst hw
  have q : u - u / v * v = u % v := irem_eq_mod u v
  rw [← q] at h
  exact H.lift (fun hA hx hby hr => XS.irem hA hx rfl (hb hby hd) rfl hv hr) h
theorem IsGo.ldiv (H : IsGo l Z a0 K n0 b0 y bytes maxL ret R Q G) (hd : Nx bytes pc .ldiv 1 pc') {u v w : Int64} (hv : v ≠ 0) (hw : u / v = w) (h : G pc' ls (.long w :: st) A k n) : G pc ls (.long v :: .long u :: st) A k n := by
  obtain ⟨hd, rfl⟩ := hd
  subst hw
  exact H.lift (fun hA hx hby hr => XS.ldiv hA hx rfl (hb hby hd) rfl hv hr) h
theorem IsGo.lrem (H : IsGo l Z a0 K n0 b0 y bytes maxL ret R Q G) (hd : Nx bytes pc .lrem 1 pc') {u v w : Int64} (hv : v ≠ 0) (hw : u % v = w) (h : G pc' ls (.long w :: st) A k n) : G pc ls (.long v :: .long u :: st) A k n := by
  obtain ⟨hd, rfl⟩ := hd
  subst hw
  rw [← lrem_mod u v] at h
  exact H.lift (fun hA hx hby hr => XS.lrem hA hx rfl (hb hby hd) rfl hv hr) h
theorem IsGo.iinc (H : IsGo l Z a0 K n0 b0 y bytes maxL ret R Q G) {i : Nat} {cst : Int} (hd : Nx bytes pc (.iinc i cst) 3 pc') {u w : Int32} (hl : ls[i]? = some (.val (.int u))) (hw : u + Int32.ofInt cst = w) (hl' : storeLocals ls i (.int w) = some ls') (h : G pc' ls' st A k n) : G pc ls st A k n := by
  obtain ⟨hd, rfl⟩ := hd
  subst hw
  exact H.lift (fun hA hx hby hr => XS.iinc hA hx rfl (hb hby hd) hl hl' hr) h
/-! ### the stack -/
theorem IsGo.dup (H : IsGo l Z a0 K n0 b0 y bytes maxL ret R Q G) (hd : Nx bytes pc .dup 1 pc') {u : Value} (hc : u.category = 1) (h : G pc' ls (u :: u :: st) A k n) : G pc ls (u :: st) A k n := by
  obtain ⟨hd, rfl⟩ := hd
  exact H.lift (fun hA hx hby hr => XS.dup hA hx rfl (hb hby hd) rfl hc hr) h
theorem IsGo.dupX1 (H : IsGo l Z a0 K n0 b0 y bytes maxL ret R Q G) (hd : Nx bytes pc .dup_x1 1 pc') {u v : Value} (hc : u.category = 1) (hc' : v.category = 1) (h : G pc' ls (u :: v :: u :: st) A k n) : G pc ls (u :: v :: st) A k n := by
  obtain ⟨hd, rfl⟩ := hd
  exact H.lift (fun hA hx hby hr => XS.dupX1 hA hx rfl (hb hby hd) rfl hc hc' hr) h
theorem IsGo.dup2 (H : IsGo l Z a0 K n0 b0 y bytes maxL ret R Q G) (hd : Nx bytes pc .dup2 1 pc') {u v : Value} (hc : u.category = 1) (hc' : v.category = 1) (h : G pc' ls (u :: v :: u :: v :: st) A k n) : G pc ls (u :: v :: st) A k n := by
  obtain ⟨hd, rfl⟩ := hd
  exact H.lift (fun hA hx hby hr => XT.dup2 hA hx rfl (hb hby hd) rfl hc hc' hr) h
theorem IsGo.dup2L (H : IsGo l Z a0 K n0 b0 y bytes maxL ret R Q G) (hd : Nx bytes pc .dup2 1 pc') {u : Int64} (h : G pc' ls (.long u :: .long u :: st) A k n) : G pc ls (.long u :: st) A k n := by
  obtain ⟨hd, rfl⟩ := hd
  exact H.lift (fun hA hx hby hr => XT.dup2L hA hx rfl (hb hby hd) rfl hr) h
theorem IsGo.pop (H : IsGo l Z a0 K n0 b0 y bytes maxL ret R Q G) (hd : Nx bytes pc .pop 1 pc') {u : Value} (hc : u.category = 1) (h : G pc' ls st A k n) : G pc ls (u :: st) A k n := by
  obtain ⟨hd, rfl⟩ := hd
  exact H.lift (fun hA hx hby hr => XS.pop hA hx rfl (hb hby hd) rfl hc hr) h
theorem dupX2_step {tb : Tables} [Ours tb] {e : Env} {below : List Frame} {T target : State} {m : MethodId} {c : Code} {g : JFrame} (h : At T m c below) (hx : tb.exec = Jvm.exec) (hg : g.method = m) {u v w : Value} {rest : List Value} (hd : decode c.code g.pc = .ok (.dup_x2, 1)) (hs : g.stack = u :: v :: w :: rest) (hc : u.category = 1) (hc2 : v.category = 1) (hc3 : w.category = 1)
    (hr : Steps tb e below (T.setTop { g with pc := g.pc + 1, stack := u :: v :: w :: u :: rest }) target) : Steps tb e below (T.setTop g) target := by
  subst hg
  jvm_step h [h.top, hx, hd, hs, hc, hc2, hc3, dup_x2.wp_sem]
  exact hr
theorem pop2L_step {tb : Tables} [Ours tb] {e : Env} {below : List Frame} {T target : State} {m : MethodId} {c : Code} {g : JFrame} (h : At T m c below) (hx : tb.exec = Jvm.exec) (hg : g.method = m) {u : Int64} {rest : List Value} (hd : decode c.code g.pc = .ok (.pop2, 1)) (hs : g.stack = .long u :: rest)
    (hr : Steps tb e below (T.setTop { g with pc := g.pc + 1, stack := rest }) target) : Steps tb e below (T.setTop g) target := by
  subst hg
  jvm_step h [h.top, hx, hd, hs, pop2.wp_sem, Value.category]
  exact hr
theorem IsGo.dupX2 (H : IsGo l Z a0 K n0 b0 y bytes maxL ret R Q G) (hd : Nx bytes pc .dup_x2 1 pc') {u v w : Value} (hc : u.category = 1) (hc' : v.category = 1) (hc3 : w.category = 1) (h : G pc' ls (u :: v :: w :: u :: st) A k n) : G pc ls (u :: v :: w :: st) A k n := by
  obtain ⟨hd, rfl⟩ := hd
  exact H.lift (fun hA hx hby hr => dupX2_step hA hx rfl (hb hby hd) rfl hc hc' hc3 hr) h
theorem IsGo.pop2L (H : IsGo l Z a0 K n0 b0 y bytes maxL ret R Q G) (hd : Nx bytes pc .pop2 1 pc') {u : Int64} (h : G pc' ls st A k n) : G pc ls (.long u :: st) A k n := by
  obtain ⟨hd, rfl⟩ := hd
  exact H.lift (fun hA hx hby hr => pop2L_step hA hx rfl (hb hby hd) rfl hr) h
/-! ### branches -/
theorem IsGo.goto (H : IsGo l Z a0 K n0 b0 y bytes maxL ret R Q G) {f : Nat} (hd : Bx bytes pc .goto pc' f) (h : G pc' ls st A k n) : G pc ls st A k n := by
  obtain ⟨o, hd, ho, hp, -⟩ := hd
  exact H.lift (fun hA hx hby hr => XS.goto hA hx rfl (pc0 := pc) (pc' := pc') rfl (hb hby hd) ho hp hr) h
/-- what a comparison of two ints says -/
def CP : ClassFile.Cond → Int32 → Int32 → Prop
  | .eq, u, v => u = v
  | .ne, u, v => ¬ u = v
  | .lt, u, v => u < v
  | .ge, u, v => ¬ u < v
  | .gt, u, v => v < u
  | .le, u, v => ¬ v < u
def CPL : ClassFile.Cond → Int64 → Int64 → Prop
  | .eq, u, v => u = v
  | .ne, u, v => ¬ u = v
  | .lt, u, v => u < v
  | .ge, u, v => ¬ u < v
  | .gt, u, v => v < u
  | .le, u, v => ¬ v < u
def ng : ClassFile.Cond → ClassFile.Cond
  | .eq => .ne | .ne => .eq | .lt => .ge | .ge => .lt | .gt => .le | .le => .gt
theorem cp_or (cd : ClassFile.Cond) (u v : Int32) : CP cd u v ∨ CP (ng cd) u v := by
  cases cd <;> simp only [CP, ng] <;> first | exact Classical.em _ | exact (Classical.em _).symm
theorem cpl_or (cd : ClassFile.Cond) (u v : Int64) : CPL cd u v ∨ CPL (ng cd) u v := by
  cases cd <;> simp only [CPL, ng] <;> first | exact Classical.em _ | exact (Classical.em _).symm
theorem cp_t {cd : ClassFile.Cond} {u v : Int32} (h : CP cd u v) : if_icmp.holds cd u v = true := by
  cases cd <;> simp only [CP] at h
  · exact XT.ii_eq_t h
  · exact XT.ii_ne_t h
  · exact XT.ii_lt_t h
  · exact XT.ii_ge_t h
  · exact XT.ii_gt_t h
  · exact XT.ii_le_t h
theorem cp_f {cd : ClassFile.Cond} {u v : Int32} (h : CP (ng cd) u v) : if_icmp.holds cd u v = false := by
  cases cd <;> simp only [CP, ng] at h
  · exact XT.ii_eq_f h
  · exact XT.ii_ne_f h
  · exact XT.ii_lt_f h
  · exact XT.ii_ge_f h
  · exact XT.ii_gt_f h
  · exact XT.ii_le_f h
theorem IsGo.icmpT (H : IsGo l Z a0 K n0 b0 y bytes maxL ret R Q G) {cd : ClassFile.Cond} {t f : Nat} (hd : Bx bytes pc (.if_icmp cd) t f) {u v : Int32} (hc : CP cd u v) (h : G t ls st A k n) : G pc ls (.int v :: .int u :: st) A k n := by
  obtain ⟨o, hd, ho, hp, rfl⟩ := hd
  exact H.lift (fun hA hx hby hr => XS.icmpYes hA hx rfl (pc0 := pc) (pc' := t) rfl (hb hby hd) rfl (cp_t hc) ho hp hr) h
theorem IsGo.icmpF (H : IsGo l Z a0 K n0 b0 y bytes maxL ret R Q G) {cd : ClassFile.Cond} {t f : Nat} (hd : Bx bytes pc (.if_icmp cd) t f) {u v : Int32} (hc : CP (ng cd) u v) (h : G f ls st A k n) : G pc ls (.int v :: .int u :: st) A k n := by
  obtain ⟨o, hd, ho, hp, rfl⟩ := hd
  exact H.lift (fun hA hx hby hr => XS.icmpNo hA hx rfl (hb hby hd) rfl (cp_f hc) hr) h
theorem IsGo.icmpS (H : IsGo l Z a0 K n0 b0 y bytes maxL ret R Q G) {cd : ClassFile.Cond} {t f : Nat} (hd : Bx bytes pc (.if_icmp cd) t f) {u v : Int32} (h1 : CP cd u v → G t ls st A k n) (h2 : CP (ng cd) u v → G f ls st A k n) : G pc ls (.int v :: .int u :: st) A k n :=
  (cp_or cd u v).elim (fun q => H.icmpT hd q (h1 q)) (fun q => H.icmpF hd q (h2 q))
theorem IsGo.ifT (H : IsGo l Z a0 K n0 b0 y bytes maxL ret R Q G) {cd : ClassFile.Cond} {t f : Nat} (hd : Bx bytes pc (.ifCond cd) t f) {u : Int32} (hc : CP cd u 0) (h : G t ls st A k n) : G pc ls (.int u :: st) A k n := by
  obtain ⟨o, hd, ho, hp, rfl⟩ := hd
  exact H.lift (fun hA hx hby hr => XS.ifYes hA hx rfl (pc0 := pc) (pc' := t) rfl (hb hby hd) rfl (by rw [if0]; exact cp_t hc) ho hp hr) h
theorem IsGo.ifF (H : IsGo l Z a0 K n0 b0 y bytes maxL ret R Q G) {cd : ClassFile.Cond} {t f : Nat} (hd : Bx bytes pc (.ifCond cd) t f) {u : Int32} (hc : CP (ng cd) u 0) (h : G f ls st A k n) : G pc ls (.int u :: st) A k n := by
  obtain ⟨o, hd, ho, hp, rfl⟩ := hd
  exact H.lift (fun hA hx hby hr => XS.ifNo hA hx rfl (hb hby hd) rfl (by rw [if0]; exact cp_f hc) hr) h
theorem IsGo.ifS (H : IsGo l Z a0 K n0 b0 y bytes maxL ret R Q G) {cd : ClassFile.Cond} {t f : Nat} (hd : Bx bytes pc (.ifCond cd) t f) {u : Int32} (h1 : CP cd u 0 → G t ls st A k n) (h2 : CP (ng cd) u 0 → G f ls st A k n) : G pc ls (.int u :: st) A k n :=
  (cp_or cd u 0).elim (fun q => H.ifT hd q (h1 q)) (fun q => H.ifF hd q (h2 q))
theorem cpl_cp {cd : ClassFile.Cond} {u v : Int64} (h : CPL cd u v) : CP cd (lcmpW u v) 0 := by
  cases cd <;> simp only [CPL] at h <;> simp only [CP]
  · exact (lw_eq u v).mpr h
  · exact fun q => h ((lw_eq u v).mp q)
  · exact (lw_lt u v).mpr h
  · exact fun q => h ((lw_lt u v).mp q)
  · exact (lw_gt u v).mpr h
  · exact fun q => h ((lw_gt u v).mp q)
theorem IsGo.lcmp (H : IsGo l Z a0 K n0 b0 y bytes maxL ret R Q G) (hd : Nx bytes pc .lcmp 1 pc') {u v : Int64} (h : G pc' ls (.int (lcmpW u v) :: st) A k n) : G pc ls (.long v :: .long u :: st) A k n := by
  obtain ⟨hd, rfl⟩ := hd
  exact H.lift (fun hA hx hby hr => XS.lcmp hA hx rfl (hb hby hd) rfl hr) h
theorem IsGo.lifT (H : IsGo l Z a0 K n0 b0 y bytes maxL ret R Q G) (hd0 : Nx bytes pc .lcmp 1 pc') {cd : ClassFile.Cond} {t f : Nat} (hd : Bx bytes pc' (.ifCond cd) t f) {u v : Int64} (hc : CPL cd u v) (h : G t ls st A k n) : G pc ls (.long v :: .long u :: st) A k n :=
  H.lcmp hd0 (H.ifT hd (cpl_cp hc) h)
theorem cpl_ng {cd : ClassFile.Cond} {u v : Int64} (h : CPL (ng cd) u v) : CP (ng cd) (lcmpW u v) 0 := cpl_cp h
theorem IsGo.lifF (H : IsGo l Z a0 K n0 b0 y bytes maxL ret R Q G) (hd0 : Nx bytes pc .lcmp 1 pc') {cd : ClassFile.Cond} {t f : Nat} (hd : Bx bytes pc' (.ifCond cd) t f) {u v : Int64} (hc : CPL (ng cd) u v) (h : G f ls st A k n) : G pc ls (.long v :: .long u :: st) A k n :=
  H.lcmp hd0 (H.ifF hd (cpl_ng hc) h)
theorem IsGo.lifS (H : IsGo l Z a0 K n0 b0 y bytes maxL ret R Q G) (hd0 : Nx bytes pc .lcmp 1 pc') {cd : ClassFile.Cond} {t f : Nat} (hd : Bx bytes pc' (.ifCond cd) t f) {u v : Int64} (h1 : CPL cd u v → G t ls st A k n) (h2 : CPL (ng cd) u v → G f ls st A k n) : G pc ls (.long v :: .long u :: st) A k n :=
  (cpl_or cd u v).elim (fun q => H.lifT hd0 hd q (h1 q)) (fun q => H.lifF hd0 hd q (h2 q))
theorem IsGo.ifnullT (H : IsGo l Z a0 K n0 b0 y bytes maxL ret R Q G) {t f : Nat} (hd : Bx bytes pc .ifnull t f) (h : G t ls st A k n) : G pc ls (.null :: st) A k n := by
  obtain ⟨o, hd, ho, hp, rfl⟩ := hd
  exact H.lift (fun hA hx hby hr => XS.ifnullYes hA hx rfl (pc0 := pc) (pc' := t) rfl (hb hby hd) rfl ho hp hr) h
theorem IsGo.ifnullF (H : IsGo l Z a0 K n0 b0 y bytes maxL ret R Q G) {t f : Nat} (hd : Bx bytes pc .ifnull t f) {b : Addr} (h : G f ls st A k n) : G pc ls (.ref b :: st) A k n := by
  obtain ⟨o, hd, ho, hp, rfl⟩ := hd
  exact H.lift (fun hA hx hby hr => XS.ifnullNo hA hx rfl (hb hby hd) rfl hr) h
theorem IsGo.ifnonnullT (H : IsGo l Z a0 K n0 b0 y bytes maxL ret R Q G) {t f : Nat} (hd : Bx bytes pc .ifnonnull t f) {b : Addr} (h : G t ls st A k n) : G pc ls (.ref b :: st) A k n := by
  obtain ⟨o, hd, ho, hp, rfl⟩ := hd
  exact H.lift (fun hA hx hby hr => XS.ifnonnullYes hA hx rfl (pc0 := pc) (pc' := t) rfl (hb hby hd) rfl ho hp hr) h
theorem IsGo.ifnonnullF (H : IsGo l Z a0 K n0 b0 y bytes maxL ret R Q G) {t f : Nat} (hd : Bx bytes pc .ifnonnull t f) (h : G f ls st A k n) : G pc ls (.null :: st) A k n := by
  obtain ⟨o, hd, ho, hp, rfl⟩ := hd
  exact H.lift (fun hA hx hby hr => XS.ifnonnullNo hA hx rfl (hb hby hd) rfl hr) h
theorem IsGo.acmp (H : IsGo l Z a0 K n0 b0 y bytes maxL ret R Q G) {cd : ClassFile.ACond} {t f : Nat} (hd : Bx bytes pc (.if_acmp cd) t f) {u v : Value} (h1 : u.isRef = true) (h2 : v.isRef = true) {same : Bool} (hq : decide (u = v) = same) (h : G (if acV cd same = true then t else f) ls st A k n) : G pc ls (v :: u :: st) A k n := by
  obtain ⟨o, hd, ho, hp, rfl⟩ := hd
  obtain ⟨p, e, s, m, args, below, meth, c, hx, hby, hml, hown, hnm, hret, hlk, hZ, hK, hb0, rfl⟩ := H
  intro T locs X hR hF
  obtain ⟨s₂, oo, q1, q2⟩ := h T locs X hR hF
  exact ⟨s₂, oo, RoadKit.acmp X hx (g := mkF m pc ls (v :: u :: st)) rfl h1 h2 (pc0 := pc) rfl (hb hby hd) rfl hq ho (by rw [hp]) q1, q2⟩
/-! ### the heap -/
def FL (Z : State) (a0 : Array Value) (K : KTab) (own : String) (idx k j : Nat) : Prop := ∃ C fs O nm d host, K[k]? = some (C, fs) ∧ fs[j]? = some (O, nm, d) ∧ ((Jvm.Cond.fieldLink own idx O nm d).before a0 Z = true ∨ (Jvm.Cond.fieldLinkNest own idx O nm d host).before a0 Z = true)
def PL (Z : State) (a0 : Array Value) (K : KTab) (own mname : String) (idx k j : Nat) (ty : FieldType) : Prop := ∃ C fs O nm d host, K[k]? = some (C, fs) ∧ fs[j]? = some (O, nm, d) ∧ ((Jvm.Cond.fieldLink own idx O nm d).before a0 Z = true ∨ (Jvm.Cond.fieldLinkNest own idx O nm d host).before a0 Z = true) ∧
  ((Jvm.Cond.lays C O nm d).before a0 Z = true ∨ ((Jvm.Cond.laysFinal C O nm d).before a0 Z = true ∧ own = O ∧ mname = "<init>")) ∧ parseFieldDescriptor d = some ty
theorem IsGo.getfield (H : IsGo l Z a0 K n0 b0 y bytes maxL ret R Q G) {idx kk j i : Nat} (hd : Nx bytes pc (.getfield idx) 3 pc') (L : FL Z a0 K y.cls idx kk j) {vs : List Value} {v : Value} (hA : A[i]? = some (.inl (kk, vs))) (hv : vs[j]? = some v) (h : G pc' ls (v :: st) A k n) : G pc ls (.ref (n0 + i) :: st) A k n := by
  obtain ⟨hd, rfl⟩ := hd
  obtain ⟨p, e, s, m, args, below, meth, c, hx, hby, hml, hown, hnm, hret, hlk, hZ, hK, hb0, rfl⟩ := H
  obtain ⟨C, fs, O, nm, d, host, hk, hj, w⟩ := L
  intro T locs X hR hF
  obtain ⟨C', fs', hk', hE, hlen, hf⟩ := hR.2 i _ hA
  cases hk.symm.trans hk'
  obtain ⟨T', X', eT, sp⟩ := getF X hx hZ hown w Via.refl rfl (hf j _ v hj hv) (g := mkF m pc ls (.ref (n0 + i) :: st)) rfl rfl (hb hby hd)
  obtain ⟨s₂, o, h1, h2⟩ := h T' locs X' (by rw [eT]; exact hR) hF
  exact ⟨s₂, o, sp _ h1, h2⟩
theorem IsGo.putfield (H : IsGo l Z a0 K n0 b0 y bytes maxL ret R Q G) {idx kk j i : Nat} {ty : FieldType} (hd : Nx bytes pc (.putfield idx) 3 pc') (L : PL Z a0 K y.cls y.name idx kk j ty) {vs : List Value} {v : Value} (hA : A[i]? = some (.inl (kk, vs))) (hn : narrow ty v = v) (hf : fits ty v = true) (hA' : A.set i (.inl (kk, vs.set j v)) = A') (h : G pc' ls st A' k n) : G pc ls (v :: .ref (n0 + i) :: st) A k n := by
  obtain ⟨hd, rfl⟩ := hd
  obtain ⟨p, e, s, m, args, below, meth, c, hx, hby, hml, hown, hnm, hret, hlk, hZ, hK, hb0, rfl⟩ := H
  obtain ⟨C, fs, O, nm, d, host, hk, hj, w, wl, hty⟩ := L
  subst hA'
  intro T locs X hR hF
  have hO := hR.2 i _ hA
  obtain ⟨C', fs', hk', hE, hlen, hfl⟩ := hR.2 i _ hA
  cases hk.symm.trans hk'
  obtain ⟨⟨ki, wi⟩, -, -⟩ := hK kk C fs hk
  have hlt : j < vs.length := by rw [hlen]; exact (List.getElem?_eq_some_iff.mp hj).1
  obtain ⟨T', h', X', eT, W, sp⟩ := putF X hx hZ hown w Via.refl rfl (hfl j _ vs[j] hj (List.getElem?_eq_getElem hlt)) hE (by rw [hnm]; exact wl) wi hty hn hf (g := mkF m pc ls (v :: .ref (n0 + i) :: st)) rfl rfl (hb hby hd)
  obtain ⟨s₂, o, h1, h2⟩ := h T' _ X' (by rw [eT]; exact hR.set W (hO.setF hK hk hj W)) (Fr.snoc X' hF (Nat.le_add_right _ _))
  exact ⟨s₂, o, sp _ h1, h2⟩
def NL (Z : State) (a0 : Array Value) (K : KTab) (own : String) (idx kk sz : Nat) (dv : List Value) : Prop := ∃ C fs, K[kk]? = some (C, fs) ∧ (Jvm.Cond.classLink own idx C).before a0 Z = true ∧ (Jvm.Cond.instantiable C sz).before a0 Z = true ∧ (Jvm.Cond.initialized C).before a0 Z = true ∧ fs.map (fun f => (parseFieldDescriptor f.2.2).map defaultValue) = dv.map some
theorem size_up {p : Program} {e : Env} {s T' : State} {m : MethodId} {args : Array Value} {below : List Frame} {meth : Method} {c : Code} {locs : List Loc} {h : Heap} (X : Stand p l e R s m args below meth c T' locs (k + 1) n) (hb : s.heap.size = n0 + b0) (hh : h.size = n0 + A.length) (hk : A.length = b0 + k) (hlt : h.size < T'.heap.size) : T'.heap.size = n0 + (A.length + 1) := by
  have := X.heapSize
  omega
theorem IsGo.new (H : IsGo l Z a0 K n0 b0 y bytes maxL ret R Q G) {idx kk sz i : Nat} {dv : List Value} (hd : Nx bytes pc (.new idx) 3 pc') (L : NL Z a0 K y.cls idx kk sz dv) (hk : A.length = b0 + k) (hc : k + 1 ≤ R.cells) (hs : n + sz ≤ R.slots) (hi : A.length = i) (hA' : A ++ [.inl (kk, dv)] = A') (hk' : k + 1 = k') (hn' : n + sz = n') (h : G pc' ls (.ref (n0 + i) :: st) A' k' n') : G pc ls st A k n := by
  obtain ⟨hd, rfl⟩ := hd
  obtain ⟨p, e, s, m, args, below, meth, c, hx, hby, hml, hown, hnm, hret, hlk, hZ, hK, hb0, rfl⟩ := H
  obtain ⟨C, fs, hkk, w1, w2, w3, hdv⟩ := L
  subst hA' hk' hn' hi
  intro T locs X hR hF
  obtain ⟨T', h', X', eT, E, EA, D, -, sp⟩ := newO X hx hZ hown w1 w2 w3 rfl (g := mkF m pc ls st) rfl (hb hby hd) hc hs
  have hsz : h'.size = n0 + (A.length + 1) := by rw [← eT]; exact size_up X' hb0 hR.1 hk (by rw [eT]; exact EA.lt)
  rw [hR.1] at EA D
  have hlen : dv.length = fs.length := by simpa using (congrArg List.length hdv).symm
  obtain ⟨-, kl, -⟩ := hK kk C fs hkk
  have hN : ObAt Z K h' (n0 + A.length) (.inl (kk, dv)) := ⟨C, fs, hkk, EA, hlen, fun j f v q r => by
    obtain ⟨L1, t, ht⟩ := kl j f q
    have e1 : (fs.map (fun f => (parseFieldDescriptor f.2.2).map defaultValue))[j]? = some (some (defaultValue t)) := by simp [List.getElem?_map, q, ht]
    rw [hdv, List.getElem?_map, r] at e1
    simp only [Option.map_some, Option.some.injEq] at e1
    rw [e1]; exact D L1 ht⟩
  obtain ⟨s₂, o, h1, h2⟩ := h T' locs X' (by rw [eT]; exact hR.push E hsz hN) hF
  rw [← hR.1] at h1
  exact ⟨s₂, o, sp _ h1, h2⟩
def AL (Z : State) (a0 : Array Value) (t : FieldType) : Prop := (Jvm.Cond.arrayClass t).before a0 Z = true
theorem tn_of {z : Int32} {N : Nat} (h : z.toInt = (N : Int)) : ¬ z < 0 ∧ z.toNatClampNeg = N := by
  constructor
  · intro q
    have := Int32.lt_iff_toInt_lt.mp q
    simp at this; omega
  · simp [Int32.toNatClampNeg, h]
theorem IsGo.newarray (H : IsGo l Z a0 K n0 b0 y bytes maxL ret R Q G) {aty : ArrayType} {i N cap : Nat} {z : Int32} {vs : List Value} {ty : FieldType} (hd : Nx bytes pc (.newarray aty) 2 pc') (hty : newarray.typeOf aty = ty) (w : AL Z a0 ty) (hz : z.toInt = (N : Int)) (hvs : List.replicate N (defaultValue ty) = vs) (hcap : N ≤ cap) (hbig : cap * 8 ≤ 536870912) (hk : A.length = b0 + k) (hc : k + 1 ≤ R.cells) (hs : n + cap ≤ R.slots) (hi : A.length = i) (hA' : A ++ [.inr (ty, vs)] = A') (hk' : k + 1 = k') (hn' : n + cap = n') (h : G pc' ls (.ref (n0 + i) :: st) A' k' n') : G pc ls (.int z :: st) A k n := by
  obtain ⟨hd, rfl⟩ := hd
  obtain ⟨p, e, s, m, args, below, meth, c, hx, hby, hml, hown, hnm, hret, hlk, hZ, hK, hb0, rfl⟩ := H
  subst hA' hk' hn' hi hty
  obtain ⟨z1, z2⟩ := tn_of hz
  intro T locs X hR hF
  obtain ⟨T', h', cA, X', eT, E, Ar, EA, sp⟩ := newPE X hx hZ w rfl (g := mkF m pc ls (.int z :: st)) rfl (hb hby hd) rfl z1 (by rw [z2]; exact hcap) hbig hc hs rfl
  have hsz : h'.size = n0 + (A.length + 1) := by rw [← eT]; exact size_up X' hb0 hR.1 hk (by rw [eT]; exact EA.lt)
  rw [hR.1] at EA Ar
  have hN : ObAt Z K h' (n0 + A.length) (.inr (newarray.typeOf aty, vs)) := ⟨⟨EA, fun w hw => by rw [← hvs] at hw; rw [(List.mem_replicate.mp hw).2]; cases aty <;> rfl⟩, _, Ar, by simp [newA, z2, ← hvs], fun C q => by cases aty <;> simp [newarray.typeOf] at q⟩
  obtain ⟨s₂, o, h1, h2⟩ := h T' locs X' (by rw [eT]; exact hR.push E hsz hN) hF
  rw [← hR.1] at h1
  exact ⟨s₂, o, sp _ h1, h2⟩
theorem IsGo.anewarray (H : IsGo l Z a0 K n0 b0 y bytes maxL ret R Q G) {idx i N cap : Nat} {z : Int32} {vs : List Value} {C : String} (hd : Nx bytes pc (.anewarray idx) 3 pc') (w1 : (Jvm.Cond.classLink y.cls idx C).before a0 Z = true) (w2 : (Jvm.Cond.arrayOver (.object C)).before a0 Z = true) (hz : z.toInt = (N : Int)) (hvs : List.replicate N Value.null = vs) (hcap : N ≤ cap) (hbig : cap * 8 ≤ 536870912) (hk : A.length = b0 + k) (hc : k + 1 ≤ R.cells) (hs : n + cap ≤ R.slots) (hi : A.length = i) (hA' : A ++ [.inr (.object C, vs)] = A') (hk' : k + 1 = k') (hn' : n + cap = n') (h : G pc' ls (.ref (n0 + i) :: st) A' k' n') : G pc ls (.int z :: st) A k n := by
  obtain ⟨hd, rfl⟩ := hd
  obtain ⟨p, e, s, m, args, below, meth, c, hx, hby, hml, hown, hnm, hret, hlk, hZ, hK, hb0, rfl⟩ := H
  subst hA' hk' hn' hi
  obtain ⟨z1, z2⟩ := tn_of hz
  intro T locs X hR hF
  obtain ⟨T', h', cA, X', eT, E, Ar, EA, Ov, sp⟩ := newRE X hx hZ hown w1 w2 rfl (g := mkF m pc ls (.int z :: st)) rfl (hb hby hd) rfl z1 (by rw [z2]; exact hcap) hbig hc hs rfl
  have hsz : h'.size = n0 + (A.length + 1) := by rw [← eT]; exact size_up X' hb0 hR.1 hk (by rw [eT]; exact EA.lt)
  rw [hR.1] at EA Ar
  have hN : ObAt Z K h' (n0 + A.length) (.inr (.object C, vs)) := ⟨⟨EA, fun w hw => by rw [← hvs] at hw; rw [(List.mem_replicate.mp hw).2]; rfl⟩, _, Ar, by simp [newA, z2, ← hvs, defaultValue], fun C' q => by cases q; exact Ov⟩
  obtain ⟨s₂, o, h1, h2⟩ := h T' locs X' (by rw [eT]; exact hR.push E hsz hN) hF
  rw [← hR.1] at h1
  exact ⟨s₂, o, sp _ h1, h2⟩
theorem arr_in {c : Cell} {vs : List Value} {z : Int32} {j : Nat} (hz : z.toInt = (j : Int)) (hs : c.slots = vs.toArray) (hj : j < vs.length) : ¬ (z < 0 ∨ c.slots.size ≤ z.toNatClampNeg) := by
  obtain ⟨z1, z2⟩ := tn_of hz
  rw [z2, hs]; simp [z1]; omega
theorem IsGo.arraylength (H : IsGo l Z a0 K n0 b0 y bytes maxL ret R Q G) (hd : Nx bytes pc .arraylength 1 pc') {i : Nat} {ty : FieldType} {vs : List Value} {z : Int32} (hA : A[i]? = some (.inr (ty, vs))) (hz : vs.length.toInt32 = z) (h : G pc' ls (.int z :: st) A k n) : G pc ls (.ref (n0 + i) :: st) A k n := by
  obtain ⟨hd, rfl⟩ := hd
  obtain ⟨p, e, s, m, args, below, meth, c, hx, hby, hml, hown, hnm, hret, hlk, hZ, hK, hb0, rfl⟩ := H
  subst hz
  intro T locs X hR hF
  obtain ⟨EA, cl, Ar, hcs, -⟩ := hR.2 i _ hA
  obtain ⟨s₂, o, h1, h2⟩ := h T locs X hR hF
  have q : vs.length = cl.slots.size := by rw [hcs]; simp
  rw [q] at h1
  exact ⟨s₂, o, X.arraylength hx Ar.1 (State.isArrayOf_alike hZ.alike Ar.2.1) (g := mkF m pc ls (.ref (n0 + i) :: st)) rfl rfl (hb hby hd) _ h1, h2⟩
theorem IsGo.iaload (H : IsGo l Z a0 K n0 b0 y bytes maxL ret R Q G) (hd : Nx bytes pc .iaload 1 pc') {i j : Nat} {vs : List Value} {z : Int32} {v : Value} (hA : A[i]? = some (.inr (.int, vs))) (hz : z.toInt = (j : Int)) (hv : vs[j]? = some v) (h : G pc' ls (v :: st) A k n) : G pc ls (.int z :: .ref (n0 + i) :: st) A k n := by
  obtain ⟨hd, rfl⟩ := hd
  obtain ⟨p, e, s, m, args, below, meth, c, hx, hby, hml, hown, hnm, hret, hlk, hZ, hK, hb0, rfl⟩ := H
  intro T locs X hR hF
  obtain ⟨EA, cl, Ar, hcs, -⟩ := hR.2 i _ hA
  obtain ⟨s₂, o, h1, h2⟩ := h T locs X hR hF
  exact ⟨s₂, o, X.iaload hx Ar.1 (State.isArrayOf_alike hZ.alike Ar.2.1) Ar.2.2 (arr_in hz hcs (List.getElem?_eq_some_iff.mp hv).1) (v := v) (by rw [(tn_of hz).2, hcs]; simpa using hv) (g := mkF m pc ls (.int z :: .ref (n0 + i) :: st)) rfl rfl (hb hby hd) _ h1, h2⟩
theorem IsGo.laload (H : IsGo l Z a0 K n0 b0 y bytes maxL ret R Q G) (hd : Nx bytes pc .laload 1 pc') {i j : Nat} {vs : List Value} {z : Int32} {v : Value} (hA : A[i]? = some (.inr (.long, vs))) (hz : z.toInt = (j : Int)) (hv : vs[j]? = some v) (h : G pc' ls (v :: st) A k n) : G pc ls (.int z :: .ref (n0 + i) :: st) A k n := by
  obtain ⟨hd, rfl⟩ := hd
  obtain ⟨p, e, s, m, args, below, meth, c, hx, hby, hml, hown, hnm, hret, hlk, hZ, hK, hb0, rfl⟩ := H
  intro T locs X hR hF
  obtain ⟨EA, cl, Ar, hcs, -⟩ := hR.2 i _ hA
  obtain ⟨s₂, o, h1, h2⟩ := h T locs X hR hF
  exact ⟨s₂, o, X.laload hx Ar.1 (State.isArrayOf_alike hZ.alike Ar.2.1) Ar.2.2 (arr_in hz hcs (List.getElem?_eq_some_iff.mp hv).1) (v := v) (by rw [(tn_of hz).2, hcs]; simpa using hv) (g := mkF m pc ls (.int z :: .ref (n0 + i) :: st)) rfl rfl (hb hby hd) _ h1, h2⟩
theorem IsGo.aaload (H : IsGo l Z a0 K n0 b0 y bytes maxL ret R Q G) (hd : Nx bytes pc .aaload 1 pc') {i j : Nat} {C : String} {vs : List Value} {z : Int32} {v : Value} (hA : A[i]? = some (.inr (.object C, vs))) (hz : z.toInt = (j : Int)) (hv : vs[j]? = some v) (h : G pc' ls (v :: st) A k n) : G pc ls (.int z :: .ref (n0 + i) :: st) A k n := by
  obtain ⟨hd, rfl⟩ := hd
  obtain ⟨p, e, s, m, args, below, meth, c, hx, hby, hml, hown, hnm, hret, hlk, hZ, hK, hb0, rfl⟩ := H
  intro T locs X hR hF
  obtain ⟨EA, cl, Ar, hcs, -⟩ := hR.2 i _ hA
  obtain ⟨s₂, o, h1, h2⟩ := h T locs X hR hF
  exact ⟨s₂, o, X.aaload hx Ar.1 (State.isArrayOf_alike hZ.alike Ar.2.1) rfl Ar.2.2 (arr_in hz hcs (List.getElem?_eq_some_iff.mp hv).1) (v := v) (by rw [(tn_of hz).2, hcs]; simpa using hv) (g := mkF m pc ls (.int z :: .ref (n0 + i) :: st)) rfl rfl (hb hby hd) _ h1, h2⟩
theorem IsGo.iastore (H : IsGo l Z a0 K n0 b0 y bytes maxL ret R Q G) (hd : Nx bytes pc .iastore 1 pc') {i j : Nat} {vs : List Value} {z v : Int32} (hA : A[i]? = some (.inr (.int, vs))) (hz : z.toInt = (j : Int)) (hj : j < vs.length) (hA' : A.set i (.inr (.int, vs.set j (.int v))) = A') (h : G pc' ls st A' k n) : G pc ls (.int v :: .int z :: .ref (n0 + i) :: st) A k n := by
  obtain ⟨hd, rfl⟩ := hd
  obtain ⟨p, e, s, m, args, below, meth, c, hx, hby, hml, hown, hnm, hret, hlk, hZ, hK, hb0, rfl⟩ := H
  subst hA'
  intro T locs X hR hF
  have hO := hR.2 i _ hA
  obtain ⟨EA, cl, Ar, hcs, -⟩ := hR.2 i _ hA
  obtain ⟨T', h', X', eT, W, sp⟩ := stI X hx hZ rfl Ar (arr_in hz hcs hj) (g := mkF m pc ls (.int v :: .int z :: .ref (n0 + i) :: st)) rfl rfl (hb hby hd)
  rw [(tn_of hz).2] at W
  obtain ⟨s₂, o, h1, h2⟩ := h T' _ X' (by rw [eT]; exact hR.set W (hO.setA W rfl)) (Fr.snoc X' hF (Nat.le_add_right _ _))
  exact ⟨s₂, o, sp _ h1, h2⟩
theorem IsGo.lastore (H : IsGo l Z a0 K n0 b0 y bytes maxL ret R Q G) (hd : Nx bytes pc .lastore 1 pc') {i j : Nat} {vs : List Value} {z : Int32} {v : Int64} (hA : A[i]? = some (.inr (.long, vs))) (hz : z.toInt = (j : Int)) (hj : j < vs.length) (hA' : A.set i (.inr (.long, vs.set j (.long v))) = A') (h : G pc' ls st A' k n) : G pc ls (.long v :: .int z :: .ref (n0 + i) :: st) A k n := by
  obtain ⟨hd, rfl⟩ := hd
  obtain ⟨p, e, s, m, args, below, meth, c, hx, hby, hml, hown, hnm, hret, hlk, hZ, hK, hb0, rfl⟩ := H
  subst hA'
  intro T locs X hR hF
  have hO := hR.2 i _ hA
  obtain ⟨EA, cl, Ar, hcs, -⟩ := hR.2 i _ hA
  obtain ⟨T', h', X', eT, W, sp⟩ := stJ X hx hZ rfl Ar (arr_in hz hcs hj) (g := mkF m pc ls (.long v :: .int z :: .ref (n0 + i) :: st)) rfl rfl (hb hby hd)
  rw [(tn_of hz).2] at W
  obtain ⟨s₂, o, h1, h2⟩ := h T' _ X' (by rw [eT]; exact hR.set W (hO.setA W rfl)) (Fr.snoc X' hF (Nat.le_add_right _ _))
  exact ⟨s₂, o, sp _ h1, h2⟩
theorem IsGo.bastore (H : IsGo l Z a0 K n0 b0 y bytes maxL ret R Q G) (hd : Nx bytes pc .bastore 1 pc') {i j : Nat} {vs : List Value} {z v w : Int32} (hA : A[i]? = some (.inr (.byte, vs))) (hz : z.toInt = (j : Int)) (hj : j < vs.length) (hw : nar .byte v = w) (hA' : A.set i (.inr (.byte, vs.set j (.int w))) = A') (h : G pc' ls st A' k n) : G pc ls (.int v :: .int z :: .ref (n0 + i) :: st) A k n := by
  obtain ⟨hd, rfl⟩ := hd
  obtain ⟨p, e, s, m, args, below, meth, c, hx, hby, hml, hown, hnm, hret, hlk, hZ, hK, hb0, rfl⟩ := H
  subst hA' hw
  intro T locs X hR hF
  have hO := hR.2 i _ hA
  obtain ⟨EA, cl, Ar, hcs, -⟩ := hR.2 i _ hA
  obtain ⟨T', h', X', eT, W, sp⟩ := stB X hx hZ rfl Ar (arr_in hz hcs hj) (g := mkF m pc ls (.int v :: .int z :: .ref (n0 + i) :: st)) rfl rfl (hb hby hd)
  rw [(tn_of hz).2] at W
  obtain ⟨s₂, o, h1, h2⟩ := h T' _ X' (by rw [eT]; exact hR.set W (hO.setA W (fits_nar_byte v))) (Fr.snoc X' hF (Nat.le_add_right _ _))
  exact ⟨s₂, o, sp _ h1, h2⟩
/-- the value can stand in an array of that class -/
def StoO (K : KTab) (C : String) (n0 : Nat) (A : List Ob) (v : Value) : Prop := v = .null ∨ ∃ i kk vs fs, v = .ref (n0 + i) ∧ A[i]? = some (.inl (kk, vs)) ∧ K[kk]? = some (C, fs)
theorem IsGo.aastore (H : IsGo l Z a0 K n0 b0 y bytes maxL ret R Q G) (hd : Nx bytes pc .aastore 1 pc') {i j : Nat} {C : String} {vs : List Value} {z : Int32} {v : Value} (hA : A[i]? = some (.inr (.object C, vs))) (hz : z.toInt = (j : Int)) (hj : j < vs.length) (hv : StoO K C n0 A v) (hA' : A.set i (.inr (.object C, vs.set j v)) = A') (h : G pc' ls st A' k n) : G pc ls (v :: .int z :: .ref (n0 + i) :: st) A k n := by
  obtain ⟨hd, rfl⟩ := hd
  obtain ⟨p, e, s, m, args, below, meth, c, hx, hby, hml, hown, hnm, hret, hlk, hZ, hK, hb0, rfl⟩ := H
  subst hA'
  intro T locs X hR hF
  have hO := hR.2 i _ hA
  obtain ⟨EA, cl, Ar, hcs, hov⟩ := hR.2 i _ hA
  have S : Sto Z T.heap (n0 + i) v := by
    rcases hv with rfl | ⟨i2, kk, vs2, fs, rfl, q1, q2⟩
    · exact Or.inl rfl
    · exact Sto.of Ar (hov C rfl) (Ins.self ((hR.2 i2 _ q1).exa q2))
  obtain ⟨T', h', X', eT, W, sp⟩ := stR X hx hZ rfl Ar (arr_in hz hcs hj) rfl S (g := mkF m pc ls (v :: .int z :: .ref (n0 + i) :: st)) rfl rfl (hb hby hd)
  rw [(tn_of hz).2] at W
  obtain ⟨s₂, o, h1, h2⟩ := h T' _ X' (by rw [eT]; exact hR.set W (hO.setA W (by rcases hv with rfl | ⟨i2, kk, vs2, fs, rfl, -⟩ <;> rfl))) (Fr.snoc X' hF (Nat.le_add_right _ _))
  exact ⟨s₂, o, sp _ h1, h2⟩
/-! ### arraycopy, clone, checkcast -/
def XL (Z : State) (a0 : Array Value) (own : String) (idx : Nat) : Prop := (Jvm.Cond.methodLink own idx Jvm.Stand.acN).before a0 Z = true ∧ (Jvm.Cond.native Jvm.Stand.acN).before a0 Z = true ∧ (Jvm.Cond.static Jvm.Stand.acN).before a0 Z = true ∧ (Jvm.Cond.initialized "java/lang/System").before a0 Z = true
theorem arv_of {h : Heap} {a : Addr} {ty : FieldType} {vs : List Value} (hl : vs.length < 2147483648) (F : ObAt Z K h a (.inr (ty, vs))) : ∃ kc : ClassId, Arv Z h a kc ty vs.length.toInt32 vs .null ∧ ∀ C, ty = .object C → Ovr Z kc C := by
  obtain ⟨⟨h1, hf⟩, c, h2, h3, h4⟩ := F
  have e := len_toInt (n := vs.length) (by omega)
  obtain ⟨z1, z2⟩ := tn_of e
  refine ⟨c.cls, ⟨c, h2, rfl, by rw [z2, h3]; simp, z1, fun k hk => ?_, fun i hi => ?_⟩, h4⟩
  · rw [h3] at hk ⊢
    have hk' : k < vs.length := by simpa using hk
    simp [List.getD, hk']
  · rw [h3] at hi
    have hi' : i < vs.length := by simpa using hi
    have : vs.getD i .null = vs[i] := by simp [List.getD, hi']
    rw [this]; exact hf _ (List.getElem_mem hi')
theorem slots_of {c : Cell} {vs : List Value} {d : Value} (hs : c.slots.size = vs.length) (hh : ∀ k, k < c.slots.size → c.slots[k]? = some (vs.getD k d)) : c.slots = vs.toArray := by
  apply Array.ext
  · simpa using hs
  · intro i h1 h2
    have q := hh i h1
    have h3 : i < vs.length := by simpa using h2
    rw [Array.getElem?_eq_getElem h1] at q
    have e : vs.getD i d = vs[i] := by simp [List.getD, h3]
    rw [e] at q
    simpa using q
theorem IsGo.arraycopy (H : IsGo l Z a0 K n0 b0 y bytes maxL ret R Q G) {idx : Nat} (hd : Nx bytes pc (.invokestatic idx) 3 pc') (L : XL Z a0 y.cls idx) {i j : Nat} {ty : FieldType} {vs vd us : List Value} {sp dp nn : Int32} {p q r : Nat} (hA : A[i]? = some (.inr (ty, vs))) (hB : A[j]? = some (.inr (ty, vd))) (hty : refKind ty = false) (h1 : sp.toInt = (p : Int)) (h2 : dp.toInt = (q : Int)) (h3 : nn.toInt = (r : Int)) (h4 : p + r ≤ vs.length) (h5 : q + r ≤ vd.length) (l1 : vs.length < 2147483648) (l2 : vd.length < 2147483648)
    (hus : (List.range r).map (fun i => vs.getD (p + i) .null) = us) (hls : ls.size = maxL) (hf : 1 ≤ R.frames) (hl : (st.map fun v => v.category).sum + (nativeFrameWords "java/lang/System" "arraycopy" 5 + 11) ≤ R.locals) (hk : A.length = b0 + k) (hA' : A.set j (.inr (ty, vd.take q ++ us ++ vd.drop (q + r))) = A') (h : G pc' ls st A' k n) : G pc ls (.int nn :: .int dp :: .ref (n0 + j) :: .int sp :: .ref (n0 + i) :: st) A k n := by
  obtain ⟨hd, rfl⟩ := hd
  obtain ⟨pp, e, s, m, args, below, meth, c, hx, hby, hml, hown, hnm, hret, hlk, hZ, hK, hb0, rfl⟩ := H
  obtain ⟨w1, w2, w3, w4⟩ := L
  subst hA'
  intro T locs X hR hF
  obtain ⟨k1, V1, -⟩ := arv_of l1 (hR.2 i _ hA)
  obtain ⟨k2, V2, O2⟩ := arv_of l2 (hR.2 j _ hB)
  obtain ⟨⟨EB, fB⟩, -⟩ := hR.2 j _ hB
  obtain ⟨⟨-, fA⟩, -⟩ := hR.2 i _ hA
  obtain ⟨s1, s2⟩ := tn_of h1
  obtain ⟨t1, t2⟩ := tn_of h2
  obtain ⟨u1, u2⟩ := tn_of h3
  have n1 := (tn_of (len_toInt (n := vs.length) (by omega))).2
  have n2 := (tn_of (len_toInt (n := vd.length) (by omega))).2
  obtain ⟨T', h', L', X', eT, F', Kp, V', sp'⟩ := cpA X hx hZ hown w1 w2 w3 w4 rfl V1 V2 (us := us) (Or.inl ⟨rfl, hty⟩) s1 t1 u1 (by rw [s2, u2, n1]; exact h4) (by rw [t2, u2, n2]; exact h5) (by rw [s2, u2]; exact hus.symm) (by rw [t2, u2]; exact h5) (n0 := n0) hF (Nat.le_add_right _ _) (g := mkF m pc ls (.int nn :: .int dp :: .ref (n0 + j) :: .int sp :: .ref (n0 + i) :: st)) rfl (by rw [hml]; exact hls) rfl (hb hby hd) hf (W := (st.map fun v => v.category).sum) (by show 2 * 0 + _ ≤ _; omega) hl
  have hsz : h'.size = T.heap.size := by
    have q1 := X'.heapSize
    have q2 := Kp.1
    have q3 := hR.1
    rw [eT] at q1
    omega
  rw [t2, u2] at V'
  have hlen : (vd.take q ++ us ++ vd.drop (q + r)).length = vd.length := by
    have : us.length = r := by rw [← hus]; simp
    simp [this]; omega
  have hO : ObAt Z K h' (n0 + j) (.inr (ty, vd.take q ++ us ++ vd.drop (q + r))) := by
    obtain ⟨cc, a1, a2, a3, a4, a5, a6⟩ := V'
    have e1 : cc.slots.size = (vd.take q ++ us ++ vd.drop (q + r)).length := by rw [hlen, a3, n2]
    refine ⟨⟨EB.keep Kp, fun w hw => ?_⟩, cc, a1, slots_of e1 a5, fun C q => by rw [a2]; exact O2 C q⟩
    obtain ⟨z, hz, rfl⟩ := List.mem_iff_getElem.mp hw
    have := a6 z (by rw [e1]; exact hz)
    rwa [show (vd.take q ++ us ++ vd.drop (q + r)).getD z .null = (vd.take q ++ us ++ vd.drop (q + r))[z] from by simp only [List.getD, List.getElem?_eq_getElem hz, Option.getD_some]] at this
  obtain ⟨s₂, o, g1, g2⟩ := h T' _ X' (by rw [eT]; exact hR.keep Kp hsz hO) F'
  exact ⟨s₂, o, sp' _ g1, g2⟩
def KL (Z : State) (a0 : Array Value) (own : String) (idx : Nat) (ad : String) : Prop := (Jvm.Cond.methodLink own idx ⟨ad, "clone", "()Ljava/lang/Object;"⟩).before a0 Z = true ∧ (Jvm.Cond.sameMethod ad "java/lang/Object" "clone" "()Ljava/lang/Object;").before a0 Z = true ∧ (Jvm.Cond.native ⟨"java/lang/Object", "clone", "()Ljava/lang/Object;"⟩).before a0 Z = true ∧
  (Jvm.Cond.instanceMethod ⟨"java/lang/Object", "clone", "()Ljava/lang/Object;"⟩).before a0 Z = true ∧ (Jvm.Cond.selects ad ⟨ad, "clone", "()Ljava/lang/Object;"⟩ ⟨"java/lang/Object", "clone", "()Ljava/lang/Object;"⟩).before a0 Z = true ∧ (Jvm.Cond.castable ad "java/lang/Cloneable").before a0 Z = true
theorem IsGo.clone (H : IsGo l Z a0 K n0 b0 y bytes maxL ret R Q G) {idx : Nat} {ad : String} (hd : Nx bytes pc (.invokevirtual idx) 3 pc') (L : KL Z a0 y.cls idx ad) {i ii cap : Nat} {ty : FieldType} {vs : List Value} (hA : A[i]? = some (.inr (ty, vs))) (had : "[" ++ ty.toString = ad) (l1 : vs.length < 2147483648) (hcap : vs.length ≤ cap)
    (hls : ls.size = maxL) (hf : 1 ≤ R.frames) (hl : (st.map fun v => v.category).sum + 14 ≤ R.locals) (hk : A.length = b0 + k) (hc : k + 1 ≤ R.cells) (hs : n + cap ≤ R.slots) (hi : A.length = ii) (hA' : A ++ [.inr (ty, vs)] = A') (hk' : k + 1 = k') (hn' : n + cap = n') (h : G pc' ls (.ref (n0 + ii) :: st) A' k' n') : G pc ls (.ref (n0 + i) :: st) A k n := by
  obtain ⟨hd, rfl⟩ := hd
  obtain ⟨pp, e, s, m, args, below, meth, c, hx, hby, hml, hown, hnm, hret, hlk, hZ, hK, hb0, rfl⟩ := H
  obtain ⟨w1, w2, w3, w4, w5, w6⟩ := L
  subst hA' hk' hn' hi had
  intro T locs X hR hF
  obtain ⟨k1, V1, O1⟩ := arv_of l1 (hR.2 i _ hA)
  obtain ⟨⟨EB, fB⟩, -⟩ := hR.2 i _ hA
  have n1 := (tn_of (len_toInt (n := vs.length) (by omega))).2
  obtain ⟨T', h', X', eT, E, V', EA, sp⟩ := cloneH X hx hZ hown w1 w2 w3 w4 w5 w6 rfl V1.arh EB (g := mkF m pc ls (.ref (n0 + i) :: st)) rfl (by rw [hml]; exact hls) rfl (hb hby hd) hf (W := (st.map fun v => v.category).sum) (cap := cap) (by show 2 * 0 + _ ≤ _; omega) hl (by rw [n1]; exact hcap) hc hs
  have hsz : h'.size = n0 + (A.length + 1) := by rw [← eT]; exact size_up X' hb0 hR.1 hk (by rw [eT]; exact EA.lt)
  rw [hR.1] at EA V'
  have hN : ObAt Z K h' (n0 + A.length) (.inr (ty, vs)) := by
    obtain ⟨cc, a1, a2, a3, a4, a5, a6⟩ := V'
    refine ⟨⟨EA, fB⟩, cc, a1, slots_of (by rw [a3, n1]) a5, fun C q => by rw [a2]; exact O1 C q⟩
  obtain ⟨s₂, o, h1, h2⟩ := h T' locs X' (by rw [eT]; exact hR.push E hsz hN) hF
  rw [← hR.1] at h1
  exact ⟨s₂, o, sp _ h1, h2⟩
theorem IsGo.castA (H : IsGo l Z a0 K n0 b0 y bytes maxL ret R Q G) {idx : Nat} {ad : String} (hd : Nx bytes pc (.checkcast idx) 3 pc') (w : (Jvm.Cond.classLink y.cls idx ad).before a0 Z = true) {i : Nat} {ty : FieldType} {vs : List Value} (hA : A[i]? = some (.inr (ty, vs))) (had : "[" ++ ty.toString = ad) (h : G pc' ls (.ref (n0 + i) :: st) A k n) : G pc ls (.ref (n0 + i) :: st) A k n := by
  obtain ⟨hd, rfl⟩ := hd
  obtain ⟨pp, e, s, m, args, below, meth, c, hx, hby, hml, hown, hnm, hret, hlk, hZ, hK, hb0, rfl⟩ := H
  subst had
  intro T locs X hR hF
  obtain ⟨⟨EB, -⟩, -⟩ := hR.2 i _ hA
  obtain ⟨T', X', eT, sp⟩ := castY X hx hZ hown w rfl (Ins.self EB) (g := mkF m pc ls (.ref (n0 + i) :: st)) rfl rfl (hb hby hd)
  obtain ⟨s₂, o, h1, h2⟩ := h T' locs X' (by rw [eT]; exact hR) hF
  exact ⟨s₂, o, sp _ h1, h2⟩
/-! ### calls -/
def IL (Z : State) (a0 : Array Value) (own : String) (idx : Nat) : Prop := (Jvm.Cond.methodLink own idx Lib.objectInit).before a0 Z = true ∧ (Jvm.Cond.instanceMethod Lib.objectInit).before a0 Z = true ∧ (Jvm.Cond.code Lib.objectInit ⟨#[0xb1]⟩ 1 none).before a0 Z = true
theorem IsGo.initO (H : IsGo l Z a0 K n0 b0 y bytes maxL ret R Q G) {idx : Nat} (hd : Nx bytes pc (.invokespecial idx) 3 pc') (L : IL Z a0 y.cls idx) {a : Addr} (hls : ls.size = maxL) (hf : 1 ≤ R.frames) (hl : (st.map fun v => v.category).sum + 12 ≤ R.locals) (h : G pc' ls st A k n) : G pc ls (.ref a :: st) A k n := by
  obtain ⟨hd, rfl⟩ := hd
  obtain ⟨p, e, s, m, args, below, meth, c, hx, hby, hml, hown, hnm, hret, hlk, hZ, hK, hb0, rfl⟩ := H
  obtain ⟨w1, w2, w3⟩ := L
  intro T locs X hR hF
  obtain ⟨T', X', eT, sp⟩ := RoadKit.initO X hx hZ hown w1 w2 w3 rfl (g := mkF m pc ls (.ref a :: st)) rfl (by rw [hml]; exact hls) rfl (hb hby hd) hf (W := (st.map fun v => v.category).sum) (by show 2 * 0 + _ ≤ _; omega) hl
  obtain ⟨s₂, o, h1, h2⟩ := h T' locs X' (by rw [eT]; exact hR) hF
  exact ⟨s₂, o, sp _ h1, h2⟩
def SL (Z : State) (a0 : Array Value) (own : String) (idx : Nat) (z : MethodName) (zb : ByteArray) (zm : Nat) (zr : Option FieldType) (np : Nat) : Prop :=
  (Jvm.Cond.methodLink own idx z).before a0 Z = true ∧ (Jvm.Cond.static z).before a0 Z = true ∧ (Jvm.Cond.initialized z.cls).before a0 Z = true ∧ (Jvm.Cond.code z zb zm zr).before a0 Z = true ∧ (z.cls ≠ "java/lang/invoke/MethodHandle" ∧ z.cls ≠ "java/lang/invoke/VarHandle") ∧ ∀ sig, parseMethodDescriptor z.desc = some sig → np = sig.parameters.length
theorem IsGo.callS (H : IsGo l Z a0 K n0 b0 y bytes maxL ret R Q G) {idx : Nat} (hd : Nx bytes pc (.invokestatic idx) 3 pc') {z : MethodName} {zb : ByteArray} {zm : Nat} {zr : Option FieldType} {np : Nat} (L : SL Z a0 y.cls idx z zb zm zr np) {rm : Room} {as : Array Value} {QQ : Option Value → List Ob → Prop} (M : Met l Z K n0 z zb zm zr rm as A QQ)
    {argsL rest : List Value} (ha : argsL.toArray = as) (hnp : argsL.length = np) (hst : st = argsL.reverse ++ rest) (hls : ls.size = maxL) (hf : rm.frames + 1 ≤ R.frames) (hl : (rest.map fun v => v.category).sum + (zm + 11) + rm.locals ≤ R.locals) (hc : k + rm.cells ≤ R.cells) (hs : n + rm.slots ≤ R.slots) (h : ∀ v A', QQ v A' → G pc' ls (v.toList ++ rest) A' (k + rm.cells) (n + rm.slots)) : G pc ls st A k n := by
  obtain ⟨hd, rfl⟩ := hd
  obtain ⟨p, e, s, m, args, below, meth, c, hx, hby, hml, hown, hnm, hret, hlk, hZ, hK, hb0, rfl⟩ := H
  obtain ⟨w1, w2, w3, w4, w5, w6⟩ := L
  subst ha hst hnp
  intro T locs X hR hF
  obtain ⟨v, vm₁, ⟨T', L', k', n'⟩, -, X', ⟨Lc, ⟨A', hQ, hR', hF'⟩, e1, e2, e3⟩, sp⟩ := Jvm.LawKit.callS X hx (y := z) hown (mvT hZ w1) (mvT hZ w2) (mvT hZ w3) (mvT hZ w4) w5 (backOf (W := (rest.map fun v => v.category).sum) (Q := fun v h L => ∃ A', QQ v A' ∧ Rel Z K n0 h A' ∧ Fr n0 L) (M [] T.heap hR) hZ w4 w3 hf hl) (g := mkF m pc ls (argsL.reverse ++ rest)) rfl (by rw [hml]; exact hls) (argsL := argsL) (rest := rest) w6 rfl (by show 2 * 0 + _ ≤ _; omega) (hb hby hd) (fun _ _ => ⟨rfl, rfl, hc, hs⟩)
  dsimp only [Pt.U, Pt.locs, Pt.cells, Pt.slots] at X' e1 e2 e3 sp hQ hR'
  subst e1 e2 e3
  obtain ⟨s₂, o, h1, h2⟩ := h v A' hQ T' _ X' hR' (Fr.app hF hF')
  exact ⟨s₂, o, sp _ h1, h2⟩
/-- a constructor by its contract -/
def CL (Z : State) (a0 : Array Value) (own : String) (idx : Nat) (z : MethodName) (zb : ByteArray) (zm : Nat) (np : Nat) : Prop :=
  (Jvm.Cond.methodLink own idx z).before a0 Z = true ∧ (Jvm.Cond.instanceMethod z).before a0 Z = true ∧ (Jvm.Cond.initialized z.cls).before a0 Z = true ∧ (Jvm.Cond.code z zb zm none).before a0 Z = true ∧ (z.cls ≠ "java/lang/invoke/MethodHandle" ∧ z.cls ≠ "java/lang/invoke/VarHandle") ∧ (∀ sig, parseMethodDescriptor z.desc = some sig → np = sig.parameters.length) ∧ z.name = "<init>"
theorem IsGo.callC (H : IsGo l Z a0 K n0 b0 y bytes maxL ret R Q G) {idx : Nat} (hd : Nx bytes pc (.invokespecial idx) 3 pc') {z : MethodName} {zb : ByteArray} {zm : Nat} {np : Nat} (L : CL Z a0 y.cls idx z zb zm np) {rm : Room} {as : Array Value} {QQ : Option Value → List Ob → Prop} (M : Met l Z K n0 z zb zm none rm as A QQ)
    {a : Addr} {argsL rest : List Value} (ha : (Value.ref a :: argsL).toArray = as) (hnp : argsL.length = np) (hst : st = argsL.reverse ++ .ref a :: rest) (hls : ls.size = maxL) (hf : rm.frames + 1 ≤ R.frames) (hl : (rest.map fun v => v.category).sum + (zm + 11) + rm.locals ≤ R.locals) (hc : k + rm.cells ≤ R.cells) (hs : n + rm.slots ≤ R.slots) (h : ∀ v A', QQ v A' → G pc' ls (v.toList ++ rest) A' (k + rm.cells) (n + rm.slots)) : G pc ls st A k n := by
  obtain ⟨hd, rfl⟩ := hd
  obtain ⟨p, e, s, m, args, below, meth, c, hx, hby, hml, hown, hnm, hret, hlk, hZ, hK, hb0, rfl⟩ := H
  obtain ⟨w1, w2, w3, w4, w5, w6, w7⟩ := L
  subst ha hst hnp
  intro T locs X hR hF
  obtain ⟨v, vm₁, ⟨T', L', k', n'⟩, -, X', ⟨Lc, ⟨A', hQ, hR', hF'⟩, e1, e2, e3⟩, sp⟩ := X.specialBack hx (y := z) w7 hown (mvT hZ w1) (mvT hZ w2) (mvT hZ w4) w5 (backOf (W := (rest.map fun v => v.category).sum) (Q := fun v h L => ∃ A', QQ v A' ∧ Rel Z K n0 h A' ∧ Fr n0 L) (M [] T.heap hR) hZ w4 w3 hf hl) (g := mkF m pc ls (argsL.reverse ++ .ref a :: rest)) rfl (by rw [hml]; exact hls) (Steps.refl _) (a := a) (argsL := argsL) (rest := rest) w6 rfl (by show 2 * 0 + _ ≤ _; omega) (hb hby hd) (fun _ _ => ⟨rfl, rfl, hc, hs⟩)
  dsimp only [Pt.U, Pt.locs, Pt.cells, Pt.slots] at X' e1 e2 e3 sp hQ hR'
  subst e1 e2 e3
  obtain ⟨s₂, o, h1, h2⟩ := h v A' hQ T' _ X' hR' (Fr.app hF hF')
  exact ⟨s₂, o, sp.trans h1, h2⟩
/-- a method of an object of class number kk, by its contract -/
def VL (Z : State) (a0 : Array Value) (K : KTab) (own : String) (idx kk : Nat) (z : MethodName) (zb : ByteArray) (zm : Nat) (zr : Option FieldType) (np : Nat) : Prop :=
  ∃ C fs, K[kk]? = some (C, fs) ∧ (Jvm.Cond.methodLink own idx z).before a0 Z = true ∧ (Jvm.Cond.declares z).before a0 Z = true ∧ (Jvm.Cond.selects C z z).before a0 Z = true ∧ (Jvm.Cond.instanceMethod z).before a0 Z = true ∧ (Jvm.Cond.initialized z.cls).before a0 Z = true ∧ (Jvm.Cond.code z zb zm zr).before a0 Z = true ∧ (z.cls ≠ "java/lang/invoke/MethodHandle" ∧ z.cls ≠ "java/lang/invoke/VarHandle") ∧ (∀ sig, parseMethodDescriptor z.desc = some sig → np = sig.parameters.length)
theorem IsGo.callV (H : IsGo l Z a0 K n0 b0 y bytes maxL ret R Q G) {idx kk : Nat} (hd : Nx bytes pc (.invokevirtual idx) 3 pc') {z : MethodName} {zb : ByteArray} {zm : Nat} {zr : Option FieldType} {np : Nat} (L : VL Z a0 K y.cls idx kk z zb zm zr np) {rm : Room} {as : Array Value} {QQ : Option Value → List Ob → Prop} (M : Met l Z K n0 z zb zm zr rm as A QQ)
    {i : Nat} {vs : List Value} (hA : A[i]? = some (.inl (kk, vs))) {argsL rest : List Value} (ha : (Value.ref (n0 + i) :: argsL).toArray = as) (hnp : argsL.length = np) (hst : st = argsL.reverse ++ .ref (n0 + i) :: rest) (hls : ls.size = maxL) (hf : rm.frames + 1 ≤ R.frames) (hl : (rest.map fun v => v.category).sum + (zm + 11) + rm.locals ≤ R.locals) (hc : k + rm.cells ≤ R.cells) (hs : n + rm.slots ≤ R.slots) (h : ∀ v A', QQ v A' → G pc' ls (v.toList ++ rest) A' (k + rm.cells) (n + rm.slots)) : G pc ls st A k n := by
  obtain ⟨hd, rfl⟩ := hd
  obtain ⟨p, e, s, m, args, below, meth, c, hx, hby, hml, hown, hnm, hret, hlk, hZ, hK, hb0, rfl⟩ := H
  obtain ⟨C, fs, hk, w1, w2, w3, w4, w5, w6, w7, w8⟩ := L
  subst ha hst hnp
  intro T locs X hR hF
  obtain ⟨cB, kB, qa, qb, qc⟩ := isOf hZ rfl ((hR.2 i _ hA).exa hk)
  obtain ⟨v, vm₁, ⟨T', L', k', n'⟩, -, X', ⟨Lc, ⟨A', hQ, hR', hF'⟩, e1, e2, e3⟩, sp⟩ := X.virtualBack hx (y := z) (z := z) hown (mvT hZ w1) (mvT hZ w2) (notFace_of_selects (args := #[]) (mvT hZ w3)) (mvT hZ w3) (mvT hZ w4) w7 (backOf (W := (rest.map fun v => v.category).sum) (Q := fun v h L => ∃ A', QQ v A' ∧ Rel Z K n0 h A' ∧ Fr n0 L) (M [] T.heap hR) hZ w6 w5 hf hl) qa qc (g := mkF m pc ls (argsL.reverse ++ .ref (n0 + i) :: rest)) rfl (by rw [hml]; exact hls) (Steps.refl _) (argsL := argsL) (rest := rest) w8 rfl (by show 2 * 0 + _ ≤ _; omega) (hb hby hd) (fun _ _ => ⟨rfl, rfl, hc, hs⟩)
  dsimp only [Pt.U, Pt.locs, Pt.cells, Pt.slots] at X' e1 e2 e3 sp hQ hR'
  subst e1 e2 e3
  obtain ⟨s₂, o, h1, h2⟩ := h v A' hQ T' _ X' hR' (Fr.app hF hF')
  exact ⟨s₂, o, sp.trans h1, h2⟩
/-- a private method -/
def ML (Z : State) (a0 : Array Value) (K : KTab) (own : String) (idx kk : Nat) (z : MethodName) (zb : ByteArray) (zm : Nat) (zr : Option FieldType) (np : Nat) : Prop :=
  ∃ C fs, K[kk]? = some (C, fs) ∧ (Jvm.Cond.methodLink own idx z).before a0 Z = true ∧ (Jvm.Cond.privateMethod z).before a0 Z = true ∧ (Jvm.Cond.selects z.cls z z).before a0 Z = true ∧ (Jvm.Cond.instanceMethod z).before a0 Z = true ∧ (Jvm.Cond.initialized z.cls).before a0 Z = true ∧ (Jvm.Cond.code z zb zm zr).before a0 Z = true ∧ (z.cls ≠ "java/lang/invoke/MethodHandle" ∧ z.cls ≠ "java/lang/invoke/VarHandle") ∧ (∀ sig, parseMethodDescriptor z.desc = some sig → np = sig.parameters.length)
theorem IsGo.callM (H : IsGo l Z a0 K n0 b0 y bytes maxL ret R Q G) {idx kk : Nat} (hd : Nx bytes pc (.invokevirtual idx) 3 pc') {z : MethodName} {zb : ByteArray} {zm : Nat} {zr : Option FieldType} {np : Nat} (L : ML Z a0 K y.cls idx kk z zb zm zr np) {rm : Room} {as : Array Value} {QQ : Option Value → List Ob → Prop} (M : Met l Z K n0 z zb zm zr rm as A QQ)
    {i : Nat} {vs : List Value} (hA : A[i]? = some (.inl (kk, vs))) {argsL rest : List Value} (ha : (Value.ref (n0 + i) :: argsL).toArray = as) (hnp : argsL.length = np) (hst : st = argsL.reverse ++ .ref (n0 + i) :: rest) (hls : ls.size = maxL) (hf : rm.frames + 1 ≤ R.frames) (hl : (rest.map fun v => v.category).sum + (zm + 11) + rm.locals ≤ R.locals) (hc : k + rm.cells ≤ R.cells) (hs : n + rm.slots ≤ R.slots) (h : ∀ v A', QQ v A' → G pc' ls (v.toList ++ rest) A' (k + rm.cells) (n + rm.slots)) : G pc ls st A k n := by
  obtain ⟨hd, rfl⟩ := hd
  obtain ⟨p, e, s, m, args, below, meth, c, hx, hby, hml, hown, hnm, hret, hlk, hZ, hK, hb0, rfl⟩ := H
  obtain ⟨C, fs, hk, w1, w2, w3, w4, w5, w6, w7, w8⟩ := L
  subst ha hst hnp
  intro T locs X hR hF
  obtain ⟨cq, q1, q2⟩ := ((hR.2 i _ hA).exa hk).cell
  obtain ⟨v, vm₁, ⟨T', L', k', n'⟩, -, X', ⟨Lc, ⟨A', hQ, hR', hF'⟩, e1, e2, e3⟩, sp⟩ := X.privateBack hx (y := z) hown (mvT hZ w1) (mvT hZ w4) (mvT hZ w3) (Cond.privateMethod_at (mvP hZ w2 (args := #[]))) (mvT hZ w6) w7 (backOf (W := (rest.map fun v => v.category).sum) (Q := fun v h L => ∃ A', QQ v A' ∧ Rel Z K n0 h A' ∧ Fr n0 L) (M [] T.heap hR) hZ w6 w5 hf hl) (g := mkF m pc ls (argsL.reverse ++ .ref (n0 + i) :: rest)) rfl (by rw [hml]; exact hls) (Steps.refl _) (a := n0 + i) q1 q2 (argsL := argsL) (rest := rest) w8 rfl (by show 2 * 0 + _ ≤ _; omega) (hb hby hd) (fun _ _ => ⟨rfl, rfl, hc, hs⟩)
  dsimp only [Pt.U, Pt.locs, Pt.cells, Pt.slots] at X' e1 e2 e3 sp hQ hR'
  subst e1 e2 e3
  obtain ⟨s₂, o, h1, h2⟩ := h v A' hQ T' _ X' hR' (Fr.app hF hF')
  exact ⟨s₂, o, sp.trans h1, h2⟩
theorem IsGo.callSD (H : IsGo l Z a0 K n0 b0 y bytes maxL ret R Q G) {idx : Nat} (hd : Nx bytes pc (.invokestatic idx) 3 pc') {z : MethodName} {zb : ByteArray} {zm : Nat} {zr : Option FieldType} {np : Nat} (L : SL Z a0 y.cls idx z zb zm zr np) {rm : Room} {as : Array Value} {vo : Option Value} (M : Met l Z K n0 z zb zm zr rm as A (Is vo A'))
    {argsL rest : List Value} (ha : argsL.toArray = as) (hnp : argsL.length = np) (hst : st = argsL.reverse ++ rest) (hls : ls.size = maxL) (hf : rm.frames + 1 ≤ R.frames) (hl : (rest.map fun v => v.category).sum + (zm + 11) + rm.locals ≤ R.locals) (hc : k + rm.cells ≤ R.cells) (hs : n + rm.slots ≤ R.slots) (hst' : vo.toList ++ rest = st') (hk' : k + rm.cells = k') (hn' : n + rm.slots = n') (h : G pc' ls st' A' k' n') : G pc ls st A k n :=
  H.callS hd L M ha hnp hst hls hf hl hc hs (fun v B q => by obtain ⟨rfl, rfl⟩ := q; subst hst' hk' hn'; exact h)
theorem IsGo.callCD (H : IsGo l Z a0 K n0 b0 y bytes maxL ret R Q G) {idx : Nat} (hd : Nx bytes pc (.invokespecial idx) 3 pc') {z : MethodName} {zb : ByteArray} {zm : Nat} {np : Nat} (L : CL Z a0 y.cls idx z zb zm np) {rm : Room} {as : Array Value} {vo : Option Value} (M : Met l Z K n0 z zb zm none rm as A (Is vo A'))
    {a : Addr} {argsL rest : List Value} (ha : (Value.ref a :: argsL).toArray = as) (hnp : argsL.length = np) (hst : st = argsL.reverse ++ .ref a :: rest) (hls : ls.size = maxL) (hf : rm.frames + 1 ≤ R.frames) (hl : (rest.map fun v => v.category).sum + (zm + 11) + rm.locals ≤ R.locals) (hc : k + rm.cells ≤ R.cells) (hs : n + rm.slots ≤ R.slots) (hst' : vo.toList ++ rest = st') (hk' : k + rm.cells = k') (hn' : n + rm.slots = n') (h : G pc' ls st' A' k' n') : G pc ls st A k n :=
  H.callC hd L M ha hnp hst hls hf hl hc hs (fun v B q => by obtain ⟨rfl, rfl⟩ := q; subst hst' hk' hn'; exact h)
theorem IsGo.callVD (H : IsGo l Z a0 K n0 b0 y bytes maxL ret R Q G) {idx kk : Nat} (hd : Nx bytes pc (.invokevirtual idx) 3 pc') {z : MethodName} {zb : ByteArray} {zm : Nat} {zr : Option FieldType} {np : Nat} (L : VL Z a0 K y.cls idx kk z zb zm zr np) {rm : Room} {as : Array Value} {vo : Option Value} (M : Met l Z K n0 z zb zm zr rm as A (Is vo A'))
    {i : Nat} {vs : List Value} (hA : A[i]? = some (.inl (kk, vs))) {argsL rest : List Value} (ha : (Value.ref (n0 + i) :: argsL).toArray = as) (hnp : argsL.length = np) (hst : st = argsL.reverse ++ .ref (n0 + i) :: rest) (hls : ls.size = maxL) (hf : rm.frames + 1 ≤ R.frames) (hl : (rest.map fun v => v.category).sum + (zm + 11) + rm.locals ≤ R.locals) (hc : k + rm.cells ≤ R.cells) (hs : n + rm.slots ≤ R.slots) (hst' : vo.toList ++ rest = st') (hk' : k + rm.cells = k') (hn' : n + rm.slots = n') (h : G pc' ls st' A' k' n') : G pc ls st A k n :=
  H.callV hd L M hA ha hnp hst hls hf hl hc hs (fun v B q => by obtain ⟨rfl, rfl⟩ := q; subst hst' hk' hn'; exact h)
theorem IsGo.callMD (H : IsGo l Z a0 K n0 b0 y bytes maxL ret R Q G) {idx kk : Nat} (hd : Nx bytes pc (.invokevirtual idx) 3 pc') {z : MethodName} {zb : ByteArray} {zm : Nat} {zr : Option FieldType} {np : Nat} (L : ML Z a0 K y.cls idx kk z zb zm zr np) {rm : Room} {as : Array Value} {vo : Option Value} (M : Met l Z K n0 z zb zm zr rm as A (Is vo A'))
    {i : Nat} {vs : List Value} (hA : A[i]? = some (.inl (kk, vs))) {argsL rest : List Value} (ha : (Value.ref (n0 + i) :: argsL).toArray = as) (hnp : argsL.length = np) (hst : st = argsL.reverse ++ .ref (n0 + i) :: rest) (hls : ls.size = maxL) (hf : rm.frames + 1 ≤ R.frames) (hl : (rest.map fun v => v.category).sum + (zm + 11) + rm.locals ≤ R.locals) (hc : k + rm.cells ≤ R.cells) (hs : n + rm.slots ≤ R.slots) (hst' : vo.toList ++ rest = st') (hk' : k + rm.cells = k') (hn' : n + rm.slots = n') (h : G pc' ls st' A' k' n') : G pc ls st A k n :=
  H.callM hd L M hA ha hnp hst hls hf hl hc hs (fun v B q => by obtain ⟨rfl, rfl⟩ := q; subst hst' hk' hn'; exact h)
/-! ### the end -/
theorem IsGo.retW (H : IsGo l Z a0 K n0 b0 y bytes maxL ret R Q G) {i : Instr} (hd : Nx bytes pc i 1 pc') {t : FieldType} {w : Value} (hret : ret = some t) (hn : narrow t w = w)
    (hi : (i = .ireturn ∧ (t = .int ∨ t = .boolean ∨ t = .byte ∨ t = .char ∨ t = .short) ∧ ∃ z, w = .int z) ∨ (i = .lreturn ∧ t = .long ∧ ∃ z, w = .long z) ∨ (i = .dreturn ∧ t = .double ∧ ∃ z, w = .double z) ∨ (i = .freturn ∧ t = .float ∧ ∃ z, w = .float z) ∨ (i = .areturn ∧ t.isReference = true ∧ w.isRef = true))
    (hQ : Q (some w) A) (hc : k ≤ R.cells) (hs : n ≤ R.slots) : G pc ls (w :: st) A k n := by
  obtain ⟨hd, rfl⟩ := hd
  obtain ⟨p, e, s, m, args, below, meth, c, hx, hby, hml, hown, hnm, hret', hlk, hZ, hK, hb0, rfl⟩ := H
  intro T locs X hR hF
  obtain ⟨fs, hr, hrun, hended, hW, hsame⟩ := X.leave (v := some w) (fun h => by rw [hret', hret] at h; cases h) hlk
  exact ⟨_, _, retOut X hx (hret'.trans hret) hn hi (hb hby hd) hr, hrun, hended, _, _, rfl, ⟨A, hQ, hR, hF⟩, ⟨_, rfl⟩, hW, hsame.mono hc hs⟩
theorem IsGo.ireturn (H : IsGo l Z a0 K n0 b0 y bytes maxL ret R Q G) (hd : Nx bytes pc .ireturn 1 pc') {t : FieldType} {z : Int32} (hret : ret = some t) (ht : t = .int ∨ t = .boolean ∨ t = .byte ∨ t = .char ∨ t = .short) (hn : narrow t (.int z) = .int z) (hQ : Q (some (.int z)) A) (hc : k ≤ R.cells) (hs : n ≤ R.slots) : G pc ls (.int z :: st) A k n :=
  H.retW hd hret hn (Or.inl ⟨rfl, ht, z, rfl⟩) hQ hc hs
theorem IsGo.lreturn (H : IsGo l Z a0 K n0 b0 y bytes maxL ret R Q G) (hd : Nx bytes pc .lreturn 1 pc') {z : Int64} (hret : ret = some .long) (hQ : Q (some (.long z)) A) (hc : k ≤ R.cells) (hs : n ≤ R.slots) : G pc ls (.long z :: st) A k n :=
  H.retW hd hret rfl (Or.inr (Or.inl ⟨rfl, rfl, z, rfl⟩)) hQ hc hs
theorem IsGo.areturn (H : IsGo l Z a0 K n0 b0 y bytes maxL ret R Q G) (hd : Nx bytes pc .areturn 1 pc') {t : FieldType} {w : Value} (hret : ret = some t) (ht : t.isReference = true) (hn : narrow t w = w) (hw : w.isRef = true) (hQ : Q (some w) A) (hc : k ≤ R.cells) (hs : n ≤ R.slots) : G pc ls (w :: st) A k n :=
  H.retW hd hret hn (Or.inr (Or.inr (Or.inr (Or.inr ⟨rfl, ht, hw⟩)))) hQ hc hs
theorem IsGo.vreturn (H : IsGo l Z a0 K n0 b0 y bytes maxL ret R Q G) (hd : Nx bytes pc .return_ 1 pc') (hret : ret = none) (hQ : Q none A) (hc : k ≤ R.cells) (hs : n ≤ R.slots) : G pc ls [] A k n := by
  obtain ⟨hd, rfl⟩ := hd
  obtain ⟨p, e, s, m, args, below, meth, c, hx, hby, hml, hown, hnm, hret', hlk, hZ, hK, hb0, rfl⟩ := H
  intro T locs X hR hF
  obtain ⟨fs, hr, hrun, hended, hW, hsame⟩ := X.leave (v := none) (fun _ => rfl) hlk
  exact ⟨_, _, X.returnOut hx (hret'.trans hret) (hb hby hd) hr, hrun, hended, _, _, rfl, ⟨A, hQ, hR, hF⟩, ⟨_, rfl⟩, hW, hsame.mono hc hs⟩
end Rules
end Jvm.OwnKit

namespace Jvm.Pilot.@@N@@
open Jvm Jvm.ClassFile Sem Op Lib Jvm.Free Jvm.Stand Jvm.LawKit Jvm.RoadKit Jvm.OwnKit Bundle Jvm.Pilot.@@N@@.Jvm.D
abbrev HW1 (Z : State) (a0 : Array Value) : Prop := ∀ d ∈ tables_1, d.before a0 Z = true
def KT : KTab := [("com/example/nano_acl/nanoacl/principal/Membership", [("com/example/nano_acl/nanoacl/principal/Membership", "group", "Lcom/example/nano_acl/nanoacl/principal/Account;"), ("com/example/nano_acl/nanoacl/principal/Membership", "member", "Lcom/example/nano_acl/nanoacl/principal/Account;"), ("com/example/nano_acl/nanoacl/principal/Membership", "next", "Lcom/example/nano_acl/nanoacl/principal/Membership;"), ("com/example/nano_acl/nanoacl/principal/Membership", "previous", "Lcom/example/nano_acl/nanoacl/principal/Membership;")]), ("com/example/nano_acl/nanoacl/principal/Membership$MemberList", [("com/example/nano_acl/nanoacl/principal/Membership$MemberList", "size", "I"), ("com/example/nano_acl/nanoacl/principal/Membership$MemberList", "first", "Lcom/example/nano_acl/nanoacl/principal/Membership;"), ("com/example/nano_acl/nanoacl/principal/Membership$MemberList", "last", "Lcom/example/nano_acl/nanoacl/principal/Membership;")])]
abbrev y1 : MethodName := ⟨"com/example/nano_acl/nanoacl/principal/Membership", "<init>", "(Lcom/example/nano_acl/nanoacl/principal/Account;Lcom/example/nano_acl/nanoacl/principal/Account;)V"⟩
abbrev y2 : MethodName := ⟨"java/lang/Object", "<init>", "()V"⟩
abbrev y3 : MethodName := ⟨"com/example/nano_acl/nanoacl/principal/Membership$MemberList", "<init>", "()V"⟩
abbrev y4 : MethodName := ⟨"com/example/nano_acl/nanoacl/principal/Membership$MemberList", "size", "()I"⟩
abbrev y5 : MethodName := ⟨"com/example/nano_acl/nanoacl/principal/Membership$MemberList", "first", "()Lcom/example/nano_acl/nanoacl/principal/Membership;"⟩
abbrev y6 : MethodName := ⟨"com/example/nano_acl/nanoacl/principal/Membership", "next", "()Lcom/example/nano_acl/nanoacl/principal/Membership;"⟩
abbrev y7 : MethodName := ⟨"com/example/nano_acl/nanoacl/principal/Membership$MemberList", "append", "(Lcom/example/nano_acl/nanoacl/principal/Membership;)V"⟩
abbrev y8 : MethodName := ⟨"com/example/nano_acl/nanoacl/principal/Membership$MemberList", "unlink", "(Lcom/example/nano_acl/nanoacl/principal/Membership;)V"⟩
theorem kok {Z : State} {a0 : Array Value} (hw : HW1 Z a0) : KOk Z a0 KT := kokOf (faS ⟨⟨_, (hw _ (List.mem_of_getElem? (i := 1) rfl))⟩, (faS ⟨Or.inr (hw _ (List.mem_of_getElem? (i := 10) rfl)), (.object "com/example/nano_acl/nanoacl/principal/Account"), by decide +kernel⟩ (faS ⟨Or.inr (hw _ (List.mem_of_getElem? (i := 12) rfl)), (.object "com/example/nano_acl/nanoacl/principal/Account"), by decide +kernel⟩ (faS ⟨Or.inl (hw _ (List.mem_of_getElem? (i := 40) rfl)), (.object "com/example/nano_acl/nanoacl/principal/Membership"), by decide +kernel⟩ (faS ⟨Or.inl (hw _ (List.mem_of_getElem? (i := 49) rfl)), (.object "com/example/nano_acl/nanoacl/principal/Membership"), by decide +kernel⟩ fa0)))), by decide⟩ (faS ⟨⟨_, (hw _ (List.mem_of_getElem? (i := 14) rfl))⟩, (faS ⟨Or.inl (hw _ (List.mem_of_getElem? (i := 26) rfl)), .int, by decide +kernel⟩ (faS ⟨Or.inl (hw _ (List.mem_of_getElem? (i := 33) rfl)), (.object "com/example/nano_acl/nanoacl/principal/Membership"), by decide +kernel⟩ (faS ⟨Or.inl (hw _ (List.mem_of_getElem? (i := 47) rfl)), (.object "com/example/nano_acl/nanoacl/principal/Membership"), by decide +kernel⟩ fa0))), by decide⟩ fa0))

theorem own_rng (y : Int32) : 0 ≤ (y &&& (2147483647 : Int32)).toInt := by
  have q := c_mask y 2147483647 31 (by decide) (by decide)
  omega
theorem own_rem (y m : Int32) (d : Int) (hm : m.toInt = d) (hd : 0 < d) : 0 ≤ ((y &&& (2147483647 : Int32)) % m).toInt ∧ ((y &&& (2147483647 : Int32)) % m).toInt < d := by
  have q := (c_irem (y &&& (2147483647 : Int32)) m d hm).1 (own_rng y)
  rw [q]
  exact ⟨Int.emod_nonneg _ (by omega), Int.emod_lt_of_pos _ hd⟩
theorem own_rem1 (y : Int32) : ((y &&& (2147483647 : Int32)) % (1 : Int32)) = 0 := by
  have q := own_rem y 1 1 (by decide) (by decide)
  exact (i_eq rfl (by decide)).mpr (by omega : _ = (0 : Int))
theorem own_rem2 (y : Int32) : ((y &&& (2147483647 : Int32)) % (2 : Int32)) = 0 ∨ ((y &&& (2147483647 : Int32)) % (2 : Int32)) = 1 := by
  have q := own_rem y 2 2 (by decide) (by decide)
  rw [i_eq rfl (by decide : (0 : Int32).toInt = 0), i_eq rfl (by decide : (1 : Int32).toInt = 1)]
  omega
theorem own_rem3 (y : Int32) : ((y &&& (2147483647 : Int32)) % (3 : Int32)) = 0 ∨ ((y &&& (2147483647 : Int32)) % (3 : Int32)) = 1 ∨ ((y &&& (2147483647 : Int32)) % (3 : Int32)) = 2 := by
  have q := own_rem y 3 3 (by decide) (by decide)
  rw [i_eq rfl (by decide : (0 : Int32).toInt = 0), i_eq rfl (by decide : (1 : Int32).toInt = 1), i_eq rfl (by decide : (2 : Int32).toInt = 2)]
  omega
theorem own_and3 (y : Int32) : (y &&& (3 : Int32)) = 0 ∨ (y &&& (3 : Int32)) = 1 ∨ (y &&& (3 : Int32)) = 2 ∨ (y &&& (3 : Int32)) = 3 := by
  have q := c_mask y 3 2 (by decide) (by decide)
  rw [i_eq rfl (by decide : (0 : Int32).toInt = 0), i_eq rfl (by decide : (1 : Int32).toInt = 1), i_eq rfl (by decide : (2 : Int32).toInt = 2), i_eq rfl (by decide : (3 : Int32).toInt = 3)]
  omega

theorem pn_4 : plainName "com/example/nano_acl/nanoacl/principal/Membership" = true := by first | (simp [plainName, overriddenIn]; done) | decide +kernel
theorem s0_0 : Nx code 0 (.iload_n 0) 1 1 := ⟨at_0, rfl⟩
theorem s0_1 : Nx code 1 (.iconst 3) 1 2 := ⟨at_1, rfl⟩
theorem s0_2 : Nx code 2 (.iand) 1 3 := ⟨at_2, rfl⟩
theorem s0_3 : Nx code 3 (.istore_n 2) 1 4 := ⟨at_3, rfl⟩
theorem k_0 {Z : State} {a0 : Array Value} (hw : HW1 Z a0) : NL Z a0 KT "com/example/nano_acl/nanoacl/principal/MemberListAppendPinLaw" 7 0 5 [.null, .null, .null, .null] := ⟨_, _, rfl, (hw _ (List.mem_of_getElem? (i := 0) rfl)), (hw _ (List.mem_of_getElem? (i := 1) rfl)), (hw _ (List.mem_of_getElem? (i := 2) rfl)), by decide +kernel⟩
theorem s0_4 : Nx code 4 (.new 7) 3 7 := ⟨at_4, rfl⟩
theorem s0_7 : Nx code 7 (.dup) 1 8 := ⟨at_7, rfl⟩
theorem s0_8 : Nx code 8 (.aconst_null) 1 9 := ⟨at_8, rfl⟩
theorem s0_9 : Nx code 9 (.aconst_null) 1 10 := ⟨at_9, rfl⟩
theorem s0_10 : Nx code 10 (.invokespecial 9) 3 13 := ⟨at_10, rfl⟩
theorem s1_0 : Nx prog_49_method_1_code 0 (.aload_n 0) 1 1 := ⟨by decide +kernel, rfl⟩
theorem s1_1 : Nx prog_49_method_1_code 1 (.invokespecial 1) 3 4 := ⟨by decide +kernel, rfl⟩
theorem k_1 {Z : State} {a0 : Array Value} (hw : HW1 Z a0) : IL Z a0 "com/example/nano_acl/nanoacl/principal/Membership" 1 := ⟨(hw _ (List.mem_of_getElem? (i := 6) rfl)), (hw _ (List.mem_of_getElem? (i := 7) rfl)), (hw _ (List.mem_of_getElem? (i := 8) rfl))⟩
theorem s1_4 : Nx prog_49_method_1_code 4 (.aload_n 0) 1 5 := ⟨by decide +kernel, rfl⟩
theorem s1_5 : Nx prog_49_method_1_code 5 (.aload_n 1) 1 6 := ⟨by decide +kernel, rfl⟩
theorem k_2 {Z : State} {a0 : Array Value} (hw : HW1 Z a0) : PL Z a0 KT "com/example/nano_acl/nanoacl/principal/Membership" "<init>" 7 0 0 (.object "com/example/nano_acl/nanoacl/principal/Account") := ⟨_, _, "com/example/nano_acl/nanoacl/principal/Membership", "group", "Lcom/example/nano_acl/nanoacl/principal/Account;", "", rfl, rfl, (Or.inl (hw _ (List.mem_of_getElem? (i := 9) rfl))), (Or.inr ⟨(hw _ (List.mem_of_getElem? (i := 10) rfl)), rfl, rfl⟩), by decide +kernel⟩
theorem s1_6 : Nx prog_49_method_1_code 6 (.putfield 7) 3 9 := ⟨by decide +kernel, rfl⟩
theorem s1_9 : Nx prog_49_method_1_code 9 (.aload_n 0) 1 10 := ⟨by decide +kernel, rfl⟩
theorem s1_10 : Nx prog_49_method_1_code 10 (.aload_n 2) 1 11 := ⟨by decide +kernel, rfl⟩
theorem k_3 {Z : State} {a0 : Array Value} (hw : HW1 Z a0) : PL Z a0 KT "com/example/nano_acl/nanoacl/principal/Membership" "<init>" 13 0 1 (.object "com/example/nano_acl/nanoacl/principal/Account") := ⟨_, _, "com/example/nano_acl/nanoacl/principal/Membership", "member", "Lcom/example/nano_acl/nanoacl/principal/Account;", "", rfl, rfl, (Or.inl (hw _ (List.mem_of_getElem? (i := 11) rfl))), (Or.inr ⟨(hw _ (List.mem_of_getElem? (i := 12) rfl)), rfl, rfl⟩), by decide +kernel⟩
theorem s1_11 : Nx prog_49_method_1_code 11 (.putfield 13) 3 14 := ⟨by decide +kernel, rfl⟩
theorem s1_14 : Nx prog_49_method_1_code 14 (.return_) 1 15 := ⟨by decide +kernel, rfl⟩
set_option maxRecDepth 65536 in
set_option maxHeartbeats 40000000 in
theorem a_0 (l : Launch) {Z : State} {a0 : Array Value} (hw : HW1 Z a0) (n0 : Nat)  : Met l Z KT n0 y1 prog_49_method_1_code 3 none ({ frames := 1, cells := 0, slots := 0, locals := 12 } : Room) #[(.ref (n0 + 0)), .null, .null] [.inl (0, [.null, .null, .null, .null])] (Is none [.inl (0, [.null, .null, .null, .null])]) := by
  refine Met.of (a0 := a0) (ls := #[.val (.ref (n0 + 0)), .val .null, .val .null]) (kok hw) (plainFor_of_name pn_4) (fun m => by first | (simp [entryFrame, mkF, argsToLocals, Value.category]; done) | rfl) (fun G H => ?_)
  refine H.aloadN s1_0 rfl rfl ?_
  refine H.initO s1_1 (k_1 hw) rfl (leb rfl) (leb rfl) ?_
  refine H.aloadN s1_4 rfl rfl ?_
  refine H.aloadN s1_5 rfl rfl ?_
  refine H.putfield s1_6 (k_2 hw) (i := 0) rfl rfl rfl (A' := [.inl (0, [.null, .null, .null, .null])]) rfl ?_
  refine H.aloadN s1_9 rfl rfl ?_
  refine H.aloadN s1_10 rfl rfl ?_
  refine H.putfield s1_11 (k_3 hw) (i := 0) rfl rfl rfl (A' := [.inl (0, [.null, .null, .null, .null])]) rfl ?_
  exact H.vreturn s1_14 rfl ⟨rfl, rfl⟩ (by decide) (by decide)

theorem pd_0 : ∀ sig, parseMethodDescriptor "(Lcom/example/nano_acl/nanoacl/principal/Account;Lcom/example/nano_acl/nanoacl/principal/Account;)V" = some sig → 2 = sig.parameters.length := npOf (r := none) (ps := [(.object "com/example/nano_acl/nanoacl/principal/Account"), (.object "com/example/nano_acl/nanoacl/principal/Account")]) (by decide +kernel) rfl
theorem k_5 {Z : State} {a0 : Array Value} (hw : HW1 Z a0) : CL Z a0 "com/example/nano_acl/nanoacl/principal/MemberListAppendPinLaw" 9 y1 prog_49_method_1_code 3 2 := ⟨(hw _ (List.mem_of_getElem? (i := 3) rfl)), (hw _ (List.mem_of_getElem? (i := 4) rfl)), (hw _ (List.mem_of_getElem? (i := 2) rfl)), (hw _ (List.mem_of_getElem? (i := 5) rfl)), ⟨by decide, by decide⟩, pd_0, rfl⟩
theorem s0_13 : Nx code 13 (.astore_n 3) 1 14 := ⟨at_13, rfl⟩
theorem s0_14 : Nx code 14 (.new 7) 3 17 := ⟨at_14, rfl⟩
theorem s0_17 : Nx code 17 (.dup) 1 18 := ⟨at_17, rfl⟩
theorem s0_18 : Nx code 18 (.aconst_null) 1 19 := ⟨at_18, rfl⟩
theorem s0_19 : Nx code 19 (.aconst_null) 1 20 := ⟨at_19, rfl⟩
theorem s0_20 : Nx code 20 (.invokespecial 9) 3 23 := ⟨at_20, rfl⟩
set_option maxRecDepth 65536 in
set_option maxHeartbeats 40000000 in
theorem a_1 (l : Launch) {Z : State} {a0 : Array Value} (hw : HW1 Z a0) (n0 : Nat)  : Met l Z KT n0 y1 prog_49_method_1_code 3 none ({ frames := 1, cells := 0, slots := 0, locals := 12 } : Room) #[(.ref (n0 + 1)), .null, .null] [.inl (0, [.null, .null, .null, .null]), .inl (0, [.null, .null, .null, .null])] (Is none [.inl (0, [.null, .null, .null, .null]), .inl (0, [.null, .null, .null, .null])]) := by
  refine Met.of (a0 := a0) (ls := #[.val (.ref (n0 + 1)), .val .null, .val .null]) (kok hw) (plainFor_of_name pn_4) (fun m => by first | (simp [entryFrame, mkF, argsToLocals, Value.category]; done) | rfl) (fun G H => ?_)
  refine H.aloadN s1_0 rfl rfl ?_
  refine H.initO s1_1 (k_1 hw) rfl (leb rfl) (leb rfl) ?_
  refine H.aloadN s1_4 rfl rfl ?_
  refine H.aloadN s1_5 rfl rfl ?_
  refine H.putfield s1_6 (k_2 hw) (i := 1) rfl rfl rfl (A' := [.inl (0, [.null, .null, .null, .null]), .inl (0, [.null, .null, .null, .null])]) rfl ?_
  refine H.aloadN s1_9 rfl rfl ?_
  refine H.aloadN s1_10 rfl rfl ?_
  refine H.putfield s1_11 (k_3 hw) (i := 1) rfl rfl rfl (A' := [.inl (0, [.null, .null, .null, .null]), .inl (0, [.null, .null, .null, .null])]) rfl ?_
  exact H.vreturn s1_14 rfl ⟨rfl, rfl⟩ (by decide) (by decide)

theorem s0_23 : Nx code 23 (.astore 4) 2 25 := ⟨at_23, rfl⟩
theorem s0_25 : Nx code 25 (.new 7) 3 28 := ⟨at_25, rfl⟩
theorem s0_28 : Nx code 28 (.dup) 1 29 := ⟨at_28, rfl⟩
theorem s0_29 : Nx code 29 (.aconst_null) 1 30 := ⟨at_29, rfl⟩
theorem s0_30 : Nx code 30 (.aconst_null) 1 31 := ⟨at_30, rfl⟩
theorem s0_31 : Nx code 31 (.invokespecial 9) 3 34 := ⟨at_31, rfl⟩
set_option maxRecDepth 65536 in
set_option maxHeartbeats 40000000 in
theorem a_2 (l : Launch) {Z : State} {a0 : Array Value} (hw : HW1 Z a0) (n0 : Nat)  : Met l Z KT n0 y1 prog_49_method_1_code 3 none ({ frames := 1, cells := 0, slots := 0, locals := 12 } : Room) #[(.ref (n0 + 2)), .null, .null] [.inl (0, [.null, .null, .null, .null]), .inl (0, [.null, .null, .null, .null]), .inl (0, [.null, .null, .null, .null])] (Is none [.inl (0, [.null, .null, .null, .null]), .inl (0, [.null, .null, .null, .null]), .inl (0, [.null, .null, .null, .null])]) := by
  refine Met.of (a0 := a0) (ls := #[.val (.ref (n0 + 2)), .val .null, .val .null]) (kok hw) (plainFor_of_name pn_4) (fun m => by first | (simp [entryFrame, mkF, argsToLocals, Value.category]; done) | rfl) (fun G H => ?_)
  refine H.aloadN s1_0 rfl rfl ?_
  refine H.initO s1_1 (k_1 hw) rfl (leb rfl) (leb rfl) ?_
  refine H.aloadN s1_4 rfl rfl ?_
  refine H.aloadN s1_5 rfl rfl ?_
  refine H.putfield s1_6 (k_2 hw) (i := 2) rfl rfl rfl (A' := [.inl (0, [.null, .null, .null, .null]), .inl (0, [.null, .null, .null, .null]), .inl (0, [.null, .null, .null, .null])]) rfl ?_
  refine H.aloadN s1_9 rfl rfl ?_
  refine H.aloadN s1_10 rfl rfl ?_
  refine H.putfield s1_11 (k_3 hw) (i := 2) rfl rfl rfl (A' := [.inl (0, [.null, .null, .null, .null]), .inl (0, [.null, .null, .null, .null]), .inl (0, [.null, .null, .null, .null])]) rfl ?_
  exact H.vreturn s1_14 rfl ⟨rfl, rfl⟩ (by decide) (by decide)

theorem s0_34 : Nx code 34 (.astore 5) 2 36 := ⟨at_34, rfl⟩
theorem s0_36 : Nx code 36 (.new 7) 3 39 := ⟨at_36, rfl⟩
theorem s0_39 : Nx code 39 (.dup) 1 40 := ⟨at_39, rfl⟩
theorem s0_40 : Nx code 40 (.aconst_null) 1 41 := ⟨at_40, rfl⟩
theorem s0_41 : Nx code 41 (.aconst_null) 1 42 := ⟨at_41, rfl⟩
theorem s0_42 : Nx code 42 (.invokespecial 9) 3 45 := ⟨at_42, rfl⟩
set_option maxRecDepth 65536 in
set_option maxHeartbeats 40000000 in
theorem a_3 (l : Launch) {Z : State} {a0 : Array Value} (hw : HW1 Z a0) (n0 : Nat)  : Met l Z KT n0 y1 prog_49_method_1_code 3 none ({ frames := 1, cells := 0, slots := 0, locals := 12 } : Room) #[(.ref (n0 + 3)), .null, .null] [.inl (0, [.null, .null, .null, .null]), .inl (0, [.null, .null, .null, .null]), .inl (0, [.null, .null, .null, .null]), .inl (0, [.null, .null, .null, .null])] (Is none [.inl (0, [.null, .null, .null, .null]), .inl (0, [.null, .null, .null, .null]), .inl (0, [.null, .null, .null, .null]), .inl (0, [.null, .null, .null, .null])]) := by
  refine Met.of (a0 := a0) (ls := #[.val (.ref (n0 + 3)), .val .null, .val .null]) (kok hw) (plainFor_of_name pn_4) (fun m => by first | (simp [entryFrame, mkF, argsToLocals, Value.category]; done) | rfl) (fun G H => ?_)
  refine H.aloadN s1_0 rfl rfl ?_
  refine H.initO s1_1 (k_1 hw) rfl (leb rfl) (leb rfl) ?_
  refine H.aloadN s1_4 rfl rfl ?_
  refine H.aloadN s1_5 rfl rfl ?_
  refine H.putfield s1_6 (k_2 hw) (i := 3) rfl rfl rfl (A' := [.inl (0, [.null, .null, .null, .null]), .inl (0, [.null, .null, .null, .null]), .inl (0, [.null, .null, .null, .null]), .inl (0, [.null, .null, .null, .null])]) rfl ?_
  refine H.aloadN s1_9 rfl rfl ?_
  refine H.aloadN s1_10 rfl rfl ?_
  refine H.putfield s1_11 (k_3 hw) (i := 3) rfl rfl rfl (A' := [.inl (0, [.null, .null, .null, .null]), .inl (0, [.null, .null, .null, .null]), .inl (0, [.null, .null, .null, .null]), .inl (0, [.null, .null, .null, .null])]) rfl ?_
  exact H.vreturn s1_14 rfl ⟨rfl, rfl⟩ (by decide) (by decide)

theorem pn_8 : plainName "com/example/nano_acl/nanoacl/principal/Membership$MemberList" = true := by first | (simp [plainName, overriddenIn]; done) | decide +kernel
theorem s0_45 : Nx code 45 (.astore 6) 2 47 := ⟨at_45, rfl⟩
theorem k_6 {Z : State} {a0 : Array Value} (hw : HW1 Z a0) : NL Z a0 KT "com/example/nano_acl/nanoacl/principal/MemberListAppendPinLaw" 12 1 3 [(.int (0 : Int32)), .null, .null] := ⟨_, _, rfl, (hw _ (List.mem_of_getElem? (i := 13) rfl)), (hw _ (List.mem_of_getElem? (i := 14) rfl)), (hw _ (List.mem_of_getElem? (i := 15) rfl)), by decide +kernel⟩
theorem s0_47 : Nx code 47 (.new 12) 3 50 := ⟨at_47, rfl⟩
theorem s0_50 : Nx code 50 (.dup) 1 51 := ⟨at_50, rfl⟩
theorem s0_51 : Nx code 51 (.invokespecial 14) 3 54 := ⟨at_51, rfl⟩
theorem s3_0 : Nx prog_50_method_1_code 0 (.aload_n 0) 1 1 := ⟨by decide +kernel, rfl⟩
theorem s3_1 : Nx prog_50_method_1_code 1 (.invokespecial 1) 3 4 := ⟨by decide +kernel, rfl⟩
theorem k_7 {Z : State} {a0 : Array Value} (hw : HW1 Z a0) : IL Z a0 "com/example/nano_acl/nanoacl/principal/Membership$MemberList" 1 := ⟨(hw _ (List.mem_of_getElem? (i := 19) rfl)), (hw _ (List.mem_of_getElem? (i := 7) rfl)), (hw _ (List.mem_of_getElem? (i := 8) rfl))⟩
theorem s3_4 : Nx prog_50_method_1_code 4 (.return_) 1 5 := ⟨by decide +kernel, rfl⟩
set_option maxRecDepth 65536 in
set_option maxHeartbeats 40000000 in
theorem a_4 (l : Launch) {Z : State} {a0 : Array Value} (hw : HW1 Z a0) (n0 : Nat)  : Met l Z KT n0 y3 prog_50_method_1_code 1 none ({ frames := 1, cells := 0, slots := 0, locals := 12 } : Room) #[(.ref (n0 + 4))] [.inl (0, [.null, .null, .null, .null]), .inl (0, [.null, .null, .null, .null]), .inl (0, [.null, .null, .null, .null]), .inl (0, [.null, .null, .null, .null]), .inl (1, [(.int (0 : Int32)), .null, .null])] (Is none [.inl (0, [.null, .null, .null, .null]), .inl (0, [.null, .null, .null, .null]), .inl (0, [.null, .null, .null, .null]), .inl (0, [.null, .null, .null, .null]), .inl (1, [(.int (0 : Int32)), .null, .null])]) := by
  refine Met.of (a0 := a0) (ls := #[.val (.ref (n0 + 4))]) (kok hw) (plainFor_of_name pn_8) (fun m => by first | (simp [entryFrame, mkF, argsToLocals, Value.category]; done) | rfl) (fun G H => ?_)
  refine H.aloadN s3_0 rfl rfl ?_
  refine H.initO s3_1 (k_7 hw) rfl (leb rfl) (leb rfl) ?_
  exact H.vreturn s3_4 rfl ⟨rfl, rfl⟩ (by decide) (by decide)

theorem pd_1 : ∀ sig, parseMethodDescriptor "()V" = some sig → 0 = sig.parameters.length := npOf (r := none) (ps := []) (by decide +kernel) rfl
theorem k_9 {Z : State} {a0 : Array Value} (hw : HW1 Z a0) : CL Z a0 "com/example/nano_acl/nanoacl/principal/MemberListAppendPinLaw" 14 y3 prog_50_method_1_code 1 0 := ⟨(hw _ (List.mem_of_getElem? (i := 16) rfl)), (hw _ (List.mem_of_getElem? (i := 17) rfl)), (hw _ (List.mem_of_getElem? (i := 15) rfl)), (hw _ (List.mem_of_getElem? (i := 18) rfl)), ⟨by decide, by decide⟩, pd_1, rfl⟩
theorem s0_54 : Nx code 54 (.astore 7) 2 56 := ⟨at_54, rfl⟩
theorem s0_56 : Nx code 56 (.iload_n 2) 1 57 := ⟨at_56, rfl⟩
theorem s0_57 : Bx code 57 (.ifCond .le) 66 60 := ⟨(9), at_57, by decide, by decide, rfl⟩
theorem s0_66 : Nx code 66 (.iload_n 2) 1 67 := ⟨at_66, rfl⟩
theorem s0_67 : Nx code 67 (.iconst 1) 1 68 := ⟨at_67, rfl⟩
theorem s0_68 : Bx code 68 (.if_icmp .le) 78 71 := ⟨(10), at_68, by decide, by decide, rfl⟩
theorem s0_78 : Nx code 78 (.iload_n 2) 1 79 := ⟨at_78, rfl⟩
theorem s0_79 : Nx code 79 (.iconst 2) 1 80 := ⟨at_79, rfl⟩
theorem s0_80 : Bx code 80 (.if_icmp .le) 90 83 := ⟨(10), at_80, by decide, by decide, rfl⟩
theorem s0_90 : Nx code 90 (.aload 7) 2 92 := ⟨at_90, rfl⟩
theorem s0_92 : Nx code 92 (.invokevirtual 19) 3 95 := ⟨at_92, rfl⟩
theorem s4_0 : Nx prog_50_method_2_code 0 (.aload_n 0) 1 1 := ⟨by decide +kernel, rfl⟩
theorem k_10 {Z : State} {a0 : Array Value} (hw : HW1 Z a0) : FL Z a0 KT "com/example/nano_acl/nanoacl/principal/Membership$MemberList" 7 1 0 := ⟨_, _, "com/example/nano_acl/nanoacl/principal/Membership$MemberList", "size", "I", "", rfl, rfl, (Or.inl (hw _ (List.mem_of_getElem? (i := 25) rfl)))⟩
theorem s4_1 : Nx prog_50_method_2_code 1 (.getfield 7) 3 4 := ⟨by decide +kernel, rfl⟩
theorem s4_4 : Nx prog_50_method_2_code 4 (.ireturn) 1 5 := ⟨by decide +kernel, rfl⟩
set_option maxRecDepth 65536 in
set_option maxHeartbeats 40000000 in
theorem a_5 (l : Launch) {Z : State} {a0 : Array Value} (hw : HW1 Z a0) (n0 : Nat)  : Met l Z KT n0 y4 prog_50_method_2_code 1 (some .int) ({ frames := 0, cells := 0, slots := 0, locals := 0 } : Room) #[(.ref (n0 + 4))] [.inl (0, [.null, .null, .null, .null]), .inl (0, [.null, .null, .null, .null]), .inl (0, [.null, .null, .null, .null]), .inl (0, [.null, .null, .null, .null]), .inl (1, [(.int (0 : Int32)), .null, .null])] (Is (some (.int (0 : Int32))) [.inl (0, [.null, .null, .null, .null]), .inl (0, [.null, .null, .null, .null]), .inl (0, [.null, .null, .null, .null]), .inl (0, [.null, .null, .null, .null]), .inl (1, [(.int (0 : Int32)), .null, .null])]) := by
  refine Met.of (a0 := a0) (ls := #[.val (.ref (n0 + 4))]) (kok hw) (plainFor_of_name pn_8) (fun m => by first | (simp [entryFrame, mkF, argsToLocals, Value.category]; done) | rfl) (fun G H => ?_)
  refine H.aloadN s4_0 rfl rfl ?_
  refine H.getfield s4_1 (k_10 hw) (i := 4) rfl rfl ?_
  exact H.ireturn s4_4 rfl (by simp) rfl ⟨rfl, rfl⟩ (by decide) (by decide)

theorem pd_2 : ∀ sig, parseMethodDescriptor "()I" = some sig → 0 = sig.parameters.length := npOf (r := some .int) (ps := []) (by decide +kernel) rfl
theorem k_11 {Z : State} {a0 : Array Value} (hw : HW1 Z a0) : VL Z a0 KT "com/example/nano_acl/nanoacl/principal/MemberListAppendPinLaw" 19 1 y4 prog_50_method_2_code 1 (some .int) 0 := ⟨_, _, rfl, (hw _ (List.mem_of_getElem? (i := 20) rfl)), (hw _ (List.mem_of_getElem? (i := 21) rfl)), (hw _ (List.mem_of_getElem? (i := 23) rfl)), (hw _ (List.mem_of_getElem? (i := 22) rfl)), (hw _ (List.mem_of_getElem? (i := 15) rfl)), (hw _ (List.mem_of_getElem? (i := 24) rfl)), ⟨by decide, by decide⟩, pd_2⟩
theorem s0_95 : Nx code 95 (.iload_n 2) 1 96 := ⟨at_95, rfl⟩
theorem s0_96 : Bx code 96 (.if_icmp .ne) 103 99 := ⟨(7), at_96, by decide, by decide, rfl⟩
theorem s0_99 : Nx code 99 (.iconst 1) 1 100 := ⟨at_99, rfl⟩
theorem s0_100 : Bx code 100 (.goto) 104 103 := ⟨(4), at_100, by decide, by decide, rfl⟩
theorem s0_104 : Nx code 104 (.istore 8) 2 106 := ⟨at_104, rfl⟩
theorem s0_106 : Nx code 106 (.iload 8) 2 108 := ⟨at_106, rfl⟩
theorem s0_108 : Bx code 108 (.ifCond .eq) 132 111 := ⟨(24), at_108, by decide, by decide, rfl⟩
theorem s0_111 : Nx code 111 (.aload 7) 2 113 := ⟨at_111, rfl⟩
theorem s0_113 : Nx code 113 (.invokevirtual 23) 3 116 := ⟨at_113, rfl⟩
theorem s5_0 : Nx prog_50_method_3_code 0 (.aload_n 0) 1 1 := ⟨by decide +kernel, rfl⟩
theorem k_12 {Z : State} {a0 : Array Value} (hw : HW1 Z a0) : FL Z a0 KT "com/example/nano_acl/nanoacl/principal/Membership$MemberList" 13 1 1 := ⟨_, _, "com/example/nano_acl/nanoacl/principal/Membership$MemberList", "first", "Lcom/example/nano_acl/nanoacl/principal/Membership;", "", rfl, rfl, (Or.inl (hw _ (List.mem_of_getElem? (i := 32) rfl)))⟩
theorem s5_1 : Nx prog_50_method_3_code 1 (.getfield 13) 3 4 := ⟨by decide +kernel, rfl⟩
theorem s5_4 : Nx prog_50_method_3_code 4 (.areturn) 1 5 := ⟨by decide +kernel, rfl⟩
set_option maxRecDepth 65536 in
set_option maxHeartbeats 40000000 in
theorem a_6 (l : Launch) {Z : State} {a0 : Array Value} (hw : HW1 Z a0) (n0 : Nat)  : Met l Z KT n0 y5 prog_50_method_3_code 1 (some (.object "com/example/nano_acl/nanoacl/principal/Membership")) ({ frames := 0, cells := 0, slots := 0, locals := 0 } : Room) #[(.ref (n0 + 4))] [.inl (0, [.null, .null, .null, .null]), .inl (0, [.null, .null, .null, .null]), .inl (0, [.null, .null, .null, .null]), .inl (0, [.null, .null, .null, .null]), .inl (1, [(.int (0 : Int32)), .null, .null])] (Is (some .null) [.inl (0, [.null, .null, .null, .null]), .inl (0, [.null, .null, .null, .null]), .inl (0, [.null, .null, .null, .null]), .inl (0, [.null, .null, .null, .null]), .inl (1, [(.int (0 : Int32)), .null, .null])]) := by
  refine Met.of (a0 := a0) (ls := #[.val (.ref (n0 + 4))]) (kok hw) (plainFor_of_name pn_8) (fun m => by first | (simp [entryFrame, mkF, argsToLocals, Value.category]; done) | rfl) (fun G H => ?_)
  refine H.aloadN s5_0 rfl rfl ?_
  refine H.getfield s5_1 (k_12 hw) (i := 4) rfl rfl ?_
  exact H.areturn s5_4 rfl rfl rfl rfl ⟨rfl, rfl⟩ (by decide) (by decide)

theorem pd_3 : ∀ sig, parseMethodDescriptor "()Lcom/example/nano_acl/nanoacl/principal/Membership;" = some sig → 0 = sig.parameters.length := npOf (r := some (.object "com/example/nano_acl/nanoacl/principal/Membership")) (ps := []) (by decide +kernel) rfl
theorem k_13 {Z : State} {a0 : Array Value} (hw : HW1 Z a0) : VL Z a0 KT "com/example/nano_acl/nanoacl/principal/MemberListAppendPinLaw" 23 1 y5 prog_50_method_3_code 1 (some (.object "com/example/nano_acl/nanoacl/principal/Membership")) 0 := ⟨_, _, rfl, (hw _ (List.mem_of_getElem? (i := 27) rfl)), (hw _ (List.mem_of_getElem? (i := 28) rfl)), (hw _ (List.mem_of_getElem? (i := 30) rfl)), (hw _ (List.mem_of_getElem? (i := 29) rfl)), (hw _ (List.mem_of_getElem? (i := 15) rfl)), (hw _ (List.mem_of_getElem? (i := 31) rfl)), ⟨by decide, by decide⟩, pd_3⟩
theorem s0_116 : Nx code 116 (.iload_n 2) 1 117 := ⟨at_116, rfl⟩
theorem s0_117 : Bx code 117 (.ifCond .le) 124 120 := ⟨(7), at_117, by decide, by decide, rfl⟩
theorem s0_124 : Nx code 124 (.aconst_null) 1 125 := ⟨at_124, rfl⟩
theorem s0_125 : Bx code 125 (.if_acmp .ne) 132 128 := ⟨(7), at_125, by decide, by decide, rfl⟩
theorem s0_128 : Nx code 128 (.iconst 1) 1 129 := ⟨at_128, rfl⟩
theorem s0_129 : Bx code 129 (.goto) 133 132 := ⟨(4), at_129, by decide, by decide, rfl⟩
theorem s0_133 : Nx code 133 (.istore 8) 2 135 := ⟨at_133, rfl⟩
theorem s0_135 : Nx code 135 (.iload 8) 2 137 := ⟨at_135, rfl⟩
theorem s0_137 : Bx code 137 (.ifCond .eq) 162 140 := ⟨(25), at_137, by decide, by decide, rfl⟩
theorem s0_140 : Nx code 140 (.aload_n 3) 1 141 := ⟨at_140, rfl⟩
theorem s0_141 : Nx code 141 (.invokevirtual 27) 3 144 := ⟨at_141, rfl⟩
theorem s6_0 : Nx prog_49_method_4_code 0 (.aload_n 0) 1 1 := ⟨by decide +kernel, rfl⟩
theorem k_14 {Z : State} {a0 : Array Value} (hw : HW1 Z a0) : FL Z a0 KT "com/example/nano_acl/nanoacl/principal/Membership" 16 0 2 := ⟨_, _, "com/example/nano_acl/nanoacl/principal/Membership", "next", "Lcom/example/nano_acl/nanoacl/principal/Membership;", "", rfl, rfl, (Or.inl (hw _ (List.mem_of_getElem? (i := 39) rfl)))⟩
theorem s6_1 : Nx prog_49_method_4_code 1 (.getfield 16) 3 4 := ⟨by decide +kernel, rfl⟩
theorem s6_4 : Nx prog_49_method_4_code 4 (.areturn) 1 5 := ⟨by decide +kernel, rfl⟩
set_option maxRecDepth 65536 in
set_option maxHeartbeats 40000000 in
theorem a_7 (l : Launch) {Z : State} {a0 : Array Value} (hw : HW1 Z a0) (n0 : Nat)  : Met l Z KT n0 y6 prog_49_method_4_code 1 (some (.object "com/example/nano_acl/nanoacl/principal/Membership")) ({ frames := 0, cells := 0, slots := 0, locals := 0 } : Room) #[(.ref (n0 + 0))] [.inl (0, [.null, .null, .null, .null]), .inl (0, [.null, .null, .null, .null]), .inl (0, [.null, .null, .null, .null]), .inl (0, [.null, .null, .null, .null]), .inl (1, [(.int (0 : Int32)), .null, .null])] (Is (some .null) [.inl (0, [.null, .null, .null, .null]), .inl (0, [.null, .null, .null, .null]), .inl (0, [.null, .null, .null, .null]), .inl (0, [.null, .null, .null, .null]), .inl (1, [(.int (0 : Int32)), .null, .null])]) := by
  refine Met.of (a0 := a0) (ls := #[.val (.ref (n0 + 0))]) (kok hw) (plainFor_of_name pn_4) (fun m => by first | (simp [entryFrame, mkF, argsToLocals, Value.category]; done) | rfl) (fun G H => ?_)
  refine H.aloadN s6_0 rfl rfl ?_
  refine H.getfield s6_1 (k_14 hw) (i := 0) rfl rfl ?_
  exact H.areturn s6_4 rfl rfl rfl rfl ⟨rfl, rfl⟩ (by decide) (by decide)

theorem k_15 {Z : State} {a0 : Array Value} (hw : HW1 Z a0) : VL Z a0 KT "com/example/nano_acl/nanoacl/principal/MemberListAppendPinLaw" 27 0 y6 prog_49_method_4_code 1 (some (.object "com/example/nano_acl/nanoacl/principal/Membership")) 0 := ⟨_, _, rfl, (hw _ (List.mem_of_getElem? (i := 34) rfl)), (hw _ (List.mem_of_getElem? (i := 35) rfl)), (hw _ (List.mem_of_getElem? (i := 37) rfl)), (hw _ (List.mem_of_getElem? (i := 36) rfl)), (hw _ (List.mem_of_getElem? (i := 2) rfl)), (hw _ (List.mem_of_getElem? (i := 38) rfl)), ⟨by decide, by decide⟩, pd_3⟩
theorem s0_144 : Nx code 144 (.iload_n 2) 1 145 := ⟨at_144, rfl⟩
theorem s0_145 : Nx code 145 (.iconst 1) 1 146 := ⟨at_145, rfl⟩
theorem s0_146 : Bx code 146 (.if_icmp .le) 154 149 := ⟨(8), at_146, by decide, by decide, rfl⟩
theorem s0_154 : Nx code 154 (.aconst_null) 1 155 := ⟨at_154, rfl⟩
theorem s0_155 : Bx code 155 (.if_acmp .ne) 162 158 := ⟨(7), at_155, by decide, by decide, rfl⟩
theorem s0_158 : Nx code 158 (.iconst 1) 1 159 := ⟨at_158, rfl⟩
theorem s0_159 : Bx code 159 (.goto) 163 162 := ⟨(4), at_159, by decide, by decide, rfl⟩
theorem s0_163 : Nx code 163 (.istore 8) 2 165 := ⟨at_163, rfl⟩
theorem s0_165 : Nx code 165 (.iload 8) 2 167 := ⟨at_165, rfl⟩
theorem s0_167 : Bx code 167 (.ifCond .eq) 193 170 := ⟨(26), at_167, by decide, by decide, rfl⟩
theorem s0_170 : Nx code 170 (.aload 4) 2 172 := ⟨at_170, rfl⟩
theorem s0_172 : Nx code 172 (.invokevirtual 27) 3 175 := ⟨at_172, rfl⟩
set_option maxRecDepth 65536 in
set_option maxHeartbeats 40000000 in
theorem a_8 (l : Launch) {Z : State} {a0 : Array Value} (hw : HW1 Z a0) (n0 : Nat)  : Met l Z KT n0 y6 prog_49_method_4_code 1 (some (.object "com/example/nano_acl/nanoacl/principal/Membership")) ({ frames := 0, cells := 0, slots := 0, locals := 0 } : Room) #[(.ref (n0 + 1))] [.inl (0, [.null, .null, .null, .null]), .inl (0, [.null, .null, .null, .null]), .inl (0, [.null, .null, .null, .null]), .inl (0, [.null, .null, .null, .null]), .inl (1, [(.int (0 : Int32)), .null, .null])] (Is (some .null) [.inl (0, [.null, .null, .null, .null]), .inl (0, [.null, .null, .null, .null]), .inl (0, [.null, .null, .null, .null]), .inl (0, [.null, .null, .null, .null]), .inl (1, [(.int (0 : Int32)), .null, .null])]) := by
  refine Met.of (a0 := a0) (ls := #[.val (.ref (n0 + 1))]) (kok hw) (plainFor_of_name pn_4) (fun m => by first | (simp [entryFrame, mkF, argsToLocals, Value.category]; done) | rfl) (fun G H => ?_)
  refine H.aloadN s6_0 rfl rfl ?_
  refine H.getfield s6_1 (k_14 hw) (i := 1) rfl rfl ?_
  exact H.areturn s6_4 rfl rfl rfl rfl ⟨rfl, rfl⟩ (by decide) (by decide)

theorem s0_175 : Nx code 175 (.iload_n 2) 1 176 := ⟨at_175, rfl⟩
theorem s0_176 : Nx code 176 (.iconst 2) 1 177 := ⟨at_176, rfl⟩
theorem s0_177 : Bx code 177 (.if_icmp .le) 185 180 := ⟨(8), at_177, by decide, by decide, rfl⟩
theorem s0_185 : Nx code 185 (.aconst_null) 1 186 := ⟨at_185, rfl⟩
theorem s0_186 : Bx code 186 (.if_acmp .ne) 193 189 := ⟨(7), at_186, by decide, by decide, rfl⟩
theorem s0_189 : Nx code 189 (.iconst 1) 1 190 := ⟨at_189, rfl⟩
theorem s0_190 : Bx code 190 (.goto) 194 193 := ⟨(4), at_190, by decide, by decide, rfl⟩
theorem s0_194 : Nx code 194 (.istore 8) 2 196 := ⟨at_194, rfl⟩
theorem s0_196 : Nx code 196 (.iload 8) 2 198 := ⟨at_196, rfl⟩
theorem s0_198 : Bx code 198 (.ifCond .eq) 213 201 := ⟨(15), at_198, by decide, by decide, rfl⟩
theorem s0_201 : Nx code 201 (.aload 5) 2 203 := ⟨at_201, rfl⟩
theorem s0_203 : Nx code 203 (.invokevirtual 27) 3 206 := ⟨at_203, rfl⟩
set_option maxRecDepth 65536 in
set_option maxHeartbeats 40000000 in
theorem a_9 (l : Launch) {Z : State} {a0 : Array Value} (hw : HW1 Z a0) (n0 : Nat)  : Met l Z KT n0 y6 prog_49_method_4_code 1 (some (.object "com/example/nano_acl/nanoacl/principal/Membership")) ({ frames := 0, cells := 0, slots := 0, locals := 0 } : Room) #[(.ref (n0 + 2))] [.inl (0, [.null, .null, .null, .null]), .inl (0, [.null, .null, .null, .null]), .inl (0, [.null, .null, .null, .null]), .inl (0, [.null, .null, .null, .null]), .inl (1, [(.int (0 : Int32)), .null, .null])] (Is (some .null) [.inl (0, [.null, .null, .null, .null]), .inl (0, [.null, .null, .null, .null]), .inl (0, [.null, .null, .null, .null]), .inl (0, [.null, .null, .null, .null]), .inl (1, [(.int (0 : Int32)), .null, .null])]) := by
  refine Met.of (a0 := a0) (ls := #[.val (.ref (n0 + 2))]) (kok hw) (plainFor_of_name pn_4) (fun m => by first | (simp [entryFrame, mkF, argsToLocals, Value.category]; done) | rfl) (fun G H => ?_)
  refine H.aloadN s6_0 rfl rfl ?_
  refine H.getfield s6_1 (k_14 hw) (i := 2) rfl rfl ?_
  exact H.areturn s6_4 rfl rfl rfl rfl ⟨rfl, rfl⟩ (by decide) (by decide)

theorem s0_206 : Bx code 206 (.ifnonnull) 213 209 := ⟨(7), at_206, by decide, by decide, rfl⟩
theorem s0_209 : Nx code 209 (.iconst 1) 1 210 := ⟨at_209, rfl⟩
theorem s0_210 : Bx code 210 (.goto) 214 213 := ⟨(4), at_210, by decide, by decide, rfl⟩
theorem s0_214 : Nx code 214 (.istore 8) 2 216 := ⟨at_214, rfl⟩
theorem s0_216 : Nx code 216 (.iload_n 2) 1 217 := ⟨at_216, rfl⟩
theorem s0_217 : Bx code 217 (.ifCond .ne) 223 220 := ⟨(6), at_217, by decide, by decide, rfl⟩
theorem s0_220 : Nx code 220 (.iload 8) 2 222 := ⟨at_220, rfl⟩
theorem s0_222 : Nx code 222 (.ireturn) 1 223 := ⟨at_222, rfl⟩
theorem s0_60 : Nx code 60 (.aload 7) 2 62 := ⟨at_60, rfl⟩
theorem s0_62 : Nx code 62 (.aload_n 3) 1 63 := ⟨at_62, rfl⟩
theorem s0_63 : Nx code 63 (.invokevirtual 15) 3 66 := ⟨at_63, rfl⟩
theorem s7_0 : Nx prog_50_method_4_code 0 (.aload_n 1) 1 1 := ⟨by decide +kernel, rfl⟩
theorem s7_1 : Nx prog_50_method_4_code 1 (.aload_n 0) 1 2 := ⟨by decide +kernel, rfl⟩
theorem k_16 {Z : State} {a0 : Array Value} (hw : HW1 Z a0) : FL Z a0 KT "com/example/nano_acl/nanoacl/principal/Membership$MemberList" 17 1 2 := ⟨_, _, "com/example/nano_acl/nanoacl/principal/Membership$MemberList", "last", "Lcom/example/nano_acl/nanoacl/principal/Membership;", "", rfl, rfl, (Or.inl (hw _ (List.mem_of_getElem? (i := 46) rfl)))⟩
theorem s7_2 : Nx prog_50_method_4_code 2 (.getfield 17) 3 5 := ⟨by decide +kernel, rfl⟩
theorem k_17 {Z : State} {a0 : Array Value} (hw : HW1 Z a0) : PL Z a0 KT "com/example/nano_acl/nanoacl/principal/Membership$MemberList" "append" 20 0 3 (.object "com/example/nano_acl/nanoacl/principal/Membership") := ⟨_, _, "com/example/nano_acl/nanoacl/principal/Membership", "previous", "Lcom/example/nano_acl/nanoacl/principal/Membership;", "com/example/nano_acl/nanoacl/principal/Membership", rfl, rfl, (Or.inr (hw _ (List.mem_of_getElem? (i := 48) rfl))), (Or.inl (hw _ (List.mem_of_getElem? (i := 49) rfl))), by decide +kernel⟩
theorem s7_5 : Nx prog_50_method_4_code 5 (.putfield 20) 3 8 := ⟨by decide +kernel, rfl⟩
theorem s7_8 : Nx prog_50_method_4_code 8 (.aload_n 0) 1 9 := ⟨by decide +kernel, rfl⟩
theorem s7_9 : Nx prog_50_method_4_code 9 (.getfield 17) 3 12 := ⟨by decide +kernel, rfl⟩
theorem s7_12 : Bx prog_50_method_4_code 12 (.ifnonnull) 23 15 := ⟨(11), by decide +kernel, by decide, by decide, rfl⟩
theorem s7_15 : Nx prog_50_method_4_code 15 (.aload_n 0) 1 16 := ⟨by decide +kernel, rfl⟩
theorem s7_16 : Nx prog_50_method_4_code 16 (.aload_n 1) 1 17 := ⟨by decide +kernel, rfl⟩
theorem k_18 {Z : State} {a0 : Array Value} (hw : HW1 Z a0) : PL Z a0 KT "com/example/nano_acl/nanoacl/principal/Membership$MemberList" "append" 13 1 1 (.object "com/example/nano_acl/nanoacl/principal/Membership") := ⟨_, _, "com/example/nano_acl/nanoacl/principal/Membership$MemberList", "first", "Lcom/example/nano_acl/nanoacl/principal/Membership;", "", rfl, rfl, (Or.inl (hw _ (List.mem_of_getElem? (i := 32) rfl))), (Or.inl (hw _ (List.mem_of_getElem? (i := 33) rfl))), by decide +kernel⟩
theorem s7_17 : Nx prog_50_method_4_code 17 (.putfield 13) 3 20 := ⟨by decide +kernel, rfl⟩
theorem s7_20 : Bx prog_50_method_4_code 20 (.goto) 31 23 := ⟨(11), by decide +kernel, by decide, by decide, rfl⟩
theorem s7_31 : Nx prog_50_method_4_code 31 (.aload_n 0) 1 32 := ⟨by decide +kernel, rfl⟩
theorem s7_32 : Nx prog_50_method_4_code 32 (.aload_n 1) 1 33 := ⟨by decide +kernel, rfl⟩
theorem k_19 {Z : State} {a0 : Array Value} (hw : HW1 Z a0) : PL Z a0 KT "com/example/nano_acl/nanoacl/principal/Membership$MemberList" "append" 17 1 2 (.object "com/example/nano_acl/nanoacl/principal/Membership") := ⟨_, _, "com/example/nano_acl/nanoacl/principal/Membership$MemberList", "last", "Lcom/example/nano_acl/nanoacl/principal/Membership;", "", rfl, rfl, (Or.inl (hw _ (List.mem_of_getElem? (i := 46) rfl))), (Or.inl (hw _ (List.mem_of_getElem? (i := 47) rfl))), by decide +kernel⟩
theorem s7_33 : Nx prog_50_method_4_code 33 (.putfield 17) 3 36 := ⟨by decide +kernel, rfl⟩
theorem s7_36 : Nx prog_50_method_4_code 36 (.aload_n 0) 1 37 := ⟨by decide +kernel, rfl⟩
theorem s7_37 : Nx prog_50_method_4_code 37 (.dup) 1 38 := ⟨by decide +kernel, rfl⟩
theorem s7_38 : Nx prog_50_method_4_code 38 (.getfield 7) 3 41 := ⟨by decide +kernel, rfl⟩
theorem s7_41 : Nx prog_50_method_4_code 41 (.iconst 1) 1 42 := ⟨by decide +kernel, rfl⟩
theorem s7_42 : Nx prog_50_method_4_code 42 (.iadd) 1 43 := ⟨by decide +kernel, rfl⟩
theorem k_20 {Z : State} {a0 : Array Value} (hw : HW1 Z a0) : PL Z a0 KT "com/example/nano_acl/nanoacl/principal/Membership$MemberList" "append" 7 1 0 .int := ⟨_, _, "com/example/nano_acl/nanoacl/principal/Membership$MemberList", "size", "I", "", rfl, rfl, (Or.inl (hw _ (List.mem_of_getElem? (i := 25) rfl))), (Or.inl (hw _ (List.mem_of_getElem? (i := 26) rfl))), by decide +kernel⟩
theorem s7_43 : Nx prog_50_method_4_code 43 (.putfield 7) 3 46 := ⟨by decide +kernel, rfl⟩
theorem s7_46 : Nx prog_50_method_4_code 46 (.return_) 1 47 := ⟨by decide +kernel, rfl⟩
set_option maxRecDepth 65536 in
set_option maxHeartbeats 40000000 in
theorem a_10 (l : Launch) {Z : State} {a0 : Array Value} (hw : HW1 Z a0) (n0 : Nat)  : Met l Z KT n0 y7 prog_50_method_4_code 2 none ({ frames := 0, cells := 0, slots := 0, locals := 0 } : Room) #[(.ref (n0 + 4)), (.ref (n0 + 0))] [.inl (0, [.null, .null, .null, .null]), .inl (0, [.null, .null, .null, .null]), .inl (0, [.null, .null, .null, .null]), .inl (0, [.null, .null, .null, .null]), .inl (1, [(.int (0 : Int32)), .null, .null])] (Is none [.inl (0, [.null, .null, .null, .null]), .inl (0, [.null, .null, .null, .null]), .inl (0, [.null, .null, .null, .null]), .inl (0, [.null, .null, .null, .null]), .inl (1, [(.int (1 : Int32)), (.ref (n0 + 0)), (.ref (n0 + 0))])]) := by
  refine Met.of (a0 := a0) (ls := #[.val (.ref (n0 + 4)), .val (.ref (n0 + 0))]) (kok hw) (plainFor_of_name pn_8) (fun m => by first | (simp [entryFrame, mkF, argsToLocals, Value.category]; done) | rfl) (fun G H => ?_)
  refine H.aloadN s7_0 rfl rfl ?_
  refine H.aloadN s7_1 rfl rfl ?_
  refine H.getfield s7_2 (k_16 hw) (i := 4) rfl rfl ?_
  refine H.putfield s7_5 (k_17 hw) (i := 0) rfl rfl rfl (A' := [.inl (0, [.null, .null, .null, .null]), .inl (0, [.null, .null, .null, .null]), .inl (0, [.null, .null, .null, .null]), .inl (0, [.null, .null, .null, .null]), .inl (1, [(.int (0 : Int32)), .null, .null])]) rfl ?_
  refine H.aloadN s7_8 rfl rfl ?_
  refine H.getfield s7_9 (k_16 hw) (i := 4) rfl rfl ?_
  refine H.ifnonnullF s7_12 ?_
  refine H.aloadN s7_15 rfl rfl ?_
  refine H.aloadN s7_16 rfl rfl ?_
  refine H.putfield s7_17 (k_18 hw) (i := 4) rfl rfl rfl (A' := [.inl (0, [.null, .null, .null, .null]), .inl (0, [.null, .null, .null, .null]), .inl (0, [.null, .null, .null, .null]), .inl (0, [.null, .null, .null, .null]), .inl (1, [(.int (0 : Int32)), (.ref (n0 + 0)), .null])]) rfl ?_
  refine H.goto s7_20 ?_
  refine H.aloadN s7_31 rfl rfl ?_
  refine H.aloadN s7_32 rfl rfl ?_
  refine H.putfield s7_33 (k_19 hw) (i := 4) rfl rfl rfl (A' := [.inl (0, [.null, .null, .null, .null]), .inl (0, [.null, .null, .null, .null]), .inl (0, [.null, .null, .null, .null]), .inl (0, [.null, .null, .null, .null]), .inl (1, [(.int (0 : Int32)), (.ref (n0 + 0)), (.ref (n0 + 0))])]) rfl ?_
  refine H.aloadN s7_36 rfl rfl ?_
  refine H.dup s7_37 rfl ?_
  refine H.getfield s7_38 (k_10 hw) (i := 4) rfl rfl ?_
  refine H.iconst s7_41 (v := (1 : Int32)) (by decide) ?_
  refine H.iadd s7_42 (w := (1 : Int32)) (by decide) ?_
  refine H.putfield s7_43 (k_20 hw) (i := 4) rfl rfl rfl (A' := [.inl (0, [.null, .null, .null, .null]), .inl (0, [.null, .null, .null, .null]), .inl (0, [.null, .null, .null, .null]), .inl (0, [.null, .null, .null, .null]), .inl (1, [(.int (1 : Int32)), (.ref (n0 + 0)), (.ref (n0 + 0))])]) rfl ?_
  exact H.vreturn s7_46 rfl ⟨rfl, rfl⟩ (by decide) (by decide)

theorem pd_4 : ∀ sig, parseMethodDescriptor "(Lcom/example/nano_acl/nanoacl/principal/Membership;)V" = some sig → 1 = sig.parameters.length := npOf (r := none) (ps := [(.object "com/example/nano_acl/nanoacl/principal/Membership")]) (by decide +kernel) rfl
theorem k_21 {Z : State} {a0 : Array Value} (hw : HW1 Z a0) : VL Z a0 KT "com/example/nano_acl/nanoacl/principal/MemberListAppendPinLaw" 15 1 y7 prog_50_method_4_code 2 none 1 := ⟨_, _, rfl, (hw _ (List.mem_of_getElem? (i := 41) rfl)), (hw _ (List.mem_of_getElem? (i := 42) rfl)), (hw _ (List.mem_of_getElem? (i := 44) rfl)), (hw _ (List.mem_of_getElem? (i := 43) rfl)), (hw _ (List.mem_of_getElem? (i := 15) rfl)), (hw _ (List.mem_of_getElem? (i := 45) rfl)), ⟨by decide, by decide⟩, pd_4⟩
set_option maxRecDepth 65536 in
set_option maxHeartbeats 40000000 in
theorem a_11 (l : Launch) {Z : State} {a0 : Array Value} (hw : HW1 Z a0) (n0 : Nat)  : Met l Z KT n0 y4 prog_50_method_2_code 1 (some .int) ({ frames := 0, cells := 0, slots := 0, locals := 0 } : Room) #[(.ref (n0 + 4))] [.inl (0, [.null, .null, .null, .null]), .inl (0, [.null, .null, .null, .null]), .inl (0, [.null, .null, .null, .null]), .inl (0, [.null, .null, .null, .null]), .inl (1, [(.int (1 : Int32)), (.ref (n0 + 0)), (.ref (n0 + 0))])] (Is (some (.int (1 : Int32))) [.inl (0, [.null, .null, .null, .null]), .inl (0, [.null, .null, .null, .null]), .inl (0, [.null, .null, .null, .null]), .inl (0, [.null, .null, .null, .null]), .inl (1, [(.int (1 : Int32)), (.ref (n0 + 0)), (.ref (n0 + 0))])]) := by
  refine Met.of (a0 := a0) (ls := #[.val (.ref (n0 + 4))]) (kok hw) (plainFor_of_name pn_8) (fun m => by first | (simp [entryFrame, mkF, argsToLocals, Value.category]; done) | rfl) (fun G H => ?_)
  refine H.aloadN s4_0 rfl rfl ?_
  refine H.getfield s4_1 (k_10 hw) (i := 4) rfl rfl ?_
  exact H.ireturn s4_4 rfl (by simp) rfl ⟨rfl, rfl⟩ (by decide) (by decide)


set_option maxRecDepth 65536 in
set_option maxHeartbeats 40000000 in
theorem a_12 (l : Launch) {Z : State} {a0 : Array Value} (hw : HW1 Z a0) (n0 : Nat)  : Met l Z KT n0 y5 prog_50_method_3_code 1 (some (.object "com/example/nano_acl/nanoacl/principal/Membership")) ({ frames := 0, cells := 0, slots := 0, locals := 0 } : Room) #[(.ref (n0 + 4))] [.inl (0, [.null, .null, .null, .null]), .inl (0, [.null, .null, .null, .null]), .inl (0, [.null, .null, .null, .null]), .inl (0, [.null, .null, .null, .null]), .inl (1, [(.int (1 : Int32)), (.ref (n0 + 0)), (.ref (n0 + 0))])] (Is (some (.ref (n0 + 0))) [.inl (0, [.null, .null, .null, .null]), .inl (0, [.null, .null, .null, .null]), .inl (0, [.null, .null, .null, .null]), .inl (0, [.null, .null, .null, .null]), .inl (1, [(.int (1 : Int32)), (.ref (n0 + 0)), (.ref (n0 + 0))])]) := by
  refine Met.of (a0 := a0) (ls := #[.val (.ref (n0 + 4))]) (kok hw) (plainFor_of_name pn_8) (fun m => by first | (simp [entryFrame, mkF, argsToLocals, Value.category]; done) | rfl) (fun G H => ?_)
  refine H.aloadN s5_0 rfl rfl ?_
  refine H.getfield s5_1 (k_12 hw) (i := 4) rfl rfl ?_
  exact H.areturn s5_4 rfl rfl rfl rfl ⟨rfl, rfl⟩ (by decide) (by decide)

theorem s0_120 : Nx code 120 (.aload_n 3) 1 121 := ⟨at_120, rfl⟩
theorem s0_121 : Bx code 121 (.goto) 125 124 := ⟨(4), at_121, by decide, by decide, rfl⟩
set_option maxRecDepth 65536 in
set_option maxHeartbeats 40000000 in
theorem a_13 (l : Launch) {Z : State} {a0 : Array Value} (hw : HW1 Z a0) (n0 : Nat)  : Met l Z KT n0 y6 prog_49_method_4_code 1 (some (.object "com/example/nano_acl/nanoacl/principal/Membership")) ({ frames := 0, cells := 0, slots := 0, locals := 0 } : Room) #[(.ref (n0 + 0))] [.inl (0, [.null, .null, .null, .null]), .inl (0, [.null, .null, .null, .null]), .inl (0, [.null, .null, .null, .null]), .inl (0, [.null, .null, .null, .null]), .inl (1, [(.int (1 : Int32)), (.ref (n0 + 0)), (.ref (n0 + 0))])] (Is (some .null) [.inl (0, [.null, .null, .null, .null]), .inl (0, [.null, .null, .null, .null]), .inl (0, [.null, .null, .null, .null]), .inl (0, [.null, .null, .null, .null]), .inl (1, [(.int (1 : Int32)), (.ref (n0 + 0)), (.ref (n0 + 0))])]) := by
  refine Met.of (a0 := a0) (ls := #[.val (.ref (n0 + 0))]) (kok hw) (plainFor_of_name pn_4) (fun m => by first | (simp [entryFrame, mkF, argsToLocals, Value.category]; done) | rfl) (fun G H => ?_)
  refine H.aloadN s6_0 rfl rfl ?_
  refine H.getfield s6_1 (k_14 hw) (i := 0) rfl rfl ?_
  exact H.areturn s6_4 rfl rfl rfl rfl ⟨rfl, rfl⟩ (by decide) (by decide)


set_option maxRecDepth 65536 in
set_option maxHeartbeats 40000000 in
theorem a_14 (l : Launch) {Z : State} {a0 : Array Value} (hw : HW1 Z a0) (n0 : Nat)  : Met l Z KT n0 y6 prog_49_method_4_code 1 (some (.object "com/example/nano_acl/nanoacl/principal/Membership")) ({ frames := 0, cells := 0, slots := 0, locals := 0 } : Room) #[(.ref (n0 + 1))] [.inl (0, [.null, .null, .null, .null]), .inl (0, [.null, .null, .null, .null]), .inl (0, [.null, .null, .null, .null]), .inl (0, [.null, .null, .null, .null]), .inl (1, [(.int (1 : Int32)), (.ref (n0 + 0)), (.ref (n0 + 0))])] (Is (some .null) [.inl (0, [.null, .null, .null, .null]), .inl (0, [.null, .null, .null, .null]), .inl (0, [.null, .null, .null, .null]), .inl (0, [.null, .null, .null, .null]), .inl (1, [(.int (1 : Int32)), (.ref (n0 + 0)), (.ref (n0 + 0))])]) := by
  refine Met.of (a0 := a0) (ls := #[.val (.ref (n0 + 1))]) (kok hw) (plainFor_of_name pn_4) (fun m => by first | (simp [entryFrame, mkF, argsToLocals, Value.category]; done) | rfl) (fun G H => ?_)
  refine H.aloadN s6_0 rfl rfl ?_
  refine H.getfield s6_1 (k_14 hw) (i := 1) rfl rfl ?_
  exact H.areturn s6_4 rfl rfl rfl rfl ⟨rfl, rfl⟩ (by decide) (by decide)


set_option maxRecDepth 65536 in
set_option maxHeartbeats 40000000 in
theorem a_15 (l : Launch) {Z : State} {a0 : Array Value} (hw : HW1 Z a0) (n0 : Nat)  : Met l Z KT n0 y6 prog_49_method_4_code 1 (some (.object "com/example/nano_acl/nanoacl/principal/Membership")) ({ frames := 0, cells := 0, slots := 0, locals := 0 } : Room) #[(.ref (n0 + 2))] [.inl (0, [.null, .null, .null, .null]), .inl (0, [.null, .null, .null, .null]), .inl (0, [.null, .null, .null, .null]), .inl (0, [.null, .null, .null, .null]), .inl (1, [(.int (1 : Int32)), (.ref (n0 + 0)), (.ref (n0 + 0))])] (Is (some .null) [.inl (0, [.null, .null, .null, .null]), .inl (0, [.null, .null, .null, .null]), .inl (0, [.null, .null, .null, .null]), .inl (0, [.null, .null, .null, .null]), .inl (1, [(.int (1 : Int32)), (.ref (n0 + 0)), (.ref (n0 + 0))])]) := by
  refine Met.of (a0 := a0) (ls := #[.val (.ref (n0 + 2))]) (kok hw) (plainFor_of_name pn_4) (fun m => by first | (simp [entryFrame, mkF, argsToLocals, Value.category]; done) | rfl) (fun G H => ?_)
  refine H.aloadN s6_0 rfl rfl ?_
  refine H.getfield s6_1 (k_14 hw) (i := 2) rfl rfl ?_
  exact H.areturn s6_4 rfl rfl rfl rfl ⟨rfl, rfl⟩ (by decide) (by decide)

theorem s0_223 : Nx code 223 (.iload_n 1) 1 224 := ⟨at_223, rfl⟩
theorem k_22 {Z : State} {a0 : Array Value} (hw : HW1 Z a0) : (Jvm.Cond.constant "com/example/nano_acl/nanoacl/principal/MemberListAppendPinLaw" 30 (2147483647)).before a0 Z = true := (hw _ (List.mem_of_getElem? (i := 51) rfl))
theorem s0_224 : Nx code 224 (.ldc 30) 2 226 := ⟨at_224, rfl⟩
theorem s0_226 : Nx code 226 (.iand) 1 227 := ⟨at_226, rfl⟩
theorem s0_227 : Nx code 227 (.iload_n 2) 1 228 := ⟨at_227, rfl⟩
theorem s0_228 : Nx code 228 (.irem) 1 229 := ⟨at_228, rfl⟩
theorem s0_229 : Nx code 229 (.istore 9) 2 231 := ⟨at_229, rfl⟩
theorem s0_231 : Nx code 231 (.iload 9) 2 233 := ⟨at_231, rfl⟩
theorem s0_233 : Bx code 233 (.ifCond .ne) 240 236 := ⟨(7), at_233, by decide, by decide, rfl⟩
theorem s0_236 : Nx code 236 (.aload_n 3) 1 237 := ⟨at_236, rfl⟩
theorem s0_237 : Bx code 237 (.goto) 253 240 := ⟨(16), at_237, by decide, by decide, rfl⟩
theorem s0_253 : Nx code 253 (.astore 10) 2 255 := ⟨at_253, rfl⟩
theorem s0_255 : Nx code 255 (.iload 9) 2 257 := ⟨at_255, rfl⟩
theorem s0_257 : Nx code 257 (.iconst 1) 1 258 := ⟨at_257, rfl⟩
theorem s0_258 : Nx code 258 (.iadd) 1 259 := ⟨at_258, rfl⟩
theorem s0_259 : Nx code 259 (.iload_n 2) 1 260 := ⟨at_259, rfl⟩
theorem s0_260 : Bx code 260 (.if_icmp .ge) 278 263 := ⟨(18), at_260, by decide, by decide, rfl⟩
theorem s0_278 : Nx code 278 (.aconst_null) 1 279 := ⟨at_278, rfl⟩
theorem s0_279 : Nx code 279 (.astore 11) 2 281 := ⟨at_279, rfl⟩
theorem s0_281 : Nx code 281 (.aload 7) 2 283 := ⟨at_281, rfl⟩
theorem s0_283 : Nx code 283 (.aload 10) 2 285 := ⟨at_283, rfl⟩
theorem s0_285 : Nx code 285 (.invokevirtual 31) 3 288 := ⟨at_285, rfl⟩
theorem s8_0 : Nx prog_50_method_5_code 0 (.aload_n 1) 1 1 := ⟨by decide +kernel, rfl⟩
theorem k_23 {Z : State} {a0 : Array Value} (hw : HW1 Z a0) : FL Z a0 KT "com/example/nano_acl/nanoacl/principal/Membership$MemberList" 20 0 3 := ⟨_, _, "com/example/nano_acl/nanoacl/principal/Membership", "previous", "Lcom/example/nano_acl/nanoacl/principal/Membership;", "com/example/nano_acl/nanoacl/principal/Membership", rfl, rfl, (Or.inr (hw _ (List.mem_of_getElem? (i := 48) rfl)))⟩
theorem s8_1 : Nx prog_50_method_5_code 1 (.getfield 20) 3 4 := ⟨by decide +kernel, rfl⟩
theorem s8_4 : Bx prog_50_method_5_code 4 (.ifnonnull) 18 7 := ⟨(14), by decide +kernel, by decide, by decide, rfl⟩
theorem s8_7 : Nx prog_50_method_5_code 7 (.aload_n 0) 1 8 := ⟨by decide +kernel, rfl⟩
theorem s8_8 : Nx prog_50_method_5_code 8 (.aload_n 1) 1 9 := ⟨by decide +kernel, rfl⟩
theorem k_24 {Z : State} {a0 : Array Value} (hw : HW1 Z a0) : FL Z a0 KT "com/example/nano_acl/nanoacl/principal/Membership$MemberList" 25 0 2 := ⟨_, _, "com/example/nano_acl/nanoacl/principal/Membership", "next", "Lcom/example/nano_acl/nanoacl/principal/Membership;", "com/example/nano_acl/nanoacl/principal/Membership", rfl, rfl, (Or.inr (hw _ (List.mem_of_getElem? (i := 50) rfl)))⟩
theorem s8_9 : Nx prog_50_method_5_code 9 (.getfield 25) 3 12 := ⟨by decide +kernel, rfl⟩
theorem k_25 {Z : State} {a0 : Array Value} (hw : HW1 Z a0) : PL Z a0 KT "com/example/nano_acl/nanoacl/principal/Membership$MemberList" "unlink" 13 1 1 (.object "com/example/nano_acl/nanoacl/principal/Membership") := ⟨_, _, "com/example/nano_acl/nanoacl/principal/Membership$MemberList", "first", "Lcom/example/nano_acl/nanoacl/principal/Membership;", "", rfl, rfl, (Or.inl (hw _ (List.mem_of_getElem? (i := 32) rfl))), (Or.inl (hw _ (List.mem_of_getElem? (i := 33) rfl))), by decide +kernel⟩
theorem s8_12 : Nx prog_50_method_5_code 12 (.putfield 13) 3 15 := ⟨by decide +kernel, rfl⟩
theorem s8_15 : Bx prog_50_method_5_code 15 (.goto) 29 18 := ⟨(14), by decide +kernel, by decide, by decide, rfl⟩
theorem s8_29 : Nx prog_50_method_5_code 29 (.aload_n 1) 1 30 := ⟨by decide +kernel, rfl⟩
theorem s8_30 : Nx prog_50_method_5_code 30 (.getfield 25) 3 33 := ⟨by decide +kernel, rfl⟩
theorem s8_33 : Bx prog_50_method_5_code 33 (.ifnonnull) 47 36 := ⟨(14), by decide +kernel, by decide, by decide, rfl⟩
theorem s8_36 : Nx prog_50_method_5_code 36 (.aload_n 0) 1 37 := ⟨by decide +kernel, rfl⟩
theorem s8_37 : Nx prog_50_method_5_code 37 (.aload_n 1) 1 38 := ⟨by decide +kernel, rfl⟩
theorem s8_38 : Nx prog_50_method_5_code 38 (.getfield 20) 3 41 := ⟨by decide +kernel, rfl⟩
theorem k_26 {Z : State} {a0 : Array Value} (hw : HW1 Z a0) : PL Z a0 KT "com/example/nano_acl/nanoacl/principal/Membership$MemberList" "unlink" 17 1 2 (.object "com/example/nano_acl/nanoacl/principal/Membership") := ⟨_, _, "com/example/nano_acl/nanoacl/principal/Membership$MemberList", "last", "Lcom/example/nano_acl/nanoacl/principal/Membership;", "", rfl, rfl, (Or.inl (hw _ (List.mem_of_getElem? (i := 46) rfl))), (Or.inl (hw _ (List.mem_of_getElem? (i := 47) rfl))), by decide +kernel⟩
theorem s8_41 : Nx prog_50_method_5_code 41 (.putfield 17) 3 44 := ⟨by decide +kernel, rfl⟩
theorem s8_44 : Bx prog_50_method_5_code 44 (.goto) 58 47 := ⟨(14), by decide +kernel, by decide, by decide, rfl⟩
theorem s8_58 : Nx prog_50_method_5_code 58 (.aload_n 0) 1 59 := ⟨by decide +kernel, rfl⟩
theorem s8_59 : Nx prog_50_method_5_code 59 (.dup) 1 60 := ⟨by decide +kernel, rfl⟩
theorem s8_60 : Nx prog_50_method_5_code 60 (.getfield 7) 3 63 := ⟨by decide +kernel, rfl⟩
theorem s8_63 : Nx prog_50_method_5_code 63 (.iconst 1) 1 64 := ⟨by decide +kernel, rfl⟩
theorem s8_64 : Nx prog_50_method_5_code 64 (.isub) 1 65 := ⟨by decide +kernel, rfl⟩
theorem k_27 {Z : State} {a0 : Array Value} (hw : HW1 Z a0) : PL Z a0 KT "com/example/nano_acl/nanoacl/principal/Membership$MemberList" "unlink" 7 1 0 .int := ⟨_, _, "com/example/nano_acl/nanoacl/principal/Membership$MemberList", "size", "I", "", rfl, rfl, (Or.inl (hw _ (List.mem_of_getElem? (i := 25) rfl))), (Or.inl (hw _ (List.mem_of_getElem? (i := 26) rfl))), by decide +kernel⟩
theorem s8_65 : Nx prog_50_method_5_code 65 (.putfield 7) 3 68 := ⟨by decide +kernel, rfl⟩
theorem s8_68 : Nx prog_50_method_5_code 68 (.return_) 1 69 := ⟨by decide +kernel, rfl⟩
set_option maxRecDepth 65536 in
set_option maxHeartbeats 40000000 in
theorem a_16 (l : Launch) {Z : State} {a0 : Array Value} (hw : HW1 Z a0) (n0 : Nat)  : Met l Z KT n0 y8 prog_50_method_5_code 2 none ({ frames := 0, cells := 0, slots := 0, locals := 0 } : Room) #[(.ref (n0 + 4)), (.ref (n0 + 0))] [.inl (0, [.null, .null, .null, .null]), .inl (0, [.null, .null, .null, .null]), .inl (0, [.null, .null, .null, .null]), .inl (0, [.null, .null, .null, .null]), .inl (1, [(.int (1 : Int32)), (.ref (n0 + 0)), (.ref (n0 + 0))])] (Is none [.inl (0, [.null, .null, .null, .null]), .inl (0, [.null, .null, .null, .null]), .inl (0, [.null, .null, .null, .null]), .inl (0, [.null, .null, .null, .null]), .inl (1, [(.int (0 : Int32)), .null, .null])]) := by
  refine Met.of (a0 := a0) (ls := #[.val (.ref (n0 + 4)), .val (.ref (n0 + 0))]) (kok hw) (plainFor_of_name pn_8) (fun m => by first | (simp [entryFrame, mkF, argsToLocals, Value.category]; done) | rfl) (fun G H => ?_)
  refine H.aloadN s8_0 rfl rfl ?_
  refine H.getfield s8_1 (k_23 hw) (i := 0) rfl rfl ?_
  refine H.ifnonnullF s8_4 ?_
  refine H.aloadN s8_7 rfl rfl ?_
  refine H.aloadN s8_8 rfl rfl ?_
  refine H.getfield s8_9 (k_24 hw) (i := 0) rfl rfl ?_
  refine H.putfield s8_12 (k_25 hw) (i := 4) rfl rfl rfl (A' := [.inl (0, [.null, .null, .null, .null]), .inl (0, [.null, .null, .null, .null]), .inl (0, [.null, .null, .null, .null]), .inl (0, [.null, .null, .null, .null]), .inl (1, [(.int (1 : Int32)), .null, (.ref (n0 + 0))])]) rfl ?_
  refine H.goto s8_15 ?_
  refine H.aloadN s8_29 rfl rfl ?_
  refine H.getfield s8_30 (k_24 hw) (i := 0) rfl rfl ?_
  refine H.ifnonnullF s8_33 ?_
  refine H.aloadN s8_36 rfl rfl ?_
  refine H.aloadN s8_37 rfl rfl ?_
  refine H.getfield s8_38 (k_23 hw) (i := 0) rfl rfl ?_
  refine H.putfield s8_41 (k_26 hw) (i := 4) rfl rfl rfl (A' := [.inl (0, [.null, .null, .null, .null]), .inl (0, [.null, .null, .null, .null]), .inl (0, [.null, .null, .null, .null]), .inl (0, [.null, .null, .null, .null]), .inl (1, [(.int (1 : Int32)), .null, .null])]) rfl ?_
  refine H.goto s8_44 ?_
  refine H.aloadN s8_58 rfl rfl ?_
  refine H.dup s8_59 rfl ?_
  refine H.getfield s8_60 (k_10 hw) (i := 4) rfl rfl ?_
  refine H.iconst s8_63 (v := (1 : Int32)) (by decide) ?_
  refine H.isub s8_64 (w := (0 : Int32)) (by decide) ?_
  refine H.putfield s8_65 (k_27 hw) (i := 4) rfl rfl rfl (A' := [.inl (0, [.null, .null, .null, .null]), .inl (0, [.null, .null, .null, .null]), .inl (0, [.null, .null, .null, .null]), .inl (0, [.null, .null, .null, .null]), .inl (1, [(.int (0 : Int32)), .null, .null])]) rfl ?_
  exact H.vreturn s8_68 rfl ⟨rfl, rfl⟩ (by decide) (by decide)

theorem k_28 {Z : State} {a0 : Array Value} (hw : HW1 Z a0) : VL Z a0 KT "com/example/nano_acl/nanoacl/principal/MemberListAppendPinLaw" 31 1 y8 prog_50_method_5_code 2 none 1 := ⟨_, _, rfl, (hw _ (List.mem_of_getElem? (i := 52) rfl)), (hw _ (List.mem_of_getElem? (i := 53) rfl)), (hw _ (List.mem_of_getElem? (i := 55) rfl)), (hw _ (List.mem_of_getElem? (i := 54) rfl)), (hw _ (List.mem_of_getElem? (i := 15) rfl)), (hw _ (List.mem_of_getElem? (i := 56) rfl)), ⟨by decide, by decide⟩, pd_4⟩
theorem s0_288 : Nx code 288 (.aload 7) 2 290 := ⟨at_288, rfl⟩
theorem s0_290 : Nx code 290 (.aload 6) 2 292 := ⟨at_290, rfl⟩
theorem s0_292 : Nx code 292 (.invokevirtual 15) 3 295 := ⟨at_292, rfl⟩
set_option maxRecDepth 65536 in
set_option maxHeartbeats 40000000 in
theorem a_17 (l : Launch) {Z : State} {a0 : Array Value} (hw : HW1 Z a0) (n0 : Nat)  : Met l Z KT n0 y7 prog_50_method_4_code 2 none ({ frames := 0, cells := 0, slots := 0, locals := 0 } : Room) #[(.ref (n0 + 4)), (.ref (n0 + 3))] [.inl (0, [.null, .null, .null, .null]), .inl (0, [.null, .null, .null, .null]), .inl (0, [.null, .null, .null, .null]), .inl (0, [.null, .null, .null, .null]), .inl (1, [(.int (0 : Int32)), .null, .null])] (Is none [.inl (0, [.null, .null, .null, .null]), .inl (0, [.null, .null, .null, .null]), .inl (0, [.null, .null, .null, .null]), .inl (0, [.null, .null, .null, .null]), .inl (1, [(.int (1 : Int32)), (.ref (n0 + 3)), (.ref (n0 + 3))])]) := by
  refine Met.of (a0 := a0) (ls := #[.val (.ref (n0 + 4)), .val (.ref (n0 + 3))]) (kok hw) (plainFor_of_name pn_8) (fun m => by first | (simp [entryFrame, mkF, argsToLocals, Value.category]; done) | rfl) (fun G H => ?_)
  refine H.aloadN s7_0 rfl rfl ?_
  refine H.aloadN s7_1 rfl rfl ?_
  refine H.getfield s7_2 (k_16 hw) (i := 4) rfl rfl ?_
  refine H.putfield s7_5 (k_17 hw) (i := 3) rfl rfl rfl (A' := [.inl (0, [.null, .null, .null, .null]), .inl (0, [.null, .null, .null, .null]), .inl (0, [.null, .null, .null, .null]), .inl (0, [.null, .null, .null, .null]), .inl (1, [(.int (0 : Int32)), .null, .null])]) rfl ?_
  refine H.aloadN s7_8 rfl rfl ?_
  refine H.getfield s7_9 (k_16 hw) (i := 4) rfl rfl ?_
  refine H.ifnonnullF s7_12 ?_
  refine H.aloadN s7_15 rfl rfl ?_
  refine H.aloadN s7_16 rfl rfl ?_
  refine H.putfield s7_17 (k_18 hw) (i := 4) rfl rfl rfl (A' := [.inl (0, [.null, .null, .null, .null]), .inl (0, [.null, .null, .null, .null]), .inl (0, [.null, .null, .null, .null]), .inl (0, [.null, .null, .null, .null]), .inl (1, [(.int (0 : Int32)), (.ref (n0 + 3)), .null])]) rfl ?_
  refine H.goto s7_20 ?_
  refine H.aloadN s7_31 rfl rfl ?_
  refine H.aloadN s7_32 rfl rfl ?_
  refine H.putfield s7_33 (k_19 hw) (i := 4) rfl rfl rfl (A' := [.inl (0, [.null, .null, .null, .null]), .inl (0, [.null, .null, .null, .null]), .inl (0, [.null, .null, .null, .null]), .inl (0, [.null, .null, .null, .null]), .inl (1, [(.int (0 : Int32)), (.ref (n0 + 3)), (.ref (n0 + 3))])]) rfl ?_
  refine H.aloadN s7_36 rfl rfl ?_
  refine H.dup s7_37 rfl ?_
  refine H.getfield s7_38 (k_10 hw) (i := 4) rfl rfl ?_
  refine H.iconst s7_41 (v := (1 : Int32)) (by decide) ?_
  refine H.iadd s7_42 (w := (1 : Int32)) (by decide) ?_
  refine H.putfield s7_43 (k_20 hw) (i := 4) rfl rfl rfl (A' := [.inl (0, [.null, .null, .null, .null]), .inl (0, [.null, .null, .null, .null]), .inl (0, [.null, .null, .null, .null]), .inl (0, [.null, .null, .null, .null]), .inl (1, [(.int (1 : Int32)), (.ref (n0 + 3)), (.ref (n0 + 3))])]) rfl ?_
  exact H.vreturn s7_46 rfl ⟨rfl, rfl⟩ (by decide) (by decide)

theorem s0_295 : Nx code 295 (.iload_n 2) 1 296 := ⟨at_295, rfl⟩
theorem s0_296 : Nx code 296 (.iconst 1) 1 297 := ⟨at_296, rfl⟩
theorem s0_297 : Nx code 297 (.isub) 1 298 := ⟨at_297, rfl⟩
theorem s0_298 : Nx code 298 (.istore 12) 2 300 := ⟨at_298, rfl⟩
theorem s0_300 : Nx code 300 (.iload 9) 2 302 := ⟨at_300, rfl⟩
theorem s0_302 : Bx code 302 (.ifCond .ne) 310 305 := ⟨(8), at_302, by decide, by decide, rfl⟩
theorem s0_305 : Nx code 305 (.aload 4) 2 307 := ⟨at_305, rfl⟩
theorem s0_307 : Bx code 307 (.goto) 311 310 := ⟨(4), at_307, by decide, by decide, rfl⟩
theorem s0_311 : Nx code 311 (.astore 13) 2 313 := ⟨at_311, rfl⟩
theorem s0_313 : Nx code 313 (.iload 9) 2 315 := ⟨at_313, rfl⟩
theorem s0_315 : Nx code 315 (.iconst 1) 1 316 := ⟨at_315, rfl⟩
theorem s0_316 : Bx code 316 (.if_icmp .gt) 324 319 := ⟨(8), at_316, by decide, by decide, rfl⟩
theorem s0_319 : Nx code 319 (.aload 5) 2 321 := ⟨at_319, rfl⟩
theorem s0_321 : Bx code 321 (.goto) 326 324 := ⟨(5), at_321, by decide, by decide, rfl⟩
theorem s0_326 : Nx code 326 (.astore 14) 2 328 := ⟨at_326, rfl⟩
theorem s0_328 : Nx code 328 (.iload 8) 2 330 := ⟨at_328, rfl⟩
theorem s0_330 : Bx code 330 (.ifCond .eq) 346 333 := ⟨(16), at_330, by decide, by decide, rfl⟩
theorem s0_333 : Nx code 333 (.aload 7) 2 335 := ⟨at_333, rfl⟩
theorem s0_335 : Nx code 335 (.invokevirtual 19) 3 338 := ⟨at_335, rfl⟩
set_option maxRecDepth 65536 in
set_option maxHeartbeats 40000000 in
theorem a_18 (l : Launch) {Z : State} {a0 : Array Value} (hw : HW1 Z a0) (n0 : Nat)  : Met l Z KT n0 y4 prog_50_method_2_code 1 (some .int) ({ frames := 0, cells := 0, slots := 0, locals := 0 } : Room) #[(.ref (n0 + 4))] [.inl (0, [.null, .null, .null, .null]), .inl (0, [.null, .null, .null, .null]), .inl (0, [.null, .null, .null, .null]), .inl (0, [.null, .null, .null, .null]), .inl (1, [(.int (1 : Int32)), (.ref (n0 + 3)), (.ref (n0 + 3))])] (Is (some (.int (1 : Int32))) [.inl (0, [.null, .null, .null, .null]), .inl (0, [.null, .null, .null, .null]), .inl (0, [.null, .null, .null, .null]), .inl (0, [.null, .null, .null, .null]), .inl (1, [(.int (1 : Int32)), (.ref (n0 + 3)), (.ref (n0 + 3))])]) := by
  refine Met.of (a0 := a0) (ls := #[.val (.ref (n0 + 4))]) (kok hw) (plainFor_of_name pn_8) (fun m => by first | (simp [entryFrame, mkF, argsToLocals, Value.category]; done) | rfl) (fun G H => ?_)
  refine H.aloadN s4_0 rfl rfl ?_
  refine H.getfield s4_1 (k_10 hw) (i := 4) rfl rfl ?_
  exact H.ireturn s4_4 rfl (by simp) rfl ⟨rfl, rfl⟩ (by decide) (by decide)

theorem s0_338 : Nx code 338 (.iload_n 2) 1 339 := ⟨at_338, rfl⟩
theorem s0_339 : Bx code 339 (.if_icmp .ne) 346 342 := ⟨(7), at_339, by decide, by decide, rfl⟩
theorem s0_342 : Nx code 342 (.iconst 1) 1 343 := ⟨at_342, rfl⟩
theorem s0_343 : Bx code 343 (.goto) 347 346 := ⟨(4), at_343, by decide, by decide, rfl⟩
theorem s0_347 : Nx code 347 (.istore 8) 2 349 := ⟨at_347, rfl⟩
theorem s0_349 : Nx code 349 (.iload 8) 2 351 := ⟨at_349, rfl⟩
theorem s0_351 : Bx code 351 (.ifCond .eq) 378 354 := ⟨(27), at_351, by decide, by decide, rfl⟩
theorem s0_354 : Nx code 354 (.aload 7) 2 356 := ⟨at_354, rfl⟩
theorem s0_356 : Nx code 356 (.invokevirtual 23) 3 359 := ⟨at_356, rfl⟩
set_option maxRecDepth 65536 in
set_option maxHeartbeats 40000000 in
theorem a_19 (l : Launch) {Z : State} {a0 : Array Value} (hw : HW1 Z a0) (n0 : Nat)  : Met l Z KT n0 y5 prog_50_method_3_code 1 (some (.object "com/example/nano_acl/nanoacl/principal/Membership")) ({ frames := 0, cells := 0, slots := 0, locals := 0 } : Room) #[(.ref (n0 + 4))] [.inl (0, [.null, .null, .null, .null]), .inl (0, [.null, .null, .null, .null]), .inl (0, [.null, .null, .null, .null]), .inl (0, [.null, .null, .null, .null]), .inl (1, [(.int (1 : Int32)), (.ref (n0 + 3)), (.ref (n0 + 3))])] (Is (some (.ref (n0 + 3))) [.inl (0, [.null, .null, .null, .null]), .inl (0, [.null, .null, .null, .null]), .inl (0, [.null, .null, .null, .null]), .inl (0, [.null, .null, .null, .null]), .inl (1, [(.int (1 : Int32)), (.ref (n0 + 3)), (.ref (n0 + 3))])]) := by
  refine Met.of (a0 := a0) (ls := #[.val (.ref (n0 + 4))]) (kok hw) (plainFor_of_name pn_8) (fun m => by first | (simp [entryFrame, mkF, argsToLocals, Value.category]; done) | rfl) (fun G H => ?_)
  refine H.aloadN s5_0 rfl rfl ?_
  refine H.getfield s5_1 (k_12 hw) (i := 4) rfl rfl ?_
  exact H.areturn s5_4 rfl rfl rfl rfl ⟨rfl, rfl⟩ (by decide) (by decide)

theorem s0_359 : Nx code 359 (.iload 12) 2 361 := ⟨at_359, rfl⟩
theorem s0_361 : Bx code 361 (.ifCond .le) 369 364 := ⟨(8), at_361, by decide, by decide, rfl⟩
theorem s0_369 : Nx code 369 (.aload 6) 2 371 := ⟨at_369, rfl⟩
theorem s0_371 : Bx code 371 (.if_acmp .ne) 378 374 := ⟨(7), at_371, by decide, by decide, rfl⟩
theorem s0_374 : Nx code 374 (.iconst 1) 1 375 := ⟨at_374, rfl⟩
theorem s0_375 : Bx code 375 (.goto) 379 378 := ⟨(4), at_375, by decide, by decide, rfl⟩
theorem s0_379 : Nx code 379 (.istore 8) 2 381 := ⟨at_379, rfl⟩
theorem s0_381 : Nx code 381 (.iload 12) 2 383 := ⟨at_381, rfl⟩
theorem s0_383 : Nx code 383 (.iconst 1) 1 384 := ⟨at_383, rfl⟩
theorem s0_384 : Bx code 384 (.if_icmp .lt) 420 387 := ⟨(36), at_384, by decide, by decide, rfl⟩
theorem s0_420 : Nx code 420 (.iload 12) 2 422 := ⟨at_420, rfl⟩
theorem s0_422 : Nx code 422 (.iconst 2) 1 423 := ⟨at_422, rfl⟩
theorem s0_423 : Bx code 423 (.if_icmp .lt) 448 426 := ⟨(25), at_423, by decide, by decide, rfl⟩
theorem s0_448 : Nx code 448 (.iload 8) 2 450 := ⟨at_448, rfl⟩
theorem s0_450 : Bx code 450 (.ifCond .eq) 465 453 := ⟨(15), at_450, by decide, by decide, rfl⟩
theorem s0_453 : Nx code 453 (.aload 6) 2 455 := ⟨at_453, rfl⟩
theorem s0_455 : Nx code 455 (.invokevirtual 27) 3 458 := ⟨at_455, rfl⟩
set_option maxRecDepth 65536 in
set_option maxHeartbeats 40000000 in
theorem a_20 (l : Launch) {Z : State} {a0 : Array Value} (hw : HW1 Z a0) (n0 : Nat)  : Met l Z KT n0 y6 prog_49_method_4_code 1 (some (.object "com/example/nano_acl/nanoacl/principal/Membership")) ({ frames := 0, cells := 0, slots := 0, locals := 0 } : Room) #[(.ref (n0 + 3))] [.inl (0, [.null, .null, .null, .null]), .inl (0, [.null, .null, .null, .null]), .inl (0, [.null, .null, .null, .null]), .inl (0, [.null, .null, .null, .null]), .inl (1, [(.int (1 : Int32)), (.ref (n0 + 3)), (.ref (n0 + 3))])] (Is (some .null) [.inl (0, [.null, .null, .null, .null]), .inl (0, [.null, .null, .null, .null]), .inl (0, [.null, .null, .null, .null]), .inl (0, [.null, .null, .null, .null]), .inl (1, [(.int (1 : Int32)), (.ref (n0 + 3)), (.ref (n0 + 3))])]) := by
  refine Met.of (a0 := a0) (ls := #[.val (.ref (n0 + 3))]) (kok hw) (plainFor_of_name pn_4) (fun m => by first | (simp [entryFrame, mkF, argsToLocals, Value.category]; done) | rfl) (fun G H => ?_)
  refine H.aloadN s6_0 rfl rfl ?_
  refine H.getfield s6_1 (k_14 hw) (i := 3) rfl rfl ?_
  exact H.areturn s6_4 rfl rfl rfl rfl ⟨rfl, rfl⟩ (by decide) (by decide)

theorem s0_458 : Bx code 458 (.ifnonnull) 465 461 := ⟨(7), at_458, by decide, by decide, rfl⟩
theorem s0_461 : Nx code 461 (.iconst 1) 1 462 := ⟨at_461, rfl⟩
theorem s0_462 : Bx code 462 (.goto) 466 465 := ⟨(4), at_462, by decide, by decide, rfl⟩
theorem s0_466 : Nx code 466 (.istore 8) 2 468 := ⟨at_466, rfl⟩
theorem s0_468 : Nx code 468 (.iload 8) 2 470 := ⟨at_468, rfl⟩
theorem s0_470 : Bx code 470 (.ifCond .eq) 487 473 := ⟨(17), at_470, by decide, by decide, rfl⟩
theorem s0_473 : Nx code 473 (.aload 10) 2 475 := ⟨at_473, rfl⟩
theorem s0_475 : Nx code 475 (.invokevirtual 27) 3 478 := ⟨at_475, rfl⟩
set_option maxRecDepth 65536 in
set_option maxHeartbeats 40000000 in
theorem a_21 (l : Launch) {Z : State} {a0 : Array Value} (hw : HW1 Z a0) (n0 : Nat)  : Met l Z KT n0 y6 prog_49_method_4_code 1 (some (.object "com/example/nano_acl/nanoacl/principal/Membership")) ({ frames := 0, cells := 0, slots := 0, locals := 0 } : Room) #[(.ref (n0 + 0))] [.inl (0, [.null, .null, .null, .null]), .inl (0, [.null, .null, .null, .null]), .inl (0, [.null, .null, .null, .null]), .inl (0, [.null, .null, .null, .null]), .inl (1, [(.int (1 : Int32)), (.ref (n0 + 3)), (.ref (n0 + 3))])] (Is (some .null) [.inl (0, [.null, .null, .null, .null]), .inl (0, [.null, .null, .null, .null]), .inl (0, [.null, .null, .null, .null]), .inl (0, [.null, .null, .null, .null]), .inl (1, [(.int (1 : Int32)), (.ref (n0 + 3)), (.ref (n0 + 3))])]) := by
  refine Met.of (a0 := a0) (ls := #[.val (.ref (n0 + 0))]) (kok hw) (plainFor_of_name pn_4) (fun m => by first | (simp [entryFrame, mkF, argsToLocals, Value.category]; done) | rfl) (fun G H => ?_)
  refine H.aloadN s6_0 rfl rfl ?_
  refine H.getfield s6_1 (k_14 hw) (i := 0) rfl rfl ?_
  exact H.areturn s6_4 rfl rfl rfl rfl ⟨rfl, rfl⟩ (by decide) (by decide)

theorem s0_478 : Nx code 478 (.aload 11) 2 480 := ⟨at_478, rfl⟩
theorem s0_480 : Bx code 480 (.if_acmp .ne) 487 483 := ⟨(7), at_480, by decide, by decide, rfl⟩
theorem s0_483 : Nx code 483 (.iconst 1) 1 484 := ⟨at_483, rfl⟩
theorem s0_484 : Bx code 484 (.goto) 488 487 := ⟨(4), at_484, by decide, by decide, rfl⟩
theorem s0_488 : Nx code 488 (.istore 8) 2 490 := ⟨at_488, rfl⟩
theorem s0_490 : Nx code 490 (.iload 8) 2 492 := ⟨at_490, rfl⟩
theorem s0_492 : Nx code 492 (.ireturn) 1 493 := ⟨at_492, rfl⟩
theorem s0_71 : Nx code 71 (.aload 7) 2 73 := ⟨at_71, rfl⟩
theorem s0_73 : Nx code 73 (.aload 4) 2 75 := ⟨at_73, rfl⟩
theorem s0_75 : Nx code 75 (.invokevirtual 15) 3 78 := ⟨at_75, rfl⟩
theorem s7_23 : Nx prog_50_method_4_code 23 (.aload_n 0) 1 24 := ⟨by decide +kernel, rfl⟩
theorem s7_24 : Nx prog_50_method_4_code 24 (.getfield 17) 3 27 := ⟨by decide +kernel, rfl⟩
theorem s7_27 : Nx prog_50_method_4_code 27 (.aload_n 1) 1 28 := ⟨by decide +kernel, rfl⟩
theorem k_29 {Z : State} {a0 : Array Value} (hw : HW1 Z a0) : PL Z a0 KT "com/example/nano_acl/nanoacl/principal/Membership$MemberList" "append" 25 0 2 (.object "com/example/nano_acl/nanoacl/principal/Membership") := ⟨_, _, "com/example/nano_acl/nanoacl/principal/Membership", "next", "Lcom/example/nano_acl/nanoacl/principal/Membership;", "com/example/nano_acl/nanoacl/principal/Membership", rfl, rfl, (Or.inr (hw _ (List.mem_of_getElem? (i := 50) rfl))), (Or.inl (hw _ (List.mem_of_getElem? (i := 40) rfl))), by decide +kernel⟩
theorem s7_28 : Nx prog_50_method_4_code 28 (.putfield 25) 3 31 := ⟨by decide +kernel, rfl⟩
set_option maxRecDepth 65536 in
set_option maxHeartbeats 40000000 in
theorem a_22 (l : Launch) {Z : State} {a0 : Array Value} (hw : HW1 Z a0) (n0 : Nat)  : Met l Z KT n0 y7 prog_50_method_4_code 2 none ({ frames := 0, cells := 0, slots := 0, locals := 0 } : Room) #[(.ref (n0 + 4)), (.ref (n0 + 1))] [.inl (0, [.null, .null, .null, .null]), .inl (0, [.null, .null, .null, .null]), .inl (0, [.null, .null, .null, .null]), .inl (0, [.null, .null, .null, .null]), .inl (1, [(.int (1 : Int32)), (.ref (n0 + 0)), (.ref (n0 + 0))])] (Is none [.inl (0, [.null, .null, (.ref (n0 + 1)), .null]), .inl (0, [.null, .null, .null, (.ref (n0 + 0))]), .inl (0, [.null, .null, .null, .null]), .inl (0, [.null, .null, .null, .null]), .inl (1, [(.int (2 : Int32)), (.ref (n0 + 0)), (.ref (n0 + 1))])]) := by
  refine Met.of (a0 := a0) (ls := #[.val (.ref (n0 + 4)), .val (.ref (n0 + 1))]) (kok hw) (plainFor_of_name pn_8) (fun m => by first | (simp [entryFrame, mkF, argsToLocals, Value.category]; done) | rfl) (fun G H => ?_)
  refine H.aloadN s7_0 rfl rfl ?_
  refine H.aloadN s7_1 rfl rfl ?_
  refine H.getfield s7_2 (k_16 hw) (i := 4) rfl rfl ?_
  refine H.putfield s7_5 (k_17 hw) (i := 1) rfl rfl rfl (A' := [.inl (0, [.null, .null, .null, .null]), .inl (0, [.null, .null, .null, (.ref (n0 + 0))]), .inl (0, [.null, .null, .null, .null]), .inl (0, [.null, .null, .null, .null]), .inl (1, [(.int (1 : Int32)), (.ref (n0 + 0)), (.ref (n0 + 0))])]) rfl ?_
  refine H.aloadN s7_8 rfl rfl ?_
  refine H.getfield s7_9 (k_16 hw) (i := 4) rfl rfl ?_
  refine H.ifnonnullT s7_12 ?_
  refine H.aloadN s7_23 rfl rfl ?_
  refine H.getfield s7_24 (k_16 hw) (i := 4) rfl rfl ?_
  refine H.aloadN s7_27 rfl rfl ?_
  refine H.putfield s7_28 (k_29 hw) (i := 0) rfl rfl rfl (A' := [.inl (0, [.null, .null, (.ref (n0 + 1)), .null]), .inl (0, [.null, .null, .null, (.ref (n0 + 0))]), .inl (0, [.null, .null, .null, .null]), .inl (0, [.null, .null, .null, .null]), .inl (1, [(.int (1 : Int32)), (.ref (n0 + 0)), (.ref (n0 + 0))])]) rfl ?_
  refine H.aloadN s7_31 rfl rfl ?_
  refine H.aloadN s7_32 rfl rfl ?_
  refine H.putfield s7_33 (k_19 hw) (i := 4) rfl rfl rfl (A' := [.inl (0, [.null, .null, (.ref (n0 + 1)), .null]), .inl (0, [.null, .null, .null, (.ref (n0 + 0))]), .inl (0, [.null, .null, .null, .null]), .inl (0, [.null, .null, .null, .null]), .inl (1, [(.int (1 : Int32)), (.ref (n0 + 0)), (.ref (n0 + 1))])]) rfl ?_
  refine H.aloadN s7_36 rfl rfl ?_
  refine H.dup s7_37 rfl ?_
  refine H.getfield s7_38 (k_10 hw) (i := 4) rfl rfl ?_
  refine H.iconst s7_41 (v := (1 : Int32)) (by decide) ?_
  refine H.iadd s7_42 (w := (2 : Int32)) (by decide) ?_
  refine H.putfield s7_43 (k_20 hw) (i := 4) rfl rfl rfl (A' := [.inl (0, [.null, .null, (.ref (n0 + 1)), .null]), .inl (0, [.null, .null, .null, (.ref (n0 + 0))]), .inl (0, [.null, .null, .null, .null]), .inl (0, [.null, .null, .null, .null]), .inl (1, [(.int (2 : Int32)), (.ref (n0 + 0)), (.ref (n0 + 1))])]) rfl ?_
  exact H.vreturn s7_46 rfl ⟨rfl, rfl⟩ (by decide) (by decide)


set_option maxRecDepth 65536 in
set_option maxHeartbeats 40000000 in
theorem a_23 (l : Launch) {Z : State} {a0 : Array Value} (hw : HW1 Z a0) (n0 : Nat)  : Met l Z KT n0 y4 prog_50_method_2_code 1 (some .int) ({ frames := 0, cells := 0, slots := 0, locals := 0 } : Room) #[(.ref (n0 + 4))] [.inl (0, [.null, .null, (.ref (n0 + 1)), .null]), .inl (0, [.null, .null, .null, (.ref (n0 + 0))]), .inl (0, [.null, .null, .null, .null]), .inl (0, [.null, .null, .null, .null]), .inl (1, [(.int (2 : Int32)), (.ref (n0 + 0)), (.ref (n0 + 1))])] (Is (some (.int (2 : Int32))) [.inl (0, [.null, .null, (.ref (n0 + 1)), .null]), .inl (0, [.null, .null, .null, (.ref (n0 + 0))]), .inl (0, [.null, .null, .null, .null]), .inl (0, [.null, .null, .null, .null]), .inl (1, [(.int (2 : Int32)), (.ref (n0 + 0)), (.ref (n0 + 1))])]) := by
  refine Met.of (a0 := a0) (ls := #[.val (.ref (n0 + 4))]) (kok hw) (plainFor_of_name pn_8) (fun m => by first | (simp [entryFrame, mkF, argsToLocals, Value.category]; done) | rfl) (fun G H => ?_)
  refine H.aloadN s4_0 rfl rfl ?_
  refine H.getfield s4_1 (k_10 hw) (i := 4) rfl rfl ?_
  exact H.ireturn s4_4 rfl (by simp) rfl ⟨rfl, rfl⟩ (by decide) (by decide)


set_option maxRecDepth 65536 in
set_option maxHeartbeats 40000000 in
theorem a_24 (l : Launch) {Z : State} {a0 : Array Value} (hw : HW1 Z a0) (n0 : Nat)  : Met l Z KT n0 y5 prog_50_method_3_code 1 (some (.object "com/example/nano_acl/nanoacl/principal/Membership")) ({ frames := 0, cells := 0, slots := 0, locals := 0 } : Room) #[(.ref (n0 + 4))] [.inl (0, [.null, .null, (.ref (n0 + 1)), .null]), .inl (0, [.null, .null, .null, (.ref (n0 + 0))]), .inl (0, [.null, .null, .null, .null]), .inl (0, [.null, .null, .null, .null]), .inl (1, [(.int (2 : Int32)), (.ref (n0 + 0)), (.ref (n0 + 1))])] (Is (some (.ref (n0 + 0))) [.inl (0, [.null, .null, (.ref (n0 + 1)), .null]), .inl (0, [.null, .null, .null, (.ref (n0 + 0))]), .inl (0, [.null, .null, .null, .null]), .inl (0, [.null, .null, .null, .null]), .inl (1, [(.int (2 : Int32)), (.ref (n0 + 0)), (.ref (n0 + 1))])]) := by
  refine Met.of (a0 := a0) (ls := #[.val (.ref (n0 + 4))]) (kok hw) (plainFor_of_name pn_8) (fun m => by first | (simp [entryFrame, mkF, argsToLocals, Value.category]; done) | rfl) (fun G H => ?_)
  refine H.aloadN s5_0 rfl rfl ?_
  refine H.getfield s5_1 (k_12 hw) (i := 4) rfl rfl ?_
  exact H.areturn s5_4 rfl rfl rfl rfl ⟨rfl, rfl⟩ (by decide) (by decide)


set_option maxRecDepth 65536 in
set_option maxHeartbeats 40000000 in
theorem a_25 (l : Launch) {Z : State} {a0 : Array Value} (hw : HW1 Z a0) (n0 : Nat)  : Met l Z KT n0 y6 prog_49_method_4_code 1 (some (.object "com/example/nano_acl/nanoacl/principal/Membership")) ({ frames := 0, cells := 0, slots := 0, locals := 0 } : Room) #[(.ref (n0 + 0))] [.inl (0, [.null, .null, (.ref (n0 + 1)), .null]), .inl (0, [.null, .null, .null, (.ref (n0 + 0))]), .inl (0, [.null, .null, .null, .null]), .inl (0, [.null, .null, .null, .null]), .inl (1, [(.int (2 : Int32)), (.ref (n0 + 0)), (.ref (n0 + 1))])] (Is (some (.ref (n0 + 1))) [.inl (0, [.null, .null, (.ref (n0 + 1)), .null]), .inl (0, [.null, .null, .null, (.ref (n0 + 0))]), .inl (0, [.null, .null, .null, .null]), .inl (0, [.null, .null, .null, .null]), .inl (1, [(.int (2 : Int32)), (.ref (n0 + 0)), (.ref (n0 + 1))])]) := by
  refine Met.of (a0 := a0) (ls := #[.val (.ref (n0 + 0))]) (kok hw) (plainFor_of_name pn_4) (fun m => by first | (simp [entryFrame, mkF, argsToLocals, Value.category]; done) | rfl) (fun G H => ?_)
  refine H.aloadN s6_0 rfl rfl ?_
  refine H.getfield s6_1 (k_14 hw) (i := 0) rfl rfl ?_
  exact H.areturn s6_4 rfl rfl rfl rfl ⟨rfl, rfl⟩ (by decide) (by decide)

theorem s0_149 : Nx code 149 (.aload 4) 2 151 := ⟨at_149, rfl⟩
theorem s0_151 : Bx code 151 (.goto) 155 154 := ⟨(4), at_151, by decide, by decide, rfl⟩
set_option maxRecDepth 65536 in
set_option maxHeartbeats 40000000 in
theorem a_26 (l : Launch) {Z : State} {a0 : Array Value} (hw : HW1 Z a0) (n0 : Nat)  : Met l Z KT n0 y6 prog_49_method_4_code 1 (some (.object "com/example/nano_acl/nanoacl/principal/Membership")) ({ frames := 0, cells := 0, slots := 0, locals := 0 } : Room) #[(.ref (n0 + 1))] [.inl (0, [.null, .null, (.ref (n0 + 1)), .null]), .inl (0, [.null, .null, .null, (.ref (n0 + 0))]), .inl (0, [.null, .null, .null, .null]), .inl (0, [.null, .null, .null, .null]), .inl (1, [(.int (2 : Int32)), (.ref (n0 + 0)), (.ref (n0 + 1))])] (Is (some .null) [.inl (0, [.null, .null, (.ref (n0 + 1)), .null]), .inl (0, [.null, .null, .null, (.ref (n0 + 0))]), .inl (0, [.null, .null, .null, .null]), .inl (0, [.null, .null, .null, .null]), .inl (1, [(.int (2 : Int32)), (.ref (n0 + 0)), (.ref (n0 + 1))])]) := by
  refine Met.of (a0 := a0) (ls := #[.val (.ref (n0 + 1))]) (kok hw) (plainFor_of_name pn_4) (fun m => by first | (simp [entryFrame, mkF, argsToLocals, Value.category]; done) | rfl) (fun G H => ?_)
  refine H.aloadN s6_0 rfl rfl ?_
  refine H.getfield s6_1 (k_14 hw) (i := 1) rfl rfl ?_
  exact H.areturn s6_4 rfl rfl rfl rfl ⟨rfl, rfl⟩ (by decide) (by decide)


set_option maxRecDepth 65536 in
set_option maxHeartbeats 40000000 in
theorem a_27 (l : Launch) {Z : State} {a0 : Array Value} (hw : HW1 Z a0) (n0 : Nat)  : Met l Z KT n0 y6 prog_49_method_4_code 1 (some (.object "com/example/nano_acl/nanoacl/principal/Membership")) ({ frames := 0, cells := 0, slots := 0, locals := 0 } : Room) #[(.ref (n0 + 2))] [.inl (0, [.null, .null, (.ref (n0 + 1)), .null]), .inl (0, [.null, .null, .null, (.ref (n0 + 0))]), .inl (0, [.null, .null, .null, .null]), .inl (0, [.null, .null, .null, .null]), .inl (1, [(.int (2 : Int32)), (.ref (n0 + 0)), (.ref (n0 + 1))])] (Is (some .null) [.inl (0, [.null, .null, (.ref (n0 + 1)), .null]), .inl (0, [.null, .null, .null, (.ref (n0 + 0))]), .inl (0, [.null, .null, .null, .null]), .inl (0, [.null, .null, .null, .null]), .inl (1, [(.int (2 : Int32)), (.ref (n0 + 0)), (.ref (n0 + 1))])]) := by
  refine Met.of (a0 := a0) (ls := #[.val (.ref (n0 + 2))]) (kok hw) (plainFor_of_name pn_4) (fun m => by first | (simp [entryFrame, mkF, argsToLocals, Value.category]; done) | rfl) (fun G H => ?_)
  refine H.aloadN s6_0 rfl rfl ?_
  refine H.getfield s6_1 (k_14 hw) (i := 2) rfl rfl ?_
  exact H.areturn s6_4 rfl rfl rfl rfl ⟨rfl, rfl⟩ (by decide) (by decide)

theorem s0_263 : Nx code 263 (.iload 9) 2 265 := ⟨at_263, rfl⟩
theorem s0_265 : Bx code 265 (.ifCond .ne) 273 268 := ⟨(8), at_265, by decide, by decide, rfl⟩
theorem s0_268 : Nx code 268 (.aload 4) 2 270 := ⟨at_268, rfl⟩
theorem s0_270 : Bx code 270 (.goto) 279 273 := ⟨(9), at_270, by decide, by decide, rfl⟩
theorem s8_47 : Nx prog_50_method_5_code 47 (.aload_n 1) 1 48 := ⟨by decide +kernel, rfl⟩
theorem s8_48 : Nx prog_50_method_5_code 48 (.getfield 25) 3 51 := ⟨by decide +kernel, rfl⟩
theorem s8_51 : Nx prog_50_method_5_code 51 (.aload_n 1) 1 52 := ⟨by decide +kernel, rfl⟩
theorem s8_52 : Nx prog_50_method_5_code 52 (.getfield 20) 3 55 := ⟨by decide +kernel, rfl⟩
theorem k_30 {Z : State} {a0 : Array Value} (hw : HW1 Z a0) : PL Z a0 KT "com/example/nano_acl/nanoacl/principal/Membership$MemberList" "unlink" 20 0 3 (.object "com/example/nano_acl/nanoacl/principal/Membership") := ⟨_, _, "com/example/nano_acl/nanoacl/principal/Membership", "previous", "Lcom/example/nano_acl/nanoacl/principal/Membership;", "com/example/nano_acl/nanoacl/principal/Membership", rfl, rfl, (Or.inr (hw _ (List.mem_of_getElem? (i := 48) rfl))), (Or.inl (hw _ (List.mem_of_getElem? (i := 49) rfl))), by decide +kernel⟩
theorem s8_55 : Nx prog_50_method_5_code 55 (.putfield 20) 3 58 := ⟨by decide +kernel, rfl⟩
set_option maxRecDepth 65536 in
set_option maxHeartbeats 40000000 in
theorem a_28 (l : Launch) {Z : State} {a0 : Array Value} (hw : HW1 Z a0) (n0 : Nat)  : Met l Z KT n0 y8 prog_50_method_5_code 2 none ({ frames := 0, cells := 0, slots := 0, locals := 0 } : Room) #[(.ref (n0 + 4)), (.ref (n0 + 0))] [.inl (0, [.null, .null, (.ref (n0 + 1)), .null]), .inl (0, [.null, .null, .null, (.ref (n0 + 0))]), .inl (0, [.null, .null, .null, .null]), .inl (0, [.null, .null, .null, .null]), .inl (1, [(.int (2 : Int32)), (.ref (n0 + 0)), (.ref (n0 + 1))])] (Is none [.inl (0, [.null, .null, (.ref (n0 + 1)), .null]), .inl (0, [.null, .null, .null, .null]), .inl (0, [.null, .null, .null, .null]), .inl (0, [.null, .null, .null, .null]), .inl (1, [(.int (1 : Int32)), (.ref (n0 + 1)), (.ref (n0 + 1))])]) := by
  refine Met.of (a0 := a0) (ls := #[.val (.ref (n0 + 4)), .val (.ref (n0 + 0))]) (kok hw) (plainFor_of_name pn_8) (fun m => by first | (simp [entryFrame, mkF, argsToLocals, Value.category]; done) | rfl) (fun G H => ?_)
  refine H.aloadN s8_0 rfl rfl ?_
  refine H.getfield s8_1 (k_23 hw) (i := 0) rfl rfl ?_
  refine H.ifnonnullF s8_4 ?_
  refine H.aloadN s8_7 rfl rfl ?_
  refine H.aloadN s8_8 rfl rfl ?_
  refine H.getfield s8_9 (k_24 hw) (i := 0) rfl rfl ?_
  refine H.putfield s8_12 (k_25 hw) (i := 4) rfl rfl rfl (A' := [.inl (0, [.null, .null, (.ref (n0 + 1)), .null]), .inl (0, [.null, .null, .null, (.ref (n0 + 0))]), .inl (0, [.null, .null, .null, .null]), .inl (0, [.null, .null, .null, .null]), .inl (1, [(.int (2 : Int32)), (.ref (n0 + 1)), (.ref (n0 + 1))])]) rfl ?_
  refine H.goto s8_15 ?_
  refine H.aloadN s8_29 rfl rfl ?_
  refine H.getfield s8_30 (k_24 hw) (i := 0) rfl rfl ?_
  refine H.ifnonnullT s8_33 ?_
  refine H.aloadN s8_47 rfl rfl ?_
  refine H.getfield s8_48 (k_24 hw) (i := 0) rfl rfl ?_
  refine H.aloadN s8_51 rfl rfl ?_
  refine H.getfield s8_52 (k_23 hw) (i := 0) rfl rfl ?_
  refine H.putfield s8_55 (k_30 hw) (i := 1) rfl rfl rfl (A' := [.inl (0, [.null, .null, (.ref (n0 + 1)), .null]), .inl (0, [.null, .null, .null, .null]), .inl (0, [.null, .null, .null, .null]), .inl (0, [.null, .null, .null, .null]), .inl (1, [(.int (2 : Int32)), (.ref (n0 + 1)), (.ref (n0 + 1))])]) rfl ?_
  refine H.aloadN s8_58 rfl rfl ?_
  refine H.dup s8_59 rfl ?_
  refine H.getfield s8_60 (k_10 hw) (i := 4) rfl rfl ?_
  refine H.iconst s8_63 (v := (1 : Int32)) (by decide) ?_
  refine H.isub s8_64 (w := (1 : Int32)) (by decide) ?_
  refine H.putfield s8_65 (k_27 hw) (i := 4) rfl rfl rfl (A' := [.inl (0, [.null, .null, (.ref (n0 + 1)), .null]), .inl (0, [.null, .null, .null, .null]), .inl (0, [.null, .null, .null, .null]), .inl (0, [.null, .null, .null, .null]), .inl (1, [(.int (1 : Int32)), (.ref (n0 + 1)), (.ref (n0 + 1))])]) rfl ?_
  exact H.vreturn s8_68 rfl ⟨rfl, rfl⟩ (by decide) (by decide)


set_option maxRecDepth 65536 in
set_option maxHeartbeats 40000000 in
theorem a_29 (l : Launch) {Z : State} {a0 : Array Value} (hw : HW1 Z a0) (n0 : Nat)  : Met l Z KT n0 y7 prog_50_method_4_code 2 none ({ frames := 0, cells := 0, slots := 0, locals := 0 } : Room) #[(.ref (n0 + 4)), (.ref (n0 + 3))] [.inl (0, [.null, .null, (.ref (n0 + 1)), .null]), .inl (0, [.null, .null, .null, .null]), .inl (0, [.null, .null, .null, .null]), .inl (0, [.null, .null, .null, .null]), .inl (1, [(.int (1 : Int32)), (.ref (n0 + 1)), (.ref (n0 + 1))])] (Is none [.inl (0, [.null, .null, (.ref (n0 + 1)), .null]), .inl (0, [.null, .null, (.ref (n0 + 3)), .null]), .inl (0, [.null, .null, .null, .null]), .inl (0, [.null, .null, .null, (.ref (n0 + 1))]), .inl (1, [(.int (2 : Int32)), (.ref (n0 + 1)), (.ref (n0 + 3))])]) := by
  refine Met.of (a0 := a0) (ls := #[.val (.ref (n0 + 4)), .val (.ref (n0 + 3))]) (kok hw) (plainFor_of_name pn_8) (fun m => by first | (simp [entryFrame, mkF, argsToLocals, Value.category]; done) | rfl) (fun G H => ?_)
  refine H.aloadN s7_0 rfl rfl ?_
  refine H.aloadN s7_1 rfl rfl ?_
  refine H.getfield s7_2 (k_16 hw) (i := 4) rfl rfl ?_
  refine H.putfield s7_5 (k_17 hw) (i := 3) rfl rfl rfl (A' := [.inl (0, [.null, .null, (.ref (n0 + 1)), .null]), .inl (0, [.null, .null, .null, .null]), .inl (0, [.null, .null, .null, .null]), .inl (0, [.null, .null, .null, (.ref (n0 + 1))]), .inl (1, [(.int (1 : Int32)), (.ref (n0 + 1)), (.ref (n0 + 1))])]) rfl ?_
  refine H.aloadN s7_8 rfl rfl ?_
  refine H.getfield s7_9 (k_16 hw) (i := 4) rfl rfl ?_
  refine H.ifnonnullT s7_12 ?_
  refine H.aloadN s7_23 rfl rfl ?_
  refine H.getfield s7_24 (k_16 hw) (i := 4) rfl rfl ?_
  refine H.aloadN s7_27 rfl rfl ?_
  refine H.putfield s7_28 (k_29 hw) (i := 1) rfl rfl rfl (A' := [.inl (0, [.null, .null, (.ref (n0 + 1)), .null]), .inl (0, [.null, .null, (.ref (n0 + 3)), .null]), .inl (0, [.null, .null, .null, .null]), .inl (0, [.null, .null, .null, (.ref (n0 + 1))]), .inl (1, [(.int (1 : Int32)), (.ref (n0 + 1)), (.ref (n0 + 1))])]) rfl ?_
  refine H.aloadN s7_31 rfl rfl ?_
  refine H.aloadN s7_32 rfl rfl ?_
  refine H.putfield s7_33 (k_19 hw) (i := 4) rfl rfl rfl (A' := [.inl (0, [.null, .null, (.ref (n0 + 1)), .null]), .inl (0, [.null, .null, (.ref (n0 + 3)), .null]), .inl (0, [.null, .null, .null, .null]), .inl (0, [.null, .null, .null, (.ref (n0 + 1))]), .inl (1, [(.int (1 : Int32)), (.ref (n0 + 1)), (.ref (n0 + 3))])]) rfl ?_
  refine H.aloadN s7_36 rfl rfl ?_
  refine H.dup s7_37 rfl ?_
  refine H.getfield s7_38 (k_10 hw) (i := 4) rfl rfl ?_
  refine H.iconst s7_41 (v := (1 : Int32)) (by decide) ?_
  refine H.iadd s7_42 (w := (2 : Int32)) (by decide) ?_
  refine H.putfield s7_43 (k_20 hw) (i := 4) rfl rfl rfl (A' := [.inl (0, [.null, .null, (.ref (n0 + 1)), .null]), .inl (0, [.null, .null, (.ref (n0 + 3)), .null]), .inl (0, [.null, .null, .null, .null]), .inl (0, [.null, .null, .null, (.ref (n0 + 1))]), .inl (1, [(.int (2 : Int32)), (.ref (n0 + 1)), (.ref (n0 + 3))])]) rfl ?_
  exact H.vreturn s7_46 rfl ⟨rfl, rfl⟩ (by decide) (by decide)


set_option maxRecDepth 65536 in
set_option maxHeartbeats 40000000 in
theorem a_30 (l : Launch) {Z : State} {a0 : Array Value} (hw : HW1 Z a0) (n0 : Nat)  : Met l Z KT n0 y4 prog_50_method_2_code 1 (some .int) ({ frames := 0, cells := 0, slots := 0, locals := 0 } : Room) #[(.ref (n0 + 4))] [.inl (0, [.null, .null, (.ref (n0 + 1)), .null]), .inl (0, [.null, .null, (.ref (n0 + 3)), .null]), .inl (0, [.null, .null, .null, .null]), .inl (0, [.null, .null, .null, (.ref (n0 + 1))]), .inl (1, [(.int (2 : Int32)), (.ref (n0 + 1)), (.ref (n0 + 3))])] (Is (some (.int (2 : Int32))) [.inl (0, [.null, .null, (.ref (n0 + 1)), .null]), .inl (0, [.null, .null, (.ref (n0 + 3)), .null]), .inl (0, [.null, .null, .null, .null]), .inl (0, [.null, .null, .null, (.ref (n0 + 1))]), .inl (1, [(.int (2 : Int32)), (.ref (n0 + 1)), (.ref (n0 + 3))])]) := by
  refine Met.of (a0 := a0) (ls := #[.val (.ref (n0 + 4))]) (kok hw) (plainFor_of_name pn_8) (fun m => by first | (simp [entryFrame, mkF, argsToLocals, Value.category]; done) | rfl) (fun G H => ?_)
  refine H.aloadN s4_0 rfl rfl ?_
  refine H.getfield s4_1 (k_10 hw) (i := 4) rfl rfl ?_
  exact H.ireturn s4_4 rfl (by simp) rfl ⟨rfl, rfl⟩ (by decide) (by decide)


set_option maxRecDepth 65536 in
set_option maxHeartbeats 40000000 in
theorem a_31 (l : Launch) {Z : State} {a0 : Array Value} (hw : HW1 Z a0) (n0 : Nat)  : Met l Z KT n0 y5 prog_50_method_3_code 1 (some (.object "com/example/nano_acl/nanoacl/principal/Membership")) ({ frames := 0, cells := 0, slots := 0, locals := 0 } : Room) #[(.ref (n0 + 4))] [.inl (0, [.null, .null, (.ref (n0 + 1)), .null]), .inl (0, [.null, .null, (.ref (n0 + 3)), .null]), .inl (0, [.null, .null, .null, .null]), .inl (0, [.null, .null, .null, (.ref (n0 + 1))]), .inl (1, [(.int (2 : Int32)), (.ref (n0 + 1)), (.ref (n0 + 3))])] (Is (some (.ref (n0 + 1))) [.inl (0, [.null, .null, (.ref (n0 + 1)), .null]), .inl (0, [.null, .null, (.ref (n0 + 3)), .null]), .inl (0, [.null, .null, .null, .null]), .inl (0, [.null, .null, .null, (.ref (n0 + 1))]), .inl (1, [(.int (2 : Int32)), (.ref (n0 + 1)), (.ref (n0 + 3))])]) := by
  refine Met.of (a0 := a0) (ls := #[.val (.ref (n0 + 4))]) (kok hw) (plainFor_of_name pn_8) (fun m => by first | (simp [entryFrame, mkF, argsToLocals, Value.category]; done) | rfl) (fun G H => ?_)
  refine H.aloadN s5_0 rfl rfl ?_
  refine H.getfield s5_1 (k_12 hw) (i := 4) rfl rfl ?_
  exact H.areturn s5_4 rfl rfl rfl rfl ⟨rfl, rfl⟩ (by decide) (by decide)

theorem s0_364 : Nx code 364 (.aload 13) 2 366 := ⟨at_364, rfl⟩
theorem s0_366 : Bx code 366 (.goto) 371 369 := ⟨(5), at_366, by decide, by decide, rfl⟩
theorem s0_387 : Nx code 387 (.iload 8) 2 389 := ⟨at_387, rfl⟩
theorem s0_389 : Bx code 389 (.ifCond .eq) 417 392 := ⟨(28), at_389, by decide, by decide, rfl⟩
theorem s0_392 : Nx code 392 (.aload 13) 2 394 := ⟨at_392, rfl⟩
theorem s0_394 : Nx code 394 (.invokevirtual 27) 3 397 := ⟨at_394, rfl⟩
set_option maxRecDepth 65536 in
set_option maxHeartbeats 40000000 in
theorem a_32 (l : Launch) {Z : State} {a0 : Array Value} (hw : HW1 Z a0) (n0 : Nat)  : Met l Z KT n0 y6 prog_49_method_4_code 1 (some (.object "com/example/nano_acl/nanoacl/principal/Membership")) ({ frames := 0, cells := 0, slots := 0, locals := 0 } : Room) #[(.ref (n0 + 1))] [.inl (0, [.null, .null, (.ref (n0 + 1)), .null]), .inl (0, [.null, .null, (.ref (n0 + 3)), .null]), .inl (0, [.null, .null, .null, .null]), .inl (0, [.null, .null, .null, (.ref (n0 + 1))]), .inl (1, [(.int (2 : Int32)), (.ref (n0 + 1)), (.ref (n0 + 3))])] (Is (some (.ref (n0 + 3))) [.inl (0, [.null, .null, (.ref (n0 + 1)), .null]), .inl (0, [.null, .null, (.ref (n0 + 3)), .null]), .inl (0, [.null, .null, .null, .null]), .inl (0, [.null, .null, .null, (.ref (n0 + 1))]), .inl (1, [(.int (2 : Int32)), (.ref (n0 + 1)), (.ref (n0 + 3))])]) := by
  refine Met.of (a0 := a0) (ls := #[.val (.ref (n0 + 1))]) (kok hw) (plainFor_of_name pn_4) (fun m => by first | (simp [entryFrame, mkF, argsToLocals, Value.category]; done) | rfl) (fun G H => ?_)
  refine H.aloadN s6_0 rfl rfl ?_
  refine H.getfield s6_1 (k_14 hw) (i := 1) rfl rfl ?_
  exact H.areturn s6_4 rfl rfl rfl rfl ⟨rfl, rfl⟩ (by decide) (by decide)

theorem s0_397 : Nx code 397 (.iload 12) 2 399 := ⟨at_397, rfl⟩
theorem s0_399 : Nx code 399 (.iconst 1) 1 400 := ⟨at_399, rfl⟩
theorem s0_400 : Bx code 400 (.if_icmp .le) 408 403 := ⟨(8), at_400, by decide, by decide, rfl⟩
theorem s0_408 : Nx code 408 (.aload 6) 2 410 := ⟨at_408, rfl⟩
theorem s0_410 : Bx code 410 (.if_acmp .ne) 417 413 := ⟨(7), at_410, by decide, by decide, rfl⟩
theorem s0_413 : Nx code 413 (.iconst 1) 1 414 := ⟨at_413, rfl⟩
theorem s0_414 : Bx code 414 (.goto) 418 417 := ⟨(4), at_414, by decide, by decide, rfl⟩
theorem s0_418 : Nx code 418 (.istore 8) 2 420 := ⟨at_418, rfl⟩
set_option maxRecDepth 65536 in
set_option maxHeartbeats 40000000 in
theorem a_33 (l : Launch) {Z : State} {a0 : Array Value} (hw : HW1 Z a0) (n0 : Nat)  : Met l Z KT n0 y6 prog_49_method_4_code 1 (some (.object "com/example/nano_acl/nanoacl/principal/Membership")) ({ frames := 0, cells := 0, slots := 0, locals := 0 } : Room) #[(.ref (n0 + 3))] [.inl (0, [.null, .null, (.ref (n0 + 1)), .null]), .inl (0, [.null, .null, (.ref (n0 + 3)), .null]), .inl (0, [.null, .null, .null, .null]), .inl (0, [.null, .null, .null, (.ref (n0 + 1))]), .inl (1, [(.int (2 : Int32)), (.ref (n0 + 1)), (.ref (n0 + 3))])] (Is (some .null) [.inl (0, [.null, .null, (.ref (n0 + 1)), .null]), .inl (0, [.null, .null, (.ref (n0 + 3)), .null]), .inl (0, [.null, .null, .null, .null]), .inl (0, [.null, .null, .null, (.ref (n0 + 1))]), .inl (1, [(.int (2 : Int32)), (.ref (n0 + 1)), (.ref (n0 + 3))])]) := by
  refine Met.of (a0 := a0) (ls := #[.val (.ref (n0 + 3))]) (kok hw) (plainFor_of_name pn_4) (fun m => by first | (simp [entryFrame, mkF, argsToLocals, Value.category]; done) | rfl) (fun G H => ?_)
  refine H.aloadN s6_0 rfl rfl ?_
  refine H.getfield s6_1 (k_14 hw) (i := 3) rfl rfl ?_
  exact H.areturn s6_4 rfl rfl rfl rfl ⟨rfl, rfl⟩ (by decide) (by decide)


set_option maxRecDepth 65536 in
set_option maxHeartbeats 40000000 in
theorem a_34 (l : Launch) {Z : State} {a0 : Array Value} (hw : HW1 Z a0) (n0 : Nat)  : Met l Z KT n0 y6 prog_49_method_4_code 1 (some (.object "com/example/nano_acl/nanoacl/principal/Membership")) ({ frames := 0, cells := 0, slots := 0, locals := 0 } : Room) #[(.ref (n0 + 0))] [.inl (0, [.null, .null, (.ref (n0 + 1)), .null]), .inl (0, [.null, .null, (.ref (n0 + 3)), .null]), .inl (0, [.null, .null, .null, .null]), .inl (0, [.null, .null, .null, (.ref (n0 + 1))]), .inl (1, [(.int (2 : Int32)), (.ref (n0 + 1)), (.ref (n0 + 3))])] (Is (some (.ref (n0 + 1))) [.inl (0, [.null, .null, (.ref (n0 + 1)), .null]), .inl (0, [.null, .null, (.ref (n0 + 3)), .null]), .inl (0, [.null, .null, .null, .null]), .inl (0, [.null, .null, .null, (.ref (n0 + 1))]), .inl (1, [(.int (2 : Int32)), (.ref (n0 + 1)), (.ref (n0 + 3))])]) := by
  refine Met.of (a0 := a0) (ls := #[.val (.ref (n0 + 0))]) (kok hw) (plainFor_of_name pn_4) (fun m => by first | (simp [entryFrame, mkF, argsToLocals, Value.category]; done) | rfl) (fun G H => ?_)
  refine H.aloadN s6_0 rfl rfl ?_
  refine H.getfield s6_1 (k_14 hw) (i := 0) rfl rfl ?_
  exact H.areturn s6_4 rfl rfl rfl rfl ⟨rfl, rfl⟩ (by decide) (by decide)

theorem s0_240 : Nx code 240 (.iload 9) 2 242 := ⟨at_240, rfl⟩
theorem s0_242 : Nx code 242 (.iconst 1) 1 243 := ⟨at_242, rfl⟩
theorem s0_243 : Bx code 243 (.if_icmp .ne) 251 246 := ⟨(8), at_243, by decide, by decide, rfl⟩
theorem s0_246 : Nx code 246 (.aload 4) 2 248 := ⟨at_246, rfl⟩
theorem s0_248 : Bx code 248 (.goto) 253 251 := ⟨(5), at_248, by decide, by decide, rfl⟩
theorem s8_18 : Nx prog_50_method_5_code 18 (.aload_n 1) 1 19 := ⟨by decide +kernel, rfl⟩
theorem s8_19 : Nx prog_50_method_5_code 19 (.getfield 20) 3 22 := ⟨by decide +kernel, rfl⟩
theorem s8_22 : Nx prog_50_method_5_code 22 (.aload_n 1) 1 23 := ⟨by decide +kernel, rfl⟩
theorem s8_23 : Nx prog_50_method_5_code 23 (.getfield 25) 3 26 := ⟨by decide +kernel, rfl⟩
theorem k_31 {Z : State} {a0 : Array Value} (hw : HW1 Z a0) : PL Z a0 KT "com/example/nano_acl/nanoacl/principal/Membership$MemberList" "unlink" 25 0 2 (.object "com/example/nano_acl/nanoacl/principal/Membership") := ⟨_, _, "com/example/nano_acl/nanoacl/principal/Membership", "next", "Lcom/example/nano_acl/nanoacl/principal/Membership;", "com/example/nano_acl/nanoacl/principal/Membership", rfl, rfl, (Or.inr (hw _ (List.mem_of_getElem? (i := 50) rfl))), (Or.inl (hw _ (List.mem_of_getElem? (i := 40) rfl))), by decide +kernel⟩
theorem s8_26 : Nx prog_50_method_5_code 26 (.putfield 25) 3 29 := ⟨by decide +kernel, rfl⟩
set_option maxRecDepth 65536 in
set_option maxHeartbeats 40000000 in
theorem a_35 (l : Launch) {Z : State} {a0 : Array Value} (hw : HW1 Z a0) (n0 : Nat)  : Met l Z KT n0 y8 prog_50_method_5_code 2 none ({ frames := 0, cells := 0, slots := 0, locals := 0 } : Room) #[(.ref (n0 + 4)), (.ref (n0 + 1))] [.inl (0, [.null, .null, (.ref (n0 + 1)), .null]), .inl (0, [.null, .null, .null, (.ref (n0 + 0))]), .inl (0, [.null, .null, .null, .null]), .inl (0, [.null, .null, .null, .null]), .inl (1, [(.int (2 : Int32)), (.ref (n0 + 0)), (.ref (n0 + 1))])] (Is none [.inl (0, [.null, .null, .null, .null]), .inl (0, [.null, .null, .null, (.ref (n0 + 0))]), .inl (0, [.null, .null, .null, .null]), .inl (0, [.null, .null, .null, .null]), .inl (1, [(.int (1 : Int32)), (.ref (n0 + 0)), (.ref (n0 + 0))])]) := by
  refine Met.of (a0 := a0) (ls := #[.val (.ref (n0 + 4)), .val (.ref (n0 + 1))]) (kok hw) (plainFor_of_name pn_8) (fun m => by first | (simp [entryFrame, mkF, argsToLocals, Value.category]; done) | rfl) (fun G H => ?_)
  refine H.aloadN s8_0 rfl rfl ?_
  refine H.getfield s8_1 (k_23 hw) (i := 1) rfl rfl ?_
  refine H.ifnonnullT s8_4 ?_
  refine H.aloadN s8_18 rfl rfl ?_
  refine H.getfield s8_19 (k_23 hw) (i := 1) rfl rfl ?_
  refine H.aloadN s8_22 rfl rfl ?_
  refine H.getfield s8_23 (k_24 hw) (i := 1) rfl rfl ?_
  refine H.putfield s8_26 (k_31 hw) (i := 0) rfl rfl rfl (A' := [.inl (0, [.null, .null, .null, .null]), .inl (0, [.null, .null, .null, (.ref (n0 + 0))]), .inl (0, [.null, .null, .null, .null]), .inl (0, [.null, .null, .null, .null]), .inl (1, [(.int (2 : Int32)), (.ref (n0 + 0)), (.ref (n0 + 1))])]) rfl ?_
  refine H.aloadN s8_29 rfl rfl ?_
  refine H.getfield s8_30 (k_24 hw) (i := 1) rfl rfl ?_
  refine H.ifnonnullF s8_33 ?_
  refine H.aloadN s8_36 rfl rfl ?_
  refine H.aloadN s8_37 rfl rfl ?_
  refine H.getfield s8_38 (k_23 hw) (i := 1) rfl rfl ?_
  refine H.putfield s8_41 (k_26 hw) (i := 4) rfl rfl rfl (A' := [.inl (0, [.null, .null, .null, .null]), .inl (0, [.null, .null, .null, (.ref (n0 + 0))]), .inl (0, [.null, .null, .null, .null]), .inl (0, [.null, .null, .null, .null]), .inl (1, [(.int (2 : Int32)), (.ref (n0 + 0)), (.ref (n0 + 0))])]) rfl ?_
  refine H.goto s8_44 ?_
  refine H.aloadN s8_58 rfl rfl ?_
  refine H.dup s8_59 rfl ?_
  refine H.getfield s8_60 (k_10 hw) (i := 4) rfl rfl ?_
  refine H.iconst s8_63 (v := (1 : Int32)) (by decide) ?_
  refine H.isub s8_64 (w := (1 : Int32)) (by decide) ?_
  refine H.putfield s8_65 (k_27 hw) (i := 4) rfl rfl rfl (A' := [.inl (0, [.null, .null, .null, .null]), .inl (0, [.null, .null, .null, (.ref (n0 + 0))]), .inl (0, [.null, .null, .null, .null]), .inl (0, [.null, .null, .null, .null]), .inl (1, [(.int (1 : Int32)), (.ref (n0 + 0)), (.ref (n0 + 0))])]) rfl ?_
  exact H.vreturn s8_68 rfl ⟨rfl, rfl⟩ (by decide) (by decide)


set_option maxRecDepth 65536 in
set_option maxHeartbeats 40000000 in
theorem a_36 (l : Launch) {Z : State} {a0 : Array Value} (hw : HW1 Z a0) (n0 : Nat)  : Met l Z KT n0 y7 prog_50_method_4_code 2 none ({ frames := 0, cells := 0, slots := 0, locals := 0 } : Room) #[(.ref (n0 + 4)), (.ref (n0 + 3))] [.inl (0, [.null, .null, .null, .null]), .inl (0, [.null, .null, .null, (.ref (n0 + 0))]), .inl (0, [.null, .null, .null, .null]), .inl (0, [.null, .null, .null, .null]), .inl (1, [(.int (1 : Int32)), (.ref (n0 + 0)), (.ref (n0 + 0))])] (Is none [.inl (0, [.null, .null, (.ref (n0 + 3)), .null]), .inl (0, [.null, .null, .null, (.ref (n0 + 0))]), .inl (0, [.null, .null, .null, .null]), .inl (0, [.null, .null, .null, (.ref (n0 + 0))]), .inl (1, [(.int (2 : Int32)), (.ref (n0 + 0)), (.ref (n0 + 3))])]) := by
  refine Met.of (a0 := a0) (ls := #[.val (.ref (n0 + 4)), .val (.ref (n0 + 3))]) (kok hw) (plainFor_of_name pn_8) (fun m => by first | (simp [entryFrame, mkF, argsToLocals, Value.category]; done) | rfl) (fun G H => ?_)
  refine H.aloadN s7_0 rfl rfl ?_
  refine H.aloadN s7_1 rfl rfl ?_
  refine H.getfield s7_2 (k_16 hw) (i := 4) rfl rfl ?_
  refine H.putfield s7_5 (k_17 hw) (i := 3) rfl rfl rfl (A' := [.inl (0, [.null, .null, .null, .null]), .inl (0, [.null, .null, .null, (.ref (n0 + 0))]), .inl (0, [.null, .null, .null, .null]), .inl (0, [.null, .null, .null, (.ref (n0 + 0))]), .inl (1, [(.int (1 : Int32)), (.ref (n0 + 0)), (.ref (n0 + 0))])]) rfl ?_
  refine H.aloadN s7_8 rfl rfl ?_
  refine H.getfield s7_9 (k_16 hw) (i := 4) rfl rfl ?_
  refine H.ifnonnullT s7_12 ?_
  refine H.aloadN s7_23 rfl rfl ?_
  refine H.getfield s7_24 (k_16 hw) (i := 4) rfl rfl ?_
  refine H.aloadN s7_27 rfl rfl ?_
  refine H.putfield s7_28 (k_29 hw) (i := 0) rfl rfl rfl (A' := [.inl (0, [.null, .null, (.ref (n0 + 3)), .null]), .inl (0, [.null, .null, .null, (.ref (n0 + 0))]), .inl (0, [.null, .null, .null, .null]), .inl (0, [.null, .null, .null, (.ref (n0 + 0))]), .inl (1, [(.int (1 : Int32)), (.ref (n0 + 0)), (.ref (n0 + 0))])]) rfl ?_
  refine H.aloadN s7_31 rfl rfl ?_
  refine H.aloadN s7_32 rfl rfl ?_
  refine H.putfield s7_33 (k_19 hw) (i := 4) rfl rfl rfl (A' := [.inl (0, [.null, .null, (.ref (n0 + 3)), .null]), .inl (0, [.null, .null, .null, (.ref (n0 + 0))]), .inl (0, [.null, .null, .null, .null]), .inl (0, [.null, .null, .null, (.ref (n0 + 0))]), .inl (1, [(.int (1 : Int32)), (.ref (n0 + 0)), (.ref (n0 + 3))])]) rfl ?_
  refine H.aloadN s7_36 rfl rfl ?_
  refine H.dup s7_37 rfl ?_
  refine H.getfield s7_38 (k_10 hw) (i := 4) rfl rfl ?_
  refine H.iconst s7_41 (v := (1 : Int32)) (by decide) ?_
  refine H.iadd s7_42 (w := (2 : Int32)) (by decide) ?_
  refine H.putfield s7_43 (k_20 hw) (i := 4) rfl rfl rfl (A' := [.inl (0, [.null, .null, (.ref (n0 + 3)), .null]), .inl (0, [.null, .null, .null, (.ref (n0 + 0))]), .inl (0, [.null, .null, .null, .null]), .inl (0, [.null, .null, .null, (.ref (n0 + 0))]), .inl (1, [(.int (2 : Int32)), (.ref (n0 + 0)), (.ref (n0 + 3))])]) rfl ?_
  exact H.vreturn s7_46 rfl ⟨rfl, rfl⟩ (by decide) (by decide)

theorem s0_310 : Nx code 310 (.aload_n 3) 1 311 := ⟨at_310, rfl⟩
set_option maxRecDepth 65536 in
set_option maxHeartbeats 40000000 in
theorem a_37 (l : Launch) {Z : State} {a0 : Array Value} (hw : HW1 Z a0) (n0 : Nat)  : Met l Z KT n0 y4 prog_50_method_2_code 1 (some .int) ({ frames := 0, cells := 0, slots := 0, locals := 0 } : Room) #[(.ref (n0 + 4))] [.inl (0, [.null, .null, (.ref (n0 + 3)), .null]), .inl (0, [.null, .null, .null, (.ref (n0 + 0))]), .inl (0, [.null, .null, .null, .null]), .inl (0, [.null, .null, .null, (.ref (n0 + 0))]), .inl (1, [(.int (2 : Int32)), (.ref (n0 + 0)), (.ref (n0 + 3))])] (Is (some (.int (2 : Int32))) [.inl (0, [.null, .null, (.ref (n0 + 3)), .null]), .inl (0, [.null, .null, .null, (.ref (n0 + 0))]), .inl (0, [.null, .null, .null, .null]), .inl (0, [.null, .null, .null, (.ref (n0 + 0))]), .inl (1, [(.int (2 : Int32)), (.ref (n0 + 0)), (.ref (n0 + 3))])]) := by
  refine Met.of (a0 := a0) (ls := #[.val (.ref (n0 + 4))]) (kok hw) (plainFor_of_name pn_8) (fun m => by first | (simp [entryFrame, mkF, argsToLocals, Value.category]; done) | rfl) (fun G H => ?_)
  refine H.aloadN s4_0 rfl rfl ?_
  refine H.getfield s4_1 (k_10 hw) (i := 4) rfl rfl ?_
  exact H.ireturn s4_4 rfl (by simp) rfl ⟨rfl, rfl⟩ (by decide) (by decide)


set_option maxRecDepth 65536 in
set_option maxHeartbeats 40000000 in
theorem a_38 (l : Launch) {Z : State} {a0 : Array Value} (hw : HW1 Z a0) (n0 : Nat)  : Met l Z KT n0 y5 prog_50_method_3_code 1 (some (.object "com/example/nano_acl/nanoacl/principal/Membership")) ({ frames := 0, cells := 0, slots := 0, locals := 0 } : Room) #[(.ref (n0 + 4))] [.inl (0, [.null, .null, (.ref (n0 + 3)), .null]), .inl (0, [.null, .null, .null, (.ref (n0 + 0))]), .inl (0, [.null, .null, .null, .null]), .inl (0, [.null, .null, .null, (.ref (n0 + 0))]), .inl (1, [(.int (2 : Int32)), (.ref (n0 + 0)), (.ref (n0 + 3))])] (Is (some (.ref (n0 + 0))) [.inl (0, [.null, .null, (.ref (n0 + 3)), .null]), .inl (0, [.null, .null, .null, (.ref (n0 + 0))]), .inl (0, [.null, .null, .null, .null]), .inl (0, [.null, .null, .null, (.ref (n0 + 0))]), .inl (1, [(.int (2 : Int32)), (.ref (n0 + 0)), (.ref (n0 + 3))])]) := by
  refine Met.of (a0 := a0) (ls := #[.val (.ref (n0 + 4))]) (kok hw) (plainFor_of_name pn_8) (fun m => by first | (simp [entryFrame, mkF, argsToLocals, Value.category]; done) | rfl) (fun G H => ?_)
  refine H.aloadN s5_0 rfl rfl ?_
  refine H.getfield s5_1 (k_12 hw) (i := 4) rfl rfl ?_
  exact H.areturn s5_4 rfl rfl rfl rfl ⟨rfl, rfl⟩ (by decide) (by decide)


set_option maxRecDepth 65536 in
set_option maxHeartbeats 40000000 in
theorem a_39 (l : Launch) {Z : State} {a0 : Array Value} (hw : HW1 Z a0) (n0 : Nat)  : Met l Z KT n0 y6 prog_49_method_4_code 1 (some (.object "com/example/nano_acl/nanoacl/principal/Membership")) ({ frames := 0, cells := 0, slots := 0, locals := 0 } : Room) #[(.ref (n0 + 0))] [.inl (0, [.null, .null, (.ref (n0 + 3)), .null]), .inl (0, [.null, .null, .null, (.ref (n0 + 0))]), .inl (0, [.null, .null, .null, .null]), .inl (0, [.null, .null, .null, (.ref (n0 + 0))]), .inl (1, [(.int (2 : Int32)), (.ref (n0 + 0)), (.ref (n0 + 3))])] (Is (some (.ref (n0 + 3))) [.inl (0, [.null, .null, (.ref (n0 + 3)), .null]), .inl (0, [.null, .null, .null, (.ref (n0 + 0))]), .inl (0, [.null, .null, .null, .null]), .inl (0, [.null, .null, .null, (.ref (n0 + 0))]), .inl (1, [(.int (2 : Int32)), (.ref (n0 + 0)), (.ref (n0 + 3))])]) := by
  refine Met.of (a0 := a0) (ls := #[.val (.ref (n0 + 0))]) (kok hw) (plainFor_of_name pn_4) (fun m => by first | (simp [entryFrame, mkF, argsToLocals, Value.category]; done) | rfl) (fun G H => ?_)
  refine H.aloadN s6_0 rfl rfl ?_
  refine H.getfield s6_1 (k_14 hw) (i := 0) rfl rfl ?_
  exact H.areturn s6_4 rfl rfl rfl rfl ⟨rfl, rfl⟩ (by decide) (by decide)


set_option maxRecDepth 65536 in
set_option maxHeartbeats 40000000 in
theorem a_40 (l : Launch) {Z : State} {a0 : Array Value} (hw : HW1 Z a0) (n0 : Nat)  : Met l Z KT n0 y6 prog_49_method_4_code 1 (some (.object "com/example/nano_acl/nanoacl/principal/Membership")) ({ frames := 0, cells := 0, slots := 0, locals := 0 } : Room) #[(.ref (n0 + 3))] [.inl (0, [.null, .null, (.ref (n0 + 3)), .null]), .inl (0, [.null, .null, .null, (.ref (n0 + 0))]), .inl (0, [.null, .null, .null, .null]), .inl (0, [.null, .null, .null, (.ref (n0 + 0))]), .inl (1, [(.int (2 : Int32)), (.ref (n0 + 0)), (.ref (n0 + 3))])] (Is (some .null) [.inl (0, [.null, .null, (.ref (n0 + 3)), .null]), .inl (0, [.null, .null, .null, (.ref (n0 + 0))]), .inl (0, [.null, .null, .null, .null]), .inl (0, [.null, .null, .null, (.ref (n0 + 0))]), .inl (1, [(.int (2 : Int32)), (.ref (n0 + 0)), (.ref (n0 + 3))])]) := by
  refine Met.of (a0 := a0) (ls := #[.val (.ref (n0 + 3))]) (kok hw) (plainFor_of_name pn_4) (fun m => by first | (simp [entryFrame, mkF, argsToLocals, Value.category]; done) | rfl) (fun G H => ?_)
  refine H.aloadN s6_0 rfl rfl ?_
  refine H.getfield s6_1 (k_14 hw) (i := 3) rfl rfl ?_
  exact H.areturn s6_4 rfl rfl rfl rfl ⟨rfl, rfl⟩ (by decide) (by decide)


set_option maxRecDepth 65536 in
set_option maxHeartbeats 40000000 in
theorem a_41 (l : Launch) {Z : State} {a0 : Array Value} (hw : HW1 Z a0) (n0 : Nat)  : Met l Z KT n0 y6 prog_49_method_4_code 1 (some (.object "com/example/nano_acl/nanoacl/principal/Membership")) ({ frames := 0, cells := 0, slots := 0, locals := 0 } : Room) #[(.ref (n0 + 1))] [.inl (0, [.null, .null, (.ref (n0 + 3)), .null]), .inl (0, [.null, .null, .null, (.ref (n0 + 0))]), .inl (0, [.null, .null, .null, .null]), .inl (0, [.null, .null, .null, (.ref (n0 + 0))]), .inl (1, [(.int (2 : Int32)), (.ref (n0 + 0)), (.ref (n0 + 3))])] (Is (some .null) [.inl (0, [.null, .null, (.ref (n0 + 3)), .null]), .inl (0, [.null, .null, .null, (.ref (n0 + 0))]), .inl (0, [.null, .null, .null, .null]), .inl (0, [.null, .null, .null, (.ref (n0 + 0))]), .inl (1, [(.int (2 : Int32)), (.ref (n0 + 0)), (.ref (n0 + 3))])]) := by
  refine Met.of (a0 := a0) (ls := #[.val (.ref (n0 + 1))]) (kok hw) (plainFor_of_name pn_4) (fun m => by first | (simp [entryFrame, mkF, argsToLocals, Value.category]; done) | rfl) (fun G H => ?_)
  refine H.aloadN s6_0 rfl rfl ?_
  refine H.getfield s6_1 (k_14 hw) (i := 1) rfl rfl ?_
  exact H.areturn s6_4 rfl rfl rfl rfl ⟨rfl, rfl⟩ (by decide) (by decide)

theorem s0_83 : Nx code 83 (.aload 7) 2 85 := ⟨at_83, rfl⟩
theorem s0_85 : Nx code 85 (.aload 5) 2 87 := ⟨at_85, rfl⟩
theorem s0_87 : Nx code 87 (.invokevirtual 15) 3 90 := ⟨at_87, rfl⟩
set_option maxRecDepth 65536 in
set_option maxHeartbeats 40000000 in
theorem a_42 (l : Launch) {Z : State} {a0 : Array Value} (hw : HW1 Z a0) (n0 : Nat)  : Met l Z KT n0 y7 prog_50_method_4_code 2 none ({ frames := 0, cells := 0, slots := 0, locals := 0 } : Room) #[(.ref (n0 + 4)), (.ref (n0 + 2))] [.inl (0, [.null, .null, (.ref (n0 + 1)), .null]), .inl (0, [.null, .null, .null, (.ref (n0 + 0))]), .inl (0, [.null, .null, .null, .null]), .inl (0, [.null, .null, .null, .null]), .inl (1, [(.int (2 : Int32)), (.ref (n0 + 0)), (.ref (n0 + 1))])] (Is none [.inl (0, [.null, .null, (.ref (n0 + 1)), .null]), .inl (0, [.null, .null, (.ref (n0 + 2)), (.ref (n0 + 0))]), .inl (0, [.null, .null, .null, (.ref (n0 + 1))]), .inl (0, [.null, .null, .null, .null]), .inl (1, [(.int (3 : Int32)), (.ref (n0 + 0)), (.ref (n0 + 2))])]) := by
  refine Met.of (a0 := a0) (ls := #[.val (.ref (n0 + 4)), .val (.ref (n0 + 2))]) (kok hw) (plainFor_of_name pn_8) (fun m => by first | (simp [entryFrame, mkF, argsToLocals, Value.category]; done) | rfl) (fun G H => ?_)
  refine H.aloadN s7_0 rfl rfl ?_
  refine H.aloadN s7_1 rfl rfl ?_
  refine H.getfield s7_2 (k_16 hw) (i := 4) rfl rfl ?_
  refine H.putfield s7_5 (k_17 hw) (i := 2) rfl rfl rfl (A' := [.inl (0, [.null, .null, (.ref (n0 + 1)), .null]), .inl (0, [.null, .null, .null, (.ref (n0 + 0))]), .inl (0, [.null, .null, .null, (.ref (n0 + 1))]), .inl (0, [.null, .null, .null, .null]), .inl (1, [(.int (2 : Int32)), (.ref (n0 + 0)), (.ref (n0 + 1))])]) rfl ?_
  refine H.aloadN s7_8 rfl rfl ?_
  refine H.getfield s7_9 (k_16 hw) (i := 4) rfl rfl ?_
  refine H.ifnonnullT s7_12 ?_
  refine H.aloadN s7_23 rfl rfl ?_
  refine H.getfield s7_24 (k_16 hw) (i := 4) rfl rfl ?_
  refine H.aloadN s7_27 rfl rfl ?_
  refine H.putfield s7_28 (k_29 hw) (i := 1) rfl rfl rfl (A' := [.inl (0, [.null, .null, (.ref (n0 + 1)), .null]), .inl (0, [.null, .null, (.ref (n0 + 2)), (.ref (n0 + 0))]), .inl (0, [.null, .null, .null, (.ref (n0 + 1))]), .inl (0, [.null, .null, .null, .null]), .inl (1, [(.int (2 : Int32)), (.ref (n0 + 0)), (.ref (n0 + 1))])]) rfl ?_
  refine H.aloadN s7_31 rfl rfl ?_
  refine H.aloadN s7_32 rfl rfl ?_
  refine H.putfield s7_33 (k_19 hw) (i := 4) rfl rfl rfl (A' := [.inl (0, [.null, .null, (.ref (n0 + 1)), .null]), .inl (0, [.null, .null, (.ref (n0 + 2)), (.ref (n0 + 0))]), .inl (0, [.null, .null, .null, (.ref (n0 + 1))]), .inl (0, [.null, .null, .null, .null]), .inl (1, [(.int (2 : Int32)), (.ref (n0 + 0)), (.ref (n0 + 2))])]) rfl ?_
  refine H.aloadN s7_36 rfl rfl ?_
  refine H.dup s7_37 rfl ?_
  refine H.getfield s7_38 (k_10 hw) (i := 4) rfl rfl ?_
  refine H.iconst s7_41 (v := (1 : Int32)) (by decide) ?_
  refine H.iadd s7_42 (w := (3 : Int32)) (by decide) ?_
  refine H.putfield s7_43 (k_20 hw) (i := 4) rfl rfl rfl (A' := [.inl (0, [.null, .null, (.ref (n0 + 1)), .null]), .inl (0, [.null, .null, (.ref (n0 + 2)), (.ref (n0 + 0))]), .inl (0, [.null, .null, .null, (.ref (n0 + 1))]), .inl (0, [.null, .null, .null, .null]), .inl (1, [(.int (3 : Int32)), (.ref (n0 + 0)), (.ref (n0 + 2))])]) rfl ?_
  exact H.vreturn s7_46 rfl ⟨rfl, rfl⟩ (by decide) (by decide)


set_option maxRecDepth 65536 in
set_option maxHeartbeats 40000000 in
theorem a_43 (l : Launch) {Z : State} {a0 : Array Value} (hw : HW1 Z a0) (n0 : Nat)  : Met l Z KT n0 y4 prog_50_method_2_code 1 (some .int) ({ frames := 0, cells := 0, slots := 0, locals := 0 } : Room) #[(.ref (n0 + 4))] [.inl (0, [.null, .null, (.ref (n0 + 1)), .null]), .inl (0, [.null, .null, (.ref (n0 + 2)), (.ref (n0 + 0))]), .inl (0, [.null, .null, .null, (.ref (n0 + 1))]), .inl (0, [.null, .null, .null, .null]), .inl (1, [(.int (3 : Int32)), (.ref (n0 + 0)), (.ref (n0 + 2))])] (Is (some (.int (3 : Int32))) [.inl (0, [.null, .null, (.ref (n0 + 1)), .null]), .inl (0, [.null, .null, (.ref (n0 + 2)), (.ref (n0 + 0))]), .inl (0, [.null, .null, .null, (.ref (n0 + 1))]), .inl (0, [.null, .null, .null, .null]), .inl (1, [(.int (3 : Int32)), (.ref (n0 + 0)), (.ref (n0 + 2))])]) := by
  refine Met.of (a0 := a0) (ls := #[.val (.ref (n0 + 4))]) (kok hw) (plainFor_of_name pn_8) (fun m => by first | (simp [entryFrame, mkF, argsToLocals, Value.category]; done) | rfl) (fun G H => ?_)
  refine H.aloadN s4_0 rfl rfl ?_
  refine H.getfield s4_1 (k_10 hw) (i := 4) rfl rfl ?_
  exact H.ireturn s4_4 rfl (by simp) rfl ⟨rfl, rfl⟩ (by decide) (by decide)


set_option maxRecDepth 65536 in
set_option maxHeartbeats 40000000 in
theorem a_44 (l : Launch) {Z : State} {a0 : Array Value} (hw : HW1 Z a0) (n0 : Nat)  : Met l Z KT n0 y5 prog_50_method_3_code 1 (some (.object "com/example/nano_acl/nanoacl/principal/Membership")) ({ frames := 0, cells := 0, slots := 0, locals := 0 } : Room) #[(.ref (n0 + 4))] [.inl (0, [.null, .null, (.ref (n0 + 1)), .null]), .inl (0, [.null, .null, (.ref (n0 + 2)), (.ref (n0 + 0))]), .inl (0, [.null, .null, .null, (.ref (n0 + 1))]), .inl (0, [.null, .null, .null, .null]), .inl (1, [(.int (3 : Int32)), (.ref (n0 + 0)), (.ref (n0 + 2))])] (Is (some (.ref (n0 + 0))) [.inl (0, [.null, .null, (.ref (n0 + 1)), .null]), .inl (0, [.null, .null, (.ref (n0 + 2)), (.ref (n0 + 0))]), .inl (0, [.null, .null, .null, (.ref (n0 + 1))]), .inl (0, [.null, .null, .null, .null]), .inl (1, [(.int (3 : Int32)), (.ref (n0 + 0)), (.ref (n0 + 2))])]) := by
  refine Met.of (a0 := a0) (ls := #[.val (.ref (n0 + 4))]) (kok hw) (plainFor_of_name pn_8) (fun m => by first | (simp [entryFrame, mkF, argsToLocals, Value.category]; done) | rfl) (fun G H => ?_)
  refine H.aloadN s5_0 rfl rfl ?_
  refine H.getfield s5_1 (k_12 hw) (i := 4) rfl rfl ?_
  exact H.areturn s5_4 rfl rfl rfl rfl ⟨rfl, rfl⟩ (by decide) (by decide)


set_option maxRecDepth 65536 in
set_option maxHeartbeats 40000000 in
theorem a_45 (l : Launch) {Z : State} {a0 : Array Value} (hw : HW1 Z a0) (n0 : Nat)  : Met l Z KT n0 y6 prog_49_method_4_code 1 (some (.object "com/example/nano_acl/nanoacl/principal/Membership")) ({ frames := 0, cells := 0, slots := 0, locals := 0 } : Room) #[(.ref (n0 + 0))] [.inl (0, [.null, .null, (.ref (n0 + 1)), .null]), .inl (0, [.null, .null, (.ref (n0 + 2)), (.ref (n0 + 0))]), .inl (0, [.null, .null, .null, (.ref (n0 + 1))]), .inl (0, [.null, .null, .null, .null]), .inl (1, [(.int (3 : Int32)), (.ref (n0 + 0)), (.ref (n0 + 2))])] (Is (some (.ref (n0 + 1))) [.inl (0, [.null, .null, (.ref (n0 + 1)), .null]), .inl (0, [.null, .null, (.ref (n0 + 2)), (.ref (n0 + 0))]), .inl (0, [.null, .null, .null, (.ref (n0 + 1))]), .inl (0, [.null, .null, .null, .null]), .inl (1, [(.int (3 : Int32)), (.ref (n0 + 0)), (.ref (n0 + 2))])]) := by
  refine Met.of (a0 := a0) (ls := #[.val (.ref (n0 + 0))]) (kok hw) (plainFor_of_name pn_4) (fun m => by first | (simp [entryFrame, mkF, argsToLocals, Value.category]; done) | rfl) (fun G H => ?_)
  refine H.aloadN s6_0 rfl rfl ?_
  refine H.getfield s6_1 (k_14 hw) (i := 0) rfl rfl ?_
  exact H.areturn s6_4 rfl rfl rfl rfl ⟨rfl, rfl⟩ (by decide) (by decide)


set_option maxRecDepth 65536 in
set_option maxHeartbeats 40000000 in
theorem a_46 (l : Launch) {Z : State} {a0 : Array Value} (hw : HW1 Z a0) (n0 : Nat)  : Met l Z KT n0 y6 prog_49_method_4_code 1 (some (.object "com/example/nano_acl/nanoacl/principal/Membership")) ({ frames := 0, cells := 0, slots := 0, locals := 0 } : Room) #[(.ref (n0 + 1))] [.inl (0, [.null, .null, (.ref (n0 + 1)), .null]), .inl (0, [.null, .null, (.ref (n0 + 2)), (.ref (n0 + 0))]), .inl (0, [.null, .null, .null, (.ref (n0 + 1))]), .inl (0, [.null, .null, .null, .null]), .inl (1, [(.int (3 : Int32)), (.ref (n0 + 0)), (.ref (n0 + 2))])] (Is (some (.ref (n0 + 2))) [.inl (0, [.null, .null, (.ref (n0 + 1)), .null]), .inl (0, [.null, .null, (.ref (n0 + 2)), (.ref (n0 + 0))]), .inl (0, [.null, .null, .null, (.ref (n0 + 1))]), .inl (0, [.null, .null, .null, .null]), .inl (1, [(.int (3 : Int32)), (.ref (n0 + 0)), (.ref (n0 + 2))])]) := by
  refine Met.of (a0 := a0) (ls := #[.val (.ref (n0 + 1))]) (kok hw) (plainFor_of_name pn_4) (fun m => by first | (simp [entryFrame, mkF, argsToLocals, Value.category]; done) | rfl) (fun G H => ?_)
  refine H.aloadN s6_0 rfl rfl ?_
  refine H.getfield s6_1 (k_14 hw) (i := 1) rfl rfl ?_
  exact H.areturn s6_4 rfl rfl rfl rfl ⟨rfl, rfl⟩ (by decide) (by decide)

theorem s0_180 : Nx code 180 (.aload 5) 2 182 := ⟨at_180, rfl⟩
theorem s0_182 : Bx code 182 (.goto) 186 185 := ⟨(4), at_182, by decide, by decide, rfl⟩
set_option maxRecDepth 65536 in
set_option maxHeartbeats 40000000 in
theorem a_47 (l : Launch) {Z : State} {a0 : Array Value} (hw : HW1 Z a0) (n0 : Nat)  : Met l Z KT n0 y6 prog_49_method_4_code 1 (some (.object "com/example/nano_acl/nanoacl/principal/Membership")) ({ frames := 0, cells := 0, slots := 0, locals := 0 } : Room) #[(.ref (n0 + 2))] [.inl (0, [.null, .null, (.ref (n0 + 1)), .null]), .inl (0, [.null, .null, (.ref (n0 + 2)), (.ref (n0 + 0))]), .inl (0, [.null, .null, .null, (.ref (n0 + 1))]), .inl (0, [.null, .null, .null, .null]), .inl (1, [(.int (3 : Int32)), (.ref (n0 + 0)), (.ref (n0 + 2))])] (Is (some .null) [.inl (0, [.null, .null, (.ref (n0 + 1)), .null]), .inl (0, [.null, .null, (.ref (n0 + 2)), (.ref (n0 + 0))]), .inl (0, [.null, .null, .null, (.ref (n0 + 1))]), .inl (0, [.null, .null, .null, .null]), .inl (1, [(.int (3 : Int32)), (.ref (n0 + 0)), (.ref (n0 + 2))])]) := by
  refine Met.of (a0 := a0) (ls := #[.val (.ref (n0 + 2))]) (kok hw) (plainFor_of_name pn_4) (fun m => by first | (simp [entryFrame, mkF, argsToLocals, Value.category]; done) | rfl) (fun G H => ?_)
  refine H.aloadN s6_0 rfl rfl ?_
  refine H.getfield s6_1 (k_14 hw) (i := 2) rfl rfl ?_
  exact H.areturn s6_4 rfl rfl rfl rfl ⟨rfl, rfl⟩ (by decide) (by decide)


set_option maxRecDepth 65536 in
set_option maxHeartbeats 40000000 in
theorem a_48 (l : Launch) {Z : State} {a0 : Array Value} (hw : HW1 Z a0) (n0 : Nat)  : Met l Z KT n0 y8 prog_50_method_5_code 2 none ({ frames := 0, cells := 0, slots := 0, locals := 0 } : Room) #[(.ref (n0 + 4)), (.ref (n0 + 0))] [.inl (0, [.null, .null, (.ref (n0 + 1)), .null]), .inl (0, [.null, .null, (.ref (n0 + 2)), (.ref (n0 + 0))]), .inl (0, [.null, .null, .null, (.ref (n0 + 1))]), .inl (0, [.null, .null, .null, .null]), .inl (1, [(.int (3 : Int32)), (.ref (n0 + 0)), (.ref (n0 + 2))])] (Is none [.inl (0, [.null, .null, (.ref (n0 + 1)), .null]), .inl (0, [.null, .null, (.ref (n0 + 2)), .null]), .inl (0, [.null, .null, .null, (.ref (n0 + 1))]), .inl (0, [.null, .null, .null, .null]), .inl (1, [(.int (2 : Int32)), (.ref (n0 + 1)), (.ref (n0 + 2))])]) := by
  refine Met.of (a0 := a0) (ls := #[.val (.ref (n0 + 4)), .val (.ref (n0 + 0))]) (kok hw) (plainFor_of_name pn_8) (fun m => by first | (simp [entryFrame, mkF, argsToLocals, Value.category]; done) | rfl) (fun G H => ?_)
  refine H.aloadN s8_0 rfl rfl ?_
  refine H.getfield s8_1 (k_23 hw) (i := 0) rfl rfl ?_
  refine H.ifnonnullF s8_4 ?_
  refine H.aloadN s8_7 rfl rfl ?_
  refine H.aloadN s8_8 rfl rfl ?_
  refine H.getfield s8_9 (k_24 hw) (i := 0) rfl rfl ?_
  refine H.putfield s8_12 (k_25 hw) (i := 4) rfl rfl rfl (A' := [.inl (0, [.null, .null, (.ref (n0 + 1)), .null]), .inl (0, [.null, .null, (.ref (n0 + 2)), (.ref (n0 + 0))]), .inl (0, [.null, .null, .null, (.ref (n0 + 1))]), .inl (0, [.null, .null, .null, .null]), .inl (1, [(.int (3 : Int32)), (.ref (n0 + 1)), (.ref (n0 + 2))])]) rfl ?_
  refine H.goto s8_15 ?_
  refine H.aloadN s8_29 rfl rfl ?_
  refine H.getfield s8_30 (k_24 hw) (i := 0) rfl rfl ?_
  refine H.ifnonnullT s8_33 ?_
  refine H.aloadN s8_47 rfl rfl ?_
  refine H.getfield s8_48 (k_24 hw) (i := 0) rfl rfl ?_
  refine H.aloadN s8_51 rfl rfl ?_
  refine H.getfield s8_52 (k_23 hw) (i := 0) rfl rfl ?_
  refine H.putfield s8_55 (k_30 hw) (i := 1) rfl rfl rfl (A' := [.inl (0, [.null, .null, (.ref (n0 + 1)), .null]), .inl (0, [.null, .null, (.ref (n0 + 2)), .null]), .inl (0, [.null, .null, .null, (.ref (n0 + 1))]), .inl (0, [.null, .null, .null, .null]), .inl (1, [(.int (3 : Int32)), (.ref (n0 + 1)), (.ref (n0 + 2))])]) rfl ?_
  refine H.aloadN s8_58 rfl rfl ?_
  refine H.dup s8_59 rfl ?_
  refine H.getfield s8_60 (k_10 hw) (i := 4) rfl rfl ?_
  refine H.iconst s8_63 (v := (1 : Int32)) (by decide) ?_
  refine H.isub s8_64 (w := (2 : Int32)) (by decide) ?_
  refine H.putfield s8_65 (k_27 hw) (i := 4) rfl rfl rfl (A' := [.inl (0, [.null, .null, (.ref (n0 + 1)), .null]), .inl (0, [.null, .null, (.ref (n0 + 2)), .null]), .inl (0, [.null, .null, .null, (.ref (n0 + 1))]), .inl (0, [.null, .null, .null, .null]), .inl (1, [(.int (2 : Int32)), (.ref (n0 + 1)), (.ref (n0 + 2))])]) rfl ?_
  exact H.vreturn s8_68 rfl ⟨rfl, rfl⟩ (by decide) (by decide)


set_option maxRecDepth 65536 in
set_option maxHeartbeats 40000000 in
theorem a_49 (l : Launch) {Z : State} {a0 : Array Value} (hw : HW1 Z a0) (n0 : Nat)  : Met l Z KT n0 y7 prog_50_method_4_code 2 none ({ frames := 0, cells := 0, slots := 0, locals := 0 } : Room) #[(.ref (n0 + 4)), (.ref (n0 + 3))] [.inl (0, [.null, .null, (.ref (n0 + 1)), .null]), .inl (0, [.null, .null, (.ref (n0 + 2)), .null]), .inl (0, [.null, .null, .null, (.ref (n0 + 1))]), .inl (0, [.null, .null, .null, .null]), .inl (1, [(.int (2 : Int32)), (.ref (n0 + 1)), (.ref (n0 + 2))])] (Is none [.inl (0, [.null, .null, (.ref (n0 + 1)), .null]), .inl (0, [.null, .null, (.ref (n0 + 2)), .null]), .inl (0, [.null, .null, (.ref (n0 + 3)), (.ref (n0 + 1))]), .inl (0, [.null, .null, .null, (.ref (n0 + 2))]), .inl (1, [(.int (3 : Int32)), (.ref (n0 + 1)), (.ref (n0 + 3))])]) := by
  refine Met.of (a0 := a0) (ls := #[.val (.ref (n0 + 4)), .val (.ref (n0 + 3))]) (kok hw) (plainFor_of_name pn_8) (fun m => by first | (simp [entryFrame, mkF, argsToLocals, Value.category]; done) | rfl) (fun G H => ?_)
  refine H.aloadN s7_0 rfl rfl ?_
  refine H.aloadN s7_1 rfl rfl ?_
  refine H.getfield s7_2 (k_16 hw) (i := 4) rfl rfl ?_
  refine H.putfield s7_5 (k_17 hw) (i := 3) rfl rfl rfl (A' := [.inl (0, [.null, .null, (.ref (n0 + 1)), .null]), .inl (0, [.null, .null, (.ref (n0 + 2)), .null]), .inl (0, [.null, .null, .null, (.ref (n0 + 1))]), .inl (0, [.null, .null, .null, (.ref (n0 + 2))]), .inl (1, [(.int (2 : Int32)), (.ref (n0 + 1)), (.ref (n0 + 2))])]) rfl ?_
  refine H.aloadN s7_8 rfl rfl ?_
  refine H.getfield s7_9 (k_16 hw) (i := 4) rfl rfl ?_
  refine H.ifnonnullT s7_12 ?_
  refine H.aloadN s7_23 rfl rfl ?_
  refine H.getfield s7_24 (k_16 hw) (i := 4) rfl rfl ?_
  refine H.aloadN s7_27 rfl rfl ?_
  refine H.putfield s7_28 (k_29 hw) (i := 2) rfl rfl rfl (A' := [.inl (0, [.null, .null, (.ref (n0 + 1)), .null]), .inl (0, [.null, .null, (.ref (n0 + 2)), .null]), .inl (0, [.null, .null, (.ref (n0 + 3)), (.ref (n0 + 1))]), .inl (0, [.null, .null, .null, (.ref (n0 + 2))]), .inl (1, [(.int (2 : Int32)), (.ref (n0 + 1)), (.ref (n0 + 2))])]) rfl ?_
  refine H.aloadN s7_31 rfl rfl ?_
  refine H.aloadN s7_32 rfl rfl ?_
  refine H.putfield s7_33 (k_19 hw) (i := 4) rfl rfl rfl (A' := [.inl (0, [.null, .null, (.ref (n0 + 1)), .null]), .inl (0, [.null, .null, (.ref (n0 + 2)), .null]), .inl (0, [.null, .null, (.ref (n0 + 3)), (.ref (n0 + 1))]), .inl (0, [.null, .null, .null, (.ref (n0 + 2))]), .inl (1, [(.int (2 : Int32)), (.ref (n0 + 1)), (.ref (n0 + 3))])]) rfl ?_
  refine H.aloadN s7_36 rfl rfl ?_
  refine H.dup s7_37 rfl ?_
  refine H.getfield s7_38 (k_10 hw) (i := 4) rfl rfl ?_
  refine H.iconst s7_41 (v := (1 : Int32)) (by decide) ?_
  refine H.iadd s7_42 (w := (3 : Int32)) (by decide) ?_
  refine H.putfield s7_43 (k_20 hw) (i := 4) rfl rfl rfl (A' := [.inl (0, [.null, .null, (.ref (n0 + 1)), .null]), .inl (0, [.null, .null, (.ref (n0 + 2)), .null]), .inl (0, [.null, .null, (.ref (n0 + 3)), (.ref (n0 + 1))]), .inl (0, [.null, .null, .null, (.ref (n0 + 2))]), .inl (1, [(.int (3 : Int32)), (.ref (n0 + 1)), (.ref (n0 + 3))])]) rfl ?_
  exact H.vreturn s7_46 rfl ⟨rfl, rfl⟩ (by decide) (by decide)


set_option maxRecDepth 65536 in
set_option maxHeartbeats 40000000 in
theorem a_50 (l : Launch) {Z : State} {a0 : Array Value} (hw : HW1 Z a0) (n0 : Nat)  : Met l Z KT n0 y4 prog_50_method_2_code 1 (some .int) ({ frames := 0, cells := 0, slots := 0, locals := 0 } : Room) #[(.ref (n0 + 4))] [.inl (0, [.null, .null, (.ref (n0 + 1)), .null]), .inl (0, [.null, .null, (.ref (n0 + 2)), .null]), .inl (0, [.null, .null, (.ref (n0 + 3)), (.ref (n0 + 1))]), .inl (0, [.null, .null, .null, (.ref (n0 + 2))]), .inl (1, [(.int (3 : Int32)), (.ref (n0 + 1)), (.ref (n0 + 3))])] (Is (some (.int (3 : Int32))) [.inl (0, [.null, .null, (.ref (n0 + 1)), .null]), .inl (0, [.null, .null, (.ref (n0 + 2)), .null]), .inl (0, [.null, .null, (.ref (n0 + 3)), (.ref (n0 + 1))]), .inl (0, [.null, .null, .null, (.ref (n0 + 2))]), .inl (1, [(.int (3 : Int32)), (.ref (n0 + 1)), (.ref (n0 + 3))])]) := by
  refine Met.of (a0 := a0) (ls := #[.val (.ref (n0 + 4))]) (kok hw) (plainFor_of_name pn_8) (fun m => by first | (simp [entryFrame, mkF, argsToLocals, Value.category]; done) | rfl) (fun G H => ?_)
  refine H.aloadN s4_0 rfl rfl ?_
  refine H.getfield s4_1 (k_10 hw) (i := 4) rfl rfl ?_
  exact H.ireturn s4_4 rfl (by simp) rfl ⟨rfl, rfl⟩ (by decide) (by decide)


set_option maxRecDepth 65536 in
set_option maxHeartbeats 40000000 in
theorem a_51 (l : Launch) {Z : State} {a0 : Array Value} (hw : HW1 Z a0) (n0 : Nat)  : Met l Z KT n0 y5 prog_50_method_3_code 1 (some (.object "com/example/nano_acl/nanoacl/principal/Membership")) ({ frames := 0, cells := 0, slots := 0, locals := 0 } : Room) #[(.ref (n0 + 4))] [.inl (0, [.null, .null, (.ref (n0 + 1)), .null]), .inl (0, [.null, .null, (.ref (n0 + 2)), .null]), .inl (0, [.null, .null, (.ref (n0 + 3)), (.ref (n0 + 1))]), .inl (0, [.null, .null, .null, (.ref (n0 + 2))]), .inl (1, [(.int (3 : Int32)), (.ref (n0 + 1)), (.ref (n0 + 3))])] (Is (some (.ref (n0 + 1))) [.inl (0, [.null, .null, (.ref (n0 + 1)), .null]), .inl (0, [.null, .null, (.ref (n0 + 2)), .null]), .inl (0, [.null, .null, (.ref (n0 + 3)), (.ref (n0 + 1))]), .inl (0, [.null, .null, .null, (.ref (n0 + 2))]), .inl (1, [(.int (3 : Int32)), (.ref (n0 + 1)), (.ref (n0 + 3))])]) := by
  refine Met.of (a0 := a0) (ls := #[.val (.ref (n0 + 4))]) (kok hw) (plainFor_of_name pn_8) (fun m => by first | (simp [entryFrame, mkF, argsToLocals, Value.category]; done) | rfl) (fun G H => ?_)
  refine H.aloadN s5_0 rfl rfl ?_
  refine H.getfield s5_1 (k_12 hw) (i := 4) rfl rfl ?_
  exact H.areturn s5_4 rfl rfl rfl rfl ⟨rfl, rfl⟩ (by decide) (by decide)


set_option maxRecDepth 65536 in
set_option maxHeartbeats 40000000 in
theorem a_52 (l : Launch) {Z : State} {a0 : Array Value} (hw : HW1 Z a0) (n0 : Nat)  : Met l Z KT n0 y6 prog_49_method_4_code 1 (some (.object "com/example/nano_acl/nanoacl/principal/Membership")) ({ frames := 0, cells := 0, slots := 0, locals := 0 } : Room) #[(.ref (n0 + 1))] [.inl (0, [.null, .null, (.ref (n0 + 1)), .null]), .inl (0, [.null, .null, (.ref (n0 + 2)), .null]), .inl (0, [.null, .null, (.ref (n0 + 3)), (.ref (n0 + 1))]), .inl (0, [.null, .null, .null, (.ref (n0 + 2))]), .inl (1, [(.int (3 : Int32)), (.ref (n0 + 1)), (.ref (n0 + 3))])] (Is (some (.ref (n0 + 2))) [.inl (0, [.null, .null, (.ref (n0 + 1)), .null]), .inl (0, [.null, .null, (.ref (n0 + 2)), .null]), .inl (0, [.null, .null, (.ref (n0 + 3)), (.ref (n0 + 1))]), .inl (0, [.null, .null, .null, (.ref (n0 + 2))]), .inl (1, [(.int (3 : Int32)), (.ref (n0 + 1)), (.ref (n0 + 3))])]) := by
  refine Met.of (a0 := a0) (ls := #[.val (.ref (n0 + 1))]) (kok hw) (plainFor_of_name pn_4) (fun m => by first | (simp [entryFrame, mkF, argsToLocals, Value.category]; done) | rfl) (fun G H => ?_)
  refine H.aloadN s6_0 rfl rfl ?_
  refine H.getfield s6_1 (k_14 hw) (i := 1) rfl rfl ?_
  exact H.areturn s6_4 rfl rfl rfl rfl ⟨rfl, rfl⟩ (by decide) (by decide)

theorem s0_403 : Nx code 403 (.aload 14) 2 405 := ⟨at_403, rfl⟩
theorem s0_405 : Bx code 405 (.goto) 410 408 := ⟨(5), at_405, by decide, by decide, rfl⟩
theorem s0_426 : Nx code 426 (.iload 8) 2 428 := ⟨at_426, rfl⟩
theorem s0_428 : Bx code 428 (.ifCond .eq) 445 431 := ⟨(17), at_428, by decide, by decide, rfl⟩
theorem s0_431 : Nx code 431 (.aload 14) 2 433 := ⟨at_431, rfl⟩
theorem s0_433 : Nx code 433 (.invokevirtual 27) 3 436 := ⟨at_433, rfl⟩
set_option maxRecDepth 65536 in
set_option maxHeartbeats 40000000 in
theorem a_53 (l : Launch) {Z : State} {a0 : Array Value} (hw : HW1 Z a0) (n0 : Nat)  : Met l Z KT n0 y6 prog_49_method_4_code 1 (some (.object "com/example/nano_acl/nanoacl/principal/Membership")) ({ frames := 0, cells := 0, slots := 0, locals := 0 } : Room) #[(.ref (n0 + 2))] [.inl (0, [.null, .null, (.ref (n0 + 1)), .null]), .inl (0, [.null, .null, (.ref (n0 + 2)), .null]), .inl (0, [.null, .null, (.ref (n0 + 3)), (.ref (n0 + 1))]), .inl (0, [.null, .null, .null, (.ref (n0 + 2))]), .inl (1, [(.int (3 : Int32)), (.ref (n0 + 1)), (.ref (n0 + 3))])] (Is (some (.ref (n0 + 3))) [.inl (0, [.null, .null, (.ref (n0 + 1)), .null]), .inl (0, [.null, .null, (.ref (n0 + 2)), .null]), .inl (0, [.null, .null, (.ref (n0 + 3)), (.ref (n0 + 1))]), .inl (0, [.null, .null, .null, (.ref (n0 + 2))]), .inl (1, [(.int (3 : Int32)), (.ref (n0 + 1)), (.ref (n0 + 3))])]) := by
  refine Met.of (a0 := a0) (ls := #[.val (.ref (n0 + 2))]) (kok hw) (plainFor_of_name pn_4) (fun m => by first | (simp [entryFrame, mkF, argsToLocals, Value.category]; done) | rfl) (fun G H => ?_)
  refine H.aloadN s6_0 rfl rfl ?_
  refine H.getfield s6_1 (k_14 hw) (i := 2) rfl rfl ?_
  exact H.areturn s6_4 rfl rfl rfl rfl ⟨rfl, rfl⟩ (by decide) (by decide)

theorem s0_436 : Nx code 436 (.aload 6) 2 438 := ⟨at_436, rfl⟩
theorem s0_438 : Bx code 438 (.if_acmp .ne) 445 441 := ⟨(7), at_438, by decide, by decide, rfl⟩
theorem s0_441 : Nx code 441 (.iconst 1) 1 442 := ⟨at_441, rfl⟩
theorem s0_442 : Bx code 442 (.goto) 446 445 := ⟨(4), at_442, by decide, by decide, rfl⟩
theorem s0_446 : Nx code 446 (.istore 8) 2 448 := ⟨at_446, rfl⟩
set_option maxRecDepth 65536 in
set_option maxHeartbeats 40000000 in
theorem a_54 (l : Launch) {Z : State} {a0 : Array Value} (hw : HW1 Z a0) (n0 : Nat)  : Met l Z KT n0 y6 prog_49_method_4_code 1 (some (.object "com/example/nano_acl/nanoacl/principal/Membership")) ({ frames := 0, cells := 0, slots := 0, locals := 0 } : Room) #[(.ref (n0 + 3))] [.inl (0, [.null, .null, (.ref (n0 + 1)), .null]), .inl (0, [.null, .null, (.ref (n0 + 2)), .null]), .inl (0, [.null, .null, (.ref (n0 + 3)), (.ref (n0 + 1))]), .inl (0, [.null, .null, .null, (.ref (n0 + 2))]), .inl (1, [(.int (3 : Int32)), (.ref (n0 + 1)), (.ref (n0 + 3))])] (Is (some .null) [.inl (0, [.null, .null, (.ref (n0 + 1)), .null]), .inl (0, [.null, .null, (.ref (n0 + 2)), .null]), .inl (0, [.null, .null, (.ref (n0 + 3)), (.ref (n0 + 1))]), .inl (0, [.null, .null, .null, (.ref (n0 + 2))]), .inl (1, [(.int (3 : Int32)), (.ref (n0 + 1)), (.ref (n0 + 3))])]) := by
  refine Met.of (a0 := a0) (ls := #[.val (.ref (n0 + 3))]) (kok hw) (plainFor_of_name pn_4) (fun m => by first | (simp [entryFrame, mkF, argsToLocals, Value.category]; done) | rfl) (fun G H => ?_)
  refine H.aloadN s6_0 rfl rfl ?_
  refine H.getfield s6_1 (k_14 hw) (i := 3) rfl rfl ?_
  exact H.areturn s6_4 rfl rfl rfl rfl ⟨rfl, rfl⟩ (by decide) (by decide)


set_option maxRecDepth 65536 in
set_option maxHeartbeats 40000000 in
theorem a_55 (l : Launch) {Z : State} {a0 : Array Value} (hw : HW1 Z a0) (n0 : Nat)  : Met l Z KT n0 y6 prog_49_method_4_code 1 (some (.object "com/example/nano_acl/nanoacl/principal/Membership")) ({ frames := 0, cells := 0, slots := 0, locals := 0 } : Room) #[(.ref (n0 + 0))] [.inl (0, [.null, .null, (.ref (n0 + 1)), .null]), .inl (0, [.null, .null, (.ref (n0 + 2)), .null]), .inl (0, [.null, .null, (.ref (n0 + 3)), (.ref (n0 + 1))]), .inl (0, [.null, .null, .null, (.ref (n0 + 2))]), .inl (1, [(.int (3 : Int32)), (.ref (n0 + 1)), (.ref (n0 + 3))])] (Is (some (.ref (n0 + 1))) [.inl (0, [.null, .null, (.ref (n0 + 1)), .null]), .inl (0, [.null, .null, (.ref (n0 + 2)), .null]), .inl (0, [.null, .null, (.ref (n0 + 3)), (.ref (n0 + 1))]), .inl (0, [.null, .null, .null, (.ref (n0 + 2))]), .inl (1, [(.int (3 : Int32)), (.ref (n0 + 1)), (.ref (n0 + 3))])]) := by
  refine Met.of (a0 := a0) (ls := #[.val (.ref (n0 + 0))]) (kok hw) (plainFor_of_name pn_4) (fun m => by first | (simp [entryFrame, mkF, argsToLocals, Value.category]; done) | rfl) (fun G H => ?_)
  refine H.aloadN s6_0 rfl rfl ?_
  refine H.getfield s6_1 (k_14 hw) (i := 0) rfl rfl ?_
  exact H.areturn s6_4 rfl rfl rfl rfl ⟨rfl, rfl⟩ (by decide) (by decide)

theorem s0_273 : Nx code 273 (.aload 5) 2 275 := ⟨at_273, rfl⟩
theorem s0_275 : Bx code 275 (.goto) 279 278 := ⟨(4), at_275, by decide, by decide, rfl⟩
set_option maxRecDepth 65536 in
set_option maxHeartbeats 40000000 in
theorem a_56 (l : Launch) {Z : State} {a0 : Array Value} (hw : HW1 Z a0) (n0 : Nat)  : Met l Z KT n0 y8 prog_50_method_5_code 2 none ({ frames := 0, cells := 0, slots := 0, locals := 0 } : Room) #[(.ref (n0 + 4)), (.ref (n0 + 1))] [.inl (0, [.null, .null, (.ref (n0 + 1)), .null]), .inl (0, [.null, .null, (.ref (n0 + 2)), (.ref (n0 + 0))]), .inl (0, [.null, .null, .null, (.ref (n0 + 1))]), .inl (0, [.null, .null, .null, .null]), .inl (1, [(.int (3 : Int32)), (.ref (n0 + 0)), (.ref (n0 + 2))])] (Is none [.inl (0, [.null, .null, (.ref (n0 + 2)), .null]), .inl (0, [.null, .null, (.ref (n0 + 2)), (.ref (n0 + 0))]), .inl (0, [.null, .null, .null, (.ref (n0 + 0))]), .inl (0, [.null, .null, .null, .null]), .inl (1, [(.int (2 : Int32)), (.ref (n0 + 0)), (.ref (n0 + 2))])]) := by
  refine Met.of (a0 := a0) (ls := #[.val (.ref (n0 + 4)), .val (.ref (n0 + 1))]) (kok hw) (plainFor_of_name pn_8) (fun m => by first | (simp [entryFrame, mkF, argsToLocals, Value.category]; done) | rfl) (fun G H => ?_)
  refine H.aloadN s8_0 rfl rfl ?_
  refine H.getfield s8_1 (k_23 hw) (i := 1) rfl rfl ?_
  refine H.ifnonnullT s8_4 ?_
  refine H.aloadN s8_18 rfl rfl ?_
  refine H.getfield s8_19 (k_23 hw) (i := 1) rfl rfl ?_
  refine H.aloadN s8_22 rfl rfl ?_
  refine H.getfield s8_23 (k_24 hw) (i := 1) rfl rfl ?_
  refine H.putfield s8_26 (k_31 hw) (i := 0) rfl rfl rfl (A' := [.inl (0, [.null, .null, (.ref (n0 + 2)), .null]), .inl (0, [.null, .null, (.ref (n0 + 2)), (.ref (n0 + 0))]), .inl (0, [.null, .null, .null, (.ref (n0 + 1))]), .inl (0, [.null, .null, .null, .null]), .inl (1, [(.int (3 : Int32)), (.ref (n0 + 0)), (.ref (n0 + 2))])]) rfl ?_
  refine H.aloadN s8_29 rfl rfl ?_
  refine H.getfield s8_30 (k_24 hw) (i := 1) rfl rfl ?_
  refine H.ifnonnullT s8_33 ?_
  refine H.aloadN s8_47 rfl rfl ?_
  refine H.getfield s8_48 (k_24 hw) (i := 1) rfl rfl ?_
  refine H.aloadN s8_51 rfl rfl ?_
  refine H.getfield s8_52 (k_23 hw) (i := 1) rfl rfl ?_
  refine H.putfield s8_55 (k_30 hw) (i := 2) rfl rfl rfl (A' := [.inl (0, [.null, .null, (.ref (n0 + 2)), .null]), .inl (0, [.null, .null, (.ref (n0 + 2)), (.ref (n0 + 0))]), .inl (0, [.null, .null, .null, (.ref (n0 + 0))]), .inl (0, [.null, .null, .null, .null]), .inl (1, [(.int (3 : Int32)), (.ref (n0 + 0)), (.ref (n0 + 2))])]) rfl ?_
  refine H.aloadN s8_58 rfl rfl ?_
  refine H.dup s8_59 rfl ?_
  refine H.getfield s8_60 (k_10 hw) (i := 4) rfl rfl ?_
  refine H.iconst s8_63 (v := (1 : Int32)) (by decide) ?_
  refine H.isub s8_64 (w := (2 : Int32)) (by decide) ?_
  refine H.putfield s8_65 (k_27 hw) (i := 4) rfl rfl rfl (A' := [.inl (0, [.null, .null, (.ref (n0 + 2)), .null]), .inl (0, [.null, .null, (.ref (n0 + 2)), (.ref (n0 + 0))]), .inl (0, [.null, .null, .null, (.ref (n0 + 0))]), .inl (0, [.null, .null, .null, .null]), .inl (1, [(.int (2 : Int32)), (.ref (n0 + 0)), (.ref (n0 + 2))])]) rfl ?_
  exact H.vreturn s8_68 rfl ⟨rfl, rfl⟩ (by decide) (by decide)


set_option maxRecDepth 65536 in
set_option maxHeartbeats 40000000 in
theorem a_57 (l : Launch) {Z : State} {a0 : Array Value} (hw : HW1 Z a0) (n0 : Nat)  : Met l Z KT n0 y7 prog_50_method_4_code 2 none ({ frames := 0, cells := 0, slots := 0, locals := 0 } : Room) #[(.ref (n0 + 4)), (.ref (n0 + 3))] [.inl (0, [.null, .null, (.ref (n0 + 2)), .null]), .inl (0, [.null, .null, (.ref (n0 + 2)), (.ref (n0 + 0))]), .inl (0, [.null, .null, .null, (.ref (n0 + 0))]), .inl (0, [.null, .null, .null, .null]), .inl (1, [(.int (2 : Int32)), (.ref (n0 + 0)), (.ref (n0 + 2))])] (Is none [.inl (0, [.null, .null, (.ref (n0 + 2)), .null]), .inl (0, [.null, .null, (.ref (n0 + 2)), (.ref (n0 + 0))]), .inl (0, [.null, .null, (.ref (n0 + 3)), (.ref (n0 + 0))]), .inl (0, [.null, .null, .null, (.ref (n0 + 2))]), .inl (1, [(.int (3 : Int32)), (.ref (n0 + 0)), (.ref (n0 + 3))])]) := by
  refine Met.of (a0 := a0) (ls := #[.val (.ref (n0 + 4)), .val (.ref (n0 + 3))]) (kok hw) (plainFor_of_name pn_8) (fun m => by first | (simp [entryFrame, mkF, argsToLocals, Value.category]; done) | rfl) (fun G H => ?_)
  refine H.aloadN s7_0 rfl rfl ?_
  refine H.aloadN s7_1 rfl rfl ?_
  refine H.getfield s7_2 (k_16 hw) (i := 4) rfl rfl ?_
  refine H.putfield s7_5 (k_17 hw) (i := 3) rfl rfl rfl (A' := [.inl (0, [.null, .null, (.ref (n0 + 2)), .null]), .inl (0, [.null, .null, (.ref (n0 + 2)), (.ref (n0 + 0))]), .inl (0, [.null, .null, .null, (.ref (n0 + 0))]), .inl (0, [.null, .null, .null, (.ref (n0 + 2))]), .inl (1, [(.int (2 : Int32)), (.ref (n0 + 0)), (.ref (n0 + 2))])]) rfl ?_
  refine H.aloadN s7_8 rfl rfl ?_
  refine H.getfield s7_9 (k_16 hw) (i := 4) rfl rfl ?_
  refine H.ifnonnullT s7_12 ?_
  refine H.aloadN s7_23 rfl rfl ?_
  refine H.getfield s7_24 (k_16 hw) (i := 4) rfl rfl ?_
  refine H.aloadN s7_27 rfl rfl ?_
  refine H.putfield s7_28 (k_29 hw) (i := 2) rfl rfl rfl (A' := [.inl (0, [.null, .null, (.ref (n0 + 2)), .null]), .inl (0, [.null, .null, (.ref (n0 + 2)), (.ref (n0 + 0))]), .inl (0, [.null, .null, (.ref (n0 + 3)), (.ref (n0 + 0))]), .inl (0, [.null, .null, .null, (.ref (n0 + 2))]), .inl (1, [(.int (2 : Int32)), (.ref (n0 + 0)), (.ref (n0 + 2))])]) rfl ?_
  refine H.aloadN s7_31 rfl rfl ?_
  refine H.aloadN s7_32 rfl rfl ?_
  refine H.putfield s7_33 (k_19 hw) (i := 4) rfl rfl rfl (A' := [.inl (0, [.null, .null, (.ref (n0 + 2)), .null]), .inl (0, [.null, .null, (.ref (n0 + 2)), (.ref (n0 + 0))]), .inl (0, [.null, .null, (.ref (n0 + 3)), (.ref (n0 + 0))]), .inl (0, [.null, .null, .null, (.ref (n0 + 2))]), .inl (1, [(.int (2 : Int32)), (.ref (n0 + 0)), (.ref (n0 + 3))])]) rfl ?_
  refine H.aloadN s7_36 rfl rfl ?_
  refine H.dup s7_37 rfl ?_
  refine H.getfield s7_38 (k_10 hw) (i := 4) rfl rfl ?_
  refine H.iconst s7_41 (v := (1 : Int32)) (by decide) ?_
  refine H.iadd s7_42 (w := (3 : Int32)) (by decide) ?_
  refine H.putfield s7_43 (k_20 hw) (i := 4) rfl rfl rfl (A' := [.inl (0, [.null, .null, (.ref (n0 + 2)), .null]), .inl (0, [.null, .null, (.ref (n0 + 2)), (.ref (n0 + 0))]), .inl (0, [.null, .null, (.ref (n0 + 3)), (.ref (n0 + 0))]), .inl (0, [.null, .null, .null, (.ref (n0 + 2))]), .inl (1, [(.int (3 : Int32)), (.ref (n0 + 0)), (.ref (n0 + 3))])]) rfl ?_
  exact H.vreturn s7_46 rfl ⟨rfl, rfl⟩ (by decide) (by decide)


set_option maxRecDepth 65536 in
set_option maxHeartbeats 40000000 in
theorem a_58 (l : Launch) {Z : State} {a0 : Array Value} (hw : HW1 Z a0) (n0 : Nat)  : Met l Z KT n0 y4 prog_50_method_2_code 1 (some .int) ({ frames := 0, cells := 0, slots := 0, locals := 0 } : Room) #[(.ref (n0 + 4))] [.inl (0, [.null, .null, (.ref (n0 + 2)), .null]), .inl (0, [.null, .null, (.ref (n0 + 2)), (.ref (n0 + 0))]), .inl (0, [.null, .null, (.ref (n0 + 3)), (.ref (n0 + 0))]), .inl (0, [.null, .null, .null, (.ref (n0 + 2))]), .inl (1, [(.int (3 : Int32)), (.ref (n0 + 0)), (.ref (n0 + 3))])] (Is (some (.int (3 : Int32))) [.inl (0, [.null, .null, (.ref (n0 + 2)), .null]), .inl (0, [.null, .null, (.ref (n0 + 2)), (.ref (n0 + 0))]), .inl (0, [.null, .null, (.ref (n0 + 3)), (.ref (n0 + 0))]), .inl (0, [.null, .null, .null, (.ref (n0 + 2))]), .inl (1, [(.int (3 : Int32)), (.ref (n0 + 0)), (.ref (n0 + 3))])]) := by
  refine Met.of (a0 := a0) (ls := #[.val (.ref (n0 + 4))]) (kok hw) (plainFor_of_name pn_8) (fun m => by first | (simp [entryFrame, mkF, argsToLocals, Value.category]; done) | rfl) (fun G H => ?_)
  refine H.aloadN s4_0 rfl rfl ?_
  refine H.getfield s4_1 (k_10 hw) (i := 4) rfl rfl ?_
  exact H.ireturn s4_4 rfl (by simp) rfl ⟨rfl, rfl⟩ (by decide) (by decide)


set_option maxRecDepth 65536 in
set_option maxHeartbeats 40000000 in
theorem a_59 (l : Launch) {Z : State} {a0 : Array Value} (hw : HW1 Z a0) (n0 : Nat)  : Met l Z KT n0 y5 prog_50_method_3_code 1 (some (.object "com/example/nano_acl/nanoacl/principal/Membership")) ({ frames := 0, cells := 0, slots := 0, locals := 0 } : Room) #[(.ref (n0 + 4))] [.inl (0, [.null, .null, (.ref (n0 + 2)), .null]), .inl (0, [.null, .null, (.ref (n0 + 2)), (.ref (n0 + 0))]), .inl (0, [.null, .null, (.ref (n0 + 3)), (.ref (n0 + 0))]), .inl (0, [.null, .null, .null, (.ref (n0 + 2))]), .inl (1, [(.int (3 : Int32)), (.ref (n0 + 0)), (.ref (n0 + 3))])] (Is (some (.ref (n0 + 0))) [.inl (0, [.null, .null, (.ref (n0 + 2)), .null]), .inl (0, [.null, .null, (.ref (n0 + 2)), (.ref (n0 + 0))]), .inl (0, [.null, .null, (.ref (n0 + 3)), (.ref (n0 + 0))]), .inl (0, [.null, .null, .null, (.ref (n0 + 2))]), .inl (1, [(.int (3 : Int32)), (.ref (n0 + 0)), (.ref (n0 + 3))])]) := by
  refine Met.of (a0 := a0) (ls := #[.val (.ref (n0 + 4))]) (kok hw) (plainFor_of_name pn_8) (fun m => by first | (simp [entryFrame, mkF, argsToLocals, Value.category]; done) | rfl) (fun G H => ?_)
  refine H.aloadN s5_0 rfl rfl ?_
  refine H.getfield s5_1 (k_12 hw) (i := 4) rfl rfl ?_
  exact H.areturn s5_4 rfl rfl rfl rfl ⟨rfl, rfl⟩ (by decide) (by decide)


set_option maxRecDepth 65536 in
set_option maxHeartbeats 40000000 in
theorem a_60 (l : Launch) {Z : State} {a0 : Array Value} (hw : HW1 Z a0) (n0 : Nat)  : Met l Z KT n0 y6 prog_49_method_4_code 1 (some (.object "com/example/nano_acl/nanoacl/principal/Membership")) ({ frames := 0, cells := 0, slots := 0, locals := 0 } : Room) #[(.ref (n0 + 0))] [.inl (0, [.null, .null, (.ref (n0 + 2)), .null]), .inl (0, [.null, .null, (.ref (n0 + 2)), (.ref (n0 + 0))]), .inl (0, [.null, .null, (.ref (n0 + 3)), (.ref (n0 + 0))]), .inl (0, [.null, .null, .null, (.ref (n0 + 2))]), .inl (1, [(.int (3 : Int32)), (.ref (n0 + 0)), (.ref (n0 + 3))])] (Is (some (.ref (n0 + 2))) [.inl (0, [.null, .null, (.ref (n0 + 2)), .null]), .inl (0, [.null, .null, (.ref (n0 + 2)), (.ref (n0 + 0))]), .inl (0, [.null, .null, (.ref (n0 + 3)), (.ref (n0 + 0))]), .inl (0, [.null, .null, .null, (.ref (n0 + 2))]), .inl (1, [(.int (3 : Int32)), (.ref (n0 + 0)), (.ref (n0 + 3))])]) := by
  refine Met.of (a0 := a0) (ls := #[.val (.ref (n0 + 0))]) (kok hw) (plainFor_of_name pn_4) (fun m => by first | (simp [entryFrame, mkF, argsToLocals, Value.category]; done) | rfl) (fun G H => ?_)
  refine H.aloadN s6_0 rfl rfl ?_
  refine H.getfield s6_1 (k_14 hw) (i := 0) rfl rfl ?_
  exact H.areturn s6_4 rfl rfl rfl rfl ⟨rfl, rfl⟩ (by decide) (by decide)


set_option maxRecDepth 65536 in
set_option maxHeartbeats 40000000 in
theorem a_61 (l : Launch) {Z : State} {a0 : Array Value} (hw : HW1 Z a0) (n0 : Nat)  : Met l Z KT n0 y6 prog_49_method_4_code 1 (some (.object "com/example/nano_acl/nanoacl/principal/Membership")) ({ frames := 0, cells := 0, slots := 0, locals := 0 } : Room) #[(.ref (n0 + 2))] [.inl (0, [.null, .null, (.ref (n0 + 2)), .null]), .inl (0, [.null, .null, (.ref (n0 + 2)), (.ref (n0 + 0))]), .inl (0, [.null, .null, (.ref (n0 + 3)), (.ref (n0 + 0))]), .inl (0, [.null, .null, .null, (.ref (n0 + 2))]), .inl (1, [(.int (3 : Int32)), (.ref (n0 + 0)), (.ref (n0 + 3))])] (Is (some (.ref (n0 + 3))) [.inl (0, [.null, .null, (.ref (n0 + 2)), .null]), .inl (0, [.null, .null, (.ref (n0 + 2)), (.ref (n0 + 0))]), .inl (0, [.null, .null, (.ref (n0 + 3)), (.ref (n0 + 0))]), .inl (0, [.null, .null, .null, (.ref (n0 + 2))]), .inl (1, [(.int (3 : Int32)), (.ref (n0 + 0)), (.ref (n0 + 3))])]) := by
  refine Met.of (a0 := a0) (ls := #[.val (.ref (n0 + 2))]) (kok hw) (plainFor_of_name pn_4) (fun m => by first | (simp [entryFrame, mkF, argsToLocals, Value.category]; done) | rfl) (fun G H => ?_)
  refine H.aloadN s6_0 rfl rfl ?_
  refine H.getfield s6_1 (k_14 hw) (i := 2) rfl rfl ?_
  exact H.areturn s6_4 rfl rfl rfl rfl ⟨rfl, rfl⟩ (by decide) (by decide)


set_option maxRecDepth 65536 in
set_option maxHeartbeats 40000000 in
theorem a_62 (l : Launch) {Z : State} {a0 : Array Value} (hw : HW1 Z a0) (n0 : Nat)  : Met l Z KT n0 y6 prog_49_method_4_code 1 (some (.object "com/example/nano_acl/nanoacl/principal/Membership")) ({ frames := 0, cells := 0, slots := 0, locals := 0 } : Room) #[(.ref (n0 + 3))] [.inl (0, [.null, .null, (.ref (n0 + 2)), .null]), .inl (0, [.null, .null, (.ref (n0 + 2)), (.ref (n0 + 0))]), .inl (0, [.null, .null, (.ref (n0 + 3)), (.ref (n0 + 0))]), .inl (0, [.null, .null, .null, (.ref (n0 + 2))]), .inl (1, [(.int (3 : Int32)), (.ref (n0 + 0)), (.ref (n0 + 3))])] (Is (some .null) [.inl (0, [.null, .null, (.ref (n0 + 2)), .null]), .inl (0, [.null, .null, (.ref (n0 + 2)), (.ref (n0 + 0))]), .inl (0, [.null, .null, (.ref (n0 + 3)), (.ref (n0 + 0))]), .inl (0, [.null, .null, .null, (.ref (n0 + 2))]), .inl (1, [(.int (3 : Int32)), (.ref (n0 + 0)), (.ref (n0 + 3))])]) := by
  refine Met.of (a0 := a0) (ls := #[.val (.ref (n0 + 3))]) (kok hw) (plainFor_of_name pn_4) (fun m => by first | (simp [entryFrame, mkF, argsToLocals, Value.category]; done) | rfl) (fun G H => ?_)
  refine H.aloadN s6_0 rfl rfl ?_
  refine H.getfield s6_1 (k_14 hw) (i := 3) rfl rfl ?_
  exact H.areturn s6_4 rfl rfl rfl rfl ⟨rfl, rfl⟩ (by decide) (by decide)


set_option maxRecDepth 65536 in
set_option maxHeartbeats 40000000 in
theorem a_63 (l : Launch) {Z : State} {a0 : Array Value} (hw : HW1 Z a0) (n0 : Nat)  : Met l Z KT n0 y6 prog_49_method_4_code 1 (some (.object "com/example/nano_acl/nanoacl/principal/Membership")) ({ frames := 0, cells := 0, slots := 0, locals := 0 } : Room) #[(.ref (n0 + 1))] [.inl (0, [.null, .null, (.ref (n0 + 2)), .null]), .inl (0, [.null, .null, (.ref (n0 + 2)), (.ref (n0 + 0))]), .inl (0, [.null, .null, (.ref (n0 + 3)), (.ref (n0 + 0))]), .inl (0, [.null, .null, .null, (.ref (n0 + 2))]), .inl (1, [(.int (3 : Int32)), (.ref (n0 + 0)), (.ref (n0 + 3))])] (Is (some (.ref (n0 + 2))) [.inl (0, [.null, .null, (.ref (n0 + 2)), .null]), .inl (0, [.null, .null, (.ref (n0 + 2)), (.ref (n0 + 0))]), .inl (0, [.null, .null, (.ref (n0 + 3)), (.ref (n0 + 0))]), .inl (0, [.null, .null, .null, (.ref (n0 + 2))]), .inl (1, [(.int (3 : Int32)), (.ref (n0 + 0)), (.ref (n0 + 3))])]) := by
  refine Met.of (a0 := a0) (ls := #[.val (.ref (n0 + 1))]) (kok hw) (plainFor_of_name pn_4) (fun m => by first | (simp [entryFrame, mkF, argsToLocals, Value.category]; done) | rfl) (fun G H => ?_)
  refine H.aloadN s6_0 rfl rfl ?_
  refine H.getfield s6_1 (k_14 hw) (i := 1) rfl rfl ?_
  exact H.areturn s6_4 rfl rfl rfl rfl ⟨rfl, rfl⟩ (by decide) (by decide)

theorem s0_251 : Nx code 251 (.aload 5) 2 253 := ⟨at_251, rfl⟩
set_option maxRecDepth 65536 in
set_option maxHeartbeats 40000000 in
theorem a_64 (l : Launch) {Z : State} {a0 : Array Value} (hw : HW1 Z a0) (n0 : Nat)  : Met l Z KT n0 y8 prog_50_method_5_code 2 none ({ frames := 0, cells := 0, slots := 0, locals := 0 } : Room) #[(.ref (n0 + 4)), (.ref (n0 + 2))] [.inl (0, [.null, .null, (.ref (n0 + 1)), .null]), .inl (0, [.null, .null, (.ref (n0 + 2)), (.ref (n0 + 0))]), .inl (0, [.null, .null, .null, (.ref (n0 + 1))]), .inl (0, [.null, .null, .null, .null]), .inl (1, [(.int (3 : Int32)), (.ref (n0 + 0)), (.ref (n0 + 2))])] (Is none [.inl (0, [.null, .null, (.ref (n0 + 1)), .null]), .inl (0, [.null, .null, .null, (.ref (n0 + 0))]), .inl (0, [.null, .null, .null, (.ref (n0 + 1))]), .inl (0, [.null, .null, .null, .null]), .inl (1, [(.int (2 : Int32)), (.ref (n0 + 0)), (.ref (n0 + 1))])]) := by
  refine Met.of (a0 := a0) (ls := #[.val (.ref (n0 + 4)), .val (.ref (n0 + 2))]) (kok hw) (plainFor_of_name pn_8) (fun m => by first | (simp [entryFrame, mkF, argsToLocals, Value.category]; done) | rfl) (fun G H => ?_)
  refine H.aloadN s8_0 rfl rfl ?_
  refine H.getfield s8_1 (k_23 hw) (i := 2) rfl rfl ?_
  refine H.ifnonnullT s8_4 ?_
  refine H.aloadN s8_18 rfl rfl ?_
  refine H.getfield s8_19 (k_23 hw) (i := 2) rfl rfl ?_
  refine H.aloadN s8_22 rfl rfl ?_
  refine H.getfield s8_23 (k_24 hw) (i := 2) rfl rfl ?_
  refine H.putfield s8_26 (k_31 hw) (i := 1) rfl rfl rfl (A' := [.inl (0, [.null, .null, (.ref (n0 + 1)), .null]), .inl (0, [.null, .null, .null, (.ref (n0 + 0))]), .inl (0, [.null, .null, .null, (.ref (n0 + 1))]), .inl (0, [.null, .null, .null, .null]), .inl (1, [(.int (3 : Int32)), (.ref (n0 + 0)), (.ref (n0 + 2))])]) rfl ?_
  refine H.aloadN s8_29 rfl rfl ?_
  refine H.getfield s8_30 (k_24 hw) (i := 2) rfl rfl ?_
  refine H.ifnonnullF s8_33 ?_
  refine H.aloadN s8_36 rfl rfl ?_
  refine H.aloadN s8_37 rfl rfl ?_
  refine H.getfield s8_38 (k_23 hw) (i := 2) rfl rfl ?_
  refine H.putfield s8_41 (k_26 hw) (i := 4) rfl rfl rfl (A' := [.inl (0, [.null, .null, (.ref (n0 + 1)), .null]), .inl (0, [.null, .null, .null, (.ref (n0 + 0))]), .inl (0, [.null, .null, .null, (.ref (n0 + 1))]), .inl (0, [.null, .null, .null, .null]), .inl (1, [(.int (3 : Int32)), (.ref (n0 + 0)), (.ref (n0 + 1))])]) rfl ?_
  refine H.goto s8_44 ?_
  refine H.aloadN s8_58 rfl rfl ?_
  refine H.dup s8_59 rfl ?_
  refine H.getfield s8_60 (k_10 hw) (i := 4) rfl rfl ?_
  refine H.iconst s8_63 (v := (1 : Int32)) (by decide) ?_
  refine H.isub s8_64 (w := (2 : Int32)) (by decide) ?_
  refine H.putfield s8_65 (k_27 hw) (i := 4) rfl rfl rfl (A' := [.inl (0, [.null, .null, (.ref (n0 + 1)), .null]), .inl (0, [.null, .null, .null, (.ref (n0 + 0))]), .inl (0, [.null, .null, .null, (.ref (n0 + 1))]), .inl (0, [.null, .null, .null, .null]), .inl (1, [(.int (2 : Int32)), (.ref (n0 + 0)), (.ref (n0 + 1))])]) rfl ?_
  exact H.vreturn s8_68 rfl ⟨rfl, rfl⟩ (by decide) (by decide)


set_option maxRecDepth 65536 in
set_option maxHeartbeats 40000000 in
theorem a_65 (l : Launch) {Z : State} {a0 : Array Value} (hw : HW1 Z a0) (n0 : Nat)  : Met l Z KT n0 y7 prog_50_method_4_code 2 none ({ frames := 0, cells := 0, slots := 0, locals := 0 } : Room) #[(.ref (n0 + 4)), (.ref (n0 + 3))] [.inl (0, [.null, .null, (.ref (n0 + 1)), .null]), .inl (0, [.null, .null, .null, (.ref (n0 + 0))]), .inl (0, [.null, .null, .null, (.ref (n0 + 1))]), .inl (0, [.null, .null, .null, .null]), .inl (1, [(.int (2 : Int32)), (.ref (n0 + 0)), (.ref (n0 + 1))])] (Is none [.inl (0, [.null, .null, (.ref (n0 + 1)), .null]), .inl (0, [.null, .null, (.ref (n0 + 3)), (.ref (n0 + 0))]), .inl (0, [.null, .null, .null, (.ref (n0 + 1))]), .inl (0, [.null, .null, .null, (.ref (n0 + 1))]), .inl (1, [(.int (3 : Int32)), (.ref (n0 + 0)), (.ref (n0 + 3))])]) := by
  refine Met.of (a0 := a0) (ls := #[.val (.ref (n0 + 4)), .val (.ref (n0 + 3))]) (kok hw) (plainFor_of_name pn_8) (fun m => by first | (simp [entryFrame, mkF, argsToLocals, Value.category]; done) | rfl) (fun G H => ?_)
  refine H.aloadN s7_0 rfl rfl ?_
  refine H.aloadN s7_1 rfl rfl ?_
  refine H.getfield s7_2 (k_16 hw) (i := 4) rfl rfl ?_
  refine H.putfield s7_5 (k_17 hw) (i := 3) rfl rfl rfl (A' := [.inl (0, [.null, .null, (.ref (n0 + 1)), .null]), .inl (0, [.null, .null, .null, (.ref (n0 + 0))]), .inl (0, [.null, .null, .null, (.ref (n0 + 1))]), .inl (0, [.null, .null, .null, (.ref (n0 + 1))]), .inl (1, [(.int (2 : Int32)), (.ref (n0 + 0)), (.ref (n0 + 1))])]) rfl ?_
  refine H.aloadN s7_8 rfl rfl ?_
  refine H.getfield s7_9 (k_16 hw) (i := 4) rfl rfl ?_
  refine H.ifnonnullT s7_12 ?_
  refine H.aloadN s7_23 rfl rfl ?_
  refine H.getfield s7_24 (k_16 hw) (i := 4) rfl rfl ?_
  refine H.aloadN s7_27 rfl rfl ?_
  refine H.putfield s7_28 (k_29 hw) (i := 1) rfl rfl rfl (A' := [.inl (0, [.null, .null, (.ref (n0 + 1)), .null]), .inl (0, [.null, .null, (.ref (n0 + 3)), (.ref (n0 + 0))]), .inl (0, [.null, .null, .null, (.ref (n0 + 1))]), .inl (0, [.null, .null, .null, (.ref (n0 + 1))]), .inl (1, [(.int (2 : Int32)), (.ref (n0 + 0)), (.ref (n0 + 1))])]) rfl ?_
  refine H.aloadN s7_31 rfl rfl ?_
  refine H.aloadN s7_32 rfl rfl ?_
  refine H.putfield s7_33 (k_19 hw) (i := 4) rfl rfl rfl (A' := [.inl (0, [.null, .null, (.ref (n0 + 1)), .null]), .inl (0, [.null, .null, (.ref (n0 + 3)), (.ref (n0 + 0))]), .inl (0, [.null, .null, .null, (.ref (n0 + 1))]), .inl (0, [.null, .null, .null, (.ref (n0 + 1))]), .inl (1, [(.int (2 : Int32)), (.ref (n0 + 0)), (.ref (n0 + 3))])]) rfl ?_
  refine H.aloadN s7_36 rfl rfl ?_
  refine H.dup s7_37 rfl ?_
  refine H.getfield s7_38 (k_10 hw) (i := 4) rfl rfl ?_
  refine H.iconst s7_41 (v := (1 : Int32)) (by decide) ?_
  refine H.iadd s7_42 (w := (3 : Int32)) (by decide) ?_
  refine H.putfield s7_43 (k_20 hw) (i := 4) rfl rfl rfl (A' := [.inl (0, [.null, .null, (.ref (n0 + 1)), .null]), .inl (0, [.null, .null, (.ref (n0 + 3)), (.ref (n0 + 0))]), .inl (0, [.null, .null, .null, (.ref (n0 + 1))]), .inl (0, [.null, .null, .null, (.ref (n0 + 1))]), .inl (1, [(.int (3 : Int32)), (.ref (n0 + 0)), (.ref (n0 + 3))])]) rfl ?_
  exact H.vreturn s7_46 rfl ⟨rfl, rfl⟩ (by decide) (by decide)

theorem s0_324 : Nx code 324 (.aload 4) 2 326 := ⟨at_324, rfl⟩
set_option maxRecDepth 65536 in
set_option maxHeartbeats 40000000 in
theorem a_66 (l : Launch) {Z : State} {a0 : Array Value} (hw : HW1 Z a0) (n0 : Nat)  : Met l Z KT n0 y4 prog_50_method_2_code 1 (some .int) ({ frames := 0, cells := 0, slots := 0, locals := 0 } : Room) #[(.ref (n0 + 4))] [.inl (0, [.null, .null, (.ref (n0 + 1)), .null]), .inl (0, [.null, .null, (.ref (n0 + 3)), (.ref (n0 + 0))]), .inl (0, [.null, .null, .null, (.ref (n0 + 1))]), .inl (0, [.null, .null, .null, (.ref (n0 + 1))]), .inl (1, [(.int (3 : Int32)), (.ref (n0 + 0)), (.ref (n0 + 3))])] (Is (some (.int (3 : Int32))) [.inl (0, [.null, .null, (.ref (n0 + 1)), .null]), .inl (0, [.null, .null, (.ref (n0 + 3)), (.ref (n0 + 0))]), .inl (0, [.null, .null, .null, (.ref (n0 + 1))]), .inl (0, [.null, .null, .null, (.ref (n0 + 1))]), .inl (1, [(.int (3 : Int32)), (.ref (n0 + 0)), (.ref (n0 + 3))])]) := by
  refine Met.of (a0 := a0) (ls := #[.val (.ref (n0 + 4))]) (kok hw) (plainFor_of_name pn_8) (fun m => by first | (simp [entryFrame, mkF, argsToLocals, Value.category]; done) | rfl) (fun G H => ?_)
  refine H.aloadN s4_0 rfl rfl ?_
  refine H.getfield s4_1 (k_10 hw) (i := 4) rfl rfl ?_
  exact H.ireturn s4_4 rfl (by simp) rfl ⟨rfl, rfl⟩ (by decide) (by decide)


set_option maxRecDepth 65536 in
set_option maxHeartbeats 40000000 in
theorem a_67 (l : Launch) {Z : State} {a0 : Array Value} (hw : HW1 Z a0) (n0 : Nat)  : Met l Z KT n0 y5 prog_50_method_3_code 1 (some (.object "com/example/nano_acl/nanoacl/principal/Membership")) ({ frames := 0, cells := 0, slots := 0, locals := 0 } : Room) #[(.ref (n0 + 4))] [.inl (0, [.null, .null, (.ref (n0 + 1)), .null]), .inl (0, [.null, .null, (.ref (n0 + 3)), (.ref (n0 + 0))]), .inl (0, [.null, .null, .null, (.ref (n0 + 1))]), .inl (0, [.null, .null, .null, (.ref (n0 + 1))]), .inl (1, [(.int (3 : Int32)), (.ref (n0 + 0)), (.ref (n0 + 3))])] (Is (some (.ref (n0 + 0))) [.inl (0, [.null, .null, (.ref (n0 + 1)), .null]), .inl (0, [.null, .null, (.ref (n0 + 3)), (.ref (n0 + 0))]), .inl (0, [.null, .null, .null, (.ref (n0 + 1))]), .inl (0, [.null, .null, .null, (.ref (n0 + 1))]), .inl (1, [(.int (3 : Int32)), (.ref (n0 + 0)), (.ref (n0 + 3))])]) := by
  refine Met.of (a0 := a0) (ls := #[.val (.ref (n0 + 4))]) (kok hw) (plainFor_of_name pn_8) (fun m => by first | (simp [entryFrame, mkF, argsToLocals, Value.category]; done) | rfl) (fun G H => ?_)
  refine H.aloadN s5_0 rfl rfl ?_
  refine H.getfield s5_1 (k_12 hw) (i := 4) rfl rfl ?_
  exact H.areturn s5_4 rfl rfl rfl rfl ⟨rfl, rfl⟩ (by decide) (by decide)


set_option maxRecDepth 65536 in
set_option maxHeartbeats 40000000 in
theorem a_68 (l : Launch) {Z : State} {a0 : Array Value} (hw : HW1 Z a0) (n0 : Nat)  : Met l Z KT n0 y6 prog_49_method_4_code 1 (some (.object "com/example/nano_acl/nanoacl/principal/Membership")) ({ frames := 0, cells := 0, slots := 0, locals := 0 } : Room) #[(.ref (n0 + 0))] [.inl (0, [.null, .null, (.ref (n0 + 1)), .null]), .inl (0, [.null, .null, (.ref (n0 + 3)), (.ref (n0 + 0))]), .inl (0, [.null, .null, .null, (.ref (n0 + 1))]), .inl (0, [.null, .null, .null, (.ref (n0 + 1))]), .inl (1, [(.int (3 : Int32)), (.ref (n0 + 0)), (.ref (n0 + 3))])] (Is (some (.ref (n0 + 1))) [.inl (0, [.null, .null, (.ref (n0 + 1)), .null]), .inl (0, [.null, .null, (.ref (n0 + 3)), (.ref (n0 + 0))]), .inl (0, [.null, .null, .null, (.ref (n0 + 1))]), .inl (0, [.null, .null, .null, (.ref (n0 + 1))]), .inl (1, [(.int (3 : Int32)), (.ref (n0 + 0)), (.ref (n0 + 3))])]) := by
  refine Met.of (a0 := a0) (ls := #[.val (.ref (n0 + 0))]) (kok hw) (plainFor_of_name pn_4) (fun m => by first | (simp [entryFrame, mkF, argsToLocals, Value.category]; done) | rfl) (fun G H => ?_)
  refine H.aloadN s6_0 rfl rfl ?_
  refine H.getfield s6_1 (k_14 hw) (i := 0) rfl rfl ?_
  exact H.areturn s6_4 rfl rfl rfl rfl ⟨rfl, rfl⟩ (by decide) (by decide)


set_option maxRecDepth 65536 in
set_option maxHeartbeats 40000000 in
theorem a_69 (l : Launch) {Z : State} {a0 : Array Value} (hw : HW1 Z a0) (n0 : Nat)  : Met l Z KT n0 y6 prog_49_method_4_code 1 (some (.object "com/example/nano_acl/nanoacl/principal/Membership")) ({ frames := 0, cells := 0, slots := 0, locals := 0 } : Room) #[(.ref (n0 + 1))] [.inl (0, [.null, .null, (.ref (n0 + 1)), .null]), .inl (0, [.null, .null, (.ref (n0 + 3)), (.ref (n0 + 0))]), .inl (0, [.null, .null, .null, (.ref (n0 + 1))]), .inl (0, [.null, .null, .null, (.ref (n0 + 1))]), .inl (1, [(.int (3 : Int32)), (.ref (n0 + 0)), (.ref (n0 + 3))])] (Is (some (.ref (n0 + 3))) [.inl (0, [.null, .null, (.ref (n0 + 1)), .null]), .inl (0, [.null, .null, (.ref (n0 + 3)), (.ref (n0 + 0))]), .inl (0, [.null, .null, .null, (.ref (n0 + 1))]), .inl (0, [.null, .null, .null, (.ref (n0 + 1))]), .inl (1, [(.int (3 : Int32)), (.ref (n0 + 0)), (.ref (n0 + 3))])]) := by
  refine Met.of (a0 := a0) (ls := #[.val (.ref (n0 + 1))]) (kok hw) (plainFor_of_name pn_4) (fun m => by first | (simp [entryFrame, mkF, argsToLocals, Value.category]; done) | rfl) (fun G H => ?_)
  refine H.aloadN s6_0 rfl rfl ?_
  refine H.getfield s6_1 (k_14 hw) (i := 1) rfl rfl ?_
  exact H.areturn s6_4 rfl rfl rfl rfl ⟨rfl, rfl⟩ (by decide) (by decide)


set_option maxRecDepth 65536 in
set_option maxHeartbeats 40000000 in
theorem a_70 (l : Launch) {Z : State} {a0 : Array Value} (hw : HW1 Z a0) (n0 : Nat)  : Met l Z KT n0 y6 prog_49_method_4_code 1 (some (.object "com/example/nano_acl/nanoacl/principal/Membership")) ({ frames := 0, cells := 0, slots := 0, locals := 0 } : Room) #[(.ref (n0 + 3))] [.inl (0, [.null, .null, (.ref (n0 + 1)), .null]), .inl (0, [.null, .null, (.ref (n0 + 3)), (.ref (n0 + 0))]), .inl (0, [.null, .null, .null, (.ref (n0 + 1))]), .inl (0, [.null, .null, .null, (.ref (n0 + 1))]), .inl (1, [(.int (3 : Int32)), (.ref (n0 + 0)), (.ref (n0 + 3))])] (Is (some .null) [.inl (0, [.null, .null, (.ref (n0 + 1)), .null]), .inl (0, [.null, .null, (.ref (n0 + 3)), (.ref (n0 + 0))]), .inl (0, [.null, .null, .null, (.ref (n0 + 1))]), .inl (0, [.null, .null, .null, (.ref (n0 + 1))]), .inl (1, [(.int (3 : Int32)), (.ref (n0 + 0)), (.ref (n0 + 3))])]) := by
  refine Met.of (a0 := a0) (ls := #[.val (.ref (n0 + 3))]) (kok hw) (plainFor_of_name pn_4) (fun m => by first | (simp [entryFrame, mkF, argsToLocals, Value.category]; done) | rfl) (fun G H => ?_)
  refine H.aloadN s6_0 rfl rfl ?_
  refine H.getfield s6_1 (k_14 hw) (i := 3) rfl rfl ?_
  exact H.areturn s6_4 rfl rfl rfl rfl ⟨rfl, rfl⟩ (by decide) (by decide)


set_option maxRecDepth 65536 in
set_option maxHeartbeats 40000000 in
theorem a_71 (l : Launch) {Z : State} {a0 : Array Value} (hw : HW1 Z a0) (n0 : Nat)  : Met l Z KT n0 y6 prog_49_method_4_code 1 (some (.object "com/example/nano_acl/nanoacl/principal/Membership")) ({ frames := 0, cells := 0, slots := 0, locals := 0 } : Room) #[(.ref (n0 + 2))] [.inl (0, [.null, .null, (.ref (n0 + 1)), .null]), .inl (0, [.null, .null, (.ref (n0 + 3)), (.ref (n0 + 0))]), .inl (0, [.null, .null, .null, (.ref (n0 + 1))]), .inl (0, [.null, .null, .null, (.ref (n0 + 1))]), .inl (1, [(.int (3 : Int32)), (.ref (n0 + 0)), (.ref (n0 + 3))])] (Is (some .null) [.inl (0, [.null, .null, (.ref (n0 + 1)), .null]), .inl (0, [.null, .null, (.ref (n0 + 3)), (.ref (n0 + 0))]), .inl (0, [.null, .null, .null, (.ref (n0 + 1))]), .inl (0, [.null, .null, .null, (.ref (n0 + 1))]), .inl (1, [(.int (3 : Int32)), (.ref (n0 + 0)), (.ref (n0 + 3))])]) := by
  refine Met.of (a0 := a0) (ls := #[.val (.ref (n0 + 2))]) (kok hw) (plainFor_of_name pn_4) (fun m => by first | (simp [entryFrame, mkF, argsToLocals, Value.category]; done) | rfl) (fun G H => ?_)
  refine H.aloadN s6_0 rfl rfl ?_
  refine H.getfield s6_1 (k_14 hw) (i := 2) rfl rfl ?_
  exact H.areturn s6_4 rfl rfl rfl rfl ⟨rfl, rfl⟩ (by decide) (by decide)

theorem pn_32 : plainName "com/example/nano_acl/nanoacl/principal/MemberListAppendPinLaw" = true := by first | (simp [plainName, overriddenIn]; done) | decide +kernel

set_option maxRecDepth 65536 in
set_option maxHeartbeats 40000000 in
theorem law_met (l : Launch) {Z : State} {a0 : Array Value} (hw : HW1 Z a0) (n0 : Nat) (p0 : Int32) (p1 : Int32) : Met l Z KT n0 x code maxLocals ret room_1 #[(.int p0), (.int p1)] [] (fun v _ => v = some (.int 1)) := by
  refine Met.of (a0 := a0) (ls := #[.val (.int p0), .val (.int p1), .unset, .unset, .unset, .unset, .unset, .unset, .unset, .unset, .unset, .unset, .unset, .unset, .unset]) (kok hw) (plainFor_of_name pn_32) (fun m => by first | (simp [entryFrame, mkF, argsToLocals, Value.category, maxLocals]; done) | rfl) (fun G H => ?_)
  refine H.iloadN s0_0 rfl ?_
  refine H.iconst s0_1 (v := (3 : Int32)) (by decide) ?_
  rcases own_and3 p0 with hz2 | hz2 | hz2 | hz2
  · refine H.iand s0_2 (w := (0 : Int32)) hz2 ?_
    refine H.istoreN s0_3 (ls' := #[.val (.int p0), .val (.int p1), .val (.int (0 : Int32)), .unset, .unset, .unset, .unset, .unset, .unset, .unset, .unset, .unset, .unset, .unset, .unset]) rfl ?_
    refine H.new s0_4 (k_0 hw) rfl (by decide) (by decide) (i := 0) rfl (A' := [.inl (0, [.null, .null, .null, .null])]) rfl (k' := 1) rfl (n' := 5) rfl ?_
    refine H.dup s0_7 rfl ?_
    refine H.aconstNull s0_8 ?_
    refine H.aconstNull s0_9 ?_
    refine H.callCD s0_10 (k_5 hw) (a_0 l hw n0) (argsL := [.null, .null]) (rest := [(.ref (n0 + 0))]) rfl rfl rfl rfl (leb rfl) (leb rfl) (leb rfl) (leb rfl) (st' := [(.ref (n0 + 0))]) rfl (k' := 1) rfl (n' := 5) rfl ?_
    refine H.astoreN s0_13 rfl (ls' := #[.val (.int p0), .val (.int p1), .val (.int (0 : Int32)), .val (.ref (n0 + 0)), .unset, .unset, .unset, .unset, .unset, .unset, .unset, .unset, .unset, .unset, .unset]) rfl ?_
    refine H.new s0_14 (k_0 hw) rfl (by decide) (by decide) (i := 1) rfl (A' := [.inl (0, [.null, .null, .null, .null]), .inl (0, [.null, .null, .null, .null])]) rfl (k' := 2) rfl (n' := 10) rfl ?_
    refine H.dup s0_17 rfl ?_
    refine H.aconstNull s0_18 ?_
    refine H.aconstNull s0_19 ?_
    refine H.callCD s0_20 (k_5 hw) (a_1 l hw n0) (argsL := [.null, .null]) (rest := [(.ref (n0 + 1))]) rfl rfl rfl rfl (leb rfl) (leb rfl) (leb rfl) (leb rfl) (st' := [(.ref (n0 + 1))]) rfl (k' := 2) rfl (n' := 10) rfl ?_
    refine H.astore s0_23 rfl (ls' := #[.val (.int p0), .val (.int p1), .val (.int (0 : Int32)), .val (.ref (n0 + 0)), .val (.ref (n0 + 1)), .unset, .unset, .unset, .unset, .unset, .unset, .unset, .unset, .unset, .unset]) rfl ?_
    refine H.new s0_25 (k_0 hw) rfl (by decide) (by decide) (i := 2) rfl (A' := [.inl (0, [.null, .null, .null, .null]), .inl (0, [.null, .null, .null, .null]), .inl (0, [.null, .null, .null, .null])]) rfl (k' := 3) rfl (n' := 15) rfl ?_
    refine H.dup s0_28 rfl ?_
    refine H.aconstNull s0_29 ?_
    refine H.aconstNull s0_30 ?_
    refine H.callCD s0_31 (k_5 hw) (a_2 l hw n0) (argsL := [.null, .null]) (rest := [(.ref (n0 + 2))]) rfl rfl rfl rfl (leb rfl) (leb rfl) (leb rfl) (leb rfl) (st' := [(.ref (n0 + 2))]) rfl (k' := 3) rfl (n' := 15) rfl ?_
    refine H.astore s0_34 rfl (ls' := #[.val (.int p0), .val (.int p1), .val (.int (0 : Int32)), .val (.ref (n0 + 0)), .val (.ref (n0 + 1)), .val (.ref (n0 + 2)), .unset, .unset, .unset, .unset, .unset, .unset, .unset, .unset, .unset]) rfl ?_
    refine H.new s0_36 (k_0 hw) rfl (by decide) (by decide) (i := 3) rfl (A' := [.inl (0, [.null, .null, .null, .null]), .inl (0, [.null, .null, .null, .null]), .inl (0, [.null, .null, .null, .null]), .inl (0, [.null, .null, .null, .null])]) rfl (k' := 4) rfl (n' := 20) rfl ?_
    refine H.dup s0_39 rfl ?_
    refine H.aconstNull s0_40 ?_
    refine H.aconstNull s0_41 ?_
    refine H.callCD s0_42 (k_5 hw) (a_3 l hw n0) (argsL := [.null, .null]) (rest := [(.ref (n0 + 3))]) rfl rfl rfl rfl (leb rfl) (leb rfl) (leb rfl) (leb rfl) (st' := [(.ref (n0 + 3))]) rfl (k' := 4) rfl (n' := 20) rfl ?_
    refine H.astore s0_45 rfl (ls' := #[.val (.int p0), .val (.int p1), .val (.int (0 : Int32)), .val (.ref (n0 + 0)), .val (.ref (n0 + 1)), .val (.ref (n0 + 2)), .val (.ref (n0 + 3)), .unset, .unset, .unset, .unset, .unset, .unset, .unset, .unset]) rfl ?_
    refine H.new s0_47 (k_6 hw) rfl (by decide) (by decide) (i := 4) rfl (A' := [.inl (0, [.null, .null, .null, .null]), .inl (0, [.null, .null, .null, .null]), .inl (0, [.null, .null, .null, .null]), .inl (0, [.null, .null, .null, .null]), .inl (1, [(.int (0 : Int32)), .null, .null])]) rfl (k' := 5) rfl (n' := 23) rfl ?_
    refine H.dup s0_50 rfl ?_
    refine H.callCD s0_51 (k_9 hw) (a_4 l hw n0) (argsL := []) (rest := [(.ref (n0 + 4))]) rfl rfl rfl rfl (leb rfl) (leb rfl) (leb rfl) (leb rfl) (st' := [(.ref (n0 + 4))]) rfl (k' := 5) rfl (n' := 23) rfl ?_
    refine H.astore s0_54 rfl (ls' := #[.val (.int p0), .val (.int p1), .val (.int (0 : Int32)), .val (.ref (n0 + 0)), .val (.ref (n0 + 1)), .val (.ref (n0 + 2)), .val (.ref (n0 + 3)), .val (.ref (n0 + 4)), .unset, .unset, .unset, .unset, .unset, .unset, .unset]) rfl ?_
    refine H.iloadN s0_56 rfl ?_
    refine H.ifT s0_57 (show ¬ (0 : Int32) < (0 : Int32) by decide) ?_
    refine H.iloadN s0_66 rfl ?_
    refine H.iconst s0_67 (v := (1 : Int32)) (by decide) ?_
    refine H.icmpT s0_68 (show ¬ (1 : Int32) < (0 : Int32) by decide) ?_
    refine H.iloadN s0_78 rfl ?_
    refine H.iconst s0_79 (v := (2 : Int32)) (by decide) ?_
    refine H.icmpT s0_80 (show ¬ (2 : Int32) < (0 : Int32) by decide) ?_
    refine H.aload s0_90 rfl rfl ?_
    refine H.callVD s0_92 (k_11 hw) (a_5 l hw n0) (i := 4) rfl (argsL := []) (rest := []) rfl rfl rfl rfl (leb rfl) (leb rfl) (leb rfl) (leb rfl) (st' := [(.int (0 : Int32))]) rfl (k' := 5) rfl (n' := 23) rfl ?_
    refine H.iloadN s0_95 rfl ?_
    refine H.icmpF s0_96 (show (0 : Int32) = (0 : Int32) by decide) ?_
    refine H.iconst s0_99 (v := (1 : Int32)) (by decide) ?_
    refine H.goto s0_100 ?_
    refine H.istore s0_104 (ls' := #[.val (.int p0), .val (.int p1), .val (.int (0 : Int32)), .val (.ref (n0 + 0)), .val (.ref (n0 + 1)), .val (.ref (n0 + 2)), .val (.ref (n0 + 3)), .val (.ref (n0 + 4)), .val (.int (1 : Int32)), .unset, .unset, .unset, .unset, .unset, .unset]) rfl ?_
    refine H.iload s0_106 rfl ?_
    refine H.ifF s0_108 (show ¬ (1 : Int32) = (0 : Int32) by decide) ?_
    refine H.aload s0_111 rfl rfl ?_
    refine H.callVD s0_113 (k_13 hw) (a_6 l hw n0) (i := 4) rfl (argsL := []) (rest := []) rfl rfl rfl rfl (leb rfl) (leb rfl) (leb rfl) (leb rfl) (st' := [.null]) rfl (k' := 5) rfl (n' := 23) rfl ?_
    refine H.iloadN s0_116 rfl ?_
    refine H.ifT s0_117 (show ¬ (0 : Int32) < (0 : Int32) by decide) ?_
    refine H.aconstNull s0_124 ?_
    refine H.acmp s0_125 rfl rfl (same := true) (by simp) ?_
    show G 128 _ _ _ _ _
    refine H.iconst s0_128 (v := (1 : Int32)) (by decide) ?_
    refine H.goto s0_129 ?_
    refine H.istore s0_133 (ls' := #[.val (.int p0), .val (.int p1), .val (.int (0 : Int32)), .val (.ref (n0 + 0)), .val (.ref (n0 + 1)), .val (.ref (n0 + 2)), .val (.ref (n0 + 3)), .val (.ref (n0 + 4)), .val (.int (1 : Int32)), .unset, .unset, .unset, .unset, .unset, .unset]) rfl ?_
    refine H.iload s0_135 rfl ?_
    refine H.ifF s0_137 (show ¬ (1 : Int32) = (0 : Int32) by decide) ?_
    refine H.aloadN s0_140 rfl rfl ?_
    refine H.callVD s0_141 (k_15 hw) (a_7 l hw n0) (i := 0) rfl (argsL := []) (rest := []) rfl rfl rfl rfl (leb rfl) (leb rfl) (leb rfl) (leb rfl) (st' := [.null]) rfl (k' := 5) rfl (n' := 23) rfl ?_
    refine H.iloadN s0_144 rfl ?_
    refine H.iconst s0_145 (v := (1 : Int32)) (by decide) ?_
    refine H.icmpT s0_146 (show ¬ (1 : Int32) < (0 : Int32) by decide) ?_
    refine H.aconstNull s0_154 ?_
    refine H.acmp s0_155 rfl rfl (same := true) (by simp) ?_
    show G 158 _ _ _ _ _
    refine H.iconst s0_158 (v := (1 : Int32)) (by decide) ?_
    refine H.goto s0_159 ?_
    refine H.istore s0_163 (ls' := #[.val (.int p0), .val (.int p1), .val (.int (0 : Int32)), .val (.ref (n0 + 0)), .val (.ref (n0 + 1)), .val (.ref (n0 + 2)), .val (.ref (n0 + 3)), .val (.ref (n0 + 4)), .val (.int (1 : Int32)), .unset, .unset, .unset, .unset, .unset, .unset]) rfl ?_
    refine H.iload s0_165 rfl ?_
    refine H.ifF s0_167 (show ¬ (1 : Int32) = (0 : Int32) by decide) ?_
    refine H.aload s0_170 rfl rfl ?_
    refine H.callVD s0_172 (k_15 hw) (a_8 l hw n0) (i := 1) rfl (argsL := []) (rest := []) rfl rfl rfl rfl (leb rfl) (leb rfl) (leb rfl) (leb rfl) (st' := [.null]) rfl (k' := 5) rfl (n' := 23) rfl ?_
    refine H.iloadN s0_175 rfl ?_
    refine H.iconst s0_176 (v := (2 : Int32)) (by decide) ?_
    refine H.icmpT s0_177 (show ¬ (2 : Int32) < (0 : Int32) by decide) ?_
    refine H.aconstNull s0_185 ?_
    refine H.acmp s0_186 rfl rfl (same := true) (by simp) ?_
    show G 189 _ _ _ _ _
    refine H.iconst s0_189 (v := (1 : Int32)) (by decide) ?_
    refine H.goto s0_190 ?_
    refine H.istore s0_194 (ls' := #[.val (.int p0), .val (.int p1), .val (.int (0 : Int32)), .val (.ref (n0 + 0)), .val (.ref (n0 + 1)), .val (.ref (n0 + 2)), .val (.ref (n0 + 3)), .val (.ref (n0 + 4)), .val (.int (1 : Int32)), .unset, .unset, .unset, .unset, .unset, .unset]) rfl ?_
    refine H.iload s0_196 rfl ?_
    refine H.ifF s0_198 (show ¬ (1 : Int32) = (0 : Int32) by decide) ?_
    refine H.aload s0_201 rfl rfl ?_
    refine H.callVD s0_203 (k_15 hw) (a_9 l hw n0) (i := 2) rfl (argsL := []) (rest := []) rfl rfl rfl rfl (leb rfl) (leb rfl) (leb rfl) (leb rfl) (st' := [.null]) rfl (k' := 5) rfl (n' := 23) rfl ?_
    refine H.ifnonnullF s0_206 ?_
    refine H.iconst s0_209 (v := (1 : Int32)) (by decide) ?_
    refine H.goto s0_210 ?_
    refine H.istore s0_214 (ls' := #[.val (.int p0), .val (.int p1), .val (.int (0 : Int32)), .val (.ref (n0 + 0)), .val (.ref (n0 + 1)), .val (.ref (n0 + 2)), .val (.ref (n0 + 3)), .val (.ref (n0 + 4)), .val (.int (1 : Int32)), .unset, .unset, .unset, .unset, .unset, .unset]) rfl ?_
    refine H.iloadN s0_216 rfl ?_
    refine H.ifF s0_217 (show (0 : Int32) = (0 : Int32) by decide) ?_
    refine H.iload s0_220 rfl ?_
    exact H.ireturn s0_222 rfl (by simp) rfl rfl (by decide) (by decide)
  · refine H.iand s0_2 (w := (1 : Int32)) hz2 ?_
    refine H.istoreN s0_3 (ls' := #[.val (.int p0), .val (.int p1), .val (.int (1 : Int32)), .unset, .unset, .unset, .unset, .unset, .unset, .unset, .unset, .unset, .unset, .unset, .unset]) rfl ?_
    refine H.new s0_4 (k_0 hw) rfl (by decide) (by decide) (i := 0) rfl (A' := [.inl (0, [.null, .null, .null, .null])]) rfl (k' := 1) rfl (n' := 5) rfl ?_
    refine H.dup s0_7 rfl ?_
    refine H.aconstNull s0_8 ?_
    refine H.aconstNull s0_9 ?_
    refine H.callCD s0_10 (k_5 hw) (a_0 l hw n0) (argsL := [.null, .null]) (rest := [(.ref (n0 + 0))]) rfl rfl rfl rfl (leb rfl) (leb rfl) (leb rfl) (leb rfl) (st' := [(.ref (n0 + 0))]) rfl (k' := 1) rfl (n' := 5) rfl ?_
    refine H.astoreN s0_13 rfl (ls' := #[.val (.int p0), .val (.int p1), .val (.int (1 : Int32)), .val (.ref (n0 + 0)), .unset, .unset, .unset, .unset, .unset, .unset, .unset, .unset, .unset, .unset, .unset]) rfl ?_
    refine H.new s0_14 (k_0 hw) rfl (by decide) (by decide) (i := 1) rfl (A' := [.inl (0, [.null, .null, .null, .null]), .inl (0, [.null, .null, .null, .null])]) rfl (k' := 2) rfl (n' := 10) rfl ?_
    refine H.dup s0_17 rfl ?_
    refine H.aconstNull s0_18 ?_
    refine H.aconstNull s0_19 ?_
    refine H.callCD s0_20 (k_5 hw) (a_1 l hw n0) (argsL := [.null, .null]) (rest := [(.ref (n0 + 1))]) rfl rfl rfl rfl (leb rfl) (leb rfl) (leb rfl) (leb rfl) (st' := [(.ref (n0 + 1))]) rfl (k' := 2) rfl (n' := 10) rfl ?_
    refine H.astore s0_23 rfl (ls' := #[.val (.int p0), .val (.int p1), .val (.int (1 : Int32)), .val (.ref (n0 + 0)), .val (.ref (n0 + 1)), .unset, .unset, .unset, .unset, .unset, .unset, .unset, .unset, .unset, .unset]) rfl ?_
    refine H.new s0_25 (k_0 hw) rfl (by decide) (by decide) (i := 2) rfl (A' := [.inl (0, [.null, .null, .null, .null]), .inl (0, [.null, .null, .null, .null]), .inl (0, [.null, .null, .null, .null])]) rfl (k' := 3) rfl (n' := 15) rfl ?_
    refine H.dup s0_28 rfl ?_
    refine H.aconstNull s0_29 ?_
    refine H.aconstNull s0_30 ?_
    refine H.callCD s0_31 (k_5 hw) (a_2 l hw n0) (argsL := [.null, .null]) (rest := [(.ref (n0 + 2))]) rfl rfl rfl rfl (leb rfl) (leb rfl) (leb rfl) (leb rfl) (st' := [(.ref (n0 + 2))]) rfl (k' := 3) rfl (n' := 15) rfl ?_
    refine H.astore s0_34 rfl (ls' := #[.val (.int p0), .val (.int p1), .val (.int (1 : Int32)), .val (.ref (n0 + 0)), .val (.ref (n0 + 1)), .val (.ref (n0 + 2)), .unset, .unset, .unset, .unset, .unset, .unset, .unset, .unset, .unset]) rfl ?_
    refine H.new s0_36 (k_0 hw) rfl (by decide) (by decide) (i := 3) rfl (A' := [.inl (0, [.null, .null, .null, .null]), .inl (0, [.null, .null, .null, .null]), .inl (0, [.null, .null, .null, .null]), .inl (0, [.null, .null, .null, .null])]) rfl (k' := 4) rfl (n' := 20) rfl ?_
    refine H.dup s0_39 rfl ?_
    refine H.aconstNull s0_40 ?_
    refine H.aconstNull s0_41 ?_
    refine H.callCD s0_42 (k_5 hw) (a_3 l hw n0) (argsL := [.null, .null]) (rest := [(.ref (n0 + 3))]) rfl rfl rfl rfl (leb rfl) (leb rfl) (leb rfl) (leb rfl) (st' := [(.ref (n0 + 3))]) rfl (k' := 4) rfl (n' := 20) rfl ?_
    refine H.astore s0_45 rfl (ls' := #[.val (.int p0), .val (.int p1), .val (.int (1 : Int32)), .val (.ref (n0 + 0)), .val (.ref (n0 + 1)), .val (.ref (n0 + 2)), .val (.ref (n0 + 3)), .unset, .unset, .unset, .unset, .unset, .unset, .unset, .unset]) rfl ?_
    refine H.new s0_47 (k_6 hw) rfl (by decide) (by decide) (i := 4) rfl (A' := [.inl (0, [.null, .null, .null, .null]), .inl (0, [.null, .null, .null, .null]), .inl (0, [.null, .null, .null, .null]), .inl (0, [.null, .null, .null, .null]), .inl (1, [(.int (0 : Int32)), .null, .null])]) rfl (k' := 5) rfl (n' := 23) rfl ?_
    refine H.dup s0_50 rfl ?_
    refine H.callCD s0_51 (k_9 hw) (a_4 l hw n0) (argsL := []) (rest := [(.ref (n0 + 4))]) rfl rfl rfl rfl (leb rfl) (leb rfl) (leb rfl) (leb rfl) (st' := [(.ref (n0 + 4))]) rfl (k' := 5) rfl (n' := 23) rfl ?_
    refine H.astore s0_54 rfl (ls' := #[.val (.int p0), .val (.int p1), .val (.int (1 : Int32)), .val (.ref (n0 + 0)), .val (.ref (n0 + 1)), .val (.ref (n0 + 2)), .val (.ref (n0 + 3)), .val (.ref (n0 + 4)), .unset, .unset, .unset, .unset, .unset, .unset, .unset]) rfl ?_
    refine H.iloadN s0_56 rfl ?_
    refine H.ifF s0_57 (show (0 : Int32) < (1 : Int32) by decide) ?_
    refine H.aload s0_60 rfl rfl ?_
    refine H.aloadN s0_62 rfl rfl ?_
    refine H.callVD s0_63 (k_21 hw) (a_10 l hw n0) (i := 4) rfl (argsL := [(.ref (n0 + 0))]) (rest := []) rfl rfl rfl rfl (leb rfl) (leb rfl) (leb rfl) (leb rfl) (st' := []) rfl (k' := 5) rfl (n' := 23) rfl ?_
    refine H.iloadN s0_66 rfl ?_
    refine H.iconst s0_67 (v := (1 : Int32)) (by decide) ?_
    refine H.icmpT s0_68 (show ¬ (1 : Int32) < (1 : Int32) by decide) ?_
    refine H.iloadN s0_78 rfl ?_
    refine H.iconst s0_79 (v := (2 : Int32)) (by decide) ?_
    refine H.icmpT s0_80 (show ¬ (2 : Int32) < (1 : Int32) by decide) ?_
    refine H.aload s0_90 rfl rfl ?_
    refine H.callVD s0_92 (k_11 hw) (a_11 l hw n0) (i := 4) rfl (argsL := []) (rest := []) rfl rfl rfl rfl (leb rfl) (leb rfl) (leb rfl) (leb rfl) (st' := [(.int (1 : Int32))]) rfl (k' := 5) rfl (n' := 23) rfl ?_
    refine H.iloadN s0_95 rfl ?_
    refine H.icmpF s0_96 (show (1 : Int32) = (1 : Int32) by decide) ?_
    refine H.iconst s0_99 (v := (1 : Int32)) (by decide) ?_
    refine H.goto s0_100 ?_
    refine H.istore s0_104 (ls' := #[.val (.int p0), .val (.int p1), .val (.int (1 : Int32)), .val (.ref (n0 + 0)), .val (.ref (n0 + 1)), .val (.ref (n0 + 2)), .val (.ref (n0 + 3)), .val (.ref (n0 + 4)), .val (.int (1 : Int32)), .unset, .unset, .unset, .unset, .unset, .unset]) rfl ?_
    refine H.iload s0_106 rfl ?_
    refine H.ifF s0_108 (show ¬ (1 : Int32) = (0 : Int32) by decide) ?_
    refine H.aload s0_111 rfl rfl ?_
    refine H.callVD s0_113 (k_13 hw) (a_12 l hw n0) (i := 4) rfl (argsL := []) (rest := []) rfl rfl rfl rfl (leb rfl) (leb rfl) (leb rfl) (leb rfl) (st' := [(.ref (n0 + 0))]) rfl (k' := 5) rfl (n' := 23) rfl ?_
    refine H.iloadN s0_116 rfl ?_
    refine H.ifF s0_117 (show (0 : Int32) < (1 : Int32) by decide) ?_
    refine H.aloadN s0_120 rfl rfl ?_
    refine H.goto s0_121 ?_
    refine H.acmp s0_125 rfl rfl (same := true) (by simp) ?_
    show G 128 _ _ _ _ _
    refine H.iconst s0_128 (v := (1 : Int32)) (by decide) ?_
    refine H.goto s0_129 ?_
    refine H.istore s0_133 (ls' := #[.val (.int p0), .val (.int p1), .val (.int (1 : Int32)), .val (.ref (n0 + 0)), .val (.ref (n0 + 1)), .val (.ref (n0 + 2)), .val (.ref (n0 + 3)), .val (.ref (n0 + 4)), .val (.int (1 : Int32)), .unset, .unset, .unset, .unset, .unset, .unset]) rfl ?_
    refine H.iload s0_135 rfl ?_
    refine H.ifF s0_137 (show ¬ (1 : Int32) = (0 : Int32) by decide) ?_
    refine H.aloadN s0_140 rfl rfl ?_
    refine H.callVD s0_141 (k_15 hw) (a_13 l hw n0) (i := 0) rfl (argsL := []) (rest := []) rfl rfl rfl rfl (leb rfl) (leb rfl) (leb rfl) (leb rfl) (st' := [.null]) rfl (k' := 5) rfl (n' := 23) rfl ?_
    refine H.iloadN s0_144 rfl ?_
    refine H.iconst s0_145 (v := (1 : Int32)) (by decide) ?_
    refine H.icmpT s0_146 (show ¬ (1 : Int32) < (1 : Int32) by decide) ?_
    refine H.aconstNull s0_154 ?_
    refine H.acmp s0_155 rfl rfl (same := true) (by simp) ?_
    show G 158 _ _ _ _ _
    refine H.iconst s0_158 (v := (1 : Int32)) (by decide) ?_
    refine H.goto s0_159 ?_
    refine H.istore s0_163 (ls' := #[.val (.int p0), .val (.int p1), .val (.int (1 : Int32)), .val (.ref (n0 + 0)), .val (.ref (n0 + 1)), .val (.ref (n0 + 2)), .val (.ref (n0 + 3)), .val (.ref (n0 + 4)), .val (.int (1 : Int32)), .unset, .unset, .unset, .unset, .unset, .unset]) rfl ?_
    refine H.iload s0_165 rfl ?_
    refine H.ifF s0_167 (show ¬ (1 : Int32) = (0 : Int32) by decide) ?_
    refine H.aload s0_170 rfl rfl ?_
    refine H.callVD s0_172 (k_15 hw) (a_14 l hw n0) (i := 1) rfl (argsL := []) (rest := []) rfl rfl rfl rfl (leb rfl) (leb rfl) (leb rfl) (leb rfl) (st' := [.null]) rfl (k' := 5) rfl (n' := 23) rfl ?_
    refine H.iloadN s0_175 rfl ?_
    refine H.iconst s0_176 (v := (2 : Int32)) (by decide) ?_
    refine H.icmpT s0_177 (show ¬ (2 : Int32) < (1 : Int32) by decide) ?_
    refine H.aconstNull s0_185 ?_
    refine H.acmp s0_186 rfl rfl (same := true) (by simp) ?_
    show G 189 _ _ _ _ _
    refine H.iconst s0_189 (v := (1 : Int32)) (by decide) ?_
    refine H.goto s0_190 ?_
    refine H.istore s0_194 (ls' := #[.val (.int p0), .val (.int p1), .val (.int (1 : Int32)), .val (.ref (n0 + 0)), .val (.ref (n0 + 1)), .val (.ref (n0 + 2)), .val (.ref (n0 + 3)), .val (.ref (n0 + 4)), .val (.int (1 : Int32)), .unset, .unset, .unset, .unset, .unset, .unset]) rfl ?_
    refine H.iload s0_196 rfl ?_
    refine H.ifF s0_198 (show ¬ (1 : Int32) = (0 : Int32) by decide) ?_
    refine H.aload s0_201 rfl rfl ?_
    refine H.callVD s0_203 (k_15 hw) (a_15 l hw n0) (i := 2) rfl (argsL := []) (rest := []) rfl rfl rfl rfl (leb rfl) (leb rfl) (leb rfl) (leb rfl) (st' := [.null]) rfl (k' := 5) rfl (n' := 23) rfl ?_
    refine H.ifnonnullF s0_206 ?_
    refine H.iconst s0_209 (v := (1 : Int32)) (by decide) ?_
    refine H.goto s0_210 ?_
    refine H.istore s0_214 (ls' := #[.val (.int p0), .val (.int p1), .val (.int (1 : Int32)), .val (.ref (n0 + 0)), .val (.ref (n0 + 1)), .val (.ref (n0 + 2)), .val (.ref (n0 + 3)), .val (.ref (n0 + 4)), .val (.int (1 : Int32)), .unset, .unset, .unset, .unset, .unset, .unset]) rfl ?_
    refine H.iloadN s0_216 rfl ?_
    refine H.ifT s0_217 (show ¬ (1 : Int32) = (0 : Int32) by decide) ?_
    refine H.iloadN s0_223 rfl ?_
    refine H.ldc s0_224 (k_22 hw) ?_
    refine H.iand s0_226 rfl ?_
    refine H.iloadN s0_227 rfl ?_
    have hz228 := own_rem1 p1
    refine H.irem s0_228 (by decide) (w := (0 : Int32)) hz228 ?_
    refine H.istore s0_229 (ls' := #[.val (.int p0), .val (.int p1), .val (.int (1 : Int32)), .val (.ref (n0 + 0)), .val (.ref (n0 + 1)), .val (.ref (n0 + 2)), .val (.ref (n0 + 3)), .val (.ref (n0 + 4)), .val (.int (1 : Int32)), .val (.int (0 : Int32)), .unset, .unset, .unset, .unset, .unset]) rfl ?_
    refine H.iload s0_231 rfl ?_
    refine H.ifF s0_233 (show (0 : Int32) = (0 : Int32) by decide) ?_
    refine H.aloadN s0_236 rfl rfl ?_
    refine H.goto s0_237 ?_
    refine H.astore s0_253 rfl (ls' := #[.val (.int p0), .val (.int p1), .val (.int (1 : Int32)), .val (.ref (n0 + 0)), .val (.ref (n0 + 1)), .val (.ref (n0 + 2)), .val (.ref (n0 + 3)), .val (.ref (n0 + 4)), .val (.int (1 : Int32)), .val (.int (0 : Int32)), .val (.ref (n0 + 0)), .unset, .unset, .unset, .unset]) rfl ?_
    refine H.iload s0_255 rfl ?_
    refine H.iconst s0_257 (v := (1 : Int32)) (by decide) ?_
    refine H.iadd s0_258 (w := (1 : Int32)) (by decide) ?_
    refine H.iloadN s0_259 rfl ?_
    refine H.icmpT s0_260 (show ¬ (1 : Int32) < (1 : Int32) by decide) ?_
    refine H.aconstNull s0_278 ?_
    refine H.astore s0_279 rfl (ls' := #[.val (.int p0), .val (.int p1), .val (.int (1 : Int32)), .val (.ref (n0 + 0)), .val (.ref (n0 + 1)), .val (.ref (n0 + 2)), .val (.ref (n0 + 3)), .val (.ref (n0 + 4)), .val (.int (1 : Int32)), .val (.int (0 : Int32)), .val (.ref (n0 + 0)), .val .null, .unset, .unset, .unset]) rfl ?_
    refine H.aload s0_281 rfl rfl ?_
    refine H.aload s0_283 rfl rfl ?_
    refine H.callVD s0_285 (k_28 hw) (a_16 l hw n0) (i := 4) rfl (argsL := [(.ref (n0 + 0))]) (rest := []) rfl rfl rfl rfl (leb rfl) (leb rfl) (leb rfl) (leb rfl) (st' := []) rfl (k' := 5) rfl (n' := 23) rfl ?_
    refine H.aload s0_288 rfl rfl ?_
    refine H.aload s0_290 rfl rfl ?_
    refine H.callVD s0_292 (k_21 hw) (a_17 l hw n0) (i := 4) rfl (argsL := [(.ref (n0 + 3))]) (rest := []) rfl rfl rfl rfl (leb rfl) (leb rfl) (leb rfl) (leb rfl) (st' := []) rfl (k' := 5) rfl (n' := 23) rfl ?_
    refine H.iloadN s0_295 rfl ?_
    refine H.iconst s0_296 (v := (1 : Int32)) (by decide) ?_
    refine H.isub s0_297 (w := (0 : Int32)) (by decide) ?_
    refine H.istore s0_298 (ls' := #[.val (.int p0), .val (.int p1), .val (.int (1 : Int32)), .val (.ref (n0 + 0)), .val (.ref (n0 + 1)), .val (.ref (n0 + 2)), .val (.ref (n0 + 3)), .val (.ref (n0 + 4)), .val (.int (1 : Int32)), .val (.int (0 : Int32)), .val (.ref (n0 + 0)), .val .null, .val (.int (0 : Int32)), .unset, .unset]) rfl ?_
    refine H.iload s0_300 rfl ?_
    refine H.ifF s0_302 (show (0 : Int32) = (0 : Int32) by decide) ?_
    refine H.aload s0_305 rfl rfl ?_
    refine H.goto s0_307 ?_
    refine H.astore s0_311 rfl (ls' := #[.val (.int p0), .val (.int p1), .val (.int (1 : Int32)), .val (.ref (n0 + 0)), .val (.ref (n0 + 1)), .val (.ref (n0 + 2)), .val (.ref (n0 + 3)), .val (.ref (n0 + 4)), .val (.int (1 : Int32)), .val (.int (0 : Int32)), .val (.ref (n0 + 0)), .val .null, .val (.int (0 : Int32)), .val (.ref (n0 + 1)), .unset]) rfl ?_
    refine H.iload s0_313 rfl ?_
    refine H.iconst s0_315 (v := (1 : Int32)) (by decide) ?_
    refine H.icmpF s0_316 (show ¬ (1 : Int32) < (0 : Int32) by decide) ?_
    refine H.aload s0_319 rfl rfl ?_
    refine H.goto s0_321 ?_
    refine H.astore s0_326 rfl (ls' := #[.val (.int p0), .val (.int p1), .val (.int (1 : Int32)), .val (.ref (n0 + 0)), .val (.ref (n0 + 1)), .val (.ref (n0 + 2)), .val (.ref (n0 + 3)), .val (.ref (n0 + 4)), .val (.int (1 : Int32)), .val (.int (0 : Int32)), .val (.ref (n0 + 0)), .val .null, .val (.int (0 : Int32)), .val (.ref (n0 + 1)), .val (.ref (n0 + 2))]) rfl ?_
    refine H.iload s0_328 rfl ?_
    refine H.ifF s0_330 (show ¬ (1 : Int32) = (0 : Int32) by decide) ?_
    refine H.aload s0_333 rfl rfl ?_
    refine H.callVD s0_335 (k_11 hw) (a_18 l hw n0) (i := 4) rfl (argsL := []) (rest := []) rfl rfl rfl rfl (leb rfl) (leb rfl) (leb rfl) (leb rfl) (st' := [(.int (1 : Int32))]) rfl (k' := 5) rfl (n' := 23) rfl ?_
    refine H.iloadN s0_338 rfl ?_
    refine H.icmpF s0_339 (show (1 : Int32) = (1 : Int32) by decide) ?_
    refine H.iconst s0_342 (v := (1 : Int32)) (by decide) ?_
    refine H.goto s0_343 ?_
    refine H.istore s0_347 (ls' := #[.val (.int p0), .val (.int p1), .val (.int (1 : Int32)), .val (.ref (n0 + 0)), .val (.ref (n0 + 1)), .val (.ref (n0 + 2)), .val (.ref (n0 + 3)), .val (.ref (n0 + 4)), .val (.int (1 : Int32)), .val (.int (0 : Int32)), .val (.ref (n0 + 0)), .val .null, .val (.int (0 : Int32)), .val (.ref (n0 + 1)), .val (.ref (n0 + 2))]) rfl ?_
    refine H.iload s0_349 rfl ?_
    refine H.ifF s0_351 (show ¬ (1 : Int32) = (0 : Int32) by decide) ?_
    refine H.aload s0_354 rfl rfl ?_
    refine H.callVD s0_356 (k_13 hw) (a_19 l hw n0) (i := 4) rfl (argsL := []) (rest := []) rfl rfl rfl rfl (leb rfl) (leb rfl) (leb rfl) (leb rfl) (st' := [(.ref (n0 + 3))]) rfl (k' := 5) rfl (n' := 23) rfl ?_
    refine H.iload s0_359 rfl ?_
    refine H.ifT s0_361 (show ¬ (0 : Int32) < (0 : Int32) by decide) ?_
    refine H.aload s0_369 rfl rfl ?_
    refine H.acmp s0_371 rfl rfl (same := true) (by simp) ?_
    show G 374 _ _ _ _ _
    refine H.iconst s0_374 (v := (1 : Int32)) (by decide) ?_
    refine H.goto s0_375 ?_
    refine H.istore s0_379 (ls' := #[.val (.int p0), .val (.int p1), .val (.int (1 : Int32)), .val (.ref (n0 + 0)), .val (.ref (n0 + 1)), .val (.ref (n0 + 2)), .val (.ref (n0 + 3)), .val (.ref (n0 + 4)), .val (.int (1 : Int32)), .val (.int (0 : Int32)), .val (.ref (n0 + 0)), .val .null, .val (.int (0 : Int32)), .val (.ref (n0 + 1)), .val (.ref (n0 + 2))]) rfl ?_
    refine H.iload s0_381 rfl ?_
    refine H.iconst s0_383 (v := (1 : Int32)) (by decide) ?_
    refine H.icmpT s0_384 (show (0 : Int32) < (1 : Int32) by decide) ?_
    refine H.iload s0_420 rfl ?_
    refine H.iconst s0_422 (v := (2 : Int32)) (by decide) ?_
    refine H.icmpT s0_423 (show (0 : Int32) < (2 : Int32) by decide) ?_
    refine H.iload s0_448 rfl ?_
    refine H.ifF s0_450 (show ¬ (1 : Int32) = (0 : Int32) by decide) ?_
    refine H.aload s0_453 rfl rfl ?_
    refine H.callVD s0_455 (k_15 hw) (a_20 l hw n0) (i := 3) rfl (argsL := []) (rest := []) rfl rfl rfl rfl (leb rfl) (leb rfl) (leb rfl) (leb rfl) (st' := [.null]) rfl (k' := 5) rfl (n' := 23) rfl ?_
    refine H.ifnonnullF s0_458 ?_
    refine H.iconst s0_461 (v := (1 : Int32)) (by decide) ?_
    refine H.goto s0_462 ?_
    refine H.istore s0_466 (ls' := #[.val (.int p0), .val (.int p1), .val (.int (1 : Int32)), .val (.ref (n0 + 0)), .val (.ref (n0 + 1)), .val (.ref (n0 + 2)), .val (.ref (n0 + 3)), .val (.ref (n0 + 4)), .val (.int (1 : Int32)), .val (.int (0 : Int32)), .val (.ref (n0 + 0)), .val .null, .val (.int (0 : Int32)), .val (.ref (n0 + 1)), .val (.ref (n0 + 2))]) rfl ?_
    refine H.iload s0_468 rfl ?_
    refine H.ifF s0_470 (show ¬ (1 : Int32) = (0 : Int32) by decide) ?_
    refine H.aload s0_473 rfl rfl ?_
    refine H.callVD s0_475 (k_15 hw) (a_21 l hw n0) (i := 0) rfl (argsL := []) (rest := []) rfl rfl rfl rfl (leb rfl) (leb rfl) (leb rfl) (leb rfl) (st' := [.null]) rfl (k' := 5) rfl (n' := 23) rfl ?_
    refine H.aload s0_478 rfl rfl ?_
    refine H.acmp s0_480 rfl rfl (same := true) (by simp) ?_
    show G 483 _ _ _ _ _
    refine H.iconst s0_483 (v := (1 : Int32)) (by decide) ?_
    refine H.goto s0_484 ?_
    refine H.istore s0_488 (ls' := #[.val (.int p0), .val (.int p1), .val (.int (1 : Int32)), .val (.ref (n0 + 0)), .val (.ref (n0 + 1)), .val (.ref (n0 + 2)), .val (.ref (n0 + 3)), .val (.ref (n0 + 4)), .val (.int (1 : Int32)), .val (.int (0 : Int32)), .val (.ref (n0 + 0)), .val .null, .val (.int (0 : Int32)), .val (.ref (n0 + 1)), .val (.ref (n0 + 2))]) rfl ?_
    refine H.iload s0_490 rfl ?_
    exact H.ireturn s0_492 rfl (by simp) rfl rfl (by decide) (by decide)
  · refine H.iand s0_2 (w := (2 : Int32)) hz2 ?_
    refine H.istoreN s0_3 (ls' := #[.val (.int p0), .val (.int p1), .val (.int (2 : Int32)), .unset, .unset, .unset, .unset, .unset, .unset, .unset, .unset, .unset, .unset, .unset, .unset]) rfl ?_
    refine H.new s0_4 (k_0 hw) rfl (by decide) (by decide) (i := 0) rfl (A' := [.inl (0, [.null, .null, .null, .null])]) rfl (k' := 1) rfl (n' := 5) rfl ?_
    refine H.dup s0_7 rfl ?_
    refine H.aconstNull s0_8 ?_
    refine H.aconstNull s0_9 ?_
    refine H.callCD s0_10 (k_5 hw) (a_0 l hw n0) (argsL := [.null, .null]) (rest := [(.ref (n0 + 0))]) rfl rfl rfl rfl (leb rfl) (leb rfl) (leb rfl) (leb rfl) (st' := [(.ref (n0 + 0))]) rfl (k' := 1) rfl (n' := 5) rfl ?_
    refine H.astoreN s0_13 rfl (ls' := #[.val (.int p0), .val (.int p1), .val (.int (2 : Int32)), .val (.ref (n0 + 0)), .unset, .unset, .unset, .unset, .unset, .unset, .unset, .unset, .unset, .unset, .unset]) rfl ?_
    refine H.new s0_14 (k_0 hw) rfl (by decide) (by decide) (i := 1) rfl (A' := [.inl (0, [.null, .null, .null, .null]), .inl (0, [.null, .null, .null, .null])]) rfl (k' := 2) rfl (n' := 10) rfl ?_
    refine H.dup s0_17 rfl ?_
    refine H.aconstNull s0_18 ?_
    refine H.aconstNull s0_19 ?_
    refine H.callCD s0_20 (k_5 hw) (a_1 l hw n0) (argsL := [.null, .null]) (rest := [(.ref (n0 + 1))]) rfl rfl rfl rfl (leb rfl) (leb rfl) (leb rfl) (leb rfl) (st' := [(.ref (n0 + 1))]) rfl (k' := 2) rfl (n' := 10) rfl ?_
    refine H.astore s0_23 rfl (ls' := #[.val (.int p0), .val (.int p1), .val (.int (2 : Int32)), .val (.ref (n0 + 0)), .val (.ref (n0 + 1)), .unset, .unset, .unset, .unset, .unset, .unset, .unset, .unset, .unset, .unset]) rfl ?_
    refine H.new s0_25 (k_0 hw) rfl (by decide) (by decide) (i := 2) rfl (A' := [.inl (0, [.null, .null, .null, .null]), .inl (0, [.null, .null, .null, .null]), .inl (0, [.null, .null, .null, .null])]) rfl (k' := 3) rfl (n' := 15) rfl ?_
    refine H.dup s0_28 rfl ?_
    refine H.aconstNull s0_29 ?_
    refine H.aconstNull s0_30 ?_
    refine H.callCD s0_31 (k_5 hw) (a_2 l hw n0) (argsL := [.null, .null]) (rest := [(.ref (n0 + 2))]) rfl rfl rfl rfl (leb rfl) (leb rfl) (leb rfl) (leb rfl) (st' := [(.ref (n0 + 2))]) rfl (k' := 3) rfl (n' := 15) rfl ?_
    refine H.astore s0_34 rfl (ls' := #[.val (.int p0), .val (.int p1), .val (.int (2 : Int32)), .val (.ref (n0 + 0)), .val (.ref (n0 + 1)), .val (.ref (n0 + 2)), .unset, .unset, .unset, .unset, .unset, .unset, .unset, .unset, .unset]) rfl ?_
    refine H.new s0_36 (k_0 hw) rfl (by decide) (by decide) (i := 3) rfl (A' := [.inl (0, [.null, .null, .null, .null]), .inl (0, [.null, .null, .null, .null]), .inl (0, [.null, .null, .null, .null]), .inl (0, [.null, .null, .null, .null])]) rfl (k' := 4) rfl (n' := 20) rfl ?_
    refine H.dup s0_39 rfl ?_
    refine H.aconstNull s0_40 ?_
    refine H.aconstNull s0_41 ?_
    refine H.callCD s0_42 (k_5 hw) (a_3 l hw n0) (argsL := [.null, .null]) (rest := [(.ref (n0 + 3))]) rfl rfl rfl rfl (leb rfl) (leb rfl) (leb rfl) (leb rfl) (st' := [(.ref (n0 + 3))]) rfl (k' := 4) rfl (n' := 20) rfl ?_
    refine H.astore s0_45 rfl (ls' := #[.val (.int p0), .val (.int p1), .val (.int (2 : Int32)), .val (.ref (n0 + 0)), .val (.ref (n0 + 1)), .val (.ref (n0 + 2)), .val (.ref (n0 + 3)), .unset, .unset, .unset, .unset, .unset, .unset, .unset, .unset]) rfl ?_
    refine H.new s0_47 (k_6 hw) rfl (by decide) (by decide) (i := 4) rfl (A' := [.inl (0, [.null, .null, .null, .null]), .inl (0, [.null, .null, .null, .null]), .inl (0, [.null, .null, .null, .null]), .inl (0, [.null, .null, .null, .null]), .inl (1, [(.int (0 : Int32)), .null, .null])]) rfl (k' := 5) rfl (n' := 23) rfl ?_
    refine H.dup s0_50 rfl ?_
    refine H.callCD s0_51 (k_9 hw) (a_4 l hw n0) (argsL := []) (rest := [(.ref (n0 + 4))]) rfl rfl rfl rfl (leb rfl) (leb rfl) (leb rfl) (leb rfl) (st' := [(.ref (n0 + 4))]) rfl (k' := 5) rfl (n' := 23) rfl ?_
    refine H.astore s0_54 rfl (ls' := #[.val (.int p0), .val (.int p1), .val (.int (2 : Int32)), .val (.ref (n0 + 0)), .val (.ref (n0 + 1)), .val (.ref (n0 + 2)), .val (.ref (n0 + 3)), .val (.ref (n0 + 4)), .unset, .unset, .unset, .unset, .unset, .unset, .unset]) rfl ?_
    refine H.iloadN s0_56 rfl ?_
    refine H.ifF s0_57 (show (0 : Int32) < (2 : Int32) by decide) ?_
    refine H.aload s0_60 rfl rfl ?_
    refine H.aloadN s0_62 rfl rfl ?_
    refine H.callVD s0_63 (k_21 hw) (a_10 l hw n0) (i := 4) rfl (argsL := [(.ref (n0 + 0))]) (rest := []) rfl rfl rfl rfl (leb rfl) (leb rfl) (leb rfl) (leb rfl) (st' := []) rfl (k' := 5) rfl (n' := 23) rfl ?_
    refine H.iloadN s0_66 rfl ?_
    refine H.iconst s0_67 (v := (1 : Int32)) (by decide) ?_
    refine H.icmpF s0_68 (show (1 : Int32) < (2 : Int32) by decide) ?_
    refine H.aload s0_71 rfl rfl ?_
    refine H.aload s0_73 rfl rfl ?_
    refine H.callVD s0_75 (k_21 hw) (a_22 l hw n0) (i := 4) rfl (argsL := [(.ref (n0 + 1))]) (rest := []) rfl rfl rfl rfl (leb rfl) (leb rfl) (leb rfl) (leb rfl) (st' := []) rfl (k' := 5) rfl (n' := 23) rfl ?_
    refine H.iloadN s0_78 rfl ?_
    refine H.iconst s0_79 (v := (2 : Int32)) (by decide) ?_
    refine H.icmpT s0_80 (show ¬ (2 : Int32) < (2 : Int32) by decide) ?_
    refine H.aload s0_90 rfl rfl ?_
    refine H.callVD s0_92 (k_11 hw) (a_23 l hw n0) (i := 4) rfl (argsL := []) (rest := []) rfl rfl rfl rfl (leb rfl) (leb rfl) (leb rfl) (leb rfl) (st' := [(.int (2 : Int32))]) rfl (k' := 5) rfl (n' := 23) rfl ?_
    refine H.iloadN s0_95 rfl ?_
    refine H.icmpF s0_96 (show (2 : Int32) = (2 : Int32) by decide) ?_
    refine H.iconst s0_99 (v := (1 : Int32)) (by decide) ?_
    refine H.goto s0_100 ?_
    refine H.istore s0_104 (ls' := #[.val (.int p0), .val (.int p1), .val (.int (2 : Int32)), .val (.ref (n0 + 0)), .val (.ref (n0 + 1)), .val (.ref (n0 + 2)), .val (.ref (n0 + 3)), .val (.ref (n0 + 4)), .val (.int (1 : Int32)), .unset, .unset, .unset, .unset, .unset, .unset]) rfl ?_
    refine H.iload s0_106 rfl ?_
    refine H.ifF s0_108 (show ¬ (1 : Int32) = (0 : Int32) by decide) ?_
    refine H.aload s0_111 rfl rfl ?_
    refine H.callVD s0_113 (k_13 hw) (a_24 l hw n0) (i := 4) rfl (argsL := []) (rest := []) rfl rfl rfl rfl (leb rfl) (leb rfl) (leb rfl) (leb rfl) (st' := [(.ref (n0 + 0))]) rfl (k' := 5) rfl (n' := 23) rfl ?_
    refine H.iloadN s0_116 rfl ?_
    refine H.ifF s0_117 (show (0 : Int32) < (2 : Int32) by decide) ?_
    refine H.aloadN s0_120 rfl rfl ?_
    refine H.goto s0_121 ?_
    refine H.acmp s0_125 rfl rfl (same := true) (by simp) ?_
    show G 128 _ _ _ _ _
    refine H.iconst s0_128 (v := (1 : Int32)) (by decide) ?_
    refine H.goto s0_129 ?_
    refine H.istore s0_133 (ls' := #[.val (.int p0), .val (.int p1), .val (.int (2 : Int32)), .val (.ref (n0 + 0)), .val (.ref (n0 + 1)), .val (.ref (n0 + 2)), .val (.ref (n0 + 3)), .val (.ref (n0 + 4)), .val (.int (1 : Int32)), .unset, .unset, .unset, .unset, .unset, .unset]) rfl ?_
    refine H.iload s0_135 rfl ?_
    refine H.ifF s0_137 (show ¬ (1 : Int32) = (0 : Int32) by decide) ?_
    refine H.aloadN s0_140 rfl rfl ?_
    refine H.callVD s0_141 (k_15 hw) (a_25 l hw n0) (i := 0) rfl (argsL := []) (rest := []) rfl rfl rfl rfl (leb rfl) (leb rfl) (leb rfl) (leb rfl) (st' := [(.ref (n0 + 1))]) rfl (k' := 5) rfl (n' := 23) rfl ?_
    refine H.iloadN s0_144 rfl ?_
    refine H.iconst s0_145 (v := (1 : Int32)) (by decide) ?_
    refine H.icmpF s0_146 (show (1 : Int32) < (2 : Int32) by decide) ?_
    refine H.aload s0_149 rfl rfl ?_
    refine H.goto s0_151 ?_
    refine H.acmp s0_155 rfl rfl (same := true) (by simp) ?_
    show G 158 _ _ _ _ _
    refine H.iconst s0_158 (v := (1 : Int32)) (by decide) ?_
    refine H.goto s0_159 ?_
    refine H.istore s0_163 (ls' := #[.val (.int p0), .val (.int p1), .val (.int (2 : Int32)), .val (.ref (n0 + 0)), .val (.ref (n0 + 1)), .val (.ref (n0 + 2)), .val (.ref (n0 + 3)), .val (.ref (n0 + 4)), .val (.int (1 : Int32)), .unset, .unset, .unset, .unset, .unset, .unset]) rfl ?_
    refine H.iload s0_165 rfl ?_
    refine H.ifF s0_167 (show ¬ (1 : Int32) = (0 : Int32) by decide) ?_
    refine H.aload s0_170 rfl rfl ?_
    refine H.callVD s0_172 (k_15 hw) (a_26 l hw n0) (i := 1) rfl (argsL := []) (rest := []) rfl rfl rfl rfl (leb rfl) (leb rfl) (leb rfl) (leb rfl) (st' := [.null]) rfl (k' := 5) rfl (n' := 23) rfl ?_
    refine H.iloadN s0_175 rfl ?_
    refine H.iconst s0_176 (v := (2 : Int32)) (by decide) ?_
    refine H.icmpT s0_177 (show ¬ (2 : Int32) < (2 : Int32) by decide) ?_
    refine H.aconstNull s0_185 ?_
    refine H.acmp s0_186 rfl rfl (same := true) (by simp) ?_
    show G 189 _ _ _ _ _
    refine H.iconst s0_189 (v := (1 : Int32)) (by decide) ?_
    refine H.goto s0_190 ?_
    refine H.istore s0_194 (ls' := #[.val (.int p0), .val (.int p1), .val (.int (2 : Int32)), .val (.ref (n0 + 0)), .val (.ref (n0 + 1)), .val (.ref (n0 + 2)), .val (.ref (n0 + 3)), .val (.ref (n0 + 4)), .val (.int (1 : Int32)), .unset, .unset, .unset, .unset, .unset, .unset]) rfl ?_
    refine H.iload s0_196 rfl ?_
    refine H.ifF s0_198 (show ¬ (1 : Int32) = (0 : Int32) by decide) ?_
    refine H.aload s0_201 rfl rfl ?_
    refine H.callVD s0_203 (k_15 hw) (a_27 l hw n0) (i := 2) rfl (argsL := []) (rest := []) rfl rfl rfl rfl (leb rfl) (leb rfl) (leb rfl) (leb rfl) (st' := [.null]) rfl (k' := 5) rfl (n' := 23) rfl ?_
    refine H.ifnonnullF s0_206 ?_
    refine H.iconst s0_209 (v := (1 : Int32)) (by decide) ?_
    refine H.goto s0_210 ?_
    refine H.istore s0_214 (ls' := #[.val (.int p0), .val (.int p1), .val (.int (2 : Int32)), .val (.ref (n0 + 0)), .val (.ref (n0 + 1)), .val (.ref (n0 + 2)), .val (.ref (n0 + 3)), .val (.ref (n0 + 4)), .val (.int (1 : Int32)), .unset, .unset, .unset, .unset, .unset, .unset]) rfl ?_
    refine H.iloadN s0_216 rfl ?_
    refine H.ifT s0_217 (show ¬ (2 : Int32) = (0 : Int32) by decide) ?_
    refine H.iloadN s0_223 rfl ?_
    refine H.ldc s0_224 (k_22 hw) ?_
    refine H.iand s0_226 rfl ?_
    refine H.iloadN s0_227 rfl ?_
    rcases own_rem2 p1 with hz228 | hz228
    · refine H.irem s0_228 (by decide) (w := (0 : Int32)) hz228 ?_
      refine H.istore s0_229 (ls' := #[.val (.int p0), .val (.int p1), .val (.int (2 : Int32)), .val (.ref (n0 + 0)), .val (.ref (n0 + 1)), .val (.ref (n0 + 2)), .val (.ref (n0 + 3)), .val (.ref (n0 + 4)), .val (.int (1 : Int32)), .val (.int (0 : Int32)), .unset, .unset, .unset, .unset, .unset]) rfl ?_
      refine H.iload s0_231 rfl ?_
      refine H.ifF s0_233 (show (0 : Int32) = (0 : Int32) by decide) ?_
      refine H.aloadN s0_236 rfl rfl ?_
      refine H.goto s0_237 ?_
      refine H.astore s0_253 rfl (ls' := #[.val (.int p0), .val (.int p1), .val (.int (2 : Int32)), .val (.ref (n0 + 0)), .val (.ref (n0 + 1)), .val (.ref (n0 + 2)), .val (.ref (n0 + 3)), .val (.ref (n0 + 4)), .val (.int (1 : Int32)), .val (.int (0 : Int32)), .val (.ref (n0 + 0)), .unset, .unset, .unset, .unset]) rfl ?_
      refine H.iload s0_255 rfl ?_
      refine H.iconst s0_257 (v := (1 : Int32)) (by decide) ?_
      refine H.iadd s0_258 (w := (1 : Int32)) (by decide) ?_
      refine H.iloadN s0_259 rfl ?_
      refine H.icmpF s0_260 (show (1 : Int32) < (2 : Int32) by decide) ?_
      refine H.iload s0_263 rfl ?_
      refine H.ifF s0_265 (show (0 : Int32) = (0 : Int32) by decide) ?_
      refine H.aload s0_268 rfl rfl ?_
      refine H.goto s0_270 ?_
      refine H.astore s0_279 rfl (ls' := #[.val (.int p0), .val (.int p1), .val (.int (2 : Int32)), .val (.ref (n0 + 0)), .val (.ref (n0 + 1)), .val (.ref (n0 + 2)), .val (.ref (n0 + 3)), .val (.ref (n0 + 4)), .val (.int (1 : Int32)), .val (.int (0 : Int32)), .val (.ref (n0 + 0)), .val (.ref (n0 + 1)), .unset, .unset, .unset]) rfl ?_
      refine H.aload s0_281 rfl rfl ?_
      refine H.aload s0_283 rfl rfl ?_
      refine H.callVD s0_285 (k_28 hw) (a_28 l hw n0) (i := 4) rfl (argsL := [(.ref (n0 + 0))]) (rest := []) rfl rfl rfl rfl (leb rfl) (leb rfl) (leb rfl) (leb rfl) (st' := []) rfl (k' := 5) rfl (n' := 23) rfl ?_
      refine H.aload s0_288 rfl rfl ?_
      refine H.aload s0_290 rfl rfl ?_
      refine H.callVD s0_292 (k_21 hw) (a_29 l hw n0) (i := 4) rfl (argsL := [(.ref (n0 + 3))]) (rest := []) rfl rfl rfl rfl (leb rfl) (leb rfl) (leb rfl) (leb rfl) (st' := []) rfl (k' := 5) rfl (n' := 23) rfl ?_
      refine H.iloadN s0_295 rfl ?_
      refine H.iconst s0_296 (v := (1 : Int32)) (by decide) ?_
      refine H.isub s0_297 (w := (1 : Int32)) (by decide) ?_
      refine H.istore s0_298 (ls' := #[.val (.int p0), .val (.int p1), .val (.int (2 : Int32)), .val (.ref (n0 + 0)), .val (.ref (n0 + 1)), .val (.ref (n0 + 2)), .val (.ref (n0 + 3)), .val (.ref (n0 + 4)), .val (.int (1 : Int32)), .val (.int (0 : Int32)), .val (.ref (n0 + 0)), .val (.ref (n0 + 1)), .val (.int (1 : Int32)), .unset, .unset]) rfl ?_
      refine H.iload s0_300 rfl ?_
      refine H.ifF s0_302 (show (0 : Int32) = (0 : Int32) by decide) ?_
      refine H.aload s0_305 rfl rfl ?_
      refine H.goto s0_307 ?_
      refine H.astore s0_311 rfl (ls' := #[.val (.int p0), .val (.int p1), .val (.int (2 : Int32)), .val (.ref (n0 + 0)), .val (.ref (n0 + 1)), .val (.ref (n0 + 2)), .val (.ref (n0 + 3)), .val (.ref (n0 + 4)), .val (.int (1 : Int32)), .val (.int (0 : Int32)), .val (.ref (n0 + 0)), .val (.ref (n0 + 1)), .val (.int (1 : Int32)), .val (.ref (n0 + 1)), .unset]) rfl ?_
      refine H.iload s0_313 rfl ?_
      refine H.iconst s0_315 (v := (1 : Int32)) (by decide) ?_
      refine H.icmpF s0_316 (show ¬ (1 : Int32) < (0 : Int32) by decide) ?_
      refine H.aload s0_319 rfl rfl ?_
      refine H.goto s0_321 ?_
      refine H.astore s0_326 rfl (ls' := #[.val (.int p0), .val (.int p1), .val (.int (2 : Int32)), .val (.ref (n0 + 0)), .val (.ref (n0 + 1)), .val (.ref (n0 + 2)), .val (.ref (n0 + 3)), .val (.ref (n0 + 4)), .val (.int (1 : Int32)), .val (.int (0 : Int32)), .val (.ref (n0 + 0)), .val (.ref (n0 + 1)), .val (.int (1 : Int32)), .val (.ref (n0 + 1)), .val (.ref (n0 + 2))]) rfl ?_
      refine H.iload s0_328 rfl ?_
      refine H.ifF s0_330 (show ¬ (1 : Int32) = (0 : Int32) by decide) ?_
      refine H.aload s0_333 rfl rfl ?_
      refine H.callVD s0_335 (k_11 hw) (a_30 l hw n0) (i := 4) rfl (argsL := []) (rest := []) rfl rfl rfl rfl (leb rfl) (leb rfl) (leb rfl) (leb rfl) (st' := [(.int (2 : Int32))]) rfl (k' := 5) rfl (n' := 23) rfl ?_
      refine H.iloadN s0_338 rfl ?_
      refine H.icmpF s0_339 (show (2 : Int32) = (2 : Int32) by decide) ?_
      refine H.iconst s0_342 (v := (1 : Int32)) (by decide) ?_
      refine H.goto s0_343 ?_
      refine H.istore s0_347 (ls' := #[.val (.int p0), .val (.int p1), .val (.int (2 : Int32)), .val (.ref (n0 + 0)), .val (.ref (n0 + 1)), .val (.ref (n0 + 2)), .val (.ref (n0 + 3)), .val (.ref (n0 + 4)), .val (.int (1 : Int32)), .val (.int (0 : Int32)), .val (.ref (n0 + 0)), .val (.ref (n0 + 1)), .val (.int (1 : Int32)), .val (.ref (n0 + 1)), .val (.ref (n0 + 2))]) rfl ?_
      refine H.iload s0_349 rfl ?_
      refine H.ifF s0_351 (show ¬ (1 : Int32) = (0 : Int32) by decide) ?_
      refine H.aload s0_354 rfl rfl ?_
      refine H.callVD s0_356 (k_13 hw) (a_31 l hw n0) (i := 4) rfl (argsL := []) (rest := []) rfl rfl rfl rfl (leb rfl) (leb rfl) (leb rfl) (leb rfl) (st' := [(.ref (n0 + 1))]) rfl (k' := 5) rfl (n' := 23) rfl ?_
      refine H.iload s0_359 rfl ?_
      refine H.ifF s0_361 (show (0 : Int32) < (1 : Int32) by decide) ?_
      refine H.aload s0_364 rfl rfl ?_
      refine H.goto s0_366 ?_
      refine H.acmp s0_371 rfl rfl (same := true) (by simp) ?_
      show G 374 _ _ _ _ _
      refine H.iconst s0_374 (v := (1 : Int32)) (by decide) ?_
      refine H.goto s0_375 ?_
      refine H.istore s0_379 (ls' := #[.val (.int p0), .val (.int p1), .val (.int (2 : Int32)), .val (.ref (n0 + 0)), .val (.ref (n0 + 1)), .val (.ref (n0 + 2)), .val (.ref (n0 + 3)), .val (.ref (n0 + 4)), .val (.int (1 : Int32)), .val (.int (0 : Int32)), .val (.ref (n0 + 0)), .val (.ref (n0 + 1)), .val (.int (1 : Int32)), .val (.ref (n0 + 1)), .val (.ref (n0 + 2))]) rfl ?_
      refine H.iload s0_381 rfl ?_
      refine H.iconst s0_383 (v := (1 : Int32)) (by decide) ?_
      refine H.icmpF s0_384 (show ¬ (1 : Int32) < (1 : Int32) by decide) ?_
      refine H.iload s0_387 rfl ?_
      refine H.ifF s0_389 (show ¬ (1 : Int32) = (0 : Int32) by decide) ?_
      refine H.aload s0_392 rfl rfl ?_
      refine H.callVD s0_394 (k_15 hw) (a_32 l hw n0) (i := 1) rfl (argsL := []) (rest := []) rfl rfl rfl rfl (leb rfl) (leb rfl) (leb rfl) (leb rfl) (st' := [(.ref (n0 + 3))]) rfl (k' := 5) rfl (n' := 23) rfl ?_
      refine H.iload s0_397 rfl ?_
      refine H.iconst s0_399 (v := (1 : Int32)) (by decide) ?_
      refine H.icmpT s0_400 (show ¬ (1 : Int32) < (1 : Int32) by decide) ?_
      refine H.aload s0_408 rfl rfl ?_
      refine H.acmp s0_410 rfl rfl (same := true) (by simp) ?_
      show G 413 _ _ _ _ _
      refine H.iconst s0_413 (v := (1 : Int32)) (by decide) ?_
      refine H.goto s0_414 ?_
      refine H.istore s0_418 (ls' := #[.val (.int p0), .val (.int p1), .val (.int (2 : Int32)), .val (.ref (n0 + 0)), .val (.ref (n0 + 1)), .val (.ref (n0 + 2)), .val (.ref (n0 + 3)), .val (.ref (n0 + 4)), .val (.int (1 : Int32)), .val (.int (0 : Int32)), .val (.ref (n0 + 0)), .val (.ref (n0 + 1)), .val (.int (1 : Int32)), .val (.ref (n0 + 1)), .val (.ref (n0 + 2))]) rfl ?_
      refine H.iload s0_420 rfl ?_
      refine H.iconst s0_422 (v := (2 : Int32)) (by decide) ?_
      refine H.icmpT s0_423 (show (1 : Int32) < (2 : Int32) by decide) ?_
      refine H.iload s0_448 rfl ?_
      refine H.ifF s0_450 (show ¬ (1 : Int32) = (0 : Int32) by decide) ?_
      refine H.aload s0_453 rfl rfl ?_
      refine H.callVD s0_455 (k_15 hw) (a_33 l hw n0) (i := 3) rfl (argsL := []) (rest := []) rfl rfl rfl rfl (leb rfl) (leb rfl) (leb rfl) (leb rfl) (st' := [.null]) rfl (k' := 5) rfl (n' := 23) rfl ?_
      refine H.ifnonnullF s0_458 ?_
      refine H.iconst s0_461 (v := (1 : Int32)) (by decide) ?_
      refine H.goto s0_462 ?_
      refine H.istore s0_466 (ls' := #[.val (.int p0), .val (.int p1), .val (.int (2 : Int32)), .val (.ref (n0 + 0)), .val (.ref (n0 + 1)), .val (.ref (n0 + 2)), .val (.ref (n0 + 3)), .val (.ref (n0 + 4)), .val (.int (1 : Int32)), .val (.int (0 : Int32)), .val (.ref (n0 + 0)), .val (.ref (n0 + 1)), .val (.int (1 : Int32)), .val (.ref (n0 + 1)), .val (.ref (n0 + 2))]) rfl ?_
      refine H.iload s0_468 rfl ?_
      refine H.ifF s0_470 (show ¬ (1 : Int32) = (0 : Int32) by decide) ?_
      refine H.aload s0_473 rfl rfl ?_
      refine H.callVD s0_475 (k_15 hw) (a_34 l hw n0) (i := 0) rfl (argsL := []) (rest := []) rfl rfl rfl rfl (leb rfl) (leb rfl) (leb rfl) (leb rfl) (st' := [(.ref (n0 + 1))]) rfl (k' := 5) rfl (n' := 23) rfl ?_
      refine H.aload s0_478 rfl rfl ?_
      refine H.acmp s0_480 rfl rfl (same := true) (by simp) ?_
      show G 483 _ _ _ _ _
      refine H.iconst s0_483 (v := (1 : Int32)) (by decide) ?_
      refine H.goto s0_484 ?_
      refine H.istore s0_488 (ls' := #[.val (.int p0), .val (.int p1), .val (.int (2 : Int32)), .val (.ref (n0 + 0)), .val (.ref (n0 + 1)), .val (.ref (n0 + 2)), .val (.ref (n0 + 3)), .val (.ref (n0 + 4)), .val (.int (1 : Int32)), .val (.int (0 : Int32)), .val (.ref (n0 + 0)), .val (.ref (n0 + 1)), .val (.int (1 : Int32)), .val (.ref (n0 + 1)), .val (.ref (n0 + 2))]) rfl ?_
      refine H.iload s0_490 rfl ?_
      exact H.ireturn s0_492 rfl (by simp) rfl rfl (by decide) (by decide)
    · refine H.irem s0_228 (by decide) (w := (1 : Int32)) hz228 ?_
      refine H.istore s0_229 (ls' := #[.val (.int p0), .val (.int p1), .val (.int (2 : Int32)), .val (.ref (n0 + 0)), .val (.ref (n0 + 1)), .val (.ref (n0 + 2)), .val (.ref (n0 + 3)), .val (.ref (n0 + 4)), .val (.int (1 : Int32)), .val (.int (1 : Int32)), .unset, .unset, .unset, .unset, .unset]) rfl ?_
      refine H.iload s0_231 rfl ?_
      refine H.ifT s0_233 (show ¬ (1 : Int32) = (0 : Int32) by decide) ?_
      refine H.iload s0_240 rfl ?_
      refine H.iconst s0_242 (v := (1 : Int32)) (by decide) ?_
      refine H.icmpF s0_243 (show (1 : Int32) = (1 : Int32) by decide) ?_
      refine H.aload s0_246 rfl rfl ?_
      refine H.goto s0_248 ?_
      refine H.astore s0_253 rfl (ls' := #[.val (.int p0), .val (.int p1), .val (.int (2 : Int32)), .val (.ref (n0 + 0)), .val (.ref (n0 + 1)), .val (.ref (n0 + 2)), .val (.ref (n0 + 3)), .val (.ref (n0 + 4)), .val (.int (1 : Int32)), .val (.int (1 : Int32)), .val (.ref (n0 + 1)), .unset, .unset, .unset, .unset]) rfl ?_
      refine H.iload s0_255 rfl ?_
      refine H.iconst s0_257 (v := (1 : Int32)) (by decide) ?_
      refine H.iadd s0_258 (w := (2 : Int32)) (by decide) ?_
      refine H.iloadN s0_259 rfl ?_
      refine H.icmpT s0_260 (show ¬ (2 : Int32) < (2 : Int32) by decide) ?_
      refine H.aconstNull s0_278 ?_
      refine H.astore s0_279 rfl (ls' := #[.val (.int p0), .val (.int p1), .val (.int (2 : Int32)), .val (.ref (n0 + 0)), .val (.ref (n0 + 1)), .val (.ref (n0 + 2)), .val (.ref (n0 + 3)), .val (.ref (n0 + 4)), .val (.int (1 : Int32)), .val (.int (1 : Int32)), .val (.ref (n0 + 1)), .val .null, .unset, .unset, .unset]) rfl ?_
      refine H.aload s0_281 rfl rfl ?_
      refine H.aload s0_283 rfl rfl ?_
      refine H.callVD s0_285 (k_28 hw) (a_35 l hw n0) (i := 4) rfl (argsL := [(.ref (n0 + 1))]) (rest := []) rfl rfl rfl rfl (leb rfl) (leb rfl) (leb rfl) (leb rfl) (st' := []) rfl (k' := 5) rfl (n' := 23) rfl ?_
      refine H.aload s0_288 rfl rfl ?_
      refine H.aload s0_290 rfl rfl ?_
      refine H.callVD s0_292 (k_21 hw) (a_36 l hw n0) (i := 4) rfl (argsL := [(.ref (n0 + 3))]) (rest := []) rfl rfl rfl rfl (leb rfl) (leb rfl) (leb rfl) (leb rfl) (st' := []) rfl (k' := 5) rfl (n' := 23) rfl ?_
      refine H.iloadN s0_295 rfl ?_
      refine H.iconst s0_296 (v := (1 : Int32)) (by decide) ?_
      refine H.isub s0_297 (w := (1 : Int32)) (by decide) ?_
      refine H.istore s0_298 (ls' := #[.val (.int p0), .val (.int p1), .val (.int (2 : Int32)), .val (.ref (n0 + 0)), .val (.ref (n0 + 1)), .val (.ref (n0 + 2)), .val (.ref (n0 + 3)), .val (.ref (n0 + 4)), .val (.int (1 : Int32)), .val (.int (1 : Int32)), .val (.ref (n0 + 1)), .val .null, .val (.int (1 : Int32)), .unset, .unset]) rfl ?_
      refine H.iload s0_300 rfl ?_
      refine H.ifT s0_302 (show ¬ (1 : Int32) = (0 : Int32) by decide) ?_
      refine H.aloadN s0_310 rfl rfl ?_
      refine H.astore s0_311 rfl (ls' := #[.val (.int p0), .val (.int p1), .val (.int (2 : Int32)), .val (.ref (n0 + 0)), .val (.ref (n0 + 1)), .val (.ref (n0 + 2)), .val (.ref (n0 + 3)), .val (.ref (n0 + 4)), .val (.int (1 : Int32)), .val (.int (1 : Int32)), .val (.ref (n0 + 1)), .val .null, .val (.int (1 : Int32)), .val (.ref (n0 + 0)), .unset]) rfl ?_
      refine H.iload s0_313 rfl ?_
      refine H.iconst s0_315 (v := (1 : Int32)) (by decide) ?_
      refine H.icmpF s0_316 (show ¬ (1 : Int32) < (1 : Int32) by decide) ?_
      refine H.aload s0_319 rfl rfl ?_
      refine H.goto s0_321 ?_
      refine H.astore s0_326 rfl (ls' := #[.val (.int p0), .val (.int p1), .val (.int (2 : Int32)), .val (.ref (n0 + 0)), .val (.ref (n0 + 1)), .val (.ref (n0 + 2)), .val (.ref (n0 + 3)), .val (.ref (n0 + 4)), .val (.int (1 : Int32)), .val (.int (1 : Int32)), .val (.ref (n0 + 1)), .val .null, .val (.int (1 : Int32)), .val (.ref (n0 + 0)), .val (.ref (n0 + 2))]) rfl ?_
      refine H.iload s0_328 rfl ?_
      refine H.ifF s0_330 (show ¬ (1 : Int32) = (0 : Int32) by decide) ?_
      refine H.aload s0_333 rfl rfl ?_
      refine H.callVD s0_335 (k_11 hw) (a_37 l hw n0) (i := 4) rfl (argsL := []) (rest := []) rfl rfl rfl rfl (leb rfl) (leb rfl) (leb rfl) (leb rfl) (st' := [(.int (2 : Int32))]) rfl (k' := 5) rfl (n' := 23) rfl ?_
      refine H.iloadN s0_338 rfl ?_
      refine H.icmpF s0_339 (show (2 : Int32) = (2 : Int32) by decide) ?_
      refine H.iconst s0_342 (v := (1 : Int32)) (by decide) ?_
      refine H.goto s0_343 ?_
      refine H.istore s0_347 (ls' := #[.val (.int p0), .val (.int p1), .val (.int (2 : Int32)), .val (.ref (n0 + 0)), .val (.ref (n0 + 1)), .val (.ref (n0 + 2)), .val (.ref (n0 + 3)), .val (.ref (n0 + 4)), .val (.int (1 : Int32)), .val (.int (1 : Int32)), .val (.ref (n0 + 1)), .val .null, .val (.int (1 : Int32)), .val (.ref (n0 + 0)), .val (.ref (n0 + 2))]) rfl ?_
      refine H.iload s0_349 rfl ?_
      refine H.ifF s0_351 (show ¬ (1 : Int32) = (0 : Int32) by decide) ?_
      refine H.aload s0_354 rfl rfl ?_
      refine H.callVD s0_356 (k_13 hw) (a_38 l hw n0) (i := 4) rfl (argsL := []) (rest := []) rfl rfl rfl rfl (leb rfl) (leb rfl) (leb rfl) (leb rfl) (st' := [(.ref (n0 + 0))]) rfl (k' := 5) rfl (n' := 23) rfl ?_
      refine H.iload s0_359 rfl ?_
      refine H.ifF s0_361 (show (0 : Int32) < (1 : Int32) by decide) ?_
      refine H.aload s0_364 rfl rfl ?_
      refine H.goto s0_366 ?_
      refine H.acmp s0_371 rfl rfl (same := true) (by simp) ?_
      show G 374 _ _ _ _ _
      refine H.iconst s0_374 (v := (1 : Int32)) (by decide) ?_
      refine H.goto s0_375 ?_
      refine H.istore s0_379 (ls' := #[.val (.int p0), .val (.int p1), .val (.int (2 : Int32)), .val (.ref (n0 + 0)), .val (.ref (n0 + 1)), .val (.ref (n0 + 2)), .val (.ref (n0 + 3)), .val (.ref (n0 + 4)), .val (.int (1 : Int32)), .val (.int (1 : Int32)), .val (.ref (n0 + 1)), .val .null, .val (.int (1 : Int32)), .val (.ref (n0 + 0)), .val (.ref (n0 + 2))]) rfl ?_
      refine H.iload s0_381 rfl ?_
      refine H.iconst s0_383 (v := (1 : Int32)) (by decide) ?_
      refine H.icmpF s0_384 (show ¬ (1 : Int32) < (1 : Int32) by decide) ?_
      refine H.iload s0_387 rfl ?_
      refine H.ifF s0_389 (show ¬ (1 : Int32) = (0 : Int32) by decide) ?_
      refine H.aload s0_392 rfl rfl ?_
      refine H.callVD s0_394 (k_15 hw) (a_39 l hw n0) (i := 0) rfl (argsL := []) (rest := []) rfl rfl rfl rfl (leb rfl) (leb rfl) (leb rfl) (leb rfl) (st' := [(.ref (n0 + 3))]) rfl (k' := 5) rfl (n' := 23) rfl ?_
      refine H.iload s0_397 rfl ?_
      refine H.iconst s0_399 (v := (1 : Int32)) (by decide) ?_
      refine H.icmpT s0_400 (show ¬ (1 : Int32) < (1 : Int32) by decide) ?_
      refine H.aload s0_408 rfl rfl ?_
      refine H.acmp s0_410 rfl rfl (same := true) (by simp) ?_
      show G 413 _ _ _ _ _
      refine H.iconst s0_413 (v := (1 : Int32)) (by decide) ?_
      refine H.goto s0_414 ?_
      refine H.istore s0_418 (ls' := #[.val (.int p0), .val (.int p1), .val (.int (2 : Int32)), .val (.ref (n0 + 0)), .val (.ref (n0 + 1)), .val (.ref (n0 + 2)), .val (.ref (n0 + 3)), .val (.ref (n0 + 4)), .val (.int (1 : Int32)), .val (.int (1 : Int32)), .val (.ref (n0 + 1)), .val .null, .val (.int (1 : Int32)), .val (.ref (n0 + 0)), .val (.ref (n0 + 2))]) rfl ?_
      refine H.iload s0_420 rfl ?_
      refine H.iconst s0_422 (v := (2 : Int32)) (by decide) ?_
      refine H.icmpT s0_423 (show (1 : Int32) < (2 : Int32) by decide) ?_
      refine H.iload s0_448 rfl ?_
      refine H.ifF s0_450 (show ¬ (1 : Int32) = (0 : Int32) by decide) ?_
      refine H.aload s0_453 rfl rfl ?_
      refine H.callVD s0_455 (k_15 hw) (a_40 l hw n0) (i := 3) rfl (argsL := []) (rest := []) rfl rfl rfl rfl (leb rfl) (leb rfl) (leb rfl) (leb rfl) (st' := [.null]) rfl (k' := 5) rfl (n' := 23) rfl ?_
      refine H.ifnonnullF s0_458 ?_
      refine H.iconst s0_461 (v := (1 : Int32)) (by decide) ?_
      refine H.goto s0_462 ?_
      refine H.istore s0_466 (ls' := #[.val (.int p0), .val (.int p1), .val (.int (2 : Int32)), .val (.ref (n0 + 0)), .val (.ref (n0 + 1)), .val (.ref (n0 + 2)), .val (.ref (n0 + 3)), .val (.ref (n0 + 4)), .val (.int (1 : Int32)), .val (.int (1 : Int32)), .val (.ref (n0 + 1)), .val .null, .val (.int (1 : Int32)), .val (.ref (n0 + 0)), .val (.ref (n0 + 2))]) rfl ?_
      refine H.iload s0_468 rfl ?_
      refine H.ifF s0_470 (show ¬ (1 : Int32) = (0 : Int32) by decide) ?_
      refine H.aload s0_473 rfl rfl ?_
      refine H.callVD s0_475 (k_15 hw) (a_41 l hw n0) (i := 1) rfl (argsL := []) (rest := []) rfl rfl rfl rfl (leb rfl) (leb rfl) (leb rfl) (leb rfl) (st' := [.null]) rfl (k' := 5) rfl (n' := 23) rfl ?_
      refine H.aload s0_478 rfl rfl ?_
      refine H.acmp s0_480 rfl rfl (same := true) (by simp) ?_
      show G 483 _ _ _ _ _
      refine H.iconst s0_483 (v := (1 : Int32)) (by decide) ?_
      refine H.goto s0_484 ?_
      refine H.istore s0_488 (ls' := #[.val (.int p0), .val (.int p1), .val (.int (2 : Int32)), .val (.ref (n0 + 0)), .val (.ref (n0 + 1)), .val (.ref (n0 + 2)), .val (.ref (n0 + 3)), .val (.ref (n0 + 4)), .val (.int (1 : Int32)), .val (.int (1 : Int32)), .val (.ref (n0 + 1)), .val .null, .val (.int (1 : Int32)), .val (.ref (n0 + 0)), .val (.ref (n0 + 2))]) rfl ?_
      refine H.iload s0_490 rfl ?_
      exact H.ireturn s0_492 rfl (by simp) rfl rfl (by decide) (by decide)
  · refine H.iand s0_2 (w := (3 : Int32)) hz2 ?_
    refine H.istoreN s0_3 (ls' := #[.val (.int p0), .val (.int p1), .val (.int (3 : Int32)), .unset, .unset, .unset, .unset, .unset, .unset, .unset, .unset, .unset, .unset, .unset, .unset]) rfl ?_
    refine H.new s0_4 (k_0 hw) rfl (by decide) (by decide) (i := 0) rfl (A' := [.inl (0, [.null, .null, .null, .null])]) rfl (k' := 1) rfl (n' := 5) rfl ?_
    refine H.dup s0_7 rfl ?_
    refine H.aconstNull s0_8 ?_
    refine H.aconstNull s0_9 ?_
    refine H.callCD s0_10 (k_5 hw) (a_0 l hw n0) (argsL := [.null, .null]) (rest := [(.ref (n0 + 0))]) rfl rfl rfl rfl (leb rfl) (leb rfl) (leb rfl) (leb rfl) (st' := [(.ref (n0 + 0))]) rfl (k' := 1) rfl (n' := 5) rfl ?_
    refine H.astoreN s0_13 rfl (ls' := #[.val (.int p0), .val (.int p1), .val (.int (3 : Int32)), .val (.ref (n0 + 0)), .unset, .unset, .unset, .unset, .unset, .unset, .unset, .unset, .unset, .unset, .unset]) rfl ?_
    refine H.new s0_14 (k_0 hw) rfl (by decide) (by decide) (i := 1) rfl (A' := [.inl (0, [.null, .null, .null, .null]), .inl (0, [.null, .null, .null, .null])]) rfl (k' := 2) rfl (n' := 10) rfl ?_
    refine H.dup s0_17 rfl ?_
    refine H.aconstNull s0_18 ?_
    refine H.aconstNull s0_19 ?_
    refine H.callCD s0_20 (k_5 hw) (a_1 l hw n0) (argsL := [.null, .null]) (rest := [(.ref (n0 + 1))]) rfl rfl rfl rfl (leb rfl) (leb rfl) (leb rfl) (leb rfl) (st' := [(.ref (n0 + 1))]) rfl (k' := 2) rfl (n' := 10) rfl ?_
    refine H.astore s0_23 rfl (ls' := #[.val (.int p0), .val (.int p1), .val (.int (3 : Int32)), .val (.ref (n0 + 0)), .val (.ref (n0 + 1)), .unset, .unset, .unset, .unset, .unset, .unset, .unset, .unset, .unset, .unset]) rfl ?_
    refine H.new s0_25 (k_0 hw) rfl (by decide) (by decide) (i := 2) rfl (A' := [.inl (0, [.null, .null, .null, .null]), .inl (0, [.null, .null, .null, .null]), .inl (0, [.null, .null, .null, .null])]) rfl (k' := 3) rfl (n' := 15) rfl ?_
    refine H.dup s0_28 rfl ?_
    refine H.aconstNull s0_29 ?_
    refine H.aconstNull s0_30 ?_
    refine H.callCD s0_31 (k_5 hw) (a_2 l hw n0) (argsL := [.null, .null]) (rest := [(.ref (n0 + 2))]) rfl rfl rfl rfl (leb rfl) (leb rfl) (leb rfl) (leb rfl) (st' := [(.ref (n0 + 2))]) rfl (k' := 3) rfl (n' := 15) rfl ?_
    refine H.astore s0_34 rfl (ls' := #[.val (.int p0), .val (.int p1), .val (.int (3 : Int32)), .val (.ref (n0 + 0)), .val (.ref (n0 + 1)), .val (.ref (n0 + 2)), .unset, .unset, .unset, .unset, .unset, .unset, .unset, .unset, .unset]) rfl ?_
    refine H.new s0_36 (k_0 hw) rfl (by decide) (by decide) (i := 3) rfl (A' := [.inl (0, [.null, .null, .null, .null]), .inl (0, [.null, .null, .null, .null]), .inl (0, [.null, .null, .null, .null]), .inl (0, [.null, .null, .null, .null])]) rfl (k' := 4) rfl (n' := 20) rfl ?_
    refine H.dup s0_39 rfl ?_
    refine H.aconstNull s0_40 ?_
    refine H.aconstNull s0_41 ?_
    refine H.callCD s0_42 (k_5 hw) (a_3 l hw n0) (argsL := [.null, .null]) (rest := [(.ref (n0 + 3))]) rfl rfl rfl rfl (leb rfl) (leb rfl) (leb rfl) (leb rfl) (st' := [(.ref (n0 + 3))]) rfl (k' := 4) rfl (n' := 20) rfl ?_
    refine H.astore s0_45 rfl (ls' := #[.val (.int p0), .val (.int p1), .val (.int (3 : Int32)), .val (.ref (n0 + 0)), .val (.ref (n0 + 1)), .val (.ref (n0 + 2)), .val (.ref (n0 + 3)), .unset, .unset, .unset, .unset, .unset, .unset, .unset, .unset]) rfl ?_
    refine H.new s0_47 (k_6 hw) rfl (by decide) (by decide) (i := 4) rfl (A' := [.inl (0, [.null, .null, .null, .null]), .inl (0, [.null, .null, .null, .null]), .inl (0, [.null, .null, .null, .null]), .inl (0, [.null, .null, .null, .null]), .inl (1, [(.int (0 : Int32)), .null, .null])]) rfl (k' := 5) rfl (n' := 23) rfl ?_
    refine H.dup s0_50 rfl ?_
    refine H.callCD s0_51 (k_9 hw) (a_4 l hw n0) (argsL := []) (rest := [(.ref (n0 + 4))]) rfl rfl rfl rfl (leb rfl) (leb rfl) (leb rfl) (leb rfl) (st' := [(.ref (n0 + 4))]) rfl (k' := 5) rfl (n' := 23) rfl ?_
    refine H.astore s0_54 rfl (ls' := #[.val (.int p0), .val (.int p1), .val (.int (3 : Int32)), .val (.ref (n0 + 0)), .val (.ref (n0 + 1)), .val (.ref (n0 + 2)), .val (.ref (n0 + 3)), .val (.ref (n0 + 4)), .unset, .unset, .unset, .unset, .unset, .unset, .unset]) rfl ?_
    refine H.iloadN s0_56 rfl ?_
    refine H.ifF s0_57 (show (0 : Int32) < (3 : Int32) by decide) ?_
    refine H.aload s0_60 rfl rfl ?_
    refine H.aloadN s0_62 rfl rfl ?_
    refine H.callVD s0_63 (k_21 hw) (a_10 l hw n0) (i := 4) rfl (argsL := [(.ref (n0 + 0))]) (rest := []) rfl rfl rfl rfl (leb rfl) (leb rfl) (leb rfl) (leb rfl) (st' := []) rfl (k' := 5) rfl (n' := 23) rfl ?_
    refine H.iloadN s0_66 rfl ?_
    refine H.iconst s0_67 (v := (1 : Int32)) (by decide) ?_
    refine H.icmpF s0_68 (show (1 : Int32) < (3 : Int32) by decide) ?_
    refine H.aload s0_71 rfl rfl ?_
    refine H.aload s0_73 rfl rfl ?_
    refine H.callVD s0_75 (k_21 hw) (a_22 l hw n0) (i := 4) rfl (argsL := [(.ref (n0 + 1))]) (rest := []) rfl rfl rfl rfl (leb rfl) (leb rfl) (leb rfl) (leb rfl) (st' := []) rfl (k' := 5) rfl (n' := 23) rfl ?_
    refine H.iloadN s0_78 rfl ?_
    refine H.iconst s0_79 (v := (2 : Int32)) (by decide) ?_
    refine H.icmpF s0_80 (show (2 : Int32) < (3 : Int32) by decide) ?_
    refine H.aload s0_83 rfl rfl ?_
    refine H.aload s0_85 rfl rfl ?_
    refine H.callVD s0_87 (k_21 hw) (a_42 l hw n0) (i := 4) rfl (argsL := [(.ref (n0 + 2))]) (rest := []) rfl rfl rfl rfl (leb rfl) (leb rfl) (leb rfl) (leb rfl) (st' := []) rfl (k' := 5) rfl (n' := 23) rfl ?_
    refine H.aload s0_90 rfl rfl ?_
    refine H.callVD s0_92 (k_11 hw) (a_43 l hw n0) (i := 4) rfl (argsL := []) (rest := []) rfl rfl rfl rfl (leb rfl) (leb rfl) (leb rfl) (leb rfl) (st' := [(.int (3 : Int32))]) rfl (k' := 5) rfl (n' := 23) rfl ?_
    refine H.iloadN s0_95 rfl ?_
    refine H.icmpF s0_96 (show (3 : Int32) = (3 : Int32) by decide) ?_
    refine H.iconst s0_99 (v := (1 : Int32)) (by decide) ?_
    refine H.goto s0_100 ?_
    refine H.istore s0_104 (ls' := #[.val (.int p0), .val (.int p1), .val (.int (3 : Int32)), .val (.ref (n0 + 0)), .val (.ref (n0 + 1)), .val (.ref (n0 + 2)), .val (.ref (n0 + 3)), .val (.ref (n0 + 4)), .val (.int (1 : Int32)), .unset, .unset, .unset, .unset, .unset, .unset]) rfl ?_
    refine H.iload s0_106 rfl ?_
    refine H.ifF s0_108 (show ¬ (1 : Int32) = (0 : Int32) by decide) ?_
    refine H.aload s0_111 rfl rfl ?_
    refine H.callVD s0_113 (k_13 hw) (a_44 l hw n0) (i := 4) rfl (argsL := []) (rest := []) rfl rfl rfl rfl (leb rfl) (leb rfl) (leb rfl) (leb rfl) (st' := [(.ref (n0 + 0))]) rfl (k' := 5) rfl (n' := 23) rfl ?_
    refine H.iloadN s0_116 rfl ?_
    refine H.ifF s0_117 (show (0 : Int32) < (3 : Int32) by decide) ?_
    refine H.aloadN s0_120 rfl rfl ?_
    refine H.goto s0_121 ?_
    refine H.acmp s0_125 rfl rfl (same := true) (by simp) ?_
    show G 128 _ _ _ _ _
    refine H.iconst s0_128 (v := (1 : Int32)) (by decide) ?_
    refine H.goto s0_129 ?_
    refine H.istore s0_133 (ls' := #[.val (.int p0), .val (.int p1), .val (.int (3 : Int32)), .val (.ref (n0 + 0)), .val (.ref (n0 + 1)), .val (.ref (n0 + 2)), .val (.ref (n0 + 3)), .val (.ref (n0 + 4)), .val (.int (1 : Int32)), .unset, .unset, .unset, .unset, .unset, .unset]) rfl ?_
    refine H.iload s0_135 rfl ?_
    refine H.ifF s0_137 (show ¬ (1 : Int32) = (0 : Int32) by decide) ?_
    refine H.aloadN s0_140 rfl rfl ?_
    refine H.callVD s0_141 (k_15 hw) (a_45 l hw n0) (i := 0) rfl (argsL := []) (rest := []) rfl rfl rfl rfl (leb rfl) (leb rfl) (leb rfl) (leb rfl) (st' := [(.ref (n0 + 1))]) rfl (k' := 5) rfl (n' := 23) rfl ?_
    refine H.iloadN s0_144 rfl ?_
    refine H.iconst s0_145 (v := (1 : Int32)) (by decide) ?_
    refine H.icmpF s0_146 (show (1 : Int32) < (3 : Int32) by decide) ?_
    refine H.aload s0_149 rfl rfl ?_
    refine H.goto s0_151 ?_
    refine H.acmp s0_155 rfl rfl (same := true) (by simp) ?_
    show G 158 _ _ _ _ _
    refine H.iconst s0_158 (v := (1 : Int32)) (by decide) ?_
    refine H.goto s0_159 ?_
    refine H.istore s0_163 (ls' := #[.val (.int p0), .val (.int p1), .val (.int (3 : Int32)), .val (.ref (n0 + 0)), .val (.ref (n0 + 1)), .val (.ref (n0 + 2)), .val (.ref (n0 + 3)), .val (.ref (n0 + 4)), .val (.int (1 : Int32)), .unset, .unset, .unset, .unset, .unset, .unset]) rfl ?_
    refine H.iload s0_165 rfl ?_
    refine H.ifF s0_167 (show ¬ (1 : Int32) = (0 : Int32) by decide) ?_
    refine H.aload s0_170 rfl rfl ?_
    refine H.callVD s0_172 (k_15 hw) (a_46 l hw n0) (i := 1) rfl (argsL := []) (rest := []) rfl rfl rfl rfl (leb rfl) (leb rfl) (leb rfl) (leb rfl) (st' := [(.ref (n0 + 2))]) rfl (k' := 5) rfl (n' := 23) rfl ?_
    refine H.iloadN s0_175 rfl ?_
    refine H.iconst s0_176 (v := (2 : Int32)) (by decide) ?_
    refine H.icmpF s0_177 (show (2 : Int32) < (3 : Int32) by decide) ?_
    refine H.aload s0_180 rfl rfl ?_
    refine H.goto s0_182 ?_
    refine H.acmp s0_186 rfl rfl (same := true) (by simp) ?_
    show G 189 _ _ _ _ _
    refine H.iconst s0_189 (v := (1 : Int32)) (by decide) ?_
    refine H.goto s0_190 ?_
    refine H.istore s0_194 (ls' := #[.val (.int p0), .val (.int p1), .val (.int (3 : Int32)), .val (.ref (n0 + 0)), .val (.ref (n0 + 1)), .val (.ref (n0 + 2)), .val (.ref (n0 + 3)), .val (.ref (n0 + 4)), .val (.int (1 : Int32)), .unset, .unset, .unset, .unset, .unset, .unset]) rfl ?_
    refine H.iload s0_196 rfl ?_
    refine H.ifF s0_198 (show ¬ (1 : Int32) = (0 : Int32) by decide) ?_
    refine H.aload s0_201 rfl rfl ?_
    refine H.callVD s0_203 (k_15 hw) (a_47 l hw n0) (i := 2) rfl (argsL := []) (rest := []) rfl rfl rfl rfl (leb rfl) (leb rfl) (leb rfl) (leb rfl) (st' := [.null]) rfl (k' := 5) rfl (n' := 23) rfl ?_
    refine H.ifnonnullF s0_206 ?_
    refine H.iconst s0_209 (v := (1 : Int32)) (by decide) ?_
    refine H.goto s0_210 ?_
    refine H.istore s0_214 (ls' := #[.val (.int p0), .val (.int p1), .val (.int (3 : Int32)), .val (.ref (n0 + 0)), .val (.ref (n0 + 1)), .val (.ref (n0 + 2)), .val (.ref (n0 + 3)), .val (.ref (n0 + 4)), .val (.int (1 : Int32)), .unset, .unset, .unset, .unset, .unset, .unset]) rfl ?_
    refine H.iloadN s0_216 rfl ?_
    refine H.ifT s0_217 (show ¬ (3 : Int32) = (0 : Int32) by decide) ?_
    refine H.iloadN s0_223 rfl ?_
    refine H.ldc s0_224 (k_22 hw) ?_
    refine H.iand s0_226 rfl ?_
    refine H.iloadN s0_227 rfl ?_
    rcases own_rem3 p1 with hz228 | hz228 | hz228
    · refine H.irem s0_228 (by decide) (w := (0 : Int32)) hz228 ?_
      refine H.istore s0_229 (ls' := #[.val (.int p0), .val (.int p1), .val (.int (3 : Int32)), .val (.ref (n0 + 0)), .val (.ref (n0 + 1)), .val (.ref (n0 + 2)), .val (.ref (n0 + 3)), .val (.ref (n0 + 4)), .val (.int (1 : Int32)), .val (.int (0 : Int32)), .unset, .unset, .unset, .unset, .unset]) rfl ?_
      refine H.iload s0_231 rfl ?_
      refine H.ifF s0_233 (show (0 : Int32) = (0 : Int32) by decide) ?_
      refine H.aloadN s0_236 rfl rfl ?_
      refine H.goto s0_237 ?_
      refine H.astore s0_253 rfl (ls' := #[.val (.int p0), .val (.int p1), .val (.int (3 : Int32)), .val (.ref (n0 + 0)), .val (.ref (n0 + 1)), .val (.ref (n0 + 2)), .val (.ref (n0 + 3)), .val (.ref (n0 + 4)), .val (.int (1 : Int32)), .val (.int (0 : Int32)), .val (.ref (n0 + 0)), .unset, .unset, .unset, .unset]) rfl ?_
      refine H.iload s0_255 rfl ?_
      refine H.iconst s0_257 (v := (1 : Int32)) (by decide) ?_
      refine H.iadd s0_258 (w := (1 : Int32)) (by decide) ?_
      refine H.iloadN s0_259 rfl ?_
      refine H.icmpF s0_260 (show (1 : Int32) < (3 : Int32) by decide) ?_
      refine H.iload s0_263 rfl ?_
      refine H.ifF s0_265 (show (0 : Int32) = (0 : Int32) by decide) ?_
      refine H.aload s0_268 rfl rfl ?_
      refine H.goto s0_270 ?_
      refine H.astore s0_279 rfl (ls' := #[.val (.int p0), .val (.int p1), .val (.int (3 : Int32)), .val (.ref (n0 + 0)), .val (.ref (n0 + 1)), .val (.ref (n0 + 2)), .val (.ref (n0 + 3)), .val (.ref (n0 + 4)), .val (.int (1 : Int32)), .val (.int (0 : Int32)), .val (.ref (n0 + 0)), .val (.ref (n0 + 1)), .unset, .unset, .unset]) rfl ?_
      refine H.aload s0_281 rfl rfl ?_
      refine H.aload s0_283 rfl rfl ?_
      refine H.callVD s0_285 (k_28 hw) (a_48 l hw n0) (i := 4) rfl (argsL := [(.ref (n0 + 0))]) (rest := []) rfl rfl rfl rfl (leb rfl) (leb rfl) (leb rfl) (leb rfl) (st' := []) rfl (k' := 5) rfl (n' := 23) rfl ?_
      refine H.aload s0_288 rfl rfl ?_
      refine H.aload s0_290 rfl rfl ?_
      refine H.callVD s0_292 (k_21 hw) (a_49 l hw n0) (i := 4) rfl (argsL := [(.ref (n0 + 3))]) (rest := []) rfl rfl rfl rfl (leb rfl) (leb rfl) (leb rfl) (leb rfl) (st' := []) rfl (k' := 5) rfl (n' := 23) rfl ?_
      refine H.iloadN s0_295 rfl ?_
      refine H.iconst s0_296 (v := (1 : Int32)) (by decide) ?_
      refine H.isub s0_297 (w := (2 : Int32)) (by decide) ?_
      refine H.istore s0_298 (ls' := #[.val (.int p0), .val (.int p1), .val (.int (3 : Int32)), .val (.ref (n0 + 0)), .val (.ref (n0 + 1)), .val (.ref (n0 + 2)), .val (.ref (n0 + 3)), .val (.ref (n0 + 4)), .val (.int (1 : Int32)), .val (.int (0 : Int32)), .val (.ref (n0 + 0)), .val (.ref (n0 + 1)), .val (.int (2 : Int32)), .unset, .unset]) rfl ?_
      refine H.iload s0_300 rfl ?_
      refine H.ifF s0_302 (show (0 : Int32) = (0 : Int32) by decide) ?_
      refine H.aload s0_305 rfl rfl ?_
      refine H.goto s0_307 ?_
      refine H.astore s0_311 rfl (ls' := #[.val (.int p0), .val (.int p1), .val (.int (3 : Int32)), .val (.ref (n0 + 0)), .val (.ref (n0 + 1)), .val (.ref (n0 + 2)), .val (.ref (n0 + 3)), .val (.ref (n0 + 4)), .val (.int (1 : Int32)), .val (.int (0 : Int32)), .val (.ref (n0 + 0)), .val (.ref (n0 + 1)), .val (.int (2 : Int32)), .val (.ref (n0 + 1)), .unset]) rfl ?_
      refine H.iload s0_313 rfl ?_
      refine H.iconst s0_315 (v := (1 : Int32)) (by decide) ?_
      refine H.icmpF s0_316 (show ¬ (1 : Int32) < (0 : Int32) by decide) ?_
      refine H.aload s0_319 rfl rfl ?_
      refine H.goto s0_321 ?_
      refine H.astore s0_326 rfl (ls' := #[.val (.int p0), .val (.int p1), .val (.int (3 : Int32)), .val (.ref (n0 + 0)), .val (.ref (n0 + 1)), .val (.ref (n0 + 2)), .val (.ref (n0 + 3)), .val (.ref (n0 + 4)), .val (.int (1 : Int32)), .val (.int (0 : Int32)), .val (.ref (n0 + 0)), .val (.ref (n0 + 1)), .val (.int (2 : Int32)), .val (.ref (n0 + 1)), .val (.ref (n0 + 2))]) rfl ?_
      refine H.iload s0_328 rfl ?_
      refine H.ifF s0_330 (show ¬ (1 : Int32) = (0 : Int32) by decide) ?_
      refine H.aload s0_333 rfl rfl ?_
      refine H.callVD s0_335 (k_11 hw) (a_50 l hw n0) (i := 4) rfl (argsL := []) (rest := []) rfl rfl rfl rfl (leb rfl) (leb rfl) (leb rfl) (leb rfl) (st' := [(.int (3 : Int32))]) rfl (k' := 5) rfl (n' := 23) rfl ?_
      refine H.iloadN s0_338 rfl ?_
      refine H.icmpF s0_339 (show (3 : Int32) = (3 : Int32) by decide) ?_
      refine H.iconst s0_342 (v := (1 : Int32)) (by decide) ?_
      refine H.goto s0_343 ?_
      refine H.istore s0_347 (ls' := #[.val (.int p0), .val (.int p1), .val (.int (3 : Int32)), .val (.ref (n0 + 0)), .val (.ref (n0 + 1)), .val (.ref (n0 + 2)), .val (.ref (n0 + 3)), .val (.ref (n0 + 4)), .val (.int (1 : Int32)), .val (.int (0 : Int32)), .val (.ref (n0 + 0)), .val (.ref (n0 + 1)), .val (.int (2 : Int32)), .val (.ref (n0 + 1)), .val (.ref (n0 + 2))]) rfl ?_
      refine H.iload s0_349 rfl ?_
      refine H.ifF s0_351 (show ¬ (1 : Int32) = (0 : Int32) by decide) ?_
      refine H.aload s0_354 rfl rfl ?_
      refine H.callVD s0_356 (k_13 hw) (a_51 l hw n0) (i := 4) rfl (argsL := []) (rest := []) rfl rfl rfl rfl (leb rfl) (leb rfl) (leb rfl) (leb rfl) (st' := [(.ref (n0 + 1))]) rfl (k' := 5) rfl (n' := 23) rfl ?_
      refine H.iload s0_359 rfl ?_
      refine H.ifF s0_361 (show (0 : Int32) < (2 : Int32) by decide) ?_
      refine H.aload s0_364 rfl rfl ?_
      refine H.goto s0_366 ?_
      refine H.acmp s0_371 rfl rfl (same := true) (by simp) ?_
      show G 374 _ _ _ _ _
      refine H.iconst s0_374 (v := (1 : Int32)) (by decide) ?_
      refine H.goto s0_375 ?_
      refine H.istore s0_379 (ls' := #[.val (.int p0), .val (.int p1), .val (.int (3 : Int32)), .val (.ref (n0 + 0)), .val (.ref (n0 + 1)), .val (.ref (n0 + 2)), .val (.ref (n0 + 3)), .val (.ref (n0 + 4)), .val (.int (1 : Int32)), .val (.int (0 : Int32)), .val (.ref (n0 + 0)), .val (.ref (n0 + 1)), .val (.int (2 : Int32)), .val (.ref (n0 + 1)), .val (.ref (n0 + 2))]) rfl ?_
      refine H.iload s0_381 rfl ?_
      refine H.iconst s0_383 (v := (1 : Int32)) (by decide) ?_
      refine H.icmpF s0_384 (show ¬ (2 : Int32) < (1 : Int32) by decide) ?_
      refine H.iload s0_387 rfl ?_
      refine H.ifF s0_389 (show ¬ (1 : Int32) = (0 : Int32) by decide) ?_
      refine H.aload s0_392 rfl rfl ?_
      refine H.callVD s0_394 (k_15 hw) (a_52 l hw n0) (i := 1) rfl (argsL := []) (rest := []) rfl rfl rfl rfl (leb rfl) (leb rfl) (leb rfl) (leb rfl) (st' := [(.ref (n0 + 2))]) rfl (k' := 5) rfl (n' := 23) rfl ?_
      refine H.iload s0_397 rfl ?_
      refine H.iconst s0_399 (v := (1 : Int32)) (by decide) ?_
      refine H.icmpF s0_400 (show (1 : Int32) < (2 : Int32) by decide) ?_
      refine H.aload s0_403 rfl rfl ?_
      refine H.goto s0_405 ?_
      refine H.acmp s0_410 rfl rfl (same := true) (by simp) ?_
      show G 413 _ _ _ _ _
      refine H.iconst s0_413 (v := (1 : Int32)) (by decide) ?_
      refine H.goto s0_414 ?_
      refine H.istore s0_418 (ls' := #[.val (.int p0), .val (.int p1), .val (.int (3 : Int32)), .val (.ref (n0 + 0)), .val (.ref (n0 + 1)), .val (.ref (n0 + 2)), .val (.ref (n0 + 3)), .val (.ref (n0 + 4)), .val (.int (1 : Int32)), .val (.int (0 : Int32)), .val (.ref (n0 + 0)), .val (.ref (n0 + 1)), .val (.int (2 : Int32)), .val (.ref (n0 + 1)), .val (.ref (n0 + 2))]) rfl ?_
      refine H.iload s0_420 rfl ?_
      refine H.iconst s0_422 (v := (2 : Int32)) (by decide) ?_
      refine H.icmpF s0_423 (show ¬ (2 : Int32) < (2 : Int32) by decide) ?_
      refine H.iload s0_426 rfl ?_
      refine H.ifF s0_428 (show ¬ (1 : Int32) = (0 : Int32) by decide) ?_
      refine H.aload s0_431 rfl rfl ?_
      refine H.callVD s0_433 (k_15 hw) (a_53 l hw n0) (i := 2) rfl (argsL := []) (rest := []) rfl rfl rfl rfl (leb rfl) (leb rfl) (leb rfl) (leb rfl) (st' := [(.ref (n0 + 3))]) rfl (k' := 5) rfl (n' := 23) rfl ?_
      refine H.aload s0_436 rfl rfl ?_
      refine H.acmp s0_438 rfl rfl (same := true) (by simp) ?_
      show G 441 _ _ _ _ _
      refine H.iconst s0_441 (v := (1 : Int32)) (by decide) ?_
      refine H.goto s0_442 ?_
      refine H.istore s0_446 (ls' := #[.val (.int p0), .val (.int p1), .val (.int (3 : Int32)), .val (.ref (n0 + 0)), .val (.ref (n0 + 1)), .val (.ref (n0 + 2)), .val (.ref (n0 + 3)), .val (.ref (n0 + 4)), .val (.int (1 : Int32)), .val (.int (0 : Int32)), .val (.ref (n0 + 0)), .val (.ref (n0 + 1)), .val (.int (2 : Int32)), .val (.ref (n0 + 1)), .val (.ref (n0 + 2))]) rfl ?_
      refine H.iload s0_448 rfl ?_
      refine H.ifF s0_450 (show ¬ (1 : Int32) = (0 : Int32) by decide) ?_
      refine H.aload s0_453 rfl rfl ?_
      refine H.callVD s0_455 (k_15 hw) (a_54 l hw n0) (i := 3) rfl (argsL := []) (rest := []) rfl rfl rfl rfl (leb rfl) (leb rfl) (leb rfl) (leb rfl) (st' := [.null]) rfl (k' := 5) rfl (n' := 23) rfl ?_
      refine H.ifnonnullF s0_458 ?_
      refine H.iconst s0_461 (v := (1 : Int32)) (by decide) ?_
      refine H.goto s0_462 ?_
      refine H.istore s0_466 (ls' := #[.val (.int p0), .val (.int p1), .val (.int (3 : Int32)), .val (.ref (n0 + 0)), .val (.ref (n0 + 1)), .val (.ref (n0 + 2)), .val (.ref (n0 + 3)), .val (.ref (n0 + 4)), .val (.int (1 : Int32)), .val (.int (0 : Int32)), .val (.ref (n0 + 0)), .val (.ref (n0 + 1)), .val (.int (2 : Int32)), .val (.ref (n0 + 1)), .val (.ref (n0 + 2))]) rfl ?_
      refine H.iload s0_468 rfl ?_
      refine H.ifF s0_470 (show ¬ (1 : Int32) = (0 : Int32) by decide) ?_
      refine H.aload s0_473 rfl rfl ?_
      refine H.callVD s0_475 (k_15 hw) (a_55 l hw n0) (i := 0) rfl (argsL := []) (rest := []) rfl rfl rfl rfl (leb rfl) (leb rfl) (leb rfl) (leb rfl) (st' := [(.ref (n0 + 1))]) rfl (k' := 5) rfl (n' := 23) rfl ?_
      refine H.aload s0_478 rfl rfl ?_
      refine H.acmp s0_480 rfl rfl (same := true) (by simp) ?_
      show G 483 _ _ _ _ _
      refine H.iconst s0_483 (v := (1 : Int32)) (by decide) ?_
      refine H.goto s0_484 ?_
      refine H.istore s0_488 (ls' := #[.val (.int p0), .val (.int p1), .val (.int (3 : Int32)), .val (.ref (n0 + 0)), .val (.ref (n0 + 1)), .val (.ref (n0 + 2)), .val (.ref (n0 + 3)), .val (.ref (n0 + 4)), .val (.int (1 : Int32)), .val (.int (0 : Int32)), .val (.ref (n0 + 0)), .val (.ref (n0 + 1)), .val (.int (2 : Int32)), .val (.ref (n0 + 1)), .val (.ref (n0 + 2))]) rfl ?_
      refine H.iload s0_490 rfl ?_
      exact H.ireturn s0_492 rfl (by simp) rfl rfl (by decide) (by decide)
    · refine H.irem s0_228 (by decide) (w := (1 : Int32)) hz228 ?_
      refine H.istore s0_229 (ls' := #[.val (.int p0), .val (.int p1), .val (.int (3 : Int32)), .val (.ref (n0 + 0)), .val (.ref (n0 + 1)), .val (.ref (n0 + 2)), .val (.ref (n0 + 3)), .val (.ref (n0 + 4)), .val (.int (1 : Int32)), .val (.int (1 : Int32)), .unset, .unset, .unset, .unset, .unset]) rfl ?_
      refine H.iload s0_231 rfl ?_
      refine H.ifT s0_233 (show ¬ (1 : Int32) = (0 : Int32) by decide) ?_
      refine H.iload s0_240 rfl ?_
      refine H.iconst s0_242 (v := (1 : Int32)) (by decide) ?_
      refine H.icmpF s0_243 (show (1 : Int32) = (1 : Int32) by decide) ?_
      refine H.aload s0_246 rfl rfl ?_
      refine H.goto s0_248 ?_
      refine H.astore s0_253 rfl (ls' := #[.val (.int p0), .val (.int p1), .val (.int (3 : Int32)), .val (.ref (n0 + 0)), .val (.ref (n0 + 1)), .val (.ref (n0 + 2)), .val (.ref (n0 + 3)), .val (.ref (n0 + 4)), .val (.int (1 : Int32)), .val (.int (1 : Int32)), .val (.ref (n0 + 1)), .unset, .unset, .unset, .unset]) rfl ?_
      refine H.iload s0_255 rfl ?_
      refine H.iconst s0_257 (v := (1 : Int32)) (by decide) ?_
      refine H.iadd s0_258 (w := (2 : Int32)) (by decide) ?_
      refine H.iloadN s0_259 rfl ?_
      refine H.icmpF s0_260 (show (2 : Int32) < (3 : Int32) by decide) ?_
      refine H.iload s0_263 rfl ?_
      refine H.ifT s0_265 (show ¬ (1 : Int32) = (0 : Int32) by decide) ?_
      refine H.aload s0_273 rfl rfl ?_
      refine H.goto s0_275 ?_
      refine H.astore s0_279 rfl (ls' := #[.val (.int p0), .val (.int p1), .val (.int (3 : Int32)), .val (.ref (n0 + 0)), .val (.ref (n0 + 1)), .val (.ref (n0 + 2)), .val (.ref (n0 + 3)), .val (.ref (n0 + 4)), .val (.int (1 : Int32)), .val (.int (1 : Int32)), .val (.ref (n0 + 1)), .val (.ref (n0 + 2)), .unset, .unset, .unset]) rfl ?_
      refine H.aload s0_281 rfl rfl ?_
      refine H.aload s0_283 rfl rfl ?_
      refine H.callVD s0_285 (k_28 hw) (a_56 l hw n0) (i := 4) rfl (argsL := [(.ref (n0 + 1))]) (rest := []) rfl rfl rfl rfl (leb rfl) (leb rfl) (leb rfl) (leb rfl) (st' := []) rfl (k' := 5) rfl (n' := 23) rfl ?_
      refine H.aload s0_288 rfl rfl ?_
      refine H.aload s0_290 rfl rfl ?_
      refine H.callVD s0_292 (k_21 hw) (a_57 l hw n0) (i := 4) rfl (argsL := [(.ref (n0 + 3))]) (rest := []) rfl rfl rfl rfl (leb rfl) (leb rfl) (leb rfl) (leb rfl) (st' := []) rfl (k' := 5) rfl (n' := 23) rfl ?_
      refine H.iloadN s0_295 rfl ?_
      refine H.iconst s0_296 (v := (1 : Int32)) (by decide) ?_
      refine H.isub s0_297 (w := (2 : Int32)) (by decide) ?_
      refine H.istore s0_298 (ls' := #[.val (.int p0), .val (.int p1), .val (.int (3 : Int32)), .val (.ref (n0 + 0)), .val (.ref (n0 + 1)), .val (.ref (n0 + 2)), .val (.ref (n0 + 3)), .val (.ref (n0 + 4)), .val (.int (1 : Int32)), .val (.int (1 : Int32)), .val (.ref (n0 + 1)), .val (.ref (n0 + 2)), .val (.int (2 : Int32)), .unset, .unset]) rfl ?_
      refine H.iload s0_300 rfl ?_
      refine H.ifT s0_302 (show ¬ (1 : Int32) = (0 : Int32) by decide) ?_
      refine H.aloadN s0_310 rfl rfl ?_
      refine H.astore s0_311 rfl (ls' := #[.val (.int p0), .val (.int p1), .val (.int (3 : Int32)), .val (.ref (n0 + 0)), .val (.ref (n0 + 1)), .val (.ref (n0 + 2)), .val (.ref (n0 + 3)), .val (.ref (n0 + 4)), .val (.int (1 : Int32)), .val (.int (1 : Int32)), .val (.ref (n0 + 1)), .val (.ref (n0 + 2)), .val (.int (2 : Int32)), .val (.ref (n0 + 0)), .unset]) rfl ?_
      refine H.iload s0_313 rfl ?_
      refine H.iconst s0_315 (v := (1 : Int32)) (by decide) ?_
      refine H.icmpF s0_316 (show ¬ (1 : Int32) < (1 : Int32) by decide) ?_
      refine H.aload s0_319 rfl rfl ?_
      refine H.goto s0_321 ?_
      refine H.astore s0_326 rfl (ls' := #[.val (.int p0), .val (.int p1), .val (.int (3 : Int32)), .val (.ref (n0 + 0)), .val (.ref (n0 + 1)), .val (.ref (n0 + 2)), .val (.ref (n0 + 3)), .val (.ref (n0 + 4)), .val (.int (1 : Int32)), .val (.int (1 : Int32)), .val (.ref (n0 + 1)), .val (.ref (n0 + 2)), .val (.int (2 : Int32)), .val (.ref (n0 + 0)), .val (.ref (n0 + 2))]) rfl ?_
      refine H.iload s0_328 rfl ?_
      refine H.ifF s0_330 (show ¬ (1 : Int32) = (0 : Int32) by decide) ?_
      refine H.aload s0_333 rfl rfl ?_
      refine H.callVD s0_335 (k_11 hw) (a_58 l hw n0) (i := 4) rfl (argsL := []) (rest := []) rfl rfl rfl rfl (leb rfl) (leb rfl) (leb rfl) (leb rfl) (st' := [(.int (3 : Int32))]) rfl (k' := 5) rfl (n' := 23) rfl ?_
      refine H.iloadN s0_338 rfl ?_
      refine H.icmpF s0_339 (show (3 : Int32) = (3 : Int32) by decide) ?_
      refine H.iconst s0_342 (v := (1 : Int32)) (by decide) ?_
      refine H.goto s0_343 ?_
      refine H.istore s0_347 (ls' := #[.val (.int p0), .val (.int p1), .val (.int (3 : Int32)), .val (.ref (n0 + 0)), .val (.ref (n0 + 1)), .val (.ref (n0 + 2)), .val (.ref (n0 + 3)), .val (.ref (n0 + 4)), .val (.int (1 : Int32)), .val (.int (1 : Int32)), .val (.ref (n0 + 1)), .val (.ref (n0 + 2)), .val (.int (2 : Int32)), .val (.ref (n0 + 0)), .val (.ref (n0 + 2))]) rfl ?_
      refine H.iload s0_349 rfl ?_
      refine H.ifF s0_351 (show ¬ (1 : Int32) = (0 : Int32) by decide) ?_
      refine H.aload s0_354 rfl rfl ?_
      refine H.callVD s0_356 (k_13 hw) (a_59 l hw n0) (i := 4) rfl (argsL := []) (rest := []) rfl rfl rfl rfl (leb rfl) (leb rfl) (leb rfl) (leb rfl) (st' := [(.ref (n0 + 0))]) rfl (k' := 5) rfl (n' := 23) rfl ?_
      refine H.iload s0_359 rfl ?_
      refine H.ifF s0_361 (show (0 : Int32) < (2 : Int32) by decide) ?_
      refine H.aload s0_364 rfl rfl ?_
      refine H.goto s0_366 ?_
      refine H.acmp s0_371 rfl rfl (same := true) (by simp) ?_
      show G 374 _ _ _ _ _
      refine H.iconst s0_374 (v := (1 : Int32)) (by decide) ?_
      refine H.goto s0_375 ?_
      refine H.istore s0_379 (ls' := #[.val (.int p0), .val (.int p1), .val (.int (3 : Int32)), .val (.ref (n0 + 0)), .val (.ref (n0 + 1)), .val (.ref (n0 + 2)), .val (.ref (n0 + 3)), .val (.ref (n0 + 4)), .val (.int (1 : Int32)), .val (.int (1 : Int32)), .val (.ref (n0 + 1)), .val (.ref (n0 + 2)), .val (.int (2 : Int32)), .val (.ref (n0 + 0)), .val (.ref (n0 + 2))]) rfl ?_
      refine H.iload s0_381 rfl ?_
      refine H.iconst s0_383 (v := (1 : Int32)) (by decide) ?_
      refine H.icmpF s0_384 (show ¬ (2 : Int32) < (1 : Int32) by decide) ?_
      refine H.iload s0_387 rfl ?_
      refine H.ifF s0_389 (show ¬ (1 : Int32) = (0 : Int32) by decide) ?_
      refine H.aload s0_392 rfl rfl ?_
      refine H.callVD s0_394 (k_15 hw) (a_60 l hw n0) (i := 0) rfl (argsL := []) (rest := []) rfl rfl rfl rfl (leb rfl) (leb rfl) (leb rfl) (leb rfl) (st' := [(.ref (n0 + 2))]) rfl (k' := 5) rfl (n' := 23) rfl ?_
      refine H.iload s0_397 rfl ?_
      refine H.iconst s0_399 (v := (1 : Int32)) (by decide) ?_
      refine H.icmpF s0_400 (show (1 : Int32) < (2 : Int32) by decide) ?_
      refine H.aload s0_403 rfl rfl ?_
      refine H.goto s0_405 ?_
      refine H.acmp s0_410 rfl rfl (same := true) (by simp) ?_
      show G 413 _ _ _ _ _
      refine H.iconst s0_413 (v := (1 : Int32)) (by decide) ?_
      refine H.goto s0_414 ?_
      refine H.istore s0_418 (ls' := #[.val (.int p0), .val (.int p1), .val (.int (3 : Int32)), .val (.ref (n0 + 0)), .val (.ref (n0 + 1)), .val (.ref (n0 + 2)), .val (.ref (n0 + 3)), .val (.ref (n0 + 4)), .val (.int (1 : Int32)), .val (.int (1 : Int32)), .val (.ref (n0 + 1)), .val (.ref (n0 + 2)), .val (.int (2 : Int32)), .val (.ref (n0 + 0)), .val (.ref (n0 + 2))]) rfl ?_
      refine H.iload s0_420 rfl ?_
      refine H.iconst s0_422 (v := (2 : Int32)) (by decide) ?_
      refine H.icmpF s0_423 (show ¬ (2 : Int32) < (2 : Int32) by decide) ?_
      refine H.iload s0_426 rfl ?_
      refine H.ifF s0_428 (show ¬ (1 : Int32) = (0 : Int32) by decide) ?_
      refine H.aload s0_431 rfl rfl ?_
      refine H.callVD s0_433 (k_15 hw) (a_61 l hw n0) (i := 2) rfl (argsL := []) (rest := []) rfl rfl rfl rfl (leb rfl) (leb rfl) (leb rfl) (leb rfl) (st' := [(.ref (n0 + 3))]) rfl (k' := 5) rfl (n' := 23) rfl ?_
      refine H.aload s0_436 rfl rfl ?_
      refine H.acmp s0_438 rfl rfl (same := true) (by simp) ?_
      show G 441 _ _ _ _ _
      refine H.iconst s0_441 (v := (1 : Int32)) (by decide) ?_
      refine H.goto s0_442 ?_
      refine H.istore s0_446 (ls' := #[.val (.int p0), .val (.int p1), .val (.int (3 : Int32)), .val (.ref (n0 + 0)), .val (.ref (n0 + 1)), .val (.ref (n0 + 2)), .val (.ref (n0 + 3)), .val (.ref (n0 + 4)), .val (.int (1 : Int32)), .val (.int (1 : Int32)), .val (.ref (n0 + 1)), .val (.ref (n0 + 2)), .val (.int (2 : Int32)), .val (.ref (n0 + 0)), .val (.ref (n0 + 2))]) rfl ?_
      refine H.iload s0_448 rfl ?_
      refine H.ifF s0_450 (show ¬ (1 : Int32) = (0 : Int32) by decide) ?_
      refine H.aload s0_453 rfl rfl ?_
      refine H.callVD s0_455 (k_15 hw) (a_62 l hw n0) (i := 3) rfl (argsL := []) (rest := []) rfl rfl rfl rfl (leb rfl) (leb rfl) (leb rfl) (leb rfl) (st' := [.null]) rfl (k' := 5) rfl (n' := 23) rfl ?_
      refine H.ifnonnullF s0_458 ?_
      refine H.iconst s0_461 (v := (1 : Int32)) (by decide) ?_
      refine H.goto s0_462 ?_
      refine H.istore s0_466 (ls' := #[.val (.int p0), .val (.int p1), .val (.int (3 : Int32)), .val (.ref (n0 + 0)), .val (.ref (n0 + 1)), .val (.ref (n0 + 2)), .val (.ref (n0 + 3)), .val (.ref (n0 + 4)), .val (.int (1 : Int32)), .val (.int (1 : Int32)), .val (.ref (n0 + 1)), .val (.ref (n0 + 2)), .val (.int (2 : Int32)), .val (.ref (n0 + 0)), .val (.ref (n0 + 2))]) rfl ?_
      refine H.iload s0_468 rfl ?_
      refine H.ifF s0_470 (show ¬ (1 : Int32) = (0 : Int32) by decide) ?_
      refine H.aload s0_473 rfl rfl ?_
      refine H.callVD s0_475 (k_15 hw) (a_63 l hw n0) (i := 1) rfl (argsL := []) (rest := []) rfl rfl rfl rfl (leb rfl) (leb rfl) (leb rfl) (leb rfl) (st' := [(.ref (n0 + 2))]) rfl (k' := 5) rfl (n' := 23) rfl ?_
      refine H.aload s0_478 rfl rfl ?_
      refine H.acmp s0_480 rfl rfl (same := true) (by simp) ?_
      show G 483 _ _ _ _ _
      refine H.iconst s0_483 (v := (1 : Int32)) (by decide) ?_
      refine H.goto s0_484 ?_
      refine H.istore s0_488 (ls' := #[.val (.int p0), .val (.int p1), .val (.int (3 : Int32)), .val (.ref (n0 + 0)), .val (.ref (n0 + 1)), .val (.ref (n0 + 2)), .val (.ref (n0 + 3)), .val (.ref (n0 + 4)), .val (.int (1 : Int32)), .val (.int (1 : Int32)), .val (.ref (n0 + 1)), .val (.ref (n0 + 2)), .val (.int (2 : Int32)), .val (.ref (n0 + 0)), .val (.ref (n0 + 2))]) rfl ?_
      refine H.iload s0_490 rfl ?_
      exact H.ireturn s0_492 rfl (by simp) rfl rfl (by decide) (by decide)
    · refine H.irem s0_228 (by decide) (w := (2 : Int32)) hz228 ?_
      refine H.istore s0_229 (ls' := #[.val (.int p0), .val (.int p1), .val (.int (3 : Int32)), .val (.ref (n0 + 0)), .val (.ref (n0 + 1)), .val (.ref (n0 + 2)), .val (.ref (n0 + 3)), .val (.ref (n0 + 4)), .val (.int (1 : Int32)), .val (.int (2 : Int32)), .unset, .unset, .unset, .unset, .unset]) rfl ?_
      refine H.iload s0_231 rfl ?_
      refine H.ifT s0_233 (show ¬ (2 : Int32) = (0 : Int32) by decide) ?_
      refine H.iload s0_240 rfl ?_
      refine H.iconst s0_242 (v := (1 : Int32)) (by decide) ?_
      refine H.icmpT s0_243 (show ¬ (2 : Int32) = (1 : Int32) by decide) ?_
      refine H.aload s0_251 rfl rfl ?_
      refine H.astore s0_253 rfl (ls' := #[.val (.int p0), .val (.int p1), .val (.int (3 : Int32)), .val (.ref (n0 + 0)), .val (.ref (n0 + 1)), .val (.ref (n0 + 2)), .val (.ref (n0 + 3)), .val (.ref (n0 + 4)), .val (.int (1 : Int32)), .val (.int (2 : Int32)), .val (.ref (n0 + 2)), .unset, .unset, .unset, .unset]) rfl ?_
      refine H.iload s0_255 rfl ?_
      refine H.iconst s0_257 (v := (1 : Int32)) (by decide) ?_
      refine H.iadd s0_258 (w := (3 : Int32)) (by decide) ?_
      refine H.iloadN s0_259 rfl ?_
      refine H.icmpT s0_260 (show ¬ (3 : Int32) < (3 : Int32) by decide) ?_
      refine H.aconstNull s0_278 ?_
      refine H.astore s0_279 rfl (ls' := #[.val (.int p0), .val (.int p1), .val (.int (3 : Int32)), .val (.ref (n0 + 0)), .val (.ref (n0 + 1)), .val (.ref (n0 + 2)), .val (.ref (n0 + 3)), .val (.ref (n0 + 4)), .val (.int (1 : Int32)), .val (.int (2 : Int32)), .val (.ref (n0 + 2)), .val .null, .unset, .unset, .unset]) rfl ?_
      refine H.aload s0_281 rfl rfl ?_
      refine H.aload s0_283 rfl rfl ?_
      refine H.callVD s0_285 (k_28 hw) (a_64 l hw n0) (i := 4) rfl (argsL := [(.ref (n0 + 2))]) (rest := []) rfl rfl rfl rfl (leb rfl) (leb rfl) (leb rfl) (leb rfl) (st' := []) rfl (k' := 5) rfl (n' := 23) rfl ?_
      refine H.aload s0_288 rfl rfl ?_
      refine H.aload s0_290 rfl rfl ?_
      refine H.callVD s0_292 (k_21 hw) (a_65 l hw n0) (i := 4) rfl (argsL := [(.ref (n0 + 3))]) (rest := []) rfl rfl rfl rfl (leb rfl) (leb rfl) (leb rfl) (leb rfl) (st' := []) rfl (k' := 5) rfl (n' := 23) rfl ?_
      refine H.iloadN s0_295 rfl ?_
      refine H.iconst s0_296 (v := (1 : Int32)) (by decide) ?_
      refine H.isub s0_297 (w := (2 : Int32)) (by decide) ?_
      refine H.istore s0_298 (ls' := #[.val (.int p0), .val (.int p1), .val (.int (3 : Int32)), .val (.ref (n0 + 0)), .val (.ref (n0 + 1)), .val (.ref (n0 + 2)), .val (.ref (n0 + 3)), .val (.ref (n0 + 4)), .val (.int (1 : Int32)), .val (.int (2 : Int32)), .val (.ref (n0 + 2)), .val .null, .val (.int (2 : Int32)), .unset, .unset]) rfl ?_
      refine H.iload s0_300 rfl ?_
      refine H.ifT s0_302 (show ¬ (2 : Int32) = (0 : Int32) by decide) ?_
      refine H.aloadN s0_310 rfl rfl ?_
      refine H.astore s0_311 rfl (ls' := #[.val (.int p0), .val (.int p1), .val (.int (3 : Int32)), .val (.ref (n0 + 0)), .val (.ref (n0 + 1)), .val (.ref (n0 + 2)), .val (.ref (n0 + 3)), .val (.ref (n0 + 4)), .val (.int (1 : Int32)), .val (.int (2 : Int32)), .val (.ref (n0 + 2)), .val .null, .val (.int (2 : Int32)), .val (.ref (n0 + 0)), .unset]) rfl ?_
      refine H.iload s0_313 rfl ?_
      refine H.iconst s0_315 (v := (1 : Int32)) (by decide) ?_
      refine H.icmpT s0_316 (show (1 : Int32) < (2 : Int32) by decide) ?_
      refine H.aload s0_324 rfl rfl ?_
      refine H.astore s0_326 rfl (ls' := #[.val (.int p0), .val (.int p1), .val (.int (3 : Int32)), .val (.ref (n0 + 0)), .val (.ref (n0 + 1)), .val (.ref (n0 + 2)), .val (.ref (n0 + 3)), .val (.ref (n0 + 4)), .val (.int (1 : Int32)), .val (.int (2 : Int32)), .val (.ref (n0 + 2)), .val .null, .val (.int (2 : Int32)), .val (.ref (n0 + 0)), .val (.ref (n0 + 1))]) rfl ?_
      refine H.iload s0_328 rfl ?_
      refine H.ifF s0_330 (show ¬ (1 : Int32) = (0 : Int32) by decide) ?_
      refine H.aload s0_333 rfl rfl ?_
      refine H.callVD s0_335 (k_11 hw) (a_66 l hw n0) (i := 4) rfl (argsL := []) (rest := []) rfl rfl rfl rfl (leb rfl) (leb rfl) (leb rfl) (leb rfl) (st' := [(.int (3 : Int32))]) rfl (k' := 5) rfl (n' := 23) rfl ?_
      refine H.iloadN s0_338 rfl ?_
      refine H.icmpF s0_339 (show (3 : Int32) = (3 : Int32) by decide) ?_
      refine H.iconst s0_342 (v := (1 : Int32)) (by decide) ?_
      refine H.goto s0_343 ?_
      refine H.istore s0_347 (ls' := #[.val (.int p0), .val (.int p1), .val (.int (3 : Int32)), .val (.ref (n0 + 0)), .val (.ref (n0 + 1)), .val (.ref (n0 + 2)), .val (.ref (n0 + 3)), .val (.ref (n0 + 4)), .val (.int (1 : Int32)), .val (.int (2 : Int32)), .val (.ref (n0 + 2)), .val .null, .val (.int (2 : Int32)), .val (.ref (n0 + 0)), .val (.ref (n0 + 1))]) rfl ?_
      refine H.iload s0_349 rfl ?_
      refine H.ifF s0_351 (show ¬ (1 : Int32) = (0 : Int32) by decide) ?_
      refine H.aload s0_354 rfl rfl ?_
      refine H.callVD s0_356 (k_13 hw) (a_67 l hw n0) (i := 4) rfl (argsL := []) (rest := []) rfl rfl rfl rfl (leb rfl) (leb rfl) (leb rfl) (leb rfl) (st' := [(.ref (n0 + 0))]) rfl (k' := 5) rfl (n' := 23) rfl ?_
      refine H.iload s0_359 rfl ?_
      refine H.ifF s0_361 (show (0 : Int32) < (2 : Int32) by decide) ?_
      refine H.aload s0_364 rfl rfl ?_
      refine H.goto s0_366 ?_
      refine H.acmp s0_371 rfl rfl (same := true) (by simp) ?_
      show G 374 _ _ _ _ _
      refine H.iconst s0_374 (v := (1 : Int32)) (by decide) ?_
      refine H.goto s0_375 ?_
      refine H.istore s0_379 (ls' := #[.val (.int p0), .val (.int p1), .val (.int (3 : Int32)), .val (.ref (n0 + 0)), .val (.ref (n0 + 1)), .val (.ref (n0 + 2)), .val (.ref (n0 + 3)), .val (.ref (n0 + 4)), .val (.int (1 : Int32)), .val (.int (2 : Int32)), .val (.ref (n0 + 2)), .val .null, .val (.int (2 : Int32)), .val (.ref (n0 + 0)), .val (.ref (n0 + 1))]) rfl ?_
      refine H.iload s0_381 rfl ?_
      refine H.iconst s0_383 (v := (1 : Int32)) (by decide) ?_
      refine H.icmpF s0_384 (show ¬ (2 : Int32) < (1 : Int32) by decide) ?_
      refine H.iload s0_387 rfl ?_
      refine H.ifF s0_389 (show ¬ (1 : Int32) = (0 : Int32) by decide) ?_
      refine H.aload s0_392 rfl rfl ?_
      refine H.callVD s0_394 (k_15 hw) (a_68 l hw n0) (i := 0) rfl (argsL := []) (rest := []) rfl rfl rfl rfl (leb rfl) (leb rfl) (leb rfl) (leb rfl) (st' := [(.ref (n0 + 1))]) rfl (k' := 5) rfl (n' := 23) rfl ?_
      refine H.iload s0_397 rfl ?_
      refine H.iconst s0_399 (v := (1 : Int32)) (by decide) ?_
      refine H.icmpF s0_400 (show (1 : Int32) < (2 : Int32) by decide) ?_
      refine H.aload s0_403 rfl rfl ?_
      refine H.goto s0_405 ?_
      refine H.acmp s0_410 rfl rfl (same := true) (by simp) ?_
      show G 413 _ _ _ _ _
      refine H.iconst s0_413 (v := (1 : Int32)) (by decide) ?_
      refine H.goto s0_414 ?_
      refine H.istore s0_418 (ls' := #[.val (.int p0), .val (.int p1), .val (.int (3 : Int32)), .val (.ref (n0 + 0)), .val (.ref (n0 + 1)), .val (.ref (n0 + 2)), .val (.ref (n0 + 3)), .val (.ref (n0 + 4)), .val (.int (1 : Int32)), .val (.int (2 : Int32)), .val (.ref (n0 + 2)), .val .null, .val (.int (2 : Int32)), .val (.ref (n0 + 0)), .val (.ref (n0 + 1))]) rfl ?_
      refine H.iload s0_420 rfl ?_
      refine H.iconst s0_422 (v := (2 : Int32)) (by decide) ?_
      refine H.icmpF s0_423 (show ¬ (2 : Int32) < (2 : Int32) by decide) ?_
      refine H.iload s0_426 rfl ?_
      refine H.ifF s0_428 (show ¬ (1 : Int32) = (0 : Int32) by decide) ?_
      refine H.aload s0_431 rfl rfl ?_
      refine H.callVD s0_433 (k_15 hw) (a_69 l hw n0) (i := 1) rfl (argsL := []) (rest := []) rfl rfl rfl rfl (leb rfl) (leb rfl) (leb rfl) (leb rfl) (st' := [(.ref (n0 + 3))]) rfl (k' := 5) rfl (n' := 23) rfl ?_
      refine H.aload s0_436 rfl rfl ?_
      refine H.acmp s0_438 rfl rfl (same := true) (by simp) ?_
      show G 441 _ _ _ _ _
      refine H.iconst s0_441 (v := (1 : Int32)) (by decide) ?_
      refine H.goto s0_442 ?_
      refine H.istore s0_446 (ls' := #[.val (.int p0), .val (.int p1), .val (.int (3 : Int32)), .val (.ref (n0 + 0)), .val (.ref (n0 + 1)), .val (.ref (n0 + 2)), .val (.ref (n0 + 3)), .val (.ref (n0 + 4)), .val (.int (1 : Int32)), .val (.int (2 : Int32)), .val (.ref (n0 + 2)), .val .null, .val (.int (2 : Int32)), .val (.ref (n0 + 0)), .val (.ref (n0 + 1))]) rfl ?_
      refine H.iload s0_448 rfl ?_
      refine H.ifF s0_450 (show ¬ (1 : Int32) = (0 : Int32) by decide) ?_
      refine H.aload s0_453 rfl rfl ?_
      refine H.callVD s0_455 (k_15 hw) (a_70 l hw n0) (i := 3) rfl (argsL := []) (rest := []) rfl rfl rfl rfl (leb rfl) (leb rfl) (leb rfl) (leb rfl) (st' := [.null]) rfl (k' := 5) rfl (n' := 23) rfl ?_
      refine H.ifnonnullF s0_458 ?_
      refine H.iconst s0_461 (v := (1 : Int32)) (by decide) ?_
      refine H.goto s0_462 ?_
      refine H.istore s0_466 (ls' := #[.val (.int p0), .val (.int p1), .val (.int (3 : Int32)), .val (.ref (n0 + 0)), .val (.ref (n0 + 1)), .val (.ref (n0 + 2)), .val (.ref (n0 + 3)), .val (.ref (n0 + 4)), .val (.int (1 : Int32)), .val (.int (2 : Int32)), .val (.ref (n0 + 2)), .val .null, .val (.int (2 : Int32)), .val (.ref (n0 + 0)), .val (.ref (n0 + 1))]) rfl ?_
      refine H.iload s0_468 rfl ?_
      refine H.ifF s0_470 (show ¬ (1 : Int32) = (0 : Int32) by decide) ?_
      refine H.aload s0_473 rfl rfl ?_
      refine H.callVD s0_475 (k_15 hw) (a_71 l hw n0) (i := 2) rfl (argsL := []) (rest := []) rfl rfl rfl rfl (leb rfl) (leb rfl) (leb rfl) (leb rfl) (st' := [.null]) rfl (k' := 5) rfl (n' := 23) rfl ?_
      refine H.aload s0_478 rfl rfl ?_
      refine H.acmp s0_480 rfl rfl (same := true) (by simp) ?_
      show G 483 _ _ _ _ _
      refine H.iconst s0_483 (v := (1 : Int32)) (by decide) ?_
      refine H.goto s0_484 ?_
      refine H.istore s0_488 (ls' := #[.val (.int p0), .val (.int p1), .val (.int (3 : Int32)), .val (.ref (n0 + 0)), .val (.ref (n0 + 1)), .val (.ref (n0 + 2)), .val (.ref (n0 + 3)), .val (.ref (n0 + 4)), .val (.int (1 : Int32)), .val (.int (2 : Int32)), .val (.ref (n0 + 2)), .val .null, .val (.int (2 : Int32)), .val (.ref (n0 + 0)), .val (.ref (n0 + 1))]) rfl ?_
      refine H.iload s0_490 rfl ?_
      exact H.ireturn s0_492 rfl (by simp) rfl rfl (by decide) (by decide)

set_option maxRecDepth 65536 in
set_option maxHeartbeats 40000000 in
theorem comes_1 {Post : Tables → Env → Array Value → State → Outcome → State → Prop} (hpost : ∀ tb e args s v u, (limb_1_1.after args s (.returned v) u = true ∧ limb_1_2.after args s (.returned v) u = true ∧ True) → FrameEnd s (.returned v) u (Jvm.fieldLocs frame_1_writes args s ++ Jvm.arrayLocs frame_1_arrays args s ++ Jvm.staticLocs frame_1_statics s) 24 128 → Post tb e args s (.returned v) u) :
    ArmFor flags0 classFile x code maxLocals ret World_1 tables_1 room_1 Calls_1 rest_1 Pre_1 Post := by
  intro l hfl _ _ p e ha hc hk s m args below hf hA hF happ hP
  obtain ⟨hcalls, hrest, hpre⟩ := hP
  obtain ⟨-, -, -, hnamed, -, -, -, hat⟩ := (Spec.applies_iff hf).mp happ
  obtain ⟨hg, hn⟩ := and_e (Cond.before_iff.mp (show (Jvm.Cond.and given_1 narrow_1).before args s = true from hpre))
  obtain ⟨hc0, hr0⟩ := and_e hg
  obtain ⟨w0, w1, rfl⟩ : ∃ w0 w1 : Value, args = #[w0, w1] := by
    have hs : args.size = 2 := by simpa [Cond.value, given_1] using hc0
    obtain ⟨L⟩ := args
    match L, hs with
    | [w0, w1], _ => exact ⟨w0, w1, rfl⟩
  have hw : HW1 s _ := fun d (hd : d ∈ tables_1) => atoms_spec (ws := Jvm.Cond.code x code maxLocals ret :: tables_1) hat d (List.mem_cons_of_mem _ hd)
  obtain ⟨hx0, hr1⟩ := and_e hr0
  obtain ⟨i0, ee0⟩ := is_v hx0
  obtain rfl : w0 = (.int i0) := Option.some.inj ee0
  have hx1 := hr1
  obtain ⟨i1, ee1⟩ := is_v hx1
  obtain rfl : w1 = (.int i1) := Option.some.inj ee1
  obtain ⟨n, o, h1, h2, h3, _, L, rfl, ⟨A', rfl, hRel, N⟩, hq⟩ := law_met l hw s.heap.size i0 i1 tables_1 s.heap ⟨rfl, fun i o h => by simp at h⟩ p e ha hc hk s m _ below hf ((Spec.applies_iff_loose hf).mp happ).1 ⟨rfl, State.Warmed39.refl s, rfl⟩ trivial
  refine ⟨n, _, h1, h2, h3, hpost _ _ _ _ _ _ ⟨Cond.after_iff.mpr rfl, Cond.after_iff.mpr (eq_i res_at (Term.int_eval (1)) rfl), trivial⟩ ⟨hq.1, hq.2.1, (hq.2.2.sift fun y hy => Or.inr (N y hy)).mono (by decide) (by decide)⟩⟩
theorem main_1_1 : Claimed_1_1 := comes_1 fun _ _ _ _ _ _ h hF => ⟨h.1, hF⟩
theorem main_1_2 : Claimed_1_2 := comes_1 fun _ _ _ _ _ _ h hF => ⟨h.2.1, hF⟩
end Jvm.Pilot.@@N@@
namespace Jvm.Pilot.@@N@@
open Jvm Jvm.ClassFile Sem Op Lib Jvm.Free Jvm.Stand Jvm.Pilot.@@N@@.Jvm.D
/-! MADE BY PROGRAM (witnessworld.py) out of the Statement's table words and the real class files: 10 classes; the members and pool entries that the words name. The judged class is class 1, her method 1. -/
namespace start1
open Jvm.ClassFile
def u (s : String) : CpInfo := .utf8 (stringToUtf16 s)
/-- a pool by its gaps: so many unusable entries, then the entry; so many at the end -/
def gap : Nat → List CpInfo → List CpInfo
  | 0, r => r
  | n + 1, r => .unusable :: gap n r
def poolList (es : List (Nat × CpInfo)) (last : Nat) : List CpInfo := es.foldr (fun e r => gap e.1 (e.2 :: r)) (gap last [])
def pool (es : List (Nat × CpInfo)) (last : Nat) : Array CpInfo := ⟨poolList es last⟩
def fileOf (pool : Array CpInfo) (this : Nat) (attrs : Array Attribute := #[]) (ms : Array MethodInfo := #[]) (fl : Nat := 33) (sup : Nat := 0) (ifs : Array Nat := #[]) (fds : Array FieldInfo := #[]) : ClassFile where
  minorVersion := 0
  majorVersion := 65
  constantPool := pool
  accessFlags := fl
  thisClass := this
  superClass := sup
  interfaces := ifs
  fields := fds
  methods := ms
  attributes := attrs
def plain (name : String) (sup : Option ClassId) : Class where
  name := name
  kind := .ordinary
  loader := none
  accessFlags := 33
  super := sup
  interfaces := #[]
  cf := none
  fields := #[]
  methods := #[]
  instanceTypes := #[]
  staticTypes := #[]
  resolved := #[]
  callSites := []
  init := .initialized
  statics := none
  mirror := none

def pool0 : Array CpInfo := pool [(5, u "<init>"), (0, u "()V"), (1, .class_ 10), (1, u "java/lang/Object")] 113

def k0c0 : Code := { maxStack := 0, maxLocals := 1, code := object_method_1_code, exceptionTable := #[], attributes := #[] }
def k0m0 : Method := { name := "<init>", desc := "()V", sig := { parameters := [], returnType := none }, accessFlags := 1, code := some k0c0 }
/-- java/lang/Object -/
def k0 : Class := { plain "java/lang/Object" none with
  accessFlags := 33
  interfaces := #[]
  cf := some (fileOf pool0 8 #[] #[{ accessFlags := 1, nameIndex := 5, descriptorIndex := 6, attributes := #[] }] 33 0 #[] #[])
  fields := #[]
  methods := #[k0m0]
  instanceTypes := #[]
  staticTypes := #[]
  resolved := Array.replicate 124 none
  statics := none }

def pool1 : Array CpInfo := pool [(2, .class_ 4), (0, .nameAndType 5 6), (0, u "java/lang/Object"), (0, u "<init>"), (0, u "()V"), (0, .class_ 8), (0, u "com/example/nano_acl/nanoacl/principal/Membership"), (0, .methodref 7 10), (0, .nameAndType 5 11), (0, u "(Lcom/example/nano_acl/nanoacl/principal/Account;Lcom/example/nano_acl/nanoacl/principal/Account;)V"), (0, .class_ 13), (0, u "com/example/nano_acl/nanoacl/principal/Membership$MemberList"), (0, .methodref 12 3), (0, .methodref 12 16), (0, .nameAndType 17 18), (0, u "append"), (0, u "(Lcom/example/nano_acl/nanoacl/principal/Membership;)V"), (0, .methodref 12 20), (0, .nameAndType 21 22), (0, u "size"), (0, u "()I"), (0, .methodref 12 24), (0, .nameAndType 25 26), (0, u "first"), (0, u "()Lcom/example/nano_acl/nanoacl/principal/Membership;"), (0, .methodref 7 28), (0, .nameAndType 29 26), (0, u "next"), (0, .integer 2147483647), (0, .methodref 12 32), (0, .nameAndType 33 18), (0, u "unlink"), (0, .class_ 35), (0, u "com/example/nano_acl/nanoacl/principal/MemberListAppendPinLaw"), (2, u "law"), (0, u "(II)Z")] 5

def k1m0 : Method := { name := "<init>", desc := "()V", sig := { parameters := [], returnType := none }, accessFlags := 2, code := none }
def k1c1 : Code := { maxStack := 4, maxLocals := 15, code := code, exceptionTable := #[], attributes := #[] }
def k1m1 : Method := { name := "law", desc := "(II)Z", sig := { parameters := [.int, .int], returnType := some .boolean }, accessFlags := 9, code := some k1c1 }
/-- com/example/nano_acl/nanoacl/principal/MemberListAppendPinLaw -/
def k1 : Class := { plain "com/example/nano_acl/nanoacl/principal/MemberListAppendPinLaw" (some 0) with
  accessFlags := 49
  interfaces := #[]
  cf := some (fileOf pool1 34 #[] #[{ accessFlags := 2, nameIndex := 5, descriptorIndex := 6, attributes := #[] }, { accessFlags := 9, nameIndex := 38, descriptorIndex := 39, attributes := #[] }] 49 2 #[] #[])
  fields := #[]
  methods := #[k1m0, k1m1]
  instanceTypes := #[]
  staticTypes := #[]
  resolved := Array.replicate 45 none
  statics := none }

def pool2 : Array CpInfo := pool [(1, .methodref 2 3), (0, .class_ 4), (0, .nameAndType 5 6), (0, u "java/lang/Object"), (0, u "<init>"), (0, u "()V"), (0, .fieldref 8 9), (0, .class_ 10), (0, .nameAndType 11 12), (0, u "com/example/nano_acl/nanoacl/principal/Membership"), (0, u "group"), (0, u "Lcom/example/nano_acl/nanoacl/principal/Account;"), (0, .fieldref 8 14), (0, .nameAndType 15 12), (0, u "member"), (0, .fieldref 8 17), (0, .nameAndType 18 19), (0, u "next"), (0, u "Lcom/example/nano_acl/nanoacl/principal/Membership;"), (2, u "nextOfMember"), (0, u "previous"), (0, u "(Lcom/example/nano_acl/nanoacl/principal/Account;Lcom/example/nano_acl/nanoacl/principal/Account;)V"), (3, u "()Lcom/example/nano_acl/nanoacl/principal/Membership;"), (5, .class_ 35), (0, u "com/example/nano_acl/nanoacl/principal/Membership$MemberList")] 2

def k2c0 : Code := { maxStack := 2, maxLocals := 3, code := prog_49_method_1_code, exceptionTable := #[], attributes := #[] }
def k2m0 : Method := { name := "<init>", desc := "(Lcom/example/nano_acl/nanoacl/principal/Account;Lcom/example/nano_acl/nanoacl/principal/Account;)V", sig := { parameters := [(.object "com/example/nano_acl/nanoacl/principal/Account"), (.object "com/example/nano_acl/nanoacl/principal/Account")], returnType := none }, accessFlags := 0, code := some k2c0 }
def k2c1 : Code := { maxStack := 1, maxLocals := 1, code := prog_49_method_4_code, exceptionTable := #[], attributes := #[] }
def k2m1 : Method := { name := "next", desc := "()Lcom/example/nano_acl/nanoacl/principal/Membership;", sig := { parameters := [], returnType := some (.object "com/example/nano_acl/nanoacl/principal/Membership") }, accessFlags := 0, code := some k2c1 }
/-- com/example/nano_acl/nanoacl/principal/Membership -/
def k2 : Class := { plain "com/example/nano_acl/nanoacl/principal/Membership" (some 0) with
  accessFlags := 48
  interfaces := #[]
  cf := some (fileOf pool2 8 #[.nestMembers #[34]] #[{ accessFlags := 0, nameIndex := 5, descriptorIndex := 24, attributes := #[] }, { accessFlags := 0, nameIndex := 18, descriptorIndex := 28, attributes := #[] }] 48 2 #[] #[{ accessFlags := 18, nameIndex := 11, descriptorIndex := 12, attributes := #[] }, { accessFlags := 18, nameIndex := 15, descriptorIndex := 12, attributes := #[] }, { accessFlags := 2, nameIndex := 23, descriptorIndex := 19, attributes := #[] }, { accessFlags := 2, nameIndex := 18, descriptorIndex := 19, attributes := #[] }, { accessFlags := 2, nameIndex := 22, descriptorIndex := 19, attributes := #[] }])
  fields := #[{ name := "group", type := (.object "com/example/nano_acl/nanoacl/principal/Account"), accessFlags := 18, slot := 0, constantValue := 0 }, { name := "member", type := (.object "com/example/nano_acl/nanoacl/principal/Account"), accessFlags := 18, slot := 1, constantValue := 0 }, { name := "previous", type := (.object "com/example/nano_acl/nanoacl/principal/Membership"), accessFlags := 2, slot := 2, constantValue := 0 }, { name := "next", type := (.object "com/example/nano_acl/nanoacl/principal/Membership"), accessFlags := 2, slot := 3, constantValue := 0 }, { name := "nextOfMember", type := (.object "com/example/nano_acl/nanoacl/principal/Membership"), accessFlags := 2, slot := 4, constantValue := 0 }]
  methods := #[k2m0, k2m1]
  instanceTypes := #[(.object "com/example/nano_acl/nanoacl/principal/Account"), (.object "com/example/nano_acl/nanoacl/principal/Account"), (.object "com/example/nano_acl/nanoacl/principal/Membership"), (.object "com/example/nano_acl/nanoacl/principal/Membership"), (.object "com/example/nano_acl/nanoacl/principal/Membership")]
  staticTypes := #[]
  resolved := Array.replicate 38 none
  statics := none }

def pool3 : Array CpInfo := pool [(1, .methodref 2 3), (0, .class_ 4), (0, .nameAndType 5 6), (0, u "java/lang/Object"), (0, u "<init>"), (0, u "()V"), (0, .fieldref 8 9), (0, .class_ 10), (0, .nameAndType 11 12), (0, u "com/example/nano_acl/nanoacl/principal/Membership$MemberList"), (0, u "size"), (0, u "I"), (0, .fieldref 8 14), (0, .nameAndType 15 16), (0, u "first"), (0, u "Lcom/example/nano_acl/nanoacl/principal/Membership;"), (0, .fieldref 8 18), (0, .nameAndType 19 16), (0, u "last"), (0, .fieldref 21 22), (0, .class_ 23), (0, .nameAndType 24 16), (0, u "com/example/nano_acl/nanoacl/principal/Membership"), (0, u "previous"), (0, .fieldref 21 26), (0, .nameAndType 27 16), (0, u "next"), (2, u "()I"), (0, u "()Lcom/example/nano_acl/nanoacl/principal/Membership;"), (0, u "append"), (0, u "(Lcom/example/nano_acl/nanoacl/principal/Membership;)V"), (1, u "unlink")] 6

def k3c0 : Code := { maxStack := 1, maxLocals := 1, code := prog_50_method_1_code, exceptionTable := #[], attributes := #[] }
def k3m0 : Method := { name := "<init>", desc := "()V", sig := { parameters := [], returnType := none }, accessFlags := 0, code := some k3c0 }
def k3c1 : Code := { maxStack := 1, maxLocals := 1, code := prog_50_method_2_code, exceptionTable := #[], attributes := #[] }
def k3m1 : Method := { name := "size", desc := "()I", sig := { parameters := [], returnType := some .int }, accessFlags := 0, code := some k3c1 }
def k3c2 : Code := { maxStack := 1, maxLocals := 1, code := prog_50_method_3_code, exceptionTable := #[], attributes := #[] }
def k3m2 : Method := { name := "first", desc := "()Lcom/example/nano_acl/nanoacl/principal/Membership;", sig := { parameters := [], returnType := some (.object "com/example/nano_acl/nanoacl/principal/Membership") }, accessFlags := 0, code := some k3c2 }
def k3c3 : Code := { maxStack := 3, maxLocals := 2, code := prog_50_method_4_code, exceptionTable := #[], attributes := #[] }
def k3m3 : Method := { name := "append", desc := "(Lcom/example/nano_acl/nanoacl/principal/Membership;)V", sig := { parameters := [(.object "com/example/nano_acl/nanoacl/principal/Membership")], returnType := none }, accessFlags := 0, code := some k3c3 }
def k3c4 : Code := { maxStack := 3, maxLocals := 2, code := prog_50_method_5_code, exceptionTable := #[], attributes := #[] }
def k3m4 : Method := { name := "unlink", desc := "(Lcom/example/nano_acl/nanoacl/principal/Membership;)V", sig := { parameters := [(.object "com/example/nano_acl/nanoacl/principal/Membership")], returnType := none }, accessFlags := 0, code := some k3c4 }
/-- com/example/nano_acl/nanoacl/principal/Membership$MemberList -/
def k3 : Class := { plain "com/example/nano_acl/nanoacl/principal/Membership$MemberList" (some 0) with
  accessFlags := 48
  interfaces := #[]
  cf := some (fileOf pool3 8 #[.nestHost 21] #[{ accessFlags := 0, nameIndex := 5, descriptorIndex := 6, attributes := #[] }, { accessFlags := 0, nameIndex := 11, descriptorIndex := 30, attributes := #[] }, { accessFlags := 0, nameIndex := 15, descriptorIndex := 31, attributes := #[] }, { accessFlags := 0, nameIndex := 32, descriptorIndex := 33, attributes := #[] }, { accessFlags := 0, nameIndex := 35, descriptorIndex := 33, attributes := #[] }] 48 2 #[] #[{ accessFlags := 2, nameIndex := 15, descriptorIndex := 16, attributes := #[] }, { accessFlags := 2, nameIndex := 19, descriptorIndex := 16, attributes := #[] }, { accessFlags := 2, nameIndex := 11, descriptorIndex := 12, attributes := #[] }])
  fields := #[{ name := "first", type := (.object "com/example/nano_acl/nanoacl/principal/Membership"), accessFlags := 2, slot := 0, constantValue := 0 }, { name := "last", type := (.object "com/example/nano_acl/nanoacl/principal/Membership"), accessFlags := 2, slot := 1, constantValue := 0 }, { name := "size", type := .int, accessFlags := 2, slot := 2, constantValue := 0 }]
  methods := #[k3m0, k3m1, k3m2, k3m3, k3m4]
  instanceTypes := #[(.object "com/example/nano_acl/nanoacl/principal/Membership"), (.object "com/example/nano_acl/nanoacl/principal/Membership"), .int]
  staticTypes := #[]
  resolved := Array.replicate 42 none
  statics := none }

def pool4 : Array CpInfo := pool [(1, u "java/lang/Cloneable"), (0, .class_ 1), (0, u "java/lang/Object"), (0, .class_ 3)] 3

/-- java/lang/Cloneable -/
def k4 : Class := { plain "java/lang/Cloneable" (some 0) with
  accessFlags := 1537
  interfaces := #[]
  cf := some (fileOf pool4 2 #[] #[] 1537 4 #[] #[])
  fields := #[]
  methods := #[]
  instanceTypes := #[]
  staticTypes := #[]
  resolved := Array.replicate 8 none
  statics := none }

def pool5 : Array CpInfo := pool [(1, u "java/io/Serializable"), (0, .class_ 1), (0, u "java/lang/Object"), (0, .class_ 3)] 3

/-- java/io/Serializable -/
def k5 : Class := { plain "java/io/Serializable" (some 0) with
  accessFlags := 1537
  interfaces := #[]
  cf := some (fileOf pool5 2 #[] #[] 1537 4 #[] #[])
  fields := #[]
  methods := #[]
  instanceTypes := #[]
  staticTypes := #[]
  resolved := Array.replicate 8 none
  statics := none }

/-- the primitive byte -/
def k6 : Class := { plain "byte" none with kind := .primitive 'B', accessFlags := 0x411 }
/-- [B -/
def k7 : Class := { plain "[B" (some 0) with kind := .array 6 .byte, interfaces := #[4, 5], accessFlags := 1041 }

/-- the primitive int -/
def k8 : Class := { plain "int" none with kind := .primitive 'I', accessFlags := 0x411 }
/-- [I -/
def k9 : Class := { plain "[I" (some 0) with kind := .array 8 .int, interfaces := #[4, 5], accessFlags := 1041 }

def heap : Heap := #[]
def classes : Array Class := #[k0, k1, k2, k3, k4, k5, k6, k7, k8, k9]
def interned : List (Array UInt16 × Addr) := []
def slotsUsed : Nat := 0
def theMethod : MethodId := ⟨1, 1⟩
def args0 : Array Value := #[.int 5, .int 6]
def aboutOver (below : List Frame) : State where
  vm := { classes := classes, interned := interned.toArray }
  heap := heap
  slotsUsed := slotsUsed
  threads := #[{ frames := .invoking theMethod args0 :: below }]
def below0 : List Frame := [.native { method := ⟨0, 0⟩, args := #[] }]
def about1 : State := aboutOver below0
def p0 : Program := .bare "" "" ""
def e0 : Env := launch0.env 0 0 0
theorem w_frames : about1.frames = Frame.invoking theMethod args0 :: below0 := rfl
set_option maxRecDepth 65536 in
theorem w_args : argsFit about1.vm theMethod args0 = true := by decide +kernel
set_option maxRecDepth 65536 in
theorem w_heap : heapFits about1 = true := by decide +kernel
set_option maxRecDepth 65536 in
theorem w_runnable : about1.curStatus? = some .runnable := by decide +kernel
set_option maxRecDepth 65536 in
theorem w_alone : about1.alone = true := by decide +kernel
set_option maxRecDepth 65536 in
theorem w_named : about1.methodNamed? x = some theMethod := by decide +kernel
set_option maxRecDepth 65536 in
theorem w_hears : about1.hears theMethod below0 = true := by decide +kernel
set_option maxRecDepth 65536 in
theorem w_ripe : about1.ripe theMethod args0 below0 = true := by decide +kernel
theorem w_running : about1.status = .running := rfl
set_option maxRecDepth 65536 in
theorem w_room : about1.hasRoom e0.platform room_1 = true :=
  launch0.hasRoom_least _ room_1 (by decide +kernel) (by decide +kernel) (by decide +kernel) (by decide +kernel) (by decide +kernel) (by decide +kernel)
theorem allAtoms_all (ts : List Jvm.Cond) (a : Array Jvm.Value) (st : Jvm.State) : (allAtoms ts).before a st = ts.all (fun c => c.before a st) := by
  induction ts with
  | nil => rfl
  | cons c t ih =>
    show (Jvm.Cond.and c (allAtoms t)).before a st = _
    rw [Jvm.Cond.before_and, ih, List.all_cons]
def words1 : List Jvm.Cond := Jvm.Cond.code x code maxLocals ret :: tables_1
/-- a 'code' word, met by the world's own term for the bytes: nothing is compared byte by byte -/
theorem code_word {y : MethodName} {bytes : ByteArray} {mx : Nat} {rt : Option FieldType} {a : Array Value} {s : State} {m : MethodId} {meth : Method} {c : Code} (h1 : s.methodNamed? y = some m) (h2 : s.vm.method? m = some meth) (h3 : meth.code = some c) (h4 : c.code = bytes)
    (h5 : (c.maxLocals == mx && c.exceptionTable.isEmpty && decide (c.maxStack ≤ mostOperands) && decide (meth.sig.returnType = rt) && !meth.locks && decide (parseMethodDescriptor y.desc = some meth.sig)) = true) : (Jvm.Cond.code y bytes mx rt).before a s = true := by
  simp only [Bool.and_eq_true, beq_iff_eq, Bool.not_eq_true', decide_eq_true_eq] at h5
  obtain ⟨⟨⟨⟨⟨g1, g2⟩, g3⟩, g4⟩, g5⟩, g6⟩ := h5
  simp [Cond.before, Cond.holds, Cond.value, h1, h2, h3, h4, g1, g2, g3, g4, g5, g6]
def isCode : Jvm.Cond → Bool
  | .code _ _ _ _ => true
  | _ => false
theorem all_split {L : List Jvm.Cond} {P : Jvm.Cond → Bool} (h1 : L.all (fun c => isCode c || P c) = true) (h2 : ∀ c ∈ L.filter isCode, P c = true) : L.all P = true := by
  refine List.all_eq_true.mpr fun c hc => ?_
  have h := List.all_eq_true.mp h1 c hc
  rcases Bool.eq_false_or_eq_true (isCode c) with hi | hi
  · exact h2 c (List.mem_filter.mpr ⟨hc, hi⟩)
  · simpa [hi] using h
set_option maxRecDepth 65536 in
theorem w_c0 : (Jvm.Cond.code x code maxLocals ret).before args0 about1 = true := code_word (m := ⟨1, 1⟩) (meth := k1m1) (c := k1c1) (by decide +kernel) rfl rfl rfl (by decide +kernel)
set_option maxRecDepth 65536 in
theorem w_c1 : (Jvm.Cond.code ({ cls := "com/example/nano_acl/nanoacl/principal/Membership", name := "<init>", desc := "(Lcom/example/nano_acl/nanoacl/principal/Account;Lcom/example/nano_acl/nanoacl/principal/Account;)V" } : Jvm.MethodName) prog_49_method_1_code (3 : Nat) (Option.none : Option Jvm.ClassFile.FieldType)).before args0 about1 = true := code_word (m := ⟨2, 0⟩) (meth := k2m0) (c := k2c0) (by decide +kernel) rfl rfl rfl (by decide +kernel)
set_option maxRecDepth 65536 in
theorem w_c2 : (Jvm.Cond.code ({ cls := "java/lang/Object", name := "<init>", desc := "()V" } : Jvm.MethodName) object_method_1_code (1 : Nat) (Option.none : Option Jvm.ClassFile.FieldType)).before args0 about1 = true := code_word (m := ⟨0, 0⟩) (meth := k0m0) (c := k0c0) (by decide +kernel) rfl rfl rfl (by decide +kernel)
set_option maxRecDepth 65536 in
theorem w_c3 : (Jvm.Cond.code ({ cls := "com/example/nano_acl/nanoacl/principal/Membership$MemberList", name := "<init>", desc := "()V" } : Jvm.MethodName) prog_50_method_1_code (1 : Nat) (Option.none : Option Jvm.ClassFile.FieldType)).before args0 about1 = true := code_word (m := ⟨3, 0⟩) (meth := k3m0) (c := k3c0) (by decide +kernel) rfl rfl rfl (by decide +kernel)
set_option maxRecDepth 65536 in
theorem w_c4 : (Jvm.Cond.code ({ cls := "com/example/nano_acl/nanoacl/principal/Membership$MemberList", name := "size", desc := "()I" } : Jvm.MethodName) prog_50_method_2_code (1 : Nat) (Option.some Jvm.ClassFile.FieldType.int)).before args0 about1 = true := code_word (m := ⟨3, 1⟩) (meth := k3m1) (c := k3c1) (by decide +kernel) rfl rfl rfl (by decide +kernel)
set_option maxRecDepth 65536 in
theorem w_c5 : (Jvm.Cond.code ({ cls := "com/example/nano_acl/nanoacl/principal/Membership$MemberList", name := "first", desc := "()Lcom/example/nano_acl/nanoacl/principal/Membership;" } : Jvm.MethodName) prog_50_method_3_code (1 : Nat) (Option.some (Jvm.ClassFile.FieldType.object "com/example/nano_acl/nanoacl/principal/Membership"))).before args0 about1 = true := code_word (m := ⟨3, 2⟩) (meth := k3m2) (c := k3c2) (by decide +kernel) rfl rfl rfl (by decide +kernel)
set_option maxRecDepth 65536 in
theorem w_c6 : (Jvm.Cond.code ({ cls := "com/example/nano_acl/nanoacl/principal/Membership", name := "next", desc := "()Lcom/example/nano_acl/nanoacl/principal/Membership;" } : Jvm.MethodName) prog_49_method_4_code (1 : Nat) (Option.some (Jvm.ClassFile.FieldType.object "com/example/nano_acl/nanoacl/principal/Membership"))).before args0 about1 = true := code_word (m := ⟨2, 1⟩) (meth := k2m1) (c := k2c1) (by decide +kernel) rfl rfl rfl (by decide +kernel)
set_option maxRecDepth 65536 in
theorem w_c7 : (Jvm.Cond.code ({ cls := "com/example/nano_acl/nanoacl/principal/Membership$MemberList", name := "append", desc := "(Lcom/example/nano_acl/nanoacl/principal/Membership;)V" } : Jvm.MethodName) prog_50_method_4_code (2 : Nat) (Option.none : Option Jvm.ClassFile.FieldType)).before args0 about1 = true := code_word (m := ⟨3, 3⟩) (meth := k3m3) (c := k3c3) (by decide +kernel) rfl rfl rfl (by decide +kernel)
set_option maxRecDepth 65536 in
theorem w_c8 : (Jvm.Cond.code ({ cls := "com/example/nano_acl/nanoacl/principal/Membership$MemberList", name := "unlink", desc := "(Lcom/example/nano_acl/nanoacl/principal/Membership;)V" } : Jvm.MethodName) prog_50_method_5_code (2 : Nat) (Option.none : Option Jvm.ClassFile.FieldType)).before args0 about1 = true := code_word (m := ⟨3, 4⟩) (meth := k3m4) (c := k3c4) (by decide +kernel) rfl rfl rfl (by decide +kernel)
def codes1 : List Jvm.Cond := [Jvm.Cond.code x code maxLocals ret, Jvm.Cond.code ({ cls := "com/example/nano_acl/nanoacl/principal/Membership", name := "<init>", desc := "(Lcom/example/nano_acl/nanoacl/principal/Account;Lcom/example/nano_acl/nanoacl/principal/Account;)V" } : Jvm.MethodName) prog_49_method_1_code (3 : Nat) (Option.none : Option Jvm.ClassFile.FieldType), Jvm.Cond.code ({ cls := "java/lang/Object", name := "<init>", desc := "()V" } : Jvm.MethodName) object_method_1_code (1 : Nat) (Option.none : Option Jvm.ClassFile.FieldType), Jvm.Cond.code ({ cls := "com/example/nano_acl/nanoacl/principal/Membership$MemberList", name := "<init>", desc := "()V" } : Jvm.MethodName) prog_50_method_1_code (1 : Nat) (Option.none : Option Jvm.ClassFile.FieldType), Jvm.Cond.code ({ cls := "com/example/nano_acl/nanoacl/principal/Membership$MemberList", name := "size", desc := "()I" } : Jvm.MethodName) prog_50_method_2_code (1 : Nat) (Option.some Jvm.ClassFile.FieldType.int), Jvm.Cond.code ({ cls := "com/example/nano_acl/nanoacl/principal/Membership$MemberList", name := "first", desc := "()Lcom/example/nano_acl/nanoacl/principal/Membership;" } : Jvm.MethodName) prog_50_method_3_code (1 : Nat) (Option.some (Jvm.ClassFile.FieldType.object "com/example/nano_acl/nanoacl/principal/Membership")), Jvm.Cond.code ({ cls := "com/example/nano_acl/nanoacl/principal/Membership", name := "next", desc := "()Lcom/example/nano_acl/nanoacl/principal/Membership;" } : Jvm.MethodName) prog_49_method_4_code (1 : Nat) (Option.some (Jvm.ClassFile.FieldType.object "com/example/nano_acl/nanoacl/principal/Membership")), Jvm.Cond.code ({ cls := "com/example/nano_acl/nanoacl/principal/Membership$MemberList", name := "append", desc := "(Lcom/example/nano_acl/nanoacl/principal/Membership;)V" } : Jvm.MethodName) prog_50_method_4_code (2 : Nat) (Option.none : Option Jvm.ClassFile.FieldType), Jvm.Cond.code ({ cls := "com/example/nano_acl/nanoacl/principal/Membership$MemberList", name := "unlink", desc := "(Lcom/example/nano_acl/nanoacl/principal/Membership;)V" } : Jvm.MethodName) prog_50_method_5_code (2 : Nat) (Option.none : Option Jvm.ClassFile.FieldType)]
set_option maxRecDepth 65536 in
theorem codes_eq : words1.filter isCode = codes1 := rfl
theorem w_codes : ∀ c ∈ words1.filter isCode, c.before args0 about1 = true := by
  rw [codes_eq]
  intro c hc
  simp only [codes1, List.mem_cons, List.not_mem_nil, or_false] at hc
  rcases hc with rfl | rfl | rfl | rfl | rfl | rfl | rfl | rfl | rfl
  · exact w_c0
  · exact w_c1
  · exact w_c2
  · exact w_c3
  · exact w_c4
  · exact w_c5
  · exact w_c6
  · exact w_c7
  · exact w_c8
set_option maxRecDepth 65536 in
theorem w_t1 : (words1.take 24).all (fun c => isCode c || c.before args0 about1) = true := by decide +kernel
set_option maxRecDepth 65536 in
theorem w_t2 : ((words1.drop 24).take 24).all (fun c => isCode c || c.before args0 about1) = true := by decide +kernel
set_option maxRecDepth 65536 in
theorem w_t3 : ((words1.drop 24).drop 24).all (fun c => isCode c || c.before args0 about1) = true := by decide +kernel
theorem w_tables : (allAtoms (Jvm.Cond.code x code maxLocals ret :: tables_1)).before args0 about1 = true := by
  rw [allAtoms_all]
  show words1.all (fun c => c.before args0 about1) = true
  refine all_split ?_ w_codes
  rw [← List.take_append_drop 24 words1, List.all_append, w_t1, ← List.take_append_drop 24 (words1.drop 24), List.all_append, w_t2, w_t3]
  rfl
set_option maxRecDepth 65536 in
theorem w_case : (Jvm.Cond.and given_1 narrow_1).before args0 about1 = true := by decide +kernel
theorem w_applies : (headSpec (Jvm.Cond.code x code maxLocals ret :: tables_1) room_1).applies x e0.platform about1 = true :=
  (Spec.applies_iff w_frames).mpr ⟨w_running, w_runnable, w_alone, w_named, w_hears, w_ripe, w_room, w_tables⟩
theorem atStart : AtStart classFile x code maxLocals ret World_1 tables_1 room_1 Calls_1 rest_1 Pre_1 launch0 p0 e0 about1 theMethod args0 below0 :=
  ⟨lists_1, trivial, launch0.admits_env _ _ _, launch0.least_env, fairChoices_fair.cas, fairChoices_fair.clock, w_frames, w_args, w_heap, w_applies, trivial, trivial, w_case⟩
end start1
theorem witness_1 : WitnessClaimed_1 := ⟨start1.p0, start1.e0, start1.about1, start1.theMethod, start1.args0, start1.below0, start1.atStart⟩
end Jvm.Pilot.@@N@@
