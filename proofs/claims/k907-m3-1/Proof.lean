import JvmDerived
import JvmDerived.Pilot.@@N@@Statement
import JvmDerived.Pilot.@@N@@Code
set_option linter.unusedVariables false
set_option linter.unusedSimpArgs false
namespace Jvm.OwnKit
open Sem ClassFile Op Lib Jvm.Free Jvm.Stand Jvm.LawKit Jvm.RoadKit
/-! My own layer: an abstract heap (a list of objects made since the law began) and one rule a bytecode step, each over a law of the library. -/
abbrev oz : Value := .int 0
abbrev ol : Value := .long 0
abbrev rf (n0 i : Nat) : Value := .ref (n0 + i)
abbrev Ob : Type := (Nat × List Value) ⊕ (FieldType × List Value)
abbrev KTab : Type := List (String × List (String × String × String))
def ObAt (Z : State) (K : KTab) (h : Heap) (a : Addr) : Ob → Prop
  | .inl (k, vs) => ∃ C fs, K[k]? = some (C, fs) ∧ Exa Z h a C ∧ vs.length = fs.length ∧ ∀ (j : Nat) (f : String × String × String) (v : Value), fs[j]? = some f → vs[j]? = some v → Fld Z h a f.1 f.2.1 f.2.2 v
  | .inr (ty, vs) => (Exa Z h a ("[" ++ ty.toString) ∧ ∀ v ∈ vs, fits ty v = true) ∧ ∃ c : Cell, Arr Z h a c ty ∧ c.slots = vs.toArray ∧ ∀ C, ty = .object C → Ovr Z c.cls C
def Rel (Z : State) (K : KTab) (n0 : Nat) (h : Heap) (A : List Ob) : Prop := h.size = n0 + A.length ∧ ∀ (i : Nat) (o : Ob), A[i]? = some o → ObAt Z K h (n0 + i) o
def KOk (Z : State) (a0 : Array Value) (K : KTab) : Prop := ∀ (k : Nat) (C : String) (fs : List (String × String × String)), K[k]? = some (C, fs) →
  (∃ n, (Cond.instantiable C n).before a0 Z = true) ∧ (∀ (j : Nat) (f : String × String × String), fs[j]? = some f → Laid Z a0 C f.1 f.2.1 f.2.2 ∧ ∃ t, parseFieldDescriptor f.2.2 = some t) ∧
  ∀ (i j : Nat) (f g : String × String × String), fs[i]? = some f → fs[j]? = some g → i ≠ j → f.2.1 ≠ g.2.1
section Facts
variable {Z : State} {a0 : Array Value} {K : KTab} {h h' : Heap} {a b : Addr} {o o' : Ob} {n0 : Nat} {A : List Ob} {sl : Nat} {v : Value}
theorem ObAt.ext (E : Ext h h') (F : ObAt Z K h a o) : ObAt Z K h' a o := by
  rcases o with ⟨k, vs⟩ | ⟨ty, vs⟩
  · obtain ⟨C, fs, h1, h2, h3, h4⟩ := F
    exact ⟨C, fs, h1, h2.ext E, h3, fun j f v q r => (h4 j f v q r).ext E⟩
  · obtain ⟨⟨h1, hf⟩, c, h2, h3, h4⟩ := F
    exact ⟨⟨h1.ext E, hf⟩, c, h2.ext E, h3, h4⟩
theorem ObAt.other (W : Wr h h' b sl v) (hne : a ≠ b) (F : ObAt Z K h a o) : ObAt Z K h' a o := by
  rcases o with ⟨k, vs⟩ | ⟨ty, vs⟩
  · obtain ⟨C, fs, h1, h2, h3, h4⟩ := F
    exact ⟨C, fs, h1, h2.wr W, h3, fun j f v q r => (h4 j f v q r).other W (Or.inl hne)⟩
  · obtain ⟨⟨h1, hf⟩, c, h2, h3, h4⟩ := F
    exact ⟨⟨h1.wr W, hf⟩, c, h2.other W hne, h3, h4⟩
theorem ObAt.keep {ws : List Addr} (E : Keep h h' ws) (hne : a ∉ ws) (F : ObAt Z K h a o) : ObAt Z K h' a o := by
  rcases o with ⟨k, vs⟩ | ⟨ty, vs⟩
  · obtain ⟨C, fs, h1, h2, h3, h4⟩ := F
    exact ⟨C, fs, h1, h2.keep E, h3, fun j f v q r => (h4 j f v q r).keep E hne⟩
  · obtain ⟨⟨h1, hf⟩, c, h2, h3, h4⟩ := F
    exact ⟨⟨h1.keep E, hf⟩, c, ⟨E.2.1 a c h2.1 hne, h2.2⟩, h3, h4⟩
theorem Rel.keep {i : Nat} (R : Rel Z K n0 h A) (E : Keep h h' [n0 + i]) (hs : h'.size = h.size) (hO : ObAt Z K h' (n0 + i) o') : Rel Z K n0 h' (A.set i o') := by
  refine ⟨by rw [hs, R.1]; simp, fun j o hj => ?_⟩
  by_cases e : i = j
  · subst e
    obtain ⟨hl, -⟩ := List.getElem?_eq_some_iff.mp hj
    rw [List.getElem?_set_self (by simpa using hl)] at hj
    cases hj; exact hO
  · rw [List.getElem?_set_ne e] at hj
    exact (R.2 j o hj).keep E (fun q => e (Nat.add_left_cancel (List.mem_singleton.mp q)).symm)
theorem ObAt.exa {k : Nat} {vs : List Value} {C : String} {fs : List (String × String × String)} (hk : K[k]? = some (C, fs)) (F : ObAt Z K h a (.inl (k, vs))) : Exa Z h a C := by
  obtain ⟨C', fs', h1, h2, -⟩ := F
  cases hk.symm.trans h1; exact h2
theorem Rel.push (R : Rel Z K n0 h A) (E : Ext h h') (hs : h'.size = n0 + (A.length + 1)) (hN : ObAt Z K h' (n0 + A.length) o) : Rel Z K n0 h' (A ++ [o]) := by
  refine ⟨by rw [hs]; simp, fun i o' hi => ?_⟩
  by_cases hlt : i < A.length
  · rw [List.getElem?_append_left hlt] at hi; exact (R.2 i o' hi).ext E
  · rw [List.getElem?_append_right (by omega)] at hi
    have he : i - A.length = 0 := by
      have := (List.getElem?_eq_some_iff.mp hi).1
      simp at this; omega
    rw [he] at hi
    cases hi
    have : i = A.length := by omega
    rw [this]; exact hN
theorem Rel.set {i : Nat} (R : Rel Z K n0 h A) (W : Wr h h' (n0 + i) sl v) (hO : ObAt Z K h' (n0 + i) o') : Rel Z K n0 h' (A.set i o') := by
  refine ⟨by rw [W.size, R.1]; simp, fun j o hj => ?_⟩
  by_cases e : i = j
  · subst e
    obtain ⟨hl, -⟩ := List.getElem?_eq_some_iff.mp hj
    rw [List.getElem?_set_self (by simpa using hl)] at hj
    cases hj; exact hO
  · rw [List.getElem?_set_ne e] at hj
    exact (R.2 j o hj).other W (fun q => e (Nat.add_left_cancel q).symm)
theorem ObAt.setF (KK : KOk Z a0 K) {k j : Nat} {vs : List Value} {C : String} {fs : List (String × String × String)} {f : String × String × String} (hk : K[k]? = some (C, fs)) (hj : fs[j]? = some f) (W : Wr h h' a (RoadKit.slotOf Z f.1 f.2.1 f.2.2) v) (F : ObAt Z K h a (.inl (k, vs))) : ObAt Z K h' a (.inl (k, vs.set j v)) := by
  obtain ⟨C', fs', h1, h2, h3, h4⟩ := F
  cases hk.symm.trans h1
  refine ⟨C, fs, hk, h2.wr W, by simpa using h3, fun j' f' v' q r => ?_⟩
  by_cases e : j = j'
  · subst e
    cases hj.symm.trans q
    have hl : j < vs.length := by rw [h3]; exact (List.getElem?_eq_some_iff.mp hj).1
    rw [List.getElem?_set_self hl] at r
    cases r
    exact (h4 j f vs[j] hj (List.getElem?_eq_getElem hl)).same W
  · rw [List.getElem?_set_ne e] at r
    obtain ⟨-, k2, k3⟩ := KK k C fs hk
    obtain ⟨L1, t1, p1⟩ := k2 j f hj
    obtain ⟨L2, t2, p2⟩ := k2 j' f' q
    exact (h4 j' f' v' q r).other W (Or.inr (slot_ne L2 L1 (k3 j' j f' f q hj (Ne.symm e)) p2 p1))
theorem ObAt.setA {ty : FieldType} {vs : List Value} {j : Nat} (W : Wr h h' a j v) (hv : fits ty v = true) (F : ObAt Z K h a (.inr (ty, vs))) : ObAt Z K h' a (.inr (ty, vs.set j v)) := by
  obtain ⟨⟨h1, hf⟩, c, h2, h3, h4⟩ := F
  refine ⟨⟨h1.wr W, fun w hw => ?_⟩, c.setSlot j v, h2.same W, ?_, h4⟩
  · rcases List.mem_or_eq_of_mem_set hw with q | rfl
    · exact hf w q
    · exact hv
  simp [Cell.setSlot, h3]
end Facts
/-! ## The walk -/
def Go (p : Program) (l : Launch) (e : Env) (R : Room) (s : State) (m : MethodId) (args : Array Value) (below : List Frame) (meth : Method) (c : Code) (Z : State) (K : KTab) (n0 : Nat) (Q : Option Value → List Ob → Prop)
    (pc : Nat) (ls : Array Slot) (st : List Value) (A : List Ob) (k n : Nat) : Prop :=
  ∀ (T : State) (locs : List Loc), Stand p l e R s m args below meth c T locs k n → Rel Z K n0 T.heap A → Fr n0 locs →
    ∃ s₂ o, Steps p.tables e below (T.setTop (mkF m pc ls st)) s₂ ∧ s₂.status = .running ∧ Ended s₂ below o ∧ ∃ v L, o = .returned v ∧ (∃ A', Q v A' ∧ Rel Z K n0 s₂.heap A' ∧ Fr n0 L) ∧ FrameEnd s o s₂ L R.cells R.slots
abbrev GoT : Type := Nat → Array Slot → List Value → List Ob → Nat → Nat → Prop
def IsGo (l : Launch) (Z : State) (a0 : Array Value) (K : KTab) (n0 b0 : Nat) (y : MethodName) (bytes : ByteArray) (maxL : Nat) (ret : Option FieldType) (R : Room) (Q : Option Value → List Ob → Prop) (G : GoT) : Prop :=
  ∃ (p : Program) (e : Env) (s : State) (m : MethodId) (args : Array Value) (below : List Frame) (meth : Method) (c : Code), p.tables.exec = Jvm.exec ∧ c.code = bytes ∧ c.maxLocals = maxL ∧ s.vm.findClass y.cls = some m.cls ∧ meth.name = y.name ∧ meth.sig.returnType = ret ∧ meth.locks = false ∧ Z.Warmed39 s.vm ∧ KOk Z a0 K ∧ s.heap.size = n0 + b0 ∧ G = Go p l e R s m args below meth c Z K n0 Q
/-- the contract of a method, by its arguments and the abstract heap -/
def Met (l : Launch) (Z : State) (K : KTab) (n0 : Nat) (y : MethodName) (bytes : ByteArray) (maxL : Nat) (ret : Option FieldType) (R : Room) (as : Array Value) (A : List Ob) (Q : Option Value → List Ob → Prop) : Prop :=
  ∀ (ws : List Jvm.Cond) (h0 : Heap), Rel Z K n0 h0 A → MetFree l y (head1 (Jvm.Cond.code y bytes maxL ret :: ws) R) (fun a U => a = as ∧ Z.Warmed39 U.vm ∧ U.heap = h0) (fun _ _ _ _ _ => True)
    (fun _ U o U' => ∃ v L, o = .returned v ∧ (∃ A', Q v A' ∧ Rel Z K n0 U'.heap A' ∧ Fr n0 L) ∧ FrameEnd U o U' L R.cells R.slots)
def Nx (b : ByteArray) (pc : Nat) (i : Instr) (len pc' : Nat) : Prop := decode b pc = .ok (i, len) ∧ pc' = pc + len
def Bx (b : ByteArray) (pc : Nat) (i : Int → Instr) (t f : Nat) : Prop := ∃ o : Int, decode b pc = .ok (i o, 3) ∧ 0 ≤ (pc : Int) + o ∧ ((pc : Int) + o).toNat = t ∧ f = pc + 3
theorem get_set_self {A : List Ob} {i : Nat} {o o' : Ob} (h : A[i]? = some o) : (A.set i o')[i]? = some o' := List.getElem?_set_self (List.getElem?_eq_some_iff.mp h).1
theorem get_set_ne {A : List Ob} {i j : Nat} {o o' : Ob} (h : A[j]? = some o) (hne : i ≠ j) : (A.set i o')[j]? = some o := by rw [List.getElem?_set_ne hne]; exact h
theorem len_set {A : List Ob} {i N : Nat} {o : Ob} (h : A.length = N) : (A.set i o).length = N := by simpa using h
theorem get_app {A : List Ob} {i : Nat} {o o' : Ob} (h : A[i]? = some o) : (A ++ [o'])[i]? = some o := by rw [List.getElem?_append_left (List.getElem?_eq_some_iff.mp h).1]; exact h
theorem get_last {A : List Ob} {N : Nat} {o : Ob} (h : A.length = N) : (A ++ [o])[N]? = some o := by subst h; simp
theorem len_app {A : List Ob} {N : Nat} {o : Ob} (h : A.length = N) : (A ++ [o]).length = N + 1 := by simp [h]
theorem npOf {d : String} {ps : List FieldType} {r : Option FieldType} {n : Nat} (hd : parseMethodDescriptor d = some ⟨ps, r⟩) (hl : n = ps.length) : ∀ sig, parseMethodDescriptor d = some sig → n = sig.parameters.length := fun sig h => by cases hd.symm.trans h; exact hl
theorem leb {a b : Nat} (h : Nat.ble a b = true) : a ≤ b := Nat.le_of_ble_eq_true h
theorem ltb {a b : Nat} (h : Nat.ble (a + 1) b = true) : a < b := Nat.le_of_ble_eq_true h
theorem fa0 {α : Type} {P : α → Prop} : ∀ x ∈ ([] : List α), P x := fun _ q => nomatch q
theorem faS {α : Type} {P : α → Prop} {y : α} {L : List α} (q : P y) (r : ∀ x ∈ L, P x) : ∀ x ∈ y :: L, P x := fun x z => (List.mem_cons.mp z).elim (fun u => u ▸ q) (r x)
theorem kokOf {Z : State} {a0 : Array Value} {K : KTab} (h : ∀ p ∈ K, (∃ n, (Jvm.Cond.instantiable p.1 n).before a0 Z = true) ∧ (∀ f ∈ p.2, Laid Z a0 p.1 f.1 f.2.1 f.2.2 ∧ ∃ t, parseFieldDescriptor f.2.2 = some t) ∧ (p.2.map (·.2.1)).Nodup) : KOk Z a0 K := by
  intro k C fs hk
  obtain ⟨h1, h2, h3⟩ := h _ (List.mem_of_getElem? hk)
  refine ⟨h1, fun j f hj => h2 f (List.mem_of_getElem? hj), fun i j f g hi hj hne e => hne ?_⟩
  have q1 : (fs.map (·.2.1))[i]? = some f.2.1 := by simp [List.getElem?_map, hi]
  have q2 : (fs.map (·.2.1))[j]? = some f.2.1 := by simp [List.getElem?_map, hj, e]
  obtain ⟨l1, e1⟩ := List.getElem?_eq_some_iff.mp q1
  obtain ⟨l2, e2⟩ := List.getElem?_eq_some_iff.mp q2
  have h4 := List.pairwise_iff_getElem.mp h3
  rcases Nat.lt_trichotomy i j with q | q | q
  · exact absurd (e1.trans e2.symm) (h4 i j l1 l2 q)
  · exact q
  · exact absurd (e2.trans e1.symm) (h4 j i l2 l1 q)
def Is (v : Option Value) (A' : List Ob) : Option Value → List Ob → Prop := fun v' B => v' = v ∧ B = A'
theorem i_lt {u v : Int32} {a b : Int} (hu : u.toInt = a) (hv : v.toInt = b) : u < v ↔ a < b := by subst hu hv; exact Int32.lt_iff_toInt_lt
theorem i_ge {u v : Int32} {a b : Int} (hu : u.toInt = a) (hv : v.toInt = b) : ¬ u < v ↔ b ≤ a := by rw [i_lt hu hv]; omega
theorem i_eq {u v : Int32} {a b : Int} (hu : u.toInt = a) (hv : v.toInt = b) : u = v ↔ a = b := by subst hu hv; exact Int32.toInt_inj.symm
theorem i_ne {u v : Int32} {a b : Int} (hu : u.toInt = a) (hv : v.toInt = b) : ¬ u = v ↔ ¬ a = b := not_congr (i_eq hu hv)
theorem j_lt {u v : Int64} {a b : Int} (hu : u.toInt = a) (hv : v.toInt = b) : u < v ↔ a < b := by subst hu hv; exact Int64.lt_iff_toInt_lt
theorem j_ge {u v : Int64} {a b : Int} (hu : u.toInt = a) (hv : v.toInt = b) : ¬ u < v ↔ b ≤ a := by rw [j_lt hu hv]; omega
theorem j_eq {u v : Int64} {a b : Int} (hu : u.toInt = a) (hv : v.toInt = b) : u = v ↔ a = b := by subst hu hv; exact Int64.toInt_inj.symm
theorem j_ne {u v : Int64} {a b : Int} (hu : u.toInt = a) (hv : v.toInt = b) : ¬ u = v ↔ ¬ a = b := not_congr (j_eq hu hv)
theorem x_iadd {a b : Int32} {x y : Int} (ha : a.toInt = x) (hb : b.toInt = y) (h : -2147483648 ≤ x + y ∧ x + y < 2147483648) : (a + b).toInt = x + y := by
  have q := c_iadd a b
  have r := rng32 (a + b)
  rw [ha, hb] at q
  omega
theorem x_isub {a b : Int32} {x y : Int} (ha : a.toInt = x) (hb : b.toInt = y) (h : -2147483648 ≤ x - y ∧ x - y < 2147483648) : (a - b).toInt = x - y := by
  have q := c_isub a b
  have r := rng32 (a - b)
  rw [ha, hb] at q
  omega
theorem x_imul {a b : Int32} {x y : Int} (ha : a.toInt = x) (hb : b.toInt = y) (h : -2147483648 ≤ x * y ∧ x * y < 2147483648) : (a * b).toInt = x * y := by
  have q := c_imul a b
  have r := rng32 (a * b)
  rw [ha, hb] at q
  omega
theorem x_ineg {a : Int32} {x : Int} (ha : a.toInt = x) (h : -2147483648 < x) : (-a).toInt = -x := by
  have q := c_ineg a
  have r := rng32 (-a)
  have r2 := rng32 a
  rw [ha] at q r2
  omega
theorem x_ladd {a b : Int64} {x y : Int} (ha : a.toInt = x) (hb : b.toInt = y) (h : -9223372036854775808 ≤ x + y ∧ x + y < 9223372036854775808) : (a + b).toInt = x + y := by
  have q := c_ladd a b
  have r := rng64 (a + b)
  rw [ha, hb] at q
  omega
theorem x_lsub {a b : Int64} {x y : Int} (ha : a.toInt = x) (hb : b.toInt = y) (h : -9223372036854775808 ≤ x - y ∧ x - y < 9223372036854775808) : (a - b).toInt = x - y := by
  have q := c_lsub a b
  have r := rng64 (a - b)
  rw [ha, hb] at q
  omega
theorem x_lmul {a b : Int64} {x y : Int} (ha : a.toInt = x) (hb : b.toInt = y) (h : -9223372036854775808 ≤ x * y ∧ x * y < 9223372036854775808) : (a * b).toInt = x * y := by
  have q := c_lmul a b
  have r := rng64 (a * b)
  rw [ha, hb] at q
  omega
theorem x_lneg {a : Int64} {x : Int} (ha : a.toInt = x) (h : -9223372036854775808 < x) : (-a).toInt = -x := by
  have q := c_lneg a
  have r := rng64 (-a)
  have r2 := rng64 a
  rw [ha] at q r2
  omega
theorem x_irem {a b : Int32} {x y : Int} (ha : a.toInt = x) (hb : b.toInt = y) (h : 0 ≤ x) : (a % b).toInt = x % y := by
  rw [(c_irem a b y hb).1 (by rw [ha]; exact h), ha]
theorem x_idiv {a b : Int32} {x y : Int} (ha : a.toInt = x) (hb : b.toInt = y) (h : 0 ≤ x) (hy : 0 < y) : (a / b).toInt = x / y := by
  have hm : b ≠ -1 := fun e => by
    have q : (-1 : Int32).toInt = -1 := by decide
    rw [e, q] at hb
    omega
  rw [(c_idiv a b y hb hm).1 (by rw [ha]; exact h), ha]
theorem x_i2l {a : Int32} {x : Int} (ha : a.toInt = x) : (a.toInt64).toInt = x := by rw [c_i2l]; exact ha
theorem x_l2i {a : Int64} {x : Int} (ha : a.toInt = x) (h : -2147483648 ≤ x ∧ x < 2147483648) : (a.toInt32).toInt = x := by
  have q := c_l2i a
  have r := rng32 a.toInt32
  rw [ha] at q
  omega
theorem mod_b {x y : Int} (hy : 0 < y) : 0 ≤ x % y ∧ x % y < y := ⟨Int.emod_nonneg _ (by omega), Int.emod_lt_of_pos _ hy⟩
section Rules
variable {l : Launch} {Z : State} {a0 : Array Value} {K : KTab} {n0 b0 : Nat} {y : MethodName} {bytes : ByteArray} {maxL : Nat} {ret : Option FieldType} {R : Room} {Q : Option Value → List Ob → Prop} {G : GoT}
variable {pc pc' : Nat} {ls ls' : Array Slot} {st st' : List Value} {A A' : List Ob} {k k' n n' : Nat}
theorem Met.of (KK : KOk Z a0 K) (hp : plainFor y = true) {as : Array Value} (hef : ∀ m, entryFrame m as maxL = mkF m 0 ls []) (body : ∀ G, IsGo l Z a0 K n0 A.length y bytes maxL ret R Q G → G 0 ls [] A 0 0) : Met l Z K n0 y bytes maxL ret R as A Q := by
  intro ws h0 hR
  refine MetFree.of_bodySF hp hisR ?_
  intro p e s m args below meth c s₁ Bd hml0 hP hK
  obtain ⟨rfl, hZ, hh⟩ := hP
  have e0 : s₁.heap = h0 := by rw [← hh, Bd.state]; rfl
  have H := body (Go p l e R s m args below meth c Z K n0 Q) ⟨p, e, s, m, args, below, meth, c, Bd.exec, Bd.bytes, hml0, findClass_of_methodNamed Bd.named, (name_of_methodNamed Bd.named Bd.method).1, Bd.returns, Bd.notSynchronized, hZ, KK, by rw [hh]; exact hR.1, rfl⟩
  obtain ⟨s₂, o, h1, h2, h3, h4⟩ := H s₁ [] (Stand.of_body Bd) (by rw [e0]; exact hR) (Fr.nil n0)
  exact ⟨s₂, o, castTop (hef m) h1, h2, h3, h4⟩
theorem Met.mono {as : Array Value} {Q' : Option Value → List Ob → Prop} (M : Met l Z K n0 y bytes maxL ret R as A Q) (h : ∀ v A', Q v A' → Q' v A') : Met l Z K n0 y bytes maxL ret R as A Q' := by
  intro ws h0 hR p e ha hc hk s m args below hf happ hP hK
  obtain ⟨n, o, h1, h2, h3, v, L, h4, ⟨A', h5, h6⟩, h7⟩ := M ws h0 hR p e ha hc hk s m args below hf happ hP hK
  exact ⟨n, o, h1, h2, h3, v, L, h4, ⟨A', h _ _ h5, h6⟩, h7⟩
theorem IsGo.lift (H : IsGo l Z a0 K n0 b0 y bytes maxL ret R Q G) (hs : ∀ {p : Program} {e : Env} {below : List Frame} {T target : State} {m : MethodId} {c : Code}, At T m c below → p.tables.exec = Jvm.exec → c.code = bytes → Steps p.tables e below (T.setTop (mkF m pc' ls' st')) target → Steps p.tables e below (T.setTop (mkF m pc ls st)) target)
    (h : G pc' ls' st' A k n) : G pc ls st A k n := by
  obtain ⟨p, e, s, m, args, below, meth, c, hx, hby, hml, hown, hnm, hret, hlk, hZ, hK, hb0, rfl⟩ := H
  intro T locs X hR hF
  obtain ⟨s₂, o, h1, h2⟩ := h T locs X hR hF
  exact ⟨s₂, o, hs X.here hx hby h1, h2⟩
/-! ### loads, stores, constants -/
theorem IsGo.iloadN (H : IsGo l Z a0 K n0 b0 y bytes maxL ret R Q G) {i : Fin 4} (hd : Nx bytes pc (.iload_n i) 1 pc') {v : Int32} (hl : ls[i.val]? = some (.val (.int v))) (h : G pc' ls (.int v :: st) A k n) : G pc ls st A k n := by
  obtain ⟨hd, rfl⟩ := hd
  exact H.lift (fun hA hx hby hr => XS.iloadN hA hx rfl (hb hby hd) hl hr) h
theorem IsGo.iload (H : IsGo l Z a0 K n0 b0 y bytes maxL ret R Q G) {i : Nat} (hd : Nx bytes pc (.iload i) 2 pc') {v : Int32} (hl : ls[i]? = some (.val (.int v))) (h : G pc' ls (.int v :: st) A k n) : G pc ls st A k n := by
  obtain ⟨hd, rfl⟩ := hd
  exact H.lift (fun hA hx hby hr => XS.iload hA hx rfl (hb hby hd) hl hr) h
theorem IsGo.lloadN (H : IsGo l Z a0 K n0 b0 y bytes maxL ret R Q G) {i : Fin 4} (hd : Nx bytes pc (.lload_n i) 1 pc') {v : Int64} (hl : ls[i.val]? = some (.val (.long v))) (h : G pc' ls (.long v :: st) A k n) : G pc ls st A k n := by
  obtain ⟨hd, rfl⟩ := hd
  exact H.lift (fun hA hx hby hr => XS.lloadN hA hx rfl (hb hby hd) hl hr) h
theorem IsGo.lload (H : IsGo l Z a0 K n0 b0 y bytes maxL ret R Q G) {i : Nat} (hd : Nx bytes pc (.lload i) 2 pc') {v : Int64} (hl : ls[i]? = some (.val (.long v))) (h : G pc' ls (.long v :: st) A k n) : G pc ls st A k n := by
  obtain ⟨hd, rfl⟩ := hd
  exact H.lift (fun hA hx hby hr => XS.lload hA hx rfl (hb hby hd) hl hr) h
theorem IsGo.aloadN (H : IsGo l Z a0 K n0 b0 y bytes maxL ret R Q G) {i : Fin 4} (hd : Nx bytes pc (.aload_n i) 1 pc') {v : Value} (hl : ls[i.val]? = some (.val v)) (hv : v.isRef = true) (h : G pc' ls (v :: st) A k n) : G pc ls st A k n := by
  obtain ⟨hd, rfl⟩ := hd
  exact H.lift (fun hA hx hby hr => XS.aloadN hA hx rfl (hb hby hd) hl hv hr) h
theorem IsGo.aload (H : IsGo l Z a0 K n0 b0 y bytes maxL ret R Q G) {i : Nat} (hd : Nx bytes pc (.aload i) 2 pc') {v : Value} (hl : ls[i]? = some (.val v)) (hv : v.isRef = true) (h : G pc' ls (v :: st) A k n) : G pc ls st A k n := by
  obtain ⟨hd, rfl⟩ := hd
  exact H.lift (fun hA hx hby hr => XS.aload hA hx rfl (hb hby hd) hl hv hr) h
theorem IsGo.istoreN (H : IsGo l Z a0 K n0 b0 y bytes maxL ret R Q G) {i : Fin 4} (hd : Nx bytes pc (.istore_n i) 1 pc') {v : Int32} (hl : storeLocals ls i.val (.int v) = some ls') (h : G pc' ls' st A k n) : G pc ls (.int v :: st) A k n := by
  obtain ⟨hd, rfl⟩ := hd
  exact H.lift (fun hA hx hby hr => XS.istoreN hA hx rfl (hb hby hd) rfl hl hr) h
theorem IsGo.istore (H : IsGo l Z a0 K n0 b0 y bytes maxL ret R Q G) {i : Nat} (hd : Nx bytes pc (.istore i) 2 pc') {v : Int32} (hl : storeLocals ls i (.int v) = some ls') (h : G pc' ls' st A k n) : G pc ls (.int v :: st) A k n := by
  obtain ⟨hd, rfl⟩ := hd
  exact H.lift (fun hA hx hby hr => XS.istore hA hx rfl (hb hby hd) rfl hl hr) h
theorem IsGo.lstoreN (H : IsGo l Z a0 K n0 b0 y bytes maxL ret R Q G) {i : Fin 4} (hd : Nx bytes pc (.lstore_n i) 1 pc') {v : Int64} (hl : storeLocals ls i.val (.long v) = some ls') (h : G pc' ls' st A k n) : G pc ls (.long v :: st) A k n := by
  obtain ⟨hd, rfl⟩ := hd
  exact H.lift (fun hA hx hby hr => XS.lstoreN hA hx rfl (hb hby hd) rfl hl hr) h
theorem IsGo.lstore (H : IsGo l Z a0 K n0 b0 y bytes maxL ret R Q G) {i : Nat} (hd : Nx bytes pc (.lstore i) 2 pc') {v : Int64} (hl : storeLocals ls i (.long v) = some ls') (h : G pc' ls' st A k n) : G pc ls (.long v :: st) A k n := by
  obtain ⟨hd, rfl⟩ := hd
  exact H.lift (fun hA hx hby hr => XS.lstore hA hx rfl (hb hby hd) rfl hl hr) h
theorem IsGo.astoreN (H : IsGo l Z a0 K n0 b0 y bytes maxL ret R Q G) {i : Fin 4} (hd : Nx bytes pc (.astore_n i) 1 pc') {v : Value} (hv : v.isRef = true) (hl : storeLocals ls i.val v = some ls') (h : G pc' ls' st A k n) : G pc ls (v :: st) A k n := by
  obtain ⟨hd, rfl⟩ := hd
  exact H.lift (fun hA hx hby hr => XS.astoreN hA hx rfl (hb hby hd) rfl hv hl hr) h
theorem IsGo.astore (H : IsGo l Z a0 K n0 b0 y bytes maxL ret R Q G) {i : Nat} (hd : Nx bytes pc (.astore i) 2 pc') {v : Value} (hv : v.isRef = true) (hl : storeLocals ls i v = some ls') (h : G pc' ls' st A k n) : G pc ls (v :: st) A k n := by
  obtain ⟨hd, rfl⟩ := hd
  exact H.lift (fun hA hx hby hr => XS.astore hA hx rfl (hb hby hd) rfl hv hl hr) h
theorem IsGo.iconst (H : IsGo l Z a0 K n0 b0 y bytes maxL ret R Q G) {i : Int} (hd : Nx bytes pc (.iconst i) 1 pc') {v : Int32} (hv : Int32.ofInt i = v) (h : G pc' ls (.int v :: st) A k n) : G pc ls st A k n := by
  obtain ⟨hd, rfl⟩ := hd
  subst hv
  exact H.lift (fun hA hx hby hr => XS.iconst hA hx rfl (hb hby hd) hr) h
theorem IsGo.bipush (H : IsGo l Z a0 K n0 b0 y bytes maxL ret R Q G) {i : Int} (hd : Nx bytes pc (.bipush i) 2 pc') {v : Int32} (hv : (Int8.ofInt i).toInt32 = v) (h : G pc' ls (.int v :: st) A k n) : G pc ls st A k n := by
  obtain ⟨hd, rfl⟩ := hd
  subst hv
  exact H.lift (fun hA hx hby hr => XS.bipush hA hx rfl (hb hby hd) hr) h
theorem IsGo.sipush (H : IsGo l Z a0 K n0 b0 y bytes maxL ret R Q G) {i : Int} (hd : Nx bytes pc (.sipush i) 3 pc') {v : Int32} (hv : (Int16.ofInt i).toInt32 = v) (h : G pc' ls (.int v :: st) A k n) : G pc ls st A k n := by
  obtain ⟨hd, rfl⟩ := hd
  subst hv
  exact H.lift (fun hA hx hby hr => XS.sipush hA hx rfl (hb hby hd) hr) h
theorem IsGo.lconst (H : IsGo l Z a0 K n0 b0 y bytes maxL ret R Q G) {i : Fin 2} (hd : Nx bytes pc (.lconst i) 1 pc') {v : Int64} (hv : Int64.ofNat i = v) (h : G pc' ls (.long v :: st) A k n) : G pc ls st A k n := by
  obtain ⟨hd, rfl⟩ := hd
  subst hv
  exact H.lift (fun hA hx hby hr => XS.lconst hA hx rfl (hb hby hd) hr) h
theorem IsGo.aconstNull (H : IsGo l Z a0 K n0 b0 y bytes maxL ret R Q G) (hd : Nx bytes pc .aconst_null 1 pc') (h : G pc' ls (.null :: st) A k n) : G pc ls st A k n := by
  obtain ⟨hd, rfl⟩ := hd
  exact H.lift (fun hA hx hby hr => XS.aconstNull hA hx rfl (hb hby hd) hr) h
theorem IsGo.ldc (H : IsGo l Z a0 K n0 b0 y bytes maxL ret R Q G) {i : Nat} (hd : Nx bytes pc (.ldc i) 2 pc') {v : Int32} (w : (Jvm.Cond.constant y.cls i v).before a0 Z = true) (h : G pc' ls (.int v :: st) A k n) : G pc ls st A k n := by
  obtain ⟨hd, rfl⟩ := hd
  obtain ⟨p, e, s, m, args, below, meth, c, hx, hby, hml, hown, hnm, hret, hlk, hZ, hK, hb0, rfl⟩ := H
  intro T locs X hR hF
  obtain ⟨s₂, o, h1, h2⟩ := h T locs X hR hF
  exact ⟨s₂, o, X.ldcInt hx hown (mvT hZ w) (g := mkF m pc ls st) rfl (hb hby hd) _ h1, h2⟩
theorem IsGo.ldc2 (H : IsGo l Z a0 K n0 b0 y bytes maxL ret R Q G) {i : Nat} (hd : Nx bytes pc (.ldc2_w i) 3 pc') {v : Int64} (w : (Jvm.Cond.constantLong y.cls i v).before a0 Z = true) (h : G pc' ls (.long v :: st) A k n) : G pc ls st A k n := by
  obtain ⟨hd, rfl⟩ := hd
  obtain ⟨p, e, s, m, args, below, meth, c, hx, hby, hml, hown, hnm, hret, hlk, hZ, hK, hb0, rfl⟩ := H
  intro T locs X hR hF
  obtain ⟨s₂, o, h1, h2⟩ := h T locs X hR hF
  exact ⟨s₂, o, X.ldc2Long hx hown (mvT hZ w) (g := mkF m pc ls st) rfl (hb hby hd) _ h1, h2⟩
/-! ### sums -/
theorem IsGo.iadd (H : IsGo l Z a0 K n0 b0 y bytes maxL ret R Q G) (hd : Nx bytes pc .iadd 1 pc') {u v w : Int32} (hw : u + v = w) (h : G pc' ls (.int w :: st) A k n) : G pc ls (.int v :: .int u :: st) A k n := by
  obtain ⟨hd, rfl⟩ := hd
  subst hw
  exact H.lift (fun hA hx hby hr => XS.iadd hA hx rfl (hb hby hd) rfl hr) h
theorem IsGo.ladd (H : IsGo l Z a0 K n0 b0 y bytes maxL ret R Q G) (hd : Nx bytes pc .ladd 1 pc') {u v w : Int64} (hw : u + v = w) (h : G pc' ls (.long w :: st) A k n) : G pc ls (.long v :: .long u :: st) A k n := by
  obtain ⟨hd, rfl⟩ := hd
  subst hw
  exact H.lift (fun hA hx hby hr => XS.ladd hA hx rfl (hb hby hd) rfl hr) h
theorem IsGo.isub (H : IsGo l Z a0 K n0 b0 y bytes maxL ret R Q G) (hd : Nx bytes pc .isub 1 pc') {u v w : Int32} (hw : u - v = w) (h : G pc' ls (.int w :: st) A k n) : G pc ls (.int v :: .int u :: st) A k n := by
  obtain ⟨hd, rfl⟩ := hd
  subst hw
  exact H.lift (fun hA hx hby hr => XS.isub hA hx rfl (hb hby hd) rfl hr) h
theorem IsGo.lsub (H : IsGo l Z a0 K n0 b0 y bytes maxL ret R Q G) (hd : Nx bytes pc .lsub 1 pc') {u v w : Int64} (hw : u - v = w) (h : G pc' ls (.long w :: st) A k n) : G pc ls (.long v :: .long u :: st) A k n := by
  obtain ⟨hd, rfl⟩ := hd
  subst hw
  exact H.lift (fun hA hx hby hr => XS.lsub hA hx rfl (hb hby hd) rfl hr) h
theorem IsGo.imul (H : IsGo l Z a0 K n0 b0 y bytes maxL ret R Q G) (hd : Nx bytes pc .imul 1 pc') {u v w : Int32} (hw : u * v = w) (h : G pc' ls (.int w :: st) A k n) : G pc ls (.int v :: .int u :: st) A k n := by
  obtain ⟨hd, rfl⟩ := hd
  subst hw
  exact H.lift (fun hA hx hby hr => XS.imul hA hx rfl (hb hby hd) rfl hr) h
theorem IsGo.lmul (H : IsGo l Z a0 K n0 b0 y bytes maxL ret R Q G) (hd : Nx bytes pc .lmul 1 pc') {u v w : Int64} (hw : u * v = w) (h : G pc' ls (.long w :: st) A k n) : G pc ls (.long v :: .long u :: st) A k n := by
  obtain ⟨hd, rfl⟩ := hd
  subst hw
  exact H.lift (fun hA hx hby hr => XS.lmul hA hx rfl (hb hby hd) rfl hr) h
theorem IsGo.iand (H : IsGo l Z a0 K n0 b0 y bytes maxL ret R Q G) (hd : Nx bytes pc .iand 1 pc') {u v w : Int32} (hw : u &&& v = w) (h : G pc' ls (.int w :: st) A k n) : G pc ls (.int v :: .int u :: st) A k n := by
  obtain ⟨hd, rfl⟩ := hd
  subst hw
  exact H.lift (fun hA hx hby hr => XS.iand hA hx rfl (hb hby hd) rfl hr) h
theorem IsGo.land (H : IsGo l Z a0 K n0 b0 y bytes maxL ret R Q G) (hd : Nx bytes pc .land 1 pc') {u v w : Int64} (hw : u &&& v = w) (h : G pc' ls (.long w :: st) A k n) : G pc ls (.long v :: .long u :: st) A k n := by
  obtain ⟨hd, rfl⟩ := hd
  subst hw
  exact H.lift (fun hA hx hby hr => XS.land hA hx rfl (hb hby hd) rfl hr) h
theorem IsGo.ior (H : IsGo l Z a0 K n0 b0 y bytes maxL ret R Q G) (hd : Nx bytes pc .ior 1 pc') {u v w : Int32} (hw : u ||| v = w) (h : G pc' ls (.int w :: st) A k n) : G pc ls (.int v :: .int u :: st) A k n := by
  obtain ⟨hd, rfl⟩ := hd
  subst hw
  exact H.lift (fun hA hx hby hr => XS.ior hA hx rfl (hb hby hd) rfl hr) h
theorem IsGo.lor (H : IsGo l Z a0 K n0 b0 y bytes maxL ret R Q G) (hd : Nx bytes pc .lor 1 pc') {u v w : Int64} (hw : u ||| v = w) (h : G pc' ls (.long w :: st) A k n) : G pc ls (.long v :: .long u :: st) A k n := by
  obtain ⟨hd, rfl⟩ := hd
  subst hw
  exact H.lift (fun hA hx hby hr => XS.lor hA hx rfl (hb hby hd) rfl hr) h
theorem IsGo.ixor (H : IsGo l Z a0 K n0 b0 y bytes maxL ret R Q G) (hd : Nx bytes pc .ixor 1 pc') {u v w : Int32} (hw : u ^^^ v = w) (h : G pc' ls (.int w :: st) A k n) : G pc ls (.int v :: .int u :: st) A k n := by
  obtain ⟨hd, rfl⟩ := hd
  subst hw
  exact H.lift (fun hA hx hby hr => XS.ixor hA hx rfl (hb hby hd) rfl hr) h
theorem IsGo.lxor (H : IsGo l Z a0 K n0 b0 y bytes maxL ret R Q G) (hd : Nx bytes pc .lxor 1 pc') {u v w : Int64} (hw : u ^^^ v = w) (h : G pc' ls (.long w :: st) A k n) : G pc ls (.long v :: .long u :: st) A k n := by
  obtain ⟨hd, rfl⟩ := hd
  subst hw
  exact H.lift (fun hA hx hby hr => XS.lxor hA hx rfl (hb hby hd) rfl hr) h
theorem IsGo.ishl (H : IsGo l Z a0 K n0 b0 y bytes maxL ret R Q G) (hd : Nx bytes pc .ishl 1 pc') {u v w : Int32} (hw : u <<< (v &&& 31) = w) (h : G pc' ls (.int w :: st) A k n) : G pc ls (.int v :: .int u :: st) A k n := by
  obtain ⟨hd, rfl⟩ := hd
  subst hw
  exact H.lift (fun hA hx hby hr => XS.ishl hA hx rfl (hb hby hd) rfl hr) h
theorem IsGo.ishr (H : IsGo l Z a0 K n0 b0 y bytes maxL ret R Q G) (hd : Nx bytes pc .ishr 1 pc') {u v w : Int32} (hw : u >>> (v &&& 31) = w) (h : G pc' ls (.int w :: st) A k n) : G pc ls (.int v :: .int u :: st) A k n := by
  obtain ⟨hd, rfl⟩ := hd
  subst hw
  exact H.lift (fun hA hx hby hr => XS.ishr hA hx rfl (hb hby hd) rfl hr) h
theorem IsGo.iushr (H : IsGo l Z a0 K n0 b0 y bytes maxL ret R Q G) (hd : Nx bytes pc .iushr 1 pc') {u v w : Int32} (hw : (u.toUInt32 >>> (v &&& 31).toUInt32).toInt32 = w) (h : G pc' ls (.int w :: st) A k n) : G pc ls (.int v :: .int u :: st) A k n := by
  obtain ⟨hd, rfl⟩ := hd
  subst hw
  exact H.lift (fun hA hx hby hr => XS.iushr hA hx rfl (hb hby hd) rfl hr) h
theorem IsGo.lshl (H : IsGo l Z a0 K n0 b0 y bytes maxL ret R Q G) (hd : Nx bytes pc .lshl 1 pc') {u w : Int64} {v : Int32} (hw : u <<< (v &&& 0x3f).toInt64 = w) (h : G pc' ls (.long w :: st) A k n) : G pc ls (.int v :: .long u :: st) A k n := by
  obtain ⟨hd, rfl⟩ := hd
  subst hw
  exact H.lift (fun hA hx hby hr => XS.lshl hA hx rfl (hb hby hd) rfl hr) h
theorem IsGo.lshr (H : IsGo l Z a0 K n0 b0 y bytes maxL ret R Q G) (hd : Nx bytes pc .lshr 1 pc') {u w : Int64} {v : Int32} (hw : u >>> (v &&& 0x3f).toInt64 = w) (h : G pc' ls (.long w :: st) A k n) : G pc ls (.int v :: .long u :: st) A k n := by
  obtain ⟨hd, rfl⟩ := hd
  subst hw
  exact H.lift (fun hA hx hby hr => XS.lshr hA hx rfl (hb hby hd) rfl hr) h
theorem IsGo.lushr (H : IsGo l Z a0 K n0 b0 y bytes maxL ret R Q G) (hd : Nx bytes pc .lushr 1 pc') {u w : Int64} {v : Int32} (hw : (u.toUInt64 >>> (v &&& 0x3f).toInt64.toUInt64).toInt64 = w) (h : G pc' ls (.long w :: st) A k n) : G pc ls (.int v :: .long u :: st) A k n := by
  obtain ⟨hd, rfl⟩ := hd
  subst hw
  exact H.lift (fun hA hx hby hr => XS.lushr hA hx rfl (hb hby hd) rfl hr) h
theorem IsGo.ineg (H : IsGo l Z a0 K n0 b0 y bytes maxL ret R Q G) (hd : Nx bytes pc .ineg 1 pc') {u : Int32} {w : Int32} (hw : -u = w) (h : G pc' ls (.int w :: st) A k n) : G pc ls (.int u :: st) A k n := by
  obtain ⟨hd, rfl⟩ := hd
  subst hw
  exact H.lift (fun hA hx hby hr => XS.ineg hA hx rfl (hb hby hd) rfl hr) h
theorem IsGo.lneg (H : IsGo l Z a0 K n0 b0 y bytes maxL ret R Q G) (hd : Nx bytes pc .lneg 1 pc') {u : Int64} {w : Int64} (hw : -u = w) (h : G pc' ls (.long w :: st) A k n) : G pc ls (.long u :: st) A k n := by
  obtain ⟨hd, rfl⟩ := hd
  subst hw
  exact H.lift (fun hA hx hby hr => XS.lneg hA hx rfl (hb hby hd) rfl hr) h
theorem IsGo.i2l (H : IsGo l Z a0 K n0 b0 y bytes maxL ret R Q G) (hd : Nx bytes pc .i2l 1 pc') {u : Int32} {w : Int64} (hw : u.toInt64 = w) (h : G pc' ls (.long w :: st) A k n) : G pc ls (.int u :: st) A k n := by
  obtain ⟨hd, rfl⟩ := hd
  subst hw
  exact H.lift (fun hA hx hby hr => XS.i2l hA hx rfl (hb hby hd) rfl hr) h
theorem IsGo.l2i (H : IsGo l Z a0 K n0 b0 y bytes maxL ret R Q G) (hd : Nx bytes pc .l2i 1 pc') {u : Int64} {w : Int32} (hw : u.toInt32 = w) (h : G pc' ls (.int w :: st) A k n) : G pc ls (.long u :: st) A k n := by
  obtain ⟨hd, rfl⟩ := hd
  subst hw
  exact H.lift (fun hA hx hby hr => XS.l2i hA hx rfl (hb hby hd) rfl hr) h
theorem IsGo.i2b (H : IsGo l Z a0 K n0 b0 y bytes maxL ret R Q G) (hd : Nx bytes pc .i2b 1 pc') {u : Int32} {w : Int32} (hw : u.toInt8.toInt32 = w) (h : G pc' ls (.int w :: st) A k n) : G pc ls (.int u :: st) A k n := by
  obtain ⟨hd, rfl⟩ := hd
  subst hw
  exact H.lift (fun hA hx hby hr => XS.i2b hA hx rfl (hb hby hd) rfl hr) h
theorem IsGo.idiv (H : IsGo l Z a0 K n0 b0 y bytes maxL ret R Q G) (hd : Nx bytes pc .idiv 1 pc') {u v w : Int32} (hv : v ≠ 0) (hw : u / v = w) (h : G pc' ls (.int w :: st) A k n) : G pc ls (.int v :: .int u :: st) A k n := by
  obtain ⟨hd, rfl⟩ := hd
  subst hw
  exact H.lift (fun hA hx hby hr => XS.idiv hA hx rfl (hb hby hd) rfl hv hr) h
theorem IsGo.irem (H : IsGo l Z a0 K n0 b0 y bytes maxL ret R Q G) (hd : Nx bytes pc .irem 1 pc') {u v w : Int32} (hv : v ≠ 0) (hw : u % v = w) (h : G pc' ls (.int w :: st) A k n) : G pc ls (.int v :: .int u :: st) A k n := by
  obtain ⟨hd, rfl⟩ := hd
  subst hw
  have q : u - u / v * v = u % v := irem_eq_mod u v
  rw [← q] at h
  exact H.lift (fun hA hx hby hr => XS.irem hA hx rfl (hb hby hd) rfl hv hr) h
theorem IsGo.ldiv (H : IsGo l Z a0 K n0 b0 y bytes maxL ret R Q G) (hd : Nx bytes pc .ldiv 1 pc') {u v w : Int64} (hv : v ≠ 0) (hw : u / v = w) (h : G pc' ls (.long w :: st) A k n) : G pc ls (.long v :: .long u :: st) A k n := by
  obtain ⟨hd, rfl⟩ := hd
  subst hw
  exact H.lift (fun hA hx hby hr => XS.ldiv hA hx rfl (hb hby hd) rfl hv hr) h
theorem IsGo.lrem (H : IsGo l Z a0 K n0 b0 y bytes maxL ret R Q G) (hd : Nx bytes pc .lrem 1 pc') {u v w : Int64} (hv : v ≠ 0) (hw : u % v = w) (h : G pc' ls (.long w :: st) A k n) : G pc ls (.long v :: .long u :: st) A k n := by
  obtain ⟨hd, rfl⟩ := hd
  subst hw
  rw [← lrem_mod u v] at h
  exact H.lift (fun hA hx hby hr => XS.lrem hA hx rfl (hb hby hd) rfl hv hr) h
theorem IsGo.iinc (H : IsGo l Z a0 K n0 b0 y bytes maxL ret R Q G) {i : Nat} {cst : Int} (hd : Nx bytes pc (.iinc i cst) 3 pc') {u w : Int32} (hl : ls[i]? = some (.val (.int u))) (hw : u + Int32.ofInt cst = w) (hl' : storeLocals ls i (.int w) = some ls') (h : G pc' ls' st A k n) : G pc ls st A k n := by
  obtain ⟨hd, rfl⟩ := hd
  subst hw
  exact H.lift (fun hA hx hby hr => XS.iinc hA hx rfl (hb hby hd) hl hl' hr) h
/-! ### the stack -/
theorem IsGo.dup (H : IsGo l Z a0 K n0 b0 y bytes maxL ret R Q G) (hd : Nx bytes pc .dup 1 pc') {u : Value} (hc : u.category = 1) (h : G pc' ls (u :: u :: st) A k n) : G pc ls (u :: st) A k n := by
  obtain ⟨hd, rfl⟩ := hd
  exact H.lift (fun hA hx hby hr => XS.dup hA hx rfl (hb hby hd) rfl hc hr) h
theorem IsGo.dupX1 (H : IsGo l Z a0 K n0 b0 y bytes maxL ret R Q G) (hd : Nx bytes pc .dup_x1 1 pc') {u v : Value} (hc : u.category = 1) (hc' : v.category = 1) (h : G pc' ls (u :: v :: u :: st) A k n) : G pc ls (u :: v :: st) A k n := by
  obtain ⟨hd, rfl⟩ := hd
  exact H.lift (fun hA hx hby hr => XS.dupX1 hA hx rfl (hb hby hd) rfl hc hc' hr) h
theorem IsGo.dup2 (H : IsGo l Z a0 K n0 b0 y bytes maxL ret R Q G) (hd : Nx bytes pc .dup2 1 pc') {u v : Value} (hc : u.category = 1) (hc' : v.category = 1) (h : G pc' ls (u :: v :: u :: v :: st) A k n) : G pc ls (u :: v :: st) A k n := by
  obtain ⟨hd, rfl⟩ := hd
  exact H.lift (fun hA hx hby hr => XT.dup2 hA hx rfl (hb hby hd) rfl hc hc' hr) h
theorem IsGo.dup2L (H : IsGo l Z a0 K n0 b0 y bytes maxL ret R Q G) (hd : Nx bytes pc .dup2 1 pc') {u : Int64} (h : G pc' ls (.long u :: .long u :: st) A k n) : G pc ls (.long u :: st) A k n := by
  obtain ⟨hd, rfl⟩ := hd
  exact H.lift (fun hA hx hby hr => XT.dup2L hA hx rfl (hb hby hd) rfl hr) h
theorem IsGo.pop (H : IsGo l Z a0 K n0 b0 y bytes maxL ret R Q G) (hd : Nx bytes pc .pop 1 pc') {u : Value} (hc : u.category = 1) (h : G pc' ls st A k n) : G pc ls (u :: st) A k n := by
  obtain ⟨hd, rfl⟩ := hd
  exact H.lift (fun hA hx hby hr => XS.pop hA hx rfl (hb hby hd) rfl hc hr) h
theorem dupX2_step {tb : Tables} [Ours tb] {e : Env} {below : List Frame} {T target : State} {m : MethodId} {c : Code} {g : JFrame} (h : At T m c below) (hx : tb.exec = Jvm.exec) (hg : g.method = m) {u v w : Value} {rest : List Value} (hd : decode c.code g.pc = .ok (.dup_x2, 1)) (hs : g.stack = u :: v :: w :: rest) (hc : u.category = 1) (hc2 : v.category = 1) (hc3 : w.category = 1)
    (hr : Steps tb e below (T.setTop { g with pc := g.pc + 1, stack := u :: v :: w :: u :: rest }) target) : Steps tb e below (T.setTop g) target := by
  subst hg
  jvm_step h [h.top, hx, hd, hs, hc, hc2, hc3, dup_x2.wp_sem]
  exact hr
theorem pop2L_step {tb : Tables} [Ours tb] {e : Env} {below : List Frame} {T target : State} {m : MethodId} {c : Code} {g : JFrame} (h : At T m c below) (hx : tb.exec = Jvm.exec) (hg : g.method = m) {u : Int64} {rest : List Value} (hd : decode c.code g.pc = .ok (.pop2, 1)) (hs : g.stack = .long u :: rest)
    (hr : Steps tb e below (T.setTop { g with pc := g.pc + 1, stack := rest }) target) : Steps tb e below (T.setTop g) target := by
  subst hg
  jvm_step h [h.top, hx, hd, hs, pop2.wp_sem, Value.category]
  exact hr
theorem IsGo.dupX2 (H : IsGo l Z a0 K n0 b0 y bytes maxL ret R Q G) (hd : Nx bytes pc .dup_x2 1 pc') {u v w : Value} (hc : u.category = 1) (hc' : v.category = 1) (hc3 : w.category = 1) (h : G pc' ls (u :: v :: w :: u :: st) A k n) : G pc ls (u :: v :: w :: st) A k n := by
  obtain ⟨hd, rfl⟩ := hd
  exact H.lift (fun hA hx hby hr => dupX2_step hA hx rfl (hb hby hd) rfl hc hc' hc3 hr) h
theorem IsGo.pop2L (H : IsGo l Z a0 K n0 b0 y bytes maxL ret R Q G) (hd : Nx bytes pc .pop2 1 pc') {u : Int64} (h : G pc' ls st A k n) : G pc ls (.long u :: st) A k n := by
  obtain ⟨hd, rfl⟩ := hd
  exact H.lift (fun hA hx hby hr => pop2L_step hA hx rfl (hb hby hd) rfl hr) h
/-! ### branches -/
theorem IsGo.goto (H : IsGo l Z a0 K n0 b0 y bytes maxL ret R Q G) {f : Nat} (hd : Bx bytes pc .goto pc' f) (h : G pc' ls st A k n) : G pc ls st A k n := by
  obtain ⟨o, hd, ho, hp, -⟩ := hd
  exact H.lift (fun hA hx hby hr => XS.goto hA hx rfl (pc0 := pc) (pc' := pc') rfl (hb hby hd) ho hp hr) h
/-- what a comparison of two ints says -/
def CP : ClassFile.Cond → Int32 → Int32 → Prop
  | .eq, u, v => u = v
  | .ne, u, v => ¬ u = v
  | .lt, u, v => u < v
  | .ge, u, v => ¬ u < v
  | .gt, u, v => v < u
  | .le, u, v => ¬ v < u
def CPL : ClassFile.Cond → Int64 → Int64 → Prop
  | .eq, u, v => u = v
  | .ne, u, v => ¬ u = v
  | .lt, u, v => u < v
  | .ge, u, v => ¬ u < v
  | .gt, u, v => v < u
  | .le, u, v => ¬ v < u
def ng : ClassFile.Cond → ClassFile.Cond
  | .eq => .ne | .ne => .eq | .lt => .ge | .ge => .lt | .gt => .le | .le => .gt
theorem cp_or (cd : ClassFile.Cond) (u v : Int32) : CP cd u v ∨ CP (ng cd) u v := by
  cases cd <;> simp only [CP, ng] <;> first | exact Classical.em _ | exact (Classical.em _).symm
theorem cpl_or (cd : ClassFile.Cond) (u v : Int64) : CPL cd u v ∨ CPL (ng cd) u v := by
  cases cd <;> simp only [CPL, ng] <;> first | exact Classical.em _ | exact (Classical.em _).symm
theorem cp_t {cd : ClassFile.Cond} {u v : Int32} (h : CP cd u v) : if_icmp.holds cd u v = true := by
  cases cd <;> simp only [CP] at h
  · exact XT.ii_eq_t h
  · exact XT.ii_ne_t h
  · exact XT.ii_lt_t h
  · exact XT.ii_ge_t h
  · exact XT.ii_gt_t h
  · exact XT.ii_le_t h
theorem cp_f {cd : ClassFile.Cond} {u v : Int32} (h : CP (ng cd) u v) : if_icmp.holds cd u v = false := by
  cases cd <;> simp only [CP, ng] at h
  · exact XT.ii_eq_f h
  · exact XT.ii_ne_f h
  · exact XT.ii_lt_f h
  · exact XT.ii_ge_f h
  · exact XT.ii_gt_f h
  · exact XT.ii_le_f h
theorem IsGo.icmpT (H : IsGo l Z a0 K n0 b0 y bytes maxL ret R Q G) {cd : ClassFile.Cond} {t f : Nat} (hd : Bx bytes pc (.if_icmp cd) t f) {u v : Int32} (hc : CP cd u v) (h : G t ls st A k n) : G pc ls (.int v :: .int u :: st) A k n := by
  obtain ⟨o, hd, ho, hp, rfl⟩ := hd
  exact H.lift (fun hA hx hby hr => XS.icmpYes hA hx rfl (pc0 := pc) (pc' := t) rfl (hb hby hd) rfl (cp_t hc) ho hp hr) h
theorem IsGo.icmpF (H : IsGo l Z a0 K n0 b0 y bytes maxL ret R Q G) {cd : ClassFile.Cond} {t f : Nat} (hd : Bx bytes pc (.if_icmp cd) t f) {u v : Int32} (hc : CP (ng cd) u v) (h : G f ls st A k n) : G pc ls (.int v :: .int u :: st) A k n := by
  obtain ⟨o, hd, ho, hp, rfl⟩ := hd
  exact H.lift (fun hA hx hby hr => XS.icmpNo hA hx rfl (hb hby hd) rfl (cp_f hc) hr) h
theorem IsGo.icmpS (H : IsGo l Z a0 K n0 b0 y bytes maxL ret R Q G) {cd : ClassFile.Cond} {t f : Nat} (hd : Bx bytes pc (.if_icmp cd) t f) {u v : Int32} (h1 : CP cd u v → G t ls st A k n) (h2 : CP (ng cd) u v → G f ls st A k n) : G pc ls (.int v :: .int u :: st) A k n :=
  (cp_or cd u v).elim (fun q => H.icmpT hd q (h1 q)) (fun q => H.icmpF hd q (h2 q))
theorem IsGo.ifT (H : IsGo l Z a0 K n0 b0 y bytes maxL ret R Q G) {cd : ClassFile.Cond} {t f : Nat} (hd : Bx bytes pc (.ifCond cd) t f) {u : Int32} (hc : CP cd u 0) (h : G t ls st A k n) : G pc ls (.int u :: st) A k n := by
  obtain ⟨o, hd, ho, hp, rfl⟩ := hd
  exact H.lift (fun hA hx hby hr => XS.ifYes hA hx rfl (pc0 := pc) (pc' := t) rfl (hb hby hd) rfl (by rw [if0]; exact cp_t hc) ho hp hr) h
theorem IsGo.ifF (H : IsGo l Z a0 K n0 b0 y bytes maxL ret R Q G) {cd : ClassFile.Cond} {t f : Nat} (hd : Bx bytes pc (.ifCond cd) t f) {u : Int32} (hc : CP (ng cd) u 0) (h : G f ls st A k n) : G pc ls (.int u :: st) A k n := by
  obtain ⟨o, hd, ho, hp, rfl⟩ := hd
  exact H.lift (fun hA hx hby hr => XS.ifNo hA hx rfl (hb hby hd) rfl (by rw [if0]; exact cp_f hc) hr) h
theorem IsGo.ifS (H : IsGo l Z a0 K n0 b0 y bytes maxL ret R Q G) {cd : ClassFile.Cond} {t f : Nat} (hd : Bx bytes pc (.ifCond cd) t f) {u : Int32} (h1 : CP cd u 0 → G t ls st A k n) (h2 : CP (ng cd) u 0 → G f ls st A k n) : G pc ls (.int u :: st) A k n :=
  (cp_or cd u 0).elim (fun q => H.ifT hd q (h1 q)) (fun q => H.ifF hd q (h2 q))
theorem cpl_cp {cd : ClassFile.Cond} {u v : Int64} (h : CPL cd u v) : CP cd (lcmpW u v) 0 := by
  cases cd <;> simp only [CPL] at h <;> simp only [CP]
  · exact (lw_eq u v).mpr h
  · exact fun q => h ((lw_eq u v).mp q)
  · exact (lw_lt u v).mpr h
  · exact fun q => h ((lw_lt u v).mp q)
  · exact (lw_gt u v).mpr h
  · exact fun q => h ((lw_gt u v).mp q)
theorem IsGo.lcmp (H : IsGo l Z a0 K n0 b0 y bytes maxL ret R Q G) (hd : Nx bytes pc .lcmp 1 pc') {u v : Int64} (h : G pc' ls (.int (lcmpW u v) :: st) A k n) : G pc ls (.long v :: .long u :: st) A k n := by
  obtain ⟨hd, rfl⟩ := hd
  exact H.lift (fun hA hx hby hr => XS.lcmp hA hx rfl (hb hby hd) rfl hr) h
theorem IsGo.lifT (H : IsGo l Z a0 K n0 b0 y bytes maxL ret R Q G) (hd0 : Nx bytes pc .lcmp 1 pc') {cd : ClassFile.Cond} {t f : Nat} (hd : Bx bytes pc' (.ifCond cd) t f) {u v : Int64} (hc : CPL cd u v) (h : G t ls st A k n) : G pc ls (.long v :: .long u :: st) A k n :=
  H.lcmp hd0 (H.ifT hd (cpl_cp hc) h)
theorem cpl_ng {cd : ClassFile.Cond} {u v : Int64} (h : CPL (ng cd) u v) : CP (ng cd) (lcmpW u v) 0 := cpl_cp h
theorem IsGo.lifF (H : IsGo l Z a0 K n0 b0 y bytes maxL ret R Q G) (hd0 : Nx bytes pc .lcmp 1 pc') {cd : ClassFile.Cond} {t f : Nat} (hd : Bx bytes pc' (.ifCond cd) t f) {u v : Int64} (hc : CPL (ng cd) u v) (h : G f ls st A k n) : G pc ls (.long v :: .long u :: st) A k n :=
  H.lcmp hd0 (H.ifF hd (cpl_ng hc) h)
theorem IsGo.lifS (H : IsGo l Z a0 K n0 b0 y bytes maxL ret R Q G) (hd0 : Nx bytes pc .lcmp 1 pc') {cd : ClassFile.Cond} {t f : Nat} (hd : Bx bytes pc' (.ifCond cd) t f) {u v : Int64} (h1 : CPL cd u v → G t ls st A k n) (h2 : CPL (ng cd) u v → G f ls st A k n) : G pc ls (.long v :: .long u :: st) A k n :=
  (cpl_or cd u v).elim (fun q => H.lifT hd0 hd q (h1 q)) (fun q => H.lifF hd0 hd q (h2 q))
theorem IsGo.ifnullT (H : IsGo l Z a0 K n0 b0 y bytes maxL ret R Q G) {t f : Nat} (hd : Bx bytes pc .ifnull t f) (h : G t ls st A k n) : G pc ls (.null :: st) A k n := by
  obtain ⟨o, hd, ho, hp, rfl⟩ := hd
  exact H.lift (fun hA hx hby hr => XS.ifnullYes hA hx rfl (pc0 := pc) (pc' := t) rfl (hb hby hd) rfl ho hp hr) h
theorem IsGo.ifnullF (H : IsGo l Z a0 K n0 b0 y bytes maxL ret R Q G) {t f : Nat} (hd : Bx bytes pc .ifnull t f) {b : Addr} (h : G f ls st A k n) : G pc ls (.ref b :: st) A k n := by
  obtain ⟨o, hd, ho, hp, rfl⟩ := hd
  exact H.lift (fun hA hx hby hr => XS.ifnullNo hA hx rfl (hb hby hd) rfl hr) h
theorem IsGo.ifnonnullT (H : IsGo l Z a0 K n0 b0 y bytes maxL ret R Q G) {t f : Nat} (hd : Bx bytes pc .ifnonnull t f) {b : Addr} (h : G t ls st A k n) : G pc ls (.ref b :: st) A k n := by
  obtain ⟨o, hd, ho, hp, rfl⟩ := hd
  exact H.lift (fun hA hx hby hr => XS.ifnonnullYes hA hx rfl (pc0 := pc) (pc' := t) rfl (hb hby hd) rfl ho hp hr) h
theorem IsGo.ifnonnullF (H : IsGo l Z a0 K n0 b0 y bytes maxL ret R Q G) {t f : Nat} (hd : Bx bytes pc .ifnonnull t f) (h : G f ls st A k n) : G pc ls (.null :: st) A k n := by
  obtain ⟨o, hd, ho, hp, rfl⟩ := hd
  exact H.lift (fun hA hx hby hr => XS.ifnonnullNo hA hx rfl (hb hby hd) rfl hr) h
theorem IsGo.acmp (H : IsGo l Z a0 K n0 b0 y bytes maxL ret R Q G) {cd : ClassFile.ACond} {t f : Nat} (hd : Bx bytes pc (.if_acmp cd) t f) {u v : Value} (h1 : u.isRef = true) (h2 : v.isRef = true) {same : Bool} (hq : decide (u = v) = same) (h : G (if acV cd same = true then t else f) ls st A k n) : G pc ls (v :: u :: st) A k n := by
  obtain ⟨o, hd, ho, hp, rfl⟩ := hd
  obtain ⟨p, e, s, m, args, below, meth, c, hx, hby, hml, hown, hnm, hret, hlk, hZ, hK, hb0, rfl⟩ := H
  intro T locs X hR hF
  obtain ⟨s₂, oo, q1, q2⟩ := h T locs X hR hF
  exact ⟨s₂, oo, RoadKit.acmp X hx (g := mkF m pc ls (v :: u :: st)) rfl h1 h2 (pc0 := pc) rfl (hb hby hd) rfl hq ho (by rw [hp]) q1, q2⟩
/-! ### the heap -/
def FL (Z : State) (a0 : Array Value) (K : KTab) (own : String) (idx k j : Nat) : Prop := ∃ C fs O nm d host, K[k]? = some (C, fs) ∧ fs[j]? = some (O, nm, d) ∧ ((Jvm.Cond.fieldLink own idx O nm d).before a0 Z = true ∨ (Jvm.Cond.fieldLinkNest own idx O nm d host).before a0 Z = true)
def PL (Z : State) (a0 : Array Value) (K : KTab) (own mname : String) (idx k j : Nat) (ty : FieldType) : Prop := ∃ C fs O nm d host, K[k]? = some (C, fs) ∧ fs[j]? = some (O, nm, d) ∧ ((Jvm.Cond.fieldLink own idx O nm d).before a0 Z = true ∨ (Jvm.Cond.fieldLinkNest own idx O nm d host).before a0 Z = true) ∧
  ((Jvm.Cond.lays C O nm d).before a0 Z = true ∨ ((Jvm.Cond.laysFinal C O nm d).before a0 Z = true ∧ own = O ∧ mname = "<init>")) ∧ parseFieldDescriptor d = some ty
theorem IsGo.getfield (H : IsGo l Z a0 K n0 b0 y bytes maxL ret R Q G) {idx kk j i : Nat} (hd : Nx bytes pc (.getfield idx) 3 pc') (L : FL Z a0 K y.cls idx kk j) {vs : List Value} {v : Value} (hA : A[i]? = some (.inl (kk, vs))) (hv : vs[j]? = some v) (h : G pc' ls (v :: st) A k n) : G pc ls (.ref (n0 + i) :: st) A k n := by
  obtain ⟨hd, rfl⟩ := hd
  obtain ⟨p, e, s, m, args, below, meth, c, hx, hby, hml, hown, hnm, hret, hlk, hZ, hK, hb0, rfl⟩ := H
  obtain ⟨C, fs, O, nm, d, host, hk, hj, w⟩ := L
  intro T locs X hR hF
  obtain ⟨C', fs', hk', hE, hlen, hf⟩ := hR.2 i _ hA
  cases hk.symm.trans hk'
  obtain ⟨T', X', eT, sp⟩ := getF X hx hZ hown w Via.refl rfl (hf j _ v hj hv) (g := mkF m pc ls (.ref (n0 + i) :: st)) rfl rfl (hb hby hd)
  obtain ⟨s₂, o, h1, h2⟩ := h T' locs X' (by rw [eT]; exact hR) hF
  exact ⟨s₂, o, sp _ h1, h2⟩
theorem IsGo.putfield (H : IsGo l Z a0 K n0 b0 y bytes maxL ret R Q G) {idx kk j i : Nat} {ty : FieldType} (hd : Nx bytes pc (.putfield idx) 3 pc') (L : PL Z a0 K y.cls y.name idx kk j ty) {vs : List Value} {v : Value} (hA : A[i]? = some (.inl (kk, vs))) (hn : narrow ty v = v) (hf : fits ty v = true) (hA' : A.set i (.inl (kk, vs.set j v)) = A') (h : G pc' ls st A' k n) : G pc ls (v :: .ref (n0 + i) :: st) A k n := by
  obtain ⟨hd, rfl⟩ := hd
  obtain ⟨p, e, s, m, args, below, meth, c, hx, hby, hml, hown, hnm, hret, hlk, hZ, hK, hb0, rfl⟩ := H
  obtain ⟨C, fs, O, nm, d, host, hk, hj, w, wl, hty⟩ := L
  subst hA'
  intro T locs X hR hF
  have hO := hR.2 i _ hA
  obtain ⟨C', fs', hk', hE, hlen, hfl⟩ := hR.2 i _ hA
  cases hk.symm.trans hk'
  obtain ⟨⟨ki, wi⟩, -, -⟩ := hK kk C fs hk
  have hlt : j < vs.length := by rw [hlen]; exact (List.getElem?_eq_some_iff.mp hj).1
  obtain ⟨T', h', X', eT, W, sp⟩ := putF X hx hZ hown w Via.refl rfl (hfl j _ vs[j] hj (List.getElem?_eq_getElem hlt)) hE (by rw [hnm]; exact wl) wi hty hn hf (g := mkF m pc ls (v :: .ref (n0 + i) :: st)) rfl rfl (hb hby hd)
  obtain ⟨s₂, o, h1, h2⟩ := h T' _ X' (by rw [eT]; exact hR.set W (hO.setF hK hk hj W)) (Fr.snoc X' hF (Nat.le_add_right _ _))
  exact ⟨s₂, o, sp _ h1, h2⟩
def NL (Z : State) (a0 : Array Value) (K : KTab) (own : String) (idx kk sz : Nat) (dv : List Value) : Prop := ∃ C fs, K[kk]? = some (C, fs) ∧ (Jvm.Cond.classLink own idx C).before a0 Z = true ∧ (Jvm.Cond.instantiable C sz).before a0 Z = true ∧ (Jvm.Cond.initialized C).before a0 Z = true ∧ fs.map (fun f => (parseFieldDescriptor f.2.2).map defaultValue) = dv.map some
theorem size_up {p : Program} {e : Env} {s T' : State} {m : MethodId} {args : Array Value} {below : List Frame} {meth : Method} {c : Code} {locs : List Loc} {h : Heap} (X : Stand p l e R s m args below meth c T' locs (k + 1) n) (hb : s.heap.size = n0 + b0) (hh : h.size = n0 + A.length) (hk : A.length = b0 + k) (hlt : h.size < T'.heap.size) : T'.heap.size = n0 + (A.length + 1) := by
  have := X.heapSize
  omega
theorem IsGo.new (H : IsGo l Z a0 K n0 b0 y bytes maxL ret R Q G) {idx kk sz i : Nat} {dv : List Value} (hd : Nx bytes pc (.new idx) 3 pc') (L : NL Z a0 K y.cls idx kk sz dv) (hk : A.length = b0 + k) (hc : k + 1 ≤ R.cells) (hs : n + sz ≤ R.slots) (hi : A.length = i) (hA' : A ++ [.inl (kk, dv)] = A') (hk' : k + 1 = k') (hn' : n + sz = n') (h : G pc' ls (.ref (n0 + i) :: st) A' k' n') : G pc ls st A k n := by
  obtain ⟨hd, rfl⟩ := hd
  obtain ⟨p, e, s, m, args, below, meth, c, hx, hby, hml, hown, hnm, hret, hlk, hZ, hK, hb0, rfl⟩ := H
  obtain ⟨C, fs, hkk, w1, w2, w3, hdv⟩ := L
  subst hA' hk' hn' hi
  intro T locs X hR hF
  obtain ⟨T', h', X', eT, E, EA, D, -, sp⟩ := newO X hx hZ hown w1 w2 w3 rfl (g := mkF m pc ls st) rfl (hb hby hd) hc hs
  have hsz : h'.size = n0 + (A.length + 1) := by rw [← eT]; exact size_up X' hb0 hR.1 hk (by rw [eT]; exact EA.lt)
  rw [hR.1] at EA D
  have hlen : dv.length = fs.length := by simpa using (congrArg List.length hdv).symm
  obtain ⟨-, kl, -⟩ := hK kk C fs hkk
  have hN : ObAt Z K h' (n0 + A.length) (.inl (kk, dv)) := ⟨C, fs, hkk, EA, hlen, fun j f v q r => by
    obtain ⟨L1, t, ht⟩ := kl j f q
    have e1 : (fs.map (fun f => (parseFieldDescriptor f.2.2).map defaultValue))[j]? = some (some (defaultValue t)) := by simp [List.getElem?_map, q, ht]
    rw [hdv, List.getElem?_map, r] at e1
    simp only [Option.map_some, Option.some.injEq] at e1
    rw [e1]; exact D L1 ht⟩
  obtain ⟨s₂, o, h1, h2⟩ := h T' locs X' (by rw [eT]; exact hR.push E hsz hN) hF
  rw [← hR.1] at h1
  exact ⟨s₂, o, sp _ h1, h2⟩
def AL (Z : State) (a0 : Array Value) (t : FieldType) : Prop := (Jvm.Cond.arrayClass t).before a0 Z = true
theorem tn_of {z : Int32} {N : Nat} (h : z.toInt = (N : Int)) : ¬ z < 0 ∧ z.toNatClampNeg = N := by
  constructor
  · intro q
    have := Int32.lt_iff_toInt_lt.mp q
    simp at this; omega
  · simp [Int32.toNatClampNeg, h]
theorem IsGo.newarray (H : IsGo l Z a0 K n0 b0 y bytes maxL ret R Q G) {aty : ArrayType} {i N cap : Nat} {z : Int32} {vs : List Value} {ty : FieldType} (hd : Nx bytes pc (.newarray aty) 2 pc') (hty : newarray.typeOf aty = ty) (w : AL Z a0 ty) (hz : z.toInt = (N : Int)) (hvs : List.replicate N (defaultValue ty) = vs) (hcap : N ≤ cap) (hbig : cap * 8 ≤ 536870912) (hk : A.length = b0 + k) (hc : k + 1 ≤ R.cells) (hs : n + cap ≤ R.slots) (hi : A.length = i) (hA' : A ++ [.inr (ty, vs)] = A') (hk' : k + 1 = k') (hn' : n + cap = n') (h : G pc' ls (.ref (n0 + i) :: st) A' k' n') : G pc ls (.int z :: st) A k n := by
  obtain ⟨hd, rfl⟩ := hd
  obtain ⟨p, e, s, m, args, below, meth, c, hx, hby, hml, hown, hnm, hret, hlk, hZ, hK, hb0, rfl⟩ := H
  subst hA' hk' hn' hi hty
  obtain ⟨z1, z2⟩ := tn_of hz
  intro T locs X hR hF
  obtain ⟨T', h', cA, X', eT, E, Ar, EA, sp⟩ := newPE X hx hZ w rfl (g := mkF m pc ls (.int z :: st)) rfl (hb hby hd) rfl z1 (by rw [z2]; exact hcap) hbig hc hs rfl
  have hsz : h'.size = n0 + (A.length + 1) := by rw [← eT]; exact size_up X' hb0 hR.1 hk (by rw [eT]; exact EA.lt)
  rw [hR.1] at EA Ar
  have hN : ObAt Z K h' (n0 + A.length) (.inr (newarray.typeOf aty, vs)) := ⟨⟨EA, fun w hw => by rw [← hvs] at hw; rw [(List.mem_replicate.mp hw).2]; cases aty <;> rfl⟩, _, Ar, by simp [newA, z2, ← hvs], fun C q => by cases aty <;> simp [newarray.typeOf] at q⟩
  obtain ⟨s₂, o, h1, h2⟩ := h T' locs X' (by rw [eT]; exact hR.push E hsz hN) hF
  rw [← hR.1] at h1
  exact ⟨s₂, o, sp _ h1, h2⟩
theorem IsGo.anewarray (H : IsGo l Z a0 K n0 b0 y bytes maxL ret R Q G) {idx i N cap : Nat} {z : Int32} {vs : List Value} {C : String} (hd : Nx bytes pc (.anewarray idx) 3 pc') (w1 : (Jvm.Cond.classLink y.cls idx C).before a0 Z = true) (w2 : (Jvm.Cond.arrayOver (.object C)).before a0 Z = true) (hz : z.toInt = (N : Int)) (hvs : List.replicate N Value.null = vs) (hcap : N ≤ cap) (hbig : cap * 8 ≤ 536870912) (hk : A.length = b0 + k) (hc : k + 1 ≤ R.cells) (hs : n + cap ≤ R.slots) (hi : A.length = i) (hA' : A ++ [.inr (.object C, vs)] = A') (hk' : k + 1 = k') (hn' : n + cap = n') (h : G pc' ls (.ref (n0 + i) :: st) A' k' n') : G pc ls (.int z :: st) A k n := by
  obtain ⟨hd, rfl⟩ := hd
  obtain ⟨p, e, s, m, args, below, meth, c, hx, hby, hml, hown, hnm, hret, hlk, hZ, hK, hb0, rfl⟩ := H
  subst hA' hk' hn' hi
  obtain ⟨z1, z2⟩ := tn_of hz
  intro T locs X hR hF
  obtain ⟨T', h', cA, X', eT, E, Ar, EA, Ov, sp⟩ := newRE X hx hZ hown w1 w2 rfl (g := mkF m pc ls (.int z :: st)) rfl (hb hby hd) rfl z1 (by rw [z2]; exact hcap) hbig hc hs rfl
  have hsz : h'.size = n0 + (A.length + 1) := by rw [← eT]; exact size_up X' hb0 hR.1 hk (by rw [eT]; exact EA.lt)
  rw [hR.1] at EA Ar
  have hN : ObAt Z K h' (n0 + A.length) (.inr (.object C, vs)) := ⟨⟨EA, fun w hw => by rw [← hvs] at hw; rw [(List.mem_replicate.mp hw).2]; rfl⟩, _, Ar, by simp [newA, z2, ← hvs, defaultValue], fun C' q => by cases q; exact Ov⟩
  obtain ⟨s₂, o, h1, h2⟩ := h T' locs X' (by rw [eT]; exact hR.push E hsz hN) hF
  rw [← hR.1] at h1
  exact ⟨s₂, o, sp _ h1, h2⟩
theorem arr_in {c : Cell} {vs : List Value} {z : Int32} {j : Nat} (hz : z.toInt = (j : Int)) (hs : c.slots = vs.toArray) (hj : j < vs.length) : ¬ (z < 0 ∨ c.slots.size ≤ z.toNatClampNeg) := by
  obtain ⟨z1, z2⟩ := tn_of hz
  rw [z2, hs]; simp [z1]; omega
theorem IsGo.arraylength (H : IsGo l Z a0 K n0 b0 y bytes maxL ret R Q G) (hd : Nx bytes pc .arraylength 1 pc') {i : Nat} {ty : FieldType} {vs : List Value} {z : Int32} (hA : A[i]? = some (.inr (ty, vs))) (hz : vs.length.toInt32 = z) (h : G pc' ls (.int z :: st) A k n) : G pc ls (.ref (n0 + i) :: st) A k n := by
  obtain ⟨hd, rfl⟩ := hd
  obtain ⟨p, e, s, m, args, below, meth, c, hx, hby, hml, hown, hnm, hret, hlk, hZ, hK, hb0, rfl⟩ := H
  subst hz
  intro T locs X hR hF
  obtain ⟨EA, cl, Ar, hcs, -⟩ := hR.2 i _ hA
  obtain ⟨s₂, o, h1, h2⟩ := h T locs X hR hF
  have q : vs.length = cl.slots.size := by rw [hcs]; simp
  rw [q] at h1
  exact ⟨s₂, o, X.arraylength hx Ar.1 (State.isArrayOf_alike hZ.alike Ar.2.1) (g := mkF m pc ls (.ref (n0 + i) :: st)) rfl rfl (hb hby hd) _ h1, h2⟩
theorem IsGo.iaload (H : IsGo l Z a0 K n0 b0 y bytes maxL ret R Q G) (hd : Nx bytes pc .iaload 1 pc') {i j : Nat} {vs : List Value} {z : Int32} {v : Value} (hA : A[i]? = some (.inr (.int, vs))) (hz : z.toInt = (j : Int)) (hv : vs[j]? = some v) (h : G pc' ls (v :: st) A k n) : G pc ls (.int z :: .ref (n0 + i) :: st) A k n := by
  obtain ⟨hd, rfl⟩ := hd
  obtain ⟨p, e, s, m, args, below, meth, c, hx, hby, hml, hown, hnm, hret, hlk, hZ, hK, hb0, rfl⟩ := H
  intro T locs X hR hF
  obtain ⟨EA, cl, Ar, hcs, -⟩ := hR.2 i _ hA
  obtain ⟨s₂, o, h1, h2⟩ := h T locs X hR hF
  exact ⟨s₂, o, X.iaload hx Ar.1 (State.isArrayOf_alike hZ.alike Ar.2.1) Ar.2.2 (arr_in hz hcs (List.getElem?_eq_some_iff.mp hv).1) (v := v) (by rw [(tn_of hz).2, hcs]; simpa using hv) (g := mkF m pc ls (.int z :: .ref (n0 + i) :: st)) rfl rfl (hb hby hd) _ h1, h2⟩
theorem IsGo.laload (H : IsGo l Z a0 K n0 b0 y bytes maxL ret R Q G) (hd : Nx bytes pc .laload 1 pc') {i j : Nat} {vs : List Value} {z : Int32} {v : Value} (hA : A[i]? = some (.inr (.long, vs))) (hz : z.toInt = (j : Int)) (hv : vs[j]? = some v) (h : G pc' ls (v :: st) A k n) : G pc ls (.int z :: .ref (n0 + i) :: st) A k n := by
  obtain ⟨hd, rfl⟩ := hd
  obtain ⟨p, e, s, m, args, below, meth, c, hx, hby, hml, hown, hnm, hret, hlk, hZ, hK, hb0, rfl⟩ := H
  intro T locs X hR hF
  obtain ⟨EA, cl, Ar, hcs, -⟩ := hR.2 i _ hA
  obtain ⟨s₂, o, h1, h2⟩ := h T locs X hR hF
  exact ⟨s₂, o, X.laload hx Ar.1 (State.isArrayOf_alike hZ.alike Ar.2.1) Ar.2.2 (arr_in hz hcs (List.getElem?_eq_some_iff.mp hv).1) (v := v) (by rw [(tn_of hz).2, hcs]; simpa using hv) (g := mkF m pc ls (.int z :: .ref (n0 + i) :: st)) rfl rfl (hb hby hd) _ h1, h2⟩
theorem IsGo.aaload (H : IsGo l Z a0 K n0 b0 y bytes maxL ret R Q G) (hd : Nx bytes pc .aaload 1 pc') {i j : Nat} {C : String} {vs : List Value} {z : Int32} {v : Value} (hA : A[i]? = some (.inr (.object C, vs))) (hz : z.toInt = (j : Int)) (hv : vs[j]? = some v) (h : G pc' ls (v :: st) A k n) : G pc ls (.int z :: .ref (n0 + i) :: st) A k n := by
  obtain ⟨hd, rfl⟩ := hd
  obtain ⟨p, e, s, m, args, below, meth, c, hx, hby, hml, hown, hnm, hret, hlk, hZ, hK, hb0, rfl⟩ := H
  intro T locs X hR hF
  obtain ⟨EA, cl, Ar, hcs, -⟩ := hR.2 i _ hA
  obtain ⟨s₂, o, h1, h2⟩ := h T locs X hR hF
  exact ⟨s₂, o, X.aaload hx Ar.1 (State.isArrayOf_alike hZ.alike Ar.2.1) rfl Ar.2.2 (arr_in hz hcs (List.getElem?_eq_some_iff.mp hv).1) (v := v) (by rw [(tn_of hz).2, hcs]; simpa using hv) (g := mkF m pc ls (.int z :: .ref (n0 + i) :: st)) rfl rfl (hb hby hd) _ h1, h2⟩
theorem IsGo.iastore (H : IsGo l Z a0 K n0 b0 y bytes maxL ret R Q G) (hd : Nx bytes pc .iastore 1 pc') {i j : Nat} {vs : List Value} {z v : Int32} (hA : A[i]? = some (.inr (.int, vs))) (hz : z.toInt = (j : Int)) (hj : j < vs.length) (hA' : A.set i (.inr (.int, vs.set j (.int v))) = A') (h : G pc' ls st A' k n) : G pc ls (.int v :: .int z :: .ref (n0 + i) :: st) A k n := by
  obtain ⟨hd, rfl⟩ := hd
  obtain ⟨p, e, s, m, args, below, meth, c, hx, hby, hml, hown, hnm, hret, hlk, hZ, hK, hb0, rfl⟩ := H
  subst hA'
  intro T locs X hR hF
  have hO := hR.2 i _ hA
  obtain ⟨EA, cl, Ar, hcs, -⟩ := hR.2 i _ hA
  obtain ⟨T', h', X', eT, W, sp⟩ := stI X hx hZ rfl Ar (arr_in hz hcs hj) (g := mkF m pc ls (.int v :: .int z :: .ref (n0 + i) :: st)) rfl rfl (hb hby hd)
  rw [(tn_of hz).2] at W
  obtain ⟨s₂, o, h1, h2⟩ := h T' _ X' (by rw [eT]; exact hR.set W (hO.setA W rfl)) (Fr.snoc X' hF (Nat.le_add_right _ _))
  exact ⟨s₂, o, sp _ h1, h2⟩
theorem IsGo.lastore (H : IsGo l Z a0 K n0 b0 y bytes maxL ret R Q G) (hd : Nx bytes pc .lastore 1 pc') {i j : Nat} {vs : List Value} {z : Int32} {v : Int64} (hA : A[i]? = some (.inr (.long, vs))) (hz : z.toInt = (j : Int)) (hj : j < vs.length) (hA' : A.set i (.inr (.long, vs.set j (.long v))) = A') (h : G pc' ls st A' k n) : G pc ls (.long v :: .int z :: .ref (n0 + i) :: st) A k n := by
  obtain ⟨hd, rfl⟩ := hd
  obtain ⟨p, e, s, m, args, below, meth, c, hx, hby, hml, hown, hnm, hret, hlk, hZ, hK, hb0, rfl⟩ := H
  subst hA'
  intro T locs X hR hF
  have hO := hR.2 i _ hA
  obtain ⟨EA, cl, Ar, hcs, -⟩ := hR.2 i _ hA
  obtain ⟨T', h', X', eT, W, sp⟩ := stJ X hx hZ rfl Ar (arr_in hz hcs hj) (g := mkF m pc ls (.long v :: .int z :: .ref (n0 + i) :: st)) rfl rfl (hb hby hd)
  rw [(tn_of hz).2] at W
  obtain ⟨s₂, o, h1, h2⟩ := h T' _ X' (by rw [eT]; exact hR.set W (hO.setA W rfl)) (Fr.snoc X' hF (Nat.le_add_right _ _))
  exact ⟨s₂, o, sp _ h1, h2⟩
theorem IsGo.bastore (H : IsGo l Z a0 K n0 b0 y bytes maxL ret R Q G) (hd : Nx bytes pc .bastore 1 pc') {i j : Nat} {vs : List Value} {z v w : Int32} (hA : A[i]? = some (.inr (.byte, vs))) (hz : z.toInt = (j : Int)) (hj : j < vs.length) (hw : nar .byte v = w) (hA' : A.set i (.inr (.byte, vs.set j (.int w))) = A') (h : G pc' ls st A' k n) : G pc ls (.int v :: .int z :: .ref (n0 + i) :: st) A k n := by
  obtain ⟨hd, rfl⟩ := hd
  obtain ⟨p, e, s, m, args, below, meth, c, hx, hby, hml, hown, hnm, hret, hlk, hZ, hK, hb0, rfl⟩ := H
  subst hA' hw
  intro T locs X hR hF
  have hO := hR.2 i _ hA
  obtain ⟨EA, cl, Ar, hcs, -⟩ := hR.2 i _ hA
  obtain ⟨T', h', X', eT, W, sp⟩ := stB X hx hZ rfl Ar (arr_in hz hcs hj) (g := mkF m pc ls (.int v :: .int z :: .ref (n0 + i) :: st)) rfl rfl (hb hby hd)
  rw [(tn_of hz).2] at W
  obtain ⟨s₂, o, h1, h2⟩ := h T' _ X' (by rw [eT]; exact hR.set W (hO.setA W (fits_nar_byte v))) (Fr.snoc X' hF (Nat.le_add_right _ _))
  exact ⟨s₂, o, sp _ h1, h2⟩
/-- the value can stand in an array of that class -/
def StoO (K : KTab) (C : String) (n0 : Nat) (A : List Ob) (v : Value) : Prop := v = .null ∨ ∃ i kk vs fs, v = .ref (n0 + i) ∧ A[i]? = some (.inl (kk, vs)) ∧ K[kk]? = some (C, fs)
theorem IsGo.aastore (H : IsGo l Z a0 K n0 b0 y bytes maxL ret R Q G) (hd : Nx bytes pc .aastore 1 pc') {i j : Nat} {C : String} {vs : List Value} {z : Int32} {v : Value} (hA : A[i]? = some (.inr (.object C, vs))) (hz : z.toInt = (j : Int)) (hj : j < vs.length) (hv : StoO K C n0 A v) (hA' : A.set i (.inr (.object C, vs.set j v)) = A') (h : G pc' ls st A' k n) : G pc ls (v :: .int z :: .ref (n0 + i) :: st) A k n := by
  obtain ⟨hd, rfl⟩ := hd
  obtain ⟨p, e, s, m, args, below, meth, c, hx, hby, hml, hown, hnm, hret, hlk, hZ, hK, hb0, rfl⟩ := H
  subst hA'
  intro T locs X hR hF
  have hO := hR.2 i _ hA
  obtain ⟨EA, cl, Ar, hcs, hov⟩ := hR.2 i _ hA
  have S : Sto Z T.heap (n0 + i) v := by
    rcases hv with rfl | ⟨i2, kk, vs2, fs, rfl, q1, q2⟩
    · exact Or.inl rfl
    · exact Sto.of Ar (hov C rfl) (Ins.self ((hR.2 i2 _ q1).exa q2))
  obtain ⟨T', h', X', eT, W, sp⟩ := stR X hx hZ rfl Ar (arr_in hz hcs hj) rfl S (g := mkF m pc ls (v :: .int z :: .ref (n0 + i) :: st)) rfl rfl (hb hby hd)
  rw [(tn_of hz).2] at W
  obtain ⟨s₂, o, h1, h2⟩ := h T' _ X' (by rw [eT]; exact hR.set W (hO.setA W (by rcases hv with rfl | ⟨i2, kk, vs2, fs, rfl, -⟩ <;> rfl))) (Fr.snoc X' hF (Nat.le_add_right _ _))
  exact ⟨s₂, o, sp _ h1, h2⟩
/-! ### arraycopy, clone, checkcast -/
def XL (Z : State) (a0 : Array Value) (own : String) (idx : Nat) : Prop := (Jvm.Cond.methodLink own idx Jvm.Stand.acN).before a0 Z = true ∧ (Jvm.Cond.native Jvm.Stand.acN).before a0 Z = true ∧ (Jvm.Cond.static Jvm.Stand.acN).before a0 Z = true ∧ (Jvm.Cond.initialized "java/lang/System").before a0 Z = true
theorem arv_of {h : Heap} {a : Addr} {ty : FieldType} {vs : List Value} (hl : vs.length < 2147483648) (F : ObAt Z K h a (.inr (ty, vs))) : ∃ kc : ClassId, Arv Z h a kc ty vs.length.toInt32 vs .null ∧ ∀ C, ty = .object C → Ovr Z kc C := by
  obtain ⟨⟨h1, hf⟩, c, h2, h3, h4⟩ := F
  have e := len_toInt (n := vs.length) (by omega)
  obtain ⟨z1, z2⟩ := tn_of e
  refine ⟨c.cls, ⟨c, h2, rfl, by rw [z2, h3]; simp, z1, fun k hk => ?_, fun i hi => ?_⟩, h4⟩
  · rw [h3] at hk ⊢
    have hk' : k < vs.length := by simpa using hk
    simp [List.getD, hk']
  · rw [h3] at hi
    have hi' : i < vs.length := by simpa using hi
    have : vs.getD i .null = vs[i] := by simp [List.getD, hi']
    rw [this]; exact hf _ (List.getElem_mem hi')
theorem slots_of {c : Cell} {vs : List Value} {d : Value} (hs : c.slots.size = vs.length) (hh : ∀ k, k < c.slots.size → c.slots[k]? = some (vs.getD k d)) : c.slots = vs.toArray := by
  apply Array.ext
  · simpa using hs
  · intro i h1 h2
    have q := hh i h1
    have h3 : i < vs.length := by simpa using h2
    rw [Array.getElem?_eq_getElem h1] at q
    have e : vs.getD i d = vs[i] := by simp [List.getD, h3]
    rw [e] at q
    simpa using q
theorem IsGo.arraycopy (H : IsGo l Z a0 K n0 b0 y bytes maxL ret R Q G) {idx : Nat} (hd : Nx bytes pc (.invokestatic idx) 3 pc') (L : XL Z a0 y.cls idx) {i j : Nat} {ty : FieldType} {vs vd us : List Value} {sp dp nn : Int32} {p q r : Nat} (hA : A[i]? = some (.inr (ty, vs))) (hB : A[j]? = some (.inr (ty, vd))) (hty : refKind ty = false) (h1 : sp.toInt = (p : Int)) (h2 : dp.toInt = (q : Int)) (h3 : nn.toInt = (r : Int)) (h4 : p + r ≤ vs.length) (h5 : q + r ≤ vd.length) (l1 : vs.length < 2147483648) (l2 : vd.length < 2147483648)
    (hus : (List.range r).map (fun i => vs.getD (p + i) .null) = us) (hls : ls.size = maxL) (hf : 1 ≤ R.frames) (hl : (st.map fun v => v.category).sum + (nativeFrameWords "java/lang/System" "arraycopy" 5 + 11) ≤ R.locals) (hk : A.length = b0 + k) (hA' : A.set j (.inr (ty, vd.take q ++ us ++ vd.drop (q + r))) = A') (h : G pc' ls st A' k n) : G pc ls (.int nn :: .int dp :: .ref (n0 + j) :: .int sp :: .ref (n0 + i) :: st) A k n := by
  obtain ⟨hd, rfl⟩ := hd
  obtain ⟨pp, e, s, m, args, below, meth, c, hx, hby, hml, hown, hnm, hret, hlk, hZ, hK, hb0, rfl⟩ := H
  obtain ⟨w1, w2, w3, w4⟩ := L
  subst hA'
  intro T locs X hR hF
  obtain ⟨k1, V1, -⟩ := arv_of l1 (hR.2 i _ hA)
  obtain ⟨k2, V2, O2⟩ := arv_of l2 (hR.2 j _ hB)
  obtain ⟨⟨EB, fB⟩, -⟩ := hR.2 j _ hB
  obtain ⟨⟨-, fA⟩, -⟩ := hR.2 i _ hA
  obtain ⟨s1, s2⟩ := tn_of h1
  obtain ⟨t1, t2⟩ := tn_of h2
  obtain ⟨u1, u2⟩ := tn_of h3
  have n1 := (tn_of (len_toInt (n := vs.length) (by omega))).2
  have n2 := (tn_of (len_toInt (n := vd.length) (by omega))).2
  obtain ⟨T', h', L', X', eT, F', Kp, V', sp'⟩ := cpA X hx hZ hown w1 w2 w3 w4 rfl V1 V2 (us := us) (Or.inl ⟨rfl, hty⟩) s1 t1 u1 (by rw [s2, u2, n1]; exact h4) (by rw [t2, u2, n2]; exact h5) (by rw [s2, u2]; exact hus.symm) (by rw [t2, u2]; exact h5) (n0 := n0) hF (Nat.le_add_right _ _) (g := mkF m pc ls (.int nn :: .int dp :: .ref (n0 + j) :: .int sp :: .ref (n0 + i) :: st)) rfl (by rw [hml]; exact hls) rfl (hb hby hd) hf (W := (st.map fun v => v.category).sum) (by show 2 * 0 + _ ≤ _; omega) hl
  have hsz : h'.size = T.heap.size := by
    have q1 := X'.heapSize
    have q2 := Kp.1
    have q3 := hR.1
    rw [eT] at q1
    omega
  rw [t2, u2] at V'
  have hlen : (vd.take q ++ us ++ vd.drop (q + r)).length = vd.length := by
    have : us.length = r := by rw [← hus]; simp
    simp [this]; omega
  have hO : ObAt Z K h' (n0 + j) (.inr (ty, vd.take q ++ us ++ vd.drop (q + r))) := by
    obtain ⟨cc, a1, a2, a3, a4, a5, a6⟩ := V'
    have e1 : cc.slots.size = (vd.take q ++ us ++ vd.drop (q + r)).length := by rw [hlen, a3, n2]
    refine ⟨⟨EB.keep Kp, fun w hw => ?_⟩, cc, a1, slots_of e1 a5, fun C q => by rw [a2]; exact O2 C q⟩
    obtain ⟨z, hz, rfl⟩ := List.mem_iff_getElem.mp hw
    have := a6 z (by rw [e1]; exact hz)
    rwa [show (vd.take q ++ us ++ vd.drop (q + r)).getD z .null = (vd.take q ++ us ++ vd.drop (q + r))[z] from by simp only [List.getD, List.getElem?_eq_getElem hz, Option.getD_some]] at this
  obtain ⟨s₂, o, g1, g2⟩ := h T' _ X' (by rw [eT]; exact hR.keep Kp hsz hO) F'
  exact ⟨s₂, o, sp' _ g1, g2⟩
def KL (Z : State) (a0 : Array Value) (own : String) (idx : Nat) (ad : String) : Prop := (Jvm.Cond.methodLink own idx ⟨ad, "clone", "()Ljava/lang/Object;"⟩).before a0 Z = true ∧ (Jvm.Cond.sameMethod ad "java/lang/Object" "clone" "()Ljava/lang/Object;").before a0 Z = true ∧ (Jvm.Cond.native ⟨"java/lang/Object", "clone", "()Ljava/lang/Object;"⟩).before a0 Z = true ∧
  (Jvm.Cond.instanceMethod ⟨"java/lang/Object", "clone", "()Ljava/lang/Object;"⟩).before a0 Z = true ∧ (Jvm.Cond.selects ad ⟨ad, "clone", "()Ljava/lang/Object;"⟩ ⟨"java/lang/Object", "clone", "()Ljava/lang/Object;"⟩).before a0 Z = true ∧ (Jvm.Cond.castable ad "java/lang/Cloneable").before a0 Z = true
theorem IsGo.clone (H : IsGo l Z a0 K n0 b0 y bytes maxL ret R Q G) {idx : Nat} {ad : String} (hd : Nx bytes pc (.invokevirtual idx) 3 pc') (L : KL Z a0 y.cls idx ad) {i ii cap : Nat} {ty : FieldType} {vs : List Value} (hA : A[i]? = some (.inr (ty, vs))) (had : "[" ++ ty.toString = ad) (l1 : vs.length < 2147483648) (hcap : vs.length ≤ cap)
    (hls : ls.size = maxL) (hf : 1 ≤ R.frames) (hl : (st.map fun v => v.category).sum + 14 ≤ R.locals) (hk : A.length = b0 + k) (hc : k + 1 ≤ R.cells) (hs : n + cap ≤ R.slots) (hi : A.length = ii) (hA' : A ++ [.inr (ty, vs)] = A') (hk' : k + 1 = k') (hn' : n + cap = n') (h : G pc' ls (.ref (n0 + ii) :: st) A' k' n') : G pc ls (.ref (n0 + i) :: st) A k n := by
  obtain ⟨hd, rfl⟩ := hd
  obtain ⟨pp, e, s, m, args, below, meth, c, hx, hby, hml, hown, hnm, hret, hlk, hZ, hK, hb0, rfl⟩ := H
  obtain ⟨w1, w2, w3, w4, w5, w6⟩ := L
  subst hA' hk' hn' hi had
  intro T locs X hR hF
  obtain ⟨k1, V1, O1⟩ := arv_of l1 (hR.2 i _ hA)
  obtain ⟨⟨EB, fB⟩, -⟩ := hR.2 i _ hA
  have n1 := (tn_of (len_toInt (n := vs.length) (by omega))).2
  obtain ⟨T', h', X', eT, E, V', EA, sp⟩ := cloneH X hx hZ hown w1 w2 w3 w4 w5 w6 rfl V1.arh EB (g := mkF m pc ls (.ref (n0 + i) :: st)) rfl (by rw [hml]; exact hls) rfl (hb hby hd) hf (W := (st.map fun v => v.category).sum) (cap := cap) (by show 2 * 0 + _ ≤ _; omega) hl (by rw [n1]; exact hcap) hc hs
  have hsz : h'.size = n0 + (A.length + 1) := by rw [← eT]; exact size_up X' hb0 hR.1 hk (by rw [eT]; exact EA.lt)
  rw [hR.1] at EA V'
  have hN : ObAt Z K h' (n0 + A.length) (.inr (ty, vs)) := by
    obtain ⟨cc, a1, a2, a3, a4, a5, a6⟩ := V'
    refine ⟨⟨EA, fB⟩, cc, a1, slots_of (by rw [a3, n1]) a5, fun C q => by rw [a2]; exact O1 C q⟩
  obtain ⟨s₂, o, h1, h2⟩ := h T' locs X' (by rw [eT]; exact hR.push E hsz hN) hF
  rw [← hR.1] at h1
  exact ⟨s₂, o, sp _ h1, h2⟩
theorem IsGo.castA (H : IsGo l Z a0 K n0 b0 y bytes maxL ret R Q G) {idx : Nat} {ad : String} (hd : Nx bytes pc (.checkcast idx) 3 pc') (w : (Jvm.Cond.classLink y.cls idx ad).before a0 Z = true) {i : Nat} {ty : FieldType} {vs : List Value} (hA : A[i]? = some (.inr (ty, vs))) (had : "[" ++ ty.toString = ad) (h : G pc' ls (.ref (n0 + i) :: st) A k n) : G pc ls (.ref (n0 + i) :: st) A k n := by
  obtain ⟨hd, rfl⟩ := hd
  obtain ⟨pp, e, s, m, args, below, meth, c, hx, hby, hml, hown, hnm, hret, hlk, hZ, hK, hb0, rfl⟩ := H
  subst had
  intro T locs X hR hF
  obtain ⟨⟨EB, -⟩, -⟩ := hR.2 i _ hA
  obtain ⟨T', X', eT, sp⟩ := castY X hx hZ hown w rfl (Ins.self EB) (g := mkF m pc ls (.ref (n0 + i) :: st)) rfl rfl (hb hby hd)
  obtain ⟨s₂, o, h1, h2⟩ := h T' locs X' (by rw [eT]; exact hR) hF
  exact ⟨s₂, o, sp _ h1, h2⟩
/-! ### calls -/
def IL (Z : State) (a0 : Array Value) (own : String) (idx : Nat) : Prop := (Jvm.Cond.methodLink own idx Lib.objectInit).before a0 Z = true ∧ (Jvm.Cond.instanceMethod Lib.objectInit).before a0 Z = true ∧ (Jvm.Cond.code Lib.objectInit ⟨#[0xb1]⟩ 1 none).before a0 Z = true
theorem IsGo.initO (H : IsGo l Z a0 K n0 b0 y bytes maxL ret R Q G) {idx : Nat} (hd : Nx bytes pc (.invokespecial idx) 3 pc') (L : IL Z a0 y.cls idx) {a : Addr} (hls : ls.size = maxL) (hf : 1 ≤ R.frames) (hl : (st.map fun v => v.category).sum + 12 ≤ R.locals) (h : G pc' ls st A k n) : G pc ls (.ref a :: st) A k n := by
  obtain ⟨hd, rfl⟩ := hd
  obtain ⟨p, e, s, m, args, below, meth, c, hx, hby, hml, hown, hnm, hret, hlk, hZ, hK, hb0, rfl⟩ := H
  obtain ⟨w1, w2, w3⟩ := L
  intro T locs X hR hF
  obtain ⟨T', X', eT, sp⟩ := RoadKit.initO X hx hZ hown w1 w2 w3 rfl (g := mkF m pc ls (.ref a :: st)) rfl (by rw [hml]; exact hls) rfl (hb hby hd) hf (W := (st.map fun v => v.category).sum) (by show 2 * 0 + _ ≤ _; omega) hl
  obtain ⟨s₂, o, h1, h2⟩ := h T' locs X' (by rw [eT]; exact hR) hF
  exact ⟨s₂, o, sp _ h1, h2⟩
def SL (Z : State) (a0 : Array Value) (own : String) (idx : Nat) (z : MethodName) (zb : ByteArray) (zm : Nat) (zr : Option FieldType) (np : Nat) : Prop :=
  (Jvm.Cond.methodLink own idx z).before a0 Z = true ∧ (Jvm.Cond.static z).before a0 Z = true ∧ (Jvm.Cond.initialized z.cls).before a0 Z = true ∧ (Jvm.Cond.code z zb zm zr).before a0 Z = true ∧ (z.cls ≠ "java/lang/invoke/MethodHandle" ∧ z.cls ≠ "java/lang/invoke/VarHandle") ∧ ∀ sig, parseMethodDescriptor z.desc = some sig → np = sig.parameters.length
theorem IsGo.callS (H : IsGo l Z a0 K n0 b0 y bytes maxL ret R Q G) {idx : Nat} (hd : Nx bytes pc (.invokestatic idx) 3 pc') {z : MethodName} {zb : ByteArray} {zm : Nat} {zr : Option FieldType} {np : Nat} (L : SL Z a0 y.cls idx z zb zm zr np) {rm : Room} {as : Array Value} {QQ : Option Value → List Ob → Prop} (M : Met l Z K n0 z zb zm zr rm as A QQ)
    {argsL rest : List Value} (ha : argsL.toArray = as) (hnp : argsL.length = np) (hst : st = argsL.reverse ++ rest) (hls : ls.size = maxL) (hf : rm.frames + 1 ≤ R.frames) (hl : (rest.map fun v => v.category).sum + (zm + 11) + rm.locals ≤ R.locals) (hc : k + rm.cells ≤ R.cells) (hs : n + rm.slots ≤ R.slots) (h : ∀ v A', QQ v A' → G pc' ls (v.toList ++ rest) A' (k + rm.cells) (n + rm.slots)) : G pc ls st A k n := by
  obtain ⟨hd, rfl⟩ := hd
  obtain ⟨p, e, s, m, args, below, meth, c, hx, hby, hml, hown, hnm, hret, hlk, hZ, hK, hb0, rfl⟩ := H
  obtain ⟨w1, w2, w3, w4, w5, w6⟩ := L
  subst ha hst hnp
  intro T locs X hR hF
  obtain ⟨v, vm₁, ⟨T', L', k', n'⟩, -, X', ⟨Lc, ⟨A', hQ, hR', hF'⟩, e1, e2, e3⟩, sp⟩ := Jvm.LawKit.callS X hx (y := z) hown (mvT hZ w1) (mvT hZ w2) (mvT hZ w3) (mvT hZ w4) w5 (backOf (W := (rest.map fun v => v.category).sum) (Q := fun v h L => ∃ A', QQ v A' ∧ Rel Z K n0 h A' ∧ Fr n0 L) (M [] T.heap hR) hZ w4 w3 hf hl) (g := mkF m pc ls (argsL.reverse ++ rest)) rfl (by rw [hml]; exact hls) (argsL := argsL) (rest := rest) w6 rfl (by show 2 * 0 + _ ≤ _; omega) (hb hby hd) (fun _ _ => ⟨rfl, rfl, hc, hs⟩)
  dsimp only [Pt.U, Pt.locs, Pt.cells, Pt.slots] at X' e1 e2 e3 sp hQ hR'
  subst e1 e2 e3
  obtain ⟨s₂, o, h1, h2⟩ := h v A' hQ T' _ X' hR' (Fr.app hF hF')
  exact ⟨s₂, o, sp _ h1, h2⟩
/-- a constructor by its contract -/
def CL (Z : State) (a0 : Array Value) (own : String) (idx : Nat) (z : MethodName) (zb : ByteArray) (zm : Nat) (np : Nat) : Prop :=
  (Jvm.Cond.methodLink own idx z).before a0 Z = true ∧ (Jvm.Cond.instanceMethod z).before a0 Z = true ∧ (Jvm.Cond.initialized z.cls).before a0 Z = true ∧ (Jvm.Cond.code z zb zm none).before a0 Z = true ∧ (z.cls ≠ "java/lang/invoke/MethodHandle" ∧ z.cls ≠ "java/lang/invoke/VarHandle") ∧ (∀ sig, parseMethodDescriptor z.desc = some sig → np = sig.parameters.length) ∧ z.name = "<init>"
theorem IsGo.callC (H : IsGo l Z a0 K n0 b0 y bytes maxL ret R Q G) {idx : Nat} (hd : Nx bytes pc (.invokespecial idx) 3 pc') {z : MethodName} {zb : ByteArray} {zm : Nat} {np : Nat} (L : CL Z a0 y.cls idx z zb zm np) {rm : Room} {as : Array Value} {QQ : Option Value → List Ob → Prop} (M : Met l Z K n0 z zb zm none rm as A QQ)
    {a : Addr} {argsL rest : List Value} (ha : (Value.ref a :: argsL).toArray = as) (hnp : argsL.length = np) (hst : st = argsL.reverse ++ .ref a :: rest) (hls : ls.size = maxL) (hf : rm.frames + 1 ≤ R.frames) (hl : (rest.map fun v => v.category).sum + (zm + 11) + rm.locals ≤ R.locals) (hc : k + rm.cells ≤ R.cells) (hs : n + rm.slots ≤ R.slots) (h : ∀ v A', QQ v A' → G pc' ls (v.toList ++ rest) A' (k + rm.cells) (n + rm.slots)) : G pc ls st A k n := by
  obtain ⟨hd, rfl⟩ := hd
  obtain ⟨p, e, s, m, args, below, meth, c, hx, hby, hml, hown, hnm, hret, hlk, hZ, hK, hb0, rfl⟩ := H
  obtain ⟨w1, w2, w3, w4, w5, w6, w7⟩ := L
  subst ha hst hnp
  intro T locs X hR hF
  obtain ⟨v, vm₁, ⟨T', L', k', n'⟩, -, X', ⟨Lc, ⟨A', hQ, hR', hF'⟩, e1, e2, e3⟩, sp⟩ := X.specialBack hx (y := z) w7 hown (mvT hZ w1) (mvT hZ w2) (mvT hZ w4) w5 (backOf (W := (rest.map fun v => v.category).sum) (Q := fun v h L => ∃ A', QQ v A' ∧ Rel Z K n0 h A' ∧ Fr n0 L) (M [] T.heap hR) hZ w4 w3 hf hl) (g := mkF m pc ls (argsL.reverse ++ .ref a :: rest)) rfl (by rw [hml]; exact hls) (Steps.refl _) (a := a) (argsL := argsL) (rest := rest) w6 rfl (by show 2 * 0 + _ ≤ _; omega) (hb hby hd) (fun _ _ => ⟨rfl, rfl, hc, hs⟩)
  dsimp only [Pt.U, Pt.locs, Pt.cells, Pt.slots] at X' e1 e2 e3 sp hQ hR'
  subst e1 e2 e3
  obtain ⟨s₂, o, h1, h2⟩ := h v A' hQ T' _ X' hR' (Fr.app hF hF')
  exact ⟨s₂, o, sp.trans h1, h2⟩
/-- a method of an object of class number kk, by its contract -/
def VL (Z : State) (a0 : Array Value) (K : KTab) (own : String) (idx kk : Nat) (z : MethodName) (zb : ByteArray) (zm : Nat) (zr : Option FieldType) (np : Nat) : Prop :=
  ∃ C fs, K[kk]? = some (C, fs) ∧ (Jvm.Cond.methodLink own idx z).before a0 Z = true ∧ (Jvm.Cond.declares z).before a0 Z = true ∧ (Jvm.Cond.selects C z z).before a0 Z = true ∧ (Jvm.Cond.instanceMethod z).before a0 Z = true ∧ (Jvm.Cond.initialized z.cls).before a0 Z = true ∧ (Jvm.Cond.code z zb zm zr).before a0 Z = true ∧ (z.cls ≠ "java/lang/invoke/MethodHandle" ∧ z.cls ≠ "java/lang/invoke/VarHandle") ∧ (∀ sig, parseMethodDescriptor z.desc = some sig → np = sig.parameters.length)
theorem IsGo.callV (H : IsGo l Z a0 K n0 b0 y bytes maxL ret R Q G) {idx kk : Nat} (hd : Nx bytes pc (.invokevirtual idx) 3 pc') {z : MethodName} {zb : ByteArray} {zm : Nat} {zr : Option FieldType} {np : Nat} (L : VL Z a0 K y.cls idx kk z zb zm zr np) {rm : Room} {as : Array Value} {QQ : Option Value → List Ob → Prop} (M : Met l Z K n0 z zb zm zr rm as A QQ)
    {i : Nat} {vs : List Value} (hA : A[i]? = some (.inl (kk, vs))) {argsL rest : List Value} (ha : (Value.ref (n0 + i) :: argsL).toArray = as) (hnp : argsL.length = np) (hst : st = argsL.reverse ++ .ref (n0 + i) :: rest) (hls : ls.size = maxL) (hf : rm.frames + 1 ≤ R.frames) (hl : (rest.map fun v => v.category).sum + (zm + 11) + rm.locals ≤ R.locals) (hc : k + rm.cells ≤ R.cells) (hs : n + rm.slots ≤ R.slots) (h : ∀ v A', QQ v A' → G pc' ls (v.toList ++ rest) A' (k + rm.cells) (n + rm.slots)) : G pc ls st A k n := by
  obtain ⟨hd, rfl⟩ := hd
  obtain ⟨p, e, s, m, args, below, meth, c, hx, hby, hml, hown, hnm, hret, hlk, hZ, hK, hb0, rfl⟩ := H
  obtain ⟨C, fs, hk, w1, w2, w3, w4, w5, w6, w7, w8⟩ := L
  subst ha hst hnp
  intro T locs X hR hF
  obtain ⟨cB, kB, qa, qb, qc⟩ := isOf hZ rfl ((hR.2 i _ hA).exa hk)
  obtain ⟨v, vm₁, ⟨T', L', k', n'⟩, -, X', ⟨Lc, ⟨A', hQ, hR', hF'⟩, e1, e2, e3⟩, sp⟩ := X.virtualBack hx (y := z) (z := z) hown (mvT hZ w1) (mvT hZ w2) (notFace_of_selects (args := #[]) (mvT hZ w3)) (mvT hZ w3) (mvT hZ w4) w7 (backOf (W := (rest.map fun v => v.category).sum) (Q := fun v h L => ∃ A', QQ v A' ∧ Rel Z K n0 h A' ∧ Fr n0 L) (M [] T.heap hR) hZ w6 w5 hf hl) qa qc (g := mkF m pc ls (argsL.reverse ++ .ref (n0 + i) :: rest)) rfl (by rw [hml]; exact hls) (Steps.refl _) (argsL := argsL) (rest := rest) w8 rfl (by show 2 * 0 + _ ≤ _; omega) (hb hby hd) (fun _ _ => ⟨rfl, rfl, hc, hs⟩)
  dsimp only [Pt.U, Pt.locs, Pt.cells, Pt.slots] at X' e1 e2 e3 sp hQ hR'
  subst e1 e2 e3
  obtain ⟨s₂, o, h1, h2⟩ := h v A' hQ T' _ X' hR' (Fr.app hF hF')
  exact ⟨s₂, o, sp.trans h1, h2⟩
/-- a private method -/
def ML (Z : State) (a0 : Array Value) (K : KTab) (own : String) (idx kk : Nat) (z : MethodName) (zb : ByteArray) (zm : Nat) (zr : Option FieldType) (np : Nat) : Prop :=
  ∃ C fs, K[kk]? = some (C, fs) ∧ (Jvm.Cond.methodLink own idx z).before a0 Z = true ∧ (Jvm.Cond.privateMethod z).before a0 Z = true ∧ (Jvm.Cond.selects z.cls z z).before a0 Z = true ∧ (Jvm.Cond.instanceMethod z).before a0 Z = true ∧ (Jvm.Cond.initialized z.cls).before a0 Z = true ∧ (Jvm.Cond.code z zb zm zr).before a0 Z = true ∧ (z.cls ≠ "java/lang/invoke/MethodHandle" ∧ z.cls ≠ "java/lang/invoke/VarHandle") ∧ (∀ sig, parseMethodDescriptor z.desc = some sig → np = sig.parameters.length)
theorem IsGo.callM (H : IsGo l Z a0 K n0 b0 y bytes maxL ret R Q G) {idx kk : Nat} (hd : Nx bytes pc (.invokevirtual idx) 3 pc') {z : MethodName} {zb : ByteArray} {zm : Nat} {zr : Option FieldType} {np : Nat} (L : ML Z a0 K y.cls idx kk z zb zm zr np) {rm : Room} {as : Array Value} {QQ : Option Value → List Ob → Prop} (M : Met l Z K n0 z zb zm zr rm as A QQ)
    {i : Nat} {vs : List Value} (hA : A[i]? = some (.inl (kk, vs))) {argsL rest : List Value} (ha : (Value.ref (n0 + i) :: argsL).toArray = as) (hnp : argsL.length = np) (hst : st = argsL.reverse ++ .ref (n0 + i) :: rest) (hls : ls.size = maxL) (hf : rm.frames + 1 ≤ R.frames) (hl : (rest.map fun v => v.category).sum + (zm + 11) + rm.locals ≤ R.locals) (hc : k + rm.cells ≤ R.cells) (hs : n + rm.slots ≤ R.slots) (h : ∀ v A', QQ v A' → G pc' ls (v.toList ++ rest) A' (k + rm.cells) (n + rm.slots)) : G pc ls st A k n := by
  obtain ⟨hd, rfl⟩ := hd
  obtain ⟨p, e, s, m, args, below, meth, c, hx, hby, hml, hown, hnm, hret, hlk, hZ, hK, hb0, rfl⟩ := H
  obtain ⟨C, fs, hk, w1, w2, w3, w4, w5, w6, w7, w8⟩ := L
  subst ha hst hnp
  intro T locs X hR hF
  obtain ⟨cq, q1, q2⟩ := ((hR.2 i _ hA).exa hk).cell
  obtain ⟨v, vm₁, ⟨T', L', k', n'⟩, -, X', ⟨Lc, ⟨A', hQ, hR', hF'⟩, e1, e2, e3⟩, sp⟩ := X.privateBack hx (y := z) hown (mvT hZ w1) (mvT hZ w4) (mvT hZ w3) (Cond.privateMethod_at (mvP hZ w2 (args := #[]))) (mvT hZ w6) w7 (backOf (W := (rest.map fun v => v.category).sum) (Q := fun v h L => ∃ A', QQ v A' ∧ Rel Z K n0 h A' ∧ Fr n0 L) (M [] T.heap hR) hZ w6 w5 hf hl) (g := mkF m pc ls (argsL.reverse ++ .ref (n0 + i) :: rest)) rfl (by rw [hml]; exact hls) (Steps.refl _) (a := n0 + i) q1 q2 (argsL := argsL) (rest := rest) w8 rfl (by show 2 * 0 + _ ≤ _; omega) (hb hby hd) (fun _ _ => ⟨rfl, rfl, hc, hs⟩)
  dsimp only [Pt.U, Pt.locs, Pt.cells, Pt.slots] at X' e1 e2 e3 sp hQ hR'
  subst e1 e2 e3
  obtain ⟨s₂, o, h1, h2⟩ := h v A' hQ T' _ X' hR' (Fr.app hF hF')
  exact ⟨s₂, o, sp.trans h1, h2⟩
theorem IsGo.callSD (H : IsGo l Z a0 K n0 b0 y bytes maxL ret R Q G) {idx : Nat} (hd : Nx bytes pc (.invokestatic idx) 3 pc') {z : MethodName} {zb : ByteArray} {zm : Nat} {zr : Option FieldType} {np : Nat} (L : SL Z a0 y.cls idx z zb zm zr np) {rm : Room} {as : Array Value} {vo : Option Value} (M : Met l Z K n0 z zb zm zr rm as A (Is vo A'))
    {argsL rest : List Value} (ha : argsL.toArray = as) (hnp : argsL.length = np) (hst : st = argsL.reverse ++ rest) (hls : ls.size = maxL) (hf : rm.frames + 1 ≤ R.frames) (hl : (rest.map fun v => v.category).sum + (zm + 11) + rm.locals ≤ R.locals) (hc : k + rm.cells ≤ R.cells) (hs : n + rm.slots ≤ R.slots) (hst' : vo.toList ++ rest = st') (hk' : k + rm.cells = k') (hn' : n + rm.slots = n') (h : G pc' ls st' A' k' n') : G pc ls st A k n :=
  H.callS hd L M ha hnp hst hls hf hl hc hs (fun v B q => by obtain ⟨rfl, rfl⟩ := q; subst hst' hk' hn'; exact h)
theorem IsGo.callCD (H : IsGo l Z a0 K n0 b0 y bytes maxL ret R Q G) {idx : Nat} (hd : Nx bytes pc (.invokespecial idx) 3 pc') {z : MethodName} {zb : ByteArray} {zm : Nat} {np : Nat} (L : CL Z a0 y.cls idx z zb zm np) {rm : Room} {as : Array Value} {vo : Option Value} (M : Met l Z K n0 z zb zm none rm as A (Is vo A'))
    {a : Addr} {argsL rest : List Value} (ha : (Value.ref a :: argsL).toArray = as) (hnp : argsL.length = np) (hst : st = argsL.reverse ++ .ref a :: rest) (hls : ls.size = maxL) (hf : rm.frames + 1 ≤ R.frames) (hl : (rest.map fun v => v.category).sum + (zm + 11) + rm.locals ≤ R.locals) (hc : k + rm.cells ≤ R.cells) (hs : n + rm.slots ≤ R.slots) (hst' : vo.toList ++ rest = st') (hk' : k + rm.cells = k') (hn' : n + rm.slots = n') (h : G pc' ls st' A' k' n') : G pc ls st A k n :=
  H.callC hd L M ha hnp hst hls hf hl hc hs (fun v B q => by obtain ⟨rfl, rfl⟩ := q; subst hst' hk' hn'; exact h)
theorem IsGo.callVD (H : IsGo l Z a0 K n0 b0 y bytes maxL ret R Q G) {idx kk : Nat} (hd : Nx bytes pc (.invokevirtual idx) 3 pc') {z : MethodName} {zb : ByteArray} {zm : Nat} {zr : Option FieldType} {np : Nat} (L : VL Z a0 K y.cls idx kk z zb zm zr np) {rm : Room} {as : Array Value} {vo : Option Value} (M : Met l Z K n0 z zb zm zr rm as A (Is vo A'))
    {i : Nat} {vs : List Value} (hA : A[i]? = some (.inl (kk, vs))) {argsL rest : List Value} (ha : (Value.ref (n0 + i) :: argsL).toArray = as) (hnp : argsL.length = np) (hst : st = argsL.reverse ++ .ref (n0 + i) :: rest) (hls : ls.size = maxL) (hf : rm.frames + 1 ≤ R.frames) (hl : (rest.map fun v => v.category).sum + (zm + 11) + rm.locals ≤ R.locals) (hc : k + rm.cells ≤ R.cells) (hs : n + rm.slots ≤ R.slots) (hst' : vo.toList ++ rest = st') (hk' : k + rm.cells = k') (hn' : n + rm.slots = n') (h : G pc' ls st' A' k' n') : G pc ls st A k n :=
  H.callV hd L M hA ha hnp hst hls hf hl hc hs (fun v B q => by obtain ⟨rfl, rfl⟩ := q; subst hst' hk' hn'; exact h)
theorem IsGo.callMD (H : IsGo l Z a0 K n0 b0 y bytes maxL ret R Q G) {idx kk : Nat} (hd : Nx bytes pc (.invokevirtual idx) 3 pc') {z : MethodName} {zb : ByteArray} {zm : Nat} {zr : Option FieldType} {np : Nat} (L : ML Z a0 K y.cls idx kk z zb zm zr np) {rm : Room} {as : Array Value} {vo : Option Value} (M : Met l Z K n0 z zb zm zr rm as A (Is vo A'))
    {i : Nat} {vs : List Value} (hA : A[i]? = some (.inl (kk, vs))) {argsL rest : List Value} (ha : (Value.ref (n0 + i) :: argsL).toArray = as) (hnp : argsL.length = np) (hst : st = argsL.reverse ++ .ref (n0 + i) :: rest) (hls : ls.size = maxL) (hf : rm.frames + 1 ≤ R.frames) (hl : (rest.map fun v => v.category).sum + (zm + 11) + rm.locals ≤ R.locals) (hc : k + rm.cells ≤ R.cells) (hs : n + rm.slots ≤ R.slots) (hst' : vo.toList ++ rest = st') (hk' : k + rm.cells = k') (hn' : n + rm.slots = n') (h : G pc' ls st' A' k' n') : G pc ls st A k n :=
  H.callM hd L M hA ha hnp hst hls hf hl hc hs (fun v B q => by obtain ⟨rfl, rfl⟩ := q; subst hst' hk' hn'; exact h)
/-! ### the end -/
theorem IsGo.retW (H : IsGo l Z a0 K n0 b0 y bytes maxL ret R Q G) {i : Instr} (hd : Nx bytes pc i 1 pc') {t : FieldType} {w : Value} (hret : ret = some t) (hn : narrow t w = w)
    (hi : (i = .ireturn ∧ (t = .int ∨ t = .boolean ∨ t = .byte ∨ t = .char ∨ t = .short) ∧ ∃ z, w = .int z) ∨ (i = .lreturn ∧ t = .long ∧ ∃ z, w = .long z) ∨ (i = .dreturn ∧ t = .double ∧ ∃ z, w = .double z) ∨ (i = .freturn ∧ t = .float ∧ ∃ z, w = .float z) ∨ (i = .areturn ∧ t.isReference = true ∧ w.isRef = true))
    (hQ : Q (some w) A) (hc : k ≤ R.cells) (hs : n ≤ R.slots) : G pc ls (w :: st) A k n := by
  obtain ⟨hd, rfl⟩ := hd
  obtain ⟨p, e, s, m, args, below, meth, c, hx, hby, hml, hown, hnm, hret', hlk, hZ, hK, hb0, rfl⟩ := H
  intro T locs X hR hF
  obtain ⟨fs, hr, hrun, hended, hW, hsame⟩ := X.leave (v := some w) (fun h => by rw [hret', hret] at h; cases h) hlk
  exact ⟨_, _, retOut X hx (hret'.trans hret) hn hi (hb hby hd) hr, hrun, hended, _, _, rfl, ⟨A, hQ, hR, hF⟩, ⟨_, rfl⟩, hW, hsame.mono hc hs⟩
theorem IsGo.ireturn (H : IsGo l Z a0 K n0 b0 y bytes maxL ret R Q G) (hd : Nx bytes pc .ireturn 1 pc') {t : FieldType} {z : Int32} (hret : ret = some t) (ht : t = .int ∨ t = .boolean ∨ t = .byte ∨ t = .char ∨ t = .short) (hn : narrow t (.int z) = .int z) (hQ : Q (some (.int z)) A) (hc : k ≤ R.cells) (hs : n ≤ R.slots) : G pc ls (.int z :: st) A k n :=
  H.retW hd hret hn (Or.inl ⟨rfl, ht, z, rfl⟩) hQ hc hs
theorem IsGo.lreturn (H : IsGo l Z a0 K n0 b0 y bytes maxL ret R Q G) (hd : Nx bytes pc .lreturn 1 pc') {z : Int64} (hret : ret = some .long) (hQ : Q (some (.long z)) A) (hc : k ≤ R.cells) (hs : n ≤ R.slots) : G pc ls (.long z :: st) A k n :=
  H.retW hd hret rfl (Or.inr (Or.inl ⟨rfl, rfl, z, rfl⟩)) hQ hc hs
theorem IsGo.areturn (H : IsGo l Z a0 K n0 b0 y bytes maxL ret R Q G) (hd : Nx bytes pc .areturn 1 pc') {t : FieldType} {w : Value} (hret : ret = some t) (ht : t.isReference = true) (hn : narrow t w = w) (hw : w.isRef = true) (hQ : Q (some w) A) (hc : k ≤ R.cells) (hs : n ≤ R.slots) : G pc ls (w :: st) A k n :=
  H.retW hd hret hn (Or.inr (Or.inr (Or.inr (Or.inr ⟨rfl, ht, hw⟩)))) hQ hc hs
theorem IsGo.vreturn (H : IsGo l Z a0 K n0 b0 y bytes maxL ret R Q G) (hd : Nx bytes pc .return_ 1 pc') (hret : ret = none) (hQ : Q none A) (hc : k ≤ R.cells) (hs : n ≤ R.slots) : G pc ls [] A k n := by
  obtain ⟨hd, rfl⟩ := hd
  obtain ⟨p, e, s, m, args, below, meth, c, hx, hby, hml, hown, hnm, hret', hlk, hZ, hK, hb0, rfl⟩ := H
  intro T locs X hR hF
  obtain ⟨fs, hr, hrun, hended, hW, hsame⟩ := X.leave (v := none) (fun _ => rfl) hlk
  exact ⟨_, _, X.returnOut hx (hret'.trans hret) (hb hby hd) hr, hrun, hended, _, _, rfl, ⟨A, hQ, hR, hF⟩, ⟨_, rfl⟩, hW, hsame.mono hc hs⟩
end Rules
end Jvm.OwnKit

namespace Jvm.Pilot.@@N@@
open Jvm Jvm.ClassFile Sem Op Lib Jvm.Free Jvm.Stand Jvm.LawKit Jvm.RoadKit Jvm.OwnKit Bundle Jvm.Pilot.@@N@@.Jvm.D
abbrev HW1 (Z : State) (a0 : Array Value) : Prop := ∀ d ∈ tables_1, d.before a0 Z = true
def KT : KTab := [("com/example/hotspotless/hotspotless/region/Node", [("com/example/hotspotless/hotspotless/region/Node", "window", "J"), ("com/example/hotspotless/hotspotless/region/Node", "number", "I"), ("com/example/hotspotless/hotspotless/region/Node", "windowWrites", "I"), ("com/example/hotspotless/hotspotless/region/Node", "regions", "J"), ("com/example/hotspotless/hotspotless/region/Node", "writes", "J")])]
abbrev y1 : MethodName := ⟨"java/lang/Math", "max", "(JJ)J"⟩
abbrev y2 : MethodName := ⟨"com/example/hotspotless/hotspotless/region/Node", "<init>", "(I)V"⟩
abbrev y3 : MethodName := ⟨"java/lang/Object", "<init>", "()V"⟩
abbrev y4 : MethodName := ⟨"com/example/hotspotless/hotspotless/region/Node", "countWindowWrite", "(J)I"⟩
abbrev y5 : MethodName := ⟨"com/example/hotspotless/hotspotless/region/NodeCountWindowWritePinLaw", "eq", "(JJ)I"⟩
abbrev y6 : MethodName := ⟨"com/example/hotspotless/hotspotless/region/Node", "number", "()I"⟩
abbrev y7 : MethodName := ⟨"com/example/hotspotless/hotspotless/region/Node", "regions", "()J"⟩
abbrev y8 : MethodName := ⟨"com/example/hotspotless/hotspotless/region/Node", "writes", "()J"⟩
theorem kok {Z : State} {a0 : Array Value} (hw : HW1 Z a0) : KOk Z a0 KT := kokOf (faS ⟨⟨_, (hw _ (List.mem_of_getElem? (i := 7) rfl))⟩, (faS ⟨Or.inl (hw _ (List.mem_of_getElem? (i := 17) rfl)), .long, by decide +kernel⟩ (faS ⟨Or.inr (hw _ (List.mem_of_getElem? (i := 19) rfl)), .int, by decide +kernel⟩ (faS ⟨Or.inl (hw _ (List.mem_of_getElem? (i := 26) rfl)), .int, by decide +kernel⟩ (faS ⟨Or.inl (hw _ (List.mem_of_getElem? (i := 42) rfl)), .long, by decide +kernel⟩ (faS ⟨Or.inl (hw _ (List.mem_of_getElem? (i := 49) rfl)), .long, by decide +kernel⟩ fa0))))), by decide⟩ fa0)
def own_maxJ (a b : Int64) : Int64 := if a < b then b else a
theorem own_maxJ_t {a b : Int64} (h : a < b) : own_maxJ a b = b := if_pos h
theorem own_maxJ_f {a b : Int64} (h : ¬ a < b) : own_maxJ a b = a := if_neg h
theorem own_maxJ_i (a b : Int64) : (own_maxJ a b).toInt = max a.toInt b.toInt := by
  unfold own_maxJ
  split
  · next h => have := (j_lt rfl rfl).mp h; omega
  · next h => have := (j_ge rfl rfl).mp h; omega
theorem s1_0 : Nx jdk_29_method_66_code 0 (.lload_n 0) 1 1 := ⟨by decide +kernel, rfl⟩
theorem s1_1 : Nx jdk_29_method_66_code 1 (.lload_n 2) 1 2 := ⟨by decide +kernel, rfl⟩
theorem s1_2 : Nx jdk_29_method_66_code 2 (.lcmp) 1 3 := ⟨by decide +kernel, rfl⟩
theorem s1_3 : Bx jdk_29_method_66_code 3 (.ifCond .lt) 10 6 := ⟨(7), by decide +kernel, by decide, by decide, rfl⟩
theorem s1_10 : Nx jdk_29_method_66_code 10 (.lload_n 2) 1 11 := ⟨by decide +kernel, rfl⟩
theorem s1_11 : Nx jdk_29_method_66_code 11 (.lreturn) 1 12 := ⟨by decide +kernel, rfl⟩
theorem s1_6 : Nx jdk_29_method_66_code 6 (.lload_n 0) 1 7 := ⟨by decide +kernel, rfl⟩
theorem s1_7 : Bx jdk_29_method_66_code 7 (.goto) 11 10 := ⟨(4), by decide +kernel, by decide, by decide, rfl⟩
set_option maxRecDepth 65536 in
set_option maxHeartbeats 40000000 in
theorem m_maxJ (l : Launch) {Z : State} {a0 : Array Value} (hw : HW1 Z a0) (n0 : Nat) (A : List Ob) (a b : Int64) : Met l Z KT n0 y1 jdk_29_method_66_code 4 (some .long) ({ frames := 0, cells := 0, slots := 0, locals := 0 } : Room) #[(.long a), (.long b)] A (Is (some (.long (own_maxJ a b))) A) := by
  refine Met.of (a0 := a0) (ls := #[.val (.long a), .second, .val (.long b), .second]) (kok hw) (Jvm.Free.JP.mathPlain rfl (by decide +kernel)) (fun m => by first | (simp [entryFrame, mkF, argsToLocals, Value.category]; done) | rfl) (fun G H => ?_)
  refine H.lloadN s1_0 rfl ?_
  refine H.lloadN s1_1 rfl ?_
  refine H.lifS s1_2 s1_3 (fun (c2 : a < b) => ?_) (fun (c2 : ¬ a < b) => ?_)
  · have d2 : a.toInt < b.toInt := (j_lt rfl rfl).mp c2
    refine H.lloadN s1_10 rfl ?_
    exact H.lreturn s1_11 rfl ⟨by rw [own_maxJ_t c2], rfl⟩ (by decide) (by decide)
  · have d2 : b.toInt ≤ a.toInt := (j_ge rfl rfl).mp c2
    refine H.lloadN s1_6 rfl ?_
    refine H.goto s1_7 ?_
    exact H.lreturn s1_11 rfl ⟨by rw [own_maxJ_f c2], rfl⟩ (by decide) (by decide)


def own_cw (wi : Int64) (ww : Int32) (w : Int64) : Int32 := (if wi = w then ww else 0) + 1
def own_eq (a b : Int64) : Int32 := if a = b then 1 else 0
theorem own_eq1 (a : Int64) : own_eq a a = 1 := if_pos rfl
theorem own_eq0 {a b : Int64} (h : a.toInt < b.toInt) : own_eq a b = 0 := if_neg fun e => by rw [e] at h; omega
theorem own_cw1 (a : Int64) (n : Int32) : own_cw a n a = n + 1 := by simp [own_cw]
theorem own_cw0 {a b : Int64} (n : Int32) (h : a.toInt < b.toInt) : own_cw a n b = 1 := by
  have e : ¬ a = b := fun e => by rw [e] at h; omega
  simp [own_cw, e]
theorem own_or {a b : Int64} (h : a.toInt ≤ b.toInt) : a = b ∨ a.toInt < b.toInt := by
  by_cases e : a.toInt = b.toInt
  · exact Or.inl (Int64.toInt_inj.mp e)
  · exact Or.inr (by omega)
theorem own_l0 {a : Int64} (h : 0 ≤ a.toInt) : own_cw (-1) 0 a = 1 := by
  have e : (-1 : Int64).toInt = -1 := by decide
  exact own_cw0 0 (by rw [e]; omega)
section Cnt
variable {a b c d e : Int64} (h : 0 ≤ a.toInt)
theorem own_l1 (h : 0 ≤ a.toInt) (hab : a.toInt ≤ b.toInt) : own_cw a (own_cw (-1) 0 a) b = 1 + own_eq a b := by
  rw [own_l0 h]
  rcases own_or hab with rfl | q
  · rw [own_cw1, own_eq1]
  · rw [own_cw0 _ q, own_eq0 q]; decide
theorem own_l2 (h : 0 ≤ a.toInt) (hab : a.toInt ≤ b.toInt) (hbc : b.toInt ≤ c.toInt) : own_cw b (own_cw a (own_cw (-1) 0 a) b) c = 1 + own_eq a c + own_eq b c := by
  rw [own_l1 h hab]
  rcases own_or hbc with rfl | q
  · rw [own_cw1, own_eq1]
  · rw [own_cw0 _ q, own_eq0 q, own_eq0 (a := a) (by omega)]; decide
theorem own_l3 (h : 0 ≤ a.toInt) (hab : a.toInt ≤ b.toInt) (hbc : b.toInt ≤ c.toInt) (hcd : c.toInt ≤ d.toInt) : own_cw c (own_cw b (own_cw a (own_cw (-1) 0 a) b) c) d = 1 + own_eq a d + own_eq b d + own_eq c d := by
  rw [own_l2 h hab hbc]
  rcases own_or hcd with rfl | q
  · rw [own_cw1, own_eq1]
  · rw [own_cw0 _ q, own_eq0 q, own_eq0 (a := a) (by omega), own_eq0 (a := b) (by omega)]; decide
theorem own_l4 (h : 0 ≤ a.toInt) (hab : a.toInt ≤ b.toInt) (hbc : b.toInt ≤ c.toInt) (hcd : c.toInt ≤ d.toInt) (hde : d.toInt ≤ e.toInt) : own_cw d (own_cw c (own_cw b (own_cw a (own_cw (-1) 0 a) b) c) d) e = 1 + own_eq a e + own_eq b e + own_eq c e + own_eq d e := by
  rw [own_l3 h hab hbc hcd]
  rcases own_or hde with rfl | q
  · rw [own_cw1, own_eq1]
  · rw [own_cw0 _ q, own_eq0 q, own_eq0 (a := a) (by omega), own_eq0 (a := b) (by omega), own_eq0 (a := c) (by omega)]; decide
end Cnt
theorem own_down {w s : Int64} (hw : 0 ≤ w.toInt) (hs : 0 ≤ s.toInt) : 0 ≤ (own_maxJ 0 (w - s)).toInt ∧ (own_maxJ 0 (w - s)).toInt ≤ w.toInt := by
  have q : (w - s).toInt = w.toInt - s.toInt := x_lsub rfl rfl (by have := rng64 w; have := rng64 s; omega)
  have z : (0 : Int64).toInt = 0 := by decide
  rw [own_maxJ_i, q, z]
  omega
theorem own_sh (x : Int64) (k : Int32) (j : Nat) (hk : k.toBitVec.toNat % 64 = j) (h0 : 0 < j) : 0 ≤ ((x.toUInt64 >>> (k &&& 0x3f).toInt64.toUInt64).toInt64).toInt := by
  rw [c_lushr x k j hk h0]
  exact Int.ediv_nonneg (Int.emod_nonneg _ (by decide)) (Int.natCast_nonneg _)
theorem own_a3 (x : Int64) : 0 ≤ (x &&& 3).toInt := by
  have := c_maskL x 3 2 (by decide) (by decide)
  omega

theorem pn_4 : plainName "com/example/hotspotless/hotspotless/region/Node" = true := by first | (simp [plainName, overriddenIn]; done) | decide +kernel
theorem s4_0 : Nx prog_103_method_7_code 0 (.aload_n 0) 1 1 := ⟨by decide +kernel, rfl⟩
theorem k_0 {Z : State} {a0 : Array Value} (hw : HW1 Z a0) : FL Z a0 KT "com/example/hotspotless/hotspotless/region/Node" 9 0 0 := ⟨_, _, "com/example/hotspotless/hotspotless/region/Node", "window", "J", "", rfl, rfl, (Or.inl (hw _ (List.mem_of_getElem? (i := 16) rfl)))⟩
theorem s4_1 : Nx prog_103_method_7_code 1 (.getfield 9) 3 4 := ⟨by decide +kernel, rfl⟩
theorem s4_4 : Nx prog_103_method_7_code 4 (.lload_n 1) 1 5 := ⟨by decide +kernel, rfl⟩
theorem s4_5 : Nx prog_103_method_7_code 5 (.lcmp) 1 6 := ⟨by decide +kernel, rfl⟩
theorem s4_6 : Bx prog_103_method_7_code 6 (.ifCond .eq) 19 9 := ⟨(13), by decide +kernel, by decide, by decide, rfl⟩
theorem s4_19 : Nx prog_103_method_7_code 19 (.aload_n 0) 1 20 := ⟨by decide +kernel, rfl⟩
theorem s4_20 : Nx prog_103_method_7_code 20 (.dup) 1 21 := ⟨by decide +kernel, rfl⟩
theorem k_1 {Z : State} {a0 : Array Value} (hw : HW1 Z a0) : FL Z a0 KT "com/example/hotspotless/hotspotless/region/Node" 25 0 2 := ⟨_, _, "com/example/hotspotless/hotspotless/region/Node", "windowWrites", "I", "", rfl, rfl, (Or.inl (hw _ (List.mem_of_getElem? (i := 25) rfl)))⟩
theorem s4_21 : Nx prog_103_method_7_code 21 (.getfield 25) 3 24 := ⟨by decide +kernel, rfl⟩
theorem s4_24 : Nx prog_103_method_7_code 24 (.iconst 1) 1 25 := ⟨by decide +kernel, rfl⟩
theorem s4_25 : Nx prog_103_method_7_code 25 (.iadd) 1 26 := ⟨by decide +kernel, rfl⟩
theorem k_2 {Z : State} {a0 : Array Value} (hw : HW1 Z a0) : PL Z a0 KT "com/example/hotspotless/hotspotless/region/Node" "countWindowWrite" 25 0 2 .int := ⟨_, _, "com/example/hotspotless/hotspotless/region/Node", "windowWrites", "I", "", rfl, rfl, (Or.inl (hw _ (List.mem_of_getElem? (i := 25) rfl))), (Or.inl (hw _ (List.mem_of_getElem? (i := 26) rfl))), by decide +kernel⟩
theorem s4_26 : Nx prog_103_method_7_code 26 (.putfield 25) 3 29 := ⟨by decide +kernel, rfl⟩
theorem s4_29 : Nx prog_103_method_7_code 29 (.aload_n 0) 1 30 := ⟨by decide +kernel, rfl⟩
theorem s4_30 : Nx prog_103_method_7_code 30 (.getfield 25) 3 33 := ⟨by decide +kernel, rfl⟩
theorem s4_33 : Nx prog_103_method_7_code 33 (.ireturn) 1 34 := ⟨by decide +kernel, rfl⟩
theorem s4_9 : Nx prog_103_method_7_code 9 (.aload_n 0) 1 10 := ⟨by decide +kernel, rfl⟩
theorem s4_10 : Nx prog_103_method_7_code 10 (.lload_n 1) 1 11 := ⟨by decide +kernel, rfl⟩
theorem k_3 {Z : State} {a0 : Array Value} (hw : HW1 Z a0) : PL Z a0 KT "com/example/hotspotless/hotspotless/region/Node" "countWindowWrite" 9 0 0 .long := ⟨_, _, "com/example/hotspotless/hotspotless/region/Node", "window", "J", "", rfl, rfl, (Or.inl (hw _ (List.mem_of_getElem? (i := 16) rfl))), (Or.inl (hw _ (List.mem_of_getElem? (i := 17) rfl))), by decide +kernel⟩
theorem s4_11 : Nx prog_103_method_7_code 11 (.putfield 9) 3 14 := ⟨by decide +kernel, rfl⟩
theorem s4_14 : Nx prog_103_method_7_code 14 (.aload_n 0) 1 15 := ⟨by decide +kernel, rfl⟩
theorem s4_15 : Nx prog_103_method_7_code 15 (.iconst 0) 1 16 := ⟨by decide +kernel, rfl⟩
theorem s4_16 : Nx prog_103_method_7_code 16 (.putfield 25) 3 19 := ⟨by decide +kernel, rfl⟩
set_option maxRecDepth 65536 in
set_option maxHeartbeats 40000000 in
theorem m_cw (l : Launch) {Z : State} {a0 : Array Value} (hw : HW1 Z a0) (n0 : Nat) (v_window : Int64) (v_number : Int32) (v_windowWrites : Int32) (v_regions : Int64) (v_writes : Int64) (w : Int64) : Met l Z KT n0 y4 prog_103_method_7_code 3 (some .int) ({ frames := 0, cells := 0, slots := 0, locals := 0 } : Room) #[(.ref (n0 + 0)), (.long w)] [.inl (0, [(.long v_window), (.int v_number), (.int v_windowWrites), (.long v_regions), (.long v_writes)])] (Is (some (.int (own_cw v_window v_windowWrites w))) [.inl (0, [(.long w), (.int v_number), (.int (own_cw v_window v_windowWrites w)), (.long v_regions), (.long v_writes)])]) := by
  refine Met.of (a0 := a0) (ls := #[.val (.ref (n0 + 0)), .val (.long w), .second]) (kok hw) (plainFor_of_name pn_4) (fun m => by first | (simp [entryFrame, mkF, argsToLocals, Value.category]; done) | rfl) (fun G H => ?_)
  refine H.aloadN s4_0 rfl rfl ?_
  refine H.getfield s4_1 (k_0 hw) (i := 0) rfl rfl ?_
  refine H.lloadN s4_4 rfl ?_
  refine H.lifS s4_5 s4_6 (fun (c5 : v_window = w) => ?_) (fun (c5 : ¬ v_window = w) => ?_)
  · have d5 : v_window.toInt = w.toInt := (j_eq rfl rfl).mp c5
    refine H.aloadN s4_19 rfl rfl ?_
    refine H.dup s4_20 rfl ?_
    refine H.getfield s4_21 (k_1 hw) (i := 0) rfl rfl ?_
    refine H.iconst s4_24 (v := (1 : Int32)) (by decide) ?_
    refine H.iadd s4_25 rfl ?_
    refine H.putfield s4_26 (k_2 hw) (i := 0) rfl rfl rfl (A' := [.inl (0, [(.long v_window), (.int v_number), (.int (v_windowWrites + (1 : Int32))), (.long v_regions), (.long v_writes)])]) rfl ?_
    refine H.aloadN s4_29 rfl rfl ?_
    refine H.getfield s4_30 (k_1 hw) (i := 0) rfl rfl ?_
    exact H.ireturn s4_33 rfl (by simp) rfl (by subst c5; simp [Is, own_cw]) (by decide) (by decide)
  · have d5 : ¬ v_window.toInt = w.toInt := (j_ne rfl rfl).mp c5
    refine H.aloadN s4_9 rfl rfl ?_
    refine H.lloadN s4_10 rfl ?_
    refine H.putfield s4_11 (k_3 hw) (i := 0) rfl rfl rfl (A' := [.inl (0, [(.long w), (.int v_number), (.int v_windowWrites), (.long v_regions), (.long v_writes)])]) rfl ?_
    refine H.aloadN s4_14 rfl rfl ?_
    refine H.iconst s4_15 (v := (0 : Int32)) (by decide) ?_
    refine H.putfield s4_16 (k_2 hw) (i := 0) rfl rfl rfl (A' := [.inl (0, [(.long w), (.int v_number), (.int (0 : Int32)), (.long v_regions), (.long v_writes)])]) rfl ?_
    refine H.aloadN s4_19 rfl rfl ?_
    refine H.dup s4_20 rfl ?_
    refine H.getfield s4_21 (k_1 hw) (i := 0) rfl rfl ?_
    refine H.iconst s4_24 (v := (1 : Int32)) (by decide) ?_
    refine H.iadd s4_25 (w := (1 : Int32)) (by decide) ?_
    refine H.putfield s4_26 (k_2 hw) (i := 0) rfl rfl rfl (A' := [.inl (0, [(.long w), (.int v_number), (.int (1 : Int32)), (.long v_regions), (.long v_writes)])]) rfl ?_
    refine H.aloadN s4_29 rfl rfl ?_
    refine H.getfield s4_30 (k_1 hw) (i := 0) rfl rfl ?_
    exact H.ireturn s4_33 rfl (by simp) rfl (by simp [Is, own_cw, c5]) (by decide) (by decide)

theorem pn_5 : plainName "com/example/hotspotless/hotspotless/region/NodeCountWindowWritePinLaw" = true := by first | (simp [plainName, overriddenIn]; done) | decide +kernel
theorem s5_0 : Nx method_2_code 0 (.lload_n 0) 1 1 := ⟨by decide +kernel, rfl⟩
theorem s5_1 : Nx method_2_code 1 (.lload_n 2) 1 2 := ⟨by decide +kernel, rfl⟩
theorem s5_2 : Nx method_2_code 2 (.lcmp) 1 3 := ⟨by decide +kernel, rfl⟩
theorem s5_3 : Bx method_2_code 3 (.ifCond .ne) 10 6 := ⟨(7), by decide +kernel, by decide, by decide, rfl⟩
theorem s5_10 : Nx method_2_code 10 (.iconst 0) 1 11 := ⟨by decide +kernel, rfl⟩
theorem s5_11 : Nx method_2_code 11 (.ireturn) 1 12 := ⟨by decide +kernel, rfl⟩
theorem s5_6 : Nx method_2_code 6 (.iconst 1) 1 7 := ⟨by decide +kernel, rfl⟩
theorem s5_7 : Bx method_2_code 7 (.goto) 11 10 := ⟨(4), by decide +kernel, by decide, by decide, rfl⟩
set_option maxRecDepth 65536 in
set_option maxHeartbeats 40000000 in
theorem m_eq (l : Launch) {Z : State} {a0 : Array Value} (hw : HW1 Z a0) (n0 : Nat) (A : List Ob) (a b : Int64) : Met l Z KT n0 y5 method_2_code 4 (some .int) ({ frames := 0, cells := 0, slots := 0, locals := 0 } : Room) #[(.long a), (.long b)] A (Is (some (.int (own_eq a b))) A) := by
  refine Met.of (a0 := a0) (ls := #[.val (.long a), .second, .val (.long b), .second]) (kok hw) (plainFor_of_name pn_5) (fun m => by first | (simp [entryFrame, mkF, argsToLocals, Value.category]; done) | rfl) (fun G H => ?_)
  refine H.lloadN s5_0 rfl ?_
  refine H.lloadN s5_1 rfl ?_
  refine H.lifS s5_2 s5_3 (fun (c2 : ¬ a = b) => ?_) (fun (c2 : a = b) => ?_)
  · have d2 : ¬ a.toInt = b.toInt := (j_ne rfl rfl).mp c2
    refine H.iconst s5_10 (v := (0 : Int32)) (by decide) ?_
    exact H.ireturn s5_11 rfl (by simp) rfl ⟨by rw [own_eq, if_neg c2], rfl⟩ (by decide) (by decide)
  · have d2 : a.toInt = b.toInt := (j_eq rfl rfl).mp c2
    refine H.iconst s5_6 (v := (1 : Int32)) (by decide) ?_
    refine H.goto s5_7 ?_
    exact H.ireturn s5_11 rfl (by simp) rfl ⟨by rw [own_eq, if_pos c2], rfl⟩ (by decide) (by decide)

theorem s0_0 : Nx code 0 (.lload_n 1) 1 1 := ⟨at_0, rfl⟩
theorem k_6 {Z : State} {a0 : Array Value} (hw : HW1 Z a0) : (Jvm.Cond.constantLong "com/example/hotspotless/hotspotless/region/NodeCountWindowWritePinLaw" 9 (9223372036854775807)).before a0 Z = true := (hw _ (List.mem_of_getElem? (i := 0) rfl))
theorem s0_1 : Nx code 1 (.ldc2_w 9) 3 4 := ⟨at_1, rfl⟩
theorem s0_4 : Nx code 4 (.land) 1 5 := ⟨at_4, rfl⟩
theorem s0_5 : Nx code 5 (.lstore 5) 2 7 := ⟨at_5, rfl⟩
theorem s0_7 : Nx code 7 (.lconst 0) 1 8 := ⟨at_7, rfl⟩
theorem s0_8 : Nx code 8 (.lload 5) 2 10 := ⟨at_8, rfl⟩
theorem s0_10 : Nx code 10 (.lload_n 3) 1 11 := ⟨at_10, rfl⟩
theorem s0_11 : Nx code 11 (.bipush 6) 2 13 := ⟨at_11, rfl⟩
theorem s0_13 : Nx code 13 (.lushr) 1 14 := ⟨at_13, rfl⟩
theorem s0_14 : Nx code 14 (.lsub) 1 15 := ⟨at_14, rfl⟩
theorem s0_15 : Nx code 15 (.invokestatic 11) 3 18 := ⟨at_15, rfl⟩
theorem pd_0 : ∀ sig, parseMethodDescriptor "(JJ)J" = some sig → 2 = sig.parameters.length := npOf (r := some .long) (ps := [.long, .long]) (by decide +kernel) rfl
theorem k_7 {Z : State} {a0 : Array Value} (hw : HW1 Z a0) : SL Z a0 "com/example/hotspotless/hotspotless/region/NodeCountWindowWritePinLaw" 11 y1 jdk_29_method_66_code 4 (some .long) 2 := ⟨(hw _ (List.mem_of_getElem? (i := 1) rfl)), (hw _ (List.mem_of_getElem? (i := 2) rfl)), (hw _ (List.mem_of_getElem? (i := 3) rfl)), (hw _ (List.mem_of_getElem? (i := 4) rfl)), ⟨by decide, by decide⟩, pd_0⟩
theorem s0_18 : Nx code 18 (.lstore 7) 2 20 := ⟨at_18, rfl⟩
theorem s0_20 : Nx code 20 (.lconst 0) 1 21 := ⟨at_20, rfl⟩
theorem s0_21 : Nx code 21 (.lload 7) 2 23 := ⟨at_21, rfl⟩
theorem s0_23 : Nx code 23 (.lload_n 3) 1 24 := ⟨at_23, rfl⟩
theorem s0_24 : Nx code 24 (.iconst 4) 1 25 := ⟨at_24, rfl⟩
theorem s0_25 : Nx code 25 (.lushr) 1 26 := ⟨at_25, rfl⟩
theorem k_8 {Z : State} {a0 : Array Value} (hw : HW1 Z a0) : (Jvm.Cond.constantLong "com/example/hotspotless/hotspotless/region/NodeCountWindowWritePinLaw" 17 (3)).before a0 Z = true := (hw _ (List.mem_of_getElem? (i := 5) rfl))
theorem s0_26 : Nx code 26 (.ldc2_w 17) 3 29 := ⟨at_26, rfl⟩
theorem s0_29 : Nx code 29 (.land) 1 30 := ⟨at_29, rfl⟩
theorem s0_30 : Nx code 30 (.lsub) 1 31 := ⟨at_30, rfl⟩
theorem s0_31 : Nx code 31 (.invokestatic 11) 3 34 := ⟨at_31, rfl⟩
theorem s0_34 : Nx code 34 (.lstore 9) 2 36 := ⟨at_34, rfl⟩
theorem s0_36 : Nx code 36 (.lconst 0) 1 37 := ⟨at_36, rfl⟩
theorem s0_37 : Nx code 37 (.lload 9) 2 39 := ⟨at_37, rfl⟩
theorem s0_39 : Nx code 39 (.lload_n 3) 1 40 := ⟨at_39, rfl⟩
theorem s0_40 : Nx code 40 (.iconst 2) 1 41 := ⟨at_40, rfl⟩
theorem s0_41 : Nx code 41 (.lushr) 1 42 := ⟨at_41, rfl⟩
theorem s0_42 : Nx code 42 (.ldc2_w 17) 3 45 := ⟨at_42, rfl⟩
theorem s0_45 : Nx code 45 (.land) 1 46 := ⟨at_45, rfl⟩
theorem s0_46 : Nx code 46 (.lsub) 1 47 := ⟨at_46, rfl⟩
theorem s0_47 : Nx code 47 (.invokestatic 11) 3 50 := ⟨at_47, rfl⟩
theorem s0_50 : Nx code 50 (.lstore 11) 2 52 := ⟨at_50, rfl⟩
theorem s0_52 : Nx code 52 (.lconst 0) 1 53 := ⟨at_52, rfl⟩
theorem s0_53 : Nx code 53 (.lload 11) 2 55 := ⟨at_53, rfl⟩
theorem s0_55 : Nx code 55 (.lload_n 3) 1 56 := ⟨at_55, rfl⟩
theorem s0_56 : Nx code 56 (.ldc2_w 17) 3 59 := ⟨at_56, rfl⟩
theorem s0_59 : Nx code 59 (.land) 1 60 := ⟨at_59, rfl⟩
theorem s0_60 : Nx code 60 (.lsub) 1 61 := ⟨at_60, rfl⟩
theorem s0_61 : Nx code 61 (.invokestatic 11) 3 64 := ⟨at_61, rfl⟩
theorem s0_64 : Nx code 64 (.lstore 13) 2 66 := ⟨at_64, rfl⟩
theorem k_9 {Z : State} {a0 : Array Value} (hw : HW1 Z a0) : NL Z a0 KT "com/example/hotspotless/hotspotless/region/NodeCountWindowWritePinLaw" 19 0 5 [(.long (0 : Int64)), (.int (0 : Int32)), (.int (0 : Int32)), (.long (0 : Int64)), (.long (0 : Int64))] := ⟨_, _, rfl, (hw _ (List.mem_of_getElem? (i := 6) rfl)), (hw _ (List.mem_of_getElem? (i := 7) rfl)), (hw _ (List.mem_of_getElem? (i := 8) rfl)), by decide +kernel⟩
theorem s0_66 : Nx code 66 (.new 19) 3 69 := ⟨at_66, rfl⟩
theorem s0_69 : Nx code 69 (.dup) 1 70 := ⟨at_69, rfl⟩
theorem s0_70 : Nx code 70 (.iload_n 0) 1 71 := ⟨at_70, rfl⟩
theorem s0_71 : Nx code 71 (.invokespecial 21) 3 74 := ⟨at_71, rfl⟩
theorem s2_0 : Nx prog_103_method_1_code 0 (.aload_n 0) 1 1 := ⟨by decide +kernel, rfl⟩
theorem s2_1 : Nx prog_103_method_1_code 1 (.invokespecial 1) 3 4 := ⟨by decide +kernel, rfl⟩
theorem k_10 {Z : State} {a0 : Array Value} (hw : HW1 Z a0) : IL Z a0 "com/example/hotspotless/hotspotless/region/Node" 1 := ⟨(hw _ (List.mem_of_getElem? (i := 12) rfl)), (hw _ (List.mem_of_getElem? (i := 13) rfl)), (hw _ (List.mem_of_getElem? (i := 14) rfl))⟩
theorem s2_4 : Nx prog_103_method_1_code 4 (.aload_n 0) 1 5 := ⟨by decide +kernel, rfl⟩
theorem k_11 {Z : State} {a0 : Array Value} (hw : HW1 Z a0) : (Jvm.Cond.constantLong "com/example/hotspotless/hotspotless/region/Node" 7 (-1)).before a0 Z = true := (hw _ (List.mem_of_getElem? (i := 15) rfl))
theorem s2_5 : Nx prog_103_method_1_code 5 (.ldc2_w 7) 3 8 := ⟨by decide +kernel, rfl⟩
theorem k_12 {Z : State} {a0 : Array Value} (hw : HW1 Z a0) : PL Z a0 KT "com/example/hotspotless/hotspotless/region/Node" "<init>" 9 0 0 .long := ⟨_, _, "com/example/hotspotless/hotspotless/region/Node", "window", "J", "", rfl, rfl, (Or.inl (hw _ (List.mem_of_getElem? (i := 16) rfl))), (Or.inl (hw _ (List.mem_of_getElem? (i := 17) rfl))), by decide +kernel⟩
theorem s2_8 : Nx prog_103_method_1_code 8 (.putfield 9) 3 11 := ⟨by decide +kernel, rfl⟩
theorem s2_11 : Nx prog_103_method_1_code 11 (.aload_n 0) 1 12 := ⟨by decide +kernel, rfl⟩
theorem s2_12 : Nx prog_103_method_1_code 12 (.iload_n 1) 1 13 := ⟨by decide +kernel, rfl⟩
theorem k_13 {Z : State} {a0 : Array Value} (hw : HW1 Z a0) : PL Z a0 KT "com/example/hotspotless/hotspotless/region/Node" "<init>" 15 0 1 .int := ⟨_, _, "com/example/hotspotless/hotspotless/region/Node", "number", "I", "", rfl, rfl, (Or.inl (hw _ (List.mem_of_getElem? (i := 18) rfl))), (Or.inr ⟨(hw _ (List.mem_of_getElem? (i := 19) rfl)), rfl, rfl⟩), by decide +kernel⟩
theorem s2_13 : Nx prog_103_method_1_code 13 (.putfield 15) 3 16 := ⟨by decide +kernel, rfl⟩
theorem s2_16 : Nx prog_103_method_1_code 16 (.return_) 1 17 := ⟨by decide +kernel, rfl⟩
set_option maxRecDepth 65536 in
set_option maxHeartbeats 40000000 in
theorem a_0 (l : Launch) {Z : State} {a0 : Array Value} (hw : HW1 Z a0) (n0 : Nat) (p0 : Int32) : Met l Z KT n0 y2 prog_103_method_1_code 2 none ({ frames := 1, cells := 0, slots := 0, locals := 12 } : Room) #[(.ref (n0 + 0)), (.int p0)] [.inl (0, [(.long (0 : Int64)), (.int (0 : Int32)), (.int (0 : Int32)), (.long (0 : Int64)), (.long (0 : Int64))])] (Is none [.inl (0, [(.long (-1 : Int64)), (.int p0), (.int (0 : Int32)), (.long (0 : Int64)), (.long (0 : Int64))])]) := by
  refine Met.of (a0 := a0) (ls := #[.val (.ref (n0 + 0)), .val (.int p0)]) (kok hw) (plainFor_of_name pn_4) (fun m => by first | (simp [entryFrame, mkF, argsToLocals, Value.category]; done) | rfl) (fun G H => ?_)
  refine H.aloadN s2_0 rfl rfl ?_
  refine H.initO s2_1 (k_10 hw) rfl (leb rfl) (leb rfl) ?_
  refine H.aloadN s2_4 rfl rfl ?_
  refine H.ldc2 s2_5 (k_11 hw) ?_
  refine H.putfield s2_8 (k_12 hw) (i := 0) rfl rfl rfl (A' := [.inl (0, [(.long (-1 : Int64)), (.int (0 : Int32)), (.int (0 : Int32)), (.long (0 : Int64)), (.long (0 : Int64))])]) rfl ?_
  refine H.aloadN s2_11 rfl rfl ?_
  refine H.iloadN s2_12 rfl ?_
  refine H.putfield s2_13 (k_13 hw) (i := 0) rfl rfl rfl (A' := [.inl (0, [(.long (-1 : Int64)), (.int p0), (.int (0 : Int32)), (.long (0 : Int64)), (.long (0 : Int64))])]) rfl ?_
  exact H.vreturn s2_16 rfl ⟨rfl, rfl⟩ (by decide) (by decide)

theorem pd_1 : ∀ sig, parseMethodDescriptor "(I)V" = some sig → 1 = sig.parameters.length := npOf (r := none) (ps := [.int]) (by decide +kernel) rfl
theorem k_14 {Z : State} {a0 : Array Value} (hw : HW1 Z a0) : CL Z a0 "com/example/hotspotless/hotspotless/region/NodeCountWindowWritePinLaw" 21 y2 prog_103_method_1_code 2 1 := ⟨(hw _ (List.mem_of_getElem? (i := 9) rfl)), (hw _ (List.mem_of_getElem? (i := 10) rfl)), (hw _ (List.mem_of_getElem? (i := 8) rfl)), (hw _ (List.mem_of_getElem? (i := 11) rfl)), ⟨by decide, by decide⟩, pd_1, rfl⟩
theorem s0_74 : Nx code 74 (.astore 15) 2 76 := ⟨at_74, rfl⟩
theorem s0_76 : Nx code 76 (.aload 15) 2 78 := ⟨at_76, rfl⟩
theorem s0_78 : Nx code 78 (.lload 13) 2 80 := ⟨at_78, rfl⟩
theorem s0_80 : Nx code 80 (.invokevirtual 24) 3 83 := ⟨at_80, rfl⟩
theorem pd_2 : ∀ sig, parseMethodDescriptor "(J)I" = some sig → 1 = sig.parameters.length := npOf (r := some .int) (ps := [.long]) (by decide +kernel) rfl
theorem k_15 {Z : State} {a0 : Array Value} (hw : HW1 Z a0) : VL Z a0 KT "com/example/hotspotless/hotspotless/region/NodeCountWindowWritePinLaw" 24 0 y4 prog_103_method_7_code 3 (some .int) 1 := ⟨_, _, rfl, (hw _ (List.mem_of_getElem? (i := 20) rfl)), (hw _ (List.mem_of_getElem? (i := 21) rfl)), (hw _ (List.mem_of_getElem? (i := 23) rfl)), (hw _ (List.mem_of_getElem? (i := 22) rfl)), (hw _ (List.mem_of_getElem? (i := 8) rfl)), (hw _ (List.mem_of_getElem? (i := 24) rfl)), ⟨by decide, by decide⟩, pd_2⟩
theorem s0_83 : Nx code 83 (.istore 16) 2 85 := ⟨at_83, rfl⟩
theorem s0_85 : Nx code 85 (.aload 15) 2 87 := ⟨at_85, rfl⟩
theorem s0_87 : Nx code 87 (.lload 11) 2 89 := ⟨at_87, rfl⟩
theorem s0_89 : Nx code 89 (.invokevirtual 24) 3 92 := ⟨at_89, rfl⟩
theorem s0_92 : Nx code 92 (.istore 17) 2 94 := ⟨at_92, rfl⟩
theorem s0_94 : Nx code 94 (.aload 15) 2 96 := ⟨at_94, rfl⟩
theorem s0_96 : Nx code 96 (.lload 9) 2 98 := ⟨at_96, rfl⟩
theorem s0_98 : Nx code 98 (.invokevirtual 24) 3 101 := ⟨at_98, rfl⟩
theorem s0_101 : Nx code 101 (.istore 18) 2 103 := ⟨at_101, rfl⟩
theorem s0_103 : Nx code 103 (.aload 15) 2 105 := ⟨at_103, rfl⟩
theorem s0_105 : Nx code 105 (.lload 7) 2 107 := ⟨at_105, rfl⟩
theorem s0_107 : Nx code 107 (.invokevirtual 24) 3 110 := ⟨at_107, rfl⟩
theorem s0_110 : Nx code 110 (.istore 19) 2 112 := ⟨at_110, rfl⟩
theorem s0_112 : Nx code 112 (.aload 15) 2 114 := ⟨at_112, rfl⟩
theorem s0_114 : Nx code 114 (.lload 5) 2 116 := ⟨at_114, rfl⟩
theorem s0_116 : Nx code 116 (.invokevirtual 24) 3 119 := ⟨at_116, rfl⟩
theorem s0_119 : Nx code 119 (.istore 20) 2 121 := ⟨at_119, rfl⟩
theorem s0_121 : Nx code 121 (.iload 16) 2 123 := ⟨at_121, rfl⟩
theorem s0_123 : Nx code 123 (.iconst 1) 1 124 := ⟨at_123, rfl⟩
theorem s0_124 : Bx code 124 (.if_icmp .ne) 235 127 := ⟨(111), at_124, by decide, by decide, rfl⟩
theorem s0_127 : Nx code 127 (.iload 17) 2 129 := ⟨at_127, rfl⟩
theorem s0_129 : Nx code 129 (.iconst 1) 1 130 := ⟨at_129, rfl⟩
theorem s0_130 : Nx code 130 (.lload 13) 2 132 := ⟨at_130, rfl⟩
theorem s0_132 : Nx code 132 (.lload 11) 2 134 := ⟨at_132, rfl⟩
theorem s0_134 : Nx code 134 (.invokestatic 28) 3 137 := ⟨at_134, rfl⟩
theorem pd_3 : ∀ sig, parseMethodDescriptor "(JJ)I" = some sig → 2 = sig.parameters.length := npOf (r := some .int) (ps := [.long, .long]) (by decide +kernel) rfl
theorem k_16 {Z : State} {a0 : Array Value} (hw : HW1 Z a0) : SL Z a0 "com/example/hotspotless/hotspotless/region/NodeCountWindowWritePinLaw" 28 y5 method_2_code 4 (some .int) 2 := ⟨(hw _ (List.mem_of_getElem? (i := 27) rfl)), (hw _ (List.mem_of_getElem? (i := 28) rfl)), (hw _ (List.mem_of_getElem? (i := 29) rfl)), (hw _ (List.mem_of_getElem? (i := 30) rfl)), ⟨by decide, by decide⟩, pd_3⟩
theorem s0_137 : Nx code 137 (.iadd) 1 138 := ⟨at_137, rfl⟩
theorem s0_138 : Bx code 138 (.if_icmp .ne) 235 141 := ⟨(97), at_138, by decide, by decide, rfl⟩
theorem s0_141 : Nx code 141 (.iload 18) 2 143 := ⟨at_141, rfl⟩
theorem s0_143 : Nx code 143 (.iconst 1) 1 144 := ⟨at_143, rfl⟩
theorem s0_144 : Nx code 144 (.lload 13) 2 146 := ⟨at_144, rfl⟩
theorem s0_146 : Nx code 146 (.lload 9) 2 148 := ⟨at_146, rfl⟩
theorem s0_148 : Nx code 148 (.invokestatic 28) 3 151 := ⟨at_148, rfl⟩
theorem s0_151 : Nx code 151 (.iadd) 1 152 := ⟨at_151, rfl⟩
theorem s0_152 : Nx code 152 (.lload 11) 2 154 := ⟨at_152, rfl⟩
theorem s0_154 : Nx code 154 (.lload 9) 2 156 := ⟨at_154, rfl⟩
theorem s0_156 : Nx code 156 (.invokestatic 28) 3 159 := ⟨at_156, rfl⟩
theorem s0_159 : Nx code 159 (.iadd) 1 160 := ⟨at_159, rfl⟩
theorem s0_160 : Bx code 160 (.if_icmp .ne) 235 163 := ⟨(75), at_160, by decide, by decide, rfl⟩
theorem s0_163 : Nx code 163 (.iload 19) 2 165 := ⟨at_163, rfl⟩
theorem s0_165 : Nx code 165 (.iconst 1) 1 166 := ⟨at_165, rfl⟩
theorem s0_166 : Nx code 166 (.lload 13) 2 168 := ⟨at_166, rfl⟩
theorem s0_168 : Nx code 168 (.lload 7) 2 170 := ⟨at_168, rfl⟩
theorem s0_170 : Nx code 170 (.invokestatic 28) 3 173 := ⟨at_170, rfl⟩
theorem s0_173 : Nx code 173 (.iadd) 1 174 := ⟨at_173, rfl⟩
theorem s0_174 : Nx code 174 (.lload 11) 2 176 := ⟨at_174, rfl⟩
theorem s0_176 : Nx code 176 (.lload 7) 2 178 := ⟨at_176, rfl⟩
theorem s0_178 : Nx code 178 (.invokestatic 28) 3 181 := ⟨at_178, rfl⟩
theorem s0_181 : Nx code 181 (.iadd) 1 182 := ⟨at_181, rfl⟩
theorem s0_182 : Nx code 182 (.lload 9) 2 184 := ⟨at_182, rfl⟩
theorem s0_184 : Nx code 184 (.lload 7) 2 186 := ⟨at_184, rfl⟩
theorem s0_186 : Nx code 186 (.invokestatic 28) 3 189 := ⟨at_186, rfl⟩
theorem s0_189 : Nx code 189 (.iadd) 1 190 := ⟨at_189, rfl⟩
theorem s0_190 : Bx code 190 (.if_icmp .ne) 235 193 := ⟨(45), at_190, by decide, by decide, rfl⟩
theorem s0_193 : Nx code 193 (.iload 20) 2 195 := ⟨at_193, rfl⟩
theorem s0_195 : Nx code 195 (.iconst 1) 1 196 := ⟨at_195, rfl⟩
theorem s0_196 : Nx code 196 (.lload 13) 2 198 := ⟨at_196, rfl⟩
theorem s0_198 : Nx code 198 (.lload 5) 2 200 := ⟨at_198, rfl⟩
theorem s0_200 : Nx code 200 (.invokestatic 28) 3 203 := ⟨at_200, rfl⟩
theorem s0_203 : Nx code 203 (.iadd) 1 204 := ⟨at_203, rfl⟩
theorem s0_204 : Nx code 204 (.lload 11) 2 206 := ⟨at_204, rfl⟩
theorem s0_206 : Nx code 206 (.lload 5) 2 208 := ⟨at_206, rfl⟩
theorem s0_208 : Nx code 208 (.invokestatic 28) 3 211 := ⟨at_208, rfl⟩
theorem s0_211 : Nx code 211 (.iadd) 1 212 := ⟨at_211, rfl⟩
theorem s0_212 : Nx code 212 (.lload 9) 2 214 := ⟨at_212, rfl⟩
theorem s0_214 : Nx code 214 (.lload 5) 2 216 := ⟨at_214, rfl⟩
theorem s0_216 : Nx code 216 (.invokestatic 28) 3 219 := ⟨at_216, rfl⟩
theorem s0_219 : Nx code 219 (.iadd) 1 220 := ⟨at_219, rfl⟩
theorem s0_220 : Nx code 220 (.lload 7) 2 222 := ⟨at_220, rfl⟩
theorem s0_222 : Nx code 222 (.lload 5) 2 224 := ⟨at_222, rfl⟩
theorem s0_224 : Nx code 224 (.invokestatic 28) 3 227 := ⟨at_224, rfl⟩
theorem s0_227 : Nx code 227 (.iadd) 1 228 := ⟨at_227, rfl⟩
theorem s0_228 : Bx code 228 (.if_icmp .ne) 235 231 := ⟨(7), at_228, by decide, by decide, rfl⟩
theorem s0_231 : Nx code 231 (.iconst 1) 1 232 := ⟨at_231, rfl⟩
theorem s0_232 : Bx code 232 (.goto) 236 235 := ⟨(4), at_232, by decide, by decide, rfl⟩
theorem s0_236 : Nx code 236 (.istore 21) 2 238 := ⟨at_236, rfl⟩
theorem s0_238 : Nx code 238 (.iload 21) 2 240 := ⟨at_238, rfl⟩
theorem s0_240 : Bx code 240 (.ifCond .eq) 276 243 := ⟨(36), at_240, by decide, by decide, rfl⟩
theorem s0_243 : Nx code 243 (.aload 15) 2 245 := ⟨at_243, rfl⟩
theorem s0_245 : Nx code 245 (.invokevirtual 34) 3 248 := ⟨at_245, rfl⟩
theorem s6_0 : Nx prog_103_method_2_code 0 (.aload_n 0) 1 1 := ⟨by decide +kernel, rfl⟩
theorem k_17 {Z : State} {a0 : Array Value} (hw : HW1 Z a0) : FL Z a0 KT "com/example/hotspotless/hotspotless/region/Node" 15 0 1 := ⟨_, _, "com/example/hotspotless/hotspotless/region/Node", "number", "I", "", rfl, rfl, (Or.inl (hw _ (List.mem_of_getElem? (i := 18) rfl)))⟩
theorem s6_1 : Nx prog_103_method_2_code 1 (.getfield 15) 3 4 := ⟨by decide +kernel, rfl⟩
theorem s6_4 : Nx prog_103_method_2_code 4 (.ireturn) 1 5 := ⟨by decide +kernel, rfl⟩
set_option maxRecDepth 65536 in
set_option maxHeartbeats 40000000 in
theorem a_1 (l : Launch) {Z : State} {a0 : Array Value} (hw : HW1 Z a0) (n0 : Nat) (p0 : Int32) (w0 : Int64) (w1 : Int64) (w2 : Int64) (w3 : Int64) (w4 : Int64) : Met l Z KT n0 y6 prog_103_method_2_code 1 (some .int) ({ frames := 0, cells := 0, slots := 0, locals := 0 } : Room) #[(.ref (n0 + 0))] [.inl (0, [(.long w4), (.int p0), (.int (own_cw w3 (own_cw w2 (own_cw w1 (own_cw w0 (own_cw (-1 : Int64) (0 : Int32) w0) w1) w2) w3) w4)), (.long (0 : Int64)), (.long (0 : Int64))])] (Is (some (.int p0)) [.inl (0, [(.long w4), (.int p0), (.int (own_cw w3 (own_cw w2 (own_cw w1 (own_cw w0 (own_cw (-1 : Int64) (0 : Int32) w0) w1) w2) w3) w4)), (.long (0 : Int64)), (.long (0 : Int64))])]) := by
  refine Met.of (a0 := a0) (ls := #[.val (.ref (n0 + 0))]) (kok hw) (plainFor_of_name pn_4) (fun m => by first | (simp [entryFrame, mkF, argsToLocals, Value.category]; done) | rfl) (fun G H => ?_)
  refine H.aloadN s6_0 rfl rfl ?_
  refine H.getfield s6_1 (k_17 hw) (i := 0) rfl rfl ?_
  exact H.ireturn s6_4 rfl (by simp) rfl ⟨rfl, rfl⟩ (by decide) (by decide)

theorem pd_4 : ∀ sig, parseMethodDescriptor "()I" = some sig → 0 = sig.parameters.length := npOf (r := some .int) (ps := []) (by decide +kernel) rfl
theorem k_18 {Z : State} {a0 : Array Value} (hw : HW1 Z a0) : VL Z a0 KT "com/example/hotspotless/hotspotless/region/NodeCountWindowWritePinLaw" 34 0 y6 prog_103_method_2_code 1 (some .int) 0 := ⟨_, _, rfl, (hw _ (List.mem_of_getElem? (i := 31) rfl)), (hw _ (List.mem_of_getElem? (i := 32) rfl)), (hw _ (List.mem_of_getElem? (i := 34) rfl)), (hw _ (List.mem_of_getElem? (i := 33) rfl)), (hw _ (List.mem_of_getElem? (i := 8) rfl)), (hw _ (List.mem_of_getElem? (i := 35) rfl)), ⟨by decide, by decide⟩, pd_4⟩
theorem s0_248 : Nx code 248 (.iload_n 0) 1 249 := ⟨at_248, rfl⟩
theorem s0_249 : Bx code 249 (.if_icmp .ne) 276 252 := ⟨(27), at_249, by decide, by decide, rfl⟩
theorem s0_252 : Nx code 252 (.aload 15) 2 254 := ⟨at_252, rfl⟩
theorem s0_254 : Nx code 254 (.invokevirtual 38) 3 257 := ⟨at_254, rfl⟩
theorem s7_0 : Nx prog_103_method_3_code 0 (.aload_n 0) 1 1 := ⟨by decide +kernel, rfl⟩
theorem k_19 {Z : State} {a0 : Array Value} (hw : HW1 Z a0) : FL Z a0 KT "com/example/hotspotless/hotspotless/region/Node" 19 0 3 := ⟨_, _, "com/example/hotspotless/hotspotless/region/Node", "regions", "J", "", rfl, rfl, (Or.inl (hw _ (List.mem_of_getElem? (i := 41) rfl)))⟩
theorem s7_1 : Nx prog_103_method_3_code 1 (.getfield 19) 3 4 := ⟨by decide +kernel, rfl⟩
theorem s7_4 : Nx prog_103_method_3_code 4 (.lreturn) 1 5 := ⟨by decide +kernel, rfl⟩
set_option maxRecDepth 65536 in
set_option maxHeartbeats 40000000 in
theorem a_2 (l : Launch) {Z : State} {a0 : Array Value} (hw : HW1 Z a0) (n0 : Nat) (p0 : Int32) (w0 : Int64) (w1 : Int64) (w2 : Int64) (w3 : Int64) (w4 : Int64) : Met l Z KT n0 y7 prog_103_method_3_code 1 (some .long) ({ frames := 0, cells := 0, slots := 0, locals := 0 } : Room) #[(.ref (n0 + 0))] [.inl (0, [(.long w4), (.int p0), (.int (own_cw w3 (own_cw w2 (own_cw w1 (own_cw w0 (own_cw (-1 : Int64) (0 : Int32) w0) w1) w2) w3) w4)), (.long (0 : Int64)), (.long (0 : Int64))])] (Is (some (.long (0 : Int64))) [.inl (0, [(.long w4), (.int p0), (.int (own_cw w3 (own_cw w2 (own_cw w1 (own_cw w0 (own_cw (-1 : Int64) (0 : Int32) w0) w1) w2) w3) w4)), (.long (0 : Int64)), (.long (0 : Int64))])]) := by
  refine Met.of (a0 := a0) (ls := #[.val (.ref (n0 + 0))]) (kok hw) (plainFor_of_name pn_4) (fun m => by first | (simp [entryFrame, mkF, argsToLocals, Value.category]; done) | rfl) (fun G H => ?_)
  refine H.aloadN s7_0 rfl rfl ?_
  refine H.getfield s7_1 (k_19 hw) (i := 0) rfl rfl ?_
  exact H.lreturn s7_4 rfl ⟨rfl, rfl⟩ (by decide) (by decide)

theorem pd_5 : ∀ sig, parseMethodDescriptor "()J" = some sig → 0 = sig.parameters.length := npOf (r := some .long) (ps := []) (by decide +kernel) rfl
theorem k_20 {Z : State} {a0 : Array Value} (hw : HW1 Z a0) : VL Z a0 KT "com/example/hotspotless/hotspotless/region/NodeCountWindowWritePinLaw" 38 0 y7 prog_103_method_3_code 1 (some .long) 0 := ⟨_, _, rfl, (hw _ (List.mem_of_getElem? (i := 36) rfl)), (hw _ (List.mem_of_getElem? (i := 37) rfl)), (hw _ (List.mem_of_getElem? (i := 39) rfl)), (hw _ (List.mem_of_getElem? (i := 38) rfl)), (hw _ (List.mem_of_getElem? (i := 8) rfl)), (hw _ (List.mem_of_getElem? (i := 40) rfl)), ⟨by decide, by decide⟩, pd_5⟩
theorem s0_257 : Nx code 257 (.lconst 0) 1 258 := ⟨at_257, rfl⟩
theorem s0_258 : Nx code 258 (.lcmp) 1 259 := ⟨at_258, rfl⟩
theorem s0_259 : Bx code 259 (.ifCond .ne) 276 262 := ⟨(17), at_259, by decide, by decide, rfl⟩
theorem s0_262 : Nx code 262 (.aload 15) 2 264 := ⟨at_262, rfl⟩
theorem s0_264 : Nx code 264 (.invokevirtual 42) 3 267 := ⟨at_264, rfl⟩
theorem s8_0 : Nx prog_103_method_4_code 0 (.aload_n 0) 1 1 := ⟨by decide +kernel, rfl⟩
theorem k_21 {Z : State} {a0 : Array Value} (hw : HW1 Z a0) : FL Z a0 KT "com/example/hotspotless/hotspotless/region/Node" 22 0 4 := ⟨_, _, "com/example/hotspotless/hotspotless/region/Node", "writes", "J", "", rfl, rfl, (Or.inl (hw _ (List.mem_of_getElem? (i := 48) rfl)))⟩
theorem s8_1 : Nx prog_103_method_4_code 1 (.getfield 22) 3 4 := ⟨by decide +kernel, rfl⟩
theorem s8_4 : Nx prog_103_method_4_code 4 (.lreturn) 1 5 := ⟨by decide +kernel, rfl⟩
set_option maxRecDepth 65536 in
set_option maxHeartbeats 40000000 in
theorem a_3 (l : Launch) {Z : State} {a0 : Array Value} (hw : HW1 Z a0) (n0 : Nat) (p0 : Int32) (w0 : Int64) (w1 : Int64) (w2 : Int64) (w3 : Int64) (w4 : Int64) : Met l Z KT n0 y8 prog_103_method_4_code 1 (some .long) ({ frames := 0, cells := 0, slots := 0, locals := 0 } : Room) #[(.ref (n0 + 0))] [.inl (0, [(.long w4), (.int p0), (.int (own_cw w3 (own_cw w2 (own_cw w1 (own_cw w0 (own_cw (-1 : Int64) (0 : Int32) w0) w1) w2) w3) w4)), (.long (0 : Int64)), (.long (0 : Int64))])] (Is (some (.long (0 : Int64))) [.inl (0, [(.long w4), (.int p0), (.int (own_cw w3 (own_cw w2 (own_cw w1 (own_cw w0 (own_cw (-1 : Int64) (0 : Int32) w0) w1) w2) w3) w4)), (.long (0 : Int64)), (.long (0 : Int64))])]) := by
  refine Met.of (a0 := a0) (ls := #[.val (.ref (n0 + 0))]) (kok hw) (plainFor_of_name pn_4) (fun m => by first | (simp [entryFrame, mkF, argsToLocals, Value.category]; done) | rfl) (fun G H => ?_)
  refine H.aloadN s8_0 rfl rfl ?_
  refine H.getfield s8_1 (k_21 hw) (i := 0) rfl rfl ?_
  exact H.lreturn s8_4 rfl ⟨rfl, rfl⟩ (by decide) (by decide)

theorem k_22 {Z : State} {a0 : Array Value} (hw : HW1 Z a0) : VL Z a0 KT "com/example/hotspotless/hotspotless/region/NodeCountWindowWritePinLaw" 42 0 y8 prog_103_method_4_code 1 (some .long) 0 := ⟨_, _, rfl, (hw _ (List.mem_of_getElem? (i := 43) rfl)), (hw _ (List.mem_of_getElem? (i := 44) rfl)), (hw _ (List.mem_of_getElem? (i := 46) rfl)), (hw _ (List.mem_of_getElem? (i := 45) rfl)), (hw _ (List.mem_of_getElem? (i := 8) rfl)), (hw _ (List.mem_of_getElem? (i := 47) rfl)), ⟨by decide, by decide⟩, pd_5⟩
theorem s0_267 : Nx code 267 (.lconst 0) 1 268 := ⟨at_267, rfl⟩
theorem s0_268 : Nx code 268 (.lcmp) 1 269 := ⟨at_268, rfl⟩
theorem s0_269 : Bx code 269 (.ifCond .ne) 276 272 := ⟨(7), at_269, by decide, by decide, rfl⟩
theorem s0_272 : Nx code 272 (.iconst 1) 1 273 := ⟨at_272, rfl⟩
theorem s0_273 : Bx code 273 (.goto) 277 276 := ⟨(4), at_273, by decide, by decide, rfl⟩
theorem s0_277 : Nx code 277 (.ireturn) 1 278 := ⟨at_277, rfl⟩
set_option maxRecDepth 65536 in
set_option maxHeartbeats 40000000 in
theorem law_met (l : Launch) {Z : State} {a0 : Array Value} (hw : HW1 Z a0) (n0 : Nat) (p0 : Int32) (p1 : Int64) (p2 : Int64) : Met l Z KT n0 x code maxLocals ret room_1 #[(.int p0), (.long p1), (.long p2)] [] (fun v _ => v = some (.int 1)) := by
  refine Met.of (a0 := a0) (ls := #[.val (.int p0), .val (.long p1), .second, .val (.long p2), .second, .unset, .unset, .unset, .unset, .unset, .unset, .unset, .unset, .unset, .unset, .unset, .unset, .unset, .unset, .unset, .unset, .unset]) (kok hw) (plainFor_of_name pn_5) (fun m => by first | (simp [entryFrame, mkF, argsToLocals, Value.category, maxLocals]; done) | rfl) (fun G H => ?_)
  obtain ⟨w4, hw4, f4⟩ : ∃ z, (p1 &&& (9223372036854775807 : Int64)) = z ∧ 0 ≤ z.toInt := ⟨_, rfl, by
    have q := c_maskL p1 (9223372036854775807 : Int64) 63 (by decide) (by decide)
    omega⟩
  obtain ⟨w3, hw3, f3⟩ : ∃ z, own_maxJ (0 : Int64) (w4 - ((p2.toUInt64 >>> ((6 : Int32) &&& 0x3f).toInt64.toUInt64).toInt64)) = z ∧ 0 ≤ z.toInt ∧ z.toInt ≤ w4.toInt := ⟨_, rfl, own_down f4 (own_sh p2 6 6 (by decide) (by decide))⟩
  obtain ⟨w2, hw2, f2⟩ : ∃ z, own_maxJ (0 : Int64) (w3 - (((p2.toUInt64 >>> ((4 : Int32) &&& 0x3f).toInt64.toUInt64).toInt64) &&& (3 : Int64))) = z ∧ 0 ≤ z.toInt ∧ z.toInt ≤ w3.toInt := ⟨_, rfl, own_down f3.1 (own_a3 _)⟩
  obtain ⟨w1, hw1, f1⟩ : ∃ z, own_maxJ (0 : Int64) (w2 - (((p2.toUInt64 >>> ((2 : Int32) &&& 0x3f).toInt64.toUInt64).toInt64) &&& (3 : Int64))) = z ∧ 0 ≤ z.toInt ∧ z.toInt ≤ w2.toInt := ⟨_, rfl, own_down f2.1 (own_a3 _)⟩
  obtain ⟨w0, hw0, f0⟩ : ∃ z, own_maxJ (0 : Int64) (w1 - (p2 &&& (3 : Int64))) = z ∧ 0 ≤ z.toInt ∧ z.toInt ≤ w1.toInt := ⟨_, rfl, own_down f1.1 (own_a3 _)⟩
  refine H.lloadN s0_0 rfl ?_
  refine H.ldc2 s0_1 (k_6 hw) ?_
  refine H.land s0_4 (w := w4) hw4 ?_
  refine H.lstore s0_5 (ls' := #[.val (.int p0), .val (.long p1), .second, .val (.long p2), .second, .val (.long w4), .second, .unset, .unset, .unset, .unset, .unset, .unset, .unset, .unset, .unset, .unset, .unset, .unset, .unset, .unset, .unset]) rfl ?_
  refine H.lconst s0_7 (v := (0 : Int64)) (by decide) ?_
  refine H.lload s0_8 rfl ?_
  refine H.lloadN s0_10 rfl ?_
  refine H.bipush s0_11 (v := (6 : Int32)) (by decide) ?_
  refine H.lushr s0_13 rfl ?_
  refine H.lsub s0_14 rfl ?_
  refine H.callSD s0_15 (k_7 hw) (m_maxJ l hw n0 [] (0 : Int64) (w4 - ((p2.toUInt64 >>> ((6 : Int32) &&& 0x3f).toInt64.toUInt64).toInt64))) (argsL := [(.long (0 : Int64)), (.long (w4 - ((p2.toUInt64 >>> ((6 : Int32) &&& 0x3f).toInt64.toUInt64).toInt64)))]) (rest := []) rfl rfl rfl rfl (leb rfl) (leb rfl) (leb rfl) (leb rfl) (st' := [(.long w3)]) (by rw [hw3]; rfl) (k' := 0) rfl (n' := 0) rfl ?_
  refine H.lstore s0_18 (ls' := #[.val (.int p0), .val (.long p1), .second, .val (.long p2), .second, .val (.long w4), .second, .val (.long w3), .second, .unset, .unset, .unset, .unset, .unset, .unset, .unset, .unset, .unset, .unset, .unset, .unset, .unset]) rfl ?_
  refine H.lconst s0_20 (v := (0 : Int64)) (by decide) ?_
  refine H.lload s0_21 rfl ?_
  refine H.lloadN s0_23 rfl ?_
  refine H.iconst s0_24 (v := (4 : Int32)) (by decide) ?_
  refine H.lushr s0_25 rfl ?_
  refine H.ldc2 s0_26 (k_8 hw) ?_
  refine H.land s0_29 rfl ?_
  refine H.lsub s0_30 rfl ?_
  refine H.callSD s0_31 (k_7 hw) (m_maxJ l hw n0 [] (0 : Int64) (w3 - (((p2.toUInt64 >>> ((4 : Int32) &&& 0x3f).toInt64.toUInt64).toInt64) &&& (3 : Int64)))) (argsL := [(.long (0 : Int64)), (.long (w3 - (((p2.toUInt64 >>> ((4 : Int32) &&& 0x3f).toInt64.toUInt64).toInt64) &&& (3 : Int64))))]) (rest := []) rfl rfl rfl rfl (leb rfl) (leb rfl) (leb rfl) (leb rfl) (st' := [(.long w2)]) (by rw [hw2]; rfl) (k' := 0) rfl (n' := 0) rfl ?_
  refine H.lstore s0_34 (ls' := #[.val (.int p0), .val (.long p1), .second, .val (.long p2), .second, .val (.long w4), .second, .val (.long w3), .second, .val (.long w2), .second, .unset, .unset, .unset, .unset, .unset, .unset, .unset, .unset, .unset, .unset, .unset]) rfl ?_
  refine H.lconst s0_36 (v := (0 : Int64)) (by decide) ?_
  refine H.lload s0_37 rfl ?_
  refine H.lloadN s0_39 rfl ?_
  refine H.iconst s0_40 (v := (2 : Int32)) (by decide) ?_
  refine H.lushr s0_41 rfl ?_
  refine H.ldc2 s0_42 (k_8 hw) ?_
  refine H.land s0_45 rfl ?_
  refine H.lsub s0_46 rfl ?_
  refine H.callSD s0_47 (k_7 hw) (m_maxJ l hw n0 [] (0 : Int64) (w2 - (((p2.toUInt64 >>> ((2 : Int32) &&& 0x3f).toInt64.toUInt64).toInt64) &&& (3 : Int64)))) (argsL := [(.long (0 : Int64)), (.long (w2 - (((p2.toUInt64 >>> ((2 : Int32) &&& 0x3f).toInt64.toUInt64).toInt64) &&& (3 : Int64))))]) (rest := []) rfl rfl rfl rfl (leb rfl) (leb rfl) (leb rfl) (leb rfl) (st' := [(.long w1)]) (by rw [hw1]; rfl) (k' := 0) rfl (n' := 0) rfl ?_
  refine H.lstore s0_50 (ls' := #[.val (.int p0), .val (.long p1), .second, .val (.long p2), .second, .val (.long w4), .second, .val (.long w3), .second, .val (.long w2), .second, .val (.long w1), .second, .unset, .unset, .unset, .unset, .unset, .unset, .unset, .unset, .unset]) rfl ?_
  refine H.lconst s0_52 (v := (0 : Int64)) (by decide) ?_
  refine H.lload s0_53 rfl ?_
  refine H.lloadN s0_55 rfl ?_
  refine H.ldc2 s0_56 (k_8 hw) ?_
  refine H.land s0_59 rfl ?_
  refine H.lsub s0_60 rfl ?_
  refine H.callSD s0_61 (k_7 hw) (m_maxJ l hw n0 [] (0 : Int64) (w1 - (p2 &&& (3 : Int64)))) (argsL := [(.long (0 : Int64)), (.long (w1 - (p2 &&& (3 : Int64))))]) (rest := []) rfl rfl rfl rfl (leb rfl) (leb rfl) (leb rfl) (leb rfl) (st' := [(.long w0)]) (by rw [hw0]; rfl) (k' := 0) rfl (n' := 0) rfl ?_
  refine H.lstore s0_64 (ls' := #[.val (.int p0), .val (.long p1), .second, .val (.long p2), .second, .val (.long w4), .second, .val (.long w3), .second, .val (.long w2), .second, .val (.long w1), .second, .val (.long w0), .second, .unset, .unset, .unset, .unset, .unset, .unset, .unset]) rfl ?_
  refine H.new s0_66 (k_9 hw) rfl (by decide) (by decide) (i := 0) rfl (A' := [.inl (0, [(.long (0 : Int64)), (.int (0 : Int32)), (.int (0 : Int32)), (.long (0 : Int64)), (.long (0 : Int64))])]) rfl (k' := 1) rfl (n' := 5) rfl ?_
  refine H.dup s0_69 rfl ?_
  refine H.iloadN s0_70 rfl ?_
  refine H.callCD s0_71 (k_14 hw) (a_0 l hw n0 p0) (argsL := [(.int p0)]) (rest := [(.ref (n0 + 0))]) rfl rfl rfl rfl (leb rfl) (leb rfl) (leb rfl) (leb rfl) (st' := [(.ref (n0 + 0))]) rfl (k' := 1) rfl (n' := 5) rfl ?_
  refine H.astore s0_74 rfl (ls' := #[.val (.int p0), .val (.long p1), .second, .val (.long p2), .second, .val (.long w4), .second, .val (.long w3), .second, .val (.long w2), .second, .val (.long w1), .second, .val (.long w0), .second, .val (.ref (n0 + 0)), .unset, .unset, .unset, .unset, .unset, .unset]) rfl ?_
  refine H.aload s0_76 rfl rfl ?_
  refine H.lload s0_78 rfl ?_
  refine H.callVD s0_80 (k_15 hw) (m_cw l hw n0 (-1 : Int64) p0 (0 : Int32) (0 : Int64) (0 : Int64) w0) (i := 0) rfl (argsL := [(.long w0)]) (rest := []) rfl rfl rfl rfl (leb rfl) (leb rfl) (leb rfl) (leb rfl) (st' := [(.int (own_cw (-1 : Int64) (0 : Int32) w0))]) rfl (k' := 1) rfl (n' := 5) rfl ?_
  refine H.istore s0_83 (ls' := #[.val (.int p0), .val (.long p1), .second, .val (.long p2), .second, .val (.long w4), .second, .val (.long w3), .second, .val (.long w2), .second, .val (.long w1), .second, .val (.long w0), .second, .val (.ref (n0 + 0)), .val (.int (own_cw (-1 : Int64) (0 : Int32) w0)), .unset, .unset, .unset, .unset, .unset]) rfl ?_
  refine H.aload s0_85 rfl rfl ?_
  refine H.lload s0_87 rfl ?_
  refine H.callVD s0_89 (k_15 hw) (m_cw l hw n0 w0 p0 (own_cw (-1 : Int64) (0 : Int32) w0) (0 : Int64) (0 : Int64) w1) (i := 0) rfl (argsL := [(.long w1)]) (rest := []) rfl rfl rfl rfl (leb rfl) (leb rfl) (leb rfl) (leb rfl) (st' := [(.int (own_cw w0 (own_cw (-1 : Int64) (0 : Int32) w0) w1))]) rfl (k' := 1) rfl (n' := 5) rfl ?_
  refine H.istore s0_92 (ls' := #[.val (.int p0), .val (.long p1), .second, .val (.long p2), .second, .val (.long w4), .second, .val (.long w3), .second, .val (.long w2), .second, .val (.long w1), .second, .val (.long w0), .second, .val (.ref (n0 + 0)), .val (.int (own_cw (-1 : Int64) (0 : Int32) w0)), .val (.int (own_cw w0 (own_cw (-1 : Int64) (0 : Int32) w0) w1)), .unset, .unset, .unset, .unset]) rfl ?_
  refine H.aload s0_94 rfl rfl ?_
  refine H.lload s0_96 rfl ?_
  refine H.callVD s0_98 (k_15 hw) (m_cw l hw n0 w1 p0 (own_cw w0 (own_cw (-1 : Int64) (0 : Int32) w0) w1) (0 : Int64) (0 : Int64) w2) (i := 0) rfl (argsL := [(.long w2)]) (rest := []) rfl rfl rfl rfl (leb rfl) (leb rfl) (leb rfl) (leb rfl) (st' := [(.int (own_cw w1 (own_cw w0 (own_cw (-1 : Int64) (0 : Int32) w0) w1) w2))]) rfl (k' := 1) rfl (n' := 5) rfl ?_
  refine H.istore s0_101 (ls' := #[.val (.int p0), .val (.long p1), .second, .val (.long p2), .second, .val (.long w4), .second, .val (.long w3), .second, .val (.long w2), .second, .val (.long w1), .second, .val (.long w0), .second, .val (.ref (n0 + 0)), .val (.int (own_cw (-1 : Int64) (0 : Int32) w0)), .val (.int (own_cw w0 (own_cw (-1 : Int64) (0 : Int32) w0) w1)), .val (.int (own_cw w1 (own_cw w0 (own_cw (-1 : Int64) (0 : Int32) w0) w1) w2)), .unset, .unset, .unset]) rfl ?_
  refine H.aload s0_103 rfl rfl ?_
  refine H.lload s0_105 rfl ?_
  refine H.callVD s0_107 (k_15 hw) (m_cw l hw n0 w2 p0 (own_cw w1 (own_cw w0 (own_cw (-1 : Int64) (0 : Int32) w0) w1) w2) (0 : Int64) (0 : Int64) w3) (i := 0) rfl (argsL := [(.long w3)]) (rest := []) rfl rfl rfl rfl (leb rfl) (leb rfl) (leb rfl) (leb rfl) (st' := [(.int (own_cw w2 (own_cw w1 (own_cw w0 (own_cw (-1 : Int64) (0 : Int32) w0) w1) w2) w3))]) rfl (k' := 1) rfl (n' := 5) rfl ?_
  refine H.istore s0_110 (ls' := #[.val (.int p0), .val (.long p1), .second, .val (.long p2), .second, .val (.long w4), .second, .val (.long w3), .second, .val (.long w2), .second, .val (.long w1), .second, .val (.long w0), .second, .val (.ref (n0 + 0)), .val (.int (own_cw (-1 : Int64) (0 : Int32) w0)), .val (.int (own_cw w0 (own_cw (-1 : Int64) (0 : Int32) w0) w1)), .val (.int (own_cw w1 (own_cw w0 (own_cw (-1 : Int64) (0 : Int32) w0) w1) w2)), .val (.int (own_cw w2 (own_cw w1 (own_cw w0 (own_cw (-1 : Int64) (0 : Int32) w0) w1) w2) w3)), .unset, .unset]) rfl ?_
  refine H.aload s0_112 rfl rfl ?_
  refine H.lload s0_114 rfl ?_
  refine H.callVD s0_116 (k_15 hw) (m_cw l hw n0 w3 p0 (own_cw w2 (own_cw w1 (own_cw w0 (own_cw (-1 : Int64) (0 : Int32) w0) w1) w2) w3) (0 : Int64) (0 : Int64) w4) (i := 0) rfl (argsL := [(.long w4)]) (rest := []) rfl rfl rfl rfl (leb rfl) (leb rfl) (leb rfl) (leb rfl) (st' := [(.int (own_cw w3 (own_cw w2 (own_cw w1 (own_cw w0 (own_cw (-1 : Int64) (0 : Int32) w0) w1) w2) w3) w4))]) rfl (k' := 1) rfl (n' := 5) rfl ?_
  refine H.istore s0_119 (ls' := #[.val (.int p0), .val (.long p1), .second, .val (.long p2), .second, .val (.long w4), .second, .val (.long w3), .second, .val (.long w2), .second, .val (.long w1), .second, .val (.long w0), .second, .val (.ref (n0 + 0)), .val (.int (own_cw (-1 : Int64) (0 : Int32) w0)), .val (.int (own_cw w0 (own_cw (-1 : Int64) (0 : Int32) w0) w1)), .val (.int (own_cw w1 (own_cw w0 (own_cw (-1 : Int64) (0 : Int32) w0) w1) w2)), .val (.int (own_cw w2 (own_cw w1 (own_cw w0 (own_cw (-1 : Int64) (0 : Int32) w0) w1) w2) w3)), .val (.int (own_cw w3 (own_cw w2 (own_cw w1 (own_cw w0 (own_cw (-1 : Int64) (0 : Int32) w0) w1) w2) w3) w4)), .unset]) rfl ?_
  refine H.iload s0_121 rfl ?_
  refine H.iconst s0_123 (v := (1 : Int32)) (by decide) ?_
  refine H.icmpF s0_124 (own_l0 f0.1) ?_
  refine H.iload s0_127 rfl ?_
  refine H.iconst s0_129 (v := (1 : Int32)) (by decide) ?_
  refine H.lload s0_130 rfl ?_
  refine H.lload s0_132 rfl ?_
  refine H.callSD s0_134 (k_16 hw) (m_eq l hw n0 [.inl (0, [(.long w4), (.int p0), (.int (own_cw w3 (own_cw w2 (own_cw w1 (own_cw w0 (own_cw (-1 : Int64) (0 : Int32) w0) w1) w2) w3) w4)), (.long (0 : Int64)), (.long (0 : Int64))])] w0 w1) (argsL := [(.long w0), (.long w1)]) (rest := [(.int (1 : Int32)), (.int (own_cw w0 (own_cw (-1 : Int64) (0 : Int32) w0) w1))]) rfl rfl rfl rfl (leb rfl) (leb rfl) (leb rfl) (leb rfl) (st' := [(.int (own_eq w0 w1)), (.int (1 : Int32)), (.int (own_cw w0 (own_cw (-1 : Int64) (0 : Int32) w0) w1))]) rfl (k' := 1) rfl (n' := 5) rfl ?_
  refine H.iadd s0_137 rfl ?_
  refine H.icmpF s0_138 (own_l1 f0.1 f0.2) ?_
  refine H.iload s0_141 rfl ?_
  refine H.iconst s0_143 (v := (1 : Int32)) (by decide) ?_
  refine H.lload s0_144 rfl ?_
  refine H.lload s0_146 rfl ?_
  refine H.callSD s0_148 (k_16 hw) (m_eq l hw n0 [.inl (0, [(.long w4), (.int p0), (.int (own_cw w3 (own_cw w2 (own_cw w1 (own_cw w0 (own_cw (-1 : Int64) (0 : Int32) w0) w1) w2) w3) w4)), (.long (0 : Int64)), (.long (0 : Int64))])] w0 w2) (argsL := [(.long w0), (.long w2)]) (rest := [(.int (1 : Int32)), (.int (own_cw w1 (own_cw w0 (own_cw (-1 : Int64) (0 : Int32) w0) w1) w2))]) rfl rfl rfl rfl (leb rfl) (leb rfl) (leb rfl) (leb rfl) (st' := [(.int (own_eq w0 w2)), (.int (1 : Int32)), (.int (own_cw w1 (own_cw w0 (own_cw (-1 : Int64) (0 : Int32) w0) w1) w2))]) rfl (k' := 1) rfl (n' := 5) rfl ?_
  refine H.iadd s0_151 rfl ?_
  refine H.lload s0_152 rfl ?_
  refine H.lload s0_154 rfl ?_
  refine H.callSD s0_156 (k_16 hw) (m_eq l hw n0 [.inl (0, [(.long w4), (.int p0), (.int (own_cw w3 (own_cw w2 (own_cw w1 (own_cw w0 (own_cw (-1 : Int64) (0 : Int32) w0) w1) w2) w3) w4)), (.long (0 : Int64)), (.long (0 : Int64))])] w1 w2) (argsL := [(.long w1), (.long w2)]) (rest := [(.int ((1 : Int32) + (own_eq w0 w2))), (.int (own_cw w1 (own_cw w0 (own_cw (-1 : Int64) (0 : Int32) w0) w1) w2))]) rfl rfl rfl rfl (leb rfl) (leb rfl) (leb rfl) (leb rfl) (st' := [(.int (own_eq w1 w2)), (.int ((1 : Int32) + (own_eq w0 w2))), (.int (own_cw w1 (own_cw w0 (own_cw (-1 : Int64) (0 : Int32) w0) w1) w2))]) rfl (k' := 1) rfl (n' := 5) rfl ?_
  refine H.iadd s0_159 rfl ?_
  refine H.icmpF s0_160 (own_l2 f0.1 f0.2 f1.2) ?_
  refine H.iload s0_163 rfl ?_
  refine H.iconst s0_165 (v := (1 : Int32)) (by decide) ?_
  refine H.lload s0_166 rfl ?_
  refine H.lload s0_168 rfl ?_
  refine H.callSD s0_170 (k_16 hw) (m_eq l hw n0 [.inl (0, [(.long w4), (.int p0), (.int (own_cw w3 (own_cw w2 (own_cw w1 (own_cw w0 (own_cw (-1 : Int64) (0 : Int32) w0) w1) w2) w3) w4)), (.long (0 : Int64)), (.long (0 : Int64))])] w0 w3) (argsL := [(.long w0), (.long w3)]) (rest := [(.int (1 : Int32)), (.int (own_cw w2 (own_cw w1 (own_cw w0 (own_cw (-1 : Int64) (0 : Int32) w0) w1) w2) w3))]) rfl rfl rfl rfl (leb rfl) (leb rfl) (leb rfl) (leb rfl) (st' := [(.int (own_eq w0 w3)), (.int (1 : Int32)), (.int (own_cw w2 (own_cw w1 (own_cw w0 (own_cw (-1 : Int64) (0 : Int32) w0) w1) w2) w3))]) rfl (k' := 1) rfl (n' := 5) rfl ?_
  refine H.iadd s0_173 rfl ?_
  refine H.lload s0_174 rfl ?_
  refine H.lload s0_176 rfl ?_
  refine H.callSD s0_178 (k_16 hw) (m_eq l hw n0 [.inl (0, [(.long w4), (.int p0), (.int (own_cw w3 (own_cw w2 (own_cw w1 (own_cw w0 (own_cw (-1 : Int64) (0 : Int32) w0) w1) w2) w3) w4)), (.long (0 : Int64)), (.long (0 : Int64))])] w1 w3) (argsL := [(.long w1), (.long w3)]) (rest := [(.int ((1 : Int32) + (own_eq w0 w3))), (.int (own_cw w2 (own_cw w1 (own_cw w0 (own_cw (-1 : Int64) (0 : Int32) w0) w1) w2) w3))]) rfl rfl rfl rfl (leb rfl) (leb rfl) (leb rfl) (leb rfl) (st' := [(.int (own_eq w1 w3)), (.int ((1 : Int32) + (own_eq w0 w3))), (.int (own_cw w2 (own_cw w1 (own_cw w0 (own_cw (-1 : Int64) (0 : Int32) w0) w1) w2) w3))]) rfl (k' := 1) rfl (n' := 5) rfl ?_
  refine H.iadd s0_181 rfl ?_
  refine H.lload s0_182 rfl ?_
  refine H.lload s0_184 rfl ?_
  refine H.callSD s0_186 (k_16 hw) (m_eq l hw n0 [.inl (0, [(.long w4), (.int p0), (.int (own_cw w3 (own_cw w2 (own_cw w1 (own_cw w0 (own_cw (-1 : Int64) (0 : Int32) w0) w1) w2) w3) w4)), (.long (0 : Int64)), (.long (0 : Int64))])] w2 w3) (argsL := [(.long w2), (.long w3)]) (rest := [(.int (((1 : Int32) + (own_eq w0 w3)) + (own_eq w1 w3))), (.int (own_cw w2 (own_cw w1 (own_cw w0 (own_cw (-1 : Int64) (0 : Int32) w0) w1) w2) w3))]) rfl rfl rfl rfl (leb rfl) (leb rfl) (leb rfl) (leb rfl) (st' := [(.int (own_eq w2 w3)), (.int (((1 : Int32) + (own_eq w0 w3)) + (own_eq w1 w3))), (.int (own_cw w2 (own_cw w1 (own_cw w0 (own_cw (-1 : Int64) (0 : Int32) w0) w1) w2) w3))]) rfl (k' := 1) rfl (n' := 5) rfl ?_
  refine H.iadd s0_189 rfl ?_
  refine H.icmpF s0_190 (own_l3 f0.1 f0.2 f1.2 f2.2) ?_
  refine H.iload s0_193 rfl ?_
  refine H.iconst s0_195 (v := (1 : Int32)) (by decide) ?_
  refine H.lload s0_196 rfl ?_
  refine H.lload s0_198 rfl ?_
  refine H.callSD s0_200 (k_16 hw) (m_eq l hw n0 [.inl (0, [(.long w4), (.int p0), (.int (own_cw w3 (own_cw w2 (own_cw w1 (own_cw w0 (own_cw (-1 : Int64) (0 : Int32) w0) w1) w2) w3) w4)), (.long (0 : Int64)), (.long (0 : Int64))])] w0 w4) (argsL := [(.long w0), (.long w4)]) (rest := [(.int (1 : Int32)), (.int (own_cw w3 (own_cw w2 (own_cw w1 (own_cw w0 (own_cw (-1 : Int64) (0 : Int32) w0) w1) w2) w3) w4))]) rfl rfl rfl rfl (leb rfl) (leb rfl) (leb rfl) (leb rfl) (st' := [(.int (own_eq w0 w4)), (.int (1 : Int32)), (.int (own_cw w3 (own_cw w2 (own_cw w1 (own_cw w0 (own_cw (-1 : Int64) (0 : Int32) w0) w1) w2) w3) w4))]) rfl (k' := 1) rfl (n' := 5) rfl ?_
  refine H.iadd s0_203 rfl ?_
  refine H.lload s0_204 rfl ?_
  refine H.lload s0_206 rfl ?_
  refine H.callSD s0_208 (k_16 hw) (m_eq l hw n0 [.inl (0, [(.long w4), (.int p0), (.int (own_cw w3 (own_cw w2 (own_cw w1 (own_cw w0 (own_cw (-1 : Int64) (0 : Int32) w0) w1) w2) w3) w4)), (.long (0 : Int64)), (.long (0 : Int64))])] w1 w4) (argsL := [(.long w1), (.long w4)]) (rest := [(.int ((1 : Int32) + (own_eq w0 w4))), (.int (own_cw w3 (own_cw w2 (own_cw w1 (own_cw w0 (own_cw (-1 : Int64) (0 : Int32) w0) w1) w2) w3) w4))]) rfl rfl rfl rfl (leb rfl) (leb rfl) (leb rfl) (leb rfl) (st' := [(.int (own_eq w1 w4)), (.int ((1 : Int32) + (own_eq w0 w4))), (.int (own_cw w3 (own_cw w2 (own_cw w1 (own_cw w0 (own_cw (-1 : Int64) (0 : Int32) w0) w1) w2) w3) w4))]) rfl (k' := 1) rfl (n' := 5) rfl ?_
  refine H.iadd s0_211 rfl ?_
  refine H.lload s0_212 rfl ?_
  refine H.lload s0_214 rfl ?_
  refine H.callSD s0_216 (k_16 hw) (m_eq l hw n0 [.inl (0, [(.long w4), (.int p0), (.int (own_cw w3 (own_cw w2 (own_cw w1 (own_cw w0 (own_cw (-1 : Int64) (0 : Int32) w0) w1) w2) w3) w4)), (.long (0 : Int64)), (.long (0 : Int64))])] w2 w4) (argsL := [(.long w2), (.long w4)]) (rest := [(.int (((1 : Int32) + (own_eq w0 w4)) + (own_eq w1 w4))), (.int (own_cw w3 (own_cw w2 (own_cw w1 (own_cw w0 (own_cw (-1 : Int64) (0 : Int32) w0) w1) w2) w3) w4))]) rfl rfl rfl rfl (leb rfl) (leb rfl) (leb rfl) (leb rfl) (st' := [(.int (own_eq w2 w4)), (.int (((1 : Int32) + (own_eq w0 w4)) + (own_eq w1 w4))), (.int (own_cw w3 (own_cw w2 (own_cw w1 (own_cw w0 (own_cw (-1 : Int64) (0 : Int32) w0) w1) w2) w3) w4))]) rfl (k' := 1) rfl (n' := 5) rfl ?_
  refine H.iadd s0_219 rfl ?_
  refine H.lload s0_220 rfl ?_
  refine H.lload s0_222 rfl ?_
  refine H.callSD s0_224 (k_16 hw) (m_eq l hw n0 [.inl (0, [(.long w4), (.int p0), (.int (own_cw w3 (own_cw w2 (own_cw w1 (own_cw w0 (own_cw (-1 : Int64) (0 : Int32) w0) w1) w2) w3) w4)), (.long (0 : Int64)), (.long (0 : Int64))])] w3 w4) (argsL := [(.long w3), (.long w4)]) (rest := [(.int ((((1 : Int32) + (own_eq w0 w4)) + (own_eq w1 w4)) + (own_eq w2 w4))), (.int (own_cw w3 (own_cw w2 (own_cw w1 (own_cw w0 (own_cw (-1 : Int64) (0 : Int32) w0) w1) w2) w3) w4))]) rfl rfl rfl rfl (leb rfl) (leb rfl) (leb rfl) (leb rfl) (st' := [(.int (own_eq w3 w4)), (.int ((((1 : Int32) + (own_eq w0 w4)) + (own_eq w1 w4)) + (own_eq w2 w4))), (.int (own_cw w3 (own_cw w2 (own_cw w1 (own_cw w0 (own_cw (-1 : Int64) (0 : Int32) w0) w1) w2) w3) w4))]) rfl (k' := 1) rfl (n' := 5) rfl ?_
  refine H.iadd s0_227 rfl ?_
  refine H.icmpF s0_228 (own_l4 f0.1 f0.2 f1.2 f2.2 f3.2) ?_
  refine H.iconst s0_231 (v := (1 : Int32)) (by decide) ?_
  refine H.goto s0_232 ?_
  refine H.istore s0_236 (ls' := #[.val (.int p0), .val (.long p1), .second, .val (.long p2), .second, .val (.long w4), .second, .val (.long w3), .second, .val (.long w2), .second, .val (.long w1), .second, .val (.long w0), .second, .val (.ref (n0 + 0)), .val (.int (own_cw (-1 : Int64) (0 : Int32) w0)), .val (.int (own_cw w0 (own_cw (-1 : Int64) (0 : Int32) w0) w1)), .val (.int (own_cw w1 (own_cw w0 (own_cw (-1 : Int64) (0 : Int32) w0) w1) w2)), .val (.int (own_cw w2 (own_cw w1 (own_cw w0 (own_cw (-1 : Int64) (0 : Int32) w0) w1) w2) w3)), .val (.int (own_cw w3 (own_cw w2 (own_cw w1 (own_cw w0 (own_cw (-1 : Int64) (0 : Int32) w0) w1) w2) w3) w4)), .val (.int (1 : Int32))]) rfl ?_
  refine H.iload s0_238 rfl ?_
  refine H.ifF s0_240 (show ¬ (1 : Int32) = (0 : Int32) by decide) ?_
  refine H.aload s0_243 rfl rfl ?_
  refine H.callVD s0_245 (k_18 hw) (a_1 l hw n0 p0 w0 w1 w2 w3 w4) (i := 0) rfl (argsL := []) (rest := []) rfl rfl rfl rfl (leb rfl) (leb rfl) (leb rfl) (leb rfl) (st' := [(.int p0)]) rfl (k' := 1) rfl (n' := 5) rfl ?_
  refine H.iloadN s0_248 rfl ?_
  refine H.icmpF s0_249 rfl ?_
  refine H.aload s0_252 rfl rfl ?_
  refine H.callVD s0_254 (k_20 hw) (a_2 l hw n0 p0 w0 w1 w2 w3 w4) (i := 0) rfl (argsL := []) (rest := []) rfl rfl rfl rfl (leb rfl) (leb rfl) (leb rfl) (leb rfl) (st' := [(.long (0 : Int64))]) rfl (k' := 1) rfl (n' := 5) rfl ?_
  refine H.lconst s0_257 (v := (0 : Int64)) (by decide) ?_
  refine H.lifF s0_258 s0_259 (show (0 : Int64) = (0 : Int64) by decide) ?_
  refine H.aload s0_262 rfl rfl ?_
  refine H.callVD s0_264 (k_22 hw) (a_3 l hw n0 p0 w0 w1 w2 w3 w4) (i := 0) rfl (argsL := []) (rest := []) rfl rfl rfl rfl (leb rfl) (leb rfl) (leb rfl) (leb rfl) (st' := [(.long (0 : Int64))]) rfl (k' := 1) rfl (n' := 5) rfl ?_
  refine H.lconst s0_267 (v := (0 : Int64)) (by decide) ?_
  refine H.lifF s0_268 s0_269 (show (0 : Int64) = (0 : Int64) by decide) ?_
  refine H.iconst s0_272 (v := (1 : Int32)) (by decide) ?_
  refine H.goto s0_273 ?_
  exact H.ireturn s0_277 rfl (by simp) rfl rfl (by decide) (by decide)

set_option maxRecDepth 65536 in
set_option maxHeartbeats 40000000 in
theorem comes_1 {Post : Tables → Env → Array Value → State → Outcome → State → Prop} (hpost : ∀ tb e args s v u, (limb_1_1.after args s (.returned v) u = true ∧ limb_1_2.after args s (.returned v) u = true ∧ True) → FrameEnd s (.returned v) u (Jvm.fieldLocs frame_1_writes args s ++ Jvm.arrayLocs frame_1_arrays args s ++ Jvm.staticLocs frame_1_statics s) 16 128 → Post tb e args s (.returned v) u) :
    ArmFor flags0 classFile x code maxLocals ret World_1 tables_1 room_1 Calls_1 rest_1 Pre_1 Post := by
  intro l hfl _ _ p e ha hc hk s m args below hf hA hF happ hP
  obtain ⟨hcalls, hrest, hpre⟩ := hP
  obtain ⟨-, -, -, hnamed, -, -, -, hat⟩ := (Spec.applies_iff hf).mp happ
  obtain ⟨hg, hn⟩ := and_e (Cond.before_iff.mp (show (Jvm.Cond.and given_1 narrow_1).before args s = true from hpre))
  obtain ⟨hc0, hr0⟩ := and_e hg
  obtain ⟨w0, w1, w2, rfl⟩ : ∃ w0 w1 w2 : Value, args = #[w0, w1, w2] := by
    have hs : args.size = 3 := by simpa [Cond.value, given_1] using hc0
    obtain ⟨L⟩ := args
    match L, hs with
    | [w0, w1, w2], _ => exact ⟨w0, w1, w2, rfl⟩
  have hw : HW1 s _ := fun d (hd : d ∈ tables_1) => atoms_spec (ws := Jvm.Cond.code x code maxLocals ret :: tables_1) hat d (List.mem_cons_of_mem _ hd)
  obtain ⟨hx0, hr1⟩ := and_e hr0
  obtain ⟨i0, ee0⟩ := is_v hx0
  obtain rfl : w0 = (.int i0) := Option.some.inj ee0
  obtain ⟨hx1, hr2⟩ := and_e hr1
  obtain ⟨i1, ee1⟩ := isL_v hx1
  obtain rfl : w1 = (.long i1) := Option.some.inj ee1
  have hx2 := hr2
  obtain ⟨i2, ee2⟩ := isL_v hx2
  obtain rfl : w2 = (.long i2) := Option.some.inj ee2
  obtain ⟨n, o, h1, h2, h3, _, L, rfl, ⟨A', rfl, hRel, N⟩, hq⟩ := law_met l hw s.heap.size i0 i1 i2 tables_1 s.heap ⟨rfl, fun i o h => by simp at h⟩ p e ha hc hk s m _ below hf ((Spec.applies_iff_loose hf).mp happ).1 ⟨rfl, State.Warmed39.refl s, rfl⟩ trivial
  refine ⟨n, _, h1, h2, h3, hpost _ _ _ _ _ _ ⟨Cond.after_iff.mpr rfl, Cond.after_iff.mpr (eq_i res_at (Term.int_eval (1)) rfl), trivial⟩ ⟨hq.1, hq.2.1, (hq.2.2.sift fun y hy => Or.inr (N y hy)).mono (by decide) (by decide)⟩⟩
theorem main_1_1 : Claimed_1_1 := comes_1 fun _ _ _ _ _ _ h hF => ⟨h.1, hF⟩
theorem main_1_2 : Claimed_1_2 := comes_1 fun _ _ _ _ _ _ h hF => ⟨h.2.1, hF⟩
end Jvm.Pilot.@@N@@
namespace Jvm.Pilot.@@N@@
open Jvm Jvm.ClassFile Sem Op Lib Jvm.Free Jvm.Stand Jvm.Pilot.@@N@@.Jvm.D
/-! MADE BY PROGRAM (witnessworld.py) out of the Statement's table words and the real class files: 10 classes; the members and pool entries that the words name. The judged class is class 1, her method 2. -/
namespace start1
open Jvm.ClassFile
def u (s : String) : CpInfo := .utf8 (stringToUtf16 s)
/-- a pool by its gaps: so many unusable entries, then the entry; so many at the end -/
def gap : Nat → List CpInfo → List CpInfo
  | 0, r => r
  | n + 1, r => .unusable :: gap n r
def poolList (es : List (Nat × CpInfo)) (last : Nat) : List CpInfo := es.foldr (fun e r => gap e.1 (e.2 :: r)) (gap last [])
def pool (es : List (Nat × CpInfo)) (last : Nat) : Array CpInfo := ⟨poolList es last⟩
def fileOf (pool : Array CpInfo) (this : Nat) (attrs : Array Attribute := #[]) (ms : Array MethodInfo := #[]) (fl : Nat := 33) (sup : Nat := 0) (ifs : Array Nat := #[]) (fds : Array FieldInfo := #[]) : ClassFile where
  minorVersion := 0
  majorVersion := 65
  constantPool := pool
  accessFlags := fl
  thisClass := this
  superClass := sup
  interfaces := ifs
  fields := fds
  methods := ms
  attributes := attrs
def plain (name : String) (sup : Option ClassId) : Class where
  name := name
  kind := .ordinary
  loader := none
  accessFlags := 33
  super := sup
  interfaces := #[]
  cf := none
  fields := #[]
  methods := #[]
  instanceTypes := #[]
  staticTypes := #[]
  resolved := #[]
  callSites := []
  init := .initialized
  statics := none
  mirror := none

def pool0 : Array CpInfo := pool [(5, u "<init>"), (0, u "()V"), (1, .class_ 10), (1, u "java/lang/Object")] 113

def k0c0 : Code := { maxStack := 0, maxLocals := 1, code := object_method_1_code, exceptionTable := #[], attributes := #[] }
def k0m0 : Method := { name := "<init>", desc := "()V", sig := { parameters := [], returnType := none }, accessFlags := 1, code := some k0c0 }
/-- java/lang/Object -/
def k0 : Class := { plain "java/lang/Object" none with
  accessFlags := 33
  interfaces := #[]
  cf := some (fileOf pool0 8 #[] #[{ accessFlags := 1, nameIndex := 5, descriptorIndex := 6, attributes := #[] }] 33 0 #[] #[])
  fields := #[]
  methods := #[k0m0]
  instanceTypes := #[]
  staticTypes := #[]
  resolved := Array.replicate 124 none
  statics := none }

def pool1 : Array CpInfo := pool [(2, .class_ 4), (1, u "java/lang/Object"), (0, u "<init>"), (0, u "()V"), (2, .long 9223372036854775807), (1, .methodref 12 13), (0, .class_ 14), (0, .nameAndType 15 16), (0, u "java/lang/Math"), (0, u "max"), (0, u "(JJ)J"), (0, .long 3), (1, .class_ 20), (0, u "com/example/hotspotless/hotspotless/region/Node"), (0, .methodref 19 22), (0, .nameAndType 5 23), (0, u "(I)V"), (0, .methodref 19 25), (0, .nameAndType 26 27), (0, u "countWindowWrite"), (0, u "(J)I"), (0, .methodref 29 30), (0, .class_ 31), (0, .nameAndType 32 33), (0, u "com/example/hotspotless/hotspotless/region/NodeCountWindowWritePinLaw"), (0, u "eq"), (0, u "(JJ)I"), (0, .methodref 19 35), (0, .nameAndType 36 37), (0, u "number"), (0, u "()I"), (0, .methodref 19 39), (0, .nameAndType 40 41), (0, u "regions"), (0, u "()J"), (0, .methodref 19 43), (0, .nameAndType 44 41), (0, u "writes"), (3, u "law"), (0, u "(IJJ)Z")] 2

def k1m0 : Method := { name := "<init>", desc := "()V", sig := { parameters := [], returnType := none }, accessFlags := 1, code := none }
def k1c1 : Code := { maxStack := 4, maxLocals := 4, code := method_2_code, exceptionTable := #[], attributes := #[] }
def k1m1 : Method := { name := "eq", desc := "(JJ)I", sig := { parameters := [.long, .long], returnType := some .int }, accessFlags := 10, code := some k1c1 }
def k1c2 : Code := { maxStack := 8, maxLocals := 22, code := code, exceptionTable := #[], attributes := #[] }
def k1m2 : Method := { name := "law", desc := "(IJJ)Z", sig := { parameters := [.int, .long, .long], returnType := some .boolean }, accessFlags := 9, code := some k1c2 }
/-- com/example/hotspotless/hotspotless/region/NodeCountWindowWritePinLaw -/
def k1 : Class := { plain "com/example/hotspotless/hotspotless/region/NodeCountWindowWritePinLaw" (some 0) with
  accessFlags := 49
  interfaces := #[]
  cf := some (fileOf pool1 29 #[] #[{ accessFlags := 1, nameIndex := 5, descriptorIndex := 6, attributes := #[] }, { accessFlags := 10, nameIndex := 32, descriptorIndex := 33, attributes := #[] }, { accessFlags := 9, nameIndex := 48, descriptorIndex := 49, attributes := #[] }] 49 2 #[] #[])
  fields := #[]
  methods := #[k1m0, k1m1, k1m2]
  instanceTypes := #[]
  staticTypes := #[]
  resolved := Array.replicate 52 none
  statics := none }

def pool2 : Array CpInfo := pool [(1, .class_ 2), (0, u "java/lang/Math"), (1, .class_ 6), (1, u "java/lang/Object"), (0, u "<init>"), (0, u "()V"), (89, .class_ 100), (1, u "java/lang/Math$RandomNumberGeneratorHolder"), (20, u "(JJ)J"), (50, u "negativeZeroFloatBits"), (0, u "J"), (2, u "negativeZeroDoubleBits"), (21, u "max"), (46, u "$assertionsDisabled"), (0, u "Z"), (91, u "twoToTheDoubleScaleDown"), (0, u "D"), (4, u "twoToTheDoubleScaleUp"), (9, u "E"), (3, u "PI"), (2, u "TAU"), (2, u "DEGREES_TO_RADIANS"), (0, u "RADIANS_TO_DEGREES")] 94

def k2m0 : Method := { name := "<init>", desc := "()V", sig := { parameters := [], returnType := none }, accessFlags := 2, code := none }
def k2c1 : Code := { maxStack := 4, maxLocals := 4, code := jdk_29_method_66_code, exceptionTable := #[], attributes := #[] }
def k2m1 : Method := { name := "max", desc := "(JJ)J", sig := { parameters := [.long, .long], returnType := some .long }, accessFlags := 9, code := some k2c1 }
/-- java/lang/Math -/
def k2 : Class := { plain "java/lang/Math" (some 0) with
  accessFlags := 49
  interfaces := #[]
  cf := some (fileOf pool2 1 #[.nestMembers #[98]] #[{ accessFlags := 2, nameIndex := 7, descriptorIndex := 8, attributes := #[] }, { accessFlags := 9, nameIndex := 198, descriptorIndex := 121, attributes := #[] }] 49 4 #[] #[{ accessFlags := 25, nameIndex := 354, descriptorIndex := 339, attributes := #[] }, { accessFlags := 25, nameIndex := 358, descriptorIndex := 339, attributes := #[] }, { accessFlags := 25, nameIndex := 361, descriptorIndex := 339, attributes := #[] }, { accessFlags := 26, nameIndex := 364, descriptorIndex := 339, attributes := #[] }, { accessFlags := 26, nameIndex := 365, descriptorIndex := 339, attributes := #[] }, { accessFlags := 26, nameIndex := 172, descriptorIndex := 173, attributes := #[] }, { accessFlags := 26, nameIndex := 176, descriptorIndex := 173, attributes := #[] }, { accessFlags := 8, nameIndex := 344, descriptorIndex := 339, attributes := #[] }, { accessFlags := 8, nameIndex := 338, descriptorIndex := 339, attributes := #[] }, { accessFlags := 4120, nameIndex := 245, descriptorIndex := 246, attributes := #[] }])
  fields := #[{ name := "E", type := .double, accessFlags := 25, slot := 0, constantValue := 0 }, { name := "PI", type := .double, accessFlags := 25, slot := 1, constantValue := 0 }, { name := "TAU", type := .double, accessFlags := 25, slot := 2, constantValue := 0 }, { name := "DEGREES_TO_RADIANS", type := .double, accessFlags := 26, slot := 3, constantValue := 0 }, { name := "RADIANS_TO_DEGREES", type := .double, accessFlags := 26, slot := 4, constantValue := 0 }, { name := "negativeZeroFloatBits", type := .long, accessFlags := 26, slot := 5, constantValue := 0 }, { name := "negativeZeroDoubleBits", type := .long, accessFlags := 26, slot := 6, constantValue := 0 }, { name := "twoToTheDoubleScaleUp", type := .double, accessFlags := 8, slot := 7, constantValue := 0 }, { name := "twoToTheDoubleScaleDown", type := .double, accessFlags := 8, slot := 8, constantValue := 0 }, { name := "$assertionsDisabled", type := .boolean, accessFlags := 4120, slot := 9, constantValue := 0 }]
  methods := #[k2m0, k2m1]
  instanceTypes := #[]
  staticTypes := #[.double, .double, .double, .double, .double, .long, .long, .double, .double, .boolean]
  resolved := Array.replicate 460 none
  statics := none }

def pool3 : Array CpInfo := pool [(1, .methodref 2 3), (0, .class_ 4), (0, .nameAndType 5 6), (0, u "java/lang/Object"), (0, u "<init>"), (0, u "()V"), (0, .long 18446744073709551615), (1, .fieldref 10 11), (0, .class_ 12), (0, .nameAndType 13 14), (0, u "com/example/hotspotless/hotspotless/region/Node"), (0, u "window"), (0, u "J"), (0, .fieldref 10 16), (0, .nameAndType 17 18), (0, u "number"), (0, u "I"), (0, .fieldref 10 20), (0, .nameAndType 21 14), (0, u "regions"), (0, .fieldref 10 23), (0, .nameAndType 24 14), (0, u "writes"), (0, .fieldref 10 26), (0, .nameAndType 27 18), (0, u "windowWrites"), (0, u "(I)V"), (2, u "()I"), (0, u "()J"), (2, u "countWindowWrite"), (0, u "(J)I")] 3

def k3c0 : Code := { maxStack := 3, maxLocals := 2, code := prog_103_method_1_code, exceptionTable := #[], attributes := #[] }
def k3m0 : Method := { name := "<init>", desc := "(I)V", sig := { parameters := [.int], returnType := none }, accessFlags := 0, code := some k3c0 }
def k3c1 : Code := { maxStack := 1, maxLocals := 1, code := prog_103_method_2_code, exceptionTable := #[], attributes := #[] }
def k3m1 : Method := { name := "number", desc := "()I", sig := { parameters := [], returnType := some .int }, accessFlags := 1, code := some k3c1 }
def k3c2 : Code := { maxStack := 2, maxLocals := 1, code := prog_103_method_3_code, exceptionTable := #[], attributes := #[] }
def k3m2 : Method := { name := "regions", desc := "()J", sig := { parameters := [], returnType := some .long }, accessFlags := 1, code := some k3c2 }
def k3c3 : Code := { maxStack := 2, maxLocals := 1, code := prog_103_method_4_code, exceptionTable := #[], attributes := #[] }
def k3m3 : Method := { name := "writes", desc := "()J", sig := { parameters := [], returnType := some .long }, accessFlags := 1, code := some k3c3 }
def k3c4 : Code := { maxStack := 4, maxLocals := 3, code := prog_103_method_7_code, exceptionTable := #[], attributes := #[] }
def k3m4 : Method := { name := "countWindowWrite", desc := "(J)I", sig := { parameters := [.long], returnType := some .int }, accessFlags := 0, code := some k3c4 }
/-- com/example/hotspotless/hotspotless/region/Node -/
def k3 : Class := { plain "com/example/hotspotless/hotspotless/region/Node" (some 0) with
  accessFlags := 33
  interfaces := #[]
  cf := some (fileOf pool3 10 #[] #[{ accessFlags := 0, nameIndex := 5, descriptorIndex := 28, attributes := #[] }, { accessFlags := 1, nameIndex := 17, descriptorIndex := 31, attributes := #[] }, { accessFlags := 1, nameIndex := 21, descriptorIndex := 32, attributes := #[] }, { accessFlags := 1, nameIndex := 24, descriptorIndex := 32, attributes := #[] }, { accessFlags := 0, nameIndex := 35, descriptorIndex := 36, attributes := #[] }] 33 2 #[] #[{ accessFlags := 18, nameIndex := 17, descriptorIndex := 18, attributes := #[] }, { accessFlags := 2, nameIndex := 21, descriptorIndex := 14, attributes := #[] }, { accessFlags := 2, nameIndex := 24, descriptorIndex := 14, attributes := #[] }, { accessFlags := 2, nameIndex := 13, descriptorIndex := 14, attributes := #[] }, { accessFlags := 2, nameIndex := 27, descriptorIndex := 18, attributes := #[] }])
  fields := #[{ name := "number", type := .int, accessFlags := 18, slot := 0, constantValue := 0 }, { name := "regions", type := .long, accessFlags := 2, slot := 1, constantValue := 0 }, { name := "writes", type := .long, accessFlags := 2, slot := 2, constantValue := 0 }, { name := "window", type := .long, accessFlags := 2, slot := 3, constantValue := 0 }, { name := "windowWrites", type := .int, accessFlags := 2, slot := 4, constantValue := 0 }]
  methods := #[k3m0, k3m1, k3m2, k3m3, k3m4]
  instanceTypes := #[.int, .long, .long, .long, .int]
  staticTypes := #[]
  resolved := Array.replicate 40 none
  statics := none }

def pool4 : Array CpInfo := pool [(1, u "java/lang/Cloneable"), (0, .class_ 1), (0, u "java/lang/Object"), (0, .class_ 3)] 3

/-- java/lang/Cloneable -/
def k4 : Class := { plain "java/lang/Cloneable" (some 0) with
  accessFlags := 1537
  interfaces := #[]
  cf := some (fileOf pool4 2 #[] #[] 1537 4 #[] #[])
  fields := #[]
  methods := #[]
  instanceTypes := #[]
  staticTypes := #[]
  resolved := Array.replicate 8 none
  statics := none }

def pool5 : Array CpInfo := pool [(1, u "java/io/Serializable"), (0, .class_ 1), (0, u "java/lang/Object"), (0, .class_ 3)] 3

/-- java/io/Serializable -/
def k5 : Class := { plain "java/io/Serializable" (some 0) with
  accessFlags := 1537
  interfaces := #[]
  cf := some (fileOf pool5 2 #[] #[] 1537 4 #[] #[])
  fields := #[]
  methods := #[]
  instanceTypes := #[]
  staticTypes := #[]
  resolved := Array.replicate 8 none
  statics := none }

/-- the primitive byte -/
def k6 : Class := { plain "byte" none with kind := .primitive 'B', accessFlags := 0x411 }
/-- [B -/
def k7 : Class := { plain "[B" (some 0) with kind := .array 6 .byte, interfaces := #[4, 5], accessFlags := 1041 }

/-- the primitive int -/
def k8 : Class := { plain "int" none with kind := .primitive 'I', accessFlags := 0x411 }
/-- [I -/
def k9 : Class := { plain "[I" (some 0) with kind := .array 8 .int, interfaces := #[4, 5], accessFlags := 1041 }

def heap : Heap := #[]
def classes : Array Class := #[k0, k1, k2, k3, k4, k5, k6, k7, k8, k9]
def interned : List (Array UInt16 × Addr) := []
def slotsUsed : Nat := 0
def theMethod : MethodId := ⟨1, 2⟩
def args0 : Array Value := #[.int 5, .long 8, .long 9]
def aboutOver (below : List Frame) : State where
  vm := { classes := classes, interned := interned.toArray }
  heap := heap
  slotsUsed := slotsUsed
  threads := #[{ frames := .invoking theMethod args0 :: below }]
def below0 : List Frame := [.native { method := ⟨0, 0⟩, args := #[] }]
def about1 : State := aboutOver below0
def p0 : Program := .bare "" "" ""
def e0 : Env := launch0.env 0 0 0
theorem w_frames : about1.frames = Frame.invoking theMethod args0 :: below0 := rfl
set_option maxRecDepth 65536 in
theorem w_args : argsFit about1.vm theMethod args0 = true := by decide +kernel
set_option maxRecDepth 65536 in
theorem w_heap : heapFits about1 = true := by decide +kernel
set_option maxRecDepth 65536 in
theorem w_runnable : about1.curStatus? = some .runnable := by decide +kernel
set_option maxRecDepth 65536 in
theorem w_alone : about1.alone = true := by decide +kernel
set_option maxRecDepth 65536 in
theorem w_named : about1.methodNamed? x = some theMethod := by decide +kernel
set_option maxRecDepth 65536 in
theorem w_hears : about1.hears theMethod below0 = true := by decide +kernel
set_option maxRecDepth 65536 in
theorem w_ripe : about1.ripe theMethod args0 below0 = true := by decide +kernel
theorem w_running : about1.status = .running := rfl
set_option maxRecDepth 65536 in
theorem w_room : about1.hasRoom e0.platform room_1 = true :=
  launch0.hasRoom_least _ room_1 (by decide +kernel) (by decide +kernel) (by decide +kernel) (by decide +kernel) (by decide +kernel) (by decide +kernel)
theorem allAtoms_all (ts : List Jvm.Cond) (a : Array Jvm.Value) (st : Jvm.State) : (allAtoms ts).before a st = ts.all (fun c => c.before a st) := by
  induction ts with
  | nil => rfl
  | cons c t ih =>
    show (Jvm.Cond.and c (allAtoms t)).before a st = _
    rw [Jvm.Cond.before_and, ih, List.all_cons]
def words1 : List Jvm.Cond := Jvm.Cond.code x code maxLocals ret :: tables_1
/-- a 'code' word, met by the world's own term for the bytes: nothing is compared byte by byte -/
theorem code_word {y : MethodName} {bytes : ByteArray} {mx : Nat} {rt : Option FieldType} {a : Array Value} {s : State} {m : MethodId} {meth : Method} {c : Code} (h1 : s.methodNamed? y = some m) (h2 : s.vm.method? m = some meth) (h3 : meth.code = some c) (h4 : c.code = bytes)
    (h5 : (c.maxLocals == mx && c.exceptionTable.isEmpty && decide (c.maxStack ≤ mostOperands) && decide (meth.sig.returnType = rt) && !meth.locks && decide (parseMethodDescriptor y.desc = some meth.sig)) = true) : (Jvm.Cond.code y bytes mx rt).before a s = true := by
  simp only [Bool.and_eq_true, beq_iff_eq, Bool.not_eq_true', decide_eq_true_eq] at h5
  obtain ⟨⟨⟨⟨⟨g1, g2⟩, g3⟩, g4⟩, g5⟩, g6⟩ := h5
  simp [Cond.before, Cond.holds, Cond.value, h1, h2, h3, h4, g1, g2, g3, g4, g5, g6]
def isCode : Jvm.Cond → Bool
  | .code _ _ _ _ => true
  | _ => false
theorem all_split {L : List Jvm.Cond} {P : Jvm.Cond → Bool} (h1 : L.all (fun c => isCode c || P c) = true) (h2 : ∀ c ∈ L.filter isCode, P c = true) : L.all P = true := by
  refine List.all_eq_true.mpr fun c hc => ?_
  have h := List.all_eq_true.mp h1 c hc
  rcases Bool.eq_false_or_eq_true (isCode c) with hi | hi
  · exact h2 c (List.mem_filter.mpr ⟨hc, hi⟩)
  · simpa [hi] using h
set_option maxRecDepth 65536 in
theorem w_c0 : (Jvm.Cond.code x code maxLocals ret).before args0 about1 = true := code_word (m := ⟨1, 2⟩) (meth := k1m2) (c := k1c2) (by decide +kernel) rfl rfl rfl (by decide +kernel)
set_option maxRecDepth 65536 in
theorem w_c1 : (Jvm.Cond.code ({ cls := "java/lang/Math", name := "max", desc := "(JJ)J" } : Jvm.MethodName) jdk_29_method_66_code (4 : Nat) (Option.some Jvm.ClassFile.FieldType.long)).before args0 about1 = true := code_word (m := ⟨2, 1⟩) (meth := k2m1) (c := k2c1) (by decide +kernel) rfl rfl rfl (by decide +kernel)
set_option maxRecDepth 65536 in
theorem w_c2 : (Jvm.Cond.code ({ cls := "com/example/hotspotless/hotspotless/region/Node", name := "<init>", desc := "(I)V" } : Jvm.MethodName) prog_103_method_1_code (2 : Nat) (Option.none : Option Jvm.ClassFile.FieldType)).before args0 about1 = true := code_word (m := ⟨3, 0⟩) (meth := k3m0) (c := k3c0) (by decide +kernel) rfl rfl rfl (by decide +kernel)
set_option maxRecDepth 65536 in
theorem w_c3 : (Jvm.Cond.code ({ cls := "java/lang/Object", name := "<init>", desc := "()V" } : Jvm.MethodName) object_method_1_code (1 : Nat) (Option.none : Option Jvm.ClassFile.FieldType)).before args0 about1 = true := code_word (m := ⟨0, 0⟩) (meth := k0m0) (c := k0c0) (by decide +kernel) rfl rfl rfl (by decide +kernel)
set_option maxRecDepth 65536 in
theorem w_c4 : (Jvm.Cond.code ({ cls := "com/example/hotspotless/hotspotless/region/Node", name := "countWindowWrite", desc := "(J)I" } : Jvm.MethodName) prog_103_method_7_code (3 : Nat) (Option.some Jvm.ClassFile.FieldType.int)).before args0 about1 = true := code_word (m := ⟨3, 4⟩) (meth := k3m4) (c := k3c4) (by decide +kernel) rfl rfl rfl (by decide +kernel)
set_option maxRecDepth 65536 in
theorem w_c5 : (Jvm.Cond.code ({ cls := "com/example/hotspotless/hotspotless/region/NodeCountWindowWritePinLaw", name := "eq", desc := "(JJ)I" } : Jvm.MethodName) method_2_code (4 : Nat) (Option.some Jvm.ClassFile.FieldType.int)).before args0 about1 = true := code_word (m := ⟨1, 1⟩) (meth := k1m1) (c := k1c1) (by decide +kernel) rfl rfl rfl (by decide +kernel)
set_option maxRecDepth 65536 in
theorem w_c6 : (Jvm.Cond.code ({ cls := "com/example/hotspotless/hotspotless/region/Node", name := "number", desc := "()I" } : Jvm.MethodName) prog_103_method_2_code (1 : Nat) (Option.some Jvm.ClassFile.FieldType.int)).before args0 about1 = true := code_word (m := ⟨3, 1⟩) (meth := k3m1) (c := k3c1) (by decide +kernel) rfl rfl rfl (by decide +kernel)
set_option maxRecDepth 65536 in
theorem w_c7 : (Jvm.Cond.code ({ cls := "com/example/hotspotless/hotspotless/region/Node", name := "regions", desc := "()J" } : Jvm.MethodName) prog_103_method_3_code (1 : Nat) (Option.some Jvm.ClassFile.FieldType.long)).before args0 about1 = true := code_word (m := ⟨3, 2⟩) (meth := k3m2) (c := k3c2) (by decide +kernel) rfl rfl rfl (by decide +kernel)
set_option maxRecDepth 65536 in
theorem w_c8 : (Jvm.Cond.code ({ cls := "com/example/hotspotless/hotspotless/region/Node", name := "writes", desc := "()J" } : Jvm.MethodName) prog_103_method_4_code (1 : Nat) (Option.some Jvm.ClassFile.FieldType.long)).before args0 about1 = true := code_word (m := ⟨3, 3⟩) (meth := k3m3) (c := k3c3) (by decide +kernel) rfl rfl rfl (by decide +kernel)
def codes1 : List Jvm.Cond := [Jvm.Cond.code x code maxLocals ret, Jvm.Cond.code ({ cls := "java/lang/Math", name := "max", desc := "(JJ)J" } : Jvm.MethodName) jdk_29_method_66_code (4 : Nat) (Option.some Jvm.ClassFile.FieldType.long), Jvm.Cond.code ({ cls := "com/example/hotspotless/hotspotless/region/Node", name := "<init>", desc := "(I)V" } : Jvm.MethodName) prog_103_method_1_code (2 : Nat) (Option.none : Option Jvm.ClassFile.FieldType), Jvm.Cond.code ({ cls := "java/lang/Object", name := "<init>", desc := "()V" } : Jvm.MethodName) object_method_1_code (1 : Nat) (Option.none : Option Jvm.ClassFile.FieldType), Jvm.Cond.code ({ cls := "com/example/hotspotless/hotspotless/region/Node", name := "countWindowWrite", desc := "(J)I" } : Jvm.MethodName) prog_103_method_7_code (3 : Nat) (Option.some Jvm.ClassFile.FieldType.int), Jvm.Cond.code ({ cls := "com/example/hotspotless/hotspotless/region/NodeCountWindowWritePinLaw", name := "eq", desc := "(JJ)I" } : Jvm.MethodName) method_2_code (4 : Nat) (Option.some Jvm.ClassFile.FieldType.int), Jvm.Cond.code ({ cls := "com/example/hotspotless/hotspotless/region/Node", name := "number", desc := "()I" } : Jvm.MethodName) prog_103_method_2_code (1 : Nat) (Option.some Jvm.ClassFile.FieldType.int), Jvm.Cond.code ({ cls := "com/example/hotspotless/hotspotless/region/Node", name := "regions", desc := "()J" } : Jvm.MethodName) prog_103_method_3_code (1 : Nat) (Option.some Jvm.ClassFile.FieldType.long), Jvm.Cond.code ({ cls := "com/example/hotspotless/hotspotless/region/Node", name := "writes", desc := "()J" } : Jvm.MethodName) prog_103_method_4_code (1 : Nat) (Option.some Jvm.ClassFile.FieldType.long)]
set_option maxRecDepth 65536 in
theorem codes_eq : words1.filter isCode = codes1 := rfl
theorem w_codes : ∀ c ∈ words1.filter isCode, c.before args0 about1 = true := by
  rw [codes_eq]
  intro c hc
  simp only [codes1, List.mem_cons, List.not_mem_nil, or_false] at hc
  rcases hc with rfl | rfl | rfl | rfl | rfl | rfl | rfl | rfl | rfl
  · exact w_c0
  · exact w_c1
  · exact w_c2
  · exact w_c3
  · exact w_c4
  · exact w_c5
  · exact w_c6
  · exact w_c7
  · exact w_c8
set_option maxRecDepth 65536 in
theorem w_t1 : (words1.take 24).all (fun c => isCode c || c.before args0 about1) = true := by decide +kernel
set_option maxRecDepth 65536 in
theorem w_t2 : ((words1.drop 24).take 24).all (fun c => isCode c || c.before args0 about1) = true := by decide +kernel
set_option maxRecDepth 65536 in
theorem w_t3 : ((words1.drop 24).drop 24).all (fun c => isCode c || c.before args0 about1) = true := by decide +kernel
theorem w_tables : (allAtoms (Jvm.Cond.code x code maxLocals ret :: tables_1)).before args0 about1 = true := by
  rw [allAtoms_all]
  show words1.all (fun c => c.before args0 about1) = true
  refine all_split ?_ w_codes
  rw [← List.take_append_drop 24 words1, List.all_append, w_t1, ← List.take_append_drop 24 (words1.drop 24), List.all_append, w_t2, w_t3]
  rfl
set_option maxRecDepth 65536 in
theorem w_case : (Jvm.Cond.and given_1 narrow_1).before args0 about1 = true := by decide +kernel
theorem w_applies : (headSpec (Jvm.Cond.code x code maxLocals ret :: tables_1) room_1).applies x e0.platform about1 = true :=
  (Spec.applies_iff w_frames).mpr ⟨w_running, w_runnable, w_alone, w_named, w_hears, w_ripe, w_room, w_tables⟩
theorem atStart : AtStart classFile x code maxLocals ret World_1 tables_1 room_1 Calls_1 rest_1 Pre_1 launch0 p0 e0 about1 theMethod args0 below0 :=
  ⟨lists_1, trivial, launch0.admits_env _ _ _, launch0.least_env, fairChoices_fair.cas, fairChoices_fair.clock, w_frames, w_args, w_heap, w_applies, trivial, trivial, w_case⟩
end start1
theorem witness_1 : WitnessClaimed_1 := ⟨start1.p0, start1.e0, start1.about1, start1.theMethod, start1.args0, start1.below0, start1.atStart⟩
end Jvm.Pilot.@@N@@
